/- Part 8 of what the proof rests on. -/
import Derived.Test.YtgmahieoiifpfaaGreatScR5
import Derived.Test.YtgmahieoiifpfaaGreatScR6
import Derived.Test.YtgmahieoiifpfaaGreatScR7
set_option linter.unusedSimpArgs false
set_option linter.unusedVariables false
set_option maxHeartbeats 8000000
set_option maxRecDepth 100000
namespace Go.Proofs.YtgmahieoiifpfaaGreat
open Go.RowKit
mutual
/-- How two plain values compare. -/
def Zdp : GV → GV → Int
 | .mk k n f s ks l, .mk k' n' f' s' ks' l' =>
  if Zbw (Zbt (.mk k n f s ks l)) (Zbt (.mk k' n' f' s' ks' l')) ≠ 0 then Zbw (Zbt (.mk k n f s ks l)) (Zbt (.mk k' n' f' s' ks' l'))
  else if Zbt (.mk k n f s ks l) = 0 then (if k = 2 ∧ k' = 2 then Zbw n n' else Zkc (asF (.mk k n f s ks l)) (asF (.mk k' n' f' s' ks' l')))
  else if Zbt (.mk k n f s ks l) = 1 then Zdb s s'
  else if Zbt (.mk k n f s ks l) = 2 then Zbw n n'
  else if Zbt (.mk k n f s ks l) = 3 then Zds l l'
  else if Zbt (.mk k n f s ks l) = 4 then Zce ks l ks' l'
  else 0
def Zds : List GV → List GV → Int
 | x :: r, y :: q => if Zdp x y ≠ 0 then Zdp x y else Zds r q
 | [], b => Zbw 0 b.length
 | a, [] => Zbw a.length 0
def Zce : List ByteArray → List GV → List ByteArray → List GV → Int
 | k :: ks, x :: l, k' :: ks', y :: l' => if Zdb k k' ≠ 0 then Zdb k k' else if Zdp x y ≠ 0 then Zdp x y else Zce ks l ks' l'
 | ks, _, ks', _ => Zbw ks.length ks'.length
end
mutual
/-- Every key has a value. -/
def PlG : GV → Prop
 | .mk _ _ _ _ ks l => ks.length ≤ l.length ∧ Zx3 l
def Zx3 : List GV → Prop
 | [] => True
 | x :: r => PlG x ∧ Zx3 r
end
theorem Zrl : ∀ {l : List GV}, Zx3 l → ∀ y ∈ l, PlG y
 | x :: r, h, y, hy => by
  simp only [Zx3] at h
  rcases List.mem_cons.1 hy with rfl | hy
  ·exact h.1
  ·exact Zrl h.2 y hy
theorem Zyi : ∀ {a b : List GV} {i : Nat} {x y : GV}, (∀ j u v, j < i → a[j]? = some u → b[j]? = some v → Zdp u v = 0) → a[i]? = some x → b[i]? = some y → Zdp x y ≠ 0 → Zds a b = Zdp x y
 | x' :: r, y' :: q, 0, x, y, _, hx, hy, h => by
  simp only [List.getElem?_cons_zero, Option.some.injEq] at hx hy
  subst hx hy
  simp only [Zds, if_pos h]
 | x' :: r, y' :: q, i + 1, x, y, hall, hx, hy, h => by
  simp only [Zds]
  rw [if_neg (by rw [hall 0 x' y' (by omega) rfl rfl]; simp)]
  exact Zyi (i := i) (fun j u v hj hu hv => hall (j + 1) u v (by omega) (by simpa using hu) (by simpa using hv)) (by simpa using hx) (by simpa using hy) h
 | [], _, _, _, _, _, hx, _, _ => by simp at hx
 | _ :: _, [], _, _, _, _, _, hy, _ => by simp at hy
theorem Ztx : ∀ {a b : List GV}, (∀ (j : Nat) (u v : GV), a[j]? = some u → b[j]? = some v → Zdp u v = 0) → Zds a b = Zbw a.length b.length
 | [], b, _ => by simp only [Zds]; rfl
 | _ :: _, [], _ => by simp only [Zds]; rfl
 | x :: r, y :: q, h => by
  simp only [Zds]
  rw [if_neg (by rw [h 0 x y rfl rfl]; simp), Ztx (fun j u v hu hv => h (j + 1) u v (by simpa using hu) (by simpa using hv))]
  unfold Zbw
  simp
theorem Yko (l l' : List GV) (ih : ∀ a ∈ l, ∀ b ∈ l', PCall Tryz.prog 246 [qV a, qV b] (.val (.int .i64 (Zdp a b)))) : PCall Tryz.prog 259 [.sl 6 88 (Zb8 l), .sl 6 88 (Zb8 l')] (.val (.int .i64 (Zds l l'))) := by
 refine Zay fun hfit => ?_
 have b1 := (hfit (.sl 6 88 (Zb8 l)) (by simp)).sl.2.1
 rw [Zbu] at b1
 clear hfit
 have hll := Zbu l
 have hll' := Zbu l'
 have cI := Zi0 (((Zb8 l).length : Nat) : Int) (((Zb8 l').length : Nat) : Int)
 refine Zaa Tryz.func259 rfl Tryz.ntmps259 rfl (fun X => ?_)
 refine wk ?_
 refine Zaq (ι := { j : Nat // (j ≤ l.length ∧ j ≤ l'.length) ∧ ∀ i x y, i < j → l[i]? = some x → l'[i]? = some y → Zdp x y = 0 })
  (fun j => [(0, .dat (.sl 6 88 (Zb8 l))), (1, .dat (.sl 6 88 (Zb8 l'))), (5, .dat (.val (.int .i64 (j.1 : Nat))))])
  (fun _ => []) (fun j => l.length - j.1) ⟨0, ⟨Nat.zero_le _, Nat.zero_le _⟩, fun i _ _ h => absurd h (Nat.not_lt_zero i)⟩ id ?_ ?_
 ·exact sb
 rintro ⟨j, ⟨hj, hj'⟩, hall⟩
 have hend : j = l.length ∨ j = l'.length → Zds l l' = Zbw (((Zb8 l).length : Nat) : Int) (((Zb8 l').length : Nat) : Int) := fun h => by
  rw [hll, hll']
  exact Ztx (fun i u v hu hv => hall i u v (by
   have := (List.getElem?_eq_some_iff.1 hu).1
   have := (List.getElem?_eq_some_iff.1 hv).1
   omega) hu hv)
 by_cases hlt : j < l.length
 ·have g1 : decide ((j : Int) < (((Zb8 l).length : Nat) : Int)) = true := decide_eq_true (by omega)
  by_cases hlt' : j < l'.length
  ·have g2 : decide ((j : Int) < (((Zb8 l').length : Nat) : Int)) = true := decide_eq_true (by omega)
   obtain ⟨x, hx⟩ : ∃ x, l[j]? = some x := ⟨_, List.getElem?_eq_getElem hlt⟩
   obtain ⟨y, hy⟩ : ∃ y, l'[j]? = some y := ⟨_, List.getElem?_eq_getElem hlt'⟩
   have i1 : (Zb8 l)[((j : Nat) : Int).toNat]? = some (qV x) := by rw [show qV x = pdV x from (Zf1 x).symm]; exact Zfi hx
   have i2 : (Zb8 l')[((j : Nat) : Int).toNat]? = some (qV y) := by rw [show qV y = pdV y from (Zf1 y).symm]; exact Zfi hy
   have hC := ih x (List.mem_of_getElem? hx) y (List.mem_of_getElem? hy)
   by_cases hr : Zdp x y = 0
   ·have g3 : decide (Zdp x y ≠ 0) = false := decide_eq_false (by simp [hr])
    refine wk ?_
    refine Zan ?_
    refine ⟨⟨j + 1, ⟨by omega, by omega⟩, fun i x' y' hi hx' hy' => ?_⟩, id, by simp only; omega, ?_⟩
    ·by_cases e : i = j
     ·subst e
      rw [hx] at hx'; rw [hy] at hy'
      cases hx'; cases hy'
      exact hr
     ·exact hall i x' y' (by omega) hx' hy'
    exact sb
   ·have g3 : decide (Zdp x y ≠ 0) = true := decide_eq_true hr
    rw [Zyi (fun i u v hi hu hv => hall i u v hi hu hv) hx hy hr]
    exact wke
  ·have g2 : decide ((j : Int) < (((Zb8 l').length : Nat) : Int)) = false := decide_eq_false (by omega)
   rw [hend (.inr (by omega))]
   exact wke
 ·have g1 : decide ((j : Int) < (((Zb8 l).length : Nat) : Int)) = false := decide_eq_false (by omega)
  rw [hend (.inl (by omega))]
  exact wke
theorem Ztz : ∀ {ks ks' : List ByteArray} {l l' : List GV} {i : Nat} {k k' : ByteArray}, ks.length ≤ l.length → ks'.length ≤ l'.length → (∀ j u v x y, j < i → ks[j]? = some u → ks'[j]? = some v → l[j]? = some x → l'[j]? = some y → Zdb u v = 0 ∧ Zdp x y = 0) → ks[i]? = some k → ks'[i]? = some k' → Zdb k k' ≠ 0 → Zce ks l ks' l' = Zdb k k'
 | _ :: ks, _ :: ks', _ :: l, _ :: l', 0, k, k', _, _, _, h1, h2, h => by
  simp only [List.getElem?_cons_zero, Option.some.injEq] at h1 h2
  subst h1 h2
  simp only [Zce, if_pos h]
 | a :: ks, b :: ks', x :: l, y :: l', i + 1, k, k', hl, hl', hall, h1, h2, h => by
  have h0 := hall 0 a b x y (by omega) rfl rfl rfl rfl
  simp only [Zce]
  rw [if_neg (by rw [h0.1]; simp), if_neg (by rw [h0.2]; simp)]
  exact Ztz (i := i) (by simpa using hl) (by simpa using hl') (fun j u v x y hj a1 a2 a3 a4 => hall (j + 1) u v x y (by omega) (by simpa using a1) (by simpa using a2) (by simpa using a3) (by simpa using a4)) (by simpa using h1) (by simpa using h2) h
 | [], _, _, _, _, _, _, _, _, _, h1, _, _ => by simp at h1
 | _ :: _, [], _, _, _, _, _, _, _, _, _, h2, _ => by simp at h2
 | _ :: _, _ :: _, [], _, _, _, _, hl, _, _, _, _, _ => by simp at hl
 | _ :: _, _ :: _, _ :: _, [], _, _, _, _, hl', _, _, _, _ => by simp at hl'
theorem Zt0 : ∀ {ks ks' : List ByteArray} {l l' : List GV} {i : Nat} {k k' : ByteArray} {x y : GV}, ks.length ≤ l.length → ks'.length ≤ l'.length → (∀ j u v x y, j < i → ks[j]? = some u → ks'[j]? = some v → l[j]? = some x → l'[j]? = some y → Zdb u v = 0 ∧ Zdp x y = 0) → ks[i]? = some k → ks'[i]? = some k' → l[i]? = some x → l'[i]? = some y → Zdb k k' = 0 → Zdp x y ≠ 0 → Zce ks l ks' l' = Zdp x y
 | _ :: ks, _ :: ks', _ :: l, _ :: l', 0, k, k', x, y, _, _, _, h1, h2, h3, h4, h, h' => by
  simp only [List.getElem?_cons_zero, Option.some.injEq] at h1 h2 h3 h4
  subst h1 h2 h3 h4
  simp only [Zce]
  rw [if_neg (by rw [h]; simp), if_pos h']
 | a :: ks, b :: ks', x' :: l, y' :: l', i + 1, k, k', x, y, hl, hl', hall, h1, h2, h3, h4, h, h' => by
  have h0 := hall 0 a b x' y' (by omega) rfl rfl rfl rfl
  simp only [Zce]
  rw [if_neg (by rw [h0.1]; simp), if_neg (by rw [h0.2]; simp)]
  exact Zt0 (i := i) (by simpa using hl) (by simpa using hl') (fun j u v x y hj a1 a2 a3 a4 => hall (j + 1) u v x y (by omega) (by simpa using a1) (by simpa using a2) (by simpa using a3) (by simpa using a4)) (by simpa using h1) (by simpa using h2) (by simpa using h3) (by simpa using h4) h h'
 | [], _, _, _, _, _, _, _, _, _, _, _, h1, _, _, _, _, _ => by simp at h1
 | _ :: _, [], _, _, _, _, _, _, _, _, _, _, _, h2, _, _, _, _ => by simp at h2
 | _ :: _, _ :: _, [], _, _, _, _, _, _, hl, _, _, _, _, _, _, _, _ => by simp at hl
 | _ :: _, _ :: _, _ :: _, [], _, _, _, _, _, _, hl', _, _, _, _, _, _, _ => by simp at hl'
theorem Zty : ∀ {ks ks' : List ByteArray} {l l' : List GV}, ks.length ≤ l.length → ks'.length ≤ l'.length → (∀ (j : Nat) (u v : ByteArray) (x y : GV), ks[j]? = some u → ks'[j]? = some v → l[j]? = some x → l'[j]? = some y → Zdb u v = 0 ∧ Zdp x y = 0) → Zce ks l ks' l' = Zbw ks.length ks'.length
 | [], ks', l, l', _, _, _ => by simp only [Zce]
 | _ :: _, [], l, l', _, _, _ => by cases l <;> simp only [Zce]
 | _ :: _, _ :: _, [], _, hl, _, _ => by simp at hl
 | _ :: _, _ :: _, _ :: _, [], _, hl', _ => by simp at hl'
 | a :: ks, b :: ks', x :: l, y :: l', hl, hl', hall => by
  have h0 := hall 0 a b x y rfl rfl rfl rfl
  simp only [Zce]
  rw [if_neg (by rw [h0.1]; simp), if_neg (by rw [h0.2]; simp), Zty (by simpa using hl) (by simpa using hl') (fun j u v x y a1 a2 a3 a4 => hall (j + 1) u v x y (by simpa using a1) (by simpa using a2) (by simpa using a3) (by simpa using a4))]
  unfold Zbw
  simp
theorem Yry (x : GV) : PCall Tryz.prog 93 [qV x] (.val (.bool (Zje x))) := by
 have := Zk3 (P := Tryz.prog) (f := 93) (x := x) (u := .bool (Zje x)) trivial (fun w v hv => (Zxk x).use w v hv)
 rw [Zf1] at this
 exact this
theorem Znf (x : GV) : PCall Tryz.prog 199 [qV x] (.val (.bool (Zb0 x))) := by
 have := Zk3 (P := Tryz.prog) (f := 199) (x := x) (u := .bool (Zb0 x)) trivial (fun w v hv => Ybq x w v hv)
 rw [Zf1] at this
 exact this
theorem Yqt {x : GV} (h : Fits (qV x)) : (Lit.float .f64 x.f).wf = true := by
 obtain ⟨w, F, v, hv⟩ := h.aggAt 2 (d := .val (.float .f64 x.f)) rfl
 unfold Rep at hv
 exact hv.2
theorem Ztm (x : GV) : PCall Tryz.prog 200 [qV x] (.val (.float .f64 (asF x))) := by
 refine Zay fun hf => ?_
 have hx := Yqt (hf _ (List.mem_singleton.2 rfl))
 have := Zk3 (P := Tryz.prog) (f := 200) (x := x) (u := .float .f64 (asF x)) (by
  show (Lit.float .f64 (asF x)).wf = true
  unfold asF
  split
  ·exact floatOfInt_wf _ _
  ·exact hx) (fun w v hv => Znq x w v hv)
 rw [Zf1] at this
 exact this
theorem Zrp (x : GV) : PCall Tryz.prog 72 [qV x] (qV (Zav x)) := Zrq x
mutual
/-- Two plain values are equal. -/
def eqP : GV → GV → Bool
 | .mk k n f s ks l, .mk k' n' f' s' ks' l' =>
  if (Zb0 (.mk k n f s ks l) && Zb0 (.mk k' n' f' s' ks' l')) = true then
   (if k = 2 ∧ k' = 2 then decide (n = n') else feq (asF (.mk k n f s ks l)) (asF (.mk k' n' f' s' ks' l')))
  else decide (k = k') && (decide (n = n') && (decide (s = s') && (decide (ks = ks') && Zib l l')))
def Zib : List GV → List GV → Bool
 | [], [] => true
 | x :: r, y :: q => eqP x y && Zib r q
 | _, _ => false
end
theorem Zy3 : ∀ {a b : List GV}, Zib a b = true → a.length = b.length
 | [], [], _ => rfl
 | x :: r, y :: q, h => by
  unfold Zib at h
  simp only [Bool.and_eq_true] at h
  simp [Zy3 h.2]
 | [], _ :: _, h => by simp [Zib] at h
 | _ :: _, [], h => by simp [Zib] at h
theorem Znz : ∀ {a b : List GV}, a.length = b.length → (∀ (i : Nat) (x y : GV), a[i]? = some x → b[i]? = some y → eqP x y = true) → Zib a b = true
 | [], [], _, _ => by unfold Zib; rfl
 | x :: r, y :: q, hl, h => by
  unfold Zib
  rw [h 0 x y rfl rfl, Znz (by simpa using hl) (fun i x y hx hy => h (i + 1) x y (by simpa using hx) (by simpa using hy))]
  rfl
 | [], _ :: _, hl, _ => by simp at hl
 | _ :: _, [], hl, _ => by simp at hl
theorem Zlr : ∀ {a b : List GV} {i : Nat} {x y : GV}, a[i]? = some x → b[i]? = some y → eqP x y = false → Zib a b = false
 | x' :: r, y' :: q, 0, x, y, hx, hy, h => by
  simp only [List.getElem?_cons_zero, Option.some.injEq] at hx hy
  subst hx hy
  unfold Zib
  rw [h]; rfl
 | x' :: r, y' :: q, i + 1, x, y, hx, hy, h => by
  unfold Zib
  rw [Zlr (by simpa using hx) (by simpa using hy) h]
  simp
 | [], _, _, _, _, hx, _, _ => by simp at hx
 | _ :: _, [], _, _, _, _, hy, _ => by simp at hy
theorem Yir {a b : List GV} (h : Zib a b = true) (i : Nat) (x y : GV) (hx : a[i]? = some x) (hy : b[i]? = some y) : eqP x y = true := by
 cases e : eqP x y with
 | true => rfl
 | false => rw [Zlr hx hy e] at h; cases h
theorem Yna (x y : GV) (h : (Zb0 x && Zb0 y) = true) : PCall Tryz.prog 138 [qV x, qV y] (.val (.bool (eqP x y))) := by
 obtain ⟨k, n, f, s, ks, l⟩ := x
 obtain ⟨k', n', f', s', ks', l'⟩ := y
 have c1 := Znf (.mk k n f s ks l)
 have c2 := Znf (.mk k' n' f' s' ks' l')
 have c3 := Ztm (.mk k n f s ks l)
 have c4 := Ztm (.mk k' n' f' s' ks' l')
 have hn := h
 simp only [Bool.and_eq_true] at hn
 rw [hn.1] at c1
 rw [hn.2] at c2
 have e : eqP (.mk k n f s ks l) (.mk k' n' f' s' ks' l') = if k = 2 ∧ k' = 2 then decide (n = n') else feq (asF (.mk k n f s ks l)) (asF (.mk k' n' f' s' ks' l')) := by
  unfold eqP; rw [if_pos h]
 rw [e]
 clear e h hn
 generalize asF (.mk k n f s ks l) = A at *
 generalize asF (.mk k' n' f' s' ks' l') = B at *
 refine Zaa Tryz.func138 rfl Tryz.ntmps138 rfl (fun X => ?_)
 by_cases hk : k = 2
 ·have q1 : decide (k = 2) = true := by simpa using hk
  by_cases hk' : k' = 2
  ·have q2 : decide (k' = 2) = true := by simpa using hk'
   rw [if_pos ⟨hk, hk'⟩]
   exact wke
  ·have q2 : decide (k' = 2) = false := by simpa using hk'
   rw [if_neg (fun h => hk' h.2)]
   exact wke
 ·have q1 : decide (k = 2) = false := by simpa using hk
  rw [if_neg (fun h => hk h.1)]
  exact wke
theorem Ynb (x y : GV) (h : (Zb0 x && Zb0 y) = false) (ih : ∀ a ∈ x.l, ∀ b ∈ y.l, PCall Tryz.prog 138 [qV a, qV b] (.val (.bool (eqP a b)))) : PCall Tryz.prog 138 [qV x, qV y] (.val (.bool (eqP x y))) := by
 obtain ⟨k, n, f, s, ks, l⟩ := x
 obtain ⟨k', n', f', s', ks', l'⟩ := y
 refine Zay fun hfit => ?_
 have b1 := (Fits.aggAt (hfit (qV (.mk k n f s ks l)) (by simp)) 4 (d := .sl 1 16 (pdS ks)) rfl).sl.2.1
 have b2 := (Fits.aggAt (hfit (qV (.mk k n f s ks l)) (by simp)) 5 (d := .sl 6 88 (Zb8 l)) rfl).sl.2.1
 rw [Zby] at b1
 rw [Zbu] at b2
 clear hfit
 have c1 := Znf (.mk k n f s ks l)
 have c2 := Znf (.mk k' n' f' s' ks' l')
 have e : eqP (.mk k n f s ks l) (.mk k' n' f' s' ks' l') = (decide (k = k') && (decide (n = n') && (decide (s = s') && (decide (ks = ks') && Zib l l')))) := by
  unfold eqP; rw [if_neg (by rw [h]; simp)]
 rw [e]
 clear e
 have ih : ∀ a ∈ l, ∀ b ∈ l', PCall Tryz.prog 138 [qV a, qV b] (.val (.bool (eqP a b))) := ih
 generalize Zb0 (.mk k n f s ks l) = p1 at *
 generalize Zb0 (.mk k' n' f' s' ks' l') = p2 at *
 have hlk := Zby ks
 have hlk' := Zby ks'
 have hll := Zbu l
 have hll' := Zbu l'
 refine Zaa Tryz.func138 rfl Tryz.ntmps138 rfl (fun X => ?_)
 by_cases e1 : k = k'
 rotate_left
 ·have q1 : decide (k ≠ k') = true := by simpa using e1
  rw [show decide (k = k') = false by simpa using e1, Bool.false_and]
  cases p1 <;> cases p2 <;> first | cases h | skip
  all_goals
   exact wke
 have q1 : decide (k ≠ k') = false := by simpa using e1
 rw [show decide (k = k') = true by simpa using e1, Bool.true_and]
 by_cases e2 : n = n'
 rotate_left
 ·have q2 : decide (n ≠ n') = true := by simpa using e2
  rw [show decide (n = n') = false by simpa using e2, Bool.false_and]
  cases p1 <;> cases p2 <;> first | cases h | skip
  all_goals
   exact wke
 have q2 : decide (n ≠ n') = false := by simpa using e2
 rw [show decide (n = n') = true by simpa using e2, Bool.true_and]
 by_cases e3 : s = s'
 rotate_left
 ·have q3 : decide (s ≠ s') = true := by simpa using e3
  rw [show decide (s = s') = false by simpa using e3, Bool.false_and]
  cases p1 <;> cases p2 <;> first | cases h | skip
  all_goals
   exact wke
 have q3 : decide (s ≠ s') = false := by simpa using e3
 rw [show decide (s = s') = true by simpa using e3, Bool.true_and]
 by_cases e4 : ks.length = ks'.length
 rotate_left
 ·have q4 : decide ((((pdS ks).length : Nat) : Int) ≠ (((pdS ks').length : Nat) : Int)) = true := by rw [hlk, hlk']; simp; omega
  rw [show decide (ks = ks') = false by
   simp only [decide_eq_false_iff_not]; exact fun h => e4 (by rw [h]), Bool.false_and]
  cases p1 <;> cases p2 <;> first | cases h | skip
  all_goals
   exact wke
 have q4 : decide ((((pdS ks).length : Nat) : Int) ≠ (((pdS ks').length : Nat) : Int)) = false := by rw [hlk, hlk']; simp; omega
 by_cases e5 : l.length = l'.length
 rotate_left
 ·have q5 : decide ((((Zb8 l).length : Nat) : Int) ≠ (((Zb8 l').length : Nat) : Int)) = true := by rw [hll, hll']; simp; omega
  rw [show Zib l l' = false by
   cases h : Zib l l' with
   | false => rfl
   | true => exact absurd (Zy3 h) e5, Bool.and_false]
  cases p1 <;> cases p2 <;> first | cases h | skip
  all_goals
   exact wke
 have q5 : decide ((((Zb8 l).length : Nat) : Int) ≠ (((Zb8 l').length : Nat) : Int)) = false := by rw [hll, hll']; simp; omega
 refine Zdm (s' := Zh8 [qV (.mk k n f s ks l), qV (.mk k' n' f' s' ks' l')]) (fun _ _ h => h) ?_
 cases p1 <;> cases p2 <;> first | cases h | skip
 all_goals
  refine wk ?_
  refine Zaq (ι := { j : Nat // j ≤ ks.length ∧ ∀ i, i < j → ks[i]? = ks'[i]? })
   (fun j => [(2, .ptr 2 0), (3, .ptr 3 0), (68, .dat (.val (.int .i64 ((pdS ks).length : Nat)))), (69, .dat (.val (.int .i64 (j.1 : Nat))))])
   (fun j => [(2, .box 27 (Zap (qV (.mk k n f s ks l)))), (3, .box 27 (Zap (qV (.mk k' n' f' s' ks' l'))))]) (fun j => ks.length - j.1) ⟨0, Nat.zero_le _, fun i h => absurd h (Nat.not_lt_zero i)⟩ id ?_ ?_
  ·exact sb
  rintro ⟨j, hj, hall⟩
  by_cases hlt : j < ks.length
  ·have hc : decide ((j : Int) < (((pdS ks).length : Nat) : Int)) = true := by rw [hlk]; simpa using hlt
   obtain ⟨x, hx⟩ : ∃ x, ks[j]? = some x := ⟨_, List.getElem?_eq_getElem hlt⟩
   obtain ⟨y, hy⟩ : ∃ y, ks'[j]? = some y := ⟨_, List.getElem?_eq_getElem (e4 ▸ hlt)⟩
   have i1 : (pdS ks)[((j : Nat) : Int).toNat]? = some (.val (.string x)) := Zfb hx
   have i2 : (pdS ks')[((j : Nat) : Int).toNat]? = some (.val (.string y)) := Zfb hy
   by_cases exy : x = y
   ·have q6 : decide (x ≠ y) = false := by simpa using exy
    refine wk ?_
    refine Zan ?_
    refine ⟨⟨j + 1, by omega, fun i hi => ?_⟩, id, by simp only; omega, ?_⟩
    ·by_cases e : i = j
     ·subst e; rw [hx, hy, exy]
     ·exact hall i (by omega)
    exact sb
   ·have q6 : decide (x ≠ y) = true := by simpa using exy
    rw [show decide (ks = ks') = false by
     simp only [decide_eq_false_iff_not]
     intro h; rw [h] at hx; rw [hx] at hy; exact exy (Option.some.inj hy), Bool.false_and]
    exact wke
  ·have hc : decide ((j : Int) < (((pdS ks).length : Nat) : Int)) = false := by rw [hlk]; simpa using hlt
   have ek : ks = ks' := by
    apply List.ext_getElem? 
    intro i
    by_cases hi : i < ks.length
    ·exact hall i (by omega)
    ·rw [List.getElem?_eq_none (by omega), List.getElem?_eq_none (by omega)]
   rw [show decide (ks = ks') = true by simpa using ek, Bool.true_and]
   refine wk ?_
   refine Zaq (ι := { j : Nat // j ≤ l.length ∧ ∀ i x y, i < j → l[i]? = some x → l'[i]? = some y → eqP x y = true })
    (fun j => [(2, .ptr 2 0), (3, .ptr 3 0), (86, .dat (.val (.int .i64 ((Zb8 l).length : Nat)))), (87, .dat (.val (.int .i64 (j.1 : Nat))))])
    (fun j => [(2, .box 27 (Zap (qV (.mk k n f s ks l)))), (3, .box 27 (Zap (qV (.mk k' n' f' s' ks' l'))))]) (fun j => l.length - j.1) ⟨0, Nat.zero_le _, fun i _ _ h => absurd h (Nat.not_lt_zero i)⟩ id ?_ ?_
   ·exact sb
   clear hall hj hc hlt
   rintro ⟨j, hj, hall⟩
   by_cases hlt : j < l.length
   ·have hc : decide ((j : Int) < (((Zb8 l).length : Nat) : Int)) = true := by rw [hll]; simpa using hlt
    obtain ⟨x, hx⟩ : ∃ x, l[j]? = some x := ⟨_, List.getElem?_eq_getElem hlt⟩
    obtain ⟨y, hy⟩ : ∃ y, l'[j]? = some y := ⟨_, List.getElem?_eq_getElem (e5 ▸ hlt)⟩
    have i1 : (Zb8 l)[((j : Nat) : Int).toNat]? = some (qV x) := by rw [show qV x = pdV x from (Zf1 x).symm]; exact Zfi hx
    have i2 : (Zb8 l')[((j : Nat) : Int).toNat]? = some (qV y) := by rw [show qV y = pdV y from (Zf1 y).symm]; exact Zfi hy
    have hC := ih x (List.mem_of_getElem? hx) y (List.mem_of_getElem? hy)
    cases hr : eqP x y with
    | true =>
     rw [hr] at hC
     refine wk ?_
     refine Zan ?_
     refine ⟨⟨j + 1, by omega, fun i x' y' hi hx' hy' => ?_⟩, id, by simp only; omega, ?_⟩
     ·by_cases e : i = j
      ·subst e
       rw [hx] at hx'; rw [hy] at hy'
       cases hx'; cases hy'
       exact hr
      ·exact hall i x' y' (by omega) hx' hy'
     exact sb
    | false =>
     rw [hr] at hC
     rw [Zlr hx hy hr]
     exact wke
   ·have hc : decide ((j : Int) < (((Zb8 l).length : Nat) : Int)) = false := by rw [hll]; simpa using hlt
    rw [Znz e5 (fun i x y hx hy => hall i x y (by have := (List.getElem?_eq_some_iff.1 hx).1; omega) hx hy)]
    exact wke
theorem Yqn : ∀ (x y : GV), PCall Tryz.prog 138 [qV x, qV y] (.val (.bool (eqP x y)))
 | .mk k n f s ks l, y => by
  cases h : Zb0 (.mk k n f s ks l) && Zb0 y with
  | true => exact Yna _ _ h
  | false => exact Ynb _ _ h (fun a ha b _ => Yqn a b)
termination_by x => SizeOf.sizeOf x
decreasing_by
 simp_wf
 have ha : a ∈ l := ha
 have := List.sizeOf_lt_of_mem ha
 omega
theorem Zy4 (x y : GV) : PCall Tryz.prog 75 [qV x, qV y] (.val (.bool (eqP (Zav x) (Zav y)))) := by
 have c1 := Zrp x
 have c2 := Zrp y
 have c3 := Yqn (Zav x) (Zav y)
 refine Zaa Tryz.func75 rfl Tryz.ntmps75 rfl (fun X => ?_)
 exact wke
end Go.Proofs.YtgmahieoiifpfaaGreat
section
namespace Go.Proofs.YtgmahieoiifpfaaGreat
open Ieee
structure Tri (p q r : Int) : Prop where
 rp : p = -1 ∨ p = 0 ∨ p = 1
 rq : q = -1 ∨ q = 0 ∨ q = 1
 rr : r = -1 ∨ r = 0 ∨ r = 1
 zp : p = 0 → r = q
 zq : q = 0 → r = p
 lt : p = -1 → q = -1 → r = -1
 gt : p = 1 → q = 1 → r = 1
def rng (p : Int) : Prop := p = -1 ∨ p = 0 ∨ p = 1
def lx (a r : Int) : Int := if a ≠ 0 then a else r
theorem Zg7 {a r : Int} (h : rng a) (h' : rng r) : rng (lx a r) := by
 unfold rng lx at *
 split <;> assumption
theorem Zjl {a b c p q r : Int} (h : Tri a b c) (hp : rng p) (hq : rng q) (hr : rng r) (h' : a = 0 → b = 0 → Tri p q r) : Tri (lx a p) (lx b q) (lx c r) := by
 obtain ⟨h1, h2, h3, h4, h5, h6, h7⟩ := h
 unfold rng at *
 unfold lx
 by_cases ha : a = 0
 ·by_cases hb : b = 0
  ·have hc : c = 0 := by rw [h4 ha, hb]
   rw [if_neg (by simp [ha]), if_neg (by simp [hb]), if_neg (by simp [hc])]
   exact h' ha hb
  ·have hc := h4 ha
   rw [if_neg (by simp [ha]), if_pos hb, if_pos (by rw [hc]; exact hb), hc]
   constructor <;> omega
 ·by_cases hb : b = 0
  ·have hc := h5 hb
   rw [if_pos ha, if_neg (by simp [hb]), if_pos (by rw [hc]; exact ha), hc]
   constructor <;> omega
  ·rw [if_pos ha, if_pos hb]
   by_cases hc : c = 0
   ·rw [if_neg (by simp [hc])]
    constructor <;> omega
   ·rw [if_pos hc]
    constructor <;> omega
theorem Zc4 (a b : Int) : rng (Zbw a b) := by
 unfold Zbw rng
 split
 ·exact .inl rfl
 ·split
  ·exact .inr (.inr rfl)
  ·exact .inr (.inl rfl)
theorem Zel (a b c : Int) : Tri (Zbw a b) (Zbw b c) (Zbw a c) := by
 have e : ∀ x y : Int, (Zbw x y = -1 ∧ x < y) ∨ (Zbw x y = 0 ∧ x = y) ∨ (Zbw x y = 1 ∧ y < x) := fun x y => by
  unfold Zbw
  by_cases h : x < y
  ·rw [if_pos h]; exact .inl ⟨rfl, h⟩
  ·rw [if_neg h]
   by_cases h' : y < x
   ·rw [if_pos h']; exact .inr (.inr ⟨rfl, h'⟩)
   ·rw [if_neg h']; exact .inr (.inl ⟨rfl, by omega⟩)
 have e1 := e a b
 have e2 := e b c
 have e3 := e a c
 constructor <;> omega
theorem Zdf (a b : Int) : Zbw b a = - Zbw a b := by
 unfold Zbw
 by_cases h : a < b
 ·rw [if_pos h, if_neg (by omega), if_pos h]; rfl
 ·by_cases h' : b < a
  ·rw [if_pos h', if_neg h, if_pos h']
  ·rw [if_neg h', if_neg h, if_neg h, if_neg h']; rfl
theorem cmpI_zero {a b : Int} : Zbw a b = 0 ↔ a = b := by
 unfold Zbw
 by_cases h : a < b
 ·rw [if_pos h]; constructor <;> intro h' <;> omega
 ·rw [if_neg h]
  by_cases h' : b < a
  ·rw [if_pos h']; constructor <;> intro h' <;> omega
  ·rw [if_neg h']; constructor <;> intro h' <;> omega
theorem Zh6 (a b : ByteArray) : rng (Zdb a b) := by
 unfold Zdb rng
 split
 ·exact .inl rfl
 ·split
  ·exact .inr (.inr rfl)
  ·exact .inr (.inl rfl)
theorem Zi3 (a b : ByteArray) : (Zdb a b = -1 ∧ blt a b = true) ∨ (Zdb a b = 0 ∧ a = b) ∨ (Zdb a b = 1 ∧ blt b a = true) := by
 unfold Zdb
 cases h : blt a b with
 | true => exact .inl ⟨rfl, rfl⟩
 | false =>
  cases h' : blt b a with
  | true => exact .inr (.inr ⟨rfl, rfl⟩)
  | false => exact .inr (.inl ⟨rfl, Zgf h h'⟩)
theorem cmpS_zero {a b : ByteArray} : Zdb a b = 0 ↔ a = b := by
 constructor
 ·intro h
  rcases Zi3 a b with h' | h' | h'
  ·omega
  ·exact h'.2
  ·omega
 ·rintro rfl
  rcases Zi3 a a with h' | h' | h'
  ·rw [Zbb] at h'; cases h'.2
  ·exact h'.1
  ·rw [Zbb] at h'; cases h'.2
theorem Zgi (a b : ByteArray) : Zdb b a = - Zdb a b := by
 rcases Zi3 a b with h | h | h
 ·rw [h.1]; unfold Zdb; rw [if_neg (by rw [Zfr h.2]; simp), if_pos h.2]; rfl
 ·rw [h.1, h.2]; rw [cmpS_zero.2 rfl]; rfl
 ·rw [h.1]; unfold Zdb; rw [if_pos h.2]
theorem Zm0 {a b : ByteArray} (h : Zdb a b = -1) : blt a b = true := by
 rcases Zi3 a b with h' | h' | h'
 ·exact h'.2
 ·omega
 ·omega
theorem Znl (a b c : ByteArray) : Tri (Zdb a b) (Zdb b c) (Zdb a c) := by
 refine ⟨Zh6 _ _, Zh6 _ _, Zh6 _ _, fun h => ?_, fun h => ?_, fun h h' => ?_, fun h h' => ?_⟩
 ·rw [cmpS_zero.1 h]
 ·rw [cmpS_zero.1 h]
 ·unfold Zdb; rw [if_pos (Zb9 (Zm0 h) (Zm0 h'))]
 ·have h1 := Zgi a b
  have h2 := Zgi b c
  have h3 := Zgi a c
  have : Zdb c a = -1 := by
   unfold Zdb; rw [if_pos (Zb9 (Zm0 (a := c) (b := b) (by omega)) (Zm0 (a := b) (b := a) (by omega)))]
  omega
theorem Zmo (s : Bool) (m u k : Nat) : signed s m (u + k) = signed s m u * (2 ^ k : Nat) := by
 unfold signed
 have : m <<< (u + k) = (m <<< u) * 2 ^ k := by rw [Nat.shiftLeft_eq, Nat.shiftLeft_eq, Nat.pow_add, Nat.mul_assoc]
 rw [this]
 cases s
 ·simp only [Bool.false_eq_true, if_false]; push_cast; rfl
 ·simp only [if_true]; push_cast; rw [Int.neg_mul]
def Yte : Datum → Int × Int
 | .infinity s => (if s then -1 else 1, 0)
 | .number s m p => (0, signed s m (p + 1074).toNat)
 | .nan _ _ => (0, 0)
def Ymj (a b : Int × Int) : Int := lx (Zbw a.1 b.1) (Zbw a.2 b.2)
theorem Yky (a b c : Int × Int) : Tri (Ymj a b) (Ymj b c) (Ymj a c) := Zjl (Zel _ _ _) (Zc4 _ _) (Zc4 _ _) (Zc4 _ _) (fun _ _ => Zel _ _ _)
theorem Zyd {a b : Int} (k : Nat) (hk : 0 < k) : Zbw (a * (k : Int)) (b * (k : Int)) = Zbw a b := by
 unfold Zbw
 have hk : (0 : Int) < k := by omega
 have e : ∀ x y : Int, x * (k : Int) < y * (k : Int) ↔ x < y := fun x y => ⟨fun h => Int.lt_of_mul_lt_mul_right h (Int.le_of_lt hk), fun h => Int.mul_lt_mul_of_pos_right h hk⟩
 simp only [e]
def Yj7 : Option Ordering → Int
 | some .lt => -1
 | some .gt => 1
 | _ => 0
theorem Ziv (a b : Int) : Yj7 (some (compare a b)) = Zbw a b := by
 unfold Zbw
 by_cases h : a < b
 ·rw [if_pos h, show compare a b = .lt from Int.compare_eq_lt.2 h]; rfl
 ·rw [if_neg h]
  by_cases h' : b < a
  ·rw [if_pos h', show compare a b = .gt from Int.compare_eq_gt.2 h']; rfl
  ·rw [if_neg h', show compare a b = .eq from Int.compare_eq_eq.2 (by omega)]; rfl
def okD : Datum → Prop
 | .number _ _ p => -1074 ≤ p
 | .infinity _ => True
 | .nan _ _ => False
theorem Yf5 {d e : Datum} (hd : okD d) (he : okD e) : Yj7 (d.order e) = Ymj (Yte d) (Yte e) := by
 cases d with
 | nan _ _ => exact hd.elim
 | infinity s =>
  cases e with
  | nan _ _ => exact he.elim
  | infinity t => cases s <;> cases t <;> rfl
  | number t n j => cases s <;> rfl
 | number s m i =>
  cases e with
  | nan _ _ => exact he.elim
  | infinity t => cases t <;> rfl
  | number t n j =>
   have hd : -1074 ≤ i := hd
   have he : -1074 ≤ j := he
   show Yj7 (some (compare (signed s m (i - min i j).toNat) (signed t n (j - min i j).toNat))) = lx (Zbw 0 0) (Zbw (signed s m (i + 1074).toNat) (signed t n (j + 1074).toNat))
   rw [Ziv]
   have e1 : (i + 1074).toNat = (i - min i j).toNat + (min i j + 1074).toNat := by omega
   have e2 : (j + 1074).toNat = (j - min i j).toNat + (min i j + 1074).toNat := by omega
   rw [e1, e2, Zmo, Zmo, Zyd _ (Nat.two_pow_pos _)]
   rw [cmpI_zero.2 rfl]
   rfl
theorem Yjw {f : Nat} (h : ∀ s r, FloatKind.f64.format.read f ≠ .nan s r) : okD (FloatKind.f64.format.read f) := by
 have hp : FloatKind.f64.format.leastPlace = -1074 := by decide
 have : ∀ d, d = FloatKind.f64.format.read f → okD d := by
  intro d h0
  have hd := h0
  unfold Format.read at hd
  simp only at hd
  split at hd
  ·subst hd; show -1074 ≤ FloatKind.f64.format.leastPlace; omega
  ·split at hd
   ·subst hd; show -1074 ≤ FloatKind.f64.format.leastPlace + _; omega
   ·split at hd
    ·subst hd; trivial
    ·exact absurd (h0.symm.trans hd) (h _ _)
 exact this _ rfl
def Yhs (f : Nat) : Int × Int := Yte (FloatKind.f64.format.read f)
theorem Yqs {f : Nat} (h : feq f f = true) : okD (FloatKind.f64.format.read f) := by
 refine Yjw fun s r e => ?_
 unfold feq Format.order at h
 rw [e] at h
 cases h
theorem Ybw (f g : Nat) (hf : okD (FloatKind.f64.format.read f)) (hg : okD (FloatKind.f64.format.read g)) : Yj7 (FloatKind.f64.format.order f g) = Ymj (Yhs f) (Yhs g) := Yf5 hf hg
theorem Zii (a b : Nat) : Zkc a b = Yj7 (FloatKind.f64.format.order a b) := by
 unfold Zkc
 cases FloatKind.f64.format.order a b with
 | none => rfl
 | some o => cases o <;> rfl
theorem Yby (d e : Datum) : Yj7 (e.order d) = - Yj7 (d.order e) := by
 cases d with
 | nan _ _ => cases e <;> rfl
 | infinity s =>
  cases e with
  | nan _ _ => rfl
  | infinity t => cases s <;> cases t <;> rfl
  | number t n j => cases s <;> rfl
 | number s m i =>
  cases e with
  | nan _ _ => rfl
  | infinity t => cases t <;> rfl
  | number t n j =>
   show Yj7 (some (compare (signed t n (j - min j i).toNat) (signed s m (i - min j i).toNat))) = - Yj7 (some (compare (signed s m (i - min i j).toNat) (signed t n (j - min i j).toNat)))
   rw [Ziv, Ziv, show min j i = min i j by omega, Zdf]
theorem Ya6 (a b : Nat) : Zkc b a = - Zkc a b := by rw [Zii, Zii]; exact Yby _ _
theorem Ygk (a b : Nat) : rng (Zkc a b) := by
 rw [Zii]
 unfold rng
 cases FloatKind.f64.format.order a b with
 | none => exact .inr (.inl rfl)
 | some o => cases o <;> decide
theorem Yis {f g : Nat} (hf : okD (FloatKind.f64.format.read f)) (hg : okD (FloatKind.f64.format.read g)) : feq f g = true ↔ Zkc f g = 0 := by
 rw [Zii]
 unfold feq
 cases h : FloatKind.f64.format.order f g with
 | none =>
  exfalso
  unfold Format.order at h
  revert h
  generalize FloatKind.f64.format.read f = d at *
  generalize FloatKind.f64.format.read g = e at *
  cases d <;> cases e <;> intro h <;> first | exact hf | exact hg | cases h
 | some o => cases o <;> decide
theorem Ygb {s : Bool} {r : Nat} (h1 : 2 ^ 52 ≤ r) (h2 : r < 2047 * 2 ^ 52) : FloatKind.f64.format.read (FloatKind.f64.format.word s r) = .number s (2 ^ 52 + r % 2 ^ 52) (-1074 + (r / 2 ^ 52 - 1 : Nat)) := by
 have e1 : FloatKind.f64.format.signWeight = 2 ^ 63 := by decide
 have e2 : FloatKind.f64.format.binade = 2 ^ 52 := by decide
 have e3 : FloatKind.f64.format.infRung = 2047 * 2 ^ 52 := by decide
 have e4 : FloatKind.f64.format.leastPlace = -1074 := by decide
 unfold Format.read Format.word
 rw [e1, e2, e3, e4]
 have hr : (if s then 2 ^ 63 + r else r) % 2 ^ 63 = r := by cases s <;> simp <;> omega
 have hn : ((if s then 2 ^ 63 + r else r) / 2 ^ 63 % 2 == 1) = s := by
  cases s
  ·have : r / 2 ^ 63 = 0 := by omega
   simp only [Bool.false_eq_true, if_false, this]; rfl
  ·have : (2 ^ 63 + r) / 2 ^ 63 = 1 := by omega
   simp only [if_true, this]; rfl
 simp only [hr, hn]
 rw [if_neg (by omega), if_pos h2]
theorem Yid (s : Bool) (n : Nat) : Toward.even.cut s n 0 = n := by
 unfold Toward.cut
 simp [Nat.mod_one]
theorem Yn5 {n : Int} (h1 : -9007199254740992 ≤ n) (h2 : n ≤ 9007199254740992) : Yhs (floatOfInt .f64 n) = (0, n * (2 ^ 1074 : Nat)) ∧ okD (FloatKind.f64.format.read (floatOfInt .f64 n)) := by
 by_cases h0 : n = 0
 ·subst h0
  have e : FloatKind.f64.format.read (floatOfInt .f64 0) = .number false 0 (-1074) := by decide +kernel
  unfold Yhs
  rw [e]
  exact ⟨by decide +kernel, Int.le_refl _⟩
 by_cases h3 : n = 9007199254740992
 ·subst h3
  have e : FloatKind.f64.format.read (floatOfInt .f64 9007199254740992) = .number false (2 ^ 52) 1 := by decide +kernel
  unfold Yhs
  rw [e]
  exact ⟨by decide +kernel, by unfold okD; omega⟩
 by_cases h4 : n = -9007199254740992
 ·subst h4
  have e : FloatKind.f64.format.read (floatOfInt .f64 (-9007199254740992)) = .number true (2 ^ 52) 1 := by decide +kernel
  unfold Yhs
  rw [e]
  exact ⟨by decide +kernel, by unfold okD; omega⟩
 obtain ⟨m, hm⟩ : ∃ m, m = n.natAbs := ⟨_, rfl⟩
 have hm0 : m ≠ 0 := by omega
 have hm1 : m < 2 ^ 53 := by omega
 obtain ⟨L, hL⟩ : ∃ L, L = m.log2 := ⟨_, rfl⟩
 have hL1 : 2 ^ L ≤ m := by rw [hL]; exact Nat.log2_self_le hm0
 have hL2 : m < 2 ^ (L + 1) := by rw [hL]; exact Nat.lt_log2_self
 have hL3 : L ≤ 52 := by
  have : 2 ^ L < 2 ^ 53 := by omega
  have := (Nat.pow_lt_pow_iff_right (by decide : 1 < 2)).1 this
  omega
 obtain ⟨E, hE⟩ : ∃ E, E = 1074 := ⟨_, rfl⟩
 have e5 : 52 - L + (L + 1022) = E := by omega
 obtain ⟨s, hs⟩ : ∃ s : Bool, s = decide (n < 0) := ⟨_, rfl⟩
 have e1 : FloatKind.f64.format.leastPlace = -1074 := by decide
 have e2 : FloatKind.f64.format.binade = 2 ^ 52 := by decide
 have e3 : FloatKind.f64.format.infRung = 2047 * 2 ^ 52 := by decide
 have e4 : FloatKind.f64.format.fractionBits = 52 := by decide
 obtain ⟨K, hK⟩ : ∃ K, K = m * 2 ^ (52 - L) := ⟨_, rfl⟩
 have hp : 2 ^ 52 = 2 ^ L * 2 ^ (52 - L) := by rw [← Nat.pow_add]; congr 1; omega
 have hp' : 2 ^ 53 = 2 ^ (L + 1) * 2 ^ (52 - L) := by rw [← Nat.pow_add]; congr 1; omega
 have hK1 : 2 ^ 52 ≤ K := by rw [hK, hp]; exact Nat.mul_le_mul_right _ hL1
 have hK2 : K < 2 ^ 53 := by rw [hK, hp']; exact Nat.mul_lt_mul_of_pos_right hL2 (Nat.two_pow_pos _)
 have hw : floatOfInt .f64 n = FloatKind.f64.format.word s ((L + 1022) * 2 ^ 52 + K) := by
  show FloatKind.f64.format.nearest (decide (n < 0)) n.natAbs 0 = _
  rw [← hs, ← hm]
  unfold Format.nearest
  rw [if_neg hm0, e1, e2, e3, e4, ← hL]
  have hl : max (0 + (L : Int) - (52 : Nat)) (-1074) = (L : Int) - 52 := by omega
  simp only [hl]
  rw [show ((0 : Int) - ((L : Int) - 52)).toNat = 52 - L by omega, show ((L : Int) - 52 - 0).toNat = 0 by omega, show ((L : Int) - 52 - -1074).toNat = L + 1022 by omega, Yid, Nat.shiftLeft_eq, ← hK, Nat.min_eq_left (by omega)]
 have hr := Ygb (s := s) (r := (L + 1022) * 2 ^ 52 + K) (by omega) (by omega)
 rw [show 2 ^ 52 + ((L + 1022) * 2 ^ 52 + K) % 2 ^ 52 = K by omega, show ((L + 1022) * 2 ^ 52 + K) / 2 ^ 52 - 1 = L + 1022 by omega] at hr
 unfold Yhs
 rw [hw, hr]
 refine ⟨?_, by show (-1074 : Int) ≤ _; omega⟩
 show ((0 : Int), signed s K (-1074 + ((L + 1022 : Nat) : Int) + 1074).toNat) = _
 rw [show (-1074 + ((L + 1022 : Nat) : Int) + 1074).toNat = L + 1022 by omega]
 rw [← hE]
 have hsh : K <<< (L + 1022) = m * 2 ^ E := by
  rw [Nat.shiftLeft_eq, hK, Nat.mul_assoc, ← Nat.pow_add]
  rw [e5]
 unfold signed
 rw [hsh]
 subst hs
 generalize 2 ^ E = B
 by_cases hn : n < 0
 ·have hmn : -(m : Int) = n := by clear hsh; omega
  rw [decide_eq_true hn, if_pos rfl, Int.natCast_mul, ← Int.neg_mul, hmn]
 ·have hmn : (m : Int) = n := by clear hsh; omega
  rw [decide_eq_false hn, if_neg (by simp), Int.natCast_mul, hmn]
end Go.Proofs.YtgmahieoiifpfaaGreat
end
section
namespace Go.Proofs.YtgmahieoiifpfaaGreat
theorem Zkt (a r : Int) : lx (-a) (-r) = - lx a r := by
 unfold lx
 by_cases h : a = 0
 ·rw [if_neg (by simp [h]), if_neg (by simp [h])]
 ·rw [if_pos (by omega), if_pos h]
theorem Zeh {a r : Int} (h : a ≠ 0) : lx a r = a := if_pos h
theorem Zci {a r : Int} (h : a = 0) : lx a r = r := if_neg (by simp [h])
theorem Zc9 {a r : Int} : lx a r = 0 ↔ a = 0 ∧ r = 0 := by
 unfold lx
 by_cases h : a = 0
 ·rw [if_neg (by simp [h])]; simp [h]
 ·rw [if_pos h]; simp [h]
def Zwn (x y : GV) : Int := if x.kind = 2 ∧ y.kind = 2 then Zbw x.n y.n else Zkc (asF x) (asF y)
def Zrn (r : Int) (x y : GV) : Int := if r = 0 then Zwn x y else if r = 1 then Zdb x.s y.s else if r = 2 then Zbw x.n y.n else if r = 3 then Zds x.l y.l else if r = 4 then Zce x.keys x.l y.keys y.l else 0
theorem Zjq (x y : GV) : Zdp x y = lx (Zbw (Zbt x) (Zbt y)) (Zrn (Zbt x) x y) := by
 cases x; cases y
 simp only [Zdp]
 rfl
theorem Zep (x y : GV) (r q : List GV) : Zds (x :: r) (y :: q) = lx (Zdp x y) (Zds r q) := by simp only [Zds]; rfl
theorem Zff (k k' : ByteArray) (ks ks' : List ByteArray) (x y : GV) (r q : List GV) : Zce (k :: ks) (x :: r) (k' :: ks') (y :: q) = lx (Zdb k k') (lx (Zdp x y) (Zce ks r ks' q)) := by simp only [Zce]; rfl
theorem Zc6 (b : List GV) : Zds [] b = Zbw 0 b.length := by simp only [Zds]
theorem Zd4 (a : List GV) : Zds a [] = Zbw a.length 0 := by cases a <;> simp only [Zds] <;> rfl
theorem Zgg {a b : Int} (h : a < b) : Zbw a b = -1 := if_pos h
theorem Zfe {a b : Int} (h : b < a) : Zbw a b = 1 := by unfold Zbw; rw [if_neg (by omega), if_pos h]
theorem Yc6 (a : Int) : Zbw a a = 0 := cmpI_zero.2 rfl
theorem Zmm : ∀ {a b : List GV}, (∀ x ∈ a, ∀ y, rng (Zdp x y)) → rng (Zds a b)
 | [], b, _ => by rw [Zc6]; exact Zc4 _ _
 | a :: r, [], _ => by rw [Zd4]; exact Zc4 _ _
 | x :: r, y :: q, h => by rw [Zep]; exact Zg7 (h x (by simp) y) (Zmm fun z hz => h z (by simp [hz]))
theorem Zq5 : ∀ {ks : List ByteArray} {a : List GV} {ks' : List ByteArray} {b : List GV}, (∀ x ∈ a, ∀ y, rng (Zdp x y)) → rng (Zce ks a ks' b)
 | [], _, _, _, _ => by simp only [Zce]; exact Zc4 _ _
 | _ :: _, [], _, _, _ => by simp only [Zce]; exact Zc4 _ _
 | _ :: _, _ :: _, [], _, _ => by simp only [Zce]; exact Zc4 _ _
 | _ :: _, _ :: _, _ :: _, [], _ => by simp only [Zce]; exact Zc4 _ _
 | k :: ks, x :: r, k' :: ks', y :: q, h => by
  rw [Zff]
  exact Zg7 (Zh6 _ _) (Zg7 (h x (by simp) y) (Zq5 fun z hz => h z (by simp [hz])))
theorem Ygl (x y : GV) : rng (Zwn x y) := by
 unfold Zwn
 split
 ·exact Zc4 _ _
 ·exact Ygk _ _
theorem Zni (r : Int) {x y : GV} (h : ∀ z ∈ x.l, ∀ u, rng (Zdp z u)) : rng (Zrn r x y) := by
 unfold Zrn
 split
 ·exact Ygl _ _
 ·split
  ·exact Zh6 _ _
  ·split
   ·exact Zc4 _ _
   ·split
    ·exact Zmm h
    ·split
     ·exact Zq5 h
     ·exact .inr (.inl rfl)
theorem Yr5 {x z : GV} (h : z ∈ x.l) : SizeOf.sizeOf z < SizeOf.sizeOf x := by
 cases x
 have := List.sizeOf_lt_of_mem h
 simp only [GV.mk.sizeOf_spec]
 have e : ∀ (k n : Int) (f : Nat) (s : ByteArray) (ks : List ByteArray) (l : List GV), (GV.mk k n f s ks l).l = l := fun _ _ _ _ _ _ => rfl
 rw [e] at this
 omega
theorem Ziy (x y : GV) : rng (Zdp x y) := by
 induction hk : SizeOf.sizeOf x using Nat.strongRecOn generalizing x y with
 | _ n IH =>
 subst hk
 rw [Zjq]
 exact Zg7 (Zc4 _ _) (Zni _ fun z hz u => IH _ (Yr5 hz) z u rfl)
theorem Yg9 : ∀ {a b : List GV}, (∀ x ∈ a, ∀ y, Zdp y x = - Zdp x y) → Zds b a = - Zds a b
 | [], b, _ => by rw [Zc6, Zd4, Zdf]
 | a :: r, [], _ => by rw [Zc6, Zd4, Zdf]
 | x :: r, y :: q, h => by rw [Zep, Zep, h x (by simp), Yg9 fun z hz => h z (by simp [hz]), Zkt]
theorem Yha : ∀ {ks : List ByteArray} {a : List GV} {ks' : List ByteArray} {b : List GV}, (∀ x ∈ a, ∀ y, Zdp y x = - Zdp x y) → Zce ks' b ks a = - Zce ks a ks' b
 | [], a, ks', b, _ => by cases ks' <;> cases b <;> cases a <;> simp only [Zce] <;> exact Zdf _ _
 | k :: ks, [], ks', b, _ => by cases ks' <;> cases b <;> simp only [Zce] <;> exact Zdf _ _
 | _ :: _, _ :: _, [], b, _ => by cases b <;> simp only [Zce] <;> exact Zdf _ _
 | _ :: _, _ :: _, _ :: _, [], _ => by simp only [Zce]; exact Zdf _ _
 | k :: ks, x :: r, k' :: ks', y :: q, h => by
  rw [Zff, Zff, Zgi k k', h x (by simp), Yha fun z hz => h z (by simp [hz]), Zkt, Zkt]
theorem Yr3 (x y : GV) : Zdp y x = - Zdp x y := by
 induction hk : SizeOf.sizeOf x using Nat.strongRecOn generalizing x y with
 | _ n IH =>
 subst hk
 rw [Zjq, Zjq, Zdf (Zbt x)]
 by_cases hr : Zbt x = Zbt y
 ·have hb : Zrn (Zbt y) y x = - Zrn (Zbt x) x y := by
   rw [← hr]
   unfold Zrn
   split
   ·unfold Zwn
    by_cases h : x.kind = 2 ∧ y.kind = 2
    ·rw [if_pos h, if_pos ⟨h.2, h.1⟩, Zdf]
    ·rw [if_neg h, if_neg (fun h' => h ⟨h'.2, h'.1⟩), Ya6]
   ·split
    ·exact Zgi _ _
    ·split
     ·exact Zdf _ _
     ·split
      ·exact Yg9 fun z hz u => IH _ (Yr5 hz) z u rfl
      ·split
       ·exact Yha fun z hz u => IH _ (Yr5 hz) z u rfl
       ·rfl
  rw [hb, Zkt]
 ·have h1 : Zbw (Zbt x) (Zbt y) ≠ 0 := fun h => hr (cmpI_zero.1 h)
  rw [Zeh (by omega), Zeh h1]
mutual
/-- A plain value without NaN and whole numbers beyond 2^53. -/
def OG : GV → Prop
 | .mk k n f s ks l => OGs l ∧ ((k = 0 ∧ n = 0 ∧ s = ByteArray.empty ∧ ks = [] ∧ l = []) ∨ (k = 1 ∧ s = ByteArray.empty ∧ ks = [] ∧ l = []) ∨ (k = 2 ∧ -9007199254740992 ≤ n ∧ n ≤ 9007199254740992) ∨ (k = 3 ∧ feq f f = true)
  ∨ (k = 4 ∧ n = 0 ∧ ks = [] ∧ l = []) ∨ (k = 5 ∧ n = 0 ∧ s = ByteArray.empty ∧ ks = []) ∨ (k = 6 ∧ n = 0 ∧ s = ByteArray.empty ∧ Zf2 ks ∧ ks.length = l.length))
def OGs : List GV → Prop
 | [] => True
 | x :: r => OG x ∧ OGs r
end
theorem Ycr : ∀ {l : List GV}, OGs l → ∀ y ∈ l, OG y
 | x :: r, h, y, hy => by
  simp only [OGs] at h
  rcases List.mem_cons.1 hy with rfl | hy
  ·exact h.1
  ·exact Ycr h.2 y hy
theorem Yk5 : ∀ {l : List GV}, (∀ y ∈ l, OG y) → OGs l
 | [], _ => by simp only [OGs]
 | x :: r, h => by simp only [OGs]; exact ⟨h x (by simp), Yk5 fun y hy => h y (by simp [hy])⟩
theorem OG.subs {x : GV} (h : OG x) : ∀ y ∈ x.l, OG y := by
 cases x
 unfold OG at h
 exact Ycr h.1
def Yrn (x : GV) : Int × Int := if x.kind = 2 then (0, x.n * (2 ^ 1074 : Nat)) else Yhs x.f
theorem Zsy (k n : Int) (f : Nat) (s : ByteArray) (ks : List ByteArray) (l : List GV) : Zbt (.mk k n f s ks l) = if k = 2 then 0 else if k = 3 then 0 else if k = 4 then 1 else if k = 1 then 2 else if k = 5 then 3 else if k = 6 then 4 else 5 := rfl
theorem OG.num {x : GV} (h : OG x) (hr : Zbt x = 0) : Yhs (asF x) = Yrn x ∧ Ieee.Datum.order (FloatKind.f64.format.read (asF x)) = Ieee.Datum.order (FloatKind.f64.format.read (asF x)) ∧ okD (FloatKind.f64.format.read (asF x)) ∧ (x.kind = 2 ∨ x.kind = 3) := by
 obtain ⟨k, n, f, s, ks, l⟩ := x
 unfold OG at h
 have e : asF (.mk k n f s ks l) = if k = 2 then floatOfInt .f64 n else f := rfl
 have e2 : Yrn (.mk k n f s ks l) = if k = 2 then (0, n * (2 ^ 1074 : Nat)) else Yhs f := rfl
 rw [e, e2]
 rw [Zsy] at hr
 obtain ⟨_, h⟩ := h
 rcases h with h | h | h | h | h | h | h <;> obtain ⟨rfl, h⟩ := h
 ·exact absurd hr (by decide)
 ·exact absurd hr (by decide)
 ·obtain ⟨h1, h2⟩ := Yn5 h.1 h.2
  rw [if_pos rfl, if_pos rfl]
  exact ⟨h1, rfl, h2, .inl rfl⟩
 ·rw [if_neg (by decide), if_neg (by decide)]
  exact ⟨rfl, rfl, Yqs h, .inr rfl⟩
 ·exact absurd hr (by decide)
 ·exact absurd hr (by decide)
 ·exact absurd hr (by decide)
theorem Zny {x y : GV} (hx : OG x) (hy : OG y) (h1 : Zbt x = 0) (h2 : Zbt y = 0) : Zwn x y = Ymj (Yrn x) (Yrn y) := by
 obtain ⟨a1, _, a2, _⟩ := hx.num h1
 obtain ⟨b1, _, b2, _⟩ := hy.num h2
 unfold Zwn
 by_cases h : x.kind = 2 ∧ y.kind = 2
 ·rw [if_pos h]
  unfold Yrn Ymj
  rw [if_pos h.1, if_pos h.2]
  have hB := Nat.two_pow_pos 1074
  generalize 2 ^ 1074 = B at *
  show _ = lx (Zbw 0 0) (Zbw (x.n * (B : Int)) (y.n * (B : Int)))
  rw [Zci (Yc6 0)]
  exact (Zyd _ hB).symm
 ·rw [if_neg h, Zii, Ybw _ _ a2 b2, a1, b1]
theorem Ylz : ∀ {a b c : List GV}, (∀ x ∈ a, ∀ y ∈ b, ∀ z ∈ c, Tri (Zdp x y) (Zdp y z) (Zdp x z)) → Tri (Zds a b) (Zds b c) (Zds a c)
 | [], b, [], _ => by
  rw [Zc6, Zc6, Zd4]
  exact Zel 0 b.length 0
 | [], [], z :: c, _ => by
  rw [Zc6, Zc6]
  exact Zel 0 0 _
 | [], y :: b, z :: c, _ => by
  rw [Zc6, Zc6, Zgg (by first | (simp; done) | (simp; omega)), Zgg (by first | (simp; done) | (simp; omega))]
  have := Zmm (a := y :: b) (b := z :: c) (fun x _ y => Ziy x y)
  unfold rng at this
  constructor <;> omega
 | x :: a, [], c, _ => by
  rw [Zd4, Zc6, Zfe (by first | (simp; done) | (simp; omega))]
  have h1 := Zmm (a := x :: a) (b := c) (fun x _ y => Ziy x y)
  have h2 := Zc4 0 c.length
  unfold rng at h1 h2
  cases c with
  | nil => rw [show Zbw 0 ((([] : List GV).length : Nat) : Int) = 0 from rfl, Zd4, Zfe (by first | (simp; done) | (simp; omega))]; constructor <;> omega
  | cons z c => rw [Zgg (by first | (simp; done) | (simp; omega))]; constructor <;> omega
 | x :: a, y :: b, [], _ => by
  rw [Zd4, Zd4, Zfe (by first | (simp; done) | (simp; omega)), Zfe (by first | (simp; done) | (simp; omega))]
  have h1 := Zmm (a := x :: a) (b := y :: b) (fun x _ y => Ziy x y)
  unfold rng at h1
  constructor <;> omega
 | x :: a, y :: b, z :: c, h => by
  rw [Zep, Zep, Zep]
  exact Zjl (h x (by simp) y (by simp) z (by simp)) (Zmm fun x _ y => Ziy x y) (Zmm fun x _ y => Ziy x y) (Zmm fun x _ y => Ziy x y) (fun _ _ => Ylz fun x hx y hy z hz => h x (by simp [hx]) y (by simp [hy]) z (by simp [hz]))
theorem Zed {ks : List ByteArray} {b : List GV} (a : List GV) : Zce [] a ks b = Zbw 0 ks.length := by simp only [Zce]; rfl
theorem Zgb {ks : List ByteArray} {a : List GV} (b : List GV) : Zce ks a [] b = Zbw ks.length 0 := by cases ks <;> cases a <;> simp only [Zce] <;> rfl
theorem Yl0 : ∀ {k1 : List ByteArray} {a : List GV} {k2 : List ByteArray} {b : List GV} {k3 : List ByteArray} {c : List GV}, k1.length = a.length → k2.length = b.length → k3.length = c.length → (∀ x ∈ a, ∀ y ∈ b, ∀ z ∈ c, Tri (Zdp x y) (Zdp y z) (Zdp x z)) → Tri (Zce k1 a k2 b) (Zce k2 b k3 c) (Zce k1 a k3 c)
 | [], a, k2, b, [], c, _, _, _, _ => by
  rw [Zed, Zed, Zgb]
  exact Zel 0 k2.length 0
 | [], a, [], b, z :: k3, c, _, _, _, _ => by
  rw [Zed, Zed, Zed]
  exact Zel 0 0 _
 | [], a, y :: k2, b, z :: k3, c, _, _, _, _ => by
  rw [Zed, Zed, Zgg (by first | (simp; done) | (simp; omega)), Zgg (by first | (simp; done) | (simp; omega))]
  have := Zq5 (ks := y :: k2) (a := b) (ks' := z :: k3) (b := c) (fun x _ y => Ziy x y)
  unfold rng at this
  constructor <;> omega
 | x :: k1, a, [], b, k3, c, _, _, _, _ => by
  rw [Zgb, Zed, Zfe (by first | (simp; done) | (simp; omega))]
  have h1 := Zq5 (ks := x :: k1) (a := a) (ks' := k3) (b := c) (fun x _ y => Ziy x y)
  have h2 := Zc4 0 k3.length
  unfold rng at h1 h2
  cases k3 with
  | nil => rw [show Zbw 0 ((([] : List ByteArray).length : Nat) : Int) = 0 from rfl, Zgb, Zfe (by first | (simp; done) | (simp; omega))]; constructor <;> omega
  | cons z c => rw [Zgg (by first | (simp; done) | (simp; omega))]; constructor <;> omega
 | x :: k1, a, y :: k2, b, [], c, _, _, _, _ => by
  rw [Zgb, Zgb, Zfe (by first | (simp; done) | (simp; omega)), Zfe (by first | (simp; done) | (simp; omega))]
  have h1 := Zq5 (ks := x :: k1) (a := a) (ks' := y :: k2) (b := b) (fun x _ y => Ziy x y)
  unfold rng at h1
  constructor <;> omega
 | u :: k1, x :: a, v :: k2, y :: b, w :: k3, z :: c, h1, h2, h3, h => by
  rw [Zff, Zff, Zff]
  have R : ∀ (ks : List ByteArray) (a : List GV) (ks' : List ByteArray) (b : List GV), rng (Zce ks a ks' b) := fun _ _ _ _ => Zq5 fun x _ y => Ziy x y
  exact Zjl (Znl u v w) (Zg7 (Ziy _ _) (R _ _ _ _)) (Zg7 (Ziy _ _) (R _ _ _ _)) (Zg7 (Ziy _ _) (R _ _ _ _)) (fun _ _ =>
   Zjl (h x (by simp) y (by simp) z (by simp)) (R _ _ _ _) (R _ _ _ _) (R _ _ _ _) (fun _ _ => Yl0 (by simpa using h1) (by simpa using h2) (by simpa using h3) fun x hx y hy z hz => h x (by simp [hx]) y (by simp [hy]) z (by simp [hz])))
 | u :: k1, [], _, _, _, _, h1, _, _, _ => by simp at h1
 | _ :: _, _ :: _, v :: k2, [], _, _, _, h2, _, _ => by simp at h2
 | _ :: _, _ :: _, _ :: _, _ :: _, w :: k3, [], _, _, h3, _ => by simp at h3
theorem OG.keys {x : GV} (h : OG x) (hr : Zbt x = 4) : x.keys.length = x.l.length ∧ Zf2 x.keys := by
 obtain ⟨k, n, f, s, ks, l⟩ := x
 unfold OG at h
 rw [Zsy] at hr
 obtain ⟨_, h⟩ := h
 rcases h with h | h | h | h | h | h | h <;> obtain ⟨rfl, h⟩ := h
 ·exact absurd hr (by decide)
 ·exact absurd hr (by decide)
 ·exact absurd hr (by decide)
 ·exact absurd hr (by decide)
 ·exact absurd hr (by decide)
 ·exact absurd hr (by decide)
 ·exact ⟨h.2.2.2, h.2.2.1⟩
theorem Ytm (x y z : GV) (hx : OG x) (hy : OG y) (hz : OG z) : Tri (Zdp x y) (Zdp y z) (Zdp x z) := by
 induction hk : SizeOf.sizeOf x using Nat.strongRecOn generalizing x y z with
 | _ n IH =>
 subst hk
 rw [Zjq, Zjq, Zjq]
 refine Zjl (Zel _ _ _) (Zni _ fun z _ u => Ziy z u) (Zni _ fun z _ u => Ziy z u) (Zni _ fun z _ u => Ziy z u) fun h1 h2 => ?_
 have h1 := cmpI_zero.1 h1
 have h2 := cmpI_zero.1 h2
 have ih : ∀ a ∈ x.l, ∀ b ∈ y.l, ∀ c ∈ z.l, Tri (Zdp a b) (Zdp b c) (Zdp a c) := fun a ha b hb c hc => IH _ (Yr5 ha) a b c (hx.subs a ha) (hy.subs b hb) (hz.subs c hc) rfl
 unfold Zrn
 rw [← h1]
 split
 ·rename_i h0
  rw [Zny hx hy h0 (by omega), Zny hy hz (by omega) (by omega), Zny hx hz h0 (by omega)]
  exact Yky _ _ _
 ·split
  ·exact Znl _ _ _
  ·split
   ·exact Zel _ _ _
   ·split
    ·exact Ylz ih
    ·split
     ·rename_i h4
      exact Yl0 (hx.keys h4).1 (hy.keys (by omega)).1 (hz.keys (by omega)).1 ih
     ·constructor <;> omega
end Go.Proofs.YtgmahieoiifpfaaGreat
end
namespace Go.Proofs.YtgmahieoiifpfaaGreat
open Go.RowKit
theorem Yoy (k n : Int) (f : Nat) (s : ByteArray) (ks : List ByteArray) (l : List GV) (k' n' : Int) (f' : Nat) (s' : ByteArray) (ks' : List ByteArray) (l' : List GV) (hL : ks.length ≤ l.length) (hL' : ks'.length ≤ l'.length) (ih : ∀ a ∈ l, ∀ b ∈ l', PCall Tryz.prog 246 [qV a, qV b] (.val (.int .i64 (Zdp a b)))) :
  PCall Tryz.prog 260 [qV (.mk k n f s ks l), qV (.mk k' n' f' s' ks' l')] (.val (.int .i64 (Zce ks l ks' l'))) := by
 refine Zay fun hfit => ?_
 have b1 := (Fits.aggAt (hfit (qV (.mk k n f s ks l)) (by simp)) 4 (d := .sl 1 16 (pdS ks)) rfl).sl.2.1
 rw [Zby] at b1
 clear hfit
 have hlk := Zby ks
 have hlk' := Zby ks'
 have cI := Zi0 (((pdS ks).length : Nat) : Int) (((pdS ks').length : Nat) : Int)
 refine Zaa Tryz.func260 rfl Tryz.ntmps260 rfl (fun X => ?_)
 refine wk ?_
 refine Zaq (ι := { j : Nat // (j ≤ ks.length ∧ j ≤ ks'.length) ∧ ∀ i u v x y, i < j → ks[i]? = some u → ks'[i]? = some v → l[i]? = some x → l'[i]? = some y → Zdb u v = 0 ∧ Zdp x y = 0 })
  (fun j => [(2, .ptr 2 0), (3, .ptr 3 0), (5, .dat (.val (.int .i64 (j.1 : Nat))))])
  (fun _ => [(2, .box 27 (Zap (qV (.mk k n f s ks l)))), (3, .box 27 (Zap (qV (.mk k' n' f' s' ks' l'))))]) (fun j => ks.length - j.1) ⟨0, ⟨Nat.zero_le _, Nat.zero_le _⟩, fun i _ _ _ _ h => absurd h (Nat.not_lt_zero i)⟩ id ?_ ?_
 ·exact sb
 rintro ⟨j, ⟨hj, hj'⟩, hall⟩
 have hend : j = ks.length ∨ j = ks'.length → Zce ks l ks' l' = Zbw (((pdS ks).length : Nat) : Int) (((pdS ks').length : Nat) : Int) := fun h => by
  rw [hlk, hlk']
  exact Zty hL hL' (fun i u v x y hu hv => hall i u v x y (by
   have := (List.getElem?_eq_some_iff.1 hu).1
   have := (List.getElem?_eq_some_iff.1 hv).1
   omega) hu hv)
 by_cases hlt : j < ks.length
 ·have g1 : decide ((j : Int) < (((pdS ks).length : Nat) : Int)) = true := decide_eq_true (by omega)
  by_cases hlt' : j < ks'.length
  ·have g2 : decide ((j : Int) < (((pdS ks').length : Nat) : Int)) = true := decide_eq_true (by omega)
   obtain ⟨u, hu⟩ : ∃ u, ks[j]? = some u := ⟨_, List.getElem?_eq_getElem hlt⟩
   obtain ⟨v, hv⟩ : ∃ v, ks'[j]? = some v := ⟨_, List.getElem?_eq_getElem hlt'⟩
   obtain ⟨x, hx⟩ : ∃ x, l[j]? = some x := ⟨_, List.getElem?_eq_getElem (by omega)⟩
   obtain ⟨y, hy⟩ : ∃ y, l'[j]? = some y := ⟨_, List.getElem?_eq_getElem (by omega)⟩
   have k1 : (pdS ks)[((j : Nat) : Int).toNat]? = some (.val (.string u)) := Zfb hu
   have k2 : (pdS ks')[((j : Nat) : Int).toNat]? = some (.val (.string v)) := Zfb hv
   have i1 : (Zb8 l)[((j : Nat) : Int).toNat]? = some (qV x) := by rw [show qV x = pdV x from (Zf1 x).symm]; exact Zfi hx
   have i2 : (Zb8 l')[((j : Nat) : Int).toNat]? = some (qV y) := by rw [show qV y = pdV y from (Zf1 y).symm]; exact Zfi hy
   have hC := ih x (List.mem_of_getElem? hx) y (List.mem_of_getElem? hy)
   have hS := Zpn u v
   by_cases hs : Zdb u v = 0
   ·have g3 : decide (Zdb u v ≠ 0) = false := decide_eq_false (by simp [hs])
    by_cases hr : Zdp x y = 0
    ·have g4 : decide (Zdp x y ≠ 0) = false := decide_eq_false (by simp [hr])
     refine wk ?_
     refine Zan ?_
     refine ⟨⟨j + 1, ⟨by omega, by omega⟩, fun i u' v' x' y' hi hu' hv' hx' hy' => ?_⟩, id, by simp only; omega, ?_⟩
     ·by_cases e : i = j
      ·subst e
       rw [hu] at hu'; rw [hv] at hv'
       rw [hx] at hx'; rw [hy] at hy'
       cases hu'; cases hv'
       cases hx'; cases hy'
       exact ⟨hs, hr⟩
      ·exact hall i u' v' x' y' (by omega) hu' hv' hx' hy'
     exact sb
    ·have g4 : decide (Zdp x y ≠ 0) = true := decide_eq_true hr
     rw [Zt0 hL hL' (fun i u v x y hi => hall i u v x y hi) hu hv hx hy hs hr]
     exact wke
   ·have g3 : decide (Zdb u v ≠ 0) = true := decide_eq_true hs
    rw [Ztz hL hL' (fun i u v x y hi => hall i u v x y hi) hu hv hs]
    exact wke
  ·have g2 : decide ((j : Int) < (((pdS ks').length : Nat) : Int)) = false := decide_eq_false (by omega)
   rw [hend (.inr (by omega))]
   exact wke
 ·have g1 : decide ((j : Int) < (((pdS ks).length : Nat) : Int)) = false := decide_eq_false (by omega)
  rw [hend (.inl (by omega))]
  exact wke
theorem Yng {x : GV} (h : Fits (qV x)) : (Lit.float .f64 x.f).wf = true := by
 obtain ⟨w, F, v, hv⟩ := h.aggAt 2 (d := .val (.float .f64 x.f)) rfl
 unfold Rep at hv
 exact hv.2
theorem Zq9 (x : GV) : PCall Tryz.prog 200 [qV x] (.val (.float .f64 (asF x))) := by
 refine Zay fun hf => ?_
 have hx := Yng (hf _ (List.mem_singleton.2 rfl))
 have := Zk3 (P := Tryz.prog) (f := 200) (x := x) (u := .float .f64 (asF x)) (by
  show (Lit.float .f64 (asF x)).wf = true
  unfold asF
  split
  ·exact floatOfInt_wf _ _
  ·exact hx) (fun w v hv => Znq x w v hv)
 rw [Zf1] at this
 exact this
theorem Yb2 (x : GV) : Zbt x = 0 ∨ Zbt x = 1 ∨ Zbt x = 2 ∨ Zbt x = 3 ∨ Zbt x = 4 ∨ Zbt x = 5 := by
 unfold Zbt
 repeat' split
 all_goals simp
theorem Ygw (x y : GV) (hx : PlG x) (hy : PlG y) (ih : ∀ a ∈ x.l, ∀ b ∈ y.l, PCall Tryz.prog 246 [qV a, qV b] (.val (.int .i64 (Zdp a b)))) : PCall Tryz.prog 246 [qV x, qV y] (.val (.int .i64 (Zdp x y))) := by
 obtain ⟨k, n, f, s, ks, l⟩ := x
 obtain ⟨k', n', f', s', ks', l'⟩ := y
 simp only [PlG] at hx hy
 have c1 := Ygx (.mk k n f s ks l)
 have c2 := Ygx (.mk k' n' f' s' ks' l')
 have c3 := Zi0 (Zbt (.mk k n f s ks l)) (Zbt (.mk k' n' f' s' ks' l'))
 have c4 := Zq9 (.mk k n f s ks l)
 have c5 := Zq9 (.mk k' n' f' s' ks' l')
 have c6 := Ygv (asF (.mk k n f s ks l)) (asF (.mk k' n' f' s' ks' l'))
 have c7 := Zpn s s'
 have c8 := Zi0 n n'
 have c9 := Yko l l' ih
 have c10 := Yoy k n f s ks l k' n' f' s' ks' l' hx.1 hy.1 ih
 have hr := Yb2 (.mk k n f s ks l)
 rw [show Zdp (.mk k n f s ks l) (.mk k' n' f' s' ks' l') = if Zbw (Zbt (.mk k n f s ks l)) (Zbt (.mk k' n' f' s' ks' l')) ≠ 0 then Zbw (Zbt (.mk k n f s ks l)) (Zbt (.mk k' n' f' s' ks' l'))
  else if Zbt (.mk k n f s ks l) = 0 then (if k = 2 ∧ k' = 2 then Zbw n n' else Zkc (asF (.mk k n f s ks l)) (asF (.mk k' n' f' s' ks' l')))
  else if Zbt (.mk k n f s ks l) = 1 then Zdb s s'
  else if Zbt (.mk k n f s ks l) = 2 then Zbw n n'
  else if Zbt (.mk k n f s ks l) = 3 then Zds l l'
  else if Zbt (.mk k n f s ks l) = 4 then Zce ks l ks' l'
  else 0 by simp only [Zdp]]
 clear ih hx hy
 generalize Zbt (.mk k n f s ks l) = r at *
 generalize Zbt (.mk k' n' f' s' ks' l') = r' at *
 generalize asF (.mk k n f s ks l) = A at *
 generalize asF (.mk k' n' f' s' ks' l') = B at *
 generalize Zbw r r' = R at *
 generalize Zbw n n' = R2 at *
 refine Zaa Tryz.func246 rfl Tryz.ntmps246 rfl (fun X => ?_)
 by_cases h0 : R = 0
 rotate_left
 ·have g0 : decide (R ≠ 0) = true := decide_eq_true h0
  rw [if_pos h0]
  exact wke
 have g0 : decide (R ≠ 0) = false := decide_eq_false (by simp [h0])
 rw [if_neg (by simp [h0])]
 rcases hr with hr | hr | hr | hr | hr | hr <;> subst hr
 ·rw [if_pos rfl]
  by_cases e1 : k = 2
  ·have q1 : decide (k = 2) = true := decide_eq_true e1
   by_cases e2 : k' = 2
   ·have q2 : decide (k' = 2) = true := decide_eq_true e2
    rw [if_pos ⟨e1, e2⟩]
    exact wke
   ·have q2 : decide (k' = 2) = false := decide_eq_false e2
    rw [if_neg (fun h => e2 h.2)]
    exact wke
  ·have q1 : decide (k = 2) = false := decide_eq_false e1
   rw [if_neg (fun h => e1 h.1)]
   exact wke
 ·rw [if_neg (by decide), if_pos rfl]
  exact wke
 ·rw [if_neg (by decide), if_neg (by decide), if_pos rfl]
  exact wke
 ·rw [if_neg (by decide), if_neg (by decide), if_neg (by decide), if_pos rfl]
  exact wke
 ·rw [if_neg (by decide), if_neg (by decide), if_neg (by decide), if_neg (by decide), if_pos rfl]
  exact wke
 ·rw [if_neg (by decide), if_neg (by decide), if_neg (by decide), if_neg (by decide), if_neg (by decide)]
  exact wke
theorem Yaf : ∀ (x y : GV), PlG x → PlG y → PCall Tryz.prog 246 [qV x, qV y] (.val (.int .i64 (Zdp x y)))
 | .mk k n f s ks l, .mk k' n' f' s' ks' l', hx, hy => Ygw _ _ hx hy (fun a ha b hb => Yaf a b (Zrl (by simp only [PlG] at hx; exact hx.2) a ha) (Zrl (by simp only [PlG] at hy; exact hy.2) b hb))
termination_by x => SizeOf.sizeOf x
decreasing_by
 simp_wf
 have ha : a ∈ l := ha
 have := List.sizeOf_lt_of_mem ha
 omega
theorem Yp5 : ∀ j : JV, JOk j → PlG (unJ j) := by
 intro j
 induction hk : SizeOf.sizeOf j using Nat.strongRecOn generalizing j with
 | _ n IH =>
 subst hk
 intro hj
 cases j with
 | list l =>
  unfold JOk at hj
  rw [show unJ (.list l) = .mk 5 0 0 ByteArray.empty [] (Zg1 l) by unfold unJ; rfl]
  unfold PlG
  refine ⟨by simp, ?_⟩
  have : ∀ (r : List JV), (∀ y ∈ r, y ∈ l) → Znn r → Zx3 (Zg1 r) := by
   intro r
   induction r with
   | nil => intro _ _; simp only [Zg1, Zx3]
   | cons x r ih =>
    intro h hr
    simp only [Znn] at hr
    simp only [Zg1, Zx3]
    exact ⟨IH (SizeOf.sizeOf x) (by have := List.sizeOf_lt_of_mem (h x (by simp)); simp; omega) x rfl hr.1, ih (fun y hy => h y (by simp [hy])) hr.2⟩
  exact this l (fun _ h => h) hj.2
 | map m =>
  unfold JOk at hj
  obtain ⟨ks, l, e, hi, hl, hk, hg⟩ := Zh9 hj.1
  rw [show unJ (.map m) = unM m gMap by unfold unJ; rfl, e]
  unfold PlG
  refine ⟨by omega, ?_⟩
  have key : ∀ x ∈ l, PlG x := by
   intro x hx
   obtain ⟨i, hi⟩ := List.getElem?_of_mem hx
   have hil := (List.getElem?_eq_some_iff.1 hi).1
   obtain ⟨k, hkk⟩ : ∃ k, ks[i]? = some k := ⟨_, List.getElem?_eq_getElem (by omega)⟩
   obtain ⟨j, hj1, hj2⟩ := (hg k x).1 ⟨i, hkk, hi⟩
   rw [← hj2]
   have hm := Zdd hj1
   refine IH (SizeOf.sizeOf j) ?_ j rfl (Zes hj.2.2 _ hm)
   have := List.sizeOf_lt_of_mem hm
   simp at this ⊢
   omega
  clear hg hl e
  induction l with
  | nil => simp only [Zx3]
  | cons x r ih => simp only [Zx3]; exact ⟨key x (by simp), ih (fun y hy => key y (by simp [hy]))⟩
 | null => rw [show unJ .null = .mk 0 0 0 ByteArray.empty [] [] by unfold unJ; rfl]; unfold PlG; exact ⟨by simp, by simp only [Zx3]⟩
 | bool b => rw [show unJ (.bool b) = .mk 1 (if b then 1 else 0) 0 ByteArray.empty [] [] by unfold unJ; rfl]; unfold PlG; exact ⟨by simp, by simp only [Zx3]⟩
 | int b => rw [show unJ (.int b) = .mk 2 b 0 ByteArray.empty [] [] by unfold unJ; rfl]; unfold PlG; exact ⟨by simp, by simp only [Zx3]⟩
 | flt b => rw [show unJ (.flt b) = .mk 3 0 b ByteArray.empty [] [] by unfold unJ; rfl]; unfold PlG; exact ⟨by simp, by simp only [Zx3]⟩
 | str b => rw [show unJ (.str b) = .mk 4 0 0 b [] [] by unfold unJ; rfl]; unfold PlG; exact ⟨by simp, by simp only [Zx3]⟩
theorem Ztk {x : GV} (h : Fits (qV x)) : PlG (Zav x) := by
 obtain ⟨w0, F0, v0, h0⟩ := h
 rw [← Zd9]
 exact Yp5 _ (Zk5 x (IsV.gok x (Zpj x (by rw [Zf1]; exact h0))))
theorem Zra (x y : GV) : PCall Tryz.prog 230 [qV x, qV y] (.val (.int .i64 (Zdp (Zav x) (Zav y)))) := by
 refine Zay fun hf => ?_
 have c3 := Yaf (Zav x) (Zav y) (Ztk (hf (qV x) (by simp))) (Ztk (hf (qV y) (by simp)))
 clear hf
 have c1 := Zrp x
 have c2 := Zrp y
 generalize Zav x = x' at *
 generalize Zav y = y' at *
 refine Zaa Tryz.func230 rfl Tryz.ntmps230 rfl (fun X => ?_)
 repeat' (first
  | refine Zae ?_
  | (refine Zao rfl ?_; first | refine Zad rfl rfl ?_ | refine Zcq rfl rfl rfl (by first | rfl | (simp only [Zap]; rfl)) ?_)
  | refine Zac ?_
  | refine Zab ?_
  | refine Zag (Zaj rfl rfl ?_)
  | refine Ze6 (by kernel_rfl) ?_
  | refine Zmu (And.intro (by kernel_rfl) ?_)
  | refine Zbl (Zil rfl rfl) ?_
  | refine Zbl (Zwo rfl rfl rfl (by first | rfl | (simp only [Zap]; rfl))) ?_
  | refine Zbl (Yla rfl (by kernel_rfl) rfl (by first | exact c1 | exact c2 | exact c3)) ?_
  | fail)
 all_goals exact PLe.refl _
end Go.Proofs.YtgmahieoiifpfaaGreat
section
namespace Go.Proofs.YtgmahieoiifpfaaGreat
theorem Zy2 : ∀ {a b : List GV}, (∀ x ∈ a, ∀ y ∈ b, eqP x y = true ↔ Zdp x y = 0) → (Zib a b = true ↔ Zds a b = 0)
 | [], [], _ => by rw [Zc6]; unfold Zib; simp [Zbw]
 | [], y :: b, _ => by rw [Zc6, Zgg (by first | (simp; done) | (simp; omega))]; unfold Zib; simp
 | x :: a, [], _ => by rw [Zd4, Zfe (by first | (simp; done) | (simp; omega))]; unfold Zib; simp
 | x :: a, y :: b, h => by
  rw [Zep, Zc9, ← Zy2 (a := a) (b := b) (fun x hx y hy => h x (by simp [hx]) y (by simp [hy])), ← h x (by simp) y (by simp)]
  simp only [Zib, Bool.and_eq_true]
theorem Zp9 : ∀ {ks : List ByteArray} {a : List GV} {ks' : List ByteArray} {b : List GV}, ks.length = a.length → ks'.length = b.length → (Zce ks a ks' b = 0 ↔ ks = ks' ∧ Zds a b = 0)
 | [], a, [], b, h, h' => by
  have e1 : a = [] := List.eq_nil_of_length_eq_zero h.symm
  have e2 : b = [] := List.eq_nil_of_length_eq_zero h'.symm
  subst e1 e2
  rw [Zed, Zc6]
  simp [Zbw]
 | [], a, k' :: ks', b, h, h' => by
  rw [Zed, Zgg (by first | (simp; done) | (simp; omega))]
  simp
 | k :: ks, a, [], b, h, h' => by
  rw [Zgb, Zfe (by first | (simp; done) | (simp; omega))]
  simp
 | k :: ks, x :: a, k' :: ks', y :: b, h, h' => by
  rw [Zff, Zep, Zc9, Zc9, Zc9, cmpS_zero, Zp9 (by simpa using h) (by simpa using h')]
  simp only [List.cons.injEq]
  constructor
  ·rintro ⟨h1, h2, h3, h4⟩; exact ⟨⟨h1, h3⟩, h2, h4⟩
  ·rintro ⟨⟨h1, h3⟩, h2, h4⟩; exact ⟨h1, h2, h3, h4⟩
 | _ :: _, [], _, _, h, _ => by simp at h
 | _ :: _, _ :: _, _ :: _, [], _, h' => by simp at h'
theorem Zzh (k n : Int) (f : Nat) (s : ByteArray) (ks : List ByteArray) (l : List GV) : Zb0 (.mk k n f s ks l) = (decide (k = 2) || decide (k = 3)) := rfl
theorem Yiq {x y : GV} (h : (Zb0 x && Zb0 y) = true) : eqP x y = (if x.kind = 2 ∧ y.kind = 2 then decide (x.n = y.n) else feq (asF x) (asF y)) := by
 cases x; cases y
 simp only [eqP]
 rw [if_pos h]
 rfl
theorem Ym9 {x y : GV} (h : (Zb0 x && Zb0 y) = false) : eqP x y = (decide (x.kind = y.kind) && (decide (x.n = y.n) && (decide (x.s = y.s) && (decide (x.keys = y.keys) && Zib x.l y.l)))) := by
 cases x; cases y
 simp only [eqP]
 rw [if_neg (by rw [h]; simp)]
 rfl
theorem OG.kind_of {x : GV} (h : OG x) : (Zbt x = 0 ∧ Zb0 x = true) ∨ (Zbt x = 1 ∧ x.kind = 4 ∧ x.n = 0 ∧ x.keys = [] ∧ x.l = []) ∨ (Zbt x = 2 ∧ x.kind = 1 ∧ x.s = ByteArray.empty ∧ x.keys = [] ∧ x.l = [])
  ∨ (Zbt x = 3 ∧ x.kind = 5 ∧ x.n = 0 ∧ x.s = ByteArray.empty ∧ x.keys = []) ∨ (Zbt x = 4 ∧ x.kind = 6 ∧ x.n = 0 ∧ x.s = ByteArray.empty) ∨ (Zbt x = 5 ∧ x.kind = 0 ∧ x.n = 0 ∧ x.s = ByteArray.empty ∧ x.keys = [] ∧ x.l = []) := by
 obtain ⟨k, n, f, s, ks, l⟩ := x
 unfold OG at h
 obtain ⟨_, h⟩ := h
 rw [Zsy, Zzh]
 rcases h with h | h | h | h | h | h | h <;> obtain ⟨rfl, h⟩ := h
 ·exact .inr (.inr (.inr (.inr (.inr ⟨rfl, rfl, h⟩))))
 ·exact .inr (.inr (.inl ⟨rfl, rfl, h⟩))
 ·exact .inl ⟨rfl, rfl⟩
 ·exact .inl ⟨rfl, rfl⟩
 ·exact .inr (.inl ⟨rfl, rfl, h⟩)
 ·exact .inr (.inr (.inr (.inl ⟨rfl, rfl, h⟩)))
 ·exact .inr (.inr (.inr (.inr (.inl ⟨rfl, rfl, h.1, h.2.1⟩))))
theorem Zz9 {x : GV} (h : Zb0 x = true) : Zbt x = 0 := by
 cases x
 rw [Zzh] at h
 rw [Zsy]
 simp at h
 rcases h with h | h <;> simp [h]
theorem Ym8 (x y : GV) (hx : OG x) (hy : OG y) : eqP x y = true ↔ Zdp x y = 0 := by
 induction hk : SizeOf.sizeOf x using Nat.strongRecOn generalizing x y with
 | _ n IH =>
 subst hk
 rw [Zjq, Zc9, cmpI_zero]
 have ih : Zib x.l y.l = true ↔ Zds x.l y.l = 0 := Zy2 fun a ha b hb => IH _ (Yr5 ha) a b (hx.subs a ha) (hy.subs b hb) rfl
 cases hn : Zb0 x && Zb0 y with
 | true =>
  have hn' := hn
  simp only [Bool.and_eq_true] at hn'
  have r1 := Zz9 hn'.1
  have r2 := Zz9 hn'.2
  rw [Yiq hn, r1, r2]
  unfold Zrn
  rw [if_pos rfl]
  obtain ⟨_, _, a2, _⟩ := hx.num r1
  obtain ⟨_, _, b2, _⟩ := hy.num r2
  unfold Zwn
  by_cases h : x.kind = 2 ∧ y.kind = 2
  ·rw [if_pos h, if_pos h, cmpI_zero]
   simp
  ·rw [if_neg h, if_neg h, Yis a2 b2]
   simp
 | false =>
  rw [Ym9 hn]
  simp only [Bool.and_eq_true, decide_eq_true_eq]
  by_cases hr : Zbt x = Zbt y
  ·have key := hx.kind_of
   have key' := hy.kind_of
   rw [← hr] at key'
   rw [← hr]
   rcases key with ⟨h, h1⟩ | ⟨h, h1⟩ | ⟨h, h1⟩ | ⟨h, h1⟩ | ⟨h, h1⟩ | ⟨h, h1⟩
   ·rw [h1] at hn
    have : Zb0 y = true := by
     rcases key' with ⟨h', h2⟩ | ⟨h', h2⟩ | ⟨h', h2⟩ | ⟨h', h2⟩ | ⟨h', h2⟩ | ⟨h', h2⟩
     ·exact h2
     all_goals omega
    rw [this] at hn; cases hn
   all_goals
    rw [h] at key' ⊢
    unfold Zrn
    simp (config := { decide := true }) only [if_false, if_true]
   ·obtain ⟨a1, a2, a3, a4⟩ := h1
    obtain ⟨b1, b2, b3, b4⟩ : y.kind = 4 ∧ y.n = 0 ∧ y.keys = [] ∧ y.l = [] := by
     rcases key' with ⟨h', h2⟩ | ⟨h', h2⟩ | ⟨h', h2⟩ | ⟨h', h2⟩ | ⟨h', h2⟩ | ⟨h', h2⟩ <;> first | exact h2 | omega
    rw [a1, a2, a3, a4, b1, b2, b3, b4, cmpS_zero]
    simp [Zib]
   ·obtain ⟨a1, a2, a3, a4⟩ := h1
    obtain ⟨b1, b2, b3, b4⟩ : y.kind = 1 ∧ y.s = ByteArray.empty ∧ y.keys = [] ∧ y.l = [] := by
     rcases key' with ⟨h', h2⟩ | ⟨h', h2⟩ | ⟨h', h2⟩ | ⟨h', h2⟩ | ⟨h', h2⟩ | ⟨h', h2⟩ <;> first | exact h2 | omega
    rw [a1, a2, a3, a4, b1, b2, b3, b4, cmpI_zero]
    simp [Zib]
   ·obtain ⟨a1, a2, a3, a4⟩ := h1
    obtain ⟨b1, b2, b3, b4⟩ : y.kind = 5 ∧ y.n = 0 ∧ y.s = ByteArray.empty ∧ y.keys = [] := by
     rcases key' with ⟨h', h2⟩ | ⟨h', h2⟩ | ⟨h', h2⟩ | ⟨h', h2⟩ | ⟨h', h2⟩ | ⟨h', h2⟩ <;> first | exact h2 | omega
    rw [a1, a2, a3, a4, b1, b2, b3, b4, ih]
    simp
   ·obtain ⟨a1, a2, a3⟩ := h1
    obtain ⟨b1, b2, b3⟩ : y.kind = 6 ∧ y.n = 0 ∧ y.s = ByteArray.empty := by
     rcases key' with ⟨h', h2⟩ | ⟨h', h2⟩ | ⟨h', h2⟩ | ⟨h', h2⟩ | ⟨h', h2⟩ | ⟨h', h2⟩ <;> first | exact h2 | omega
    rw [a1, a2, a3, b1, b2, b3, ih, Zp9 (hx.keys h).1 (hy.keys (hr ▸ h)).1]
    simp
   ·obtain ⟨a1, a2, a3, a4, a5⟩ := h1
    obtain ⟨b1, b2, b3, b4, b5⟩ : y.kind = 0 ∧ y.n = 0 ∧ y.s = ByteArray.empty ∧ y.keys = [] ∧ y.l = [] := by
     rcases key' with ⟨h', h2⟩ | ⟨h', h2⟩ | ⟨h', h2⟩ | ⟨h', h2⟩ | ⟨h', h2⟩ | ⟨h', h2⟩ <;> first | exact h2 | omega
    rw [a1, a2, a3, a4, a5, b1, b2, b3, b4, b5]
    simp [Zib]
  ·constructor
   ·rintro ⟨h, _⟩
    exfalso
    apply hr
    unfold Zbt
    rw [h]
   ·rintro ⟨h, _⟩; exact absurd h hr
theorem Yp3 : ∀ j : JV, JOk j → Zje (unJ j) = true → OG (unJ j) := by
 intro j
 induction hk : SizeOf.sizeOf j using Nat.strongRecOn generalizing j with
 | _ n IH =>
 subst hk
 intro hj ho
 cases j with
 | list l =>
  unfold JOk at hj
  rw [show unJ (.list l) = .mk 5 0 0 ByteArray.empty [] (Zg1 l) by unfold unJ; rfl] at ho ⊢
  unfold OG
  have ho : Zmj (Zg1 l) = true := by unfold Zje at ho; exact ho
  refine ⟨?_, .inr (.inr (.inr (.inr (.inr (.inl ⟨rfl, rfl, rfl, rfl⟩)))))⟩
  have : ∀ (r : List JV), (∀ y ∈ r, y ∈ l) → Znn r → Zmj (Zg1 r) = true → OGs (Zg1 r) := by
   intro r
   induction r with
   | nil => intro _ _ _; simp only [Zg1, OGs]
   | cons x r ih =>
    intro h hr hor
    simp only [Znn] at hr
    simp only [Zg1, Zmj, Bool.and_eq_true] at hor
    simp only [Zg1, OGs]
    exact ⟨IH (SizeOf.sizeOf x) (by have := List.sizeOf_lt_of_mem (h x (by simp)); simp; omega) x rfl hr.1 hor.1, ih (fun y hy => h y (by simp [hy])) hr.2 hor.2⟩
  exact this l (fun _ h => h) hj.2 ho
 | map m =>
  unfold JOk at hj
  obtain ⟨ks, l, e, hi, hl, hk, hg⟩ := Zh9 hj.1
  rw [show unJ (.map m) = unM m gMap by unfold unJ; rfl, e] at ho ⊢
  unfold OG
  have ho : Zmj l = true := by unfold Zje at ho; exact ho
  refine ⟨?_, .inr (.inr (.inr (.inr (.inr (.inr ⟨rfl, rfl, rfl, hi, hl⟩)))))⟩
  refine Yk5 fun x hx => ?_
  have hox := ordL_iff.1 ho x hx
  obtain ⟨i, hi⟩ := List.getElem?_of_mem hx
  have hil := (List.getElem?_eq_some_iff.1 hi).1
  obtain ⟨k, hkk⟩ : ∃ k, ks[i]? = some k := ⟨_, List.getElem?_eq_getElem (by omega)⟩
  obtain ⟨j, hj1, hj2⟩ := (hg k x).1 ⟨i, hkk, hi⟩
  rw [← hj2] at hox ⊢
  have hm := Zdd hj1
  refine IH (SizeOf.sizeOf j) ?_ j rfl (Zes hj.2.2 _ hm) hox
  have := List.sizeOf_lt_of_mem hm
  simp at this ⊢
  omega
 | null => rw [show unJ .null = .mk 0 0 0 ByteArray.empty [] [] by unfold unJ; rfl]; unfold OG; exact ⟨by simp only [OGs], .inl ⟨rfl, rfl, rfl, rfl, rfl⟩⟩
 | bool b => rw [show unJ (.bool b) = .mk 1 (if b then 1 else 0) 0 ByteArray.empty [] [] by unfold unJ; rfl]; unfold OG; exact ⟨by simp only [OGs], .inr (.inl ⟨rfl, rfl, rfl, rfl⟩)⟩
 | int b =>
  rw [show unJ (.int b) = .mk 2 b 0 ByteArray.empty [] [] by unfold unJ; rfl] at ho ⊢
  unfold OG
  have ho : (decide (-9007199254740992 ≤ b) && decide (b ≤ 9007199254740992)) = true := by unfold Zje at ho; exact ho
  simp only [Bool.and_eq_true, decide_eq_true_eq] at ho
  exact ⟨by simp only [OGs], .inr (.inr (.inl ⟨rfl, ho.1, ho.2⟩))⟩
 | flt b =>
  rw [show unJ (.flt b) = .mk 3 0 b ByteArray.empty [] [] by unfold unJ; rfl] at ho ⊢
  unfold OG
  have ho : feq b b = true := by unfold Zje at ho; exact ho
  exact ⟨by simp only [OGs], .inr (.inr (.inr (.inl ⟨rfl, ho⟩)))⟩
 | str b => rw [show unJ (.str b) = .mk 4 0 0 b [] [] by unfold unJ; rfl]; unfold OG; exact ⟨by simp only [OGs], .inr (.inr (.inr (.inr (.inl ⟨rfl, rfl, rfl, rfl⟩))))⟩
end Go.Proofs.YtgmahieoiifpfaaGreat
end
section
namespace Go.Proofs.YtgmahieoiifpfaaGreat
theorem Zrt (a b : Nat) : Zkc a b = Ymi a b := by
 unfold Zkc Ymi
 cases FloatKind.f64.format.order a b with
 | none => rfl
 | some o => cases o <;> rfl
theorem Yml {a b : ByteArray} (h : blt a b = true) : Zdb a b = -1 := by unfold Zdb; rw [if_pos h]
theorem Ymk {a b : ByteArray} (h : blt b a = true) : Zdb a b = 1 := by unfold Zdb; rw [if_neg (by rw [Zfr h]; simp), if_pos h]
theorem Ydf (a : ByteArray) : Zdb a a = 0 := by unfold Zdb; rw [if_neg (by rw [Zbb]; simp), if_neg (by rw [Zbb]; simp)]
theorem Zof {u : ByteArray} {U : List ByteArray} (h : Zf2 (u :: U)) : (∀ b ∈ U, blt u b = true) ∧ Zf2 U := List.pairwise_cons.1 h
theorem Ydg : ∀ (ks : List ByteArray) (l : List GV) (ks' : List ByteArray) (l' : List GV) (U : List ByteArray) (i : Nat) (m q : List (ByteArray × JV)), Zf2 ks → Zf2 ks' → Zf2 U → (∀ k, k ∈ U ↔ k ∈ ks ∨ k ∈ ks') → ks.length = l.length → ks'.length = l'.length → i + ks.length = m.length → i + ks'.length = q.length →
  (∀ k ∈ U, ∀ z, Zcz (ks.zip l) k = some z ↔ ∃ x, lkJ m k = some x ∧ unJ x = z) → (∀ k ∈ U, ∀ z, Zcz (ks'.zip l') k = some z ↔ ∃ x, lkJ q k = some x ∧ unJ x = z) →
  (∀ k x y, lkJ m k = some x → lkJ q k = some y → Zdp (unJ x) (unJ y) = Zdg x y) → Zce ks l ks' l' = Zjp Zdg m q i U
 | [], l, [], l', U, i, m, q, _, _, _, hU, _, _, _, _, _, _, _ => by
  have : U = [] := List.eq_nil_iff_forall_not_mem.2 fun k hk => by simpa using (hU k).1 hk
  subst this
  simp only [Zce, Zjp]; rfl
 | [], l, b :: r', l', U, i, m, q, _, _, _, hU, _, _, hm, hq, _, _, _ => by
  cases U with
  | nil => have := (hU b).2 (by simp); simp at this
  | cons u U =>
   simp only [Zce, Zjp]
   have e : Zfk Zdg m q i u = -1 := by unfold Zfk; rw [if_pos (by simpa using hm)]
   rw [e, if_neg (by decide)]
   unfold Zbw
   first | (simp; done) | (simp; omega)
 | a :: r, l, [], l', U, i, m, q, _, _, _, hU, hl, _, hm, hq, _, _, _ => by
  cases U with
  | nil => have := (hU a).2 (by simp); simp at this
  | cons u U =>
   have e : Zfk Zdg m q i u = 1 := by
    unfold Zfk
    simp at hm hq
    rw [if_neg (by omega), if_pos (by omega)]
   cases l <;> simp only [Zce, Zjp] <;> rw [e, if_neg (by decide)] <;> unfold Zbw <;> first | (simp; done) | (simp; omega)
 | a :: r, [], b :: r', l', U, i, m, q, _, _, _, _, hl, _, _, _, _, _, _ => by simp at hl
 | a :: r, _ :: _, b :: r', [], U, i, m, q, _, _, _, _, _, hl', _, _, _, _, _ => by simp at hl'
 | a :: r, z :: l, b :: r', z' :: l', U, i, m, q, h1, h2, h3, hU, hl, hl', hm, hq, hv, hv', ih => by
  obtain ⟨h1a, h1b⟩ := Zof h1
  obtain ⟨h2a, h2b⟩ := Zof h2
  cases U with
  | nil => have := (hU a).2 (by simp); simp at this
  | cons u U =>
   obtain ⟨h3a, h3b⟩ := Zof h3
   have him : i ≠ m.length := by simp at hm; omega
   have hiq : i ≠ q.length := by simp at hq; omega
   have hua : u = a ∨ blt u a = true := by
    rcases List.mem_cons.1 ((hU a).2 (by simp)) with h | h
    ·exact .inl h.symm
    ·exact .inr (h3a a h)
   have hub : u = b ∨ blt u b = true := by
    rcases List.mem_cons.1 ((hU b).2 (by simp)) with h | h
    ·exact .inl h.symm
    ·exact .inr (h3a b h)
   have hu := (hU u).1 (by simp)
   have none_m : ∀ k, k ∉ a :: r → k ∈ u :: U → lkJ m k = none := by
    intro k hk hkU
    cases h : lkJ m k with
    | none => rfl
    | some x =>
     have := (hv k hkU (unJ x)).2 ⟨x, h, rfl⟩
     exact absurd (List.of_mem_zip (a := k) (b := unJ x) (Zdd this)).1 hk
   have none_q : ∀ k, k ∉ b :: r' → k ∈ u :: U → lkJ q k = none := by
    intro k hk hkU
    cases h : lkJ q k with
    | none => rfl
    | some x =>
     have := (hv' k hkU (unJ x)).2 ⟨x, h, rfl⟩
     exact absurd (List.of_mem_zip (a := k) (b := unJ x) (Zdd this)).1 hk
   have hcmp : Zce (a :: r) (z :: l) (b :: r') (z' :: l') = if Zdb a b ≠ 0 then Zdb a b else if Zdp z z' ≠ 0 then Zdp z z' else Zce r l r' l' := by simp only [Zce]
   rw [hcmp]
   simp only [Zjp]
   cases hab : blt a b with
   | true =>
    have e : u = a := by
     rcases hu with h | h
     ·rcases List.mem_cons.1 h with h | h
      ·exact h
      ·rcases hua with e | e
       ·exact e
       ·have := h1a u h; rw [Zfr this] at e; cases e
     ·exfalso
      have hbu : blt a u = true := by
       rcases List.mem_cons.1 h with h | h
       ·rw [h]; exact hab
       ·exact Zb9 hab (h2a u h)
      rcases hua with e | e
      ·rw [e, Zbb] at hbu; cases hbu
      ·rw [Zfr hbu] at e; cases e
    subst e
    obtain ⟨x, hx, _⟩ := (hv u (by simp) z).1 (by simp [Zcz])
    have hn := none_q u (fun h => by
     rcases List.mem_cons.1 h with h | h
     ·rw [h, Zbb] at hab; cases hab
     ·have := Zb9 hab (h2a u h); rw [Zbb] at this; cases this) (by simp)
    have e : Zfk Zdg m q i u = -1 := by unfold Zfk; rw [if_neg him, if_neg hiq, hx, hn]
    rw [Yml hab, if_pos (by decide), e, if_neg (by decide)]
   | false =>
    cases hba : blt b a with
    | true =>
     have e : u = b := by
      rcases hu with h | h
      ·exfalso
       have hbu : blt b u = true := by
        rcases List.mem_cons.1 h with h | h
        ·rw [h]; exact hba
        ·exact Zb9 hba (h1a u h)
       rcases hub with e | e
       ·rw [e, Zbb] at hbu; cases hbu
       ·rw [Zfr hbu] at e; cases e
      ·rcases List.mem_cons.1 h with h | h
       ·exact h
       ·rcases hub with e | e
        ·exact e
        ·have := h2a u h; rw [Zfr this] at e; cases e
     subst e
     have hn := none_m u (fun h => by
      rcases List.mem_cons.1 h with h | h
      ·rw [h, Zbb] at hba; cases hba
      ·have := Zb9 hba (h1a u h); rw [Zbb] at this; cases this) (by simp)
     have e : Zfk Zdg m q i u = 1 := by unfold Zfk; rw [if_neg him, if_neg hiq, hn]
     rw [Ymk hba, if_pos (by decide), e, if_neg (by decide)]
    | false =>
     have e0 : a = b := Zgf hab hba
     subst e0
     have e : u = a := by
      rcases hua with e | e
      ·exact e
      ·exfalso
       rcases hu with h | h
       ·rcases List.mem_cons.1 h with h | h
        ·rw [h, Zbb] at e; cases e
        ·have := h1a u h; rw [Zfr this] at e; cases e
       ·rcases List.mem_cons.1 h with h | h
        ·rw [h, Zbb] at e; cases e
        ·have := h2a u h; rw [Zfr this] at e; cases e
     subst e
     obtain ⟨x, hx, ex⟩ := (hv u (by simp) z).1 (by simp [Zcz])
     obtain ⟨y, hy, ey⟩ := (hv' u (by simp) z').1 (by simp [Zcz])
     have e : Zfk Zdg m q i u = Zdg x y := by unfold Zfk; rw [if_neg him, if_neg hiq, hx, hy]
     have e2 : Zdp z z' = Zdg x y := by rw [← ex, ← ey]; exact ih u x y hx hy
     rw [Ydf, if_neg (by simp), e, e2]
     by_cases hc : Zdg x y = 0
     ·rw [if_neg (by simp [hc]), if_pos hc]
      have hne : ∀ k ∈ U, u ≠ k := fun k hk e => by have := h3a k hk; rw [← e, Zbb] at this; cases this
      refine Ydg r l r' l' U (i + 1) m q h1b h2b h3b (fun k => ⟨fun hk => ?_, fun hk => ?_⟩) (by simpa using hl) (by simpa using hl') (by simp at hm; omega) (by simp at hq; omega) (fun k hk w => ?_) (fun k hk w => ?_) ih
      ·rcases (hU k).1 (by simp [hk]) with h | h
       ·rcases List.mem_cons.1 h with h | h
        ·exact absurd h.symm (hne k hk)
        ·exact .inl h
       ·rcases List.mem_cons.1 h with h | h
        ·exact absurd h.symm (hne k hk)
        ·exact .inr h
      ·have hmem : k ∈ u :: U := (hU k).2 (hk.imp (by simp_all) (by simp_all))
       rcases List.mem_cons.1 hmem with h | h
       ·exfalso
        subst h
        rcases hk with hk | hk
        ·have := h1a k hk; rw [Zbb] at this; cases this
        ·have := h2a k hk; rw [Zbb] at this; cases this
       ·exact h
      ·have := hv k (by simp [hk]) w
       simp only [List.zip_cons_cons, Zcz, if_neg (hne k hk)] at this
       exact this
      ·have := hv' k (by simp [hk]) w
       simp only [List.zip_cons_cons, Zcz, if_neg (hne k hk)] at this
       exact this
     ·rw [if_pos hc, if_neg hc]
theorem Zyl : ∀ (b a : List JV), (∀ y ∈ b, ∀ x, JOk x → JOk y → Zdp (unJ x) (unJ y) = Zdg x y) → Znn a → Znn b → Zds (Zg1 a) (Zg1 b) = Zgh Zdg a b
 | [], [], _, _, _ => by simp only [Zg1, Zds, Zgh]; rfl
 | [], x :: a, _, _, _ => by
  simp only [Zg1, Zds, Zgh]
  unfold Zbw
  first | (simp; done) | (simp; omega)
 | y :: b, [], _, _, _ => by
  simp only [Zg1, Zds, Zgh]
  unfold Zbw
  first | (simp; done) | (simp; omega)
 | y :: b, x :: a, ih, ha, hb => by
  simp only [Znn] at ha hb
  simp only [Zg1, Zds, Zgh]
  rw [ih y (by simp) x ha.1 hb.1, Zyl b a (fun z hz => ih z (by simp [hz])) ha.2 hb.2]
  by_cases h : Zdg x y = 0
  ·rw [if_neg (by simp [h]), if_pos h]
  ·rw [if_pos h, if_neg h]
theorem Yga (j : JV) : Zbt (unJ j) = (Zk8 j : Int) := by
 cases j
 case map m =>
  obtain ⟨ks, l, e, _⟩ := Zb6 m gMap Zbg
  rw [show unJ (.map m) = unM m gMap by unfold unJ; rfl, e]; rfl
 all_goals (unfold unJ; rfl)
theorem Yde {x y : GV} (h : Zbw (Zbt x) (Zbt y) ≠ 0) : Zdp x y = Zbw (Zbt x) (Zbt y) := by
 cases x; cases y
 simp only [Zdp]
 rw [if_pos h]
theorem Yc7 {j k : JV} (h : Zk8 j ≠ Zk8 k) : Zdg j k = if Zk8 j < Zk8 k then -1 else 1 := by
 cases j <;> cases k <;> first | exact absurd rfl h | (unfold Zdg; rfl) | (simp only [Zdg])
theorem Zkd {k n : Int} {f : Nat} {s : ByteArray} {ks : List ByteArray} {l : List GV} {k' n' : Int} {f' : Nat} {s' : ByteArray} {ks' : List ByteArray} {l' : List GV} (r : Int) (h : Zbt (.mk k n f s ks l) = r) (h' : Zbt (.mk k' n' f' s' ks' l') = r) :
  Zdp (.mk k n f s ks l) (.mk k' n' f' s' ks' l') = if r = 0 then (if k = 2 ∧ k' = 2 then Zbw n n' else Zkc (asF (.mk k n f s ks l)) (asF (.mk k' n' f' s' ks' l'))) else if r = 1 then Zdb s s' else if r = 2 then Zbw n n' else if r = 3 then Zds l l' else if r = 4 then Zce ks l ks' l' else 0 := by
 simp only [Zdp]
 rw [h, h', if_neg (by unfold Zbw; simp)]
theorem Zij : ∀ (k j : JV), JOk j → JOk k → Zdp (unJ j) (unJ k) = Zdg j k := by
 intro k
 induction hk : SizeOf.sizeOf k using Nat.strongRecOn generalizing k with
 | _ n IH =>
 subst hk
 intro j hj hok
 by_cases hr : Zk8 j = Zk8 k
 rotate_left
 ·have h1 := Yga j
  have h2 := Yga k
  have h3 : Zbw (Zbt (unJ j)) (Zbt (unJ k)) = if Zk8 j < Zk8 k then -1 else 1 := by
   rw [h1, h2]
   unfold Zbw
   by_cases h : Zk8 j < Zk8 k
   ·rw [if_pos (by omega), if_pos h]
   ·rw [if_neg (by omega), if_pos (by omega), if_neg h]
  rw [Yc7 hr, ← h3]
  exact Yde (by rw [h3]; split <;> decide)
 cases j <;> cases k <;> first | (exfalso; simp [Zk8] at hr; done) | skip
 case null.null => rw [show unJ .null = .mk 0 0 0 ByteArray.empty [] [] by unfold unJ; rfl, Zkd 5 rfl rfl]; unfold Zdg; rfl
 case bool.bool a b => rw [show unJ (.bool a) = .mk 1 (if a then 1 else 0) 0 ByteArray.empty [] [] by unfold unJ; rfl, show unJ (.bool b) = .mk 1 (if b then 1 else 0) 0 ByteArray.empty [] [] by unfold unJ; rfl, Zkd 2 rfl rfl]; unfold Zdg; cases a <;> cases b <;> rfl
 case int.int a b => rw [show unJ (.int a) = .mk 2 a 0 ByteArray.empty [] [] by unfold unJ; rfl, show unJ (.int b) = .mk 2 b 0 ByteArray.empty [] [] by unfold unJ; rfl, Zkd 0 rfl rfl, if_pos rfl, if_pos ⟨rfl, rfl⟩]; unfold Zdg; rfl
 case int.flt a b => rw [show unJ (.int a) = .mk 2 a 0 ByteArray.empty [] [] by unfold unJ; rfl, show unJ (.flt b) = .mk 3 0 b ByteArray.empty [] [] by unfold unJ; rfl, Zkd 0 rfl rfl, if_pos rfl, if_neg (by decide), Zrt]; unfold Zdg; rfl
 case flt.int a b => rw [show unJ (.int b) = .mk 2 b 0 ByteArray.empty [] [] by unfold unJ; rfl, show unJ (.flt a) = .mk 3 0 a ByteArray.empty [] [] by unfold unJ; rfl, Zkd 0 rfl rfl, if_pos rfl, if_neg (by decide), Zrt]; unfold Zdg; rfl
 case flt.flt a b => rw [show unJ (.flt a) = .mk 3 0 a ByteArray.empty [] [] by unfold unJ; rfl, show unJ (.flt b) = .mk 3 0 b ByteArray.empty [] [] by unfold unJ; rfl, Zkd 0 rfl rfl, if_pos rfl, if_neg (by decide), Zrt]; unfold Zdg; rfl
 case str.str a b => rw [show unJ (.str a) = .mk 4 0 0 a [] [] by unfold unJ; rfl, show unJ (.str b) = .mk 4 0 0 b [] [] by unfold unJ; rfl, Zkd 1 rfl rfl]; unfold Zdg; rfl
 case list.list a b =>
  unfold JOk at hj hok
  rw [show unJ (.list a) = .mk 5 0 0 ByteArray.empty [] (Zg1 a) by unfold unJ; rfl, show unJ (.list b) = .mk 5 0 0 ByteArray.empty [] (Zg1 b) by unfold unJ; rfl, Zkd 3 rfl rfl, Zts]
  show Zds (Zg1 a) (Zg1 b) = _
  exact Zyl b a (fun y hy x hx hy' => IH (SizeOf.sizeOf y) (by have := List.sizeOf_lt_of_mem hy; simp; omega) y rfl x hx hy') hj.2 hok.2
 case map.map m q =>
  unfold JOk at hj hok
  obtain ⟨ks, l, e1, hi, hl, hk, hg⟩ := Zh9 hj.1
  obtain ⟨ks', l', e2, hi', hl', hk', hg'⟩ := Zh9 hok.1
  rw [show unJ (.map m) = unM m gMap by unfold unJ; rfl, show unJ (.map q) = unM q gMap by unfold unJ; rfl, e1, e2, Zkd 4 rfl rfl, Zye]
  show Zce ks l ks' l' = _
  have len : ∀ {m : List (ByteArray × JV)} {ks : List ByteArray}, (m.map (·.1)).Nodup → Zf2 ks → (∀ k, k ∈ ks ↔ k ∈ m.map (·.1)) → ks.length = m.length := by
   intro m ks hm hi hk
   have h1 := Ze4 (Zw0 hi) (fun x hx => (hk x).1 hx)
   have h2 := Ze4 hm (fun x hx => (hk x).2 hx)
   simp only [List.length_map] at h1 h2
   omega
  have n1 := len hj.1 hi hk
  have n2 := len hok.1 hi' hk'
  have hz : ∀ {m : List (ByteArray × JV)} {ks : List ByteArray} {l : List GV}, ks.length = l.length → Zf2 ks → (∀ k x, (∃ i : Nat, ks[i]? = some k ∧ l[i]? = some x) ↔ ∃ j, Zcz m k = some j ∧ unJ j = x) → ∀ k z, Zcz (ks.zip l) k = some z ↔ ∃ x, lkJ m k = some x ∧ unJ x = z := fun hl hi hg k z => by
   rw [Yhn hl hi, hg, Zh1]
  have main := Ydg ks l ks' l' (Zlh m q) 0 m q hi hi' (Zpq m q) (fun k => by rw [Zrd, hk, hk']) hl hl' (by omega) (by omega) (fun k _ z => hz hl hi hg k z) (fun k _ z => hz hl' hi' hg' k z) (fun k x y hx hy => by
   rw [Zh1] at hx hy
   have hy' := Zdd hy
   refine IH (SizeOf.sizeOf y) ?_ y rfl x (Zes hj.2.2 _ (Zdd hx)) (Zes hok.2.2 _ hy')
   have := List.sizeOf_lt_of_mem hy'
   simp at this ⊢
   omega)
  unfold Yda
  by_cases h0 : m.length = 0 ∧ q.length = 0
  ·rw [if_pos h0]
   have e3 : ks = [] := List.eq_nil_of_length_eq_zero (by omega)
   have e4 : ks' = [] := List.eq_nil_of_length_eq_zero (by omega)
   subst e3 e4
   simp only [Zce]; rfl
  ·rw [if_neg h0]; exact main
end Go.Proofs.YtgmahieoiifpfaaGreat
end
section
namespace Go.Proofs.YtgmahieoiifpfaaGreat
theorem Zdh {k n : Int} {f : Nat} {s : ByteArray} {ks : List ByteArray} {l : List GV} {k' n' : Int} {f' : Nat} {s' : ByteArray} {ks' : List ByteArray} {l' : List GV} (h : (Zb0 (.mk k n f s ks l) && Zb0 (.mk k' n' f' s' ks' l')) = false) :
  eqP (.mk k n f s ks l) (.mk k' n' f' s' ks' l') = (decide (k = k') && (decide (n = n') && (decide (s = s') && (decide (ks = ks') && Zib l l')))) := by
 unfold eqP; rw [if_neg (by rw [h]; simp)]
theorem Ydy : ∀ (b a : List JV), (∀ y ∈ b, ∀ x, JOk x → JOk y → eqP (unJ x) (unJ y) = eqJ x y) → Znn a → Znn b → Zib (Zg1 a) (Zg1 b) = Zm5 a b
 | [], [], _, _, _ => by simp only [Zg1, Zib, Zm5]
 | [], _ :: _, _, _, _ => by simp only [Zg1, Zib, Zm5]
 | _ :: _, [], _, _, _ => by simp only [Zg1, Zib, Zm5]
 | y :: b, x :: a, ih, ha, hb => by
  simp only [Znn] at ha hb
  simp only [Zg1, Zib, Zm5]
  rw [ih y (by simp) x ha.1 hb.1, Ydy b a (fun z hz => ih z (by simp [hz])) ha.2 hb.2]
theorem Zyx (m : List (ByteArray × JV)) : ∀ q : List (ByteArray × JV), Ydx m q = true ↔ ∀ y ∈ q, ∃ x, Zcz m y.1 = some x ∧ eqJ x y.2 = true
 | [] => by simp [Ydx]
 | y :: q => by
  unfold Ydx
  rw [Bool.and_eq_true, Zyx m q, Zh1]
  constructor
  ·rintro ⟨h1, h2⟩ z hz
   rcases List.mem_cons.1 hz with rfl | hz
   ·cases hg : Zcz m z.1 with
    | none => rw [hg] at h1; cases h1
    | some x => rw [hg] at h1; exact ⟨x, rfl, h1⟩
   ·exact h2 z hz
  ·intro h
   obtain ⟨x, hx, he⟩ := h y (by simp)
   exact ⟨by rw [hx]; exact he, fun z hz => h z (by simp [hz])⟩
theorem Yqo (m q : List (ByteArray × JV)) (ih : ∀ y ∈ q, ∀ x, JOk x → JOk y.2 → eqP (unJ x) (unJ y.2) = eqJ x y.2) (hm : JOk (.map m)) (hq : JOk (.map q)) : eqP (unJ (.map m)) (unJ (.map q)) = eqJ (.map m) (.map q) := by
 unfold JOk at hm hq
 obtain ⟨ks, l, e1, hi, hl, hk, hg⟩ := Zh9 hm.1
 obtain ⟨ks', l', e2, hi', hl', hk', hg'⟩ := Zh9 hq.1
 have hJm : ∀ {k j}, Zcz m k = some j → JOk j := fun h => Zes hm.2.2 _ (Zdd h)
 have hJq : ∀ {k j}, Zcz q k = some j → JOk j := fun h => Zes hq.2.2 _ (Zdd h)
 rw [show unJ (.map m) = unM m gMap by unfold unJ; rfl, show unJ (.map q) = unM q gMap by unfold unJ; rfl, e1, e2, Zdh (by simp [Zb0, GV.kind]), show eqJ (.map m) (.map q) = (Nat.beq m.length q.length && Ydx m q) by unfold eqJ; rfl]
 simp only [decide_true, Bool.true_and]
 rw [Bool.eq_iff_iff]
 simp only [Bool.and_eq_true, decide_eq_true_eq, Zyx]
 constructor
 ·rintro ⟨rfl, h2⟩
  have hmm : ∀ k, k ∈ m.map (·.1) ↔ k ∈ q.map (·.1) := fun k => (hk k).symm.trans (hk' k)
  have l1 := Ze4 hm.1 (fun x hx => (hmm x).1 hx)
  have l2 := Ze4 hq.1 (fun x hx => (hmm x).2 hx)
  simp only [List.length_map] at l1 l2
  refine ⟨by rw [show m.length = q.length by omega]; simp, fun y hy => ?_⟩
  have hgy := Zgk hq.1 (show (y.1, y.2) ∈ q from hy)
  obtain ⟨i, h3, h4⟩ := (hg' y.1 (unJ y.2)).2 ⟨y.2, hgy, rfl⟩
  have hlt := (List.getElem?_eq_some_iff.1 h3).1
  have h5 : l[i]? = some l[i] := List.getElem?_eq_getElem (hl ▸ hlt)
  obtain ⟨x, h6, h7⟩ := (hg y.1 l[i]).1 ⟨i, h3, h5⟩
  refine ⟨x, h6, ?_⟩
  rw [← ih y hy x (hJm h6) (hJq hgy), h7]
  exact Yir h2 i _ _ h5 h4
 ·rintro ⟨h1, h2⟩
  have hlen := Nat.eq_of_beq_eq_true h1
  have hsub : ∀ k ∈ q.map (·.1), k ∈ m.map (·.1) := fun k hk => by
   obtain ⟨y, hy, rfl⟩ := List.mem_map.1 hk
   obtain ⟨x, hx, _⟩ := h2 y hy
   exact List.mem_map_of_mem (f := (·.1)) (Zdd hx)
  have hsub' := Yfa hq.1 hsub (by simp [hlen])
  have ek : ks = ks' := Zsc hi hi' fun k => (hk k).trans ⟨fun h => (hk' k).2 (hsub' k h), fun h => hsub k ((hk' k).1 h)⟩
  subst ek
  refine ⟨rfl, Znz (by omega) fun i x y hx hy => ?_⟩
  have hlt : i < ks.length := by rw [hl]; exact (List.getElem?_eq_some_iff.1 hx).1
  have hki : ks[i]? = some ks[i] := List.getElem?_eq_getElem hlt
  obtain ⟨x0, h3, rfl⟩ := (hg ks[i] x).1 ⟨i, hki, hx⟩
  obtain ⟨y0, h4, rfl⟩ := (hg' ks[i] y).1 ⟨i, hki, hy⟩
  obtain ⟨x1, h5, h6⟩ := h2 (ks[i], y0) (Zdd h4)
  have h5 : Zcz m ks[i] = some x1 := h5
  rw [h3] at h5
  cases h5
  rw [ih (ks[i], y0) (Zdd h4) x0 (hJm h3) (hJq h4)]
  exact h6
theorem Zy5 : ∀ (k j : JV), JOk j → JOk k → eqP (unJ j) (unJ k) = eqJ j k
 | .list b, .list a, ha, hb => by
  unfold JOk at ha hb
  rw [show unJ (.list a) = .mk 5 0 0 ByteArray.empty [] (Zg1 a) by unfold unJ; rfl, show unJ (.list b) = .mk 5 0 0 ByteArray.empty [] (Zg1 b) by unfold unJ; rfl, Zdh (by simp [Zb0, GV.kind]), show eqJ (.list a) (.list b) = Zm5 a b by unfold eqJ; rfl]
  simp only [decide_true, Bool.true_and]
  exact Ydy b a (fun y hy x hx hy' => Zy5 y x hx hy') ha.2 hb.2
 | .map q, .map m, ha, hb => Yqo m q (fun y hy x hx hy' => Zy5 y.2 x hx hy') ha hb
 | .null, j, _, _ => by
  cases j <;> simp only [unJ, Zdi, gv, eqJ]
  case map => rename_i m _h; obtain ⟨ks, l, e, _⟩ := Zb6 m gMap Zbg; rw [e, Zdh (by simp [Zb0, GV.kind])]; simp
  all_goals (rw [Zdh (by simp [Zb0, GV.kind])]; simp [Zib])
 | .bool b, j, _, _ => by
  cases j <;> simp only [unJ, Zdi, gv, eqJ]
  case map => rename_i m _h; obtain ⟨ks, l, e, _⟩ := Zb6 m gMap Zbg; rw [e, Zdh (by simp [Zb0, GV.kind])]; simp
  case bool => rename_i a _h; rw [Zdh (by simp [Zb0, GV.kind])]; cases a <;> cases b <;> simp [Zib]
  all_goals (rw [Zdh (by simp [Zb0, GV.kind])]; simp [Zib])
 | .int n, j, _, _ => by
  cases j <;> simp only [unJ, Zdi, gv, eqJ]
  case map => rename_i m _h; obtain ⟨ks, l, e, _⟩ := Zb6 m gMap Zbg; rw [e, Zdh (by simp [Zb0, GV.kind])]; simp
  case int => simp [eqP, Zb0, GV.kind]
  case flt => simp [eqP, Zb0, GV.kind, asF, GV.n, GV.f]
  all_goals (rw [Zdh (by simp [Zb0, GV.kind])]; simp [Zib])
 | .flt n, j, _, _ => by
  cases j <;> simp only [unJ, Zdi, gv, eqJ]
  case map => rename_i m _h; obtain ⟨ks, l, e, _⟩ := Zb6 m gMap Zbg; rw [e, Zdh (by simp [Zb0, GV.kind])]; simp
  case int => simp [eqP, Zb0, GV.kind, asF, GV.n, GV.f]
  case flt => simp [eqP, Zb0, GV.kind, asF, GV.n, GV.f]
  all_goals (rw [Zdh (by simp [Zb0, GV.kind])]; simp [Zib])
 | .str n, j, _, _ => by
  cases j <;> simp only [unJ, Zdi, gv, eqJ]
  case map => rename_i m _h; obtain ⟨ks, l, e, _⟩ := Zb6 m gMap Zbg; rw [e, Zdh (by simp [Zb0, GV.kind])]; simp
  all_goals (rw [Zdh (by simp [Zb0, GV.kind])]; simp [Zib])
 | .list b, .null, _, _ => by simp only [unJ, Zdi, gv, eqJ]; rw [Zdh (by simp [Zb0, GV.kind])]; simp
 | .list b, .bool _, _, _ => by simp only [unJ, Zdi, gv, eqJ]; rw [Zdh (by simp [Zb0, GV.kind])]; simp
 | .list b, .int _, _, _ => by simp only [unJ, Zdi, gv, eqJ]; rw [Zdh (by simp [Zb0, GV.kind])]; simp
 | .list b, .flt _, _, _ => by simp only [unJ, Zdi, gv, eqJ]; rw [Zdh (by simp [Zb0, GV.kind])]; simp
 | .list b, .str _, _, _ => by simp only [unJ, Zdi, gv, eqJ]; rw [Zdh (by simp [Zb0, GV.kind])]; simp
 | .list b, .map m, _, _ => by simp only [unJ, Zdi, gv, eqJ]; obtain ⟨ks, l, e, _⟩ := Zb6 m gMap Zbg; rw [e, Zdh (by simp [Zb0, GV.kind])]; simp
 | .map q, .null, _, _ => by simp only [unJ, Zdi, gv, eqJ]; obtain ⟨ks, l, e, _⟩ := Zb6 q gMap Zbg; rw [e, Zdh (by simp [Zb0, GV.kind])]; simp
 | .map q, .bool _, _, _ => by simp only [unJ, Zdi, gv, eqJ]; obtain ⟨ks, l, e, _⟩ := Zb6 q gMap Zbg; rw [e, Zdh (by simp [Zb0, GV.kind])]; simp
 | .map q, .int _, _, _ => by simp only [unJ, Zdi, gv, eqJ]; obtain ⟨ks, l, e, _⟩ := Zb6 q gMap Zbg; rw [e, Zdh (by simp [Zb0, GV.kind])]; simp
 | .map q, .flt _, _, _ => by simp only [unJ, Zdi, gv, eqJ]; obtain ⟨ks, l, e, _⟩ := Zb6 q gMap Zbg; rw [e, Zdh (by simp [Zb0, GV.kind])]; simp
 | .map q, .str _, _, _ => by simp only [unJ, Zdi, gv, eqJ]; obtain ⟨ks, l, e, _⟩ := Zb6 q gMap Zbg; rw [e, Zdh (by simp [Zb0, GV.kind])]; simp
 | .map q, .list _, _, _ => by simp only [unJ, Zdi, gv, eqJ]; obtain ⟨ks, l, e, _⟩ := Zb6 q gMap Zbg; rw [e, Zdh (by simp [Zb0, GV.kind])]; simp
termination_by k => SizeOf.sizeOf k
decreasing_by
 all_goals simp_wf
 ·have := List.sizeOf_lt_of_mem hy; omega
 ·have := List.sizeOf_lt_of_mem hy
  obtain ⟨y1, y2⟩ := y
  simp at this ⊢
  omega
end Go.Proofs.YtgmahieoiifpfaaGreat
end
section
namespace Go.Proofs.YtgmahieoiifpfaaGreat
section
variable {α β : Type}
def Zca (c : α → α → Int) : List α → List α → Int
 | [], [] => 0
 | [], _ :: _ => -1
 | _ :: _, [] => 1
 | x :: r, y :: q => lx (c x y) (Zca c r q)
theorem Zb7 (c : α → α → Int) (x y : α) (r q : List α) : Zca c (x :: r) (y :: q) = lx (c x y) (Zca c r q) := rfl
theorem Ygj {c : α → α → Int} : ∀ {a b : List α}, (∀ x ∈ a, ∀ y ∈ b, rng (c x y)) → rng (Zca c a b)
 | [], [], _ => .inr (.inl rfl)
 | [], _ :: _, _ => .inl rfl
 | _ :: _, [], _ => .inr (.inr rfl)
 | x :: r, y :: q, h => Zg7 (h x (by simp) y (by simp)) (Ygj fun u hu v hv => h u (by simp [hu]) v (by simp [hv]))
theorem Yg8 {c : α → α → Int} : ∀ {a b : List α}, (∀ x ∈ a, ∀ y ∈ b, c y x = - c x y) → Zca c b a = - Zca c a b
 | [], [], _ => rfl
 | [], _ :: _, _ => rfl
 | _ :: _, [], _ => rfl
 | x :: r, y :: q, h => by
  rw [Zb7, Zb7, h x (by simp) y (by simp), Yg8 (a := r) (b := q) fun u hu v hv => h u (by simp [hu]) v (by simp [hv]), Zkt]
theorem Ysj {c : α → α → Int} {P : α → Prop} (T : ∀ x y z, P x → P y → P z → Tri (c x y) (c y z) (c x z)) : ∀ (a b d : List α), (∀ x ∈ a, P x) → (∀ x ∈ b, P x) → (∀ x ∈ d, P x) → Tri (Zca c a b) (Zca c b d) (Zca c a d) := by
 have R : ∀ (a b : List α), (∀ x ∈ a, P x) → (∀ x ∈ b, P x) → rng (Zca c a b) := fun a b ha hb => Ygj fun x hx y hy => (T x y y (ha x hx) (hb y hy) (hb y hy)).rp
 intro a
 induction a with
 | nil =>
  intro b d ha hb hd
  have h2 := R b d hb hd
  cases b with
  | nil =>
   have e : Zca c [] ([] : List α) = 0 := rfl
   have h3 := R [] d ha hd
   unfold rng at h2 h3
   rw [e]
   exact ⟨by omega, h3, h3, by omega, by omega, by omega, by omega⟩
  | cons y q =>
   have e : Zca c [] (y :: q) = -1 := rfl
   unfold rng at h2
   cases d with
   | nil =>
    have e2 : Zca c [] ([] : List α) = 0 := rfl
    have e3 : Zca c (y :: q) ([] : List α) = 1 := rfl
    rw [e, e2, e3]
    exact ⟨by omega, by omega, by omega, by omega, by omega, by omega, by omega⟩
   | cons z t =>
    have e2 : Zca c [] (z :: t) = -1 := rfl
    rw [e, e2]
    exact ⟨by omega, h2, by omega, by omega, by omega, by omega, by omega⟩
 | cons x r ih =>
  intro b d ha hb hd
  cases b with
  | nil =>
   have e : Zca c (x :: r) ([] : List α) = 1 := rfl
   have h2 := R [] d hb hd
   have h3 := R (x :: r) d ha hd
   unfold rng at h2 h3
   rw [e]
   cases d with
   | nil =>
    have e2 : Zca c ([] : List α) [] = 0 := rfl
    rw [e, e2]
    exact ⟨by omega, by omega, by omega, by omega, by omega, by omega, by omega⟩
   | cons z t =>
    have e2 : Zca c [] (z :: t) = -1 := rfl
    rw [e2]
    exact ⟨by omega, by omega, h3, by omega, by omega, by omega, by omega⟩
  | cons y q =>
   cases d with
   | nil =>
    have e2 : Zca c (x :: r) ([] : List α) = 1 := rfl
    have e3 : Zca c (y :: q) ([] : List α) = 1 := rfl
    have h1 := R (x :: r) (y :: q) ha hb
    unfold rng at h1
    rw [e2, e3]
    exact ⟨h1, by omega, by omega, by omega, by omega, by omega, by omega⟩
   | cons z t =>
    have ha' : ∀ u ∈ r, P u := fun u hu => ha u (by simp [hu])
    have hb' : ∀ u ∈ q, P u := fun u hu => hb u (by simp [hu])
    have hd' : ∀ u ∈ t, P u := fun u hu => hd u (by simp [hu])
    rw [Zb7, Zb7, Zb7]
    exact Zjl (T x y z (ha x (by simp)) (hb y (by simp)) (hd z (by simp))) (R r q ha' hb') (R q t hb' hd') (R r t ha' hd') (fun _ _ => ih q t ha' hb' hd')
theorem cmpLx_zero {c : α → α → Int} : ∀ {a b : List α}, Zca c a b = 0 ↔ a.length = b.length ∧ ∀ (i : Nat) (x y : α), a[i]? = some x → b[i]? = some y → c x y = 0
 | [], [] => by simp [Zca]
 | [], _ :: _ => by simp [Zca]
 | _ :: _, [] => by simp [Zca]
 | x :: r, y :: q => by
  rw [Zb7, Zc9, cmpLx_zero (a := r) (b := q)]
  constructor
  ·rintro ⟨h, h2, h3⟩
   refine ⟨by simp [h2], fun i u v hu hv => ?_⟩
   cases i with
   | zero => simp at hu hv; subst hu hv; exact h
   | succ i => exact h3 i u v (by simpa using hu) (by simpa using hv)
  ·rintro ⟨h2, h3⟩
   exact ⟨h3 0 x y rfl rfl, by simpa using h2, fun i u v hu hv => h3 (i + 1) u v (by simpa using hu) (by simpa using hv)⟩
theorem Ztw {c : α → α → Int} {c' : β → β → Int} (f : β → α) : ∀ {a b : List β}, (∀ x ∈ a, ∀ y ∈ b, c (f x) (f y) = c' x y) → Zca c (a.map f) (b.map f) = Zca c' a b
 | [], [], _ => rfl
 | [], _ :: _, _ => rfl
 | _ :: _, [], _ => rfl
 | x :: r, y :: q, h => by
  rw [List.map_cons, List.map_cons, Zb7, Zb7, h x (by simp) y (by simp), Ztw f fun u hu v hv => h u (by simp [hu]) v (by simp [hv])]
theorem Zln {c : α → α → Int} : ∀ (k : Nat) {a b : List α}, k ≤ a.length → k ≤ b.length → (∀ (i : Nat) (x y : α), i < k → a[i]? = some x → b[i]? = some y → c x y = 0) → Zca c a b = Zca c (a.drop k) (b.drop k)
 | 0, a, b, _, _, _ => by simp
 | k + 1, [], _, h, _, _ => by simp at h
 | k + 1, _ :: _, [], _, h, _ => by simp at h
 | k + 1, x :: r, y :: q, h1, h2, h => by
  rw [Zb7, Zci (h 0 x y (by omega) rfl rfl), Zln k (by simpa using h1) (by simpa using h2) (fun i u v hi hu hv => h (i + 1) u v (by omega) (by simpa using hu) (by simpa using hv))]
  rfl
theorem Zmz {c : α → α → Int} {k : Nat} {a b : List α} {x y : α} (h : ∀ (i : Nat) (x y : α), i < k → a[i]? = some x → b[i]? = some y → c x y = 0) (hx : a[k]? = some x) (hy : b[k]? = some y) (hn : c x y ≠ 0) : Zca c a b = c x y := by
 have h1 := (List.getElem?_eq_some_iff.1 hx).1
 have h2 := (List.getElem?_eq_some_iff.1 hy).1
 rw [Zln k (by omega) (by omega) h, List.drop_eq_getElem_cons h1, List.drop_eq_getElem_cons h2, Zb7]
 have e1 := (List.getElem?_eq_some_iff.1 hx).2
 have e2 := (List.getElem?_eq_some_iff.1 hy).2
 rw [e1, e2, Zeh hn]
theorem Ztv {c : α → α → Int} {k : Nat} {a b : List α} (h1 : k ≤ a.length) (h2 : k ≤ b.length) (h : ∀ (i : Nat) (x y : α), i < k → a[i]? = some x → b[i]? = some y → c x y = 0) (hk : k = a.length ∨ k = b.length) : Zca c a b = Zbw a.length b.length := by
 rw [Zln k h1 h2 h]
 rcases hk with hk | hk
 ·rw [hk, List.drop_length]
  cases hb : b.drop a.length with
  | nil =>
   have := congrArg List.length hb
   simp at this
   rw [cmpI_zero.2 (by omega)]; rfl
  | cons y q =>
   have := congrArg List.length hb
   simp at this
   rw [Zgg (by omega)]; rfl
 ·rw [hk, List.drop_length]
  cases ha : a.drop b.length with
  | nil =>
   have := congrArg List.length ha
   simp at this
   rw [cmpI_zero.2 (by omega)]; rfl
  | cons y q =>
   have := congrArg List.length ha
   simp at this
   rw [Zfe (by omega)]; rfl
def Zfa (e : α → α → Bool) : List α → List α → Bool
 | [], [] => true
 | x :: r, y :: q => e x y && Zfa e r q
 | _, _ => false
theorem eqLx_iff {e : α → α → Bool} : ∀ {a b : List α}, Zfa e a b = true ↔ a.length = b.length ∧ ∀ (i : Nat) (x y : α), a[i]? = some x → b[i]? = some y → e x y = true
 | [], [] => by simp [Zfa]
 | [], _ :: _ => by simp [Zfa]
 | _ :: _, [] => by simp [Zfa]
 | x :: r, y :: q => by
  rw [show Zfa e (x :: r) (y :: q) = (e x y && Zfa e r q) from rfl, Bool.and_eq_true, eqLx_iff (a := r) (b := q)]
  constructor
  ·rintro ⟨h, h2, h3⟩
   refine ⟨by simp [h2], fun i u v hu hv => ?_⟩
   cases i with
   | zero => simp at hu hv; subst hu hv; exact h
   | succ i => exact h3 i u v (by simpa using hu) (by simpa using hv)
  ·rintro ⟨h2, h3⟩
   exact ⟨h3 0 x y rfl rfl, by simpa using h2, fun i u v hu hv => h3 (i + 1) u v (by simpa using hu) (by simpa using hv)⟩
theorem Zm8 {e : α → α → Bool} {a b : List α} (h : a.length ≠ b.length) : Zfa e a b = false := Bool.eq_false_iff.2 fun h' => h (eqLx_iff.1 h').1
theorem Zlq {e : α → α → Bool} {a b : List α} {i : Nat} {x y : α} (hx : a[i]? = some x) (hy : b[i]? = some y) (h : e x y = false) : Zfa e a b = false := Bool.eq_false_iff.2 fun h' => by rw [(eqLx_iff.1 h').2 i x y hx hy] at h; cases h
theorem Zm6 {e : α → α → Bool} {a b : List α} (hl : a.length = b.length) (h : ∀ (i : Nat) (x y : α), a[i]? = some x → b[i]? = some y → e x y = true) : Zfa e a b = true := eqLx_iff.2 ⟨hl, h⟩
theorem Zyz {e : α → α → Bool} {e' : β → β → Bool} (f : β → α) : ∀ {a b : List β}, (∀ x ∈ a, ∀ y ∈ b, e (f x) (f y) = e' x y) → Zfa e (a.map f) (b.map f) = Zfa e' a b
 | [], [], _ => rfl
 | [], _ :: _, _ => rfl
 | _ :: _, [], _ => rfl
 | x :: r, y :: q, h => by
  show (e (f x) (f y) && Zfa e (r.map f) (q.map f)) = (e' x y && Zfa e' r q)
  rw [h x (by simp) y (by simp), Zyz f fun u hu v hv => h u (by simp [hu]) v (by simp [hv])]
theorem Zm7 {e : α → α → Bool} {c : α → α → Int} {a b : List α} (h : ∀ x ∈ a, ∀ y ∈ b, e x y = true ↔ c x y = 0) : Zfa e a b = true ↔ Zca c a b = 0 := by
 rw [eqLx_iff, cmpLx_zero]
 constructor
 ·rintro ⟨h1, h2⟩
  exact ⟨h1, fun i x y hx hy => (h x (List.mem_of_getElem? hx) y (List.mem_of_getElem? hy)).1 (h2 i x y hx hy)⟩
 ·rintro ⟨h1, h2⟩
  exact ⟨h1, fun i x y hx hy => (h x (List.mem_of_getElem? hx) y (List.mem_of_getElem? hy)).2 (h2 i x y hx hy)⟩
end
def OJ (j : JV) : Prop := JOk j ∧ OG (unJ j)
theorem Ysi {x y z : JV} (hx : OJ x) (hy : OJ y) (hz : OJ z) : Tri (Zdg x y) (Zdg y z) (Zdg x z) := by
 rw [← Zij _ _ hx.1 hy.1, ← Zij _ _ hy.1 hz.1, ← Zij _ _ hx.1 hz.1]
 exact Ytm _ _ _ hx.2 hy.2 hz.2
theorem Ygi {x y : JV} (hx : JOk x) (hy : JOk y) : rng (Zdg x y) := by
 rw [← Zij _ _ hx hy]
 exact Ziy _ _
theorem Yly {x y : JV} (hx : JOk x) (hy : JOk y) : Zdg y x = - Zdg x y := by
 rw [← Zij _ _ hx hy, ← Zij _ _ hy hx]
 exact Yr3 _ _
theorem Ydw {x y : JV} (hx : OJ x) (hy : OJ y) : eqJ x y = true ↔ Zdg x y = 0 := by
 rw [← Zij _ _ hx.1 hy.1, ← Zy5 _ _ hx.1 hy.1]
 exact Ym8 _ _ hx.2 hy.2
def Zhw (f g : ByteArray × JV) : Int := lx (Zdb f.1 g.1) (Zdg f.2 g.2)
def Yhp (f g : ByteArray × JV) : Bool := decide (f.1 = g.1) && eqJ f.2 g.2
def Ygh : PEV → Int
 | .name _ => 0
 | .key _ => 1
 | .val _ => 2
 | .idx _ => 3
def Znu : PEV → PEV → Int
 | .name a, .name b => Zdb a b
 | .key a, .key b => Zca Zhw a b
 | .val a, .val b => Zdg a b
 | .idx a, .idx b => Zbw a b
 | _, _ => 0
def Zaf (p q : PEV) : Int := lx (Zbw (Ygh p) (Ygh q)) (Znu p q)
def Zke : PEV → PEV → Bool
 | .name a, .name b => decide (a = b)
 | .key a, .key b => Zfa Yhp a b
 | .val a, .val b => eqJ a b
 | .idx a, .idx b => decide (a = b)
 | _, _ => false
def JPE : PEV → Prop
 | .key fl => ∀ f ∈ fl, JOk f.2
 | .val j => JOk j
 | _ => True
def OPE : PEV → Prop
 | .key fl => ∀ f ∈ fl, OJ f.2
 | .val j => OJ j
 | _ => True
theorem OPE.j {p : PEV} (h : OPE p) : JPE p := by
 cases p with
 | key fl => exact fun f hf => (h f hf).1
 | val j => exact h.1
 | _ => trivial
theorem Yr0 {f g : ByteArray × JV} (h : JOk f.2) (h' : JOk g.2) : rng (Zhw f g) := Zg7 (Zh6 _ _) (Ygi h h')
theorem Ysh {f g k : ByteArray × JV} (hf : OJ f.2) (hg : OJ g.2) (hk : OJ k.2) : Tri (Zhw f g) (Zhw g k) (Zhw f k) :=
 Zjl (Znl _ _ _) (Ygi hf.1 hg.1) (Ygi hg.1 hk.1) (Ygi hf.1 hk.1) (fun _ _ => Ysi hf hg hk)
theorem Zjz {p q : PEV} (hp : JPE p) (hq : JPE q) : rng (Znu p q) := by
 cases p <;> cases q <;> first
  | exact .inr (.inl rfl)
  | exact Zh6 _ _
  | exact Zc4 _ _
  | exact Ygi hp hq
  | exact Ygj fun x hx y hy => Yr0 (hp x hx) (hq y hy)
theorem Ysk {p q r : PEV} (hp : OPE p) (hq : OPE q) (hr : OPE r) : Tri (Zaf p q) (Zaf q r) (Zaf p r) := by
 refine Zjl (Zel _ _ _) (Zjz hp.j hq.j) (Zjz hq.j hr.j) (Zjz hp.j hr.j) (fun h1 h2 => ?_)
 rw [cmpI_zero] at h1 h2
 cases p <;> cases q <;> first | (exfalso; revert h1; simp [Ygh]; done) | skip
 all_goals cases r <;> first | (exfalso; revert h2; simp [Ygh]; done) | skip
 ·exact Znl _ _ _
 ·exact Ysj (P := fun f : ByteArray × JV => OJ f.2) (fun x y z => Ysh) _ _ _ hp hq hr
 ·exact Ysi hp hq hr
 ·exact Zel _ _ _
theorem Yo7 {p q : PEV} (hp : JPE p) (hq : JPE q) : Zaf q p = - Zaf p q := by
 unfold Zaf
 have h : Znu q p = - Znu p q := by
  cases p <;> cases q <;> first
   | rfl
   | exact Zgi _ _
   | exact Zdf _ _
   | exact Yly hp hq
   | exact Yg8 fun x hx y hy => by unfold Zhw; rw [Zgi x.1, Yly (hp x hx) (hq y hy), Zkt]
 rw [h, Zdf (Ygh p), Zkt]
theorem Zy1 {p q : PEV} (hp : OPE p) (hq : OPE q) : Zke p q = true ↔ Zaf p q = 0 := by
 unfold Zaf
 rw [Zc9, cmpI_zero]
 cases p <;> cases q <;> first
  | (simp [Zke, Ygh, Znu]; done)
  | skip
 ·simp [Zke, Ygh, Znu, cmpS_zero]
 ·show Zfa Yhp _ _ = true ↔ _ ∧ Zca Zhw _ _ = 0
  rw [Zm7 (c := Zhw) fun x hx y hy => ?_]
  ·exact ⟨fun h => ⟨rfl, h⟩, fun h => h.2⟩
  ·unfold Yhp Zhw
   rw [Zc9, Bool.and_eq_true, decide_eq_true_eq, cmpS_zero, Ydw (hp x hx) (hq y hy)]
 ·show eqJ _ _ = true ↔ _ ∧ Zdg _ _ = 0
  rw [Ydw hp hq]
  exact ⟨fun h => ⟨rfl, h⟩, fun h => h.2⟩
 ·simp [Zke, Ygh, Znu, cmpI_zero]
end Go.Proofs.YtgmahieoiifpfaaGreat
end
namespace Go.Proofs.YtgmahieoiifpfaaGreat
open Go.RowKit
def Zeb (f : ByteArray × JV) : PD := .agg [.val (.string f.1), dvV f.2]
def Ycj (fl : List (ByteArray × JV)) : PD := .sl 2 32 (fl.map Zeb)
def Za4 : PEV → PD
 | .name s => .agg [.ptr (.val (.string s)), Zlj, Zlj, Zlj]
 | .key fl => .agg [Zlj, .ptr (Ycj fl), Zlj, Zlj]
 | .val j => .agg [Zlj, Zlj, .ptr (dvV j), Zlj]
 | .idx n => .agg [Zlj, Zlj, Zlj, .ptr (.val (.int .i64 n))]
theorem Zrk {x : EV} (h : Fits (pdE x)) : JPE (Zaz x) := by
 obtain ⟨w0, F0, v0, h0⟩ := h
 obtain ⟨ak, ck, a, c, c0, c1, c2, c3, c4, c5, e, h1, h2, h3, hk, h5, h6, hl, hv⟩ := Yow h0
 unfold Zaz
 by_cases k1 : x.kind = 1
 ·rw [if_pos k1]
  intro f hf
  unfold flE at hf
  have hm := (List.of_mem_zip hf).2
  obtain ⟨y, hy, ey⟩ := List.mem_map.1 hm
  rw [← ey]
  refine Zk5 y ?_
  rcases hl with hl | ⟨b, o, hb, ha, hvs⟩
  ·rw [hl] at hy; cases hy
  ·obtain ⟨i, hi⟩ := List.getElem?_of_mem hy
   obtain ⟨u, hu, _⟩ := (Zko _ hvs).at_ (Zfi hi)
   exact IsV.gok y (Zpj y hu)
 ·rw [if_neg k1]
  by_cases k2 : x.kind = 2
  ·rw [if_pos k2]; exact Zk5 x.v (IsV.gok x.v hv)
  ·rw [if_neg k2]
   by_cases k3 : x.kind = 3
   ·rw [if_pos k3]; trivial
   ·rw [if_neg k3]; trivial
theorem Zwt (a b : List (ByteArray × JV)) : PCall Tryz.prog 212 [Ycj a, Ycj b] (.val (.int .i64 (Zca Zhw a b))) := by
 refine Zay fun hfit => ?_
 unfold Ycj at hfit ⊢
 have b1 := (hfit (.sl 2 32 (a.map Zeb)) (by simp)).sl.2.1
 clear hfit
 have la : (a.map Zeb).length = a.length := by simp
 have lb : (b.map Zeb).length = b.length := by simp
 have ga : ∀ {i : Nat} {f : ByteArray × JV}, a[i]? = some f → (a.map Zeb)[((i : Nat) : Int).toNat]? = some (Zeb f) := fun h => by simp [h]
 have gb : ∀ {i : Nat} {f : ByteArray × JV}, b[i]? = some f → (b.map Zeb)[((i : Nat) : Int).toNat]? = some (Zeb f) := fun h => by simp [h]
 rw [la] at b1
 generalize a.map Zeb = da at *
 generalize b.map Zeb = db at *
 refine Zaa Tryz.func212 rfl Tryz.ntmps212 rfl (fun X => ?_)
 refine wk ?_
 refine Zaq (ι := { j : Nat // (j ≤ a.length ∧ j ≤ b.length) ∧ ∀ i x y, i < j → a[i]? = some x → b[i]? = some y → Zhw x y = 0 })
  (fun j => [(0, .dat (.sl 2 32 da)), (1, .dat (.sl 2 32 db)), (5, .dat (.val (.int .i64 (j.1 : Nat))))])
  (fun _ => []) (fun j => a.length - j.1) ⟨0, ⟨Nat.zero_le _, Nat.zero_le _⟩, fun i _ _ h => absurd h (Nat.not_lt_zero i)⟩ id ?_ ?_
 ·exact sb
 rintro ⟨j, ⟨hj, hj'⟩, hall⟩
 have hend : j = a.length ∨ j = b.length → Zca Zhw a b = Zbw a.length b.length := fun h => Ztv hj hj' hall h
 by_cases hlt : j < a.length
 ·have g1 : decide (((da.length : Nat) : Int) ≤ (j : Int)) = false := decide_eq_false (by omega)
  by_cases hlt' : j < b.length
  ·have g2 : decide (((db.length : Nat) : Int) ≤ (j : Int)) = false := decide_eq_false (by omega)
   obtain ⟨x, hx⟩ : ∃ x, a[j]? = some x := ⟨_, List.getElem?_eq_getElem hlt⟩
   obtain ⟨y, hy⟩ : ∃ y, b[j]? = some y := ⟨_, List.getElem?_eq_getElem hlt'⟩
   have i1 := ga hx
   have i2 := gb hy
   have c1 := Zd8 x.1 y.1
   have c2 := Zt1 x.2 y.2
   by_cases hs : Zdb x.1 y.1 = 0
   ·have g3 : decide (Zdb x.1 y.1 ≠ 0) = false := decide_eq_false (by simp [hs])
    by_cases hv : Zdg x.2 y.2 = 0
    ·have g4 : decide (Zdg x.2 y.2 ≠ 0) = false := decide_eq_false (by simp [hv])
     refine wk ?_
     refine Zan ?_
     refine ⟨⟨j + 1, ⟨by omega, by omega⟩, fun i x' y' hi hx' hy' => ?_⟩, id, by simp only; omega, ?_⟩
     ·by_cases e : i = j
      ·subst e
       rw [hx] at hx'; rw [hy] at hy'
       cases hx'; cases hy'
       unfold Zhw
       rw [Zci hs, hv]
      ·exact hall i x' y' (by omega) hx' hy'
     exact sb
    ·have g4 : decide (Zdg x.2 y.2 ≠ 0) = true := decide_eq_true hv
     have e : Zhw x y = Zdg x.2 y.2 := by unfold Zhw; rw [Zci hs]
     rw [Zmz hall hx hy (by rw [e]; exact hv), e]
     exact wke
   ·have g3 : decide (Zdb x.1 y.1 ≠ 0) = true := decide_eq_true hs
    have e : Zhw x y = Zdb x.1 y.1 := by unfold Zhw; rw [Zeh hs]
    rw [Zmz hall hx hy (by rw [e]; exact hs), e]
    exact wke
  ·have g2 : decide (((db.length : Nat) : Int) ≤ (j : Int)) = true := decide_eq_true (by omega)
   rw [hend (.inr (by omega)), Zfe (by omega)]
   exact wke
 ·have g1 : decide (((da.length : Nat) : Int) ≤ (j : Int)) = true := decide_eq_true (by omega)
  by_cases hlt' : j < b.length
  ·have g2 : decide (((db.length : Nat) : Int) ≤ (j : Int)) = false := decide_eq_false (by omega)
   rw [hend (.inl (by omega)), Zgg (by omega)]
   exact wke
  ·have g2 : decide (((db.length : Nat) : Int) ≤ (j : Int)) = true := decide_eq_true (by omega)
   rw [hend (.inl (by omega)), cmpI_zero.2 (by omega)]
   exact wke
theorem Ybd (a b : List (ByteArray × JV)) : PCall Tryz.prog 241 [Ycj a, Ycj b] (.val (.bool (Zfa Yhp a b))) := by
 refine Zay fun hfit => ?_
 unfold Ycj at hfit ⊢
 have b1 := (hfit (.sl 2 32 (a.map Zeb)) (by simp)).sl.2.1
 clear hfit
 have la : (a.map Zeb).length = a.length := by simp
 have lb : (b.map Zeb).length = b.length := by simp
 have ga : ∀ {i : Nat} {f : ByteArray × JV}, a[i]? = some f → (a.map Zeb)[((i : Nat) : Int).toNat]? = some (Zeb f) := fun h => by simp [h]
 have gb : ∀ {i : Nat} {f : ByteArray × JV}, b[i]? = some f → (b.map Zeb)[((i : Nat) : Int).toNat]? = some (Zeb f) := fun h => by simp [h]
 rw [la] at b1
 generalize a.map Zeb = da at *
 generalize b.map Zeb = db at *
 refine Zaa Tryz.func241 rfl Tryz.ntmps241 rfl (fun X => ?_)
 by_cases hl : a.length = b.length
 rotate_left
 ·have g1 : decide (((da.length : Nat) : Int) ≠ ((db.length : Nat) : Int)) = true := decide_eq_true (by omega)
  rw [Zm8 hl]
  exact wke
 have g1 : decide (((da.length : Nat) : Int) ≠ ((db.length : Nat) : Int)) = false := decide_eq_false (by omega)
 refine wk ?_
 refine Zaq (ι := { j : Nat // j ≤ a.length ∧ ∀ i x y, i < j → a[i]? = some x → b[i]? = some y → Yhp x y = true })
  (fun j => [(0, .dat (.sl 2 32 da)), (1, .dat (.sl 2 32 db)), (12, .dat (.val (.int .i64 ((da.length : Nat) : Int)))), (13, .dat (.val (.int .i64 (j.1 : Nat))))])
  (fun _ => []) (fun j => a.length - j.1) ⟨0, Nat.zero_le _, fun i _ _ h => absurd h (Nat.not_lt_zero i)⟩ id ?_ ?_
 ·exact sb
 rintro ⟨j, hj, hall⟩
 by_cases hlt : j < a.length
 ·have g2 : decide ((j : Int) < ((da.length : Nat) : Int)) = true := decide_eq_true (by omega)
  obtain ⟨x, hx⟩ : ∃ x, a[j]? = some x := ⟨_, List.getElem?_eq_getElem hlt⟩
  obtain ⟨y, hy⟩ : ∃ y, b[j]? = some y := ⟨_, List.getElem?_eq_getElem (by omega)⟩
  have i1 := ga hx
  have i2 := gb hy
  have c2 := Zy6 x.2 y.2
  by_cases hs : x.1 = y.1
  ·have g3 : decide (x.1 ≠ y.1) = false := decide_eq_false (by simp [hs])
   have g3' : (!decide (x.1 = y.1)) = false := by simp [hs]
   cases hv : eqJ x.2 y.2 with
   | true =>
    rw [hv] at c2
    refine wk ?_
    refine Zan ?_
    refine ⟨⟨j + 1, by omega, fun i x' y' hi hx' hy' => ?_⟩, id, by simp only; omega, ?_⟩
    ·by_cases e : i = j
     ·subst e
      rw [hx] at hx'; rw [hy] at hy'
      cases hx'; cases hy'
      unfold Yhp
      rw [hv]; simp [hs]
     ·exact hall i x' y' (by omega) hx' hy'
    exact sb
   | false =>
    rw [hv] at c2
    rw [Zlq hx hy (by unfold Yhp; rw [hv]; simp)]
    exact wke
  ·have g3 : decide (x.1 ≠ y.1) = true := decide_eq_true hs
   have g3' : (!decide (x.1 = y.1)) = true := by simp [hs]
   rw [Zlq hx hy (by unfold Yhp; simp [hs])]
   exact wke
 ·have g2 : decide ((j : Int) < ((da.length : Nat) : Int)) = false := decide_eq_false (by omega)
  rw [Zm6 hl (fun i x y hx hy => hall i x y (by have := (List.getElem?_eq_some_iff.1 hx).1; omega) hx hy)]
  exact wke
theorem Zh4 (p q : PEV) : PCall Tryz.prog 160 [Za4 p, Za4 q] (.val (.int .i64 (Zaf p q))) := by
 cases p with
 | name a =>
  cases q with
  | name b =>
   have c1 := Zd8 a b
   have e : Zaf (.name a) (.name b) = Zdb a b := rfl
   rw [e]
   unfold Za4
   refine Zaa Tryz.func160 rfl Tryz.ntmps160 rfl (fun X => ?_)
   exact wke
  | _ =>
   refine Zaa Tryz.func160 rfl Tryz.ntmps160 rfl (fun X => ?_)
   unfold Za4
   exact wke
 | key a =>
  cases q with
  | key b =>
   have c1 := Zwt a b
   have e : Zaf (.key a) (.key b) = Zca Zhw a b := rfl
   rw [e]
   unfold Za4
   refine Zaa Tryz.func160 rfl Tryz.ntmps160 rfl (fun X => ?_)
   exact wke
  | _ =>
   refine Zaa Tryz.func160 rfl Tryz.ntmps160 rfl (fun X => ?_)
   unfold Za4
   exact wke
 | val a =>
  cases q with
  | val b =>
   have c1 := Zt1 a b
   have e : Zaf (.val a) (.val b) = Zdg a b := rfl
   rw [e]
   unfold Za4
   refine Zaa Tryz.func160 rfl Tryz.ntmps160 rfl (fun X => ?_)
   exact wke
  | _ =>
   refine Zaa Tryz.func160 rfl Tryz.ntmps160 rfl (fun X => ?_)
   unfold Za4
   exact wke
 | idx a =>
  cases q with
  | idx b =>
   have e : Zaf (.idx a) (.idx b) = Zbw a b := rfl
   rw [e]
   unfold Za4
   refine Zaa Tryz.func160 rfl Tryz.ntmps160 rfl (fun X => ?_)
   by_cases h1 : a < b
   ·have g1 : decide (a < b) = true := decide_eq_true h1
    rw [Zgg h1]
    exact wke
   ·have g1 : decide (a < b) = false := decide_eq_false h1
    by_cases h2 : a = b
    ·have g2 : decide (a = b) = true := decide_eq_true h2
     rw [cmpI_zero.2 h2]
     exact wke
    ·have g2 : decide (a = b) = false := decide_eq_false h2
     rw [Zfe (by omega)]
     exact wke
  | _ =>
   refine Zaa Tryz.func160 rfl Tryz.ntmps160 rfl (fun X => ?_)
   unfold Za4
   exact wke
theorem Zq2 (p q : PEV) : PCall Tryz.prog 220 [Za4 p, Za4 q] (.val (.bool (Zke p q))) := by
 cases p with
 | name a =>
  cases q with
  | name b =>
   have e : Zke (.name a) (.name b) = decide (a = b) := rfl
   rw [e]
   unfold Za4
   refine Zaa Tryz.func220 rfl Tryz.ntmps220 rfl (fun X => ?_)
   exact wke
  | _ =>
   refine Zaa Tryz.func220 rfl Tryz.ntmps220 rfl (fun X => ?_)
   unfold Za4
   exact wke
 | key a =>
  cases q with
  | key b =>
   have c1 := Ybd a b
   have e : Zke (.key a) (.key b) = Zfa Yhp a b := rfl
   rw [e]
   unfold Za4
   refine Zaa Tryz.func220 rfl Tryz.ntmps220 rfl (fun X => ?_)
   exact wke
  | _ =>
   refine Zaa Tryz.func220 rfl Tryz.ntmps220 rfl (fun X => ?_)
   unfold Za4
   exact wke
 | val a =>
  cases q with
  | val b =>
   have c1 := Zy6 a b
   have e : Zke (.val a) (.val b) = eqJ a b := rfl
   rw [e]
   unfold Za4
   refine Zaa Tryz.func220 rfl Tryz.ntmps220 rfl (fun X => ?_)
   exact wke
  | _ =>
   refine Zaa Tryz.func220 rfl Tryz.ntmps220 rfl (fun X => ?_)
   unfold Za4
   exact wke
 | idx a =>
  cases q with
  | idx b =>
   have e : Zke (.idx a) (.idx b) = decide (a = b) := rfl
   rw [e]
   unfold Za4
   refine Zaa Tryz.func220 rfl Tryz.ntmps220 rfl (fun X => ?_)
   exact wke
  | _ =>
   refine Zaa Tryz.func220 rfl Tryz.ntmps220 rfl (fun X => ?_)
   unfold Za4
   exact wke
theorem Znh (p q : PEV) : PCall Tryz.prog 210 [Za4 p, Za4 q] (.val (.bool (decide (Zaf p q < 0)))) := by
 have c1 := Zh4 p q
 generalize Zaf p q = c at *
 refine Zaa Tryz.func210 rfl Tryz.ntmps210 rfl (fun X => ?_)
 cases p <;> cases q
 all_goals
  unfold Za4 at *
  exact wke
theorem Zxj (l : List GV) (w : World) (a1 : Option Addr) (c1 : Nat) (hl88 : l.length * 88 ≤ 140737488351232) (hl : l = [] ∨ ∃ b o, Btw 0 w.heap.size b ∧ a1 = some ⟨b, o, none⟩ ∧ IsVs w (Btw 0 w.heap.size) l b o) :
  Calls Tryz.prog 94 #[.slice a1 l.length c1] w fun e w' => e = .returned (.bool (Zmj l)) ∧ Below w.heap.size w w' := by
 go_enter Tryz.func94, Tryz.ntmps94
 go_wp2_with fail
 go_loopw [7] (fun i wr => ∃ k : Nat, k ≤ l.length ∧ i = .int .i64 (k : Nat) ∧ Below w.heap.size w wr ∧ ∀ y ∈ l.take k, Zje y = true) (fun i _ => l.length - (intOf i).toNat)
 case atStart => exact ⟨0, Nat.zero_le _, rfl, Below.refl _ _, by simp⟩
 case round =>
  obtain ⟨k, hk, rfl, hB, hall⟩ := hrel
  by_cases hlt : k < l.length
  ·obtain ⟨b, o, hb, rfl, hcells⟩ := Zxt hl (by omega)
   obtain ⟨y, hy⟩ : ∃ y, l[k]? = some y := ⟨l[k], by simp [hlt]⟩
   obtain ⟨e0, f0, e1, f1, g0, g1, g2, g3, g4, g5, hyv⟩ := (IsVs.keep (S' := Btw 0 wr.heap.size) (Btw.kept hB) (Btw.mono (Nat.le_refl _) hB.size) l b o hb hcells).cells hy
   have hc := Zxk y
   have hyA := hyv.alloc_ (.cells #[.int .i64 y.kind, .int .i64 y.n, .float .f64 y.f, .string y.s, .slice e0 y.keys.length f0, .slice e1 y.l.length f1] 27)
   have HY := Lib.hid (And.intro hy (And.intro hall hB))
   have j0 : (0 : Int) ≤ (k : Int) := by omega
   have j1 : (k : Int) < (l.length : Int) := by omega
   have hs := hB.size
   clear hy hall hB hcells hyv
   go_wp2_with (go_at_call 93; (with_reducible refine (hc.use _ _ ?_).mono ?_))
   ·simpa using hyA
   rintro e w2 ⟨rfl, hB2'⟩
   obtain ⟨hy, hall, hB⟩ := HY.out
   have hB2 : Below w.heap.size w w2 := (hB.alloc hs (.cells #[.int .i64 y.kind, .int .i64 y.n, .float .f64 y.f, .string y.s, .slice e0 y.keys.length f0, .slice e1 y.l.length f1] 27)).trans (hB2'.mono (by simp; omega))
   clear g0 g1 g2 g3 g4 g5 hyA hc HY hB2'
   cases ho : Zje y with
   | false =>
    have hf : Zmj l = false := by
     cases h : Zmj l with
     | false => rfl
     | true => rw [ordL_iff.1 h y (List.mem_of_getElem? hy)] at ho; cases ho
    go_wp2_with fail
    go_ret
    rw [hf]
    exact ⟨rfl, hB2⟩
   | true =>
    have HF := Lib.hid (show ∀ z ∈ l.take (k + 1), Zje z = true from fun z hz => by
     rw [List.take_add_one, hy] at hz
     rcases List.mem_append.1 hz with hz | hz
     ·exact hall z hz
     ·simp at hz; subst hz; exact ho)
    clear hall hy hB
    go_wp2_with fail
    go_roundw
    case rel => exact ⟨k + 1, hlt, by go_num, hB2, HF.out⟩
    case measure => simp [intOf]; omega
  ·have hkl : k = l.length := by omega
   subst hkl
   have ht : Zmj l = true := ordL_iff.2 (by rw [List.take_length] at hall; exact hall)
   have HT := Lib.hid ht
   clear ht hall
   go_wp2_with fail
   go_ret
   rw [HT.out]
   exact ⟨rfl, hB⟩
def rkE (x : EV) : Int := if x.kind = 1 then 1 else if x.kind = 2 then 2 else if x.kind = 3 then 3 else 0
def kvE (x : EV) : List (ByteArray × GV) := x.keys.zip x.l
def Znx (f g : ByteArray × GV) : Int := lx (Zdb f.1 g.1) (Zdp (Zav f.2) (Zav g.2))
def Ylf (f g : ByteArray × GV) : Bool := decide (f.1 = g.1) && eqP (Zav f.2) (Zav g.2)
def Yc0 (x y : EV) : Int := if rkE x = 1 then Zca Znx (kvE x) (kvE y) else if rkE x = 2 then Zdp (Zav x.v) (Zav y.v) else if rkE x = 3 then Zbw x.n y.n else Zdb x.s y.s
def Zdu (x y : EV) : Int := lx (Zbw (rkE x) (rkE y)) (Yc0 x y)
def eqE (x y : EV) : Bool := if rkE x ≠ rkE y then false else if rkE x = 1 then Zfa Ylf (kvE x) (kvE y) else if rkE x = 2 then eqP (Zav x.v) (Zav y.v) else if rkE x = 3 then decide (x.n = y.n) else decide (x.s = y.s)
theorem Zgv (x : EV) : (x.kind = 1 ∧ rkE x = 1 ∧ Zaz x = .key (flE x)) ∨ (x.kind = 2 ∧ rkE x = 2 ∧ Zaz x = .val (Za1 x.v)) ∨ (x.kind = 3 ∧ rkE x = 3 ∧ Zaz x = .idx x.n) ∨ (x.kind ≠ 1 ∧ x.kind ≠ 2 ∧ x.kind ≠ 3 ∧ rkE x = 0 ∧ Zaz x = .name x.s) := by
 unfold rkE Zaz
 by_cases h1 : x.kind = 1
 ·simp [h1]
 ·by_cases h2 : x.kind = 2
  ·simp [h2]
  ·by_cases h3 : x.kind = 3
   ·simp [h3]
   ·simp [h1, h2, h3]
theorem Ykg (x : EV) : Ygh (Zaz x) = rkE x := by
 rcases Zgv x with h | h | h | h
 ·rw [h.2.2, h.2.1]; rfl
 ·rw [h.2.2, h.2.1]; rfl
 ·rw [h.2.2, h.2.1]; rfl
 ·rw [h.2.2.2.2, h.2.2.2.1]; rfl
theorem Zlu (x : EV) : flE x = (kvE x).map fun f => (f.1, Za1 f.2) := by
 unfold flE kvE
 rw [List.zip_map_right]
 rfl
theorem Zu5 {x : EV} (h : JPE (Zaz x)) (hk : Zaz x = .key (flE x)) : ∀ f ∈ kvE x, JOk (Za1 f.2) := by
 rw [hk] at h
 intro f hf
 exact h (f.1, Za1 f.2) (by rw [Zlu]; exact List.mem_map.2 ⟨f, hf, rfl⟩)
theorem Yk8 {a b : GV} (h1 : JOk (Za1 a)) (h2 : JOk (Za1 b)) : Zdg (Za1 a) (Za1 b) = Zdp (Zav a) (Zav b) := by
 rw [← Zij _ _ h1 h2, Zd9, Zd9]
theorem Yqp {a b : GV} (h1 : JOk (Za1 a)) (h2 : JOk (Za1 b)) : eqJ (Za1 a) (Za1 b) = eqP (Zav a) (Zav b) := by
 rw [← Zy5 _ _ h1 h2, Zd9, Zd9]
theorem Zg4 {x y : EV} (hx : JPE (Zaz x)) (hy : JPE (Zaz y)) : Zaf (Zaz x) (Zaz y) = Zdu x y := by
 unfold Zaf Zdu
 rw [Ykg, Ykg]
 by_cases hr : rkE x = rkE y
 ·rw [Zci (cmpI_zero.2 hr), Zci (cmpI_zero.2 hr)]
  unfold Yc0
  rcases Zgv x with h | h | h | h <;> rcases Zgv y with h' | h' | h' | h' <;> first
   | (exfalso; omega)
   | skip
  ·rw [h.2.2, h'.2.2, if_pos h.2.1]
   show Zca Zhw _ _ = _
   rw [Zlu, Zlu]
   exact Ztw _ fun f hf g hg => by
    show lx _ (Zdg (Za1 f.2) (Za1 g.2)) = lx _ _
    rw [Yk8 (Zu5 hx h.2.2 f hf) (Zu5 hy h'.2.2 g hg)]
  ·rw [h.2.2, h'.2.2, if_neg (by omega), if_pos h.2.1]
   rw [h.2.2] at hx
   rw [h'.2.2] at hy
   exact Yk8 hx hy
  ·rw [h.2.2, h'.2.2, if_neg (by omega), if_neg (by omega), if_pos h.2.1]
   rfl
  ·rw [h.2.2.2.2, h'.2.2.2.2, if_neg (by omega), if_neg (by omega), if_neg (by omega)]
   rfl
 ·rw [Zeh (fun h => hr (cmpI_zero.1 h)), Zeh (fun h => hr (cmpI_zero.1 h))]
theorem Ym7 {p q : PEV} (h : Ygh p ≠ Ygh q) : Zke p q = false := by
 cases p <;> cases q <;> first | rfl | exact absurd rfl h
theorem Ym4 {x y : EV} (hx : JPE (Zaz x)) (hy : JPE (Zaz y)) : Zke (Zaz x) (Zaz y) = eqE x y := by
 unfold eqE
 by_cases hr : rkE x = rkE y
 ·rw [if_neg (by simpa using hr)]
  rcases Zgv x with h | h | h | h <;> rcases Zgv y with h' | h' | h' | h' <;> first
   | (exfalso; omega)
   | skip
  ·rw [h.2.2, h'.2.2, if_pos h.2.1]
   show Zfa Yhp _ _ = _
   rw [Zlu, Zlu]
   exact Zyz _ fun f hf g hg => by
    show (decide _ && eqJ (Za1 f.2) (Za1 g.2)) = (decide _ && _)
    rw [Yqp (Zu5 hx h.2.2 f hf) (Zu5 hy h'.2.2 g hg)]
  ·rw [h.2.2, h'.2.2, if_neg (by omega), if_pos h.2.1]
   rw [h.2.2] at hx
   rw [h'.2.2] at hy
   exact Yqp hx hy
  ·rw [h.2.2, h'.2.2, if_neg (by omega), if_neg (by omega), if_pos h.2.1]
   rfl
  ·rw [h.2.2.2.2, h'.2.2.2.2, if_neg (by omega), if_neg (by omega), if_neg (by omega)]
   rfl
 ·rw [if_pos hr]
  exact Ym7 (by rw [Ykg, Ykg]; exact hr)
theorem Yp4 {x : EV} (h : JPE (Zaz x)) (h1 : Zje (Za0 x).v = true) (h2 : Zmj (Za0 x).l = true) : OPE (Zaz x) := by
 rcases Zgv x with k | k | k | k
 ·rw [k.2.2] at h ⊢
  intro f hf
  rw [Zlu] at hf
  obtain ⟨g, hg, rfl⟩ := List.mem_map.1 hf
  have hj : JOk (Za1 g.2) := Zu5 (by rw [k.2.2]; exact h) k.2.2 g hg
  refine ⟨hj, Yp3 _ hj ?_⟩
  rw [Zd9]
  rw [show (Za0 x).l = Zco (x.l.take (min x.keys.length x.l.length)) by unfold Za0; rw [if_pos k.1]] at h2
  refine ordL_iff.1 h2 _ ?_
  unfold kvE at hg
  obtain ⟨i, hi⟩ := List.getElem?_of_mem hg
  rw [List.getElem?_zip_eq_some] at hi
  have b1 := (List.getElem?_eq_some_iff.1 hi.1).1
  have b2 := (List.getElem?_eq_some_iff.1 hi.2).1
  refine List.mem_of_getElem? (i := i) ?_
  rw [Ztr, List.getElem?_take_of_lt (by omega), hi.2]
  rfl
 ·rw [k.2.2] at h ⊢
  refine ⟨h, Yp3 _ h ?_⟩
  rw [Zd9]
  rwa [show (Za0 x).v = Zav x.v by unfold Za0; rw [if_neg (by omega), if_pos k.1]] at h1
 ·rw [k.2.2]; trivial
 ·rw [k.2.2.2.2]; trivial
end Go.Proofs.YtgmahieoiifpfaaGreat
