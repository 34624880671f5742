/- Part 13 of what the proof rests on. -/
import Derived.Laws.CopyRow
import Derived.Lib.Overlaps
import Derived.Lib.AppendZerosOnto
import Derived.Shelf.Spec.SlicesInsert
import Derived.Test.YtbbacpdbbmjblaaGreatFeD6
import Derived.Test.YtbbacpdbbmjblaaGreatFeD10
import Derived.Test.YtbbacpdbbmjblaaGreatFeD11
section
set_option linter.unusedVariables false
namespace Go.Proofs.YtbbacpdbbmjblaaGreat
set_option linter.unusedSimpArgs false
section
variable {α : Type} (c : α → α → Int)
/-- Putting p into the sorted list. -/
def insL_ : List α → α → List α
  | [], p => [p]
  | m :: r, p => if c m p < 0 then m :: insL_ r p else if c m p = 0 then m :: r else p :: m :: r
def hasL_ (l : List α) (p : α) : Bool := l.any fun m => decide (c m p = 0)
def locL_ : List α → α → Nat
  | [], _ => 0
  | m :: r, p => if c m p < 0 then locL_ r p + 1 else 0
def fndL_ : List α → α → Bool
  | [], _ => false
  | m :: r, p => if c m p < 0 then fndL_ r p else decide (c m p = 0)
def setL_ (l : List α) : List α := l.foldl (insL_ c) []
variable {c}
theorem locL_le : ∀ (l : List α) (p : α), locL_ c l p ≤ l.length
  | [], _ => Nat.le_refl _
  | m :: r, p => by
    unfold locL_
    split
    · simpa using locL_le r p
    · simp
theorem sins_loc : ∀ (l : List α) (p : α), insL_ c l p = if fndL_ c l p then l else l.take (locL_ c l p) ++ p :: l.drop (locL_ c l p)
  | [], p => by simp [insL_, fndL_, locL_]
  | m :: r, p => by
    unfold insL_ fndL_ locL_
    by_cases h : c m p < 0
    · rw [if_pos h, if_pos h, if_pos h, sins_loc r p]
      split <;> simp
    · rw [if_neg h, if_neg h, if_neg h]
      by_cases h' : c m p = 0
      · simp [h']
      · simp [h']
theorem locL_lt : ∀ (l : List α) (p : α) (i : Nat) (x : α), i < locL_ c l p → l[i]? = some x → c x p < 0
  | [], _, _, _, h, _ => by simp [locL_] at h
  | m :: r, p, i, x, h, hx => by
    unfold locL_ at h
    by_cases h' : c m p < 0
    · rw [if_pos h'] at h
      cases i with
      | zero => simp at hx; subst hx; exact h'
      | succ i => exact locL_lt r p i x (by omega) (by simpa using hx)
    · rw [if_neg h'] at h; omega
/-- Sorted: each stands before all behind it. -/
def Srt (c : α → α → Int) (l : List α) : Prop := l.Pairwise fun a b => c a b < 0
structure OrdL (c : α → α → Int) (P : α → Prop) : Prop where
  tri : ∀ x y z, P x → P y → P z → Tri (c x y) (c y z) (c x z)
  swp : ∀ x y, P x → P y → c y x = - c x y
theorem fndL_at : ∀ (l : List α) (p : α), fndL_ c l p = match l[locL_ c l p]? with | some x => decide (c x p = 0) | none => false
  | [], _ => rfl
  | m :: r, p => by
    unfold fndL_ locL_
    by_cases h : c m p < 0
    · rw [if_pos h, if_pos h, fndL_at r p]
      simp
    · rw [if_neg h, if_neg h]
      rfl
theorem sins_mem : ∀ {l : List α} {p x : α}, x ∈ insL_ c l p → x = p ∨ x ∈ l
  | [], p, x, h => by simp [insL_] at h; exact .inl h
  | m :: r, p, x, h => by
    unfold insL_ at h
    split at h
    · rcases List.mem_cons.1 h with h | h
      · exact .inr (by simp [h])
      · rcases sins_mem h with h | h
        · exact .inl h
        · exact .inr (by simp [h])
    · split at h
      · exact .inr h
      · rcases List.mem_cons.1 h with h | h
        · exact .inl h
        · exact .inr h
variable {P : α → Prop}
theorem sins_P {l : List α} {p : α} (hl : ∀ x ∈ l, P x) (hp : P p) : ∀ x ∈ insL_ c l p, P x := fun x hx => by
  rcases sins_mem hx with rfl | h
  · exact hp
  · exact hl x h
theorem OrdL.lt (O : OrdL c P) {x y z : α} (hx : P x) (hy : P y) (hz : P z) (h : c x y < 0) (h' : c y z < 0) : c x z < 0 := by
  obtain ⟨h1, h2, h3, h4, h5, h6, h7⟩ := O.tri x y z hx hy hz
  have := h6 (by omega) (by omega)
  omega
theorem sins_srt (O : OrdL c P) : ∀ {l : List α} {p : α}, (∀ x ∈ l, P x) → P p → Srt c l → Srt c (insL_ c l p)
  | [], p, _, _, _ => by simp [insL_, Srt]
  | m :: r, p, hl, hp, hs => by
    have hm : P m := hl m (by simp)
    have hr : ∀ x ∈ r, P x := fun x hx => hl x (by simp [hx])
    unfold Srt at hs
    rw [List.pairwise_cons] at hs
    unfold insL_
    by_cases h : c m p < 0
    · rw [if_pos h]
      unfold Srt
      rw [List.pairwise_cons]
      refine ⟨fun x hx => ?_, sins_srt O hr hp hs.2⟩
      rcases sins_mem hx with rfl | hx
      · exact h
      · exact hs.1 x hx
    · rw [if_neg h]
      by_cases h' : c m p = 0
      · rw [if_pos h']
        unfold Srt
        rw [List.pairwise_cons]
        exact hs
      · rw [if_neg h']
        have hpm : c p m < 0 := by
          have := O.swp m p hm hp
          omega
        unfold Srt
        rw [List.pairwise_cons, List.pairwise_cons]
        refine ⟨fun x hx => ?_, hs⟩
        rcases List.mem_cons.1 hx with rfl | hx
        · exact hpm
        · exact O.lt hp hm (hr x hx) hpm (hs.1 x hx)
theorem has_cons (m : α) (r : List α) (q : α) : hasL_ c (m :: r) q = (decide (c m q = 0) || hasL_ c r q) := rfl
theorem has_ins (O : OrdL c P) : ∀ {l : List α} {p q : α}, (∀ x ∈ l, P x) → P p → P q → hasL_ c (insL_ c l p) q = (hasL_ c l q || decide (c p q = 0))
  | [], p, q, _, _, _ => by simp [insL_, hasL_]
  | m :: r, p, q, hl, hp, hq => by
    have hm : P m := hl m (by simp)
    have hr : ∀ x ∈ r, P x := fun x hx => hl x (by simp [hx])
    unfold insL_
    by_cases h : c m p < 0
    · rw [if_pos h, has_cons, has_cons, has_ins O hr hp hq, Bool.or_assoc]
    · rw [if_neg h]
      by_cases h' : c m p = 0
      · rw [if_pos h', has_cons]
        have e : c m q = c p q := (O.tri m p q hm hp hq).zp h'
        rw [e]
        cases decide (c p q = 0) <;> cases hasL_ c r q <;> rfl
      · rw [if_neg h', has_cons, Bool.or_comm]
/-- Behind one that does not stand before p, in a sorted list, none equals p or stands before it. -/
theorem srt_gt (O : OrdL c P) {m : α} {r : List α} {p : α} (hm : P m) (hr : ∀ x ∈ r, P x) (hp : P p) (hs : Srt c (m :: r)) (h : ¬ c m p < 0) : ∀ x ∈ r, 0 < c x p := by
  intro x hx
  unfold Srt at hs
  rw [List.pairwise_cons] at hs
  have h1 := hs.1 x hx
  have hP := hr x hx
  obtain ⟨a1, a2, a3, a4, a5, a6, a7⟩ := O.tri x m p hP hm hp
  have := O.swp m x hm hP
  by_cases h0 : c m p = 0
  · have := a5 h0; omega
  · have := a7 (by omega) (by omega); omega
theorem fnd_has (O : OrdL c P) : ∀ {l : List α} {p : α}, (∀ x ∈ l, P x) → P p → Srt c l → fndL_ c l p = hasL_ c l p
  | [], _, _, _, _ => rfl
  | m :: r, p, hl, hp, hs => by
    have hm : P m := hl m (by simp)
    have hr : ∀ x ∈ r, P x := fun x hx => hl x (by simp [hx])
    unfold fndL_
    rw [has_cons]
    by_cases h : c m p < 0
    · rw [if_pos h, fnd_has O hr hp (by unfold Srt at hs ⊢; exact (List.pairwise_cons.1 hs).2)]
      rw [decide_eq_false (by omega)]
      rfl
    · rw [if_neg h]
      have hn : hasL_ c r p = false := by
        unfold hasL_
        rw [List.any_eq_false]
        intro x hx
        have := srt_gt O hm hr hp hs h x hx
        simp; omega
      rw [hn, Bool.or_false]
theorem locL_ge (O : OrdL c P) : ∀ {l : List α} {p : α}, (∀ x ∈ l, P x) → P p → Srt c l → ∀ (i : Nat) (x : α), locL_ c l p ≤ i → l[i]? = some x → ¬ c x p < 0
  | [], _, _, _, _, _, _, _, hx => by simp at hx
  | m :: r, p, hl, hp, hs, i, x, hi, hx => by
    have hm : P m := hl m (by simp)
    have hr : ∀ x ∈ r, P x := fun x hx => hl x (by simp [hx])
    unfold locL_ at hi
    by_cases h : c m p < 0
    · rw [if_pos h] at hi
      cases i with
      | zero => omega
      | succ i => exact locL_ge O hr hp (by unfold Srt at hs ⊢; exact (List.pairwise_cons.1 hs).2) i x (by omega) (by simpa using hx)
    · cases i with
      | zero => simp at hx; subst hx; exact h
      | succ i =>
        have := srt_gt O hm hr hp hs h x (List.mem_of_getElem? (by simpa using hx))
        omega
theorem len_ins (O : OrdL c P) {l : List α} {p : α} (hl : ∀ x ∈ l, P x) (hp : P p) (hs : Srt c l) : (insL_ c l p).length = l.length + if hasL_ c l p then 0 else 1 := by
  rw [sins_loc, fnd_has O hl hp hs]
  have := locL_le (c := c) l p
  split
  · rfl
  · simp; omega
theorem foldl_ins (O : OrdL c P) : ∀ (l acc : List α), (∀ x ∈ l, P x) → (∀ x ∈ acc, P x) → Srt c acc → (∀ x ∈ l.foldl (insL_ c) acc, P x) ∧ Srt c (l.foldl (insL_ c) acc) ∧ ∀ q, P q → hasL_ c (l.foldl (insL_ c) acc) q = (hasL_ c acc q || hasL_ c l q)
  | [], acc, _, h, hs => ⟨h, hs, fun q _ => by simp [hasL_]⟩
  | p :: r, acc, hl, h, hs => by
    have hp : P p := hl p (by simp)
    have hr : ∀ x ∈ r, P x := fun x hx => hl x (by simp [hx])
    obtain ⟨h1, h2, h3⟩ := foldl_ins O r (insL_ c acc p) hr (sins_P h hp) (sins_srt O h hp hs)
    rw [List.foldl_cons]
    refine ⟨h1, h2, fun q hq => ?_⟩
    rw [h3 q hq, has_ins O h hp hq, has_cons, Bool.or_assoc]
theorem set_P (O : OrdL c P) {l : List α} (hl : ∀ x ∈ l, P x) : ∀ x ∈ setL_ c l, P x := (foldl_ins O l [] hl (by simp) (by simp [Srt])).1
theorem set_srt (O : OrdL c P) {l : List α} (hl : ∀ x ∈ l, P x) : Srt c (setL_ c l) := (foldl_ins O l [] hl (by simp) (by simp [Srt])).2.1
theorem has_set (O : OrdL c P) {l : List α} (hl : ∀ x ∈ l, P x) {q : α} (hq : P q) : hasL_ c (setL_ c l) q = hasL_ c l q := by
  unfold setL_
  rw [(foldl_ins O l [] hl (by simp) (by simp [Srt])).2.2 q hq]; rfl
theorem set_app (l : List α) (p : α) : setL_ c (l ++ [p]) = insL_ c (setL_ c l) p := by
  unfold setL_
  rw [List.foldl_append]
  rfl
end
theorem ordPE : OrdL cmpPE OPE := ⟨fun _ _ _ => tri_PE, fun _ _ h h' => swap_PE h.j h'.j⟩
end Go.Proofs.YtbbacpdbbmjblaaGreat
end
section
set_option linter.unusedVariables false
namespace Go.Proofs.YtbbacpdbbmjblaaGreat
open Go.RowKit
set_option linter.unusedSimpArgs false
section
variable {P : Program} {w : World} {F : Nat → Prop}
theorem Groups.split {n : Nat} : ∀ {l : List PD} {xs : List Value} (i : Nat), i ≤ l.length → Groups w F n l xs → Groups w F n (l.take i) (xs.take (i * n)) ∧ Groups w F n (l.drop i) (xs.drop (i * n))
  | l, xs, 0, _, h => by simp [Groups, h]
  | [], _, i + 1, hi, _ => by simp at hi
  | d :: r, xs, i + 1, hi, h => by
    obtain ⟨u, ys, rfl, hd, hn, h1, hr⟩ := h
    obtain ⟨g1, g2⟩ := hr.split i (by simpa using hi)
    have e1 : (u.cells.toList ++ ys).take ((i + 1) * n) = u.cells.toList ++ ys.take (i * n) := by
      rw [List.take_append, List.take_of_length_le (by rw [hn, Nat.succ_mul]; omega), hn, Nat.succ_mul, Nat.add_sub_cancel]
    have e2 : (u.cells.toList ++ ys).drop ((i + 1) * n) = ys.drop (i * n) := by
      rw [List.drop_append, List.drop_eq_nil_of_le (by rw [hn, Nat.succ_mul]; omega), hn, Nat.succ_mul, Nat.add_sub_cancel]; rfl
    rw [e1, e2]
    exact ⟨⟨u, _, rfl, hd, hn, h1, g1⟩, g2⟩
theorem append_types {t t2 e e2 : TypeId} (ht : P.underlying t = some (.slice e)) (ht2 : P.underlying t2 = some (.slice e2)) (ty : TypeId) (b : Option Addr) (n c : Nat) (x : Value) : (Builtin.append_ #[t, t2] ty #[.slice b n c, x]).run P w = (Builtin.append_ #[t, t] ty #[.slice b n c, x]).run P w := by
  simp [Builtin.append_, run_underlying ht, run_underlying ht2]
/-- copy into a row, whatever the size of its items. -/
theorem run_copy_rowN (dT dS ty elem : TypeId) (z g o dLen dCap : Nat) (a : Addr) (sLen sCap : Nat) (cur : Array Value) (t : TypeId) (cs : List Value)
    (hu : P.underlying dT = some (.slice elem)) (hs : (P.info? elem).map (·.size) = some z)
    (hg : w.heap[g]? = some (.cells cur t (0, 0))) (hn : cs.length = Nat.min sLen dLen * z)
    (hsrc : ∀ j v, cs[j]? = some v → w.cell? (a.add j) = some v) (hfit : o + cs.length ≤ cur.size) (h1 : ∀ v ∈ cs, v.oneCell' = true) :
    (Builtin.copy_ #[dT, dS] ty #[.slice (some ⟨g, o, none⟩) dLen dCap, .slice (some a) sLen sCap]).run P w =
      .ok (goInt (Nat.min sLen dLen)) (w.setRow g (cur.toList.take o ++ cs ++ cur.toList.drop (o + cs.length)).toArray) := by
  have hl := run_loadCells_list (P := P) w a cs hsrc
  have hst := run_storeCells_at P g o t cs 0 cur w hg (by simpa using hfit) h1
  cases hq : P.info? elem with
  | none => simp [hq] at hs
  | some i =>
    have hi : i.size = z := by simpa [hq] using hs
    simp [Builtin.copy_, run_underlying hu, Builtin.lenOf, Builtin.firstCells, sizeOf, typeInfo, hq, hi, ← hn, hl, hst]
end
/-- What slices.Insert(s, i, x) does to rows. -/
class InsF (P : Program) (f e n y : Nat) : Prop where
  ok : callable P f = true
  out : ∀ (w : World) (base : Nat) (v u : Value) (len i : Nat) (xs news : List Value), w.ownsRow base e n v len xs → w.ownsRow base e n u 1 news → (∀ b, v.ownBlock = some b → u.ownBlock ≠ some b) → i ≤ len → (len + 1) * y ≤ 140737488351232 → len + 1 ≤ 140737488351232 → base ≤ w.heap.size →
    (∀ c ∈ xs, c.oneCell' = true) → (∀ c ∈ news, c.oneCell' = true) →
    Calls P f #[v, .int .i64 (i : Int), u] w fun e' w' => ∃ v', e' = .returned v' ∧ w'.ownsRow base e n v' (len + 1) (xs.take (i * n) ++ news ++ xs.drop (i * n)) ∧ w.grownBy w' v.ownBlock ∧ (∀ b, blkOf v' = some b → w.heap.size ≤ b ∨ v.ownBlock = some b)
section
variable {P : Program} {X : Base} {N : Nat} {Q : Exit → Act → World → Prop} {ops : Array Oper} {rem : List Nat} {ks : List Itm} {s s' : Sta}
theorem op_insert {o : Oper} {d f : Nat} (hd : o.dst = some d) (hN : d < X.N) {k : Nat} (hd0 : s.tb d = none) {x ix x2 : Operand} {ts : Array TypeId} (ho : o.op = .call { callee := .value (.func f), args := #[x, ix, x2], argTypes := ts })
    {e n y k2 y2 i : Nat} {l : List PD} {p : PD} (hF : InsF P f e n y) (hx : s.ev x = .own k) (hk : s.tb k = some (.row e n y l)) (hi : s.ev ix = .dat (.val (.int .i64 (i : Int)))) (hx2 : s.ev x2 = .own k2) (hk2 : s.tb k2 = some (.row e n y2 [p])) (hne : Nat.beq k k2 = false)
    (hil : i ≤ l.length) (hb1 : (l.length + 1) * y ≤ 140737488351232) (hb2 : l.length + 1 ≤ 140737488351232) : OpS P X o s (s.mv k d (.row e n y (l.take i ++ p :: l.drop i))) := by
  intro a w ⟨ρ, hc⟩ K Q hK
  obtain ⟨xs, hr1, _, g1, g2, g3, g4⟩ := hc.blks k _ hk
  obtain ⟨news, hr2, _, j1, j2, j3, j4⟩ := hc.blks k2 _ hk2
  have e1 := hc.ev x
  rw [hx] at e1
  have e1 := VR_own e1 hk
  have e3 := hc.ev x2
  rw [hx2] at e3
  have e3 := VR_own e3 hk2
  have e2 := hc.ev ix
  rw [hi] at e2
  unfold VR Rep at e2
  have e2 := e2.1
  have hap : ∀ b, (ρ k).v.ownBlock = some b → (ρ k2).v.ownBlock ≠ some b := fun b h1 h2 => by
    have hkk := hc.apart k k2 b (by rw [hk]; rfl) (by rw [hk2]; rfl) (by
        obtain ⟨⟨a1, c1, hρk⟩, _⟩ := hc.own_slice hk
        rw [hr1]; show blkOf (ρ k).v = some b; rw [blkOf_own ⟨_, _, _, hρk⟩]; exact h1) (by
        obtain ⟨⟨a1, c1, hρk⟩, _⟩ := hc.own_slice hk2
        rw [hr2]; show blkOf (ρ k2).v = some b; rw [blkOf_own ⟨_, _, _, hρk⟩]; exact h2)
    subst hkk
    simp at hne
  have hcall := hF.out w X.B (ρ k).v (ρ k2).v l.length i xs news g1 j1 hap hil hb1 hb2 hc.below.sizeB g2.one j2.one
  refine run_enter hF.ok (vs := [a.eval x, a.eval ix, a.eval x2]) (by simp [execOp, ho, resolve, Deferred.ofValue, Act.eval, invoke, run_callFunc hF.ok]) (R := fun v w' => ∃ ρ', ConcAt X (s.mv k d (.row e n y (l.take i ++ p :: l.drop i))) (a.put (some d) v) w' ρ') ?_ ?_
  · rw [e1, e2, e3]
    refine hcall.mono ?_
    rintro e' w' ⟨v', rfl, r1, r2, r3⟩
    have hv1 : v'.oneCell' = true := by
      rcases r1.2 with ⟨e, _⟩ | ⟨g, cap, cur, e, _⟩ <;> rw [e] <;> rfl
    have hlen : (l.take i ++ p :: l.drop i).length = l.length + 1 := by simp; omega
    obtain ⟨s1, s2⟩ := g2.split i hil
    have hmv := hc.moveRow (l' := l.take i ++ p :: l.drop i) hk hd0 hv1 r2 r3 (xs := xs.take (i * n) ++ news ++ xs.drop (i * n)) (by rw [hlen]; exact r1)
      (fun F' hF' hh => by
        rw [show l.take i ++ p :: l.drop i = (l.take i ++ [p]) ++ l.drop i by simp]
        exact ((s1.keep hh hF').append (j2.keep hh hF')).append (s2.keep hh hF')) (by rw [hlen]; exact hb1) (by rw [hlen]; exact hb2) hN
    exact ⟨v', rfl, _, hmv⟩
  · rintro v' w' ⟨ρ', h⟩
    rw [hd]
    exact hK _ _ ⟨_, h⟩
theorem d_insert {ops : List Oper} {d f : Nat} {x ix x2 : Operand} {ts : Array TypeId} {k e n y k2 y2 i : Nat} {l : List PD} {p : PD} (hN : Nat.blt d N = true) (hd0 : s.tb d = none) [hF : InsF P f e n y] (hx : s.ev x = .own k) (hk : s.tb k = some (.row e n y l)) (hi : s.ev ix = .dat (.val (.int .i64 (i : Int)))) (hx2 : s.ev x2 = .own k2) (hk2 : s.tb k2 = some (.row e n y2 [p])) (hne : Nat.beq k k2 = false)
    (hil : i ≤ l.length) (hb1 : (l.length + 1) * y ≤ 140737488351232) (hb2 : l.length + 1 ≤ 140737488351232) :
    TrK P X N ops (some d) (.call { callee := .value (.func f), args := #[x, ix, x2], argTypes := ts }) (Eff.mv k d (.row e n y (l.take i ++ p :: l.drop i))) s (s.mv k d (.row e n y (l.take i ++ p :: l.drop i))) :=
  act_mv hN fun s' _ _ _ _ hd hev htb hnew => op_insert rfl hd (hnew.trans hd0) rfl hF ((hev _ (by simp [Op.operands, Call.operands])).trans hx) ((htb x (by simp [Op.operands, Call.operands]) _ (by rw [hx]; simp [keysA])).trans hk) ((hev _ (by simp [Op.operands, Call.operands])).trans hi) ((hev _ (by simp [Op.operands, Call.operands])).trans hx2) ((htb x2 (by simp [Op.operands, Call.operands]) _ (by rw [hx2]; simp [keysA])).trans hk2) hne hil hb1 hb2
end
end Go.Proofs.YtbbacpdbbmjblaaGreat
end
section
set_option linter.unusedVariables false
namespace Go.Proofs.YtbbacpdbbmjblaaGreat
open Go.RowKit
set_option linter.unusedSimpArgs false
theorem Tryz.infoPE : ∃ i, Tryz.prog.info? 63 = some i ∧ i.zero = some (.agg #[.pointer none, .pointer none, .pointer none, .pointer none]) ∧ i.size = 4 ∧ i.bytes = 32 := by
  have h : (Tryz.prog.info? 63).map (fun i => (i.zero, i.size, i.bytes)) = some (some (.agg #[.pointer none, .pointer none, .pointer none, .pointer none]), 4, 32) := by kernel_rfl
  cases hq : Tryz.prog.info? 63 with
  | none => rw [hq] at h; cases h
  | some i =>
    rw [hq] at h
    simp only [Option.map_some, Option.some.injEq, Prod.mk.injEq] at h
    exact ⟨i, rfl, h.1, h.2.1, h.2.2⟩
set_option maxHeartbeats 4000000 in
set_option maxRecDepth 100000 in
/-- At the end. -/
theorem insPE_end (w : World) (base : Nat) (v : Value) (g2 c2 len : Nat) (xs news : List Value) (hv : w.ownsRow base 63 4 v len xs) (hu : w.ownsRow base 63 4 (.slice (some ⟨g2, 0, none⟩) 1 c2) 1 news)
    (hb : (len + 1) * 32 ≤ 140737488351232) (hl : len + 1 ≤ 140737488351232) (hw : base ≤ w.heap.size) (h1 : ∀ c ∈ news, c.oneCell' = true) :
    Calls Tryz.prog 100 #[v, .int .i64 (len : Int), .slice (some ⟨g2, 0, none⟩) 1 c2] w fun e' w' => ∃ v', e' = .returned v' ∧ w'.ownsRow base 63 4 v' (len + 1) (xs ++ news) ∧ w.grownBy w' v.ownBlock ∧ (∀ b, blkOf v' = some b → w.heap.size ≤ b ∨ v.ownBlock = some b) := by
  obtain ⟨inf, hi, hz, hs, hy⟩ := Tryz.infoPE
  have hnews : news.length = 1 * 4 := hu.1
  have hlies : Lies w g2 0 news := fun j u hj => by
    have := hu.cells (g := g2) rfl j u hj
    rwa [Addr_add] at this
  obtain ⟨v', w', hr, r1, r2, r3⟩ := run_append_row (P := Tryz.prog) base 93 93 63 inf _ 4 32 Tryz.underlying93 hi hz hs hy rfl (by omega) hv (ad := some ⟨g2, 0, none⟩) (m := 1) (c := c2) hnews (.inr ⟨g2, 0, rfl, hlies⟩) h1 (by unfold maxLen; omega) (by omega) hw
  obtain ⟨a, c, rfl⟩ : ∃ a c, v = .slice a len c := by
    rcases hv.2 with ⟨rfl, rfl⟩ | ⟨g, cap, cur, rfl, _⟩
    · exact ⟨_, _, rfl⟩
    · exact ⟨_, _, rfl⟩
  have hc : len ≤ c := by
    rcases hv.2 with ⟨e, e2⟩ | ⟨g, cap, cur, e, _, _, h, _⟩
    · omega
    · injection e with _ _ e; omega
  rw [← append_types Tryz.underlying93 Tryz.underlying82] at hr
  have HR := Lib.hid (And.intro r1 (And.intro r2 r3))
  clear r1 r2 r3 hv hu hlies
  generalize (Value.slice a len c).ownBlock = ob at *
  go_enter Tryz.func100, Tryz.ntmps100
  go_wp2_with (at_builtin; refine Lib.wpList_append_run _ rfl _ _ _ _ rfl _ _ rfl rfl _ _ hr ?_)
  all_goals
    go_ret
    obtain ⟨r1, r2, r3⟩ := HR.out
    exact ⟨_, rfl, r1, r2, r3⟩
theorem setRow_other {w : World} {g b : Nat} {cs : Array Value} (h : b ≠ g) : (w.setRow g cs).heap[b]? = w.heap[b]? := by
  unfold World.setRow
  simp only
  rw [Array.getElem?_modify, if_neg (fun e => h e.symm)]
theorem setRow_size {w : World} {g : Nat} {cs : Array Value} : (w.setRow g cs).heap.size = w.heap.size := by
  unfold World.setRow
  simp
theorem row_cell {w : World} {g : Nat} {cur : Array Value} {t : TypeId} {fz : Nat × Nat} (h : w.heap[g]? = some (.cells cur t fz)) {j : Nat} {u : Value} (hu : cur.toList[j]? = some u) : w.cell? ⟨g, j, none⟩ = some u := by
  rw [Array.getElem?_toList] at hu
  simp [World.cell?, h, hu]
theorem ls1 {α : Type} (xs rest : List α) {p q r : Nat} (hp : p + 4 ≤ xs.length) (hq : p + 4 + r = xs.length + 4) (hq2 : q = p + 4 := by omega) : (xs ++ rest).take q ++ xs.drop p ++ (xs ++ rest).drop (q + r) = xs.take (p + 4) ++ xs.drop p ++ rest.drop 4 := by
  subst hq2
  have e : (xs ++ rest).drop (xs.length + 4) = rest.drop 4 := by
    rw [List.drop_append, List.drop_eq_nil_of_le (Nat.le_add_right _ _), List.nil_append, Nat.add_sub_cancel_left]
  rw [List.take_append_of_le_length hp, hq, e]
theorem ls2 {α : Type} (xs rest news : List α) {p : Nat} (hp : p + 4 ≤ xs.length) : (xs.take (p + 4) ++ xs.drop p ++ rest.drop 4).take p ++ news ++ (xs.take (p + 4) ++ xs.drop p ++ rest.drop 4).drop (p + 4) = xs.take p ++ news ++ xs.drop p ++ rest.drop 4 := by
  rw [List.append_assoc (xs.take (p + 4)), List.drop_left' (by simp; omega), List.take_append_of_le_length (by simp; omega), List.take_take, Nat.min_eq_left (by omega)]
  simp
set_option maxHeartbeats 4000000 in
set_option maxRecDepth 100000 in
/-- Ahead of others, where there is room. -/
theorem insPE_room (w : World) (base g cap g2 c2 len i : Nat) (cur : Array Value) (xs rest news : List Value) (hbg : base ≤ g) (hg : w.heap[g]? = some (.cells cur 63 (0, 0))) (hcm : cap ≤ maxLen) (hcs : cur.size = cap * 4) (hcur : cur.toList = xs ++ rest) (hxs : xs.length = len * 4)
    (hu : w.ownsRow base 63 4 (.slice (some ⟨g2, 0, none⟩) 1 c2) 1 news) (hne : g2 ≠ g) (hi : i < len) (hroom : len + 1 ≤ cap)
    (hl : len + 1 ≤ 140737488351232) (h1x : ∀ c ∈ xs, c.oneCell' = true) (h1 : ∀ c ∈ news, c.oneCell' = true) :
    Calls Tryz.prog 100 #[.slice (some ⟨g, 0, none⟩) len cap, .int .i64 (i : Int), .slice (some ⟨g2, 0, none⟩) 1 c2] w fun e' w' => ∃ v', e' = .returned v' ∧ w'.ownsRow base 63 4 v' (len + 1) (xs.take (i * 4) ++ news ++ xs.drop (i * 4)) ∧ w.grownBy w' (some g) ∧ (∀ b, blkOf v' = some b → w.heap.size ≤ b ∨ (some g) = some b) := by
  obtain ⟨inf, hinf, hz, hs, hy⟩ := Tryz.infoPE
  have hsz : (Tryz.prog.info? 63).map (·.size) = some 4 := by rw [hinf]; simp [hs]
  have hrl : rest.length = (cap - len) * 4 := by
    have := congrArg List.length hcur
    simp only [Array.length_toList, List.length_append] at this
    omega
  have hnews : news.length = 4 := by have := hu.1; omega
  obtain ⟨cur2, hg2, hc2⟩ : ∃ cur2, w.heap[g2]? = some (.cells cur2 63 (0, 0)) ∧ cur2.toList.take 4 = news ∧ cur2.size ≠ 0 := by
    rcases hu.2 with ⟨e, _⟩ | ⟨g', cap', cur', e, _, h1, h2, h3, h4, h5⟩
    · cases e
    · injection e with e1 _ _
      injection e1 with e1
      injection e1 with e1
      subst e1
      exact ⟨cur', h1, h5, by omega⟩
  have hlies : ∀ j u, news[j]? = some u → w.cell? ⟨g2, j, none⟩ = some u := fun j u hj => by
    refine row_cell hg2 ?_
    rw [← hc2.1] at hj
    rw [List.getElem?_take] at hj
    split at hj
    · exact hj
    · cases hj
  have hov : ∀ o lb cb, (callFunc 125 #[.slice (some ⟨g2, 0, none⟩) 1 c2, .slice (some ⟨g, o, none⟩) lb cb]).run Tryz.prog w = .ok (.value (.bool false)) w := fun o lb cb => by
    rw [run_callFunc_extern (fn := Tryz.f125) Tryz.func125 (by kernel_rfl) (by kernel_rfl) (by kernel_rfl) (e := Extern.SlicesOverlaps.overlaps #[82, 82] #[4]) (by kernel_rfl),
      Lib.run_overlaps_apart w 82 4 63 Tryz.underlying82 4 (fun w => by simp [sizeOf, typeInfo, hinf, hs]) ⟨g2, 0, none⟩ ⟨g, o, none⟩ 1 c2 lb cb hne 63 63 cur2.size cur.size (by simp [World.shape?, hg2]) (by simp [World.shape?, hg]) (by omega) (by simp [World.frozen?, hg2]) (by simp [World.frozen?, hg2])]
    rfl
  obtain ⟨curA, hA⟩ : ∃ c : Array Value, c = (xs.take (i * 4 + 4) ++ xs.drop (i * 4) ++ rest.drop 4).toArray := ⟨_, rfl⟩
  obtain ⟨curB, hB⟩ : ∃ c : Array Value, c = (xs.take (i * 4) ++ news ++ xs.drop (i * 4) ++ rest.drop 4).toArray := ⟨_, rfl⟩
  have hdl : (xs.drop (i * 4)).length = (len - i) * 4 := by rw [List.length_drop, hxs]; omega
  have hmin1 : Nat.min (len + 1 - i) (len - i) = len - i := by simp only [Nat.min_def]; split <;> omega
  have hmin2 : Nat.min 1 (len + 1 - i) = 1 := by simp only [Nat.min_def]; split <;> omega
  have hcp1 : ∀ ty dc sc, (Builtin.copy_ #[93, 93] ty #[.slice (some ⟨g, (i + 1) * 4, none⟩) (len - i) dc, .slice (some ⟨g, i * 4, none⟩) (len + 1 - i) sc]).run Tryz.prog w.drew = .ok (goInt ((len - i : Nat) : Int)) (w.drew.setRow g curA) := fun ty dc sc => by
    have := run_copy_rowN (P := Tryz.prog) (w := w.drew) 93 93 ty 63 4 g ((i + 1) * 4) (len - i) dc ⟨g, i * 4, none⟩ (len + 1 - i) sc cur 63 (xs.drop (i * 4)) Tryz.underlying93 hsz hg (by rw [hmin1, hdl])
      (fun j u hj => by
        rw [Addr_add]
        refine row_cell (w := w.drew) hg ?_
        rw [List.getElem?_drop] at hj
        rw [hcur, List.getElem?_append_left (List.getElem?_eq_some_iff.1 hj).1]
        exact hj) (by rw [hdl, hcs]; omega) (fun u hu => h1x u (List.mem_of_mem_drop hu))
    rw [hmin1] at this
    rw [this, hA, hcur, hdl]
    congr 3
    exact ls1 xs rest (p := i * 4) (r := (len - i) * 4) (by omega) (by omega) (by omega)
  have hgA : (w.drew.setRow g curA).heap[g]? = some (.cells curA 63 (0, 0)) := setRow_heap w.drew g cur curA 63 _ hg
  have hcp2 : ∀ (W : World), W.heap = (w.drew.setRow g curA).heap → ∀ ty dc, (Builtin.copy_ #[93, 82] ty #[.slice (some ⟨g, i * 4, none⟩) (len + 1 - i) dc, .slice (some ⟨g2, 0, none⟩) 1 c2]).run Tryz.prog W = .ok (goInt ((1 : Nat) : Int)) (W.setRow g curB) := fun W hW ty dc => by
    have := run_copy_rowN (P := Tryz.prog) (w := W) 93 82 ty 63 4 g (i * 4) (len + 1 - i) dc ⟨g2, 0, none⟩ 1 c2 curA 63 news Tryz.underlying93 hsz (by rw [hW]; exact hgA) (by rw [hmin2, hnews])
      (fun j u hj => by
        rw [Addr_add, Nat.zero_add]
        rw [World.cell?_of_block (w := w) (a := ⟨g2, j, none⟩) (by rw [hW]; exact setRow_other hne)]
        exact hlies j u hj) (by rw [hA, hnews]; simp [hxs, hdl, hrl]; omega) h1
    rw [hmin2] at this
    rw [this, hA, hB, hnews]
    congr 3
    exact ls2 xs rest news (by omega)
  have FIN : ((w.drew.setRow g curA).setRow g curB).ownsRow base 63 4 (.slice (some ⟨g, 0, none⟩) (len + 1) cap) (len + 1) (xs.take (i * 4) ++ news ++ xs.drop (i * 4)) ∧ w.grownBy ((w.drew.setRow g curA).setRow g curB) (some g) ∧ (∀ b, blkOf (.slice (some ⟨g, 0, none⟩) (len + 1) cap) = some b → w.heap.size ≤ b ∨ (some g) = some b) := by
    have hlen : (xs.take (i * 4) ++ news ++ xs.drop (i * 4)).length = (len + 1) * 4 := by simp only [List.length_append, List.length_take, List.length_drop, hxs, hnews]; omega
    refine ⟨⟨hlen, .inr ⟨g, cap, curB, rfl, hbg, setRow_heap (w.drew.setRow g curA) g curA curB _ _ hgA, hroom, hcm, ?_, ?_⟩⟩, ⟨rfl, rfl, rfl, by rw [setRow_size, setRow_size]; exact Nat.le_refl _, fun k _ hk => ?_⟩, fun b hb => .inr (by simpa [blkOf] using hb)⟩
    · rw [hB, List.size_toArray, List.length_append, hlen, List.length_drop, hrl]; omega
    · rw [hB]; exact List.take_left' hlen
    · rw [setRow_other (fun e => hk (by rw [e])), setRow_other (fun e => hk (by rw [e]))]; rfl
  clear hA hB
  have mixed : Tryz.prog.follows Departure.mixedOrders = true := by kernel_rfl
  have hb2 : ¬ (cap = i + 1) := by omega
  have hb4 : ¬ (cap = i) := by omega
  have hin : i ≤ len := by omega
  have hb3 : (i : Int) ≤ (len : Int) + 1 := by omega
  have hw1 : IntKind.i64.wrap ((i : Int) + 1) = (i : Int) + 1 := by rw [IntKind.wrap_i64]; omega
  have htn : ((i : Int) + 1).toNat = i + 1 := by omega
  have hb1 : (0 : Int) ≤ (i : Int) + 1 := by omega
  go_enter Tryz.func100, Tryz.ntmps100
  go_wp2_with (simp only [hov])
  go_region_law_o (refine step_copy_runI rfl _ _ 93 93 rfl _ _ (by simp [Act.eval, Act.put]) (by simp [Act.eval, Act.put]) (hcp1 _ _ _) ?_)
  go_wp2_with (at_builtin; refine wpList_copy_runI _ rfl _ _ 93 82 rfl _ _ rfl rfl (hcp2 _ rfl _ _) ?_)
  go_ret
  exact ⟨_, rfl, FIN⟩
theorem ls3 {α : Type} (A Z news : List α) {p : Nat} (hA : A.length = p) : (A ++ Z).take p ++ news ++ (A ++ Z).drop (p + 4) = A ++ news ++ Z.drop 4 := by
  rw [List.take_left' hA, List.drop_append, List.drop_eq_nil_of_le (by omega : A.length ≤ p + 4), hA, List.nil_append, Nat.add_sub_cancel_left]
theorem ls4 {α : Type} (A Y D news : List α) {p r q : Nat} (hA : A.length = p) (hn : news.length = 4) (hq : q = p + 4) : (A ++ news ++ Y).take q ++ D ++ (A ++ news ++ Y).drop (q + r) = A ++ news ++ D ++ Y.drop r := by
  have h : (A ++ news).length = q := by rw [List.length_append, hA, hn, hq]
  have e : (A ++ news ++ Y).drop (q + r) = Y.drop r := by
    rw [List.drop_append, List.drop_eq_nil_of_le (by omega), h, List.nil_append, Nat.add_sub_cancel_left]
  rw [List.take_left' h, e]
set_option maxHeartbeats 4000000 in
set_option maxRecDepth 100000 in
/-- Ahead of others, where there is no room. -/
theorem insPE_grow (w : World) (base g cap g2 c2 len i : Nat) (cur : Array Value) (xs news : List Value) (hbw : base ≤ w.heap.size) (hg : w.heap[g]? = some (.cells cur 63 (0, 0))) (hcur : cur.toList.take (len * 4) = xs) (hxs : xs.length = len * 4)
    (hu : w.ownsRow base 63 4 (.slice (some ⟨g2, 0, none⟩) 1 c2) 1 news) (hi : i < len) (hle : len ≤ cap) (hroom : cap < len + 1)
    (hb : (len + 1) * 32 ≤ 140737488351232) (hl : len + 1 ≤ 140737488351232) (h1x : ∀ c ∈ xs, c.oneCell' = true) (h1 : ∀ c ∈ news, c.oneCell' = true) :
    Calls Tryz.prog 100 #[.slice (some ⟨g, 0, none⟩) len cap, .int .i64 (i : Int), .slice (some ⟨g2, 0, none⟩) 1 c2] w fun e' w' => ∃ v', e' = .returned v' ∧ w'.ownsRow base 63 4 v' (len + 1) (xs.take (i * 4) ++ news ++ xs.drop (i * 4)) ∧ w.grownBy w' (some g) ∧ (∀ b, blkOf v' = some b → w.heap.size ≤ b ∨ (some g) = some b) := by
  obtain ⟨inf, hinf, hz, hs, hy⟩ := Tryz.infoPE
  have hsz : (Tryz.prog.info? 63).map (·.size) = some 4 := by rw [hinf]; simp [hs]
  have hnews : news.length = 4 := by have := hu.1; omega
  obtain ⟨cur2, hg2, hc2⟩ : ∃ cur2, w.heap[g2]? = some (.cells cur2 63 (0, 0)) ∧ cur2.toList.take 4 = news := by
    rcases hu.2 with ⟨e, _⟩ | ⟨g', cap', cur', e, _, h1, h2, h3, h4, h5⟩
    · cases e
    · injection e with e1 _ _
      injection e1 with e1
      injection e1 with e1
      subst e1
      exact ⟨cur', h1, h5⟩
  have hlies : ∀ j u, news[j]? = some u → w.cell? ⟨g2, j, none⟩ = some u := fun j u hj => by
    refine row_cell hg2 ?_
    rw [← hc2, List.getElem?_take] at hj
    split at hj
    · exact hj
    · cases hj
  have hliex : ∀ j u, xs[j]? = some u → w.cell? ⟨g, j, none⟩ = some u := fun j u hj => by
    refine row_cell hg ?_
    rw [← hcur, List.getElem?_take] at hj
    split at hj
    · exact hj
    · cases hj
  have hgw : g < w.heap.size := (Array.getElem?_eq_some_iff.1 hg).1
  have hg2w : g2 < w.heap.size := (Array.getElem?_eq_some_iff.1 hg2).1
  obtain ⟨G, hG⟩ : ∃ G, G = grownCap w (len + 1) cap 63 := ⟨_, rfl⟩
  have hGn : len + 1 ≤ G := by rw [hG]; exact grownCap_ge w _ _ _
  have hGm : G ≤ maxLen := by rw [hG]; exact grownCap_le_maxLen w _ _ _ (by unfold maxLen; omega)
  obtain ⟨ROW, hROW⟩ : ∃ ROW : Array Value, ROW = (xs.take (i * 4)).toArray ++ Builtin.zeroCells (Value.agg #[.pointer none, .pointer none, .pointer none, .pointer none]).cells (len + 1 - i) ++ Builtin.zeroCells (Value.agg #[.pointer none, .pointer none, .pointer none, .pointer none]).cells (G - (len + 1)) := ⟨_, rfl⟩
  obtain ⟨Z, hZ, hZl⟩ : ∃ Z : List Value, ROW.toList = xs.take (i * 4) ++ Z ∧ Z.length = (G - i) * 4 := by
    refine ⟨(Builtin.zeroCells (Value.agg #[.pointer none, .pointer none, .pointer none, .pointer none]).cells (len + 1 - i)).toList ++ (Builtin.zeroCells (Value.agg #[.pointer none, .pointer none, .pointer none, .pointer none]).cells (G - (len + 1))).toList, by rw [hROW]; simp, ?_⟩
    rw [List.length_append, Array.length_toList, Array.length_toList, size_zeroCells, size_zeroCells]
    simp only [Value.cells, List.size_toArray, List.length_cons, List.length_nil]
    omega
  have htl : (xs.take (i * 4)).length = i * 4 := by rw [List.length_take, hxs]; omega
  have hdl : (xs.drop (i * 4)).length = (len - i) * 4 := by rw [List.length_drop, hxs]; omega
  have hRs : ROW.size = G * 4 := by rw [← Array.length_toList, hZ, List.length_append, htl, hZl]; omega
  have hold : (Builtin.firstCells inf.size i (.slice (some ⟨g, 0, none⟩) i cap)).run Tryz.prog w.drew = .ok (xs.take (i * 4)).toArray w.drew := by
    rw [hs]
    exact run_firstCells_some w.drew 4 i ⟨g, 0, none⟩ i cap (xs.take (i * 4)) htl (fun j v hj => by
      rw [Addr_add, Nat.zero_add]
      rw [List.getElem?_take] at hj
      split at hj
      · exact hliex j v hj
      · cases hj)
  have hrz : ∀ ty, (Builtin.append_ #[93, 3] ty #[.slice (some ⟨g, 0, none⟩) i cap, .int .i64 ((len : Int) + 1 - (i : Int))]).run Tryz.prog w = .ok (.slice (some ⟨w.heap.size, 0, none⟩) (len + 1) G) (w.drew.alloc (.cells ROW 63)) := fun ty => by
    have h := Lib.run_append_grow_zeros (P := Tryz.prog) w 93 3 ty 63 inf _ .i64 .i64 Tryz.underlying93 Tryz.underlying3 hinf hz (some ⟨g, 0, none⟩) i cap (xs.take (i * 4)) hold (len + 1 - i) (by omega) (by omega) (by omega) (by omega) (by rw [hy]; omega) (by rw [hy, show i + (len + 1 - i) = len + 1 by omega]; exact growslice_fits hroom (by omega))
    rw [show i + (len + 1 - i) = len + 1 by omega, ← hG] at h
    rw [show ((len : Int) + 1 - (i : Int)) = ((len + 1 - i : Nat) : Int) by omega, h, hROW]
  obtain ⟨curB, hB⟩ : ∃ c : Array Value, c = (xs.take (i * 4) ++ news ++ Z.drop 4).toArray := ⟨_, rfl⟩
  obtain ⟨curC, hC⟩ : ∃ c : Array Value, c = (xs.take (i * 4) ++ news ++ xs.drop (i * 4) ++ (Z.drop 4).drop ((len - i) * 4)).toArray := ⟨_, rfl⟩
  have hN1 : (w.alloc (.cells ROW 63)).heap[w.heap.size]? = some (.cells ROW 63 (0, 0)) := heap_alloc_new w _
  have hNB : ((w.alloc (.cells ROW 63)).setRow w.heap.size curB).heap[w.heap.size]? = some (.cells curB 63 (0, 0)) := setRow_heap _ _ ROW curB 63 _ hN1
  have hNC : (((w.alloc (.cells ROW 63)).setRow w.heap.size curB).setRow w.heap.size curC).heap[w.heap.size]? = some (.cells curC 63 (0, 0)) := setRow_heap _ _ curB curC 63 _ hNB
  have hold1 : ∀ b, b < w.heap.size → (w.alloc (.cells ROW 63)).heap[b]? = w.heap[b]? := fun b h => Below.heap_alloc _ _ _ h
  have hmin1 : Nat.min (len - i) (len + 1 - (i + 1)) = len - i := by simp only [Nat.min_def]; split <;> omega
  have hmin2 : Nat.min 1 (len + 1 - i) = 1 := by simp only [Nat.min_def]; split <;> omega
  have hcpA : ∀ (W : World), W.heap = (w.alloc (.cells ROW 63)).heap → ∀ ty dc, (Builtin.copy_ #[93, 82] ty #[.slice (some ⟨w.heap.size, i * 4, none⟩) (len + 1 - i) dc, .slice (some ⟨g2, 0, none⟩) 1 c2]).run Tryz.prog W = .ok (goInt ((1 : Nat) : Int)) (W.setRow w.heap.size curB) := fun W hW ty dc => by
    have := run_copy_rowN (P := Tryz.prog) (w := W) 93 82 ty 63 4 w.heap.size (i * 4) (len + 1 - i) dc ⟨g2, 0, none⟩ 1 c2 ROW 63 news Tryz.underlying93 hsz (by rw [hW]; exact hN1) (by rw [hmin2, hnews])
      (fun j u hj => by
        rw [Addr_add, Nat.zero_add]
        rw [World.cell?_of_block (w := w) (a := ⟨g2, j, none⟩) (by rw [hW]; exact hold1 _ hg2w)]
        exact hlies j u hj) (by rw [hRs, hnews]; omega) h1
    rw [hmin2] at this
    rw [this, hB, hnews, hZ]
    congr 3
    exact ls3 _ _ _ htl
  have hcpB : ∀ (W : World), W.heap = ((w.alloc (.cells ROW 63)).setRow w.heap.size curB).heap → ∀ ty dc sc, (Builtin.copy_ #[93, 93] ty #[.slice (some ⟨w.heap.size, (i + 1) * 4, none⟩) (len - i) dc, .slice (some ⟨g, i * 4, none⟩) (len - i) sc]).run Tryz.prog W = .ok (goInt ((len - i : Nat) : Int)) (W.setRow w.heap.size curC) := fun W hW ty dc sc => by
    have hm : Nat.min (len - i) (len - i) = len - i := by simp only [Nat.min_def]; split <;> omega
    have := run_copy_rowN (P := Tryz.prog) (w := W) 93 93 ty 63 4 w.heap.size ((i + 1) * 4) (len - i) dc ⟨g, i * 4, none⟩ (len - i) sc curB 63 (xs.drop (i * 4)) Tryz.underlying93 hsz (by rw [hW]; exact hNB) (by rw [hm, hdl])
      (fun j u hj => by
        rw [Addr_add]
        rw [World.cell?_of_block (w := w) (a := ⟨g, i * 4 + j, none⟩) (by rw [hW]; exact (setRow_other (show g ≠ w.heap.size from Nat.ne_of_lt hgw)).trans (hold1 _ hgw))]
        rw [List.getElem?_drop] at hj
        exact hliex _ u hj) (by rw [hB, List.size_toArray, hdl]; simp only [List.length_append, htl, hnews, List.length_drop, hZl]; omega) (fun u hu => h1x u (List.mem_of_mem_drop hu))
    rw [hm] at this
    rw [this, hC, hB, hdl]
    congr 3
    exact ls4 _ _ _ _ htl hnews (by omega)
  have FIN : ∀ W : World, W.os = w.os → W.tape = w.tape → W.output = w.output → W.heap = (((w.alloc (.cells ROW 63)).setRow w.heap.size curB).setRow w.heap.size curC).heap → W.ownsRow base 63 4 (.slice (some ⟨w.heap.size, 0, none⟩) (len + 1) G) (len + 1) (xs.take (i * 4) ++ news ++ xs.drop (i * 4)) ∧ w.grownBy W (some g) ∧ (∀ b, blkOf (.slice (some ⟨w.heap.size, 0, none⟩) (len + 1) G) = some b → w.heap.size ≤ b ∨ (some g) = some b) := by
    intro W e1 e2 e3 e4
    have hlen : (xs.take (i * 4) ++ news ++ xs.drop (i * 4)).length = (len + 1) * 4 := by simp only [List.length_append, htl, hdl, hnews]; omega
    refine ⟨⟨hlen, .inr ⟨w.heap.size, G, curC, rfl, hbw, by rw [e4]; exact hNC, hGn, hGm, ?_, ?_⟩⟩, ⟨e1, e2, e3, by rw [e4, setRow_size, setRow_size]; simp, fun k hk _ => ?_⟩, fun b hb => .inl (Nat.le_of_eq (by simpa [blkOf] using hb))⟩
    · rw [hC, List.size_toArray, List.length_append, hlen, List.length_drop, List.length_drop, hZl]; omega
    · rw [hC]; exact List.take_left' hlen
    · rw [e4, setRow_other (by omega), setRow_other (by omega)]; exact hold1 _ hk
  clear hB hC hNB hNC hN1 hold1 hold hRs hZ hZl hROW hG hlies hliex hg hg2 hu hcur
  have mixed : Tryz.prog.follows Departure.mixedOrders = true := by kernel_rfl
  have hb2 : ¬ (cap = i + 1) ∨ cap = i + 1 := by omega
  have hb4 : ¬ (cap = i) := by omega
  have hb5 : ¬ (G = i) := by omega
  have hb6 : ¬ (G = i + 1) := by omega
  have hin : i ≤ len := by omega
  have hz3 : (cap : Int) < (len : Int) + 1 := by omega
  have hb3 : (i : Int) ≤ (len : Int) + 1 := by omega
  have hb7 : (i : Int) ≤ (len : Int) := by omega
  have hw1 : IntKind.i64.wrap ((i : Int) + 1) = (i : Int) + 1 := by rw [IntKind.wrap_i64]; omega
  have htn : ((i : Int) + 1).toNat = i + 1 := by omega
  have hb1 : (0 : Int) ≤ (i : Int) + 1 := by omega
  have hcpA' := hcpA (w.alloc (.cells ROW 63)).drew rfl
  have hcpB' := hcpB ((w.alloc (.cells ROW 63)).drew.setRow w.heap.size curB).drew rfl
  clear hb2 hcpA hcpB
  go_enter Tryz.func100, Tryz.ntmps100
  go_wp2_with (at_builtin; refine Lib.wpList_append_run _ rfl _ _ _ _ rfl _ _ rfl rfl _ _ (hrz _) ?_)
  go_region
  go_wp2
  go_ret
  exact ⟨_, rfl, FIN _ rfl rfl rfl rfl⟩
instance : InsF Tryz.prog 100 63 4 32 := ⟨by kernel_rfl, fun w base v u len i xs news hv hu hap hi hb hl hw h1x h1 => by
  obtain ⟨g2, c2, rfl⟩ : ∃ g2 c2, u = .slice (some ⟨g2, 0, none⟩) 1 c2 := by
    rcases hu.2 with ⟨_, e⟩ | ⟨g', cap', cur', e, _⟩
    · omega
    · exact ⟨_, _, e⟩
  by_cases he : i = len
  · subst he
    rw [List.take_of_length_le (by rw [hv.1]; exact Nat.le_refl _), List.drop_eq_nil_of_le (by rw [hv.1]; exact Nat.le_refl _), List.append_nil]
    exact insPE_end w base v g2 c2 i xs news hv hu hb hl hw h1
  · rcases hv.2 with ⟨_, e⟩ | ⟨g, cap, cur, rfl, hbg, hg, hnc, hcm, hcs, hcur⟩
    · omega
    · have hne : g2 ≠ g := fun e => hap g rfl (by rw [e]; rfl)
      by_cases hroom : len + 1 ≤ cap
      · exact insPE_room w base g cap g2 c2 len i cur xs (cur.toList.drop (len * 4)) news hbg hg hcm hcs (by rw [← hcur, List.take_append_drop]) hv.1 hu hne (by omega) hroom hl h1x h1
      · exact insPE_grow w base g cap g2 c2 len i cur xs news hw hg hcur hv.1 hu (by omega) hnc (by omega) hb hl h1x h1⟩
end Go.Proofs.YtbbacpdbbmjblaaGreat
end
section
set_option linter.unusedVariables false
namespace Go.Proofs.YtbbacpdbbmjblaaGreat
open Go.RowKit
set_option linter.unusedSimpArgs false
section
variable {P : Program} {X : Base} {N : Nat} {Q : Exit → Act → World → Prop} {ops : Array Oper} {rem : List Nat} {ks : List Itm} {s s' : Sta}
/-- A conversion between whole numbers whose outcome is known. -/
theorem op_convE {o : Oper} (hd : dstOk X.N o.dst = true) {t t' : TypeId} {x : Operand} (ho : o.op = .convert t t' x) {k k' : IntKind} {i b : Int} (hx : s.ev x = .dat (.val (.int k i))) (ht : intT P t' = some k') (ht0 : anyT P t = true) (hw : k'.wrap i = b) :
    OpS P X o s (s.put o.dst (.dat (.val (.int k' b)))) := by
  rw [← hw]
  exact op_convI hd ho hx ht ht0
theorem k_convE {d : Nat} {x : Operand} {t t' : Nat} {k k' : IntKind} {a b : Int} (hN : Nat.blt d N = true) (hx : s.ev x = .dat (.val (.int k a))) (ht : intT P t' = some k') (ht0 : anyT P t = true) (hw : k'.wrap a = b) (h : Run P X N Q (.ops ops rem :: ks) (s.put (some d) (.dat (.val (.int k' b))))) : RunK P X N Q ops rem ks (some d) (.convert t t' x) s := k_of hN (fun _ _ _ hd => op_convE hd rfl hx ht ht0 hw) h
/-- A whole number halved by a shift. -/
theorem op_shr1 {o : Oper} (hd : dstOk X.N o.dst = true) {t t' : TypeId} {x y : Operand} (ho : o.op = .binOp .shr t x y t') {k2 : IntKind} {a b : Int} (hx : s.ev x = .dat (.val (.int .u64 a))) (hy : s.ev y = .dat (.val (.int k2 1))) (hb : a / 2 = b) (hw : (Lit.int .u64 b).wf = true) :
    OpS P X o s (s.put o.dst (.dat (.val (.int .u64 b)))) := by
  refine op_bin hd ho hx hy (fun w => ?_) hw
  have e : a.fdiv 2 = b := by rw [Int.fdiv_eq_ediv_of_nonneg _ (by omega)]; exact hb
  simp [eqGuard, binOp, Op.shift, IntKind.bits, e]
theorem k_shr1 {d : Nat} {x y : Operand} {t t' : Nat} {k2 : IntKind} {a b : Int} (hN : Nat.blt d N = true) (hx : s.ev x = .dat (.val (.int .u64 a))) (hy : s.ev y = .dat (.val (.int k2 1))) (hb : a / 2 = b) (hw : (Lit.int .u64 b).wf = true) (h : Run P X N Q (.ops ops rem :: ks) (s.put (some d) (.dat (.val (.int .u64 b))))) : RunK P X N Q ops rem ks (some d) (.binOp .shr t x y t') s := k_of hN (fun _ _ _ hd => op_shr1 hd rfl hx hy hb hw) h
end
theorem Flat.tup2 {u v : Value} : Flat (.tup [.val u, .val v]) := fun w w' F F' x h => by
  unfold Rep at h ⊢
  obtain ⟨vs, e, h⟩ := h
  refine ⟨vs, e, ?_⟩
  simp only [Reps] at h ⊢
  unfold Rep at h ⊢
  exact h
theorem fits_PE (p : PEV) : fitsD true 4 (dvPE p) = true := by cases p <;> rfl
theorem fHas_p (x p : PEV) : PCall Tryz.prog 72 [dvPE x, dvPE p] (.val (.int .i64 (cmpPE x p))) := by
  have c := peCompare_p x p
  obtain ⟨d0, d1, d2, d3, e⟩ := dvPE_agg x
  obtain ⟨u0, u1, u2, u3, e'⟩ := dvPE_agg p
  rw [e, e'] at c ⊢
  refine pcall_of_run Tryz.func72 rfl Tryz.ntmps72 rfl (fun X => ?_)
  repeat' (first
    | refine run_seq ?_
    | (refine k_pick rfl ?_; first | refine k_assignD rfl rfl ?_ | refine k_loadW rfl rfl rfl (by first | rfl | (simp only [cellsD]; rfl)) ?_ | refine k_boxW rfl rfl rfl (by first | rfl | (simp only [cellsD]; rfl)) ?_ | refine k_call rfl (by kernel_rfl) rfl (by first | exact c) ?_)
    | refine run_opsEnd ?_
    | refine run_region ?_
    | refine run_retOk (resOk_tmp rfl rfl ?_)
    | fail)
  all_goals exact PLe.refl _
set_option maxHeartbeats 8000000 in
/-- slices.BinarySearchFunc over a set: how many elements stand before p, and whether the next one equals it. -/
theorem bsfHas_p (l : List PEV) (p : PEV) (hl : ∀ x ∈ l, OPE x) (hp : OPE p) (hs : Srt cmpPE l) :
    PCall Tryz.prog 71 [.sl 4 32 (l.map dvPE), dvPE p, .val (.func (.func 72) #[] #[])] (.tup [.val (.int .i64 ((locL_ cmpPE l p : Nat) : Int)), .val (.bool (fndL_ cmpPE l p))]) := by
  refine pcall_fits fun hfit => ?_
  have b1 := (hfit (.sl 4 32 (l.map dvPE)) (by simp)).sl.2.1
  clear hfit
  have n1 : (l.map dvPE).length = l.length := by simp
  have ga : ∀ {i : Nat} {x : PEV}, l[i]? = some x → (l.map dvPE)[((i : Nat) : Int).toNat]? = some (dvPE x) := fun h => by simp [h]
  rw [n1] at b1
  generalize l.map dvPE = da at *
  have hF := fun x => fHas_p x p
  obtain ⟨u0, u1, u2, u3, e'⟩ := dvPE_agg p
  rw [e'] at hF ⊢
  have hlo := fun (i : Nat) (x : PEV) (h : i < locL_ cmpPE l p) (hx : l[i]? = some x) => locL_lt l p i x h hx
  have hhi := fun (i : Nat) (x : PEV) (h : locL_ cmpPE l p ≤ i) (hx : l[i]? = some x) => locL_ge ordPE hl hp hs i x h hx
  have hle := locL_le (c := cmpPE) l p
  rw [fndL_at]
  generalize locL_ cmpPE l p = loc at *
  clear hs
  refine pcall_of_run Tryz.func71 rfl Tryz.ntmps71 rfl (fun X => ?_)
  repeat' (first
    | refine run_seq ?_
    | (refine k_pick rfl ?_; first | refine k_assignD rfl rfl ?_ | refine k_moveD rfl rfl ?_ | refine k_boxW rfl rfl rfl (by first | rfl | (simp only [cellsD]; rfl)) ?_ | refine k_lenD rfl rfl ?_)
    | refine run_opsEnd ?_
    | refine run_region ?_
    | refine run_block ?_
    | fail)
  refine run_loopS (ι := { j : Nat × Nat // j.1 ≤ loc ∧ loc ≤ j.2 ∧ j.2 ≤ l.length })
    (fun j => [(0, .dat (.sl 4 32 da)), (2, .dat (.val (.func (.func 72) #[] #[]))), (4, .ptr 4 0), (8, .dat (.val (.int .i64 ((da.length : Nat) : Int)))), (9, .dat (.val (.int .i64 (j.1.1 : Nat)))), (10, .dat (.val (.int .i64 (j.1.2 : Nat))))])
    (fun _ => [(4, .box 63 (cellsD (.agg [u0, u1, u2, u3])))]) (fun j => j.1.2 - j.1.1) ⟨(0, l.length), Nat.zero_le _, hle, Nat.le_refl _⟩ id ?_ ?_
  · (refine ⟨?_, ?_, by rfl⟩ <;> repeat' (first | exact trivial | exact ALe.ptr rfl | exact ALe.own rfl | exact ALe.elt rfl | exact BLe.boxD _ _ | exact BLe.row rfl | exact BLe.res | exact BLe.dead rfl | exact ALe.dat (PLe.refl _) | exact CLe.nil | refine And.intro ?_ ?_ | refine ALe.iface ?_ | refine ALe.clo ?_ | refine CLe.cons ?_ ?_ | refine BLe.box ?_ | refine BLe.row ?_ | exact ALe.any _ | refine ALe.dat (PLe.of_eq ?_)))
    all_goals (rw [n1])
  rintro ⟨⟨lo, hi⟩, h1, h2, h3⟩
  simp only at h1 h2 h3
  simp only
  by_cases hlt : lo < hi
  · have g1 : decide ((lo : Int) < (hi : Int)) = true := decide_eq_true (by omega)
    obtain ⟨h, hh⟩ : ∃ h, h = (lo + hi) / 2 := ⟨_, rfl⟩
    have w1 : IntKind.u64.wrap ((lo : Int) + (hi : Int)) = (lo : Int) + (hi : Int) := by
      simp [IntKind.wrap, IntKind.signed, IntKind.bits]; omega
    have w2 : ((lo : Int) + (hi : Int)) / 2 = ((h : Nat) : Int) := by omega
    have w3 : IntKind.i64.wrap ((h : Nat) : Int) = ((h : Nat) : Int) := by rw [IntKind.wrap_i64]; omega
    have w4 : (Lit.int .u64 ((h : Nat) : Int)).wf = true := by
      simp [Lit.wf, IntKind.min, IntKind.max, IntKind.signed, IntKind.bits]; omega
    obtain ⟨x, hx⟩ : ∃ x, l[h]? = some x := ⟨_, List.getElem?_eq_getElem (by omega)⟩
    have i1 := ga hx
    have cF := hF x
    have f1 := fits_PE x
    by_cases hc : cmpPE x p < 0
    · have g2 : decide (cmpPE x p < 0) = true := decide_eq_true hc
      have hb : h < loc := by
        refine Nat.lt_of_not_le fun hn => hhi h x hn hx hc
      repeat' (first
    | refine run_seq ?_
    | (refine k_pick rfl ?_; first | refine k_convE rfl rfl (by kernel_rfl) (by kernel_rfl) (by assumption) ?_ | refine k_shr1 rfl rfl rfl (by assumption) (by assumption) ?_ | refine k_assignD rfl rfl ?_ | refine k_moveD rfl rfl ?_ | refine k_bin2B rfl rfl rfl rfl ?_ | refine k_ariI rfl rfl rfl rfl (by first | omega | (dsimp only; omega)) ?_)
    | refine run_opsEnd ?_
    | refine run_region ?_
    | refine run_condT rfl (by first | rfl | assumption) ?_
    | refine run_block ?_
    | refine run_blkEnd ?_
    | refine run_skip ?_
    | refine run_drawC (by kernel_rfl) ?_
    | refine c_nil (And.intro (by kernel_rfl) ?_)
    | refine c_pick (d_indexAddrD rfl rfl rfl (by first | omega | (dsimp only; omega)) (by assumption)) ?_
    | refine c_pick (d_loadD rfl rfl (by first | rfl | assumption)) ?_
    | refine c_pick (d_moveD rfl rfl) ?_
    | refine c_pick (d_loadW rfl rfl rfl (by first | rfl | (simp only [cellsD]; rfl))) ?_
    | refine c_pick (d_bin2B rfl rfl rfl rfl) ?_
    | refine c_pick (d_callV rfl rfl (by kernel_rfl) rfl (by first | exact cF)) ?_
    | fail)
      refine run_again ?_
      refine ⟨⟨(h + 1, hi), by simp only; omega, by simp only; omega, h3⟩, id, by simp only; omega, ?_⟩
      (refine ⟨?_, ?_, by rfl⟩ <;> repeat' (first | exact trivial | exact ALe.ptr rfl | exact ALe.own rfl | exact ALe.elt rfl | exact BLe.boxD _ _ | exact BLe.row rfl | exact BLe.res | exact BLe.dead rfl | exact ALe.dat (PLe.refl _) | exact CLe.nil | refine And.intro ?_ ?_ | refine ALe.iface ?_ | refine ALe.clo ?_ | refine CLe.cons ?_ ?_ | refine BLe.box ?_ | refine BLe.row ?_ | exact ALe.any _ | refine ALe.dat (PLe.of_eq ?_)))
    · have g2 : decide (cmpPE x p < 0) = false := decide_eq_false hc
      have hb : loc ≤ h := by
        refine Nat.le_of_not_lt fun hn => hc (hlo h x hn hx)
      repeat' (first
    | refine run_seq ?_
    | (refine k_pick rfl ?_; first | refine k_convE rfl rfl (by kernel_rfl) (by kernel_rfl) (by assumption) ?_ | refine k_shr1 rfl rfl rfl (by assumption) (by assumption) ?_ | refine k_assignD rfl rfl ?_ | refine k_moveD rfl rfl ?_ | refine k_bin2B rfl rfl rfl rfl ?_ | refine k_ariI rfl rfl rfl rfl (by first | omega | (dsimp only; omega)) ?_)
    | refine run_opsEnd ?_
    | refine run_region ?_
    | refine run_condT rfl (by first | rfl | assumption) ?_
    | refine run_condF rfl (by first | rfl | assumption) ?_
    | refine run_block ?_
    | refine run_blkEnd ?_
    | refine run_skip ?_
    | refine run_drawC (by kernel_rfl) ?_
    | refine c_nil (And.intro (by kernel_rfl) ?_)
    | refine c_pick (d_indexAddrD rfl rfl rfl (by first | omega | (dsimp only; omega)) (by assumption)) ?_
    | refine c_pick (d_loadD rfl rfl (by first | rfl | assumption)) ?_
    | refine c_pick (d_moveD rfl rfl) ?_
    | refine c_pick (d_loadW rfl rfl rfl (by first | rfl | (simp only [cellsD]; rfl))) ?_
    | refine c_pick (d_bin2B rfl rfl rfl rfl) ?_
    | refine c_pick (d_callV rfl rfl (by kernel_rfl) rfl (by first | exact cF)) ?_
    | fail)
      refine run_again ?_
      refine ⟨⟨(lo, h), h1, hb, by simp only; omega⟩, id, by simp only; omega, ?_⟩
      (refine ⟨?_, ?_, by rfl⟩ <;> repeat' (first | exact trivial | exact ALe.ptr rfl | exact ALe.own rfl | exact ALe.elt rfl | exact BLe.boxD _ _ | exact BLe.row rfl | exact BLe.res | exact BLe.dead rfl | exact ALe.dat (PLe.refl _) | exact CLe.nil | refine And.intro ?_ ?_ | refine ALe.iface ?_ | refine ALe.clo ?_ | refine CLe.cons ?_ ?_ | refine BLe.box ?_ | refine BLe.row ?_ | exact ALe.any _ | refine ALe.dat (PLe.of_eq ?_)))
  · have g1 : decide ((lo : Int) < (hi : Int)) = false := decide_eq_false (by omega)
    obtain rfl : lo = loc := by omega
    by_cases hin : lo < l.length
    · have g2 : decide ((lo : Int) < ((da.length : Nat) : Int)) = true := decide_eq_true (by omega)
      obtain ⟨x, hx⟩ : ∃ x, l[lo]? = some x := ⟨_, List.getElem?_eq_getElem hin⟩
      have i1 := ga hx
      have cF := hF x
      have f1 := fits_PE x
      rw [hx]
      repeat' (first
    | refine run_seq ?_
    | (refine k_pick rfl ?_; first | refine k_moveD rfl rfl ?_ | refine k_bin2B rfl rfl rfl rfl ?_)
    | refine run_opsEnd ?_
    | refine run_region ?_
    | refine run_condF rfl (by first | rfl | assumption) ?_
    | refine run_exit rfl ?_
    | refine run_retOk (resOk_tmp2 rfl rfl rfl ?_ ?_)
    | refine run_drawC (by kernel_rfl) ?_
    | refine c_nil (And.intro (by kernel_rfl) ?_)
    | refine c_pick (d_assignD rfl rfl) ?_
    | refine c_pick (d_moveD rfl rfl) ?_
    | refine c_pick (d_bin2B rfl rfl rfl rfl) ?_
    | refine c_pick (d_pickT rfl rfl (by first | rfl | assumption) rfl) ?_
    | refine c_pickY rfl (by first | rfl | assumption) (d_indexAddrD rfl rfl rfl (by first | omega | (dsimp only; omega)) (by assumption)) ?_
    | refine c_pickY rfl (by first | rfl | assumption) (d_loadD rfl rfl (by first | rfl | assumption)) ?_
    | refine c_pickY rfl (by first | rfl | assumption) (d_moveD rfl rfl) ?_
    | refine c_pickY rfl (by first | rfl | assumption) (d_loadW rfl rfl rfl (by first | rfl | (simp only [cellsD]; rfl))) ?_
    | refine c_pickY rfl (by first | rfl | assumption) (d_bin2B rfl rfl rfl rfl) ?_
    | refine c_pickY rfl (by first | rfl | assumption) (d_callV rfl rfl (by kernel_rfl) rfl (by first | exact cF)) ?_
    | fail)
      all_goals exact PLe.refl _
    · have g2 : decide ((lo : Int) < ((da.length : Nat) : Int)) = false := decide_eq_false (by omega)
      rw [List.getElem?_eq_none (by omega)]
      repeat' (first
    | refine run_seq ?_
    | (refine k_pick rfl ?_; first | refine k_moveD rfl rfl ?_ | refine k_bin2B rfl rfl rfl rfl ?_)
    | refine run_opsEnd ?_
    | refine run_region ?_
    | refine run_condF rfl (by first | rfl | assumption) ?_
    | refine run_exit rfl ?_
    | refine run_retOk (resOk_tmp2 rfl rfl rfl ?_ ?_)
    | refine run_drawC (by kernel_rfl) ?_
    | refine c_nil (And.intro (by kernel_rfl) ?_)
    | refine c_pick (d_assignD rfl rfl) ?_
    | refine c_pick (d_moveD rfl rfl) ?_
    | refine c_pick (d_bin2B rfl rfl rfl rfl) ?_
    | refine c_pick (d_pickF rfl rfl (by first | rfl | assumption) rfl) ?_
    | refine c_passT rfl (by first | rfl | assumption) rfl ?_
    | fail)
      all_goals exact PLe.refl _
theorem fInsert_p (x p : PEV) : PCall Tryz.prog 99 [dvPE x, dvPE p] (.val (.int .i64 (cmpPE x p))) := by
  have c := peCompare_p x p
  obtain ⟨d0, d1, d2, d3, e⟩ := dvPE_agg x
  obtain ⟨u0, u1, u2, u3, e'⟩ := dvPE_agg p
  rw [e, e'] at c ⊢
  refine pcall_of_run Tryz.func99 rfl Tryz.ntmps99 rfl (fun X => ?_)
  repeat' (first
    | refine run_seq ?_
    | (refine k_pick rfl ?_; first | refine k_assignD rfl rfl ?_ | refine k_loadW rfl rfl rfl (by first | rfl | (simp only [cellsD]; rfl)) ?_ | refine k_boxW rfl rfl rfl (by first | rfl | (simp only [cellsD]; rfl)) ?_ | refine k_call rfl (by kernel_rfl) rfl (by first | exact c) ?_)
    | refine run_opsEnd ?_
    | refine run_region ?_
    | refine run_retOk (resOk_tmp rfl rfl ?_)
    | fail)
  all_goals exact PLe.refl _
set_option maxHeartbeats 8000000 in
/-- slices.BinarySearchFunc over a set: how many elements stand before p, and whether the next one equals it. -/
theorem bsfInsert_p (l : List PEV) (p : PEV) (hl : ∀ x ∈ l, OPE x) (hp : OPE p) (hs : Srt cmpPE l) :
    PCall Tryz.prog 71 [.sl 4 32 (l.map dvPE), dvPE p, .val (.func (.func 99) #[] #[])] (.tup [.val (.int .i64 ((locL_ cmpPE l p : Nat) : Int)), .val (.bool (fndL_ cmpPE l p))]) := by
  refine pcall_fits fun hfit => ?_
  have b1 := (hfit (.sl 4 32 (l.map dvPE)) (by simp)).sl.2.1
  clear hfit
  have n1 : (l.map dvPE).length = l.length := by simp
  have ga : ∀ {i : Nat} {x : PEV}, l[i]? = some x → (l.map dvPE)[((i : Nat) : Int).toNat]? = some (dvPE x) := fun h => by simp [h]
  rw [n1] at b1
  generalize l.map dvPE = da at *
  have hF := fun x => fInsert_p x p
  obtain ⟨u0, u1, u2, u3, e'⟩ := dvPE_agg p
  rw [e'] at hF ⊢
  have hlo := fun (i : Nat) (x : PEV) (h : i < locL_ cmpPE l p) (hx : l[i]? = some x) => locL_lt l p i x h hx
  have hhi := fun (i : Nat) (x : PEV) (h : locL_ cmpPE l p ≤ i) (hx : l[i]? = some x) => locL_ge ordPE hl hp hs i x h hx
  have hle := locL_le (c := cmpPE) l p
  rw [fndL_at]
  generalize locL_ cmpPE l p = loc at *
  clear hs
  refine pcall_of_run Tryz.func71 rfl Tryz.ntmps71 rfl (fun X => ?_)
  repeat' (first
    | refine run_seq ?_
    | (refine k_pick rfl ?_; first | refine k_assignD rfl rfl ?_ | refine k_moveD rfl rfl ?_ | refine k_boxW rfl rfl rfl (by first | rfl | (simp only [cellsD]; rfl)) ?_ | refine k_lenD rfl rfl ?_)
    | refine run_opsEnd ?_
    | refine run_region ?_
    | refine run_block ?_
    | fail)
  refine run_loopS (ι := { j : Nat × Nat // j.1 ≤ loc ∧ loc ≤ j.2 ∧ j.2 ≤ l.length })
    (fun j => [(0, .dat (.sl 4 32 da)), (2, .dat (.val (.func (.func 99) #[] #[]))), (4, .ptr 4 0), (8, .dat (.val (.int .i64 ((da.length : Nat) : Int)))), (9, .dat (.val (.int .i64 (j.1.1 : Nat)))), (10, .dat (.val (.int .i64 (j.1.2 : Nat))))])
    (fun _ => [(4, .box 63 (cellsD (.agg [u0, u1, u2, u3])))]) (fun j => j.1.2 - j.1.1) ⟨(0, l.length), Nat.zero_le _, hle, Nat.le_refl _⟩ id ?_ ?_
  · (refine ⟨?_, ?_, by rfl⟩ <;> repeat' (first | exact trivial | exact ALe.ptr rfl | exact ALe.own rfl | exact ALe.elt rfl | exact BLe.boxD _ _ | exact BLe.row rfl | exact BLe.res | exact BLe.dead rfl | exact ALe.dat (PLe.refl _) | exact CLe.nil | refine And.intro ?_ ?_ | refine ALe.iface ?_ | refine ALe.clo ?_ | refine CLe.cons ?_ ?_ | refine BLe.box ?_ | refine BLe.row ?_ | exact ALe.any _ | refine ALe.dat (PLe.of_eq ?_)))
    all_goals (rw [n1])
  rintro ⟨⟨lo, hi⟩, h1, h2, h3⟩
  simp only at h1 h2 h3
  simp only
  by_cases hlt : lo < hi
  · have g1 : decide ((lo : Int) < (hi : Int)) = true := decide_eq_true (by omega)
    obtain ⟨h, hh⟩ : ∃ h, h = (lo + hi) / 2 := ⟨_, rfl⟩
    have w1 : IntKind.u64.wrap ((lo : Int) + (hi : Int)) = (lo : Int) + (hi : Int) := by
      simp [IntKind.wrap, IntKind.signed, IntKind.bits]; omega
    have w2 : ((lo : Int) + (hi : Int)) / 2 = ((h : Nat) : Int) := by omega
    have w3 : IntKind.i64.wrap ((h : Nat) : Int) = ((h : Nat) : Int) := by rw [IntKind.wrap_i64]; omega
    have w4 : (Lit.int .u64 ((h : Nat) : Int)).wf = true := by
      simp [Lit.wf, IntKind.min, IntKind.max, IntKind.signed, IntKind.bits]; omega
    obtain ⟨x, hx⟩ : ∃ x, l[h]? = some x := ⟨_, List.getElem?_eq_getElem (by omega)⟩
    have i1 := ga hx
    have cF := hF x
    have f1 := fits_PE x
    by_cases hc : cmpPE x p < 0
    · have g2 : decide (cmpPE x p < 0) = true := decide_eq_true hc
      have hb : h < loc := by
        refine Nat.lt_of_not_le fun hn => hhi h x hn hx hc
      repeat' (first
    | refine run_seq ?_
    | (refine k_pick rfl ?_; first | refine k_convE rfl rfl (by kernel_rfl) (by kernel_rfl) (by assumption) ?_ | refine k_shr1 rfl rfl rfl (by assumption) (by assumption) ?_ | refine k_assignD rfl rfl ?_ | refine k_moveD rfl rfl ?_ | refine k_bin2B rfl rfl rfl rfl ?_ | refine k_ariI rfl rfl rfl rfl (by first | omega | (dsimp only; omega)) ?_)
    | refine run_opsEnd ?_
    | refine run_region ?_
    | refine run_condT rfl (by first | rfl | assumption) ?_
    | refine run_block ?_
    | refine run_blkEnd ?_
    | refine run_skip ?_
    | refine run_drawC (by kernel_rfl) ?_
    | refine c_nil (And.intro (by kernel_rfl) ?_)
    | refine c_pick (d_indexAddrD rfl rfl rfl (by first | omega | (dsimp only; omega)) (by assumption)) ?_
    | refine c_pick (d_loadD rfl rfl (by first | rfl | assumption)) ?_
    | refine c_pick (d_moveD rfl rfl) ?_
    | refine c_pick (d_loadW rfl rfl rfl (by first | rfl | (simp only [cellsD]; rfl))) ?_
    | refine c_pick (d_bin2B rfl rfl rfl rfl) ?_
    | refine c_pick (d_callV rfl rfl (by kernel_rfl) rfl (by first | exact cF)) ?_
    | fail)
      refine run_again ?_
      refine ⟨⟨(h + 1, hi), by simp only; omega, by simp only; omega, h3⟩, id, by simp only; omega, ?_⟩
      (refine ⟨?_, ?_, by rfl⟩ <;> repeat' (first | exact trivial | exact ALe.ptr rfl | exact ALe.own rfl | exact ALe.elt rfl | exact BLe.boxD _ _ | exact BLe.row rfl | exact BLe.res | exact BLe.dead rfl | exact ALe.dat (PLe.refl _) | exact CLe.nil | refine And.intro ?_ ?_ | refine ALe.iface ?_ | refine ALe.clo ?_ | refine CLe.cons ?_ ?_ | refine BLe.box ?_ | refine BLe.row ?_ | exact ALe.any _ | refine ALe.dat (PLe.of_eq ?_)))
    · have g2 : decide (cmpPE x p < 0) = false := decide_eq_false hc
      have hb : loc ≤ h := by
        refine Nat.le_of_not_lt fun hn => hc (hlo h x hn hx)
      repeat' (first
    | refine run_seq ?_
    | (refine k_pick rfl ?_; first | refine k_convE rfl rfl (by kernel_rfl) (by kernel_rfl) (by assumption) ?_ | refine k_shr1 rfl rfl rfl (by assumption) (by assumption) ?_ | refine k_assignD rfl rfl ?_ | refine k_moveD rfl rfl ?_ | refine k_bin2B rfl rfl rfl rfl ?_ | refine k_ariI rfl rfl rfl rfl (by first | omega | (dsimp only; omega)) ?_)
    | refine run_opsEnd ?_
    | refine run_region ?_
    | refine run_condT rfl (by first | rfl | assumption) ?_
    | refine run_condF rfl (by first | rfl | assumption) ?_
    | refine run_block ?_
    | refine run_blkEnd ?_
    | refine run_skip ?_
    | refine run_drawC (by kernel_rfl) ?_
    | refine c_nil (And.intro (by kernel_rfl) ?_)
    | refine c_pick (d_indexAddrD rfl rfl rfl (by first | omega | (dsimp only; omega)) (by assumption)) ?_
    | refine c_pick (d_loadD rfl rfl (by first | rfl | assumption)) ?_
    | refine c_pick (d_moveD rfl rfl) ?_
    | refine c_pick (d_loadW rfl rfl rfl (by first | rfl | (simp only [cellsD]; rfl))) ?_
    | refine c_pick (d_bin2B rfl rfl rfl rfl) ?_
    | refine c_pick (d_callV rfl rfl (by kernel_rfl) rfl (by first | exact cF)) ?_
    | fail)
      refine run_again ?_
      refine ⟨⟨(lo, h), h1, hb, by simp only; omega⟩, id, by simp only; omega, ?_⟩
      (refine ⟨?_, ?_, by rfl⟩ <;> repeat' (first | exact trivial | exact ALe.ptr rfl | exact ALe.own rfl | exact ALe.elt rfl | exact BLe.boxD _ _ | exact BLe.row rfl | exact BLe.res | exact BLe.dead rfl | exact ALe.dat (PLe.refl _) | exact CLe.nil | refine And.intro ?_ ?_ | refine ALe.iface ?_ | refine ALe.clo ?_ | refine CLe.cons ?_ ?_ | refine BLe.box ?_ | refine BLe.row ?_ | exact ALe.any _ | refine ALe.dat (PLe.of_eq ?_)))
  · have g1 : decide ((lo : Int) < (hi : Int)) = false := decide_eq_false (by omega)
    obtain rfl : lo = loc := by omega
    by_cases hin : lo < l.length
    · have g2 : decide ((lo : Int) < ((da.length : Nat) : Int)) = true := decide_eq_true (by omega)
      obtain ⟨x, hx⟩ : ∃ x, l[lo]? = some x := ⟨_, List.getElem?_eq_getElem hin⟩
      have i1 := ga hx
      have cF := hF x
      have f1 := fits_PE x
      rw [hx]
      repeat' (first
    | refine run_seq ?_
    | (refine k_pick rfl ?_; first | refine k_moveD rfl rfl ?_ | refine k_bin2B rfl rfl rfl rfl ?_)
    | refine run_opsEnd ?_
    | refine run_region ?_
    | refine run_condF rfl (by first | rfl | assumption) ?_
    | refine run_exit rfl ?_
    | refine run_retOk (resOk_tmp2 rfl rfl rfl ?_ ?_)
    | refine run_drawC (by kernel_rfl) ?_
    | refine c_nil (And.intro (by kernel_rfl) ?_)
    | refine c_pick (d_assignD rfl rfl) ?_
    | refine c_pick (d_moveD rfl rfl) ?_
    | refine c_pick (d_bin2B rfl rfl rfl rfl) ?_
    | refine c_pick (d_pickT rfl rfl (by first | rfl | assumption) rfl) ?_
    | refine c_pickY rfl (by first | rfl | assumption) (d_indexAddrD rfl rfl rfl (by first | omega | (dsimp only; omega)) (by assumption)) ?_
    | refine c_pickY rfl (by first | rfl | assumption) (d_loadD rfl rfl (by first | rfl | assumption)) ?_
    | refine c_pickY rfl (by first | rfl | assumption) (d_moveD rfl rfl) ?_
    | refine c_pickY rfl (by first | rfl | assumption) (d_loadW rfl rfl rfl (by first | rfl | (simp only [cellsD]; rfl))) ?_
    | refine c_pickY rfl (by first | rfl | assumption) (d_bin2B rfl rfl rfl rfl) ?_
    | refine c_pickY rfl (by first | rfl | assumption) (d_callV rfl rfl (by kernel_rfl) rfl (by first | exact cF)) ?_
    | fail)
      all_goals exact PLe.refl _
    · have g2 : decide ((lo : Int) < ((da.length : Nat) : Int)) = false := decide_eq_false (by omega)
      rw [List.getElem?_eq_none (by omega)]
      repeat' (first
    | refine run_seq ?_
    | (refine k_pick rfl ?_; first | refine k_moveD rfl rfl ?_ | refine k_bin2B rfl rfl rfl rfl ?_)
    | refine run_opsEnd ?_
    | refine run_region ?_
    | refine run_condF rfl (by first | rfl | assumption) ?_
    | refine run_exit rfl ?_
    | refine run_retOk (resOk_tmp2 rfl rfl rfl ?_ ?_)
    | refine run_drawC (by kernel_rfl) ?_
    | refine c_nil (And.intro (by kernel_rfl) ?_)
    | refine c_pick (d_assignD rfl rfl) ?_
    | refine c_pick (d_moveD rfl rfl) ?_
    | refine c_pick (d_bin2B rfl rfl rfl rfl) ?_
    | refine c_pick (d_pickF rfl rfl (by first | rfl | assumption) rfl) ?_
    | refine c_passT rfl (by first | rfl | assumption) rfl ?_
    | fail)
      all_goals exact PLe.refl _
theorem setHas_p (l : List PEV) (p : PEV) (hl : ∀ x ∈ l, OPE x) (hp : OPE p) (hs : Srt cmpPE l) : PCall Tryz.prog 38 [.ptr (.agg [.sl 4 32 (l.map dvPE)]), dvPE p] (.val (.bool (hasL_ cmpPE l p))) := by
  have c := bsfHas_p l p hl hp hs
  rw [← fnd_has ordPE hl hp hs]
  obtain ⟨u0, u1, u2, u3, e⟩ := dvPE_agg p
  rw [e] at c ⊢
  refine pcall_of_run Tryz.func38 rfl Tryz.ntmps38 rfl (fun X => ?_)
  repeat' (first
    | refine run_seq ?_
    | (refine k_pick rfl ?_; first | refine k_assignD rfl rfl ?_ | refine k_moveD rfl rfl ?_ | refine k_boxW rfl rfl rfl (by first | rfl | (simp only [cellsD]; rfl)) ?_)
    | refine run_opsEnd ?_
    | refine run_region ?_
    | refine run_retOk (resOk_tmp rfl rfl ?_)
    | refine run_drawC (by kernel_rfl) ?_
    | refine c_nil (And.intro (by kernel_rfl) ?_)
    | refine c_pick (d_assignD rfl rfl) ?_
    | refine c_pick (d_moveD rfl rfl) ?_
    | refine c_pick (d_loadW rfl rfl rfl (by first | rfl | (simp only [cellsD]; rfl))) ?_
    | refine c_pick (d_call rfl (by kernel_rfl) rfl (by first | exact c)) ?_
    | refine c_pick (d_extract rfl rfl rfl) ?_
    | refine c_pick (d_nilD rfl rfl) ?_
    | refine c_pick (d_fieldAddrD rfl rfl rfl rfl (by first | rfl | (simp only [cellsD]; rfl))) ?_
    | refine c_pick (d_loadD rfl rfl (by first | rfl | (simp only [cellsD]; rfl))) ?_
    | fail)
  all_goals exact PLe.refl _
theorem setSize_p (l : List PEV) : PCall Tryz.prog 40 [.ptr (.agg [.sl 4 32 (l.map dvPE)])] (.val (.int .i64 ((l.length : Nat) : Int))) := by
  have n1 : (l.map dvPE).length = l.length := by simp
  rw [← n1]
  refine pcall_of_run Tryz.func40 rfl Tryz.ntmps40 rfl (fun X => ?_)
  repeat' (first
    | refine run_seq ?_
    | (refine k_pick rfl ?_; first | refine k_assignD rfl rfl ?_ | refine k_moveD rfl rfl ?_ | refine k_nilD rfl rfl ?_ | refine k_lenD rfl rfl ?_ | refine k_fieldAddrD rfl rfl rfl rfl (by first | rfl | (simp only [cellsD]; rfl)) ?_ | refine k_loadD rfl rfl (by first | rfl | (simp only [cellsD]; rfl)) ?_)
    | refine run_opsEnd ?_
    | refine run_region ?_
    | refine run_retOk (resOk_tmp rfl rfl ?_)
    | fail)
  all_goals exact PLe.refl _
set_option maxHeartbeats 8000000 in
theorem insert_c (l : List PEV) (p : PEV) (hl : ∀ x ∈ l, OPE x) (hp : OPE p) (hs : Srt cmpPE l) (hb : (l.length + 1) * 32 ≤ 140737488351232) :
    ACall1 Tryz.prog 70 [.ptr 1000 0, .dat (dvPE p)] [(1000, .box 95 [.own 1001]), (1001, .row 63 4 32 (l.map dvPE))] (.dat (.tup []))
      [(1000, .box 95 [.own 0]), (0, .row 63 4 32 ((insL_ cmpPE l p).map dvPE)), (1001, .dead)] := by
  have c := bsfInsert_p l p hl hp hs
  have n1 : (l.map dvPE).length = l.length := by simp
  have hle := locL_le (c := cmpPE) l p
  rw [sins_loc]
  obtain ⟨u0, u1, u2, u3, e⟩ := dvPE_agg p
  cases hf : fndL_ cmpPE l p with
  | true =>
    rw [hf] at c
    rw [e] at c ⊢
    rw [if_pos rfl]
    generalize l.map dvPE = da at *
    refine acall_of_run Tryz.func70 rfl Tryz.ntmps70 rfl (fun X => ?_)
    repeat' (first
    | refine run_seq ?_
    | (refine k_pick rfl ?_; first | refine k_moveD rfl rfl ?_ | refine k_boxW rfl rfl rfl (by first | rfl | (simp only [cellsD]; rfl)) ?_)
    | refine run_opsEnd ?_
    | refine run_region ?_
    | refine run_condT rfl (by first | rfl | assumption) ?_
    | refine run_drawC (by kernel_rfl) ?_
    | refine c_nil (And.intro (by kernel_rfl) ?_)
    | refine c_pick (d_callZ gV rfl (by kernel_rfl) rfl c Flat.tup2) ?_
    | refine c_pick (d_assignD rfl rfl) ?_
    | refine c_pick (d_moveD rfl rfl) ?_
    | refine c_pick (d_fieldAddrB rfl rfl rfl) ?_
    | refine c_pick (d_loadW rfl rfl rfl (by first | rfl | (simp only [cellsD]; rfl))) ?_
    | refine c_pick (d_extract rfl rfl rfl) ?_
    | refine c_pick (d_nilB rfl rfl) ?_
    | refine c_pick (d_moveP rfl rfl) ?_
    | refine c_pick (d_loadBO rfl rfl rfl rfl) ?_
    | fail)
    refine run_retA () (fun j => if j = 0 then 1001 else j) (tm := []) ?_ (resA_none rfl)
    (refine ⟨?_, ?_, by rfl⟩ <;> repeat' (first | exact trivial | exact ALe.ptr rfl | exact ALe.own rfl | exact ALe.elt rfl | exact BLe.boxD _ _ | exact BLe.row rfl | exact BLe.res | exact BLe.dead rfl | exact ALe.dat (PLe.refl _) | exact CLe.nil | refine And.intro ?_ ?_ | refine ALe.iface ?_ | refine ALe.clo ?_ | refine CLe.cons ?_ ?_ | refine BLe.box ?_ | refine BLe.row ?_ | exact ALe.any _ | refine ALe.dat (PLe.of_eq ?_)))
  | false =>
    rw [hf] at c
    rw [if_neg (by simp), List.map_append, List.map_cons, List.map_take, List.map_drop]
    rw [e] at c ⊢
    generalize l.map dvPE = da at *
    generalize locL_ cmpPE l p = loc at *
    have q0 : loc ≤ da.length := by omega
    have q1 : (da.length + 1) * 32 ≤ 140737488351232 := by omega
    have q2 : da.length + 1 ≤ 140737488351232 := by omega
    refine acall_of_run Tryz.func70 rfl Tryz.ntmps70 rfl (fun X => ?_)
    repeat' (first
    | refine run_seq ?_
    | (refine k_pick rfl ?_; first | refine k_moveD rfl rfl ?_ | refine k_boxW rfl rfl rfl (by first | rfl | (simp only [cellsD]; rfl)) ?_)
    | refine run_opsEnd ?_
    | refine run_region ?_
    | refine run_condF rfl (by first | rfl | assumption) ?_
    | refine run_skip ?_
    | refine run_drawC (by kernel_rfl) ?_
    | refine c_nil (And.intro (by kernel_rfl) ?_)
    | refine c_pick (d_callZ gV rfl (by kernel_rfl) rfl c Flat.tup2) ?_
    | refine c_pick (d_insert rfl rfl rfl rfl rfl rfl rfl rfl (by assumption) (by assumption) (by assumption)) ?_
    | refine c_pick (d_assignD rfl rfl) ?_
    | refine c_pick (d_moveD rfl rfl) ?_
    | refine c_pick (d_fieldAddrB rfl rfl rfl) ?_
    | refine c_pick (d_loadW rfl rfl rfl (by first | rfl | (simp only [cellsD]; rfl))) ?_
    | refine c_pick (d_extract rfl rfl rfl) ?_
    | refine c_pick (d_nilB rfl rfl) ?_
    | refine c_pick (d_storeB rfl rfl rfl rfl rfl) ?_
    | refine c_pick (d_moveP rfl rfl) ?_
    | refine c_pick (d_loadBO rfl rfl rfl rfl) ?_
    | refine c_pick (d_buildSlice rfl rfl (by kernel_rfl) rfl rfl rfl rfl rfl) ?_
    | fail)
    refine run_endA () (fun j => if j = 0 then 24 else j) (tm := []) ?_ (resA_none rfl)
    (refine ⟨?_, ?_, by rfl⟩ <;> repeat' (first | exact trivial | exact ALe.ptr rfl | exact ALe.own rfl | exact ALe.elt rfl | exact BLe.boxD _ _ | exact BLe.row rfl | exact BLe.res | exact BLe.dead rfl | exact ALe.dat (PLe.refl _) | exact CLe.nil | refine And.intro ?_ ?_ | refine ALe.iface ?_ | refine ALe.clo ?_ | refine CLe.cons ?_ ?_ | refine BLe.box ?_ | refine BLe.row ?_ | exact ALe.any _ | refine ALe.dat (PLe.of_eq ?_)))
set_option maxHeartbeats 8000000 in
theorem toElemSet_p (l : List EV) (hl : ∀ x ∈ l, OPE (toPE x)) : PCall Tryz.prog 37 [.sl 11 168 (l.map pdE)] (.ptr (.agg [.sl 4 32 ((setL_ cmpPE (l.map toPE)).map dvPE)])) := by
  refine pcall_fits fun hfit => ?_
  have b0 := (hfit (.sl 11 168 (l.map pdE)) (by simp)).sl
  clear hfit
  have n1 : (l.map pdE).length = l.length := by simp
  have b1 := b0.1
  rw [n1] at b1
  clear b0
  have hP : ∀ y ∈ l.map toPE, OPE y := fun y hy => by
    obtain ⟨x, hx, rfl⟩ := List.mem_map.1 hy
    exact hl x hx
  have hlen : ∀ k, (setL_ cmpPE ((l.map toPE).take k)).length ≤ k := by
    intro k
    induction k with
    | zero => simp [setL_]
    | succ k ih =>
      by_cases hk : k < (l.map toPE).length
      · rw [List.take_add_one, List.getElem?_eq_getElem hk]
        simp only [Option.toList_some]
        rw [set_app, len_ins ordPE (set_P ordPE fun y hy => hP y (List.mem_of_mem_take hy)) (hP _ (List.getElem_mem hk)) (set_srt ordPE fun y hy => hP y (List.mem_of_mem_take hy))]
        split <;> omega
      · rw [List.take_of_length_le (by omega)] at ih ⊢
        omega
  have ga : ∀ {i : Nat} {x : EV}, l[i]? = some x → (l.map pdE)[((i : Nat) : Int).toNat]? = some (pdE x) := fun h => by simp [h]
  refine pcall_of_run Tryz.func37 rfl Tryz.ntmps37 rfl (fun X => ?_)
  repeat' (first
    | refine run_seq ?_
    | (refine k_pick rfl ?_; first | refine k_assignD rfl rfl ?_ | refine k_moveD rfl rfl ?_ | refine k_boxW rfl rfl rfl (by first | rfl | (simp only [cellsD]; rfl)) ?_ | refine k_lenD rfl rfl ?_ | refine k_assignP rfl rfl ?_ | refine k_build rfl rfl rfl ?_)
    | refine run_opsEnd ?_
    | refine run_region ?_
    | refine run_block ?_
    | fail)
  refine run_nilOwnB 7 0 100 63 4 32 rfl rfl rfl ?_
  refine run_loopS (ι := { k : Nat // k ≤ l.length })
    (fun k => [(3, .ptr 7 0), (8, .dat (.sl 11 168 (l.map pdE))), (9, .dat (.val (.int .i64 (((l.map pdE).length : Nat) : Int)))), (10, .dat (.val (.int .i64 (k.1 : Nat))))])
    (fun k => [(7, .box 95 [.own 100]), (100, .row 63 4 32 ((setL_ cmpPE ((l.map toPE).take k.1)).map dvPE))]) (fun k => l.length - k.1) ⟨0, Nat.zero_le _⟩ id ?_ ?_
  · (refine ⟨?_, ?_, by rfl⟩ <;> repeat' (first | exact trivial | exact ALe.ptr rfl | exact ALe.own rfl | exact ALe.elt rfl | exact BLe.boxD _ _ | exact BLe.row rfl | exact BLe.res | exact BLe.dead rfl | exact ALe.dat (PLe.refl _) | exact CLe.nil | refine And.intro ?_ ?_ | refine ALe.iface ?_ | refine ALe.clo ?_ | refine CLe.cons ?_ ?_ | refine BLe.box ?_ | refine BLe.row ?_ | exact ALe.any _ | refine ALe.dat (PLe.of_eq ?_)))
    all_goals first | rfl | simp [setL_]
  rintro ⟨k, hk⟩
  by_cases hlt : k < l.length
  · have hc : decide ((k : Int) < (((l.map pdE).length : Nat) : Int)) = true := decide_eq_true (by omega)
    obtain ⟨x, hx⟩ : ∃ x, l[k]? = some x := ⟨_, List.getElem?_eq_getElem hlt⟩
    have hi := ga hx
    have c1 := toElem_v x
    have hS : ∀ y ∈ (l.map toPE).take k, OPE y := fun y hy => hP y (List.mem_of_mem_take hy)
    have c2 := insert_c (setL_ cmpPE ((l.map toPE).take k)) (toPE x) (set_P ordPE hS) (hl x (List.mem_of_getElem? hx)) (set_srt ordPE hS) (by have := hlen k; omega)
    have hstep : insL_ cmpPE (setL_ cmpPE ((l.map toPE).take k)) (toPE x) = setL_ cmpPE ((l.map toPE).take (k + 1)) := by
      rw [← set_app, List.take_add_one, show (l.map toPE)[k]? = some (toPE x) by simp [hx]]; rfl
    rw [hstep] at c2
    generalize (setL_ cmpPE ((l.map toPE).take k)).map dvPE = da at *
    repeat' (first
    | refine run_seq ?_
    | (refine k_pick rfl ?_; first | refine k_indexAddrD rfl rfl rfl (by first | omega | (dsimp only; omega)) (by assumption) ?_ | refine k_moveD rfl rfl ?_ | refine k_loadW rfl rfl rfl (by first | rfl | (simp only [pdE, cellsD]; rfl)) ?_ | refine k_bin2B rfl rfl rfl rfl ?_ | refine k_call rfl (by kernel_rfl) rfl (by first | exact c1 | (simp only [← pdE]; exact c1)) ?_ | refine k_storeW rfl rfl rfl (by first | rfl | (simp only [pdE, cellsD]; rfl)) (by first | rfl | (simp only [pdE, cellsD]; rfl)) rfl ?_ | refine k_ariI rfl rfl rfl rfl (by first | omega | (dsimp only; omega)) ?_ | refine k_loadD rfl rfl (by first | rfl | (simp only [pdE, cellsD]; rfl)) ?_ | refine k_alloc rfl rfl ?_ | refine k_moveP rfl rfl ?_ | refine k_acall1 (thk [(1000, _), (1001, _)] 200) rfl (by kernel_rfl) (c2) rfl ⟨rfl, ⟨rfl, trivial⟩⟩ rfl (freshB_ok rfl) rfl ?_)
    | refine run_opsEnd ?_
    | refine run_region ?_
    | refine run_condT rfl (by first | rfl | assumption) ?_
    | refine run_block ?_
    | refine run_blkEnd ?_
    | refine run_skip ?_
    | fail)
    refine run_again ?_
    refine ⟨⟨k + 1, by omega⟩, (fun j => if j = 100 then 200 else j), by simp only; omega, ?_⟩
    (refine ⟨?_, ?_, by rfl⟩ <;> repeat' (first | exact trivial | exact ALe.ptr rfl | exact ALe.own rfl | exact ALe.elt rfl | exact BLe.boxD _ _ | exact BLe.row rfl | exact BLe.res | exact BLe.dead rfl | exact ALe.dat (PLe.refl _) | exact CLe.nil | refine And.intro ?_ ?_ | refine ALe.iface ?_ | refine ALe.clo ?_ | refine CLe.cons ?_ ?_ | refine BLe.box ?_ | refine BLe.row ?_ | exact ALe.any _ | refine ALe.dat (PLe.of_eq ?_)))
  · have hc : decide ((k : Int) < (((l.map pdE).length : Nat) : Int)) = false := decide_eq_false (by omega)
    have hkk : (l.map toPE).take k = l.map toPE := List.take_of_length_le (by rw [List.length_map]; omega)
    simp only [hkk]
    refine run_frz (fun _ => false) (fun k => Nat.beq k 100) ?_
    refine run_frz (fun t => Nat.beq t 95) (fun k => Nat.beq k 7) ?_
    repeat' (first
    | refine run_seq ?_
    | (refine k_pick rfl ?_; first | refine k_assignD rfl rfl ?_ | refine k_moveD rfl rfl ?_ | refine k_bin2B rfl rfl rfl rfl ?_)
    | refine run_opsEnd ?_
    | refine run_region ?_
    | refine run_condF rfl (by first | rfl | assumption) ?_
    | refine run_exit rfl ?_
    | refine run_retOk (resOk_tmp rfl rfl ?_)
    | fail)
    all_goals exact PLe.refl _
end Go.Proofs.YtbbacpdbbmjblaaGreat
end
section
set_option linter.unusedVariables false
namespace Go.Proofs.YtbbacpdbbmjblaaGreat
open Go.RowKit
set_option linter.unusedSimpArgs false
set_option maxHeartbeats 8000000 in
theorem hasElem_p (l : List EV) (x : EV) : PCall Tryz.prog 11 [pdP l, pdE x] (.val (.bool (l.any fun y => eqE y x))) := by
  refine pcall_fits fun hfit => ?_
  unfold pdP at hfit ⊢
  have b1 := (hfit (.sl 11 168 (l.map pdE)) (by simp)).sl.2.1
  clear hfit
  have n1 : (l.map pdE).length = l.length := by simp
  have ga : ∀ {i : Nat} {x : EV}, l[i]? = some x → (l.map pdE)[((i : Nat) : Int).toNat]? = some (pdE x) := fun h => by simp [h]
  rw [n1] at b1
  refine pcall_of_run Tryz.func11 rfl Tryz.ntmps11 rfl (fun X => ?_)
  repeat' (first
    | refine run_seq ?_
    | (refine k_pick rfl ?_; first | refine k_assignD rfl rfl ?_ | refine k_moveD rfl rfl ?_ | refine k_boxW rfl rfl rfl (by first | rfl | (simp only [pdE, cellsD]; rfl)) ?_ | refine k_lenD rfl rfl ?_)
    | refine run_opsEnd ?_
    | refine run_region ?_
    | refine run_block ?_
    | fail)
  refine run_loopS (ι := { j : Nat // j ≤ l.length ∧ ∀ i y, i < j → l[i]? = some y → eqE y x = false })
    (fun j => [(3, .ptr 3 0), (7, .dat (.sl 11 168 (l.map pdE))), (8, .dat (.val (.int .i64 (((l.map pdE).length : Nat) : Int)))), (9, .dat (.val (.int .i64 (j.1 : Nat))))])
    (fun _ => [(3, .box 29 (cellsD (pdE x)))]) (fun j => l.length - j.1) ⟨0, Nat.zero_le _, fun i _ h => absurd h (Nat.not_lt_zero i)⟩ id ?_ ?_
  · (refine ⟨?_, ?_, by rfl⟩ <;> repeat' (first | exact trivial | exact ALe.ptr rfl | exact ALe.own rfl | exact ALe.elt rfl | exact BLe.boxD _ _ | exact BLe.row rfl | exact BLe.res | exact BLe.dead rfl | exact ALe.dat (PLe.refl _) | exact CLe.nil | refine And.intro ?_ ?_ | refine ALe.iface ?_ | refine ALe.clo ?_ | refine CLe.cons ?_ ?_ | refine BLe.box ?_ | refine BLe.row ?_ | exact ALe.any _ | refine ALe.dat (PLe.of_eq ?_)))
  rintro ⟨j, hj, hall⟩
  by_cases hlt : j < l.length
  rotate_left
  · have g1 : decide ((j : Int) < (((l.map pdE).length : Nat) : Int)) = false := decide_eq_false (by omega)
    have e : (l.any fun y => eqE y x) = false := by
      rw [List.any_eq_false]
      intro y hy
      obtain ⟨i, hi⟩ := List.getElem?_of_mem hy
      rw [hall i y (by have := (List.getElem?_eq_some_iff.1 hi).1; omega) hi]
      simp
    rw [e]
    repeat' (first
    | refine run_seq ?_
    | (refine k_pick rfl ?_; first | refine k_assignD rfl rfl ?_ | refine k_bin2B rfl rfl rfl rfl ?_)
    | refine run_opsEnd ?_
    | refine run_region ?_
    | refine run_condF rfl (by first | rfl | assumption) ?_
    | refine run_exit rfl ?_
    | refine run_retOk (resOk_tmp rfl rfl ?_)
    | fail)
    all_goals exact PLe.refl _
  have g1 : decide ((j : Int) < (((l.map pdE).length : Nat) : Int)) = true := decide_eq_true (by omega)
  obtain ⟨y, hy⟩ : ∃ y, l[j]? = some y := ⟨_, List.getElem?_eq_getElem hlt⟩
  have i1 := ga hy
  have c1 := eqElems_p y x
  cases hc : eqE y x with
  | true =>
    rw [hc] at c1
    have e : (l.any fun y => eqE y x) = true := List.any_eq_true.2 ⟨y, List.mem_of_getElem? hy, hc⟩
    rw [e]
    repeat' (first
    | refine run_seq ?_
    | (refine k_pick rfl ?_; first | refine k_indexAddrD rfl rfl rfl (by first | omega | (dsimp only; omega)) (by assumption) ?_ | refine k_assignD rfl rfl ?_ | refine k_loadW rfl rfl rfl (by first | rfl | (simp only [pdE, cellsD]; rfl)) ?_ | refine k_bin2B rfl rfl rfl rfl ?_ | refine k_call rfl (by kernel_rfl) rfl (by first | exact c1 | (simp only [← pdE]; exact c1)) ?_ | refine k_storeW rfl rfl rfl (by first | rfl | (simp only [pdE, cellsD]; rfl)) (by first | rfl | (simp only [pdE, cellsD]; rfl)) rfl ?_ | refine k_loadD rfl rfl (by first | rfl | (simp only [pdE, cellsD]; rfl)) ?_ | refine k_alloc rfl rfl ?_)
    | refine run_opsEnd ?_
    | refine run_region ?_
    | refine run_condT rfl (by first | rfl | assumption) ?_
    | refine run_block ?_
    | refine run_skip ?_
    | refine run_retOk (resOk_tmp rfl rfl ?_)
    | fail)
    all_goals exact PLe.refl _
  | false =>
    rw [hc] at c1
    repeat' (first
    | refine run_seq ?_
    | (refine k_pick rfl ?_; first | refine k_indexAddrD rfl rfl rfl (by first | omega | (dsimp only; omega)) (by assumption) ?_ | refine k_moveD rfl rfl ?_ | refine k_loadW rfl rfl rfl (by first | rfl | (simp only [pdE, cellsD]; rfl)) ?_ | refine k_bin2B rfl rfl rfl rfl ?_ | refine k_call rfl (by kernel_rfl) rfl (by first | exact c1 | (simp only [← pdE]; exact c1)) ?_ | refine k_storeW rfl rfl rfl (by first | rfl | (simp only [pdE, cellsD]; rfl)) (by first | rfl | (simp only [pdE, cellsD]; rfl)) rfl ?_ | refine k_ariI rfl rfl rfl rfl (by first | omega | (dsimp only; omega)) ?_ | refine k_loadD rfl rfl (by first | rfl | (simp only [pdE, cellsD]; rfl)) ?_ | refine k_alloc rfl rfl ?_)
    | refine run_opsEnd ?_
    | refine run_region ?_
    | refine run_condT rfl (by first | rfl | assumption) ?_
    | refine run_condF rfl (by first | rfl | assumption) ?_
    | refine run_block ?_
    | refine run_blkEnd ?_
    | refine run_skip ?_
    | fail)
    refine run_again ?_
    refine ⟨⟨j + 1, by omega, fun i y' hi hy' => ?_⟩, id, by simp only; omega, ?_⟩
    · by_cases e : i = j
      · subst e
        rw [hy] at hy'; cases hy'
        exact hc
      · exact hall i y' (by omega) hy'
    (refine ⟨?_, ?_, by rfl⟩ <;> repeat' (first | exact trivial | exact ALe.ptr rfl | exact ALe.own rfl | exact ALe.elt rfl | exact BLe.boxD _ _ | exact BLe.row rfl | exact BLe.res | exact BLe.dead rfl | exact ALe.dat (PLe.refl _) | exact CLe.nil | refine And.intro ?_ ?_ | refine ALe.iface ?_ | refine ALe.clo ?_ | refine CLe.cons ?_ ?_ | refine BLe.box ?_ | refine BLe.row ?_ | exact ALe.any _ | refine ALe.dat (PLe.of_eq ?_)))
theorem tameElems_p (l : List EV) : PCall Tryz.prog 9 [pdP l] (.val (.bool (l.all ordE))) := by
  have c := tame_p l
  unfold pdP at *
  refine pcall_of_run Tryz.func9 rfl Tryz.ntmps9 rfl (fun X => ?_)
  repeat' (first
    | refine run_seq ?_
    | (refine k_pick rfl ?_; first | refine k_assignD rfl rfl ?_ | refine k_moveD rfl rfl ?_ | refine k_call rfl (by kernel_rfl) rfl (by first | exact c) ?_)
    | refine run_opsEnd ?_
    | refine run_region ?_
    | refine run_retOk (resOk_tmp rfl rfl ?_)
    | fail)
  all_goals exact PLe.refl _
theorem map_O {l : List EV} (hl : ∀ x ∈ l, OPE (toPE x)) : ∀ y ∈ l.map toPE, OPE y := fun y hy => by
  obtain ⟨x, hx, rfl⟩ := List.mem_map.1 hy
  exact hl x hx
theorem esHas_p (l : List EV) (x : EV) (hl : ∀ x ∈ l, OPE (toPE x)) (hx : OPE (toPE x)) : PCall Tryz.prog 12 [.sl 11 168 (l.map pdE), pdE x] (.val (.bool (hasL_ cmpPE (setL_ cmpPE (l.map toPE)) (toPE x)))) := by
  have c1 := toElemSet_p l hl
  have c2 := toElem_v x
  have c3 := setHas_p (setL_ cmpPE (l.map toPE)) (toPE x) (set_P ordPE (map_O hl)) hx (set_srt ordPE (map_O hl))
  refine pcall_of_run Tryz.func12 rfl Tryz.ntmps12 rfl (fun X => ?_)
  repeat' (first
    | refine run_seq ?_
    | (refine k_pick rfl ?_; first | refine k_assignD rfl rfl ?_ | refine k_boxW rfl rfl rfl (by first | rfl | (simp only [pdE, cellsD]; rfl)) ?_)
    | refine run_opsEnd ?_
    | refine run_region ?_
    | refine run_retOk (resOk_tmp rfl rfl ?_)
    | refine run_drawC (by kernel_rfl) ?_
    | refine c_nil (And.intro (by kernel_rfl) ?_)
    | refine c_pick (d_assignD rfl rfl) ?_
    | refine c_pick (d_moveD rfl rfl) ?_
    | refine c_pick (d_loadW rfl rfl rfl (by first | rfl | (simp only [pdE, cellsD]; rfl))) ?_
    | refine c_pick (d_call rfl (by kernel_rfl) rfl (by first | exact c1 | (simp only [← pdE]; exact c1) | exact c2 | (simp only [← pdE]; exact c2) | exact c3 | (simp only [← pdE]; exact c3))) ?_
    | fail)
  all_goals exact PLe.refl _
theorem esSize_p (l : List EV) (hl : ∀ x ∈ l, OPE (toPE x)) : PCall Tryz.prog 13 [.sl 11 168 (l.map pdE)] (.val (.int .i64 (((setL_ cmpPE (l.map toPE)).length : Nat) : Int))) := by
  have c1 := toElemSet_p l hl
  have c3 := setSize_p (setL_ cmpPE (l.map toPE))
  refine pcall_of_run Tryz.func13 rfl Tryz.ntmps13 rfl (fun X => ?_)
  repeat' (first
    | refine run_seq ?_
    | (refine k_pick rfl ?_; first | refine k_assignD rfl rfl ?_ | refine k_moveD rfl rfl ?_ | refine k_call rfl (by kernel_rfl) rfl (by first | exact c1 | exact c3) ?_)
    | refine run_opsEnd ?_
    | refine run_region ?_
    | refine run_retOk (resOk_tmp rfl rfl ?_)
    | fail)
  all_goals exact PLe.refl _
theorem set_len {α : Type} {c : α → α → Int} {P : α → Prop} (O : OrdL c P) : ∀ (l : List α), (∀ x ∈ l, P x) → (setL_ c l).length ≤ l.length := by
  intro l
  generalize hn : l.length = n
  induction n generalizing l with
  | zero => intro _; have := List.eq_nil_of_length_eq_zero hn; subst this; simp [setL_]
  | succ n ih =>
    intro hl
    rcases List.eq_nil_or_concat l with rfl | ⟨r, x, rfl⟩
    · simp at hn
    · have hr : ∀ y ∈ r, P y := fun y hy => hl y (by simp [hy])
      have h1 := ih r (by simpa using hn) hr
      rw [List.concat_eq_append, set_app, len_ins O (set_P O hr) (hl x (by simp)) (set_srt O hr)]
      split <;> omega
set_option maxHeartbeats 8000000 in
theorem lawSH_p (l : List EV) (x : EV) : PCall Tryz.prog 3 [pdP l, pdE x] (.val (.bool true)) := by
  refine pcall_fits fun hf => ?_
  have f1 := hf (pdP l) (by simp)
  have f2 := hf (pdE x) (by simp)
  clear hf
  unfold pdP at f1
  have n1 : (l.map pdE).length = l.length := by simp
  obtain ⟨b1, c1⟩ := fits13_p x
  have c2 := tameElems_p l
  have c3 := ordElem_p x
  have c4 := hasElem_p l x
  unfold pdP at c2 c4 ⊢
  by_cases h1 : 2147483647 < l.length
  · have g1 : decide ((2147483647 : Int) < (((l.map pdE).length : Nat) : Int)) = true := decide_eq_true (by omega)
    refine pcall_of_run Tryz.func3 rfl Tryz.ntmps3 rfl (fun X => ?_)
    repeat' (first
    | refine run_seq ?_
    | (refine k_pick rfl ?_; first | refine k_assignD rfl rfl ?_ | refine k_moveD rfl rfl ?_ | refine k_bin2B rfl rfl rfl rfl ?_ | refine k_pickT rfl rfl (by first | rfl | assumption) rfl ?_ | refine k_boxW rfl rfl rfl (by first | rfl | (simp only [pdE, cellsD]; rfl)) ?_ | refine k_lenD rfl rfl ?_)
    | refine run_opsEnd ?_
    | refine run_region ?_
    | refine run_condT rfl (by first | rfl | assumption) ?_
    | refine k_guardNF rfl rfl (by first | rfl | assumption) rfl ?_
    | refine run_retOk (resOk_tmp rfl rfl ?_)
    | fail)
    all_goals exact PLe.refl _
  have g1 : decide ((2147483647 : Int) < (((l.map pdE).length : Nat) : Int)) = false := decide_eq_false (by omega)
  cases b1 with
  | false =>
    refine pcall_of_run Tryz.func3 rfl Tryz.ntmps3 rfl (fun X => ?_)
    repeat' (first
    | refine run_seq ?_
    | (refine k_pick rfl ?_; first | refine k_assignD rfl rfl ?_ | refine k_moveD rfl rfl ?_ | refine k_bin2B rfl rfl rfl rfl ?_ | refine k_pickF rfl rfl (by first | rfl | assumption) rfl ?_ | refine k_boxW rfl rfl rfl (by first | rfl | (simp only [pdE, cellsD]; rfl)) ?_ | refine k_lenD rfl rfl ?_)
    | refine run_opsEnd ?_
    | refine run_region ?_
    | refine run_condT rfl (by first | rfl | assumption) ?_
    | (refine k_guardY rfl rfl (by first | rfl | assumption) ?_; first | refine k_loadW rfl rfl rfl (by first | rfl | (simp only [pdE, cellsD]; rfl)) ?_ | refine k_call rfl (by kernel_rfl) rfl (by first | exact c1 | (simp only [← pdE]; exact c1)) ?_ | refine k_not rfl rfl ?_)
    | refine run_retOk (resOk_tmp rfl rfl ?_)
    | fail)
    all_goals exact PLe.refl _
  | true =>
  cases o1 : l.all ordE with
  | false =>
    rw [o1] at c2
    refine pcall_of_run Tryz.func3 rfl Tryz.ntmps3 rfl (fun X => ?_)
    repeat' (first
    | refine run_seq ?_
    | (refine k_pick rfl ?_; first | refine k_assignD rfl rfl ?_ | refine k_moveD rfl rfl ?_ | refine k_bin2B rfl rfl rfl rfl ?_ | refine k_pickT rfl rfl (by first | rfl | assumption) rfl ?_ | refine k_pickF rfl rfl (by first | rfl | assumption) rfl ?_ | refine k_boxW rfl rfl rfl (by first | rfl | (simp only [pdE, cellsD]; rfl)) ?_ | refine k_call rfl (by kernel_rfl) rfl (by first | exact c1 | (simp only [← pdE]; exact c1) | exact c2 | (simp only [← pdE]; exact c2)) ?_ | refine k_lenD rfl rfl ?_ | refine k_not rfl rfl ?_)
    | refine run_opsEnd ?_
    | refine run_region ?_
    | refine run_condT rfl (by first | rfl | assumption) ?_
    | refine run_condF rfl (by first | rfl | assumption) ?_
    | (refine k_guardY rfl rfl (by first | rfl | assumption) ?_; first | refine k_loadW rfl rfl rfl (by first | rfl | (simp only [pdE, cellsD]; rfl)) ?_ | refine k_call rfl (by kernel_rfl) rfl (by first | exact c1 | (simp only [← pdE]; exact c1) | exact c2 | (simp only [← pdE]; exact c2)) ?_ | refine k_not rfl rfl ?_)
    | refine k_guardNF rfl rfl (by first | rfl | assumption) rfl ?_
    | refine run_skip ?_
    | refine run_retOk (resOk_tmp rfl rfl ?_)
    | fail)
    all_goals exact PLe.refl _
  | true =>
  cases o2 : ordE x with
  | false =>
    rw [o1] at c2
    rw [o2] at c3
    refine pcall_of_run Tryz.func3 rfl Tryz.ntmps3 rfl (fun X => ?_)
    repeat' (first
    | refine run_seq ?_
    | (refine k_pick rfl ?_; first | refine k_assignD rfl rfl ?_ | refine k_moveD rfl rfl ?_ | refine k_bin2B rfl rfl rfl rfl ?_ | refine k_pickF rfl rfl (by first | rfl | assumption) rfl ?_ | refine k_boxW rfl rfl rfl (by first | rfl | (simp only [pdE, cellsD]; rfl)) ?_ | refine k_call rfl (by kernel_rfl) rfl (by first | exact c1 | (simp only [← pdE]; exact c1) | exact c2 | (simp only [← pdE]; exact c2) | exact c3 | (simp only [← pdE]; exact c3)) ?_ | refine k_lenD rfl rfl ?_ | refine k_not rfl rfl ?_)
    | refine run_opsEnd ?_
    | refine run_region ?_
    | refine run_condT rfl (by first | rfl | assumption) ?_
    | refine run_condF rfl (by first | rfl | assumption) ?_
    | (refine k_guardY rfl rfl (by first | rfl | assumption) ?_; first | refine k_loadW rfl rfl rfl (by first | rfl | (simp only [pdE, cellsD]; rfl)) ?_ | refine k_call rfl (by kernel_rfl) rfl (by first | exact c1 | (simp only [← pdE]; exact c1) | exact c2 | (simp only [← pdE]; exact c2) | exact c3 | (simp only [← pdE]; exact c3)) ?_ | refine k_not rfl rfl ?_)
    | refine run_skip ?_
    | refine run_retOk (resOk_tmp rfl rfl ?_)
    | fail)
    all_goals exact PLe.refl _
  | true =>
  have jl : ∀ y ∈ l, JPE (toPE y) := fun y hy => JPE_fits (f1.sl.2.2 (pdE y) (List.mem_map.2 ⟨y, hy, rfl⟩))
  have jx := JPE_fits f2
  have ol : ∀ y ∈ l, OPE (toPE y) := fun y hy => OPE_ord (jl y hy) (List.all_eq_true.1 o1 y hy)
  have ox := OPE_ord jx o2
  have olx : ∀ y ∈ l ++ [x], OPE (toPE y) := fun y hy => by
    rcases List.mem_append.1 hy with h | h
    · exact ol y h
    · rw [List.mem_singleton] at h; rw [h]; exact ox
  have ehas : hasL_ cmpPE (setL_ cmpPE (l.map toPE)) (toPE x) = l.any fun y => eqE y x := by
    rw [has_set ordPE (map_O ol) ox]
    unfold hasL_
    rw [List.any_map]
    rw [Bool.eq_iff_iff, List.any_eq_true, List.any_eq_true]
    constructor
    · rintro ⟨y, hy, h⟩
      refine ⟨y, hy, ?_⟩
      rw [← eqE_law (jl y hy) jx, eqPE_iff (ol y hy) ox]
      simpa using h
    · rintro ⟨y, hy, h⟩
      refine ⟨y, hy, ?_⟩
      rw [← eqE_law (jl y hy) jx, eqPE_iff (ol y hy) ox] at h
      simpa using h
  have emore : hasL_ cmpPE (setL_ cmpPE ((l ++ [x]).map toPE)) (toPE x) = true := by
    rw [has_set ordPE (map_O olx) ox]
    unfold hasL_
    rw [List.any_eq_true]
    exact ⟨toPE x, by simp, by simp [self_PE jx]⟩
  have esz : (setL_ cmpPE ((l ++ [x]).map toPE)).length = (setL_ cmpPE (l.map toPE)).length + if (l.any fun y => eqE y x) then 0 else 1 := by
    rw [List.map_append, List.map_cons, List.map_nil, set_app, len_ins ordPE (set_P ordPE (map_O ol)) ox (set_srt ordPE (map_O ol)), ehas]
  have hsz := set_len ordPE (l.map toPE) (map_O ol)
  rw [List.length_map] at hsz
  have k1 := esHas_p l x ol ox
  have k2 := esHas_p (l ++ [x]) x olx ox
  have k3 := esSize_p l ol
  have k4 := esSize_p (l ++ [x]) olx
  rw [ehas] at k1
  rw [emore] at k2
  rw [esz] at k4
  have v1 : (l ++ [x]).map pdE = ([] ++ l.map pdE) ++ [pdE x] := by simp
  rw [v1] at k2 k4
  rw [o1] at c2
  rw [o2] at c3
  clear o1 o2 jl jx ol ox olx ehas emore esz v1 f1 f2
  generalize (setL_ cmpPE (l.map toPE)).length = sz at *
  have q1 : (([] : List PD).length + (l.map pdE).length) * 168 ≤ 140737488351232 := by simp only [List.length_nil, n1]; omega
  have q2 : ([] : List PD).length + (l.map pdE).length ≤ 140737488351232 := by simp only [List.length_nil, n1]; omega
  have q3 : (([] ++ l.map pdE).length + [pdE x].length) * 168 ≤ 140737488351232 := by simp only [List.nil_append, List.length_cons, List.length_nil, n1]; omega
  have q4 : ([] ++ l.map pdE).length + [pdE x].length ≤ 140737488351232 := by simp only [List.nil_append, List.length_cons, List.length_nil, n1]; omega
  cases hb : l.any fun y => eqE y x with
  | true =>
    rw [hb] at c4 k1 k4
    rw [if_pos rfl] at k4
    have g2 : decide (((sz + 0 : Nat) : Int) = ((sz : Nat) : Int) + 0) = true := decide_eq_true (by omega)
    refine pcall_of_run Tryz.func3 rfl Tryz.ntmps3 rfl (fun X => ?_)
    repeat' (first
    | refine run_seq ?_
    | (refine k_pick rfl ?_; first | refine k_assignD rfl rfl ?_ | refine k_moveD rfl rfl ?_ | refine k_loadW rfl rfl rfl (by first | rfl | (simp only [pdE, cellsD]; rfl)) ?_ | refine k_bin2B rfl rfl rfl rfl ?_ | refine k_pickT rfl rfl (by first | rfl | assumption) rfl ?_ | refine k_pickF rfl rfl (by first | rfl | assumption) rfl ?_ | refine k_boxW rfl rfl rfl (by first | rfl | (simp only [pdE, cellsD]; rfl)) ?_ | refine k_call rfl (by kernel_rfl) rfl (by first | exact c1 | (simp only [← pdE]; exact c1) | exact c2 | (simp only [← pdE]; exact c2) | exact c3 | (simp only [← pdE]; exact c3) | exact c4 | (simp only [← pdE]; exact c4) | exact k1 | (simp only [← pdE]; exact k1) | exact k2 | (simp only [← pdE]; exact k2) | exact k3 | (simp only [← pdE]; exact k3) | exact k4 | (simp only [← pdE]; exact k4)) ?_ | refine k_cmpBool rfl rfl rfl (by kernel_rfl) rfl ?_ | refine k_lenD rfl rfl ?_ | refine k_not rfl rfl ?_)
    | refine run_opsEnd ?_
    | refine run_region ?_
    | refine run_condT rfl (by first | rfl | assumption) ?_
    | refine run_condF rfl (by first | rfl | assumption) ?_
    | (refine k_guardY rfl rfl (by first | rfl | assumption) ?_; first | refine k_moveD rfl rfl ?_ | refine k_loadW rfl rfl rfl (by first | rfl | (simp only [pdE, cellsD]; rfl)) ?_ | refine k_bin2B rfl rfl rfl rfl ?_ | refine k_call rfl (by kernel_rfl) rfl (by first | exact c1 | (simp only [← pdE]; exact c1) | exact c2 | (simp only [← pdE]; exact c2) | exact c3 | (simp only [← pdE]; exact c3) | exact c4 | (simp only [← pdE]; exact c4) | exact k1 | (simp only [← pdE]; exact k1) | exact k2 | (simp only [← pdE]; exact k2) | exact k3 | (simp only [← pdE]; exact k3) | exact k4 | (simp only [← pdE]; exact k4)) ?_ | refine k_not rfl rfl ?_ | refine k_ariI rfl rfl rfl rfl (by first | omega | (dsimp only; omega)) ?_ | refine k_moveO rfl rfl ?_ | refine k_callZ gV rfl (by kernel_rfl) rfl (by first | exact c1 | (simp only [← pdE]; exact c1) | exact c2 | (simp only [← pdE]; exact c2) | exact c3 | (simp only [← pdE]; exact c3) | exact c4 | (simp only [← pdE]; exact c4) | exact k1 | (simp only [← pdE]; exact k1) | exact k2 | (simp only [← pdE]; exact k2) | exact k3 | (simp only [← pdE]; exact k3) | exact k4 | (simp only [← pdE]; exact k4)) Flat.val ?_)
    | refine run_skip ?_
    | refine run_retOk (resOk_tmp rfl rfl ?_)
    | refine run_drawC (by kernel_rfl) ?_
    | refine c_nil (And.intro (by kernel_rfl) ?_)
    | refine c_pick (d_appendOD rfl rfl rfl rfl rfl (by kernel_rfl) rfl rfl (by assumption) (by assumption)) ?_
    | refine c_pick (d_appendOO rfl rfl rfl rfl rfl rfl (by kernel_rfl) rfl rfl (by assumption) (by assumption)) ?_
    | refine c_pick (d_assignD rfl rfl) ?_
    | refine c_pick (d_moveD rfl rfl) ?_
    | refine c_pick (d_loadW rfl rfl rfl (by first | rfl | (simp only [pdE, cellsD]; rfl))) ?_
    | refine c_pick (d_call rfl (by kernel_rfl) rfl (by first | exact c1 | (simp only [← pdE]; exact c1) | exact c2 | (simp only [← pdE]; exact c2) | exact c3 | (simp only [← pdE]; exact c3) | exact c4 | (simp only [← pdE]; exact c4) | exact k1 | (simp only [← pdE]; exact k1) | exact k2 | (simp only [← pdE]; exact k2) | exact k3 | (simp only [← pdE]; exact k3) | exact k4 | (simp only [← pdE]; exact k4))) ?_
    | refine c_pick (d_assignO rfl rfl) ?_
    | refine c_pick (d_buildSlice rfl rfl (by kernel_rfl) rfl rfl rfl rfl rfl) ?_
    | fail)
    all_goals first | exact PLe.refl _ | exact PLe.of_eq (by rw [g2])
  | false =>
    rw [hb] at c4 k1 k4
    rw [if_neg (by simp)] at k4
    have g2 : decide (((sz + 1 : Nat) : Int) = ((sz : Nat) : Int) + 1) = true := decide_eq_true (by omega)
    refine pcall_of_run Tryz.func3 rfl Tryz.ntmps3 rfl (fun X => ?_)
    repeat' (first
    | refine run_seq ?_
    | (refine k_pick rfl ?_; first | refine k_assignD rfl rfl ?_ | refine k_moveD rfl rfl ?_ | refine k_loadW rfl rfl rfl (by first | rfl | (simp only [pdE, cellsD]; rfl)) ?_ | refine k_bin2B rfl rfl rfl rfl ?_ | refine k_pickT rfl rfl (by first | rfl | assumption) rfl ?_ | refine k_pickF rfl rfl (by first | rfl | assumption) rfl ?_ | refine k_boxW rfl rfl rfl (by first | rfl | (simp only [pdE, cellsD]; rfl)) ?_ | refine k_call rfl (by kernel_rfl) rfl (by first | exact c1 | (simp only [← pdE]; exact c1) | exact c2 | (simp only [← pdE]; exact c2) | exact c3 | (simp only [← pdE]; exact c3) | exact c4 | (simp only [← pdE]; exact c4) | exact k1 | (simp only [← pdE]; exact k1) | exact k2 | (simp only [← pdE]; exact k2) | exact k3 | (simp only [← pdE]; exact k3) | exact k4 | (simp only [← pdE]; exact k4)) ?_ | refine k_cmpBool rfl rfl rfl (by kernel_rfl) rfl ?_ | refine k_lenD rfl rfl ?_ | refine k_not rfl rfl ?_)
    | refine run_opsEnd ?_
    | refine run_region ?_
    | refine run_condF rfl (by first | rfl | assumption) ?_
    | (refine k_guardY rfl rfl (by first | rfl | assumption) ?_; first | refine k_moveD rfl rfl ?_ | refine k_loadW rfl rfl rfl (by first | rfl | (simp only [pdE, cellsD]; rfl)) ?_ | refine k_bin2B rfl rfl rfl rfl ?_ | refine k_call rfl (by kernel_rfl) rfl (by first | exact c1 | (simp only [← pdE]; exact c1) | exact c2 | (simp only [← pdE]; exact c2) | exact c3 | (simp only [← pdE]; exact c3) | exact c4 | (simp only [← pdE]; exact c4) | exact k1 | (simp only [← pdE]; exact k1) | exact k2 | (simp only [← pdE]; exact k2) | exact k3 | (simp only [← pdE]; exact k3) | exact k4 | (simp only [← pdE]; exact k4)) ?_ | refine k_not rfl rfl ?_ | refine k_ariI rfl rfl rfl rfl (by first | omega | (dsimp only; omega)) ?_ | refine k_moveO rfl rfl ?_ | refine k_callZ gV rfl (by kernel_rfl) rfl (by first | exact c1 | (simp only [← pdE]; exact c1) | exact c2 | (simp only [← pdE]; exact c2) | exact c3 | (simp only [← pdE]; exact c3) | exact c4 | (simp only [← pdE]; exact c4) | exact k1 | (simp only [← pdE]; exact k1) | exact k2 | (simp only [← pdE]; exact k2) | exact k3 | (simp only [← pdE]; exact k3) | exact k4 | (simp only [← pdE]; exact k4)) Flat.val ?_)
    | refine run_skip ?_
    | refine run_retOk (resOk_tmp rfl rfl ?_)
    | refine run_drawC (by kernel_rfl) ?_
    | refine c_nil (And.intro (by kernel_rfl) ?_)
    | refine c_pick (d_appendOD rfl rfl rfl rfl rfl (by kernel_rfl) rfl rfl (by assumption) (by assumption)) ?_
    | refine c_pick (d_appendOO rfl rfl rfl rfl rfl rfl (by kernel_rfl) rfl rfl (by assumption) (by assumption)) ?_
    | refine c_pick (d_assignD rfl rfl) ?_
    | refine c_pick (d_moveD rfl rfl) ?_
    | refine c_pick (d_loadW rfl rfl rfl (by first | rfl | (simp only [pdE, cellsD]; rfl))) ?_
    | refine c_pick (d_call rfl (by kernel_rfl) rfl (by first | exact c1 | (simp only [← pdE]; exact c1) | exact c2 | (simp only [← pdE]; exact c2) | exact c3 | (simp only [← pdE]; exact c3) | exact c4 | (simp only [← pdE]; exact c4) | exact k1 | (simp only [← pdE]; exact k1) | exact k2 | (simp only [← pdE]; exact k2) | exact k3 | (simp only [← pdE]; exact k3) | exact k4 | (simp only [← pdE]; exact k4))) ?_
    | refine c_pick (d_assignO rfl rfl) ?_
    | refine c_pick (d_buildSlice rfl rfl (by kernel_rfl) rfl rfl rfl rfl rfl) ?_
    | fail)
    all_goals first | exact PLe.refl _ | exact PLe.of_eq (by rw [g2])
end Go.Proofs.YtbbacpdbbmjblaaGreat
end
