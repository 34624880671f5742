/- Part 2 of what the proof rests on. -/
import Derived.Test.YtgmahieoiifpfaaGreatProg
import Derived.WalkKit
import Derived.Defers
import Derived.Lib.Hide
import Derived.Maps.Own
import Derived.WalkLawsBesides
import Derived.WalkSpells
import Derived.Great.BuildSlice
import Derived.Great.FillDense
import Derived.OwnWalk
import Derived.Laws.AppendOwnNone
import Derived.Test.YtgmahieoiifpfaaGreatScR1
set_option linter.unnecessarySimpa false
set_option linter.unusedSimpArgs false
set_option linter.unusedVariables false
section
namespace Go.Proofs.YtgmahieoiifpfaaGreat
open Go.RowKit
structure Opq where
 rel : World → (Nat → Prop) → Value → Prop
 one : ∀ w F v, rel w F v → v.oneCell' = true
 keep : ∀ (w w' : World) (F F' : Nat → Prop) (v : Value), (∀ b, F b → w'.heap[b]? = w.heap[b]?) → (∀ b, F b → F' b) → rel w F v → rel w' F' v
inductive PD where
 | val (u : Value)
 | agg (l : List PD)
 | tup (l : List PD)
 | iface (t : TypeId) (x : PD)
 | ptr (x : PD)
 | sl (n y : Nat) (l : List PD)
 | opq (q : Opq)
def okV : Value → Prop
 | .agg _ => False
 | .tuple _ => False
 | .string s => s.size ≤ maxLen
 | .int k n => (Lit.int k n).wf = true
 | .float k b => (Lit.float k b).wf = true
 | _ => True
theorem okV.one {u : Value} (h : okV u) : u.oneCell' = true := by cases u <;> first | rfl | exact h.elim
def Lies (w : World) (b o : Nat) (cs : List Value) : Prop := ∀ j u, cs[j]? = some u → w.cell? ⟨b, o + j, none⟩ = some u
mutual
/-- The value v is the data; all blocks behind it are among F. -/
def Rep (w : World) (F : Nat → Prop) : PD → Value → Prop
 | .val u, v => v = u ∧ okV u
 | .agg l, v => ∃ vs, v = .agg (List.toArray vs) ∧ Reps w F l vs ∧ ∀ u ∈ vs, u.oneCell' = true
 | .tup l, v => ∃ vs, v = .tuple (List.toArray vs) ∧ Reps w F l vs
 | .iface t x, v => ∃ u, v = .iface t u ∧ Rep w F x u
 | .ptr x, v => ∃ b o u, v = .pointer (some ⟨b, o, none⟩) ∧ F b ∧ Rep w F x u ∧ Lies w b o u.cells.toList
 | .sl n y l, v => ∃ a c, v = .slice a l.length c ∧ l.length ≤ c ∧ l.length * y ≤ 140737488351232 ∧ l.length ≤ 140737488351232 ∧ (l = [] ∨ ∃ b o, F b ∧ a = some ⟨b, o, none⟩ ∧ RepL w F n l b o)
 | .opq q, v => q.rel w F v
def Reps (w : World) (F : Nat → Prop) : List PD → List Value → Prop
 | [], vs => vs = []
 | x :: r, vs => ∃ v r', vs = v :: r' ∧ Rep w F x v ∧ Reps w F r r'
def RepL (w : World) (F : Nat → Prop) (n : Nat) : List PD → Nat → Nat → Prop
 | [], _, _ => True
 | x :: r, b, o => (∃ u, Rep w F x u ∧ u.cells.toList.length = n ∧ (∀ c ∈ u.cells.toList, c.oneCell' = true) ∧ Lies w b o u.cells.toList) ∧ RepL w F n r b (o + n)
end
section
variable {w w' : World} {F F' : Nat → Prop}
theorem Lies.keep {b o : Nat} {cs : List Value} (hb : w'.heap[b]? = w.heap[b]?) (h : Lies w b o cs) : Lies w' b o cs :=
 fun j u hj => (World.cell?_of_block (a := ⟨b, o + j, none⟩) hb).trans (h j u hj)
mutual
theorem Rep.keep (h : ∀ b, F b → w'.heap[b]? = w.heap[b]?) (hs : ∀ b, F b → F' b) : ∀ (d : PD) {v : Value}, Rep w F d v → Rep w' F' d v
 | .val u, v, hv => by unfold Rep at hv ⊢; exact hv
 | .agg l, v, hv => by
  unfold Rep at hv ⊢
  obtain ⟨vs, e, hr, h1⟩ := hv
  exact ⟨vs, e, Reps.keep h hs l hr, h1⟩
 | .tup l, v, hv => by
  unfold Rep at hv ⊢
  obtain ⟨vs, e, hr⟩ := hv
  exact ⟨vs, e, Reps.keep h hs l hr⟩
 | .iface t x, v, hv => by
  unfold Rep at hv ⊢
  obtain ⟨u, e, hr⟩ := hv
  exact ⟨u, e, Rep.keep h hs x hr⟩
 | .ptr x, v, hv => by
  unfold Rep at hv ⊢
  obtain ⟨b, o, u, e, hb, hr, hl⟩ := hv
  exact ⟨b, o, u, e, hs b hb, Rep.keep h hs x hr, hl.keep (h b hb)⟩
 | .sl n y l, v, hv => by
  unfold Rep at hv ⊢
  obtain ⟨a, c, e, h1, h2, h4, h3⟩ := hv
  refine ⟨a, c, e, h1, h2, h4, ?_⟩
  rcases h3 with h3 | ⟨b, o, hb, ha, hr⟩
  ·exact .inl h3
  ·exact .inr ⟨b, o, hs b hb, ha, RepL.keep h hs l (h b hb) hr⟩
 | .opq q, v, hv => by unfold Rep at hv ⊢; exact q.keep w w' F F' v h hs hv
theorem Reps.keep (h : ∀ b, F b → w'.heap[b]? = w.heap[b]?) (hs : ∀ b, F b → F' b) : ∀ (l : List PD) {vs : List Value}, Reps w F l vs → Reps w' F' l vs
 | [], _, hv => by unfold Reps at hv ⊢; exact hv
 | x :: r, _, hv => by
  unfold Reps at hv ⊢
  obtain ⟨v, r', e, hx, hr⟩ := hv
  exact ⟨v, r', e, Rep.keep h hs x hx, Reps.keep h hs r hr⟩
theorem RepL.keep (h : ∀ b, F b → w'.heap[b]? = w.heap[b]?) (hs : ∀ b, F b → F' b) {n : Nat} : ∀ (l : List PD) {b o : Nat}, w'.heap[b]? = w.heap[b]? → RepL w F n l b o → RepL w' F' n l b o
 | [], _, _, _, _ => by unfold RepL; trivial
 | x :: r, b, o, hb, hv => by
  unfold RepL at hv ⊢
  obtain ⟨⟨u, hu, hn, h1, hl⟩, hr⟩ := hv
  exact ⟨⟨u, Rep.keep h hs x hu, hn, h1, hl.keep hb⟩, RepL.keep h hs r hb hr⟩
end
theorem Reps.length : ∀ {l : List PD} {vs : List Value}, Reps w F l vs → vs.length = l.length
 | [], _, h => by unfold Reps at h; subst h; rfl
 | x :: r, _, h => by
  unfold Reps at h
  obtain ⟨v, r', rfl, _, hr⟩ := h
  simp [hr.length]
theorem Reps.at_ : ∀ {l : List PD} {vs : List Value}, Reps w F l vs → ∀ {i : Nat} {d : PD}, l[i]? = some d → ∃ v, vs[i]? = some v ∧ Rep w F d v
 | [], _, _, i, d, h => by simp at h
 | x :: r, _, hv, i, d, h => by
  unfold Reps at hv
  obtain ⟨v, r', rfl, hx, hr⟩ := hv
  cases i with
  | zero => simp at h; subst h; exact ⟨v, rfl, hx⟩
  | succ i => exact hr.at_ (i := i) (by simpa using h)
theorem Reps.drop : ∀ {l : List PD} {vs : List Value} (k : Nat), Reps w F l vs → Reps w F (l.drop k) (vs.drop k)
 | l, vs, 0, h => by simpa using h
 | [], _, k + 1, h => by unfold Reps at h; subst h; simp [Reps]
 | x :: r, _, k + 1, h => by
  unfold Reps at h
  obtain ⟨v, r', rfl, _, hr⟩ := h
  simpa using hr.drop k
theorem Reps.take : ∀ {l : List PD} {vs : List Value} (k : Nat), Reps w F l vs → Reps w F (l.take k) (vs.take k)
 | l, vs, 0, h => by simp [Reps]
 | [], _, k + 1, h => by unfold Reps at h; subst h; simp [Reps]
 | x :: r, _, k + 1, h => by
  unfold Reps at h
  obtain ⟨v, r', rfl, hx, hr⟩ := h
  simp only [List.take_succ_cons]
  unfold Reps
  exact ⟨v, _, rfl, hx, hr.take k⟩
theorem Reps.append : ∀ {l l' : List PD} {vs vs' : List Value}, Reps w F l vs → Reps w F l' vs' → Reps w F (l ++ l') (vs ++ vs')
 | [], _, _, _, h, h' => by unfold Reps at h; subst h; simpa using h'
 | x :: r, _, _, _, h, h' => by
  unfold Reps at h
  obtain ⟨v, r', rfl, hx, hr⟩ := h
  show Reps w F (x :: (r ++ _)) (v :: (r' ++ _))
  unfold Reps
  exact ⟨v, _, rfl, hx, hr.append h'⟩
theorem RepL.at_ {n : Nat} : ∀ {l : List PD} {b o : Nat}, RepL w F n l b o → ∀ {i : Nat} {d : PD}, l[i]? = some d → ∃ u, Rep w F d u ∧ u.cells.toList.length = n ∧ (∀ c ∈ u.cells.toList, c.oneCell' = true) ∧ Lies w b (o + i * n) u.cells.toList
 | [], _, _, _, i, d, h => by simp at h
 | x :: r, b, o, hv, i, d, h => by
  unfold RepL at hv
  cases i with
  | zero => simp at h; subst h; simpa using hv.1
  | succ i =>
   have := hv.2.at_ (i := i) (d := d) (by simpa using h)
   rwa [show o + n + i * n = o + (i + 1) * n by rw [Nat.add_mul]; omega] at this
theorem RepL.drop {n : Nat} : ∀ {l : List PD} {b o : Nat} (k : Nat), RepL w F n l b o → RepL w F n (l.drop k) b (o + k * n)
 | l, b, o, 0, h => by simpa using h
 | [], b, o, k + 1, h => by simp [RepL]
 | x :: r, b, o, k + 1, h => by
  unfold RepL at h
  have := h.2.drop k
  rw [show o + n + k * n = o + (k + 1) * n by rw [Nat.add_mul]; omega] at this
  simpa using this
theorem RepL.take {n : Nat} : ∀ {l : List PD} {b o : Nat} (k : Nat), RepL w F n l b o → RepL w F n (l.take k) b o
 | l, b, o, 0, h => by simp [RepL]
 | [], b, o, k + 1, h => by simp [RepL]
 | x :: r, b, o, k + 1, h => by
  unfold RepL at h
  simp only [List.take_succ_cons]
  unfold RepL
  exact ⟨h.1, h.2.take k⟩
def Groups (w : World) (F : Nat → Prop) (n : Nat) : List PD → List Value → Prop
 | [], xs => xs = []
 | d :: r, xs => ∃ u ys, xs = u.cells.toList ++ ys ∧ Rep w F d u ∧ u.cells.toList.length = n ∧ (∀ c ∈ u.cells.toList, c.oneCell' = true) ∧ Groups w F n r ys
theorem Groups.keep (h : ∀ b, F b → w'.heap[b]? = w.heap[b]?) (hs : ∀ b, F b → F' b) {n : Nat} : ∀ {l : List PD} {xs : List Value}, Groups w F n l xs → Groups w' F' n l xs
 | [], _, hv => hv
 | d :: r, _, hv => by
  obtain ⟨u, ys, e, hd, hn, h1, hr⟩ := hv
  exact ⟨u, ys, e, hd.keep h hs d, hn, h1, Groups.keep h hs hr⟩
theorem Groups.append {n : Nat} : ∀ {l l' : List PD} {xs xs' : List Value}, Groups w F n l xs → Groups w F n l' xs' → Groups w F n (l ++ l') (xs ++ xs')
 | [], _, _, _, h, h' => by cases h; simpa using h'
 | d :: r, _, _, _, h, h' => by
  obtain ⟨u, ys, rfl, hd, hn, h1, hr⟩ := h
  exact ⟨u, ys ++ _, by simp, hd, hn, h1, hr.append h'⟩
theorem Groups.length {n : Nat} : ∀ {l : List PD} {xs : List Value}, Groups w F n l xs → xs.length = l.length * n
 | [], _, h => by cases h; simp
 | d :: r, _, h => by
  obtain ⟨u, ys, rfl, hd, hn, _, hr⟩ := h
  rw [List.length_append, hn, hr.length, List.length_cons, Nat.add_mul]; omega
theorem Groups.lies {n : Nat} : ∀ {l : List PD} {xs : List Value} {b o : Nat}, Groups w F n l xs → Lies w b o xs → RepL w F n l b o
 | [], _, _, _, _, _ => by unfold RepL; trivial
 | d :: r, _, b, o, h, hl => by
  obtain ⟨u, ys, rfl, hd, hn, h1, hr⟩ := h
  unfold RepL
  refine ⟨⟨u, hd, hn, h1, fun j v hj => hl j v ?_⟩, hr.lies (fun j v hj => ?_)⟩
  ·rw [List.getElem?_append_left (List.getElem?_eq_some_iff.1 hj).1]; exact hj
  ·have := hl (n + j) v (by rw [List.getElem?_append_right (by omega), hn]; simpa using hj)
   rwa [show o + (n + j) = o + n + j by omega] at this
theorem RepL.groups {n : Nat} : ∀ {l : List PD} {b o : Nat}, RepL w F n l b o → ∃ xs, Groups w F n l xs ∧ Lies w b o xs
 | [], _, _, _ => ⟨[], rfl, fun j u h => by simp at h⟩
 | d :: r, b, o, h => by
  unfold RepL at h
  obtain ⟨⟨u, hd, hn, h1, hl⟩, hr⟩ := h
  obtain ⟨ys, hg, hy⟩ := hr.groups
  refine ⟨u.cells.toList ++ ys, ⟨u, ys, rfl, hd, hn, h1, hg⟩, fun j v hj => ?_⟩
  by_cases hjn : j < n
  ·rw [List.getElem?_append_left (by omega)] at hj; exact hl j v hj
  ·rw [List.getElem?_append_right (by omega), hn] at hj
   have := hy (j - n) v hj
   rwa [show o + n + (j - n) = o + j by omega] at this
theorem Yfd {u : Value} (h : u.oneCell' = true) : u.cells = #[u] := by cases u <;> first | rfl | cases h
theorem Rep.one {d : PD} {u : Value} (h : Rep w F d u) (hd : ∀ l, d ≠ .agg l) (ht : ∀ l, d ≠ .tup l) : u.oneCell' = true := by
 cases d with
 | val x => unfold Rep at h; obtain ⟨rfl, h⟩ := h; exact h.one
 | agg l => exact absurd rfl (hd l)
 | tup l => exact absurd rfl (ht l)
 | iface t x => unfold Rep at h; obtain ⟨v, rfl, _⟩ := h; rfl
 | ptr x => unfold Rep at h; obtain ⟨b, o, v, rfl, _⟩ := h; rfl
 | sl n y l => unfold Rep at h; obtain ⟨a, c, rfl, _⟩ := h; rfl
 | opq q => unfold Rep at h; exact q.one _ _ _ h
theorem Groups.one {n : Nat} : ∀ {l : List PD} {xs : List Value}, Groups w F n l xs → ∀ u ∈ xs, u.oneCell' = true
 | [], _, h, u, hu => by cases h; simp at hu
 | d :: r, _, h, u, hu => by
  obtain ⟨x, ys, rfl, hd, hn, h1, hr⟩ := h
  rcases List.mem_append.1 hu with hu | hu
  ·exact h1 u hu
  ·exact hr.one u hu
end
end Go.Proofs.YtgmahieoiifpfaaGreat
namespace Go.Proofs.YtgmahieoiifpfaaGreat
open Go.RowKit
inductive AV where
 | any
 | dat (d : PD)
 | ptr (k off : Nat)
 | own (k : Nat)
 | agg (l : List AV)
 | tup (l : List AV)
 | iface (t : TypeId) (x : AV)
 | clo (f : Nat) (caps : List AV)
 | elt (k n i off : Nat)
structure Res where
 rel : World → (Nat → Prop) → (Nat → Prop) → Value → Prop
 d : PD
 one : ∀ w F O v, rel w F O v → v.oneCell' = true
 keep : ∀ (w w' : World) (F F' O : Nat → Prop) (v : Value), (∀ b, F b → w'.heap[b]? = w.heap[b]?) → (∀ b, F b → F' b) → (∀ b, O b → w'.heap[b]? = w.heap[b]?) → rel w F O v → rel w' F' O v
 frz : ∀ (w : World) (F O F' : Nat → Prop) (v : Value), (∀ b, F b → F' b) → (∀ b, O b → F' b) → rel w F O v → Rep w F' d v
inductive Blk where
 | box (t : TypeId) (cs : List AV)
 | row (e n y : Nat) (l : List PD)
 | res (R : Res)
 | dead
def Blk.kind : Blk → Nat | .box .. => 0 | .row .. => 1 | .dead => 2 | .res _ => 3
def Blk.live : Blk → Bool | .dead => false | _ => true
def Za6 : Option Blk → Bool | some b => b.live | none => false
def Zdo : Value → Option Nat
 | .pointer (some a) => some a.block
 | .slice (some a) _ _ => some a.block
 | _ => none
structure RV where
 v : Value
 fp : Nat → Prop
def RV.of (v : Value) : RV := ⟨v, fun b => Zdo v = some b⟩
def heldK (tb : Nat → Option Blk) (ρ : Nat → RV) (k : Nat) (p : Value → Prop) : Prop := (∃ x, tb k = some x ∧ (x.kind = 1 ∨ x.kind = 3) ∧ p (ρ k).v) ∨ tb k = some .dead
mutual
def VR (w : World) (F : Nat → Prop) (tb : Nat → Option Blk) (ρ : Nat → RV) : AV → Value → Prop
 | .any, _ => True
 | .dat d, v => Rep w F d v
 | .ptr k off, v => ∃ t cs b, tb k = some (.box t cs) ∧ (ρ k).v = .pointer (some ⟨b, 0, none⟩) ∧ v = .pointer (some ⟨b, off, none⟩)
 | .own k, v => v.oneCell' = true ∧ heldK tb ρ k (fun u => v = u)
 | .agg l, v => ∃ vs, v = .agg (List.toArray vs) ∧ VRs w F tb ρ l vs ∧ ∀ u ∈ vs, u.oneCell' = true
 | .tup l, v => ∃ vs, v = .tuple (List.toArray vs) ∧ VRs w F tb ρ l vs
 | .iface t x, v => ∃ u, v = .iface t u ∧ VR w F tb ρ x u
 | .clo f l, v => ∃ vs, v = .func (.func f) #[] (List.toArray vs) ∧ VRs w F tb ρ l vs
 | .elt k n i off, v => v.oneCell' = true ∧ heldK tb ρ k (fun u => ∃ g len c, u = .slice (some ⟨g, 0, none⟩) len c ∧ v = .pointer (some ⟨g, i * n + off, none⟩))
def VRs (w : World) (F : Nat → Prop) (tb : Nat → Option Blk) (ρ : Nat → RV) : List AV → List Value → Prop
 | [], vs => vs = []
 | x :: r, vs => ∃ v r', vs = v :: r' ∧ VR w F tb ρ x v ∧ VRs w F tb ρ r r'
end
section
variable {w w' : World} {F F' : Nat → Prop} {tb tb' : Nat → Option Blk} {ρ ρ' : Nat → RV}
theorem heldK.keep (hk : ∀ k x, tb k = some x → ∃ x', tb' k = some x' ∧ ((x'.kind = x.kind ∧ (ρ' k).v = (ρ k).v) ∨ (x' = .dead ∧ x.kind ≠ 0))) {k : Nat} {p : Value → Prop} (h : heldK tb ρ k p) : heldK tb' ρ' k p := by
 rcases h with ⟨x, h1, h2, h3⟩ | h1
 ·obtain ⟨x', e2, e3⟩ := hk k _ h1
  rcases e3 with ⟨e3, e1⟩ | ⟨rfl, _⟩
  ·exact .inl ⟨x', e2, by rw [e3]; exact h2, by rw [e1]; exact h3⟩
  ·exact .inr e2
 ·obtain ⟨x', e2, e3⟩ := hk k _ h1
  rcases e3 with ⟨e3, e1⟩ | ⟨rfl, _⟩
  ·cases x' <;> simp [Blk.kind] at e3
   exact .inr e2
  ·exact .inr e2
mutual
theorem VR.keep (h : ∀ b, F b → w'.heap[b]? = w.heap[b]?) (hs : ∀ b, F b → F' b) (hk : ∀ k x, tb k = some x → ∃ x', tb' k = some x' ∧ ((x'.kind = x.kind ∧ (ρ' k).v = (ρ k).v) ∨ (x' = .dead ∧ x.kind ≠ 0))) :
  ∀ (x : AV) {v : Value}, VR w F tb ρ x v → VR w' F' tb' ρ' x v
 | .any, v, hv => by unfold VR; trivial
 | .dat d, v, hv => by unfold VR at hv ⊢; exact hv.keep h hs d
 | .ptr k off, v, hv => by
  unfold VR at hv ⊢
  obtain ⟨t, cs, b, h1, h2, h3⟩ := hv
  obtain ⟨x', e2, e3⟩ := hk k _ h1
  rcases e3 with ⟨e3, e1⟩ | ⟨_, e3⟩
  ·cases x' with
   | box t' cs' => exact ⟨t', cs', b, e2, e1.trans h2, h3⟩
   | row _ _ _ _ => simp [Blk.kind] at e3
   | res _ => simp [Blk.kind] at e3
   | dead => simp [Blk.kind] at e3
  ·simp [Blk.kind] at e3
 | .own k, v, hv => by
  unfold VR at hv ⊢
  exact ⟨hv.1, hv.2.keep hk⟩
 | .elt k n i off, v, hv => by
  unfold VR at hv ⊢
  exact ⟨hv.1, hv.2.keep hk⟩
 | .agg l, v, hv => by
  unfold VR at hv ⊢
  obtain ⟨vs, e, hr, h1⟩ := hv
  exact ⟨vs, e, VRs.keep h hs hk l hr, h1⟩
 | .tup l, v, hv => by
  unfold VR at hv ⊢
  obtain ⟨vs, e, hr⟩ := hv
  exact ⟨vs, e, VRs.keep h hs hk l hr⟩
 | .iface t x, v, hv => by
  unfold VR at hv ⊢
  obtain ⟨u, e, hr⟩ := hv
  exact ⟨u, e, VR.keep h hs hk x hr⟩
 | .clo f l, v, hv => by
  unfold VR at hv ⊢
  obtain ⟨vs, e, hr⟩ := hv
  exact ⟨vs, e, VRs.keep h hs hk l hr⟩
theorem VRs.keep (h : ∀ b, F b → w'.heap[b]? = w.heap[b]?) (hs : ∀ b, F b → F' b) (hk : ∀ k x, tb k = some x → ∃ x', tb' k = some x' ∧ ((x'.kind = x.kind ∧ (ρ' k).v = (ρ k).v) ∨ (x' = .dead ∧ x.kind ≠ 0))) :
  ∀ (l : List AV) {vs : List Value}, VRs w F tb ρ l vs → VRs w' F' tb' ρ' l vs
 | [], _, hv => by unfold VRs at hv ⊢; exact hv
 | x :: r, _, hv => by
  unfold VRs at hv ⊢
  obtain ⟨v, r', e, hx, hr⟩ := hv
  exact ⟨v, r', e, VR.keep h hs hk x hx, VRs.keep h hs hk r hr⟩
end
theorem VRs.length : ∀ {l : List AV} {vs : List Value}, VRs w F tb ρ l vs → vs.length = l.length
 | [], _, h => by unfold VRs at h; subst h; rfl
 | x :: r, _, h => by
  unfold VRs at h
  obtain ⟨v, r', rfl, _, hr⟩ := h
  simp [hr.length]
theorem VRs.at_ : ∀ {l : List AV} {vs : List Value}, VRs w F tb ρ l vs → ∀ {i : Nat} {d : AV}, l[i]? = some d → ∃ v, vs[i]? = some v ∧ VR w F tb ρ d v
 | [], _, _, i, d, h => by simp at h
 | x :: r, _, hv, i, d, h => by
  unfold VRs at hv
  obtain ⟨v, r', rfl, hx, hr⟩ := hv
  cases i with
  | zero => simp at h; subst h; exact ⟨v, rfl, hx⟩
  | succ i => exact hr.at_ (i := i) (by simpa using h)
theorem VRs.drop : ∀ {l : List AV} {vs : List Value} (k : Nat), VRs w F tb ρ l vs → VRs w F tb ρ (l.drop k) (vs.drop k)
 | l, vs, 0, h => by simpa using h
 | [], _, k + 1, h => by unfold VRs at h; subst h; simp [VRs]
 | x :: r, _, k + 1, h => by
  unfold VRs at h
  obtain ⟨v, r', rfl, _, hr⟩ := h
  simpa using hr.drop k
theorem VRs.take : ∀ {l : List AV} {vs : List Value} (k : Nat), VRs w F tb ρ l vs → VRs w F tb ρ (l.take k) (vs.take k)
 | l, vs, 0, h => by simp [VRs]
 | [], _, k + 1, h => by unfold VRs at h; subst h; simp [VRs]
 | x :: r, _, k + 1, h => by
  unfold VRs at h
  obtain ⟨v, r', rfl, hx, hr⟩ := h
  simp only [List.take_succ_cons]
  unfold VRs
  exact ⟨v, _, rfl, hx, hr.take k⟩
theorem VRs.append : ∀ {l l' : List AV} {vs vs' : List Value}, VRs w F tb ρ l vs → VRs w F tb ρ l' vs' → VRs w F tb ρ (l ++ l') (vs ++ vs')
 | [], _, _, _, h, h' => by unfold VRs at h; subst h; simpa using h'
 | x :: r, _, _, _, h, h' => by
  unfold VRs at h
  obtain ⟨v, r', rfl, hx, hr⟩ := h
  show VRs w F tb ρ (x :: (r ++ _)) (v :: (r' ++ _))
  unfold VRs
  exact ⟨v, _, rfl, hx, hr.append h'⟩
theorem VRs.of_dat : ∀ {ds : List PD} {vs : List Value}, Reps w F ds vs → VRs w F tb ρ (ds.map .dat) vs
 | [], _, h => by unfold Reps at h; subst h; simp [VRs]
 | d :: r, _, h => by
  unfold Reps at h
  obtain ⟨v, r', rfl, hx, hr⟩ := h
  simp only [List.map_cons]
  unfold VRs
  exact ⟨v, r', rfl, by unfold VR; exact hx, VRs.of_dat hr⟩
def Zi2 : List AV → Option (List PD)
 | [] => some []
 | .dat d :: r => (Zi2 r).map (d :: ·)
 | _ => none
theorem Zfq : ∀ {l : List AV} {ds : List PD}, Zi2 l = some ds → l = ds.map .dat
 | [], ds, h => by simp [Zi2] at h; subst h; rfl
 | .dat d :: r, ds, h => by
  simp only [Zi2, Option.map_eq_some_iff] at h
  obtain ⟨ds', h1, rfl⟩ := h
  rw [Zfq h1]; rfl
 | .any :: _, _, h => by simp [Zi2] at h
 | .ptr .. :: _, _, h => by simp [Zi2] at h
 | .own .. :: _, _, h => by simp [Zi2] at h
 | .agg .. :: _, _, h => by simp [Zi2] at h
 | .tup .. :: _, _, h => by simp [Zi2] at h
 | .iface .. :: _, _, h => by simp [Zi2] at h
 | .clo .. :: _, _, h => by simp [Zi2] at h
 | .elt .. :: _, _, h => by simp [Zi2] at h
theorem VRs.dat : ∀ {ds : List PD} {vs : List Value}, VRs w F tb ρ (ds.map .dat) vs → Reps w F ds vs
 | [], _, h => by simpa [VRs, Reps] using h
 | d :: r, _, h => by
  simp only [List.map_cons] at h
  unfold VRs at h
  obtain ⟨v, r', rfl, hx, hr⟩ := h
  unfold VR at hx
  unfold Reps
  exact ⟨v, r', rfl, hx, hr.dat⟩
def Zpz (l : List AV) : AV := match Zi2 l with | some ds => .dat (.agg ds) | none => .agg l
def Ye9 (l : List AV) : AV := match Zi2 l with | some ds => .dat (.tup ds) | none => .tup l
def Zxc (t : TypeId) (x : AV) : AV := match x with | .dat d => .dat (.iface t d) | x => .iface t x
theorem Zmx {l : List AV} {vs : List Value} (h : VRs w F tb ρ l vs) (h1 : ∀ u ∈ vs, u.oneCell' = true) : VR w F tb ρ (Zpz l) (.agg vs.toArray) := by
 unfold Zpz
 split
 ·rename_i ds hd
  rw [Zfq hd] at h
  unfold VR Rep
  exact ⟨vs, rfl, h.dat, h1⟩
 ·unfold VR
  exact ⟨vs, rfl, h, h1⟩
theorem Zx5 {l : List AV} {vs : List Value} (h : VRs w F tb ρ l vs) : VR w F tb ρ (Ye9 l) (.tuple vs.toArray) := by
 unfold Ye9
 split
 ·rename_i ds hd
  rw [Zfq hd] at h
  unfold VR Rep
  exact ⟨vs, rfl, h.dat⟩
 ·unfold VR
  exact ⟨vs, rfl, h⟩
theorem Ya1 {t : TypeId} {x : AV} {u : Value} (h : VR w F tb ρ x u) : VR w F tb ρ (Zxc t x) (.iface t u) := by
 cases x <;> simp only [Zxc] <;> unfold VR
 case dat d => unfold VR at h; unfold Rep; exact ⟨u, rfl, h⟩
 all_goals exact ⟨u, rfl, h⟩
def Zc5 : AV → Option (List AV)
 | .any => none
 | .dat (.agg l) => some (l.map .dat)
 | .dat (.tup _) => none
 | .tup _ => none
 | .agg l => some l
 | x => some [x]
theorem Zj7 {x : AV} {v : Value} (h : VR w F tb ρ x v) (h1 : ∀ l, x ≠ .dat (.agg l)) (h2 : ∀ l, x ≠ .dat (.tup l)) (h3 : ∀ l, x ≠ .agg l) (h4 : ∀ l, x ≠ .tup l) (h5 : x ≠ .any) : v.oneCell' = true := by
 cases x with
 | any => exact absurd rfl h5
 | dat d => unfold VR at h; exact h.one (fun l e => h1 l (by rw [e])) (fun l e => h2 l (by rw [e]))
 | ptr k off => unfold VR at h; obtain ⟨_, _, _, _, _, rfl⟩ := h; rfl
 | own k => unfold VR at h; exact h.1
 | agg l => exact absurd rfl (h3 l)
 | tup l => exact absurd rfl (h4 l)
 | iface t x => unfold VR at h; obtain ⟨u, rfl, _⟩ := h; rfl
 | clo f l => unfold VR at h; obtain ⟨u, rfl, _⟩ := h; rfl
 | elt k n i off => unfold VR at h; exact h.1
end
def Zri (P : Program) (d : Deferred) : Prop := ∃ fv cap f args, d.target = .fn fv cap ∧ (∀ w, (invoke d.target d.args).run P w = .ok (.enter f args) w) ∧
 ∀ u w, CallsD P f args u w fun e u' w' => u' = u ∧ (∃ v, e = .returned v) ∧ Below w.heap.size w w'
structure Base where
 w0 : World
 F0 : Nat → Prop
 L : Nat → Prop
 B : Nat
 N : Nat
 P : Program
 rv : Nat → Value
 hF0 : ∀ b, F0 b → b < w0.heap.size
 hB : B ≤ w0.heap.size
 hN : N ≤ 1000
 hLB : ∀ b, L b → B ≤ b
def Base.may (X : Base) (b : Nat) : Prop := X.w0.heap.size ≤ b ∨ X.L b
theorem Base.mayB {X : Base} {b : Nat} (h : X.may b) : X.B ≤ b := h.elim (fun h => Nat.le_trans X.hB h) (X.hLB b)
def Base.at (X : Base) (P : Program) (N : Nat) : Prop := X.N = N ∧ X.P = P
structure Sta where
 tm : Nat → AV
 tb : Nat → Option Blk
def FF (X : Base) (w : World) (tb : Nat → Option Blk) (ρ : Nat → RV) (b : Nat) : Prop :=
 (X.F0 b ∨ X.may b) ∧ b < w.heap.size ∧ ∀ k, Za6 (tb k) = true → ¬ (ρ k).fp b
def BR (X : Base) (w : World) (tb : Nat → Option Blk) (ρ : Nat → RV) (k : Nat) : Blk → Prop
 | .box t cs => ∃ b vs, ρ k = RV.of (.pointer (some ⟨b, 0, none⟩)) ∧ X.may b ∧ w.heap[b]? = some (.cells (List.toArray vs) t (0, 0)) ∧ VRs w (FF X w tb ρ) tb ρ cs vs ∧ ∀ u ∈ vs, u.oneCell' = true
 | .row e n y l => ∃ xs, ρ k = RV.of (ρ k).v ∧ (∀ b, (ρ k).v.ownBlock = some b → X.may b) ∧ w.ownsRow X.B e n (ρ k).v l.length xs ∧ Groups w (FF X w tb ρ) n l xs ∧ l.length * y ≤ 140737488351232 ∧ l.length ≤ 140737488351232
 | .res R => R.rel w (FF X w tb ρ) (ρ k).fp (ρ k).v ∧ ∀ b, (ρ k).fp b → X.may b ∧ b < w.heap.size
 | .dead => True
structure Bel (X : Base) (w : World) : Prop where
 os : w.os = X.w0.os
 tape : w.tape = X.w0.tape
 output : w.output = X.w0.output
 size : X.w0.heap.size ≤ w.heap.size
 block : ∀ b, b < X.w0.heap.size → ¬ X.L b → w.heap[b]? = X.w0.heap[b]?
theorem Bel.refl (X : Base) : Bel X X.w0 := ⟨rfl, rfl, rfl, Nat.le_refl _, fun _ _ _ => rfl⟩
theorem Bel.sizeB {X : Base} {w : World} (h : Bel X w) : X.B ≤ w.heap.size := Nat.le_trans X.hB h.size
theorem Bel.step {X : Base} {w w' : World} (h : Bel X w) (h1 : w'.os = w.os) (h2 : w'.tape = w.tape) (h3 : w'.output = w.output) (h4 : w.heap.size ≤ w'.heap.size) (h5 : ∀ b, b < w.heap.size → ¬ X.may b → w'.heap[b]? = w.heap[b]?) : Bel X w' :=
 ⟨h1.trans h.os, h2.trans h.tape, h3.trans h.output, Nat.le_trans h.size h4, fun b hb hL => (h5 b (Nat.lt_of_lt_of_le hb h.size) (fun hm => hm.elim (fun h => by omega) hL)).trans (h.block b hb hL)⟩
theorem Bel.below {X : Base} {w w' : World} (h : Bel X w) (hb : Below w.heap.size w w') : Bel X w' := h.step hb.os hb.tape hb.output hb.size (fun b h _ => hb.block b h)
structure ConcAt (X : Base) (s : Sta) (a : Act) (w : World) (ρ : Nat → RV) : Prop where
 size : a.tmps.size = X.N
 defers : ∀ d ∈ a.defers, Zri X.P d
 below : Bel X w
 tmps : ∀ t, VR w (FF X w s.tb ρ) s.tb ρ (s.tm t) (a.tmps.getD t undef)
 blks : ∀ k x, s.tb k = some x → BR X w s.tb ρ k x
 apart : ∀ k k' b, Za6 (s.tb k) = true → Za6 (s.tb k') = true → (ρ k).fp b → (ρ k').fp b → k = k'
 lent : ∀ k, 1000 ≤ k → Za6 (s.tb k) = true → (ρ k).v = X.rv k
def Conc (X : Base) (s : Sta) (a : Act) (w : World) : Prop := ∃ ρ, ConcAt X s a w ρ
def upd {α : Type} (f : Nat → α) (k : Nat) (v : α) : Nat → α := fun i => if i = k then v else f i
theorem Zah {α : Type} (f : Nat → α) (k : Nat) (v : α) : upd f k v k = v := by simp [upd]
theorem Zaw {α : Type} (f : Nat → α) {k i : Nat} (v : α) (h : i ≠ k) : upd f k v i = f i := by simp [upd, h]
def Sta.put (s : Sta) : Option Nat → AV → Sta
 | some d, x => { s with tm := upd s.tm d x }
 | none, _ => s
section
variable {X : Base} {s : Sta} {a : Act} {w w' : World} {ρ ρ' : Nat → RV}
theorem Zzc (a : Act) (d t : Nat) (v : Value) (hd : d < a.tmps.size) : (a.put (some d) v).tmps.getD t undef = if t = d then v else a.tmps.getD t undef := by
 simp only [Act.put, Array.getD_eq_getD_getElem?]
 rw [Array.getElem?_setIfInBounds]
 by_cases h : t = d
 ·subst h; simp [hd]
 ·rw [if_neg (Ne.symm h), if_neg h]
theorem ConcAt.put (h : ConcAt X s a w ρ) {d : Nat} (hd : d < X.N) {x : AV} {v : Value} (hx : VR w (FF X w s.tb ρ) s.tb ρ x v) : ConcAt X (s.put (some d) x) (a.put (some d) v) w ρ := by
 refine ⟨by simpa [Act.put] using h.size, h.defers, h.below, fun t => ?_, h.blks, h.apart, h.lent⟩
 rw [Zzc a d t v (by rw [h.size]; exact hd)]
 show VR w (FF X w s.tb ρ) s.tb ρ (upd s.tm d x t) _
 by_cases e : t = d
 ·subst e; rw [Zah, if_pos rfl]; exact hx
 ·rw [Zaw _ _ e, if_neg e]; exact h.tmps t
theorem ConcAt.put_none (h : ConcAt X s a w ρ) (x : AV) (v : Value) : ConcAt X (s.put none x) (a.put none v) w ρ := h
def Za7 (N : Nat) : Option Nat → Bool
 | some d => decide (d < N)
 | none => true
theorem ConcAt.putO (h : ConcAt X s a w ρ) {d : Option Nat} (hd : Za7 X.N d = true) {x : AV} {v : Value} (hx : VR w (FF X w s.tb ρ) s.tb ρ x v) : ConcAt X (s.put d x) (a.put d v) w ρ := by
 cases d with
 | none => exact h
 | some d => exact h.put (by simpa [Za7] using hd) hx
theorem ConcAt.rowBlk (h : ConcAt X s a w ρ) {k : Nat} {x : Blk} (hk : s.tb k = some x) (hl : x.live = true) {b : Nat} (hb : (ρ k).fp b) : X.may b ∧ b < w.heap.size := by
 have := h.blks k x hk
 cases x with
 | box t cs =>
  obtain ⟨b', vs, e, h1, h2, _⟩ := this
  rw [e] at hb
  have hb : some b' = some b := hb
  cases hb
  exact ⟨h1, (Array.getElem?_eq_some_iff.1 h2).1⟩
 | row e n y l =>
  obtain ⟨xs, e0, h0, h1, _⟩ := this
  rw [e0] at hb
  have hb : Zdo (ρ k).v = some b := hb
  have ho : (ρ k).v.ownBlock = some b := by
   rcases h1.2 with ⟨e, _⟩ | ⟨g, cap, cur, e, _⟩
   ·rw [e] at hb; simp [Zdo] at hb
   ·rw [e] at hb ⊢; simpa [Zdo, Value.ownBlock] using hb
  exact ⟨h0 b ho, (h1.lt b ho).2⟩
 | res R => exact this.2 b hb
 | dead => simp [Blk.live] at hl
theorem Zbd {o : Option Blk} (h : Za6 o = true) : ∃ x, o = some x ∧ x.live = true := by
 cases o with
 | none => simp [Za6] at h
 | some x => exact ⟨x, rfl, h⟩
theorem Zhu {w : World} {F : Nat → Prop} {tb : Nat → Option Blk} {ρ : Nat → RV} {k : Nat} {v : Value} (h : VR w F tb ρ (.own k) v) {x : Blk} (hk : tb k = some x) (hl : x.live = true) : v = (ρ k).v := by
 unfold VR at h
 rcases h.2 with ⟨_, _, _, h⟩ | h
 ·exact h
 ·rw [hk] at h; cases h; cases hl
theorem Zjf {w : World} {F : Nat → Prop} {tb : Nat → Option Blk} {ρ : Nat → RV} {k : Nat} {v : Value} (h : VR w F tb ρ (.own k) v) {e n y : Nat} {l : List PD} (hk : tb k = some (.row e n y l)) : v = (ρ k).v := Zhu h hk rfl
theorem BR.keep {tb tb' : Nat → Option Blk} {k : Nat} {x : Blk} (h : BR X w tb ρ k x) (hF : ∀ b, FF X w tb ρ b → w'.heap[b]? = w.heap[b]?) (hs : ∀ b, FF X w tb ρ b → FF X w' tb' ρ' b)
  (hkk : ∀ k x, tb k = some x → ∃ x', tb' k = some x' ∧ ((x'.kind = x.kind ∧ (ρ' k).v = (ρ k).v) ∨ (x' = .dead ∧ x.kind ≠ 0))) (hρ : ρ' k = ρ k) (hO : ∀ b, x.live = true → (ρ k).fp b → w'.heap[b]? = w.heap[b]?) (hsz : w.heap.size ≤ w'.heap.size) : BR X w' tb' ρ' k x := by
 cases x with
 | box t cs =>
  obtain ⟨b, vs, e, h1, h2, h3, h4⟩ := h
  exact ⟨b, vs, hρ.trans e, h1, (hO b rfl (by rw [e]; rfl)).trans h2, h3.keep hF hs hkk, h4⟩
 | row e n y l =>
  obtain ⟨xs, e0, h0, h1, h2, h3, h4⟩ := h
  refine ⟨xs, by rw [hρ]; exact e0, by rw [hρ]; exact h0, ?_, h2.keep hF hs, h3, h4⟩
  rw [hρ]
  refine ⟨h1.1, h1.2.imp id ?_⟩
  rintro ⟨g, cap, cur, e1, e2, e3, r⟩
  exact ⟨g, cap, cur, e1, e2, (hO g rfl (by rw [e0, e1]; rfl)).trans e3, r⟩
 | res R =>
  obtain ⟨h1, h2⟩ := h
  refine ⟨?_, ?_⟩
  ·rw [hρ]; exact R.keep _ _ _ _ _ _ hF hs (fun b => hO b rfl) h1
  ·rw [hρ]; exact fun b hb => ⟨(h2 b hb).1, Nat.lt_of_lt_of_le (h2 b hb).2 hsz⟩
 | dead => trivial
theorem ConcAt.grow (h : ConcAt X s a w ρ) (hb : Below w.heap.size w w') : ConcAt X s a w' ρ := by
 have hF : ∀ b, FF X w s.tb ρ b → w'.heap[b]? = w.heap[b]? := fun b hb' => hb.block b hb'.2.1
 have hs : ∀ b, FF X w s.tb ρ b → FF X w' s.tb ρ b := fun b hb' => ⟨hb'.1, Nat.lt_of_lt_of_le hb'.2.1 hb.size, hb'.2.2⟩
 have hk : ∀ k x, s.tb k = some x → ∃ x', s.tb k = some x' ∧ ((x'.kind = x.kind ∧ (ρ k).v = (ρ k).v) ∨ (x' = .dead ∧ x.kind ≠ 0)) := fun k x hx => ⟨x, hx, .inl ⟨rfl, rfl⟩⟩
 exact ⟨h.size, h.defers, h.below.below hb, fun t => (h.tmps t).keep hF hs hk, fun k x hx => (h.blks k x hx).keep hF hs hk rfl (fun b hl hf => hb.block b (h.rowBlk hx hl hf).2) hb.size, h.apart, h.lent⟩
theorem Zti (hb : Below w.heap.size w w') (h : ConcAt X s a w ρ) : ∀ b, (FF X w s.tb ρ b ∨ (w.heap.size ≤ b ∧ b < w'.heap.size)) → FF X w' s.tb ρ b := by
 intro b hb'
 rcases hb' with h1 | ⟨h1, h2⟩
 ·exact ⟨h1.1, Nat.lt_of_lt_of_le h1.2.1 hb.size, h1.2.2⟩
 ·refine ⟨.inr (.inl (Nat.le_trans h.below.size h1)), h2, fun k hk e => ?_⟩
  obtain ⟨x, hx, hl⟩ := Zbd hk
  have := (h.rowBlk hx hl e).2
  omega
theorem ConcAt.drew (h : ConcAt X s a w ρ) : ConcAt X s a w.drew ρ := h.grow (Below.refl _ _).drew
end
end Go.Proofs.YtgmahieoiifpfaaGreat
namespace Go.Proofs.YtgmahieoiifpfaaGreat
open Go.RowKit
def okB : Value → Bool
 | .agg _ => false
 | .tuple _ => false
 | .string s => decide (s.size ≤ maxLen)
 | .int k n => (Lit.int k n).wf
 | .float k b => (Lit.float k b).wf
 | _ => true
theorem Zqw {u : Value} (h : okB u = true) : okV u := by
 cases u <;> simp_all [okB, okV]
def Zqa : Value → AV
 | .agg cs => if cs.toList.all okB then .dat (.agg (cs.toList.map .val)) else .any
 | .tuple _ => .any
 | v => if okB v then .dat (.val v) else .any
def Sta.ev (s : Sta) : Operand → AV
 | .tmp t => s.tm t
 | .const v => Zqa v
 | .global _ => .any
 | .func f => .dat (.val (.func (.func f) #[] #[]))
theorem Zj6 {w : World} {F : Nat → Prop} : ∀ {l : List Value}, l.all okB = true → Reps w F (l.map .val) l
 | [], _ => by simp [Reps]
 | v :: r, h => by
  simp only [List.all_cons, Bool.and_eq_true] at h
  simp only [List.map_cons]
  unfold Reps
  exact ⟨v, r, rfl, by unfold Rep; exact ⟨rfl, Zqw h.1⟩, Zj6 h.2⟩
theorem Yhz {w : World} {F : Nat → Prop} {tb : Nat → Option Blk} {ρ : Nat → RV} (v : Value) : VR w F tb ρ (Zqa v) v := by
 cases v with
 | agg cs =>
  simp only [Zqa]
  split
  ·rename_i h
   unfold VR Rep
   exact ⟨cs.toList, by simp, Zj6 h, fun u hu => (Zqw (List.all_eq_true.1 h u hu)).one⟩
  ·unfold VR; trivial
 | tuple vs => simp only [Zqa]; unfold VR; trivial
 | _ =>
  simp only [Zqa]
  split
  ·rename_i h; unfold VR Rep; exact ⟨rfl, Zqw h⟩
  ·unfold VR; trivial
section
variable {X : Base} {s : Sta} {a : Act} {w w' : World} {ρ ρ' : Nat → RV} {P : Program}
theorem ConcAt.ev (h : ConcAt X s a w ρ) (x : Operand) : VR w (FF X w s.tb ρ) s.tb ρ (s.ev x) (a.eval x) := by
 cases x with
 | tmp t => exact h.tmps t
 | const v => exact Yhz v
 | global g => unfold Sta.ev VR; trivial
 | func f => unfold Sta.ev VR Rep; exact ⟨rfl, trivial⟩
def Zuw : TypeDesc → Bool
 | .struct _ => true
 | .array _ _ => true
 | _ => false
def Zp1 (P : Program) (t : TypeId) : Option (Nat × Bool) :=
 match P.info? t, P.underlying t with
 | some i, some d => some (i.size, Zuw d)
 | _, _ => none
def Yit (P : Program) (s : TypeId) (f : Nat) : Option (Nat × Nat × Bool) :=
 match P.underlying s with
 | some (.struct fs) => match fs[f]? with
  | some fd => match P.info? fd.type, P.underlying fd.type with
   | some i, some d => some (fd.offset, i.size, Zuw d)
   | _, _ => none
  | none => none
 | _ => none
def Zp0 (P : Program) (t : TypeId) : Option (TypeId × Nat × Nat) :=
 match P.underlying t with
 | some (.slice e) => match P.info? e with
  | some i => some (e, i.size, i.bytes)
  | none => none
 | _ => none
def Ypr (P : Program) (t : TypeId) : Option (List Value) :=
 match P.info? t with
 | some i => match i.zero with
  | some z => some z.cells.toList
  | none => none
 | none => none
class VI (P : Program) (t : Nat) (n : outParam Nat) (g : outParam Bool) : Prop where
 out : Zp1 P t = some (n, g)
class FI (P : Program) (t f : Nat) (o : outParam Nat) (n : outParam Nat) (g : outParam Bool) : Prop where
 out : Yit P t f = some (o, n, g)
class SI (P : Program) (t : Nat) (e : outParam Nat) (n : outParam Nat) (y : outParam Nat) : Prop where
 out : Zp0 P t = some (e, n, y)
class ZI (P : Program) (t : Nat) (zs : outParam (List Value)) : Prop where
 out : Ypr P t = some zs
 ok : zs.all okB = true
theorem Zpr {t n : Nat} {g : Bool} (h : Zp1 P t = some (n, g)) : ∃ i d, P.info? t = some i ∧ P.underlying t = some d ∧ i.size = n ∧ Zuw d = g := by
 unfold Zp1 at h
 split at h
 ·rename_i i d hi hd
  simp only [Option.some.injEq, Prod.mk.injEq] at h
  exact ⟨i, d, hi, hd, h.1, h.2⟩
 ·cases h
theorem Yd2 {t f off n : Nat} {g : Bool} (h : Yit P t f = some (off, n, g)) : ∃ fs fd i d, P.underlying t = some (.struct fs) ∧ fs[f]? = some fd ∧ P.info? fd.type = some i ∧ P.underlying fd.type = some d ∧ fd.offset = off ∧ i.size = n ∧ Zuw d = g := by
 unfold Yit at h
 split at h
 ·rename_i fs hfs
  split at h
  ·rename_i fd hfd
   split at h
   ·rename_i i d hi hd
    simp only [Option.some.injEq, Prod.mk.injEq] at h
    exact ⟨fs, fd, i, d, hfs, hfd, hi, hd, h.1, h.2.1, h.2.2⟩
   ·cases h
  ·cases h
 ·cases h
theorem Zcd {t e n y : Nat} (h : Zp0 P t = some (e, n, y)) : ∃ i, P.underlying t = some (.slice e) ∧ P.info? e = some i ∧ i.size = n ∧ i.bytes = y := by
 unfold Zp0 at h
 split at h
 ·rename_i e' hu
  split at h
  ·rename_i i hi
   simp only [Option.some.injEq, Prod.mk.injEq] at h
   obtain ⟨rfl, rfl, rfl⟩ := h
   exact ⟨i, hu, hi, rfl, rfl⟩
  ·cases h
 ·cases h
theorem Zpv {t : Nat} {zs : List Value} (h : Ypr P t = some zs) : ∃ i z, P.info? t = some i ∧ i.zero = some z ∧ z.cells.toList = zs := by
 unfold Ypr at h
 split at h
 ·rename_i i hi
  split at h
  ·rename_i z hz
   simp only [Option.some.injEq] at h
   exact ⟨i, z, hi, hz, h⟩
  ·cases h
 ·cases h
def Zrb (g : Bool) (n off : Nat) (l : List AV) : Option AV :=
 if g then (if off + n ≤ l.length then some (Zpz ((l.drop off).take n)) else none) else l[off]?
def Yo4 (g : Bool) (n off : Nat) (l : List PD) : Option PD :=
 if g then (if off + n ≤ l.length then some (.agg ((l.drop off).take n)) else none) else l[off]?
def Zkh (g : Bool) (n : Nat) : PD → Bool
 | .agg l => g && l.length == n
 | .tup _ => false
 | _ => !g
theorem Zux {t : TypeId} {d : TypeDesc} (h : P.underlying t = some d) (w : World) : (isAgg t).run P w = .ok (Zuw d) w := by
 unfold isAgg
 rw [Sem.run_bind, run_underlying h w]
 cases d <;> rfl
theorem Zb2 (b o n : Nat) : (⟨b, o, none⟩ : Addr).add n = ⟨b, o + n, none⟩ := by unfold Addr.add; split <;> simp_all
theorem Lies.add {b o : Nat} {cs : List Value} (h : Lies w b o cs) : ∀ j u, cs[j]? = some u → w.cell? ((⟨b, o, none⟩ : Addr).add j) = some u := fun j u hj => by rw [Zb2]; exact h j u hj
theorem Zdz {t : TypeId} {n : Nat} (ht : Zp1 P t = some (n, true)) {b o : Nat} {cs : List Value} (hn : cs.length = n) (hl : Lies w b o cs) : (loadVar t ⟨b, o, none⟩).run P w = .ok (.agg cs.toArray) w := by
 obtain ⟨i, d, hi, hd, hs, hg⟩ := Zpr ht
 have hc := run_loadCells_list (P := P) w ⟨b, o, none⟩ cs hl.add
 rw [hn] at hc
 simp [loadVar, Zux hd, hg, sizeOf, typeInfo, hi, hs, hc]
theorem Zct {t : TypeId} {n : Nat} (ht : Zp1 P t = some (n, false)) {b o : Nat} {u : Value} (hl : w.cell? ⟨b, o, none⟩ = some u) : (loadVar t ⟨b, o, none⟩).run P w = .ok u w := by
 obtain ⟨i, d, hi, hd, hs, hg⟩ := Zpr ht
 simp [loadVar, Zux hd, hg, hl]
theorem Zer {b : Nat} {vs : List Value} {t : TypeId} (h : w.heap[b]? = some (.cells vs.toArray t (0, 0))) (off : Nat) : Lies w b off (vs.drop off) := fun j u hj => by
 rw [cell_of_row w b (off + j) _ _ _ h]
 simpa using hj
theorem Lies.take {b o : Nat} {cs : List Value} (h : Lies w b o cs) (n : Nat) : Lies w b o (cs.take n) := fun j u hj => by
 rw [List.getElem?_take] at hj
 split at hj
 ·exact h j u hj
 ·cases hj
theorem Lies.drop {b o : Nat} {cs : List Value} (h : Lies w b o cs) (n : Nat) : Lies w b (o + n) (cs.drop n) := fun j u hj => by
 rw [List.getElem?_drop] at hj
 have := h (n + j) u hj
 rwa [← Nat.add_assoc] at this
def OpS (P : Program) (X : Base) (o : Oper) (s s' : Sta) : Prop :=
 ∀ a w, Conc X s a w → ∀ (K : Act → World → Prop) (Q : Exit → Act → World → Prop), (∀ a' w', Conc X s' a' w' → K a' w') → o.wp P a w K Q
theorem Zdr {o : Oper} {K : Act → World → Prop} {Q : Exit → Act → World → Prop} {v : Value} (h : (execOp a.eval o).run P w = .ok (.value v) w') (hK : K (a.put o.dst v) w') : o.wp P a w K Q := by
 unfold Oper.wp; rw [h]; exact hK
theorem Zjb {o : Oper} {K : Act → World → Prop} {Q : Exit → Act → World → Prop} (h : (execOp a.eval o).run P w = .ok .skip w') (hK : K (a.put o.dst undef) w') : o.wp P a w K Q := by
 unfold Oper.wp; rw [h]; exact hK
theorem Zat {o : Oper} (hd : Za7 X.N o.dst = true) {r : AV} (h : ∀ a w ρ, ConcAt X s a w ρ → ∃ v, (execOp a.eval o).run P w = .ok (.value v) w ∧ VR w (FF X w s.tb ρ) s.tb ρ r v) : OpS P X o s (s.put o.dst r) := by
 intro a w ⟨ρ, hc⟩ K Q hK
 obtain ⟨v, hr, hv⟩ := h a w ρ hc
 exact Zdr hr (hK _ _ ⟨ρ, hc.putO hd hv⟩)
theorem Zhc {o : Oper} (hd : Za7 X.N o.dst = true) {x : Operand} (ho : o.op = .move x) {r : AV} (hx : s.ev x = r) : OpS P X o s (s.put o.dst r) := by
 subst hx
 exact Zat hd fun a w ρ hc => ⟨a.eval x, by simp [execOp, ho], hc.ev x⟩
theorem Zhp {o : Oper} (hd : Za7 X.N o.dst = true) {x : Operand} (ho : o.op = .assign x) {r : AV} (hx : s.ev x = r) : OpS P X o s (s.put o.dst r) := by
 subst hx
 exact Zat hd fun a w ρ hc => ⟨a.eval x, by simp [execOp, ho], hc.ev x⟩
def Ytw : AV → Value
 | .dat (.val u) => u
 | _ => undef
theorem Zn1 {g : Bool} {n : Nat} {d : PD} (h : Zkh g n d = true) : (g = true ∧ ∃ l, d = .agg l ∧ l.length = n) ∨ (g = false ∧ (∀ l, d ≠ .agg l) ∧ ∀ l, d ≠ .tup l) := by
 cases d with
 | agg l => simp only [Zkh, Bool.and_eq_true, beq_iff_eq] at h; exact .inl ⟨h.1, l, rfl, h.2⟩
 | tup l => simp [Zkh] at h
 | _ => simp only [Zkh, Bool.not_eq_true'] at h; exact .inr ⟨h, by simp, by simp⟩
theorem Za8 {u : Value} (h : u.oneCell' = true) : u.cells.toList = [u] := by rw [Yfd h]
theorem Zzy {o : Oper} (hd : Za7 X.N o.dst = true) {t : TypeId} {x : Operand} (ho : o.op = .load t x) {d : PD} (hx : s.ev x = .dat (.ptr d)) {n : Nat} {g : Bool} (ht : Zp1 P t = some (n, g)) (hf : Zkh g n d = true) :
  OpS P X o s (s.put o.dst (.dat d)) := by
 refine Zat hd fun a w ρ hc => ?_
 have h2 := hc.ev x
 rw [hx] at h2
 unfold VR Rep at h2
 obtain ⟨b, off, u, e, hF, hu, hl⟩ := h2
 refine ⟨u, ?_, by unfold VR; exact hu⟩
 have hrun : (loadVar t ⟨b, off, none⟩).run P w = .ok u w := by
  rcases Zn1 hf with ⟨rfl, l, rfl, hn⟩ | ⟨rfl, h1, h1'⟩
  ·unfold Rep at hu
   obtain ⟨vs, rfl, hvs, _⟩ := hu
   exact Zdz ht (by rw [hvs.length]; exact hn) (by simpa [Value.cells] using hl)
  ·have hone := hu.one h1 h1'
   rw [Za8 hone] at hl
   exact Zct ht (by simpa using hl 0 u rfl)
 simp [execOp, ho, e, Instr.loadAt, Instr.sureAddr, hrun]
theorem Zh2 {o : Oper} (hd : Za7 X.N o.dst = true) {t : TypeId} {x : Operand} (ho : o.op = .load t x) {k off : Nat} (hx : s.ev x = .ptr k off) {T : TypeId} {cs : List AV} (hk : s.tb k = some (.box T cs))
  {n : Nat} {g : Bool} (ht : Zp1 P t = some (n, g)) {r : AV} (hf : Zrb g n off cs = some r) : OpS P X o s (s.put o.dst r) := by
 refine Zat hd fun a w ρ hc => ?_
 have h2 := hc.ev x
 rw [hx] at h2
 unfold VR at h2
 obtain ⟨T', cs', b, hk', hρ, e⟩ := h2
 obtain ⟨b', vs, hρ', hB, hb, hvs, h1⟩ := hc.blks k _ hk
 have hρ2 : Value.pointer (some ⟨b, 0, none⟩) = .pointer (some ⟨b', 0, none⟩) := hρ.symm.trans (congrArg RV.v hρ')
 simp only [Value.pointer.injEq, Option.some.injEq, Addr.mk.injEq, and_true] at hρ2
 subst hρ2
 have hl := Zer hb off
 cases g with
 | true =>
  simp only [Zrb, if_true] at hf
  split at hf
  ·rename_i hle
   simp only [Option.some.injEq] at hf
   subst hf
   have hv := (hvs.drop off).take n
   have h1' : ∀ u ∈ (vs.drop off).take n, u.oneCell' = true := fun u hu => h1 u (List.mem_of_mem_drop (List.mem_of_mem_take hu))
   have hrun := Zdz ht (cs := (vs.drop off).take n) (by rw [List.length_take, List.length_drop, hvs.length]; omega) (hl.take n)
   exact ⟨_, by simp [execOp, ho, e, Instr.loadAt, Instr.sureAddr, hrun], Zmx hv h1'⟩
  ·cases hf
 | false =>
  simp only [Zrb, Bool.false_eq_true, if_false] at hf
  obtain ⟨v, hv, hr⟩ := hvs.at_ hf
  have hcell : w.cell? ⟨b, off, none⟩ = some v := by rw [cell_of_row w b off _ _ _ hb]; simpa using hv
  exact ⟨v, by simp [execOp, ho, e, Instr.loadAt, Instr.sureAddr, Zct ht hcell], hr⟩
theorem Zh7 {t f off n : Nat} {g : Bool} (h : Yit P t f = some (off, n, g)) (hn : 0 < n) (b o : Nat) (w : World) : (Instr.fieldAt t (.pointer (some ⟨b, o, none⟩)) f).run P w = .ok (.pointer (some ⟨b, o + off, none⟩)) w := by
 obtain ⟨fs, fd, i, d, hu, hfd, hi, hd, ho, hs, hg⟩ := Yd2 h
 have hne : ¬ i.size = 0 := by omega
 simp [Instr.fieldAt, run_underlying hu, hfd, Instr.sureAddr, fieldPlace, sizeOf, typeInfo, hi, hne, Zb2, ho]
theorem Zkz {o : Oper} (hd : Za7 X.N o.dst = true) {t f : Nat} {x : Operand} (ho : o.op = .fieldAddr t x f) {k off : Nat} (hx : s.ev x = .ptr k off) {fo n : Nat} {g : Bool} (ht : Yit P t f = some (fo, n, g)) (hn : 0 < n) :
  OpS P X o s (s.put o.dst (.ptr k (off + fo))) := by
 refine Zat hd fun a w ρ hc => ?_
 have h2 := hc.ev x
 rw [hx] at h2
 unfold VR at h2
 obtain ⟨T', cs', b, hk', hρ, e⟩ := h2
 exact ⟨.pointer (some ⟨b, off + fo, none⟩), by simp [execOp, ho, e, Zh7 ht hn], by unfold VR; exact ⟨T', cs', b, hk', hρ, rfl⟩⟩
theorem Yl7 {F : Nat → Prop} {g : Bool} {n off : Nat} {l : List PD} {r : PD} (hf : Yo4 g n off l = some r) {vs : List Value} (hv : Reps w F l vs) (h1 : ∀ u ∈ vs, u.oneCell' = true) :
  ∃ u, Rep w F r u ∧ (g = true → u.cells.toList = (vs.drop off).take n ∧ u = .agg ((vs.drop off).take n).toArray) ∧ (g = false → u.cells.toList = [u] ∧ vs[off]? = some u) ∧ u.cells.toList = (vs.drop off).take u.cells.toList.length := by
 cases g with
 | true =>
  simp only [Yo4, if_true] at hf
  split at hf
  ·rename_i hle
   simp only [Option.some.injEq] at hf
   subst hf
   refine ⟨.agg ((vs.drop off).take n).toArray, ?_, fun _ => ⟨by simp [Value.cells], rfl⟩, by simp, ?_⟩
   ·unfold Rep
    exact ⟨_, rfl, (hv.drop off).take n, fun u hu => h1 u (List.mem_of_mem_drop (List.mem_of_mem_take hu))⟩
   ·simp only [Value.cells, List.length_take, List.length_drop]
    rw [List.take_eq_take_iff]; simp
  ·cases hf
 | false =>
  simp only [Yo4, Bool.false_eq_true, if_false] at hf
  obtain ⟨v, hv', hr⟩ := hv.at_ hf
  have hone := h1 v (List.mem_of_getElem? hv')
  refine ⟨v, hr, by simp, fun _ => ⟨Za8 hone, hv'⟩, ?_⟩
  rw [Za8 hone]
  simp only [List.length_cons, List.length_nil, Nat.zero_add]
  obtain ⟨hlt, hget⟩ := List.getElem?_eq_some_iff.1 hv'
  rw [List.drop_eq_getElem_cons hlt, hget]
  rfl
theorem Zst {o : Oper} (hd : Za7 X.N o.dst = true) {t f : Nat} {x : Operand} (ho : o.op = .fieldAddr t x f) {l : List PD} (hx : s.ev x = .dat (.ptr (.agg l))) {fo n : Nat} {g : Bool} (ht : Yit P t f = some (fo, n, g)) (hn : 0 < n)
  {r : PD} (hr : Yo4 g n fo l = some r) : OpS P X o s (s.put o.dst (.dat (.ptr r))) := by
 refine Zat hd fun a w ρ hc => ?_
 have h2 := hc.ev x
 rw [hx] at h2
 unfold VR Rep at h2
 obtain ⟨b, off, u, e, hF, hu, hl⟩ := h2
 unfold Rep at hu
 obtain ⟨vs, rfl, hvs, h1⟩ := hu
 obtain ⟨u, hu, _, _, hcl⟩ := Yl7 hr hvs h1
 refine ⟨.pointer (some ⟨b, off + fo, none⟩), by simp [execOp, ho, e, Zh7 ht hn], ?_⟩
 unfold VR Rep
 refine ⟨b, off + fo, u, rfl, hF, hu, ?_⟩
 rw [hcl]
 simp only [Value.cells] at hl
 exact (hl.drop fo).take _
theorem Zk1 {o : Oper} (hd : Za7 X.N o.dst = true) {t : TypeId} {x ix : Operand} (ho : o.op = .indexAddr t x ix) {n y : Nat} {l : List PD} (hx : s.ev x = .dat (.sl n y l)) {k : IntKind} {i : Int} (hi : s.ev ix = .dat (.val (.int k i)))
  {e y' : Nat} (ht : Zp0 P t = some (e, n, y')) (hi0 : 0 ≤ i) {d : PD} (hl : l[i.toNat]? = some d) : OpS P X o s (s.put o.dst (.dat (.ptr d))) := by
 refine Zat hd fun a w ρ hc => ?_
 have h2 := hc.ev x
 rw [hx] at h2
 unfold VR Rep at h2
 have h3 := hc.ev ix
 rw [hi] at h3
 unfold VR Rep at h3
 obtain ⟨a', c, e1, hle, hby, hln, hcase⟩ := h2
 obtain ⟨inf, hu, hinf, hsz, _⟩ := Zcd ht
 have hlt : i.toNat < l.length := (List.getElem?_eq_some_iff.1 hl).1
 rcases hcase with rfl | ⟨b, off, hF, ha, hr⟩
 ·simp at hl
 obtain ⟨u, hu1, hun, _, hli⟩ := hr.at_ hl
 subst ha
 have hlt' : i < (l.length : Int) := by omega
 refine ⟨.pointer (some ⟨b, off + i.toNat * n, none⟩), ?_, ?_⟩
 ·simp [execOp, ho, e1, h3.1, Instr.indexAt, asIntOf, run_underlying hu, hi0, hlt', sizeOf, typeInfo, hinf, hsz, Zb2]
 ·unfold VR Rep
  exact ⟨b, off + i.toNat * n, u, rfl, hF, hu1, hli⟩
theorem Zs2 {t ty e : TypeId} (hu : P.underlying t = some (.slice e)) {a' : Option Addr} {c : Nat} (n : Nat) : (Builtin.len_ #[t] ty #[.slice a' n c]).run P w = .ok (goInt n) w := by
 simp [Builtin.len_, run_underlying hu, goInt]
theorem Znm {n : Nat} (h : n ≤ 140737488351232) : (Lit.int .i64 (n : Int)).wf = true := WalkArith.wf_i64 (by omega)
theorem Yfr {o : Oper} (hd : Za7 X.N o.dst = true) {x : Operand} {t : TypeId} (ho : o.op = .call { callee := .builtin .len, args := #[x], argTypes := #[t] }) {e n' y' : Nat} (ht : Zp0 P t = some (e, n', y')) {n y : Nat} {l : List PD} (hx : s.ev x = .dat (.sl n y l)) :
  OpS P X o s (s.put o.dst (.dat (.val (.int .i64 l.length)))) := by
 refine Zat hd fun a w ρ hc => ?_
 have h2 := hc.ev x
 rw [hx] at h2
 unfold VR Rep at h2
 obtain ⟨a', c, e1, hle, hby, hln, hcase⟩ := h2
 refine ⟨.int .i64 l.length, ?_, by unfold VR Rep; exact ⟨rfl, Znm hln⟩⟩
 obtain ⟨_, hu, _⟩ := Zcd ht
 simp [execOp, ho, resolve, invoke, builtin, e1, Zs2 hu, goInt]
theorem ConcAt.own_slice (h : ConcAt X s a w ρ) {k e n y : Nat} {l : List PD} (hk : s.tb k = some (.row e n y l)) : (∃ a' c, (ρ k).v = .slice a' l.length c) ∧ l.length ≤ 140737488351232 := by
 obtain ⟨xs, _, _, h1, h2, h3, h4⟩ := h.blks k _ hk
 refine ⟨?_, h4⟩
 rcases h1.2 with ⟨e1, e2⟩ | ⟨g, cap, cur, e1, _⟩
 ·exact ⟨none, 0, by rw [e1, e2]⟩
 ·exact ⟨_, _, e1⟩
theorem Yon {o : Oper} (hd : Za7 X.N o.dst = true) {x : Operand} {t : TypeId} (ho : o.op = .call { callee := .builtin .len, args := #[x], argTypes := #[t] }) {e' n' y' : Nat} (ht : Zp0 P t = some (e', n', y')) {k e n y : Nat} {l : List PD} (hx : s.ev x = .own k) (hk : s.tb k = some (.row e n y l)) :
  OpS P X o s (s.put o.dst (.dat (.val (.int .i64 l.length)))) := by
 refine Zat hd fun a w ρ hc => ?_
 have h2 := hc.ev x
 rw [hx] at h2
 have e1 := Zjf h2 hk
 obtain ⟨⟨a', c, e2⟩, hln⟩ := hc.own_slice hk
 refine ⟨.int .i64 l.length, ?_, by unfold VR Rep; exact ⟨rfl, Znm hln⟩⟩
 obtain ⟨_, hu, _⟩ := Zcd ht
 simp [execOp, ho, resolve, invoke, builtin, e1.trans e2, Zs2 hu, goInt]
theorem Zqz {o : Oper} (hd : Za7 X.N o.dst = true) {x : Operand} {i : Nat} (ho : o.op = .extract x i) {l : List PD} (hx : s.ev x = .dat (.tup l)) {d : PD} (hl : l[i]? = some d) : OpS P X o s (s.put o.dst (.dat d)) := by
 refine Zat hd fun a w ρ hc => ?_
 have h2 := hc.ev x
 rw [hx] at h2
 unfold VR Rep at h2
 obtain ⟨vs, e, hvs⟩ := h2
 obtain ⟨v, hv, hr⟩ := hvs.at_ hl
 exact ⟨v, by simp [execOp, ho, e, Instr.extract, hv], by unfold VR; exact hr⟩
theorem Zmh {o : Oper} (hd : Za7 X.N o.dst = true) {x : Operand} (ho : o.op = .nilCheck x) {k off : Nat} (hx : s.ev x = .ptr k off) : OpS P X o s (s.put o.dst (.ptr k off)) := by
 refine Zat hd fun a w ρ hc => ?_
 have h2 := hc.ev x
 rw [hx] at h2
 have h3 := h2
 unfold VR at h2
 obtain ⟨T', cs', b, hk', hρ, e⟩ := h2
 exact ⟨a.eval x, by simp [execOp, ho, e], h3⟩
theorem Zmi {o : Oper} (hd : Za7 X.N o.dst = true) {x : Operand} (ho : o.op = .nilCheck x) {d : PD} (hx : s.ev x = .dat (.ptr d)) : OpS P X o s (s.put o.dst (.dat (.ptr d))) := by
 refine Zat hd fun a w ρ hc => ?_
 have h2 := hc.ev x
 rw [hx] at h2
 have h3 := h2
 unfold VR Rep at h2
 obtain ⟨b, off, u, e, _⟩ := h2
 exact ⟨a.eval x, by simp [execOp, ho, e], h3⟩
end
end Go.Proofs.YtgmahieoiifpfaaGreat
namespace Go.Proofs.YtgmahieoiifpfaaGreat
open Go.RowKit
section
variable {X : Base} {s : Sta} {a : Act} {w w' : World} {ρ ρ' : Nat → RV} {P : Program}
theorem ConcAt.newBlk (h : ConcAt X s a w ρ) {k : Nat} (hk1 : k < 1000) (hk : s.tb k = none) (hb : Below w.heap.size w w') {blk : Blk} {v : RV} (hv : ∀ b, v.fp b → w.heap.size ≤ b)
  (hbr : (∀ b, FF X w s.tb ρ b → w'.heap[b]? = w.heap[b]?) → (∀ b, FF X w s.tb ρ b → FF X w' (upd s.tb k (some blk)) (upd ρ k v) b) →
   (∀ k' x, s.tb k' = some x → ∃ x', upd s.tb k (some blk) k' = some x' ∧ ((x'.kind = x.kind ∧ (upd ρ k v k').v = (ρ k').v) ∨ (x' = .dead ∧ x.kind ≠ 0))) → BR X w' (upd s.tb k (some blk)) (upd ρ k v) k blk) :
  ConcAt X { s with tb := upd s.tb k (some blk) } a w' (upd ρ k v) := by
 have hF : ∀ b, FF X w s.tb ρ b → w'.heap[b]? = w.heap[b]? := fun b hb' => hb.block b hb'.2.1
 have hne : ∀ k' x, s.tb k' = some x → k' ≠ k := fun k' x hx e => by subst e; rw [hk] at hx; cases hx
 have hs : ∀ b, FF X w s.tb ρ b → FF X w' (upd s.tb k (some blk)) (upd ρ k v) b := by
  intro b hb'
  refine ⟨hb'.1, Nat.lt_of_lt_of_le hb'.2.1 hb.size, fun k' hk' e => ?_⟩
  by_cases ek : k' = k
  ·subst ek; rw [Zah] at e; have := hv b e; have := hb'.2.1; omega
  ·rw [Zaw _ _ ek] at hk' e; exact hb'.2.2 k' hk' e
 have hkk : ∀ k' x, s.tb k' = some x → ∃ x', upd s.tb k (some blk) k' = some x' ∧ ((x'.kind = x.kind ∧ (upd ρ k v k').v = (ρ k').v) ∨ (x' = .dead ∧ x.kind ≠ 0)) := fun k' x hx =>
  ⟨x, by rw [Zaw _ _ (hne k' x hx)]; exact hx, .inl ⟨rfl, by rw [Zaw _ _ (hne k' x hx)]⟩⟩
 refine ⟨h.size, h.defers, h.below.below hb, fun t' => (h.tmps t').keep hF hs hkk, fun k' x hx => ?_, fun k1 k2 b h1 h2 e1 e2 => ?_, fun k' hk' hl' => ?_⟩
 ·by_cases ek : k' = k
  ·subst ek
   simp only [Zah, Option.some.injEq] at hx
   subst hx
   exact hbr hF hs hkk
  ·simp only [Zaw _ _ ek] at hx
   exact (h.blks k' x hx).keep hF hs hkk (Zaw _ _ ek) (fun b hl hf => hb.block b (h.rowBlk hx hl hf).2) hb.size
 ·have low : ∀ k' b, k' ≠ k → Za6 (upd s.tb k (some blk) k') = true → (upd ρ k v k').fp b → b < w.heap.size := by
   intro k' b ek h2 e2
   simp only [Zaw _ _ ek] at h2 e2
   obtain ⟨x, hx, hl⟩ := Zbd h2
   exact (h.rowBlk hx hl e2).2
  by_cases ek1 : k1 = k
  ·by_cases ek2 : k2 = k
   ·rw [ek1, ek2]
   ·exfalso
    have h3 := low k2 b ek2 h2 e2
    simp only [ek1, Zah] at e1
    have := hv b e1; omega
  ·by_cases ek2 : k2 = k
   ·exfalso
    have h3 := low k1 b ek1 h1 e1
    simp only [ek2, Zah] at e2
    have := hv b e2; omega
   ·simp only [Zaw _ _ ek1] at h1 e1
    simp only [Zaw _ _ ek2] at h2 e2
    exact h.apart k1 k2 b h1 h2 e1 e2
 ·have e : k' ≠ k := fun e => by omega
  simp only [Zaw _ _ e] at hl' ⊢
  exact h.lent k' hk' hl'
theorem Zns (w : World) (o : Obj) : Below w.heap.size w (w.alloc o) := (Below.refl _ _).alloc (Nat.le_refl _) o
theorem ConcAt.newBox (h : ConcAt X s a w ρ) {k : Nat} (hk1 : k < 1000) (hk : s.tb k = none) {cs : List AV} {vs : List Value} (hv : VRs w (FF X w s.tb ρ) s.tb ρ cs vs) (h1 : ∀ u ∈ vs, u.oneCell' = true) (t : TypeId) :
  ConcAt X { s with tb := upd s.tb k (some (.box t cs)) } a (w.alloc (.cells vs.toArray t)) (upd ρ k (RV.of (.pointer (some ⟨w.heap.size, 0, none⟩)))) :=
 h.newBlk hk1 hk (Zns _ _) (fun b e => by have e : some w.heap.size = some b := e; cases e; exact Nat.le_refl _) fun hF hs hkk =>
  ⟨w.heap.size, vs, Zah _ _ _, .inl h.below.size, (MapKept.heap_alloc _ _).1, hv.keep hF hs hkk, h1⟩
theorem ConcAt.cells (h : ConcAt X s a w ρ) {x : AV} {v : Value} (hv : VR w (FF X w s.tb ρ) s.tb ρ x v) {cs : List AV} (hc : Zc5 x = some cs) :
  VRs w (FF X w s.tb ρ) s.tb ρ cs v.cells.toList ∧ ∀ u ∈ v.cells.toList, u.oneCell' = true := by
 have single : v.oneCell' = true → cs = [x] → VRs w (FF X w s.tb ρ) s.tb ρ cs v.cells.toList ∧ ∀ u ∈ v.cells.toList, u.oneCell' = true := by
  intro h1 e
  subst e
  rw [Za8 h1]
  refine ⟨?_, by simpa using h1⟩
  unfold VRs
  exact ⟨v, [], rfl, hv, by unfold VRs; rfl⟩
 cases x with
 | any => simp [Zc5] at hc
 | dat d =>
  cases d with
  | agg l =>
   simp only [Zc5, Option.some.injEq] at hc
   subst hc
   unfold VR Rep at hv
   obtain ⟨vs, rfl, hr, h1⟩ := hv
   exact ⟨by simpa [Value.cells] using VRs.of_dat hr, by simpa [Value.cells] using h1⟩
  | tup l => simp [Zc5] at hc
  | val u => simp only [Zc5, Option.some.injEq] at hc; exact single (Zj7 hv (by simp) (by simp) (by simp) (by simp) (by simp)) hc.symm
  | iface t u => simp only [Zc5, Option.some.injEq] at hc; exact single (Zj7 hv (by simp) (by simp) (by simp) (by simp) (by simp)) hc.symm
  | ptr u => simp only [Zc5, Option.some.injEq] at hc; exact single (Zj7 hv (by simp) (by simp) (by simp) (by simp) (by simp)) hc.symm
  | opq q => simp only [Zc5, Option.some.injEq] at hc; exact single (Zj7 hv (by simp) (by simp) (by simp) (by simp) (by simp)) hc.symm
  | sl n y l => simp only [Zc5, Option.some.injEq] at hc; exact single (Zj7 hv (by simp) (by simp) (by simp) (by simp) (by simp)) hc.symm
 | ptr k off => simp only [Zc5, Option.some.injEq] at hc; exact single (Zj7 hv (by simp) (by simp) (by simp) (by simp) (by simp)) hc.symm
 | own k =>
  simp only [Zc5, Option.some.injEq] at hc
  refine single ?_ hc.symm
  unfold VR at hv
  exact hv.1
 | agg l =>
  simp only [Zc5, Option.some.injEq] at hc
  subst hc
  unfold VR at hv
  obtain ⟨vs, rfl, hr, h1⟩ := hv
  exact ⟨by simpa [Value.cells] using hr, by simpa [Value.cells] using h1⟩
 | tup l => simp [Zc5] at hc
 | iface t u => simp only [Zc5, Option.some.injEq] at hc; exact single (Zj7 hv (by simp) (by simp) (by simp) (by simp) (by simp)) hc.symm
 | clo f u => simp only [Zc5, Option.some.injEq] at hc; exact single (Zj7 hv (by simp) (by simp) (by simp) (by simp) (by simp)) hc.symm
 | elt k n i off => simp only [Zc5, Option.some.injEq] at hc; exact single (Zj7 hv (by simp) (by simp) (by simp) (by simp) (by simp)) hc.symm
def Sta.new (s : Sta) (k : Nat) (b : Blk) (x : AV) : Sta := { tm := upd s.tm k x, tb := upd s.tb k (some b) }
theorem ConcAt.putNew {k : Nat} {b : Blk} (h : ConcAt X { s with tb := upd s.tb k (some b) } a w ρ) (hd : k < X.N) {x : AV} {v : Value} (hx : VR w (FF X w (upd s.tb k (some b)) ρ) (upd s.tb k (some b)) ρ x v) : ConcAt X (s.new k b x) (a.put (some k) v) w ρ := h.put hd hx
theorem Yls {o : Oper} {k : Nat} (hd : o.dst = some k) (hN : k < X.N) (hk : s.tb k = none) {t : TypeId} {x : Operand} (ho : o.op = .box t x) {cs : List AV} (hx : Zc5 (s.ev x) = some cs) :
  OpS P X o s (s.new k (.box t cs) (.ptr k 0)) := by
 intro a w ⟨ρ, hc⟩ K Q hK
 obtain ⟨hv, h1⟩ := hc.cells (hc.ev x) hx
 have h2 := hc.newBox (Nat.lt_of_lt_of_le hN X.hN) hk hv h1 t
 have hr : (execOp a.eval o).run P w = .ok (.value (.pointer (some ⟨w.heap.size, 0, none⟩))) (w.alloc (.cells (a.eval x).cells t)) := by
  simp [execOp, ho, Instr.box, newVar, newRow]
 refine Zdr hr ?_
 rw [hd]
 refine hK _ _ ⟨_, ConcAt.putNew (by simpa using h2) hN ?_⟩
 unfold VR
 exact ⟨t, cs, w.heap.size, Zah _ _ _, by rw [Zah]; rfl, rfl⟩
theorem Yjx {o : Oper} {k : Nat} (hd : o.dst = some k) (hN : k < X.N) (hk : s.tb k = none) {t : TypeId} (ho : o.op = .alloc t) {zs : List Value} (hz : Ypr P t = some zs) (hok : zs.all okB = true) :
  OpS P X o s (s.new k (.box t (zs.map fun v => .dat (.val v))) (.ptr k 0)) := by
 intro a w ⟨ρ, hc⟩ K Q hK
 obtain ⟨i, z, hi, hz1, hz2⟩ := Zpv hz
 have hv : VRs w (FF X w s.tb ρ) s.tb ρ (zs.map fun v => .dat (.val v)) zs := by
  have := VRs.of_dat (tb := s.tb) (ρ := ρ) (Zj6 (w := w) (F := FF X w s.tb ρ) hok)
  have e : zs.map (fun v => AV.dat (.val v)) = (zs.map PD.val).map .dat := by rw [List.map_map]; rfl
  rw [e]; exact this
 have h2 := hc.newBox (Nat.lt_of_lt_of_le hN X.hN) hk hv (fun u hu => (Zqw (List.all_eq_true.1 hok u hu)).one) t
 have hr : (execOp a.eval o).run P w = .ok (.value (.pointer (some ⟨w.heap.size, 0, none⟩))) (w.alloc (.cells zs.toArray t)) := by
  have : z.cells = zs.toArray := by subst hz2; simp
  simp [execOp, ho, Instr.alloc, zeroValue, typeInfo, hi, hz1, newVar, newRow, this]
 refine Zdr hr ?_
 rw [hd]
 refine hK _ _ ⟨_, ConcAt.putNew h2 hN ?_⟩
 unfold VR
 exact ⟨t, _, w.heap.size, Zah _ _ _, by rw [Zah]; rfl, rfl⟩
def Sta.set (s : Sta) (k : Nat) (b : Blk) : Sta := { s with tb := upd s.tb k (some b) }
theorem ConcAt.setBox (h : ConcAt X s a w ρ) {k : Nat} {t : TypeId} {cs cs' : List AV} (hk : s.tb k = some (.box t cs)) {b : Nat} (hρ : ρ k = RV.of (.pointer (some ⟨b, 0, none⟩))) {old vs : List Value} (hb : w.heap[b]? = some (.cells old.toArray t (0, 0)))
  (hv : VRs w (FF X w s.tb ρ) s.tb ρ cs' vs) (h1 : ∀ u ∈ vs, u.oneCell' = true) : ConcAt X (s.set k (.box t cs')) a (w.setRow b vs.toArray) ρ := by
 have hblk := h.rowBlk hk rfl (b := b) (by rw [hρ]; rfl)
 have hother : ∀ b', b' ≠ b → (w.setRow b vs.toArray).heap[b']? = w.heap[b']? := fun b' hne => setRow_other w b b' _ hne
 have hFb : ∀ b', FF X w s.tb ρ b' → b' ≠ b := fun b' hF e => hF.2.2 k (by rw [hk]; rfl) (by rw [hρ, e]; rfl)
 have hF : ∀ b', FF X w s.tb ρ b' → (w.setRow b vs.toArray).heap[b']? = w.heap[b']? := fun b' hF => hother b' (hFb b' hF)
 have hdom : ∀ k', Za6 ((s.set k (.box t cs')).tb k') = true → Za6 (s.tb k') = true := by
  intro k' hk'
  by_cases ek : k' = k
  ·subst ek; rw [hk]; rfl
  ·simp only [Sta.set, Zaw _ _ ek] at hk'; exact hk'
 have hs : ∀ b', FF X w s.tb ρ b' → FF X (w.setRow b vs.toArray) (s.set k (.box t cs')).tb ρ b' := fun b' hF => ⟨hF.1, by simpa using hF.2.1, fun k' hk' => hF.2.2 k' (hdom k' hk')⟩
 have hkk : ∀ k' x, s.tb k' = some x → ∃ x', (s.set k (.box t cs')).tb k' = some x' ∧ ((x'.kind = x.kind ∧ (ρ k').v = (ρ k').v) ∨ (x' = .dead ∧ x.kind ≠ 0)) := by
  intro k' x hx
  by_cases ek : k' = k
  ·subst ek; rw [hk] at hx; cases hx; exact ⟨.box t cs', Zah _ _ _, .inl ⟨rfl, rfl⟩⟩
  ·exact ⟨x, by simp only [Sta.set, Zaw _ _ ek]; exact hx, .inl ⟨rfl, rfl⟩⟩
 refine ⟨h.size, h.defers, h.below.step rfl rfl rfl (by simp) (fun j _ hj => hother j (fun e => hj (by rw [e]; exact hblk.1))), fun t' => (h.tmps t').keep hF hs hkk, fun k' x hx => ?_, fun k1 k2 b h1 h2 e1 e2 => h.apart k1 k2 b (hdom k1 h1) (hdom k2 h2) e1 e2, fun k' hk' hl' => h.lent k' hk' (hdom k' hl')⟩
 by_cases ek : k' = k
 ·subst ek
  simp only [Sta.set, Zah, Option.some.injEq] at hx
  subst hx
  exact ⟨b, vs, hρ, hblk.1, setRow_heap w b _ _ t _ hb, hv.keep hF hs hkk, h1⟩
 ·simp only [Sta.set, Zaw _ _ ek] at hx
  exact (h.blks k' x hx).keep hF hs hkk rfl (fun b' hl hf => hother b' fun e => ek (h.apart k' k b (by rw [hx]; exact hl) (by rw [hk]; rfl) (by rw [← e]; exact hf) (by rw [hρ]; rfl))) (by simp)
theorem Zgt {t : TypeId} {n : Nat} {g : Bool} (ht : Zp1 P t = some (n, g)) {b off : Nat} {old : List Value} {e : TypeId} (hb : w.heap[b]? = some (.cells old.toArray e (0, 0))) {v : Value} (hn : v.cells.toList.length = n)
  (hle : off + n ≤ old.length) (h1 : ∀ u ∈ v.cells.toList, u.oneCell' = true) : (storeVar t ⟨b, off, none⟩ v).run P w = .ok () (w.setRow b (old.take off ++ v.cells.toList ++ old.drop (off + n)).toArray) := by
 obtain ⟨i, d, hi, hd, hs, hg⟩ := Zpr ht
 have hst := run_storeCells_at P b off e v.cells.toList 0 old.toArray w hb (by rw [hn]; simpa using hle) h1
 simp only [Nat.add_zero, hn] at hst
 have hsz : v.cells.size = n := by simpa using hn
 simp [storeVar, sizeOf, typeInfo, hi, hs, hsz, hst]
theorem Zo7 {o : Oper} (hd : o.dst = none) {t : TypeId} {x y : Operand} (ho : o.op = .store t x y) {k off : Nat} (hx : s.ev x = .ptr k off) {T : TypeId} {cs : List AV} (hk : s.tb k = some (.box T cs))
  {n : Nat} {g : Bool} (ht : Zp1 P t = some (n, g)) {ys : List AV} (hy : Zc5 (s.ev y) = some ys) (hn : ys.length = n) (hle : off + n ≤ cs.length) :
  OpS P X o s (s.set k (.box T (cs.take off ++ ys ++ cs.drop (off + n)))) := by
 intro a w ⟨ρ, hc⟩ K Q hK
 have h2 := hc.ev x
 rw [hx] at h2
 unfold VR at h2
 obtain ⟨T', cs', b, hk', hρ, e⟩ := h2
 obtain ⟨b', vs, hρ', hB, hb, hvs, h1⟩ := hc.blks k _ hk
 have hρ2 : Value.pointer (some ⟨b, 0, none⟩) = .pointer (some ⟨b', 0, none⟩) := hρ.symm.trans (congrArg RV.v hρ')
 simp only [Value.pointer.injEq, Option.some.injEq, Addr.mk.injEq, and_true] at hρ2
 subst hρ2
 obtain ⟨hv, hv1⟩ := hc.cells (hc.ev y) hy
 have hlen : (a.eval y).cells.toList.length = n := by rw [hv.length]; exact hn
 have hr := Zgt ht hb hlen (by rw [hvs.length]; exact hle) hv1
 have hst := hc.setBox hk hρ' hb (((hvs.take off).append hv).append (hvs.drop (off + n))) (by
  intro u hu
  simp only [List.mem_append] at hu
  rcases hu with (hu | hu) | hu
  ·exact h1 u (List.mem_of_mem_take hu)
  ·exact hv1 u hu
  ·exact h1 u (List.mem_of_mem_drop hu))
 refine Zjb (w' := w.setRow b (vs.take off ++ (a.eval y).cells.toList ++ vs.drop (off + n)).toArray) ?_ ?_
 ·simp only [execOp, ho, e, Instr.storeAt, Instr.sureAddr, Sem.run_bind, Sem.run_pure, Result.andThen_ok, hr]
 ·rw [hd]
  exact hK _ _ ⟨ρ, hst⟩
def PCall (P : Program) (f : FuncId) (ds : List PD) (r : PD) : Prop :=
 ∀ (w : World) (F : Nat → Prop) (vs : List Value), (∀ b, F b → b < w.heap.size) → Reps w F ds vs →
  Calls P f vs.toArray w fun e w' => ∃ v, e = .returned v ∧ Below w.heap.size w w' ∧ Rep w' (fun b => F b ∨ (w.heap.size ≤ b ∧ b < w'.heap.size)) r v
def Zbo (P : Program) (f : FuncId) : Bool :=
 match P.funcs[f]? with
 | some fn => fn.body.isSome && !(fn.name == "runtime.NumGoroutine")
 | none => false
theorem Zck {f : FuncId} (hf : Zbo P f = true) (args : Array Value) (w : World) : (callFunc f args).run P w = .ok (.enter f args) w := by
 unfold Zbo at hf
 split at hf
 ·rename_i fn hfn
  simp only [Bool.and_eq_true, Bool.not_eq_true'] at hf
  have hb : fn.body.isNone = false := by cases hb : fn.body <;> simp_all
  simp only [callFunc, Sem.run_bind, run_program, Result.andThen_ok, hfn, hf.2, hb, Bool.false_eq_true, if_false, Sem.run_pure]
 ·cases hf
theorem Zno (h : ConcAt X s a w ρ) : ∀ {xs : List Operand} {ds : List PD}, Zi2 (xs.map s.ev) = some ds → Reps w (FF X w s.tb ρ) ds (xs.map a.eval)
 | [], ds, hd => by simp [Zi2] at hd; subst hd; simp [Reps]
 | x :: r, ds, hd => by
  have h2 := Zfq hd
  cases ds with
  | nil => simp at h2
  | cons d ds' =>
   simp only [List.map_cons, List.cons.injEq] at h2
   have hx := h.ev x
   rw [h2.1] at hx
   unfold VR at hx
   simp only [List.map_cons]
   unfold Reps
   refine ⟨a.eval x, r.map a.eval, rfl, hx, Zno h ?_⟩
   simp only [List.map_cons, h2.1, Zi2] at hd
   obtain ⟨ds'', h3, h4⟩ := Option.map_eq_some_iff.1 hd
   cases h4
   exact h3
theorem Yfi {o : Oper} (hd : Za7 X.N o.dst = true) {f : FuncId} {xs : List Operand} {ts : Array TypeId} (ho : o.op = .call { callee := .value (.func f), args := xs.toArray, argTypes := ts }) (hf : Zbo P f = true)
  {ds : List PD} (hx : Zi2 (xs.map s.ev) = some ds) {r : PD} (hr : PCall P f ds r) : OpS P X o s (s.put o.dst (.dat r)) := by
 intro a w ⟨ρ, hc⟩ K Q hK
 have hargs := Zno hc hx
 have hcall := hr w (FF X w s.tb ρ) _ (fun b hb => hb.2.1) hargs
 have hrun : (execOp a.eval o).run P w = .ok (.enter f (xs.map a.eval).toArray) w := by
  simp [execOp, ho, resolve, Deferred.ofValue, Act.eval, invoke, Zck hf]
 unfold Oper.wp
 rw [hrun]
 refine hcall.mono ?_
 rintro e w' ⟨v, rfl, hb, hv⟩
 have hc' := hc.grow hb
 have hF := Zti hb hc
 refine hK _ _ ⟨ρ, hc'.putO hd ?_⟩
 unfold VR
 exact hv.keep (fun _ _ => rfl) hF
end
end Go.Proofs.YtgmahieoiifpfaaGreat
namespace Go.Proofs.YtgmahieoiifpfaaGreat
open Go.RowKit
inductive Itm where
 | code (c : Code)
 | blk (id : Nat)
 | again (R : Sta → Prop)
 | ops (all : Array Oper) (rem : List Nat)
section
variable {P : Program} {X : Base} {N : Nat} {Q : Exit → Act → World → Prop} {s s' : Sta} {ks : List Itm}
def post (P : Program) (X : Base) (Q : Exit → Act → World → Prop) : List Itm → Exit → Act → World → Prop
 | [] => Q
 | .code c :: ks => fun e a w => match e with
  | .normal => c.wp P (post P X Q ks) a w
  | e' => post P X Q ks e' a w
 | .blk id :: ks => Exit.inBlock id (post P X Q ks)
 | .again R :: ks => fun e a w => match e with
  | .normal => ∃ s, R s ∧ Conc X s a w
  | e => post P X Q ks e a w
 | .ops all rem :: ks => fun e a w => match e with
  | .normal => wpOps P all (post P X Q ks) rem a w
  | e => post P X Q ks e a w
structure Run (P : Program) (X : Base) (N : Nat) (Q : Exit → Act → World → Prop) (ks : List Itm) (s : Sta) : Prop where
 out : X.at P N → ∀ a w, Conc X s a w → post P X Q ks .normal a w
theorem Zas (h : Run P X N Q ks s) : Run P X N Q (.code .skip :: ks) s := ⟨fun hN a w hc => wp_skip (h.out hN a w hc)⟩
theorem Zae {x y : Code} (h : Run P X N Q (.code x :: .code y :: ks) s) : Run P X N Q (.code (.seq x y) :: ks) s := ⟨fun hN a w hc =>
 wp_seq (wp_mono (h.out hN a w hc) fun e a w q => by cases e <;> exact q)⟩
theorem Zau {id : Nat} {c : Code} (h : Run P X N Q (.code c :: .blk id :: ks) s) : Run P X N Q (.code (.block id c) :: ks) s := ⟨fun hN a w hc => wp_block (h.out hN a w hc)⟩
theorem Zbx {id : Nat} (h : Run P X N Q ks s) : Run P X N Q (.blk id :: ks) s := ⟨fun hN a w hc => h.out hN a w hc⟩
theorem Zan {R : Sta → Prop} (h : R s) : Run P X N Q (.again R :: ks) s := ⟨fun _ a w hc => ⟨s, h, hc⟩⟩
def Zsm (id : Nat) : List Itm → Option (List Itm)
 | [] => none
 | .blk i :: ks => if id = i then some ks else Zsm id ks
 | _ :: ks => Zsm id ks
theorem Ziw {id : Nat} {a : Act} {w : World} : ∀ {ks ks' : List Itm}, Zsm id ks = some ks' → post P X Q ks' .normal a w → post P X Q ks (.exit id) a w
 | [], _, h, _ => by simp [Zsm] at h
 | .blk i :: ks, ks', h, hp => by
  simp only [Zsm] at h
  simp only [post, Exit.inBlock]
  split at h
  ·rename_i e; subst e; simp only [Option.some.injEq] at h; subst h; rw [if_pos rfl]; exact hp
  ·rename_i e; rw [if_neg e]; exact Ziw h hp
 | .code _ :: ks, ks', h, hp => Ziw (ks := ks) (by simpa [Zsm] using h) hp
 | .again _ :: ks, ks', h, hp => Ziw (ks := ks) (by simpa [Zsm] using h) hp
 | .ops _ _ :: ks, ks', h, hp => Ziw (ks := ks) (by simpa [Zsm] using h) hp
theorem Ze7 {id : Nat} {ks' : List Itm} (hl : Zsm id ks = some ks') (h : Run P X N Q ks' s) : Run P X N Q (.code (.exit id) :: ks) s := ⟨fun hN a w hc => wp_exit (Ziw hl (h.out hN a w hc))⟩
theorem Zk6 {a : Act} {w : World} : ∀ {ks : List Itm}, Q .ret a w → post P X Q ks .ret a w
 | [], h => h
 | .blk _ :: ks, h => Zk6 (ks := ks) h
 | .code _ :: ks, h => Zk6 (ks := ks) h
 | .again _ :: ks, h => Zk6 (ks := ks) h
 | .ops _ _ :: ks, h => Zk6 (ks := ks) h
theorem Ygs (h : ∀ a w, Conc X s a w → Q .ret a w) : Run P X N Q (.code .ret :: ks) s := ⟨fun _ a w hc => wp_ret (Zk6 (h a w hc))⟩
theorem Zs0 (h : ∀ a w, Conc X s a w → Q .normal a w) : Run P X N Q [] s := ⟨fun _ a w hc => h a w hc⟩
theorem Yme {a : Act} {w : World} {c : Operand} {b : Bool} (hc : Conc X s a w) (h : s.ev c = .dat (.val (.bool b))) : a.eval c = .bool b := by
 obtain ⟨ρ, hc⟩ := hc
 have := hc.ev c
 rw [h] at this
 unfold VR Rep at this
 exact this.1
theorem Znj {c : Operand} {x y : Code} {b : Bool} (h : s.ev c = .dat (.val (.bool b))) (ht : b = true → Run P X N Q (.code x :: ks) s) (hf : b = false → Run P X N Q (.code y :: ks) s) : Run P X N Q (.code (.cond c x y) :: ks) s := ⟨fun hN a w hc =>
 wp_cond_split (Yme hc h) (fun e => (ht e).out hN a w hc) (fun e => (hf e).out hN a w hc)⟩
theorem Zam {c : Operand} {x y : Code} {b : Bool} (h : s.ev c = .dat (.val (.bool b))) (hb : b = true) (ht : Run P X N Q (.code x :: ks) s) : Run P X N Q (.code (.cond c x y) :: ks) s := Znj h (fun _ => ht) (fun e => by rw [hb] at e; cases e)
theorem Zak {c : Operand} {x y : Code} {b : Bool} (h : s.ev c = .dat (.val (.bool b))) (hb : b = false) (hf : Run P X N Q (.code y :: ks) s) : Run P X N Q (.code (.cond c x y) :: ks) s := Znj h (fun e => by rw [hb] at e; cases e) (fun _ => hf)
theorem Zab {id : Nat} {ops : Array Oper} (h : Run P X N Q (.ops ops (List.range ops.size) :: ks) s) : Run P X N Q (.code (.region id ops false) :: ks) s := ⟨fun hN a w hc => wp_region (h.out hN a w hc)⟩
theorem Zac {ops : Array Oper} (h : Run P X N Q ks s) : Run P X N Q (.ops ops [] :: ks) s := ⟨fun hN a w hc => h.out hN a w hc⟩
theorem Zi1 {ops : Array Oper} {o : Oper} {tmps : Array Value} (hg : o.guard = none) : Region.wanted o (yielded ops tmps) = true := by simp [Region.wanted, hg]
def Zhy (ops : Array Oper) (s : Sta) (g : Nat × Bool) : Option Bool :=
 match (ops[g.1]?).bind (·.dst) with
 | some t => match s.tm t with
  | .dat (.val (.bool b)) => some (b == g.2)
  | .dat (.tup []) => some false
  | _ => none
 | none => none
theorem Zhk {ops : Array Oper} {g : Nat × Bool} {b : Bool} (h : Zhy ops s g = some b) {a : Act} {w : World} (hc : Conc X s a w) {o : Oper} (hg : o.guard = some g) : Region.wanted o (yielded ops a.tmps) = b := by
 obtain ⟨ρ, hc⟩ := hc
 unfold Zhy at h
 split at h
 ·rename_i t ht
  have h2 := hc.tmps t
  split at h
  ·rename_i b' hb'
   rw [hb'] at h2
   unfold VR Rep at h2
   simp only [Option.some.injEq] at h
   obtain ⟨g1, g2⟩ := g
   have h3 : a.tmps[t]? = some (.bool b') := by
    have h4 := h2.1
    rw [Array.getD_eq_getD_getElem?] at h4
    cases hq : a.tmps[t]? with
    | none => rw [hq] at h4; simp [undef] at h4
    | some v => rw [hq] at h4; simp at h4; rw [h4]
   simp only [Region.wanted, hg, yielded, ht, Option.bind_some, h3]
   simp only [← h]
   cases b' <;> cases g2 <;> rfl
  ·rename_i hb'
   rw [hb'] at h2
   unfold VR Rep at h2
   obtain ⟨xs, h4, h5⟩ := h2
   simp only [Option.some.injEq] at h
   have h6 : xs = [] := by
    cases xs with
    | nil => rfl
    | cons x xs => unfold Reps at h5; cases h5
   rw [h6, Array.getD_eq_getD_getElem?] at h4
   obtain ⟨g1, g2⟩ := g
   subst h
   cases hq : a.tmps[t]? with
   | none => simp only [Region.wanted, hg, yielded, ht, Option.bind_some, hq]; rfl
   | some v =>
    rw [hq] at h4
    simp only [Option.getD_some] at h4
    simp only [Region.wanted, hg, yielded, ht, Option.bind_some, hq, h4]; rfl
  ·cases h
 ·cases h
theorem Yb6 {ops : Array Oper} {i : Nat} {rem : List Nat} {o : Oper} (ho : ops[i]? = some o) {g : Nat × Bool} (hg : o.guard = some g) (hb : Zhy ops s g = some false) (hd : Za7 X.N o.dst = true) (h : Run P X N Q (.ops ops rem :: ks) (s.put o.dst (.dat (.tup [])))) : Run P X N Q (.ops ops (i :: rem) :: ks) s := ⟨fun hN a w hc => by
 show wpOps P ops (post P X Q ks) (i :: rem) a w
 simp only [wpOps, ho]
 rw [if_neg (by rw [Zhk hb hc hg]; simp)]
 obtain ⟨ρ, hc⟩ := hc
 exact h.out hN _ _ ⟨ρ, hc.putO hd (by unfold VR Rep; exact ⟨[], rfl, by unfold Reps; rfl⟩)⟩⟩
theorem Yjn (p : Nat → Prop) : ∀ n, p n → ∃ k, p k ∧ ∀ j, p j → k ≤ j := by
 intro n
 induction n using Nat.strongRecOn with
 | _ n ih =>
  intro hn
  by_cases h : ∃ j, j < n ∧ p j
  ·obtain ⟨j, hj, hp⟩ := h; exact ih j hj hp
  ·exact ⟨n, hn, fun j hj => Nat.le_of_not_lt fun hlt => h ⟨j, hlt, hj⟩⟩
theorem Ykm {c : Code} {ι : Type} (inv : ι → Sta) (m : ι → Nat) (i0 : ι) (h0 : ∀ a w, Conc X s a w → Conc X (inv i0) a w)
  (h : ∀ i, Run P X N Q (.code c :: .again (fun s' => ∃ j, m j < m i ∧ ∀ a w, Conc X s' a w → Conc X (inv j) a w) :: ks) (inv i)) : Run P X N Q (.code (.loop c) :: ks) s := by
 classical
 refine ⟨fun hN a w hc => ?_⟩
 show (Code.loop c).wp P (post P X Q ks) a w
 let D : Act → World → Nat → Prop := fun a w n => ∃ i, m i = n ∧ Conc X (inv i) a w
 have hmin : ∀ a w, (∃ n, D a w n) → ∃ k, D a w k ∧ ∀ j, D a w j → k ≤ j := fun a w ⟨n, hn⟩ => Yjn (D a w) n hn
 let μ : Act → World → Nat := fun a w => if h : ∃ n, D a w n then Classical.choose (hmin a w h) else 0
 have hle : ∀ a w i, Conc X (inv i) a w → μ a w ≤ m i := by
  intro a w i hi
  have hex : ∃ n, D a w n := ⟨m i, i, rfl, hi⟩
  show (if h : ∃ n, D a w n then Classical.choose (hmin a w h) else 0) ≤ m i
  rw [dif_pos hex]
  exact (Classical.choose_spec (hmin a w hex)).2 _ ⟨i, rfl, hi⟩
 refine wp_loop (fun a w => ∃ i, Conc X (inv i) a w) μ ⟨i0, h0 a w hc⟩ ?_
 rintro a w ⟨i, hi⟩
 have hex : ∃ n, D a w n := ⟨m i, i, rfl, hi⟩
 obtain ⟨j, hj1, hj2⟩ := (Classical.choose_spec (hmin a w hex)).1
 have hμ : μ a w = m j := by
  show (if h : ∃ n, D a w n then Classical.choose (hmin a w h) else 0) = m j
  rw [dif_pos hex, hj1]
 have := (h j).out hN a w hj2
 refine wp_mono this ?_
 intro e a' w' q
 cases e with
 | normal =>
  obtain ⟨s', ⟨i', hlt, himp⟩, hc'⟩ := q
  have hc2 := himp a' w' hc'
  exact ⟨⟨i', hc2⟩, by rw [hμ]; exact Nat.lt_of_le_of_lt (hle a' w' i' hc2) hlt⟩
 | _ => exact q
theorem Zdm (h0 : ∀ a w, Conc X s a w → Conc X s' a w) (h : Run P X N Q ks s') : Run P X N Q ks s := ⟨fun hN a w hc => h.out hN a w (h0 a w hc)⟩
end
section
variable {P : Program}
def Yei (ds : List PD) : Nat → AV := fun i => match ds[i]? with | some d => .dat d | none => .any
def Zh8 (ds : List PD) : Sta := { tm := Yei ds, tb := fun _ => none }
def Yb3 (P : Program) (fn : Func) (r : PD) (s : Sta) : Prop := ∀ X a w, Conc X s a w → ∃ v, (results fn a.tmps).run P w = .ok v w ∧ ∀ ρ, ConcAt X s a w ρ → Rep w (FF X w s.tb ρ) r v
theorem Zgp {fn : Func} {tmps : Array Value} {R : Ending → World → Prop} : ∀ {ds : List Deferred}, (∀ d ∈ ds, Zri P d) → ∀ {w : World}, (∀ w', Below w.heap.size w w' → ∃ v, (results fn tmps).run P w' = .ok v w' ∧ R (.returned v) w') → Leaves P fn tmps R ds .returning w
 | [], _, w, H => by
  obtain ⟨v, h1, h2⟩ := H w (Below.refl _ _)
  exact ⟨v, h1, h2⟩
 | d :: ds, h, w, H => by
  obtain ⟨fv, cap, f, args, h1, h2, h3⟩ := h d (List.mem_cons_self ..)
  refine ⟨by simp, fv, cap, f, args, h1, h2 w, (h3 .returning w).mono ?_⟩
  rintro e u' w' ⟨rfl, ⟨v, rfl⟩, hb⟩
  exact Zgp (fun d hd => h d (List.mem_cons_of_mem _ hd)) fun w'' hb' => H w'' (hb.trans (hb'.mono hb.size))
theorem Zaa {f : FuncId} {fn : Func} {c : Code} {N : Nat} {ds : List PD} {r : PD} (hf : P.funcs[f]? = some fn) (hb : fn.body = some c) (hN : fn.ntmps = N) (hle : (Nat.ble ds.length N && Nat.ble N 1000) = true)
  (h : ∀ (X : Base), Run P X N (fun e a w => (e = .normal ∨ e = .ret) ∧ ∃ s, Yb3 P fn r s ∧ Conc X s a w) [.code c] (Zh8 ds)) : PCall P f ds r := by
 intro w F vs hF hvs
 refine calls_of_wp_defers hf hb ?_
 have hlen := hvs.length
 simp only [Bool.and_eq_true] at hle
 have hle1 := Nat.le_of_ble_eq_true hle.2
 have hle := Nat.le_of_ble_eq_true hle.1
 let X : Base := { w0 := w, F0 := F, L := fun _ => False, B := w.heap.size, N := N, P := P, rv := fun _ => undef, hF0 := hF, hB := Nat.le_refl _, hN := hle1, hLB := fun b h => h.elim }
 have hsz : vs.toArray.size = ds.length := by simpa using hlen
 have hc : Conc X (Zh8 ds) { tmps := vs.toArray ++ Array.replicate (fn.ntmps - vs.toArray.size) undef, defers := [] } w := by
  refine ⟨fun _ => RV.of undef, by simp [X]; omega, (fun d hd => by cases hd), Bel.refl X, fun t => ?_, fun k x hx => by simp [Zh8] at hx, fun k k' b hk => by simp [Zh8, Za6] at hk, fun k _ hk => by simp [Zh8, Za6] at hk⟩
  show VR _ _ _ _ (Yei ds t) _
  unfold Yei
  cases hd : ds[t]? with
  | none => simp only; unfold VR; trivial
  | some d =>
   simp only
   obtain ⟨v, hv, hr⟩ := hvs.at_ hd
   have hlt : t < vs.length := (List.getElem?_eq_some_iff.1 hv).1
   have : (vs.toArray ++ Array.replicate (fn.ntmps - vs.toArray.size) undef).getD t undef = v := by
    rw [Array.getD_eq_getD_getElem?, Array.getElem?_append_left (by simpa using hlt)]
    simp [hv]
   rw [this]
   unfold VR
   exact hr.keep (fun _ _ => rfl) (fun b hb => ⟨.inl hb, hF b hb, fun k hk => by simp [Zh8, Za6] at hk⟩)
 have hrun := (h X).out ⟨rfl, rfl⟩ _ _ hc
 refine wp_mono hrun ?_
 rintro e a' w' ⟨he, s', hres, hcon⟩
 have hpost : Leaves P fn a'.tmps (fun e w' => ∃ u, e = .returned u ∧ Below w.heap.size w w' ∧ Rep w' (fun b => F b ∨ (w.heap.size ≤ b ∧ b < w'.heap.size)) r u) a'.defers .returning w' := by
  obtain ⟨ρ0, hρ0⟩ := hcon
  refine Zgp hρ0.defers fun w'' hb'' => ?_
  obtain ⟨v, hv, hrep⟩ := hres X a' w'' ⟨ρ0, hρ0.grow hb''⟩
  have hρ := hρ0.grow hb''
  refine ⟨v, hv, v, rfl, ⟨hρ.below.os, hρ.below.tape, hρ.below.output, hρ.below.size, fun b hb => hρ.below.block b hb (fun h => h)⟩, (hrep ρ0 hρ).keep (fun _ _ => rfl) ?_⟩
  intro b hb
  rcases hb.1 with h1 | h1 | h1
  ·exact .inl h1
  ·exact .inr ⟨h1, hb.2.1⟩
  ·exact h1.elim
 rcases he with rfl | rfl <;> exact hpost
end
end Go.Proofs.YtgmahieoiifpfaaGreat
namespace Go.Proofs.YtgmahieoiifpfaaGreat
open Go.RowKit
section
variable {P : Program} {X : Base} {N : Nat} {Q : Exit → Act → World → Prop} {s s' : Sta} {ks : List Itm} {ops : Array Oper} {rem : List Nat}
structure Yp6 (P : Program) (X : Base) (N : Nat) (Q : Exit → Act → World → Prop) (ops : Array Oper) (rem : List Nat) (ks : List Itm) (o : Oper) (s : Sta) : Prop where
 out : X.at P N → ∀ a w, Conc X s a w → o.wp P a w (wpOps P ops (post P X Q ks) rem) (post P X Q ks)
theorem ro {o : Oper} (hs : OpS P X o s s') (h : Run P X N Q (.ops ops rem :: ks) s') : Yp6 P X N Q ops rem ks o s := ⟨fun hN a w hc => hs a w hc _ _ fun a' w' hc' => h.out hN a' w' hc'⟩
theorem Ykn {i : Nat} {d : Option Tmp} {op : Op} {ty : TypeId} {pos : String} {aft : Array Edge} (ho : ops[i]? = some ⟨d, op, ty, pos, aft, none⟩) (h : Yp6 P X N Q ops rem ks ⟨d, op, ty, pos, aft, none⟩ s) : Run P X N Q (.ops ops (i :: rem) :: ks) s := ⟨fun hN a w hc => by
 show wpOps P ops (post P X Q ks) (i :: rem) a w
 simp only [wpOps, ho]
 rw [if_pos (Zi1 rfl)]
 exact .inl (h.out hN a w hc)⟩
def Zkl (ops : Array Oper) (s : Sta) (g : Nat) : AV :=
 match (ops[g]?).bind (·.dst) with
 | some t => s.tm t
 | none => .any
theorem Ygr {i : Nat} {d : Option Tmp} {op : Op} {ty : TypeId} {pos : String} {aft : Array Edge} {g : Nat} {want b : Bool} (ho : ops[i]? = some ⟨d, op, ty, pos, aft, some (g, want)⟩)
  (hb : Zkl ops s g = .dat (.val (.bool b)))
  (ht : b = want → Yp6 P X N Q ops rem ks ⟨d, op, ty, pos, aft, none⟩ s) (hd : Za7 X.N d = true) (hf : b = !want → Run P X N Q (.ops ops rem :: ks) (s.put d (.dat (.tup [])))) :
  Run P X N Q (.ops ops (i :: rem) :: ks) s := by
 refine ⟨fun hN a w hc => ?_⟩
 have hgo : Zhy ops s (g, want) = some (b == want) := by
  unfold Zkl at hb
  unfold Zhy
  simp only
  cases hq : (ops[g]?).bind (·.dst) with
  | none => rw [hq] at hb; simp at hb
  | some t => rw [hq] at hb; simp only at hb; simp only [hb]
 by_cases hbw : b = want
 ·subst hbw
  have h1 := (ht rfl).out hN a w hc
  show wpOps P ops (post P X Q ks) (i :: rem) a w
  simp only [wpOps, ho]
  rw [if_pos (Zhk (b := true) (by rw [hgo]; simp) hc (o := ⟨d, op, ty, pos, aft, some (g, b)⟩) rfl)]
  exact .inl h1
 ·have e : (b == want) = false := by cases b <;> cases want <;> simp_all
  have e' : b = !want := by cases b <;> cases want <;> simp_all
  exact (Yb6 (o := ⟨d, op, ty, pos, aft, some (g, want)⟩) ho rfl (by rw [hgo, e]) hd (hf e')).out hN a w hc
theorem Yb9 {i : Nat} {d : Option Tmp} {op : Op} {ty : TypeId} {pos : String} {aft : Array Edge} {g : Nat} {want b : Bool} (ho : ops[i]? = some ⟨d, op, ty, pos, aft, some (g, want)⟩) (hb : Zkl ops s g = .dat (.val (.bool b))) (hw : b = want)
  (ht : Yp6 P X N Q ops rem ks ⟨d, op, ty, pos, aft, none⟩ s) : Run P X N Q (.ops ops (i :: rem) :: ks) s := by
 refine ⟨fun hN a w hc => ?_⟩
 have hgo : Zhy ops s (g, want) = some true := by
  unfold Zkl at hb
  unfold Zhy
  simp only
  cases hq : (ops[g]?).bind (·.dst) with
  | none => rw [hq] at hb; simp at hb
  | some t => rw [hq] at hb; simp only at hb; simp [hb, hw]
 show wpOps P ops (post P X Q ks) (i :: rem) a w
 simp only [wpOps, ho]
 rw [if_pos (Zhk (b := true) hgo hc (o := ⟨d, op, ty, pos, aft, some (g, want)⟩) rfl)]
 exact .inl (ht.out hN a w hc)
theorem Yb8 {i : Nat} {d : Tmp} {op : Op} {ty : TypeId} {pos : String} {aft : Array Edge} {g : Nat} {want b : Bool} (ho : ops[i]? = some ⟨some d, op, ty, pos, aft, some (g, want)⟩) (hb : Zkl ops s g = .dat (.val (.bool b))) (hw : b = !want)
  (hd : Za7 X.N (some d) = true) (hf : Run P X N Q (.ops ops rem :: ks) (s.put (some d) (.dat (.tup [])))) : Run P X N Q (.ops ops (i :: rem) :: ks) s :=
 Ygr ho hb (fun e => by rw [e] at hw; cases want <;> cases hw) hd (fun _ => hf)
theorem Zo4 {o : Oper} (hd : Za7 X.N o.dst = true) {op : BinOp} {t t' : TypeId} {x y : Operand} (ho : o.op = .binOp op t x y t') {u v r : Value} (hx : s.ev x = .dat (.val u)) (hy : s.ev y = .dat (.val v))
  (h : ∀ w, (do eqGuard op t x y u v; binOp op t u v : Sem Value).run P w = .ok r w) (hr : okV r) : OpS P X o s (s.put o.dst (.dat (.val r))) := by
 refine Zat hd fun a w ρ hc => ⟨r, ?_, by unfold VR Rep; exact ⟨rfl, hr⟩⟩
 have h1 := hc.ev x
 have h2 := hc.ev y
 rw [hx] at h1
 rw [hy] at h2
 unfold VR Rep at h1 h2
 have h3 := h w
 simp only [Sem.run_bind] at h3
 simp only [execOp, ho, h1.1, h2.1, Sem.run_bind]
 rw [h3]
 rfl
def Ymb : BinOp → Value → Value → Option Value
 | .eql, .int k a, .int k' b => if k = k' then some (.bool (decide (a = b))) else none
 | .neq, .int k a, .int k' b => if k = k' then some (.bool (decide (a ≠ b))) else none
 | .lss, .int k a, .int k' b => if k = k' then some (.bool (decide (a < b))) else none
 | .leq, .int k a, .int k' b => if k = k' then some (.bool (decide (a ≤ b))) else none
 | .gtr, .int k a, .int k' b => if k = k' then some (.bool (decide (b < a))) else none
 | .geq, .int k a, .int k' b => if k = k' then some (.bool (decide (b ≤ a))) else none
 | .eql, .string a, .string b => some (.bool (decide (a = b)))
 | .neq, .string a, .string b => some (.bool (decide (a ≠ b)))
 | .lss, .string a, .string b => some (.bool (blt a b))
 | .gtr, .string a, .string b => some (.bool (!(blt a b || decide (a = b))))
 | _, _, _ => none
theorem Ymc {op : BinOp} {u v r : Value} (h : Ymb op u v = some r) : okV r := by
 unfold Ymb at h
 split at h <;> first | (split at h <;> first | (simp at h; subst h; trivial) | cases h) | (simp at h; subst h; trivial) | cases h
theorem Yer (a b : Int) : (a == b) = decide (a = b) := by
 by_cases h : a = b <;> simp [h]
theorem Ynp (a b : Int) : (a != b) = decide (a ≠ b) := by
 by_cases h : a = b <;> simp [h, bne]
theorem Yki {op : BinOp} {u v r : Value} (h : Ymb op u v = some r) (t : TypeId) (x y : Operand) (w : World) : (do eqGuard op t x y u v; binOp op t u v : Sem Value).run P w = .ok r w := by
  unfold Ymb at h
  split at h
  all_goals first
    | (split at h
       · rename_i e; subst e; simp only [Option.some.injEq] at h; subst h; simp [eqGuard, binOp, Op.intCmp, go_sem, Yer, Ynp]
       · cases h)
    | (simp only [Option.some.injEq] at h; subst h; simp [eqGuard, binOp, Op.stringOp, go_sem, Yh3, blt])
    | cases h
theorem Yfg {o : Oper} (hd : Za7 X.N o.dst = true) {op : BinOp} {t t' : TypeId} {x y : Operand} (ho : o.op = .binOp op t x y t') {u v r : Value} (hx : s.ev x = .dat (.val u)) (hy : s.ev y = .dat (.val v)) (h : Ymb op u v = some r) :
  OpS P X o s (s.put o.dst (.dat (.val r))) := Zo4 hd ho hx hy (Yki h t x y) (Ymc h)
def ari (op : BinOp) (a b : Int) : Option Int :=
 match op with
 | .add => some (a + b)
 | .sub => some (a - b)
 | .mul => some (a * b)
 | _ => none
theorem Yhi (k : IntKind) (n : Int) : (Lit.int k (k.wrap n)).wf = true := by
 cases k <;> simp [Lit.wf, IntKind.wrap, IntKind.min, IntKind.max, IntKind.bits, IntKind.signed] <;> omega
theorem Yrq {o : Oper} (hd : Za7 X.N o.dst = true) {op : BinOp} {t t' : TypeId} {x y : Operand} (ho : o.op = .binOp op t x y t') {k : IntKind} {a b c : Int} (hx : s.ev x = .dat (.val (.int k a))) (hy : s.ev y = .dat (.val (.int k b))) (h : ari op a b = some c) :
  OpS P X o s (s.put o.dst (.dat (.val (.int k (k.wrap c))))) := by
 refine Zo4 hd ho hx hy (fun w => ?_) (Yhi k c)
 unfold ari at h
 split at h <;> simp only [Option.some.injEq, reduceCtorEq] at h <;> subst h <;> simp [eqGuard, binOp, Op.intArith, go_sem]
theorem Yff {o : Oper} (hd : Za7 X.N o.dst = true) {op : BinOp} {t t' : TypeId} {x y : Operand} (ho : o.op = .binOp op t x y t') {a b c : Int} (hx : s.ev x = .dat (.val (.int .i64 a))) (hy : s.ev y = .dat (.val (.int .i64 b))) (h : ari op a b = some c)
  (h1 : -9223372036854775808 ≤ c ∧ c ≤ 9223372036854775807) : OpS P X o s (s.put o.dst (.dat (.val (.int .i64 c)))) := by
 have := Yrq (P := P) hd ho hx hy h
 rwa [IntWalk.i64_in c h1] at this
theorem Ylt {o : Oper} (hd : Za7 X.N o.dst = true) {t : TypeId} {x : Operand} (ho : o.op = .unOp .not t x) {b : Bool} (hx : s.ev x = .dat (.val (.bool b))) : OpS P X o s (s.put o.dst (.dat (.val (.bool (!b))))) := by
 refine Zat hd fun a w ρ hc => ⟨.bool (!b), ?_, by unfold VR Rep; exact ⟨rfl, trivial⟩⟩
 have h1 := hc.ev x
 rw [hx] at h1
 unfold VR Rep at h1
 simp [execOp, ho, h1.1, Op.unary]
theorem Yfy {o : Oper} (hd : Za7 X.N o.dst = true) {c x y : Operand} (ho : o.op = .pick c x y) {b : Bool} (hc : s.ev c = .dat (.val (.bool b))) {r : AV} (hx : b = true → s.ev x = r) (hy : b = false → s.ev y = r) : OpS P X o s (s.put o.dst r) := by
 refine Zat hd fun a w ρ hcc => ⟨if b then a.eval x else a.eval y, ?_, ?_⟩
 ·have h1 := hcc.ev c
  rw [hc] at h1
  unfold VR Rep at h1
  simp [execOp, ho, h1.1, asBool]
 ·cases b with
  | true => rw [← hx rfl]; exact hcc.ev x
  | false => rw [← hy rfl]; exact hcc.ev y
theorem Zz1 {o : Oper} (hd : Za7 X.N o.dst = true) {x : Operand} (ho : o.op = .move x) {d : PD} (hx : s.ev x = .dat d) : OpS P X o s (s.put o.dst (.dat d)) := Zhc hd ho hx
theorem Zz3 {o : Oper} (hd : Za7 X.N o.dst = true) {x : Operand} (ho : o.op = .move x) {k off : Nat} (hx : s.ev x = .ptr k off) : OpS P X o s (s.put o.dst (.ptr k off)) := Zhc hd ho hx
theorem Zz2 {o : Oper} (hd : Za7 X.N o.dst = true) {x : Operand} (ho : o.op = .move x) {k : Nat} (hx : s.ev x = .own k) : OpS P X o s (s.put o.dst (.own k)) := Zhc hd ho hx
theorem Zqx {o : Oper} (hd : Za7 X.N o.dst = true) {x : Operand} (ho : o.op = .assign x) {d : PD} (hx : s.ev x = .dat d) : OpS P X o s (s.put o.dst (.dat d)) := Zhp hd ho hx
theorem Zqy {o : Oper} (hd : Za7 X.N o.dst = true) {x : Operand} (ho : o.op = .assign x) {k off : Nat} (hx : s.ev x = .ptr k off) : OpS P X o s (s.put o.dst (.ptr k off)) := Zhp hd ho hx
theorem Ybs {o : Oper} (hd : Za7 X.N o.dst = true) {x : Operand} (ho : o.op = .assign x) {k : Nat} (hx : s.ev x = .own k) : OpS P X o s (s.put o.dst (.own k)) := Zhp hd ho hx
theorem Zz5 {o : Oper} (hd : Za7 X.N o.dst = true) {c x y : Operand} (ho : o.op = .pick c x y) {b : Bool} (hc : s.ev c = .dat (.val (.bool b))) (hb : b = true) {d : PD} (hx : s.ev x = .dat d) : OpS P X o s (s.put o.dst (.dat d)) :=
 Yfy hd ho hc (fun _ => hx) (fun e => by rw [hb] at e; cases e)
theorem Zz4 {o : Oper} (hd : Za7 X.N o.dst = true) {c x y : Operand} (ho : o.op = .pick c x y) {b : Bool} (hc : s.ev c = .dat (.val (.bool b))) (hb : b = false) {d : PD} (hy : s.ev y = .dat d) : OpS P X o s (s.put o.dst (.dat d)) :=
 Yfy hd ho hc (fun e => by rw [hb] at e; cases e) (fun _ => hy)
theorem Zvd {o : Oper} (hd : Za7 X.N o.dst = true) {t : TypeId} {x : Operand} (ho : o.op = .load t x) {k off : Nat} (hx : s.ev x = .ptr k off) {T : TypeId} {cs : List AV} (hk : s.tb k = some (.box T cs))
  {n : Nat} {g : Bool} (ht : Zp1 P t = some (n, g)) {d : PD} (hf : Zrb g n off cs = some (.dat d)) : OpS P X o s (s.put o.dst (.dat d)) := Zh2 hd ho hx hk ht hf
theorem Yfu {o : Oper} (hd : Za7 X.N o.dst = true) {t : TypeId} {x : Operand} (ho : o.op = .load t x) {k off : Nat} (hx : s.ev x = .ptr k off) {T : TypeId} {cs : List AV} (hk : s.tb k = some (.box T cs))
  {n : Nat} {g : Bool} (ht : Zp1 P t = some (n, g)) {k' off' : Nat} (hf : Zrb g n off cs = some (.ptr k' off')) : OpS P X o s (s.put o.dst (.ptr k' off')) := Zh2 hd ho hx hk ht hf
theorem Zve {o : Oper} (hd : Za7 X.N o.dst = true) {t : TypeId} {x : Operand} (ho : o.op = .load t x) {k off : Nat} (hx : s.ev x = .ptr k off) {T : TypeId} {cs : List AV} (hk : s.tb k = some (.box T cs))
  {n : Nat} {g : Bool} (ht : Zp1 P t = some (n, g)) {k' : Nat} (hf : Zrb g n off cs = some (.own k')) : OpS P X o s (s.put o.dst (.own k')) := Zh2 hd ho hx hk ht hf
theorem Yft {o : Oper} (hd : Za7 X.N o.dst = true) {t : TypeId} {x : Operand} (ho : o.op = .load t x) {k off : Nat} (hx : s.ev x = .ptr k off) {T : TypeId} {cs : List AV} (hk : s.tb k = some (.box T cs))
  {n : Nat} {g : Bool} (ht : Zp1 P t = some (n, g)) {l : List AV} (hf : Zrb g n off cs = some (.agg l)) : OpS P X o s (s.put o.dst (.agg l)) := Zh2 hd ho hx hk ht hf
def Yni (G : Nat → Bool) (off : Nat) : Option Blk → AV
 | some (.box t cs) => match off, Zi2 cs with
  | 0, some ds => if G t then .dat (.ptr (.agg ds)) else (match ds with | [d] => .dat (.ptr d) | _ => .any)
  | _, _ => .any
 | _ => .any
mutual
def Zjt (G : Nat → Bool) (K : Nat → Bool) (tb : Nat → Option Blk) : AV → AV
 | .any => .any
 | .dat d => .dat d
 | .ptr k off => if K k then Yni G off (tb k) else .ptr k off
 | .own k => if K k then (match tb k with | some (.row _ n y l) => .dat (.sl n y l) | some (.res R) => .dat R.d | _ => .any) else .own k
 | .agg l => Zpz (Zig G K tb l)
 | .tup l => Ye9 (Zig G K tb l)
 | .iface t x => Zxc t (Zjt G K tb x)
 | .clo f l => .clo f (Zig G K tb l)
 | .elt k n i off => if K k then .any else .elt k n i off
def Zig (G : Nat → Bool) (K : Nat → Bool) (tb : Nat → Option Blk) : List AV → List AV
 | [] => []
 | x :: r => Zjt G K tb x :: Zig G K tb r
end
def Yps (G : Nat → Bool) (K : Nat → Bool) (tb : Nat → Option Blk) : Blk → Blk
 | .box t cs => .box t (Zig G K tb cs)
 | .row e n y l => .row e n y l
 | .res R => .res R
 | .dead => .dead
def Sta.frz (s : Sta) (G : Nat → Bool) (K : Nat → Bool) : Sta := { tm := fun t => Zjt G K s.tb (s.tm t), tb := fun k => if K k then none else (s.tb k).map (Yps G K s.tb) }
theorem Zug (G K : Nat → Bool) (tb : Nat → Option Blk) (b : Blk) : (Yps G K tb b).kind = b.kind := by cases b <;> rfl
section
variable {w : World} {F F' : Nat → Prop} {tb tb' : Nat → Option Blk} {ρ : Nat → RV} {G K : Nat → Bool}
mutual
theorem Yiu (hs : ∀ b, F b → F' b) (hown : ∀ k v, VR w F tb ρ (.own k) v → K k = true → VR w F' tb' ρ (Zjt G K tb (.own k)) v) (hptr : ∀ k off v, VR w F tb ρ (.ptr k off) v → K k = true → VR w F' tb' ρ (Yni G off (tb k)) v)
  (hkeep : ∀ k x, tb k = some x → K k = false → tb' k = some (Yps G K tb x)) : ∀ (x : AV) {v : Value}, VR w F tb ρ x v → VR w F' tb' ρ (Zjt G K tb x) v
 | .any, v, _ => by unfold Zjt VR; trivial
 | .dat d, v, hv => by unfold Zjt; unfold VR at hv ⊢; exact hv.keep (fun _ _ => rfl) hs d
 | .ptr k off, v, hv => by
  by_cases hK : K k = true
  ·unfold Zjt; rw [if_pos hK]; exact hptr k off v hv hK
  ·unfold Zjt; rw [if_neg hK]
   unfold VR at hv ⊢
   obtain ⟨t, cs, b, h1, h2, h3⟩ := hv
   exact ⟨t, _, b, hkeep k _ h1 (by simpa using hK), h2, h3⟩
 | .own k, v, hv => by
  by_cases hK : K k = true
  ·exact hown k v hv hK
  ·unfold Zjt; rw [if_neg hK]
   unfold VR at hv ⊢
   refine ⟨hv.1, ?_⟩
   rcases hv.2 with ⟨x, h1, h2, h3⟩ | h1
   ·exact .inl ⟨_, hkeep k _ h1 (by simpa using hK), by rw [Zug]; exact h2, h3⟩
   ·exact .inr (hkeep k _ h1 (by simpa using hK))
 | .elt k n i off, v, hv => by
  by_cases hK : K k = true
  ·unfold Zjt; rw [if_pos hK]; unfold VR; trivial
  ·unfold Zjt; rw [if_neg hK]
   unfold VR at hv ⊢
   refine ⟨hv.1, ?_⟩
   rcases hv.2 with ⟨x, h1, h2, h3⟩ | h1
   ·exact .inl ⟨_, hkeep k _ h1 (by simpa using hK), by rw [Zug]; exact h2, h3⟩
   ·exact .inr (hkeep k _ h1 (by simpa using hK))
 | .agg l, v, hv => by
  unfold Zjt
  unfold VR at hv
  obtain ⟨vs, rfl, h1, h2⟩ := hv
  exact Zmx (Zqk hs hown hptr hkeep l h1) h2
 | .tup l, v, hv => by
  unfold Zjt
  unfold VR at hv
  obtain ⟨vs, rfl, h1⟩ := hv
  exact Zx5 (Zqk hs hown hptr hkeep l h1)
 | .iface t x, v, hv => by
  unfold Zjt
  unfold VR at hv
  obtain ⟨u, rfl, h1⟩ := hv
  exact Ya1 (Yiu hs hown hptr hkeep x h1)
 | .clo f l, v, hv => by
  unfold Zjt
  unfold VR at hv ⊢
  obtain ⟨vs, e, h1⟩ := hv
  exact ⟨vs, e, Zqk hs hown hptr hkeep l h1⟩
theorem Zqk (hs : ∀ b, F b → F' b) (hown : ∀ k v, VR w F tb ρ (.own k) v → K k = true → VR w F' tb' ρ (Zjt G K tb (.own k)) v) (hptr : ∀ k off v, VR w F tb ρ (.ptr k off) v → K k = true → VR w F' tb' ρ (Yni G off (tb k)) v)
  (hkeep : ∀ k x, tb k = some x → K k = false → tb' k = some (Yps G K tb x)) : ∀ (l : List AV) {vs : List Value}, VRs w F tb ρ l vs → VRs w F' tb' ρ (Zig G K tb l) vs
 | [], vs, hv => by unfold Zig; unfold VRs at hv ⊢; exact hv
 | x :: r, vs, hv => by
  unfold Zig
  unfold VRs at hv ⊢
  obtain ⟨v, r', e, h1, h2⟩ := hv
  exact ⟨v, r', e, Yiu hs hown hptr hkeep x h1, Zqk hs hown hptr hkeep r h2⟩
end
end
theorem ConcAt.frz {a : Act} {w : World} {ρ : Nat → RV} (h : ConcAt X s a w ρ) (G K : Nat → Bool) : ConcAt X (s.frz G K) a w ρ := by
 have hlv : ∀ k, Za6 ((s.frz G K).tb k) = true → Za6 (s.tb k) = true := by
  intro k hk
  simp only [Sta.frz] at hk
  split at hk
  ·cases hk
  ·cases hx : s.tb k with
   | none => rw [hx] at hk; cases hk
   | some x => rw [hx] at hk; cases x <;> first | rfl | cases hk
 have hlK : ∀ k, K k = true → Za6 ((s.frz G K).tb k) = false := by
  intro k hK
  simp [Sta.frz, hK, Za6]
 have hs : ∀ b, FF X w s.tb ρ b → FF X w (s.frz G K).tb ρ b := fun b hb => ⟨hb.1, hb.2.1, fun k hk => hb.2.2 k (hlv k hk)⟩
 have hnew : ∀ k x b, s.tb k = some x → x.live = true → K k = true → (ρ k).fp b → FF X w (s.frz G K).tb ρ b := by
  intro k x b hk hl hK hb
  obtain ⟨h1, h2⟩ := h.rowBlk hk hl hb
  refine ⟨.inr h1, h2, fun k' hk' e' => ?_⟩
  have := h.apart k' k b (hlv k' hk') (by rw [hk]; exact hl) e' hb
  subst this
  rw [hlK k' hK] at hk'; cases hk'
 have hown : ∀ k v, VR w (FF X w s.tb ρ) s.tb ρ (.own k) v → K k = true → VR w (FF X w (s.frz G K).tb ρ) (s.frz G K).tb ρ (Zjt G K s.tb (.own k)) v := by
  intro k v hv hK
  unfold Zjt
  rw [if_pos hK]
  unfold VR at hv
  rcases hv.2 with ⟨x, hk, hkd, e⟩ | hk
  ·subst e
   rw [hk]
   cases x with
   | box t cs => simp [Blk.kind] at hkd
   | dead => simp [Blk.kind] at hkd
   | res R =>
    obtain ⟨h1, h2⟩ := h.blks k _ hk
    simp only
    unfold VR
    exact R.frz _ _ _ _ _ hs (fun b hb => hnew k _ b hk rfl hK hb) h1
   | row e n y l =>
    obtain ⟨xs, h0, hm, h1, h2, h3, h4⟩ := h.blks k _ hk
    simp only
    unfold VR Rep
    rcases h1.2 with ⟨e1, e2⟩ | ⟨g, cap, cur, e1, hB, hg, hc1, _, hc2, hc3⟩
    ·exact ⟨none, 0, by rw [e1, e2], by omega, h3, h4, .inl (List.eq_nil_of_length_eq_zero e2)⟩
    ·refine ⟨some ⟨g, 0, none⟩, cap, e1, hc1, h3, h4, .inr ⟨g, 0, hnew k _ g hk rfl hK (by rw [h0, e1]; rfl), rfl, ?_⟩⟩
     refine (h2.keep (fun _ _ => rfl) hs).lies fun j u hj => ?_
     rw [cell_of_row w g (0 + j) _ _ _ hg]
     rw [← hc3, List.getElem?_take] at hj
     split at hj
     ·simpa using hj
     ·cases hj
  ·rw [hk]; unfold VR; trivial
 have hptr : ∀ k off v, VR w (FF X w s.tb ρ) s.tb ρ (.ptr k off) v → K k = true → VR w (FF X w (s.frz G K).tb ρ) (s.frz G K).tb ρ (Yni G off (s.tb k)) v := by
  intro k off v hv hK
  unfold VR at hv
  obtain ⟨t, cs, b, h1, h2, rfl⟩ := hv
  obtain ⟨b', vs, h2', hB, hb, hvs, hone⟩ := h.blks k _ h1
  have hρ2 : Value.pointer (some ⟨b, 0, none⟩) = .pointer (some ⟨b', 0, none⟩) := h2.symm.trans (congrArg RV.v h2')
  simp only [Value.pointer.injEq, Option.some.injEq, Addr.mk.injEq, and_true] at hρ2
  subst hρ2
  rw [h1]
  unfold Yni
  simp only
  split
  ·rename_i ds hds
   rw [Zfq hds] at hvs
   have hF' : FF X w (s.frz G K).tb ρ b := hnew k _ b h1 rfl hK (by rw [h2']; rfl)
   have hr := Reps.keep (w' := w) (fun _ _ => rfl) hs ds hvs.dat
   have hl := Zer hb 0
   split
   ·unfold VR Rep
    refine ⟨b, 0, .agg vs.toArray, rfl, hF', ?_, by simpa [Value.cells] using hl⟩
    unfold Rep
    exact ⟨vs, rfl, hr, hone⟩
   ·split
    ·rename_i d
     unfold Reps at hr
     obtain ⟨u, r', rfl, hu, hr'⟩ := hr
     unfold Reps at hr'
     subst hr'
     unfold VR Rep
     exact ⟨b, 0, u, rfl, hF', hu, by rw [Za8 (hone u (by simp))]; simpa using hl⟩
    ·unfold VR; trivial
  ·unfold VR; trivial
 have hkeep : ∀ k x, s.tb k = some x → K k = false → (s.frz G K).tb k = some (Yps G K s.tb x) := fun k x hx hK => by simp [Sta.frz, hx, hK]
 refine ⟨h.size, h.defers, h.below, fun t => Yiu hs hown hptr hkeep _ (h.tmps t), fun k x hx => ?_, fun k1 k2 b h1 h2 e1 e2 => h.apart k1 k2 b (hlv k1 h1) (hlv k2 h2) e1 e2, fun k' hk' hl' => h.lent k' hk' (hlv k' hl')⟩
 simp only [Sta.frz] at hx
 split at hx
 ·cases hx
 ·rename_i hK
  obtain ⟨y, hy, rfl⟩ := Option.map_eq_some_iff.1 hx
  have := h.blks k y hy
  cases y with
  | box t cs =>
   obtain ⟨b, vs, e, g1, g2, g3, g4⟩ := this
   exact ⟨b, vs, e, g1, g2, Zqk hs hown hptr hkeep _ g3, g4⟩
  | row e n y l =>
   obtain ⟨xs, g0, gm, g1, g2, g3, g4⟩ := this
   exact ⟨xs, g0, gm, g1, g2.keep (fun _ _ => rfl) hs, g3, g4⟩
  | res R =>
   exact ⟨R.keep _ _ _ _ _ _ (fun _ _ => rfl) hs (fun _ _ => rfl) this.1, this.2⟩
  | dead => trivial
theorem Zbj (G K : Nat → Bool) (h : Run P X N Q ks (s.frz G K)) : Run P X N Q ks s := Zdm (fun _ _ ⟨ρ, hc⟩ => ⟨ρ, hc.frz G K⟩) h
def PLe (d d' : PD) : Prop := ∀ (w : World) (F : Nat → Prop) (v : Value), Rep w F d v → Rep w F d' v
theorem PLe.refl (d : PD) : PLe d d := fun _ _ _ h => h
theorem PLe.of_eq {d d' : PD} (h : d = d') : PLe d d' := by subst h; exact PLe.refl _
theorem PLe.nil (n y : Nat) : PLe (.val (.slice none 0 0)) (.sl n y []) := fun w F v h => by
 unfold Rep at h ⊢
 exact ⟨none, 0, h.1, Nat.le_refl _, by simp, by simp, .inl rfl⟩
theorem PLe.agg {l l' : List PD} (hl : l.length = l'.length) (h : ∀ (i : Nat) (d d' : PD), l[i]? = some d → l'[i]? = some d' → PLe d d') : PLe (.agg l) (.agg l') := by
 have key : ∀ (l l' : List PD), l.length = l'.length → (∀ (i : Nat) (d d' : PD), l[i]? = some d → l'[i]? = some d' → PLe d d') → ∀ w F vs, Reps w F l vs → Reps w F l' vs := by
  intro l
  induction l with
  | nil => intro l' hl _ w F vs hv; cases l' with | nil => exact hv | cons _ _ => simp at hl
  | cons x r ih =>
   intro l' hl h w F vs hv
   cases l' with
   | nil => simp at hl
   | cons x' r' =>
    unfold Reps at hv ⊢
    obtain ⟨v, r'', e, hx, hr⟩ := hv
    exact ⟨v, r'', e, h 0 x x' rfl rfl w F v hx, ih r' (by simpa using hl) (fun i d d' h1 h2 => h (i + 1) d d' (by simpa using h1) (by simpa using h2)) w F r'' hr⟩
 intro w F v hv
 unfold Rep at hv ⊢
 obtain ⟨vs, e, hr, h1⟩ := hv
 exact ⟨vs, e, key l l' hl h w F vs hr, h1⟩
theorem Zaj {fn : Func} {t : Tmp} (hf : fn.results = #[.tmp t]) {d r : PD} (ht : s.tm t = .dat d) (hle : PLe d r) : Yb3 P fn r s := by
 intro X a w ⟨ρ0, hc0⟩
 refine ⟨a.tmps.getD t undef, results_tmp hf _ _ _, fun ρ hc => ?_⟩
 have := hc.tmps t
 rw [ht] at this
 unfold VR at this
 exact hle _ _ _ this
theorem Zi8 {fn : Func} {t u : Tmp} (hf : fn.results = #[.tmp t, .tmp u]) {d d' r r' : PD} (ht : s.tm t = .dat d) (hu : s.tm u = .dat d') (hle : PLe d r) (hle' : PLe d' r') : Yb3 P fn (.tup [r, r']) s := by
 intro X a w ⟨ρ0, hc0⟩
 refine ⟨_, results_tmp2 hf _ _ _, fun ρ hc => ?_⟩
 have h1 := hc.tmps t
 have h2 := hc.tmps u
 rw [ht] at h1
 rw [hu] at h2
 unfold VR at h1 h2
 unfold Rep
 refine ⟨[_, _], rfl, ?_⟩
 unfold Reps
 refine ⟨_, _, rfl, hle _ _ _ h1, ?_⟩
 unfold Reps
 exact ⟨_, _, rfl, hle' _ _ _ h2, by unfold Reps; rfl⟩
theorem Zag {fn : Func} {r : PD} (h : Yb3 P fn r s) : Run P X N (fun e a w => (e = .normal ∨ e = .ret) ∧ ∃ s, Yb3 P fn r s ∧ Conc X s a w) (.code .ret :: ks) s := Ygs fun _ _ hc => ⟨.inr rfl, s, h, hc⟩
end
end Go.Proofs.YtgmahieoiifpfaaGreat
namespace Go.Proofs.YtgmahieoiifpfaaGreat
open Go.RowKit
section
variable {X : Base} {s : Sta} {a : Act} {w w' : World} {ρ ρ' : Nat → RV} {P : Program}
def Zv6 (P : Program) (e : TypeId) : Option Nat :=
 match P.info? e with
 | some i => match i.zero with
  | some z => if z.cells.size = i.size then some i.size else none
  | none => none
 | none => none
theorem Zli {e n : Nat} (h : Zv6 P e = some n) : ∃ i z, P.info? e = some i ∧ i.zero = some z ∧ z.cells.size = n ∧ i.size = n := by
 unfold Zv6 at h
 split at h
 ·rename_i i hi
  split at h
  ·rename_i z hz
   split at h
   ·rename_i hs; simp only [Option.some.injEq] at h; subst h; exact ⟨i, z, hi, hz, hs, rfl⟩
   ·cases h
  ·cases h
 ·cases h
theorem Yom {o : Oper} (hd : Za7 X.N o.dst = true) {x : Operand} {t : TypeId} (ho : o.op = .call { callee := .builtin .len, args := #[x], argTypes := #[t] }) {e' n' y' : Nat} (ht : Zp0 P t = some (e', n', y')) (hx : s.ev x = .dat (.val (.slice none 0 0))) :
  OpS P X o s (s.put o.dst (.dat (.val (.int .i64 0)))) := by
 refine Zat hd fun a w ρ hc => ?_
 have h2 := hc.ev x
 rw [hx] at h2
 unfold VR Rep at h2
 obtain ⟨_, hu, _⟩ := Zcd ht
 refine ⟨.int .i64 0, ?_, by unfold VR Rep; exact ⟨rfl, by show (Lit.int .i64 0).wf = true; rfl⟩⟩
 simp [execOp, ho, resolve, invoke, builtin, h2.1, Zs2 hu, goInt]
theorem Zvf {o : Oper} {k : Nat} (hd : o.dst = some k) (hN : k < X.N) (hk : s.tb k = none) {t : TypeId} {lo hi : Operand} (ho : o.op = .makeSlice t lo hi) {kl kc : IntKind} {c : Nat}
  (hlo : s.ev lo = .dat (.val (.int kl 0))) (hhi : s.ev hi = .dat (.val (.int kc (c : Int)))) {e n y : Nat} (ht : Zp0 P t = some (e, n, y)) (hz : (Ypr P e).isSome = true) (hc : c * y ≤ 140737488351232) (hc' : c ≤ 140737488351232) :
  OpS P X o s (s.new k (.row e n y []) (.own k)) := by
 intro a w ⟨ρ, hcc⟩ K Q hK
 obtain ⟨inf, hu, hi1, hs1, hb1⟩ := Zcd ht
 obtain ⟨zs, hzz⟩ := Option.isSome_iff_exists.1 hz
 obtain ⟨i2, z, hi2, hz1, hz2⟩ := Zpv hzz
 rw [hi1] at hi2
 cases hi2
 have e1 := hcc.ev lo
 have e2 := hcc.ev hi
 rw [hlo] at e1
 rw [hhi] at e2
 unfold VR Rep at e1 e2
 obtain ⟨w', hr, hown, hg⟩ := run_make_own (P := P) w X.B t e inf z n hu hi1 hz1 hs1 kl kc c (by rw [hb1, Nat.mul_comm]; omega) (by unfold maxLen; omega) hcc.below.sizeB
 have hb : Below w.heap.size w w' := ⟨hg.os, hg.tape, hg.output, hg.size, fun k hk => hg.block k hk (by simp)⟩
 have hnew := hcc.newBlk (Nat.lt_of_lt_of_le hN X.hN) hk hb (blk := .row e n y []) (v := RV.of (.slice (some ⟨w.heap.size, 0, none⟩) 0 c)) (fun b e => by have e : some w.heap.size = some b := e; cases e; exact Nat.le_refl _) fun _ _ _ =>
  ⟨[], by rw [Zah]; rfl, (fun b e => by rw [Zah] at e; have e : some w.heap.size = some b := e; cases e; exact .inl hcc.below.size), by rw [Zah]; exact hown, rfl, by simp, by simp⟩
 refine Zdr (v := .slice (some ⟨w.heap.size, 0, none⟩) 0 c) (w' := w') (by simp [execOp, ho, e1.1, e2.1, hr]) ?_
 rw [hd]
 refine hK _ _ ⟨_, ConcAt.putNew hnew hN ?_⟩
 unfold VR
 exact ⟨rfl, .inl ⟨_, Zah _ _ _, .inl rfl, by rw [Zah]; rfl⟩⟩
def Zjj (s : Sta) (n : Nat) : Nat → List (Nat × Operand) → Option (List PD)
 | _, [] => some []
 | j, (i, x) :: r => if i = j then (match s.ev x with
   | .dat d => match Zc5 (.dat d) with
    | some cs => if cs.length = n then (Zjj s n (j + 1) r).map (d :: ·) else none
    | none => none
   | _ => none) else none
theorem Zq1 (hc : ConcAt X s a w ρ) {n : Nat} : ∀ {l : List (Nat × Operand)} {j : Nat} {ds : List PD}, Zjj s n j l = some ds →
  ∃ vs : List Value, l.map (fun (i, x) => (i, a.eval x)) = (vs.zipIdx j).map (fun x => (x.2, x.1)) ∧ vs.length = ds.length ∧ (∀ v ∈ vs, v.cells.size = n) ∧ Groups w (FF X w s.tb ρ) n ds (vs.flatMap fun v => v.cells.toList)
 | [], j, ds, h => by
  simp only [Zjj, Option.some.injEq] at h
  subst h
  exact ⟨[], rfl, rfl, by simp, rfl⟩
 | (i, x) :: r, j, ds, h => by
  simp only [Zjj] at h
  split at h
  ·rename_i e
   subst e
   split at h
   ·rename_i d hd
    split at h
    ·rename_i cs hcs
     split at h
     ·rename_i hlen
      obtain ⟨ds', h1, rfl⟩ := Option.map_eq_some_iff.1 h
      obtain ⟨vs, e1, e2, e3, e4⟩ := Zq1 hc h1
      have hv := hc.ev x
      rw [hd] at hv
      obtain ⟨g1, g2⟩ := hc.cells hv hcs
      have hl : (a.eval x).cells.toList.length = n := by rw [g1.length]; exact hlen
      refine ⟨a.eval x :: vs, ?_, by simp [e2], ?_, ?_⟩
      ·simp only [List.map_cons, e1, List.zipIdx_cons, List.map_cons]
      ·intro v hv'
       rcases List.mem_cons.1 hv' with rfl | hv'
       ·simpa using hl
       ·exact e3 v hv'
      ·unfold VR at hv
       exact ⟨a.eval x, _, rfl, hv, hl, g2, e4⟩
     ·cases h
    ·cases h
   ·cases h
  ·cases h
theorem Zky {o : Oper} {k : Nat} (hd : o.dst = some k) (hN : k < X.N) (hk : s.tb k = none) {t len : Nat} {parts : Array (Nat × Operand)} (ho : o.op = .buildSlice t len parts) {e n y : Nat} (ht : Zp0 P t = some (e, n, y)) (hz : Zv6 P e = some n)
  {ds : List PD} (hds : Zjj s n 0 parts.toList = some ds) (hlen : ds.length = len) (hn : Nat.blt 0 n = true) (hsm : Nat.ble (len * n) 16777216 = true) (hby : Nat.ble (len * y) 140737488351232 = true) :
  OpS P X o s (s.new k (.row e n y ds) (.own k)) := by
 intro a w ⟨ρ, hcc⟩ K Q hK
 have hn := (Nat.blt_eq.mp hn : 0 < n)
 have hsm := Nat.le_of_ble_eq_true hsm
 have hby := Nat.le_of_ble_eq_true hby
 obtain ⟨inf, hu, hi1, hs1, hb1⟩ := Zcd ht
 obtain ⟨i2, z, hi2, hz1, hz2, hz3⟩ := Zli hz
 rw [hi1] at hi2
 cases hi2
 obtain ⟨vs, e1, e2, e3, e4⟩ := Zq1 hcc hds
 have hflat : (vs.flatMap fun v => v.cells.toList).length = len * n := by rw [e4.length, hlen]
 have hvl : vs.length = len := e2.trans hlen
 have hrun : (Instr.buildSlice t len (parts.map fun (i, x) => (i, a.eval x))).run P w = .ok (.slice (some ⟨w.heap.size, 0, none⟩) len len) (w.alloc (.cells (vs.flatMap fun v => v.cells.toList).toArray e)) := by
  have hp : (parts.map fun (i, x) => (i, a.eval x)).toList = (vs.zipIdx 0).map (fun x => (x.2, x.1)) := by rw [Array.toList_map]; exact e1
  have hfill : ∀ cells : Array Value, cells.size = len * n → Instr.fill (fun i => some (i * n, n)) cells ((vs.zipIdx 0).map fun x => (x.2, x.1)) = some (vs.flatMap fun v => v.cells.toList).toArray := fun cells hcs =>
   Great.fill_whole hn vs cells e3 (by rw [hvl, hcs])
  have hbig : ¬ (len * n > 2 ^ 24) := by omega
  by_cases h0 : len * n = 0
  ·have := hfill ((Array.range (len * n)).map ((#[] : Array Value)[· % (#[] : Array Value).size]!)) (by simp)
   simp only [Instr.buildSlice, Sem.run_bind, run_underlying hu, Result.andThen_ok, sizeOf, typeInfo, run_program, hi1, Sem.run_pure, hs1, if_neg hbig, if_pos h0, hp, this, newRow, run_newObj]
   rfl
  ·have := hfill ((Array.range (len * n)).map (z.cells[· % z.cells.size]!)) (by simp)
   simp only [Instr.buildSlice, Sem.run_bind, run_underlying hu, Result.andThen_ok, sizeOf, typeInfo, run_program, hi1, Sem.run_pure, hs1, if_neg hbig, if_neg h0, zeroValue, hz1, hp, this, newRow, run_newObj]
   rfl
 have hnew := hcc.newBlk (Nat.lt_of_lt_of_le hN X.hN) hk (Zns w (.cells (vs.flatMap fun v => v.cells.toList).toArray e)) (blk := .row e n y ds) (v := RV.of (.slice (some ⟨w.heap.size, 0, none⟩) len len)) (fun b e => by have e : some w.heap.size = some b := e; cases e; exact Nat.le_refl _) fun hF hs _ => by
  refine ⟨vs.flatMap fun v => v.cells.toList, by rw [Zah]; rfl, (fun b e => by rw [Zah] at e; have e : some w.heap.size = some b := e; cases e; exact .inl hcc.below.size), ?_, e4.keep hF hs, by rw [hlen]; exact hby, ?_⟩
  ·rw [Zah, hlen]
   refine ⟨hflat, .inr ⟨w.heap.size, len, (vs.flatMap fun v => v.cells.toList).toArray, rfl, hcc.below.sizeB, (MapKept.heap_alloc _ _).1, Nat.le_refl _, ?_, hflat, ?_⟩⟩
   ·have : len ≤ len * n := Nat.le_mul_of_pos_right _ hn
    unfold maxLen; omega
   ·exact List.take_of_length_le (Nat.le_of_eq hflat)
  ·have : len ≤ len * n := Nat.le_mul_of_pos_right _ hn
   rw [hlen]; omega
 refine Zdr (v := .slice (some ⟨w.heap.size, 0, none⟩) len len) (w' := w.alloc (.cells (vs.flatMap fun v => v.cells.toList).toArray e)) (by simp [execOp, ho, hrun]) ?_
 rw [hd]
 refine hK _ _ ⟨_, ConcAt.putNew hnew hN ?_⟩
 unfold VR
 exact ⟨rfl, .inl ⟨_, Zah _ _ _, .inl rfl, by rw [Zah]; rfl⟩⟩
def Sta.mv (s : Sta) (k d : Nat) (b : Blk) : Sta := { tm := upd s.tm d (.own d), tb := upd (upd s.tb k (some .dead)) d (some b) }
theorem Znt {v : Value} : (∃ a' n c, v = .slice a' n c) → Zdo v = v.ownBlock := by
 rintro ⟨a', n, c, rfl⟩
 cases a' <;> rfl
theorem Zo9 {v : Value} {b : Nat} (h : v.ownBlock = some b) : Zdo v = some b := by
 cases v with
 | slice a n c =>
  cases a with
  | none => cases h
  | some a => exact h
 | _ => cases h
theorem ConcAt.moveRow (h : ConcAt X s a w ρ) {k d e n y : Nat} {l l' : List PD} (hk : s.tb k = some (.row e n y l)) (hd : s.tb d = none) {v' : Value} (hv1 : v'.oneCell' = true) (hg : w.grownBy w' (ρ k).v.ownBlock)
  (hv : ∀ b, Zdo v' = some b → w.heap.size ≤ b ∨ (ρ k).v.ownBlock = some b) {xs : List Value} (hown : w'.ownsRow X.B e n v' l'.length xs)
  (hgr : ∀ F', (∀ b, FF X w s.tb ρ b → F' b) → (∀ b, FF X w s.tb ρ b → w'.heap[b]? = w.heap[b]?) → Groups w' F' n l' xs) (hb1 : l'.length * y ≤ 140737488351232) (hb2 : l'.length ≤ 140737488351232) (hdN : d < X.N) :
  ConcAt X (s.mv k d (.row e n y l')) (a.put (some d) v') w' (upd ρ d (RV.of v')) := by
 obtain ⟨⟨a1, c1, hρk⟩, _⟩ := h.own_slice hk
 obtain ⟨_, hρ0, hmay, _⟩ := h.blks k _ hk
 have hfp : ∀ b, (ρ k).fp b ↔ (ρ k).v.ownBlock = some b := fun b => by rw [hρ0]; show Zdo (ρ k).v = some b ↔ _; rw [Znt ⟨_, _, _, hρk⟩]; rfl
 have hlk : Za6 (s.tb k) = true := by rw [hk]; rfl
 have hkd : k ≠ d := fun e => by subst e; rw [hk] at hd; cases hd
 have hFk : ∀ b, FF X w s.tb ρ b → some b ≠ (ρ k).v.ownBlock := fun b hb e => hb.2.2 k hlk ((hfp b).2 e.symm)
 have hF : ∀ b, FF X w s.tb ρ b → w'.heap[b]? = w.heap[b]? := fun b hb => hg.block b hb.2.1 (hFk b hb)
 have hne : ∀ j x, s.tb j = some x → j ≠ d := fun j x hx e => by subst e; rw [hd] at hx; cases hx
 have htb : ∀ j, j ≠ d → Za6 ((s.mv k d (.row e n y l')).tb j) = true → j ≠ k ∧ Za6 (s.tb j) = true := by
  intro j hj hx
  simp only [Sta.mv, Zaw _ _ hj] at hx
  by_cases ek : j = k
  ·subst ek; rw [Zah] at hx; simp [Za6, Blk.live] at hx
  ·rw [Zaw _ _ ek] at hx; exact ⟨ek, hx⟩
 have hs : ∀ b, FF X w s.tb ρ b → FF X w' (s.mv k d (.row e n y l')).tb (upd ρ d (RV.of v')) b := by
  intro b hb
  refine ⟨hb.1, Nat.lt_of_lt_of_le hb.2.1 hg.size, fun j hj e => ?_⟩
  by_cases ej : j = d
  ·subst ej
   rw [Zah] at e
   rcases hv b e with h1 | h1
   ·have := hb.2.1; omega
   ·exact hFk b hb h1.symm
  ·rw [Zaw _ _ ej] at e
   exact hb.2.2 j (htb j ej hj).2 e
 have hkk : ∀ j x, s.tb j = some x → ∃ x', (s.mv k d (.row e n y l')).tb j = some x' ∧ ((x'.kind = x.kind ∧ (upd ρ d (RV.of v') j).v = (ρ j).v) ∨ (x' = .dead ∧ x.kind ≠ 0)) := by
  intro j x hx
  have hjd := hne j x hx
  by_cases ek : j = k
  ·subst ek
   rw [hk] at hx; cases hx
   exact ⟨.dead, by simp only [Sta.mv, Zaw _ _ hjd, Zah], .inr ⟨rfl, by simp [Blk.kind]⟩⟩
  ·exact ⟨x, by simp only [Sta.mv, Zaw _ _ hjd, Zaw _ _ ek]; exact hx, .inl ⟨rfl, by rw [Zaw _ _ hjd]⟩⟩
 have hlow : ∀ j b, j ≠ d → Za6 ((s.mv k d (.row e n y l')).tb j) = true → (upd ρ d (RV.of v') j).fp b → b < w.heap.size ∧ (ρ k).v.ownBlock ≠ some b := by
  intro j b hj hx e
  obtain ⟨h1, h2⟩ := htb j hj hx
  rw [Zaw _ _ hj] at e
  obtain ⟨x, hx', hl'⟩ := Zbd h2
  exact ⟨(h.rowBlk hx' hl' e).2, fun e' => h1 (h.apart j k b h2 hlk e ((hfp b).2 e'))⟩
 refine ⟨by simpa [Act.put] using h.size, h.defers, h.below.step hg.os hg.tape hg.output hg.size (fun j hj hm => hg.block j hj (fun e => hm (hmay j e.symm))), fun t => ?_, fun j x hx => ?_, fun k1 k2 b h1 h2 e1 e2 => ?_, fun j hj hl => ?_⟩
 ·rw [Zzc a d t v' (by rw [h.size]; exact hdN)]
  show VR _ _ _ _ (upd s.tm d (.own d) t) _
  by_cases et : t = d
  ·subst et
   rw [Zah, if_pos rfl]
   unfold VR
   exact ⟨hv1, .inl ⟨_, by simp only [Sta.mv, Zah]; rfl, .inl rfl, by rw [Zah]; rfl⟩⟩
  ·rw [Zaw _ _ et, if_neg et]
   exact (h.tmps t).keep hF hs hkk
 ·by_cases ej : j = d
  ·subst ej
   simp only [Sta.mv, Zah, Option.some.injEq] at hx
   subst hx
   refine ⟨xs, by rw [Zah]; rfl, fun b e => ?_, by rw [Zah]; exact hown, hgr _ hs hF, hb1, hb2⟩
   rw [Zah] at e
   have e : v'.ownBlock = some b := e
   rcases hv b (Zo9 e) with h4 | h4
   ·exact .inl (Nat.le_trans h.below.size h4)
   ·exact hmay b h4
  ·simp only [Sta.mv, Zaw _ _ ej] at hx
   by_cases ek : j = k
   ·subst ek; rw [Zah] at hx; cases hx; trivial
   ·rw [Zaw _ _ ek] at hx
    exact (h.blks j x hx).keep hF hs hkk (Zaw _ _ ej) (fun b hl hf => hg.block b (h.rowBlk hx hl hf).2 (fun e => ek (h.apart j k b (by rw [hx]; exact hl) hlk hf ((hfp b).2 e.symm)))) hg.size
 ·by_cases ek1 : k1 = d
  ·by_cases ek2 : k2 = d
   ·rw [ek1, ek2]
   ·exfalso
    have h3 := hlow k2 b ek2 h2 e2
    rw [ek1, Zah] at e1
    rcases hv b e1 with h4 | h4
    ·omega
    ·exact h3.2 h4
  ·by_cases ek2 : k2 = d
   ·exfalso
    have h3 := hlow k1 b ek1 h1 e1
    rw [ek2, Zah] at e2
    rcases hv b e2 with h4 | h4
    ·omega
    ·exact h3.2 h4
   ·have g1 := htb k1 ek1 h1
    have g2 := htb k2 ek2 h2
    rw [Zaw _ _ ek1] at e1
    rw [Zaw _ _ ek2] at e2
    exact h.apart k1 k2 b g1.2 g2.2 e1 e2
 ·have ejd : j ≠ d := fun e => by have := X.hN; omega
  rw [Zaw _ _ ejd]
  exact h.lent j hj (htb j ejd hl).2
theorem Zfn (base : Nat) (t ty e : TypeId) (i : TypeInfo) (z : Value) (size bytes : Nat) (ht : P.underlying t = some (.slice e)) (hi : P.info? e = some i) (hz : i.zero = some z)
  (hsize : i.size = size) (hby : i.bytes = bytes) (hzs : z.cells.size = size) (hsz : 0 < size) {v : Value} {n : Nat} {xs : List Value} (hown : w.ownsRow base e size v n xs)
  {ad : Option Addr} {m c : Nat} {news : List Value} (hl : news.length = m * size) (hnews : m = 0 ∨ ∃ b o, ad = some ⟨b, o, none⟩ ∧ Lies w b o news) (h1 : ∀ u ∈ news, u.oneCell' = true)
  (h63 : n + m ≤ maxLen) (hbytes : (n + m) * bytes ≤ 140737488355328) (hbase : base ≤ w.heap.size) :
  ∃ v' w', (Builtin.append_ #[t, t] ty #[v, .slice ad m c]).run P w = .ok v' w' ∧ w'.ownsRow base e size v' (n + m) (xs ++ news) ∧ w.grownBy w' v.ownBlock ∧ (∀ b, Zdo v' = some b → w.heap.size ≤ b ∨ v.ownBlock = some b) := by
 by_cases hm : m = 0
 ·subst hm
  have hn0 : news = [] := List.eq_nil_of_length_eq_zero (by simpa using hl)
  subst hn0
  refine ⟨v, w, ?_, by simpa using hown, ⟨rfl, rfl, rfl, Nat.le_refl _, fun _ _ _ => rfl⟩, ?_⟩
  ·have hfc : (Builtin.firstCells i.size 0 (.slice ad 0 c)).run P w = .ok #[] w := by
    cases ad <;> simp [Builtin.firstCells, loadCells, loadCellsFrom]
   rcases hown.2 with ⟨rfl, rfl⟩ | ⟨g, cap, cur, rfl, hbg, hg, hnc, hcm, hcs, htake⟩
   ·simp [Builtin.append_, run_underlying ht, sizeOf, typeInfo, hi, Builtin.lenOf, hfc]
   ·simp [Builtin.append_, run_underlying ht, sizeOf, typeInfo, hi, Builtin.lenOf, hfc, hnc, storeCells]
  ·intro b hb
   rcases hown.2 with ⟨rfl, rfl⟩ | ⟨g, cap, cur, rfl, _⟩
   ·simp [Zdo] at hb
   ·right; simpa [Zdo, Value.ownBlock] using hb
 ·obtain ⟨b0, o0, rfl, hlies⟩ := hnews.resolve_left hm
  subst hsize
  subst hby
  have hadd := hlies.add
  have hlen : (xs ++ news).length = (n + m) * i.size := by rw [List.length_append, hown.1, hl, Nat.add_mul]
  have hsmall : n + m ≤ 9223372036854775807 := by simp only [maxLen] at h63; omega
  have grown : ∀ (old : Nat) (row : Option Nat),
    (w.drew.alloc (.cells (xs.toArray ++ news.toArray ++ Builtin.zeroCells z.cells (grownCap w (n + m) old e - (n + m))) e)).ownsRow base e i.size
     (.slice (some ⟨w.heap.size, 0, none⟩) (n + m) (grownCap w (n + m) old e)) (n + m) (xs ++ news) ∧
    w.grownBy (w.drew.alloc (.cells (xs.toArray ++ news.toArray ++ Builtin.zeroCells z.cells (grownCap w (n + m) old e - (n + m))) e)) row := by
   intro old row
   have hge := grownCap_ge w (n + m) old e
   have hcm : grownCap w (n + m) old e ≤ maxLen := grownCap_le_maxLen w (n + m) old e h63
   refine ⟨⟨hlen, .inr ⟨w.heap.size, _, _, rfl, hbase, (MapKept.heap_alloc w.drew _).1, hge, hcm, ?_, ?_⟩⟩, ⟨rfl, rfl, rfl, by simp, fun k hk _ => Below.heap_alloc w.drew _ k hk⟩⟩
   ·simp only [Array.size_append, List.size_toArray, size_zeroCells, hzs, hown.1, hl, ← Nat.add_mul]
    congr 1
    omega
   ·simp only [Array.toList_append, List.append_assoc]
    rw [← List.append_assoc, ← hlen]
    exact List.take_left
  rcases hown.2 with ⟨rfl, rfl⟩ | ⟨g, cap, cur, rfl, hbg, hg, hnc, hcm, hcs, htake⟩
  ·have hx : xs = [] := List.eq_nil_of_length_eq_zero (by simpa using hown.1)
   subst hx
   have hr := run_append_nil (P := P) w t ty e i z ht hi hz ⟨b0, o0, none⟩ m c news hl hadd (by omega) (by omega) (by have hb := hbytes; simp only [Nat.zero_add] at hb; omega)
   have hgr := grown 0 (Value.ownBlock (.slice none 0 0))
   simp only [Nat.zero_add, List.nil_append, Array.empty_append] at hgr ⊢
   exact ⟨_, _, hr, hgr.1, hgr.2, fun b hb => .inl (by simp [Zdo] at hb; omega)⟩
  ·by_cases hroom : n + m ≤ cap
   ·have hfit : n * i.size + news.length ≤ cur.size := by rw [hl, hcs, ← Nat.add_mul]; exact Nat.mul_le_mul_right _ hroom
    have hr := run_append_room (P := P) w t ty e i ht hi g n cap cur hg ⟨b0, o0, none⟩ m c news hl hadd h1 hroom hfit
    refine ⟨_, _, hr, ⟨hlen, .inr ⟨g, cap, _, rfl, hbg, setRow_heap w g cur _ e _ hg, hroom, hcm, ?_, ?_⟩⟩, ⟨rfl, rfl, rfl, by simp, fun k _ hk => setRow_other w g k _ (fun e => hk (by simp [Value.ownBlock, e]))⟩, fun b hb => .inr (by simpa [Zdo, Value.ownBlock] using hb)⟩
    ·simp only [List.size_toArray, List.length_append, List.length_take, List.length_drop, Array.length_toList]
     omega
    ·rw [htake, ← hlen]
     exact List.take_left
   ·have holds : ∀ j u, xs[j]? = some u → w.cell? ((⟨g, 0, none⟩ : Addr).add j) = some u := hown.cells (g := g) rfl
    have hr := run_append_grow (P := P) w t ty e i z ht hi hz ⟨g, 0, none⟩ n cap xs hown.1 holds ⟨b0, o0, none⟩ m c news hl hadd (by omega) (by omega) (growslice_fits (by omega) hbytes)
    have hgr := grown cap (Value.ownBlock (.slice (some ⟨g, 0, none⟩) n cap))
    exact ⟨_, _, hr, hgr.1, hgr.2, fun b hb => .inl (by simp [Zdo] at hb; omega)⟩
theorem Zva {o : Oper} {d : Nat} (hd : o.dst = some d) (hN : d < X.N) {k : Nat} (hd0 : s.tb d = none) {x x2 : Operand} {t : TypeId} (ho : o.op = .call { callee := .builtin .append, args := #[x, x2], argTypes := #[t, t] })
  {e n y : Nat} {l l2 : List PD} (hx : s.ev x = .own k) (hk : s.tb k = some (.row e n y l)) (ht : Zp0 P t = some (e, n, y)) (hz : Zv6 P e = some n) (hn : Nat.blt 0 n = true)
  (hb1 : (l.length + l2.length) * y ≤ 140737488351232) (hb2 : l.length + l2.length ≤ 140737488351232)
  (h2 : ∀ a w ρ, ConcAt X s a w ρ → ∃ ad c news, a.eval x2 = .slice ad l2.length c ∧ Groups w (FF X w s.tb ρ) n l2 news ∧ (l2.length = 0 ∨ ∃ b o, ad = some ⟨b, o, none⟩ ∧ Lies w b o news)) :
  OpS P X o s (s.mv k d (.row e n y (l ++ l2))) := by
 intro a w ⟨ρ, hc⟩ K Q hK
 have hn := (Nat.blt_eq.mp hn : 0 < n)
 obtain ⟨inf, hu, hi1, hs1, hy1⟩ := Zcd ht
 obtain ⟨i2, z, hi2, hz1, hz2, hz3⟩ := Zli hz
 rw [hi1] at hi2
 cases hi2
 obtain ⟨xs, _, _, g1, g2, g3, g4⟩ := hc.blks k _ hk
 obtain ⟨ad, c, news, e2, hg2, hl2⟩ := h2 a w ρ hc
 have e1 := hc.ev x
 rw [hx] at e1
 have e1 := Zjf e1 hk
 obtain ⟨v', w', hr, r1, r2, r3⟩ := Zfn (P := P) X.B t o.type e inf z n y hu hi1 hz1 hs1 hy1 hz2 hn g1 (ad := ad) (m := l2.length) (c := c) hg2.length hl2 hg2.one (by unfold maxLen; omega) (by omega) hc.below.sizeB
 have hv1 : v'.oneCell' = true := by
  rcases r1.2 with ⟨e, _⟩ | ⟨g, cap, cur, e, _⟩ <;> rw [e] <;> rfl
 have hmv := hc.moveRow (l' := l ++ l2) hk hd0 hv1 r2 r3 (by rw [List.length_append]; exact r1) (fun F' hF' hh => (g2.keep hh hF').append (hg2.keep hh hF')) (by rw [List.length_append]; exact hb1) (by rw [List.length_append]; exact hb2) hN
 refine Zdr (v := v') (w' := w') ?_ ?_
 ·simp only [execOp, ho, resolve, invoke, builtin, Sem.run_bind, Sem.run_pure, Result.andThen_ok, List.map_toArray, List.map_cons, List.map_nil, e1, e2, hr]
 ·rw [hd]
  exact hK _ _ ⟨_, hmv⟩
theorem Zo3 {o : Oper} {d : Nat} (hd : o.dst = some d) (hN : d < X.N) {k : Nat} (hd0 : s.tb d = none) {x x2 : Operand} {t : TypeId} (ho : o.op = .call { callee := .builtin .append, args := #[x, x2], argTypes := #[t, t] })
  {e n y k2 e2 n2 y2 : Nat} {l l2 : List PD} (hx : s.ev x = .own k) (hk : s.tb k = some (.row e n y l)) (hx2 : s.ev x2 = .own k2) (hk2 : s.tb k2 = some (.row e2 n2 y2 l2)) (ht : Zp0 P t = some (e, n, y)) (hz : Zv6 P e = some n) (hn : Nat.blt 0 n = true) (hn2 : n2 = n)
  (hb1 : (l.length + l2.length) * y ≤ 140737488351232) (hb2 : l.length + l2.length ≤ 140737488351232) : OpS P X o s (s.mv k d (.row e n y (l ++ l2))) := by
 subst hn2
 refine Zva hd hN hd0 ho hx hk ht hz hn hb1 hb2 fun a w ρ hc => ?_
 have e3 := hc.ev x2
 rw [hx2] at e3
 have e3 := Zjf e3 hk2
 obtain ⟨xs, _, _, g1, g2, g3, g4⟩ := hc.blks k2 _ hk2
 rcases g1.2 with ⟨e4, e5⟩ | ⟨g, cap, cur, e4, _⟩
 ·exact ⟨none, 0, xs, by rw [e3, e4, e5], g2, .inl e5⟩
 ·refine ⟨some ⟨g, 0, none⟩, cap, xs, by rw [e3, e4], g2, .inr ⟨g, 0, rfl, fun j u hj => ?_⟩⟩
  have := g1.cells (g := g) (by rw [e4]; rfl) j u hj
  rwa [Zb2] at this
theorem Zo2 {o : Oper} {d : Nat} (hd : o.dst = some d) (hN : d < X.N) {k : Nat} (hd0 : s.tb d = none) {x x2 : Operand} {t : TypeId} (ho : o.op = .call { callee := .builtin .append, args := #[x, x2], argTypes := #[t, t] })
  {e n y n2 y2 : Nat} {l l2 : List PD} (hx : s.ev x = .own k) (hk : s.tb k = some (.row e n y l)) (hx2 : s.ev x2 = .dat (.sl n2 y2 l2)) (ht : Zp0 P t = some (e, n, y)) (hz : Zv6 P e = some n) (hn : Nat.blt 0 n = true) (hn2 : n2 = n)
  (hb1 : (l.length + l2.length) * y ≤ 140737488351232) (hb2 : l.length + l2.length ≤ 140737488351232) : OpS P X o s (s.mv k d (.row e n y (l ++ l2))) := by
 subst hn2
 refine Zva hd hN hd0 ho hx hk ht hz hn hb1 hb2 fun a w ρ hc => ?_
 have e3 := hc.ev x2
 rw [hx2] at e3
 unfold VR Rep at e3
 obtain ⟨a', c, e4, _, _, _, e5⟩ := e3
 rcases e5 with rfl | ⟨b, off, hF, rfl, hr⟩
 ·exact ⟨a', c, [], e4, rfl, .inl rfl⟩
 ·obtain ⟨news, g1, g2⟩ := hr.groups
  exact ⟨_, c, news, e4, g1, .inr ⟨b, off, rfl, g2⟩⟩
def Sta.nilOwn (s : Sta) (t k e n y : Nat) : Sta := { tm := upd s.tm t (.own k), tb := upd s.tb k (some (.row e n y [])) }
theorem ConcAt.nilOwn (h : ConcAt X s a w ρ) {t k : Nat} (e n y : Nat) (ht : s.tm t = .dat (.val (.slice none 0 0))) (hk1 : k < 1000) (hk : s.tb k = none) : ConcAt X (s.nilOwn t k e n y) a w (upd ρ k (RV.of (.slice none 0 0))) := by
 have hnew := h.newBlk hk1 hk (Below.refl _ _) (blk := .row e n y []) (v := RV.of (.slice none 0 0)) (fun b e => by have e : none = some b := e; cases e) fun _ _ _ => ⟨[], by rw [Zah]; rfl, (fun b e => by rw [Zah] at e; have e : none = some b := e; cases e), by rw [Zah]; exact World.ownsRow_nil _ _ _ _, rfl, by simp, by simp⟩
 refine ⟨hnew.size, hnew.defers, hnew.below, fun t' => ?_, hnew.blks, hnew.apart, hnew.lent⟩
 show VR _ _ _ _ (upd s.tm t (.own k) t') _
 by_cases et : t' = t
 ·subst et
  rw [Zah]
  have h2 := h.tmps t'
  rw [ht] at h2
  unfold VR Rep at h2
  unfold VR
  exact ⟨by rw [h2.1]; rfl, .inl ⟨_, Zah _ _ _, .inl rfl, by rw [Zah]; exact h2.1⟩⟩
 ·rw [Zaw _ _ et]
  exact hnew.tmps t'
theorem Zq6 {N : Nat} {Q : Exit → Act → World → Prop} {ks : List Itm} (t k e n y : Nat) (ht : s.tm t = .dat (.val (.slice none 0 0))) (hk : s.tb k = none) (h : Run P X N Q ks (s.nilOwn t k e n y)) (hk1 : Nat.blt k 1000 = true := by rfl) : Run P X N Q ks s :=
 Zdm (fun _ _ ⟨_, hc⟩ => ⟨_, hc.nilOwn e n y ht (Nat.blt_eq.mp hk1) hk⟩) h
def Zv5 (s : Sta) (x : Option Operand) (dflt : Nat) : Option Int :=
 match x with
 | none => some dflt
 | some x => match s.ev x with
  | .dat (.val (.int _ i)) => some i
  | _ => none
theorem Ycz (hc : ConcAt X s a w ρ) {x : Operand} {i : Int} {q : Nat} (h : Zv5 s (some x) q = some i) : ∃ k, a.eval x = .int k i := by
 simp only [Zv5] at h
 split at h
 ·rename_i k j hx
  simp only [Option.some.injEq] at h
  subst h
  have := hc.ev x
  rw [hx] at this
  unfold VR Rep at this
  exact ⟨k, this.1⟩
 ·cases h
theorem Zlb {k : IntKind} {i y : Nat} (h : i ≤ y) (code : BoundsCode) : (Instr.sliceBound (.int k (i : Int)) y code).run P w = .ok i w := by
 have h' : (0 : Int) ≤ (i : Int) ∧ (i : Int) ≤ (y : Int) := ⟨by omega, by omega⟩
 simp only [Instr.sliceBound, asIntOf, Sem.run_bind, Sem.run_pure, Result.andThen_ok]
 rw [if_pos h']
 simp
theorem Zvg {o : Oper} (hd : Za7 X.N o.dst = true) {t : TypeId} {x : Operand} {lo hi : Option Operand} (ho : o.op = .slice t x lo hi none) {n y e y' : Nat} {l : List PD} (hx : s.ev x = .dat (.sl n y l)) (ht : Zp0 P t = some (e, n, y')) {p q : Nat}
  (hlo : Zv5 s lo 0 = some (p : Int)) (hhi : Zv5 s hi l.length = some (q : Int)) (hab : p ≤ q) (hbl : q ≤ l.length) : OpS P X o s (s.put o.dst (.dat (.sl n y ((l.take q).drop p)))) := by
 refine Zat hd fun a w ρ hc => ?_
 have h2 := hc.ev x
 rw [hx] at h2
 unfold VR Rep at h2
 obtain ⟨a', c, e1, hle, hby, hln, hcase⟩ := h2
 obtain ⟨inf, hu, hi1, hs1, hb1⟩ := Zcd ht
 have hlen : ((l.take q).drop p).length = q - p := by simp; omega
 have hrun : ∃ a2, (Instr.sliceAt t (a.eval x) (lo.map a.eval) (hi.map a.eval) (none : Option Value)).run P w = .ok (.slice a2 (q - p) (c - p)) w ∧ (p = c ∧ a2 = a' ∨ a2 = a'.map (·.add (p * n))) := by
  refine ⟨if c = p then a' else a'.map (·.add (p * n)), ?_, ?_⟩
  ·have hb : (Instr.sliceBounds true l.length c (lo.map a.eval) (hi.map a.eval) none).run P w = .ok (p, q, c) w := by
    cases hi with
    | none =>
     simp only [Zv5, Option.some.injEq, Int.natCast_inj] at hhi
     subst hhi
     cases lo with
     | none =>
      simp only [Zv5, Option.some.injEq] at hlo
      have : p = 0 := by omega
      subst this
      simp [Instr.sliceBounds]
     | some v =>
      obtain ⟨k, hv⟩ := Ycz hc hlo
      have := Zlb (P := P) (w := w) (k := k) hab .sliceB
      simp [Instr.sliceBounds, hv, this]
    | some u =>
     obtain ⟨k', hv'⟩ := Ycz hc hhi
     have hu' := Zlb (P := P) (w := w) (k := k') (show q ≤ c by omega) .sliceAcap
     cases lo with
     | none =>
      simp only [Zv5, Option.some.injEq] at hlo
      have : p = 0 := by omega
      subst this
      simp [Instr.sliceBounds, hv', hu']
     | some v =>
      obtain ⟨k, hv⟩ := Ycz hc hlo
      have := Zlb (P := P) (w := w) (k := k) hab .sliceB
      simp [Instr.sliceBounds, hv, hv', hu', this]
   rw [e1]
   simp only [Instr.sliceAt, Sem.run_bind, run_underlying hu, Result.andThen_ok, Instr.slice, hb, sizeOf, typeInfo, run_program, hi1, Sem.run_pure, hs1]
  ·by_cases hcp : c = p
   ·left; exact ⟨hcp.symm, if_pos hcp⟩
   ·right; exact if_neg hcp
 obtain ⟨a2, hr, ha2⟩ := hrun
 refine ⟨.slice a2 (q - p) (c - p), by simp [execOp, ho, hr], ?_⟩
 unfold VR Rep
 refine ⟨a2, c - p, by rw [hlen], by rw [hlen]; omega, ?_, by rw [hlen]; omega, ?_⟩
 ·rw [hlen]
  exact Nat.le_trans (Nat.mul_le_mul_right _ (by omega)) hby
 ·rcases hcase with rfl | ⟨b, off, hF, rfl, hr2⟩
  ·left; simp
  ·by_cases hz : q - p = 0
   ·left; exact List.eq_nil_of_length_eq_zero (by rw [hlen]; exact hz)
   ·right
    rcases ha2 with ⟨h5, _⟩ | h5
    ·omega
    ·refine ⟨b, off + p * n, hF, by rw [h5]; simp [Zb2], (hr2.take q).drop p⟩
def Yno (P : Program) (t : TypeId) : Option IntKind :=
 match P.underlying t with
 | some (.int k) => some k
 | _ => none
def Ys2 (P : Program) (t : TypeId) : Bool := (P.underlying t).isSome
theorem Yj1 {o : Oper} (hd : Za7 X.N o.dst = true) {t t' : TypeId} {x : Operand} (ho : o.op = .convert t t' x) {k k' : IntKind} {i : Int} (hx : s.ev x = .dat (.val (.int k i))) (ht : Yno P t' = some k') (ht0 : Ys2 P t = true) :
  OpS P X o s (s.put o.dst (.dat (.val (.int k' (k'.wrap i))))) := by
 refine Zat hd fun a w ρ hc => ⟨.int k' (k'.wrap i), ?_, by unfold VR Rep; exact ⟨rfl, Yhi k' i⟩⟩
 have h1 := hc.ev x
 rw [hx] at h1
 unfold VR Rep at h1
 unfold Yno at ht
 split at ht
 ·rename_i k2 hu
  simp only [Option.some.injEq] at ht
  subst ht
  obtain ⟨d0, hd0⟩ := Option.isSome_iff_exists.1 ht0
  simp [execOp, ho, h1.1, convert, run_underlying hu, run_underlying hd0, Conv.intToInt]
 ·cases ht
def Zt2 (P : Program) (t : TypeId) : Bool :=
 match P.underlying t with
 | some (.interface _) => false
 | some _ => true
 | none => false
theorem Yj3 {o : Oper} (hd : Za7 X.N o.dst = true) {t : TypeId} {x : Operand} (ho : o.op = .makeInterface t x) {d : PD} (hx : s.ev x = .dat d) (ht : Zt2 P t = true) : OpS P X o s (s.put o.dst (.dat (.iface t d))) := by
 refine Zat hd fun a w ρ hc => ⟨.iface t (a.eval x), ?_, ?_⟩
 ·unfold Zt2 at ht
  split at ht
  ·cases ht
  ·rename_i d2 hne hu
   cases d2 <;> first | (simp [execOp, ho, Instr.makeInterface, run_underlying hu]; done) | exact (hne _ rfl).elim
  ·cases ht
 ·have h1 := hc.ev x
  rw [hx] at h1
  unfold VR at h1 ⊢
  unfold Rep
  exact ⟨_, rfl, h1⟩
def Ytj (P : Program) (t : TypeId) : Option (List (Nat × Nat)) :=
 match P.underlying t with
 | some (.struct fs) => fs.toList.mapM fun f => (P.info? f.type).map fun i => (f.offset, i.size)
 | _ => none
class PLI (P : Program) (t : Nat) (pl : outParam (List (Nat × Nat))) : Prop where
 out : Ytj P t = some pl
def fill1 {α : Type} (off : Nat) (ys : List α) (cs : List α) : List α := (ys.zipIdx).foldl (fun cs x => cs.set (off + x.2) x.1) cs
def Zmv (s : Sta) (pl : List (Nat × Nat)) : List AV → List (Nat × Operand) → Option (List AV)
 | cs, [] => some cs
 | cs, (i, x) :: r => match pl[i]?, Zc5 (s.ev x) with
  | some (off, n), some ys => if ys.length = n && Nat.ble (off + n) cs.length then Zmv s pl (fill1 off ys cs) r else none
  | _, _ => none
theorem VRs.set {F : Nat → Prop} {tb : Nat → Option Blk} {x : AV} {v : Value} (hx : VR w F tb ρ x v) : ∀ {l : List AV} {vs : List Value} (i : Nat), VRs w F tb ρ l vs → VRs w F tb ρ (l.set i x) (vs.set i v)
 | [], _, i, h => by unfold VRs at h; subst h; simp [VRs]
 | y :: r, _, i, h => by
  unfold VRs at h
  obtain ⟨u, r', rfl, h1, h2⟩ := h
  cases i with
  | zero => simp only [List.set_cons_zero]; unfold VRs; exact ⟨v, r', rfl, hx, h2⟩
  | succ i => simp only [List.set_cons_succ]; unfold VRs; exact ⟨u, _, rfl, h1, h2.set hx i⟩
theorem VRs.fill1 {F : Nat → Prop} {tb : Nat → Option Blk} {off : Nat} : ∀ {ys : List AV} {us : List Value} {cs : List AV} {vs : List Value} (j : Nat), VRs w F tb ρ ys us → VRs w F tb ρ cs vs →
  VRs w F tb ρ ((ys.zipIdx j).foldl (fun cs x => cs.set (off + x.2) x.1) cs) ((us.zipIdx j).foldl (fun cs x => cs.set (off + x.2) x.1) vs)
 | [], _, _, _, j, h, h2 => by unfold VRs at h; subst h; simpa using h2
 | y :: r, _, _, _, j, h, h2 => by
  unfold VRs at h
  obtain ⟨u, r', rfl, h3, h4⟩ := h
  simp only [List.zipIdx_cons, List.foldl_cons]
  exact VRs.fill1 (j + 1) h4 (VRs.set h3 _ h2)
theorem Zic (off : Nat) : ∀ (l : List (Value × Nat)) (cs : Array Value), (l.foldl (fun cs x => cs.setIfInBounds (off + x.2) x.1) cs).toList = l.foldl (fun cs x => cs.set (off + x.2) x.1) cs.toList
 | [], _ => rfl
 | x :: r, cs => by
  simp only [List.foldl_cons]
  rw [Zic off r]
  simp
theorem Zzw (off : Nat) : ∀ (l : List (Value × Nat)) (cs : List Value), (∀ x ∈ l, x.1.oneCell' = true) → (∀ u ∈ cs, u.oneCell' = true) → ∀ u ∈ l.foldl (fun cs x => cs.set (off + x.2) x.1) cs, u.oneCell' = true
 | [], cs, _, h => h
 | x :: r, cs, h1, h2 => by
  simp only [List.foldl_cons]
  refine Zzw off r _ (fun y hy => h1 y (List.mem_cons_of_mem _ hy)) fun u hu => ?_
  rcases List.mem_or_eq_of_mem_set hu with h3 | h3
  ·exact h2 u h3
  ·rw [h3]; exact h1 x List.mem_cons_self
theorem Zub (hc : ConcAt X s a w ρ) {pl : List (Nat × Nat)} : ∀ {parts : List (Nat × Operand)} {cs cs' : List AV} {vs : List Value}, Zmv s pl cs parts = some cs' → VRs w (FF X w s.tb ρ) s.tb ρ cs vs → (∀ u ∈ vs, u.oneCell' = true) →
  ∃ vs', Instr.fill (fun i => pl.toArray[i]?) vs.toArray (parts.map fun (i, x) => (i, a.eval x)) = some vs'.toArray ∧ VRs w (FF X w s.tb ρ) s.tb ρ cs' vs' ∧ ∀ u ∈ vs', u.oneCell' = true
 | [], cs, cs', vs, h, hv, h1 => by
  simp only [Zmv, Option.some.injEq] at h
  subst h
  exact ⟨vs, rfl, hv, h1⟩
 | (i, x) :: r, cs, cs', vs, h, hv, h1 => by
  simp only [Zmv] at h
  split at h
  ·rename_i off n ys hp hy
   split at h
   ·rename_i hcond
    simp only [Bool.and_eq_true, decide_eq_true_eq] at hcond
    obtain ⟨g1, g2⟩ := hc.cells (hc.ev x) hy
    have hyl : (a.eval x).cells.toList.length = n := by rw [g1.length]; exact hcond.1
    have hys : (a.eval x).cells.size = n := by simpa using hyl
    have hle := Nat.le_of_ble_eq_true hcond.2
    have hcl := hv.length
    have hset : VRs w (FF X w s.tb ρ) s.tb ρ (fill1 off ys cs) (((a.eval x).cells.toList.zipIdx).foldl (fun cs x => cs.set (off + x.2) x.1) vs) := VRs.fill1 0 g1 hv
    obtain ⟨vs', e1, e2, e3⟩ := Zub hc (parts := r) (vs := ((a.eval x).cells.toList.zipIdx).foldl (fun cs x => cs.set (off + x.2) x.1) vs) h hset
     (Zzw off _ _ (fun y hy => g2 _ (by
      have := List.mem_zipIdx hy
      obtain ⟨_, h4, h5⟩ := this
      rw [h5]; exact List.getElem_mem _)) h1)
    refine ⟨vs', ?_, e2, e3⟩
    simp only [List.map_cons, Instr.fill]
    have hp' : pl.toArray[i]? = some (off, n) := by simpa using hp
    rw [hp']
    have hcnd : ((a.eval x).cells.size != n || decide (off + (a.eval x).cells.size > vs.toArray.size)) = false := by
     rw [hys]
     simp
     omega
    simp only [ne_eq, decide_not] at hcnd ⊢
    rw [← e1]
    rw [if_neg (by rw [hys]; simp; omega)]
    congr 1
    apply Array.ext'
    rw [← Array.foldl_toList, Array.toList_zipIdx]
    exact Zic off _ _
   ·cases h
  ·cases h
theorem Zng {o : Oper} (hd : Za7 X.N o.dst = true) {t : TypeId} {parts : Array (Nat × Operand)} (ho : o.op = .build t parts) {zs : List Value} {pl : List (Nat × Nat)} (hz : Ypr P t = some zs) (hok : zs.all okB = true) (hp : Ytj P t = some pl)
  {cs : List AV} (hc : Zmv s pl (zs.map fun v => .dat (.val v)) parts.toList = some cs) {r : AV} (hr : Zpz cs = r) : OpS P X o s (s.put o.dst r) := by
 subst hr
 refine Zat hd fun a w ρ hcc => ?_
 obtain ⟨i, z, hi, hz1, hz2⟩ := Zpv hz
 have hv : VRs w (FF X w s.tb ρ) s.tb ρ (zs.map fun v => .dat (.val v)) zs := by
  have := VRs.of_dat (tb := s.tb) (ρ := ρ) (Zj6 (w := w) (F := FF X w s.tb ρ) hok)
  have e : zs.map (fun v => AV.dat (.val v)) = (zs.map PD.val).map .dat := by rw [List.map_map]; rfl
  rw [e]; exact this
 obtain ⟨vs', e1, e2, e3⟩ := Zub hcc hc hv (fun u hu => (Zqw (List.all_eq_true.1 hok u hu)).one)
 refine ⟨.agg vs'.toArray, ?_, Zmx e2 e3⟩
 have hb : P.built t (parts.map fun (i, x) => (i, a.eval x)).toList = some vs'.toArray := by
  unfold Ytj at hp
  split at hp
  ·rename_i fs hu
   have hzc : z.cells = zs.toArray := by subst hz2; simp
   simp only [Program.built, hi, hu, hz1, hp, hzc, Array.toList_map]
   exact e1
  ·cases hp
 simp [execOp, ho, run_build w t _ _ hb]
def Zap : PD → List AV
 | .agg l => l.map .dat
 | d => [.dat d]
def Zmg : PD → Bool
 | .tup _ => false
 | _ => true
theorem Zp3 {d : PD} (h : Zmg d = true) : Zc5 (.dat d) = some (Zap d) := by cases d <;> first | rfl | (simp [Zmg] at h)
theorem Yfh {o : Oper} {k : Nat} (hd : o.dst = some k) (hN : k < X.N) (hk : s.tb k = none) {t : TypeId} {x : Operand} (ho : o.op = .box t x) {d : PD} (hx : s.ev x = .dat d) (hn : Zmg d = true) : OpS P X o s (s.new k (.box t (Zap d)) (.ptr k 0)) :=
 Yls hd hN hk ho (by rw [hx]; exact Zp3 hn)
theorem Zz0 {o : Oper} (hd : Za7 X.N o.dst = true) {t : TypeId} {x : Operand} (ho : o.op = .load t x) {k T : Nat} (hx : s.ev x = .ptr k 0) {d : PD} (hk : s.tb k = some (.box T (Zap d))) {n : Nat} {g : Bool} (ht : Zp1 P t = some (n, g)) (hf : Zkh g n d = true) :
  OpS P X o s (s.put o.dst (.dat d)) := by
 refine Zh2 hd ho hx hk ht ?_
 rcases Zn1 hf with ⟨rfl, l, rfl, hn⟩ | ⟨rfl, h1, h2⟩
 ·have e1 : (List.map AV.dat l).take n = l.map .dat := List.take_of_length_le (by simp; omega)
  have e2 : Zi2 (l.map .dat) = some l := by
   clear hk hf hn e1
   induction l with
   | nil => rfl
   | cons y r ih => simp [Zi2, ih]
  simp only [Zrb, Zap, if_true, List.length_map, List.drop_zero, e1, Zpz, e2]
  rw [if_pos (by omega)]
 ·have e1 : Zap d = [.dat d] := by cases d <;> first | rfl | exact absurd rfl (h1 _)
  rw [e1]
  rfl
theorem Zk0 {o : Oper} (hd : Za7 X.N o.dst = true) {t f : Nat} {x : Operand} (ho : o.op = .fieldAddr t x f) {d : PD} {l : List PD} (hx : s.ev x = .dat (.ptr d)) (hdl : d = .agg l) {fo n : Nat} {g : Bool} (ht : Yit P t f = some (fo, n, g)) (hn : 0 < n)
  {r : PD} (hr : Yo4 g n fo l = some r) : OpS P X o s (s.put o.dst (.dat (.ptr r))) := Zst hd ho (by rw [hx, hdl]) ht hn hr
theorem Zvh {o : Oper} (hd : o.dst = none) {t : TypeId} {x y : Operand} (ho : o.op = .store t x y) {k : Nat} (hx : s.ev x = .ptr k 0) {T : TypeId} {cs : List AV} (hk : s.tb k = some (.box T cs))
  {n : Nat} {g : Bool} (ht : Zp1 P t = some (n, g)) {d : PD} (hy : s.ev y = .dat d) (hf : Zmg d = true) (hl : (Zap d).length = n) (hn : cs.length = n) :
  OpS P X o s (s.set k (.box T (Zap d))) := by
 have := Zo7 (X := X) hd ho hx hk ht (ys := Zap d) (by rw [hy]; exact Zp3 hf) hl (by omega)
 simpa [← hn] using this
def Ypv : Bool → Bool → Value → Prop
 | false, true, v => v = .pointer none
 | false, false, v => ∃ a, v = .pointer (some a)
 | true, true, v => v = .nilIface
 | true, false, v => ∃ t x, v = .iface t x
def NilIs (i : Bool) (d : PD) (b : Bool) : Prop := ∀ (w : World) (F : Nat → Prop) (v : Value), Rep w F d v → Ypv i b v
theorem NilIs.none : NilIs false (.val (.pointer none)) true := fun w F v h => by unfold Rep at h; exact h.1
theorem NilIs.ptr {d : PD} : NilIs false (.ptr d) false := fun w F v h => by
 unfold Rep at h
 obtain ⟨b, off, u, e, _⟩ := h
 exact ⟨_, e⟩
theorem NilIs.nilI : NilIs true (.val .nilIface) true := fun w F v h => by unfold Rep at h; exact h.1
def Zuy : Value → Option Bool
 | .pointer none => some false
 | .nilIface => some true
 | _ => none
def Ysv (P : Program) (t : TypeId) : Option Bool :=
 match P.underlying t with
 | some (.pointer _) => some false
 | some (.interface _) => some true
 | _ => none
def Yss : BinOp → Bool → Option Bool
 | .eql, b => some b
 | .neq, b => some (!b)
 | _, _ => none
theorem Zs1 {t : TypeId} {c v : Value} {i b : Bool} (hc : Zuy c = some i) (ht : Ysv P t = some i) (hn : Ypv i b v) (w : World) : (Op.equal t v c).run P w = .ok b w := by
 unfold Ysv at ht
 unfold Zuy at hc
 show (Op.equalIn (9999 + 1) t v c).run P w = .ok b w
 unfold Op.equalIn
 split at hc
 ·cases hc
  split at ht
  ·rename_i el hu
   cases b <;> simp only [Ypv] at hn
   ·obtain ⟨q, rfl⟩ := hn
    rw [Sem.run_bind, run_underlying hu]; rfl
   ·subst hn
    rw [Sem.run_bind, run_underlying hu]; rfl
  ·cases ht
  ·cases ht
 ·cases hc
  split at ht
  ·cases ht
  ·rename_i el hu
   cases b <;> simp only [Ypv] at hn
   ·obtain ⟨q, z, rfl⟩ := hn
    rw [Sem.run_bind, run_underlying hu]; rfl
   ·subst hn
    rw [Sem.run_bind, run_underlying hu]; rfl
  ·cases ht
 ·cases hc
theorem Yfj {o : Oper} (hd : Za7 X.N o.dst = true) {op : BinOp} {t t' : TypeId} {x : Operand} {c : Value} (ho : o.op = .binOp op t x (.const c) t') {d : PD} (hx : s.ev x = .dat d) {i b r : Bool} (hc : Zuy c = some i) (ht : Ysv P t = some i) (hn : NilIs i d b) (hr : Yss op b = some r) :
  OpS P X o s (s.put o.dst (.dat (.val (.bool r)))) := by
 refine Zat hd fun a w ρ hcc => ⟨.bool r, ?_, by unfold VR Rep; exact ⟨rfl, trivial⟩⟩
 have h1 := hcc.ev x
 rw [hx] at h1
 unfold VR at h1
 have h2 := hn _ _ _ h1
 have hev : a.eval (.const c) = c := rfl
 have he := Zs1 hc ht h2 w
 have hb : (binOp op t (a.eval x) c).run P w = .ok (.bool r) w ∧ (eqGuard op t x (.const c) (a.eval x) c).run P w = .ok () w := by
  unfold Zuy at hc
  generalize a.eval x = v at *
  split at hc
  ·cases hc
   unfold Yss at hr
   split at hr <;> cases hr <;> cases b <;> simp only [Ypv] at h2
   all_goals first
    | (subst h2; exact ⟨by show (do pure (.bool (← _)) : Sem Value).run P w = _; simp [he], rfl⟩)
    | (obtain ⟨q, rfl⟩ := h2; exact ⟨by show (do pure (.bool (← _)) : Sem Value).run P w = _; simp [he], rfl⟩)
    | (subst h2; exact ⟨by show (do pure (.bool (!(← _))) : Sem Value).run P w = _; simp [he], rfl⟩)
    | (obtain ⟨q, rfl⟩ := h2; exact ⟨by show (do pure (.bool (!(← _))) : Sem Value).run P w = _; simp [he], rfl⟩)
  ·cases hc
   unfold Yss at hr
   split at hr <;> cases hr <;> cases b <;> simp only [Ypv] at h2
   all_goals first
    | (subst h2; exact ⟨by show (do pure (.bool (← _)) : Sem Value).run P w = _; simp [he], by cases x <;> rfl⟩)
    | (obtain ⟨q, z, rfl⟩ := h2; exact ⟨by show (do pure (.bool (← _)) : Sem Value).run P w = _; simp [he], rfl⟩)
    | (subst h2; exact ⟨by show (do pure (.bool (!(← _))) : Sem Value).run P w = _; simp [he], by cases x <;> rfl⟩)
    | (obtain ⟨q, z, rfl⟩ := h2; exact ⟨by show (do pure (.bool (!(← _))) : Sem Value).run P w = _; simp [he], rfl⟩)
  ·cases hc
 simp [execOp, ho, hev, Sem.run_bind, hb.1, hb.2]
end
end Go.Proofs.YtgmahieoiifpfaaGreat
end
