/- Part 9 of what the proof rests on. -/
import Derived.Lib.Overlaps
import Derived.Lib.AppendZerosOnto
import Derived.Shelf.Spec.SlicesInsert
import Derived.Test.YtgmahieoiifpfaaGreatSbR4
import Derived.Test.YtgmahieoiifpfaaGreatSbR5
import Derived.Test.YtgmahieoiifpfaaGreatSbR6
import Derived.Test.YtgmahieoiifpfaaGreatSbR8
set_option linter.unusedSimpArgs false
set_option linter.unusedVariables false
set_option maxHeartbeats 8000000
set_option maxRecDepth 100000
section
namespace Go.Proofs.YtgmahieoiifpfaaGreat
section
variable {α : Type} (c : α → α → Int)
def Zde : List α → α → List α
 | [], p => [p]
 | m :: r, p => if c m p < 0 then m :: Zde r p else if c m p = 0 then m :: r else p :: m :: r
def Za2 (l : List α) (p : α) : Bool := l.any fun m => decide (c m p = 0)
def Zbc : List α → α → Nat
 | [], _ => 0
 | m :: r, p => if c m p < 0 then Zbc r p + 1 else 0
def Ze8 : List α → α → Bool
 | [], _ => false
 | m :: r, p => if c m p < 0 then Ze8 r p else decide (c m p = 0)
def Zvc (l : List α) : List α := l.foldl (Zde c) []
variable {c}
theorem Zjy : ∀ (l : List α) (p : α), Zbc c l p ≤ l.length
 | [], _ => Nat.le_refl _
 | m :: r, p => by
  unfold Zbc
  split
  ·simpa using Zjy r p
  ·simp
theorem Zst : ∀ (l : List α) (p : α), Zde c l p = if Ze8 c l p then l else l.take (Zbc c l p) ++ p :: l.drop (Zbc c l p)
 | [], p => by simp [Zde, Ze8, Zbc]
 | m :: r, p => by
  unfold Zde Ze8 Zbc
  by_cases h : c m p < 0
  ·rw [if_pos h, if_pos h, if_pos h, Zst r p]
   split <;> simp
  ·rw [if_neg h, if_neg h, if_neg h]
   by_cases h' : c m p = 0
   ·simp [h']
   ·simp [h']
theorem Zog : ∀ (l : List α) (p : α) (i : Nat) (x : α), i < Zbc c l p → l[i]? = some x → c x p < 0
 | [], _, _, _, h, _ => by simp [Zbc] at h
 | m :: r, p, i, x, h, hx => by
  unfold Zbc at h
  by_cases h' : c m p < 0
  ·rw [if_pos h'] at h
   cases i with
   | zero => simp at hx; subst hx; exact h'
   | succ i => exact Zog r p i x (by omega) (by simpa using hx)
  ·rw [if_neg h'] at h; omega
def Srt (c : α → α → Int) (l : List α) : Prop := l.Pairwise fun a b => c a b < 0
structure OrdL (c : α → α → Int) (P : α → Prop) : Prop where
 tri : ∀ x y z, P x → P y → P z → Tri (c x y) (c y z) (c x z)
 swp : ∀ x y, P x → P y → c y x = - c x y
theorem Znt : ∀ (l : List α) (p : α), Ze8 c l p = match l[Zbc c l p]? with | some x => decide (c x p = 0) | none => false
 | [], _ => rfl
 | m :: r, p => by
  unfold Ze8 Zbc
  by_cases h : c m p < 0
  ·rw [if_pos h, if_pos h, Znt r p]
   simp
  ·rw [if_neg h, if_neg h]
   rfl
theorem Zsu : ∀ {l : List α} {p x : α}, x ∈ Zde c l p → x = p ∨ x ∈ l
 | [], p, x, h => by simp [Zde] at h; exact .inl h
 | m :: r, p, x, h => by
  unfold Zde at h
  split at h
  ·rcases List.mem_cons.1 h with h | h
   ·exact .inr (by simp [h])
   ·rcases Zsu h with h | h
    ·exact .inl h
    ·exact .inr (by simp [h])
  ·split at h
   ·exact .inr h
   ·rcases List.mem_cons.1 h with h | h
    ·exact .inl h
    ·exact .inr h
variable {P : α → Prop}
theorem Ykh {l : List α} {p : α} (hl : ∀ x ∈ l, P x) (hp : P p) : ∀ x ∈ Zde c l p, P x := fun x hx => by
 rcases Zsu hx with rfl | h
 ·exact hp
 ·exact hl x h
theorem OrdL.self (O : OrdL c P) {x : α} (hx : P x) : c x x = 0 := by
 have := O.swp x x hx hx
 omega
theorem OrdL.lt (O : OrdL c P) {x y z : α} (hx : P x) (hy : P y) (hz : P z) (h : c x y < 0) (h' : c y z < 0) : c x z < 0 := by
 obtain ⟨h1, h2, h3, h4, h5, h6, h7⟩ := O.tri x y z hx hy hz
 have := h6 (by omega) (by omega)
 omega
theorem Znc (O : OrdL c P) : ∀ {l : List α} {p : α}, (∀ x ∈ l, P x) → P p → Srt c l → Srt c (Zde c l p)
 | [], p, _, _, _ => by simp [Zde, Srt]
 | m :: r, p, hl, hp, hs => by
  have hm : P m := hl m (by simp)
  have hr : ∀ x ∈ r, P x := fun x hx => hl x (by simp [hx])
  unfold Srt at hs
  rw [List.pairwise_cons] at hs
  unfold Zde
  by_cases h : c m p < 0
  ·rw [if_pos h]
   unfold Srt
   rw [List.pairwise_cons]
   refine ⟨fun x hx => ?_, Znc O hr hp hs.2⟩
   rcases Zsu hx with rfl | hx
   ·exact h
   ·exact hs.1 x hx
  ·rw [if_neg h]
   by_cases h' : c m p = 0
   ·rw [if_pos h']
    unfold Srt
    rw [List.pairwise_cons]
    exact hs
   ·rw [if_neg h']
    have hpm : c p m < 0 := by
     have := O.swp m p hm hp
     omega
    unfold Srt
    rw [List.pairwise_cons, List.pairwise_cons]
    refine ⟨fun x hx => ?_, hs⟩
    rcases List.mem_cons.1 hx with rfl | hx
    ·exact hpm
    ·exact O.lt hp hm (hr x hx) hpm (hs.1 x hx)
theorem Zb8 (m : α) (r : List α) (q : α) : Za2 c (m :: r) q = (decide (c m q = 0) || Za2 c r q) := rfl
theorem Zwd (O : OrdL c P) : ∀ {l : List α} {p q : α}, (∀ x ∈ l, P x) → P p → P q → Za2 c (Zde c l p) q = (Za2 c l q || decide (c p q = 0))
 | [], p, q, _, _, _ => by simp [Zde, Za2]
 | m :: r, p, q, hl, hp, hq => by
  have hm : P m := hl m (by simp)
  have hr : ∀ x ∈ r, P x := fun x hx => hl x (by simp [hx])
  unfold Zde
  by_cases h : c m p < 0
  ·rw [if_pos h, Zb8, Zb8, Zwd O hr hp hq, Bool.or_assoc]
  ·rw [if_neg h]
   by_cases h' : c m p = 0
   ·rw [if_pos h', Zb8]
    have e : c m q = c p q := (O.tri m p q hm hp hq).zp h'
    rw [e]
    cases decide (c p q = 0) <;> cases Za2 c r q <;> rfl
   ·rw [if_neg h', Zb8, Bool.or_comm]
theorem Zzm (O : OrdL c P) {m : α} {r : List α} {p : α} (hm : P m) (hr : ∀ x ∈ r, P x) (hp : P p) (hs : Srt c (m :: r)) (h : ¬ c m p < 0) : ∀ x ∈ r, 0 < c x p := by
 intro x hx
 unfold Srt at hs
 rw [List.pairwise_cons] at hs
 have h1 := hs.1 x hx
 have hP := hr x hx
 obtain ⟨a1, a2, a3, a4, a5, a6, a7⟩ := O.tri x m p hP hm hp
 have := O.swp m x hm hP
 by_cases h0 : c m p = 0
 ·have := a5 h0; omega
 ·have := a7 (by omega) (by omega); omega
theorem Yc3 (O : OrdL c P) : ∀ {l : List α} {p : α}, (∀ x ∈ l, P x) → P p → Srt c l → Ze8 c l p = Za2 c l p
 | [], _, _, _, _ => rfl
 | m :: r, p, hl, hp, hs => by
  have hm : P m := hl m (by simp)
  have hr : ∀ x ∈ r, P x := fun x hx => hl x (by simp [hx])
  unfold Ze8
  rw [Zb8]
  by_cases h : c m p < 0
  ·rw [if_pos h, Yc3 O hr hp (by unfold Srt at hs ⊢; exact (List.pairwise_cons.1 hs).2)]
   rw [decide_eq_false (by omega)]
   rfl
  ·rw [if_neg h]
   have hn : Za2 c r p = false := by
    unfold Za2
    rw [List.any_eq_false]
    intro x hx
    have := Zzm O hm hr hp hs h x hx
    simp; omega
   rw [hn, Bool.or_false]
theorem Zof (O : OrdL c P) : ∀ {l : List α} {p : α}, (∀ x ∈ l, P x) → P p → Srt c l → ∀ (i : Nat) (x : α), Zbc c l p ≤ i → l[i]? = some x → ¬ c x p < 0
 | [], _, _, _, _, _, _, _, hx => by simp at hx
 | m :: r, p, hl, hp, hs, i, x, hi, hx => by
  have hm : P m := hl m (by simp)
  have hr : ∀ x ∈ r, P x := fun x hx => hl x (by simp [hx])
  unfold Zbc at hi
  by_cases h : c m p < 0
  ·rw [if_pos h] at hi
   cases i with
   | zero => omega
   | succ i => exact Zof O hr hp (by unfold Srt at hs ⊢; exact (List.pairwise_cons.1 hs).2) i x (by omega) (by simpa using hx)
  ·cases i with
   | zero => simp at hx; subst hx; exact h
   | succ i =>
    have := Zzm O hm hr hp hs h x (List.mem_of_getElem? (by simpa using hx))
    omega
theorem Zkm (O : OrdL c P) : ∀ (l acc : List α), (∀ x ∈ l, P x) → (∀ x ∈ acc, P x) → Srt c acc → (∀ x ∈ l.foldl (Zde c) acc, P x) ∧ Srt c (l.foldl (Zde c) acc) ∧ ∀ q, P q → Za2 c (l.foldl (Zde c) acc) q = (Za2 c acc q || Za2 c l q)
 | [], acc, _, h, hs => ⟨h, hs, fun q _ => by simp [Za2]⟩
 | p :: r, acc, hl, h, hs => by
  have hp : P p := hl p (by simp)
  have hr : ∀ x ∈ r, P x := fun x hx => hl x (by simp [hx])
  obtain ⟨h1, h2, h3⟩ := Zkm O r (Zde c acc p) hr (Ykh h hp) (Znc O h hp hs)
  rw [List.foldl_cons]
  refine ⟨h1, h2, fun q hq => ?_⟩
  rw [h3 q hq, Zwd O h hp hq, Zb8, Bool.or_assoc]
theorem Yqj (O : OrdL c P) {l : List α} (hl : ∀ x ∈ l, P x) : ∀ x ∈ Zvc c l, P x := (Zkm O l [] hl (by simp) (by simp [Srt])).1
theorem Yfy (O : OrdL c P) {l : List α} (hl : ∀ x ∈ l, P x) : Srt c (Zvc c l) := (Zkm O l [] hl (by simp) (by simp [Srt])).2.1
theorem Ydc (O : OrdL c P) {l : List α} (hl : ∀ x ∈ l, P x) {q : α} (hq : P q) : Za2 c (Zvc c l) q = Za2 c l q := by
 unfold Zvc
 rw [(Zkm O l [] hl (by simp) (by simp [Srt])).2.2 q hq]; rfl
end
theorem ordPE : OrdL Zae OPE := ⟨fun _ _ _ => Yq2, fun _ _ h h' => Yno h.j h'.j⟩
end Go.Proofs.YtgmahieoiifpfaaGreat
end
namespace Go.Proofs.YtgmahieoiifpfaaGreat
open Go.RowKit
theorem Tryz.infoPE : ∃ i, Tryz.prog.info? 99 = some i ∧ i.zero = some (.agg #[.pointer none, .pointer none, .pointer none, .pointer none]) ∧ i.size = 4 ∧ i.bytes = 32 := by
 have h : (Tryz.prog.info? 99).map (fun i => (i.zero, i.size, i.bytes)) = some (some (.agg #[.pointer none, .pointer none, .pointer none, .pointer none]), 4, 32) := by kernel_rfl
 cases hq : Tryz.prog.info? 99 with
 | none => rw [hq] at h; cases h
 | some i =>
  rw [hq] at h
  simp only [Option.map_some, Option.some.injEq, Prod.mk.injEq] at h
  exact ⟨i, rfl, h.1, h.2.1, h.2.2⟩
/-- At the end. -/
theorem Ydk (w : World) (base : Nat) (v : Value) (g2 c2 len : Nat) (xs news : List Value) (hv : w.ownsRow base 99 4 v len xs) (hu : w.ownsRow base 99 4 (.slice (some ⟨g2, 0, none⟩) 1 c2) 1 news)
  (hb : (len + 1) * 32 ≤ 140737488351232) (hl : len + 1 ≤ 140737488351232) (hw : base ≤ w.heap.size) (h1 : ∀ c ∈ news, c.oneCell' = true) :
  Calls Tryz.prog 218 #[v, .int .i64 (len : Int), .slice (some ⟨g2, 0, none⟩) 1 c2] w fun e' w' => ∃ v', e' = .returned v' ∧ w'.ownsRow base 99 4 v' (len + 1) (xs ++ news) ∧ w.grownBy w' v.ownBlock ∧ (∀ b, Zdh v' = some b → w.heap.size ≤ b ∨ v.ownBlock = some b) := by
 obtain ⟨inf, hi, hz, hs, hy⟩ := Tryz.infoPE
 have hnews : news.length = 1 * 4 := hu.1
 have hlies : Lies w g2 0 news := fun j u hj => by
  have := hu.cells (g := g2) rfl j u hj
  rwa [Zb5] at this
 obtain ⟨v', w', hr, r1, r2, r3⟩ := Zfk (P := Tryz.prog) base 114 114 99 inf _ 4 32 Tryz.underlying114 hi hz hs hy rfl (by omega) hv (ad := some ⟨g2, 0, none⟩) (m := 1) (c := c2) hnews (.inr ⟨g2, 0, rfl, hlies⟩) h1 (by unfold maxLen; omega) (by omega) hw
 obtain ⟨a, c, rfl⟩ : ∃ a c, v = .slice a len c := by
  rcases hv.2 with ⟨rfl, rfl⟩ | ⟨g, cap, cur, rfl, _⟩
  ·exact ⟨_, _, rfl⟩
  ·exact ⟨_, _, rfl⟩
 have hc : len ≤ c := by
  rcases hv.2 with ⟨e, e2⟩ | ⟨g, cap, cur, e, _, _, h, _⟩
  ·omega
  ·injection e with _ _ e; omega
 rw [← Zl8 Tryz.underlying114 Tryz.underlying113] at hr
 have HR := Lib.hid (And.intro r1 (And.intro r2 r3))
 clear r1 r2 r3 hv hu hlies
 generalize (Value.slice a len c).ownBlock = ob at *
 go_enter Tryz.func218, Tryz.ntmps218
 go_wp2_with (at_builtin; refine Lib.wpList_append_run _ rfl _ _ _ _ rfl _ _ rfl rfl _ _ hr ?_)
 all_goals
  go_ret
  obtain ⟨r1, r2, r3⟩ := HR.out
  exact ⟨_, rfl, r1, r2, r3⟩
theorem Zcp {w : World} {g b : Nat} {cs : Array Value} (h : b ≠ g) : (w.setRow g cs).heap[b]? = w.heap[b]? := by
 unfold World.setRow
 simp only
 rw [Array.getElem?_modify, if_neg (fun e => h e.symm)]
theorem Zdy {w : World} {g : Nat} {cs : Array Value} : (w.setRow g cs).heap.size = w.heap.size := by
 unfold World.setRow
 simp
theorem Zg1 {w : World} {g : Nat} {cur : Array Value} {t : TypeId} {fz : Nat × Nat} (h : w.heap[g]? = some (.cells cur t fz)) {j : Nat} {u : Value} (hu : cur.toList[j]? = some u) : w.cell? ⟨g, j, none⟩ = some u := by
 rw [Array.getElem?_toList] at hu
 simp [World.cell?, h, hu]
theorem ls1 {α : Type} (xs rest : List α) {p q r : Nat} (hp : p + 4 ≤ xs.length) (hq : p + 4 + r = xs.length + 4) (hq2 : q = p + 4 := by omega) : (xs ++ rest).take q ++ xs.drop p ++ (xs ++ rest).drop (q + r) = xs.take (p + 4) ++ xs.drop p ++ rest.drop 4 := by
 subst hq2
 have e : (xs ++ rest).drop (xs.length + 4) = rest.drop 4 := by
  rw [List.drop_append, List.drop_eq_nil_of_le (Nat.le_add_right _ _), List.nil_append, Nat.add_sub_cancel_left]
 rw [List.take_append_of_le_length hp, hq, e]
theorem ls2 {α : Type} (xs rest news : List α) {p : Nat} (hp : p + 4 ≤ xs.length) : (xs.take (p + 4) ++ xs.drop p ++ rest.drop 4).take p ++ news ++ (xs.take (p + 4) ++ xs.drop p ++ rest.drop 4).drop (p + 4) = xs.take p ++ news ++ xs.drop p ++ rest.drop 4 := by
 rw [List.append_assoc (xs.take (p + 4)), List.drop_left' (by simp; omega), List.take_append_of_le_length (by simp; omega), List.take_take, Nat.min_eq_left (by omega)]
 simp
/-- Ahead of others, where there is room. -/
theorem Yal (w : World) (base g cap g2 c2 len i : Nat) (cur : Array Value) (xs rest news : List Value) (hbg : base ≤ g) (hg : w.heap[g]? = some (.cells cur 99 (0, 0))) (hcm : cap ≤ maxLen) (hcs : cur.size = cap * 4) (hcur : cur.toList = xs ++ rest) (hxs : xs.length = len * 4)
  (hu : w.ownsRow base 99 4 (.slice (some ⟨g2, 0, none⟩) 1 c2) 1 news) (hne : g2 ≠ g) (hi : i < len) (hroom : len + 1 ≤ cap)
  (hl : len + 1 ≤ 140737488351232) (h1x : ∀ c ∈ xs, c.oneCell' = true) (h1 : ∀ c ∈ news, c.oneCell' = true) :
  Calls Tryz.prog 218 #[.slice (some ⟨g, 0, none⟩) len cap, .int .i64 (i : Int), .slice (some ⟨g2, 0, none⟩) 1 c2] w fun e' w' => ∃ v', e' = .returned v' ∧ w'.ownsRow base 99 4 v' (len + 1) (xs.take (i * 4) ++ news ++ xs.drop (i * 4)) ∧ w.grownBy w' (some g) ∧ (∀ b, Zdh v' = some b → w.heap.size ≤ b ∨ (some g) = some b) := by
 obtain ⟨inf, hinf, hz, hs, hy⟩ := Tryz.infoPE
 have hsz : (Tryz.prog.info? 99).map (·.size) = some 4 := by rw [hinf]; simp [hs]
 have hrl : rest.length = (cap - len) * 4 := by
  have := congrArg List.length hcur
  simp only [Array.length_toList, List.length_append] at this
  omega
 have hnews : news.length = 4 := by have := hu.1; omega
 obtain ⟨cur2, hg2, hc2⟩ : ∃ cur2, w.heap[g2]? = some (.cells cur2 99 (0, 0)) ∧ cur2.toList.take 4 = news ∧ cur2.size ≠ 0 := by
  rcases hu.2 with ⟨e, _⟩ | ⟨g', cap', cur', e, _, h1, h2, h3, h4, h5⟩
  ·cases e
  ·injection e with e1 _ _
   injection e1 with e1
   injection e1 with e1
   subst e1
   exact ⟨cur', h1, h5, by omega⟩
 have hlies : ∀ j u, news[j]? = some u → w.cell? ⟨g2, j, none⟩ = some u := fun j u hj => by
  refine Zg1 hg2 ?_
  rw [← hc2.1] at hj
  rw [List.getElem?_take] at hj
  split at hj
  ·exact hj
  ·cases hj
 have hov : ∀ o lb cb, (callFunc 239 #[.slice (some ⟨g2, 0, none⟩) 1 c2, .slice (some ⟨g, o, none⟩) lb cb]).run Tryz.prog w = .ok (.value (.bool false)) w := fun o lb cb => by
  rw [run_callFunc_extern (fn := Tryz.f239) Tryz.func239 (by kernel_rfl) (by kernel_rfl) (by kernel_rfl) (e := Extern.SlicesOverlaps.overlaps #[113, 113] #[4]) (by kernel_rfl),
   Lib.run_overlaps_apart w 113 4 99 Tryz.underlying113 4 (fun w => by simp [sizeOf, typeInfo, hinf, hs]) ⟨g2, 0, none⟩ ⟨g, o, none⟩ 1 c2 lb cb hne 99 99 cur2.size cur.size (by simp [World.shape?, hg2]) (by simp [World.shape?, hg]) (by omega) (by simp [World.frozen?, hg2]) (by simp [World.frozen?, hg2])]
  rfl
 obtain ⟨curA, hA⟩ : ∃ c : Array Value, c = (xs.take (i * 4 + 4) ++ xs.drop (i * 4) ++ rest.drop 4).toArray := ⟨_, rfl⟩
 obtain ⟨curB, hB⟩ : ∃ c : Array Value, c = (xs.take (i * 4) ++ news ++ xs.drop (i * 4) ++ rest.drop 4).toArray := ⟨_, rfl⟩
 have hdl : (xs.drop (i * 4)).length = (len - i) * 4 := by rw [List.length_drop, hxs]; omega
 have hmin1 : Nat.min (len + 1 - i) (len - i) = len - i := by simp only [Nat.min_def]; split <;> omega
 have hmin2 : Nat.min 1 (len + 1 - i) = 1 := by simp only [Nat.min_def]; split <;> omega
 have hcp1 : ∀ ty dc sc, (Builtin.copy_ #[114, 114] ty #[.slice (some ⟨g, (i + 1) * 4, none⟩) (len - i) dc, .slice (some ⟨g, i * 4, none⟩) (len + 1 - i) sc]).run Tryz.prog w.drew = .ok (goInt ((len - i : Nat) : Int)) (w.drew.setRow g curA) := fun ty dc sc => by
  have := Zcu (P := Tryz.prog) (w := w.drew) 114 114 ty 99 4 g ((i + 1) * 4) (len - i) dc ⟨g, i * 4, none⟩ (len + 1 - i) sc cur 99 (xs.drop (i * 4)) Tryz.underlying114 hsz hg (by rw [hmin1, hdl])
   (fun j u hj => by
    rw [Zb5]
    refine Zg1 (w := w.drew) hg ?_
    rw [List.getElem?_drop] at hj
    rw [hcur, List.getElem?_append_left (List.getElem?_eq_some_iff.1 hj).1]
    exact hj) (by rw [hdl, hcs]; omega) (fun u hu => h1x u (List.mem_of_mem_drop hu))
  rw [hmin1] at this
  rw [this, hA, hcur, hdl]
  congr 3
  exact ls1 xs rest (p := i * 4) (r := (len - i) * 4) (by omega) (by omega) (by omega)
 have hgA : (w.drew.setRow g curA).heap[g]? = some (.cells curA 99 (0, 0)) := setRow_heap w.drew g cur curA 99 _ hg
 have hcp2 : ∀ (W : World), W.heap = (w.drew.setRow g curA).heap → ∀ ty dc, (Builtin.copy_ #[114, 113] ty #[.slice (some ⟨g, i * 4, none⟩) (len + 1 - i) dc, .slice (some ⟨g2, 0, none⟩) 1 c2]).run Tryz.prog W = .ok (goInt ((1 : Nat) : Int)) (W.setRow g curB) := fun W hW ty dc => by
  have := Zcu (P := Tryz.prog) (w := W) 114 113 ty 99 4 g (i * 4) (len + 1 - i) dc ⟨g2, 0, none⟩ 1 c2 curA 99 news Tryz.underlying114 hsz (by rw [hW]; exact hgA) (by rw [hmin2, hnews])
   (fun j u hj => by
    rw [Zb5, Nat.zero_add]
    rw [World.cell?_of_block (w := w) (a := ⟨g2, j, none⟩) (by rw [hW]; exact Zcp hne)]
    exact hlies j u hj) (by rw [hA, hnews]; simp [hxs, hdl, hrl]; omega) h1
  rw [hmin2] at this
  rw [this, hA, hB, hnews]
  congr 3
  exact ls2 xs rest news (by omega)
 have FIN : ((w.drew.setRow g curA).setRow g curB).ownsRow base 99 4 (.slice (some ⟨g, 0, none⟩) (len + 1) cap) (len + 1) (xs.take (i * 4) ++ news ++ xs.drop (i * 4)) ∧ w.grownBy ((w.drew.setRow g curA).setRow g curB) (some g) ∧ (∀ b, Zdh (.slice (some ⟨g, 0, none⟩) (len + 1) cap) = some b → w.heap.size ≤ b ∨ (some g) = some b) := by
  have hlen : (xs.take (i * 4) ++ news ++ xs.drop (i * 4)).length = (len + 1) * 4 := by simp only [List.length_append, List.length_take, List.length_drop, hxs, hnews]; omega
  refine ⟨⟨hlen, .inr ⟨g, cap, curB, rfl, hbg, setRow_heap (w.drew.setRow g curA) g curA curB _ _ hgA, hroom, hcm, ?_, ?_⟩⟩, ⟨rfl, rfl, rfl, by rw [Zdy, Zdy]; exact Nat.le_refl _, fun k _ hk => ?_⟩, fun b hb => .inr (by simpa [Zdh] using hb)⟩
  ·rw [hB, List.size_toArray, List.length_append, hlen, List.length_drop, hrl]; omega
  ·rw [hB]; exact List.take_left' hlen
  ·rw [Zcp (fun e => hk (by rw [e])), Zcp (fun e => hk (by rw [e]))]; rfl
 clear hA hB
 have mixed : Tryz.prog.follows Departure.mixedOrders = true := by kernel_rfl
 have hb2 : ¬ (cap = i + 1) := by omega
 have hb4 : ¬ (cap = i) := by omega
 have hin : i ≤ len := by omega
 have hb3 : (i : Int) ≤ (len : Int) + 1 := by omega
 have hw1 : IntKind.i64.wrap ((i : Int) + 1) = (i : Int) + 1 := by rw [IntKind.wrap_i64]; omega
 have htn : ((i : Int) + 1).toNat = i + 1 := by omega
 have hb1 : (0 : Int) ≤ (i : Int) + 1 := by omega
 go_enter Tryz.func218, Tryz.ntmps218
 go_wp2_with (simp only [hov])
 go_region_law_o (refine step_copy_runI rfl _ _ 114 114 rfl _ _ (by simp [Act.eval, Act.put]) (by simp [Act.eval, Act.put]) (hcp1 _ _ _) ?_)
 go_wp2_with (at_builtin; refine wpList_copy_runI _ rfl _ _ 114 113 rfl _ _ rfl rfl (hcp2 _ rfl _ _) ?_)
 go_ret
 exact ⟨_, rfl, FIN⟩
theorem ls3 {α : Type} (A Z news : List α) {p : Nat} (hA : A.length = p) : (A ++ Z).take p ++ news ++ (A ++ Z).drop (p + 4) = A ++ news ++ Z.drop 4 := by
 rw [List.take_left' hA, List.drop_append, List.drop_eq_nil_of_le (by omega : A.length ≤ p + 4), hA, List.nil_append, Nat.add_sub_cancel_left]
theorem ls4 {α : Type} (A Y D news : List α) {p r q : Nat} (hA : A.length = p) (hn : news.length = 4) (hq : q = p + 4) : (A ++ news ++ Y).take q ++ D ++ (A ++ news ++ Y).drop (q + r) = A ++ news ++ D ++ Y.drop r := by
 have h : (A ++ news).length = q := by rw [List.length_append, hA, hn, hq]
 have e : (A ++ news ++ Y).drop (q + r) = Y.drop r := by
  rw [List.drop_append, List.drop_eq_nil_of_le (by omega), h, List.nil_append, Nat.add_sub_cancel_left]
 rw [List.take_left' h, e]
/-- Ahead of others, where there is no room. -/
theorem Yak (w : World) (base g cap g2 c2 len i : Nat) (cur : Array Value) (xs news : List Value) (hbw : base ≤ w.heap.size) (hg : w.heap[g]? = some (.cells cur 99 (0, 0))) (hcur : cur.toList.take (len * 4) = xs) (hxs : xs.length = len * 4)
  (hu : w.ownsRow base 99 4 (.slice (some ⟨g2, 0, none⟩) 1 c2) 1 news) (hi : i < len) (hle : len ≤ cap) (hroom : cap < len + 1)
  (hb : (len + 1) * 32 ≤ 140737488351232) (hl : len + 1 ≤ 140737488351232) (h1x : ∀ c ∈ xs, c.oneCell' = true) (h1 : ∀ c ∈ news, c.oneCell' = true) :
  Calls Tryz.prog 218 #[.slice (some ⟨g, 0, none⟩) len cap, .int .i64 (i : Int), .slice (some ⟨g2, 0, none⟩) 1 c2] w fun e' w' => ∃ v', e' = .returned v' ∧ w'.ownsRow base 99 4 v' (len + 1) (xs.take (i * 4) ++ news ++ xs.drop (i * 4)) ∧ w.grownBy w' (some g) ∧ (∀ b, Zdh v' = some b → w.heap.size ≤ b ∨ (some g) = some b) := by
 obtain ⟨inf, hinf, hz, hs, hy⟩ := Tryz.infoPE
 have hsz : (Tryz.prog.info? 99).map (·.size) = some 4 := by rw [hinf]; simp [hs]
 have hnews : news.length = 4 := by have := hu.1; omega
 obtain ⟨cur2, hg2, hc2⟩ : ∃ cur2, w.heap[g2]? = some (.cells cur2 99 (0, 0)) ∧ cur2.toList.take 4 = news := by
  rcases hu.2 with ⟨e, _⟩ | ⟨g', cap', cur', e, _, h1, h2, h3, h4, h5⟩
  ·cases e
  ·injection e with e1 _ _
   injection e1 with e1
   injection e1 with e1
   subst e1
   exact ⟨cur', h1, h5⟩
 have hlies : ∀ j u, news[j]? = some u → w.cell? ⟨g2, j, none⟩ = some u := fun j u hj => by
  refine Zg1 hg2 ?_
  rw [← hc2, List.getElem?_take] at hj
  split at hj
  ·exact hj
  ·cases hj
 have hliex : ∀ j u, xs[j]? = some u → w.cell? ⟨g, j, none⟩ = some u := fun j u hj => by
  refine Zg1 hg ?_
  rw [← hcur, List.getElem?_take] at hj
  split at hj
  ·exact hj
  ·cases hj
 have hgw : g < w.heap.size := (Array.getElem?_eq_some_iff.1 hg).1
 have hg2w : g2 < w.heap.size := (Array.getElem?_eq_some_iff.1 hg2).1
 obtain ⟨G, hG⟩ : ∃ G, G = grownCap w (len + 1) cap 99 := ⟨_, rfl⟩
 have hGn : len + 1 ≤ G := by rw [hG]; exact grownCap_ge w _ _ _
 have hGm : G ≤ maxLen := by rw [hG]; exact grownCap_le_maxLen w _ _ _ (by unfold maxLen; omega)
 obtain ⟨ROW, hROW⟩ : ∃ ROW : Array Value, ROW = (xs.take (i * 4)).toArray ++ Builtin.zeroCells (Value.agg #[.pointer none, .pointer none, .pointer none, .pointer none]).cells (len + 1 - i) ++ Builtin.zeroCells (Value.agg #[.pointer none, .pointer none, .pointer none, .pointer none]).cells (G - (len + 1)) := ⟨_, rfl⟩
 obtain ⟨Z, hZ, hZl⟩ : ∃ Z : List Value, ROW.toList = xs.take (i * 4) ++ Z ∧ Z.length = (G - i) * 4 := by
  refine ⟨(Builtin.zeroCells (Value.agg #[.pointer none, .pointer none, .pointer none, .pointer none]).cells (len + 1 - i)).toList ++ (Builtin.zeroCells (Value.agg #[.pointer none, .pointer none, .pointer none, .pointer none]).cells (G - (len + 1))).toList, by rw [hROW]; simp, ?_⟩
  rw [List.length_append, Array.length_toList, Array.length_toList, size_zeroCells, size_zeroCells]
  simp only [Value.cells, List.size_toArray, List.length_cons, List.length_nil]
  omega
 have htl : (xs.take (i * 4)).length = i * 4 := by rw [List.length_take, hxs]; omega
 have hdl : (xs.drop (i * 4)).length = (len - i) * 4 := by rw [List.length_drop, hxs]; omega
 have hRs : ROW.size = G * 4 := by rw [← Array.length_toList, hZ, List.length_append, htl, hZl]; omega
 have hold : (Builtin.firstCells inf.size i (.slice (some ⟨g, 0, none⟩) i cap)).run Tryz.prog w.drew = .ok (xs.take (i * 4)).toArray w.drew := by
  rw [hs]
  exact run_firstCells_some w.drew 4 i ⟨g, 0, none⟩ i cap (xs.take (i * 4)) htl (fun j v hj => by
   rw [Zb5, Nat.zero_add]
   rw [List.getElem?_take] at hj
   split at hj
   ·exact hliex j v hj
   ·cases hj)
 have hrz : ∀ ty, (Builtin.append_ #[114, 3] ty #[.slice (some ⟨g, 0, none⟩) i cap, .int .i64 ((len : Int) + 1 - (i : Int))]).run Tryz.prog w = .ok (.slice (some ⟨w.heap.size, 0, none⟩) (len + 1) G) (w.drew.alloc (.cells ROW 99)) := fun ty => by
  have h := Lib.run_append_grow_zeros (P := Tryz.prog) w 114 3 ty 99 inf _ .i64 .i64 Tryz.underlying114 Tryz.underlying3 hinf hz (some ⟨g, 0, none⟩) i cap (xs.take (i * 4)) hold (len + 1 - i) (by omega) (by omega) (by omega) (by omega) (by rw [hy]; omega) (by rw [hy, show i + (len + 1 - i) = len + 1 by omega]; exact growslice_fits hroom (by omega))
  rw [show i + (len + 1 - i) = len + 1 by omega, ← hG] at h
  rw [show ((len : Int) + 1 - (i : Int)) = ((len + 1 - i : Nat) : Int) by omega, h, hROW]
 obtain ⟨curB, hB⟩ : ∃ c : Array Value, c = (xs.take (i * 4) ++ news ++ Z.drop 4).toArray := ⟨_, rfl⟩
 obtain ⟨curC, hC⟩ : ∃ c : Array Value, c = (xs.take (i * 4) ++ news ++ xs.drop (i * 4) ++ (Z.drop 4).drop ((len - i) * 4)).toArray := ⟨_, rfl⟩
 have hN1 : (w.alloc (.cells ROW 99)).heap[w.heap.size]? = some (.cells ROW 99 (0, 0)) := heap_alloc_new w _
 have hNB : ((w.alloc (.cells ROW 99)).setRow w.heap.size curB).heap[w.heap.size]? = some (.cells curB 99 (0, 0)) := setRow_heap _ _ ROW curB 99 _ hN1
 have hNC : (((w.alloc (.cells ROW 99)).setRow w.heap.size curB).setRow w.heap.size curC).heap[w.heap.size]? = some (.cells curC 99 (0, 0)) := setRow_heap _ _ curB curC 99 _ hNB
 have hold1 : ∀ b, b < w.heap.size → (w.alloc (.cells ROW 99)).heap[b]? = w.heap[b]? := fun b h => Below.heap_alloc _ _ _ h
 have hmin1 : Nat.min (len - i) (len + 1 - (i + 1)) = len - i := by simp only [Nat.min_def]; split <;> omega
 have hmin2 : Nat.min 1 (len + 1 - i) = 1 := by simp only [Nat.min_def]; split <;> omega
 have hcpA : ∀ (W : World), W.heap = (w.alloc (.cells ROW 99)).heap → ∀ ty dc, (Builtin.copy_ #[114, 113] ty #[.slice (some ⟨w.heap.size, i * 4, none⟩) (len + 1 - i) dc, .slice (some ⟨g2, 0, none⟩) 1 c2]).run Tryz.prog W = .ok (goInt ((1 : Nat) : Int)) (W.setRow w.heap.size curB) := fun W hW ty dc => by
  have := Zcu (P := Tryz.prog) (w := W) 114 113 ty 99 4 w.heap.size (i * 4) (len + 1 - i) dc ⟨g2, 0, none⟩ 1 c2 ROW 99 news Tryz.underlying114 hsz (by rw [hW]; exact hN1) (by rw [hmin2, hnews])
   (fun j u hj => by
    rw [Zb5, Nat.zero_add]
    rw [World.cell?_of_block (w := w) (a := ⟨g2, j, none⟩) (by rw [hW]; exact hold1 _ hg2w)]
    exact hlies j u hj) (by rw [hRs, hnews]; omega) h1
  rw [hmin2] at this
  rw [this, hB, hnews, hZ]
  congr 3
  exact ls3 _ _ _ htl
 have hcpB : ∀ (W : World), W.heap = ((w.alloc (.cells ROW 99)).setRow w.heap.size curB).heap → ∀ ty dc sc, (Builtin.copy_ #[114, 114] ty #[.slice (some ⟨w.heap.size, (i + 1) * 4, none⟩) (len - i) dc, .slice (some ⟨g, i * 4, none⟩) (len - i) sc]).run Tryz.prog W = .ok (goInt ((len - i : Nat) : Int)) (W.setRow w.heap.size curC) := fun W hW ty dc sc => by
  have hm : Nat.min (len - i) (len - i) = len - i := by simp only [Nat.min_def]; split <;> omega
  have := Zcu (P := Tryz.prog) (w := W) 114 114 ty 99 4 w.heap.size ((i + 1) * 4) (len - i) dc ⟨g, i * 4, none⟩ (len - i) sc curB 99 (xs.drop (i * 4)) Tryz.underlying114 hsz (by rw [hW]; exact hNB) (by rw [hm, hdl])
   (fun j u hj => by
    rw [Zb5]
    rw [World.cell?_of_block (w := w) (a := ⟨g, i * 4 + j, none⟩) (by rw [hW]; exact (Zcp (show g ≠ w.heap.size from Nat.ne_of_lt hgw)).trans (hold1 _ hgw))]
    rw [List.getElem?_drop] at hj
    exact hliex _ u hj) (by rw [hB, List.size_toArray, hdl]; simp only [List.length_append, htl, hnews, List.length_drop, hZl]; omega) (fun u hu => h1x u (List.mem_of_mem_drop hu))
  rw [hm] at this
  rw [this, hC, hB, hdl]
  congr 3
  exact ls4 _ _ _ _ htl hnews (by omega)
 have FIN : ∀ W : World, W.os = w.os → W.tape = w.tape → W.output = w.output → W.heap = (((w.alloc (.cells ROW 99)).setRow w.heap.size curB).setRow w.heap.size curC).heap → W.ownsRow base 99 4 (.slice (some ⟨w.heap.size, 0, none⟩) (len + 1) G) (len + 1) (xs.take (i * 4) ++ news ++ xs.drop (i * 4)) ∧ w.grownBy W (some g) ∧ (∀ b, Zdh (.slice (some ⟨w.heap.size, 0, none⟩) (len + 1) G) = some b → w.heap.size ≤ b ∨ (some g) = some b) := by
  intro W e1 e2 e3 e4
  have hlen : (xs.take (i * 4) ++ news ++ xs.drop (i * 4)).length = (len + 1) * 4 := by simp only [List.length_append, htl, hdl, hnews]; omega
  refine ⟨⟨hlen, .inr ⟨w.heap.size, G, curC, rfl, hbw, by rw [e4]; exact hNC, hGn, hGm, ?_, ?_⟩⟩, ⟨e1, e2, e3, by rw [e4, Zdy, Zdy]; simp, fun k hk _ => ?_⟩, fun b hb => .inl (Nat.le_of_eq (by simpa [Zdh] using hb))⟩
  ·rw [hC, List.size_toArray, List.length_append, hlen, List.length_drop, List.length_drop, hZl]; omega
  ·rw [hC]; exact List.take_left' hlen
  ·rw [e4, Zcp (by omega), Zcp (by omega)]; exact hold1 _ hk
 clear hB hC hNB hNC hN1 hold1 hold hRs hZ hZl hROW hG hlies hliex hg hg2 hu hcur
 have mixed : Tryz.prog.follows Departure.mixedOrders = true := by kernel_rfl
 have hb2 : ¬ (cap = i + 1) ∨ cap = i + 1 := by omega
 have hb4 : ¬ (cap = i) := by omega
 have hb5 : ¬ (G = i) := by omega
 have hb6 : ¬ (G = i + 1) := by omega
 have hin : i ≤ len := by omega
 have hz3 : (cap : Int) < (len : Int) + 1 := by omega
 have hb3 : (i : Int) ≤ (len : Int) + 1 := by omega
 have hb7 : (i : Int) ≤ (len : Int) := by omega
 have hw1 : IntKind.i64.wrap ((i : Int) + 1) = (i : Int) + 1 := by rw [IntKind.wrap_i64]; omega
 have htn : ((i : Int) + 1).toNat = i + 1 := by omega
 have hb1 : (0 : Int) ≤ (i : Int) + 1 := by omega
 have hcpA' := hcpA (w.alloc (.cells ROW 99)).drew rfl
 have hcpB' := hcpB ((w.alloc (.cells ROW 99)).drew.setRow w.heap.size curB).drew rfl
 clear hb2 hcpA hcpB
 go_enter Tryz.func218, Tryz.ntmps218
 go_wp2_with (at_builtin; refine Lib.wpList_append_run _ rfl _ _ _ _ rfl _ _ rfl rfl _ _ (hrz _) ?_)
 go_region
 go_wp2
 go_ret
 exact ⟨_, rfl, FIN _ rfl rfl rfl rfl⟩
instance : Yq8 Tryz.prog 218 99 4 32 := ⟨by kernel_rfl, fun w base v u len i xs news hv hu hap hi hb hl hw h1x h1 => by
 obtain ⟨g2, c2, rfl⟩ : ∃ g2 c2, u = .slice (some ⟨g2, 0, none⟩) 1 c2 := by
  rcases hu.2 with ⟨_, e⟩ | ⟨g', cap', cur', e, _⟩
  ·omega
  ·exact ⟨_, _, e⟩
 by_cases he : i = len
 ·subst he
  rw [List.take_of_length_le (by rw [hv.1]; exact Nat.le_refl _), List.drop_eq_nil_of_le (by rw [hv.1]; exact Nat.le_refl _), List.append_nil]
  exact Ydk w base v g2 c2 i xs news hv hu hb hl hw h1
 ·rcases hv.2 with ⟨_, e⟩ | ⟨g, cap, cur, rfl, hbg, hg, hnc, hcm, hcs, hcur⟩
  ·omega
  ·have hne : g2 ≠ g := fun e => hap g rfl (by rw [e]; rfl)
   by_cases hroom : len + 1 ≤ cap
   ·exact Yal w base g cap g2 c2 len i cur xs (cur.toList.drop (len * 4)) news hbg hg hcm hcs (by rw [← hcur, List.take_append_drop]) hv.1 hu hne (by omega) hroom hl h1x h1
   ·exact Yak w base g cap g2 c2 len i cur xs news hw hg hcur hv.1 hu (by omega) hnc (by omega) hb hl h1x h1⟩
theorem Flat.tup2 {u v : Value} : Flat (.tup [.val u, .val v]) := fun w w' F F' x h => by
 unfold Rep at h ⊢
 obtain ⟨vs, e, h⟩ := h
 refine ⟨vs, e, ?_⟩
 simp only [Reps] at h ⊢
 unfold Rep at h ⊢
 exact h
theorem Zrm (p : PEV) : Zkl true 4 (Zav p) = true := by cases p <;> rfl
theorem Ypc (x p : PEV) : PCall Tryz.prog 221 [Zav x, Zav p] (.val (.int .i64 (Zae x p))) := by
 have c := Zgn x p
 obtain ⟨d0, d1, d2, d3, e⟩ := Zcm x
 obtain ⟨u0, u1, u2, u3, e'⟩ := Zcm p
 rw [e, e'] at c ⊢
 refine Zaa Tryz.func221 rfl Tryz.ntmps221 rfl (fun X => ?_)
 exact wke
/-- slices.BinarySearchFunc over a set: how many elements stand before p, and whether the next one equals it. -/
theorem Ygq (l : List PEV) (p : PEV) (hl : ∀ x ∈ l, OPE x) (hp : OPE p) (hs : Srt Zae l) :
  PCall Tryz.prog 216 [.sl 4 32 (l.map Zav), Zav p, .val (.func (.func 221) #[] #[])] (.tup [.val (.int .i64 ((Zbc Zae l p : Nat) : Int)), .val (.bool (Ze8 Zae l p))]) := by
 refine Zbf fun hfit => ?_
 have b1 := (hfit (.sl 4 32 (l.map Zav)) (by simp)).sl.2.1
 clear hfit
 have n1 : (l.map Zav).length = l.length := by simp
 have ga : ∀ {i : Nat} {x : PEV}, l[i]? = some x → (l.map Zav)[((i : Nat) : Int).toNat]? = some (Zav x) := fun h => by simp [h]
 rw [n1] at b1
 generalize l.map Zav = da at *
 have hF := fun x => Ypc x p
 obtain ⟨u0, u1, u2, u3, e'⟩ := Zcm p
 rw [e'] at hF ⊢
 have hlo := fun (i : Nat) (x : PEV) (h : i < Zbc Zae l p) (hx : l[i]? = some x) => Zog l p i x h hx
 have hhi := fun (i : Nat) (x : PEV) (h : Zbc Zae l p ≤ i) (hx : l[i]? = some x) => Zof ordPE hl hp hs i x h hx
 have hle := Zjy (c := Zae) l p
 rw [Znt]
 generalize Zbc Zae l p = loc at *
 clear hs
 refine Zaa Tryz.func216 rfl Tryz.ntmps216 rfl (fun X => ?_)
 refine wk ?_
 refine Zaq (ι := { j : Nat × Nat // j.1 ≤ loc ∧ loc ≤ j.2 ∧ j.2 ≤ l.length })
  (fun j => [(0, .dat (.sl 4 32 da)), (2, .dat (.val (.func (.func 221) #[] #[]))), (4, .ptr 4 0), (8, .dat (.val (.int .i64 ((da.length : Nat) : Int)))), (9, .dat (.val (.int .i64 (j.1.1 : Nat)))), (10, .dat (.val (.int .i64 (j.1.2 : Nat))))])
  (fun _ => [(4, .box 99 (Zap (.agg [u0, u1, u2, u3])))]) (fun j => j.1.2 - j.1.1) ⟨(0, da.length), Nat.zero_le _, by rw [n1]; exact hle, by rw [n1]; exact Nat.le_refl _⟩ id ?_ ?_
 ·exact sb
 rintro ⟨⟨lo, hi⟩, h1, h2, h3⟩
 simp only at h1 h2 h3
 simp only
 by_cases hlt : lo < hi
 ·have g1 : decide ((lo : Int) < (hi : Int)) = true := decide_eq_true (by omega)
  obtain ⟨h, hh⟩ : ∃ h, h = (lo + hi) / 2 := ⟨_, rfl⟩
  have w1 : IntKind.u64.wrap ((lo : Int) + (hi : Int)) = (lo : Int) + (hi : Int) := by
   simp [IntKind.wrap, IntKind.signed, IntKind.bits]; omega
  have w2 : ((lo : Int) + (hi : Int)) / 2 = ((h : Nat) : Int) := by omega
  have w3 : IntKind.i64.wrap ((h : Nat) : Int) = ((h : Nat) : Int) := by rw [IntKind.wrap_i64]; omega
  have w4 : (Lit.int .u64 ((h : Nat) : Int)).wf = true := by
   simp [Lit.wf, IntKind.min, IntKind.max, IntKind.signed, IntKind.bits]; omega
  obtain ⟨x, hx⟩ : ∃ x, l[h]? = some x := ⟨_, List.getElem?_eq_getElem (by omega)⟩
  have i1 := ga hx
  have cF := hF x
  have f1 := Zrm x
  by_cases hc : Zae x p < 0
  ·have g2 : decide (Zae x p < 0) = true := decide_eq_true hc
   have hb : h < loc := by
    refine Nat.lt_of_not_le fun hn => hhi h x hn hx hc
   refine wk ?_
   refine Zah ?_
   refine ⟨⟨(h + 1, hi), by simp only; omega, by simp only; omega, h3⟩, id, by simp only; omega, ?_⟩
   exact sb
  ·have g2 : decide (Zae x p < 0) = false := decide_eq_false hc
   have hb : loc ≤ h := by
    refine Nat.le_of_not_lt fun hn => hc (hlo h x hn hx)
   refine wk ?_
   refine Zah ?_
   refine ⟨⟨(lo, h), h1, hb, by simp only; omega⟩, id, by simp only; omega, ?_⟩
   exact sb
 ·have g1 : decide ((lo : Int) < (hi : Int)) = false := decide_eq_false (by omega)
  obtain rfl : lo = loc := by omega
  by_cases hin : lo < l.length
  ·have g2 : decide ((lo : Int) < ((da.length : Nat) : Int)) = true := decide_eq_true (by omega)
   obtain ⟨x, hx⟩ : ∃ x, l[lo]? = some x := ⟨_, List.getElem?_eq_getElem hin⟩
   have i1 := ga hx
   have cF := hF x
   have f1 := Zrm x
   rw [hx]
   exact wke
  ·have g2 : decide ((lo : Int) < ((da.length : Nat) : Int)) = false := decide_eq_false (by omega)
   rw [List.getElem?_eq_none (by omega)]
   exact wke
theorem Yc1 (x p : PEV) : PCall Tryz.prog 217 [Zav x, Zav p] (.val (.int .i64 (Zae x p))) := by
 have c := Zgn x p
 obtain ⟨d0, d1, d2, d3, e⟩ := Zcm x
 obtain ⟨u0, u1, u2, u3, e'⟩ := Zcm p
 rw [e, e'] at c ⊢
 refine Zaa Tryz.func217 rfl Tryz.ntmps217 rfl (fun X => ?_)
 exact wke
/-- slices.BinarySearchFunc over a set: how many elements stand before p, and whether the next one equals it. -/
theorem Zvy (l : List PEV) (p : PEV) (hl : ∀ x ∈ l, OPE x) (hp : OPE p) (hs : Srt Zae l) :
  PCall Tryz.prog 216 [.sl 4 32 (l.map Zav), Zav p, .val (.func (.func 217) #[] #[])] (.tup [.val (.int .i64 ((Zbc Zae l p : Nat) : Int)), .val (.bool (Ze8 Zae l p))]) := by
 refine Zbf fun hfit => ?_
 have b1 := (hfit (.sl 4 32 (l.map Zav)) (by simp)).sl.2.1
 clear hfit
 have n1 : (l.map Zav).length = l.length := by simp
 have ga : ∀ {i : Nat} {x : PEV}, l[i]? = some x → (l.map Zav)[((i : Nat) : Int).toNat]? = some (Zav x) := fun h => by simp [h]
 rw [n1] at b1
 generalize l.map Zav = da at *
 have hF := fun x => Yc1 x p
 obtain ⟨u0, u1, u2, u3, e'⟩ := Zcm p
 rw [e'] at hF ⊢
 have hlo := fun (i : Nat) (x : PEV) (h : i < Zbc Zae l p) (hx : l[i]? = some x) => Zog l p i x h hx
 have hhi := fun (i : Nat) (x : PEV) (h : Zbc Zae l p ≤ i) (hx : l[i]? = some x) => Zof ordPE hl hp hs i x h hx
 have hle := Zjy (c := Zae) l p
 rw [Znt]
 generalize Zbc Zae l p = loc at *
 clear hs
 refine Zaa Tryz.func216 rfl Tryz.ntmps216 rfl (fun X => ?_)
 refine wk ?_
 refine Zaq (ι := { j : Nat × Nat // j.1 ≤ loc ∧ loc ≤ j.2 ∧ j.2 ≤ l.length })
  (fun j => [(0, .dat (.sl 4 32 da)), (2, .dat (.val (.func (.func 217) #[] #[]))), (4, .ptr 4 0), (8, .dat (.val (.int .i64 ((da.length : Nat) : Int)))), (9, .dat (.val (.int .i64 (j.1.1 : Nat)))), (10, .dat (.val (.int .i64 (j.1.2 : Nat))))])
  (fun _ => [(4, .box 99 (Zap (.agg [u0, u1, u2, u3])))]) (fun j => j.1.2 - j.1.1) ⟨(0, da.length), Nat.zero_le _, by rw [n1]; exact hle, by rw [n1]; exact Nat.le_refl _⟩ id ?_ ?_
 ·exact sb
 rintro ⟨⟨lo, hi⟩, h1, h2, h3⟩
 simp only at h1 h2 h3
 simp only
 by_cases hlt : lo < hi
 ·have g1 : decide ((lo : Int) < (hi : Int)) = true := decide_eq_true (by omega)
  obtain ⟨h, hh⟩ : ∃ h, h = (lo + hi) / 2 := ⟨_, rfl⟩
  have w1 : IntKind.u64.wrap ((lo : Int) + (hi : Int)) = (lo : Int) + (hi : Int) := by
   simp [IntKind.wrap, IntKind.signed, IntKind.bits]; omega
  have w2 : ((lo : Int) + (hi : Int)) / 2 = ((h : Nat) : Int) := by omega
  have w3 : IntKind.i64.wrap ((h : Nat) : Int) = ((h : Nat) : Int) := by rw [IntKind.wrap_i64]; omega
  have w4 : (Lit.int .u64 ((h : Nat) : Int)).wf = true := by
   simp [Lit.wf, IntKind.min, IntKind.max, IntKind.signed, IntKind.bits]; omega
  obtain ⟨x, hx⟩ : ∃ x, l[h]? = some x := ⟨_, List.getElem?_eq_getElem (by omega)⟩
  have i1 := ga hx
  have cF := hF x
  have f1 := Zrm x
  by_cases hc : Zae x p < 0
  ·have g2 : decide (Zae x p < 0) = true := decide_eq_true hc
   have hb : h < loc := by
    refine Nat.lt_of_not_le fun hn => hhi h x hn hx hc
   refine wk ?_
   refine Zah ?_
   refine ⟨⟨(h + 1, hi), by simp only; omega, by simp only; omega, h3⟩, id, by simp only; omega, ?_⟩
   exact sb
  ·have g2 : decide (Zae x p < 0) = false := decide_eq_false hc
   have hb : loc ≤ h := by
    refine Nat.le_of_not_lt fun hn => hc (hlo h x hn hx)
   refine wk ?_
   refine Zah ?_
   refine ⟨⟨(lo, h), h1, hb, by simp only; omega⟩, id, by simp only; omega, ?_⟩
   exact sb
 ·have g1 : decide ((lo : Int) < (hi : Int)) = false := decide_eq_false (by omega)
  obtain rfl : lo = loc := by omega
  by_cases hin : lo < l.length
  ·have g2 : decide ((lo : Int) < ((da.length : Nat) : Int)) = true := decide_eq_true (by omega)
   obtain ⟨x, hx⟩ : ∃ x, l[lo]? = some x := ⟨_, List.getElem?_eq_getElem hin⟩
   have i1 := ga hx
   have cF := hF x
   have f1 := Zrm x
   rw [hx]
   exact wke
  ·have g2 : decide ((lo : Int) < ((da.length : Nat) : Int)) = false := decide_eq_false (by omega)
   rw [List.getElem?_eq_none (by omega)]
   exact wke
theorem Zzi (l : List PEV) (p : PEV) (hl : ∀ x ∈ l, OPE x) (hp : OPE p) (hs : Srt Zae l) : PCall Tryz.prog 180 [.ptr (.agg [.sl 4 32 (l.map Zav)]), Zav p] (.val (.bool (Za2 Zae l p))) := by
 have c := Ygq l p hl hp hs
 rw [← Yc3 ordPE hl hp hs]
 obtain ⟨u0, u1, u2, u3, e⟩ := Zcm p
 rw [e] at c ⊢
 refine Zaa Tryz.func180 rfl Tryz.ntmps180 rfl (fun X => ?_)
 exact wke
theorem Yfx (l : List PEV) : PCall Tryz.prog 166 [.ptr (.agg [.sl 4 32 (l.map Zav)])] (.val (.int .i64 ((l.length : Nat) : Int))) := by
 have n1 : (l.map Zav).length = l.length := by simp
 rw [← n1]
 refine Zaa Tryz.func166 rfl Tryz.ntmps166 rfl (fun X => ?_)
 exact wke
end Go.Proofs.YtgmahieoiifpfaaGreat
section
namespace Go.Proofs.YtgmahieoiifpfaaGreat
section
variable {α β : Type} (c : α → α → Int)
def Zj5 : List (α × β) → α → β → List (α × β)
 | [], p, j => [(p, j)]
 | m :: r, p, j => if c m.1 p < 0 then m :: Zj5 r p j else if c m.1 p = 0 then (m.1, j) :: r else (p, j) :: m :: r
def Zd6 : List (α × β) → α → Option β
 | [], _ => none
 | m :: r, p => if c m.1 p < 0 then Zd6 r p else if c m.1 p = 0 then some m.2 else none
variable {c}
theorem Zub : ∀ (m : List (α × β)) (p : α) (j : β), (Zj5 c m p j).map (·.1) = Zde c (m.map (·.1)) p
 | [], p, j => rfl
 | m :: r, p, j => by
  unfold Zj5
  rw [List.map_cons]
  unfold Zde
  by_cases h : c m.1 p < 0
  ·rw [if_pos h, if_pos h, List.map_cons, Zub r p j]
  ·rw [if_neg h, if_neg h]
   by_cases h' : c m.1 p = 0
   ·rw [if_pos h', if_pos h']; rfl
   ·rw [if_neg h', if_neg h']; rfl
theorem Zm3 : ∀ (m : List (α × β)) (p : α) (j : β), Ze8 c (m.map (·.1)) p = true → ∃ x, m[Zbc c (m.map (·.1)) p]? = some x ∧ Zj5 c m p j = m.set (Zbc c (m.map (·.1)) p) (x.1, j) ∧ Zd6 c m p = some x.2
 | [], p, j, h => by cases h
 | m :: r, p, j, h => by
  rw [List.map_cons] at h ⊢
  unfold Ze8 at h
  unfold Zj5 Zbc Zd6
  by_cases h1 : c m.1 p < 0
  ·rw [if_pos h1] at h
   rw [if_pos h1, if_pos h1, if_pos h1]
   obtain ⟨x, g1, g2, g3⟩ := Zm3 r p j h
   exact ⟨x, by simpa using g1, by rw [g2]; rfl, g3⟩
  ·rw [if_neg h1] at h
   have h2 : c m.1 p = 0 := by simpa using h
   rw [if_neg h1, if_neg h1, if_neg h1, if_pos h2, if_pos h2]
   exact ⟨m, rfl, rfl, rfl⟩
theorem Zm4 : ∀ (m : List (α × β)) (p : α) (j : β), Ze8 c (m.map (·.1)) p = false → Zj5 c m p j = m.take (Zbc c (m.map (·.1)) p) ++ (p, j) :: m.drop (Zbc c (m.map (·.1)) p) ∧ Zd6 c m p = none
 | [], p, j, h => ⟨rfl, rfl⟩
 | m :: r, p, j, h => by
  rw [List.map_cons] at h ⊢
  unfold Ze8 at h
  unfold Zj5 Zbc Zd6
  by_cases h1 : c m.1 p < 0
  ·rw [if_pos h1] at h
   rw [if_pos h1, if_pos h1, if_pos h1]
   obtain ⟨g1, g2⟩ := Zm4 r p j h
   exact ⟨by rw [g1]; rfl, g2⟩
  ·rw [if_neg h1] at h
   have h2 : ¬ c m.1 p = 0 := by simpa using h
   rw [if_neg h1, if_neg h1, if_neg h1, if_neg h2, if_neg h2]
   exact ⟨rfl, rfl⟩
theorem Zym : ∀ (m : List (α × β)) (p : α) (j : β), (Zj5 c m p j).length ≤ m.length + 1
 | [], p, j => by simp [Zj5]
 | m :: r, p, j => by
  unfold Zj5
  have := Zym r p j
  split
  ·simp; omega
  ·split <;> simp
variable {P : α → Prop}
theorem Zyh (O : OrdL c P) : ∀ (m : List (α × β)) {p : α} (j : β), P p → Zd6 c (Zj5 c m p j) p = some j
 | [], p, j, hp => by
  have h := O.self hp
  simp [Zj5, Zd6, h]
 | m :: r, p, j, hp => by
  unfold Zj5
  by_cases h1 : c m.1 p < 0
  ·rw [if_pos h1]
   unfold Zd6
   rw [if_pos h1]
   exact Zyh O r j hp
  ·rw [if_neg h1]
   by_cases h2 : c m.1 p = 0
   ·rw [if_pos h2]
    unfold Zd6
    simp only
    rw [if_neg h1, if_pos h2]
   ·rw [if_neg h2]
    have h := O.self hp
    unfold Zd6
    simp only
    rw [if_neg (by omega), if_pos h]
theorem Ztz (O : OrdL c P) : ∀ (m : List (α × β)) {p q : α} (j : β), (∀ x ∈ m, P x.1) → P p → P q → c p q ≠ 0 → Zd6 c (Zj5 c m p j) q = Zd6 c m q
 | [], p, q, j, _, hp, hq, h => by
  unfold Zj5 Zd6
  simp only
  split
  ·rfl
  ·first | rfl | (rw [if_neg h]; rfl)
 | m :: r, p, q, j, hm, hp, hq, h => by
  have hm1 : P m.1 := hm m (by simp)
  have hr : ∀ x ∈ r, P x.1 := fun x hx => hm x (by simp [hx])
  unfold Zj5
  by_cases h1 : c m.1 p < 0
  ·rw [if_pos h1]
   unfold Zd6
   rw [Ztz O r j hr hp hq h]
  ·rw [if_neg h1]
   by_cases h2 : c m.1 p = 0
   ·rw [if_pos h2]
    have e : c m.1 q = c p q := (O.tri m.1 p q hm1 hp hq).zp h2
    unfold Zd6
    simp only
    rw [e]
    split
    ·rfl
    ·first | rfl | rw [if_neg h, if_neg h]
   ·rw [if_neg h2]
    have hpm : c p m.1 < 0 := by
     have := O.swp m.1 p hm1 hp
     omega
    by_cases h3 : c p q < 0
    ·show (if c p q < 0 then Zd6 c (m :: r) q else if c p q = 0 then some j else none) = _
     rw [if_pos h3]
    ·show (if c p q < 0 then Zd6 c (m :: r) q else if c p q = 0 then some j else none) = _
     rw [if_neg h3, if_neg h]
     have hqp : c q p < 0 := by
      have := O.swp p q hp hq
      have := (O.tri p q q hp hq hq).rp
      omega
     have hqm := O.lt hq hp hm1 hqp hpm
     have := O.swp q m.1 hq hm1
     unfold Zd6
     rw [if_neg (by omega), if_neg (by omega)]
end
end Go.Proofs.YtgmahieoiifpfaaGreat
end
section
namespace Go.Proofs.YtgmahieoiifpfaaGreat
inductive ST (α : Type) where
 | mk (m : List α) (c : List (α × ST α))
section
variable {α : Type}
def ST.m : ST α → List α | .mk m _ => m
def ST.c : ST α → List (α × ST α) | .mk _ c => c
mutual
/-- The paths of a set, in the order of a Zer. -/
def Zer : ST α → List (List α)
 | .mk m c => m.map (fun x => [x]) ++ Zby c
def Zby : List (α × ST α) → List (List α)
 | [] => []
 | y :: r => (Zer y.2).map (y.1 :: ·) ++ Zby r
end
def en : List α → Int
 | [] => 0
 | _ :: _ => 1
variable (c : α → α → Int) (P : α → Prop)
def cw : List α → List α → Int
 | [], [] => 0
 | [], _ :: _ => -1
 | _ :: _, [] => 1
 | x :: a, y :: b => lx (Zcg (en a) (en b)) (lx (c x y) (cw a b))
def Zcn : ST α → List α → Bool
 | _, [] => false
 | t, [p] => Za2 c t.m p
 | t, p :: q :: r => match Zd6 c t.c p with
  | some t' => Zcn t' (q :: r)
  | none => false
def Zgv : List α → ST α → ST α
 | [], t => t
 | [p], t => .mk (Zde c t.m p) t.c
 | p :: q :: r, t => .mk t.m (Zj5 c t.c p (Zgv (q :: r) ((Zd6 c t.c p).getD (.mk [] []))))
def ofP (ps : List (List α)) : ST α := ps.foldl (fun t p => Zgv c p t) (.mk [] [])
mutual
def WFT : ST α → Prop
 | .mk m ch => (∀ x ∈ m, P x) ∧ Srt c m ∧ Srt c (ch.map (·.1)) ∧ WFC ch
def WFC : List (α × ST α) → Prop
 | [] => True
 | y :: r => P y.1 ∧ WFT y.2 ∧ WFC r
end
mutual
/-- No node is without a path. -/
def NET : ST α → Prop
 | .mk m ch => NEC ch
def NEC : List (α × ST α) → Prop
 | [] => True
 | y :: r => Zer y.2 ≠ [] ∧ NET y.2 ∧ NEC r
end
def PP (p : List α) : Prop := p ≠ [] ∧ ∀ x ∈ p, P x
variable {c P}
theorem Zw4 (t : ST α) : Zer t = t.m.map (fun x => [x]) ++ Zby t.c := by cases t; unfold Zer; rfl
theorem WFT_iff {t : ST α} : WFT c P t ↔ (∀ x ∈ t.m, P x) ∧ Srt c t.m ∧ Srt c (t.c.map (·.1)) ∧ WFC c P t.c := by cases t; rw [WFT]; rfl
theorem WFC_iff {l : List (α × ST α)} : WFC c P l ↔ ∀ y ∈ l, P y.1 ∧ WFT c P y.2 := by
 induction l with
 | nil => unfold WFC; simp
 | cons y r ih => unfold WFC; rw [ih]; simp [and_assoc]
theorem NET_iff {t : ST α} : NET t ↔ ∀ y ∈ t.c, Zer y.2 ≠ [] ∧ NET y.2 := by
 have h : ∀ l : List (α × ST α), NEC l ↔ ∀ y ∈ l, Zer y.2 ≠ [] ∧ NET y.2 := fun l => by
  induction l with
  | nil => unfold NEC; simp
  | cons y r ih => unfold NEC; rw [ih]; simp [and_assoc]
 cases t; rw [NET]; exact h _
theorem Zwz (O : OrdL c P) : ∀ (a b : List α), (∀ x ∈ a, P x) → (∀ x ∈ b, P x) → rng (cw c a b)
 | [], [], _, _ => .inr (.inl rfl)
 | [], _ :: _, _, _ => .inl rfl
 | _ :: _, [], _, _ => .inr (.inr rfl)
 | x :: a, y :: b, ha, hb => Zg0 (Zc1 _ _) (Zg0 (O.tri x y y (ha x (by simp)) (hb y (by simp)) (hb y (by simp))).rp (Zwz O a b (fun z hz => ha z (by simp [hz])) fun z hz => hb z (by simp [hz])))
theorem Yq3 (O : OrdL c P) : ∀ (a b d : List α), en a = en b → en b = en d → (∀ x ∈ a, P x) → (∀ x ∈ b, P x) → (∀ x ∈ d, P x) → Tri (cw c a b) (cw c b d) (cw c a d)
 | [], [], [], _, _, _, _, _ => Zel 0 0 0
 | x :: a, y :: b, z :: d, _, _, ha, hb, hd => by
  have hx := ha x (by simp)
  have hy := hb y (by simp)
  have hz := hd z (by simp)
  have ha' : ∀ x ∈ a, P x := fun z hz => ha z (by simp [hz])
  have hb' : ∀ x ∈ b, P x := fun z hz => hb z (by simp [hz])
  have hd' : ∀ x ∈ d, P x := fun z hz => hd z (by simp [hz])
  have R : ∀ x y : α, P x → P y → rng (c x y) := fun x y hx hy => (O.tri x y y hx hy hy).rp
  refine Zjk (Zel _ _ _) (Zg0 (R _ _ hx hy) (Zwz O _ _ ha' hb')) (Zg0 (R _ _ hy hz) (Zwz O _ _ hb' hd')) (Zg0 (R _ _ hx hz) (Zwz O _ _ ha' hd')) fun h1 h2 => ?_
  exact Zjk (O.tri x y z hx hy hz) (Zwz O _ _ ha' hb') (Zwz O _ _ hb' hd') (Zwz O _ _ ha' hd') fun _ _ => Yq3 O a b d (cmpI_zero.1 h1) (cmpI_zero.1 h2) ha' hb' hd'
theorem Yqm (O : OrdL c P) : ∀ (a b : List α), (∀ x ∈ a, P x) → (∀ x ∈ b, P x) → cw c b a = - cw c a b
 | [], [], _, _ => rfl
 | [], _ :: _, _, _ => rfl
 | _ :: _, [], _, _ => rfl
 | x :: a, y :: b, ha, hb => by
  unfold cw
  rw [O.swp x y (ha x (by simp)) (hb y (by simp)), Yqm O a b (fun z hz => ha z (by simp [hz])) (fun z hz => hb z (by simp [hz])), show Zcg (en b) (en a) = - Zcg (en a) (en b) from by unfold Zcg; split <;> split <;> omega, Zky, Zky]
theorem Zmr {a : List α} (h : a ≠ []) : en a = 1 := by cases a with | nil => exact absurd rfl h | cons _ _ => rfl
theorem Yey (O : OrdL c P) : OrdL (cw c) (PP P) := ⟨fun a b d ha hb hd => Yq3 O a b d (by rw [Zmr ha.1, Zmr hb.1]) (by rw [Zmr hb.1, Zmr hd.1]) ha.2 hb.2 hd.2, fun a b ha hb => Yqm O a b ha.2 hb.2⟩
theorem Zc7 (x y : α) (a b : List α) : cw c (x :: a) (y :: b) = lx (Zcg (en a) (en b)) (lx (c x y) (cw c a b)) := rfl
theorem Zwc (a b : List α) (q : α) : Za2 c (a ++ b) q = (Za2 c a q || Za2 c b q) := by unfold Za2; rw [List.any_append]
theorem Zek {x : α} {l : List α} : Srt c (x :: l) ↔ (∀ y ∈ l, c x y < 0) ∧ Srt c l := List.pairwise_cons
theorem Zn3 (O : OrdL c P) {l : List α} {x : α} (h : x ∈ l) (hx : P x) : Za2 c l x = true := by
 unfold Za2
 exact List.any_eq_true.2 ⟨x, h, by simp [O.self hx]⟩
theorem Zyj {l : List α} {q : α} (h : Za2 c l q = true) : ∃ x ∈ l, c x q = 0 := by
 unfold Za2 at h
 obtain ⟨x, hx, h⟩ := List.any_eq_true.1 h
 exact ⟨x, hx, by simpa using h⟩
theorem Zrr (O : OrdL c P) {l : List α} {p q : α} (hl : ∀ x ∈ l, P x) (hp : P p) (hq : P q) (h : c p q = 0) : Za2 c l p = Za2 c l q := by
 have e : ∀ x ∈ l, (c x p = 0 ↔ c x q = 0) := fun x hx => by
  obtain ⟨_, _, _, h4, h5, _, _⟩ := O.tri x p q (hl x hx) hp hq
  exact ⟨fun h' => by rw [h4 h']; exact h, fun h' => by rw [h5 h] at h'; exact h'⟩
 unfold Za2
 rw [Bool.eq_iff_iff, List.any_eq_true, List.any_eq_true]
 exact ⟨fun ⟨x, hx, h⟩ => ⟨x, hx, by simpa using (e x hx).1 (by simpa using h)⟩, fun ⟨x, hx, h⟩ => ⟨x, hx, by simpa using (e x hx).2 (by simpa using h)⟩⟩
theorem Zo9 (O : OrdL c P) : ∀ (l l' : List α), (∀ x ∈ l, P x) → (∀ x ∈ l', P x) → Srt c l → Srt c l' → (∀ q, P q → Za2 c l q = Za2 c l' q) → Zcj c l l' = 0
 | [], [], _, _, _, _, _ => rfl
 | [], y :: r, _, hl, _, _, h => by
  have := h y (hl y (by simp))
  rw [Zn3 O (l := y :: r) (by simp) (hl y (by simp))] at this
  exact Bool.noConfusion this
 | x :: r, [], hl, _, _, _, h => by
  have := h x (hl x (by simp))
  rw [Zn3 O (l := x :: r) (by simp) (hl x (by simp))] at this
  exact Bool.noConfusion this
 | x :: r, y :: r', hl, hl', hs, hs', h => by
  have hx := hl x (by simp)
  have hy := hl' y (by simp)
  have hr : ∀ z ∈ r, P z := fun z hz => hl z (by simp [hz])
  have hr' : ∀ z ∈ r', P z := fun z hz => hl' z (by simp [hz])
  rw [Zek] at hs hs'
  have hxy : c x y = 0 := by
   have h1 := h x hx
   rw [Zn3 O (l := x :: r) (by simp) hx] at h1
   obtain ⟨z, hz, e1⟩ := Zyj h1.symm
   have h2 := h y hy
   rw [Zn3 O (l := y :: r') (by simp) hy] at h2
   obtain ⟨u, hu, e2⟩ := Zyj h2
   rcases List.mem_cons.1 hz with rfl | hz
   ·have := O.swp z x hy hx; omega
   ·rcases List.mem_cons.1 hu with rfl | hu
    ·exact e2
    ·have h3 := hs'.1 z hz
     have h4 := hs.1 u hu
     have k1 : c x y = c x u := (O.tri x u y hx (hr u hu) hy).zq e2
     have k2 : c y x = c y z := (O.tri y z x hy (hr' z hz) hx).zq e1
     have := O.swp x y hx hy
     omega
  rw [Zb3, Zc8 hxy]
  refine Zo9 O r r' hr hr' hs.2 hs'.2 fun q hq => ?_
  have h1 := h q hq
  rw [Zb8, Zb8, (O.tri x y q hx hy hq).zp hxy] at h1
  by_cases e : c y q = 0
  ·have e' : c x q = 0 := by rw [(O.tri x y q hx hy hq).zp hxy]; exact e
   have n1 : Za2 c r q = false := by
    rw [Zrr O hr hq hx (by have := O.swp x q hx hq; omega)]
    refine Bool.eq_false_iff.2 fun hc => ?_
    obtain ⟨z, hz, e0⟩ := Zyj hc
    have := hs.1 z hz
    have := O.swp x z hx (hr z hz)
    omega
   have n2 : Za2 c r' q = false := by
    rw [Zrr O hr' hq hy (by have := O.swp y q hy hq; omega)]
    refine Bool.eq_false_iff.2 fun hc => ?_
    obtain ⟨z, hz, e0⟩ := Zyj hc
    have := hs'.1 z hz
    have := O.swp y z hy (hr' z hz)
    omega
   rw [n1, n2]
  ·simpa [e] using h1
theorem Yhq (t : ST α) : Zcn c t [] = false := by unfold Zcn; rfl
theorem Zd7 (t : ST α) (p : α) : Zcn c t [p] = Za2 c t.m p := by unfold Zcn; rfl
theorem Zf3 (t : ST α) (p : α) {q : List α} (hq : q ≠ []) : Zcn c t (p :: q) = (match Zd6 c t.c p with | some t' => Zcn c t' q | none => false) := by
 cases q with
 | nil => exact absurd rfl hq
 | cons z r => rw [Zcn]
theorem Zty {β : Type} (y : α × β) (r : List (α × β)) (p : α) : Zd6 c (y :: r) p = if c y.1 p < 0 then Zd6 c r p else if c y.1 p = 0 then some y.2 else none := rfl
mutual
theorem Zdz : ∀ (t : ST α), WFT c P t → ∀ p ∈ Zer t, PP P p
 | .mk m ch, h, p, hp => by
  unfold WFT at h
  unfold Zer at hp
  rcases List.mem_append.1 hp with hp | hp
  ·obtain ⟨x, hx, rfl⟩ := List.mem_map.1 hp
   exact ⟨by simp, fun z hz => by rw [List.mem_singleton] at hz; rw [hz]; exact h.1 x hx⟩
  ·obtain ⟨x, q, rfl, h1, h2⟩ := Zs0 ch h.2.2.2 p hp
   exact ⟨by simp, fun z hz => by
    rcases List.mem_cons.1 hz with rfl | hz
    ·exact h1
    ·exact h2.2 z hz⟩
theorem Zs0 : ∀ (l : List (α × ST α)), WFC c P l → ∀ p ∈ Zby l, ∃ x q, p = x :: q ∧ P x ∧ PP P q
 | [], _, p, hp => by unfold Zby at hp; cases hp
 | y :: r, h, p, hp => by
  unfold WFC at h
  unfold Zby at hp
  rcases List.mem_append.1 hp with hp | hp
  ·obtain ⟨q, hq, rfl⟩ := List.mem_map.1 hp
   exact ⟨_, _, rfl, h.1, Zdz y.2 h.2.1 q hq⟩
  ·exact Zs0 r h.2.2 p hp
end
theorem Yho {β : Type} : ∀ {l : List (α × β)} {x : α}, (∀ y ∈ l, 0 < c y.1 x) → Zd6 c l x = none
 | [], _, _ => rfl
 | y :: r, x, h => by
  have := h y (by simp)
  unfold Zd6
  rw [if_neg (by omega), if_neg (by omega)]
theorem Zwb {β : Type} (O : OrdL c P) : ∀ {l : List (α × β)} {x y : α}, (∀ z ∈ l, P z.1) → P x → P y → c x y = 0 → Zd6 c l x = Zd6 c l y
 | [], _, _, _, _, _, _ => rfl
 | z :: r, x, y, hl, hx, hy, h => by
  have e : c z.1 y = c z.1 x := (O.tri z.1 x y (hl z (by simp)) hx hy).zq h
  unfold Zd6
  rw [e, Zwb O (fun z hz => hl z (by simp [hz])) hx hy h]
theorem Zlp {β : Type} : ∀ {l : List (α × β)} {x : α} {t : β}, Zd6 c l x = some t → ∃ k, (k, t) ∈ l ∧ c k x = 0
 | [], _, _, h => by cases h
 | y :: r, x, t, h => by
  unfold Zd6 at h
  split at h
  ·obtain ⟨k, h1, h2⟩ := Zlp h
   exact ⟨k, by simp [h1], h2⟩
  ·split at h
   ·rename_i e
    cases h
    exact ⟨y.1, by simp, e⟩
   ·cases h
theorem any_map {β γ : Type} (f : β → γ) (p : γ → Bool) (l : List β) : (l.map f).any p = l.any fun x => p (f x) := by simp [List.any_map, Function.comp_def]
theorem Yhs (m : List α) (p : α) (q : List α) : Za2 (cw c) (m.map fun x => [x]) (p :: q) = (q.isEmpty && Za2 c m p) := by
 unfold Za2
 rw [any_map]
 cases q with
 | nil =>
  simp only [List.isEmpty_nil, Bool.true_and]
  congr 1
  funext x
  rw [Zc7]
  simp [en, Zcg, lx, cw]
 | cons z r =>
  simp only [List.isEmpty_cons, Bool.false_and]
  rw [List.any_eq_false]
  intro x _
  rw [Zc7]
  simp [en, Zcg, lx]
theorem Ydd (l : List (List α)) (hl : ∀ a ∈ l, a ≠ []) (x p : α) (q : List α) : Za2 (cw c) (l.map (x :: ·)) (p :: q) = (!q.isEmpty && decide (c x p = 0) && Za2 (cw c) l q) := by
 unfold Za2
 rw [any_map]
 cases q with
 | nil =>
  simp only [List.isEmpty_nil, Bool.not_true, Bool.false_and]
  rw [List.any_eq_false]
  intro a ha
  rw [Zc7, Zmr (hl a ha)]
  simp [en, Zcg, lx]
 | cons z r =>
  simp only [List.isEmpty_cons, Bool.not_false, Bool.true_and]
  by_cases h : c x p = 0
  ·rw [decide_eq_true h, Bool.true_and, Bool.eq_iff_iff, List.any_eq_true, List.any_eq_true]
   have e : ∀ a ∈ l, cw c (x :: a) (p :: z :: r) = cw c a (z :: r) := fun a ha => by
    rw [Zc7, Zmr (hl a ha), show Zcg 1 (en (z :: r)) = 0 from rfl, Zc8 rfl, Zc8 h]
   exact ⟨fun ⟨a, ha, h⟩ => ⟨a, ha, by rw [e a ha] at h; exact h⟩, fun ⟨a, ha, h⟩ => ⟨a, ha, by rw [e a ha]; exact h⟩⟩
  ·rw [decide_eq_false h, Bool.false_and, List.any_eq_false]
   intro a ha
   rw [Zc7, Zmr (hl a ha), show Zcg 1 (en (z :: r)) = 0 from rfl, Zc8 rfl, Zgm h]
   simp [h]
mutual
theorem Zks (O : OrdL c P) : ∀ (t : ST α), WFT c P t → ∀ (p : α) (q : List α), P p → (∀ x ∈ q, P x) → Za2 (cw c) (Zer t) (p :: q) = Zcn c t (p :: q)
 | .mk m ch, h, p, q, hp, hq => by
  unfold WFT at h
  unfold Zer
  rw [Zwc, Yhs, Zt2 O ch h.2.2.2 h.2.2.1 p q hp hq]
  cases q with
  | nil => simp [Zcn, ST.m]
  | cons z r =>
   rw [Zf3 _ _ (by simp)]
   simp only [List.isEmpty_cons, Bool.false_and, Bool.false_or, Bool.not_false, Bool.true_and]
   rfl
theorem Zt2 (O : OrdL c P) : ∀ (l : List (α × ST α)), WFC c P l → Srt c (l.map (·.1)) → ∀ (p : α) (q : List α), P p → (∀ x ∈ q, P x) → Za2 (cw c) (Zby l) (p :: q) = (!q.isEmpty && (match Zd6 c l p with | some t => Zcn c t q | none => false))
 | [], _, _, p, q, _, _ => by unfold Zby; simp [Za2, Zd6]
 | y :: r, h, hs, p, q, hp, hq => by
  have hr := h
  unfold WFC at h
  have hk := WFC_iff.1 hr
  rw [List.map_cons, Zek] at hs
  unfold Zby
  have hne : ∀ a ∈ Zer y.2, a ≠ [] := fun a ha => (Zdz y.2 h.2.1 a ha).1
  rw [Zwc, Ydd _ hne, Zt2 O r h.2.2 hs.2 p q hp hq]
  cases q with
  | nil => rfl
  | cons z w =>
  rw [Zks O y.2 h.2.1 z w (hq z (by simp)) fun x hx => hq x (by simp [hx])]
  simp only [List.isEmpty_cons, Bool.not_false, Bool.true_and]
  have hgt : ¬ c y.1 p < 0 → ∀ u ∈ r, 0 < c u.1 p := fun hn u hu => by
   have h1 := hs.1 u.1 (List.mem_map.2 ⟨u, hu, rfl⟩)
   exact Zzm O h.1 (fun x hx => by obtain ⟨v, hv, rfl⟩ := List.mem_map.1 hx; exact (hk v (by simp [hv])).1) hp (by rw [Zek]; exact hs) hn u.1 (List.mem_map.2 ⟨u, hu, rfl⟩)
  rw [Zty]
  by_cases h1 : c y.1 p < 0
  ·rw [if_pos h1, decide_eq_false (by omega), Bool.false_and, Bool.false_or]
  ·rw [if_neg h1, Yho (hgt h1)]
   by_cases h2 : c y.1 p = 0
   ·rw [if_pos h2, decide_eq_true h2]; simp
   ·rw [if_neg h2, decide_eq_false h2]; simp
end
theorem srt_app {a b : List α} : Srt c (a ++ b) ↔ Srt c a ∧ Srt c b ∧ ∀ x ∈ a, ∀ y ∈ b, c x y < 0 := List.pairwise_append
mutual
theorem Znd (O : OrdL c P) : ∀ (t : ST α), WFT c P t → Srt (cw c) (Zer t)
 | .mk m ch, h => by
  unfold WFT at h
  unfold Zer
  refine srt_app.2 ⟨?_, Zve O ch h.2.2.2 h.2.2.1, fun a ha b hb => ?_⟩
  ·unfold Srt
   rw [List.pairwise_map]
   refine List.Pairwise.imp (fun {x y} hxy => ?_) h.2.1
   rw [Zc7, Zc8 (show Zcg (en ([] : List α)) (en []) = 0 from rfl), Zgm (by omega)]
   exact hxy
  ·obtain ⟨x, _, rfl⟩ := List.mem_map.1 ha
   obtain ⟨k, q, rfl, _, hq⟩ := Zs0 ch h.2.2.2 b hb
   rw [Zc7, Zmr hq.1]
   show lx (-1) _ < 0
   rw [Zgm (by decide)]
   decide
theorem Zve (O : OrdL c P) : ∀ (l : List (α × ST α)), WFC c P l → Srt c (l.map (·.1)) → Srt (cw c) (Zby l)
 | [], _, _ => by unfold Zby; exact List.Pairwise.nil
 | y :: r, h, hs => by
  unfold WFC at h
  rw [List.map_cons, Zek] at hs
  unfold Zby
  refine srt_app.2 ⟨?_, Zve O r h.2.2 hs.2, fun a ha b hb => ?_⟩
  ·unfold Srt
   rw [List.pairwise_map]
   refine List.Pairwise.imp_of_mem (fun {a b} ha hb hab => ?_) (Znd O y.2 h.2.1)
   rw [Zc7, Zmr (Zdz y.2 h.2.1 a ha).1, Zmr (Zdz y.2 h.2.1 b hb).1, Zc8 (show Zcg 1 1 = 0 from rfl), Zc8 (O.self h.1)]
   exact hab
  ·obtain ⟨q, hq, rfl⟩ := List.mem_map.1 ha
   have hb' : ∃ u ∈ r, ∃ q', b = u.1 :: q' ∧ q' ≠ [] := by
    clear hs ha
    induction r with
    | nil => unfold Zby at hb; cases hb
    | cons u r ih =>
     have hc := h.2.2
     unfold WFC at hc
     unfold Zby at hb
     rcases List.mem_append.1 hb with hb | hb
     ·obtain ⟨q', hq', rfl⟩ := List.mem_map.1 hb
      exact ⟨u, by simp, q', rfl, (Zdz u.2 hc.2.1 q' hq').1⟩
     ·obtain ⟨v, hv, h'⟩ := ih ⟨h.1, h.2.1, hc.2.2⟩ hb
      exact ⟨v, by simp [hv], h'⟩
   obtain ⟨u, hu, q', rfl, hq'⟩ := hb'
   have := hs.1 u.1 (List.mem_map.2 ⟨u, hu, rfl⟩)
   rw [Zc7, Zmr (Zdz y.2 h.2.1 q hq).1, Zmr hq', Zc8 (show Zcg 1 1 = 0 from rfl), Zgm (by omega)]
   exact this
end
end
end Go.Proofs.YtgmahieoiifpfaaGreat
end
section
namespace Go.Proofs.YtgmahieoiifpfaaGreat
section
variable {α : Type} {c : α → α → Int} {P : α → Prop}
theorem Zgy : WFT c P (ST.mk [] []) := by unfold WFT WFC; simp [Srt]
theorem Zn2 (p : List α) : Zcn c (ST.mk [] []) p = false := by
 match p with
 | [] => unfold Zcn; rfl
 | [_] => unfold Zcn; simp [Za2, ST.m]
 | _ :: _ :: _ => unfold Zcn; simp [Zd6, ST.c]
theorem Zi3 {β : Type} : ∀ {l : List (α × β)} {p : α} {j : β} {y : α × β}, y ∈ Zj5 c l p j → y ∈ l ∨ (y.2 = j ∧ (y.1 = p ∨ ∃ z ∈ l, z.1 = y.1))
 | [], p, j, y, h => by
  unfold Zj5 at h
  rw [List.mem_singleton] at h
  subst h
  exact .inr ⟨rfl, .inl rfl⟩
 | m :: r, p, j, y, h => by
  unfold Zj5 at h
  split at h
  ·rcases List.mem_cons.1 h with rfl | h
   ·exact .inl (by simp)
   ·rcases Zi3 h with h | ⟨h1, h2⟩
    ·exact .inl (by simp [h])
    ·refine .inr ⟨h1, h2.imp id fun ⟨z, hz, e⟩ => ⟨z, by simp [hz], e⟩⟩
  ·split at h
   ·rcases List.mem_cons.1 h with rfl | h
    ·exact .inr ⟨rfl, .inr ⟨m, by simp, rfl⟩⟩
    ·exact .inl (by simp [h])
   ·rcases List.mem_cons.1 h with rfl | h
    ·exact .inr ⟨rfl, .inl rfl⟩
    ·exact .inl h
theorem Yl0 {β : Type} (O : OrdL c P) {l : List (α × β)} {p q : α} (j : β) (hl : ∀ x ∈ l, P x.1) (hp : P p) (hq : P q) : Zd6 c (Zj5 c l p j) q = if c p q = 0 then some j else Zd6 c l q := by
 split
 ·rename_i h
  rw [← Zwb O (fun z hz => ?_) hp hq h, Zyh O l j hp]
  rcases Zi3 hz with hz | ⟨_, h | ⟨u, hu, e⟩⟩
  ·exact hl z hz
  ·rw [h]; exact hp
  ·rw [← e]; exact hl u hu
 ·rename_i h
  exact Ztz O l j hl hp hq h
theorem Zrp {l : List (α × ST α)} (h : WFC c P l) {x : α} {t : ST α} (hx : Zd6 c l x = some t) : WFT c P t := by
 obtain ⟨k, hk, _⟩ := Zlp hx
 exact (WFC_iff.1 h _ hk).2
theorem Zwg (O : OrdL c P) : ∀ (p : List α) (t : ST α), (∀ x ∈ p, P x) → WFT c P t → WFT c P (Zgv c p t)
 | [], t, _, h => by unfold Zgv; exact h
 | [p], t, hp, h => by
  unfold Zgv
  obtain ⟨h1, h2, h3, h4⟩ := WFT_iff.1 h
  have hP := hp p (by simp)
  exact WFT_iff.2 ⟨Ykh h1 hP, Znc O h1 hP h2, h3, h4⟩
 | p :: q :: r, t, hp, h => by
  unfold Zgv
  obtain ⟨h1, h2, h3, h4⟩ := WFT_iff.1 h
  have hP := hp p (by simp)
  have hk : ∀ x ∈ t.c.map (·.1), P x := fun x hx => by
   obtain ⟨y, hy, rfl⟩ := List.mem_map.1 hx
   exact (WFC_iff.1 h4 y hy).1
  have hs : WFT c P ((Zd6 c t.c p).getD (.mk [] [])) := by
   cases hg : Zd6 c t.c p with
   | none => exact Zgy
   | some t' => exact Zrp h4 hg
  have hi := Zwg O (q :: r) _ (fun x hx => hp x (by simp [hx])) hs
  refine WFT_iff.2 ⟨h1, h2, ?_, WFC_iff.2 fun y hy => ?_⟩
  ·show Srt c ((Zj5 c t.c p _).map (·.1))
   rw [Zub]
   exact Znc O hk hP h3
  ·have hy : y ∈ Zj5 c t.c p (Zgv c (q :: r) ((Zd6 c t.c p).getD (.mk [] []))) := hy
   rcases Zi3 hy with hy | ⟨e, h | ⟨z, hz, e'⟩⟩
   ·exact WFC_iff.1 h4 y hy
   ·rw [e, h]; exact ⟨hP, hi⟩
   ·rw [e, ← e']; exact ⟨(WFC_iff.1 h4 z hz).1, hi⟩
theorem Zyf (l : List (α × ST α)) (p : α) (q : List α) : Zcn c ((Zd6 c l p).getD (.mk [] [])) q = (match Zd6 c l p with | some t' => Zcn c t' q | none => false) := by
 cases Zd6 c l p with
 | none => exact Zn2 q
 | some t => rfl
theorem Zrt (O : OrdL c P) : ∀ (p : List α) (t : ST α) (q : List α), (∀ x ∈ p, P x) → p ≠ [] → WFT c P t → PP P q → Zcn c (Zgv c p t) q = (Zcn c t q || decide (cw c p q = 0))
 | [], _, _, _, h, _, _ => absurd rfl h
 | [p], t, [q], hp, _, h, hq => by
  obtain ⟨h1, h2, h3, h4⟩ := WFT_iff.1 h
  rw [Zd7, Zd7]
  unfold Zgv
  show Za2 c (Zde c t.m p) q = _
  rw [Zwd O h1 (hp p (by simp)) (hq.2 q (by simp)), Zc7, Zc8 (show Zcg (en ([] : List α)) (en []) = 0 from rfl), show cw c ([] : List α) [] = 0 from rfl]
  congr 1
  unfold lx
  split <;> simp_all
 | [p], t, q :: z :: r, hp, _, h, hq => by
  rw [Zf3 _ _ (by simp), Zf3 _ _ (by simp)]
  unfold Zgv
  show _ = (_ || decide (lx (-1) _ = 0))
  rw [Zgm (show (-1 : Int) ≠ 0 by decide), decide_eq_false (show ¬ (-1 : Int) = 0 by decide), Bool.or_false]
  rfl
 | p :: z :: r, t, [q], hp, _, h, hq => by
  rw [Zd7, Zd7]
  unfold Zgv
  show _ = (_ || decide (lx 1 _ = 0))
  rw [Zgm (show (1 : Int) ≠ 0 by decide), decide_eq_false (show ¬ (1 : Int) = 0 by decide), Bool.or_false]
  rfl
 | p :: z :: r, t, q :: y :: w, hp, _, h, hq => by
  obtain ⟨h1, h2, h3, h4⟩ := WFT_iff.1 h
  have hP := hp p (by simp)
  have hQ := hq.2 q (by simp)
  have hk : ∀ x ∈ t.c, P x.1 := fun x hx => (WFC_iff.1 h4 x hx).1
  rw [Zf3 _ _ (by simp), Zf3 _ _ (by simp)]
  unfold Zgv
  show (match Zd6 c (Zj5 c t.c p (Zgv c (z :: r) ((Zd6 c t.c p).getD (.mk [] [])))) q with | some t' => Zcn c t' (y :: w) | none => false) = _
  rw [Yl0 O _ hk hP hQ, Zc7, Zc8 (show Zcg (en (z :: r)) (en (y :: w)) = 0 from rfl)]
  by_cases e : c p q = 0
  ·rw [if_pos e, Zc8 e]
   have hs : WFT c P ((Zd6 c t.c p).getD (.mk [] [])) := by
    cases hg : Zd6 c t.c p with
    | none => exact Zgy
    | some t' => exact Zrp h4 hg
   show Zcn c (Zgv c (z :: r) ((Zd6 c t.c p).getD (.mk [] []))) (y :: w) = _
   rw [Zrt O (z :: r) _ (y :: w) (fun x hx => hp x (by simp [hx])) (by simp) hs ⟨by simp, fun x hx => hq.2 x (by simp [hx])⟩, Zyf, Zwb O hk hP hQ e]
   first | done | rfl
  ·rw [if_neg e, Zgm e, decide_eq_false e, Bool.or_false]
   first | done | rfl
theorem Zup (O : OrdL c P) {t : ST α} (h : WFT c P t) {p : List α} (hp : PP P p) (hh : Zcn c t p = true) : Zer t ≠ [] := by
 cases p with
 | nil => exact absurd rfl hp.1
 | cons x q =>
  rw [← Zks O t h x q (hp.2 x (by simp)) fun z hz => hp.2 z (by simp [hz])] at hh
  intro e
  rw [e] at hh
  cases hh
theorem Ydm (O : OrdL c P) : ∀ (p : List α) (t : ST α), (∀ x ∈ p, P x) → WFT c P t → NET t → NET (Zgv c p t)
 | [], t, _, _, h => by unfold Zgv; exact h
 | [p], t, _, _, h => by unfold Zgv; exact NET_iff.2 fun y hy => NET_iff.1 h y hy
 | p :: q :: r, t, hp, hw, h => by
  unfold Zgv
  obtain ⟨h1, h2, h3, h4⟩ := WFT_iff.1 hw
  have hs : WFT c P ((Zd6 c t.c p).getD (.mk [] [])) ∧ NET ((Zd6 c t.c p).getD (.mk [] [])) := by
   cases hg : Zd6 c t.c p with
   | none => exact ⟨Zgy, NET_iff.2 (by simp [ST.c])⟩
   | some t' =>
    obtain ⟨k, hk, _⟩ := Zlp hg
    exact ⟨Zrp h4 hg, (NET_iff.1 h _ hk).2⟩
  have hq : ∀ x ∈ q :: r, P x := fun x hx => hp x (by simp [hx])
  refine NET_iff.2 fun y hy => ?_
  have hy : y ∈ Zj5 c t.c p (Zgv c (q :: r) ((Zd6 c t.c p).getD (.mk [] []))) := hy
  rcases Zi3 hy with hy | ⟨e, _⟩
  ·exact NET_iff.1 h y hy
  ·rw [e]
   refine ⟨Zup O (Zwg O _ _ hq hs.1) ⟨by simp, hq⟩ ?_, Ydm O _ _ hq hs.1 hs.2⟩
   rw [Zrt O _ _ _ hq (by simp) hs.1 ⟨by simp, hq⟩, (Yey O).self ⟨by simp, hq⟩]
   simp
theorem Zsa (O : OrdL c P) : ∀ (ps : List (List α)) (t : ST α), (∀ p ∈ ps, ∀ x ∈ p, P x) → WFT c P t → NET t → WFT c P (ps.foldl (fun t p => Zgv c p t) t) ∧ NET (ps.foldl (fun t p => Zgv c p t) t) ∧ ∀ q, PP P q → Zcn c (ps.foldl (fun t p => Zgv c p t) t) q = (Zcn c t q || Za2 (cw c) ps q)
 | [], t, _, h, hn => ⟨h, hn, fun q _ => by simp [Za2]⟩
 | p :: r, t, hp, h, hn => by
  have h1 : ∀ x ∈ p, P x := hp p (by simp)
  obtain ⟨g1, g2, g3⟩ := Zsa O r (Zgv c p t) (fun q hq => hp q (by simp [hq])) (Zwg O p t h1 h) (Ydm O p t h1 h hn)
  rw [List.foldl_cons]
  refine ⟨g1, g2, fun q hq => ?_⟩
  rw [g3 q hq, Zb8]
  by_cases e : p = []
  ·subst e
   have : cw c ([] : List α) q ≠ 0 := by
    cases q with
    | nil => exact absurd rfl hq.1
    | cons _ _ => exact (show (-1 : Int) ≠ 0 by decide)
   rw [decide_eq_false this]
   unfold Zgv
   simp
  ·rw [Zrt O p t q h1 e h hq, Bool.or_assoc]
variable {ps : List (List α)}
theorem Yd7 (O : OrdL c P) (h : ∀ p ∈ ps, ∀ x ∈ p, P x) : WFT c P (ofP c ps) := (Zsa O ps _ h Zgy (NET_iff.2 (by simp [ST.c]))).1
theorem Ymx (O : OrdL c P) (h : ∀ p ∈ ps, ∀ x ∈ p, P x) : NET (ofP c ps) := (Zsa O ps _ h Zgy (NET_iff.2 (by simp [ST.c]))).2.1
theorem Ymz (O : OrdL c P) (h : ∀ p ∈ ps, ∀ x ∈ p, P x) {q : List α} (hq : PP P q) : Zcn c (ofP c ps) q = Za2 (cw c) ps q := by
 unfold ofP
 rw [(Zsa O ps _ h Zgy (NET_iff.2 (by simp [ST.c]))).2.2 q hq, Zn2, Bool.false_or]
end
end Go.Proofs.YtgmahieoiifpfaaGreat
end
section
namespace Go.Proofs.YtgmahieoiifpfaaGreat
section
variable {α : Type} {c : α → α → Int}
mutual
/-- No list of the set is longer than n. -/
def SzT (n : Nat) : ST α → Prop
 | .mk m ch => m.length ≤ n ∧ ch.length ≤ n ∧ SzC n ch
def SzC (n : Nat) : List (α × ST α) → Prop
 | [] => True
 | y :: r => SzT n y.2 ∧ SzC n r
end
theorem Yks {n : Nat} {l : List (α × ST α)} : SzC n l ↔ ∀ y ∈ l, SzT n y.2 := by
 induction l with
 | nil => unfold SzC; simp
 | cons y r ih => unfold SzC; rw [ih]; simp
theorem SzT_iff {n : Nat} {t : ST α} : SzT n t ↔ t.m.length ≤ n ∧ t.c.length ≤ n ∧ ∀ y ∈ t.c, SzT n y.2 := by
 cases t
 rw [SzT, Yks]
 rfl
theorem Zyz {n : Nat} : SzT n (ST.mk [] [] : ST α) := by rw [SzT_iff]; simp [ST.m, ST.c]
theorem Ylz {n : Nat} {l : List (α × ST α)} (h : ∀ y ∈ l, SzT n y.2) {x : α} {t : ST α} (hx : Zd6 c l x = some t) : SzT n t := by
 obtain ⟨k, h1, _⟩ := Zlp hx
 exact h _ h1
theorem Zye {n : Nat} {l : List (α × ST α)} (h : ∀ y ∈ l, SzT n y.2) {x : α} : SzT n ((Zd6 c l x).getD (.mk [] [])) := by
 cases hx : Zd6 c l x with
 | none => exact Zyz
 | some t => exact Ylz h hx
theorem Zwf : ∀ (l : List α) (p : α), (Zde c l p).length ≤ l.length + 1
 | [], p => by simp [Zde]
 | x :: r, p => by
  unfold Zde
  have := Zwf r p
  split
  ·simp; omega
  ·split <;> simp
mutual
theorem Zj8 {n k : Nat} (h : n ≤ k) : ∀ (t : ST α), SzT n t → SzT k t
 | .mk m ch, ht => by
  unfold SzT at ht ⊢
  exact ⟨by omega, by omega, Zxd h ch ht.2.2⟩
theorem Zxd {n k : Nat} (h : n ≤ k) : ∀ (l : List (α × ST α)), SzC n l → SzC k l
 | [], _ => by unfold SzC; trivial
 | y :: r, ht => by
  unfold SzC at ht ⊢
  exact ⟨Zj8 h y.2 ht.1, Zxd h r ht.2⟩
end
theorem Ydn {n : Nat} : ∀ (p : List α) (t : ST α), SzT n t → SzT (n + 1) (Zgv c p t)
 | [], t, h => by unfold Zgv; exact Zj8 (by omega) t h
 | [p], t, h => by
  obtain ⟨h1, h2, h3⟩ := SzT_iff.1 h
  unfold Zgv
  rw [SzT_iff]
  have := Zwf (c := c) t.m p
  exact ⟨by show (Zde c t.m p).length ≤ n + 1; omega, by show t.c.length ≤ n + 1; omega, fun y hy => Zj8 (by omega) _ (h3 y hy)⟩
 | p :: q :: r, t, h => by
  obtain ⟨h1, h2, h3⟩ := SzT_iff.1 h
  unfold Zgv
  rw [SzT_iff]
  have hl := Zym (c := c) t.c p (Zgv c (q :: r) ((Zd6 c t.c p).getD (.mk [] [])))
  refine ⟨by show t.m.length ≤ n + 1; omega, by show (Zj5 c t.c p _).length ≤ n + 1; omega, fun y hy => ?_⟩
  rcases Zi3 hy with h | ⟨h, _⟩
  ·exact Zj8 (by omega) _ (h3 y h)
  ·rw [h]
   exact Ydn (q :: r) _ (Zye h3)
end
end Go.Proofs.YtgmahieoiifpfaaGreat
end
section
namespace Go.Proofs.YtgmahieoiifpfaaGreat
section
variable {α γ : Type} (c : α → α → Int) (k : γ → α)
def Zb4 (l : List γ) (q : α) : Option γ := l.find? fun z => decide (c (k z) q = 0)
variable (fl fr : γ → Option γ) (fb : γ → γ → Option γ)
def mrg : List γ → List γ → List γ
 | [], b => b.filterMap fr
 | x :: a, [] => (x :: a).filterMap fl
 | x :: a, y :: b => if c (k x) (k y) < 0 then (fl x).toList ++ mrg a (y :: b) else if c (k y) (k x) < 0 then (fr y).toList ++ mrg (x :: a) b else (fb x y).toList ++ mrg a b
termination_by a b => a.length + b.length
def Ykb (f g : Option γ) : Option γ := match f, g with
 | none, none => none
 | some x, none => fl x
 | none, some y => fr y
 | some x, some y => fb x y
variable {c k fl fr fb} {P : α → Prop}
theorem Zg3 (b : List γ) : mrg c k fl fr fb [] b = b.filterMap fr := by rw [mrg]
theorem Zfj (a : List γ) : mrg c k fl fr fb a [] = a.filterMap fl := by
 cases a with
 | nil => rw [mrg]; rfl
 | cons x a => rw [mrg]
theorem Zfi (x y : γ) (a b : List γ) : mrg c k fl fr fb (x :: a) (y :: b) = if c (k x) (k y) < 0 then (fl x).toList ++ mrg c k fl fr fb a (y :: b) else if c (k y) (k x) < 0 then (fr y).toList ++ mrg c k fl fr fb (x :: a) b else (fb x y).toList ++ mrg c k fl fr fb a b := by rw [mrg]
theorem Zdf (x : γ) (l : List γ) (q : α) : Zb4 c k (x :: l) q = if c (k x) q = 0 then some x else Zb4 c k l q := by
 unfold Zb4
 rw [List.find?_cons]
 by_cases h : c (k x) q = 0
 ·rw [if_pos h, decide_eq_true h]
 ·rw [if_neg h, decide_eq_false h]
theorem Zts (q : α) : Zb4 c k [] q = none := rfl
theorem Zkk {o : Option γ} {x : α} {l : List γ} {q : α} (h : ∀ z, o = some z → c (k z) q = c x q) : Zb4 c k (o.toList ++ l) q = if c x q = 0 then o.or (Zb4 c k l q) else Zb4 c k l q := by
 cases o with
 | none => simp
 | some z =>
  show Zb4 c k (z :: l) q = _
  rw [Zdf, h z rfl]
  rfl
theorem Zf8 {l : List γ} {q : α} (h : ∀ z ∈ l, c (k z) q ≠ 0) : Zb4 c k l q = none := by
 unfold Zb4
 rw [List.find?_eq_none]
 intro z hz
 simpa using h z hz
theorem Zhb {l : List γ} {q : α} {z : γ} (h : Zb4 c k l q = some z) : z ∈ l ∧ c (k z) q = 0 := by
 unfold Zb4 at h
 exact ⟨List.mem_of_find?_eq_some h, by simpa using List.find?_some h⟩
theorem Zrl {f : γ → Option γ} (hf : ∀ x z, f x = some z → k z = k x) : ∀ {l : List γ} (q : α), Srt c (l.map k) → OrdL c P → (∀ x ∈ l, P (k x)) → P q → Zb4 c k (l.filterMap f) q = (match Zb4 c k l q with | some x => f x | none => none)
 | [], q, _, _, _, _ => rfl
 | x :: l, q, hs, O, hP, hq => by
  rw [List.map_cons, Zek] at hs
  have hx := hP x (by simp)
  have hl : ∀ z ∈ l, P (k z) := fun z hz => hP z (by simp [hz])
  have ih := Zrl hf q hs.2 O hl hq
  have e : (x :: l).filterMap f = (f x).toList ++ l.filterMap f := by
   rw [List.filterMap_cons]
   cases f x <;> rfl
  rw [e, Zkk (x := k x) fun z hz => by rw [hf x z hz], Zdf, ih]
  by_cases h : c (k x) q = 0
  ·rw [if_pos h, if_pos h]
   have hn : Zb4 c k l q = none := Zf8 fun z hz h0 => by
    have h1 := hs.1 (k z) (List.mem_map.2 ⟨z, hz, rfl⟩)
    have h2 := (O.tri (k x) (k z) q hx (hl z hz) hq)
    have h3 := O.swp (k z) q (hl z hz) hq
    have h4 := h2.zq h0
    omega
   rw [hn]
   simp only
   cases f x <;> rfl
  ·rw [if_neg h, if_neg h]
variable (hl : ∀ x z, fl x = some z → k z = k x) (hr : ∀ y z, fr y = some z → k z = k y) (hb : ∀ x y z, fb x y = some z → k z = k x ∨ k z = k y)
theorem Zlx : ∀ (a b : List γ) {z : γ}, z ∈ mrg c k fl fr fb a b → (∃ x ∈ a, fl x = some z) ∨ (∃ y ∈ b, fr y = some z) ∨ ∃ x ∈ a, ∃ y ∈ b, fb x y = some z
 | [], b, z, h => by
  rw [Zg3, List.mem_filterMap] at h
  exact .inr (.inl h)
 | x :: a, [], z, h => by
  rw [Zfj, List.mem_filterMap] at h
  exact .inl h
 | x :: a, y :: b, z, h => by
  rw [Zfi] at h
  split at h
  ·rcases List.mem_append.1 h with h | h
   ·exact .inl ⟨x, by simp, by simpa using h⟩
   ·rcases Zlx a (y :: b) h with ⟨u, h1, h2⟩ | h | ⟨u, h1, h2⟩
    ·exact .inl ⟨u, by simp [h1], h2⟩
    ·exact .inr (.inl h)
    ·exact .inr (.inr ⟨u, by simp [h1], h2⟩)
  ·split at h
   ·rcases List.mem_append.1 h with h | h
    ·exact .inr (.inl ⟨y, by simp, by simpa using h⟩)
    ·rcases Zlx (x :: a) b h with h | ⟨u, h1, h2⟩ | ⟨u, h1, v, h2, h3⟩
     ·exact .inl h
     ·exact .inr (.inl ⟨u, by simp [h1], h2⟩)
     ·exact .inr (.inr ⟨u, h1, v, by simp [h2], h3⟩)
   ·rcases List.mem_append.1 h with h | h
    ·exact .inr (.inr ⟨x, by simp, y, by simp, by simpa using h⟩)
    ·rcases Zlx a b h with ⟨u, h1, h2⟩ | ⟨u, h1, h2⟩ | ⟨u, h1, v, h2, h3⟩
     ·exact .inl ⟨u, by simp [h1], h2⟩
     ·exact .inr (.inl ⟨u, by simp [h1], h2⟩)
     ·exact .inr (.inr ⟨u, by simp [h1], v, by simp [h2], h3⟩)
termination_by a b => a.length + b.length
include hl hr hb
theorem Zr7 {a b : List γ} {z : γ} (h : z ∈ mrg c k fl fr fb a b) : (∃ x ∈ a, k z = k x) ∨ ∃ y ∈ b, k z = k y := by
 rcases Zlx a b h with ⟨x, h1, h2⟩ | ⟨x, h1, h2⟩ | ⟨x, h1, y, h2, h3⟩
 ·exact .inl ⟨x, h1, hl _ _ h2⟩
 ·exact .inr ⟨x, h1, hr _ _ h2⟩
 ·rcases hb _ _ _ h3 with h | h
  ·exact .inl ⟨x, h1, h⟩
  ·exact .inr ⟨y, h2, h⟩
omit hl hr hb in
theorem Yf1 {f : γ → Option γ} (hf : ∀ x z, f x = some z → k z = k x) : ∀ {l : List γ}, Srt c (l.map k) → Srt c ((l.filterMap f).map k)
 | [], _ => List.Pairwise.nil
 | x :: l, hs => by
  rw [List.map_cons, Zek] at hs
  have ih := Yf1 hf hs.2
  rw [List.filterMap_cons]
  cases hx : f x with
  | none => exact ih
  | some z =>
   show Srt c (k z :: (l.filterMap f).map k)
   rw [Zek, hf x z hx]
   refine ⟨fun y hy => ?_, ih⟩
   obtain ⟨u, hu, rfl⟩ := List.mem_map.1 hy
   obtain ⟨v, hv, e⟩ := List.mem_filterMap.1 hu
   rw [hf v u e]
   exact hs.1 _ (List.mem_map.2 ⟨v, hv, rfl⟩)
omit hl hr hb in
theorem Zw1 {o : Option γ} {l : List γ} (h : ∀ z, o = some z → ∀ y ∈ l, c (k z) (k y) < 0) (hs : Srt c (l.map k)) : Srt c ((o.toList ++ l).map k) := by
 cases o with
 | none => exact hs
 | some z =>
  show Srt c (k z :: l.map k)
  rw [Zek]
  refine ⟨fun y hy => ?_, hs⟩
  obtain ⟨u, hu, rfl⟩ := List.mem_map.1 hy
  exact h z rfl u hu
theorem Zly (O : OrdL c P) : ∀ (a b : List γ), (∀ x ∈ a, P (k x)) → (∀ x ∈ b, P (k x)) → Srt c (a.map k) → Srt c (b.map k) → Srt c ((mrg c k fl fr fb a b).map k)
 | [], b, _, _, _, hs => by rw [Zg3]; exact Yf1 hr hs
 | x :: a, [], _, _, hs, _ => by rw [Zfj]; exact Yf1 hl hs
 | x :: a, y :: b, ha, hb', hs, ht => by
  have hs' := hs
  have ht' := ht
  rw [List.map_cons, Zek] at hs ht
  have hx := ha x (by simp)
  have hy := hb' y (by simp)
  have hra : ∀ z ∈ a, P (k z) := fun z hz => ha z (by simp [hz])
  have hrb : ∀ z ∈ b, P (k z) := fun z hz => hb' z (by simp [hz])
  have xa : ∀ z ∈ a, c (k x) (k z) < 0 := fun z hz => hs.1 _ (List.mem_map.2 ⟨z, hz, rfl⟩)
  have yb : ∀ z ∈ b, c (k y) (k z) < 0 := fun z hz => ht.1 _ (List.mem_map.2 ⟨z, hz, rfl⟩)
  rw [Zfi]
  split
  ·rename_i h
   refine Zw1 (fun z hz u hu => ?_) (Zly O a (y :: b) hra hb' hs.2 ht')
   rw [hl x z hz]
   rcases Zr7 hl hr hb hu with ⟨v, hv, e⟩ | ⟨v, hv, e⟩
   ·rw [e]; exact xa v hv
   ·rw [e]
    rcases List.mem_cons.1 hv with rfl | hv
    ·exact h
    ·exact O.lt hx hy (hrb v hv) h (yb v hv)
  ·split
   ·rename_i h0 h
    refine Zw1 (fun z hz u hu => ?_) (Zly O (x :: a) b ha hrb hs' ht.2)
    rw [hr y z hz]
    rcases Zr7 hl hr hb hu with ⟨v, hv, e⟩ | ⟨v, hv, e⟩
    ·rw [e]
     rcases List.mem_cons.1 hv with rfl | hv
     ·exact h
     ·exact O.lt hy hx (hra v hv) h (xa v hv)
    ·rw [e]; exact yb v hv
   ·rename_i h0 h
    have hxy : c (k x) (k y) = 0 := by have := O.swp (k x) (k y) hx hy; omega
    have xb : ∀ v ∈ b, c (k x) (k v) < 0 := fun v hv => by rw [(O.tri (k x) (k y) (k v) hx hy (hrb v hv)).zp hxy]; exact yb v hv
    have ya : ∀ v ∈ a, c (k y) (k v) < 0 := fun v hv => by rw [← (O.tri (k x) (k y) (k v) hx hy (hra v hv)).zp hxy]; exact xa v hv
    refine Zw1 (fun z hz u hu => ?_) (Zly O a b hra hrb hs.2 ht.2)
    rcases Zr7 hl hr hb hu with ⟨v, hv, e⟩ | ⟨v, hv, e⟩ <;> rcases hb x y z hz with e' | e' <;> rw [e, e']
    ·exact xa v hv
    ·exact ya v hv
    ·exact xb v hv
    ·exact yb v hv
termination_by a b => a.length + b.length
theorem Zi5 (O : OrdL c P) {q : α} (hq : P q) : ∀ (a b : List γ), (∀ x ∈ a, P (k x)) → (∀ x ∈ b, P (k x)) → Srt c (a.map k) → Srt c (b.map k) → Zb4 c k (mrg c k fl fr fb a b) q = Ykb fl fr fb (Zb4 c k a q) (Zb4 c k b q)
 | [], b, _, hP, _, hs => by
  rw [Zg3, Zrl hr q hs O hP hq, Zts]
  unfold Ykb
  cases Zb4 c k b q <;> rfl
 | x :: a, [], hP, _, hs, _ => by
  rw [Zfj, Zrl hl q hs O hP hq, Zts]
  unfold Ykb
  cases Zb4 c k (x :: a) q <;> rfl
 | x :: a, y :: b, ha, hb', hs, ht => by
  have hs' := hs
  have ht' := ht
  rw [List.map_cons, Zek] at hs ht
  have hx := ha x (by simp)
  have hy := hb' y (by simp)
  have hra : ∀ z ∈ a, P (k z) := fun z hz => ha z (by simp [hz])
  have hrb : ∀ z ∈ b, P (k z) := fun z hz => hb' z (by simp [hz])
  have xa : ∀ z ∈ a, c (k x) (k z) < 0 := fun z hz => hs.1 _ (List.mem_map.2 ⟨z, hz, rfl⟩)
  have yb : ∀ z ∈ b, c (k y) (k z) < 0 := fun z hz => ht.1 _ (List.mem_map.2 ⟨z, hz, rfl⟩)
  have ne : ∀ {u v : α}, P u → P v → c u v < 0 → c u q = 0 → c v q ≠ 0 := fun {u v} hu hv h1 h2 h3 => by
   have h4 := (O.tri u v q hu hv hq).zq h3
   omega
  have na : c (k x) q = 0 → Zb4 c k a q = none := fun h => Zf8 fun z hz => ne hx (hra z hz) (xa z hz) h
  have nb : c (k y) q = 0 → Zb4 c k b q = none := fun h => Zf8 fun z hz => ne hy (hrb z hz) (yb z hz) h
  rw [Zfi]
  split
  ·rename_i h
   rw [Zkk (x := k x) fun z hz => by rw [hl x z hz], Zi5 O hq a (y :: b) hra hb' hs.2 ht', Zdf x a]
   by_cases e : c (k x) q = 0
   ·have n2 : Zb4 c k (y :: b) q = none := Zf8 fun z hz => by
     rcases List.mem_cons.1 hz with rfl | hz
     ·exact ne hx hy h e
     ·exact ne hx (hrb z hz) (O.lt hx hy (hrb z hz) h (yb z hz)) e
    rw [if_pos e, if_pos e, na e, n2]
    show (fl x).or none = fl x
    cases fl x <;> rfl
   ·rw [if_neg e, if_neg e]
  ·split
   ·rename_i h0 h
    rw [Zkk (x := k y) fun z hz => by rw [hr y z hz], Zi5 O hq (x :: a) b ha hrb hs' ht.2, Zdf y b]
    by_cases e : c (k y) q = 0
    ·have n2 : Zb4 c k (x :: a) q = none := Zf8 fun z hz => by
      rcases List.mem_cons.1 hz with rfl | hz
      ·exact ne hy hx h e
      ·exact ne hy (hra z hz) (O.lt hy hx (hra z hz) h (xa z hz)) e
     rw [if_pos e, if_pos e, nb e, n2]
     show (fr y).or none = fr y
     cases fr y <;> rfl
    ·rw [if_neg e, if_neg e]
   ·rename_i h0 h
    have hxy : c (k x) (k y) = 0 := by have := O.swp (k x) (k y) hx hy; omega
    have exy : c (k x) q = c (k y) q := (O.tri (k x) (k y) q hx hy hq).zp hxy
    rw [Zkk (x := k x) fun z hz => by rcases hb x y z hz with e | e <;> rw [e]; exact exy.symm, Zi5 O hq a b hra hrb hs.2 ht.2, Zdf x a, Zdf y b, ← exy]
    by_cases e : c (k x) q = 0
    ·rw [if_pos e, if_pos e, if_pos e, na e, nb (by rw [← exy]; exact e)]
     show (fb x y).or none = fb x y
     cases fb x y <;> rfl
    ·rw [if_neg e, if_neg e, if_neg e]
termination_by a b => a.length + b.length
omit hl hr hb in
end
end Go.Proofs.YtgmahieoiifpfaaGreat
end
section
namespace Go.Proofs.YtgmahieoiifpfaaGreat
section
variable {α : Type}
mutual
/-- How deep a set goes. -/
def dpT : ST α → Nat
 | .mk m ch => dpC ch
def dpC : List (α × ST α) → Nat
 | [] => 0
 | y :: r => max (dpT y.2 + 1) (dpC r)
end
theorem Zri : ∀ {l : List (α × ST α)} {y : α × ST α}, y ∈ l → dpT y.2 + 1 ≤ dpC l
 | z :: r, y, h => by
  unfold dpC
  rcases List.mem_cons.1 h with rfl | h
  ·omega
  ·have := Zri h; omega
theorem Yct {l : List (α × ST α)} {d : Nat} (h : ∀ y ∈ l, dpT y.2 + 1 ≤ d) : dpC l ≤ d := by
 induction l with
 | nil => unfold dpC; omega
 | cons y r ih =>
  unfold dpC
  have := h y (by simp)
  have := ih fun z hz => h z (by simp [hz])
  omega
theorem Ztm (t : ST α) : dpT t = dpC t.c := by cases t; unfold dpT; rfl
theorem Zdi {t : ST α} {y : α × ST α} (h : y ∈ t.c) : dpT y.2 < dpT t := by
 have := Zri h
 rw [Ztm t]; omega
mutual
/-- The set is empty. -/
def emT : ST α → Bool
 | .mk m ch => m.isEmpty && emC ch
def emC : List (α × ST α) → Bool
 | [] => true
 | y :: r => emT y.2 && emC r
end
mutual
theorem Zkj : ∀ (t : ST α), emT t = true ↔ Zer t = []
 | .mk m ch => by
  unfold emT Zer
  rw [Bool.and_eq_true, Zx2 ch, List.append_eq_nil_iff, List.map_eq_nil_iff, List.isEmpty_iff]
theorem Zx2 : ∀ (l : List (α × ST α)), emC l = true ↔ Zby l = []
 | [] => by unfold emC Zby; simp
 | y :: r => by
  unfold emC Zby
  rw [Bool.and_eq_true, Zx2 r, Zkj y.2, List.append_eq_nil_iff, List.map_eq_nil_iff]
end
variable (c : α → α → Int) {P : α → Prop}
variable (kl kr kb : Bool)
def opM (a b : List α) : List α := mrg c id (fun x => if kl then some x else none) (fun y => if kr then some y else none) (fun x y => if kb then some (if kr then y else x) else none) a b
def opN : Nat → ST α → ST α → ST α
 | 0, s, _ => s
 | n + 1, s, t => .mk (opM c kl kr kb s.m t.m) (mrg c Prod.fst (fun x => if kl then some x else none) (fun y => if kr then some y else none) (fun x y => if kr || !emT (opN n x.2 y.2) then some (x.1, opN n x.2 y.2) else none) s.c t.c)
def opB (a b : Bool) : Bool := (kl && a && !b) || (kr && !a && b) || (kb && a && b)
def Zpx : ST α → List α → Bool
 | _, [] => false
 | t, p :: q => Za2 c t.m p || (match Zd6 c t.c p with | some t' => Zpx t' q | none => false)
def rdN : Nat → ST α → ST α → ST α
 | 0, s, _ => s
 | n + 1, s, t => .mk (opM c true false false s.m t.m) (mrg c Prod.fst (fun x => if Za2 c t.m x.1 then none else some x) (fun _ => none) (fun x y => if Za2 c t.m x.1 then none else if emT (rdN n x.2 y.2) then none else some (x.1, rdN n x.2 y.2)) s.c t.c)
variable {c kl kr kb}
theorem kA {γ : Type} (k : γ → α) (b : Bool) (x z : γ) (h : (if b then some x else none) = some z) : k z = k x := by
 cases b with
 | true => cases h; rfl
 | false => cases h
theorem mB (x y z : α) (h : (if kb then some (if kr then y else x) else none) = some z) : id z = id x ∨ id z = id y := by
 cases kb with
 | true =>
  cases kr with
  | true => cases h; exact .inr rfl
  | false => cases h; exact .inl rfl
 | false => cases h
theorem nB {n : Nat} (x y z : α × ST α) (h : (if kr || !emT (opN c kl kr kb n x.2 y.2) then some (x.1, opN c kl kr kb n x.2 y.2) else none) = some z) : z.1 = x.1 ∨ z.1 = y.1 := by
 split at h
 ·cases h; exact .inl rfl
 ·cases h
theorem rL {m : List α} (x z : α × ST α) (h : (if Za2 c m x.1 then none else some x) = some z) : z.1 = x.1 := by
 split at h
 ·cases h
 ·cases h; rfl
theorem rB {m : List α} {n : Nat} (x y z : α × ST α) (h : (if Za2 c m x.1 then none else if emT (rdN c n x.2 y.2) then none else some (x.1, rdN c n x.2 y.2)) = some z) : z.1 = x.1 ∨ z.1 = y.1 := by
 split at h
 ·cases h
 ·split at h
  ·cases h
  ·cases h; exact .inl rfl
theorem Zrs (l : List α) (q : α) : Za2 c l q = (Zb4 c id l q).isSome := by
 induction l with
 | nil => rfl
 | cons x l ih =>
  rw [Zb8, Zdf, ih]
  show _ = (if c x q = 0 then some x else Zb4 c id l q).isSome
  by_cases h : c x q = 0
  ·rw [decide_eq_true h, if_pos h]; rfl
  ·rw [decide_eq_false h, if_neg h]; rfl
theorem Zny {β : Type} (O : OrdL c P) : ∀ {l : List (α × β)} {q : α}, Srt c (l.map Prod.fst) → (∀ x ∈ l, P x.1) → P q → Zd6 c l q = (Zb4 c Prod.fst l q).map Prod.snd
 | [], q, _, _, _ => rfl
 | x :: l, q, hs, hP, hq => by
  have hs' := hs
  rw [List.map_cons, Zek] at hs
  have ih := Zny O hs.2 (fun z hz => hP z (by simp [hz])) hq
  rw [Zty, Zdf, ih]
  by_cases h1 : c x.1 q < 0
  ·rw [if_pos h1, if_neg (by omega)]
  ·rw [if_neg h1]
   by_cases h2 : c x.1 q = 0
   ·rw [if_pos h2, if_pos h2]; rfl
   ·rw [if_neg h2, if_neg h2, Zf8]
    ·rfl
    ·intro z hz h0
     have := Zzm O (hP x (by simp)) (fun u hu => by obtain ⟨v, hv, rfl⟩ := List.mem_map.1 hu; exact hP v (by simp [hv])) hq hs' h1 z.1 (List.mem_map.2 ⟨z, hz, rfl⟩)
     omega
theorem Zex (O : OrdL c P) {t : ST α} (h : WFT c P t) {p : α} {q : List α} (hp : P p) (hq : q ≠ []) : Zcn c t (p :: q) = (match Zb4 c Prod.fst t.c p with | some y => Zcn c y.2 q | none => false) := by
 obtain ⟨h1, h2, h3, h4⟩ := WFT_iff.1 h
 rw [Zf3 _ _ hq, Zny O h3 (fun x hx => (WFC_iff.1 h4 x hx).1) hp]
 cases Zb4 c Prod.fst t.c p <;> rfl
theorem Zth (O : OrdL c P) {t : ST α} (h : WFT c P t) {p : α} {q : List α} (hp : P p) : Zpx c t (p :: q) = (Za2 c t.m p || (match Zb4 c Prod.fst t.c p with | some y => Zpx c y.2 q | none => false)) := by
 obtain ⟨h1, h2, h3, h4⟩ := WFT_iff.1 h
 conv => lhs; unfold Zpx
 rw [Zny O h3 (fun x hx => (WFC_iff.1 h4 x hx).1) hp]
 cases Zb4 c Prod.fst t.c p <;> rfl
theorem Zt1 (O : OrdL c P) {t : ST α} (h : WFT c P t) (he : emT t = true) {q : List α} (hq : ∀ x ∈ q, P x) : Zcn c t q = false := by
 cases q with
 | nil => exact Yhq t
 | cons p q =>
  rw [← Zks O t h p q (hq p (by simp)) fun x hx => hq x (by simp [hx]), (Zkj t).1 he]
  rfl
theorem Yea (O : OrdL c P) {a b : List α} (ha : ∀ x ∈ a, P x) (hb : ∀ x ∈ b, P x) (hs : Srt c a) (ht : Srt c b) {q : α} (hq : P q) : Za2 c (opM c kl kr kb a b) q = opB kl kr kb (Za2 c a q) (Za2 c b q) := by
 rw [Zrs, Zrs, Zrs]
 unfold opM
 rw [Zi5 (P := P) (c := c) (k := id) (kA id kl) (kA id kr) mB O hq a b ha hb (by simpa using hs) (by simpa using ht)]
 unfold Ykb opB
 cases Zb4 c id a q <;> cases Zb4 c id b q <;> cases kl <;> cases kr <;> cases kb <;> rfl
theorem Yeb {a b : List α} {z : α} (h : z ∈ opM c kl kr kb a b) : z ∈ a ∨ z ∈ b := by
 rcases Zr7 (c := c) (k := id) (kA id kl) (kA id kr) mB h with ⟨x, h1, h2⟩ | ⟨x, h1, h2⟩
 ·have h2 : z = x := h2
  exact .inl (h2 ▸ h1)
 ·have h2 : z = x := h2
  exact .inr (h2 ▸ h1)
theorem Yec (O : OrdL c P) {a b : List α} (ha : ∀ x ∈ a, P x) (hb : ∀ x ∈ b, P x) (hs : Srt c a) (ht : Srt c b) : Srt c (opM c kl kr kb a b) := by
 have := Zly (P := P) (c := c) (k := id) (fl := fun x => if kl then some x else none) (fr := fun y => if kr then some y else none) (fb := fun x y => if kb then some (if kr then y else x) else none) (kA id kl) (kA id kr) mB O a b ha hb (by simpa using hs) (by simpa using ht)
 unfold opM
 simpa using this
section
variable {n : Nat} {s t : ST α}
theorem Zol : opN c kl kr kb (n + 1) s t = .mk (opM c kl kr kb s.m t.m) (mrg c Prod.fst (fun x => if kl then some x else none) (fun y => if kr then some y else none) (fun x y => if kr || !emT (opN c kl kr kb n x.2 y.2) then some (x.1, opN c kl kr kb n x.2 y.2) else none) s.c t.c) := by conv => lhs; unfold opN
theorem Zo1 : rdN c (n + 1) s t = .mk (opM c true false false s.m t.m) (mrg c Prod.fst (fun x => if Za2 c t.m x.1 then none else some x) (fun _ => none) (fun x y => if Za2 c t.m x.1 then none else if emT (rdN c n x.2 y.2) then none else some (x.1, rdN c n x.2 y.2)) s.c t.c) := by conv => lhs; unfold rdN
theorem Zwr {y : α × ST α} (h : y ∈ (opN c kl kr kb (n + 1) s t).c) : y ∈ s.c ∨ y ∈ t.c ∨ ∃ u ∈ s.c, ∃ v ∈ t.c, y = (u.1, opN c kl kr kb n u.2 v.2) ∧ (kr = true ∨ emT (opN c kl kr kb n u.2 v.2) = false) := by
 rw [Zol] at h
 rcases Zlx (c := c) (k := Prod.fst) _ _ h with ⟨x, h1, h2⟩ | ⟨x, h1, h2⟩ | ⟨x, h1, u, h2, h3⟩
 ·left
  split at h2
  ·cases h2; exact h1
  ·cases h2
 ·right; left
  split at h2
  ·cases h2; exact h1
  ·cases h2
 ·right; right
  split at h3
  ·rename_i hk
   cases h3
   exact ⟨x, h1, u, h2, rfl, by simpa using hk⟩
  ·cases h3
theorem Zwy {y : α × ST α} (h : y ∈ (rdN c (n + 1) s t).c) : y ∈ s.c ∨ ∃ u ∈ s.c, ∃ v ∈ t.c, y = (u.1, rdN c n u.2 v.2) ∧ emT (rdN c n u.2 v.2) = false := by
 rw [Zo1] at h
 rcases Zlx (c := c) (k := Prod.fst) _ _ h with ⟨x, h1, h2⟩ | ⟨x, h1, h2⟩ | ⟨x, h1, u, h2, h3⟩
 ·left
  split at h2
  ·cases h2
  ·cases h2; exact h1
 ·cases h2
 ·right
  split at h3
  ·cases h3
  ·split at h3
   ·cases h3
   ·rename_i hk
    cases h3
    exact ⟨x, h1, u, h2, rfl, by simpa using hk⟩
theorem Zdq {x : α × ST α} (h : WFT c P t) (hx : x ∈ t.c) : P x.1 ∧ WFT c P x.2 := WFC_iff.1 (WFT_iff.1 h).2.2.2 x hx
end
theorem Zj0 (O : OrdL c P) : ∀ (n : Nat) (s t : ST α), WFT c P s → WFT c P t → WFT c P (opN c kl kr kb n s t)
 | 0, s, t, hs, _ => by unfold opN; exact hs
 | n + 1, s, t, hs, ht => by
  obtain ⟨a1, a2, a3, a4⟩ := WFT_iff.1 hs
  obtain ⟨b1, b2, b3, b4⟩ := WFT_iff.1 ht
  refine WFT_iff.2 ⟨?_, ?_, ?_, WFC_iff.2 fun y hy => ?_⟩
  ·rw [Zol]
   intro x hx
   rcases Yeb hx with h | h
   ·exact a1 x h
   ·exact b1 x h
  ·rw [Zol]
   exact Yec O a1 b1 a2 b2
  ·rw [Zol]
   exact Zly (kA Prod.fst kl) (kA Prod.fst kr) nB O s.c t.c (fun x hx => (Zdq hs hx).1) (fun x hx => (Zdq ht hx).1) a3 b3
  ·rcases Zwr hy with h | h | ⟨u, hu, v, hv, e, _⟩
   ·exact Zdq hs h
   ·exact Zdq ht h
   ·rw [e]
    exact ⟨(Zdq hs hu).1, Zj0 O n u.2 v.2 (Zdq hs hu).2 (Zdq ht hv).2⟩
theorem Zsi (O : OrdL c P) : ∀ (n : Nat) (s t : ST α), WFT c P s → WFT c P t → WFT c P (rdN c n s t)
 | 0, s, t, hs, _ => by unfold rdN; exact hs
 | n + 1, s, t, hs, ht => by
  obtain ⟨a1, a2, a3, a4⟩ := WFT_iff.1 hs
  obtain ⟨b1, b2, b3, b4⟩ := WFT_iff.1 ht
  refine WFT_iff.2 ⟨?_, ?_, ?_, WFC_iff.2 fun y hy => ?_⟩
  ·rw [Zo1]
   intro x hx
   rcases Yeb hx with h | h
   ·exact a1 x h
   ·exact b1 x h
  ·rw [Zo1]
   exact Yec O a1 b1 a2 b2
  ·rw [Zo1]
   exact Zly rL (fun _ _ h => by cases h) rB O s.c t.c (fun x hx => (Zdq hs hx).1) (fun x hx => (Zdq ht hx).1) a3 b3
  ·rcases Zwy hy with h | ⟨u, hu, v, hv, e, _⟩
   ·exact Zdq hs h
   ·rw [e]
    exact ⟨(Zdq hs hu).1, Zsi O n u.2 v.2 (Zdq hs hu).2 (Zdq ht hv).2⟩
theorem Zom (O : OrdL c P) : ∀ (n : Nat) (s t : ST α), dpT s < n → WFT c P s → WFT c P t → ∀ q, PP P q → Zcn c (opN c kl kr kb n s t) q = opB kl kr kb (Zcn c s q) (Zcn c t q)
 | 0, _, _, h, _, _, _, _ => by omega
 | n + 1, s, t, hd, hs, ht, [], hq => absurd rfl hq.1
 | n + 1, s, t, hd, hs, ht, [p], hq => by
  obtain ⟨a1, a2, a3, a4⟩ := WFT_iff.1 hs
  obtain ⟨b1, b2, b3, b4⟩ := WFT_iff.1 ht
  rw [Zd7, Zd7, Zd7, Zol]
  exact Yea O a1 b1 a2 b2 (hq.2 p (by simp))
 | n + 1, s, t, hd, hs, ht, p :: z :: r, hq => by
  obtain ⟨a1, a2, a3, a4⟩ := WFT_iff.1 hs
  obtain ⟨b1, b2, b3, b4⟩ := WFT_iff.1 ht
  have hp := hq.2 p (by simp)
  have hz : PP P (z :: r) := ⟨by simp, fun x hx => hq.2 x (by simp [hx])⟩
  rw [Zex O (Zj0 O (n + 1) s t hs ht) hp hz.1, Zex O hs hp hz.1, Zex O ht hp hz.1]
  have e : Zb4 c Prod.fst (opN c kl kr kb (n + 1) s t).c p = Ykb (fun x => if kl then some x else none) (fun y => if kr then some y else none) (fun x y => if kr || !emT (opN c kl kr kb n x.2 y.2) then some (x.1, opN c kl kr kb n x.2 y.2) else none) (Zb4 c Prod.fst s.c p) (Zb4 c Prod.fst t.c p) := by
   rw [Zol]
   exact Zi5 (kA Prod.fst kl) (kA Prod.fst kr) nB O hp s.c t.c (fun x hx => (Zdq hs hx).1) (fun x hx => (Zdq ht hx).1) a3 b3
  rw [e]
  unfold Ykb
  cases fs : Zb4 c Prod.fst s.c p with
  | none =>
   cases ft : Zb4 c Prod.fst t.c p with
   | none => unfold opB; cases kl <;> cases kr <;> cases kb <;> rfl
   | some y =>
    simp only
    unfold opB
    cases kl <;> cases kr <;> cases kb <;> simp
  | some x =>
   cases ft : Zb4 c Prod.fst t.c p with
   | none =>
    simp only
    unfold opB
    cases kl <;> cases kr <;> cases kb <;> simp
   | some y =>
    simp only
    have hx := (Zhb fs).1
    have hy := (Zhb ft).1
    have hdx : dpT x.2 < n := by have := Zdi hx; omega
    have ih := Zom O n x.2 y.2 hdx (Zdq hs hx).2 (Zdq ht hy).2 (z :: r) hz
    by_cases hk : (kr || !emT (opN c kl kr kb n x.2 y.2)) = true
    ·rw [if_pos hk]
     exact ih
    ·rw [if_neg hk]
     simp only
     rw [← ih]
     symm
     refine Zt1 O (Zj0 O n x.2 y.2 (Zdq hs hx).2 (Zdq ht hy).2) ?_ hz.2
     simp at hk
     exact hk.2
theorem Yfa (O : OrdL c P) : ∀ (n : Nat) (s t : ST α), dpT s < n → WFT c P s → WFT c P t → ∀ q, PP P q → Zcn c (rdN c n s t) q = (Zcn c s q && !Zpx c t q)
 | 0, _, _, h, _, _, _, _ => by omega
 | n + 1, s, t, hd, hs, ht, [], hq => absurd rfl hq.1
 | n + 1, s, t, hd, hs, ht, [p], hq => by
  obtain ⟨a1, a2, a3, a4⟩ := WFT_iff.1 hs
  obtain ⟨b1, b2, b3, b4⟩ := WFT_iff.1 ht
  rw [Zd7, Zd7, Zo1]
  show Za2 c (opM c true false false s.m t.m) p = _
  rw [Yea O a1 b1 a2 b2 (hq.2 p (by simp)), Zth O ht (hq.2 p (by simp))]
  have : (match Zb4 c Prod.fst t.c p with | some y => Zpx c y.2 [] | none => false) = false := by
   cases Zb4 c Prod.fst t.c p with
   | none => rfl
   | some y => simp only; unfold Zpx; rfl
  rw [this]
  unfold opB
  cases Za2 c s.m p <;> cases Za2 c t.m p <;> rfl
 | n + 1, s, t, hd, hs, ht, p :: z :: r, hq => by
  obtain ⟨a1, a2, a3, a4⟩ := WFT_iff.1 hs
  obtain ⟨b1, b2, b3, b4⟩ := WFT_iff.1 ht
  have hp := hq.2 p (by simp)
  have hz : PP P (z :: r) := ⟨by simp, fun x hx => hq.2 x (by simp [hx])⟩
  rw [Zex O (Zsi O (n + 1) s t hs ht) hp hz.1, Zex O hs hp hz.1, Zth O ht hp]
  have e : Zb4 c Prod.fst (rdN c (n + 1) s t).c p = Ykb (fun x => if Za2 c t.m x.1 then none else some x) (fun _ => none) (fun x y => if Za2 c t.m x.1 then none else if emT (rdN c n x.2 y.2) then none else some (x.1, rdN c n x.2 y.2)) (Zb4 c Prod.fst s.c p) (Zb4 c Prod.fst t.c p) := by
   rw [Zo1]
   exact Zi5 rL (fun _ _ h => by cases h) rB O hp s.c t.c (fun x hx => (Zdq hs hx).1) (fun x hx => (Zdq ht hx).1) a3 b3
  rw [e]
  unfold Ykb
  cases fs : Zb4 c Prod.fst s.c p with
  | none =>
   cases ft : Zb4 c Prod.fst t.c p <;> rfl
  | some x =>
   have hx := Zhb fs
   have hm : Za2 c t.m x.1 = Za2 c t.m p := Zrr O b1 (Zdq hs hx.1).1 hp hx.2
   cases ft : Zb4 c Prod.fst t.c p with
   | none =>
    simp only
    rw [hm]
    cases Za2 c t.m p <;> simp
   | some y =>
    simp only
    rw [hm]
    have hy := (Zhb ft).1
    have hdx : dpT x.2 < n := by have := Zdi hx.1; omega
    have ih := Yfa O n x.2 y.2 hdx (Zdq hs hx.1).2 (Zdq ht hy).2 (z :: r) hz
    cases Za2 c t.m p with
    | true => simp
    | false =>
     simp only [Bool.false_or]
     rw [← ih]
     cases he : emT (rdN c n x.2 y.2) with
     | true =>
      simp only [if_true]
      symm
      exact Zt1 O (Zsi O n x.2 y.2 (Zdq hs hx.1).2 (Zdq ht hy).2) he hz.2
     | false => simp
theorem Zsb (O : OrdL c P) (hk : kr = false ∨ (kl = true ∧ kb = true)) : ∀ (n : Nat) (s t : ST α), dpT s < n → WFT c P s → WFT c P t → NET s → NET t → NET (opN c kl kr kb n s t)
 | 0, s, t, h, _, _, _, _ => by omega
 | n + 1, s, t, hd, hs, ht, ns, nt => by
  refine NET_iff.2 fun y hy => ?_
  rcases Zwr hy with h | h | ⟨u, hu, v, hv, e, he⟩
  ·exact NET_iff.1 ns y h
  ·exact NET_iff.1 nt y h
  ·have hdx : dpT u.2 < n := by have := Zdi hu; omega
   have nu := NET_iff.1 ns u hu
   have nv := NET_iff.1 nt v hv
   have hw := Zj0 (kl := kl) (kr := kr) (kb := kb) O n u.2 v.2 (Zdq hs hu).2 (Zdq ht hv).2
   rw [e]
   refine ⟨?_, Zsb O hk n u.2 v.2 hdx (Zdq hs hu).2 (Zdq ht hv).2 nu.2 nv.2⟩
   rcases he with he | he
   ·obtain ⟨k1, k2⟩ : kl = true ∧ kb = true := by
     rcases hk with h | h
     ·rw [h] at he; cases he
     ·exact h
    cases hq : Zer u.2 with
    | nil => exact absurd hq nu.1
    | cons q r =>
     have hqm : q ∈ Zer u.2 := by rw [hq]; simp
     have hqP := Zdz u.2 (Zdq hs hu).2 q hqm
     have h1 : Zcn c u.2 q = true := by
      cases q with
      | nil => exact absurd rfl hqP.1
      | cons a q =>
       rw [← Zks O u.2 (Zdq hs hu).2 a q (hqP.2 a (by simp)) fun x hx => hqP.2 x (by simp [hx])]
       exact Zn3 (Yey O) hqm hqP
     refine Zup O hw hqP ?_
     rw [Zom O n u.2 v.2 hdx (Zdq hs hu).2 (Zdq ht hv).2 q hqP, h1, k1, k2, he]
     cases Zcn c v.2 q <;> rfl
   ·intro h0
    rw [(Zkj _).2 h0] at he
    cases he
theorem Ye9 (O : OrdL c P) : ∀ (n : Nat) (s t : ST α), dpT s < n → NET s → NET (rdN c n s t)
 | 0, s, t, h, _ => by omega
 | n + 1, s, t, hd, ns => by
  refine NET_iff.2 fun y hy => ?_
  rcases Zwy hy with h | ⟨u, hu, v, hv, e, he⟩
  ·exact NET_iff.1 ns y h
  ·have hdx : dpT u.2 < n := by have := Zdi hu; omega
   rw [e]
   exact ⟨fun h0 => (by rw [(Zkj _).2 h0] at he; cases he), Ye9 O n u.2 v.2 hdx (NET_iff.1 ns u hu).2⟩
theorem Zy1 : ∀ (n : Nat) (s t : ST α), dpT (opN c kl kr kb n s t) ≤ max (dpT s) (dpT t)
 | 0, s, t => by unfold opN; omega
 | n + 1, s, t => by
  rw [Ztm (opN c kl kr kb (n + 1) s t)]
  refine Yct fun y hy => ?_
  rcases Zwr hy with h | h | ⟨u, hu, v, hv, e, _⟩
  ·have := Zdi h; omega
  ·have := Zdi h; omega
  ·have := Zy1 n u.2 v.2
   have := Zdi hu
   have := Zdi hv
   rw [e]
   simp only
   omega
theorem Ykg : ∀ (n : Nat) (s t : ST α), dpT (rdN c n s t) ≤ dpT s
 | 0, s, t => by unfold rdN; omega
 | n + 1, s, t => by
  rw [Ztm (rdN c (n + 1) s t)]
  refine Yct fun y hy => ?_
  rcases Zwy hy with h | ⟨u, hu, v, hv, e, _⟩
  ·have := Zdi h; omega
  ·have := Ykg n u.2 v.2
   have := Zdi hu
   rw [e]
   simp only
   omega
theorem Yhr (O : OrdL c P) {t : ST α} (h : WFT c P t) {q : List α} (hq : PP P q) : Za2 (cw c) (Zer t) q = Zcn c t q := by
 cases q with
 | nil => exact absurd rfl hq.1
 | cons x q => exact Zks O t h x q (hq.2 x (by simp)) fun z hz => hq.2 z (by simp [hz])
theorem Zzv (O : OrdL c P) {t : ST α} (h : WFT c P t) {l : List (List α)} (hl : ∀ x ∈ l, PP P x) (hs : Srt (cw c) l) (he : ∀ q, PP P q → Zcn c t q = Za2 (cw c) l q) : Zcj (cw c) (Zer t) l = 0 :=
 Zo9 (Yey O) _ _ (Zdz t h) hl (Znd O t h) hs fun q hq => by rw [Yhr O h hq, he q hq]
theorem Zkg {β : Type} {f : β → β → Int} : ∀ {a b : List β}, Zcj f a b = 0 → a.length = b.length := fun h => (cmpLx_zero.1 h).1
theorem Yai (O : OrdL c P) {l : List α} {f : α → Bool} (hl : ∀ x ∈ l, P x) (hf : ∀ x y, P x → P y → c x y = 0 → f x = f y) {q : α} (hq : P q) : Za2 c (l.filter f) q = (Za2 c l q && f q) := by
 induction l with
 | nil => rfl
 | cons x l ih =>
  have ih := ih fun z hz => hl z (by simp [hz])
  rw [List.filter_cons, Zb8]
  by_cases h : c x q = 0
  ·have := hf x q (hl x (by simp)) hq h
   rw [decide_eq_true h, Bool.true_or, Bool.true_and]
   cases hx : f x with
   | true => rw [if_pos rfl, Zb8, decide_eq_true h, Bool.true_or, ← this, hx]
   | false => rw [if_neg (by simp), ih, ← this, hx, Bool.and_false]
  ·rw [decide_eq_false h, Bool.false_or]
   split
   ·rw [Zb8, decide_eq_false h, Bool.false_or, ih]
   ·exact ih
theorem Ybi {l : List α} {f : α → Bool} (h : Srt c l) : Srt c (l.filter f) := List.Pairwise.filter f h
theorem Yhp (O : OrdL c P) {t : ST α} (h : WFT c P t) {p q : List α} (hp : PP P p) (hq : PP P q) (e : cw c p q = 0) : Zcn c t p = Zcn c t q := by
 rw [← Yhr O h hp, ← Yhr O h hq]
 exact Zrr (Yey O) (Zdz t h) hp hq e
theorem Zw5 (O : OrdL c P) {s t : ST α} (hs : WFT c P s) (ht : WFT c P t) (h : ∀ q, PP P q → Zcn c s q = true → Zcn c t q = true) : (Zer s).length ≤ (Zer t).length := by
 have e := Zzv O hs (l := (Zer t).filter fun q => Zcn c s q) (fun x hx => Zdz t ht x ((List.mem_filter.1 hx).1)) (Ybi (Znd O t ht)) fun q hq => by
  rw [Yai (Yey O) (Zdz t ht) (fun x y hx hy e => Yhp O hs hx hy e) hq, Yhr O ht hq]
  cases h1 : Zcn c s q with
  | true => rw [h q hq h1]; rfl
  | false => rw [Bool.and_false]
 rw [Zkg e]
 exact List.length_filter_le _ _
end
end Go.Proofs.YtgmahieoiifpfaaGreat
end
namespace Go.Proofs.YtgmahieoiifpfaaGreat
open Go.RowKit
def peC : PEV → List PD
 | .name s => [.ptr (.val (.string s)), Zlf, Zlf, Zlf]
 | .key fl => [Zlf, .ptr (Ybn fl), Zlf, Zlf]
 | .val j => [Zlf, Zlf, .ptr (dvV j), Zlf]
 | .idx n => [Zlf, Zlf, Zlf, .ptr (.val (.int .i64 n))]
theorem Zp1 (p : PEV) : Zav p = .agg (peC p) := by cases p <;> rfl
theorem Zej (p : PEV) : ∃ d0 d1 d2 d3, peC p = [d0, d1, d2, d3] := by cases p <;> exact ⟨_, _, _, _, rfl⟩
theorem Zbi {α : Type} {l : List α} {i : Nat} {x : α} (h : l[i]? = some x) : l.drop i = x :: l.drop (i + 1) := by
 obtain ⟨h1, h2⟩ := List.getElem?_eq_some_iff.1 h
 rw [List.drop_eq_getElem_cons h1, h2]
theorem Zft (p : PEV) : ∃ u0 u1 u2 u3, Zav p = .agg [u0, u1, u2, u3] := by
 obtain ⟨a, b, c, d, e⟩ := Zej p
 exact ⟨a, b, c, d, by rw [Zp1, e]⟩
theorem Zdn {α : Type} (f : α → PD) (o : List α) (x : α) : o.map f ++ [f x] = (o ++ [x]).map f := by simp
theorem Zdm {α : Type} (f : α → PD) (o l : List α) (i : Nat) : o.map f ++ ((l.map f).take (l.map f).length).drop i = (o ++ l.drop i).map f := by
 rw [List.take_of_length_le (Nat.le_refl _), List.map_append, List.map_drop]
theorem Ze0 {α : Type} (f : α → PD) {l : List α} {i : Nat} {x : α} (h : l[i]? = some x) : (l.map f)[((i : Nat) : Int).toNat]? = some (f x) := by simp [h]
theorem Zkd {n m k y : Nat} (h : n ≤ m) (hm : m ≤ 1099511627776) (hy : y ≤ 40) (hk : k = 1) : (n + k) * y ≤ 140737488351232 ∧ n + k ≤ 140737488351232 := by
 subst hk
 refine ⟨Nat.le_trans (Nat.mul_le_mul_left _ hy) (by omega), by omega⟩
theorem Zz5 {n m k y : Nat} (h : n + k ≤ m) (hm : m ≤ 1099511627776) (hy : y ≤ 40) : (n + k) * y ≤ 140737488351232 ∧ n + k ≤ 140737488351232 :=
 ⟨Nat.le_trans (Nat.mul_le_mul_left _ hy) (by omega), by omega⟩
theorem Yaz (a b : List PEV) (hz : a.length + b.length ≤ 1099511627776) : PCall Tryz.prog 155 [.ptr (.agg [.sl 4 32 (a.map Zav)]), .ptr (.agg [.sl 4 32 (b.map Zav)])] (.ptr (.agg [.sl 4 32 ((opM Zae false false true a b).map Zav)])) := by
 have na : (a.map Zav).length = a.length := by simp
 have nb : (b.map Zav).length = b.length := by simp
 have ga : ∀ {i : Nat} {x : PEV}, a[i]? = some x → (a.map Zav)[((i : Nat) : Int).toNat]? = some (Zav x) := Ze0 Zav
 have gb : ∀ {i : Nat} {x : PEV}, b[i]? = some x → (b.map Zav)[((i : Nat) : Int).toNat]? = some (Zav x) := Ze0 Zav
 have ra := fun o i => Zdm Zav o a i
 have rb := fun o i => Zdm Zav o b i
 have nr : ∀ l, opM Zae false false true l [] = [] := fun l => by unfold opM; rw [Zfj]; simp
 have nl : ∀ l, opM Zae false false true [] l = [] := fun l => by unfold opM; rw [Zg3]; simp
 have st : ∀ (x y : PEV) (p q : List PEV), opM Zae false false true (x :: p) (y :: q) = if Zae x y < 0 then opM Zae false false true p (y :: q) else if Zae y x < 0 then opM Zae false false true (x :: p) q else x :: opM Zae false false true p q := fun x y p q => by
  unfold opM; rw [Zfi]; rfl
 generalize opM Zae false false true = f at *
 generalize hr : f a b = r
 generalize a.map Zav = da at *
 generalize b.map Zav = db at *
 refine Zaa Tryz.func155 rfl Tryz.ntmps155 rfl (fun X => ?_)
 refine wk ?_
 refine Zca 9 0 400 99 4 32 rfl rfl rfl ?_
 refine Zaq (ι := { p : (Nat × Nat) × List PEV // p.1.1 ≤ a.length ∧ p.1.2 ≤ b.length ∧ p.2.length ≤ p.1.1 + p.1.2 ∧ p.2 ++ f (a.drop p.1.1) (b.drop p.1.2) = r })
  (fun p => [(0, .dat (.ptr (.agg [.sl 4 32 da]))), (1, .dat (.ptr (.agg [.sl 4 32 db]))), (5, .ptr 9 0), (6, .dat (.val (.int .i64 (p.1.1.1 : Nat)))), (7, .dat (.val (.int .i64 (p.1.1.2 : Nat))))])
  (fun p => [(9, .box 116 [.own 400]), (400, .row 99 4 32 (p.1.2.map Zav))]) (fun p => (a.length - p.1.1.1) + (b.length - p.1.1.2)) ⟨((0, 0), []), Nat.zero_le _, Nat.zero_le _, Nat.le_refl _, hr⟩ id ?_ ?_
 ·exact sb
 rintro ⟨⟨⟨i, j⟩, o⟩, h1, h2, h3, h4⟩
 simp only at h1 h2 h3 h4
 simp only
 by_cases hi : i < a.length
 ·have g1 : decide ((i : Int) < ((da.length : Nat) : Int)) = true := decide_eq_true (by omega)
  by_cases hj : j < b.length
  ·have g2 : decide ((j : Int) < ((db.length : Nat) : Int)) = true := decide_eq_true (by omega)
   obtain ⟨x, hx⟩ : ∃ x, a[i]? = some x := ⟨_, List.getElem?_eq_getElem hi⟩
   obtain ⟨y, hy⟩ : ∃ y, b[j]? = some y := ⟨_, List.getElem?_eq_getElem hj⟩
   rw [Zbi hx, Zbi hy, st] at h4
   have i1 := ga hx
   have i2 := gb hy
   have c1 := Zdo x y
   have c2 := Zdo y x
   obtain ⟨u0, u1, u2, u3, ex⟩ := Zft x
   obtain ⟨v0, v1, v2, v3, ey⟩ := Zft y
   rw [ex] at i1 c1 c2
   rw [ey] at i2 c1 c2
   clear nl nr st ga gb ra rb
   by_cases k1 : Zae x y < 0
   ·rw [decide_eq_true k1] at c1
    rw [if_pos k1, ← Zbi hy] at h4
    refine wk ?_
    refine Zah ?_
    refine ⟨⟨((i + 1, j), o), by simp only; omega, by simp only; omega, by simp only; omega, h4⟩, id, by simp only; omega, ?_⟩
    exact sb
   ·rw [decide_eq_false k1] at c1
    rw [if_neg k1] at h4
    by_cases k2 : Zae y x < 0
    ·rw [decide_eq_true k2] at c2
     rw [if_pos k2, ← Zbi hx] at h4
     refine wk ?_
     refine Zah ?_
     refine ⟨⟨((i, j + 1), o), by simp only; omega, by simp only; omega, by simp only; omega, h4⟩, id, by simp only; omega, ?_⟩
     exact sb
    ·rw [decide_eq_false k2] at c2
     rw [if_neg k2] at h4
     have e := Zdn Zav o x
     have hb := Zkd (n := (o.map Zav).length) (k := [Zav x].length) (y := 32) (by rw [List.length_map]; exact h3) (show i + j ≤ 1099511627776 by omega) (by decide) rfl
     have hb1 := hb.1
     have hb2 := hb.2
     clear hb
     rw [ex] at e hb1 hb2
     generalize o.map Zav = od at *
     refine wk ?_
     refine Zah ?_
     refine ⟨⟨((i + 1, j + 1), o ++ [x]), by simp only; omega, by simp only; omega, by simp only [List.length_append, List.length_cons, List.length_nil]; omega, by simp only; rw [List.append_assoc]; exact h4⟩, (fun k => if k = 400 then 72 else k), by simp only; omega, ?_⟩
     exact sb
  ·have g2 : decide ((j : Int) < ((db.length : Nat) : Int)) = false := decide_eq_false (by omega)
   obtain rfl : o = r := by rw [← h4, List.drop_eq_nil_of_le (i := j) (by omega), nr, List.append_nil]
   refine Zay (fun _ => false) (fun k => Nat.beq k 400) ?_
   refine Zay (fun t => Nat.beq t 116) (fun k => Nat.beq k 9) ?_
   exact wke
 ·have g1 : decide ((i : Int) < ((da.length : Nat) : Int)) = false := decide_eq_false (by omega)
  obtain rfl : o = r := by rw [← h4, List.drop_eq_nil_of_le (i := i) (by omega), nl, List.append_nil]
  refine Zay (fun _ => false) (fun k => Nat.beq k 400) ?_
  refine Zay (fun t => Nat.beq t 116) (fun k => Nat.beq k 9) ?_
  exact wke
theorem Ya0 (a b : List PEV) (hz : a.length + b.length ≤ 1099511627776) : PCall Tryz.prog 164 [.ptr (.agg [.sl 4 32 (a.map Zav)]), .ptr (.agg [.sl 4 32 (b.map Zav)])] (.ptr (.agg [.sl 4 32 ((opM Zae true true true a b).map Zav)])) := by
 have na : (a.map Zav).length = a.length := by simp
 have nb : (b.map Zav).length = b.length := by simp
 have ga : ∀ {i : Nat} {x : PEV}, a[i]? = some x → (a.map Zav)[((i : Nat) : Int).toNat]? = some (Zav x) := Ze0 Zav
 have gb : ∀ {i : Nat} {x : PEV}, b[i]? = some x → (b.map Zav)[((i : Nat) : Int).toNat]? = some (Zav x) := Ze0 Zav
 have ra := fun o i => Zdm Zav o a i
 have rb := fun o i => Zdm Zav o b i
 have nr : ∀ l, opM Zae true true true l [] = l := fun l => by unfold opM; rw [Zfj]; simp
 have nl : ∀ l, opM Zae true true true [] l = l := fun l => by unfold opM; rw [Zg3]; simp
 have st : ∀ (x y : PEV) (p q : List PEV), opM Zae true true true (x :: p) (y :: q) = if Zae x y < 0 then x :: opM Zae true true true p (y :: q) else if Zae y x < 0 then y :: opM Zae true true true (x :: p) q else y :: opM Zae true true true p q := fun x y p q => by
  unfold opM; rw [Zfi]; rfl
 generalize opM Zae true true true = f at *
 generalize hr : f a b = r
 generalize a.map Zav = da at *
 generalize b.map Zav = db at *
 refine Zaa Tryz.func164 rfl Tryz.ntmps164 rfl (fun X => ?_)
 refine wk ?_
 refine Zca 9 0 400 99 4 32 rfl rfl rfl ?_
 refine Zaq (ι := { p : (Nat × Nat) × List PEV // p.1.1 ≤ a.length ∧ p.1.2 ≤ b.length ∧ p.2.length ≤ p.1.1 + p.1.2 ∧ p.2 ++ f (a.drop p.1.1) (b.drop p.1.2) = r })
  (fun p => [(0, .dat (.ptr (.agg [.sl 4 32 da]))), (1, .dat (.ptr (.agg [.sl 4 32 db]))), (5, .ptr 9 0), (6, .dat (.val (.int .i64 (p.1.1.1 : Nat)))), (7, .dat (.val (.int .i64 (p.1.1.2 : Nat))))])
  (fun p => [(9, .box 116 [.own 400]), (400, .row 99 4 32 (p.1.2.map Zav))]) (fun p => (a.length - p.1.1.1) + (b.length - p.1.1.2)) ⟨((0, 0), []), Nat.zero_le _, Nat.zero_le _, Nat.le_refl _, hr⟩ id ?_ ?_
 ·exact sb
 rintro ⟨⟨⟨i, j⟩, o⟩, h1, h2, h3, h4⟩
 simp only at h1 h2 h3 h4
 simp only
 by_cases hi : i < a.length
 ·have g1 : decide ((i : Int) < ((da.length : Nat) : Int)) = true := decide_eq_true (by omega)
  by_cases hj : j < b.length
  ·have g2 : decide ((j : Int) < ((db.length : Nat) : Int)) = true := decide_eq_true (by omega)
   obtain ⟨x, hx⟩ : ∃ x, a[i]? = some x := ⟨_, List.getElem?_eq_getElem hi⟩
   obtain ⟨y, hy⟩ : ∃ y, b[j]? = some y := ⟨_, List.getElem?_eq_getElem hj⟩
   rw [Zbi hx, Zbi hy, st] at h4
   have i1 := ga hx
   have i2 := gb hy
   have c1 := Zdo x y
   have c2 := Zdo y x
   obtain ⟨u0, u1, u2, u3, ex⟩ := Zft x
   obtain ⟨v0, v1, v2, v3, ey⟩ := Zft y
   rw [ex] at i1 c1 c2
   rw [ey] at i2 c1 c2
   clear nl nr st ga gb ra rb
   by_cases k1 : Zae x y < 0
   ·rw [decide_eq_true k1] at c1
    rw [if_pos k1, ← Zbi hy] at h4
    have e := Zdn Zav o x
    have hb := Zkd (n := (o.map Zav).length) (k := [Zav x].length) (y := 32) (by rw [List.length_map]; exact h3) (show i + j ≤ 1099511627776 by omega) (by decide) rfl
    have hb1 := hb.1
    have hb2 := hb.2
    clear hb
    rw [ex] at e hb1 hb2
    generalize o.map Zav = od at *
    refine wk ?_
    refine Zah ?_
    refine ⟨⟨((i + 1, j), o ++ [x]), by simp only; omega, by simp only; omega, by simp only [List.length_append, List.length_cons, List.length_nil]; omega, by simp only; rw [List.append_assoc]; exact h4⟩, (fun k => if k = 400 then 54 else k), by simp only; omega, ?_⟩
    exact sb
   ·rw [decide_eq_false k1] at c1
    rw [if_neg k1] at h4
    by_cases k2 : Zae y x < 0
    ·rw [decide_eq_true k2] at c2
     rw [if_pos k2, ← Zbi hx] at h4
     have e := Zdn Zav o y
     have hb := Zkd (n := (o.map Zav).length) (k := [Zav y].length) (y := 32) (by rw [List.length_map]; exact h3) (show i + j ≤ 1099511627776 by omega) (by decide) rfl
     have hb1 := hb.1
     have hb2 := hb.2
     clear hb
     rw [ey] at e hb1 hb2
     generalize o.map Zav = od at *
     refine wk ?_
     refine Zah ?_
     refine ⟨⟨((i, j + 1), o ++ [y]), by simp only; omega, by simp only; omega, by simp only [List.length_append, List.length_cons, List.length_nil]; omega, by simp only; rw [List.append_assoc]; exact h4⟩, (fun k => if k = 400 then 72 else k), by simp only; omega, ?_⟩
     exact sb
    ·rw [decide_eq_false k2] at c2
     rw [if_neg k2] at h4
     have e := Zdn Zav o y
     have hb := Zkd (n := (o.map Zav).length) (k := [Zav y].length) (y := 32) (by rw [List.length_map]; exact h3) (show i + j ≤ 1099511627776 by omega) (by decide) rfl
     have hb1 := hb.1
     have hb2 := hb.2
     clear hb
     rw [ey] at e hb1 hb2
     generalize o.map Zav = od at *
     refine wk ?_
     refine Zah ?_
     refine ⟨⟨((i + 1, j + 1), o ++ [y]), by simp only; omega, by simp only; omega, by simp only [List.length_append, List.length_cons, List.length_nil]; omega, by simp only; rw [List.append_assoc]; exact h4⟩, (fun k => if k = 400 then 72 else k), by simp only; omega, ?_⟩
     exact sb
  ·have g2 : decide ((j : Int) < ((db.length : Nat) : Int)) = false := decide_eq_false (by omega)
   have e := ra o i
   rw [show o ++ a.drop i = r by rw [← h4, List.drop_eq_nil_of_le (i := j) (by omega), nr]] at e
   have hb := Zz5 (n := (o.map Zav).length) (k := ((da.take da.length).drop i).length) (m := a.length + b.length) (y := 32) (by rw [List.length_map, List.length_drop, List.length_take]; omega) hz (by decide)
   have hb1 := hb.1
   have hb2 := hb.2
   clear hb
   generalize o.map Zav = od at *
   rw [← e]
   refine wk ?_
   refine Zay (fun _ => false) (fun k => Nat.beq k 113) ?_
   refine Zay (fun t => Nat.beq t 116) (fun k => Nat.beq k 9) ?_
   exact wke
 ·have g1 : decide ((i : Int) < ((da.length : Nat) : Int)) = false := decide_eq_false (by omega)
  by_cases hj : j < b.length
  ·have g2 : decide ((j : Int) < ((db.length : Nat) : Int)) = true := decide_eq_true (by omega)
   have e := rb o j
   rw [show o ++ b.drop j = r by rw [← h4, List.drop_eq_nil_of_le (i := i) (by omega), nl]] at e
   have hb := Zz5 (n := (o.map Zav).length) (k := ((db.take db.length).drop j).length) (m := a.length + b.length) (y := 32) (by rw [List.length_map, List.length_drop, List.length_take]; omega) hz (by decide)
   have hb1 := hb.1
   have hb2 := hb.2
   clear hb
   generalize o.map Zav = od at *
   rw [← e]
   refine wk ?_
   refine Zay (fun _ => false) (fun k => Nat.beq k 134) ?_
   refine Zay (fun t => Nat.beq t 116) (fun k => Nat.beq k 9) ?_
   exact wke
  ·have g2 : decide ((j : Int) < ((db.length : Nat) : Int)) = false := decide_eq_false (by omega)
   obtain rfl : o = r := by rw [← h4, List.drop_eq_nil_of_le (i := i) (by omega), nl, List.drop_eq_nil_of_le (i := j) (by omega), List.append_nil]
   refine Zay (fun _ => false) (fun k => Nat.beq k 400) ?_
   refine Zay (fun t => Nat.beq t 116) (fun k => Nat.beq k 9) ?_
   exact wke
theorem Zu2 (a b : List PEV) (hz : a.length + b.length ≤ 1099511627776) : PCall Tryz.prog 170 [.ptr (.agg [.sl 4 32 (a.map Zav)]), .ptr (.agg [.sl 4 32 (b.map Zav)])] (.ptr (.agg [.sl 4 32 ((opM Zae true false false a b).map Zav)])) := by
 have na : (a.map Zav).length = a.length := by simp
 have nb : (b.map Zav).length = b.length := by simp
 have ga : ∀ {i : Nat} {x : PEV}, a[i]? = some x → (a.map Zav)[((i : Nat) : Int).toNat]? = some (Zav x) := Ze0 Zav
 have gb : ∀ {i : Nat} {x : PEV}, b[i]? = some x → (b.map Zav)[((i : Nat) : Int).toNat]? = some (Zav x) := Ze0 Zav
 have ra := fun o i => Zdm Zav o a i
 have rb := fun o i => Zdm Zav o b i
 have nr : ∀ l, opM Zae true false false l [] = l := fun l => by unfold opM; rw [Zfj]; simp
 have nl : ∀ l, opM Zae true false false [] l = [] := fun l => by unfold opM; rw [Zg3]; simp
 have st : ∀ (x y : PEV) (p q : List PEV), opM Zae true false false (x :: p) (y :: q) = if Zae x y < 0 then x :: opM Zae true false false p (y :: q) else if Zae y x < 0 then opM Zae true false false (x :: p) q else opM Zae true false false p q := fun x y p q => by
  unfold opM; rw [Zfi]; rfl
 generalize opM Zae true false false = f at *
 generalize hr : f a b = r
 generalize a.map Zav = da at *
 generalize b.map Zav = db at *
 refine Zaa Tryz.func170 rfl Tryz.ntmps170 rfl (fun X => ?_)
 refine wk ?_
 refine Zca 9 0 400 99 4 32 rfl rfl rfl ?_
 refine Zaq (ι := { p : (Nat × Nat) × List PEV // p.1.1 ≤ a.length ∧ p.1.2 ≤ b.length ∧ p.2.length ≤ p.1.1 + p.1.2 ∧ p.2 ++ f (a.drop p.1.1) (b.drop p.1.2) = r })
  (fun p => [(0, .dat (.ptr (.agg [.sl 4 32 da]))), (1, .dat (.ptr (.agg [.sl 4 32 db]))), (5, .ptr 9 0), (6, .dat (.val (.int .i64 (p.1.1.1 : Nat)))), (7, .dat (.val (.int .i64 (p.1.1.2 : Nat))))])
  (fun p => [(9, .box 116 [.own 400]), (400, .row 99 4 32 (p.1.2.map Zav))]) (fun p => (a.length - p.1.1.1) + (b.length - p.1.1.2)) ⟨((0, 0), []), Nat.zero_le _, Nat.zero_le _, Nat.le_refl _, hr⟩ id ?_ ?_
 ·exact sb
 rintro ⟨⟨⟨i, j⟩, o⟩, h1, h2, h3, h4⟩
 simp only at h1 h2 h3 h4
 simp only
 by_cases hi : i < a.length
 ·have g1 : decide ((i : Int) < ((da.length : Nat) : Int)) = true := decide_eq_true (by omega)
  by_cases hj : j < b.length
  ·have g2 : decide ((j : Int) < ((db.length : Nat) : Int)) = true := decide_eq_true (by omega)
   obtain ⟨x, hx⟩ : ∃ x, a[i]? = some x := ⟨_, List.getElem?_eq_getElem hi⟩
   obtain ⟨y, hy⟩ : ∃ y, b[j]? = some y := ⟨_, List.getElem?_eq_getElem hj⟩
   rw [Zbi hx, Zbi hy, st] at h4
   have i1 := ga hx
   have i2 := gb hy
   have c1 := Zdo x y
   have c2 := Zdo y x
   obtain ⟨u0, u1, u2, u3, ex⟩ := Zft x
   obtain ⟨v0, v1, v2, v3, ey⟩ := Zft y
   rw [ex] at i1 c1 c2
   rw [ey] at i2 c1 c2
   clear nl nr st ga gb ra rb
   by_cases k1 : Zae x y < 0
   ·rw [decide_eq_true k1] at c1
    rw [if_pos k1, ← Zbi hy] at h4
    have e := Zdn Zav o x
    have hb := Zkd (n := (o.map Zav).length) (k := [Zav x].length) (y := 32) (by rw [List.length_map]; exact h3) (show i + j ≤ 1099511627776 by omega) (by decide) rfl
    have hb1 := hb.1
    have hb2 := hb.2
    clear hb
    rw [ex] at e hb1 hb2
    generalize o.map Zav = od at *
    refine wk ?_
    refine Zah ?_
    refine ⟨⟨((i + 1, j), o ++ [x]), by simp only; omega, by simp only; omega, by simp only [List.length_append, List.length_cons, List.length_nil]; omega, by simp only; rw [List.append_assoc]; exact h4⟩, (fun k => if k = 400 then 54 else k), by simp only; omega, ?_⟩
    exact sb
   ·rw [decide_eq_false k1] at c1
    rw [if_neg k1] at h4
    by_cases k2 : Zae y x < 0
    ·rw [decide_eq_true k2] at c2
     rw [if_pos k2, ← Zbi hx] at h4
     refine wk ?_
     refine Zah ?_
     refine ⟨⟨((i, j + 1), o), by simp only; omega, by simp only; omega, by simp only; omega, h4⟩, id, by simp only; omega, ?_⟩
     exact sb
    ·rw [decide_eq_false k2] at c2
     rw [if_neg k2] at h4
     refine wk ?_
     refine Zah ?_
     refine ⟨⟨((i + 1, j + 1), o), by simp only; omega, by simp only; omega, by simp only; omega, h4⟩, id, by simp only; omega, ?_⟩
     exact sb
  ·have g2 : decide ((j : Int) < ((db.length : Nat) : Int)) = false := decide_eq_false (by omega)
   have e := ra o i
   rw [show o ++ a.drop i = r by rw [← h4, List.drop_eq_nil_of_le (i := j) (by omega), nr]] at e
   have hb := Zz5 (n := (o.map Zav).length) (k := ((da.take da.length).drop i).length) (m := a.length + b.length) (y := 32) (by rw [List.length_map, List.length_drop, List.length_take]; omega) hz (by decide)
   have hb1 := hb.1
   have hb2 := hb.2
   clear hb
   generalize o.map Zav = od at *
   rw [← e]
   refine wk ?_
   refine Zay (fun _ => false) (fun k => Nat.beq k 97) ?_
   refine Zay (fun t => Nat.beq t 116) (fun k => Nat.beq k 9) ?_
   exact wke
 ·have g1 : decide ((i : Int) < ((da.length : Nat) : Int)) = false := decide_eq_false (by omega)
  obtain rfl : o = r := by rw [← h4, List.drop_eq_nil_of_le (i := i) (by omega), nl, List.append_nil]
  refine Zay (fun _ => false) (fun k => Nat.beq k 400) ?_
  refine Zay (fun t => Nat.beq t 116) (fun k => Nat.beq k 9) ?_
  exact wke
def Zvu (tb tb' : Nat → Option Blk) (ρ ρ' : Nat → RV) (k : Nat) : Prop := ∀ x, tb k = some x → ∃ x', tb' k = some x' ∧ (((x'.kind = x.kind ∨ ((x.kind = 1 ∨ x.kind = 3) ∧ (x'.kind = 1 ∨ x'.kind = 3))) ∧ (ρ' k).v = (ρ k).v) ∨ (x' = .dead ∧ x.kind ≠ 0))
section
variable {w w' : World} {F F' : Nat → Prop} {tb tb' : Nat → Option Blk} {ρ ρ' : Nat → RV}
theorem heldK.keepK {k : Nat} (hk : Zvu tb tb' ρ ρ' k) {p : Value → Prop} (h : heldK tb ρ k p) : heldK tb' ρ' k p := by
 rcases h with ⟨x, h1, h2, h3⟩ | h1
 ·obtain ⟨x', e2, e3⟩ := hk _ h1
  rcases e3 with ⟨e3, e1⟩ | ⟨rfl, _⟩
  ·refine .inl ⟨x', e2, ?_, by rw [e1]; exact h3⟩
   rcases e3 with e3 | ⟨_, e3⟩
   ·rw [e3]; exact h2
   ·exact e3
  ·exact .inr e2
 ·obtain ⟨x', e2, e3⟩ := hk _ h1
  rcases e3 with ⟨e3, e1⟩ | ⟨rfl, _⟩
  ·rcases e3 with e3 | ⟨e3, _⟩
   ·cases x' <;> simp [Blk.kind] at e3
    exact .inr e2
   ·simp [Blk.kind] at e3
  ·exact .inr e2
mutual
theorem VR.keepK (h : ∀ b, F b → w'.heap[b]? = w.heap[b]?) (hs : ∀ b, F b → F' b) : ∀ (x : AV) {v : Value}, (∀ k ∈ Zbp x, Zvu tb tb' ρ ρ' k) → VR w F tb ρ x v → VR w' F' tb' ρ' x v
 | .any, v, hk, hv => by unfold VR; trivial
 | .dat d, v, hk, hv => by unfold VR at hv ⊢; exact hv.keep h hs d
 | .ptr k off, v, hk, hv => by
  unfold VR at hv ⊢
  obtain ⟨t, cs, b, h1, h2, h3⟩ := hv
  obtain ⟨x', e2, e3⟩ := hk k (by simp [Zbp]) _ h1
  rcases e3 with ⟨e3, e1⟩ | ⟨_, e3⟩
  ·rcases e3 with e3 | ⟨e3, _⟩
   ·cases x' with
    | box t' cs' => exact ⟨t', cs', b, e2, e1.trans h2, h3⟩
    | row _ _ _ _ => simp [Blk.kind] at e3
    | res _ => simp [Blk.kind] at e3
    | dead => simp [Blk.kind] at e3
   ·simp [Blk.kind] at e3
  ·simp [Blk.kind] at e3
 | .own k, v, hk, hv => by
  unfold VR at hv ⊢
  exact ⟨hv.1, hv.2.keepK (hk k (by simp [Zbp]))⟩
 | .elt k n i off, v, hk, hv => by
  unfold VR at hv ⊢
  exact ⟨hv.1, hv.2.keepK (hk k (by simp [Zbp]))⟩
 | .agg l, v, hk, hv => by
  unfold VR at hv ⊢
  obtain ⟨vs, e, hr, h1⟩ := hv
  exact ⟨vs, e, VRs.keepK h hs l (fun k h => hk k (by simpa [Zbp] using h)) hr, h1⟩
 | .tup l, v, hk, hv => by
  unfold VR at hv ⊢
  obtain ⟨vs, e, hr⟩ := hv
  exact ⟨vs, e, VRs.keepK h hs l (fun k h => hk k (by simpa [Zbp] using h)) hr⟩
 | .iface t x, v, hk, hv => by
  unfold VR at hv ⊢
  obtain ⟨u, e, hr⟩ := hv
  exact ⟨u, e, VR.keepK h hs x (fun k h => hk k (by simpa [Zbp] using h)) hr⟩
 | .clo f l, v, hk, hv => by
  unfold VR at hv ⊢
  obtain ⟨vs, e, hr⟩ := hv
  exact ⟨vs, e, VRs.keepK h hs l (fun k h => hk k (by simpa [Zbp] using h)) hr⟩
theorem VRs.keepK (h : ∀ b, F b → w'.heap[b]? = w.heap[b]?) (hs : ∀ b, F b → F' b) : ∀ (l : List AV) {vs : List Value}, (∀ k ∈ Zct l, Zvu tb tb' ρ ρ' k) → VRs w F tb ρ l vs → VRs w' F' tb' ρ' l vs
 | [], _, hk, hv => by unfold VRs at hv ⊢; exact hv
 | x :: r, _, hk, hv => by
  unfold VRs at hv ⊢
  obtain ⟨v, r', e, hx, hr⟩ := hv
  exact ⟨v, r', e, VR.keepK h hs x (fun k h => hk k (by simp only [Zct, List.mem_append]; exact .inl h)) hx, VRs.keepK h hs r (fun k h => hk k (by simp only [Zct, List.mem_append]; exact .inr h)) hr⟩
end
end
section
variable {P : Program} {X X' : Base} {N : Nat} {Q : Exit → Act → World → Prop} {ks : List Itm} {s s' : Sta} {a : Act} {w w' : World} {ρ ρ' : Nat → RV}
theorem BR.keepK {tb tb' : Nat → Option Blk} {k : Nat} {x : Blk} (h : BR X w tb ρ k x) (hF : ∀ b, FF X w tb ρ b → w'.heap[b]? = w.heap[b]?) (hs : ∀ b, FF X w tb ρ b → FF X w' tb' ρ' b)
  (hkk : ∀ t cs, x = .box t cs → ∀ j ∈ Zct cs, Zvu tb tb' ρ ρ' j) (hρ : ρ' k = ρ k) (hO : ∀ b, x.live = true → (ρ k).fp b → w'.heap[b]? = w.heap[b]?) (hsz : w.heap.size ≤ w'.heap.size) : BR X w' tb' ρ' k x := by
 cases x with
 | box t cs =>
  obtain ⟨b, vs, e, h1, h2, h3, h4⟩ := h
  exact ⟨b, vs, hρ.trans e, h1, (hO b rfl (by rw [e]; rfl)).trans h2, VRs.keepK hF hs cs (hkk t cs rfl) h3, h4⟩
 | row e n y l =>
  obtain ⟨xs, e0, h0, h1, h2, h3, h4⟩ := h
  refine ⟨xs, by rw [hρ]; exact e0, by rw [hρ]; exact h0, ?_, h2.keep hF hs, h3, h4⟩
  rw [hρ]
  refine ⟨h1.1, h1.2.imp id ?_⟩
  rintro ⟨g, cap, cur, e1, e2, e3, r⟩
  exact ⟨g, cap, cur, e1, e2, (hO g rfl (by rw [e0, e1]; rfl)).trans e3, r⟩
 | res R =>
  obtain ⟨h1, h2⟩ := h
  refine ⟨?_, ?_⟩
  ·rw [hρ]; exact R.keep _ _ _ _ _ _ hF hs (fun b => hO b rfl) h1
  ·rw [hρ]; exact fun b hb => ⟨(h2 b hb).1, Nat.lt_of_lt_of_le (h2 b hb).2 hsz⟩
 | dead => trivial
def Zhs (ks : List Nat) (d : Nat) (R : Res) (tb : Nat → Option Blk) : Nat → Option Blk := fun j => if j = d then some (.res R) else if ks.contains j then some .dead else tb j
theorem ConcAt.join (hc : ConcAt X s a w ρ) {js : List Nat} {d : Nat} {R : Res} {v : Value} {O : Nat → Prop}
  (hlive : ∀ k ∈ js, Za6 (s.tb k) = true) (hd : (s.tb d = none ∧ d < 1000) ∨ (d ∈ js ∧ (ρ d).v = v ∧ ∃ R0, s.tb d = some (.res R0)))
  (hbox : ∀ k ∈ js, ∀ t cs, s.tb k = some (.box t cs) → (∀ t, k ∉ Zbp (s.tm t)) ∧ ∀ j t cs, s.tb j = some (.box t cs) → j ∉ js → k ∉ Zct cs)
  (hos : w'.os = w.os) (htp : w'.tape = w.tape) (hout : w'.output = w.output) (hsz : w.heap.size ≤ w'.heap.size) (hoth : ∀ b, b < w.heap.size → (∀ k ∈ js, ¬ (ρ k).fp b) → w'.heap[b]? = w.heap[b]?)
  (hO : ∀ b, O b → (w.heap.size ≤ b ∧ b < w'.heap.size) ∨ ∃ k ∈ js, (ρ k).fp b) (hR : ∀ F' : Nat → Prop, (∀ b, FF X w s.tb ρ b → F' b) → R.rel w' F' O v) :
  ConcAt X { tm := s.tm, tb := Zhs js d R s.tb } a w' (upd ρ d ⟨v, O⟩) := by
 have hFold : ∀ b, FF X w s.tb ρ b → ∀ k ∈ js, ¬ (ρ k).fp b := fun b hb k hk => hb.2.2 k (hlive k hk)
 have hF : ∀ b, FF X w s.tb ρ b → w'.heap[b]? = w.heap[b]? := fun b hb => hoth b hb.2.1 (hFold b hb)
 have hlv : ∀ j, Za6 (Zhs js d R s.tb j) = true → j = d ∨ (j ≠ d ∧ j ∉ js ∧ Za6 (s.tb j) = true) := by
  intro j hj
  unfold Zhs at hj
  by_cases e : j = d
  ·exact .inl e
  ·rw [if_neg e] at hj
   by_cases e2 : js.contains j = true
   ·rw [if_pos e2] at hj; cases hj
   ·rw [if_neg e2] at hj
    exact .inr ⟨e, by simpa using e2, hj⟩
 have hold : ∀ k b, Za6 (s.tb k) = true → (ρ k).fp b → b < w.heap.size := by
  intro k b hk hb
  obtain ⟨x, hx, hl⟩ := Zba hk
  exact (hc.rowBlk hx hl hb).2
 have hs : ∀ b, FF X w s.tb ρ b → FF X w' (Zhs js d R s.tb) (upd ρ d ⟨v, O⟩) b := by
  intro b hb
  refine ⟨hb.1, Nat.lt_of_lt_of_le hb.2.1 hsz, fun j hj e => ?_⟩
  rcases hlv j hj with rfl | ⟨n1, n2, n3⟩
  ·rw [Zaf] at e
   rcases hO b e with ⟨h1, _⟩ | ⟨k, hk, h1⟩
   ·have := hb.2.1; omega
   ·exact hFold b hb k hk h1
  ·rw [Zaw _ _ n1] at e
   exact hb.2.2 j n3 e
 have hkept : ∀ k, (∀ t cs, s.tb k = some (.box t cs) → k ∉ js) → Zvu s.tb (Zhs js d R s.tb) ρ (upd ρ d ⟨v, O⟩) k := by
  intro k hb x hx
  by_cases e : k = d
  ·subst e
   rcases hd with ⟨hd, _⟩ | ⟨hd, hv, R0, hR0⟩
   ·rw [hd] at hx; cases hx
   ·rw [hR0] at hx; cases hx
    exact ⟨.res R, by simp [Zhs], .inl ⟨.inl rfl, by rw [Zaf]; exact hv.symm⟩⟩
  ·by_cases e2 : k ∈ js
   ·refine ⟨.dead, by simp [Zhs, e, e2], .inr ⟨rfl, fun h0 => ?_⟩⟩
    cases x with
    | box t cs => exact hb t cs hx e2
    | row _ _ _ _ => simp [Blk.kind] at h0
    | res _ => simp [Blk.kind] at h0
    | dead => simp [Blk.kind] at h0
   ·exact ⟨x, by simp [Zhs, e, e2, hx], .inl ⟨.inl rfl, by rw [Zaw _ _ e]⟩⟩
 have hwp : ∀ j b, j ∉ js → Za6 (s.tb j) = true → (ρ j).fp b → w'.heap[b]? = w.heap[b]? := fun j b hj hl hb =>
  hoth b (hold j b hl hb) fun k hk hb' => hj ((hc.apart j k b hl (hlive k hk) hb hb').symm ▸ hk)
 have hmay : ∀ b, O b → X.may b ∧ b < w'.heap.size := by
  intro b hb
  rcases hO b hb with ⟨h1, h2⟩ | ⟨k, hk, h1⟩
  ·exact ⟨.inl (Nat.le_trans hc.below.size h1), h2⟩
  ·obtain ⟨x, hx, hl⟩ := Zba (hlive k hk)
   have := hc.rowBlk hx hl h1
   exact ⟨this.1, Nat.lt_of_lt_of_le this.2 hsz⟩
 refine ⟨hc.size, hc.defers, hc.below.step hos htp hout hsz (fun b hb hm => hoth b hb fun k hk hf => ?_), fun t => ?_, fun j x hx => ?_, fun j1 j2 b h1 h2 e1 e2 => ?_, fun j hj hl => ?_⟩
 ·obtain ⟨x, hx, hl⟩ := Zba (hlive k hk)
  exact hm (hc.rowBlk hx hl hf).1
 ·exact VR.keepK hF hs _ (fun k hk => hkept k fun t' cs hb hin => (hbox k hin t' cs hb).1 t hk) (hc.tmps t)
 ·by_cases e : j = d
  ·subst e
   have hx : some (Blk.res R) = some x := by rw [← hx]; simp [Zhs]
   cases hx
   refine ⟨?_, ?_⟩
   ·rw [Zaf]; exact hR _ hs
   ·rw [Zaf]; exact hmay
  ·by_cases e2 : j ∈ js
   ·have hx : some Blk.dead = some x := by rw [← hx]; simp [Zhs, e, e2]
    cases hx; trivial
   ·have hx : s.tb j = some x := by rw [← hx]; simp [Zhs, e, e2]
    exact (hc.blks j x hx).keepK hF hs (fun t cs ex k hk => hkept k fun t' cs' hb hin => (hbox k hin t' cs' hb).2 j t cs (by rw [← ex]; exact hx) e2 hk) (Zaw _ _ e) (fun b hl hb => hwp j b e2 (by rw [hx]; exact hl) hb) hsz
 ·rcases hlv j1 h1 with rfl | ⟨n1, n2, n3⟩ <;> rcases hlv j2 h2 with h | ⟨m1, m2, m3⟩
  ·exact h.symm
  ·rw [Zaf] at e1; rw [Zaw _ _ m1] at e2
   rcases hO b e1 with ⟨h3, _⟩ | ⟨k, hk, h3⟩
   ·have := hold j2 b m3 e2; omega
   ·exact absurd (hc.apart j2 k b m3 (hlive k hk) e2 h3 ▸ hk) m2
  ·subst h
   rw [Zaf] at e2; rw [Zaw _ _ n1] at e1
   rcases hO b e2 with ⟨h3, _⟩ | ⟨k, hk, h3⟩
   ·have := hold j1 b n3 e1; omega
   ·exact absurd (hc.apart j1 k b n3 (hlive k hk) e1 h3 ▸ hk) n2
  ·rw [Zaw _ _ n1] at e1; rw [Zaw _ _ m1] at e2
   exact hc.apart j1 j2 b n3 m3 e1 e2
 ·rcases hlv j hl with rfl | ⟨n1, n2, n3⟩
  ·rcases hd with ⟨_, h⟩ | ⟨h1, h2, R0, h3⟩
   ·omega
   ·rw [Zaf]
    show v = _
    rw [← h2]
    exact hc.lent j hj (by rw [h3]; rfl)
  ·rw [Zaw _ _ n1]; exact hc.lent j hj n3
def Zfz (js : List Nat) (nb tb : Nat → Option Blk) : Nat → Option Blk := fun j => if js.contains j then nb j else tb j
def Zgp (js : List Nat) (nr ρ : Nat → RV) : Nat → RV := fun j => if js.contains j then nr j else ρ j
theorem ConcAt.split (hc : ConcAt X s a w ρ) {k : Nat} {R : Res} (hk : s.tb k = some (.res R)) {js : List Nat} {nb : Nat → Option Blk} {nr : Nat → RV} (hfree : ∀ j ∈ js, j ≠ k → s.tb j = none) (hin : k ∈ js)
  (hrv : ∀ j, 1000 ≤ j → Za6 (s.tb j) = true → j ∉ js → X'.rv j = X.rv j) (hX : X' = { X with rv := X'.rv })
  (hkk : (nr k).v = (ρ k).v ∧ ∃ x, nb k = some x ∧ (x.kind = 3 ∨ x.kind = 1)) (hfp : ∀ j ∈ js, Za6 (nb j) = true → ∀ b, (nr j).fp b → (ρ k).fp b) (hap : ∀ j1 ∈ js, ∀ j2 ∈ js, ∀ b, Za6 (nb j1) = true → Za6 (nb j2) = true → (nr j1).fp b → (nr j2).fp b → j1 = j2)
  (hlent : ∀ j ∈ js, 1000 ≤ j → Za6 (nb j) = true → (nr j).v = X'.rv j)
  (hb : (∀ b, FF X w s.tb ρ b → FF X' w (Zfz js nb s.tb) (Zgp js nr ρ) b) → ∀ j ∈ js, ∀ x, nb j = some x → BR X' w (Zfz js nb s.tb) (Zgp js nr ρ) j x) :
  ConcAt X' { tm := s.tm, tb := Zfz js nb s.tb } a w (Zgp js nr ρ) := by
 obtain ⟨rv', hX⟩ : ∃ r, X' = { X with rv := r } := ⟨_, hX⟩
 subst hX
 have hin' : ∀ {j}, j ∈ js → Zfz js nb s.tb j = nb j ∧ Zgp js nr ρ j = nr j := fun h => by unfold Zfz Zgp; rw [if_pos (by simpa using h), if_pos (by simpa using h)]; exact ⟨rfl, rfl⟩
 have hnin : ∀ {j}, j ∉ js → Zfz js nb s.tb j = s.tb j ∧ Zgp js nr ρ j = ρ j := fun h => by unfold Zfz Zgp; rw [if_neg (by simpa using h), if_neg (by simpa using h)]; exact ⟨rfl, rfl⟩
 have hlk : Za6 (s.tb k) = true := by rw [hk]; rfl
 have hs : ∀ b, FF X w s.tb ρ b → FF { X with rv := rv' } w (Zfz js nb s.tb) (Zgp js nr ρ) b := by
  intro b hb'
  refine ⟨hb'.1, hb'.2.1, fun j hj e => ?_⟩
  by_cases hi : j ∈ js
  ·rw [(hin' hi).1] at hj; rw [(hin' hi).2] at e
   exact hb'.2.2 k hlk (hfp j hi hj b e)
  ·rw [(hnin hi).1] at hj; rw [(hnin hi).2] at e
   exact hb'.2.2 j hj e
 have hkept : ∀ j, Zvu s.tb (Zfz js nb s.tb) ρ (Zgp js nr ρ) j := by
  intro j x hx
  by_cases hi : j ∈ js
  ·by_cases e : j = k
   ·subst e
    rw [hk] at hx; cases hx
    obtain ⟨h1, x', h2, h3⟩ := hkk
    refine ⟨x', by rw [(hin' hi).1]; exact h2, .inl ⟨?_, by rw [(hin' hi).2]; exact h1⟩⟩
    rcases h3 with h3 | h3
    ·exact .inl h3
    ·exact .inr ⟨.inr rfl, .inl h3⟩
   ·rw [hfree j hi e] at hx; cases hx
  ·exact ⟨x, by rw [(hnin hi).1]; exact hx, .inl ⟨.inl rfl, by rw [(hnin hi).2]⟩⟩
 have hlv : ∀ j, Za6 (Zfz js nb s.tb j) = true → (j ∈ js ∧ Za6 (nb j) = true) ∨ (j ∉ js ∧ Za6 (s.tb j) = true) := by
  intro j hj
  by_cases hi : j ∈ js
  ·rw [(hin' hi).1] at hj; exact .inl ⟨hi, hj⟩
  ·rw [(hnin hi).1] at hj; exact .inr ⟨hi, hj⟩
 refine ⟨hc.size, hc.defers, ⟨hc.below.os, hc.below.tape, hc.below.output, hc.below.size, hc.below.block⟩, fun t => VR.keepK (fun _ _ => rfl) hs _ (fun j _ => hkept j) (hc.tmps t), fun j x hx => ?_, fun j1 j2 b h1 h2 e1 e2 => ?_, fun j hj hl => ?_⟩
 ·by_cases hi : j ∈ js
  ·exact hb hs j hi x (by rw [← (hin' hi).1]; exact hx)
  ·have hx : s.tb j = some x := by rw [← (hnin hi).1]; exact hx
   have h0 : BR { X with rv := rv' } w s.tb ρ j x := by
    have := hc.blks j x hx
    cases x <;> exact this
   exact BR.keepK (X := { X with rv := rv' }) h0 (fun _ _ => rfl) hs (fun _ _ _ j _ => hkept j) (hnin hi).2 (fun _ _ _ => rfl) (Nat.le_refl _)
 ·have hnk : ∀ j, j ∉ js → j ≠ k := fun j hj e => hj (e ▸ hin)
  rcases hlv j1 h1 with ⟨a1, a2⟩ | ⟨a1, a2⟩ <;> rcases hlv j2 h2 with ⟨c1, c2⟩ | ⟨c1, c2⟩
  ·rw [(hin' a1).2] at e1; rw [(hin' c1).2] at e2
   exact hap j1 a1 j2 c1 b a2 c2 e1 e2
  ·rw [(hin' a1).2] at e1; rw [(hnin c1).2] at e2
   exact absurd (hc.apart j2 k b c2 hlk e2 (hfp j1 a1 a2 b e1)) (hnk j2 c1)
  ·rw [(hnin a1).2] at e1; rw [(hin' c1).2] at e2
   exact absurd (hc.apart j1 k b a2 hlk e1 (hfp j2 c1 c2 b e2)) (hnk j1 a1)
  ·rw [(hnin a1).2] at e1; rw [(hnin c1).2] at e2
   exact hc.apart j1 j2 b a2 c2 e1 e2
 ·rcases hlv j hl with ⟨a1, a2⟩ | ⟨a1, a2⟩
  ·rw [(hin' a1).2]; exact hlent j a1 hj a2
  ·rw [(hnin a1).2, hc.lent j hj a2]; exact (hrv j hj a2 a1).symm
theorem ConcAt.see (hc : ConcAt X s a w ρ) {t : Nat} {x : AV} (hx : VR w (FF X w s.tb ρ) s.tb ρ x (a.tmps.getD t undef)) : ConcAt X { s with tm := upd s.tm t x } a w ρ := by
 refine ⟨hc.size, hc.defers, hc.below, fun i => ?_, hc.blks, hc.apart, hc.lent⟩
 show VR _ _ _ _ (upd s.tm t x i) _
 by_cases e : i = t
 ·subst e; rw [Zaf]; exact hx
 ·rw [Zaw _ _ e]; exact hc.tmps i
end
end Go.Proofs.YtgmahieoiifpfaaGreat
