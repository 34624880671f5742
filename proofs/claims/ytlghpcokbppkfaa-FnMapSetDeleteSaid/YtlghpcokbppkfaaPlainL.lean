import Derived.Test.YtlghpcokbppkfaaEngE
import Derived.Test.YtlghpcokbppkfaaPureGet
set_option linter.unusedVariables false
/- Plain maps and the trees' maps: keys, values, order. -/
namespace Go.Proofs.Ytlghpcokbppkfaa
set_option linter.unusedSimpArgs false

theorem lkJ_getA : ∀ (m : List (ByteArray × JV)) (k : ByteArray), lkJ m k = getA m k
  | [], _ => rfl
  | x :: r, k => by unfold lkJ getA; rw [lkJ_getA r k]
theorem nodup_sub {α : Type} [DecidableEq α] : ∀ {a l : List α}, a.Nodup → (∀ x ∈ a, x ∈ l) → l.length ≤ a.length → ∀ x ∈ l, x ∈ a
  | a, l, hn, hs, hl, x, hx => by
    by_cases h : x ∈ a
    · exact h
    · have := nodup_len (a := x :: a) (l := l) (List.nodup_cons.2 ⟨h, hn⟩) (fun y hy => by
        rcases List.mem_cons.1 hy with rfl | hy
        · exact hx
        · exact hs y hy)
      simp at this; omega
theorem incr_ext {a b : List ByteArray} (ha : Incr a) (hb : Incr b) (h : ∀ k, k ∈ a ↔ k ∈ b) : a = b := by
  have hg1 : ∀ (l : List ByteArray) (k : ByteArray), k ∈ l → getA (l.map fun k => (k, ())) k = some () := by
    intro l k hk
    induction l with
    | nil => simp at hk
    | cons x r ih =>
      simp only [List.map_cons, getA]
      by_cases e : x = k
      · rw [if_pos e]
      · rw [if_neg e]
        rcases List.mem_cons.1 hk with h | h
        · exact absurd h.symm e
        · exact ih h
  have hg2 : ∀ (l : List ByteArray) (k : ByteArray), k ∉ l → getA (l.map fun k => (k, ())) k = none := by
    intro l k hk
    exact getA_none fun e he => by
      obtain ⟨x, hx, rfl⟩ := List.mem_map.1 he
      exact fun e => hk (e ▸ hx)
  have e1 : ∀ l : List ByteArray, (l.map fun k => (k, ())).map (·.1) = l := fun l => by
    induction l with
    | nil => rfl
    | cons x r ih => simp only [List.map_cons, ih]
  have := getA_ext (a := a.map fun k => (k, ())) (b := b.map fun k => (k, ())) (by rw [e1]; exact ha) (by rw [e1]; exact hb) (fun k => by
    by_cases hk : k ∈ a
    · rw [hg1 _ _ hk, hg1 _ _ ((h k).1 hk)]
    · rw [hg2 _ _ hk, hg2 _ _ (fun hb => hk ((h k).2 hb))])
  have := congrArg (List.map (·.1)) this
  rwa [e1, e1] at this
theorem incr_nd {ks : List ByteArray} (h : Incr ks) : ks.Nodup := List.Pairwise.imp (fun {a b} hab e => by subst e; rw [blt_irrefl] at hab; cases hab) h
theorem zip_idx {α : Type} {ks : List ByteArray} {l : List α} (hl : ks.length = l.length) (hi : Incr ks) {k : ByteArray} {x : α} : getA (ks.zip l) k = some x ↔ ∃ i : Nat, ks[i]? = some k ∧ l[i]? = some x := by
  constructor
  · intro h
    obtain ⟨i, hi'⟩ := List.getElem?_of_mem (getA_mem h)
    rw [List.getElem?_zip_eq_some] at hi'
    exact ⟨i, hi'⟩
  · rintro ⟨i, h1, h2⟩
    refine getA_of_mem (by rw [zip_fst hl]; exact incr_nd hi) ?_
    exact List.mem_of_getElem? (i := i) (List.getElem?_zip_eq_some.2 ⟨h1, h2⟩)
/-- A map's plain value: its keys and values. -/
theorem unM_form {m : List (ByteArray × JV)} (hd : (m.map (·.1)).Nodup) : ∃ ks l, unM m gMap = .mk 6 0 0 ByteArray.empty ks l ∧ Incr ks ∧ ks.length = l.length ∧ (∀ k, k ∈ ks ↔ k ∈ m.map (·.1)) ∧ ∀ k x, (∃ i : Nat, ks[i]? = some k ∧ l[i]? = some x) ↔ ∃ j, getA m k = some j ∧ unJ j = x := by
  obtain ⟨ks, l, e, hi, hl⟩ := unM_plain m gMap gMap_plain
  have hg : ∀ k, getA (ks.zip l) k = (getA m k).map unJ := fun k => by
    have := getF_unM m gMap gMap_plain hd k
    rw [getF_gMap, Option.or_none, e] at this
    exact this
  have key : ∀ k x, (∃ i : Nat, ks[i]? = some k ∧ l[i]? = some x) ↔ ∃ j, getA m k = some j ∧ unJ j = x := fun k x => by
    rw [← zip_idx hl hi, hg, Option.map_eq_some_iff]
  refine ⟨ks, l, e, hi, hl, fun k => ?_, key⟩
  constructor
  · intro hk
    obtain ⟨i, hi'⟩ := List.getElem?_of_mem hk
    have hlt := (List.getElem?_eq_some_iff.1 hi').1
    obtain ⟨j, hj, _⟩ := (key k l[i]).1 ⟨i, hi', List.getElem?_eq_getElem (hl ▸ hlt)⟩
    exact List.mem_map_of_mem (f := (·.1)) (getA_mem hj)
  · intro hk
    obtain ⟨y, hy, rfl⟩ := List.mem_map.1 hk
    obtain ⟨i, h1, _⟩ := (key y.1 (unJ y.2)).2 ⟨y.2, getA_of_mem hd hy, rfl⟩
    exact List.mem_of_getElem? h1
end Go.Proofs.Ytlghpcokbppkfaa
