/- Sorted keys with one more. -/
import Derived.Test.YtlghpcokbppkfaaWithFin
namespace Go.Proofs.Ytlghpcokbppkfaa
open Go.RowKit

theorem mem_tw {α : Type} {p : α → Bool} {y : α} : ∀ {l : List α}, y ∈ l.takeWhile p → p y = true
  | [], h => by simp at h
  | a :: r, h => by
    simp only [List.takeWhile_cons] at h
    split at h
    · rename_i ha
      rcases List.mem_cons.1 h with rfl | h
      · exact ha
      · exact mem_tw h
    · cases h
theorem lb_lt {ks : List ByteArray} {k y : ByteArray} (h : y ∈ ks.take (lb ks k)) : blt y k = true := by
  have : ks.take (lb ks k) = ks.takeWhile fun x => blt x k := by
    unfold lb
    exact (List.prefix_iff_eq_take.1 (List.takeWhile_prefix _)).symm
  rw [this] at h
  exact mem_tw (p := fun x => blt x k) h

theorem lb_ge {ks : List ByteArray} {k y : ByteArray} (h : ks[lb ks k]? = some y) : blt y k = false := by
  induction ks with
  | nil => simp at h
  | cons a r ih =>
    unfold lb at h ih
    simp only [List.takeWhile_cons] at h
    split at h
    · exact ih (by simpa using h)
    · rename_i ha
      simp at h; subst h
      simpa using ha

theorem drop_gt {ks : List ByteArray} (hinc : Incr ks) {k y : ByteArray} (h : y ∈ ks.drop (lb ks k + if hasAt ks k then 1 else 0)) : blt k y = true := by
  obtain ⟨i, hi⟩ := List.getElem?_of_mem h
  rw [List.getElem?_drop] at hi
  cases hh : hasAt ks k with
  | true =>
    rw [hh] at hi
    unfold hasAt at hh
    simp only [decide_eq_true_eq] at hh
    rcases incr_le hinc (show lb ks k ≤ lb ks k + 1 + i by omega) hh (by simpa using hi) with e | e
    · exfalso
      obtain ⟨h1, e1⟩ := List.getElem?_eq_some_iff.1 hh
      obtain ⟨h2, e2⟩ := List.getElem?_eq_some_iff.1 (show ks[lb ks k + 1 + i]? = some y by simpa using hi)
      have := List.pairwise_iff_getElem.1 hinc (lb ks k) (lb ks k + 1 + i) h1 h2 (by omega)
      rw [e1, e2, e, blt_irrefl] at this
      cases this
    · exact e
  | false =>
    rw [hh] at hi
    simp only [Bool.false_eq_true, if_false, Nat.add_zero] at hi
    have hlt : lb ks k < ks.length := by
      have := (List.getElem?_eq_some_iff.1 hi).1; omega
    obtain ⟨z, hz⟩ : ∃ z, ks[lb ks k]? = some z := ⟨ks[lb ks k], by simp [hlt]⟩
    have h1 := lb_ge hz
    have h2 : z ≠ k := by
      intro e
      unfold hasAt at hh
      simp only [decide_eq_false_iff_not] at hh
      exact hh (by rw [hz, e])
    have h3 : blt k z = true := by
      cases hb : blt k z with
      | true => rfl
      | false => exact absurd (blt_total h1 hb) h2
    rcases incr_le hinc (show lb ks k ≤ lb ks k + i by omega) hz hi with e | e
    · rw [← e]; exact h3
    · exact blt_trans h3 e

theorem insL_incr {ks : List ByteArray} (hinc : Incr ks) (k : ByteArray) : Incr (insL ks ks k k) := by
  unfold insL Incr
  rw [List.pairwise_append, List.pairwise_append]
  refine ⟨⟨List.Pairwise.sublist (List.take_sublist _ _) hinc, by simp, fun a ha b hb => ?_⟩, List.Pairwise.sublist (List.drop_sublist _ _) hinc, fun a ha b hb => ?_⟩
  · simp at hb; subst hb; exact lb_lt ha
  · have hb' := drop_gt hinc hb
    rcases List.mem_append.1 ha with ha | ha
    · exact blt_trans (lb_lt ha) hb'
    · simp at ha; subst ha; exact hb'

/-- A plain map: nothing but sorted keys and as many values. -/
def Plain (m : GV) : Prop := ∃ ks l, m = .mk 6 0 0 ByteArray.empty ks l ∧ Incr ks ∧ ks.length = l.length

theorem hasAt_le {ks : List ByteArray} {k : ByteArray} : lb ks k + (if hasAt ks k then 1 else 0) ≤ ks.length := by
  cases h : hasAt ks k with
  | false => simpa using lb_le ks k
  | true =>
    unfold hasAt at h
    simp only [decide_eq_true_eq] at h
    have := (List.getElem?_eq_some_iff.1 h).1
    simp; omega

theorem withF_plain {m : GV} (h : Plain m) (k : ByteArray) (x : GV) : Plain (withF m k x) := by
  obtain ⟨ks, l, rfl, hi, hl⟩ := h
  refine ⟨_, _, rfl, insL_incr hi k, ?_⟩
  simp only [GV.keys, GV.l]
  rw [insL_length rfl hasAt_le (lb_le _ _), insL_length (l := l) rfl (by rw [← hl]; exact hasAt_le) (by rw [← hl]; exact lb_le _ _), hl]
theorem withF_len {m : GV} (h : Plain m) (k : ByteArray) (x : GV) : (withF m k x).l.length ≤ m.l.length + 1 := by
  obtain ⟨ks, l, rfl, hi, hl⟩ := h
  simp only [withF, GV.keys, GV.l]
  rw [insL_length (l := l) rfl (by rw [← hl]; exact hasAt_le) (by rw [← hl]; exact lb_le _ _)]
  have := hasAt_le (ks := ks) (k := k)
  omega
end Go.Proofs.Ytlghpcokbppkfaa
