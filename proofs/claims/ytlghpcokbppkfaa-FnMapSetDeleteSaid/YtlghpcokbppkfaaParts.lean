/- The two slices of an impl.Value, and an element of a list of strings, in memory. -/
import Derived.Test.YtlghpcokbppkfaaCells
namespace Go.Proofs.Ytlghpcokbppkfaa
open Go.RowKit

theorem IsV.strs {w : World} {S : Nat → Prop} {x : GV} {c0 c1 c2 c3 c5 : Value} {a : Option Addr} {n c : Nat} (h : IsV w S x (.agg #[c0, c1, c2, c3, .slice a n c, c5])) : IsStrs w S (.slice a n c) x.keys := by
  obtain ⟨k, m, f, s, ks, l⟩ := x
  unfold IsV at h
  obtain ⟨vk, a', c', e, _, _, _, _, hk, _⟩ := h
  injection e with e
  injection e with e
  simp only [List.cons.injEq, and_true] at e
  obtain ⟨_, _, _, _, e, _⟩ := e
  rw [e]; exact hk
theorem IsV.vals {w : World} {S : Nat → Prop} {x : GV} {c0 c1 c2 c3 c4 : Value} {a : Option Addr} {n c : Nat} (h : IsV w S x (.agg #[c0, c1, c2, c3, c4, .slice a n c])) : x.l = [] ∨ ∃ b o, S b ∧ a = some ⟨b, o, none⟩ ∧ IsVs w S x.l b o := by
  obtain ⟨k, m, f, s, ks, l⟩ := x
  unfold IsV at h
  obtain ⟨vk, a', c', e, _, _, _, _, _, _, _, hl⟩ := h
  injection e with e
  injection e with e
  simp only [List.cons.injEq, and_true] at e
  obtain ⟨_, _, _, _, _, e⟩ := e
  injection e with e1 _ _
  rw [e1]; exact hl
theorem strs_at {w : World} {S : Nat → Prop} {a : Option Addr} {n c : Nat} {ks : List ByteArray} (h : IsStrs w S (.slice a n c) ks) {i : Nat} {k : ByteArray} (hk : ks[i]? = some k) : ∃ b o, S b ∧ a = some ⟨b, o, none⟩ ∧ w.cell? ⟨b, o + i, none⟩ = some (.string k) := by
  obtain ⟨a', c', e, _, _, _, hc⟩ := h
  injection e with e1 _ _
  subst e1
  have hi := (List.getElem?_eq_some_iff.1 hk).1
  obtain ⟨b, o, hb, ha, hcell⟩ := hc (by omega)
  refine ⟨b, o, hb, ha, ?_⟩
  rw [hcell i hi]; simp [List.getD, hk]


theorem IsV.len {w : World} {S : Nat → Prop} {x : GV} {v : Value} (h : IsV w S x v) : x.l.length * 88 ≤ 140737488351232 := by
  obtain ⟨k, m, f, s, ks, l⟩ := x
  unfold IsV at h
  obtain ⟨_, _, _, _, _, _, _, _, _, _, h, _⟩ := h
  exact h
theorem vals_at {w : World} {S : Nat → Prop} {l : List GV} {a : Option Addr} (h : l = [] ∨ ∃ b o, S b ∧ a = some ⟨b, o, none⟩ ∧ IsVs w S l b o) (hp : 0 < l.length) : ∃ b o, S b ∧ a = some ⟨b, o, none⟩ ∧ IsVs w S l b o :=
  h.resolve_left (fun e => by rw [e] at hp; simp at hp)
end Go.Proofs.Ytlghpcokbppkfaa
