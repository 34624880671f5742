/- What WithField leaves, put together. -/
import Derived.Test.YtlghpcokbppkfaaCells
import Derived.Test.YtlghpcokbppkfaaPure
namespace Go.Proofs.Ytlghpcokbppkfaa
open Go.RowKit

/-- x put into l at the place of the key k among ks. -/
def insL {α : Type} (ks : List ByteArray) (l : List α) (k : ByteArray) (x : α) : List α := l.take (lb ks k) ++ [x] ++ l.drop (lb ks k + if hasAt ks k then 1 else 0)
def withF (m : GV) (k : ByteArray) (x : GV) : GV := .mk 6 0 0 ByteArray.empty (insL m.keys m.keys k k) (insL m.keys m.l k x)


theorem insL_map {α β : Type} (f : α → β) (ks : List ByteArray) (l : List α) (k : ByteArray) (x : α) : (insL ks l k x).map f = insL ks (l.map f) k (f x) := by simp [insL]
theorem insL_length {α : Type} {ks : List ByteArray} {l : List α} {k : ByteArray} {x : α} {j : Nat} (hj : j = lb ks k + if hasAt ks k then 1 else 0) (hjl : j ≤ l.length) (hl : lb ks k ≤ l.length) : (insL ks l k x).length = lb ks k + 1 + (l.length - j) := by
  simp only [insL, List.length_append, List.length_take, List.length_drop, List.length_cons, List.length_nil, ← hj]; omega

theorem with_fin {m : GV} {key : ByteArray} {x : GV} {w4 wF : World} {lo W O j : Nat} {xs : List Value} {AK AL : Option Addr} {cK cL : Nat} {x0 x1 x2 x3 x4 x5 : Value}
    (hlo : lo ≤ W) (hWO : W ≤ O) (hxs : VCells w4 (Btw lo W) m.l xs) (hx4 : IsV w4 (Btw lo W) x (.agg #[x0, x1, x2, x3, x4, x5])) (hBF : Below W w4 wF) (hWs : W ≤ wF.heap.size)
    (hj : j = lb m.keys key + if hasAt m.keys key then 1 else 0) (hjk : j ≤ m.keys.length) (hjl : j ≤ m.l.length) (hlen : m.keys.length = m.l.length) (hkey : key.size ≤ maxLen) (hkz : ∀ s ∈ m.keys, s.size ≤ maxLen) (hsz : (m.l.length + 1) * 88 ≤ 140737488351232)
    (hOK : wF.ownsRow (O + 1) 9 1 (.slice AK (lb m.keys key + 1 + (m.keys.length - j)) cK) (lb m.keys key + 1 + (m.keys.length - j)) ((m.keys.map Value.string).take (lb m.keys key) ++ [.string key] ++ (m.keys.map Value.string).drop (j * 1)))
    (hOL : wF.ownsRow (O + 1) 26 6 (.slice AL (lb m.keys key + 1 + (m.l.length - j)) cL) (lb m.keys key + 1 + (m.l.length - j)) (xs.take (lb m.keys key * 6) ++ [x0, x1, x2, x3, x4, x5] ++ xs.drop (j * 6))) :
    IsV wF (Btw lo wF.heap.size) (withF m key x) (.agg #[.int .i64 6, .int .i64 0, .float .f64 0, .string ⟨#[]⟩, .slice AK (lb m.keys key + 1 + (m.keys.length - j)) cK, .slice AL (lb m.keys key + 1 + (m.l.length - j)) cL]) := by
  have hlj : lb m.keys key ≤ j := by rw [hj]; exact Nat.le_add_right _ _
  have hS : ∀ {A : Option Addr} {n c : Nat} {e size : Nat} {zs : List Value}, wF.ownsRow (O + 1) e size (.slice A n c) n zs → ∀ b, (Value.slice A n c).ownBlock = some b → Btw lo wF.heap.size b := fun h b hb => by
    have := h.lt b hb
    exact ⟨by omega, this.2⟩
  have l1 : (insL m.keys m.keys key key).length = lb m.keys key + 1 + (m.keys.length - j) := insL_length hj hjk (lb_le _ _)
  have l2 : (insL m.keys m.l key x).length = lb m.keys key + 1 + (m.l.length - j) := insL_length hj hjl (by omega)
  have hkeep : ∀ b, Btw lo W b → wF.heap[b]? = w4.heap[b]? := Btw.kept hBF
  have hmono : ∀ b, Btw lo W b → Btw lo wF.heap.size b := Btw.mono (Nat.le_refl _) hWs
  have hvc : VCells wF (Btw lo wF.heap.size) (insL m.keys m.l key x) (xs.take (lb m.keys key * 6) ++ [x0, x1, x2, x3, x4, x5] ++ xs.drop (j * 6)) := by
    unfold insL
    rw [← hj]
    exact (((hxs.take _).keep hkeep hmono).app (VCells.one (hx4.keep hkeep hmono))).app ((hxs.drop _).keep hkeep hmono)
  unfold withF
  refine IsV.mk_ (by decide) (by decide) (by decide) (by decide) (IsStrs.of_own (base := O + 1) ?_ (hS hOK) ?_ ?_) ?_ ?_
  · rw [l1, insL_map]
    unfold insL
    rw [← hj]
    simpa using hOK
  · rw [l1]; omega
  · intro s hs
    unfold insL at hs
    simp only [List.mem_append, List.mem_singleton] at hs
    rcases hs with (hs | rfl) | hs
    · exact hkz s (List.mem_of_mem_take hs)
    · exact hkey
    · exact hkz s (List.mem_of_mem_drop hs)
  · rw [l2]; omega
  · have := rows_of_own (base := O + 1) (l := insL m.keys m.l key x) (by rw [l2]; exact hOL) (hS hOL) hvc
    rwa [l2] at this ⊢
end Go.Proofs.Ytlghpcokbppkfaa
