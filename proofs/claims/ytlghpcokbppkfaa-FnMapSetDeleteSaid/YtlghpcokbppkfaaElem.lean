/- A path element (impl.Elem) as plain data, and what it means that memory holds it. -/
import Derived.Test.YtlghpcokbppkfaaCells
namespace Go.Proofs.Ytlghpcokbppkfaa
open Go.RowKit

/-- An impl.Elem as data. -/
structure EV where
  kind : Int
  s : ByteArray
  keys : List ByteArray
  l : List GV
  v : GV
  n : Int

/-- The struct value u holds the impl.Elem x; all cells behind it lie in blocks of S. -/
def IsE (w : World) (S : Nat → Prop) (x : EV) (u : Value) : Prop :=
  ∃ ak ck a c c0 c1 c2 c3 c4 c5, u = .agg #[.int .i64 x.kind, .string x.s, .slice ak x.keys.length ck, .slice a x.l.length c, c0, c1, c2, c3, c4, c5, .int .i64 x.n] ∧
    (Lit.int .i64 x.kind).wf = true ∧ (Lit.int .i64 x.n).wf = true ∧ x.s.size ≤ maxLen ∧
    IsStrs w S (.slice ak x.keys.length ck) x.keys ∧ x.l.length ≤ c ∧ x.l.length * 88 ≤ 140737488351232 ∧ (x.l = [] ∨ ∃ b o, S b ∧ a = some ⟨b, o, none⟩ ∧ IsVs w S x.l b o) ∧
    IsV w S x.v (.agg #[c0, c1, c2, c3, c4, c5])

theorem IsE.keep {w w' : World} {S S' : Nat → Prop} (h : ∀ b, S b → w'.heap[b]? = w.heap[b]?) (hs : ∀ b, S b → S' b) {x : EV} {u : Value} (hx : IsE w S x u) : IsE w' S' x u := by
  obtain ⟨ak, ck, a, c, c0, c1, c2, c3, c4, c5, e, h1, h2, h3, hk, h5, h6, hl, hv⟩ := hx
  refine ⟨ak, ck, a, c, c0, c1, c2, c3, c4, c5, e, h1, h2, h3, hk.keep h hs, h5, h6, ?_, IsV.keep h hs _ hv⟩
  rcases hl with hl | ⟨b, o, hb, ha, hl⟩
  · exact .inl hl
  · exact .inr ⟨b, o, hs b hb, ha, IsVs.keep h hs _ b o hb hl⟩
theorem IsE.alloc_ {w : World} {lo : Nat} {x : EV} {u : Value} (h : IsE w (Btw lo w.heap.size) x u) (o : Obj) : IsE (w.alloc o) (Btw lo (w.alloc o).heap.size) x u :=
  h.keep (fun b hb => Below.heap_alloc _ _ _ hb.2) (Btw.mono (Nat.le_refl _) (by simp))
theorem IsE.below_ {w w' : World} {lo : Nat} {x : EV} {u : Value} (h : IsE w (Btw lo w.heap.size) x u) (hb : Below w.heap.size w w') : IsE w' (Btw lo w'.heap.size) x u :=
  h.keep (fun b hb' => hb.block b hb'.2) (Btw.mono (Nat.le_refl _) hb.size)
theorem IsE.drew_ {w : World} {lo : Nat} {x : EV} {u : Value} (h : IsE w (Btw lo w.heap.size) x u) : IsE w.drew (Btw lo w.drew.heap.size) x u :=
  IsE.keep (w := w) (w' := w.drew) (S := Btw lo w.heap.size) (S' := Btw lo w.heap.size) (fun _ _ => rfl) (fun _ h => h) h
theorem IsE.lo_ {w : World} {lo hi : Nat} {x : EV} {u : Value} (h : IsE w (Btw lo hi) x u) {lo' : Nat} (hl : lo' ≤ lo) : IsE w (Btw lo' hi) x u := h.keep (fun _ _ => rfl) (Btw.mono hl (Nat.le_refl _))

/-- The form of the value. -/
theorem IsE.form {w : World} {S : Nat → Prop} {x : EV} {u : Value} (h : IsE w S x u) : ∃ ak ck a c a0 d0 a1 d1, u = .agg #[.int .i64 x.kind, .string x.s, .slice ak x.keys.length ck, .slice a x.l.length c,
    .int .i64 x.v.kind, .int .i64 x.v.n, .float .f64 x.v.f, .string x.v.s, .slice a0 x.v.keys.length d0, .slice a1 x.v.l.length d1, .int .i64 x.n] := by
  obtain ⟨ak, ck, a, c, c0, c1, c2, c3, c4, c5, rfl, _, _, _, _, _, _, _, hv⟩ := h
  obtain ⟨a0, d0, a1, d1, e⟩ := hv.form
  injection e with e
  injection e with e
  simp only [List.cons.injEq, and_true] at e
  obtain ⟨rfl, rfl, rfl, rfl, rfl, rfl⟩ := e
  exact ⟨ak, ck, a, c, a0, d0, a1, d1, rfl⟩

/-- The value in it. -/
theorem IsE.val {w : World} {S : Nat → Prop} {x : EV} {a b c d c0 c1 c2 c3 c4 c5 n : Value} (h : IsE w S x (.agg #[a, b, c, d, c0, c1, c2, c3, c4, c5, n])) : IsV w S x.v (.agg #[c0, c1, c2, c3, c4, c5]) := by
  obtain ⟨ak, ck, a, c, c0, c1, c2, c3, c4, c5, e, _, _, _, _, _, _, _, hv⟩ := h
  injection e with e
  injection e with e
  simp only [List.cons.injEq, and_true] at e
  obtain ⟨_, _, _, _, rfl, rfl, rfl, rfl, rfl, rfl, _⟩ := e
  exact hv
end Go.Proofs.Ytlghpcokbppkfaa
