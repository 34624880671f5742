/- spec.SortKeys: what holds while it runs, and what a field written changes in it. -/
import Derived.Test.YtlghpcokbppkfaaImplKeyBy
import Derived.Test.YtlghpcokbppkfaaStrings
namespace Go.Proofs.Ytlghpcokbppkfaa
open Go.RowKit
set_option linter.unusedSimpArgs false

theorem VCells.set_ {w : World} {S : Nat → Prop} {y : GV} {c0 c1 c2 c3 c4 c5 : Value} (hy : IsV w S y (.agg #[c0, c1, c2, c3, c4, c5])) : ∀ {l : List GV} {xs : List Value} (j : Nat), VCells w S l xs →
    VCells w S (l.set j y) ((((((xs.set (j * 6) c0).set (j * 6 + 1) c1).set (j * 6 + 2) c2).set (j * 6 + 3) c3).set (j * 6 + 4) c4).set (j * 6 + 5) c5)
  | [], xs, j, h => by unfold VCells at h; subst h; simp [VCells]
  | x :: r, xs, 0, h => by
    obtain ⟨d0, d1, d2, d3, d4, d5, r', rfl, hx, hr⟩ := h
    simp only [Nat.zero_mul, Nat.zero_add, List.set_cons_zero, List.set_cons_succ]
    exact ⟨c0, c1, c2, c3, c4, c5, r', rfl, hy, hr⟩
  | x :: r, xs, j + 1, h => by
    obtain ⟨d0, d1, d2, d3, d4, d5, r', rfl, hx, hr⟩ := h
    have := VCells.set_ hy j hr
    rw [show (j + 1) * 6 = j * 6 + 6 by omega]
    simp only [List.set_cons_succ]
    exact ⟨d0, d1, d2, d3, d4, d5, _, rfl, hx, this⟩

/-- The element that grows (block M + 2) holds the fields L, in rows of its own. -/
def SkInv (M : Nat) (w wr : World) (L : List (ByteArray × GV)) (A : Option Addr) (C : Nat) (B : Option Addr) (D : Nat) : Prop :=
  ∃ zs, wr.heap[M + 1 + 1]? = some (.cells #[.int .i64 1, .string ⟨#[]⟩, .slice A L.length C, .slice B L.length D, .int .i64 0, .int .i64 0, .float .f64 0, .string ⟨#[]⟩, .slice none 0 0, .slice none 0 0, .int .i64 0] 33) ∧ wr.ownsRow (M + 3) 9 1 (.slice A L.length C) L.length (L.map fun p => .string p.1) ∧ wr.ownsRow (M + 3) 26 6 (.slice B L.length D) L.length zs ∧
    VCells wr (fun b => Btw (M + 3) wr.heap.size b ∧ (Value.slice A L.length C).ownBlock ≠ some b ∧ (Value.slice B L.length D).ownBlock ≠ some b) (L.map fun p => p.2) zs ∧ Below M w wr ∧ M + 3 ≤ wr.heap.size

/-- The world behind a field written. -/
def stKV (wr : World) (gA gB j : Nat) (k : ByteArray) (c0 c1 c2 c3 c4 c5 : Value) : World := ((((((wr.setCell ⟨gA, j, none⟩ (.string k)).setCell ⟨gB, j * 6, none⟩ c0).setCell ⟨gB, j * 6 + 1, none⟩ c1).setCell ⟨gB, j * 6 + 2, none⟩ c2).setCell ⟨gB, j * 6 + 3, none⟩ c3).setCell ⟨gB, j * 6 + 4, none⟩ c4).setCell ⟨gB, j * 6 + 5, none⟩ c5

theorem own_blk_ne {g g' n c : Nat} (h : g ≠ g') : (Value.slice (some ⟨g, 0, none⟩) n c).ownBlock ≠ some g' := fun e => h (Option.some.inj e)

set_option maxHeartbeats 1000000 in
theorem skinv_set {M : Nat} {w wr : World} {L : List (ByteArray × GV)} {gA gB C D : Nat} (h : SkInv M w wr L (some ⟨gA, 0, none⟩) C (some ⟨gB, 0, none⟩) D) (j : Nat) (k : ByteArray) {y : GV} {c0 c1 c2 c3 c4 c5 : Value}
    (hy : IsV wr (fun b => Btw (M + 3) wr.heap.size b ∧ gA ≠ b ∧ gB ≠ b) y (.agg #[c0, c1, c2, c3, c4, c5])) (hA : M + 3 ≤ gA) (hB : M + 3 ≤ gB) (hAB : gA ≠ gB) :
    SkInv M w (stKV wr gA gB j k c0 c1 c2 c3 c4 c5) (L.set j (k, y)) (some ⟨gA, 0, none⟩) C (some ⟨gB, 0, none⟩) D ∧ ∀ b, b ≠ gA → b ≠ gB → (stKV wr gA gB j k c0 c1 c2 c3 c4 c5).heap[b]? = wr.heap[b]? := by
  have hkeep : ∀ b, b ≠ gA → b ≠ gB → (stKV wr gA gB j k c0 c1 c2 c3 c4 c5).heap[b]? = wr.heap[b]? := fun b h1 h2 => by
    unfold stKV
    rw [Below.heap_setCell _ _ _ _ h2, Below.heap_setCell _ _ _ _ h2, Below.heap_setCell _ _ _ _ h2, Below.heap_setCell _ _ _ _ h2, Below.heap_setCell _ _ _ _ h2, Below.heap_setCell _ _ _ _ h2, Below.heap_setCell _ _ _ _ h1]
  refine ⟨?_, hkeep⟩
  obtain ⟨zs, hb, hK, hL, hv, hB0, hsz⟩ := h
  have hs : (stKV wr gA gB j k c0 c1 c2 c3 c4 c5).heap.size = wr.heap.size := by simp [stKV]
  refine ⟨(((((zs.set (j * 6) c0).set (j * 6 + 1) c1).set (j * 6 + 2) c2).set (j * 6 + 3) c3).set (j * 6 + 4) c4).set (j * 6 + 5) c5, ?_, ?_, ?_, ?_, ?_, by rw [hs]; exact hsz⟩
  · rw [hkeep _ (by omega) (by omega), List.length_set]; exact hb
  · rw [List.length_set, List.map_set]
    unfold stKV
    have hf : ∀ (w' : World) (i : Nat) (u : Value), w'.ownsRow (M + 3) 9 1 (.slice (some ⟨gA, 0, none⟩) L.length C) L.length ((L.map fun p => Value.string p.1).set j (.string k)) → (w'.setCell ⟨gB, i, none⟩ u).ownsRow (M + 3) 9 1 (.slice (some ⟨gA, 0, none⟩) L.length C) L.length ((L.map fun p => Value.string p.1).set j (.string k)) :=
      fun w' i u h => own_set_far h (p := ⟨gB, i, none⟩) (own_blk_ne hAB) u
    have h1 := own_setN hK (i := j) (.string k)
    have h2 := hf _ (j * 6) c0 h1
    have h3 := hf _ (j * 6 + 1) c1 h2
    have h4 := hf _ (j * 6 + 2) c2 h3
    have h5 := hf _ (j * 6 + 3) c3 h4
    have h6 := hf _ (j * 6 + 4) c4 h5
    exact hf _ (j * 6 + 5) c5 h6
  · rw [List.length_set]
    unfold stKV
    have h1 := own_set_far hL (p := ⟨gA, j, none⟩) (own_blk_ne (fun e => hAB e.symm)) (.string k)
    have h2 := own_setN h1 (i := j * 6) c0
    have h3 := own_setN h2 (i := j * 6 + 1) c1
    have h4 := own_setN h3 (i := j * 6 + 2) c2
    have h5 := own_setN h4 (i := j * 6 + 3) c3
    have h6 := own_setN h5 (i := j * 6 + 4) c4
    exact own_setN h6 (i := j * 6 + 5) c5
  · rw [List.length_set, List.map_set, hs]
    have hS : ∀ b, (Btw (M + 3) wr.heap.size b ∧ (Value.slice (some ⟨gA, 0, none⟩) L.length C).ownBlock ≠ some b ∧ (Value.slice (some ⟨gB, 0, none⟩) L.length D).ownBlock ≠ some b) → b ≠ gA ∧ b ≠ gB := fun b hb => ⟨fun e => hb.2.1 (by rw [e]; rfl), fun e => hb.2.2 (by rw [e]; rfl)⟩
    exact (VCells.set_ (hy.keep (fun _ _ => rfl) (fun b hb => ⟨hb.1, fun e => hb.2.1 (by injection e), fun e => hb.2.2 (by injection e)⟩)) j hv).keep (fun b hb => hkeep b (hS b hb).1 (hS b hb).2) (fun b hb => hb)
  · unfold stKV
    exact ((((((hB0.setCell (by show M ≤ gA; omega) _).setCell (by show M ≤ gB; omega) _).setCell (by show M ≤ gB; omega) _).setCell (by show M ≤ gB; omega) _).setCell (by show M ≤ gB; omega) _).setCell (by show M ≤ gB; omega) _).setCell (by show M ≤ gB; omega) _

theorem SkInv.keep_ {M : Nat} {w wr w' : World} {L : List (ByteArray × GV)} {A B : Option Addr} {C D : Nat} (h : SkInv M w wr L A C B D) (hB : Below wr.heap.size wr w') : SkInv M w w' L A C B D := by
  obtain ⟨zs, hb, hK, hL, hv, hB0, hsz⟩ := h
  have hs := hB.size
  exact ⟨zs, blk_below hb hB, own_below hK hB, own_below hL hB, hv.keep (fun b hb => hB.block b hb.1.2) (fun b hb => ⟨⟨hb.1.1, by have := hb.1.2; omega⟩, hb.2⟩), hB0.trans (hB.mono (by omega)), by omega⟩
theorem SkInv.size {M : Nat} {w wr : World} {L : List (ByteArray × GV)} {A B : Option Addr} {C D : Nat} (h : SkInv M w wr L A C B D) : M + 3 ≤ wr.heap.size := by obtain ⟨_, _, _, _, _, _, h⟩ := h; exact h
theorem SkInv.drew_ {M : Nat} {w wr : World} {L : List (ByteArray × GV)} {A B : Option Addr} {C D : Nat} (h : SkInv M w wr L A C B D) : SkInv M w wr.drew L A C B D := h.keep_ ⟨rfl, rfl, rfl, Nat.le_refl _, fun _ _ => rfl⟩
theorem cell_far {w : World} {a p : Addr} {u v : Value} (h : w.cell? a = some v) (hne : a.block ≠ p.block) : (w.setCell p u).cell? a = some v := (World.cell?_of_block (Below.heap_setCell _ _ _ _ hne)).trans h
/-- The cells of the field at q, and that they may be written. -/
theorem SkInv.at_ {M : Nat} {w wr : World} {L : List (ByteArray × GV)} {gA gB C D : Nat} (h : SkInv M w wr L (some ⟨gA, 0, none⟩) C (some ⟨gB, 0, none⟩) D) {q : Nat} {y : ByteArray × GV} (hq : L[q]? = some y) :
    wr.cell? ⟨gA, q, none⟩ = some (.string y.1) ∧ ∃ a0 c0 a1 c1, wr.cell? ⟨gB, q * 6, none⟩ = some (.int .i64 y.2.kind) ∧ wr.cell? ⟨gB, q * 6 + 1, none⟩ = some (.int .i64 y.2.n) ∧ wr.cell? ⟨gB, q * 6 + 2, none⟩ = some (.float .f64 y.2.f) ∧
      wr.cell? ⟨gB, q * 6 + 3, none⟩ = some (.string y.2.s) ∧ wr.cell? ⟨gB, q * 6 + 4, none⟩ = some (.slice a0 y.2.keys.length c0) ∧ wr.cell? ⟨gB, q * 6 + 5, none⟩ = some (.slice a1 y.2.l.length c1) ∧
      IsV wr (fun b => Btw (M + 3) wr.heap.size b ∧ gA ≠ b ∧ gB ≠ b) y.2 (.agg #[.int .i64 y.2.kind, .int .i64 y.2.n, .float .f64 y.2.f, .string y.2.s, .slice a0 y.2.keys.length c0, .slice a1 y.2.l.length c1]) := by
  obtain ⟨zs, hb, hK, hL, hv, hB0, hsz⟩ := h
  refine ⟨own_cellN hK (by rw [List.getElem?_map, hq]; rfl), ?_⟩
  have hr : IsVs wr (fun b => Btw (M + 3) wr.heap.size b ∧ gA ≠ b ∧ gB ≠ b) (L.map fun p => p.2) gB 0 := (hv.keep (S' := fun b => Btw (M + 3) wr.heap.size b ∧ gA ≠ b ∧ gB ≠ b) (fun _ _ => rfl) (fun b hb => ⟨hb.1, fun e => hb.2.1 (by rw [e]; rfl), fun e => hb.2.2 (by rw [e]; rfl)⟩)).row (fun j u hu => by rw [Nat.zero_add]; exact own_cellN hL hu)
  obtain ⟨a0, c0, a1, c1, g⟩ := hr.cells (i := q) (x := y.2) (by rw [List.getElem?_map, hq]; rfl)
  simp only [Nat.zero_add] at g
  exact ⟨a0, c0, a1, c1, g⟩
theorem SkInv.free {M : Nat} {w wr : World} {L : List (ByteArray × GV)} {gA gB C D : Nat} (h : SkInv M w wr L (some ⟨gA, 0, none⟩) C (some ⟨gB, 0, none⟩) D) (i : Nat) : wr.frozen? ⟨gA, i, none⟩ = false ∧ wr.frozen? ⟨gB, i, none⟩ = false := by
  obtain ⟨zs, hb, hK, hL, hv, hB0, hsz⟩ := h
  exact ⟨own_free hK i, own_free hL i⟩

theorem cmpS_gt (a b : ByteArray) : (0 : Int) < cmpS a b ↔ blt b a = true := by
  unfold cmpS
  cases h1 : blt a b with
  | true =>
    have := blt_asymm h1
    simp [this]
  | false =>
    cases h2 : blt b a <;> simp
theorem insAt_shift {α : Type} (P : List α) {q : Nat} (y h : α) (hq : q < P.length) (hy : P[q]? = some y) : (insAt P (q + 1) h).set (q + 1) y = insAt P q y := by
  have hd : P.drop q = y :: P.drop (q + 1) := by
    rw [List.drop_eq_getElem_cons hq]
    rw [List.getElem?_eq_getElem hq] at hy
    cases hy
    rfl
  have ht : P.take (q + 1) = P.take q ++ [y] := by
    rw [List.take_add_one, hy]; rfl
  unfold insAt
  rw [hd, ht]
  have e1 : (P.take q).length = q := by simp; omega
  rw [List.append_assoc, List.set_append_right _ _ (by omega), e1]
  simp
theorem insAt_put {α : Type} (P : List α) {p : Nat} (x h : α) (hp : p ≤ P.length) : (insAt P p h).set p x = insAt P p x := by
  unfold insAt
  have e1 : (P.take p).length = p := by simp; omega
  rw [List.set_append_right _ _ (by omega), e1]
  simp
end Go.Proofs.Ytlghpcokbppkfaa
