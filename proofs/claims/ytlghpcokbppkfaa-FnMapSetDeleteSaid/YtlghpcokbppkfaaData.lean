/- The plain data of impl.Value and of the trees that the package works on, and what it means that memory holds them. -/
import Derived.Test.YtlghpcokbppkfaaProg
import Derived.WalkKit
import Derived.Lib.Hide
import Derived.Maps.Own
import Derived.WalkLawsBesides
import Derived.WalkSpells
import Derived.Laws.EntriesVeiled
namespace Go.Proofs.Ytlghpcokbppkfaa
open Go.RowKit

@[go_sem] theorem run_store_float (P : Program) (w : World) (a : Addr) (m : Mode) (k : FloatKind) (b : Nat) : (store a (.float k b) m).run P w = stored P w a (.float k b) m := run_store P w a _ m rfl

/-- An impl.Value as data. -/
inductive GV where
  | mk (kind n : Int) (f : Nat) (s : ByteArray) (keys : List ByteArray) (l : List GV)

namespace GV
def kind : GV → Int | .mk k _ _ _ _ _ => k
def n : GV → Int | .mk _ n _ _ _ _ => n
def f : GV → Nat | .mk _ _ f _ _ _ => f
def s : GV → ByteArray | .mk _ _ _ s _ _ => s
def keys : GV → List ByteArray | .mk _ _ _ _ k _ => k
def l : GV → List GV | .mk _ _ _ _ _ l => l
end GV

/-- A tree of the package. -/
inductive JV where
  | null
  | bool (b : Bool)
  | int (n : Int)
  | flt (bits : Nat)
  | str (s : ByteArray)
  | list (l : List JV)
  | map (m : List (ByteArray × JV))

/-- The slice value v holds the strings ks; its cells lie in a block of S. -/
def IsStrs (w : World) (S : Nat → Prop) (v : Value) (ks : List ByteArray) : Prop :=
  ∃ a c, v = .slice a ks.length c ∧ ks.length ≤ c ∧ ks.length * 16 ≤ 140737488351232 ∧ (∀ s ∈ ks, s.size ≤ maxLen) ∧
    (0 < ks.length → ∃ b o, S b ∧ a = some ⟨b, o, none⟩ ∧ ∀ i, i < ks.length → w.cell? ⟨b, o + i, none⟩ = some (.string (ks.getD i ByteArray.empty)))

mutual
/-- The struct value v holds the impl.Value x; all cells behind it lie in blocks of S. -/
def IsV (w : World) (S : Nat → Prop) : GV → Value → Prop
  | .mk k n f s ks l, v => ∃ vk a c, v = .agg #[.int .i64 k, .int .i64 n, .float .f64 f, .string s, vk, .slice a l.length c] ∧
      (Lit.int .i64 k).wf = true ∧ (Lit.int .i64 n).wf = true ∧ (Lit.float .f64 f).wf = true ∧ s.size ≤ maxLen ∧
      IsStrs w S vk ks ∧ l.length ≤ c ∧ l.length * 88 ≤ 140737488351232 ∧ (l = [] ∨ ∃ b o, S b ∧ a = some ⟨b, o, none⟩ ∧ IsVs w S l b o)
/-- From cell o of block b on lie the values of the list, six cells each. -/
def IsVs (w : World) (S : Nat → Prop) : List GV → Nat → Nat → Prop
  | [], _, _ => True
  | x :: r, b, o => (∃ c0 c1 c2 c3 c4 c5, w.cell? ⟨b, o, none⟩ = some c0 ∧ w.cell? ⟨b, o + 1, none⟩ = some c1 ∧ w.cell? ⟨b, o + 2, none⟩ = some c2 ∧
      w.cell? ⟨b, o + 3, none⟩ = some c3 ∧ w.cell? ⟨b, o + 4, none⟩ = some c4 ∧ w.cell? ⟨b, o + 5, none⟩ = some c5 ∧ IsV w S x (.agg #[c0, c1, c2, c3, c4, c5])) ∧
      IsVs w S r b (o + 6)
end

mutual
/-- The interface value v is the tree j. -/
def IsJ (w : World) (S : Nat → Prop) : JV → Value → Prop
  | .null, v => v = .nilIface
  | .bool b, v => v = .iface 4 (.bool b)
  | .int n, v => v = .iface 2 (.int .i64 n) ∧ (Lit.int .i64 n).wf = true
  | .flt f, v => v = .iface 22 (.float .f64 f) ∧ (Lit.float .f64 f).wf = true
  | .str s, v => v = .iface 9 (.string s) ∧ s.size ≤ maxLen
  | .list l, v => ∃ a c, v = .iface 106 (.slice a l.length c) ∧ l.length * 16 ≤ 140737488351232 ∧ (l = [] ∨ ∃ b o, S b ∧ a = some ⟨b, o, none⟩ ∧ IsJs w S l b o)
  | .map m, v => ∃ b es cl, v = .iface 164 (.map (some b)) ∧ S b ∧ w.heap[b]? = some (.map es cl) ∧ MapKept.Stamped es cl ∧ m.length < maxLen ∧ IsEs w S m es.toList
def IsJs (w : World) (S : Nat → Prop) : List JV → Nat → Nat → Prop
  | [], _, _ => True
  | x :: r, b, o => (∃ c, w.cell? ⟨b, o, none⟩ = some c ∧ IsJ w S x c) ∧ IsJs w S r b (o + 1)
def IsEs (w : World) (S : Nat → Prop) : List (ByteArray × JV) → List MapEntry → Prop
  | [], es => es = []
  | x :: r, es => ∃ e r', es = e :: r' ∧ e.key = .string x.1 ∧ x.1.size ≤ maxLen ∧ IsJ w S x.2 e.val ∧ IsEs w S r r'
end

/-! ### What is kept where the blocks of S are kept -/
section
variable {w w' : World} {S S' : Nat → Prop}

theorem IsStrs.keep (h : ∀ b, S b → w'.heap[b]? = w.heap[b]?) (hs : ∀ b, S b → S' b) {v : Value} {ks : List ByteArray} (hv : IsStrs w S v ks) : IsStrs w' S' v ks := by
  obtain ⟨a, c, e, hle, hl, hz, hc⟩ := hv
  refine ⟨a, c, e, hle, hl, hz, fun h0 => ?_⟩
  obtain ⟨b, o, hb, ha, hx⟩ := hc h0
  exact ⟨b, o, hs b hb, ha, fun i hi => (World.cell?_of_block (a := ⟨b, o + i, none⟩) (h b hb)).trans (hx i hi)⟩

mutual
theorem IsV.keep (h : ∀ b, S b → w'.heap[b]? = w.heap[b]?) (hs : ∀ b, S b → S' b) : ∀ (x : GV) {v : Value}, IsV w S x v → IsV w' S' x v
  | .mk k n f s ks l, v, hv => by
    unfold IsV at hv ⊢
    obtain ⟨vk, a, c, e, h1, h2, h3, h4, h5, h8, h6, h7⟩ := hv
    refine ⟨vk, a, c, e, h1, h2, h3, h4, h5.keep h hs, h8, h6, ?_⟩
    rcases h7 with h7 | ⟨b, o, hb, ha, hx⟩
    · exact .inl h7
    · exact .inr ⟨b, o, hs b hb, ha, IsVs.keep h hs l b o hb hx⟩
theorem IsVs.keep (h : ∀ b, S b → w'.heap[b]? = w.heap[b]?) (hs : ∀ b, S b → S' b) : ∀ (l : List GV) (b o : Nat), S b → IsVs w S l b o → IsVs w' S' l b o
  | [], _, _, _, _ => by unfold IsVs; trivial
  | x :: r, b, o, hb, hv => by
    unfold IsVs at hv ⊢
    obtain ⟨⟨c0, c1, c2, c3, c4, c5, g0, g1, g2, g3, g4, g5, hx⟩, hr⟩ := hv
    have hk : ∀ p : Addr, p.block = b → w'.cell? p = w.cell? p := fun p hp => World.cell?_of_block (by rw [hp]; exact h b hb)
    exact ⟨⟨c0, c1, c2, c3, c4, c5, (hk _ rfl).trans g0, (hk _ rfl).trans g1, (hk _ rfl).trans g2, (hk _ rfl).trans g3, (hk _ rfl).trans g4, (hk _ rfl).trans g5, IsV.keep h hs x hx⟩,
      IsVs.keep h hs r b (o + 6) hb hr⟩
end

mutual
theorem IsJ.keep (h : ∀ b, S b → w'.heap[b]? = w.heap[b]?) (hs : ∀ b, S b → S' b) : ∀ (j : JV) {v : Value}, IsJ w S j v → IsJ w' S' j v
  | .null, _, hv => by unfold IsJ at hv ⊢; exact hv
  | .bool _, _, hv => by unfold IsJ at hv ⊢; exact hv
  | .int _, _, hv => by unfold IsJ at hv ⊢; exact hv
  | .flt _, _, hv => by unfold IsJ at hv ⊢; exact hv
  | .str _, _, hv => by unfold IsJ at hv ⊢; exact hv
  | .list l, _, hv => by
    unfold IsJ at hv ⊢
    obtain ⟨a, c, e, hl, h7⟩ := hv
    refine ⟨a, c, e, hl, ?_⟩
    rcases h7 with h7 | ⟨b, o, hb, ha, hx⟩
    · exact .inl h7
    · exact .inr ⟨b, o, hs b hb, ha, IsJs.keep h hs l b o hb hx⟩
  | .map m, _, hv => by
    unfold IsJ at hv ⊢
    obtain ⟨b, es, cl, e, hb, hh, ht, hm, he⟩ := hv
    exact ⟨b, es, cl, e, hs b hb, (h b hb).trans hh, ht, hm, IsEs.keep h hs m es.toList he⟩
theorem IsJs.keep (h : ∀ b, S b → w'.heap[b]? = w.heap[b]?) (hs : ∀ b, S b → S' b) : ∀ (l : List JV) (b o : Nat), S b → IsJs w S l b o → IsJs w' S' l b o
  | [], _, _, _, _ => by unfold IsJs; trivial
  | x :: r, b, o, hb, hv => by
    unfold IsJs at hv ⊢
    obtain ⟨⟨c, g, hx⟩, hr⟩ := hv
    exact ⟨⟨c, (World.cell?_of_block (a := ⟨b, o, none⟩) (h b hb)).trans g, IsJ.keep h hs x hx⟩, IsJs.keep h hs r b (o + 1) hb hr⟩
theorem IsEs.keep (h : ∀ b, S b → w'.heap[b]? = w.heap[b]?) (hs : ∀ b, S b → S' b) : ∀ (m : List (ByteArray × JV)) (es : List MapEntry), IsEs w S m es → IsEs w' S' m es
  | [], _, hv => by unfold IsEs at hv ⊢; exact hv
  | x :: r, es, hv => by
    unfold IsEs at hv ⊢
    obtain ⟨e, r', e1, hk, hz, hx, hr⟩ := hv
    exact ⟨e, r', e1, hk, hz, IsJ.keep h hs x.2 hx, IsEs.keep h hs r r' hr⟩
end
end

/-- The blocks from lo on, below hi. -/
def Btw (lo hi : Nat) (b : Nat) : Prop := lo ≤ b ∧ b < hi

section
variable {w w' : World} {lo hi : Nat}
theorem Btw.kept (h : Below hi w w') : ∀ b, Btw lo hi b → w'.heap[b]? = w.heap[b]? := fun b hb => h.block b hb.2
theorem Btw.mono {lo' hi' : Nat} (h1 : lo' ≤ lo) (h2 : hi ≤ hi') : ∀ b, Btw lo hi b → Btw lo' hi' b := fun _ hb => ⟨Nat.le_trans h1 hb.1, Nat.lt_of_lt_of_le hb.2 h2⟩

/-! ### Blocks, and data up to the heap's end, over new blocks and over what leaves the old ones alone -/
theorem blk_lt {b : Nat} {o : Obj} (h : w.heap[b]? = some o) : b < w.heap.size := (Array.getElem?_eq_some_iff.1 h).1
theorem blk_alloc {b : Nat} {o : Obj} (h : w.heap[b]? = some o) (o' : Obj) : (w.alloc o').heap[b]? = some o := (Below.heap_alloc _ _ _ (blk_lt h)).trans h
theorem blk_below {b : Nat} {o : Obj} (h : w.heap[b]? = some o) (hb : Below w.heap.size w w') : w'.heap[b]? = some o := (hb.block b (blk_lt h)).trans h
theorem blk_cell {b : Nat} {cs : Array Value} {t : TypeId} (h : w.heap[b]? = some (.cells cs t (0, 0))) (i : Nat) : w.cell? ⟨b, i, none⟩ = cs[i]? := cell_of_row w b i _ _ _ h
theorem blk_c {b : Nat} {cs : Array Value} {t : TypeId} (h : w.heap[b]? = some (.cells cs t (0, 0))) (i : Nat) {u : Value} (hu : cs[i]? = some u) : w.cell? ⟨b, i, none⟩ = some u := (blk_cell h i).trans hu
theorem blk_frozen {b : Nat} {cs : Array Value} {t : TypeId} (h : w.heap[b]? = some (.cells cs t (0, 0))) (i : Nat) : w.frozen? ⟨b, i, none⟩ = false := by simp [World.frozen?, h]
theorem blk_set {b : Nat} {cs : Array Value} {t : TypeId} (h : w.heap[b]? = some (.cells cs t (0, 0))) (i : Nat) (u : Value) : (w.setCell ⟨b, i, none⟩ u).heap[b]? = some (.cells (cs.setIfInBounds i u) t (0, 0)) := by
  simp [World.setCell, Array.getElem?_modify, h]
theorem blk_far {b : Nat} {o : Obj} (h : w.heap[b]? = some o) {p : Addr} (hp : b ≠ p.block) (u : Value) : (w.setCell p u).heap[b]? = some o := (Below.heap_setCell w p u b hp).trans h
theorem blk_grown {b : Nat} {o : Obj} {row : Option Nat} (h : w.heap[b]? = some o) (hg : w.grownBy w' row) (hr : some b ≠ row) : w'.heap[b]? = some o := (hg.block b (blk_lt h) hr).trans h
theorem blk_under {b B : Nat} {o : Obj} (h : w.heap[b]? = some o) (hb : Below B w w') (hB : b < B) : w'.heap[b]? = some o := (hb.block b hB).trans h
theorem IsV.under {x : GV} {v : Value} (h : IsV w (Btw lo hi) x v) (hb : Below hi w w') : IsV w' (Btw lo hi) x v := IsV.keep (Btw.kept hb) (fun _ h => h) x h
theorem IsV.hi_ {x : GV} {v : Value} (h : IsV w (Btw lo hi) x v) {hi' : Nat} (hl : hi ≤ hi') : IsV w (Btw lo hi') x v := IsV.keep (fun _ _ => rfl) (Btw.mono (Nat.le_refl _) hl) x h
theorem IsJ.hi_ {x : JV} {v : Value} (h : IsJ w (Btw lo hi) x v) {hi' : Nat} (hl : hi ≤ hi') : IsJ w (Btw lo hi') x v := IsJ.keep (fun _ _ => rfl) (Btw.mono (Nat.le_refl _) hl) x h
theorem below_all (h : Below w.heap.size w w') {B : Nat} {w0 : World} (h0 : Below B w0 w) (hB : B ≤ w.heap.size) : Below B w0 w' := h0.trans (h.mono hB)

theorem IsV.alloc_ {x : GV} {v : Value} (h : IsV w (Btw lo w.heap.size) x v) (o : Obj) : IsV (w.alloc o) (Btw lo (w.alloc o).heap.size) x v :=
  IsV.keep (fun b hb => Below.heap_alloc _ _ _ hb.2) (Btw.mono (Nat.le_refl _) (by simp)) x h
theorem IsV.below_ {x : GV} {v : Value} (h : IsV w (Btw lo w.heap.size) x v) (hb : Below w.heap.size w w') : IsV w' (Btw lo w'.heap.size) x v :=
  IsV.keep (Btw.kept hb) (Btw.mono (Nat.le_refl _) hb.size) x h
theorem IsV.lo_ {x : GV} {v : Value} (h : IsV w (Btw lo hi) x v) {lo' : Nat} (hl : lo' ≤ lo) : IsV w (Btw lo' hi) x v := IsV.keep (fun _ _ => rfl) (Btw.mono hl (Nat.le_refl _)) x h
theorem IsV.drew_ {x : GV} {v : Value} (h : IsV w (Btw lo w.heap.size) x v) : IsV w.drew (Btw lo w.drew.heap.size) x v := IsV.keep (w := w) (w' := w.drew) (S := Btw lo w.heap.size) (S' := Btw lo w.heap.size) (fun _ _ => rfl) (fun _ h => h) x h
theorem IsJ.drew_ {x : JV} {v : Value} (h : IsJ w (Btw lo w.heap.size) x v) : IsJ w.drew (Btw lo w.drew.heap.size) x v := IsJ.keep (w := w) (w' := w.drew) (S := Btw lo w.heap.size) (S' := Btw lo w.heap.size) (fun _ _ => rfl) (fun _ h => h) x h
theorem IsJ.alloc_ {x : JV} {v : Value} (h : IsJ w (Btw lo w.heap.size) x v) (o : Obj) : IsJ (w.alloc o) (Btw lo (w.alloc o).heap.size) x v :=
  IsJ.keep (fun b hb => Below.heap_alloc _ _ _ hb.2) (Btw.mono (Nat.le_refl _) (by simp)) x h
theorem IsJ.below_ {x : JV} {v : Value} (h : IsJ w (Btw lo w.heap.size) x v) (hb : Below w.heap.size w w') : IsJ w' (Btw lo w'.heap.size) x v :=
  IsJ.keep (Btw.kept hb) (Btw.mono (Nat.le_refl _) hb.size) x h
theorem IsJ.lo_ {x : JV} {v : Value} (h : IsJ w (Btw lo hi) x v) {lo' : Nat} (hl : lo' ≤ lo) : IsJ w (Btw lo' hi) x v := IsJ.keep (fun _ _ => rfl) (Btw.mono hl (Nat.le_refl _)) x h
theorem IsStrs.alloc_ {ks : List ByteArray} {v : Value} (h : IsStrs w (Btw lo w.heap.size) v ks) (o : Obj) : IsStrs (w.alloc o) (Btw lo (w.alloc o).heap.size) v ks :=
  h.keep (fun b hb => Below.heap_alloc _ _ _ hb.2) (Btw.mono (Nat.le_refl _) (by simp))
theorem IsStrs.below_ {ks : List ByteArray} {v : Value} (h : IsStrs w (Btw lo w.heap.size) v ks) (hb : Below w.heap.size w w') : IsStrs w' (Btw lo w'.heap.size) v ks :=
  h.keep (Btw.kept hb) (Btw.mono (Nat.le_refl _) hb.size)

theorem IsVs.at_ {S : Nat → Prop} : ∀ {l : List GV} {b o : Nat}, IsVs w S l b o → ∀ {i : Nat} {x : GV}, l[i]? = some x →
    ∃ c0 c1 c2 c3 c4 c5, w.cell? ⟨b, o + i * 6, none⟩ = some c0 ∧ w.cell? ⟨b, o + i * 6 + 1, none⟩ = some c1 ∧ w.cell? ⟨b, o + i * 6 + 2, none⟩ = some c2 ∧
      w.cell? ⟨b, o + i * 6 + 3, none⟩ = some c3 ∧ w.cell? ⟨b, o + i * 6 + 4, none⟩ = some c4 ∧ w.cell? ⟨b, o + i * 6 + 5, none⟩ = some c5 ∧ IsV w S x (.agg #[c0, c1, c2, c3, c4, c5])
  | [], _, _, _, i, x, h => by simp at h
  | y :: r, b, o, hv, i, x, h => by
    unfold IsVs at hv
    cases i with
    | zero =>
      simp at h; subst h
      simpa using hv.1
    | succ i =>
      have h' : r[i]? = some x := by simpa using h
      have := IsVs.at_ hv.2 h'
      rw [show o + 6 + i * 6 = o + (i + 1) * 6 by omega] at this
      exact this

theorem new_block {o : Obj} {b : Nat} (h : b = w.heap.size) : (w.alloc o).heap[b]? = some o := by subst h; exact (MapKept.heap_alloc _ _).1
theorem below_grown {B : Nat} (h : Below B w w') (hB : w.heap.size ≤ B) (row : Option Nat) : w.grownBy w' row := ⟨h.os, h.tape, h.output, h.size, fun k hk _ => h.block k (by omega)⟩
theorem own_below {base : Nat} {e : TypeId} {size : Nat} {v : Value} {n : Nat} {xs : List Value} (h : w.ownsRow base e size v n xs) (hb : Below w.heap.size w w') : w'.ownsRow base e size v n xs :=
  h.kept (below_grown hb (Nat.le_refl _) none) (by cases hv : v.ownBlock <;> simp)

/-- A struct value's form. -/
theorem IsV.form {S : Nat → Prop} {x : GV} {v : Value} (h : IsV w S x v) : ∃ a0 c0 a1 c1, v = .agg #[.int .i64 x.kind, .int .i64 x.n, .float .f64 x.f, .string x.s, .slice a0 x.keys.length c0, .slice a1 x.l.length c1] := by
  obtain ⟨k, n, f, s, ks, l⟩ := x
  unfold IsV at h
  obtain ⟨vk, a, c, rfl, _, _, _, _, ⟨a0, c0, rfl, _⟩, _⟩ := h
  exact ⟨a0, c0, a, c, rfl⟩

/-- The cells of the value at index i, written out. -/
theorem IsVs.cells {S : Nat → Prop} {l : List GV} {b o : Nat} (h : IsVs w S l b o) {i : Nat} {x : GV} (hx : l[i]? = some x) :
    ∃ a0 c0 a1 c1, w.cell? ⟨b, o + i * 6, none⟩ = some (.int .i64 x.kind) ∧ w.cell? ⟨b, o + i * 6 + 1, none⟩ = some (.int .i64 x.n) ∧ w.cell? ⟨b, o + i * 6 + 2, none⟩ = some (.float .f64 x.f) ∧
      w.cell? ⟨b, o + i * 6 + 3, none⟩ = some (.string x.s) ∧ w.cell? ⟨b, o + i * 6 + 4, none⟩ = some (.slice a0 x.keys.length c0) ∧ w.cell? ⟨b, o + i * 6 + 5, none⟩ = some (.slice a1 x.l.length c1) ∧
      IsV w S x (.agg #[.int .i64 x.kind, .int .i64 x.n, .float .f64 x.f, .string x.s, .slice a0 x.keys.length c0, .slice a1 x.l.length c1]) := by
  obtain ⟨c0, c1, c2, c3, c4, c5, g0, g1, g2, g3, g4, g5, hv⟩ := h.at_ hx
  obtain ⟨a0, d0, a1, d1, e⟩ := hv.form
  injection e with e
  simp only [Array.mk.injEq, List.cons.injEq, and_true] at e
  obtain ⟨rfl, rfl, rfl, rfl, rfl, rfl⟩ := e
  exact ⟨a0, d0, a1, d1, g0, g1, g2, g3, g4, g5, hv⟩

/-- A tree's value is an interface value: one cell. -/
theorem IsJ.one {S : Nat → Prop} {j : JV} {v : Value} (h : IsJ w S j v) : v = .nilIface ∨ ∃ t u, v = .iface t u := by
  cases j <;> unfold IsJ at h
  · exact .inl h
  · exact .inr ⟨_, _, h⟩
  · exact .inr ⟨_, _, h.1⟩
  · exact .inr ⟨_, _, h.1⟩
  · exact .inr ⟨_, _, h.1⟩
  · obtain ⟨a, c, e, _⟩ := h; exact .inr ⟨_, _, e⟩
  · obtain ⟨b, es, cl, e, _⟩ := h; exact .inr ⟨_, _, e⟩
theorem IsJ.cells {S : Nat → Prop} {j : JV} {v : Value} (h : IsJ w S j v) : v.cells = #[v] := by
  rcases h.one with rfl | ⟨t, u, rfl⟩ <;> rfl
theorem IsJ.oneCell {S : Nat → Prop} {j : JV} {v : Value} (h : IsJ w S j v) : v.oneCell' = true := by
  rcases h.one with rfl | ⟨t, u, rfl⟩ <;> rfl

theorem IsJs.at_ {S : Nat → Prop} : ∀ {l : List JV} {b o : Nat}, IsJs w S l b o → ∀ {i : Nat} {x : JV}, l[i]? = some x → ∃ c, w.cell? ⟨b, o + i, none⟩ = some c ∧ IsJ w S x c
  | [], _, _, _, i, x, h => by simp at h
  | y :: r, b, o, hv, i, x, h => by
    unfold IsJs at hv
    cases i with
    | zero =>
      simp at h; subst h
      simpa using hv.1
    | succ i =>
      have h' : r[i]? = some x := by simpa using h
      have := IsJs.at_ hv.2 h'
      rw [show o + 1 + i = o + (i + 1) by omega] at this
      exact this

/-- Values of which each is the tree of its place. -/
def AllJ (w : World) (S : Nat → Prop) : List JV → List Value → Prop
  | [], vs => vs = []
  | x :: r, vs => ∃ v r', vs = v :: r' ∧ IsJ w S x v ∧ AllJ w S r r'

theorem AllJ.keep {S S' : Nat → Prop} (h : ∀ b, S b → w'.heap[b]? = w.heap[b]?) (hs : ∀ b, S b → S' b) : ∀ {l : List JV} {vs : List Value}, AllJ w S l vs → AllJ w' S' l vs
  | [], _, hv => by unfold AllJ at hv ⊢; exact hv
  | x :: r, _, hv => by
    unfold AllJ at hv ⊢
    obtain ⟨v, r', e, hx, hr⟩ := hv
    exact ⟨v, r', e, IsJ.keep h hs x hx, AllJ.keep h hs hr⟩

theorem AllJ.length {S : Nat → Prop} : ∀ {l : List JV} {vs : List Value}, AllJ w S l vs → vs.length = l.length
  | [], _, hv => by unfold AllJ at hv; subst hv; rfl
  | x :: r, _, hv => by
    unfold AllJ at hv
    obtain ⟨v, r', rfl, _, hr⟩ := hv
    simp [hr.length]

theorem AllJ.snoc {S : Nat → Prop} {x : JV} {v : Value} (hx : IsJ w S x v) : ∀ {l : List JV} {vs : List Value}, AllJ w S l vs → AllJ w S (l ++ [x]) (vs ++ [v])
  | [], _, hv => by
    unfold AllJ at hv; subst hv
    show AllJ w S [x] [v]
    unfold AllJ
    exact ⟨v, [], rfl, hx, by unfold AllJ; rfl⟩
  | y :: r, _, hv => by
    unfold AllJ at hv
    obtain ⟨u, r', rfl, hy, hr⟩ := hv
    show AllJ w S (y :: (r ++ [x])) (u :: (r' ++ [v]))
    unfold AllJ
    exact ⟨u, _, rfl, hy, AllJ.snoc hx hr⟩

theorem AllJ.row {S : Nat → Prop} {b : Nat} : ∀ {l : List JV} {vs : List Value} {o : Nat}, AllJ w S l vs → (∀ j u, vs[j]? = some u → w.cell? ⟨b, o + j, none⟩ = some u) → IsJs w S l b o
  | [], _, _, _, _ => by unfold IsJs; trivial
  | x :: r, _, o, hv, hc => by
    unfold AllJ at hv
    obtain ⟨v, r', rfl, hx, hr⟩ := hv
    unfold IsJs
    exact ⟨⟨v, by simpa using hc 0 v rfl, hx⟩, hr.row (fun j u hj => by
      have := hc (j + 1) u (by simpa using hj)
      rwa [show o + 1 + j = o + (j + 1) by omega])⟩
end

end Go.Proofs.Ytlghpcokbppkfaa
