/- Part 3 of what the proof rests on. -/
import Derived.Test.YtbbacpdbbmjblaaProg
import Derived.WalkKit
import Derived.Lib.Hide
import Derived.Maps.Own
import Derived.WalkLawsBesides
import Derived.WalkSpells
import Derived.Laws.EntriesVeiled
import Derived.Laws.FloatArith
import Derived.Maps.AppendAt
import Derived.Deep.AppendLies
import Derived.Deep.Draws
import Derived.RegionTactic
import Derived.Maps.RangeRun
import Derived.Maps.RangeWalk
import Derived.OrdersHeld
import Derived.Deep.RegionHeld3
import Derived.Deep.QuietTactic
import Derived.BigQuiet
import Derived.Test.YtbbacpdbbmjblaaFiE1
import Derived.Test.YtbbacpdbbmjblaaFiE2
section
namespace Go.Proofs.Ytbbacpdbbmjblaa
open Go.RowKit
@[go_sem] theorem run_store_float (P : Program) (w : World) (a : Addr) (m : Mode) (k : FloatKind) (b : Nat) : (store a (.float k b) m).run P w = stored P w a (.float k b) m := run_store P w a _ m rfl
/-- An impl.Value as data. -/
inductive GV where
  | mk (kind n : Int) (f : Nat) (s : ByteArray) (keys : List ByteArray) (l : List GV)
namespace GV
def kind : GV → Int | .mk k _ _ _ _ _ => k
def n : GV → Int | .mk _ n _ _ _ _ => n
def f : GV → Nat | .mk _ _ f _ _ _ => f
def s : GV → ByteArray | .mk _ _ _ s _ _ => s
def keys : GV → List ByteArray | .mk _ _ _ _ k _ => k
def l : GV → List GV | .mk _ _ _ _ _ l => l
end GV
/-- A tree of the package. -/
inductive JV where
  | null
  | bool (b : Bool)
  | int (n : Int)
  | flt (bits : Nat)
  | str (s : ByteArray)
  | list (l : List JV)
  | map (m : List (ByteArray × JV))
/-- The slice value v holds the strings ks; its cells lie in a block of S. -/
def IsStrs (w : World) (S : Nat → Prop) (v : Value) (ks : List ByteArray) : Prop :=
  ∃ a c, v = .slice a ks.length c ∧ ks.length ≤ c ∧ ks.length * 16 ≤ 140737488351232 ∧ (∀ s ∈ ks, s.size ≤ maxLen) ∧
    (0 < ks.length → ∃ b o, S b ∧ a = some ⟨b, o, none⟩ ∧ ∀ i, i < ks.length → w.cell? ⟨b, o + i, none⟩ = some (.string (ks.getD i ByteArray.empty)))
mutual
/-- The struct value v holds the impl.Value x; all cells behind it lie in blocks of S. -/
def IsV (w : World) (S : Nat → Prop) : GV → Value → Prop
  | .mk k n f s ks l, v => ∃ vk a c, v = .agg #[.int .i64 k, .int .i64 n, .float .f64 f, .string s, vk, .slice a l.length c] ∧
      (Lit.int .i64 k).wf = true ∧ (Lit.int .i64 n).wf = true ∧ (Lit.float .f64 f).wf = true ∧ s.size ≤ maxLen ∧
      IsStrs w S vk ks ∧ l.length ≤ c ∧ l.length * 88 ≤ 140737488351232 ∧ (l = [] ∨ ∃ b o, S b ∧ a = some ⟨b, o, none⟩ ∧ IsVs w S l b o)
/-- From cell o of block b on lie the values of the list, six cells each. -/
def IsVs (w : World) (S : Nat → Prop) : List GV → Nat → Nat → Prop
  | [], _, _ => True
  | x :: r, b, o => (∃ c0 c1 c2 c3 c4 c5, w.cell? ⟨b, o, none⟩ = some c0 ∧ w.cell? ⟨b, o + 1, none⟩ = some c1 ∧ w.cell? ⟨b, o + 2, none⟩ = some c2 ∧
      w.cell? ⟨b, o + 3, none⟩ = some c3 ∧ w.cell? ⟨b, o + 4, none⟩ = some c4 ∧ w.cell? ⟨b, o + 5, none⟩ = some c5 ∧ IsV w S x (.agg #[c0, c1, c2, c3, c4, c5])) ∧
      IsVs w S r b (o + 6)
end
mutual
/-- The interface value v is the tree j. -/
def IsJ (w : World) (S : Nat → Prop) : JV → Value → Prop
  | .null, v => v = .nilIface
  | .bool b, v => v = .iface 4 (.bool b)
  | .int n, v => v = .iface 2 (.int .i64 n) ∧ (Lit.int .i64 n).wf = true
  | .flt f, v => v = .iface 40 (.float .f64 f) ∧ (Lit.float .f64 f).wf = true
  | .str s, v => v = .iface 9 (.string s) ∧ s.size ≤ maxLen
  | .list l, v => ∃ a c, v = .iface 141 (.slice a l.length c) ∧ l.length * 16 ≤ 140737488351232 ∧ (l = [] ∨ ∃ b o, S b ∧ a = some ⟨b, o, none⟩ ∧ IsJs w S l b o)
  | .map m, v => ∃ b es cl, v = .iface 106 (.map (some b)) ∧ S b ∧ w.heap[b]? = some (.map es cl) ∧ MapKept.Stamped es cl ∧ m.length < maxLen ∧ IsEs w S m es.toList
def IsJs (w : World) (S : Nat → Prop) : List JV → Nat → Nat → Prop
  | [], _, _ => True
  | x :: r, b, o => (∃ c, w.cell? ⟨b, o, none⟩ = some c ∧ IsJ w S x c) ∧ IsJs w S r b (o + 1)
def IsEs (w : World) (S : Nat → Prop) : List (ByteArray × JV) → List MapEntry → Prop
  | [], es => es = []
  | x :: r, es => ∃ e r', es = e :: r' ∧ e.key = .string x.1 ∧ x.1.size ≤ maxLen ∧ IsJ w S x.2 e.val ∧ IsEs w S r r'
end
section
variable {w w' : World} {S S' : Nat → Prop}
theorem IsStrs.keep (h : ∀ b, S b → w'.heap[b]? = w.heap[b]?) (hs : ∀ b, S b → S' b) {v : Value} {ks : List ByteArray} (hv : IsStrs w S v ks) : IsStrs w' S' v ks := by
  obtain ⟨a, c, e, hle, hl, hz, hc⟩ := hv
  refine ⟨a, c, e, hle, hl, hz, fun h0 => ?_⟩
  obtain ⟨b, o, hb, ha, hx⟩ := hc h0
  exact ⟨b, o, hs b hb, ha, fun i hi => (World.cell?_of_block (a := ⟨b, o + i, none⟩) (h b hb)).trans (hx i hi)⟩
mutual
theorem IsV.keep (h : ∀ b, S b → w'.heap[b]? = w.heap[b]?) (hs : ∀ b, S b → S' b) : ∀ (x : GV) {v : Value}, IsV w S x v → IsV w' S' x v
  | .mk k n f s ks l, v, hv => by
    unfold IsV at hv ⊢
    obtain ⟨vk, a, c, e, h1, h2, h3, h4, h5, h8, h6, h7⟩ := hv
    refine ⟨vk, a, c, e, h1, h2, h3, h4, h5.keep h hs, h8, h6, ?_⟩
    rcases h7 with h7 | ⟨b, o, hb, ha, hx⟩
    · exact .inl h7
    · exact .inr ⟨b, o, hs b hb, ha, IsVs.keep h hs l b o hb hx⟩
theorem IsVs.keep (h : ∀ b, S b → w'.heap[b]? = w.heap[b]?) (hs : ∀ b, S b → S' b) : ∀ (l : List GV) (b o : Nat), S b → IsVs w S l b o → IsVs w' S' l b o
  | [], _, _, _, _ => by unfold IsVs; trivial
  | x :: r, b, o, hb, hv => by
    unfold IsVs at hv ⊢
    obtain ⟨⟨c0, c1, c2, c3, c4, c5, g0, g1, g2, g3, g4, g5, hx⟩, hr⟩ := hv
    have hk : ∀ p : Addr, p.block = b → w'.cell? p = w.cell? p := fun p hp => World.cell?_of_block (by rw [hp]; exact h b hb)
    exact ⟨⟨c0, c1, c2, c3, c4, c5, (hk _ rfl).trans g0, (hk _ rfl).trans g1, (hk _ rfl).trans g2, (hk _ rfl).trans g3, (hk _ rfl).trans g4, (hk _ rfl).trans g5, IsV.keep h hs x hx⟩,
      IsVs.keep h hs r b (o + 6) hb hr⟩
end
mutual
theorem IsJ.keep (h : ∀ b, S b → w'.heap[b]? = w.heap[b]?) (hs : ∀ b, S b → S' b) : ∀ (j : JV) {v : Value}, IsJ w S j v → IsJ w' S' j v
  | .null, _, hv => by unfold IsJ at hv ⊢; exact hv
  | .bool _, _, hv => by unfold IsJ at hv ⊢; exact hv
  | .int _, _, hv => by unfold IsJ at hv ⊢; exact hv
  | .flt _, _, hv => by unfold IsJ at hv ⊢; exact hv
  | .str _, _, hv => by unfold IsJ at hv ⊢; exact hv
  | .list l, _, hv => by
    unfold IsJ at hv ⊢
    obtain ⟨a, c, e, hl, h7⟩ := hv
    refine ⟨a, c, e, hl, ?_⟩
    rcases h7 with h7 | ⟨b, o, hb, ha, hx⟩
    · exact .inl h7
    · exact .inr ⟨b, o, hs b hb, ha, IsJs.keep h hs l b o hb hx⟩
  | .map m, _, hv => by
    unfold IsJ at hv ⊢
    obtain ⟨b, es, cl, e, hb, hh, ht, hm, he⟩ := hv
    exact ⟨b, es, cl, e, hs b hb, (h b hb).trans hh, ht, hm, IsEs.keep h hs m es.toList he⟩
theorem IsJs.keep (h : ∀ b, S b → w'.heap[b]? = w.heap[b]?) (hs : ∀ b, S b → S' b) : ∀ (l : List JV) (b o : Nat), S b → IsJs w S l b o → IsJs w' S' l b o
  | [], _, _, _, _ => by unfold IsJs; trivial
  | x :: r, b, o, hb, hv => by
    unfold IsJs at hv ⊢
    obtain ⟨⟨c, g, hx⟩, hr⟩ := hv
    exact ⟨⟨c, (World.cell?_of_block (a := ⟨b, o, none⟩) (h b hb)).trans g, IsJ.keep h hs x hx⟩, IsJs.keep h hs r b (o + 1) hb hr⟩
theorem IsEs.keep (h : ∀ b, S b → w'.heap[b]? = w.heap[b]?) (hs : ∀ b, S b → S' b) : ∀ (m : List (ByteArray × JV)) (es : List MapEntry), IsEs w S m es → IsEs w' S' m es
  | [], _, hv => by unfold IsEs at hv ⊢; exact hv
  | x :: r, es, hv => by
    unfold IsEs at hv ⊢
    obtain ⟨e, r', e1, hk, hz, hx, hr⟩ := hv
    exact ⟨e, r', e1, hk, hz, IsJ.keep h hs x.2 hx, IsEs.keep h hs r r' hr⟩
end
end
/-- The blocks from lo on, below hi. -/
def Btw (lo hi : Nat) (b : Nat) : Prop := lo ≤ b ∧ b < hi
section
variable {w w' : World} {lo hi : Nat}
theorem Btw.kept (h : Below hi w w') : ∀ b, Btw lo hi b → w'.heap[b]? = w.heap[b]? := fun b hb => h.block b hb.2
theorem Btw.mono {lo' hi' : Nat} (h1 : lo' ≤ lo) (h2 : hi ≤ hi') : ∀ b, Btw lo hi b → Btw lo' hi' b := fun _ hb => ⟨Nat.le_trans h1 hb.1, Nat.lt_of_lt_of_le hb.2 h2⟩
theorem blk_lt {b : Nat} {o : Obj} (h : w.heap[b]? = some o) : b < w.heap.size := (Array.getElem?_eq_some_iff.1 h).1
theorem blk_alloc {b : Nat} {o : Obj} (h : w.heap[b]? = some o) (o' : Obj) : (w.alloc o').heap[b]? = some o := (Below.heap_alloc _ _ _ (blk_lt h)).trans h
theorem blk_below {b : Nat} {o : Obj} (h : w.heap[b]? = some o) (hb : Below w.heap.size w w') : w'.heap[b]? = some o := (hb.block b (blk_lt h)).trans h
theorem blk_cell {b : Nat} {cs : Array Value} {t : TypeId} (h : w.heap[b]? = some (.cells cs t (0, 0))) (i : Nat) : w.cell? ⟨b, i, none⟩ = cs[i]? := cell_of_row w b i _ _ _ h
theorem blk_c {b : Nat} {cs : Array Value} {t : TypeId} (h : w.heap[b]? = some (.cells cs t (0, 0))) (i : Nat) {u : Value} (hu : cs[i]? = some u) : w.cell? ⟨b, i, none⟩ = some u := (blk_cell h i).trans hu
theorem blk_frozen {b : Nat} {cs : Array Value} {t : TypeId} (h : w.heap[b]? = some (.cells cs t (0, 0))) (i : Nat) : w.frozen? ⟨b, i, none⟩ = false := by simp [World.frozen?, h]
theorem blk_set {b : Nat} {cs : Array Value} {t : TypeId} (h : w.heap[b]? = some (.cells cs t (0, 0))) (i : Nat) (u : Value) : (w.setCell ⟨b, i, none⟩ u).heap[b]? = some (.cells (cs.setIfInBounds i u) t (0, 0)) := by
  simp [World.setCell, Array.getElem?_modify, h]
theorem blk_grown {b : Nat} {o : Obj} {row : Option Nat} (h : w.heap[b]? = some o) (hg : w.grownBy w' row) (hr : some b ≠ row) : w'.heap[b]? = some o := (hg.block b (blk_lt h) hr).trans h
theorem blk_under {b B : Nat} {o : Obj} (h : w.heap[b]? = some o) (hb : Below B w w') (hB : b < B) : w'.heap[b]? = some o := (hb.block b hB).trans h
theorem IsV.under {x : GV} {v : Value} (h : IsV w (Btw lo hi) x v) (hb : Below hi w w') : IsV w' (Btw lo hi) x v := IsV.keep (Btw.kept hb) (fun _ h => h) x h
theorem below_all (h : Below w.heap.size w w') {B : Nat} {w0 : World} (h0 : Below B w0 w) (hB : B ≤ w.heap.size) : Below B w0 w' := h0.trans (h.mono hB)
theorem IsV.alloc_ {x : GV} {v : Value} (h : IsV w (Btw lo w.heap.size) x v) (o : Obj) : IsV (w.alloc o) (Btw lo (w.alloc o).heap.size) x v :=
  IsV.keep (fun b hb => Below.heap_alloc _ _ _ hb.2) (Btw.mono (Nat.le_refl _) (by simp)) x h
theorem IsV.below_ {x : GV} {v : Value} (h : IsV w (Btw lo w.heap.size) x v) (hb : Below w.heap.size w w') : IsV w' (Btw lo w'.heap.size) x v :=
  IsV.keep (Btw.kept hb) (Btw.mono (Nat.le_refl _) hb.size) x h
theorem IsV.lo_ {x : GV} {v : Value} (h : IsV w (Btw lo hi) x v) {lo' : Nat} (hl : lo' ≤ lo) : IsV w (Btw lo' hi) x v := IsV.keep (fun _ _ => rfl) (Btw.mono hl (Nat.le_refl _)) x h
theorem IsV.drew_ {x : GV} {v : Value} (h : IsV w (Btw lo w.heap.size) x v) : IsV w.drew (Btw lo w.drew.heap.size) x v := IsV.keep (w := w) (w' := w.drew) (S := Btw lo w.heap.size) (S' := Btw lo w.heap.size) (fun _ _ => rfl) (fun _ h => h) x h
theorem IsVs.at_ {S : Nat → Prop} : ∀ {l : List GV} {b o : Nat}, IsVs w S l b o → ∀ {i : Nat} {x : GV}, l[i]? = some x →
    ∃ c0 c1 c2 c3 c4 c5, w.cell? ⟨b, o + i * 6, none⟩ = some c0 ∧ w.cell? ⟨b, o + i * 6 + 1, none⟩ = some c1 ∧ w.cell? ⟨b, o + i * 6 + 2, none⟩ = some c2 ∧
      w.cell? ⟨b, o + i * 6 + 3, none⟩ = some c3 ∧ w.cell? ⟨b, o + i * 6 + 4, none⟩ = some c4 ∧ w.cell? ⟨b, o + i * 6 + 5, none⟩ = some c5 ∧ IsV w S x (.agg #[c0, c1, c2, c3, c4, c5])
  | [], _, _, _, i, x, h => by simp at h
  | y :: r, b, o, hv, i, x, h => by
    unfold IsVs at hv
    cases i with
    | zero =>
      simp at h; subst h
      simpa using hv.1
    | succ i =>
      have h' : r[i]? = some x := by simpa using h
      have := IsVs.at_ hv.2 h'
      rw [show o + 6 + i * 6 = o + (i + 1) * 6 by omega] at this
      exact this
theorem new_block {o : Obj} {b : Nat} (h : b = w.heap.size) : (w.alloc o).heap[b]? = some o := by subst h; exact (MapKept.heap_alloc _ _).1
theorem below_grown {B : Nat} (h : Below B w w') (hB : w.heap.size ≤ B) (row : Option Nat) : w.grownBy w' row := ⟨h.os, h.tape, h.output, h.size, fun k hk _ => h.block k (by omega)⟩
theorem own_below {base : Nat} {e : TypeId} {size : Nat} {v : Value} {n : Nat} {xs : List Value} (h : w.ownsRow base e size v n xs) (hb : Below w.heap.size w w') : w'.ownsRow base e size v n xs :=
  h.kept (below_grown hb (Nat.le_refl _) none) (by cases hv : v.ownBlock <;> simp)
/-- A struct value's form. -/
theorem IsV.form {S : Nat → Prop} {x : GV} {v : Value} (h : IsV w S x v) : ∃ a0 c0 a1 c1, v = .agg #[.int .i64 x.kind, .int .i64 x.n, .float .f64 x.f, .string x.s, .slice a0 x.keys.length c0, .slice a1 x.l.length c1] := by
  obtain ⟨k, n, f, s, ks, l⟩ := x
  unfold IsV at h
  obtain ⟨vk, a, c, rfl, _, _, _, _, ⟨a0, c0, rfl, _⟩, _⟩ := h
  exact ⟨a0, c0, a, c, rfl⟩
/-- The cells of the value at index i, written out. -/
theorem IsVs.cells {S : Nat → Prop} {l : List GV} {b o : Nat} (h : IsVs w S l b o) {i : Nat} {x : GV} (hx : l[i]? = some x) :
    ∃ a0 c0 a1 c1, w.cell? ⟨b, o + i * 6, none⟩ = some (.int .i64 x.kind) ∧ w.cell? ⟨b, o + i * 6 + 1, none⟩ = some (.int .i64 x.n) ∧ w.cell? ⟨b, o + i * 6 + 2, none⟩ = some (.float .f64 x.f) ∧
      w.cell? ⟨b, o + i * 6 + 3, none⟩ = some (.string x.s) ∧ w.cell? ⟨b, o + i * 6 + 4, none⟩ = some (.slice a0 x.keys.length c0) ∧ w.cell? ⟨b, o + i * 6 + 5, none⟩ = some (.slice a1 x.l.length c1) ∧
      IsV w S x (.agg #[.int .i64 x.kind, .int .i64 x.n, .float .f64 x.f, .string x.s, .slice a0 x.keys.length c0, .slice a1 x.l.length c1]) := by
  obtain ⟨c0, c1, c2, c3, c4, c5, g0, g1, g2, g3, g4, g5, hv⟩ := h.at_ hx
  obtain ⟨a0, d0, a1, d1, e⟩ := hv.form
  injection e with e
  simp only [Array.mk.injEq, List.cons.injEq, and_true] at e
  obtain ⟨rfl, rfl, rfl, rfl, rfl, rfl⟩ := e
  exact ⟨a0, d0, a1, d1, g0, g1, g2, g3, g4, g5, hv⟩
/-- A tree's value is an interface value: one cell. -/
theorem IsJ.one {S : Nat → Prop} {j : JV} {v : Value} (h : IsJ w S j v) : v = .nilIface ∨ ∃ t u, v = .iface t u := by
  cases j <;> unfold IsJ at h
  · exact .inl h
  · exact .inr ⟨_, _, h⟩
  · exact .inr ⟨_, _, h.1⟩
  · exact .inr ⟨_, _, h.1⟩
  · exact .inr ⟨_, _, h.1⟩
  · obtain ⟨a, c, e, _⟩ := h; exact .inr ⟨_, _, e⟩
  · obtain ⟨b, es, cl, e, _⟩ := h; exact .inr ⟨_, _, e⟩
theorem IsJ.cells {S : Nat → Prop} {j : JV} {v : Value} (h : IsJ w S j v) : v.cells = #[v] := by
  rcases h.one with rfl | ⟨t, u, rfl⟩ <;> rfl
theorem IsJ.oneCell {S : Nat → Prop} {j : JV} {v : Value} (h : IsJ w S j v) : v.oneCell' = true := by
  rcases h.one with rfl | ⟨t, u, rfl⟩ <;> rfl
theorem IsJs.at_ {S : Nat → Prop} : ∀ {l : List JV} {b o : Nat}, IsJs w S l b o → ∀ {i : Nat} {x : JV}, l[i]? = some x → ∃ c, w.cell? ⟨b, o + i, none⟩ = some c ∧ IsJ w S x c
  | [], _, _, _, i, x, h => by simp at h
  | y :: r, b, o, hv, i, x, h => by
    unfold IsJs at hv
    cases i with
    | zero =>
      simp at h; subst h
      simpa using hv.1
    | succ i =>
      have h' : r[i]? = some x := by simpa using h
      have := IsJs.at_ hv.2 h'
      rw [show o + 1 + i = o + (i + 1) by omega] at this
      exact this
/-- Values of which each is the tree of its place. -/
def AllJ (w : World) (S : Nat → Prop) : List JV → List Value → Prop
  | [], vs => vs = []
  | x :: r, vs => ∃ v r', vs = v :: r' ∧ IsJ w S x v ∧ AllJ w S r r'
theorem AllJ.keep {S S' : Nat → Prop} (h : ∀ b, S b → w'.heap[b]? = w.heap[b]?) (hs : ∀ b, S b → S' b) : ∀ {l : List JV} {vs : List Value}, AllJ w S l vs → AllJ w' S' l vs
  | [], _, hv => by unfold AllJ at hv ⊢; exact hv
  | x :: r, _, hv => by
    unfold AllJ at hv ⊢
    obtain ⟨v, r', e, hx, hr⟩ := hv
    exact ⟨v, r', e, IsJ.keep h hs x hx, AllJ.keep h hs hr⟩
theorem AllJ.snoc {S : Nat → Prop} {x : JV} {v : Value} (hx : IsJ w S x v) : ∀ {l : List JV} {vs : List Value}, AllJ w S l vs → AllJ w S (l ++ [x]) (vs ++ [v])
  | [], _, hv => by
    unfold AllJ at hv; subst hv
    show AllJ w S [x] [v]
    unfold AllJ
    exact ⟨v, [], rfl, hx, by unfold AllJ; rfl⟩
  | y :: r, _, hv => by
    unfold AllJ at hv
    obtain ⟨u, r', rfl, hy, hr⟩ := hv
    show AllJ w S (y :: (r ++ [x])) (u :: (r' ++ [v]))
    unfold AllJ
    exact ⟨u, _, rfl, hy, AllJ.snoc hx hr⟩
theorem AllJ.row {S : Nat → Prop} {b : Nat} : ∀ {l : List JV} {vs : List Value} {o : Nat}, AllJ w S l vs → (∀ j u, vs[j]? = some u → w.cell? ⟨b, o + j, none⟩ = some u) → IsJs w S l b o
  | [], _, _, _, _ => by unfold IsJs; trivial
  | x :: r, _, o, hv, hc => by
    unfold AllJ at hv
    obtain ⟨v, r', rfl, hx, hr⟩ := hv
    unfold IsJs
    exact ⟨⟨v, by simpa using hc 0 v rfl, hx⟩, hr.row (fun j u hj => by
      have := hc (j + 1) u (by simpa using hj)
      rwa [show o + 1 + j = o + (j + 1) by omega])⟩
end
end Go.Proofs.Ytbbacpdbbmjblaa
end
section
namespace Go.Proofs.Ytbbacpdbbmjblaa
open Go.RowKit
/-- The list of fields in which the field k has the value x: in the place of the old one, or at the end. -/
def putA {α : Type} (m : List (ByteArray × α)) (k : ByteArray) (x : α) : List (ByteArray × α) :=
  match m with
  | [] => [(k, x)]
  | e :: r => if e.1 = k then (k, x) :: r else e :: putA r k x
theorem putA_length {α : Type} (m : List (ByteArray × α)) (k : ByteArray) (x : α) : (putA m k x).length ≤ m.length + 1 := by
  induction m with
  | nil => simp [putA]
  | cons e r ih => unfold putA; split <;> simp <;> omega
/-- The key is this string. -/
def keyIs (v : Value) (k : ByteArray) : Bool := match v with | .string s => decide (s = k) | _ => false
theorem keyIs_iff {v : Value} {k : ByteArray} : keyIs v k = true ↔ v = .string k := by
  cases v <;> simp [keyIs]
/-- What a store makes of the entries. -/
def putE (es : List MapEntry) (k : ByteArray) (v : Value) (cl : Nat) : List MapEntry :=
  match es with
  | [] => [{ key := .string k, val := v, born := cl }]
  | e :: r => if keyIs e.key k = true then { e with key := .string k, val := v } :: r else e :: putE r k v cl
theorem IsEs.keys {w : World} {S : Nat → Prop} : ∀ {m : List (ByteArray × JV)} {es : List MapEntry}, IsEs w S m es → ∀ x ∈ es, MapKept.IsKey .string x.key
  | [], es, h => by unfold IsEs at h; subst h; simp
  | x :: r, es, h => by
    unfold IsEs at h
    obtain ⟨e, r', rfl, hk, _, _, hr⟩ := h
    intro y hy
    rcases List.mem_cons.1 hy with rfl | hy
    · rw [hk]; trivial
    · exact hr.keys y hy
theorem IsEs.length {w : World} {S : Nat → Prop} : ∀ {m : List (ByteArray × JV)} {es : List MapEntry}, IsEs w S m es → es.length = m.length
  | [], es, h => by unfold IsEs at h; subst h; rfl
  | x :: r, es, h => by
    unfold IsEs at h
    obtain ⟨e, r', rfl, _, _, _, hr⟩ := h
    simp [hr.length]
theorem IsEs.put {w : World} {S : Nat → Prop} {k : ByteArray} {j : JV} {v : Value} {cl : Nat} (hk : k.size ≤ maxLen) (hj : IsJ w S j v) :
    ∀ {m : List (ByteArray × JV)} {es : List MapEntry}, IsEs w S m es → IsEs w S (putA m k j) (putE es k v cl)
  | [], es, h => by
    unfold IsEs at h; subst h
    unfold putA putE IsEs
    exact ⟨_, _, rfl, rfl, hk, hj, by unfold IsEs; rfl⟩
  | x :: r, es, h => by
    unfold IsEs at h
    obtain ⟨e, r', rfl, hke, hz, hx, hr⟩ := h
    unfold putA putE
    by_cases hq : x.1 = k
    · rw [if_pos hq, if_pos (keyIs_iff.2 (by rw [hke, hq]))]
      unfold IsEs
      exact ⟨_, _, rfl, rfl, hk, hj, hr⟩
    · rw [if_neg hq, if_neg (fun q => hq (by have := keyIs_iff.1 q; rw [hke] at this; injection this))]
      unfold IsEs
      exact ⟨_, _, rfl, hke, hz, hx, IsEs.put hk hj hr⟩
theorem putE_none {k : ByteArray} {v : Value} {cl : Nat} : ∀ {es : List MapEntry}, (∀ x ∈ es, x.key ≠ .string k) → putE es k v cl = es ++ [{ key := .string k, val := v, born := cl }]
  | [], _ => rfl
  | e :: r, h => by
    unfold putE
    rw [if_neg (fun q => h e (by simp) (keyIs_iff.1 q)), putE_none (fun x hx => h x (by simp [hx]))]
    rfl
theorem putE_some {k : ByteArray} {v : Value} {cl : Nat} : ∀ {es : List MapEntry} {j : Nat} {e : MapEntry}, (es.map (·.key)).Nodup → es[j]? = some e → e.key = .string k →
    putE es k v cl = es.modify j (fun e => { e with key := .string k, val := v })
  | [], j, e, _, h, _ => by simp at h
  | x :: r, j, e, hn, h, hk => by
    unfold putE
    cases j with
    | zero =>
      simp at h; subst h
      rw [if_pos (keyIs_iff.2 hk)]; rfl
    | succ j =>
      have h' : r[j]? = some e := by simpa using h
      have hne : x.key ≠ .string k := by
        intro q
        simp only [List.map_cons, List.nodup_cons] at hn
        exact hn.1 (by rw [q, ← hk]; exact List.mem_map.2 ⟨e, List.mem_of_getElem? h', rfl⟩)
      rw [if_neg (fun q => hne (keyIs_iff.1 q)), putE_some (List.nodup_cons.1 (by simpa using hn)).2 h' hk]
      rfl
section
variable {P : Program} {w : World}
/-- A store into a map whose keys are strings. -/
theorem run_mapUpdate_str {t kt et r cl : Nat} {es : Array MapEntry} {k : ByteArray} {v : Value} (hm : P.underlying t = some (.map kt et)) (hd : P.underlying kt = some .string)
    (hb : w.heap[r]? = some (.map es cl)) (hs : MapKept.Stamped es cl) (hks : ∀ x ∈ es.toList, MapKept.IsKey .string x.key) :
    ∃ es' cl', (Instr.mapUpdate t (.map (some r)) (.string k) v).run P w = .ok () (ChangeMaps.setBlock w r (.map es' cl')) ∧ es'.toList = putE es.toList k v cl ∧ MapKept.Stamped es' cl' := by
  have hk : MapKept.IsKey .string (.string k) := trivial
  rcases MapKept.findNow_spec hk es.toList 0 hks with ⟨h1, h2⟩ | ⟨j, e, h1, h2, h3⟩
  · refine ⟨es.push { key := .string k, val := v, born := cl }, cl + 1, ?_, ?_, MapKept.stamped_push hs h2⟩
    · simp [Instr.mapUpdate, run_underlying hm, MapKept.run_getObj_map hb, MapKept.run_checkKey hd hk, MapKept.run_findKey hd h1, MapKept.run_setObj_map _ hb, Result.andThen, ChangeMaps.setBlock]
    · rw [Array.toList_push, putE_none h2]
  · have hj : es[j]? = some e := by simpa using h2
    refine ⟨es.modify j (fun e => { e with key := .string k, val := v }), cl, ?_, ?_, ?_⟩
    · simp [Instr.mapUpdate, run_underlying hm, MapKept.run_getObj_map hb, MapKept.run_checkKey hd hk, MapKept.run_findKey hd h1, hj, h3, MapKept.run_keyThatStays hk, MapKept.run_setObj_map _ hb, Result.andThen, ChangeMaps.setBlock]
    · rw [putE_some hs.2.2 h2 h3, Array.toList_modify]
    · exact MapKept.stamped_modify hs _ _ (fun _ _ => rfl) (fun e' _ he' => by rw [hj] at he'; cases he'; exact h3.symm)
theorem wpList_mapUpdate_str {ops : Array Oper} {rest : List Oper} {o : Oper} {a : Act} {Q : Exit → Act → World → Prop}
    (hg : o.guard = none) (m x v : Operand) (t : TypeId) (hop : o.op = Op.mapUpdate t m x v)
    (kt et : TypeId) (hm : P.underlying t = some (.map kt et)) (hd : P.underlying kt = some .string) (r cl : Nat) (es : Array MapEntry) (k : ByteArray) (val : Value)
    (hma : a.eval m = .map (some r)) (hx : a.eval x = .string k) (hv : a.eval v = val) (hb : w.heap[r]? = some (.map es cl)) (hs : MapKept.Stamped es cl) (hks : ∀ x ∈ es.toList, MapKept.IsKey .string x.key)
    (hK : ∀ es' cl' w', w' = ChangeMaps.setBlock w r (.map es' cl') → es'.toList = putE es.toList k val cl → MapKept.Stamped es' cl' → wpList P ops Q rest (a.put o.dst undef) w') :
    wpList P ops Q (o :: rest) a w := by
  refine wpList_plain hg fun K' hK' => ?_
  obtain ⟨es', cl', hrun, r1, r2⟩ := run_mapUpdate_str (P := P) (w := w) (k := k) (v := val) hm hd hb hs hks
  unfold Oper.wp
  simp [execOp, hop, hma, hx, hv, hrun, Result.andThen]
  exact hK' _ _ (hK es' cl' _ rfl r1 r2)
end
theorem setBlock_size (w : World) (b : Nat) (o : Obj) : (ChangeMaps.setBlock w b o).heap.size = w.heap.size := by simp [ChangeMaps.setBlock]
theorem setBlock_below {B b : Nat} {w0 w : World} (h : Below B w0 w) (hb : B ≤ b) (o : Obj) : Below B w0 (ChangeMaps.setBlock w b o) :=
  h.trans ⟨rfl, rfl, rfl, by simp [ChangeMaps.setBlock], fun k hk => by simp [ChangeMaps.setBlock, show b ≠ k by omega]⟩
theorem setBlock_other {b k : Nat} {w : World} (o : Obj) (h : k ≠ b) : (ChangeMaps.setBlock w b o).heap[k]? = w.heap[k]? := by
  simp [ChangeMaps.setBlock, Ne.symm h]
theorem setBlock_same {b : Nat} {w : World} (o : Obj) (h : b < w.heap.size) : (ChangeMaps.setBlock w b o).heap[b]? = some o := by
  simp [ChangeMaps.setBlock, h]
end Go.Proofs.Ytbbacpdbbmjblaa
end
section
namespace Go.Proofs.Ytbbacpdbbmjblaa
open Go.RowKit
section
variable {P : Program} {w : World} {ops : Array Oper} {rest : List Oper} {o : Oper} {a : Act} {Q : Exit → Act → World → Prop}
/-- A slice literal of one element of one cell. -/
theorem wpList_buildSlice_one (hg : o.guard = none) (x : Operand) (t e : TypeId) (hop : o.op = Op.buildSlice t 1 #[(0, x)]) (ht : P.underlying t = some (.slice e)) (i : TypeInfo) (hi : P.info? e = some i)
    (z : Value) (hz : i.zero = some z) (hs : i.size = 1) (v : Value) (hx : a.eval x = v) (hcl : v.cells = #[v]) (hzc : z.cells = #[z])
    (hK : wpList P ops Q rest (a.put o.dst (.slice (some ⟨w.heap.size, 0, none⟩) 1 1)) (w.alloc (.cells #[v] e))) : wpList P ops Q (o :: rest) a w := by
  refine wpList_plain hg fun K hK' => ?_
  unfold Oper.wp
  have h0 : (zeroValue e).run P w = .ok z w := by simp [zeroValue, typeInfo, hi, hz]
  simp [execOp, hop, hx, Instr.buildSlice, run_underlying ht, sizeOf, typeInfo, hi, hs, Result.andThen, h0, hzc, Instr.fill, hcl, newRow, newObj, Array.range]
  refine hK' _ _ (Eq.mpr (congrArg (fun c => wpList P ops Q rest (a.put o.dst (.slice (some ⟨w.heap.size, 0, none⟩) 1 1)) (w.alloc (.cells c e))) (Array.ext ?_ ?_)) hK)
  · simp [hs]
  · intro i h1 h2
    have h3 : i = 0 := by simp at h2; exact h2
    subst h3
    simp
/-- A store of a value of one cell, whatever it is. -/
theorem wpList_store_one (hg : o.guard = none) (t : TypeId) (x v : Operand) (hop : o.op = Op.store t x v) (p : Addr) (hx : a.eval x = .pointer (some p)) (u : Value) (hv : a.eval v = u)
    (i : TypeInfo) (hi : P.info? t = some i) (hs : i.size = 1) (hu : u.oneCell' = true) (hc : u.cells = #[u]) (old : Value) (hcell : w.cell? p = some old) (hf : w.frozen? p = false)
    (hK : wpList P ops Q rest (a.put o.dst undef) (w.setCell p u)) : wpList P ops Q (o :: rest) a w := by
  refine wpList_plain hg fun K hK' => ?_
  unfold Oper.wp
  have hadd : p.add 0 = p := by unfold Addr.add; simp
  have hsure : (Instr.sureAddr (.pointer (some p))).run P w = .ok p w := by simp [go_sem]
  have hst : (storeVar t p u).run P w = .ok () (w.setCell p u) := by
    simp [storeVar, sizeOf, typeInfo, hi, hs, hc, storeCells, hadd, run_store P w p u .plain hu, hcell, hf, Result.andThen]
  simp [execOp, hop, hx, hv, Instr.storeAt, hsure, hst, Result.andThen]
  exact hK' _ _ hK
end
/-- Not the description of an interface type. -/
def notIface : TypeDesc → Bool | .interface _ => false | _ => true
section
variable {P : Program} {w : World} {T xT u : TypeId} {v z : Value} {d : TypeDesc}
theorem run_ta_same (h : P.underlying T = some d) (hn : notIface d = true) : (Instr.typeAssert (.iface T v) xT T true).run P w = .ok (.tuple #[v, .bool true]) w := by
  cases d <;> simp_all [notIface, Instr.typeAssert, run_underlying h, Result.andThen]
theorem run_ta_same' (h : P.underlying T = some d) (hn : notIface d = true) : (Instr.typeAssert (.iface T v) xT T false).run P w = .ok v w := by
  cases d <;> simp_all [notIface, Instr.typeAssert, run_underlying h, Result.andThen]
theorem run_ta_other (h : P.underlying T = some d) (hn : notIface d = true) (hz : (zeroValue T).run P w = .ok z w) (hu : u ≠ T) : (Instr.typeAssert (.iface u v) xT T true).run P w = .ok (.tuple #[z, .bool false]) w := by
  cases d <;> simp_all [notIface, Instr.typeAssert, run_underlying h, Result.andThen]
theorem run_ta_nil (h : P.underlying T = some d) (hn : notIface d = true) (hz : (zeroValue T).run P w = .ok z w) : (Instr.typeAssert .nilIface xT T true).run P w = .ok (.tuple #[z, .bool false]) w := by
  cases d <;> simp_all [notIface, Instr.typeAssert, run_underlying h, Result.andThen]
end
@[go_sem] theorem ta_other3 (u : TypeId) (v : Value) (xT : TypeId) (w : World) (h : u ≠ 3) : (Instr.typeAssert (.iface u v) xT 3 true).run Try.prog w = .ok (.tuple #[.int .i64 0, .bool false]) w :=
  run_ta_other Try.underlying3 rfl (by kernel_rfl) h
@[go_sem] theorem ta_other226 (u : TypeId) (v : Value) (xT : TypeId) (w : World) (h : u ≠ 226) : (Instr.typeAssert (.iface u v) xT 226 true).run Try.prog w = .ok (.tuple #[.int .i8 0, .bool false]) w :=
  run_ta_other Try.underlying226 rfl (by kernel_rfl) h
@[go_sem] theorem ta_other228 (u : TypeId) (v : Value) (xT : TypeId) (w : World) (h : u ≠ 228) : (Instr.typeAssert (.iface u v) xT 228 true).run Try.prog w = .ok (.tuple #[.int .i16 0, .bool false]) w :=
  run_ta_other Try.underlying228 rfl (by kernel_rfl) h
@[go_sem] theorem ta_other21 (u : TypeId) (v : Value) (xT : TypeId) (w : World) (h : u ≠ 21) : (Instr.typeAssert (.iface u v) xT 21 true).run Try.prog w = .ok (.tuple #[.int .i32 0, .bool false]) w :=
  run_ta_other Try.underlying21 rfl (by kernel_rfl) h
@[go_sem] theorem ta_same2 (v : Value) (xT : TypeId) (w : World) : (Instr.typeAssert (.iface 2 v) xT 2 true).run Try.prog w = .ok (.tuple #[v, .bool true]) w := run_ta_same Try.underlying2 rfl
@[go_sem] theorem ta_sames2 (v : Value) (xT : TypeId) (w : World) : (Instr.typeAssert (.iface 2 v) xT 2 false).run Try.prog w = .ok v w := run_ta_same' Try.underlying2 rfl
@[go_sem] theorem ta_other2 (u : TypeId) (v : Value) (xT : TypeId) (w : World) (h : u ≠ 2) : (Instr.typeAssert (.iface u v) xT 2 true).run Try.prog w = .ok (.tuple #[.int .i64 0, .bool false]) w :=
  run_ta_other Try.underlying2 rfl (by kernel_rfl) h
@[go_sem] theorem ta_other231 (u : TypeId) (v : Value) (xT : TypeId) (w : World) (h : u ≠ 231) : (Instr.typeAssert (.iface u v) xT 231 true).run Try.prog w = .ok (.tuple #[.int .u64 0, .bool false]) w :=
  run_ta_other Try.underlying231 rfl (by kernel_rfl) h
@[go_sem] theorem ta_other5 (u : TypeId) (v : Value) (xT : TypeId) (w : World) (h : u ≠ 5) : (Instr.typeAssert (.iface u v) xT 5 true).run Try.prog w = .ok (.tuple #[.int .u8 0, .bool false]) w :=
  run_ta_other Try.underlying5 rfl (by kernel_rfl) h
@[go_sem] theorem ta_other234 (u : TypeId) (v : Value) (xT : TypeId) (w : World) (h : u ≠ 234) : (Instr.typeAssert (.iface u v) xT 234 true).run Try.prog w = .ok (.tuple #[.int .u16 0, .bool false]) w :=
  run_ta_other Try.underlying234 rfl (by kernel_rfl) h
@[go_sem] theorem ta_other198 (u : TypeId) (v : Value) (xT : TypeId) (w : World) (h : u ≠ 198) : (Instr.typeAssert (.iface u v) xT 198 true).run Try.prog w = .ok (.tuple #[.int .u32 0, .bool false]) w :=
  run_ta_other Try.underlying198 rfl (by kernel_rfl) h
@[go_sem] theorem ta_same40 (v : Value) (xT : TypeId) (w : World) : (Instr.typeAssert (.iface 40 v) xT 40 true).run Try.prog w = .ok (.tuple #[v, .bool true]) w := run_ta_same Try.underlying40 rfl
@[go_sem] theorem ta_sames40 (v : Value) (xT : TypeId) (w : World) : (Instr.typeAssert (.iface 40 v) xT 40 false).run Try.prog w = .ok v w := run_ta_same' Try.underlying40 rfl
@[go_sem] theorem ta_other40 (u : TypeId) (v : Value) (xT : TypeId) (w : World) (h : u ≠ 40) : (Instr.typeAssert (.iface u v) xT 40 true).run Try.prog w = .ok (.tuple #[.float .f64 0, .bool false]) w :=
  run_ta_other Try.underlying40 rfl (by kernel_rfl) h
@[go_sem] theorem ta_other224 (u : TypeId) (v : Value) (xT : TypeId) (w : World) (h : u ≠ 224) : (Instr.typeAssert (.iface u v) xT 224 true).run Try.prog w = .ok (.tuple #[.float .f32 0, .bool false]) w :=
  run_ta_other Try.underlying224 rfl (by kernel_rfl) h
@[go_sem] theorem ta_same9 (v : Value) (xT : TypeId) (w : World) : (Instr.typeAssert (.iface 9 v) xT 9 true).run Try.prog w = .ok (.tuple #[v, .bool true]) w := run_ta_same Try.underlying9 rfl
@[go_sem] theorem ta_sames9 (v : Value) (xT : TypeId) (w : World) : (Instr.typeAssert (.iface 9 v) xT 9 false).run Try.prog w = .ok v w := run_ta_same' Try.underlying9 rfl
@[go_sem] theorem ta_other9 (u : TypeId) (v : Value) (xT : TypeId) (w : World) (h : u ≠ 9) : (Instr.typeAssert (.iface u v) xT 9 true).run Try.prog w = .ok (.tuple #[.string ⟨#[]⟩, .bool false]) w :=
  run_ta_other Try.underlying9 rfl (by kernel_rfl) h
@[go_sem] theorem ta_same4 (v : Value) (xT : TypeId) (w : World) : (Instr.typeAssert (.iface 4 v) xT 4 true).run Try.prog w = .ok (.tuple #[v, .bool true]) w := run_ta_same Try.underlying4 rfl
@[go_sem] theorem ta_sames4 (v : Value) (xT : TypeId) (w : World) : (Instr.typeAssert (.iface 4 v) xT 4 false).run Try.prog w = .ok v w := run_ta_same' Try.underlying4 rfl
@[go_sem] theorem ta_other4 (u : TypeId) (v : Value) (xT : TypeId) (w : World) (h : u ≠ 4) : (Instr.typeAssert (.iface u v) xT 4 true).run Try.prog w = .ok (.tuple #[.bool false, .bool false]) w :=
  run_ta_other Try.underlying4 rfl (by kernel_rfl) h
@[go_sem] theorem ta_same141 (v : Value) (xT : TypeId) (w : World) : (Instr.typeAssert (.iface 141 v) xT 141 true).run Try.prog w = .ok (.tuple #[v, .bool true]) w := run_ta_same Try.underlying141 rfl
@[go_sem] theorem ta_other141 (u : TypeId) (v : Value) (xT : TypeId) (w : World) (h : u ≠ 141) : (Instr.typeAssert (.iface u v) xT 141 true).run Try.prog w = .ok (.tuple #[.slice none 0 0, .bool false]) w :=
  run_ta_other Try.underlying141 rfl (by kernel_rfl) h
@[go_sem] theorem ta_same106 (v : Value) (xT : TypeId) (w : World) : (Instr.typeAssert (.iface 106 v) xT 106 true).run Try.prog w = .ok (.tuple #[v, .bool true]) w := run_ta_same Try.underlying106 rfl
@[go_sem] theorem ta_other106 (u : TypeId) (v : Value) (xT : TypeId) (w : World) (h : u ≠ 106) : (Instr.typeAssert (.iface u v) xT 106 true).run Try.prog w = .ok (.tuple #[.map none, .bool false]) w :=
  run_ta_other Try.underlying106 rfl (by kernel_rfl) h
@[go_sem] theorem ta_nil106 (xT : TypeId) (w : World) : (Instr.typeAssert .nilIface xT 106 true).run Try.prog w = .ok (.tuple #[.map none, .bool false]) w :=
  run_ta_nil Try.underlying106 rfl (by kernel_rfl)
end Go.Proofs.Ytbbacpdbbmjblaa
end
section
set_option linter.unusedVariables false
namespace Go.Proofs.Ytbbacpdbbmjblaa
open Go.RowKit
set_option linter.unusedSimpArgs false
section
variable {P : Program} {X : Base} {N : Nat} {Q : Exit → Act → World → Prop} {ops : Array Oper} {rem : List Nat} {ks : List Itm} {s s' : Sta} {a : Act} {w w' : World} {ρ : Nat → RV}
theorem ConcAt.frzVR (h : ConcAt X s a w ρ) (G K : Nat → Bool) : (∀ (x : AV) {v : Value}, VR w (FF X w s.tb ρ) s.tb ρ x v → VR w (FF X w (s.frz G K).tb ρ) (s.frz G K).tb ρ (frzA G K s.tb x) v) ∧
    ∀ (l : List AV) {vs : List Value}, VRs w (FF X w s.tb ρ) s.tb ρ l vs → VRs w (FF X w (s.frz G K).tb ρ) (s.frz G K).tb ρ (frzAs G K s.tb l) vs := by
  have hlv : ∀ k, liveB ((s.frz G K).tb k) = true → liveB (s.tb k) = true := by
    intro k hk
    simp only [Sta.frz] at hk
    split at hk
    · cases hk
    · cases hx : s.tb k with
      | none => rw [hx] at hk; cases hk
      | some x => rw [hx] at hk; cases x <;> first | rfl | cases hk
  have hlK : ∀ k, K k = true → liveB ((s.frz G K).tb k) = false := by
    intro k hK
    simp [Sta.frz, hK, liveB]
  have hs : ∀ b, FF X w s.tb ρ b → FF X w (s.frz G K).tb ρ b := fun b hb => ⟨hb.1, hb.2.1, fun k hk => hb.2.2 k (hlv k hk)⟩
  have hnew : ∀ k x b, s.tb k = some x → x.live = true → K k = true → (ρ k).fp b → FF X w (s.frz G K).tb ρ b := by
    intro k x b hk hl hK hb
    obtain ⟨h1, h2⟩ := h.rowBlk hk hl hb
    refine ⟨.inr h1, h2, fun k' hk' e' => ?_⟩
    have := h.apart k' k b (hlv k' hk') (by rw [hk]; exact hl) e' hb
    subst this
    rw [hlK k' hK] at hk'; cases hk'
  have hown : ∀ k v, VR w (FF X w s.tb ρ) s.tb ρ (.own k) v → K k = true → VR w (FF X w (s.frz G K).tb ρ) (s.frz G K).tb ρ (frzA G K s.tb (.own k)) v := by
    intro k v hv hK
    unfold frzA
    rw [if_pos hK]
    unfold VR at hv
    rcases hv.2 with ⟨x, hk, hkd, e⟩ | hk
    · subst e
      rw [hk]
      cases x with
      | box t cs => simp [Blk.kind] at hkd
      | dead => simp [Blk.kind] at hkd
      | res R =>
        obtain ⟨h1, h2⟩ := h.blks k _ hk
        simp only
        unfold VR
        exact R.frz _ _ _ _ _ hs (fun b hb => hnew k _ b hk rfl hK hb) h1
      | row e n y l =>
        obtain ⟨xs, h0, hm, h1, h2, h3, h4⟩ := h.blks k _ hk
        simp only
        unfold VR Rep
        rcases h1.2 with ⟨e1, e2⟩ | ⟨g, cap, cur, e1, hB, hg, hc1, _, hc2, hc3⟩
        · exact ⟨none, 0, by rw [e1, e2], by omega, h3, h4, .inl (List.eq_nil_of_length_eq_zero e2)⟩
        · refine ⟨some ⟨g, 0, none⟩, cap, e1, hc1, h3, h4, .inr ⟨g, 0, hnew k _ g hk rfl hK (by rw [h0, e1]; rfl), rfl, ?_⟩⟩
          refine (h2.keep (fun _ _ => rfl) hs).lies fun j u hj => ?_
          rw [cell_of_row w g (0 + j) _ _ _ hg]
          rw [← hc3, List.getElem?_take] at hj
          split at hj
          · simpa using hj
          · cases hj
    · rw [hk]; unfold VR; trivial
  have hptr : ∀ k off v, VR w (FF X w s.tb ρ) s.tb ρ (.ptr k off) v → K k = true → VR w (FF X w (s.frz G K).tb ρ) (s.frz G K).tb ρ (frzP G off (s.tb k)) v := by
    intro k off v hv hK
    unfold VR at hv
    obtain ⟨t, cs, b, h1, h2, rfl⟩ := hv
    obtain ⟨b', vs, h2', hB, hb, hvs, hone⟩ := h.blks k _ h1
    have hρ2 : Value.pointer (some ⟨b, 0, none⟩) = .pointer (some ⟨b', 0, none⟩) := h2.symm.trans (congrArg RV.v h2')
    simp only [Value.pointer.injEq, Option.some.injEq, Addr.mk.injEq, and_true] at hρ2
    subst hρ2
    rw [h1]
    unfold frzP
    simp only
    split
    · rename_i ds hds
      rw [allD_spec hds] at hvs
      have hF' : FF X w (s.frz G K).tb ρ b := hnew k _ b h1 rfl hK (by rw [h2']; rfl)
      have hr := Reps.keep (w' := w) (fun _ _ => rfl) hs ds hvs.dat
      have hl := lies_block hb 0
      split
      · unfold VR Rep
        refine ⟨b, 0, .agg vs.toArray, rfl, hF', ?_, by simpa [Value.cells] using hl⟩
        unfold Rep
        exact ⟨vs, rfl, hr, hone⟩
      · split
        · rename_i d
          unfold Reps at hr
          obtain ⟨u, r', rfl, hu, hr'⟩ := hr
          unfold Reps at hr'
          subst hr'
          unfold VR Rep
          exact ⟨b, 0, u, rfl, hF', hu, by rw [one_toList (hone u (by simp))]; simpa using hl⟩
        · unfold VR; trivial
    · unfold VR; trivial
  have hkeep : ∀ k x, s.tb k = some x → K k = false → (s.frz G K).tb k = some (frzB G K s.tb x) := fun k x hx hK => by simp [Sta.frz, hx, hK]
  exact ⟨fun x v hv => frz_A hs hown hptr hkeep x hv, fun l vs hv => frz_As hs hown hptr hkeep l hv⟩
def allK : Nat → Bool := fun _ => true
/-- Data without memory behind it. -/
def Flat (r : PD) : Prop := ∀ (w w' : World) (F F' : Nat → Prop) (v : Value), Rep w F r v → Rep w' F' r v
theorem Flat.val {u : Value} : Flat (.val u) := fun w w' F F' v h => by unfold Rep at h ⊢; exact h
/-- The arguments of a call, some of which may be own memory; what comes back holds no memory. -/
theorem ConcAt.zcall (hc : ConcAt X s a w ρ) (G : Nat → Bool) {az : List AV} {vs : List Value} (hv : VRs w (FF X w s.tb ρ) s.tb ρ az vs) {ds : List PD} (hx : allD (frzAs G allK s.tb az) = some ds) {f : FuncId} {r : PD} (hr : PCall P f ds r) (hz : Flat r) :
    Calls P f vs.toArray w fun e w' => ∃ v, e = .returned v ∧ ConcAt X s a w' ρ ∧ VR w' (FF X w' s.tb ρ) s.tb ρ (.dat r) v := by
  have h1 := (hc.frzVR G allK).2 az hv
  rw [allD_spec hx] at h1
  refine (hr w _ vs (fun b hb => hb.2.1) h1.dat).mono ?_
  rintro e w' ⟨v, rfl, hb, hv'⟩
  exact ⟨v, rfl, hc.grow hb, by unfold VR; exact hz _ _ _ _ _ hv'⟩
/-- The same on data, whatever comes back. -/
theorem ConcAt.dcall (hc : ConcAt X s a w ρ) {az : List AV} {vs : List Value} (hv : VRs w (FF X w s.tb ρ) s.tb ρ az vs) {ds : List PD} (hx : allD az = some ds) {f : FuncId} {r : PD} (hr : PCall P f ds r) :
    Calls P f vs.toArray w fun e w' => ∃ v, e = .returned v ∧ ConcAt X s a w' ρ ∧ VR w' (FF X w' s.tb ρ) s.tb ρ (.dat r) v := by
  rw [allD_spec hx] at hv
  refine (hr w _ vs (fun b hb => hb.2.1) hv.dat).mono ?_
  rintro e w' ⟨v, rfl, hb, hv'⟩
  exact ⟨v, rfl, hc.grow hb, by unfold VR; exact hv'.keep (fun _ _ => rfl) (FF_new hb hc)⟩
mutual
theorem frz_alike (G : Nat → Bool) {tb tb' : Nat → Option Blk} : ∀ x : AV, (∀ k ∈ keysA x, tb' k = tb k) → frzA G allK tb' x = frzA G allK tb x
  | .any, _ => rfl
  | .dat _, _ => rfl
  | .ptr k off, h => by unfold frzA; rw [h k (by simp [keysA])]
  | .own k, h => by unfold frzA; rw [h k (by simp [keysA])]
  | .elt k n i off, h => by unfold frzA; rfl
  | .agg l, h => by unfold frzA; rw [frzs_alike G l (fun k hk => h k (by simpa [keysA] using hk))]
  | .tup l, h => by unfold frzA; rw [frzs_alike G l (fun k hk => h k (by simpa [keysA] using hk))]
  | .iface t x, h => by unfold frzA; rw [frz_alike G x (fun k hk => h k (by simpa [keysA] using hk))]
  | .clo f l, h => by unfold frzA; rw [frzs_alike G l (fun k hk => h k (by simpa [keysA] using hk))]
theorem frzs_alike (G : Nat → Bool) {tb tb' : Nat → Option Blk} : ∀ l : List AV, (∀ k ∈ keysAs l, tb' k = tb k) → frzAs G allK tb' l = frzAs G allK tb l
  | [], _ => rfl
  | x :: r, h => by unfold frzAs; rw [frz_alike G x (fun k hk => h k (by simp only [keysAs, List.mem_append]; exact .inl hk)), frzs_alike G r (fun k hk => h k (by simp only [keysAs, List.mem_append]; exact .inr hk))]
end
theorem keysAs_map {xs : List Operand} {k : Nat} : k ∈ keysAs (xs.map s.ev) → ∃ x ∈ xs, k ∈ keysA (s.ev x) := by
  induction xs with
  | nil => intro h; simp [keysAs] at h
  | cons x r ih =>
    intro h
    simp only [List.map_cons, keysAs, List.mem_append] at h
    rcases h with h | h
    · exact ⟨x, by simp, h⟩
    · obtain ⟨y, hy, hk⟩ := ih h
      exact ⟨y, by simp [hy], hk⟩
theorem frzs_ev (G : Nat → Bool) {xs : List Operand} (hev : ∀ x ∈ xs, s'.ev x = s.ev x) (htb : ∀ x ∈ xs, ∀ k ∈ keysA (s.ev x), s'.tb k = s.tb k) : frzAs G allK s'.tb (xs.map s'.ev) = frzAs G allK s.tb (xs.map s.ev) := by
  rw [map_alike hev]
  exact frzs_alike G _ fun k hk => by
    obtain ⟨x, hx, hk⟩ := keysAs_map hk
    exact htb x hx k hk
/-- From a call's outcome to an operation's. -/
theorem opS_enter {o : Oper} (hd : dstOk X.N o.dst = true) {f : FuncId} {r : AV} (h : ∀ a w ρ, ConcAt X s a w ρ → ∃ vs : List Value, (execOp a.eval o).run P w = .ok (.enter f vs.toArray) w ∧
    Calls P f vs.toArray w fun e w' => ∃ v, e = .returned v ∧ ConcAt X s a w' ρ ∧ VR w' (FF X w' s.tb ρ) s.tb ρ r v) : OpS P X o s (s.put o.dst r) := by
  intro a w ⟨ρ, hc⟩ K Q hK
  obtain ⟨vs, he, hcall⟩ := h a w ρ hc
  unfold Oper.wp
  rw [he]
  refine hcall.mono ?_
  rintro e w' ⟨v, rfl, hc', hv⟩
  exact hK _ _ ⟨ρ, hc'.putO hd hv⟩
theorem op_callZ {o : Oper} (hd : dstOk X.N o.dst = true) {f : FuncId} {xs : List Operand} {ts : Array TypeId} (ho : o.op = .call { callee := .value (.func f), args := xs.toArray, argTypes := ts }) (G : Nat → Bool) (hf : callable P f = true)
    {ds : List PD} (hx : allD (frzAs G allK s.tb (xs.map s.ev)) = some ds) {r : PD} (hr : PCall P f ds r) (hz : Flat r) : OpS P X o s (s.put o.dst (.dat r)) :=
  opS_enter hd fun a w ρ hc => ⟨xs.map a.eval, by simp [execOp, ho, resolve, Deferred.ofValue, Act.eval, invoke, run_callFunc hf], hc.zcall G (VRs_args hc rfl) hx hr hz⟩
theorem k_callZ (G : Nat → Bool) {d f : Nat} {xs : List Operand} {ts : Array TypeId} {ds : List PD} {r : PD} (hN : Nat.blt d N = true) (hf : callable P f = true) (hx : allD (frzAs G allK s.tb (xs.map s.ev)) = some ds) (hr : PCall P f ds r) (hz : Flat r) (h : Run P X N Q (.ops ops rem :: ks) (s.put (some d) (.dat r))) :
    RunK P X N Q ops rem ks (some d) (.call { callee := .value (.func f), args := xs.toArray, argTypes := ts }) s := k_of hN (fun _ _ _ hd => op_callZ hd rfl G hf hx hr hz) h
theorem d_callZ {ops : List Oper} (G : Nat → Bool) {d f : Nat} {xs : List Operand} {ts : Array TypeId} {ds : List PD} {r : PD} (hN : Nat.blt d N = true) (hf : callable P f = true) (hx : allD (frzAs G allK s.tb (xs.map s.ev)) = some ds) (hr : PCall P f ds r) (hz : Flat r) :
    TrK P X N ops (some d) (.call { callee := .value (.func f), args := xs.toArray, argTypes := ts }) (Eff.put (some d) (.dat r)) s (s.put (some d) (.dat r)) := act_val hN fun s' _ _ _ _ hd hev htb => op_callZ hd rfl G hf (by rw [frzs_ev G (fun x hx => hev x (by simp [Op.operands, Call.operands, hx])) (fun x hx => htb x (by simp [Op.operands, Call.operands, hx]))]; exact hx) hr hz
/-- What the method of a type is: the function; for a value method called through a pointer, the type that is loaded. -/
def methI (P : Program) (T : TypeId) (name : String) : Option (FuncId × Option TypeId) :=
  match (P.info? T).bind fun i => i.methods.find? (·.name == name) with
  | some m => match m.path.toList, m.func, P.underlying T with
    | [], some (f, true), some (.pointer _) => some (f, none)
    | [], some (f, false), some (.pointer e) => some (f, some e)
    | [], some (f, false), some _ => some (f, none)
    | _, _, _ => none
  | none => none
theorem methI_spec {T : TypeId} {name : String} {f : FuncId} {q : Option TypeId} (h : methI P T name = some (f, q)) : ∃ i m u b, P.info? T = some i ∧ i.methods.find? (·.name == name) = some m ∧ m.path = #[] ∧ m.func = some (f, b) ∧ P.underlying T = some u ∧
    ((q = none ∧ ((b = true ∧ ∃ e, u = .pointer e) ∨ (b = false ∧ ∀ e, u ≠ .pointer e))) ∨ ∃ e, q = some e ∧ b = false ∧ u = .pointer e) := by
  unfold methI at h
  split at h
  · rename_i m hm
    obtain ⟨i, hi, hf⟩ := Option.bind_eq_some_iff.1 hm
    split at h
    · rename_i f' e h1 h2 h3
      simp only [Option.some.injEq, Prod.mk.injEq] at h
      exact ⟨i, m, _, true, hi, hf, Array.toList_eq_nil_iff.1 h1, by rw [h2, h.1], h3, .inl ⟨h.2.symm, .inl ⟨rfl, e, rfl⟩⟩⟩
    · rename_i f' e h1 h2 h3
      simp only [Option.some.injEq, Prod.mk.injEq] at h
      exact ⟨i, m, _, false, hi, hf, Array.toList_eq_nil_iff.1 h1, by rw [h2, h.1], h3, .inr ⟨e, h.2.symm, rfl, rfl⟩⟩
    · rename_i f' u h0 h1 h2 h3
      simp only [Option.some.injEq, Prod.mk.injEq] at h
      exact ⟨i, m, _, false, hi, hf, Array.toList_eq_nil_iff.1 h1, by rw [h2, h.1], h3, .inl ⟨h.2.symm, .inr ⟨rfl, fun e he => h0 e he⟩⟩⟩
    · cases h
  · cases h
theorem run_method_same {T : TypeId} {name : String} {f : FuncId} (h : methI P T name = some (f, none)) {n : Nat} (hn : 0 < n) (v : Value) (w : World) : (method n T v name).run P w = .ok (f, v) w := by
  obtain ⟨i, m, u, b, hi, hf, hp, hfn, hu, hq⟩ := methI_spec h
  obtain ⟨n, rfl⟩ : ∃ k, n = k + 1 := ⟨n - 1, by omega⟩
  rcases hq with ⟨_, ⟨rfl, e, rfl⟩ | ⟨rfl, he⟩⟩ | ⟨e, he, _⟩
  · simp [method, typeInfo, hi, hf, hp, hfn, follow, receiverAt, run_underlying hu, Place.get, Result.andThen]
  · cases u <;> simp [method, typeInfo, hi, hf, hp, hfn, follow, receiverAt, run_underlying hu, Place.get, Result.andThen]
    exact absurd rfl (he _)
  · cases he
theorem run_method_load {T e : TypeId} {name : String} {f : FuncId} (h : methI P T name = some (f, some e)) {n : Nat} (hn : 0 < n) {p : Addr} {u : Value} {w : World} (hl : (loadVar e p).run P w = .ok u w) : (method n T (.pointer (some p)) name).run P w = .ok (f, u) w := by
  obtain ⟨i, m, d, b, hi, hf, hp, hfn, hu, hq⟩ := methI_spec h
  obtain ⟨n, rfl⟩ : ∃ k, n = k + 1 := ⟨n - 1, by omega⟩
  have hwrap : ∀ nm : String, (Builtin.ssaWrapNilChk_ #[T] T #[.pointer (some p), strVal "", strVal nm]).run P w = .ok (.pointer (some p)) w := fun _ => rfl
  rcases hq with ⟨hq, _⟩ | ⟨e', he, rfl, rfl⟩
  · cases hq
  · cases he
    simp [method, typeInfo, hi, hf, hp, hfn, follow, receiverAt, run_underlying hu, Place.get, hwrap, Result.andThen, asAddr, hl]
class MI (P : Program) (T : Nat) (name : String) (f : outParam Nat) (q : outParam (Option Nat)) : Prop where
  out : methI P T name = some (f, q)
/-- The receiver: what lies in the interface value, and what the function is given. -/
def Recv (P : Program) (X : Base) (s : Sta) (T : TypeId) (name : String) (f : FuncId) (x y : AV) : Prop :=
  ∀ a w ρ, ConcAt X s a w ρ → ∀ v, VR w (FF X w s.tb ρ) s.tb ρ x v → ∃ u, (∀ n, 0 < n → (method n T v name).run P w = .ok (f, u) w) ∧ VR w (FF X w s.tb ρ) s.tb ρ y u
theorem Recv.same {T : TypeId} {name : String} {f : FuncId} {x : AV} (h : methI P T name = some (f, none)) : Recv P X s T name f x x := fun a w ρ hc v hv => ⟨v, fun n hn => run_method_same h hn v w, hv⟩
theorem Recv.loadD {T e : TypeId} {name : String} {f : FuncId} {d : PD} {n : Nat} {g : Bool} (h : methI P T name = some (f, some e)) [ht : VI P e n g] (hf : fitsD g n d = true) : Recv P X s T name f (.dat (.ptr d)) (.dat d) := by
  intro a w ρ hc v hv
  unfold VR Rep at hv
  obtain ⟨b, off, u, rfl, hF, hu, hl⟩ := hv
  have hrun : (loadVar e ⟨b, off, none⟩).run P w = .ok u w := by
    rcases fitsD_agg hf with ⟨rfl, l, rfl, hn⟩ | ⟨rfl, h1, h1'⟩
    · unfold Rep at hu
      obtain ⟨vs, rfl, hvs, _⟩ := hu
      exact run_loadVar_agg ht.out (by rw [hvs.length]; exact hn) (by simpa [Value.cells] using hl)
    · have hone := hu.one h1 h1'
      rw [one_toList hone] at hl
      exact run_loadVar_cell ht.out (by simpa using hl 0 u rfl)
  exact ⟨u, fun n hn => run_method_load h hn hrun, by unfold VR; exact hu⟩
def ifcA : AV → Option (TypeId × AV)
  | .iface T x => some (T, x)
  | .dat (.iface T d) => some (T, .dat d)
  | _ => none
theorem ifcA_spec {z : AV} {T : TypeId} {x : AV} (h : ifcA z = some (T, x)) {F : Nat → Prop} {tb : Nat → Option Blk} {v : Value} (hv : VR w F tb ρ z v) : ∃ u, v = .iface T u ∧ VR w F tb ρ x u := by
  unfold ifcA at h
  split at h
  · simp only [Option.some.injEq, Prod.mk.injEq] at h
    obtain ⟨rfl, rfl⟩ := h
    unfold VR at hv
    exact hv
  · simp only [Option.some.injEq, Prod.mk.injEq] at h
    obtain ⟨rfl, rfl⟩ := h
    unfold VR Rep at hv
    obtain ⟨u, e, hu⟩ := hv
    exact ⟨u, e, by unfold VR; exact hu⟩
  · cases h
theorem inv_enter {T : TypeId} {name : String} {f : FuncId} {c : Operand} {x y : AV} {xs : List Operand} {ts : Array TypeId} {o : Oper} (ho : o.op = .call { callee := .invoke c name, args := xs.toArray, argTypes := ts }) (hi : ifcA (s.ev c) = some (T, x)) (hR : Recv P X s T name f x y) (hf : callable P f = true) (hc : ConcAt X s a w ρ) :
    ∃ vs, VRs w (FF X w s.tb ρ) s.tb ρ (y :: xs.map s.ev) vs ∧ (execOp a.eval o).run P w = .ok (.enter f vs.toArray) w := by
  obtain ⟨v, e, hv⟩ := ifcA_spec hi (hc.ev c)
  obtain ⟨u, hm, hu⟩ := hR a w ρ hc v hv
  refine ⟨u :: xs.map a.eval, by unfold VRs; exact ⟨u, _, rfl, hu, VRs_args hc rfl⟩, ?_⟩
  have h1 := hm (P.types.size + Made.depth) (by unfold Made.depth; omega)
  simp [execOp, ho, resolve, invoke, callMethod, e, h1, run_callFunc hf, Result.andThen, List.take_of_length_le]
theorem op_inv {o : Oper} (hd : dstOk X.N o.dst = true) {T : TypeId} {name : String} {f : FuncId} {c : Operand} {x y : AV} {xs : List Operand} {ts : Array TypeId} (ho : o.op = .call { callee := .invoke c name, args := xs.toArray, argTypes := ts }) (hi : ifcA (s.ev c) = some (T, x)) (hR : Recv P X s T name f x y) (hf : callable P f = true)
    {ds : List PD} (hx : allD (y :: xs.map s.ev) = some ds) {r : PD} (hr : PCall P f ds r) : OpS P X o s (s.put o.dst (.dat r)) :=
  opS_enter hd fun a w ρ hc => by
    obtain ⟨vs, hv, he⟩ := inv_enter ho hi hR hf hc
    exact ⟨vs, he, hc.dcall hv hx hr⟩
theorem k_inv {d : Nat} {T : TypeId} {name : String} {f : FuncId} {c : Operand} {x y : AV} {xs : List Operand} {ts : Array TypeId} {ds : List PD} {r : PD} (hN : Nat.blt d N = true) (hi : ifcA (s.ev c) = some (T, x)) (hR : Recv P X s T name f x y) (hf : callable P f = true) (hx : allD (y :: xs.map s.ev) = some ds) (hr : PCall P f ds r)
    (h : Run P X N Q (.ops ops rem :: ks) (s.put (some d) (.dat r))) : RunK P X N Q ops rem ks (some d) (.call { callee := .invoke c name, args := xs.toArray, argTypes := ts }) s := k_of hN (fun _ _ _ hd => op_inv hd rfl hi hR hf hx hr) h
theorem k_invD {d : Nat} {T e : TypeId} {name : String} {f : FuncId} {c : Operand} {p : PD} {n : Nat} {g : Bool} {xs : List Operand} {ts : Array TypeId} {ds : List PD} {r : PD} (hN : Nat.blt d N = true) (hi : s.ev c = .dat (.iface T (.ptr p))) [hm : MI P T name f (some e)] [ht : VI P e n g] (hfit : fitsD g n p = true) (hf : callable P f = true) (hx : allD (.dat p :: xs.map s.ev) = some ds) (hr : PCall P f ds r)
    (h : Run P X N Q (.ops ops rem :: ks) (s.put (some d) (.dat r))) : RunK P X N Q ops rem ks (some d) (.call { callee := .invoke c name, args := xs.toArray, argTypes := ts }) s := k_inv hN (x := .dat (.ptr p)) (by rw [hi]; rfl) (Recv.loadD hm.out hfit) hf hx hr h
theorem k_invS {d : Nat} {T : TypeId} {name : String} {f : FuncId} {c : Operand} {p : PD} {xs : List Operand} {ts : Array TypeId} {ds : List PD} {r : PD} (hN : Nat.blt d N = true) (hi : s.ev c = .dat (.iface T p)) [hm : MI P T name f none] (hf : callable P f = true) (hx : allD (.dat p :: xs.map s.ev) = some ds) (hr : PCall P f ds r)
    (h : Run P X N Q (.ops ops rem :: ks) (s.put (some d) (.dat r))) : RunK P X N Q ops rem ks (some d) (.call { callee := .invoke c name, args := xs.toArray, argTypes := ts }) s := k_inv hN (x := .dat p) (by rw [hi]; rfl) (Recv.same hm.out) hf hx hr h
/-- A method to which memory is lent. -/
theorem k_invA (θ : Nat → Nat) {d : Nat} {T : TypeId} {name : String} {f : FuncId} {c : Operand} {x y : AV} {xs : List Operand} {ts : Array TypeId} {az : List AV} {tbl : List (Nat × Blk)} {ι : Type} {out : ι → AV} {tbl' : ι → List (Nat × Blk)} (hN : Nat.blt d N = true) (hi : ifcA (s.ev c) = some (T, x)) (hR : Recv P X s T name f x y) (hf : callable P f = true)
    (hr : ACall P f az tbl out tbl') (hx : y :: xs.map s.ev = renAs θ az) (htb : TbOk s θ tbl) (hok1 : lendOk1 θ az tbl = true) (hfr : ∀ i, FreshOk s θ (tbl' i)) (hok : ∀ i, lendOk2 θ tbl (tbl' i) = true) (h : ∀ i, Run P X N Q (.ops ops rem :: ks) ((s.lend θ (tbl' i)).put (some d) (renA θ (out i)))) :
    RunK P X N Q ops rem ks (some d) (.call { callee := .invoke c name, args := xs.toArray, argTypes := ts }) s := ⟨fun ty pos aft => ⟨fun hX a w ⟨ρ, hc⟩ => by
  obtain ⟨vs, hv, he⟩ := inv_enter (o := ⟨some d, .call { callee := .invoke c name, args := xs.toArray, argTypes := ts }, ty, pos, aft, none⟩) rfl hi hR hf hc
  have hcall := hc.acall hX.2 θ hr htb hfr hok1 hok (vs := vs) (by rw [← hx]; exact hv)
  refine run_enter hf he (R := fun v w' => ∃ i ρ', ConcAt X (s.lend θ (tbl' i)) a w' ρ' ∧ VR w' (FF X w' (s.lend θ (tbl' i)).tb ρ') (s.lend θ (tbl' i)).tb ρ' (renA θ (out i)) v) (hcall.mono ?_) ?_
  · rintro e w' ⟨v, i, ρ', he, h1, h2⟩
    exact ⟨v, he, i, ρ', h1, h2⟩
  · rintro v w' ⟨i, ρ', h1, h2⟩
    exact (h i).out hX _ _ ⟨ρ', h1.putO (hN_ok hN hX) h2⟩⟩⟩
theorem k_invAS1 (θ : Nat → Nat) {d : Nat} {T : TypeId} {name : String} {f : FuncId} {c : Operand} {x : AV} {xs : List Operand} {ts : Array TypeId} {az : List AV} {tbl : List (Nat × Blk)} {out : AV} {tbl' : List (Nat × Blk)} (hN : Nat.blt d N = true) (hi : ifcA (s.ev c) = some (T, x)) [hm : MI P T name f none] (hf : callable P f = true)
    (hr : ACall1 P f az tbl out tbl') (hx : x :: xs.map s.ev = renAs θ az) (htb : TbOk s θ tbl) (hok1 : lendOk1 θ az tbl = true) (hfr : FreshOk s θ tbl') (hok : lendOk2 θ tbl tbl' = true) (h : Run P X N Q (.ops ops rem :: ks) ((s.lend θ tbl').put (some d) (renA θ out))) :
    RunK P X N Q ops rem ks (some d) (.call { callee := .invoke c name, args := xs.toArray, argTypes := ts }) s := k_invA θ hN hi (Recv.same hm.out) hf hr hx htb hok1 (fun _ => hfr) (fun _ => hok) (fun _ => h)
theorem k_invAD1 (θ : Nat → Nat) {d : Nat} {T e : TypeId} {name : String} {f : FuncId} {c : Operand} {p : PD} {n : Nat} {g : Bool} {xs : List Operand} {ts : Array TypeId} {az : List AV} {tbl : List (Nat × Blk)} {out : AV} {tbl' : List (Nat × Blk)} (hN : Nat.blt d N = true) (hi : s.ev c = .dat (.iface T (.ptr p))) [hm : MI P T name f (some e)] [ht : VI P e n g] (hfit : fitsD g n p = true) (hf : callable P f = true)
    (hr : ACall1 P f az tbl out tbl') (hx : .dat p :: xs.map s.ev = renAs θ az) (htb : TbOk s θ tbl) (hok1 : lendOk1 θ az tbl = true) (hfr : FreshOk s θ tbl') (hok : lendOk2 θ tbl tbl' = true) (h : Run P X N Q (.ops ops rem :: ks) ((s.lend θ tbl').put (some d) (renA θ out))) :
    RunK P X N Q ops rem ks (some d) (.call { callee := .invoke c name, args := xs.toArray, argTypes := ts }) s := k_invA θ hN (x := .dat (.ptr p)) (by rw [hi]; rfl) (Recv.loadD hm.out hfit) hf hr hx htb hok1 (fun _ => hfr) (fun _ => hok) (fun _ => h)
theorem k_invAS (θ : Nat → Nat) {d : Nat} {T : TypeId} {name : String} {f : FuncId} {c : Operand} {x : AV} {xs : List Operand} {ts : Array TypeId} {az : List AV} {tbl : List (Nat × Blk)} {ι : Type} {out : ι → AV} {tbl' : ι → List (Nat × Blk)} (hN : Nat.blt d N = true) (hi : ifcA (s.ev c) = some (T, x)) [hm : MI P T name f none] (hf : callable P f = true)
    (hr : ACall P f az tbl out tbl') (hx : x :: xs.map s.ev = renAs θ az) (htb : TbOk s θ tbl) (hok1 : lendOk1 θ az tbl = true) (hfr : ∀ i, FreshOk s θ (tbl' i)) (hok : ∀ i, lendOk2 θ tbl (tbl' i) = true) (h : ∀ i, Run P X N Q (.ops ops rem :: ks) ((s.lend θ (tbl' i)).put (some d) (renA θ (out i)))) :
    RunK P X N Q ops rem ks (some d) (.call { callee := .invoke c name, args := xs.toArray, argTypes := ts }) s := k_invA θ hN hi (Recv.same hm.out) hf hr hx htb hok1 hfr hok h
theorem op_makeFunc {o : Oper} (hd : dstOk X.N o.dst = true) {f : Nat} {xs : List Operand} (ho : o.op = .makeFunc (.func f) #[] xs.toArray) : OpS P X o s (s.put o.dst (.clo f (xs.map s.ev))) :=
  opS_value hd fun a w ρ hc => ⟨.func (.func f) #[] (xs.map a.eval).toArray, by simp [execOp, ho, Instr.makeFunc], by unfold VR; exact ⟨_, rfl, VRs_args hc rfl⟩⟩
theorem k_makeFunc {d f : Nat} {xs : List Operand} (hN : Nat.blt d N = true) (h : Run P X N Q (.ops ops rem :: ks) (s.put (some d) (.clo f (xs.map s.ev)))) : RunK P X N Q ops rem ks (some d) (.makeFunc (.func f) #[] xs.toArray) s := k_of hN (fun _ _ _ hd => op_makeFunc hd rfl) h
theorem VRs_append {F : Nat → Prop} {tb : Nat → Option Blk} : ∀ {l l' : List AV} {vs vs' : List Value}, VRs w F tb ρ l vs → VRs w F tb ρ l' vs' → VRs w F tb ρ (l ++ l') (vs ++ vs')
  | [], _, _, _, h, h' => by unfold VRs at h; subst h; simpa using h'
  | x :: r, _, _, _, h, h' => by
    unfold VRs at h
    obtain ⟨v, r', rfl, h1, h2⟩ := h
    show VRs w F tb ρ (x :: (r ++ _)) (v :: (r' ++ _))
    unfold VRs
    exact ⟨v, _, rfl, h1, VRs_append h2 h'⟩
theorem clo_enter {f : FuncId} {c : Operand} {caps : List AV} {xs : List Operand} {ts : Array TypeId} {o : Oper} (ho : o.op = .call { callee := .value c, args := xs.toArray, argTypes := ts }) (hi : s.ev c = .clo f caps) (hf : callable P f = true) (hc : ConcAt X s a w ρ) :
    ∃ vs, VRs w (FF X w s.tb ρ) s.tb ρ (xs.map s.ev ++ caps) vs ∧ (execOp a.eval o).run P w = .ok (.enter f vs.toArray) w := by
  have h1 := hc.ev c
  rw [hi] at h1
  unfold VR at h1
  obtain ⟨us, e, h2⟩ := h1
  refine ⟨xs.map a.eval ++ us, VRs_append (VRs_args hc rfl) h2, ?_⟩
  simp [execOp, ho, resolve, Deferred.ofValue, e, invoke, run_callFunc hf, Result.andThen]
theorem k_cloA (θ : Nat → Nat) {d : Nat} {f : FuncId} {c : Operand} {caps : List AV} {xs : List Operand} {ts : Array TypeId} {az : List AV} {tbl : List (Nat × Blk)} {ι : Type} {out : ι → AV} {tbl' : ι → List (Nat × Blk)} (hN : Nat.blt d N = true) (hi : s.ev c = .clo f caps) (hf : callable P f = true)
    (hr : ACall P f az tbl out tbl') (hx : xs.map s.ev ++ caps = renAs θ az) (htb : TbOk s θ tbl) (hok1 : lendOk1 θ az tbl = true) (hfr : ∀ i, FreshOk s θ (tbl' i)) (hok : ∀ i, lendOk2 θ tbl (tbl' i) = true) (h : ∀ i, Run P X N Q (.ops ops rem :: ks) ((s.lend θ (tbl' i)).put (some d) (renA θ (out i)))) :
    RunK P X N Q ops rem ks (some d) (.call { callee := .value c, args := xs.toArray, argTypes := ts }) s := ⟨fun ty pos aft => ⟨fun hX a w ⟨ρ, hc⟩ => by
  obtain ⟨vs, hv, he⟩ := clo_enter (o := ⟨some d, .call { callee := .value c, args := xs.toArray, argTypes := ts }, ty, pos, aft, none⟩) rfl hi hf hc
  have hcall := hc.acall hX.2 θ hr htb hfr hok1 hok (vs := vs) (by rw [← hx]; exact hv)
  refine run_enter hf he (R := fun v w' => ∃ i ρ', ConcAt X (s.lend θ (tbl' i)) a w' ρ' ∧ VR w' (FF X w' (s.lend θ (tbl' i)).tb ρ') (s.lend θ (tbl' i)).tb ρ' (renA θ (out i)) v) (hcall.mono ?_) ?_
  · rintro e w' ⟨v, i, ρ', he, h1, h2⟩
    exact ⟨v, he, i, ρ', h1, h2⟩
  · rintro v w' ⟨i, ρ', h1, h2⟩
    exact (h i).out hX _ _ ⟨ρ', h1.putO (hN_ok hN hX) h2⟩⟩⟩
theorem k_cloA1 (θ : Nat → Nat) {d : Nat} {f : FuncId} {c : Operand} {caps : List AV} {xs : List Operand} {ts : Array TypeId} {az : List AV} {tbl : List (Nat × Blk)} {out : AV} {tbl' : List (Nat × Blk)} (hN : Nat.blt d N = true) (hi : s.ev c = .clo f caps) (hf : callable P f = true)
    (hr : ACall1 P f az tbl out tbl') (hx : xs.map s.ev ++ caps = renAs θ az) (htb : TbOk s θ tbl) (hok1 : lendOk1 θ az tbl = true) (hfr : FreshOk s θ tbl') (hok : lendOk2 θ tbl tbl' = true) (h : Run P X N Q (.ops ops rem :: ks) ((s.lend θ tbl').put (some d) (renA θ out))) :
    RunK P X N Q ops rem ks (some d) (.call { callee := .value c, args := xs.toArray, argTypes := ts }) s := k_cloA θ hN hi hf hr hx htb hok1 (fun _ => hfr) (fun _ => hok) (fun _ => h)
def nifT (P : Program) (t : TypeId) : Bool := match P.underlying t with
  | some d => notIface d
  | none => false
/-- The zero value of a type, of one cell. -/
def zer1 (P : Program) (t : TypeId) : Option Value := match P.info? t with
  | some i => i.zero
  | none => none
theorem run_zer1 {t : TypeId} {z : Value} (h : zer1 P t = some z) (w : World) : (zeroValue t).run P w = .ok z w := by
  unfold zer1 at h
  split at h
  · rename_i i hi
    simp [zeroValue, typeInfo, hi, h, Result.andThen]
  · cases h
theorem op_taS {o : Oper} (hd : dstOk X.N o.dst = true) {x : Operand} {t T : TypeId} (ho : o.op = .typeAssert x t T true) {d : PD} (hx : s.ev x = .dat (.iface T d)) (ht : nifT P T = true) : OpS P X o s (s.put o.dst (.dat (.tup [d, .val (.bool true)]))) := by
  refine opS_value hd fun a w ρ hc => ?_
  have h1 := hc.ev x
  rw [hx] at h1
  unfold VR Rep at h1
  obtain ⟨u, e, hu⟩ := h1
  unfold nifT at ht
  split at ht
  · rename_i d' hd'
    refine ⟨.tuple #[u, .bool true], by simp [execOp, ho, e, run_ta_same hd' ht], ?_⟩
    unfold VR Rep
    refine ⟨[u, .bool true], rfl, ?_⟩
    unfold Reps
    refine ⟨u, _, rfl, hu, ?_⟩
    unfold Reps
    refine ⟨_, [], rfl, by unfold Rep; exact ⟨rfl, trivial⟩, by unfold Reps; rfl⟩
  · cases ht
theorem op_ta1 {o : Oper} (hd : dstOk X.N o.dst = true) {x : Operand} {t T : TypeId} (ho : o.op = .typeAssert x t T false) {d : PD} (hx : s.ev x = .dat (.iface T d)) (ht : nifT P T = true) : OpS P X o s (s.put o.dst (.dat d)) := by
  refine opS_value hd fun a w ρ hc => ?_
  have h1 := hc.ev x
  rw [hx] at h1
  unfold VR Rep at h1
  obtain ⟨u, e, hu⟩ := h1
  unfold nifT at ht
  split at ht
  · rename_i d' hd'
    exact ⟨u, by simp [execOp, ho, e, run_ta_same' hd' ht], by unfold VR; exact hu⟩
  · cases ht
theorem rep_zf {F : Nat → Prop} {z : Value} (hz : okB z = true) : Rep w F (.tup [.val z, .val (.bool false)]) (.tuple #[z, .bool false]) := by
  unfold Rep
  refine ⟨[z, .bool false], rfl, ?_⟩
  unfold Reps
  refine ⟨z, _, rfl, by unfold Rep; exact ⟨rfl, okB_ok hz⟩, ?_⟩
  unfold Reps
  refine ⟨_, [], rfl, by unfold Rep; exact ⟨rfl, trivial⟩, by unfold Reps; rfl⟩
theorem k_taS {d : Nat} {x : Operand} {t T : Nat} {p : PD} (hN : Nat.blt d N = true) (hx : s.ev x = .dat (.iface T p)) (ht : nifT P T = true) (h : Run P X N Q (.ops ops rem :: ks) (s.put (some d) (.dat (.tup [p, .val (.bool true)])))) : RunK P X N Q ops rem ks (some d) (.typeAssert x t T true) s := k_of hN (fun _ _ _ hd => op_taS hd rfl hx ht) h
theorem k_ta1 {d : Nat} {x : Operand} {t T : Nat} {p : PD} (hN : Nat.blt d N = true) (hx : s.ev x = .dat (.iface T p)) (ht : nifT P T = true) (h : Run P X N Q (.ops ops rem :: ks) (s.put (some d) (.dat p))) : RunK P X N Q ops rem ks (some d) (.typeAssert x t T false) s := k_of hN (fun _ _ _ hd => op_ta1 hd rfl hx ht) h
/-- A function that makes memory at most, whatever its arguments are. -/
def Idle (P : Program) (f : FuncId) (n : Nat) : Prop := callable P f = true ∧ ∀ (vs : List Value) (u : FrameMode) (w : World), vs.length = n → CallsD P f vs.toArray u w fun e u' w' => u' = u ∧ (∃ v, e = .returned v) ∧ Below w.heap.size w w'
theorem ConcAt.defer (h : ConcAt X s a w ρ) {d : Deferred} (hd : Harmless X.P d) : ConcAt X s { a with defers := d :: a.defers } w ρ :=
  ⟨h.size, fun d' hd' => (List.mem_cons.1 hd').elim (fun e => e ▸ hd) (h.defers d'), h.below, h.tmps, h.blks, h.apart, h.lent⟩
theorem d_deferA {ops : List Oper} {T : TypeId} {name : String} {f : FuncId} {c : Operand} {x : AV} {xs : List Operand} {ts : Array TypeId} (hi : ifcA (s.ev c) = some (T, x)) [hm : MI P T name f none] (hf : Idle P f (xs.length + 1)) :
    TrK P X N ops none (.defer { callee := .invoke c name, args := xs.toArray, argTypes := ts }) ⟨none, none, none⟩ s s := ⟨fun hX ty pos aft g s' hA => by
  intro a w ⟨ρ, hc⟩ K Q hK
  have hev : s'.ev c = s.ev c := ev_alike hA (by simp [Op.operands, Call.operands])
  obtain ⟨v, e, hv⟩ := ifcA_spec (by rw [hev]; exact hi) (hc.ev c)
  have hrun : (execOp a.eval ⟨none, .defer { callee := .invoke c name, args := xs.toArray, argTypes := ts }, ty, pos, aft, g⟩).run P w = .ok (.defer { target := .fn (.method name) #[], args := #[.iface T v] ++ (xs.map a.eval).toArray }) w := by
    simp [execOp, resolve, e, Result.andThen]
  unfold Oper.wp
  rw [hrun, Oper.upon_defer]
  refine hK _ _ ⟨ρ, (hc.defer ?_).put_none .any undef⟩
  rw [hX.2]
  refine ⟨.method name, #[], f, (v :: xs.map a.eval).toArray, rfl, fun w' => ?_, fun u w' => ?_⟩
  · simp [invoke, callMethod, run_method_same hm.out (show 0 < P.types.size + Made.depth by unfold Made.depth; omega), run_callFunc hf.1, Result.andThen, List.take_of_length_le]
  · exact hf.2 _ u w' (by simp), rfl⟩
theorem k_deferA {T : TypeId} {name : String} {f : FuncId} {c : Operand} {x : AV} {xs : List Operand} {ts : Array TypeId} (hi : ifcA (s.ev c) = some (T, x)) [hm : MI P T name f none] (hf : Idle P f (xs.length + 1)) (h : Run P X N Q (.ops ops rem :: ks) s) :
    RunK P X N Q ops rem ks none (.defer { callee := .invoke c name, args := xs.toArray, argTypes := ts }) s := ⟨fun ty pos aft => ⟨fun hX a w ⟨ρ, hc⟩ => by
  obtain ⟨v, e, hv⟩ := ifcA_spec hi (hc.ev c)
  have hrun : (execOp a.eval ⟨none, .defer { callee := .invoke c name, args := xs.toArray, argTypes := ts }, ty, pos, aft, none⟩).run P w = .ok (.defer { target := .fn (.method name) #[], args := #[.iface T v] ++ (xs.map a.eval).toArray }) w := by
    simp [execOp, resolve, e, Result.andThen]
  unfold Oper.wp
  rw [hrun, Oper.upon_defer]
  refine h.out hX _ _ ⟨ρ, (hc.defer ?_).put_none .any undef⟩
  rw [hX.2]
  refine ⟨.method name, #[], f, (v :: xs.map a.eval).toArray, rfl, fun w' => ?_, fun u w' => ?_⟩
  · simp [invoke, callMethod, run_method_same hm.out (show 0 < P.types.size + Made.depth by unfold Made.depth; omega), run_callFunc hf.1, Result.andThen, List.take_of_length_le]
  · exact hf.2 _ u w' (by simp)⟩⟩
theorem d_acallB (θ : Nat → Nat) {ops : List Oper} {d f k : Nat} {xs : List Operand} {ts : Array TypeId} {az : List AV} {b b' : Blk} {out : AV} (hN : Nat.blt d N = true) (hf : callable P f = true) (hr : ACall1 P f az [(1000, b)] out [(1000, b')]) (hx : xs.map s.ev = renAs θ az) (hk : θ 1000 = k)
    (htb : s.tb k = some (renB θ b)) (hok1 : lendOk1 θ az [(1000, b)] = true) (hok : lendOk2 θ [(1000, b)] [(1000, b')] = true) :
    TrK P X N ops (some d) (.call { callee := .value (.func f), args := xs.toArray, argTypes := ts }) ⟨none, some (k, renB θ b'), some (d, renA θ out)⟩ s ((s.set k (renB θ b')).put (some d) (renA θ out)) := ⟨fun hX ty pos aft g s' hA => by
  have hev : xs.map s'.ev = renAs θ az := by rw [map_alike (fun x hx => ev_alike hA (by simp [Op.operands, Call.operands, hx]))]; exact hx
  have htb' : s'.tb k = some (renB θ b) := (new_alike hA rfl).trans htb
  intro a w ⟨ρ, hc⟩ K Q hK
  have hcall := hc.acall hX.2 θ hr (by refine ⟨?_, trivial⟩; rw [hk]; exact htb') (fun _ => ⟨.inl rfl, trivial⟩) hok1 (fun _ => hok) (vs := xs.map a.eval) (by rw [← hev]; exact VRs_args hc rfl)
  refine run_enter hf (vs := xs.map a.eval) (by simp [execOp, resolve, Deferred.ofValue, Act.eval, invoke, run_callFunc hf]) (R := fun v w' => ∃ ρ', ConcAt X (s'.lend θ [(1000, b')]) a w' ρ' ∧ VR w' (FF X w' (s'.lend θ [(1000, b')]).tb ρ') (s'.lend θ [(1000, b')]).tb ρ' (renA θ out) v) (hcall.mono ?_) ?_
  · rintro e w' ⟨v, i, ρ', he, h1, h2⟩
    exact ⟨v, he, ρ', h1, h2⟩
  · rintro v w' ⟨ρ', h1, h2⟩
    refine hK _ _ ?_
    have := h1.putO (d := some d) (hN_ok hN hX) h2
    refine ⟨ρ', ?_⟩
    have e : ((s'.lend θ [(1000, b')]).put (some d) (renA θ out)) = (Eff.mk none (some (k, renB θ b')) (some (d, renA θ out))).app s' := by
      subst hk; rfl
    rw [← e]; exact this, rfl⟩
theorem op_ifaceA {o : Oper} (hd : dstOk X.N o.dst = true) {t : TypeId} {x : Operand} (ho : o.op = .makeInterface t x) {y : AV} (hx : s.ev x = y) (ht : concT P t = true) : OpS P X o s (s.put o.dst (.iface t y)) := by
  refine opS_value hd fun a w ρ hc => ⟨.iface t (a.eval x), ?_, ?_⟩
  · unfold concT at ht
    split at ht
    · cases ht
    · rename_i d2 hne hu
      cases d2 <;> first | (simp [execOp, ho, Instr.makeInterface, run_underlying hu]; done) | exact (hne _ rfl).elim
    · cases ht
  · have h1 := hc.ev x
    rw [hx] at h1
    unfold VR
    exact ⟨_, rfl, h1⟩
theorem k_ifaceP {d : Nat} {x : Operand} {t k off : Nat} (hN : Nat.blt d N = true) (hx : s.ev x = .ptr k off) (ht : concT P t = true) (h : Run P X N Q (.ops ops rem :: ks) (s.put (some d) (.iface t (.ptr k off)))) : RunK P X N Q ops rem ks (some d) (.makeInterface t x) s := k_of hN (fun _ _ _ hd => op_ifaceA hd rfl hx ht) h
theorem d_ifaceP {ops : List Oper} {d : Nat} {x : Operand} {t k off : Nat} (hN : Nat.blt d N = true) (hx : s.ev x = .ptr k off) (ht : concT P t = true) : TrK P X N ops (some d) (.makeInterface t x) (Eff.put (some d) (.iface t (.ptr k off))) s (s.put (some d) (.iface t (.ptr k off))) := act_val hN fun s' _ _ _ _ hd hev htb => op_ifaceA hd rfl ((hev _ (by simp [Op.operands])).trans hx) ht
theorem op_nilI {o : Oper} (hd : dstOk X.N o.dst = true) {x : Operand} (ho : o.op = .nilCheck x) {t : TypeId} {y : PD} (hx : s.ev x = .dat (.iface t y)) : OpS P X o s (s.put o.dst (.dat (.iface t y))) := by
  refine opS_value hd fun a w ρ hc => ?_
  have h1 := hc.ev x
  rw [hx] at h1
  unfold VR Rep at h1
  obtain ⟨u, e, hu⟩ := h1
  exact ⟨.iface t u, by simp [execOp, ho, e], by unfold VR Rep; exact ⟨u, rfl, hu⟩⟩
theorem k_nilI {d : Nat} {x : Operand} {t : TypeId} {y : PD} (hN : Nat.blt d N = true) (hx : s.ev x = .dat (.iface t y)) (h : Run P X N Q (.ops ops rem :: ks) (s.put (some d) (.dat (.iface t y)))) : RunK P X N Q ops rem ks (some d) (.nilCheck x) s := k_of hN (fun _ _ _ hd => op_nilI hd rfl hx) h
theorem d_nilI {ops : List Oper} {d : Nat} {x : Operand} {t : TypeId} {y : PD} (hN : Nat.blt d N = true) (hx : s.ev x = .dat (.iface t y)) : TrK P X N ops (some d) (.nilCheck x) (Eff.put (some d) (.dat (.iface t y))) s (s.put (some d) (.dat (.iface t y))) := act_val hN fun s' _ _ _ _ hd hev htb => op_nilI hd rfl ((hev _ (by simp [Op.operands])).trans hx)
theorem k_assignI {d : Nat} {x : Operand} {t : TypeId} {y : AV} (hN : Nat.blt d N = true) (hx : s.ev x = .iface t y) (h : Run P X N Q (.ops ops rem :: ks) (s.put (some d) (.iface t y))) : RunK P X N Q ops rem ks (some d) (.assign x) s := k_of hN (fun _ _ _ hd => op_assign hd rfl hx) h
theorem d_assignI {ops : List Oper} {d : Nat} {x : Operand} {t : TypeId} {y : AV} (hN : Nat.blt d N = true) (hx : s.ev x = .iface t y) : TrK P X N ops (some d) (.assign x) (Eff.put (some d) (.iface t y)) s (s.put (some d) (.iface t y)) := act_val hN fun s' _ _ _ _ hd hev htb => op_assign hd rfl ((hev _ (by simp [Op.operands])).trans hx)
theorem k_moveI {d : Nat} {x : Operand} {t : TypeId} {y : AV} (hN : Nat.blt d N = true) (hx : s.ev x = .iface t y) (h : Run P X N Q (.ops ops rem :: ks) (s.put (some d) (.iface t y))) : RunK P X N Q ops rem ks (some d) (.move x) s := k_of hN (fun _ _ _ hd => op_move hd rfl hx) h
theorem d_moveI {ops : List Oper} {d : Nat} {x : Operand} {t : TypeId} {y : AV} (hN : Nat.blt d N = true) (hx : s.ev x = .iface t y) : TrK P X N ops (some d) (.move x) (Eff.put (some d) (.iface t y)) s (s.put (some d) (.iface t y)) := act_val hN fun s' _ _ _ _ hd hev htb => op_move hd rfl ((hev _ (by simp [Op.operands])).trans hx)
theorem k_moveC {d : Nat} {x : Operand} {f : Nat} {l : List AV} (hN : Nat.blt d N = true) (hx : s.ev x = .clo f l) (h : Run P X N Q (.ops ops rem :: ks) (s.put (some d) (.clo f l))) : RunK P X N Q ops rem ks (some d) (.move x) s := k_of hN (fun _ _ _ hd => op_move hd rfl hx) h
theorem k_loadBC {d : Nat} {x : Operand} {t k off T n : Nat} {cs : List AV} {g : Bool} {f : Nat} {l : List AV} (hN : Nat.blt d N = true) (hx : s.ev x = .ptr k off) (hk : s.tb k = some (.box T cs)) [ht : VI P t n g] (hf : subA g n off cs = some (.clo f l)) (h : Run P X N Q (.ops ops rem :: ks) (s.put (some d) (.clo f l))) : RunK P X N Q ops rem ks (some d) (.load t x) s := k_of hN (fun _ _ _ hd => op_loadB hd rfl hx hk ht.out hf) h
/-- Items of a made-up tuple with own parts. -/
theorem op_extractA {o : Oper} (hd : dstOk X.N o.dst = true) {x : Operand} {i : Nat} (ho : o.op = .extract x i) {l : List AV} (hx : s.ev x = .tup l) {y : AV} (hl : l[i]? = some y) : OpS P X o s (s.put o.dst y) := by
  refine opS_value hd fun a w ρ hc => ?_
  have h1 := hc.ev x
  rw [hx] at h1
  unfold VR at h1
  obtain ⟨vs, e, h2⟩ := h1
  obtain ⟨u, hu, hv⟩ := h2.at_ hl
  exact ⟨u, by simp [execOp, ho, e, Instr.extract, hu], hv⟩
theorem k_extractI {d : Nat} {x : Operand} {i : Nat} {l : List AV} {t : TypeId} {y : AV} (hN : Nat.blt d N = true) (hx : s.ev x = .tup l) (hl : l[i]? = some (.iface t y)) (h : Run P X N Q (.ops ops rem :: ks) (s.put (some d) (.iface t y))) : RunK P X N Q ops rem ks (some d) (.extract x i) s := k_of hN (fun _ _ _ hd => op_extractA hd rfl hx hl) h
theorem k_extractD {d : Nat} {x : Operand} {i : Nat} {l : List AV} {y : PD} (hN : Nat.blt d N = true) (hx : s.ev x = .tup l) (hl : l[i]? = some (.dat y)) (h : Run P X N Q (.ops ops rem :: ks) (s.put (some d) (.dat y))) : RunK P X N Q ops rem ks (some d) (.extract x i) s := k_of hN (fun _ _ _ hd => op_extractA hd rfl hx hl) h
theorem k_moveT {d : Nat} {x : Operand} {l : List AV} (hN : Nat.blt d N = true) (hx : s.ev x = .tup l) (h : Run P X N Q (.ops ops rem :: ks) (s.put (some d) (.tup l))) : RunK P X N Q ops rem ks (some d) (.move x) s := k_of hN (fun _ _ _ hd => op_move hd rfl hx) h
/-- Floating-point numbers. -/
def fltC (k : FloatKind) : BinOp → Nat → Nat → Option Bool
  | .eql, a, b => some (k.format.order a b == some .eq)
  | .neq, a, b => some (k.format.order a b != some .eq)
  | .lss, a, b => some (k.format.order a b == some .lt)
  | .leq, a, b => some (k.format.order a b == some .lt || k.format.order a b == some .eq)
  | .gtr, a, b => some (k.format.order a b == some .gt)
  | .geq, a, b => some (k.format.order a b == some .gt || k.format.order a b == some .eq)
  | _, _, _ => none
theorem run_fltC {op : BinOp} {k : FloatKind} {a b : Nat} {r : Bool} (h : fltC k op a b = some r) (t : TypeId) (x y : Operand) (w : World) : (do eqGuard op t x y (.float k a) (.float k b); binOp op t (.float k a) (.float k b) : Sem Value).run P w = .ok (.bool r) w := by
  unfold fltC at h
  split at h <;> first | cases h | skip
  all_goals simp [eqGuard, binOp, Op.floatCmp, go_sem]
theorem op_fltC {o : Oper} (hd : dstOk X.N o.dst = true) {op : BinOp} {t t' : TypeId} {x y : Operand} (ho : o.op = .binOp op t x y t') {k : FloatKind} {a b : Nat} {r : Bool} (hx : s.ev x = .dat (.val (.float k a))) (hy : s.ev y = .dat (.val (.float k b))) (hr : fltC k op a b = some r) : OpS P X o s (s.put o.dst (.dat (.val (.bool r)))) :=
  op_bin hd ho hx hy (run_fltC hr t x y) trivial
theorem k_fltC {d : Nat} {x y : Operand} {op : BinOp} {t t' : Nat} {k : FloatKind} {a b : Nat} {r : Bool} (hN : Nat.blt d N = true) (hx : s.ev x = .dat (.val (.float k a))) (hy : s.ev y = .dat (.val (.float k b))) (hr : fltC k op a b = some r) (h : Run P X N Q (.ops ops rem :: ks) (s.put (some d) (.dat (.val (.bool r))))) : RunK P X N Q ops rem ks (some d) (.binOp op t x y t') s := k_of hN (fun _ _ _ hd => op_fltC hd rfl hx hy hr) h
theorem d_fltC {ops : List Oper} {d : Nat} {x y : Operand} {op : BinOp} {t t' : Nat} {k : FloatKind} {a b : Nat} {r : Bool} (hN : Nat.blt d N = true) (hx : s.ev x = .dat (.val (.float k a))) (hy : s.ev y = .dat (.val (.float k b))) (hr : fltC k op a b = some r) : TrK P X N ops (some d) (.binOp op t x y t') (Eff.put (some d) (.dat (.val (.bool r)))) s (s.put (some d) (.dat (.val (.bool r)))) := act_val hN fun s' _ _ _ _ hd hev htb => op_fltC hd rfl ((hev _ (by simp [Op.operands])).trans hx) ((hev _ (by simp [Op.operands])).trans hy) hr
def fltT (P : Program) (t : TypeId) : Option FloatKind := match P.underlying t with
  | some (.float k) => some k
  | _ => none
theorem op_convF {o : Oper} (hd : dstOk X.N o.dst = true) {t t' : TypeId} {x : Operand} (ho : o.op = .convert t t' x) {k : IntKind} {q : FloatKind} {a : Int} (hx : s.ev x = .dat (.val (.int k a))) (ht0 : intT P t = some k) (ht : fltT P t' = some q) : OpS P X o s (s.put o.dst (.dat (.val (.float q (floatOfInt q a))))) := by
  refine opS_value hd fun a' w ρ hc => ⟨.float q (floatOfInt q a), ?_, by unfold VR Rep; exact ⟨rfl, floatOfInt_wf q a⟩⟩
  have h1 := hc.ev x
  rw [hx] at h1
  unfold VR Rep at h1
  unfold fltT at ht
  split at ht
  · rename_i q' hu
    cases ht
    unfold intT at ht0
    split at ht0
    · rename_i k' hu0
      simp [execOp, ho, h1.1, convert, run_underlying hu, run_underlying hu0, Conv.intToFloat]
      rfl
    · cases ht0
  · cases ht
theorem k_convF {d : Nat} {x : Operand} {t t' : Nat} {k : IntKind} {q : FloatKind} {a : Int} (hN : Nat.blt d N = true) (hx : s.ev x = .dat (.val (.int k a))) (ht0 : intT P t = some k) (ht : fltT P t' = some q) (h : Run P X N Q (.ops ops rem :: ks) (s.put (some d) (.dat (.val (.float q (floatOfInt q a)))))) : RunK P X N Q ops rem ks (some d) (.convert t t' x) s := k_of hN (fun _ _ _ hd => op_convF hd rfl hx ht0 ht) h
end
end Go.Proofs.Ytbbacpdbbmjblaa
end
section
namespace Go.Proofs.Ytbbacpdbbmjblaa
open Go
instance : VI Try.prog 2 1 false := ⟨by kernel_rfl⟩
instance : VI Try.prog 3 1 false := ⟨by kernel_rfl⟩
instance : VI Try.prog 9 1 false := ⟨by kernel_rfl⟩
instance : VI Try.prog 20 1 false := ⟨by kernel_rfl⟩
instance : VI Try.prog 33 1 false := ⟨by kernel_rfl⟩
instance : VI Try.prog 41 1 false := ⟨by kernel_rfl⟩
instance : VI Try.prog 43 6 true := ⟨by kernel_rfl⟩
instance : VI Try.prog 104 1 false := ⟨by kernel_rfl⟩
instance : VI Try.prog 139 1 false := ⟨by kernel_rfl⟩
instance : VI Try.prog 159 1 false := ⟨by kernel_rfl⟩
instance : VI Try.prog 173 1 true := ⟨by kernel_rfl⟩
instance : VI Try.prog 191 1 false := ⟨by kernel_rfl⟩
instance : VI Try.prog 237 1 false := ⟨by kernel_rfl⟩
instance : VI Try.prog 238 1 false := ⟨by kernel_rfl⟩
instance : SI Try.prog 33 43 6 88 := ⟨by kernel_rfl⟩
instance : SI Try.prog 41 9 1 16 := ⟨by kernel_rfl⟩
instance : SI Try.prog 237 20 1 16 := ⟨by kernel_rfl⟩
instance : ZI Try.prog 3 [.int .i64 0] := ⟨by kernel_rfl, by kernel_rfl⟩
instance : ZI Try.prog 41 [.slice none 0 0] := ⟨by kernel_rfl, by kernel_rfl⟩
instance : ZI Try.prog 43 [.int .i64 0, .int .i64 0, .float .f64 0, .string ⟨#[]⟩, .slice none 0 0, .slice none 0 0] := ⟨by kernel_rfl, by kernel_rfl⟩
instance : ZI Try.prog 139 [.pointer none] := ⟨by kernel_rfl, by kernel_rfl⟩
instance : ZI Try.prog 173 [.nilIface] := ⟨by kernel_rfl, by kernel_rfl⟩
instance : ZI Try.prog 255 [.slice none 0 0, .pointer none, .int .i64 0] := ⟨by kernel_rfl, by kernel_rfl⟩
instance : PLI Try.prog 43 [(0, 1), (1, 1), (2, 1), (3, 1), (4, 1), (5, 1)] := ⟨by kernel_rfl⟩
instance : FI Try.prog 43 0 0 1 false := ⟨by kernel_rfl⟩
instance : FI Try.prog 43 1 1 1 false := ⟨by kernel_rfl⟩
instance : FI Try.prog 43 3 3 1 false := ⟨by kernel_rfl⟩
instance : FI Try.prog 43 4 4 1 false := ⟨by kernel_rfl⟩
instance : FI Try.prog 43 5 5 1 false := ⟨by kernel_rfl⟩
instance : PLI Try.prog 173 [(0, 1)] := ⟨by kernel_rfl⟩
instance : FI Try.prog 173 0 0 1 false := ⟨by kernel_rfl⟩
instance : PLI Try.prog 255 [(0, 1), (1, 1), (2, 1)] := ⟨by kernel_rfl⟩
instance : FI Try.prog 255 0 0 1 false := ⟨by kernel_rfl⟩
instance : FI Try.prog 255 1 1 1 false := ⟨by kernel_rfl⟩
instance : FI Try.prog 255 2 2 1 false := ⟨by kernel_rfl⟩
end Go.Proofs.Ytbbacpdbbmjblaa
end
section
namespace Go.Proofs.Ytbbacpdbbmjblaa
open Go.RowKit
theorem block_of_add (a : Addr) (n : Nat) : (a.add n).block = a.block := by unfold Addr.add; split <;> rfl
theorem add_of_add (a : Addr) (i j : Nat) : (a.add i).add j = a.add (i + j) := by
  unfold Addr.add
  by_cases hi : i = 0 <;> by_cases hj : j = 0 <;> simp [hi, hj, Nat.add_assoc]
def Reads (w : World) (B size : Nat) (A : Option Addr) (n : Nat) (xs : List Value) : Prop :=
  xs.length = n * size ∧ (0 < n → ∃ ad, A = some ad ∧ ad.block < B ∧ ∀ j u, xs[j]? = some u → w.cell? (ad.add j) = some u)
section
variable {w w' : World} {B B' size n : Nat} {A : Option Addr} {xs : List Value}
theorem Reads.keep (h : Reads w B size A n xs) (hk : ∀ p : Addr, p.block < B → w'.cell? p = w.cell? p) : Reads w' B size A n xs :=
  ⟨h.1, fun hn => by
    obtain ⟨ad, e, hb, hc⟩ := h.2 hn
    exact ⟨ad, e, hb, fun j u hu => (hk _ (by rw [block_of_add]; exact hb)).trans (hc j u hu)⟩⟩
theorem Reads.more (h : Reads w B size A n xs) (hB : B ≤ B') : Reads w B' size A n xs :=
  ⟨h.1, fun hn => by
    obtain ⟨ad, e, hb, hc⟩ := h.2 hn
    exact ⟨ad, e, by omega, hc⟩⟩
theorem Reads.below (h : Reads w B size A n xs) (hb : Below B w w') : Reads w' B size A n xs := h.keep fun _ hp => hb.cell hp
theorem Reads.drew (h : Reads w B size A n xs) : Reads w.drew B size A n xs := h
theorem Reads.cut (h : Reads w B size A n xs) {k cap : Nat} (hk : k ≤ n) (hc : n ≤ cap) :
    Reads w B size (if cap = k then A else A.map (·.add (k * size))) (n - k) (xs.drop (k * size)) := by
  refine ⟨by rw [List.length_drop, h.1, Nat.sub_mul], fun hn => ?_⟩
  obtain ⟨ad, rfl, hb, hcell⟩ := h.2 (by omega)
  rw [if_neg (by omega)]
  refine ⟨ad.add (k * size), rfl, by rw [block_of_add]; exact hb, fun j u hu => ?_⟩
  rw [add_of_add]
  exact hcell _ u (by rw [← hu, List.getElem?_drop])
end
section
variable {P : Program} (w : World)
theorem run_append_of_nil (base : Nat) (t ty e : TypeId) (i : TypeInfo) (size : Nat) (ht : P.underlying t = some (.slice e)) (hi : P.info? e = some i)
    (v : Value) (n : Nat) (xs : List Value) (hown : w.ownsRow base e size v n xs) (c : Nat) : (Builtin.append_ #[t, t] ty #[v, .slice none 0 c]).run P w = .ok v w := by
  rcases hown.2 with ⟨rfl, rfl⟩ | ⟨g, cap, cur, rfl, _, _, hnc, _⟩
  · simp [Builtin.append_, run_underlying ht, sizeOf, typeInfo, hi, Builtin.lenOf, Builtin.firstCells]
  · simp [Builtin.append_, run_underlying ht, sizeOf, typeInfo, hi, Builtin.lenOf, Builtin.firstCells, hnc, storeCells]
theorem run_append_any (base : Nat) (t ty e : TypeId) (i : TypeInfo) (z : Value) (size bytes : Nat) (ht : P.underlying t = some (.slice e)) (hi : P.info? e = some i) (hz : i.zero = some z)
    (hsize : i.size = size) (hby : i.bytes = bytes) (hzs : z.cells.size = size) (hsz : 0 < size)
    (v : Value) (n : Nat) (xs : List Value) (hown : w.ownsRow base e size v n xs)
    (B : Nat) (A : Option Addr) (m c : Nat) (news : List Value) (hr : Reads w B size A m news) (h1 : ∀ u ∈ news, u.oneCell' = true)
    (h63 : n + m ≤ maxLen) (hbytes : (n + m) * bytes ≤ 140737488355328) (hbase : base ≤ w.heap.size) :
    ∃ v' w', (Builtin.append_ #[t, t] ty #[v, .slice A m c]).run P w = .ok v' w' ∧ w'.ownsRow base e size v' (n + m) (xs ++ news) ∧ w.grownBy w' v.ownBlock ∧
      (v'.ownBlock = v.ownBlock ∨ v'.ownBlock = some w.heap.size) := by
  rcases A with _ | ad
  · have hm : m = 0 := by
      rcases Nat.eq_zero_or_pos m with h0 | h0
      · exact h0
      · obtain ⟨ad, h, _⟩ := hr.2 h0
        cases h
    subst hm
    have hn : news = [] := List.eq_nil_of_length_eq_zero (by simpa using hr.1)
    subst hn
    exact ⟨v, w, run_append_of_nil w base t ty e i size ht hi v n xs hown c, by simpa using hown, World.grownBy.refl w _, .inl rfl⟩
  · have hcells : ∀ j u, news[j]? = some u → w.cell? (ad.add j) = some u := by
      intro j u hu
      rcases Nat.eq_zero_or_pos m with h0 | h0
      · subst h0
        have hn : news = [] := List.eq_nil_of_length_eq_zero (by simpa using hr.1)
        subst hn
        simp at hu
      · obtain ⟨ad', h, _, hc⟩ := hr.2 h0
        injection h with h
        subst h
        exact hc j u hu
    obtain ⟨v', w', hrun, h2, h3, _, h5⟩ := run_append_own_at (P := P) w base t ty e i z size bytes ht hi hz hsize hby hzs hsz v n xs hown ad m c news hr.1 hcells h1 h63 hbytes hbase
    exact ⟨v', w', hrun, h2, h3, h5⟩
theorem wp_append_any {o : Oper} {a : Act} {K : Act → World → Prop} {Q : Exit → Act → World → Prop} (s x : Operand) (t : TypeId)
    (ho : o.op = .call { callee := .builtin .append, args := #[s, x], argTypes := #[t, t] })
    (base : Nat) (e : TypeId) (i : TypeInfo) (z : Value) (size bytes : Nat) (ht : P.underlying t = some (.slice e)) (hi : P.info? e = some i) (hz : i.zero = some z)
    (hsize : i.size = size) (hby : i.bytes = bytes) (hzs : z.cells.size = size) (hsz : 0 < size)
    (v : Value) (n : Nat) (xs : List Value) (hs : a.eval s = v) (hown : w.ownsRow base e size v n xs)
    (B : Nat) (A : Option Addr) (m c : Nat) (news : List Value) (hx : a.eval x = .slice A m c) (hr : Reads w B size A m news) (h1 : ∀ u ∈ news, u.oneCell' = true)
    (h63 : n + m ≤ maxLen) (hbytes : (n + m) * bytes ≤ 140737488355328) (hbase : base ≤ w.heap.size)
    (h : ∀ v' w', w'.ownsRow base e size v' (n + m) (xs ++ news) → w.grownBy w' v.ownBlock → (v'.ownBlock = v.ownBlock ∨ v'.ownBlock = some w.heap.size) → K (a.put o.dst v') w') : o.wp P a w K Q := by
  obtain ⟨v', w', hrun, h2, h3, h4⟩ := run_append_any (P := P) w base t o.type e i z size bytes ht hi hz hsize hby hzs hsz v n xs hown B A m c news hr h1 h63 hbytes hbase
  unfold Oper.wp execOp
  simp only [ho, resolve, invoke, builtin, Sem.run_bind, Sem.run_pure, Result.andThen_ok, List.map_toArray, List.map_cons, List.map_nil, hs, hx, hrun]
  exact h v' w' h2 h3 h4
theorem wpList_append_any {ops : Array Oper} {rest : List Oper} {o : Oper} {a : Act} {Q : Exit → Act → World → Prop} (hgd : o.guard = none) (s x : Operand) (t : TypeId)
    (ho : o.op = .call { callee := .builtin .append, args := #[s, x], argTypes := #[t, t] })
    (base : Nat) (e : TypeId) (i : TypeInfo) (z : Value) (size bytes : Nat) (ht : P.underlying t = some (.slice e)) (hi : P.info? e = some i) (hz : i.zero = some z)
    (hsize : i.size = size) (hby : i.bytes = bytes) (hzs : z.cells.size = size) (hsz : 0 < size)
    (v : Value) (n : Nat) (xs : List Value) (hs : a.eval s = v) (hown : w.ownsRow base e size v n xs)
    (B : Nat) (A : Option Addr) (m c : Nat) (news : List Value) (hx : a.eval x = .slice A m c) (hr : Reads w B size A m news) (h1 : ∀ u ∈ news, u.oneCell' = true)
    (h63 : n + m ≤ maxLen) (hbytes : (n + m) * bytes ≤ 140737488355328) (hbase : base ≤ w.heap.size)
    (h : ∀ v' w', w'.ownsRow base e size v' (n + m) (xs ++ news) → w.grownBy w' v.ownBlock → (v'.ownBlock = v.ownBlock ∨ v'.ownBlock = some w.heap.size) → wpList P ops Q rest (a.put o.dst v') w') : wpList P ops Q (o :: rest) a w :=
  wpList_plain hgd fun _ hK => wp_append_any w s x t ho base e i z size bytes ht hi hz hsize hby hzs hsz v n xs hs hown B A m c news hx hr h1 h63 hbytes hbase fun v' w' h2 h3 h4 => hK _ _ (h v' w' h2 h3 h4)
theorem step_append_any {ops : Array Oper} {o : Oper} {a : Act} {K : Act → World → Prop} {Q : Exit → Act → World → Prop} {E : Prop} (hgd : o.guard = none) (s x : Operand) (t : TypeId)
    (ho : o.op = .call { callee := .builtin .append, args := #[s, x], argTypes := #[t, t] })
    (base : Nat) (e : TypeId) (i : TypeInfo) (z : Value) (size bytes : Nat) (ht : P.underlying t = some (.slice e)) (hi : P.info? e = some i) (hz : i.zero = some z)
    (hsize : i.size = size) (hby : i.bytes = bytes) (hzs : z.cells.size = size) (hsz : 0 < size)
    (v : Value) (n : Nat) (xs : List Value) (hs : a.eval s = v) (hown : w.ownsRow base e size v n xs)
    (B : Nat) (A : Option Addr) (m c : Nat) (news : List Value) (hx : a.eval x = .slice A m c) (hr : Reads w B size A m news) (h1 : ∀ u ∈ news, u.oneCell' = true)
    (h63 : n + m ≤ maxLen) (hbytes : (n + m) * bytes ≤ 140737488355328) (hbase : base ≤ w.heap.size)
    (h : ∀ v' w', w'.ownsRow base e size v' (n + m) (xs ++ news) → w.grownBy w' v.ownBlock → (v'.ownBlock = v.ownBlock ∨ v'.ownBlock = some w.heap.size) → K (a.put o.dst v') w') :
    if Region.wanted o (yielded ops a.tmps) = true then Oper.wp P o a w K Q else E := by
  have hw : Region.wanted o (yielded ops a.tmps) = true := by simp [Region.wanted, hgd]
  rw [if_pos hw]
  exact wp_append_any w s x t ho base e i z size bytes ht hi hz hsize hby hzs hsz v n xs hs hown B A m c news hx hr h1 h63 hbytes hbase h
end
/-- The value of an owned row is a slice. -/
theorem own_slice {w : World} {base : Nat} {e : TypeId} {size : Nat} {v : Value} {n : Nat} {xs : List Value} (h : w.ownsRow base e size v n xs) : ∃ A c, v = .slice A n c := by
  rcases h.2 with ⟨rfl, rfl⟩ | ⟨g, cap, cur, rfl, _⟩
  · exact ⟨none, 0, rfl⟩
  · exact ⟨_, _, rfl⟩
section
variable {P : Program} (w : World)
theorem step_append_s {ops : Array Oper} {o : Oper} {a : Act} {K : Act → World → Prop} {Q : Exit → Act → World → Prop} {E : Prop} (hgd : o.guard = none) (s x : Operand) (t : TypeId)
    (ho : o.op = .call { callee := .builtin .append, args := #[s, x], argTypes := #[t, t] })
    (base : Nat) (e : TypeId) (i : TypeInfo) (z : Value) (size bytes : Nat) (ht : P.underlying t = some (.slice e)) (hi : P.info? e = some i) (hz : i.zero = some z)
    (hsize : i.size = size) (hby : i.bytes = bytes) (hzs : z.cells.size = size) (hsz : 0 < size)
    (v : Value) (n : Nat) (xs : List Value) (hs : a.eval s = v) (hown : w.ownsRow base e size v n xs)
    (B : Nat) (A : Option Addr) (m c : Nat) (news : List Value) (hx : a.eval x = .slice A m c) (hr : Reads w B size A m news) (h1 : ∀ u ∈ news, u.oneCell' = true)
    (h63 : n + m ≤ maxLen) (hbytes : (n + m) * bytes ≤ 140737488355328) (hbase : base ≤ w.heap.size)
    (h : ∀ A' c' w', w'.ownsRow base e size (.slice A' (n + m) c') (n + m) (xs ++ news) → w.grownBy w' v.ownBlock → ((Value.slice A' (n + m) c').ownBlock = v.ownBlock ∨ (Value.slice A' (n + m) c').ownBlock = some w.heap.size) → K (a.put o.dst (.slice A' (n + m) c')) w') :
    if Region.wanted o (yielded ops a.tmps) = true then Oper.wp P o a w K Q else E :=
  step_append_any w hgd s x t ho base e i z size bytes ht hi hz hsize hby hzs hsz v n xs hs hown B A m c news hx hr h1 h63 hbytes hbase fun v' w' h2 h3 h4 => by
    obtain ⟨A', c', rfl⟩ := own_slice h2
    exact h A' c' w' h2 h3 h4
theorem wpList_append_s {ops : Array Oper} {rest : List Oper} {o : Oper} {a : Act} {Q : Exit → Act → World → Prop} (hgd : o.guard = none) (s x : Operand) (t : TypeId)
    (ho : o.op = .call { callee := .builtin .append, args := #[s, x], argTypes := #[t, t] })
    (base : Nat) (e : TypeId) (i : TypeInfo) (z : Value) (size bytes : Nat) (ht : P.underlying t = some (.slice e)) (hi : P.info? e = some i) (hz : i.zero = some z)
    (hsize : i.size = size) (hby : i.bytes = bytes) (hzs : z.cells.size = size) (hsz : 0 < size)
    (v : Value) (n : Nat) (xs : List Value) (hs : a.eval s = v) (hown : w.ownsRow base e size v n xs)
    (B : Nat) (A : Option Addr) (m c : Nat) (news : List Value) (hx : a.eval x = .slice A m c) (hr : Reads w B size A m news) (h1 : ∀ u ∈ news, u.oneCell' = true)
    (h63 : n + m ≤ maxLen) (hbytes : (n + m) * bytes ≤ 140737488355328) (hbase : base ≤ w.heap.size)
    (h : ∀ A' c' w', w'.ownsRow base e size (.slice A' (n + m) c') (n + m) (xs ++ news) → w.grownBy w' v.ownBlock → ((Value.slice A' (n + m) c').ownBlock = v.ownBlock ∨ (Value.slice A' (n + m) c').ownBlock = some w.heap.size) → wpList P ops Q rest (a.put o.dst (.slice A' (n + m) c')) w') : wpList P ops Q (o :: rest) a w :=
  wpList_append_any w hgd s x t ho base e i z size bytes ht hi hz hsize hby hzs hsz v n xs hs hown B A m c news hx hr h1 h63 hbytes hbase fun v' w' h2 h3 h4 => by
    obtain ⟨A', c', rfl⟩ := own_slice h2
    exact h A' c' w' h2 h3 h4
end
/-- An owned row is kept where an append onto the nil slice has grown. -/
theorem own_nil {w w' : World} {base : Nat} {e : TypeId} {size : Nat} {v : Value} {n : Nat} {xs : List Value} (h : w.ownsRow base e size v n xs) (hg : w.grownBy w' (Value.slice none 0 0).ownBlock) : w'.ownsRow base e size v n xs :=
  h.kept hg (by cases hv : v.ownBlock <;> simp [Value.ownBlock])
/-- Rows of different element types never share a block. -/
theorem own_ne {w : World} {base base' : Nat} {e e' : TypeId} {size size' : Nat} {v v' : Value} {n n' : Nat} {xs xs' : List Value} (h : w.ownsRow base e size v n xs) (h' : w.ownsRow base' e' size' v' n' xs') (hne : e ≠ e') : v.ownBlock = none ∨ v.ownBlock ≠ v'.ownBlock := by
  rcases h.2 with ⟨rfl, _⟩ | ⟨g, cap, cur, rfl, _, hg, _⟩
  · exact .inl rfl
  · right
    rcases h'.2 with ⟨rfl, _⟩ | ⟨g', cap', cur', rfl, _, hg', _⟩
    · intro h; cases h
    · intro h
      have e1 : g = g' := by injection h
      subst e1
      rw [hg] at hg'
      injection hg' with q
      injection q with _ q2
      exact hne q2
theorem own_keep_ne {w w' : World} {base base' : Nat} {e e' : TypeId} {size size' : Nat} {v v' : Value} {n n' : Nat} {xs xs' : List Value} (h : w.ownsRow base e size v n xs) (h' : w.ownsRow base' e' size' v' n' xs') (hne : e ≠ e') (hg : w.grownBy w' v'.ownBlock) : w'.ownsRow base e size v n xs :=
  h.kept hg (own_ne h h' hne)
theorem own_ge {w : World} {base : Nat} {e : TypeId} {size : Nat} {v : Value} {n : Nat} {xs : List Value} (h : w.ownsRow base e size v n xs) {B : Nat} (hB : B ≤ base) : ∀ k, v.ownBlock = some k → B ≤ k := fun k hk => Nat.le_trans hB (h.lt k hk).1
theorem own_notin {w : World} {base : Nat} {e : TypeId} {size : Nat} {v : Value} {n : Nat} {xs : List Value} (h : w.ownsRow base e size v n xs) {B : Nat} (hB : B < base) : some B ≠ v.ownBlock := fun hk => by
  have := (h.lt B hk.symm).1; omega
theorem IsStrs.reads {w : World} {S : Nat → Prop} {hi : Nat} {a : Option Addr} {n c : Nat} {ks : List ByteArray} (h : IsStrs w S (.slice a n c) ks) (hS : ∀ b, S b → b < hi) :
    n = ks.length ∧ Reads w hi 1 a ks.length (ks.map .string) := by
  obtain ⟨a', c', e, _, _, _, hc⟩ := h
  injection e with e1 e2 e3
  subst e1 e2 e3
  refine ⟨rfl, by simp, fun h0 => ?_⟩
  obtain ⟨b, o, hb, rfl, hx⟩ := hc h0
  refine ⟨_, rfl, hS b hb, fun j u hu => ?_⟩
  rw [Addr.add_lit]
  have hj : j < ks.length := by
    rcases Nat.lt_or_ge j ks.length with h | h
    · exact h
    · rw [List.getElem?_eq_none (by simpa using h)] at hu; cases hu
  rw [hx j hj]
  simp [hj] at hu
  simp [List.getD, hj, hu]
theorem ones_take {xs : List Value} {k : Nat} (h : ∀ u ∈ xs, u.oneCell' = true) : ∀ u ∈ xs.take k, u.oneCell' = true := fun u hu => h u (List.mem_of_mem_take hu)
theorem ones_drop {xs : List Value} {k : Nat} (h : ∀ u ∈ xs, u.oneCell' = true) : ∀ u ∈ xs.drop k, u.oneCell' = true := fun u hu => h u (List.mem_of_mem_drop hu)
theorem strs_one {ks : List ByteArray} : ∀ u ∈ ks.map Value.string, u.oneCell' = true := by
  intro u hu
  obtain ⟨s, _, rfl⟩ := List.mem_map.1 hu
  rfl
/-- The cells of a list of values, six each. -/
def VCells (w : World) (S : Nat → Prop) : List GV → List Value → Prop
  | [], xs => xs = []
  | x :: r, xs => ∃ c0 c1 c2 c3 c4 c5 r', xs = c0 :: c1 :: c2 :: c3 :: c4 :: c5 :: r' ∧ IsV w S x (.agg #[c0, c1, c2, c3, c4, c5]) ∧ VCells w S r r'
section
variable {w w' : World} {S S' : Nat → Prop}
theorem VCells.keep (h : ∀ b, S b → w'.heap[b]? = w.heap[b]?) (hs : ∀ b, S b → S' b) : ∀ {l : List GV} {xs : List Value}, VCells w S l xs → VCells w' S' l xs
  | [], _, hv => hv
  | x :: r, _, hv => by
    obtain ⟨c0, c1, c2, c3, c4, c5, r', e, hx, hr⟩ := hv
    exact ⟨c0, c1, c2, c3, c4, c5, r', e, hx.keep h hs, hr.keep h hs⟩
theorem VCells.length : ∀ {l : List GV} {xs : List Value}, VCells w S l xs → xs.length = l.length * 6
  | [], _, hv => by unfold VCells at hv; subst hv; rfl
  | x :: r, _, hv => by
    obtain ⟨c0, c1, c2, c3, c4, c5, r', rfl, _, hr⟩ := hv
    simp [hr.length]; omega
theorem VCells.app : ∀ {l : List GV} {xs : List Value} {l' : List GV} {xs' : List Value}, VCells w S l xs → VCells w S l' xs' → VCells w S (l ++ l') (xs ++ xs')
  | [], _, _, _, hv, hv' => by unfold VCells at hv; subst hv; exact hv'
  | x :: r, _, _, _, hv, hv' => by
    obtain ⟨c0, c1, c2, c3, c4, c5, r', rfl, hx, hr⟩ := hv
    exact ⟨c0, c1, c2, c3, c4, c5, _, rfl, hx, hr.app hv'⟩
theorem VCells.take : ∀ {l : List GV} {xs : List Value} (i : Nat), VCells w S l xs → VCells w S (l.take i) (xs.take (i * 6))
  | [], _, i, hv => by unfold VCells at hv; subst hv; simp [VCells]
  | x :: r, _, 0, hv => by simp [VCells]
  | x :: r, _, i + 1, hv => by
    obtain ⟨c0, c1, c2, c3, c4, c5, r', rfl, hx, hr⟩ := hv
    rw [show (i + 1) * 6 = i * 6 + 1 + 1 + 1 + 1 + 1 + 1 by omega]
    simp only [List.take_succ_cons]
    exact ⟨c0, c1, c2, c3, c4, c5, _, rfl, hx, hr.take i⟩
theorem VCells.drop : ∀ {l : List GV} {xs : List Value} (i : Nat), VCells w S l xs → VCells w S (l.drop i) (xs.drop (i * 6))
  | [], _, i, hv => by unfold VCells at hv; subst hv; simp [VCells]
  | x :: r, _, 0, hv => by simpa using hv
  | x :: r, _, i + 1, hv => by
    obtain ⟨c0, c1, c2, c3, c4, c5, r', rfl, hx, hr⟩ := hv
    rw [show (i + 1) * 6 = i * 6 + 1 + 1 + 1 + 1 + 1 + 1 by omega]
    simp only [List.drop_succ_cons]
    exact hr.drop i
theorem VCells.one {x : GV} {c0 c1 c2 c3 c4 c5 : Value} (hx : IsV w S x (.agg #[c0, c1, c2, c3, c4, c5])) : VCells w S [x] [c0, c1, c2, c3, c4, c5] := ⟨c0, c1, c2, c3, c4, c5, [], rfl, hx, rfl⟩
theorem VCells.ones : ∀ {l : List GV} {xs : List Value}, VCells w S l xs → ∀ u ∈ xs, u.oneCell' = true
  | [], _, hv => by unfold VCells at hv; subst hv; simp
  | x :: r, _, hv => by
    obtain ⟨c0, c1, c2, c3, c4, c5, r', rfl, hx, hr⟩ := hv
    obtain ⟨a0, d0, a1, d1, e⟩ := hx.form
    injection e with e
    simp only [Array.mk.injEq, List.cons.injEq, and_true] at e
    obtain ⟨rfl, rfl, rfl, rfl, rfl, rfl⟩ := e
    intro u hu
    simp only [List.mem_cons] at hu
    rcases hu with rfl | rfl | rfl | rfl | rfl | rfl | hu <;> first | rfl | exact hr.ones u hu
/-- Values in memory, as a list of cells. -/
theorem IsVs.toCells : ∀ {l : List GV} {b o : Nat}, IsVs w S l b o → ∃ xs, VCells w S l xs ∧ ∀ j u, xs[j]? = some u → w.cell? ⟨b, o + j, none⟩ = some u
  | [], _, _, _ => ⟨[], rfl, fun j u h => by simp at h⟩
  | x :: r, b, o, hv => by
    unfold IsVs at hv
    obtain ⟨⟨c0, c1, c2, c3, c4, c5, g0, g1, g2, g3, g4, g5, hx⟩, hr⟩ := hv
    obtain ⟨xs, h1, h2⟩ := IsVs.toCells hr
    refine ⟨c0 :: c1 :: c2 :: c3 :: c4 :: c5 :: xs, ⟨c0, c1, c2, c3, c4, c5, xs, rfl, hx, h1⟩, fun j u hu => ?_⟩
    match j, hu with
    | 0, hu => simp at hu; subst hu; exact g0
    | 1, hu => simp at hu; subst hu; exact g1
    | 2, hu => simp at hu; subst hu; exact g2
    | 3, hu => simp at hu; subst hu; exact g3
    | 4, hu => simp at hu; subst hu; exact g4
    | 5, hu => simp at hu; subst hu; exact g5
    | j + 6, hu =>
      have := h2 j u (by simpa using hu)
      rwa [show o + 6 + j = o + (j + 6) by omega] at this
theorem VCells.row : ∀ {l : List GV} {xs : List Value} {b o : Nat}, VCells w S l xs → (∀ j u, xs[j]? = some u → w.cell? ⟨b, o + j, none⟩ = some u) → IsVs w S l b o
  | [], _, _, _, _, _ => by unfold IsVs; trivial
  | x :: r, _, b, o, hv, hc => by
    obtain ⟨c0, c1, c2, c3, c4, c5, r', rfl, hx, hr⟩ := hv
    unfold IsVs
    refine ⟨⟨c0, c1, c2, c3, c4, c5, hc 0 _ rfl, hc 1 _ rfl, hc 2 _ rfl, hc 3 _ rfl, hc 4 _ rfl, hc 5 _ rfl, hx⟩, hr.row (fun j u hj => ?_)⟩
    have := hc (j + 6) u (by simpa using hj)
    rwa [show o + 6 + j = o + (j + 6) by omega]
/-- A slice of strings that the call made. -/
theorem IsStrs.of_own {base : Nat} {v : Value} {ks : List ByteArray} (h : w.ownsRow base 9 1 v ks.length (ks.map .string)) (hS : ∀ b, v.ownBlock = some b → S b) (hl : ks.length * 16 ≤ 140737488351232) (hz : ∀ s ∈ ks, s.size ≤ maxLen) :
    IsStrs w S v ks := by
  rcases h.2 with ⟨rfl, h0⟩ | ⟨g, cap, cur, rfl, hb, hg, hn, hm, hs, ht⟩
  · exact ⟨none, 0, by rw [h0], by omega, hl, hz, fun h => by omega⟩
  · refine ⟨_, cap, rfl, hn, hl, hz, fun _ => ⟨g, 0, hS g rfl, rfl, fun i hi => ?_⟩⟩
    have := h.cells (g := g) rfl i (.string (ks.getD i ByteArray.empty)) (by simp [hi, List.getD])
    rwa [Addr.add_lit] at this
/-- A slice of values that the call made. -/
theorem rows_of_own {base : Nat} {v : Value} {l : List GV} {xs : List Value} (h : w.ownsRow base 43 6 v l.length xs) (hS : ∀ b, v.ownBlock = some b → S b) (hv : VCells w S l xs) :
    ∃ a c, v = .slice a l.length c ∧ l.length ≤ c ∧ (l = [] ∨ ∃ b o, S b ∧ a = some ⟨b, o, none⟩ ∧ IsVs w S l b o) := by
  rcases h.2 with ⟨rfl, h0⟩ | ⟨g, cap, cur, rfl, hb, hg, hn, hm, hs, ht⟩
  · exact ⟨none, 0, by rw [h0], by omega, .inl (List.length_eq_zero_iff.1 h0)⟩
  · refine ⟨_, cap, rfl, hn, .inr ⟨g, 0, hS g rfl, rfl, hv.row fun j u hu => ?_⟩⟩
    have := h.cells (g := g) rfl j u hu
    rwa [Addr.add_lit] at this
end
/-- What a struct value's two slices hold, as cells. -/
theorem IsV.rows {w : World} {S : Nat → Prop} {hi : Nat} {m : GV} {c0 c1 c2 c3 : Value} {a0 a1 : Option Addr} {n0 d0 n1 d1 : Nat} (h : IsV w S m (.agg #[c0, c1, c2, c3, .slice a0 n0 d0, .slice a1 n1 d1])) (hS : ∀ b, S b → b < hi) :
    m.keys.length ≤ d0 ∧ m.keys.length * 16 ≤ 140737488351232 ∧ (∀ s ∈ m.keys, s.size ≤ maxLen) ∧ Reads w hi 1 a0 m.keys.length (m.keys.map .string) ∧ m.l.length ≤ d1 ∧ m.l.length * 88 ≤ 140737488351232 ∧
      ∃ xs, VCells w S m.l xs ∧ Reads w hi 6 a1 m.l.length xs := by
  obtain ⟨kd, n, f, s, ks, l⟩ := m
  unfold IsV at h
  obtain ⟨vk, a, c, e, _, _, _, _, hk, h8, h6, h7⟩ := h
  injection e with e
  simp only [Array.mk.injEq, List.cons.injEq, and_true, Value.slice.injEq] at e
  obtain ⟨_, _, _, _, rfl, rfl, rfl, rfl⟩ := e
  obtain ⟨hn, hr⟩ := hk.reads hS
  subst hn
  obtain ⟨a', c', e', hle, hl, hz, _⟩ := hk
  injection e' with e1 e2 e3
  subst e1 e3
  refine ⟨hle, hl, hz, hr, h8, h6, ?_⟩
  rcases h7 with rfl | ⟨b, o, hb, rfl, hv⟩
  · exact ⟨[], rfl, by simp [GV.l], fun h => by simp [GV.l] at h⟩
  · obtain ⟨xs, hx, hc⟩ := hv.toCells
    refine ⟨xs, hx, hx.length, fun _ => ⟨_, rfl, hS b hb, fun j u hu => ?_⟩⟩
    rw [Addr.add_lit]
    exact hc j u hu
theorem Reads.take_ {w : World} {B size n k : Nat} {A : Option Addr} {xs : List Value} (h : Reads w B size A n xs) (hk : k ≤ n) : Reads w B size A k (xs.take (k * size)) := by
  refine ⟨by rw [List.length_take, h.1]; exact Nat.min_eq_left (Nat.mul_le_mul_right _ hk), fun h0 => ?_⟩
  obtain ⟨ad, e, hb, hc⟩ := h.2 (by omega)
  refine ⟨ad, e, hb, fun j u hu => hc j u ?_⟩
  rw [List.getElem?_take] at hu
  split at hu
  · exact hu
  · cases hu
/-- The address of s[l:]. -/
def sufA (a : Option Addr) (cap l size : Nat) : Option Addr := if cap = l then a else a.map (·.add (l * size))
section
variable {P : Program} {t e : TypeId} {a : Option Addr} {len cap h l size : Nat} {k : IntKind}
/-- s[:h] -/
theorem run_slice_pre (ht : P.underlying t = some (.slice e)) (hs : ∀ w, (sizeOf e).run P w = .ok size w) (hh : h ≤ cap) (w : World) :
    (Instr.slice t (.slice a len cap) none (some (.int k (h : Int))) none).run P w = .ok (.slice a h cap) w := by
  have hb : (Instr.sliceBounds true len cap none (some (.int k (h : Int))) none).run P w = .ok (0, h, cap) w := by
    have h1 : (0 : Int) ≤ (h : Int) ∧ (h : Int) ≤ (cap : Int) := by omega
    simp [Instr.sliceBounds, Instr.sliceBound, asIntOf, h1.1, hh]
  simp only [Instr.slice, Sem.run_bind, run_underlying ht, Result.andThen, hb, hs]
  simp
  cases a <;> simp [Addr.add]
/-- s[l:] -/
theorem run_slice_suf (ht : P.underlying t = some (.slice e)) (hs : ∀ w, (sizeOf e).run P w = .ok size w) (hh : l ≤ len) (w : World) :
    (Instr.slice t (.slice a len cap) (some (.int k (l : Int))) none none).run P w = .ok (.slice (sufA a cap l size) (len - l) (cap - l)) w := by
  have hb : (Instr.sliceBounds true len cap (some (.int k (l : Int))) none none).run P w = .ok (l, len, cap) w := by
    simp [Instr.sliceBounds, Instr.sliceBound, asIntOf, hh]
  simp only [Instr.slice, Sem.run_bind, run_underlying ht, Result.andThen, hb, hs]
  rfl
end
def st6 (w : World) (b : Nat) (c0 c1 c2 c3 c4 c5 : Value) : World :=
  (((((w.setCell ⟨b, 0, none⟩ c0).setCell ⟨b, 1, none⟩ c1).setCell ⟨b, 2, none⟩ c2).setCell ⟨b, 3, none⟩ c3).setCell ⟨b, 4, none⟩ c4).setCell ⟨b, 5, none⟩ c5
section
variable {w : World} {b : Nat} {c0 c1 c2 c3 c4 c5 : Value}
theorem st6_below {B : Nat} {w0 : World} (h : Below B w0 w) (hb : B ≤ b) : Below B w0 (st6 w b c0 c1 c2 c3 c4 c5) :=
  (((((h.setCell hb _).setCell hb _).setCell hb _).setCell hb _).setCell hb _).setCell hb _
theorem st6_size : (st6 w b c0 c1 c2 c3 c4 c5).heap.size = w.heap.size := by simp [st6]
theorem st6_own {base : Nat} {e : TypeId} {size : Nat} {v : Value} {n : Nat} {xs : List Value} (h : w.ownsRow base e size v n xs) (hb : b < base) : (st6 w b c0 c1 c2 c3 c4 c5).ownsRow base e size v n xs :=
  ownsRow_setCell_below (ownsRow_setCell_below (ownsRow_setCell_below (ownsRow_setCell_below (ownsRow_setCell_below (ownsRow_setCell_below h hb _) hb _) hb _) hb _) hb _) hb _
theorem st6_blk {d0 d1 d2 d3 d4 d5 : Value} {t : TypeId} (h : w.heap[b]? = some (.cells #[d0, d1, d2, d3, d4, d5] t (0, 0))) : (st6 w b c0 c1 c2 c3 c4 c5).heap[b]? = some (.cells #[c0, c1, c2, c3, c4, c5] t (0, 0)) :=
  blk_set (blk_set (blk_set (blk_set (blk_set (blk_set h 0 c0) 1 c1) 2 c2) 3 c3) 4 c4) 5 c5
theorem st6_eq {k : Nat} (hk : k ≠ b) : (st6 w b c0 c1 c2 c3 c4 c5).heap[k]? = w.heap[k]? := by
  unfold st6
  rw [Below.heap_setCell _ _ _ _ hk, Below.heap_setCell _ _ _ _ hk, Below.heap_setCell _ _ _ _ hk, Below.heap_setCell _ _ _ _ hk, Below.heap_setCell _ _ _ _ hk, Below.heap_setCell _ _ _ _ hk]
end
/-- An impl.Value put together. -/
theorem IsV.mk_ {w : World} {S : Nat → Prop} {kd n : Int} {f : Nat} {s : ByteArray} {ks : List ByteArray} {l : List GV} {vk vl : Value} (h1 : (Lit.int .i64 kd).wf = true) (h2 : (Lit.int .i64 n).wf = true) (h3 : (Lit.float .f64 f).wf = true) (h4 : s.size ≤ maxLen)
    (hk : IsStrs w S vk ks) (hl : l.length * 88 ≤ 140737488351232) (hv : ∃ a c, vl = .slice a l.length c ∧ l.length ≤ c ∧ (l = [] ∨ ∃ b o, S b ∧ a = some ⟨b, o, none⟩ ∧ IsVs w S l b o)) : IsV w S (.mk kd n f s ks l) (.agg #[.int .i64 kd, .int .i64 n, .float .f64 f, .string s, vk, vl]) := by
  obtain ⟨a, c, rfl, hc, hv⟩ := hv
  unfold IsV
  exact ⟨vk, a, c, rfl, h1, h2, h3, h4, hk, hc, hl, hv⟩
/-- The two slices of a struct value. -/
theorem IsV.slices {w : World} {S : Nat → Prop} {m : GV} {c0 c1 c2 c3 kv lv : Value} (h : IsV w S m (.agg #[c0, c1, c2, c3, kv, lv])) :
    c0 = .int .i64 m.kind ∧ c1 = .int .i64 m.n ∧ c2 = .float .f64 m.f ∧ c3 = .string m.s ∧ ∃ a0 d0 a1 d1, kv = .slice a0 m.keys.length d0 ∧ lv = .slice a1 m.l.length d1 := by
  obtain ⟨a0, d0, a1, d1, e⟩ := h.form
  injection e with e
  simp only [Array.mk.injEq, List.cons.injEq, and_true] at e
  obtain ⟨rfl, rfl, rfl, rfl, rfl, rfl⟩ := e
  exact ⟨rfl, rfl, rfl, rfl, a0, d0, a1, d1, rfl, rfl⟩
end Go.Proofs.Ytbbacpdbbmjblaa
end
section
namespace Go.Proofs.Ytbbacpdbbmjblaa
open Go.RowKit
open Go.ChangeMaps (setBlock)
/-- The iterator in block r goes over the map in block bm, which holds es; the entries of 'done' have come out. -/
structure Rng (w : World) (bm r : Nat) (es : Array MapEntry) (cl : Nat) (done : List MapEntry) : Prop where
  map : w.heap[bm]? = some (.map es cl)
  iter : ∃ seen : Array Nat, seen.toList = done.map (·.born) ∧ w.heap[r]? = some (.mapIter (some bm) cl seen cl)
  ne : bm ≠ r
  sub : ∀ e ∈ done, e ∈ es.toList
  nodup : (done.map (·.born)).Nodup
  old : ∀ x ∈ es.toList, x.born < cl
  born : (es.toList.map (·.born)).Nodup
theorem Rng.of_eq {w w' : World} {bm r : Nat} {es : Array MapEntry} {cl : Nat} {done : List MapEntry} (h : Rng w bm r es cl done) (h1 : w'.heap[bm]? = w.heap[bm]?) (h2 : w'.heap[r]? = w.heap[r]?) : Rng w' bm r es cl done := by
  obtain ⟨a, b, c, d, e, f, g⟩ := h
  obtain ⟨s, hs, hr⟩ := b
  exact ⟨h1.trans a, ⟨s, hs, h2.trans hr⟩, c, d, e, f, g⟩
theorem nodup_len {α : Type} [DecidableEq α] : ∀ {a l : List α}, a.Nodup → (∀ x ∈ a, x ∈ l) → a.length ≤ l.length
  | [], _, _, _ => Nat.zero_le _
  | x :: a, l, hn, hs => by
    simp only [List.nodup_cons] at hn
    have hx := hs x (by simp)
    have := nodup_len (a := a) (l := l.erase x) hn.2 (fun y hy => by
      have hy' := hs y (by simp [hy])
      have hne : y ≠ x := fun e => hn.1 (e ▸ hy)
      exact (List.mem_erase_of_ne hne).2 hy')
    rw [List.length_erase_of_mem hx] at this
    have hp := List.length_pos_of_mem hx
    simp only [List.length_cons]; omega
theorem Rng.lt_ {w : World} {bm r : Nat} {es : Array MapEntry} {cl : Nat} {done : List MapEntry} (h : Rng w bm r es cl done) : bm < w.heap.size ∧ r < w.heap.size := by
  obtain ⟨s, _, hr⟩ := h.iter
  exact ⟨blk_lt h.map, blk_lt hr⟩
theorem born_inj {l : List MapEntry} (h : (l.map (·.born)).Nodup) : ∀ {e e' : MapEntry}, e ∈ l → e' ∈ l → e.born = e'.born → e = e' := by
  induction l with
  | nil => intro _ _ h; cases h
  | cons a r ih =>
    simp only [List.map_cons, List.nodup_cons] at h
    intro e e' he he' hb
    rcases List.mem_cons.1 he with h1 | h1
    · rcases List.mem_cons.1 he' with h2 | h2
      · rw [h1, h2]
      · exact absurd (by rw [← h1, hb]; exact List.mem_map_of_mem (f := (·.born)) h2) h.1
    · rcases List.mem_cons.1 he' with h2 | h2
      · exact absurd (by rw [← h2, ← hb]; exact List.mem_map_of_mem (f := (·.born)) h1) h.1
      · exact ih h.2 h1 h2 hb
theorem setBlock_self (w : World) (r : Nat) (o : Obj) (h : r < w.heap.size) : (setBlock w r o).heap[r]? = some o := by
  simp [setBlock, h]
end Go.Proofs.Ytbbacpdbbmjblaa
end
section
namespace Go.Proofs.Ytbbacpdbbmjblaa
section
variable {P : Program} {ops : Array Oper} {Q : Exit → Act → World → Prop} {md : Region.Mode} {S : World → Prop} {keeps : Nat → Bool}
/-- Operation j waits for operation i, by an edge of its own. -/
def waits (md : Region.Mode) (ops : Array Oper) (j i : Nat) : Bool := ((ops[j]?).map fun o => o.after.any fun e => Region.binds md e && e.on == i).getD false
/-- Behind operation j S is still wanted: one of the held operations does not come ahead of it. -/
def keepsB (md : Region.Mode) (ops : Array Oper) (held : List Nat) (j : Nat) : Bool := held.any fun i => i != j && !waits md ops j i
/-- Whatever order is picked from here on, and S holds behind those operations that keeps names. -/
def wpAnyK (P : Program) (md : Region.Mode) (ops : Array Oper) (Q : Exit → Act → World → Prop) (S : World → Prop) (keeps : Nat → Bool) : Nat → Array Bool → Act → World → Prop
  | 0, listed, a, w => Region.ready md ops listed = [] ∧ Q .normal a w
  | fuel + 1, listed, a, w =>
    (Region.ready md ops listed = [] → Q .normal a w) ∧
    ∀ i ∈ Region.ready md ops listed, wpOp P ops Q i (fun a' w' => (keeps i = true → S w') ∧ wpAnyK P md ops Q S keeps fuel (listed.setIfInBounds i true) a' w') a w
theorem wpAny_of_K : ∀ (fuel : Nat) (listed : Array Bool) (a : Act) (w : World), wpAnyK P md ops Q S keeps fuel listed a w → wpAny P md ops Q fuel listed a w
  | 0, _, _, _, h => h
  | fuel + 1, _, _, _, h => ⟨h.1, fun i hi => wpOp_mono (fun a' w' h' => wpAny_of_K fuel _ a' w' h'.2) (h.2 i hi)⟩
theorem wpAnyK_first {i : Nat} {oi : Oper} {v : Value} (hi : ops[i]? = some oi) (hsel : ∀ (j : Nat) (o : Oper) cs b, ops[j]? = some o → o.op ≠ .select cs b)
    (hQ : ∀ c a w, Q (.panic c) (a.put oi.dst v) w → Q (.panic c) a w)
    (hkeep : ∀ j oj, ops[j]? = some oj → j ≠ i → (∀ e ∈ oj.after, Region.binds md e = true → e.on ≠ i) → keeps j = true) :
    ∀ (fuel : Nat) (listed : Array Bool) (a : Act) (w : World),
      (∀ j oj, ops[j]? = some oj → j ≠ i → listed.getD j true = false → (∀ e ∈ oj.after, Region.binds md e = true → e.on ≠ i) → oi.apart ops oj = true) →
      i ∈ Region.ready md ops listed → YieldsIf P ops S oi v a → S w →
      wpAnyK P md ops Q S keeps fuel (listed.setIfInBounds i true) (a.put oi.dst v) w → wpAnyK P md ops Q S keeps (fuel + 1) listed a w := by
  intro fuel
  induction fuel with
  | zero =>
    intro listed a w _ hr hy hS H
    refine ⟨fun h => (by rw [h] at hr; cases hr), fun j hj => ?_⟩
    by_cases hji : j = i
    · subst hji; exact hy.wpOp hi hS ⟨fun _ => hS, H⟩
    · have := ready_mono hj hji
      rw [H.1] at this
      cases this
  | succ fuel ih =>
    intro listed a w hfree hr hy hS H
    refine ⟨fun h => (by rw [h] at hr; cases hr), fun j hj => ?_⟩
    by_cases hji : j = i
    · subst hji; exact hy.wpOp hi hS ⟨fun _ => hS, H⟩
    · have h1 := H.2 j (ready_mono hj hji)
      obtain ⟨hjun, oj, hoj, hall⟩ := mem_ready.1 hj
      have hnot : ∀ e ∈ oj.after, Region.binds md e = true → e.on ≠ i := fun e he hb heq => by
        have h1 := hall e he hb
        have h0 := (mem_ready.1 hr).1
        rw [heq] at h1
        rcases Nat.lt_or_ge i listed.size with h' | h'
        · simp [h'] at h0 h1; rw [h0] at h1; cases h1
        · simp [Array.getElem?_eq_none h'] at h1
      have h2 := wpOp_putIf hoj (hfree j oj hoj hji hjun hnot) (fun cs b => hsel i oi cs b hi) (fun cs b => hsel j oj cs b hoj) hQ hy h1
      refine wpOp_mono (fun a' w' ⟨hy', hk', h'⟩ => ?_) h2
      have hS' := hk' (hkeep j oj hoj hji hnot)
      refine ⟨fun _ => hS', ih (listed.setIfInBounds j true) a' w' ?_ ?_ hy' hS' ?_⟩
      · intro k ok hk hki hun hno
        refine hfree k ok hk hki ?_ hno
        by_cases hjk : j = k
        · subst hjk
          rcases Nat.lt_or_ge j listed.size with h | h
          · simp [h] at hun
          · simp [Array.getElem?_eq_none h] at hjun
        · rw [getD_set_ne true hjk] at hun; exact hun
      · exact ready_mono hr (Ne.symm hji)
      · rw [Array.setIfInBounds_comm _ _ (Ne.symm hji)] at h'; exact h'
theorem keepsB_spec {held : List Nat} {i : Nat} (hi : held.contains i = true) (j : Nat) (oj : Oper) (hj : ops[j]? = some oj) (hne : j ≠ i) (hno : ∀ e ∈ oj.after, Region.binds md e = true → e.on ≠ i) : keepsB md ops held j = true := by
  unfold keepsB
  rw [List.any_eq_true]
  refine ⟨i, by simpa using hi, ?_⟩
  have hw : waits md ops j i = false := by
    unfold waits
    rw [hj]
    simp only [Option.map_some, Option.getD_some]
    cases h : oj.after.any (fun e => Region.binds md e && e.on == i) with
    | false => rfl
    | true =>
      obtain ⟨e, he, hb⟩ := Array.any_eq_true'.1 h
      simp only [Bool.and_eq_true, beq_iff_eq] at hb
      exact absurd hb.2 (hno e he hb.1)
  simp [hw, Ne.symm hne]
/-- Take number i, which yields its value in every world that meets S, first. -/
theorem wpK_take {held : List Nat} {i : Nat} {oi : Oper} {v : Value} {fuel : Nat} {listed : Array Bool} {a : Act} {w : World} (hi : ops[i]? = some oi) (hh : held.contains i = true)
    (hs : Region.noSelect ops = true) (hf : Region.free md ops listed i = true) (hr : (Region.ready md ops listed).contains i = true)
    (hy : YieldsIf P ops S oi v a) (hS : S w)
    (h : wpAnyK P md ops (NoPanic Q) S (keepsB md ops held) fuel (listed.setIfInBounds i true) (a.put oi.dst v) w) : wpAnyK P md ops (NoPanic Q) S (keepsB md ops held) (fuel + 1) listed a w :=
  wpAnyK_first hi (Region.noSelect_spec hs) (fun _ _ _ h => h) (fun j oj hj hne hno => keepsB_spec hh j oj hj hne hno) fuel listed a w (Region.free_spec hi hf) (by simpa using hr) hy hS h
/-- The one that alone may come up, in whatever it does; S is wanted behind it. -/
theorem wpK_one {held : List Nat} {i : Nat} {o : Oper} {fuel : Nat} {listed : Array Bool} {a : Act} {w : World} (hr : Region.ready md ops listed = [i]) (ho : ops[i]? = some o)
    (h : ∀ K' : Act → World → Prop, Shut (∀ a w, S w → (S w → wpAnyK P md ops Q S (keepsB md ops held) fuel (listed.setIfInBounds i true) a w) → K' a w) → if Region.wanted o (yielded ops a.tmps) = true then Oper.wp P o a w K' Q else K' (a.put o.dst undef) w) :
    wpAnyK P md ops Q S (keepsB md ops held) (fuel + 1) listed a w :=
  ⟨fun h0 => (by rw [hr] at h0; cases h0), fun j hj => by
    rw [hr, List.mem_singleton] at hj
    subst hj
    exact wpOp_step ho (fun K' hK => h K' (fun a w hS hW => hK a w ⟨fun _ => hS, hW hS⟩))⟩
/-- .. and S is not wanted any more. -/
theorem wpK_last {held : List Nat} {i : Nat} {o : Oper} {fuel : Nat} {listed : Array Bool} {a : Act} {w : World} (hr : Region.ready md ops listed = [i]) (hk : keepsB md ops held i = false) (ho : ops[i]? = some o)
    (h : ∀ K' : Act → World → Prop, Shut (∀ a w, wpAnyK P md ops Q S (keepsB md ops held) fuel (listed.setIfInBounds i true) a w → K' a w) → if Region.wanted o (yielded ops a.tmps) = true then Oper.wp P o a w K' Q else K' (a.put o.dst undef) w) :
    wpAnyK P md ops Q S (keepsB md ops held) (fuel + 1) listed a w :=
  ⟨fun h0 => (by rw [hr] at h0; cases h0), fun j hj => by
    rw [hr, List.mem_singleton] at hj
    subst hj
    exact wpOp_step ho (fun K' hK => h K' (fun a w hW => hK a w ⟨fun hk' => (by rw [hk] at hk'; cases hk'), hW⟩))⟩
theorem wpK_done {listed : Array Bool} {a : Act} {w : World} (hr : Region.ready md ops listed = []) (h : Q .normal a w) : ∀ fuel, wpAnyK P md ops (NoPanic Q) S keeps fuel listed a w
  | 0 => ⟨hr, h⟩
  | _ + 1 => ⟨fun _ => h, by rw [hr]; simp⟩
/-- The beginning. -/
theorem wp_region_K (S : World → Prop) (held : List Nat) {id : Nat} {a : Act} {w : World} (hm : P.follows .mixedOrders = true) (hS : S w.drew)
    (h : S w.drew → wpAnyK P .any ops (NoPanic Q) S (keepsB .any ops held) ops.size (Array.replicate ops.size false) a w.drew) : (Code.region id ops true).wp P Q a w :=
  wp_region_noPanic (wp_region_any hm (wpAny_of_K _ _ _ _ (h hS)))
end
/-- A cell that is there is as it was, behind a call that leaves old memory alone. -/
theorem cell_below {w w' : World} (hb : Go.RowKit.Below w.heap.size w w') {a : Addr} {v : Value} (h : w.cell? a = some v) : w'.cell? a = some v := (hb.cell (World.block_lt_of_cell? w a h)).trans h
end Go.Proofs.Ytbbacpdbbmjblaa
end
section
namespace Go.Proofs.Ytbbacpdbbmjblaa
open Go.RowKit
/-- x put into l at the place of the key k among ks. -/
def insL {α : Type} (ks : List ByteArray) (l : List α) (k : ByteArray) (x : α) : List α := l.take (lb ks k) ++ [x] ++ l.drop (lb ks k + if hasAt ks k then 1 else 0)
def withF (m : GV) (k : ByteArray) (x : GV) : GV := .mk 6 0 0 ByteArray.empty (insL m.keys m.keys k k) (insL m.keys m.l k x)
theorem insL_map {α β : Type} (f : α → β) (ks : List ByteArray) (l : List α) (k : ByteArray) (x : α) : (insL ks l k x).map f = insL ks (l.map f) k (f x) := by simp [insL]
theorem insL_length {α : Type} {ks : List ByteArray} {l : List α} {k : ByteArray} {x : α} {j : Nat} (hj : j = lb ks k + if hasAt ks k then 1 else 0) (hjl : j ≤ l.length) (hl : lb ks k ≤ l.length) : (insL ks l k x).length = lb ks k + 1 + (l.length - j) := by
  simp only [insL, List.length_append, List.length_take, List.length_drop, List.length_cons, List.length_nil, ← hj]; omega
theorem with_fin {m : GV} {key : ByteArray} {x : GV} {w4 wF : World} {lo W O j : Nat} {xs : List Value} {AK AL : Option Addr} {cK cL : Nat} {x0 x1 x2 x3 x4 x5 : Value}
    (hlo : lo ≤ W) (hWO : W ≤ O) (hxs : VCells w4 (Btw lo W) m.l xs) (hx4 : IsV w4 (Btw lo W) x (.agg #[x0, x1, x2, x3, x4, x5])) (hBF : Below W w4 wF) (hWs : W ≤ wF.heap.size)
    (hj : j = lb m.keys key + if hasAt m.keys key then 1 else 0) (hjk : j ≤ m.keys.length) (hjl : j ≤ m.l.length) (hlen : m.keys.length = m.l.length) (hkey : key.size ≤ maxLen) (hkz : ∀ s ∈ m.keys, s.size ≤ maxLen) (hsz : (m.l.length + 1) * 88 ≤ 140737488351232)
    (hOK : wF.ownsRow (O + 1) 9 1 (.slice AK (lb m.keys key + 1 + (m.keys.length - j)) cK) (lb m.keys key + 1 + (m.keys.length - j)) ((m.keys.map Value.string).take (lb m.keys key) ++ [.string key] ++ (m.keys.map Value.string).drop (j * 1)))
    (hOL : wF.ownsRow (O + 1) 43 6 (.slice AL (lb m.keys key + 1 + (m.l.length - j)) cL) (lb m.keys key + 1 + (m.l.length - j)) (xs.take (lb m.keys key * 6) ++ [x0, x1, x2, x3, x4, x5] ++ xs.drop (j * 6))) :
    IsV wF (Btw lo wF.heap.size) (withF m key x) (.agg #[.int .i64 6, .int .i64 0, .float .f64 0, .string ⟨#[]⟩, .slice AK (lb m.keys key + 1 + (m.keys.length - j)) cK, .slice AL (lb m.keys key + 1 + (m.l.length - j)) cL]) := by
  have hlj : lb m.keys key ≤ j := by rw [hj]; exact Nat.le_add_right _ _
  have hS : ∀ {A : Option Addr} {n c : Nat} {e size : Nat} {zs : List Value}, wF.ownsRow (O + 1) e size (.slice A n c) n zs → ∀ b, (Value.slice A n c).ownBlock = some b → Btw lo wF.heap.size b := fun h b hb => by
    have := h.lt b hb
    exact ⟨by omega, this.2⟩
  have l1 : (insL m.keys m.keys key key).length = lb m.keys key + 1 + (m.keys.length - j) := insL_length hj hjk (lb_le _ _)
  have l2 : (insL m.keys m.l key x).length = lb m.keys key + 1 + (m.l.length - j) := insL_length hj hjl (by omega)
  have hkeep : ∀ b, Btw lo W b → wF.heap[b]? = w4.heap[b]? := Btw.kept hBF
  have hmono : ∀ b, Btw lo W b → Btw lo wF.heap.size b := Btw.mono (Nat.le_refl _) hWs
  have hvc : VCells wF (Btw lo wF.heap.size) (insL m.keys m.l key x) (xs.take (lb m.keys key * 6) ++ [x0, x1, x2, x3, x4, x5] ++ xs.drop (j * 6)) := by
    unfold insL
    rw [← hj]
    exact (((hxs.take _).keep hkeep hmono).app (VCells.one (hx4.keep hkeep hmono))).app ((hxs.drop _).keep hkeep hmono)
  unfold withF
  refine IsV.mk_ (by decide) (by decide) (by decide) (by decide) (IsStrs.of_own (base := O + 1) ?_ (hS hOK) ?_ ?_) ?_ ?_
  · rw [l1, insL_map]
    unfold insL
    rw [← hj]
    simpa using hOK
  · rw [l1]; omega
  · intro s hs
    unfold insL at hs
    simp only [List.mem_append, List.mem_singleton] at hs
    rcases hs with (hs | rfl) | hs
    · exact hkz s (List.mem_of_mem_take hs)
    · exact hkey
    · exact hkz s (List.mem_of_mem_drop hs)
  · rw [l2]; omega
  · have := rows_of_own (base := O + 1) (l := insL m.keys m.l key x) (by rw [l2]; exact hOL) (hS hOL) hvc
    rwa [l2] at this ⊢
end Go.Proofs.Ytbbacpdbbmjblaa
end
section
namespace Go.Proofs.Ytbbacpdbbmjblaa
open Go.RowKit
theorem mem_tw {α : Type} {p : α → Bool} {y : α} : ∀ {l : List α}, y ∈ l.takeWhile p → p y = true
  | [], h => by simp at h
  | a :: r, h => by
    simp only [List.takeWhile_cons] at h
    split at h
    · rename_i ha
      rcases List.mem_cons.1 h with rfl | h
      · exact ha
      · exact mem_tw h
    · cases h
theorem lb_lt {ks : List ByteArray} {k y : ByteArray} (h : y ∈ ks.take (lb ks k)) : blt y k = true := by
  have : ks.take (lb ks k) = ks.takeWhile fun x => blt x k := by
    unfold lb
    exact (List.prefix_iff_eq_take.1 (List.takeWhile_prefix _)).symm
  rw [this] at h
  exact mem_tw (p := fun x => blt x k) h
theorem lb_ge {ks : List ByteArray} {k y : ByteArray} (h : ks[lb ks k]? = some y) : blt y k = false := by
  induction ks with
  | nil => simp at h
  | cons a r ih =>
    unfold lb at h ih
    simp only [List.takeWhile_cons] at h
    split at h
    · exact ih (by simpa using h)
    · rename_i ha
      simp at h; subst h
      simpa using ha
theorem drop_gt {ks : List ByteArray} (hinc : Incr ks) {k y : ByteArray} (h : y ∈ ks.drop (lb ks k + if hasAt ks k then 1 else 0)) : blt k y = true := by
  obtain ⟨i, hi⟩ := List.getElem?_of_mem h
  rw [List.getElem?_drop] at hi
  cases hh : hasAt ks k with
  | true =>
    rw [hh] at hi
    unfold hasAt at hh
    simp only [decide_eq_true_eq] at hh
    rcases incr_le hinc (show lb ks k ≤ lb ks k + 1 + i by omega) hh (by simpa using hi) with e | e
    · exfalso
      obtain ⟨h1, e1⟩ := List.getElem?_eq_some_iff.1 hh
      obtain ⟨h2, e2⟩ := List.getElem?_eq_some_iff.1 (show ks[lb ks k + 1 + i]? = some y by simpa using hi)
      have := List.pairwise_iff_getElem.1 hinc (lb ks k) (lb ks k + 1 + i) h1 h2 (by omega)
      rw [e1, e2, e, blt_irrefl] at this
      cases this
    · exact e
  | false =>
    rw [hh] at hi
    simp only [Bool.false_eq_true, if_false, Nat.add_zero] at hi
    have hlt : lb ks k < ks.length := by
      have := (List.getElem?_eq_some_iff.1 hi).1; omega
    obtain ⟨z, hz⟩ : ∃ z, ks[lb ks k]? = some z := ⟨ks[lb ks k], by simp [hlt]⟩
    have h1 := lb_ge hz
    have h2 : z ≠ k := by
      intro e
      unfold hasAt at hh
      simp only [decide_eq_false_iff_not] at hh
      exact hh (by rw [hz, e])
    have h3 : blt k z = true := by
      cases hb : blt k z with
      | true => rfl
      | false => exact absurd (blt_total h1 hb) h2
    rcases incr_le hinc (show lb ks k ≤ lb ks k + i by omega) hz hi with e | e
    · rw [← e]; exact h3
    · exact blt_trans h3 e
theorem insL_incr {ks : List ByteArray} (hinc : Incr ks) (k : ByteArray) : Incr (insL ks ks k k) := by
  unfold insL Incr
  rw [List.pairwise_append, List.pairwise_append]
  refine ⟨⟨List.Pairwise.sublist (List.take_sublist _ _) hinc, by simp, fun a ha b hb => ?_⟩, List.Pairwise.sublist (List.drop_sublist _ _) hinc, fun a ha b hb => ?_⟩
  · simp at hb; subst hb; exact lb_lt ha
  · have hb' := drop_gt hinc hb
    rcases List.mem_append.1 ha with ha | ha
    · exact blt_trans (lb_lt ha) hb'
    · simp at ha; subst ha; exact hb'
/-- A plain map: nothing but sorted keys and as many values. -/
def Plain (m : GV) : Prop := ∃ ks l, m = .mk 6 0 0 ByteArray.empty ks l ∧ Incr ks ∧ ks.length = l.length
theorem hasAt_le {ks : List ByteArray} {k : ByteArray} : lb ks k + (if hasAt ks k then 1 else 0) ≤ ks.length := by
  cases h : hasAt ks k with
  | false => simpa using lb_le ks k
  | true =>
    unfold hasAt at h
    simp only [decide_eq_true_eq] at h
    have := (List.getElem?_eq_some_iff.1 h).1
    simp; omega
theorem withF_plain {m : GV} (h : Plain m) (k : ByteArray) (x : GV) : Plain (withF m k x) := by
  obtain ⟨ks, l, rfl, hi, hl⟩ := h
  refine ⟨_, _, rfl, insL_incr hi k, ?_⟩
  simp only [GV.keys, GV.l]
  rw [insL_length rfl hasAt_le (lb_le _ _), insL_length (l := l) rfl (by rw [← hl]; exact hasAt_le) (by rw [← hl]; exact lb_le _ _), hl]
theorem withF_len {m : GV} (h : Plain m) (k : ByteArray) (x : GV) : (withF m k x).l.length ≤ m.l.length + 1 := by
  obtain ⟨ks, l, rfl, hi, hl⟩ := h
  simp only [withF, GV.keys, GV.l]
  rw [insL_length (l := l) rfl (by rw [← hl]; exact hasAt_le) (by rw [← hl]; exact lb_le _ _)]
  have := hasAt_le (ks := ks) (k := k)
  omega
end Go.Proofs.Ytbbacpdbbmjblaa
end
section
namespace Go.Proofs.Ytbbacpdbbmjblaa
open Go.RowKit
set_option maxHeartbeats 1000000 in
set_option maxRecDepth 100000 in
theorem fieldIndex_any (m : GV) (key : ByteArray) (w : World) (v : Value) (hv : IsV w (Btw 0 w.heap.size) m v) (hinc : Incr m.keys) :
    Calls Try.prog 102 #[v, .string key] w fun e w' => e = .returned (.tuple #[.int .i64 (lb m.keys key), .bool (hasAt m.keys key)]) ∧ Below w.heap.size w w' := by
  obtain ⟨kd, n, f, s, ks, l⟩ := m
  unfold IsV at hv
  obtain ⟨vk, a, c, rfl, _, _, _, _, ⟨ak, ck, rfl, _, hkl, hkz, hkc⟩, _, h6, h7⟩ := hv
  simp only [GV.keys] at hinc ⊢
  go_enter Try.func102, Try.ntmps102
  go_wp2_with fail
  go_quiet (fail)
  go_wp2_with fail
  have hc4 : ((w.alloc (.cells #[.int .i64 kd, .int .i64 n, .float .f64 f, .string s, .slice ak ks.length ck, .slice a l.length c] 43)).drewN nq).cell? ⟨w.heap.size, 4, none⟩ = some (.slice ak ks.length ck) := by go_simp
  have hB : Below w.heap.size w ((w.alloc (.cells #[.int .i64 kd, .int .i64 n, .float .f64 f, .string s, .slice ak ks.length ck, .slice a l.length c] 43)).drewN nq) :=
    ((Below.refl _ _).alloc (Nat.le_refl _) _).trans ⟨rfl, rfl, rfl, Nat.le_refl _, fun _ _ => rfl⟩
  generalize (w.alloc (.cells #[.int .i64 kd, .int .i64 n, .float .f64 f, .string s, .slice ak ks.length ck, .slice a l.length c] 43)).drewN nq = W at *
  go_loop [6, 7] (fun lo hi => ∃ i j : Nat, i ≤ j ∧ j ≤ ks.length ∧ lo = .int .i64 i ∧ hi = .int .i64 j ∧ (∀ q x, q < i → ks[q]? = some x → blt x key = true) ∧ (∀ q x, j ≤ q → ks[q]? = some x → blt x key = false))
    (fun lo hi => (intOf hi - intOf lo).toNat)
  case atStart => exact ⟨0, ks.length, Nat.zero_le _, Nat.le_refl _, rfl, rfl, fun q x h => by omega, fun q x h h' => by rw [List.getElem?_eq_none h] at h'; cases h'⟩
  case round =>
    obtain ⟨i, j, hij, hj, rfl, rfl, hlo, hhi⟩ := hrel
    by_cases hlt : i < j
    · obtain ⟨b0, o0, hb0, rfl, hkeys⟩ := hkc (by omega)
      obtain ⟨x, hx⟩ : ∃ x, ks[i + (j - i) / 2]? = some x := ⟨ks[i + (j - i) / 2]'(by omega), by simp⟩
      have hcx : W.cell? ⟨b0, o0 + (i + (j - i) / 2), none⟩ = some (.string x) := by
        rw [hB.cell (by exact hb0.2), hkeys _ (by omega)]; simp [List.getD, hx]
      have HX := Lib.hid hx
      clear hkeys hx
      have HL := Lib.hid hlo; have HH := Lib.hid hhi
      clear hlo hhi hkz hkc h7
      go_wp2_with fail
      · have ht : blt x key = true := by assumption
        go_round
        case rel =>
          refine ⟨i + (j - i) / 2 + 1, j, by omega, hj, by go_num, rfl, fun q y hq hy => ?_, HH.out⟩
          rcases incr_le hinc (show q ≤ i + (j - i) / 2 by omega) hy HX.out with rfl | h
          · exact ht
          · exact blt_trans h ht
        case measure => simp [intOf]; omega
      · have ht : blt x key = false := by assumption
        go_round
        case rel =>
          refine ⟨i, i + (j - i) / 2, by omega, by omega, rfl, by go_num, HL.out, fun q y hq hy => ?_⟩
          rcases incr_le hinc hq HX.out hy with rfl | h
          · exact ht
          · cases hyk : blt y key with
            | false => rfl
            | true => have := blt_trans h hyk; rw [ht] at this; cases this
        case measure => simp [intOf]; omega
    · have hij' : i = j := by omega
      subst hij'
      have hlb : lb ks key = i := lb_eq hj (fun q x hq hx => hlo q x hq hx) (fun x hx => hhi i x (Nat.le_refl _) hx)
      have HLB := Lib.hid hlb
      by_cases hin : i < ks.length
      · obtain ⟨b0, o0, hb0, rfl, hkeys⟩ := hkc (by omega)
        obtain ⟨x, hx⟩ : ∃ x, ks[i]? = some x := ⟨ks[i], by simp [hin]⟩
        have hcx : W.cell? ⟨b0, o0 + i, none⟩ = some (.string x) := by
          rw [hB.cell (by exact hb0.2), hkeys _ (by omega)]; simp [List.getD, hx]
        have hfin : (x.toList == key.toList) = hasAt ks key := by unfold hasAt; rw [beq_list, hlb, hx]; simp
        have HF := Lib.hid hfin
        have hi0 : (0 : Int) ≤ (i : Int) := by omega
        have hi1 : (i : Int) < (ks.length : Int) := by omega
        have hd : decide ((i : Int) < (ks.length : Int)) = true := by simp; omega
        clear hkeys hx hlb hlo hhi hkz hkc h7 hfin hinc
        go_wp2_with fail
        go_quiet (fail)
        go_wp2_with fail
        go_ret2
        exact ⟨by rw [HLB.out, ← HF.out]; rfl, hB.trans ⟨rfl, rfl, rfl, Nat.le_refl _, fun _ _ => rfl⟩⟩
      · have hfin : hasAt ks key = false := by unfold hasAt; rw [hlb, List.getElem?_eq_none (by omega)]; simp
        have HF := Lib.hid hfin
        have hd : decide ((i : Int) < (ks.length : Int)) = false := by simp; omega
        clear hlb hlo hhi hkz hkc h7 hfin hinc
        go_wp2_with fail
        go_quiet (fail)
        go_wp2_with fail
        go_ret2
        exact ⟨by rw [HLB.out, HF.out]; rfl, hB.trans ⟨rfl, rfl, rfl, Nat.le_refl _, fun _ _ => rfl⟩⟩
end Go.Proofs.Ytbbacpdbbmjblaa
end
