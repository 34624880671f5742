/- Slices that read as lists of cells; append onto a row of the call's own. (The two blocks on Reads and append are lines of the guide's extra-words, turned to this claim.) -/
import Derived.Test.YtlghpcokbppkfaaOps
import Derived.Maps.AppendAt
import Derived.Deep.AppendLies
import Derived.Deep.Draws
import Derived.RegionTactic
namespace Go.Proofs.Ytlghpcokbppkfaa
open Go.RowKit

theorem block_of_add (a : Addr) (n : Nat) : (a.add n).block = a.block := by unfold Addr.add; split <;> rfl
theorem add_of_add (a : Addr) (i j : Nat) : (a.add i).add j = a.add (i + j) := by
  unfold Addr.add
  by_cases hi : i = 0 <;> by_cases hj : j = 0 <;> simp [hi, hj, Nat.add_assoc]

def Reads (w : World) (B size : Nat) (A : Option Addr) (n : Nat) (xs : List Value) : Prop :=
  xs.length = n * size ∧ (0 < n → ∃ ad, A = some ad ∧ ad.block < B ∧ ∀ j u, xs[j]? = some u → w.cell? (ad.add j) = some u)

section
variable {w w' : World} {B B' size n : Nat} {A : Option Addr} {xs : List Value}
theorem Reads.none_ : Reads w B size A 0 [] := ⟨by simp, fun h => absurd h (by omega)⟩
theorem Reads.at_ {k : Nat} (h : Reads w B 1 A n xs) (hk : k < n) : ∃ ad u, A = some ad ∧ ad.block < B ∧ xs[k]? = some u ∧ w.cell? (ad.add k) = some u := by
  obtain ⟨ad, e, hb, hc⟩ := h.2 (by omega)
  have hl : k < xs.length := by have := h.1; omega
  exact ⟨ad, xs[k], e, hb, List.getElem?_eq_getElem hl, hc k _ (List.getElem?_eq_getElem hl)⟩
theorem Reads.keep (h : Reads w B size A n xs) (hk : ∀ p : Addr, p.block < B → w'.cell? p = w.cell? p) : Reads w' B size A n xs :=
  ⟨h.1, fun hn => by
    obtain ⟨ad, e, hb, hc⟩ := h.2 hn
    exact ⟨ad, e, hb, fun j u hu => (hk _ (by rw [block_of_add]; exact hb)).trans (hc j u hu)⟩⟩
theorem Reads.more (h : Reads w B size A n xs) (hB : B ≤ B') : Reads w B' size A n xs :=
  ⟨h.1, fun hn => by
    obtain ⟨ad, e, hb, hc⟩ := h.2 hn
    exact ⟨ad, e, by omega, hc⟩⟩
theorem Reads.below (h : Reads w B size A n xs) (hb : Below B w w') : Reads w' B size A n xs := h.keep fun _ hp => hb.cell hp
theorem Reads.drew (h : Reads w B size A n xs) : Reads w.drew B size A n xs := h
theorem Reads.drewN (h : Reads w B size A n xs) (k : Nat) : Reads (w.drewN k) B size A n xs := h
theorem Reads.alloc (h : Reads w B size A n xs) (hB : B ≤ w.heap.size) (o : Obj) : Reads (w.alloc o) B size A n xs := h.keep fun p hp => World.cell?_alloc_lt w o p (by omega)
theorem Reads.setCell (h : Reads w B size A n xs) {p : Addr} (hB : B ≤ p.block) (u : Value) : Reads (w.setCell p u) B size A n xs :=
  h.keep fun q hq => World.cell?_setCell_other w p q u (fun e => by subst e; omega)
theorem Reads.grown (h : Reads w B size A n xs) {row : Option Nat} (hg : w.grownBy w' row) (hB : B ≤ w.heap.size) (hr : ∀ g, row = some g → B ≤ g) : Reads w' B size A n xs :=
  h.keep fun p hp => World.cell?_of_block (hg.block p.block (by omega) (fun e => by have := hr _ e.symm; omega))
theorem Reads.cut (h : Reads w B size A n xs) {k cap : Nat} (hk : k ≤ n) (hc : n ≤ cap) :
    Reads w B size (if cap = k then A else A.map (·.add (k * size))) (n - k) (xs.drop (k * size)) := by
  refine ⟨by rw [List.length_drop, h.1, Nat.sub_mul], fun hn => ?_⟩
  obtain ⟨ad, rfl, hb, hcell⟩ := h.2 (by omega)
  rw [if_neg (by omega)]
  refine ⟨ad.add (k * size), rfl, by rw [block_of_add]; exact hb, fun j u hu => ?_⟩
  rw [add_of_add]
  exact hcell _ u (by rw [← hu, List.getElem?_drop])
theorem Reads.of_own {base : Nat} {e : TypeId} {c : Nat} (h : w.ownsRow base e size (.slice A n c) n xs) : Reads w w.heap.size size A n xs := by
  refine ⟨h.1, fun hn => ?_⟩
  obtain ⟨g, cap, hv, _, hlt⟩ := h.form hn
  have hA : A = some ⟨g, 0, none⟩ := by injection hv
  subst hA
  exact ⟨_, rfl, hlt, h.cells (g := g) rfl⟩
end

section
variable {P : Program} (w : World)

theorem run_append_of_nil (base : Nat) (t ty e : TypeId) (i : TypeInfo) (size : Nat) (ht : P.underlying t = some (.slice e)) (hi : P.info? e = some i)
    (v : Value) (n : Nat) (xs : List Value) (hown : w.ownsRow base e size v n xs) (c : Nat) : (Builtin.append_ #[t, t] ty #[v, .slice none 0 c]).run P w = .ok v w := by
  rcases hown.2 with ⟨rfl, rfl⟩ | ⟨g, cap, cur, rfl, _, _, hnc, _⟩
  · simp [Builtin.append_, run_underlying ht, sizeOf, typeInfo, hi, Builtin.lenOf, Builtin.firstCells]
  · simp [Builtin.append_, run_underlying ht, sizeOf, typeInfo, hi, Builtin.lenOf, Builtin.firstCells, hnc, storeCells]

theorem run_append_any (base : Nat) (t ty e : TypeId) (i : TypeInfo) (z : Value) (size bytes : Nat) (ht : P.underlying t = some (.slice e)) (hi : P.info? e = some i) (hz : i.zero = some z)
    (hsize : i.size = size) (hby : i.bytes = bytes) (hzs : z.cells.size = size) (hsz : 0 < size)
    (v : Value) (n : Nat) (xs : List Value) (hown : w.ownsRow base e size v n xs)
    (B : Nat) (A : Option Addr) (m c : Nat) (news : List Value) (hr : Reads w B size A m news) (h1 : ∀ u ∈ news, u.oneCell' = true)
    (h63 : n + m ≤ maxLen) (hbytes : (n + m) * bytes ≤ 140737488355328) (hbase : base ≤ w.heap.size) :
    ∃ v' w', (Builtin.append_ #[t, t] ty #[v, .slice A m c]).run P w = .ok v' w' ∧ w'.ownsRow base e size v' (n + m) (xs ++ news) ∧ w.grownBy w' v.ownBlock ∧
      (v'.ownBlock = v.ownBlock ∨ v'.ownBlock = some w.heap.size) := by
  rcases A with _ | ad
  · have hm : m = 0 := by
      rcases Nat.eq_zero_or_pos m with h0 | h0
      · exact h0
      · obtain ⟨ad, h, _⟩ := hr.2 h0
        cases h
    subst hm
    have hn : news = [] := List.eq_nil_of_length_eq_zero (by simpa using hr.1)
    subst hn
    exact ⟨v, w, run_append_of_nil w base t ty e i size ht hi v n xs hown c, by simpa using hown, World.grownBy.refl w _, .inl rfl⟩
  · have hcells : ∀ j u, news[j]? = some u → w.cell? (ad.add j) = some u := by
      intro j u hu
      rcases Nat.eq_zero_or_pos m with h0 | h0
      · subst h0
        have hn : news = [] := List.eq_nil_of_length_eq_zero (by simpa using hr.1)
        subst hn
        simp at hu
      · obtain ⟨ad', h, _, hc⟩ := hr.2 h0
        injection h with h
        subst h
        exact hc j u hu
    obtain ⟨v', w', hrun, h2, h3, _, h5⟩ := run_append_own_at (P := P) w base t ty e i z size bytes ht hi hz hsize hby hzs hsz v n xs hown ad m c news hr.1 hcells h1 h63 hbytes hbase
    exact ⟨v', w', hrun, h2, h3, h5⟩

theorem wp_append_any {o : Oper} {a : Act} {K : Act → World → Prop} {Q : Exit → Act → World → Prop} (s x : Operand) (t : TypeId)
    (ho : o.op = .call { callee := .builtin .append, args := #[s, x], argTypes := #[t, t] })
    (base : Nat) (e : TypeId) (i : TypeInfo) (z : Value) (size bytes : Nat) (ht : P.underlying t = some (.slice e)) (hi : P.info? e = some i) (hz : i.zero = some z)
    (hsize : i.size = size) (hby : i.bytes = bytes) (hzs : z.cells.size = size) (hsz : 0 < size)
    (v : Value) (n : Nat) (xs : List Value) (hs : a.eval s = v) (hown : w.ownsRow base e size v n xs)
    (B : Nat) (A : Option Addr) (m c : Nat) (news : List Value) (hx : a.eval x = .slice A m c) (hr : Reads w B size A m news) (h1 : ∀ u ∈ news, u.oneCell' = true)
    (h63 : n + m ≤ maxLen) (hbytes : (n + m) * bytes ≤ 140737488355328) (hbase : base ≤ w.heap.size)
    (h : ∀ v' w', w'.ownsRow base e size v' (n + m) (xs ++ news) → w.grownBy w' v.ownBlock → (v'.ownBlock = v.ownBlock ∨ v'.ownBlock = some w.heap.size) → K (a.put o.dst v') w') : o.wp P a w K Q := by
  obtain ⟨v', w', hrun, h2, h3, h4⟩ := run_append_any (P := P) w base t o.type e i z size bytes ht hi hz hsize hby hzs hsz v n xs hown B A m c news hr h1 h63 hbytes hbase
  unfold Oper.wp execOp
  simp only [ho, resolve, invoke, builtin, Sem.run_bind, Sem.run_pure, Result.andThen_ok, List.map_toArray, List.map_cons, List.map_nil, hs, hx, hrun]
  exact h v' w' h2 h3 h4

theorem wpList_append_any {ops : Array Oper} {rest : List Oper} {o : Oper} {a : Act} {Q : Exit → Act → World → Prop} (hgd : o.guard = none) (s x : Operand) (t : TypeId)
    (ho : o.op = .call { callee := .builtin .append, args := #[s, x], argTypes := #[t, t] })
    (base : Nat) (e : TypeId) (i : TypeInfo) (z : Value) (size bytes : Nat) (ht : P.underlying t = some (.slice e)) (hi : P.info? e = some i) (hz : i.zero = some z)
    (hsize : i.size = size) (hby : i.bytes = bytes) (hzs : z.cells.size = size) (hsz : 0 < size)
    (v : Value) (n : Nat) (xs : List Value) (hs : a.eval s = v) (hown : w.ownsRow base e size v n xs)
    (B : Nat) (A : Option Addr) (m c : Nat) (news : List Value) (hx : a.eval x = .slice A m c) (hr : Reads w B size A m news) (h1 : ∀ u ∈ news, u.oneCell' = true)
    (h63 : n + m ≤ maxLen) (hbytes : (n + m) * bytes ≤ 140737488355328) (hbase : base ≤ w.heap.size)
    (h : ∀ v' w', w'.ownsRow base e size v' (n + m) (xs ++ news) → w.grownBy w' v.ownBlock → (v'.ownBlock = v.ownBlock ∨ v'.ownBlock = some w.heap.size) → wpList P ops Q rest (a.put o.dst v') w') : wpList P ops Q (o :: rest) a w :=
  wpList_plain hgd fun _ hK => wp_append_any w s x t ho base e i z size bytes ht hi hz hsize hby hzs hsz v n xs hs hown B A m c news hx hr h1 h63 hbytes hbase fun v' w' h2 h3 h4 => hK _ _ (h v' w' h2 h3 h4)

theorem step_append_any {ops : Array Oper} {o : Oper} {a : Act} {K : Act → World → Prop} {Q : Exit → Act → World → Prop} {E : Prop} (hgd : o.guard = none) (s x : Operand) (t : TypeId)
    (ho : o.op = .call { callee := .builtin .append, args := #[s, x], argTypes := #[t, t] })
    (base : Nat) (e : TypeId) (i : TypeInfo) (z : Value) (size bytes : Nat) (ht : P.underlying t = some (.slice e)) (hi : P.info? e = some i) (hz : i.zero = some z)
    (hsize : i.size = size) (hby : i.bytes = bytes) (hzs : z.cells.size = size) (hsz : 0 < size)
    (v : Value) (n : Nat) (xs : List Value) (hs : a.eval s = v) (hown : w.ownsRow base e size v n xs)
    (B : Nat) (A : Option Addr) (m c : Nat) (news : List Value) (hx : a.eval x = .slice A m c) (hr : Reads w B size A m news) (h1 : ∀ u ∈ news, u.oneCell' = true)
    (h63 : n + m ≤ maxLen) (hbytes : (n + m) * bytes ≤ 140737488355328) (hbase : base ≤ w.heap.size)
    (h : ∀ v' w', w'.ownsRow base e size v' (n + m) (xs ++ news) → w.grownBy w' v.ownBlock → (v'.ownBlock = v.ownBlock ∨ v'.ownBlock = some w.heap.size) → K (a.put o.dst v') w') :
    if Region.wanted o (yielded ops a.tmps) = true then Oper.wp P o a w K Q else E := by
  have hw : Region.wanted o (yielded ops a.tmps) = true := by simp [Region.wanted, hgd]
  rw [if_pos hw]
  exact wp_append_any w s x t ho base e i z size bytes ht hi hz hsize hby hzs hsz v n xs hs hown B A m c news hx hr h1 h63 hbytes hbase h
end

/-- The value of an owned row is a slice. -/
theorem own_slice {w : World} {base : Nat} {e : TypeId} {size : Nat} {v : Value} {n : Nat} {xs : List Value} (h : w.ownsRow base e size v n xs) : ∃ A c, v = .slice A n c := by
  rcases h.2 with ⟨rfl, rfl⟩ | ⟨g, cap, cur, rfl, _⟩
  · exact ⟨none, 0, rfl⟩
  · exact ⟨_, _, rfl⟩

section
variable {P : Program} (w : World)
theorem step_append_s {ops : Array Oper} {o : Oper} {a : Act} {K : Act → World → Prop} {Q : Exit → Act → World → Prop} {E : Prop} (hgd : o.guard = none) (s x : Operand) (t : TypeId)
    (ho : o.op = .call { callee := .builtin .append, args := #[s, x], argTypes := #[t, t] })
    (base : Nat) (e : TypeId) (i : TypeInfo) (z : Value) (size bytes : Nat) (ht : P.underlying t = some (.slice e)) (hi : P.info? e = some i) (hz : i.zero = some z)
    (hsize : i.size = size) (hby : i.bytes = bytes) (hzs : z.cells.size = size) (hsz : 0 < size)
    (v : Value) (n : Nat) (xs : List Value) (hs : a.eval s = v) (hown : w.ownsRow base e size v n xs)
    (B : Nat) (A : Option Addr) (m c : Nat) (news : List Value) (hx : a.eval x = .slice A m c) (hr : Reads w B size A m news) (h1 : ∀ u ∈ news, u.oneCell' = true)
    (h63 : n + m ≤ maxLen) (hbytes : (n + m) * bytes ≤ 140737488355328) (hbase : base ≤ w.heap.size)
    (h : ∀ A' c' w', w'.ownsRow base e size (.slice A' (n + m) c') (n + m) (xs ++ news) → w.grownBy w' v.ownBlock → ((Value.slice A' (n + m) c').ownBlock = v.ownBlock ∨ (Value.slice A' (n + m) c').ownBlock = some w.heap.size) → K (a.put o.dst (.slice A' (n + m) c')) w') :
    if Region.wanted o (yielded ops a.tmps) = true then Oper.wp P o a w K Q else E :=
  step_append_any w hgd s x t ho base e i z size bytes ht hi hz hsize hby hzs hsz v n xs hs hown B A m c news hx hr h1 h63 hbytes hbase fun v' w' h2 h3 h4 => by
    obtain ⟨A', c', rfl⟩ := own_slice h2
    exact h A' c' w' h2 h3 h4
theorem wpList_append_s {ops : Array Oper} {rest : List Oper} {o : Oper} {a : Act} {Q : Exit → Act → World → Prop} (hgd : o.guard = none) (s x : Operand) (t : TypeId)
    (ho : o.op = .call { callee := .builtin .append, args := #[s, x], argTypes := #[t, t] })
    (base : Nat) (e : TypeId) (i : TypeInfo) (z : Value) (size bytes : Nat) (ht : P.underlying t = some (.slice e)) (hi : P.info? e = some i) (hz : i.zero = some z)
    (hsize : i.size = size) (hby : i.bytes = bytes) (hzs : z.cells.size = size) (hsz : 0 < size)
    (v : Value) (n : Nat) (xs : List Value) (hs : a.eval s = v) (hown : w.ownsRow base e size v n xs)
    (B : Nat) (A : Option Addr) (m c : Nat) (news : List Value) (hx : a.eval x = .slice A m c) (hr : Reads w B size A m news) (h1 : ∀ u ∈ news, u.oneCell' = true)
    (h63 : n + m ≤ maxLen) (hbytes : (n + m) * bytes ≤ 140737488355328) (hbase : base ≤ w.heap.size)
    (h : ∀ A' c' w', w'.ownsRow base e size (.slice A' (n + m) c') (n + m) (xs ++ news) → w.grownBy w' v.ownBlock → ((Value.slice A' (n + m) c').ownBlock = v.ownBlock ∨ (Value.slice A' (n + m) c').ownBlock = some w.heap.size) → wpList P ops Q rest (a.put o.dst (.slice A' (n + m) c')) w') : wpList P ops Q (o :: rest) a w :=
  wpList_append_any w hgd s x t ho base e i z size bytes ht hi hz hsize hby hzs hsz v n xs hs hown B A m c news hx hr h1 h63 hbytes hbase fun v' w' h2 h3 h4 => by
    obtain ⟨A', c', rfl⟩ := own_slice h2
    exact h A' c' w' h2 h3 h4
end

/-- An owned row is kept where an append onto the nil slice has grown. -/
theorem own_nil {w w' : World} {base : Nat} {e : TypeId} {size : Nat} {v : Value} {n : Nat} {xs : List Value} (h : w.ownsRow base e size v n xs) (hg : w.grownBy w' (Value.slice none 0 0).ownBlock) : w'.ownsRow base e size v n xs :=
  h.kept hg (by cases hv : v.ownBlock <;> simp [Value.ownBlock])
/-- Rows of different element types never share a block. -/
theorem own_ne {w : World} {base base' : Nat} {e e' : TypeId} {size size' : Nat} {v v' : Value} {n n' : Nat} {xs xs' : List Value} (h : w.ownsRow base e size v n xs) (h' : w.ownsRow base' e' size' v' n' xs') (hne : e ≠ e') : v.ownBlock = none ∨ v.ownBlock ≠ v'.ownBlock := by
  rcases h.2 with ⟨rfl, _⟩ | ⟨g, cap, cur, rfl, _, hg, _⟩
  · exact .inl rfl
  · right
    rcases h'.2 with ⟨rfl, _⟩ | ⟨g', cap', cur', rfl, _, hg', _⟩
    · intro h; cases h
    · intro h
      have e1 : g = g' := by injection h
      subst e1
      rw [hg] at hg'
      injection hg' with q
      injection q with _ q2
      exact hne q2
theorem own_keep_ne {w w' : World} {base base' : Nat} {e e' : TypeId} {size size' : Nat} {v v' : Value} {n n' : Nat} {xs xs' : List Value} (h : w.ownsRow base e size v n xs) (h' : w.ownsRow base' e' size' v' n' xs') (hne : e ≠ e') (hg : w.grownBy w' v'.ownBlock) : w'.ownsRow base e size v n xs :=
  h.kept hg (own_ne h h' hne)
theorem own_ge {w : World} {base : Nat} {e : TypeId} {size : Nat} {v : Value} {n : Nat} {xs : List Value} (h : w.ownsRow base e size v n xs) {B : Nat} (hB : B ≤ base) : ∀ k, v.ownBlock = some k → B ≤ k := fun k hk => Nat.le_trans hB (h.lt k hk).1
theorem own_notin {w : World} {base : Nat} {e : TypeId} {size : Nat} {v : Value} {n : Nat} {xs : List Value} (h : w.ownsRow base e size v n xs) {B : Nat} (hB : B < base) : some B ≠ v.ownBlock := fun hk => by
  have := (h.lt B hk.symm).1; omega

/-! ### From the data to cells -/

theorem IsStrs.reads {w : World} {S : Nat → Prop} {hi : Nat} {a : Option Addr} {n c : Nat} {ks : List ByteArray} (h : IsStrs w S (.slice a n c) ks) (hS : ∀ b, S b → b < hi) :
    n = ks.length ∧ Reads w hi 1 a ks.length (ks.map .string) := by
  obtain ⟨a', c', e, _, _, _, hc⟩ := h
  injection e with e1 e2 e3
  subst e1 e2 e3
  refine ⟨rfl, by simp, fun h0 => ?_⟩
  obtain ⟨b, o, hb, rfl, hx⟩ := hc h0
  refine ⟨_, rfl, hS b hb, fun j u hu => ?_⟩
  rw [Addr.add_lit]
  have hj : j < ks.length := by
    rcases Nat.lt_or_ge j ks.length with h | h
    · exact h
    · rw [List.getElem?_eq_none (by simpa using h)] at hu; cases hu
  rw [hx j hj]
  simp [hj] at hu
  simp [List.getD, hj, hu]

theorem ones_take {xs : List Value} {k : Nat} (h : ∀ u ∈ xs, u.oneCell' = true) : ∀ u ∈ xs.take k, u.oneCell' = true := fun u hu => h u (List.mem_of_mem_take hu)
theorem ones_drop {xs : List Value} {k : Nat} (h : ∀ u ∈ xs, u.oneCell' = true) : ∀ u ∈ xs.drop k, u.oneCell' = true := fun u hu => h u (List.mem_of_mem_drop hu)
theorem strs_one {ks : List ByteArray} : ∀ u ∈ ks.map Value.string, u.oneCell' = true := by
  intro u hu
  obtain ⟨s, _, rfl⟩ := List.mem_map.1 hu
  rfl

/-- The cells of a list of values, six each. -/
def VCells (w : World) (S : Nat → Prop) : List GV → List Value → Prop
  | [], xs => xs = []
  | x :: r, xs => ∃ c0 c1 c2 c3 c4 c5 r', xs = c0 :: c1 :: c2 :: c3 :: c4 :: c5 :: r' ∧ IsV w S x (.agg #[c0, c1, c2, c3, c4, c5]) ∧ VCells w S r r'

section
variable {w w' : World} {S S' : Nat → Prop}
theorem VCells.keep (h : ∀ b, S b → w'.heap[b]? = w.heap[b]?) (hs : ∀ b, S b → S' b) : ∀ {l : List GV} {xs : List Value}, VCells w S l xs → VCells w' S' l xs
  | [], _, hv => hv
  | x :: r, _, hv => by
    obtain ⟨c0, c1, c2, c3, c4, c5, r', e, hx, hr⟩ := hv
    exact ⟨c0, c1, c2, c3, c4, c5, r', e, hx.keep h hs, hr.keep h hs⟩
theorem VCells.length : ∀ {l : List GV} {xs : List Value}, VCells w S l xs → xs.length = l.length * 6
  | [], _, hv => by unfold VCells at hv; subst hv; rfl
  | x :: r, _, hv => by
    obtain ⟨c0, c1, c2, c3, c4, c5, r', rfl, _, hr⟩ := hv
    simp [hr.length]; omega
theorem VCells.app : ∀ {l : List GV} {xs : List Value} {l' : List GV} {xs' : List Value}, VCells w S l xs → VCells w S l' xs' → VCells w S (l ++ l') (xs ++ xs')
  | [], _, _, _, hv, hv' => by unfold VCells at hv; subst hv; exact hv'
  | x :: r, _, _, _, hv, hv' => by
    obtain ⟨c0, c1, c2, c3, c4, c5, r', rfl, hx, hr⟩ := hv
    exact ⟨c0, c1, c2, c3, c4, c5, _, rfl, hx, hr.app hv'⟩
theorem VCells.take : ∀ {l : List GV} {xs : List Value} (i : Nat), VCells w S l xs → VCells w S (l.take i) (xs.take (i * 6))
  | [], _, i, hv => by unfold VCells at hv; subst hv; simp [VCells]
  | x :: r, _, 0, hv => by simp [VCells]
  | x :: r, _, i + 1, hv => by
    obtain ⟨c0, c1, c2, c3, c4, c5, r', rfl, hx, hr⟩ := hv
    rw [show (i + 1) * 6 = i * 6 + 1 + 1 + 1 + 1 + 1 + 1 by omega]
    simp only [List.take_succ_cons]
    exact ⟨c0, c1, c2, c3, c4, c5, _, rfl, hx, hr.take i⟩
theorem VCells.drop : ∀ {l : List GV} {xs : List Value} (i : Nat), VCells w S l xs → VCells w S (l.drop i) (xs.drop (i * 6))
  | [], _, i, hv => by unfold VCells at hv; subst hv; simp [VCells]
  | x :: r, _, 0, hv => by simpa using hv
  | x :: r, _, i + 1, hv => by
    obtain ⟨c0, c1, c2, c3, c4, c5, r', rfl, hx, hr⟩ := hv
    rw [show (i + 1) * 6 = i * 6 + 1 + 1 + 1 + 1 + 1 + 1 by omega]
    simp only [List.drop_succ_cons]
    exact hr.drop i
theorem VCells.one {x : GV} {c0 c1 c2 c3 c4 c5 : Value} (hx : IsV w S x (.agg #[c0, c1, c2, c3, c4, c5])) : VCells w S [x] [c0, c1, c2, c3, c4, c5] := ⟨c0, c1, c2, c3, c4, c5, [], rfl, hx, rfl⟩
theorem VCells.ones : ∀ {l : List GV} {xs : List Value}, VCells w S l xs → ∀ u ∈ xs, u.oneCell' = true
  | [], _, hv => by unfold VCells at hv; subst hv; simp
  | x :: r, _, hv => by
    obtain ⟨c0, c1, c2, c3, c4, c5, r', rfl, hx, hr⟩ := hv
    obtain ⟨a0, d0, a1, d1, e⟩ := hx.form
    injection e with e
    simp only [Array.mk.injEq, List.cons.injEq, and_true] at e
    obtain ⟨rfl, rfl, rfl, rfl, rfl, rfl⟩ := e
    intro u hu
    simp only [List.mem_cons] at hu
    rcases hu with rfl | rfl | rfl | rfl | rfl | rfl | hu <;> first | rfl | exact hr.ones u hu

/-- Values in memory, as a list of cells. -/
theorem IsVs.toCells : ∀ {l : List GV} {b o : Nat}, IsVs w S l b o → ∃ xs, VCells w S l xs ∧ ∀ j u, xs[j]? = some u → w.cell? ⟨b, o + j, none⟩ = some u
  | [], _, _, _ => ⟨[], rfl, fun j u h => by simp at h⟩
  | x :: r, b, o, hv => by
    unfold IsVs at hv
    obtain ⟨⟨c0, c1, c2, c3, c4, c5, g0, g1, g2, g3, g4, g5, hx⟩, hr⟩ := hv
    obtain ⟨xs, h1, h2⟩ := IsVs.toCells hr
    refine ⟨c0 :: c1 :: c2 :: c3 :: c4 :: c5 :: xs, ⟨c0, c1, c2, c3, c4, c5, xs, rfl, hx, h1⟩, fun j u hu => ?_⟩
    match j, hu with
    | 0, hu => simp at hu; subst hu; exact g0
    | 1, hu => simp at hu; subst hu; exact g1
    | 2, hu => simp at hu; subst hu; exact g2
    | 3, hu => simp at hu; subst hu; exact g3
    | 4, hu => simp at hu; subst hu; exact g4
    | 5, hu => simp at hu; subst hu; exact g5
    | j + 6, hu =>
      have := h2 j u (by simpa using hu)
      rwa [show o + 6 + j = o + (j + 6) by omega] at this

theorem VCells.row : ∀ {l : List GV} {xs : List Value} {b o : Nat}, VCells w S l xs → (∀ j u, xs[j]? = some u → w.cell? ⟨b, o + j, none⟩ = some u) → IsVs w S l b o
  | [], _, _, _, _, _ => by unfold IsVs; trivial
  | x :: r, _, b, o, hv, hc => by
    obtain ⟨c0, c1, c2, c3, c4, c5, r', rfl, hx, hr⟩ := hv
    unfold IsVs
    refine ⟨⟨c0, c1, c2, c3, c4, c5, hc 0 _ rfl, hc 1 _ rfl, hc 2 _ rfl, hc 3 _ rfl, hc 4 _ rfl, hc 5 _ rfl, hx⟩, hr.row (fun j u hj => ?_)⟩
    have := hc (j + 6) u (by simpa using hj)
    rwa [show o + 6 + j = o + (j + 6) by omega]

/-- A slice of strings that the call made. -/
theorem IsStrs.of_own {base : Nat} {v : Value} {ks : List ByteArray} (h : w.ownsRow base 9 1 v ks.length (ks.map .string)) (hS : ∀ b, v.ownBlock = some b → S b) (hl : ks.length * 16 ≤ 140737488351232) (hz : ∀ s ∈ ks, s.size ≤ maxLen) :
    IsStrs w S v ks := by
  rcases h.2 with ⟨rfl, h0⟩ | ⟨g, cap, cur, rfl, hb, hg, hn, hm, hs, ht⟩
  · exact ⟨none, 0, by rw [h0], by omega, hl, hz, fun h => by omega⟩
  · refine ⟨_, cap, rfl, hn, hl, hz, fun _ => ⟨g, 0, hS g rfl, rfl, fun i hi => ?_⟩⟩
    have := h.cells (g := g) rfl i (.string (ks.getD i ByteArray.empty)) (by simp [hi, List.getD])
    rwa [Addr.add_lit] at this

/-- A slice of values that the call made. -/
theorem rows_of_own {base : Nat} {v : Value} {l : List GV} {xs : List Value} (h : w.ownsRow base 26 6 v l.length xs) (hS : ∀ b, v.ownBlock = some b → S b) (hv : VCells w S l xs) :
    ∃ a c, v = .slice a l.length c ∧ l.length ≤ c ∧ (l = [] ∨ ∃ b o, S b ∧ a = some ⟨b, o, none⟩ ∧ IsVs w S l b o) := by
  rcases h.2 with ⟨rfl, h0⟩ | ⟨g, cap, cur, rfl, hb, hg, hn, hm, hs, ht⟩
  · exact ⟨none, 0, by rw [h0], by omega, .inl (List.length_eq_zero_iff.1 h0)⟩
  · refine ⟨_, cap, rfl, hn, .inr ⟨g, 0, hS g rfl, rfl, hv.row fun j u hu => ?_⟩⟩
    have := h.cells (g := g) rfl j u hu
    rwa [Addr.add_lit] at this
end

/-- What a struct value's two slices hold, as cells. -/
theorem IsV.rows {w : World} {S : Nat → Prop} {hi : Nat} {m : GV} {c0 c1 c2 c3 : Value} {a0 a1 : Option Addr} {n0 d0 n1 d1 : Nat} (h : IsV w S m (.agg #[c0, c1, c2, c3, .slice a0 n0 d0, .slice a1 n1 d1])) (hS : ∀ b, S b → b < hi) :
    m.keys.length ≤ d0 ∧ m.keys.length * 16 ≤ 140737488351232 ∧ (∀ s ∈ m.keys, s.size ≤ maxLen) ∧ Reads w hi 1 a0 m.keys.length (m.keys.map .string) ∧ m.l.length ≤ d1 ∧ m.l.length * 88 ≤ 140737488351232 ∧
      ∃ xs, VCells w S m.l xs ∧ Reads w hi 6 a1 m.l.length xs := by
  obtain ⟨kd, n, f, s, ks, l⟩ := m
  unfold IsV at h
  obtain ⟨vk, a, c, e, _, _, _, _, hk, h8, h6, h7⟩ := h
  injection e with e
  simp only [Array.mk.injEq, List.cons.injEq, and_true, Value.slice.injEq] at e
  obtain ⟨_, _, _, _, rfl, rfl, rfl, rfl⟩ := e
  obtain ⟨hn, hr⟩ := hk.reads hS
  subst hn
  obtain ⟨a', c', e', hle, hl, hz, _⟩ := hk
  injection e' with e1 e2 e3
  subst e1 e3
  refine ⟨hle, hl, hz, hr, h8, h6, ?_⟩
  rcases h7 with rfl | ⟨b, o, hb, rfl, hv⟩
  · exact ⟨[], rfl, by simp [GV.l], fun h => by simp [GV.l] at h⟩
  · obtain ⟨xs, hx, hc⟩ := hv.toCells
    refine ⟨xs, hx, hx.length, fun _ => ⟨_, rfl, hS b hb, fun j u hu => ?_⟩⟩
    rw [Addr.add_lit]
    exact hc j u hu

theorem Reads.take_ {w : World} {B size n k : Nat} {A : Option Addr} {xs : List Value} (h : Reads w B size A n xs) (hk : k ≤ n) : Reads w B size A k (xs.take (k * size)) := by
  refine ⟨by rw [List.length_take, h.1]; exact Nat.min_eq_left (Nat.mul_le_mul_right _ hk), fun h0 => ?_⟩
  obtain ⟨ad, e, hb, hc⟩ := h.2 (by omega)
  refine ⟨ad, e, hb, fun j u hu => hc j u ?_⟩
  rw [List.getElem?_take] at hu
  split at hu
  · exact hu
  · cases hu

/-! ### Slices of slices -/
/-- The address of s[l:]. -/
def sufA (a : Option Addr) (cap l size : Nat) : Option Addr := if cap = l then a else a.map (·.add (l * size))

section
variable {P : Program} {t e : TypeId} {a : Option Addr} {len cap h l size : Nat} {k : IntKind}
/-- s[:h] -/
theorem run_slice_pre (ht : P.underlying t = some (.slice e)) (hs : ∀ w, (sizeOf e).run P w = .ok size w) (hh : h ≤ cap) (w : World) :
    (Instr.slice t (.slice a len cap) none (some (.int k (h : Int))) none).run P w = .ok (.slice a h cap) w := by
  have hb : (Instr.sliceBounds true len cap none (some (.int k (h : Int))) none).run P w = .ok (0, h, cap) w := by
    have h1 : (0 : Int) ≤ (h : Int) ∧ (h : Int) ≤ (cap : Int) := by omega
    simp [Instr.sliceBounds, Instr.sliceBound, asIntOf, h1.1, hh]
  simp only [Instr.slice, Sem.run_bind, run_underlying ht, Result.andThen, hb, hs]
  simp
  cases a <;> simp [Addr.add]
/-- s[l:] -/
theorem run_slice_suf (ht : P.underlying t = some (.slice e)) (hs : ∀ w, (sizeOf e).run P w = .ok size w) (hh : l ≤ len) (w : World) :
    (Instr.slice t (.slice a len cap) (some (.int k (l : Int))) none none).run P w = .ok (.slice (sufA a cap l size) (len - l) (cap - l)) w := by
  have hb : (Instr.sliceBounds true len cap (some (.int k (l : Int))) none none).run P w = .ok (l, len, cap) w := by
    simp [Instr.sliceBounds, Instr.sliceBound, asIntOf, hh]
  simp only [Instr.slice, Sem.run_bind, run_underlying ht, Result.andThen, hb, hs]
  rfl
end

/-! ### Six cells stored one after the other -/
def st6 (w : World) (b : Nat) (c0 c1 c2 c3 c4 c5 : Value) : World :=
  (((((w.setCell ⟨b, 0, none⟩ c0).setCell ⟨b, 1, none⟩ c1).setCell ⟨b, 2, none⟩ c2).setCell ⟨b, 3, none⟩ c3).setCell ⟨b, 4, none⟩ c4).setCell ⟨b, 5, none⟩ c5
section
variable {w : World} {b : Nat} {c0 c1 c2 c3 c4 c5 : Value}
theorem st6_below {B : Nat} {w0 : World} (h : Below B w0 w) (hb : B ≤ b) : Below B w0 (st6 w b c0 c1 c2 c3 c4 c5) :=
  (((((h.setCell hb _).setCell hb _).setCell hb _).setCell hb _).setCell hb _).setCell hb _
theorem st6_size : (st6 w b c0 c1 c2 c3 c4 c5).heap.size = w.heap.size := by simp [st6]
theorem st6_own {base : Nat} {e : TypeId} {size : Nat} {v : Value} {n : Nat} {xs : List Value} (h : w.ownsRow base e size v n xs) (hb : b < base) : (st6 w b c0 c1 c2 c3 c4 c5).ownsRow base e size v n xs :=
  ownsRow_setCell_below (ownsRow_setCell_below (ownsRow_setCell_below (ownsRow_setCell_below (ownsRow_setCell_below (ownsRow_setCell_below h hb _) hb _) hb _) hb _) hb _) hb _
theorem st6_blk {d0 d1 d2 d3 d4 d5 : Value} {t : TypeId} (h : w.heap[b]? = some (.cells #[d0, d1, d2, d3, d4, d5] t (0, 0))) : (st6 w b c0 c1 c2 c3 c4 c5).heap[b]? = some (.cells #[c0, c1, c2, c3, c4, c5] t (0, 0)) :=
  blk_set (blk_set (blk_set (blk_set (blk_set (blk_set h 0 c0) 1 c1) 2 c2) 3 c3) 4 c4) 5 c5
theorem st6_eq {k : Nat} (hk : k ≠ b) : (st6 w b c0 c1 c2 c3 c4 c5).heap[k]? = w.heap[k]? := by
  unfold st6
  rw [Below.heap_setCell _ _ _ _ hk, Below.heap_setCell _ _ _ _ hk, Below.heap_setCell _ _ _ _ hk, Below.heap_setCell _ _ _ _ hk, Below.heap_setCell _ _ _ _ hk, Below.heap_setCell _ _ _ _ hk]
theorem st6_far {k : Nat} {o : Obj} (h : w.heap[k]? = some o) (hk : k ≠ b) : (st6 w b c0 c1 c2 c3 c4 c5).heap[k]? = some o :=
  blk_far (blk_far (blk_far (blk_far (blk_far (blk_far h hk _) hk _) hk _) hk _) hk _) hk _
end

/-- An impl.Value put together. -/
theorem IsV.mk_ {w : World} {S : Nat → Prop} {kd n : Int} {f : Nat} {s : ByteArray} {ks : List ByteArray} {l : List GV} {vk vl : Value} (h1 : (Lit.int .i64 kd).wf = true) (h2 : (Lit.int .i64 n).wf = true) (h3 : (Lit.float .f64 f).wf = true) (h4 : s.size ≤ maxLen)
    (hk : IsStrs w S vk ks) (hl : l.length * 88 ≤ 140737488351232) (hv : ∃ a c, vl = .slice a l.length c ∧ l.length ≤ c ∧ (l = [] ∨ ∃ b o, S b ∧ a = some ⟨b, o, none⟩ ∧ IsVs w S l b o)) : IsV w S (.mk kd n f s ks l) (.agg #[.int .i64 kd, .int .i64 n, .float .f64 f, .string s, vk, vl]) := by
  obtain ⟨a, c, rfl, hc, hv⟩ := hv
  unfold IsV
  exact ⟨vk, a, c, rfl, h1, h2, h3, h4, hk, hc, hl, hv⟩

/-- The two slices of a struct value. -/
theorem IsV.slices {w : World} {S : Nat → Prop} {m : GV} {c0 c1 c2 c3 kv lv : Value} (h : IsV w S m (.agg #[c0, c1, c2, c3, kv, lv])) :
    c0 = .int .i64 m.kind ∧ c1 = .int .i64 m.n ∧ c2 = .float .f64 m.f ∧ c3 = .string m.s ∧ ∃ a0 d0 a1 d1, kv = .slice a0 m.keys.length d0 ∧ lv = .slice a1 m.l.length d1 := by
  obtain ⟨a0, d0, a1, d1, e⟩ := h.form
  injection e with e
  simp only [Array.mk.injEq, List.cons.injEq, and_true] at e
  obtain ⟨rfl, rfl, rfl, rfl, rfl, rfl⟩ := e
  exact ⟨rfl, rfl, rfl, rfl, a0, d0, a1, d1, rfl, rfl⟩
end Go.Proofs.Ytlghpcokbppkfaa
