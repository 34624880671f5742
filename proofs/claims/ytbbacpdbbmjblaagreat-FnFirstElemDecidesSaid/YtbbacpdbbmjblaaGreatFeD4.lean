/- Part 4 of what the proof rests on. -/
import Derived.Maps.AppendAt
import Derived.Deep.AppendLies
import Derived.Deep.Draws
import Derived.RegionTactic
import Derived.Maps.RangeRun
import Derived.Maps.RangeWalk
import Derived.WalkKit
import Derived.OrdersHeld
import Derived.Deep.RegionHeld3
import Derived.Deep.QuietTactic
import Derived.BigQuiet
import Derived.Deep.DeepCutAuto
import Derived.Deep.DeepFit
import Derived.Test.YtbbacpdbbmjblaaGreatFeD1
import Derived.Test.YtbbacpdbbmjblaaGreatFeD3
section
namespace Go.Proofs.YtbbacpdbbmjblaaGreat
open Go.RowKit
theorem block_of_add (a : Addr) (n : Nat) : (a.add n).block = a.block := by unfold Addr.add; split <;> rfl
theorem add_of_add (a : Addr) (i j : Nat) : (a.add i).add j = a.add (i + j) := by
  unfold Addr.add
  by_cases hi : i = 0 <;> by_cases hj : j = 0 <;> simp [hi, hj, Nat.add_assoc]
def Reads (w : World) (B size : Nat) (A : Option Addr) (n : Nat) (xs : List Value) : Prop :=
  xs.length = n * size ∧ (0 < n → ∃ ad, A = some ad ∧ ad.block < B ∧ ∀ j u, xs[j]? = some u → w.cell? (ad.add j) = some u)
section
variable {w w' : World} {B B' size n : Nat} {A : Option Addr} {xs : List Value}
theorem Reads.keep (h : Reads w B size A n xs) (hk : ∀ p : Addr, p.block < B → w'.cell? p = w.cell? p) : Reads w' B size A n xs :=
  ⟨h.1, fun hn => by
    obtain ⟨ad, e, hb, hc⟩ := h.2 hn
    exact ⟨ad, e, hb, fun j u hu => (hk _ (by rw [block_of_add]; exact hb)).trans (hc j u hu)⟩⟩
theorem Reads.more (h : Reads w B size A n xs) (hB : B ≤ B') : Reads w B' size A n xs :=
  ⟨h.1, fun hn => by
    obtain ⟨ad, e, hb, hc⟩ := h.2 hn
    exact ⟨ad, e, by omega, hc⟩⟩
theorem Reads.below (h : Reads w B size A n xs) (hb : Below B w w') : Reads w' B size A n xs := h.keep fun _ hp => hb.cell hp
theorem Reads.drew (h : Reads w B size A n xs) : Reads w.drew B size A n xs := h
theorem Reads.alloc (h : Reads w B size A n xs) (hB : B ≤ w.heap.size) (o : Obj) : Reads (w.alloc o) B size A n xs := h.keep fun p hp => World.cell?_alloc_lt w o p (by omega)
theorem Reads.cut (h : Reads w B size A n xs) {k cap : Nat} (hk : k ≤ n) (hc : n ≤ cap) :
    Reads w B size (if cap = k then A else A.map (·.add (k * size))) (n - k) (xs.drop (k * size)) := by
  refine ⟨by rw [List.length_drop, h.1, Nat.sub_mul], fun hn => ?_⟩
  obtain ⟨ad, rfl, hb, hcell⟩ := h.2 (by omega)
  rw [if_neg (by omega)]
  refine ⟨ad.add (k * size), rfl, by rw [block_of_add]; exact hb, fun j u hu => ?_⟩
  rw [add_of_add]
  exact hcell _ u (by rw [← hu, List.getElem?_drop])
end
section
variable {P : Program} (w : World)
theorem run_append_of_nil (base : Nat) (t ty e : TypeId) (i : TypeInfo) (size : Nat) (ht : P.underlying t = some (.slice e)) (hi : P.info? e = some i)
    (v : Value) (n : Nat) (xs : List Value) (hown : w.ownsRow base e size v n xs) (c : Nat) : (Builtin.append_ #[t, t] ty #[v, .slice none 0 c]).run P w = .ok v w := by
  rcases hown.2 with ⟨rfl, rfl⟩ | ⟨g, cap, cur, rfl, _, _, hnc, _⟩
  · simp [Builtin.append_, run_underlying ht, sizeOf, typeInfo, hi, Builtin.lenOf, Builtin.firstCells]
  · simp [Builtin.append_, run_underlying ht, sizeOf, typeInfo, hi, Builtin.lenOf, Builtin.firstCells, hnc, storeCells]
theorem run_append_any (base : Nat) (t ty e : TypeId) (i : TypeInfo) (z : Value) (size bytes : Nat) (ht : P.underlying t = some (.slice e)) (hi : P.info? e = some i) (hz : i.zero = some z)
    (hsize : i.size = size) (hby : i.bytes = bytes) (hzs : z.cells.size = size) (hsz : 0 < size)
    (v : Value) (n : Nat) (xs : List Value) (hown : w.ownsRow base e size v n xs)
    (B : Nat) (A : Option Addr) (m c : Nat) (news : List Value) (hr : Reads w B size A m news) (h1 : ∀ u ∈ news, u.oneCell' = true)
    (h63 : n + m ≤ maxLen) (hbytes : (n + m) * bytes ≤ 140737488355328) (hbase : base ≤ w.heap.size) :
    ∃ v' w', (Builtin.append_ #[t, t] ty #[v, .slice A m c]).run P w = .ok v' w' ∧ w'.ownsRow base e size v' (n + m) (xs ++ news) ∧ w.grownBy w' v.ownBlock ∧
      (v'.ownBlock = v.ownBlock ∨ v'.ownBlock = some w.heap.size) := by
  rcases A with _ | ad
  · have hm : m = 0 := by
      rcases Nat.eq_zero_or_pos m with h0 | h0
      · exact h0
      · obtain ⟨ad, h, _⟩ := hr.2 h0
        cases h
    subst hm
    have hn : news = [] := List.eq_nil_of_length_eq_zero (by simpa using hr.1)
    subst hn
    exact ⟨v, w, run_append_of_nil w base t ty e i size ht hi v n xs hown c, by simpa using hown, World.grownBy.refl w _, .inl rfl⟩
  · have hcells : ∀ j u, news[j]? = some u → w.cell? (ad.add j) = some u := by
      intro j u hu
      rcases Nat.eq_zero_or_pos m with h0 | h0
      · subst h0
        have hn : news = [] := List.eq_nil_of_length_eq_zero (by simpa using hr.1)
        subst hn
        simp at hu
      · obtain ⟨ad', h, _, hc⟩ := hr.2 h0
        injection h with h
        subst h
        exact hc j u hu
    obtain ⟨v', w', hrun, h2, h3, _, h5⟩ := run_append_own_at (P := P) w base t ty e i z size bytes ht hi hz hsize hby hzs hsz v n xs hown ad m c news hr.1 hcells h1 h63 hbytes hbase
    exact ⟨v', w', hrun, h2, h3, h5⟩
theorem wp_append_any {o : Oper} {a : Act} {K : Act → World → Prop} {Q : Exit → Act → World → Prop} (s x : Operand) (t : TypeId)
    (ho : o.op = .call { callee := .builtin .append, args := #[s, x], argTypes := #[t, t] })
    (base : Nat) (e : TypeId) (i : TypeInfo) (z : Value) (size bytes : Nat) (ht : P.underlying t = some (.slice e)) (hi : P.info? e = some i) (hz : i.zero = some z)
    (hsize : i.size = size) (hby : i.bytes = bytes) (hzs : z.cells.size = size) (hsz : 0 < size)
    (v : Value) (n : Nat) (xs : List Value) (hs : a.eval s = v) (hown : w.ownsRow base e size v n xs)
    (B : Nat) (A : Option Addr) (m c : Nat) (news : List Value) (hx : a.eval x = .slice A m c) (hr : Reads w B size A m news) (h1 : ∀ u ∈ news, u.oneCell' = true)
    (h63 : n + m ≤ maxLen) (hbytes : (n + m) * bytes ≤ 140737488355328) (hbase : base ≤ w.heap.size)
    (h : ∀ v' w', w'.ownsRow base e size v' (n + m) (xs ++ news) → w.grownBy w' v.ownBlock → (v'.ownBlock = v.ownBlock ∨ v'.ownBlock = some w.heap.size) → K (a.put o.dst v') w') : o.wp P a w K Q := by
  obtain ⟨v', w', hrun, h2, h3, h4⟩ := run_append_any (P := P) w base t o.type e i z size bytes ht hi hz hsize hby hzs hsz v n xs hown B A m c news hr h1 h63 hbytes hbase
  unfold Oper.wp execOp
  simp only [ho, resolve, invoke, builtin, Sem.run_bind, Sem.run_pure, Result.andThen_ok, List.map_toArray, List.map_cons, List.map_nil, hs, hx, hrun]
  exact h v' w' h2 h3 h4
theorem wpList_append_any {ops : Array Oper} {rest : List Oper} {o : Oper} {a : Act} {Q : Exit → Act → World → Prop} (hgd : o.guard = none) (s x : Operand) (t : TypeId)
    (ho : o.op = .call { callee := .builtin .append, args := #[s, x], argTypes := #[t, t] })
    (base : Nat) (e : TypeId) (i : TypeInfo) (z : Value) (size bytes : Nat) (ht : P.underlying t = some (.slice e)) (hi : P.info? e = some i) (hz : i.zero = some z)
    (hsize : i.size = size) (hby : i.bytes = bytes) (hzs : z.cells.size = size) (hsz : 0 < size)
    (v : Value) (n : Nat) (xs : List Value) (hs : a.eval s = v) (hown : w.ownsRow base e size v n xs)
    (B : Nat) (A : Option Addr) (m c : Nat) (news : List Value) (hx : a.eval x = .slice A m c) (hr : Reads w B size A m news) (h1 : ∀ u ∈ news, u.oneCell' = true)
    (h63 : n + m ≤ maxLen) (hbytes : (n + m) * bytes ≤ 140737488355328) (hbase : base ≤ w.heap.size)
    (h : ∀ v' w', w'.ownsRow base e size v' (n + m) (xs ++ news) → w.grownBy w' v.ownBlock → (v'.ownBlock = v.ownBlock ∨ v'.ownBlock = some w.heap.size) → wpList P ops Q rest (a.put o.dst v') w') : wpList P ops Q (o :: rest) a w :=
  wpList_plain hgd fun _ hK => wp_append_any w s x t ho base e i z size bytes ht hi hz hsize hby hzs hsz v n xs hs hown B A m c news hx hr h1 h63 hbytes hbase fun v' w' h2 h3 h4 => hK _ _ (h v' w' h2 h3 h4)
theorem step_append_any {ops : Array Oper} {o : Oper} {a : Act} {K : Act → World → Prop} {Q : Exit → Act → World → Prop} {E : Prop} (hgd : o.guard = none) (s x : Operand) (t : TypeId)
    (ho : o.op = .call { callee := .builtin .append, args := #[s, x], argTypes := #[t, t] })
    (base : Nat) (e : TypeId) (i : TypeInfo) (z : Value) (size bytes : Nat) (ht : P.underlying t = some (.slice e)) (hi : P.info? e = some i) (hz : i.zero = some z)
    (hsize : i.size = size) (hby : i.bytes = bytes) (hzs : z.cells.size = size) (hsz : 0 < size)
    (v : Value) (n : Nat) (xs : List Value) (hs : a.eval s = v) (hown : w.ownsRow base e size v n xs)
    (B : Nat) (A : Option Addr) (m c : Nat) (news : List Value) (hx : a.eval x = .slice A m c) (hr : Reads w B size A m news) (h1 : ∀ u ∈ news, u.oneCell' = true)
    (h63 : n + m ≤ maxLen) (hbytes : (n + m) * bytes ≤ 140737488355328) (hbase : base ≤ w.heap.size)
    (h : ∀ v' w', w'.ownsRow base e size v' (n + m) (xs ++ news) → w.grownBy w' v.ownBlock → (v'.ownBlock = v.ownBlock ∨ v'.ownBlock = some w.heap.size) → K (a.put o.dst v') w') :
    if Region.wanted o (yielded ops a.tmps) = true then Oper.wp P o a w K Q else E := by
  have hw : Region.wanted o (yielded ops a.tmps) = true := by simp [Region.wanted, hgd]
  rw [if_pos hw]
  exact wp_append_any w s x t ho base e i z size bytes ht hi hz hsize hby hzs hsz v n xs hs hown B A m c news hx hr h1 h63 hbytes hbase h
end
/-- The value of an owned row is a slice. -/
theorem own_slice {w : World} {base : Nat} {e : TypeId} {size : Nat} {v : Value} {n : Nat} {xs : List Value} (h : w.ownsRow base e size v n xs) : ∃ A c, v = .slice A n c := by
  rcases h.2 with ⟨rfl, rfl⟩ | ⟨g, cap, cur, rfl, _⟩
  · exact ⟨none, 0, rfl⟩
  · exact ⟨_, _, rfl⟩
section
variable {P : Program} (w : World)
theorem step_append_s {ops : Array Oper} {o : Oper} {a : Act} {K : Act → World → Prop} {Q : Exit → Act → World → Prop} {E : Prop} (hgd : o.guard = none) (s x : Operand) (t : TypeId)
    (ho : o.op = .call { callee := .builtin .append, args := #[s, x], argTypes := #[t, t] })
    (base : Nat) (e : TypeId) (i : TypeInfo) (z : Value) (size bytes : Nat) (ht : P.underlying t = some (.slice e)) (hi : P.info? e = some i) (hz : i.zero = some z)
    (hsize : i.size = size) (hby : i.bytes = bytes) (hzs : z.cells.size = size) (hsz : 0 < size)
    (v : Value) (n : Nat) (xs : List Value) (hs : a.eval s = v) (hown : w.ownsRow base e size v n xs)
    (B : Nat) (A : Option Addr) (m c : Nat) (news : List Value) (hx : a.eval x = .slice A m c) (hr : Reads w B size A m news) (h1 : ∀ u ∈ news, u.oneCell' = true)
    (h63 : n + m ≤ maxLen) (hbytes : (n + m) * bytes ≤ 140737488355328) (hbase : base ≤ w.heap.size)
    (h : ∀ A' c' w', w'.ownsRow base e size (.slice A' (n + m) c') (n + m) (xs ++ news) → w.grownBy w' v.ownBlock → ((Value.slice A' (n + m) c').ownBlock = v.ownBlock ∨ (Value.slice A' (n + m) c').ownBlock = some w.heap.size) → K (a.put o.dst (.slice A' (n + m) c')) w') :
    if Region.wanted o (yielded ops a.tmps) = true then Oper.wp P o a w K Q else E :=
  step_append_any w hgd s x t ho base e i z size bytes ht hi hz hsize hby hzs hsz v n xs hs hown B A m c news hx hr h1 h63 hbytes hbase fun v' w' h2 h3 h4 => by
    obtain ⟨A', c', rfl⟩ := own_slice h2
    exact h A' c' w' h2 h3 h4
theorem wpList_append_s {ops : Array Oper} {rest : List Oper} {o : Oper} {a : Act} {Q : Exit → Act → World → Prop} (hgd : o.guard = none) (s x : Operand) (t : TypeId)
    (ho : o.op = .call { callee := .builtin .append, args := #[s, x], argTypes := #[t, t] })
    (base : Nat) (e : TypeId) (i : TypeInfo) (z : Value) (size bytes : Nat) (ht : P.underlying t = some (.slice e)) (hi : P.info? e = some i) (hz : i.zero = some z)
    (hsize : i.size = size) (hby : i.bytes = bytes) (hzs : z.cells.size = size) (hsz : 0 < size)
    (v : Value) (n : Nat) (xs : List Value) (hs : a.eval s = v) (hown : w.ownsRow base e size v n xs)
    (B : Nat) (A : Option Addr) (m c : Nat) (news : List Value) (hx : a.eval x = .slice A m c) (hr : Reads w B size A m news) (h1 : ∀ u ∈ news, u.oneCell' = true)
    (h63 : n + m ≤ maxLen) (hbytes : (n + m) * bytes ≤ 140737488355328) (hbase : base ≤ w.heap.size)
    (h : ∀ A' c' w', w'.ownsRow base e size (.slice A' (n + m) c') (n + m) (xs ++ news) → w.grownBy w' v.ownBlock → ((Value.slice A' (n + m) c').ownBlock = v.ownBlock ∨ (Value.slice A' (n + m) c').ownBlock = some w.heap.size) → wpList P ops Q rest (a.put o.dst (.slice A' (n + m) c')) w') : wpList P ops Q (o :: rest) a w :=
  wpList_append_any w hgd s x t ho base e i z size bytes ht hi hz hsize hby hzs hsz v n xs hs hown B A m c news hx hr h1 h63 hbytes hbase fun v' w' h2 h3 h4 => by
    obtain ⟨A', c', rfl⟩ := own_slice h2
    exact h A' c' w' h2 h3 h4
end
/-- An owned row is kept where an append onto the nil slice has grown. -/
theorem own_nil {w w' : World} {base : Nat} {e : TypeId} {size : Nat} {v : Value} {n : Nat} {xs : List Value} (h : w.ownsRow base e size v n xs) (hg : w.grownBy w' (Value.slice none 0 0).ownBlock) : w'.ownsRow base e size v n xs :=
  h.kept hg (by cases hv : v.ownBlock <;> simp [Value.ownBlock])
/-- Rows of different element types never share a block. -/
theorem own_ne {w : World} {base base' : Nat} {e e' : TypeId} {size size' : Nat} {v v' : Value} {n n' : Nat} {xs xs' : List Value} (h : w.ownsRow base e size v n xs) (h' : w.ownsRow base' e' size' v' n' xs') (hne : e ≠ e') : v.ownBlock = none ∨ v.ownBlock ≠ v'.ownBlock := by
  rcases h.2 with ⟨rfl, _⟩ | ⟨g, cap, cur, rfl, _, hg, _⟩
  · exact .inl rfl
  · right
    rcases h'.2 with ⟨rfl, _⟩ | ⟨g', cap', cur', rfl, _, hg', _⟩
    · intro h; cases h
    · intro h
      have e1 : g = g' := by injection h
      subst e1
      rw [hg] at hg'
      injection hg' with q
      injection q with _ q2
      exact hne q2
theorem own_keep_ne {w w' : World} {base base' : Nat} {e e' : TypeId} {size size' : Nat} {v v' : Value} {n n' : Nat} {xs xs' : List Value} (h : w.ownsRow base e size v n xs) (h' : w.ownsRow base' e' size' v' n' xs') (hne : e ≠ e') (hg : w.grownBy w' v'.ownBlock) : w'.ownsRow base e size v n xs :=
  h.kept hg (own_ne h h' hne)
theorem own_ge {w : World} {base : Nat} {e : TypeId} {size : Nat} {v : Value} {n : Nat} {xs : List Value} (h : w.ownsRow base e size v n xs) {B : Nat} (hB : B ≤ base) : ∀ k, v.ownBlock = some k → B ≤ k := fun k hk => Nat.le_trans hB (h.lt k hk).1
theorem own_notin {w : World} {base : Nat} {e : TypeId} {size : Nat} {v : Value} {n : Nat} {xs : List Value} (h : w.ownsRow base e size v n xs) {B : Nat} (hB : B < base) : some B ≠ v.ownBlock := fun hk => by
  have := (h.lt B hk.symm).1; omega
theorem IsStrs.reads {w : World} {S : Nat → Prop} {hi : Nat} {a : Option Addr} {n c : Nat} {ks : List ByteArray} (h : IsStrs w S (.slice a n c) ks) (hS : ∀ b, S b → b < hi) :
    n = ks.length ∧ Reads w hi 1 a ks.length (ks.map .string) := by
  obtain ⟨a', c', e, _, _, _, hc⟩ := h
  injection e with e1 e2 e3
  subst e1 e2 e3
  refine ⟨rfl, by simp, fun h0 => ?_⟩
  obtain ⟨b, o, hb, rfl, hx⟩ := hc h0
  refine ⟨_, rfl, hS b hb, fun j u hu => ?_⟩
  rw [Addr.add_lit]
  have hj : j < ks.length := by
    rcases Nat.lt_or_ge j ks.length with h | h
    · exact h
    · rw [List.getElem?_eq_none (by simpa using h)] at hu; cases hu
  rw [hx j hj]
  simp [hj] at hu
  simp [List.getD, hj, hu]
theorem ones_take {xs : List Value} {k : Nat} (h : ∀ u ∈ xs, u.oneCell' = true) : ∀ u ∈ xs.take k, u.oneCell' = true := fun u hu => h u (List.mem_of_mem_take hu)
theorem ones_drop {xs : List Value} {k : Nat} (h : ∀ u ∈ xs, u.oneCell' = true) : ∀ u ∈ xs.drop k, u.oneCell' = true := fun u hu => h u (List.mem_of_mem_drop hu)
theorem strs_one {ks : List ByteArray} : ∀ u ∈ ks.map Value.string, u.oneCell' = true := by
  intro u hu
  obtain ⟨s, _, rfl⟩ := List.mem_map.1 hu
  rfl
/-- The cells of a list of values, six each. -/
def VCells (w : World) (S : Nat → Prop) : List GV → List Value → Prop
  | [], xs => xs = []
  | x :: r, xs => ∃ c0 c1 c2 c3 c4 c5 r', xs = c0 :: c1 :: c2 :: c3 :: c4 :: c5 :: r' ∧ IsV w S x (.agg #[c0, c1, c2, c3, c4, c5]) ∧ VCells w S r r'
section
variable {w w' : World} {S S' : Nat → Prop}
theorem VCells.keep (h : ∀ b, S b → w'.heap[b]? = w.heap[b]?) (hs : ∀ b, S b → S' b) : ∀ {l : List GV} {xs : List Value}, VCells w S l xs → VCells w' S' l xs
  | [], _, hv => hv
  | x :: r, _, hv => by
    obtain ⟨c0, c1, c2, c3, c4, c5, r', e, hx, hr⟩ := hv
    exact ⟨c0, c1, c2, c3, c4, c5, r', e, hx.keep h hs, hr.keep h hs⟩
theorem VCells.length : ∀ {l : List GV} {xs : List Value}, VCells w S l xs → xs.length = l.length * 6
  | [], _, hv => by unfold VCells at hv; subst hv; rfl
  | x :: r, _, hv => by
    obtain ⟨c0, c1, c2, c3, c4, c5, r', rfl, _, hr⟩ := hv
    simp [hr.length]; omega
theorem VCells.app : ∀ {l : List GV} {xs : List Value} {l' : List GV} {xs' : List Value}, VCells w S l xs → VCells w S l' xs' → VCells w S (l ++ l') (xs ++ xs')
  | [], _, _, _, hv, hv' => by unfold VCells at hv; subst hv; exact hv'
  | x :: r, _, _, _, hv, hv' => by
    obtain ⟨c0, c1, c2, c3, c4, c5, r', rfl, hx, hr⟩ := hv
    exact ⟨c0, c1, c2, c3, c4, c5, _, rfl, hx, hr.app hv'⟩
theorem VCells.take : ∀ {l : List GV} {xs : List Value} (i : Nat), VCells w S l xs → VCells w S (l.take i) (xs.take (i * 6))
  | [], _, i, hv => by unfold VCells at hv; subst hv; simp [VCells]
  | x :: r, _, 0, hv => by simp [VCells]
  | x :: r, _, i + 1, hv => by
    obtain ⟨c0, c1, c2, c3, c4, c5, r', rfl, hx, hr⟩ := hv
    rw [show (i + 1) * 6 = i * 6 + 1 + 1 + 1 + 1 + 1 + 1 by omega]
    simp only [List.take_succ_cons]
    exact ⟨c0, c1, c2, c3, c4, c5, _, rfl, hx, hr.take i⟩
theorem VCells.drop : ∀ {l : List GV} {xs : List Value} (i : Nat), VCells w S l xs → VCells w S (l.drop i) (xs.drop (i * 6))
  | [], _, i, hv => by unfold VCells at hv; subst hv; simp [VCells]
  | x :: r, _, 0, hv => by simpa using hv
  | x :: r, _, i + 1, hv => by
    obtain ⟨c0, c1, c2, c3, c4, c5, r', rfl, hx, hr⟩ := hv
    rw [show (i + 1) * 6 = i * 6 + 1 + 1 + 1 + 1 + 1 + 1 by omega]
    simp only [List.drop_succ_cons]
    exact hr.drop i
theorem VCells.one {x : GV} {c0 c1 c2 c3 c4 c5 : Value} (hx : IsV w S x (.agg #[c0, c1, c2, c3, c4, c5])) : VCells w S [x] [c0, c1, c2, c3, c4, c5] := ⟨c0, c1, c2, c3, c4, c5, [], rfl, hx, rfl⟩
theorem VCells.ones : ∀ {l : List GV} {xs : List Value}, VCells w S l xs → ∀ u ∈ xs, u.oneCell' = true
  | [], _, hv => by unfold VCells at hv; subst hv; simp
  | x :: r, _, hv => by
    obtain ⟨c0, c1, c2, c3, c4, c5, r', rfl, hx, hr⟩ := hv
    obtain ⟨a0, d0, a1, d1, e⟩ := hx.form
    injection e with e
    simp only [Array.mk.injEq, List.cons.injEq, and_true] at e
    obtain ⟨rfl, rfl, rfl, rfl, rfl, rfl⟩ := e
    intro u hu
    simp only [List.mem_cons] at hu
    rcases hu with rfl | rfl | rfl | rfl | rfl | rfl | hu <;> first | rfl | exact hr.ones u hu
/-- Values in memory, as a list of cells. -/
theorem IsVs.toCells : ∀ {l : List GV} {b o : Nat}, IsVs w S l b o → ∃ xs, VCells w S l xs ∧ ∀ j u, xs[j]? = some u → w.cell? ⟨b, o + j, none⟩ = some u
  | [], _, _, _ => ⟨[], rfl, fun j u h => by simp at h⟩
  | x :: r, b, o, hv => by
    unfold IsVs at hv
    obtain ⟨⟨c0, c1, c2, c3, c4, c5, g0, g1, g2, g3, g4, g5, hx⟩, hr⟩ := hv
    obtain ⟨xs, h1, h2⟩ := IsVs.toCells hr
    refine ⟨c0 :: c1 :: c2 :: c3 :: c4 :: c5 :: xs, ⟨c0, c1, c2, c3, c4, c5, xs, rfl, hx, h1⟩, fun j u hu => ?_⟩
    match j, hu with
    | 0, hu => simp at hu; subst hu; exact g0
    | 1, hu => simp at hu; subst hu; exact g1
    | 2, hu => simp at hu; subst hu; exact g2
    | 3, hu => simp at hu; subst hu; exact g3
    | 4, hu => simp at hu; subst hu; exact g4
    | 5, hu => simp at hu; subst hu; exact g5
    | j + 6, hu =>
      have := h2 j u (by simpa using hu)
      rwa [show o + 6 + j = o + (j + 6) by omega] at this
theorem VCells.row : ∀ {l : List GV} {xs : List Value} {b o : Nat}, VCells w S l xs → (∀ j u, xs[j]? = some u → w.cell? ⟨b, o + j, none⟩ = some u) → IsVs w S l b o
  | [], _, _, _, _, _ => by unfold IsVs; trivial
  | x :: r, _, b, o, hv, hc => by
    obtain ⟨c0, c1, c2, c3, c4, c5, r', rfl, hx, hr⟩ := hv
    unfold IsVs
    refine ⟨⟨c0, c1, c2, c3, c4, c5, hc 0 _ rfl, hc 1 _ rfl, hc 2 _ rfl, hc 3 _ rfl, hc 4 _ rfl, hc 5 _ rfl, hx⟩, hr.row (fun j u hj => ?_)⟩
    have := hc (j + 6) u (by simpa using hj)
    rwa [show o + 6 + j = o + (j + 6) by omega]
/-- A slice of strings that the call made. -/
theorem IsStrs.of_own {base : Nat} {v : Value} {ks : List ByteArray} (h : w.ownsRow base 9 1 v ks.length (ks.map .string)) (hS : ∀ b, v.ownBlock = some b → S b) (hl : ks.length * 16 ≤ 140737488351232) (hz : ∀ s ∈ ks, s.size ≤ maxLen) :
    IsStrs w S v ks := by
  rcases h.2 with ⟨rfl, h0⟩ | ⟨g, cap, cur, rfl, hb, hg, hn, hm, hs, ht⟩
  · exact ⟨none, 0, by rw [h0], by omega, hl, hz, fun h => by omega⟩
  · refine ⟨_, cap, rfl, hn, hl, hz, fun _ => ⟨g, 0, hS g rfl, rfl, fun i hi => ?_⟩⟩
    have := h.cells (g := g) rfl i (.string (ks.getD i ByteArray.empty)) (by simp [hi, List.getD])
    rwa [Addr.add_lit] at this
/-- A slice of values that the call made. -/
theorem rows_of_own {base : Nat} {v : Value} {l : List GV} {xs : List Value} (h : w.ownsRow base 27 6 v l.length xs) (hS : ∀ b, v.ownBlock = some b → S b) (hv : VCells w S l xs) :
    ∃ a c, v = .slice a l.length c ∧ l.length ≤ c ∧ (l = [] ∨ ∃ b o, S b ∧ a = some ⟨b, o, none⟩ ∧ IsVs w S l b o) := by
  rcases h.2 with ⟨rfl, h0⟩ | ⟨g, cap, cur, rfl, hb, hg, hn, hm, hs, ht⟩
  · exact ⟨none, 0, by rw [h0], by omega, .inl (List.length_eq_zero_iff.1 h0)⟩
  · refine ⟨_, cap, rfl, hn, .inr ⟨g, 0, hS g rfl, rfl, hv.row fun j u hu => ?_⟩⟩
    have := h.cells (g := g) rfl j u hu
    rwa [Addr.add_lit] at this
end
/-- What a struct value's two slices hold, as cells. -/
theorem IsV.rows {w : World} {S : Nat → Prop} {hi : Nat} {m : GV} {c0 c1 c2 c3 : Value} {a0 a1 : Option Addr} {n0 d0 n1 d1 : Nat} (h : IsV w S m (.agg #[c0, c1, c2, c3, .slice a0 n0 d0, .slice a1 n1 d1])) (hS : ∀ b, S b → b < hi) :
    m.keys.length ≤ d0 ∧ m.keys.length * 16 ≤ 140737488351232 ∧ (∀ s ∈ m.keys, s.size ≤ maxLen) ∧ Reads w hi 1 a0 m.keys.length (m.keys.map .string) ∧ m.l.length ≤ d1 ∧ m.l.length * 88 ≤ 140737488351232 ∧
      ∃ xs, VCells w S m.l xs ∧ Reads w hi 6 a1 m.l.length xs := by
  obtain ⟨kd, n, f, s, ks, l⟩ := m
  unfold IsV at h
  obtain ⟨vk, a, c, e, _, _, _, _, hk, h8, h6, h7⟩ := h
  injection e with e
  simp only [Array.mk.injEq, List.cons.injEq, and_true, Value.slice.injEq] at e
  obtain ⟨_, _, _, _, rfl, rfl, rfl, rfl⟩ := e
  obtain ⟨hn, hr⟩ := hk.reads hS
  subst hn
  obtain ⟨a', c', e', hle, hl, hz, _⟩ := hk
  injection e' with e1 e2 e3
  subst e1 e3
  refine ⟨hle, hl, hz, hr, h8, h6, ?_⟩
  rcases h7 with rfl | ⟨b, o, hb, rfl, hv⟩
  · exact ⟨[], rfl, by simp [GV.l], fun h => by simp [GV.l] at h⟩
  · obtain ⟨xs, hx, hc⟩ := hv.toCells
    refine ⟨xs, hx, hx.length, fun _ => ⟨_, rfl, hS b hb, fun j u hu => ?_⟩⟩
    rw [Addr.add_lit]
    exact hc j u hu
theorem Reads.take_ {w : World} {B size n k : Nat} {A : Option Addr} {xs : List Value} (h : Reads w B size A n xs) (hk : k ≤ n) : Reads w B size A k (xs.take (k * size)) := by
  refine ⟨by rw [List.length_take, h.1]; exact Nat.min_eq_left (Nat.mul_le_mul_right _ hk), fun h0 => ?_⟩
  obtain ⟨ad, e, hb, hc⟩ := h.2 (by omega)
  refine ⟨ad, e, hb, fun j u hu => hc j u ?_⟩
  rw [List.getElem?_take] at hu
  split at hu
  · exact hu
  · cases hu
/-- The address of s[l:]. -/
def sufA (a : Option Addr) (cap l size : Nat) : Option Addr := if cap = l then a else a.map (·.add (l * size))
section
variable {P : Program} {t e : TypeId} {a : Option Addr} {len cap h l size : Nat} {k : IntKind}
/-- s[:h] -/
theorem run_slice_pre (ht : P.underlying t = some (.slice e)) (hs : ∀ w, (sizeOf e).run P w = .ok size w) (hh : h ≤ cap) (w : World) :
    (Instr.slice t (.slice a len cap) none (some (.int k (h : Int))) none).run P w = .ok (.slice a h cap) w := by
  have hb : (Instr.sliceBounds true len cap none (some (.int k (h : Int))) none).run P w = .ok (0, h, cap) w := by
    have h1 : (0 : Int) ≤ (h : Int) ∧ (h : Int) ≤ (cap : Int) := by omega
    simp [Instr.sliceBounds, Instr.sliceBound, asIntOf, h1.1, hh]
  simp only [Instr.slice, Sem.run_bind, run_underlying ht, Result.andThen, hb, hs]
  simp
  cases a <;> simp [Addr.add]
/-- s[l:] -/
theorem run_slice_suf (ht : P.underlying t = some (.slice e)) (hs : ∀ w, (sizeOf e).run P w = .ok size w) (hh : l ≤ len) (w : World) :
    (Instr.slice t (.slice a len cap) (some (.int k (l : Int))) none none).run P w = .ok (.slice (sufA a cap l size) (len - l) (cap - l)) w := by
  have hb : (Instr.sliceBounds true len cap (some (.int k (l : Int))) none none).run P w = .ok (l, len, cap) w := by
    simp [Instr.sliceBounds, Instr.sliceBound, asIntOf, hh]
  simp only [Instr.slice, Sem.run_bind, run_underlying ht, Result.andThen, hb, hs]
  rfl
end
def st6 (w : World) (b : Nat) (c0 c1 c2 c3 c4 c5 : Value) : World :=
  (((((w.setCell ⟨b, 0, none⟩ c0).setCell ⟨b, 1, none⟩ c1).setCell ⟨b, 2, none⟩ c2).setCell ⟨b, 3, none⟩ c3).setCell ⟨b, 4, none⟩ c4).setCell ⟨b, 5, none⟩ c5
section
variable {w : World} {b : Nat} {c0 c1 c2 c3 c4 c5 : Value}
theorem st6_below {B : Nat} {w0 : World} (h : Below B w0 w) (hb : B ≤ b) : Below B w0 (st6 w b c0 c1 c2 c3 c4 c5) :=
  (((((h.setCell hb _).setCell hb _).setCell hb _).setCell hb _).setCell hb _).setCell hb _
theorem st6_size : (st6 w b c0 c1 c2 c3 c4 c5).heap.size = w.heap.size := by simp [st6]
theorem st6_own {base : Nat} {e : TypeId} {size : Nat} {v : Value} {n : Nat} {xs : List Value} (h : w.ownsRow base e size v n xs) (hb : b < base) : (st6 w b c0 c1 c2 c3 c4 c5).ownsRow base e size v n xs :=
  ownsRow_setCell_below (ownsRow_setCell_below (ownsRow_setCell_below (ownsRow_setCell_below (ownsRow_setCell_below (ownsRow_setCell_below h hb _) hb _) hb _) hb _) hb _) hb _
theorem st6_blk {d0 d1 d2 d3 d4 d5 : Value} {t : TypeId} (h : w.heap[b]? = some (.cells #[d0, d1, d2, d3, d4, d5] t (0, 0))) : (st6 w b c0 c1 c2 c3 c4 c5).heap[b]? = some (.cells #[c0, c1, c2, c3, c4, c5] t (0, 0)) :=
  blk_set (blk_set (blk_set (blk_set (blk_set (blk_set h 0 c0) 1 c1) 2 c2) 3 c3) 4 c4) 5 c5
theorem st6_eq {k : Nat} (hk : k ≠ b) : (st6 w b c0 c1 c2 c3 c4 c5).heap[k]? = w.heap[k]? := by
  unfold st6
  rw [Below.heap_setCell _ _ _ _ hk, Below.heap_setCell _ _ _ _ hk, Below.heap_setCell _ _ _ _ hk, Below.heap_setCell _ _ _ _ hk, Below.heap_setCell _ _ _ _ hk, Below.heap_setCell _ _ _ _ hk]
end
/-- An impl.Value put together. -/
theorem IsV.mk_ {w : World} {S : Nat → Prop} {kd n : Int} {f : Nat} {s : ByteArray} {ks : List ByteArray} {l : List GV} {vk vl : Value} (h1 : (Lit.int .i64 kd).wf = true) (h2 : (Lit.int .i64 n).wf = true) (h3 : (Lit.float .f64 f).wf = true) (h4 : s.size ≤ maxLen)
    (hk : IsStrs w S vk ks) (hl : l.length * 88 ≤ 140737488351232) (hv : ∃ a c, vl = .slice a l.length c ∧ l.length ≤ c ∧ (l = [] ∨ ∃ b o, S b ∧ a = some ⟨b, o, none⟩ ∧ IsVs w S l b o)) : IsV w S (.mk kd n f s ks l) (.agg #[.int .i64 kd, .int .i64 n, .float .f64 f, .string s, vk, vl]) := by
  obtain ⟨a, c, rfl, hc, hv⟩ := hv
  unfold IsV
  exact ⟨vk, a, c, rfl, h1, h2, h3, h4, hk, hc, hl, hv⟩
/-- The two slices of a struct value. -/
theorem IsV.slices {w : World} {S : Nat → Prop} {m : GV} {c0 c1 c2 c3 kv lv : Value} (h : IsV w S m (.agg #[c0, c1, c2, c3, kv, lv])) :
    c0 = .int .i64 m.kind ∧ c1 = .int .i64 m.n ∧ c2 = .float .f64 m.f ∧ c3 = .string m.s ∧ ∃ a0 d0 a1 d1, kv = .slice a0 m.keys.length d0 ∧ lv = .slice a1 m.l.length d1 := by
  obtain ⟨a0, d0, a1, d1, e⟩ := h.form
  injection e with e
  simp only [Array.mk.injEq, List.cons.injEq, and_true] at e
  obtain ⟨rfl, rfl, rfl, rfl, rfl, rfl⟩ := e
  exact ⟨rfl, rfl, rfl, rfl, a0, d0, a1, d1, rfl, rfl⟩
end Go.Proofs.YtbbacpdbbmjblaaGreat
end
section
namespace Go.Proofs.YtbbacpdbbmjblaaGreat
open Go.RowKit
open Go.ChangeMaps (setBlock)
/-- The iterator in block r goes over the map in block bm, which holds es; the entries of 'done' have come out. -/
structure Rng (w : World) (bm r : Nat) (es : Array MapEntry) (cl : Nat) (done : List MapEntry) : Prop where
  map : w.heap[bm]? = some (.map es cl)
  iter : ∃ seen : Array Nat, seen.toList = done.map (·.born) ∧ w.heap[r]? = some (.mapIter (some bm) cl seen cl)
  ne : bm ≠ r
  sub : ∀ e ∈ done, e ∈ es.toList
  nodup : (done.map (·.born)).Nodup
  old : ∀ x ∈ es.toList, x.born < cl
  born : (es.toList.map (·.born)).Nodup
theorem Rng.of_eq {w w' : World} {bm r : Nat} {es : Array MapEntry} {cl : Nat} {done : List MapEntry} (h : Rng w bm r es cl done) (h1 : w'.heap[bm]? = w.heap[bm]?) (h2 : w'.heap[r]? = w.heap[r]?) : Rng w' bm r es cl done := by
  obtain ⟨a, b, c, d, e, f, g⟩ := h
  obtain ⟨s, hs, hr⟩ := b
  exact ⟨h1.trans a, ⟨s, hs, h2.trans hr⟩, c, d, e, f, g⟩
theorem nodup_len {α : Type} [DecidableEq α] : ∀ {a l : List α}, a.Nodup → (∀ x ∈ a, x ∈ l) → a.length ≤ l.length
  | [], _, _, _ => Nat.zero_le _
  | x :: a, l, hn, hs => by
    simp only [List.nodup_cons] at hn
    have hx := hs x (by simp)
    have := nodup_len (a := a) (l := l.erase x) hn.2 (fun y hy => by
      have hy' := hs y (by simp [hy])
      have hne : y ≠ x := fun e => hn.1 (e ▸ hy)
      exact (List.mem_erase_of_ne hne).2 hy')
    rw [List.length_erase_of_mem hx] at this
    have hp := List.length_pos_of_mem hx
    simp only [List.length_cons]; omega
theorem Rng.lt_ {w : World} {bm r : Nat} {es : Array MapEntry} {cl : Nat} {done : List MapEntry} (h : Rng w bm r es cl done) : bm < w.heap.size ∧ r < w.heap.size := by
  obtain ⟨s, _, hr⟩ := h.iter
  exact ⟨blk_lt h.map, blk_lt hr⟩
theorem born_inj {l : List MapEntry} (h : (l.map (·.born)).Nodup) : ∀ {e e' : MapEntry}, e ∈ l → e' ∈ l → e.born = e'.born → e = e' := by
  induction l with
  | nil => intro _ _ h; cases h
  | cons a r ih =>
    simp only [List.map_cons, List.nodup_cons] at h
    intro e e' he he' hb
    rcases List.mem_cons.1 he with h1 | h1
    · rcases List.mem_cons.1 he' with h2 | h2
      · rw [h1, h2]
      · exact absurd (by rw [← h1, hb]; exact List.mem_map_of_mem (f := (·.born)) h2) h.1
    · rcases List.mem_cons.1 he' with h2 | h2
      · exact absurd (by rw [← h2, ← hb]; exact List.mem_map_of_mem (f := (·.born)) h1) h.1
      · exact ih h.2 h1 h2 hb
theorem setBlock_self (w : World) (r : Nat) (o : Obj) (h : r < w.heap.size) : (setBlock w r o).heap[r]? = some o := by
  simp [setBlock, h]
end Go.Proofs.YtbbacpdbbmjblaaGreat
end
section
namespace Go.Proofs.YtbbacpdbbmjblaaGreat
section
variable {P : Program} {ops : Array Oper} {Q : Exit → Act → World → Prop} {md : Region.Mode} {S : World → Prop} {keeps : Nat → Bool}
/-- Operation j waits for operation i, by an edge of its own. -/
def waits (md : Region.Mode) (ops : Array Oper) (j i : Nat) : Bool := ((ops[j]?).map fun o => o.after.any fun e => Region.binds md e && e.on == i).getD false
/-- Behind operation j S is still wanted: one of the held operations does not come ahead of it. -/
def keepsB (md : Region.Mode) (ops : Array Oper) (held : List Nat) (j : Nat) : Bool := held.any fun i => i != j && !waits md ops j i
/-- Whatever order is picked from here on, and S holds behind those operations that keeps names. -/
def wpAnyK (P : Program) (md : Region.Mode) (ops : Array Oper) (Q : Exit → Act → World → Prop) (S : World → Prop) (keeps : Nat → Bool) : Nat → Array Bool → Act → World → Prop
  | 0, listed, a, w => Region.ready md ops listed = [] ∧ Q .normal a w
  | fuel + 1, listed, a, w =>
    (Region.ready md ops listed = [] → Q .normal a w) ∧
    ∀ i ∈ Region.ready md ops listed, wpOp P ops Q i (fun a' w' => (keeps i = true → S w') ∧ wpAnyK P md ops Q S keeps fuel (listed.setIfInBounds i true) a' w') a w
theorem wpAny_of_K : ∀ (fuel : Nat) (listed : Array Bool) (a : Act) (w : World), wpAnyK P md ops Q S keeps fuel listed a w → wpAny P md ops Q fuel listed a w
  | 0, _, _, _, h => h
  | fuel + 1, _, _, _, h => ⟨h.1, fun i hi => wpOp_mono (fun a' w' h' => wpAny_of_K fuel _ a' w' h'.2) (h.2 i hi)⟩
theorem wpAnyK_first {i : Nat} {oi : Oper} {v : Value} (hi : ops[i]? = some oi) (hsel : ∀ (j : Nat) (o : Oper) cs b, ops[j]? = some o → o.op ≠ .select cs b)
    (hQ : ∀ c a w, Q (.panic c) (a.put oi.dst v) w → Q (.panic c) a w)
    (hkeep : ∀ j oj, ops[j]? = some oj → j ≠ i → (∀ e ∈ oj.after, Region.binds md e = true → e.on ≠ i) → keeps j = true) :
    ∀ (fuel : Nat) (listed : Array Bool) (a : Act) (w : World),
      (∀ j oj, ops[j]? = some oj → j ≠ i → listed.getD j true = false → (∀ e ∈ oj.after, Region.binds md e = true → e.on ≠ i) → oi.apart ops oj = true) →
      i ∈ Region.ready md ops listed → YieldsIf P ops S oi v a → S w →
      wpAnyK P md ops Q S keeps fuel (listed.setIfInBounds i true) (a.put oi.dst v) w → wpAnyK P md ops Q S keeps (fuel + 1) listed a w := by
  intro fuel
  induction fuel with
  | zero =>
    intro listed a w _ hr hy hS H
    refine ⟨fun h => (by rw [h] at hr; cases hr), fun j hj => ?_⟩
    by_cases hji : j = i
    · subst hji; exact hy.wpOp hi hS ⟨fun _ => hS, H⟩
    · have := ready_mono hj hji
      rw [H.1] at this
      cases this
  | succ fuel ih =>
    intro listed a w hfree hr hy hS H
    refine ⟨fun h => (by rw [h] at hr; cases hr), fun j hj => ?_⟩
    by_cases hji : j = i
    · subst hji; exact hy.wpOp hi hS ⟨fun _ => hS, H⟩
    · have h1 := H.2 j (ready_mono hj hji)
      obtain ⟨hjun, oj, hoj, hall⟩ := mem_ready.1 hj
      have hnot : ∀ e ∈ oj.after, Region.binds md e = true → e.on ≠ i := fun e he hb heq => by
        have h1 := hall e he hb
        have h0 := (mem_ready.1 hr).1
        rw [heq] at h1
        rcases Nat.lt_or_ge i listed.size with h' | h'
        · simp [h'] at h0 h1; rw [h0] at h1; cases h1
        · simp [Array.getElem?_eq_none h'] at h1
      have h2 := wpOp_putIf hoj (hfree j oj hoj hji hjun hnot) (fun cs b => hsel i oi cs b hi) (fun cs b => hsel j oj cs b hoj) hQ hy h1
      refine wpOp_mono (fun a' w' ⟨hy', hk', h'⟩ => ?_) h2
      have hS' := hk' (hkeep j oj hoj hji hnot)
      refine ⟨fun _ => hS', ih (listed.setIfInBounds j true) a' w' ?_ ?_ hy' hS' ?_⟩
      · intro k ok hk hki hun hno
        refine hfree k ok hk hki ?_ hno
        by_cases hjk : j = k
        · subst hjk
          rcases Nat.lt_or_ge j listed.size with h | h
          · simp [h] at hun
          · simp [Array.getElem?_eq_none h] at hjun
        · rw [getD_set_ne true hjk] at hun; exact hun
      · exact ready_mono hr (Ne.symm hji)
      · rw [Array.setIfInBounds_comm _ _ (Ne.symm hji)] at h'; exact h'
theorem keepsB_spec {held : List Nat} {i : Nat} (hi : held.contains i = true) (j : Nat) (oj : Oper) (hj : ops[j]? = some oj) (hne : j ≠ i) (hno : ∀ e ∈ oj.after, Region.binds md e = true → e.on ≠ i) : keepsB md ops held j = true := by
  unfold keepsB
  rw [List.any_eq_true]
  refine ⟨i, by simpa using hi, ?_⟩
  have hw : waits md ops j i = false := by
    unfold waits
    rw [hj]
    simp only [Option.map_some, Option.getD_some]
    cases h : oj.after.any (fun e => Region.binds md e && e.on == i) with
    | false => rfl
    | true =>
      obtain ⟨e, he, hb⟩ := Array.any_eq_true'.1 h
      simp only [Bool.and_eq_true, beq_iff_eq] at hb
      exact absurd hb.2 (hno e he hb.1)
  simp [hw, Ne.symm hne]
/-- Take number i, which yields its value in every world that meets S, first. -/
theorem wpK_take {held : List Nat} {i : Nat} {oi : Oper} {v : Value} {fuel : Nat} {listed : Array Bool} {a : Act} {w : World} (hi : ops[i]? = some oi) (hh : held.contains i = true)
    (hs : Region.noSelect ops = true) (hf : Region.free md ops listed i = true) (hr : (Region.ready md ops listed).contains i = true)
    (hy : YieldsIf P ops S oi v a) (hS : S w)
    (h : wpAnyK P md ops (NoPanic Q) S (keepsB md ops held) fuel (listed.setIfInBounds i true) (a.put oi.dst v) w) : wpAnyK P md ops (NoPanic Q) S (keepsB md ops held) (fuel + 1) listed a w :=
  wpAnyK_first hi (Region.noSelect_spec hs) (fun _ _ _ h => h) (fun j oj hj hne hno => keepsB_spec hh j oj hj hne hno) fuel listed a w (Region.free_spec hi hf) (by simpa using hr) hy hS h
/-- The one that alone may come up, in whatever it does; S is wanted behind it. -/
theorem wpK_one {held : List Nat} {i : Nat} {o : Oper} {fuel : Nat} {listed : Array Bool} {a : Act} {w : World} (hr : Region.ready md ops listed = [i]) (ho : ops[i]? = some o)
    (h : ∀ K' : Act → World → Prop, Shut (∀ a w, S w → (S w → wpAnyK P md ops Q S (keepsB md ops held) fuel (listed.setIfInBounds i true) a w) → K' a w) → if Region.wanted o (yielded ops a.tmps) = true then Oper.wp P o a w K' Q else K' (a.put o.dst undef) w) :
    wpAnyK P md ops Q S (keepsB md ops held) (fuel + 1) listed a w :=
  ⟨fun h0 => (by rw [hr] at h0; cases h0), fun j hj => by
    rw [hr, List.mem_singleton] at hj
    subst hj
    exact wpOp_step ho (fun K' hK => h K' (fun a w hS hW => hK a w ⟨fun _ => hS, hW hS⟩))⟩
/-- .. and S is not wanted any more. -/
theorem wpK_last {held : List Nat} {i : Nat} {o : Oper} {fuel : Nat} {listed : Array Bool} {a : Act} {w : World} (hr : Region.ready md ops listed = [i]) (hk : keepsB md ops held i = false) (ho : ops[i]? = some o)
    (h : ∀ K' : Act → World → Prop, Shut (∀ a w, wpAnyK P md ops Q S (keepsB md ops held) fuel (listed.setIfInBounds i true) a w → K' a w) → if Region.wanted o (yielded ops a.tmps) = true then Oper.wp P o a w K' Q else K' (a.put o.dst undef) w) :
    wpAnyK P md ops Q S (keepsB md ops held) (fuel + 1) listed a w :=
  ⟨fun h0 => (by rw [hr] at h0; cases h0), fun j hj => by
    rw [hr, List.mem_singleton] at hj
    subst hj
    exact wpOp_step ho (fun K' hK => h K' (fun a w hW => hK a w ⟨fun hk' => (by rw [hk] at hk'; cases hk'), hW⟩))⟩
theorem wpK_done {listed : Array Bool} {a : Act} {w : World} (hr : Region.ready md ops listed = []) (h : Q .normal a w) : ∀ fuel, wpAnyK P md ops (NoPanic Q) S keeps fuel listed a w
  | 0 => ⟨hr, h⟩
  | _ + 1 => ⟨fun _ => h, by rw [hr]; simp⟩
/-- The beginning. -/
theorem wp_region_K (S : World → Prop) (held : List Nat) {id : Nat} {a : Act} {w : World} (hm : P.follows .mixedOrders = true) (hS : S w.drew)
    (h : S w.drew → wpAnyK P .any ops (NoPanic Q) S (keepsB .any ops held) ops.size (Array.replicate ops.size false) a w.drew) : (Code.region id ops true).wp P Q a w :=
  wp_region_noPanic (wp_region_any hm (wpAny_of_K _ _ _ _ (h hS)))
end
/-- A cell that is there is as it was, behind a call that leaves old memory alone. -/
theorem cell_below {w w' : World} (hb : Go.RowKit.Below w.heap.size w w') {a : Addr} {v : Value} (h : w.cell? a = some v) : w'.cell? a = some v := (hb.cell (World.block_lt_of_cell? w a h)).trans h
end Go.Proofs.YtbbacpdbbmjblaaGreat
end
section
namespace Go.Proofs.YtbbacpdbbmjblaaGreat
open Go.RowKit
/-- x put into l at the place of the key k among ks. -/
def insL {α : Type} (ks : List ByteArray) (l : List α) (k : ByteArray) (x : α) : List α := l.take (lb ks k) ++ [x] ++ l.drop (lb ks k + if hasAt ks k then 1 else 0)
def withF (m : GV) (k : ByteArray) (x : GV) : GV := .mk 6 0 0 ByteArray.empty (insL m.keys m.keys k k) (insL m.keys m.l k x)
theorem insL_map {α β : Type} (f : α → β) (ks : List ByteArray) (l : List α) (k : ByteArray) (x : α) : (insL ks l k x).map f = insL ks (l.map f) k (f x) := by simp [insL]
theorem insL_length {α : Type} {ks : List ByteArray} {l : List α} {k : ByteArray} {x : α} {j : Nat} (hj : j = lb ks k + if hasAt ks k then 1 else 0) (hjl : j ≤ l.length) (hl : lb ks k ≤ l.length) : (insL ks l k x).length = lb ks k + 1 + (l.length - j) := by
  simp only [insL, List.length_append, List.length_take, List.length_drop, List.length_cons, List.length_nil, ← hj]; omega
theorem with_fin {m : GV} {key : ByteArray} {x : GV} {w4 wF : World} {lo W O j : Nat} {xs : List Value} {AK AL : Option Addr} {cK cL : Nat} {x0 x1 x2 x3 x4 x5 : Value}
    (hlo : lo ≤ W) (hWO : W ≤ O) (hxs : VCells w4 (Btw lo W) m.l xs) (hx4 : IsV w4 (Btw lo W) x (.agg #[x0, x1, x2, x3, x4, x5])) (hBF : Below W w4 wF) (hWs : W ≤ wF.heap.size)
    (hj : j = lb m.keys key + if hasAt m.keys key then 1 else 0) (hjk : j ≤ m.keys.length) (hjl : j ≤ m.l.length) (hlen : m.keys.length = m.l.length) (hkey : key.size ≤ maxLen) (hkz : ∀ s ∈ m.keys, s.size ≤ maxLen) (hsz : (m.l.length + 1) * 88 ≤ 140737488351232)
    (hOK : wF.ownsRow (O + 1) 9 1 (.slice AK (lb m.keys key + 1 + (m.keys.length - j)) cK) (lb m.keys key + 1 + (m.keys.length - j)) ((m.keys.map Value.string).take (lb m.keys key) ++ [.string key] ++ (m.keys.map Value.string).drop (j * 1)))
    (hOL : wF.ownsRow (O + 1) 27 6 (.slice AL (lb m.keys key + 1 + (m.l.length - j)) cL) (lb m.keys key + 1 + (m.l.length - j)) (xs.take (lb m.keys key * 6) ++ [x0, x1, x2, x3, x4, x5] ++ xs.drop (j * 6))) :
    IsV wF (Btw lo wF.heap.size) (withF m key x) (.agg #[.int .i64 6, .int .i64 0, .float .f64 0, .string ⟨#[]⟩, .slice AK (lb m.keys key + 1 + (m.keys.length - j)) cK, .slice AL (lb m.keys key + 1 + (m.l.length - j)) cL]) := by
  have hlj : lb m.keys key ≤ j := by rw [hj]; exact Nat.le_add_right _ _
  have hS : ∀ {A : Option Addr} {n c : Nat} {e size : Nat} {zs : List Value}, wF.ownsRow (O + 1) e size (.slice A n c) n zs → ∀ b, (Value.slice A n c).ownBlock = some b → Btw lo wF.heap.size b := fun h b hb => by
    have := h.lt b hb
    exact ⟨by omega, this.2⟩
  have l1 : (insL m.keys m.keys key key).length = lb m.keys key + 1 + (m.keys.length - j) := insL_length hj hjk (lb_le _ _)
  have l2 : (insL m.keys m.l key x).length = lb m.keys key + 1 + (m.l.length - j) := insL_length hj hjl (by omega)
  have hkeep : ∀ b, Btw lo W b → wF.heap[b]? = w4.heap[b]? := Btw.kept hBF
  have hmono : ∀ b, Btw lo W b → Btw lo wF.heap.size b := Btw.mono (Nat.le_refl _) hWs
  have hvc : VCells wF (Btw lo wF.heap.size) (insL m.keys m.l key x) (xs.take (lb m.keys key * 6) ++ [x0, x1, x2, x3, x4, x5] ++ xs.drop (j * 6)) := by
    unfold insL
    rw [← hj]
    exact (((hxs.take _).keep hkeep hmono).app (VCells.one (hx4.keep hkeep hmono))).app ((hxs.drop _).keep hkeep hmono)
  unfold withF
  refine IsV.mk_ (by decide) (by decide) (by decide) (by decide) (IsStrs.of_own (base := O + 1) ?_ (hS hOK) ?_ ?_) ?_ ?_
  · rw [l1, insL_map]
    unfold insL
    rw [← hj]
    simpa using hOK
  · rw [l1]; omega
  · intro s hs
    unfold insL at hs
    simp only [List.mem_append, List.mem_singleton] at hs
    rcases hs with (hs | rfl) | hs
    · exact hkz s (List.mem_of_mem_take hs)
    · exact hkey
    · exact hkz s (List.mem_of_mem_drop hs)
  · rw [l2]; omega
  · have := rows_of_own (base := O + 1) (l := insL m.keys m.l key x) (by rw [l2]; exact hOL) (hS hOL) hvc
    rwa [l2] at this ⊢
end Go.Proofs.YtbbacpdbbmjblaaGreat
end
section
namespace Go.Proofs.YtbbacpdbbmjblaaGreat
open Go.RowKit
theorem mem_tw {α : Type} {p : α → Bool} {y : α} : ∀ {l : List α}, y ∈ l.takeWhile p → p y = true
  | [], h => by simp at h
  | a :: r, h => by
    simp only [List.takeWhile_cons] at h
    split at h
    · rename_i ha
      rcases List.mem_cons.1 h with rfl | h
      · exact ha
      · exact mem_tw h
    · cases h
theorem lb_lt {ks : List ByteArray} {k y : ByteArray} (h : y ∈ ks.take (lb ks k)) : blt y k = true := by
  have : ks.take (lb ks k) = ks.takeWhile fun x => blt x k := by
    unfold lb
    exact (List.prefix_iff_eq_take.1 (List.takeWhile_prefix _)).symm
  rw [this] at h
  exact mem_tw (p := fun x => blt x k) h
theorem lb_ge {ks : List ByteArray} {k y : ByteArray} (h : ks[lb ks k]? = some y) : blt y k = false := by
  induction ks with
  | nil => simp at h
  | cons a r ih =>
    unfold lb at h ih
    simp only [List.takeWhile_cons] at h
    split at h
    · exact ih (by simpa using h)
    · rename_i ha
      simp at h; subst h
      simpa using ha
theorem drop_gt {ks : List ByteArray} (hinc : Incr ks) {k y : ByteArray} (h : y ∈ ks.drop (lb ks k + if hasAt ks k then 1 else 0)) : blt k y = true := by
  obtain ⟨i, hi⟩ := List.getElem?_of_mem h
  rw [List.getElem?_drop] at hi
  cases hh : hasAt ks k with
  | true =>
    rw [hh] at hi
    unfold hasAt at hh
    simp only [decide_eq_true_eq] at hh
    rcases incr_le hinc (show lb ks k ≤ lb ks k + 1 + i by omega) hh (by simpa using hi) with e | e
    · exfalso
      obtain ⟨h1, e1⟩ := List.getElem?_eq_some_iff.1 hh
      obtain ⟨h2, e2⟩ := List.getElem?_eq_some_iff.1 (show ks[lb ks k + 1 + i]? = some y by simpa using hi)
      have := List.pairwise_iff_getElem.1 hinc (lb ks k) (lb ks k + 1 + i) h1 h2 (by omega)
      rw [e1, e2, e, blt_irrefl] at this
      cases this
    · exact e
  | false =>
    rw [hh] at hi
    simp only [Bool.false_eq_true, if_false, Nat.add_zero] at hi
    have hlt : lb ks k < ks.length := by
      have := (List.getElem?_eq_some_iff.1 hi).1; omega
    obtain ⟨z, hz⟩ : ∃ z, ks[lb ks k]? = some z := ⟨ks[lb ks k], by simp [hlt]⟩
    have h1 := lb_ge hz
    have h2 : z ≠ k := by
      intro e
      unfold hasAt at hh
      simp only [decide_eq_false_iff_not] at hh
      exact hh (by rw [hz, e])
    have h3 : blt k z = true := by
      cases hb : blt k z with
      | true => rfl
      | false => exact absurd (blt_total h1 hb) h2
    rcases incr_le hinc (show lb ks k ≤ lb ks k + i by omega) hz hi with e | e
    · rw [← e]; exact h3
    · exact blt_trans h3 e
theorem insL_incr {ks : List ByteArray} (hinc : Incr ks) (k : ByteArray) : Incr (insL ks ks k k) := by
  unfold insL Incr
  rw [List.pairwise_append, List.pairwise_append]
  refine ⟨⟨List.Pairwise.sublist (List.take_sublist _ _) hinc, by simp, fun a ha b hb => ?_⟩, List.Pairwise.sublist (List.drop_sublist _ _) hinc, fun a ha b hb => ?_⟩
  · simp at hb; subst hb; exact lb_lt ha
  · have hb' := drop_gt hinc hb
    rcases List.mem_append.1 ha with ha | ha
    · exact blt_trans (lb_lt ha) hb'
    · simp at ha; subst ha; exact hb'
/-- A plain map: nothing but sorted keys and as many values. -/
def Plain (m : GV) : Prop := ∃ ks l, m = .mk 6 0 0 ByteArray.empty ks l ∧ Incr ks ∧ ks.length = l.length
theorem hasAt_le {ks : List ByteArray} {k : ByteArray} : lb ks k + (if hasAt ks k then 1 else 0) ≤ ks.length := by
  cases h : hasAt ks k with
  | false => simpa using lb_le ks k
  | true =>
    unfold hasAt at h
    simp only [decide_eq_true_eq] at h
    have := (List.getElem?_eq_some_iff.1 h).1
    simp; omega
theorem withF_plain {m : GV} (h : Plain m) (k : ByteArray) (x : GV) : Plain (withF m k x) := by
  obtain ⟨ks, l, rfl, hi, hl⟩ := h
  refine ⟨_, _, rfl, insL_incr hi k, ?_⟩
  simp only [GV.keys, GV.l]
  rw [insL_length rfl hasAt_le (lb_le _ _), insL_length (l := l) rfl (by rw [← hl]; exact hasAt_le) (by rw [← hl]; exact lb_le _ _), hl]
theorem withF_len {m : GV} (h : Plain m) (k : ByteArray) (x : GV) : (withF m k x).l.length ≤ m.l.length + 1 := by
  obtain ⟨ks, l, rfl, hi, hl⟩ := h
  simp only [withF, GV.keys, GV.l]
  rw [insL_length (l := l) rfl (by rw [← hl]; exact hasAt_le) (by rw [← hl]; exact lb_le _ _)]
  have := hasAt_le (ks := ks) (k := k)
  omega
end Go.Proofs.YtbbacpdbbmjblaaGreat
end
section
namespace Go.Proofs.YtbbacpdbbmjblaaGreat
open Go.RowKit
set_option maxHeartbeats 1000000 in
set_option maxRecDepth 100000 in
theorem fieldIndex_any (m : GV) (key : ByteArray) (w : World) (v : Value) (hv : IsV w (Btw 0 w.heap.size) m v) (hinc : Incr m.keys) :
    Calls Tryz.prog 131 #[v, .string key] w fun e w' => e = .returned (.tuple #[.int .i64 (lb m.keys key), .bool (hasAt m.keys key)]) ∧ Below w.heap.size w w' := by
  obtain ⟨kd, n, f, s, ks, l⟩ := m
  unfold IsV at hv
  obtain ⟨vk, a, c, rfl, _, _, _, _, ⟨ak, ck, rfl, _, hkl, hkz, hkc⟩, _, h6, h7⟩ := hv
  simp only [GV.keys] at hinc ⊢
  go_enter Tryz.func131, Tryz.ntmps131
  go_wp2_with fail
  go_quiet (fail)
  go_wp2_with fail
  have hc4 : ((w.alloc (.cells #[.int .i64 kd, .int .i64 n, .float .f64 f, .string s, .slice ak ks.length ck, .slice a l.length c] 27)).drewN nq).cell? ⟨w.heap.size, 4, none⟩ = some (.slice ak ks.length ck) := by go_simp
  have hB : Below w.heap.size w ((w.alloc (.cells #[.int .i64 kd, .int .i64 n, .float .f64 f, .string s, .slice ak ks.length ck, .slice a l.length c] 27)).drewN nq) :=
    ((Below.refl _ _).alloc (Nat.le_refl _) _).trans ⟨rfl, rfl, rfl, Nat.le_refl _, fun _ _ => rfl⟩
  generalize (w.alloc (.cells #[.int .i64 kd, .int .i64 n, .float .f64 f, .string s, .slice ak ks.length ck, .slice a l.length c] 27)).drewN nq = W at *
  go_loop [6, 7] (fun lo hi => ∃ i j : Nat, i ≤ j ∧ j ≤ ks.length ∧ lo = .int .i64 i ∧ hi = .int .i64 j ∧ (∀ q x, q < i → ks[q]? = some x → blt x key = true) ∧ (∀ q x, j ≤ q → ks[q]? = some x → blt x key = false))
    (fun lo hi => (intOf hi - intOf lo).toNat)
  case atStart => exact ⟨0, ks.length, Nat.zero_le _, Nat.le_refl _, rfl, rfl, fun q x h => by omega, fun q x h h' => by rw [List.getElem?_eq_none h] at h'; cases h'⟩
  case round =>
    obtain ⟨i, j, hij, hj, rfl, rfl, hlo, hhi⟩ := hrel
    by_cases hlt : i < j
    · obtain ⟨b0, o0, hb0, rfl, hkeys⟩ := hkc (by omega)
      obtain ⟨x, hx⟩ : ∃ x, ks[i + (j - i) / 2]? = some x := ⟨ks[i + (j - i) / 2]'(by omega), by simp⟩
      have hcx : W.cell? ⟨b0, o0 + (i + (j - i) / 2), none⟩ = some (.string x) := by
        rw [hB.cell (by exact hb0.2), hkeys _ (by omega)]; simp [List.getD, hx]
      have HX := Lib.hid hx
      clear hkeys hx
      have HL := Lib.hid hlo; have HH := Lib.hid hhi
      clear hlo hhi hkz hkc h7
      go_wp2_with fail
      · have ht : blt x key = true := by assumption
        go_round
        case rel =>
          refine ⟨i + (j - i) / 2 + 1, j, by omega, hj, by go_num, rfl, fun q y hq hy => ?_, HH.out⟩
          rcases incr_le hinc (show q ≤ i + (j - i) / 2 by omega) hy HX.out with rfl | h
          · exact ht
          · exact blt_trans h ht
        case measure => simp [intOf]; omega
      · have ht : blt x key = false := by assumption
        go_round
        case rel =>
          refine ⟨i, i + (j - i) / 2, by omega, by omega, rfl, by go_num, HL.out, fun q y hq hy => ?_⟩
          rcases incr_le hinc hq HX.out hy with rfl | h
          · exact ht
          · cases hyk : blt y key with
            | false => rfl
            | true => have := blt_trans h hyk; rw [ht] at this; cases this
        case measure => simp [intOf]; omega
    · have hij' : i = j := by omega
      subst hij'
      have hlb : lb ks key = i := lb_eq hj (fun q x hq hx => hlo q x hq hx) (fun x hx => hhi i x (Nat.le_refl _) hx)
      have HLB := Lib.hid hlb
      by_cases hin : i < ks.length
      · obtain ⟨b0, o0, hb0, rfl, hkeys⟩ := hkc (by omega)
        obtain ⟨x, hx⟩ : ∃ x, ks[i]? = some x := ⟨ks[i], by simp [hin]⟩
        have hcx : W.cell? ⟨b0, o0 + i, none⟩ = some (.string x) := by
          rw [hB.cell (by exact hb0.2), hkeys _ (by omega)]; simp [List.getD, hx]
        have hfin : (x.toList == key.toList) = hasAt ks key := by unfold hasAt; rw [beq_list, hlb, hx]; simp
        have HF := Lib.hid hfin
        have hi0 : (0 : Int) ≤ (i : Int) := by omega
        have hi1 : (i : Int) < (ks.length : Int) := by omega
        have hd : decide ((i : Int) < (ks.length : Int)) = true := by simp; omega
        clear hkeys hx hlb hlo hhi hkz hkc h7 hfin hinc
        go_wp2_with fail
        go_quiet (fail)
        go_wp2_with fail
        go_ret2
        exact ⟨by rw [HLB.out, ← HF.out]; rfl, hB.trans ⟨rfl, rfl, rfl, Nat.le_refl _, fun _ _ => rfl⟩⟩
      · have hfin : hasAt ks key = false := by unfold hasAt; rw [hlb, List.getElem?_eq_none (by omega)]; simp
        have HF := Lib.hid hfin
        have hd : decide ((i : Int) < (ks.length : Int)) = false := by simp; omega
        clear hlb hlo hhi hkz hkc h7 hfin hinc
        go_wp2_with fail
        go_quiet (fail)
        go_wp2_with fail
        go_ret2
        exact ⟨by rw [HLB.out, HF.out]; rfl, hB.trans ⟨rfl, rfl, rfl, Nat.le_refl _, fun _ _ => rfl⟩⟩
end Go.Proofs.YtbbacpdbbmjblaaGreat
end
section
namespace Go.Proofs.YtbbacpdbbmjblaaGreat
open Go.RowKit
set_option linter.unusedSimpArgs false
theorem Tryz.infoStr : (Tryz.prog.info? 9).map (fun i => (i.zero, i.size, i.bytes)) = some (some (.string ByteArray.empty), 1, 16) := by kernel_rfl
theorem Tryz.infoVal : (Tryz.prog.info? 27).map (fun i => (i.zero, i.size, i.bytes)) = some (some (.agg #[.int .i64 0, .int .i64 0, .float .f64 0, .string ByteArray.empty, .slice none 0 0, .slice none 0 0]), 6, 88) := by kernel_rfl
set_option maxHeartbeats 8000000 in
set_option maxRecDepth 100000 in
theorem with_any (m : GV) (key : ByteArray) (x : GV) (lo : Nat) (w : World) (vm vx : Value) (hlo : lo ≤ w.heap.size) (hm : IsV w (Btw lo w.heap.size) m vm) (hx : IsV w (Btw lo w.heap.size) x vx) (hinc : Incr m.keys) (hlen : m.keys.length = m.l.length)
    (hkey : key.size ≤ maxLen) (hsz : (m.l.length + 1) * 88 ≤ 140737488351232) :
    Calls Tryz.prog 112 #[vm, .string key, vx] w fun e w' => ∃ r, e = .returned r ∧ Below w.heap.size w w' ∧ IsV w' (Btw lo w'.heap.size) (withF m key x) r := by
  have HL := Lib.hid hlen; clear hlen
  obtain ⟨xa0, xc0, xa1, xc1, rfl⟩ := hx.form
  obtain ⟨ma0, mc0, ma1, mc1, rfl⟩ := hm.form
  obtain ⟨i0, hi0, hz0, hz1, hz2⟩ := info_parts Tryz.infoStr
  obtain ⟨i6, hi6, hz60, hz61, hz62⟩ := info_parts Tryz.infoVal
  go_enter Tryz.func112, Tryz.ntmps112
  go_wp2_with fail
  (with_reducible refine (fieldIndex_any m key _ _ (((hm.alloc_ _).alloc_ _).alloc_ _ |>.lo_ (Nat.zero_le _)) hinc).mono ?_)
  rintro e w4 ⟨rfl, hB4⟩
  go_wp2_with fail
  have b0 := blk_below (blk_alloc (blk_alloc (new_block (w := w) (b := w.heap.size) rfl) _) _) hB4
  have b1 := blk_below (blk_alloc (new_block (w := w.alloc _) (b := w.heap.size + 1) (by simp)) _) hB4
  have bR := blk_below (new_block (w := (w.alloc _).alloc _) (b := w.heap.size + 2) (by simp)) hB4
  have hB := below_all hB4 ((((Below.refl w.heap.size w).alloc (Nat.le_refl _) _).alloc (by simp) _).alloc (by simp; omega) _) (by simp; omega)
  have hm4 := hm.under hB
  have hx4 := hx.under hB
  have hsW : w.heap.size + 2 < w4.heap.size := blk_lt bR
  clear hB4 hm hx
  have bO := new_block (w := w4) (b := w4.heap.size) (o := (.cells #[.int .i64 6, .int .i64 0, .float .f64 0, .string ⟨#[]⟩, .slice none 0 0, .slice none 0 0] 27)) rfl
  have HB5 := (Below.refl w4.heap.size w4).alloc (Nat.le_refl _) (.cells #[.int .i64 6, .int .i64 0, .float .f64 0, .string ⟨#[]⟩, .slice none 0 0, .slice none 0 0] 27)
  have hs5 : (w4.alloc (.cells #[.int .i64 6, .int .i64 0, .float .f64 0, .string ⟨#[]⟩, .slice none 0 0, .slice none 0 0] 27)).heap.size = w4.heap.size + 1 := by simp
  generalize w4.alloc (.cells #[.int .i64 6, .int .i64 0, .float .f64 0, .string ⟨#[]⟩, .slice none 0 0, .slice none 0 0] 27) = w5 at *
  generalize hO : w4.heap.size = O at *
  have HO := Lib.hid hO
  clear hO
  have hlb : lb m.keys key ≤ m.keys.length := lb_le _ _
  have nOW : O ≠ w.heap.size := by omega
  have qB : ∀ {wk : World}, Below O w4 wk → O ≤ wk.heap.size := fun h => by
    have := h.size
    rw [HO.out] at this
    exact this
  -- the keys ahead of the new one
  obtain ⟨hkc, hkl, hkz, hrK0, hlc, hll, xs, hxs, hrL0⟩ := hm4.rows (hi := w.heap.size) (fun b hb => hb.2)
  have hrK := hrK0.more (B' := O) (by omega)
  have hrL := hrL0.more (B' := O) (by omega)
  clear hrK0 hrL0
  have hsl := @run_slice_pre Tryz.prog 23 9 ma0 m.keys.length mc0 (lb m.keys key) 1 .i64 Tryz.underlying23 (fun _ => by kernel_rfl) (by omega)
  have c4 : w5.cell? ⟨O, 4, none⟩ = some (.slice none 0 0) := blk_c bO 4 rfl
  have d4 : w5.cell? ⟨w.heap.size, 4, none⟩ = some (.slice ma0 m.keys.length mc0) := blk_c (blk_under b0 HB5 (by omega)) 4 rfl
  have n0 : some w.heap.size ≠ (Value.slice none 0 0).ownBlock := fun h => by cases h
  have nO : some O ≠ (Value.slice none 0 0).ownBlock := fun h => by cases h
  have q1 : 0 + lb m.keys key ≤ maxLen := by unfold maxLen; omega
  have q2 : (0 + lb m.keys key) * 16 ≤ 140737488355328 := by omega
  have q3 : O + 1 ≤ w5.heap.size := by omega
  have q4 : ∀ u ∈ ((m.keys.map Value.string).take (lb m.keys key * 1)), u.oneCell' = true := ones_take strs_one
  have hrK' := ((hrK.below HB5).take_ hlb).drew
  refine wp_region_K (fun w' => w'.cell? ⟨O, 4, none⟩ = some (.slice none 0 0) ∧ w'.cell? ⟨w.heap.size, 4, none⟩ = some (.slice ma0 m.keys.length mc0)) [0, 1, 2, 3, 4, 5, 7] (by kernel_rfl) ?_ (fun hHeld => ?_)
  · exact ⟨c4, d4⟩
  refine wpK_take (i := 0) (v := ?_) rfl (by kernel_rfl) (by kernel_rfl) (by kernel_rfl) (by kernel_rfl) (.inl ⟨by rfl, ?_⟩) hHeld ?_
  rotate_left
  · (intro w hSw; (try dsimp only at hSw); go_split_ands; go_simp; (try with_reducible rfl))
  try simp only [Act.put, List.setIfInBounds_toArray, List.set_cons_zero, List.set_cons_succ]
  refine wpK_take (i := 1) (v := ?_) rfl (by kernel_rfl) (by kernel_rfl) (by kernel_rfl) (by kernel_rfl) (.inl ⟨by rfl, ?_⟩) hHeld ?_
  rotate_left
  · (intro w hSw; (try dsimp only at hSw); go_split_ands; go_simp; (try with_reducible rfl))
  try simp only [Act.put, List.setIfInBounds_toArray, List.set_cons_zero, List.set_cons_succ]
  refine wpK_take (i := 2) (v := ?_) rfl (by kernel_rfl) (by kernel_rfl) (by kernel_rfl) (by kernel_rfl) (.inl ⟨by rfl, ?_⟩) hHeld ?_
  rotate_left
  · (intro w hSw; (try dsimp only at hSw); go_split_ands; go_simp; (try with_reducible rfl))
  try simp only [Act.put, List.setIfInBounds_toArray, List.set_cons_zero, List.set_cons_succ]
  refine wpK_take (i := 3) (v := ?_) rfl (by kernel_rfl) (by kernel_rfl) (by kernel_rfl) (by kernel_rfl) (.inl ⟨by rfl, ?_⟩) hHeld ?_
  rotate_left
  · (intro w hSw; (try dsimp only at hSw); go_split_ands; go_simp; (try with_reducible rfl))
  try simp only [Act.put, List.setIfInBounds_toArray, List.set_cons_zero, List.set_cons_succ]
  refine wpK_take (i := 4) (v := ?_) rfl (by kernel_rfl) (by kernel_rfl) (by kernel_rfl) (by kernel_rfl) (.inl ⟨by rfl, ?_⟩) hHeld ?_
  rotate_left
  · (intro w hSw; (try dsimp only at hSw); go_split_ands; go_simp; (try with_reducible rfl))
  try simp only [Act.put, List.setIfInBounds_toArray, List.set_cons_zero, List.set_cons_succ]
  refine wpK_take (i := 5) (v := ?_) rfl (by kernel_rfl) (by kernel_rfl) (by kernel_rfl) (by kernel_rfl) (.inl ⟨by rfl, ?_⟩) hHeld ?_
  rotate_left
  · (intro w hSw; (try dsimp only at hSw); go_split_ands; go_simp; (try with_reducible rfl))
  try simp only [Act.put, List.setIfInBounds_toArray, List.set_cons_zero, List.set_cons_succ]
  refine wpK_one (i := 6) (by kernel_rfl) rfl (fun K hK => ?_)
  refine step_append_s _ (by rfl) _ _ _ (by rfl) (O + 1) 9 i0 _ 1 16 Tryz.underlying23 hi0 hz0 hz1 hz2 rfl Nat.one_pos (.slice none 0 0) 0 [] (by rfl) (World.ownsRow_nil _ _ _ _) O ma0 (lb m.keys key) mc0 _ (by rfl) hrK' q4 q1 q2 q3 ?_
  intro AK cK w6 hownK hgK hatK
  have bO6 := blk_grown (w := w5.drew) bO hgK nO
  have c46 : w6.cell? ⟨O, 4, none⟩ = some (.slice none 0 0) := blk_c bO6 4 rfl
  have f46 := blk_frozen bO6 4
  have HB6 := (HB5.drew).grown hgK (by show O ≤ w5.heap.size; omega) (fun k hk => by cases hk)
  have hs6 : w5.heap.size ≤ w6.heap.size := hgK.size
  refine hK.out _ _ ?_ (fun hHeld => ?_)
  · exact ⟨c46, hgK.cell d4 n0⟩
  clear hK K
  try simp only [Act.put, List.setIfInBounds_toArray, List.set_cons_zero, List.set_cons_succ]
  refine wpK_take (i := 7) (v := ?_) rfl (by kernel_rfl) (by kernel_rfl) (by kernel_rfl) (by kernel_rfl) (.inl ⟨by rfl, ?_⟩) hHeld ?_
  rotate_left
  · (intro w hSw; (try dsimp only at hSw); go_split_ands; go_simp; (try with_reducible rfl))
  try simp only [Act.put, List.setIfInBounds_toArray, List.set_cons_zero, List.set_cons_succ]
  refine wpK_last (i := 8) (by kernel_rfl) (by kernel_rfl) rfl (fun K hK => ?_)
  go_simp
  refine hK.out _ _ ?_
  clear hK K
  try simp only [Act.put, List.setIfInBounds_toArray, List.set_cons_zero, List.set_cons_succ]
  refine wpK_done (by kernel_rfl) ?_ _
  have bO7 : (w6.setCell ⟨O, 4, none⟩ (.slice AK (0 + lb m.keys key) cK)).heap[O]? = some (.cells #[.int .i64 6, .int .i64 0, .float .f64 0, .string ⟨#[]⟩, .slice AK (0 + lb m.keys key) cK, .slice none 0 0] 27 (0, 0)) := blk_set bO6 4 _
  have HB7 := HB6.setCell (p := ⟨O, 4, none⟩) (Nat.le_refl _) (.slice AK (0 + lb m.keys key) cK)
  have hownK7 := ownsRow_setCell_below hownK (a := ⟨O, 4, none⟩) (Nat.lt_succ_self _) (.slice AK (0 + lb m.keys key) cK)
  have hs7 : (w6.setCell ⟨O, 4, none⟩ (.slice AK (0 + lb m.keys key) cK)).heap.size = w6.heap.size := by simp
  clear bO6 c46 f46 hgK hatK HB6 hownK c4 d4 n0 nO q1 q2 q3 q4 hrK' hsl bO HB5
  simp only [Nat.zero_add, List.nil_append, Nat.mul_one] at hownK7 bO7 HB7 hs7
  generalize w6.setCell ⟨O, 4, none⟩ (.slice AK (lb m.keys key) cK) = w7 at *
  go_wp2_with fail
  -- the values ahead of the new one
  have hlb' : lb m.keys key ≤ m.l.length := by rw [← HL.out]; exact hlb
  have hsl := @run_slice_pre Tryz.prog 24 27 ma1 m.l.length mc1 (lb m.keys key) 6 .i64 Tryz.underlying24 (fun _ => by kernel_rfl) (by omega)
  have c4 : w7.cell? ⟨O, 5, none⟩ = some (.slice none 0 0) := blk_c bO7 5 rfl
  have d4 : w7.cell? ⟨w.heap.size, 5, none⟩ = some (.slice ma1 m.l.length mc1) := blk_c (blk_under b0 HB7 (by omega)) 5 rfl
  have n0 : some w.heap.size ≠ (Value.slice none 0 0).ownBlock := fun h => by cases h
  have nO : some O ≠ (Value.slice none 0 0).ownBlock := fun h => by cases h
  have q1 : 0 + lb m.keys key ≤ maxLen := by unfold maxLen; omega
  have q2 : (0 + lb m.keys key) * 88 ≤ 140737488355328 := by omega
  have q3 : O + 1 ≤ w7.heap.size := by omega
  have q4 : ∀ u ∈ (xs.take (lb m.keys key * 6)), u.oneCell' = true := ones_take hxs.ones
  have hrK' := ((hrL.below HB7).take_ hlb').drew
  refine wp_region_K (fun w' => w'.cell? ⟨O, 5, none⟩ = some (.slice none 0 0) ∧ w'.cell? ⟨w.heap.size, 5, none⟩ = some (.slice ma1 m.l.length mc1)) [0, 1, 2, 3, 4, 5, 7] (by kernel_rfl) ?_ (fun hHeld => ?_)
  · exact ⟨c4, d4⟩
  refine wpK_take (i := 0) (v := ?_) rfl (by kernel_rfl) (by kernel_rfl) (by kernel_rfl) (by kernel_rfl) (.inl ⟨by rfl, ?_⟩) hHeld ?_
  rotate_left
  · (intro w hSw; (try dsimp only at hSw); go_split_ands; go_simp; (try with_reducible rfl))
  try simp only [Act.put, List.setIfInBounds_toArray, List.set_cons_zero, List.set_cons_succ]
  refine wpK_take (i := 1) (v := ?_) rfl (by kernel_rfl) (by kernel_rfl) (by kernel_rfl) (by kernel_rfl) (.inl ⟨by rfl, ?_⟩) hHeld ?_
  rotate_left
  · (intro w hSw; (try dsimp only at hSw); go_split_ands; go_simp; (try with_reducible rfl))
  try simp only [Act.put, List.setIfInBounds_toArray, List.set_cons_zero, List.set_cons_succ]
  refine wpK_take (i := 2) (v := ?_) rfl (by kernel_rfl) (by kernel_rfl) (by kernel_rfl) (by kernel_rfl) (.inl ⟨by rfl, ?_⟩) hHeld ?_
  rotate_left
  · (intro w hSw; (try dsimp only at hSw); go_split_ands; go_simp; (try with_reducible rfl))
  try simp only [Act.put, List.setIfInBounds_toArray, List.set_cons_zero, List.set_cons_succ]
  refine wpK_take (i := 3) (v := ?_) rfl (by kernel_rfl) (by kernel_rfl) (by kernel_rfl) (by kernel_rfl) (.inl ⟨by rfl, ?_⟩) hHeld ?_
  rotate_left
  · (intro w hSw; (try dsimp only at hSw); go_split_ands; go_simp; (try with_reducible rfl))
  try simp only [Act.put, List.setIfInBounds_toArray, List.set_cons_zero, List.set_cons_succ]
  refine wpK_take (i := 4) (v := ?_) rfl (by kernel_rfl) (by kernel_rfl) (by kernel_rfl) (by kernel_rfl) (.inl ⟨by rfl, ?_⟩) hHeld ?_
  rotate_left
  · (intro w hSw; (try dsimp only at hSw); go_split_ands; go_simp; (try with_reducible rfl))
  try simp only [Act.put, List.setIfInBounds_toArray, List.set_cons_zero, List.set_cons_succ]
  refine wpK_take (i := 5) (v := ?_) rfl (by kernel_rfl) (by kernel_rfl) (by kernel_rfl) (by kernel_rfl) (.inl ⟨by rfl, ?_⟩) hHeld ?_
  rotate_left
  · (intro w hSw; (try dsimp only at hSw); go_split_ands; go_simp; (try with_reducible rfl))
  try simp only [Act.put, List.setIfInBounds_toArray, List.set_cons_zero, List.set_cons_succ]
  refine wpK_one (i := 6) (by kernel_rfl) rfl (fun K hK => ?_)
  refine step_append_s _ (by rfl) _ _ _ (by rfl) (O + 1) 27 i6 _ 6 88 Tryz.underlying24 hi6 hz60 hz61 hz62 rfl (by decide) (.slice none 0 0) 0 [] (by rfl) (World.ownsRow_nil _ _ _ _) O ma1 (lb m.keys key) mc1 _ (by rfl) hrK' q4 q1 q2 q3 ?_
  intro AL cL w8 hownL hgL hatL
  have bO8 := blk_grown (w := w7.drew) bO7 hgL nO
  have c46 : w8.cell? ⟨O, 5, none⟩ = some (.slice none 0 0) := blk_c bO8 5 rfl
  have f46 := blk_frozen bO8 5
  have HB8 := (HB7.drew).grown hgL (qB HB7.drew) (fun k hk => by cases hk)
  have hs8 : w7.heap.size ≤ w8.heap.size := hgL.size
  have hownK8 := own_nil (hownK7.drew) hgL
  refine hK.out _ _ ?_ (fun hHeld => ?_)
  · exact ⟨c46, hgL.cell d4 n0⟩
  clear hK K
  try simp only [Act.put, List.setIfInBounds_toArray, List.set_cons_zero, List.set_cons_succ]
  refine wpK_take (i := 7) (v := ?_) rfl (by kernel_rfl) (by kernel_rfl) (by kernel_rfl) (by kernel_rfl) (.inl ⟨by rfl, ?_⟩) hHeld ?_
  rotate_left
  · (intro w hSw; (try dsimp only at hSw); go_split_ands; go_simp; (try with_reducible rfl))
  try simp only [Act.put, List.setIfInBounds_toArray, List.set_cons_zero, List.set_cons_succ]
  refine wpK_last (i := 8) (by kernel_rfl) (by kernel_rfl) rfl (fun K hK => ?_)
  go_simp
  refine hK.out _ _ ?_
  clear hK K
  try simp only [Act.put, List.setIfInBounds_toArray, List.set_cons_zero, List.set_cons_succ]
  refine wpK_done (by kernel_rfl) ?_ _
  have bO9 : (w8.setCell ⟨O, 5, none⟩ (.slice AL (0 + lb m.keys key) cL)).heap[O]? = some (.cells #[.int .i64 6, .int .i64 0, .float .f64 0, .string ⟨#[]⟩, .slice AK (lb m.keys key) cK, .slice AL (0 + lb m.keys key) cL] 27 (0, 0)) := blk_set bO8 5 _
  have HB9 := HB8.setCell (p := ⟨O, 5, none⟩) (Nat.le_refl _) (.slice AL (0 + lb m.keys key) cL)
  have hownK9 := ownsRow_setCell_below hownK8 (a := ⟨O, 5, none⟩) (Nat.lt_succ_self _) (.slice AL (0 + lb m.keys key) cL)
  have hownL9 := ownsRow_setCell_below hownL (a := ⟨O, 5, none⟩) (Nat.lt_succ_self _) (.slice AL (0 + lb m.keys key) cL)
  have hs9 : (w8.setCell ⟨O, 5, none⟩ (.slice AL (0 + lb m.keys key) cL)).heap.size = w8.heap.size := by simp
  clear bO8 c46 f46 hgL hatL HB8 hownL hownK8 c4 d4 n0 nO q1 q2 q3 q4 hrK' hsl bO7 HB7 hownK7
  simp only [Nat.zero_add, List.nil_append] at hownL9 bO9 HB9 hs9 hownK9
  generalize w8.setCell ⟨O, 5, none⟩ (.slice AL (lb m.keys key) cL) = w9 at *
  -- the new key
  have c4 : w9.cell? ⟨O, 4, none⟩ = some (.slice AK (lb m.keys key) cK) := blk_c bO9 4 rfl
  have hq : O + 1 ≤ w9.heap.size := by have := blk_lt bO9; omega
  go_wp2_with (first
    | (with_reducible refine wpList_buildSlice_one rfl _ _ 9 rfl Tryz.underlying23 i0 hi0 _ hz0 hz1 (.string key) rfl rfl rfl ?_)
    | (at_builtin; refine wpList_append_s _ rfl _ _ _ rfl (O + 1) 9 i0 _ 1 16 Tryz.underlying23 hi0 hz0 hz1 hz2 rfl Nat.one_pos (.slice AK (lb m.keys key) cK) (lb m.keys key) _ rfl (hownK9.alloc _) (w9.heap.size + 1) (some ⟨w9.heap.size, 0, none⟩) 1 1 [.string key] rfl ?r1 ?r2 ?r3 ?r4 ?r5 ?_))
  case r1 => exact ⟨rfl, fun _ => ⟨_, rfl, Nat.lt_succ_self _, cell_one_new _ _ _⟩⟩
  case r2 => intro u hu; simp at hu; subst hu; rfl
  case r3 => unfold maxLen; omega
  case r4 => omega
  case r5 => simp; omega
  intro AK2 cK2 w10 hownK10 hg10 _
  have bO10 := blk_grown (blk_alloc bO9 (.cells #[.string key] 9)) hg10 (own_notin (hownK9.alloc (.cells #[.string key] 9)) (Nat.lt_succ_self _))
  have HB10 := (HB9.alloc (qB HB9) (.cells #[.string key] 9)).grown hg10 (qB (HB9.alloc (qB HB9) (.cells #[.string key] 9))) (own_ge (hownK9.alloc (.cells #[.string key] 9)) (Nat.le_succ _))
  have hownL10 := own_keep_ne (hownL9.alloc (.cells #[.string key] 9)) (hownK9.alloc (.cells #[.string key] 9)) (by decide) hg10
  have hs10 := hg10.size
  have c46 : w10.cell? ⟨O, 4, none⟩ = some (.slice AK (lb m.keys key) cK) := blk_c bO10 4 rfl
  have f46 := blk_frozen bO10 4
  clear hg10 hownK9 hownL9 c4 bO9 HB9
  simp only [World.size_alloc] at hs10
  have bO11 : (w10.setCell ⟨O, 4, none⟩ (.slice AK2 (lb m.keys key + 1) cK2)).heap[O]? = some (.cells #[.int .i64 6, .int .i64 0, .float .f64 0, .string ⟨#[]⟩, .slice AK2 (lb m.keys key + 1) cK2, .slice AL (lb m.keys key) cL] 27 (0, 0)) := blk_set bO10 4 _
  have HB11 := HB10.setCell (p := ⟨O, 4, none⟩) (Nat.le_refl _) (.slice AK2 (lb m.keys key + 1) cK2)
  have hownK11 := ownsRow_setCell_below hownK10 (a := ⟨O, 4, none⟩) (Nat.lt_succ_self _) (.slice AK2 (lb m.keys key + 1) cK2)
  have hownL11 := ownsRow_setCell_below hownL10 (a := ⟨O, 4, none⟩) (Nat.lt_succ_self _) (.slice AK2 (lb m.keys key + 1) cK2)
  have hs11 : (w10.setCell ⟨O, 4, none⟩ (.slice AK2 (lb m.keys key + 1) cK2)).heap.size = w10.heap.size := by simp
  -- the new value
  have c5 : w10.cell? ⟨O, 5, none⟩ = some (.slice AL (lb m.keys key) cL) := blk_c bO10 5 rfl
  have bx := blk_under b1 HB10 (by omega)
  have e0 : w10.cell? ⟨w.heap.size + 1, 0, none⟩ = some (.int .i64 x.kind) := blk_c bx 0 rfl
  have e1 : w10.cell? ⟨w.heap.size + 1, 1, none⟩ = some (.int .i64 x.n) := blk_c bx 1 rfl
  have e2 : w10.cell? ⟨w.heap.size + 1, 2, none⟩ = some (.float .f64 x.f) := blk_c bx 2 rfl
  have e3 : w10.cell? ⟨w.heap.size + 1, 3, none⟩ = some (.string x.s) := blk_c bx 3 rfl
  have e4 : w10.cell? ⟨w.heap.size + 1, 4, none⟩ = some (.slice xa0 x.keys.length xc0) := blk_c bx 4 rfl
  have e5 : w10.cell? ⟨w.heap.size + 1, 5, none⟩ = some (.slice xa1 x.l.length xc1) := blk_c bx 5 rfl
  have hne : ¬ O = w.heap.size + 1 := by omega
  go_wp2_with (at_builtin; refine wpList_append_s _ rfl _ _ _ rfl (O + 1) 27 i6 _ 6 88 Tryz.underlying24 hi6 hz60 hz61 hz62 rfl (by decide) (.slice AL (lb m.keys key) cL) (lb m.keys key) _ rfl (hownL11.alloc _) (w10.heap.size + 1) (some ⟨w10.heap.size, 0, none⟩) 1 1 [.int .i64 x.kind, .int .i64 x.n, .float .f64 x.f, .string x.s, .slice xa0 x.keys.length xc0, .slice xa1 x.l.length xc1] rfl ?s1 ?s2 ?s3 ?s4 ?s5 ?_)
  case s1 => exact ⟨rfl, fun _ => ⟨_, rfl, Nat.lt_succ_self _, World.news_of_block (cs := #[.int .i64 x.kind, .int .i64 x.n, .float .f64 x.f, .string x.s, .slice xa0 x.keys.length xc0, .slice xa1 x.l.length xc1]) (t := 27) (fr := (0, 0)) (new_block (by simp))⟩⟩
  case s2 => intro u hu; simp at hu; rcases hu with rfl | rfl | rfl | rfl | rfl | rfl <;> rfl
  case s3 => unfold maxLen; omega
  case s4 => omega
  case s5 => simp; omega
  intro AL2 cL2 w12 hownL12 hg12 _
  have bO12 := blk_grown (blk_alloc bO11 (.cells #[.int .i64 x.kind, .int .i64 x.n, .float .f64 x.f, .string x.s, .slice xa0 x.keys.length xc0, .slice xa1 x.l.length xc1] 27)) hg12 (own_notin (hownL11.alloc (.cells #[.int .i64 x.kind, .int .i64 x.n, .float .f64 x.f, .string x.s, .slice xa0 x.keys.length xc0, .slice xa1 x.l.length xc1] 27)) (Nat.lt_succ_self _))
  have HB12 := (HB11.alloc (qB HB11) (.cells #[.int .i64 x.kind, .int .i64 x.n, .float .f64 x.f, .string x.s, .slice xa0 x.keys.length xc0, .slice xa1 x.l.length xc1] 27)).grown hg12 (qB (HB11.alloc (qB HB11) (.cells #[.int .i64 x.kind, .int .i64 x.n, .float .f64 x.f, .string x.s, .slice xa0 x.keys.length xc0, .slice xa1 x.l.length xc1] 27))) (own_ge (hownL11.alloc (.cells #[.int .i64 x.kind, .int .i64 x.n, .float .f64 x.f, .string x.s, .slice xa0 x.keys.length xc0, .slice xa1 x.l.length xc1] 27)) (Nat.le_succ _))
  have hownK12 := own_keep_ne (hownK11.alloc (.cells #[.int .i64 x.kind, .int .i64 x.n, .float .f64 x.f, .string x.s, .slice xa0 x.keys.length xc0, .slice xa1 x.l.length xc1] 27)) (hownL11.alloc (.cells #[.int .i64 x.kind, .int .i64 x.n, .float .f64 x.f, .string x.s, .slice xa0 x.keys.length xc0, .slice xa1 x.l.length xc1] 27)) (by decide) hg12
  have c46 : w12.cell? ⟨O, 5, none⟩ = some (.slice AL (lb m.keys key) cL) := blk_c bO12 5 rfl
  have f46 := blk_frozen bO12 5
  have bO13 : (w12.setCell ⟨O, 5, none⟩ (.slice AL2 (lb m.keys key + 1) cL2)).heap[O]? = some (.cells #[.int .i64 6, .int .i64 0, .float .f64 0, .string ⟨#[]⟩, .slice AK2 (lb m.keys key + 1) cK2, .slice AL2 (lb m.keys key + 1) cL2] 27 (0, 0)) := blk_set bO12 5 _
  have HB13 := HB12.setCell (p := ⟨O, 5, none⟩) (Nat.le_refl _) (.slice AL2 (lb m.keys key + 1) cL2)
  have hownK13 := ownsRow_setCell_below hownK12 (a := ⟨O, 5, none⟩) (Nat.lt_succ_self _) (.slice AL2 (lb m.keys key + 1) cL2)
  have hownL13 := ownsRow_setCell_below hownL12 (a := ⟨O, 5, none⟩) (Nat.lt_succ_self _) (.slice AL2 (lb m.keys key + 1) cL2)
  clear bO12 hg12 HB12 hownK12 hownL12 bO11 HB11 hownK11 hownL11 hs11 e0 e1 e2 e3 e4 e5 c5 bx bO10 HB10 hownK10 hownL10
  go_upto_if 45 with (fail)
  generalize w12.setCell ⟨O, 5, none⟩ (.slice AL2 (lb m.keys key + 1) cL2) = w13 at *
  clear c46 f46 hs10
  go_cut [7] (fun s7 wx => w13 = wx ∧ ∃ j : Nat, s7 = .int .i64 (j : Nat) ∧ j = lb m.keys key + (if hasAt m.keys key then 1 else 0))
  case first =>
    go_wp2_with fail
    all_goals go_meet
    · have h : hasAt m.keys key = true := by assumption
      exact ⟨rfl, lb m.keys key + 1, by go_num, by rw [if_pos h]⟩
    · have h : hasAt m.keys key = false := by assumption
      exact ⟨rfl, lb m.keys key, rfl, by rw [h]; rfl⟩
  case rest =>
    obtain ⟨rfl, j, rfl, hj⟩ := hcut
    have hjk : j ≤ m.keys.length := by
      rw [hj]
      cases hh : hasAt m.keys key with
      | false => simpa using hlb
      | true =>
        unfold hasAt at hh
        simp only [decide_eq_true_eq] at hh
        have := (List.getElem?_eq_some_iff.1 hh).1
        simp; omega
    have hlj : lb m.keys key ≤ j := by rw [hj]; exact Nat.le_add_right _ _
    have hnl : m.keys.length ≤ m.l.length := Nat.le_of_eq HL.out
    have HJ := Lib.hid hj
    have hjl : j ≤ m.l.length := by rw [← HL.out]; exact hjk
    clear hj
    go_wp2_with fail
    -- the keys behind the new one
    have hsl := @run_slice_suf Tryz.prog 23 9 ma0 m.keys.length mc0 j 1 .i64 Tryz.underlying23 (fun _ => by kernel_rfl) hjk
    have c4 : w13.cell? ⟨O, 4, none⟩ = some (.slice AK2 (lb m.keys key + 1) cK2) := blk_c bO13 4 rfl
    have d4 : w13.cell? ⟨w.heap.size, 4, none⟩ = some (.slice ma0 m.keys.length mc0) := blk_c (blk_under b0 HB13 (by omega)) 4 rfl
    have n0 : some w.heap.size ≠ (Value.slice AK2 (lb m.keys key + 1) cK2).ownBlock := own_notin hownK13 (by omega)
    have nO : some O ≠ (Value.slice AK2 (lb m.keys key + 1) cK2).ownBlock := own_notin hownK13 (by omega)
    have q1 : lb m.keys key + 1 + (m.keys.length - j) ≤ maxLen := by unfold maxLen; omega
    have q2 : (lb m.keys key + 1 + (m.keys.length - j)) * 16 ≤ 140737488355328 := by omega
    have q3 : O + 1 ≤ w13.heap.size := by have := blk_lt bO13; omega
    have q4 : ∀ u ∈ ((m.keys.map Value.string).drop (j * 1)), u.oneCell' = true := ones_drop strs_one
    have hrK' : Reads w13.drew O 1 (sufA ma0 mc0 j 1) (m.keys.length - j) ((m.keys.map Value.string).drop (j * 1)) := ((hrK.below HB13).cut hjk hkc).drew
    refine wp_region_K (fun w' => w'.cell? ⟨O, 4, none⟩ = some (.slice AK2 (lb m.keys key + 1) cK2) ∧ w'.cell? ⟨w.heap.size, 4, none⟩ = some (.slice ma0 m.keys.length mc0)) [0, 1, 2, 3, 4, 5, 7] (by kernel_rfl) ?_ (fun hHeld => ?_)
    · exact ⟨c4, d4⟩
    refine wpK_take (i := 0) (v := ?_) rfl (by kernel_rfl) (by kernel_rfl) (by kernel_rfl) (by kernel_rfl) (.inl ⟨by rfl, ?_⟩) hHeld ?_
    rotate_left
    · (intro w hSw; (try dsimp only at hSw); go_split_ands; go_simp; (try with_reducible rfl))
    try simp only [Act.put, List.setIfInBounds_toArray, List.set_cons_zero, List.set_cons_succ]
    refine wpK_take (i := 1) (v := ?_) rfl (by kernel_rfl) (by kernel_rfl) (by kernel_rfl) (by kernel_rfl) (.inl ⟨by rfl, ?_⟩) hHeld ?_
    rotate_left
    · (intro w hSw; (try dsimp only at hSw); go_split_ands; go_simp; (try with_reducible rfl))
    try simp only [Act.put, List.setIfInBounds_toArray, List.set_cons_zero, List.set_cons_succ]
    refine wpK_take (i := 2) (v := ?_) rfl (by kernel_rfl) (by kernel_rfl) (by kernel_rfl) (by kernel_rfl) (.inl ⟨by rfl, ?_⟩) hHeld ?_
    rotate_left
    · (intro w hSw; (try dsimp only at hSw); go_split_ands; go_simp; (try with_reducible rfl))
    try simp only [Act.put, List.setIfInBounds_toArray, List.set_cons_zero, List.set_cons_succ]
    refine wpK_take (i := 3) (v := ?_) rfl (by kernel_rfl) (by kernel_rfl) (by kernel_rfl) (by kernel_rfl) (.inl ⟨by rfl, ?_⟩) hHeld ?_
    rotate_left
    · (intro w hSw; (try dsimp only at hSw); go_split_ands; go_simp; (try with_reducible rfl))
    try simp only [Act.put, List.setIfInBounds_toArray, List.set_cons_zero, List.set_cons_succ]
    refine wpK_take (i := 4) (v := ?_) rfl (by kernel_rfl) (by kernel_rfl) (by kernel_rfl) (by kernel_rfl) (.inl ⟨by rfl, ?_⟩) hHeld ?_
    rotate_left
    · (intro w hSw; (try dsimp only at hSw); go_split_ands; go_simp; (try with_reducible rfl))
    try simp only [Act.put, List.setIfInBounds_toArray, List.set_cons_zero, List.set_cons_succ]
    refine wpK_take (i := 5) (v := ?_) rfl (by kernel_rfl) (by kernel_rfl) (by kernel_rfl) (by kernel_rfl) (.inl ⟨by rfl, ?_⟩) hHeld ?_
    rotate_left
    · (intro w hSw; (try dsimp only at hSw); go_split_ands; go_simp; (try with_reducible rfl))
    try simp only [Act.put, List.setIfInBounds_toArray, List.set_cons_zero, List.set_cons_succ]
    refine wpK_one (i := 6) (by kernel_rfl) rfl (fun K hK => ?_)
    refine step_append_s _ (by rfl) _ _ _ (by rfl) (O + 1) 9 i0 _ 1 16 Tryz.underlying23 hi0 hz0 hz1 hz2 rfl Nat.one_pos (.slice AK2 (lb m.keys key + 1) cK2) _ _ (by rfl) hownK13.drew O (sufA ma0 mc0 j 1) (m.keys.length - j) (mc0 - j) _ (by rfl) hrK' q4 q1 q2 q3 ?_
    intro AK3 cK3 w14 hownK14 hgK hatK
    have bO14 := blk_grown (w := w13.drew) bO13 hgK nO
    have c46 : w14.cell? ⟨O, 4, none⟩ = some (.slice AK2 (lb m.keys key + 1) cK2) := blk_c bO14 4 rfl
    have f46 := blk_frozen bO14 4
    have HB14 := (HB13.drew).grown hgK (qB HB13.drew) (own_ge hownK13 (Nat.le_succ _))
    have hownL14 := own_keep_ne hownL13.drew hownK13.drew (by decide) hgK
    refine hK.out _ _ ?_ (fun hHeld => ?_)
    · exact ⟨c46, hgK.cell d4 n0⟩
    clear hK K
    try simp only [Act.put, List.setIfInBounds_toArray, List.set_cons_zero, List.set_cons_succ]
    refine wpK_take (i := 7) (v := ?_) rfl (by kernel_rfl) (by kernel_rfl) (by kernel_rfl) (by kernel_rfl) (.inl ⟨by rfl, ?_⟩) hHeld ?_
    rotate_left
    · (intro w hSw; (try dsimp only at hSw); go_split_ands; go_simp; (try with_reducible rfl))
    try simp only [Act.put, List.setIfInBounds_toArray, List.set_cons_zero, List.set_cons_succ]
    refine wpK_last (i := 8) (by kernel_rfl) (by kernel_rfl) rfl (fun K hK => ?_)
    go_simp
    refine hK.out _ _ ?_
    clear hK K
    try simp only [Act.put, List.setIfInBounds_toArray, List.set_cons_zero, List.set_cons_succ]
    refine wpK_done (by kernel_rfl) ?_ _
    have bO15 : (w14.setCell ⟨O, 4, none⟩ (.slice AK3 (lb m.keys key + 1 + (m.keys.length - j)) cK3)).heap[O]? = some (.cells #[.int .i64 6, .int .i64 0, .float .f64 0, .string ⟨#[]⟩, .slice AK3 (lb m.keys key + 1 + (m.keys.length - j)) cK3, .slice AL2 (lb m.keys key + 1) cL2] 27 (0, 0)) := blk_set bO14 4 _
    have HB15 := HB14.setCell (p := ⟨O, 4, none⟩) (Nat.le_refl _) (.slice AK3 (lb m.keys key + 1 + (m.keys.length - j)) cK3)
    have hownK15 := ownsRow_setCell_below hownK14 (a := ⟨O, 4, none⟩) (Nat.lt_succ_self _) (.slice AK3 (lb m.keys key + 1 + (m.keys.length - j)) cK3)
    have hownL15 := ownsRow_setCell_below hownL14 (a := ⟨O, 4, none⟩) (Nat.lt_succ_self _) (.slice AK3 (lb m.keys key + 1 + (m.keys.length - j)) cK3)
    clear bO14 c46 f46 hgK hatK HB14 hownK14 hownL14 c4 d4 n0 nO q1 q2 q3 q4 hrK' hsl bO13 HB13 hownK13 hownL13
    generalize w14.setCell ⟨O, 4, none⟩ (.slice AK3 (lb m.keys key + 1 + (m.keys.length - j)) cK3) = w15 at *
    go_wp2_with fail
    have hsl := @run_slice_suf Tryz.prog 24 27 ma1 m.l.length mc1 j 6 .i64 Tryz.underlying24 (fun _ => by kernel_rfl) hjl
    have c4 : w15.cell? ⟨O, 5, none⟩ = some (.slice AL2 (lb m.keys key + 1) cL2) := blk_c bO15 5 rfl
    have d4 : w15.cell? ⟨w.heap.size, 5, none⟩ = some (.slice ma1 m.l.length mc1) := blk_c (blk_under b0 HB15 (by omega)) 5 rfl
    have n0 : some w.heap.size ≠ (Value.slice AL2 (lb m.keys key + 1) cL2).ownBlock := own_notin hownL15 (by omega)
    have nO : some O ≠ (Value.slice AL2 (lb m.keys key + 1) cL2).ownBlock := own_notin hownL15 (by omega)
    have q1 : lb m.keys key + 1 + (m.l.length - j) ≤ maxLen := by unfold maxLen; omega
    have q2 : (lb m.keys key + 1 + (m.l.length - j)) * 88 ≤ 140737488355328 := by omega
    have q3 : O + 1 ≤ w15.heap.size := by have := blk_lt bO15; omega
    have q4 : ∀ u ∈ (xs.drop (j * 6)), u.oneCell' = true := ones_drop hxs.ones
    have hrK' : Reads w15.drew O 6 (sufA ma1 mc1 j 6) (m.l.length - j) (xs.drop (j * 6)) := ((hrL.below HB15).cut hjl hlc).drew
    refine wp_region_K (fun w' => w'.cell? ⟨O, 5, none⟩ = some (.slice AL2 (lb m.keys key + 1) cL2) ∧ w'.cell? ⟨w.heap.size, 5, none⟩ = some (.slice ma1 m.l.length mc1)) [0, 1, 2, 3, 4, 5, 7] (by kernel_rfl) ?_ (fun hHeld => ?_)
    · exact ⟨c4, d4⟩
    refine wpK_take (i := 0) (v := ?_) rfl (by kernel_rfl) (by kernel_rfl) (by kernel_rfl) (by kernel_rfl) (.inl ⟨by rfl, ?_⟩) hHeld ?_
    rotate_left
    · (intro w hSw; (try dsimp only at hSw); go_split_ands; go_simp; (try with_reducible rfl))
    try simp only [Act.put, List.setIfInBounds_toArray, List.set_cons_zero, List.set_cons_succ]
    refine wpK_take (i := 1) (v := ?_) rfl (by kernel_rfl) (by kernel_rfl) (by kernel_rfl) (by kernel_rfl) (.inl ⟨by rfl, ?_⟩) hHeld ?_
    rotate_left
    · (intro w hSw; (try dsimp only at hSw); go_split_ands; go_simp; (try with_reducible rfl))
    try simp only [Act.put, List.setIfInBounds_toArray, List.set_cons_zero, List.set_cons_succ]
    refine wpK_take (i := 2) (v := ?_) rfl (by kernel_rfl) (by kernel_rfl) (by kernel_rfl) (by kernel_rfl) (.inl ⟨by rfl, ?_⟩) hHeld ?_
    rotate_left
    · (intro w hSw; (try dsimp only at hSw); go_split_ands; go_simp; (try with_reducible rfl))
    try simp only [Act.put, List.setIfInBounds_toArray, List.set_cons_zero, List.set_cons_succ]
    refine wpK_take (i := 3) (v := ?_) rfl (by kernel_rfl) (by kernel_rfl) (by kernel_rfl) (by kernel_rfl) (.inl ⟨by rfl, ?_⟩) hHeld ?_
    rotate_left
    · (intro w hSw; (try dsimp only at hSw); go_split_ands; go_simp; (try with_reducible rfl))
    try simp only [Act.put, List.setIfInBounds_toArray, List.set_cons_zero, List.set_cons_succ]
    refine wpK_take (i := 4) (v := ?_) rfl (by kernel_rfl) (by kernel_rfl) (by kernel_rfl) (by kernel_rfl) (.inl ⟨by rfl, ?_⟩) hHeld ?_
    rotate_left
    · (intro w hSw; (try dsimp only at hSw); go_split_ands; go_simp; (try with_reducible rfl))
    try simp only [Act.put, List.setIfInBounds_toArray, List.set_cons_zero, List.set_cons_succ]
    refine wpK_take (i := 5) (v := ?_) rfl (by kernel_rfl) (by kernel_rfl) (by kernel_rfl) (by kernel_rfl) (.inl ⟨by rfl, ?_⟩) hHeld ?_
    rotate_left
    · (intro w hSw; (try dsimp only at hSw); go_split_ands; go_simp; (try with_reducible rfl))
    try simp only [Act.put, List.setIfInBounds_toArray, List.set_cons_zero, List.set_cons_succ]
    refine wpK_one (i := 6) (by kernel_rfl) rfl (fun K hK => ?_)
    refine step_append_s _ (by rfl) _ _ _ (by rfl) (O + 1) 27 i6 _ 6 88 Tryz.underlying24 hi6 hz60 hz61 hz62 rfl (by decide) (.slice AL2 (lb m.keys key + 1) cL2) _ _ (by rfl) hownL15.drew O (sufA ma1 mc1 j 6) (m.l.length - j) (mc1 - j) _ (by rfl) hrK' q4 q1 q2 q3 ?_
    intro AL3 cL3 w16 hownL16 hgL hatL
    have bO16 := blk_grown (w := w15.drew) bO15 hgL nO
    have c46 : w16.cell? ⟨O, 5, none⟩ = some (.slice AL2 (lb m.keys key + 1) cL2) := blk_c bO16 5 rfl
    have f46 := blk_frozen bO16 5
    have HB16 := (HB15.drew).grown hgL (qB HB15.drew) (own_ge hownL15 (Nat.le_succ _))
    have hownK16 := own_keep_ne hownK15.drew hownL15.drew (by decide) hgL
    refine hK.out _ _ ?_ (fun hHeld => ?_)
    · exact ⟨c46, hgL.cell d4 n0⟩
    clear hK K
    try simp only [Act.put, List.setIfInBounds_toArray, List.set_cons_zero, List.set_cons_succ]
    refine wpK_take (i := 7) (v := ?_) rfl (by kernel_rfl) (by kernel_rfl) (by kernel_rfl) (by kernel_rfl) (.inl ⟨by rfl, ?_⟩) hHeld ?_
    rotate_left
    · (intro w hSw; (try dsimp only at hSw); go_split_ands; go_simp; (try with_reducible rfl))
    try simp only [Act.put, List.setIfInBounds_toArray, List.set_cons_zero, List.set_cons_succ]
    refine wpK_last (i := 8) (by kernel_rfl) (by kernel_rfl) rfl (fun K hK => ?_)
    go_simp
    refine hK.out _ _ ?_
    clear hK K
    try simp only [Act.put, List.setIfInBounds_toArray, List.set_cons_zero, List.set_cons_succ]
    refine wpK_done (by kernel_rfl) ?_ _
    have bO17 : (w16.setCell ⟨O, 5, none⟩ (.slice AL3 (lb m.keys key + 1 + (m.l.length - j)) cL3)).heap[O]? = some (.cells #[.int .i64 6, .int .i64 0, .float .f64 0, .string ⟨#[]⟩, .slice AK3 (lb m.keys key + 1 + (m.keys.length - j)) cK3, .slice AL3 (lb m.keys key + 1 + (m.l.length - j)) cL3] 27 (0, 0)) := blk_set bO16 5 _
    have HB17 := HB16.setCell (p := ⟨O, 5, none⟩) (Nat.le_refl _) (.slice AL3 (lb m.keys key + 1 + (m.l.length - j)) cL3)
    have hownK17 := ownsRow_setCell_below hownK16 (a := ⟨O, 5, none⟩) (Nat.lt_succ_self _) (.slice AL3 (lb m.keys key + 1 + (m.l.length - j)) cL3)
    have hownL17 := ownsRow_setCell_below hownL16 (a := ⟨O, 5, none⟩) (Nat.lt_succ_self _) (.slice AL3 (lb m.keys key + 1 + (m.l.length - j)) cL3)
    clear bO16 c46 f46 hgL hatL HB16 hownK16 hownL16 c4 d4 n0 nO q1 q2 q3 q4 hrK' hsl bO15 HB15 hownK15 hownL15
    generalize w16.setCell ⟨O, 5, none⟩ (.slice AL3 (lb m.keys key + 1 + (m.l.length - j)) cL3) = w17 at *
    have bR17 := blk_under bR HB17 (by omega)
    have o0 : w17.cell? ⟨O, 0, none⟩ = some (.int .i64 6) := blk_c bO17 0 rfl
    have o1 : w17.cell? ⟨O, 1, none⟩ = some (.int .i64 0) := blk_c bO17 1 rfl
    have o2 : w17.cell? ⟨O, 2, none⟩ = some (.float .f64 0) := blk_c bO17 2 rfl
    have o3 : w17.cell? ⟨O, 3, none⟩ = some (.string ⟨#[]⟩) := blk_c bO17 3 rfl
    have o4 : w17.cell? ⟨O, 4, none⟩ = some (.slice AK3 (lb m.keys key + 1 + (m.keys.length - j)) cK3) := blk_c bO17 4 rfl
    have o5 : w17.cell? ⟨O, 5, none⟩ = some (.slice AL3 (lb m.keys key + 1 + (m.l.length - j)) cL3) := blk_c bO17 5 rfl
    have r0 : w17.cell? ⟨w.heap.size + 2, 0, none⟩ = some (.int .i64 0) := blk_c bR17 0 rfl
    have r1 : w17.cell? ⟨w.heap.size + 2, 1, none⟩ = some (.int .i64 0) := blk_c bR17 1 rfl
    have r2 : w17.cell? ⟨w.heap.size + 2, 2, none⟩ = some (.float .f64 0) := blk_c bR17 2 rfl
    have r3 : w17.cell? ⟨w.heap.size + 2, 3, none⟩ = some (.string ⟨#[]⟩) := blk_c bR17 3 rfl
    have r4 : w17.cell? ⟨w.heap.size + 2, 4, none⟩ = some (.slice none 0 0) := blk_c bR17 4 rfl
    have r5 : w17.cell? ⟨w.heap.size + 2, 5, none⟩ = some (.slice none 0 0) := blk_c bR17 5 rfl
    have g0 := blk_frozen bR17 0
    have g1 := blk_frozen bR17 1
    have g2 := blk_frozen bR17 2
    have g3 := blk_frozen bR17 3
    have g4 := blk_frozen bR17 4
    have g5 := blk_frozen bR17 5
    go_wp2_with fail
    have hBF : Below w.heap.size w4 (st6 w17 (w.heap.size + 2) (.int .i64 6) (.int .i64 0) (.float .f64 0) (.string ⟨#[]⟩) (.slice AK3 (lb m.keys key + 1 + (m.keys.length - j)) cK3) (.slice AL3 (lb m.keys key + 1 + (m.l.length - j)) cL3)) := st6_below (HB17.mono (by omega)) (by omega)
    have hOK := st6_own (b := w.heap.size + 2) (c0 := .int .i64 6) (c1 := .int .i64 0) (c2 := .float .f64 0) (c3 := .string ⟨#[]⟩) (c4 := .slice AK3 (lb m.keys key + 1 + (m.keys.length - j)) cK3) (c5 := .slice AL3 (lb m.keys key + 1 + (m.l.length - j)) cL3) hownK17 (by omega)
    have hOL := st6_own (b := w.heap.size + 2) (c0 := .int .i64 6) (c1 := .int .i64 0) (c2 := .float .f64 0) (c3 := .string ⟨#[]⟩) (c4 := .slice AK3 (lb m.keys key + 1 + (m.keys.length - j)) cK3) (c5 := .slice AL3 (lb m.keys key + 1 + (m.l.length - j)) cL3) hownL17 (by omega)
    have hblk := st6_blk (c0 := .int .i64 6) (c1 := .int .i64 0) (c2 := .float .f64 0) (c3 := .string ⟨#[]⟩) (c4 := .slice AK3 (lb m.keys key + 1 + (m.keys.length - j)) cK3) (c5 := .slice AL3 (lb m.keys key + 1 + (m.l.length - j)) cL3) bR17
    refine bodyPost_ret (v := .agg #[.int .i64 6, .int .i64 0, .float .f64 0, .string ⟨#[]⟩, .slice AK3 (lb m.keys key + 1 + (m.keys.length - j)) cK3, .slice AL3 (lb m.keys key + 1 + (m.l.length - j)) cL3]) ?_ rfl ⟨_, rfl, hB.trans hBF, ?_⟩
    · have e0 := blk_c hblk 0 (u := .int .i64 6) rfl
      have e1 := blk_c hblk 1 (u := .int .i64 0) rfl
      have e2 := blk_c hblk 2 (u := .float .f64 0) rfl
      have e3 := blk_c hblk 3 (u := .string ⟨#[]⟩) rfl
      have e4 := blk_c hblk 4 (u := .slice AK3 (lb m.keys key + 1 + (m.keys.length - j)) cK3) rfl
      have e5 := blk_c hblk 5 (u := .slice AL3 (lb m.keys key + 1 + (m.l.length - j)) cL3) rfl
      unfold st6 at e0 e1 e2 e3 e4 e5
      simp [results, Tryz.results112, go_sem, e0, e1, e2, e3, e4, e5]
    · exact with_fin (W := w.heap.size) (O := O) hlo (by omega) hxs hx4 hBF (by have := blk_lt bO17; simp; omega) HJ.out hjk hjl HL.out hkey hkz hsz hOK hOL
end Go.Proofs.YtbbacpdbbmjblaaGreat
end
section
namespace Go.Proofs.YtbbacpdbbmjblaaGreat
open Go.RowKit
set_option linter.unusedSimpArgs false
/-- A value with nothing but what its kind uses. -/
def gv (k n : Int) (f : Nat) (s : ByteArray) : GV := .mk k n f s [] []
def gNull : GV := .mk 0 0 0 ByteArray.empty [] []
mutual
/-- The plain form. -/
def cleanV : GV → GV
  | .mk k n f s ks l => if k = 1 then .mk 1 (if n = 0 then 0 else 1) 0 ByteArray.empty [] [] else if k = 2 then .mk 2 n 0 ByteArray.empty [] [] else if k = 3 then .mk 3 0 f ByteArray.empty [] []
    else if k = 4 then .mk 4 0 0 s [] [] else if k = 5 then .mk 5 0 0 ByteArray.empty [] (cleanL l) else if k = 6 then cleanM ks l (.mk 6 0 0 ByteArray.empty [] []) else gNull
def cleanL : List GV → List GV
  | [] => []
  | x :: r => cleanV x :: cleanL r
def cleanM : List ByteArray → List GV → GV → GV
  | k :: ks, x :: r, acc => cleanM ks r (withF acc k (cleanV x))
  | _, _, acc => acc
end
theorem cleanL_length : ∀ l, (cleanL l).length = l.length
  | [] => by simp [cleanL]
  | x :: r => by simp [cleanL, cleanL_length r]
theorem cleanL_at : ∀ (l : List GV) (i : Nat), (cleanL l)[i]? = (l[i]?).map cleanV
  | [], i => by simp [cleanL]
  | x :: r, 0 => by simp [cleanL]
  | x :: r, i + 1 => by simp [cleanL, cleanL_at r i]
def CleanC (x : GV) : Prop := ∀ (w : World) (v : Value), IsV w (Btw 0 w.heap.size) x v →
    Calls Tryz.prog 47 #[v] w fun e w' => ∃ r, e = .returned r ∧ Below w.heap.size w w' ∧ IsV w' (Btw w.heap.size w'.heap.size) (cleanV x) r
theorem CleanC.use {x : GV} (h : CleanC x) (w : World) (v : Value) (hv : IsV w (Btw 0 w.heap.size) x v) :
    Calls Tryz.prog 47 #[v] w fun e w' => ∃ r, e = .returned r ∧ Below w.heap.size w w' ∧ IsV w' (Btw w.heap.size w'.heap.size) (cleanV x) r := h w v hv
set_option maxHeartbeats 2000000 in
set_option maxRecDepth 100000 in
theorem plainList_any (l : List GV) (ih : ∀ y ∈ l, CleanC y) (w : World) (a : Option Addr) (c : Nat) (h6 : l.length * 88 ≤ 140737488351232) (h7 : l = [] ∨ ∃ b o, Btw 0 w.heap.size b ∧ a = some ⟨b, o, none⟩ ∧ IsVs w (Btw 0 w.heap.size) l b o) :
    Calls Tryz.prog 69 #[.slice a l.length c] w fun e w' => ∃ A C, e = .returned (.slice A l.length C) ∧ l.length ≤ C ∧ Below w.heap.size w w' ∧
      (l = [] ∨ ∃ b o, Btw w.heap.size w'.heap.size b ∧ A = some ⟨b, o, none⟩ ∧ IsVs w' (Btw w.heap.size w'.heap.size) (cleanL l) b o) := by
  obtain ⟨i6, hi6, hz60, hz61, hz62⟩ := info_parts Tryz.infoVal
  go_enter Tryz.func69, Tryz.ntmps69
  go_wp2_with (first
      | (at_make; refine wpList_make_own _ rfl _ _ 24 rfl 0 27 i6 _ 6 Tryz.underlying24 hi6 hz60 hz61 _ _ _ l.length rfl rfl rfl (by rw [hz62]; omega) (by unfold maxLen; omega) (Nat.zero_le _) ?_))
  intro w1 hown1 hg1
  have hB1 : Below w.heap.size w w1 := (Below.refl _ _).grown hg1 (Nat.le_refl _) (fun k hk => by cases hk)
  have hsz1 : w.heap.size + 1 ≤ w1.heap.size := by have := (hown1.lt w.heap.size rfl).2; omega
  clear hg1
  generalize hM : w.heap.size = M at *
  have HM := Lib.hid hM; clear hM
  go_wp2_with fail
  go_loopw [3, 11] (fun out i wr => ∃ k vs, k ≤ l.length ∧ i = .int .i64 (k : Nat) ∧ out = .slice (some ⟨M, 0, none⟩) k l.length ∧
      wr.ownsRow 0 27 6 (.slice (some ⟨M, 0, none⟩) k l.length) k vs ∧ VCells wr (Btw (M + 1) wr.heap.size) ((cleanL l).take k) vs ∧ Below M w wr ∧ M + 1 ≤ wr.heap.size)
    (fun _ i _ => l.length - (intOf i).toNat)
  case atStart => exact ⟨0, [], Nat.zero_le _, rfl, rfl, hown1, by simp [VCells], hB1, hsz1⟩
  case round =>
    clear hown1 hB1 hsz1
    obtain ⟨k, vs, hk, rfl, rfl, hown, hall, hB, hsz⟩ := hrel
    by_cases hlt : k < l.length
    · obtain ⟨b, o, hb, rfl, hcells⟩ : ∃ b o, Btw 0 M b ∧ a = some ⟨b, o, none⟩ ∧ IsVs w (Btw 0 M) l b o := by
        rcases h7 with rfl | h7
        · simp at hlt
        · exact h7
      obtain ⟨x, hx⟩ : ∃ x, l[k]? = some x := ⟨l[k], by simp [hlt]⟩
      obtain ⟨a0, d0, a1, d1, g0, g1, g2, g3, g4, g5, hxv⟩ := (IsVs.keep (S' := Btw 0 wr.heap.size) (Btw.kept hB) (Btw.mono (Nat.le_refl _) (by omega)) l b o hb hcells).cells hx
      have hc := ih x (List.mem_of_getElem? hx)
      have HX := Lib.hid hx; clear hx h7 hcells
      have hxv' := hxv.alloc_ (.cells #[.int .i64 x.kind, .int .i64 x.n, .float .f64 x.f, .string x.s, .slice a0 x.keys.length d0, .slice a1 x.l.length d1] 27)
      go_wp2_with (go_at_call 47; (with_reducible refine (hc.use _ _ ?_).mono ?_))
      · simpa using hxv'
      rintro e w2 ⟨r, rfl, hB2, hr⟩
      have hsz2 := hB2.size
      have hB3 : Below wr.heap.size wr w2 := ((Below.refl _ _).alloc (Nat.le_refl _) _).trans (hB2.mono (by simp))
      have hown2 := own_below hown hB3
      have hall2 : VCells w2 (Btw (M + 1) w2.heap.size) ((cleanL l).take k) vs := hall.keep (Btw.kept hB3) (Btw.mono (Nat.le_refl _) hB3.size)
      have hr2 : IsV w2 (Btw (M + 1) w2.heap.size) (cleanV x) r := hr.lo_ (by simp; omega)
      have hBM : Below M w w2 := hB.trans (hB3.mono (by omega))
      simp at hsz2
      clear hB2 hr hown hall hB g0 g1 g2 g3 g4 g5 hxv hxv' hc
      obtain ⟨ra0, rd0, ra1, rd1, rfl⟩ := hr2.form
      go_wp2_with (first
        | (at_builtin; refine wpList_append_fits _ rfl _ _ 24 rfl 0 27 i6 6 Tryz.underlying24 hi6 hz61 M k l.length vs rfl (hown2.alloc _) ⟨w2.heap.size, 0, none⟩ 1 1 [.int .i64 (cleanV x).kind, .int .i64 (cleanV x).n, .float .f64 (cleanV x).f, .string (cleanV x).s, .slice ra0 (cleanV x).keys.length rd0, .slice ra1 (cleanV x).l.length rd1] rfl rfl ?c1 ?c2 (by omega) ?_))
      case c1 => exact World.news_of_block (cs := #[.int .i64 (cleanV x).kind, .int .i64 (cleanV x).n, .float .f64 (cleanV x).f, .string (cleanV x).s, .slice ra0 (cleanV x).keys.length rd0, .slice ra1 (cleanV x).l.length rd1]) (t := 27) (fr := (0, 0)) (heap_alloc_new w2 _)
      case c2 => intro u hu; simp at hu; rcases hu with rfl | rfl | rfl | rfl | rfl | rfl <;> rfl
      intro w3 hown3 hg3
      have hs3 : w2.heap.size + 1 ≤ w3.heap.size := by have := hg3.size; simp at this; exact this
      have hk3 : ∀ b, Btw (M + 1) w2.heap.size b → w3.heap[b]? = w2.heap[b]? := fun b hb => by
        have h1 := hb.1; have h2 := hb.2
        exact (hg3.block b (by simp; omega) (by simp; omega)).trans (Below.heap_alloc _ _ _ h2)
      have hall3 : VCells w3 (Btw (M + 1) w3.heap.size) ((cleanL l).take (k + 1)) (vs ++ [.int .i64 (cleanV x).kind, .int .i64 (cleanV x).n, .float .f64 (cleanV x).f, .string (cleanV x).s, .slice ra0 (cleanV x).keys.length rd0, .slice ra1 (cleanV x).l.length rd1]) := by
        rw [List.take_add_one, cleanL_at, HX.out]
        exact (hall2.keep hk3 (Btw.mono (Nat.le_refl _) (by omega))).app (VCells.one (IsV.keep hk3 (Btw.mono (Nat.le_refl _) (by omega)) _ hr2))
      have hB4 : Below M w w3 := (hBM.alloc (by omega) _).grown hg3 (by simp; omega) (fun q hq => by cases hq; omega)
      clear hg3 hk3 hall2 hBM hown2 hr2 hB3
      go_wp2_with fail
      go_roundw
      case rel => exact ⟨k + 1, _, hlt, by go_num, rfl, hown3, hall3, hB4, by omega⟩
      case measure => simp [intOf]; omega
    · have hkl : k = l.length := by omega
      subst hkl
      go_wp2_with fail
      go_ret
      rw [HM.out]
      rw [List.take_of_length_le (by rw [cleanL_length]; omega)] at hall
      refine ⟨_, _, rfl, Nat.le_refl _, hB, .inr ⟨M, 0, ⟨by omega, by omega⟩, rfl, ?_⟩⟩
      refine VCells.row (hall.keep (fun _ _ => rfl) (Btw.mono (by omega) (Nat.le_refl _))) (fun j u hu => ?_)
      have := hown.cells (g := M) rfl j u hu
      rwa [Addr.add_lit] at this
end Go.Proofs.YtbbacpdbbmjblaaGreat
end
section
namespace Go.Proofs.YtbbacpdbbmjblaaGreat
open Go.RowKit
set_option linter.unusedSimpArgs false
def gMap : GV := .mk 6 0 0 ByteArray.empty [] []
theorem gMap_plain : Plain gMap := ⟨[], [], rfl, by simp [Incr], rfl⟩
theorem cleanM_step : ∀ (ks : List ByteArray) (l : List GV) (acc : GV) (k : Nat) (key : ByteArray) (x : GV), ks[k]? = some key → l[k]? = some x →
    cleanM (ks.take (k + 1)) l acc = withF (cleanM (ks.take k) l acc) key (cleanV x)
  | [], _, _, _, _, _, h, _ => by simp at h
  | _ :: _, [], _, _, _, _, _, h => by simp at h
  | y :: ks, z :: l, acc, 0, key, x, h, h' => by
    simp at h h'; subst h h'
    simp [cleanM]
  | y :: ks, z :: l, acc, k + 1, key, x, h, h' => by
    simp only [List.take_succ_cons, cleanM]
    exact cleanM_step ks l _ k key x (by simpa using h) (by simpa using h')
theorem cleanM_all : ∀ (ks : List ByteArray) (l : List GV) (acc : GV) (k : Nat), ks.length ≤ k ∨ l.length ≤ k → cleanM (ks.take k) l acc = cleanM ks l acc
  | [], _, _, _, _ => by simp
  | _ :: _, [], _, k, _ => by cases k <;> simp [cleanM]
  | y :: ks, z :: l, acc, 0, h => by simp at h
  | y :: ks, z :: l, acc, k + 1, h => by
    simp only [List.take_succ_cons, cleanM]
    exact cleanM_all ks l _ k (by simpa using h)
theorem cleanM_plain : ∀ (ks : List ByteArray) (l : List GV) (acc : GV), Plain acc → Plain (cleanM ks l acc) ∧ (cleanM ks l acc).l.length ≤ acc.l.length + ks.length
  | [], _, acc, h => by simpa [cleanM] using h
  | _ :: _, [], acc, h => by simpa [cleanM] using h
  | y :: ks, z :: l, acc, h => by
    simp only [cleanM]
    have h1 := withF_plain h y (cleanV z)
    have h2 := withF_len h y (cleanV z)
    have h3 := cleanM_plain ks l _ h1
    exact ⟨h3.1, by simp only [List.length_cons]; omega⟩
set_option maxHeartbeats 1000000 in
set_option maxRecDepth 100000 in
theorem cleanMap_any (x : GV) (ih : ∀ y ∈ x.l, CleanC y) (w : World) (v : Value) (hv : IsV w (Btw 0 w.heap.size) x v) :
    Calls Tryz.prog 82 #[v] w fun e w' => ∃ r, e = .returned r ∧ Below w.heap.size w w' ∧ IsV w' (Btw w.heap.size w'.heap.size) (cleanM x.keys x.l gMap) r := by
  obtain ⟨kd, n, f, s, ks, l⟩ := x
  unfold IsV at hv
  obtain ⟨vk, a, c, rfl, _, _, _, _, ⟨ak, ck, rfl, _, hkl, hkz, hkc⟩, _, h6, h7⟩ := hv
  show Calls Tryz.prog 82 _ w fun e w' => ∃ r, e = .returned r ∧ Below w.heap.size w w' ∧ IsV w' (Btw w.heap.size w'.heap.size) (cleanM ks l gMap) r
  go_enter Tryz.func82, Tryz.ntmps82
  go_wp2_with fail
  have b0 := blk_alloc (blk_alloc (new_block (w := w) (b := w.heap.size) (o := (.cells #[.int .i64 kd, .int .i64 n, .float .f64 f, .string s, .slice ak ks.length ck, .slice a l.length c] 27) ) rfl) (.cells #[.int .i64 0, .int .i64 0, .float .f64 0, .string ⟨#[]⟩, .slice none 0 0, .slice none 0 0] 27)) (.cells #[.int .i64 6, .int .i64 0, .float .f64 0, .string ⟨#[]⟩, .slice none 0 0, .slice none 0 0] 27)
  have bR := blk_alloc (new_block (w := w.alloc (.cells #[.int .i64 kd, .int .i64 n, .float .f64 f, .string s, .slice ak ks.length ck, .slice a l.length c] 27) ) (b := w.heap.size + 1) (o := (.cells #[.int .i64 0, .int .i64 0, .float .f64 0, .string ⟨#[]⟩, .slice none 0 0, .slice none 0 0] 27)) (by simp)) (.cells #[.int .i64 6, .int .i64 0, .float .f64 0, .string ⟨#[]⟩, .slice none 0 0, .slice none 0 0] 27)
  have bO := new_block (w := (w.alloc (.cells #[.int .i64 kd, .int .i64 n, .float .f64 f, .string s, .slice ak ks.length ck, .slice a l.length c] 27) ).alloc (.cells #[.int .i64 0, .int .i64 0, .float .f64 0, .string ⟨#[]⟩, .slice none 0 0, .slice none 0 0] 27)) (b := w.heap.size + 2) (o := (.cells #[.int .i64 6, .int .i64 0, .float .f64 0, .string ⟨#[]⟩, .slice none 0 0, .slice none 0 0] 27)) (by simp)
  have hB0 := (((Below.refl w.heap.size w).alloc (Nat.le_refl _) (.cells #[.int .i64 kd, .int .i64 n, .float .f64 f, .string s, .slice ak ks.length ck, .slice a l.length c] 27) ).alloc (by simp) (.cells #[.int .i64 0, .int .i64 0, .float .f64 0, .string ⟨#[]⟩, .slice none 0 0, .slice none 0 0] 27)).alloc (by simp; omega) (.cells #[.int .i64 6, .int .i64 0, .float .f64 0, .string ⟨#[]⟩, .slice none 0 0, .slice none 0 0] 27)
  have hs0 : (((w.alloc (.cells #[.int .i64 kd, .int .i64 n, .float .f64 f, .string s, .slice ak ks.length ck, .slice a l.length c] 27) ).alloc (.cells #[.int .i64 0, .int .i64 0, .float .f64 0, .string ⟨#[]⟩, .slice none 0 0, .slice none 0 0] 27)).alloc (.cells #[.int .i64 6, .int .i64 0, .float .f64 0, .string ⟨#[]⟩, .slice none 0 0, .slice none 0 0] 27)).heap.size = w.heap.size + 3 := by simp
  generalize ((w.alloc (.cells #[.int .i64 kd, .int .i64 n, .float .f64 f, .string s, .slice ak ks.length ck, .slice a l.length c] 27) ).alloc (.cells #[.int .i64 0, .int .i64 0, .float .f64 0, .string ⟨#[]⟩, .slice none 0 0, .slice none 0 0] 27)).alloc (.cells #[.int .i64 6, .int .i64 0, .float .f64 0, .string ⟨#[]⟩, .slice none 0 0, .slice none 0 0] 27) = w0 at *
  generalize hM : w.heap.size = M at *
  have HM := Lib.hid hM; clear hM
  go_loopw [4] (fun i wr => ∃ k kv lv, k ≤ ks.length ∧ i = .int .i64 (k : Nat) ∧ wr.heap[M + 2]? = some (.cells #[.int .i64 6, .int .i64 0, .float .f64 0, .string ⟨#[]⟩, kv, lv] 27 (0, 0)) ∧
      IsV wr (Btw (M + 3) wr.heap.size) (cleanM (ks.take k) l gMap) (.agg #[.int .i64 6, .int .i64 0, .float .f64 0, .string ⟨#[]⟩, kv, lv]) ∧ k ≤ l.length ∧ Below (M + 2) w0 wr)
    (fun i _ => ks.length - (intOf i).toNat)
  case atStart =>
    refine ⟨0, .slice none 0 0, .slice none 0 0, Nat.zero_le _, rfl, bO, ?_, Nat.zero_le _, Below.refl _ _⟩
    simp only [List.take_zero, cleanM]
    exact IsV.mk_ (by decide) (by decide) (by decide) (by decide) ⟨none, 0, rfl, Nat.le_refl _, by decide, by simp, fun h => by simp at h⟩ (by decide) ⟨none, 0, rfl, Nat.le_refl _, .inl rfl⟩
  case round =>
    obtain ⟨k, kv, lv, hk, rfl, hout, hacc, hkl', hB⟩ := hrel
    have hw4 : wr.cell? ⟨M, 4, none⟩ = some (.slice ak ks.length ck) := blk_c (blk_under b0 hB (by omega)) 4 rfl
    have hw5 : wr.cell? ⟨M, 5, none⟩ = some (.slice a l.length c) := blk_c (blk_under b0 hB (by omega)) 5 rfl
    have hsz : M + 3 ≤ wr.heap.size := by have := blk_lt hout; omega
    have hBw : Below M w wr := hB0.trans (hB.mono (by omega))
    by_cases hlt : k < ks.length ∧ k < l.length
    · obtain ⟨hlt1, hlt2⟩ := hlt
      obtain ⟨b1, o1, hb1, rfl, hkeys⟩ := hkc (by omega)
      obtain ⟨key, hkey⟩ : ∃ key, ks[k]? = some key := ⟨ks[k], by simp [hlt1]⟩
      have hck : wr.cell? ⟨b1, o1 + k, none⟩ = some (.string key) := by
        rw [hBw.cell (by exact hb1.2), hkeys k hlt1]; simp [List.getD, hkey]
      have hksz : key.size ≤ maxLen := hkz key (List.mem_of_getElem? hkey)
      obtain ⟨b, o, hb, rfl, hcells⟩ : ∃ b o, Btw 0 M b ∧ a = some ⟨b, o, none⟩ ∧ IsVs w (Btw 0 M) l b o := by
        rcases h7 with rfl | h7
        · simp at hlt2
        · exact h7
      obtain ⟨x, hx⟩ : ∃ x, l[k]? = some x := ⟨l[k], by simp [hlt2]⟩
      obtain ⟨a0, d0, a1, d1, g0, g1, g2, g3, g4, g5, hxv⟩ := (IsVs.keep (S' := Btw 0 wr.heap.size) (Btw.kept hBw) (Btw.mono (Nat.le_refl _) (by omega)) l b o hb hcells).cells hx
      have hc := ih x (List.mem_of_getElem? hx)
      have HK := Lib.hid hkey
      have HX := Lib.hid hx
      clear hx h7 hcells hkeys hkc hkey
      obtain ⟨-, -, -, -, ka, kd0, la, ld0, rfl, rfl⟩ := hacc.slices
      have hpl := cleanM_plain (ks.take k) l gMap gMap_plain
      have hal : (cleanM (ks.take k) l gMap).l.length ≤ k := by
        have h0 : gMap.l.length = 0 := rfl
        have h1 := hpl.2
        have h3 := List.length_take_le k ks
        omega
      generalize hacv : cleanM (ks.take k) l gMap = acc at *
      have HAC := Lib.hid hacv
      clear hacv
      have hpl1 := hpl.1
      obtain ⟨hpi, hpe⟩ : Incr acc.keys ∧ acc.keys.length = acc.l.length := by obtain ⟨q1, q2, rfl, q3, q4⟩ := hpl1; exact ⟨q3, q4⟩
      have HPE := Lib.hid hpe
      have HPL := Lib.hid hpl1
      clear hpl hpe hpl1
      have o0 : wr.cell? ⟨M + 2, 0, none⟩ = some (.int .i64 6) := blk_c hout 0 rfl
      have o1' : wr.cell? ⟨M + 2, 1, none⟩ = some (.int .i64 0) := blk_c hout 1 rfl
      have o2 : wr.cell? ⟨M + 2, 2, none⟩ = some (.float .f64 0) := blk_c hout 2 rfl
      have o3 : wr.cell? ⟨M + 2, 3, none⟩ = some (.string ⟨#[]⟩) := blk_c hout 3 rfl
      have o4 : wr.cell? ⟨M + 2, 4, none⟩ = some (.slice ka acc.keys.length kd0) := blk_c hout 4 rfl
      have o5 : wr.cell? ⟨M + 2, 5, none⟩ = some (.slice la acc.l.length ld0) := blk_c hout 5 rfl
      have i0 : (0 : Int) ≤ (k : Int) := by omega
      have i1 : (k : Int) < (ks.length : Int) := by omega
      have i2 : (k : Int) < (l.length : Int) := by omega
      have hxvd := hxv.drew_
      clear hxv
      go_wp2_with fail
      refine wp_region_K (fun w' => w'.cell? ⟨M + 2, 0, none⟩ = some (.int .i64 6) ∧ w'.cell? ⟨M + 2, 1, none⟩ = some (.int .i64 0) ∧ w'.cell? ⟨M + 2, 2, none⟩ = some (.float .f64 0) ∧ w'.cell? ⟨M + 2, 3, none⟩ = some (.string ⟨#[]⟩) ∧ w'.cell? ⟨M + 2, 4, none⟩ = some (.slice ka acc.keys.length kd0) ∧ w'.cell? ⟨M + 2, 5, none⟩ = some (.slice la acc.l.length ld0) ∧ w'.cell? ⟨M, 4, none⟩ = some (.slice (some ⟨b1, o1, none⟩) ks.length ck) ∧ w'.cell? ⟨M, 5, none⟩ = some (.slice (some ⟨b, o, none⟩) l.length c) ∧ w'.cell? ⟨b1, o1 + k, none⟩ = some (.string key) ∧ w'.cell? ⟨b, o + k * 6, none⟩ = some (.int .i64 x.kind) ∧ w'.cell? ⟨b, o + k * 6 + 1, none⟩ = some (.int .i64 x.n) ∧ w'.cell? ⟨b, o + k * 6 + 2, none⟩ = some (.float .f64 x.f) ∧ w'.cell? ⟨b, o + k * 6 + 3, none⟩ = some (.string x.s) ∧ w'.cell? ⟨b, o + k * 6 + 4, none⟩ = some (.slice a0 x.keys.length d0) ∧ w'.cell? ⟨b, o + k * 6 + 5, none⟩ = some (.slice a1 x.l.length d1)) [0, 1, 2, 3, 4, 5, 6, 7, 8, 9, 10] (by kernel_rfl) ?_ (fun hHeld => ?_)
      · exact ⟨o0, o1', o2, o3, o4, o5, hw4, hw5, hck, g0, g1, g2, g3, g4, g5⟩
      refine wpK_take (i := 0) (v := ?_) rfl (by kernel_rfl) (by kernel_rfl) (by kernel_rfl) (by kernel_rfl) (.inl ⟨by rfl, ?_⟩) hHeld ?_
      rotate_left
      · (intro w hSw; (try dsimp only at hSw); go_split_ands; go_simp; (try with_reducible rfl))
      try simp only [Act.put, List.setIfInBounds_toArray, List.set_cons_zero, List.set_cons_succ]
      refine wpK_take (i := 1) (v := ?_) rfl (by kernel_rfl) (by kernel_rfl) (by kernel_rfl) (by kernel_rfl) (.inl ⟨by rfl, ?_⟩) hHeld ?_
      rotate_left
      · (intro w hSw; (try dsimp only at hSw); go_split_ands; go_simp; (try with_reducible rfl))
      try simp only [Act.put, List.setIfInBounds_toArray, List.set_cons_zero, List.set_cons_succ]
      refine wpK_take (i := 2) (v := ?_) rfl (by kernel_rfl) (by kernel_rfl) (by kernel_rfl) (by kernel_rfl) (.inl ⟨by rfl, ?_⟩) hHeld ?_
      rotate_left
      · (intro w hSw; (try dsimp only at hSw); go_split_ands; go_simp; (try with_reducible rfl))
      try simp only [Act.put, List.setIfInBounds_toArray, List.set_cons_zero, List.set_cons_succ]
      refine wpK_take (i := 3) (v := ?_) rfl (by kernel_rfl) (by kernel_rfl) (by kernel_rfl) (by kernel_rfl) (.inl ⟨by rfl, ?_⟩) hHeld ?_
      rotate_left
      · (intro w hSw; (try dsimp only at hSw); go_split_ands; go_simp; (try with_reducible rfl))
      try simp only [Act.put, List.setIfInBounds_toArray, List.set_cons_zero, List.set_cons_succ]
      refine wpK_take (i := 4) (v := ?_) rfl (by kernel_rfl) (by kernel_rfl) (by kernel_rfl) (by kernel_rfl) (.inl ⟨by rfl, ?_⟩) hHeld ?_
      rotate_left
      · (intro w hSw; (try dsimp only at hSw); go_split_ands; go_simp; (try with_reducible rfl))
      try simp only [Act.put, List.setIfInBounds_toArray, List.set_cons_zero, List.set_cons_succ]
      refine wpK_take (i := 5) (v := ?_) rfl (by kernel_rfl) (by kernel_rfl) (by kernel_rfl) (by kernel_rfl) (.inl ⟨by rfl, ?_⟩) hHeld ?_
      rotate_left
      · (intro w hSw; (try dsimp only at hSw); go_split_ands; go_simp; (try with_reducible rfl))
      try simp only [Act.put, List.setIfInBounds_toArray, List.set_cons_zero, List.set_cons_succ]
      refine wpK_take (i := 6) (v := ?_) rfl (by kernel_rfl) (by kernel_rfl) (by kernel_rfl) (by kernel_rfl) (.inl ⟨by rfl, ?_⟩) hHeld ?_
      rotate_left
      · (intro w hSw; (try dsimp only at hSw); go_split_ands; go_simp; (try with_reducible rfl))
      try simp only [Act.put, List.setIfInBounds_toArray, List.set_cons_zero, List.set_cons_succ]
      refine wpK_take (i := 7) (v := ?_) rfl (by kernel_rfl) (by kernel_rfl) (by kernel_rfl) (by kernel_rfl) (.inl ⟨by rfl, ?_⟩) hHeld ?_
      rotate_left
      · (intro w hSw; (try dsimp only at hSw); go_split_ands; go_simp; (try with_reducible rfl))
      try simp only [Act.put, List.setIfInBounds_toArray, List.set_cons_zero, List.set_cons_succ]
      refine wpK_take (i := 8) (v := ?_) rfl (by kernel_rfl) (by kernel_rfl) (by kernel_rfl) (by kernel_rfl) (.inl ⟨by rfl, ?_⟩) hHeld ?_
      rotate_left
      · (intro w hSw; (try dsimp only at hSw); go_split_ands; go_simp; (try with_reducible rfl))
      try simp only [Act.put, List.setIfInBounds_toArray, List.set_cons_zero, List.set_cons_succ]
      refine wpK_take (i := 9) (v := ?_) rfl (by kernel_rfl) (by kernel_rfl) (by kernel_rfl) (by kernel_rfl) (.inl ⟨by rfl, ?_⟩) hHeld ?_
      rotate_left
      · (intro w hSw; (try dsimp only at hSw); go_split_ands; go_simp; (try with_reducible rfl))
      try simp only [Act.put, List.setIfInBounds_toArray, List.set_cons_zero, List.set_cons_succ]
      refine wpK_take (i := 10) (v := ?_) rfl (by kernel_rfl) (by kernel_rfl) (by kernel_rfl) (by kernel_rfl) (.inl ⟨by rfl, ?_⟩) hHeld ?_
      rotate_left
      · (intro w hSw; (try dsimp only at hSw); go_split_ands; go_simp; (try with_reducible rfl))
      try simp only [Act.put, List.setIfInBounds_toArray, List.set_cons_zero, List.set_cons_succ]
      refine wpK_one (i := 11) (by kernel_rfl) rfl (fun K hK => ?_)
      go_simp
      (with_reducible refine (hc.use _ _ hxvd).mono ?_)
      rintro e w2 ⟨r, rfl, hB2, hr⟩
      refine hK.out _ _ ?_ (fun hHeld => ?_)
      · exact ⟨cell_below hB2 hHeld.1, cell_below hB2 hHeld.2.1, cell_below hB2 hHeld.2.2.1, cell_below hB2 hHeld.2.2.2.1, cell_below hB2 hHeld.2.2.2.2.1, cell_below hB2 hHeld.2.2.2.2.2.1, cell_below hB2 hHeld.2.2.2.2.2.2.1, cell_below hB2 hHeld.2.2.2.2.2.2.2.1, cell_below hB2 hHeld.2.2.2.2.2.2.2.2.1, cell_below hB2 hHeld.2.2.2.2.2.2.2.2.2.1, cell_below hB2 hHeld.2.2.2.2.2.2.2.2.2.2.1, cell_below hB2 hHeld.2.2.2.2.2.2.2.2.2.2.2.1, cell_below hB2 hHeld.2.2.2.2.2.2.2.2.2.2.2.2.1, cell_below hB2 hHeld.2.2.2.2.2.2.2.2.2.2.2.2.2.1, cell_below hB2 hHeld.2.2.2.2.2.2.2.2.2.2.2.2.2.2⟩
      clear hK K
      try simp only [Act.put, List.setIfInBounds_toArray, List.set_cons_zero, List.set_cons_succ]
      refine wpK_one (i := 12) (by kernel_rfl) rfl (fun K hK => ?_)
      have hacc2 := hacc.drew_.below_ hB2
      have hr2 := hr.lo_ (lo' := M + 3) (by show M + 3 ≤ wr.heap.size; omega)
      go_simp
      (with_reducible refine (with_any acc key (cleanV x) (M + 3) _ _ _ ?_ hacc2 hr2 hpi HPE.out hksz ?_).mono ?_)
      · have := hB2.size
        have e : wr.drew.heap.size = wr.heap.size := rfl
        omega
      · omega
      rintro e w3 ⟨r3, rfl, hB3, hr3⟩
      refine hK.out _ _ ?_ (fun hHeld => ?_)
      · exact ⟨cell_below hB3 hHeld.1, cell_below hB3 hHeld.2.1, cell_below hB3 hHeld.2.2.1, cell_below hB3 hHeld.2.2.2.1, cell_below hB3 hHeld.2.2.2.2.1, cell_below hB3 hHeld.2.2.2.2.2.1, cell_below hB3 hHeld.2.2.2.2.2.2.1, cell_below hB3 hHeld.2.2.2.2.2.2.2.1, cell_below hB3 hHeld.2.2.2.2.2.2.2.2.1, cell_below hB3 hHeld.2.2.2.2.2.2.2.2.2.1, cell_below hB3 hHeld.2.2.2.2.2.2.2.2.2.2.1, cell_below hB3 hHeld.2.2.2.2.2.2.2.2.2.2.2.1, cell_below hB3 hHeld.2.2.2.2.2.2.2.2.2.2.2.2.1, cell_below hB3 hHeld.2.2.2.2.2.2.2.2.2.2.2.2.2.1, cell_below hB3 hHeld.2.2.2.2.2.2.2.2.2.2.2.2.2.2⟩
      clear hK K
      try simp only [Act.put, List.setIfInBounds_toArray, List.set_cons_zero, List.set_cons_succ]
      refine wpK_last (i := 13) (by kernel_rfl) (by kernel_rfl) rfl (fun K hK => ?_)
      have hout3 := blk_below (blk_below (w := wr.drew) hout hB2) hB3
      have q0 := blk_c hout3 0 (u := .int .i64 6) rfl
      have q1 := blk_c hout3 1 (u := .int .i64 0) rfl
      have q2 := blk_c hout3 2 (u := .float .f64 0) rfl
      have q3 := blk_c hout3 3 (u := .string ⟨#[]⟩) rfl
      have q4 := blk_c hout3 4 (u := .slice ka acc.keys.length kd0) rfl
      have q5 := blk_c hout3 5 (u := .slice la acc.l.length ld0) rfl
      have f0 := blk_frozen hout3 0
      have f1 := blk_frozen hout3 1
      have f2 := blk_frozen hout3 2
      have f3 := blk_frozen hout3 3
      have f4 := blk_frozen hout3 4
      have f5 := blk_frozen hout3 5
      obtain ⟨na, nd, ma, md, rfl⟩ := hr3.form
      go_simp
      refine hK.out _ _ ?_
      clear hK K
      try simp only [Act.put, List.setIfInBounds_toArray, List.set_cons_zero, List.set_cons_succ]
      refine wpK_done (by kernel_rfl) ?_ _
      have hout3 := blk_below (blk_below (w := wr.drew) hout hB2) hB3
      have hF1 : (st6 w3 (M + 2) (.int .i64 6) (.int .i64 0) (.float .f64 0) (.string ByteArray.empty) (.slice na (withF acc key (cleanV x)).keys.length nd) (.slice ma (withF acc key (cleanV x)).l.length md)).heap[M + 2]? = some (.cells #[.int .i64 6, .int .i64 0, .float .f64 0, .string ⟨#[]⟩, .slice na (withF acc key (cleanV x)).keys.length nd, .slice ma (withF acc key (cleanV x)).l.length md] 27 (0, 0)) := st6_blk hout3
      have hF2 : IsV (st6 w3 (M + 2) (.int .i64 6) (.int .i64 0) (.float .f64 0) (.string ByteArray.empty) (.slice na (withF acc key (cleanV x)).keys.length nd) (.slice ma (withF acc key (cleanV x)).l.length md)) (Btw (M + 3) (st6 w3 (M + 2) (.int .i64 6) (.int .i64 0) (.float .f64 0) (.string ByteArray.empty) (.slice na (withF acc key (cleanV x)).keys.length nd) (.slice ma (withF acc key (cleanV x)).l.length md)).heap.size) (cleanM (ks.take (k + 1)) l gMap) (.agg #[.int .i64 6, .int .i64 0, .float .f64 0, .string ⟨#[]⟩, .slice na (withF acc key (cleanV x)).keys.length nd, .slice ma (withF acc key (cleanV x)).l.length md]) := by
        rw [cleanM_step ks l gMap k key x HK.out HX.out, HAC.out, st6_size]
        exact IsV.keep (fun b hb => st6_eq (by have := hb.1; omega)) (fun _ h => h) _ hr3
      have s2 := hB2.size
      have s3 := hB3.size
      have e0 : wr.drew.heap.size = wr.heap.size := rfl
      have hF3 : Below (M + 2) w0 (st6 w3 (M + 2) (.int .i64 6) (.int .i64 0) (.float .f64 0) (.string ByteArray.empty) (.slice na (withF acc key (cleanV x)).keys.length nd) (.slice ma (withF acc key (cleanV x)).l.length md)) := st6_below ((hB.drew.trans (hB2.mono (by omega))).trans (hB3.mono (by omega))) (Nat.le_refl _)
      change Exit.inBlock 1 _ Exit.normal _ (st6 w3 (M + 2) (.int .i64 6) (.int .i64 0) (.float .f64 0) (.string ByteArray.empty) (.slice na (withF acc key (cleanV x)).keys.length nd) (.slice ma (withF acc key (cleanV x)).l.length md))
      generalize st6 w3 (M + 2) (.int .i64 6) (.int .i64 0) (.float .f64 0) (.string ByteArray.empty) (.slice na (withF acc key (cleanV x)).keys.length nd) (.slice ma (withF acc key (cleanV x)).l.length md) = wF at *
      clear hout3 hB2 hB3 hr3 s2 s3 e0 hacc hB hr hout o0 o1' o2 o3 o4 o5 g0 g1 g2 g3 g4 g5 hck hw4 hw5
      go_wp2_with fail
      go_roundw
      case rel => exact ⟨k + 1, _, _, hlt1, by go_num, hF1, hF2, hlt2, hF3⟩
      case measure => simp [intOf]; omega
    · have hall : cleanM (ks.take k) l gMap = cleanM ks l gMap := cleanM_all _ _ _ _ (by omega)
      rw [hall] at hacc
      clear hall
      generalize hacv : cleanM ks l gMap = acc at *
      have HAC := Lib.hid hacv
      clear hacv h7 hkc hkz ih
      have hR := blk_under bR hB (by omega)
      obtain ⟨-, -, -, -, ka, kd0, la, ld0, rfl, rfl⟩ := hacc.slices
      have o0 : wr.cell? ⟨M + 2, 0, none⟩ = some (.int .i64 6) := blk_c hout 0 rfl
      have o1 : wr.cell? ⟨M + 2, 1, none⟩ = some (.int .i64 0) := blk_c hout 1 rfl
      have o2 : wr.cell? ⟨M + 2, 2, none⟩ = some (.float .f64 0) := blk_c hout 2 rfl
      have o3 : wr.cell? ⟨M + 2, 3, none⟩ = some (.string ⟨#[]⟩) := blk_c hout 3 rfl
      have o4 : wr.cell? ⟨M + 2, 4, none⟩ = some (.slice ka acc.keys.length kd0) := blk_c hout 4 rfl
      have o5 : wr.cell? ⟨M + 2, 5, none⟩ = some (.slice la acc.l.length ld0) := blk_c hout 5 rfl
      have q0 : wr.cell? ⟨M + 1, 0, none⟩ = some (.int .i64 0) := blk_c hR 0 rfl
      have q1 : wr.cell? ⟨M + 1, 1, none⟩ = some (.int .i64 0) := blk_c hR 1 rfl
      have q2 : wr.cell? ⟨M + 1, 2, none⟩ = some (.float .f64 0) := blk_c hR 2 rfl
      have q3 : wr.cell? ⟨M + 1, 3, none⟩ = some (.string ⟨#[]⟩) := blk_c hR 3 rfl
      have q4 : wr.cell? ⟨M + 1, 4, none⟩ = some (.slice none 0 0) := blk_c hR 4 rfl
      have q5 : wr.cell? ⟨M + 1, 5, none⟩ = some (.slice none 0 0) := blk_c hR 5 rfl
      have f0 := blk_frozen hR 0
      have f1 := blk_frozen hR 1
      have f2 := blk_frozen hR 2
      have f3 := blk_frozen hR 3
      have f4 := blk_frozen hR 4
      have f5 := blk_frozen hR 5
      have hor : (k < ks.length ∧ l.length ≤ k) ∨ ks.length ≤ k := by omega
      clear hlt hkl' hkl h6 hs0 bO bR b0 hB0 hB hout
      rcases hor with ⟨hk1, hk2⟩ | hk1
      all_goals
        go_wp2_with fail
        have hblk := st6_blk (c0 := .int .i64 6) (c1 := .int .i64 0) (c2 := .float .f64 0) (c3 := .string ⟨#[]⟩) (c4 := .slice ka acc.keys.length kd0) (c5 := .slice la acc.l.length ld0) hR
        have hfin : IsV (st6 wr (M + 1) (.int .i64 6) (.int .i64 0) (.float .f64 0) (.string ⟨#[]⟩) (.slice ka acc.keys.length kd0) (.slice la acc.l.length ld0)) (Btw M (st6 wr (M + 1) (.int .i64 6) (.int .i64 0) (.float .f64 0) (.string ⟨#[]⟩) (.slice ka acc.keys.length kd0) (.slice la acc.l.length ld0)).heap.size) acc (.agg #[.int .i64 6, .int .i64 0, .float .f64 0, .string ⟨#[]⟩, .slice ka acc.keys.length kd0, .slice la acc.l.length ld0]) := by
          rw [st6_size]
          exact IsV.keep (fun b hb => st6_eq (by have := hb.1; omega)) (Btw.mono (by omega) (Nat.le_refl _)) _ hacc
        have hBf0 : Below M w (st6 wr (M + 1) (.int .i64 6) (.int .i64 0) (.float .f64 0) (.string ⟨#[]⟩) (.slice ka acc.keys.length kd0) (.slice la acc.l.length ld0)) := st6_below hBw (by omega)
        have hBf := hBf0
        unfold st6 at hBf
        refine bodyPost_ret (v := .agg #[.int .i64 6, .int .i64 0, .float .f64 0, .string ⟨#[]⟩, .slice ka acc.keys.length kd0, .slice la acc.l.length ld0]) ?_ rfl ?_
        · have e0 := blk_c hblk 0 (u := .int .i64 6) rfl
          have e1 := blk_c hblk 1 (u := .int .i64 0) rfl
          have e2 := blk_c hblk 2 (u := .float .f64 0) rfl
          have e3 := blk_c hblk 3 (u := .string ⟨#[]⟩) rfl
          have e4 := blk_c hblk 4 (u := .slice ka acc.keys.length kd0) rfl
          have e5 := blk_c hblk 5 (u := .slice la acc.l.length ld0) rfl
          unfold st6 at e0 e1 e2 e3 e4 e5
          simp [results, Tryz.results82, go_sem, e0, e1, e2, e3, e4, e5]
        · rw [HM.out, HAC.out]
          exact ⟨_, rfl, hBf, by have h := hfin; unfold st6 at h; exact h⟩
/-- A plain value without lists. -/
theorem flat_isV {w : World} {S : Nat → Prop} {k n : Int} {f : Nat} {s : ByteArray} (h1 : (Lit.int .i64 k).wf = true) (h2 : (Lit.int .i64 n).wf = true) (h3 : (Lit.float .f64 f).wf = true) (h4 : s.size ≤ maxLen) :
    IsV w S (.mk k n f s [] []) (.agg #[.int .i64 k, .int .i64 n, .float .f64 f, .string s, .slice none 0 0, .slice none 0 0]) :=
  IsV.mk_ h1 h2 h3 h4 ⟨none, 0, rfl, Nat.le_refl _, by decide, by simp, fun h => by simp at h⟩ (by decide) ⟨none, 0, rfl, Nat.le_refl _, .inl rfl⟩
set_option maxHeartbeats 2000000 in
set_option maxRecDepth 100000 in
theorem clean_scalar (k n : Int) (f : Nat) (s : ByteArray) (ks : List ByteArray) (l : List GV) (hk : k ≠ 5) (hk' : k ≠ 6) : CleanC (.mk k n f s ks l) := by
  intro w v hv
  unfold IsV at hv
  obtain ⟨vk, a, c, rfl, _, hn, hf, hs, _, _, _, _⟩ := hv
  have e5 : (k == 5) = false := by simpa using hk
  have e6 : (k == 6) = false := by simpa using hk'
  have hB : ∀ (x0 x1 x2 x3 x4 x5 : Value), Below w.heap.size w ((w.alloc (.cells #[.int .i64 k, .int .i64 n, .float .f64 f, .string s, vk, .slice a l.length c] 27)).alloc (.cells #[x0, x1, x2, x3, x4, x5] 27)) :=
    fun _ _ _ _ _ _ => ((Below.refl _ _).alloc (Nat.le_refl _) _).alloc (by simp) _
  by_cases k1 : k = 1
  · subst k1
    by_cases hn0 : n = 0
    · subst hn0
      go_enter Tryz.func47, Tryz.ntmps47
      go_wp2_with fail
      exact bodyPost_ret (v := .agg #[.int .i64 1, .int .i64 0, .float .f64 0, .string ⟨#[]⟩, .slice none 0 0, .slice none 0 0]) (by simp [results, Tryz.results47, go_sem]) rfl ⟨_, rfl, hB _ _ _ _ _ _, by simp only [cleanV, if_true]; exact flat_isV (by decide) (by decide) (by decide) (by decide)⟩
    · have hn1 : (n != 0) = true := by simpa using hn0
      have HN := Lib.hid hn0
      clear hn0
      go_enter Tryz.func47, Tryz.ntmps47
      go_wp2_with fail
      exact bodyPost_ret (v := .agg #[.int .i64 1, .int .i64 1, .float .f64 0, .string ⟨#[]⟩, .slice none 0 0, .slice none 0 0]) (by simp [results, Tryz.results47, go_sem]) rfl ⟨_, rfl, hB _ _ _ _ _ _, by simp only [cleanV, if_true, if_neg HN.out]; exact flat_isV (by decide) (by decide) (by decide) (by decide)⟩
  have e1 : (k == 1) = false := by simpa using k1
  by_cases k2 : k = 2
  · subst k2
    go_enter Tryz.func47, Tryz.ntmps47
    go_wp2_with fail
    exact bodyPost_ret (v := .agg #[.int .i64 2, .int .i64 n, .float .f64 0, .string ⟨#[]⟩, .slice none 0 0, .slice none 0 0]) (by simp [results, Tryz.results47, go_sem]) rfl ⟨_, rfl, hB _ _ _ _ _ _, by simp only [cleanV]; exact flat_isV (by decide) hn (by decide) (by decide)⟩
  have e2 : (k == 2) = false := by simpa using k2
  by_cases k3 : k = 3
  · subst k3
    go_enter Tryz.func47, Tryz.ntmps47
    go_wp2_with fail
    exact bodyPost_ret (v := .agg #[.int .i64 3, .int .i64 0, .float .f64 f, .string ⟨#[]⟩, .slice none 0 0, .slice none 0 0]) (by simp [results, Tryz.results47, go_sem]) rfl ⟨_, rfl, hB _ _ _ _ _ _, by simp only [cleanV]; exact flat_isV (by decide) (by decide) hf (by decide)⟩
  have e3 : (k == 3) = false := by simpa using k3
  by_cases k4 : k = 4
  · subst k4
    go_enter Tryz.func47, Tryz.ntmps47
    go_wp2_with fail
    exact bodyPost_ret (v := .agg #[.int .i64 4, .int .i64 0, .float .f64 0, .string s, .slice none 0 0, .slice none 0 0]) (by simp [results, Tryz.results47, go_sem]) rfl ⟨_, rfl, hB _ _ _ _ _ _, by simp only [cleanV]; exact flat_isV (by decide) (by decide) (by decide) hs⟩
  have e4 : (k == 4) = false := by simpa using k4
  have hj : cleanV (.mk k n f s ks l) = gNull := by simp [cleanV, k1, k2, k3, k4, hk, hk']
  rw [hj]
  clear hj k1 k2 k3 k4 hk hk'
  go_enter Tryz.func47, Tryz.ntmps47
  go_wp2_with fail
  exact bodyPost_ret (v := .agg #[.int .i64 0, .int .i64 0, .float .f64 0, .string ⟨#[]⟩, .slice none 0 0, .slice none 0 0]) (by simp [results, Tryz.results47, go_sem]) rfl ⟨_, rfl, hB _ _ _ _ _ _, flat_isV (by decide) (by decide) (by decide) (by decide)⟩
end Go.Proofs.YtbbacpdbbmjblaaGreat
end
section
namespace Go.Proofs.YtbbacpdbbmjblaaGreat
open Go.RowKit
mutual
/-- The tree of a value. -/
def plainJ : GV → JV
  | .mk k n f s ks l => if k = 1 then .bool (n != 0) else if k = 2 then .int n else if k = 3 then .flt f else if k = 4 then .str s
    else if k = 5 then .list (plainJs l) else if k = 6 then .map (plainM ks l []) else .null
def plainJs : List GV → List JV
  | [] => []
  | x :: r => plainJ x :: plainJs r
def plainM : List ByteArray → List GV → List (ByteArray × JV) → List (ByteArray × JV)
  | k :: ks, x :: r, acc => plainM ks r (putA acc k (plainJ x))
  | _, _, acc => acc
end
theorem plainJs_length : ∀ l, (plainJs l).length = l.length
  | [] => by simp [plainJs]
  | x :: r => by simp [plainJs, plainJs_length r]
theorem plainJs_at : ∀ (l : List GV) (i : Nat), (plainJs l)[i]? = (l[i]?).map plainJ
  | [], i => by simp [plainJs]
  | x :: r, 0 => by simp [plainJs]
  | x :: r, i + 1 => by simp [plainJs, plainJs_at r i]
theorem Tryz.infoAny : (Tryz.prog.info? 20).map (fun i => (i.zero, i.size, i.bytes)) = some (some .nilIface, 1, 16) := by kernel_rfl
/-- What plain does at x. -/
def PlainC (x : GV) : Prop := ∀ (w : World) (v : Value), IsV w (Btw 0 w.heap.size) x v →
    Calls Tryz.prog 78 #[v] w fun e w' => ∃ r, e = .returned r ∧ Below w.heap.size w w' ∧ IsJ w' (Btw w.heap.size w'.heap.size) (plainJ x) r
theorem PlainC.use {x : GV} (h : PlainC x) (w : World) (v : Value) (hv : IsV w (Btw 0 w.heap.size) x v) :
    Calls Tryz.prog 78 #[v] w fun e w' => ∃ r, e = .returned r ∧ Below w.heap.size w w' ∧ IsJ w' (Btw w.heap.size w'.heap.size) (plainJ x) r := h w v hv
set_option maxRecDepth 100000 in
theorem plain_list (n : Int) (f : Nat) (s : ByteArray) (ks : List ByteArray) (l : List GV) (ih : ∀ x ∈ l, PlainC x) : PlainC (.mk 5 n f s ks l) := by
  intro w v hv
  unfold IsV at hv
  obtain ⟨vk, a, c, rfl, _, _, _, _, _, _, h6, h7⟩ := hv
  obtain ⟨i0, hi, hz0, hz1, hz2⟩ := info_parts Tryz.infoAny
  go_enter Tryz.func78, Tryz.ntmps78
  go_wp2_with (first
      | (at_make; refine wpList_make_own _ rfl _ _ 154 rfl 0 20 i0 .nilIface 1 Tryz.underlying154 hi hz0 hz1 _ _ _ l.length rfl rfl rfl (by rw [hz2]; omega) (by unfold maxLen; omega) (Nat.zero_le _) ?_))
  intro w1 hown1 hg1
  have hB1 : Below w.heap.size w w1 := ((Below.refl _ _).alloc (Nat.le_refl _) _).grown hg1 (by simp) (fun k hk => by cases hk)
  have hsz1 : w.heap.size + 2 ≤ w1.heap.size := by have := (hown1.lt (w.heap.size + 1) rfl).2; omega
  have hbox : w1.cell? ⟨w.heap.size, 5, none⟩ = some (.slice a l.length c) := hg1.cell (by go_simp) (by simp)
  clear hg1
  generalize hM : w.heap.size = M at *
  have HM := Lib.hid hM; clear hM
  go_wp2_with fail
  go_loopw [3, 38] (fun out i wr => ∃ k vs, k ≤ l.length ∧ i = .int .i64 (k : Nat) ∧ out = .slice (some ⟨M + 1, 0, none⟩) k l.length ∧
      wr.ownsRow 0 20 1 (.slice (some ⟨M + 1, 0, none⟩) k l.length) k vs ∧ AllJ wr (Btw (M + 2) wr.heap.size) ((plainJs l).take k) vs ∧ Below M w wr ∧ M + 2 ≤ wr.heap.size)
    (fun _ i _ => l.length - (intOf i).toNat)
  case atStart => exact ⟨0, [], Nat.zero_le _, rfl, rfl, hown1, by simp [AllJ], hB1, hsz1⟩
  case round =>
    clear hown1 hB1 hsz1 hbox
    obtain ⟨k, vs, hk, rfl, rfl, hown, hall, hB, hsz⟩ := hrel
    by_cases hlt : k < l.length
    · obtain ⟨b, o, hb, rfl, hcells⟩ : ∃ b o, Btw 0 M b ∧ a = some ⟨b, o, none⟩ ∧ IsVs w (Btw 0 M) l b o := by
        rcases h7 with rfl | h7
        · simp at hlt
        · exact h7
      obtain ⟨x, hx⟩ : ∃ x, l[k]? = some x := ⟨l[k], by simp [hlt]⟩
      obtain ⟨a0, d0, a1, d1, g0, g1, g2, g3, g4, g5, hxv⟩ := (IsVs.keep (Btw.kept hB) (Btw.mono (Nat.le_refl _) (Nat.le_refl _)) l b o hb hcells).cells hx
      have hc := ih x (List.mem_of_getElem? hx)
      have HX := Lib.hid hx; clear hx h7 hcells
      have hxv' := IsV.keep (S := Btw 0 M) (S' := Btw 0 (wr.heap.size + 1)) (w' := wr.alloc (.cells #[.int .i64 x.kind, .int .i64 x.n, .float .f64 x.f, .string x.s, .slice a0 x.keys.length d0, .slice a1 x.l.length d1] 27))
        (fun b hb => Below.heap_alloc _ _ _ (by have := hb.2; omega)) (Btw.mono (Nat.le_refl _) (by omega)) x hxv
      go_wp2_with (go_at_call 78; (with_reducible refine (hc.use _ _ (by simpa using hxv')).mono ?_))
      rintro e w2 ⟨r, rfl, hB2, hr⟩
      have hsz2 := hB2.size
      have hcl := hr.cells
      have hB3 : Below wr.heap.size wr w2 := ((Below.refl _ _).alloc (Nat.le_refl _) _).trans (hB2.mono (by simp))
      have hown2 := own_below hown hB3
      have hall2 : AllJ w2 (Btw (M + 2) w2.heap.size) ((plainJs l).take k) vs := hall.keep (Btw.kept hB3) (Btw.mono (Nat.le_refl _) hB3.size)
      have hr2 : IsJ w2 (Btw (M + 2) w2.heap.size) (plainJ x) r := IsJ.keep (fun _ _ => rfl) (Btw.mono (by simp; omega) (Nat.le_refl _)) _ hr
      have hBM : Below M w w2 := hB.trans (hB3.mono (by omega))
      simp at hsz2
      clear hB2 hr hown hall hB g0 g1 g2 g3 g4 g5 hxv hxv' hc
      go_wp2_with (first
        | (with_reducible refine wpList_buildSlice_one rfl _ _ 20 rfl Tryz.underlying154 i0 hi .nilIface hz0 hz1 r rfl hcl rfl ?_)
        | (at_builtin; refine wpList_append_fits _ rfl _ _ 154 rfl 0 20 i0 1 Tryz.underlying154 hi hz1 (M + 1) k l.length vs rfl (hown2.alloc _) ⟨w2.heap.size, 0, none⟩ 1 1 [r] rfl rfl ?c1 ?c2 (by omega) ?_))
      case c1 => exact cell_one_new _ _ _
      case c2 => intro u hu; simp at hu; subst hu; exact hr2.oneCell
      intro w3 hown3 hg3
      have hs3 : w2.heap.size + 1 ≤ w3.heap.size := by have := hg3.size; simp at this; exact this
      have hk3 : ∀ b, Btw (M + 2) w2.heap.size b → w3.heap[b]? = w2.heap[b]? := fun b hb => by
        have h1 := hb.1; have h2 := hb.2
        exact (hg3.block b (by simp; omega) (by simp; omega)).trans (Below.heap_alloc _ _ _ h2)
      have hall3 : AllJ w3 (Btw (M + 2) w3.heap.size) ((plainJs l).take (k + 1)) (vs ++ [r]) := by
        rw [List.take_add_one, plainJs_at, HX.out]
        exact AllJ.snoc (IsJ.keep hk3 (Btw.mono (Nat.le_refl _) (by omega)) _ hr2) (hall2.keep hk3 (Btw.mono (Nat.le_refl _) (by omega)))
      have hB4 : Below M w w3 := (hBM.alloc (by omega) _).grown hg3 (by simp; omega) (fun q hq => by cases hq; omega)
      clear hg3 hk3 hall2 hBM hown2 hr2 hB3 hcl
      go_wp2_with fail
      go_roundw
      case rel => exact ⟨k + 1, vs ++ [r], hlt, by go_num, rfl, hown3, hall3, hB4, by omega⟩
      case measure => simp [intOf]; omega
    · have hkl : k = l.length := by omega
      subst hkl
      go_wp2_with fail
      go_ret
      rw [HM.out]
      refine ⟨_, rfl, hB, ?_⟩
      rw [List.take_of_length_le (by rw [plainJs_length]; omega)] at hall
      have hj : plainJ (.mk 5 n f s ks l) = .list (plainJs l) := by simp [plainJ]
      rw [hj]
      unfold IsJ
      refine ⟨some ⟨M + 1, 0, none⟩, l.length, by rw [plainJs_length]; rfl, by rw [plainJs_length]; omega, .inr ⟨M + 1, 0, ⟨by omega, by omega⟩, rfl, ?_⟩⟩
      refine AllJ.row (hall.keep (fun _ _ => rfl) (Btw.mono (by omega) (Nat.le_refl _))) (fun j u hu => ?_)
      have := hown.cells (g := M + 1) rfl j u hu
      rwa [Addr.add_lit] at this
theorem plainM_step : ∀ (ks : List ByteArray) (l : List GV) (acc : List (ByteArray × JV)) (k : Nat) (key : ByteArray) (x : GV), ks[k]? = some key → l[k]? = some x →
    plainM (ks.take (k + 1)) l acc = putA (plainM (ks.take k) l acc) key (plainJ x)
  | [], _, _, _, _, _, h, _ => by simp at h
  | _ :: _, [], _, _, _, _, _, h => by simp at h
  | y :: ks, z :: l, acc, 0, key, x, h, h' => by
    simp at h h'; subst h h'
    simp [plainM]
  | y :: ks, z :: l, acc, k + 1, key, x, h, h' => by
    simp only [List.take_succ_cons, plainM]
    exact plainM_step ks l _ k key x (by simpa using h) (by simpa using h')
theorem plainM_over : ∀ (ks : List ByteArray) (l : List GV) (acc : List (ByteArray × JV)) (k : Nat), l.length ≤ k → plainM (ks.take (k + 1)) l acc = plainM (ks.take k) l acc
  | [], _, _, _, _ => by simp
  | _ :: _, [], _, k, _ => by cases k <;> simp [plainM]
  | y :: ks, z :: l, acc, 0, h => by simp at h
  | y :: ks, z :: l, acc, k + 1, h => by
    simp only [List.take_succ_cons, plainM]
    exact plainM_over ks l _ k (by simpa using h)
theorem plainM_length : ∀ (ks : List ByteArray) (l : List GV) (acc : List (ByteArray × JV)), (plainM ks l acc).length ≤ acc.length + ks.length
  | [], _, _ => by simp [plainM]
  | _ :: _, [], _ => by simp [plainM]
  | y :: ks, z :: l, acc => by
    simp only [plainM]
    have h1 := plainM_length ks l (putA acc y (plainJ z))
    have h2 := putA_length acc y (plainJ z)
    simp only [List.length_cons]; omega
/-- Block b is a map from strings whose fields are m. -/
def IsM (w : World) (S : Nat → Prop) (m : List (ByteArray × JV)) (b : Nat) : Prop :=
  ∃ es cl, w.heap[b]? = some (.map es cl) ∧ MapKept.Stamped es cl ∧ IsEs w S m es.toList
/-- What plainMap does at x. -/
def PlainMC (x : GV) : Prop := ∀ (w : World) (v : Value), IsV w (Btw 0 w.heap.size) x v →
    Calls Tryz.prog 109 #[v] w fun e w' => ∃ b, e = .returned (.map (some b)) ∧ Below w.heap.size w w' ∧ Btw w.heap.size w'.heap.size b ∧
      IsM w' (Btw w.heap.size w'.heap.size) (plainM x.keys x.l []) b
set_option maxRecDepth 100000 in
theorem plainMap_any (x : GV) (ih : ∀ y ∈ x.l, PlainC y) : PlainMC x := by
  intro w v hv
  obtain ⟨kd, n, f, s, ks, l⟩ := x
  unfold IsV at hv
  obtain ⟨vk, a, c, rfl, _, _, _, _, ⟨ak, ck, rfl, _, hkl, hkz, hkc⟩, _, h6, h7⟩ := hv
  have hmm := @run_makeMap Tryz.prog
  go_enter Tryz.func109, Tryz.ntmps109
  go_wp2_with fail
  go_loopw [10] (fun i wr => ∃ k, k ≤ ks.length ∧ i = .int .i64 (k : Nat) ∧ IsM wr (fun b => Btw (w.heap.size + 2) wr.heap.size b) (plainM (ks.take k) l []) (w.heap.size + 1) ∧
      wr.cell? ⟨w.heap.size, 5, none⟩ = some (.slice a l.length c) ∧ Below w.heap.size w wr ∧ w.heap.size + 2 ≤ wr.heap.size)
    (fun i _ => ks.length - (intOf i).toNat)
  case atStart =>
    refine ⟨0, Nat.zero_le _, rfl, ⟨#[], 0, ?_, MapKept.stamped_empty _, ?_⟩, by go_simp, ((Below.refl _ _).alloc (Nat.le_refl _) _).alloc (by simp) _, by simp⟩
    · exact new_block (by simp)
    · simp [plainM, IsEs]
  case round =>
    obtain ⟨k, hk, rfl, ⟨es, cl, hes, hst, hm⟩, hbox, hB, hsz⟩ := hrel
    by_cases hlt : k < ks.length
    · obtain ⟨b0, o0, hb0, rfl, hkeys⟩ := hkc (by omega)
      have hck : wr.cell? ⟨b0, o0 + k, none⟩ = some (.string (ks.getD k ByteArray.empty)) := (hB.cell (by exact hb0.2)).trans (hkeys k hlt)
      obtain ⟨key, hkey⟩ : ∃ key, ks[k]? = some key := ⟨ks[k], by simp [hlt]⟩
      have hkd : ks.getD k ByteArray.empty = key := by simp [List.getD, hkey]
      rw [hkd] at hck
      have hksz : key.size ≤ maxLen := hkz key (List.mem_of_getElem? hkey)
      have HK := Lib.hid hkey
      clear hkd hkeys hkey hkc
      by_cases hl : k < l.length
      · obtain ⟨b, o, hb, rfl, hcells⟩ : ∃ b o, Btw 0 w.heap.size b ∧ a = some ⟨b, o, none⟩ ∧ IsVs w (Btw 0 w.heap.size) l b o := by
          rcases h7 with rfl | h7
          · simp at hl
          · exact h7
        obtain ⟨x, hx⟩ : ∃ x, l[k]? = some x := ⟨l[k], by simp [hl]⟩
        obtain ⟨a0, d0, a1, d1, g0, g1, g2, g3, g4, g5, hxv⟩ := (IsVs.keep (S' := Btw 0 wr.heap.size) (Btw.kept hB) (Btw.mono (Nat.le_refl _) hB.size) l b o hb hcells).cells hx
        have hc := ih x (List.mem_of_getElem? hx)
        have HX := Lib.hid hx; clear hx h7 hcells
        go_wp2_with (go_at_call 78; (with_reducible refine (hc.use _ _ hxv).mono ?_))
        rintro e w2 ⟨r, rfl, hB2, hr⟩
        have hsz2 := hB2.size
        have hr2 : IsJ w2 (Btw (w.heap.size + 2) w2.heap.size) (plainJ x) r := IsJ.keep (fun _ _ => rfl) (Btw.mono (by omega) (Nat.le_refl _)) _ hr
        have hes2 : w2.heap[w.heap.size + 1]? = some (.map es cl) := (hB2.block _ (by omega)).trans hes
        have hm2 := hm.keep (Btw.kept hB2) (S' := Btw (w.heap.size + 2) w2.heap.size) (Btw.mono (Nat.le_refl _) hsz2)
        have hbox2 : w2.cell? ⟨w.heap.size, 5, none⟩ = some (.slice (some ⟨b, o, none⟩) l.length c) := (hB2.cell (by show w.heap.size < _; omega)).trans hbox
        have hB3 : Below w.heap.size w w2 := hB.trans (hB2.mono (by omega))
        clear hB2 hB hbox hes hm hxv g0 g1 g2 g3 g4 g5 hc hr hck
        go_wp2_with (at_mapUpdate; refine wpList_mapUpdate_str rfl _ _ _ 155 rfl 9 20 Tryz.underlying155 Tryz.underlying9 (w.heap.size + 1) cl es key r rfl rfl rfl hes2 hst hm2.keys ?_)
        intro es' cl' hes' hst'
        have hm3 : IsEs (ChangeMaps.setBlock w2 (w.heap.size + 1) (.map es' cl')) (Btw (w.heap.size + 2) w2.heap.size) (plainM (ks.take (k + 1)) l []) es'.toList := by
          rw [plainM_step ks l [] k key x HK.out HX.out, hes']
          exact (hm2.put hksz hr2).keep (fun b hb => setBlock_other _ (by have := hb.1; omega)) (fun _ h => h)
        have hb3 := setBlock_same (w := w2) (b := w.heap.size + 1) (.map es' cl') (by omega)
        have hB4 := setBlock_below (b := w.heap.size + 1) hB3 (by omega) (.map es' cl')
        have hbox3 : (ChangeMaps.setBlock w2 (w.heap.size + 1) (.map es' cl')).cell? ⟨w.heap.size, 5, none⟩ = some (.slice (some ⟨b, o, none⟩) l.length c) :=
          (World.cell?_of_block (setBlock_other _ (by show w.heap.size ≠ _; omega))).trans hbox2
        have hs3 := setBlock_size w2 (w.heap.size + 1) (.map es' cl')
        generalize ChangeMaps.setBlock w2 (w.heap.size + 1) (.map es' cl') = w3 at *
        have HS := Lib.hid hs3
        clear hs3 hbox2 hes2 hm2 hes' hr2 hB3
        go_wp2_with fail
        go_roundw
        case rel => exact ⟨k + 1, hlt, by go_num, ⟨es', cl', hb3, hst', by rw [HS.out]; exact hm3⟩, hbox3, hB4, by rw [HS.out]; omega⟩
        case measure => simp [intOf]; omega
      · go_wp2_with fail
        go_roundw
        case rel => exact ⟨k + 1, hlt, by go_num, ⟨es, cl, hes, hst, by rw [plainM_over _ _ _ _ (by omega)]; exact hm⟩, hbox, hB, hsz⟩
        case measure => simp [intOf]; omega
    · have hkl : k = ks.length := by omega
      subst hkl
      go_wp2_with fail
      go_ret
      rw [List.take_length] at hm
      exact ⟨_, rfl, hB, ⟨by omega, by omega⟩, es, cl, hes, hst, hm.keep (fun _ _ => rfl) (Btw.mono (by omega) (Nat.le_refl _))⟩
theorem PlainMC.use {x : GV} (h : PlainMC x) (w : World) (v : Value) (hv : IsV w (Btw 0 w.heap.size) x v) :
    Calls Tryz.prog 109 #[v] w fun e w' => ∃ b, e = .returned (.map (some b)) ∧ Below w.heap.size w w' ∧ Btw w.heap.size w'.heap.size b ∧
      IsM w' (Btw w.heap.size w'.heap.size) (plainM x.keys x.l []) b := h w v hv
set_option maxRecDepth 100000 in
theorem plain_scalar (k n : Int) (f : Nat) (s : ByteArray) (ks : List ByteArray) (l : List GV) (hk : k ≠ 5) (hk' : k ≠ 6) : PlainC (.mk k n f s ks l) := by
  intro w v hv
  unfold IsV at hv
  obtain ⟨vk, a, c, rfl, _, hn, hf, hs, _, _, _, _⟩ := hv
  have e5 : (k == 5) = false := by simpa using hk
  have e6 : (k == 6) = false := by simpa using hk'
  by_cases k1 : k = 1
  · subst k1
    go_enter Tryz.func78, Tryz.ntmps78
    go_wp2_with fail
    go_ret
    exact ⟨_, rfl, (Below.refl _ _).alloc (Nat.le_refl _) _, by simp [plainJ, IsJ]⟩
  have e1 : (k == 1) = false := by simpa using k1
  by_cases k2 : k = 2
  · subst k2
    go_enter Tryz.func78, Tryz.ntmps78
    go_wp2_with fail
    go_ret
    exact ⟨_, rfl, (Below.refl _ _).alloc (Nat.le_refl _) _, by simp [plainJ, IsJ, hn]⟩
  have e2 : (k == 2) = false := by simpa using k2
  by_cases k3 : k = 3
  · subst k3
    go_enter Tryz.func78, Tryz.ntmps78
    go_wp2_with fail
    go_ret
    exact ⟨_, rfl, (Below.refl _ _).alloc (Nat.le_refl _) _, by simp [plainJ, IsJ, hf]⟩
  have e3 : (k == 3) = false := by simpa using k3
  by_cases k4 : k = 4
  · subst k4
    go_enter Tryz.func78, Tryz.ntmps78
    go_wp2_with fail
    go_ret
    exact ⟨_, rfl, (Below.refl _ _).alloc (Nat.le_refl _) _, by simp [plainJ, IsJ, hs]⟩
  have e4 : (k == 4) = false := by simpa using k4
  have hj : plainJ (.mk k n f s ks l) = .null := by simp [plainJ, k1, k2, k3, k4, hk, hk']
  rw [hj]
  have HJ := Lib.hid hj
  clear hj k1 k2 k3 k4 hk hk'
  go_enter Tryz.func78, Tryz.ntmps78
  go_wp2_with fail
  go_ret
  exact ⟨_, rfl, (Below.refl _ _).alloc (Nat.le_refl _) _, by simp [IsJ]⟩
set_option maxRecDepth 100000 in
theorem plain_map (n : Int) (f : Nat) (s : ByteArray) (ks : List ByteArray) (l : List GV) (ih : PlainMC (.mk 6 n f s ks l)) : PlainC (.mk 6 n f s ks l) := by
  intro w v hv
  have hv0 := hv
  unfold IsV at hv
  obtain ⟨vk, a, c, rfl, _, _, _, _, ⟨ak, ck, rfl, _, hkl, _, _⟩, _, _, _⟩ := hv
  have hv1 := IsV.keep (S := Btw 0 w.heap.size) (S' := Btw 0 (w.heap.size + 1)) (w' := w.alloc (.cells #[.int .i64 6, .int .i64 n, .float .f64 f, .string s, .slice ak ks.length ck, .slice a l.length c] 27))
        (fun b hb => Below.heap_alloc _ _ _ hb.2) (Btw.mono (Nat.le_refl _) (by omega)) _ hv0
  clear hv0
  go_enter Tryz.func78, Tryz.ntmps78
  go_wp2_with (go_at_call 109; (with_reducible refine (ih.use _ _ (by simpa using hv1)).mono ?_))
  rintro e w2 ⟨b, rfl, hB2, hb, es, cl, hes, hst, hm⟩
  go_wp2_with fail
  go_ret
  refine ⟨_, rfl, ((Below.refl _ _).alloc (Nat.le_refl _) _).trans (hB2.mono (by simp)), ?_⟩
  have hj : plainJ (.mk 6 n f s ks l) = .map (plainM ks l []) := by simp [plainJ]
  rw [hj]
  unfold IsJ
  have hl := plainM_length ks l []
  refine ⟨b, es, cl, rfl, ⟨by have := hb.1; simp at this; omega, hb.2⟩, hes, hst, by simp only [List.length_nil] at hl; unfold maxLen; omega, hm.keep (fun _ _ => rfl) (Btw.mono (by simp) (Nat.le_refl _))⟩
/-- plain makes the value's tree. -/
theorem plain_any : ∀ (x : GV), PlainC x
  | .mk k n f s ks l => by
    have ih : ∀ y ∈ l, PlainC y := fun y hy => plain_any y
    by_cases h5 : k = 5
    · subst h5; exact plain_list n f s ks l ih
    by_cases h6 : k = 6
    · subst h6; exact plain_map n f s ks l (plainMap_any _ ih)
    exact plain_scalar k n f s ks l h5 h6
termination_by x => SizeOf.sizeOf x
decreasing_by
  have := List.sizeOf_lt_of_mem hy
  simp; omega
end Go.Proofs.YtbbacpdbbmjblaaGreat
end
