/- impl.toElem: an element of a path, made into the package's. -/
import Derived.Test.YtlghpcokbppkfaaToKeys
namespace Go.Proofs.Ytlghpcokbppkfaa
open Go.RowKit
set_option linter.unusedSimpArgs false

/-- An element of a path as the package has it. -/
inductive PEV where
  | name (s : ByteArray)
  | key (fl : List (ByteArray × JV))
  | val (j : JV)
  | idx (n : Int)

/-- The list of fields lies in memory. -/
def IsFL (w : World) (S : Nat → Prop) (fl : List (ByteArray × JV)) (v : Value) : Prop :=
  ∃ A C, v = .slice A fl.length C ∧ fl.length ≤ C ∧ (fl = [] ∨ ∃ g o xs, S g ∧ A = some ⟨g, o, none⟩ ∧ FCells w S fl xs ∧ ∀ j u, xs[j]? = some u → w.cell? ⟨g, o + j, none⟩ = some u)

/-- The struct value v holds the package's path element p. -/
def IsPE (w : World) (S : Nat → Prop) (p : PEV) (v : Value) : Prop :=
  match p with
  | .name s => ∃ b, v = .agg #[.pointer (some ⟨b, 0, none⟩), .pointer none, .pointer none, .pointer none] ∧ S b ∧ w.heap[b]? = some (.cells #[.string s] 9 (0, 0)) ∧ s.size ≤ maxLen
  | .key fl => ∃ b u, v = .agg #[.pointer none, .pointer (some ⟨b, 0, none⟩), .pointer none, .pointer none] ∧ S b ∧ w.heap[b]? = some (.cells #[u] 177 (0, 0)) ∧ IsFL w S fl u
  | .val j => ∃ b u, v = .agg #[.pointer none, .pointer none, .pointer (some ⟨b, 0, none⟩), .pointer none] ∧ S b ∧ w.heap[b]? = some (.cells #[u] 92 (0, 0)) ∧ IsVal w S j u
  | .idx n => ∃ b, v = .agg #[.pointer none, .pointer none, .pointer none, .pointer (some ⟨b, 0, none⟩)] ∧ S b ∧ w.heap[b]? = some (.cells #[.int .i64 n] 3 (0, 0)) ∧ (Lit.int .i64 n).wf = true

section
variable {w w' : World} {S S' : Nat → Prop}
theorem IsFL.keep (h : ∀ b, S b → w'.heap[b]? = w.heap[b]?) (hs : ∀ b, S b → S' b) {fl : List (ByteArray × JV)} {v : Value} (hv : IsFL w S fl v) : IsFL w' S' fl v := by
  obtain ⟨A, C, e, hC, hr⟩ := hv
  refine ⟨A, C, e, hC, ?_⟩
  rcases hr with hr | ⟨g, o, xs, hg, ha, hx, hc⟩
  · exact .inl hr
  · exact .inr ⟨g, o, xs, hs g hg, ha, hx.keep h hs, fun j u hu => (World.cell?_of_block (a := ⟨g, o + j, none⟩) (h g hg)).trans (hc j u hu)⟩
theorem IsPE.keep (h : ∀ b, S b → w'.heap[b]? = w.heap[b]?) (hs : ∀ b, S b → S' b) {p : PEV} {v : Value} (hv : IsPE w S p v) : IsPE w' S' p v := by
  cases p with
  | name s => obtain ⟨b, e, hb, hh, hz⟩ := hv; exact ⟨b, e, hs b hb, (h b hb).trans hh, hz⟩
  | key fl => obtain ⟨b, u, e, hb, hh, hx⟩ := hv; exact ⟨b, u, e, hs b hb, (h b hb).trans hh, hx.keep h hs⟩
  | val j => obtain ⟨b, u, e, hb, hh, hx⟩ := hv; exact ⟨b, u, e, hs b hb, (h b hb).trans hh, hx.keep h hs⟩
  | idx n => obtain ⟨b, e, hb, hh, hz⟩ := hv; exact ⟨b, e, hs b hb, (h b hb).trans hh, hz⟩
theorem fl_of_own {base : Nat} {A : Option Addr} {C : Nat} {fl : List (ByteArray × JV)} {xs : List Value} (h : w.ownsRow base 179 2 (.slice A fl.length C) fl.length xs) (hx : FCells w (fun b => Btw base w.heap.size b ∧ (Value.slice A fl.length C).ownBlock ≠ some b) fl xs) :
    IsFL w (Btw base w.heap.size) fl (.slice A fl.length C) := by
  rcases h.2 with ⟨e, h0⟩ | ⟨g, cap, cur, e, hb, hg, hn, hm, hs, ht⟩
  · injection e with e1 _ e3
    subst e1 e3
    exact ⟨none, 0, rfl, by omega, .inl (List.length_eq_zero_iff.1 h0)⟩
  · injection e with e1 _ e3
    subst e1 e3
    have hlt := h.lt g rfl
    refine ⟨_, C, rfl, hn, .inr ⟨g, 0, xs, ⟨hb, hlt.2⟩, rfl, hx.keep (fun _ _ => rfl) (fun b hb => hb.1), fun j u hu => ?_⟩⟩
    have := h.cells (g := g) rfl j u hu
    rwa [Addr.add_lit] at this
end

/-- Four cells stored one after the other. -/
def st4 (w : World) (b : Nat) (c0 c1 c2 c3 : Value) : World :=
  (((w.setCell ⟨b, 0, none⟩ c0).setCell ⟨b, 1, none⟩ c1).setCell ⟨b, 2, none⟩ c2).setCell ⟨b, 3, none⟩ c3
section
variable {w : World} {b : Nat} {c0 c1 c2 c3 : Value}
theorem st4_below {B : Nat} {w0 : World} (h : Below B w0 w) (hb : B ≤ b) : Below B w0 (st4 w b c0 c1 c2 c3) := (((h.setCell hb _).setCell hb _).setCell hb _).setCell hb _
theorem st4_size : (st4 w b c0 c1 c2 c3).heap.size = w.heap.size := by simp [st4]
theorem st4_blk {d0 d1 d2 d3 : Value} {t : TypeId} (h : w.heap[b]? = some (.cells #[d0, d1, d2, d3] t (0, 0))) : (st4 w b c0 c1 c2 c3).heap[b]? = some (.cells #[c0, c1, c2, c3] t (0, 0)) :=
  blk_set (blk_set (blk_set (blk_set h 0 c0) 1 c1) 2 c2) 3 c3
theorem st4_eq {k : Nat} (hk : k ≠ b) : (st4 w b c0 c1 c2 c3).heap[k]? = w.heap[k]? := by
  unfold st4
  rw [Below.heap_setCell _ _ _ _ hk, Below.heap_setCell _ _ _ _ hk, Below.heap_setCell _ _ _ _ hk, Below.heap_setCell _ _ _ _ hk]
end

/-- The package's element of an element. -/
def toPE (x : EV) : PEV := if x.kind = 1 then .key (flE x) else if x.kind = 2 then .val (plainJ x.v) else if x.kind = 3 then .idx x.n else .name x.s

set_option maxHeartbeats 1000000 in
set_option maxRecDepth 100000 in
theorem toElem_key (x : EV) (hkind : x.kind = 1) (w : World) (v : Value) (hv : IsE w (Btw 0 w.heap.size) x v) :
    Calls Try.prog 72 #[v] w fun e w' => ∃ r, e = .returned r ∧ Below w.heap.size w w' ∧ IsPE w' (Btw w.heap.size w'.heap.size) (toPE x) r := by
  have ht : toPE x = .key (flE x) := by simp [toPE, hkind]
  rw [ht]
  obtain ⟨ak, ck, a, c, a0, d0, a1, d1, rfl⟩ := hv.form
  have hx := (hv.alloc_ (.cells #[.int .i64 x.kind, .string x.s, .slice ak x.keys.length ck, .slice a x.l.length c, .int .i64 x.v.kind, .int .i64 x.v.n, .float .f64 x.v.f, .string x.v.s, .slice a0 x.v.keys.length d0, .slice a1 x.v.l.length d1, .int .i64 x.n] 33)).alloc_ (.cells #[.pointer none, .pointer none, .pointer none, .pointer none] 104)
  clear hv
  rw [hkind] at hx ⊢
  go_enter Try.func72, Try.ntmps72
  go_wp2_with (go_at_call 114; (with_reducible refine (toKeys_any x _ _ ?_).mono ?_))
  · simpa using hx
  rintro e w2 ⟨A, C, xs, rfl, hB2, hown, hall⟩
  have hs2 : w.heap.size + 2 ≤ w2.heap.size := by have := hB2.size; simpa using this
  have hR := blk_below (new_block (w := w.alloc (.cells #[.int .i64 1, .string x.s, .slice ak x.keys.length ck, .slice a x.l.length c, .int .i64 x.v.kind, .int .i64 x.v.n, .float .f64 x.v.f, .string x.v.s, .slice a0 x.v.keys.length d0, .slice a1 x.v.l.length d1, .int .i64 x.n] 33)) (b := w.heap.size + 1) (o := (.cells #[.pointer none, .pointer none, .pointer none, .pointer none] 104)) (by simp)) hB2
  have hB : Below w.heap.size w w2 := (((Below.refl _ _).alloc (Nat.le_refl _) (.cells #[.int .i64 1, .string x.s, .slice ak x.keys.length ck, .slice a x.l.length c, .int .i64 x.v.kind, .int .i64 x.v.n, .float .f64 x.v.f, .string x.v.s, .slice a0 x.v.keys.length d0, .slice a1 x.v.l.length d1, .int .i64 x.n] 33)).alloc (by simp) (.cells #[.pointer none, .pointer none, .pointer none, .pointer none] 104)).trans (hB2.mono (by simp; omega))
  have HFL := Lib.hid ((fl_of_own hown hall).keep (w' := w2) (S' := Btw (w.heap.size + 3) w2.heap.size) (fun _ _ => rfl) (Btw.mono (by simp) (Nat.le_refl _)))
  clear hown hall hB2 hx
  have hR3 := blk_alloc hR (.cells #[.slice A (flE x).length C] 177)
  have hN3 : (w2.alloc (.cells #[.slice A (flE x).length C] 177)).heap[w2.heap.size]? = some (.cells #[.slice A (flE x).length C] 177) := new_block rfl
  have hne : w2.heap.size ≠ w.heap.size + 1 := by omega
  have f0 := blk_frozen hR3 0
  have f1 := blk_frozen hR3 1
  have f2 := blk_frozen hR3 2
  have f3 := blk_frozen hR3 3
  have q0 : (w2.alloc (.cells #[.slice A (flE x).length C] 177)).cell? ⟨w.heap.size + 1, 0, none⟩ = some (.pointer none) := blk_c hR3 0 rfl
  have q1 : (w2.alloc (.cells #[.slice A (flE x).length C] 177)).cell? ⟨w.heap.size + 1, 1, none⟩ = some (.pointer none) := blk_c hR3 1 rfl
  have q2 : (w2.alloc (.cells #[.slice A (flE x).length C] 177)).cell? ⟨w.heap.size + 1, 2, none⟩ = some (.pointer none) := blk_c hR3 2 rfl
  have q3 : (w2.alloc (.cells #[.slice A (flE x).length C] 177)).cell? ⟨w.heap.size + 1, 3, none⟩ = some (.pointer none) := blk_c hR3 3 rfl
  have HR := Lib.hid (And.intro hR (And.intro hR3 (And.intro hN3 hne)))
  clear hR hR3 hN3 hne
  go_wp2_with fail
  obtain ⟨hR, hR3, hN3, hne⟩ := HR.out
  have hblk := st4_blk (c0 := .pointer none) (c1 := .pointer (some ⟨w2.heap.size, 0, none⟩)) (c2 := .pointer none) (c3 := .pointer none) hR3
  have hfin : IsPE (st4 (w2.alloc (.cells #[.slice A (flE x).length C] 177)) (w.heap.size + 1) (.pointer none) (.pointer (some ⟨w2.heap.size, 0, none⟩)) (.pointer none) (.pointer none)) (Btw w.heap.size (st4 (w2.alloc (.cells #[.slice A (flE x).length C] 177)) (w.heap.size + 1) (.pointer none) (.pointer (some ⟨w2.heap.size, 0, none⟩)) (.pointer none) (.pointer none)).heap.size) (.key (flE x)) (.agg #[.pointer none, .pointer (some ⟨w2.heap.size, 0, none⟩), .pointer none, .pointer none]) := by
    have hsz : (st4 (w2.alloc (.cells #[.slice A (flE x).length C] 177)) (w.heap.size + 1) (.pointer none) (.pointer (some ⟨w2.heap.size, 0, none⟩)) (.pointer none) (.pointer none)).heap.size = w2.heap.size + 1 := by rw [st4_size]; simp
    refine ⟨w2.heap.size, _, rfl, ⟨by omega, by rw [hsz]; omega⟩, (st4_eq hne).trans hN3, HFL.out.keep (fun b hb => (st4_eq (by have := hb.1; omega)).trans (Below.heap_alloc _ _ _ hb.2)) (fun b hb => ⟨by have := hb.1; omega, by have := hb.2; rw [hsz]; omega⟩)⟩
  have hBf : Below w.heap.size w (st4 (w2.alloc (.cells #[.slice A (flE x).length C] 177)) (w.heap.size + 1) (.pointer none) (.pointer (some ⟨w2.heap.size, 0, none⟩)) (.pointer none) (.pointer none)) := st4_below (hB.alloc (by omega) _) (by omega)
  refine bodyPost_ret (v := .agg #[.pointer none, .pointer (some ⟨w2.heap.size, 0, none⟩), .pointer none, .pointer none]) ?_ rfl ?_
  · have e0 := blk_c hblk 0 (u := .pointer none) rfl
    have e1 := blk_c hblk 1 (u := .pointer (some ⟨w2.heap.size, 0, none⟩)) rfl
    have e2 := blk_c hblk 2 (u := .pointer none) rfl
    have e3 := blk_c hblk 3 (u := .pointer none) rfl
    unfold st4 at e0 e1 e2 e3
    simp [results, Try.results72, go_sem, e0, e1, e2, e3]
  · unfold st4 at hfin hBf
    exact ⟨_, rfl, hBf, hfin⟩
set_option maxHeartbeats 1000000 in
set_option maxRecDepth 100000 in
theorem toElem_val (x : EV) (hkind : x.kind = 2) (w : World) (v : Value) (hv : IsE w (Btw 0 w.heap.size) x v) :
    Calls Try.prog 72 #[v] w fun e w' => ∃ r, e = .returned r ∧ Below w.heap.size w w' ∧ IsPE w' (Btw w.heap.size w'.heap.size) (toPE x) r := by
  have ht : toPE x = .val (plainJ x.v) := by simp [toPE, hkind]
  rw [ht]
  obtain ⟨ak, ck, a, c, a0, d0, a1, d1, rfl⟩ := hv.form
  have hx := (hv.val.alloc_ (.cells #[.int .i64 x.kind, .string x.s, .slice ak x.keys.length ck, .slice a x.l.length c, .int .i64 x.v.kind, .int .i64 x.v.n, .float .f64 x.v.f, .string x.v.s, .slice a0 x.v.keys.length d0, .slice a1 x.v.l.length d1, .int .i64 x.n] 33)).alloc_ (.cells #[.pointer none, .pointer none, .pointer none, .pointer none] 104)
  clear hv
  rw [hkind] at hx ⊢
  go_enter Try.func72, Try.ntmps72
  go_wp2_with (go_at_call 65; (with_reducible refine (toValue_any x.v _ _ ?_).mono ?_))
  · simpa using hx
  rintro e w2 ⟨r, rfl, hB2, hr⟩
  have hs2 : w.heap.size + 2 ≤ w2.heap.size := by have := hB2.size; simpa using this
  have hR := blk_below (new_block (w := w.alloc (.cells #[.int .i64 2, .string x.s, .slice ak x.keys.length ck, .slice a x.l.length c, .int .i64 x.v.kind, .int .i64 x.v.n, .float .f64 x.v.f, .string x.v.s, .slice a0 x.v.keys.length d0, .slice a1 x.v.l.length d1, .int .i64 x.n] 33)) (b := w.heap.size + 1) (o := (.cells #[.pointer none, .pointer none, .pointer none, .pointer none] 104)) (by simp)) hB2
  have hB : Below w.heap.size w w2 := (((Below.refl _ _).alloc (Nat.le_refl _) (.cells #[.int .i64 2, .string x.s, .slice ak x.keys.length ck, .slice a x.l.length c, .int .i64 x.v.kind, .int .i64 x.v.n, .float .f64 x.v.f, .string x.v.s, .slice a0 x.v.keys.length d0, .slice a1 x.v.l.length d1, .int .i64 x.n] 33)).alloc (by simp) (.cells #[.pointer none, .pointer none, .pointer none, .pointer none] 104)).trans (hB2.mono (by simp; omega))
  obtain ⟨vb, vr, rfl, hvb, hvh, hvj⟩ := hr
  have HFL := Lib.hid (IsVal.keep (w := w2) (w' := w2) (S := Btw (w.heap.size + 2) w2.heap.size) (S' := Btw (w.heap.size + 2) w2.heap.size) (fun _ _ => rfl) (fun _ h => h) ⟨vb, vr, rfl, by simpa using hvb, hvh, by simpa using hvj⟩)
  clear hvb hvh hvj hB2 hx
  have hR3 := blk_alloc hR (.cells #[.iface 205 (.pointer (some ⟨vb, 0, none⟩))] 92)
  have hN3 : (w2.alloc (.cells #[.iface 205 (.pointer (some ⟨vb, 0, none⟩))] 92)).heap[w2.heap.size]? = some (.cells #[.iface 205 (.pointer (some ⟨vb, 0, none⟩))] 92) := new_block rfl
  have hne : w2.heap.size ≠ w.heap.size + 1 := by omega
  have f0 := blk_frozen hR3 0
  have f1 := blk_frozen hR3 1
  have f2 := blk_frozen hR3 2
  have f3 := blk_frozen hR3 3
  have q0 : (w2.alloc (.cells #[.iface 205 (.pointer (some ⟨vb, 0, none⟩))] 92)).cell? ⟨w.heap.size + 1, 0, none⟩ = some (.pointer none) := blk_c hR3 0 rfl
  have q1 : (w2.alloc (.cells #[.iface 205 (.pointer (some ⟨vb, 0, none⟩))] 92)).cell? ⟨w.heap.size + 1, 1, none⟩ = some (.pointer none) := blk_c hR3 1 rfl
  have q2 : (w2.alloc (.cells #[.iface 205 (.pointer (some ⟨vb, 0, none⟩))] 92)).cell? ⟨w.heap.size + 1, 2, none⟩ = some (.pointer none) := blk_c hR3 2 rfl
  have q3 : (w2.alloc (.cells #[.iface 205 (.pointer (some ⟨vb, 0, none⟩))] 92)).cell? ⟨w.heap.size + 1, 3, none⟩ = some (.pointer none) := blk_c hR3 3 rfl
  have HR := Lib.hid (And.intro hR (And.intro hR3 (And.intro hN3 hne)))
  clear hR hR3 hN3 hne
  go_wp2_with fail
  obtain ⟨hR, hR3, hN3, hne⟩ := HR.out
  have hblk := st4_blk (c0 := .pointer none) (c1 := .pointer none) (c2 := .pointer (some ⟨w2.heap.size, 0, none⟩)) (c3 := .pointer none) hR3
  have hfin : IsPE (st4 (w2.alloc (.cells #[.iface 205 (.pointer (some ⟨vb, 0, none⟩))] 92)) (w.heap.size + 1) (.pointer none) (.pointer none) (.pointer (some ⟨w2.heap.size, 0, none⟩)) (.pointer none)) (Btw w.heap.size (st4 (w2.alloc (.cells #[.iface 205 (.pointer (some ⟨vb, 0, none⟩))] 92)) (w.heap.size + 1) (.pointer none) (.pointer none) (.pointer (some ⟨w2.heap.size, 0, none⟩)) (.pointer none)).heap.size) (.val (plainJ x.v)) (.agg #[.pointer none, .pointer none, .pointer (some ⟨w2.heap.size, 0, none⟩), .pointer none]) := by
    have hsz : (st4 (w2.alloc (.cells #[.iface 205 (.pointer (some ⟨vb, 0, none⟩))] 92)) (w.heap.size + 1) (.pointer none) (.pointer none) (.pointer (some ⟨w2.heap.size, 0, none⟩)) (.pointer none)).heap.size = w2.heap.size + 1 := by rw [st4_size]; simp
    refine ⟨w2.heap.size, _, rfl, ⟨by omega, by rw [hsz]; omega⟩, (st4_eq hne).trans hN3, HFL.out.keep (fun b hb => (st4_eq (by have := hb.1; omega)).trans (Below.heap_alloc _ _ _ hb.2)) (fun b hb => ⟨by have := hb.1; omega, by have := hb.2; rw [hsz]; omega⟩)⟩
  have hBf : Below w.heap.size w (st4 (w2.alloc (.cells #[.iface 205 (.pointer (some ⟨vb, 0, none⟩))] 92)) (w.heap.size + 1) (.pointer none) (.pointer none) (.pointer (some ⟨w2.heap.size, 0, none⟩)) (.pointer none)) := st4_below (hB.alloc (by omega) _) (by omega)
  refine bodyPost_ret (v := .agg #[.pointer none, .pointer none, .pointer (some ⟨w2.heap.size, 0, none⟩), .pointer none]) ?_ rfl ?_
  · have e0 := blk_c hblk 0 (u := .pointer none) rfl
    have e1 := blk_c hblk 1 (u := .pointer none) rfl
    have e2 := blk_c hblk 2 (u := .pointer (some ⟨w2.heap.size, 0, none⟩)) rfl
    have e3 := blk_c hblk 3 (u := .pointer none) rfl
    unfold st4 at e0 e1 e2 e3
    simp [results, Try.results72, go_sem, e0, e1, e2, e3]
  · unfold st4 at hfin hBf
    exact ⟨_, rfl, hBf, hfin⟩
set_option maxHeartbeats 1000000 in
set_option maxRecDepth 100000 in
theorem toElem_idx (x : EV) (hkind : x.kind = 3) (w : World) (v : Value) (hv : IsE w (Btw 0 w.heap.size) x v) :
    Calls Try.prog 72 #[v] w fun e w' => ∃ r, e = .returned r ∧ Below w.heap.size w w' ∧ IsPE w' (Btw w.heap.size w'.heap.size) (toPE x) r := by
  have ht : toPE x = .idx x.n := by simp [toPE, hkind]
  rw [ht]
  obtain ⟨ak, ck, a, c, a0, d0, a1, d1, rfl⟩ := hv.form
  have hz : (Lit.int .i64 x.n).wf = true := by obtain ⟨_, _, _, _, _, _, _, _, _, _, _, _, h, _⟩ := hv; exact h
  have HZ := Lib.hid hz
  clear hz ht hv
  rw [hkind]
  clear hkind
  go_enter Try.func72, Try.ntmps72
  go_wp2_with fail
  have hB : Below w.heap.size w (((w.alloc (.cells #[.int .i64 3, .string x.s, .slice ak x.keys.length ck, .slice a x.l.length c, .int .i64 x.v.kind, .int .i64 x.v.n, .float .f64 x.v.f, .string x.v.s, .slice a0 x.v.keys.length d0, .slice a1 x.v.l.length d1, .int .i64 x.n] 33)).alloc (.cells #[.pointer none, .pointer none, .pointer none, .pointer (some ⟨w.heap.size + 1 + 1, 0, none⟩)] 104)).alloc (.cells #[.int .i64 x.n] 3)) := (((Below.refl _ _).alloc (Nat.le_refl _) (.cells #[.int .i64 3, .string x.s, .slice ak x.keys.length ck, .slice a x.l.length c, .int .i64 x.v.kind, .int .i64 x.v.n, .float .f64 x.v.f, .string x.v.s, .slice a0 x.v.keys.length d0, .slice a1 x.v.l.length d1, .int .i64 x.n] 33)).alloc (by simp) (.cells #[.pointer none, .pointer none, .pointer none, .pointer (some ⟨w.heap.size + 1 + 1, 0, none⟩)] 104)).alloc (by simp; omega) (.cells #[.int .i64 x.n] 3)
  have hN : (((w.alloc (.cells #[.int .i64 3, .string x.s, .slice ak x.keys.length ck, .slice a x.l.length c, .int .i64 x.v.kind, .int .i64 x.v.n, .float .f64 x.v.f, .string x.v.s, .slice a0 x.v.keys.length d0, .slice a1 x.v.l.length d1, .int .i64 x.n] 33)).alloc (.cells #[.pointer none, .pointer none, .pointer none, .pointer (some ⟨w.heap.size + 1 + 1, 0, none⟩)] 104)).alloc (.cells #[.int .i64 x.n] 3)).heap[w.heap.size + 1 + 1]? = some (.cells #[.int .i64 x.n] 3) := new_block (by simp)
  have hblk : (((w.alloc (.cells #[.int .i64 3, .string x.s, .slice ak x.keys.length ck, .slice a x.l.length c, .int .i64 x.v.kind, .int .i64 x.v.n, .float .f64 x.v.f, .string x.v.s, .slice a0 x.v.keys.length d0, .slice a1 x.v.l.length d1, .int .i64 x.n] 33)).alloc (.cells #[.pointer none, .pointer none, .pointer none, .pointer (some ⟨w.heap.size + 1 + 1, 0, none⟩)] 104)).alloc (.cells #[.int .i64 x.n] 3)).heap[w.heap.size + 1]? = some (.cells #[.pointer none, .pointer none, .pointer none, .pointer (some ⟨w.heap.size + 1 + 1, 0, none⟩)] 104) := blk_alloc (new_block (by simp)) _
  refine bodyPost_ret (v := .agg #[.pointer none, .pointer none, .pointer none, .pointer (some ⟨w.heap.size + 1 + 1, 0, none⟩)]) ?_ rfl ?_
  · have e0 := blk_c hblk 0 (u := .pointer none) rfl
    have e1 := blk_c hblk 1 (u := .pointer none) rfl
    have e2 := blk_c hblk 2 (u := .pointer none) rfl
    have e3 := blk_c hblk 3 (u := .pointer (some ⟨w.heap.size + 1 + 1, 0, none⟩)) rfl
    simp [results, Try.results72, go_sem, e0, e1, e2, e3]
  · exact ⟨_, rfl, hB, w.heap.size + 1 + 1, rfl, ⟨by omega, by simp⟩, hN, HZ.out⟩
set_option maxHeartbeats 1000000 in
set_option maxRecDepth 100000 in
theorem toElem_name (x : EV) (h1 : x.kind ≠ 1) (h2 : x.kind ≠ 2) (h3 : x.kind ≠ 3) (w : World) (v : Value) (hv : IsE w (Btw 0 w.heap.size) x v) :
    Calls Try.prog 72 #[v] w fun e w' => ∃ r, e = .returned r ∧ Below w.heap.size w w' ∧ IsPE w' (Btw w.heap.size w'.heap.size) (toPE x) r := by
  have ht : toPE x = .name x.s := by simp [toPE, h1, h2, h3]
  rw [ht]
  obtain ⟨ak, ck, a, c, a0, d0, a1, d1, rfl⟩ := hv.form
  have hz : x.s.size ≤ maxLen := by obtain ⟨_, _, _, _, _, _, _, _, _, _, _, _, _, h, _⟩ := hv; exact h
  have HZ := Lib.hid hz
  clear hz ht hv
  have k1 : (x.kind == 1) = false := by simp [h1]
  have k2 : (x.kind == 2) = false := by simp [h2]
  have k3 : (x.kind == 3) = false := by simp [h3]
  go_enter Try.func72, Try.ntmps72
  go_wp2_with fail
  have hB : Below w.heap.size w (((w.alloc (.cells #[.int .i64 x.kind, .string x.s, .slice ak x.keys.length ck, .slice a x.l.length c, .int .i64 x.v.kind, .int .i64 x.v.n, .float .f64 x.v.f, .string x.v.s, .slice a0 x.v.keys.length d0, .slice a1 x.v.l.length d1, .int .i64 x.n] 33)).alloc (.cells #[.pointer (some ⟨w.heap.size + 1 + 1, 0, none⟩), .pointer none, .pointer none, .pointer none] 104)).alloc (.cells #[.string x.s] 9)) := (((Below.refl _ _).alloc (Nat.le_refl _) (.cells #[.int .i64 x.kind, .string x.s, .slice ak x.keys.length ck, .slice a x.l.length c, .int .i64 x.v.kind, .int .i64 x.v.n, .float .f64 x.v.f, .string x.v.s, .slice a0 x.v.keys.length d0, .slice a1 x.v.l.length d1, .int .i64 x.n] 33)).alloc (by simp) (.cells #[.pointer (some ⟨w.heap.size + 1 + 1, 0, none⟩), .pointer none, .pointer none, .pointer none] 104)).alloc (by simp; omega) (.cells #[.string x.s] 9)
  have hN : (((w.alloc (.cells #[.int .i64 x.kind, .string x.s, .slice ak x.keys.length ck, .slice a x.l.length c, .int .i64 x.v.kind, .int .i64 x.v.n, .float .f64 x.v.f, .string x.v.s, .slice a0 x.v.keys.length d0, .slice a1 x.v.l.length d1, .int .i64 x.n] 33)).alloc (.cells #[.pointer (some ⟨w.heap.size + 1 + 1, 0, none⟩), .pointer none, .pointer none, .pointer none] 104)).alloc (.cells #[.string x.s] 9)).heap[w.heap.size + 1 + 1]? = some (.cells #[.string x.s] 9) := new_block (by simp)
  have hblk : (((w.alloc (.cells #[.int .i64 x.kind, .string x.s, .slice ak x.keys.length ck, .slice a x.l.length c, .int .i64 x.v.kind, .int .i64 x.v.n, .float .f64 x.v.f, .string x.v.s, .slice a0 x.v.keys.length d0, .slice a1 x.v.l.length d1, .int .i64 x.n] 33)).alloc (.cells #[.pointer (some ⟨w.heap.size + 1 + 1, 0, none⟩), .pointer none, .pointer none, .pointer none] 104)).alloc (.cells #[.string x.s] 9)).heap[w.heap.size + 1]? = some (.cells #[.pointer (some ⟨w.heap.size + 1 + 1, 0, none⟩), .pointer none, .pointer none, .pointer none] 104) := blk_alloc (new_block (by simp)) _
  refine bodyPost_ret (v := .agg #[.pointer (some ⟨w.heap.size + 1 + 1, 0, none⟩), .pointer none, .pointer none, .pointer none]) ?_ rfl ?_
  · have e0 := blk_c hblk 0 (u := .pointer (some ⟨w.heap.size + 1 + 1, 0, none⟩)) rfl
    have e1 := blk_c hblk 1 (u := .pointer none) rfl
    have e2 := blk_c hblk 2 (u := .pointer none) rfl
    have e3 := blk_c hblk 3 (u := .pointer none) rfl
    simp [results, Try.results72, go_sem, e0, e1, e2, e3]
  · exact ⟨_, rfl, hB, w.heap.size + 1 + 1, rfl, ⟨by omega, by simp⟩, hN, HZ.out⟩

/-- toElem makes the package's element. -/
theorem toElem_any (x : EV) (w : World) (v : Value) (hv : IsE w (Btw 0 w.heap.size) x v) :
    Calls Try.prog 72 #[v] w fun e w' => ∃ r, e = .returned r ∧ Below w.heap.size w w' ∧ IsPE w' (Btw w.heap.size w'.heap.size) (toPE x) r := by
  by_cases h1 : x.kind = 1
  · exact toElem_key x h1 w v hv
  by_cases h2 : x.kind = 2
  · exact toElem_val x h2 w v hv
  by_cases h3 : x.kind = 3
  · exact toElem_idx x h3 w v hv
  exact toElem_name x h1 h2 h3 w v hv
end Go.Proofs.Ytlghpcokbppkfaa
