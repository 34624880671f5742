/- spec.CleanElem: an element's plain form. -/
import Derived.Test.YtlghpcokbppkfaaFromElemK
import Derived.Test.YtlghpcokbppkfaaCleanAll
import Derived.Test.YtlghpcokbppkfaaWith
namespace Go.Proofs.Ytlghpcokbppkfaa
open Go.RowKit
set_option linter.unusedSimpArgs false

/-- An element's plain form. -/
def cleanE (x : EV) : EV :=
  if x.kind = 1 then ⟨1, ByteArray.empty, x.keys.take (min x.keys.length x.l.length), cleanL (x.l.take (min x.keys.length x.l.length)), gNull, 0⟩
  else if x.kind = 2 then ⟨2, ByteArray.empty, [], [], cleanV x.v, 0⟩ else if x.kind = 3 then ⟨3, ByteArray.empty, [], [], gNull, x.n⟩ else ⟨0, x.s, [], [], gNull, 0⟩

set_option maxHeartbeats 1000000 in
set_option maxRecDepth 100000 in
theorem cleanE_val (x : EV) (hkind : x.kind = 2) (w : World) (v : Value) (hv : IsE w (Btw 0 w.heap.size) x v) :
    Calls Try.prog 22 #[v] w fun e w' => ∃ r, e = .returned r ∧ Below w.heap.size w w' ∧ IsE w' (Btw w.heap.size w'.heap.size) (cleanE x) r := by
  have ht : cleanE x = ⟨2, ByteArray.empty, [], [], cleanV x.v, 0⟩ := by simp [cleanE, hkind]
  rw [ht]
  obtain ⟨ak, ck, a, c, a0, d0, a1, d1, rfl⟩ := hv.form
  rw [hkind] at *
  have hx := (hv.val.alloc_ (.cells #[.int .i64 2, .string x.s, .slice ak x.keys.length ck, .slice a x.l.length c, .int .i64 x.v.kind, .int .i64 x.v.n, .float .f64 x.v.f, .string x.v.s, .slice a0 x.v.keys.length d0, .slice a1 x.v.l.length d1, .int .i64 x.n] 33)).alloc_ (.cells #[.int .i64 0, .string ⟨#[]⟩, .slice none 0 0, .slice none 0 0, .int .i64 0, .int .i64 0, .float .f64 0, .string ⟨#[]⟩, .slice none 0 0, .slice none 0 0, .int .i64 0] 33)
  have hB0 := (((Below.refl w.heap.size w).alloc (Nat.le_refl _) (.cells #[.int .i64 2, .string x.s, .slice ak x.keys.length ck, .slice a x.l.length c, .int .i64 x.v.kind, .int .i64 x.v.n, .float .f64 x.v.f, .string x.v.s, .slice a0 x.v.keys.length d0, .slice a1 x.v.l.length d1, .int .i64 x.n] 33)).alloc (by simp) (.cells #[.int .i64 0, .string ⟨#[]⟩, .slice none 0 0, .slice none 0 0, .int .i64 0, .int .i64 0, .float .f64 0, .string ⟨#[]⟩, .slice none 0 0, .slice none 0 0, .int .i64 0] 33))
  have hR0 : ((w.alloc (.cells #[.int .i64 2, .string x.s, .slice ak x.keys.length ck, .slice a x.l.length c, .int .i64 x.v.kind, .int .i64 x.v.n, .float .f64 x.v.f, .string x.v.s, .slice a0 x.v.keys.length d0, .slice a1 x.v.l.length d1, .int .i64 x.n] 33)).alloc (.cells #[.int .i64 0, .string ⟨#[]⟩, .slice none 0 0, .slice none 0 0, .int .i64 0, .int .i64 0, .float .f64 0, .string ⟨#[]⟩, .slice none 0 0, .slice none 0 0, .int .i64 0] 33)).heap[w.heap.size + 1]? = some (.cells #[.int .i64 0, .string ⟨#[]⟩, .slice none 0 0, .slice none 0 0, .int .i64 0, .int .i64 0, .float .f64 0, .string ⟨#[]⟩, .slice none 0 0, .slice none 0 0, .int .i64 0] 33) := new_block (by simp)
  have HX := Lib.hid (And.intro hx (And.intro hB0 hR0))
  clear hv hx hB0 hR0
  have hc := clean_any x.v
  go_enter Try.func22, Try.ntmps22
  go_wp2_with (go_at_call 17; (with_reducible refine (hc.use _ _ ?_).mono ?_))
  · simpa using HX.out.1
  rintro e w2 r rfl hB2' hr'
  obtain ⟨_, hB0, hR0⟩ := HX.out
  have hB2 : Below ((w.alloc (.cells #[.int .i64 2, .string x.s, .slice ak x.keys.length ck, .slice a x.l.length c, .int .i64 x.v.kind, .int .i64 x.v.n, .float .f64 x.v.f, .string x.v.s, .slice a0 x.v.keys.length d0, .slice a1 x.v.l.length d1, .int .i64 x.n] 33)).alloc (.cells #[.int .i64 0, .string ⟨#[]⟩, .slice none 0 0, .slice none 0 0, .int .i64 0, .int .i64 0, .float .f64 0, .string ⟨#[]⟩, .slice none 0 0, .slice none 0 0, .int .i64 0] 33)).heap.size ((w.alloc (.cells #[.int .i64 2, .string x.s, .slice ak x.keys.length ck, .slice a x.l.length c, .int .i64 x.v.kind, .int .i64 x.v.n, .float .f64 x.v.f, .string x.v.s, .slice a0 x.v.keys.length d0, .slice a1 x.v.l.length d1, .int .i64 x.n] 33)).alloc (.cells #[.int .i64 0, .string ⟨#[]⟩, .slice none 0 0, .slice none 0 0, .int .i64 0, .int .i64 0, .float .f64 0, .string ⟨#[]⟩, .slice none 0 0, .slice none 0 0, .int .i64 0] 33)) w2 := by simpa using hB2'
  have hr : IsV w2 (Btw ((w.alloc (.cells #[.int .i64 2, .string x.s, .slice ak x.keys.length ck, .slice a x.l.length c, .int .i64 x.v.kind, .int .i64 x.v.n, .float .f64 x.v.f, .string x.v.s, .slice a0 x.v.keys.length d0, .slice a1 x.v.l.length d1, .int .i64 x.n] 33)).alloc (.cells #[.int .i64 0, .string ⟨#[]⟩, .slice none 0 0, .slice none 0 0, .int .i64 0, .int .i64 0, .float .f64 0, .string ⟨#[]⟩, .slice none 0 0, .slice none 0 0, .int .i64 0] 33)).heap.size w2.heap.size) (cleanV x.v) r := by simpa using hr'
  clear hB2' hr'
  obtain ⟨a2, d2, a3, d3, rfl⟩ := hr.form
  have hs2 : w.heap.size + 2 ≤ w2.heap.size := by have := hB2.size; simpa using this
  have hR := blk_below hR0 hB2
  have hB : Below w.heap.size w w2 := hB0.trans (hB2.mono (by simp; omega))
  have HR := Lib.hid (And.intro hR (hr.lo_ (lo' := w.heap.size + 2) (by simp)))
  have q0 : w2.cell? ⟨w.heap.size + 1, 0, none⟩ = some (.int .i64 0) := blk_c hR 0 rfl
  have q1 : w2.cell? ⟨w.heap.size + 1, 1, none⟩ = some (.string ⟨#[]⟩) := blk_c hR 1 rfl
  have q2 : w2.cell? ⟨w.heap.size + 1, 2, none⟩ = some (.slice none 0 0) := blk_c hR 2 rfl
  have q3 : w2.cell? ⟨w.heap.size + 1, 3, none⟩ = some (.slice none 0 0) := blk_c hR 3 rfl
  have q4 : w2.cell? ⟨w.heap.size + 1, 4, none⟩ = some (.int .i64 0) := blk_c hR 4 rfl
  have q5 : w2.cell? ⟨w.heap.size + 1, 5, none⟩ = some (.int .i64 0) := blk_c hR 5 rfl
  have q6 : w2.cell? ⟨w.heap.size + 1, 6, none⟩ = some (.float .f64 0) := blk_c hR 6 rfl
  have q7 : w2.cell? ⟨w.heap.size + 1, 7, none⟩ = some (.string ⟨#[]⟩) := blk_c hR 7 rfl
  have q8 : w2.cell? ⟨w.heap.size + 1, 8, none⟩ = some (.slice none 0 0) := blk_c hR 8 rfl
  have q9 : w2.cell? ⟨w.heap.size + 1, 9, none⟩ = some (.slice none 0 0) := blk_c hR 9 rfl
  have q10 : w2.cell? ⟨w.heap.size + 1, 10, none⟩ = some (.int .i64 0) := blk_c hR 10 rfl
  have f0 := blk_frozen hR 0
  have f1 := blk_frozen hR 1
  have f2 := blk_frozen hR 2
  have f3 := blk_frozen hR 3
  have f4 := blk_frozen hR 4
  have f5 := blk_frozen hR 5
  have f6 := blk_frozen hR 6
  have f7 := blk_frozen hR 7
  have f8 := blk_frozen hR 8
  have f9 := blk_frozen hR 9
  have f10 := blk_frozen hR 10
  clear hr hB2 hB0 hR0 hR HX hc
  go_wp2_with fail
  obtain ⟨hR, hr⟩ := HR.out
  have hblk := st11_blk (c0 := .int .i64 2) (c1 := .string ⟨#[]⟩) (c2 := .slice none 0 0) (c3 := .slice none 0 0) (c4 := .int .i64 (cleanV x.v).kind) (c5 := .int .i64 (cleanV x.v).n) (c6 := .float .f64 (cleanV x.v).f) (c7 := .string (cleanV x.v).s) (c8 := .slice a2 (cleanV x.v).keys.length d2) (c9 := .slice a3 (cleanV x.v).l.length d3) (c10 := .int .i64 0) hR
  have hsz : (st11 w2 (w.heap.size + 1) (.int .i64 2) (.string ⟨#[]⟩) (.slice none 0 0) (.slice none 0 0) (.int .i64 (cleanV x.v).kind) (.int .i64 (cleanV x.v).n) (.float .f64 (cleanV x.v).f) (.string (cleanV x.v).s) (.slice a2 (cleanV x.v).keys.length d2) (.slice a3 (cleanV x.v).l.length d3) (.int .i64 0)).heap.size = w2.heap.size := st11_size
  have hfin : IsE (st11 w2 (w.heap.size + 1) (.int .i64 2) (.string ⟨#[]⟩) (.slice none 0 0) (.slice none 0 0) (.int .i64 (cleanV x.v).kind) (.int .i64 (cleanV x.v).n) (.float .f64 (cleanV x.v).f) (.string (cleanV x.v).s) (.slice a2 (cleanV x.v).keys.length d2) (.slice a3 (cleanV x.v).l.length d3) (.int .i64 0)) (Btw w.heap.size (st11 w2 (w.heap.size + 1) (.int .i64 2) (.string ⟨#[]⟩) (.slice none 0 0) (.slice none 0 0) (.int .i64 (cleanV x.v).kind) (.int .i64 (cleanV x.v).n) (.float .f64 (cleanV x.v).f) (.string (cleanV x.v).s) (.slice a2 (cleanV x.v).keys.length d2) (.slice a3 (cleanV x.v).l.length d3) (.int .i64 0)).heap.size) ⟨2, ByteArray.empty, [], [], cleanV x.v, 0⟩ (.agg #[.int .i64 2, .string ⟨#[]⟩, .slice none 0 0, .slice none 0 0, .int .i64 (cleanV x.v).kind, .int .i64 (cleanV x.v).n, .float .f64 (cleanV x.v).f, .string (cleanV x.v).s, .slice a2 (cleanV x.v).keys.length d2, .slice a3 (cleanV x.v).l.length d3, .int .i64 0]) := by
    rw [hsz]
    exact isE_mk (l := []) (by decide) (by decide) (by decide) isStrs_nil (by decide) ⟨none, 0, rfl, Nat.le_refl _, .inl rfl⟩ (IsV.keep (S := Btw (w.heap.size + 2) w2.heap.size) (fun b hb => st11_eq (by have := hb.1; omega)) (Btw.mono (by omega) (Nat.le_refl _)) _ hr)
  have hBf : Below w.heap.size w (st11 w2 (w.heap.size + 1) (.int .i64 2) (.string ⟨#[]⟩) (.slice none 0 0) (.slice none 0 0) (.int .i64 (cleanV x.v).kind) (.int .i64 (cleanV x.v).n) (.float .f64 (cleanV x.v).f) (.string (cleanV x.v).s) (.slice a2 (cleanV x.v).keys.length d2) (.slice a3 (cleanV x.v).l.length d3) (.int .i64 0)) := st11_below hB (by omega)
  refine bodyPost_ret (v := .agg #[.int .i64 2, .string ⟨#[]⟩, .slice none 0 0, .slice none 0 0, .int .i64 (cleanV x.v).kind, .int .i64 (cleanV x.v).n, .float .f64 (cleanV x.v).f, .string (cleanV x.v).s, .slice a2 (cleanV x.v).keys.length d2, .slice a3 (cleanV x.v).l.length d3, .int .i64 0]) ?_ rfl ?_
  · have e0 := blk_c hblk 0 (u := .int .i64 2) rfl
    have e1 := blk_c hblk 1 (u := .string ⟨#[]⟩) rfl
    have e2 := blk_c hblk 2 (u := .slice none 0 0) rfl
    have e3 := blk_c hblk 3 (u := .slice none 0 0) rfl
    have e4 := blk_c hblk 4 (u := .int .i64 (cleanV x.v).kind) rfl
    have e5 := blk_c hblk 5 (u := .int .i64 (cleanV x.v).n) rfl
    have e6 := blk_c hblk 6 (u := .float .f64 (cleanV x.v).f) rfl
    have e7 := blk_c hblk 7 (u := .string (cleanV x.v).s) rfl
    have e8 := blk_c hblk 8 (u := .slice a2 (cleanV x.v).keys.length d2) rfl
    have e9 := blk_c hblk 9 (u := .slice a3 (cleanV x.v).l.length d3) rfl
    have e10 := blk_c hblk 10 (u := .int .i64 0) rfl
    unfold st11 at e0 e1 e2 e3 e4 e5 e6 e7 e8 e9 e10
    simp [results, Try.results22, go_sem, e0, e1, e2, e3, e4, e5, e6, e7, e8, e9, e10]
  · unfold st11 at hfin hBf
    exact ⟨_, rfl, hBf, hfin⟩
set_option maxHeartbeats 1000000 in
set_option maxRecDepth 100000 in
theorem cleanE_idx (x : EV) (hkind : x.kind = 3) (w : World) (v : Value) (hv : IsE w (Btw 0 w.heap.size) x v) :
    Calls Try.prog 22 #[v] w fun e w' => ∃ r, e = .returned r ∧ Below w.heap.size w w' ∧ IsE w' (Btw w.heap.size w'.heap.size) (cleanE x) r := by
  have ht : cleanE x = ⟨3, ByteArray.empty, [], [], gNull, x.n⟩ := by simp [cleanE, hkind]
  rw [ht]
  obtain ⟨ak, ck, a, c, a0, d0, a1, d1, rfl⟩ := hv.form
  have hz : (Lit.int .i64 x.n).wf = true := by obtain ⟨_, _, _, _, _, _, _, _, _, _, _, _, h, _⟩ := hv; exact h
  have HZ := Lib.hid hz
  clear hz ht hv
  rw [hkind]
  clear hkind
  go_enter Try.func22, Try.ntmps22
  go_wp2_with fail
  have hB : Below w.heap.size w ((w.alloc (.cells #[.int .i64 3, .string x.s, .slice ak x.keys.length ck, .slice a x.l.length c, .int .i64 x.v.kind, .int .i64 x.v.n, .float .f64 x.v.f, .string x.v.s, .slice a0 x.v.keys.length d0, .slice a1 x.v.l.length d1, .int .i64 x.n] 33)).alloc (.cells #[.int .i64 3, .string ⟨#[]⟩, .slice none 0 0, .slice none 0 0, .int .i64 0, .int .i64 0, .float .f64 0, .string ⟨#[]⟩, .slice none 0 0, .slice none 0 0, .int .i64 x.n] 33)) := ((Below.refl _ _).alloc (Nat.le_refl _) (.cells #[.int .i64 3, .string x.s, .slice ak x.keys.length ck, .slice a x.l.length c, .int .i64 x.v.kind, .int .i64 x.v.n, .float .f64 x.v.f, .string x.v.s, .slice a0 x.v.keys.length d0, .slice a1 x.v.l.length d1, .int .i64 x.n] 33)).alloc (by simp) (.cells #[.int .i64 3, .string ⟨#[]⟩, .slice none 0 0, .slice none 0 0, .int .i64 0, .int .i64 0, .float .f64 0, .string ⟨#[]⟩, .slice none 0 0, .slice none 0 0, .int .i64 x.n] 33)
  have hblk : ((w.alloc (.cells #[.int .i64 3, .string x.s, .slice ak x.keys.length ck, .slice a x.l.length c, .int .i64 x.v.kind, .int .i64 x.v.n, .float .f64 x.v.f, .string x.v.s, .slice a0 x.v.keys.length d0, .slice a1 x.v.l.length d1, .int .i64 x.n] 33)).alloc (.cells #[.int .i64 3, .string ⟨#[]⟩, .slice none 0 0, .slice none 0 0, .int .i64 0, .int .i64 0, .float .f64 0, .string ⟨#[]⟩, .slice none 0 0, .slice none 0 0, .int .i64 x.n] 33)).heap[w.heap.size + 1]? = some (.cells #[.int .i64 3, .string ⟨#[]⟩, .slice none 0 0, .slice none 0 0, .int .i64 0, .int .i64 0, .float .f64 0, .string ⟨#[]⟩, .slice none 0 0, .slice none 0 0, .int .i64 x.n] 33) := new_block (by simp)
  refine bodyPost_ret (v := .agg #[.int .i64 3, .string ⟨#[]⟩, .slice none 0 0, .slice none 0 0, .int .i64 0, .int .i64 0, .float .f64 0, .string ⟨#[]⟩, .slice none 0 0, .slice none 0 0, .int .i64 x.n]) ?_ rfl ?_
  · have e0 := blk_c hblk 0 (u := .int .i64 3) rfl
    have e1 := blk_c hblk 1 (u := .string ⟨#[]⟩) rfl
    have e2 := blk_c hblk 2 (u := .slice none 0 0) rfl
    have e3 := blk_c hblk 3 (u := .slice none 0 0) rfl
    have e4 := blk_c hblk 4 (u := .int .i64 0) rfl
    have e5 := blk_c hblk 5 (u := .int .i64 0) rfl
    have e6 := blk_c hblk 6 (u := .float .f64 0) rfl
    have e7 := blk_c hblk 7 (u := .string ⟨#[]⟩) rfl
    have e8 := blk_c hblk 8 (u := .slice none 0 0) rfl
    have e9 := blk_c hblk 9 (u := .slice none 0 0) rfl
    have e10 := blk_c hblk 10 (u := .int .i64 x.n) rfl
    simp [results, Try.results22, go_sem, e0, e1, e2, e3, e4, e5, e6, e7, e8, e9, e10]
  · exact ⟨_, rfl, hB, isE_mk (l := []) (by decide) HZ.out (by decide) isStrs_nil (by decide) ⟨none, 0, rfl, Nat.le_refl _, .inl rfl⟩ isV_nil⟩
set_option maxHeartbeats 1000000 in
set_option maxRecDepth 100000 in
theorem cleanE_name (x : EV) (h1 : x.kind ≠ 1) (h2 : x.kind ≠ 2) (h3 : x.kind ≠ 3) (w : World) (v : Value) (hv : IsE w (Btw 0 w.heap.size) x v) :
    Calls Try.prog 22 #[v] w fun e w' => ∃ r, e = .returned r ∧ Below w.heap.size w w' ∧ IsE w' (Btw w.heap.size w'.heap.size) (cleanE x) r := by
  have ht : cleanE x = ⟨0, x.s, [], [], gNull, 0⟩ := by simp [cleanE, h1, h2, h3]
  rw [ht]
  obtain ⟨ak, ck, a, c, a0, d0, a1, d1, rfl⟩ := hv.form
  have hz : x.s.size ≤ maxLen := by obtain ⟨_, _, _, _, _, _, _, _, _, _, _, _, _, h, _⟩ := hv; exact h
  have HZ := Lib.hid hz
  clear hz ht hv
  have k1 : (x.kind == 1) = false := by simp [h1]
  have k2 : (x.kind == 2) = false := by simp [h2]
  have k3 : (x.kind == 3) = false := by simp [h3]
  go_enter Try.func22, Try.ntmps22
  go_wp2_with fail
  have hB : Below w.heap.size w ((w.alloc (.cells #[.int .i64 x.kind, .string x.s, .slice ak x.keys.length ck, .slice a x.l.length c, .int .i64 x.v.kind, .int .i64 x.v.n, .float .f64 x.v.f, .string x.v.s, .slice a0 x.v.keys.length d0, .slice a1 x.v.l.length d1, .int .i64 x.n] 33)).alloc (.cells #[.int .i64 0, .string x.s, .slice none 0 0, .slice none 0 0, .int .i64 0, .int .i64 0, .float .f64 0, .string ⟨#[]⟩, .slice none 0 0, .slice none 0 0, .int .i64 0] 33)) := ((Below.refl _ _).alloc (Nat.le_refl _) (.cells #[.int .i64 x.kind, .string x.s, .slice ak x.keys.length ck, .slice a x.l.length c, .int .i64 x.v.kind, .int .i64 x.v.n, .float .f64 x.v.f, .string x.v.s, .slice a0 x.v.keys.length d0, .slice a1 x.v.l.length d1, .int .i64 x.n] 33)).alloc (by simp) (.cells #[.int .i64 0, .string x.s, .slice none 0 0, .slice none 0 0, .int .i64 0, .int .i64 0, .float .f64 0, .string ⟨#[]⟩, .slice none 0 0, .slice none 0 0, .int .i64 0] 33)
  have hblk : ((w.alloc (.cells #[.int .i64 x.kind, .string x.s, .slice ak x.keys.length ck, .slice a x.l.length c, .int .i64 x.v.kind, .int .i64 x.v.n, .float .f64 x.v.f, .string x.v.s, .slice a0 x.v.keys.length d0, .slice a1 x.v.l.length d1, .int .i64 x.n] 33)).alloc (.cells #[.int .i64 0, .string x.s, .slice none 0 0, .slice none 0 0, .int .i64 0, .int .i64 0, .float .f64 0, .string ⟨#[]⟩, .slice none 0 0, .slice none 0 0, .int .i64 0] 33)).heap[w.heap.size + 1]? = some (.cells #[.int .i64 0, .string x.s, .slice none 0 0, .slice none 0 0, .int .i64 0, .int .i64 0, .float .f64 0, .string ⟨#[]⟩, .slice none 0 0, .slice none 0 0, .int .i64 0] 33) := new_block (by simp)
  refine bodyPost_ret (v := .agg #[.int .i64 0, .string x.s, .slice none 0 0, .slice none 0 0, .int .i64 0, .int .i64 0, .float .f64 0, .string ⟨#[]⟩, .slice none 0 0, .slice none 0 0, .int .i64 0]) ?_ rfl ?_
  · have e0 := blk_c hblk 0 (u := .int .i64 0) rfl
    have e1 := blk_c hblk 1 (u := .string x.s) rfl
    have e2 := blk_c hblk 2 (u := .slice none 0 0) rfl
    have e3 := blk_c hblk 3 (u := .slice none 0 0) rfl
    have e4 := blk_c hblk 4 (u := .int .i64 0) rfl
    have e5 := blk_c hblk 5 (u := .int .i64 0) rfl
    have e6 := blk_c hblk 6 (u := .float .f64 0) rfl
    have e7 := blk_c hblk 7 (u := .string ⟨#[]⟩) rfl
    have e8 := blk_c hblk 8 (u := .slice none 0 0) rfl
    have e9 := blk_c hblk 9 (u := .slice none 0 0) rfl
    have e10 := blk_c hblk 10 (u := .int .i64 0) rfl
    simp [results, Try.results22, go_sem, e0, e1, e2, e3, e4, e5, e6, e7, e8, e9, e10]
  · exact ⟨_, rfl, hB, isE_mk (l := []) (by decide) (by decide) HZ.out isStrs_nil (by decide) ⟨none, 0, rfl, Nat.le_refl _, .inl rfl⟩ isV_nil⟩
theorem IsVs.take {w : World} {S : Nat → Prop} : ∀ {l : List GV} {b o : Nat} (n : Nat), IsVs w S l b o → IsVs w S (l.take n) b o
  | [], _, _, n, _ => by simp [IsVs]
  | x :: r, b, o, 0, _ => by simp [IsVs]
  | x :: r, b, o, n + 1, h => by
    unfold IsVs at h
    simp only [List.take_succ_cons]
    unfold IsVs
    exact ⟨h.1, h.2.take n⟩
theorem plainPre_any (l : List GV) (n : Nat) (hn : n ≤ l.length) (w : World) (a : Option Addr) (c : Nat) (h6 : l.length * 88 ≤ 140737488351232) (h7 : l = [] ∨ ∃ b o, Btw 0 w.heap.size b ∧ a = some ⟨b, o, none⟩ ∧ IsVs w (Btw 0 w.heap.size) l b o) :
    Calls Try.prog 66 #[.slice a n c] w fun e w' => ∃ A C, e = .returned (.slice A n C) ∧ n ≤ C ∧ Below w.heap.size w w' ∧
      (cleanL (l.take n) = [] ∨ ∃ b o, Btw w.heap.size w'.heap.size b ∧ A = some ⟨b, o, none⟩ ∧ IsVs w' (Btw w.heap.size w'.heap.size) (cleanL (l.take n)) b o) := by
  have hl : (l.take n).length = n := by simp; omega
  have h := plainList_any (l.take n) (fun y _ => clean_any y) w a c (by rw [hl]; omega) (by
    rcases h7 with rfl | ⟨b, o, hb, ha, hx⟩
    · exact .inl (by simp)
    · exact .inr ⟨b, o, hb, ha, hx.take n⟩)
  rw [hl] at h
  refine h.mono fun e w' => ?_
  rintro ⟨A, C, he, hC, hB, hx⟩
  refine ⟨A, C, he, hC, hB, hx.imp_left fun e => by rw [e]; simp [cleanL]⟩
theorem IsE.rowK {w : World} {S : Nat → Prop} {x : EV} {c0 c1 c3 d0 d1 d2 d3 d4 d5 d6 : Value} {a : Option Addr} {m c : Nat} (h : IsE w S x (.agg #[c0, c1, .slice a m c, c3, d0, d1, d2, d3, d4, d5, d6])) {hi : Nat} (hS : ∀ b, S b → b < hi) :
    m = x.keys.length ∧ x.keys.length ≤ c ∧ x.keys.length * 16 ≤ 140737488351232 ∧ (∀ s ∈ x.keys, s.size ≤ maxLen) ∧ Reads w hi 1 a x.keys.length (x.keys.map .string) := by
  obtain ⟨ak, ck, a', c', e0, e1, e2, e3, e4, e5, e, _, _, _, hk, _⟩ := h
  injection e with e
  injection e with e
  simp only [List.cons.injEq, and_true] at e
  obtain ⟨_, _, e, _⟩ := e
  rw [← e] at hk
  obtain ⟨hn, hr⟩ := hk.reads hS
  obtain ⟨a'', c'', e', hle, hl, hz, _⟩ := hk
  injection e' with q1 q2 q3
  subst q3
  exact ⟨hn, hle, hl, hz, hr⟩
theorem IsE.rowL {w : World} {S : Nat → Prop} {x : EV} {c0 c1 c2 d0 d1 d2 d3 d4 d5 d6 : Value} {a : Option Addr} {m c : Nat} (h : IsE w S x (.agg #[c0, c1, c2, .slice a m c, d0, d1, d2, d3, d4, d5, d6])) :
    m = x.l.length ∧ x.l.length ≤ c ∧ x.l.length * 88 ≤ 140737488351232 ∧ (x.l = [] ∨ ∃ b o, S b ∧ a = some ⟨b, o, none⟩ ∧ IsVs w S x.l b o) := by
  obtain ⟨ak, ck, a', c', e0, e1, e2, e3, e4, e5, e, _, _, _, _, hc, hl, hv, _⟩ := h
  injection e with e
  injection e with e
  simp only [List.cons.injEq, and_true] at e
  obtain ⟨_, _, _, e, _⟩ := e
  injection e with q1 q2 q3
  subst q1 q2 q3
  exact ⟨rfl, hc, hl, hv⟩

set_option maxHeartbeats 1000000 in
set_option maxRecDepth 100000 in
theorem cleanE_key_lt (x : EV) (hkind : x.kind = 1) (hcmp : x.l.length < x.keys.length) (w : World) (v : Value) (hv : IsE w (Btw 0 w.heap.size) x v) :
    Calls Try.prog 22 #[v] w fun e w' => ∃ r, e = .returned r ∧ Below w.heap.size w w' ∧ IsE w' (Btw w.heap.size w'.heap.size) (cleanE x) r := by
  have ht : cleanE x = ⟨1, ByteArray.empty, x.keys.take x.l.length, cleanL (x.l.take x.l.length), gNull, 0⟩ := by simp [cleanE, hkind, Nat.min_eq_right (Nat.le_of_lt hcmp)]
  rw [ht]
  have hx := hv
  obtain ⟨ak, ck, a, c, a0, d0, a1, d1, rfl⟩ := hv.form
  clear hv
  rw [hkind] at *
  obtain ⟨i0, hi0, hz0, hz1, hz2⟩ := info_parts Try.infoStr
  obtain ⟨_, hkc, hk16, hkz, hrK⟩ := hx.rowK (hi := w.heap.size) (fun b hb => hb.2)
  obtain ⟨_, hlc, hl88, hl⟩ := hx.rowL
  have hnk : x.l.length ≤ x.keys.length := by omega
  have hnl : x.l.length ≤ x.l.length := by omega
  have HH := Lib.hid (And.intro hkz (And.intro hrK (And.intro hl (And.intro hk16 (And.intro hl88 (And.intro hnk (And.intro hnl (And.intro hkc hlc))))))))
  clear hkz hrK hl hx hk16 hl88 hnk hnl hkc hlc ht
  go_enter Try.func22, Try.ntmps22
  go_wp2_with fail
  obtain ⟨hkz, hrK, hl, hk16, hl88, hnk, hnl, hkc, hlc⟩ := HH.out
  have hB1 : Below w.heap.size w ((w.alloc (.cells #[.int .i64 1, .string x.s, .slice ak x.keys.length ck, .slice a x.l.length c, .int .i64 x.v.kind, .int .i64 x.v.n, .float .f64 x.v.f, .string x.v.s, .slice a0 x.v.keys.length d0, .slice a1 x.v.l.length d1, .int .i64 x.n] 33)).alloc (.cells #[.int .i64 0, .string ⟨#[]⟩, .slice none 0 0, .slice none 0 0, .int .i64 0, .int .i64 0, .float .f64 0, .string ⟨#[]⟩, .slice none 0 0, .slice none 0 0, .int .i64 0] 33)) := (((Below.refl w.heap.size w).alloc (Nat.le_refl _) (.cells #[.int .i64 1, .string x.s, .slice ak x.keys.length ck, .slice a x.l.length c, .int .i64 x.v.kind, .int .i64 x.v.n, .float .f64 x.v.f, .string x.v.s, .slice a0 x.v.keys.length d0, .slice a1 x.v.l.length d1, .int .i64 x.n] 33)).alloc (by simp) (.cells #[.int .i64 0, .string ⟨#[]⟩, .slice none 0 0, .slice none 0 0, .int .i64 0, .int .i64 0, .float .f64 0, .string ⟨#[]⟩, .slice none 0 0, .slice none 0 0, .int .i64 0] 33))
  have bR1 : ((w.alloc (.cells #[.int .i64 1, .string x.s, .slice ak x.keys.length ck, .slice a x.l.length c, .int .i64 x.v.kind, .int .i64 x.v.n, .float .f64 x.v.f, .string x.v.s, .slice a0 x.v.keys.length d0, .slice a1 x.v.l.length d1, .int .i64 x.n] 33)).alloc (.cells #[.int .i64 0, .string ⟨#[]⟩, .slice none 0 0, .slice none 0 0, .int .i64 0, .int .i64 0, .float .f64 0, .string ⟨#[]⟩, .slice none 0 0, .slice none 0 0, .int .i64 0] 33)).heap[w.heap.size + 1]? = some (.cells #[.int .i64 0, .string ⟨#[]⟩, .slice none 0 0, .slice none 0 0, .int .i64 0, .int .i64 0, .float .f64 0, .string ⟨#[]⟩, .slice none 0 0, .slice none 0 0, .int .i64 0] 33) := new_block (by simp)
  have bE1 : ((w.alloc (.cells #[.int .i64 1, .string x.s, .slice ak x.keys.length ck, .slice a x.l.length c, .int .i64 x.v.kind, .int .i64 x.v.n, .float .f64 x.v.f, .string x.v.s, .slice a0 x.v.keys.length d0, .slice a1 x.v.l.length d1, .int .i64 x.n] 33)).alloc (.cells #[.int .i64 0, .string ⟨#[]⟩, .slice none 0 0, .slice none 0 0, .int .i64 0, .int .i64 0, .float .f64 0, .string ⟨#[]⟩, .slice none 0 0, .slice none 0 0, .int .i64 0] 33)).heap[w.heap.size]? = some (.cells #[.int .i64 1, .string x.s, .slice ak x.keys.length ck, .slice a x.l.length c, .int .i64 x.v.kind, .int .i64 x.v.n, .float .f64 x.v.f, .string x.v.s, .slice a0 x.v.keys.length d0, .slice a1 x.v.l.length d1, .int .i64 x.n] 33) := blk_alloc (new_block rfl) _
  have hs1 : ((w.alloc (.cells #[.int .i64 1, .string x.s, .slice ak x.keys.length ck, .slice a x.l.length c, .int .i64 x.v.kind, .int .i64 x.v.n, .float .f64 x.v.f, .string x.v.s, .slice a0 x.v.keys.length d0, .slice a1 x.v.l.length d1, .int .i64 x.n] 33)).alloc (.cells #[.int .i64 0, .string ⟨#[]⟩, .slice none 0 0, .slice none 0 0, .int .i64 0, .int .i64 0, .float .f64 0, .string ⟨#[]⟩, .slice none 0 0, .slice none 0 0, .int .i64 0] 33)).heap.size = w.heap.size + 2 := by simp
  generalize ((w.alloc (.cells #[.int .i64 1, .string x.s, .slice ak x.keys.length ck, .slice a x.l.length c, .int .i64 x.v.kind, .int .i64 x.v.n, .float .f64 x.v.f, .string x.v.s, .slice a0 x.v.keys.length d0, .slice a1 x.v.l.length d1, .int .i64 x.n] 33)).alloc (.cells #[.int .i64 0, .string ⟨#[]⟩, .slice none 0 0, .slice none 0 0, .int .i64 0, .int .i64 0, .float .f64 0, .string ⟨#[]⟩, .slice none 0 0, .slice none 0 0, .int .i64 0] 33)) = w1 at *
  generalize hM : w.heap.size = M at *
  have HM := Lib.hid hM; clear hM
  have c2 : w1.cell? ⟨M, 2, none⟩ = some (.slice ak x.keys.length ck) := blk_c bE1 2 rfl
  have c3 : w1.cell? ⟨M, 3, none⟩ = some (.slice a x.l.length c) := blk_c bE1 3 rfl
  have hslK := @run_slice_pre Try.prog 23 9 ak x.keys.length ck x.l.length 1 .i64 Try.underlying23 (fun _ => by kernel_rfl) (by omega)
  have hslL := @run_slice_pre Try.prog 24 26 a x.l.length c x.l.length 6 .i64 Try.underlying24 (fun _ => by kernel_rfl) (by omega)
  have own4 := (World.ownsRow_made w1 (base := M + 2) (e := 9) (size := 1) #[] 0 (by omega) (by decide) rfl).drew
  rw [hs1] at own4
  have hrK' := (((hrK.below hB1).take_ hnk).alloc (by omega) (.cells #[] 9)).drew
  have q1 : 0 + x.l.length ≤ maxLen := by unfold maxLen; omega
  have q2 : (0 + x.l.length) * 16 ≤ 140737488355328 := by omega
  have q3 : M + 2 ≤ ((w1.alloc (.cells #[] 9)).drew).heap.size := by show M + 2 ≤ (w1.alloc _).heap.size; simp; omega
  have q4 : ∀ u ∈ ((x.keys.map Value.string).take (x.l.length * 1)), u.oneCell' = true := ones_take strs_one
  have hs0 : w1.drew.heap.size = w1.heap.size := rfl
  refine wp_region_K (fun w' => w'.cell? ⟨M, 2, none⟩ = some (.slice ak x.keys.length ck) ∧ w'.cell? ⟨M, 3, none⟩ = some (.slice a x.l.length c)) [1, 2, 3, 4, 6, 7, 8, 9, 11] (by kernel_rfl) ?_ (fun hHeld => ?_)
  · exact ⟨c2, c3⟩
  refine wpK_take (i := 1) (v := ?_) rfl (by kernel_rfl) (by kernel_rfl) (by kernel_rfl) (by kernel_rfl) (.inl ⟨by rfl, ?_⟩) hHeld ?_
  rotate_left
  · (intro w hSw; (try dsimp only at hSw); go_split_ands; go_simp; (try with_reducible rfl))
  try simp only [Act.put, List.setIfInBounds_toArray, List.set_cons_zero, List.set_cons_succ]
  refine wpK_take (i := 2) (v := ?_) rfl (by kernel_rfl) (by kernel_rfl) (by kernel_rfl) (by kernel_rfl) (.inl ⟨by rfl, ?_⟩) hHeld ?_
  rotate_left
  · (intro w hSw; (try dsimp only at hSw); go_split_ands; go_simp; (try with_reducible rfl))
  try simp only [Act.put, List.setIfInBounds_toArray, List.set_cons_zero, List.set_cons_succ]
  refine wpK_take (i := 3) (v := ?_) rfl (by kernel_rfl) (by kernel_rfl) (by kernel_rfl) (by kernel_rfl) (.inl ⟨by rfl, ?_⟩) hHeld ?_
  rotate_left
  · (intro w hSw; (try dsimp only at hSw); go_split_ands; go_simp; (try with_reducible rfl))
  try simp only [Act.put, List.setIfInBounds_toArray, List.set_cons_zero, List.set_cons_succ]
  refine wpK_take (i := 4) (v := ?_) rfl (by kernel_rfl) (by kernel_rfl) (by kernel_rfl) (by kernel_rfl) (.inl ⟨by rfl, ?_⟩) hHeld ?_
  rotate_left
  · (intro w hSw; (try dsimp only at hSw); go_split_ands; go_simp; (try with_reducible rfl))
  try simp only [Act.put, List.setIfInBounds_toArray, List.set_cons_zero, List.set_cons_succ]
  refine wpK_take (i := 6) (v := ?_) rfl (by kernel_rfl) (by kernel_rfl) (by kernel_rfl) (by kernel_rfl) (.inl ⟨by rfl, ?_⟩) hHeld ?_
  rotate_left
  · (intro w hSw; (try dsimp only at hSw); go_split_ands; go_simp; (try with_reducible rfl))
  try simp only [Act.put, List.setIfInBounds_toArray, List.set_cons_zero, List.set_cons_succ]
  refine wpK_take (i := 7) (v := ?_) rfl (by kernel_rfl) (by kernel_rfl) (by kernel_rfl) (by kernel_rfl) (.inl ⟨by rfl, ?_⟩) hHeld ?_
  rotate_left
  · (intro w hSw; (try dsimp only at hSw); go_split_ands; go_simp; (try with_reducible rfl))
  try simp only [Act.put, List.setIfInBounds_toArray, List.set_cons_zero, List.set_cons_succ]
  refine wpK_take (i := 8) (v := ?_) rfl (by kernel_rfl) (by kernel_rfl) (by kernel_rfl) (by kernel_rfl) (.inl ⟨by rfl, ?_⟩) hHeld ?_
  rotate_left
  · (intro w hSw; (try dsimp only at hSw); go_split_ands; go_simp; (try with_reducible rfl))
  try simp only [Act.put, List.setIfInBounds_toArray, List.set_cons_zero, List.set_cons_succ]
  refine wpK_take (i := 9) (v := ?_) rfl (by kernel_rfl) (by kernel_rfl) (by kernel_rfl) (by kernel_rfl) (.inl ⟨by rfl, ?_⟩) hHeld ?_
  rotate_left
  · (intro w hSw; (try dsimp only at hSw); go_split_ands; go_simp; (try with_reducible rfl))
  try simp only [Act.put, List.setIfInBounds_toArray, List.set_cons_zero, List.set_cons_succ]
  refine wpK_one (i := 0) (by kernel_rfl) rfl (fun K hK => ?_)
  go_simp
  refine hK.out _ _ ?_ (fun hHeld => ?_)
  · exact ⟨cell_below ((Below.refl _ _).alloc (Nat.le_refl _) _) hHeld.1, cell_below ((Below.refl _ _).alloc (Nat.le_refl _) _) hHeld.2⟩
  clear hK K
  try simp only [Act.put, List.setIfInBounds_toArray, List.set_cons_zero, List.set_cons_succ]
  refine wpK_one (i := 5) (by kernel_rfl) rfl (fun K hK => ?_)
  refine step_append_s _ (by rfl) _ _ _ (by rfl) (M + 2) 9 i0 _ 1 16 Try.underlying23 hi0 hz0 hz1 hz2 rfl Nat.one_pos (.slice (some ⟨M + 2, 0, none⟩) 0 0) 0 [] (by rfl) own4 M ak x.l.length ck _ (by rfl) hrK' q4 q1 q2 q3 ?_
  intro A2 C2 w5 hownK5 hg5 hat5
  have o1 : some M ≠ (Value.slice (some ⟨M + 2, 0, none⟩) 0 0).ownBlock := fun e => by injection e with e; first | omega | (simp at e; done) | (simp at e; omega)
  have hB5 : Below M w w5 := (((hB1.alloc (by omega) (.cells #[] 9)).drew).grown hg5 (by show M ≤ (w1.alloc _).heap.size; simp; omega) (fun k e => by injection e with e; first | omega | (simp at e; done) | (simp at e; omega)))
  have hs5' : (w1.alloc (.cells #[] 9)).drew.heap.size = w1.heap.size + 1 := by show (w1.alloc _).heap.size = _; simp
  have hs5 : w1.heap.size + 1 ≤ w5.heap.size := by have := hg5.size; omega
  have bR5 := blk_grown (w := (w1.alloc (.cells #[] 9)).drew) (blk_alloc bR1 (.cells #[] 9)) hg5 (fun e => by injection e with e; first | omega | (simp at e; done) | (simp at e; omega))
  have hl5 : x.l = [] ∨ ∃ b o, Btw 0 w5.heap.size b ∧ a = some ⟨b, o, none⟩ ∧ IsVs w5 (Btw 0 w5.heap.size) x.l b o := hl.imp_right fun ⟨b, o, hb, ha, hx⟩ => ⟨b, o, ⟨Nat.zero_le _, by have := hb.2; omega⟩, ha, IsVs.keep (Btw.kept hB5) (Btw.mono (Nat.le_refl _) (by omega)) _ b o hb hx⟩
  refine hK.out _ _ ?_ (fun hHeld => ?_)
  · exact ⟨hg5.cell hHeld.1 o1, hg5.cell hHeld.2 o1⟩
  clear hK K
  try simp only [Act.put, List.setIfInBounds_toArray, List.set_cons_zero, List.set_cons_succ]
  refine wpK_one (i := 10) (by kernel_rfl) rfl (fun K hK => ?_)
  go_simp
  (with_reducible refine (plainPre_any x.l x.l.length hnl w5 a c hl88 hl5).mono ?_)
  rintro e w7 ⟨A3, C3, rfl, hC3, hB7', hL7⟩
  have bR7 := blk_below bR5 hB7'
  have q0 : w7.cell? ⟨M + 1, 0, none⟩ = some (.int .i64 0) := blk_c bR7 0 rfl
  have q1 : w7.cell? ⟨M + 1, 1, none⟩ = some (.string ⟨#[]⟩) := blk_c bR7 1 rfl
  have q2 : w7.cell? ⟨M + 1, 2, none⟩ = some (.slice none 0 0) := blk_c bR7 2 rfl
  have q3 : w7.cell? ⟨M + 1, 3, none⟩ = some (.slice none 0 0) := blk_c bR7 3 rfl
  have q4 : w7.cell? ⟨M + 1, 4, none⟩ = some (.int .i64 0) := blk_c bR7 4 rfl
  have q5 : w7.cell? ⟨M + 1, 5, none⟩ = some (.int .i64 0) := blk_c bR7 5 rfl
  have q6 : w7.cell? ⟨M + 1, 6, none⟩ = some (.float .f64 0) := blk_c bR7 6 rfl
  have q7 : w7.cell? ⟨M + 1, 7, none⟩ = some (.string ⟨#[]⟩) := blk_c bR7 7 rfl
  have q8 : w7.cell? ⟨M + 1, 8, none⟩ = some (.slice none 0 0) := blk_c bR7 8 rfl
  have q9 : w7.cell? ⟨M + 1, 9, none⟩ = some (.slice none 0 0) := blk_c bR7 9 rfl
  have q10 : w7.cell? ⟨M + 1, 10, none⟩ = some (.int .i64 0) := blk_c bR7 10 rfl
  have f0 := blk_frozen bR7 0
  have f1 := blk_frozen bR7 1
  have f2 := blk_frozen bR7 2
  have f3 := blk_frozen bR7 3
  have f4 := blk_frozen bR7 4
  have f5 := blk_frozen bR7 5
  have f6 := blk_frozen bR7 6
  have f7 := blk_frozen bR7 7
  have f8 := blk_frozen bR7 8
  have f9 := blk_frozen bR7 9
  have f10 := blk_frozen bR7 10
  refine hK.out _ _ ?_ (fun hHeld => ?_)
  · exact ⟨cell_below hB7' hHeld.1, cell_below hB7' hHeld.2⟩
  clear hK K
  try simp only [Act.put, List.setIfInBounds_toArray, List.set_cons_zero, List.set_cons_succ]
  refine wpK_take (i := 11) (v := ?_) rfl (by kernel_rfl) (by kernel_rfl) (by kernel_rfl) (by kernel_rfl) (.inl ⟨by rfl, ?_⟩) hHeld ?_
  rotate_left
  · (intro w hSw; (try dsimp only at hSw); go_split_ands; go_simp; (try with_reducible rfl))
  try simp only [Act.put, List.setIfInBounds_toArray, List.set_cons_zero, List.set_cons_succ]
  refine wpK_last (i := 12) (by kernel_rfl) (by kernel_rfl) rfl (fun K hK => ?_)
  go_simp
  refine hK.out _ _ ?_
  clear hK K
  try simp only [Act.put, List.setIfInBounds_toArray, List.set_cons_zero, List.set_cons_succ]
  refine wpK_done (by kernel_rfl) ?_ _
  have hB7 : Below M w w7 := hB5.trans (hB7'.mono (by omega))
  have hs7 : w5.heap.size ≤ w7.heap.size := hB7'.size
  have hown7 := own_below hownK5 hB7'
  have HF := Lib.hid (And.intro hkz (And.intro hown7 (And.intro hL7 (And.intro bR7 hB7))))
  clear hkz hown7 hL7 bR7 hB7 hB5 hB7' hownK5 hg5 hat5 bR5 hl5 hrK' hrK own4 hl bR1 bE1 c2 c3 hslK hslL q1 q2 q3 q4 hHeld hB1 HH o1
  go_wp2_with fail
  obtain ⟨hkz, hown7, hL7, bR7, hB7⟩ := HF.out
  rw [HM.out]
  simp only [Nat.zero_add, List.nil_append, Nat.mul_one] at hown7
  have hKlt : ∀ b, (Value.slice A2 x.l.length C2).ownBlock = some b → M + 2 ≤ b ∧ b < w7.heap.size := fun b e => hown7.lt b e
  have htk : (x.keys.take x.l.length).length = x.l.length := by rw [List.length_take]; omega
  have hks := IsStrs.of_own (S := Btw (M + 2) w7.heap.size) (ks := x.keys.take x.l.length) (base := M + 2) (v := .slice A2 x.l.length C2) (by rw [htk, List.map_take]; exact hown7) (fun b hb => hKlt b hb) (by rw [htk]; omega) (fun s hs => hkz s (List.mem_of_mem_take hs))
  have htl : (cleanL (x.l.take x.l.length)).length = x.l.length := by rw [cleanL_length, List.length_take]; omega
  have HE : IsE (st11 w7 (M + 1) (.int .i64 1) (.string ⟨#[]⟩) (.slice A2 x.l.length C2) (.slice A3 x.l.length C3) (.int .i64 0) (.int .i64 0) (.float .f64 0) (.string ⟨#[]⟩) (.slice none 0 0) (.slice none 0 0) (.int .i64 0)) (Btw M w7.heap.size) ⟨1, ByteArray.empty, x.keys.take x.l.length, cleanL (x.l.take x.l.length), gNull, 0⟩ (.agg #[.int .i64 1, .string ⟨#[]⟩, .slice A2 x.l.length C2, .slice A3 x.l.length C3, .int .i64 0, .int .i64 0, .float .f64 0, .string ⟨#[]⟩, .slice none 0 0, .slice none 0 0, .int .i64 0]) := by
    have hkp : ∀ b, Btw (M + 2) w7.heap.size b → (st11 w7 (M + 1) (.int .i64 1) (.string ⟨#[]⟩) (.slice A2 x.l.length C2) (.slice A3 x.l.length C3) (.int .i64 0) (.int .i64 0) (.float .f64 0) (.string ⟨#[]⟩) (.slice none 0 0) (.slice none 0 0) (.int .i64 0)).heap[b]? = w7.heap[b]? := fun b hb => st11_eq (by have := hb.1; omega)
    have hS : ∀ b, Btw (M + 2) w7.heap.size b → Btw M w7.heap.size b := Btw.mono (by omega) (Nat.le_refl _)
    refine isE_mk (by decide) (by decide) (by decide) (hks.keep hkp hS) (by rw [htl]; omega) ⟨A3, C3, by rw [htl], by rw [htl]; exact hC3, ?_⟩ isV_nil
    rcases hL7 with hx | ⟨b, o, hb, ha, hx⟩
    · exact .inl hx
    · exact .inr ⟨b, o, hS b ⟨by have := hb.1; omega, hb.2⟩, ha, IsVs.keep (S := Btw w5.heap.size w7.heap.size) (fun b hb => st11_eq (by have := hb.1; omega)) (Btw.mono (by omega) (Nat.le_refl _)) _ b o hb hx⟩
  have hblk := st11_blk (c0 := .int .i64 1) (c1 := .string ⟨#[]⟩) (c2 := .slice A2 x.l.length C2) (c3 := .slice A3 x.l.length C3) (c4 := .int .i64 0) (c5 := .int .i64 0) (c6 := .float .f64 0) (c7 := .string ⟨#[]⟩) (c8 := .slice none 0 0) (c9 := .slice none 0 0) (c10 := .int .i64 0) bR7
  have hsz : (st11 w7 (M + 1) (.int .i64 1) (.string ⟨#[]⟩) (.slice A2 x.l.length C2) (.slice A3 x.l.length C3) (.int .i64 0) (.int .i64 0) (.float .f64 0) (.string ⟨#[]⟩) (.slice none 0 0) (.slice none 0 0) (.int .i64 0)).heap.size = w7.heap.size := st11_size
  have hfin : IsE (st11 w7 (M + 1) (.int .i64 1) (.string ⟨#[]⟩) (.slice A2 x.l.length C2) (.slice A3 x.l.length C3) (.int .i64 0) (.int .i64 0) (.float .f64 0) (.string ⟨#[]⟩) (.slice none 0 0) (.slice none 0 0) (.int .i64 0)) (Btw M (st11 w7 (M + 1) (.int .i64 1) (.string ⟨#[]⟩) (.slice A2 x.l.length C2) (.slice A3 x.l.length C3) (.int .i64 0) (.int .i64 0) (.float .f64 0) (.string ⟨#[]⟩) (.slice none 0 0) (.slice none 0 0) (.int .i64 0)).heap.size) ⟨1, ByteArray.empty, x.keys.take x.l.length, cleanL (x.l.take x.l.length), gNull, 0⟩ (.agg #[.int .i64 1, .string ⟨#[]⟩, .slice A2 x.l.length C2, .slice A3 x.l.length C3, .int .i64 0, .int .i64 0, .float .f64 0, .string ⟨#[]⟩, .slice none 0 0, .slice none 0 0, .int .i64 0]) := by
    rw [hsz]
    exact HE
  have hBf : Below M w (st11 w7 (M + 1) (.int .i64 1) (.string ⟨#[]⟩) (.slice A2 x.l.length C2) (.slice A3 x.l.length C3) (.int .i64 0) (.int .i64 0) (.float .f64 0) (.string ⟨#[]⟩) (.slice none 0 0) (.slice none 0 0) (.int .i64 0)) := st11_below hB7 (by omega)
  refine bodyPost_ret (v := .agg #[.int .i64 1, .string ⟨#[]⟩, .slice A2 x.l.length C2, .slice A3 x.l.length C3, .int .i64 0, .int .i64 0, .float .f64 0, .string ⟨#[]⟩, .slice none 0 0, .slice none 0 0, .int .i64 0]) ?_ rfl ?_
  · have e0 := blk_c hblk 0 (u := .int .i64 1) rfl
    have e1 := blk_c hblk 1 (u := .string ⟨#[]⟩) rfl
    have e2 := blk_c hblk 2 (u := .slice A2 x.l.length C2) rfl
    have e3 := blk_c hblk 3 (u := .slice A3 x.l.length C3) rfl
    have e4 := blk_c hblk 4 (u := .int .i64 0) rfl
    have e5 := blk_c hblk 5 (u := .int .i64 0) rfl
    have e6 := blk_c hblk 6 (u := .float .f64 0) rfl
    have e7 := blk_c hblk 7 (u := .string ⟨#[]⟩) rfl
    have e8 := blk_c hblk 8 (u := .slice none 0 0) rfl
    have e9 := blk_c hblk 9 (u := .slice none 0 0) rfl
    have e10 := blk_c hblk 10 (u := .int .i64 0) rfl
    unfold st11 at e0 e1 e2 e3 e4 e5 e6 e7 e8 e9 e10
    simp [results, Try.results22, go_sem, e0, e1, e2, e3, e4, e5, e6, e7, e8, e9, e10]
  · unfold st11 at hfin hBf
    exact ⟨_, rfl, hBf, hfin⟩
set_option maxHeartbeats 1000000 in
set_option maxRecDepth 100000 in
theorem cleanE_key_ge (x : EV) (hkind : x.kind = 1) (hcmp : ¬ x.l.length < x.keys.length) (w : World) (v : Value) (hv : IsE w (Btw 0 w.heap.size) x v) :
    Calls Try.prog 22 #[v] w fun e w' => ∃ r, e = .returned r ∧ Below w.heap.size w w' ∧ IsE w' (Btw w.heap.size w'.heap.size) (cleanE x) r := by
  have ht : cleanE x = ⟨1, ByteArray.empty, x.keys.take x.keys.length, cleanL (x.l.take x.keys.length), gNull, 0⟩ := by simp [cleanE, hkind, Nat.min_eq_left (Nat.le_of_not_lt hcmp)]
  rw [ht]
  have hx := hv
  obtain ⟨ak, ck, a, c, a0, d0, a1, d1, rfl⟩ := hv.form
  clear hv
  rw [hkind] at *
  obtain ⟨i0, hi0, hz0, hz1, hz2⟩ := info_parts Try.infoStr
  obtain ⟨_, hkc, hk16, hkz, hrK⟩ := hx.rowK (hi := w.heap.size) (fun b hb => hb.2)
  obtain ⟨_, hlc, hl88, hl⟩ := hx.rowL
  have hnk : x.keys.length ≤ x.keys.length := by omega
  have hnl : x.keys.length ≤ x.l.length := by omega
  have HH := Lib.hid (And.intro hkz (And.intro hrK (And.intro hl (And.intro hk16 (And.intro hl88 (And.intro hnk (And.intro hnl (And.intro hkc hlc))))))))
  clear hkz hrK hl hx hk16 hl88 hnk hnl hkc hlc ht
  go_enter Try.func22, Try.ntmps22
  go_wp2_with fail
  obtain ⟨hkz, hrK, hl, hk16, hl88, hnk, hnl, hkc, hlc⟩ := HH.out
  have hB1 : Below w.heap.size w ((w.alloc (.cells #[.int .i64 1, .string x.s, .slice ak x.keys.length ck, .slice a x.l.length c, .int .i64 x.v.kind, .int .i64 x.v.n, .float .f64 x.v.f, .string x.v.s, .slice a0 x.v.keys.length d0, .slice a1 x.v.l.length d1, .int .i64 x.n] 33)).alloc (.cells #[.int .i64 0, .string ⟨#[]⟩, .slice none 0 0, .slice none 0 0, .int .i64 0, .int .i64 0, .float .f64 0, .string ⟨#[]⟩, .slice none 0 0, .slice none 0 0, .int .i64 0] 33)) := (((Below.refl w.heap.size w).alloc (Nat.le_refl _) (.cells #[.int .i64 1, .string x.s, .slice ak x.keys.length ck, .slice a x.l.length c, .int .i64 x.v.kind, .int .i64 x.v.n, .float .f64 x.v.f, .string x.v.s, .slice a0 x.v.keys.length d0, .slice a1 x.v.l.length d1, .int .i64 x.n] 33)).alloc (by simp) (.cells #[.int .i64 0, .string ⟨#[]⟩, .slice none 0 0, .slice none 0 0, .int .i64 0, .int .i64 0, .float .f64 0, .string ⟨#[]⟩, .slice none 0 0, .slice none 0 0, .int .i64 0] 33))
  have bR1 : ((w.alloc (.cells #[.int .i64 1, .string x.s, .slice ak x.keys.length ck, .slice a x.l.length c, .int .i64 x.v.kind, .int .i64 x.v.n, .float .f64 x.v.f, .string x.v.s, .slice a0 x.v.keys.length d0, .slice a1 x.v.l.length d1, .int .i64 x.n] 33)).alloc (.cells #[.int .i64 0, .string ⟨#[]⟩, .slice none 0 0, .slice none 0 0, .int .i64 0, .int .i64 0, .float .f64 0, .string ⟨#[]⟩, .slice none 0 0, .slice none 0 0, .int .i64 0] 33)).heap[w.heap.size + 1]? = some (.cells #[.int .i64 0, .string ⟨#[]⟩, .slice none 0 0, .slice none 0 0, .int .i64 0, .int .i64 0, .float .f64 0, .string ⟨#[]⟩, .slice none 0 0, .slice none 0 0, .int .i64 0] 33) := new_block (by simp)
  have bE1 : ((w.alloc (.cells #[.int .i64 1, .string x.s, .slice ak x.keys.length ck, .slice a x.l.length c, .int .i64 x.v.kind, .int .i64 x.v.n, .float .f64 x.v.f, .string x.v.s, .slice a0 x.v.keys.length d0, .slice a1 x.v.l.length d1, .int .i64 x.n] 33)).alloc (.cells #[.int .i64 0, .string ⟨#[]⟩, .slice none 0 0, .slice none 0 0, .int .i64 0, .int .i64 0, .float .f64 0, .string ⟨#[]⟩, .slice none 0 0, .slice none 0 0, .int .i64 0] 33)).heap[w.heap.size]? = some (.cells #[.int .i64 1, .string x.s, .slice ak x.keys.length ck, .slice a x.l.length c, .int .i64 x.v.kind, .int .i64 x.v.n, .float .f64 x.v.f, .string x.v.s, .slice a0 x.v.keys.length d0, .slice a1 x.v.l.length d1, .int .i64 x.n] 33) := blk_alloc (new_block rfl) _
  have hs1 : ((w.alloc (.cells #[.int .i64 1, .string x.s, .slice ak x.keys.length ck, .slice a x.l.length c, .int .i64 x.v.kind, .int .i64 x.v.n, .float .f64 x.v.f, .string x.v.s, .slice a0 x.v.keys.length d0, .slice a1 x.v.l.length d1, .int .i64 x.n] 33)).alloc (.cells #[.int .i64 0, .string ⟨#[]⟩, .slice none 0 0, .slice none 0 0, .int .i64 0, .int .i64 0, .float .f64 0, .string ⟨#[]⟩, .slice none 0 0, .slice none 0 0, .int .i64 0] 33)).heap.size = w.heap.size + 2 := by simp
  generalize ((w.alloc (.cells #[.int .i64 1, .string x.s, .slice ak x.keys.length ck, .slice a x.l.length c, .int .i64 x.v.kind, .int .i64 x.v.n, .float .f64 x.v.f, .string x.v.s, .slice a0 x.v.keys.length d0, .slice a1 x.v.l.length d1, .int .i64 x.n] 33)).alloc (.cells #[.int .i64 0, .string ⟨#[]⟩, .slice none 0 0, .slice none 0 0, .int .i64 0, .int .i64 0, .float .f64 0, .string ⟨#[]⟩, .slice none 0 0, .slice none 0 0, .int .i64 0] 33)) = w1 at *
  generalize hM : w.heap.size = M at *
  have HM := Lib.hid hM; clear hM
  have c2 : w1.cell? ⟨M, 2, none⟩ = some (.slice ak x.keys.length ck) := blk_c bE1 2 rfl
  have c3 : w1.cell? ⟨M, 3, none⟩ = some (.slice a x.l.length c) := blk_c bE1 3 rfl
  have hslK := @run_slice_pre Try.prog 23 9 ak x.keys.length ck x.keys.length 1 .i64 Try.underlying23 (fun _ => by kernel_rfl) (by omega)
  have hslL := @run_slice_pre Try.prog 24 26 a x.l.length c x.keys.length 6 .i64 Try.underlying24 (fun _ => by kernel_rfl) (by omega)
  have own4 := (World.ownsRow_made w1 (base := M + 2) (e := 9) (size := 1) #[] 0 (by omega) (by decide) rfl).drew
  rw [hs1] at own4
  have hrK' := (((hrK.below hB1).take_ hnk).alloc (by omega) (.cells #[] 9)).drew
  have q1 : 0 + x.keys.length ≤ maxLen := by unfold maxLen; omega
  have q2 : (0 + x.keys.length) * 16 ≤ 140737488355328 := by omega
  have q3 : M + 2 ≤ ((w1.alloc (.cells #[] 9)).drew).heap.size := by show M + 2 ≤ (w1.alloc _).heap.size; simp; omega
  have q4 : ∀ u ∈ ((x.keys.map Value.string).take (x.keys.length * 1)), u.oneCell' = true := ones_take strs_one
  have hs0 : w1.drew.heap.size = w1.heap.size := rfl
  refine wp_region_K (fun w' => w'.cell? ⟨M, 2, none⟩ = some (.slice ak x.keys.length ck) ∧ w'.cell? ⟨M, 3, none⟩ = some (.slice a x.l.length c)) [1, 2, 3, 4, 6, 7, 8, 9, 11] (by kernel_rfl) ?_ (fun hHeld => ?_)
  · exact ⟨c2, c3⟩
  refine wpK_take (i := 1) (v := ?_) rfl (by kernel_rfl) (by kernel_rfl) (by kernel_rfl) (by kernel_rfl) (.inl ⟨by rfl, ?_⟩) hHeld ?_
  rotate_left
  · (intro w hSw; (try dsimp only at hSw); go_split_ands; go_simp; (try with_reducible rfl))
  try simp only [Act.put, List.setIfInBounds_toArray, List.set_cons_zero, List.set_cons_succ]
  refine wpK_take (i := 2) (v := ?_) rfl (by kernel_rfl) (by kernel_rfl) (by kernel_rfl) (by kernel_rfl) (.inl ⟨by rfl, ?_⟩) hHeld ?_
  rotate_left
  · (intro w hSw; (try dsimp only at hSw); go_split_ands; go_simp; (try with_reducible rfl))
  try simp only [Act.put, List.setIfInBounds_toArray, List.set_cons_zero, List.set_cons_succ]
  refine wpK_take (i := 3) (v := ?_) rfl (by kernel_rfl) (by kernel_rfl) (by kernel_rfl) (by kernel_rfl) (.inl ⟨by rfl, ?_⟩) hHeld ?_
  rotate_left
  · (intro w hSw; (try dsimp only at hSw); go_split_ands; go_simp; (try with_reducible rfl))
  try simp only [Act.put, List.setIfInBounds_toArray, List.set_cons_zero, List.set_cons_succ]
  refine wpK_take (i := 4) (v := ?_) rfl (by kernel_rfl) (by kernel_rfl) (by kernel_rfl) (by kernel_rfl) (.inl ⟨by rfl, ?_⟩) hHeld ?_
  rotate_left
  · (intro w hSw; (try dsimp only at hSw); go_split_ands; go_simp; (try with_reducible rfl))
  try simp only [Act.put, List.setIfInBounds_toArray, List.set_cons_zero, List.set_cons_succ]
  refine wpK_take (i := 6) (v := ?_) rfl (by kernel_rfl) (by kernel_rfl) (by kernel_rfl) (by kernel_rfl) (.inl ⟨by rfl, ?_⟩) hHeld ?_
  rotate_left
  · (intro w hSw; (try dsimp only at hSw); go_split_ands; go_simp; (try with_reducible rfl))
  try simp only [Act.put, List.setIfInBounds_toArray, List.set_cons_zero, List.set_cons_succ]
  refine wpK_take (i := 7) (v := ?_) rfl (by kernel_rfl) (by kernel_rfl) (by kernel_rfl) (by kernel_rfl) (.inl ⟨by rfl, ?_⟩) hHeld ?_
  rotate_left
  · (intro w hSw; (try dsimp only at hSw); go_split_ands; go_simp; (try with_reducible rfl))
  try simp only [Act.put, List.setIfInBounds_toArray, List.set_cons_zero, List.set_cons_succ]
  refine wpK_take (i := 8) (v := ?_) rfl (by kernel_rfl) (by kernel_rfl) (by kernel_rfl) (by kernel_rfl) (.inl ⟨by rfl, ?_⟩) hHeld ?_
  rotate_left
  · (intro w hSw; (try dsimp only at hSw); go_split_ands; go_simp; (try with_reducible rfl))
  try simp only [Act.put, List.setIfInBounds_toArray, List.set_cons_zero, List.set_cons_succ]
  refine wpK_take (i := 9) (v := ?_) rfl (by kernel_rfl) (by kernel_rfl) (by kernel_rfl) (by kernel_rfl) (.inl ⟨by rfl, ?_⟩) hHeld ?_
  rotate_left
  · (intro w hSw; (try dsimp only at hSw); go_split_ands; go_simp; (try with_reducible rfl))
  try simp only [Act.put, List.setIfInBounds_toArray, List.set_cons_zero, List.set_cons_succ]
  refine wpK_one (i := 0) (by kernel_rfl) rfl (fun K hK => ?_)
  go_simp
  refine hK.out _ _ ?_ (fun hHeld => ?_)
  · exact ⟨cell_below ((Below.refl _ _).alloc (Nat.le_refl _) _) hHeld.1, cell_below ((Below.refl _ _).alloc (Nat.le_refl _) _) hHeld.2⟩
  clear hK K
  try simp only [Act.put, List.setIfInBounds_toArray, List.set_cons_zero, List.set_cons_succ]
  refine wpK_one (i := 5) (by kernel_rfl) rfl (fun K hK => ?_)
  refine step_append_s _ (by rfl) _ _ _ (by rfl) (M + 2) 9 i0 _ 1 16 Try.underlying23 hi0 hz0 hz1 hz2 rfl Nat.one_pos (.slice (some ⟨M + 2, 0, none⟩) 0 0) 0 [] (by rfl) own4 M ak x.keys.length ck _ (by rfl) hrK' q4 q1 q2 q3 ?_
  intro A2 C2 w5 hownK5 hg5 hat5
  have o1 : some M ≠ (Value.slice (some ⟨M + 2, 0, none⟩) 0 0).ownBlock := fun e => by injection e with e; first | omega | (simp at e; done) | (simp at e; omega)
  have hB5 : Below M w w5 := (((hB1.alloc (by omega) (.cells #[] 9)).drew).grown hg5 (by show M ≤ (w1.alloc _).heap.size; simp; omega) (fun k e => by injection e with e; first | omega | (simp at e; done) | (simp at e; omega)))
  have hs5' : (w1.alloc (.cells #[] 9)).drew.heap.size = w1.heap.size + 1 := by show (w1.alloc _).heap.size = _; simp
  have hs5 : w1.heap.size + 1 ≤ w5.heap.size := by have := hg5.size; omega
  have bR5 := blk_grown (w := (w1.alloc (.cells #[] 9)).drew) (blk_alloc bR1 (.cells #[] 9)) hg5 (fun e => by injection e with e; first | omega | (simp at e; done) | (simp at e; omega))
  have hl5 : x.l = [] ∨ ∃ b o, Btw 0 w5.heap.size b ∧ a = some ⟨b, o, none⟩ ∧ IsVs w5 (Btw 0 w5.heap.size) x.l b o := hl.imp_right fun ⟨b, o, hb, ha, hx⟩ => ⟨b, o, ⟨Nat.zero_le _, by have := hb.2; omega⟩, ha, IsVs.keep (Btw.kept hB5) (Btw.mono (Nat.le_refl _) (by omega)) _ b o hb hx⟩
  refine hK.out _ _ ?_ (fun hHeld => ?_)
  · exact ⟨hg5.cell hHeld.1 o1, hg5.cell hHeld.2 o1⟩
  clear hK K
  try simp only [Act.put, List.setIfInBounds_toArray, List.set_cons_zero, List.set_cons_succ]
  refine wpK_one (i := 10) (by kernel_rfl) rfl (fun K hK => ?_)
  go_simp
  (with_reducible refine (plainPre_any x.l x.keys.length hnl w5 a c hl88 hl5).mono ?_)
  rintro e w7 ⟨A3, C3, rfl, hC3, hB7', hL7⟩
  have bR7 := blk_below bR5 hB7'
  have q0 : w7.cell? ⟨M + 1, 0, none⟩ = some (.int .i64 0) := blk_c bR7 0 rfl
  have q1 : w7.cell? ⟨M + 1, 1, none⟩ = some (.string ⟨#[]⟩) := blk_c bR7 1 rfl
  have q2 : w7.cell? ⟨M + 1, 2, none⟩ = some (.slice none 0 0) := blk_c bR7 2 rfl
  have q3 : w7.cell? ⟨M + 1, 3, none⟩ = some (.slice none 0 0) := blk_c bR7 3 rfl
  have q4 : w7.cell? ⟨M + 1, 4, none⟩ = some (.int .i64 0) := blk_c bR7 4 rfl
  have q5 : w7.cell? ⟨M + 1, 5, none⟩ = some (.int .i64 0) := blk_c bR7 5 rfl
  have q6 : w7.cell? ⟨M + 1, 6, none⟩ = some (.float .f64 0) := blk_c bR7 6 rfl
  have q7 : w7.cell? ⟨M + 1, 7, none⟩ = some (.string ⟨#[]⟩) := blk_c bR7 7 rfl
  have q8 : w7.cell? ⟨M + 1, 8, none⟩ = some (.slice none 0 0) := blk_c bR7 8 rfl
  have q9 : w7.cell? ⟨M + 1, 9, none⟩ = some (.slice none 0 0) := blk_c bR7 9 rfl
  have q10 : w7.cell? ⟨M + 1, 10, none⟩ = some (.int .i64 0) := blk_c bR7 10 rfl
  have f0 := blk_frozen bR7 0
  have f1 := blk_frozen bR7 1
  have f2 := blk_frozen bR7 2
  have f3 := blk_frozen bR7 3
  have f4 := blk_frozen bR7 4
  have f5 := blk_frozen bR7 5
  have f6 := blk_frozen bR7 6
  have f7 := blk_frozen bR7 7
  have f8 := blk_frozen bR7 8
  have f9 := blk_frozen bR7 9
  have f10 := blk_frozen bR7 10
  refine hK.out _ _ ?_ (fun hHeld => ?_)
  · exact ⟨cell_below hB7' hHeld.1, cell_below hB7' hHeld.2⟩
  clear hK K
  try simp only [Act.put, List.setIfInBounds_toArray, List.set_cons_zero, List.set_cons_succ]
  refine wpK_take (i := 11) (v := ?_) rfl (by kernel_rfl) (by kernel_rfl) (by kernel_rfl) (by kernel_rfl) (.inl ⟨by rfl, ?_⟩) hHeld ?_
  rotate_left
  · (intro w hSw; (try dsimp only at hSw); go_split_ands; go_simp; (try with_reducible rfl))
  try simp only [Act.put, List.setIfInBounds_toArray, List.set_cons_zero, List.set_cons_succ]
  refine wpK_last (i := 12) (by kernel_rfl) (by kernel_rfl) rfl (fun K hK => ?_)
  go_simp
  refine hK.out _ _ ?_
  clear hK K
  try simp only [Act.put, List.setIfInBounds_toArray, List.set_cons_zero, List.set_cons_succ]
  refine wpK_done (by kernel_rfl) ?_ _
  have hB7 : Below M w w7 := hB5.trans (hB7'.mono (by omega))
  have hs7 : w5.heap.size ≤ w7.heap.size := hB7'.size
  have hown7 := own_below hownK5 hB7'
  have HF := Lib.hid (And.intro hkz (And.intro hown7 (And.intro hL7 (And.intro bR7 hB7))))
  clear hkz hown7 hL7 bR7 hB7 hB5 hB7' hownK5 hg5 hat5 bR5 hl5 hrK' hrK own4 hl bR1 bE1 c2 c3 hslK hslL q1 q2 q3 q4 hHeld hB1 HH o1
  go_wp2_with fail
  obtain ⟨hkz, hown7, hL7, bR7, hB7⟩ := HF.out
  rw [HM.out]
  simp only [Nat.zero_add, List.nil_append, Nat.mul_one] at hown7
  have hKlt : ∀ b, (Value.slice A2 x.keys.length C2).ownBlock = some b → M + 2 ≤ b ∧ b < w7.heap.size := fun b e => hown7.lt b e
  have htk : (x.keys.take x.keys.length).length = x.keys.length := by rw [List.length_take]; omega
  have hks := IsStrs.of_own (S := Btw (M + 2) w7.heap.size) (ks := x.keys.take x.keys.length) (base := M + 2) (v := .slice A2 x.keys.length C2) (by rw [htk, List.map_take]; exact hown7) (fun b hb => hKlt b hb) (by rw [htk]; omega) (fun s hs => hkz s (List.mem_of_mem_take hs))
  have htl : (cleanL (x.l.take x.keys.length)).length = x.keys.length := by rw [cleanL_length, List.length_take]; omega
  have HE : IsE (st11 w7 (M + 1) (.int .i64 1) (.string ⟨#[]⟩) (.slice A2 x.keys.length C2) (.slice A3 x.keys.length C3) (.int .i64 0) (.int .i64 0) (.float .f64 0) (.string ⟨#[]⟩) (.slice none 0 0) (.slice none 0 0) (.int .i64 0)) (Btw M w7.heap.size) ⟨1, ByteArray.empty, x.keys.take x.keys.length, cleanL (x.l.take x.keys.length), gNull, 0⟩ (.agg #[.int .i64 1, .string ⟨#[]⟩, .slice A2 x.keys.length C2, .slice A3 x.keys.length C3, .int .i64 0, .int .i64 0, .float .f64 0, .string ⟨#[]⟩, .slice none 0 0, .slice none 0 0, .int .i64 0]) := by
    have hkp : ∀ b, Btw (M + 2) w7.heap.size b → (st11 w7 (M + 1) (.int .i64 1) (.string ⟨#[]⟩) (.slice A2 x.keys.length C2) (.slice A3 x.keys.length C3) (.int .i64 0) (.int .i64 0) (.float .f64 0) (.string ⟨#[]⟩) (.slice none 0 0) (.slice none 0 0) (.int .i64 0)).heap[b]? = w7.heap[b]? := fun b hb => st11_eq (by have := hb.1; omega)
    have hS : ∀ b, Btw (M + 2) w7.heap.size b → Btw M w7.heap.size b := Btw.mono (by omega) (Nat.le_refl _)
    refine isE_mk (by decide) (by decide) (by decide) (hks.keep hkp hS) (by rw [htl]; omega) ⟨A3, C3, by rw [htl], by rw [htl]; exact hC3, ?_⟩ isV_nil
    rcases hL7 with hx | ⟨b, o, hb, ha, hx⟩
    · exact .inl hx
    · exact .inr ⟨b, o, hS b ⟨by have := hb.1; omega, hb.2⟩, ha, IsVs.keep (S := Btw w5.heap.size w7.heap.size) (fun b hb => st11_eq (by have := hb.1; omega)) (Btw.mono (by omega) (Nat.le_refl _)) _ b o hb hx⟩
  have hblk := st11_blk (c0 := .int .i64 1) (c1 := .string ⟨#[]⟩) (c2 := .slice A2 x.keys.length C2) (c3 := .slice A3 x.keys.length C3) (c4 := .int .i64 0) (c5 := .int .i64 0) (c6 := .float .f64 0) (c7 := .string ⟨#[]⟩) (c8 := .slice none 0 0) (c9 := .slice none 0 0) (c10 := .int .i64 0) bR7
  have hsz : (st11 w7 (M + 1) (.int .i64 1) (.string ⟨#[]⟩) (.slice A2 x.keys.length C2) (.slice A3 x.keys.length C3) (.int .i64 0) (.int .i64 0) (.float .f64 0) (.string ⟨#[]⟩) (.slice none 0 0) (.slice none 0 0) (.int .i64 0)).heap.size = w7.heap.size := st11_size
  have hfin : IsE (st11 w7 (M + 1) (.int .i64 1) (.string ⟨#[]⟩) (.slice A2 x.keys.length C2) (.slice A3 x.keys.length C3) (.int .i64 0) (.int .i64 0) (.float .f64 0) (.string ⟨#[]⟩) (.slice none 0 0) (.slice none 0 0) (.int .i64 0)) (Btw M (st11 w7 (M + 1) (.int .i64 1) (.string ⟨#[]⟩) (.slice A2 x.keys.length C2) (.slice A3 x.keys.length C3) (.int .i64 0) (.int .i64 0) (.float .f64 0) (.string ⟨#[]⟩) (.slice none 0 0) (.slice none 0 0) (.int .i64 0)).heap.size) ⟨1, ByteArray.empty, x.keys.take x.keys.length, cleanL (x.l.take x.keys.length), gNull, 0⟩ (.agg #[.int .i64 1, .string ⟨#[]⟩, .slice A2 x.keys.length C2, .slice A3 x.keys.length C3, .int .i64 0, .int .i64 0, .float .f64 0, .string ⟨#[]⟩, .slice none 0 0, .slice none 0 0, .int .i64 0]) := by
    rw [hsz]
    exact HE
  have hBf : Below M w (st11 w7 (M + 1) (.int .i64 1) (.string ⟨#[]⟩) (.slice A2 x.keys.length C2) (.slice A3 x.keys.length C3) (.int .i64 0) (.int .i64 0) (.float .f64 0) (.string ⟨#[]⟩) (.slice none 0 0) (.slice none 0 0) (.int .i64 0)) := st11_below hB7 (by omega)
  refine bodyPost_ret (v := .agg #[.int .i64 1, .string ⟨#[]⟩, .slice A2 x.keys.length C2, .slice A3 x.keys.length C3, .int .i64 0, .int .i64 0, .float .f64 0, .string ⟨#[]⟩, .slice none 0 0, .slice none 0 0, .int .i64 0]) ?_ rfl ?_
  · have e0 := blk_c hblk 0 (u := .int .i64 1) rfl
    have e1 := blk_c hblk 1 (u := .string ⟨#[]⟩) rfl
    have e2 := blk_c hblk 2 (u := .slice A2 x.keys.length C2) rfl
    have e3 := blk_c hblk 3 (u := .slice A3 x.keys.length C3) rfl
    have e4 := blk_c hblk 4 (u := .int .i64 0) rfl
    have e5 := blk_c hblk 5 (u := .int .i64 0) rfl
    have e6 := blk_c hblk 6 (u := .float .f64 0) rfl
    have e7 := blk_c hblk 7 (u := .string ⟨#[]⟩) rfl
    have e8 := blk_c hblk 8 (u := .slice none 0 0) rfl
    have e9 := blk_c hblk 9 (u := .slice none 0 0) rfl
    have e10 := blk_c hblk 10 (u := .int .i64 0) rfl
    unfold st11 at e0 e1 e2 e3 e4 e5 e6 e7 e8 e9 e10
    simp [results, Try.results22, go_sem, e0, e1, e2, e3, e4, e5, e6, e7, e8, e9, e10]
  · unfold st11 at hfin hBf
    exact ⟨_, rfl, hBf, hfin⟩

theorem cleanE_any (x : EV) (w : World) (v : Value) (hv : IsE w (Btw 0 w.heap.size) x v) :
    Calls Try.prog 22 #[v] w fun e w' => ∃ r, e = .returned r ∧ Below w.heap.size w w' ∧ IsE w' (Btw w.heap.size w'.heap.size) (cleanE x) r := by
  by_cases h1 : x.kind = 1
  · by_cases h : x.l.length < x.keys.length
    · exact cleanE_key_lt x h1 h w v hv
    · exact cleanE_key_ge x h1 h w v hv
  by_cases h2 : x.kind = 2
  · exact cleanE_val x h2 w v hv
  by_cases h3 : x.kind = 3
  · exact cleanE_idx x h3 w v hv
  exact cleanE_name x h1 h2 h3 w v hv
end Go.Proofs.Ytlghpcokbppkfaa
