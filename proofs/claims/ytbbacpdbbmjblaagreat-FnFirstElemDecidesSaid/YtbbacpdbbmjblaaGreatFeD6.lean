/- Part 6 of what the proof rests on. -/
import Derived.Test.YtbbacpdbbmjblaaGreatFeD3
import Derived.Test.YtbbacpdbbmjblaaGreatFeD4
import Derived.Test.YtbbacpdbbmjblaaGreatFeD5
section
namespace Go.Proofs.YtbbacpdbbmjblaaGreat
open Go.RowKit
set_option linter.unusedSimpArgs false
/-- An element's plain form. -/
def cleanE (x : EV) : EV :=
  if x.kind = 1 then ⟨1, ByteArray.empty, x.keys.take (min x.keys.length x.l.length), cleanL (x.l.take (min x.keys.length x.l.length)), gNull, 0⟩
  else if x.kind = 2 then ⟨2, ByteArray.empty, [], [], cleanV x.v, 0⟩ else if x.kind = 3 then ⟨3, ByteArray.empty, [], [], gNull, x.n⟩ else ⟨0, x.s, [], [], gNull, 0⟩
set_option maxHeartbeats 1000000 in
set_option maxRecDepth 100000 in
theorem cleanE_val (x : EV) (hkind : x.kind = 2) (w : World) (v : Value) (hv : IsE w (Btw 0 w.heap.size) x v) :
    Calls Tryz.prog 33 #[v] w fun e w' => ∃ r, e = .returned r ∧ Below w.heap.size w w' ∧ IsE w' (Btw w.heap.size w'.heap.size) (cleanE x) r := by
  have ht : cleanE x = ⟨2, ByteArray.empty, [], [], cleanV x.v, 0⟩ := by simp [cleanE, hkind]
  rw [ht]
  obtain ⟨ak, ck, a, c, a0, d0, a1, d1, rfl⟩ := hv.form
  rw [hkind] at *
  have hx := (hv.val.alloc_ (.cells #[.int .i64 2, .string x.s, .slice ak x.keys.length ck, .slice a x.l.length c, .int .i64 x.v.kind, .int .i64 x.v.n, .float .f64 x.v.f, .string x.v.s, .slice a0 x.v.keys.length d0, .slice a1 x.v.l.length d1, .int .i64 x.n] 29)).alloc_ (.cells #[.int .i64 0, .string ⟨#[]⟩, .slice none 0 0, .slice none 0 0, .int .i64 0, .int .i64 0, .float .f64 0, .string ⟨#[]⟩, .slice none 0 0, .slice none 0 0, .int .i64 0] 29)
  have hB0 := (((Below.refl w.heap.size w).alloc (Nat.le_refl _) (.cells #[.int .i64 2, .string x.s, .slice ak x.keys.length ck, .slice a x.l.length c, .int .i64 x.v.kind, .int .i64 x.v.n, .float .f64 x.v.f, .string x.v.s, .slice a0 x.v.keys.length d0, .slice a1 x.v.l.length d1, .int .i64 x.n] 29)).alloc (by simp) (.cells #[.int .i64 0, .string ⟨#[]⟩, .slice none 0 0, .slice none 0 0, .int .i64 0, .int .i64 0, .float .f64 0, .string ⟨#[]⟩, .slice none 0 0, .slice none 0 0, .int .i64 0] 29))
  have hR0 : ((w.alloc (.cells #[.int .i64 2, .string x.s, .slice ak x.keys.length ck, .slice a x.l.length c, .int .i64 x.v.kind, .int .i64 x.v.n, .float .f64 x.v.f, .string x.v.s, .slice a0 x.v.keys.length d0, .slice a1 x.v.l.length d1, .int .i64 x.n] 29)).alloc (.cells #[.int .i64 0, .string ⟨#[]⟩, .slice none 0 0, .slice none 0 0, .int .i64 0, .int .i64 0, .float .f64 0, .string ⟨#[]⟩, .slice none 0 0, .slice none 0 0, .int .i64 0] 29)).heap[w.heap.size + 1]? = some (.cells #[.int .i64 0, .string ⟨#[]⟩, .slice none 0 0, .slice none 0 0, .int .i64 0, .int .i64 0, .float .f64 0, .string ⟨#[]⟩, .slice none 0 0, .slice none 0 0, .int .i64 0] 29) := new_block (by simp)
  have HX := Lib.hid (And.intro hx (And.intro hB0 hR0))
  clear hv hx hB0 hR0
  have hc := clean_any x.v
  go_enter Tryz.func33, Tryz.ntmps33
  go_wp2_with (go_at_call 47; (with_reducible refine (hc.use _ _ ?_).mono ?_))
  · simpa using HX.out.1
  rintro e w2 r rfl hB2' hr'
  obtain ⟨_, hB0, hR0⟩ := HX.out
  have hB2 : Below ((w.alloc (.cells #[.int .i64 2, .string x.s, .slice ak x.keys.length ck, .slice a x.l.length c, .int .i64 x.v.kind, .int .i64 x.v.n, .float .f64 x.v.f, .string x.v.s, .slice a0 x.v.keys.length d0, .slice a1 x.v.l.length d1, .int .i64 x.n] 29)).alloc (.cells #[.int .i64 0, .string ⟨#[]⟩, .slice none 0 0, .slice none 0 0, .int .i64 0, .int .i64 0, .float .f64 0, .string ⟨#[]⟩, .slice none 0 0, .slice none 0 0, .int .i64 0] 29)).heap.size ((w.alloc (.cells #[.int .i64 2, .string x.s, .slice ak x.keys.length ck, .slice a x.l.length c, .int .i64 x.v.kind, .int .i64 x.v.n, .float .f64 x.v.f, .string x.v.s, .slice a0 x.v.keys.length d0, .slice a1 x.v.l.length d1, .int .i64 x.n] 29)).alloc (.cells #[.int .i64 0, .string ⟨#[]⟩, .slice none 0 0, .slice none 0 0, .int .i64 0, .int .i64 0, .float .f64 0, .string ⟨#[]⟩, .slice none 0 0, .slice none 0 0, .int .i64 0] 29)) w2 := by simpa using hB2'
  have hr : IsV w2 (Btw ((w.alloc (.cells #[.int .i64 2, .string x.s, .slice ak x.keys.length ck, .slice a x.l.length c, .int .i64 x.v.kind, .int .i64 x.v.n, .float .f64 x.v.f, .string x.v.s, .slice a0 x.v.keys.length d0, .slice a1 x.v.l.length d1, .int .i64 x.n] 29)).alloc (.cells #[.int .i64 0, .string ⟨#[]⟩, .slice none 0 0, .slice none 0 0, .int .i64 0, .int .i64 0, .float .f64 0, .string ⟨#[]⟩, .slice none 0 0, .slice none 0 0, .int .i64 0] 29)).heap.size w2.heap.size) (cleanV x.v) r := by simpa using hr'
  clear hB2' hr'
  obtain ⟨a2, d2, a3, d3, rfl⟩ := hr.form
  have hs2 : w.heap.size + 2 ≤ w2.heap.size := by have := hB2.size; simpa using this
  have hR := blk_below hR0 hB2
  have hB : Below w.heap.size w w2 := hB0.trans (hB2.mono (by simp; omega))
  have HR := Lib.hid (And.intro hR (hr.lo_ (lo' := w.heap.size + 2) (by simp)))
  have q0 : w2.cell? ⟨w.heap.size + 1, 0, none⟩ = some (.int .i64 0) := blk_c hR 0 rfl
  have q1 : w2.cell? ⟨w.heap.size + 1, 1, none⟩ = some (.string ⟨#[]⟩) := blk_c hR 1 rfl
  have q2 : w2.cell? ⟨w.heap.size + 1, 2, none⟩ = some (.slice none 0 0) := blk_c hR 2 rfl
  have q3 : w2.cell? ⟨w.heap.size + 1, 3, none⟩ = some (.slice none 0 0) := blk_c hR 3 rfl
  have q4 : w2.cell? ⟨w.heap.size + 1, 4, none⟩ = some (.int .i64 0) := blk_c hR 4 rfl
  have q5 : w2.cell? ⟨w.heap.size + 1, 5, none⟩ = some (.int .i64 0) := blk_c hR 5 rfl
  have q6 : w2.cell? ⟨w.heap.size + 1, 6, none⟩ = some (.float .f64 0) := blk_c hR 6 rfl
  have q7 : w2.cell? ⟨w.heap.size + 1, 7, none⟩ = some (.string ⟨#[]⟩) := blk_c hR 7 rfl
  have q8 : w2.cell? ⟨w.heap.size + 1, 8, none⟩ = some (.slice none 0 0) := blk_c hR 8 rfl
  have q9 : w2.cell? ⟨w.heap.size + 1, 9, none⟩ = some (.slice none 0 0) := blk_c hR 9 rfl
  have q10 : w2.cell? ⟨w.heap.size + 1, 10, none⟩ = some (.int .i64 0) := blk_c hR 10 rfl
  have f0 := blk_frozen hR 0
  have f1 := blk_frozen hR 1
  have f2 := blk_frozen hR 2
  have f3 := blk_frozen hR 3
  have f4 := blk_frozen hR 4
  have f5 := blk_frozen hR 5
  have f6 := blk_frozen hR 6
  have f7 := blk_frozen hR 7
  have f8 := blk_frozen hR 8
  have f9 := blk_frozen hR 9
  have f10 := blk_frozen hR 10
  clear hr hB2 hB0 hR0 hR HX hc
  go_wp2_with fail
  obtain ⟨hR, hr⟩ := HR.out
  have hblk := st11_blk (c0 := .int .i64 2) (c1 := .string ⟨#[]⟩) (c2 := .slice none 0 0) (c3 := .slice none 0 0) (c4 := .int .i64 (cleanV x.v).kind) (c5 := .int .i64 (cleanV x.v).n) (c6 := .float .f64 (cleanV x.v).f) (c7 := .string (cleanV x.v).s) (c8 := .slice a2 (cleanV x.v).keys.length d2) (c9 := .slice a3 (cleanV x.v).l.length d3) (c10 := .int .i64 0) hR
  have hsz : (st11 w2 (w.heap.size + 1) (.int .i64 2) (.string ⟨#[]⟩) (.slice none 0 0) (.slice none 0 0) (.int .i64 (cleanV x.v).kind) (.int .i64 (cleanV x.v).n) (.float .f64 (cleanV x.v).f) (.string (cleanV x.v).s) (.slice a2 (cleanV x.v).keys.length d2) (.slice a3 (cleanV x.v).l.length d3) (.int .i64 0)).heap.size = w2.heap.size := st11_size
  have hfin : IsE (st11 w2 (w.heap.size + 1) (.int .i64 2) (.string ⟨#[]⟩) (.slice none 0 0) (.slice none 0 0) (.int .i64 (cleanV x.v).kind) (.int .i64 (cleanV x.v).n) (.float .f64 (cleanV x.v).f) (.string (cleanV x.v).s) (.slice a2 (cleanV x.v).keys.length d2) (.slice a3 (cleanV x.v).l.length d3) (.int .i64 0)) (Btw w.heap.size (st11 w2 (w.heap.size + 1) (.int .i64 2) (.string ⟨#[]⟩) (.slice none 0 0) (.slice none 0 0) (.int .i64 (cleanV x.v).kind) (.int .i64 (cleanV x.v).n) (.float .f64 (cleanV x.v).f) (.string (cleanV x.v).s) (.slice a2 (cleanV x.v).keys.length d2) (.slice a3 (cleanV x.v).l.length d3) (.int .i64 0)).heap.size) ⟨2, ByteArray.empty, [], [], cleanV x.v, 0⟩ (.agg #[.int .i64 2, .string ⟨#[]⟩, .slice none 0 0, .slice none 0 0, .int .i64 (cleanV x.v).kind, .int .i64 (cleanV x.v).n, .float .f64 (cleanV x.v).f, .string (cleanV x.v).s, .slice a2 (cleanV x.v).keys.length d2, .slice a3 (cleanV x.v).l.length d3, .int .i64 0]) := by
    rw [hsz]
    exact isE_mk (l := []) (by decide) (by decide) (by decide) isStrs_nil (by decide) ⟨none, 0, rfl, Nat.le_refl _, .inl rfl⟩ (IsV.keep (S := Btw (w.heap.size + 2) w2.heap.size) (fun b hb => st11_eq (by have := hb.1; omega)) (Btw.mono (by omega) (Nat.le_refl _)) _ hr)
  have hBf : Below w.heap.size w (st11 w2 (w.heap.size + 1) (.int .i64 2) (.string ⟨#[]⟩) (.slice none 0 0) (.slice none 0 0) (.int .i64 (cleanV x.v).kind) (.int .i64 (cleanV x.v).n) (.float .f64 (cleanV x.v).f) (.string (cleanV x.v).s) (.slice a2 (cleanV x.v).keys.length d2) (.slice a3 (cleanV x.v).l.length d3) (.int .i64 0)) := st11_below hB (by omega)
  refine bodyPost_ret (v := .agg #[.int .i64 2, .string ⟨#[]⟩, .slice none 0 0, .slice none 0 0, .int .i64 (cleanV x.v).kind, .int .i64 (cleanV x.v).n, .float .f64 (cleanV x.v).f, .string (cleanV x.v).s, .slice a2 (cleanV x.v).keys.length d2, .slice a3 (cleanV x.v).l.length d3, .int .i64 0]) ?_ rfl ?_
  · have e0 := blk_c hblk 0 (u := .int .i64 2) rfl
    have e1 := blk_c hblk 1 (u := .string ⟨#[]⟩) rfl
    have e2 := blk_c hblk 2 (u := .slice none 0 0) rfl
    have e3 := blk_c hblk 3 (u := .slice none 0 0) rfl
    have e4 := blk_c hblk 4 (u := .int .i64 (cleanV x.v).kind) rfl
    have e5 := blk_c hblk 5 (u := .int .i64 (cleanV x.v).n) rfl
    have e6 := blk_c hblk 6 (u := .float .f64 (cleanV x.v).f) rfl
    have e7 := blk_c hblk 7 (u := .string (cleanV x.v).s) rfl
    have e8 := blk_c hblk 8 (u := .slice a2 (cleanV x.v).keys.length d2) rfl
    have e9 := blk_c hblk 9 (u := .slice a3 (cleanV x.v).l.length d3) rfl
    have e10 := blk_c hblk 10 (u := .int .i64 0) rfl
    unfold st11 at e0 e1 e2 e3 e4 e5 e6 e7 e8 e9 e10
    simp [results, Tryz.results33, go_sem, e0, e1, e2, e3, e4, e5, e6, e7, e8, e9, e10]
  · unfold st11 at hfin hBf
    exact ⟨_, rfl, hBf, hfin⟩
set_option maxHeartbeats 1000000 in
set_option maxRecDepth 100000 in
theorem cleanE_idx (x : EV) (hkind : x.kind = 3) (w : World) (v : Value) (hv : IsE w (Btw 0 w.heap.size) x v) :
    Calls Tryz.prog 33 #[v] w fun e w' => ∃ r, e = .returned r ∧ Below w.heap.size w w' ∧ IsE w' (Btw w.heap.size w'.heap.size) (cleanE x) r := by
  have ht : cleanE x = ⟨3, ByteArray.empty, [], [], gNull, x.n⟩ := by simp [cleanE, hkind]
  rw [ht]
  obtain ⟨ak, ck, a, c, a0, d0, a1, d1, rfl⟩ := hv.form
  have hz : (Lit.int .i64 x.n).wf = true := by obtain ⟨_, _, _, _, _, _, _, _, _, _, _, _, h, _⟩ := hv; exact h
  have HZ := Lib.hid hz
  clear hz ht hv
  rw [hkind]
  clear hkind
  go_enter Tryz.func33, Tryz.ntmps33
  go_wp2_with fail
  have hB : Below w.heap.size w ((w.alloc (.cells #[.int .i64 3, .string x.s, .slice ak x.keys.length ck, .slice a x.l.length c, .int .i64 x.v.kind, .int .i64 x.v.n, .float .f64 x.v.f, .string x.v.s, .slice a0 x.v.keys.length d0, .slice a1 x.v.l.length d1, .int .i64 x.n] 29)).alloc (.cells #[.int .i64 3, .string ⟨#[]⟩, .slice none 0 0, .slice none 0 0, .int .i64 0, .int .i64 0, .float .f64 0, .string ⟨#[]⟩, .slice none 0 0, .slice none 0 0, .int .i64 x.n] 29)) := ((Below.refl _ _).alloc (Nat.le_refl _) (.cells #[.int .i64 3, .string x.s, .slice ak x.keys.length ck, .slice a x.l.length c, .int .i64 x.v.kind, .int .i64 x.v.n, .float .f64 x.v.f, .string x.v.s, .slice a0 x.v.keys.length d0, .slice a1 x.v.l.length d1, .int .i64 x.n] 29)).alloc (by simp) (.cells #[.int .i64 3, .string ⟨#[]⟩, .slice none 0 0, .slice none 0 0, .int .i64 0, .int .i64 0, .float .f64 0, .string ⟨#[]⟩, .slice none 0 0, .slice none 0 0, .int .i64 x.n] 29)
  have hblk : ((w.alloc (.cells #[.int .i64 3, .string x.s, .slice ak x.keys.length ck, .slice a x.l.length c, .int .i64 x.v.kind, .int .i64 x.v.n, .float .f64 x.v.f, .string x.v.s, .slice a0 x.v.keys.length d0, .slice a1 x.v.l.length d1, .int .i64 x.n] 29)).alloc (.cells #[.int .i64 3, .string ⟨#[]⟩, .slice none 0 0, .slice none 0 0, .int .i64 0, .int .i64 0, .float .f64 0, .string ⟨#[]⟩, .slice none 0 0, .slice none 0 0, .int .i64 x.n] 29)).heap[w.heap.size + 1]? = some (.cells #[.int .i64 3, .string ⟨#[]⟩, .slice none 0 0, .slice none 0 0, .int .i64 0, .int .i64 0, .float .f64 0, .string ⟨#[]⟩, .slice none 0 0, .slice none 0 0, .int .i64 x.n] 29) := new_block (by simp)
  refine bodyPost_ret (v := .agg #[.int .i64 3, .string ⟨#[]⟩, .slice none 0 0, .slice none 0 0, .int .i64 0, .int .i64 0, .float .f64 0, .string ⟨#[]⟩, .slice none 0 0, .slice none 0 0, .int .i64 x.n]) ?_ rfl ?_
  · have e0 := blk_c hblk 0 (u := .int .i64 3) rfl
    have e1 := blk_c hblk 1 (u := .string ⟨#[]⟩) rfl
    have e2 := blk_c hblk 2 (u := .slice none 0 0) rfl
    have e3 := blk_c hblk 3 (u := .slice none 0 0) rfl
    have e4 := blk_c hblk 4 (u := .int .i64 0) rfl
    have e5 := blk_c hblk 5 (u := .int .i64 0) rfl
    have e6 := blk_c hblk 6 (u := .float .f64 0) rfl
    have e7 := blk_c hblk 7 (u := .string ⟨#[]⟩) rfl
    have e8 := blk_c hblk 8 (u := .slice none 0 0) rfl
    have e9 := blk_c hblk 9 (u := .slice none 0 0) rfl
    have e10 := blk_c hblk 10 (u := .int .i64 x.n) rfl
    simp [results, Tryz.results33, go_sem, e0, e1, e2, e3, e4, e5, e6, e7, e8, e9, e10]
  · exact ⟨_, rfl, hB, isE_mk (l := []) (by decide) HZ.out (by decide) isStrs_nil (by decide) ⟨none, 0, rfl, Nat.le_refl _, .inl rfl⟩ isV_nil⟩
set_option maxHeartbeats 1000000 in
set_option maxRecDepth 100000 in
theorem cleanE_name (x : EV) (h1 : x.kind ≠ 1) (h2 : x.kind ≠ 2) (h3 : x.kind ≠ 3) (w : World) (v : Value) (hv : IsE w (Btw 0 w.heap.size) x v) :
    Calls Tryz.prog 33 #[v] w fun e w' => ∃ r, e = .returned r ∧ Below w.heap.size w w' ∧ IsE w' (Btw w.heap.size w'.heap.size) (cleanE x) r := by
  have ht : cleanE x = ⟨0, x.s, [], [], gNull, 0⟩ := by simp [cleanE, h1, h2, h3]
  rw [ht]
  obtain ⟨ak, ck, a, c, a0, d0, a1, d1, rfl⟩ := hv.form
  have hz : x.s.size ≤ maxLen := by obtain ⟨_, _, _, _, _, _, _, _, _, _, _, _, _, h, _⟩ := hv; exact h
  have HZ := Lib.hid hz
  clear hz ht hv
  have k1 : (x.kind == 1) = false := by simp [h1]
  have k2 : (x.kind == 2) = false := by simp [h2]
  have k3 : (x.kind == 3) = false := by simp [h3]
  go_enter Tryz.func33, Tryz.ntmps33
  go_wp2_with fail
  have hB : Below w.heap.size w ((w.alloc (.cells #[.int .i64 x.kind, .string x.s, .slice ak x.keys.length ck, .slice a x.l.length c, .int .i64 x.v.kind, .int .i64 x.v.n, .float .f64 x.v.f, .string x.v.s, .slice a0 x.v.keys.length d0, .slice a1 x.v.l.length d1, .int .i64 x.n] 29)).alloc (.cells #[.int .i64 0, .string x.s, .slice none 0 0, .slice none 0 0, .int .i64 0, .int .i64 0, .float .f64 0, .string ⟨#[]⟩, .slice none 0 0, .slice none 0 0, .int .i64 0] 29)) := ((Below.refl _ _).alloc (Nat.le_refl _) (.cells #[.int .i64 x.kind, .string x.s, .slice ak x.keys.length ck, .slice a x.l.length c, .int .i64 x.v.kind, .int .i64 x.v.n, .float .f64 x.v.f, .string x.v.s, .slice a0 x.v.keys.length d0, .slice a1 x.v.l.length d1, .int .i64 x.n] 29)).alloc (by simp) (.cells #[.int .i64 0, .string x.s, .slice none 0 0, .slice none 0 0, .int .i64 0, .int .i64 0, .float .f64 0, .string ⟨#[]⟩, .slice none 0 0, .slice none 0 0, .int .i64 0] 29)
  have hblk : ((w.alloc (.cells #[.int .i64 x.kind, .string x.s, .slice ak x.keys.length ck, .slice a x.l.length c, .int .i64 x.v.kind, .int .i64 x.v.n, .float .f64 x.v.f, .string x.v.s, .slice a0 x.v.keys.length d0, .slice a1 x.v.l.length d1, .int .i64 x.n] 29)).alloc (.cells #[.int .i64 0, .string x.s, .slice none 0 0, .slice none 0 0, .int .i64 0, .int .i64 0, .float .f64 0, .string ⟨#[]⟩, .slice none 0 0, .slice none 0 0, .int .i64 0] 29)).heap[w.heap.size + 1]? = some (.cells #[.int .i64 0, .string x.s, .slice none 0 0, .slice none 0 0, .int .i64 0, .int .i64 0, .float .f64 0, .string ⟨#[]⟩, .slice none 0 0, .slice none 0 0, .int .i64 0] 29) := new_block (by simp)
  refine bodyPost_ret (v := .agg #[.int .i64 0, .string x.s, .slice none 0 0, .slice none 0 0, .int .i64 0, .int .i64 0, .float .f64 0, .string ⟨#[]⟩, .slice none 0 0, .slice none 0 0, .int .i64 0]) ?_ rfl ?_
  · have e0 := blk_c hblk 0 (u := .int .i64 0) rfl
    have e1 := blk_c hblk 1 (u := .string x.s) rfl
    have e2 := blk_c hblk 2 (u := .slice none 0 0) rfl
    have e3 := blk_c hblk 3 (u := .slice none 0 0) rfl
    have e4 := blk_c hblk 4 (u := .int .i64 0) rfl
    have e5 := blk_c hblk 5 (u := .int .i64 0) rfl
    have e6 := blk_c hblk 6 (u := .float .f64 0) rfl
    have e7 := blk_c hblk 7 (u := .string ⟨#[]⟩) rfl
    have e8 := blk_c hblk 8 (u := .slice none 0 0) rfl
    have e9 := blk_c hblk 9 (u := .slice none 0 0) rfl
    have e10 := blk_c hblk 10 (u := .int .i64 0) rfl
    simp [results, Tryz.results33, go_sem, e0, e1, e2, e3, e4, e5, e6, e7, e8, e9, e10]
  · exact ⟨_, rfl, hB, isE_mk (l := []) (by decide) (by decide) HZ.out isStrs_nil (by decide) ⟨none, 0, rfl, Nat.le_refl _, .inl rfl⟩ isV_nil⟩
theorem IsVs.take {w : World} {S : Nat → Prop} : ∀ {l : List GV} {b o : Nat} (n : Nat), IsVs w S l b o → IsVs w S (l.take n) b o
  | [], _, _, n, _ => by simp [IsVs]
  | x :: r, b, o, 0, _ => by simp [IsVs]
  | x :: r, b, o, n + 1, h => by
    unfold IsVs at h
    simp only [List.take_succ_cons]
    unfold IsVs
    exact ⟨h.1, h.2.take n⟩
theorem plainPre_any (l : List GV) (n : Nat) (hn : n ≤ l.length) (w : World) (a : Option Addr) (c : Nat) (h6 : l.length * 88 ≤ 140737488351232) (h7 : l = [] ∨ ∃ b o, Btw 0 w.heap.size b ∧ a = some ⟨b, o, none⟩ ∧ IsVs w (Btw 0 w.heap.size) l b o) :
    Calls Tryz.prog 69 #[.slice a n c] w fun e w' => ∃ A C, e = .returned (.slice A n C) ∧ n ≤ C ∧ Below w.heap.size w w' ∧
      (cleanL (l.take n) = [] ∨ ∃ b o, Btw w.heap.size w'.heap.size b ∧ A = some ⟨b, o, none⟩ ∧ IsVs w' (Btw w.heap.size w'.heap.size) (cleanL (l.take n)) b o) := by
  have hl : (l.take n).length = n := by simp; omega
  have h := plainList_any (l.take n) (fun y _ => clean_any y) w a c (by rw [hl]; omega) (by
    rcases h7 with rfl | ⟨b, o, hb, ha, hx⟩
    · exact .inl (by simp)
    · exact .inr ⟨b, o, hb, ha, hx.take n⟩)
  rw [hl] at h
  refine h.mono fun e w' => ?_
  rintro ⟨A, C, he, hC, hB, hx⟩
  refine ⟨A, C, he, hC, hB, hx.imp_left fun e => by rw [e]; simp [cleanL]⟩
theorem IsE.rowK {w : World} {S : Nat → Prop} {x : EV} {c0 c1 c3 d0 d1 d2 d3 d4 d5 d6 : Value} {a : Option Addr} {m c : Nat} (h : IsE w S x (.agg #[c0, c1, .slice a m c, c3, d0, d1, d2, d3, d4, d5, d6])) {hi : Nat} (hS : ∀ b, S b → b < hi) :
    m = x.keys.length ∧ x.keys.length ≤ c ∧ x.keys.length * 16 ≤ 140737488351232 ∧ (∀ s ∈ x.keys, s.size ≤ maxLen) ∧ Reads w hi 1 a x.keys.length (x.keys.map .string) := by
  obtain ⟨ak, ck, a', c', e0, e1, e2, e3, e4, e5, e, _, _, _, hk, _⟩ := h
  injection e with e
  injection e with e
  simp only [List.cons.injEq, and_true] at e
  obtain ⟨_, _, e, _⟩ := e
  rw [← e] at hk
  obtain ⟨hn, hr⟩ := hk.reads hS
  obtain ⟨a'', c'', e', hle, hl, hz, _⟩ := hk
  injection e' with q1 q2 q3
  subst q3
  exact ⟨hn, hle, hl, hz, hr⟩
theorem IsE.rowL {w : World} {S : Nat → Prop} {x : EV} {c0 c1 c2 d0 d1 d2 d3 d4 d5 d6 : Value} {a : Option Addr} {m c : Nat} (h : IsE w S x (.agg #[c0, c1, c2, .slice a m c, d0, d1, d2, d3, d4, d5, d6])) :
    m = x.l.length ∧ x.l.length ≤ c ∧ x.l.length * 88 ≤ 140737488351232 ∧ (x.l = [] ∨ ∃ b o, S b ∧ a = some ⟨b, o, none⟩ ∧ IsVs w S x.l b o) := by
  obtain ⟨ak, ck, a', c', e0, e1, e2, e3, e4, e5, e, _, _, _, _, hc, hl, hv, _⟩ := h
  injection e with e
  injection e with e
  simp only [List.cons.injEq, and_true] at e
  obtain ⟨_, _, _, e, _⟩ := e
  injection e with q1 q2 q3
  subst q1 q2 q3
  exact ⟨rfl, hc, hl, hv⟩
set_option maxHeartbeats 1000000 in
set_option maxRecDepth 100000 in
theorem cleanE_key_lt (x : EV) (hkind : x.kind = 1) (hcmp : x.l.length < x.keys.length) (w : World) (v : Value) (hv : IsE w (Btw 0 w.heap.size) x v) :
    Calls Tryz.prog 33 #[v] w fun e w' => ∃ r, e = .returned r ∧ Below w.heap.size w w' ∧ IsE w' (Btw w.heap.size w'.heap.size) (cleanE x) r := by
  have ht : cleanE x = ⟨1, ByteArray.empty, x.keys.take x.l.length, cleanL (x.l.take x.l.length), gNull, 0⟩ := by simp [cleanE, hkind, Nat.min_eq_right (Nat.le_of_lt hcmp)]
  rw [ht]
  have hx := hv
  obtain ⟨ak, ck, a, c, a0, d0, a1, d1, rfl⟩ := hv.form
  clear hv
  rw [hkind] at *
  obtain ⟨i0, hi0, hz0, hz1, hz2⟩ := info_parts Tryz.infoStr
  obtain ⟨_, hkc, hk16, hkz, hrK⟩ := hx.rowK (hi := w.heap.size) (fun b hb => hb.2)
  obtain ⟨_, hlc, hl88, hl⟩ := hx.rowL
  have hnk : x.l.length ≤ x.keys.length := by omega
  have hnl : x.l.length ≤ x.l.length := by omega
  have HH := Lib.hid (And.intro hkz (And.intro hrK (And.intro hl (And.intro hk16 (And.intro hl88 (And.intro hnk (And.intro hnl (And.intro hkc hlc))))))))
  clear hkz hrK hl hx hk16 hl88 hnk hnl hkc hlc ht
  go_enter Tryz.func33, Tryz.ntmps33
  go_wp2_with fail
  obtain ⟨hkz, hrK, hl, hk16, hl88, hnk, hnl, hkc, hlc⟩ := HH.out
  have hB1 : Below w.heap.size w ((w.alloc (.cells #[.int .i64 1, .string x.s, .slice ak x.keys.length ck, .slice a x.l.length c, .int .i64 x.v.kind, .int .i64 x.v.n, .float .f64 x.v.f, .string x.v.s, .slice a0 x.v.keys.length d0, .slice a1 x.v.l.length d1, .int .i64 x.n] 29)).alloc (.cells #[.int .i64 0, .string ⟨#[]⟩, .slice none 0 0, .slice none 0 0, .int .i64 0, .int .i64 0, .float .f64 0, .string ⟨#[]⟩, .slice none 0 0, .slice none 0 0, .int .i64 0] 29)) := (((Below.refl w.heap.size w).alloc (Nat.le_refl _) (.cells #[.int .i64 1, .string x.s, .slice ak x.keys.length ck, .slice a x.l.length c, .int .i64 x.v.kind, .int .i64 x.v.n, .float .f64 x.v.f, .string x.v.s, .slice a0 x.v.keys.length d0, .slice a1 x.v.l.length d1, .int .i64 x.n] 29)).alloc (by simp) (.cells #[.int .i64 0, .string ⟨#[]⟩, .slice none 0 0, .slice none 0 0, .int .i64 0, .int .i64 0, .float .f64 0, .string ⟨#[]⟩, .slice none 0 0, .slice none 0 0, .int .i64 0] 29))
  have bR1 : ((w.alloc (.cells #[.int .i64 1, .string x.s, .slice ak x.keys.length ck, .slice a x.l.length c, .int .i64 x.v.kind, .int .i64 x.v.n, .float .f64 x.v.f, .string x.v.s, .slice a0 x.v.keys.length d0, .slice a1 x.v.l.length d1, .int .i64 x.n] 29)).alloc (.cells #[.int .i64 0, .string ⟨#[]⟩, .slice none 0 0, .slice none 0 0, .int .i64 0, .int .i64 0, .float .f64 0, .string ⟨#[]⟩, .slice none 0 0, .slice none 0 0, .int .i64 0] 29)).heap[w.heap.size + 1]? = some (.cells #[.int .i64 0, .string ⟨#[]⟩, .slice none 0 0, .slice none 0 0, .int .i64 0, .int .i64 0, .float .f64 0, .string ⟨#[]⟩, .slice none 0 0, .slice none 0 0, .int .i64 0] 29) := new_block (by simp)
  have bE1 : ((w.alloc (.cells #[.int .i64 1, .string x.s, .slice ak x.keys.length ck, .slice a x.l.length c, .int .i64 x.v.kind, .int .i64 x.v.n, .float .f64 x.v.f, .string x.v.s, .slice a0 x.v.keys.length d0, .slice a1 x.v.l.length d1, .int .i64 x.n] 29)).alloc (.cells #[.int .i64 0, .string ⟨#[]⟩, .slice none 0 0, .slice none 0 0, .int .i64 0, .int .i64 0, .float .f64 0, .string ⟨#[]⟩, .slice none 0 0, .slice none 0 0, .int .i64 0] 29)).heap[w.heap.size]? = some (.cells #[.int .i64 1, .string x.s, .slice ak x.keys.length ck, .slice a x.l.length c, .int .i64 x.v.kind, .int .i64 x.v.n, .float .f64 x.v.f, .string x.v.s, .slice a0 x.v.keys.length d0, .slice a1 x.v.l.length d1, .int .i64 x.n] 29) := blk_alloc (new_block rfl) _
  have hs1 : ((w.alloc (.cells #[.int .i64 1, .string x.s, .slice ak x.keys.length ck, .slice a x.l.length c, .int .i64 x.v.kind, .int .i64 x.v.n, .float .f64 x.v.f, .string x.v.s, .slice a0 x.v.keys.length d0, .slice a1 x.v.l.length d1, .int .i64 x.n] 29)).alloc (.cells #[.int .i64 0, .string ⟨#[]⟩, .slice none 0 0, .slice none 0 0, .int .i64 0, .int .i64 0, .float .f64 0, .string ⟨#[]⟩, .slice none 0 0, .slice none 0 0, .int .i64 0] 29)).heap.size = w.heap.size + 2 := by simp
  generalize ((w.alloc (.cells #[.int .i64 1, .string x.s, .slice ak x.keys.length ck, .slice a x.l.length c, .int .i64 x.v.kind, .int .i64 x.v.n, .float .f64 x.v.f, .string x.v.s, .slice a0 x.v.keys.length d0, .slice a1 x.v.l.length d1, .int .i64 x.n] 29)).alloc (.cells #[.int .i64 0, .string ⟨#[]⟩, .slice none 0 0, .slice none 0 0, .int .i64 0, .int .i64 0, .float .f64 0, .string ⟨#[]⟩, .slice none 0 0, .slice none 0 0, .int .i64 0] 29)) = w1 at *
  generalize hM : w.heap.size = M at *
  have HM := Lib.hid hM; clear hM
  have c2 : w1.cell? ⟨M, 2, none⟩ = some (.slice ak x.keys.length ck) := blk_c bE1 2 rfl
  have c3 : w1.cell? ⟨M, 3, none⟩ = some (.slice a x.l.length c) := blk_c bE1 3 rfl
  have hslK := @run_slice_pre Tryz.prog 23 9 ak x.keys.length ck x.l.length 1 .i64 Tryz.underlying23 (fun _ => by kernel_rfl) (by omega)
  have hslL := @run_slice_pre Tryz.prog 24 27 a x.l.length c x.l.length 6 .i64 Tryz.underlying24 (fun _ => by kernel_rfl) (by omega)
  have own4 := (World.ownsRow_made w1 (base := M + 2) (e := 9) (size := 1) #[] 0 (by omega) (by decide) rfl).drew
  rw [hs1] at own4
  have hrK' := (((hrK.below hB1).take_ hnk).alloc (by omega) (.cells #[] 9)).drew
  have q1 : 0 + x.l.length ≤ maxLen := by unfold maxLen; omega
  have q2 : (0 + x.l.length) * 16 ≤ 140737488355328 := by omega
  have q3 : M + 2 ≤ ((w1.alloc (.cells #[] 9)).drew).heap.size := by show M + 2 ≤ (w1.alloc _).heap.size; simp; omega
  have q4 : ∀ u ∈ ((x.keys.map Value.string).take (x.l.length * 1)), u.oneCell' = true := ones_take strs_one
  have hs0 : w1.drew.heap.size = w1.heap.size := rfl
  refine wp_region_K (fun w' => w'.cell? ⟨M, 2, none⟩ = some (.slice ak x.keys.length ck) ∧ w'.cell? ⟨M, 3, none⟩ = some (.slice a x.l.length c)) [1, 2, 3, 4, 6, 7, 8, 9, 11] (by kernel_rfl) ?_ (fun hHeld => ?_)
  · exact ⟨c2, c3⟩
  refine wpK_take (i := 1) (v := ?_) rfl (by kernel_rfl) (by kernel_rfl) (by kernel_rfl) (by kernel_rfl) (.inl ⟨by rfl, ?_⟩) hHeld ?_
  rotate_left
  · (intro w hSw; (try dsimp only at hSw); go_split_ands; go_simp; (try with_reducible rfl))
  try simp only [Act.put, List.setIfInBounds_toArray, List.set_cons_zero, List.set_cons_succ]
  refine wpK_take (i := 2) (v := ?_) rfl (by kernel_rfl) (by kernel_rfl) (by kernel_rfl) (by kernel_rfl) (.inl ⟨by rfl, ?_⟩) hHeld ?_
  rotate_left
  · (intro w hSw; (try dsimp only at hSw); go_split_ands; go_simp; (try with_reducible rfl))
  try simp only [Act.put, List.setIfInBounds_toArray, List.set_cons_zero, List.set_cons_succ]
  refine wpK_take (i := 3) (v := ?_) rfl (by kernel_rfl) (by kernel_rfl) (by kernel_rfl) (by kernel_rfl) (.inl ⟨by rfl, ?_⟩) hHeld ?_
  rotate_left
  · (intro w hSw; (try dsimp only at hSw); go_split_ands; go_simp; (try with_reducible rfl))
  try simp only [Act.put, List.setIfInBounds_toArray, List.set_cons_zero, List.set_cons_succ]
  refine wpK_take (i := 4) (v := ?_) rfl (by kernel_rfl) (by kernel_rfl) (by kernel_rfl) (by kernel_rfl) (.inl ⟨by rfl, ?_⟩) hHeld ?_
  rotate_left
  · (intro w hSw; (try dsimp only at hSw); go_split_ands; go_simp; (try with_reducible rfl))
  try simp only [Act.put, List.setIfInBounds_toArray, List.set_cons_zero, List.set_cons_succ]
  refine wpK_take (i := 6) (v := ?_) rfl (by kernel_rfl) (by kernel_rfl) (by kernel_rfl) (by kernel_rfl) (.inl ⟨by rfl, ?_⟩) hHeld ?_
  rotate_left
  · (intro w hSw; (try dsimp only at hSw); go_split_ands; go_simp; (try with_reducible rfl))
  try simp only [Act.put, List.setIfInBounds_toArray, List.set_cons_zero, List.set_cons_succ]
  refine wpK_take (i := 7) (v := ?_) rfl (by kernel_rfl) (by kernel_rfl) (by kernel_rfl) (by kernel_rfl) (.inl ⟨by rfl, ?_⟩) hHeld ?_
  rotate_left
  · (intro w hSw; (try dsimp only at hSw); go_split_ands; go_simp; (try with_reducible rfl))
  try simp only [Act.put, List.setIfInBounds_toArray, List.set_cons_zero, List.set_cons_succ]
  refine wpK_take (i := 8) (v := ?_) rfl (by kernel_rfl) (by kernel_rfl) (by kernel_rfl) (by kernel_rfl) (.inl ⟨by rfl, ?_⟩) hHeld ?_
  rotate_left
  · (intro w hSw; (try dsimp only at hSw); go_split_ands; go_simp; (try with_reducible rfl))
  try simp only [Act.put, List.setIfInBounds_toArray, List.set_cons_zero, List.set_cons_succ]
  refine wpK_take (i := 9) (v := ?_) rfl (by kernel_rfl) (by kernel_rfl) (by kernel_rfl) (by kernel_rfl) (.inl ⟨by rfl, ?_⟩) hHeld ?_
  rotate_left
  · (intro w hSw; (try dsimp only at hSw); go_split_ands; go_simp; (try with_reducible rfl))
  try simp only [Act.put, List.setIfInBounds_toArray, List.set_cons_zero, List.set_cons_succ]
  refine wpK_one (i := 0) (by kernel_rfl) rfl (fun K hK => ?_)
  go_simp
  refine hK.out _ _ ?_ (fun hHeld => ?_)
  · exact ⟨cell_below ((Below.refl _ _).alloc (Nat.le_refl _) _) hHeld.1, cell_below ((Below.refl _ _).alloc (Nat.le_refl _) _) hHeld.2⟩
  clear hK K
  try simp only [Act.put, List.setIfInBounds_toArray, List.set_cons_zero, List.set_cons_succ]
  refine wpK_one (i := 5) (by kernel_rfl) rfl (fun K hK => ?_)
  refine step_append_s _ (by rfl) _ _ _ (by rfl) (M + 2) 9 i0 _ 1 16 Tryz.underlying23 hi0 hz0 hz1 hz2 rfl Nat.one_pos (.slice (some ⟨M + 2, 0, none⟩) 0 0) 0 [] (by rfl) own4 M ak x.l.length ck _ (by rfl) hrK' q4 q1 q2 q3 ?_
  intro A2 C2 w5 hownK5 hg5 hat5
  have o1 : some M ≠ (Value.slice (some ⟨M + 2, 0, none⟩) 0 0).ownBlock := fun e => by injection e with e; first | omega | (simp at e; done) | (simp at e; omega)
  have hB5 : Below M w w5 := (((hB1.alloc (by omega) (.cells #[] 9)).drew).grown hg5 (by show M ≤ (w1.alloc _).heap.size; simp; omega) (fun k e => by injection e with e; first | omega | (simp at e; done) | (simp at e; omega)))
  have hs5' : (w1.alloc (.cells #[] 9)).drew.heap.size = w1.heap.size + 1 := by show (w1.alloc _).heap.size = _; simp
  have hs5 : w1.heap.size + 1 ≤ w5.heap.size := by have := hg5.size; omega
  have bR5 := blk_grown (w := (w1.alloc (.cells #[] 9)).drew) (blk_alloc bR1 (.cells #[] 9)) hg5 (fun e => by injection e with e; first | omega | (simp at e; done) | (simp at e; omega))
  have hl5 : x.l = [] ∨ ∃ b o, Btw 0 w5.heap.size b ∧ a = some ⟨b, o, none⟩ ∧ IsVs w5 (Btw 0 w5.heap.size) x.l b o := hl.imp_right fun ⟨b, o, hb, ha, hx⟩ => ⟨b, o, ⟨Nat.zero_le _, by have := hb.2; omega⟩, ha, IsVs.keep (Btw.kept hB5) (Btw.mono (Nat.le_refl _) (by omega)) _ b o hb hx⟩
  refine hK.out _ _ ?_ (fun hHeld => ?_)
  · exact ⟨hg5.cell hHeld.1 o1, hg5.cell hHeld.2 o1⟩
  clear hK K
  try simp only [Act.put, List.setIfInBounds_toArray, List.set_cons_zero, List.set_cons_succ]
  refine wpK_one (i := 10) (by kernel_rfl) rfl (fun K hK => ?_)
  go_simp
  (with_reducible refine (plainPre_any x.l x.l.length hnl w5 a c hl88 hl5).mono ?_)
  rintro e w7 ⟨A3, C3, rfl, hC3, hB7', hL7⟩
  have bR7 := blk_below bR5 hB7'
  have q0 : w7.cell? ⟨M + 1, 0, none⟩ = some (.int .i64 0) := blk_c bR7 0 rfl
  have q1 : w7.cell? ⟨M + 1, 1, none⟩ = some (.string ⟨#[]⟩) := blk_c bR7 1 rfl
  have q2 : w7.cell? ⟨M + 1, 2, none⟩ = some (.slice none 0 0) := blk_c bR7 2 rfl
  have q3 : w7.cell? ⟨M + 1, 3, none⟩ = some (.slice none 0 0) := blk_c bR7 3 rfl
  have q4 : w7.cell? ⟨M + 1, 4, none⟩ = some (.int .i64 0) := blk_c bR7 4 rfl
  have q5 : w7.cell? ⟨M + 1, 5, none⟩ = some (.int .i64 0) := blk_c bR7 5 rfl
  have q6 : w7.cell? ⟨M + 1, 6, none⟩ = some (.float .f64 0) := blk_c bR7 6 rfl
  have q7 : w7.cell? ⟨M + 1, 7, none⟩ = some (.string ⟨#[]⟩) := blk_c bR7 7 rfl
  have q8 : w7.cell? ⟨M + 1, 8, none⟩ = some (.slice none 0 0) := blk_c bR7 8 rfl
  have q9 : w7.cell? ⟨M + 1, 9, none⟩ = some (.slice none 0 0) := blk_c bR7 9 rfl
  have q10 : w7.cell? ⟨M + 1, 10, none⟩ = some (.int .i64 0) := blk_c bR7 10 rfl
  have f0 := blk_frozen bR7 0
  have f1 := blk_frozen bR7 1
  have f2 := blk_frozen bR7 2
  have f3 := blk_frozen bR7 3
  have f4 := blk_frozen bR7 4
  have f5 := blk_frozen bR7 5
  have f6 := blk_frozen bR7 6
  have f7 := blk_frozen bR7 7
  have f8 := blk_frozen bR7 8
  have f9 := blk_frozen bR7 9
  have f10 := blk_frozen bR7 10
  refine hK.out _ _ ?_ (fun hHeld => ?_)
  · exact ⟨cell_below hB7' hHeld.1, cell_below hB7' hHeld.2⟩
  clear hK K
  try simp only [Act.put, List.setIfInBounds_toArray, List.set_cons_zero, List.set_cons_succ]
  refine wpK_take (i := 11) (v := ?_) rfl (by kernel_rfl) (by kernel_rfl) (by kernel_rfl) (by kernel_rfl) (.inl ⟨by rfl, ?_⟩) hHeld ?_
  rotate_left
  · (intro w hSw; (try dsimp only at hSw); go_split_ands; go_simp; (try with_reducible rfl))
  try simp only [Act.put, List.setIfInBounds_toArray, List.set_cons_zero, List.set_cons_succ]
  refine wpK_last (i := 12) (by kernel_rfl) (by kernel_rfl) rfl (fun K hK => ?_)
  go_simp
  refine hK.out _ _ ?_
  clear hK K
  try simp only [Act.put, List.setIfInBounds_toArray, List.set_cons_zero, List.set_cons_succ]
  refine wpK_done (by kernel_rfl) ?_ _
  have hB7 : Below M w w7 := hB5.trans (hB7'.mono (by omega))
  have hs7 : w5.heap.size ≤ w7.heap.size := hB7'.size
  have hown7 := own_below hownK5 hB7'
  have HF := Lib.hid (And.intro hkz (And.intro hown7 (And.intro hL7 (And.intro bR7 hB7))))
  clear hkz hown7 hL7 bR7 hB7 hB5 hB7' hownK5 hg5 hat5 bR5 hl5 hrK' hrK own4 hl bR1 bE1 c2 c3 hslK hslL q1 q2 q3 q4 hHeld hB1 HH o1
  go_wp2_with fail
  obtain ⟨hkz, hown7, hL7, bR7, hB7⟩ := HF.out
  rw [HM.out]
  simp only [Nat.zero_add, List.nil_append, Nat.mul_one] at hown7
  have hKlt : ∀ b, (Value.slice A2 x.l.length C2).ownBlock = some b → M + 2 ≤ b ∧ b < w7.heap.size := fun b e => hown7.lt b e
  have htk : (x.keys.take x.l.length).length = x.l.length := by rw [List.length_take]; omega
  have hks := IsStrs.of_own (S := Btw (M + 2) w7.heap.size) (ks := x.keys.take x.l.length) (base := M + 2) (v := .slice A2 x.l.length C2) (by rw [htk, List.map_take]; exact hown7) (fun b hb => hKlt b hb) (by rw [htk]; omega) (fun s hs => hkz s (List.mem_of_mem_take hs))
  have htl : (cleanL (x.l.take x.l.length)).length = x.l.length := by rw [cleanL_length, List.length_take]; omega
  have HE : IsE (st11 w7 (M + 1) (.int .i64 1) (.string ⟨#[]⟩) (.slice A2 x.l.length C2) (.slice A3 x.l.length C3) (.int .i64 0) (.int .i64 0) (.float .f64 0) (.string ⟨#[]⟩) (.slice none 0 0) (.slice none 0 0) (.int .i64 0)) (Btw M w7.heap.size) ⟨1, ByteArray.empty, x.keys.take x.l.length, cleanL (x.l.take x.l.length), gNull, 0⟩ (.agg #[.int .i64 1, .string ⟨#[]⟩, .slice A2 x.l.length C2, .slice A3 x.l.length C3, .int .i64 0, .int .i64 0, .float .f64 0, .string ⟨#[]⟩, .slice none 0 0, .slice none 0 0, .int .i64 0]) := by
    have hkp : ∀ b, Btw (M + 2) w7.heap.size b → (st11 w7 (M + 1) (.int .i64 1) (.string ⟨#[]⟩) (.slice A2 x.l.length C2) (.slice A3 x.l.length C3) (.int .i64 0) (.int .i64 0) (.float .f64 0) (.string ⟨#[]⟩) (.slice none 0 0) (.slice none 0 0) (.int .i64 0)).heap[b]? = w7.heap[b]? := fun b hb => st11_eq (by have := hb.1; omega)
    have hS : ∀ b, Btw (M + 2) w7.heap.size b → Btw M w7.heap.size b := Btw.mono (by omega) (Nat.le_refl _)
    refine isE_mk (by decide) (by decide) (by decide) (hks.keep hkp hS) (by rw [htl]; omega) ⟨A3, C3, by rw [htl], by rw [htl]; exact hC3, ?_⟩ isV_nil
    rcases hL7 with hx | ⟨b, o, hb, ha, hx⟩
    · exact .inl hx
    · exact .inr ⟨b, o, hS b ⟨by have := hb.1; omega, hb.2⟩, ha, IsVs.keep (S := Btw w5.heap.size w7.heap.size) (fun b hb => st11_eq (by have := hb.1; omega)) (Btw.mono (by omega) (Nat.le_refl _)) _ b o hb hx⟩
  have hblk := st11_blk (c0 := .int .i64 1) (c1 := .string ⟨#[]⟩) (c2 := .slice A2 x.l.length C2) (c3 := .slice A3 x.l.length C3) (c4 := .int .i64 0) (c5 := .int .i64 0) (c6 := .float .f64 0) (c7 := .string ⟨#[]⟩) (c8 := .slice none 0 0) (c9 := .slice none 0 0) (c10 := .int .i64 0) bR7
  have hsz : (st11 w7 (M + 1) (.int .i64 1) (.string ⟨#[]⟩) (.slice A2 x.l.length C2) (.slice A3 x.l.length C3) (.int .i64 0) (.int .i64 0) (.float .f64 0) (.string ⟨#[]⟩) (.slice none 0 0) (.slice none 0 0) (.int .i64 0)).heap.size = w7.heap.size := st11_size
  have hfin : IsE (st11 w7 (M + 1) (.int .i64 1) (.string ⟨#[]⟩) (.slice A2 x.l.length C2) (.slice A3 x.l.length C3) (.int .i64 0) (.int .i64 0) (.float .f64 0) (.string ⟨#[]⟩) (.slice none 0 0) (.slice none 0 0) (.int .i64 0)) (Btw M (st11 w7 (M + 1) (.int .i64 1) (.string ⟨#[]⟩) (.slice A2 x.l.length C2) (.slice A3 x.l.length C3) (.int .i64 0) (.int .i64 0) (.float .f64 0) (.string ⟨#[]⟩) (.slice none 0 0) (.slice none 0 0) (.int .i64 0)).heap.size) ⟨1, ByteArray.empty, x.keys.take x.l.length, cleanL (x.l.take x.l.length), gNull, 0⟩ (.agg #[.int .i64 1, .string ⟨#[]⟩, .slice A2 x.l.length C2, .slice A3 x.l.length C3, .int .i64 0, .int .i64 0, .float .f64 0, .string ⟨#[]⟩, .slice none 0 0, .slice none 0 0, .int .i64 0]) := by
    rw [hsz]
    exact HE
  have hBf : Below M w (st11 w7 (M + 1) (.int .i64 1) (.string ⟨#[]⟩) (.slice A2 x.l.length C2) (.slice A3 x.l.length C3) (.int .i64 0) (.int .i64 0) (.float .f64 0) (.string ⟨#[]⟩) (.slice none 0 0) (.slice none 0 0) (.int .i64 0)) := st11_below hB7 (by omega)
  refine bodyPost_ret (v := .agg #[.int .i64 1, .string ⟨#[]⟩, .slice A2 x.l.length C2, .slice A3 x.l.length C3, .int .i64 0, .int .i64 0, .float .f64 0, .string ⟨#[]⟩, .slice none 0 0, .slice none 0 0, .int .i64 0]) ?_ rfl ?_
  · have e0 := blk_c hblk 0 (u := .int .i64 1) rfl
    have e1 := blk_c hblk 1 (u := .string ⟨#[]⟩) rfl
    have e2 := blk_c hblk 2 (u := .slice A2 x.l.length C2) rfl
    have e3 := blk_c hblk 3 (u := .slice A3 x.l.length C3) rfl
    have e4 := blk_c hblk 4 (u := .int .i64 0) rfl
    have e5 := blk_c hblk 5 (u := .int .i64 0) rfl
    have e6 := blk_c hblk 6 (u := .float .f64 0) rfl
    have e7 := blk_c hblk 7 (u := .string ⟨#[]⟩) rfl
    have e8 := blk_c hblk 8 (u := .slice none 0 0) rfl
    have e9 := blk_c hblk 9 (u := .slice none 0 0) rfl
    have e10 := blk_c hblk 10 (u := .int .i64 0) rfl
    unfold st11 at e0 e1 e2 e3 e4 e5 e6 e7 e8 e9 e10
    simp [results, Tryz.results33, go_sem, e0, e1, e2, e3, e4, e5, e6, e7, e8, e9, e10]
  · unfold st11 at hfin hBf
    exact ⟨_, rfl, hBf, hfin⟩
set_option maxHeartbeats 1000000 in
set_option maxRecDepth 100000 in
theorem cleanE_key_ge (x : EV) (hkind : x.kind = 1) (hcmp : ¬ x.l.length < x.keys.length) (w : World) (v : Value) (hv : IsE w (Btw 0 w.heap.size) x v) :
    Calls Tryz.prog 33 #[v] w fun e w' => ∃ r, e = .returned r ∧ Below w.heap.size w w' ∧ IsE w' (Btw w.heap.size w'.heap.size) (cleanE x) r := by
  have ht : cleanE x = ⟨1, ByteArray.empty, x.keys.take x.keys.length, cleanL (x.l.take x.keys.length), gNull, 0⟩ := by simp [cleanE, hkind, Nat.min_eq_left (Nat.le_of_not_lt hcmp)]
  rw [ht]
  have hx := hv
  obtain ⟨ak, ck, a, c, a0, d0, a1, d1, rfl⟩ := hv.form
  clear hv
  rw [hkind] at *
  obtain ⟨i0, hi0, hz0, hz1, hz2⟩ := info_parts Tryz.infoStr
  obtain ⟨_, hkc, hk16, hkz, hrK⟩ := hx.rowK (hi := w.heap.size) (fun b hb => hb.2)
  obtain ⟨_, hlc, hl88, hl⟩ := hx.rowL
  have hnk : x.keys.length ≤ x.keys.length := by omega
  have hnl : x.keys.length ≤ x.l.length := by omega
  have HH := Lib.hid (And.intro hkz (And.intro hrK (And.intro hl (And.intro hk16 (And.intro hl88 (And.intro hnk (And.intro hnl (And.intro hkc hlc))))))))
  clear hkz hrK hl hx hk16 hl88 hnk hnl hkc hlc ht
  go_enter Tryz.func33, Tryz.ntmps33
  go_wp2_with fail
  obtain ⟨hkz, hrK, hl, hk16, hl88, hnk, hnl, hkc, hlc⟩ := HH.out
  have hB1 : Below w.heap.size w ((w.alloc (.cells #[.int .i64 1, .string x.s, .slice ak x.keys.length ck, .slice a x.l.length c, .int .i64 x.v.kind, .int .i64 x.v.n, .float .f64 x.v.f, .string x.v.s, .slice a0 x.v.keys.length d0, .slice a1 x.v.l.length d1, .int .i64 x.n] 29)).alloc (.cells #[.int .i64 0, .string ⟨#[]⟩, .slice none 0 0, .slice none 0 0, .int .i64 0, .int .i64 0, .float .f64 0, .string ⟨#[]⟩, .slice none 0 0, .slice none 0 0, .int .i64 0] 29)) := (((Below.refl w.heap.size w).alloc (Nat.le_refl _) (.cells #[.int .i64 1, .string x.s, .slice ak x.keys.length ck, .slice a x.l.length c, .int .i64 x.v.kind, .int .i64 x.v.n, .float .f64 x.v.f, .string x.v.s, .slice a0 x.v.keys.length d0, .slice a1 x.v.l.length d1, .int .i64 x.n] 29)).alloc (by simp) (.cells #[.int .i64 0, .string ⟨#[]⟩, .slice none 0 0, .slice none 0 0, .int .i64 0, .int .i64 0, .float .f64 0, .string ⟨#[]⟩, .slice none 0 0, .slice none 0 0, .int .i64 0] 29))
  have bR1 : ((w.alloc (.cells #[.int .i64 1, .string x.s, .slice ak x.keys.length ck, .slice a x.l.length c, .int .i64 x.v.kind, .int .i64 x.v.n, .float .f64 x.v.f, .string x.v.s, .slice a0 x.v.keys.length d0, .slice a1 x.v.l.length d1, .int .i64 x.n] 29)).alloc (.cells #[.int .i64 0, .string ⟨#[]⟩, .slice none 0 0, .slice none 0 0, .int .i64 0, .int .i64 0, .float .f64 0, .string ⟨#[]⟩, .slice none 0 0, .slice none 0 0, .int .i64 0] 29)).heap[w.heap.size + 1]? = some (.cells #[.int .i64 0, .string ⟨#[]⟩, .slice none 0 0, .slice none 0 0, .int .i64 0, .int .i64 0, .float .f64 0, .string ⟨#[]⟩, .slice none 0 0, .slice none 0 0, .int .i64 0] 29) := new_block (by simp)
  have bE1 : ((w.alloc (.cells #[.int .i64 1, .string x.s, .slice ak x.keys.length ck, .slice a x.l.length c, .int .i64 x.v.kind, .int .i64 x.v.n, .float .f64 x.v.f, .string x.v.s, .slice a0 x.v.keys.length d0, .slice a1 x.v.l.length d1, .int .i64 x.n] 29)).alloc (.cells #[.int .i64 0, .string ⟨#[]⟩, .slice none 0 0, .slice none 0 0, .int .i64 0, .int .i64 0, .float .f64 0, .string ⟨#[]⟩, .slice none 0 0, .slice none 0 0, .int .i64 0] 29)).heap[w.heap.size]? = some (.cells #[.int .i64 1, .string x.s, .slice ak x.keys.length ck, .slice a x.l.length c, .int .i64 x.v.kind, .int .i64 x.v.n, .float .f64 x.v.f, .string x.v.s, .slice a0 x.v.keys.length d0, .slice a1 x.v.l.length d1, .int .i64 x.n] 29) := blk_alloc (new_block rfl) _
  have hs1 : ((w.alloc (.cells #[.int .i64 1, .string x.s, .slice ak x.keys.length ck, .slice a x.l.length c, .int .i64 x.v.kind, .int .i64 x.v.n, .float .f64 x.v.f, .string x.v.s, .slice a0 x.v.keys.length d0, .slice a1 x.v.l.length d1, .int .i64 x.n] 29)).alloc (.cells #[.int .i64 0, .string ⟨#[]⟩, .slice none 0 0, .slice none 0 0, .int .i64 0, .int .i64 0, .float .f64 0, .string ⟨#[]⟩, .slice none 0 0, .slice none 0 0, .int .i64 0] 29)).heap.size = w.heap.size + 2 := by simp
  generalize ((w.alloc (.cells #[.int .i64 1, .string x.s, .slice ak x.keys.length ck, .slice a x.l.length c, .int .i64 x.v.kind, .int .i64 x.v.n, .float .f64 x.v.f, .string x.v.s, .slice a0 x.v.keys.length d0, .slice a1 x.v.l.length d1, .int .i64 x.n] 29)).alloc (.cells #[.int .i64 0, .string ⟨#[]⟩, .slice none 0 0, .slice none 0 0, .int .i64 0, .int .i64 0, .float .f64 0, .string ⟨#[]⟩, .slice none 0 0, .slice none 0 0, .int .i64 0] 29)) = w1 at *
  generalize hM : w.heap.size = M at *
  have HM := Lib.hid hM; clear hM
  have c2 : w1.cell? ⟨M, 2, none⟩ = some (.slice ak x.keys.length ck) := blk_c bE1 2 rfl
  have c3 : w1.cell? ⟨M, 3, none⟩ = some (.slice a x.l.length c) := blk_c bE1 3 rfl
  have hslK := @run_slice_pre Tryz.prog 23 9 ak x.keys.length ck x.keys.length 1 .i64 Tryz.underlying23 (fun _ => by kernel_rfl) (by omega)
  have hslL := @run_slice_pre Tryz.prog 24 27 a x.l.length c x.keys.length 6 .i64 Tryz.underlying24 (fun _ => by kernel_rfl) (by omega)
  have own4 := (World.ownsRow_made w1 (base := M + 2) (e := 9) (size := 1) #[] 0 (by omega) (by decide) rfl).drew
  rw [hs1] at own4
  have hrK' := (((hrK.below hB1).take_ hnk).alloc (by omega) (.cells #[] 9)).drew
  have q1 : 0 + x.keys.length ≤ maxLen := by unfold maxLen; omega
  have q2 : (0 + x.keys.length) * 16 ≤ 140737488355328 := by omega
  have q3 : M + 2 ≤ ((w1.alloc (.cells #[] 9)).drew).heap.size := by show M + 2 ≤ (w1.alloc _).heap.size; simp; omega
  have q4 : ∀ u ∈ ((x.keys.map Value.string).take (x.keys.length * 1)), u.oneCell' = true := ones_take strs_one
  have hs0 : w1.drew.heap.size = w1.heap.size := rfl
  refine wp_region_K (fun w' => w'.cell? ⟨M, 2, none⟩ = some (.slice ak x.keys.length ck) ∧ w'.cell? ⟨M, 3, none⟩ = some (.slice a x.l.length c)) [1, 2, 3, 4, 6, 7, 8, 9, 11] (by kernel_rfl) ?_ (fun hHeld => ?_)
  · exact ⟨c2, c3⟩
  refine wpK_take (i := 1) (v := ?_) rfl (by kernel_rfl) (by kernel_rfl) (by kernel_rfl) (by kernel_rfl) (.inl ⟨by rfl, ?_⟩) hHeld ?_
  rotate_left
  · (intro w hSw; (try dsimp only at hSw); go_split_ands; go_simp; (try with_reducible rfl))
  try simp only [Act.put, List.setIfInBounds_toArray, List.set_cons_zero, List.set_cons_succ]
  refine wpK_take (i := 2) (v := ?_) rfl (by kernel_rfl) (by kernel_rfl) (by kernel_rfl) (by kernel_rfl) (.inl ⟨by rfl, ?_⟩) hHeld ?_
  rotate_left
  · (intro w hSw; (try dsimp only at hSw); go_split_ands; go_simp; (try with_reducible rfl))
  try simp only [Act.put, List.setIfInBounds_toArray, List.set_cons_zero, List.set_cons_succ]
  refine wpK_take (i := 3) (v := ?_) rfl (by kernel_rfl) (by kernel_rfl) (by kernel_rfl) (by kernel_rfl) (.inl ⟨by rfl, ?_⟩) hHeld ?_
  rotate_left
  · (intro w hSw; (try dsimp only at hSw); go_split_ands; go_simp; (try with_reducible rfl))
  try simp only [Act.put, List.setIfInBounds_toArray, List.set_cons_zero, List.set_cons_succ]
  refine wpK_take (i := 4) (v := ?_) rfl (by kernel_rfl) (by kernel_rfl) (by kernel_rfl) (by kernel_rfl) (.inl ⟨by rfl, ?_⟩) hHeld ?_
  rotate_left
  · (intro w hSw; (try dsimp only at hSw); go_split_ands; go_simp; (try with_reducible rfl))
  try simp only [Act.put, List.setIfInBounds_toArray, List.set_cons_zero, List.set_cons_succ]
  refine wpK_take (i := 6) (v := ?_) rfl (by kernel_rfl) (by kernel_rfl) (by kernel_rfl) (by kernel_rfl) (.inl ⟨by rfl, ?_⟩) hHeld ?_
  rotate_left
  · (intro w hSw; (try dsimp only at hSw); go_split_ands; go_simp; (try with_reducible rfl))
  try simp only [Act.put, List.setIfInBounds_toArray, List.set_cons_zero, List.set_cons_succ]
  refine wpK_take (i := 7) (v := ?_) rfl (by kernel_rfl) (by kernel_rfl) (by kernel_rfl) (by kernel_rfl) (.inl ⟨by rfl, ?_⟩) hHeld ?_
  rotate_left
  · (intro w hSw; (try dsimp only at hSw); go_split_ands; go_simp; (try with_reducible rfl))
  try simp only [Act.put, List.setIfInBounds_toArray, List.set_cons_zero, List.set_cons_succ]
  refine wpK_take (i := 8) (v := ?_) rfl (by kernel_rfl) (by kernel_rfl) (by kernel_rfl) (by kernel_rfl) (.inl ⟨by rfl, ?_⟩) hHeld ?_
  rotate_left
  · (intro w hSw; (try dsimp only at hSw); go_split_ands; go_simp; (try with_reducible rfl))
  try simp only [Act.put, List.setIfInBounds_toArray, List.set_cons_zero, List.set_cons_succ]
  refine wpK_take (i := 9) (v := ?_) rfl (by kernel_rfl) (by kernel_rfl) (by kernel_rfl) (by kernel_rfl) (.inl ⟨by rfl, ?_⟩) hHeld ?_
  rotate_left
  · (intro w hSw; (try dsimp only at hSw); go_split_ands; go_simp; (try with_reducible rfl))
  try simp only [Act.put, List.setIfInBounds_toArray, List.set_cons_zero, List.set_cons_succ]
  refine wpK_one (i := 0) (by kernel_rfl) rfl (fun K hK => ?_)
  go_simp
  refine hK.out _ _ ?_ (fun hHeld => ?_)
  · exact ⟨cell_below ((Below.refl _ _).alloc (Nat.le_refl _) _) hHeld.1, cell_below ((Below.refl _ _).alloc (Nat.le_refl _) _) hHeld.2⟩
  clear hK K
  try simp only [Act.put, List.setIfInBounds_toArray, List.set_cons_zero, List.set_cons_succ]
  refine wpK_one (i := 5) (by kernel_rfl) rfl (fun K hK => ?_)
  refine step_append_s _ (by rfl) _ _ _ (by rfl) (M + 2) 9 i0 _ 1 16 Tryz.underlying23 hi0 hz0 hz1 hz2 rfl Nat.one_pos (.slice (some ⟨M + 2, 0, none⟩) 0 0) 0 [] (by rfl) own4 M ak x.keys.length ck _ (by rfl) hrK' q4 q1 q2 q3 ?_
  intro A2 C2 w5 hownK5 hg5 hat5
  have o1 : some M ≠ (Value.slice (some ⟨M + 2, 0, none⟩) 0 0).ownBlock := fun e => by injection e with e; first | omega | (simp at e; done) | (simp at e; omega)
  have hB5 : Below M w w5 := (((hB1.alloc (by omega) (.cells #[] 9)).drew).grown hg5 (by show M ≤ (w1.alloc _).heap.size; simp; omega) (fun k e => by injection e with e; first | omega | (simp at e; done) | (simp at e; omega)))
  have hs5' : (w1.alloc (.cells #[] 9)).drew.heap.size = w1.heap.size + 1 := by show (w1.alloc _).heap.size = _; simp
  have hs5 : w1.heap.size + 1 ≤ w5.heap.size := by have := hg5.size; omega
  have bR5 := blk_grown (w := (w1.alloc (.cells #[] 9)).drew) (blk_alloc bR1 (.cells #[] 9)) hg5 (fun e => by injection e with e; first | omega | (simp at e; done) | (simp at e; omega))
  have hl5 : x.l = [] ∨ ∃ b o, Btw 0 w5.heap.size b ∧ a = some ⟨b, o, none⟩ ∧ IsVs w5 (Btw 0 w5.heap.size) x.l b o := hl.imp_right fun ⟨b, o, hb, ha, hx⟩ => ⟨b, o, ⟨Nat.zero_le _, by have := hb.2; omega⟩, ha, IsVs.keep (Btw.kept hB5) (Btw.mono (Nat.le_refl _) (by omega)) _ b o hb hx⟩
  refine hK.out _ _ ?_ (fun hHeld => ?_)
  · exact ⟨hg5.cell hHeld.1 o1, hg5.cell hHeld.2 o1⟩
  clear hK K
  try simp only [Act.put, List.setIfInBounds_toArray, List.set_cons_zero, List.set_cons_succ]
  refine wpK_one (i := 10) (by kernel_rfl) rfl (fun K hK => ?_)
  go_simp
  (with_reducible refine (plainPre_any x.l x.keys.length hnl w5 a c hl88 hl5).mono ?_)
  rintro e w7 ⟨A3, C3, rfl, hC3, hB7', hL7⟩
  have bR7 := blk_below bR5 hB7'
  have q0 : w7.cell? ⟨M + 1, 0, none⟩ = some (.int .i64 0) := blk_c bR7 0 rfl
  have q1 : w7.cell? ⟨M + 1, 1, none⟩ = some (.string ⟨#[]⟩) := blk_c bR7 1 rfl
  have q2 : w7.cell? ⟨M + 1, 2, none⟩ = some (.slice none 0 0) := blk_c bR7 2 rfl
  have q3 : w7.cell? ⟨M + 1, 3, none⟩ = some (.slice none 0 0) := blk_c bR7 3 rfl
  have q4 : w7.cell? ⟨M + 1, 4, none⟩ = some (.int .i64 0) := blk_c bR7 4 rfl
  have q5 : w7.cell? ⟨M + 1, 5, none⟩ = some (.int .i64 0) := blk_c bR7 5 rfl
  have q6 : w7.cell? ⟨M + 1, 6, none⟩ = some (.float .f64 0) := blk_c bR7 6 rfl
  have q7 : w7.cell? ⟨M + 1, 7, none⟩ = some (.string ⟨#[]⟩) := blk_c bR7 7 rfl
  have q8 : w7.cell? ⟨M + 1, 8, none⟩ = some (.slice none 0 0) := blk_c bR7 8 rfl
  have q9 : w7.cell? ⟨M + 1, 9, none⟩ = some (.slice none 0 0) := blk_c bR7 9 rfl
  have q10 : w7.cell? ⟨M + 1, 10, none⟩ = some (.int .i64 0) := blk_c bR7 10 rfl
  have f0 := blk_frozen bR7 0
  have f1 := blk_frozen bR7 1
  have f2 := blk_frozen bR7 2
  have f3 := blk_frozen bR7 3
  have f4 := blk_frozen bR7 4
  have f5 := blk_frozen bR7 5
  have f6 := blk_frozen bR7 6
  have f7 := blk_frozen bR7 7
  have f8 := blk_frozen bR7 8
  have f9 := blk_frozen bR7 9
  have f10 := blk_frozen bR7 10
  refine hK.out _ _ ?_ (fun hHeld => ?_)
  · exact ⟨cell_below hB7' hHeld.1, cell_below hB7' hHeld.2⟩
  clear hK K
  try simp only [Act.put, List.setIfInBounds_toArray, List.set_cons_zero, List.set_cons_succ]
  refine wpK_take (i := 11) (v := ?_) rfl (by kernel_rfl) (by kernel_rfl) (by kernel_rfl) (by kernel_rfl) (.inl ⟨by rfl, ?_⟩) hHeld ?_
  rotate_left
  · (intro w hSw; (try dsimp only at hSw); go_split_ands; go_simp; (try with_reducible rfl))
  try simp only [Act.put, List.setIfInBounds_toArray, List.set_cons_zero, List.set_cons_succ]
  refine wpK_last (i := 12) (by kernel_rfl) (by kernel_rfl) rfl (fun K hK => ?_)
  go_simp
  refine hK.out _ _ ?_
  clear hK K
  try simp only [Act.put, List.setIfInBounds_toArray, List.set_cons_zero, List.set_cons_succ]
  refine wpK_done (by kernel_rfl) ?_ _
  have hB7 : Below M w w7 := hB5.trans (hB7'.mono (by omega))
  have hs7 : w5.heap.size ≤ w7.heap.size := hB7'.size
  have hown7 := own_below hownK5 hB7'
  have HF := Lib.hid (And.intro hkz (And.intro hown7 (And.intro hL7 (And.intro bR7 hB7))))
  clear hkz hown7 hL7 bR7 hB7 hB5 hB7' hownK5 hg5 hat5 bR5 hl5 hrK' hrK own4 hl bR1 bE1 c2 c3 hslK hslL q1 q2 q3 q4 hHeld hB1 HH o1
  go_wp2_with fail
  obtain ⟨hkz, hown7, hL7, bR7, hB7⟩ := HF.out
  rw [HM.out]
  simp only [Nat.zero_add, List.nil_append, Nat.mul_one] at hown7
  have hKlt : ∀ b, (Value.slice A2 x.keys.length C2).ownBlock = some b → M + 2 ≤ b ∧ b < w7.heap.size := fun b e => hown7.lt b e
  have htk : (x.keys.take x.keys.length).length = x.keys.length := by rw [List.length_take]; omega
  have hks := IsStrs.of_own (S := Btw (M + 2) w7.heap.size) (ks := x.keys.take x.keys.length) (base := M + 2) (v := .slice A2 x.keys.length C2) (by rw [htk, List.map_take]; exact hown7) (fun b hb => hKlt b hb) (by rw [htk]; omega) (fun s hs => hkz s (List.mem_of_mem_take hs))
  have htl : (cleanL (x.l.take x.keys.length)).length = x.keys.length := by rw [cleanL_length, List.length_take]; omega
  have HE : IsE (st11 w7 (M + 1) (.int .i64 1) (.string ⟨#[]⟩) (.slice A2 x.keys.length C2) (.slice A3 x.keys.length C3) (.int .i64 0) (.int .i64 0) (.float .f64 0) (.string ⟨#[]⟩) (.slice none 0 0) (.slice none 0 0) (.int .i64 0)) (Btw M w7.heap.size) ⟨1, ByteArray.empty, x.keys.take x.keys.length, cleanL (x.l.take x.keys.length), gNull, 0⟩ (.agg #[.int .i64 1, .string ⟨#[]⟩, .slice A2 x.keys.length C2, .slice A3 x.keys.length C3, .int .i64 0, .int .i64 0, .float .f64 0, .string ⟨#[]⟩, .slice none 0 0, .slice none 0 0, .int .i64 0]) := by
    have hkp : ∀ b, Btw (M + 2) w7.heap.size b → (st11 w7 (M + 1) (.int .i64 1) (.string ⟨#[]⟩) (.slice A2 x.keys.length C2) (.slice A3 x.keys.length C3) (.int .i64 0) (.int .i64 0) (.float .f64 0) (.string ⟨#[]⟩) (.slice none 0 0) (.slice none 0 0) (.int .i64 0)).heap[b]? = w7.heap[b]? := fun b hb => st11_eq (by have := hb.1; omega)
    have hS : ∀ b, Btw (M + 2) w7.heap.size b → Btw M w7.heap.size b := Btw.mono (by omega) (Nat.le_refl _)
    refine isE_mk (by decide) (by decide) (by decide) (hks.keep hkp hS) (by rw [htl]; omega) ⟨A3, C3, by rw [htl], by rw [htl]; exact hC3, ?_⟩ isV_nil
    rcases hL7 with hx | ⟨b, o, hb, ha, hx⟩
    · exact .inl hx
    · exact .inr ⟨b, o, hS b ⟨by have := hb.1; omega, hb.2⟩, ha, IsVs.keep (S := Btw w5.heap.size w7.heap.size) (fun b hb => st11_eq (by have := hb.1; omega)) (Btw.mono (by omega) (Nat.le_refl _)) _ b o hb hx⟩
  have hblk := st11_blk (c0 := .int .i64 1) (c1 := .string ⟨#[]⟩) (c2 := .slice A2 x.keys.length C2) (c3 := .slice A3 x.keys.length C3) (c4 := .int .i64 0) (c5 := .int .i64 0) (c6 := .float .f64 0) (c7 := .string ⟨#[]⟩) (c8 := .slice none 0 0) (c9 := .slice none 0 0) (c10 := .int .i64 0) bR7
  have hsz : (st11 w7 (M + 1) (.int .i64 1) (.string ⟨#[]⟩) (.slice A2 x.keys.length C2) (.slice A3 x.keys.length C3) (.int .i64 0) (.int .i64 0) (.float .f64 0) (.string ⟨#[]⟩) (.slice none 0 0) (.slice none 0 0) (.int .i64 0)).heap.size = w7.heap.size := st11_size
  have hfin : IsE (st11 w7 (M + 1) (.int .i64 1) (.string ⟨#[]⟩) (.slice A2 x.keys.length C2) (.slice A3 x.keys.length C3) (.int .i64 0) (.int .i64 0) (.float .f64 0) (.string ⟨#[]⟩) (.slice none 0 0) (.slice none 0 0) (.int .i64 0)) (Btw M (st11 w7 (M + 1) (.int .i64 1) (.string ⟨#[]⟩) (.slice A2 x.keys.length C2) (.slice A3 x.keys.length C3) (.int .i64 0) (.int .i64 0) (.float .f64 0) (.string ⟨#[]⟩) (.slice none 0 0) (.slice none 0 0) (.int .i64 0)).heap.size) ⟨1, ByteArray.empty, x.keys.take x.keys.length, cleanL (x.l.take x.keys.length), gNull, 0⟩ (.agg #[.int .i64 1, .string ⟨#[]⟩, .slice A2 x.keys.length C2, .slice A3 x.keys.length C3, .int .i64 0, .int .i64 0, .float .f64 0, .string ⟨#[]⟩, .slice none 0 0, .slice none 0 0, .int .i64 0]) := by
    rw [hsz]
    exact HE
  have hBf : Below M w (st11 w7 (M + 1) (.int .i64 1) (.string ⟨#[]⟩) (.slice A2 x.keys.length C2) (.slice A3 x.keys.length C3) (.int .i64 0) (.int .i64 0) (.float .f64 0) (.string ⟨#[]⟩) (.slice none 0 0) (.slice none 0 0) (.int .i64 0)) := st11_below hB7 (by omega)
  refine bodyPost_ret (v := .agg #[.int .i64 1, .string ⟨#[]⟩, .slice A2 x.keys.length C2, .slice A3 x.keys.length C3, .int .i64 0, .int .i64 0, .float .f64 0, .string ⟨#[]⟩, .slice none 0 0, .slice none 0 0, .int .i64 0]) ?_ rfl ?_
  · have e0 := blk_c hblk 0 (u := .int .i64 1) rfl
    have e1 := blk_c hblk 1 (u := .string ⟨#[]⟩) rfl
    have e2 := blk_c hblk 2 (u := .slice A2 x.keys.length C2) rfl
    have e3 := blk_c hblk 3 (u := .slice A3 x.keys.length C3) rfl
    have e4 := blk_c hblk 4 (u := .int .i64 0) rfl
    have e5 := blk_c hblk 5 (u := .int .i64 0) rfl
    have e6 := blk_c hblk 6 (u := .float .f64 0) rfl
    have e7 := blk_c hblk 7 (u := .string ⟨#[]⟩) rfl
    have e8 := blk_c hblk 8 (u := .slice none 0 0) rfl
    have e9 := blk_c hblk 9 (u := .slice none 0 0) rfl
    have e10 := blk_c hblk 10 (u := .int .i64 0) rfl
    unfold st11 at e0 e1 e2 e3 e4 e5 e6 e7 e8 e9 e10
    simp [results, Tryz.results33, go_sem, e0, e1, e2, e3, e4, e5, e6, e7, e8, e9, e10]
  · unfold st11 at hfin hBf
    exact ⟨_, rfl, hBf, hfin⟩
theorem cleanE_any (x : EV) (w : World) (v : Value) (hv : IsE w (Btw 0 w.heap.size) x v) :
    Calls Tryz.prog 33 #[v] w fun e w' => ∃ r, e = .returned r ∧ Below w.heap.size w w' ∧ IsE w' (Btw w.heap.size w'.heap.size) (cleanE x) r := by
  by_cases h1 : x.kind = 1
  · by_cases h : x.l.length < x.keys.length
    · exact cleanE_key_lt x h1 h w v hv
    · exact cleanE_key_ge x h1 h w v hv
  by_cases h2 : x.kind = 2
  · exact cleanE_val x h2 w v hv
  by_cases h3 : x.kind = 3
  · exact cleanE_idx x h3 w v hv
  exact cleanE_name x h1 h2 h3 w v hv
end Go.Proofs.YtbbacpdbbmjblaaGreat
end
section
set_option linter.unusedVariables false
namespace Go.Proofs.YtbbacpdbbmjblaaGreat
open Go.RowKit
set_option linter.unusedSimpArgs false
set_option maxRecDepth 10000
set_option maxHeartbeats 2000000
def pdE (x : EV) : PD := .agg [.val (.int .i64 x.kind), .val (.string x.s), .sl 1 16 (pdS x.keys), .sl 6 88 (pdVs x.l), .val (.int .i64 x.v.kind), .val (.int .i64 x.v.n), .val (.float .f64 x.v.f), .val (.string x.v.s), .sl 1 16 (pdS x.v.keys), .sl 6 88 (pdVs x.v.l), .val (.int .i64 x.n)]
section
variable {w : World} {F : Nat → Prop}
theorem rep_vals {l : List GV} {a : Option Addr} {n c : Nat} (h : Rep w F (.sl 6 88 (pdVs l)) (.slice a n c)) : n = l.length ∧ l.length ≤ c ∧ l.length * 88 ≤ 140737488351232 ∧ (l = [] ∨ ∃ b o, F b ∧ a = some ⟨b, o, none⟩ ∧ IsVs w F l b o) := by
  unfold Rep at h
  rw [pdVs_len] at h
  obtain ⟨a', c', e, h5, h6, _, h7⟩ := h
  injection e with e1 e2 e3
  subst e1 e2 e3
  refine ⟨rfl, h5, h6, ?_⟩
  rcases h7 with h7 | ⟨b, o, hF, rfl, hv⟩
  · left; cases l with | nil => rfl | cons _ _ => unfold pdVs at h7; cases h7
  · exact .inr ⟨b, o, hF, rfl, repL_isVs l hv⟩
theorem vals_rep {l : List GV} {a : Option Addr} {c : Nat} (h5 : l.length ≤ c) (h6 : l.length * 88 ≤ 140737488351232) (h : l = [] ∨ ∃ b o, F b ∧ a = some ⟨b, o, none⟩ ∧ IsVs w F l b o) : Rep w F (.sl 6 88 (pdVs l)) (.slice a l.length c) := by
  unfold Rep
  rw [pdVs_len]
  refine ⟨a, c, rfl, h5, h6, by omega, ?_⟩
  rcases h with rfl | ⟨b, o, hF, rfl, hv⟩
  · left; unfold pdVs; rfl
  · exact .inr ⟨b, o, hF, rfl, isVs_repL l hv⟩
theorem rep_isE {x : EV} {u : Value} (h : Rep w F (pdE x) u) : IsE w F x u := by
  unfold pdE Rep at h
  obtain ⟨vs, rfl, hr, h1⟩ := h
  simp only [Reps] at hr
  obtain ⟨v0, _, rfl, e0, v1, _, rfl, e1, v2, _, rfl, e2, v3, _, rfl, e3, v4, _, rfl, e4, v5, _, rfl, e5, v6, _, rfl, e6, v7, _, rfl, e7, v8, _, rfl, e8, v9, _, rfl, e9, v10, _, rfl, e10, rfl⟩ := hr
  have hV : Rep w F (pdV x.v) (.agg #[v4, v5, v6, v7, v8, v9]) := by
    rw [pdV_eq]; unfold Rep
    refine ⟨[v4, v5, v6, v7, v8, v9], rfl, ?_, fun u hu => h1 u ?_⟩
    rotate_left
    · simp only [List.mem_cons, List.not_mem_nil, or_false] at hu ⊢
      rcases hu with h | h | h | h | h | h <;> simp [h]
    simp only [Reps]
    exact ⟨_, _, rfl, e4, _, _, rfl, e5, _, _, rfl, e6, _, _, rfl, e7, _, _, rfl, e8, _, _, rfl, e9, rfl⟩
  have hE2 := rep_strs.1 e2
  obtain ⟨ak, ck, rfl, _⟩ := id hE2
  obtain ⟨a, c, rfl, _⟩ : ∃ a c, v3 = .slice a x.l.length c ∧ True := by
    have := e3
    unfold Rep at this
    rw [pdVs_len] at this
    obtain ⟨a, c, e, _⟩ := this
    exact ⟨a, c, e, trivial⟩
  obtain ⟨_, g1, g2, g3⟩ := rep_vals e3
  unfold Rep at e0 e1 e10
  obtain ⟨rfl, w0⟩ := e0
  obtain ⟨rfl, w1⟩ := e1
  obtain ⟨rfl, w10⟩ := e10
  exact ⟨ak, ck, a, c, v4, v5, v6, v7, v8, v9, rfl, w0, w10, w1, hE2, g1, g2, g3, rep_isV _ hV⟩
theorem isE_rep {x : EV} {u : Value} (h : IsE w F x u) : Rep w F (pdE x) u := by
  obtain ⟨ak, ck, a, c, c0, c1, c2, c3, c4, c5, rfl, h1, h2, h3, hk, h5, h6, hl, hv⟩ := h
  have hV := isV_rep _ hv
  rw [pdV_eq] at hV
  unfold Rep at hV
  obtain ⟨vs, e, hr, ho⟩ := hV
  simp only [Value.agg.injEq] at e
  have : vs = [c0, c1, c2, c3, c4, c5] := by simpa using (congrArg Array.toList e).symm
  subst this
  simp only [Reps] at hr
  obtain ⟨v4, _, e4', e4, v5, _, e5', e5, v6, _, e6', e6, v7, _, e7', e7, v8, _, e8', e8, v9, _, e9', e9, _⟩ := hr
  simp only [List.cons.injEq] at e4'
  obtain ⟨rfl, rfl⟩ := e4'
  simp only [List.cons.injEq] at e5'
  obtain ⟨rfl, rfl⟩ := e5'
  simp only [List.cons.injEq] at e6'
  obtain ⟨rfl, rfl⟩ := e6'
  simp only [List.cons.injEq] at e7'
  obtain ⟨rfl, rfl⟩ := e7'
  simp only [List.cons.injEq] at e8'
  obtain ⟨rfl, rfl⟩ := e8'
  simp only [List.cons.injEq] at e9'
  obtain ⟨rfl, _⟩ := e9'
  unfold pdE Rep
  refine ⟨_, rfl, ?_, ?_⟩
  · simp only [Reps]
    exact ⟨_, _, rfl, by unfold Rep; exact ⟨rfl, h1⟩, _, _, rfl, by unfold Rep; exact ⟨rfl, h3⟩, _, _, rfl, rep_strs.2 hk, _, _, rfl, vals_rep h5 h6 hl, _, _, rfl, e4, _, _, rfl, e5, _, _, rfl, e6, _, _, rfl, e7, _, _, rfl, e8, _, _, rfl, e9, _, _, rfl, by unfold Rep; exact ⟨rfl, h2⟩, rfl⟩
  · intro u hu
    simp only [List.mem_cons, List.not_mem_nil, or_false] at hu
    rcases hu with rfl | rfl | rfl | rfl | rfl | rfl | rfl | rfl | rfl | rfl | rfl
    all_goals first
      | rfl
      | exact ho _ (by simp)
theorem isE_arg {x : EV} {v : Value} (h : Rep w F (pdE x) v) (hF : ∀ b, F b → b < w.heap.size) : IsE w (Btw 0 w.heap.size) x v := (rep_isE h).keep (fun _ _ => rfl) (fun b hb => ⟨Nat.zero_le _, hF b hb⟩)
end
section
variable {P : Program} {f : FuncId}
theorem pcall_E1 {x : EV} {y : PD} {R : World → World → Value → Prop} (h : ∀ w v, IsE w (Btw 0 w.heap.size) x v → Calls P f #[v] w fun e w' => ∃ r, e = .returned r ∧ Below w.heap.size w w' ∧ R w w' r)
    (hR : ∀ (w w' : World) (r : Value) (F : Nat → Prop), R w w' r → Rep w' (fun b => F b ∨ (w.heap.size ≤ b ∧ b < w'.heap.size)) y r) : PCall P f [pdE x] y := by
  intro w F vs hF hv
  unfold Reps at hv
  obtain ⟨v, r', rfl, hx, hr⟩ := hv
  unfold Reps at hr
  subst hr
  refine (h w v (isE_arg hx hF)).mono ?_
  rintro e w' ⟨r, he, hb, hRr⟩
  exact ⟨r, he, hb, hR w w' r F hRr⟩
end
def pdVal (j : JV) : PD := .iface 149 (.ptr (pdJ j))
def pdFld (f : ByteArray × JV) : PD := .agg [.val (.string f.1), pdVal f.2]
/-- Within Go's bounds. -/
def PEOk : PEV → Prop
  | .key fl => (∀ f ∈ fl, JOk f.2) ∧ fl.length * 32 ≤ 140737488351232
  | .val j => JOk j
  | _ => True
def pdPE : PEV → PD
  | .name s => .agg [.ptr (.val (.string s)), nilP, nilP, nilP]
  | .key fl => .agg [nilP, .ptr (.sl 2 32 (fl.map pdFld)), nilP, nilP]
  | .val j => .agg [nilP, nilP, .ptr (pdVal j), nilP]
  | .idx n => .agg [nilP, nilP, nilP, .ptr (.val (.int .i64 n))]
section
variable {w : World} {F : Nat → Prop}
theorem isVal_rep {j : JV} {v : Value} (h : IsVal w F j v) (hj : JOk j) : Rep w F (pdVal j) v := by
  obtain ⟨b, r, rfl, hb, hh, hr⟩ := h
  unfold pdVal Rep
  refine ⟨_, rfl, ?_⟩
  unfold Rep
  refine ⟨b, 0, r, rfl, hb, ?_, ?_⟩
  · unfold pdJ Rep; exact ⟨hr, hj⟩
  · intro k u hk
    rw [hr.cells] at hk
    cases k with
    | zero => simp at hk; subst hk; exact blk_c hh 0 rfl
    | succ k => simp at hk
theorem repL_fl {g : Nat} : ∀ (fl : List (ByteArray × JV)) {xs : List Value} {o : Nat}, FCells w F fl xs → (∀ j u, xs[j]? = some u → w.cell? ⟨g, o + j, none⟩ = some u) → (∀ f ∈ fl, JOk f.2) → RepL w F 2 (fl.map pdFld) g o
  | [], _, _, _, _, _ => by simp [RepL]
  | (k, j) :: r, xs, o, hx, hc, hok => by
    obtain ⟨c, xs', rfl, hz, hv, hr⟩ := hx
    have hj := hok _ (List.mem_cons_self ..)
    obtain ⟨b, q, ec, _⟩ := id hv
    rw [List.map_cons]
    unfold RepL
    refine ⟨⟨.agg #[.string k, c], ?_, rfl, ?_, ?_⟩, repL_fl r hr (fun j' u hu => ?_) (fun f hf => hok f (List.mem_cons_of_mem _ hf))⟩
    · unfold pdFld Rep
      refine ⟨[.string k, c], rfl, ?_, ?_⟩
      · simp only [Reps]
        exact ⟨_, _, rfl, by unfold Rep; exact ⟨rfl, hz⟩, _, _, rfl, isVal_rep hv hj, rfl⟩
      · subst ec; simp [Value.oneCell']
    · subst ec; simp [Value.cells, Value.oneCell']
    · intro j' u hu
      refine hc j' u ?_
      match j', hu with
      | 0, hu => simpa [Value.cells] using hu
      | 1, hu => simpa [Value.cells] using hu
      | j' + 2, hu => simp [Value.cells] at hu
    · have := hc (2 + j') u (by rw [show 2 + j' = j' + 1 + 1 by omega]; simpa using hu)
      rwa [show o + (2 + j') = o + 2 + j' by omega] at this
theorem isPE_rep {p : PEV} {v : Value} (h : IsPE w F p v) (hp : PEOk p) : Rep w F (pdPE p) v := by
  have nilR : ∀ F', Rep w F' nilP (.pointer none) := fun F' => by unfold nilP Rep; exact ⟨rfl, trivial⟩
  cases p with
  | name s =>
    obtain ⟨b, rfl, hb, hh, hz⟩ := h
    unfold pdPE Rep
    refine ⟨_, rfl, ?_, by simp [Value.oneCell']⟩
    simp only [Reps]
    refine ⟨_, _, rfl, ?_, _, _, rfl, nilR _, _, _, rfl, nilR _, _, _, rfl, nilR _, rfl⟩
    unfold Rep
    refine ⟨b, 0, .string s, rfl, hb, by unfold Rep; exact ⟨rfl, hz⟩, fun k u hk => ?_⟩
    cases k with
    | zero => simp [Value.cells] at hk; subst hk; exact blk_c hh 0 rfl
    | succ k => simp [Value.cells] at hk
  | key fl =>
    obtain ⟨b, u, rfl, hb, hh, A, C, rfl, hC, hr⟩ := h
    obtain ⟨hok, hlen⟩ := hp
    unfold pdPE Rep
    refine ⟨_, rfl, ?_, by simp [Value.oneCell']⟩
    simp only [Reps]
    refine ⟨_, _, rfl, nilR _, _, _, rfl, ?_, _, _, rfl, nilR _, _, _, rfl, nilR _, rfl⟩
    unfold Rep
    refine ⟨b, 0, .slice A fl.length C, rfl, hb, ?_, fun k u hk => ?_⟩
    · unfold Rep
      rw [List.length_map]
      refine ⟨A, C, rfl, hC, hlen, by omega, ?_⟩
      rcases hr with rfl | ⟨g, o, xs, hg, rfl, hx, hc⟩
      · exact .inl rfl
      · exact .inr ⟨g, o, hg, rfl, repL_fl fl hx hc hok⟩
    · cases k with
      | zero => simp [Value.cells] at hk; subst hk; exact blk_c hh 0 rfl
      | succ k => simp [Value.cells] at hk
  | val j =>
    obtain ⟨b, u, rfl, hb, hh, hv⟩ := h
    unfold pdPE Rep
    refine ⟨_, rfl, ?_, by simp [Value.oneCell']⟩
    simp only [Reps]
    refine ⟨_, _, rfl, nilR _, _, _, rfl, nilR _, _, _, rfl, ?_, _, _, rfl, nilR _, rfl⟩
    have hR := isVal_rep hv hp
    obtain ⟨b', q, eu, _⟩ := id hv
    unfold Rep
    refine ⟨b, 0, u, rfl, hb, hR, fun k u' hk => ?_⟩
    subst eu
    cases k with
    | zero => simp [Value.cells] at hk; subst hk; exact blk_c hh 0 rfl
    | succ k => simp [Value.cells] at hk
  | idx n =>
    obtain ⟨b, rfl, hb, hh, hz⟩ := h
    unfold pdPE Rep
    refine ⟨_, rfl, ?_, by simp [Value.oneCell']⟩
    simp only [Reps]
    refine ⟨_, _, rfl, nilR _, _, _, rfl, nilR _, _, _, rfl, nilR _, _, _, rfl, ?_, rfl⟩
    unfold Rep
    refine ⟨b, 0, .int .i64 n, rfl, hb, by unfold Rep; exact ⟨rfl, hz⟩, fun k u hk => ?_⟩
    cases k with
    | zero => simp [Value.cells] at hk; subst hk; exact blk_c hh 0 rfl
    | succ k => simp [Value.cells] at hk
end
theorem toElem_p (x : EV) : PCall Tryz.prog 39 [pdE x] (pdPE (toPE x)) := by
  refine pcall_fits fun hf => ?_
  obtain ⟨w0, F0, v0, h0⟩ := hf (pdE x) (by simp)
  obtain ⟨ak, ck, a, c, c0, c1, c2, c3, c4, c5, e, h1, h2, h3, hk, h5, h6, hl, hv⟩ := rep_isE h0
  refine pcall_E1 (R := fun w w' r => IsPE w' (Btw w.heap.size w'.heap.size) (toPE x) r) (fun w v hv => toElem_any x w v hv) fun w w' r F h => ?_
  refine isPE_rep (h.keep (fun _ _ => rfl) (fun b hb => .inr hb)) ?_
  unfold toPE
  by_cases k1 : x.kind = 1
  · rw [if_pos k1]
    refine ⟨fun f hf => ?_, by rw [flE_length]; have := Nat.min_le_right x.keys.length x.l.length; omega⟩
    unfold flE at hf
    have hm := (List.of_mem_zip hf).2
    obtain ⟨y, hy, ey⟩ := List.mem_map.1 hm
    rw [← ey]
    refine plain_ok y ?_
    rcases hl with hl | ⟨b, o, hb, ha, hvs⟩
    · rw [hl] at hy; cases hy
    · obtain ⟨i, hi⟩ := List.getElem?_of_mem hy
      obtain ⟨u, hu, _⟩ := (isVs_repL _ hvs).at_ (pdVs_at hi)
      exact IsV.gok y (rep_isV y hu)
  · rw [if_neg k1]
    by_cases k2 : x.kind = 2
    · rw [if_pos k2]; exact plain_ok x.v (IsV.gok x.v hv)
    · rw [if_neg k2]
      by_cases k3 : x.kind = 3
      · rw [if_pos k3]; trivial
      · rw [if_neg k3]; trivial
theorem cleanE_p (x : EV) : PCall Tryz.prog 33 [pdE x] (pdE (cleanE x)) :=
  pcall_E1 (R := fun w w' r => IsE w' (Btw w.heap.size w'.heap.size) (cleanE x) r) (fun w v hv => cleanE_any x w v hv) fun w w' r F h => isE_rep (h.keep (fun _ _ => rfl) (fun b hb => .inr hb))
end Go.Proofs.YtbbacpdbbmjblaaGreat
end
section
set_option linter.unusedVariables false
namespace Go.Proofs.YtbbacpdbbmjblaaGreat
open Go.RowKit
set_option linter.unusedSimpArgs false
mutual
def renA (θ : Nat → Nat) : AV → AV
  | .any => .any
  | .dat d => .dat d
  | .ptr k off => .ptr (θ k) off
  | .own k => .own (θ k)
  | .agg l => .agg (renAs θ l)
  | .tup l => .tup (renAs θ l)
  | .iface t x => .iface t (renA θ x)
  | .clo f l => .clo f (renAs θ l)
  | .elt k n i off => .elt (θ k) n i off
def renAs (θ : Nat → Nat) : List AV → List AV
  | [] => []
  | x :: r => renA θ x :: renAs θ r
end
def renB (θ : Nat → Nat) : Blk → Blk
  | .box t cs => .box t (renAs θ cs)
  | .row e n y l => .row e n y l
  | .res R => .res R
  | .dead => .dead
theorem renB_kind (θ : Nat → Nat) (x : Blk) : (renB θ x).kind = x.kind := by cases x <;> rfl
theorem renB_live (θ : Nat → Nat) (x : Blk) : (renB θ x).live = x.live := by cases x <;> rfl
section
variable {w w' : World} {F F' : Nat → Prop} {t1 t2 : Nat → Option Blk} {ρ1 ρ2 : Nat → RV} {θ : Nat → Nat}
/-- From the callee's names to the caller's. -/
theorem heldK.ren (K : Nat → Prop) (hk : ∀ k x, t1 k = some x → t2 (θ k) = some (renB θ x) ∧ (ρ2 (θ k)).v = (ρ1 k).v) {k : Nat} {p : Value → Prop} (h : heldK t1 ρ1 k p) : heldK t2 ρ2 (θ k) p := by
  rcases h with ⟨x, h1, h2, h3⟩ | h1
  · obtain ⟨g1, g2⟩ := hk k x h1
    exact .inl ⟨_, g1, by rw [renB_kind]; exact h2, by rw [g2]; exact h3⟩
  · exact .inr (hk k _ h1).1
mutual
theorem VR.ren (hs : ∀ b, F b → F' b) (hk : ∀ k x, t1 k = some x → t2 (θ k) = some (renB θ x) ∧ (ρ2 (θ k)).v = (ρ1 k).v) : ∀ (x : AV) {v : Value}, VR w F t1 ρ1 x v → VR w F' t2 ρ2 (renA θ x) v
  | .any, v, _ => by unfold renA VR; trivial
  | .dat d, v, hv => by unfold renA; unfold VR at hv ⊢; exact hv.keep (fun _ _ => rfl) hs d
  | .ptr k off, v, hv => by
    unfold renA; unfold VR at hv ⊢
    obtain ⟨t, cs, b, h1, h2, h3⟩ := hv
    obtain ⟨g1, g2⟩ := hk k _ h1
    exact ⟨t, _, b, g1, g2.trans h2, h3⟩
  | .own k, v, hv => by unfold renA; unfold VR at hv ⊢; exact ⟨hv.1, hv.2.ren (fun _ => True) hk⟩
  | .elt k n i off, v, hv => by unfold renA; unfold VR at hv ⊢; exact ⟨hv.1, hv.2.ren (fun _ => True) hk⟩
  | .agg l, v, hv => by
    unfold renA; unfold VR at hv ⊢
    obtain ⟨vs, e, h1, h2⟩ := hv
    exact ⟨vs, e, VRs.ren hs hk l h1, h2⟩
  | .tup l, v, hv => by
    unfold renA; unfold VR at hv ⊢
    obtain ⟨vs, e, h1⟩ := hv
    exact ⟨vs, e, VRs.ren hs hk l h1⟩
  | .iface t x, v, hv => by
    unfold renA; unfold VR at hv ⊢
    obtain ⟨u, e, h1⟩ := hv
    exact ⟨u, e, VR.ren hs hk x h1⟩
  | .clo f l, v, hv => by
    unfold renA; unfold VR at hv ⊢
    obtain ⟨vs, e, h1⟩ := hv
    exact ⟨vs, e, VRs.ren hs hk l h1⟩
theorem VRs.ren (hs : ∀ b, F b → F' b) (hk : ∀ k x, t1 k = some x → t2 (θ k) = some (renB θ x) ∧ (ρ2 (θ k)).v = (ρ1 k).v) : ∀ (l : List AV) {vs : List Value}, VRs w F t1 ρ1 l vs → VRs w F' t2 ρ2 (renAs θ l) vs
  | [], vs, hv => by unfold renAs; unfold VRs at hv ⊢; exact hv
  | x :: r, vs, hv => by
    unfold renAs; unfold VRs at hv ⊢
    obtain ⟨v, q, e, h1, h2⟩ := hv
    exact ⟨v, q, e, VR.ren hs hk x h1, VRs.ren hs hk r h2⟩
end
/-- From the caller's names to the callee's: of the keys that the value bears. -/
theorem heldK.ner (K : Nat → Prop) (hk : ∀ k, K k → ∃ x, t1 k = some x ∧ t2 (θ k) = some (renB θ x) ∧ (ρ2 (θ k)).v = (ρ1 k).v) {k : Nat} (hK : K k) {p : Value → Prop} (h : heldK t2 ρ2 (θ k) p) : heldK t1 ρ1 k p := by
  obtain ⟨x, g0, g1, g2⟩ := hk k hK
  rcases h with ⟨y, h1, h2, h3⟩ | h1
  · rw [g1] at h1
    cases h1
    rw [renB_kind] at h2
    exact .inl ⟨x, g0, h2, by rw [← g2]; exact h3⟩
  · rw [g1] at h1
    simp only [Option.some.injEq] at h1
    refine .inr ?_
    cases x <;> simp [renB] at h1
    exact g0
mutual
theorem VR.ner (K : Nat → Prop) (hs : ∀ b, F b → F' b) (hk : ∀ k, K k → ∃ x, t1 k = some x ∧ t2 (θ k) = some (renB θ x) ∧ (ρ2 (θ k)).v = (ρ1 k).v) : ∀ (x : AV) {v : Value}, (∀ k ∈ keysA x, K k) → VR w F t2 ρ2 (renA θ x) v → VR w F' t1 ρ1 x v
  | .any, v, _, _ => by unfold VR; trivial
  | .dat d, v, _, hv => by unfold renA at hv; unfold VR at hv ⊢; exact hv.keep (fun _ _ => rfl) hs d
  | .ptr k off, v, hK, hv => by
    unfold renA at hv; unfold VR at hv ⊢
    obtain ⟨t, cs, b, h1, h2, h3⟩ := hv
    obtain ⟨x, g0, g1, g2⟩ := hk k (hK k (by simp [keysA]))
    rw [g1] at h1
    cases x <;> simp [renB] at h1
    exact ⟨_, _, b, g0, g2.symm.trans h2, h3⟩
  | .own k, v, hK, hv => by unfold renA at hv; unfold VR at hv ⊢; exact ⟨hv.1, hv.2.ner K hk (hK k (by simp [keysA]))⟩
  | .elt k n i off, v, hK, hv => by unfold renA at hv; unfold VR at hv ⊢; exact ⟨hv.1, hv.2.ner K hk (hK k (by simp [keysA]))⟩
  | .agg l, v, hK, hv => by
    unfold renA at hv; unfold VR at hv ⊢
    obtain ⟨vs, e, h1, h2⟩ := hv
    exact ⟨vs, e, VRs.ner K hs hk l (fun k h => hK k (by simpa [keysA] using h)) h1, h2⟩
  | .tup l, v, hK, hv => by
    unfold renA at hv; unfold VR at hv ⊢
    obtain ⟨vs, e, h1⟩ := hv
    exact ⟨vs, e, VRs.ner K hs hk l (fun k h => hK k (by simpa [keysA] using h)) h1⟩
  | .iface t x, v, hK, hv => by
    unfold renA at hv; unfold VR at hv ⊢
    obtain ⟨u, e, h1⟩ := hv
    exact ⟨u, e, VR.ner K hs hk x (fun k h => hK k (by simpa [keysA] using h)) h1⟩
  | .clo f l, v, hK, hv => by
    unfold renA at hv; unfold VR at hv ⊢
    obtain ⟨vs, e, h1⟩ := hv
    exact ⟨vs, e, VRs.ner K hs hk l (fun k h => hK k (by simpa [keysA] using h)) h1⟩
theorem VRs.ner (K : Nat → Prop) (hs : ∀ b, F b → F' b) (hk : ∀ k, K k → ∃ x, t1 k = some x ∧ t2 (θ k) = some (renB θ x) ∧ (ρ2 (θ k)).v = (ρ1 k).v) : ∀ (l : List AV) {vs : List Value}, (∀ k ∈ keysAs l, K k) → VRs w F t2 ρ2 (renAs θ l) vs → VRs w F' t1 ρ1 l vs
  | [], vs, _, hv => by unfold renAs at hv; unfold VRs at hv ⊢; exact hv
  | x :: r, vs, hK, hv => by
    unfold renAs at hv; unfold VRs at hv ⊢
    obtain ⟨v, q, e, h1, h2⟩ := hv
    exact ⟨v, q, e, VR.ner K hs hk x (fun k h => hK k (by simp only [keysAs, List.mem_append]; exact .inl h)) h1, VRs.ner K hs hk r (fun k h => hK k (by simp only [keysAs, List.mem_append]; exact .inr h)) h2⟩
end
end
/-- The blocks of a table lie in memory, apart from one another. -/
structure Lies2 (X : Base) (tb : Nat → Option Blk) (w : World) (ρ : Nat → RV) : Prop where
  blks : ∀ k x, tb k = some x → BR X w tb ρ k x
  apart : ∀ k k' b, liveB (tb k) = true → liveB (tb k') = true → (ρ k).fp b → (ρ k').fp b → k = k'
  lent : ∀ k, 1000 ≤ k → liveB (tb k) = true → (ρ k).v = X.rv k
/-- What a function answers where blocks (the keys from 1000 on) are lent to it: one of these results, with these blocks. -/
def ACall (P : Program) (f : FuncId) (az : List AV) (tbl : List (Nat × Blk)) {ι : Type} (out : ι → AV) (tbl' : ι → List (Nat × Blk)) : Prop :=
  ∀ (X : Base) (ρ : Nat → RV) (vs : List Value), X.P = P → (∀ b, X.L b ↔ ∃ k, liveB (lkB tbl k) = true ∧ (ρ k).fp b) → (∀ b, X.F0 b → ¬ X.L b) → Lies2 X (lkB tbl) X.w0 ρ → VRs X.w0 (FF X X.w0 (lkB tbl) ρ) (lkB tbl) ρ az vs →
    Calls P f vs.toArray X.w0 fun e w' => ∃ v i ρ', e = .returned v ∧ Bel X w' ∧ Lies2 X (lkB (tbl' i)) w' ρ' ∧ VR w' (FF X w' (lkB (tbl' i)) ρ') (lkB (tbl' i)) ρ' (out i) v
def startA (az : List AV) (tbl : List (Nat × Blk)) : Sta := { tm := fun i => match az[i]? with | some x => x | none => .any, tb := lkB tbl }
/-- What comes back out of the state s. -/
def resA (P : Program) (fn : Func) (r : AV) (s : Sta) : Prop := ∀ X a w, Conc X s a w → ∃ v, (results fn a.tmps).run P w = .ok v w ∧ ∀ ρ, ConcAt X s a w ρ → VR w (FF X w s.tb ρ) s.tb ρ r v
def QA (P : Program) (X : Base) (fn : Func) {ι : Type} (out : ι → AV) (tbl' : ι → List (Nat × Blk)) : Exit → Act → World → Prop :=
  fun e a w => (e = .normal ∨ e = .ret) ∧ ∃ s i, resA P fn (out i) s ∧ s.tb = lkB (tbl' i) ∧ Conc X s a w
def lentKeys : List (Nat × Blk) → Bool
  | [] => true
  | (k, _) :: r => Nat.ble 1000 k && lentKeys r
theorem lentKeys_spec : ∀ {l : List (Nat × Blk)}, lentKeys l = true → ∀ k x, lkB l k = some x → 1000 ≤ k
  | [], _, k, x, h => by simp [lkB] at h
  | (q, y) :: r, hl, k, x, h => by
    simp only [lentKeys, Bool.and_eq_true] at hl
    unfold lkB at h
    split at h
    · rename_i e; subst e; exact Nat.le_of_ble_eq_true hl.1
    · exact lentKeys_spec hl.2 k x h
theorem acall_of_run {P : Program} {f : FuncId} {fn : Func} {c : Code} {N : Nat} {az : List AV} {tbl : List (Nat × Blk)} {ι : Type} {out : ι → AV} {tbl' : ι → List (Nat × Blk)} (hf : P.funcs[f]? = some fn) (hb : fn.body = some c) (hN : fn.ntmps = N)
    (hle : (Nat.ble az.length N && Nat.ble N 1000) = true) (h : ∀ (X : Base), Run P X N (QA P X fn out tbl') [.code c] (startA az tbl)) : ACall P f az tbl out tbl' := by
  intro X0 ρ vs hP hL hFL hlie hvs
  refine calls_of_wp_defers hf hb ?_
  have hlen := hvs.length
  simp only [Bool.and_eq_true] at hle
  have hle1 := Nat.le_of_ble_eq_true hle.2
  have hle := Nat.le_of_ble_eq_true hle.1
  let X : Base := { w0 := X0.w0, F0 := X0.F0, L := X0.L, B := X0.B, N := N, P := P, rv := X0.rv, hF0 := X0.hF0, hB := X0.hB, hN := hle1 }
  have hsz : vs.toArray.size = az.length := by simpa using hlen
  have hc : Conc X (startA az tbl) { tmps := vs.toArray ++ Array.replicate (fn.ntmps - vs.toArray.size) undef, defers := [] } X0.w0 := by
    refine ⟨ρ, by simp [X]; omega, (fun d hd => by cases hd), Bel.refl X, fun t => ?_, hlie.blks, hlie.apart, hlie.lent⟩
    show VR _ _ _ _ (match az[t]? with | some x => x | none => .any) _
    cases hd : az[t]? with
    | none => simp only; unfold VR; trivial
    | some d =>
      simp only
      obtain ⟨v, hv, hr⟩ := hvs.at_ hd
      have hlt : t < vs.length := (List.getElem?_eq_some_iff.1 hv).1
      have : (vs.toArray ++ Array.replicate (fn.ntmps - vs.toArray.size) undef).getD t undef = v := by
        rw [Array.getD_eq_getD_getElem?, Array.getElem?_append_left (by simpa using hlt)]
        simp [hv]
      rw [this]
      exact hr
  have hrun := (h X).out ⟨rfl, rfl⟩ _ _ hc
  refine wp_mono hrun ?_
  rintro e a' w' ⟨he, s', i, hres, htb, hcon⟩
  have hpost : Leaves P fn a'.tmps (fun e w' => ∃ v i ρ', e = .returned v ∧ Bel X0 w' ∧ Lies2 X0 (lkB (tbl' i)) w' ρ' ∧ VR w' (FF X0 w' (lkB (tbl' i)) ρ') (lkB (tbl' i)) ρ' (out i) v) a'.defers .returning w' := by
    obtain ⟨ρ0, hρ0⟩ := hcon
    refine leaves_harmless hρ0.defers fun w'' hb'' => ?_
    have hρ := hρ0.grow hb''
    obtain ⟨v, hv, hrep⟩ := hres X a' w'' ⟨ρ0, hρ⟩
    have h1 := hrep ρ0 hρ
    rw [htb] at h1
    refine ⟨v, hv, v, i, ρ0, rfl, ⟨hρ.below.os, hρ.below.tape, hρ.below.output, hρ.below.size, hρ.below.block⟩, ⟨?_, ?_, ?_⟩, h1⟩
    · intro k x hk; have := hρ.blks k x (by rw [htb]; exact hk); rw [htb] at this; exact this
    · intro k k' b h1 h2; exact hρ.apart k k' b (by rw [htb]; exact h1) (by rw [htb]; exact h2)
    · intro k hk h1; exact hρ.lent k hk (by rw [htb]; exact h1)
  rcases he with rfl | rfl <;> exact hpost
end Go.Proofs.YtbbacpdbbmjblaaGreat
set_option linter.unusedVariables false
namespace Go.Proofs.YtbbacpdbbmjblaaGreat
open Go.RowKit
set_option linter.unusedSimpArgs false
/-- The callee's table, laid over the caller's by other names. -/
def mergeT (θ : Nat → Nat) : List (Nat × Blk) → (Nat → Option Blk) → Nat → Option Blk
  | [], tb => tb
  | (k, x) :: r, tb => upd (mergeT θ r tb) (θ k) (some (renB θ x))
def mergeR (θ : Nat → Nat) (ρ' : Nat → RV) : List (Nat × Blk) → (Nat → RV) → Nat → RV
  | [], ρ => ρ
  | (k, _) :: r, ρ => upd (mergeR θ ρ' r ρ) (θ k) (ρ' k)
def Sta.lend (s : Sta) (θ : Nat → Nat) (l : List (Nat × Blk)) : Sta := { tm := s.tm, tb := mergeT θ l s.tb }
/-- The caller has these blocks. -/
def TbOk (s : Sta) (θ : Nat → Nat) : List (Nat × Blk) → Prop
  | [] => True
  | (k, x) :: r => s.tb (θ k) = some (renB θ x) ∧ TbOk s θ r
/-- Those that are new are free names. -/
def FreshOk (s : Sta) (θ : Nat → Nat) : List (Nat × Blk) → Prop
  | [] => True
  | (k, _) :: r => (Nat.ble 1000 k = true ∨ (s.tb (θ k) = none ∧ Nat.blt (θ k) 1000 = true)) ∧ FreshOk s θ r
/-- The same as a test. -/
def freshB (s : Sta) (θ : Nat → Nat) : List (Nat × Blk) → Bool
  | [] => true
  | (k, _) :: r => (Nat.ble 1000 k || ((s.tb (θ k)).isNone && Nat.blt (θ k) 1000)) && freshB s θ r
theorem freshB_ok {s : Sta} {θ : Nat → Nat} : ∀ {l : List (Nat × Blk)}, freshB s θ l = true → FreshOk s θ l
  | [], _ => trivial
  | (k, _) :: r, h => by
    simp only [freshB, Bool.and_eq_true, Bool.or_eq_true] at h
    exact ⟨h.1.imp id (fun h => ⟨Option.isNone_iff_eq_none.1 h.1, h.2⟩), freshB_ok h.2⟩
def hasKey (l : List (Nat × Blk)) (k : Nat) : Bool := (lkB l k).isSome
/-- All that was lent comes back, of its kind. -/
def backOk (l' : List (Nat × Blk)) : List (Nat × Blk) → Bool
  | [] => true
  | (k, x) :: r => (match lkB l' k with | some y => Nat.beq y.kind x.kind || (Nat.beq y.kind 2 && !Nat.beq x.kind 0) | none => false) && backOk l' r
def lentSub (l : List (Nat × Blk)) : List (Nat × Blk) → Bool
  | [] => true
  | (k, _) :: r => (Nat.blt k 1000 || hasKey l k) && lentSub l r
def lendOk1 (θ : Nat → Nat) (az : List AV) (l : List (Nat × Blk)) : Bool := lentKeys l && injOn θ l && keysInB l l && (keysAs az).all (fun k => (l.map (·.1)).contains k)
def lendOk2 (θ : Nat → Nat) (l l' : List (Nat × Blk)) : Bool := injOn θ l' && backOk l' l && lentSub l l'
theorem lkB_mem : ∀ {l : List (Nat × Blk)} {k : Nat} {x : Blk}, lkB l k = some x → (k, x) ∈ l
  | [], _, _, h => by simp [lkB] at h
  | (q, y) :: r, k, x, h => by
    unfold lkB at h
    split at h
    · rename_i e; subst e; simp only [Option.some.injEq] at h; subst h; exact List.mem_cons_self ..
    · exact List.mem_cons_of_mem _ (lkB_mem h)
theorem lkB_some : ∀ {l : List (Nat × Blk)} {k : Nat} {x : Blk}, (k, x) ∈ l → ∃ y, lkB l k = some y
  | (q, y) :: r, k, x, h => by
    unfold lkB
    split
    · exact ⟨_, rfl⟩
    · rename_i hne
      rcases List.mem_cons.1 h with h | h
      · cases h; exact absurd rfl hne
      · exact lkB_some h
theorem injOn_spec {θ : Nat → Nat} : ∀ {l : List (Nat × Blk)}, injOn θ l = true → ∀ {k k' : Nat} {b b' : Blk}, (k, b) ∈ l → (k', b') ∈ l → θ k = θ k' → k = k'
  | [], _, _, _, _, _, h, _, _ => by cases h
  | (t', y) :: r, hl, k, k', b, b', h, h', e => by
    simp only [injOn, Bool.and_eq_true] at hl
    have key : ∀ k2 b2, (k2, b2) ∈ r → θ t' = θ k2 → t' = k2 := by
      intro k2 b2 hm he
      have := List.all_eq_true.1 hl.1 (k2, b2) hm
      simp only [Bool.or_eq_true, Bool.not_eq_true'] at this
      rcases this with h1 | h1
      · rw [he, Nat.beq_refl] at h1; cases h1
      · exact Nat.eq_of_beq_eq_true h1
    rcases List.mem_cons.1 h with h1 | h1 <;> rcases List.mem_cons.1 h' with h2 | h2
    · cases h1; cases h2; rfl
    · cases h1; exact key _ _ h2 e
    · cases h2; exact (key _ _ h1 e.symm).symm
    · exact injOn_spec hl.2 h1 h2 e
theorem mergeT_at {θ : Nat → Nat} {tb : Nat → Option Blk} : ∀ {l : List (Nat × Blk)}, injOn θ l = true → ∀ {k : Nat} {x : Blk}, lkB l k = some x → mergeT θ l tb (θ k) = some (renB θ x)
  | [], _, k, x, h => by simp [lkB] at h
  | (q, y) :: r, hl, k, x, h => by
    have hm := lkB_mem h
    unfold lkB at h
    unfold mergeT
    split at h
    · rename_i e; subst e; simp only [Option.some.injEq] at h; subst h; exact upd_same _ _ _
    · rename_i hne
      rw [upd_ne _ _ (fun e => hne (injOn_spec hl hm (List.mem_cons_self ..) e))]
      simp only [injOn, Bool.and_eq_true] at hl
      exact mergeT_at hl.2 h
theorem mergeR_at {θ : Nat → Nat} {ρ ρ' : Nat → RV} : ∀ {l : List (Nat × Blk)}, injOn θ l = true → ∀ {k : Nat} {x : Blk}, lkB l k = some x → mergeR θ ρ' l ρ (θ k) = ρ' k
  | [], _, k, x, h => by simp [lkB] at h
  | (q, y) :: r, hl, k, x, h => by
    have hm := lkB_mem h
    unfold lkB at h
    unfold mergeR
    split at h
    · rename_i e; subst e; exact upd_same _ _ _
    · rename_i hne
      rw [upd_ne _ _ (fun e => hne (injOn_spec hl hm (List.mem_cons_self ..) e))]
      simp only [injOn, Bool.and_eq_true] at hl
      exact mergeR_at hl.2 h
/-- A name of the caller's is one of the callee's, or is not touched. -/
theorem merge_or (θ : Nat → Nat) (tb : Nat → Option Blk) (ρ ρ' : Nat → RV) : ∀ (l : List (Nat × Blk)) (j : Nat), (∃ k x, lkB l k = some x ∧ θ k = j) ∨ ((∀ k x, (k, x) ∈ l → θ k ≠ j) ∧ mergeT θ l tb j = tb j ∧ mergeR θ ρ' l ρ j = ρ j)
  | [], j => .inr ⟨(fun _ _ h => by cases h), rfl, rfl⟩
  | (q, y) :: r, j => by
    by_cases e : θ q = j
    · exact .inl ⟨q, y, by simp [lkB], e⟩
    · rcases merge_or θ tb ρ ρ' r j with ⟨k, x, h1, h2⟩ | ⟨h1, h2, h3⟩
      · refine .inl ⟨k, x, ?_, h2⟩
        unfold lkB
        rw [if_neg (fun e' => e (by rw [← e']; exact h2))]
        exact h1
      · refine .inr ⟨fun k x hm => ?_, ?_, ?_⟩
        · rcases List.mem_cons.1 hm with h | h
          · cases h; exact e
          · exact h1 k x h
        · unfold mergeT; rw [upd_ne _ _ (Ne.symm e)]; exact h2
        · unfold mergeR; rw [upd_ne _ _ (Ne.symm e)]; exact h3
theorem TbOk.at_ {s : Sta} {θ : Nat → Nat} : ∀ {l : List (Nat × Blk)}, TbOk s θ l → ∀ {k : Nat} {x : Blk}, lkB l k = some x → s.tb (θ k) = some (renB θ x)
  | [], _, k, x, h => by simp [lkB] at h
  | (q, y) :: r, hl, k, x, h => by
    unfold lkB at h
    split at h
    · rename_i e; subst e; simp only [Option.some.injEq] at h; subst h; exact hl.1
    · exact TbOk.at_ hl.2 h
theorem FreshOk.at_ {s : Sta} {θ : Nat → Nat} : ∀ {l : List (Nat × Blk)}, FreshOk s θ l → ∀ {k : Nat} {x : Blk}, lkB l k = some x → 1000 ≤ k ∨ (s.tb (θ k) = none ∧ θ k < 1000)
  | [], _, k, x, h => by simp [lkB] at h
  | (q, y) :: r, hl, k, x, h => by
    unfold lkB at h
    split at h
    · rename_i e; subst e; exact hl.1.imp Nat.le_of_ble_eq_true (fun h => ⟨h.1, Nat.blt_eq.mp h.2⟩)
    · exact FreshOk.at_ hl.2 h
theorem backOk_at {l' : List (Nat × Blk)} : ∀ {l : List (Nat × Blk)}, backOk l' l = true → ∀ {k : Nat} {x : Blk}, lkB l k = some x → ∃ y, lkB l' k = some y ∧ (y.kind = x.kind ∨ (y = .dead ∧ x.kind ≠ 0))
  | [], _, k, x, h => by simp [lkB] at h
  | (q, y) :: r, hl, k, x, h => by
    simp only [backOk, Bool.and_eq_true] at hl
    unfold lkB at h
    split at h
    · rename_i e; subst e; simp only [Option.some.injEq] at h; subst h
      have h1 := hl.1
      split at h1
      · rename_i z hz
        refine ⟨z, hz, ?_⟩
        simp only [Bool.or_eq_true, Bool.and_eq_true, Bool.not_eq_true'] at h1
        rcases h1 with h1 | ⟨h1, h2⟩
        · exact .inl (Nat.eq_of_beq_eq_true h1)
        · right
          have e2 := Nat.eq_of_beq_eq_true h1
          have e4 : z = .dead := by cases z <;> first | rfl | (simp [Blk.kind] at e2)
          refine ⟨e4, fun e3 => ?_⟩
          rw [e3] at h2; simp at h2
      · cases h1
    · exact backOk_at hl.2 h
theorem lentSub_at {l : List (Nat × Blk)} : ∀ {l' : List (Nat × Blk)}, lentSub l l' = true → ∀ {k : Nat} {x : Blk}, lkB l' k = some x → 1000 ≤ k → ∃ y, lkB l k = some y
  | [], _, k, x, h, _ => by simp [lkB] at h
  | (q, y) :: r, hl, k, x, h, hk => by
    simp only [lentSub, Bool.and_eq_true, Bool.or_eq_true] at hl
    unfold lkB at h
    split at h
    · rename_i e; subst e
      rcases hl.1 with h1 | h1
      · have := Nat.blt_eq.mp h1; omega
      · exact Option.isSome_iff_exists.1 h1
    · exact lentSub_at hl.2 h hk
theorem keysInB_at {l0 : List (Nat × Blk)} : ∀ {l : List (Nat × Blk)}, keysInB l0 l = true → ∀ {k t : Nat} {cs : List AV}, lkB l k = some (.box t cs) → ∀ k' ∈ keysAs cs, ∃ y, lkB l0 k' = some y
  | [], _, k, t, cs, h => by simp [lkB] at h
  | (q, y) :: r, hl, k, t, cs, h => by
    unfold lkB at h
    split at h
    · rename_i e; subst e; simp only [Option.some.injEq] at h; subst h
      simp only [keysInB, Bool.and_eq_true] at hl
      intro k' hk'
      have := List.all_eq_true.1 hl.1 k' hk'
      simp only [List.contains_iff_mem, List.mem_map] at this
      obtain ⟨p, hp, rfl⟩ := this
      exact lkB_some (x := p.2) hp
    · have : keysInB l0 r = true := by
        cases y <;> simp only [keysInB, Bool.and_eq_true] at hl <;> first | exact hl.2 | exact hl
      exact keysInB_at this h
section
variable {P : Program} {X : Base} {s s' : Sta} {a : Act} {w w' : World} {ρ : Nat → RV}
theorem VRs_args (h : ConcAt X s a w ρ) : ∀ {xs : List Operand} {az : List AV}, xs.map s.ev = az → VRs w (FF X w s.tb ρ) s.tb ρ az (xs.map a.eval)
  | [], _, e => by subst e; simp [VRs]
  | x :: r, _, e => by
    subst e
    simp only [List.map_cons]
    unfold VRs
    exact ⟨_, _, rfl, h.ev x, VRs_args h rfl⟩
/-- What a call to which memory is lent does. -/
theorem ConcAt.acall (hc : ConcAt X s a w ρ) (hP : X.P = P) {f : FuncId} {az : List AV} {tbl : List (Nat × Blk)} {ι : Type} {out : ι → AV} {tbl' : ι → List (Nat × Blk)} (θ : Nat → Nat) (hr : ACall P f az tbl out tbl') (htb : TbOk s θ tbl)
    (hfr : ∀ i, FreshOk s θ (tbl' i)) (hok1 : lendOk1 θ az tbl = true) (hok : ∀ i, lendOk2 θ tbl (tbl' i) = true) {vs : List Value} (hvs : VRs w (FF X w s.tb ρ) s.tb ρ (renAs θ az) vs) :
    Calls P f vs.toArray w fun e w' => ∃ v i ρ', e = .returned v ∧ ConcAt X (s.lend θ (tbl' i)) a w' ρ' ∧ VR w' (FF X w' (s.lend θ (tbl' i)).tb ρ') (s.lend θ (tbl' i)).tb ρ' (renA θ (out i)) v := by
  simp only [lendOk1, Bool.and_eq_true] at hok1
  obtain ⟨⟨⟨hlk, hinj⟩, hkb⟩, hka⟩ := hok1
  have hlk := lentKeys_spec hlk
  let L : Nat → Prop := fun b => ∃ k, liveB (lkB tbl k) = true ∧ (ρ (θ k)).fp b
  let Y : Base := { w0 := w, F0 := FF X w s.tb ρ, L := L, B := X.B, N := 0, P := P, rv := fun k => (ρ (θ k)).v, hF0 := fun b hb => hb.2.1, hB := hc.below.sizeB, hN := by omega }
  have hliveS : ∀ k x, lkB tbl k = some x → s.tb (θ k) = some (renB θ x) := fun k x h => htb.at_ h
  have hlive : ∀ k, liveB (lkB tbl k) = true → liveB (s.tb (θ k)) = true := by
    intro k h
    obtain ⟨x, hx, hl⟩ := live_some h
    rw [hliveS k x hx]
    show (renB θ x).live = true
    rw [renB_live]; exact hl
  have hmayX : ∀ k b, liveB (lkB tbl k) = true → (ρ (θ k)).fp b → X.may b ∧ b < w.heap.size := by
    intro k b h hb
    obtain ⟨x, hx, hl⟩ := live_some (hlive k h)
    exact hc.rowBlk hx hl hb
  have hFY : ∀ b, FF X w s.tb ρ b → FF Y w (lkB tbl) (fun k => ρ (θ k)) b := fun b hb => ⟨.inl hb, hb.2.1, fun k hk e => hb.2.2 (θ k) (hlive k hk) e⟩
  have hdisj : ∀ b, FF X w s.tb ρ b → ¬ L b := fun b hb ⟨k, hk, e⟩ => hb.2.2 (θ k) (hlive k hk) e
  have hnk : ∀ k, (∃ x, lkB tbl k = some x) → ∃ x, lkB tbl k = some x ∧ s.tb (θ k) = some (renB θ x) ∧ (ρ (θ k)).v = ((fun k => ρ (θ k)) k).v := fun k ⟨x, hx⟩ => ⟨x, hx, hliveS k x hx, rfl⟩
  have hlie : Lies2 Y (lkB tbl) w (fun k => ρ (θ k)) := by
    refine ⟨fun k x hx => ?_, fun k k' b h1 h2 e1 e2 => ?_, fun k _ _ => rfl⟩
    · have h1 := hc.blks (θ k) _ (hliveS k x hx)
      cases x with
      | box t cs =>
        obtain ⟨b, vs, e, g1, g2, g3, g4⟩ := h1
        refine ⟨b, vs, e, .inr ⟨k, by rw [hx]; rfl, by rw [e]; rfl⟩, g2, VRs.ner (fun k => ∃ x, lkB tbl k = some x) hFY hnk cs (fun k' hk' => keysInB_at hkb hx k' hk') g3, g4⟩
      | row e n y l =>
        obtain ⟨xs, g0, gm, g1, g2, g3, g4⟩ := h1
        refine ⟨xs, g0, fun b hb => .inr ⟨k, by rw [hx]; rfl, ?_⟩, g1, g2.keep (fun _ _ => rfl) hFY, g3, g4⟩
        show (ρ (θ k)).fp b
        rw [g0]; exact own_blkOf hb
      | res R =>
        obtain ⟨g1, g2⟩ := h1
        exact ⟨R.keep _ _ _ _ _ _ (fun _ _ => rfl) hFY (fun _ _ => rfl) g1, fun b hb => ⟨.inr ⟨k, by rw [hx]; rfl, hb⟩, (g2 b hb).2⟩⟩
      | dead => trivial
    · obtain ⟨x, hx, _⟩ := live_some h1
      obtain ⟨x', hx', _⟩ := live_some h2
      exact injOn_spec hinj (lkB_mem hx) (lkB_mem hx') (hc.apart (θ k) (θ k') b (hlive k h1) (hlive k' h2) e1 e2)
  have hargs : VRs w (FF Y w (lkB tbl) (fun k => ρ (θ k))) (lkB tbl) (fun k => ρ (θ k)) az vs := by
    refine VRs.ner (fun k => ∃ x, lkB tbl k = some x) hFY hnk az (fun k hk => ?_) hvs
    have := List.all_eq_true.1 hka k hk
    simp only [List.contains_iff_mem, List.mem_map] at this
    obtain ⟨p, hp, rfl⟩ := this
    exact lkB_some (x := p.2) hp
  refine (hr Y (fun k => ρ (θ k)) vs rfl (fun b => Iff.rfl) hdisj hlie hargs).mono ?_
  rintro e w' ⟨v, i, ρ', rfl, hbel, hl', hv⟩
  have hokI := hok i
  simp only [lendOk2, Bool.and_eq_true] at hokI
  obtain ⟨⟨hinj', hback⟩, hsub⟩ := hokI
  have hsz : w.heap.size ≤ w'.heap.size := hbel.size
  have hsame : ∀ b, b < w.heap.size → ¬ L b → w'.heap[b]? = w.heap[b]? := hbel.block
  -- footprints of what came back
  have hnewfp : ∀ k b, liveB (lkB (tbl' i) k) = true → (ρ' k).fp b → (w.heap.size ≤ b ∨ L b) ∧ b < w'.heap.size := by
    intro k b hk hb
    obtain ⟨x, hx, hl⟩ := live_some hk
    have h1 := hl'.blks k x hx
    cases x with
    | box t cs =>
      obtain ⟨b', vs', e, g1, g2, _⟩ := h1
      rw [e] at hb
      have hb : some b' = some b := hb
      cases hb
      exact ⟨g1, (Array.getElem?_eq_some_iff.1 g2).1⟩
    | row e n y l =>
      obtain ⟨xs, g0, gm, g1, _⟩ := h1
      rw [g0] at hb
      have hb : blkOf (ρ' k).v = some b := hb
      have ho : (ρ' k).v.ownBlock = some b := by
        rcases g1.2 with ⟨e, _⟩ | ⟨g, cap, cur, e, _⟩
        · rw [e] at hb; simp [blkOf] at hb
        · rw [e] at hb ⊢; simpa [blkOf, Value.ownBlock] using hb
      exact ⟨gm b ho, (g1.lt b ho).2⟩
    | res R => exact h1.2 b hb
    | dead => cases hl
  let ρn : Nat → RV := mergeR θ ρ' (tbl' i) ρ
  have hat : ∀ k x, lkB (tbl' i) k = some x → (s.lend θ (tbl' i)).tb (θ k) = some (renB θ x) ∧ ρn (θ k) = ρ' k := fun k x h => ⟨mergeT_at hinj' h, mergeR_at hinj' h⟩
  have hor := merge_or θ s.tb ρ ρ' (tbl' i)
  -- a live name of the new table
  have hnl : ∀ j, liveB ((s.lend θ (tbl' i)).tb j) = true → (∃ k, θ k = j ∧ liveB (lkB (tbl' i) k) = true) ∨ ((∀ k x, (k, x) ∈ tbl' i → θ k ≠ j) ∧ liveB (s.tb j) = true ∧ ρn j = ρ j) := by
    intro j hj
    rcases hor j with ⟨k, x, h1, h2⟩ | ⟨h1, h2, h3⟩
    · refine .inl ⟨k, h2, ?_⟩
      subst h2
      rw [(hat k x h1).1] at hj
      rw [h1]
      have : (renB θ x).live = true := hj
      rwa [renB_live] at this
    · exact .inr ⟨h1, by rw [← h2]; exact hj, h3⟩
  -- names that were not lent own nothing that was
  have hfar : ∀ j b, (∀ k x, (k, x) ∈ tbl' i → θ k ≠ j) → liveB (s.tb j) = true → (ρ j).fp b → ¬ L b ∧ b < w.heap.size := by
    intro j b hj hl hb
    obtain ⟨x, hx, hxl⟩ := live_some hl
    refine ⟨fun ⟨k, hk, e⟩ => ?_, (hc.rowBlk hx hxl hb).2⟩
    have := hc.apart j (θ k) b hl (hlive k hk) hb e
    obtain ⟨y, hy, _⟩ := live_some hk
    obtain ⟨z, hz, _⟩ := backOk_at hback hy
    exact hj k z (lkB_mem hz) this.symm
  have hFF : ∀ b, FF X w s.tb ρ b → FF X w' (s.lend θ (tbl' i)).tb ρn b := by
    intro b hb
    refine ⟨hb.1, Nat.lt_of_lt_of_le hb.2.1 hsz, fun j hj e => ?_⟩
    rcases hnl j hj with ⟨k, rfl, hk⟩ | ⟨_, h2, h3⟩
    · obtain ⟨x, hx, _⟩ := live_some hk
      rw [(hat k x hx).2] at e
      rcases (hnewfp k b hk e).1 with h | h
      · have := hb.2.1; omega
      · exact hdisj b hb h
    · rw [h3] at e; exact hb.2.2 j h2 e
  have hFN : ∀ b, FF Y w' (lkB (tbl' i)) ρ' b → FF X w' (s.lend θ (tbl' i)).tb ρn b := by
    intro b hb
    have hm : X.F0 b ∨ X.may b := by
      rcases hb.1 with h | h | ⟨k, hk, e⟩
      · exact h.1
      · exact .inr (.inl (Nat.le_trans hc.below.size h))
      · exact .inr (hmayX k b hk e).1
    refine ⟨hm, hb.2.1, fun j hj e => ?_⟩
    rcases hnl j hj with ⟨k, rfl, hk⟩ | ⟨h1, h2, h3⟩
    · obtain ⟨x, hx, _⟩ := live_some hk
      rw [(hat k x hx).2] at e
      exact hb.2.2 k hk e
    · rw [h3] at e
      obtain ⟨g1, g2⟩ := hfar j b h1 h2 e
      rcases hb.1 with h | h | h
      · exact h.2.2 j h2 e
      · have h : w.heap.size ≤ b := h
        omega
      · exact g1 h
  have hkk : ∀ j x, s.tb j = some x → ∃ x', (s.lend θ (tbl' i)).tb j = some x' ∧ ((x'.kind = x.kind ∧ (ρn j).v = (ρ j).v) ∨ (x' = .dead ∧ x.kind ≠ 0)) := by
    intro j x hx
    rcases hor j with ⟨k, y, h1, h2⟩ | ⟨_, h2, h3⟩
    · subst h2
      obtain ⟨g1, g2⟩ := hat k y h1
      rcases (hfr i).at_ h1 with hk | ⟨hk, _⟩
      · obtain ⟨z, hz⟩ := lentSub_at hsub h1 hk
        have hz' := hliveS k z hz
        rw [hx] at hz'
        simp only [Option.some.injEq] at hz'
        subst hz'
        obtain ⟨y', hy', hkind⟩ := backOk_at hback hz
        rw [h1] at hy'
        cases hy'
        refine ⟨_, g1, ?_⟩
        rcases hkind with hkind | ⟨rfl, hkind⟩
        · by_cases hyl : y.live = true
          · left
            refine ⟨by rw [renB_kind, renB_kind]; exact hkind, ?_⟩
            rw [g2]
            exact hl'.lent k hk (by rw [h1]; exact hyl)
          · cases y <;> simp [Blk.live] at hyl
            right
            refine ⟨rfl, ?_⟩
            rw [renB_kind, ← hkind]; simp [Blk.kind]
        · exact .inr ⟨rfl, by rw [renB_kind]; exact hkind⟩
      · rw [hx] at hk; cases hk
    · exact ⟨x, by rw [← hx]; exact h2, .inl ⟨rfl, congrArg RV.v h3⟩⟩
  have hFsame : ∀ b, FF X w s.tb ρ b → w'.heap[b]? = w.heap[b]? := fun b hb => hsame b hb.2.1 (hdisj b hb)
  have hren : ∀ k x, lkB (tbl' i) k = some x → (s.lend θ (tbl' i)).tb (θ k) = some (renB θ x) ∧ (ρn (θ k)).v = (ρ' k).v := fun k x h => ⟨(hat k x h).1, congrArg RV.v (hat k x h).2⟩
  refine ⟨v, i, ρn, rfl, ⟨hc.size, hc.defers, ?_, fun t => (hc.tmps t).keep hFsame hFF hkk, fun j x hx => ?_, fun j j' b h1 h2 e1 e2 => ?_, fun j hj hl => ?_⟩, hv.ren hFN hren⟩
  · exact hc.below.step hbel.os hbel.tape hbel.output hsz (fun b hb hm => hsame b hb (fun ⟨k, hk, e⟩ => hm (hmayX k b hk e).1))
  · rcases hor j with ⟨k, y, h1, h2⟩ | ⟨h1, h2, h3⟩
    · subst h2
      obtain ⟨g1, g2⟩ := hat k y h1
      have hx' : mergeT θ (tbl' i) s.tb (θ k) = some x := hx
      have g1' : mergeT θ (tbl' i) s.tb (θ k) = some (renB θ y) := g1
      rw [hx'] at g1'
      simp only [Option.some.injEq] at g1'
      subst g1'
      have hb := hl'.blks k y h1
      have hmm : ∀ b, Y.may b → X.may b := by
        rintro b (h | ⟨k, hk, e⟩)
        · exact .inl (Nat.le_trans hc.below.size h)
        · exact (hmayX k b hk e).1
      cases y with
      | box t cs =>
        obtain ⟨b, vs', e, q1, q2, q3, q4⟩ := hb
        exact ⟨b, vs', g2.trans e, hmm b q1, q2, q3.ren hFN hren, q4⟩
      | row e n y l =>
        obtain ⟨xs, q0, qm, q1, q2, q3, q4⟩ := hb
        refine ⟨xs, by rw [g2]; exact q0, fun b hb => hmm b (qm b (by rw [g2] at hb; exact hb)), by rw [g2]; exact q1, q2.keep (fun _ _ => rfl) hFN, q3, q4⟩
      | res R =>
        obtain ⟨q1, q2⟩ := hb
        refine ⟨?_, fun b hb => ?_⟩
        · rw [g2]; exact R.keep _ _ _ _ _ _ (fun _ _ => rfl) hFN (fun _ _ => rfl) q1
        · rw [g2] at hb; exact ⟨hmm b (q2 b hb).1, (q2 b hb).2⟩
      | dead => trivial
    · have hx' : s.tb j = some x := by rw [← h2]; exact hx
      exact (hc.blks j x hx').keep hFsame hFF hkk h3 (fun b hl hf => by
        obtain ⟨q1, q2⟩ := hfar j b h1 (by rw [hx']; exact hl) hf
        exact hsame b q2 q1) hsz
  · rcases hnl j h1 with ⟨k, rfl, hk⟩ | ⟨g1, g2, g3⟩ <;> rcases hnl j' h2 with ⟨k', rfl, hk'⟩ | ⟨g1', g2', g3'⟩
    · obtain ⟨x, hx, _⟩ := live_some hk
      obtain ⟨x', hx', _⟩ := live_some hk'
      rw [(hat k x hx).2] at e1
      rw [(hat k' x' hx').2] at e2
      rw [hl'.apart k k' b hk hk' e1 e2]
    · exfalso
      obtain ⟨x, hx, _⟩ := live_some hk
      rw [(hat k x hx).2] at e1
      rw [g3'] at e2
      obtain ⟨q1, q2⟩ := hfar j' b g1' g2' e2
      rcases (hnewfp k b hk e1).1 with h | h
      · omega
      · exact q1 h
    · exfalso
      obtain ⟨x, hx, _⟩ := live_some hk'
      rw [(hat k' x hx).2] at e2
      rw [g3] at e1
      obtain ⟨q1, q2⟩ := hfar j b g1 g2 e1
      rcases (hnewfp k' b hk' e2).1 with h | h
      · omega
      · exact q1 h
    · rw [g3] at e1; rw [g3'] at e2
      exact hc.apart j j' b g2 g2' e1 e2
  · rcases hnl j hl with ⟨k, rfl, hk⟩ | ⟨g1, g2, g3⟩
    · obtain ⟨x, hx, hxl⟩ := live_some hk
      rw [(hat k x hx).2]
      rcases (hfr i).at_ hx with h | ⟨_, h⟩
      · have e1 := hl'.lent k h hk
        rw [e1]
        obtain ⟨z, hz⟩ := lentSub_at hsub hx h
        obtain ⟨y', hy', hkind⟩ := backOk_at hback hz
        rw [hx] at hy'
        cases hy'
        have hzl : liveB (lkB tbl k) = true := by
          rw [hz]
          rcases hkind with hkind | ⟨rfl, _⟩
          · cases z <;> first | rfl | (cases x <;> simp [Blk.kind] at hkind <;> cases hxl)
          · cases hxl
        exact hc.lent (θ k) hj (hlive k hzl)
      · omega
    · rw [g3]; exact hc.lent j hj g2
def thk : List (Nat × Nat) → Nat → Nat → Nat
  | [], c, k => k + c
  | (a, b) :: r, c, k => bif Nat.beq k a then b else thk r c k
variable {N : Nat} {Q : Exit → Act → World → Prop} {ops : Array Oper} {rem : List Nat} {ks : List Itm}
theorem run_enter {f : FuncId} (hf : callable P f = true) {o : Oper} {vs : List Value} {K : Act → World → Prop} {Q' : Exit → Act → World → Prop} (he : (execOp a.eval o).run P w = .ok (.enter f vs.toArray) w) {R : Value → World → Prop}
    (h : Calls P f vs.toArray w fun e w' => ∃ v, e = .returned v ∧ R v w') (hK : ∀ v w', R v w' → K (a.put o.dst v) w') : o.wp P a w K Q' := by
  unfold Oper.wp
  rw [he]
  refine h.mono ?_
  rintro e w' ⟨v, rfl, hr⟩
  exact hK v w' hr
theorem k_acall (θ : Nat → Nat) {d f : Nat} {xs : List Operand} {ts : Array TypeId} {az : List AV} {tbl : List (Nat × Blk)} {ι : Type} {out : ι → AV} {tbl' : ι → List (Nat × Blk)} (hN : Nat.blt d N = true) (hf : callable P f = true) (hr : ACall P f az tbl out tbl') (hx : xs.map s.ev = renAs θ az)
    (htb : TbOk s θ tbl) (hok1 : lendOk1 θ az tbl = true) (hfr : ∀ i, FreshOk s θ (tbl' i)) (hok : ∀ i, lendOk2 θ tbl (tbl' i) = true) (h : ∀ i, Run P X N Q (.ops ops rem :: ks) ((s.lend θ (tbl' i)).put (some d) (renA θ (out i)))) :
    RunK P X N Q ops rem ks (some d) (.call { callee := .value (.func f), args := xs.toArray, argTypes := ts }) s := ⟨fun ty pos aft => ⟨fun hX a w ⟨ρ, hc⟩ => by
  have hcall := hc.acall hX.2 θ hr htb hfr hok1 hok (vs := xs.map a.eval) (by rw [← hx]; exact VRs_args hc rfl)
  refine run_enter hf (vs := xs.map a.eval) (by simp [execOp, resolve, Deferred.ofValue, Act.eval, invoke, run_callFunc hf]) (R := fun v w' => ∃ i ρ', ConcAt X (s.lend θ (tbl' i)) a w' ρ' ∧ VR w' (FF X w' (s.lend θ (tbl' i)).tb ρ') (s.lend θ (tbl' i)).tb ρ' (renA θ (out i)) v) (hcall.mono ?_) ?_
  · rintro e w' ⟨v, i, ρ', he, h1, h2⟩
    exact ⟨v, he, i, ρ', h1, h2⟩
  · rintro v w' ⟨i, ρ', h1, h2⟩
    exact (h i).out hX _ _ ⟨ρ', h1.putO (hN_ok hN hX) h2⟩⟩⟩
/-- One answer. -/
def ACall1 (P : Program) (f : FuncId) (az : List AV) (tbl : List (Nat × Blk)) (out : AV) (tbl' : List (Nat × Blk)) : Prop := ACall P f az tbl (ι := Unit) (fun _ => out) (fun _ => tbl')
theorem k_acall1 (θ : Nat → Nat) {d f : Nat} {xs : List Operand} {ts : Array TypeId} {az : List AV} {tbl : List (Nat × Blk)} {out : AV} {tbl' : List (Nat × Blk)} (hN : Nat.blt d N = true) (hf : callable P f = true) (hr : ACall1 P f az tbl out tbl') (hx : xs.map s.ev = renAs θ az)
    (htb : TbOk s θ tbl) (hok1 : lendOk1 θ az tbl = true) (hfr : FreshOk s θ tbl') (hok : lendOk2 θ tbl tbl' = true) (h : Run P X N Q (.ops ops rem :: ks) ((s.lend θ tbl').put (some d) (renA θ out))) :
    RunK P X N Q ops rem ks (some d) (.call { callee := .value (.func f), args := xs.toArray, argTypes := ts }) s := k_acall θ hN hf hr hx htb hok1 (fun _ => hfr) (fun _ => hok) (fun _ => h)
/-- A return with what was lent. -/
theorem run_retA {fn : Func} {ι : Type} {out : ι → AV} {tbl' : ι → List (Nat × Blk)} (i : ι) (θ : Nat → Nat) {tm : List (Nat × AV)} (hs : SubS s tm (tbl' i) θ) (hr : resA P fn (out i) (mkSta tm (tbl' i))) : Run P X N (QA P X fn out tbl') (.code .ret :: ks) s :=
  run_ret fun a w hc => ⟨.inr rfl, mkSta tm (tbl' i), i, hr, rfl, hs.conc hc⟩
theorem run_endA {fn : Func} {ι : Type} {out : ι → AV} {tbl' : ι → List (Nat × Blk)} (i : ι) (θ : Nat → Nat) {tm : List (Nat × AV)} (hs : SubS s tm (tbl' i) θ) (hr : resA P fn (out i) (mkSta tm (tbl' i))) : Run P X N (QA P X fn out tbl') [] s :=
  run_end fun a w hc => ⟨.inl rfl, mkSta tm (tbl' i), i, hr, rfl, hs.conc hc⟩
theorem resA_tmp {fn : Func} {t : Tmp} (hf : fn.results = #[.tmp t]) {r : AV} (ht : s.tm t = r) : resA P fn r s := by
  intro X a w ⟨ρ0, hc0⟩
  refine ⟨a.tmps.getD t undef, results_tmp hf _ _ _, fun ρ hc => ?_⟩
  have := hc.tmps t
  rwa [ht] at this
theorem resA_none {fn : Func} (hf : fn.results = #[]) : resA P fn (.dat (.tup [])) s := by
  intro X a w ⟨ρ0, hc0⟩
  exact ⟨.tuple #[], results_none hf _ _ _, fun ρ hc => by unfold VR Rep; exact ⟨[], rfl, by unfold Reps; rfl⟩⟩
theorem resA_tmp2 {fn : Func} {t u : Tmp} (hf : fn.results = #[.tmp t, .tmp u]) {r r' : AV} (ht : s.tm t = r) (hu : s.tm u = r') : resA P fn (mkTup [r, r']) s := by
  intro X a w ⟨ρ0, hc0⟩
  refine ⟨_, results_tmp2 hf _ _ _, fun ρ hc => ?_⟩
  have h1 := hc.tmps t
  have h2 := hc.tmps u
  rw [ht] at h1
  rw [hu] at h2
  refine VR_mkTup (vs := [a.tmps.getD t undef, a.tmps.getD u undef]) ?_
  unfold VRs
  refine ⟨_, _, rfl, h1, ?_⟩
  unfold VRs
  exact ⟨_, _, rfl, h2, by unfold VRs; rfl⟩
end
end Go.Proofs.YtbbacpdbbmjblaaGreat
set_option linter.unusedVariables false
namespace Go.Proofs.YtbbacpdbbmjblaaGreat
open Go.RowKit
set_option linter.unusedSimpArgs false
section
variable {P : Program} {X : Base} {N : Nat} {Q : Exit → Act → World → Prop} {ops : Array Oper} {rem : List Nat} {ks : List Itm} {s s' : Sta} {a : Act} {w w' : World} {ρ : Nat → RV}
/-- A goal at which a walk stops. -/
structure Hold (p : Prop) : Prop where
  out : p
theorem run_hold (h : Hold (Run P X N Q ks s)) : Run P X N Q ks s := h.out
def QT (X : Base) (T : Sta) : Exit → Act → World → Prop := fun e a w => e = .normal ∧ Conc X T a w
theorem run_stage {c : Code} {s : Sta} (T : Sta) (h : Run P X N (QT X T) [.code c] s) (key : Run P X N Q ks T) : Run P X N Q (.code c :: ks) s := ⟨fun hX a w hc => by
  have h1 : c.wp P (QT X T) a w := wp_mono (h.out hX a w hc) (fun e a w q => by cases e <;> exact q)
  show c.wp P _ a w
  refine wp_mono h1 ?_
  rintro e a' w' ⟨rfl, hc'⟩
  exact key.out hX a' w' hc'⟩
theorem run_stageEnd {s : Sta} {tm : List (Nat × AV)} {tb : List (Nat × Blk)} (θ : Nat → Nat) (h : SubS s tm tb θ) : Run P X N (QT X (mkSta tm tb)) [] s := run_end fun a w hc => ⟨rfl, h.conc hc⟩
end
end Go.Proofs.YtbbacpdbbmjblaaGreat
namespace Go.Proofs.YtbbacpdbbmjblaaGreat
open Go.RowKit
section
variable {P : Program} {X : Base} {N : Nat} {s s1 : Sta} {ops r : List Oper}
end
end Go.Proofs.YtbbacpdbbmjblaaGreat
end
