/- spec.keyValue; impl.SameElem; whether a key's names are in order is told, whatever the answer. -/
import Derived.Test.YtlghpcokbppkfaaCleanElem
import Derived.Test.YtlghpcokbppkfaaStrings
import Derived.Test.YtlghpcokbppkfaaSameB
namespace Go.Proofs.Ytlghpcokbppkfaa
open Go.RowKit
set_option linter.unusedSimpArgs false

set_option maxHeartbeats 1000000 in
set_option maxRecDepth 100000 in
theorem keyValue_any (x : EV) (w : World) (v : Value) (hv : IsE w (Btw 0 w.heap.size) x v) :
    Calls Try.prog 70 #[v] w fun e w' => ∃ r, e = .returned r ∧ Below w.heap.size w w' ∧ IsV w' (Btw 0 w'.heap.size) (.mk 6 0 0 ByteArray.empty x.keys x.l) r := by
  obtain ⟨ak, ck, a, c, a0, d0, a1, d1, rfl⟩ := hv.form
  have hV : IsV w (Btw 0 w.heap.size) (.mk 6 0 0 ByteArray.empty x.keys x.l) (.agg #[.int .i64 6, .int .i64 0, .float .f64 0, .string ⟨#[]⟩, .slice ak x.keys.length ck, .slice a x.l.length c]) := by
    obtain ⟨_, hlc, hl88, hl⟩ := hv.rowL
    obtain ⟨ak', ck', a', c', e0, e1, e2, e3, e4, e5, e, _, _, _, hk, _⟩ := hv
    injection e with e
    injection e with e
    simp only [List.cons.injEq, and_true] at e
    obtain ⟨_, _, e, _⟩ := e
    rw [← e] at hk
    exact IsV.mk_ (by decide) (by decide) (by decide) (by decide) hk hl88 ⟨a, c, rfl, hlc, hl⟩
  have HV := Lib.hid hV
  clear hV hv
  go_enter Try.func70, Try.ntmps70
  go_wp2_with fail
  have hB : Below w.heap.size w ((w.alloc (.cells #[.int .i64 x.kind, .string x.s, .slice ak x.keys.length ck, .slice a x.l.length c, .int .i64 x.v.kind, .int .i64 x.v.n, .float .f64 x.v.f, .string x.v.s, .slice a0 x.v.keys.length d0, .slice a1 x.v.l.length d1, .int .i64 x.n] 33)).alloc (.cells #[.int .i64 6, .int .i64 0, .float .f64 0, .string ⟨#[]⟩, .slice ak x.keys.length ck, .slice a x.l.length c] 26)) := ((Below.refl _ _).alloc (Nat.le_refl _) (.cells #[.int .i64 x.kind, .string x.s, .slice ak x.keys.length ck, .slice a x.l.length c, .int .i64 x.v.kind, .int .i64 x.v.n, .float .f64 x.v.f, .string x.v.s, .slice a0 x.v.keys.length d0, .slice a1 x.v.l.length d1, .int .i64 x.n] 33)).alloc (by simp) (.cells #[.int .i64 6, .int .i64 0, .float .f64 0, .string ⟨#[]⟩, .slice ak x.keys.length ck, .slice a x.l.length c] 26)
  have hblk : ((w.alloc (.cells #[.int .i64 x.kind, .string x.s, .slice ak x.keys.length ck, .slice a x.l.length c, .int .i64 x.v.kind, .int .i64 x.v.n, .float .f64 x.v.f, .string x.v.s, .slice a0 x.v.keys.length d0, .slice a1 x.v.l.length d1, .int .i64 x.n] 33)).alloc (.cells #[.int .i64 6, .int .i64 0, .float .f64 0, .string ⟨#[]⟩, .slice ak x.keys.length ck, .slice a x.l.length c] 26)).heap[w.heap.size + 1]? = some (.cells #[.int .i64 6, .int .i64 0, .float .f64 0, .string ⟨#[]⟩, .slice ak x.keys.length ck, .slice a x.l.length c] 26) := new_block (by simp)
  refine bodyPost_ret (v := .agg #[.int .i64 6, .int .i64 0, .float .f64 0, .string ⟨#[]⟩, .slice ak x.keys.length ck, .slice a x.l.length c]) ?_ rfl ?_
  · have e0 := blk_c hblk 0 (u := .int .i64 6) rfl
    have e1 := blk_c hblk 1 (u := .int .i64 0) rfl
    have e2 := blk_c hblk 2 (u := .float .f64 0) rfl
    have e3 := blk_c hblk 3 (u := .string ⟨#[]⟩) rfl
    have e4 := blk_c hblk 4 (u := .slice ak x.keys.length ck) rfl
    have e5 := blk_c hblk 5 (u := .slice a x.l.length c) rfl
    simp [results, Try.results70, go_sem, e0, e1, e2, e3, e4, e5]
  · exact ⟨_, rfl, hB, (HV.out.alloc_ _).alloc_ _⟩

theorem IsE.pok {w : World} {S : Nat → Prop} {x : EV} {v : Value} (h : IsE w S x v) : POk (toPE x) := by
  obtain ⟨ak, ck, a, c, c0, c1, c2, c3, c4, c5, _, _, _, _, hk, _, h88, hl, hv⟩ := h
  unfold toPE
  have hg : ∀ y ∈ x.l, JOk (plainJ y) := by
    rcases hl with hl | ⟨b, o, _, _, hl⟩
    · rw [hl]; simp
    · exact fun y hy => plain_ok y (GOks_mem (IsVs.gok _ hl) y hy)
  split
  · refine ⟨by rw [flE_length]; omega, fun p hp => ?_⟩
    have := List.of_mem_zip (a := p.1) (b := p.2) (by exact hp)
    obtain ⟨y, hy, he⟩ := List.mem_map.1 this.2
    rw [← he]
    exact hg y hy
  split
  · exact plain_ok _ (IsV.gok _ hv)
  split <;> trivial
theorem zip_fst_take {α β : Type} : ∀ (a : List α) (b : List β), (a.zip b).map (·.1) = a.take (min a.length b.length)
  | [], b => by simp
  | x :: a, [] => by simp
  | x :: a, y :: b => by simp [zip_fst_take a b, Nat.succ_min_succ]
theorem zip_un : ∀ (a : List ByteArray) (b : List GV), ((a.zip (b.map plainJ)).map fun p => unJ p.2) = cleanL (b.take (min a.length b.length))
  | [], b => by simp [cleanL]
  | x :: a, [] => by simp [cleanL]
  | x :: a, y :: b => by
    have := zip_un a b
    simp only [List.map_cons, List.zip_cons_cons, List.length_cons, Nat.succ_min_succ, List.take_succ_cons, cleanL]
    rw [this, un_plain]
/-- An element made into the package's and taken apart again: its plain form. -/
theorem unPE_toPE (x : EV) : unPE (toPE x) = cleanE x := by
  unfold toPE cleanE
  split
  · simp only [unPE, flE]
    rw [zip_fst_take, zip_un, List.length_map]
  split
  · simp [unPE, un_plain]
  split
  · simp [unPE]
  · simp [unPE]

set_option maxHeartbeats 1000000 in
set_option maxRecDepth 100000 in
theorem implSame_any (x : EV) (w : World) (v : Value) (hv : IsE w (Btw 0 w.heap.size) x v) :
    Calls Try.prog 21 #[v] w fun e w' => ∃ r, e = .returned r ∧ Below w.heap.size w w' ∧ IsE w' (Btw w.heap.size w'.heap.size) (cleanE x) r := by
  have hpok := hv.pok
  obtain ⟨ak, ck, a, c, a0, d0, a1, d1, rfl⟩ := hv.form
  have hx := (hv.alloc_ (.cells #[.int .i64 x.kind, .string x.s, .slice ak x.keys.length ck, .slice a x.l.length c, .int .i64 x.v.kind, .int .i64 x.v.n, .float .f64 x.v.f, .string x.v.s, .slice a0 x.v.keys.length d0, .slice a1 x.v.l.length d1, .int .i64 x.n] 33)).alloc_ (.cells #[.int .i64 0, .string ⟨#[]⟩, .slice none 0 0, .slice none 0 0, .int .i64 0, .int .i64 0, .float .f64 0, .string ⟨#[]⟩, .slice none 0 0, .slice none 0 0, .int .i64 0] 33)
  have hB0 := (((Below.refl w.heap.size w).alloc (Nat.le_refl _) (.cells #[.int .i64 x.kind, .string x.s, .slice ak x.keys.length ck, .slice a x.l.length c, .int .i64 x.v.kind, .int .i64 x.v.n, .float .f64 x.v.f, .string x.v.s, .slice a0 x.v.keys.length d0, .slice a1 x.v.l.length d1, .int .i64 x.n] 33)).alloc (by simp) (.cells #[.int .i64 0, .string ⟨#[]⟩, .slice none 0 0, .slice none 0 0, .int .i64 0, .int .i64 0, .float .f64 0, .string ⟨#[]⟩, .slice none 0 0, .slice none 0 0, .int .i64 0] 33))
  have hR0 : ((w.alloc (.cells #[.int .i64 x.kind, .string x.s, .slice ak x.keys.length ck, .slice a x.l.length c, .int .i64 x.v.kind, .int .i64 x.v.n, .float .f64 x.v.f, .string x.v.s, .slice a0 x.v.keys.length d0, .slice a1 x.v.l.length d1, .int .i64 x.n] 33)).alloc (.cells #[.int .i64 0, .string ⟨#[]⟩, .slice none 0 0, .slice none 0 0, .int .i64 0, .int .i64 0, .float .f64 0, .string ⟨#[]⟩, .slice none 0 0, .slice none 0 0, .int .i64 0] 33)).heap[w.heap.size + 1]? = some (.cells #[.int .i64 0, .string ⟨#[]⟩, .slice none 0 0, .slice none 0 0, .int .i64 0, .int .i64 0, .float .f64 0, .string ⟨#[]⟩, .slice none 0 0, .slice none 0 0, .int .i64 0] 33) := new_block (by simp)
  have hs0 : ((w.alloc (.cells #[.int .i64 x.kind, .string x.s, .slice ak x.keys.length ck, .slice a x.l.length c, .int .i64 x.v.kind, .int .i64 x.v.n, .float .f64 x.v.f, .string x.v.s, .slice a0 x.v.keys.length d0, .slice a1 x.v.l.length d1, .int .i64 x.n] 33)).alloc (.cells #[.int .i64 0, .string ⟨#[]⟩, .slice none 0 0, .slice none 0 0, .int .i64 0, .int .i64 0, .float .f64 0, .string ⟨#[]⟩, .slice none 0 0, .slice none 0 0, .int .i64 0] 33)).heap.size = w.heap.size + 2 := by simp
  have HX := Lib.hid (And.intro hx (And.intro hB0 (And.intro hR0 (And.intro hs0 hpok))))
  clear hv hx hB0 hR0 hs0 hpok
  go_enter Try.func21, Try.ntmps21
  go_wp2_with (go_at_call 72; (with_reducible refine (toElem_any x _ _ ?_).mono ?_))
  · simpa using HX.out.1
  rintro e w2 ⟨r, rfl, hB2, hr⟩
  obtain ⟨hx, hB0, hR0, hs0, hpok⟩ := HX.out
  have hB2' : Below ((w.alloc (.cells #[.int .i64 x.kind, .string x.s, .slice ak x.keys.length ck, .slice a x.l.length c, .int .i64 x.v.kind, .int .i64 x.v.n, .float .f64 x.v.f, .string x.v.s, .slice a0 x.v.keys.length d0, .slice a1 x.v.l.length d1, .int .i64 x.n] 33)).alloc (.cells #[.int .i64 0, .string ⟨#[]⟩, .slice none 0 0, .slice none 0 0, .int .i64 0, .int .i64 0, .float .f64 0, .string ⟨#[]⟩, .slice none 0 0, .slice none 0 0, .int .i64 0] 33)).heap.size ((w.alloc (.cells #[.int .i64 x.kind, .string x.s, .slice ak x.keys.length ck, .slice a x.l.length c, .int .i64 x.v.kind, .int .i64 x.v.n, .float .f64 x.v.f, .string x.v.s, .slice a0 x.v.keys.length d0, .slice a1 x.v.l.length d1, .int .i64 x.n] 33)).alloc (.cells #[.int .i64 0, .string ⟨#[]⟩, .slice none 0 0, .slice none 0 0, .int .i64 0, .int .i64 0, .float .f64 0, .string ⟨#[]⟩, .slice none 0 0, .slice none 0 0, .int .i64 0] 33)) w2 := by simpa using hB2
  have hR2 := blk_below hR0 hB2'
  have hB02 : Below w.heap.size w w2 := hB0.trans (hB2'.mono (by omega))
  have hs2 : w.heap.size + 2 ≤ w2.heap.size := by have := hB2'.size; omega
  have hr0 : IsPE w2 (Btw 0 w2.heap.size) (toPE x) r := hr.keep (fun _ _ => rfl) (Btw.mono (Nat.zero_le _) (Nat.le_refl _))
  have HY := Lib.hid (And.intro hr0 (And.intro hB02 (And.intro hR2 hpok)))
  clear hx hB0 hR0 hs0 hpok HX hB2 hB2' hR2 hB02 hr hr0
  go_wp2_with (go_at_call 71; (with_reducible refine (fromElem_any (toPE x) _ _ ?_ ?_).mono ?_))
  · exact HY.out.1
  · exact HY.out.2.2.2
  rintro e w3 ⟨r3, rfl, hB3, hr3⟩
  rw [unPE_toPE] at hr3
  obtain ⟨y, hy⟩ : ∃ y, y = cleanE x := ⟨_, rfl⟩
  rw [← hy] at hr3
  have HYE := Lib.hid hy
  clear hy
  obtain ⟨_, hB02, hR2, _⟩ := HY.out
  have hR := blk_below hR2 hB3
  have hB : Below w.heap.size w w3 := hB02.trans (hB3.mono (by omega))
  have hs3 : w2.heap.size ≤ w3.heap.size := hB3.size
  obtain ⟨bk, gk, b, g, b0, g0, b1, g1, rfl⟩ := hr3.form
  have HR := Lib.hid (And.intro hR hr3)
  have q0 : w3.cell? ⟨w.heap.size + 1, 0, none⟩ = some (.int .i64 0) := blk_c hR 0 rfl
  have q1 : w3.cell? ⟨w.heap.size + 1, 1, none⟩ = some (.string ⟨#[]⟩) := blk_c hR 1 rfl
  have q2 : w3.cell? ⟨w.heap.size + 1, 2, none⟩ = some (.slice none 0 0) := blk_c hR 2 rfl
  have q3 : w3.cell? ⟨w.heap.size + 1, 3, none⟩ = some (.slice none 0 0) := blk_c hR 3 rfl
  have q4 : w3.cell? ⟨w.heap.size + 1, 4, none⟩ = some (.int .i64 0) := blk_c hR 4 rfl
  have q5 : w3.cell? ⟨w.heap.size + 1, 5, none⟩ = some (.int .i64 0) := blk_c hR 5 rfl
  have q6 : w3.cell? ⟨w.heap.size + 1, 6, none⟩ = some (.float .f64 0) := blk_c hR 6 rfl
  have q7 : w3.cell? ⟨w.heap.size + 1, 7, none⟩ = some (.string ⟨#[]⟩) := blk_c hR 7 rfl
  have q8 : w3.cell? ⟨w.heap.size + 1, 8, none⟩ = some (.slice none 0 0) := blk_c hR 8 rfl
  have q9 : w3.cell? ⟨w.heap.size + 1, 9, none⟩ = some (.slice none 0 0) := blk_c hR 9 rfl
  have q10 : w3.cell? ⟨w.heap.size + 1, 10, none⟩ = some (.int .i64 0) := blk_c hR 10 rfl
  have f0 := blk_frozen hR 0
  have f1 := blk_frozen hR 1
  have f2 := blk_frozen hR 2
  have f3 := blk_frozen hR 3
  have f4 := blk_frozen hR 4
  have f5 := blk_frozen hR 5
  have f6 := blk_frozen hR 6
  have f7 := blk_frozen hR 7
  have f8 := blk_frozen hR 8
  have f9 := blk_frozen hR 9
  have f10 := blk_frozen hR 10
  clear hr3 hB3 hB02 hR2 HY hR
  go_wp2_with fail
  obtain ⟨hR, hr3⟩ := HR.out
  have hblk := st11_blk (c0 := .int .i64 y.kind) (c1 := .string y.s) (c2 := .slice bk y.keys.length gk) (c3 := .slice b y.l.length g) (c4 := .int .i64 y.v.kind) (c5 := .int .i64 y.v.n) (c6 := .float .f64 y.v.f) (c7 := .string y.v.s) (c8 := .slice b0 y.v.keys.length g0) (c9 := .slice b1 y.v.l.length g1) (c10 := .int .i64 y.n) hR
  have hsz : (st11 w3 (w.heap.size + 1) (.int .i64 y.kind) (.string y.s) (.slice bk y.keys.length gk) (.slice b y.l.length g) (.int .i64 y.v.kind) (.int .i64 y.v.n) (.float .f64 y.v.f) (.string y.v.s) (.slice b0 y.v.keys.length g0) (.slice b1 y.v.l.length g1) (.int .i64 y.n)).heap.size = w3.heap.size := st11_size
  have hfin : IsE (st11 w3 (w.heap.size + 1) (.int .i64 y.kind) (.string y.s) (.slice bk y.keys.length gk) (.slice b y.l.length g) (.int .i64 y.v.kind) (.int .i64 y.v.n) (.float .f64 y.v.f) (.string y.v.s) (.slice b0 y.v.keys.length g0) (.slice b1 y.v.l.length g1) (.int .i64 y.n)) (Btw w.heap.size (st11 w3 (w.heap.size + 1) (.int .i64 y.kind) (.string y.s) (.slice bk y.keys.length gk) (.slice b y.l.length g) (.int .i64 y.v.kind) (.int .i64 y.v.n) (.float .f64 y.v.f) (.string y.v.s) (.slice b0 y.v.keys.length g0) (.slice b1 y.v.l.length g1) (.int .i64 y.n)).heap.size) y (.agg #[.int .i64 y.kind, .string y.s, .slice bk y.keys.length gk, .slice b y.l.length g, .int .i64 y.v.kind, .int .i64 y.v.n, .float .f64 y.v.f, .string y.v.s, .slice b0 y.v.keys.length g0, .slice b1 y.v.l.length g1, .int .i64 y.n]) := by
    rw [hsz]
    exact hr3.keep (S := Btw w2.heap.size w3.heap.size) (fun b hb => st11_eq (by have := hb.1; omega)) (Btw.mono (by omega) (Nat.le_refl _))
  have hBf : Below w.heap.size w (st11 w3 (w.heap.size + 1) (.int .i64 y.kind) (.string y.s) (.slice bk y.keys.length gk) (.slice b y.l.length g) (.int .i64 y.v.kind) (.int .i64 y.v.n) (.float .f64 y.v.f) (.string y.v.s) (.slice b0 y.v.keys.length g0) (.slice b1 y.v.l.length g1) (.int .i64 y.n)) := st11_below hB (by omega)
  refine bodyPost_ret (v := .agg #[.int .i64 y.kind, .string y.s, .slice bk y.keys.length gk, .slice b y.l.length g, .int .i64 y.v.kind, .int .i64 y.v.n, .float .f64 y.v.f, .string y.v.s, .slice b0 y.v.keys.length g0, .slice b1 y.v.l.length g1, .int .i64 y.n]) ?_ rfl ?_
  · have e0 := blk_c hblk 0 (u := .int .i64 y.kind) rfl
    have e1 := blk_c hblk 1 (u := .string y.s) rfl
    have e2 := blk_c hblk 2 (u := .slice bk y.keys.length gk) rfl
    have e3 := blk_c hblk 3 (u := .slice b y.l.length g) rfl
    have e4 := blk_c hblk 4 (u := .int .i64 y.v.kind) rfl
    have e5 := blk_c hblk 5 (u := .int .i64 y.v.n) rfl
    have e6 := blk_c hblk 6 (u := .float .f64 y.v.f) rfl
    have e7 := blk_c hblk 7 (u := .string y.v.s) rfl
    have e8 := blk_c hblk 8 (u := .slice b0 y.v.keys.length g0) rfl
    have e9 := blk_c hblk 9 (u := .slice b1 y.v.l.length g1) rfl
    have e10 := blk_c hblk 10 (u := .int .i64 y.n) rfl
    unfold st11 at e0 e1 e2 e3 e4 e5 e6 e7 e8 e9 e10
    simp [results, Try.results21, go_sem, e0, e1, e2, e3, e4, e5, e6, e7, e8, e9, e10]
  · unfold st11 at hfin hBf
    exact ⟨_, rfl, hBf, HYE.out ▸ hfin⟩

end Go.Proofs.Ytlghpcokbppkfaa
