/- spec.KeySorted: it answers, whatever it says. -/
import Derived.Test.YtlghpcokbppkfaaSameElem
import Derived.Test.YtlghpcokbppkfaaRegionB
namespace Go.Proofs.Ytlghpcokbppkfaa
open Go.RowKit
set_option linter.unusedSimpArgs false

set_option maxHeartbeats 1000000 in
set_option maxRecDepth 100000 in
theorem keySorted_any (x : EV) (w : World) (v : Value) (hv : IsE w (Btw 0 w.heap.size) x v) :
    Calls Try.prog 19 #[v] w fun e w' => ∃ b, e = .returned (.bool b) ∧ Below w.heap.size w w' := by
  obtain ⟨ak, ck, a, c, a0, d0, a1, d1, rfl⟩ := hv.form
  have hx := hv.alloc_ (.cells #[.int .i64 x.kind, .string x.s, .slice ak x.keys.length ck, .slice a x.l.length c, .int .i64 x.v.kind, .int .i64 x.v.n, .float .f64 x.v.f, .string x.v.s, .slice a0 x.v.keys.length d0, .slice a1 x.v.l.length d1, .int .i64 x.n] 33)
  have hB0 := (Below.refl w.heap.size w).alloc (Nat.le_refl _) (.cells #[.int .i64 x.kind, .string x.s, .slice ak x.keys.length ck, .slice a x.l.length c, .int .i64 x.v.kind, .int .i64 x.v.n, .float .f64 x.v.f, .string x.v.s, .slice a0 x.v.keys.length d0, .slice a1 x.v.l.length d1, .int .i64 x.n] 33)
  have hR0 : (w.alloc (.cells #[.int .i64 x.kind, .string x.s, .slice ak x.keys.length ck, .slice a x.l.length c, .int .i64 x.v.kind, .int .i64 x.v.n, .float .f64 x.v.f, .string x.v.s, .slice a0 x.v.keys.length d0, .slice a1 x.v.l.length d1, .int .i64 x.n] 33)).heap[w.heap.size]? = some (.cells #[.int .i64 x.kind, .string x.s, .slice ak x.keys.length ck, .slice a x.l.length c, .int .i64 x.v.kind, .int .i64 x.v.n, .float .f64 x.v.f, .string x.v.s, .slice a0 x.v.keys.length d0, .slice a1 x.v.l.length d1, .int .i64 x.n] 33) := new_block rfl
  have HX := Lib.hid (And.intro hx (And.intro hB0 hR0))
  clear hv hx hB0 hR0
  go_enter Try.func19, Try.ntmps19
  go_wp2_with (go_at_call 22; (with_reducible refine (cleanE_any x _ _ ?_).mono ?_))
  · simpa using HX.out.1
  rintro e w2 ⟨r, rfl, hB2, hr⟩
  obtain ⟨_, hB0, hR0⟩ := HX.out
  have hB2' : Below (w.alloc (.cells #[.int .i64 x.kind, .string x.s, .slice ak x.keys.length ck, .slice a x.l.length c, .int .i64 x.v.kind, .int .i64 x.v.n, .float .f64 x.v.f, .string x.v.s, .slice a0 x.v.keys.length d0, .slice a1 x.v.l.length d1, .int .i64 x.n] 33)).heap.size (w.alloc (.cells #[.int .i64 x.kind, .string x.s, .slice ak x.keys.length ck, .slice a x.l.length c, .int .i64 x.v.kind, .int .i64 x.v.n, .float .f64 x.v.f, .string x.v.s, .slice a0 x.v.keys.length d0, .slice a1 x.v.l.length d1, .int .i64 x.n] 33)) w2 := by simpa using hB2
  have hr' : IsE w2 (Btw (w.alloc (.cells #[.int .i64 x.kind, .string x.s, .slice ak x.keys.length ck, .slice a x.l.length c, .int .i64 x.v.kind, .int .i64 x.v.n, .float .f64 x.v.f, .string x.v.s, .slice a0 x.v.keys.length d0, .slice a1 x.v.l.length d1, .int .i64 x.n] 33)).heap.size w2.heap.size) (cleanE x) r := by simpa using hr
  clear hr hB2
  obtain ⟨y, hy⟩ : ∃ y, y = cleanE x := ⟨_, rfl⟩
  rw [← hy] at hr'
  clear hy
  have hs2 : w.heap.size + 1 ≤ w2.heap.size := by have := hB2'.size; simpa using this
  have hR := blk_below hR0 hB2'
  have hB : Below w.heap.size w w2 := hB0.trans (hB2'.mono (by simp))
  obtain ⟨bk, gk, b, g, b0, g0, b1, g1, rfl⟩ := hr'.form
  have HR := Lib.hid (And.intro hR (And.intro hr' hB))
  have q0 : w2.cell? ⟨w.heap.size, 0, none⟩ = some (.int .i64 x.kind) := blk_c hR 0 rfl
  have q1 : w2.cell? ⟨w.heap.size, 1, none⟩ = some (.string x.s) := blk_c hR 1 rfl
  have q2 : w2.cell? ⟨w.heap.size, 2, none⟩ = some (.slice ak x.keys.length ck) := blk_c hR 2 rfl
  have q3 : w2.cell? ⟨w.heap.size, 3, none⟩ = some (.slice a x.l.length c) := blk_c hR 3 rfl
  have q4 : w2.cell? ⟨w.heap.size, 4, none⟩ = some (.int .i64 x.v.kind) := blk_c hR 4 rfl
  have q5 : w2.cell? ⟨w.heap.size, 5, none⟩ = some (.int .i64 x.v.n) := blk_c hR 5 rfl
  have q6 : w2.cell? ⟨w.heap.size, 6, none⟩ = some (.float .f64 x.v.f) := blk_c hR 6 rfl
  have q7 : w2.cell? ⟨w.heap.size, 7, none⟩ = some (.string x.v.s) := blk_c hR 7 rfl
  have q8 : w2.cell? ⟨w.heap.size, 8, none⟩ = some (.slice a0 x.v.keys.length d0) := blk_c hR 8 rfl
  have q9 : w2.cell? ⟨w.heap.size, 9, none⟩ = some (.slice a1 x.v.l.length d1) := blk_c hR 9 rfl
  have q10 : w2.cell? ⟨w.heap.size, 10, none⟩ = some (.int .i64 x.n) := blk_c hR 10 rfl
  have f0 := blk_frozen hR 0
  have f1 := blk_frozen hR 1
  have f2 := blk_frozen hR 2
  have f3 := blk_frozen hR 3
  have f4 := blk_frozen hR 4
  have f5 := blk_frozen hR 5
  have f6 := blk_frozen hR 6
  have f7 := blk_frozen hR 7
  have f8 := blk_frozen hR 8
  have f9 := blk_frozen hR 9
  have f10 := blk_frozen hR 10
  clear hr' hB2' hB0 hR0 HX hR hB
  go_wp2_with fail
  obtain ⟨hR, hr', hB⟩ := HR.out
  have hblk := st11_blk (c0 := .int .i64 y.kind) (c1 := .string y.s) (c2 := .slice bk y.keys.length gk) (c3 := .slice b y.l.length g) (c4 := .int .i64 y.v.kind) (c5 := .int .i64 y.v.n) (c6 := .float .f64 y.v.f) (c7 := .string y.v.s) (c8 := .slice b0 y.v.keys.length g0) (c9 := .slice b1 y.v.l.length g1) (c10 := .int .i64 y.n) hR
  have hBf : Below w.heap.size w (st11 w2 w.heap.size (.int .i64 y.kind) (.string y.s) (.slice bk y.keys.length gk) (.slice b y.l.length g) (.int .i64 y.v.kind) (.int .i64 y.v.n) (.float .f64 y.v.f) (.string y.v.s) (.slice b0 y.v.keys.length g0) (.slice b1 y.v.l.length g1) (.int .i64 y.n)) := st11_below hB (Nat.le_refl _)
  have hss : (st11 w2 w.heap.size (.int .i64 y.kind) (.string y.s) (.slice bk y.keys.length gk) (.slice b y.l.length g) (.int .i64 y.v.kind) (.int .i64 y.v.n) (.float .f64 y.v.f) (.string y.v.s) (.slice b0 y.v.keys.length g0) (.slice b1 y.v.l.length g1) (.int .i64 y.n)).heap.size = w2.heap.size := st11_size
  have hye : IsE (st11 w2 w.heap.size (.int .i64 y.kind) (.string y.s) (.slice bk y.keys.length gk) (.slice b y.l.length g) (.int .i64 y.v.kind) (.int .i64 y.v.n) (.float .f64 y.v.f) (.string y.v.s) (.slice b0 y.v.keys.length g0) (.slice b1 y.v.l.length g1) (.int .i64 y.n)) (Btw (w.heap.size + 1) (st11 w2 w.heap.size (.int .i64 y.kind) (.string y.s) (.slice bk y.keys.length gk) (.slice b y.l.length g) (.int .i64 y.v.kind) (.int .i64 y.v.n) (.float .f64 y.v.f) (.string y.v.s) (.slice b0 y.v.keys.length g0) (.slice b1 y.v.l.length g1) (.int .i64 y.n)).heap.size) y (.agg #[.int .i64 y.kind, .string y.s, .slice bk y.keys.length gk, .slice b y.l.length g, .int .i64 y.v.kind, .int .i64 y.v.n, .float .f64 y.v.f, .string y.v.s, .slice b0 y.v.keys.length g0, .slice b1 y.v.l.length g1, .int .i64 y.n]) := by
    rw [hss]
    exact hr'.keep (S := Btw (w.alloc (.cells #[.int .i64 x.kind, .string x.s, .slice ak x.keys.length ck, .slice a x.l.length c, .int .i64 x.v.kind, .int .i64 x.v.n, .float .f64 x.v.f, .string x.v.s, .slice a0 x.v.keys.length d0, .slice a1 x.v.l.length d1, .int .i64 x.n] 33)).heap.size w2.heap.size) (fun b hb => st11_eq (by have := hb.1; simp at this; omega)) (Btw.mono (by simp) (Nat.le_refl _))
  unfold st11 at hblk hBf hye hss
  clear q0 f0 q1 f1 q2 f2 q3 f3 q4 f4 q5 f5 q6 f6 q7 f7 q8 f8 q9 f9 q10 f10 HR hR hr' hB hss
  generalize (((((((((((w2.setCell ⟨w.heap.size, 0, none⟩ (.int .i64 y.kind)).setCell ⟨w.heap.size, 1, none⟩ (.string y.s)).setCell ⟨w.heap.size, 2, none⟩ (.slice bk y.keys.length gk)).setCell ⟨w.heap.size, 3, none⟩ (.slice b y.l.length g)).setCell ⟨w.heap.size, 4, none⟩ (.int .i64 y.v.kind)).setCell ⟨w.heap.size, 5, none⟩ (.int .i64 y.v.n)).setCell ⟨w.heap.size, 6, none⟩ (.float .f64 y.v.f)).setCell ⟨w.heap.size, 7, none⟩ (.string y.v.s)).setCell ⟨w.heap.size, 8, none⟩ (.slice b0 y.v.keys.length g0)).setCell ⟨w.heap.size, 9, none⟩ (.slice b1 y.v.l.length g1)).setCell ⟨w.heap.size, 10, none⟩ (.int .i64 y.n)) = w3 at *
  generalize hM : w.heap.size = M at *
  have HM := Lib.hid hM; clear hM
  have hks : IsStrs w3 (Btw (M + 1) w3.heap.size) (.slice bk y.keys.length gk) y.keys := by
    obtain ⟨ak', ck', a', c', e0, e1, e2, e3, e4, e5, e, _, _, _, hk, _⟩ := hye
    injection e with e
    injection e with e
    simp only [List.cons.injEq, and_true] at e
    obtain ⟨_, _, e, _⟩ := e
    rw [← e] at hk
    exact hk
  have hk16 : y.keys.length * 16 ≤ 140737488351232 := by obtain ⟨_, _, _, _, h, _⟩ := hks; exact h
  have hkz : ∀ s ∈ y.keys, s.size ≤ maxLen := by obtain ⟨_, _, _, _, _, h, _⟩ := hks; exact h
  clear hye
  go_loopw [3] (fun i wr => ∃ q k : Nat, q = k + 1 ∧ k ≤ y.keys.length ∧ i = .int .i64 (q : Nat) ∧ Below w3.heap.size w3 wr) (fun i _ => y.keys.length + 1 - (intOf i).toNat)
  case atStart => exact ⟨1, 0, rfl, Nat.zero_le _, rfl, Below.refl _ _⟩
  case round =>
    obtain ⟨q, k, hqk, hkn, rfl, hBr⟩ := hrel
    have hBw : Below M w wr := hBf.trans (hBr.mono (by have := blk_lt hblk; omega))
    have hMw : M ≤ wr.drew.heap.size := by have := blk_lt hblk; have := hBr.size; show M ≤ wr.heap.size; omega
    have z2 : wr.cell? ⟨M, 2, none⟩ = some (.slice bk y.keys.length gk) := blk_c (blk_below hblk hBr) 2 rfl
    by_cases hlt : q < y.keys.length
    · obtain ⟨k0, hk0⟩ : ∃ z, y.keys[k]? = some z := ⟨y.keys[k]'(by omega), by simp⟩
      obtain ⟨k1, hk1⟩ : ∃ z, y.keys[q]? = some z := ⟨y.keys[q]'(by omega), by simp⟩
      obtain ⟨p, o, hp, rfl, hc0⟩ := strs_at hks hk0
      obtain ⟨p', o', hp', e, hc1⟩ := strs_at hks hk1
      injection e with e
      injection e with e1 e2
      subst e1 e2
      have s0 : wr.cell? ⟨p, o + k, none⟩ = some (.string k0) := (hBr.cell (by exact hp.2)).trans hc0
      have s1 : wr.cell? ⟨p, o + q, none⟩ = some (.string k1) := (hBr.cell (by exact hp.2)).trans hc1
      have hz0 := hkz k0 (List.mem_of_getElem? hk0)
      have hz1 := hkz k1 (List.mem_of_getElem? hk1)
      have j0 : (0 : Int) ≤ (k : Int) := by omega
      have j1 : (k : Int) < (y.keys.length : Int) := by omega
      have j2 : (0 : Int) ≤ (q : Int) := by omega
      have j3 : (q : Int) < (y.keys.length : Int) := by omega
      have hw' : wrap64 ((q : Int) + 1) = ((q + 1 : Nat) : Int) := by unfold wrap64; omega
      have hw0 : IntKind.i64.wrap (k : Int) = (k : Int) := wrap_small (q := k) (by omega)
      have hqe : (q : Int) - 1 = (k : Int) := by omega
      have hwi : IntKind.i64.wrap ((q : Int) - 1) = (k : Int) := by rw [hqe]; exact hw0
      clear hw0 hqe
      have HH := Lib.hid (And.intro hqk (And.intro hBr hBw))
      clear hqk hBr hBw hc0 hc1 hk0 hk1 hks hBf hblk
      go_wp2_with fail
      refine wp_region_K (fun w' => w'.cell? ⟨M, 2, none⟩ = some (.slice (some ⟨p, o, none⟩) y.keys.length gk) ∧ w'.cell? ⟨p, o + k, none⟩ = some (.string k0) ∧ w'.cell? ⟨p, o + q, none⟩ = some (.string k1)) [0, 1, 2, 3, 4, 5, 6, 7, 8, 9, 10, 12] (by kernel_rfl) ?_ (fun hHeld => ?_)
      · exact ⟨z2, s0, s1⟩
      refine wpK_take (i := 0) (v := ?_) rfl (by kernel_rfl) (by kernel_rfl) (by kernel_rfl) (by kernel_rfl) (.inl ⟨by rfl, ?_⟩) hHeld ?_
      rotate_left
      · (intro w hSw; (try dsimp only at hSw); go_split_ands; go_simp; (try with_reducible rfl))
      try simp only [Act.put, List.setIfInBounds_toArray, List.set_cons_zero, List.set_cons_succ]
      refine wpK_take (i := 1) (v := ?_) rfl (by kernel_rfl) (by kernel_rfl) (by kernel_rfl) (by kernel_rfl) (.inl ⟨by rfl, ?_⟩) hHeld ?_
      rotate_left
      · (intro w hSw; (try dsimp only at hSw); go_split_ands; go_simp; (try with_reducible rfl))
      try simp only [Act.put, List.setIfInBounds_toArray, List.set_cons_zero, List.set_cons_succ]
      refine wpK_take (i := 2) (v := ?_) rfl (by kernel_rfl) (by kernel_rfl) (by kernel_rfl) (by kernel_rfl) (.inl ⟨by rfl, ?_⟩) hHeld ?_
      rotate_left
      · (intro w hSw; (try dsimp only at hSw); go_split_ands; go_simp; (try with_reducible rfl))
      try simp only [Act.put, List.setIfInBounds_toArray, List.set_cons_zero, List.set_cons_succ]
      refine wpK_take (i := 3) (v := ?_) rfl (by kernel_rfl) (by kernel_rfl) (by kernel_rfl) (by kernel_rfl) (.inl ⟨by rfl, ?_⟩) hHeld ?_
      rotate_left
      · (intro w hSw; (try dsimp only at hSw); go_split_ands; go_simp; (try with_reducible rfl))
      try simp only [Act.put, List.setIfInBounds_toArray, List.set_cons_zero, List.set_cons_succ]
      refine wpK_take (i := 4) (v := ?_) rfl (by kernel_rfl) (by kernel_rfl) (by kernel_rfl) (by kernel_rfl) (.inl ⟨by rfl, ?_⟩) hHeld ?_
      rotate_left
      · (intro w hSw; (try dsimp only at hSw); go_split_ands; go_simp; (try with_reducible rfl))
      try simp only [Act.put, List.setIfInBounds_toArray, List.set_cons_zero, List.set_cons_succ]
      refine wpK_take (i := 5) (v := ?_) rfl (by kernel_rfl) (by kernel_rfl) (by kernel_rfl) (by kernel_rfl) (.inl ⟨by rfl, ?_⟩) hHeld ?_
      rotate_left
      · (intro w hSw; (try dsimp only at hSw); go_split_ands; go_simp; (try with_reducible rfl))
      try simp only [Act.put, List.setIfInBounds_toArray, List.set_cons_zero, List.set_cons_succ]
      refine wpK_take (i := 6) (v := ?_) rfl (by kernel_rfl) (by kernel_rfl) (by kernel_rfl) (by kernel_rfl) (.inl ⟨by rfl, ?_⟩) hHeld ?_
      rotate_left
      · (intro w hSw; (try dsimp only at hSw); go_split_ands; go_simp; (try with_reducible rfl))
      try simp only [Act.put, List.setIfInBounds_toArray, List.set_cons_zero, List.set_cons_succ]
      refine wpK_take (i := 7) (v := ?_) rfl (by kernel_rfl) (by kernel_rfl) (by kernel_rfl) (by kernel_rfl) (.inl ⟨by rfl, ?_⟩) hHeld ?_
      rotate_left
      · (intro w hSw; (try dsimp only at hSw); go_split_ands; go_simp; (try with_reducible rfl))
      try simp only [Act.put, List.setIfInBounds_toArray, List.set_cons_zero, List.set_cons_succ]
      refine wpK_take (i := 8) (v := ?_) rfl (by kernel_rfl) (by kernel_rfl) (by kernel_rfl) (by kernel_rfl) (.inl ⟨by rfl, ?_⟩) hHeld ?_
      rotate_left
      · (intro w hSw; (try dsimp only at hSw); go_split_ands; go_simp; (try with_reducible rfl))
      try simp only [Act.put, List.setIfInBounds_toArray, List.set_cons_zero, List.set_cons_succ]
      refine wpK_take (i := 9) (v := ?_) rfl (by kernel_rfl) (by kernel_rfl) (by kernel_rfl) (by kernel_rfl) (.inl ⟨by rfl, ?_⟩) hHeld ?_
      rotate_left
      · (intro w hSw; (try dsimp only at hSw); go_split_ands; go_simp; (try with_reducible rfl))
      try simp only [Act.put, List.setIfInBounds_toArray, List.set_cons_zero, List.set_cons_succ]
      refine wpK_take (i := 10) (v := ?_) rfl (by kernel_rfl) (by kernel_rfl) (by kernel_rfl) (by kernel_rfl) (.inl ⟨by rfl, ?_⟩) hHeld ?_
      rotate_left
      · (intro w hSw; (try dsimp only at hSw); go_split_ands; go_simp; (try with_reducible rfl))
      try simp only [Act.put, List.setIfInBounds_toArray, List.set_cons_zero, List.set_cons_succ]
      refine wpK_one (i := 11) (by kernel_rfl) rfl (fun K hK => ?_)
      go_simp
      refine (CompareStrings_any _ _ _ hz0 hz1).mono ?_
      rintro e w5 ⟨rfl, hB5⟩
      refine hK.out _ _ ?_ (fun hHeld => ?_)
      · exact ⟨cell_below hB5 hHeld.1, cell_below hB5 hHeld.2.1, cell_below hB5 hHeld.2.2⟩
      clear hK K
      try simp only [Act.put, List.setIfInBounds_toArray, List.set_cons_zero, List.set_cons_succ]
      refine wpK_take (i := 12) (v := ?_) rfl (by kernel_rfl) (by kernel_rfl) (by kernel_rfl) (by kernel_rfl) (.inl ⟨by rfl, ?_⟩) hHeld ?_
      rotate_left
      · (intro w hSw; (try dsimp only at hSw); go_split_ands; go_simp; (try with_reducible rfl))
      try simp only [Act.put, List.setIfInBounds_toArray, List.set_cons_zero, List.set_cons_succ]
      refine wpK_done (by kernel_rfl) ?_ _
      simp only [List.getElem_toArray, List.getElem_cons_succ, List.getElem_cons_zero, List.set_cons_succ, List.set_cons_zero]
      clear hwi
      have hB6 : wr.heap.size ≤ w5.heap.size := hB5.size
      generalize cmpS k0 k1 = cm at *
      by_cases hcm : 0 ≤ cm
      · go_wp2_with fail
        go_ret
        obtain ⟨hqk, hBr, hBw⟩ := HH.out
        rw [HM.out]
        first
          | exact ⟨_, rfl, hBw.drew.trans (hB5.mono hMw)⟩
          | exact ⟨⟨_, rfl⟩, hBw.drew.trans (hB5.mono hMw)⟩
          | exact hBw.drew.trans (hB5.mono hMw)
      · go_wp2_with fail
        obtain ⟨hqk, hBr, hBw⟩ := HH.out
        try rw [hw']
        refine ⟨⟨q + 1, q, rfl, by omega, rfl, hBr.drew.trans (hB5.mono (by show w3.heap.size ≤ wr.heap.size; exact hBr.size))⟩, by simp only [intOf]; omega⟩
    · have n3 : ¬ ((q : Int) < (y.keys.length : Int)) := by omega
      go_wp2_with fail
      go_ret
      rw [HM.out]
      first
        | exact hBw
        | exact ⟨_, rfl, hBw⟩
        | exact ⟨⟨_, rfl⟩, hBw⟩
        | simpa using hBw
end Go.Proofs.Ytlghpcokbppkfaa
