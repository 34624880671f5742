/- spec.SameElem, where the plain forms are one. -/
import Derived.Test.YtlghpcokbppkfaaKeySorted
import Derived.Test.YtlghpcokbppkfaaIdem
namespace Go.Proofs.Ytlghpcokbppkfaa
open Go.RowKit
set_option linter.unusedSimpArgs false

set_option maxHeartbeats 2000000 in
set_option maxRecDepth 100000 in
theorem specSame_any (x y : EV) (hxy : cleanE x = cleanE y) (w : World) (v v' : Value) (hv : IsE w (Btw 0 w.heap.size) x v) (hv' : IsE w (Btw 0 w.heap.size) y v') :
    Calls Try.prog 20 #[v, v'] w fun e w' => e = .returned (.bool true) ∧ Below w.heap.size w w' := by
  obtain ⟨ak, ck, a, c, a0, d0, a1, d1, rfl⟩ := hv.form
  obtain ⟨ak', ck', a', c', a0', d0', a1', d1', rfl⟩ := hv'.form
  have hx := (hv.alloc_ (.cells #[.int .i64 x.kind, .string x.s, .slice ak x.keys.length ck, .slice a x.l.length c, .int .i64 x.v.kind, .int .i64 x.v.n, .float .f64 x.v.f, .string x.v.s, .slice a0 x.v.keys.length d0, .slice a1 x.v.l.length d1, .int .i64 x.n] 33)).alloc_ (.cells #[.int .i64 y.kind, .string y.s, .slice ak' y.keys.length ck', .slice a' y.l.length c', .int .i64 y.v.kind, .int .i64 y.v.n, .float .f64 y.v.f, .string y.v.s, .slice a0' y.v.keys.length d0', .slice a1' y.v.l.length d1', .int .i64 y.n] 33)
  have hy := (hv'.alloc_ (.cells #[.int .i64 x.kind, .string x.s, .slice ak x.keys.length ck, .slice a x.l.length c, .int .i64 x.v.kind, .int .i64 x.v.n, .float .f64 x.v.f, .string x.v.s, .slice a0 x.v.keys.length d0, .slice a1 x.v.l.length d1, .int .i64 x.n] 33)).alloc_ (.cells #[.int .i64 y.kind, .string y.s, .slice ak' y.keys.length ck', .slice a' y.l.length c', .int .i64 y.v.kind, .int .i64 y.v.n, .float .f64 y.v.f, .string y.v.s, .slice a0' y.v.keys.length d0', .slice a1' y.v.l.length d1', .int .i64 y.n] 33)
  have hB0 := (((Below.refl w.heap.size w).alloc (Nat.le_refl _) (.cells #[.int .i64 x.kind, .string x.s, .slice ak x.keys.length ck, .slice a x.l.length c, .int .i64 x.v.kind, .int .i64 x.v.n, .float .f64 x.v.f, .string x.v.s, .slice a0 x.v.keys.length d0, .slice a1 x.v.l.length d1, .int .i64 x.n] 33)).alloc (by simp) (.cells #[.int .i64 y.kind, .string y.s, .slice ak' y.keys.length ck', .slice a' y.l.length c', .int .i64 y.v.kind, .int .i64 y.v.n, .float .f64 y.v.f, .string y.v.s, .slice a0' y.v.keys.length d0', .slice a1' y.v.l.length d1', .int .i64 y.n] 33))
  have bX0 : ((w.alloc (.cells #[.int .i64 x.kind, .string x.s, .slice ak x.keys.length ck, .slice a x.l.length c, .int .i64 x.v.kind, .int .i64 x.v.n, .float .f64 x.v.f, .string x.v.s, .slice a0 x.v.keys.length d0, .slice a1 x.v.l.length d1, .int .i64 x.n] 33)).alloc (.cells #[.int .i64 y.kind, .string y.s, .slice ak' y.keys.length ck', .slice a' y.l.length c', .int .i64 y.v.kind, .int .i64 y.v.n, .float .f64 y.v.f, .string y.v.s, .slice a0' y.v.keys.length d0', .slice a1' y.v.l.length d1', .int .i64 y.n] 33)).heap[w.heap.size]? = some (.cells #[.int .i64 x.kind, .string x.s, .slice ak x.keys.length ck, .slice a x.l.length c, .int .i64 x.v.kind, .int .i64 x.v.n, .float .f64 x.v.f, .string x.v.s, .slice a0 x.v.keys.length d0, .slice a1 x.v.l.length d1, .int .i64 x.n] 33) := blk_alloc (new_block rfl) _
  have bY0 : ((w.alloc (.cells #[.int .i64 x.kind, .string x.s, .slice ak x.keys.length ck, .slice a x.l.length c, .int .i64 x.v.kind, .int .i64 x.v.n, .float .f64 x.v.f, .string x.v.s, .slice a0 x.v.keys.length d0, .slice a1 x.v.l.length d1, .int .i64 x.n] 33)).alloc (.cells #[.int .i64 y.kind, .string y.s, .slice ak' y.keys.length ck', .slice a' y.l.length c', .int .i64 y.v.kind, .int .i64 y.v.n, .float .f64 y.v.f, .string y.v.s, .slice a0' y.v.keys.length d0', .slice a1' y.v.l.length d1', .int .i64 y.n] 33)).heap[w.heap.size + 1]? = some (.cells #[.int .i64 y.kind, .string y.s, .slice ak' y.keys.length ck', .slice a' y.l.length c', .int .i64 y.v.kind, .int .i64 y.v.n, .float .f64 y.v.f, .string y.v.s, .slice a0' y.v.keys.length d0', .slice a1' y.v.l.length d1', .int .i64 y.n] 33) := new_block (by simp)
  have hs0 : ((w.alloc (.cells #[.int .i64 x.kind, .string x.s, .slice ak x.keys.length ck, .slice a x.l.length c, .int .i64 x.v.kind, .int .i64 x.v.n, .float .f64 x.v.f, .string x.v.s, .slice a0 x.v.keys.length d0, .slice a1 x.v.l.length d1, .int .i64 x.n] 33)).alloc (.cells #[.int .i64 y.kind, .string y.s, .slice ak' y.keys.length ck', .slice a' y.l.length c', .int .i64 y.v.kind, .int .i64 y.v.n, .float .f64 y.v.f, .string y.v.s, .slice a0' y.v.keys.length d0', .slice a1' y.v.l.length d1', .int .i64 y.n] 33)).heap.size = w.heap.size + 2 := by simp
  have HX := Lib.hid (And.intro hx (And.intro hy (And.intro hB0 (And.intro bX0 (And.intro bY0 hs0)))))
  clear hv hv' hx hy hB0 bX0 bY0 hs0
  go_enter Try.func20, Try.ntmps20
  go_wp2_with fail
  obtain ⟨hx, hy, hB0, bX0, bY0, hs0⟩ := HX.out
  clear HX
  generalize ((w.alloc (.cells #[.int .i64 x.kind, .string x.s, .slice ak x.keys.length ck, .slice a x.l.length c, .int .i64 x.v.kind, .int .i64 x.v.n, .float .f64 x.v.f, .string x.v.s, .slice a0 x.v.keys.length d0, .slice a1 x.v.l.length d1, .int .i64 x.n] 33)).alloc (.cells #[.int .i64 y.kind, .string y.s, .slice ak' y.keys.length ck', .slice a' y.l.length c', .int .i64 y.v.kind, .int .i64 y.v.n, .float .f64 y.v.f, .string y.v.s, .slice a0' y.v.keys.length d0', .slice a1' y.v.l.length d1', .int .i64 y.n] 33)) = w2 at *
  generalize hM : w.heap.size = M at *
  have HM := Lib.hid hM; clear hM
  have HXD := Lib.hid hx.drew_
  have HYD := Lib.hid hy.drew_
  have m0 : w2.cell? ⟨M, 0, none⟩ = some (.int .i64 x.kind) := blk_c bX0 0 rfl
  have m1 : w2.cell? ⟨M, 1, none⟩ = some (.string x.s) := blk_c bX0 1 rfl
  have m2 : w2.cell? ⟨M, 2, none⟩ = some (.slice ak x.keys.length ck) := blk_c bX0 2 rfl
  have m3 : w2.cell? ⟨M, 3, none⟩ = some (.slice a x.l.length c) := blk_c bX0 3 rfl
  have m4 : w2.cell? ⟨M, 4, none⟩ = some (.int .i64 x.v.kind) := blk_c bX0 4 rfl
  have m5 : w2.cell? ⟨M, 5, none⟩ = some (.int .i64 x.v.n) := blk_c bX0 5 rfl
  have m6 : w2.cell? ⟨M, 6, none⟩ = some (.float .f64 x.v.f) := blk_c bX0 6 rfl
  have m7 : w2.cell? ⟨M, 7, none⟩ = some (.string x.v.s) := blk_c bX0 7 rfl
  have m8 : w2.cell? ⟨M, 8, none⟩ = some (.slice a0 x.v.keys.length d0) := blk_c bX0 8 rfl
  have m9 : w2.cell? ⟨M, 9, none⟩ = some (.slice a1 x.v.l.length d1) := blk_c bX0 9 rfl
  have m10 : w2.cell? ⟨M, 10, none⟩ = some (.int .i64 x.n) := blk_c bX0 10 rfl
  have n0 : w2.cell? ⟨M + 1, 0, none⟩ = some (.int .i64 y.kind) := blk_c bY0 0 rfl
  have n1 : w2.cell? ⟨M + 1, 1, none⟩ = some (.string y.s) := blk_c bY0 1 rfl
  have n2 : w2.cell? ⟨M + 1, 2, none⟩ = some (.slice ak' y.keys.length ck') := blk_c bY0 2 rfl
  have n3 : w2.cell? ⟨M + 1, 3, none⟩ = some (.slice a' y.l.length c') := blk_c bY0 3 rfl
  have n4 : w2.cell? ⟨M + 1, 4, none⟩ = some (.int .i64 y.v.kind) := blk_c bY0 4 rfl
  have n5 : w2.cell? ⟨M + 1, 5, none⟩ = some (.int .i64 y.v.n) := blk_c bY0 5 rfl
  have n6 : w2.cell? ⟨M + 1, 6, none⟩ = some (.float .f64 y.v.f) := blk_c bY0 6 rfl
  have n7 : w2.cell? ⟨M + 1, 7, none⟩ = some (.string y.v.s) := blk_c bY0 7 rfl
  have n8 : w2.cell? ⟨M + 1, 8, none⟩ = some (.slice a0' y.v.keys.length d0') := blk_c bY0 8 rfl
  have n9 : w2.cell? ⟨M + 1, 9, none⟩ = some (.slice a1' y.v.l.length d1') := blk_c bY0 9 rfl
  have n10 : w2.cell? ⟨M + 1, 10, none⟩ = some (.int .i64 y.n) := blk_c bY0 10 rfl
  have HS := Lib.hid (And.intro hB0 (And.intro bX0 (And.intro bY0 (And.intro hs0 (And.intro hy hxy)))))
  clear hB0 bX0 bY0 hs0 hx hy hxy
  refine wp_region_K (fun w' => w'.cell? ⟨M + 1, 0, none⟩ = some (.int .i64 y.kind) ∧ w'.cell? ⟨M + 1, 1, none⟩ = some (.string y.s) ∧ w'.cell? ⟨M + 1, 2, none⟩ = some (.slice ak' y.keys.length ck') ∧ w'.cell? ⟨M + 1, 3, none⟩ = some (.slice a' y.l.length c') ∧ w'.cell? ⟨M + 1, 4, none⟩ = some (.int .i64 y.v.kind) ∧ w'.cell? ⟨M + 1, 5, none⟩ = some (.int .i64 y.v.n) ∧ w'.cell? ⟨M + 1, 6, none⟩ = some (.float .f64 y.v.f) ∧ w'.cell? ⟨M + 1, 7, none⟩ = some (.string y.v.s) ∧ w'.cell? ⟨M + 1, 8, none⟩ = some (.slice a0' y.v.keys.length d0') ∧ w'.cell? ⟨M + 1, 9, none⟩ = some (.slice a1' y.v.l.length d1') ∧ w'.cell? ⟨M + 1, 10, none⟩ = some (.int .i64 y.n)) [2] (by kernel_rfl) ?_ (fun hHeld => ?_)
  · exact ⟨n0, n1, n2, n3, n4, n5, n6, n7, n8, n9, n10⟩
  refine wpK_take (i := 2) (v := ?_) rfl (by kernel_rfl) (by kernel_rfl) (by kernel_rfl) (by kernel_rfl) (.inl ⟨by rfl, ?_⟩) hHeld ?_
  rotate_left
  · (intro w hSw; (try dsimp only at hSw); go_split_ands; go_simp; (try with_reducible rfl))
  try simp only [Act.put, List.setIfInBounds_toArray, List.set_cons_zero, List.set_cons_succ]
  refine wpK_one (i := 0) (by kernel_rfl) rfl (fun K hK => ?_)
  go_simp
  refine hK.out _ _ ?_ (fun hHeld => ?_)
  · exact hHeld
  clear hK K
  try simp only [Act.put, List.setIfInBounds_toArray, List.set_cons_zero, List.set_cons_succ]
  refine wpK_one (i := 1) (by kernel_rfl) rfl (fun K hK => ?_)
  go_simp
  (with_reducible refine (cleanE_any x _ _ HXD.out).mono ?_)
  rintro e w3 ⟨r3, rfl, hB3, hr3⟩
  have HY3 := Lib.hid (HYD.out.below_ hB3)
  refine hK.out _ _ ?_ (fun hHeld => ?_)
  · exact ⟨cell_below hB3 hHeld.1, cell_below hB3 hHeld.2.1, cell_below hB3 hHeld.2.2.1, cell_below hB3 hHeld.2.2.2.1, cell_below hB3 hHeld.2.2.2.2.1, cell_below hB3 hHeld.2.2.2.2.2.1, cell_below hB3 hHeld.2.2.2.2.2.2.1, cell_below hB3 hHeld.2.2.2.2.2.2.2.1, cell_below hB3 hHeld.2.2.2.2.2.2.2.2.1, cell_below hB3 hHeld.2.2.2.2.2.2.2.2.2.1, cell_below hB3 hHeld.2.2.2.2.2.2.2.2.2.2⟩
  clear hK K
  try simp only [Act.put, List.setIfInBounds_toArray, List.set_cons_zero, List.set_cons_succ]
  refine wpK_last (i := 3) (by kernel_rfl) (by kernel_rfl) rfl (fun K hK => ?_)
  go_simp
  (with_reducible refine (cleanE_any y _ _ HY3.out).mono ?_)
  rintro e w4 ⟨r4, rfl, hB4, hr4⟩
  obtain ⟨hB0, bX0, bY0, hs0, hy, hxy⟩ := HS.out
  rw [hxy] at hr3
  obtain ⟨z, hz⟩ : ∃ z, z = cleanE y := ⟨_, rfl⟩
  rw [← hz] at hr3 hr4
  have hr3' := hr3.below_ hB4
  obtain ⟨pk, pk0, pl, pl0, pa, pa0, pb, pb0, rfl⟩ := hr3.form
  obtain ⟨qk, qk0, ql, ql0, qa, qa0, qb, qb0, rfl⟩ := hr4.form
  have bX4 := blk_below (blk_below (w := w2.drew) bX0 hB3) hB4
  have bY4 := blk_below (blk_below (w := w2.drew) bY0 hB3) hB4
  have hs3 : M + 2 ≤ w3.heap.size := by have h1 := hB3.size; have h2 : w2.drew.heap.size = w2.heap.size := rfl; omega
  have hs2 : M + 2 ≤ w2.drew.heap.size := by show M + 2 ≤ w2.heap.size; omega
  have hs4 : w3.heap.size ≤ w4.heap.size := hB4.size
  have hB4' : Below M w w4 := (hB0.drew.trans (hB3.mono (by show M ≤ w2.heap.size; omega))).trans (hB4.mono (by omega))
  have hb4 : (st11 w4 M (.int .i64 z.kind) (.string z.s) (.slice pk z.keys.length pk0) (.slice pl z.l.length pl0) (.int .i64 z.v.kind) (.int .i64 z.v.n) (.float .f64 z.v.f) (.string z.v.s) (.slice pa z.v.keys.length pa0) (.slice pb z.v.l.length pb0) (.int .i64 z.n)).heap[M + 1]? = some (.cells #[.int .i64 y.kind, .string y.s, .slice ak' y.keys.length ck', .slice a' y.l.length c', .int .i64 y.v.kind, .int .i64 y.v.n, .float .f64 y.v.f, .string y.v.s, .slice a0' y.v.keys.length d0', .slice a1' y.v.l.length d1', .int .i64 y.n] 33) := (st11_eq (by omega)).trans bY4
  unfold st11 at hb4
  have HT := Lib.hid (And.intro hr3' (And.intro hr4 (And.intro bX4 (And.intro bY4 hB4'))))
  have i0 : w4.cell? ⟨M, 0, none⟩ = some (.int .i64 x.kind) := blk_c bX4 0 rfl
  have i1 : w4.cell? ⟨M, 1, none⟩ = some (.string x.s) := blk_c bX4 1 rfl
  have i2 : w4.cell? ⟨M, 2, none⟩ = some (.slice ak x.keys.length ck) := blk_c bX4 2 rfl
  have i3 : w4.cell? ⟨M, 3, none⟩ = some (.slice a x.l.length c) := blk_c bX4 3 rfl
  have i4 : w4.cell? ⟨M, 4, none⟩ = some (.int .i64 x.v.kind) := blk_c bX4 4 rfl
  have i5 : w4.cell? ⟨M, 5, none⟩ = some (.int .i64 x.v.n) := blk_c bX4 5 rfl
  have i6 : w4.cell? ⟨M, 6, none⟩ = some (.float .f64 x.v.f) := blk_c bX4 6 rfl
  have i7 : w4.cell? ⟨M, 7, none⟩ = some (.string x.v.s) := blk_c bX4 7 rfl
  have i8 : w4.cell? ⟨M, 8, none⟩ = some (.slice a0 x.v.keys.length d0) := blk_c bX4 8 rfl
  have i9 : w4.cell? ⟨M, 9, none⟩ = some (.slice a1 x.v.l.length d1) := blk_c bX4 9 rfl
  have i10 : w4.cell? ⟨M, 10, none⟩ = some (.int .i64 x.n) := blk_c bX4 10 rfl
  have fi0 := blk_frozen bX4 0
  have fi1 := blk_frozen bX4 1
  have fi2 := blk_frozen bX4 2
  have fi3 := blk_frozen bX4 3
  have fi4 := blk_frozen bX4 4
  have fi5 := blk_frozen bX4 5
  have fi6 := blk_frozen bX4 6
  have fi7 := blk_frozen bX4 7
  have fi8 := blk_frozen bX4 8
  have fi9 := blk_frozen bX4 9
  have fi10 := blk_frozen bX4 10
  have j0 : w4.cell? ⟨M + 1, 0, none⟩ = some (.int .i64 y.kind) := blk_c bY4 0 rfl
  have j1 : w4.cell? ⟨M + 1, 1, none⟩ = some (.string y.s) := blk_c bY4 1 rfl
  have j2 : w4.cell? ⟨M + 1, 2, none⟩ = some (.slice ak' y.keys.length ck') := blk_c bY4 2 rfl
  have j3 : w4.cell? ⟨M + 1, 3, none⟩ = some (.slice a' y.l.length c') := blk_c bY4 3 rfl
  have j4 : w4.cell? ⟨M + 1, 4, none⟩ = some (.int .i64 y.v.kind) := blk_c bY4 4 rfl
  have j5 : w4.cell? ⟨M + 1, 5, none⟩ = some (.int .i64 y.v.n) := blk_c bY4 5 rfl
  have j6 : w4.cell? ⟨M + 1, 6, none⟩ = some (.float .f64 y.v.f) := blk_c bY4 6 rfl
  have j7 : w4.cell? ⟨M + 1, 7, none⟩ = some (.string y.v.s) := blk_c bY4 7 rfl
  have j8 : w4.cell? ⟨M + 1, 8, none⟩ = some (.slice a0' y.v.keys.length d0') := blk_c bY4 8 rfl
  have j9 : w4.cell? ⟨M + 1, 9, none⟩ = some (.slice a1' y.v.l.length d1') := blk_c bY4 9 rfl
  have j10 : w4.cell? ⟨M + 1, 10, none⟩ = some (.int .i64 y.n) := blk_c bY4 10 rfl
  have fj0 := blk_frozen bY4 0
  have fj1 := blk_frozen bY4 1
  have fj2 := blk_frozen bY4 2
  have fj3 := blk_frozen bY4 3
  have fj4 := blk_frozen bY4 4
  have fj5 := blk_frozen bY4 5
  have fj6 := blk_frozen bY4 6
  have fj7 := blk_frozen bY4 7
  have fj8 := blk_frozen bY4 8
  have fj9 := blk_frozen bY4 9
  have fj10 := blk_frozen bY4 10
  clear hB0 bX0 bY0 hs0 hy hxy hr3 hr3' hr4 hB4' HS HXD HYD HY3 hz
  refine hK.out _ _ ?_
  clear hK K
  try simp only [Act.put, List.setIfInBounds_toArray, List.set_cons_zero, List.set_cons_succ]
  refine wpK_one (i := 4) (by kernel_rfl) rfl (fun K hK => ?_)
  go_simp
  refine hK.out _ _ ?_ (fun hHeld => ?_)
  · exact ⟨blk_c hb4 0 rfl, blk_c hb4 1 rfl, blk_c hb4 2 rfl, blk_c hb4 3 rfl, blk_c hb4 4 rfl, blk_c hb4 5 rfl, blk_c hb4 6 rfl, blk_c hb4 7 rfl, blk_c hb4 8 rfl, blk_c hb4 9 rfl, blk_c hb4 10 rfl⟩
  clear hK K
  try simp only [Act.put, List.setIfInBounds_toArray, List.set_cons_zero, List.set_cons_succ]
  refine wpK_last (i := 5) (by kernel_rfl) (by kernel_rfl) rfl (fun K hK => ?_)
  go_simp
  refine hK.out _ _ ?_
  clear hK K
  try simp only [Act.put, List.setIfInBounds_toArray, List.set_cons_zero, List.set_cons_succ]
  refine wpK_done (by kernel_rfl) ?_ _
  obtain ⟨hr3', hr4, bX4, bY4, hB4'⟩ := HT.out
  have hw2 : w2.drew.heap.size = w2.heap.size := rfl
  have hM2 : M + 2 ≤ w3.heap.size := hs3
  have hM2' : M + 2 ≤ w2.drew.heap.size := hs2
  have hz5 : (st11 (st11 w4 M (.int .i64 z.kind) (.string z.s) (.slice pk z.keys.length pk0) (.slice pl z.l.length pl0) (.int .i64 z.v.kind) (.int .i64 z.v.n) (.float .f64 z.v.f) (.string z.v.s) (.slice pa z.v.keys.length pa0) (.slice pb z.v.l.length pb0) (.int .i64 z.n)) (M + 1) (.int .i64 z.kind) (.string z.s) (.slice qk z.keys.length qk0) (.slice ql z.l.length ql0) (.int .i64 z.v.kind) (.int .i64 z.v.n) (.float .f64 z.v.f) (.string z.v.s) (.slice qa z.v.keys.length qa0) (.slice qb z.v.l.length qb0) (.int .i64 z.n)).heap.size = w4.heap.size := by rw [st11_size, st11_size]
  have hk5 : ∀ b, M + 2 ≤ b → (st11 (st11 w4 M (.int .i64 z.kind) (.string z.s) (.slice pk z.keys.length pk0) (.slice pl z.l.length pl0) (.int .i64 z.v.kind) (.int .i64 z.v.n) (.float .f64 z.v.f) (.string z.v.s) (.slice pa z.v.keys.length pa0) (.slice pb z.v.l.length pb0) (.int .i64 z.n)) (M + 1) (.int .i64 z.kind) (.string z.s) (.slice qk z.keys.length qk0) (.slice ql z.l.length ql0) (.int .i64 z.v.kind) (.int .i64 z.v.n) (.float .f64 z.v.f) (.string z.v.s) (.slice qa z.v.keys.length qa0) (.slice qb z.v.l.length qb0) (.int .i64 z.n)).heap[b]? = w4.heap[b]? := fun b hb => (st11_eq (by omega)).trans (st11_eq (by omega))
  have bX5 : (st11 (st11 w4 M (.int .i64 z.kind) (.string z.s) (.slice pk z.keys.length pk0) (.slice pl z.l.length pl0) (.int .i64 z.v.kind) (.int .i64 z.v.n) (.float .f64 z.v.f) (.string z.v.s) (.slice pa z.v.keys.length pa0) (.slice pb z.v.l.length pb0) (.int .i64 z.n)) (M + 1) (.int .i64 z.kind) (.string z.s) (.slice qk z.keys.length qk0) (.slice ql z.l.length ql0) (.int .i64 z.v.kind) (.int .i64 z.v.n) (.float .f64 z.v.f) (.string z.v.s) (.slice qa z.v.keys.length qa0) (.slice qb z.v.l.length qb0) (.int .i64 z.n)).heap[M]? = some (.cells #[.int .i64 z.kind, .string z.s, .slice pk z.keys.length pk0, .slice pl z.l.length pl0, .int .i64 z.v.kind, .int .i64 z.v.n, .float .f64 z.v.f, .string z.v.s, .slice pa z.v.keys.length pa0, .slice pb z.v.l.length pb0, .int .i64 z.n] 33) := (st11_eq (by omega)).trans (st11_blk bX4)
  have bY5 : (st11 (st11 w4 M (.int .i64 z.kind) (.string z.s) (.slice pk z.keys.length pk0) (.slice pl z.l.length pl0) (.int .i64 z.v.kind) (.int .i64 z.v.n) (.float .f64 z.v.f) (.string z.v.s) (.slice pa z.v.keys.length pa0) (.slice pb z.v.l.length pb0) (.int .i64 z.n)) (M + 1) (.int .i64 z.kind) (.string z.s) (.slice qk z.keys.length qk0) (.slice ql z.l.length ql0) (.int .i64 z.v.kind) (.int .i64 z.v.n) (.float .f64 z.v.f) (.string z.v.s) (.slice qa z.v.keys.length qa0) (.slice qb z.v.l.length qb0) (.int .i64 z.n)).heap[M + 1]? = some (.cells #[.int .i64 z.kind, .string z.s, .slice qk z.keys.length qk0, .slice ql z.l.length ql0, .int .i64 z.v.kind, .int .i64 z.v.n, .float .f64 z.v.f, .string z.v.s, .slice qa z.v.keys.length qa0, .slice qb z.v.l.length qb0, .int .i64 z.n] 33) := st11_blk ((st11_eq (by omega)).trans bY4)
  have hp5 : IsE (st11 (st11 w4 M (.int .i64 z.kind) (.string z.s) (.slice pk z.keys.length pk0) (.slice pl z.l.length pl0) (.int .i64 z.v.kind) (.int .i64 z.v.n) (.float .f64 z.v.f) (.string z.v.s) (.slice pa z.v.keys.length pa0) (.slice pb z.v.l.length pb0) (.int .i64 z.n)) (M + 1) (.int .i64 z.kind) (.string z.s) (.slice qk z.keys.length qk0) (.slice ql z.l.length ql0) (.int .i64 z.v.kind) (.int .i64 z.v.n) (.float .f64 z.v.f) (.string z.v.s) (.slice qa z.v.keys.length qa0) (.slice qb z.v.l.length qb0) (.int .i64 z.n)) (Btw 0 (st11 (st11 w4 M (.int .i64 z.kind) (.string z.s) (.slice pk z.keys.length pk0) (.slice pl z.l.length pl0) (.int .i64 z.v.kind) (.int .i64 z.v.n) (.float .f64 z.v.f) (.string z.v.s) (.slice pa z.v.keys.length pa0) (.slice pb z.v.l.length pb0) (.int .i64 z.n)) (M + 1) (.int .i64 z.kind) (.string z.s) (.slice qk z.keys.length qk0) (.slice ql z.l.length ql0) (.int .i64 z.v.kind) (.int .i64 z.v.n) (.float .f64 z.v.f) (.string z.v.s) (.slice qa z.v.keys.length qa0) (.slice qb z.v.l.length qb0) (.int .i64 z.n)).heap.size) z (.agg #[.int .i64 z.kind, .string z.s, .slice pk z.keys.length pk0, .slice pl z.l.length pl0, .int .i64 z.v.kind, .int .i64 z.v.n, .float .f64 z.v.f, .string z.v.s, .slice pa z.v.keys.length pa0, .slice pb z.v.l.length pb0, .int .i64 z.n]) := by
    rw [hz5]; exact hr3'.keep (fun b hb => hk5 b (by have := hb.1; omega)) (Btw.mono (Nat.zero_le _) (Nat.le_refl _))
  have hq5 : IsE (st11 (st11 w4 M (.int .i64 z.kind) (.string z.s) (.slice pk z.keys.length pk0) (.slice pl z.l.length pl0) (.int .i64 z.v.kind) (.int .i64 z.v.n) (.float .f64 z.v.f) (.string z.v.s) (.slice pa z.v.keys.length pa0) (.slice pb z.v.l.length pb0) (.int .i64 z.n)) (M + 1) (.int .i64 z.kind) (.string z.s) (.slice qk z.keys.length qk0) (.slice ql z.l.length ql0) (.int .i64 z.v.kind) (.int .i64 z.v.n) (.float .f64 z.v.f) (.string z.v.s) (.slice qa z.v.keys.length qa0) (.slice qb z.v.l.length qb0) (.int .i64 z.n)) (Btw 0 (st11 (st11 w4 M (.int .i64 z.kind) (.string z.s) (.slice pk z.keys.length pk0) (.slice pl z.l.length pl0) (.int .i64 z.v.kind) (.int .i64 z.v.n) (.float .f64 z.v.f) (.string z.v.s) (.slice pa z.v.keys.length pa0) (.slice pb z.v.l.length pb0) (.int .i64 z.n)) (M + 1) (.int .i64 z.kind) (.string z.s) (.slice qk z.keys.length qk0) (.slice ql z.l.length ql0) (.int .i64 z.v.kind) (.int .i64 z.v.n) (.float .f64 z.v.f) (.string z.v.s) (.slice qa z.v.keys.length qa0) (.slice qb z.v.l.length qb0) (.int .i64 z.n)).heap.size) z (.agg #[.int .i64 z.kind, .string z.s, .slice qk z.keys.length qk0, .slice ql z.l.length ql0, .int .i64 z.v.kind, .int .i64 z.v.n, .float .f64 z.v.f, .string z.v.s, .slice qa z.v.keys.length qa0, .slice qb z.v.l.length qb0, .int .i64 z.n]) := by
    rw [hz5]; exact hr4.keep (fun b hb => hk5 b (by have := hb.1; omega)) (Btw.mono (Nat.zero_le _) (Nat.le_refl _))
  have hB5 : Below M w (st11 (st11 w4 M (.int .i64 z.kind) (.string z.s) (.slice pk z.keys.length pk0) (.slice pl z.l.length pl0) (.int .i64 z.v.kind) (.int .i64 z.v.n) (.float .f64 z.v.f) (.string z.v.s) (.slice pa z.v.keys.length pa0) (.slice pb z.v.l.length pb0) (.int .i64 z.n)) (M + 1) (.int .i64 z.kind) (.string z.s) (.slice qk z.keys.length qk0) (.slice ql z.l.length ql0) (.int .i64 z.v.kind) (.int .i64 z.v.n) (.float .f64 z.v.f) (.string z.v.s) (.slice qa z.v.keys.length qa0) (.slice qb z.v.l.length qb0) (.int .i64 z.n)) := st11_below (st11_below hB4' (Nat.le_refl _)) (by omega)
  unfold st11 at bX5 bY5 hp5 hq5 hB5
  clear hk5 hz5 hr3' hr4 bX4 bY4 hB4' HT hb4 i0 j0 fi0 fj0 m0 n0 i1 j1 fi1 fj1 m1 n1 i2 j2 fi2 fj2 m2 n2 i3 j3 fi3 fj3 m3 n3 i4 j4 fi4 fj4 m4 n4 i5 j5 fi5 fj5 m5 n5 i6 j6 fi6 fj6 m6 n6 i7 j7 fi7 fj7 m7 n7 i8 j8 fi8 fj8 m8 n8 i9 j9 fi9 fj9 m9 n9 i10 j10 fi10 fj10 m10 n10 hHeld
  generalize ((((((((((((((((((((((w4.setCell ⟨M, 0, none⟩ (.int .i64 z.kind)).setCell ⟨M, 1, none⟩ (.string z.s)).setCell ⟨M, 2, none⟩ (.slice pk z.keys.length pk0)).setCell ⟨M, 3, none⟩ (.slice pl z.l.length pl0)).setCell ⟨M, 4, none⟩ (.int .i64 z.v.kind)).setCell ⟨M, 5, none⟩ (.int .i64 z.v.n)).setCell ⟨M, 6, none⟩ (.float .f64 z.v.f)).setCell ⟨M, 7, none⟩ (.string z.v.s)).setCell ⟨M, 8, none⟩ (.slice pa z.v.keys.length pa0)).setCell ⟨M, 9, none⟩ (.slice pb z.v.l.length pb0)).setCell ⟨M, 10, none⟩ (.int .i64 z.n)).setCell ⟨M + 1, 0, none⟩ (.int .i64 z.kind)).setCell ⟨M + 1, 1, none⟩ (.string z.s)).setCell ⟨M + 1, 2, none⟩ (.slice qk z.keys.length qk0)).setCell ⟨M + 1, 3, none⟩ (.slice ql z.l.length ql0)).setCell ⟨M + 1, 4, none⟩ (.int .i64 z.v.kind)).setCell ⟨M + 1, 5, none⟩ (.int .i64 z.v.n)).setCell ⟨M + 1, 6, none⟩ (.float .f64 z.v.f)).setCell ⟨M + 1, 7, none⟩ (.string z.v.s)).setCell ⟨M + 1, 8, none⟩ (.slice qa z.v.keys.length qa0)).setCell ⟨M + 1, 9, none⟩ (.slice qb z.v.l.length qb0)).setCell ⟨M + 1, 10, none⟩ (.int .i64 z.n)) = w5 at *
  have hc := same_all z.v
  have hc2 := same_all (GV.mk 6 0 0 ByteArray.empty z.keys z.l)
  have hB5s : M + 2 ≤ w5.heap.size := by have := blk_lt bY5; omega
  have i0 : w5.cell? ⟨M, 0, none⟩ = some (.int .i64 z.kind) := blk_c bX5 0 rfl
  have i1 : w5.cell? ⟨M, 1, none⟩ = some (.string z.s) := blk_c bX5 1 rfl
  have i2 : w5.cell? ⟨M, 2, none⟩ = some (.slice pk z.keys.length pk0) := blk_c bX5 2 rfl
  have i3 : w5.cell? ⟨M, 3, none⟩ = some (.slice pl z.l.length pl0) := blk_c bX5 3 rfl
  have i4 : w5.cell? ⟨M, 4, none⟩ = some (.int .i64 z.v.kind) := blk_c bX5 4 rfl
  have i5 : w5.cell? ⟨M, 5, none⟩ = some (.int .i64 z.v.n) := blk_c bX5 5 rfl
  have i6 : w5.cell? ⟨M, 6, none⟩ = some (.float .f64 z.v.f) := blk_c bX5 6 rfl
  have i7 : w5.cell? ⟨M, 7, none⟩ = some (.string z.v.s) := blk_c bX5 7 rfl
  have i8 : w5.cell? ⟨M, 8, none⟩ = some (.slice pa z.v.keys.length pa0) := blk_c bX5 8 rfl
  have i9 : w5.cell? ⟨M, 9, none⟩ = some (.slice pb z.v.l.length pb0) := blk_c bX5 9 rfl
  have i10 : w5.cell? ⟨M, 10, none⟩ = some (.int .i64 z.n) := blk_c bX5 10 rfl
  have j0 : w5.cell? ⟨M + 1, 0, none⟩ = some (.int .i64 z.kind) := blk_c bY5 0 rfl
  have j1 : w5.cell? ⟨M + 1, 1, none⟩ = some (.string z.s) := blk_c bY5 1 rfl
  have j2 : w5.cell? ⟨M + 1, 2, none⟩ = some (.slice qk z.keys.length qk0) := blk_c bY5 2 rfl
  have j3 : w5.cell? ⟨M + 1, 3, none⟩ = some (.slice ql z.l.length ql0) := blk_c bY5 3 rfl
  have j4 : w5.cell? ⟨M + 1, 4, none⟩ = some (.int .i64 z.v.kind) := blk_c bY5 4 rfl
  have j5 : w5.cell? ⟨M + 1, 5, none⟩ = some (.int .i64 z.v.n) := blk_c bY5 5 rfl
  have j6 : w5.cell? ⟨M + 1, 6, none⟩ = some (.float .f64 z.v.f) := blk_c bY5 6 rfl
  have j7 : w5.cell? ⟨M + 1, 7, none⟩ = some (.string z.v.s) := blk_c bY5 7 rfl
  have j8 : w5.cell? ⟨M + 1, 8, none⟩ = some (.slice qa z.v.keys.length qa0) := blk_c bY5 8 rfl
  have j9 : w5.cell? ⟨M + 1, 9, none⟩ = some (.slice qb z.v.l.length qb0) := blk_c bY5 9 rfl
  have j10 : w5.cell? ⟨M + 1, 10, none⟩ = some (.int .i64 z.n) := blk_c bY5 10 rfl
  have HV := Lib.hid (And.intro hp5.val hq5.val)
  have HT := Lib.hid (And.intro hp5 (And.intro hq5 (And.intro bX5 (And.intro bY5 hB5))))
  clear hp5 hq5 bX5 bY5 hB5
  go_wp2_with (go_at_call 69; (with_reducible refine (hc.use z.v _ _ _ HV.out.1 HV.out.2).mono ?_))
  rintro e w6 ⟨rfl, hB6⟩
  rw [sameG_iff.2 rfl]
  obtain ⟨hp5, hq5, bX5, bY5, hB5⟩ := HT.out
  clear i0 j0 i1 j1 i2 j2 i3 j3 i4 j4 i5 j5 i6 j6 i7 j7 i8 j8 i9 j9 i10 j10 HT HV hc
  have bX6 := blk_below bX5 hB6
  have bY6 := blk_below bY5 hB6
  have HP6 := Lib.hid (hp5.below_ hB6).drew_
  have HQ6 := Lib.hid (hq5.below_ hB6).drew_
  have HB6 := Lib.hid (hB5.trans (hB6.mono (by omega)))
  have hs6 : w5.heap.size ≤ w6.heap.size := hB6.size
  have i0 : w6.cell? ⟨M, 0, none⟩ = some (.int .i64 z.kind) := blk_c bX6 0 rfl
  have i1 : w6.cell? ⟨M, 1, none⟩ = some (.string z.s) := blk_c bX6 1 rfl
  have i2 : w6.cell? ⟨M, 2, none⟩ = some (.slice pk z.keys.length pk0) := blk_c bX6 2 rfl
  have i3 : w6.cell? ⟨M, 3, none⟩ = some (.slice pl z.l.length pl0) := blk_c bX6 3 rfl
  have i4 : w6.cell? ⟨M, 4, none⟩ = some (.int .i64 z.v.kind) := blk_c bX6 4 rfl
  have i5 : w6.cell? ⟨M, 5, none⟩ = some (.int .i64 z.v.n) := blk_c bX6 5 rfl
  have i6 : w6.cell? ⟨M, 6, none⟩ = some (.float .f64 z.v.f) := blk_c bX6 6 rfl
  have i7 : w6.cell? ⟨M, 7, none⟩ = some (.string z.v.s) := blk_c bX6 7 rfl
  have i8 : w6.cell? ⟨M, 8, none⟩ = some (.slice pa z.v.keys.length pa0) := blk_c bX6 8 rfl
  have i9 : w6.cell? ⟨M, 9, none⟩ = some (.slice pb z.v.l.length pb0) := blk_c bX6 9 rfl
  have i10 : w6.cell? ⟨M, 10, none⟩ = some (.int .i64 z.n) := blk_c bX6 10 rfl
  have j0 : w6.cell? ⟨M + 1, 0, none⟩ = some (.int .i64 z.kind) := blk_c bY6 0 rfl
  have j1 : w6.cell? ⟨M + 1, 1, none⟩ = some (.string z.s) := blk_c bY6 1 rfl
  have j2 : w6.cell? ⟨M + 1, 2, none⟩ = some (.slice qk z.keys.length qk0) := blk_c bY6 2 rfl
  have j3 : w6.cell? ⟨M + 1, 3, none⟩ = some (.slice ql z.l.length ql0) := blk_c bY6 3 rfl
  have j4 : w6.cell? ⟨M + 1, 4, none⟩ = some (.int .i64 z.v.kind) := blk_c bY6 4 rfl
  have j5 : w6.cell? ⟨M + 1, 5, none⟩ = some (.int .i64 z.v.n) := blk_c bY6 5 rfl
  have j6 : w6.cell? ⟨M + 1, 6, none⟩ = some (.float .f64 z.v.f) := blk_c bY6 6 rfl
  have j7 : w6.cell? ⟨M + 1, 7, none⟩ = some (.string z.v.s) := blk_c bY6 7 rfl
  have j8 : w6.cell? ⟨M + 1, 8, none⟩ = some (.slice qa z.v.keys.length qa0) := blk_c bY6 8 rfl
  have j9 : w6.cell? ⟨M + 1, 9, none⟩ = some (.slice qb z.v.l.length qb0) := blk_c bY6 9 rfl
  have j10 : w6.cell? ⟨M + 1, 10, none⟩ = some (.int .i64 z.n) := blk_c bY6 10 rfl
  clear hp5 hq5 bX5 bY5 hB5 hB6 bX6 bY6
  go_wp2_with fail
  refine wp_region_K (fun w' => w'.cell? ⟨M, 0, none⟩ = some (.int .i64 z.kind) ∧ w'.cell? ⟨M, 1, none⟩ = some (.string z.s) ∧ w'.cell? ⟨M, 2, none⟩ = some (.slice pk z.keys.length pk0) ∧ w'.cell? ⟨M, 3, none⟩ = some (.slice pl z.l.length pl0) ∧ w'.cell? ⟨M, 4, none⟩ = some (.int .i64 z.v.kind) ∧ w'.cell? ⟨M, 5, none⟩ = some (.int .i64 z.v.n) ∧ w'.cell? ⟨M, 6, none⟩ = some (.float .f64 z.v.f) ∧ w'.cell? ⟨M, 7, none⟩ = some (.string z.v.s) ∧ w'.cell? ⟨M, 8, none⟩ = some (.slice pa z.v.keys.length pa0) ∧ w'.cell? ⟨M, 9, none⟩ = some (.slice pb z.v.l.length pb0) ∧ w'.cell? ⟨M, 10, none⟩ = some (.int .i64 z.n) ∧ w'.cell? ⟨M + 1, 0, none⟩ = some (.int .i64 z.kind) ∧ w'.cell? ⟨M + 1, 1, none⟩ = some (.string z.s) ∧ w'.cell? ⟨M + 1, 2, none⟩ = some (.slice qk z.keys.length qk0) ∧ w'.cell? ⟨M + 1, 3, none⟩ = some (.slice ql z.l.length ql0) ∧ w'.cell? ⟨M + 1, 4, none⟩ = some (.int .i64 z.v.kind) ∧ w'.cell? ⟨M + 1, 5, none⟩ = some (.int .i64 z.v.n) ∧ w'.cell? ⟨M + 1, 6, none⟩ = some (.float .f64 z.v.f) ∧ w'.cell? ⟨M + 1, 7, none⟩ = some (.string z.v.s) ∧ w'.cell? ⟨M + 1, 8, none⟩ = some (.slice qa z.v.keys.length qa0) ∧ w'.cell? ⟨M + 1, 9, none⟩ = some (.slice qb z.v.l.length qb0) ∧ w'.cell? ⟨M + 1, 10, none⟩ = some (.int .i64 z.n)) [0, 2, 5] (by kernel_rfl) ?_ (fun hHeld => ?_)
  · exact ⟨i0, i1, i2, i3, i4, i5, i6, i7, i8, i9, i10, j0, j1, j2, j3, j4, j5, j6, j7, j8, j9, j10⟩
  refine wpK_take (i := 0) (v := ?_) rfl (by kernel_rfl) (by kernel_rfl) (by kernel_rfl) (by kernel_rfl) (.inl ⟨by rfl, ?_⟩) hHeld ?_
  rotate_left
  · (intro w hSw; (try dsimp only at hSw); go_split_ands; go_simp; (try with_reducible rfl))
  try simp only [Act.put, List.setIfInBounds_toArray, List.set_cons_zero, List.set_cons_succ]
  refine wpK_take (i := 2) (v := ?_) rfl (by kernel_rfl) (by kernel_rfl) (by kernel_rfl) (by kernel_rfl) (.inl ⟨by rfl, ?_⟩) hHeld ?_
  rotate_left
  · (intro w hSw; (try dsimp only at hSw); go_split_ands; go_simp; (try with_reducible rfl))
  try simp only [Act.put, List.setIfInBounds_toArray, List.set_cons_zero, List.set_cons_succ]
  refine wpK_one (i := 1) (by kernel_rfl) rfl (fun K hK => ?_)
  go_simp
  (with_reducible refine (keyValue_any z _ _ HP6.out).mono ?_)
  rintro e w7 ⟨r7, rfl, hB7, hr7⟩
  have HQ7 := Lib.hid (HQ6.out.below_ hB7)
  refine hK.out _ _ ?_ (fun hHeld => ?_)
  · exact ⟨cell_below hB7 hHeld.1, cell_below hB7 hHeld.2.1, cell_below hB7 hHeld.2.2.1, cell_below hB7 hHeld.2.2.2.1, cell_below hB7 hHeld.2.2.2.2.1, cell_below hB7 hHeld.2.2.2.2.2.1, cell_below hB7 hHeld.2.2.2.2.2.2.1, cell_below hB7 hHeld.2.2.2.2.2.2.2.1, cell_below hB7 hHeld.2.2.2.2.2.2.2.2.1, cell_below hB7 hHeld.2.2.2.2.2.2.2.2.2.1, cell_below hB7 hHeld.2.2.2.2.2.2.2.2.2.2.1, cell_below hB7 hHeld.2.2.2.2.2.2.2.2.2.2.2.1, cell_below hB7 hHeld.2.2.2.2.2.2.2.2.2.2.2.2.1, cell_below hB7 hHeld.2.2.2.2.2.2.2.2.2.2.2.2.2.1, cell_below hB7 hHeld.2.2.2.2.2.2.2.2.2.2.2.2.2.2.1, cell_below hB7 hHeld.2.2.2.2.2.2.2.2.2.2.2.2.2.2.2.1, cell_below hB7 hHeld.2.2.2.2.2.2.2.2.2.2.2.2.2.2.2.2.1, cell_below hB7 hHeld.2.2.2.2.2.2.2.2.2.2.2.2.2.2.2.2.2.1, cell_below hB7 hHeld.2.2.2.2.2.2.2.2.2.2.2.2.2.2.2.2.2.2.1, cell_below hB7 hHeld.2.2.2.2.2.2.2.2.2.2.2.2.2.2.2.2.2.2.2.1, cell_below hB7 hHeld.2.2.2.2.2.2.2.2.2.2.2.2.2.2.2.2.2.2.2.2.1, cell_below hB7 hHeld.2.2.2.2.2.2.2.2.2.2.2.2.2.2.2.2.2.2.2.2.2⟩
  clear hK K
  try simp only [Act.put, List.setIfInBounds_toArray, List.set_cons_zero, List.set_cons_succ]
  refine wpK_one (i := 3) (by kernel_rfl) rfl (fun K hK => ?_)
  go_simp
  (with_reducible refine (keyValue_any z _ _ HQ7.out).mono ?_)
  rintro e w8 ⟨r8, rfl, hB8, hr8⟩
  have HR7 := Lib.hid (And.intro (hr7.below_ hB8) hr8)
  refine hK.out _ _ ?_ (fun hHeld => ?_)
  · exact ⟨cell_below hB8 hHeld.1, cell_below hB8 hHeld.2.1, cell_below hB8 hHeld.2.2.1, cell_below hB8 hHeld.2.2.2.1, cell_below hB8 hHeld.2.2.2.2.1, cell_below hB8 hHeld.2.2.2.2.2.1, cell_below hB8 hHeld.2.2.2.2.2.2.1, cell_below hB8 hHeld.2.2.2.2.2.2.2.1, cell_below hB8 hHeld.2.2.2.2.2.2.2.2.1, cell_below hB8 hHeld.2.2.2.2.2.2.2.2.2.1, cell_below hB8 hHeld.2.2.2.2.2.2.2.2.2.2.1, cell_below hB8 hHeld.2.2.2.2.2.2.2.2.2.2.2.1, cell_below hB8 hHeld.2.2.2.2.2.2.2.2.2.2.2.2.1, cell_below hB8 hHeld.2.2.2.2.2.2.2.2.2.2.2.2.2.1, cell_below hB8 hHeld.2.2.2.2.2.2.2.2.2.2.2.2.2.2.1, cell_below hB8 hHeld.2.2.2.2.2.2.2.2.2.2.2.2.2.2.2.1, cell_below hB8 hHeld.2.2.2.2.2.2.2.2.2.2.2.2.2.2.2.2.1, cell_below hB8 hHeld.2.2.2.2.2.2.2.2.2.2.2.2.2.2.2.2.2.1, cell_below hB8 hHeld.2.2.2.2.2.2.2.2.2.2.2.2.2.2.2.2.2.2.1, cell_below hB8 hHeld.2.2.2.2.2.2.2.2.2.2.2.2.2.2.2.2.2.2.2.1, cell_below hB8 hHeld.2.2.2.2.2.2.2.2.2.2.2.2.2.2.2.2.2.2.2.2.1, cell_below hB8 hHeld.2.2.2.2.2.2.2.2.2.2.2.2.2.2.2.2.2.2.2.2.2⟩
  clear hK K
  try simp only [Act.put, List.setIfInBounds_toArray, List.set_cons_zero, List.set_cons_succ]
  refine wpK_one (i := 4) (by kernel_rfl) rfl (fun K hK => ?_)
  go_simp
  (with_reducible refine (hc2.use _ _ _ _ HR7.out.1 HR7.out.2).mono ?_)
  rintro e w9 ⟨rfl, hB9⟩
  refine hK.out _ _ ?_ (fun hHeld => ?_)
  · exact ⟨cell_below hB9 hHeld.1, cell_below hB9 hHeld.2.1, cell_below hB9 hHeld.2.2.1, cell_below hB9 hHeld.2.2.2.1, cell_below hB9 hHeld.2.2.2.2.1, cell_below hB9 hHeld.2.2.2.2.2.1, cell_below hB9 hHeld.2.2.2.2.2.2.1, cell_below hB9 hHeld.2.2.2.2.2.2.2.1, cell_below hB9 hHeld.2.2.2.2.2.2.2.2.1, cell_below hB9 hHeld.2.2.2.2.2.2.2.2.2.1, cell_below hB9 hHeld.2.2.2.2.2.2.2.2.2.2.1, cell_below hB9 hHeld.2.2.2.2.2.2.2.2.2.2.2.1, cell_below hB9 hHeld.2.2.2.2.2.2.2.2.2.2.2.2.1, cell_below hB9 hHeld.2.2.2.2.2.2.2.2.2.2.2.2.2.1, cell_below hB9 hHeld.2.2.2.2.2.2.2.2.2.2.2.2.2.2.1, cell_below hB9 hHeld.2.2.2.2.2.2.2.2.2.2.2.2.2.2.2.1, cell_below hB9 hHeld.2.2.2.2.2.2.2.2.2.2.2.2.2.2.2.2.1, cell_below hB9 hHeld.2.2.2.2.2.2.2.2.2.2.2.2.2.2.2.2.2.1, cell_below hB9 hHeld.2.2.2.2.2.2.2.2.2.2.2.2.2.2.2.2.2.2.1, cell_below hB9 hHeld.2.2.2.2.2.2.2.2.2.2.2.2.2.2.2.2.2.2.2.1, cell_below hB9 hHeld.2.2.2.2.2.2.2.2.2.2.2.2.2.2.2.2.2.2.2.2.1, cell_below hB9 hHeld.2.2.2.2.2.2.2.2.2.2.2.2.2.2.2.2.2.2.2.2.2⟩
  clear hK K
  try simp only [Act.put, List.setIfInBounds_toArray, List.set_cons_zero, List.set_cons_succ]
  refine wpK_take (i := 5) (v := ?_) rfl (by kernel_rfl) (by kernel_rfl) (by kernel_rfl) (by kernel_rfl) (.inl ⟨by rfl, ?_⟩) hHeld ?_
  rotate_left
  · (intro w hSw; (try dsimp only at hSw); go_split_ands; go_simp; (try with_reducible rfl))
  try simp only [Act.put, List.setIfInBounds_toArray, List.set_cons_zero, List.set_cons_succ]
  refine wpK_done (by kernel_rfl) ?_ _
  simp only [List.getElem_toArray, List.getElem_cons_succ, List.getElem_cons_zero, List.set_cons_succ, List.set_cons_zero]
  rw [sameG_iff.2 rfl]
  have h7 : w6.heap.size ≤ w7.heap.size := hB7.size
  have h8 := hB8.size
  have hfin : Below M w w9 := ((HB6.out.drew.trans (hB7.mono (by show M ≤ w6.heap.size; omega))).trans (hB8.mono (by omega))).trans (hB9.mono (by omega))
  go_wp2_with fail
  go_ret
  rw [HM.out]
  exact ⟨rfl, hfin⟩
end Go.Proofs.Ytlghpcokbppkfaa
