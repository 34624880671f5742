/- laws.FnKeyByFields: it returns true. -/
import Derived.Test.YtlghpcokbppkfaaSpecSame
import Derived.Test.YtlghpcokbppkfaaFitsE
import Derived.Test.YtlghpcokbppkfaaSortKeysT
namespace Go.Proofs.Ytlghpcokbppkfaa
open Go.RowKit
set_option linter.unusedSimpArgs false

theorem zip_clean : ∀ (a : List ByteArray) (b : List GV), ((a.zip (b.map plainJ)).map fun p => (p.1, unJ p.2)) = a.zip (cleanL b)
  | [], b => by simp
  | x :: a, [] => by simp [cleanL]
  | x :: a, y :: b => by
    simp only [List.map_cons, List.zip_cons_cons, cleanL]
    rw [zip_clean a b, un_plain]
/-- What the package makes of a key's fields is what sorting them makes. -/
theorem keyBy_sort (x : EV) : unPE (.key (sortS (flE x))) = sortE x := by
  have h : sortS (kvE x) = (sortS (flE x)).map fun p => (p.1, unJ p.2) := by
    rw [← sortS_map (f := fun p : ByteArray × JV => (p.1, unJ p.2)) (fun _ => rfl)]
    unfold kvE flE
    rw [zip_clean]
  unfold sortE unPE
  rw [h, List.map_map, List.map_map]
  rfl

set_option maxHeartbeats 2000000 in
set_option maxRecDepth 100000 in
theorem keyByLaw_any (x : EV) (w : World) (v : Value) (hv : IsE w (Btw 0 w.heap.size) x v) :
    Calls Try.prog 5 #[v] w fun e w' => e = .returned (.bool true) ∧ Below w.heap.size w w' := by
  obtain ⟨ak, ck, a, c, a0, d0, a1, d1, rfl⟩ := hv.form
  have hx := hv.alloc_ (.cells #[.int .i64 x.kind, .string x.s, .slice ak x.keys.length ck, .slice a x.l.length c, .int .i64 x.v.kind, .int .i64 x.v.n, .float .f64 x.v.f, .string x.v.s, .slice a0 x.v.keys.length d0, .slice a1 x.v.l.length d1, .int .i64 x.n] 33)
  have hB0 := (Below.refl w.heap.size w).alloc (Nat.le_refl _) (.cells #[.int .i64 x.kind, .string x.s, .slice ak x.keys.length ck, .slice a x.l.length c, .int .i64 x.v.kind, .int .i64 x.v.n, .float .f64 x.v.f, .string x.v.s, .slice a0 x.v.keys.length d0, .slice a1 x.v.l.length d1, .int .i64 x.n] 33)
  have bX0 : (w.alloc (.cells #[.int .i64 x.kind, .string x.s, .slice ak x.keys.length ck, .slice a x.l.length c, .int .i64 x.v.kind, .int .i64 x.v.n, .float .f64 x.v.f, .string x.v.s, .slice a0 x.v.keys.length d0, .slice a1 x.v.l.length d1, .int .i64 x.n] 33)).heap[w.heap.size]? = some (.cells #[.int .i64 x.kind, .string x.s, .slice ak x.keys.length ck, .slice a x.l.length c, .int .i64 x.v.kind, .int .i64 x.v.n, .float .f64 x.v.f, .string x.v.s, .slice a0 x.v.keys.length d0, .slice a1 x.v.l.length d1, .int .i64 x.n] 33) := new_block rfl
  have HX := Lib.hid (And.intro hx (And.intro hB0 bX0))
  clear hv hx hB0 bX0
  go_enter Try.func5, Try.ntmps5
  go_wp2_with (go_at_call 18; (with_reducible refine (fits13_any x _ _ ?_).mono ?_))
  · simpa using HX.out.1
  rintro e w2 ⟨_, rfl, ⟨b, rfl⟩, hB2'⟩
  obtain ⟨hx, hB0, bX0⟩ := HX.out
  have hB2 : Below (w.alloc (.cells #[.int .i64 x.kind, .string x.s, .slice ak x.keys.length ck, .slice a x.l.length c, .int .i64 x.v.kind, .int .i64 x.v.n, .float .f64 x.v.f, .string x.v.s, .slice a0 x.v.keys.length d0, .slice a1 x.v.l.length d1, .int .i64 x.n] 33)).heap.size (w.alloc (.cells #[.int .i64 x.kind, .string x.s, .slice ak x.keys.length ck, .slice a x.l.length c, .int .i64 x.v.kind, .int .i64 x.v.n, .float .f64 x.v.f, .string x.v.s, .slice a0 x.v.keys.length d0, .slice a1 x.v.l.length d1, .int .i64 x.n] 33)) w2 := by simpa using hB2'
  have hx2 := hx.below_ hB2
  have bX2 := blk_below bX0 hB2
  have hBw2 : Below w.heap.size w w2 := hB0.trans (hB2.mono (by simp))
  have hs2 : w.heap.size + 1 ≤ w2.heap.size := by have := hB2.size; simpa using this
  have q0 : w2.cell? ⟨w.heap.size, 0, none⟩ = some (.int .i64 x.kind) := blk_c bX2 0 rfl
  have q1 : w2.cell? ⟨w.heap.size, 1, none⟩ = some (.string x.s) := blk_c bX2 1 rfl
  have q2 : w2.cell? ⟨w.heap.size, 2, none⟩ = some (.slice ak x.keys.length ck) := blk_c bX2 2 rfl
  have q3 : w2.cell? ⟨w.heap.size, 3, none⟩ = some (.slice a x.l.length c) := blk_c bX2 3 rfl
  have q4 : w2.cell? ⟨w.heap.size, 4, none⟩ = some (.int .i64 x.v.kind) := blk_c bX2 4 rfl
  have q5 : w2.cell? ⟨w.heap.size, 5, none⟩ = some (.int .i64 x.v.n) := blk_c bX2 5 rfl
  have q6 : w2.cell? ⟨w.heap.size, 6, none⟩ = some (.float .f64 x.v.f) := blk_c bX2 6 rfl
  have q7 : w2.cell? ⟨w.heap.size, 7, none⟩ = some (.string x.v.s) := blk_c bX2 7 rfl
  have q8 : w2.cell? ⟨w.heap.size, 8, none⟩ = some (.slice a0 x.v.keys.length d0) := blk_c bX2 8 rfl
  have q9 : w2.cell? ⟨w.heap.size, 9, none⟩ = some (.slice a1 x.v.l.length d1) := blk_c bX2 9 rfl
  have q10 : w2.cell? ⟨w.heap.size, 10, none⟩ = some (.int .i64 x.n) := blk_c bX2 10 rfl
  have HX2 := Lib.hid (And.intro hx2 (And.intro hBw2 bX2))
  clear HX hx hB0 bX0 hB2 hB2' hx2 bX2 hBw2
  cases b
  · go_wp2_with fail
    go_ret
    exact ⟨rfl, HX2.out.2.1⟩
  go_wp2_with fail
  have HXD := Lib.hid HX2.out.1.drew_
  have hd : w2.drew.heap.size = w2.heap.size := rfl
  refine wp_region_K (fun w' => w'.cell? ⟨w.heap.size, 0, none⟩ = some (.int .i64 x.kind) ∧ w'.cell? ⟨w.heap.size, 1, none⟩ = some (.string x.s) ∧ w'.cell? ⟨w.heap.size, 2, none⟩ = some (.slice ak x.keys.length ck) ∧ w'.cell? ⟨w.heap.size, 3, none⟩ = some (.slice a x.l.length c) ∧ w'.cell? ⟨w.heap.size, 4, none⟩ = some (.int .i64 x.v.kind) ∧ w'.cell? ⟨w.heap.size, 5, none⟩ = some (.int .i64 x.v.n) ∧ w'.cell? ⟨w.heap.size, 6, none⟩ = some (.float .f64 x.v.f) ∧ w'.cell? ⟨w.heap.size, 7, none⟩ = some (.string x.v.s) ∧ w'.cell? ⟨w.heap.size, 8, none⟩ = some (.slice a0 x.v.keys.length d0) ∧ w'.cell? ⟨w.heap.size, 9, none⟩ = some (.slice a1 x.v.l.length d1) ∧ w'.cell? ⟨w.heap.size, 10, none⟩ = some (.int .i64 x.n)) [0, 2, 5] (by kernel_rfl) ?_ (fun hHeld => ?_)
  · exact ⟨q0, q1, q2, q3, q4, q5, q6, q7, q8, q9, q10⟩
  refine wpK_take (i := 0) (v := ?_) rfl (by kernel_rfl) (by kernel_rfl) (by kernel_rfl) (by kernel_rfl) (.inl ⟨by rfl, ?_⟩) hHeld ?_
  rotate_left
  · (intro w hSw; (try dsimp only at hSw); go_split_ands; go_simp; (try with_reducible rfl))
  try simp only [Act.put, List.setIfInBounds_toArray, List.set_cons_zero, List.set_cons_succ]
  refine wpK_take (i := 2) (v := ?_) rfl (by kernel_rfl) (by kernel_rfl) (by kernel_rfl) (by kernel_rfl) (.inl ⟨by rfl, ?_⟩) hHeld ?_
  rotate_left
  · (intro w hSw; (try dsimp only at hSw); go_split_ands; go_simp; (try with_reducible rfl))
  try simp only [Act.put, List.setIfInBounds_toArray, List.set_cons_zero, List.set_cons_succ]
  refine wpK_one (i := 1) (by kernel_rfl) rfl (fun K hK => ?_)
  go_simp
  (with_reducible refine (implKeyBy_any x _ _ HXD.out).mono ?_)
  rintro e w5 ⟨r5, rfl, hB5, hr5⟩
  rw [keyBy_sort] at hr5
  have HX5 := Lib.hid (HXD.out.below_ hB5)
  have HR5 := Lib.hid (hr5.lo_ (lo' := 0) (Nat.zero_le _))
  refine hK.out _ _ ?_ (fun hHeld => ?_)
  · exact ⟨cell_below hB5 hHeld.1, cell_below hB5 hHeld.2.1, cell_below hB5 hHeld.2.2.1, cell_below hB5 hHeld.2.2.2.1, cell_below hB5 hHeld.2.2.2.2.1, cell_below hB5 hHeld.2.2.2.2.2.1, cell_below hB5 hHeld.2.2.2.2.2.2.1, cell_below hB5 hHeld.2.2.2.2.2.2.2.1, cell_below hB5 hHeld.2.2.2.2.2.2.2.2.1, cell_below hB5 hHeld.2.2.2.2.2.2.2.2.2.1, cell_below hB5 hHeld.2.2.2.2.2.2.2.2.2.2⟩
  clear hK K
  try simp only [Act.put, List.setIfInBounds_toArray, List.set_cons_zero, List.set_cons_succ]
  refine wpK_one (i := 3) (by kernel_rfl) rfl (fun K hK => ?_)
  go_simp
  (with_reducible refine (sortKeys_any x _ _ HX5.out).mono ?_)
  rintro e w6 ⟨r6, rfl, hB6, hr6⟩
  have HR6 := Lib.hid (And.intro (HR5.out.below_ hB6) (hr6.lo_ (lo' := 0) (Nat.zero_le _)))
  refine hK.out _ _ ?_ (fun hHeld => ?_)
  · exact ⟨cell_below hB6 hHeld.1, cell_below hB6 hHeld.2.1, cell_below hB6 hHeld.2.2.1, cell_below hB6 hHeld.2.2.2.1, cell_below hB6 hHeld.2.2.2.2.1, cell_below hB6 hHeld.2.2.2.2.2.1, cell_below hB6 hHeld.2.2.2.2.2.2.1, cell_below hB6 hHeld.2.2.2.2.2.2.2.1, cell_below hB6 hHeld.2.2.2.2.2.2.2.2.1, cell_below hB6 hHeld.2.2.2.2.2.2.2.2.2.1, cell_below hB6 hHeld.2.2.2.2.2.2.2.2.2.2⟩
  clear hK K
  try simp only [Act.put, List.setIfInBounds_toArray, List.set_cons_zero, List.set_cons_succ]
  refine wpK_one (i := 4) (by kernel_rfl) rfl (fun K hK => ?_)
  go_simp
  (with_reducible refine (specSame_any (sortE x) (sortE x) rfl _ _ _ HR6.out.1 HR6.out.2).mono ?_)
  rintro e w7 ⟨rfl, hB7⟩
  refine hK.out _ _ ?_ (fun hHeld => ?_)
  · exact ⟨cell_below hB7 hHeld.1, cell_below hB7 hHeld.2.1, cell_below hB7 hHeld.2.2.1, cell_below hB7 hHeld.2.2.2.1, cell_below hB7 hHeld.2.2.2.2.1, cell_below hB7 hHeld.2.2.2.2.2.1, cell_below hB7 hHeld.2.2.2.2.2.2.1, cell_below hB7 hHeld.2.2.2.2.2.2.2.1, cell_below hB7 hHeld.2.2.2.2.2.2.2.2.1, cell_below hB7 hHeld.2.2.2.2.2.2.2.2.2.1, cell_below hB7 hHeld.2.2.2.2.2.2.2.2.2.2⟩
  clear hK K
  try simp only [Act.put, List.setIfInBounds_toArray, List.set_cons_zero, List.set_cons_succ]
  refine wpK_take (i := 5) (v := ?_) rfl (by kernel_rfl) (by kernel_rfl) (by kernel_rfl) (by kernel_rfl) (.inl ⟨by rfl, ?_⟩) hHeld ?_
  rotate_left
  · (intro w hSw; (try dsimp only at hSw); go_split_ands; go_simp; (try with_reducible rfl))
  try simp only [Act.put, List.setIfInBounds_toArray, List.set_cons_zero, List.set_cons_succ]
  refine wpK_done (by kernel_rfl) ?_ _
  have h5 : w2.heap.size ≤ w5.heap.size := hB5.size
  have h6 := hB6.size
  have hfin : Below w.heap.size w w7 := ((HX2.out.2.1.drew.trans (hB5.mono (by show w.heap.size ≤ w2.heap.size; omega))).trans (hB6.mono (by omega))).trans (hB7.mono (by omega))
  try simp only [List.getElem_toArray, List.getElem_cons_succ, List.getElem_cons_zero, List.set_cons_succ, List.set_cons_zero]
  go_wp2_with fail
  go_ret
  exact ⟨rfl, hfin⟩
end Go.Proofs.Ytlghpcokbppkfaa
