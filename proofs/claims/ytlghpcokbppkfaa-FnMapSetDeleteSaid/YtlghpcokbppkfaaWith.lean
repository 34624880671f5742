/- spec.WithField: a plain map with a field. -/
import Derived.Test.YtlghpcokbppkfaaWithFin
import Derived.Test.YtlghpcokbppkfaaField
import Derived.Test.YtlghpcokbppkfaaRegion
import Derived.Deep.DeepCutAuto
namespace Go.Proofs.Ytlghpcokbppkfaa
open Go.RowKit
set_option linter.unusedSimpArgs false

theorem Try.infoStr : (Try.prog.info? 9).map (fun i => (i.zero, i.size, i.bytes)) = some (some (.string ByteArray.empty), 1, 16) := by kernel_rfl
theorem Try.infoVal : (Try.prog.info? 26).map (fun i => (i.zero, i.size, i.bytes)) = some (some (.agg #[.int .i64 0, .int .i64 0, .float .f64 0, .string ByteArray.empty, .slice none 0 0, .slice none 0 0]), 6, 88) := by kernel_rfl

set_option maxHeartbeats 8000000 in
set_option maxRecDepth 100000 in
theorem with_any (m : GV) (key : ByteArray) (x : GV) (lo : Nat) (w : World) (vm vx : Value) (hlo : lo ≤ w.heap.size) (hm : IsV w (Btw lo w.heap.size) m vm) (hx : IsV w (Btw lo w.heap.size) x vx) (hinc : Incr m.keys) (hlen : m.keys.length = m.l.length)
    (hkey : key.size ≤ maxLen) (hsz : (m.l.length + 1) * 88 ≤ 140737488351232) :
    Calls Try.prog 110 #[vm, .string key, vx] w fun e w' => ∃ r, e = .returned r ∧ Below w.heap.size w w' ∧ IsV w' (Btw lo w'.heap.size) (withF m key x) r := by
  have HL := Lib.hid hlen; clear hlen
  obtain ⟨xa0, xc0, xa1, xc1, rfl⟩ := hx.form
  obtain ⟨ma0, mc0, ma1, mc1, rfl⟩ := hm.form
  obtain ⟨i0, hi0, hz0, hz1, hz2⟩ := info_parts Try.infoStr
  obtain ⟨i6, hi6, hz60, hz61, hz62⟩ := info_parts Try.infoVal
  go_enter Try.func110, Try.ntmps110
  go_wp2_with fail
  (with_reducible refine (fieldIndex_any m key _ _ (((hm.alloc_ _).alloc_ _).alloc_ _ |>.lo_ (Nat.zero_le _)) hinc).mono ?_)
  rintro e w4 ⟨rfl, hB4⟩
  go_wp2_with fail
  have b0 := blk_below (blk_alloc (blk_alloc (new_block (w := w) (b := w.heap.size) rfl) _) _) hB4
  have b1 := blk_below (blk_alloc (new_block (w := w.alloc _) (b := w.heap.size + 1) (by simp)) _) hB4
  have bR := blk_below (new_block (w := (w.alloc _).alloc _) (b := w.heap.size + 2) (by simp)) hB4
  have hB := below_all hB4 ((((Below.refl w.heap.size w).alloc (Nat.le_refl _) _).alloc (by simp) _).alloc (by simp; omega) _) (by simp; omega)
  have hm4 := hm.under hB
  have hx4 := hx.under hB
  have hsW : w.heap.size + 2 < w4.heap.size := blk_lt bR
  clear hB4 hm hx
  have bO := new_block (w := w4) (b := w4.heap.size) (o := (.cells #[.int .i64 6, .int .i64 0, .float .f64 0, .string ⟨#[]⟩, .slice none 0 0, .slice none 0 0] 26)) rfl
  have HB5 := (Below.refl w4.heap.size w4).alloc (Nat.le_refl _) (.cells #[.int .i64 6, .int .i64 0, .float .f64 0, .string ⟨#[]⟩, .slice none 0 0, .slice none 0 0] 26)
  have hs5 : (w4.alloc (.cells #[.int .i64 6, .int .i64 0, .float .f64 0, .string ⟨#[]⟩, .slice none 0 0, .slice none 0 0] 26)).heap.size = w4.heap.size + 1 := by simp
  generalize w4.alloc (.cells #[.int .i64 6, .int .i64 0, .float .f64 0, .string ⟨#[]⟩, .slice none 0 0, .slice none 0 0] 26) = w5 at *
  generalize hO : w4.heap.size = O at *
  have HO := Lib.hid hO
  clear hO
  have hlb : lb m.keys key ≤ m.keys.length := lb_le _ _
  have nOW : O ≠ w.heap.size := by omega
  have qB : ∀ {wk : World}, Below O w4 wk → O ≤ wk.heap.size := fun h => by
    have := h.size
    rw [HO.out] at this
    exact this
  -- the keys ahead of the new one
  obtain ⟨hkc, hkl, hkz, hrK0, hlc, hll, xs, hxs, hrL0⟩ := hm4.rows (hi := w.heap.size) (fun b hb => hb.2)
  have hrK := hrK0.more (B' := O) (by omega)
  have hrL := hrL0.more (B' := O) (by omega)
  clear hrK0 hrL0
  have hsl := @run_slice_pre Try.prog 23 9 ma0 m.keys.length mc0 (lb m.keys key) 1 .i64 Try.underlying23 (fun _ => by kernel_rfl) (by omega)
  have c4 : w5.cell? ⟨O, 4, none⟩ = some (.slice none 0 0) := blk_c bO 4 rfl
  have d4 : w5.cell? ⟨w.heap.size, 4, none⟩ = some (.slice ma0 m.keys.length mc0) := blk_c (blk_under b0 HB5 (by omega)) 4 rfl
  have n0 : some w.heap.size ≠ (Value.slice none 0 0).ownBlock := fun h => by cases h
  have nO : some O ≠ (Value.slice none 0 0).ownBlock := fun h => by cases h
  have q1 : 0 + lb m.keys key ≤ maxLen := by unfold maxLen; omega
  have q2 : (0 + lb m.keys key) * 16 ≤ 140737488355328 := by omega
  have q3 : O + 1 ≤ w5.heap.size := by omega
  have q4 : ∀ u ∈ ((m.keys.map Value.string).take (lb m.keys key * 1)), u.oneCell' = true := ones_take strs_one
  have hrK' := ((hrK.below HB5).take_ hlb).drew
  refine wp_region_K (fun w' => w'.cell? ⟨O, 4, none⟩ = some (.slice none 0 0) ∧ w'.cell? ⟨w.heap.size, 4, none⟩ = some (.slice ma0 m.keys.length mc0)) [0, 1, 2, 3, 4, 5, 7] (by kernel_rfl) ?_ (fun hHeld => ?_)
  · exact ⟨c4, d4⟩
  refine wpK_take (i := 0) (v := ?_) rfl (by kernel_rfl) (by kernel_rfl) (by kernel_rfl) (by kernel_rfl) (.inl ⟨by rfl, ?_⟩) hHeld ?_
  rotate_left
  · (intro w hSw; (try dsimp only at hSw); go_split_ands; go_simp; (try with_reducible rfl))
  try simp only [Act.put, List.setIfInBounds_toArray, List.set_cons_zero, List.set_cons_succ]
  refine wpK_take (i := 1) (v := ?_) rfl (by kernel_rfl) (by kernel_rfl) (by kernel_rfl) (by kernel_rfl) (.inl ⟨by rfl, ?_⟩) hHeld ?_
  rotate_left
  · (intro w hSw; (try dsimp only at hSw); go_split_ands; go_simp; (try with_reducible rfl))
  try simp only [Act.put, List.setIfInBounds_toArray, List.set_cons_zero, List.set_cons_succ]
  refine wpK_take (i := 2) (v := ?_) rfl (by kernel_rfl) (by kernel_rfl) (by kernel_rfl) (by kernel_rfl) (.inl ⟨by rfl, ?_⟩) hHeld ?_
  rotate_left
  · (intro w hSw; (try dsimp only at hSw); go_split_ands; go_simp; (try with_reducible rfl))
  try simp only [Act.put, List.setIfInBounds_toArray, List.set_cons_zero, List.set_cons_succ]
  refine wpK_take (i := 3) (v := ?_) rfl (by kernel_rfl) (by kernel_rfl) (by kernel_rfl) (by kernel_rfl) (.inl ⟨by rfl, ?_⟩) hHeld ?_
  rotate_left
  · (intro w hSw; (try dsimp only at hSw); go_split_ands; go_simp; (try with_reducible rfl))
  try simp only [Act.put, List.setIfInBounds_toArray, List.set_cons_zero, List.set_cons_succ]
  refine wpK_take (i := 4) (v := ?_) rfl (by kernel_rfl) (by kernel_rfl) (by kernel_rfl) (by kernel_rfl) (.inl ⟨by rfl, ?_⟩) hHeld ?_
  rotate_left
  · (intro w hSw; (try dsimp only at hSw); go_split_ands; go_simp; (try with_reducible rfl))
  try simp only [Act.put, List.setIfInBounds_toArray, List.set_cons_zero, List.set_cons_succ]
  refine wpK_take (i := 5) (v := ?_) rfl (by kernel_rfl) (by kernel_rfl) (by kernel_rfl) (by kernel_rfl) (.inl ⟨by rfl, ?_⟩) hHeld ?_
  rotate_left
  · (intro w hSw; (try dsimp only at hSw); go_split_ands; go_simp; (try with_reducible rfl))
  try simp only [Act.put, List.setIfInBounds_toArray, List.set_cons_zero, List.set_cons_succ]
  refine wpK_one (i := 6) (by kernel_rfl) rfl (fun K hK => ?_)
  refine step_append_s _ (by rfl) _ _ _ (by rfl) (O + 1) 9 i0 _ 1 16 Try.underlying23 hi0 hz0 hz1 hz2 rfl Nat.one_pos (.slice none 0 0) 0 [] (by rfl) (World.ownsRow_nil _ _ _ _) O ma0 (lb m.keys key) mc0 _ (by rfl) hrK' q4 q1 q2 q3 ?_
  intro AK cK w6 hownK hgK hatK
  have bO6 := blk_grown (w := w5.drew) bO hgK nO
  have c46 : w6.cell? ⟨O, 4, none⟩ = some (.slice none 0 0) := blk_c bO6 4 rfl
  have f46 := blk_frozen bO6 4
  have HB6 := (HB5.drew).grown hgK (by show O ≤ w5.heap.size; omega) (fun k hk => by cases hk)
  have hs6 : w5.heap.size ≤ w6.heap.size := hgK.size
  refine hK.out _ _ ?_ (fun hHeld => ?_)
  · exact ⟨c46, hgK.cell d4 n0⟩
  clear hK K
  try simp only [Act.put, List.setIfInBounds_toArray, List.set_cons_zero, List.set_cons_succ]
  refine wpK_take (i := 7) (v := ?_) rfl (by kernel_rfl) (by kernel_rfl) (by kernel_rfl) (by kernel_rfl) (.inl ⟨by rfl, ?_⟩) hHeld ?_
  rotate_left
  · (intro w hSw; (try dsimp only at hSw); go_split_ands; go_simp; (try with_reducible rfl))
  try simp only [Act.put, List.setIfInBounds_toArray, List.set_cons_zero, List.set_cons_succ]
  refine wpK_last (i := 8) (by kernel_rfl) (by kernel_rfl) rfl (fun K hK => ?_)
  go_simp
  refine hK.out _ _ ?_
  clear hK K
  try simp only [Act.put, List.setIfInBounds_toArray, List.set_cons_zero, List.set_cons_succ]
  refine wpK_done (by kernel_rfl) ?_ _
  have bO7 : (w6.setCell ⟨O, 4, none⟩ (.slice AK (0 + lb m.keys key) cK)).heap[O]? = some (.cells #[.int .i64 6, .int .i64 0, .float .f64 0, .string ⟨#[]⟩, .slice AK (0 + lb m.keys key) cK, .slice none 0 0] 26 (0, 0)) := blk_set bO6 4 _
  have HB7 := HB6.setCell (p := ⟨O, 4, none⟩) (Nat.le_refl _) (.slice AK (0 + lb m.keys key) cK)
  have hownK7 := ownsRow_setCell_below hownK (a := ⟨O, 4, none⟩) (Nat.lt_succ_self _) (.slice AK (0 + lb m.keys key) cK)
  have hs7 : (w6.setCell ⟨O, 4, none⟩ (.slice AK (0 + lb m.keys key) cK)).heap.size = w6.heap.size := by simp
  clear bO6 c46 f46 hgK hatK HB6 hownK c4 d4 n0 nO q1 q2 q3 q4 hrK' hsl bO HB5
  simp only [Nat.zero_add, List.nil_append, Nat.mul_one] at hownK7 bO7 HB7 hs7
  generalize w6.setCell ⟨O, 4, none⟩ (.slice AK (lb m.keys key) cK) = w7 at *
  go_wp2_with fail
  -- the values ahead of the new one
  have hlb' : lb m.keys key ≤ m.l.length := by rw [← HL.out]; exact hlb
  have hsl := @run_slice_pre Try.prog 24 26 ma1 m.l.length mc1 (lb m.keys key) 6 .i64 Try.underlying24 (fun _ => by kernel_rfl) (by omega)
  have c4 : w7.cell? ⟨O, 5, none⟩ = some (.slice none 0 0) := blk_c bO7 5 rfl
  have d4 : w7.cell? ⟨w.heap.size, 5, none⟩ = some (.slice ma1 m.l.length mc1) := blk_c (blk_under b0 HB7 (by omega)) 5 rfl
  have n0 : some w.heap.size ≠ (Value.slice none 0 0).ownBlock := fun h => by cases h
  have nO : some O ≠ (Value.slice none 0 0).ownBlock := fun h => by cases h
  have q1 : 0 + lb m.keys key ≤ maxLen := by unfold maxLen; omega
  have q2 : (0 + lb m.keys key) * 88 ≤ 140737488355328 := by omega
  have q3 : O + 1 ≤ w7.heap.size := by omega
  have q4 : ∀ u ∈ (xs.take (lb m.keys key * 6)), u.oneCell' = true := ones_take hxs.ones
  have hrK' := ((hrL.below HB7).take_ hlb').drew
  refine wp_region_K (fun w' => w'.cell? ⟨O, 5, none⟩ = some (.slice none 0 0) ∧ w'.cell? ⟨w.heap.size, 5, none⟩ = some (.slice ma1 m.l.length mc1)) [0, 1, 2, 3, 4, 5, 7] (by kernel_rfl) ?_ (fun hHeld => ?_)
  · exact ⟨c4, d4⟩
  refine wpK_take (i := 0) (v := ?_) rfl (by kernel_rfl) (by kernel_rfl) (by kernel_rfl) (by kernel_rfl) (.inl ⟨by rfl, ?_⟩) hHeld ?_
  rotate_left
  · (intro w hSw; (try dsimp only at hSw); go_split_ands; go_simp; (try with_reducible rfl))
  try simp only [Act.put, List.setIfInBounds_toArray, List.set_cons_zero, List.set_cons_succ]
  refine wpK_take (i := 1) (v := ?_) rfl (by kernel_rfl) (by kernel_rfl) (by kernel_rfl) (by kernel_rfl) (.inl ⟨by rfl, ?_⟩) hHeld ?_
  rotate_left
  · (intro w hSw; (try dsimp only at hSw); go_split_ands; go_simp; (try with_reducible rfl))
  try simp only [Act.put, List.setIfInBounds_toArray, List.set_cons_zero, List.set_cons_succ]
  refine wpK_take (i := 2) (v := ?_) rfl (by kernel_rfl) (by kernel_rfl) (by kernel_rfl) (by kernel_rfl) (.inl ⟨by rfl, ?_⟩) hHeld ?_
  rotate_left
  · (intro w hSw; (try dsimp only at hSw); go_split_ands; go_simp; (try with_reducible rfl))
  try simp only [Act.put, List.setIfInBounds_toArray, List.set_cons_zero, List.set_cons_succ]
  refine wpK_take (i := 3) (v := ?_) rfl (by kernel_rfl) (by kernel_rfl) (by kernel_rfl) (by kernel_rfl) (.inl ⟨by rfl, ?_⟩) hHeld ?_
  rotate_left
  · (intro w hSw; (try dsimp only at hSw); go_split_ands; go_simp; (try with_reducible rfl))
  try simp only [Act.put, List.setIfInBounds_toArray, List.set_cons_zero, List.set_cons_succ]
  refine wpK_take (i := 4) (v := ?_) rfl (by kernel_rfl) (by kernel_rfl) (by kernel_rfl) (by kernel_rfl) (.inl ⟨by rfl, ?_⟩) hHeld ?_
  rotate_left
  · (intro w hSw; (try dsimp only at hSw); go_split_ands; go_simp; (try with_reducible rfl))
  try simp only [Act.put, List.setIfInBounds_toArray, List.set_cons_zero, List.set_cons_succ]
  refine wpK_take (i := 5) (v := ?_) rfl (by kernel_rfl) (by kernel_rfl) (by kernel_rfl) (by kernel_rfl) (.inl ⟨by rfl, ?_⟩) hHeld ?_
  rotate_left
  · (intro w hSw; (try dsimp only at hSw); go_split_ands; go_simp; (try with_reducible rfl))
  try simp only [Act.put, List.setIfInBounds_toArray, List.set_cons_zero, List.set_cons_succ]
  refine wpK_one (i := 6) (by kernel_rfl) rfl (fun K hK => ?_)
  refine step_append_s _ (by rfl) _ _ _ (by rfl) (O + 1) 26 i6 _ 6 88 Try.underlying24 hi6 hz60 hz61 hz62 rfl (by decide) (.slice none 0 0) 0 [] (by rfl) (World.ownsRow_nil _ _ _ _) O ma1 (lb m.keys key) mc1 _ (by rfl) hrK' q4 q1 q2 q3 ?_
  intro AL cL w8 hownL hgL hatL
  have bO8 := blk_grown (w := w7.drew) bO7 hgL nO
  have c46 : w8.cell? ⟨O, 5, none⟩ = some (.slice none 0 0) := blk_c bO8 5 rfl
  have f46 := blk_frozen bO8 5
  have HB8 := (HB7.drew).grown hgL (qB HB7.drew) (fun k hk => by cases hk)
  have hs8 : w7.heap.size ≤ w8.heap.size := hgL.size
  have hownK8 := own_nil (hownK7.drew) hgL
  refine hK.out _ _ ?_ (fun hHeld => ?_)
  · exact ⟨c46, hgL.cell d4 n0⟩
  clear hK K
  try simp only [Act.put, List.setIfInBounds_toArray, List.set_cons_zero, List.set_cons_succ]
  refine wpK_take (i := 7) (v := ?_) rfl (by kernel_rfl) (by kernel_rfl) (by kernel_rfl) (by kernel_rfl) (.inl ⟨by rfl, ?_⟩) hHeld ?_
  rotate_left
  · (intro w hSw; (try dsimp only at hSw); go_split_ands; go_simp; (try with_reducible rfl))
  try simp only [Act.put, List.setIfInBounds_toArray, List.set_cons_zero, List.set_cons_succ]
  refine wpK_last (i := 8) (by kernel_rfl) (by kernel_rfl) rfl (fun K hK => ?_)
  go_simp
  refine hK.out _ _ ?_
  clear hK K
  try simp only [Act.put, List.setIfInBounds_toArray, List.set_cons_zero, List.set_cons_succ]
  refine wpK_done (by kernel_rfl) ?_ _
  have bO9 : (w8.setCell ⟨O, 5, none⟩ (.slice AL (0 + lb m.keys key) cL)).heap[O]? = some (.cells #[.int .i64 6, .int .i64 0, .float .f64 0, .string ⟨#[]⟩, .slice AK (lb m.keys key) cK, .slice AL (0 + lb m.keys key) cL] 26 (0, 0)) := blk_set bO8 5 _
  have HB9 := HB8.setCell (p := ⟨O, 5, none⟩) (Nat.le_refl _) (.slice AL (0 + lb m.keys key) cL)
  have hownK9 := ownsRow_setCell_below hownK8 (a := ⟨O, 5, none⟩) (Nat.lt_succ_self _) (.slice AL (0 + lb m.keys key) cL)
  have hownL9 := ownsRow_setCell_below hownL (a := ⟨O, 5, none⟩) (Nat.lt_succ_self _) (.slice AL (0 + lb m.keys key) cL)
  have hs9 : (w8.setCell ⟨O, 5, none⟩ (.slice AL (0 + lb m.keys key) cL)).heap.size = w8.heap.size := by simp
  clear bO8 c46 f46 hgL hatL HB8 hownL hownK8 c4 d4 n0 nO q1 q2 q3 q4 hrK' hsl bO7 HB7 hownK7
  simp only [Nat.zero_add, List.nil_append] at hownL9 bO9 HB9 hs9 hownK9
  generalize w8.setCell ⟨O, 5, none⟩ (.slice AL (lb m.keys key) cL) = w9 at *
  -- the new key
  have c4 : w9.cell? ⟨O, 4, none⟩ = some (.slice AK (lb m.keys key) cK) := blk_c bO9 4 rfl
  have hq : O + 1 ≤ w9.heap.size := by have := blk_lt bO9; omega
  go_wp2_with (first
    | (with_reducible refine wpList_buildSlice_one rfl _ _ 9 rfl Try.underlying23 i0 hi0 _ hz0 hz1 (.string key) rfl rfl rfl ?_)
    | (at_builtin; refine wpList_append_s _ rfl _ _ _ rfl (O + 1) 9 i0 _ 1 16 Try.underlying23 hi0 hz0 hz1 hz2 rfl Nat.one_pos (.slice AK (lb m.keys key) cK) (lb m.keys key) _ rfl (hownK9.alloc _) (w9.heap.size + 1) (some ⟨w9.heap.size, 0, none⟩) 1 1 [.string key] rfl ?r1 ?r2 ?r3 ?r4 ?r5 ?_))
  case r1 => exact ⟨rfl, fun _ => ⟨_, rfl, Nat.lt_succ_self _, cell_one_new _ _ _⟩⟩
  case r2 => intro u hu; simp at hu; subst hu; rfl
  case r3 => unfold maxLen; omega
  case r4 => omega
  case r5 => simp; omega
  intro AK2 cK2 w10 hownK10 hg10 _
  have bO10 := blk_grown (blk_alloc bO9 (.cells #[.string key] 9)) hg10 (own_notin (hownK9.alloc (.cells #[.string key] 9)) (Nat.lt_succ_self _))
  have HB10 := (HB9.alloc (qB HB9) (.cells #[.string key] 9)).grown hg10 (qB (HB9.alloc (qB HB9) (.cells #[.string key] 9))) (own_ge (hownK9.alloc (.cells #[.string key] 9)) (Nat.le_succ _))
  have hownL10 := own_keep_ne (hownL9.alloc (.cells #[.string key] 9)) (hownK9.alloc (.cells #[.string key] 9)) (by decide) hg10
  have hs10 := hg10.size
  have c46 : w10.cell? ⟨O, 4, none⟩ = some (.slice AK (lb m.keys key) cK) := blk_c bO10 4 rfl
  have f46 := blk_frozen bO10 4
  clear hg10 hownK9 hownL9 c4 bO9 HB9
  simp only [World.size_alloc] at hs10
  have bO11 : (w10.setCell ⟨O, 4, none⟩ (.slice AK2 (lb m.keys key + 1) cK2)).heap[O]? = some (.cells #[.int .i64 6, .int .i64 0, .float .f64 0, .string ⟨#[]⟩, .slice AK2 (lb m.keys key + 1) cK2, .slice AL (lb m.keys key) cL] 26 (0, 0)) := blk_set bO10 4 _
  have HB11 := HB10.setCell (p := ⟨O, 4, none⟩) (Nat.le_refl _) (.slice AK2 (lb m.keys key + 1) cK2)
  have hownK11 := ownsRow_setCell_below hownK10 (a := ⟨O, 4, none⟩) (Nat.lt_succ_self _) (.slice AK2 (lb m.keys key + 1) cK2)
  have hownL11 := ownsRow_setCell_below hownL10 (a := ⟨O, 4, none⟩) (Nat.lt_succ_self _) (.slice AK2 (lb m.keys key + 1) cK2)
  have hs11 : (w10.setCell ⟨O, 4, none⟩ (.slice AK2 (lb m.keys key + 1) cK2)).heap.size = w10.heap.size := by simp
  -- the new value
  have c5 : w10.cell? ⟨O, 5, none⟩ = some (.slice AL (lb m.keys key) cL) := blk_c bO10 5 rfl
  have bx := blk_under b1 HB10 (by omega)
  have e0 : w10.cell? ⟨w.heap.size + 1, 0, none⟩ = some (.int .i64 x.kind) := blk_c bx 0 rfl
  have e1 : w10.cell? ⟨w.heap.size + 1, 1, none⟩ = some (.int .i64 x.n) := blk_c bx 1 rfl
  have e2 : w10.cell? ⟨w.heap.size + 1, 2, none⟩ = some (.float .f64 x.f) := blk_c bx 2 rfl
  have e3 : w10.cell? ⟨w.heap.size + 1, 3, none⟩ = some (.string x.s) := blk_c bx 3 rfl
  have e4 : w10.cell? ⟨w.heap.size + 1, 4, none⟩ = some (.slice xa0 x.keys.length xc0) := blk_c bx 4 rfl
  have e5 : w10.cell? ⟨w.heap.size + 1, 5, none⟩ = some (.slice xa1 x.l.length xc1) := blk_c bx 5 rfl
  have hne : ¬ O = w.heap.size + 1 := by omega
  go_wp2_with (at_builtin; refine wpList_append_s _ rfl _ _ _ rfl (O + 1) 26 i6 _ 6 88 Try.underlying24 hi6 hz60 hz61 hz62 rfl (by decide) (.slice AL (lb m.keys key) cL) (lb m.keys key) _ rfl (hownL11.alloc _) (w10.heap.size + 1) (some ⟨w10.heap.size, 0, none⟩) 1 1 [.int .i64 x.kind, .int .i64 x.n, .float .f64 x.f, .string x.s, .slice xa0 x.keys.length xc0, .slice xa1 x.l.length xc1] rfl ?s1 ?s2 ?s3 ?s4 ?s5 ?_)
  case s1 => exact ⟨rfl, fun _ => ⟨_, rfl, Nat.lt_succ_self _, World.news_of_block (cs := #[.int .i64 x.kind, .int .i64 x.n, .float .f64 x.f, .string x.s, .slice xa0 x.keys.length xc0, .slice xa1 x.l.length xc1]) (t := 26) (fr := (0, 0)) (new_block (by simp))⟩⟩
  case s2 => intro u hu; simp at hu; rcases hu with rfl | rfl | rfl | rfl | rfl | rfl <;> rfl
  case s3 => unfold maxLen; omega
  case s4 => omega
  case s5 => simp; omega
  intro AL2 cL2 w12 hownL12 hg12 _
  have bO12 := blk_grown (blk_alloc bO11 (.cells #[.int .i64 x.kind, .int .i64 x.n, .float .f64 x.f, .string x.s, .slice xa0 x.keys.length xc0, .slice xa1 x.l.length xc1] 26)) hg12 (own_notin (hownL11.alloc (.cells #[.int .i64 x.kind, .int .i64 x.n, .float .f64 x.f, .string x.s, .slice xa0 x.keys.length xc0, .slice xa1 x.l.length xc1] 26)) (Nat.lt_succ_self _))
  have HB12 := (HB11.alloc (qB HB11) (.cells #[.int .i64 x.kind, .int .i64 x.n, .float .f64 x.f, .string x.s, .slice xa0 x.keys.length xc0, .slice xa1 x.l.length xc1] 26)).grown hg12 (qB (HB11.alloc (qB HB11) (.cells #[.int .i64 x.kind, .int .i64 x.n, .float .f64 x.f, .string x.s, .slice xa0 x.keys.length xc0, .slice xa1 x.l.length xc1] 26))) (own_ge (hownL11.alloc (.cells #[.int .i64 x.kind, .int .i64 x.n, .float .f64 x.f, .string x.s, .slice xa0 x.keys.length xc0, .slice xa1 x.l.length xc1] 26)) (Nat.le_succ _))
  have hownK12 := own_keep_ne (hownK11.alloc (.cells #[.int .i64 x.kind, .int .i64 x.n, .float .f64 x.f, .string x.s, .slice xa0 x.keys.length xc0, .slice xa1 x.l.length xc1] 26)) (hownL11.alloc (.cells #[.int .i64 x.kind, .int .i64 x.n, .float .f64 x.f, .string x.s, .slice xa0 x.keys.length xc0, .slice xa1 x.l.length xc1] 26)) (by decide) hg12
  have c46 : w12.cell? ⟨O, 5, none⟩ = some (.slice AL (lb m.keys key) cL) := blk_c bO12 5 rfl
  have f46 := blk_frozen bO12 5
  have bO13 : (w12.setCell ⟨O, 5, none⟩ (.slice AL2 (lb m.keys key + 1) cL2)).heap[O]? = some (.cells #[.int .i64 6, .int .i64 0, .float .f64 0, .string ⟨#[]⟩, .slice AK2 (lb m.keys key + 1) cK2, .slice AL2 (lb m.keys key + 1) cL2] 26 (0, 0)) := blk_set bO12 5 _
  have HB13 := HB12.setCell (p := ⟨O, 5, none⟩) (Nat.le_refl _) (.slice AL2 (lb m.keys key + 1) cL2)
  have hownK13 := ownsRow_setCell_below hownK12 (a := ⟨O, 5, none⟩) (Nat.lt_succ_self _) (.slice AL2 (lb m.keys key + 1) cL2)
  have hownL13 := ownsRow_setCell_below hownL12 (a := ⟨O, 5, none⟩) (Nat.lt_succ_self _) (.slice AL2 (lb m.keys key + 1) cL2)
  clear bO12 hg12 HB12 hownK12 hownL12 bO11 HB11 hownK11 hownL11 hs11 e0 e1 e2 e3 e4 e5 c5 bx bO10 HB10 hownK10 hownL10
  go_upto_if 45 with (fail)
  generalize w12.setCell ⟨O, 5, none⟩ (.slice AL2 (lb m.keys key + 1) cL2) = w13 at *
  clear c46 f46 hs10
  go_cut [7] (fun s7 wx => w13 = wx ∧ ∃ j : Nat, s7 = .int .i64 (j : Nat) ∧ j = lb m.keys key + (if hasAt m.keys key then 1 else 0))
  case first =>
    go_wp2_with fail
    all_goals go_meet
    · have h : hasAt m.keys key = true := by assumption
      exact ⟨rfl, lb m.keys key + 1, by go_num, by rw [if_pos h]⟩
    · have h : hasAt m.keys key = false := by assumption
      exact ⟨rfl, lb m.keys key, rfl, by rw [h]; rfl⟩
  case rest =>
    obtain ⟨rfl, j, rfl, hj⟩ := hcut
    have hjk : j ≤ m.keys.length := by
      rw [hj]
      cases hh : hasAt m.keys key with
      | false => simpa using hlb
      | true =>
        unfold hasAt at hh
        simp only [decide_eq_true_eq] at hh
        have := (List.getElem?_eq_some_iff.1 hh).1
        simp; omega
    have hlj : lb m.keys key ≤ j := by rw [hj]; exact Nat.le_add_right _ _
    have hnl : m.keys.length ≤ m.l.length := Nat.le_of_eq HL.out
    have HJ := Lib.hid hj
    have hjl : j ≤ m.l.length := by rw [← HL.out]; exact hjk
    clear hj
    go_wp2_with fail
    -- the keys behind the new one
    have hsl := @run_slice_suf Try.prog 23 9 ma0 m.keys.length mc0 j 1 .i64 Try.underlying23 (fun _ => by kernel_rfl) hjk
    have c4 : w13.cell? ⟨O, 4, none⟩ = some (.slice AK2 (lb m.keys key + 1) cK2) := blk_c bO13 4 rfl
    have d4 : w13.cell? ⟨w.heap.size, 4, none⟩ = some (.slice ma0 m.keys.length mc0) := blk_c (blk_under b0 HB13 (by omega)) 4 rfl
    have n0 : some w.heap.size ≠ (Value.slice AK2 (lb m.keys key + 1) cK2).ownBlock := own_notin hownK13 (by omega)
    have nO : some O ≠ (Value.slice AK2 (lb m.keys key + 1) cK2).ownBlock := own_notin hownK13 (by omega)
    have q1 : lb m.keys key + 1 + (m.keys.length - j) ≤ maxLen := by unfold maxLen; omega
    have q2 : (lb m.keys key + 1 + (m.keys.length - j)) * 16 ≤ 140737488355328 := by omega
    have q3 : O + 1 ≤ w13.heap.size := by have := blk_lt bO13; omega
    have q4 : ∀ u ∈ ((m.keys.map Value.string).drop (j * 1)), u.oneCell' = true := ones_drop strs_one
    have hrK' : Reads w13.drew O 1 (sufA ma0 mc0 j 1) (m.keys.length - j) ((m.keys.map Value.string).drop (j * 1)) := ((hrK.below HB13).cut hjk hkc).drew
    refine wp_region_K (fun w' => w'.cell? ⟨O, 4, none⟩ = some (.slice AK2 (lb m.keys key + 1) cK2) ∧ w'.cell? ⟨w.heap.size, 4, none⟩ = some (.slice ma0 m.keys.length mc0)) [0, 1, 2, 3, 4, 5, 7] (by kernel_rfl) ?_ (fun hHeld => ?_)
    · exact ⟨c4, d4⟩
    refine wpK_take (i := 0) (v := ?_) rfl (by kernel_rfl) (by kernel_rfl) (by kernel_rfl) (by kernel_rfl) (.inl ⟨by rfl, ?_⟩) hHeld ?_
    rotate_left
    · (intro w hSw; (try dsimp only at hSw); go_split_ands; go_simp; (try with_reducible rfl))
    try simp only [Act.put, List.setIfInBounds_toArray, List.set_cons_zero, List.set_cons_succ]
    refine wpK_take (i := 1) (v := ?_) rfl (by kernel_rfl) (by kernel_rfl) (by kernel_rfl) (by kernel_rfl) (.inl ⟨by rfl, ?_⟩) hHeld ?_
    rotate_left
    · (intro w hSw; (try dsimp only at hSw); go_split_ands; go_simp; (try with_reducible rfl))
    try simp only [Act.put, List.setIfInBounds_toArray, List.set_cons_zero, List.set_cons_succ]
    refine wpK_take (i := 2) (v := ?_) rfl (by kernel_rfl) (by kernel_rfl) (by kernel_rfl) (by kernel_rfl) (.inl ⟨by rfl, ?_⟩) hHeld ?_
    rotate_left
    · (intro w hSw; (try dsimp only at hSw); go_split_ands; go_simp; (try with_reducible rfl))
    try simp only [Act.put, List.setIfInBounds_toArray, List.set_cons_zero, List.set_cons_succ]
    refine wpK_take (i := 3) (v := ?_) rfl (by kernel_rfl) (by kernel_rfl) (by kernel_rfl) (by kernel_rfl) (.inl ⟨by rfl, ?_⟩) hHeld ?_
    rotate_left
    · (intro w hSw; (try dsimp only at hSw); go_split_ands; go_simp; (try with_reducible rfl))
    try simp only [Act.put, List.setIfInBounds_toArray, List.set_cons_zero, List.set_cons_succ]
    refine wpK_take (i := 4) (v := ?_) rfl (by kernel_rfl) (by kernel_rfl) (by kernel_rfl) (by kernel_rfl) (.inl ⟨by rfl, ?_⟩) hHeld ?_
    rotate_left
    · (intro w hSw; (try dsimp only at hSw); go_split_ands; go_simp; (try with_reducible rfl))
    try simp only [Act.put, List.setIfInBounds_toArray, List.set_cons_zero, List.set_cons_succ]
    refine wpK_take (i := 5) (v := ?_) rfl (by kernel_rfl) (by kernel_rfl) (by kernel_rfl) (by kernel_rfl) (.inl ⟨by rfl, ?_⟩) hHeld ?_
    rotate_left
    · (intro w hSw; (try dsimp only at hSw); go_split_ands; go_simp; (try with_reducible rfl))
    try simp only [Act.put, List.setIfInBounds_toArray, List.set_cons_zero, List.set_cons_succ]
    refine wpK_one (i := 6) (by kernel_rfl) rfl (fun K hK => ?_)
    refine step_append_s _ (by rfl) _ _ _ (by rfl) (O + 1) 9 i0 _ 1 16 Try.underlying23 hi0 hz0 hz1 hz2 rfl Nat.one_pos (.slice AK2 (lb m.keys key + 1) cK2) _ _ (by rfl) hownK13.drew O (sufA ma0 mc0 j 1) (m.keys.length - j) (mc0 - j) _ (by rfl) hrK' q4 q1 q2 q3 ?_
    intro AK3 cK3 w14 hownK14 hgK hatK
    have bO14 := blk_grown (w := w13.drew) bO13 hgK nO
    have c46 : w14.cell? ⟨O, 4, none⟩ = some (.slice AK2 (lb m.keys key + 1) cK2) := blk_c bO14 4 rfl
    have f46 := blk_frozen bO14 4
    have HB14 := (HB13.drew).grown hgK (qB HB13.drew) (own_ge hownK13 (Nat.le_succ _))
    have hownL14 := own_keep_ne hownL13.drew hownK13.drew (by decide) hgK
    refine hK.out _ _ ?_ (fun hHeld => ?_)
    · exact ⟨c46, hgK.cell d4 n0⟩
    clear hK K
    try simp only [Act.put, List.setIfInBounds_toArray, List.set_cons_zero, List.set_cons_succ]
    refine wpK_take (i := 7) (v := ?_) rfl (by kernel_rfl) (by kernel_rfl) (by kernel_rfl) (by kernel_rfl) (.inl ⟨by rfl, ?_⟩) hHeld ?_
    rotate_left
    · (intro w hSw; (try dsimp only at hSw); go_split_ands; go_simp; (try with_reducible rfl))
    try simp only [Act.put, List.setIfInBounds_toArray, List.set_cons_zero, List.set_cons_succ]
    refine wpK_last (i := 8) (by kernel_rfl) (by kernel_rfl) rfl (fun K hK => ?_)
    go_simp
    refine hK.out _ _ ?_
    clear hK K
    try simp only [Act.put, List.setIfInBounds_toArray, List.set_cons_zero, List.set_cons_succ]
    refine wpK_done (by kernel_rfl) ?_ _
    have bO15 : (w14.setCell ⟨O, 4, none⟩ (.slice AK3 (lb m.keys key + 1 + (m.keys.length - j)) cK3)).heap[O]? = some (.cells #[.int .i64 6, .int .i64 0, .float .f64 0, .string ⟨#[]⟩, .slice AK3 (lb m.keys key + 1 + (m.keys.length - j)) cK3, .slice AL2 (lb m.keys key + 1) cL2] 26 (0, 0)) := blk_set bO14 4 _
    have HB15 := HB14.setCell (p := ⟨O, 4, none⟩) (Nat.le_refl _) (.slice AK3 (lb m.keys key + 1 + (m.keys.length - j)) cK3)
    have hownK15 := ownsRow_setCell_below hownK14 (a := ⟨O, 4, none⟩) (Nat.lt_succ_self _) (.slice AK3 (lb m.keys key + 1 + (m.keys.length - j)) cK3)
    have hownL15 := ownsRow_setCell_below hownL14 (a := ⟨O, 4, none⟩) (Nat.lt_succ_self _) (.slice AK3 (lb m.keys key + 1 + (m.keys.length - j)) cK3)
    clear bO14 c46 f46 hgK hatK HB14 hownK14 hownL14 c4 d4 n0 nO q1 q2 q3 q4 hrK' hsl bO13 HB13 hownK13 hownL13
    generalize w14.setCell ⟨O, 4, none⟩ (.slice AK3 (lb m.keys key + 1 + (m.keys.length - j)) cK3) = w15 at *
    go_wp2_with fail
    have hsl := @run_slice_suf Try.prog 24 26 ma1 m.l.length mc1 j 6 .i64 Try.underlying24 (fun _ => by kernel_rfl) hjl
    have c4 : w15.cell? ⟨O, 5, none⟩ = some (.slice AL2 (lb m.keys key + 1) cL2) := blk_c bO15 5 rfl
    have d4 : w15.cell? ⟨w.heap.size, 5, none⟩ = some (.slice ma1 m.l.length mc1) := blk_c (blk_under b0 HB15 (by omega)) 5 rfl
    have n0 : some w.heap.size ≠ (Value.slice AL2 (lb m.keys key + 1) cL2).ownBlock := own_notin hownL15 (by omega)
    have nO : some O ≠ (Value.slice AL2 (lb m.keys key + 1) cL2).ownBlock := own_notin hownL15 (by omega)
    have q1 : lb m.keys key + 1 + (m.l.length - j) ≤ maxLen := by unfold maxLen; omega
    have q2 : (lb m.keys key + 1 + (m.l.length - j)) * 88 ≤ 140737488355328 := by omega
    have q3 : O + 1 ≤ w15.heap.size := by have := blk_lt bO15; omega
    have q4 : ∀ u ∈ (xs.drop (j * 6)), u.oneCell' = true := ones_drop hxs.ones
    have hrK' : Reads w15.drew O 6 (sufA ma1 mc1 j 6) (m.l.length - j) (xs.drop (j * 6)) := ((hrL.below HB15).cut hjl hlc).drew
    refine wp_region_K (fun w' => w'.cell? ⟨O, 5, none⟩ = some (.slice AL2 (lb m.keys key + 1) cL2) ∧ w'.cell? ⟨w.heap.size, 5, none⟩ = some (.slice ma1 m.l.length mc1)) [0, 1, 2, 3, 4, 5, 7] (by kernel_rfl) ?_ (fun hHeld => ?_)
    · exact ⟨c4, d4⟩
    refine wpK_take (i := 0) (v := ?_) rfl (by kernel_rfl) (by kernel_rfl) (by kernel_rfl) (by kernel_rfl) (.inl ⟨by rfl, ?_⟩) hHeld ?_
    rotate_left
    · (intro w hSw; (try dsimp only at hSw); go_split_ands; go_simp; (try with_reducible rfl))
    try simp only [Act.put, List.setIfInBounds_toArray, List.set_cons_zero, List.set_cons_succ]
    refine wpK_take (i := 1) (v := ?_) rfl (by kernel_rfl) (by kernel_rfl) (by kernel_rfl) (by kernel_rfl) (.inl ⟨by rfl, ?_⟩) hHeld ?_
    rotate_left
    · (intro w hSw; (try dsimp only at hSw); go_split_ands; go_simp; (try with_reducible rfl))
    try simp only [Act.put, List.setIfInBounds_toArray, List.set_cons_zero, List.set_cons_succ]
    refine wpK_take (i := 2) (v := ?_) rfl (by kernel_rfl) (by kernel_rfl) (by kernel_rfl) (by kernel_rfl) (.inl ⟨by rfl, ?_⟩) hHeld ?_
    rotate_left
    · (intro w hSw; (try dsimp only at hSw); go_split_ands; go_simp; (try with_reducible rfl))
    try simp only [Act.put, List.setIfInBounds_toArray, List.set_cons_zero, List.set_cons_succ]
    refine wpK_take (i := 3) (v := ?_) rfl (by kernel_rfl) (by kernel_rfl) (by kernel_rfl) (by kernel_rfl) (.inl ⟨by rfl, ?_⟩) hHeld ?_
    rotate_left
    · (intro w hSw; (try dsimp only at hSw); go_split_ands; go_simp; (try with_reducible rfl))
    try simp only [Act.put, List.setIfInBounds_toArray, List.set_cons_zero, List.set_cons_succ]
    refine wpK_take (i := 4) (v := ?_) rfl (by kernel_rfl) (by kernel_rfl) (by kernel_rfl) (by kernel_rfl) (.inl ⟨by rfl, ?_⟩) hHeld ?_
    rotate_left
    · (intro w hSw; (try dsimp only at hSw); go_split_ands; go_simp; (try with_reducible rfl))
    try simp only [Act.put, List.setIfInBounds_toArray, List.set_cons_zero, List.set_cons_succ]
    refine wpK_take (i := 5) (v := ?_) rfl (by kernel_rfl) (by kernel_rfl) (by kernel_rfl) (by kernel_rfl) (.inl ⟨by rfl, ?_⟩) hHeld ?_
    rotate_left
    · (intro w hSw; (try dsimp only at hSw); go_split_ands; go_simp; (try with_reducible rfl))
    try simp only [Act.put, List.setIfInBounds_toArray, List.set_cons_zero, List.set_cons_succ]
    refine wpK_one (i := 6) (by kernel_rfl) rfl (fun K hK => ?_)
    refine step_append_s _ (by rfl) _ _ _ (by rfl) (O + 1) 26 i6 _ 6 88 Try.underlying24 hi6 hz60 hz61 hz62 rfl (by decide) (.slice AL2 (lb m.keys key + 1) cL2) _ _ (by rfl) hownL15.drew O (sufA ma1 mc1 j 6) (m.l.length - j) (mc1 - j) _ (by rfl) hrK' q4 q1 q2 q3 ?_
    intro AL3 cL3 w16 hownL16 hgL hatL
    have bO16 := blk_grown (w := w15.drew) bO15 hgL nO
    have c46 : w16.cell? ⟨O, 5, none⟩ = some (.slice AL2 (lb m.keys key + 1) cL2) := blk_c bO16 5 rfl
    have f46 := blk_frozen bO16 5
    have HB16 := (HB15.drew).grown hgL (qB HB15.drew) (own_ge hownL15 (Nat.le_succ _))
    have hownK16 := own_keep_ne hownK15.drew hownL15.drew (by decide) hgL
    refine hK.out _ _ ?_ (fun hHeld => ?_)
    · exact ⟨c46, hgL.cell d4 n0⟩
    clear hK K
    try simp only [Act.put, List.setIfInBounds_toArray, List.set_cons_zero, List.set_cons_succ]
    refine wpK_take (i := 7) (v := ?_) rfl (by kernel_rfl) (by kernel_rfl) (by kernel_rfl) (by kernel_rfl) (.inl ⟨by rfl, ?_⟩) hHeld ?_
    rotate_left
    · (intro w hSw; (try dsimp only at hSw); go_split_ands; go_simp; (try with_reducible rfl))
    try simp only [Act.put, List.setIfInBounds_toArray, List.set_cons_zero, List.set_cons_succ]
    refine wpK_last (i := 8) (by kernel_rfl) (by kernel_rfl) rfl (fun K hK => ?_)
    go_simp
    refine hK.out _ _ ?_
    clear hK K
    try simp only [Act.put, List.setIfInBounds_toArray, List.set_cons_zero, List.set_cons_succ]
    refine wpK_done (by kernel_rfl) ?_ _
    have bO17 : (w16.setCell ⟨O, 5, none⟩ (.slice AL3 (lb m.keys key + 1 + (m.l.length - j)) cL3)).heap[O]? = some (.cells #[.int .i64 6, .int .i64 0, .float .f64 0, .string ⟨#[]⟩, .slice AK3 (lb m.keys key + 1 + (m.keys.length - j)) cK3, .slice AL3 (lb m.keys key + 1 + (m.l.length - j)) cL3] 26 (0, 0)) := blk_set bO16 5 _
    have HB17 := HB16.setCell (p := ⟨O, 5, none⟩) (Nat.le_refl _) (.slice AL3 (lb m.keys key + 1 + (m.l.length - j)) cL3)
    have hownK17 := ownsRow_setCell_below hownK16 (a := ⟨O, 5, none⟩) (Nat.lt_succ_self _) (.slice AL3 (lb m.keys key + 1 + (m.l.length - j)) cL3)
    have hownL17 := ownsRow_setCell_below hownL16 (a := ⟨O, 5, none⟩) (Nat.lt_succ_self _) (.slice AL3 (lb m.keys key + 1 + (m.l.length - j)) cL3)
    clear bO16 c46 f46 hgL hatL HB16 hownK16 hownL16 c4 d4 n0 nO q1 q2 q3 q4 hrK' hsl bO15 HB15 hownK15 hownL15
    generalize w16.setCell ⟨O, 5, none⟩ (.slice AL3 (lb m.keys key + 1 + (m.l.length - j)) cL3) = w17 at *
    have bR17 := blk_under bR HB17 (by omega)
    have o0 : w17.cell? ⟨O, 0, none⟩ = some (.int .i64 6) := blk_c bO17 0 rfl
    have o1 : w17.cell? ⟨O, 1, none⟩ = some (.int .i64 0) := blk_c bO17 1 rfl
    have o2 : w17.cell? ⟨O, 2, none⟩ = some (.float .f64 0) := blk_c bO17 2 rfl
    have o3 : w17.cell? ⟨O, 3, none⟩ = some (.string ⟨#[]⟩) := blk_c bO17 3 rfl
    have o4 : w17.cell? ⟨O, 4, none⟩ = some (.slice AK3 (lb m.keys key + 1 + (m.keys.length - j)) cK3) := blk_c bO17 4 rfl
    have o5 : w17.cell? ⟨O, 5, none⟩ = some (.slice AL3 (lb m.keys key + 1 + (m.l.length - j)) cL3) := blk_c bO17 5 rfl
    have r0 : w17.cell? ⟨w.heap.size + 2, 0, none⟩ = some (.int .i64 0) := blk_c bR17 0 rfl
    have r1 : w17.cell? ⟨w.heap.size + 2, 1, none⟩ = some (.int .i64 0) := blk_c bR17 1 rfl
    have r2 : w17.cell? ⟨w.heap.size + 2, 2, none⟩ = some (.float .f64 0) := blk_c bR17 2 rfl
    have r3 : w17.cell? ⟨w.heap.size + 2, 3, none⟩ = some (.string ⟨#[]⟩) := blk_c bR17 3 rfl
    have r4 : w17.cell? ⟨w.heap.size + 2, 4, none⟩ = some (.slice none 0 0) := blk_c bR17 4 rfl
    have r5 : w17.cell? ⟨w.heap.size + 2, 5, none⟩ = some (.slice none 0 0) := blk_c bR17 5 rfl
    have g0 := blk_frozen bR17 0
    have g1 := blk_frozen bR17 1
    have g2 := blk_frozen bR17 2
    have g3 := blk_frozen bR17 3
    have g4 := blk_frozen bR17 4
    have g5 := blk_frozen bR17 5
    go_wp2_with fail
    have hBF : Below w.heap.size w4 (st6 w17 (w.heap.size + 2) (.int .i64 6) (.int .i64 0) (.float .f64 0) (.string ⟨#[]⟩) (.slice AK3 (lb m.keys key + 1 + (m.keys.length - j)) cK3) (.slice AL3 (lb m.keys key + 1 + (m.l.length - j)) cL3)) := st6_below (HB17.mono (by omega)) (by omega)
    have hOK := st6_own (b := w.heap.size + 2) (c0 := .int .i64 6) (c1 := .int .i64 0) (c2 := .float .f64 0) (c3 := .string ⟨#[]⟩) (c4 := .slice AK3 (lb m.keys key + 1 + (m.keys.length - j)) cK3) (c5 := .slice AL3 (lb m.keys key + 1 + (m.l.length - j)) cL3) hownK17 (by omega)
    have hOL := st6_own (b := w.heap.size + 2) (c0 := .int .i64 6) (c1 := .int .i64 0) (c2 := .float .f64 0) (c3 := .string ⟨#[]⟩) (c4 := .slice AK3 (lb m.keys key + 1 + (m.keys.length - j)) cK3) (c5 := .slice AL3 (lb m.keys key + 1 + (m.l.length - j)) cL3) hownL17 (by omega)
    have hblk := st6_blk (c0 := .int .i64 6) (c1 := .int .i64 0) (c2 := .float .f64 0) (c3 := .string ⟨#[]⟩) (c4 := .slice AK3 (lb m.keys key + 1 + (m.keys.length - j)) cK3) (c5 := .slice AL3 (lb m.keys key + 1 + (m.l.length - j)) cL3) bR17
    refine bodyPost_ret (v := .agg #[.int .i64 6, .int .i64 0, .float .f64 0, .string ⟨#[]⟩, .slice AK3 (lb m.keys key + 1 + (m.keys.length - j)) cK3, .slice AL3 (lb m.keys key + 1 + (m.l.length - j)) cL3]) ?_ rfl ⟨_, rfl, hB.trans hBF, ?_⟩
    · have e0 := blk_c hblk 0 (u := .int .i64 6) rfl
      have e1 := blk_c hblk 1 (u := .int .i64 0) rfl
      have e2 := blk_c hblk 2 (u := .float .f64 0) rfl
      have e3 := blk_c hblk 3 (u := .string ⟨#[]⟩) rfl
      have e4 := blk_c hblk 4 (u := .slice AK3 (lb m.keys key + 1 + (m.keys.length - j)) cK3) rfl
      have e5 := blk_c hblk 5 (u := .slice AL3 (lb m.keys key + 1 + (m.l.length - j)) cL3) rfl
      unfold st6 at e0 e1 e2 e3 e4 e5
      simp [results, Try.results110, go_sem, e0, e1, e2, e3, e4, e5]
    · exact with_fin (W := w.heap.size) (O := O) hlo (by omega) hxs hx4 hBF (by have := blk_lt bO17; simp; omega) HJ.out hjk hjl HL.out hkey hkz hsz hOK hOL

end Go.Proofs.Ytlghpcokbppkfaa
