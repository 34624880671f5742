/- Part 4 of what the proof rests on. -/
import Derived.Deep.DeepCutAuto
import Derived.Deep.DeepFit
import Derived.Deep.RegionWith
import Derived.Test.YtbbacpdbbmjblaaFiE2
import Derived.Test.YtbbacpdbbmjblaaFiE3
section
namespace Go.Proofs.Ytbbacpdbbmjblaa
open Go.RowKit
set_option linter.unusedSimpArgs false
theorem Try.infoStr : (Try.prog.info? 9).map (fun i => (i.zero, i.size, i.bytes)) = some (some (.string ByteArray.empty), 1, 16) := by kernel_rfl
theorem Try.infoVal : (Try.prog.info? 43).map (fun i => (i.zero, i.size, i.bytes)) = some (some (.agg #[.int .i64 0, .int .i64 0, .float .f64 0, .string ByteArray.empty, .slice none 0 0, .slice none 0 0]), 6, 88) := by kernel_rfl
set_option maxHeartbeats 8000000 in
set_option maxRecDepth 100000 in
theorem with_any (m : GV) (key : ByteArray) (x : GV) (lo : Nat) (w : World) (vm vx : Value) (hlo : lo ≤ w.heap.size) (hm : IsV w (Btw lo w.heap.size) m vm) (hx : IsV w (Btw lo w.heap.size) x vx) (hinc : Incr m.keys) (hlen : m.keys.length = m.l.length)
    (hkey : key.size ≤ maxLen) (hsz : (m.l.length + 1) * 88 ≤ 140737488351232) :
    Calls Try.prog 84 #[vm, .string key, vx] w fun e w' => ∃ r, e = .returned r ∧ Below w.heap.size w w' ∧ IsV w' (Btw lo w'.heap.size) (withF m key x) r := by
  have HL := Lib.hid hlen; clear hlen
  obtain ⟨xa0, xc0, xa1, xc1, rfl⟩ := hx.form
  obtain ⟨ma0, mc0, ma1, mc1, rfl⟩ := hm.form
  obtain ⟨i0, hi0, hz0, hz1, hz2⟩ := info_parts Try.infoStr
  obtain ⟨i6, hi6, hz60, hz61, hz62⟩ := info_parts Try.infoVal
  go_enter Try.func84, Try.ntmps84
  go_wp2_with fail
  (with_reducible refine (fieldIndex_any m key _ _ (((hm.alloc_ _).alloc_ _).alloc_ _ |>.lo_ (Nat.zero_le _)) hinc).mono ?_)
  rintro e w4 ⟨rfl, hB4⟩
  go_wp2_with fail
  have b0 := blk_below (blk_alloc (blk_alloc (new_block (w := w) (b := w.heap.size) rfl) _) _) hB4
  have b1 := blk_below (blk_alloc (new_block (w := w.alloc _) (b := w.heap.size + 1) (by simp)) _) hB4
  have bR := blk_below (new_block (w := (w.alloc _).alloc _) (b := w.heap.size + 2) (by simp)) hB4
  have hB := below_all hB4 ((((Below.refl w.heap.size w).alloc (Nat.le_refl _) _).alloc (by simp) _).alloc (by simp; omega) _) (by simp; omega)
  have hm4 := hm.under hB
  have hx4 := hx.under hB
  have hsW : w.heap.size + 2 < w4.heap.size := blk_lt bR
  clear hB4 hm hx
  have bO := new_block (w := w4) (b := w4.heap.size) (o := (.cells #[.int .i64 6, .int .i64 0, .float .f64 0, .string ⟨#[]⟩, .slice none 0 0, .slice none 0 0] 43)) rfl
  have HB5 := (Below.refl w4.heap.size w4).alloc (Nat.le_refl _) (.cells #[.int .i64 6, .int .i64 0, .float .f64 0, .string ⟨#[]⟩, .slice none 0 0, .slice none 0 0] 43)
  have hs5 : (w4.alloc (.cells #[.int .i64 6, .int .i64 0, .float .f64 0, .string ⟨#[]⟩, .slice none 0 0, .slice none 0 0] 43)).heap.size = w4.heap.size + 1 := by simp
  generalize w4.alloc (.cells #[.int .i64 6, .int .i64 0, .float .f64 0, .string ⟨#[]⟩, .slice none 0 0, .slice none 0 0] 43) = w5 at *
  generalize hO : w4.heap.size = O at *
  have HO := Lib.hid hO
  clear hO
  have hlb : lb m.keys key ≤ m.keys.length := lb_le _ _
  have nOW : O ≠ w.heap.size := by omega
  have qB : ∀ {wk : World}, Below O w4 wk → O ≤ wk.heap.size := fun h => by
    have := h.size
    rw [HO.out] at this
    exact this
  -- the keys ahead of the new one
  obtain ⟨hkc, hkl, hkz, hrK0, hlc, hll, xs, hxs, hrL0⟩ := hm4.rows (hi := w.heap.size) (fun b hb => hb.2)
  have hrK := hrK0.more (B' := O) (by omega)
  have hrL := hrL0.more (B' := O) (by omega)
  clear hrK0 hrL0
  have hsl := @run_slice_pre Try.prog 41 9 ma0 m.keys.length mc0 (lb m.keys key) 1 .i64 Try.underlying41 (fun _ => by kernel_rfl) (by omega)
  have c4 : w5.cell? ⟨O, 4, none⟩ = some (.slice none 0 0) := blk_c bO 4 rfl
  have d4 : w5.cell? ⟨w.heap.size, 4, none⟩ = some (.slice ma0 m.keys.length mc0) := blk_c (blk_under b0 HB5 (by omega)) 4 rfl
  have n0 : some w.heap.size ≠ (Value.slice none 0 0).ownBlock := fun h => by cases h
  have nO : some O ≠ (Value.slice none 0 0).ownBlock := fun h => by cases h
  have q1 : 0 + lb m.keys key ≤ maxLen := by unfold maxLen; omega
  have q2 : (0 + lb m.keys key) * 16 ≤ 140737488355328 := by omega
  have q3 : O + 1 ≤ w5.heap.size := by omega
  have q4 : ∀ u ∈ ((m.keys.map Value.string).take (lb m.keys key * 1)), u.oneCell' = true := ones_take strs_one
  have hrK' := ((hrK.below HB5).take_ hlb).drew
  refine wp_region_K (fun w' => w'.cell? ⟨O, 4, none⟩ = some (.slice none 0 0) ∧ w'.cell? ⟨w.heap.size, 4, none⟩ = some (.slice ma0 m.keys.length mc0)) [0, 1, 2, 3, 4, 5, 7] (by kernel_rfl) ?_ (fun hHeld => ?_)
  · exact ⟨c4, d4⟩
  refine wpK_take (i := 0) (v := ?_) rfl (by kernel_rfl) (by kernel_rfl) (by kernel_rfl) (by kernel_rfl) (.inl ⟨by rfl, ?_⟩) hHeld ?_
  rotate_left
  · (intro w hSw; (try dsimp only at hSw); go_split_ands; go_simp; (try with_reducible rfl))
  try simp only [Act.put, List.setIfInBounds_toArray, List.set_cons_zero, List.set_cons_succ]
  refine wpK_take (i := 1) (v := ?_) rfl (by kernel_rfl) (by kernel_rfl) (by kernel_rfl) (by kernel_rfl) (.inl ⟨by rfl, ?_⟩) hHeld ?_
  rotate_left
  · (intro w hSw; (try dsimp only at hSw); go_split_ands; go_simp; (try with_reducible rfl))
  try simp only [Act.put, List.setIfInBounds_toArray, List.set_cons_zero, List.set_cons_succ]
  refine wpK_take (i := 2) (v := ?_) rfl (by kernel_rfl) (by kernel_rfl) (by kernel_rfl) (by kernel_rfl) (.inl ⟨by rfl, ?_⟩) hHeld ?_
  rotate_left
  · (intro w hSw; (try dsimp only at hSw); go_split_ands; go_simp; (try with_reducible rfl))
  try simp only [Act.put, List.setIfInBounds_toArray, List.set_cons_zero, List.set_cons_succ]
  refine wpK_take (i := 3) (v := ?_) rfl (by kernel_rfl) (by kernel_rfl) (by kernel_rfl) (by kernel_rfl) (.inl ⟨by rfl, ?_⟩) hHeld ?_
  rotate_left
  · (intro w hSw; (try dsimp only at hSw); go_split_ands; go_simp; (try with_reducible rfl))
  try simp only [Act.put, List.setIfInBounds_toArray, List.set_cons_zero, List.set_cons_succ]
  refine wpK_take (i := 4) (v := ?_) rfl (by kernel_rfl) (by kernel_rfl) (by kernel_rfl) (by kernel_rfl) (.inl ⟨by rfl, ?_⟩) hHeld ?_
  rotate_left
  · (intro w hSw; (try dsimp only at hSw); go_split_ands; go_simp; (try with_reducible rfl))
  try simp only [Act.put, List.setIfInBounds_toArray, List.set_cons_zero, List.set_cons_succ]
  refine wpK_take (i := 5) (v := ?_) rfl (by kernel_rfl) (by kernel_rfl) (by kernel_rfl) (by kernel_rfl) (.inl ⟨by rfl, ?_⟩) hHeld ?_
  rotate_left
  · (intro w hSw; (try dsimp only at hSw); go_split_ands; go_simp; (try with_reducible rfl))
  try simp only [Act.put, List.setIfInBounds_toArray, List.set_cons_zero, List.set_cons_succ]
  refine wpK_one (i := 6) (by kernel_rfl) rfl (fun K hK => ?_)
  refine step_append_s _ (by rfl) _ _ _ (by rfl) (O + 1) 9 i0 _ 1 16 Try.underlying41 hi0 hz0 hz1 hz2 rfl Nat.one_pos (.slice none 0 0) 0 [] (by rfl) (World.ownsRow_nil _ _ _ _) O ma0 (lb m.keys key) mc0 _ (by rfl) hrK' q4 q1 q2 q3 ?_
  intro AK cK w6 hownK hgK hatK
  have bO6 := blk_grown (w := w5.drew) bO hgK nO
  have c46 : w6.cell? ⟨O, 4, none⟩ = some (.slice none 0 0) := blk_c bO6 4 rfl
  have f46 := blk_frozen bO6 4
  have HB6 := (HB5.drew).grown hgK (by show O ≤ w5.heap.size; omega) (fun k hk => by cases hk)
  have hs6 : w5.heap.size ≤ w6.heap.size := hgK.size
  refine hK.out _ _ ?_ (fun hHeld => ?_)
  · exact ⟨c46, hgK.cell d4 n0⟩
  clear hK K
  try simp only [Act.put, List.setIfInBounds_toArray, List.set_cons_zero, List.set_cons_succ]
  refine wpK_take (i := 7) (v := ?_) rfl (by kernel_rfl) (by kernel_rfl) (by kernel_rfl) (by kernel_rfl) (.inl ⟨by rfl, ?_⟩) hHeld ?_
  rotate_left
  · (intro w hSw; (try dsimp only at hSw); go_split_ands; go_simp; (try with_reducible rfl))
  try simp only [Act.put, List.setIfInBounds_toArray, List.set_cons_zero, List.set_cons_succ]
  refine wpK_last (i := 8) (by kernel_rfl) (by kernel_rfl) rfl (fun K hK => ?_)
  go_simp
  refine hK.out _ _ ?_
  clear hK K
  try simp only [Act.put, List.setIfInBounds_toArray, List.set_cons_zero, List.set_cons_succ]
  refine wpK_done (by kernel_rfl) ?_ _
  have bO7 : (w6.setCell ⟨O, 4, none⟩ (.slice AK (0 + lb m.keys key) cK)).heap[O]? = some (.cells #[.int .i64 6, .int .i64 0, .float .f64 0, .string ⟨#[]⟩, .slice AK (0 + lb m.keys key) cK, .slice none 0 0] 43 (0, 0)) := blk_set bO6 4 _
  have HB7 := HB6.setCell (p := ⟨O, 4, none⟩) (Nat.le_refl _) (.slice AK (0 + lb m.keys key) cK)
  have hownK7 := ownsRow_setCell_below hownK (a := ⟨O, 4, none⟩) (Nat.lt_succ_self _) (.slice AK (0 + lb m.keys key) cK)
  have hs7 : (w6.setCell ⟨O, 4, none⟩ (.slice AK (0 + lb m.keys key) cK)).heap.size = w6.heap.size := by simp
  clear bO6 c46 f46 hgK hatK HB6 hownK c4 d4 n0 nO q1 q2 q3 q4 hrK' hsl bO HB5
  simp only [Nat.zero_add, List.nil_append, Nat.mul_one] at hownK7 bO7 HB7 hs7
  generalize w6.setCell ⟨O, 4, none⟩ (.slice AK (lb m.keys key) cK) = w7 at *
  go_wp2_with fail
  -- the values ahead of the new one
  have hlb' : lb m.keys key ≤ m.l.length := by rw [← HL.out]; exact hlb
  have hsl := @run_slice_pre Try.prog 33 43 ma1 m.l.length mc1 (lb m.keys key) 6 .i64 Try.underlying33 (fun _ => by kernel_rfl) (by omega)
  have c4 : w7.cell? ⟨O, 5, none⟩ = some (.slice none 0 0) := blk_c bO7 5 rfl
  have d4 : w7.cell? ⟨w.heap.size, 5, none⟩ = some (.slice ma1 m.l.length mc1) := blk_c (blk_under b0 HB7 (by omega)) 5 rfl
  have n0 : some w.heap.size ≠ (Value.slice none 0 0).ownBlock := fun h => by cases h
  have nO : some O ≠ (Value.slice none 0 0).ownBlock := fun h => by cases h
  have q1 : 0 + lb m.keys key ≤ maxLen := by unfold maxLen; omega
  have q2 : (0 + lb m.keys key) * 88 ≤ 140737488355328 := by omega
  have q3 : O + 1 ≤ w7.heap.size := by omega
  have q4 : ∀ u ∈ (xs.take (lb m.keys key * 6)), u.oneCell' = true := ones_take hxs.ones
  have hrK' := ((hrL.below HB7).take_ hlb').drew
  refine wp_region_K (fun w' => w'.cell? ⟨O, 5, none⟩ = some (.slice none 0 0) ∧ w'.cell? ⟨w.heap.size, 5, none⟩ = some (.slice ma1 m.l.length mc1)) [0, 1, 2, 3, 4, 5, 7] (by kernel_rfl) ?_ (fun hHeld => ?_)
  · exact ⟨c4, d4⟩
  refine wpK_take (i := 0) (v := ?_) rfl (by kernel_rfl) (by kernel_rfl) (by kernel_rfl) (by kernel_rfl) (.inl ⟨by rfl, ?_⟩) hHeld ?_
  rotate_left
  · (intro w hSw; (try dsimp only at hSw); go_split_ands; go_simp; (try with_reducible rfl))
  try simp only [Act.put, List.setIfInBounds_toArray, List.set_cons_zero, List.set_cons_succ]
  refine wpK_take (i := 1) (v := ?_) rfl (by kernel_rfl) (by kernel_rfl) (by kernel_rfl) (by kernel_rfl) (.inl ⟨by rfl, ?_⟩) hHeld ?_
  rotate_left
  · (intro w hSw; (try dsimp only at hSw); go_split_ands; go_simp; (try with_reducible rfl))
  try simp only [Act.put, List.setIfInBounds_toArray, List.set_cons_zero, List.set_cons_succ]
  refine wpK_take (i := 2) (v := ?_) rfl (by kernel_rfl) (by kernel_rfl) (by kernel_rfl) (by kernel_rfl) (.inl ⟨by rfl, ?_⟩) hHeld ?_
  rotate_left
  · (intro w hSw; (try dsimp only at hSw); go_split_ands; go_simp; (try with_reducible rfl))
  try simp only [Act.put, List.setIfInBounds_toArray, List.set_cons_zero, List.set_cons_succ]
  refine wpK_take (i := 3) (v := ?_) rfl (by kernel_rfl) (by kernel_rfl) (by kernel_rfl) (by kernel_rfl) (.inl ⟨by rfl, ?_⟩) hHeld ?_
  rotate_left
  · (intro w hSw; (try dsimp only at hSw); go_split_ands; go_simp; (try with_reducible rfl))
  try simp only [Act.put, List.setIfInBounds_toArray, List.set_cons_zero, List.set_cons_succ]
  refine wpK_take (i := 4) (v := ?_) rfl (by kernel_rfl) (by kernel_rfl) (by kernel_rfl) (by kernel_rfl) (.inl ⟨by rfl, ?_⟩) hHeld ?_
  rotate_left
  · (intro w hSw; (try dsimp only at hSw); go_split_ands; go_simp; (try with_reducible rfl))
  try simp only [Act.put, List.setIfInBounds_toArray, List.set_cons_zero, List.set_cons_succ]
  refine wpK_take (i := 5) (v := ?_) rfl (by kernel_rfl) (by kernel_rfl) (by kernel_rfl) (by kernel_rfl) (.inl ⟨by rfl, ?_⟩) hHeld ?_
  rotate_left
  · (intro w hSw; (try dsimp only at hSw); go_split_ands; go_simp; (try with_reducible rfl))
  try simp only [Act.put, List.setIfInBounds_toArray, List.set_cons_zero, List.set_cons_succ]
  refine wpK_one (i := 6) (by kernel_rfl) rfl (fun K hK => ?_)
  refine step_append_s _ (by rfl) _ _ _ (by rfl) (O + 1) 43 i6 _ 6 88 Try.underlying33 hi6 hz60 hz61 hz62 rfl (by decide) (.slice none 0 0) 0 [] (by rfl) (World.ownsRow_nil _ _ _ _) O ma1 (lb m.keys key) mc1 _ (by rfl) hrK' q4 q1 q2 q3 ?_
  intro AL cL w8 hownL hgL hatL
  have bO8 := blk_grown (w := w7.drew) bO7 hgL nO
  have c46 : w8.cell? ⟨O, 5, none⟩ = some (.slice none 0 0) := blk_c bO8 5 rfl
  have f46 := blk_frozen bO8 5
  have HB8 := (HB7.drew).grown hgL (qB HB7.drew) (fun k hk => by cases hk)
  have hs8 : w7.heap.size ≤ w8.heap.size := hgL.size
  have hownK8 := own_nil (hownK7.drew) hgL
  refine hK.out _ _ ?_ (fun hHeld => ?_)
  · exact ⟨c46, hgL.cell d4 n0⟩
  clear hK K
  try simp only [Act.put, List.setIfInBounds_toArray, List.set_cons_zero, List.set_cons_succ]
  refine wpK_take (i := 7) (v := ?_) rfl (by kernel_rfl) (by kernel_rfl) (by kernel_rfl) (by kernel_rfl) (.inl ⟨by rfl, ?_⟩) hHeld ?_
  rotate_left
  · (intro w hSw; (try dsimp only at hSw); go_split_ands; go_simp; (try with_reducible rfl))
  try simp only [Act.put, List.setIfInBounds_toArray, List.set_cons_zero, List.set_cons_succ]
  refine wpK_last (i := 8) (by kernel_rfl) (by kernel_rfl) rfl (fun K hK => ?_)
  go_simp
  refine hK.out _ _ ?_
  clear hK K
  try simp only [Act.put, List.setIfInBounds_toArray, List.set_cons_zero, List.set_cons_succ]
  refine wpK_done (by kernel_rfl) ?_ _
  have bO9 : (w8.setCell ⟨O, 5, none⟩ (.slice AL (0 + lb m.keys key) cL)).heap[O]? = some (.cells #[.int .i64 6, .int .i64 0, .float .f64 0, .string ⟨#[]⟩, .slice AK (lb m.keys key) cK, .slice AL (0 + lb m.keys key) cL] 43 (0, 0)) := blk_set bO8 5 _
  have HB9 := HB8.setCell (p := ⟨O, 5, none⟩) (Nat.le_refl _) (.slice AL (0 + lb m.keys key) cL)
  have hownK9 := ownsRow_setCell_below hownK8 (a := ⟨O, 5, none⟩) (Nat.lt_succ_self _) (.slice AL (0 + lb m.keys key) cL)
  have hownL9 := ownsRow_setCell_below hownL (a := ⟨O, 5, none⟩) (Nat.lt_succ_self _) (.slice AL (0 + lb m.keys key) cL)
  have hs9 : (w8.setCell ⟨O, 5, none⟩ (.slice AL (0 + lb m.keys key) cL)).heap.size = w8.heap.size := by simp
  clear bO8 c46 f46 hgL hatL HB8 hownL hownK8 c4 d4 n0 nO q1 q2 q3 q4 hrK' hsl bO7 HB7 hownK7
  simp only [Nat.zero_add, List.nil_append] at hownL9 bO9 HB9 hs9 hownK9
  generalize w8.setCell ⟨O, 5, none⟩ (.slice AL (lb m.keys key) cL) = w9 at *
  -- the new key
  have c4 : w9.cell? ⟨O, 4, none⟩ = some (.slice AK (lb m.keys key) cK) := blk_c bO9 4 rfl
  have hq : O + 1 ≤ w9.heap.size := by have := blk_lt bO9; omega
  go_wp2_with (first
    | (with_reducible refine wpList_buildSlice_one rfl _ _ 9 rfl Try.underlying41 i0 hi0 _ hz0 hz1 (.string key) rfl rfl rfl ?_)
    | (at_builtin; refine wpList_append_s _ rfl _ _ _ rfl (O + 1) 9 i0 _ 1 16 Try.underlying41 hi0 hz0 hz1 hz2 rfl Nat.one_pos (.slice AK (lb m.keys key) cK) (lb m.keys key) _ rfl (hownK9.alloc _) (w9.heap.size + 1) (some ⟨w9.heap.size, 0, none⟩) 1 1 [.string key] rfl ?r1 ?r2 ?r3 ?r4 ?r5 ?_))
  case r1 => exact ⟨rfl, fun _ => ⟨_, rfl, Nat.lt_succ_self _, cell_one_new _ _ _⟩⟩
  case r2 => intro u hu; simp at hu; subst hu; rfl
  case r3 => unfold maxLen; omega
  case r4 => omega
  case r5 => simp; omega
  intro AK2 cK2 w10 hownK10 hg10 _
  have bO10 := blk_grown (blk_alloc bO9 (.cells #[.string key] 9)) hg10 (own_notin (hownK9.alloc (.cells #[.string key] 9)) (Nat.lt_succ_self _))
  have HB10 := (HB9.alloc (qB HB9) (.cells #[.string key] 9)).grown hg10 (qB (HB9.alloc (qB HB9) (.cells #[.string key] 9))) (own_ge (hownK9.alloc (.cells #[.string key] 9)) (Nat.le_succ _))
  have hownL10 := own_keep_ne (hownL9.alloc (.cells #[.string key] 9)) (hownK9.alloc (.cells #[.string key] 9)) (by decide) hg10
  have hs10 := hg10.size
  have c46 : w10.cell? ⟨O, 4, none⟩ = some (.slice AK (lb m.keys key) cK) := blk_c bO10 4 rfl
  have f46 := blk_frozen bO10 4
  clear hg10 hownK9 hownL9 c4 bO9 HB9
  simp only [World.size_alloc] at hs10
  have bO11 : (w10.setCell ⟨O, 4, none⟩ (.slice AK2 (lb m.keys key + 1) cK2)).heap[O]? = some (.cells #[.int .i64 6, .int .i64 0, .float .f64 0, .string ⟨#[]⟩, .slice AK2 (lb m.keys key + 1) cK2, .slice AL (lb m.keys key) cL] 43 (0, 0)) := blk_set bO10 4 _
  have HB11 := HB10.setCell (p := ⟨O, 4, none⟩) (Nat.le_refl _) (.slice AK2 (lb m.keys key + 1) cK2)
  have hownK11 := ownsRow_setCell_below hownK10 (a := ⟨O, 4, none⟩) (Nat.lt_succ_self _) (.slice AK2 (lb m.keys key + 1) cK2)
  have hownL11 := ownsRow_setCell_below hownL10 (a := ⟨O, 4, none⟩) (Nat.lt_succ_self _) (.slice AK2 (lb m.keys key + 1) cK2)
  have hs11 : (w10.setCell ⟨O, 4, none⟩ (.slice AK2 (lb m.keys key + 1) cK2)).heap.size = w10.heap.size := by simp
  -- the new value
  have c5 : w10.cell? ⟨O, 5, none⟩ = some (.slice AL (lb m.keys key) cL) := blk_c bO10 5 rfl
  have bx := blk_under b1 HB10 (by omega)
  have e0 : w10.cell? ⟨w.heap.size + 1, 0, none⟩ = some (.int .i64 x.kind) := blk_c bx 0 rfl
  have e1 : w10.cell? ⟨w.heap.size + 1, 1, none⟩ = some (.int .i64 x.n) := blk_c bx 1 rfl
  have e2 : w10.cell? ⟨w.heap.size + 1, 2, none⟩ = some (.float .f64 x.f) := blk_c bx 2 rfl
  have e3 : w10.cell? ⟨w.heap.size + 1, 3, none⟩ = some (.string x.s) := blk_c bx 3 rfl
  have e4 : w10.cell? ⟨w.heap.size + 1, 4, none⟩ = some (.slice xa0 x.keys.length xc0) := blk_c bx 4 rfl
  have e5 : w10.cell? ⟨w.heap.size + 1, 5, none⟩ = some (.slice xa1 x.l.length xc1) := blk_c bx 5 rfl
  have hne : ¬ O = w.heap.size + 1 := by omega
  go_wp2_with (at_builtin; refine wpList_append_s _ rfl _ _ _ rfl (O + 1) 43 i6 _ 6 88 Try.underlying33 hi6 hz60 hz61 hz62 rfl (by decide) (.slice AL (lb m.keys key) cL) (lb m.keys key) _ rfl (hownL11.alloc _) (w10.heap.size + 1) (some ⟨w10.heap.size, 0, none⟩) 1 1 [.int .i64 x.kind, .int .i64 x.n, .float .f64 x.f, .string x.s, .slice xa0 x.keys.length xc0, .slice xa1 x.l.length xc1] rfl ?s1 ?s2 ?s3 ?s4 ?s5 ?_)
  case s1 => exact ⟨rfl, fun _ => ⟨_, rfl, Nat.lt_succ_self _, World.news_of_block (cs := #[.int .i64 x.kind, .int .i64 x.n, .float .f64 x.f, .string x.s, .slice xa0 x.keys.length xc0, .slice xa1 x.l.length xc1]) (t := 43) (fr := (0, 0)) (new_block (by simp))⟩⟩
  case s2 => intro u hu; simp at hu; rcases hu with rfl | rfl | rfl | rfl | rfl | rfl <;> rfl
  case s3 => unfold maxLen; omega
  case s4 => omega
  case s5 => simp; omega
  intro AL2 cL2 w12 hownL12 hg12 _
  have bO12 := blk_grown (blk_alloc bO11 (.cells #[.int .i64 x.kind, .int .i64 x.n, .float .f64 x.f, .string x.s, .slice xa0 x.keys.length xc0, .slice xa1 x.l.length xc1] 43)) hg12 (own_notin (hownL11.alloc (.cells #[.int .i64 x.kind, .int .i64 x.n, .float .f64 x.f, .string x.s, .slice xa0 x.keys.length xc0, .slice xa1 x.l.length xc1] 43)) (Nat.lt_succ_self _))
  have HB12 := (HB11.alloc (qB HB11) (.cells #[.int .i64 x.kind, .int .i64 x.n, .float .f64 x.f, .string x.s, .slice xa0 x.keys.length xc0, .slice xa1 x.l.length xc1] 43)).grown hg12 (qB (HB11.alloc (qB HB11) (.cells #[.int .i64 x.kind, .int .i64 x.n, .float .f64 x.f, .string x.s, .slice xa0 x.keys.length xc0, .slice xa1 x.l.length xc1] 43))) (own_ge (hownL11.alloc (.cells #[.int .i64 x.kind, .int .i64 x.n, .float .f64 x.f, .string x.s, .slice xa0 x.keys.length xc0, .slice xa1 x.l.length xc1] 43)) (Nat.le_succ _))
  have hownK12 := own_keep_ne (hownK11.alloc (.cells #[.int .i64 x.kind, .int .i64 x.n, .float .f64 x.f, .string x.s, .slice xa0 x.keys.length xc0, .slice xa1 x.l.length xc1] 43)) (hownL11.alloc (.cells #[.int .i64 x.kind, .int .i64 x.n, .float .f64 x.f, .string x.s, .slice xa0 x.keys.length xc0, .slice xa1 x.l.length xc1] 43)) (by decide) hg12
  have c46 : w12.cell? ⟨O, 5, none⟩ = some (.slice AL (lb m.keys key) cL) := blk_c bO12 5 rfl
  have f46 := blk_frozen bO12 5
  have bO13 : (w12.setCell ⟨O, 5, none⟩ (.slice AL2 (lb m.keys key + 1) cL2)).heap[O]? = some (.cells #[.int .i64 6, .int .i64 0, .float .f64 0, .string ⟨#[]⟩, .slice AK2 (lb m.keys key + 1) cK2, .slice AL2 (lb m.keys key + 1) cL2] 43 (0, 0)) := blk_set bO12 5 _
  have HB13 := HB12.setCell (p := ⟨O, 5, none⟩) (Nat.le_refl _) (.slice AL2 (lb m.keys key + 1) cL2)
  have hownK13 := ownsRow_setCell_below hownK12 (a := ⟨O, 5, none⟩) (Nat.lt_succ_self _) (.slice AL2 (lb m.keys key + 1) cL2)
  have hownL13 := ownsRow_setCell_below hownL12 (a := ⟨O, 5, none⟩) (Nat.lt_succ_self _) (.slice AL2 (lb m.keys key + 1) cL2)
  clear bO12 hg12 HB12 hownK12 hownL12 bO11 HB11 hownK11 hownL11 hs11 e0 e1 e2 e3 e4 e5 c5 bx bO10 HB10 hownK10 hownL10
  go_upto_if 45 with (fail)
  generalize w12.setCell ⟨O, 5, none⟩ (.slice AL2 (lb m.keys key + 1) cL2) = w13 at *
  clear c46 f46 hs10
  go_cut [7] (fun s7 wx => w13 = wx ∧ ∃ j : Nat, s7 = .int .i64 (j : Nat) ∧ j = lb m.keys key + (if hasAt m.keys key then 1 else 0))
  case first =>
    go_wp2_with fail
    all_goals go_meet
    · have h : hasAt m.keys key = true := by assumption
      exact ⟨rfl, lb m.keys key + 1, by go_num, by rw [if_pos h]⟩
    · have h : hasAt m.keys key = false := by assumption
      exact ⟨rfl, lb m.keys key, rfl, by rw [h]; rfl⟩
  case rest =>
    obtain ⟨rfl, j, rfl, hj⟩ := hcut
    have hjk : j ≤ m.keys.length := by
      rw [hj]
      cases hh : hasAt m.keys key with
      | false => simpa using hlb
      | true =>
        unfold hasAt at hh
        simp only [decide_eq_true_eq] at hh
        have := (List.getElem?_eq_some_iff.1 hh).1
        simp; omega
    have hlj : lb m.keys key ≤ j := by rw [hj]; exact Nat.le_add_right _ _
    have hnl : m.keys.length ≤ m.l.length := Nat.le_of_eq HL.out
    have HJ := Lib.hid hj
    have hjl : j ≤ m.l.length := by rw [← HL.out]; exact hjk
    clear hj
    go_wp2_with fail
    -- the keys behind the new one
    have hsl := @run_slice_suf Try.prog 41 9 ma0 m.keys.length mc0 j 1 .i64 Try.underlying41 (fun _ => by kernel_rfl) hjk
    have c4 : w13.cell? ⟨O, 4, none⟩ = some (.slice AK2 (lb m.keys key + 1) cK2) := blk_c bO13 4 rfl
    have d4 : w13.cell? ⟨w.heap.size, 4, none⟩ = some (.slice ma0 m.keys.length mc0) := blk_c (blk_under b0 HB13 (by omega)) 4 rfl
    have n0 : some w.heap.size ≠ (Value.slice AK2 (lb m.keys key + 1) cK2).ownBlock := own_notin hownK13 (by omega)
    have nO : some O ≠ (Value.slice AK2 (lb m.keys key + 1) cK2).ownBlock := own_notin hownK13 (by omega)
    have q1 : lb m.keys key + 1 + (m.keys.length - j) ≤ maxLen := by unfold maxLen; omega
    have q2 : (lb m.keys key + 1 + (m.keys.length - j)) * 16 ≤ 140737488355328 := by omega
    have q3 : O + 1 ≤ w13.heap.size := by have := blk_lt bO13; omega
    have q4 : ∀ u ∈ ((m.keys.map Value.string).drop (j * 1)), u.oneCell' = true := ones_drop strs_one
    have hrK' : Reads w13.drew O 1 (sufA ma0 mc0 j 1) (m.keys.length - j) ((m.keys.map Value.string).drop (j * 1)) := ((hrK.below HB13).cut hjk hkc).drew
    refine wp_region_K (fun w' => w'.cell? ⟨O, 4, none⟩ = some (.slice AK2 (lb m.keys key + 1) cK2) ∧ w'.cell? ⟨w.heap.size, 4, none⟩ = some (.slice ma0 m.keys.length mc0)) [0, 1, 2, 3, 4, 5, 7] (by kernel_rfl) ?_ (fun hHeld => ?_)
    · exact ⟨c4, d4⟩
    refine wpK_take (i := 0) (v := ?_) rfl (by kernel_rfl) (by kernel_rfl) (by kernel_rfl) (by kernel_rfl) (.inl ⟨by rfl, ?_⟩) hHeld ?_
    rotate_left
    · (intro w hSw; (try dsimp only at hSw); go_split_ands; go_simp; (try with_reducible rfl))
    try simp only [Act.put, List.setIfInBounds_toArray, List.set_cons_zero, List.set_cons_succ]
    refine wpK_take (i := 1) (v := ?_) rfl (by kernel_rfl) (by kernel_rfl) (by kernel_rfl) (by kernel_rfl) (.inl ⟨by rfl, ?_⟩) hHeld ?_
    rotate_left
    · (intro w hSw; (try dsimp only at hSw); go_split_ands; go_simp; (try with_reducible rfl))
    try simp only [Act.put, List.setIfInBounds_toArray, List.set_cons_zero, List.set_cons_succ]
    refine wpK_take (i := 2) (v := ?_) rfl (by kernel_rfl) (by kernel_rfl) (by kernel_rfl) (by kernel_rfl) (.inl ⟨by rfl, ?_⟩) hHeld ?_
    rotate_left
    · (intro w hSw; (try dsimp only at hSw); go_split_ands; go_simp; (try with_reducible rfl))
    try simp only [Act.put, List.setIfInBounds_toArray, List.set_cons_zero, List.set_cons_succ]
    refine wpK_take (i := 3) (v := ?_) rfl (by kernel_rfl) (by kernel_rfl) (by kernel_rfl) (by kernel_rfl) (.inl ⟨by rfl, ?_⟩) hHeld ?_
    rotate_left
    · (intro w hSw; (try dsimp only at hSw); go_split_ands; go_simp; (try with_reducible rfl))
    try simp only [Act.put, List.setIfInBounds_toArray, List.set_cons_zero, List.set_cons_succ]
    refine wpK_take (i := 4) (v := ?_) rfl (by kernel_rfl) (by kernel_rfl) (by kernel_rfl) (by kernel_rfl) (.inl ⟨by rfl, ?_⟩) hHeld ?_
    rotate_left
    · (intro w hSw; (try dsimp only at hSw); go_split_ands; go_simp; (try with_reducible rfl))
    try simp only [Act.put, List.setIfInBounds_toArray, List.set_cons_zero, List.set_cons_succ]
    refine wpK_take (i := 5) (v := ?_) rfl (by kernel_rfl) (by kernel_rfl) (by kernel_rfl) (by kernel_rfl) (.inl ⟨by rfl, ?_⟩) hHeld ?_
    rotate_left
    · (intro w hSw; (try dsimp only at hSw); go_split_ands; go_simp; (try with_reducible rfl))
    try simp only [Act.put, List.setIfInBounds_toArray, List.set_cons_zero, List.set_cons_succ]
    refine wpK_one (i := 6) (by kernel_rfl) rfl (fun K hK => ?_)
    refine step_append_s _ (by rfl) _ _ _ (by rfl) (O + 1) 9 i0 _ 1 16 Try.underlying41 hi0 hz0 hz1 hz2 rfl Nat.one_pos (.slice AK2 (lb m.keys key + 1) cK2) _ _ (by rfl) hownK13.drew O (sufA ma0 mc0 j 1) (m.keys.length - j) (mc0 - j) _ (by rfl) hrK' q4 q1 q2 q3 ?_
    intro AK3 cK3 w14 hownK14 hgK hatK
    have bO14 := blk_grown (w := w13.drew) bO13 hgK nO
    have c46 : w14.cell? ⟨O, 4, none⟩ = some (.slice AK2 (lb m.keys key + 1) cK2) := blk_c bO14 4 rfl
    have f46 := blk_frozen bO14 4
    have HB14 := (HB13.drew).grown hgK (qB HB13.drew) (own_ge hownK13 (Nat.le_succ _))
    have hownL14 := own_keep_ne hownL13.drew hownK13.drew (by decide) hgK
    refine hK.out _ _ ?_ (fun hHeld => ?_)
    · exact ⟨c46, hgK.cell d4 n0⟩
    clear hK K
    try simp only [Act.put, List.setIfInBounds_toArray, List.set_cons_zero, List.set_cons_succ]
    refine wpK_take (i := 7) (v := ?_) rfl (by kernel_rfl) (by kernel_rfl) (by kernel_rfl) (by kernel_rfl) (.inl ⟨by rfl, ?_⟩) hHeld ?_
    rotate_left
    · (intro w hSw; (try dsimp only at hSw); go_split_ands; go_simp; (try with_reducible rfl))
    try simp only [Act.put, List.setIfInBounds_toArray, List.set_cons_zero, List.set_cons_succ]
    refine wpK_last (i := 8) (by kernel_rfl) (by kernel_rfl) rfl (fun K hK => ?_)
    go_simp
    refine hK.out _ _ ?_
    clear hK K
    try simp only [Act.put, List.setIfInBounds_toArray, List.set_cons_zero, List.set_cons_succ]
    refine wpK_done (by kernel_rfl) ?_ _
    have bO15 : (w14.setCell ⟨O, 4, none⟩ (.slice AK3 (lb m.keys key + 1 + (m.keys.length - j)) cK3)).heap[O]? = some (.cells #[.int .i64 6, .int .i64 0, .float .f64 0, .string ⟨#[]⟩, .slice AK3 (lb m.keys key + 1 + (m.keys.length - j)) cK3, .slice AL2 (lb m.keys key + 1) cL2] 43 (0, 0)) := blk_set bO14 4 _
    have HB15 := HB14.setCell (p := ⟨O, 4, none⟩) (Nat.le_refl _) (.slice AK3 (lb m.keys key + 1 + (m.keys.length - j)) cK3)
    have hownK15 := ownsRow_setCell_below hownK14 (a := ⟨O, 4, none⟩) (Nat.lt_succ_self _) (.slice AK3 (lb m.keys key + 1 + (m.keys.length - j)) cK3)
    have hownL15 := ownsRow_setCell_below hownL14 (a := ⟨O, 4, none⟩) (Nat.lt_succ_self _) (.slice AK3 (lb m.keys key + 1 + (m.keys.length - j)) cK3)
    clear bO14 c46 f46 hgK hatK HB14 hownK14 hownL14 c4 d4 n0 nO q1 q2 q3 q4 hrK' hsl bO13 HB13 hownK13 hownL13
    generalize w14.setCell ⟨O, 4, none⟩ (.slice AK3 (lb m.keys key + 1 + (m.keys.length - j)) cK3) = w15 at *
    go_wp2_with fail
    have hsl := @run_slice_suf Try.prog 33 43 ma1 m.l.length mc1 j 6 .i64 Try.underlying33 (fun _ => by kernel_rfl) hjl
    have c4 : w15.cell? ⟨O, 5, none⟩ = some (.slice AL2 (lb m.keys key + 1) cL2) := blk_c bO15 5 rfl
    have d4 : w15.cell? ⟨w.heap.size, 5, none⟩ = some (.slice ma1 m.l.length mc1) := blk_c (blk_under b0 HB15 (by omega)) 5 rfl
    have n0 : some w.heap.size ≠ (Value.slice AL2 (lb m.keys key + 1) cL2).ownBlock := own_notin hownL15 (by omega)
    have nO : some O ≠ (Value.slice AL2 (lb m.keys key + 1) cL2).ownBlock := own_notin hownL15 (by omega)
    have q1 : lb m.keys key + 1 + (m.l.length - j) ≤ maxLen := by unfold maxLen; omega
    have q2 : (lb m.keys key + 1 + (m.l.length - j)) * 88 ≤ 140737488355328 := by omega
    have q3 : O + 1 ≤ w15.heap.size := by have := blk_lt bO15; omega
    have q4 : ∀ u ∈ (xs.drop (j * 6)), u.oneCell' = true := ones_drop hxs.ones
    have hrK' : Reads w15.drew O 6 (sufA ma1 mc1 j 6) (m.l.length - j) (xs.drop (j * 6)) := ((hrL.below HB15).cut hjl hlc).drew
    refine wp_region_K (fun w' => w'.cell? ⟨O, 5, none⟩ = some (.slice AL2 (lb m.keys key + 1) cL2) ∧ w'.cell? ⟨w.heap.size, 5, none⟩ = some (.slice ma1 m.l.length mc1)) [0, 1, 2, 3, 4, 5, 7] (by kernel_rfl) ?_ (fun hHeld => ?_)
    · exact ⟨c4, d4⟩
    refine wpK_take (i := 0) (v := ?_) rfl (by kernel_rfl) (by kernel_rfl) (by kernel_rfl) (by kernel_rfl) (.inl ⟨by rfl, ?_⟩) hHeld ?_
    rotate_left
    · (intro w hSw; (try dsimp only at hSw); go_split_ands; go_simp; (try with_reducible rfl))
    try simp only [Act.put, List.setIfInBounds_toArray, List.set_cons_zero, List.set_cons_succ]
    refine wpK_take (i := 1) (v := ?_) rfl (by kernel_rfl) (by kernel_rfl) (by kernel_rfl) (by kernel_rfl) (.inl ⟨by rfl, ?_⟩) hHeld ?_
    rotate_left
    · (intro w hSw; (try dsimp only at hSw); go_split_ands; go_simp; (try with_reducible rfl))
    try simp only [Act.put, List.setIfInBounds_toArray, List.set_cons_zero, List.set_cons_succ]
    refine wpK_take (i := 2) (v := ?_) rfl (by kernel_rfl) (by kernel_rfl) (by kernel_rfl) (by kernel_rfl) (.inl ⟨by rfl, ?_⟩) hHeld ?_
    rotate_left
    · (intro w hSw; (try dsimp only at hSw); go_split_ands; go_simp; (try with_reducible rfl))
    try simp only [Act.put, List.setIfInBounds_toArray, List.set_cons_zero, List.set_cons_succ]
    refine wpK_take (i := 3) (v := ?_) rfl (by kernel_rfl) (by kernel_rfl) (by kernel_rfl) (by kernel_rfl) (.inl ⟨by rfl, ?_⟩) hHeld ?_
    rotate_left
    · (intro w hSw; (try dsimp only at hSw); go_split_ands; go_simp; (try with_reducible rfl))
    try simp only [Act.put, List.setIfInBounds_toArray, List.set_cons_zero, List.set_cons_succ]
    refine wpK_take (i := 4) (v := ?_) rfl (by kernel_rfl) (by kernel_rfl) (by kernel_rfl) (by kernel_rfl) (.inl ⟨by rfl, ?_⟩) hHeld ?_
    rotate_left
    · (intro w hSw; (try dsimp only at hSw); go_split_ands; go_simp; (try with_reducible rfl))
    try simp only [Act.put, List.setIfInBounds_toArray, List.set_cons_zero, List.set_cons_succ]
    refine wpK_take (i := 5) (v := ?_) rfl (by kernel_rfl) (by kernel_rfl) (by kernel_rfl) (by kernel_rfl) (.inl ⟨by rfl, ?_⟩) hHeld ?_
    rotate_left
    · (intro w hSw; (try dsimp only at hSw); go_split_ands; go_simp; (try with_reducible rfl))
    try simp only [Act.put, List.setIfInBounds_toArray, List.set_cons_zero, List.set_cons_succ]
    refine wpK_one (i := 6) (by kernel_rfl) rfl (fun K hK => ?_)
    refine step_append_s _ (by rfl) _ _ _ (by rfl) (O + 1) 43 i6 _ 6 88 Try.underlying33 hi6 hz60 hz61 hz62 rfl (by decide) (.slice AL2 (lb m.keys key + 1) cL2) _ _ (by rfl) hownL15.drew O (sufA ma1 mc1 j 6) (m.l.length - j) (mc1 - j) _ (by rfl) hrK' q4 q1 q2 q3 ?_
    intro AL3 cL3 w16 hownL16 hgL hatL
    have bO16 := blk_grown (w := w15.drew) bO15 hgL nO
    have c46 : w16.cell? ⟨O, 5, none⟩ = some (.slice AL2 (lb m.keys key + 1) cL2) := blk_c bO16 5 rfl
    have f46 := blk_frozen bO16 5
    have HB16 := (HB15.drew).grown hgL (qB HB15.drew) (own_ge hownL15 (Nat.le_succ _))
    have hownK16 := own_keep_ne hownK15.drew hownL15.drew (by decide) hgL
    refine hK.out _ _ ?_ (fun hHeld => ?_)
    · exact ⟨c46, hgL.cell d4 n0⟩
    clear hK K
    try simp only [Act.put, List.setIfInBounds_toArray, List.set_cons_zero, List.set_cons_succ]
    refine wpK_take (i := 7) (v := ?_) rfl (by kernel_rfl) (by kernel_rfl) (by kernel_rfl) (by kernel_rfl) (.inl ⟨by rfl, ?_⟩) hHeld ?_
    rotate_left
    · (intro w hSw; (try dsimp only at hSw); go_split_ands; go_simp; (try with_reducible rfl))
    try simp only [Act.put, List.setIfInBounds_toArray, List.set_cons_zero, List.set_cons_succ]
    refine wpK_last (i := 8) (by kernel_rfl) (by kernel_rfl) rfl (fun K hK => ?_)
    go_simp
    refine hK.out _ _ ?_
    clear hK K
    try simp only [Act.put, List.setIfInBounds_toArray, List.set_cons_zero, List.set_cons_succ]
    refine wpK_done (by kernel_rfl) ?_ _
    have bO17 : (w16.setCell ⟨O, 5, none⟩ (.slice AL3 (lb m.keys key + 1 + (m.l.length - j)) cL3)).heap[O]? = some (.cells #[.int .i64 6, .int .i64 0, .float .f64 0, .string ⟨#[]⟩, .slice AK3 (lb m.keys key + 1 + (m.keys.length - j)) cK3, .slice AL3 (lb m.keys key + 1 + (m.l.length - j)) cL3] 43 (0, 0)) := blk_set bO16 5 _
    have HB17 := HB16.setCell (p := ⟨O, 5, none⟩) (Nat.le_refl _) (.slice AL3 (lb m.keys key + 1 + (m.l.length - j)) cL3)
    have hownK17 := ownsRow_setCell_below hownK16 (a := ⟨O, 5, none⟩) (Nat.lt_succ_self _) (.slice AL3 (lb m.keys key + 1 + (m.l.length - j)) cL3)
    have hownL17 := ownsRow_setCell_below hownL16 (a := ⟨O, 5, none⟩) (Nat.lt_succ_self _) (.slice AL3 (lb m.keys key + 1 + (m.l.length - j)) cL3)
    clear bO16 c46 f46 hgL hatL HB16 hownK16 hownL16 c4 d4 n0 nO q1 q2 q3 q4 hrK' hsl bO15 HB15 hownK15 hownL15
    generalize w16.setCell ⟨O, 5, none⟩ (.slice AL3 (lb m.keys key + 1 + (m.l.length - j)) cL3) = w17 at *
    have bR17 := blk_under bR HB17 (by omega)
    have o0 : w17.cell? ⟨O, 0, none⟩ = some (.int .i64 6) := blk_c bO17 0 rfl
    have o1 : w17.cell? ⟨O, 1, none⟩ = some (.int .i64 0) := blk_c bO17 1 rfl
    have o2 : w17.cell? ⟨O, 2, none⟩ = some (.float .f64 0) := blk_c bO17 2 rfl
    have o3 : w17.cell? ⟨O, 3, none⟩ = some (.string ⟨#[]⟩) := blk_c bO17 3 rfl
    have o4 : w17.cell? ⟨O, 4, none⟩ = some (.slice AK3 (lb m.keys key + 1 + (m.keys.length - j)) cK3) := blk_c bO17 4 rfl
    have o5 : w17.cell? ⟨O, 5, none⟩ = some (.slice AL3 (lb m.keys key + 1 + (m.l.length - j)) cL3) := blk_c bO17 5 rfl
    have r0 : w17.cell? ⟨w.heap.size + 2, 0, none⟩ = some (.int .i64 0) := blk_c bR17 0 rfl
    have r1 : w17.cell? ⟨w.heap.size + 2, 1, none⟩ = some (.int .i64 0) := blk_c bR17 1 rfl
    have r2 : w17.cell? ⟨w.heap.size + 2, 2, none⟩ = some (.float .f64 0) := blk_c bR17 2 rfl
    have r3 : w17.cell? ⟨w.heap.size + 2, 3, none⟩ = some (.string ⟨#[]⟩) := blk_c bR17 3 rfl
    have r4 : w17.cell? ⟨w.heap.size + 2, 4, none⟩ = some (.slice none 0 0) := blk_c bR17 4 rfl
    have r5 : w17.cell? ⟨w.heap.size + 2, 5, none⟩ = some (.slice none 0 0) := blk_c bR17 5 rfl
    have g0 := blk_frozen bR17 0
    have g1 := blk_frozen bR17 1
    have g2 := blk_frozen bR17 2
    have g3 := blk_frozen bR17 3
    have g4 := blk_frozen bR17 4
    have g5 := blk_frozen bR17 5
    go_wp2_with fail
    have hBF : Below w.heap.size w4 (st6 w17 (w.heap.size + 2) (.int .i64 6) (.int .i64 0) (.float .f64 0) (.string ⟨#[]⟩) (.slice AK3 (lb m.keys key + 1 + (m.keys.length - j)) cK3) (.slice AL3 (lb m.keys key + 1 + (m.l.length - j)) cL3)) := st6_below (HB17.mono (by omega)) (by omega)
    have hOK := st6_own (b := w.heap.size + 2) (c0 := .int .i64 6) (c1 := .int .i64 0) (c2 := .float .f64 0) (c3 := .string ⟨#[]⟩) (c4 := .slice AK3 (lb m.keys key + 1 + (m.keys.length - j)) cK3) (c5 := .slice AL3 (lb m.keys key + 1 + (m.l.length - j)) cL3) hownK17 (by omega)
    have hOL := st6_own (b := w.heap.size + 2) (c0 := .int .i64 6) (c1 := .int .i64 0) (c2 := .float .f64 0) (c3 := .string ⟨#[]⟩) (c4 := .slice AK3 (lb m.keys key + 1 + (m.keys.length - j)) cK3) (c5 := .slice AL3 (lb m.keys key + 1 + (m.l.length - j)) cL3) hownL17 (by omega)
    have hblk := st6_blk (c0 := .int .i64 6) (c1 := .int .i64 0) (c2 := .float .f64 0) (c3 := .string ⟨#[]⟩) (c4 := .slice AK3 (lb m.keys key + 1 + (m.keys.length - j)) cK3) (c5 := .slice AL3 (lb m.keys key + 1 + (m.l.length - j)) cL3) bR17
    refine bodyPost_ret (v := .agg #[.int .i64 6, .int .i64 0, .float .f64 0, .string ⟨#[]⟩, .slice AK3 (lb m.keys key + 1 + (m.keys.length - j)) cK3, .slice AL3 (lb m.keys key + 1 + (m.l.length - j)) cL3]) ?_ rfl ⟨_, rfl, hB.trans hBF, ?_⟩
    · have e0 := blk_c hblk 0 (u := .int .i64 6) rfl
      have e1 := blk_c hblk 1 (u := .int .i64 0) rfl
      have e2 := blk_c hblk 2 (u := .float .f64 0) rfl
      have e3 := blk_c hblk 3 (u := .string ⟨#[]⟩) rfl
      have e4 := blk_c hblk 4 (u := .slice AK3 (lb m.keys key + 1 + (m.keys.length - j)) cK3) rfl
      have e5 := blk_c hblk 5 (u := .slice AL3 (lb m.keys key + 1 + (m.l.length - j)) cL3) rfl
      unfold st6 at e0 e1 e2 e3 e4 e5
      simp [results, Try.results84, go_sem, e0, e1, e2, e3, e4, e5]
    · exact with_fin (W := w.heap.size) (O := O) hlo (by omega) hxs hx4 hBF (by have := blk_lt bO17; simp; omega) HJ.out hjk hjl HL.out hkey hkz hsz hOK hOL
end Go.Proofs.Ytbbacpdbbmjblaa
end
section
namespace Go.Proofs.Ytbbacpdbbmjblaa
open Go.RowKit
set_option linter.unusedSimpArgs false
/-- A value with nothing but what its kind uses. -/
def gv (k n : Int) (f : Nat) (s : ByteArray) : GV := .mk k n f s [] []
def gNull : GV := .mk 0 0 0 ByteArray.empty [] []
mutual
/-- The plain form. -/
def cleanV : GV → GV
  | .mk k n f s ks l => if k = 1 then .mk 1 (if n = 0 then 0 else 1) 0 ByteArray.empty [] [] else if k = 2 then .mk 2 n 0 ByteArray.empty [] [] else if k = 3 then .mk 3 0 f ByteArray.empty [] []
    else if k = 4 then .mk 4 0 0 s [] [] else if k = 5 then .mk 5 0 0 ByteArray.empty [] (cleanL l) else if k = 6 then cleanM ks l (.mk 6 0 0 ByteArray.empty [] []) else gNull
def cleanL : List GV → List GV
  | [] => []
  | x :: r => cleanV x :: cleanL r
def cleanM : List ByteArray → List GV → GV → GV
  | k :: ks, x :: r, acc => cleanM ks r (withF acc k (cleanV x))
  | _, _, acc => acc
end
theorem cleanL_length : ∀ l, (cleanL l).length = l.length
  | [] => by simp [cleanL]
  | x :: r => by simp [cleanL, cleanL_length r]
theorem cleanL_at : ∀ (l : List GV) (i : Nat), (cleanL l)[i]? = (l[i]?).map cleanV
  | [], i => by simp [cleanL]
  | x :: r, 0 => by simp [cleanL]
  | x :: r, i + 1 => by simp [cleanL, cleanL_at r i]
def CleanC (x : GV) : Prop := ∀ (w : World) (v : Value), IsV w (Btw 0 w.heap.size) x v →
    Calls Try.prog 52 #[v] w fun e w' => ∃ r, e = .returned r ∧ Below w.heap.size w w' ∧ IsV w' (Btw w.heap.size w'.heap.size) (cleanV x) r
theorem CleanC.use {x : GV} (h : CleanC x) (w : World) (v : Value) (hv : IsV w (Btw 0 w.heap.size) x v) :
    Calls Try.prog 52 #[v] w fun e w' => ∃ r, e = .returned r ∧ Below w.heap.size w w' ∧ IsV w' (Btw w.heap.size w'.heap.size) (cleanV x) r := h w v hv
set_option maxHeartbeats 2000000 in
set_option maxRecDepth 100000 in
theorem plainList_any (l : List GV) (ih : ∀ y ∈ l, CleanC y) (w : World) (a : Option Addr) (c : Nat) (h6 : l.length * 88 ≤ 140737488351232) (h7 : l = [] ∨ ∃ b o, Btw 0 w.heap.size b ∧ a = some ⟨b, o, none⟩ ∧ IsVs w (Btw 0 w.heap.size) l b o) :
    Calls Try.prog 54 #[.slice a l.length c] w fun e w' => ∃ A C, e = .returned (.slice A l.length C) ∧ l.length ≤ C ∧ Below w.heap.size w w' ∧
      (l = [] ∨ ∃ b o, Btw w.heap.size w'.heap.size b ∧ A = some ⟨b, o, none⟩ ∧ IsVs w' (Btw w.heap.size w'.heap.size) (cleanL l) b o) := by
  obtain ⟨i6, hi6, hz60, hz61, hz62⟩ := info_parts Try.infoVal
  go_enter Try.func54, Try.ntmps54
  go_wp2_with (first
      | (at_make; refine wpList_make_own _ rfl _ _ 33 rfl 0 43 i6 _ 6 Try.underlying33 hi6 hz60 hz61 _ _ _ l.length rfl rfl rfl (by rw [hz62]; omega) (by unfold maxLen; omega) (Nat.zero_le _) ?_))
  intro w1 hown1 hg1
  have hB1 : Below w.heap.size w w1 := (Below.refl _ _).grown hg1 (Nat.le_refl _) (fun k hk => by cases hk)
  have hsz1 : w.heap.size + 1 ≤ w1.heap.size := by have := (hown1.lt w.heap.size rfl).2; omega
  clear hg1
  generalize hM : w.heap.size = M at *
  have HM := Lib.hid hM; clear hM
  go_wp2_with fail
  go_loopw [3, 11] (fun out i wr => ∃ k vs, k ≤ l.length ∧ i = .int .i64 (k : Nat) ∧ out = .slice (some ⟨M, 0, none⟩) k l.length ∧
      wr.ownsRow 0 43 6 (.slice (some ⟨M, 0, none⟩) k l.length) k vs ∧ VCells wr (Btw (M + 1) wr.heap.size) ((cleanL l).take k) vs ∧ Below M w wr ∧ M + 1 ≤ wr.heap.size)
    (fun _ i _ => l.length - (intOf i).toNat)
  case atStart => exact ⟨0, [], Nat.zero_le _, rfl, rfl, hown1, by simp [VCells], hB1, hsz1⟩
  case round =>
    clear hown1 hB1 hsz1
    obtain ⟨k, vs, hk, rfl, rfl, hown, hall, hB, hsz⟩ := hrel
    by_cases hlt : k < l.length
    · obtain ⟨b, o, hb, rfl, hcells⟩ : ∃ b o, Btw 0 M b ∧ a = some ⟨b, o, none⟩ ∧ IsVs w (Btw 0 M) l b o := by
        rcases h7 with rfl | h7
        · simp at hlt
        · exact h7
      obtain ⟨x, hx⟩ : ∃ x, l[k]? = some x := ⟨l[k], by simp [hlt]⟩
      obtain ⟨a0, d0, a1, d1, g0, g1, g2, g3, g4, g5, hxv⟩ := (IsVs.keep (S' := Btw 0 wr.heap.size) (Btw.kept hB) (Btw.mono (Nat.le_refl _) (by omega)) l b o hb hcells).cells hx
      have hc := ih x (List.mem_of_getElem? hx)
      have HX := Lib.hid hx; clear hx h7 hcells
      have hxv' := hxv.alloc_ (.cells #[.int .i64 x.kind, .int .i64 x.n, .float .f64 x.f, .string x.s, .slice a0 x.keys.length d0, .slice a1 x.l.length d1] 43)
      go_wp2_with (go_at_call 52; (with_reducible refine (hc.use _ _ ?_).mono ?_))
      · simpa using hxv'
      rintro e w2 ⟨r, rfl, hB2, hr⟩
      have hsz2 := hB2.size
      have hB3 : Below wr.heap.size wr w2 := ((Below.refl _ _).alloc (Nat.le_refl _) _).trans (hB2.mono (by simp))
      have hown2 := own_below hown hB3
      have hall2 : VCells w2 (Btw (M + 1) w2.heap.size) ((cleanL l).take k) vs := hall.keep (Btw.kept hB3) (Btw.mono (Nat.le_refl _) hB3.size)
      have hr2 : IsV w2 (Btw (M + 1) w2.heap.size) (cleanV x) r := hr.lo_ (by simp; omega)
      have hBM : Below M w w2 := hB.trans (hB3.mono (by omega))
      simp at hsz2
      clear hB2 hr hown hall hB g0 g1 g2 g3 g4 g5 hxv hxv' hc
      obtain ⟨ra0, rd0, ra1, rd1, rfl⟩ := hr2.form
      go_wp2_with (first
        | (at_builtin; refine wpList_append_fits _ rfl _ _ 33 rfl 0 43 i6 6 Try.underlying33 hi6 hz61 M k l.length vs rfl (hown2.alloc _) ⟨w2.heap.size, 0, none⟩ 1 1 [.int .i64 (cleanV x).kind, .int .i64 (cleanV x).n, .float .f64 (cleanV x).f, .string (cleanV x).s, .slice ra0 (cleanV x).keys.length rd0, .slice ra1 (cleanV x).l.length rd1] rfl rfl ?c1 ?c2 (by omega) ?_))
      case c1 => exact World.news_of_block (cs := #[.int .i64 (cleanV x).kind, .int .i64 (cleanV x).n, .float .f64 (cleanV x).f, .string (cleanV x).s, .slice ra0 (cleanV x).keys.length rd0, .slice ra1 (cleanV x).l.length rd1]) (t := 43) (fr := (0, 0)) (heap_alloc_new w2 _)
      case c2 => intro u hu; simp at hu; rcases hu with rfl | rfl | rfl | rfl | rfl | rfl <;> rfl
      intro w3 hown3 hg3
      have hs3 : w2.heap.size + 1 ≤ w3.heap.size := by have := hg3.size; simp at this; exact this
      have hk3 : ∀ b, Btw (M + 1) w2.heap.size b → w3.heap[b]? = w2.heap[b]? := fun b hb => by
        have h1 := hb.1; have h2 := hb.2
        exact (hg3.block b (by simp; omega) (by simp; omega)).trans (Below.heap_alloc _ _ _ h2)
      have hall3 : VCells w3 (Btw (M + 1) w3.heap.size) ((cleanL l).take (k + 1)) (vs ++ [.int .i64 (cleanV x).kind, .int .i64 (cleanV x).n, .float .f64 (cleanV x).f, .string (cleanV x).s, .slice ra0 (cleanV x).keys.length rd0, .slice ra1 (cleanV x).l.length rd1]) := by
        rw [List.take_add_one, cleanL_at, HX.out]
        exact (hall2.keep hk3 (Btw.mono (Nat.le_refl _) (by omega))).app (VCells.one (IsV.keep hk3 (Btw.mono (Nat.le_refl _) (by omega)) _ hr2))
      have hB4 : Below M w w3 := (hBM.alloc (by omega) _).grown hg3 (by simp; omega) (fun q hq => by cases hq; omega)
      clear hg3 hk3 hall2 hBM hown2 hr2 hB3
      go_wp2_with fail
      go_roundw
      case rel => exact ⟨k + 1, _, hlt, by go_num, rfl, hown3, hall3, hB4, by omega⟩
      case measure => simp [intOf]; omega
    · have hkl : k = l.length := by omega
      subst hkl
      go_wp2_with fail
      go_ret
      rw [HM.out]
      rw [List.take_of_length_le (by rw [cleanL_length]; omega)] at hall
      refine ⟨_, _, rfl, Nat.le_refl _, hB, .inr ⟨M, 0, ⟨by omega, by omega⟩, rfl, ?_⟩⟩
      refine VCells.row (hall.keep (fun _ _ => rfl) (Btw.mono (by omega) (Nat.le_refl _))) (fun j u hu => ?_)
      have := hown.cells (g := M) rfl j u hu
      rwa [Addr.add_lit] at this
end Go.Proofs.Ytbbacpdbbmjblaa
end
section
namespace Go.Proofs.Ytbbacpdbbmjblaa
open Go.RowKit
set_option linter.unusedSimpArgs false
def gMap : GV := .mk 6 0 0 ByteArray.empty [] []
theorem gMap_plain : Plain gMap := ⟨[], [], rfl, by simp [Incr], rfl⟩
theorem cleanM_step : ∀ (ks : List ByteArray) (l : List GV) (acc : GV) (k : Nat) (key : ByteArray) (x : GV), ks[k]? = some key → l[k]? = some x →
    cleanM (ks.take (k + 1)) l acc = withF (cleanM (ks.take k) l acc) key (cleanV x)
  | [], _, _, _, _, _, h, _ => by simp at h
  | _ :: _, [], _, _, _, _, _, h => by simp at h
  | y :: ks, z :: l, acc, 0, key, x, h, h' => by
    simp at h h'; subst h h'
    simp [cleanM]
  | y :: ks, z :: l, acc, k + 1, key, x, h, h' => by
    simp only [List.take_succ_cons, cleanM]
    exact cleanM_step ks l _ k key x (by simpa using h) (by simpa using h')
theorem cleanM_all : ∀ (ks : List ByteArray) (l : List GV) (acc : GV) (k : Nat), ks.length ≤ k ∨ l.length ≤ k → cleanM (ks.take k) l acc = cleanM ks l acc
  | [], _, _, _, _ => by simp
  | _ :: _, [], _, k, _ => by cases k <;> simp [cleanM]
  | y :: ks, z :: l, acc, 0, h => by simp at h
  | y :: ks, z :: l, acc, k + 1, h => by
    simp only [List.take_succ_cons, cleanM]
    exact cleanM_all ks l _ k (by simpa using h)
theorem cleanM_plain : ∀ (ks : List ByteArray) (l : List GV) (acc : GV), Plain acc → Plain (cleanM ks l acc) ∧ (cleanM ks l acc).l.length ≤ acc.l.length + ks.length
  | [], _, acc, h => by simpa [cleanM] using h
  | _ :: _, [], acc, h => by simpa [cleanM] using h
  | y :: ks, z :: l, acc, h => by
    simp only [cleanM]
    have h1 := withF_plain h y (cleanV z)
    have h2 := withF_len h y (cleanV z)
    have h3 := cleanM_plain ks l _ h1
    exact ⟨h3.1, by simp only [List.length_cons]; omega⟩
set_option maxHeartbeats 1000000 in
set_option maxRecDepth 100000 in
theorem cleanMap_any (x : GV) (ih : ∀ y ∈ x.l, CleanC y) (w : World) (v : Value) (hv : IsV w (Btw 0 w.heap.size) x v) :
    Calls Try.prog 56 #[v] w fun e w' => ∃ r, e = .returned r ∧ Below w.heap.size w w' ∧ IsV w' (Btw w.heap.size w'.heap.size) (cleanM x.keys x.l gMap) r := by
  obtain ⟨kd, n, f, s, ks, l⟩ := x
  unfold IsV at hv
  obtain ⟨vk, a, c, rfl, _, _, _, _, ⟨ak, ck, rfl, _, hkl, hkz, hkc⟩, _, h6, h7⟩ := hv
  show Calls Try.prog 56 _ w fun e w' => ∃ r, e = .returned r ∧ Below w.heap.size w w' ∧ IsV w' (Btw w.heap.size w'.heap.size) (cleanM ks l gMap) r
  go_enter Try.func56, Try.ntmps56
  go_wp2_with fail
  have b0 := blk_alloc (blk_alloc (new_block (w := w) (b := w.heap.size) (o := (.cells #[.int .i64 kd, .int .i64 n, .float .f64 f, .string s, .slice ak ks.length ck, .slice a l.length c] 43) ) rfl) (.cells #[.int .i64 0, .int .i64 0, .float .f64 0, .string ⟨#[]⟩, .slice none 0 0, .slice none 0 0] 43)) (.cells #[.int .i64 6, .int .i64 0, .float .f64 0, .string ⟨#[]⟩, .slice none 0 0, .slice none 0 0] 43)
  have bR := blk_alloc (new_block (w := w.alloc (.cells #[.int .i64 kd, .int .i64 n, .float .f64 f, .string s, .slice ak ks.length ck, .slice a l.length c] 43) ) (b := w.heap.size + 1) (o := (.cells #[.int .i64 0, .int .i64 0, .float .f64 0, .string ⟨#[]⟩, .slice none 0 0, .slice none 0 0] 43)) (by simp)) (.cells #[.int .i64 6, .int .i64 0, .float .f64 0, .string ⟨#[]⟩, .slice none 0 0, .slice none 0 0] 43)
  have bO := new_block (w := (w.alloc (.cells #[.int .i64 kd, .int .i64 n, .float .f64 f, .string s, .slice ak ks.length ck, .slice a l.length c] 43) ).alloc (.cells #[.int .i64 0, .int .i64 0, .float .f64 0, .string ⟨#[]⟩, .slice none 0 0, .slice none 0 0] 43)) (b := w.heap.size + 2) (o := (.cells #[.int .i64 6, .int .i64 0, .float .f64 0, .string ⟨#[]⟩, .slice none 0 0, .slice none 0 0] 43)) (by simp)
  have hB0 := (((Below.refl w.heap.size w).alloc (Nat.le_refl _) (.cells #[.int .i64 kd, .int .i64 n, .float .f64 f, .string s, .slice ak ks.length ck, .slice a l.length c] 43) ).alloc (by simp) (.cells #[.int .i64 0, .int .i64 0, .float .f64 0, .string ⟨#[]⟩, .slice none 0 0, .slice none 0 0] 43)).alloc (by simp; omega) (.cells #[.int .i64 6, .int .i64 0, .float .f64 0, .string ⟨#[]⟩, .slice none 0 0, .slice none 0 0] 43)
  have hs0 : (((w.alloc (.cells #[.int .i64 kd, .int .i64 n, .float .f64 f, .string s, .slice ak ks.length ck, .slice a l.length c] 43) ).alloc (.cells #[.int .i64 0, .int .i64 0, .float .f64 0, .string ⟨#[]⟩, .slice none 0 0, .slice none 0 0] 43)).alloc (.cells #[.int .i64 6, .int .i64 0, .float .f64 0, .string ⟨#[]⟩, .slice none 0 0, .slice none 0 0] 43)).heap.size = w.heap.size + 3 := by simp
  generalize ((w.alloc (.cells #[.int .i64 kd, .int .i64 n, .float .f64 f, .string s, .slice ak ks.length ck, .slice a l.length c] 43) ).alloc (.cells #[.int .i64 0, .int .i64 0, .float .f64 0, .string ⟨#[]⟩, .slice none 0 0, .slice none 0 0] 43)).alloc (.cells #[.int .i64 6, .int .i64 0, .float .f64 0, .string ⟨#[]⟩, .slice none 0 0, .slice none 0 0] 43) = w0 at *
  generalize hM : w.heap.size = M at *
  have HM := Lib.hid hM; clear hM
  go_loopw [4] (fun i wr => ∃ k kv lv, k ≤ ks.length ∧ i = .int .i64 (k : Nat) ∧ wr.heap[M + 2]? = some (.cells #[.int .i64 6, .int .i64 0, .float .f64 0, .string ⟨#[]⟩, kv, lv] 43 (0, 0)) ∧
      IsV wr (Btw (M + 3) wr.heap.size) (cleanM (ks.take k) l gMap) (.agg #[.int .i64 6, .int .i64 0, .float .f64 0, .string ⟨#[]⟩, kv, lv]) ∧ k ≤ l.length ∧ Below (M + 2) w0 wr)
    (fun i _ => ks.length - (intOf i).toNat)
  case atStart =>
    refine ⟨0, .slice none 0 0, .slice none 0 0, Nat.zero_le _, rfl, bO, ?_, Nat.zero_le _, Below.refl _ _⟩
    simp only [List.take_zero, cleanM]
    exact IsV.mk_ (by decide) (by decide) (by decide) (by decide) ⟨none, 0, rfl, Nat.le_refl _, by decide, by simp, fun h => by simp at h⟩ (by decide) ⟨none, 0, rfl, Nat.le_refl _, .inl rfl⟩
  case round =>
    obtain ⟨k, kv, lv, hk, rfl, hout, hacc, hkl', hB⟩ := hrel
    have hw4 : wr.cell? ⟨M, 4, none⟩ = some (.slice ak ks.length ck) := blk_c (blk_under b0 hB (by omega)) 4 rfl
    have hw5 : wr.cell? ⟨M, 5, none⟩ = some (.slice a l.length c) := blk_c (blk_under b0 hB (by omega)) 5 rfl
    have hsz : M + 3 ≤ wr.heap.size := by have := blk_lt hout; omega
    have hBw : Below M w wr := hB0.trans (hB.mono (by omega))
    by_cases hlt : k < ks.length ∧ k < l.length
    · obtain ⟨hlt1, hlt2⟩ := hlt
      obtain ⟨b1, o1, hb1, rfl, hkeys⟩ := hkc (by omega)
      obtain ⟨key, hkey⟩ : ∃ key, ks[k]? = some key := ⟨ks[k], by simp [hlt1]⟩
      have hck : wr.cell? ⟨b1, o1 + k, none⟩ = some (.string key) := by
        rw [hBw.cell (by exact hb1.2), hkeys k hlt1]; simp [List.getD, hkey]
      have hksz : key.size ≤ maxLen := hkz key (List.mem_of_getElem? hkey)
      obtain ⟨b, o, hb, rfl, hcells⟩ : ∃ b o, Btw 0 M b ∧ a = some ⟨b, o, none⟩ ∧ IsVs w (Btw 0 M) l b o := by
        rcases h7 with rfl | h7
        · simp at hlt2
        · exact h7
      obtain ⟨x, hx⟩ : ∃ x, l[k]? = some x := ⟨l[k], by simp [hlt2]⟩
      obtain ⟨a0, d0, a1, d1, g0, g1, g2, g3, g4, g5, hxv⟩ := (IsVs.keep (S' := Btw 0 wr.heap.size) (Btw.kept hBw) (Btw.mono (Nat.le_refl _) (by omega)) l b o hb hcells).cells hx
      have hc := ih x (List.mem_of_getElem? hx)
      have HK := Lib.hid hkey
      have HX := Lib.hid hx
      clear hx h7 hcells hkeys hkc hkey
      obtain ⟨-, -, -, -, ka, kd0, la, ld0, rfl, rfl⟩ := hacc.slices
      have hpl := cleanM_plain (ks.take k) l gMap gMap_plain
      have hal : (cleanM (ks.take k) l gMap).l.length ≤ k := by
        have h0 : gMap.l.length = 0 := rfl
        have h1 := hpl.2
        have h3 := List.length_take_le k ks
        omega
      generalize hacv : cleanM (ks.take k) l gMap = acc at *
      have HAC := Lib.hid hacv
      clear hacv
      have hpl1 := hpl.1
      obtain ⟨hpi, hpe⟩ : Incr acc.keys ∧ acc.keys.length = acc.l.length := by obtain ⟨q1, q2, rfl, q3, q4⟩ := hpl1; exact ⟨q3, q4⟩
      have HPE := Lib.hid hpe
      have HPL := Lib.hid hpl1
      clear hpl hpe hpl1
      have o0 : wr.cell? ⟨M + 2, 0, none⟩ = some (.int .i64 6) := blk_c hout 0 rfl
      have o1' : wr.cell? ⟨M + 2, 1, none⟩ = some (.int .i64 0) := blk_c hout 1 rfl
      have o2 : wr.cell? ⟨M + 2, 2, none⟩ = some (.float .f64 0) := blk_c hout 2 rfl
      have o3 : wr.cell? ⟨M + 2, 3, none⟩ = some (.string ⟨#[]⟩) := blk_c hout 3 rfl
      have o4 : wr.cell? ⟨M + 2, 4, none⟩ = some (.slice ka acc.keys.length kd0) := blk_c hout 4 rfl
      have o5 : wr.cell? ⟨M + 2, 5, none⟩ = some (.slice la acc.l.length ld0) := blk_c hout 5 rfl
      have i0 : (0 : Int) ≤ (k : Int) := by omega
      have i1 : (k : Int) < (ks.length : Int) := by omega
      have i2 : (k : Int) < (l.length : Int) := by omega
      have hxvd := hxv.drew_
      clear hxv
      go_wp2_with fail
      refine wp_region_K (fun w' => w'.cell? ⟨M + 2, 0, none⟩ = some (.int .i64 6) ∧ w'.cell? ⟨M + 2, 1, none⟩ = some (.int .i64 0) ∧ w'.cell? ⟨M + 2, 2, none⟩ = some (.float .f64 0) ∧ w'.cell? ⟨M + 2, 3, none⟩ = some (.string ⟨#[]⟩) ∧ w'.cell? ⟨M + 2, 4, none⟩ = some (.slice ka acc.keys.length kd0) ∧ w'.cell? ⟨M + 2, 5, none⟩ = some (.slice la acc.l.length ld0) ∧ w'.cell? ⟨M, 4, none⟩ = some (.slice (some ⟨b1, o1, none⟩) ks.length ck) ∧ w'.cell? ⟨M, 5, none⟩ = some (.slice (some ⟨b, o, none⟩) l.length c) ∧ w'.cell? ⟨b1, o1 + k, none⟩ = some (.string key) ∧ w'.cell? ⟨b, o + k * 6, none⟩ = some (.int .i64 x.kind) ∧ w'.cell? ⟨b, o + k * 6 + 1, none⟩ = some (.int .i64 x.n) ∧ w'.cell? ⟨b, o + k * 6 + 2, none⟩ = some (.float .f64 x.f) ∧ w'.cell? ⟨b, o + k * 6 + 3, none⟩ = some (.string x.s) ∧ w'.cell? ⟨b, o + k * 6 + 4, none⟩ = some (.slice a0 x.keys.length d0) ∧ w'.cell? ⟨b, o + k * 6 + 5, none⟩ = some (.slice a1 x.l.length d1)) [0, 1, 2, 3, 4, 5, 6, 7, 8, 9, 10] (by kernel_rfl) ?_ (fun hHeld => ?_)
      · exact ⟨o0, o1', o2, o3, o4, o5, hw4, hw5, hck, g0, g1, g2, g3, g4, g5⟩
      refine wpK_take (i := 0) (v := ?_) rfl (by kernel_rfl) (by kernel_rfl) (by kernel_rfl) (by kernel_rfl) (.inl ⟨by rfl, ?_⟩) hHeld ?_
      rotate_left
      · (intro w hSw; (try dsimp only at hSw); go_split_ands; go_simp; (try with_reducible rfl))
      try simp only [Act.put, List.setIfInBounds_toArray, List.set_cons_zero, List.set_cons_succ]
      refine wpK_take (i := 1) (v := ?_) rfl (by kernel_rfl) (by kernel_rfl) (by kernel_rfl) (by kernel_rfl) (.inl ⟨by rfl, ?_⟩) hHeld ?_
      rotate_left
      · (intro w hSw; (try dsimp only at hSw); go_split_ands; go_simp; (try with_reducible rfl))
      try simp only [Act.put, List.setIfInBounds_toArray, List.set_cons_zero, List.set_cons_succ]
      refine wpK_take (i := 2) (v := ?_) rfl (by kernel_rfl) (by kernel_rfl) (by kernel_rfl) (by kernel_rfl) (.inl ⟨by rfl, ?_⟩) hHeld ?_
      rotate_left
      · (intro w hSw; (try dsimp only at hSw); go_split_ands; go_simp; (try with_reducible rfl))
      try simp only [Act.put, List.setIfInBounds_toArray, List.set_cons_zero, List.set_cons_succ]
      refine wpK_take (i := 3) (v := ?_) rfl (by kernel_rfl) (by kernel_rfl) (by kernel_rfl) (by kernel_rfl) (.inl ⟨by rfl, ?_⟩) hHeld ?_
      rotate_left
      · (intro w hSw; (try dsimp only at hSw); go_split_ands; go_simp; (try with_reducible rfl))
      try simp only [Act.put, List.setIfInBounds_toArray, List.set_cons_zero, List.set_cons_succ]
      refine wpK_take (i := 4) (v := ?_) rfl (by kernel_rfl) (by kernel_rfl) (by kernel_rfl) (by kernel_rfl) (.inl ⟨by rfl, ?_⟩) hHeld ?_
      rotate_left
      · (intro w hSw; (try dsimp only at hSw); go_split_ands; go_simp; (try with_reducible rfl))
      try simp only [Act.put, List.setIfInBounds_toArray, List.set_cons_zero, List.set_cons_succ]
      refine wpK_take (i := 5) (v := ?_) rfl (by kernel_rfl) (by kernel_rfl) (by kernel_rfl) (by kernel_rfl) (.inl ⟨by rfl, ?_⟩) hHeld ?_
      rotate_left
      · (intro w hSw; (try dsimp only at hSw); go_split_ands; go_simp; (try with_reducible rfl))
      try simp only [Act.put, List.setIfInBounds_toArray, List.set_cons_zero, List.set_cons_succ]
      refine wpK_take (i := 6) (v := ?_) rfl (by kernel_rfl) (by kernel_rfl) (by kernel_rfl) (by kernel_rfl) (.inl ⟨by rfl, ?_⟩) hHeld ?_
      rotate_left
      · (intro w hSw; (try dsimp only at hSw); go_split_ands; go_simp; (try with_reducible rfl))
      try simp only [Act.put, List.setIfInBounds_toArray, List.set_cons_zero, List.set_cons_succ]
      refine wpK_take (i := 7) (v := ?_) rfl (by kernel_rfl) (by kernel_rfl) (by kernel_rfl) (by kernel_rfl) (.inl ⟨by rfl, ?_⟩) hHeld ?_
      rotate_left
      · (intro w hSw; (try dsimp only at hSw); go_split_ands; go_simp; (try with_reducible rfl))
      try simp only [Act.put, List.setIfInBounds_toArray, List.set_cons_zero, List.set_cons_succ]
      refine wpK_take (i := 8) (v := ?_) rfl (by kernel_rfl) (by kernel_rfl) (by kernel_rfl) (by kernel_rfl) (.inl ⟨by rfl, ?_⟩) hHeld ?_
      rotate_left
      · (intro w hSw; (try dsimp only at hSw); go_split_ands; go_simp; (try with_reducible rfl))
      try simp only [Act.put, List.setIfInBounds_toArray, List.set_cons_zero, List.set_cons_succ]
      refine wpK_take (i := 9) (v := ?_) rfl (by kernel_rfl) (by kernel_rfl) (by kernel_rfl) (by kernel_rfl) (.inl ⟨by rfl, ?_⟩) hHeld ?_
      rotate_left
      · (intro w hSw; (try dsimp only at hSw); go_split_ands; go_simp; (try with_reducible rfl))
      try simp only [Act.put, List.setIfInBounds_toArray, List.set_cons_zero, List.set_cons_succ]
      refine wpK_take (i := 10) (v := ?_) rfl (by kernel_rfl) (by kernel_rfl) (by kernel_rfl) (by kernel_rfl) (.inl ⟨by rfl, ?_⟩) hHeld ?_
      rotate_left
      · (intro w hSw; (try dsimp only at hSw); go_split_ands; go_simp; (try with_reducible rfl))
      try simp only [Act.put, List.setIfInBounds_toArray, List.set_cons_zero, List.set_cons_succ]
      refine wpK_one (i := 11) (by kernel_rfl) rfl (fun K hK => ?_)
      go_simp
      (with_reducible refine (hc.use _ _ hxvd).mono ?_)
      rintro e w2 ⟨r, rfl, hB2, hr⟩
      refine hK.out _ _ ?_ (fun hHeld => ?_)
      · exact ⟨cell_below hB2 hHeld.1, cell_below hB2 hHeld.2.1, cell_below hB2 hHeld.2.2.1, cell_below hB2 hHeld.2.2.2.1, cell_below hB2 hHeld.2.2.2.2.1, cell_below hB2 hHeld.2.2.2.2.2.1, cell_below hB2 hHeld.2.2.2.2.2.2.1, cell_below hB2 hHeld.2.2.2.2.2.2.2.1, cell_below hB2 hHeld.2.2.2.2.2.2.2.2.1, cell_below hB2 hHeld.2.2.2.2.2.2.2.2.2.1, cell_below hB2 hHeld.2.2.2.2.2.2.2.2.2.2.1, cell_below hB2 hHeld.2.2.2.2.2.2.2.2.2.2.2.1, cell_below hB2 hHeld.2.2.2.2.2.2.2.2.2.2.2.2.1, cell_below hB2 hHeld.2.2.2.2.2.2.2.2.2.2.2.2.2.1, cell_below hB2 hHeld.2.2.2.2.2.2.2.2.2.2.2.2.2.2⟩
      clear hK K
      try simp only [Act.put, List.setIfInBounds_toArray, List.set_cons_zero, List.set_cons_succ]
      refine wpK_one (i := 12) (by kernel_rfl) rfl (fun K hK => ?_)
      have hacc2 := hacc.drew_.below_ hB2
      have hr2 := hr.lo_ (lo' := M + 3) (by show M + 3 ≤ wr.heap.size; omega)
      go_simp
      (with_reducible refine (with_any acc key (cleanV x) (M + 3) _ _ _ ?_ hacc2 hr2 hpi HPE.out hksz ?_).mono ?_)
      · have := hB2.size
        have e : wr.drew.heap.size = wr.heap.size := rfl
        omega
      · omega
      rintro e w3 ⟨r3, rfl, hB3, hr3⟩
      refine hK.out _ _ ?_ (fun hHeld => ?_)
      · exact ⟨cell_below hB3 hHeld.1, cell_below hB3 hHeld.2.1, cell_below hB3 hHeld.2.2.1, cell_below hB3 hHeld.2.2.2.1, cell_below hB3 hHeld.2.2.2.2.1, cell_below hB3 hHeld.2.2.2.2.2.1, cell_below hB3 hHeld.2.2.2.2.2.2.1, cell_below hB3 hHeld.2.2.2.2.2.2.2.1, cell_below hB3 hHeld.2.2.2.2.2.2.2.2.1, cell_below hB3 hHeld.2.2.2.2.2.2.2.2.2.1, cell_below hB3 hHeld.2.2.2.2.2.2.2.2.2.2.1, cell_below hB3 hHeld.2.2.2.2.2.2.2.2.2.2.2.1, cell_below hB3 hHeld.2.2.2.2.2.2.2.2.2.2.2.2.1, cell_below hB3 hHeld.2.2.2.2.2.2.2.2.2.2.2.2.2.1, cell_below hB3 hHeld.2.2.2.2.2.2.2.2.2.2.2.2.2.2⟩
      clear hK K
      try simp only [Act.put, List.setIfInBounds_toArray, List.set_cons_zero, List.set_cons_succ]
      refine wpK_last (i := 13) (by kernel_rfl) (by kernel_rfl) rfl (fun K hK => ?_)
      have hout3 := blk_below (blk_below (w := wr.drew) hout hB2) hB3
      have q0 := blk_c hout3 0 (u := .int .i64 6) rfl
      have q1 := blk_c hout3 1 (u := .int .i64 0) rfl
      have q2 := blk_c hout3 2 (u := .float .f64 0) rfl
      have q3 := blk_c hout3 3 (u := .string ⟨#[]⟩) rfl
      have q4 := blk_c hout3 4 (u := .slice ka acc.keys.length kd0) rfl
      have q5 := blk_c hout3 5 (u := .slice la acc.l.length ld0) rfl
      have f0 := blk_frozen hout3 0
      have f1 := blk_frozen hout3 1
      have f2 := blk_frozen hout3 2
      have f3 := blk_frozen hout3 3
      have f4 := blk_frozen hout3 4
      have f5 := blk_frozen hout3 5
      obtain ⟨na, nd, ma, md, rfl⟩ := hr3.form
      go_simp
      refine hK.out _ _ ?_
      clear hK K
      try simp only [Act.put, List.setIfInBounds_toArray, List.set_cons_zero, List.set_cons_succ]
      refine wpK_done (by kernel_rfl) ?_ _
      have hout3 := blk_below (blk_below (w := wr.drew) hout hB2) hB3
      have hF1 : (st6 w3 (M + 2) (.int .i64 6) (.int .i64 0) (.float .f64 0) (.string ByteArray.empty) (.slice na (withF acc key (cleanV x)).keys.length nd) (.slice ma (withF acc key (cleanV x)).l.length md)).heap[M + 2]? = some (.cells #[.int .i64 6, .int .i64 0, .float .f64 0, .string ⟨#[]⟩, .slice na (withF acc key (cleanV x)).keys.length nd, .slice ma (withF acc key (cleanV x)).l.length md] 43 (0, 0)) := st6_blk hout3
      have hF2 : IsV (st6 w3 (M + 2) (.int .i64 6) (.int .i64 0) (.float .f64 0) (.string ByteArray.empty) (.slice na (withF acc key (cleanV x)).keys.length nd) (.slice ma (withF acc key (cleanV x)).l.length md)) (Btw (M + 3) (st6 w3 (M + 2) (.int .i64 6) (.int .i64 0) (.float .f64 0) (.string ByteArray.empty) (.slice na (withF acc key (cleanV x)).keys.length nd) (.slice ma (withF acc key (cleanV x)).l.length md)).heap.size) (cleanM (ks.take (k + 1)) l gMap) (.agg #[.int .i64 6, .int .i64 0, .float .f64 0, .string ⟨#[]⟩, .slice na (withF acc key (cleanV x)).keys.length nd, .slice ma (withF acc key (cleanV x)).l.length md]) := by
        rw [cleanM_step ks l gMap k key x HK.out HX.out, HAC.out, st6_size]
        exact IsV.keep (fun b hb => st6_eq (by have := hb.1; omega)) (fun _ h => h) _ hr3
      have s2 := hB2.size
      have s3 := hB3.size
      have e0 : wr.drew.heap.size = wr.heap.size := rfl
      have hF3 : Below (M + 2) w0 (st6 w3 (M + 2) (.int .i64 6) (.int .i64 0) (.float .f64 0) (.string ByteArray.empty) (.slice na (withF acc key (cleanV x)).keys.length nd) (.slice ma (withF acc key (cleanV x)).l.length md)) := st6_below ((hB.drew.trans (hB2.mono (by omega))).trans (hB3.mono (by omega))) (Nat.le_refl _)
      change Exit.inBlock 1 _ Exit.normal _ (st6 w3 (M + 2) (.int .i64 6) (.int .i64 0) (.float .f64 0) (.string ByteArray.empty) (.slice na (withF acc key (cleanV x)).keys.length nd) (.slice ma (withF acc key (cleanV x)).l.length md))
      generalize st6 w3 (M + 2) (.int .i64 6) (.int .i64 0) (.float .f64 0) (.string ByteArray.empty) (.slice na (withF acc key (cleanV x)).keys.length nd) (.slice ma (withF acc key (cleanV x)).l.length md) = wF at *
      clear hout3 hB2 hB3 hr3 s2 s3 e0 hacc hB hr hout o0 o1' o2 o3 o4 o5 g0 g1 g2 g3 g4 g5 hck hw4 hw5
      go_wp2_with fail
      go_roundw
      case rel => exact ⟨k + 1, _, _, hlt1, by go_num, hF1, hF2, hlt2, hF3⟩
      case measure => simp [intOf]; omega
    · have hall : cleanM (ks.take k) l gMap = cleanM ks l gMap := cleanM_all _ _ _ _ (by omega)
      rw [hall] at hacc
      clear hall
      generalize hacv : cleanM ks l gMap = acc at *
      have HAC := Lib.hid hacv
      clear hacv h7 hkc hkz ih
      have hR := blk_under bR hB (by omega)
      obtain ⟨-, -, -, -, ka, kd0, la, ld0, rfl, rfl⟩ := hacc.slices
      have o0 : wr.cell? ⟨M + 2, 0, none⟩ = some (.int .i64 6) := blk_c hout 0 rfl
      have o1 : wr.cell? ⟨M + 2, 1, none⟩ = some (.int .i64 0) := blk_c hout 1 rfl
      have o2 : wr.cell? ⟨M + 2, 2, none⟩ = some (.float .f64 0) := blk_c hout 2 rfl
      have o3 : wr.cell? ⟨M + 2, 3, none⟩ = some (.string ⟨#[]⟩) := blk_c hout 3 rfl
      have o4 : wr.cell? ⟨M + 2, 4, none⟩ = some (.slice ka acc.keys.length kd0) := blk_c hout 4 rfl
      have o5 : wr.cell? ⟨M + 2, 5, none⟩ = some (.slice la acc.l.length ld0) := blk_c hout 5 rfl
      have q0 : wr.cell? ⟨M + 1, 0, none⟩ = some (.int .i64 0) := blk_c hR 0 rfl
      have q1 : wr.cell? ⟨M + 1, 1, none⟩ = some (.int .i64 0) := blk_c hR 1 rfl
      have q2 : wr.cell? ⟨M + 1, 2, none⟩ = some (.float .f64 0) := blk_c hR 2 rfl
      have q3 : wr.cell? ⟨M + 1, 3, none⟩ = some (.string ⟨#[]⟩) := blk_c hR 3 rfl
      have q4 : wr.cell? ⟨M + 1, 4, none⟩ = some (.slice none 0 0) := blk_c hR 4 rfl
      have q5 : wr.cell? ⟨M + 1, 5, none⟩ = some (.slice none 0 0) := blk_c hR 5 rfl
      have f0 := blk_frozen hR 0
      have f1 := blk_frozen hR 1
      have f2 := blk_frozen hR 2
      have f3 := blk_frozen hR 3
      have f4 := blk_frozen hR 4
      have f5 := blk_frozen hR 5
      have hor : (k < ks.length ∧ l.length ≤ k) ∨ ks.length ≤ k := by omega
      clear hlt hkl' hkl h6 hs0 bO bR b0 hB0 hB hout
      rcases hor with ⟨hk1, hk2⟩ | hk1
      all_goals
        go_wp2_with fail
        have hblk := st6_blk (c0 := .int .i64 6) (c1 := .int .i64 0) (c2 := .float .f64 0) (c3 := .string ⟨#[]⟩) (c4 := .slice ka acc.keys.length kd0) (c5 := .slice la acc.l.length ld0) hR
        have hfin : IsV (st6 wr (M + 1) (.int .i64 6) (.int .i64 0) (.float .f64 0) (.string ⟨#[]⟩) (.slice ka acc.keys.length kd0) (.slice la acc.l.length ld0)) (Btw M (st6 wr (M + 1) (.int .i64 6) (.int .i64 0) (.float .f64 0) (.string ⟨#[]⟩) (.slice ka acc.keys.length kd0) (.slice la acc.l.length ld0)).heap.size) acc (.agg #[.int .i64 6, .int .i64 0, .float .f64 0, .string ⟨#[]⟩, .slice ka acc.keys.length kd0, .slice la acc.l.length ld0]) := by
          rw [st6_size]
          exact IsV.keep (fun b hb => st6_eq (by have := hb.1; omega)) (Btw.mono (by omega) (Nat.le_refl _)) _ hacc
        have hBf0 : Below M w (st6 wr (M + 1) (.int .i64 6) (.int .i64 0) (.float .f64 0) (.string ⟨#[]⟩) (.slice ka acc.keys.length kd0) (.slice la acc.l.length ld0)) := st6_below hBw (by omega)
        have hBf := hBf0
        unfold st6 at hBf
        refine bodyPost_ret (v := .agg #[.int .i64 6, .int .i64 0, .float .f64 0, .string ⟨#[]⟩, .slice ka acc.keys.length kd0, .slice la acc.l.length ld0]) ?_ rfl ?_
        · have e0 := blk_c hblk 0 (u := .int .i64 6) rfl
          have e1 := blk_c hblk 1 (u := .int .i64 0) rfl
          have e2 := blk_c hblk 2 (u := .float .f64 0) rfl
          have e3 := blk_c hblk 3 (u := .string ⟨#[]⟩) rfl
          have e4 := blk_c hblk 4 (u := .slice ka acc.keys.length kd0) rfl
          have e5 := blk_c hblk 5 (u := .slice la acc.l.length ld0) rfl
          unfold st6 at e0 e1 e2 e3 e4 e5
          simp [results, Try.results56, go_sem, e0, e1, e2, e3, e4, e5]
        · rw [HM.out, HAC.out]
          exact ⟨_, rfl, hBf, by have h := hfin; unfold st6 at h; exact h⟩
/-- A plain value without lists. -/
theorem flat_isV {w : World} {S : Nat → Prop} {k n : Int} {f : Nat} {s : ByteArray} (h1 : (Lit.int .i64 k).wf = true) (h2 : (Lit.int .i64 n).wf = true) (h3 : (Lit.float .f64 f).wf = true) (h4 : s.size ≤ maxLen) :
    IsV w S (.mk k n f s [] []) (.agg #[.int .i64 k, .int .i64 n, .float .f64 f, .string s, .slice none 0 0, .slice none 0 0]) :=
  IsV.mk_ h1 h2 h3 h4 ⟨none, 0, rfl, Nat.le_refl _, by decide, by simp, fun h => by simp at h⟩ (by decide) ⟨none, 0, rfl, Nat.le_refl _, .inl rfl⟩
set_option maxHeartbeats 2000000 in
set_option maxRecDepth 100000 in
theorem clean_scalar (k n : Int) (f : Nat) (s : ByteArray) (ks : List ByteArray) (l : List GV) (hk : k ≠ 5) (hk' : k ≠ 6) : CleanC (.mk k n f s ks l) := by
  intro w v hv
  unfold IsV at hv
  obtain ⟨vk, a, c, rfl, _, hn, hf, hs, _, _, _, _⟩ := hv
  have e5 : (k == 5) = false := by simpa using hk
  have e6 : (k == 6) = false := by simpa using hk'
  have hB : ∀ (x0 x1 x2 x3 x4 x5 : Value), Below w.heap.size w ((w.alloc (.cells #[.int .i64 k, .int .i64 n, .float .f64 f, .string s, vk, .slice a l.length c] 43)).alloc (.cells #[x0, x1, x2, x3, x4, x5] 43)) :=
    fun _ _ _ _ _ _ => ((Below.refl _ _).alloc (Nat.le_refl _) _).alloc (by simp) _
  by_cases k1 : k = 1
  · subst k1
    by_cases hn0 : n = 0
    · subst hn0
      go_enter Try.func52, Try.ntmps52
      go_wp2_with fail
      exact bodyPost_ret (v := .agg #[.int .i64 1, .int .i64 0, .float .f64 0, .string ⟨#[]⟩, .slice none 0 0, .slice none 0 0]) (by simp [results, Try.results52, go_sem]) rfl ⟨_, rfl, hB _ _ _ _ _ _, by simp only [cleanV, if_true]; exact flat_isV (by decide) (by decide) (by decide) (by decide)⟩
    · have hn1 : (n != 0) = true := by simpa using hn0
      have HN := Lib.hid hn0
      clear hn0
      go_enter Try.func52, Try.ntmps52
      go_wp2_with fail
      exact bodyPost_ret (v := .agg #[.int .i64 1, .int .i64 1, .float .f64 0, .string ⟨#[]⟩, .slice none 0 0, .slice none 0 0]) (by simp [results, Try.results52, go_sem]) rfl ⟨_, rfl, hB _ _ _ _ _ _, by simp only [cleanV, if_true, if_neg HN.out]; exact flat_isV (by decide) (by decide) (by decide) (by decide)⟩
  have e1 : (k == 1) = false := by simpa using k1
  by_cases k2 : k = 2
  · subst k2
    go_enter Try.func52, Try.ntmps52
    go_wp2_with fail
    exact bodyPost_ret (v := .agg #[.int .i64 2, .int .i64 n, .float .f64 0, .string ⟨#[]⟩, .slice none 0 0, .slice none 0 0]) (by simp [results, Try.results52, go_sem]) rfl ⟨_, rfl, hB _ _ _ _ _ _, by simp only [cleanV]; exact flat_isV (by decide) hn (by decide) (by decide)⟩
  have e2 : (k == 2) = false := by simpa using k2
  by_cases k3 : k = 3
  · subst k3
    go_enter Try.func52, Try.ntmps52
    go_wp2_with fail
    exact bodyPost_ret (v := .agg #[.int .i64 3, .int .i64 0, .float .f64 f, .string ⟨#[]⟩, .slice none 0 0, .slice none 0 0]) (by simp [results, Try.results52, go_sem]) rfl ⟨_, rfl, hB _ _ _ _ _ _, by simp only [cleanV]; exact flat_isV (by decide) (by decide) hf (by decide)⟩
  have e3 : (k == 3) = false := by simpa using k3
  by_cases k4 : k = 4
  · subst k4
    go_enter Try.func52, Try.ntmps52
    go_wp2_with fail
    exact bodyPost_ret (v := .agg #[.int .i64 4, .int .i64 0, .float .f64 0, .string s, .slice none 0 0, .slice none 0 0]) (by simp [results, Try.results52, go_sem]) rfl ⟨_, rfl, hB _ _ _ _ _ _, by simp only [cleanV]; exact flat_isV (by decide) (by decide) (by decide) hs⟩
  have e4 : (k == 4) = false := by simpa using k4
  have hj : cleanV (.mk k n f s ks l) = gNull := by simp [cleanV, k1, k2, k3, k4, hk, hk']
  rw [hj]
  clear hj k1 k2 k3 k4 hk hk'
  go_enter Try.func52, Try.ntmps52
  go_wp2_with fail
  exact bodyPost_ret (v := .agg #[.int .i64 0, .int .i64 0, .float .f64 0, .string ⟨#[]⟩, .slice none 0 0, .slice none 0 0]) (by simp [results, Try.results52, go_sem]) rfl ⟨_, rfl, hB _ _ _ _ _ _, flat_isV (by decide) (by decide) (by decide) (by decide)⟩
end Go.Proofs.Ytbbacpdbbmjblaa
end
section
namespace Go.Proofs.Ytbbacpdbbmjblaa
open Go.RowKit
mutual
/-- The tree of a value. -/
def plainJ : GV → JV
  | .mk k n f s ks l => if k = 1 then .bool (n != 0) else if k = 2 then .int n else if k = 3 then .flt f else if k = 4 then .str s
    else if k = 5 then .list (plainJs l) else if k = 6 then .map (plainM ks l []) else .null
def plainJs : List GV → List JV
  | [] => []
  | x :: r => plainJ x :: plainJs r
def plainM : List ByteArray → List GV → List (ByteArray × JV) → List (ByteArray × JV)
  | k :: ks, x :: r, acc => plainM ks r (putA acc k (plainJ x))
  | _, _, acc => acc
end
theorem plainJs_length : ∀ l, (plainJs l).length = l.length
  | [] => by simp [plainJs]
  | x :: r => by simp [plainJs, plainJs_length r]
theorem plainJs_at : ∀ (l : List GV) (i : Nat), (plainJs l)[i]? = (l[i]?).map plainJ
  | [], i => by simp [plainJs]
  | x :: r, 0 => by simp [plainJs]
  | x :: r, i + 1 => by simp [plainJs, plainJs_at r i]
theorem Try.infoAny : (Try.prog.info? 20).map (fun i => (i.zero, i.size, i.bytes)) = some (some .nilIface, 1, 16) := by kernel_rfl
/-- What plain does at x. -/
def PlainC (x : GV) : Prop := ∀ (w : World) (v : Value), IsV w (Btw 0 w.heap.size) x v →
    Calls Try.prog 80 #[v] w fun e w' => ∃ r, e = .returned r ∧ Below w.heap.size w w' ∧ IsJ w' (Btw w.heap.size w'.heap.size) (plainJ x) r
theorem PlainC.use {x : GV} (h : PlainC x) (w : World) (v : Value) (hv : IsV w (Btw 0 w.heap.size) x v) :
    Calls Try.prog 80 #[v] w fun e w' => ∃ r, e = .returned r ∧ Below w.heap.size w w' ∧ IsJ w' (Btw w.heap.size w'.heap.size) (plainJ x) r := h w v hv
set_option maxRecDepth 100000 in
theorem plain_list (n : Int) (f : Nat) (s : ByteArray) (ks : List ByteArray) (l : List GV) (ih : ∀ x ∈ l, PlainC x) : PlainC (.mk 5 n f s ks l) := by
  intro w v hv
  unfold IsV at hv
  obtain ⟨vk, a, c, rfl, _, _, _, _, _, _, h6, h7⟩ := hv
  obtain ⟨i0, hi, hz0, hz1, hz2⟩ := info_parts Try.infoAny
  go_enter Try.func80, Try.ntmps80
  go_wp2_with (first
      | (at_make; refine wpList_make_own _ rfl _ _ 141 rfl 0 20 i0 .nilIface 1 Try.underlying141 hi hz0 hz1 _ _ _ l.length rfl rfl rfl (by rw [hz2]; omega) (by unfold maxLen; omega) (Nat.zero_le _) ?_))
  intro w1 hown1 hg1
  have hB1 : Below w.heap.size w w1 := ((Below.refl _ _).alloc (Nat.le_refl _) _).grown hg1 (by simp) (fun k hk => by cases hk)
  have hsz1 : w.heap.size + 2 ≤ w1.heap.size := by have := (hown1.lt (w.heap.size + 1) rfl).2; omega
  have hbox : w1.cell? ⟨w.heap.size, 5, none⟩ = some (.slice a l.length c) := hg1.cell (by go_simp) (by simp)
  clear hg1
  generalize hM : w.heap.size = M at *
  have HM := Lib.hid hM; clear hM
  go_wp2_with fail
  go_loopw [3, 38] (fun out i wr => ∃ k vs, k ≤ l.length ∧ i = .int .i64 (k : Nat) ∧ out = .slice (some ⟨M + 1, 0, none⟩) k l.length ∧
      wr.ownsRow 0 20 1 (.slice (some ⟨M + 1, 0, none⟩) k l.length) k vs ∧ AllJ wr (Btw (M + 2) wr.heap.size) ((plainJs l).take k) vs ∧ Below M w wr ∧ M + 2 ≤ wr.heap.size)
    (fun _ i _ => l.length - (intOf i).toNat)
  case atStart => exact ⟨0, [], Nat.zero_le _, rfl, rfl, hown1, by simp [AllJ], hB1, hsz1⟩
  case round =>
    clear hown1 hB1 hsz1 hbox
    obtain ⟨k, vs, hk, rfl, rfl, hown, hall, hB, hsz⟩ := hrel
    by_cases hlt : k < l.length
    · obtain ⟨b, o, hb, rfl, hcells⟩ : ∃ b o, Btw 0 M b ∧ a = some ⟨b, o, none⟩ ∧ IsVs w (Btw 0 M) l b o := by
        rcases h7 with rfl | h7
        · simp at hlt
        · exact h7
      obtain ⟨x, hx⟩ : ∃ x, l[k]? = some x := ⟨l[k], by simp [hlt]⟩
      obtain ⟨a0, d0, a1, d1, g0, g1, g2, g3, g4, g5, hxv⟩ := (IsVs.keep (Btw.kept hB) (Btw.mono (Nat.le_refl _) (Nat.le_refl _)) l b o hb hcells).cells hx
      have hc := ih x (List.mem_of_getElem? hx)
      have HX := Lib.hid hx; clear hx h7 hcells
      have hxv' := IsV.keep (S := Btw 0 M) (S' := Btw 0 (wr.heap.size + 1)) (w' := wr.alloc (.cells #[.int .i64 x.kind, .int .i64 x.n, .float .f64 x.f, .string x.s, .slice a0 x.keys.length d0, .slice a1 x.l.length d1] 43))
        (fun b hb => Below.heap_alloc _ _ _ (by have := hb.2; omega)) (Btw.mono (Nat.le_refl _) (by omega)) x hxv
      go_wp2_with (go_at_call 80; (with_reducible refine (hc.use _ _ (by simpa using hxv')).mono ?_))
      rintro e w2 ⟨r, rfl, hB2, hr⟩
      have hsz2 := hB2.size
      have hcl := hr.cells
      have hB3 : Below wr.heap.size wr w2 := ((Below.refl _ _).alloc (Nat.le_refl _) _).trans (hB2.mono (by simp))
      have hown2 := own_below hown hB3
      have hall2 : AllJ w2 (Btw (M + 2) w2.heap.size) ((plainJs l).take k) vs := hall.keep (Btw.kept hB3) (Btw.mono (Nat.le_refl _) hB3.size)
      have hr2 : IsJ w2 (Btw (M + 2) w2.heap.size) (plainJ x) r := IsJ.keep (fun _ _ => rfl) (Btw.mono (by simp; omega) (Nat.le_refl _)) _ hr
      have hBM : Below M w w2 := hB.trans (hB3.mono (by omega))
      simp at hsz2
      clear hB2 hr hown hall hB g0 g1 g2 g3 g4 g5 hxv hxv' hc
      go_wp2_with (first
        | (with_reducible refine wpList_buildSlice_one rfl _ _ 20 rfl Try.underlying141 i0 hi .nilIface hz0 hz1 r rfl hcl rfl ?_)
        | (at_builtin; refine wpList_append_fits _ rfl _ _ 141 rfl 0 20 i0 1 Try.underlying141 hi hz1 (M + 1) k l.length vs rfl (hown2.alloc _) ⟨w2.heap.size, 0, none⟩ 1 1 [r] rfl rfl ?c1 ?c2 (by omega) ?_))
      case c1 => exact cell_one_new _ _ _
      case c2 => intro u hu; simp at hu; subst hu; exact hr2.oneCell
      intro w3 hown3 hg3
      have hs3 : w2.heap.size + 1 ≤ w3.heap.size := by have := hg3.size; simp at this; exact this
      have hk3 : ∀ b, Btw (M + 2) w2.heap.size b → w3.heap[b]? = w2.heap[b]? := fun b hb => by
        have h1 := hb.1; have h2 := hb.2
        exact (hg3.block b (by simp; omega) (by simp; omega)).trans (Below.heap_alloc _ _ _ h2)
      have hall3 : AllJ w3 (Btw (M + 2) w3.heap.size) ((plainJs l).take (k + 1)) (vs ++ [r]) := by
        rw [List.take_add_one, plainJs_at, HX.out]
        exact AllJ.snoc (IsJ.keep hk3 (Btw.mono (Nat.le_refl _) (by omega)) _ hr2) (hall2.keep hk3 (Btw.mono (Nat.le_refl _) (by omega)))
      have hB4 : Below M w w3 := (hBM.alloc (by omega) _).grown hg3 (by simp; omega) (fun q hq => by cases hq; omega)
      clear hg3 hk3 hall2 hBM hown2 hr2 hB3 hcl
      go_wp2_with fail
      go_roundw
      case rel => exact ⟨k + 1, vs ++ [r], hlt, by go_num, rfl, hown3, hall3, hB4, by omega⟩
      case measure => simp [intOf]; omega
    · have hkl : k = l.length := by omega
      subst hkl
      go_wp2_with fail
      go_ret
      rw [HM.out]
      refine ⟨_, rfl, hB, ?_⟩
      rw [List.take_of_length_le (by rw [plainJs_length]; omega)] at hall
      have hj : plainJ (.mk 5 n f s ks l) = .list (plainJs l) := by simp [plainJ]
      rw [hj]
      unfold IsJ
      refine ⟨some ⟨M + 1, 0, none⟩, l.length, by rw [plainJs_length]; rfl, by rw [plainJs_length]; omega, .inr ⟨M + 1, 0, ⟨by omega, by omega⟩, rfl, ?_⟩⟩
      refine AllJ.row (hall.keep (fun _ _ => rfl) (Btw.mono (by omega) (Nat.le_refl _))) (fun j u hu => ?_)
      have := hown.cells (g := M + 1) rfl j u hu
      rwa [Addr.add_lit] at this
theorem plainM_step : ∀ (ks : List ByteArray) (l : List GV) (acc : List (ByteArray × JV)) (k : Nat) (key : ByteArray) (x : GV), ks[k]? = some key → l[k]? = some x →
    plainM (ks.take (k + 1)) l acc = putA (plainM (ks.take k) l acc) key (plainJ x)
  | [], _, _, _, _, _, h, _ => by simp at h
  | _ :: _, [], _, _, _, _, _, h => by simp at h
  | y :: ks, z :: l, acc, 0, key, x, h, h' => by
    simp at h h'; subst h h'
    simp [plainM]
  | y :: ks, z :: l, acc, k + 1, key, x, h, h' => by
    simp only [List.take_succ_cons, plainM]
    exact plainM_step ks l _ k key x (by simpa using h) (by simpa using h')
theorem plainM_over : ∀ (ks : List ByteArray) (l : List GV) (acc : List (ByteArray × JV)) (k : Nat), l.length ≤ k → plainM (ks.take (k + 1)) l acc = plainM (ks.take k) l acc
  | [], _, _, _, _ => by simp
  | _ :: _, [], _, k, _ => by cases k <;> simp [plainM]
  | y :: ks, z :: l, acc, 0, h => by simp at h
  | y :: ks, z :: l, acc, k + 1, h => by
    simp only [List.take_succ_cons, plainM]
    exact plainM_over ks l _ k (by simpa using h)
theorem plainM_length : ∀ (ks : List ByteArray) (l : List GV) (acc : List (ByteArray × JV)), (plainM ks l acc).length ≤ acc.length + ks.length
  | [], _, _ => by simp [plainM]
  | _ :: _, [], _ => by simp [plainM]
  | y :: ks, z :: l, acc => by
    simp only [plainM]
    have h1 := plainM_length ks l (putA acc y (plainJ z))
    have h2 := putA_length acc y (plainJ z)
    simp only [List.length_cons]; omega
/-- Block b is a map from strings whose fields are m. -/
def IsM (w : World) (S : Nat → Prop) (m : List (ByteArray × JV)) (b : Nat) : Prop :=
  ∃ es cl, w.heap[b]? = some (.map es cl) ∧ MapKept.Stamped es cl ∧ IsEs w S m es.toList
/-- What plainMap does at x. -/
def PlainMC (x : GV) : Prop := ∀ (w : World) (v : Value), IsV w (Btw 0 w.heap.size) x v →
    Calls Try.prog 61 #[v] w fun e w' => ∃ b, e = .returned (.map (some b)) ∧ Below w.heap.size w w' ∧ Btw w.heap.size w'.heap.size b ∧
      IsM w' (Btw w.heap.size w'.heap.size) (plainM x.keys x.l []) b
set_option maxRecDepth 100000 in
theorem plainMap_any (x : GV) (ih : ∀ y ∈ x.l, PlainC y) : PlainMC x := by
  intro w v hv
  obtain ⟨kd, n, f, s, ks, l⟩ := x
  unfold IsV at hv
  obtain ⟨vk, a, c, rfl, _, _, _, _, ⟨ak, ck, rfl, _, hkl, hkz, hkc⟩, _, h6, h7⟩ := hv
  have hmm := @run_makeMap Try.prog
  go_enter Try.func61, Try.ntmps61
  go_wp2_with fail
  go_loopw [10] (fun i wr => ∃ k, k ≤ ks.length ∧ i = .int .i64 (k : Nat) ∧ IsM wr (fun b => Btw (w.heap.size + 2) wr.heap.size b) (plainM (ks.take k) l []) (w.heap.size + 1) ∧
      wr.cell? ⟨w.heap.size, 5, none⟩ = some (.slice a l.length c) ∧ Below w.heap.size w wr ∧ w.heap.size + 2 ≤ wr.heap.size)
    (fun i _ => ks.length - (intOf i).toNat)
  case atStart =>
    refine ⟨0, Nat.zero_le _, rfl, ⟨#[], 0, ?_, MapKept.stamped_empty _, ?_⟩, by go_simp, ((Below.refl _ _).alloc (Nat.le_refl _) _).alloc (by simp) _, by simp⟩
    · exact new_block (by simp)
    · simp [plainM, IsEs]
  case round =>
    obtain ⟨k, hk, rfl, ⟨es, cl, hes, hst, hm⟩, hbox, hB, hsz⟩ := hrel
    by_cases hlt : k < ks.length
    · obtain ⟨b0, o0, hb0, rfl, hkeys⟩ := hkc (by omega)
      have hck : wr.cell? ⟨b0, o0 + k, none⟩ = some (.string (ks.getD k ByteArray.empty)) := (hB.cell (by exact hb0.2)).trans (hkeys k hlt)
      obtain ⟨key, hkey⟩ : ∃ key, ks[k]? = some key := ⟨ks[k], by simp [hlt]⟩
      have hkd : ks.getD k ByteArray.empty = key := by simp [List.getD, hkey]
      rw [hkd] at hck
      have hksz : key.size ≤ maxLen := hkz key (List.mem_of_getElem? hkey)
      have HK := Lib.hid hkey
      clear hkd hkeys hkey hkc
      by_cases hl : k < l.length
      · obtain ⟨b, o, hb, rfl, hcells⟩ : ∃ b o, Btw 0 w.heap.size b ∧ a = some ⟨b, o, none⟩ ∧ IsVs w (Btw 0 w.heap.size) l b o := by
          rcases h7 with rfl | h7
          · simp at hl
          · exact h7
        obtain ⟨x, hx⟩ : ∃ x, l[k]? = some x := ⟨l[k], by simp [hl]⟩
        obtain ⟨a0, d0, a1, d1, g0, g1, g2, g3, g4, g5, hxv⟩ := (IsVs.keep (S' := Btw 0 wr.heap.size) (Btw.kept hB) (Btw.mono (Nat.le_refl _) hB.size) l b o hb hcells).cells hx
        have hc := ih x (List.mem_of_getElem? hx)
        have HX := Lib.hid hx; clear hx h7 hcells
        go_wp2_with (go_at_call 80; (with_reducible refine (hc.use _ _ hxv).mono ?_))
        rintro e w2 ⟨r, rfl, hB2, hr⟩
        have hsz2 := hB2.size
        have hr2 : IsJ w2 (Btw (w.heap.size + 2) w2.heap.size) (plainJ x) r := IsJ.keep (fun _ _ => rfl) (Btw.mono (by omega) (Nat.le_refl _)) _ hr
        have hes2 : w2.heap[w.heap.size + 1]? = some (.map es cl) := (hB2.block _ (by omega)).trans hes
        have hm2 := hm.keep (Btw.kept hB2) (S' := Btw (w.heap.size + 2) w2.heap.size) (Btw.mono (Nat.le_refl _) hsz2)
        have hbox2 : w2.cell? ⟨w.heap.size, 5, none⟩ = some (.slice (some ⟨b, o, none⟩) l.length c) := (hB2.cell (by show w.heap.size < _; omega)).trans hbox
        have hB3 : Below w.heap.size w w2 := hB.trans (hB2.mono (by omega))
        clear hB2 hB hbox hes hm hxv g0 g1 g2 g3 g4 g5 hc hr hck
        go_wp2_with (at_mapUpdate; refine wpList_mapUpdate_str rfl _ _ _ 106 rfl 9 20 Try.underlying106 Try.underlying9 (w.heap.size + 1) cl es key r rfl rfl rfl hes2 hst hm2.keys ?_)
        intro es' cl' hes' hst'
        have hm3 : IsEs (ChangeMaps.setBlock w2 (w.heap.size + 1) (.map es' cl')) (Btw (w.heap.size + 2) w2.heap.size) (plainM (ks.take (k + 1)) l []) es'.toList := by
          rw [plainM_step ks l [] k key x HK.out HX.out, hes']
          exact (hm2.put hksz hr2).keep (fun b hb => setBlock_other _ (by have := hb.1; omega)) (fun _ h => h)
        have hb3 := setBlock_same (w := w2) (b := w.heap.size + 1) (.map es' cl') (by omega)
        have hB4 := setBlock_below (b := w.heap.size + 1) hB3 (by omega) (.map es' cl')
        have hbox3 : (ChangeMaps.setBlock w2 (w.heap.size + 1) (.map es' cl')).cell? ⟨w.heap.size, 5, none⟩ = some (.slice (some ⟨b, o, none⟩) l.length c) :=
          (World.cell?_of_block (setBlock_other _ (by show w.heap.size ≠ _; omega))).trans hbox2
        have hs3 := setBlock_size w2 (w.heap.size + 1) (.map es' cl')
        generalize ChangeMaps.setBlock w2 (w.heap.size + 1) (.map es' cl') = w3 at *
        have HS := Lib.hid hs3
        clear hs3 hbox2 hes2 hm2 hes' hr2 hB3
        go_wp2_with fail
        go_roundw
        case rel => exact ⟨k + 1, hlt, by go_num, ⟨es', cl', hb3, hst', by rw [HS.out]; exact hm3⟩, hbox3, hB4, by rw [HS.out]; omega⟩
        case measure => simp [intOf]; omega
      · go_wp2_with fail
        go_roundw
        case rel => exact ⟨k + 1, hlt, by go_num, ⟨es, cl, hes, hst, by rw [plainM_over _ _ _ _ (by omega)]; exact hm⟩, hbox, hB, hsz⟩
        case measure => simp [intOf]; omega
    · have hkl : k = ks.length := by omega
      subst hkl
      go_wp2_with fail
      go_ret
      rw [List.take_length] at hm
      exact ⟨_, rfl, hB, ⟨by omega, by omega⟩, es, cl, hes, hst, hm.keep (fun _ _ => rfl) (Btw.mono (by omega) (Nat.le_refl _))⟩
theorem PlainMC.use {x : GV} (h : PlainMC x) (w : World) (v : Value) (hv : IsV w (Btw 0 w.heap.size) x v) :
    Calls Try.prog 61 #[v] w fun e w' => ∃ b, e = .returned (.map (some b)) ∧ Below w.heap.size w w' ∧ Btw w.heap.size w'.heap.size b ∧
      IsM w' (Btw w.heap.size w'.heap.size) (plainM x.keys x.l []) b := h w v hv
set_option maxRecDepth 100000 in
theorem plain_scalar (k n : Int) (f : Nat) (s : ByteArray) (ks : List ByteArray) (l : List GV) (hk : k ≠ 5) (hk' : k ≠ 6) : PlainC (.mk k n f s ks l) := by
  intro w v hv
  unfold IsV at hv
  obtain ⟨vk, a, c, rfl, _, hn, hf, hs, _, _, _, _⟩ := hv
  have e5 : (k == 5) = false := by simpa using hk
  have e6 : (k == 6) = false := by simpa using hk'
  by_cases k1 : k = 1
  · subst k1
    go_enter Try.func80, Try.ntmps80
    go_wp2_with fail
    go_ret
    exact ⟨_, rfl, (Below.refl _ _).alloc (Nat.le_refl _) _, by simp [plainJ, IsJ]⟩
  have e1 : (k == 1) = false := by simpa using k1
  by_cases k2 : k = 2
  · subst k2
    go_enter Try.func80, Try.ntmps80
    go_wp2_with fail
    go_ret
    exact ⟨_, rfl, (Below.refl _ _).alloc (Nat.le_refl _) _, by simp [plainJ, IsJ, hn]⟩
  have e2 : (k == 2) = false := by simpa using k2
  by_cases k3 : k = 3
  · subst k3
    go_enter Try.func80, Try.ntmps80
    go_wp2_with fail
    go_ret
    exact ⟨_, rfl, (Below.refl _ _).alloc (Nat.le_refl _) _, by simp [plainJ, IsJ, hf]⟩
  have e3 : (k == 3) = false := by simpa using k3
  by_cases k4 : k = 4
  · subst k4
    go_enter Try.func80, Try.ntmps80
    go_wp2_with fail
    go_ret
    exact ⟨_, rfl, (Below.refl _ _).alloc (Nat.le_refl _) _, by simp [plainJ, IsJ, hs]⟩
  have e4 : (k == 4) = false := by simpa using k4
  have hj : plainJ (.mk k n f s ks l) = .null := by simp [plainJ, k1, k2, k3, k4, hk, hk']
  rw [hj]
  have HJ := Lib.hid hj
  clear hj k1 k2 k3 k4 hk hk'
  go_enter Try.func80, Try.ntmps80
  go_wp2_with fail
  go_ret
  exact ⟨_, rfl, (Below.refl _ _).alloc (Nat.le_refl _) _, by simp [IsJ]⟩
set_option maxRecDepth 100000 in
theorem plain_map (n : Int) (f : Nat) (s : ByteArray) (ks : List ByteArray) (l : List GV) (ih : PlainMC (.mk 6 n f s ks l)) : PlainC (.mk 6 n f s ks l) := by
  intro w v hv
  have hv0 := hv
  unfold IsV at hv
  obtain ⟨vk, a, c, rfl, _, _, _, _, ⟨ak, ck, rfl, _, hkl, _, _⟩, _, _, _⟩ := hv
  have hv1 := IsV.keep (S := Btw 0 w.heap.size) (S' := Btw 0 (w.heap.size + 1)) (w' := w.alloc (.cells #[.int .i64 6, .int .i64 n, .float .f64 f, .string s, .slice ak ks.length ck, .slice a l.length c] 43))
        (fun b hb => Below.heap_alloc _ _ _ hb.2) (Btw.mono (Nat.le_refl _) (by omega)) _ hv0
  clear hv0
  go_enter Try.func80, Try.ntmps80
  go_wp2_with (go_at_call 61; (with_reducible refine (ih.use _ _ (by simpa using hv1)).mono ?_))
  rintro e w2 ⟨b, rfl, hB2, hb, es, cl, hes, hst, hm⟩
  go_wp2_with fail
  go_ret
  refine ⟨_, rfl, ((Below.refl _ _).alloc (Nat.le_refl _) _).trans (hB2.mono (by simp)), ?_⟩
  have hj : plainJ (.mk 6 n f s ks l) = .map (plainM ks l []) := by simp [plainJ]
  rw [hj]
  unfold IsJ
  have hl := plainM_length ks l []
  refine ⟨b, es, cl, rfl, ⟨by have := hb.1; simp at this; omega, hb.2⟩, hes, hst, by simp only [List.length_nil] at hl; unfold maxLen; omega, hm.keep (fun _ _ => rfl) (Btw.mono (by simp) (Nat.le_refl _))⟩
/-- plain makes the value's tree. -/
theorem plain_any : ∀ (x : GV), PlainC x
  | .mk k n f s ks l => by
    have ih : ∀ y ∈ l, PlainC y := fun y hy => plain_any y
    by_cases h5 : k = 5
    · subst h5; exact plain_list n f s ks l ih
    by_cases h6 : k = 6
    · subst h6; exact plain_map n f s ks l (plainMap_any _ ih)
    exact plain_scalar k n f s ks l h5 h6
termination_by x => SizeOf.sizeOf x
decreasing_by
  have := List.sizeOf_lt_of_mem hy
  simp; omega
end Go.Proofs.Ytbbacpdbbmjblaa
end
section
namespace Go.Proofs.Ytbbacpdbbmjblaa
/-- The value under a key in a list of pairs. -/
def getA {α : Type} : List (ByteArray × α) → ByteArray → Option α
  | [], _ => none
  | e :: r, k => if e.1 = k then some e.2 else getA r k
theorem getA_append {α : Type} (a b : List (ByteArray × α)) (k : ByteArray) : getA (a ++ b) k = (getA a k).or (getA b k) := by
  induction a with
  | nil => simp [getA]
  | cons e r ih =>
    simp only [List.cons_append, getA]
    split <;> simp [*]
theorem getA_none {α : Type} {a : List (ByteArray × α)} {k : ByteArray} (h : ∀ e ∈ a, e.1 ≠ k) : getA a k = none := by
  induction a with
  | nil => rfl
  | cons e r ih =>
    simp only [getA]
    rw [if_neg (h e (by simp)), ih (fun x hx => h x (by simp [hx]))]
theorem getA_mem {α : Type} {a : List (ByteArray × α)} {k : ByteArray} {x : α} (h : getA a k = some x) : (k, x) ∈ a := by
  induction a with
  | nil => simp [getA] at h
  | cons e r ih =>
    simp only [getA] at h
    split at h
    · rename_i he
      cases h; subst he; simp
    · exact List.mem_cons_of_mem _ (ih h)
theorem getA_of_mem {α : Type} {a : List (ByteArray × α)} {k : ByteArray} {x : α} (hd : (a.map (·.1)).Nodup) (h : (k, x) ∈ a) : getA a k = some x := by
  induction a with
  | nil => simp at h
  | cons e r ih =>
    simp only [List.map_cons, List.nodup_cons] at hd
    simp only [getA]
    rcases List.mem_cons.1 h with rfl | h
    · simp
    · have : e.1 ≠ k := fun he => hd.1 (by rw [he]; exact List.mem_map_of_mem (f := (·.1)) h)
      rw [if_neg this, ih hd.2 h]
theorem getA_putA {α : Type} (m : List (ByteArray × α)) (k : ByteArray) (x : α) (k' : ByteArray) : getA (putA m k x) k' = if k = k' then some x else getA m k' := by
  induction m with
  | nil => simp [putA, getA]
  | cons e r ih =>
    simp only [putA]
    split
    · rename_i he
      simp only [getA, he]
      split <;> rfl
    · rename_i he
      simp only [getA, ih]
      by_cases h : e.1 = k'
      · rw [if_pos h, if_neg (fun e' => he (by rw [h, e'])), if_pos h]
      · rw [if_neg h, if_neg h]
theorem putA_keys {α : Type} (m : List (ByteArray × α)) (k : ByteArray) (x : α) {y : ByteArray} (h : y ∈ (putA m k x).map (·.1)) : y = k ∨ y ∈ m.map (·.1) := by
  induction m with
  | nil => simp [putA] at h; exact .inl h
  | cons e r ih =>
    simp only [putA] at h
    split at h
    · rename_i he
      simp only [List.map_cons, List.mem_cons] at h
      rcases h with h | h
      · exact .inl h
      · exact .inr (by simp [h])
    · simp only [List.map_cons, List.mem_cons] at h
      rcases h with h | h
      · exact .inr (by simp [h])
      · rcases ih h with h | h
        · exact .inl h
        · exact .inr (List.mem_cons_of_mem _ h)
theorem putA_nodup {α : Type} {m : List (ByteArray × α)} (h : (m.map (·.1)).Nodup) (k : ByteArray) (x : α) : ((putA m k x).map (·.1)).Nodup := by
  induction m with
  | nil => simp [putA]
  | cons e r ih =>
    simp only [List.map_cons, List.nodup_cons] at h
    simp only [putA]
    split
    · rename_i he
      simp only [List.map_cons, List.nodup_cons]
      exact ⟨by rw [← he]; exact h.1, h.2⟩
    · rename_i he
      simp only [List.map_cons, List.nodup_cons]
      refine ⟨fun hm => ?_, ih h.2⟩
      rcases putA_keys r k x hm with h' | h'
      · exact he h'
      · exact h.1 h'
/-- Two tables in increasing order of the keys that say the same of every key are one. -/
theorem getA_ext {α : Type} : ∀ {a b : List (ByteArray × α)}, Incr (a.map (·.1)) → Incr (b.map (·.1)) → (∀ k, getA a k = getA b k) → a = b
  | [], [], _, _, _ => rfl
  | [], e :: r, _, _, h => by have := h e.1; simp [getA] at this
  | e :: r, [], _, _, h => by have := h e.1; simp [getA] at this
  | (k, x) :: r, (k', y) :: s, ha, hb, h => by
    unfold Incr at ha hb
    simp only [List.map_cons, List.pairwise_cons] at ha hb
    have hr : ∀ {z : ByteArray}, (z = k ∨ blt z k = true) → getA r z = none := fun {z} hz => getA_none fun e he heq => by
      have h1 := ha.1 e.1 (List.mem_map_of_mem he)
      rw [heq] at h1
      rcases hz with rfl | hz
      · rw [blt_irrefl] at h1; cases h1
      · have := blt_trans h1 hz; rw [blt_irrefl] at this; cases this
    have hs : ∀ {z : ByteArray}, (z = k' ∨ blt z k' = true) → getA s z = none := fun {z} hz => getA_none fun e he heq => by
      have h1 := hb.1 e.1 (List.mem_map_of_mem he)
      rw [heq] at h1
      rcases hz with rfl | hz
      · rw [blt_irrefl] at h1; cases h1
      · have := blt_trans h1 hz; rw [blt_irrefl] at this; cases this
    have hk : k = k' := by
      by_cases e : k = k'
      · exact e
      · exfalso
        have e' : ¬ k' = k := fun h => e h.symm
        have h1 := h k
        have h2 := h k'
        simp only [getA, if_true, if_neg e, if_neg e'] at h1 h2
        cases hb1 : blt k k' with
        | true => rw [hs (.inr hb1)] at h1; cases h1
        | false =>
          cases hb2 : blt k' k with
          | true => rw [hr (.inr hb2)] at h2; cases h2
          | false => exact e (blt_total hb1 hb2)
    subst hk
    have h1 := h k
    simp only [getA, if_true, Option.some.injEq] at h1
    subst h1
    have := getA_ext (a := r) (b := s) ha.2 hb.2 (fun z => by
      by_cases e : k = z
      · subst e; rw [hr (.inl rfl), hs (.inl rfl)]
      · have := h z
        simpa only [getA, if_neg e] using this)
    rw [this]
/-- A plain map's value under a key. -/
def getF (m : GV) (k : ByteArray) : Option GV := getA (m.keys.zip m.l) k
theorem zip_fst {α β : Type} : ∀ {a : List α} {b : List β}, a.length = b.length → (a.zip b).map (·.1) = a
  | [], [], _ => rfl
  | _ :: _, _ :: _, h => by simp [zip_fst (by simpa using h)]
theorem zip_snd {α β : Type} : ∀ {a : List α} {b : List β}, a.length = b.length → (a.zip b).map (·.2) = b
  | [], [], _ => rfl
  | _ :: _, _ :: _, h => by simp [zip_snd (by simpa using h)]
theorem plain_ext {a b : GV} (ha : Plain a) (hb : Plain b) (h : ∀ k, getF a k = getF b k) : a = b := by
  obtain ⟨ks, l, rfl, hi, hl⟩ := ha
  obtain ⟨ks', l', rfl, hi', hl'⟩ := hb
  have := getA_ext (a := ks.zip l) (b := ks'.zip l') (by rw [zip_fst hl]; exact hi) (by rw [zip_fst hl']; exact hi') h
  have e1 := congrArg (List.map (·.1)) this
  have e2 := congrArg (List.map (·.2)) this
  rw [zip_fst hl, zip_fst hl'] at e1
  rw [zip_snd hl, zip_snd hl'] at e2
  rw [e1, e2]
theorem insL_zip {α : Type} {ks : List ByteArray} {l : List α} (hl : ks.length = l.length) (k : ByteArray) (x : α) : (insL ks ks k k).zip (insL ks l k x) = insL ks (ks.zip l) k (k, x) := by
  unfold insL
  have h1 : (ks.take (lb ks k)).length = (l.take (lb ks k)).length := by simp [hl]
  rw [List.zip_append (by simp [hl]), List.zip_append h1]
  have ht : ∀ n, (ks.take n).zip (l.take n) = (ks.zip l).take n := fun n => by simp only [List.zip, List.take_zipWith]
  have hd : ∀ n, (ks.drop n).zip (l.drop n) = (ks.zip l).drop n := fun n => by simp only [List.zip, List.drop_zipWith]
  rw [ht, hd]
  rfl
theorem getF_with {m : GV} (hm : Plain m) (k : ByteArray) (x : GV) (k' : ByteArray) : getF (withF m k x) k' = if k = k' then some x else getF m k' := by
  obtain ⟨ks, l, rfl, hi, hl⟩ := hm
  unfold getF withF
  simp only [GV.keys, GV.l]
  rw [insL_zip hl]
  unfold insL
  rw [getA_append, getA_append]
  have hP : (ks.zip l).map (·.1) = ks := zip_fst hl
  by_cases h : k = k'
  · subst h
    rw [getA_none (a := (ks.zip l).take (lb ks k)) (fun e he heq => by
      have h1 : e.1 ∈ ks.take (lb ks k) := by
        have := List.mem_map_of_mem (f := (·.1)) he
        rwa [List.map_take, hP] at this
      have := lb_lt h1
      rw [heq, blt_irrefl] at this; cases this)]
    simp [getA]
  · simp only [getA, if_neg h]
    have hsplit : ks.zip l = (ks.zip l).take (lb ks k) ++ ((ks.zip l).drop (lb ks k)).take (if hasAt ks k then 1 else 0) ++ (ks.zip l).drop (lb ks k + if hasAt ks k then 1 else 0) := by
      rw [List.append_assoc, ← List.drop_drop, List.take_append_drop, List.take_append_drop]
    conv => rhs; rw [hsplit]
    rw [getA_append, getA_append]
    have hmid : getA (((ks.zip l).drop (lb ks k)).take (if hasAt ks k then 1 else 0)) k' = none := by
      refine getA_none fun e he heq => ?_
      cases hh : hasAt ks k with
      | false => rw [hh] at he; simp at he
      | true =>
        rw [hh] at he
        unfold hasAt at hh
        simp only [decide_eq_true_eq] at hh
        have h2 := List.mem_map_of_mem (f := (·.1)) he
        rw [List.map_take, List.map_drop, hP] at h2
        simp only [if_true] at h2
        obtain ⟨i, hi'⟩ := List.getElem?_of_mem h2
        rw [List.getElem?_take] at hi'
        split at hi'
        · rename_i hi1
          have : i = 0 := by omega
          subst this
          rw [List.getElem?_drop, Nat.add_zero, hh] at hi'
          cases hi'
          exact h heq
        · cases hi'
    rw [hmid]
theorem getF_gMap (k : ByteArray) : getF gMap k = none := rfl
mutual
/-- The value of a tree. -/
def unJ : JV → GV
  | .null => gNull
  | .bool b => gv 1 (if b then 1 else 0) 0 ByteArray.empty
  | .int n => gv 2 n 0 ByteArray.empty
  | .flt f => gv 3 0 f ByteArray.empty
  | .str s => gv 4 0 0 s
  | .list l => .mk 5 0 0 ByteArray.empty [] (unJs l)
  | .map m => unM m gMap
def unJs : List JV → List GV
  | [] => []
  | x :: r => unJ x :: unJs r
def unM : List (ByteArray × JV) → GV → GV
  | [], acc => acc
  | x :: r, acc => unM r (withF acc x.1 (unJ x.2))
end
theorem unM_plain : ∀ (m : List (ByteArray × JV)) (g : GV), Plain g → Plain (unM m g)
  | [], g, h => by simpa [unM] using h
  | x :: r, g, h => by
    simp only [unM]
    exact unM_plain r _ (withF_plain h _ _)
theorem getF_unM : ∀ (m : List (ByteArray × JV)) (g : GV), Plain g → (m.map (·.1)).Nodup → ∀ k, getF (unM m g) k = ((getA m k).map unJ).or (getF g k)
  | [], g, h, _, k => by simp [unM, getA]
  | x :: r, g, h, hd, k => by
    simp only [List.map_cons, List.nodup_cons] at hd
    simp only [unM]
    rw [getF_unM r _ (withF_plain h _ _) hd.2, getF_with h]
    simp only [getA]
    by_cases e : x.1 = k
    · have : getA r k = none := getA_none fun y hy hyk => hd.1 (by rw [e, ← hyk]; exact List.mem_map_of_mem (f := (·.1)) hy)
      rw [if_pos e, if_pos e, this]; simp
    · rw [if_neg e, if_neg e]
theorem unM_put {m : List (ByteArray × JV)} (hd : (m.map (·.1)).Nodup) {g : GV} (hg : Plain g) (k : ByteArray) (j : JV) : unM (putA m k j) g = withF (unM m g) k (unJ j) := by
  refine plain_ext (unM_plain _ _ hg) (withF_plain (unM_plain _ _ hg) _ _) fun z => ?_
  rw [getF_unM _ _ hg (putA_nodup hd _ _), getF_with (unM_plain _ _ hg), getF_unM _ _ hg hd, getA_putA]
  by_cases e : k = z
  · rw [if_pos e, if_pos e]; simp
  · rw [if_neg e, if_neg e]
theorem unM_plainM : ∀ (ks : List ByteArray) (l : List GV) (acc : List (ByteArray × JV)), (∀ y ∈ l, unJ (plainJ y) = cleanV y) → (acc.map (·.1)).Nodup → unM (plainM ks l acc) gMap = cleanM ks l (unM acc gMap) ∧ ((plainM ks l acc).map (·.1)).Nodup
  | [], l, acc, _, hd => by simp only [plainM, cleanM]; exact ⟨trivial, hd⟩
  | _ :: _, [], acc, _, hd => by simp only [plainM, cleanM]; exact ⟨trivial, hd⟩
  | k :: ks, x :: l, acc, ih, hd => by
    simp only [plainM, cleanM]
    have := unM_plainM ks l (putA acc k (plainJ x)) (fun y hy => ih y (by simp [hy])) (putA_nodup hd _ _)
    rw [unM_put hd gMap_plain, ih x (by simp)] at this
    exact this
theorem unJs_plainJs : ∀ (l : List GV), (∀ y ∈ l, unJ (plainJ y) = cleanV y) → unJs (plainJs l) = cleanL l
  | [], _ => by simp [unJs, plainJs, cleanL]
  | x :: l, ih => by
    simp only [unJs, plainJs, cleanL]
    rw [ih x (by simp), unJs_plainJs l (fun y hy => ih y (by simp [hy]))]
/-- A tree made of a value, taken apart: the value's plain form. -/
theorem un_plain : ∀ x : GV, unJ (plainJ x) = cleanV x
  | .mk k n f s ks l => by
    have ih : ∀ y ∈ l, unJ (plainJ y) = cleanV y := fun y hy => un_plain y
    unfold plainJ cleanV
    by_cases h1 : k = 1
    · simp only [h1, if_true, unJ, gv]
      by_cases hn : n = 0 <;> simp [hn]
    by_cases h2 : k = 2
    · simp [h2, unJ, gv]
    by_cases h3 : k = 3
    · simp [h3, unJ, gv]
    by_cases h4 : k = 4
    · simp [h4, unJ, gv]
    by_cases h5 : k = 5
    · simp [h5, unJ, unJs_plainJs l ih]
    by_cases h6 : k = 6
    · have := (unM_plainM ks l [] ih (by simp)).1
      simp only [unM] at this
      unfold gMap at this
      simp [h6, unJ, gMap, this]
    simp [h1, h2, h3, h4, h5, h6, unJ]
termination_by x => SizeOf.sizeOf x
decreasing_by
  have := List.sizeOf_lt_of_mem hy
  simp; omega
mutual
/-- In every map of the tree each key stands once, and nothing is beyond memory. -/
def JOk : JV → Prop
  | .list l => l.length * 88 ≤ 140737488351232 ∧ JOks l
  | .map m => (m.map (·.1)).Nodup ∧ m.length * 88 ≤ 140737488351232 ∧ JOkm m
  | _ => True
def JOks : List JV → Prop
  | [] => True
  | x :: r => JOk x ∧ JOks r
def JOkm : List (ByteArray × JV) → Prop
  | [] => True
  | x :: r => JOk x.2 ∧ JOkm r
end
theorem JOkm_put : ∀ (m : List (ByteArray × JV)) (k : ByteArray) (j : JV), JOkm m → JOk j → JOkm (putA m k j)
  | [], k, j, _, hj => by simp [putA, JOkm, hj]
  | e :: r, k, j, h, hj => by
    simp only [JOkm] at h
    simp only [putA]
    split
    · simp only [JOkm]; exact ⟨hj, h.2⟩
    · simp only [JOkm]; exact ⟨h.1, JOkm_put r k j h.2 hj⟩
theorem plainM_ok : ∀ (ks : List ByteArray) (l : List GV) (acc : List (ByteArray × JV)), (∀ y ∈ l, JOk (plainJ y)) → JOkm acc → JOkm (plainM ks l acc)
  | [], l, acc, _, h => by simpa only [plainM] using h
  | _ :: _, [], acc, _, h => by simpa only [plainM] using h
  | k :: ks, x :: l, acc, ih, h => by
    simp only [plainM]
    exact plainM_ok ks l _ (fun y hy => ih y (by simp [hy])) (JOkm_put acc k _ h (ih x (by simp)))
theorem plainJs_ok : ∀ (l : List GV), (∀ y ∈ l, JOk (plainJ y)) → JOks (plainJs l)
  | [], _ => by simp [plainJs, JOks]
  | x :: l, ih => by
    simp only [plainJs, JOks]
    exact ⟨ih x (by simp), plainJs_ok l (fun y hy => ih y (by simp [hy]))⟩
theorem plainM_len : ∀ (ks : List ByteArray) (l : List GV) (acc : List (ByteArray × JV)), (plainM ks l acc).length ≤ acc.length + l.length
  | [], l, acc => by simp [plainM]
  | _ :: _, [], acc => by simp [plainM]
  | k :: ks, x :: l, acc => by
    simp only [plainM]
    have := plainM_len ks l (putA acc k (plainJ x))
    have := putA_length acc k (plainJ x)
    simp only [List.length_cons]; omega
mutual
/-- Nothing in the value is beyond memory. -/
def GOk : GV → Prop
  | .mk _ _ _ _ _ l => l.length * 88 ≤ 140737488351232 ∧ GOks l
def GOks : List GV → Prop
  | [] => True
  | x :: r => GOk x ∧ GOks r
end
theorem GOks_mem : ∀ {l : List GV}, GOks l → ∀ y ∈ l, GOk y
  | x :: r, h, y, hy => by
    simp only [GOks] at h
    rcases List.mem_cons.1 hy with rfl | hy
    · exact h.1
    · exact GOks_mem h.2 y hy
mutual
theorem IsV.gok {w : World} {S : Nat → Prop} : ∀ (x : GV) {v : Value}, IsV w S x v → GOk x
  | .mk k n f s ks l, v, h => by
    unfold IsV at h
    obtain ⟨vk, a, c, _, _, _, _, _, _, _, hz, hl⟩ := h
    unfold GOk
    refine ⟨hz, ?_⟩
    rcases hl with rfl | ⟨b, o, _, _, hv⟩
    · simp [GOks]
    · exact IsVs.gok l hv
theorem IsVs.gok {w : World} {S : Nat → Prop} : ∀ (l : List GV) {b o : Nat}, IsVs w S l b o → GOks l
  | [], _, _, _ => by simp [GOks]
  | x :: r, b, o, h => by
    unfold IsVs at h
    obtain ⟨⟨c0, c1, c2, c3, c4, c5, _, _, _, _, _, _, hx⟩, hr⟩ := h
    unfold GOks
    exact ⟨IsV.gok x hx, IsVs.gok r hr⟩
end
theorem plain_ok : ∀ x : GV, GOk x → JOk (plainJ x)
  | .mk k n f s ks l, hg => by
    unfold GOk at hg
    have ih : ∀ y ∈ l, JOk (plainJ y) := fun y hy => plain_ok y (GOks_mem hg.2 y hy)
    unfold plainJ
    split
    · simp [JOk]
    split
    · simp [JOk]
    split
    · simp [JOk]
    split
    · simp [JOk]
    split
    · simp only [JOk]; exact ⟨by rw [plainJs_length]; exact hg.1, plainJs_ok l ih⟩
    split
    · simp only [JOk]; exact ⟨(unM_plainM ks l [] (fun y _ => un_plain y) (by simp)).2, by have := plainM_len ks l []; simp only [List.length_nil] at this; omega, plainM_ok ks l [] ih (by simp [JOkm])⟩
    · simp [JOk]
termination_by x => SizeOf.sizeOf x
decreasing_by
  have := List.sizeOf_lt_of_mem hy
  simp; omega
end Go.Proofs.Ytbbacpdbbmjblaa
end
section
namespace Go.Proofs.Ytbbacpdbbmjblaa
open Go.RowKit
set_option linter.unusedSimpArgs false
theorem JOks_mem : ∀ {l : List JV}, JOks l → ∀ y ∈ l, JOk y
  | x :: r, h, y, hy => by
    simp only [JOks] at h
    rcases List.mem_cons.1 hy with rfl | hy
    · exact h.1
    · exact JOks_mem h.2 y hy
end Go.Proofs.Ytbbacpdbbmjblaa
end
section
namespace Go.Proofs.Ytbbacpdbbmjblaa
open Go.RowKit
set_option linter.unusedSimpArgs false
theorem JOkm_mem : ∀ {m : List (ByteArray × JV)}, JOkm m → ∀ x ∈ m, JOk x.2
  | x :: r, h, y, hy => by
    simp only [JOkm] at h
    rcases List.mem_cons.1 hy with rfl | hy
    · exact h.1
    · exact JOkm_mem h.2 y hy
end Go.Proofs.Ytbbacpdbbmjblaa
end
section
set_option linter.unusedVariables false
namespace Go.Proofs.Ytbbacpdbbmjblaa
open Go.RowKit
def pdS (ks : List ByteArray) : List PD := ks.map fun k => .val (.string k)
mutual
def pdV : GV → PD
  | .mk k n f s ks l => .agg [.val (.int .i64 k), .val (.int .i64 n), .val (.float .f64 f), .val (.string s), .sl 1 16 (pdS ks), .sl 6 88 (pdVs l)]
def pdVs : List GV → List PD
  | [] => []
  | x :: r => pdV x :: pdVs r
end
theorem pdV_eq (x : GV) : pdV x = .agg [.val (.int .i64 x.kind), .val (.int .i64 x.n), .val (.float .f64 x.f), .val (.string x.s), .sl 1 16 (pdS x.keys), .sl 6 88 (pdVs x.l)] := by
  cases x; unfold pdV; rfl
theorem pdVs_eq (l : List GV) : pdVs l = l.map pdV := by
  induction l with
  | nil => unfold pdVs; rfl
  | cons x r ih => unfold pdVs; rw [ih]; rfl
theorem pdVs_len (l : List GV) : (pdVs l).length = l.length := by rw [pdVs_eq]; simp
theorem pdS_len (l : List ByteArray) : (pdS l).length = l.length := by simp [pdS]
theorem pdVs_at {l : List GV} {i : Nat} {x : GV} (h : l[i]? = some x) : (pdVs l)[i]? = some (pdV x) := by rw [pdVs_eq]; simp [h]
theorem pdS_at {l : List ByteArray} {i : Nat} {x : ByteArray} (h : l[i]? = some x) : (pdS l)[i]? = some (.val (.string x)) := by simp [pdS, h]
section
variable {w : World} {F : Nat → Prop}
theorem repL_strs {b : Nat} : ∀ {ks : List ByteArray} {o : Nat}, RepL w F 1 (pdS ks) b o ↔ ((∀ s ∈ ks, s.size ≤ maxLen) ∧ ∀ i k, ks[i]? = some k → w.cell? ⟨b, o + i, none⟩ = some (.string k))
  | [], o => by simp [pdS, RepL]
  | k :: r, o => by
    have ih := repL_strs (b := b) (ks := r) (o := o + 1)
    simp only [pdS, List.map_cons] at ih ⊢
    unfold RepL
    rw [ih]
    constructor
    · rintro ⟨⟨u, hu, hn, h1, hl⟩, h2, h3⟩
      unfold Rep at hu
      obtain ⟨rfl, hok⟩ := hu
      refine ⟨fun s hs => ?_, fun i k' hi => ?_⟩
      · rcases List.mem_cons.1 hs with rfl | hs
        · exact hok
        · exact h2 s hs
      · cases i with
        | zero => simp at hi; subst hi; exact hl 0 _ rfl
        | succ i =>
          have := h3 i k' (by simpa using hi)
          rwa [show o + 1 + i = o + (i + 1) by omega] at this
    · rintro ⟨h2, h3⟩
      refine ⟨⟨.string k, ?_, rfl, by simp [Value.cells, Value.oneCell'], fun j u hj => ?_⟩, fun s hs => h2 s (List.mem_cons_of_mem _ hs), fun i k' hi => ?_⟩
      · unfold Rep; exact ⟨rfl, h2 k List.mem_cons_self⟩
      · cases j with
        | zero => simp [Value.cells] at hj; subst hj; exact h3 0 k rfl
        | succ j => simp [Value.cells] at hj
      · have := h3 (i + 1) k' (by simpa using hi)
        rwa [show o + (i + 1) = o + 1 + i by omega] at this
theorem rep_strs {ks : List ByteArray} {v : Value} : Rep w F (.sl 1 16 (pdS ks)) v ↔ IsStrs w F v ks := by
  unfold Rep IsStrs
  rw [pdS_len]
  constructor
  · rintro ⟨a, c, rfl, h1, h2, h3, h4⟩
    rcases h4 with h4 | ⟨b, o, hF, rfl, hr⟩
    · have : ks = [] := by cases ks <;> simp_all [pdS]
      subst this
      exact ⟨a, c, rfl, h1, h2, by simp, fun h => by simp at h⟩
    · have := repL_strs.1 hr
      exact ⟨_, c, rfl, h1, h2, this.1, fun _ => ⟨b, o, hF, rfl, fun i hi => this.2 i _ (by simp [List.getD, hi])⟩⟩
  · rintro ⟨a, c, rfl, h1, h2, h3, h4⟩
    refine ⟨a, c, rfl, h1, h2, by omega, ?_⟩
    by_cases h : 0 < ks.length
    · obtain ⟨b, o, hF, rfl, hc⟩ := h4 h
      refine .inr ⟨b, o, hF, rfl, repL_strs.2 ⟨h3, fun i k hi => ?_⟩⟩
      have hlt := (List.getElem?_eq_some_iff.1 hi).1
      rw [hc i hlt]
      simp [List.getD, hi]
    · left; have : ks = [] := List.eq_nil_of_length_eq_zero (by omega)
      subst this; rfl
mutual
theorem isV_rep : ∀ (x : GV) {v : Value}, IsV w F x v → Rep w F (pdV x) v
  | .mk k n f s ks l, v, h => by
    unfold IsV at h
    obtain ⟨vk, a, c, rfl, h1, h2, h3, h4, h5, h6, h7, h8⟩ := h
    unfold pdV Rep
    refine ⟨[.int .i64 k, .int .i64 n, .float .f64 f, .string s, vk, .slice a l.length c], rfl, ?_, ?_⟩
    · have e5 := rep_strs.2 h5
      have e6 : Rep w F (.sl 6 88 (pdVs l)) (.slice a l.length c) := by
        unfold Rep
        rw [pdVs_len]
        refine ⟨a, c, rfl, h6, h7, by omega, ?_⟩
        rcases h8 with rfl | ⟨b, o, hF, rfl, hv⟩
        · left; unfold pdVs; rfl
        · exact .inr ⟨b, o, hF, rfl, isVs_repL l hv⟩
      simp only [Reps]
      exact ⟨_, _, rfl, by unfold Rep; exact ⟨rfl, h1⟩, _, _, rfl, by unfold Rep; exact ⟨rfl, h2⟩, _, _, rfl, by unfold Rep; exact ⟨rfl, h3⟩, _, _, rfl, by unfold Rep; exact ⟨rfl, h4⟩, _, _, rfl, e5, _, _, rfl, e6, rfl⟩
    · obtain ⟨a0, c0, rfl, _⟩ := h5
      simp [Value.oneCell']
theorem isVs_repL : ∀ (l : List GV) {b o : Nat}, IsVs w F l b o → RepL w F 6 (pdVs l) b o
  | [], b, o, _ => by unfold pdVs RepL; trivial
  | x :: r, b, o, h => by
    unfold IsVs at h
    obtain ⟨⟨c0, c1, c2, c3, c4, c5, g0, g1, g2, g3, g4, g5, hx⟩, hr⟩ := h
    have hx' := isV_rep x hx
    unfold pdVs RepL
    refine ⟨⟨_, hx', by simp [Value.cells], ?_, fun j u hj => ?_⟩, isVs_repL r hr⟩
    · obtain ⟨a0, d0, a1, d1, e⟩ := hx.form
      rw [e]; simp [Value.cells, Value.oneCell']
    · simp only [Value.cells] at hj
      match j, hj with
      | 0, hj => simp at hj; subst hj; exact g0
      | 1, hj => simp at hj; subst hj; exact g1
      | 2, hj => simp at hj; subst hj; exact g2
      | 3, hj => simp at hj; subst hj; exact g3
      | 4, hj => simp at hj; subst hj; exact g4
      | 5, hj => simp at hj; subst hj; exact g5
      | j + 6, hj => simp at hj
end
mutual
theorem rep_isV : ∀ (x : GV) {v : Value}, Rep w F (pdV x) v → IsV w F x v
  | .mk k n f s ks l, v, h => by
    unfold pdV Rep at h
    obtain ⟨vs, rfl, hr, h1⟩ := h
    simp only [Reps] at hr
    obtain ⟨v0, _, rfl, e0, v1, _, rfl, e1, v2, _, rfl, e2, v3, _, rfl, e3, v4, _, rfl, e4, v5, _, rfl, e5, rfl⟩ := hr
    unfold Rep at e0 e1 e2 e3
    obtain ⟨rfl, w0⟩ := e0
    obtain ⟨rfl, w1⟩ := e1
    obtain ⟨rfl, w2⟩ := e2
    obtain ⟨rfl, w3⟩ := e3
    have e4' := rep_strs.1 e4
    unfold Rep at e5
    rw [pdVs_len] at e5
    obtain ⟨a, c, rfl, h5, h6, _, h7⟩ := e5
    unfold IsV
    refine ⟨v4, a, c, rfl, w0, w1, w2, w3, e4', h5, h6, ?_⟩
    rcases h7 with h7 | ⟨b, o, hF, rfl, hv⟩
    · left; cases l with | nil => rfl | cons _ _ => unfold pdVs at h7; cases h7
    · exact .inr ⟨b, o, hF, rfl, repL_isVs l hv⟩
theorem repL_isVs : ∀ (l : List GV) {b o : Nat}, RepL w F 6 (pdVs l) b o → IsVs w F l b o
  | [], b, o, _ => by unfold IsVs; trivial
  | x :: r, b, o, h => by
    unfold pdVs RepL at h
    obtain ⟨⟨u, hu, hn, h1, hl⟩, hr⟩ := h
    have hv := rep_isV x hu
    obtain ⟨a0, d0, a1, d1, e⟩ := hv.form
    subst e
    unfold IsVs
    simp only [Value.cells] at hl
    exact ⟨⟨_, _, _, _, _, _, hl 0 _ rfl, hl 1 _ rfl, hl 2 _ rfl, hl 3 _ rfl, hl 4 _ rfl, hl 5 _ rfl, hv⟩, repL_isVs r hr⟩
end
theorem isV_arg {x : GV} {v : Value} (h : Rep w F (pdV x) v) (hF : ∀ b, F b → b < w.heap.size) : IsV w (Btw 0 w.heap.size) x v := (rep_isV x h).keep (fun _ _ => rfl) (fun b hb => ⟨Nat.zero_le _, hF b hb⟩)
end
section
variable {P : Program} {f : FuncId}
theorem pcall_V1 {x : GV} {y : PD} {R : World → World → Value → Prop} (h : ∀ w v, IsV w (Btw 0 w.heap.size) x v → Calls P f #[v] w fun e w' => ∃ r, e = .returned r ∧ Below w.heap.size w w' ∧ R w w' r)
    (hR : ∀ (w w' : World) (r : Value) (F : Nat → Prop), R w w' r → Rep w' (fun b => F b ∨ (w.heap.size ≤ b ∧ b < w'.heap.size)) y r) : PCall P f [pdV x] y := by
  intro w F vs hF hv
  unfold Reps at hv
  obtain ⟨v, r', rfl, hx, hr⟩ := hv
  unfold Reps at hr
  subst hr
  refine (h w v (isV_arg hx hF)).mono ?_
  rintro e w' ⟨r, he, hb, hRr⟩
  exact ⟨r, he, hb, hR w w' r F hRr⟩
theorem pcall_V1s {x : GV} {u : Value} (hu : okV u) (h : ∀ w v, IsV w (Btw 0 w.heap.size) x v → Calls P f #[v] w fun e w' => e = .returned u ∧ Below w.heap.size w w') : PCall P f [pdV x] (.val u) :=
  pcall_V1 (R := fun _ _ r => r = u) (fun w v hv => (h w v hv).mono fun e w' ⟨h1, h2⟩ => ⟨u, h1, h2, rfl⟩) (fun _ _ r _ e => by unfold Rep; exact ⟨e, hu⟩)
theorem pcall_V1V {x y : GV} (h : ∀ w v, IsV w (Btw 0 w.heap.size) x v → Calls P f #[v] w fun e w' => ∃ r, e = .returned r ∧ Below w.heap.size w w' ∧ IsV w' (Btw w.heap.size w'.heap.size) y r) : PCall P f [pdV x] (pdV y) :=
  pcall_V1 (R := fun w w' r => IsV w' (Btw w.heap.size w'.heap.size) y r) h (fun _ _ _ _ hr => (isV_rep y hr).keep (fun _ _ => rfl) (fun b hb => .inr hb))
end
end Go.Proofs.Ytbbacpdbbmjblaa
namespace Go.Proofs.Ytbbacpdbbmjblaa
open Go.RowKit
/-- A tree of the package. -/
def pdJ (j : JV) : PD := .opq { rel := fun w F v => IsJ w F j v ∧ JOk j, one := fun _ _ _ h => h.1.oneCell, keep := fun _ _ _ _ _ h hs hv => ⟨IsJ.keep h hs j hv.1, hv.2⟩ }
end Go.Proofs.Ytbbacpdbbmjblaa
namespace Go.Proofs.Ytbbacpdbbmjblaa
open Go.RowKit
set_option linter.unusedSimpArgs false
set_option maxRecDepth 10000
set_option maxHeartbeats 2000000
end Go.Proofs.Ytbbacpdbbmjblaa
namespace Go.Proofs.Ytbbacpdbbmjblaa
open Go.RowKit
end Go.Proofs.Ytbbacpdbbmjblaa
namespace Go.Proofs.Ytbbacpdbbmjblaa
open Go.RowKit
set_option linter.unusedSimpArgs false
set_option maxRecDepth 10000
set_option maxHeartbeats 2000000
def PLs : List PD → List PD → Prop
  | [], [] => True
  | a :: l, b :: l' => PLe a b ∧ PLs l l'
  | _, _ => False
theorem PLs.spec : ∀ {l l' : List PD}, PLs l l' → l.length = l'.length ∧ ∀ (i : Nat) (d d' : PD), l[i]? = some d → l'[i]? = some d' → PLe d d'
  | [], [], _ => ⟨rfl, fun i d d' h => by simp at h⟩
  | a :: l, b :: l', h => by
    obtain ⟨h1, h2⟩ := h
    obtain ⟨e, h3⟩ := PLs.spec h2
    refine ⟨by simp [e], fun i d d' hd hd' => ?_⟩
    cases i with
    | zero => simp at hd hd'; subst hd; subst hd'; exact h1
    | succ i => exact h3 i d d' (by simpa using hd) (by simpa using hd')
  | [], _ :: _, h => h.elim
  | _ :: _, [], h => h.elim
theorem PLe.aggs {l l' : List PD} (h : PLs l l') : PLe (.agg l) (.agg l') := PLe.agg h.spec.1 h.spec.2
def qV (x : GV) : PD := .agg [.val (.int .i64 x.kind), .val (.int .i64 x.n), .val (.float .f64 x.f), .val (.string x.s), .sl 1 16 (pdS x.keys), .sl 6 88 (pdVs x.l)]
end Go.Proofs.Ytbbacpdbbmjblaa
namespace Go.Proofs.Ytbbacpdbbmjblaa
open Go.RowKit
set_option linter.unusedSimpArgs false
set_option maxRecDepth 10000
set_option maxHeartbeats 2000000
end Go.Proofs.Ytbbacpdbbmjblaa
namespace Go.Proofs.Ytbbacpdbbmjblaa
open Go.RowKit
end Go.Proofs.Ytbbacpdbbmjblaa
namespace Go.Proofs.Ytbbacpdbbmjblaa
open Go.RowKit
set_option linter.unusedSimpArgs false
set_option maxRecDepth 10000
set_option maxHeartbeats 2000000
end Go.Proofs.Ytbbacpdbbmjblaa
end
section
namespace Go.Proofs.Ytbbacpdbbmjblaa
open Go.RowKit
/-- v is the package's value of the tree j: a pointer to a block that holds the tree's interface value. -/
def IsVal (w : World) (S : Nat → Prop) (j : JV) (v : Value) : Prop :=
  ∃ b r, v = .iface 139 (.pointer (some ⟨b, 0, none⟩)) ∧ S b ∧ w.heap[b]? = some (.cells #[r] 173 (0, 0)) ∧ IsJ w S j r
set_option maxRecDepth 100000 in
theorem allocVU_any (p : Option Addr) (w : World) : Calls Try.prog 86 #[.pointer p] w fun e w' =>
    e = .returned (.pointer (some ⟨w.heap.size, 0, none⟩)) ∧ w' = w.alloc (.cells #[.nilIface] 173) := by
  go_enter Try.func86, Try.ntmps86
  go_wp2_with fail
  go_ret
  exact ⟨rfl, rfl⟩
set_option maxRecDepth 100000 in
theorem reuse_any (b : Nat) (u r : Value) (w : World) (hb : w.heap[b]? = some (.cells #[u] 173 (0, 0))) (hr : r.oneCell' = true) :
    Calls Try.prog 87 #[.pointer (some ⟨b, 0, none⟩), r] w fun e w' =>
      e = .returned (.iface 139 (.pointer (some ⟨b, 0, none⟩))) ∧ w' = w.setCell ⟨b, 0, none⟩ r := by
  have hcl : r.cells = #[r] := by cases r <;> first | rfl | (simp [Value.oneCell'] at hr)
  have hc : w.cell? ⟨b, 0, none⟩ = some u := by rw [cell_of_row w b 0 _ _ _ hb]; rfl
  have hf : w.frozen? ⟨b, 0, none⟩ = false := by simp [World.frozen?, hb]
  obtain ⟨i0, hi, hz0, hz1, hz2⟩ := info_parts Try.infoAny
  have HCL := Lib.hid hcl; have HR := Lib.hid hr
  clear hb hr hcl
  go_enter Try.func87, Try.ntmps87
  go_wp2_with (refine wpList_store_one rfl 20 _ _ rfl ⟨b, 0, none⟩ rfl r rfl i0 hi hz1 HR.out HCL.out _ hc hf ?_)
  go_ret
  exact ⟨rfl, rfl⟩
set_option maxRecDepth 100000 in
theorem newVI_any (r : Value) (w : World) (hr : r.oneCell' = true) : Calls Try.prog 62 #[r] w fun e w' =>
    e = .returned (.iface 139 (.pointer (some ⟨w.heap.size + 1, 0, none⟩))) ∧ w' = (w.alloc (.cells #[] 133)).alloc (.cells #[r] 173) := by
  go_enter Try.func62, Try.ntmps62
  go_wp2_with fail
  refine (allocVU_any _ _).mono ?_
  rintro e w1 ⟨rfl, rfl⟩
  go_wp2_with (go_at_call 87; refine (reuse_any (w.heap.size + 1) .nilIface r _ ?_ hr).mono ?_)
  · exact new_block (by simp)
  · rintro e w2 ⟨rfl, rfl⟩
    go_wp2_with fail
    go_ret
    exact ⟨rfl, rfl⟩
set_option maxRecDepth 100000 in
theorem toValue_any (x : GV) (w : World) (v : Value) (hv : IsV w (Btw 0 w.heap.size) x v) :
    Calls Try.prog 50 #[v] w fun e w' => ∃ r, e = .returned r ∧ Below w.heap.size w w' ∧ IsVal w' (Btw w.heap.size w'.heap.size) (plainJ x) r := by
  obtain ⟨a0, c0, a1, c1, rfl⟩ := hv.form
  have hv1 := IsV.keep (S := Btw 0 w.heap.size) (S' := Btw 0 (w.heap.size + 1)) (w' := w.alloc (.cells #[.int .i64 x.kind, .int .i64 x.n, .float .f64 x.f, .string x.s, .slice a0 x.keys.length c0, .slice a1 x.l.length c1] 43))
        (fun b hb => Below.heap_alloc _ _ _ hb.2) (Btw.mono (Nat.le_refl _) (by omega)) _ hv
  clear hv
  go_enter Try.func50, Try.ntmps50
  go_wp2_with (go_at_call 80; (with_reducible refine ((plain_any x).use _ _ (by simpa using hv1)).mono ?_))
  rintro e w2 ⟨r, rfl, hB2, hr⟩
  go_wp2_with (go_at_call 62; refine (newVI_any r w2 hr.oneCell).mono ?_)
  rintro e w3 ⟨rfl, rfl⟩
  have hs := hB2.size
  go_wp2_with fail
  go_ret
  have hB3 : Below w.heap.size w ((w2.alloc (.cells #[] 133)).alloc (.cells #[r] 173)) :=
    (((((Below.refl _ _).alloc (Nat.le_refl _) _).trans (hB2.mono (by simp))).alloc (by simp at hs; omega) _).alloc (by simp at hs ⊢; omega) _)
  refine ⟨_, rfl, hB3, w2.heap.size + 1, r, rfl, ⟨by simp at hs; omega, by simp⟩, new_block (by simp), ?_⟩
  refine IsJ.keep (fun b hb => ?_) (Btw.mono (by simp) (by simp; omega)) _ hr
  have := hb.2
  exact (Below.heap_alloc _ _ _ (by simp; omega)).trans (Below.heap_alloc _ _ _ (by omega))
end Go.Proofs.Ytbbacpdbbmjblaa
end
section
namespace Go.Proofs.Ytbbacpdbbmjblaa
open Go.RowKit
/-- The form of a tree's value, whatever the memory. -/
def JForm : JV → Value → Prop
  | .null, v => v = .nilIface
  | .bool b, v => v = .iface 4 (.bool b)
  | .int n, v => v = .iface 2 (.int .i64 n)
  | .flt f, v => v = .iface 40 (.float .f64 f)
  | .str s, v => v = .iface 9 (.string s)
  | .list l, v => ∃ a c, v = .iface 141 (.slice a l.length c)
  | .map _, v => ∃ b, v = .iface 106 (.map (some b))
theorem IsJ.shape {w : World} {S : Nat → Prop} {j : JV} {v : Value} (h : IsJ w S j v) : JForm j v := by
  cases j <;> unfold IsJ at h <;> unfold JForm
  · exact h
  · exact h
  · exact h.1
  · exact h.1
  · exact h.1
  · obtain ⟨a, c, e, _⟩ := h; exact ⟨a, c, e⟩
  · obtain ⟨b, es, cl, e, _⟩ := h; exact ⟨b, e⟩
def JV.IsMap : JV → Bool | .map _ => true | _ => false
def JV.IsList : JV → Bool | .list _ => true | _ => false
def JV.IsBool : JV → Bool | .bool _ => true | _ => false
def JV.IsInt : JV → Bool | .int _ => true | _ => false
def JV.IsFloat : JV → Bool | .flt _ => true | _ => false
def JV.IsString : JV → Bool | .str _ => true | _ => false
def JV.IsNull : JV → Bool | .null => true | _ => false
set_option maxRecDepth 100000 in
theorem IsMap_any (j : JV) (w : World) (r : Value) (hj : JForm j r) : Calls Try.prog 147 #[.agg #[r]] w fun e w' => e = .returned (.bool (JV.IsMap j)) ∧ w' = w.alloc (.cells #[r] 173) := by
  cases j <;> unfold JForm at hj
  case null => subst hj; go_enter Try.func147, Try.ntmps147; go_wp2_with fail; go_ret; exact ⟨rfl, rfl⟩
  case bool => subst hj; go_enter Try.func147, Try.ntmps147; go_wp2_with fail; go_ret; exact ⟨rfl, rfl⟩
  case int => subst hj; go_enter Try.func147, Try.ntmps147; go_wp2_with fail; go_ret; exact ⟨rfl, rfl⟩
  case flt => subst hj; go_enter Try.func147, Try.ntmps147; go_wp2_with fail; go_ret; exact ⟨rfl, rfl⟩
  case str => subst hj; go_enter Try.func147, Try.ntmps147; go_wp2_with fail; go_ret; exact ⟨rfl, rfl⟩
  case list => obtain ⟨a, c, rfl⟩ := hj; go_enter Try.func147, Try.ntmps147; go_wp2_with fail; go_ret; exact ⟨rfl, rfl⟩
  case map => obtain ⟨b, rfl⟩ := hj; go_enter Try.func147, Try.ntmps147; go_wp2_with fail; go_ret; exact ⟨rfl, rfl⟩
set_option maxRecDepth 100000 in
theorem IsList_any (j : JV) (w : World) (r : Value) (hj : JForm j r) : Calls Try.prog 146 #[.agg #[r]] w fun e w' => e = .returned (.bool (JV.IsList j)) ∧ w' = w.alloc (.cells #[r] 173) := by
  cases j <;> unfold JForm at hj
  case null => subst hj; go_enter Try.func146, Try.ntmps146; go_wp2_with fail; go_ret; exact ⟨rfl, rfl⟩
  case bool => subst hj; go_enter Try.func146, Try.ntmps146; go_wp2_with fail; go_ret; exact ⟨rfl, rfl⟩
  case int => subst hj; go_enter Try.func146, Try.ntmps146; go_wp2_with fail; go_ret; exact ⟨rfl, rfl⟩
  case flt => subst hj; go_enter Try.func146, Try.ntmps146; go_wp2_with fail; go_ret; exact ⟨rfl, rfl⟩
  case str => subst hj; go_enter Try.func146, Try.ntmps146; go_wp2_with fail; go_ret; exact ⟨rfl, rfl⟩
  case list => obtain ⟨a, c, rfl⟩ := hj; go_enter Try.func146, Try.ntmps146; go_wp2_with fail; go_ret; exact ⟨rfl, rfl⟩
  case map => obtain ⟨b, rfl⟩ := hj; go_enter Try.func146, Try.ntmps146; go_wp2_with fail; go_ret; exact ⟨rfl, rfl⟩
set_option maxRecDepth 100000 in
theorem IsBool_any (j : JV) (w : World) (r : Value) (hj : JForm j r) : Calls Try.prog 143 #[.agg #[r]] w fun e w' => e = .returned (.bool (JV.IsBool j)) ∧ w' = w.alloc (.cells #[r] 173) := by
  cases j <;> unfold JForm at hj
  case null => subst hj; go_enter Try.func143, Try.ntmps143; go_wp2_with fail; go_ret; exact ⟨rfl, rfl⟩
  case bool => subst hj; go_enter Try.func143, Try.ntmps143; go_wp2_with fail; go_ret; exact ⟨rfl, rfl⟩
  case int => subst hj; go_enter Try.func143, Try.ntmps143; go_wp2_with fail; go_ret; exact ⟨rfl, rfl⟩
  case flt => subst hj; go_enter Try.func143, Try.ntmps143; go_wp2_with fail; go_ret; exact ⟨rfl, rfl⟩
  case str => subst hj; go_enter Try.func143, Try.ntmps143; go_wp2_with fail; go_ret; exact ⟨rfl, rfl⟩
  case list => obtain ⟨a, c, rfl⟩ := hj; go_enter Try.func143, Try.ntmps143; go_wp2_with fail; go_ret; exact ⟨rfl, rfl⟩
  case map => obtain ⟨b, rfl⟩ := hj; go_enter Try.func143, Try.ntmps143; go_wp2_with fail; go_ret; exact ⟨rfl, rfl⟩
set_option maxRecDepth 100000 in
theorem IsInt_any (j : JV) (w : World) (r : Value) (hj : JForm j r) : Calls Try.prog 145 #[.agg #[r]] w fun e w' => e = .returned (.bool (JV.IsInt j)) ∧ w' = w.alloc (.cells #[r] 173) := by
  cases j <;> unfold JForm at hj
  case null => subst hj; go_enter Try.func145, Try.ntmps145; go_wp2_with fail; go_ret; exact ⟨rfl, rfl⟩
  case bool => subst hj; go_enter Try.func145, Try.ntmps145; go_wp2_with fail; go_ret; exact ⟨rfl, rfl⟩
  case int => subst hj; go_enter Try.func145, Try.ntmps145; go_wp2_with fail; go_ret; exact ⟨rfl, rfl⟩
  case flt => subst hj; go_enter Try.func145, Try.ntmps145; go_wp2_with fail; go_ret; exact ⟨rfl, rfl⟩
  case str => subst hj; go_enter Try.func145, Try.ntmps145; go_wp2_with fail; go_ret; exact ⟨rfl, rfl⟩
  case list => obtain ⟨a, c, rfl⟩ := hj; go_enter Try.func145, Try.ntmps145; go_wp2_with fail; go_ret; exact ⟨rfl, rfl⟩
  case map => obtain ⟨b, rfl⟩ := hj; go_enter Try.func145, Try.ntmps145; go_wp2_with fail; go_ret; exact ⟨rfl, rfl⟩
set_option maxRecDepth 100000 in
theorem IsFloat_any (j : JV) (w : World) (r : Value) (hj : JForm j r) : Calls Try.prog 144 #[.agg #[r]] w fun e w' => e = .returned (.bool (JV.IsFloat j)) ∧ w' = w.alloc (.cells #[r] 173) := by
  cases j <;> unfold JForm at hj
  case null => subst hj; go_enter Try.func144, Try.ntmps144; go_wp2_with fail; go_ret; exact ⟨rfl, rfl⟩
  case bool => subst hj; go_enter Try.func144, Try.ntmps144; go_wp2_with fail; go_ret; exact ⟨rfl, rfl⟩
  case int => subst hj; go_enter Try.func144, Try.ntmps144; go_wp2_with fail; go_ret; exact ⟨rfl, rfl⟩
  case flt => subst hj; go_enter Try.func144, Try.ntmps144; go_wp2_with fail; go_ret; exact ⟨rfl, rfl⟩
  case str => subst hj; go_enter Try.func144, Try.ntmps144; go_wp2_with fail; go_ret; exact ⟨rfl, rfl⟩
  case list => obtain ⟨a, c, rfl⟩ := hj; go_enter Try.func144, Try.ntmps144; go_wp2_with fail; go_ret; exact ⟨rfl, rfl⟩
  case map => obtain ⟨b, rfl⟩ := hj; go_enter Try.func144, Try.ntmps144; go_wp2_with fail; go_ret; exact ⟨rfl, rfl⟩
set_option maxRecDepth 100000 in
theorem IsString_any (j : JV) (w : World) (r : Value) (hj : JForm j r) : Calls Try.prog 149 #[.agg #[r]] w fun e w' => e = .returned (.bool (JV.IsString j)) ∧ w' = w.alloc (.cells #[r] 173) := by
  cases j <;> unfold JForm at hj
  case null => subst hj; go_enter Try.func149, Try.ntmps149; go_wp2_with fail; go_ret; exact ⟨rfl, rfl⟩
  case bool => subst hj; go_enter Try.func149, Try.ntmps149; go_wp2_with fail; go_ret; exact ⟨rfl, rfl⟩
  case int => subst hj; go_enter Try.func149, Try.ntmps149; go_wp2_with fail; go_ret; exact ⟨rfl, rfl⟩
  case flt => subst hj; go_enter Try.func149, Try.ntmps149; go_wp2_with fail; go_ret; exact ⟨rfl, rfl⟩
  case str => subst hj; go_enter Try.func149, Try.ntmps149; go_wp2_with fail; go_ret; exact ⟨rfl, rfl⟩
  case list => obtain ⟨a, c, rfl⟩ := hj; go_enter Try.func149, Try.ntmps149; go_wp2_with fail; go_ret; exact ⟨rfl, rfl⟩
  case map => obtain ⟨b, rfl⟩ := hj; go_enter Try.func149, Try.ntmps149; go_wp2_with fail; go_ret; exact ⟨rfl, rfl⟩
set_option maxRecDepth 100000 in
theorem IsNull_any (j : JV) (w : World) (r : Value) (hj : JForm j r) : Calls Try.prog 148 #[.agg #[r]] w fun e w' => e = .returned (.bool (JV.IsNull j)) ∧ w' = w.alloc (.cells #[r] 173) := by
  cases j <;> unfold JForm at hj
  case null => subst hj; go_enter Try.func148, Try.ntmps148; go_wp2_with fail; go_ret; exact ⟨rfl, rfl⟩
  case bool => subst hj; go_enter Try.func148, Try.ntmps148; go_wp2_with fail; go_ret; exact ⟨rfl, rfl⟩
  case int => subst hj; go_enter Try.func148, Try.ntmps148; go_wp2_with fail; go_ret; exact ⟨rfl, rfl⟩
  case flt => subst hj; go_enter Try.func148, Try.ntmps148; go_wp2_with fail; go_ret; exact ⟨rfl, rfl⟩
  case str => subst hj; go_enter Try.func148, Try.ntmps148; go_wp2_with fail; go_ret; exact ⟨rfl, rfl⟩
  case list => obtain ⟨a, c, rfl⟩ := hj; go_enter Try.func148, Try.ntmps148; go_wp2_with fail; go_ret; exact ⟨rfl, rfl⟩
  case map => obtain ⟨b, rfl⟩ := hj; go_enter Try.func148, Try.ntmps148; go_wp2_with fail; go_ret; exact ⟨rfl, rfl⟩
end Go.Proofs.Ytbbacpdbbmjblaa
end
section
namespace Go.Proofs.Ytbbacpdbbmjblaa
open Go.RowKit
set_option linter.unusedSimpArgs false
set_option maxRecDepth 100000 in
theorem AsBool_any (x : Bool) (w : World) : Calls Try.prog 135 #[.agg #[.iface 4 (.bool x)]] w fun e w' => e = .returned (.bool x) ∧ w' = w.alloc (.cells #[.iface 4 (.bool x)] 173) := by
  go_enter Try.func135, Try.ntmps135
  go_wp2_with fail
  go_ret
  exact ⟨rfl, rfl⟩
set_option maxRecDepth 100000 in
theorem AsInt_any (x : Int) (w : World) : Calls Try.prog 137 #[.agg #[.iface 2 (.int .i64 x)]] w fun e w' => e = .returned (.int .i64 x) ∧ w' = w.alloc (.cells #[.iface 2 (.int .i64 x)] 173) := by
  go_enter Try.func137, Try.ntmps137
  go_wp2_with fail
  go_ret
  exact ⟨rfl, rfl⟩
set_option maxRecDepth 100000 in
theorem AsFloat_any (x : Nat) (w : World) : Calls Try.prog 136 #[.agg #[.iface 40 (.float .f64 x)]] w fun e w' => e = .returned (.float .f64 x) ∧ w' = w.alloc (.cells #[.iface 40 (.float .f64 x)] 173) := by
  go_enter Try.func136, Try.ntmps136
  go_wp2_with fail
  go_ret
  exact ⟨rfl, rfl⟩
set_option maxRecDepth 100000 in
theorem AsString_any (x : ByteArray) (w : World) : Calls Try.prog 142 #[.agg #[.iface 9 (.string x)]] w fun e w' => e = .returned (.string x) ∧ w' = w.alloc (.cells #[.iface 9 (.string x)] 173) := by
  go_enter Try.func142, Try.ntmps142
  go_wp2_with fail
  go_ret
  exact ⟨rfl, rfl⟩
end Go.Proofs.Ytbbacpdbbmjblaa
end
