/- impl.fromTree of a map: the walk. -/
import Derived.Test.YtlghpcokbppkfaaFromMap
namespace Go.Proofs.Ytlghpcokbppkfaa
open Go.RowKit
set_option linter.unusedSimpArgs false

set_option maxHeartbeats 2000000 in
set_option maxRecDepth 100000 in
theorem from_map (m : List (ByteArray × JV)) (ih : ∀ y ∈ m, FromC y.2) : FromC (.map m) := by
  intro w v hv hok
  unfold IsJ at hv
  obtain ⟨bm, es, cl, rfl, hbm, hmap, hst, _, hes⟩ := hv
  unfold JOk at hok
  obtain ⟨hnd, hm88, hokm⟩ := hok
  obtain ⟨hkeys, hkz⟩ := keys_of_es hes
  have hlen := hes.length
  obtain ⟨i6, hi6, hz60, hz61, hz62⟩ := info_parts Try.infoVal
  have hbm2 := hbm.2
  have hmap2 : ((w.alloc (.cells #[.int .i64 0, .int .i64 0, .float .f64 0, .string ⟨#[]⟩, .slice none 0 0, .slice none 0 0] 26)).alloc (.cells #[.int .i64 6, .int .i64 0, .float .f64 0, .string ⟨#[]⟩, .slice none 0 0, .slice none 0 0] 26)).heap[bm]? = some (.map es cl) := by
    rw [Below.heap_alloc _ _ _ (by simp; omega), Below.heap_alloc _ _ _ hbm2]; exact hmap
  have hsk := sortedKeys_any (m.map (·.1)) (fun k hk => by obtain ⟨x, hx, rfl⟩ := List.mem_map.1 hk; exact hkz x hx) (by simpa using hm88) bm es cl (by rw [hkeys]; simp) hst ((w.alloc (.cells #[.int .i64 0, .int .i64 0, .float .f64 0, .string ⟨#[]⟩, .slice none 0 0, .slice none 0 0] 26)).alloc (.cells #[.int .i64 6, .int .i64 0, .float .f64 0, .string ⟨#[]⟩, .slice none 0 0, .slice none 0 0] 26)) hmap2
  have HSK := Lib.hid hsk
  clear hsk hmap2
  have HES := Lib.hid hes
  have HKEYS := Lib.hid hkeys
  have HOKM := Lib.hid hokm
  have HST := Lib.hid hst
  have HND := Lib.hid hnd
  clear hes hkeys hokm hst hnd
  go_enter Try.func90, Try.ntmps90
  go_wp2_with (go_at_call 125; (with_reducible refine HSK.out.mono ?_))
  rintro e w2 ⟨AK, CK, out, rfl, hB2, hinc, hmem, hol, hownK⟩
  simp only [List.length_map] at hol hownK ⊢
  have b0 := blk_below (blk_alloc (new_block (w := w) (b := w.heap.size) (o := (.cells #[.int .i64 0, .int .i64 0, .float .f64 0, .string ⟨#[]⟩, .slice none 0 0, .slice none 0 0] 26)) rfl) (.cells #[.int .i64 6, .int .i64 0, .float .f64 0, .string ⟨#[]⟩, .slice none 0 0, .slice none 0 0] 26)) hB2
  have b1 := blk_below (new_block (w := w.alloc (.cells #[.int .i64 0, .int .i64 0, .float .f64 0, .string ⟨#[]⟩, .slice none 0 0, .slice none 0 0] 26)) (b := w.heap.size + 1) (o := (.cells #[.int .i64 6, .int .i64 0, .float .f64 0, .string ⟨#[]⟩, .slice none 0 0, .slice none 0 0] 26)) (by simp)) hB2
  have hB0 := (((Below.refl w.heap.size w).alloc (Nat.le_refl _) (.cells #[.int .i64 0, .int .i64 0, .float .f64 0, .string ⟨#[]⟩, .slice none 0 0, .slice none 0 0] 26)).alloc (by simp) (.cells #[.int .i64 6, .int .i64 0, .float .f64 0, .string ⟨#[]⟩, .slice none 0 0, .slice none 0 0] 26)).trans (hB2.mono (by simp; omega))
  have hs0 : w.heap.size + 2 ≤ w2.heap.size := by have := hB2.size; simp at this; exact this
  have hownK2 : w2.ownsRow (w.heap.size + 2) 9 1 (.slice AK m.length CK) m.length (out.map Value.string) := by simpa using hownK
  clear hB2 hownK HSK
  generalize hM : w.heap.size = M at *
  have HM := Lib.hid hM; clear hM
  have b1' : (w2.setCell ⟨M + 1, 4, none⟩ (.slice AK m.length CK)).heap[M + 1]? = some (.cells #[.int .i64 6, .int .i64 0, .float .f64 0, .string ⟨#[]⟩, .slice AK m.length CK, .slice none 0 0] 26 (0, 0)) := blk_set b1 4 _
  have b0' := blk_far b0 (p := ⟨M + 1, 4, none⟩) (by show M ≠ M + 1; omega) (.slice AK m.length CK)
  have hB0' := hB0.setCell (p := ⟨M + 1, 4, none⟩) (by show M ≤ M + 1; omega) (.slice AK m.length CK)
  have hownK' := ownsRow_setCell_below hownK2 (a := ⟨M + 1, 4, none⟩) (by show M + 1 < M + 2; omega) (.slice AK m.length CK)
  have hs0' : M + 2 ≤ (w2.setCell ⟨M + 1, 4, none⟩ (.slice AK m.length CK)).heap.size := by simpa using hs0
  have c4 : w2.cell? ⟨M + 1, 4, none⟩ = some (.slice none 0 0) := blk_c b1 4 rfl
  have f4 := blk_frozen b1 4
  clear b0 b1 hB0 hownK2 hs0
  go_upto_if 66 with (fail)
  clear c4 f4
  generalize w2.setCell ⟨M + 1, 4, none⟩ (.slice AK m.length CK) = w0 at *
  have hvl : (valsOf m out).length = m.length := by simp [valsOf, hol]
  go_loopw [66] (fun i wr => ∃ k A C xs, k ≤ m.length ∧ i = .int .i64 (k : Nat) ∧ wr.heap[M + 1]? = some (.cells #[.int .i64 6, .int .i64 0, .float .f64 0, .string ⟨#[]⟩, .slice AK m.length CK, .slice A k C] 26 (0, 0)) ∧
      wr.ownsRow (M + 2) 9 1 (.slice AK m.length CK) m.length (out.map Value.string) ∧
      wr.ownsRow (M + 2) 26 6 (.slice A k C) k xs ∧ VCells wr (fun b => Btw (M + 2) wr.heap.size b ∧ (Value.slice A k C).ownBlock ≠ some b) ((valsOf m out).take k) xs ∧ Below (M + 1) w0 wr)
    (fun i _ => m.length - (intOf i).toNat)
  case atStart => exact ⟨0, none, 0, [], Nat.zero_le _, rfl, b1', hownK', World.ownsRow_nil _ _ _ _, by simp [VCells], Below.refl _ _⟩
  case round =>
    obtain ⟨k, A, C, xs, hk, rfl, hout, hownK, hown, hall, hB⟩ := hrel
    have hsz : M + 2 ≤ wr.heap.size := by have := blk_lt hout; omega
    by_cases hlt : k < m.length
    · obtain ⟨q, hq⟩ : ∃ q, m.length = q + 1 := ⟨m.length - 1, by omega⟩
      obtain ⟨gK, hgK, _, _, _⟩ := own_some (n := q) (by rw [← hq]; exact hownK)
      subst hgK
      obtain ⟨key, hkey⟩ : ∃ key, out[k]? = some key := ⟨out[k]'(by omega), by simp⟩
      have hck : wr.cell? ⟨gK, k, none⟩ = some (.string key) := own_cell hownK (by rw [List.getElem?_map, hkey]; rfl)
      obtain ⟨⟨key', jx⟩, hxm, hke⟩ := List.mem_map.1 ((hmem key).1 (List.mem_of_getElem? hkey))
      simp only at hke
      subst hke
      have hget : getA m key' = some jx := getA_of_mem HND.out hxm
      have hval : (valsOf m out)[k]? = some (unJ jx) := by unfold valsOf; rw [List.getElem?_map, hkey, Option.map_some, hget]; rfl
      have hBw : Below M w wr := hB0'.trans (hB.mono (by omega))
      obtain ⟨e, he, hek, hej⟩ := (HES.out.keep (S' := Btw 0 wr.heap.size) (Btw.kept hBw) (Btw.mono (Nat.le_refl _) (by omega))).get hxm
      have hmapr : wr.drew.heap[bm]? = some (.map es cl) := (hBw.block bm hbm2).trans hmap
      have hlk := run_lookup_str (P := Try.prog) (w := wr.drew) Try.underlying164 Try.underlying9 hmapr HST.out (fun x hx => HES.out.keys x hx) he hek
      have hc := ih _ hxm
      have hxo : JOk jx := JOkm_mem HOKM.out _ hxm
      have HV := Lib.hid hval
      have HXO := Lib.hid hxo
      have hxd := hej.drew_
      have HXD := Lib.hid hxd
      have o5 : wr.cell? ⟨M + 1, 5, none⟩ = some (.slice A k C) := blk_c hout 5 rfl
      have j1 : (k : Int) < (m.length : Int) := by omega
      have j0 : (0 : Int) ≤ (k : Int) := by omega
      have hk1 : k + 1 ≤ maxLen := by unfold maxLen; omega
      have hk2 : (k + 1) * 88 ≤ 140737488355328 := by omega
      have hownd := hown.drew
      clear hkey hmapr hval hxo hxd hget hek he hej hxm hmem hkz hlen hq
      go_wp2_with fail
      refine wp_region_K (fun w' => w'.cell? ⟨M + 1, 5, none⟩ = some (.slice A k C)) [0, 1, 2, 3, 8] (by kernel_rfl) ?_ (fun hHeld => ?_)
      · exact o5
      refine wpK_take (i := 0) (v := ?_) rfl (by kernel_rfl) (by kernel_rfl) (by kernel_rfl) (by kernel_rfl) (.inl ⟨by rfl, ?_⟩) hHeld ?_
      rotate_left
      · (intro w hSw; (try dsimp only at hSw); go_split_ands; go_simp; (try with_reducible rfl))
      try simp only [Act.put, List.setIfInBounds_toArray, List.set_cons_zero, List.set_cons_succ]
      refine wpK_take (i := 1) (v := ?_) rfl (by kernel_rfl) (by kernel_rfl) (by kernel_rfl) (by kernel_rfl) (.inl ⟨by rfl, ?_⟩) hHeld ?_
      rotate_left
      · (intro w hSw; (try dsimp only at hSw); go_split_ands; go_simp; (try with_reducible rfl))
      try simp only [Act.put, List.setIfInBounds_toArray, List.set_cons_zero, List.set_cons_succ]
      refine wpK_take (i := 2) (v := ?_) rfl (by kernel_rfl) (by kernel_rfl) (by kernel_rfl) (by kernel_rfl) (.inl ⟨by rfl, ?_⟩) hHeld ?_
      rotate_left
      · (intro w hSw; (try dsimp only at hSw); go_split_ands; go_simp; (try with_reducible rfl))
      try simp only [Act.put, List.setIfInBounds_toArray, List.set_cons_zero, List.set_cons_succ]
      refine wpK_take (i := 3) (v := ?_) rfl (by kernel_rfl) (by kernel_rfl) (by kernel_rfl) (by kernel_rfl) (.inl ⟨by rfl, ?_⟩) hHeld ?_
      rotate_left
      · (intro w hSw; (try dsimp only at hSw); go_split_ands; go_simp; (try with_reducible rfl))
      try simp only [Act.put, List.setIfInBounds_toArray, List.set_cons_zero, List.set_cons_succ]
      refine wpK_one (i := 4) (by kernel_rfl) rfl (fun K hK => ?_)
      go_simp
      refine hK.out _ _ ?_ (fun hHeld => ?_)
      · exact hHeld
      clear hK K
      try simp only [Act.put, List.setIfInBounds_toArray, List.set_cons_zero, List.set_cons_succ]
      refine wpK_one (i := 5) (by kernel_rfl) rfl (fun K hK => ?_)
      go_simp
      (with_reducible refine (hc.use _ _ HXD.out HXO.out).mono ?_)
      rintro e w3 ⟨r, rfl, hB2, hr⟩
      obtain ⟨a0, d0, a1, d1, rfl⟩ := hr.form
      refine hK.out _ _ ?_ (fun hHeld => ?_)
      · exact cell_below hB2 hHeld
      clear hK K
      try simp only [Act.put, List.setIfInBounds_toArray, List.set_cons_zero, List.set_cons_succ]
      refine wpK_one (i := 6) (by kernel_rfl) rfl (fun K hK => ?_)
      go_simp
      refine hK.out _ _ ?_ (fun hHeld => ?_)
      · exact cell_below ((Below.refl _ _).alloc (Nat.le_refl _) _) hHeld
      clear hK K
      try simp only [Act.put, List.setIfInBounds_toArray, List.set_cons_zero, List.set_cons_succ]
      refine wpK_one (i := 7) (by kernel_rfl) rfl (fun K hK => ?_)
      have q1 := ones_val (unJ jx).kind (unJ jx).n (unJ jx).f (unJ jx).s a0 a1 (unJ jx).keys.length d0 (unJ jx).l.length d1
      have q2 := reads_new w3 (.int .i64 (unJ jx).kind) (.int .i64 (unJ jx).n) (.float .f64 (unJ jx).f) (.string (unJ jx).s) (.slice a0 (unJ jx).keys.length d0) (.slice a1 (unJ jx).l.length d1) 26
      have q3 := le_alloc hsz hB2 (.cells #[.int .i64 (unJ jx).kind, .int .i64 (unJ jx).n, .float .f64 (unJ jx).f, .string (unJ jx).s, .slice a0 (unJ jx).keys.length d0, .slice a1 (unJ jx).l.length d1] 26)
      have q4 := (own_below hownd hB2).alloc (.cells #[.int .i64 (unJ jx).kind, .int .i64 (unJ jx).n, .float .f64 (unJ jx).f, .string (unJ jx).s, .slice a0 (unJ jx).keys.length d0, .slice a1 (unJ jx).l.length d1] 26)
      have qK := (own_below hownK.drew hB2).alloc (.cells #[.int .i64 (unJ jx).kind, .int .i64 (unJ jx).n, .float .f64 (unJ jx).f, .string (unJ jx).s, .slice a0 (unJ jx).keys.length d0, .slice a1 (unJ jx).l.length d1] 26)
      refine step_append_s _ (by rfl) _ _ _ (by rfl) (M + 2) 26 i6 _ 6 88 Try.underlying24 hi6 hz60 hz61 hz62 rfl (by decide) (.slice A k C) k xs (by rfl) q4 _ (some ⟨w3.heap.size, 0, none⟩) 1 1 _ (by rfl) q2 q1 hk1 hk2 q3 ?_
      intro A2 C2 w4 hown3 hg3 hat3
      have bO3 := blk_grown (blk_alloc (blk_below (w := wr.drew) hout hB2) (.cells #[.int .i64 (unJ jx).kind, .int .i64 (unJ jx).n, .float .f64 (unJ jx).f, .string (unJ jx).s, .slice a0 (unJ jx).keys.length d0, .slice a1 (unJ jx).l.length d1] 26)) hg3 (own_notin q4 (Nat.lt_succ_self _))
      have hownK3 := own_keep_ne qK q4 (by decide) hg3
      have c53 : w4.cell? ⟨M + 1, 5, none⟩ = some (.slice A k C) := blk_c bO3 5 rfl
      have f53 := blk_frozen bO3 5
      refine hK.out _ _ ?_ (fun hHeld => ?_)
      · exact c53
      clear hK K
      try simp only [Act.put, List.setIfInBounds_toArray, List.set_cons_zero, List.set_cons_succ]
      refine wpK_take (i := 8) (v := ?_) rfl (by kernel_rfl) (by kernel_rfl) (by kernel_rfl) (by kernel_rfl) (.inl ⟨by rfl, ?_⟩) hHeld ?_
      rotate_left
      · (intro w hSw; (try dsimp only at hSw); go_split_ands; go_simp; (try with_reducible rfl))
      try simp only [Act.put, List.setIfInBounds_toArray, List.set_cons_zero, List.set_cons_succ]
      refine wpK_last (i := 9) (by kernel_rfl) (by kernel_rfl) rfl (fun K hK => ?_)
      go_simp
      refine hK.out _ _ ?_
      clear hK K
      try simp only [Act.put, List.setIfInBounds_toArray, List.set_cons_zero, List.set_cons_succ]
      refine wpK_done (by kernel_rfl) ?_ _
      have bO4 : (w4.setCell ⟨M + 1, 5, none⟩ (.slice A2 (k + 1) C2)).heap[M + 1]? = some (.cells #[.int .i64 6, .int .i64 0, .float .f64 0, .string ⟨#[]⟩, .slice (some ⟨gK, 0, none⟩) m.length CK, .slice A2 (k + 1) C2] 26 (0, 0)) := blk_set bO3 5 _
      have hown4 := ownsRow_setCell_below hown3 (a := ⟨M + 1, 5, none⟩) (Nat.lt_succ_self _) (.slice A2 (k + 1) C2)
      have hownK4 := ownsRow_setCell_below hownK3 (a := ⟨M + 1, 5, none⟩) (Nat.lt_succ_self _) (.slice A2 (k + 1) C2)
      have hs2 : wr.heap.size ≤ w3.heap.size := hB2.size
      have hs3 : w3.heap.size + 1 ≤ w4.heap.size := by have := hg3.size; simpa using this
      have hs4 : (w4.setCell ⟨M + 1, 5, none⟩ (.slice A2 (k + 1) C2)).heap.size = w4.heap.size := by simp
      have hBa := (hB.drew.trans (hB2.mono (by show M + 1 ≤ wr.heap.size; omega))).alloc (by omega) (.cells #[.int .i64 (unJ jx).kind, .int .i64 (unJ jx).n, .float .f64 (unJ jx).f, .string (unJ jx).s, .slice a0 (unJ jx).keys.length d0, .slice a1 (unJ jx).l.length d1] 26)
      have hB4 := (hBa.grown hg3 (by simp; omega) (own_ge hown (Nat.le_succ _))).setCell (p := ⟨M + 1, 5, none⟩) (Nat.le_refl _) (.slice A2 (k + 1) C2)
      have hkeep : ∀ b, M + 2 ≤ b → b < w3.heap.size → (Value.slice A k C).ownBlock ≠ some b → (w4.setCell ⟨M + 1, 5, none⟩ (.slice A2 (k + 1) C2)).heap[b]? = w3.heap[b]? := fun b h1 h2 h3 =>
        (Below.heap_setCell _ _ _ _ (by show b ≠ M + 1; omega)).trans ((hg3.block b (by simp; omega) (fun e => h3 e.symm)).trans (Below.heap_alloc _ _ _ h2))
      have hnew : ∀ b, b < w3.heap.size → (Value.slice A k C).ownBlock ≠ some b → (Value.slice A2 (k + 1) C2).ownBlock ≠ some b := fun b h1 h2 h3 => by
        rcases hat3 with h | h
        · exact h2 (h.symm.trans h3)
        · rw [h3] at h
          simp at h
          omega
      have hall4 : VCells (w4.setCell ⟨M + 1, 5, none⟩ (.slice A2 (k + 1) C2)) (fun b => Btw (M + 2) (w4.setCell ⟨M + 1, 5, none⟩ (.slice A2 (k + 1) C2)).heap.size b ∧ (Value.slice A2 (k + 1) C2).ownBlock ≠ some b) ((valsOf m out).take (k + 1)) (xs ++ [.int .i64 (unJ jx).kind, .int .i64 (unJ jx).n, .float .f64 (unJ jx).f, .string (unJ jx).s, .slice a0 (unJ jx).keys.length d0, .slice a1 (unJ jx).l.length d1]) := by
        rw [List.take_add_one, HV.out]
        refine (hall.keep (fun b hb => ?_) (fun b hb => ?_)).app (VCells.one (hr.keep (fun b hb => ?_) (fun b hb => ?_)))
        · have h1 := hb.1.1; have h2 := hb.1.2
          exact (hkeep b h1 (by omega) hb.2).trans (hB2.block b h2)
        · have h1 := hb.1.1; have h2 := hb.1.2
          exact ⟨⟨h1, by rw [hs4]; omega⟩, hnew b (by omega) hb.2⟩
        · have h1 : wr.heap.size ≤ b := hb.1
          exact hkeep b (by omega) hb.2 (fun e => by have := (hown.lt b e).2; omega)
        · have h1 : wr.heap.size ≤ b := hb.1
          have h2 := hb.2
          exact ⟨⟨by omega, by rw [hs4]; omega⟩, hnew b hb.2 (fun e => by have := (hown.lt b e).2; omega)⟩
      have HF := Lib.hid (And.intro bO4 (And.intro hownK4 (And.intro hown4 (And.intro hall4 hB4))))
      clear bO4 hown4 hownK4 hownK3 qK hall4 hB4 hkeep hnew hBa hs4 hs3 hs2 f53 c53 bO3 hat3 hg3 hown3 q1 q2 q3 q4 hr hB2 HXD HXO hownd hBw hB hall hown hownK hout o5 hlk hB0' b0' b1' hownK'
      generalize (w4.setCell ⟨M + 1, 5, none⟩ (.slice A2 (k + 1) C2)) = w5 at *
      go_wp2_with fail
      go_roundw
      case rel => exact ⟨k + 1, A2, C2, _, hlt, by go_num, HF.out.1, HF.out.2.1, HF.out.2.2.1, HF.out.2.2.2.1, HF.out.2.2.2.2⟩
      case measure => simp [intOf]; omega
    · have hkl : k = m.length := by omega
      subst hkl
      rw [List.take_of_length_le (by rw [hvl]; omega)] at hall
      have hr0 := blk_under b0' hB (by omega)
      have o0 : wr.cell? ⟨M + 1, 0, none⟩ = some (.int .i64 6) := blk_c hout 0 rfl
      have o1 : wr.cell? ⟨M + 1, 1, none⟩ = some (.int .i64 0) := blk_c hout 1 rfl
      have o2 : wr.cell? ⟨M + 1, 2, none⟩ = some (.float .f64 0) := blk_c hout 2 rfl
      have o3 : wr.cell? ⟨M + 1, 3, none⟩ = some (.string ⟨#[]⟩) := blk_c hout 3 rfl
      have o4 : wr.cell? ⟨M + 1, 4, none⟩ = some (.slice AK m.length CK) := blk_c hout 4 rfl
      have o5 : wr.cell? ⟨M + 1, 5, none⟩ = some (.slice A m.length C) := blk_c hout 5 rfl
      have q0 : wr.cell? ⟨M, 0, none⟩ = some (.int .i64 0) := blk_c hr0 0 rfl
      have q1 : wr.cell? ⟨M, 1, none⟩ = some (.int .i64 0) := blk_c hr0 1 rfl
      have q2 : wr.cell? ⟨M, 2, none⟩ = some (.float .f64 0) := blk_c hr0 2 rfl
      have q3 : wr.cell? ⟨M, 3, none⟩ = some (.string ⟨#[]⟩) := blk_c hr0 3 rfl
      have q4 : wr.cell? ⟨M, 4, none⟩ = some (.slice none 0 0) := blk_c hr0 4 rfl
      have q5 : wr.cell? ⟨M, 5, none⟩ = some (.slice none 0 0) := blk_c hr0 5 rfl
      have f0 := blk_frozen hr0 0
      have f1 := blk_frozen hr0 1
      have f2 := blk_frozen hr0 2
      have f3 := blk_frozen hr0 3
      have f4 := blk_frozen hr0 4
      have f5 := blk_frozen hr0 5
      have hBw : Below M w wr := hB0'.trans (hB.mono (by omega))
      have hoz : ∀ s ∈ out, s.size ≤ maxLen := fun s hs => by
        obtain ⟨x, hx, e⟩ := List.mem_map.1 ((hmem s).1 hs)
        rw [← e]; exact hkz x hx
      have hun := unM_sorted HND.out hinc hmem
      have HUN := Lib.hid hun
      have HOZ := Lib.hid hoz
      have HAL := Lib.hid (And.intro hall (And.intro hown hownK))
      clear hall hown hownK hB b0' b1' ih hout hun hoz hmem hinc hkz hmap hownK' hB0'
      go_wp2_with fail
      have hblk := st6_blk (c0 := .int .i64 6) (c1 := .int .i64 0) (c2 := .float .f64 0) (c3 := .string ⟨#[]⟩) (c4 := .slice AK m.length CK) (c5 := .slice A m.length C) hr0
      have hfin : IsV (st6 wr M (.int .i64 6) (.int .i64 0) (.float .f64 0) (.string ⟨#[]⟩) (.slice AK m.length CK) (.slice A m.length C)) (Btw M (st6 wr M (.int .i64 6) (.int .i64 0) (.float .f64 0) (.string ⟨#[]⟩) (.slice AK m.length CK) (.slice A m.length C)).heap.size) (unJ (.map m)) (.agg #[.int .i64 6, .int .i64 0, .float .f64 0, .string ⟨#[]⟩, .slice AK m.length CK, .slice A m.length C]) := by
        rw [st6_size]
        obtain ⟨hall, hown, hownK⟩ := HAL.out
        rw [HUN.out]
        have hrows := rows_of_own (S := Btw (M + 2) wr.heap.size) (l := valsOf m out) (base := M + 2) (by rw [hvl]; exact hown) (fun b hb => ⟨(hown.lt b hb).1, (hown.lt b hb).2⟩) (hall.keep (fun _ _ => rfl) (fun b hb => hb.1))
        obtain ⟨A', C', e', hC, hx⟩ := hrows
        rw [hvl] at e' hC
        injection e' with e1 _ e3
        subst e1 e3
        have hstrs : IsStrs wr (Btw (M + 2) wr.heap.size) (.slice AK m.length CK) out := IsStrs.of_own (base := M + 2) (by rw [hol]; exact hownK) (fun b hb => ⟨(hownK.lt b hb).1, (hownK.lt b hb).2⟩) (by rw [hol]; omega) HOZ.out
        refine IsV.mk_ (by decide) (by decide) (by decide) (by decide) (hstrs.keep (fun b hb => st6_eq (by have := hb.1; omega)) (Btw.mono (by omega) (Nat.le_refl _))) (by rw [hvl]; exact hm88) ⟨A, C, by rw [hvl], by rw [hvl]; exact hC, ?_⟩
        rcases hx with hx | ⟨b, o, hb, ha, hx⟩
        · exact .inl hx
        · exact .inr ⟨b, o, ⟨by have := hb.1; omega, hb.2⟩, ha, IsVs.keep (S := Btw (M + 2) wr.heap.size) (fun b hb => st6_eq (by have := hb.1; omega)) (Btw.mono (by omega) (Nat.le_refl _)) _ b o hb hx⟩
      have hBf : Below M w (st6 wr M (.int .i64 6) (.int .i64 0) (.float .f64 0) (.string ⟨#[]⟩) (.slice AK m.length CK) (.slice A m.length C)) := st6_below hBw (by omega)
      refine bodyPost_ret (v := (.agg #[.int .i64 6, .int .i64 0, .float .f64 0, .string ⟨#[]⟩, .slice AK m.length CK, .slice A m.length C])) ?_ rfl ?_
      · have e0 := blk_c hblk 0 (u := .int .i64 6) rfl
        have e1 := blk_c hblk 1 (u := .int .i64 0) rfl
        have e2 := blk_c hblk 2 (u := .float .f64 0) rfl
        have e3 := blk_c hblk 3 (u := .string ⟨#[]⟩) rfl
        have e4 := blk_c hblk 4 (u := .slice AK m.length CK) rfl
        have e5 := blk_c hblk 5 (u := .slice A m.length C) rfl
        unfold st6 at e0 e1 e2 e3 e4 e5
        simp [results, Try.results90, go_sem, e0, e1, e2, e3, e4, e5]
      · unfold st6 at hfin hBf
        rw [HM.out]
        exact ⟨_, rfl, hBf, hfin⟩

/-- fromTree takes a tree apart. -/
theorem from_any : ∀ j : JV, FromC j
  | .null => from_scalar _ ⟨fun _ h => (by cases h), fun _ h => (by cases h)⟩
  | .bool _ => from_scalar _ ⟨fun _ h => (by cases h), fun _ h => (by cases h)⟩
  | .int _ => from_scalar _ ⟨fun _ h => (by cases h), fun _ h => (by cases h)⟩
  | .flt _ => from_scalar _ ⟨fun _ h => (by cases h), fun _ h => (by cases h)⟩
  | .str _ => from_scalar _ ⟨fun _ h => (by cases h), fun _ h => (by cases h)⟩
  | .list l => from_list l (fun y hy => from_any y)
  | .map m => from_map m (fun y hy => from_any y.2)
termination_by j => SizeOf.sizeOf j
decreasing_by
  · have := List.sizeOf_lt_of_mem hy
    simp; omega
  · have := List.sizeOf_lt_of_mem hy
    obtain ⟨k, j⟩ := y
    simp at this ⊢; omega
end Go.Proofs.Ytlghpcokbppkfaa
