/- impl.fromTree of a list. -/
import Derived.Test.YtlghpcokbppkfaaFromTree
namespace Go.Proofs.Ytlghpcokbppkfaa
open Go.RowKit
set_option linter.unusedSimpArgs false

theorem JOks_mem : ∀ {l : List JV}, JOks l → ∀ y ∈ l, JOk y
  | x :: r, h, y, hy => by
    simp only [JOks] at h
    rcases List.mem_cons.1 hy with rfl | hy
    · exact h.1
    · exact JOks_mem h.2 y hy
theorem unJs_at : ∀ (l : List JV) (i : Nat), (unJs l)[i]? = (l[i]?).map unJ
  | [], i => by simp [unJs]
  | x :: r, 0 => by simp [unJs]
  | x :: r, i + 1 => by simp [unJs, unJs_at r i]
theorem unJs_length : ∀ l, (unJs l).length = l.length
  | [] => by simp [unJs]
  | x :: r => by simp [unJs, unJs_length r]

theorem ones_val (k n : Int) (f : Nat) (s : ByteArray) (a0 a1 : Option Addr) (n0 c0 n1 c1 : Nat) : ∀ u ∈ [Value.int .i64 k, .int .i64 n, .float .f64 f, .string s, .slice a0 n0 c0, .slice a1 n1 c1], u.oneCell' = true := by
  intro u hu; simp at hu; rcases hu with rfl | rfl | rfl | rfl | rfl | rfl <;> rfl
theorem reads_new (w : World) (c0 c1 c2 c3 c4 c5 : Value) (t : TypeId) : Reads (w.alloc (.cells #[c0, c1, c2, c3, c4, c5] t)) (w.heap.size + 1) 6 (some ⟨w.heap.size, 0, none⟩) 1 [c0, c1, c2, c3, c4, c5] :=
  ⟨rfl, fun _ => ⟨_, rfl, Nat.lt_succ_self _, World.news_of_block (cs := #[c0, c1, c2, c3, c4, c5]) (t := t) (fr := (0, 0)) (new_block rfl)⟩⟩
theorem le_alloc {m : Nat} {w w2 : World} (h : m ≤ w.heap.size) (hB : Below w.drew.heap.size w.drew w2) (o : Obj) : m ≤ (w2.alloc o).heap.size := by
  have := hB.size
  have e : w.drew.heap.size = w.heap.size := rfl
  simp; omega

set_option maxHeartbeats 2000000 in
set_option maxRecDepth 100000 in
theorem from_list (l : List JV) (ih : ∀ y ∈ l, FromC y) : FromC (.list l) := by
  intro w v hv hok
  unfold IsJ at hv
  obtain ⟨a, c, rfl, hz, hl⟩ := hv
  unfold JOk at hok
  obtain ⟨hz88, hoks⟩ := hok
  have hok' := JOks_mem hoks
  clear hoks
  obtain ⟨i6, hi6, hz60, hz61, hz62⟩ := info_parts Try.infoVal
  go_enter Try.func90, Try.ntmps90
  go_wp2_with fail
  have b0 := blk_alloc (new_block (w := w) (b := w.heap.size) (o := (.cells #[.int .i64 0, .int .i64 0, .float .f64 0, .string ⟨#[]⟩, .slice none 0 0, .slice none 0 0] 26)) rfl) (.cells #[.int .i64 5, .int .i64 0, .float .f64 0, .string ⟨#[]⟩, .slice none 0 0, .slice none 0 0] 26)
  have b1 := new_block (w := w.alloc (.cells #[.int .i64 0, .int .i64 0, .float .f64 0, .string ⟨#[]⟩, .slice none 0 0, .slice none 0 0] 26)) (b := w.heap.size + 1) (o := (.cells #[.int .i64 5, .int .i64 0, .float .f64 0, .string ⟨#[]⟩, .slice none 0 0, .slice none 0 0] 26)) (by simp)
  have hB0 := (((Below.refl w.heap.size w).alloc (Nat.le_refl _) (.cells #[.int .i64 0, .int .i64 0, .float .f64 0, .string ⟨#[]⟩, .slice none 0 0, .slice none 0 0] 26)).alloc (by simp) (.cells #[.int .i64 5, .int .i64 0, .float .f64 0, .string ⟨#[]⟩, .slice none 0 0, .slice none 0 0] 26))
  have hs0 : ((w.alloc (.cells #[.int .i64 0, .int .i64 0, .float .f64 0, .string ⟨#[]⟩, .slice none 0 0, .slice none 0 0] 26)).alloc (.cells #[.int .i64 5, .int .i64 0, .float .f64 0, .string ⟨#[]⟩, .slice none 0 0, .slice none 0 0] 26)).heap.size = w.heap.size + 2 := by simp
  generalize (w.alloc (.cells #[.int .i64 0, .int .i64 0, .float .f64 0, .string ⟨#[]⟩, .slice none 0 0, .slice none 0 0] 26)).alloc (.cells #[.int .i64 5, .int .i64 0, .float .f64 0, .string ⟨#[]⟩, .slice none 0 0, .slice none 0 0] 26) = w0 at *
  generalize hM : w.heap.size = M at *
  have HM := Lib.hid hM; clear hM
  go_loopw [43] (fun i wr => ∃ k A C xs, k ≤ l.length ∧ i = .int .i64 (k : Nat) ∧ wr.heap[M + 1]? = some (.cells #[.int .i64 5, .int .i64 0, .float .f64 0, .string ⟨#[]⟩, .slice none 0 0, .slice A k C] 26 (0, 0)) ∧
      wr.ownsRow (M + 2) 26 6 (.slice A k C) k xs ∧ VCells wr (fun b => Btw (M + 2) wr.heap.size b ∧ (Value.slice A k C).ownBlock ≠ some b) ((unJs l).take k) xs ∧ Below (M + 1) w0 wr)
    (fun i _ => l.length - (intOf i).toNat)
  case atStart => exact ⟨0, none, 0, [], Nat.zero_le _, rfl, b1, World.ownsRow_nil _ _ _ _, by simp [VCells], Below.refl _ _⟩
  case round =>
    obtain ⟨k, A, C, xs, hk, rfl, hout, hown, hall, hB⟩ := hrel
    have hsz : M + 2 ≤ wr.heap.size := by have := blk_lt hout; omega
    by_cases hlt : k < l.length
    · obtain ⟨b, o, hb, rfl, hcells⟩ : ∃ b o, Btw 0 M b ∧ a = some ⟨b, o, none⟩ ∧ IsJs w (Btw 0 M) l b o := by
        rcases hl with rfl | hl
        · simp at hlt
        · exact hl
      obtain ⟨x, hx⟩ : ∃ x, l[k]? = some x := ⟨l[k], by simp [hlt]⟩
      have hBw : Below M w wr := hB0.trans (hB.mono (by omega))
      obtain ⟨cx, hcx, hxv⟩ := (IsJs.keep (S' := Btw 0 wr.heap.size) (Btw.kept hBw) (Btw.mono (Nat.le_refl _) (by omega)) l b o hb hcells).at_ hx
      have hc := ih x (List.mem_of_getElem? hx)
      have hxo := hok' x (List.mem_of_getElem? hx)
      have HX := Lib.hid hx
      have HXO := Lib.hid hxo
      have hxd := hxv.drew_
      have HXD := Lib.hid hxd
      have o5 : wr.cell? ⟨M + 1, 5, none⟩ = some (.slice A k C) := blk_c hout 5 rfl
      have j1 : (k : Int) < (l.length : Int) := by omega
      have j0 : (0 : Int) ≤ (k : Int) := by omega
      clear hx hcells hok' hxo hxv hxd hl
      have hk1 : k + 1 ≤ maxLen := by unfold maxLen; omega
      have hk2 : (k + 1) * 88 ≤ 140737488355328 := by omega
      have hownd := hown.drew
      go_wp2_with fail
      refine wp_region_K (fun w' => w'.cell? ⟨M + 1, 5, none⟩ = some (.slice A k C)) [0, 1, 2, 6] (by kernel_rfl) ?_ (fun hHeld => ?_)
      · exact o5
      refine wpK_take (i := 0) (v := ?_) rfl (by kernel_rfl) (by kernel_rfl) (by kernel_rfl) (by kernel_rfl) (.inl ⟨by rfl, ?_⟩) hHeld ?_
      rotate_left
      · (intro w hSw; (try dsimp only at hSw); go_split_ands; go_simp; (try with_reducible rfl))
      try simp only [Act.put, List.setIfInBounds_toArray, List.set_cons_zero, List.set_cons_succ]
      refine wpK_take (i := 1) (v := ?_) rfl (by kernel_rfl) (by kernel_rfl) (by kernel_rfl) (by kernel_rfl) (.inl ⟨by rfl, ?_⟩) hHeld ?_
      rotate_left
      · (intro w hSw; (try dsimp only at hSw); go_split_ands; go_simp; (try with_reducible rfl))
      try simp only [Act.put, List.setIfInBounds_toArray, List.set_cons_zero, List.set_cons_succ]
      refine wpK_take (i := 2) (v := ?_) rfl (by kernel_rfl) (by kernel_rfl) (by kernel_rfl) (by kernel_rfl) (.inl ⟨by rfl, ?_⟩) hHeld ?_
      rotate_left
      · (intro w hSw; (try dsimp only at hSw); go_split_ands; go_simp; (try with_reducible rfl))
      try simp only [Act.put, List.setIfInBounds_toArray, List.set_cons_zero, List.set_cons_succ]
      refine wpK_one (i := 3) (by kernel_rfl) rfl (fun K hK => ?_)
      go_simp
      (with_reducible refine (hc.use _ _ HXD.out HXO.out).mono ?_)
      rintro e w2 ⟨r, rfl, hB2, hr⟩
      obtain ⟨a0, d0, a1, d1, rfl⟩ := hr.form
      refine hK.out _ _ ?_ (fun hHeld => ?_)
      · exact cell_below hB2 hHeld
      clear hK K
      try simp only [Act.put, List.setIfInBounds_toArray, List.set_cons_zero, List.set_cons_succ]
      refine wpK_one (i := 4) (by kernel_rfl) rfl (fun K hK => ?_)
      go_simp
      refine hK.out _ _ ?_ (fun hHeld => ?_)
      · exact cell_below ((Below.refl _ _).alloc (Nat.le_refl _) _) hHeld
      clear hK K
      try simp only [Act.put, List.setIfInBounds_toArray, List.set_cons_zero, List.set_cons_succ]
      refine wpK_one (i := 5) (by kernel_rfl) rfl (fun K hK => ?_)
      have q1 := ones_val (unJ x).kind (unJ x).n (unJ x).f (unJ x).s a0 a1 (unJ x).keys.length d0 (unJ x).l.length d1
      have q2 := reads_new w2 (.int .i64 (unJ x).kind) (.int .i64 (unJ x).n) (.float .f64 (unJ x).f) (.string (unJ x).s) (.slice a0 (unJ x).keys.length d0) (.slice a1 (unJ x).l.length d1) 26
      have q3 := le_alloc hsz hB2 (.cells #[.int .i64 (unJ x).kind, .int .i64 (unJ x).n, .float .f64 (unJ x).f, .string (unJ x).s, .slice a0 (unJ x).keys.length d0, .slice a1 (unJ x).l.length d1] 26)
      have q4 := (own_below hownd hB2).alloc (.cells #[.int .i64 (unJ x).kind, .int .i64 (unJ x).n, .float .f64 (unJ x).f, .string (unJ x).s, .slice a0 (unJ x).keys.length d0, .slice a1 (unJ x).l.length d1] 26)
      refine step_append_s _ (by rfl) _ _ _ (by rfl) (M + 2) 26 i6 _ 6 88 Try.underlying24 hi6 hz60 hz61 hz62 rfl (by decide) (.slice A k C) k xs (by rfl) q4 _ (some ⟨w2.heap.size, 0, none⟩) 1 1 _ (by rfl) q2 q1 hk1 hk2 q3 ?_
      intro A2 C2 w3 hown3 hg3 hat3
      have bO3 := blk_grown (blk_alloc (blk_below (w := wr.drew) hout hB2) (.cells #[.int .i64 (unJ x).kind, .int .i64 (unJ x).n, .float .f64 (unJ x).f, .string (unJ x).s, .slice a0 (unJ x).keys.length d0, .slice a1 (unJ x).l.length d1] 26)) hg3 (own_notin q4 (Nat.lt_succ_self _))
      have c53 : w3.cell? ⟨M + 1, 5, none⟩ = some (.slice A k C) := blk_c bO3 5 rfl
      have f53 := blk_frozen bO3 5
      refine hK.out _ _ ?_ (fun hHeld => ?_)
      · exact c53
      clear hK K
      try simp only [Act.put, List.setIfInBounds_toArray, List.set_cons_zero, List.set_cons_succ]
      refine wpK_take (i := 6) (v := ?_) rfl (by kernel_rfl) (by kernel_rfl) (by kernel_rfl) (by kernel_rfl) (.inl ⟨by rfl, ?_⟩) hHeld ?_
      rotate_left
      · (intro w hSw; (try dsimp only at hSw); go_split_ands; go_simp; (try with_reducible rfl))
      try simp only [Act.put, List.setIfInBounds_toArray, List.set_cons_zero, List.set_cons_succ]
      refine wpK_last (i := 7) (by kernel_rfl) (by kernel_rfl) rfl (fun K hK => ?_)
      go_simp
      refine hK.out _ _ ?_
      clear hK K
      try simp only [Act.put, List.setIfInBounds_toArray, List.set_cons_zero, List.set_cons_succ]
      refine wpK_done (by kernel_rfl) ?_ _
      have bO4 : (w3.setCell ⟨M + 1, 5, none⟩ (.slice A2 (k + 1) C2)).heap[M + 1]? = some (.cells #[.int .i64 5, .int .i64 0, .float .f64 0, .string ⟨#[]⟩, .slice none 0 0, .slice A2 (k + 1) C2] 26 (0, 0)) := blk_set bO3 5 _
      have hown4 := ownsRow_setCell_below hown3 (a := ⟨M + 1, 5, none⟩) (Nat.lt_succ_self _) (.slice A2 (k + 1) C2)
      have hs2 : wr.heap.size ≤ w2.heap.size := hB2.size
      have hs3 : w2.heap.size + 1 ≤ w3.heap.size := by have := hg3.size; simpa using this
      have hs4 : (w3.setCell ⟨M + 1, 5, none⟩ (.slice A2 (k + 1) C2)).heap.size = w3.heap.size := by simp
      have hBa := (hB.drew.trans (hB2.mono (by show M + 1 ≤ wr.heap.size; omega))).alloc (by omega) (.cells #[.int .i64 (unJ x).kind, .int .i64 (unJ x).n, .float .f64 (unJ x).f, .string (unJ x).s, .slice a0 (unJ x).keys.length d0, .slice a1 (unJ x).l.length d1] 26)
      have hB4 := (hBa.grown hg3 (by simp; omega) (own_ge hown (Nat.le_succ _))).setCell (p := ⟨M + 1, 5, none⟩) (Nat.le_refl _) (.slice A2 (k + 1) C2)
      have hkeep : ∀ b, M + 2 ≤ b → b < w2.heap.size → (Value.slice A k C).ownBlock ≠ some b → (w3.setCell ⟨M + 1, 5, none⟩ (.slice A2 (k + 1) C2)).heap[b]? = w2.heap[b]? := fun b h1 h2 h3 =>
        (Below.heap_setCell _ _ _ _ (by show b ≠ M + 1; omega)).trans ((hg3.block b (by simp; omega) (fun e => h3 e.symm)).trans (Below.heap_alloc _ _ _ h2))
      have hnew : ∀ b, b < w2.heap.size → (Value.slice A k C).ownBlock ≠ some b → (Value.slice A2 (k + 1) C2).ownBlock ≠ some b := fun b h1 h2 h3 => by
        rcases hat3 with h | h
        · exact h2 (h.symm.trans h3)
        · rw [h3] at h
          simp at h
          omega
      have hall4 : VCells (w3.setCell ⟨M + 1, 5, none⟩ (.slice A2 (k + 1) C2)) (fun b => Btw (M + 2) (w3.setCell ⟨M + 1, 5, none⟩ (.slice A2 (k + 1) C2)).heap.size b ∧ (Value.slice A2 (k + 1) C2).ownBlock ≠ some b) ((unJs l).take (k + 1)) (xs ++ [.int .i64 (unJ x).kind, .int .i64 (unJ x).n, .float .f64 (unJ x).f, .string (unJ x).s, .slice a0 (unJ x).keys.length d0, .slice a1 (unJ x).l.length d1]) := by
        rw [List.take_add_one, unJs_at, HX.out]
        refine (hall.keep (fun b hb => ?_) (fun b hb => ?_)).app (VCells.one (hr.keep (fun b hb => ?_) (fun b hb => ?_)))
        · have h1 := hb.1.1; have h2 := hb.1.2
          exact (hkeep b h1 (by omega) hb.2).trans (hB2.block b h2)
        · have h1 := hb.1.1; have h2 := hb.1.2
          exact ⟨⟨h1, by rw [hs4]; omega⟩, hnew b (by omega) hb.2⟩
        · have h1 : wr.heap.size ≤ b := hb.1
          exact hkeep b (by omega) hb.2 (fun e => by have := (hown.lt b e).2; omega)
        · have h1 : wr.heap.size ≤ b := hb.1
          have h2 := hb.2
          exact ⟨⟨by omega, by rw [hs4]; omega⟩, hnew b hb.2 (fun e => by have := (hown.lt b e).2; omega)⟩
      have HF := Lib.hid (And.intro bO4 (And.intro hown4 (And.intro hall4 hB4)))
      clear bO4 hown4 hall4 hB4 hkeep hnew hBa hs4 hs3 hs2 f53 c53 bO3 hat3 hg3 hown3 q1 q2 q3 q4 hr hB2 HXD HXO hownd hBw hB hall hown hout o5 b0 b1 hB0
      generalize w3.setCell ⟨M + 1, 5, none⟩ (.slice A2 (k + 1) C2) = w4 at *
      go_wp2_with fail
      go_roundw
      case rel => exact ⟨k + 1, A2, C2, _, hlt, by go_num, HF.out.1, HF.out.2.1, HF.out.2.2.1, HF.out.2.2.2⟩
      case measure => simp [intOf]; omega
    · have hkl : k = l.length := by omega
      subst hkl
      rw [List.take_of_length_le (by rw [unJs_length]; omega)] at hall
      have hr0 := blk_under b0 hB (by omega)
      have o0 : wr.cell? ⟨M + 1, 0, none⟩ = some (.int .i64 5) := blk_c hout 0 rfl
      have o1 : wr.cell? ⟨M + 1, 1, none⟩ = some (.int .i64 0) := blk_c hout 1 rfl
      have o2 : wr.cell? ⟨M + 1, 2, none⟩ = some (.float .f64 0) := blk_c hout 2 rfl
      have o3 : wr.cell? ⟨M + 1, 3, none⟩ = some (.string ⟨#[]⟩) := blk_c hout 3 rfl
      have o4 : wr.cell? ⟨M + 1, 4, none⟩ = some (.slice none 0 0) := blk_c hout 4 rfl
      have o5 : wr.cell? ⟨M + 1, 5, none⟩ = some (.slice A l.length C) := blk_c hout 5 rfl
      have q0 : wr.cell? ⟨M, 0, none⟩ = some (.int .i64 0) := blk_c hr0 0 rfl
      have q1 : wr.cell? ⟨M, 1, none⟩ = some (.int .i64 0) := blk_c hr0 1 rfl
      have q2 : wr.cell? ⟨M, 2, none⟩ = some (.float .f64 0) := blk_c hr0 2 rfl
      have q3 : wr.cell? ⟨M, 3, none⟩ = some (.string ⟨#[]⟩) := blk_c hr0 3 rfl
      have q4 : wr.cell? ⟨M, 4, none⟩ = some (.slice none 0 0) := blk_c hr0 4 rfl
      have q5 : wr.cell? ⟨M, 5, none⟩ = some (.slice none 0 0) := blk_c hr0 5 rfl
      have f0 := blk_frozen hr0 0
      have f1 := blk_frozen hr0 1
      have f2 := blk_frozen hr0 2
      have f3 := blk_frozen hr0 3
      have f4 := blk_frozen hr0 4
      have f5 := blk_frozen hr0 5
      have hBw : Below M w wr := hB0.trans (hB.mono (by omega))
      have HAL := Lib.hid (And.intro hall hown)
      clear hall hown hl hB b0 b1 ih hok' hout
      go_wp2_with fail
      have hblk := st6_blk (c0 := .int .i64 5) (c1 := .int .i64 0) (c2 := .float .f64 0) (c3 := .string ⟨#[]⟩) (c4 := .slice none 0 0) (c5 := .slice A l.length C) hr0
      have hfin : IsV (st6 wr M (.int .i64 5) (.int .i64 0) (.float .f64 0) (.string ⟨#[]⟩) (.slice none 0 0) (.slice A l.length C)) (Btw M (st6 wr M (.int .i64 5) (.int .i64 0) (.float .f64 0) (.string ⟨#[]⟩) (.slice none 0 0) (.slice A l.length C)).heap.size) (unJ (.list l))
          (.agg #[.int .i64 5, .int .i64 0, .float .f64 0, .string ⟨#[]⟩, .slice none 0 0, .slice A l.length C]) := by
        rw [st6_size]
        obtain ⟨hall, hown⟩ := HAL.out
        have e : unJ (.list l) = .mk 5 0 0 ByteArray.empty [] (unJs l) := by simp [unJ]
        rw [e]
        have hrows := rows_of_own (S := Btw (M + 2) wr.heap.size) (l := unJs l) (base := M + 2) (by rw [unJs_length]; exact hown) (fun b hb => ⟨(hown.lt b hb).1, (hown.lt b hb).2⟩) (hall.keep (fun _ _ => rfl) (fun b hb => hb.1))
        obtain ⟨A', C', e', hC, hx⟩ := hrows
        rw [unJs_length] at e' hC
        injection e' with e1 _ e3
        subst e1 e3
        refine IsV.mk_ (by decide) (by decide) (by decide) (by decide) ⟨none, 0, rfl, Nat.le_refl _, by decide, by simp, fun h => by simp at h⟩ (by rw [unJs_length]; exact hz88) ⟨A, C, by rw [unJs_length], by rw [unJs_length]; exact hC, ?_⟩
        rcases hx with hx | ⟨b, o, hb, ha, hx⟩
        · exact .inl hx
        · exact .inr ⟨b, o, ⟨by have := hb.1; omega, hb.2⟩, ha, IsVs.keep (S := Btw (M + 2) wr.heap.size) (fun b hb => st6_eq (by have := hb.1; omega)) (Btw.mono (by omega) (Nat.le_refl _)) _ b o hb hx⟩
      have hBf : Below M w (st6 wr M (.int .i64 5) (.int .i64 0) (.float .f64 0) (.string ⟨#[]⟩) (.slice none 0 0) (.slice A l.length C)) := st6_below hBw (by omega)
      refine bodyPost_ret (v := .agg #[.int .i64 5, .int .i64 0, .float .f64 0, .string ⟨#[]⟩, .slice none 0 0, .slice A l.length C]) ?_ rfl ?_
      · have e0 := blk_c hblk 0 (u := .int .i64 5) rfl
        have e1 := blk_c hblk 1 (u := .int .i64 0) rfl
        have e2 := blk_c hblk 2 (u := .float .f64 0) rfl
        have e3 := blk_c hblk 3 (u := .string ⟨#[]⟩) rfl
        have e4 := blk_c hblk 4 (u := .slice none 0 0) rfl
        have e5 := blk_c hblk 5 (u := .slice A l.length C) rfl
        unfold st6 at e0 e1 e2 e3 e4 e5
        simp [results, Try.results90, go_sem, e0, e1, e2, e3, e4, e5]
      · unfold st6 at hfin hBf
        rw [HM.out]
        exact ⟨_, rfl, hBf, hfin⟩
end Go.Proofs.Ytlghpcokbppkfaa
