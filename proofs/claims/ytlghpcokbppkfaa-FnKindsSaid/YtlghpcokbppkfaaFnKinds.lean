/- laws.FnKinds answers true. -/
import Derived.Test.YtlghpcokbppkfaaFits
import Derived.Test.YtlghpcokbppkfaaCleanAll
namespace Go.Proofs.Ytlghpcokbppkfaa
open Go.RowKit
set_option linter.unusedSimpArgs false

theorem cleanV_kind (x : GV) : (cleanV x).kind = if x.kind = 1 then 1 else if x.kind = 2 then 2 else if x.kind = 3 then 3 else if x.kind = 4 then 4 else if x.kind = 5 then 5 else if x.kind = 6 then 6 else 0 := by
  obtain ⟨k, n, f, s, ks, l⟩ := x
  show _ = if k = 1 then _ else _
  unfold cleanV
  by_cases h1 : k = 1
  · simp only [if_pos h1]; rfl
  by_cases h2 : k = 2
  · simp only [if_neg h1, if_pos h2]; simp [h2, GV.kind]
  by_cases h3 : k = 3
  · simp only [if_neg h1, if_neg h2, if_pos h3]; simp [h3, GV.kind]
  by_cases h4 : k = 4
  · simp only [if_neg h1, if_neg h2, if_neg h3, if_pos h4]; simp [h4, GV.kind]
  by_cases h5 : k = 5
  · simp only [if_neg h1, if_neg h2, if_neg h3, if_neg h4, if_pos h5]; simp [h5, GV.kind]
  by_cases h6 : k = 6
  · simp only [if_neg h1, if_neg h2, if_neg h3, if_neg h4, if_neg h5, if_pos h6]
    obtain ⟨a, b, h, _⟩ := (cleanM_plain ks l gMap gMap_plain).1
    show (cleanM ks l gMap).kind = _
    rw [h]
    simp [h6, GV.kind]
  simp [h1, h2, h3, h4, h5, h6, GV.kind, gNull]

/-- The kinds, in the law's order. -/
def kindOrder : List Int := [6, 5, 1, 2, 3, 4, 0]

theorem kinds_law (x : GV) (i : Nat) (hi : i < 7) : (kindsJ (plainJ x)).getD i false = (kindOrder.getD i 0 == (cleanV x).kind) := by
  rw [cleanV_kind]
  obtain ⟨k, n, f, s, ks, l⟩ := x
  simp only [GV.kind]
  unfold plainJ
  by_cases h1 : k = 1
  · subst h1; match i, hi with
    | 0, _ | 1, _ | 2, _ | 3, _ | 4, _ | 5, _ | 6, _ => rfl
  by_cases h2 : k = 2
  · subst h2; match i, hi with
    | 0, _ | 1, _ | 2, _ | 3, _ | 4, _ | 5, _ | 6, _ => rfl
  by_cases h3 : k = 3
  · subst h3; match i, hi with
    | 0, _ | 1, _ | 2, _ | 3, _ | 4, _ | 5, _ | 6, _ => rfl
  by_cases h4 : k = 4
  · subst h4; match i, hi with
    | 0, _ | 1, _ | 2, _ | 3, _ | 4, _ | 5, _ | 6, _ => rfl
  by_cases h5 : k = 5
  · subst h5; match i, hi with
    | 0, _ | 1, _ | 2, _ | 3, _ | 4, _ | 5, _ | 6, _ => rfl
  by_cases h6 : k = 6
  · subst h6; match i, hi with
    | 0, _ | 1, _ | 2, _ | 3, _ | 4, _ | 5, _ | 6, _ => rfl
  simp only [h1, h2, h3, h4, h5, h6, if_false]
  match i, hi with
  | 0, _ | 1, _ | 2, _ | 3, _ | 4, _ | 5, _ | 6, _ => rfl

theorem field_kind (n : Int) (c1 c2 c3 c4 c5 : Value) (w : World) : (Instr.field 26 (.agg #[.int .i64 n, c1, c2, c3, c4, c5]) 0).run Try.prog w = .ok (.int .i64 n) w := by kernel_rfl

set_option maxHeartbeats 2000000 in
set_option maxRecDepth 100000 in
theorem fnKinds_any (x : GV) (w : World) (v : Value) (hv : IsV w (Btw 0 w.heap.size) x v) :
    Calls Try.prog 3 #[v] w fun e w' => e = .returned (.bool true) ∧ Below w.heap.size w w' := by
  have hv0 := hv
  obtain ⟨a0, c0, a1, c1, rfl⟩ := hv.form
  clear hv
  have hB0 : Below w.heap.size w (w.alloc (.cells #[.int .i64 x.kind, .int .i64 x.n, .float .f64 x.f, .string x.s, .slice a0 x.keys.length c0, .slice a1 x.l.length c1] 26)) := (Below.refl _ _).alloc (Nat.le_refl _) _
  have hbox := new_block (w := w) (b := w.heap.size) (o := (.cells #[.int .i64 x.kind, .int .i64 x.n, .float .f64 x.f, .string x.s, .slice a0 x.keys.length c0, .slice a1 x.l.length c1] 26)) rfl
  have hv1 := hv0.alloc_ (.cells #[.int .i64 x.kind, .int .i64 x.n, .float .f64 x.f, .string x.s, .slice a0 x.keys.length c0, .slice a1 x.l.length c1] 26)
  clear hv0
  go_enter Try.func3, Try.ntmps3
  go_wp2_with (go_at_call 15; (with_reducible refine (fits5_any x _ _ ?_).mono ?_))
  · simpa using hv1
  rintro e w2 ⟨_, rfl, ⟨b, rfl⟩, hB2⟩
  have hv2 := hv1.below_ hB2
  have hbox2 := blk_below hbox hB2
  have hB := hB0.trans (hB2.mono hB0.size)
  clear hv1 hbox hB2 hB0
  generalize hM : w.heap.size = M at *
  have HM := Lib.hid hM; clear hM
  cases b
  · have q0 : w2.cell? ⟨M, 0, none⟩ = some (.int .i64 x.kind) := blk_c hbox2 0 rfl
    go_wp2_with fail
    go_ret
    rw [HM.out]
    exact ⟨rfl, hB⟩
  have q0 : w2.cell? ⟨M, 0, none⟩ = some (.int .i64 x.kind) := blk_c hbox2 0 rfl
  have q1 : w2.cell? ⟨M, 1, none⟩ = some (.int .i64 x.n) := blk_c hbox2 1 rfl
  have q2 : w2.cell? ⟨M, 2, none⟩ = some (.float .f64 x.f) := blk_c hbox2 2 rfl
  have q3 : w2.cell? ⟨M, 3, none⟩ = some (.string x.s) := blk_c hbox2 3 rfl
  have q4 : w2.cell? ⟨M, 4, none⟩ = some (.slice a0 x.keys.length c0) := blk_c hbox2 4 rfl
  have q5 : w2.cell? ⟨M, 5, none⟩ = some (.slice a1 x.l.length c1) := blk_c hbox2 5 rfl
  have hlt : M < w2.heap.size := blk_lt hbox2
  go_wp2_with (go_at_call 16; (with_reducible refine (kinds_any x _ _ ?_).mono ?_))
  · simpa using hv2.alloc_ (.cells #[.int .i64 6, .int .i64 5, .int .i64 1, .int .i64 2, .int .i64 3, .int .i64 4, .int .i64 0] 28)
  rintro e w3 ⟨b, hb, rfl, hk3, hB3⟩
  have hv3 := (hv2.alloc_ (.cells #[.int .i64 6, .int .i64 5, .int .i64 1, .int .i64 2, .int .i64 3, .int .i64 4, .int .i64 0] 28)).below_ hB3
  have hbox3 := blk_below (blk_alloc hbox2 (.cells #[.int .i64 6, .int .i64 5, .int .i64 1, .int .i64 2, .int .i64 3, .int .i64 4, .int .i64 0] 28)) hB3
  have harr3 := blk_below (new_block (w := w2) (b := w2.heap.size) (o := .cells #[.int .i64 6, .int .i64 5, .int .i64 1, .int .i64 2, .int .i64 3, .int .i64 4, .int .i64 0] 28) rfl) hB3
  have hBw := (hB.alloc (by omega) (.cells #[.int .i64 6, .int .i64 5, .int .i64 1, .int .i64 2, .int .i64 3, .int .i64 4, .int .i64 0] 28)).trans (hB3.mono (by simp; omega))
  have hs3 : M ≤ w3.heap.size := by have := blk_lt hbox3; omega
  have hlaw := kinds_law x
  generalize hA : w2.heap.size = A at *
  clear hv2 hbox2 hB hB3 hb hlt hA q0 q1 q2 q3 q4 q5
  have hkl : (kindsJ (plainJ x)).length = 7 := rfl
  generalize kindsJ (plainJ x) = kj at *
  go_wp2_with fail
  go_loopw [18] (fun i wr => ∃ k, k ≤ 7 ∧ i = .int .i64 (k : Nat) ∧ Below w3.heap.size w3 wr) (fun i _ => 7 - (intOf i).toNat)
  case atStart => exact ⟨0, Nat.zero_le _, rfl, Below.refl _ _⟩
  case round =>
    obtain ⟨k, hk, rfl, hBr⟩ := hrel
    by_cases hlt : k < 7
    · have i0 : (0 : Int) ≤ (k : Int) := by omega
      have i1 : (k : Int) < 7 := by omega
      have e1 : wr.cell? ⟨b, k, none⟩ = some (.bool (kj.getD k false)) := blk_c (blk_below hk3 hBr) k (by simp [List.getD, hkl, hlt])
      have e2 : wr.cell? ⟨A, k, none⟩ = some (.int .i64 (kindOrder.getD k 0)) := blk_c (blk_below harr3 hBr) k (by
        match k, hlt with
        | 0, _ | 1, _ | 2, _ | 3, _ | 4, _ | 5, _ | 6, _ => rfl)
      have hl := hlaw k hlt
      have hbr := blk_below hbox3 hBr
      have q0 : wr.cell? ⟨M, 0, none⟩ = some (.int .i64 x.kind) := blk_c hbr 0 rfl
      have q1 : wr.cell? ⟨M, 1, none⟩ = some (.int .i64 x.n) := blk_c hbr 1 rfl
      have q2 : wr.cell? ⟨M, 2, none⟩ = some (.float .f64 x.f) := blk_c hbr 2 rfl
      have q3 : wr.cell? ⟨M, 3, none⟩ = some (.string x.s) := blk_c hbr 3 rfl
      have q4 : wr.cell? ⟨M, 4, none⟩ = some (.slice a0 x.keys.length c0) := blk_c hbr 4 rfl
      have q5 : wr.cell? ⟨M, 5, none⟩ = some (.slice a1 x.l.length c1) := blk_c hbr 5 rfl
      have hvr := (hv3.below_ hBr).drew_
      have hc := clean_any x
      generalize kindOrder.getD k 0 = ok at *
      obtain ⟨cx, hcx⟩ : ∃ cx, cx = cleanV x := ⟨_, rfl⟩
      rw [hl, ← hcx] at e1
      have HCX := Lib.hid hcx
      have hfd := field_kind
      clear hl hbr hlaw hcx hk3 harr3 hbox3 hv3
      go_wp2_with fail
      refine wp_region_K (fun w' => w'.cell? ⟨A, k, none⟩ = some (.int .i64 ok) ∧ w'.cell? ⟨M, 0, none⟩ = some (.int .i64 x.kind) ∧ w'.cell? ⟨M, 1, none⟩ = some (.int .i64 x.n) ∧ w'.cell? ⟨M, 2, none⟩ = some (.float .f64 x.f) ∧ w'.cell? ⟨M, 3, none⟩ = some (.string x.s) ∧ w'.cell? ⟨M, 4, none⟩ = some (.slice a0 x.keys.length c0) ∧ w'.cell? ⟨M, 5, none⟩ = some (.slice a1 x.l.length c1)) [0, 1, 2, 3, 4, 6, 7, 8] (by kernel_rfl) ?_ (fun hHeld => ?_)
      · exact ⟨e2, q0, q1, q2, q3, q4, q5⟩
      refine wpK_take (i := 0) (v := ?_) rfl (by kernel_rfl) (by kernel_rfl) (by kernel_rfl) (by kernel_rfl) (.inl ⟨by rfl, ?_⟩) hHeld ?_
      rotate_left
      · (intro w hSw; (try dsimp only at hSw); go_split_ands; go_simp; (try with_reducible rfl))
      try simp only [Act.put, List.setIfInBounds_toArray, List.set_cons_zero, List.set_cons_succ]
      refine wpK_take (i := 1) (v := ?_) rfl (by kernel_rfl) (by kernel_rfl) (by kernel_rfl) (by kernel_rfl) (.inl ⟨by rfl, ?_⟩) hHeld ?_
      rotate_left
      · (intro w hSw; (try dsimp only at hSw); go_split_ands; go_simp; (try with_reducible rfl))
      try simp only [Act.put, List.setIfInBounds_toArray, List.set_cons_zero, List.set_cons_succ]
      refine wpK_take (i := 2) (v := ?_) rfl (by kernel_rfl) (by kernel_rfl) (by kernel_rfl) (by kernel_rfl) (.inl ⟨by rfl, ?_⟩) hHeld ?_
      rotate_left
      · (intro w hSw; (try dsimp only at hSw); go_split_ands; go_simp; (try with_reducible rfl))
      try simp only [Act.put, List.setIfInBounds_toArray, List.set_cons_zero, List.set_cons_succ]
      refine wpK_take (i := 3) (v := ?_) rfl (by kernel_rfl) (by kernel_rfl) (by kernel_rfl) (by kernel_rfl) (.inl ⟨by rfl, ?_⟩) hHeld ?_
      rotate_left
      · (intro w hSw; (try dsimp only at hSw); go_split_ands; go_simp; (try with_reducible rfl))
      try simp only [Act.put, List.setIfInBounds_toArray, List.set_cons_zero, List.set_cons_succ]
      refine wpK_take (i := 4) (v := ?_) rfl (by kernel_rfl) (by kernel_rfl) (by kernel_rfl) (by kernel_rfl) (.inl ⟨by rfl, ?_⟩) hHeld ?_
      rotate_left
      · (intro w hSw; (try dsimp only at hSw); go_split_ands; go_simp; (try with_reducible rfl))
      try simp only [Act.put, List.setIfInBounds_toArray, List.set_cons_zero, List.set_cons_succ]
      refine wpK_one (i := 5) (by kernel_rfl) rfl (fun K hK => ?_)
      go_simp
      (with_reducible refine (hc.use _ _ hvr).mono ?_)
      rintro e w4 ⟨r, rfl, hB4, hr⟩
      rw [← HCX.out] at hr
      obtain ⟨b0, d0, b1, d1, rfl⟩ := hr.form
      clear hr
      refine hK.out _ _ ?_ (fun hHeld => ?_)
      · exact ⟨cell_below hB4 hHeld.1, cell_below hB4 hHeld.2.1, cell_below hB4 hHeld.2.2.1, cell_below hB4 hHeld.2.2.2.1, cell_below hB4 hHeld.2.2.2.2.1, cell_below hB4 hHeld.2.2.2.2.2.1, cell_below hB4 hHeld.2.2.2.2.2.2⟩
      clear hK K
      try simp only [Act.put, List.setIfInBounds_toArray, List.set_cons_zero, List.set_cons_succ]
      refine wpK_take (i := 6) (v := ?_) rfl (by kernel_rfl) (by kernel_rfl) (by kernel_rfl) (by kernel_rfl) (.inl ⟨by rfl, ?_⟩) hHeld ?_
      rotate_left
      · (intro w hSw; (try dsimp only at hSw); go_split_ands; go_simp; (try with_reducible rfl))
      try simp only [Act.put, List.setIfInBounds_toArray, List.set_cons_zero, List.set_cons_succ]
      refine wpK_take (i := 7) (v := ?_) rfl (by kernel_rfl) (by kernel_rfl) (by kernel_rfl) (by kernel_rfl) (.inl ⟨by rfl, ?_⟩) hHeld ?_
      rotate_left
      · (intro w hSw; (try dsimp only at hSw); go_split_ands; go_simp; (try with_reducible rfl))
      try simp only [Act.put, List.setIfInBounds_toArray, List.set_cons_zero, List.set_cons_succ]
      refine wpK_take (i := 8) (v := ?_) rfl (by kernel_rfl) (by kernel_rfl) (by kernel_rfl) (by kernel_rfl) (.inl ⟨by rfl, ?_⟩) hHeld ?_
      rotate_left
      · (intro w hSw; (try dsimp only at hSw); go_split_ands; go_simp; (try with_reducible rfl))
      try simp only [Act.put, List.setIfInBounds_toArray, List.set_cons_zero, List.set_cons_succ]
      refine wpK_done (by kernel_rfl) ?_ _
      go_wp2_with fail
      go_roundw
      case rel => exact ⟨k + 1, hlt, by go_num, hBr.drew.trans (hB4.mono hBr.size)⟩
      case measure => simp [intOf]; omega
    · have hkl : k = 7 := by omega
      subst hkl
      go_wp2_with fail
      go_ret
      rw [HM.out]
      exact ⟨rfl, hBw.trans (hBr.mono hs3)⟩
end Go.Proofs.Ytlghpcokbppkfaa
