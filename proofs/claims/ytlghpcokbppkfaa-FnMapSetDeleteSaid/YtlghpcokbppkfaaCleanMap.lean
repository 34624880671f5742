/- spec.plainMap, spec.Clean. -/
import Derived.Test.YtlghpcokbppkfaaClean
namespace Go.Proofs.Ytlghpcokbppkfaa
open Go.RowKit
set_option linter.unusedSimpArgs false

def gMap : GV := .mk 6 0 0 ByteArray.empty [] []
theorem gMap_plain : Plain gMap := ⟨[], [], rfl, by simp [Incr], rfl⟩

theorem cleanM_step : ∀ (ks : List ByteArray) (l : List GV) (acc : GV) (k : Nat) (key : ByteArray) (x : GV), ks[k]? = some key → l[k]? = some x →
    cleanM (ks.take (k + 1)) l acc = withF (cleanM (ks.take k) l acc) key (cleanV x)
  | [], _, _, _, _, _, h, _ => by simp at h
  | _ :: _, [], _, _, _, _, _, h => by simp at h
  | y :: ks, z :: l, acc, 0, key, x, h, h' => by
    simp at h h'; subst h h'
    simp [cleanM]
  | y :: ks, z :: l, acc, k + 1, key, x, h, h' => by
    simp only [List.take_succ_cons, cleanM]
    exact cleanM_step ks l _ k key x (by simpa using h) (by simpa using h')
theorem cleanM_all : ∀ (ks : List ByteArray) (l : List GV) (acc : GV) (k : Nat), ks.length ≤ k ∨ l.length ≤ k → cleanM (ks.take k) l acc = cleanM ks l acc
  | [], _, _, _, _ => by simp
  | _ :: _, [], _, k, _ => by cases k <;> simp [cleanM]
  | y :: ks, z :: l, acc, 0, h => by simp at h
  | y :: ks, z :: l, acc, k + 1, h => by
    simp only [List.take_succ_cons, cleanM]
    exact cleanM_all ks l _ k (by simpa using h)
theorem cleanM_plain : ∀ (ks : List ByteArray) (l : List GV) (acc : GV), Plain acc → Plain (cleanM ks l acc) ∧ (cleanM ks l acc).l.length ≤ acc.l.length + ks.length
  | [], _, acc, h => by simpa [cleanM] using h
  | _ :: _, [], acc, h => by simpa [cleanM] using h
  | y :: ks, z :: l, acc, h => by
    simp only [cleanM]
    have h1 := withF_plain h y (cleanV z)
    have h2 := withF_len h y (cleanV z)
    have h3 := cleanM_plain ks l _ h1
    exact ⟨h3.1, by simp only [List.length_cons]; omega⟩

set_option maxHeartbeats 1000000 in
set_option maxRecDepth 100000 in
theorem cleanMap_any (x : GV) (ih : ∀ y ∈ x.l, CleanC y) (w : World) (v : Value) (hv : IsV w (Btw 0 w.heap.size) x v) :
    Calls Try.prog 67 #[v] w fun e w' => ∃ r, e = .returned r ∧ Below w.heap.size w w' ∧ IsV w' (Btw w.heap.size w'.heap.size) (cleanM x.keys x.l gMap) r := by
  obtain ⟨kd, n, f, s, ks, l⟩ := x
  unfold IsV at hv
  obtain ⟨vk, a, c, rfl, _, _, _, _, ⟨ak, ck, rfl, _, hkl, hkz, hkc⟩, _, h6, h7⟩ := hv
  show Calls Try.prog 67 _ w fun e w' => ∃ r, e = .returned r ∧ Below w.heap.size w w' ∧ IsV w' (Btw w.heap.size w'.heap.size) (cleanM ks l gMap) r
  go_enter Try.func67, Try.ntmps67
  go_wp2_with fail
  have b0 := blk_alloc (blk_alloc (new_block (w := w) (b := w.heap.size) (o := (.cells #[.int .i64 kd, .int .i64 n, .float .f64 f, .string s, .slice ak ks.length ck, .slice a l.length c] 26) ) rfl) (.cells #[.int .i64 0, .int .i64 0, .float .f64 0, .string ⟨#[]⟩, .slice none 0 0, .slice none 0 0] 26)) (.cells #[.int .i64 6, .int .i64 0, .float .f64 0, .string ⟨#[]⟩, .slice none 0 0, .slice none 0 0] 26)
  have bR := blk_alloc (new_block (w := w.alloc (.cells #[.int .i64 kd, .int .i64 n, .float .f64 f, .string s, .slice ak ks.length ck, .slice a l.length c] 26) ) (b := w.heap.size + 1) (o := (.cells #[.int .i64 0, .int .i64 0, .float .f64 0, .string ⟨#[]⟩, .slice none 0 0, .slice none 0 0] 26)) (by simp)) (.cells #[.int .i64 6, .int .i64 0, .float .f64 0, .string ⟨#[]⟩, .slice none 0 0, .slice none 0 0] 26)
  have bO := new_block (w := (w.alloc (.cells #[.int .i64 kd, .int .i64 n, .float .f64 f, .string s, .slice ak ks.length ck, .slice a l.length c] 26) ).alloc (.cells #[.int .i64 0, .int .i64 0, .float .f64 0, .string ⟨#[]⟩, .slice none 0 0, .slice none 0 0] 26)) (b := w.heap.size + 2) (o := (.cells #[.int .i64 6, .int .i64 0, .float .f64 0, .string ⟨#[]⟩, .slice none 0 0, .slice none 0 0] 26)) (by simp)
  have hB0 := (((Below.refl w.heap.size w).alloc (Nat.le_refl _) (.cells #[.int .i64 kd, .int .i64 n, .float .f64 f, .string s, .slice ak ks.length ck, .slice a l.length c] 26) ).alloc (by simp) (.cells #[.int .i64 0, .int .i64 0, .float .f64 0, .string ⟨#[]⟩, .slice none 0 0, .slice none 0 0] 26)).alloc (by simp; omega) (.cells #[.int .i64 6, .int .i64 0, .float .f64 0, .string ⟨#[]⟩, .slice none 0 0, .slice none 0 0] 26)
  have hs0 : (((w.alloc (.cells #[.int .i64 kd, .int .i64 n, .float .f64 f, .string s, .slice ak ks.length ck, .slice a l.length c] 26) ).alloc (.cells #[.int .i64 0, .int .i64 0, .float .f64 0, .string ⟨#[]⟩, .slice none 0 0, .slice none 0 0] 26)).alloc (.cells #[.int .i64 6, .int .i64 0, .float .f64 0, .string ⟨#[]⟩, .slice none 0 0, .slice none 0 0] 26)).heap.size = w.heap.size + 3 := by simp
  generalize ((w.alloc (.cells #[.int .i64 kd, .int .i64 n, .float .f64 f, .string s, .slice ak ks.length ck, .slice a l.length c] 26) ).alloc (.cells #[.int .i64 0, .int .i64 0, .float .f64 0, .string ⟨#[]⟩, .slice none 0 0, .slice none 0 0] 26)).alloc (.cells #[.int .i64 6, .int .i64 0, .float .f64 0, .string ⟨#[]⟩, .slice none 0 0, .slice none 0 0] 26) = w0 at *
  generalize hM : w.heap.size = M at *
  have HM := Lib.hid hM; clear hM
  go_loopw [4] (fun i wr => ∃ k kv lv, k ≤ ks.length ∧ i = .int .i64 (k : Nat) ∧ wr.heap[M + 2]? = some (.cells #[.int .i64 6, .int .i64 0, .float .f64 0, .string ⟨#[]⟩, kv, lv] 26 (0, 0)) ∧
      IsV wr (Btw (M + 3) wr.heap.size) (cleanM (ks.take k) l gMap) (.agg #[.int .i64 6, .int .i64 0, .float .f64 0, .string ⟨#[]⟩, kv, lv]) ∧ k ≤ l.length ∧ Below (M + 2) w0 wr)
    (fun i _ => ks.length - (intOf i).toNat)
  case atStart =>
    refine ⟨0, .slice none 0 0, .slice none 0 0, Nat.zero_le _, rfl, bO, ?_, Nat.zero_le _, Below.refl _ _⟩
    simp only [List.take_zero, cleanM]
    exact IsV.mk_ (by decide) (by decide) (by decide) (by decide) ⟨none, 0, rfl, Nat.le_refl _, by decide, by simp, fun h => by simp at h⟩ (by decide) ⟨none, 0, rfl, Nat.le_refl _, .inl rfl⟩
  case round =>
    obtain ⟨k, kv, lv, hk, rfl, hout, hacc, hkl', hB⟩ := hrel
    have hw4 : wr.cell? ⟨M, 4, none⟩ = some (.slice ak ks.length ck) := blk_c (blk_under b0 hB (by omega)) 4 rfl
    have hw5 : wr.cell? ⟨M, 5, none⟩ = some (.slice a l.length c) := blk_c (blk_under b0 hB (by omega)) 5 rfl
    have hsz : M + 3 ≤ wr.heap.size := by have := blk_lt hout; omega
    have hBw : Below M w wr := hB0.trans (hB.mono (by omega))
    by_cases hlt : k < ks.length ∧ k < l.length
    · obtain ⟨hlt1, hlt2⟩ := hlt
      obtain ⟨b1, o1, hb1, rfl, hkeys⟩ := hkc (by omega)
      obtain ⟨key, hkey⟩ : ∃ key, ks[k]? = some key := ⟨ks[k], by simp [hlt1]⟩
      have hck : wr.cell? ⟨b1, o1 + k, none⟩ = some (.string key) := by
        rw [hBw.cell (by exact hb1.2), hkeys k hlt1]; simp [List.getD, hkey]
      have hksz : key.size ≤ maxLen := hkz key (List.mem_of_getElem? hkey)
      obtain ⟨b, o, hb, rfl, hcells⟩ : ∃ b o, Btw 0 M b ∧ a = some ⟨b, o, none⟩ ∧ IsVs w (Btw 0 M) l b o := by
        rcases h7 with rfl | h7
        · simp at hlt2
        · exact h7
      obtain ⟨x, hx⟩ : ∃ x, l[k]? = some x := ⟨l[k], by simp [hlt2]⟩
      obtain ⟨a0, d0, a1, d1, g0, g1, g2, g3, g4, g5, hxv⟩ := (IsVs.keep (S' := Btw 0 wr.heap.size) (Btw.kept hBw) (Btw.mono (Nat.le_refl _) (by omega)) l b o hb hcells).cells hx
      have hc := ih x (List.mem_of_getElem? hx)
      have HK := Lib.hid hkey
      have HX := Lib.hid hx
      clear hx h7 hcells hkeys hkc hkey
      obtain ⟨-, -, -, -, ka, kd0, la, ld0, rfl, rfl⟩ := hacc.slices
      have hpl := cleanM_plain (ks.take k) l gMap gMap_plain
      have hal : (cleanM (ks.take k) l gMap).l.length ≤ k := by
        have h0 : gMap.l.length = 0 := rfl
        have h1 := hpl.2
        have h3 := List.length_take_le k ks
        omega
      generalize hacv : cleanM (ks.take k) l gMap = acc at *
      have HAC := Lib.hid hacv
      clear hacv
      have hpl1 := hpl.1
      obtain ⟨hpi, hpe⟩ : Incr acc.keys ∧ acc.keys.length = acc.l.length := by obtain ⟨q1, q2, rfl, q3, q4⟩ := hpl1; exact ⟨q3, q4⟩
      have HPE := Lib.hid hpe
      have HPL := Lib.hid hpl1
      clear hpl hpe hpl1
      have o0 : wr.cell? ⟨M + 2, 0, none⟩ = some (.int .i64 6) := blk_c hout 0 rfl
      have o1' : wr.cell? ⟨M + 2, 1, none⟩ = some (.int .i64 0) := blk_c hout 1 rfl
      have o2 : wr.cell? ⟨M + 2, 2, none⟩ = some (.float .f64 0) := blk_c hout 2 rfl
      have o3 : wr.cell? ⟨M + 2, 3, none⟩ = some (.string ⟨#[]⟩) := blk_c hout 3 rfl
      have o4 : wr.cell? ⟨M + 2, 4, none⟩ = some (.slice ka acc.keys.length kd0) := blk_c hout 4 rfl
      have o5 : wr.cell? ⟨M + 2, 5, none⟩ = some (.slice la acc.l.length ld0) := blk_c hout 5 rfl
      have i0 : (0 : Int) ≤ (k : Int) := by omega
      have i1 : (k : Int) < (ks.length : Int) := by omega
      have i2 : (k : Int) < (l.length : Int) := by omega
      have hxvd := hxv.drew_
      clear hxv
      go_wp2_with fail
      refine wp_region_K (fun w' => w'.cell? ⟨M + 2, 0, none⟩ = some (.int .i64 6) ∧ w'.cell? ⟨M + 2, 1, none⟩ = some (.int .i64 0) ∧ w'.cell? ⟨M + 2, 2, none⟩ = some (.float .f64 0) ∧ w'.cell? ⟨M + 2, 3, none⟩ = some (.string ⟨#[]⟩) ∧ w'.cell? ⟨M + 2, 4, none⟩ = some (.slice ka acc.keys.length kd0) ∧ w'.cell? ⟨M + 2, 5, none⟩ = some (.slice la acc.l.length ld0) ∧ w'.cell? ⟨M, 4, none⟩ = some (.slice (some ⟨b1, o1, none⟩) ks.length ck) ∧ w'.cell? ⟨M, 5, none⟩ = some (.slice (some ⟨b, o, none⟩) l.length c) ∧ w'.cell? ⟨b1, o1 + k, none⟩ = some (.string key) ∧ w'.cell? ⟨b, o + k * 6, none⟩ = some (.int .i64 x.kind) ∧ w'.cell? ⟨b, o + k * 6 + 1, none⟩ = some (.int .i64 x.n) ∧ w'.cell? ⟨b, o + k * 6 + 2, none⟩ = some (.float .f64 x.f) ∧ w'.cell? ⟨b, o + k * 6 + 3, none⟩ = some (.string x.s) ∧ w'.cell? ⟨b, o + k * 6 + 4, none⟩ = some (.slice a0 x.keys.length d0) ∧ w'.cell? ⟨b, o + k * 6 + 5, none⟩ = some (.slice a1 x.l.length d1)) [0, 1, 2, 3, 4, 5, 6, 7, 8, 9, 10] (by kernel_rfl) ?_ (fun hHeld => ?_)
      · exact ⟨o0, o1', o2, o3, o4, o5, hw4, hw5, hck, g0, g1, g2, g3, g4, g5⟩
      refine wpK_take (i := 0) (v := ?_) rfl (by kernel_rfl) (by kernel_rfl) (by kernel_rfl) (by kernel_rfl) (.inl ⟨by rfl, ?_⟩) hHeld ?_
      rotate_left
      · (intro w hSw; (try dsimp only at hSw); go_split_ands; go_simp; (try with_reducible rfl))
      try simp only [Act.put, List.setIfInBounds_toArray, List.set_cons_zero, List.set_cons_succ]
      refine wpK_take (i := 1) (v := ?_) rfl (by kernel_rfl) (by kernel_rfl) (by kernel_rfl) (by kernel_rfl) (.inl ⟨by rfl, ?_⟩) hHeld ?_
      rotate_left
      · (intro w hSw; (try dsimp only at hSw); go_split_ands; go_simp; (try with_reducible rfl))
      try simp only [Act.put, List.setIfInBounds_toArray, List.set_cons_zero, List.set_cons_succ]
      refine wpK_take (i := 2) (v := ?_) rfl (by kernel_rfl) (by kernel_rfl) (by kernel_rfl) (by kernel_rfl) (.inl ⟨by rfl, ?_⟩) hHeld ?_
      rotate_left
      · (intro w hSw; (try dsimp only at hSw); go_split_ands; go_simp; (try with_reducible rfl))
      try simp only [Act.put, List.setIfInBounds_toArray, List.set_cons_zero, List.set_cons_succ]
      refine wpK_take (i := 3) (v := ?_) rfl (by kernel_rfl) (by kernel_rfl) (by kernel_rfl) (by kernel_rfl) (.inl ⟨by rfl, ?_⟩) hHeld ?_
      rotate_left
      · (intro w hSw; (try dsimp only at hSw); go_split_ands; go_simp; (try with_reducible rfl))
      try simp only [Act.put, List.setIfInBounds_toArray, List.set_cons_zero, List.set_cons_succ]
      refine wpK_take (i := 4) (v := ?_) rfl (by kernel_rfl) (by kernel_rfl) (by kernel_rfl) (by kernel_rfl) (.inl ⟨by rfl, ?_⟩) hHeld ?_
      rotate_left
      · (intro w hSw; (try dsimp only at hSw); go_split_ands; go_simp; (try with_reducible rfl))
      try simp only [Act.put, List.setIfInBounds_toArray, List.set_cons_zero, List.set_cons_succ]
      refine wpK_take (i := 5) (v := ?_) rfl (by kernel_rfl) (by kernel_rfl) (by kernel_rfl) (by kernel_rfl) (.inl ⟨by rfl, ?_⟩) hHeld ?_
      rotate_left
      · (intro w hSw; (try dsimp only at hSw); go_split_ands; go_simp; (try with_reducible rfl))
      try simp only [Act.put, List.setIfInBounds_toArray, List.set_cons_zero, List.set_cons_succ]
      refine wpK_take (i := 6) (v := ?_) rfl (by kernel_rfl) (by kernel_rfl) (by kernel_rfl) (by kernel_rfl) (.inl ⟨by rfl, ?_⟩) hHeld ?_
      rotate_left
      · (intro w hSw; (try dsimp only at hSw); go_split_ands; go_simp; (try with_reducible rfl))
      try simp only [Act.put, List.setIfInBounds_toArray, List.set_cons_zero, List.set_cons_succ]
      refine wpK_take (i := 7) (v := ?_) rfl (by kernel_rfl) (by kernel_rfl) (by kernel_rfl) (by kernel_rfl) (.inl ⟨by rfl, ?_⟩) hHeld ?_
      rotate_left
      · (intro w hSw; (try dsimp only at hSw); go_split_ands; go_simp; (try with_reducible rfl))
      try simp only [Act.put, List.setIfInBounds_toArray, List.set_cons_zero, List.set_cons_succ]
      refine wpK_take (i := 8) (v := ?_) rfl (by kernel_rfl) (by kernel_rfl) (by kernel_rfl) (by kernel_rfl) (.inl ⟨by rfl, ?_⟩) hHeld ?_
      rotate_left
      · (intro w hSw; (try dsimp only at hSw); go_split_ands; go_simp; (try with_reducible rfl))
      try simp only [Act.put, List.setIfInBounds_toArray, List.set_cons_zero, List.set_cons_succ]
      refine wpK_take (i := 9) (v := ?_) rfl (by kernel_rfl) (by kernel_rfl) (by kernel_rfl) (by kernel_rfl) (.inl ⟨by rfl, ?_⟩) hHeld ?_
      rotate_left
      · (intro w hSw; (try dsimp only at hSw); go_split_ands; go_simp; (try with_reducible rfl))
      try simp only [Act.put, List.setIfInBounds_toArray, List.set_cons_zero, List.set_cons_succ]
      refine wpK_take (i := 10) (v := ?_) rfl (by kernel_rfl) (by kernel_rfl) (by kernel_rfl) (by kernel_rfl) (.inl ⟨by rfl, ?_⟩) hHeld ?_
      rotate_left
      · (intro w hSw; (try dsimp only at hSw); go_split_ands; go_simp; (try with_reducible rfl))
      try simp only [Act.put, List.setIfInBounds_toArray, List.set_cons_zero, List.set_cons_succ]
      refine wpK_one (i := 11) (by kernel_rfl) rfl (fun K hK => ?_)
      go_simp
      (with_reducible refine (hc.use _ _ hxvd).mono ?_)
      rintro e w2 ⟨r, rfl, hB2, hr⟩
      refine hK.out _ _ ?_ (fun hHeld => ?_)
      · exact ⟨cell_below hB2 hHeld.1, cell_below hB2 hHeld.2.1, cell_below hB2 hHeld.2.2.1, cell_below hB2 hHeld.2.2.2.1, cell_below hB2 hHeld.2.2.2.2.1, cell_below hB2 hHeld.2.2.2.2.2.1, cell_below hB2 hHeld.2.2.2.2.2.2.1, cell_below hB2 hHeld.2.2.2.2.2.2.2.1, cell_below hB2 hHeld.2.2.2.2.2.2.2.2.1, cell_below hB2 hHeld.2.2.2.2.2.2.2.2.2.1, cell_below hB2 hHeld.2.2.2.2.2.2.2.2.2.2.1, cell_below hB2 hHeld.2.2.2.2.2.2.2.2.2.2.2.1, cell_below hB2 hHeld.2.2.2.2.2.2.2.2.2.2.2.2.1, cell_below hB2 hHeld.2.2.2.2.2.2.2.2.2.2.2.2.2.1, cell_below hB2 hHeld.2.2.2.2.2.2.2.2.2.2.2.2.2.2⟩
      clear hK K
      try simp only [Act.put, List.setIfInBounds_toArray, List.set_cons_zero, List.set_cons_succ]
      refine wpK_one (i := 12) (by kernel_rfl) rfl (fun K hK => ?_)
      have hacc2 := hacc.drew_.below_ hB2
      have hr2 := hr.lo_ (lo' := M + 3) (by show M + 3 ≤ wr.heap.size; omega)
      go_simp
      (with_reducible refine (with_any acc key (cleanV x) (M + 3) _ _ _ ?_ hacc2 hr2 hpi HPE.out hksz ?_).mono ?_)
      · have := hB2.size
        have e : wr.drew.heap.size = wr.heap.size := rfl
        omega
      · omega
      rintro e w3 ⟨r3, rfl, hB3, hr3⟩
      refine hK.out _ _ ?_ (fun hHeld => ?_)
      · exact ⟨cell_below hB3 hHeld.1, cell_below hB3 hHeld.2.1, cell_below hB3 hHeld.2.2.1, cell_below hB3 hHeld.2.2.2.1, cell_below hB3 hHeld.2.2.2.2.1, cell_below hB3 hHeld.2.2.2.2.2.1, cell_below hB3 hHeld.2.2.2.2.2.2.1, cell_below hB3 hHeld.2.2.2.2.2.2.2.1, cell_below hB3 hHeld.2.2.2.2.2.2.2.2.1, cell_below hB3 hHeld.2.2.2.2.2.2.2.2.2.1, cell_below hB3 hHeld.2.2.2.2.2.2.2.2.2.2.1, cell_below hB3 hHeld.2.2.2.2.2.2.2.2.2.2.2.1, cell_below hB3 hHeld.2.2.2.2.2.2.2.2.2.2.2.2.1, cell_below hB3 hHeld.2.2.2.2.2.2.2.2.2.2.2.2.2.1, cell_below hB3 hHeld.2.2.2.2.2.2.2.2.2.2.2.2.2.2⟩
      clear hK K
      try simp only [Act.put, List.setIfInBounds_toArray, List.set_cons_zero, List.set_cons_succ]
      refine wpK_last (i := 13) (by kernel_rfl) (by kernel_rfl) rfl (fun K hK => ?_)
      have hout3 := blk_below (blk_below (w := wr.drew) hout hB2) hB3
      have q0 := blk_c hout3 0 (u := .int .i64 6) rfl
      have q1 := blk_c hout3 1 (u := .int .i64 0) rfl
      have q2 := blk_c hout3 2 (u := .float .f64 0) rfl
      have q3 := blk_c hout3 3 (u := .string ⟨#[]⟩) rfl
      have q4 := blk_c hout3 4 (u := .slice ka acc.keys.length kd0) rfl
      have q5 := blk_c hout3 5 (u := .slice la acc.l.length ld0) rfl
      have f0 := blk_frozen hout3 0
      have f1 := blk_frozen hout3 1
      have f2 := blk_frozen hout3 2
      have f3 := blk_frozen hout3 3
      have f4 := blk_frozen hout3 4
      have f5 := blk_frozen hout3 5
      obtain ⟨na, nd, ma, md, rfl⟩ := hr3.form
      go_simp
      refine hK.out _ _ ?_
      clear hK K
      try simp only [Act.put, List.setIfInBounds_toArray, List.set_cons_zero, List.set_cons_succ]
      refine wpK_done (by kernel_rfl) ?_ _
      have hout3 := blk_below (blk_below (w := wr.drew) hout hB2) hB3
      have hF1 : (st6 w3 (M + 2) (.int .i64 6) (.int .i64 0) (.float .f64 0) (.string ByteArray.empty) (.slice na (withF acc key (cleanV x)).keys.length nd) (.slice ma (withF acc key (cleanV x)).l.length md)).heap[M + 2]? = some (.cells #[.int .i64 6, .int .i64 0, .float .f64 0, .string ⟨#[]⟩, .slice na (withF acc key (cleanV x)).keys.length nd, .slice ma (withF acc key (cleanV x)).l.length md] 26 (0, 0)) := st6_blk hout3
      have hF2 : IsV (st6 w3 (M + 2) (.int .i64 6) (.int .i64 0) (.float .f64 0) (.string ByteArray.empty) (.slice na (withF acc key (cleanV x)).keys.length nd) (.slice ma (withF acc key (cleanV x)).l.length md)) (Btw (M + 3) (st6 w3 (M + 2) (.int .i64 6) (.int .i64 0) (.float .f64 0) (.string ByteArray.empty) (.slice na (withF acc key (cleanV x)).keys.length nd) (.slice ma (withF acc key (cleanV x)).l.length md)).heap.size) (cleanM (ks.take (k + 1)) l gMap) (.agg #[.int .i64 6, .int .i64 0, .float .f64 0, .string ⟨#[]⟩, .slice na (withF acc key (cleanV x)).keys.length nd, .slice ma (withF acc key (cleanV x)).l.length md]) := by
        rw [cleanM_step ks l gMap k key x HK.out HX.out, HAC.out, st6_size]
        exact IsV.keep (fun b hb => st6_eq (by have := hb.1; omega)) (fun _ h => h) _ hr3
      have s2 := hB2.size
      have s3 := hB3.size
      have e0 : wr.drew.heap.size = wr.heap.size := rfl
      have hF3 : Below (M + 2) w0 (st6 w3 (M + 2) (.int .i64 6) (.int .i64 0) (.float .f64 0) (.string ByteArray.empty) (.slice na (withF acc key (cleanV x)).keys.length nd) (.slice ma (withF acc key (cleanV x)).l.length md)) := st6_below ((hB.drew.trans (hB2.mono (by omega))).trans (hB3.mono (by omega))) (Nat.le_refl _)
      change Exit.inBlock 1 _ Exit.normal _ (st6 w3 (M + 2) (.int .i64 6) (.int .i64 0) (.float .f64 0) (.string ByteArray.empty) (.slice na (withF acc key (cleanV x)).keys.length nd) (.slice ma (withF acc key (cleanV x)).l.length md))
      generalize st6 w3 (M + 2) (.int .i64 6) (.int .i64 0) (.float .f64 0) (.string ByteArray.empty) (.slice na (withF acc key (cleanV x)).keys.length nd) (.slice ma (withF acc key (cleanV x)).l.length md) = wF at *
      clear hout3 hB2 hB3 hr3 s2 s3 e0 hacc hB hr hout o0 o1' o2 o3 o4 o5 g0 g1 g2 g3 g4 g5 hck hw4 hw5
      go_wp2_with fail
      go_roundw
      case rel => exact ⟨k + 1, _, _, hlt1, by go_num, hF1, hF2, hlt2, hF3⟩
      case measure => simp [intOf]; omega
    · have hall : cleanM (ks.take k) l gMap = cleanM ks l gMap := cleanM_all _ _ _ _ (by omega)
      rw [hall] at hacc
      clear hall
      generalize hacv : cleanM ks l gMap = acc at *
      have HAC := Lib.hid hacv
      clear hacv h7 hkc hkz ih
      have hR := blk_under bR hB (by omega)
      obtain ⟨-, -, -, -, ka, kd0, la, ld0, rfl, rfl⟩ := hacc.slices
      have o0 : wr.cell? ⟨M + 2, 0, none⟩ = some (.int .i64 6) := blk_c hout 0 rfl
      have o1 : wr.cell? ⟨M + 2, 1, none⟩ = some (.int .i64 0) := blk_c hout 1 rfl
      have o2 : wr.cell? ⟨M + 2, 2, none⟩ = some (.float .f64 0) := blk_c hout 2 rfl
      have o3 : wr.cell? ⟨M + 2, 3, none⟩ = some (.string ⟨#[]⟩) := blk_c hout 3 rfl
      have o4 : wr.cell? ⟨M + 2, 4, none⟩ = some (.slice ka acc.keys.length kd0) := blk_c hout 4 rfl
      have o5 : wr.cell? ⟨M + 2, 5, none⟩ = some (.slice la acc.l.length ld0) := blk_c hout 5 rfl
      have q0 : wr.cell? ⟨M + 1, 0, none⟩ = some (.int .i64 0) := blk_c hR 0 rfl
      have q1 : wr.cell? ⟨M + 1, 1, none⟩ = some (.int .i64 0) := blk_c hR 1 rfl
      have q2 : wr.cell? ⟨M + 1, 2, none⟩ = some (.float .f64 0) := blk_c hR 2 rfl
      have q3 : wr.cell? ⟨M + 1, 3, none⟩ = some (.string ⟨#[]⟩) := blk_c hR 3 rfl
      have q4 : wr.cell? ⟨M + 1, 4, none⟩ = some (.slice none 0 0) := blk_c hR 4 rfl
      have q5 : wr.cell? ⟨M + 1, 5, none⟩ = some (.slice none 0 0) := blk_c hR 5 rfl
      have f0 := blk_frozen hR 0
      have f1 := blk_frozen hR 1
      have f2 := blk_frozen hR 2
      have f3 := blk_frozen hR 3
      have f4 := blk_frozen hR 4
      have f5 := blk_frozen hR 5
      have hor : (k < ks.length ∧ l.length ≤ k) ∨ ks.length ≤ k := by omega
      clear hlt hkl' hkl h6 hs0 bO bR b0 hB0 hB hout
      rcases hor with ⟨hk1, hk2⟩ | hk1
      all_goals
        go_wp2_with fail
        have hblk := st6_blk (c0 := .int .i64 6) (c1 := .int .i64 0) (c2 := .float .f64 0) (c3 := .string ⟨#[]⟩) (c4 := .slice ka acc.keys.length kd0) (c5 := .slice la acc.l.length ld0) hR
        have hfin : IsV (st6 wr (M + 1) (.int .i64 6) (.int .i64 0) (.float .f64 0) (.string ⟨#[]⟩) (.slice ka acc.keys.length kd0) (.slice la acc.l.length ld0)) (Btw M (st6 wr (M + 1) (.int .i64 6) (.int .i64 0) (.float .f64 0) (.string ⟨#[]⟩) (.slice ka acc.keys.length kd0) (.slice la acc.l.length ld0)).heap.size) acc (.agg #[.int .i64 6, .int .i64 0, .float .f64 0, .string ⟨#[]⟩, .slice ka acc.keys.length kd0, .slice la acc.l.length ld0]) := by
          rw [st6_size]
          exact IsV.keep (fun b hb => st6_eq (by have := hb.1; omega)) (Btw.mono (by omega) (Nat.le_refl _)) _ hacc
        have hBf0 : Below M w (st6 wr (M + 1) (.int .i64 6) (.int .i64 0) (.float .f64 0) (.string ⟨#[]⟩) (.slice ka acc.keys.length kd0) (.slice la acc.l.length ld0)) := st6_below hBw (by omega)
        have hBf := hBf0
        unfold st6 at hBf
        refine bodyPost_ret (v := .agg #[.int .i64 6, .int .i64 0, .float .f64 0, .string ⟨#[]⟩, .slice ka acc.keys.length kd0, .slice la acc.l.length ld0]) ?_ rfl ?_
        · have e0 := blk_c hblk 0 (u := .int .i64 6) rfl
          have e1 := blk_c hblk 1 (u := .int .i64 0) rfl
          have e2 := blk_c hblk 2 (u := .float .f64 0) rfl
          have e3 := blk_c hblk 3 (u := .string ⟨#[]⟩) rfl
          have e4 := blk_c hblk 4 (u := .slice ka acc.keys.length kd0) rfl
          have e5 := blk_c hblk 5 (u := .slice la acc.l.length ld0) rfl
          unfold st6 at e0 e1 e2 e3 e4 e5
          simp [results, Try.results67, go_sem, e0, e1, e2, e3, e4, e5]
        · rw [HM.out, HAC.out]
          exact ⟨_, rfl, hBf, by have h := hfin; unfold st6 at h; exact h⟩

/-- A plain value without lists. -/
theorem flat_isV {w : World} {S : Nat → Prop} {k n : Int} {f : Nat} {s : ByteArray} (h1 : (Lit.int .i64 k).wf = true) (h2 : (Lit.int .i64 n).wf = true) (h3 : (Lit.float .f64 f).wf = true) (h4 : s.size ≤ maxLen) :
    IsV w S (.mk k n f s [] []) (.agg #[.int .i64 k, .int .i64 n, .float .f64 f, .string s, .slice none 0 0, .slice none 0 0]) :=
  IsV.mk_ h1 h2 h3 h4 ⟨none, 0, rfl, Nat.le_refl _, by decide, by simp, fun h => by simp at h⟩ (by decide) ⟨none, 0, rfl, Nat.le_refl _, .inl rfl⟩

set_option maxHeartbeats 2000000 in
set_option maxRecDepth 100000 in
theorem clean_scalar (k n : Int) (f : Nat) (s : ByteArray) (ks : List ByteArray) (l : List GV) (hk : k ≠ 5) (hk' : k ≠ 6) : CleanC (.mk k n f s ks l) := by
  intro w v hv
  unfold IsV at hv
  obtain ⟨vk, a, c, rfl, _, hn, hf, hs, _, _, _, _⟩ := hv
  have e5 : (k == 5) = false := by simpa using hk
  have e6 : (k == 6) = false := by simpa using hk'
  have hB : ∀ (x0 x1 x2 x3 x4 x5 : Value), Below w.heap.size w ((w.alloc (.cells #[.int .i64 k, .int .i64 n, .float .f64 f, .string s, vk, .slice a l.length c] 26)).alloc (.cells #[x0, x1, x2, x3, x4, x5] 26)) :=
    fun _ _ _ _ _ _ => ((Below.refl _ _).alloc (Nat.le_refl _) _).alloc (by simp) _
  by_cases k1 : k = 1
  · subst k1
    by_cases hn0 : n = 0
    · subst hn0
      go_enter Try.func17, Try.ntmps17
      go_wp2_with fail
      exact bodyPost_ret (v := .agg #[.int .i64 1, .int .i64 0, .float .f64 0, .string ⟨#[]⟩, .slice none 0 0, .slice none 0 0]) (by simp [results, Try.results17, go_sem]) rfl ⟨_, rfl, hB _ _ _ _ _ _, by simp only [cleanV, if_true]; exact flat_isV (by decide) (by decide) (by decide) (by decide)⟩
    · have hn1 : (n != 0) = true := by simpa using hn0
      have HN := Lib.hid hn0
      clear hn0
      go_enter Try.func17, Try.ntmps17
      go_wp2_with fail
      exact bodyPost_ret (v := .agg #[.int .i64 1, .int .i64 1, .float .f64 0, .string ⟨#[]⟩, .slice none 0 0, .slice none 0 0]) (by simp [results, Try.results17, go_sem]) rfl ⟨_, rfl, hB _ _ _ _ _ _, by simp only [cleanV, if_true, if_neg HN.out]; exact flat_isV (by decide) (by decide) (by decide) (by decide)⟩
  have e1 : (k == 1) = false := by simpa using k1
  by_cases k2 : k = 2
  · subst k2
    go_enter Try.func17, Try.ntmps17
    go_wp2_with fail
    exact bodyPost_ret (v := .agg #[.int .i64 2, .int .i64 n, .float .f64 0, .string ⟨#[]⟩, .slice none 0 0, .slice none 0 0]) (by simp [results, Try.results17, go_sem]) rfl ⟨_, rfl, hB _ _ _ _ _ _, by simp only [cleanV]; exact flat_isV (by decide) hn (by decide) (by decide)⟩
  have e2 : (k == 2) = false := by simpa using k2
  by_cases k3 : k = 3
  · subst k3
    go_enter Try.func17, Try.ntmps17
    go_wp2_with fail
    exact bodyPost_ret (v := .agg #[.int .i64 3, .int .i64 0, .float .f64 f, .string ⟨#[]⟩, .slice none 0 0, .slice none 0 0]) (by simp [results, Try.results17, go_sem]) rfl ⟨_, rfl, hB _ _ _ _ _ _, by simp only [cleanV]; exact flat_isV (by decide) (by decide) hf (by decide)⟩
  have e3 : (k == 3) = false := by simpa using k3
  by_cases k4 : k = 4
  · subst k4
    go_enter Try.func17, Try.ntmps17
    go_wp2_with fail
    exact bodyPost_ret (v := .agg #[.int .i64 4, .int .i64 0, .float .f64 0, .string s, .slice none 0 0, .slice none 0 0]) (by simp [results, Try.results17, go_sem]) rfl ⟨_, rfl, hB _ _ _ _ _ _, by simp only [cleanV]; exact flat_isV (by decide) (by decide) (by decide) hs⟩
  have e4 : (k == 4) = false := by simpa using k4
  have hj : cleanV (.mk k n f s ks l) = gNull := by simp [cleanV, k1, k2, k3, k4, hk, hk']
  rw [hj]
  clear hj k1 k2 k3 k4 hk hk'
  go_enter Try.func17, Try.ntmps17
  go_wp2_with fail
  exact bodyPost_ret (v := .agg #[.int .i64 0, .int .i64 0, .float .f64 0, .string ⟨#[]⟩, .slice none 0 0, .slice none 0 0]) (by simp [results, Try.results17, go_sem]) rfl ⟨_, rfl, hB _ _ _ _ _ _, flat_isV (by decide) (by decide) (by decide) (by decide)⟩

end Go.Proofs.Ytlghpcokbppkfaa
