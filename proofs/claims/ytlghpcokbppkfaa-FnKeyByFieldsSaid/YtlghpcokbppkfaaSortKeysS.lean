/- spec.SortKeys: the fields of a key in the order of their names. -/
import Derived.Test.YtlghpcokbppkfaaSkInv
import Derived.Deep.CutBlock
import Derived.Deep.DeepCutAuto
namespace Go.Proofs.Ytlghpcokbppkfaa
open Go.RowKit
set_option linter.unusedSimpArgs false

theorem drew_heap (w : World) : w.drew.heap = w.heap := rfl
/-- The fields of a key, with plain values. -/
def kvE (x : EV) : List (ByteArray × GV) := x.keys.zip (cleanL x.l)
theorem kvE_length (x : EV) : (kvE x).length = min x.keys.length x.l.length := by simp [kvE, cleanL_length]
theorem kvE_at (x : EV) {i : Nat} {k : ByteArray} {y : GV} (h1 : x.keys[i]? = some k) (h2 : x.l[i]? = some y) : (kvE x)[i]? = some (k, cleanV y) := by
  simp [kvE, List.getElem?_zip_eq_some, h1, cleanL_at, h2]
theorem kvE_key (x : EV) {p : ByteArray × GV} (h : p ∈ kvE x) : p.1 ∈ x.keys := (List.of_mem_zip (a := p.1) (b := p.2) h).1
/-- The sorted key. -/
def sortE (x : EV) : EV := ⟨1, ByteArray.empty, (sortS (kvE x)).map (·.1), (sortS (kvE x)).map (·.2), gNull, 0⟩

set_option maxHeartbeats 1000000 in
set_option maxRecDepth 100000 in
theorem sortKeys_lt (x : EV) (hcmp : x.l.length < x.keys.length) (w : World) (v : Value) (hv : IsE w (Btw 0 w.heap.size) x v) :
    Calls Try.prog 24 #[v] w fun e w' => ∃ r, e = .returned r ∧ Below w.heap.size w w' ∧ IsE w' (Btw w.heap.size w'.heap.size) (sortE x) r := by
  obtain ⟨i0, hi0, hz0, hz1, hz2⟩ := info_parts Try.infoStr
  obtain ⟨i6, hi6, hz60, hz61, hz62⟩ := info_parts Try.infoVal
  have hkvl : (kvE x).length = x.l.length := by rw [kvE_length]; omega
  obtain ⟨ak, ck, a, c, a0, d0, a1, d1, rfl⟩ := hv.form
  have hks : IsStrs w (Btw 0 w.heap.size) (.slice ak x.keys.length ck) x.keys := by
    obtain ⟨ak', ck', a', c', e0, e1, e2, e3, e4, e5, e, _, _, _, hk, _⟩ := hv
    injection e with e
    injection e with e
    simp only [List.cons.injEq, and_true] at e
    obtain ⟨_, _, e, _⟩ := e
    rw [← e] at hk
    exact hk
  obtain ⟨_, hlc, hl88, hl⟩ := hv.rowL
  have hk16 : x.keys.length * 16 ≤ 140737488351232 := by obtain ⟨_, _, _, _, h, _⟩ := hks; exact h
  have hkz : ∀ k ∈ x.keys, k.size ≤ maxLen := by obtain ⟨_, _, _, _, _, h, _⟩ := hks; exact h
  clear hv
  have hnk : x.l.length ≤ x.keys.length := by omega
  have hnl : x.l.length ≤ x.l.length := by omega
  have hn88 : x.l.length * 88 ≤ 140737488351232 := by omega
  go_enter Try.func24, Try.ntmps24
  go_wp2_with fail
  have hB0 : Below w.heap.size w (((w.alloc (.cells #[.int .i64 x.kind, .string x.s, .slice ak x.keys.length ck, .slice a x.l.length c, .int .i64 x.v.kind, .int .i64 x.v.n, .float .f64 x.v.f, .string x.v.s, .slice a0 x.v.keys.length d0, .slice a1 x.v.l.length d1, .int .i64 x.n] 33)).alloc (.cells #[.int .i64 0, .string ⟨#[]⟩, .slice none 0 0, .slice none 0 0, .int .i64 0, .int .i64 0, .float .f64 0, .string ⟨#[]⟩, .slice none 0 0, .slice none 0 0, .int .i64 0] 33)).alloc (.cells #[.int .i64 1, .string ⟨#[]⟩, .slice none 0 0, .slice none 0 0, .int .i64 0, .int .i64 0, .float .f64 0, .string ⟨#[]⟩, .slice none 0 0, .slice none 0 0, .int .i64 0] 33)) := (((Below.refl w.heap.size w).alloc (Nat.le_refl _) (.cells #[.int .i64 x.kind, .string x.s, .slice ak x.keys.length ck, .slice a x.l.length c, .int .i64 x.v.kind, .int .i64 x.v.n, .float .f64 x.v.f, .string x.v.s, .slice a0 x.v.keys.length d0, .slice a1 x.v.l.length d1, .int .i64 x.n] 33)).alloc (by simp) (.cells #[.int .i64 0, .string ⟨#[]⟩, .slice none 0 0, .slice none 0 0, .int .i64 0, .int .i64 0, .float .f64 0, .string ⟨#[]⟩, .slice none 0 0, .slice none 0 0, .int .i64 0] 33)).alloc (by simp; omega) (.cells #[.int .i64 1, .string ⟨#[]⟩, .slice none 0 0, .slice none 0 0, .int .i64 0, .int .i64 0, .float .f64 0, .string ⟨#[]⟩, .slice none 0 0, .slice none 0 0, .int .i64 0] 33)
  have b2 : (((w.alloc (.cells #[.int .i64 x.kind, .string x.s, .slice ak x.keys.length ck, .slice a x.l.length c, .int .i64 x.v.kind, .int .i64 x.v.n, .float .f64 x.v.f, .string x.v.s, .slice a0 x.v.keys.length d0, .slice a1 x.v.l.length d1, .int .i64 x.n] 33)).alloc (.cells #[.int .i64 0, .string ⟨#[]⟩, .slice none 0 0, .slice none 0 0, .int .i64 0, .int .i64 0, .float .f64 0, .string ⟨#[]⟩, .slice none 0 0, .slice none 0 0, .int .i64 0] 33)).alloc (.cells #[.int .i64 1, .string ⟨#[]⟩, .slice none 0 0, .slice none 0 0, .int .i64 0, .int .i64 0, .float .f64 0, .string ⟨#[]⟩, .slice none 0 0, .slice none 0 0, .int .i64 0] 33)).heap[w.heap.size + 1 + 1]? = some (.cells #[.int .i64 1, .string ⟨#[]⟩, .slice none 0 0, .slice none 0 0, .int .i64 0, .int .i64 0, .float .f64 0, .string ⟨#[]⟩, .slice none 0 0, .slice none 0 0, .int .i64 0] 33) := new_block (by simp)
  have b1 : (((w.alloc (.cells #[.int .i64 x.kind, .string x.s, .slice ak x.keys.length ck, .slice a x.l.length c, .int .i64 x.v.kind, .int .i64 x.v.n, .float .f64 x.v.f, .string x.v.s, .slice a0 x.v.keys.length d0, .slice a1 x.v.l.length d1, .int .i64 x.n] 33)).alloc (.cells #[.int .i64 0, .string ⟨#[]⟩, .slice none 0 0, .slice none 0 0, .int .i64 0, .int .i64 0, .float .f64 0, .string ⟨#[]⟩, .slice none 0 0, .slice none 0 0, .int .i64 0] 33)).alloc (.cells #[.int .i64 1, .string ⟨#[]⟩, .slice none 0 0, .slice none 0 0, .int .i64 0, .int .i64 0, .float .f64 0, .string ⟨#[]⟩, .slice none 0 0, .slice none 0 0, .int .i64 0] 33)).heap[w.heap.size + 1]? = some (.cells #[.int .i64 0, .string ⟨#[]⟩, .slice none 0 0, .slice none 0 0, .int .i64 0, .int .i64 0, .float .f64 0, .string ⟨#[]⟩, .slice none 0 0, .slice none 0 0, .int .i64 0] 33) := blk_alloc (new_block (by simp)) _
  have b0 : (((w.alloc (.cells #[.int .i64 x.kind, .string x.s, .slice ak x.keys.length ck, .slice a x.l.length c, .int .i64 x.v.kind, .int .i64 x.v.n, .float .f64 x.v.f, .string x.v.s, .slice a0 x.v.keys.length d0, .slice a1 x.v.l.length d1, .int .i64 x.n] 33)).alloc (.cells #[.int .i64 0, .string ⟨#[]⟩, .slice none 0 0, .slice none 0 0, .int .i64 0, .int .i64 0, .float .f64 0, .string ⟨#[]⟩, .slice none 0 0, .slice none 0 0, .int .i64 0] 33)).alloc (.cells #[.int .i64 1, .string ⟨#[]⟩, .slice none 0 0, .slice none 0 0, .int .i64 0, .int .i64 0, .float .f64 0, .string ⟨#[]⟩, .slice none 0 0, .slice none 0 0, .int .i64 0] 33)).heap[w.heap.size]? = some (.cells #[.int .i64 x.kind, .string x.s, .slice ak x.keys.length ck, .slice a x.l.length c, .int .i64 x.v.kind, .int .i64 x.v.n, .float .f64 x.v.f, .string x.v.s, .slice a0 x.v.keys.length d0, .slice a1 x.v.l.length d1, .int .i64 x.n] 33) := blk_alloc (blk_alloc (new_block rfl) _) _
  have hs0 : (((w.alloc (.cells #[.int .i64 x.kind, .string x.s, .slice ak x.keys.length ck, .slice a x.l.length c, .int .i64 x.v.kind, .int .i64 x.v.n, .float .f64 x.v.f, .string x.v.s, .slice a0 x.v.keys.length d0, .slice a1 x.v.l.length d1, .int .i64 x.n] 33)).alloc (.cells #[.int .i64 0, .string ⟨#[]⟩, .slice none 0 0, .slice none 0 0, .int .i64 0, .int .i64 0, .float .f64 0, .string ⟨#[]⟩, .slice none 0 0, .slice none 0 0, .int .i64 0] 33)).alloc (.cells #[.int .i64 1, .string ⟨#[]⟩, .slice none 0 0, .slice none 0 0, .int .i64 0, .int .i64 0, .float .f64 0, .string ⟨#[]⟩, .slice none 0 0, .slice none 0 0, .int .i64 0] 33)).heap.size = w.heap.size + 3 := by simp
  generalize (((w.alloc (.cells #[.int .i64 x.kind, .string x.s, .slice ak x.keys.length ck, .slice a x.l.length c, .int .i64 x.v.kind, .int .i64 x.v.n, .float .f64 x.v.f, .string x.v.s, .slice a0 x.v.keys.length d0, .slice a1 x.v.l.length d1, .int .i64 x.n] 33)).alloc (.cells #[.int .i64 0, .string ⟨#[]⟩, .slice none 0 0, .slice none 0 0, .int .i64 0, .int .i64 0, .float .f64 0, .string ⟨#[]⟩, .slice none 0 0, .slice none 0 0, .int .i64 0] 33)).alloc (.cells #[.int .i64 1, .string ⟨#[]⟩, .slice none 0 0, .slice none 0 0, .int .i64 0, .int .i64 0, .float .f64 0, .string ⟨#[]⟩, .slice none 0 0, .slice none 0 0, .int .i64 0] 33)) = w0 at *
  generalize hM : w.heap.size = M at *
  have HM := Lib.hid hM; clear hM
  clear hcmp
  go_loopw [5] (fun i wr => ∃ k A C B D, k ≤ x.l.length ∧ i = .int .i64 (k : Nat) ∧ SkInv M w wr (sortS ((kvE x).take k)) A C B D ∧ wr.heap[M]? = some (.cells #[.int .i64 x.kind, .string x.s, .slice ak x.keys.length ck, .slice a x.l.length c, .int .i64 x.v.kind, .int .i64 x.v.n, .float .f64 x.v.f, .string x.v.s, .slice a0 x.v.keys.length d0, .slice a1 x.v.l.length d1, .int .i64 x.n] 33) ∧ wr.heap[M + 1]? = some (.cells #[.int .i64 0, .string ⟨#[]⟩, .slice none 0 0, .slice none 0 0, .int .i64 0, .int .i64 0, .float .f64 0, .string ⟨#[]⟩, .slice none 0 0, .slice none 0 0, .int .i64 0] 33)) (fun i _ => x.l.length - (intOf i).toNat)
  case atStart => exact ⟨0, none, 0, none, 0, Nat.zero_le _, rfl, ⟨[], b2, World.ownsRow_nil _ _ _ _, World.ownsRow_nil _ _ _ _, by simp [sortS, VCells], hB0, by omega⟩, b0, b1⟩
  case round =>
    clear b2 hB0 hs0 b0 b1
    obtain ⟨k, A, C, B, D, hk, rfl, hinv, hbox, hres⟩ := hrel
    by_cases hlt : k < x.l.length
    · obtain ⟨key, hkey⟩ : ∃ key, x.keys[k]? = some key := ⟨x.keys[k]'(by omega), by simp⟩
      obtain ⟨y, hy⟩ : ∃ y, x.l[k]? = some y := ⟨x.l[k]'(by omega), by simp⟩
      have hkv : (kvE x)[k]? = some (key, cleanV y) := kvE_at x hkey hy
      have hPl : (sortS ((kvE x).take k)).length = k := by rw [sortS_length]; simp; omega
      have hnext : sortS ((kvE x).take (k + 1)) = insS (sortS ((kvE x).take k)) (key, cleanV y) := by rw [List.take_add_one, hkv]; exact sortS_snoc _ _
      have hpz : ∀ p ∈ sortS ((kvE x).take k), p.1.size ≤ maxLen := fun p hp => hkz p.1 (kvE_key x (List.mem_of_mem_take ((sortS_mem _ _).1 hp)))
      have HN := Lib.hid (And.intro hnext (And.intro hpz (And.intro hkey hy)))
      clear hnext hkv hpz
      generalize sortS ((kvE x).take k) = P at *
      have hkz1 : key.size ≤ maxLen := hkz key (List.mem_of_getElem? hkey)
      obtain ⟨kb, ko, hkb, rfl, hkc⟩ := strs_at hks hkey
      obtain ⟨lb', lo, hlb, rfl, hlcs⟩ := vals_at hl (by omega)
      obtain ⟨e0, f0, e1, f1, g0, g1, g2, g3, g4, g5, hyv⟩ := hlcs.cells hy
      clear hkey hy hlcs
      have HI := Lib.hid (And.intro hinv (And.intro hbox (And.intro hres (And.intro hkc (And.intro g0 (And.intro g1 (And.intro g2 (And.intro g3 (And.intro g4 (And.intro g5 hyv))))))))))
      obtain ⟨zs, b2, hownK, hownL, hall, hB, hsz⟩ := hinv
      rw [hPl] at b2 hownK hownL hall
      have p2 : wr.cell? ⟨M + 1 + 1, 2, none⟩ = some (.slice A k C) := blk_c b2 2 rfl
      have e2 : wr.cell? ⟨M, 2, none⟩ = some (.slice (some ⟨kb, ko, none⟩) x.keys.length ck) := blk_c hbox 2 rfl
      have ekey : wr.cell? ⟨kb, ko + k, none⟩ = some (.string key) := (hB.cell (by exact hkb.2)).trans hkc
      have hMs : M + 3 ≤ wr.heap.size := hsz
      have jk0 : (0 : Int) ≤ (k : Int) := by omega
      have jk1 : (k : Int) < (x.keys.length : Int) := by omega
      have jk2 : (k : Int) < (x.l.length : Int) := by omega
      have jk3 : (k : Int) < (x.l.length : Int) := by omega
      have hBsz := hB
      clear b2 hownL hall hB hbox hres g0 g1 g2 g3 g4 g5 hyv hkc hBsz
      go_upto_block 2 with fail
      go_cut [6] (fun s6 wx => ∃ p : Nat, s6 = .int .i64 (p : Nat) ∧ p ≤ k ∧ (∀ y ∈ P.drop p, blt key y.1 = true) ∧ (∀ q y, p = q + 1 → P[q]? = some y → blt key y.1 = false) ∧ Below wr.heap.size wr wx)
      case first =>
        rename World => w1
        go_wp2_with fail
        go_loopw [6] (fun s6 wx => ∃ p : Nat, s6 = .int .i64 (p : Nat) ∧ p ≤ k ∧ (∀ y ∈ P.drop p, blt key y.1 = true) ∧ Below w1.heap.size w1 wx) (fun s6 _ => (intOf s6).toNat)
        case atStart => exact ⟨k, rfl, Nat.le_refl _, by rw [← hPl]; simp, Below.refl _ _⟩
        case round =>
          obtain ⟨p, rfl, hp, hgt, hBx⟩ := hrel
          rcases Nat.eq_zero_or_pos p with rfl | hp0
          · have HA := Lib.hid (And.intro hgt hBx)
            clear hgt hBx hownK p2 e2 ekey
            go_wp2_with fail
            go_quiet (fail)
            go_wp2_with fail
            go_meet
            exact ⟨0, rfl, Nat.zero_le _, HA.out.1, fun q y h => by omega, HA.out.2.trans ⟨rfl, rfl, rfl, Nat.le_refl _, fun _ _ => rfl⟩⟩
          · obtain ⟨q, rfl⟩ : ∃ q, p = q + 1 := ⟨p - 1, by omega⟩
            obtain ⟨yp, hyp⟩ : ∃ y, P[q]? = some y := ⟨P[q]'(by omega), by simp⟩
            obtain ⟨gA, rfl⟩ : ∃ gA, A = some ⟨gA, 0, none⟩ := by
              rcases hownK.2 with ⟨_, h0⟩ | ⟨gA, cap, cur, e, _⟩
              · omega
              · injection e with e
                exact ⟨gA, e⟩
            have x1 := cell_below hBx (own_cell hownK (i := q) (u := .string yp.1) (by rw [List.getElem?_map, hyp]; rfl))
            have x2 := cell_below hBx p2
            have x3 := cell_below hBx e2
            have x4 := cell_below hBx ekey
            have hyz : yp.1.size ≤ maxLen := HN.out.2.1 yp (List.mem_of_getElem? hyp)
            have j0 : (0 : Int) ≤ (q : Int) := by omega
            have j1 : (q : Int) < (k : Int) := by omega
            have hd : decide ((0 : Int) < (q : Int) + 1) = true := by simp
            have hwq : IntKind.i64.wrap (q : Int) = q := wrap_nat (by omega)
            have HA := Lib.hid (And.intro hgt (And.intro hBx hyp))
            clear hgt hBx hownK p2 e2 ekey hyp
            go_wp2_with fail
            refine wp_region_K (fun w' => w'.cell? ⟨M + 1 + 1, 2, none⟩ = some (.slice (some ⟨gA, 0, none⟩) k C) ∧ w'.cell? ⟨gA, q, none⟩ = some (.string yp.1) ∧ w'.cell? ⟨M, 2, none⟩ = some (.slice (some ⟨kb, ko, none⟩) x.keys.length ck) ∧ w'.cell? ⟨kb, ko + k, none⟩ = some (.string key)) [0, 1, 2, 3, 4, 5, 6, 7, 8, 9, 10, 11, 12, 13, 15, 16] (by kernel_rfl) ?_ (fun hHeld => ?_)
            · exact ⟨x2, x1, x3, x4⟩
            refine wpK_take (i := 0) (v := ?_) rfl (by kernel_rfl) (by kernel_rfl) (by kernel_rfl) (by kernel_rfl) (.inl ⟨by rfl, ?_⟩) hHeld ?_
            rotate_left
            · (intro w hSw; (try dsimp only at hSw); go_split_ands; go_simp; (try with_reducible rfl))
            try simp only [Act.put, List.setIfInBounds_toArray, List.set_cons_zero, List.set_cons_succ, List.getElem_toArray, List.getElem_cons_succ, List.getElem_cons_zero]
            refine wpK_take (i := 1) (v := ?_) rfl (by kernel_rfl) (by kernel_rfl) (by kernel_rfl) (by kernel_rfl) (.inl ⟨by rfl, ?_⟩) hHeld ?_
            rotate_left
            · (intro w hSw; (try dsimp only at hSw); go_split_ands; go_simp; (try with_reducible rfl))
            try simp only [Act.put, List.setIfInBounds_toArray, List.set_cons_zero, List.set_cons_succ, List.getElem_toArray, List.getElem_cons_succ, List.getElem_cons_zero]
            refine wpK_take (i := 2) (v := ?_) rfl (by kernel_rfl) (by kernel_rfl) (by kernel_rfl) (by kernel_rfl) (.inl ⟨by rfl, ?_⟩) hHeld ?_
            rotate_left
            · (intro w hSw; (try dsimp only at hSw); go_split_ands; go_simp; (try with_reducible rfl))
            try simp only [Act.put, List.setIfInBounds_toArray, List.set_cons_zero, List.set_cons_succ, List.getElem_toArray, List.getElem_cons_succ, List.getElem_cons_zero]
            refine wpK_take (i := 3) (v := ?_) rfl (by kernel_rfl) (by kernel_rfl) (by kernel_rfl) (by kernel_rfl) (.inl ⟨by rfl, ?_⟩) hHeld ?_
            rotate_left
            · (intro w hSw; (try dsimp only at hSw); go_split_ands; go_simp; (try with_reducible rfl))
            try simp only [Act.put, List.setIfInBounds_toArray, List.set_cons_zero, List.set_cons_succ, List.getElem_toArray, List.getElem_cons_succ, List.getElem_cons_zero]
            refine wpK_take (i := 4) (v := ?_) rfl (by kernel_rfl) (by kernel_rfl) (by kernel_rfl) (by kernel_rfl) (.inl ⟨by rfl, ?_⟩) hHeld ?_
            rotate_left
            · (intro w hSw; (try dsimp only at hSw); go_split_ands; go_simp; (try with_reducible rfl))
            try simp only [Act.put, List.setIfInBounds_toArray, List.set_cons_zero, List.set_cons_succ, List.getElem_toArray, List.getElem_cons_succ, List.getElem_cons_zero]
            refine wpK_take (i := 5) (v := ?_) rfl (by kernel_rfl) (by kernel_rfl) (by kernel_rfl) (by kernel_rfl) (.inl ⟨by rfl, ?_⟩) hHeld ?_
            rotate_left
            · (intro w hSw; (try dsimp only at hSw); go_split_ands; go_simp; (try with_reducible rfl))
            try simp only [Act.put, List.setIfInBounds_toArray, List.set_cons_zero, List.set_cons_succ, List.getElem_toArray, List.getElem_cons_succ, List.getElem_cons_zero]
            refine wpK_take (i := 6) (v := ?_) rfl (by kernel_rfl) (by kernel_rfl) (by kernel_rfl) (by kernel_rfl) (.inl ⟨by rfl, ?_⟩) hHeld ?_
            rotate_left
            · (intro w hSw; (try dsimp only at hSw); go_split_ands; go_simp; (try with_reducible rfl))
            try simp only [Act.put, List.setIfInBounds_toArray, List.set_cons_zero, List.set_cons_succ, List.getElem_toArray, List.getElem_cons_succ, List.getElem_cons_zero]
            refine wpK_take (i := 7) (v := ?_) rfl (by kernel_rfl) (by kernel_rfl) (by kernel_rfl) (by kernel_rfl) (.inl ⟨by rfl, ?_⟩) hHeld ?_
            rotate_left
            · (intro w hSw; (try dsimp only at hSw); go_split_ands; go_simp; (try with_reducible rfl))
            try simp only [Act.put, List.setIfInBounds_toArray, List.set_cons_zero, List.set_cons_succ, List.getElem_toArray, List.getElem_cons_succ, List.getElem_cons_zero]
            refine wpK_take (i := 8) (v := ?_) rfl (by kernel_rfl) (by kernel_rfl) (by kernel_rfl) (by kernel_rfl) (.inl ⟨by rfl, ?_⟩) hHeld ?_
            rotate_left
            · (intro w hSw; (try dsimp only at hSw); go_split_ands; go_simp; (try with_reducible rfl))
            try simp only [Act.put, List.setIfInBounds_toArray, List.set_cons_zero, List.set_cons_succ, List.getElem_toArray, List.getElem_cons_succ, List.getElem_cons_zero]
            refine wpK_take (i := 9) (v := ?_) rfl (by kernel_rfl) (by kernel_rfl) (by kernel_rfl) (by kernel_rfl) (.inl ⟨by rfl, ?_⟩) hHeld ?_
            rotate_left
            · (intro w hSw; (try dsimp only at hSw); go_split_ands; go_simp; (try with_reducible rfl))
            try simp only [Act.put, List.setIfInBounds_toArray, List.set_cons_zero, List.set_cons_succ, List.getElem_toArray, List.getElem_cons_succ, List.getElem_cons_zero]
            refine wpK_take (i := 10) (v := ?_) rfl (by kernel_rfl) (by kernel_rfl) (by kernel_rfl) (by kernel_rfl) (.inl ⟨by rfl, ?_⟩) hHeld ?_
            rotate_left
            · (intro w hSw; (try dsimp only at hSw); go_split_ands; go_simp; (try with_reducible rfl))
            try simp only [Act.put, List.setIfInBounds_toArray, List.set_cons_zero, List.set_cons_succ, List.getElem_toArray, List.getElem_cons_succ, List.getElem_cons_zero]
            refine wpK_take (i := 11) (v := ?_) rfl (by kernel_rfl) (by kernel_rfl) (by kernel_rfl) (by kernel_rfl) (.inl ⟨by rfl, ?_⟩) hHeld ?_
            rotate_left
            · (intro w hSw; (try dsimp only at hSw); go_split_ands; go_simp; (try with_reducible rfl))
            try simp only [Act.put, List.setIfInBounds_toArray, List.set_cons_zero, List.set_cons_succ, List.getElem_toArray, List.getElem_cons_succ, List.getElem_cons_zero]
            refine wpK_take (i := 12) (v := ?_) rfl (by kernel_rfl) (by kernel_rfl) (by kernel_rfl) (by kernel_rfl) (.inl ⟨by rfl, ?_⟩) hHeld ?_
            rotate_left
            · (intro w hSw; (try dsimp only at hSw); go_split_ands; go_simp; (try with_reducible rfl))
            try simp only [Act.put, List.setIfInBounds_toArray, List.set_cons_zero, List.set_cons_succ, List.getElem_toArray, List.getElem_cons_succ, List.getElem_cons_zero]
            refine wpK_take (i := 13) (v := ?_) rfl (by kernel_rfl) (by kernel_rfl) (by kernel_rfl) (by kernel_rfl) (.inl ⟨by rfl, ?_⟩) hHeld ?_
            rotate_left
            · (intro w hSw; (try dsimp only at hSw); go_split_ands; go_simp; (try with_reducible rfl))
            try simp only [Act.put, List.setIfInBounds_toArray, List.set_cons_zero, List.set_cons_succ, List.getElem_toArray, List.getElem_cons_succ, List.getElem_cons_zero]
            refine wpK_one (i := 14) (by kernel_rfl) rfl (fun K hK => ?_)
            go_simp
            refine (CompareStrings_any _ _ _ hyz hkz1).mono ?_
            rintro e w5 ⟨rfl, hB5⟩
            refine hK.out _ _ ?_ (fun hHeld => ?_)
            · exact ⟨cell_below hB5 hHeld.1, cell_below hB5 hHeld.2.1, cell_below hB5 hHeld.2.2.1, cell_below hB5 hHeld.2.2.2⟩
            clear hK K
            try simp only [Act.put, List.setIfInBounds_toArray, List.set_cons_zero, List.set_cons_succ, List.getElem_toArray, List.getElem_cons_succ, List.getElem_cons_zero]
            refine wpK_take (i := 15) (v := ?_) rfl (by kernel_rfl) (by kernel_rfl) (by kernel_rfl) (by kernel_rfl) (.inl ⟨by rfl, ?_⟩) hHeld ?_
            rotate_left
            · (intro w hSw; (try dsimp only at hSw); go_split_ands; go_simp; (try with_reducible rfl))
            try simp only [Act.put, List.setIfInBounds_toArray, List.set_cons_zero, List.set_cons_succ, List.getElem_toArray, List.getElem_cons_succ, List.getElem_cons_zero]
            refine wpK_take (i := 16) (v := ?_) rfl (by kernel_rfl) (by kernel_rfl) (by kernel_rfl) (by kernel_rfl) (.inl ⟨by rfl, ?_⟩) hHeld ?_
            rotate_left
            · (intro w hSw; (try dsimp only at hSw); go_split_ands; go_simp; (try with_reducible rfl))
            try simp only [Act.put, List.setIfInBounds_toArray, List.set_cons_zero, List.set_cons_succ, List.getElem_toArray, List.getElem_cons_succ, List.getElem_cons_zero]
            refine wpK_done (by kernel_rfl) ?_ _
            clear hwq
            obtain ⟨hgt, hBx, hyp⟩ := HA.out
            have hB6 : Below w1.heap.size w1 w5 := hBx.drew.trans (hB5.mono (by show w1.heap.size ≤ wr.heap.size; exact hBx.size))
            have hcm := cmpS_gt yp.1 key
            generalize cmpS yp.1 key = cm at *
            cases hbk : blt key yp.1 with
            | true =>
              have hcm' : (0 : Int) < cm := hcm.2 hbk
              clear hcm
              go_wp2_with fail
              refine ⟨⟨q, rfl, by omega, fun z hz => ?_, hB6⟩, by simp [intOf]⟩
              have hdq : P.drop q = yp :: P.drop (q + 1) := by
                have hq : q < P.length := by omega
                rw [List.drop_eq_getElem_cons hq]
                rw [List.getElem?_eq_getElem hq] at hyp
                cases hyp; rfl
              rw [hdq] at hz
              rcases List.mem_cons.1 hz with rfl | hz
              · exact hbk
              · exact hgt z hz
            | false =>
              have hcm' : ¬ (0 : Int) < cm := fun h => by rw [hcm.1 h] at hbk; cases hbk
              clear hcm
              go_wp2_with fail
              go_meet
              refine ⟨q + 1, by push_cast; rfl, hp, hgt, fun q' y' h h' => ?_, hB6⟩
              have : q = q' := by omega
              subst this
              rw [hyp] at h'
              cases h'
              exact hbk
      case rest =>
        obtain ⟨p, rfl, hp, hgt, hstop, hBc⟩ := hcut
        obtain ⟨hinv, hbox, hres, hkc, g0, g1, g2, g3, g4, g5, hyv⟩ := HI.out
        obtain ⟨zs, b2, hK, hL, hall, hB, hsz⟩ := hinv
        rw [hPl] at b2 hK hL hall
        have bc2 := blk_below b2 hBc
        have bcx := blk_below hbox hBc
        have bcr := blk_below hres hBc
        have hKc := own_below hK hBc
        have hLc := own_below hL hBc
        have hallc : VCells wc (fun b => Btw (M + 3) wc.heap.size b ∧ (Value.slice A k C).ownBlock ≠ some b ∧ (Value.slice B k D).ownBlock ≠ some b) (P.map fun p => p.2) zs :=
          hall.keep (fun b hb => hBc.block b hb.1.2) (fun b hb => ⟨⟨hb.1.1, by have := hb.1.2; have := hBc.size; omega⟩, hb.2⟩)
        have hBwc : Below M w wc := hB.trans (hBc.mono (by omega))
        have hszc : M + 3 ≤ wc.heap.size := by have := hBc.size; omega
        have HC := Lib.hid (And.intro hgt (And.intro hstop (And.intro bcx (And.intro bcr (And.intro hallc hBwc)))))
        clear hgt hstop hbox hres hkc g0 g1 g2 g3 g4 g5 hyv b2 hK hL hall hB hsz hBc bcx bcr hallc hBwc p2 e2 ekey hownK
        have p2 : wc.cell? ⟨M + 1 + 1, 2, none⟩ = some (.slice A k C) := blk_c bc2 2 rfl
        go_wp2_with (first
          | (with_reducible refine wpList_buildSlice_one rfl _ _ 9 rfl Try.underlying23 i0 hi0 _ hz0 hz1 (.string ⟨#[]⟩) rfl rfl rfl ?_)
          | (at_builtin; refine wpList_append_s _ rfl _ _ _ rfl (M + 3) 9 i0 _ 1 16 Try.underlying23 hi0 hz0 hz1 hz2 rfl Nat.one_pos (.slice A k C) k _ rfl (hKc.alloc _) (wc.heap.size + 1) (some ⟨wc.heap.size, 0, none⟩) 1 1 [.string ⟨#[]⟩] rfl ?r1 ?r2 ?r3 ?r4 ?r5 ?_))
        case r1 => exact ⟨rfl, fun _ => ⟨_, rfl, Nat.lt_succ_self _, cell_one_new _ _ _⟩⟩
        case r2 => intro u hu; simp at hu; subst hu; rfl
        case r3 => unfold maxLen; omega
        case r4 => omega
        case r5 => simp; omega
        intro A2 C2 w2 hK2 hg2 hat2
        have hKlt : ∀ b, (Value.slice A k C).ownBlock = some b → M + 3 ≤ b ∧ b < wc.heap.size := fun b e => hKc.lt b e
        have hLlt : ∀ b, (Value.slice B k D).ownBlock = some b → M + 3 ≤ b ∧ b < wc.heap.size := fun b e => hLc.lt b e
        have hL2 := own_keep_ne (hLc.alloc (.cells #[.string ⟨#[]⟩] 9)) (hKc.alloc (.cells #[.string ⟨#[]⟩] 9)) (by decide) hg2
        have b22 := blk_grown (blk_alloc bc2 (.cells #[.string ⟨#[]⟩] 9)) hg2 (own_notin (hKc.alloc (.cells #[.string ⟨#[]⟩] 9)) (by omega))
        have hs2 : wc.heap.size + 1 ≤ w2.heap.size := by have := hg2.size; simpa using this
        have hk2 : ∀ b, b < wc.heap.size → (Value.slice A k C).ownBlock ≠ some b → w2.heap[b]? = wc.heap[b]? := fun b h1 h2 =>
          (hg2.block b (by simp; omega) (fun e => h2 e.symm)).trans (Below.heap_alloc _ _ _ h1)
        have hn2 : ∀ b, b < wc.heap.size → (Value.slice A k C).ownBlock ≠ some b → (Value.slice A2 (k + 1) C2).ownBlock ≠ some b := fun b h1 h2 h3 => by
          rcases hat2 with h | h
          · exact h2 (h.symm.trans h3)
          · rw [h3] at h
            simp at h
            omega
        have hB2 : Below M wc w2 := ((Below.refl M wc).alloc (by omega) (.cells #[.string ⟨#[]⟩] 9)).grown hg2 (by simp; omega) (own_ge (hKc.alloc (.cells #[.string ⟨#[]⟩] 9)) (by omega))
        have c22 : w2.cell? ⟨M + 1 + 1, 2, none⟩ = some (.slice A k C) := blk_c b22 2 rfl
        have f22 := blk_frozen b22 2
        have b23 : (w2.setCell ⟨M + 1 + 1, 2, none⟩ (.slice A2 (k + 1) C2)).heap[M + 1 + 1]? = some (.cells #[.int .i64 1, .string ⟨#[]⟩, .slice A2 (k + 1) C2, .slice B k D, .int .i64 0, .int .i64 0, .float .f64 0, .string ⟨#[]⟩, .slice none 0 0, .slice none 0 0, .int .i64 0] 33) := blk_set b22 2 _
        have hK3 := ownsRow_setCell_below hK2 (a := ⟨M + 1 + 1, 2, none⟩) (by show M + 1 + 1 < M + 3; omega) (.slice A2 (k + 1) C2)
        have hL3 := ownsRow_setCell_below hL2 (a := ⟨M + 1 + 1, 2, none⟩) (by show M + 1 + 1 < M + 3; omega) (.slice A2 (k + 1) C2)
        have hB3 := hB2.setCell (p := ⟨M + 1 + 1, 2, none⟩) (by show M ≤ M + 1 + 1; omega) (.slice A2 (k + 1) C2)
        have hs3 : (w2.setCell ⟨M + 1 + 1, 2, none⟩ (.slice A2 (k + 1) C2)).heap.size = w2.heap.size := by simp
        have hk3 : ∀ b, b < wc.heap.size → b ≠ M + 1 + 1 → (Value.slice A k C).ownBlock ≠ some b → (w2.setCell ⟨M + 1 + 1, 2, none⟩ (.slice A2 (k + 1) C2)).heap[b]? = wc.heap[b]? := fun b h1 h0 h2 =>
          (Below.heap_setCell _ _ _ _ h0).trans (hk2 b h1 h2)
        have hA2lt : ∀ b, (Value.slice A2 (k + 1) C2).ownBlock = some b → b < w2.heap.size := fun b e => (hK2.lt b e).2
        have c33 : (w2.setCell ⟨M + 1 + 1, 2, none⟩ (.slice A2 (k + 1) C2)).cell? ⟨M + 1 + 1, 3, none⟩ = some (.slice B k D) := blk_c b23 3 rfl
        have HP := Lib.hid (And.intro hK3 (And.intro hB3 (And.intro hk3 (And.intro hn2 (And.intro hA2lt (And.intro hKlt (And.intro hLlt b23)))))))
        clear hK2 hg2 hat2 hL2 hk2 hn2 hB2 b22 hK3 hB3 hk3 hA2lt hKlt hLlt b23 hKc hLc bc2 p2
        go_wp2_with (at_builtin; refine wpList_append_s _ rfl _ _ _ rfl (M + 3) 26 i6 _ 6 88 Try.underlying24 hi6 hz60 hz61 hz62 rfl (by decide) (.slice B k D) k zs rfl (hL3.alloc (.cells #[.int .i64 0, .int .i64 0, .float .f64 0, .string ⟨#[]⟩, .slice none 0 0, .slice none 0 0] 26)) (w2.heap.size + 1) (some ⟨w2.heap.size, 0, none⟩) 1 1 [.int .i64 0, .int .i64 0, .float .f64 0, .string ⟨#[]⟩, .slice none 0 0, .slice none 0 0] rfl ?s1 ?s2 ?s3 ?s4 ?s5 ?_)
        case s1 => exact ⟨rfl, fun _ => ⟨_, rfl, Nat.lt_succ_self _, World.news_of_block (cs := #[.int .i64 0, .int .i64 0, .float .f64 0, .string ⟨#[]⟩, .slice none 0 0, .slice none 0 0]) (t := 26) (fr := (0, 0)) (new_block (by simp))⟩⟩
        case s2 => intro u hu; simp at hu; rcases hu with rfl | rfl | rfl | rfl | rfl | rfl <;> rfl
        case s3 => unfold maxLen; omega
        case s4 => omega
        case s5 => simp; omega
        intro B2 D2 w4 hL4 hg4 hat4
        obtain ⟨hK3, hB3, hk3, hn2, hA2lt, hKlt, hLlt, b23⟩ := HP.out
        obtain ⟨hgt, hstop, bcx, bcr, hallc, hBwc⟩ := HC.out
        have hs4 : w2.heap.size + 1 ≤ w4.heap.size := by have := hg4.size; simpa using this
        have hK4 := own_keep_ne (hK3.alloc (.cells #[.int .i64 0, .int .i64 0, .float .f64 0, .string ⟨#[]⟩, .slice none 0 0, .slice none 0 0] 26)) (hL3.alloc (.cells #[.int .i64 0, .int .i64 0, .float .f64 0, .string ⟨#[]⟩, .slice none 0 0, .slice none 0 0] 26)) (by decide) hg4
        have b24 := blk_grown (blk_alloc b23 (.cells #[.int .i64 0, .int .i64 0, .float .f64 0, .string ⟨#[]⟩, .slice none 0 0, .slice none 0 0] 26)) hg4 (own_notin (hL3.alloc (.cells #[.int .i64 0, .int .i64 0, .float .f64 0, .string ⟨#[]⟩, .slice none 0 0, .slice none 0 0] 26)) (by omega))
        have c43 : w4.cell? ⟨M + 1 + 1, 3, none⟩ = some (.slice B k D) := blk_c b24 3 rfl
        have f43 := blk_frozen b24 3
        have hk4 : ∀ b, b < wc.heap.size → b ≠ M + 1 + 1 → (Value.slice A k C).ownBlock ≠ some b → (Value.slice B k D).ownBlock ≠ some b → (w4.setCell ⟨M + 1 + 1, 3, none⟩ (.slice B2 (k + 1) D2)).heap[b]? = wc.heap[b]? := fun b h1 h0 h2 h3 =>
          (Below.heap_setCell _ _ _ _ h0).trans ((hg4.block b (by simp; omega) (fun e => h3 e.symm)).trans ((Below.heap_alloc _ _ _ (by rw [hs3]; omega)).trans (hk3 b h1 h0 h2)))
        have hn4 : ∀ b, b < wc.heap.size → (Value.slice B k D).ownBlock ≠ some b → (Value.slice B2 (k + 1) D2).ownBlock ≠ some b := fun b h1 h2 h3 => by
          rcases hat4 with h | h
          · exact h2 (h.symm.trans h3)
          · rw [h3] at h
            simp at h
            omega
        have hs5 : (w4.setCell ⟨M + 1 + 1, 3, none⟩ (.slice B2 (k + 1) D2)).heap.size = w4.heap.size := by simp
        have hB5 : Below M wc (w4.setCell ⟨M + 1 + 1, 3, none⟩ (.slice B2 (k + 1) D2)) := ((hB3.alloc (by rw [hs3]; omega) (.cells #[.int .i64 0, .int .i64 0, .float .f64 0, .string ⟨#[]⟩, .slice none 0 0, .slice none 0 0] 26)).grown hg4 (by simp; omega) (own_ge (hL3.alloc (.cells #[.int .i64 0, .int .i64 0, .float .f64 0, .string ⟨#[]⟩, .slice none 0 0, .slice none 0 0] 26)) (by omega))).setCell (by show M ≤ M + 1 + 1; omega) _
        have hPk : insAt P k (ByteArray.empty, gNull) = P ++ [(ByteArray.empty, gNull)] := by rw [← hPl, insAt_end]
        have hl5 : (insAt P k (ByteArray.empty, gNull)).length = k + 1 := by rw [hPk]; simp [hPl]
        have hinv5 : SkInv M w (w4.setCell ⟨M + 1 + 1, 3, none⟩ (.slice B2 (k + 1) D2)) (insAt P k (ByteArray.empty, gNull)) A2 C2 B2 D2 := by
          refine ⟨zs ++ [.int .i64 0, .int .i64 0, .float .f64 0, .string ⟨#[]⟩, .slice none 0 0, .slice none 0 0], ?_, ?_, ?_, ?_, hBwc.trans (hB5.mono (by omega)), by rw [hs5]; omega⟩
          · rw [hl5]; exact blk_set b24 3 _
          · rw [hl5, hPk, List.map_append]
            exact ownsRow_setCell_below hK4 (a := ⟨M + 1 + 1, 3, none⟩) (by show M + 1 + 1 < M + 3; omega) _
          · rw [hl5]
            exact ownsRow_setCell_below hL4 (a := ⟨M + 1 + 1, 3, none⟩) (by show M + 1 + 1 < M + 3; omega) _
          · rw [hl5, hPk, List.map_append]
            refine (hallc.keep (fun b hb => hk4 b hb.1.2 (by have := hb.1.1; omega) hb.2.1 hb.2.2) (fun b hb => ⟨⟨hb.1.1, by rw [hs5]; have := hb.1.2; omega⟩, hn2 b hb.1.2 hb.2.1, hn4 b hb.1.2 hb.2.2⟩)).app (VCells.one isV_nil)
        have bx5 : (w4.setCell ⟨M + 1 + 1, 3, none⟩ (.slice B2 (k + 1) D2)).heap[M]? = wc.heap[M]? := hk4 M (by omega) (by omega) (fun e => by have := (hKlt _ e).1; omega) (fun e => by have := (hLlt _ e).1; omega)
        have br5 : (w4.setCell ⟨M + 1 + 1, 3, none⟩ (.slice B2 (k + 1) D2)).heap[M + 1]? = wc.heap[M + 1]? := hk4 (M + 1) (by omega) (by omega) (fun e => by have := (hKlt _ e).1; omega) (fun e => by have := (hLlt _ e).1; omega)
        have hxc : ∀ b, b < M → (w4.setCell ⟨M + 1 + 1, 3, none⟩ (.slice B2 (k + 1) D2)).heap[b]? = w.heap[b]? := fun b hb => (hBwc.trans (hB5.mono (by omega))).block b hb
        have c42 : w4.cell? ⟨M + 1 + 1, 2, none⟩ = some (.slice A2 (k + 1) C2) := blk_c b24 2 rfl
        have hown := hinv5
        obtain ⟨_, _, hKo, hLo, _, _⟩ := hown
        rw [hl5] at hKo hLo
        obtain ⟨gA, rfl, hgA, _, _⟩ := own_some hKo
        obtain ⟨gB, rfl, hgB, _, _⟩ := own_some hLo
        have hAB : gA ≠ gB := by
          rcases own_ne hKo hLo (by decide) with h | h
          · cases h
          · exact fun e => h (by rw [e]; rfl)
        have HQ := Lib.hid (And.intro hinv5 (And.intro (bx5.trans bcx) (And.intro (br5.trans bcr) (And.intro hgt (And.intro hstop hxc)))))
        clear hK3 hB3 hk3 hn2 hA2lt hKlt hLlt b23 hgt hstop bcx bcr hallc hBwc hK4 b24 hk4 hn4 hB5 hinv5 bx5 br5 hKo hLo hL4 hg4 hat4 hL3 c33 HP HC hxc hs5 hs3
        clear c22 f22
        go_wp2_with fail
        generalize w4.setCell ⟨M + 1 + 1, 3, none⟩ (.slice (some ⟨gB, 0, none⟩) (k + 1) D2) = w5 at *
        clear c42 c43 f43
        have hw5 : w5.heap.size = w5.heap.size := rfl
        go_loopw [7] (fun s7 wx => ∃ j h, s7 = .int .i64 (j : Nat) ∧ p ≤ j ∧ j ≤ k ∧ SkInv M w wx (insAt P j h) (some ⟨gA, 0, none⟩) C2 (some ⟨gB, 0, none⟩) D2 ∧ (∀ b, b ≠ gA → b ≠ gB → wx.heap[b]? = w5.heap[b]?)) (fun s7 _ => (intOf s7).toNat)
        case atStart => exact ⟨k, (ByteArray.empty, gNull), rfl, hp, Nat.le_refl _, HQ.out.1, fun _ _ _ => rfl⟩
        case round =>
          clear hw5
          obtain ⟨j, h, rfl, hpj, hjk, hinv, hfar⟩ := hrel
          have hlj : (insAt P j h).length = k + 1 := by rw [insAt_length _ _ (by omega), hPl]
          obtain ⟨_, bo, _, _, _, _, _⟩ := id hinv
          rw [hlj] at bo
          have o2 : wr.cell? ⟨M + 1 + 1, 2, none⟩ = some (.slice (some ⟨gA, 0, none⟩) (k + 1) C2) := blk_c bo 2 rfl
          have o3 : wr.cell? ⟨M + 1 + 1, 3, none⟩ = some (.slice (some ⟨gB, 0, none⟩) (k + 1) D2) := blk_c bo 3 rfl
          by_cases hj : p < j
          · obtain ⟨q, rfl⟩ : ∃ q, j = q + 1 := ⟨j - 1, by omega⟩
            obtain ⟨y2, hy2⟩ : ∃ y, P[q]? = some y := ⟨P[q]'(by omega), by simp⟩
            obtain ⟨x1, ya, yb, yc, yd, x2, x3, x4, x5, x6, x7, hyv⟩ := hinv.at_ (q := q) (y := y2) (by rw [insAt_before _ _ (by omega), hy2])
            obtain ⟨z1, za, zb, zc, zd, z2, z3, z4, z5, z6, z7, _⟩ := hinv.at_ (q := q + 1) (y := h) (insAt_at _ _ (by omega))
            have f0 := (hinv.free (q + 1)).1
            have f1 := (hinv.free ((q + 1) * 6)).2
            have f2 := (hinv.free ((q + 1) * 6 + 1)).2
            have f3 := (hinv.free ((q + 1) * 6 + 2)).2
            have f4 := (hinv.free ((q + 1) * 6 + 3)).2
            have f5 := (hinv.free ((q + 1) * 6 + 4)).2
            have f6 := (hinv.free ((q + 1) * 6 + 5)).2
            have j0 : (0 : Int) ≤ (q : Int) := by omega
            have j1 : (q : Int) < (k : Int) + 1 := by omega
            have j2 : (q : Int) + 1 < (k : Int) + 1 := by omega
            have j3 : (0 : Int) ≤ (q : Int) + 1 := by omega
            have j4 : (p : Int) < (q : Int) + 1 := by omega
            have hq1 : p ≤ q := by omega
            have hq2 : q ≤ k := by omega
            have hwq : IntKind.i64.wrap (q : Int) = q := wrap_nat (by omega)
            have n1 : gA ≠ M + 1 + 1 := by omega
            have n2 : gB ≠ M + 1 + 1 := by omega
            have HS := Lib.hid (And.intro hinv (And.intro hfar (And.intro hy2 hyv)))
            clear hinv hfar hy2 hyv bo
            go_wp2_with fail
            refine wp_region_K (fun w' => w'.cell? ⟨M + 1 + 1, 2, none⟩ = some (.slice (some ⟨gA, 0, none⟩) (k + 1) C2) ∧ w'.cell? ⟨M + 1 + 1, 3, none⟩ = some (.slice (some ⟨gB, 0, none⟩) (k + 1) D2) ∧ w'.cell? ⟨gA, q, none⟩ = some (.string y2.1) ∧ w'.cell? ⟨gB, q * 6, none⟩ = some (.int .i64 y2.2.kind) ∧ w'.cell? ⟨gB, q * 6 + 1, none⟩ = some (.int .i64 y2.2.n) ∧ w'.cell? ⟨gB, q * 6 + 2, none⟩ = some (.float .f64 y2.2.f) ∧ w'.cell? ⟨gB, q * 6 + 3, none⟩ = some (.string y2.2.s) ∧ w'.cell? ⟨gB, q * 6 + 4, none⟩ = some (.slice ya y2.2.keys.length yb) ∧ w'.cell? ⟨gB, q * 6 + 5, none⟩ = some (.slice yc y2.2.l.length yd)) [0, 1, 2, 3, 4, 5, 6, 7, 8, 9, 10, 11, 12, 13, 14, 15, 16, 17] (by kernel_rfl) ?_ (fun hHeld => ?_)
            · exact ⟨o2, o3, x1, x2, x3, x4, x5, x6, x7⟩
            refine wpK_take (i := 0) (v := ?_) rfl (by kernel_rfl) (by kernel_rfl) (by kernel_rfl) (by kernel_rfl) (.inl ⟨by rfl, ?_⟩) hHeld ?_
            rotate_left
            · (intro w hSw; (try dsimp only at hSw); go_split_ands; go_simp; (try with_reducible rfl))
            try simp only [Act.put, List.setIfInBounds_toArray, List.set_cons_zero, List.set_cons_succ]
            refine wpK_take (i := 1) (v := ?_) rfl (by kernel_rfl) (by kernel_rfl) (by kernel_rfl) (by kernel_rfl) (.inl ⟨by rfl, ?_⟩) hHeld ?_
            rotate_left
            · (intro w hSw; (try dsimp only at hSw); go_split_ands; go_simp; (try with_reducible rfl))
            try simp only [Act.put, List.setIfInBounds_toArray, List.set_cons_zero, List.set_cons_succ]
            refine wpK_take (i := 2) (v := ?_) rfl (by kernel_rfl) (by kernel_rfl) (by kernel_rfl) (by kernel_rfl) (.inl ⟨by rfl, ?_⟩) hHeld ?_
            rotate_left
            · (intro w hSw; (try dsimp only at hSw); go_split_ands; go_simp; (try with_reducible rfl))
            try simp only [Act.put, List.setIfInBounds_toArray, List.set_cons_zero, List.set_cons_succ]
            refine wpK_take (i := 3) (v := ?_) rfl (by kernel_rfl) (by kernel_rfl) (by kernel_rfl) (by kernel_rfl) (.inl ⟨by rfl, ?_⟩) hHeld ?_
            rotate_left
            · (intro w hSw; (try dsimp only at hSw); go_split_ands; go_simp; (try with_reducible rfl))
            try simp only [Act.put, List.setIfInBounds_toArray, List.set_cons_zero, List.set_cons_succ]
            refine wpK_take (i := 4) (v := ?_) rfl (by kernel_rfl) (by kernel_rfl) (by kernel_rfl) (by kernel_rfl) (.inl ⟨by rfl, ?_⟩) hHeld ?_
            rotate_left
            · (intro w hSw; (try dsimp only at hSw); go_split_ands; go_simp; (try with_reducible rfl))
            try simp only [Act.put, List.setIfInBounds_toArray, List.set_cons_zero, List.set_cons_succ]
            refine wpK_take (i := 5) (v := ?_) rfl (by kernel_rfl) (by kernel_rfl) (by kernel_rfl) (by kernel_rfl) (.inl ⟨by rfl, ?_⟩) hHeld ?_
            rotate_left
            · (intro w hSw; (try dsimp only at hSw); go_split_ands; go_simp; (try with_reducible rfl))
            try simp only [Act.put, List.setIfInBounds_toArray, List.set_cons_zero, List.set_cons_succ]
            refine wpK_take (i := 6) (v := ?_) rfl (by kernel_rfl) (by kernel_rfl) (by kernel_rfl) (by kernel_rfl) (.inl ⟨by rfl, ?_⟩) hHeld ?_
            rotate_left
            · (intro w hSw; (try dsimp only at hSw); go_split_ands; go_simp; (try with_reducible rfl))
            try simp only [Act.put, List.setIfInBounds_toArray, List.set_cons_zero, List.set_cons_succ]
            refine wpK_take (i := 7) (v := ?_) rfl (by kernel_rfl) (by kernel_rfl) (by kernel_rfl) (by kernel_rfl) (.inl ⟨by rfl, ?_⟩) hHeld ?_
            rotate_left
            · (intro w hSw; (try dsimp only at hSw); go_split_ands; go_simp; (try with_reducible rfl))
            try simp only [Act.put, List.setIfInBounds_toArray, List.set_cons_zero, List.set_cons_succ]
            refine wpK_take (i := 8) (v := ?_) rfl (by kernel_rfl) (by kernel_rfl) (by kernel_rfl) (by kernel_rfl) (.inl ⟨by rfl, ?_⟩) hHeld ?_
            rotate_left
            · (intro w hSw; (try dsimp only at hSw); go_split_ands; go_simp; (try with_reducible rfl))
            try simp only [Act.put, List.setIfInBounds_toArray, List.set_cons_zero, List.set_cons_succ]
            refine wpK_take (i := 9) (v := ?_) rfl (by kernel_rfl) (by kernel_rfl) (by kernel_rfl) (by kernel_rfl) (.inl ⟨by rfl, ?_⟩) hHeld ?_
            rotate_left
            · (intro w hSw; (try dsimp only at hSw); go_split_ands; go_simp; (try with_reducible rfl))
            try simp only [Act.put, List.setIfInBounds_toArray, List.set_cons_zero, List.set_cons_succ]
            refine wpK_take (i := 10) (v := ?_) rfl (by kernel_rfl) (by kernel_rfl) (by kernel_rfl) (by kernel_rfl) (.inl ⟨by rfl, ?_⟩) hHeld ?_
            rotate_left
            · (intro w hSw; (try dsimp only at hSw); go_split_ands; go_simp; (try with_reducible rfl))
            try simp only [Act.put, List.setIfInBounds_toArray, List.set_cons_zero, List.set_cons_succ]
            refine wpK_take (i := 11) (v := ?_) rfl (by kernel_rfl) (by kernel_rfl) (by kernel_rfl) (by kernel_rfl) (.inl ⟨by rfl, ?_⟩) hHeld ?_
            rotate_left
            · (intro w hSw; (try dsimp only at hSw); go_split_ands; go_simp; (try with_reducible rfl))
            try simp only [Act.put, List.setIfInBounds_toArray, List.set_cons_zero, List.set_cons_succ]
            refine wpK_take (i := 12) (v := ?_) rfl (by kernel_rfl) (by kernel_rfl) (by kernel_rfl) (by kernel_rfl) (.inl ⟨by rfl, ?_⟩) hHeld ?_
            rotate_left
            · (intro w hSw; (try dsimp only at hSw); go_split_ands; go_simp; (try with_reducible rfl))
            try simp only [Act.put, List.setIfInBounds_toArray, List.set_cons_zero, List.set_cons_succ]
            refine wpK_take (i := 13) (v := ?_) rfl (by kernel_rfl) (by kernel_rfl) (by kernel_rfl) (by kernel_rfl) (.inl ⟨by rfl, ?_⟩) hHeld ?_
            rotate_left
            · (intro w hSw; (try dsimp only at hSw); go_split_ands; go_simp; (try with_reducible rfl))
            try simp only [Act.put, List.setIfInBounds_toArray, List.set_cons_zero, List.set_cons_succ]
            refine wpK_take (i := 14) (v := ?_) rfl (by kernel_rfl) (by kernel_rfl) (by kernel_rfl) (by kernel_rfl) (.inl ⟨by rfl, ?_⟩) hHeld ?_
            rotate_left
            · (intro w hSw; (try dsimp only at hSw); go_split_ands; go_simp; (try with_reducible rfl))
            try simp only [Act.put, List.setIfInBounds_toArray, List.set_cons_zero, List.set_cons_succ]
            refine wpK_take (i := 15) (v := ?_) rfl (by kernel_rfl) (by kernel_rfl) (by kernel_rfl) (by kernel_rfl) (.inl ⟨by rfl, ?_⟩) hHeld ?_
            rotate_left
            · (intro w hSw; (try dsimp only at hSw); go_split_ands; go_simp; (try with_reducible rfl))
            try simp only [Act.put, List.setIfInBounds_toArray, List.set_cons_zero, List.set_cons_succ]
            refine wpK_take (i := 16) (v := ?_) rfl (by kernel_rfl) (by kernel_rfl) (by kernel_rfl) (by kernel_rfl) (.inl ⟨by rfl, ?_⟩) hHeld ?_
            rotate_left
            · (intro w hSw; (try dsimp only at hSw); go_split_ands; go_simp; (try with_reducible rfl))
            try simp only [Act.put, List.setIfInBounds_toArray, List.set_cons_zero, List.set_cons_succ]
            refine wpK_take (i := 17) (v := ?_) rfl (by kernel_rfl) (by kernel_rfl) (by kernel_rfl) (by kernel_rfl) (.inl ⟨by rfl, ?_⟩) hHeld ?_
            rotate_left
            · (intro w hSw; (try dsimp only at hSw); go_split_ands; go_simp; (try with_reducible rfl))
            try simp only [Act.put, List.setIfInBounds_toArray, List.set_cons_zero, List.set_cons_succ]
            refine wpK_one (i := 18) (by kernel_rfl) rfl (fun K hK => ?_)
            go_simp
            refine hK.out _ _ ?_ (fun hHeld => ?_)
            · exact hHeld
            clear hK K
            try simp only [Act.put, List.setIfInBounds_toArray, List.set_cons_zero, List.set_cons_succ]
            refine wpK_one (i := 19) (by kernel_rfl) rfl (fun K hK => ?_)
            go_simp
            refine hK.out _ _ ?_ (fun hHeld => ?_)
            · exact ⟨cell_far hHeld.1 (fun e => n1 e.symm), cell_far hHeld.2.1 (fun e => n1 e.symm), by go_simp, cell_far hHeld.2.2.2.1 (fun e => hAB e.symm), cell_far hHeld.2.2.2.2.1 (fun e => hAB e.symm), cell_far hHeld.2.2.2.2.2.1 (fun e => hAB e.symm), cell_far hHeld.2.2.2.2.2.2.1 (fun e => hAB e.symm), cell_far hHeld.2.2.2.2.2.2.2.1 (fun e => hAB e.symm), cell_far hHeld.2.2.2.2.2.2.2.2 (fun e => hAB e.symm)⟩
            clear hK K
            try simp only [Act.put, List.setIfInBounds_toArray, List.set_cons_zero, List.set_cons_succ]
            refine wpK_last (i := 20) (by kernel_rfl) (by kernel_rfl) rfl (fun K hK => ?_)
            go_simp
            refine hK.out _ _ ?_
            clear hK K
            try simp only [Act.put, List.setIfInBounds_toArray, List.set_cons_zero, List.set_cons_succ]
            refine wpK_last (i := 21) (by kernel_rfl) (by kernel_rfl) rfl (fun K hK => ?_)
            go_simp
            refine hK.out _ _ ?_
            clear hK K
            try simp only [Act.put, List.setIfInBounds_toArray, List.set_cons_zero, List.set_cons_succ]
            refine wpK_done (by kernel_rfl) ?_ _
            obtain ⟨hinv, hfar, hy2, hyv⟩ := HS.out
            obtain ⟨h1, h2⟩ := skinv_set hinv (q + 1) y2.1 hyv hgA hgB hAB
            have e1 : (insAt P (q + 1) h).set (q + 1) (y2.1, y2.2) = insAt P q y2 := insAt_shift P y2 h (by omega) hy2
            rw [e1] at h1
            unfold stKV at h1 h2
            obtain ⟨w6, hw6⟩ : ∃ w6, w6 = (((((((wr.setCell ⟨gA, q + 1, none⟩ (.string y2.1)).setCell ⟨gB, (q + 1) * 6, none⟩ (.int .i64 y2.2.kind)).setCell ⟨gB, (q + 1) * 6 + 1, none⟩ (.int .i64 y2.2.n)).setCell ⟨gB, (q + 1) * 6 + 2, none⟩ (.float .f64 y2.2.f)).setCell ⟨gB, (q + 1) * 6 + 3, none⟩ (.string y2.2.s)).setCell ⟨gB, (q + 1) * 6 + 4, none⟩ (.slice ya y2.2.keys.length yb)).setCell ⟨gB, (q + 1) * 6 + 5, none⟩ (.slice yc y2.2.l.length yd)).drew := ⟨_, rfl⟩
            have h3 : SkInv M w w6 (insAt P q y2) (some ⟨gA, 0, none⟩) C2 (some ⟨gB, 0, none⟩) D2 := by rw [hw6]; exact h1.drew_
            have h4 : ∀ b, b ≠ gA → b ≠ gB → w6.heap[b]? = w5.heap[b]? := fun b hb hb' => by rw [hw6, drew_heap]; exact (h2 b hb hb').trans (hfar b hb hb')
            rw [← hw6]
            have HF := Lib.hid (And.intro h3 h4)
            clear h1 h2 e1 hinv hfar hy2 hyv HS hwq h3 h4 hw6
            clear z1 z2 z3 z4 z5 z6 z7 x1 x2 x3 x4 x5 x6 x7 f0 f1 f2 f3 f4 f5 f6 hHeld o2 o3
            go_wp2_with fail
            exact ⟨⟨q, y2, rfl, hq1, hq2, HF.out.1, HF.out.2⟩, by simp [intOf]⟩
          · have hjp : j = p := by omega
            subst hjp
            have hQ := HQ.out
            obtain ⟨_, hQx, hQr, hgt, hstop, hQf⟩ := hQ
            obtain ⟨_, _, _, hkc, g0, g1, g2, g3, g4, g5, hyv⟩ := HI.out
            have hgAM : gA ≠ M := by omega
            have hgBM : gB ≠ M := by omega
            have bM := (hfar M (fun e => hgAM e.symm) (fun e => hgBM e.symm)).trans hQx
            have bM1 := (hfar (M + 1) (by omega) (by omega)).trans hQr
            have hlow : ∀ b, b < M → wr.heap[b]? = w.heap[b]? := fun b hb => (hfar b (by omega) (by omega)).trans (hQf b hb)
            have hlc' : ∀ (ad : Addr) (u : Value), ad.block < M → w.cell? ad = some u → wr.cell? ad = some u := fun ad u ha h => (World.cell?_of_block (hlow _ ha)).trans h
            have k2 : wr.cell? ⟨M, 2, none⟩ = some (.slice (some ⟨kb, ko, none⟩) x.keys.length ck) := blk_c bM 2 rfl
            have k3 : wr.cell? ⟨M, 3, none⟩ = some (.slice (some ⟨lb', lo, none⟩) x.l.length c) := blk_c bM 3 rfl
            have kk := hlc' _ _ hkb.2 hkc
            have q0 := hlc' _ _ hlb.2 g0
            have q1 := hlc' _ _ hlb.2 g1
            have q2 := hlc' _ _ hlb.2 g2
            have q3 := hlc' _ _ hlb.2 g3
            have q4 := hlc' _ _ hlb.2 g4
            have q5 := hlc' _ _ hlb.2 g5
            have hyw : IsV wr (Btw 0 wr.heap.size) y (.agg #[.int .i64 y.kind, .int .i64 y.n, .float .f64 y.f, .string y.s, .slice e0 y.keys.length f0, .slice e1 y.l.length f1]) := IsV.keep (fun b hb => hlow b hb.2) (fun b hb => ⟨Nat.zero_le _, by have := hb.2; have := hinv.size; omega⟩) _ hyv
            have HYD := Lib.hid hyw.drew_
            have hc := clean_any y
            have j0 : (0 : Int) ≤ (j : Int) := by omega
            have j1 : (j : Int) < (k : Int) + 1 := by omega
            have n1 : gA ≠ M + 1 + 1 := by omega
            have n3 : gA ≠ M := by omega
            have n4 : gA ≠ kb := by have := hkb.2; omega
            have n5 : gA ≠ lb' := by have := hlb.2; omega
            have n2 : gB ≠ M + 1 + 1 := by omega
            have hj4 : ¬ ((j : Int) < (j : Int)) := by omega
            have hszr := hinv.size
            have HS := Lib.hid (And.intro hinv (And.intro bM (And.intro bM1 (And.intro hgt hstop))))
            clear hinv hfar bo hQx hQr hQf hgt hstop hkc g0 g1 g2 g3 g4 g5 hyv bM bM1 hlow hlc' hyw
            go_wp2_with fail
            refine wp_region_K (fun w' => w'.cell? ⟨M + 1 + 1, 2, none⟩ = some (.slice (some ⟨gA, 0, none⟩) (k + 1) C2) ∧ w'.cell? ⟨M + 1 + 1, 3, none⟩ = some (.slice (some ⟨gB, 0, none⟩) (k + 1) D2) ∧ w'.cell? ⟨M, 2, none⟩ = some (.slice (some ⟨kb, ko, none⟩) x.keys.length ck) ∧ w'.cell? ⟨M, 3, none⟩ = some (.slice (some ⟨lb', lo, none⟩) x.l.length c) ∧ w'.cell? ⟨kb, ko + k, none⟩ = some (.string key) ∧ w'.cell? ⟨lb', lo + k * 6, none⟩ = some (.int .i64 y.kind) ∧ w'.cell? ⟨lb', lo + k * 6 + 1, none⟩ = some (.int .i64 y.n) ∧ w'.cell? ⟨lb', lo + k * 6 + 2, none⟩ = some (.float .f64 y.f) ∧ w'.cell? ⟨lb', lo + k * 6 + 3, none⟩ = some (.string y.s) ∧ w'.cell? ⟨lb', lo + k * 6 + 4, none⟩ = some (.slice e0 y.keys.length f0) ∧ w'.cell? ⟨lb', lo + k * 6 + 5, none⟩ = some (.slice e1 y.l.length f1)) [0, 1, 2, 3, 4, 5, 6, 7, 8, 9, 10, 11, 12, 13, 14, 15] (by kernel_rfl) ?_ (fun hHeld => ?_)
            · exact ⟨o2, o3, k2, k3, kk, q0, q1, q2, q3, q4, q5⟩
            refine wpK_take (i := 0) (v := ?_) rfl (by kernel_rfl) (by kernel_rfl) (by kernel_rfl) (by kernel_rfl) (.inl ⟨by rfl, ?_⟩) hHeld ?_
            rotate_left
            · (intro w hSw; (try dsimp only at hSw); go_split_ands; go_simp; (try with_reducible rfl))
            try simp only [Act.put, List.setIfInBounds_toArray, List.set_cons_zero, List.set_cons_succ]
            refine wpK_take (i := 1) (v := ?_) rfl (by kernel_rfl) (by kernel_rfl) (by kernel_rfl) (by kernel_rfl) (.inl ⟨by rfl, ?_⟩) hHeld ?_
            rotate_left
            · (intro w hSw; (try dsimp only at hSw); go_split_ands; go_simp; (try with_reducible rfl))
            try simp only [Act.put, List.setIfInBounds_toArray, List.set_cons_zero, List.set_cons_succ]
            refine wpK_take (i := 2) (v := ?_) rfl (by kernel_rfl) (by kernel_rfl) (by kernel_rfl) (by kernel_rfl) (.inl ⟨by rfl, ?_⟩) hHeld ?_
            rotate_left
            · (intro w hSw; (try dsimp only at hSw); go_split_ands; go_simp; (try with_reducible rfl))
            try simp only [Act.put, List.setIfInBounds_toArray, List.set_cons_zero, List.set_cons_succ]
            refine wpK_take (i := 3) (v := ?_) rfl (by kernel_rfl) (by kernel_rfl) (by kernel_rfl) (by kernel_rfl) (.inl ⟨by rfl, ?_⟩) hHeld ?_
            rotate_left
            · (intro w hSw; (try dsimp only at hSw); go_split_ands; go_simp; (try with_reducible rfl))
            try simp only [Act.put, List.setIfInBounds_toArray, List.set_cons_zero, List.set_cons_succ]
            refine wpK_take (i := 4) (v := ?_) rfl (by kernel_rfl) (by kernel_rfl) (by kernel_rfl) (by kernel_rfl) (.inl ⟨by rfl, ?_⟩) hHeld ?_
            rotate_left
            · (intro w hSw; (try dsimp only at hSw); go_split_ands; go_simp; (try with_reducible rfl))
            try simp only [Act.put, List.setIfInBounds_toArray, List.set_cons_zero, List.set_cons_succ]
            refine wpK_take (i := 5) (v := ?_) rfl (by kernel_rfl) (by kernel_rfl) (by kernel_rfl) (by kernel_rfl) (.inl ⟨by rfl, ?_⟩) hHeld ?_
            rotate_left
            · (intro w hSw; (try dsimp only at hSw); go_split_ands; go_simp; (try with_reducible rfl))
            try simp only [Act.put, List.setIfInBounds_toArray, List.set_cons_zero, List.set_cons_succ]
            refine wpK_take (i := 6) (v := ?_) rfl (by kernel_rfl) (by kernel_rfl) (by kernel_rfl) (by kernel_rfl) (.inl ⟨by rfl, ?_⟩) hHeld ?_
            rotate_left
            · (intro w hSw; (try dsimp only at hSw); go_split_ands; go_simp; (try with_reducible rfl))
            try simp only [Act.put, List.setIfInBounds_toArray, List.set_cons_zero, List.set_cons_succ]
            refine wpK_take (i := 7) (v := ?_) rfl (by kernel_rfl) (by kernel_rfl) (by kernel_rfl) (by kernel_rfl) (.inl ⟨by rfl, ?_⟩) hHeld ?_
            rotate_left
            · (intro w hSw; (try dsimp only at hSw); go_split_ands; go_simp; (try with_reducible rfl))
            try simp only [Act.put, List.setIfInBounds_toArray, List.set_cons_zero, List.set_cons_succ]
            refine wpK_take (i := 8) (v := ?_) rfl (by kernel_rfl) (by kernel_rfl) (by kernel_rfl) (by kernel_rfl) (.inl ⟨by rfl, ?_⟩) hHeld ?_
            rotate_left
            · (intro w hSw; (try dsimp only at hSw); go_split_ands; go_simp; (try with_reducible rfl))
            try simp only [Act.put, List.setIfInBounds_toArray, List.set_cons_zero, List.set_cons_succ]
            refine wpK_take (i := 9) (v := ?_) rfl (by kernel_rfl) (by kernel_rfl) (by kernel_rfl) (by kernel_rfl) (.inl ⟨by rfl, ?_⟩) hHeld ?_
            rotate_left
            · (intro w hSw; (try dsimp only at hSw); go_split_ands; go_simp; (try with_reducible rfl))
            try simp only [Act.put, List.setIfInBounds_toArray, List.set_cons_zero, List.set_cons_succ]
            refine wpK_take (i := 10) (v := ?_) rfl (by kernel_rfl) (by kernel_rfl) (by kernel_rfl) (by kernel_rfl) (.inl ⟨by rfl, ?_⟩) hHeld ?_
            rotate_left
            · (intro w hSw; (try dsimp only at hSw); go_split_ands; go_simp; (try with_reducible rfl))
            try simp only [Act.put, List.setIfInBounds_toArray, List.set_cons_zero, List.set_cons_succ]
            refine wpK_take (i := 11) (v := ?_) rfl (by kernel_rfl) (by kernel_rfl) (by kernel_rfl) (by kernel_rfl) (.inl ⟨by rfl, ?_⟩) hHeld ?_
            rotate_left
            · (intro w hSw; (try dsimp only at hSw); go_split_ands; go_simp; (try with_reducible rfl))
            try simp only [Act.put, List.setIfInBounds_toArray, List.set_cons_zero, List.set_cons_succ]
            refine wpK_take (i := 12) (v := ?_) rfl (by kernel_rfl) (by kernel_rfl) (by kernel_rfl) (by kernel_rfl) (.inl ⟨by rfl, ?_⟩) hHeld ?_
            rotate_left
            · (intro w hSw; (try dsimp only at hSw); go_split_ands; go_simp; (try with_reducible rfl))
            try simp only [Act.put, List.setIfInBounds_toArray, List.set_cons_zero, List.set_cons_succ]
            refine wpK_take (i := 13) (v := ?_) rfl (by kernel_rfl) (by kernel_rfl) (by kernel_rfl) (by kernel_rfl) (.inl ⟨by rfl, ?_⟩) hHeld ?_
            rotate_left
            · (intro w hSw; (try dsimp only at hSw); go_split_ands; go_simp; (try with_reducible rfl))
            try simp only [Act.put, List.setIfInBounds_toArray, List.set_cons_zero, List.set_cons_succ]
            refine wpK_take (i := 14) (v := ?_) rfl (by kernel_rfl) (by kernel_rfl) (by kernel_rfl) (by kernel_rfl) (.inl ⟨by rfl, ?_⟩) hHeld ?_
            rotate_left
            · (intro w hSw; (try dsimp only at hSw); go_split_ands; go_simp; (try with_reducible rfl))
            try simp only [Act.put, List.setIfInBounds_toArray, List.set_cons_zero, List.set_cons_succ]
            refine wpK_take (i := 15) (v := ?_) rfl (by kernel_rfl) (by kernel_rfl) (by kernel_rfl) (by kernel_rfl) (.inl ⟨by rfl, ?_⟩) hHeld ?_
            rotate_left
            · (intro w hSw; (try dsimp only at hSw); go_split_ands; go_simp; (try with_reducible rfl))
            try simp only [Act.put, List.setIfInBounds_toArray, List.set_cons_zero, List.set_cons_succ]
            refine wpK_one (i := 16) (by kernel_rfl) rfl (fun K hK => ?_)
            go_simp
            (with_reducible refine (hc.use _ _ HYD.out).mono ?_)
            rintro e w7 ⟨r7, rfl, hB7, hr7⟩
            obtain ⟨ua, ub, uc, ud, rfl⟩ := hr7.form
            have hinv7 := HS.out.1.drew_.keep_ hB7
            obtain ⟨z1, za, zb, zc, zd, z2, z3, z4, z5, z6, z7, _⟩ := hinv7.at_ (q := j) (y := h) (insAt_at _ _ (by omega))
            have f0 := (hinv7.free j).1
            have f1 := (hinv7.free (j * 6)).2
            have f2 := (hinv7.free (j * 6 + 1)).2
            have f3 := (hinv7.free (j * 6 + 2)).2
            have f4 := (hinv7.free (j * 6 + 3)).2
            have f5 := (hinv7.free (j * 6 + 4)).2
            have f6 := (hinv7.free (j * 6 + 5)).2
            have HZ7 := Lib.hid (And.intro hinv7 hr7)
            clear hinv7 hr7
            refine hK.out _ _ ?_ (fun hHeld => ?_)
            · exact ⟨cell_below hB7 hHeld.1, cell_below hB7 hHeld.2.1, cell_below hB7 hHeld.2.2.1, cell_below hB7 hHeld.2.2.2.1, cell_below hB7 hHeld.2.2.2.2.1, cell_below hB7 hHeld.2.2.2.2.2.1, cell_below hB7 hHeld.2.2.2.2.2.2.1, cell_below hB7 hHeld.2.2.2.2.2.2.2.1, cell_below hB7 hHeld.2.2.2.2.2.2.2.2.1, cell_below hB7 hHeld.2.2.2.2.2.2.2.2.2.1, cell_below hB7 hHeld.2.2.2.2.2.2.2.2.2.2⟩
            clear hK K
            try simp only [Act.put, List.setIfInBounds_toArray, List.set_cons_zero, List.set_cons_succ]
            refine wpK_one (i := 17) (by kernel_rfl) rfl (fun K hK => ?_)
            go_simp
            refine hK.out _ _ ?_ (fun hHeld => ?_)
            · exact hHeld
            clear hK K
            try simp only [Act.put, List.setIfInBounds_toArray, List.set_cons_zero, List.set_cons_succ]
            refine wpK_one (i := 18) (by kernel_rfl) rfl (fun K hK => ?_)
            go_simp
            refine hK.out _ _ ?_ (fun hHeld => ?_)
            · exact ⟨cell_far hHeld.1 (fun e => n1 e.symm), cell_far hHeld.2.1 (fun e => n1 e.symm), cell_far hHeld.2.2.1 (fun e => n3 e.symm), cell_far hHeld.2.2.2.1 (fun e => n3 e.symm), cell_far hHeld.2.2.2.2.1 (fun e => n4 e.symm), cell_far hHeld.2.2.2.2.2.1 (fun e => n5 e.symm), cell_far hHeld.2.2.2.2.2.2.1 (fun e => n5 e.symm), cell_far hHeld.2.2.2.2.2.2.2.1 (fun e => n5 e.symm), cell_far hHeld.2.2.2.2.2.2.2.2.1 (fun e => n5 e.symm), cell_far hHeld.2.2.2.2.2.2.2.2.2.1 (fun e => n5 e.symm), cell_far hHeld.2.2.2.2.2.2.2.2.2.2 (fun e => n5 e.symm)⟩
            clear hK K
            try simp only [Act.put, List.setIfInBounds_toArray, List.set_cons_zero, List.set_cons_succ]
            refine wpK_last (i := 19) (by kernel_rfl) (by kernel_rfl) rfl (fun K hK => ?_)
            go_simp
            refine hK.out _ _ ?_
            clear hK K
            try simp only [Act.put, List.setIfInBounds_toArray, List.set_cons_zero, List.set_cons_succ]
            refine wpK_last (i := 20) (by kernel_rfl) (by kernel_rfl) rfl (fun K hK => ?_)
            go_simp
            refine hK.out _ _ ?_
            clear hK K
            try simp only [Act.put, List.setIfInBounds_toArray, List.set_cons_zero, List.set_cons_succ]
            refine wpK_done (by kernel_rfl) ?_ _
            obtain ⟨hinv7, hr7⟩ := HZ7.out
            obtain ⟨hinv, bM, bM1, hgt, hstop⟩ := HS.out
            have hglt : gA < wr.heap.size ∧ gB < wr.heap.size := by
              obtain ⟨_, _, hKo, hLo, _⟩ := hinv
              exact ⟨(hKo.lt gA rfl).2, (hLo.lt gB rfl).2⟩
            have hwd : wr.drew.heap.size = wr.heap.size := rfl
            have hyv' : IsV w7 (fun b => Btw (M + 3) w7.heap.size b ∧ gA ≠ b ∧ gB ≠ b) (cleanV y) (.agg #[.int .i64 (cleanV y).kind, .int .i64 (cleanV y).n, .float .f64 (cleanV y).f, .string (cleanV y).s, .slice ua (cleanV y).keys.length ub, .slice uc (cleanV y).l.length ud]) :=
              IsV.keep (S := Btw wr.drew.heap.size w7.heap.size) (fun _ _ => rfl) (fun b hb => by
                have h1 := hb.1
                have h2 := hb.2
                exact ⟨⟨by omega, h2⟩, by omega, by omega⟩) _ hr7
            obtain ⟨h1, h2⟩ := skinv_set hinv7 j key hyv' hgA hgB hAB
            have e1 : (insAt P j h).set j (key, cleanV y) = sortS ((kvE x).take (k + 1)) := by
              rw [insAt_put P _ h (by omega), HN.out.1, insS_eq (by omega) hgt hstop]
            rw [e1] at h1
            unfold stKV at h1 h2
            obtain ⟨w8, hw8⟩ : ∃ w8, w8 = (((((((w7.setCell ⟨gA, j, none⟩ (.string key)).setCell ⟨gB, j * 6, none⟩ (.int .i64 (cleanV y).kind)).setCell ⟨gB, j * 6 + 1, none⟩ (.int .i64 (cleanV y).n)).setCell ⟨gB, j * 6 + 2, none⟩ (.float .f64 (cleanV y).f)).setCell ⟨gB, j * 6 + 3, none⟩ (.string (cleanV y).s)).setCell ⟨gB, j * 6 + 4, none⟩ (.slice ua (cleanV y).keys.length ub)).setCell ⟨gB, j * 6 + 5, none⟩ (.slice uc (cleanV y).l.length ud)) := ⟨_, rfl⟩
            have h3 : SkInv M w w8 (sortS ((kvE x).take (k + 1))) (some ⟨gA, 0, none⟩) C2 (some ⟨gB, 0, none⟩) D2 := by rw [hw8]; exact h1
            have h4 := (h2 M (by omega) (by omega)).trans (blk_below (w := wr.drew) bM hB7)
            have h5 := (h2 (M + 1) (by omega) (by omega)).trans (blk_below (w := wr.drew) bM1 hB7)
            rw [← hw8] at h4 h5 ⊢
            have HF := Lib.hid (And.intro h3 (And.intro h4 h5))
            clear h1 h2 h3 h4 h5 e1 hinv7 hr7 hinv bM bM1 hgt hstop HZ7 HS hyv' hw8 hB7 hHeld
            clear z1 z2 z3 z4 z5 z6 z7 f0 f1 f2 f3 f4 f5 f6 o2 o3 k2 k3 kk q0 q1 q2 q3 q4 q5 HYD hc
            go_wp2_with fail
            refine ⟨⟨k + 1, some ⟨gA, 0, none⟩, C2, some ⟨gB, 0, none⟩, D2, hlt, by push_cast; rfl, HF.out.1, HF.out.2.1, HF.out.2.2⟩, by simp only [intOf]; omega⟩
    · have hkl : k = x.l.length := by omega
      subst hkl
      obtain ⟨zs, b2, hownK, hownL, hall, hB, hsz⟩ := hinv
      rw [List.take_of_length_le (by omega)] at b2 hownK hownL hall
      have hkz' : ∀ p ∈ sortS (kvE x), p.1.size ≤ maxLen := fun p hp => hkz p.1 (kvE_key x ((sortS_mem _ _).1 hp))
      have hLn : (sortS (kvE x)).length ≤ x.l.length := by rw [sortS_length]; omega
      obtain ⟨L, hL⟩ : ∃ L, L = sortS (kvE x) := ⟨_, rfl⟩
      rw [← hL] at b2 hownK hownL hall hkz' hLn
      have hse : sortE x = ⟨1, ByteArray.empty, L.map (·.1), L.map (·.2), gNull, 0⟩ := by rw [hL]; rfl
      obtain ⟨n, hn⟩ : ∃ n, n = L.length := ⟨_, rfl⟩
      rw [← hn] at b2 hownK hownL hall hLn
      have HI := Lib.hid (And.intro hownK (And.intro hownL (And.intro hall (And.intro hB (And.intro hres (And.intro hse (And.intro hkz' hn)))))))
      have b1 := hres
      have p0 : wr.cell? ⟨M + 1 + 1, 0, none⟩ = some (.int .i64 1) := blk_c b2 0 rfl
      have p1 : wr.cell? ⟨M + 1 + 1, 1, none⟩ = some (.string ⟨#[]⟩) := blk_c b2 1 rfl
      have p2 : wr.cell? ⟨M + 1 + 1, 2, none⟩ = some (.slice A n C) := blk_c b2 2 rfl
      have p3 : wr.cell? ⟨M + 1 + 1, 3, none⟩ = some (.slice B n D) := blk_c b2 3 rfl
      have p4 : wr.cell? ⟨M + 1 + 1, 4, none⟩ = some (.int .i64 0) := blk_c b2 4 rfl
      have p5 : wr.cell? ⟨M + 1 + 1, 5, none⟩ = some (.int .i64 0) := blk_c b2 5 rfl
      have p6 : wr.cell? ⟨M + 1 + 1, 6, none⟩ = some (.float .f64 0) := blk_c b2 6 rfl
      have p7 : wr.cell? ⟨M + 1 + 1, 7, none⟩ = some (.string ⟨#[]⟩) := blk_c b2 7 rfl
      have p8 : wr.cell? ⟨M + 1 + 1, 8, none⟩ = some (.slice none 0 0) := blk_c b2 8 rfl
      have p9 : wr.cell? ⟨M + 1 + 1, 9, none⟩ = some (.slice none 0 0) := blk_c b2 9 rfl
      have p10 : wr.cell? ⟨M + 1 + 1, 10, none⟩ = some (.int .i64 0) := blk_c b2 10 rfl
      have q0 : wr.cell? ⟨M + 1, 0, none⟩ = some (.int .i64 0) := blk_c b1 0 rfl
      have q1 : wr.cell? ⟨M + 1, 1, none⟩ = some (.string ⟨#[]⟩) := blk_c b1 1 rfl
      have q2 : wr.cell? ⟨M + 1, 2, none⟩ = some (.slice none 0 0) := blk_c b1 2 rfl
      have q3 : wr.cell? ⟨M + 1, 3, none⟩ = some (.slice none 0 0) := blk_c b1 3 rfl
      have q4 : wr.cell? ⟨M + 1, 4, none⟩ = some (.int .i64 0) := blk_c b1 4 rfl
      have q5 : wr.cell? ⟨M + 1, 5, none⟩ = some (.int .i64 0) := blk_c b1 5 rfl
      have q6 : wr.cell? ⟨M + 1, 6, none⟩ = some (.float .f64 0) := blk_c b1 6 rfl
      have q7 : wr.cell? ⟨M + 1, 7, none⟩ = some (.string ⟨#[]⟩) := blk_c b1 7 rfl
      have q8 : wr.cell? ⟨M + 1, 8, none⟩ = some (.slice none 0 0) := blk_c b1 8 rfl
      have q9 : wr.cell? ⟨M + 1, 9, none⟩ = some (.slice none 0 0) := blk_c b1 9 rfl
      have q10 : wr.cell? ⟨M + 1, 10, none⟩ = some (.int .i64 0) := blk_c b1 10 rfl
      have f0 := blk_frozen b1 0
      have f1 := blk_frozen b1 1
      have f2 := blk_frozen b1 2
      have f3 := blk_frozen b1 3
      have f4 := blk_frozen b1 4
      have f5 := blk_frozen b1 5
      have f6 := blk_frozen b1 6
      have f7 := blk_frozen b1 7
      have f8 := blk_frozen b1 8
      have f9 := blk_frozen b1 9
      have f10 := blk_frozen b1 10
      clear hownK hownL hall hB b1 hres hL hn hse hkz' hbox b2
      go_wp2_with fail
      obtain ⟨hownK, hownL, hall, hB, b1, hse, hkz', hn⟩ := HI.out
      rw [HM.out]
      have hKlt : ∀ b, (Value.slice A n C).ownBlock = some b → M + 3 ≤ b ∧ b < wr.heap.size := fun b e => hownK.lt b e
      have hLlt : ∀ b, (Value.slice B n D).ownBlock = some b → M + 3 ≤ b ∧ b < wr.heap.size := fun b e => hownL.lt b e
      have hks' := IsStrs.of_own (S := Btw (M + 3) wr.heap.size) (ks := L.map (·.1)) (base := M + 3) (v := .slice A n C) (by rw [hn] at hownK ⊢; simpa [List.map_map, Function.comp_def] using hownK) (fun b hb => hKlt b hb) (by rw [List.length_map]; omega) (fun s hs => by
        obtain ⟨p, hp, rfl⟩ := List.mem_map.1 hs
        exact hkz' p hp)
      have hrows := rows_of_own (S := Btw (M + 3) wr.heap.size) (l := L.map fun p => p.2) (v := .slice B n D) (base := M + 3) (by rw [List.length_map, ← hn]; exact hownL) (fun b hb => hLlt b hb) (hall.keep (fun _ _ => rfl) (fun b hb => hb.1))
      have HE : IsE (st11 wr (M + 1) (.int .i64 1) (.string ⟨#[]⟩) (.slice A n C) (.slice B n D) (.int .i64 0) (.int .i64 0) (.float .f64 0) (.string ⟨#[]⟩) (.slice none 0 0) (.slice none 0 0) (.int .i64 0)) (Btw M wr.heap.size) (sortE x) (.agg #[.int .i64 1, .string ⟨#[]⟩, .slice A n C, .slice B n D, .int .i64 0, .int .i64 0, .float .f64 0, .string ⟨#[]⟩, .slice none 0 0, .slice none 0 0, .int .i64 0]) := by
        rw [hse]
        have hkp : ∀ b, Btw (M + 3) wr.heap.size b → (st11 wr (M + 1) (.int .i64 1) (.string ⟨#[]⟩) (.slice A n C) (.slice B n D) (.int .i64 0) (.int .i64 0) (.float .f64 0) (.string ⟨#[]⟩) (.slice none 0 0) (.slice none 0 0) (.int .i64 0)).heap[b]? = wr.heap[b]? := fun b hb => st11_eq (by have := hb.1; omega)
        have hS : ∀ b, Btw (M + 3) wr.heap.size b → Btw M wr.heap.size b := Btw.mono (by omega) (Nat.le_refl _)
        refine isE_mk (by decide) (by decide) (by decide) (hks'.keep hkp hS) (by rw [List.length_map]; omega) ?_ isV_nil
        obtain ⟨A', C', e', hC, hx⟩ := hrows
        refine ⟨A', C', e', hC, ?_⟩
        rcases hx with hx | ⟨b, o, hb, ha, hx⟩
        · exact .inl hx
        · exact .inr ⟨b, o, hS b hb, ha, IsVs.keep hkp hS _ b o hb hx⟩
      have hblk := st11_blk (c0 := .int .i64 1) (c1 := .string ⟨#[]⟩) (c2 := .slice A n C) (c3 := .slice B n D) (c4 := .int .i64 0) (c5 := .int .i64 0) (c6 := .float .f64 0) (c7 := .string ⟨#[]⟩) (c8 := .slice none 0 0) (c9 := .slice none 0 0) (c10 := .int .i64 0) b1
      have hsz : (st11 wr (M + 1) (.int .i64 1) (.string ⟨#[]⟩) (.slice A n C) (.slice B n D) (.int .i64 0) (.int .i64 0) (.float .f64 0) (.string ⟨#[]⟩) (.slice none 0 0) (.slice none 0 0) (.int .i64 0)).heap.size = wr.heap.size := st11_size
      have hfin : IsE (st11 wr (M + 1) (.int .i64 1) (.string ⟨#[]⟩) (.slice A n C) (.slice B n D) (.int .i64 0) (.int .i64 0) (.float .f64 0) (.string ⟨#[]⟩) (.slice none 0 0) (.slice none 0 0) (.int .i64 0)) (Btw M (st11 wr (M + 1) (.int .i64 1) (.string ⟨#[]⟩) (.slice A n C) (.slice B n D) (.int .i64 0) (.int .i64 0) (.float .f64 0) (.string ⟨#[]⟩) (.slice none 0 0) (.slice none 0 0) (.int .i64 0)).heap.size) (sortE x) (.agg #[.int .i64 1, .string ⟨#[]⟩, .slice A n C, .slice B n D, .int .i64 0, .int .i64 0, .float .f64 0, .string ⟨#[]⟩, .slice none 0 0, .slice none 0 0, .int .i64 0]) := by
        rw [hsz]
        exact HE
      have hBf : Below M w (st11 wr (M + 1) (.int .i64 1) (.string ⟨#[]⟩) (.slice A n C) (.slice B n D) (.int .i64 0) (.int .i64 0) (.float .f64 0) (.string ⟨#[]⟩) (.slice none 0 0) (.slice none 0 0) (.int .i64 0)) := st11_below hB (by omega)
      refine bodyPost_ret (v := .agg #[.int .i64 1, .string ⟨#[]⟩, .slice A n C, .slice B n D, .int .i64 0, .int .i64 0, .float .f64 0, .string ⟨#[]⟩, .slice none 0 0, .slice none 0 0, .int .i64 0]) ?_ rfl ?_
      · have e0 := blk_c hblk 0 (u := .int .i64 1) rfl
        have e1 := blk_c hblk 1 (u := .string ⟨#[]⟩) rfl
        have e2 := blk_c hblk 2 (u := .slice A n C) rfl
        have e3 := blk_c hblk 3 (u := .slice B n D) rfl
        have e4 := blk_c hblk 4 (u := .int .i64 0) rfl
        have e5 := blk_c hblk 5 (u := .int .i64 0) rfl
        have e6 := blk_c hblk 6 (u := .float .f64 0) rfl
        have e7 := blk_c hblk 7 (u := .string ⟨#[]⟩) rfl
        have e8 := blk_c hblk 8 (u := .slice none 0 0) rfl
        have e9 := blk_c hblk 9 (u := .slice none 0 0) rfl
        have e10 := blk_c hblk 10 (u := .int .i64 0) rfl
        unfold st11 at e0 e1 e2 e3 e4 e5 e6 e7 e8 e9 e10
        simp [results, Try.results24, go_sem, e0, e1, e2, e3, e4, e5, e6, e7, e8, e9, e10]
      · unfold st11 at hfin hBf
        exact ⟨_, rfl, hBf, hfin⟩
end Go.Proofs.Ytlghpcokbppkfaa
