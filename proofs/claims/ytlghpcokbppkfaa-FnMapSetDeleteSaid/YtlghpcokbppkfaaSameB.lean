/- spec.identical, where the heads are alike. -/
import Derived.Test.YtlghpcokbppkfaaSame
import Derived.Test.YtlghpcokbppkfaaParts
namespace Go.Proofs.Ytlghpcokbppkfaa
open Go.RowKit
set_option linter.unusedSimpArgs false

theorem sameG_false {x y : GV} (h : x ≠ y) : sameG x y = false := by unfold sameG; simp [h]
set_option maxHeartbeats 1000000 in
set_option maxRecDepth 100000 in
theorem same_body (x y : GV) (ih : ∀ z ∈ x.l, SameC z) (w : World) (v v' : Value) (hv : IsV w (Btw 0 w.heap.size) x v) (hv' : IsV w (Btw 0 w.heap.size) y v') (h1 : x.kind = y.kind) (h2 : x.n = y.n) (h3 : x.s = y.s) (h4 : x.f = y.f) (h5 : x.keys.length = y.keys.length) (h6 : x.l.length = y.l.length) :
    Calls Try.prog 69 #[v, v'] w fun e w' => e = .returned (.bool (sameG x y)) ∧ Below w.heap.size w w' := by
  obtain ⟨a0, c0, a1, c1, rfl⟩ := hv.form
  obtain ⟨b0, d0, b1, d1, rfl⟩ := hv'.form
  have HV := Lib.hid hv
  have HV' := Lib.hid hv'
  have HH := Lib.hid (And.intro h1 (And.intro h2 (And.intro h3 (And.intro h4 (And.intro h5 h6)))))
  have hfb := run_float64bits
  have e1 : (x.kind != y.kind) = false := by simp [h1]
  have e2 : (x.n != y.n) = false := by simp [h2]
  have e3 : (x.s.toList == y.s.toList) = true := by simp [h3]
  have e4 : ((x.f : Int) != (y.f : Int)) = false := by simp [h4]
  have e5 : ((x.keys.length : Int) != (y.keys.length : Int)) = false := by simp [h5]
  have e6 : ((x.l.length : Int) != (y.l.length : Int)) = false := by simp [h6]
  clear hv hv' h1 h2 h3 h4 h5 h6
  go_enter Try.func69, Try.ntmps69
  go_wp2_with fail
  go_quiet (fail)
  go_wp2_with fail
  have hB0 : Below w.heap.size w (((w.alloc (.cells #[.int .i64 x.kind, .int .i64 x.n, .float .f64 x.f, .string x.s, .slice a0 x.keys.length c0, .slice a1 x.l.length c1] 26)).alloc (.cells #[.int .i64 y.kind, .int .i64 y.n, .float .f64 y.f, .string y.s, .slice b0 y.keys.length d0, .slice b1 y.l.length d1] 26)).drewN nq) := (((Below.refl _ _).alloc (Nat.le_refl _) (.cells #[.int .i64 x.kind, .int .i64 x.n, .float .f64 x.f, .string x.s, .slice a0 x.keys.length c0, .slice a1 x.l.length c1] 26)).alloc (by simp) (.cells #[.int .i64 y.kind, .int .i64 y.n, .float .f64 y.f, .string y.s, .slice b0 y.keys.length d0, .slice b1 y.l.length d1] 26)).trans ⟨rfl, rfl, rfl, Nat.le_refl _, fun _ _ => rfl⟩
  have bx : (((w.alloc (.cells #[.int .i64 x.kind, .int .i64 x.n, .float .f64 x.f, .string x.s, .slice a0 x.keys.length c0, .slice a1 x.l.length c1] 26)).alloc (.cells #[.int .i64 y.kind, .int .i64 y.n, .float .f64 y.f, .string y.s, .slice b0 y.keys.length d0, .slice b1 y.l.length d1] 26)).drewN nq).heap[w.heap.size]? = some (.cells #[.int .i64 x.kind, .int .i64 x.n, .float .f64 x.f, .string x.s, .slice a0 x.keys.length c0, .slice a1 x.l.length c1] 26) := blk_alloc (new_block rfl) (.cells #[.int .i64 y.kind, .int .i64 y.n, .float .f64 y.f, .string y.s, .slice b0 y.keys.length d0, .slice b1 y.l.length d1] 26)
  have by_ : (((w.alloc (.cells #[.int .i64 x.kind, .int .i64 x.n, .float .f64 x.f, .string x.s, .slice a0 x.keys.length c0, .slice a1 x.l.length c1] 26)).alloc (.cells #[.int .i64 y.kind, .int .i64 y.n, .float .f64 y.f, .string y.s, .slice b0 y.keys.length d0, .slice b1 y.l.length d1] 26)).drewN nq).heap[w.heap.size + 1]? = some (.cells #[.int .i64 y.kind, .int .i64 y.n, .float .f64 y.f, .string y.s, .slice b0 y.keys.length d0, .slice b1 y.l.length d1] 26) := new_block (by simp)
  clear e1 e2 e3 e4 e5 e6 hfb
  generalize ((w.alloc (.cells #[.int .i64 x.kind, .int .i64 x.n, .float .f64 x.f, .string x.s, .slice a0 x.keys.length c0, .slice a1 x.l.length c1] 26)).alloc (.cells #[.int .i64 y.kind, .int .i64 y.n, .float .f64 y.f, .string y.s, .slice b0 y.keys.length d0, .slice b1 y.l.length d1] 26)).drewN nq = w0 at *
  go_loopw [54] (fun i wr => ∃ k : Nat, k ≤ x.keys.length ∧ i = .int .i64 (k : Nat) ∧ Below w0.heap.size w0 wr ∧ ∀ j, j < k → x.keys[j]? = y.keys[j]?) (fun i _ => x.keys.length - (intOf i).toNat)
  case atStart => exact ⟨0, Nat.zero_le _, rfl, Below.refl _ _, fun j hj => absurd hj (Nat.not_lt_zero _)⟩
  case round =>
    obtain ⟨k, hk, rfl, hBr, hsame⟩ := hrel
    by_cases hlt : k < x.keys.length
    · obtain ⟨kx, hkx⟩ : ∃ kx, x.keys[k]? = some kx := ⟨x.keys[k], by simp [hlt]⟩
      have hlen := HH.out.2.2.2.2.1
      obtain ⟨ky, hky⟩ : ∃ ky, y.keys[k]? = some ky := ⟨y.keys[k]'(by omega), by simp⟩
      have hBw : Below w.heap.size w wr := hB0.trans (hBr.mono hB0.size)
      obtain ⟨p, o, hp, rfl, hcx⟩ := strs_at HV.out.strs hkx
      obtain ⟨p', o', hp', rfl, hcy⟩ := strs_at HV'.out.strs hky
      have qx : wr.cell? ⟨p, o + k, none⟩ = some (.string kx) := (hBw.cell (by exact hp.2)).trans hcx
      have qy : wr.cell? ⟨p', o' + k, none⟩ = some (.string ky) := (hBw.cell (by exact hp'.2)).trans hcy
      have x4 : wr.cell? ⟨w.heap.size, 4, none⟩ = some (.slice (some ⟨p, o, none⟩) x.keys.length c0) := blk_c (blk_below bx hBr) 4 rfl
      have y4 : wr.cell? ⟨w.heap.size + 1, 4, none⟩ = some (.slice (some ⟨p', o', none⟩) y.keys.length d0) := blk_c (blk_below by_ hBr) 4 rfl
      have j0 : (0 : Int) ≤ (k : Int) := by omega
      have j1 : (k : Int) < (x.keys.length : Int) := by omega
      have j2 : (k : Int) < (y.keys.length : Int) := by omega
      have HK := Lib.hid (And.intro hkx hky)
      have HS := Lib.hid hsame
      clear hkx hky hcx hcy hsame hlen bx by_
      by_cases hkk : kx = ky
      · have e7 : (kx.toList == ky.toList) = true := by simp [hkk]
        have HKK := Lib.hid hkk
        clear hkk
        go_wp2_with fail
        go_quiet (fail)
        go_wp2_with fail
        have hb16 : x.keys.length * 16 ≤ 140737488351232 := by obtain ⟨_, _, _, _, h, _⟩ := HV.out.strs; exact h
        have hwk : wrap64 ((k : Int) + 1) = ((k + 1 : Nat) : Int) := by unfold wrap64; omega
        rw [hwk]
        refine ⟨⟨k + 1, hlt, rfl, hBr.trans ⟨rfl, rfl, rfl, Nat.le_refl _, fun _ _ => rfl⟩, fun j hj => ?_⟩, by simp only [intOf]; omega⟩
        rcases Nat.lt_or_ge j k with h | h
        · exact HS.out j h
        · have : j = k := by omega
          rw [this, HK.out.1, HK.out.2, HKK.out]
      · have e7 : (kx.toList == ky.toList) = false := by rw [beq_list]; simpa using hkk
        have HKK := Lib.hid hkk
        clear hkk
        go_wp2_with fail
        go_quiet (fail)
        go_wp2_with fail
        go_ret
        have hne : x ≠ y := fun e => by
          have h1 := HK.out.1
          rw [e] at h1
          exact HKK.out (Option.some.inj (h1.symm.trans HK.out.2))
        rw [sameG_false hne]
        refine ⟨rfl, hBw.trans ⟨rfl, rfl, rfl, Nat.le_refl _, fun _ _ => rfl⟩⟩
    · have hkl : k = x.keys.length := by omega
      subst hkl
      rename World => w1
      have hkeys : x.keys = y.keys := List.ext_getElem? fun j => by
        rcases Nat.lt_or_ge j x.keys.length with h | h
        · exact hsame j h
        · rw [List.getElem?_eq_none h, List.getElem?_eq_none (by have := HH.out.2.2.2.2.1; omega)]
      have HKS := Lib.hid hkeys
      have hBw : Below w.heap.size w w1 := hB0.trans (hBr.mono hB0.size)
      have bx' := blk_below bx hBr
      have by' := blk_below by_ hBr
      have x5 : w1.cell? ⟨w.heap.size, 5, none⟩ = some (.slice a1 x.l.length c1) := blk_c bx' 5 rfl
      have y5 : w1.cell? ⟨w.heap.size + 1, 5, none⟩ = some (.slice b1 y.l.length d1) := blk_c by' 5 rfl
      clear hsame hkeys bx by_ hB0 hBr
      go_wp2_with fail
      go_loopw [72] (fun i wr => ∃ k : Nat, k ≤ x.l.length ∧ i = .int .i64 (k : Nat) ∧ Below w1.heap.size w1 wr ∧ ∀ j, j < k → x.l[j]? = y.l[j]?) (fun i _ => x.l.length - (intOf i).toNat)
      case atStart => exact ⟨0, Nat.zero_le _, rfl, Below.refl _ _, fun j hj => absurd hj (Nat.not_lt_zero _)⟩
      case round =>
        obtain ⟨k, hk, rfl, hBq, hsame⟩ := hrel
        by_cases hlt : k < x.l.length
        · obtain ⟨p, o, hp, rfl, hcx⟩ : ∃ b o, Btw 0 w.heap.size b ∧ a1 = some ⟨b, o, none⟩ ∧ IsVs w (Btw 0 w.heap.size) x.l b o := HV.out.vals.resolve_left (fun e => by rw [e] at hlt; simp at hlt)
          have hl6 := HH.out.2.2.2.2.2
          obtain ⟨p', o', hp', rfl, hcy⟩ : ∃ b o, Btw 0 w.heap.size b ∧ b1 = some ⟨b, o, none⟩ ∧ IsVs w (Btw 0 w.heap.size) y.l b o := HV'.out.vals.resolve_left (fun e => by have := congrArg List.length e; simp only [List.length_nil] at this; omega)
          obtain ⟨zx, hzx⟩ : ∃ z, x.l[k]? = some z := ⟨x.l[k], by simp [hlt]⟩
          obtain ⟨zy, hzy⟩ : ∃ z, y.l[k]? = some z := ⟨y.l[k]'(by omega), by simp⟩
          have hBz : Below w.heap.size w wr := hBw.trans (hBq.mono hBw.size)
          obtain ⟨e0, f0, e1, f1, s0, s1, s2, s3, s4, s5, hxv⟩ := (IsVs.keep (S' := Btw 0 wr.heap.size) (Btw.kept hBz) (Btw.mono (Nat.le_refl _) hBz.size) _ p o hp hcx).cells hzx
          obtain ⟨g0, h0, g1, h1, t0, t1, t2, t3, t4, t5, hyv⟩ := (IsVs.keep (S' := Btw 0 wr.heap.size) (Btw.kept hBz) (Btw.mono (Nat.le_refl _) hBz.size) _ p' o' hp' hcy).cells hzy
          have z5 : wr.cell? ⟨w.heap.size, 5, none⟩ = some (.slice (some ⟨p, o, none⟩) x.l.length c1) := cell_below hBq x5
          have z6 : wr.cell? ⟨w.heap.size + 1, 5, none⟩ = some (.slice (some ⟨p', o', none⟩) y.l.length d1) := cell_below hBq y5
          have hc := ih zx (List.mem_of_getElem? hzx)
          have HXV := Lib.hid hxv.drew_
          have HYV := Lib.hid hyv.drew_
          have HZ := Lib.hid (And.intro hzx hzy)
          have HS := Lib.hid hsame
          have j0 : (0 : Int) ≤ (k : Int) := by omega
          have j1 : (k : Int) < (x.l.length : Int) := by omega
          have j2 : (k : Int) < (y.l.length : Int) := by omega
          clear hzx hzy hsame hcx hcy hxv hyv hl6 bx' by' x5 y5
          go_wp2_with fail
          refine wp_region_K (fun w' => w'.cell? ⟨w.heap.size, 5, none⟩ = some (.slice (some ⟨p, o, none⟩) x.l.length c1) ∧ w'.cell? ⟨w.heap.size + 1, 5, none⟩ = some (.slice (some ⟨p', o', none⟩) y.l.length d1) ∧ w'.cell? ⟨p, o + k * 6, none⟩ = some (.int .i64 zx.kind) ∧ w'.cell? ⟨p, o + k * 6 + 1, none⟩ = some (.int .i64 zx.n) ∧ w'.cell? ⟨p, o + k * 6 + 2, none⟩ = some (.float .f64 zx.f) ∧ w'.cell? ⟨p, o + k * 6 + 3, none⟩ = some (.string zx.s) ∧ w'.cell? ⟨p, o + k * 6 + 4, none⟩ = some (.slice e0 zx.keys.length f0) ∧ w'.cell? ⟨p, o + k * 6 + 5, none⟩ = some (.slice e1 zx.l.length f1) ∧ w'.cell? ⟨p', o' + k * 6, none⟩ = some (.int .i64 zy.kind) ∧ w'.cell? ⟨p', o' + k * 6 + 1, none⟩ = some (.int .i64 zy.n) ∧ w'.cell? ⟨p', o' + k * 6 + 2, none⟩ = some (.float .f64 zy.f) ∧ w'.cell? ⟨p', o' + k * 6 + 3, none⟩ = some (.string zy.s) ∧ w'.cell? ⟨p', o' + k * 6 + 4, none⟩ = some (.slice g0 zy.keys.length h0) ∧ w'.cell? ⟨p', o' + k * 6 + 5, none⟩ = some (.slice g1 zy.l.length h1)) [0, 1, 2, 3, 4, 5, 6, 7, 8, 9, 11] (by kernel_rfl) ?_ (fun hHeld => ?_)
          · exact ⟨z5, z6, s0, s1, s2, s3, s4, s5, t0, t1, t2, t3, t4, t5⟩
          refine wpK_take (i := 0) (v := ?_) rfl (by kernel_rfl) (by kernel_rfl) (by kernel_rfl) (by kernel_rfl) (.inl ⟨by rfl, ?_⟩) hHeld ?_
          rotate_left
          · (intro w hSw; (try dsimp only at hSw); go_split_ands; go_simp; (try with_reducible rfl))
          try simp only [Act.put, List.setIfInBounds_toArray, List.set_cons_zero, List.set_cons_succ]
          refine wpK_take (i := 1) (v := ?_) rfl (by kernel_rfl) (by kernel_rfl) (by kernel_rfl) (by kernel_rfl) (.inl ⟨by rfl, ?_⟩) hHeld ?_
          rotate_left
          · (intro w hSw; (try dsimp only at hSw); go_split_ands; go_simp; (try with_reducible rfl))
          try simp only [Act.put, List.setIfInBounds_toArray, List.set_cons_zero, List.set_cons_succ]
          refine wpK_take (i := 2) (v := ?_) rfl (by kernel_rfl) (by kernel_rfl) (by kernel_rfl) (by kernel_rfl) (.inl ⟨by rfl, ?_⟩) hHeld ?_
          rotate_left
          · (intro w hSw; (try dsimp only at hSw); go_split_ands; go_simp; (try with_reducible rfl))
          try simp only [Act.put, List.setIfInBounds_toArray, List.set_cons_zero, List.set_cons_succ]
          refine wpK_take (i := 3) (v := ?_) rfl (by kernel_rfl) (by kernel_rfl) (by kernel_rfl) (by kernel_rfl) (.inl ⟨by rfl, ?_⟩) hHeld ?_
          rotate_left
          · (intro w hSw; (try dsimp only at hSw); go_split_ands; go_simp; (try with_reducible rfl))
          try simp only [Act.put, List.setIfInBounds_toArray, List.set_cons_zero, List.set_cons_succ]
          refine wpK_take (i := 4) (v := ?_) rfl (by kernel_rfl) (by kernel_rfl) (by kernel_rfl) (by kernel_rfl) (.inl ⟨by rfl, ?_⟩) hHeld ?_
          rotate_left
          · (intro w hSw; (try dsimp only at hSw); go_split_ands; go_simp; (try with_reducible rfl))
          try simp only [Act.put, List.setIfInBounds_toArray, List.set_cons_zero, List.set_cons_succ]
          refine wpK_take (i := 5) (v := ?_) rfl (by kernel_rfl) (by kernel_rfl) (by kernel_rfl) (by kernel_rfl) (.inl ⟨by rfl, ?_⟩) hHeld ?_
          rotate_left
          · (intro w hSw; (try dsimp only at hSw); go_split_ands; go_simp; (try with_reducible rfl))
          try simp only [Act.put, List.setIfInBounds_toArray, List.set_cons_zero, List.set_cons_succ]
          refine wpK_take (i := 6) (v := ?_) rfl (by kernel_rfl) (by kernel_rfl) (by kernel_rfl) (by kernel_rfl) (.inl ⟨by rfl, ?_⟩) hHeld ?_
          rotate_left
          · (intro w hSw; (try dsimp only at hSw); go_split_ands; go_simp; (try with_reducible rfl))
          try simp only [Act.put, List.setIfInBounds_toArray, List.set_cons_zero, List.set_cons_succ]
          refine wpK_take (i := 7) (v := ?_) rfl (by kernel_rfl) (by kernel_rfl) (by kernel_rfl) (by kernel_rfl) (.inl ⟨by rfl, ?_⟩) hHeld ?_
          rotate_left
          · (intro w hSw; (try dsimp only at hSw); go_split_ands; go_simp; (try with_reducible rfl))
          try simp only [Act.put, List.setIfInBounds_toArray, List.set_cons_zero, List.set_cons_succ]
          refine wpK_take (i := 8) (v := ?_) rfl (by kernel_rfl) (by kernel_rfl) (by kernel_rfl) (by kernel_rfl) (.inl ⟨by rfl, ?_⟩) hHeld ?_
          rotate_left
          · (intro w hSw; (try dsimp only at hSw); go_split_ands; go_simp; (try with_reducible rfl))
          try simp only [Act.put, List.setIfInBounds_toArray, List.set_cons_zero, List.set_cons_succ]
          refine wpK_take (i := 9) (v := ?_) rfl (by kernel_rfl) (by kernel_rfl) (by kernel_rfl) (by kernel_rfl) (.inl ⟨by rfl, ?_⟩) hHeld ?_
          rotate_left
          · (intro w hSw; (try dsimp only at hSw); go_split_ands; go_simp; (try with_reducible rfl))
          try simp only [Act.put, List.setIfInBounds_toArray, List.set_cons_zero, List.set_cons_succ]
          refine wpK_one (i := 10) (by kernel_rfl) rfl (fun K hK => ?_)
          go_simp
          (with_reducible refine (hc.use zy _ _ _ HXV.out HYV.out).mono ?_)
          rintro e w3 ⟨rfl, hB3⟩
          refine hK.out _ _ ?_ (fun hHeld => ?_)
          · exact ⟨cell_below hB3 hHeld.1, cell_below hB3 hHeld.2.1, cell_below hB3 hHeld.2.2.1, cell_below hB3 hHeld.2.2.2.1, cell_below hB3 hHeld.2.2.2.2.1, cell_below hB3 hHeld.2.2.2.2.2.1, cell_below hB3 hHeld.2.2.2.2.2.2.1, cell_below hB3 hHeld.2.2.2.2.2.2.2.1, cell_below hB3 hHeld.2.2.2.2.2.2.2.2.1, cell_below hB3 hHeld.2.2.2.2.2.2.2.2.2.1, cell_below hB3 hHeld.2.2.2.2.2.2.2.2.2.2.1, cell_below hB3 hHeld.2.2.2.2.2.2.2.2.2.2.2.1, cell_below hB3 hHeld.2.2.2.2.2.2.2.2.2.2.2.2.1, cell_below hB3 hHeld.2.2.2.2.2.2.2.2.2.2.2.2.2⟩
          clear hK K
          try simp only [Act.put, List.setIfInBounds_toArray, List.set_cons_zero, List.set_cons_succ]
          refine wpK_take (i := 11) (v := ?_) rfl (by kernel_rfl) (by kernel_rfl) (by kernel_rfl) (by kernel_rfl) (.inl ⟨by rfl, ?_⟩) hHeld ?_
          rotate_left
          · (intro w hSw; (try dsimp only at hSw); go_split_ands; go_simp; (try with_reducible rfl))
          try simp only [Act.put, List.setIfInBounds_toArray, List.set_cons_zero, List.set_cons_succ]
          refine wpK_done (by kernel_rfl) ?_ _
          have hB4 : Below w1.heap.size w1 w3 := hBq.drew.trans (hB3.mono (by show w1.heap.size ≤ wr.heap.size; exact hBq.size))
          cases hs : sameG zx zy with
          | false =>
            have hzz : zx ≠ zy := fun e => by rw [sameG_iff.2 e] at hs; cases hs
            have HZZ := Lib.hid hzz
            clear hzz hs
            go_wp2_with fail
            go_ret
            have hne : x ≠ y := fun e => by
              have h1 := HZ.out.1
              rw [e] at h1
              exact HZZ.out (Option.some.inj (h1.symm.trans HZ.out.2))
            rw [sameG_false hne]
            exact ⟨rfl, hBw.trans (hB4.mono hBw.size)⟩
          | true =>
            have HZZ := Lib.hid (sameG_iff.1 hs)
            clear hs
            go_wp2_with fail
            have hb88 : x.l.length * 88 ≤ 140737488351232 := HV.out.len
            have hwk : wrap64 ((k : Int) + 1) = ((k + 1 : Nat) : Int) := by unfold wrap64; omega
            rw [hwk]
            refine ⟨⟨k + 1, hlt, rfl, hB4, fun j hj => ?_⟩, by simp only [intOf]; omega⟩
            rcases Nat.lt_or_ge j k with h | h
            · exact HS.out j h
            · have : j = k := by omega
              rw [this, HZ.out.1, HZ.out.2, HZZ.out]
        · have hkl : k = x.l.length := by omega
          subst hkl
          have hll : x.l = y.l := List.ext_getElem? fun j => by
            rcases Nat.lt_or_ge j x.l.length with h | h
            · exact hsame j h
            · rw [List.getElem?_eq_none h, List.getElem?_eq_none (by have := HH.out.2.2.2.2.2; omega)]
          have hxy : x = y := by
            obtain ⟨q1, q2, q3, q4, _, _⟩ := HH.out
            have q5 := HKS.out
            obtain ⟨_, _, _, _, _, _⟩ := x
            obtain ⟨_, _, _, _, _, _⟩ := y
            simp only [GV.kind, GV.n, GV.s, GV.f, GV.keys, GV.l] at q1 q2 q3 q4 q5 hll
            rw [q1, q2, q3, q4, q5, hll]
          have HXY := Lib.hid hxy
          clear hxy hll hsame
          go_wp2_with fail
          go_ret
          rw [sameG_iff.2 HXY.out]
          exact ⟨rfl, hBw.trans (hBq.mono hBw.size)⟩

theorem same_all : ∀ x : GV, SameC x
  | .mk k n f s ks l => by
    have ih : ∀ z ∈ l, SameC z := fun z hz => same_all z
    intro y w v v' hv hv'
    by_cases h1 : (GV.mk k n f s ks l).kind = y.kind
    by_cases h2 : (GV.mk k n f s ks l).n = y.n
    by_cases h3 : (GV.mk k n f s ks l).s = y.s
    by_cases h4 : (GV.mk k n f s ks l).f = y.f
    by_cases h5 : (GV.mk k n f s ks l).keys.length = y.keys.length
    by_cases h6 : (GV.mk k n f s ks l).l.length = y.l.length
    · exact same_body (.mk k n f s ks l) y ih w v v' hv hv' h1 h2 h3 h4 h5 h6
    · rw [sameG_false (fun e => h6 (by rw [e]))]; exact same_l _ y w v v' hv hv' h1 h2 h3 h4 h5 h6
    · rw [sameG_false (fun e => h5 (by rw [e]))]; exact same_keys _ y w v v' hv hv' h1 h2 h3 h4 h5
    · rw [sameG_false (fun e => h4 (by rw [e]))]; exact same_f _ y w v v' hv hv' h1 h2 h3 h4
    · rw [sameG_false (fun e => h3 (by rw [e]))]; exact same_s _ y w v v' hv hv' h1 h2 h3
    · rw [sameG_false (fun e => h2 (by rw [e]))]; exact same_n _ y w v v' hv hv' h1 h2
    · rw [sameG_false (fun e => h1 (by rw [e]))]; exact same_kind _ y w v v' hv hv' h1
termination_by x => SizeOf.sizeOf x
decreasing_by
  have := List.sizeOf_lt_of_mem hz
  simp; omega
end Go.Proofs.Ytlghpcokbppkfaa
