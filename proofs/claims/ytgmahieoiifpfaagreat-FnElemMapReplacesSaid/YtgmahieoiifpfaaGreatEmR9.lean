/- Part 9 of what the proof rests on. -/
import Derived.Lib.Overlaps
import Derived.Lib.AppendZerosOnto
import Derived.Shelf.Spec.SlicesInsert
import Derived.Test.YtgmahieoiifpfaaGreatEmR4
import Derived.Test.YtgmahieoiifpfaaGreatEmR5
import Derived.Test.YtgmahieoiifpfaaGreatEmR6
import Derived.Test.YtgmahieoiifpfaaGreatEmR7
import Derived.Test.YtgmahieoiifpfaaGreatEmR8
section
namespace Go.Proofs.YtgmahieoiifpfaaGreat
open Go.RowKit
set_option linter.unusedSimpArgs false
theorem sameG_false {x y : GV} (h : x ≠ y) : sameG x y = false := by unfold sameG; simp [h]
set_option maxHeartbeats 1000000 in
set_option maxRecDepth 100000 in
theorem same_body (x y : GV) (ih : ∀ z ∈ x.l, SameC z) (w : World) (v v' : Value) (hv : IsV w (Btw 0 w.heap.size) x v) (hv' : IsV w (Btw 0 w.heap.size) y v') (h1 : x.kind = y.kind) (h2 : x.n = y.n) (h3 : x.s = y.s) (h4 : x.f = y.f) (h5 : x.keys.length = y.keys.length) (h6 : x.l.length = y.l.length) :
    Calls Tryz.prog 71 #[v, v'] w fun e w' => e = .returned (.bool (sameG x y)) ∧ Below w.heap.size w w' := by
  obtain ⟨a0, c0, a1, c1, rfl⟩ := hv.form
  obtain ⟨b0, d0, b1, d1, rfl⟩ := hv'.form
  have HV := Lib.hid hv
  have HV' := Lib.hid hv'
  have HH := Lib.hid (And.intro h1 (And.intro h2 (And.intro h3 (And.intro h4 (And.intro h5 h6)))))
  have hfb := run_float64bits
  have e1 : (x.kind != y.kind) = false := by simp [h1]
  have e2 : (x.n != y.n) = false := by simp [h2]
  have e3 : (x.s.toList == y.s.toList) = true := by simp [h3]
  have e4 : ((x.f : Int) != (y.f : Int)) = false := by simp [h4]
  have e5 : ((x.keys.length : Int) != (y.keys.length : Int)) = false := by simp [h5]
  have e6 : ((x.l.length : Int) != (y.l.length : Int)) = false := by simp [h6]
  clear hv hv' h1 h2 h3 h4 h5 h6
  go_enter Tryz.func71, Tryz.ntmps71
  go_wp2_with fail
  go_quiet (fail)
  go_wp2_with fail
  have hB0 : Below w.heap.size w (((w.alloc (.cells #[.int .i64 x.kind, .int .i64 x.n, .float .f64 x.f, .string x.s, .slice a0 x.keys.length c0, .slice a1 x.l.length c1] 27)).alloc (.cells #[.int .i64 y.kind, .int .i64 y.n, .float .f64 y.f, .string y.s, .slice b0 y.keys.length d0, .slice b1 y.l.length d1] 27)).drewN nq) := (((Below.refl _ _).alloc (Nat.le_refl _) (.cells #[.int .i64 x.kind, .int .i64 x.n, .float .f64 x.f, .string x.s, .slice a0 x.keys.length c0, .slice a1 x.l.length c1] 27)).alloc (by simp) (.cells #[.int .i64 y.kind, .int .i64 y.n, .float .f64 y.f, .string y.s, .slice b0 y.keys.length d0, .slice b1 y.l.length d1] 27)).trans ⟨rfl, rfl, rfl, Nat.le_refl _, fun _ _ => rfl⟩
  have bx : (((w.alloc (.cells #[.int .i64 x.kind, .int .i64 x.n, .float .f64 x.f, .string x.s, .slice a0 x.keys.length c0, .slice a1 x.l.length c1] 27)).alloc (.cells #[.int .i64 y.kind, .int .i64 y.n, .float .f64 y.f, .string y.s, .slice b0 y.keys.length d0, .slice b1 y.l.length d1] 27)).drewN nq).heap[w.heap.size]? = some (.cells #[.int .i64 x.kind, .int .i64 x.n, .float .f64 x.f, .string x.s, .slice a0 x.keys.length c0, .slice a1 x.l.length c1] 27) := blk_alloc (new_block rfl) (.cells #[.int .i64 y.kind, .int .i64 y.n, .float .f64 y.f, .string y.s, .slice b0 y.keys.length d0, .slice b1 y.l.length d1] 27)
  have by_ : (((w.alloc (.cells #[.int .i64 x.kind, .int .i64 x.n, .float .f64 x.f, .string x.s, .slice a0 x.keys.length c0, .slice a1 x.l.length c1] 27)).alloc (.cells #[.int .i64 y.kind, .int .i64 y.n, .float .f64 y.f, .string y.s, .slice b0 y.keys.length d0, .slice b1 y.l.length d1] 27)).drewN nq).heap[w.heap.size + 1]? = some (.cells #[.int .i64 y.kind, .int .i64 y.n, .float .f64 y.f, .string y.s, .slice b0 y.keys.length d0, .slice b1 y.l.length d1] 27) := new_block (by simp)
  clear e1 e2 e3 e4 e5 e6 hfb
  generalize ((w.alloc (.cells #[.int .i64 x.kind, .int .i64 x.n, .float .f64 x.f, .string x.s, .slice a0 x.keys.length c0, .slice a1 x.l.length c1] 27)).alloc (.cells #[.int .i64 y.kind, .int .i64 y.n, .float .f64 y.f, .string y.s, .slice b0 y.keys.length d0, .slice b1 y.l.length d1] 27)).drewN nq = w0 at *
  go_loopw [54] (fun i wr => ∃ k : Nat, k ≤ x.keys.length ∧ i = .int .i64 (k : Nat) ∧ Below w0.heap.size w0 wr ∧ ∀ j, j < k → x.keys[j]? = y.keys[j]?) (fun i _ => x.keys.length - (intOf i).toNat)
  case atStart => exact ⟨0, Nat.zero_le _, rfl, Below.refl _ _, fun j hj => absurd hj (Nat.not_lt_zero _)⟩
  case round =>
    obtain ⟨k, hk, rfl, hBr, hsame⟩ := hrel
    by_cases hlt : k < x.keys.length
    · obtain ⟨kx, hkx⟩ : ∃ kx, x.keys[k]? = some kx := ⟨x.keys[k], by simp [hlt]⟩
      have hlen := HH.out.2.2.2.2.1
      obtain ⟨ky, hky⟩ : ∃ ky, y.keys[k]? = some ky := ⟨y.keys[k]'(by omega), by simp⟩
      have hBw : Below w.heap.size w wr := hB0.trans (hBr.mono hB0.size)
      obtain ⟨p, o, hp, rfl, hcx⟩ := strs_at HV.out.strs hkx
      obtain ⟨p', o', hp', rfl, hcy⟩ := strs_at HV'.out.strs hky
      have qx : wr.cell? ⟨p, o + k, none⟩ = some (.string kx) := (hBw.cell (by exact hp.2)).trans hcx
      have qy : wr.cell? ⟨p', o' + k, none⟩ = some (.string ky) := (hBw.cell (by exact hp'.2)).trans hcy
      have x4 : wr.cell? ⟨w.heap.size, 4, none⟩ = some (.slice (some ⟨p, o, none⟩) x.keys.length c0) := blk_c (blk_below bx hBr) 4 rfl
      have y4 : wr.cell? ⟨w.heap.size + 1, 4, none⟩ = some (.slice (some ⟨p', o', none⟩) y.keys.length d0) := blk_c (blk_below by_ hBr) 4 rfl
      have j0 : (0 : Int) ≤ (k : Int) := by omega
      have j1 : (k : Int) < (x.keys.length : Int) := by omega
      have j2 : (k : Int) < (y.keys.length : Int) := by omega
      have HK := Lib.hid (And.intro hkx hky)
      have HS := Lib.hid hsame
      clear hkx hky hcx hcy hsame hlen bx by_
      by_cases hkk : kx = ky
      · have e7 : (kx.toList == ky.toList) = true := by simp [hkk]
        have HKK := Lib.hid hkk
        clear hkk
        go_wp2_with fail
        go_quiet (fail)
        go_wp2_with fail
        have hb16 : x.keys.length * 16 ≤ 140737488351232 := by obtain ⟨_, _, _, _, h, _⟩ := HV.out.strs; exact h
        have hwk : wrap64 ((k : Int) + 1) = ((k + 1 : Nat) : Int) := by unfold wrap64; omega
        rw [hwk]
        refine ⟨⟨k + 1, hlt, rfl, hBr.trans ⟨rfl, rfl, rfl, Nat.le_refl _, fun _ _ => rfl⟩, fun j hj => ?_⟩, by simp only [intOf]; omega⟩
        rcases Nat.lt_or_ge j k with h | h
        · exact HS.out j h
        · have : j = k := by omega
          rw [this, HK.out.1, HK.out.2, HKK.out]
      · have e7 : (kx.toList == ky.toList) = false := by rw [beq_list]; simpa using hkk
        have HKK := Lib.hid hkk
        clear hkk
        go_wp2_with fail
        go_quiet (fail)
        go_wp2_with fail
        go_ret
        have hne : x ≠ y := fun e => by
          have h1 := HK.out.1
          rw [e] at h1
          exact HKK.out (Option.some.inj (h1.symm.trans HK.out.2))
        rw [sameG_false hne]
        refine ⟨rfl, hBw.trans ⟨rfl, rfl, rfl, Nat.le_refl _, fun _ _ => rfl⟩⟩
    · have hkl : k = x.keys.length := by omega
      subst hkl
      rename World => w1
      have hkeys : x.keys = y.keys := List.ext_getElem? fun j => by
        rcases Nat.lt_or_ge j x.keys.length with h | h
        · exact hsame j h
        · rw [List.getElem?_eq_none h, List.getElem?_eq_none (by have := HH.out.2.2.2.2.1; omega)]
      have HKS := Lib.hid hkeys
      have hBw : Below w.heap.size w w1 := hB0.trans (hBr.mono hB0.size)
      have bx' := blk_below bx hBr
      have by' := blk_below by_ hBr
      have x5 : w1.cell? ⟨w.heap.size, 5, none⟩ = some (.slice a1 x.l.length c1) := blk_c bx' 5 rfl
      have y5 : w1.cell? ⟨w.heap.size + 1, 5, none⟩ = some (.slice b1 y.l.length d1) := blk_c by' 5 rfl
      clear hsame hkeys bx by_ hB0 hBr
      go_wp2_with fail
      go_loopw [72] (fun i wr => ∃ k : Nat, k ≤ x.l.length ∧ i = .int .i64 (k : Nat) ∧ Below w1.heap.size w1 wr ∧ ∀ j, j < k → x.l[j]? = y.l[j]?) (fun i _ => x.l.length - (intOf i).toNat)
      case atStart => exact ⟨0, Nat.zero_le _, rfl, Below.refl _ _, fun j hj => absurd hj (Nat.not_lt_zero _)⟩
      case round =>
        obtain ⟨k, hk, rfl, hBq, hsame⟩ := hrel
        by_cases hlt : k < x.l.length
        · obtain ⟨p, o, hp, rfl, hcx⟩ : ∃ b o, Btw 0 w.heap.size b ∧ a1 = some ⟨b, o, none⟩ ∧ IsVs w (Btw 0 w.heap.size) x.l b o := HV.out.vals.resolve_left (fun e => by rw [e] at hlt; simp at hlt)
          have hl6 := HH.out.2.2.2.2.2
          obtain ⟨p', o', hp', rfl, hcy⟩ : ∃ b o, Btw 0 w.heap.size b ∧ b1 = some ⟨b, o, none⟩ ∧ IsVs w (Btw 0 w.heap.size) y.l b o := HV'.out.vals.resolve_left (fun e => by have := congrArg List.length e; simp only [List.length_nil] at this; omega)
          obtain ⟨zx, hzx⟩ : ∃ z, x.l[k]? = some z := ⟨x.l[k], by simp [hlt]⟩
          obtain ⟨zy, hzy⟩ : ∃ z, y.l[k]? = some z := ⟨y.l[k]'(by omega), by simp⟩
          have hBz : Below w.heap.size w wr := hBw.trans (hBq.mono hBw.size)
          obtain ⟨e0, f0, e1, f1, s0, s1, s2, s3, s4, s5, hxv⟩ := (IsVs.keep (S' := Btw 0 wr.heap.size) (Btw.kept hBz) (Btw.mono (Nat.le_refl _) hBz.size) _ p o hp hcx).cells hzx
          obtain ⟨g0, h0, g1, h1, t0, t1, t2, t3, t4, t5, hyv⟩ := (IsVs.keep (S' := Btw 0 wr.heap.size) (Btw.kept hBz) (Btw.mono (Nat.le_refl _) hBz.size) _ p' o' hp' hcy).cells hzy
          have z5 : wr.cell? ⟨w.heap.size, 5, none⟩ = some (.slice (some ⟨p, o, none⟩) x.l.length c1) := cell_below hBq x5
          have z6 : wr.cell? ⟨w.heap.size + 1, 5, none⟩ = some (.slice (some ⟨p', o', none⟩) y.l.length d1) := cell_below hBq y5
          have hc := ih zx (List.mem_of_getElem? hzx)
          have HXV := Lib.hid hxv.drew_
          have HYV := Lib.hid hyv.drew_
          have HZ := Lib.hid (And.intro hzx hzy)
          have HS := Lib.hid hsame
          have j0 : (0 : Int) ≤ (k : Int) := by omega
          have j1 : (k : Int) < (x.l.length : Int) := by omega
          have j2 : (k : Int) < (y.l.length : Int) := by omega
          clear hzx hzy hsame hcx hcy hxv hyv hl6 bx' by' x5 y5
          go_wp2_with fail
          refine wp_region_K (fun w' => w'.cell? ⟨w.heap.size, 5, none⟩ = some (.slice (some ⟨p, o, none⟩) x.l.length c1) ∧ w'.cell? ⟨w.heap.size + 1, 5, none⟩ = some (.slice (some ⟨p', o', none⟩) y.l.length d1) ∧ w'.cell? ⟨p, o + k * 6, none⟩ = some (.int .i64 zx.kind) ∧ w'.cell? ⟨p, o + k * 6 + 1, none⟩ = some (.int .i64 zx.n) ∧ w'.cell? ⟨p, o + k * 6 + 2, none⟩ = some (.float .f64 zx.f) ∧ w'.cell? ⟨p, o + k * 6 + 3, none⟩ = some (.string zx.s) ∧ w'.cell? ⟨p, o + k * 6 + 4, none⟩ = some (.slice e0 zx.keys.length f0) ∧ w'.cell? ⟨p, o + k * 6 + 5, none⟩ = some (.slice e1 zx.l.length f1) ∧ w'.cell? ⟨p', o' + k * 6, none⟩ = some (.int .i64 zy.kind) ∧ w'.cell? ⟨p', o' + k * 6 + 1, none⟩ = some (.int .i64 zy.n) ∧ w'.cell? ⟨p', o' + k * 6 + 2, none⟩ = some (.float .f64 zy.f) ∧ w'.cell? ⟨p', o' + k * 6 + 3, none⟩ = some (.string zy.s) ∧ w'.cell? ⟨p', o' + k * 6 + 4, none⟩ = some (.slice g0 zy.keys.length h0) ∧ w'.cell? ⟨p', o' + k * 6 + 5, none⟩ = some (.slice g1 zy.l.length h1)) [0, 1, 2, 3, 4, 5, 6, 7, 8, 9, 11] (by kernel_rfl) ?_ (fun hHeld => ?_)
          · exact ⟨z5, z6, s0, s1, s2, s3, s4, s5, t0, t1, t2, t3, t4, t5⟩
          refine wpK_take (i := 0) (v := ?_) rfl (by kernel_rfl) (by kernel_rfl) (by kernel_rfl) (by kernel_rfl) (.inl ⟨by rfl, ?_⟩) hHeld ?_
          rotate_left
          · (intro w hSw; (try dsimp only at hSw); go_split_ands; go_simp; (try with_reducible rfl))
          try simp only [Act.put, List.setIfInBounds_toArray, List.set_cons_zero, List.set_cons_succ]
          refine wpK_take (i := 1) (v := ?_) rfl (by kernel_rfl) (by kernel_rfl) (by kernel_rfl) (by kernel_rfl) (.inl ⟨by rfl, ?_⟩) hHeld ?_
          rotate_left
          · (intro w hSw; (try dsimp only at hSw); go_split_ands; go_simp; (try with_reducible rfl))
          try simp only [Act.put, List.setIfInBounds_toArray, List.set_cons_zero, List.set_cons_succ]
          refine wpK_take (i := 2) (v := ?_) rfl (by kernel_rfl) (by kernel_rfl) (by kernel_rfl) (by kernel_rfl) (.inl ⟨by rfl, ?_⟩) hHeld ?_
          rotate_left
          · (intro w hSw; (try dsimp only at hSw); go_split_ands; go_simp; (try with_reducible rfl))
          try simp only [Act.put, List.setIfInBounds_toArray, List.set_cons_zero, List.set_cons_succ]
          refine wpK_take (i := 3) (v := ?_) rfl (by kernel_rfl) (by kernel_rfl) (by kernel_rfl) (by kernel_rfl) (.inl ⟨by rfl, ?_⟩) hHeld ?_
          rotate_left
          · (intro w hSw; (try dsimp only at hSw); go_split_ands; go_simp; (try with_reducible rfl))
          try simp only [Act.put, List.setIfInBounds_toArray, List.set_cons_zero, List.set_cons_succ]
          refine wpK_take (i := 4) (v := ?_) rfl (by kernel_rfl) (by kernel_rfl) (by kernel_rfl) (by kernel_rfl) (.inl ⟨by rfl, ?_⟩) hHeld ?_
          rotate_left
          · (intro w hSw; (try dsimp only at hSw); go_split_ands; go_simp; (try with_reducible rfl))
          try simp only [Act.put, List.setIfInBounds_toArray, List.set_cons_zero, List.set_cons_succ]
          refine wpK_take (i := 5) (v := ?_) rfl (by kernel_rfl) (by kernel_rfl) (by kernel_rfl) (by kernel_rfl) (.inl ⟨by rfl, ?_⟩) hHeld ?_
          rotate_left
          · (intro w hSw; (try dsimp only at hSw); go_split_ands; go_simp; (try with_reducible rfl))
          try simp only [Act.put, List.setIfInBounds_toArray, List.set_cons_zero, List.set_cons_succ]
          refine wpK_take (i := 6) (v := ?_) rfl (by kernel_rfl) (by kernel_rfl) (by kernel_rfl) (by kernel_rfl) (.inl ⟨by rfl, ?_⟩) hHeld ?_
          rotate_left
          · (intro w hSw; (try dsimp only at hSw); go_split_ands; go_simp; (try with_reducible rfl))
          try simp only [Act.put, List.setIfInBounds_toArray, List.set_cons_zero, List.set_cons_succ]
          refine wpK_take (i := 7) (v := ?_) rfl (by kernel_rfl) (by kernel_rfl) (by kernel_rfl) (by kernel_rfl) (.inl ⟨by rfl, ?_⟩) hHeld ?_
          rotate_left
          · (intro w hSw; (try dsimp only at hSw); go_split_ands; go_simp; (try with_reducible rfl))
          try simp only [Act.put, List.setIfInBounds_toArray, List.set_cons_zero, List.set_cons_succ]
          refine wpK_take (i := 8) (v := ?_) rfl (by kernel_rfl) (by kernel_rfl) (by kernel_rfl) (by kernel_rfl) (.inl ⟨by rfl, ?_⟩) hHeld ?_
          rotate_left
          · (intro w hSw; (try dsimp only at hSw); go_split_ands; go_simp; (try with_reducible rfl))
          try simp only [Act.put, List.setIfInBounds_toArray, List.set_cons_zero, List.set_cons_succ]
          refine wpK_take (i := 9) (v := ?_) rfl (by kernel_rfl) (by kernel_rfl) (by kernel_rfl) (by kernel_rfl) (.inl ⟨by rfl, ?_⟩) hHeld ?_
          rotate_left
          · (intro w hSw; (try dsimp only at hSw); go_split_ands; go_simp; (try with_reducible rfl))
          try simp only [Act.put, List.setIfInBounds_toArray, List.set_cons_zero, List.set_cons_succ]
          refine wpK_one (i := 10) (by kernel_rfl) rfl (fun K hK => ?_)
          go_simp
          (with_reducible refine (hc.use zy _ _ _ HXV.out HYV.out).mono ?_)
          rintro e w3 ⟨rfl, hB3⟩
          refine hK.out _ _ ?_ (fun hHeld => ?_)
          · exact ⟨cell_below hB3 hHeld.1, cell_below hB3 hHeld.2.1, cell_below hB3 hHeld.2.2.1, cell_below hB3 hHeld.2.2.2.1, cell_below hB3 hHeld.2.2.2.2.1, cell_below hB3 hHeld.2.2.2.2.2.1, cell_below hB3 hHeld.2.2.2.2.2.2.1, cell_below hB3 hHeld.2.2.2.2.2.2.2.1, cell_below hB3 hHeld.2.2.2.2.2.2.2.2.1, cell_below hB3 hHeld.2.2.2.2.2.2.2.2.2.1, cell_below hB3 hHeld.2.2.2.2.2.2.2.2.2.2.1, cell_below hB3 hHeld.2.2.2.2.2.2.2.2.2.2.2.1, cell_below hB3 hHeld.2.2.2.2.2.2.2.2.2.2.2.2.1, cell_below hB3 hHeld.2.2.2.2.2.2.2.2.2.2.2.2.2⟩
          clear hK K
          try simp only [Act.put, List.setIfInBounds_toArray, List.set_cons_zero, List.set_cons_succ]
          refine wpK_take (i := 11) (v := ?_) rfl (by kernel_rfl) (by kernel_rfl) (by kernel_rfl) (by kernel_rfl) (.inl ⟨by rfl, ?_⟩) hHeld ?_
          rotate_left
          · (intro w hSw; (try dsimp only at hSw); go_split_ands; go_simp; (try with_reducible rfl))
          try simp only [Act.put, List.setIfInBounds_toArray, List.set_cons_zero, List.set_cons_succ]
          refine wpK_done (by kernel_rfl) ?_ _
          have hB4 : Below w1.heap.size w1 w3 := hBq.drew.trans (hB3.mono (by show w1.heap.size ≤ wr.heap.size; exact hBq.size))
          cases hs : sameG zx zy with
          | false =>
            have hzz : zx ≠ zy := fun e => by rw [sameG_iff.2 e] at hs; cases hs
            have HZZ := Lib.hid hzz
            clear hzz hs
            go_wp2_with fail
            go_ret
            have hne : x ≠ y := fun e => by
              have h1 := HZ.out.1
              rw [e] at h1
              exact HZZ.out (Option.some.inj (h1.symm.trans HZ.out.2))
            rw [sameG_false hne]
            exact ⟨rfl, hBw.trans (hB4.mono hBw.size)⟩
          | true =>
            have HZZ := Lib.hid (sameG_iff.1 hs)
            clear hs
            go_wp2_with fail
            have hb88 : x.l.length * 88 ≤ 140737488351232 := HV.out.len
            have hwk : wrap64 ((k : Int) + 1) = ((k + 1 : Nat) : Int) := by unfold wrap64; omega
            rw [hwk]
            refine ⟨⟨k + 1, hlt, rfl, hB4, fun j hj => ?_⟩, by simp only [intOf]; omega⟩
            rcases Nat.lt_or_ge j k with h | h
            · exact HS.out j h
            · have : j = k := by omega
              rw [this, HZ.out.1, HZ.out.2, HZZ.out]
        · have hkl : k = x.l.length := by omega
          subst hkl
          have hll : x.l = y.l := List.ext_getElem? fun j => by
            rcases Nat.lt_or_ge j x.l.length with h | h
            · exact hsame j h
            · rw [List.getElem?_eq_none h, List.getElem?_eq_none (by have := HH.out.2.2.2.2.2; omega)]
          have hxy : x = y := by
            obtain ⟨q1, q2, q3, q4, _, _⟩ := HH.out
            have q5 := HKS.out
            obtain ⟨_, _, _, _, _, _⟩ := x
            obtain ⟨_, _, _, _, _, _⟩ := y
            simp only [GV.kind, GV.n, GV.s, GV.f, GV.keys, GV.l] at q1 q2 q3 q4 q5 hll
            rw [q1, q2, q3, q4, q5, hll]
          have HXY := Lib.hid hxy
          clear hxy hll hsame
          go_wp2_with fail
          go_ret
          rw [sameG_iff.2 HXY.out]
          exact ⟨rfl, hBw.trans (hBq.mono hBw.size)⟩
theorem same_all : ∀ x : GV, SameC x
  | .mk k n f s ks l => by
    have ih : ∀ z ∈ l, SameC z := fun z hz => same_all z
    intro y w v v' hv hv'
    by_cases h1 : (GV.mk k n f s ks l).kind = y.kind
    by_cases h2 : (GV.mk k n f s ks l).n = y.n
    by_cases h3 : (GV.mk k n f s ks l).s = y.s
    by_cases h4 : (GV.mk k n f s ks l).f = y.f
    by_cases h5 : (GV.mk k n f s ks l).keys.length = y.keys.length
    by_cases h6 : (GV.mk k n f s ks l).l.length = y.l.length
    · exact same_body (.mk k n f s ks l) y ih w v v' hv hv' h1 h2 h3 h4 h5 h6
    · rw [sameG_false (fun e => h6 (by rw [e]))]; exact same_l _ y w v v' hv hv' h1 h2 h3 h4 h5 h6
    · rw [sameG_false (fun e => h5 (by rw [e]))]; exact same_keys _ y w v v' hv hv' h1 h2 h3 h4 h5
    · rw [sameG_false (fun e => h4 (by rw [e]))]; exact same_f _ y w v v' hv hv' h1 h2 h3 h4
    · rw [sameG_false (fun e => h3 (by rw [e]))]; exact same_s _ y w v v' hv hv' h1 h2 h3
    · rw [sameG_false (fun e => h2 (by rw [e]))]; exact same_n _ y w v v' hv hv' h1 h2
    · rw [sameG_false (fun e => h1 (by rw [e]))]; exact same_kind _ y w v v' hv hv' h1
termination_by x => SizeOf.sizeOf x
decreasing_by
  have := List.sizeOf_lt_of_mem hz
  simp; omega
end Go.Proofs.YtgmahieoiifpfaaGreat
end
section
namespace Go.Proofs.YtgmahieoiifpfaaGreat
theorem insL_mem {α : Type} {ks : List ByteArray} {l : List α} {k : ByteArray} {x y : α} (h : y ∈ insL ks l k x) : y = x ∨ y ∈ l := by
  unfold insL at h
  simp only [List.mem_append, List.mem_cons, List.not_mem_nil, or_false] at h
  rcases h with (h | h) | h
  · exact .inr (List.mem_of_mem_take h)
  · exact .inl h
  · exact .inr (List.mem_of_mem_drop h)
theorem withF_mem {m x y : GV} {k : ByteArray} (h : y ∈ (withF m k x).l) : y = x ∨ y ∈ m.l := by
  unfold withF at h
  exact insL_mem h
theorem cleanM_mem : ∀ (ks : List ByteArray) (l : List GV) (acc y : GV), y ∈ (cleanM ks l acc).l → (∃ z ∈ l, y = cleanV z) ∨ y ∈ acc.l
  | [], l, acc, y, h => by simp only [cleanM] at h; exact .inr h
  | _ :: _, [], acc, y, h => by simp only [cleanM] at h; exact .inr h
  | k :: ks, x :: l, acc, y, h => by
    simp only [cleanM] at h
    rcases cleanM_mem ks l _ y h with ⟨z, hz, e⟩ | h
    · exact .inl ⟨z, by simp [hz], e⟩
    · rcases withF_mem h with e | h
      · exact .inl ⟨x, by simp, e⟩
      · exact .inr h
theorem getF_cleanM : ∀ (ks : List ByteArray) (l : List GV) (acc : GV), Plain acc → ks.Nodup → ∀ k, getF (cleanM ks l acc) k = ((getA (ks.zip l) k).map cleanV).or (getF acc k)
  | [], l, acc, h, _, k => by simp [cleanM, getA]
  | _ :: _, [], acc, h, _, k => by simp [cleanM, getA]
  | a :: ks, x :: l, acc, h, hd, k => by
    simp only [List.nodup_cons] at hd
    simp only [cleanM]
    rw [getF_cleanM ks l _ (withF_plain h _ _) hd.2, getF_with h]
    simp only [List.zip_cons_cons, getA]
    by_cases e : a = k
    · have : getA (ks.zip l) k = none := getA_none fun y hy hyk => hd.1 (by rw [e, ← hyk]; exact (List.of_mem_zip (a := y.1) (b := y.2) hy).1)
      rw [if_pos e, if_pos e, this]; simp
    · rw [if_neg e, if_neg e]
theorem getA_map {α : Type} {f : α → α} : ∀ (a : List (ByteArray × α)) (k : ByteArray), (∀ e ∈ a, f e.2 = e.2) → (getA a k).map f = getA a k
  | [], k, _ => rfl
  | e :: r, k, h => by
    simp only [getA]
    split
    · simp [h e (by simp)]
    · exact getA_map r k fun x hx => h x (by simp [hx])
theorem cleanM_fix {g : GV} (hg : Plain g) (h : ∀ y ∈ g.l, cleanV y = y) : cleanM g.keys g.l gMap = g := by
  refine plain_ext (cleanM_plain _ _ _ gMap_plain).1 hg fun k => ?_
  obtain ⟨ks, l, rfl, hi, hl⟩ := hg
  simp only [GV.keys, GV.l] at h ⊢
  rw [getF_cleanM _ _ _ gMap_plain (incr_nodup hi)]
  rw [getA_map _ _ (fun e he => h e.2 (List.of_mem_zip (a := e.1) (b := e.2) he).2)]
  rw [getF_gMap, Option.or_none]
  rfl
theorem cleanL_fix : ∀ (l : List GV), (∀ y ∈ l, cleanV (cleanV y) = cleanV y) → cleanL (cleanL l) = cleanL l
  | [], _ => by simp [cleanL]
  | x :: l, h => by
    simp only [cleanL]
    rw [h x (by simp), cleanL_fix l fun y hy => h y (by simp [hy])]
theorem cleanV_idem : ∀ x : GV, cleanV (cleanV x) = cleanV x
  | .mk k n f s ks l => by
    have ih : ∀ y ∈ l, cleanV (cleanV y) = cleanV y := fun y hy => cleanV_idem y
    by_cases h1 : k = 1
    · subst h1; by_cases hn : n = 0 <;> simp [cleanV, hn]
    by_cases h2 : k = 2
    · subst h2; simp [cleanV]
    by_cases h3 : k = 3
    · subst h3; simp [cleanV]
    by_cases h4 : k = 4
    · subst h4; simp [cleanV]
    by_cases h5 : k = 5
    · subst h5; simp [cleanV, cleanL_fix l ih]
    by_cases h6 : k = 6
    · subst h6
      have e : cleanV (.mk 6 n f s ks l) = cleanM ks l gMap := by simp [cleanV, gMap]
      rw [e]
      have hp := (cleanM_plain ks l gMap gMap_plain).1
      have hfix := cleanM_fix hp (fun y hy => by
        rcases cleanM_mem ks l gMap y hy with ⟨z, hz, rfl⟩ | hy
        · exact ih z hz
        · simp [gMap, GV.l] at hy)
      obtain ⟨ks', l', e', _, _⟩ := hp
      rw [e'] at hfix ⊢
      simpa [cleanV, gMap, GV.keys, GV.l] using hfix
    · simp [cleanV, h1, h2, h3, h4, h5, h6, gNull]
termination_by x => SizeOf.sizeOf x
decreasing_by
  have := List.sizeOf_lt_of_mem hy
  simp; omega
end Go.Proofs.YtgmahieoiifpfaaGreat
end
section
set_option linter.unusedVariables false
namespace Go.Proofs.YtgmahieoiifpfaaGreat
open Go.RowKit
set_option linter.unusedSimpArgs false
theorem identQ_p (x y : GV) : PCall Tryz.prog 71 [qV x, qV y] (.val (.bool (sameG x y))) := by
  have := pcall_V2s (P := Tryz.prog) (f := 71) (x := x) (y := y) (u := .bool (sameG x y)) trivial (fun w v v' h h' => (same_all x).use y w v v' h h')
  rw [pdV_eq, pdV_eq] at this
  exact this
end Go.Proofs.YtgmahieoiifpfaaGreat
end
section
set_option linter.unusedVariables false
namespace Go.Proofs.YtgmahieoiifpfaaGreat
open Go.RowKit
set_option linter.unusedSimpArgs false
theorem ordVals_q (l : List GV) : PCall Tryz.prog 94 [.sl 6 88 (pdVs l)] (.val (.bool (ordL l))) := by
  intro w F vs hF hv
  unfold Reps at hv
  obtain ⟨v, r', rfl, hx, hr⟩ := hv
  unfold Reps at hr
  subst hr
  unfold Rep at hx
  rw [pdVs_len] at hx
  obtain ⟨a, c, rfl, h1, h2, h3, h4⟩ := hx
  refine (ordVals_any l w a c h2 ?_).mono ?_
  · rcases h4 with h4 | ⟨b, o, hb, rfl, hr⟩
    · left
      cases l with
      | nil => rfl
      | cons _ _ => unfold pdVs at h4; cases h4
    · exact .inr ⟨b, o, ⟨Nat.zero_le _, hF b hb⟩, rfl, IsVs.keep (fun _ _ => rfl) (fun b hb => ⟨Nat.zero_le _, hF b hb⟩) l b o hb (repL_isVs l hr)⟩
  · rintro e w' ⟨he, hb⟩
    exact ⟨_, he, hb, by unfold Rep; exact ⟨rfl, trivial⟩⟩
end Go.Proofs.YtgmahieoiifpfaaGreat
end
section
set_option linter.unusedVariables false
namespace Go.Proofs.YtgmahieoiifpfaaGreat
open Go.RowKit
set_option linter.unusedSimpArgs false
section
variable {P : Program} {X : Base} {N : Nat} {Q : Exit → Act → World → Prop} {ops : Array Oper} {rem : List Nat} {ks : List Itm} {s s' : Sta}
/-- min(n, m) -/
theorem op_minN {o : Oper} (hd : dstOk X.N o.dst = true) {x y : Operand} {ts : Array TypeId} (ho : o.op = .call { callee := .builtin .min, args := #[x, y], argTypes := ts }) {p q : Nat} (hx : s.ev x = .dat (.val (.int .i64 ((p : Nat) : Int)))) (hy : s.ev y = .dat (.val (.int .i64 ((q : Nat) : Int)))) :
    OpS P X o s (s.put o.dst (.dat (.val (.int .i64 ((min p q : Nat) : Int))))) := by
  refine opS_value hd fun a w ρ hc => ⟨.int .i64 ((min p q : Nat) : Int), ?_, ?_⟩
  · have h1 := hc.ev x
    have h2 := hc.ev y
    rw [hx] at h1
    rw [hy] at h2
    unfold VR Rep at h1 h2
    have e : (if (q : Int) < (p : Int) then (q : Int) else (p : Int)) = ((min p q : Nat) : Int) := by split <;> omega
    simp only [execOp, ho, resolve, invoke, builtin, h1.1, h2.1, List.map_toArray, List.map_cons, List.map_nil, Sem.run_bind, Sem.run_pure, Result.andThen_ok, run_min_int2, e]
  · unfold VR Rep
    refine ⟨rfl, ?_⟩
    have h1 := hc.ev x
    have h2 := hc.ev y
    rw [hx] at h1
    rw [hy] at h2
    unfold VR Rep at h1 h2
    have : min p q = p ∨ min p q = q := by omega
    rcases this with h | h <;> rw [h]
    · exact h1.2
    · exact h2.2
theorem k_minN {d p q : Nat} {x y : Operand} {ts : Array TypeId} (hN : Nat.blt d N = true) (hx : s.ev x = .dat (.val (.int .i64 ((p : Nat) : Int)))) (hy : s.ev y = .dat (.val (.int .i64 ((q : Nat) : Int)))) (h : Run P X N Q (.ops ops rem :: ks) (s.put (some d) (.dat (.val (.int .i64 ((min p q : Nat) : Int)))))) :
    RunK P X N Q ops rem ks (some d) (.call { callee := .builtin .min, args := #[x, y], argTypes := ts }) s := k_of hN (fun _ _ _ hd => op_minN hd rfl hx hy) h
theorem d_minN {ops : List Oper} {d p q : Nat} {x y : Operand} {ts : Array TypeId} (hN : Nat.blt d N = true) (hx : s.ev x = .dat (.val (.int .i64 ((p : Nat) : Int)))) (hy : s.ev y = .dat (.val (.int .i64 ((q : Nat) : Int)))) :
    TrK P X N ops (some d) (.call { callee := .builtin .min, args := #[x, y], argTypes := ts }) (Eff.put (some d) (.dat (.val (.int .i64 ((min p q : Nat) : Int))))) s (s.put (some d) (.dat (.val (.int .i64 ((min p q : Nat) : Int))))) := act_val hN fun s' _ _ _ _ hd hev htb => op_minN hd rfl ((hev x (by simp [Op.operands, Call.operands])).trans hx) ((hev y (by simp [Op.operands, Call.operands])).trans hy)
end
theorem elemRank_p (x : EV) : PCall Tryz.prog 73 [pdE x] (.val (.int .i64 (rkE x))) := by
  obtain ⟨k, s, ks, l, v, n⟩ := x
  unfold pdE rkE
  simp only
  refine pcall_of_run Tryz.func73 rfl Tryz.ntmps73 rfl (fun X => ?_)
  by_cases h1 : k = 1
  · have g1 : decide (k = 1) = true := decide_eq_true h1
    rw [if_pos h1]
    repeat' (first
    | refine run_seq ?_
    | (refine k_pick rfl ?_; first | refine k_assignD rfl rfl ?_ | refine k_moveD rfl rfl ?_ | refine k_fieldAddrB rfl rfl rfl ?_ | refine k_loadBD rfl rfl rfl (by first | rfl | (simp only [cellsD]; rfl)) ?_ | refine k_bin2B rfl rfl rfl rfl ?_ | refine k_pickT rfl rfl (by first | rfl | assumption) rfl ?_ | refine k_boxW rfl rfl rfl (by first | rfl | (simp only [cellsD]; rfl)) ?_)
    | refine run_opsEnd ?_
    | refine run_region ?_
    | refine run_condT rfl (by first | rfl | assumption) ?_
    | refine k_guardNF rfl rfl (by first | rfl | assumption) rfl ?_
    | refine run_retOk (resOk_tmp rfl rfl ?_)
    | fail)
    all_goals exact PLe.of_eq (by rw [h1])
  have g1 : decide (k = 1) = false := decide_eq_false h1
  rw [if_neg h1]
  by_cases h2 : k = 2
  · have g2 : decide (k = 2) = true := decide_eq_true h2
    rw [if_pos h2]
    repeat' (first
    | refine run_seq ?_
    | (refine k_pick rfl ?_; first | refine k_assignD rfl rfl ?_ | refine k_moveD rfl rfl ?_ | refine k_fieldAddrB rfl rfl rfl ?_ | refine k_loadBD rfl rfl rfl (by first | rfl | (simp only [cellsD]; rfl)) ?_ | refine k_bin2B rfl rfl rfl rfl ?_ | refine k_pickT rfl rfl (by first | rfl | assumption) rfl ?_ | refine k_pickF rfl rfl (by first | rfl | assumption) rfl ?_ | refine k_boxW rfl rfl rfl (by first | rfl | (simp only [cellsD]; rfl)) ?_)
    | refine run_opsEnd ?_
    | refine run_region ?_
    | refine run_condT rfl (by first | rfl | assumption) ?_
    | (refine k_guardY rfl rfl (by first | rfl | assumption) ?_; first | refine k_fieldAddrB rfl rfl rfl ?_ | refine k_loadBD rfl rfl rfl (by first | rfl | (simp only [cellsD]; rfl)) ?_ | refine k_bin2B rfl rfl rfl rfl ?_)
    | refine k_guardNF rfl rfl (by first | rfl | assumption) rfl ?_
    | refine run_retOk (resOk_tmp rfl rfl ?_)
    | fail)
    all_goals exact PLe.of_eq (by rw [h2])
  have g2 : decide (k = 2) = false := decide_eq_false h2
  rw [if_neg h2]
  by_cases h3 : k = 3
  · have g3 : decide (k = 3) = true := decide_eq_true h3
    rw [if_pos h3]
    repeat' (first
    | refine run_seq ?_
    | (refine k_pick rfl ?_; first | refine k_assignD rfl rfl ?_ | refine k_moveD rfl rfl ?_ | refine k_fieldAddrB rfl rfl rfl ?_ | refine k_loadBD rfl rfl rfl (by first | rfl | (simp only [cellsD]; rfl)) ?_ | refine k_bin2B rfl rfl rfl rfl ?_ | refine k_pickF rfl rfl (by first | rfl | assumption) rfl ?_ | refine k_boxW rfl rfl rfl (by first | rfl | (simp only [cellsD]; rfl)) ?_)
    | refine run_opsEnd ?_
    | refine run_region ?_
    | refine run_condT rfl (by first | rfl | assumption) ?_
    | (refine k_guardY rfl rfl (by first | rfl | assumption) ?_; first | refine k_fieldAddrB rfl rfl rfl ?_ | refine k_loadBD rfl rfl rfl (by first | rfl | (simp only [cellsD]; rfl)) ?_ | refine k_bin2B rfl rfl rfl rfl ?_)
    | refine run_retOk (resOk_tmp rfl rfl ?_)
    | fail)
    all_goals exact PLe.of_eq (by rw [h3])
  have g3 : decide (k = 3) = false := decide_eq_false h3
  rw [if_neg h3]
  repeat' (first
    | refine run_seq ?_
    | (refine k_pick rfl ?_; first | refine k_assignD rfl rfl ?_ | refine k_moveD rfl rfl ?_ | refine k_fieldAddrB rfl rfl rfl ?_ | refine k_loadBD rfl rfl rfl (by first | rfl | (simp only [cellsD]; rfl)) ?_ | refine k_bin2B rfl rfl rfl rfl ?_ | refine k_pickF rfl rfl (by first | rfl | assumption) rfl ?_ | refine k_boxW rfl rfl rfl (by first | rfl | (simp only [cellsD]; rfl)) ?_)
    | refine run_opsEnd ?_
    | refine run_region ?_
    | refine run_condF rfl (by first | rfl | assumption) ?_
    | (refine k_guardY rfl rfl (by first | rfl | assumption) ?_; first | refine k_fieldAddrB rfl rfl rfl ?_ | refine k_loadBD rfl rfl rfl (by first | rfl | (simp only [cellsD]; rfl)) ?_ | refine k_bin2B rfl rfl rfl rfl ?_)
    | refine run_skip ?_
    | refine run_retOk (resOk_tmp rfl rfl ?_)
    | fail)
  all_goals exact PLe.refl _
theorem kvE_at {x : EV} {i : Nat} {k : ByteArray} {v : GV} (h1 : x.keys[i]? = some k) (h2 : x.l[i]? = some v) : (kvE x)[i]? = some (k, v) := by
  unfold kvE
  rw [List.getElem?_zip_eq_some]
  exact ⟨h1, h2⟩
theorem kvE_len (x : EV) : (kvE x).length = min x.keys.length x.l.length := by unfold kvE; exact List.length_zip
theorem pdS_i {ks : List ByteArray} {j : Nat} {x : ByteArray} (h : ks[j]? = some x) : (pdS ks)[((j : Nat) : Int).toNat]? = some (.val (.string x)) := pdS_at h
theorem pdVs_i {l : List GV} {j : Nat} {x : GV} (h : l[j]? = some x) : (pdVs l)[((j : Nat) : Int).toNat]? = some (qV x) := by
  rw [show qV x = pdV x from (pdV_eq x).symm]
  exact pdVs_at h
set_option maxHeartbeats 16000000 in
theorem eqKeys_p (x y : EV) : PCall Tryz.prog 74 [pdE x, pdE y] (.val (.bool (eqLx eqKv (kvE x) (kvE y)))) := by
  refine pcall_fits fun hfit => ?_
  have b1 := (Fits.aggAt (hfit (pdE x) (by simp)) 2 (d := .sl 1 16 (pdS x.keys)) rfl).sl.2.1
  rw [pdS_len] at b1
  clear hfit
  have n1 := pdS_len x.keys
  have n2 := pdVs_len x.l
  have n3 := pdS_len y.keys
  have n4 := pdVs_len y.l
  have m1 := kvE_len x
  have m2 := kvE_len y
  obtain ⟨z1, ez1⟩ : ∃ z, z = ((min (pdS x.keys).length (pdVs x.l).length : Nat) : Int) := ⟨_, rfl⟩
  obtain ⟨z2, ez2⟩ : ∃ z, z = ((min (pdS y.keys).length (pdVs y.l).length : Nat) : Int) := ⟨_, rfl⟩
  have hz1 : z1 = (((kvE x).length : Nat) : Int) := by omega
  have hz2 : z2 = (((kvE y).length : Nat) : Int) := by omega
  refine pcall_of_run Tryz.func74 rfl Tryz.ntmps74 rfl (fun X => ?_)
  by_cases hl : (kvE x).length = (kvE y).length
  rotate_left
  · have g1 : decide (((min (pdS x.keys).length (pdVs x.l).length : Nat) : Int) ≠ ((min (pdS y.keys).length (pdVs y.l).length : Nat) : Int)) = true := decide_eq_true (by omega)
    rw [eqLx_len hl]
    repeat' (first
    | refine run_seq ?_
    | (refine k_pick rfl ?_; first | refine k_assignD rfl rfl ?_ | refine k_moveD rfl rfl ?_ | refine k_bin2B rfl rfl rfl rfl ?_ | refine k_boxW rfl rfl rfl (by first | rfl | (simp only [pdE, cellsD]; rfl)) ?_)
    | refine run_opsEnd ?_
    | refine run_region ?_
    | refine run_condT rfl (by first | rfl | assumption) ?_
    | refine run_retOk (resOk_tmp rfl rfl ?_)
    | refine run_drawC (by kernel_rfl) ?_
    | refine c_nil (And.intro (by kernel_rfl) ?_)
    | refine c_pick (d_minN rfl rfl rfl) ?_
    | refine c_pick (d_assignD rfl rfl) ?_
    | refine c_pick (d_fieldAddrB rfl rfl rfl) ?_
    | refine c_pick (d_loadBD rfl rfl rfl (by first | rfl | (simp only [pdE, cellsD]; rfl))) ?_
    | refine c_pick (d_lenD rfl rfl) ?_
    | fail)
    all_goals exact PLe.refl _
  have g1 : decide (((min (pdS x.keys).length (pdVs x.l).length : Nat) : Int) ≠ ((min (pdS y.keys).length (pdVs y.l).length : Nat) : Int)) = false := decide_eq_false (by omega)
  repeat' (first
    | refine run_seq ?_
    | (refine k_pick rfl ?_; first | refine k_assignD rfl rfl ?_ | refine k_moveD rfl rfl ?_ | refine k_bin2B rfl rfl rfl rfl ?_ | refine k_boxW rfl rfl rfl (by first | rfl | (simp only [pdE, cellsD]; rfl)) ?_)
    | refine run_opsEnd ?_
    | refine run_region ?_
    | refine run_condF rfl (by first | rfl | assumption) ?_
    | refine run_block ?_
    | refine run_skip ?_
    | refine run_drawC (by kernel_rfl) ?_
    | refine c_nil (And.intro (by kernel_rfl) ?_)
    | refine c_pick (d_minN rfl rfl rfl) ?_
    | refine c_pick (d_assignD rfl rfl) ?_
    | refine c_pick (d_fieldAddrB rfl rfl rfl) ?_
    | refine c_pick (d_loadBD rfl rfl rfl (by first | rfl | (simp only [pdE, cellsD]; rfl))) ?_
    | refine c_pick (d_lenD rfl rfl) ?_
    | fail)
  refine run_loopS (ι := { j : Nat // j ≤ (kvE x).length ∧ ∀ i f g, i < j → (kvE x)[i]? = some f → (kvE y)[i]? = some g → eqKv f g = true })
    (fun j => [(2, .ptr 2 0), (3, .ptr 3 0), (5, .dat (.val (.int .i64 z1))), (7, .dat (.val (.int .i64 (j.1 : Nat))))])
    (fun j => [(2, .box 29 (cellsD (pdE x))), (3, .box 29 (cellsD (pdE y)))]) (fun j => (kvE x).length - j.1) ⟨0, Nat.zero_le _, fun i _ _ h => absurd h (Nat.not_lt_zero i)⟩ id ?_ ?_
  · (refine ⟨?_, ?_, by rfl⟩ <;> repeat' (first | exact trivial | exact ALe.ptr rfl | exact ALe.own rfl | exact ALe.elt rfl | exact BLe.boxD _ _ | exact BLe.row rfl | exact BLe.res | exact BLe.dead rfl | exact ALe.dat (PLe.refl _) | exact CLe.nil | refine And.intro ?_ ?_ | refine ALe.iface ?_ | refine ALe.clo ?_ | refine CLe.cons ?_ ?_ | refine BLe.box ?_ | refine BLe.row ?_ | exact ALe.any _ | refine ALe.dat (PLe.of_eq ?_)))
    all_goals first | rfl | (rw [ez1])
  rintro ⟨j, hj, hall⟩
  by_cases hlt : j < (kvE x).length
  rotate_left
  · have g2 : decide ((j : Int) < z1) = false := decide_eq_false (by omega)
    rw [eqLx_all hl fun i f g hf hg => hall i f g (by have := (List.getElem?_eq_some_iff.1 hf).1; omega) hf hg]
    repeat' (first
    | refine run_seq ?_
    | (refine k_pick rfl ?_; first | refine k_assignD rfl rfl ?_ | refine k_moveD rfl rfl ?_ | refine k_bin2B rfl rfl rfl rfl ?_)
    | refine run_opsEnd ?_
    | refine run_region ?_
    | refine run_condF rfl (by first | rfl | assumption) ?_
    | refine run_exit rfl ?_
    | refine run_retOk (resOk_tmp rfl rfl ?_)
    | fail)
    all_goals exact PLe.refl _
  have g2 : decide ((j : Int) < z1) = true := decide_eq_true (by omega)
  obtain ⟨f1, hf1⟩ : ∃ u, x.keys[j]? = some u := ⟨_, List.getElem?_eq_getElem (by omega)⟩
  obtain ⟨f2, hf2⟩ : ∃ u, x.l[j]? = some u := ⟨_, List.getElem?_eq_getElem (by omega)⟩
  obtain ⟨u1, hu1⟩ : ∃ u, y.keys[j]? = some u := ⟨_, List.getElem?_eq_getElem (by omega)⟩
  obtain ⟨u2, hu2⟩ : ∃ u, y.l[j]? = some u := ⟨_, List.getElem?_eq_getElem (by omega)⟩
  have i1 := pdS_i hf1
  have i2 := pdVs_i hf2
  have i3 := pdS_i hu1
  have i4 := pdVs_i hu2
  have c2 := eqSpec_p f2 u2
  have hx := kvE_at hf1 hf2
  have hy := kvE_at hu1 hu2
  by_cases hs : f1 = u1
  · have g3 : (!decide (f1 = u1)) = false := by simp [hs]
    have g3' : decide (f1 ≠ u1) = false := by simp [hs]
    cases hv : eqP (cleanV f2) (cleanV u2) with
    | true =>
      rw [hv] at c2
      repeat' (first
    | refine run_seq ?_
    | (refine k_pick rfl ?_; first | refine k_assignD rfl rfl ?_ | refine k_moveD rfl rfl ?_ | refine k_bin2B rfl rfl rfl rfl ?_ | refine k_ariI rfl rfl rfl rfl (by first | omega | (dsimp only; omega)) ?_)
    | refine run_opsEnd ?_
    | refine run_region ?_
    | refine run_condT rfl (by first | rfl | assumption) ?_
    | refine run_condF rfl (by first | rfl | assumption) ?_
    | refine run_block ?_
    | refine run_blkEnd ?_
    | refine run_skip ?_
    | refine run_drawC (by kernel_rfl) ?_
    | refine c_nil (And.intro (by kernel_rfl) ?_)
    | refine c_pick (d_indexAddrD rfl rfl rfl (by first | omega | (dsimp only; omega)) (by assumption)) ?_
    | refine c_pick (d_moveD rfl rfl) ?_
    | refine c_pick (d_fieldAddrB rfl rfl rfl) ?_
    | refine c_pick (d_loadBD rfl rfl rfl (by first | rfl | (simp only [pdE, cellsD]; rfl))) ?_
    | refine c_pick (d_bin2B rfl rfl rfl rfl) ?_
    | refine c_pick (d_pickF rfl rfl (by first | rfl | assumption) rfl) ?_
    | refine c_pick (d_loadD rfl rfl (by first | rfl | (simp only [pdE, cellsD]; rfl))) ?_
    | refine c_pickY rfl (by first | rfl | assumption) (d_indexAddrD rfl rfl rfl (by first | omega | (dsimp only; omega)) (by assumption)) ?_
    | refine c_pickY rfl (by first | rfl | assumption) (d_moveD rfl rfl) ?_
    | refine c_pickY rfl (by first | rfl | assumption) (d_fieldAddrB rfl rfl rfl) ?_
    | refine c_pickY rfl (by first | rfl | assumption) (d_loadBD rfl rfl rfl (by first | rfl | (simp only [pdE, cellsD]; rfl))) ?_
    | refine c_pickY rfl (by first | rfl | assumption) (d_call rfl (by kernel_rfl) rfl (by first | exact c2 | (simp only [← pdE]; exact c2))) ?_
    | refine c_pickY rfl (by first | rfl | assumption) (d_not rfl rfl) ?_
    | refine c_pickY rfl (by first | rfl | assumption) (d_loadD rfl rfl (by first | rfl | (simp only [pdE, cellsD]; rfl))) ?_
    | fail)
      refine run_again ?_
      refine ⟨⟨j + 1, by omega, fun i f g hi hf hg => ?_⟩, id, by simp only; omega, ?_⟩
      · by_cases e : i = j
        · subst e
          rw [hx] at hf; rw [hy] at hg
          cases hf; cases hg
          unfold eqKv
          simp only
          rw [hv]; simp [hs]
        · exact hall i f g (by omega) hf hg
      (refine ⟨?_, ?_, by rfl⟩ <;> repeat' (first | exact trivial | exact ALe.ptr rfl | exact ALe.own rfl | exact ALe.elt rfl | exact BLe.boxD _ _ | exact BLe.row rfl | exact BLe.res | exact BLe.dead rfl | exact ALe.dat (PLe.refl _) | exact CLe.nil | refine And.intro ?_ ?_ | refine ALe.iface ?_ | refine ALe.clo ?_ | refine CLe.cons ?_ ?_ | refine BLe.box ?_ | refine BLe.row ?_ | exact ALe.any _ | refine ALe.dat (PLe.of_eq ?_)))
    | false =>
      rw [hv] at c2
      rw [eqLx_no hx hy (by unfold eqKv; simp only; rw [hv]; simp)]
      repeat' (first
    | refine run_seq ?_
    | (refine k_pick rfl ?_; first | refine k_assignD rfl rfl ?_ | refine k_moveD rfl rfl ?_ | refine k_bin2B rfl rfl rfl rfl ?_)
    | refine run_opsEnd ?_
    | refine run_region ?_
    | refine run_condT rfl (by first | rfl | assumption) ?_
    | refine run_block ?_
    | refine run_skip ?_
    | refine run_retOk (resOk_tmp rfl rfl ?_)
    | refine run_drawC (by kernel_rfl) ?_
    | refine c_nil (And.intro (by kernel_rfl) ?_)
    | refine c_pick (d_indexAddrD rfl rfl rfl (by first | omega | (dsimp only; omega)) (by assumption)) ?_
    | refine c_pick (d_moveD rfl rfl) ?_
    | refine c_pick (d_fieldAddrB rfl rfl rfl) ?_
    | refine c_pick (d_loadBD rfl rfl rfl (by first | rfl | (simp only [pdE, cellsD]; rfl))) ?_
    | refine c_pick (d_bin2B rfl rfl rfl rfl) ?_
    | refine c_pick (d_pickF rfl rfl (by first | rfl | assumption) rfl) ?_
    | refine c_pick (d_loadD rfl rfl (by first | rfl | (simp only [pdE, cellsD]; rfl))) ?_
    | refine c_pickY rfl (by first | rfl | assumption) (d_indexAddrD rfl rfl rfl (by first | omega | (dsimp only; omega)) (by assumption)) ?_
    | refine c_pickY rfl (by first | rfl | assumption) (d_moveD rfl rfl) ?_
    | refine c_pickY rfl (by first | rfl | assumption) (d_fieldAddrB rfl rfl rfl) ?_
    | refine c_pickY rfl (by first | rfl | assumption) (d_loadBD rfl rfl rfl (by first | rfl | (simp only [pdE, cellsD]; rfl))) ?_
    | refine c_pickY rfl (by first | rfl | assumption) (d_call rfl (by kernel_rfl) rfl (by first | exact c2 | (simp only [← pdE]; exact c2))) ?_
    | refine c_pickY rfl (by first | rfl | assumption) (d_not rfl rfl) ?_
    | refine c_pickY rfl (by first | rfl | assumption) (d_loadD rfl rfl (by first | rfl | (simp only [pdE, cellsD]; rfl))) ?_
    | fail)
      all_goals exact PLe.refl _
  · have g3 : (!decide (f1 = u1)) = true := by simp [hs]
    have g3' : decide (f1 ≠ u1) = true := by simp [hs]
    rw [eqLx_no hx hy (by unfold eqKv; simp [hs])]
    repeat' (first
    | refine run_seq ?_
    | (refine k_pick rfl ?_; first | refine k_assignD rfl rfl ?_ | refine k_moveD rfl rfl ?_ | refine k_bin2B rfl rfl rfl rfl ?_)
    | refine run_opsEnd ?_
    | refine run_region ?_
    | refine run_condT rfl (by first | rfl | assumption) ?_
    | refine run_block ?_
    | refine run_skip ?_
    | refine run_retOk (resOk_tmp rfl rfl ?_)
    | refine run_drawC (by kernel_rfl) ?_
    | refine c_nil (And.intro (by kernel_rfl) ?_)
    | refine c_pick (d_indexAddrD rfl rfl rfl (by first | omega | (dsimp only; omega)) (by assumption)) ?_
    | refine c_pick (d_moveD rfl rfl) ?_
    | refine c_pick (d_fieldAddrB rfl rfl rfl) ?_
    | refine c_pick (d_loadBD rfl rfl rfl (by first | rfl | (simp only [pdE, cellsD]; rfl))) ?_
    | refine c_pick (d_bin2B rfl rfl rfl rfl) ?_
    | refine c_pick (d_pickT rfl rfl (by first | rfl | assumption) rfl) ?_
    | refine c_pick (d_loadD rfl rfl (by first | rfl | (simp only [pdE, cellsD]; rfl))) ?_
    | refine c_passF rfl (by first | rfl | assumption) rfl ?_
    | fail)
    all_goals exact PLe.refl _
set_option maxHeartbeats 8000000 in
theorem eqElems_p (x y : EV) : PCall Tryz.prog 20 [pdE x, pdE y] (.val (.bool (eqE x y))) := by
  have c1 := elemRank_p x
  have c2 := elemRank_p y
  have c4 := eqKeys_p x y
  have c5 := eqSpec_p x.v y.v
  unfold eqE
  unfold pdE at *
  unfold qV at c5
  by_cases h0 : rkE x = rkE y
  rotate_left
  · have g0 : decide (rkE x ≠ rkE y) = true := decide_eq_true h0
    rw [if_pos h0]
    refine pcall_of_run Tryz.func20 rfl Tryz.ntmps20 rfl (fun X => ?_)
    repeat' (first
    | refine run_seq ?_
    | (refine k_pick rfl ?_; first | refine k_assignD rfl rfl ?_ | refine k_boxW rfl rfl rfl (by first | rfl | (simp only [cellsD]; rfl)) ?_)
    | refine run_opsEnd ?_
    | refine run_region ?_
    | refine run_condT rfl (by first | rfl | assumption) ?_
    | refine run_retOk (resOk_tmp rfl rfl ?_)
    | refine run_drawC (by kernel_rfl) ?_
    | refine c_nil (And.intro (by kernel_rfl) ?_)
    | refine c_pick (d_loadW rfl rfl rfl (by first | rfl | (simp only [cellsD]; rfl))) ?_
    | refine c_pick (d_bin2B rfl rfl rfl rfl) ?_
    | refine c_pick (d_call rfl (by kernel_rfl) rfl (by first | exact c1 | exact c2)) ?_
    | fail)
    all_goals exact PLe.refl _
  have g0 : decide (rkE x ≠ rkE y) = false := decide_eq_false (by simp [h0])
  rw [if_neg (by simp [h0])]
  by_cases h1 : rkE x = 1
  · have g1 : decide (rkE x = 1) = true := decide_eq_true h1
    rw [if_pos h1]
    refine pcall_of_run Tryz.func20 rfl Tryz.ntmps20 rfl (fun X => ?_)
    repeat' (first
    | refine run_seq ?_
    | (refine k_pick rfl ?_; first | refine k_assignD rfl rfl ?_ | refine k_loadW rfl rfl rfl (by first | rfl | (simp only [cellsD]; rfl)) ?_ | refine k_bin2B rfl rfl rfl rfl ?_ | refine k_boxW rfl rfl rfl (by first | rfl | (simp only [cellsD]; rfl)) ?_ | refine k_call rfl (by kernel_rfl) rfl (by first | exact c1 | exact c2 | exact c4) ?_)
    | refine run_opsEnd ?_
    | refine run_region ?_
    | refine run_condT rfl (by first | rfl | assumption) ?_
    | refine run_condF rfl (by first | rfl | assumption) ?_
    | refine run_block ?_
    | refine run_skip ?_
    | refine run_retOk (resOk_tmp rfl rfl ?_)
    | refine run_drawC (by kernel_rfl) ?_
    | refine c_nil (And.intro (by kernel_rfl) ?_)
    | refine c_pick (d_loadW rfl rfl rfl (by first | rfl | (simp only [cellsD]; rfl))) ?_
    | refine c_pick (d_bin2B rfl rfl rfl rfl) ?_
    | refine c_pick (d_call rfl (by kernel_rfl) rfl (by first | exact c1 | exact c2 | exact c4)) ?_
    | fail)
    all_goals exact PLe.refl _
  have g1 : decide (rkE x = 1) = false := decide_eq_false h1
  rw [if_neg h1]
  by_cases h2 : rkE x = 2
  · have g2 : decide (rkE x = 2) = true := decide_eq_true h2
    rw [if_pos h2]
    refine pcall_of_run Tryz.func20 rfl Tryz.ntmps20 rfl (fun X => ?_)
    repeat' (first
    | refine run_seq ?_
    | (refine k_pick rfl ?_; first | refine k_assignD rfl rfl ?_ | refine k_fieldAddrB rfl rfl rfl ?_ | refine k_loadW rfl rfl rfl (by first | rfl | (simp only [cellsD]; rfl)) ?_ | refine k_loadBD rfl rfl rfl (by first | rfl | (simp only [cellsD]; rfl)) ?_ | refine k_bin2B rfl rfl rfl rfl ?_ | refine k_boxW rfl rfl rfl (by first | rfl | (simp only [cellsD]; rfl)) ?_ | refine k_call rfl (by kernel_rfl) rfl (by first | exact c1 | exact c2 | exact c5) ?_)
    | refine run_opsEnd ?_
    | refine run_region ?_
    | refine run_condT rfl (by first | rfl | assumption) ?_
    | refine run_condF rfl (by first | rfl | assumption) ?_
    | refine run_block ?_
    | refine run_skip ?_
    | refine run_retOk (resOk_tmp rfl rfl ?_)
    | refine run_drawC (by kernel_rfl) ?_
    | refine c_nil (And.intro (by kernel_rfl) ?_)
    | refine c_pick (d_loadW rfl rfl rfl (by first | rfl | (simp only [cellsD]; rfl))) ?_
    | refine c_pick (d_bin2B rfl rfl rfl rfl) ?_
    | refine c_pick (d_call rfl (by kernel_rfl) rfl (by first | exact c1 | exact c2 | exact c5)) ?_
    | fail)
    all_goals exact PLe.refl _
  have g2 : decide (rkE x = 2) = false := decide_eq_false h2
  rw [if_neg h2]
  by_cases h3 : rkE x = 3
  · have g3 : decide (rkE x = 3) = true := decide_eq_true h3
    rw [if_pos h3]
    refine pcall_of_run Tryz.func20 rfl Tryz.ntmps20 rfl (fun X => ?_)
    repeat' (first
    | refine run_seq ?_
    | (refine k_pick rfl ?_; first | refine k_assignD rfl rfl ?_ | refine k_fieldAddrB rfl rfl rfl ?_ | refine k_loadW rfl rfl rfl (by first | rfl | (simp only [cellsD]; rfl)) ?_ | refine k_loadBD rfl rfl rfl (by first | rfl | (simp only [cellsD]; rfl)) ?_ | refine k_bin2B rfl rfl rfl rfl ?_ | refine k_boxW rfl rfl rfl (by first | rfl | (simp only [cellsD]; rfl)) ?_ | refine k_call rfl (by kernel_rfl) rfl (by first | exact c1 | exact c2) ?_)
    | refine run_opsEnd ?_
    | refine run_region ?_
    | refine run_condT rfl (by first | rfl | assumption) ?_
    | refine run_condF rfl (by first | rfl | assumption) ?_
    | refine run_block ?_
    | refine run_skip ?_
    | refine run_retOk (resOk_tmp rfl rfl ?_)
    | refine run_drawC (by kernel_rfl) ?_
    | refine c_nil (And.intro (by kernel_rfl) ?_)
    | refine c_pick (d_loadW rfl rfl rfl (by first | rfl | (simp only [cellsD]; rfl))) ?_
    | refine c_pick (d_bin2B rfl rfl rfl rfl) ?_
    | refine c_pick (d_call rfl (by kernel_rfl) rfl (by first | exact c1 | exact c2)) ?_
    | fail)
    all_goals exact PLe.refl _
  have g3 : decide (rkE x = 3) = false := decide_eq_false h3
  rw [if_neg h3]
  refine pcall_of_run Tryz.func20 rfl Tryz.ntmps20 rfl (fun X => ?_)
  repeat' (first
    | refine run_seq ?_
    | (refine k_pick rfl ?_; first | refine k_assignD rfl rfl ?_ | refine k_fieldAddrB rfl rfl rfl ?_ | refine k_loadW rfl rfl rfl (by first | rfl | (simp only [cellsD]; rfl)) ?_ | refine k_loadBD rfl rfl rfl (by first | rfl | (simp only [cellsD]; rfl)) ?_ | refine k_bin2B rfl rfl rfl rfl ?_ | refine k_boxW rfl rfl rfl (by first | rfl | (simp only [cellsD]; rfl)) ?_ | refine k_call rfl (by kernel_rfl) rfl (by first | exact c1 | exact c2) ?_)
    | refine run_opsEnd ?_
    | refine run_region ?_
    | refine run_condF rfl (by first | rfl | assumption) ?_
    | refine run_block ?_
    | refine run_blkEnd ?_
    | refine run_skip ?_
    | refine run_retOk (resOk_tmp rfl rfl ?_)
    | refine run_drawC (by kernel_rfl) ?_
    | refine c_nil (And.intro (by kernel_rfl) ?_)
    | refine c_pick (d_loadW rfl rfl rfl (by first | rfl | (simp only [cellsD]; rfl))) ?_
    | refine c_pick (d_bin2B rfl rfl rfl rfl) ?_
    | refine c_pick (d_call rfl (by kernel_rfl) rfl (by first | exact c1 | exact c2)) ?_
    | fail)
  all_goals exact PLe.refl _
end Go.Proofs.YtgmahieoiifpfaaGreat
end
section
set_option linter.unusedVariables false
namespace Go.Proofs.YtgmahieoiifpfaaGreat
open Go.RowKit
set_option linter.unusedSimpArgs false
set_option maxHeartbeats 8000000 in
theorem toKeys_q (x : EV) : PCall Tryz.prog 130 [pdE x] (dvFl (flE x)) := by
  refine pcall_fits fun hfit => ?_
  have b0 := (Fits.aggAt (hfit (pdE x) (by simp)) 3 (d := .sl 6 88 (pdVs x.l)) rfl).sl
  have b1 := b0.1
  have b2 := (Fits.aggAt (hfit (pdE x) (by simp)) 2 (d := .sl 1 16 (pdS x.keys)) rfl).sl.2.1
  clear hfit b0
  have n1 := pdVs_len x.l
  have n2 := pdS_len x.keys
  rw [n1] at b1
  rw [n2] at b2
  have n3 := flE_length x
  refine pcall_of_run Tryz.func130 rfl Tryz.ntmps130 rfl (fun X => ?_)
  unfold pdE
  refine wk ?_
  refine run_loopS (ι := { k : Nat // k ≤ x.keys.length })
    (fun k => [(1, .ptr 1 0), (3, .own 100), (8, .dat (.sl 1 16 (pdS x.keys))), (9, .dat (.val (.int .i64 ((pdS x.keys).length : Nat)))), (10, .dat (.val (.int .i64 (k.1 : Nat))))])
    (fun k => [(1, .box 29 (cellsD (pdE x))), (100, .row 213 2 32 (((flE x).take k.1).map dvFld))]) (fun k => x.keys.length - k.1) ⟨0, Nat.zero_le _⟩ (fun j => if j = 100 then 6 else j) ?_ ?_
  · exact sb
  rintro ⟨k, hk⟩
  by_cases hlt : k < x.keys.length
  · have hc : decide ((k : Int) < (((pdS x.keys).length : Nat) : Int)) = true := decide_eq_true (by omega)
    obtain ⟨key, hkey⟩ : ∃ y, x.keys[k]? = some y := ⟨_, List.getElem?_eq_getElem hlt⟩
    have i1 : (pdS x.keys)[((k : Nat) : Int).toNat]? = some (.val (.string key)) := pdS_at hkey
    by_cases hl : k < x.l.length
    · have hc2 : decide ((k : Int) < (((pdVs x.l).length : Nat) : Int)) = true := decide_eq_true (by omega)
      obtain ⟨y, hy⟩ : ∃ y, x.l[k]? = some y := ⟨_, List.getElem?_eq_getElem hl⟩
      have i2 : (pdVs x.l)[((k : Nat) : Int).toNat]? = some (qV y) := (pdVs_at hy).trans (by rw [pdV_q])
      have c := toValue_q y
      have hf := flE_at x hkey hy
      have e : ((flE x).take (k + 1)).map dvFld = ((flE x).take k).map dvFld ++ [.agg [.val (.string key), dvV (plainJ y)]] := by simp [List.take_add_one, hf, dvFld]
      have hbt : ((((flE x).take k).map dvFld).length + [PD.agg [.val (.string key), dvV (plainJ y)]].length) * 32 ≤ 140737488351232 := by simp; omega
      have hbl : (((flE x).take k).map dvFld).length + [PD.agg [.val (.string key), dvV (plainJ y)]].length ≤ 140737488351232 := by simp; omega
      generalize ((flE x).take k).map dvFld = da at *
      unfold qV at *
      unfold pdE
      refine wk ?_
      refine run_again ?_
      refine ⟨⟨k + 1, by omega⟩, (fun j => if j = 100 then 30 else j), by simp only; omega, ?_⟩
      rw [e]
      exact sb
    · have hc2 : decide ((k : Int) < (((pdVs x.l).length : Nat) : Int)) = false := decide_eq_false (by omega)
      have e : (flE x).take (k + 1) = (flE x).take k := by rw [List.take_of_length_le (by omega), List.take_of_length_le (by omega)]
      unfold pdE
      refine wk ?_
      refine run_again ?_
      refine ⟨⟨k + 1, by omega⟩, id, by simp only; omega, ?_⟩
      simp only [e]
      exact sb
  · have hc : decide ((k : Int) < (((pdS x.keys).length : Nat) : Int)) = false := decide_eq_false (by omega)
    have hkk : (flE x).take k = flE x := List.take_of_length_le (by omega)
    simp only [hkk]
    unfold pdE
    refine run_frz (fun _ => false) (fun k => k == 100) ?_
    unfold dvFl
    exact wke
set_option maxHeartbeats 8000000 in
theorem toElem_q (x : EV) : PCall Tryz.prog 67 [pdE x] (dvPE (toPE x)) := by
  have c1 := toKeys_q x
  have c2 := toValue_q x.v
  unfold toPE
  unfold qV pdE at *
  unfold dvFl at c1
  refine pcall_of_run Tryz.func67 rfl Tryz.ntmps67 rfl (fun X => ?_)
  by_cases h1 : x.kind = 1
  · have g1 : decide (x.kind = 1) = true := decide_eq_true h1
    rw [if_pos h1]
    refine wk ?_
    refine run_frz (fun _ => false) (fun k => k == 3) ?_
    exact wke
  have g1 : decide (x.kind = 1) = false := decide_eq_false h1
  rw [if_neg h1]
  by_cases h2 : x.kind = 2
  · have g2 : decide (x.kind = 2) = true := decide_eq_true h2
    rw [if_pos h2]
    refine wk ?_
    refine run_frz (fun _ => false) (fun k => k == 4) ?_
    exact wke
  have g2 : decide (x.kind = 2) = false := decide_eq_false h2
  rw [if_neg h2]
  by_cases h3 : x.kind = 3
  · have g3 : decide (x.kind = 3) = true := decide_eq_true h3
    rw [if_pos h3]
    refine wk ?_
    refine run_frz (fun _ => false) (fun k => k == 5) ?_
    exact wke
  have g3 : decide (x.kind = 3) = false := decide_eq_false h3
  rw [if_neg h3]
  refine wk ?_
  refine run_frz (fun _ => false) (fun k => k == 6) ?_
  exact wke
set_option maxHeartbeats 8000000 in
theorem cleanE_q (x : EV) : PCall Tryz.prog 92 [pdE x] (pdE (cleanE x)) := by
  have c1 := plainList_q (x.l.take (min x.keys.length x.l.length)) fun y _ => clean_q y
  have c2 := clean_q x.v
  refine pcall_fits fun hfit => ?_
  have b0 := (Fits.aggAt (hfit (pdE x) (by simp)) 3 (d := .sl 6 88 (pdVs x.l)) rfl).sl
  have b1 := b0.1
  have b2 := (Fits.aggAt (hfit (pdE x) (by simp)) 2 (d := .sl 1 16 (pdS x.keys)) rfl).sl.2.1
  clear hfit b0
  have n1 := pdVs_len x.l
  have n2 := pdS_len x.keys
  have e1 : pdVs (x.l.take (min x.keys.length x.l.length)) = ((pdVs x.l).take (min (pdS x.keys).length (pdVs x.l).length)).drop 0 := by rw [n1, n2, pdVs_eq, pdVs_eq]; simp [List.map_take]
  have e2 : pdS (x.keys.take (min x.keys.length x.l.length)) = [] ++ ((pdS x.keys).take (min (pdS x.keys).length (pdVs x.l).length)).drop 0 := by rw [n1, n2]; simp [pdS, List.map_take]
  have m1 : min (pdS x.keys).length (pdVs x.l).length ≤ (pdS x.keys).length := Nat.min_le_left _ _
  have m2 : min (pdS x.keys).length (pdVs x.l).length ≤ (pdVs x.l).length := Nat.min_le_right _ _
  have m3 : (([] : List PD).length + (((pdS x.keys).take (min (pdS x.keys).length (pdVs x.l).length)).drop 0).length) * 16 ≤ 140737488351232 := by simp; omega
  have m4 : ([] : List PD).length + (((pdS x.keys).take (min (pdS x.keys).length (pdVs x.l).length)).drop 0).length ≤ 140737488351232 := by simp; omega
  rw [e1] at c1
  unfold cleanE
  by_cases h1 : x.kind = 1
  · have g1 : decide (x.kind = 1) = true := decide_eq_true h1
    rw [if_pos h1]
    unfold qV pdE at *
    simp only [e2, gNull, GV.kind, GV.n, GV.f, GV.s, GV.keys, GV.l]
    generalize cleanL (x.l.take (min x.keys.length x.l.length)) = cl at *
    clear e1 e2
    refine pcall_of_run Tryz.func92 rfl Tryz.ntmps92 rfl (fun X => ?_)
    refine wk ?_
    refine run_frz (fun _ => false) (fun k => k == 20) ?_
    exact wke
  have g1 : decide (x.kind = 1) = false := decide_eq_false h1
  rw [if_neg h1]
  clear e1 e2 m1 m2 m3 m4 c1 b1 b2
  generalize cleanV x.v = y at *
  unfold qV pdE at *
  refine pcall_of_run Tryz.func92 rfl Tryz.ntmps92 rfl (fun X => ?_)
  by_cases h2 : x.kind = 2
  · have g2 : decide (x.kind = 2) = true := decide_eq_true h2
    rw [if_pos h2]
    exact wke
  have g2 : decide (x.kind = 2) = false := decide_eq_false h2
  rw [if_neg h2]
  by_cases h3 : x.kind = 3
  · have g3 : decide (x.kind = 3) = true := decide_eq_true h3
    rw [if_pos h3]
    exact wke
  have g3 : decide (x.kind = 3) = false := decide_eq_false h3
  rw [if_neg h3]
  exact wke
theorem toElem_v (x : EV) : PCall Tryz.prog 67 [pdE x] (dvPE (toPE x)) := toElem_q x
theorem cleanE_p (x : EV) : PCall Tryz.prog 92 [pdE x] (pdE (cleanE x)) := cleanE_q x
end Go.Proofs.YtgmahieoiifpfaaGreat
end
section
set_option linter.unusedVariables false
namespace Go.Proofs.YtgmahieoiifpfaaGreat
open Go.RowKit
set_option linter.unusedSimpArgs false
theorem fits13_p (x : EV) : ∃ b, PCall Tryz.prog 15 [pdE x] (.val (.bool b)) := by
  have c := fits2_p x.keys
  unfold pdE
  cases h1 : decide ((2147483647 : Int) < (x.s.size : Int)) with
  | true =>
    refine ⟨false, ?_⟩
    refine pcall_of_run Tryz.func15 rfl Tryz.ntmps15 rfl (fun X => ?_)
    repeat' (first
    | refine run_seq ?_
    | (refine k_pick rfl ?_; first | refine k_assignD rfl rfl ?_ | refine k_fieldAddrB rfl rfl rfl ?_ | refine k_loadBD rfl rfl rfl (by first | rfl | (simp only [cellsD]; rfl)) ?_ | refine k_bin2B rfl rfl rfl rfl ?_ | refine k_boxW rfl rfl rfl (by first | rfl | (simp only [cellsD]; rfl)) ?_ | refine k_lenS rfl rfl (by kernel_rfl) ?_)
    | refine run_opsEnd ?_
    | refine run_region ?_
    | refine run_condT rfl (by first | rfl | assumption) ?_
    | refine run_retOk (resOk_tmp rfl rfl ?_)
    | fail)
    all_goals exact PLe.refl _
  | false =>
    cases h2 : fitS x.keys with
    | false =>
      rw [h2] at c
      refine ⟨false, ?_⟩
      refine pcall_of_run Tryz.func15 rfl Tryz.ntmps15 rfl (fun X => ?_)
      repeat' (first
    | refine run_seq ?_
    | (refine k_pick rfl ?_; first | refine k_assignD rfl rfl ?_ | refine k_fieldAddrB rfl rfl rfl ?_ | refine k_loadBD rfl rfl rfl (by first | rfl | (simp only [cellsD]; rfl)) ?_ | refine k_bin2B rfl rfl rfl rfl ?_ | refine k_boxW rfl rfl rfl (by first | rfl | (simp only [cellsD]; rfl)) ?_ | refine k_call rfl (by kernel_rfl) rfl (by first | exact c) ?_ | refine k_lenS rfl rfl (by kernel_rfl) ?_ | refine k_not rfl rfl ?_)
    | refine run_opsEnd ?_
    | refine run_region ?_
    | refine run_condT rfl (by first | rfl | assumption) ?_
    | refine run_condF rfl (by first | rfl | assumption) ?_
    | refine run_skip ?_
    | refine run_retOk (resOk_tmp rfl rfl ?_)
    | fail)
      all_goals exact PLe.refl _
    | true =>
      rw [h2] at c
      cases h3 : decide ((2147483647 : Int) < (((pdVs x.l).length : Nat) : Int)) with
      | true =>
        refine ⟨false, ?_⟩
        refine pcall_of_run Tryz.func15 rfl Tryz.ntmps15 rfl (fun X => ?_)
        repeat' (first
    | refine run_seq ?_
    | (refine k_pick rfl ?_; first | refine k_assignD rfl rfl ?_ | refine k_fieldAddrB rfl rfl rfl ?_ | refine k_loadBD rfl rfl rfl (by first | rfl | (simp only [cellsD]; rfl)) ?_ | refine k_bin2B rfl rfl rfl rfl ?_ | refine k_boxW rfl rfl rfl (by first | rfl | (simp only [cellsD]; rfl)) ?_ | refine k_call rfl (by kernel_rfl) rfl (by first | exact c) ?_ | refine k_lenS rfl rfl (by kernel_rfl) ?_ | refine k_lenD rfl rfl ?_ | refine k_not rfl rfl ?_)
    | refine run_opsEnd ?_
    | refine run_region ?_
    | refine run_condT rfl (by first | rfl | assumption) ?_
    | refine run_condF rfl (by first | rfl | assumption) ?_
    | refine run_skip ?_
    | refine run_retOk (resOk_tmp rfl rfl ?_)
    | fail)
        all_goals exact PLe.refl _
      | false =>
        refine ⟨true, ?_⟩
        refine pcall_of_run Tryz.func15 rfl Tryz.ntmps15 rfl (fun X => ?_)
        repeat' (first
    | refine run_seq ?_
    | (refine k_pick rfl ?_; first | refine k_assignD rfl rfl ?_ | refine k_fieldAddrB rfl rfl rfl ?_ | refine k_loadBD rfl rfl rfl (by first | rfl | (simp only [cellsD]; rfl)) ?_ | refine k_bin2B rfl rfl rfl rfl ?_ | refine k_boxW rfl rfl rfl (by first | rfl | (simp only [cellsD]; rfl)) ?_ | refine k_call rfl (by kernel_rfl) rfl (by first | exact c) ?_ | refine k_lenS rfl rfl (by kernel_rfl) ?_ | refine k_lenD rfl rfl ?_ | refine k_not rfl rfl ?_)
    | refine run_opsEnd ?_
    | refine run_region ?_
    | refine run_condF rfl (by first | rfl | assumption) ?_
    | refine run_skip ?_
    | refine run_retOk (resOk_tmp rfl rfl ?_)
    | fail)
        all_goals exact PLe.refl _
end Go.Proofs.YtgmahieoiifpfaaGreat
end
section
set_option linter.unusedVariables false
namespace Go.Proofs.YtgmahieoiifpfaaGreat
open Go.RowKit
set_option linter.unusedSimpArgs false
section
variable {P : Program} {X : Base} {N : Nat} {Q : Exit → Act → World → Prop} {s s' : Sta}
end
def srtK : List ByteArray → Bool
  | a :: b :: r => decide (cmpS a b < 0) && srtK (b :: r)
  | _ => true
theorem srtK_no : ∀ {ks : List ByteArray} {i : Nat} {a b : ByteArray}, ks[i]? = some a → ks[i + 1]? = some b → 0 ≤ cmpS a b → srtK ks = false
  | [], _, _, _, h, _, _ => by simp at h
  | [_], i, a, b, _, h, _ => by simp at h
  | x :: y :: r, 0, a, b, h, h', hc => by
    simp at h h'
    subst h h'
    unfold srtK
    rw [decide_eq_false (by omega)]; rfl
  | x :: y :: r, i + 1, a, b, h, h', hc => by
    unfold srtK
    rw [srtK_no (ks := y :: r) (i := i) (by simpa using h) (by simpa using h') hc, Bool.and_false]
theorem srtK_yes : ∀ {ks : List ByteArray}, (∀ (i : Nat) (a b : ByteArray), ks[i]? = some a → ks[i + 1]? = some b → cmpS a b < 0) → srtK ks = true
  | [], _ => rfl
  | [_], _ => rfl
  | x :: y :: r, h => by
    unfold srtK
    rw [decide_eq_true (h 0 x y rfl rfl), srtK_yes (ks := y :: r) (fun i a b ha hb => h (i + 1) a b (by simpa using ha) (by simpa using hb))]; rfl
theorem cleanE_keys (x : EV) : (cleanE x).keys.length ≤ x.keys.length := by
  unfold cleanE
  split
  · simp only [List.length_take]; omega
  · split
    · simp
    · split <;> simp
set_option maxHeartbeats 8000000 in
theorem keySorted_p (x : EV) : PCall Tryz.prog 95 [pdE x] (.val (.bool (srtK (cleanE x).keys))) := by
  refine pcall_fits fun hfit => ?_
  have b1 := (Fits.aggAt (hfit (pdE x) (by simp)) 2 (d := .sl 1 16 (pdS x.keys)) rfl).sl.2.1
  rw [pdS_len] at b1
  clear hfit
  have b2 := cleanE_keys x
  have c1 := cleanE_p x
  generalize cleanE x = y at *
  have n1 := pdS_len y.keys
  refine pcall_of_run Tryz.func95 rfl Tryz.ntmps95 rfl (fun X => ?_)
  repeat' (first
    | refine run_seq ?_
    | (refine k_pick rfl ?_; first | refine k_assignD rfl rfl ?_ | refine k_loadW rfl rfl rfl (by first | rfl | (simp only [pdE, cellsD]; rfl)) ?_ | refine k_boxW rfl rfl rfl (by first | rfl | (simp only [pdE, cellsD]; rfl)) ?_ | refine k_call rfl (by kernel_rfl) rfl (by first | exact c1 | (simp only [← pdE]; exact c1)) ?_ | refine k_storeW rfl rfl rfl (by first | rfl | (simp only [pdE, cellsD]; rfl)) (by first | rfl | (simp only [pdE, cellsD]; rfl)) rfl ?_)
    | refine run_opsEnd ?_
    | refine run_region ?_
    | refine run_block ?_
    | fail)
  refine run_loopS (ι := { j : Nat // (j ≤ y.keys.length) ∧ ∀ (i : Nat) (a b : ByteArray), i < j → y.keys[i]? = some a → y.keys[i + 1]? = some b → cmpS a b < 0 })
    (fun j => [(1, .ptr 1 0), (3, .dat (.val (.int .i64 ((j.1 + 1 : Nat) : Int))))])
    (fun j => [(1, .box 29 (cellsD (pdE y)))]) (fun j => y.keys.length - j.1) ⟨0, Nat.zero_le _, fun i _ _ h => absurd h (Nat.not_lt_zero i)⟩ id ?_ ?_
  · (refine ⟨?_, ?_, by rfl⟩ <;> repeat' (first | exact trivial | exact ALe.ptr rfl | exact ALe.own rfl | exact ALe.elt rfl | exact BLe.boxD _ _ | exact BLe.row rfl | exact BLe.res | exact BLe.dead rfl | exact ALe.dat (PLe.refl _) | exact CLe.nil | refine And.intro ?_ ?_ | refine ALe.iface ?_ | refine ALe.clo ?_ | refine CLe.cons ?_ ?_ | refine BLe.box ?_ | refine BLe.row ?_ | exact ALe.any _ | refine ALe.dat (PLe.of_eq ?_)))
  rintro ⟨j, hj, hall⟩
  by_cases hlt : j + 1 < y.keys.length
  rotate_left
  · have g1 : decide (((j + 1 : Nat) : Int) < (((pdS y.keys).length : Nat) : Int)) = false := decide_eq_false (by omega)
    rw [srtK_yes fun i a b ha hb => hall i a b (by have := (List.getElem?_eq_some_iff.1 hb).1; omega) ha hb]
    repeat' (first
    | refine run_seq ?_
    | (refine k_pick rfl ?_; first | refine k_assignD rfl rfl ?_ | refine k_moveD rfl rfl ?_ | refine k_fieldAddrB rfl rfl rfl ?_ | refine k_loadBD rfl rfl rfl (by first | rfl | (simp only [pdE, cellsD]; rfl)) ?_ | refine k_bin2B rfl rfl rfl rfl ?_ | refine k_lenD rfl rfl ?_)
    | refine run_opsEnd ?_
    | refine run_region ?_
    | refine run_condF rfl (by first | rfl | assumption) ?_
    | refine run_exit rfl ?_
    | refine run_retOk (resOk_tmp rfl rfl ?_)
    | fail)
    all_goals exact PLe.refl _
  have g1 : decide (((j + 1 : Nat) : Int) < (((pdS y.keys).length : Nat) : Int)) = true := decide_eq_true (by omega)
  obtain ⟨a, ha⟩ : ∃ u, y.keys[j]? = some u := ⟨_, List.getElem?_eq_getElem (by omega)⟩
  obtain ⟨b, hb⟩ : ∃ u, y.keys[j + 1]? = some u := ⟨_, List.getElem?_eq_getElem hlt⟩
  have i1 : (pdS y.keys)[(((j + 1 : Nat) : Int) - 1).toNat]? = some (.val (.string a)) := by
    rw [show ((((j + 1 : Nat) : Int) - 1).toNat) = j by omega]; exact pdS_at ha
  have i2 := pdS_i hb
  have c2 := sStrs_p a b
  by_cases hs : cmpS a b < 0
  · have g2 : decide (0 ≤ cmpS a b) = false := decide_eq_false (by omega)
    repeat' (first
    | refine run_seq ?_
    | (refine k_pick rfl ?_; first | refine k_assignD rfl rfl ?_ | refine k_moveD rfl rfl ?_ | refine k_fieldAddrB rfl rfl rfl ?_ | refine k_loadBD rfl rfl rfl (by first | rfl | (simp only [pdE, cellsD]; rfl)) ?_ | refine k_bin2B rfl rfl rfl rfl ?_ | refine k_lenD rfl rfl ?_ | refine k_ariI rfl rfl rfl rfl (by first | omega | (dsimp only; omega)) ?_)
    | refine run_opsEnd ?_
    | refine run_region ?_
    | refine run_condT rfl (by first | rfl | assumption) ?_
    | refine run_condF rfl (by first | rfl | assumption) ?_
    | refine run_block ?_
    | refine run_blkEnd ?_
    | refine run_skip ?_
    | refine run_drawC (by kernel_rfl) ?_
    | refine c_nil (And.intro (by kernel_rfl) ?_)
    | refine c_pick (d_indexAddrD rfl rfl rfl (by first | omega | (dsimp only; omega)) (by assumption)) ?_
    | refine c_pick (d_moveD rfl rfl) ?_
    | refine c_pick (d_fieldAddrB rfl rfl rfl) ?_
    | refine c_pick (d_loadBD rfl rfl rfl (by first | rfl | (simp only [pdE, cellsD]; rfl))) ?_
    | refine c_pick (d_bin2B rfl rfl rfl rfl) ?_
    | refine c_pick (d_call rfl (by kernel_rfl) rfl (by first | exact c2 | (simp only [← pdE]; exact c2))) ?_
    | refine c_pick (d_ariI rfl rfl rfl rfl (by first | omega | (dsimp only; omega))) ?_
    | refine c_pick (d_loadD rfl rfl (by first | rfl | (simp only [pdE, cellsD]; rfl))) ?_
    | fail)
    refine run_again ?_
    refine ⟨⟨j + 1, by omega, fun i a' b' hi ha' hb' => ?_⟩, id, by simp only; omega, ?_⟩
    · by_cases e : i = j
      · subst e
        rw [ha] at ha'; rw [hb] at hb'
        cases ha'; cases hb'
        exact hs
      · exact hall i a' b' (by omega) ha' hb'
    (refine ⟨?_, ?_, by rfl⟩ <;> repeat' (first | exact trivial | exact ALe.ptr rfl | exact ALe.own rfl | exact ALe.elt rfl | exact BLe.boxD _ _ | exact BLe.row rfl | exact BLe.res | exact BLe.dead rfl | exact ALe.dat (PLe.refl _) | exact CLe.nil | refine And.intro ?_ ?_ | refine ALe.iface ?_ | refine ALe.clo ?_ | refine CLe.cons ?_ ?_ | refine BLe.box ?_ | refine BLe.row ?_ | exact ALe.any _ | refine ALe.dat (PLe.of_eq ?_)))
  · have g2 : decide (0 ≤ cmpS a b) = true := decide_eq_true (by omega)
    rw [srtK_no ha hb (by omega)]
    repeat' (first
    | refine run_seq ?_
    | (refine k_pick rfl ?_; first | refine k_assignD rfl rfl ?_ | refine k_moveD rfl rfl ?_ | refine k_fieldAddrB rfl rfl rfl ?_ | refine k_loadBD rfl rfl rfl (by first | rfl | (simp only [pdE, cellsD]; rfl)) ?_ | refine k_bin2B rfl rfl rfl rfl ?_ | refine k_lenD rfl rfl ?_)
    | refine run_opsEnd ?_
    | refine run_region ?_
    | refine run_condT rfl (by first | rfl | assumption) ?_
    | refine run_block ?_
    | refine run_skip ?_
    | refine run_retOk (resOk_tmp rfl rfl ?_)
    | refine run_drawC (by kernel_rfl) ?_
    | refine c_nil (And.intro (by kernel_rfl) ?_)
    | refine c_pick (d_indexAddrD rfl rfl rfl (by first | omega | (dsimp only; omega)) (by assumption)) ?_
    | refine c_pick (d_moveD rfl rfl) ?_
    | refine c_pick (d_fieldAddrB rfl rfl rfl) ?_
    | refine c_pick (d_loadBD rfl rfl rfl (by first | rfl | (simp only [pdE, cellsD]; rfl))) ?_
    | refine c_pick (d_bin2B rfl rfl rfl rfl) ?_
    | refine c_pick (d_call rfl (by kernel_rfl) rfl (by first | exact c2 | (simp only [← pdE]; exact c2))) ?_
    | refine c_pick (d_ariI rfl rfl rfl rfl (by first | omega | (dsimp only; omega))) ?_
    | refine c_pick (d_loadD rfl rfl (by first | rfl | (simp only [pdE, cellsD]; rfl))) ?_
    | fail)
    all_goals exact PLe.refl _
/-- spec.OrderlyElem. -/
def ordE (x : EV) : Bool := ordV (cleanE x).v && (ordL (cleanE x).l && srtK (cleanE (cleanE x)).keys)
theorem ordElem_p (x : EV) : PCall Tryz.prog 37 [pdE x] (.val (.bool (ordE x))) := by
  unfold ordE
  have c0 := cleanE_p x
  generalize cleanE x = y at *
  have c1 := ordV_p y.v
  have c2 := ordVals_q y.l
  have c3 := keySorted_p y
  unfold pdE at *
  unfold qV at c1
  generalize ordV y.v = b1 at *
  generalize ordL y.l = b2 at *
  generalize srtK (cleanE y).keys = b3 at *
  refine pcall_of_run Tryz.func37 rfl Tryz.ntmps37 rfl (fun X => ?_)
  cases b1 <;> cases b2
  all_goals
    repeat' (first
    | refine run_seq ?_
    | (refine k_pick rfl ?_; first | refine k_assignD rfl rfl ?_ | refine k_moveD rfl rfl ?_ | refine k_fieldAddrB rfl rfl rfl ?_ | refine k_loadW rfl rfl rfl (by first | rfl | (simp only [cellsD]; rfl)) ?_ | refine k_loadBD rfl rfl rfl (by first | rfl | (simp only [cellsD]; rfl)) ?_ | refine k_pickT rfl rfl (by first | rfl | assumption) rfl ?_ | refine k_pickF rfl rfl (by first | rfl | assumption) rfl ?_ | refine k_boxW rfl rfl rfl (by first | rfl | (simp only [cellsD]; rfl)) ?_ | refine k_call rfl (by kernel_rfl) rfl (by first | exact c0 | exact c1 | exact c2 | exact c3) ?_ | refine k_storeW rfl rfl rfl (by first | rfl | (simp only [cellsD]; rfl)) (by first | rfl | (simp only [cellsD]; rfl)) rfl ?_)
    | refine run_opsEnd ?_
    | refine run_region ?_
    | (refine k_guardY rfl rfl (by first | rfl | assumption) ?_; first | refine k_fieldAddrB rfl rfl rfl ?_ | refine k_loadW rfl rfl rfl (by first | rfl | (simp only [cellsD]; rfl)) ?_ | refine k_loadBD rfl rfl rfl (by first | rfl | (simp only [cellsD]; rfl)) ?_ | refine k_call rfl (by kernel_rfl) rfl (by first | exact c0 | exact c1 | exact c2 | exact c3) ?_)
    | refine k_guardNT rfl rfl (by first | rfl | assumption) rfl ?_
    | refine run_retOk (resOk_tmp rfl rfl ?_)
    | fail)
  all_goals exact PLe.refl _
theorem OPE_ord {x : EV} (h : JPE (toPE x)) (ho : ordE x = true) : OPE (toPE x) := by
  unfold ordE at ho
  simp only [Bool.and_eq_true] at ho
  exact OPE_of h ho.1 ho.2.1
def pdP (l : List EV) : PD := .sl 11 168 (l.map pdE)
set_option maxHeartbeats 8000000 in
theorem ordPaths_p (ps : List (List EV)) : PCall Tryz.prog 21 [.sl 1 24 (ps.map pdP)] (.val (.bool (ps.all fun p => p.all ordE))) := by
  refine pcall_fits fun hfit => ?_
  have b1 := (hfit (.sl 1 24 (ps.map pdP)) (by simp)).sl.2.1
  have b3 : ∀ p ∈ ps, p.length ≤ 140737488351232 := fun p hp => by
    have h := (hfit (.sl 1 24 (ps.map pdP)) (by simp)).sl.2.2 (pdP p) (List.mem_map.2 ⟨p, hp, rfl⟩)
    unfold pdP at h
    simpa using h.sl.2.1
  clear hfit
  have n1 : (ps.map pdP).length = ps.length := by simp
  have ga : ∀ {i : Nat} {p : List EV}, ps[i]? = some p → (ps.map pdP)[((i : Nat) : Int).toNat]? = some (pdP p) := fun h => by simp [h]
  rw [n1] at b1
  generalize ps.map pdP = da at *
  refine pcall_of_run Tryz.func21 rfl Tryz.ntmps21 rfl (fun X => ?_)
  repeat' (first
    | refine run_seq ?_
    | (refine k_pick rfl ?_; first | refine k_assignD rfl rfl ?_ | refine k_moveD rfl rfl ?_ | refine k_lenD rfl rfl ?_)
    | refine run_opsEnd ?_
    | refine run_region ?_
    | refine run_block ?_
    | fail)
  refine run_loopS (ι := { j : Nat // j ≤ ps.length ∧ ∀ i p, i < j → ps[i]? = some p → p.all ordE = true })
    (fun j => [(7, .dat (.sl 1 24 da)), (8, .dat (.val (.int .i64 ((da.length : Nat) : Int)))), (9, .dat (.val (.int .i64 (j.1 : Nat))))])
    (fun _ => []) (fun j => ps.length - j.1) ⟨0, Nat.zero_le _, fun i _ h => absurd h (Nat.not_lt_zero i)⟩ id ?_ ?_
  · (refine ⟨?_, ?_, by rfl⟩ <;> repeat' (first | exact trivial | exact ALe.ptr rfl | exact ALe.own rfl | exact ALe.elt rfl | exact BLe.boxD _ _ | exact BLe.row rfl | exact BLe.res | exact BLe.dead rfl | exact ALe.dat (PLe.refl _) | exact CLe.nil | refine And.intro ?_ ?_ | refine ALe.iface ?_ | refine ALe.clo ?_ | refine CLe.cons ?_ ?_ | refine BLe.box ?_ | refine BLe.row ?_ | exact ALe.any _ | refine ALe.dat (PLe.of_eq ?_)))
  rintro ⟨j, hj, hall⟩
  by_cases hlt : j < ps.length
  rotate_left
  · have g1 : decide ((j : Int) < ((da.length : Nat) : Int)) = false := decide_eq_false (by omega)
    have e : (ps.all fun p => p.all ordE) = true := List.all_eq_true.2 fun p hp => by
      obtain ⟨i, hi⟩ := List.getElem?_of_mem hp
      exact hall i p (by have := (List.getElem?_eq_some_iff.1 hi).1; omega) hi
    rw [e]
    repeat' (first
    | refine run_seq ?_
    | (refine k_pick rfl ?_; first | refine k_assignD rfl rfl ?_ | refine k_bin2B rfl rfl rfl rfl ?_)
    | refine run_opsEnd ?_
    | refine run_region ?_
    | refine run_condF rfl (by first | rfl | assumption) ?_
    | refine run_exit rfl ?_
    | refine run_retOk (resOk_tmp rfl rfl ?_)
    | fail)
    all_goals exact PLe.refl _
  have g1 : decide ((j : Int) < ((da.length : Nat) : Int)) = true := decide_eq_true (by omega)
  obtain ⟨p, hp⟩ : ∃ p, ps[j]? = some p := ⟨_, List.getElem?_eq_getElem hlt⟩
  have i1 := ga hp
  have b2 := b3 p (List.mem_of_getElem? hp)
  have n2 : (p.map pdE).length = p.length := by simp
  have gb : ∀ {i : Nat} {x : EV}, p[i]? = some x → (p.map pdE)[((i : Nat) : Int).toNat]? = some (pdE x) := fun h => by simp [h]
  unfold pdP at i1
  repeat' (first
    | refine run_seq ?_
    | (refine k_pick rfl ?_; first | refine k_indexAddrD rfl rfl rfl (by first | omega | (dsimp only; omega)) (by assumption) ?_ | refine k_assignD rfl rfl ?_ | refine k_moveD rfl rfl ?_ | refine k_bin2B rfl rfl rfl rfl ?_ | refine k_lenD rfl rfl ?_ | refine k_loadD rfl rfl (by first | rfl | (simp only [cellsD]; rfl)) ?_)
    | refine run_opsEnd ?_
    | refine run_region ?_
    | refine run_condT rfl (by first | rfl | assumption) ?_
    | refine run_block ?_
    | refine run_skip ?_
    | fail)
  refine run_loopS (ι := { q : Nat // q ≤ p.length ∧ ∀ i x, i < q → p[i]? = some x → ordE x = true })
    (fun q => [(7, .dat (.sl 1 24 da)), (8, .dat (.val (.int .i64 ((da.length : Nat) : Int)))), (9, .dat (.val (.int .i64 (j : Nat)))), (13, .dat (.sl 11 168 (p.map pdE))), (14, .dat (.val (.int .i64 (((p.map pdE).length : Nat) : Int)))), (15, .dat (.val (.int .i64 (q.1 : Nat))))])
    (fun _ => []) (fun q => p.length - q.1) ⟨0, Nat.zero_le _, fun i _ h => absurd h (Nat.not_lt_zero i)⟩ id ?_ ?_
  · (refine ⟨?_, ?_, by rfl⟩ <;> repeat' (first | exact trivial | exact ALe.ptr rfl | exact ALe.own rfl | exact ALe.elt rfl | exact BLe.boxD _ _ | exact BLe.row rfl | exact BLe.res | exact BLe.dead rfl | exact ALe.dat (PLe.refl _) | exact CLe.nil | refine And.intro ?_ ?_ | refine ALe.iface ?_ | refine ALe.clo ?_ | refine CLe.cons ?_ ?_ | refine BLe.box ?_ | refine BLe.row ?_ | exact ALe.any _ | refine ALe.dat (PLe.of_eq ?_)))
  rintro ⟨q, hq, hallq⟩
  by_cases hltq : q < p.length
  rotate_left
  · have g2 : decide ((q : Int) < (((p.map pdE).length : Nat) : Int)) = false := decide_eq_false (by omega)
    have e : p.all ordE = true := List.all_eq_true.2 fun x hx => by
      obtain ⟨i, hi⟩ := List.getElem?_of_mem hx
      exact hallq i x (by have := (List.getElem?_eq_some_iff.1 hi).1; omega) hi
    repeat' (first
    | refine run_seq ?_
    | (refine k_pick rfl ?_; first | refine k_moveD rfl rfl ?_ | refine k_bin2B rfl rfl rfl rfl ?_ | refine k_ariI rfl rfl rfl rfl (by first | omega | (dsimp only; omega)) ?_)
    | refine run_opsEnd ?_
    | refine run_region ?_
    | refine run_condF rfl (by first | rfl | assumption) ?_
    | refine run_blkEnd ?_
    | refine run_exit rfl ?_
    | fail)
    refine run_again ?_
    refine ⟨⟨j + 1, by omega, fun i p' hi hp' => ?_⟩, id, by simp only; omega, ?_⟩
    · by_cases e' : i = j
      · subst e'
        rw [hp] at hp'; cases hp'
        exact e
      · exact hall i p' (by omega) hp'
    (refine ⟨?_, ?_, by rfl⟩ <;> repeat' (first | exact trivial | exact ALe.ptr rfl | exact ALe.own rfl | exact ALe.elt rfl | exact BLe.boxD _ _ | exact BLe.row rfl | exact BLe.res | exact BLe.dead rfl | exact ALe.dat (PLe.refl _) | exact CLe.nil | refine And.intro ?_ ?_ | refine ALe.iface ?_ | refine ALe.clo ?_ | refine CLe.cons ?_ ?_ | refine BLe.box ?_ | refine BLe.row ?_ | exact ALe.any _ | refine ALe.dat (PLe.of_eq ?_)))
  have g2 : decide ((q : Int) < (((p.map pdE).length : Nat) : Int)) = true := decide_eq_true (by omega)
  obtain ⟨x, hx⟩ : ∃ x, p[q]? = some x := ⟨_, List.getElem?_eq_getElem hltq⟩
  have i2 := gb hx
  have c1 := ordElem_p x
  cases ho : ordE x with
  | true =>
    rw [ho] at c1
    repeat' (first
    | refine run_seq ?_
    | (refine k_pick rfl ?_; first | refine k_indexAddrD rfl rfl rfl (by first | omega | (dsimp only; omega)) (by assumption) ?_ | refine k_moveD rfl rfl ?_ | refine k_loadW rfl rfl rfl (by first | rfl | (simp only [pdE, cellsD]; rfl)) ?_ | refine k_bin2B rfl rfl rfl rfl ?_ | refine k_call rfl (by kernel_rfl) rfl (by first | exact c1 | (simp only [← pdE]; exact c1)) ?_ | refine k_not rfl rfl ?_ | refine k_storeW rfl rfl rfl (by first | rfl | (simp only [pdE, cellsD]; rfl)) (by first | rfl | (simp only [pdE, cellsD]; rfl)) rfl ?_ | refine k_ariI rfl rfl rfl rfl (by first | omega | (dsimp only; omega)) ?_ | refine k_loadD rfl rfl (by first | rfl | (simp only [pdE, cellsD]; rfl)) ?_ | refine k_alloc rfl rfl ?_)
    | refine run_opsEnd ?_
    | refine run_region ?_
    | refine run_condT rfl (by first | rfl | assumption) ?_
    | refine run_condF rfl (by first | rfl | assumption) ?_
    | refine run_block ?_
    | refine run_blkEnd ?_
    | refine run_skip ?_
    | fail)
    refine run_again ?_
    refine ⟨⟨q + 1, by omega, fun i x' hi hx' => ?_⟩, id, by simp only; omega, ?_⟩
    · by_cases e' : i = q
      · subst e'
        rw [hx] at hx'; cases hx'
        exact ho
      · exact hallq i x' (by omega) hx'
    (refine ⟨?_, ?_, by rfl⟩ <;> repeat' (first | exact trivial | exact ALe.ptr rfl | exact ALe.own rfl | exact ALe.elt rfl | exact BLe.boxD _ _ | exact BLe.row rfl | exact BLe.res | exact BLe.dead rfl | exact ALe.dat (PLe.refl _) | exact CLe.nil | refine And.intro ?_ ?_ | refine ALe.iface ?_ | refine ALe.clo ?_ | refine CLe.cons ?_ ?_ | refine BLe.box ?_ | refine BLe.row ?_ | exact ALe.any _ | refine ALe.dat (PLe.of_eq ?_)))
  | false =>
    rw [ho] at c1
    have e : (ps.all fun p => p.all ordE) = false := List.all_eq_false.2 ⟨p, List.mem_of_getElem? hp, by
      simp only [Bool.not_eq_true]
      exact List.all_eq_false.2 ⟨x, List.mem_of_getElem? hx, by simp [ho]⟩⟩
    rw [e]
    repeat' (first
    | refine run_seq ?_
    | (refine k_pick rfl ?_; first | refine k_indexAddrD rfl rfl rfl (by first | omega | (dsimp only; omega)) (by assumption) ?_ | refine k_assignD rfl rfl ?_ | refine k_loadW rfl rfl rfl (by first | rfl | (simp only [pdE, cellsD]; rfl)) ?_ | refine k_bin2B rfl rfl rfl rfl ?_ | refine k_call rfl (by kernel_rfl) rfl (by first | exact c1 | (simp only [← pdE]; exact c1)) ?_ | refine k_not rfl rfl ?_ | refine k_storeW rfl rfl rfl (by first | rfl | (simp only [pdE, cellsD]; rfl)) (by first | rfl | (simp only [pdE, cellsD]; rfl)) rfl ?_ | refine k_loadD rfl rfl (by first | rfl | (simp only [pdE, cellsD]; rfl)) ?_ | refine k_alloc rfl rfl ?_)
    | refine run_opsEnd ?_
    | refine run_region ?_
    | refine run_condT rfl (by first | rfl | assumption) ?_
    | refine run_block ?_
    | refine run_skip ?_
    | refine run_retOk (resOk_tmp rfl rfl ?_)
    | fail)
    all_goals exact PLe.refl _
theorem tame_p (p : List EV) : PCall Tryz.prog 17 [pdP p] (.val (.bool (p.all ordE))) := by
  have c := ordPaths_p [p]
  rw [show ([p].all fun p => p.all ordE) = p.all ordE by simp, show [p].map pdP = [pdP p] from rfl] at c
  unfold pdP at *
  refine pcall_of_run Tryz.func17 rfl Tryz.ntmps17 rfl (fun X => ?_)
  repeat' (first
    | refine run_seq ?_
    | (refine k_pick rfl ?_; first | refine k_buildSliceF rfl (by kernel_rfl) rfl rfl rfl rfl rfl ?_ | refine k_assignD rfl rfl ?_ | refine k_moveD rfl rfl ?_ | refine k_call rfl (by kernel_rfl) rfl (by first | exact c) ?_)
    | refine run_opsEnd ?_
    | refine run_region ?_
    | refine run_retOk (resOk_tmp rfl rfl ?_)
    | fail)
  all_goals exact PLe.refl _
theorem dvPE_agg (p : PEV) : ∃ d0 d1 d2 d3, dvPE p = .agg [d0, d1, d2, d3] := by cases p <;> exact ⟨_, _, _, _, rfl⟩
end Go.Proofs.YtgmahieoiifpfaaGreat
end
section
set_option linter.unusedVariables false
namespace Go.Proofs.YtgmahieoiifpfaaGreat
set_option linter.unusedSimpArgs false
section
variable {α : Type} (c : α → α → Int)
/-- Putting p into the sorted list. -/
def insL_ : List α → α → List α
  | [], p => [p]
  | m :: r, p => if c m p < 0 then m :: insL_ r p else if c m p = 0 then m :: r else p :: m :: r
def locL_ : List α → α → Nat
  | [], _ => 0
  | m :: r, p => if c m p < 0 then locL_ r p + 1 else 0
def fndL_ : List α → α → Bool
  | [], _ => false
  | m :: r, p => if c m p < 0 then fndL_ r p else decide (c m p = 0)
variable {c}
theorem locL_le : ∀ (l : List α) (p : α), locL_ c l p ≤ l.length
  | [], _ => Nat.le_refl _
  | m :: r, p => by
    unfold locL_
    split
    · simpa using locL_le r p
    · simp
theorem locL_lt : ∀ (l : List α) (p : α) (i : Nat) (x : α), i < locL_ c l p → l[i]? = some x → c x p < 0
  | [], _, _, _, h, _ => by simp [locL_] at h
  | m :: r, p, i, x, h, hx => by
    unfold locL_ at h
    by_cases h' : c m p < 0
    · rw [if_pos h'] at h
      cases i with
      | zero => simp at hx; subst hx; exact h'
      | succ i => exact locL_lt r p i x (by omega) (by simpa using hx)
    · rw [if_neg h'] at h; omega
/-- Sorted: each stands before all behind it. -/
def Srt (c : α → α → Int) (l : List α) : Prop := l.Pairwise fun a b => c a b < 0
structure OrdL (c : α → α → Int) (P : α → Prop) : Prop where
  tri : ∀ x y z, P x → P y → P z → Tri (c x y) (c y z) (c x z)
  swp : ∀ x y, P x → P y → c y x = - c x y
theorem fndL_at : ∀ (l : List α) (p : α), fndL_ c l p = match l[locL_ c l p]? with | some x => decide (c x p = 0) | none => false
  | [], _ => rfl
  | m :: r, p => by
    unfold fndL_ locL_
    by_cases h : c m p < 0
    · rw [if_pos h, if_pos h, fndL_at r p]
      simp
    · rw [if_neg h, if_neg h]
      rfl
theorem sins_mem : ∀ {l : List α} {p x : α}, x ∈ insL_ c l p → x = p ∨ x ∈ l
  | [], p, x, h => by simp [insL_] at h; exact .inl h
  | m :: r, p, x, h => by
    unfold insL_ at h
    split at h
    · rcases List.mem_cons.1 h with h | h
      · exact .inr (by simp [h])
      · rcases sins_mem h with h | h
        · exact .inl h
        · exact .inr (by simp [h])
    · split at h
      · exact .inr h
      · rcases List.mem_cons.1 h with h | h
        · exact .inl h
        · exact .inr h
variable {P : α → Prop}
theorem sins_P {l : List α} {p : α} (hl : ∀ x ∈ l, P x) (hp : P p) : ∀ x ∈ insL_ c l p, P x := fun x hx => by
  rcases sins_mem hx with rfl | h
  · exact hp
  · exact hl x h
theorem OrdL.self (O : OrdL c P) {x : α} (hx : P x) : c x x = 0 := by
  have := O.swp x x hx hx
  omega
theorem OrdL.lt (O : OrdL c P) {x y z : α} (hx : P x) (hy : P y) (hz : P z) (h : c x y < 0) (h' : c y z < 0) : c x z < 0 := by
  obtain ⟨h1, h2, h3, h4, h5, h6, h7⟩ := O.tri x y z hx hy hz
  have := h6 (by omega) (by omega)
  omega
theorem sins_srt (O : OrdL c P) : ∀ {l : List α} {p : α}, (∀ x ∈ l, P x) → P p → Srt c l → Srt c (insL_ c l p)
  | [], p, _, _, _ => by simp [insL_, Srt]
  | m :: r, p, hl, hp, hs => by
    have hm : P m := hl m (by simp)
    have hr : ∀ x ∈ r, P x := fun x hx => hl x (by simp [hx])
    unfold Srt at hs
    rw [List.pairwise_cons] at hs
    unfold insL_
    by_cases h : c m p < 0
    · rw [if_pos h]
      unfold Srt
      rw [List.pairwise_cons]
      refine ⟨fun x hx => ?_, sins_srt O hr hp hs.2⟩
      rcases sins_mem hx with rfl | hx
      · exact h
      · exact hs.1 x hx
    · rw [if_neg h]
      by_cases h' : c m p = 0
      · rw [if_pos h']
        unfold Srt
        rw [List.pairwise_cons]
        exact hs
      · rw [if_neg h']
        have hpm : c p m < 0 := by
          have := O.swp m p hm hp
          omega
        unfold Srt
        rw [List.pairwise_cons, List.pairwise_cons]
        refine ⟨fun x hx => ?_, hs⟩
        rcases List.mem_cons.1 hx with rfl | hx
        · exact hpm
        · exact O.lt hp hm (hr x hx) hpm (hs.1 x hx)
/-- Behind one that does not stand before p, in a sorted list, none equals p or stands before it. -/
theorem srt_gt (O : OrdL c P) {m : α} {r : List α} {p : α} (hm : P m) (hr : ∀ x ∈ r, P x) (hp : P p) (hs : Srt c (m :: r)) (h : ¬ c m p < 0) : ∀ x ∈ r, 0 < c x p := by
  intro x hx
  unfold Srt at hs
  rw [List.pairwise_cons] at hs
  have h1 := hs.1 x hx
  have hP := hr x hx
  obtain ⟨a1, a2, a3, a4, a5, a6, a7⟩ := O.tri x m p hP hm hp
  have := O.swp m x hm hP
  by_cases h0 : c m p = 0
  · have := a5 h0; omega
  · have := a7 (by omega) (by omega); omega
theorem locL_ge (O : OrdL c P) : ∀ {l : List α} {p : α}, (∀ x ∈ l, P x) → P p → Srt c l → ∀ (i : Nat) (x : α), locL_ c l p ≤ i → l[i]? = some x → ¬ c x p < 0
  | [], _, _, _, _, _, _, _, hx => by simp at hx
  | m :: r, p, hl, hp, hs, i, x, hi, hx => by
    have hm : P m := hl m (by simp)
    have hr : ∀ x ∈ r, P x := fun x hx => hl x (by simp [hx])
    unfold locL_ at hi
    by_cases h : c m p < 0
    · rw [if_pos h] at hi
      cases i with
      | zero => omega
      | succ i => exact locL_ge O hr hp (by unfold Srt at hs ⊢; exact (List.pairwise_cons.1 hs).2) i x (by omega) (by simpa using hx)
    · cases i with
      | zero => simp at hx; subst hx; exact h
      | succ i =>
        have := srt_gt O hm hr hp hs h x (List.mem_of_getElem? (by simpa using hx))
        omega
end
theorem ordPE : OrdL cmpPE OPE := ⟨fun _ _ _ => tri_PE, fun _ _ h h' => swap_PE h.j h'.j⟩
end Go.Proofs.YtgmahieoiifpfaaGreat
end
section
set_option linter.unusedVariables false
namespace Go.Proofs.YtgmahieoiifpfaaGreat
open Go.RowKit
set_option linter.unusedSimpArgs false
theorem setRow_oth {w : World} {g b : Nat} {cs : Array Value} (h : b ≠ g) : (w.setRow g cs).heap[b]? = w.heap[b]? := by
  unfold World.setRow
  simp only
  rw [Array.getElem?_modify, if_neg (fun e => h e.symm)]
theorem setRow_size {w : World} {g : Nat} {cs : Array Value} : (w.setRow g cs).heap.size = w.heap.size := by
  unfold World.setRow
  simp
theorem row_cell {w : World} {g : Nat} {cur : Array Value} {t : TypeId} {fz : Nat × Nat} (h : w.heap[g]? = some (.cells cur t fz)) {j : Nat} {u : Value} (hu : cur.toList[j]? = some u) : w.cell? ⟨g, j, none⟩ = some u := by
  rw [Array.getElem?_toList] at hu
  simp [World.cell?, h, hu]
end Go.Proofs.YtgmahieoiifpfaaGreat
end
section
set_option linter.unusedVariables false
namespace Go.Proofs.YtgmahieoiifpfaaGreat
open Go.RowKit
set_option linter.unusedSimpArgs false
section
variable {P : Program} {X : Base} {N : Nat} {Q : Exit → Act → World → Prop} {ops : Array Oper} {rem : List Nat} {ks : List Itm} {s s' : Sta}
/-- A conversion between whole numbers whose outcome is known. -/
theorem op_convE {o : Oper} (hd : dstOk X.N o.dst = true) {t t' : TypeId} {x : Operand} (ho : o.op = .convert t t' x) {k k' : IntKind} {i b : Int} (hx : s.ev x = .dat (.val (.int k i))) (ht : intT P t' = some k') (ht0 : anyT P t = true) (hw : k'.wrap i = b) :
    OpS P X o s (s.put o.dst (.dat (.val (.int k' b)))) := by
  rw [← hw]
  exact op_convI hd ho hx ht ht0
theorem k_convE {d : Nat} {x : Operand} {t t' : Nat} {k k' : IntKind} {a b : Int} (hN : Nat.blt d N = true) (hx : s.ev x = .dat (.val (.int k a))) (ht : intT P t' = some k') (ht0 : anyT P t = true) (hw : k'.wrap a = b) (h : Run P X N Q (.ops ops rem :: ks) (s.put (some d) (.dat (.val (.int k' b))))) : RunK P X N Q ops rem ks (some d) (.convert t t' x) s := k_of hN (fun _ _ _ hd => op_convE hd rfl hx ht ht0 hw) h
/-- A whole number halved by a shift. -/
theorem op_shr1 {o : Oper} (hd : dstOk X.N o.dst = true) {t t' : TypeId} {x y : Operand} (ho : o.op = .binOp .shr t x y t') {k2 : IntKind} {a b : Int} (hx : s.ev x = .dat (.val (.int .u64 a))) (hy : s.ev y = .dat (.val (.int k2 1))) (hb : a / 2 = b) (hw : (Lit.int .u64 b).wf = true) :
    OpS P X o s (s.put o.dst (.dat (.val (.int .u64 b)))) := by
  refine op_bin hd ho hx hy (fun w => ?_) hw
  have e : a.fdiv 2 = b := by rw [Int.fdiv_eq_ediv_of_nonneg _ (by omega)]; exact hb
  simp [eqGuard, binOp, Op.shift, IntKind.bits, e]
theorem k_shr1 {d : Nat} {x y : Operand} {t t' : Nat} {k2 : IntKind} {a b : Int} (hN : Nat.blt d N = true) (hx : s.ev x = .dat (.val (.int .u64 a))) (hy : s.ev y = .dat (.val (.int k2 1))) (hb : a / 2 = b) (hw : (Lit.int .u64 b).wf = true) (h : Run P X N Q (.ops ops rem :: ks) (s.put (some d) (.dat (.val (.int .u64 b))))) : RunK P X N Q ops rem ks (some d) (.binOp .shr t x y t') s := k_of hN (fun _ _ _ hd => op_shr1 hd rfl hx hy hb hw) h
end
theorem Flat.tup2 {u v : Value} : Flat (.tup [.val u, .val v]) := fun w w' F F' x h => by
  unfold Rep at h ⊢
  obtain ⟨vs, e, h⟩ := h
  refine ⟨vs, e, ?_⟩
  simp only [Reps] at h ⊢
  unfold Rep at h ⊢
  exact h
end Go.Proofs.YtgmahieoiifpfaaGreat
end
section
set_option linter.unusedVariables false
namespace Go.Proofs.YtgmahieoiifpfaaGreat
set_option linter.unusedSimpArgs false
section
variable {α β : Type} (c : α → α → Int)
/-- Putting j under p. -/
def insM : List (α × β) → α → β → List (α × β)
  | [], p, j => [(p, j)]
  | m :: r, p, j => if c m.1 p < 0 then m :: insM r p j else if c m.1 p = 0 then (m.1, j) :: r else (p, j) :: m :: r
def getR : List (α × β) → α → Option β
  | [], _ => none
  | m :: r, p => if c m.1 p < 0 then getR r p else if c m.1 p = 0 then some m.2 else none
def mapOf (l : List (α × β)) : List (α × β) := l.foldl (fun m e => insM c m e.1 e.2) []
variable {c}
theorem insM_keys : ∀ (m : List (α × β)) (p : α) (j : β), (insM c m p j).map (·.1) = insL_ c (m.map (·.1)) p
  | [], p, j => rfl
  | m :: r, p, j => by
    unfold insM
    rw [List.map_cons]
    unfold insL_
    by_cases h : c m.1 p < 0
    · rw [if_pos h, if_pos h, List.map_cons, insM_keys r p j]
    · rw [if_neg h, if_neg h]
      by_cases h' : c m.1 p = 0
      · rw [if_pos h', if_pos h']; rfl
      · rw [if_neg h', if_neg h']; rfl
theorem insM_fnd : ∀ (m : List (α × β)) (p : α) (j : β), fndL_ c (m.map (·.1)) p = true → ∃ x, m[locL_ c (m.map (·.1)) p]? = some x ∧ insM c m p j = m.set (locL_ c (m.map (·.1)) p) (x.1, j) ∧ getR c m p = some x.2
  | [], p, j, h => by cases h
  | m :: r, p, j, h => by
    rw [List.map_cons] at h ⊢
    unfold fndL_ at h
    unfold insM locL_ getR
    by_cases h1 : c m.1 p < 0
    · rw [if_pos h1] at h
      rw [if_pos h1, if_pos h1, if_pos h1]
      obtain ⟨x, g1, g2, g3⟩ := insM_fnd r p j h
      exact ⟨x, by simpa using g1, by rw [g2]; rfl, g3⟩
    · rw [if_neg h1] at h
      have h2 : c m.1 p = 0 := by simpa using h
      rw [if_neg h1, if_neg h1, if_neg h1, if_pos h2, if_pos h2]
      exact ⟨m, rfl, rfl, rfl⟩
theorem insM_not : ∀ (m : List (α × β)) (p : α) (j : β), fndL_ c (m.map (·.1)) p = false → insM c m p j = m.take (locL_ c (m.map (·.1)) p) ++ (p, j) :: m.drop (locL_ c (m.map (·.1)) p) ∧ getR c m p = none
  | [], p, j, h => ⟨rfl, rfl⟩
  | m :: r, p, j, h => by
    rw [List.map_cons] at h ⊢
    unfold fndL_ at h
    unfold insM locL_ getR
    by_cases h1 : c m.1 p < 0
    · rw [if_pos h1] at h
      rw [if_pos h1, if_pos h1, if_pos h1]
      obtain ⟨g1, g2⟩ := insM_not r p j h
      exact ⟨by rw [g1]; rfl, g2⟩
    · rw [if_neg h1] at h
      have h2 : ¬ c m.1 p = 0 := by simpa using h
      rw [if_neg h1, if_neg h1, if_neg h1, if_neg h2, if_neg h2]
      exact ⟨rfl, rfl⟩
theorem insM_len : ∀ (m : List (α × β)) (p : α) (j : β), (insM c m p j).length ≤ m.length + 1
  | [], p, j => by simp [insM]
  | m :: r, p, j => by
    unfold insM
    have := insM_len r p j
    split
    · simp; omega
    · split <;> simp
variable {P : α → Prop}
theorem get_same (O : OrdL c P) : ∀ (m : List (α × β)) {p : α} (j : β), P p → getR c (insM c m p j) p = some j
  | [], p, j, hp => by
    have h := O.self hp
    simp [insM, getR, h]
  | m :: r, p, j, hp => by
    unfold insM
    by_cases h1 : c m.1 p < 0
    · rw [if_pos h1]
      unfold getR
      rw [if_pos h1]
      exact get_same O r j hp
    · rw [if_neg h1]
      by_cases h2 : c m.1 p = 0
      · rw [if_pos h2]
        unfold getR
        simp only
        rw [if_neg h1, if_pos h2]
      · rw [if_neg h2]
        have h := O.self hp
        unfold getR
        simp only
        rw [if_neg (by omega), if_pos h]
theorem get_other (O : OrdL c P) : ∀ (m : List (α × β)) {p q : α} (j : β), (∀ x ∈ m, P x.1) → P p → P q → c p q ≠ 0 → getR c (insM c m p j) q = getR c m q
  | [], p, q, j, _, hp, hq, h => by
    unfold insM getR
    simp only
    split
    · rfl
    · first | rfl | (rw [if_neg h]; rfl)
  | m :: r, p, q, j, hm, hp, hq, h => by
    have hm1 : P m.1 := hm m (by simp)
    have hr : ∀ x ∈ r, P x.1 := fun x hx => hm x (by simp [hx])
    unfold insM
    by_cases h1 : c m.1 p < 0
    · rw [if_pos h1]
      unfold getR
      rw [get_other O r j hr hp hq h]
    · rw [if_neg h1]
      by_cases h2 : c m.1 p = 0
      · rw [if_pos h2]
        have e : c m.1 q = c p q := (O.tri m.1 p q hm1 hp hq).zp h2
        unfold getR
        simp only
        rw [e]
        split
        · rfl
        · first | rfl | rw [if_neg h, if_neg h]
      · rw [if_neg h2]
        have hpm : c p m.1 < 0 := by
          have := O.swp m.1 p hm1 hp
          omega
        by_cases h3 : c p q < 0
        · show (if c p q < 0 then getR c (m :: r) q else if c p q = 0 then some j else none) = _
          rw [if_pos h3]
        · show (if c p q < 0 then getR c (m :: r) q else if c p q = 0 then some j else none) = _
          rw [if_neg h3, if_neg h]
          have hqp : c q p < 0 := by
            have := O.swp p q hp hq
            have := (O.tri p q q hp hq hq).rp
            omega
          have hqm := O.lt hq hp hm1 hqp hpm
          have := O.swp q m.1 hq hm1
          unfold getR
          rw [if_neg (by omega), if_neg (by omega)]
theorem mapOf_inv (O : OrdL c P) : ∀ (l acc : List (α × β)), (∀ x ∈ l, P x.1) → (∀ x ∈ acc.map (·.1), P x) → Srt c (acc.map (·.1)) → (∀ x ∈ (l.foldl (fun m e => insM c m e.1 e.2) acc).map (·.1), P x) ∧ Srt c ((l.foldl (fun m e => insM c m e.1 e.2) acc).map (·.1)) ∧ (l.foldl (fun m e => insM c m e.1 e.2) acc).length ≤ acc.length + l.length
  | [], acc, _, h, hs => ⟨h, hs, by simp⟩
  | e :: r, acc, hl, h, hs => by
    have he : P e.1 := hl e (by simp)
    obtain ⟨h1, h2, h3⟩ := mapOf_inv O r (insM c acc e.1 e.2) (fun x hx => hl x (by simp [hx])) (by rw [insM_keys]; exact sins_P h he) (by rw [insM_keys]; exact sins_srt O h he hs)
    rw [List.foldl_cons]
    refine ⟨h1, h2, ?_⟩
    have := insM_len (c := c) acc e.1 e.2
    simp only [List.length_cons]
    omega
theorem mapOf_P (O : OrdL c P) {l : List (α × β)} (hl : ∀ x ∈ l, P x.1) : ∀ x ∈ (mapOf c l).map (·.1), P x := (mapOf_inv O l [] hl (by simp) (by simp [Srt])).1
theorem mapOf_srt (O : OrdL c P) {l : List (α × β)} (hl : ∀ x ∈ l, P x.1) : Srt c ((mapOf c l).map (·.1)) := (mapOf_inv O l [] hl (by simp) (by simp [Srt])).2.1
theorem mapOf_len (O : OrdL c P) {l : List (α × β)} (hl : ∀ x ∈ l, P x.1) : (mapOf c l).length ≤ l.length := by
  have := (mapOf_inv O l [] hl (by simp) (by simp [Srt])).2.2
  unfold mapOf
  simpa using this
theorem mapOf_app (l : List (α × β)) (e : α × β) : mapOf c (l ++ [e]) = insM c (mapOf c l) e.1 e.2 := by
  unfold mapOf
  rw [List.foldl_append]
  rfl
end
end Go.Proofs.YtgmahieoiifpfaaGreat
end
section
set_option linter.unusedVariables false
namespace Go.Proofs.YtgmahieoiifpfaaGreat
open Go.RowKit
set_option linter.unusedSimpArgs false
theorem Tryz.infoPV : ∃ i, Tryz.prog.info? 268 = some i ∧ i.zero = some (.agg #[.pointer none, .pointer none, .pointer none, .pointer none, .nilIface]) ∧ i.size = 5 ∧ i.bytes = 48 := by
  have h : (Tryz.prog.info? 268).map (fun i => (i.zero, i.size, i.bytes)) = some (some (.agg #[.pointer none, .pointer none, .pointer none, .pointer none, .nilIface]), 5, 48) := by kernel_rfl
  cases hq : Tryz.prog.info? 268 with
  | none => rw [hq] at h; cases h
  | some i =>
    rw [hq] at h
    simp only [Option.map_some, Option.some.injEq, Prod.mk.injEq] at h
    exact ⟨i, rfl, h.1, h.2.1, h.2.2⟩
set_option maxHeartbeats 4000000 in
set_option maxRecDepth 100000 in
/-- At the end. -/
theorem insPV_end (w : World) (base : Nat) (v : Value) (g2 c2 len : Nat) (xs news : List Value) (hv : w.ownsRow base 268 5 v len xs) (hu : w.ownsRow base 268 5 (.slice (some ⟨g2, 0, none⟩) 1 c2) 1 news)
    (hb : (len + 1) * 48 ≤ 140737488351232) (hl : len + 1 ≤ 140737488351232) (hw : base ≤ w.heap.size) (h1 : ∀ c ∈ news, c.oneCell' = true) :
    Calls Tryz.prog 192 #[v, .int .i64 (len : Int), .slice (some ⟨g2, 0, none⟩) 1 c2] w fun e' w' => ∃ v', e' = .returned v' ∧ w'.ownsRow base 268 5 v' (len + 1) (xs ++ news) ∧ w.grownBy w' v.ownBlock ∧ (∀ b, blkOf v' = some b → w.heap.size ≤ b ∨ v.ownBlock = some b) := by
  obtain ⟨inf, hi, hz, hs, hy⟩ := Tryz.infoPV
  have hnews : news.length = 1 * 5 := hu.1
  have hlies : Lies w g2 0 news := fun j u hj => by
    have := hu.cells (g := g2) rfl j u hj
    rwa [Addr_add] at this
  obtain ⟨v', w', hr, r1, r2, r3⟩ := run_append_row (P := Tryz.prog) base 87 87 268 inf _ 5 48 Tryz.underlying87 hi hz hs hy rfl (by omega) hv (ad := some ⟨g2, 0, none⟩) (m := 1) (c := c2) hnews (.inr ⟨g2, 0, rfl, hlies⟩) h1 (by unfold maxLen; omega) (by omega) hw
  obtain ⟨a, c, rfl⟩ : ∃ a c, v = .slice a len c := by
    rcases hv.2 with ⟨rfl, rfl⟩ | ⟨g, cap, cur, rfl, _⟩
    · exact ⟨_, _, rfl⟩
    · exact ⟨_, _, rfl⟩
  have hc : len ≤ c := by
    rcases hv.2 with ⟨e, e2⟩ | ⟨g, cap, cur, e, _, _, h, _⟩
    · omega
    · injection e with _ _ e; omega
  rw [← append_types Tryz.underlying87 Tryz.underlying86] at hr
  have HR := Lib.hid (And.intro r1 (And.intro r2 r3))
  clear r1 r2 r3 hv hu hlies
  generalize (Value.slice a len c).ownBlock = ob at *
  go_enter Tryz.func192, Tryz.ntmps192
  go_wp2_with (at_builtin; refine Lib.wpList_append_run _ rfl _ _ _ _ rfl _ _ rfl rfl _ _ hr ?_)
  all_goals
    go_ret
    obtain ⟨r1, r2, r3⟩ := HR.out
    exact ⟨_, rfl, r1, r2, r3⟩
theorem lv1 {α : Type} (xs rest : List α) {p q r : Nat} (hp : p + 5 ≤ xs.length) (hq : p + 5 + r = xs.length + 5) (hq2 : q = p + 5 := by omega) : (xs ++ rest).take q ++ xs.drop p ++ (xs ++ rest).drop (q + r) = xs.take (p + 5) ++ xs.drop p ++ rest.drop 5 := by
  subst hq2
  have e : (xs ++ rest).drop (xs.length + 5) = rest.drop 5 := by
    rw [List.drop_append, List.drop_eq_nil_of_le (Nat.le_add_right _ _), List.nil_append, Nat.add_sub_cancel_left]
  rw [List.take_append_of_le_length hp, hq, e]
theorem lv2 {α : Type} (xs rest news : List α) {p : Nat} (hp : p + 5 ≤ xs.length) : (xs.take (p + 5) ++ xs.drop p ++ rest.drop 5).take p ++ news ++ (xs.take (p + 5) ++ xs.drop p ++ rest.drop 5).drop (p + 5) = xs.take p ++ news ++ xs.drop p ++ rest.drop 5 := by
  rw [List.append_assoc (xs.take (p + 5)), List.drop_left' (by simp; omega), List.take_append_of_le_length (by simp; omega), List.take_take, Nat.min_eq_left (by omega)]
  simp
set_option maxHeartbeats 4000000 in
set_option maxRecDepth 100000 in
/-- Ahead of others, where there is room. -/
theorem insPV_room (w : World) (base g cap g2 c2 len i : Nat) (cur : Array Value) (xs rest news : List Value) (hbg : base ≤ g) (hg : w.heap[g]? = some (.cells cur 268 (0, 0))) (hcm : cap ≤ maxLen) (hcs : cur.size = cap * 5) (hcur : cur.toList = xs ++ rest) (hxs : xs.length = len * 5)
    (hu : w.ownsRow base 268 5 (.slice (some ⟨g2, 0, none⟩) 1 c2) 1 news) (hne : g2 ≠ g) (hi : i < len) (hroom : len + 1 ≤ cap)
    (hl : len + 1 ≤ 140737488351232) (h1x : ∀ c ∈ xs, c.oneCell' = true) (h1 : ∀ c ∈ news, c.oneCell' = true) :
    Calls Tryz.prog 192 #[.slice (some ⟨g, 0, none⟩) len cap, .int .i64 (i : Int), .slice (some ⟨g2, 0, none⟩) 1 c2] w fun e' w' => ∃ v', e' = .returned v' ∧ w'.ownsRow base 268 5 v' (len + 1) (xs.take (i * 5) ++ news ++ xs.drop (i * 5)) ∧ w.grownBy w' (some g) ∧ (∀ b, blkOf v' = some b → w.heap.size ≤ b ∨ (some g) = some b) := by
  obtain ⟨inf, hinf, hz, hs, hy⟩ := Tryz.infoPV
  have hsz : (Tryz.prog.info? 268).map (·.size) = some 5 := by rw [hinf]; simp [hs]
  have hrl : rest.length = (cap - len) * 5 := by
    have := congrArg List.length hcur
    simp only [Array.length_toList, List.length_append] at this
    omega
  have hnews : news.length = 5 := by have := hu.1; omega
  obtain ⟨cur2, hg2, hc2⟩ : ∃ cur2, w.heap[g2]? = some (.cells cur2 268 (0, 0)) ∧ cur2.toList.take 5 = news ∧ cur2.size ≠ 0 := by
    rcases hu.2 with ⟨e, _⟩ | ⟨g', cap', cur', e, _, h1, h2, h3, h4, h5⟩
    · cases e
    · injection e with e1 _ _
      injection e1 with e1
      injection e1 with e1
      subst e1
      exact ⟨cur', h1, h5, by omega⟩
  have hlies : ∀ j u, news[j]? = some u → w.cell? ⟨g2, j, none⟩ = some u := fun j u hj => by
    refine row_cell hg2 ?_
    rw [← hc2.1] at hj
    rw [List.getElem?_take] at hj
    split at hj
    · exact hj
    · cases hj
  have hov : ∀ o lb cb, (callFunc 227 #[.slice (some ⟨g2, 0, none⟩) 1 c2, .slice (some ⟨g, o, none⟩) lb cb]).run Tryz.prog w = .ok (.value (.bool false)) w := fun o lb cb => by
    rw [run_callFunc_extern (fn := Tryz.f227) Tryz.func227 (by kernel_rfl) (by kernel_rfl) (by kernel_rfl) (e := Extern.SlicesOverlaps.overlaps #[86, 86] #[4]) (by kernel_rfl),
      Lib.run_overlaps_apart w 86 4 268 Tryz.underlying86 5 (fun w => by simp [sizeOf, typeInfo, hinf, hs]) ⟨g2, 0, none⟩ ⟨g, o, none⟩ 1 c2 lb cb hne 268 268 cur2.size cur.size (by simp [World.shape?, hg2]) (by simp [World.shape?, hg]) (by omega) (by simp [World.frozen?, hg2]) (by simp [World.frozen?, hg2])]
    rfl
  obtain ⟨curA, hA⟩ : ∃ c : Array Value, c = (xs.take (i * 5 + 5) ++ xs.drop (i * 5) ++ rest.drop 5).toArray := ⟨_, rfl⟩
  obtain ⟨curB, hB⟩ : ∃ c : Array Value, c = (xs.take (i * 5) ++ news ++ xs.drop (i * 5) ++ rest.drop 5).toArray := ⟨_, rfl⟩
  have hdl : (xs.drop (i * 5)).length = (len - i) * 5 := by rw [List.length_drop, hxs]; omega
  have hmin1 : Nat.min (len + 1 - i) (len - i) = len - i := by simp only [Nat.min_def]; split <;> omega
  have hmin2 : Nat.min 1 (len + 1 - i) = 1 := by simp only [Nat.min_def]; split <;> omega
  have hcp1 : ∀ ty dc sc, (Builtin.copy_ #[87, 87] ty #[.slice (some ⟨g, (i + 1) * 5, none⟩) (len - i) dc, .slice (some ⟨g, i * 5, none⟩) (len + 1 - i) sc]).run Tryz.prog w.drew = .ok (goInt ((len - i : Nat) : Int)) (w.drew.setRow g curA) := fun ty dc sc => by
    have := run_copy_rowN (P := Tryz.prog) (w := w.drew) 87 87 ty 268 5 g ((i + 1) * 5) (len - i) dc ⟨g, i * 5, none⟩ (len + 1 - i) sc cur 268 (xs.drop (i * 5)) Tryz.underlying87 hsz hg (by rw [hmin1, hdl])
      (fun j u hj => by
        rw [Addr_add]
        refine row_cell (w := w.drew) hg ?_
        rw [List.getElem?_drop] at hj
        rw [hcur, List.getElem?_append_left (List.getElem?_eq_some_iff.1 hj).1]
        exact hj) (by rw [hdl, hcs]; omega) (fun u hu => h1x u (List.mem_of_mem_drop hu))
    rw [hmin1] at this
    rw [this, hA, hcur, hdl]
    congr 3
    exact lv1 xs rest (p := i * 5) (r := (len - i) * 5) (by omega) (by omega) (by omega)
  have hgA : (w.drew.setRow g curA).heap[g]? = some (.cells curA 268 (0, 0)) := setRow_heap w.drew g cur curA 268 _ hg
  have hcp2 : ∀ (W : World), W.heap = (w.drew.setRow g curA).heap → ∀ ty dc, (Builtin.copy_ #[87, 86] ty #[.slice (some ⟨g, i * 5, none⟩) (len + 1 - i) dc, .slice (some ⟨g2, 0, none⟩) 1 c2]).run Tryz.prog W = .ok (goInt ((1 : Nat) : Int)) (W.setRow g curB) := fun W hW ty dc => by
    have := run_copy_rowN (P := Tryz.prog) (w := W) 87 86 ty 268 5 g (i * 5) (len + 1 - i) dc ⟨g2, 0, none⟩ 1 c2 curA 268 news Tryz.underlying87 hsz (by rw [hW]; exact hgA) (by rw [hmin2, hnews])
      (fun j u hj => by
        rw [Addr_add, Nat.zero_add]
        rw [World.cell?_of_block (w := w) (a := ⟨g2, j, none⟩) (by rw [hW]; exact setRow_oth hne)]
        exact hlies j u hj) (by rw [hA, hnews]; simp [hxs, hdl, hrl]; omega) h1
    rw [hmin2] at this
    rw [this, hA, hB, hnews]
    congr 3
    exact lv2 xs rest news (by omega)
  have FIN : ((w.drew.setRow g curA).setRow g curB).ownsRow base 268 5 (.slice (some ⟨g, 0, none⟩) (len + 1) cap) (len + 1) (xs.take (i * 5) ++ news ++ xs.drop (i * 5)) ∧ w.grownBy ((w.drew.setRow g curA).setRow g curB) (some g) ∧ (∀ b, blkOf (.slice (some ⟨g, 0, none⟩) (len + 1) cap) = some b → w.heap.size ≤ b ∨ (some g) = some b) := by
    have hlen : (xs.take (i * 5) ++ news ++ xs.drop (i * 5)).length = (len + 1) * 5 := by simp only [List.length_append, List.length_take, List.length_drop, hxs, hnews]; omega
    refine ⟨⟨hlen, .inr ⟨g, cap, curB, rfl, hbg, setRow_heap (w.drew.setRow g curA) g curA curB _ _ hgA, hroom, hcm, ?_, ?_⟩⟩, ⟨rfl, rfl, rfl, by rw [setRow_size, setRow_size]; exact Nat.le_refl _, fun k _ hk => ?_⟩, fun b hb => .inr (by simpa [blkOf] using hb)⟩
    · rw [hB, List.size_toArray, List.length_append, hlen, List.length_drop, hrl]; omega
    · rw [hB]; exact List.take_left' hlen
    · rw [setRow_oth (fun e => hk (by rw [e])), setRow_oth (fun e => hk (by rw [e]))]; rfl
  clear hA hB
  have mixed : Tryz.prog.follows Departure.mixedOrders = true := by kernel_rfl
  have hb2 : ¬ (cap = i + 1) := by omega
  have hb4 : ¬ (cap = i) := by omega
  have hin : i ≤ len := by omega
  have hb3 : (i : Int) ≤ (len : Int) + 1 := by omega
  have hw1 : IntKind.i64.wrap ((i : Int) + 1) = (i : Int) + 1 := by rw [IntKind.wrap_i64]; omega
  have htn : ((i : Int) + 1).toNat = i + 1 := by omega
  have hb1 : (0 : Int) ≤ (i : Int) + 1 := by omega
  go_enter Tryz.func192, Tryz.ntmps192
  go_wp2_with (simp only [hov])
  go_region_law_o (refine step_copy_runI rfl _ _ 87 87 rfl _ _ (by simp [Act.eval, Act.put]) (by simp [Act.eval, Act.put]) (hcp1 _ _ _) ?_)
  go_wp2_with (at_builtin; refine wpList_copy_runI _ rfl _ _ 87 86 rfl _ _ rfl rfl (hcp2 _ rfl _ _) ?_)
  go_ret
  exact ⟨_, rfl, FIN⟩
theorem lv3 {α : Type} (A Z news : List α) {p : Nat} (hA : A.length = p) : (A ++ Z).take p ++ news ++ (A ++ Z).drop (p + 5) = A ++ news ++ Z.drop 5 := by
  rw [List.take_left' hA, List.drop_append, List.drop_eq_nil_of_le (by omega : A.length ≤ p + 5), hA, List.nil_append, Nat.add_sub_cancel_left]
theorem lv4 {α : Type} (A Y D news : List α) {p r q : Nat} (hA : A.length = p) (hn : news.length = 5) (hq : q = p + 5) : (A ++ news ++ Y).take q ++ D ++ (A ++ news ++ Y).drop (q + r) = A ++ news ++ D ++ Y.drop r := by
  have h : (A ++ news).length = q := by rw [List.length_append, hA, hn, hq]
  have e : (A ++ news ++ Y).drop (q + r) = Y.drop r := by
    rw [List.drop_append, List.drop_eq_nil_of_le (by omega), h, List.nil_append, Nat.add_sub_cancel_left]
  rw [List.take_left' h, e]
set_option maxHeartbeats 4000000 in
set_option maxRecDepth 100000 in
/-- Ahead of others, where there is no room. -/
theorem insPV_grow (w : World) (base g cap g2 c2 len i : Nat) (cur : Array Value) (xs news : List Value) (hbw : base ≤ w.heap.size) (hg : w.heap[g]? = some (.cells cur 268 (0, 0))) (hcur : cur.toList.take (len * 5) = xs) (hxs : xs.length = len * 5)
    (hu : w.ownsRow base 268 5 (.slice (some ⟨g2, 0, none⟩) 1 c2) 1 news) (hi : i < len) (hle : len ≤ cap) (hroom : cap < len + 1)
    (hb : (len + 1) * 48 ≤ 140737488351232) (hl : len + 1 ≤ 140737488351232) (h1x : ∀ c ∈ xs, c.oneCell' = true) (h1 : ∀ c ∈ news, c.oneCell' = true) :
    Calls Tryz.prog 192 #[.slice (some ⟨g, 0, none⟩) len cap, .int .i64 (i : Int), .slice (some ⟨g2, 0, none⟩) 1 c2] w fun e' w' => ∃ v', e' = .returned v' ∧ w'.ownsRow base 268 5 v' (len + 1) (xs.take (i * 5) ++ news ++ xs.drop (i * 5)) ∧ w.grownBy w' (some g) ∧ (∀ b, blkOf v' = some b → w.heap.size ≤ b ∨ (some g) = some b) := by
  obtain ⟨inf, hinf, hz, hs, hy⟩ := Tryz.infoPV
  have hsz : (Tryz.prog.info? 268).map (·.size) = some 5 := by rw [hinf]; simp [hs]
  have hnews : news.length = 5 := by have := hu.1; omega
  obtain ⟨cur2, hg2, hc2⟩ : ∃ cur2, w.heap[g2]? = some (.cells cur2 268 (0, 0)) ∧ cur2.toList.take 5 = news := by
    rcases hu.2 with ⟨e, _⟩ | ⟨g', cap', cur', e, _, h1, h2, h3, h4, h5⟩
    · cases e
    · injection e with e1 _ _
      injection e1 with e1
      injection e1 with e1
      subst e1
      exact ⟨cur', h1, h5⟩
  have hlies : ∀ j u, news[j]? = some u → w.cell? ⟨g2, j, none⟩ = some u := fun j u hj => by
    refine row_cell hg2 ?_
    rw [← hc2, List.getElem?_take] at hj
    split at hj
    · exact hj
    · cases hj
  have hliex : ∀ j u, xs[j]? = some u → w.cell? ⟨g, j, none⟩ = some u := fun j u hj => by
    refine row_cell hg ?_
    rw [← hcur, List.getElem?_take] at hj
    split at hj
    · exact hj
    · cases hj
  have hgw : g < w.heap.size := (Array.getElem?_eq_some_iff.1 hg).1
  have hg2w : g2 < w.heap.size := (Array.getElem?_eq_some_iff.1 hg2).1
  obtain ⟨G, hG⟩ : ∃ G, G = grownCap w (len + 1) cap 268 := ⟨_, rfl⟩
  have hGn : len + 1 ≤ G := by rw [hG]; exact grownCap_ge w _ _ _
  have hGm : G ≤ maxLen := by rw [hG]; exact grownCap_le_maxLen w _ _ _ (by unfold maxLen; omega)
  obtain ⟨ROW, hROW⟩ : ∃ ROW : Array Value, ROW = (xs.take (i * 5)).toArray ++ Builtin.zeroCells (Value.agg #[.pointer none, .pointer none, .pointer none, .pointer none, .nilIface]).cells (len + 1 - i) ++ Builtin.zeroCells (Value.agg #[.pointer none, .pointer none, .pointer none, .pointer none, .nilIface]).cells (G - (len + 1)) := ⟨_, rfl⟩
  obtain ⟨Z, hZ, hZl⟩ : ∃ Z : List Value, ROW.toList = xs.take (i * 5) ++ Z ∧ Z.length = (G - i) * 5 := by
    refine ⟨(Builtin.zeroCells (Value.agg #[.pointer none, .pointer none, .pointer none, .pointer none, .nilIface]).cells (len + 1 - i)).toList ++ (Builtin.zeroCells (Value.agg #[.pointer none, .pointer none, .pointer none, .pointer none, .nilIface]).cells (G - (len + 1))).toList, by rw [hROW]; simp, ?_⟩
    rw [List.length_append, Array.length_toList, Array.length_toList, size_zeroCells, size_zeroCells]
    simp only [Value.cells, List.size_toArray, List.length_cons, List.length_nil]
    omega
  have htl : (xs.take (i * 5)).length = i * 5 := by rw [List.length_take, hxs]; omega
  have hdl : (xs.drop (i * 5)).length = (len - i) * 5 := by rw [List.length_drop, hxs]; omega
  have hRs : ROW.size = G * 5 := by rw [← Array.length_toList, hZ, List.length_append, htl, hZl]; omega
  have hold : (Builtin.firstCells inf.size i (.slice (some ⟨g, 0, none⟩) i cap)).run Tryz.prog w.drew = .ok (xs.take (i * 5)).toArray w.drew := by
    rw [hs]
    exact run_firstCells_some w.drew 5 i ⟨g, 0, none⟩ i cap (xs.take (i * 5)) htl (fun j v hj => by
      rw [Addr_add, Nat.zero_add]
      rw [List.getElem?_take] at hj
      split at hj
      · exact hliex j v hj
      · cases hj)
  have hrz : ∀ ty, (Builtin.append_ #[87, 3] ty #[.slice (some ⟨g, 0, none⟩) i cap, .int .i64 ((len : Int) + 1 - (i : Int))]).run Tryz.prog w = .ok (.slice (some ⟨w.heap.size, 0, none⟩) (len + 1) G) (w.drew.alloc (.cells ROW 268)) := fun ty => by
    have h := Lib.run_append_grow_zeros (P := Tryz.prog) w 87 3 ty 268 inf _ .i64 .i64 Tryz.underlying87 Tryz.underlying3 hinf hz (some ⟨g, 0, none⟩) i cap (xs.take (i * 5)) hold (len + 1 - i) (by omega) (by omega) (by omega) (by omega) (by rw [hy]; omega) (by rw [hy, show i + (len + 1 - i) = len + 1 by omega]; exact growslice_fits hroom (by omega))
    rw [show i + (len + 1 - i) = len + 1 by omega, ← hG] at h
    rw [show ((len : Int) + 1 - (i : Int)) = ((len + 1 - i : Nat) : Int) by omega, h, hROW]
  obtain ⟨curB, hB⟩ : ∃ c : Array Value, c = (xs.take (i * 5) ++ news ++ Z.drop 5).toArray := ⟨_, rfl⟩
  obtain ⟨curC, hC⟩ : ∃ c : Array Value, c = (xs.take (i * 5) ++ news ++ xs.drop (i * 5) ++ (Z.drop 5).drop ((len - i) * 5)).toArray := ⟨_, rfl⟩
  have hN1 : (w.alloc (.cells ROW 268)).heap[w.heap.size]? = some (.cells ROW 268 (0, 0)) := heap_alloc_new w _
  have hNB : ((w.alloc (.cells ROW 268)).setRow w.heap.size curB).heap[w.heap.size]? = some (.cells curB 268 (0, 0)) := setRow_heap _ _ ROW curB 268 _ hN1
  have hNC : (((w.alloc (.cells ROW 268)).setRow w.heap.size curB).setRow w.heap.size curC).heap[w.heap.size]? = some (.cells curC 268 (0, 0)) := setRow_heap _ _ curB curC 268 _ hNB
  have hold1 : ∀ b, b < w.heap.size → (w.alloc (.cells ROW 268)).heap[b]? = w.heap[b]? := fun b h => Below.heap_alloc _ _ _ h
  have hmin1 : Nat.min (len - i) (len + 1 - (i + 1)) = len - i := by simp only [Nat.min_def]; split <;> omega
  have hmin2 : Nat.min 1 (len + 1 - i) = 1 := by simp only [Nat.min_def]; split <;> omega
  have hcpA : ∀ (W : World), W.heap = (w.alloc (.cells ROW 268)).heap → ∀ ty dc, (Builtin.copy_ #[87, 86] ty #[.slice (some ⟨w.heap.size, i * 5, none⟩) (len + 1 - i) dc, .slice (some ⟨g2, 0, none⟩) 1 c2]).run Tryz.prog W = .ok (goInt ((1 : Nat) : Int)) (W.setRow w.heap.size curB) := fun W hW ty dc => by
    have := run_copy_rowN (P := Tryz.prog) (w := W) 87 86 ty 268 5 w.heap.size (i * 5) (len + 1 - i) dc ⟨g2, 0, none⟩ 1 c2 ROW 268 news Tryz.underlying87 hsz (by rw [hW]; exact hN1) (by rw [hmin2, hnews])
      (fun j u hj => by
        rw [Addr_add, Nat.zero_add]
        rw [World.cell?_of_block (w := w) (a := ⟨g2, j, none⟩) (by rw [hW]; exact hold1 _ hg2w)]
        exact hlies j u hj) (by rw [hRs, hnews]; omega) h1
    rw [hmin2] at this
    rw [this, hB, hnews, hZ]
    congr 3
    exact lv3 _ _ _ htl
  have hcpB : ∀ (W : World), W.heap = ((w.alloc (.cells ROW 268)).setRow w.heap.size curB).heap → ∀ ty dc sc, (Builtin.copy_ #[87, 87] ty #[.slice (some ⟨w.heap.size, (i + 1) * 5, none⟩) (len - i) dc, .slice (some ⟨g, i * 5, none⟩) (len - i) sc]).run Tryz.prog W = .ok (goInt ((len - i : Nat) : Int)) (W.setRow w.heap.size curC) := fun W hW ty dc sc => by
    have hm : Nat.min (len - i) (len - i) = len - i := by simp only [Nat.min_def]; split <;> omega
    have := run_copy_rowN (P := Tryz.prog) (w := W) 87 87 ty 268 5 w.heap.size ((i + 1) * 5) (len - i) dc ⟨g, i * 5, none⟩ (len - i) sc curB 268 (xs.drop (i * 5)) Tryz.underlying87 hsz (by rw [hW]; exact hNB) (by rw [hm, hdl])
      (fun j u hj => by
        rw [Addr_add]
        rw [World.cell?_of_block (w := w) (a := ⟨g, i * 5 + j, none⟩) (by rw [hW]; exact (setRow_oth (show g ≠ w.heap.size from Nat.ne_of_lt hgw)).trans (hold1 _ hgw))]
        rw [List.getElem?_drop] at hj
        exact hliex _ u hj) (by rw [hB, List.size_toArray, hdl]; simp only [List.length_append, htl, hnews, List.length_drop, hZl]; omega) (fun u hu => h1x u (List.mem_of_mem_drop hu))
    rw [hm] at this
    rw [this, hC, hB, hdl]
    congr 3
    exact lv4 _ _ _ _ htl hnews (by omega)
  have FIN : ∀ W : World, W.os = w.os → W.tape = w.tape → W.output = w.output → W.heap = (((w.alloc (.cells ROW 268)).setRow w.heap.size curB).setRow w.heap.size curC).heap → W.ownsRow base 268 5 (.slice (some ⟨w.heap.size, 0, none⟩) (len + 1) G) (len + 1) (xs.take (i * 5) ++ news ++ xs.drop (i * 5)) ∧ w.grownBy W (some g) ∧ (∀ b, blkOf (.slice (some ⟨w.heap.size, 0, none⟩) (len + 1) G) = some b → w.heap.size ≤ b ∨ (some g) = some b) := by
    intro W e1 e2 e3 e4
    have hlen : (xs.take (i * 5) ++ news ++ xs.drop (i * 5)).length = (len + 1) * 5 := by simp only [List.length_append, htl, hdl, hnews]; omega
    refine ⟨⟨hlen, .inr ⟨w.heap.size, G, curC, rfl, hbw, by rw [e4]; exact hNC, hGn, hGm, ?_, ?_⟩⟩, ⟨e1, e2, e3, by rw [e4, setRow_size, setRow_size]; simp, fun k hk _ => ?_⟩, fun b hb => .inl (Nat.le_of_eq (by simpa [blkOf] using hb))⟩
    · rw [hC, List.size_toArray, List.length_append, hlen, List.length_drop, List.length_drop, hZl]; omega
    · rw [hC]; exact List.take_left' hlen
    · rw [e4, setRow_oth (by omega), setRow_oth (by omega)]; exact hold1 _ hk
  clear hB hC hNB hNC hN1 hold1 hold hRs hZ hZl hROW hG hlies hliex hg hg2 hu hcur
  have mixed : Tryz.prog.follows Departure.mixedOrders = true := by kernel_rfl
  have hb2 : ¬ (cap = i + 1) ∨ cap = i + 1 := by omega
  have hb4 : ¬ (cap = i) := by omega
  have hb5 : ¬ (G = i) := by omega
  have hb6 : ¬ (G = i + 1) := by omega
  have hin : i ≤ len := by omega
  have hz3 : (cap : Int) < (len : Int) + 1 := by omega
  have hb3 : (i : Int) ≤ (len : Int) + 1 := by omega
  have hb7 : (i : Int) ≤ (len : Int) := by omega
  have hw1 : IntKind.i64.wrap ((i : Int) + 1) = (i : Int) + 1 := by rw [IntKind.wrap_i64]; omega
  have htn : ((i : Int) + 1).toNat = i + 1 := by omega
  have hb1 : (0 : Int) ≤ (i : Int) + 1 := by omega
  have hcpA' := hcpA (w.alloc (.cells ROW 268)).drew rfl
  have hcpB' := hcpB ((w.alloc (.cells ROW 268)).drew.setRow w.heap.size curB).drew rfl
  clear hb2 hcpA hcpB
  go_enter Tryz.func192, Tryz.ntmps192
  go_wp2_with (at_builtin; refine Lib.wpList_append_run _ rfl _ _ _ _ rfl _ _ rfl rfl _ _ (hrz _) ?_)
  go_region
  go_wp2
  go_ret
  exact ⟨_, rfl, FIN _ rfl rfl rfl rfl⟩
instance : InsF Tryz.prog 192 268 5 48 := ⟨by kernel_rfl, fun w base v u len i xs news hv hu hap hi hb hl hw h1x h1 => by
  obtain ⟨g2, c2, rfl⟩ : ∃ g2 c2, u = .slice (some ⟨g2, 0, none⟩) 1 c2 := by
    rcases hu.2 with ⟨_, e⟩ | ⟨g', cap', cur', e, _⟩
    · omega
    · exact ⟨_, _, e⟩
  by_cases he : i = len
  · subst he
    rw [List.take_of_length_le (by rw [hv.1]; exact Nat.le_refl _), List.drop_eq_nil_of_le (by rw [hv.1]; exact Nat.le_refl _), List.append_nil]
    exact insPV_end w base v g2 c2 i xs news hv hu hb hl hw h1
  · rcases hv.2 with ⟨_, e⟩ | ⟨g, cap, cur, rfl, hbg, hg, hnc, hcm, hcs, hcur⟩
    · omega
    · have hne : g2 ≠ g := fun e => hap g rfl (by rw [e]; rfl)
      by_cases hroom : len + 1 ≤ cap
      · exact insPV_room w base g cap g2 c2 len i cur xs (cur.toList.drop (len * 5)) news hbg hg hcm hcs (by rw [← hcur, List.take_append_drop]) hv.1 hu hne (by omega) hroom hl h1x h1
      · exact insPV_grow w base g cap g2 c2 len i cur xs news hw hg hcur hv.1 hu (by omega) hnc (by omega) hb hl h1x h1⟩
end Go.Proofs.YtgmahieoiifpfaaGreat
end
section
set_option linter.unusedVariables false
namespace Go.Proofs.YtgmahieoiifpfaaGreat
open Go.RowKit
set_option linter.unusedSimpArgs false
theorem fromValue_p (j : JV) : PCall Tryz.prog 70 [dvV j] (qV (unJ j)) := by
  have c1 := unstr_p j
  have c2 := fromTree_p j
  unfold dvV qV at *
  refine pcall_of_run Tryz.func70 rfl Tryz.ntmps70 rfl (fun X => ?_)
  exact wke
theorem fromNil_p : PCall Tryz.prog 70 [.val .nilIface] (qV gNull) := by
  refine pcall_of_run Tryz.func70 rfl Tryz.ntmps70 rfl (fun X => ?_)
  unfold qV gNull
  exact wke
end Go.Proofs.YtgmahieoiifpfaaGreat
end
