/- spec.CompareInts and spec.CompareStrings. -/
import Derived.Test.YtlghpcokbppkfaaRegion
import Derived.Test.YtlghpcokbppkfaaCells
import Derived.Test.YtlghpcokbppkfaaField
namespace Go.Proofs.Ytlghpcokbppkfaa
open Go.RowKit
set_option linter.unusedSimpArgs false

def cmpI (a b : Int) : Int := if a < b then -1 else if b < a then 1 else 0
def cmpS (a b : ByteArray) : Int := if blt a b then -1 else if blt b a then 1 else 0

theorem bl_pre : ∀ (x y : List UInt8) (n : Nat) (p q : UInt8), x.take n = y.take n → x[n]? = some p → y[n]? = some q → p ≠ q → Op.bytesLess x y = decide (p < q)
  | [], _, n, p, q, _, h, _, _ => by simp at h
  | _ :: _, [], n, p, q, _, _, h, _ => by simp at h
  | a :: x, b :: y, 0, p, q, _, h1, h2, hne => by
    simp at h1 h2
    subst h1 h2
    have : (a == b) = false := by simp [hne]
    simp [Op.bytesLess, this]
  | a :: x, b :: y, n + 1, p, q, h, h1, h2, hne => by
    simp only [List.take_succ_cons, List.cons.injEq] at h
    obtain ⟨rfl, h⟩ := h
    have := bl_pre x y n p q h (by simpa using h1) (by simpa using h2) hne
    simp [Op.bytesLess, this, UInt8.lt_irrefl]
theorem bl_end : ∀ (x y : List UInt8) (n : Nat), x.take n = y.take n → n = min x.length y.length → Op.bytesLess x y = decide (x.length < y.length)
  | [], [], n, _, _ => by simp [Op.bytesLess]
  | [], _ :: _, n, _, _ => by simp [Op.bytesLess]
  | _ :: _, [], n, _, _ => by simp [Op.bytesLess]
  | a :: x, b :: y, n, h, hn => by
    obtain ⟨n, rfl⟩ : ∃ k, n = k + 1 := ⟨n - 1, by simp at hn; omega⟩
    simp only [List.take_succ_cons, List.cons.injEq] at h
    obtain ⟨rfl, h⟩ := h
    have := bl_end x y n h (by simp at hn; omega)
    simp [Op.bytesLess, this, UInt8.lt_irrefl]
theorem size_list (a : ByteArray) : a.toList.length = a.size := by rw [ByteArray.toList_eq]; rfl
theorem byte_at (a : ByteArray) (k : Nat) (h : k < a.size) : a.toList[k]? = some a[k] := by
  rw [ByteArray.toList_eq]
  rw [List.getElem?_eq_getElem (by exact h)]
  rfl
theorem cmpS_pre {a b : ByteArray} {k : Nat} (h : a.toList.take k = b.toList.take k) (h1 : k < a.size) (h2 : k < b.size) (hne : a[k] ≠ b[k]) : cmpS a b = cmpI (a[k].toNat : Int) (b[k].toNat : Int) := by
  have e1 := bl_pre _ _ k _ _ h (byte_at a k h1) (byte_at b k h2) hne
  have e2 := bl_pre _ _ k _ _ h.symm (byte_at b k h2) (byte_at a k h1) (Ne.symm hne)
  unfold cmpS cmpI blt
  rw [e1, e2]
  simp only [decide_eq_true_eq, UInt8.lt_iff_toNat_lt, Int.ofNat_lt]
theorem cmpS_end {a b : ByteArray} {k : Nat} (h : a.toList.take k = b.toList.take k) (hk : k = min a.size b.size) : cmpS a b = cmpI (a.size : Int) (b.size : Int) := by
  have e1 := bl_end _ _ k h (by rw [size_list, size_list]; exact hk)
  have e2 := bl_end _ _ k h.symm (by rw [size_list, size_list]; omega)
  rw [size_list, size_list] at e1 e2
  unfold cmpS cmpI blt
  rw [e1, e2]
  simp only [decide_eq_true_eq, Int.ofNat_lt]

theorem wrap_small {q : Nat} (h : q < 9223372036854775808) : IntKind.i64.wrap (q : Int) = q := by
  simp [IntKind.wrap, IntKind.bits, IntKind.signed]; omega

set_option maxRecDepth 100000 in
theorem CompareInts_any (a b : Int) (w : World) : Calls Try.prog 111 #[.int .i64 a, .int .i64 b] w fun e w' => e = .returned (.int .i64 (cmpI a b)) ∧ w' = w := by
  by_cases h1 : a < b
  · have hc : cmpI a b = -1 := by simp [cmpI, h1]
    rw [hc]
    go_enter Try.func111, Try.ntmps111
    go_wp2_with fail
    go_ret
    exact ⟨rfl, rfl⟩
  by_cases h2 : b < a
  · have hc : cmpI a b = 1 := by simp [cmpI, h1, h2]
    rw [hc]
    go_enter Try.func111, Try.ntmps111
    go_wp2_with fail
    go_ret
    exact ⟨rfl, rfl⟩
  · have hc : cmpI a b = 0 := by simp [cmpI, h1, h2]
    rw [hc]
    go_enter Try.func111, Try.ntmps111
    go_wp2_with fail
    go_ret
    exact ⟨rfl, rfl⟩

set_option maxHeartbeats 1000000 in
set_option maxRecDepth 100000 in
theorem CompareStrings_any (a b : ByteArray) (w : World) (ha : a.size ≤ maxLen) (_hb : b.size ≤ maxLen) : Calls Try.prog 68 #[.string a, .string b] w fun e w' => e = .returned (.int .i64 (cmpS a b)) ∧ Below w.heap.size w w' := by
  unfold maxLen at ha
  go_enter Try.func68, Try.ntmps68
  go_wp2_with fail
  go_loopw [5] (fun i wr => ∃ k : Nat, k ≤ a.size ∧ k ≤ b.size ∧ i = .int .i64 (k : Nat) ∧ Below w.heap.size w wr ∧ a.toList.take k = b.toList.take k) (fun i _ => a.size - (intOf i).toNat)
  case atStart => exact ⟨0, Nat.zero_le _, Nat.zero_le _, rfl, Below.refl _ _, by simp⟩
  case round =>
    obtain ⟨k, hka, hkb, rfl, hB, hpre⟩ := hrel
    by_cases h1 : k < a.size
    · by_cases h2 : k < b.size
      · have j0 : (0 : Int) ≤ (k : Int) := by omega
        have j1 : (k : Int) < (a.size : Int) := by omega
        have j2 : (k : Int) < (b.size : Int) := by omega
        have l1 : a[k].toNat < 256 := a[k].toNat_lt
        have l2 : b[k].toNat < 256 := b[k].toNat_lt
        have HP := Lib.hid hpre
        clear hpre
        by_cases hxy : a[k] = b[k]
        · have e7 : ((a[k].toNat : Int) != (b[k].toNat : Int)) = false := by rw [hxy]; simp
          have HXY := Lib.hid hxy
          clear hxy
          go_wp2_with fail
          go_quiet (fail)
          go_wp2_with fail
          have hwk : wrap64 ((k : Int) + 1) = ((k + 1 : Nat) : Int) := by unfold wrap64; omega
          try rw [hwk]
          refine ⟨⟨k + 1, h1, h2, rfl, hB.trans ⟨rfl, rfl, rfl, Nat.le_refl _, fun _ _ => rfl⟩, ?_⟩, by simp only [intOf]; omega⟩
          rw [List.take_add_one, List.take_add_one, HP.out, byte_at a k h1, byte_at b k h2, HXY.out]
        · have e7 : ((a[k].toNat : Int) != (b[k].toNat : Int)) = true := by
            have : a[k].toNat ≠ b[k].toNat := fun e => hxy (UInt8.toNat_inj.1 e)
            simp; omega
          have HXY := Lib.hid hxy
          clear hxy
          go_wp2_with fail
          go_quiet (fail)
          go_wp2_with fail
          refine wp_region_K (fun _ => True) [0, 1, 2, 3, 4, 5, 6, 7, 9] (by kernel_rfl) ?_ (fun hHeld => ?_)
          · trivial
          refine wpK_take (i := 0) (v := ?_) rfl (by kernel_rfl) (by kernel_rfl) (by kernel_rfl) (by kernel_rfl) (.inl ⟨by rfl, ?_⟩) hHeld ?_
          rotate_left
          · (intro w hSw; (try dsimp only at hSw); go_split_ands; go_simp; (try with_reducible rfl))
          try simp only [Act.put, List.setIfInBounds_toArray, List.set_cons_zero, List.set_cons_succ]
          refine wpK_take (i := 1) (v := ?_) rfl (by kernel_rfl) (by kernel_rfl) (by kernel_rfl) (by kernel_rfl) (.inl ⟨by rfl, ?_⟩) hHeld ?_
          rotate_left
          · (intro w hSw; (try dsimp only at hSw); go_split_ands; go_simp; (try with_reducible rfl))
          try simp only [Act.put, List.setIfInBounds_toArray, List.set_cons_zero, List.set_cons_succ]
          refine wpK_take (i := 2) (v := ?_) rfl (by kernel_rfl) (by kernel_rfl) (by kernel_rfl) (by kernel_rfl) (.inl ⟨by rfl, ?_⟩) hHeld ?_
          rotate_left
          · (intro w hSw; (try dsimp only at hSw); go_split_ands; go_simp; (try with_reducible rfl))
          try simp only [Act.put, List.setIfInBounds_toArray, List.set_cons_zero, List.set_cons_succ]
          refine wpK_take (i := 3) (v := ?_) rfl (by kernel_rfl) (by kernel_rfl) (by kernel_rfl) (by kernel_rfl) (.inl ⟨by rfl, ?_⟩) hHeld ?_
          rotate_left
          · (intro w hSw; (try dsimp only at hSw); go_split_ands; go_simp; (try with_reducible rfl))
          try simp only [Act.put, List.setIfInBounds_toArray, List.set_cons_zero, List.set_cons_succ]
          refine wpK_take (i := 4) (v := ?_) rfl (by kernel_rfl) (by kernel_rfl) (by kernel_rfl) (by kernel_rfl) (.inl ⟨by rfl, ?_⟩) hHeld ?_
          rotate_left
          · (intro w hSw; (try dsimp only at hSw); go_split_ands; go_simp; (try with_reducible rfl))
          try simp only [Act.put, List.setIfInBounds_toArray, List.set_cons_zero, List.set_cons_succ]
          refine wpK_take (i := 5) (v := ?_) rfl (by kernel_rfl) (by kernel_rfl) (by kernel_rfl) (by kernel_rfl) (.inl ⟨by rfl, ?_⟩) hHeld ?_
          rotate_left
          · (intro w hSw; (try dsimp only at hSw); go_split_ands; go_simp; (try with_reducible rfl))
          try simp only [Act.put, List.setIfInBounds_toArray, List.set_cons_zero, List.set_cons_succ]
          refine wpK_take (i := 6) (v := ?_) rfl (by kernel_rfl) (by kernel_rfl) (by kernel_rfl) (by kernel_rfl) (.inl ⟨by rfl, ?_⟩) hHeld ?_
          rotate_left
          · (intro w hSw; (try dsimp only at hSw); go_split_ands; go_simp; (try with_reducible rfl))
          try simp only [Act.put, List.setIfInBounds_toArray, List.set_cons_zero, List.set_cons_succ]
          refine wpK_take (i := 7) (v := ?_) rfl (by kernel_rfl) (by kernel_rfl) (by kernel_rfl) (by kernel_rfl) (.inl ⟨by rfl, ?_⟩) hHeld ?_
          rotate_left
          · (intro w hSw; (try dsimp only at hSw); go_split_ands; go_simp; (try with_reducible rfl))
          try simp only [Act.put, List.setIfInBounds_toArray, List.set_cons_zero, List.set_cons_succ]
          refine wpK_one (i := 8) (by kernel_rfl) rfl (fun K hK => ?_)
          go_simp
          refine (CompareInts_any _ _ _).mono ?_
          rintro e w2 ⟨rfl, rfl⟩
          refine hK.out _ _ ?_ (fun hHeld => ?_)
          · trivial
          clear hK K
          try simp only [Act.put, List.setIfInBounds_toArray, List.set_cons_zero, List.set_cons_succ]
          refine wpK_take (i := 9) (v := ?_) rfl (by kernel_rfl) (by kernel_rfl) (by kernel_rfl) (by kernel_rfl) (.inl ⟨by rfl, ?_⟩) hHeld ?_
          rotate_left
          · (intro w hSw; (try dsimp only at hSw); go_split_ands; go_simp; (try with_reducible rfl))
          try simp only [Act.put, List.setIfInBounds_toArray, List.set_cons_zero, List.set_cons_succ]
          refine wpK_done (by kernel_rfl) ?_ _
          simp only [List.getElem_toArray, List.getElem_cons_succ, List.getElem_cons_zero, List.set_cons_succ, List.set_cons_zero]
          go_wp2_with fail
          go_ret
          rw [cmpS_pre HP.out h1 h2 HXY.out]
          have wa := wrap_small (q := a[k].toNat) (by omega)
          have wb := wrap_small (q := b[k].toNat) (by omega)
          simp only [wa, wb]
          exact ⟨rfl, hB.trans ⟨rfl, rfl, rfl, Nat.le_refl _, fun _ _ => rfl⟩⟩
      · have hend := cmpS_end hpre (by omega)
        have HE := Lib.hid hend
        have n2 : ¬ ((k : Int) < (b.size : Int)) := by omega
        have n1 : (k : Int) < (a.size : Int) := by omega
        clear hpre hend
        go_wp2_with (go_at_call 111; refine (CompareInts_any _ _ _).mono ?_)
        go_ret
        rw [HE.out]
        exact ⟨rfl, hB⟩
    · have hend := cmpS_end hpre (by omega)
      have HE := Lib.hid hend
      have n1 : ¬ ((k : Int) < (a.size : Int)) := by omega
      clear hpre hend
      go_wp2_with (go_at_call 111; refine (CompareInts_any _ _ _).mono ?_)
      go_ret
      rw [HE.out]
      exact ⟨rfl, hB⟩
end Go.Proofs.Ytlghpcokbppkfaa
