/- spec.OrderlyValues. -/
import Derived.Test.YtlghpcokbppkfaaOrderly
namespace Go.Proofs.Ytlghpcokbppkfaa
open Go.RowKit
set_option linter.unusedSimpArgs false

set_option maxHeartbeats 1000000 in
set_option maxRecDepth 100000 in
theorem ordVals_any (l : List GV) (w : World) (a1 : Option Addr) (c1 : Nat) (hl88 : l.length * 88 ≤ 140737488351232) (hl : l = [] ∨ ∃ b o, Btw 0 w.heap.size b ∧ a1 = some ⟨b, o, none⟩ ∧ IsVs w (Btw 0 w.heap.size) l b o) :
    Calls Try.prog 49 #[.slice a1 l.length c1] w fun e w' => e = .returned (.bool (ordL l)) ∧ Below w.heap.size w w' := by
  go_enter Try.func49, Try.ntmps49
  go_wp2_with fail
  go_loopw [7] (fun i wr => ∃ k : Nat, k ≤ l.length ∧ i = .int .i64 (k : Nat) ∧ Below w.heap.size w wr ∧ ∀ y ∈ l.take k, ordV y = true) (fun i _ => l.length - (intOf i).toNat)
  case atStart => exact ⟨0, Nat.zero_le _, rfl, Below.refl _ _, by simp⟩
  case round =>
    obtain ⟨k, hk, rfl, hB, hall⟩ := hrel
    by_cases hlt : k < l.length
    · obtain ⟨b, o, hb, rfl, hcells⟩ := vals_at hl (by omega)
      obtain ⟨y, hy⟩ : ∃ y, l[k]? = some y := ⟨l[k], by simp [hlt]⟩
      obtain ⟨e0, f0, e1, f1, g0, g1, g2, g3, g4, g5, hyv⟩ := (IsVs.keep (S' := Btw 0 wr.heap.size) (Btw.kept hB) (Btw.mono (Nat.le_refl _) hB.size) l b o hb hcells).cells hy
      have hc := ord_any y
      have hyA := hyv.alloc_ (.cells #[.int .i64 y.kind, .int .i64 y.n, .float .f64 y.f, .string y.s, .slice e0 y.keys.length f0, .slice e1 y.l.length f1] 26)
      have HY := Lib.hid (And.intro hy (And.intro hall hB))
      have j0 : (0 : Int) ≤ (k : Int) := by omega
      have j1 : (k : Int) < (l.length : Int) := by omega
      have hs := hB.size
      clear hy hall hB hcells hyv
      go_wp2_with (go_at_call 46; (with_reducible refine (hc.use _ _ ?_).mono ?_))
      · simpa using hyA
      rintro e w2 ⟨rfl, hB2'⟩
      obtain ⟨hy, hall, hB⟩ := HY.out
      have hB2 : Below w.heap.size w w2 := (hB.alloc hs (.cells #[.int .i64 y.kind, .int .i64 y.n, .float .f64 y.f, .string y.s, .slice e0 y.keys.length f0, .slice e1 y.l.length f1] 26)).trans (hB2'.mono (by simp; omega))
      clear g0 g1 g2 g3 g4 g5 hyA hc HY hB2'
      cases ho : ordV y with
      | false =>
        have hf : ordL l = false := by
          cases h : ordL l with
          | false => rfl
          | true => rw [ordL_iff.1 h y (List.mem_of_getElem? hy)] at ho; cases ho
        go_wp2_with fail
        go_ret
        rw [hf]
        exact ⟨rfl, hB2⟩
      | true =>
        have HF := Lib.hid (show ∀ z ∈ l.take (k + 1), ordV z = true from fun z hz => by
          rw [List.take_add_one, hy] at hz
          rcases List.mem_append.1 hz with hz | hz
          · exact hall z hz
          · simp at hz; subst hz; exact ho)
        clear hall hy hB
        go_wp2_with fail
        go_roundw
        case rel => exact ⟨k + 1, hlt, by go_num, hB2, HF.out⟩
        case measure => simp [intOf]; omega
    · have hkl : k = l.length := by omega
      subst hkl
      have ht : ordL l = true := ordL_iff.2 (by rw [List.take_length] at hall; exact hall)
      have HT := Lib.hid ht
      clear ht hall
      go_wp2_with fail
      go_ret
      rw [HT.out]
      exact ⟨rfl, hB⟩
end Go.Proofs.Ytlghpcokbppkfaa
