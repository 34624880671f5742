/- spec.Orderly: no NaN, no whole number beyond 2^53. -/
import Derived.Test.YtlghpcokbppkfaaParts
import Derived.Test.YtlghpcokbppkfaaRegion
import Derived.Test.YtlghpcokbppkfaaField
namespace Go.Proofs.Ytlghpcokbppkfaa
open Go.RowKit
set_option linter.unusedSimpArgs false

/-- Whether two floating-point numbers are equal. -/
def feq (f g : Nat) : Bool := FloatKind.f64.format.order f g == some Ordering.eq
mutual
/-- No NaN, no whole number beyond 2^53. -/
def ordV : GV → Bool
  | .mk k n f _ _ l => if k = 2 then decide (-9007199254740992 ≤ n) && decide (n ≤ 9007199254740992) else if k = 3 then feq f f else if k = 5 then ordL l else if k = 6 then ordL l else true
def ordL : List GV → Bool
  | [] => true
  | x :: r => ordV x && ordL r
end
theorem ordL_iff : ∀ {l : List GV}, ordL l = true ↔ ∀ y ∈ l, ordV y = true
  | [] => by simp [ordL]
  | x :: r => by simp [ordL, ordL_iff (l := r)]

def OrdC (x : GV) : Prop := ∀ (w : World) (v : Value), IsV w (Btw 0 w.heap.size) x v → Calls Try.prog 46 #[v] w fun e w' => e = .returned (.bool (ordV x)) ∧ Below w.heap.size w w'
theorem OrdC.use {x : GV} (h : OrdC x) (w : World) (v : Value) (hv : IsV w (Btw 0 w.heap.size) x v) : Calls Try.prog 46 #[v] w fun e w' => e = .returned (.bool (ordV x)) ∧ Below w.heap.size w w' := h w v hv

set_option maxHeartbeats 1000000 in
set_option maxRecDepth 100000 in
theorem ord_flt (n : Int) (f : Nat) (s : ByteArray) (ks : List ByteArray) (l : List GV) : OrdC (.mk 3 n f s ks l) := by
  intro w v hv
  obtain ⟨a0, c0, a1, c1, rfl⟩ := hv.form
  simp only [GV.kind, GV.n, GV.f, GV.s, GV.keys, GV.l]
  clear hv
  have e : ordV (.mk 3 n f s ks l) = feq f f := by simp [ordV]
  rw [e]
  go_enter Try.func46, Try.ntmps46
  go_wp2_with fail
  go_ret
  exact ⟨rfl, (Below.refl _ _).alloc (Nat.le_refl _) _⟩
set_option maxHeartbeats 1000000 in
set_option maxRecDepth 100000 in
theorem ord_int (n : Int) (f : Nat) (s : ByteArray) (ks : List ByteArray) (l : List GV) : OrdC (.mk 2 n f s ks l) := by
  intro w v hv
  obtain ⟨a0, c0, a1, c1, rfl⟩ := hv.form
  simp only [GV.kind, GV.n, GV.f, GV.s, GV.keys, GV.l]
  clear hv
  have e : ordV (.mk 2 n f s ks l) = (decide (-9007199254740992 ≤ n) && decide (n ≤ 9007199254740992)) := by simp [ordV]
  rw [e]
  by_cases h1 : -9007199254740992 ≤ n
  · have e1 : decide (-9007199254740992 ≤ n) = true := by simpa using h1
    rw [e1, Bool.true_and]
    go_enter Try.func46, Try.ntmps46
    go_wp2_with fail
    go_ret
    exact ⟨rfl, (Below.refl _ _).alloc (Nat.le_refl _) _⟩
  · have e1 : decide (-9007199254740992 ≤ n) = false := by simpa using h1
    rw [e1, Bool.false_and]
    go_enter Try.func46, Try.ntmps46
    go_wp2_with fail
    go_ret
    exact ⟨rfl, (Below.refl _ _).alloc (Nat.le_refl _) _⟩
set_option maxHeartbeats 1000000 in
set_option maxRecDepth 100000 in
theorem ord_other (k n : Int) (f : Nat) (s : ByteArray) (ks : List ByteArray) (l : List GV) (h2 : k ≠ 2) (h3 : k ≠ 3) (h5 : k ≠ 5) (h6 : k ≠ 6) : OrdC (.mk k n f s ks l) := by
  intro w v hv
  obtain ⟨a0, c0, a1, c1, rfl⟩ := hv.form
  simp only [GV.kind, GV.n, GV.f, GV.s, GV.keys, GV.l]
  clear hv
  have e : ordV (.mk k n f s ks l) = true := by simp [ordV, h2, h3, h5, h6]
  rw [e]
  have k2 : (k == 2) = false := by simp [h2]
  have k3 : (k == 3) = false := by simp [h3]
  have k5 : (k == 5) = false := by simp [h5]
  have k6 : (k == 6) = false := by simp [h6]
  go_enter Try.func46, Try.ntmps46
  go_wp2_with fail
  go_ret
  exact ⟨rfl, (Below.refl _ _).alloc (Nat.le_refl _) _⟩
set_option maxHeartbeats 1000000 in
set_option maxRecDepth 100000 in
theorem ord_list5 (n : Int) (f : Nat) (s : ByteArray) (ks : List ByteArray) (l : List GV) (ih : ∀ y ∈ l, OrdC y) : OrdC (.mk 5 n f s ks l) := by
  intro w v hv
  have hl88 := hv.len
  have hv0 := hv
  obtain ⟨a0, c0, a1, c1, rfl⟩ := hv.form
  have hl := hv0.vals
  simp only [GV.kind, GV.n, GV.f, GV.s, GV.keys, GV.l] at hl hl88 ⊢
  clear hv hv0
  have e : ordV (.mk 5 n f s ks l) = ordL l := by simp [ordV]
  rw [e]
  go_enter Try.func46, Try.ntmps46
  go_wp2_with fail
  have hB0 : Below w.heap.size w (w.alloc (.cells #[.int .i64 5, .int .i64 n, .float .f64 f, .string s, .slice a0 ks.length c0, .slice a1 l.length c1] 26)) := (Below.refl _ _).alloc (Nat.le_refl _) _
  generalize w.alloc (.cells #[.int .i64 5, .int .i64 n, .float .f64 f, .string s, .slice a0 ks.length c0, .slice a1 l.length c1] 26) = w0 at *
  go_loopw [30] (fun i wr => ∃ k : Nat, k ≤ l.length ∧ i = .int .i64 (k : Nat) ∧ Below w.heap.size w wr ∧ ∀ y ∈ l.take k, ordV y = true) (fun i _ => l.length - (intOf i).toNat)
  case atStart => exact ⟨0, Nat.zero_le _, rfl, hB0, by simp⟩
  case round =>
    clear hB0
    obtain ⟨k, hk, rfl, hB, hall⟩ := hrel
    by_cases hlt : k < l.length
    · obtain ⟨b, o, hb, rfl, hcells⟩ := vals_at hl (by omega)
      obtain ⟨y, hy⟩ : ∃ y, l[k]? = some y := ⟨l[k], by simp [hlt]⟩
      obtain ⟨e0, f0, e1, f1, g0, g1, g2, g3, g4, g5, hyv⟩ := (IsVs.keep (S' := Btw 0 wr.heap.size) (Btw.kept hB) (Btw.mono (Nat.le_refl _) hB.size) l b o hb hcells).cells hy
      have hc := ih y (List.mem_of_getElem? hy)
      have hyA := hyv.alloc_ (.cells #[.int .i64 y.kind, .int .i64 y.n, .float .f64 y.f, .string y.s, .slice e0 y.keys.length f0, .slice e1 y.l.length f1] 26)
      have HY := Lib.hid (And.intro hy (And.intro hall hB))
      have j0 : (0 : Int) ≤ (k : Int) := by omega
      have j1 : (k : Int) < (l.length : Int) := by omega
      have hs := hB.size
      clear hy hall hB hcells hyv
      go_wp2_with (go_at_call 46; (with_reducible refine (hc.use _ _ ?_).mono ?_))
      · simpa using hyA
      rintro e w2 ⟨rfl, hB2'⟩
      obtain ⟨hy, hall, hB⟩ := HY.out
      have hB2 : Below w.heap.size w w2 := (hB.alloc hs (.cells #[.int .i64 y.kind, .int .i64 y.n, .float .f64 y.f, .string y.s, .slice e0 y.keys.length f0, .slice e1 y.l.length f1] 26)).trans (hB2'.mono (by simp; omega))
      clear g0 g1 g2 g3 g4 g5 hyA hc HY hB2'
      cases ho : ordV y with
      | false =>
        have hf : ordL l = false := by
          cases h : ordL l with
          | false => rfl
          | true => rw [ordL_iff.1 h y (List.mem_of_getElem? hy)] at ho; cases ho
        go_wp2_with fail
        go_ret
        rw [hf]
        exact ⟨rfl, hB2⟩
      | true =>
        have HF := Lib.hid (show ∀ z ∈ l.take (k + 1), ordV z = true from fun z hz => by
          rw [List.take_add_one, hy] at hz
          rcases List.mem_append.1 hz with hz | hz
          · exact hall z hz
          · simp at hz; subst hz; exact ho)
        clear hall hy hB
        go_wp2_with fail
        go_roundw
        case rel => exact ⟨k + 1, hlt, by go_num, hB2, HF.out⟩
        case measure => simp [intOf]; omega
    · have hkl : k = l.length := by omega
      subst hkl
      have ht : ordL l = true := ordL_iff.2 (by rw [List.take_length] at hall; exact hall)
      have HT := Lib.hid ht
      clear ht hall
      go_wp2_with fail
      go_ret
      rw [HT.out]
      exact ⟨rfl, hB⟩
set_option maxHeartbeats 1000000 in
set_option maxRecDepth 100000 in
theorem ord_list6 (n : Int) (f : Nat) (s : ByteArray) (ks : List ByteArray) (l : List GV) (ih : ∀ y ∈ l, OrdC y) : OrdC (.mk 6 n f s ks l) := by
  intro w v hv
  have hl88 := hv.len
  have hv0 := hv
  obtain ⟨a0, c0, a1, c1, rfl⟩ := hv.form
  have hl := hv0.vals
  simp only [GV.kind, GV.n, GV.f, GV.s, GV.keys, GV.l] at hl hl88 ⊢
  clear hv hv0
  have e : ordV (.mk 6 n f s ks l) = ordL l := by simp [ordV]
  rw [e]
  go_enter Try.func46, Try.ntmps46
  go_wp2_with fail
  have hB0 : Below w.heap.size w (w.alloc (.cells #[.int .i64 6, .int .i64 n, .float .f64 f, .string s, .slice a0 ks.length c0, .slice a1 l.length c1] 26)) := (Below.refl _ _).alloc (Nat.le_refl _) _
  generalize w.alloc (.cells #[.int .i64 6, .int .i64 n, .float .f64 f, .string s, .slice a0 ks.length c0, .slice a1 l.length c1] 26) = w0 at *
  go_loopw [30] (fun i wr => ∃ k : Nat, k ≤ l.length ∧ i = .int .i64 (k : Nat) ∧ Below w.heap.size w wr ∧ ∀ y ∈ l.take k, ordV y = true) (fun i _ => l.length - (intOf i).toNat)
  case atStart => exact ⟨0, Nat.zero_le _, rfl, hB0, by simp⟩
  case round =>
    clear hB0
    obtain ⟨k, hk, rfl, hB, hall⟩ := hrel
    by_cases hlt : k < l.length
    · obtain ⟨b, o, hb, rfl, hcells⟩ := vals_at hl (by omega)
      obtain ⟨y, hy⟩ : ∃ y, l[k]? = some y := ⟨l[k], by simp [hlt]⟩
      obtain ⟨e0, f0, e1, f1, g0, g1, g2, g3, g4, g5, hyv⟩ := (IsVs.keep (S' := Btw 0 wr.heap.size) (Btw.kept hB) (Btw.mono (Nat.le_refl _) hB.size) l b o hb hcells).cells hy
      have hc := ih y (List.mem_of_getElem? hy)
      have hyA := hyv.alloc_ (.cells #[.int .i64 y.kind, .int .i64 y.n, .float .f64 y.f, .string y.s, .slice e0 y.keys.length f0, .slice e1 y.l.length f1] 26)
      have HY := Lib.hid (And.intro hy (And.intro hall hB))
      have j0 : (0 : Int) ≤ (k : Int) := by omega
      have j1 : (k : Int) < (l.length : Int) := by omega
      have hs := hB.size
      clear hy hall hB hcells hyv
      go_wp2_with (go_at_call 46; (with_reducible refine (hc.use _ _ ?_).mono ?_))
      · simpa using hyA
      rintro e w2 ⟨rfl, hB2'⟩
      obtain ⟨hy, hall, hB⟩ := HY.out
      have hB2 : Below w.heap.size w w2 := (hB.alloc hs (.cells #[.int .i64 y.kind, .int .i64 y.n, .float .f64 y.f, .string y.s, .slice e0 y.keys.length f0, .slice e1 y.l.length f1] 26)).trans (hB2'.mono (by simp; omega))
      clear g0 g1 g2 g3 g4 g5 hyA hc HY hB2'
      cases ho : ordV y with
      | false =>
        have hf : ordL l = false := by
          cases h : ordL l with
          | false => rfl
          | true => rw [ordL_iff.1 h y (List.mem_of_getElem? hy)] at ho; cases ho
        go_wp2_with fail
        go_ret
        rw [hf]
        exact ⟨rfl, hB2⟩
      | true =>
        have HF := Lib.hid (show ∀ z ∈ l.take (k + 1), ordV z = true from fun z hz => by
          rw [List.take_add_one, hy] at hz
          rcases List.mem_append.1 hz with hz | hz
          · exact hall z hz
          · simp at hz; subst hz; exact ho)
        clear hall hy hB
        go_wp2_with fail
        go_roundw
        case rel => exact ⟨k + 1, hlt, by go_num, hB2, HF.out⟩
        case measure => simp [intOf]; omega
    · have hkl : k = l.length := by omega
      subst hkl
      have ht : ordL l = true := ordL_iff.2 (by rw [List.take_length] at hall; exact hall)
      have HT := Lib.hid ht
      clear ht hall
      go_wp2_with fail
      go_ret
      rw [HT.out]
      exact ⟨rfl, hB⟩

/-- Orderly tells whether a value is orderly. -/
theorem ord_any : ∀ x : GV, OrdC x
  | .mk k n f s ks l => by
    have ih : ∀ y ∈ l, OrdC y := fun y hy => ord_any y
    by_cases h2 : k = 2
    · subst h2; exact ord_int n f s ks l
    by_cases h3 : k = 3
    · subst h3; exact ord_flt n f s ks l
    by_cases h5 : k = 5
    · subst h5; exact ord_list5 n f s ks l ih
    by_cases h6 : k = 6
    · subst h6; exact ord_list6 n f s ks l ih
    exact ord_other k n f s ks l h2 h3 h5 h6
termination_by x => SizeOf.sizeOf x
decreasing_by
  have := List.sizeOf_lt_of_mem hy
  simp; omega
end Go.Proofs.Ytlghpcokbppkfaa
