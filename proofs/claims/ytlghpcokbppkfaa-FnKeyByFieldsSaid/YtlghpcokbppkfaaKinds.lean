/- impl.Kinds. -/
import Derived.Test.YtlghpcokbppkfaaIsX
namespace Go.Proofs.Ytlghpcokbppkfaa
open Go.RowKit

/-- The seven answers, in their order. -/
def kindsJ (j : JV) : List Bool := [j.IsMap, j.IsList, j.IsBool, j.IsInt, j.IsFloat, j.IsString, j.IsNull]

set_option maxHeartbeats 1000000 in
set_option maxRecDepth 100000 in
theorem kinds_any (x : GV) (w : World) (v : Value) (hv : IsV w (Btw 0 w.heap.size) x v) :
    Calls Try.prog 16 #[v] w fun e w' => ∃ b, w.heap.size ≤ b ∧ e = .returned (.slice (some ⟨b, 0, none⟩) 7 7) ∧
      w'.heap[b]? = some (.cells ((kindsJ (plainJ x)).map Value.bool).toArray 4) ∧ Below w.heap.size w w' := by
  obtain ⟨j, hjx⟩ : ∃ j, j = plainJ x := ⟨_, rfl⟩
  rw [← hjx]
  obtain ⟨a0, c0, a1, c1, rfl⟩ := hv.form
  have hv1 := IsV.keep (S := Btw 0 w.heap.size) (S' := Btw 0 (w.heap.size + 1)) (w' := w.alloc (.cells #[.int .i64 x.kind, .int .i64 x.n, .float .f64 x.f, .string x.s, .slice a0 x.keys.length c0, .slice a1 x.l.length c1] 26))
        (fun b hb => Below.heap_alloc _ _ _ hb.2) (Btw.mono (Nat.le_refl _) (by omega)) _ hv
  clear hv
  go_enter Try.func16, Try.ntmps16
  go_wp2_with (go_at_call 65; (with_reducible refine (toValue_any x _ _ (by simpa using hv1)).mono ?_))
  rintro e w2 ⟨_, rfl, hB2, b, r, rfl, hb, hh, hj⟩
  have hc2 : w2.cell? ⟨b, 0, none⟩ = some r := by rw [cell_of_row w2 b 0 _ _ _ hh]; rfl
  have m1 := fun n w hn hc => method_IsMap b n r w hn hc
  have m2 := fun n w hn hc => method_IsList b n r w hn hc
  have m3 := fun n w hn hc => method_IsBool b n r w hn hc
  have m4 := fun n w hn hc => method_IsInt b n r w hn hc
  have m5 := fun n w hn hc => method_IsFloat b n r w hn hc
  have m6 := fun n w hn hc => method_IsString b n r w hn hc
  have m7 := fun n w hn hc => method_IsNull b n r w hn hc
  have hf := hj.shape
  have hs2 := hB2.size
  clear hh hj
  rw [← hjx] at hf
  clear hjx
  have hb2 : b < w2.heap.size := hb.2
  go_wp2_with fail
  refine (IsMap_val j w2 r hf b hb2 hc2).mono ?_
  rintro e w3 ⟨rfl, hB3, hc3⟩
  have hb3 : b < w3.heap.size := Nat.lt_of_lt_of_le hb2 hB3.size
  go_wp2_with fail
  refine (IsList_val j w3 r hf b hb3 hc3).mono ?_
  rintro e w4 ⟨rfl, hB4, hc4⟩
  have hb4 : b < w4.heap.size := Nat.lt_of_lt_of_le hb3 hB4.size
  go_wp2_with fail
  refine (IsBool_val j w4 r hf b hb4 hc4).mono ?_
  rintro e w5 ⟨rfl, hB5, hc5⟩
  have hb5 : b < w5.heap.size := Nat.lt_of_lt_of_le hb4 hB5.size
  go_wp2_with fail
  refine (IsInt_val j w5 r hf b hb5 hc5).mono ?_
  rintro e w6 ⟨rfl, hB6, hc6⟩
  have hb6 : b < w6.heap.size := Nat.lt_of_lt_of_le hb5 hB6.size
  go_wp2_with fail
  refine (IsFloat_val j w6 r hf b hb6 hc6).mono ?_
  rintro e w7 ⟨rfl, hB7, hc7⟩
  have hb7 : b < w7.heap.size := Nat.lt_of_lt_of_le hb6 hB7.size
  go_wp2_with fail
  refine (IsString_val j w7 r hf b hb7 hc7).mono ?_
  rintro e w8 ⟨rfl, hB8, hc8⟩
  have hb8 : b < w8.heap.size := Nat.lt_of_lt_of_le hb7 hB8.size
  go_wp2_with fail
  refine (IsNull_val j w8 r hf b hb8 hc8).mono ?_
  rintro e w9 ⟨rfl, hB9, hc9⟩
  have hb9 : b < w9.heap.size := Nat.lt_of_lt_of_le hb8 hB9.size
  go_wp2_with fail
  have hB : Below w.heap.size w w9 := by
    have h1 : Below w.heap.size w (w.alloc (.cells #[.int .i64 x.kind, .int .i64 x.n, .float .f64 x.f, .string x.s, .slice a0 x.keys.length c0, .slice a1 x.l.length c1] 26)) := (Below.refl _ _).alloc (Nat.le_refl _) _
    have hl : w.heap.size ≤ w2.heap.size := Nat.le_trans h1.size hB2.size
    have t3 := Nat.le_trans hl hB3.size
    have t4 := Nat.le_trans t3 hB4.size
    have t5 := Nat.le_trans t4 hB5.size
    have t6 := Nat.le_trans t5 hB6.size
    have t7 := Nat.le_trans t6 hB7.size
    have t8 := Nat.le_trans t7 hB8.size
    exact ((((((((h1.trans (hB2.mono h1.size)).trans (hB3.mono hl)).trans (hB4.mono t3)).trans (hB5.mono t4)).trans (hB6.mono t5)).trans (hB7.mono t6)).trans (hB8.mono t7)).trans (hB9.mono t8))
  go_ret
  exact ⟨w9.heap.size, hB.size, rfl, new_block rfl, hB.alloc hB.size _⟩
end Go.Proofs.Ytlghpcokbppkfaa
