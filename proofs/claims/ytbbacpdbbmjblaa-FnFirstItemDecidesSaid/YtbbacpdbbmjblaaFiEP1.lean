/- Two lists that begin alike compare as the first items in which they differ, whatever follows these; the common beginning and the two items hold no NaN and no whole number beyond 2^53. -/
import Derived.Test.YtbbacpdbbmjblaaRows
import Derived.OpenShut
import Derived.Test.YtbbacpdbbmjblaaFiE8

namespace Go.Proofs.Ytbbacpdbbmjblaa.fnFirstItemDecides
open Go.ChangeShapes Go.WideShapes Go.ChangeAt Go.RowKit
theorem own : ownKnob Try.prog.godebug = none := by kernel_rfl
theorem laid : laidOutB Try.prog = true := by kernel_rfl
set_option maxRecDepth 100000 in
theorem lifted (os : Os) (started : os.Started) (H : Type) (enc : TypeId × Value → H) :
    ReturnsInHanded {} Try.checked os 8 .any (Rows.fnFirstItemDecidesSpec.pre6 enc Try.prog Try.f8 Rows.fnFirstItemDecidesRow.domain false) (Rows.fnFirstItemDecidesSpec.post enc Try.prog Try.f8 false true false false) := by
  refine returnsInHanded_of_change_sized (C := Try.checked) own started (by kernel_rfl) Try.func8
    (ChangeSpec.witness6 (enc := enc) (C := Try.checked) false ⟨#[], #[.slice none 0 0, .agg #[.int .i64 0, .int .i64 0, .float .f64 0, .string ⟨#[]⟩, .slice none 0 0, .slice none 0 0], .agg #[.int .i64 0, .int .i64 0, .float .f64 0, .string ⟨#[]⟩, .slice none 0 0, .slice none 0 0], .slice none 0 0, .slice none 0 0], []⟩ 8 (by kernel_rfl) (by kernel_rfl) (by kernel_rfl) (by kernel_rfl)) ?_
  intro W base args ds gs before hval0 hW _ hsz0 _
  have hsz : (DataW.weightsEach Try.prog (Try.f8.params.toList ++ Rows.fnFirstItemDecidesSpec.plain.varTypes Try.prog) (ds ++ gs)).all (· ≤ reachBytes) = true := hsz0
  clear hsz0
  have hval : ∀ (j : Nat) t v, Try.f8.params[j]? = some t → args[j]? = some v → Value.okWide Try.prog W .any base t v := hval0
  have hW' := hW
  obtain ⟨p, q, hA0, hV, rfl, _, _⟩ := hW
  have hA : DataW.TrodAll enc Try.prog W 0 (fun _ => true) true Try.f8.params.toList args.toList ds p := hA0
  rw [Try.params8] at hA hval hsz
  obtain ⟨v0, vs0, d0, ds0, p0, q0, hargs, rfl, rfl, h0, r0⟩ := trodAll_cons hA
  obtain ⟨v1, vs1, d1, ds1, p1, q1, rfl, rfl, rfl, h1, r1⟩ := trodAll_cons r0
  obtain ⟨v2, vs2, d2, ds2, p2, q2, rfl, rfl, rfl, h2, r2⟩ := trodAll_cons r1
  obtain ⟨v3, vs3, d3, ds3, p3, q3, rfl, rfl, rfl, h3, r3⟩ := trodAll_cons r2
  obtain ⟨v4, vs4, d4, ds4, p4, q4, rfl, rfl, rfl, h4, r4⟩ := trodAll_cons r3
  obtain ⟨rfl, rfl, rfl⟩ := trodAll_nil r4
  obtain rfl : args = #[v0, v1, v2, v3, v4] := by cases args; simp_all
  obtain ⟨rfl, rfl⟩ := trodVars_none hV
  clear hA0 hval0 hA r0 r1 r2 r3 r4
  simp only [List.append_nil] at hW'
  have hlt0 : ∀ x ∈ p0, x.block < W.heap.size := fun x hx => by simpa using hW'.lt x (by simp [hx])
  have hlt1 : ∀ x ∈ p1, x.block < W.heap.size := fun x hx => by simpa using hW'.lt x (by simp [hx])
  have hlt2 : ∀ x ∈ p2, x.block < W.heap.size := fun x hx => by simpa using hW'.lt x (by simp [hx])
  have hlt3 : ∀ x ∈ p3, x.block < W.heap.size := fun x hx => by simpa using hW'.lt x (by simp [hx])
  have hlt4 : ∀ x ∈ p4, x.block < W.heap.size := fun x hx => by simpa using hW'.lt x (by simp [hx])
  obtain ⟨a0, len0, cap0, rfl⟩ := okWide_slice Try.underlying33 (hval 0 _ v0 rfl rfl)
  obtain ⟨x0, hx0⟩ : ∃ x : List GV, Rep W (Btw 0 W.heap.size) (.sl 6 88 (pdVs x)) (.slice a0 len0 cap0) := by
    obtain ⟨fuel, hf⟩ := h0
    obtain ⟨x, v', e, hx⟩ := openLV fuel hf (fun n hn => by
    have := List.all_eq_true.1 hsz n (DataW.weights_mem_each (j := 0) rfl rfl n hn)
    simpa using this)
    have e : [Value.slice a0 len0 cap0] = [v'] := e
    simp only [List.cons.injEq, and_true] at e
    exact ⟨x, by rw [e]; exact hx⟩
  obtain ⟨x1, hx1⟩ := isV_of_arg (hval 1 _ v1 rfl rfl) h1 (fun n hn => by
    have := List.all_eq_true.1 hsz n (DataW.weights_mem_each (j := 1) rfl rfl n hn)
    simpa using this)
  have hx1 := isV_rep _ hx1
  rw [pdV_eq] at hx1
  obtain ⟨x2, hx2⟩ := isV_of_arg (hval 2 _ v2 rfl rfl) h2 (fun n hn => by
    have := List.all_eq_true.1 hsz n (DataW.weights_mem_each (j := 2) rfl rfl n hn)
    simpa using this)
  have hx2 := isV_rep _ hx2
  rw [pdV_eq] at hx2
  obtain ⟨a3, len3, cap3, rfl⟩ := okWide_slice Try.underlying33 (hval 3 _ v3 rfl rfl)
  obtain ⟨x3, hx3⟩ : ∃ x : List GV, Rep W (Btw 0 W.heap.size) (.sl 6 88 (pdVs x)) (.slice a3 len3 cap3) := by
    obtain ⟨fuel, hf⟩ := h3
    obtain ⟨x, v', e, hx⟩ := openLV fuel hf (fun n hn => by
    have := List.all_eq_true.1 hsz n (DataW.weights_mem_each (j := 3) rfl rfl n hn)
    simpa using this)
    have e : [Value.slice a3 len3 cap3] = [v'] := e
    simp only [List.cons.injEq, and_true] at e
    exact ⟨x, by rw [e]; exact hx⟩
  obtain ⟨a4, len4, cap4, rfl⟩ := okWide_slice Try.underlying33 (hval 4 _ v4 rfl rfl)
  obtain ⟨x4, hx4⟩ : ∃ x : List GV, Rep W (Btw 0 W.heap.size) (.sl 6 88 (pdVs x)) (.slice a4 len4 cap4) := by
    obtain ⟨fuel, hf⟩ := h4
    obtain ⟨x, v', e, hx⟩ := openLV fuel hf (fun n hn => by
    have := List.all_eq_true.1 hsz n (DataW.weights_mem_each (j := 4) rfl rfl n hn)
    simpa using this)
    have e : [Value.slice a4 len4 cap4] = [v'] := e
    simp only [List.cons.injEq, and_true] at e
    exact ⟨x, by rw [e]; exact hx⟩
  refine (lawFI_p x0 x1 x2 x3 x4 W (Btw 0 W.heap.size) [.slice a0 len0 cap0, v1, v2, .slice a3 len3 cap3, .slice a4 len4 cap4] (fun b hb => hb.2) (by
    simp only [Reps]
    exact ⟨_, _, rfl, hx0, _, _, rfl, hx1, _, _, rfl, hx2, _, _, rfl, hx3, _, _, rfl, hx4, rfl⟩)).mono fun e W' ⟨r, he, hB, hr⟩ => ?_
  unfold Rep at hr
  obtain ⟨rfl, -⟩ := hr
  subst he
  refine ⟨_, rfl, _, _, _, [], p0 ++ (p1 ++ (p2 ++ (p3 ++ p4))), [], hW', trodAll_cons_mk (shut_bool Try.underlying4 _) trodAll_mk0, ?_, rfl, hB.frame _, fun h => by cases h⟩
  exact trodAll_cons_mk (Below.trod laid (by kernel_rfl) (of_decide_eq_true (by kernel_rfl)) h0 hB hlt0) (trodAll_mk4 (Below.trod laid (by kernel_rfl) (of_decide_eq_true (by kernel_rfl)) h1 hB hlt1) (Below.trod laid (by kernel_rfl) (of_decide_eq_true (by kernel_rfl)) h2 hB hlt2) (Below.trod laid (by kernel_rfl) (of_decide_eq_true (by kernel_rfl)) h3 hB hlt3) (Below.trod laid (by kernel_rfl) (of_decide_eq_true (by kernel_rfl)) h4 hB hlt4))
theorem over : Rows.fnFirstItemDecidesRow.holds Try.pinned (OpenSpec.ofChange Rows.fnFirstItemDecidesSpec) :=
  OpenClaim.holds_of_wide 8 Try.f8 rfl rfl rfl rfl rfl rfl rfl ⟨rfl, rfl, rfl, rfl, rfl⟩ rfl rfl rfl rfl rfl (by kernel_rfl) Try.func8 (by kernel_rfl)
    (of_decide_eq_true (by kernel_rfl)) (by unfold Func.isWrapper; first | (rw [if_pos (by decide +kernel)]; kernel_rfl) | (rw [if_neg (by decide +kernel)]; exact ⟨rfl, rfl⟩))
    (fun os started H enc _ => lifted os started H enc)
/-- ████ THE STATEMENT ████ -/
theorem proved : Rows.FnFirstItemDecidesSaid :=
  over
#print axioms proved
end Go.Proofs.Ytbbacpdbbmjblaa.fnFirstItemDecides
