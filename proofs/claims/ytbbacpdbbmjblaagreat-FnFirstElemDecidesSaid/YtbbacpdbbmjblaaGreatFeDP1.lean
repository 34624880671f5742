/- Two paths that begin alike compare as the first elements in which they differ, whatever follows these; what they have in common and these two hold no NaN and no whole number beyond 2^53, and keys have sorted names. -/
import Derived.Test.YtbbacpdbbmjblaaGreatRows
import Derived.OpenShut
import Derived.Test.YtbbacpdbbmjblaaGreatFeD11

namespace Go.Proofs.YtbbacpdbbmjblaaGreat.fnFirstElemDecides
open Go.ChangeShapes Go.WideShapes Go.ChangeAt Go.RowKit
theorem own : ownKnob Tryz.prog.godebug = none := by kernel_rfl
theorem laid : laidOutB Tryz.prog = true := by kernel_rfl
set_option maxRecDepth 100000 in
theorem lifted (os : Os) (started : os.Started) (H : Type) (enc : TypeId × Value → H) :
    ReturnsInHanded {} Tryz.checked os 5 .any (Rows.fnFirstElemDecidesSpec.pre6 enc Tryz.prog Tryz.f5 Rows.fnFirstElemDecidesRow.domain false) (Rows.fnFirstElemDecidesSpec.post enc Tryz.prog Tryz.f5 false true false false) := by
  refine returnsInHanded_of_change_sized (C := Tryz.checked) own started (by kernel_rfl) Tryz.func5
    (ChangeSpec.witness6 (enc := enc) (C := Tryz.checked) false ⟨#[], #[.slice none 0 0, .agg #[.int .i64 0, .string ⟨#[]⟩, .slice none 0 0, .slice none 0 0, .int .i64 0, .int .i64 0, .float .f64 0, .string ⟨#[]⟩, .slice none 0 0, .slice none 0 0, .int .i64 0], .agg #[.int .i64 0, .string ⟨#[]⟩, .slice none 0 0, .slice none 0 0, .int .i64 0, .int .i64 0, .float .f64 0, .string ⟨#[]⟩, .slice none 0 0, .slice none 0 0, .int .i64 0], .slice none 0 0, .slice none 0 0], []⟩ 8 (by kernel_rfl) (by kernel_rfl) (by kernel_rfl) (by kernel_rfl)) ?_
  intro W base args ds gs before hval0 hW _ hsz0 _
  have hsz : (DataW.weightsEach Tryz.prog (Tryz.f5.params.toList ++ Rows.fnFirstElemDecidesSpec.plain.varTypes Tryz.prog) (ds ++ gs)).all (· ≤ reachBytes) = true := hsz0
  clear hsz0
  have hval : ∀ (j : Nat) t v, Tryz.f5.params[j]? = some t → args[j]? = some v → Value.okWide Tryz.prog W .any base t v := hval0
  have hW' := hW
  obtain ⟨p, q, hA0, hV, rfl, _, _⟩ := hW
  have hA : DataW.TrodAll enc Tryz.prog W 0 (fun _ => true) true Tryz.f5.params.toList args.toList ds p := hA0
  rw [Tryz.params5] at hA hval hsz
  obtain ⟨v0, vs0, d0, ds0, p0, q0, hargs, rfl, rfl, h0, r0⟩ := trodAll_cons hA
  obtain ⟨v1, vs1, d1, ds1, p1, q1, rfl, rfl, rfl, h1, r1⟩ := trodAll_cons r0
  obtain ⟨v2, vs2, d2, ds2, p2, q2, rfl, rfl, rfl, h2, r2⟩ := trodAll_cons r1
  obtain ⟨v3, vs3, d3, ds3, p3, q3, rfl, rfl, rfl, h3, r3⟩ := trodAll_cons r2
  obtain ⟨v4, vs4, d4, ds4, p4, q4, rfl, rfl, rfl, h4, r4⟩ := trodAll_cons r3
  obtain ⟨rfl, rfl, rfl⟩ := trodAll_nil r4
  obtain rfl : args = #[v0, v1, v2, v3, v4] := by cases args; simp_all
  obtain ⟨rfl, rfl⟩ := trodVars_none hV
  clear hA0 hval0 hA r0 r1 r2 r3 r4
  simp only [List.append_nil] at hW'
  have hlt0 : ∀ x ∈ p0, x.block < W.heap.size := fun x hx => by simpa using hW'.lt x (by simp [hx])
  have hlt1 : ∀ x ∈ p1, x.block < W.heap.size := fun x hx => by simpa using hW'.lt x (by simp [hx])
  have hlt2 : ∀ x ∈ p2, x.block < W.heap.size := fun x hx => by simpa using hW'.lt x (by simp [hx])
  have hlt3 : ∀ x ∈ p3, x.block < W.heap.size := fun x hx => by simpa using hW'.lt x (by simp [hx])
  have hlt4 : ∀ x ∈ p4, x.block < W.heap.size := fun x hx => by simpa using hW'.lt x (by simp [hx])
  obtain ⟨a0, len0, cap0, rfl⟩ := okWide_slice Tryz.underlying22 (hval 0 _ v0 rfl rfl)
  obtain ⟨x0, hx0⟩ : ∃ x : List EV, Rep W (Btw 0 W.heap.size) (.sl 11 168 (x.map pdE)) (.slice a0 len0 cap0) := by
    obtain ⟨fuel, hf⟩ := h0
    obtain ⟨x, v', e, hx⟩ := openLE fuel hf (fun n hn => by
    have := List.all_eq_true.1 hsz n (DataW.weights_mem_each (j := 0) rfl rfl n hn)
    simpa using this)
    have e : [Value.slice a0 len0 cap0] = [v'] := e
    simp only [List.cons.injEq, and_true] at e
    exact ⟨x, by rw [e]; exact hx⟩
  obtain ⟨x1, hx1⟩ := isE_of_arg (hval 1 _ v1 rfl rfl) h1 (fun n hn => by
    have := List.all_eq_true.1 hsz n (DataW.weights_mem_each (j := 1) rfl rfl n hn)
    simpa using this)
  have hx1 := isE_rep hx1
  obtain ⟨x2, hx2⟩ := isE_of_arg (hval 2 _ v2 rfl rfl) h2 (fun n hn => by
    have := List.all_eq_true.1 hsz n (DataW.weights_mem_each (j := 2) rfl rfl n hn)
    simpa using this)
  have hx2 := isE_rep hx2
  obtain ⟨a3, len3, cap3, rfl⟩ := okWide_slice Tryz.underlying22 (hval 3 _ v3 rfl rfl)
  obtain ⟨x3, hx3⟩ : ∃ x : List EV, Rep W (Btw 0 W.heap.size) (.sl 11 168 (x.map pdE)) (.slice a3 len3 cap3) := by
    obtain ⟨fuel, hf⟩ := h3
    obtain ⟨x, v', e, hx⟩ := openLE fuel hf (fun n hn => by
    have := List.all_eq_true.1 hsz n (DataW.weights_mem_each (j := 3) rfl rfl n hn)
    simpa using this)
    have e : [Value.slice a3 len3 cap3] = [v'] := e
    simp only [List.cons.injEq, and_true] at e
    exact ⟨x, by rw [e]; exact hx⟩
  obtain ⟨a4, len4, cap4, rfl⟩ := okWide_slice Tryz.underlying22 (hval 4 _ v4 rfl rfl)
  obtain ⟨x4, hx4⟩ : ∃ x : List EV, Rep W (Btw 0 W.heap.size) (.sl 11 168 (x.map pdE)) (.slice a4 len4 cap4) := by
    obtain ⟨fuel, hf⟩ := h4
    obtain ⟨x, v', e, hx⟩ := openLE fuel hf (fun n hn => by
    have := List.all_eq_true.1 hsz n (DataW.weights_mem_each (j := 4) rfl rfl n hn)
    simpa using this)
    have e : [Value.slice a4 len4 cap4] = [v'] := e
    simp only [List.cons.injEq, and_true] at e
    exact ⟨x, by rw [e]; exact hx⟩
  refine (lawFE_p x0 x1 x2 x3 x4 W (Btw 0 W.heap.size) [.slice a0 len0 cap0, v1, v2, .slice a3 len3 cap3, .slice a4 len4 cap4] (fun b hb => hb.2) (by
    simp only [Reps]
    exact ⟨_, _, rfl, hx0, _, _, rfl, hx1, _, _, rfl, hx2, _, _, rfl, hx3, _, _, rfl, hx4, rfl⟩)).mono fun e W' ⟨r, he, hB, hr⟩ => ?_
  unfold Rep at hr
  obtain ⟨rfl, -⟩ := hr
  subst he
  refine ⟨_, rfl, _, _, _, [], p0 ++ (p1 ++ (p2 ++ (p3 ++ p4))), [], hW', trodAll_cons_mk (shut_bool Tryz.underlying4 _) trodAll_mk0, ?_, rfl, hB.frame _, fun h => by cases h⟩
  exact trodAll_cons_mk (Below.trod laid (by kernel_rfl) (of_decide_eq_true (by kernel_rfl)) h0 hB hlt0) (trodAll_mk4 (Below.trod laid (by kernel_rfl) (of_decide_eq_true (by kernel_rfl)) h1 hB hlt1) (Below.trod laid (by kernel_rfl) (of_decide_eq_true (by kernel_rfl)) h2 hB hlt2) (Below.trod laid (by kernel_rfl) (of_decide_eq_true (by kernel_rfl)) h3 hB hlt3) (Below.trod laid (by kernel_rfl) (of_decide_eq_true (by kernel_rfl)) h4 hB hlt4))
theorem over : Rows.fnFirstElemDecidesRow.holds Tryz.pinned (OpenSpec.ofChange Rows.fnFirstElemDecidesSpec) :=
  OpenClaim.holds_of_wide 5 Tryz.f5 rfl rfl rfl rfl rfl rfl rfl ⟨rfl, rfl, rfl, rfl, rfl⟩ rfl rfl rfl rfl rfl (by kernel_rfl) Tryz.func5 (by kernel_rfl)
    (of_decide_eq_true (by kernel_rfl)) (by unfold Func.isWrapper; first | (rw [if_pos (by decide +kernel)]; kernel_rfl) | (rw [if_neg (by decide +kernel)]; exact ⟨rfl, rfl⟩))
    (fun os started H enc _ => lifted os started H enc)
/-- ████ THE STATEMENT ████ -/
theorem proved : Rows.FnFirstElemDecidesSaid :=
  over
#print axioms proved
end Go.Proofs.YtbbacpdbbmjblaaGreat.fnFirstElemDecides
