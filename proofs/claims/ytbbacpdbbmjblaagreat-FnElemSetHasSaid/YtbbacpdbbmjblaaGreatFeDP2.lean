/- A set of path elements has an element exactly if one that was inserted equals it; having inserted it, it has it, and its size has grown by one unless it had it; the values hold no NaN and no whole number beyond 2^53, keys have sorted names. -/
import Derived.Test.YtbbacpdbbmjblaaGreatRows
import Derived.OpenShut
import Derived.Test.YtbbacpdbbmjblaaGreatFeD11
import Derived.Test.YtbbacpdbbmjblaaGreatFeD13

namespace Go.Proofs.YtbbacpdbbmjblaaGreat.fnElemSetHas
open Go.ChangeShapes Go.WideShapes Go.ChangeAt Go.RowKit
theorem own : ownKnob Tryz.prog.godebug = none := by kernel_rfl
theorem laid : laidOutB Tryz.prog = true := by kernel_rfl
set_option maxRecDepth 100000 in
theorem lifted (os : Os) (started : os.Started) (H : Type) (enc : TypeId × Value → H) :
    ReturnsInHanded {} Tryz.checked os 3 .any (Rows.fnElemSetHasSpec.pre6 enc Tryz.prog Tryz.f3 Rows.fnElemSetHasRow.domain false) (Rows.fnElemSetHasSpec.post enc Tryz.prog Tryz.f3 false true false false) := by
  refine returnsInHanded_of_change_sized (C := Tryz.checked) own started (by kernel_rfl) Tryz.func3
    (ChangeSpec.witness6 (enc := enc) (C := Tryz.checked) false ⟨#[], #[.slice none 0 0, .agg #[.int .i64 0, .string ⟨#[]⟩, .slice none 0 0, .slice none 0 0, .int .i64 0, .int .i64 0, .float .f64 0, .string ⟨#[]⟩, .slice none 0 0, .slice none 0 0, .int .i64 0]], []⟩ 8 (by kernel_rfl) (by kernel_rfl) (by kernel_rfl) (by kernel_rfl)) ?_
  intro W base args ds gs before hval0 hW _ hsz0 _
  have hsz : (DataW.weightsEach Tryz.prog (Tryz.f3.params.toList ++ Rows.fnElemSetHasSpec.plain.varTypes Tryz.prog) (ds ++ gs)).all (· ≤ reachBytes) = true := hsz0
  clear hsz0
  have hval : ∀ (j : Nat) t v, Tryz.f3.params[j]? = some t → args[j]? = some v → Value.okWide Tryz.prog W .any base t v := hval0
  have hW' := hW
  obtain ⟨p, q, hA0, hV, rfl, _, _⟩ := hW
  have hA : DataW.TrodAll enc Tryz.prog W 0 (fun _ => true) true Tryz.f3.params.toList args.toList ds p := hA0
  rw [Tryz.params3] at hA hval hsz
  obtain ⟨v0, vs0, d0, ds0, p0, q0, hargs, rfl, rfl, h0, r0⟩ := trodAll_cons hA
  obtain ⟨v1, vs1, d1, ds1, p1, q1, rfl, rfl, rfl, h1, r1⟩ := trodAll_cons r0
  obtain ⟨rfl, rfl, rfl⟩ := trodAll_nil r1
  obtain rfl : args = #[v0, v1] := by cases args; simp_all
  obtain ⟨rfl, rfl⟩ := trodVars_none hV
  clear hA0 hval0 hA r0 r1
  simp only [List.append_nil] at hW'
  have hlt0 : ∀ x ∈ p0, x.block < W.heap.size := fun x hx => by simpa using hW'.lt x (by simp [hx])
  have hlt1 : ∀ x ∈ p1, x.block < W.heap.size := fun x hx => by simpa using hW'.lt x (by simp [hx])
  obtain ⟨a0, len0, cap0, rfl⟩ := okWide_slice Tryz.underlying22 (hval 0 _ v0 rfl rfl)
  obtain ⟨x0, hx0⟩ : ∃ x : List EV, Rep W (Btw 0 W.heap.size) (.sl 11 168 (x.map pdE)) (.slice a0 len0 cap0) := by
    obtain ⟨fuel, hf⟩ := h0
    obtain ⟨x, v', e, hx⟩ := openLE fuel hf (fun n hn => by
    have := List.all_eq_true.1 hsz n (DataW.weights_mem_each (j := 0) rfl rfl n hn)
    simpa using this)
    have e : [Value.slice a0 len0 cap0] = [v'] := e
    simp only [List.cons.injEq, and_true] at e
    exact ⟨x, by rw [e]; exact hx⟩
  obtain ⟨x1, hx1⟩ := isE_of_arg (hval 1 _ v1 rfl rfl) h1 (fun n hn => by
    have := List.all_eq_true.1 hsz n (DataW.weights_mem_each (j := 1) rfl rfl n hn)
    simpa using this)
  have hx1 := isE_rep hx1
  refine (lawSH_p x0 x1 W (Btw 0 W.heap.size) [.slice a0 len0 cap0, v1] (fun b hb => hb.2) (by
    simp only [Reps]
    exact ⟨_, _, rfl, hx0, _, _, rfl, hx1, rfl⟩)).mono fun e W' ⟨r, he, hB, hr⟩ => ?_
  unfold Rep at hr
  obtain ⟨rfl, -⟩ := hr
  subst he
  refine ⟨_, rfl, _, _, _, [], p0 ++ p1, [], hW', trodAll_cons_mk (shut_bool Tryz.underlying4 _) trodAll_mk0, ?_, rfl, hB.frame _, fun h => by cases h⟩
  exact trodAll_mk2 (Below.trod laid (by kernel_rfl) (of_decide_eq_true (by kernel_rfl)) h0 hB hlt0) (Below.trod laid (by kernel_rfl) (of_decide_eq_true (by kernel_rfl)) h1 hB hlt1)
theorem over : Rows.fnElemSetHasRow.holds Tryz.pinned (OpenSpec.ofChange Rows.fnElemSetHasSpec) :=
  OpenClaim.holds_of_wide 3 Tryz.f3 rfl rfl rfl rfl rfl rfl rfl ⟨rfl, rfl, rfl, rfl, rfl⟩ rfl rfl rfl rfl rfl (by kernel_rfl) Tryz.func3 (by kernel_rfl)
    (of_decide_eq_true (by kernel_rfl)) (by unfold Func.isWrapper; first | (rw [if_pos (by decide +kernel)]; kernel_rfl) | (rw [if_neg (by decide +kernel)]; exact ⟨rfl, rfl⟩))
    (fun os started H enc _ => lifted os started H enc)
/-- ████ THE STATEMENT ████ -/
theorem proved : Rows.FnElemSetHasSaid :=
  over
#print axioms proved
end Go.Proofs.YtbbacpdbbmjblaaGreat.fnElemSetHas
