/- If a equals b then c compares with a as it does with b, alone and as an item of a list and as a field of a map, for values without NaN and without whole numbers beyond 2^53. -/
import Derived.Test.YtbbacpdbbmjblaaRows
import Derived.OpenShut
import Derived.Test.YtbbacpdbbmjblaaFiE8
import Derived.Test.YtbbacpdbbmjblaaFiE10

namespace Go.Proofs.Ytbbacpdbbmjblaa.fnEqualReplaces
open Go.ChangeShapes Go.WideShapes Go.ChangeAt Go.RowKit
theorem own : ownKnob Try.prog.godebug = none := by kernel_rfl
theorem laid : laidOutB Try.prog = true := by kernel_rfl
set_option maxRecDepth 100000 in
theorem lifted (os : Os) (started : os.Started) (H : Type) (enc : TypeId × Value → H) :
    ReturnsInHanded {} Try.checked os 7 .any (Rows.fnEqualReplacesSpec.pre6 enc Try.prog Try.f7 Rows.fnEqualReplacesRow.domain false) (Rows.fnEqualReplacesSpec.post enc Try.prog Try.f7 false true false false) := by
  refine returnsInHanded_of_change_sized (C := Try.checked) own started (by kernel_rfl) Try.func7
    (ChangeSpec.witness6 (enc := enc) (C := Try.checked) false ⟨#[], #[.agg #[.int .i64 0, .int .i64 0, .float .f64 0, .string ⟨#[]⟩, .slice none 0 0, .slice none 0 0], .agg #[.int .i64 0, .int .i64 0, .float .f64 0, .string ⟨#[]⟩, .slice none 0 0, .slice none 0 0], .agg #[.int .i64 0, .int .i64 0, .float .f64 0, .string ⟨#[]⟩, .slice none 0 0, .slice none 0 0]], []⟩ 8 (by kernel_rfl) (by kernel_rfl) (by kernel_rfl) (by kernel_rfl)) ?_
  intro W base args ds gs before hval0 hW _ hsz0 _
  have hsz : (DataW.weightsEach Try.prog (Try.f7.params.toList ++ Rows.fnEqualReplacesSpec.plain.varTypes Try.prog) (ds ++ gs)).all (· ≤ reachBytes) = true := hsz0
  clear hsz0
  have hval : ∀ (j : Nat) t v, Try.f7.params[j]? = some t → args[j]? = some v → Value.okWide Try.prog W .any base t v := hval0
  have hW' := hW
  obtain ⟨p, q, hA0, hV, rfl, _, _⟩ := hW
  have hA : DataW.TrodAll enc Try.prog W 0 (fun _ => true) true Try.f7.params.toList args.toList ds p := hA0
  rw [Try.params7] at hA hval hsz
  obtain ⟨v0, vs0, d0, ds0, p0, q0, hargs, rfl, rfl, h0, r0⟩ := trodAll_cons hA
  obtain ⟨v1, vs1, d1, ds1, p1, q1, rfl, rfl, rfl, h1, r1⟩ := trodAll_cons r0
  obtain ⟨v2, vs2, d2, ds2, p2, q2, rfl, rfl, rfl, h2, r2⟩ := trodAll_cons r1
  obtain ⟨rfl, rfl, rfl⟩ := trodAll_nil r2
  obtain rfl : args = #[v0, v1, v2] := by cases args; simp_all
  obtain ⟨rfl, rfl⟩ := trodVars_none hV
  clear hA0 hval0 hA r0 r1 r2
  simp only [List.append_nil] at hW'
  have hlt0 : ∀ x ∈ p0, x.block < W.heap.size := fun x hx => by simpa using hW'.lt x (by simp [hx])
  have hlt1 : ∀ x ∈ p1, x.block < W.heap.size := fun x hx => by simpa using hW'.lt x (by simp [hx])
  have hlt2 : ∀ x ∈ p2, x.block < W.heap.size := fun x hx => by simpa using hW'.lt x (by simp [hx])
  obtain ⟨x0, hx0⟩ := isV_of_arg (hval 0 _ v0 rfl rfl) h0 (fun n hn => by
    have := List.all_eq_true.1 hsz n (DataW.weights_mem_each (j := 0) rfl rfl n hn)
    simpa using this)
  have hx0 := isV_rep _ hx0
  rw [pdV_eq] at hx0
  obtain ⟨x1, hx1⟩ := isV_of_arg (hval 1 _ v1 rfl rfl) h1 (fun n hn => by
    have := List.all_eq_true.1 hsz n (DataW.weights_mem_each (j := 1) rfl rfl n hn)
    simpa using this)
  have hx1 := isV_rep _ hx1
  rw [pdV_eq] at hx1
  obtain ⟨x2, hx2⟩ := isV_of_arg (hval 2 _ v2 rfl rfl) h2 (fun n hn => by
    have := List.all_eq_true.1 hsz n (DataW.weights_mem_each (j := 2) rfl rfl n hn)
    simpa using this)
  have hx2 := isV_rep _ hx2
  rw [pdV_eq] at hx2
  refine (lawER_p x0 x1 x2 W (Btw 0 W.heap.size) [v0, v1, v2] (fun b hb => hb.2) (by
    simp only [Reps]
    exact ⟨_, _, rfl, hx0, _, _, rfl, hx1, _, _, rfl, hx2, rfl⟩)).mono fun e W' ⟨r, he, hB, hr⟩ => ?_
  unfold Rep at hr
  obtain ⟨rfl, -⟩ := hr
  subst he
  refine ⟨_, rfl, _, _, _, [], p0 ++ (p1 ++ p2), [], hW', trodAll_cons_mk (shut_bool Try.underlying4 _) trodAll_mk0, ?_, rfl, hB.frame _, fun h => by cases h⟩
  exact trodAll_mk3 (Below.trod laid (by kernel_rfl) (of_decide_eq_true (by kernel_rfl)) h0 hB hlt0) (Below.trod laid (by kernel_rfl) (of_decide_eq_true (by kernel_rfl)) h1 hB hlt1) (Below.trod laid (by kernel_rfl) (of_decide_eq_true (by kernel_rfl)) h2 hB hlt2)
theorem over : Rows.fnEqualReplacesRow.holds Try.pinned (OpenSpec.ofChange Rows.fnEqualReplacesSpec) :=
  OpenClaim.holds_of_wide 7 Try.f7 rfl rfl rfl rfl rfl rfl rfl ⟨rfl, rfl, rfl, rfl, rfl⟩ rfl rfl rfl rfl rfl (by kernel_rfl) Try.func7 (by kernel_rfl)
    (of_decide_eq_true (by kernel_rfl)) (by unfold Func.isWrapper; first | (rw [if_pos (by decide +kernel)]; kernel_rfl) | (rw [if_neg (by decide +kernel)]; exact ⟨rfl, rfl⟩))
    (fun os started H enc _ => lifted os started H enc)
/-- ████ THE STATEMENT ████ -/
theorem proved : Rows.FnEqualReplacesSaid :=
  over
#print axioms proved
end Go.Proofs.Ytbbacpdbbmjblaa.fnEqualReplaces
