/- FnMapSetDelete: whatever a map, a key and a value laws.FnMapSetDelete is given, it answers true. -/
import Derived.Test.YtlghpcokbppkfaaMapL
import Derived.Test.YtlghpcokbppkfaaOpen
import Derived.Test.YtlghpcokbppkfaaRows
import Derived.OpenShut
namespace Go.Proofs.Ytlghpcokbppkfaa.fnMapSetDelete
open Go.ChangeShapes Go.WideShapes Go.ChangeAt Go.RowKit

theorem own : ownKnob Try.prog.godebug = none := by kernel_rfl
theorem laid : laidOutB Try.prog = true := by kernel_rfl

set_option maxRecDepth 100000 in
theorem lifted (os : Os) (started : os.Started) (H : Type) (enc : TypeId × Value → H) :
    ReturnsInHanded {} Try.checked os 12 .any (Rows.fnMapSetDeleteSpec.pre6 enc Try.prog Try.f12 Rows.fnMapSetDeleteRow.domain false) (Rows.fnMapSetDeleteSpec.post enc Try.prog Try.f12 false true false false) := by
  refine returnsInHanded_of_change_sized (C := Try.checked) own started (by kernel_rfl) Try.func12
    (ChangeSpec.witness6 (enc := enc) (C := Try.checked) false ⟨#[], #[.agg #[.int .i64 0, .int .i64 0, .float .f64 0, .string ⟨#[]⟩, .slice none 0 0, .slice none 0 0], .string ⟨#[]⟩, .agg #[.int .i64 0, .int .i64 0, .float .f64 0, .string ⟨#[]⟩, .slice none 0 0, .slice none 0 0]], []⟩ 8 (by kernel_rfl) (by kernel_rfl) (by kernel_rfl) (by kernel_rfl)) ?_
  intro W base args ds gs before hval0 hW _ hsz0 _
  have hsz : (DataW.weightsEach Try.prog (Try.f12.params.toList ++ Rows.fnMapSetDeleteSpec.plain.varTypes Try.prog) (ds ++ gs)).all (· ≤ reachBytes) = true := hsz0
  clear hsz0
  have hval : ∀ (j : Nat) t v, Try.f12.params[j]? = some t → args[j]? = some v → Value.okWide Try.prog W .any base t v := hval0
  have hW' := hW
  obtain ⟨p, q, hA0, hV, rfl, _, _⟩ := hW
  have hA : DataW.TrodAll enc Try.prog W 0 (fun _ => true) true Try.f12.params.toList args.toList ds p := hA0
  rw [Try.params12] at hA hval hsz
  obtain ⟨v0, vs0, d0, ds0, p0, q0, hargs, rfl, rfl, h0, r0⟩ := trodAll_cons hA
  obtain ⟨v1, vs1, d1, ds1, p1, q1, rfl, rfl, rfl, h1, r1⟩ := trodAll_cons r0
  obtain ⟨v2, vs2, d2, ds2, p2, q2, rfl, rfl, rfl, h2, r2⟩ := trodAll_cons r1
  obtain ⟨rfl, rfl, rfl⟩ := trodAll_nil r2
  obtain rfl : args = #[v0, v1, v2] := by cases args; simp_all
  obtain ⟨rfl, rfl⟩ := trodVars_none hV
  clear hA0 hval0 hA r0 r1 r2
  simp only [List.append_nil] at hW'
  have hlt0 : ∀ x ∈ p0, x.block < W.heap.size := fun x hx => by simpa using hW'.lt x (by simp [hx])
  have hlt1 : ∀ x ∈ p1, x.block < W.heap.size := fun x hx => by simpa using hW'.lt x (by simp [hx])
  have hlt2 : ∀ x ∈ p2, x.block < W.heap.size := fun x hx => by simpa using hW'.lt x (by simp [hx])
  obtain ⟨x0, hx0⟩ := isV_of_arg (hval 0 _ v0 rfl rfl) h0 (fun n hn => by
    have := List.all_eq_true.1 hsz n (DataW.weights_mem_each (j := 0) rfl rfl n hn)
    simpa using this)
  have hx0 := isV_rep _ hx0
  rw [pdV_eq] at hx0
  obtain ⟨x1, rfl⟩ := okWide_string Try.underlying9 (hval 1 _ v1 rfl rfl)
  have hx1 : Rep W (Btw 0 W.heap.size) (.val (.string x1)) (.string x1) := by
    obtain ⟨fuel, hf⟩ := h1
    obtain ⟨s', e, -, hs'⟩ := DataW.trod_string Try.underlying9 hf
    have e : [Value.string x1] = [.string s'] := e
    simp only [List.cons.injEq, Value.string.injEq, and_true] at e
    unfold Rep
    exact ⟨rfl, by rw [e]; exact hs'⟩
  obtain ⟨x2, hx2⟩ := isV_of_arg (hval 2 _ v2 rfl rfl) h2 (fun n hn => by
    have := List.all_eq_true.1 hsz n (DataW.weights_mem_each (j := 2) rfl rfl n hn)
    simpa using this)
  have hx2 := isV_rep _ hx2
  rw [pdV_eq] at hx2
  refine (lawSD_p x0 x1 x2 W (Btw 0 W.heap.size) [v0, .string x1, v2] (fun b hb => hb.2) (by
    simp only [Reps]
    exact ⟨_, _, rfl, hx0, _, _, rfl, hx1, _, _, rfl, hx2, rfl⟩)).mono fun e W' ⟨r, he, hB, hr⟩ => ?_
  unfold Rep at hr
  obtain ⟨rfl, -⟩ := hr
  subst he
  refine ⟨_, rfl, _, _, _, [], p0 ++ (p1 ++ p2), [], hW', trodAll_cons_mk (shut_bool Try.underlying4 _) trodAll_mk0, ?_, rfl, hB.frame _, fun h => by cases h⟩
  exact trodAll_mk3 (Below.trod laid (by kernel_rfl) (of_decide_eq_true (by kernel_rfl)) h0 hB hlt0) (Below.trod laid (by kernel_rfl) (of_decide_eq_true (by kernel_rfl)) h1 hB hlt1) (Below.trod laid (by kernel_rfl) (of_decide_eq_true (by kernel_rfl)) h2 hB hlt2)

theorem over : Rows.fnMapSetDeleteRow.holds Try.pinned (OpenSpec.ofChange Rows.fnMapSetDeleteSpec) :=
  OpenClaim.holds_of_wide 12 Try.f12 rfl rfl rfl rfl rfl rfl rfl ⟨rfl, rfl, rfl, rfl, rfl⟩ rfl rfl rfl rfl rfl (by kernel_rfl) Try.func12 (by kernel_rfl)
    (of_decide_eq_true (by kernel_rfl)) (by unfold Func.isWrapper; first | (rw [if_pos (by decide +kernel)]; kernel_rfl) | (rw [if_neg (by decide +kernel)]; exact ⟨rfl, rfl⟩))
    (fun os started H enc _ => lifted os started H enc)

/-- ████ THE STATEMENT ████ -/
theorem proved : Rows.FnMapSetDeleteSaid :=
  over
#print axioms proved
end Go.Proofs.Ytlghpcokbppkfaa.fnMapSetDelete
