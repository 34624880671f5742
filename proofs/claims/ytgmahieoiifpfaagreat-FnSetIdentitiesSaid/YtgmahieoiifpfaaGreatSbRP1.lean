/- The union and the intersection of a set with itself are that set, its difference and its recursive difference with itself are empty, and with the empty set its union, difference and recursive difference are that set and its intersection is empty; the values hold no NaN and no whole number beyond 2^53, and keys have sorted names. -/
import Derived.Test.YtgmahieoiifpfaaGreatRows
import Derived.OpenShut
import Derived.Test.YtgmahieoiifpfaaGreatSbR13
import Derived.Test.YtgmahieoiifpfaaGreatSbR14
set_option maxRecDepth 100000

namespace Go.Proofs.YtgmahieoiifpfaaGreat.fnSetIdentities
open Go.ChangeShapes Go.WideShapes Go.ChangeAt Go.RowKit
theorem own : ownKnob Tryz.prog.godebug = none := by kernel_rfl
theorem laid : laidOutB Tryz.prog = true := by kernel_rfl
theorem lifted (os : Os) (started : os.Started) (H : Type) (enc : TypeId × Value → H) :
  ReturnsInHanded {} Tryz.checked os 12 .any (Rows.fnSetIdentitiesSpec.pre6 enc Tryz.prog Tryz.f12 Rows.fnSetIdentitiesRow.domain false) (Rows.fnSetIdentitiesSpec.post enc Tryz.prog Tryz.f12 false true false false) := by
 refine returnsInHanded_of_change_sized (C := Tryz.checked) own started (by kernel_rfl) Tryz.func12
  (ChangeSpec.witness6 (enc := enc) (C := Tryz.checked) false ⟨#[], #[.slice none 0 0], []⟩ 8 (by kernel_rfl) (by kernel_rfl) (by kernel_rfl) (by kernel_rfl)) ?_
 intro W base args ds gs before hval0 hW _ hsz0 _
 have hsz : (DataW.weightsEach Tryz.prog (Tryz.f12.params.toList ++ Rows.fnSetIdentitiesSpec.plain.varTypes Tryz.prog) (ds ++ gs)).all (· ≤ reachBytes) = true := hsz0
 clear hsz0
 have hval : ∀ (j : Nat) t v, Tryz.f12.params[j]? = some t → args[j]? = some v → Value.okWide Tryz.prog W .any base t v := hval0
 have hW' := hW
 obtain ⟨p, q, hA0, hV, rfl, _, _⟩ := hW
 have hA : DataW.TrodAll enc Tryz.prog W 0 (fun _ => true) true Tryz.f12.params.toList args.toList ds p := hA0
 rw [Tryz.params12] at hA hval hsz
 obtain ⟨v0, vs0, d0, ds0, p0, q0, hargs, rfl, rfl, h0, r0⟩ := trodAll_cons hA
 obtain ⟨rfl, rfl, rfl⟩ := trodAll_nil r0
 obtain rfl : args = #[v0] := by cases args; simp_all
 obtain ⟨rfl, rfl⟩ := trodVars_none hV
 clear hA0 hval0 hA r0
 simp only [List.append_nil] at hW'
 have hlt0 : ∀ x ∈ p0, x.block < W.heap.size := fun x hx => by simpa using hW'.lt x (by simp [hx])
 obtain ⟨a0, len0, cap0, rfl⟩ := okWide_slice Tryz.underlying38 (hval 0 _ v0 rfl rfl)
 obtain ⟨x0, hx0⟩ : ∃ x : List (List EV), Rep W (Btw 0 W.heap.size) (.sl 1 24 (x.map pdP)) (.slice a0 len0 cap0) := by
  obtain ⟨fuel, hf⟩ := h0
  obtain ⟨x, v', e, hx⟩ := Zwu fuel hf (fun n hn => by
  have := List.all_eq_true.1 hsz n (DataW.weights_mem_each (j := 0) rfl rfl n hn)
  simpa using this)
  have e : [Value.slice a0 len0 cap0] = [v'] := e
  simp only [List.cons.injEq, and_true] at e
  exact ⟨x, by rw [e]; exact hx⟩
 refine (Ymo x0 W (Btw 0 W.heap.size) [.slice a0 len0 cap0] (fun b hb => hb.2) (by
  simp only [Reps]
  exact ⟨_, _, rfl, hx0, rfl⟩)).mono fun e W' ⟨r, he, hB, hr⟩ => ?_
 unfold Rep at hr
 obtain ⟨rfl, -⟩ := hr
 subst he
 refine ⟨_, rfl, _, _, _, [], p0, [], hW', trodAll_cons_mk (shut_bool Tryz.underlying4 _) trodAll_mk0, ?_, rfl, hB.frame _, fun h => by cases h⟩
 exact trodAll_mk1 (Below.trod laid (by kernel_rfl) (of_decide_eq_true (by kernel_rfl)) h0 hB hlt0)
theorem j2 : mapsRowed Tryz.pinned.checked.prog = true := by kernel_rfl
theorem j9 : (Rows.fnSetIdentitiesRow.inPlace == Tryz.pinned.checked.prog.inPlace 12) = true := by kernel_rfl
theorem j10 : (Rows.fnSetIdentitiesRow.unfollowed == Tryz.pinned.checked.prog.unfollowed 12) = true := by kernel_rfl
theorem j11 : (Rows.fnSetIdentitiesRow.recurses == Tryz.pinned.checked.prog.recurses 12) = true := by kernel_rfl
theorem j12 : (Rows.fnSetIdentitiesRow.named == Tryz.pinned.checked.prog.varsNamed 12) = true := by kernel_rfl
theorem j22 : (Rows.fnSetIdentitiesRow.plainKeys == Tryz.pinned.checked.prog.plainKeys) = true := by kernel_rfl
theorem j24 : Tryz.pinned.checked.prog.stopsHeard = true := by kernel_rfl
theorem j25 : Tryz.pinned.checked.prog.mayEnter = true := by kernel_rfl
theorem j26 : (Rows.fnSetIdentitiesRow.lifted == Tryz.pinned.checked.prog.liftsFinal) = true := by kernel_rfl
theorem j27 : (Tryz.pinned.checked.prog.make == some Rows.fnSetIdentitiesRow.make) = true := by kernel_rfl
theorem joined : joinedFacts Tryz.pinned.checked.prog 12 Tryz.f12 Rows.fnSetIdentitiesSpec Rows.fnSetIdentitiesRow = true :=
 Zui (by kernel_rfl) laid j2 (by kernel_rfl) (by kernel_rfl) (by kernel_rfl) (by kernel_rfl) (by kernel_rfl) (by kernel_rfl) j9 j10 j11 j12 (by kernel_rfl) (by kernel_rfl) (by kernel_rfl) (by kernel_rfl) (by kernel_rfl) (by kernel_rfl) (by kernel_rfl) (by kernel_rfl) (by kernel_rfl) j22 (by kernel_rfl) j24 j25 j26 j27 (by kernel_rfl) (by kernel_rfl) (by kernel_rfl) (by kernel_rfl)
theorem named : Tryz.pinned.checked.prog.funcNamed Rows.fnSetIdentitiesRow.func = some 12 := by kernel_rfl
theorem wrap : Tryz.f12.isWrapper Tryz.pinned.checked.prog Rows.fnSetIdentitiesRow.wrapper Rows.fnSetIdentitiesRow.mainSum := by
 unfold Func.isWrapper; first | (rw [if_pos (by decide +kernel)]; kernel_rfl) | (rw [if_neg (by decide +kernel)]; exact ⟨rfl, rfl⟩)
theorem inst : Tryz.f12.isInstance Tryz.pinned.checked.prog Rows.fnSetIdentitiesRow.origin Rows.fnSetIdentitiesRow.targs := of_decide_eq_true (by kernel_rfl)
theorem over : Rows.fnSetIdentitiesRow.holds Tryz.pinned (OpenSpec.ofChange Rows.fnSetIdentitiesSpec) :=
 OpenClaim.holds_of_wide 12 Tryz.f12 rfl rfl rfl rfl rfl rfl rfl ⟨rfl, rfl, rfl, rfl, rfl⟩ rfl rfl rfl rfl rfl named Tryz.func12 joined inst wrap
  (fun os started H enc _ => lifted os started H enc)
theorem proved : Rows.FnSetIdentitiesSaid :=
 over
#print axioms proved
end Go.Proofs.YtgmahieoiifpfaaGreat.fnSetIdentities
