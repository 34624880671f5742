/- What WithPrefix lists of a union, an intersection or a difference is the union, intersection or difference of what it lists of the two sets; of a recursive difference it is the recursive difference, or nothing if the second set has the element itself; the values hold no NaN and no whole number beyond 2^53, and keys have sorted names. -/
import Derived.Test.YtgmahieoiifpfaaGreatRows
import Derived.OpenShut
import Derived.Test.YtgmahieoiifpfaaGreatSbR14
import Derived.Test.YtgmahieoiifpfaaGreatSbR18
set_option maxRecDepth 100000

namespace Go.Proofs.YtgmahieoiifpfaaGreat.fnWithPrefixOps
open Go.ChangeShapes Go.WideShapes Go.ChangeAt Go.RowKit
theorem own : ownKnob Tryz.prog.godebug = none := by kernel_rfl
theorem laid : laidOutB Tryz.prog = true := by kernel_rfl
theorem lifted (os : Os) (started : os.Started) (H : Type) (enc : TypeId × Value → H) :
  ReturnsInHanded {} Tryz.checked os 13 .any (Rows.fnWithPrefixOpsSpec.pre6 enc Tryz.prog Tryz.f13 Rows.fnWithPrefixOpsRow.domain false) (Rows.fnWithPrefixOpsSpec.post enc Tryz.prog Tryz.f13 false true false false) := by
 refine returnsInHanded_of_change_sized (C := Tryz.checked) own started (by kernel_rfl) Tryz.func13
  (ChangeSpec.witness6 (enc := enc) (C := Tryz.checked) false ⟨#[], #[.slice none 0 0, .slice none 0 0, .agg #[.int .i64 0, .string ⟨#[]⟩, .slice none 0 0, .slice none 0 0, .int .i64 0, .int .i64 0, .float .f64 0, .string ⟨#[]⟩, .slice none 0 0, .slice none 0 0, .int .i64 0]], []⟩ 8 (by kernel_rfl) (by kernel_rfl) (by kernel_rfl) (by kernel_rfl)) ?_
 intro W base args ds gs before hval0 hW _ hsz0 _
 have hsz : (DataW.weightsEach Tryz.prog (Tryz.f13.params.toList ++ Rows.fnWithPrefixOpsSpec.plain.varTypes Tryz.prog) (ds ++ gs)).all (· ≤ reachBytes) = true := hsz0
 clear hsz0
 have hval : ∀ (j : Nat) t v, Tryz.f13.params[j]? = some t → args[j]? = some v → Value.okWide Tryz.prog W .any base t v := hval0
 have hW' := hW
 obtain ⟨p, q, hA0, hV, rfl, _, _⟩ := hW
 have hA : DataW.TrodAll enc Tryz.prog W 0 (fun _ => true) true Tryz.f13.params.toList args.toList ds p := hA0
 rw [Tryz.params13] at hA hval hsz
 obtain ⟨v0, vs0, d0, ds0, p0, q0, hargs, rfl, rfl, h0, r0⟩ := trodAll_cons hA
 obtain ⟨v1, vs1, d1, ds1, p1, q1, rfl, rfl, rfl, h1, r1⟩ := trodAll_cons r0
 obtain ⟨v2, vs2, d2, ds2, p2, q2, rfl, rfl, rfl, h2, r2⟩ := trodAll_cons r1
 obtain ⟨rfl, rfl, rfl⟩ := trodAll_nil r2
 obtain rfl : args = #[v0, v1, v2] := by cases args; simp_all
 obtain ⟨rfl, rfl⟩ := trodVars_none hV
 clear hA0 hval0 hA r0 r1 r2
 simp only [List.append_nil] at hW'
 have hlt0 : ∀ x ∈ p0, x.block < W.heap.size := fun x hx => by simpa using hW'.lt x (by simp [hx])
 have hlt1 : ∀ x ∈ p1, x.block < W.heap.size := fun x hx => by simpa using hW'.lt x (by simp [hx])
 have hlt2 : ∀ x ∈ p2, x.block < W.heap.size := fun x hx => by simpa using hW'.lt x (by simp [hx])
 obtain ⟨a0, len0, cap0, rfl⟩ := okWide_slice Tryz.underlying38 (hval 0 _ v0 rfl rfl)
 obtain ⟨x0, hx0⟩ : ∃ x : List (List EV), Rep W (Btw 0 W.heap.size) (.sl 1 24 (x.map pdP)) (.slice a0 len0 cap0) := by
  obtain ⟨fuel, hf⟩ := h0
  obtain ⟨x, v', e, hx⟩ := Zwu fuel hf (fun n hn => by
  have := List.all_eq_true.1 hsz n (DataW.weights_mem_each (j := 0) rfl rfl n hn)
  simpa using this)
  have e : [Value.slice a0 len0 cap0] = [v'] := e
  simp only [List.cons.injEq, and_true] at e
  exact ⟨x, by rw [e]; exact hx⟩
 obtain ⟨a1, len1, cap1, rfl⟩ := okWide_slice Tryz.underlying38 (hval 1 _ v1 rfl rfl)
 obtain ⟨x1, hx1⟩ : ∃ x : List (List EV), Rep W (Btw 0 W.heap.size) (.sl 1 24 (x.map pdP)) (.slice a1 len1 cap1) := by
  obtain ⟨fuel, hf⟩ := h1
  obtain ⟨x, v', e, hx⟩ := Zwu fuel hf (fun n hn => by
  have := List.all_eq_true.1 hsz n (DataW.weights_mem_each (j := 1) rfl rfl n hn)
  simpa using this)
  have e : [Value.slice a1 len1 cap1] = [v'] := e
  simp only [List.cons.injEq, and_true] at e
  exact ⟨x, by rw [e]; exact hx⟩
 obtain ⟨x2, hx2⟩ := Yao (hval 2 _ v2 rfl rfl) h2 (fun n hn => by
  have := List.all_eq_true.1 hsz n (DataW.weights_mem_each (j := 2) rfl rfl n hn)
  simpa using this)
 have hx2 := Ydq hx2
 refine (Ymp x0 x1 x2 W (Btw 0 W.heap.size) [.slice a0 len0 cap0, .slice a1 len1 cap1, v2] (fun b hb => hb.2) (by
  simp only [Reps]
  exact ⟨_, _, rfl, hx0, _, _, rfl, hx1, _, _, rfl, hx2, rfl⟩)).mono fun e W' ⟨r, he, hB, hr⟩ => ?_
 unfold Rep at hr
 obtain ⟨rfl, -⟩ := hr
 subst he
 refine ⟨_, rfl, _, _, _, [], p0 ++ (p1 ++ p2), [], hW', trodAll_cons_mk (shut_bool Tryz.underlying4 _) trodAll_mk0, ?_, rfl, hB.frame _, fun h => by cases h⟩
 exact trodAll_mk3 (Below.trod laid (by kernel_rfl) (of_decide_eq_true (by kernel_rfl)) h0 hB hlt0) (Below.trod laid (by kernel_rfl) (of_decide_eq_true (by kernel_rfl)) h1 hB hlt1) (Below.trod laid (by kernel_rfl) (of_decide_eq_true (by kernel_rfl)) h2 hB hlt2)
theorem j2 : mapsRowed Tryz.pinned.checked.prog = true := by kernel_rfl
theorem j9 : (Rows.fnWithPrefixOpsRow.inPlace == Tryz.pinned.checked.prog.inPlace 13) = true := by kernel_rfl
theorem j10 : (Rows.fnWithPrefixOpsRow.unfollowed == Tryz.pinned.checked.prog.unfollowed 13) = true := by kernel_rfl
theorem j11 : (Rows.fnWithPrefixOpsRow.recurses == Tryz.pinned.checked.prog.recurses 13) = true := by kernel_rfl
theorem j12 : (Rows.fnWithPrefixOpsRow.named == Tryz.pinned.checked.prog.varsNamed 13) = true := by kernel_rfl
theorem j22 : (Rows.fnWithPrefixOpsRow.plainKeys == Tryz.pinned.checked.prog.plainKeys) = true := by kernel_rfl
theorem j24 : Tryz.pinned.checked.prog.stopsHeard = true := by kernel_rfl
theorem j25 : Tryz.pinned.checked.prog.mayEnter = true := by kernel_rfl
theorem j26 : (Rows.fnWithPrefixOpsRow.lifted == Tryz.pinned.checked.prog.liftsFinal) = true := by kernel_rfl
theorem j27 : (Tryz.pinned.checked.prog.make == some Rows.fnWithPrefixOpsRow.make) = true := by kernel_rfl
theorem joined : joinedFacts Tryz.pinned.checked.prog 13 Tryz.f13 Rows.fnWithPrefixOpsSpec Rows.fnWithPrefixOpsRow = true :=
 Zui (by kernel_rfl) laid j2 (by kernel_rfl) (by kernel_rfl) (by kernel_rfl) (by kernel_rfl) (by kernel_rfl) (by kernel_rfl) j9 j10 j11 j12 (by kernel_rfl) (by kernel_rfl) (by kernel_rfl) (by kernel_rfl) (by kernel_rfl) (by kernel_rfl) (by kernel_rfl) (by kernel_rfl) (by kernel_rfl) j22 (by kernel_rfl) j24 j25 j26 j27 (by kernel_rfl) (by kernel_rfl) (by kernel_rfl) (by kernel_rfl)
theorem named : Tryz.pinned.checked.prog.funcNamed Rows.fnWithPrefixOpsRow.func = some 13 := by kernel_rfl
theorem wrap : Tryz.f13.isWrapper Tryz.pinned.checked.prog Rows.fnWithPrefixOpsRow.wrapper Rows.fnWithPrefixOpsRow.mainSum := by
 unfold Func.isWrapper; first | (rw [if_pos (by decide +kernel)]; kernel_rfl) | (rw [if_neg (by decide +kernel)]; exact ⟨rfl, rfl⟩)
theorem inst : Tryz.f13.isInstance Tryz.pinned.checked.prog Rows.fnWithPrefixOpsRow.origin Rows.fnWithPrefixOpsRow.targs := of_decide_eq_true (by kernel_rfl)
theorem over : Rows.fnWithPrefixOpsRow.holds Tryz.pinned (OpenSpec.ofChange Rows.fnWithPrefixOpsSpec) :=
 OpenClaim.holds_of_wide 13 Tryz.f13 rfl rfl rfl rfl rfl rfl rfl ⟨rfl, rfl, rfl, rfl, rfl⟩ rfl rfl rfl rfl rfl named Tryz.func13 joined inst wrap
  (fun os started H enc _ => lifted os started H enc)
theorem proved : Rows.FnWithPrefixOpsSaid :=
 over
#print axioms proved
end Go.Proofs.YtgmahieoiifpfaaGreat.fnWithPrefixOps
