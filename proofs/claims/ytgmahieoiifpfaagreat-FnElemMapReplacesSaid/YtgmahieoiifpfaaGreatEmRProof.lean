/- FnElemMapReplaces: a map from path elements to values answers with the value last put under an element. -/
import Derived.Test.YtgmahieoiifpfaaGreatRows
import Derived.OpenShut
import Derived.Test.YtgmahieoiifpfaaGreatEmR10

namespace Go.Proofs.YtgmahieoiifpfaaGreat.fnElemMapReplaces
open Go.ChangeShapes Go.WideShapes Go.ChangeAt Go.RowKit
theorem own : ownKnob Tryz.prog.godebug = none := by kernel_rfl
theorem laid : laidOutB Tryz.prog = true := by kernel_rfl
set_option maxRecDepth 100000 in
theorem lifted (os : Os) (started : os.Started) (H : Type) (enc : TypeId × Value → H) :
    ReturnsInHanded {} Tryz.checked os 3 .any (Rows.fnElemMapReplacesSpec.pre6 enc Tryz.prog Tryz.f3 Rows.fnElemMapReplacesRow.domain false) (Rows.fnElemMapReplacesSpec.post enc Tryz.prog Tryz.f3 false true false false) := by
  refine returnsInHanded_of_change_sized (C := Tryz.checked) own started (by kernel_rfl) Tryz.func3
    (ChangeSpec.witness6 (enc := enc) (C := Tryz.checked) false ⟨#[], #[.slice none 0 0, .slice none 0 0, .agg #[.int .i64 0, .string ⟨#[]⟩, .slice none 0 0, .slice none 0 0, .int .i64 0, .int .i64 0, .float .f64 0, .string ⟨#[]⟩, .slice none 0 0, .slice none 0 0, .int .i64 0], .agg #[.int .i64 0, .int .i64 0, .float .f64 0, .string ⟨#[]⟩, .slice none 0 0, .slice none 0 0], .agg #[.int .i64 0, .string ⟨#[]⟩, .slice none 0 0, .slice none 0 0, .int .i64 0, .int .i64 0, .float .f64 0, .string ⟨#[]⟩, .slice none 0 0, .slice none 0 0, .int .i64 0]], []⟩ 8 (by kernel_rfl) (by kernel_rfl) (by kernel_rfl) (by kernel_rfl)) ?_
  intro W base args ds gs before hval0 hW _ hsz0 _
  have hsz : (DataW.weightsEach Tryz.prog (Tryz.f3.params.toList ++ Rows.fnElemMapReplacesSpec.plain.varTypes Tryz.prog) (ds ++ gs)).all (· ≤ reachBytes) = true := hsz0
  clear hsz0
  have hval : ∀ (j : Nat) t v, Tryz.f3.params[j]? = some t → args[j]? = some v → Value.okWide Tryz.prog W .any base t v := hval0
  have hW' := hW
  obtain ⟨p, q, hA0, hV, rfl, _, _⟩ := hW
  have hA : DataW.TrodAll enc Tryz.prog W 0 (fun _ => true) true Tryz.f3.params.toList args.toList ds p := hA0
  rw [Tryz.params3] at hA hval hsz
  obtain ⟨v0, vs0, d0, ds0, p0, q0, hargs, rfl, rfl, h0, r0⟩ := trodAll_cons hA
  obtain ⟨v1, vs1, d1, ds1, p1, q1, rfl, rfl, rfl, h1, r1⟩ := trodAll_cons r0
  obtain ⟨v2, vs2, d2, ds2, p2, q2, rfl, rfl, rfl, h2, r2⟩ := trodAll_cons r1
  obtain ⟨v3, vs3, d3, ds3, p3, q3, rfl, rfl, rfl, h3, r3⟩ := trodAll_cons r2
  obtain ⟨v4, vs4, d4, ds4, p4, q4, rfl, rfl, rfl, h4, r4⟩ := trodAll_cons r3
  obtain ⟨rfl, rfl, rfl⟩ := trodAll_nil r4
  obtain rfl : args = #[v0, v1, v2, v3, v4] := by cases args; simp_all
  obtain ⟨rfl, rfl⟩ := trodVars_none hV
  clear hA0 hval0 hA r0 r1 r2 r3 r4
  simp only [List.append_nil] at hW'
  have hlt0 : ∀ x ∈ p0, x.block < W.heap.size := fun x hx => by simpa using hW'.lt x (by simp [hx])
  have hlt1 : ∀ x ∈ p1, x.block < W.heap.size := fun x hx => by simpa using hW'.lt x (by simp [hx])
  have hlt2 : ∀ x ∈ p2, x.block < W.heap.size := fun x hx => by simpa using hW'.lt x (by simp [hx])
  have hlt3 : ∀ x ∈ p3, x.block < W.heap.size := fun x hx => by simpa using hW'.lt x (by simp [hx])
  have hlt4 : ∀ x ∈ p4, x.block < W.heap.size := fun x hx => by simpa using hW'.lt x (by simp [hx])
  obtain ⟨a0, len0, cap0, rfl⟩ := okWide_slice Tryz.underlying22 (hval 0 _ v0 rfl rfl)
  obtain ⟨x0, hx0⟩ : ∃ x : List EV, Rep W (Btw 0 W.heap.size) (.sl 11 168 (x.map pdE)) (.slice a0 len0 cap0) := by
    obtain ⟨fuel, hf⟩ := h0
    obtain ⟨x, v', e, hx⟩ := openLE fuel hf (fun n hn => by
    have := List.all_eq_true.1 hsz n (DataW.weights_mem_each (j := 0) rfl rfl n hn)
    simpa using this)
    have e : [Value.slice a0 len0 cap0] = [v'] := e
    simp only [List.cons.injEq, and_true] at e
    exact ⟨x, by rw [e]; exact hx⟩
  obtain ⟨a1, len1, cap1, rfl⟩ := okWide_slice Tryz.underlying23 (hval 1 _ v1 rfl rfl)
  obtain ⟨x1, hx1⟩ : ∃ x : List GV, Rep W (Btw 0 W.heap.size) (.sl 6 88 (pdVs x)) (.slice a1 len1 cap1) := by
    obtain ⟨fuel, hf⟩ := h1
    obtain ⟨x, v', e, hx⟩ := openLV fuel hf (fun n hn => by
    have := List.all_eq_true.1 hsz n (DataW.weights_mem_each (j := 1) rfl rfl n hn)
    simpa using this)
    have e : [Value.slice a1 len1 cap1] = [v'] := e
    simp only [List.cons.injEq, and_true] at e
    exact ⟨x, by rw [e]; exact hx⟩
  obtain ⟨x2, hx2⟩ := isE_of_arg (hval 2 _ v2 rfl rfl) h2 (fun n hn => by
    have := List.all_eq_true.1 hsz n (DataW.weights_mem_each (j := 2) rfl rfl n hn)
    simpa using this)
  have hx2 := isE_rep hx2
  obtain ⟨x3, hx3⟩ := isV_of_arg (hval 3 _ v3 rfl rfl) h3 (fun n hn => by
    have := List.all_eq_true.1 hsz n (DataW.weights_mem_each (j := 3) rfl rfl n hn)
    simpa using this)
  have hx3 := isV_rep _ hx3
  rw [pdV_eq] at hx3
  obtain ⟨x4, hx4⟩ := isE_of_arg (hval 4 _ v4 rfl rfl) h4 (fun n hn => by
    have := List.all_eq_true.1 hsz n (DataW.weights_mem_each (j := 4) rfl rfl n hn)
    simpa using this)
  have hx4 := isE_rep hx4
  refine (lawEM_p x0 x1 x2 x3 x4 W (Btw 0 W.heap.size) [.slice a0 len0 cap0, .slice a1 len1 cap1, v2, v3, v4] (fun b hb => hb.2) (by
    simp only [Reps]
    exact ⟨_, _, rfl, hx0, _, _, rfl, hx1, _, _, rfl, hx2, _, _, rfl, hx3, _, _, rfl, hx4, rfl⟩)).mono fun e W' ⟨r, he, hB, hr⟩ => ?_
  unfold Rep at hr
  obtain ⟨rfl, -⟩ := hr
  subst he
  refine ⟨_, rfl, _, _, _, [], p0 ++ (p1 ++ (p2 ++ (p3 ++ p4))), [], hW', trodAll_cons_mk (shut_bool Tryz.underlying4 _) trodAll_mk0, ?_, rfl, hB.frame _, fun h => by cases h⟩
  exact trodAll_cons_mk (Below.trod laid (by kernel_rfl) (of_decide_eq_true (by kernel_rfl)) h0 hB hlt0) (trodAll_mk4 (Below.trod laid (by kernel_rfl) (of_decide_eq_true (by kernel_rfl)) h1 hB hlt1) (Below.trod laid (by kernel_rfl) (of_decide_eq_true (by kernel_rfl)) h2 hB hlt2) (Below.trod laid (by kernel_rfl) (of_decide_eq_true (by kernel_rfl)) h3 hB hlt3) (Below.trod laid (by kernel_rfl) (of_decide_eq_true (by kernel_rfl)) h4 hB hlt4))
theorem j2 : mapsRowed Tryz.pinned.checked.prog = true := by kernel_rfl
theorem j9 : (Rows.fnElemMapReplacesRow.inPlace == Tryz.pinned.checked.prog.inPlace 3) = true := by kernel_rfl
theorem j10 : (Rows.fnElemMapReplacesRow.unfollowed == Tryz.pinned.checked.prog.unfollowed 3) = true := by kernel_rfl
theorem j11 : (Rows.fnElemMapReplacesRow.recurses == Tryz.pinned.checked.prog.recurses 3) = true := by kernel_rfl
theorem j12 : (Rows.fnElemMapReplacesRow.named == Tryz.pinned.checked.prog.varsNamed 3) = true := by kernel_rfl
theorem j22 : (Rows.fnElemMapReplacesRow.plainKeys == Tryz.pinned.checked.prog.plainKeys) = true := by kernel_rfl
theorem j24 : Tryz.pinned.checked.prog.stopsHeard = true := by kernel_rfl
theorem j25 : Tryz.pinned.checked.prog.mayEnter = true := by kernel_rfl
theorem j26 : (Rows.fnElemMapReplacesRow.lifted == Tryz.pinned.checked.prog.liftsFinal) = true := by kernel_rfl
theorem j27 : (Tryz.pinned.checked.prog.make == some Rows.fnElemMapReplacesRow.make) = true := by kernel_rfl
theorem joined : joinedFacts Tryz.pinned.checked.prog 3 Tryz.f3 Rows.fnElemMapReplacesSpec Rows.fnElemMapReplacesRow = true :=
  joined_of (by kernel_rfl) laid j2 (by kernel_rfl) (by kernel_rfl) (by kernel_rfl) (by kernel_rfl) (by kernel_rfl) (by kernel_rfl) j9 j10 j11 j12 (by kernel_rfl) (by kernel_rfl) (by kernel_rfl) (by kernel_rfl) (by kernel_rfl) (by kernel_rfl) (by kernel_rfl) (by kernel_rfl) (by kernel_rfl) j22 (by kernel_rfl) j24 j25 j26 j27 (by kernel_rfl) (by kernel_rfl) (by kernel_rfl) (by kernel_rfl)
theorem named : Tryz.pinned.checked.prog.funcNamed Rows.fnElemMapReplacesRow.func = some 3 := by kernel_rfl
theorem wrap : Tryz.f3.isWrapper Tryz.pinned.checked.prog Rows.fnElemMapReplacesRow.wrapper Rows.fnElemMapReplacesRow.mainSum := by
  unfold Func.isWrapper; first | (rw [if_pos (by decide +kernel)]; kernel_rfl) | (rw [if_neg (by decide +kernel)]; exact ⟨rfl, rfl⟩)
theorem inst : Tryz.f3.isInstance Tryz.pinned.checked.prog Rows.fnElemMapReplacesRow.origin Rows.fnElemMapReplacesRow.targs := of_decide_eq_true (by kernel_rfl)
theorem over : Rows.fnElemMapReplacesRow.holds Tryz.pinned (OpenSpec.ofChange Rows.fnElemMapReplacesSpec) :=
  OpenClaim.holds_of_wide 3 Tryz.f3 rfl rfl rfl rfl rfl rfl rfl ⟨rfl, rfl, rfl, rfl, rfl⟩ rfl rfl rfl rfl rfl named Tryz.func3 joined inst wrap
    (fun os started H enc _ => lifted os started H enc)
/-- ████ THE STATEMENT ████ -/
theorem proved : Rows.FnElemMapReplacesSaid :=
  over
#print axioms proved
end Go.Proofs.YtgmahieoiifpfaaGreat.fnElemMapReplaces
