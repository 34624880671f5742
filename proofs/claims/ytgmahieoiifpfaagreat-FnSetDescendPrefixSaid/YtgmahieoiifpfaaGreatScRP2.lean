/- What a set into which paths were put below a step has below that step is what it had there, and these paths; below any other step, and at the root, it has what it had (orderly paths). -/
import Derived.Test.YtgmahieoiifpfaaGreatRows
import Derived.OpenShut
import Derived.Test.YtgmahieoiifpfaaGreatScR15
import Derived.Test.YtgmahieoiifpfaaGreatScR20
set_option maxRecDepth 100000

namespace Go.Proofs.YtgmahieoiifpfaaGreat.fnSetDescendPrefix
open Go.ChangeShapes Go.WideShapes Go.ChangeAt Go.RowKit
theorem own : ownKnob Tryz.prog.godebug = none := by kernel_rfl
theorem laid : laidOutB Tryz.prog = true := by kernel_rfl
theorem lifted (os : Os) (started : os.Started) (H : Type) (enc : TypeId × Value → H) :
  ReturnsInHanded {} Tryz.checked os 7 .any (Rows.fnSetDescendPrefixSpec.pre6 enc Tryz.prog Tryz.f7 Rows.fnSetDescendPrefixRow.domain false) (Rows.fnSetDescendPrefixSpec.post enc Tryz.prog Tryz.f7 false true false false) := by
 refine returnsInHanded_of_change_sized (C := Tryz.checked) own started (by kernel_rfl) Tryz.func7
  (ChangeSpec.witness6 (enc := enc) (C := Tryz.checked) false ⟨#[], #[.slice none 0 0, .agg #[.int .i64 0, .string ⟨#[]⟩, .slice none 0 0, .slice none 0 0, .int .i64 0, .int .i64 0, .float .f64 0, .string ⟨#[]⟩, .slice none 0 0, .slice none 0 0, .int .i64 0], .slice none 0 0, .agg #[.int .i64 0, .string ⟨#[]⟩, .slice none 0 0, .slice none 0 0, .int .i64 0, .int .i64 0, .float .f64 0, .string ⟨#[]⟩, .slice none 0 0, .slice none 0 0, .int .i64 0]], []⟩ 8 (by kernel_rfl) (by kernel_rfl) (by kernel_rfl) (by kernel_rfl)) ?_
 intro W base args ds gs before hval0 hW _ hsz0 _
 have hsz : (DataW.weightsEach Tryz.prog (Tryz.f7.params.toList ++ Rows.fnSetDescendPrefixSpec.plain.varTypes Tryz.prog) (ds ++ gs)).all (· ≤ reachBytes) = true := hsz0
 clear hsz0
 have hval : ∀ (j : Nat) t v, Tryz.f7.params[j]? = some t → args[j]? = some v → Value.okWide Tryz.prog W .any base t v := hval0
 have hW' := hW
 obtain ⟨p, q, hA0, hV, rfl, _, _⟩ := hW
 have hA : DataW.TrodAll enc Tryz.prog W 0 (fun _ => true) true Tryz.f7.params.toList args.toList ds p := hA0
 rw [Tryz.params7] at hA hval hsz
 obtain ⟨v0, vs0, d0, ds0, p0, q0, hargs, rfl, rfl, h0, r0⟩ := trodAll_cons hA
 obtain ⟨v1, vs1, d1, ds1, p1, q1, rfl, rfl, rfl, h1, r1⟩ := trodAll_cons r0
 obtain ⟨v2, vs2, d2, ds2, p2, q2, rfl, rfl, rfl, h2, r2⟩ := trodAll_cons r1
 obtain ⟨v3, vs3, d3, ds3, p3, q3, rfl, rfl, rfl, h3, r3⟩ := trodAll_cons r2
 obtain ⟨rfl, rfl, rfl⟩ := trodAll_nil r3
 obtain rfl : args = #[v0, v1, v2, v3] := by cases args; simp_all
 obtain ⟨rfl, rfl⟩ := trodVars_none hV
 clear hA0 hval0 hA r0 r1 r2 r3
 simp only [List.append_nil] at hW'
 have hlt0 : ∀ x ∈ p0, x.block < W.heap.size := fun x hx => by simpa using hW'.lt x (by simp [hx])
 have hlt1 : ∀ x ∈ p1, x.block < W.heap.size := fun x hx => by simpa using hW'.lt x (by simp [hx])
 have hlt2 : ∀ x ∈ p2, x.block < W.heap.size := fun x hx => by simpa using hW'.lt x (by simp [hx])
 have hlt3 : ∀ x ∈ p3, x.block < W.heap.size := fun x hx => by simpa using hW'.lt x (by simp [hx])
 obtain ⟨a0, len0, cap0, rfl⟩ := okWide_slice Tryz.underlying38 (hval 0 _ v0 rfl rfl)
 obtain ⟨x0, hx0⟩ : ∃ x : List (List EV), Rep W (Btw 0 W.heap.size) (.sl 1 24 (x.map pdP)) (.slice a0 len0 cap0) := by
  obtain ⟨fuel, hf⟩ := h0
  obtain ⟨x, v', e, hx⟩ := Zxi fuel hf (fun n hn => by
  have := List.all_eq_true.1 hsz n (DataW.weights_mem_each (j := 0) rfl rfl n hn)
  simpa using this)
  have e : [Value.slice a0 len0 cap0] = [v'] := e
  simp only [List.cons.injEq, and_true] at e
  exact ⟨x, by rw [e]; exact hx⟩
 obtain ⟨x1, hx1⟩ := Zqo (hval 1 _ v1 rfl rfl) h1 (fun n hn => by
  have := List.all_eq_true.1 hsz n (DataW.weights_mem_each (j := 1) rfl rfl n hn)
  simpa using this)
 have hx1 := Zw3 hx1
 obtain ⟨a2, len2, cap2, rfl⟩ := okWide_slice Tryz.underlying38 (hval 2 _ v2 rfl rfl)
 obtain ⟨x2, hx2⟩ : ∃ x : List (List EV), Rep W (Btw 0 W.heap.size) (.sl 1 24 (x.map pdP)) (.slice a2 len2 cap2) := by
  obtain ⟨fuel, hf⟩ := h2
  obtain ⟨x, v', e, hx⟩ := Zxi fuel hf (fun n hn => by
  have := List.all_eq_true.1 hsz n (DataW.weights_mem_each (j := 2) rfl rfl n hn)
  simpa using this)
  have e : [Value.slice a2 len2 cap2] = [v'] := e
  simp only [List.cons.injEq, and_true] at e
  exact ⟨x, by rw [e]; exact hx⟩
 obtain ⟨x3, hx3⟩ := Zqo (hval 3 _ v3 rfl rfl) h3 (fun n hn => by
  have := List.all_eq_true.1 hsz n (DataW.weights_mem_each (j := 3) rfl rfl n hn)
  simpa using this)
 have hx3 := Zw3 hx3
 refine (Yn6 x0 x1 x2 x3 W (Btw 0 W.heap.size) [.slice a0 len0 cap0, v1, .slice a2 len2 cap2, v3] (fun b hb => hb.2) (by
  simp only [Reps]
  exact ⟨_, _, rfl, hx0, _, _, rfl, hx1, _, _, rfl, hx2, _, _, rfl, hx3, rfl⟩)).mono fun e W' ⟨r, he, hB, hr⟩ => ?_
 unfold Rep at hr
 obtain ⟨rfl, -⟩ := hr
 subst he
 refine ⟨_, rfl, _, _, _, [], p0 ++ (p1 ++ (p2 ++ p3)), [], hW', trodAll_cons_mk (shut_bool Tryz.underlying4 _) trodAll_mk0, ?_, rfl, hB.frame _, fun h => by cases h⟩
 exact trodAll_mk4 (Below.trod laid (by kernel_rfl) (of_decide_eq_true (by kernel_rfl)) h0 hB hlt0) (Below.trod laid (by kernel_rfl) (of_decide_eq_true (by kernel_rfl)) h1 hB hlt1) (Below.trod laid (by kernel_rfl) (of_decide_eq_true (by kernel_rfl)) h2 hB hlt2) (Below.trod laid (by kernel_rfl) (of_decide_eq_true (by kernel_rfl)) h3 hB hlt3)
theorem j2 : mapsRowed Tryz.pinned.checked.prog = true := by kernel_rfl
theorem j9 : (Rows.fnSetDescendPrefixRow.inPlace == Tryz.pinned.checked.prog.inPlace 7) = true := by kernel_rfl
theorem j10 : (Rows.fnSetDescendPrefixRow.unfollowed == Tryz.pinned.checked.prog.unfollowed 7) = true := by kernel_rfl
theorem j11 : (Rows.fnSetDescendPrefixRow.recurses == Tryz.pinned.checked.prog.recurses 7) = true := by kernel_rfl
theorem j12 : (Rows.fnSetDescendPrefixRow.named == Tryz.pinned.checked.prog.varsNamed 7) = true := by kernel_rfl
theorem j22 : (Rows.fnSetDescendPrefixRow.plainKeys == Tryz.pinned.checked.prog.plainKeys) = true := by kernel_rfl
theorem j24 : Tryz.pinned.checked.prog.stopsHeard = true := by kernel_rfl
theorem j25 : Tryz.pinned.checked.prog.mayEnter = true := by kernel_rfl
theorem j26 : (Rows.fnSetDescendPrefixRow.lifted == Tryz.pinned.checked.prog.liftsFinal) = true := by kernel_rfl
theorem j27 : (Tryz.pinned.checked.prog.make == some Rows.fnSetDescendPrefixRow.make) = true := by kernel_rfl
theorem joined : joinedFacts Tryz.pinned.checked.prog 7 Tryz.f7 Rows.fnSetDescendPrefixSpec Rows.fnSetDescendPrefixRow = true :=
 Zu0 (by kernel_rfl) laid j2 (by kernel_rfl) (by kernel_rfl) (by kernel_rfl) (by kernel_rfl) (by kernel_rfl) (by kernel_rfl) j9 j10 j11 j12 (by kernel_rfl) (by kernel_rfl) (by kernel_rfl) (by kernel_rfl) (by kernel_rfl) (by kernel_rfl) (by kernel_rfl) (by kernel_rfl) (by kernel_rfl) j22 (by kernel_rfl) j24 j25 j26 j27 (by kernel_rfl) (by kernel_rfl) (by kernel_rfl) (by kernel_rfl)
theorem named : Tryz.pinned.checked.prog.funcNamed Rows.fnSetDescendPrefixRow.func = some 7 := by kernel_rfl
theorem wrap : Tryz.f7.isWrapper Tryz.pinned.checked.prog Rows.fnSetDescendPrefixRow.wrapper Rows.fnSetDescendPrefixRow.mainSum := by
 unfold Func.isWrapper; first | (rw [if_pos (by decide +kernel)]; kernel_rfl) | (rw [if_neg (by decide +kernel)]; exact ⟨rfl, rfl⟩)
theorem inst : Tryz.f7.isInstance Tryz.pinned.checked.prog Rows.fnSetDescendPrefixRow.origin Rows.fnSetDescendPrefixRow.targs := of_decide_eq_true (by kernel_rfl)
theorem over : Rows.fnSetDescendPrefixRow.holds Tryz.pinned (OpenSpec.ofChange Rows.fnSetDescendPrefixSpec) :=
 OpenClaim.holds_of_wide 7 Tryz.f7 rfl rfl rfl rfl rfl rfl rfl ⟨rfl, rfl, rfl, rfl, rfl⟩ rfl rfl rfl rfl rfl named Tryz.func7 joined inst wrap
  (fun os started H enc _ => lifted os started H enc)
theorem proved : Rows.FnSetDescendPrefixSaid :=
 over
#print axioms proved
end Go.Proofs.YtgmahieoiifpfaaGreat.fnSetDescendPrefix
