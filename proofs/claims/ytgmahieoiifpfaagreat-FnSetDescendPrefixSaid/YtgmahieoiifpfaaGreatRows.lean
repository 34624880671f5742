/-
  NARROWER THAN 'FOR EVERY INPUT', by the rows' own cells (each row's printed sentence says how): FnElemMapReplaces: loops · FnSetMembers: loops · FnItemElem: loops · FnSetIntersection: loops · FnSetDescendPrefix: loops · FnSetTwice: loops · FnSetExclude: loops · FnConflictsTogether: loops · FnDifferManagers: loops · FnSetIdentities: loops · FnWithPrefixOps: loops · FnSetNamedClosure: loops.
  DERIVED. THE GIVEN ROWS OF THIS SEAT. 12 by the template 'for every input the law returns true; each argument reads behind the call as it read before'; 0 by the template 'total and deterministic' (their statements: YtgmahieoiifpfaaGreatTotals.lean).
  GIVEN WITH THE SEED: the statements are not yours to turn. If you find one false, say at which input.
  Laid BY PROGRAM, IN A SANDBOX (cutbox-rows.mjs): the forced cells as the released guide's own fill.sh prints them over the translation d2c69d82af6c3268… (all of the seat's roots in one cut). By AI agents, Wed Nov 11 2026. No macro, syntax, notation, axiom, sorry.
-/
import Derived.Test.YtgmahieoiifpfaaGreatChecked
import GoSem.Claim
import GoSem.ClaimJoined
import GoSem.ClaimMapViews
import Derived.JoinedTies
import Derived.KernelRfl
namespace Go.Proofs.YtgmahieoiifpfaaGreat
/- THE CELL 'sum', in the pinned program and in every row, IS THE sha256 OF THE DUMP (.gsa) THAT YtgmahieoiifpfaaGreatProg.lean LOADS. Nothing in Lean hashes anything: it is a label: what it is worth is what the hold of that sum in a sandbox is worth. -/
noncomputable def Tryz.pinned : Pinned := { name := "ytgmahieoiifpfaagreat", sum := "d2c69d82af6c3268620732c60fd713b28224b82150349d086e801e699da89ef8", checked := Tryz.checked }
namespace Rows
def none {H : Type} : Left H := { results := [], args := [] }

/-- 'laws.FnElemMapReplaces': WHATEVER THE INPUT: true; the input reads as it did. -/
def fnElemMapReplacesSpec : ChangeSpec := { name := "fnElemMapReplaces", fn := fun _ => fun
  | [d1, d2, d3, d4, d5] => { results := [.lit (.bool true)], args := [d1, d2, d3, d4, d5] }
  | _ => none }
def fnElemMapReplacesRow : OpenClaim := { program := "ytgmahieoiifpfaagreat", sum := "d2c69d82af6c3268620732c60fd713b28224b82150349d086e801e699da89ef8", func := "pub-coparcener/laws.FnElemMapReplaces", spec := "fnElemMapReplaces", inPlace := ["internal/bytealg.abigen_runtime_cmpstring", "slices.overlaps[pub-coparcener/pub/structuredmerge/fieldpath.pathElementValue]", "math.Float64bits"], unfollowed := true, recurses := true, loops := true, apart := false }
def FnElemMapReplacesSaid : Prop := fnElemMapReplacesRow.holds Tryz.pinned (OpenSpec.ofChange fnElemMapReplacesSpec)

/-- ITS FALSE NEIGHBOUR: 'it returns false'. Refute it at one input. -/
def fnElemMapReplacesWrong : ChangeSpec := { name := "fnElemMapReplaces", fn := fun _ => fun
  | [d1, d2, d3, d4, d5] => { results := [.lit (.bool false)], args := [d1, d2, d3, d4, d5] }
  | _ => none }
def FnElemMapReplacesWrongFalsely : Prop := fnElemMapReplacesRow.holds Tryz.pinned (OpenSpec.ofChange fnElemMapReplacesWrong)

/-- 'laws.FnSetMembers': WHATEVER THE INPUT: true; the input reads as it did. -/
def fnSetMembersSpec : ChangeSpec := { name := "fnSetMembers", fn := fun _ => fun
  | [d] => { results := [.lit (.bool true)], args := [d] }
  | _ => none }
def fnSetMembersRow : OpenClaim := { program := "ytgmahieoiifpfaagreat", sum := "d2c69d82af6c3268620732c60fd713b28224b82150349d086e801e699da89ef8", func := "pub-coparcener/laws.FnSetMembers", spec := "fnSetMembers", inPlace := ["internal/bytealg.abigen_runtime_cmpstring", "slices.overlaps[pub-coparcener/pub/structuredmerge/fieldpath.PathElement]", "slices.overlaps[pub-coparcener/pub/structuredmerge/fieldpath.setNode]"], unfollowed := true, recurses := true, loops := true, apart := false }
def FnSetMembersSaid : Prop := fnSetMembersRow.holds Tryz.pinned (OpenSpec.ofChange fnSetMembersSpec)

/-- ITS FALSE NEIGHBOUR: 'it returns false'. Refute it at one input. -/
def fnSetMembersWrong : ChangeSpec := { name := "fnSetMembers", fn := fun _ => fun
  | [d] => { results := [.lit (.bool false)], args := [d] }
  | _ => none }
def FnSetMembersWrongFalsely : Prop := fnSetMembersRow.holds Tryz.pinned (OpenSpec.ofChange fnSetMembersWrong)

/-- 'laws.FnItemElem': WHATEVER THE INPUT: true; the input reads as it did. -/
def fnItemElemSpec : ChangeSpec := { name := "fnItemElem", fn := fun _ => fun
  | [d1, d2, d3] => { results := [.lit (.bool true)], args := [d1, d2, d3] }
  | _ => none }
def fnItemElemRow : OpenClaim := { program := "ytgmahieoiifpfaagreat", sum := "d2c69d82af6c3268620732c60fd713b28224b82150349d086e801e699da89ef8", func := "pub-coparcener/laws.FnItemElem", spec := "fnItemElem", unfollowed := true, recurses := true, loops := true, apart := false }
def FnItemElemSaid : Prop := fnItemElemRow.holds Tryz.pinned (OpenSpec.ofChange fnItemElemSpec)

/-- ITS FALSE NEIGHBOUR: 'it returns false'. Refute it at one input. -/
def fnItemElemWrong : ChangeSpec := { name := "fnItemElem", fn := fun _ => fun
  | [d1, d2, d3] => { results := [.lit (.bool false)], args := [d1, d2, d3] }
  | _ => none }
def FnItemElemWrongFalsely : Prop := fnItemElemRow.holds Tryz.pinned (OpenSpec.ofChange fnItemElemWrong)

/-- 'laws.FnSetIntersection': WHATEVER THE INPUT: true; the input reads as it did. -/
def fnSetIntersectionSpec : ChangeSpec := { name := "fnSetIntersection", fn := fun _ => fun
  | [d1, d2] => { results := [.lit (.bool true)], args := [d1, d2] }
  | _ => none }
def fnSetIntersectionRow : OpenClaim := { program := "ytgmahieoiifpfaagreat", sum := "d2c69d82af6c3268620732c60fd713b28224b82150349d086e801e699da89ef8", func := "pub-coparcener/laws.FnSetIntersection", spec := "fnSetIntersection", inPlace := ["internal/bytealg.abigen_runtime_cmpstring", "slices.overlaps[pub-coparcener/pub/structuredmerge/fieldpath.PathElement]", "slices.overlaps[pub-coparcener/pub/structuredmerge/fieldpath.setNode]"], unfollowed := true, recurses := true, loops := true, apart := false }
def FnSetIntersectionSaid : Prop := fnSetIntersectionRow.holds Tryz.pinned (OpenSpec.ofChange fnSetIntersectionSpec)

/-- ITS FALSE NEIGHBOUR: 'it returns false'. Refute it at one input. -/
def fnSetIntersectionWrong : ChangeSpec := { name := "fnSetIntersection", fn := fun _ => fun
  | [d1, d2] => { results := [.lit (.bool false)], args := [d1, d2] }
  | _ => none }
def FnSetIntersectionWrongFalsely : Prop := fnSetIntersectionRow.holds Tryz.pinned (OpenSpec.ofChange fnSetIntersectionWrong)

/-- 'laws.FnSetDescendPrefix': WHATEVER THE INPUT: true; the input reads as it did. -/
def fnSetDescendPrefixSpec : ChangeSpec := { name := "fnSetDescendPrefix", fn := fun _ => fun
  | [d1, d2, d3, d4] => { results := [.lit (.bool true)], args := [d1, d2, d3, d4] }
  | _ => none }
def fnSetDescendPrefixRow : OpenClaim := { program := "ytgmahieoiifpfaagreat", sum := "d2c69d82af6c3268620732c60fd713b28224b82150349d086e801e699da89ef8", func := "pub-coparcener/laws.FnSetDescendPrefix", spec := "fnSetDescendPrefix", inPlace := ["internal/bytealg.abigen_runtime_cmpstring", "slices.overlaps[pub-coparcener/pub/structuredmerge/fieldpath.PathElement]", "slices.overlaps[pub-coparcener/pub/structuredmerge/fieldpath.setNode]"], unfollowed := true, recurses := true, loops := true, apart := false }
def FnSetDescendPrefixSaid : Prop := fnSetDescendPrefixRow.holds Tryz.pinned (OpenSpec.ofChange fnSetDescendPrefixSpec)

/-- ITS FALSE NEIGHBOUR: 'it returns false'. Refute it at one input. -/
def fnSetDescendPrefixWrong : ChangeSpec := { name := "fnSetDescendPrefix", fn := fun _ => fun
  | [d1, d2, d3, d4] => { results := [.lit (.bool false)], args := [d1, d2, d3, d4] }
  | _ => none }
def FnSetDescendPrefixWrongFalsely : Prop := fnSetDescendPrefixRow.holds Tryz.pinned (OpenSpec.ofChange fnSetDescendPrefixWrong)

/-- 'laws.FnSetTwice': WHATEVER THE INPUT: true; the input reads as it did. -/
def fnSetTwiceSpec : ChangeSpec := { name := "fnSetTwice", fn := fun _ => fun
  | [d1, d2] => { results := [.lit (.bool true)], args := [d1, d2] }
  | _ => none }
def fnSetTwiceRow : OpenClaim := { program := "ytgmahieoiifpfaagreat", sum := "d2c69d82af6c3268620732c60fd713b28224b82150349d086e801e699da89ef8", func := "pub-coparcener/laws.FnSetTwice", spec := "fnSetTwice", inPlace := ["internal/bytealg.abigen_runtime_cmpstring", "slices.overlaps[pub-coparcener/pub/structuredmerge/fieldpath.PathElement]", "slices.overlaps[pub-coparcener/pub/structuredmerge/fieldpath.setNode]"], unfollowed := true, recurses := true, loops := true, apart := false }
def FnSetTwiceSaid : Prop := fnSetTwiceRow.holds Tryz.pinned (OpenSpec.ofChange fnSetTwiceSpec)

/-- ITS FALSE NEIGHBOUR: 'it returns false'. Refute it at one input. -/
def fnSetTwiceWrong : ChangeSpec := { name := "fnSetTwice", fn := fun _ => fun
  | [d1, d2] => { results := [.lit (.bool false)], args := [d1, d2] }
  | _ => none }
def FnSetTwiceWrongFalsely : Prop := fnSetTwiceRow.holds Tryz.pinned (OpenSpec.ofChange fnSetTwiceWrong)

/-- 'laws.FnSetExclude': WHATEVER THE INPUT: true; the input reads as it did. -/
def fnSetExcludeSpec : ChangeSpec := { name := "fnSetExclude", fn := fun _ => fun
  | [d1, d2] => { results := [.lit (.bool true)], args := [d1, d2] }
  | _ => none }
def fnSetExcludeRow : OpenClaim := { program := "ytgmahieoiifpfaagreat", sum := "d2c69d82af6c3268620732c60fd713b28224b82150349d086e801e699da89ef8", func := "pub-coparcener/laws.FnSetExclude", spec := "fnSetExclude", inPlace := ["internal/bytealg.abigen_runtime_cmpstring", "slices.overlaps[pub-coparcener/pub/structuredmerge/fieldpath.PathElement]", "slices.overlaps[pub-coparcener/pub/structuredmerge/fieldpath.setNode]"], unfollowed := true, recurses := true, loops := true, apart := false }
def FnSetExcludeSaid : Prop := fnSetExcludeRow.holds Tryz.pinned (OpenSpec.ofChange fnSetExcludeSpec)

/-- ITS FALSE NEIGHBOUR: 'it returns false'. Refute it at one input. -/
def fnSetExcludeWrong : ChangeSpec := { name := "fnSetExclude", fn := fun _ => fun
  | [d1, d2] => { results := [.lit (.bool false)], args := [d1, d2] }
  | _ => none }
def FnSetExcludeWrongFalsely : Prop := fnSetExcludeRow.holds Tryz.pinned (OpenSpec.ofChange fnSetExcludeWrong)

/-- 'laws.FnConflictsTogether': WHATEVER THE INPUT: true; the input reads as it did. -/
def fnConflictsTogetherSpec : ChangeSpec := { name := "fnConflictsTogether", fn := fun _ => fun
  | [d] => { results := [.lit (.bool true)], args := [d] }
  | _ => none }
def fnConflictsTogetherRow : OpenClaim := { program := "ytgmahieoiifpfaagreat", sum := "d2c69d82af6c3268620732c60fd713b28224b82150349d086e801e699da89ef8", func := "pub-coparcener/laws.FnConflictsTogether", spec := "fnConflictsTogether", inPlace := ["internal/bytealg.abigen_runtime_cmpstring", "slices.overlaps[pub-coparcener/pub/structuredmerge/fieldpath.PathElement]", "slices.overlaps[pub-coparcener/pub/structuredmerge/fieldpath.setNode]"], unfollowed := true, recurses := true, loops := true, apart := false }
def FnConflictsTogetherSaid : Prop := fnConflictsTogetherRow.holds Tryz.pinned (OpenSpec.ofChange fnConflictsTogetherSpec)

/-- ITS FALSE NEIGHBOUR: 'it returns false'. Refute it at one input. -/
def fnConflictsTogetherWrong : ChangeSpec := { name := "fnConflictsTogether", fn := fun _ => fun
  | [d] => { results := [.lit (.bool false)], args := [d] }
  | _ => none }
def FnConflictsTogetherWrongFalsely : Prop := fnConflictsTogetherRow.holds Tryz.pinned (OpenSpec.ofChange fnConflictsTogetherWrong)

/-- 'laws.FnDifferManagers': WHATEVER THE INPUT: true; the input reads as it did. -/
def fnDifferManagersSpec : ChangeSpec := { name := "fnDifferManagers", fn := fun _ => fun
  | [d1, d2] => { results := [.lit (.bool true)], args := [d1, d2] }
  | _ => none }
def fnDifferManagersRow : OpenClaim := { program := "ytgmahieoiifpfaagreat", sum := "d2c69d82af6c3268620732c60fd713b28224b82150349d086e801e699da89ef8", func := "pub-coparcener/laws.FnDifferManagers", spec := "fnDifferManagers", inPlace := ["internal/bytealg.abigen_runtime_cmpstring", "slices.overlaps[pub-coparcener/pub/structuredmerge/fieldpath.PathElement]", "slices.overlaps[pub-coparcener/pub/structuredmerge/fieldpath.setNode]"], unfollowed := true, recurses := true, loops := true, apart := false }
def FnDifferManagersSaid : Prop := fnDifferManagersRow.holds Tryz.pinned (OpenSpec.ofChange fnDifferManagersSpec)

/-- ITS FALSE NEIGHBOUR: 'it returns false'. Refute it at one input. -/
def fnDifferManagersWrong : ChangeSpec := { name := "fnDifferManagers", fn := fun _ => fun
  | [d1, d2] => { results := [.lit (.bool false)], args := [d1, d2] }
  | _ => none }
def FnDifferManagersWrongFalsely : Prop := fnDifferManagersRow.holds Tryz.pinned (OpenSpec.ofChange fnDifferManagersWrong)

/-- 'laws.FnSetIdentities': WHATEVER THE INPUT: true; the input reads as it did. -/
def fnSetIdentitiesSpec : ChangeSpec := { name := "fnSetIdentities", fn := fun _ => fun
  | [d] => { results := [.lit (.bool true)], args := [d] }
  | _ => none }
def fnSetIdentitiesRow : OpenClaim := { program := "ytgmahieoiifpfaagreat", sum := "d2c69d82af6c3268620732c60fd713b28224b82150349d086e801e699da89ef8", func := "pub-coparcener/laws.FnSetIdentities", spec := "fnSetIdentities", inPlace := ["internal/bytealg.abigen_runtime_cmpstring", "slices.overlaps[pub-coparcener/pub/structuredmerge/fieldpath.PathElement]", "slices.overlaps[pub-coparcener/pub/structuredmerge/fieldpath.setNode]"], unfollowed := true, recurses := true, loops := true, apart := false }
def FnSetIdentitiesSaid : Prop := fnSetIdentitiesRow.holds Tryz.pinned (OpenSpec.ofChange fnSetIdentitiesSpec)

/-- ITS FALSE NEIGHBOUR: 'it returns false'. Refute it at one input. -/
def fnSetIdentitiesWrong : ChangeSpec := { name := "fnSetIdentities", fn := fun _ => fun
  | [d] => { results := [.lit (.bool false)], args := [d] }
  | _ => none }
def FnSetIdentitiesWrongFalsely : Prop := fnSetIdentitiesRow.holds Tryz.pinned (OpenSpec.ofChange fnSetIdentitiesWrong)

/-- 'laws.FnWithPrefixOps': WHATEVER THE INPUT: true; the input reads as it did. -/
def fnWithPrefixOpsSpec : ChangeSpec := { name := "fnWithPrefixOps", fn := fun _ => fun
  | [d1, d2, d3] => { results := [.lit (.bool true)], args := [d1, d2, d3] }
  | _ => none }
def fnWithPrefixOpsRow : OpenClaim := { program := "ytgmahieoiifpfaagreat", sum := "d2c69d82af6c3268620732c60fd713b28224b82150349d086e801e699da89ef8", func := "pub-coparcener/laws.FnWithPrefixOps", spec := "fnWithPrefixOps", inPlace := ["internal/bytealg.abigen_runtime_cmpstring", "slices.overlaps[pub-coparcener/pub/structuredmerge/fieldpath.PathElement]", "slices.overlaps[pub-coparcener/pub/structuredmerge/fieldpath.setNode]"], unfollowed := true, recurses := true, loops := true, apart := false }
def FnWithPrefixOpsSaid : Prop := fnWithPrefixOpsRow.holds Tryz.pinned (OpenSpec.ofChange fnWithPrefixOpsSpec)

/-- ITS FALSE NEIGHBOUR: 'it returns false'. Refute it at one input. -/
def fnWithPrefixOpsWrong : ChangeSpec := { name := "fnWithPrefixOps", fn := fun _ => fun
  | [d1, d2, d3] => { results := [.lit (.bool false)], args := [d1, d2, d3] }
  | _ => none }
def FnWithPrefixOpsWrongFalsely : Prop := fnWithPrefixOpsRow.holds Tryz.pinned (OpenSpec.ofChange fnWithPrefixOpsWrong)

/-- 'laws.FnSetNamedClosure': WHATEVER THE INPUT: true; the input reads as it did. -/
def fnSetNamedClosureSpec : ChangeSpec := { name := "fnSetNamedClosure", fn := fun _ => fun
  | [d1, d2, d3, d4] => { results := [.lit (.bool true)], args := [d1, d2, d3, d4] }
  | _ => none }
def fnSetNamedClosureRow : OpenClaim := { program := "ytgmahieoiifpfaagreat", sum := "d2c69d82af6c3268620732c60fd713b28224b82150349d086e801e699da89ef8", func := "pub-coparcener/laws.FnSetNamedClosure", spec := "fnSetNamedClosure", inPlace := ["internal/bytealg.abigen_runtime_cmpstring", "slices.overlaps[pub-coparcener/pub/structuredmerge/fieldpath.PathElement]", "slices.overlaps[pub-coparcener/pub/structuredmerge/fieldpath.setNode]"], unfollowed := true, recurses := true, loops := true, apart := false }
def FnSetNamedClosureSaid : Prop := fnSetNamedClosureRow.holds Tryz.pinned (OpenSpec.ofChange fnSetNamedClosureSpec)

/-- ITS FALSE NEIGHBOUR: 'it returns false'. Refute it at one input. -/
def fnSetNamedClosureWrong : ChangeSpec := { name := "fnSetNamedClosure", fn := fun _ => fun
  | [d1, d2, d3, d4] => { results := [.lit (.bool false)], args := [d1, d2, d3, d4] }
  | _ => none }
def FnSetNamedClosureWrongFalsely : Prop := fnSetNamedClosureRow.holds Tryz.pinned (OpenSpec.ofChange fnSetNamedClosureWrong)

/- THE SECOND FORM. 'bulk': how many values and letters a reading holds, each counted each time it is reached (what is shared counts as often as it is met; a slice's spare places count too). A statement '..UptoSaid' is the law's where the arguments, and the package variables that the reading takes, are together of bulk at most 1048576: NARROWER than '..Said'. Prove '..Said' where nothing that the law and all that it calls make is longer than what came in: it says more and counts as full. Else prove '..UptoSaid'. A law counts once. -/
mutual
def uptoBulk {H : Type} : DataW H → Nat
  | .lit (.string bytes) => bytes.length + 1
  | .lit _ => 1
  | .nil => 1
  | .ptr d => uptoBulk d + 1
  | .slice elems spare => uptoBulkAll elems + uptoBulkAll spare + 1
  | .agg parts => uptoBulkAll parts + 1
  | .iface _ d => uptoBulk d + 1
  | .map entries => uptoBulkEntries entries + 1
  | .held _ => 1
def uptoBulkAll {H : Type} : List (DataW H) → Nat
  | [] => 0
  | d :: r => uptoBulk d + uptoBulkAll r
def uptoBulkEntries {H : Type} : List (Lit × DataW H) → Nat
  | [] => 0
  | x :: r => uptoBulkEntry x + uptoBulkEntries r
def uptoBulkEntry {H : Type} : Lit × DataW H → Nat
  | (.string bytes, d) => bytes.length + uptoBulk d + 1
  | (_, d) => uptoBulk d + 1
 end
def uptoSmall : (H : Type) → List (DataW H) → Bool := fun _ ds => decide (uptoBulkAll ds ≤ 1048576)
def OpenSpec.upto (s : _root_.Go.ChangeSpec) : _root_.Go.OpenSpec := { _root_.Go.OpenSpec.ofChange s with cond := some uptoSmall }

/-- 'laws.FnElemMapReplaces', WHERE WHAT IT READS IS OF BULK AT MOST 1048576: true; the input reads as it did. -/
def fnElemMapReplacesUptoRow : OpenClaim := { program := "ytgmahieoiifpfaagreat", sum := "d2c69d82af6c3268620732c60fd713b28224b82150349d086e801e699da89ef8", func := "pub-coparcener/laws.FnElemMapReplaces", spec := "fnElemMapReplaces", inPlace := ["internal/bytealg.abigen_runtime_cmpstring", "slices.overlaps[pub-coparcener/pub/structuredmerge/fieldpath.pathElementValue]", "math.Float64bits"], unfollowed := true, recurses := true, loops := true, apart := false, narrowed := true }
def FnElemMapReplacesUptoSaid : Prop := fnElemMapReplacesUptoRow.holds Tryz.pinned (OpenSpec.upto fnElemMapReplacesSpec)

/-- 'laws.FnSetMembers', WHERE WHAT IT READS IS OF BULK AT MOST 1048576: true; the input reads as it did. -/
def fnSetMembersUptoRow : OpenClaim := { program := "ytgmahieoiifpfaagreat", sum := "d2c69d82af6c3268620732c60fd713b28224b82150349d086e801e699da89ef8", func := "pub-coparcener/laws.FnSetMembers", spec := "fnSetMembers", inPlace := ["internal/bytealg.abigen_runtime_cmpstring", "slices.overlaps[pub-coparcener/pub/structuredmerge/fieldpath.PathElement]", "slices.overlaps[pub-coparcener/pub/structuredmerge/fieldpath.setNode]"], unfollowed := true, recurses := true, loops := true, apart := false, narrowed := true }
def FnSetMembersUptoSaid : Prop := fnSetMembersUptoRow.holds Tryz.pinned (OpenSpec.upto fnSetMembersSpec)

/-- 'laws.FnItemElem', WHERE WHAT IT READS IS OF BULK AT MOST 1048576: true; the input reads as it did. -/
def fnItemElemUptoRow : OpenClaim := { program := "ytgmahieoiifpfaagreat", sum := "d2c69d82af6c3268620732c60fd713b28224b82150349d086e801e699da89ef8", func := "pub-coparcener/laws.FnItemElem", spec := "fnItemElem", unfollowed := true, recurses := true, loops := true, apart := false, narrowed := true }
def FnItemElemUptoSaid : Prop := fnItemElemUptoRow.holds Tryz.pinned (OpenSpec.upto fnItemElemSpec)

/-- 'laws.FnSetIntersection', WHERE WHAT IT READS IS OF BULK AT MOST 1048576: true; the input reads as it did. -/
def fnSetIntersectionUptoRow : OpenClaim := { program := "ytgmahieoiifpfaagreat", sum := "d2c69d82af6c3268620732c60fd713b28224b82150349d086e801e699da89ef8", func := "pub-coparcener/laws.FnSetIntersection", spec := "fnSetIntersection", inPlace := ["internal/bytealg.abigen_runtime_cmpstring", "slices.overlaps[pub-coparcener/pub/structuredmerge/fieldpath.PathElement]", "slices.overlaps[pub-coparcener/pub/structuredmerge/fieldpath.setNode]"], unfollowed := true, recurses := true, loops := true, apart := false, narrowed := true }
def FnSetIntersectionUptoSaid : Prop := fnSetIntersectionUptoRow.holds Tryz.pinned (OpenSpec.upto fnSetIntersectionSpec)

/-- 'laws.FnSetDescendPrefix', WHERE WHAT IT READS IS OF BULK AT MOST 1048576: true; the input reads as it did. -/
def fnSetDescendPrefixUptoRow : OpenClaim := { program := "ytgmahieoiifpfaagreat", sum := "d2c69d82af6c3268620732c60fd713b28224b82150349d086e801e699da89ef8", func := "pub-coparcener/laws.FnSetDescendPrefix", spec := "fnSetDescendPrefix", inPlace := ["internal/bytealg.abigen_runtime_cmpstring", "slices.overlaps[pub-coparcener/pub/structuredmerge/fieldpath.PathElement]", "slices.overlaps[pub-coparcener/pub/structuredmerge/fieldpath.setNode]"], unfollowed := true, recurses := true, loops := true, apart := false, narrowed := true }
def FnSetDescendPrefixUptoSaid : Prop := fnSetDescendPrefixUptoRow.holds Tryz.pinned (OpenSpec.upto fnSetDescendPrefixSpec)

/-- 'laws.FnSetTwice', WHERE WHAT IT READS IS OF BULK AT MOST 1048576: true; the input reads as it did. -/
def fnSetTwiceUptoRow : OpenClaim := { program := "ytgmahieoiifpfaagreat", sum := "d2c69d82af6c3268620732c60fd713b28224b82150349d086e801e699da89ef8", func := "pub-coparcener/laws.FnSetTwice", spec := "fnSetTwice", inPlace := ["internal/bytealg.abigen_runtime_cmpstring", "slices.overlaps[pub-coparcener/pub/structuredmerge/fieldpath.PathElement]", "slices.overlaps[pub-coparcener/pub/structuredmerge/fieldpath.setNode]"], unfollowed := true, recurses := true, loops := true, apart := false, narrowed := true }
def FnSetTwiceUptoSaid : Prop := fnSetTwiceUptoRow.holds Tryz.pinned (OpenSpec.upto fnSetTwiceSpec)

/-- 'laws.FnSetExclude', WHERE WHAT IT READS IS OF BULK AT MOST 1048576: true; the input reads as it did. -/
def fnSetExcludeUptoRow : OpenClaim := { program := "ytgmahieoiifpfaagreat", sum := "d2c69d82af6c3268620732c60fd713b28224b82150349d086e801e699da89ef8", func := "pub-coparcener/laws.FnSetExclude", spec := "fnSetExclude", inPlace := ["internal/bytealg.abigen_runtime_cmpstring", "slices.overlaps[pub-coparcener/pub/structuredmerge/fieldpath.PathElement]", "slices.overlaps[pub-coparcener/pub/structuredmerge/fieldpath.setNode]"], unfollowed := true, recurses := true, loops := true, apart := false, narrowed := true }
def FnSetExcludeUptoSaid : Prop := fnSetExcludeUptoRow.holds Tryz.pinned (OpenSpec.upto fnSetExcludeSpec)

/-- 'laws.FnConflictsTogether', WHERE WHAT IT READS IS OF BULK AT MOST 1048576: true; the input reads as it did. -/
def fnConflictsTogetherUptoRow : OpenClaim := { program := "ytgmahieoiifpfaagreat", sum := "d2c69d82af6c3268620732c60fd713b28224b82150349d086e801e699da89ef8", func := "pub-coparcener/laws.FnConflictsTogether", spec := "fnConflictsTogether", inPlace := ["internal/bytealg.abigen_runtime_cmpstring", "slices.overlaps[pub-coparcener/pub/structuredmerge/fieldpath.PathElement]", "slices.overlaps[pub-coparcener/pub/structuredmerge/fieldpath.setNode]"], unfollowed := true, recurses := true, loops := true, apart := false, narrowed := true }
def FnConflictsTogetherUptoSaid : Prop := fnConflictsTogetherUptoRow.holds Tryz.pinned (OpenSpec.upto fnConflictsTogetherSpec)

/-- 'laws.FnDifferManagers', WHERE WHAT IT READS IS OF BULK AT MOST 1048576: true; the input reads as it did. -/
def fnDifferManagersUptoRow : OpenClaim := { program := "ytgmahieoiifpfaagreat", sum := "d2c69d82af6c3268620732c60fd713b28224b82150349d086e801e699da89ef8", func := "pub-coparcener/laws.FnDifferManagers", spec := "fnDifferManagers", inPlace := ["internal/bytealg.abigen_runtime_cmpstring", "slices.overlaps[pub-coparcener/pub/structuredmerge/fieldpath.PathElement]", "slices.overlaps[pub-coparcener/pub/structuredmerge/fieldpath.setNode]"], unfollowed := true, recurses := true, loops := true, apart := false, narrowed := true }
def FnDifferManagersUptoSaid : Prop := fnDifferManagersUptoRow.holds Tryz.pinned (OpenSpec.upto fnDifferManagersSpec)

/-- 'laws.FnSetIdentities', WHERE WHAT IT READS IS OF BULK AT MOST 1048576: true; the input reads as it did. -/
def fnSetIdentitiesUptoRow : OpenClaim := { program := "ytgmahieoiifpfaagreat", sum := "d2c69d82af6c3268620732c60fd713b28224b82150349d086e801e699da89ef8", func := "pub-coparcener/laws.FnSetIdentities", spec := "fnSetIdentities", inPlace := ["internal/bytealg.abigen_runtime_cmpstring", "slices.overlaps[pub-coparcener/pub/structuredmerge/fieldpath.PathElement]", "slices.overlaps[pub-coparcener/pub/structuredmerge/fieldpath.setNode]"], unfollowed := true, recurses := true, loops := true, apart := false, narrowed := true }
def FnSetIdentitiesUptoSaid : Prop := fnSetIdentitiesUptoRow.holds Tryz.pinned (OpenSpec.upto fnSetIdentitiesSpec)

/-- 'laws.FnWithPrefixOps', WHERE WHAT IT READS IS OF BULK AT MOST 1048576: true; the input reads as it did. -/
def fnWithPrefixOpsUptoRow : OpenClaim := { program := "ytgmahieoiifpfaagreat", sum := "d2c69d82af6c3268620732c60fd713b28224b82150349d086e801e699da89ef8", func := "pub-coparcener/laws.FnWithPrefixOps", spec := "fnWithPrefixOps", inPlace := ["internal/bytealg.abigen_runtime_cmpstring", "slices.overlaps[pub-coparcener/pub/structuredmerge/fieldpath.PathElement]", "slices.overlaps[pub-coparcener/pub/structuredmerge/fieldpath.setNode]"], unfollowed := true, recurses := true, loops := true, apart := false, narrowed := true }
def FnWithPrefixOpsUptoSaid : Prop := fnWithPrefixOpsUptoRow.holds Tryz.pinned (OpenSpec.upto fnWithPrefixOpsSpec)

/-- 'laws.FnSetNamedClosure', WHERE WHAT IT READS IS OF BULK AT MOST 1048576: true; the input reads as it did. -/
def fnSetNamedClosureUptoRow : OpenClaim := { program := "ytgmahieoiifpfaagreat", sum := "d2c69d82af6c3268620732c60fd713b28224b82150349d086e801e699da89ef8", func := "pub-coparcener/laws.FnSetNamedClosure", spec := "fnSetNamedClosure", inPlace := ["internal/bytealg.abigen_runtime_cmpstring", "slices.overlaps[pub-coparcener/pub/structuredmerge/fieldpath.PathElement]", "slices.overlaps[pub-coparcener/pub/structuredmerge/fieldpath.setNode]"], unfollowed := true, recurses := true, loops := true, apart := false, narrowed := true }
def FnSetNamedClosureUptoSaid : Prop := fnSetNamedClosureUptoRow.holds Tryz.pinned (OpenSpec.upto fnSetNamedClosureSpec)

end Rows
end Go.Proofs.YtgmahieoiifpfaaGreat
