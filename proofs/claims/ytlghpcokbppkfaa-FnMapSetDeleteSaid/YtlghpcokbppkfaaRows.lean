/-
  NARROWER THAN 'FOR EVERY INPUT', by the rows' own cells (each row's printed sentence says how): FnKinds: loops · FnElemRoundTrip: loops · FnKeyByFields: loops · FnFindFieldFinds: loops · FnStepType: loops · FnKeyDefault: loops · FnResolveRelation: loops · FnEqualValues: loops · FnLessListsAndMaps: loops · FnMapSetDelete: loops · FnEqualReplaces: loops · FnFirstItemDecides: loops.
  DERIVED. THE GIVEN ROWS OF THIS SEAT. 12 by the template 'for every input the law returns true; each argument reads behind the call as it read before'; 0 by the template 'total and deterministic' (their statements: YtlghpcokbppkfaaTotals.lean).
  GIVEN WITH THE SEED: the statements are not yours to turn. If you find one false, say at which input.
  Laid BY PROGRAM, IN A SANDBOX (cutbox-rows.mjs): the forced cells as the released guide's own fill.sh prints them over the translation b48959306e05124c… (all of the seat's roots in one cut). By AI agents, Wed Nov 11 2026. No macro, syntax, notation, axiom, sorry.
-/
import Derived.Test.YtlghpcokbppkfaaChecked
import GoSem.Claim
import GoSem.ClaimJoined
import GoSem.ClaimMapViews
import Derived.JoinedTies
import Derived.KernelRfl
namespace Go.Proofs.Ytlghpcokbppkfaa
/- THE CELL 'sum', in the pinned program and in every row, IS THE sha256 OF THE DUMP (.gsa) THAT YtlghpcokbppkfaaProg.lean LOADS. Nothing in Lean hashes anything: it is a label: what it is worth is what the hold of that sum in a sandbox is worth. -/
noncomputable def Try.pinned : Pinned := { name := "ytlghpcokbppkfaa", sum := "b48959306e05124c9ee4334412cb6a1300c7e8e12b6bb952ef432ce13bf9be7f", checked := Try.checked }
namespace Rows
def none {H : Type} : Left H := { results := [], args := [] }

/-- 'laws.FnKinds': WHATEVER THE INPUT: true; the input reads as it did. -/
def fnKindsSpec : ChangeSpec := { name := "fnKinds", fn := fun _ => fun
  | [d] => { results := [.lit (.bool true)], args := [d] }
  | _ => none }
def fnKindsRow : OpenClaim := { program := "ytlghpcokbppkfaa", sum := "b48959306e05124c9ee4334412cb6a1300c7e8e12b6bb952ef432ce13bf9be7f", func := "pub-coparcener/laws.FnKinds", spec := "fnKinds", unfollowed := true, recurses := true, loops := true, apart := false }
def FnKindsSaid : Prop := fnKindsRow.holds Try.pinned (OpenSpec.ofChange fnKindsSpec)

/-- ITS FALSE NEIGHBOUR: 'it returns false'. Refute it at one input. -/
def fnKindsWrong : ChangeSpec := { name := "fnKinds", fn := fun _ => fun
  | [d] => { results := [.lit (.bool false)], args := [d] }
  | _ => none }
def FnKindsWrongFalsely : Prop := fnKindsRow.holds Try.pinned (OpenSpec.ofChange fnKindsWrong)

/-- 'laws.FnElemRoundTrip': WHATEVER THE INPUT: true; the input reads as it did. -/
def fnElemRoundTripSpec : ChangeSpec := { name := "fnElemRoundTrip", fn := fun _ => fun
  | [d] => { results := [.lit (.bool true)], args := [d] }
  | _ => none }
def fnElemRoundTripRow : OpenClaim := { program := "ytlghpcokbppkfaa", sum := "b48959306e05124c9ee4334412cb6a1300c7e8e12b6bb952ef432ce13bf9be7f", func := "pub-coparcener/laws.FnElemRoundTrip", spec := "fnElemRoundTrip", inPlace := ["math.Float64bits"], unfollowed := true, recurses := true, loops := true, apart := false }
def FnElemRoundTripSaid : Prop := fnElemRoundTripRow.holds Try.pinned (OpenSpec.ofChange fnElemRoundTripSpec)

/-- ITS FALSE NEIGHBOUR: 'it returns false'. Refute it at one input. -/
def fnElemRoundTripWrong : ChangeSpec := { name := "fnElemRoundTrip", fn := fun _ => fun
  | [d] => { results := [.lit (.bool false)], args := [d] }
  | _ => none }
def FnElemRoundTripWrongFalsely : Prop := fnElemRoundTripRow.holds Try.pinned (OpenSpec.ofChange fnElemRoundTripWrong)

/-- 'laws.FnKeyByFields': WHATEVER THE INPUT: true; the input reads as it did. -/
def fnKeyByFieldsSpec : ChangeSpec := { name := "fnKeyByFields", fn := fun _ => fun
  | [d] => { results := [.lit (.bool true)], args := [d] }
  | _ => none }
def fnKeyByFieldsRow : OpenClaim := { program := "ytlghpcokbppkfaa", sum := "b48959306e05124c9ee4334412cb6a1300c7e8e12b6bb952ef432ce13bf9be7f", func := "pub-coparcener/laws.FnKeyByFields", spec := "fnKeyByFields", inPlace := ["math.Float64bits"], unfollowed := true, recurses := true, loops := true, apart := false }
def FnKeyByFieldsSaid : Prop := fnKeyByFieldsRow.holds Try.pinned (OpenSpec.ofChange fnKeyByFieldsSpec)

/-- ITS FALSE NEIGHBOUR: 'it returns false'. Refute it at one input. -/
def fnKeyByFieldsWrong : ChangeSpec := { name := "fnKeyByFields", fn := fun _ => fun
  | [d] => { results := [.lit (.bool false)], args := [d] }
  | _ => none }
def FnKeyByFieldsWrongFalsely : Prop := fnKeyByFieldsRow.holds Try.pinned (OpenSpec.ofChange fnKeyByFieldsWrong)

/-- 'laws.FnFindFieldFinds': WHATEVER THE INPUT: true; the input reads as it did. -/
def fnFindFieldFindsSpec : ChangeSpec := { name := "fnFindFieldFinds", fn := fun _ => fun
  | [d1, d2] => { results := [.lit (.bool true)], args := [d1, d2] }
  | _ => none }
def fnFindFieldFindsRow : OpenClaim := { program := "ytlghpcokbppkfaa", sum := "b48959306e05124c9ee4334412cb6a1300c7e8e12b6bb952ef432ce13bf9be7f", func := "pub-coparcener/laws.FnFindFieldFinds", spec := "fnFindFieldFinds", inPlace := ["math.Float64bits"], unfollowed := true, recurses := true, loops := true, apart := false }
def FnFindFieldFindsSaid : Prop := fnFindFieldFindsRow.holds Try.pinned (OpenSpec.ofChange fnFindFieldFindsSpec)

/-- ITS FALSE NEIGHBOUR: 'it returns false'. Refute it at one input. -/
def fnFindFieldFindsWrong : ChangeSpec := { name := "fnFindFieldFinds", fn := fun _ => fun
  | [d1, d2] => { results := [.lit (.bool false)], args := [d1, d2] }
  | _ => none }
def FnFindFieldFindsWrongFalsely : Prop := fnFindFieldFindsRow.holds Try.pinned (OpenSpec.ofChange fnFindFieldFindsWrong)

/-- 'laws.FnStepType': WHATEVER THE INPUT: true; the input reads as it did. -/
def fnStepTypeSpec : ChangeSpec := { name := "fnStepType", fn := fun _ => fun
  | [d1, d2] => { results := [.lit (.bool true)], args := [d1, d2] }
  | _ => none }
def fnStepTypeRow : OpenClaim := { program := "ytlghpcokbppkfaa", sum := "b48959306e05124c9ee4334412cb6a1300c7e8e12b6bb952ef432ce13bf9be7f", func := "pub-coparcener/laws.FnStepType", spec := "fnStepType", inPlace := ["math.Float64bits"], unfollowed := true, recurses := true, loops := true, apart := false }
def FnStepTypeSaid : Prop := fnStepTypeRow.holds Try.pinned (OpenSpec.ofChange fnStepTypeSpec)

/-- ITS FALSE NEIGHBOUR: 'it returns false'. Refute it at one input. -/
def fnStepTypeWrong : ChangeSpec := { name := "fnStepType", fn := fun _ => fun
  | [d1, d2] => { results := [.lit (.bool false)], args := [d1, d2] }
  | _ => none }
def FnStepTypeWrongFalsely : Prop := fnStepTypeRow.holds Try.pinned (OpenSpec.ofChange fnStepTypeWrong)

/-- 'laws.FnKeyDefault': WHATEVER THE INPUT: true; the input reads as it did. -/
def fnKeyDefaultSpec : ChangeSpec := { name := "fnKeyDefault", fn := fun _ => fun
  | [d1, d2, d3] => { results := [.lit (.bool true)], args := [d1, d2, d3] }
  | _ => none }
def fnKeyDefaultRow : OpenClaim := { program := "ytlghpcokbppkfaa", sum := "b48959306e05124c9ee4334412cb6a1300c7e8e12b6bb952ef432ce13bf9be7f", func := "pub-coparcener/laws.FnKeyDefault", spec := "fnKeyDefault", inPlace := ["math.Float64bits"], recurses := true, loops := true, apart := false }
def FnKeyDefaultSaid : Prop := fnKeyDefaultRow.holds Try.pinned (OpenSpec.ofChange fnKeyDefaultSpec)

/-- ITS FALSE NEIGHBOUR: 'it returns false'. Refute it at one input. -/
def fnKeyDefaultWrong : ChangeSpec := { name := "fnKeyDefault", fn := fun _ => fun
  | [d1, d2, d3] => { results := [.lit (.bool false)], args := [d1, d2, d3] }
  | _ => none }
def FnKeyDefaultWrongFalsely : Prop := fnKeyDefaultRow.holds Try.pinned (OpenSpec.ofChange fnKeyDefaultWrong)

/-- 'laws.FnResolveRelation': WHATEVER THE INPUT: true; the input reads as it did. -/
def fnResolveRelationSpec : ChangeSpec := { name := "fnResolveRelation", fn := fun _ => fun
  | [d1, d2, d3] => { results := [.lit (.bool true)], args := [d1, d2, d3] }
  | _ => none }
def fnResolveRelationRow : OpenClaim := { program := "ytlghpcokbppkfaa", sum := "b48959306e05124c9ee4334412cb6a1300c7e8e12b6bb952ef432ce13bf9be7f", func := "pub-coparcener/laws.FnResolveRelation", spec := "fnResolveRelation", inPlace := ["math.Float64bits"], unfollowed := true, recurses := true, loops := true, apart := false }
def FnResolveRelationSaid : Prop := fnResolveRelationRow.holds Try.pinned (OpenSpec.ofChange fnResolveRelationSpec)

/-- ITS FALSE NEIGHBOUR: 'it returns false'. Refute it at one input. -/
def fnResolveRelationWrong : ChangeSpec := { name := "fnResolveRelation", fn := fun _ => fun
  | [d1, d2, d3] => { results := [.lit (.bool false)], args := [d1, d2, d3] }
  | _ => none }
def FnResolveRelationWrongFalsely : Prop := fnResolveRelationRow.holds Try.pinned (OpenSpec.ofChange fnResolveRelationWrong)

/-- 'laws.FnEqualValues': WHATEVER THE INPUT: true; the input reads as it did. -/
def fnEqualValuesSpec : ChangeSpec := { name := "fnEqualValues", fn := fun _ => fun
  | [d1, d2] => { results := [.lit (.bool true)], args := [d1, d2] }
  | _ => none }
def fnEqualValuesRow : OpenClaim := { program := "ytlghpcokbppkfaa", sum := "b48959306e05124c9ee4334412cb6a1300c7e8e12b6bb952ef432ce13bf9be7f", func := "pub-coparcener/laws.FnEqualValues", spec := "fnEqualValues", unfollowed := true, recurses := true, loops := true, apart := false }
def FnEqualValuesSaid : Prop := fnEqualValuesRow.holds Try.pinned (OpenSpec.ofChange fnEqualValuesSpec)

/-- ITS FALSE NEIGHBOUR: 'it returns false'. Refute it at one input. -/
def fnEqualValuesWrong : ChangeSpec := { name := "fnEqualValues", fn := fun _ => fun
  | [d1, d2] => { results := [.lit (.bool false)], args := [d1, d2] }
  | _ => none }
def FnEqualValuesWrongFalsely : Prop := fnEqualValuesRow.holds Try.pinned (OpenSpec.ofChange fnEqualValuesWrong)

/-- 'laws.FnLessListsAndMaps': WHATEVER THE INPUT: true; the input reads as it did. -/
def fnLessListsAndMapsSpec : ChangeSpec := { name := "fnLessListsAndMaps", fn := fun _ => fun
  | [d1, d2] => { results := [.lit (.bool true)], args := [d1, d2] }
  | _ => none }
def fnLessListsAndMapsRow : OpenClaim := { program := "ytlghpcokbppkfaa", sum := "b48959306e05124c9ee4334412cb6a1300c7e8e12b6bb952ef432ce13bf9be7f", func := "pub-coparcener/laws.FnLessListsAndMaps", spec := "fnLessListsAndMaps", inPlace := ["internal/bytealg.abigen_runtime_cmpstring"], unfollowed := true, recurses := true, loops := true, apart := false }
def FnLessListsAndMapsSaid : Prop := fnLessListsAndMapsRow.holds Try.pinned (OpenSpec.ofChange fnLessListsAndMapsSpec)

/-- ITS FALSE NEIGHBOUR: 'it returns false'. Refute it at one input. -/
def fnLessListsAndMapsWrong : ChangeSpec := { name := "fnLessListsAndMaps", fn := fun _ => fun
  | [d1, d2] => { results := [.lit (.bool false)], args := [d1, d2] }
  | _ => none }
def FnLessListsAndMapsWrongFalsely : Prop := fnLessListsAndMapsRow.holds Try.pinned (OpenSpec.ofChange fnLessListsAndMapsWrong)

/-- 'laws.FnMapSetDelete': WHATEVER THE INPUT: true; the input reads as it did. -/
def fnMapSetDeleteSpec : ChangeSpec := { name := "fnMapSetDelete", fn := fun _ => fun
  | [d1, d2, d3] => { results := [.lit (.bool true)], args := [d1, d2, d3] }
  | _ => none }
def fnMapSetDeleteRow : OpenClaim := { program := "ytlghpcokbppkfaa", sum := "b48959306e05124c9ee4334412cb6a1300c7e8e12b6bb952ef432ce13bf9be7f", func := "pub-coparcener/laws.FnMapSetDelete", spec := "fnMapSetDelete", inPlace := ["math.Float64bits"], unfollowed := true, recurses := true, loops := true, apart := false }
def FnMapSetDeleteSaid : Prop := fnMapSetDeleteRow.holds Try.pinned (OpenSpec.ofChange fnMapSetDeleteSpec)

/-- ITS FALSE NEIGHBOUR: 'it returns false'. Refute it at one input. -/
def fnMapSetDeleteWrong : ChangeSpec := { name := "fnMapSetDelete", fn := fun _ => fun
  | [d1, d2, d3] => { results := [.lit (.bool false)], args := [d1, d2, d3] }
  | _ => none }
def FnMapSetDeleteWrongFalsely : Prop := fnMapSetDeleteRow.holds Try.pinned (OpenSpec.ofChange fnMapSetDeleteWrong)

/-- 'laws.FnEqualReplaces': WHATEVER THE INPUT: true; the input reads as it did. -/
def fnEqualReplacesSpec : ChangeSpec := { name := "fnEqualReplaces", fn := fun _ => fun
  | [d1, d2, d3] => { results := [.lit (.bool true)], args := [d1, d2, d3] }
  | _ => none }
def fnEqualReplacesRow : OpenClaim := { program := "ytlghpcokbppkfaa", sum := "b48959306e05124c9ee4334412cb6a1300c7e8e12b6bb952ef432ce13bf9be7f", func := "pub-coparcener/laws.FnEqualReplaces", spec := "fnEqualReplaces", inPlace := ["internal/bytealg.abigen_runtime_cmpstring"], unfollowed := true, recurses := true, loops := true, apart := false }
def FnEqualReplacesSaid : Prop := fnEqualReplacesRow.holds Try.pinned (OpenSpec.ofChange fnEqualReplacesSpec)

/-- ITS FALSE NEIGHBOUR: 'it returns false'. Refute it at one input. -/
def fnEqualReplacesWrong : ChangeSpec := { name := "fnEqualReplaces", fn := fun _ => fun
  | [d1, d2, d3] => { results := [.lit (.bool false)], args := [d1, d2, d3] }
  | _ => none }
def FnEqualReplacesWrongFalsely : Prop := fnEqualReplacesRow.holds Try.pinned (OpenSpec.ofChange fnEqualReplacesWrong)

/-- 'laws.FnFirstItemDecides': WHATEVER THE INPUT: true; the input reads as it did. -/
def fnFirstItemDecidesSpec : ChangeSpec := { name := "fnFirstItemDecides", fn := fun _ => fun
  | [d1, d2, d3, d4, d5] => { results := [.lit (.bool true)], args := [d1, d2, d3, d4, d5] }
  | _ => none }
def fnFirstItemDecidesRow : OpenClaim := { program := "ytlghpcokbppkfaa", sum := "b48959306e05124c9ee4334412cb6a1300c7e8e12b6bb952ef432ce13bf9be7f", func := "pub-coparcener/laws.FnFirstItemDecides", spec := "fnFirstItemDecides", inPlace := ["internal/bytealg.abigen_runtime_cmpstring"], unfollowed := true, recurses := true, loops := true, apart := false }
def FnFirstItemDecidesSaid : Prop := fnFirstItemDecidesRow.holds Try.pinned (OpenSpec.ofChange fnFirstItemDecidesSpec)

/-- ITS FALSE NEIGHBOUR: 'it returns false'. Refute it at one input. -/
def fnFirstItemDecidesWrong : ChangeSpec := { name := "fnFirstItemDecides", fn := fun _ => fun
  | [d1, d2, d3, d4, d5] => { results := [.lit (.bool false)], args := [d1, d2, d3, d4, d5] }
  | _ => none }
def FnFirstItemDecidesWrongFalsely : Prop := fnFirstItemDecidesRow.holds Try.pinned (OpenSpec.ofChange fnFirstItemDecidesWrong)

/- THE SECOND FORM. 'bulk': how many values and letters a reading holds, each counted each time it is reached (what is shared counts as often as it is met; a slice's spare places count too). A statement '..UptoSaid' is the law's where the arguments, and the package variables that the reading takes, are together of bulk at most 1048576: NARROWER than '..Said'. Prove '..Said' where nothing that the law and all that it calls make is longer than what came in: it says more and counts as full. Else prove '..UptoSaid'. A law counts once. -/
mutual
def uptoBulk {H : Type} : DataW H → Nat
  | .lit (.string bytes) => bytes.length + 1
  | .lit _ => 1
  | .nil => 1
  | .ptr d => uptoBulk d + 1
  | .slice elems spare => uptoBulkAll elems + uptoBulkAll spare + 1
  | .agg parts => uptoBulkAll parts + 1
  | .iface _ d => uptoBulk d + 1
  | .map entries => uptoBulkEntries entries + 1
  | .held _ => 1
def uptoBulkAll {H : Type} : List (DataW H) → Nat
  | [] => 0
  | d :: r => uptoBulk d + uptoBulkAll r
def uptoBulkEntries {H : Type} : List (Lit × DataW H) → Nat
  | [] => 0
  | x :: r => uptoBulkEntry x + uptoBulkEntries r
def uptoBulkEntry {H : Type} : Lit × DataW H → Nat
  | (.string bytes, d) => bytes.length + uptoBulk d + 1
  | (_, d) => uptoBulk d + 1
 end
def uptoSmall : (H : Type) → List (DataW H) → Bool := fun _ ds => decide (uptoBulkAll ds ≤ 1048576)
def OpenSpec.upto (s : _root_.Go.ChangeSpec) : _root_.Go.OpenSpec := { _root_.Go.OpenSpec.ofChange s with cond := some uptoSmall }

/-- 'laws.FnKinds', WHERE WHAT IT READS IS OF BULK AT MOST 1048576: true; the input reads as it did. -/
def fnKindsUptoRow : OpenClaim := { program := "ytlghpcokbppkfaa", sum := "b48959306e05124c9ee4334412cb6a1300c7e8e12b6bb952ef432ce13bf9be7f", func := "pub-coparcener/laws.FnKinds", spec := "fnKinds", unfollowed := true, recurses := true, loops := true, apart := false, narrowed := true }
def FnKindsUptoSaid : Prop := fnKindsUptoRow.holds Try.pinned (OpenSpec.upto fnKindsSpec)

/-- 'laws.FnElemRoundTrip', WHERE WHAT IT READS IS OF BULK AT MOST 1048576: true; the input reads as it did. -/
def fnElemRoundTripUptoRow : OpenClaim := { program := "ytlghpcokbppkfaa", sum := "b48959306e05124c9ee4334412cb6a1300c7e8e12b6bb952ef432ce13bf9be7f", func := "pub-coparcener/laws.FnElemRoundTrip", spec := "fnElemRoundTrip", inPlace := ["math.Float64bits"], unfollowed := true, recurses := true, loops := true, apart := false, narrowed := true }
def FnElemRoundTripUptoSaid : Prop := fnElemRoundTripUptoRow.holds Try.pinned (OpenSpec.upto fnElemRoundTripSpec)

/-- 'laws.FnKeyByFields', WHERE WHAT IT READS IS OF BULK AT MOST 1048576: true; the input reads as it did. -/
def fnKeyByFieldsUptoRow : OpenClaim := { program := "ytlghpcokbppkfaa", sum := "b48959306e05124c9ee4334412cb6a1300c7e8e12b6bb952ef432ce13bf9be7f", func := "pub-coparcener/laws.FnKeyByFields", spec := "fnKeyByFields", inPlace := ["math.Float64bits"], unfollowed := true, recurses := true, loops := true, apart := false, narrowed := true }
def FnKeyByFieldsUptoSaid : Prop := fnKeyByFieldsUptoRow.holds Try.pinned (OpenSpec.upto fnKeyByFieldsSpec)

/-- 'laws.FnFindFieldFinds', WHERE WHAT IT READS IS OF BULK AT MOST 1048576: true; the input reads as it did. -/
def fnFindFieldFindsUptoRow : OpenClaim := { program := "ytlghpcokbppkfaa", sum := "b48959306e05124c9ee4334412cb6a1300c7e8e12b6bb952ef432ce13bf9be7f", func := "pub-coparcener/laws.FnFindFieldFinds", spec := "fnFindFieldFinds", inPlace := ["math.Float64bits"], unfollowed := true, recurses := true, loops := true, apart := false, narrowed := true }
def FnFindFieldFindsUptoSaid : Prop := fnFindFieldFindsUptoRow.holds Try.pinned (OpenSpec.upto fnFindFieldFindsSpec)

/-- 'laws.FnStepType', WHERE WHAT IT READS IS OF BULK AT MOST 1048576: true; the input reads as it did. -/
def fnStepTypeUptoRow : OpenClaim := { program := "ytlghpcokbppkfaa", sum := "b48959306e05124c9ee4334412cb6a1300c7e8e12b6bb952ef432ce13bf9be7f", func := "pub-coparcener/laws.FnStepType", spec := "fnStepType", inPlace := ["math.Float64bits"], unfollowed := true, recurses := true, loops := true, apart := false, narrowed := true }
def FnStepTypeUptoSaid : Prop := fnStepTypeUptoRow.holds Try.pinned (OpenSpec.upto fnStepTypeSpec)

/-- 'laws.FnKeyDefault', WHERE WHAT IT READS IS OF BULK AT MOST 1048576: true; the input reads as it did. -/
def fnKeyDefaultUptoRow : OpenClaim := { program := "ytlghpcokbppkfaa", sum := "b48959306e05124c9ee4334412cb6a1300c7e8e12b6bb952ef432ce13bf9be7f", func := "pub-coparcener/laws.FnKeyDefault", spec := "fnKeyDefault", inPlace := ["math.Float64bits"], recurses := true, loops := true, apart := false, narrowed := true }
def FnKeyDefaultUptoSaid : Prop := fnKeyDefaultUptoRow.holds Try.pinned (OpenSpec.upto fnKeyDefaultSpec)

/-- 'laws.FnResolveRelation', WHERE WHAT IT READS IS OF BULK AT MOST 1048576: true; the input reads as it did. -/
def fnResolveRelationUptoRow : OpenClaim := { program := "ytlghpcokbppkfaa", sum := "b48959306e05124c9ee4334412cb6a1300c7e8e12b6bb952ef432ce13bf9be7f", func := "pub-coparcener/laws.FnResolveRelation", spec := "fnResolveRelation", inPlace := ["math.Float64bits"], unfollowed := true, recurses := true, loops := true, apart := false, narrowed := true }
def FnResolveRelationUptoSaid : Prop := fnResolveRelationUptoRow.holds Try.pinned (OpenSpec.upto fnResolveRelationSpec)

/-- 'laws.FnEqualValues', WHERE WHAT IT READS IS OF BULK AT MOST 1048576: true; the input reads as it did. -/
def fnEqualValuesUptoRow : OpenClaim := { program := "ytlghpcokbppkfaa", sum := "b48959306e05124c9ee4334412cb6a1300c7e8e12b6bb952ef432ce13bf9be7f", func := "pub-coparcener/laws.FnEqualValues", spec := "fnEqualValues", unfollowed := true, recurses := true, loops := true, apart := false, narrowed := true }
def FnEqualValuesUptoSaid : Prop := fnEqualValuesUptoRow.holds Try.pinned (OpenSpec.upto fnEqualValuesSpec)

/-- 'laws.FnLessListsAndMaps', WHERE WHAT IT READS IS OF BULK AT MOST 1048576: true; the input reads as it did. -/
def fnLessListsAndMapsUptoRow : OpenClaim := { program := "ytlghpcokbppkfaa", sum := "b48959306e05124c9ee4334412cb6a1300c7e8e12b6bb952ef432ce13bf9be7f", func := "pub-coparcener/laws.FnLessListsAndMaps", spec := "fnLessListsAndMaps", inPlace := ["internal/bytealg.abigen_runtime_cmpstring"], unfollowed := true, recurses := true, loops := true, apart := false, narrowed := true }
def FnLessListsAndMapsUptoSaid : Prop := fnLessListsAndMapsUptoRow.holds Try.pinned (OpenSpec.upto fnLessListsAndMapsSpec)

/-- 'laws.FnMapSetDelete', WHERE WHAT IT READS IS OF BULK AT MOST 1048576: true; the input reads as it did. -/
def fnMapSetDeleteUptoRow : OpenClaim := { program := "ytlghpcokbppkfaa", sum := "b48959306e05124c9ee4334412cb6a1300c7e8e12b6bb952ef432ce13bf9be7f", func := "pub-coparcener/laws.FnMapSetDelete", spec := "fnMapSetDelete", inPlace := ["math.Float64bits"], unfollowed := true, recurses := true, loops := true, apart := false, narrowed := true }
def FnMapSetDeleteUptoSaid : Prop := fnMapSetDeleteUptoRow.holds Try.pinned (OpenSpec.upto fnMapSetDeleteSpec)

/-- 'laws.FnEqualReplaces', WHERE WHAT IT READS IS OF BULK AT MOST 1048576: true; the input reads as it did. -/
def fnEqualReplacesUptoRow : OpenClaim := { program := "ytlghpcokbppkfaa", sum := "b48959306e05124c9ee4334412cb6a1300c7e8e12b6bb952ef432ce13bf9be7f", func := "pub-coparcener/laws.FnEqualReplaces", spec := "fnEqualReplaces", inPlace := ["internal/bytealg.abigen_runtime_cmpstring"], unfollowed := true, recurses := true, loops := true, apart := false, narrowed := true }
def FnEqualReplacesUptoSaid : Prop := fnEqualReplacesUptoRow.holds Try.pinned (OpenSpec.upto fnEqualReplacesSpec)

/-- 'laws.FnFirstItemDecides', WHERE WHAT IT READS IS OF BULK AT MOST 1048576: true; the input reads as it did. -/
def fnFirstItemDecidesUptoRow : OpenClaim := { program := "ytlghpcokbppkfaa", sum := "b48959306e05124c9ee4334412cb6a1300c7e8e12b6bb952ef432ce13bf9be7f", func := "pub-coparcener/laws.FnFirstItemDecides", spec := "fnFirstItemDecides", inPlace := ["internal/bytealg.abigen_runtime_cmpstring"], unfollowed := true, recurses := true, loops := true, apart := false, narrowed := true }
def FnFirstItemDecidesUptoSaid : Prop := fnFirstItemDecidesUptoRow.holds Try.pinned (OpenSpec.upto fnFirstItemDecidesSpec)

end Rows
end Go.Proofs.Ytlghpcokbppkfaa
