/-
  NARROWER THAN 'FOR EVERY INPUT', by the rows' own cells (each row's printed sentence says how): FnFindFieldFinds: loops · FnEqualValues: loops · FnLessListsAndMaps: loops · FnMapSetDelete: loops · FnEqualReplaces: loops · FnFirstItemDecides: loops · FnElemKindsInOrder: loops.
  DERIVED. THE GIVEN ROWS OF THIS SEAT. 7 by the template 'for every input the law returns true; each argument reads behind the call as it read before'; 0 by the template 'total and deterministic' (their statements: YtbbacpdbbmjblaaTotals.lean).
  GIVEN WITH THE SEED: the statements are not yours to turn. If you find one false, say at which input.
  Laid BY PROGRAM, IN A SANDBOX (cutbox-rows.mjs): the forced cells as the released guide's own fill.sh prints them over the translation 7457a020446639cf… (all of the seat's roots in one cut). By AI agents, Wed Nov 11 2026. No macro, syntax, notation, axiom, sorry.
-/
import Derived.Test.YtbbacpdbbmjblaaChecked
import GoSem.Claim
import GoSem.ClaimJoined
import GoSem.ClaimMapViews
import Derived.JoinedTies
import Derived.KernelRfl
namespace Go.Proofs.Ytbbacpdbbmjblaa
/- THE CELL 'sum', in the pinned program and in every row, IS THE sha256 OF THE DUMP (.gsa) THAT YtbbacpdbbmjblaaProg.lean LOADS. Nothing in Lean hashes anything: it is a label: what it is worth is what the hold of that sum in a sandbox is worth. -/
noncomputable def Try.pinned : Pinned := { name := "ytbbacpdbbmjblaa", sum := "7457a020446639cf1c723c4cfcfcf879436874b2e37fa61db96e57b0c72382de", checked := Try.checked }
namespace Rows
def none {H : Type} : Left H := { results := [], args := [] }

/-- 'laws.FnFindFieldFinds': WHATEVER THE INPUT: true; the input reads as it did. -/
def fnFindFieldFindsSpec : ChangeSpec := { name := "fnFindFieldFinds", fn := fun _ => fun
  | [d1, d2] => { results := [.lit (.bool true)], args := [d1, d2] }
  | _ => none }
def fnFindFieldFindsRow : OpenClaim := { program := "ytbbacpdbbmjblaa", sum := "7457a020446639cf1c723c4cfcfcf879436874b2e37fa61db96e57b0c72382de", func := "pub-coparcener/laws.FnFindFieldFinds", spec := "fnFindFieldFinds", inPlace := ["math.Float64bits"], unfollowed := true, recurses := true, loops := true, apart := false }
def FnFindFieldFindsSaid : Prop := fnFindFieldFindsRow.holds Try.pinned (OpenSpec.ofChange fnFindFieldFindsSpec)

/-- ITS FALSE NEIGHBOUR: 'it returns false'. Refute it at one input. -/
def fnFindFieldFindsWrong : ChangeSpec := { name := "fnFindFieldFinds", fn := fun _ => fun
  | [d1, d2] => { results := [.lit (.bool false)], args := [d1, d2] }
  | _ => none }
def FnFindFieldFindsWrongFalsely : Prop := fnFindFieldFindsRow.holds Try.pinned (OpenSpec.ofChange fnFindFieldFindsWrong)

/-- 'laws.FnEqualValues': WHATEVER THE INPUT: true; the input reads as it did. -/
def fnEqualValuesSpec : ChangeSpec := { name := "fnEqualValues", fn := fun _ => fun
  | [d1, d2] => { results := [.lit (.bool true)], args := [d1, d2] }
  | _ => none }
def fnEqualValuesRow : OpenClaim := { program := "ytbbacpdbbmjblaa", sum := "7457a020446639cf1c723c4cfcfcf879436874b2e37fa61db96e57b0c72382de", func := "pub-coparcener/laws.FnEqualValues", spec := "fnEqualValues", unfollowed := true, recurses := true, loops := true, apart := false }
def FnEqualValuesSaid : Prop := fnEqualValuesRow.holds Try.pinned (OpenSpec.ofChange fnEqualValuesSpec)

/-- ITS FALSE NEIGHBOUR: 'it returns false'. Refute it at one input. -/
def fnEqualValuesWrong : ChangeSpec := { name := "fnEqualValues", fn := fun _ => fun
  | [d1, d2] => { results := [.lit (.bool false)], args := [d1, d2] }
  | _ => none }
def FnEqualValuesWrongFalsely : Prop := fnEqualValuesRow.holds Try.pinned (OpenSpec.ofChange fnEqualValuesWrong)

/-- 'laws.FnLessListsAndMaps': WHATEVER THE INPUT: true; the input reads as it did. -/
def fnLessListsAndMapsSpec : ChangeSpec := { name := "fnLessListsAndMaps", fn := fun _ => fun
  | [d1, d2] => { results := [.lit (.bool true)], args := [d1, d2] }
  | _ => none }
def fnLessListsAndMapsRow : OpenClaim := { program := "ytbbacpdbbmjblaa", sum := "7457a020446639cf1c723c4cfcfcf879436874b2e37fa61db96e57b0c72382de", func := "pub-coparcener/laws.FnLessListsAndMaps", spec := "fnLessListsAndMaps", inPlace := ["internal/bytealg.abigen_runtime_cmpstring"], unfollowed := true, recurses := true, loops := true, apart := false }
def FnLessListsAndMapsSaid : Prop := fnLessListsAndMapsRow.holds Try.pinned (OpenSpec.ofChange fnLessListsAndMapsSpec)

/-- ITS FALSE NEIGHBOUR: 'it returns false'. Refute it at one input. -/
def fnLessListsAndMapsWrong : ChangeSpec := { name := "fnLessListsAndMaps", fn := fun _ => fun
  | [d1, d2] => { results := [.lit (.bool false)], args := [d1, d2] }
  | _ => none }
def FnLessListsAndMapsWrongFalsely : Prop := fnLessListsAndMapsRow.holds Try.pinned (OpenSpec.ofChange fnLessListsAndMapsWrong)

/-- 'laws.FnMapSetDelete': WHATEVER THE INPUT: true; the input reads as it did. -/
def fnMapSetDeleteSpec : ChangeSpec := { name := "fnMapSetDelete", fn := fun _ => fun
  | [d1, d2, d3] => { results := [.lit (.bool true)], args := [d1, d2, d3] }
  | _ => none }
def fnMapSetDeleteRow : OpenClaim := { program := "ytbbacpdbbmjblaa", sum := "7457a020446639cf1c723c4cfcfcf879436874b2e37fa61db96e57b0c72382de", func := "pub-coparcener/laws.FnMapSetDelete", spec := "fnMapSetDelete", inPlace := ["math.Float64bits"], unfollowed := true, recurses := true, loops := true, apart := false }
def FnMapSetDeleteSaid : Prop := fnMapSetDeleteRow.holds Try.pinned (OpenSpec.ofChange fnMapSetDeleteSpec)

/-- ITS FALSE NEIGHBOUR: 'it returns false'. Refute it at one input. -/
def fnMapSetDeleteWrong : ChangeSpec := { name := "fnMapSetDelete", fn := fun _ => fun
  | [d1, d2, d3] => { results := [.lit (.bool false)], args := [d1, d2, d3] }
  | _ => none }
def FnMapSetDeleteWrongFalsely : Prop := fnMapSetDeleteRow.holds Try.pinned (OpenSpec.ofChange fnMapSetDeleteWrong)

/-- 'laws.FnEqualReplaces': WHATEVER THE INPUT: true; the input reads as it did. -/
def fnEqualReplacesSpec : ChangeSpec := { name := "fnEqualReplaces", fn := fun _ => fun
  | [d1, d2, d3] => { results := [.lit (.bool true)], args := [d1, d2, d3] }
  | _ => none }
def fnEqualReplacesRow : OpenClaim := { program := "ytbbacpdbbmjblaa", sum := "7457a020446639cf1c723c4cfcfcf879436874b2e37fa61db96e57b0c72382de", func := "pub-coparcener/laws.FnEqualReplaces", spec := "fnEqualReplaces", inPlace := ["internal/bytealg.abigen_runtime_cmpstring"], unfollowed := true, recurses := true, loops := true, apart := false }
def FnEqualReplacesSaid : Prop := fnEqualReplacesRow.holds Try.pinned (OpenSpec.ofChange fnEqualReplacesSpec)

/-- ITS FALSE NEIGHBOUR: 'it returns false'. Refute it at one input. -/
def fnEqualReplacesWrong : ChangeSpec := { name := "fnEqualReplaces", fn := fun _ => fun
  | [d1, d2, d3] => { results := [.lit (.bool false)], args := [d1, d2, d3] }
  | _ => none }
def FnEqualReplacesWrongFalsely : Prop := fnEqualReplacesRow.holds Try.pinned (OpenSpec.ofChange fnEqualReplacesWrong)

/-- 'laws.FnFirstItemDecides': WHATEVER THE INPUT: true; the input reads as it did. -/
def fnFirstItemDecidesSpec : ChangeSpec := { name := "fnFirstItemDecides", fn := fun _ => fun
  | [d1, d2, d3, d4, d5] => { results := [.lit (.bool true)], args := [d1, d2, d3, d4, d5] }
  | _ => none }
def fnFirstItemDecidesRow : OpenClaim := { program := "ytbbacpdbbmjblaa", sum := "7457a020446639cf1c723c4cfcfcf879436874b2e37fa61db96e57b0c72382de", func := "pub-coparcener/laws.FnFirstItemDecides", spec := "fnFirstItemDecides", inPlace := ["internal/bytealg.abigen_runtime_cmpstring"], unfollowed := true, recurses := true, loops := true, apart := false }
def FnFirstItemDecidesSaid : Prop := fnFirstItemDecidesRow.holds Try.pinned (OpenSpec.ofChange fnFirstItemDecidesSpec)

/-- ITS FALSE NEIGHBOUR: 'it returns false'. Refute it at one input. -/
def fnFirstItemDecidesWrong : ChangeSpec := { name := "fnFirstItemDecides", fn := fun _ => fun
  | [d1, d2, d3, d4, d5] => { results := [.lit (.bool false)], args := [d1, d2, d3, d4, d5] }
  | _ => none }
def FnFirstItemDecidesWrongFalsely : Prop := fnFirstItemDecidesRow.holds Try.pinned (OpenSpec.ofChange fnFirstItemDecidesWrong)

/-- 'laws.FnElemKindsInOrder': WHATEVER THE INPUT: true; the input reads as it did. -/
def fnElemKindsInOrderSpec : ChangeSpec := { name := "fnElemKindsInOrder", fn := fun _ => fun
  | [d1, d2] => { results := [.lit (.bool true)], args := [d1, d2] }
  | _ => none }
def fnElemKindsInOrderRow : OpenClaim := { program := "ytbbacpdbbmjblaa", sum := "7457a020446639cf1c723c4cfcfcf879436874b2e37fa61db96e57b0c72382de", func := "pub-coparcener/laws.FnElemKindsInOrder", spec := "fnElemKindsInOrder", inPlace := ["internal/bytealg.abigen_runtime_cmpstring"], unfollowed := true, recurses := true, loops := true, apart := false }
def FnElemKindsInOrderSaid : Prop := fnElemKindsInOrderRow.holds Try.pinned (OpenSpec.ofChange fnElemKindsInOrderSpec)

/-- ITS FALSE NEIGHBOUR: 'it returns false'. Refute it at one input. -/
def fnElemKindsInOrderWrong : ChangeSpec := { name := "fnElemKindsInOrder", fn := fun _ => fun
  | [d1, d2] => { results := [.lit (.bool false)], args := [d1, d2] }
  | _ => none }
def FnElemKindsInOrderWrongFalsely : Prop := fnElemKindsInOrderRow.holds Try.pinned (OpenSpec.ofChange fnElemKindsInOrderWrong)

/- THE SECOND FORM. 'bulk': how many values and letters a reading holds, each counted each time it is reached (what is shared counts as often as it is met; a slice's spare places count too). A statement '..UptoSaid' is the law's where the arguments, and the package variables that the reading takes, are together of bulk at most 1048576: NARROWER than '..Said'. Prove '..Said' where nothing that the law and all that it calls make is longer than what came in: it says more and counts as full. Else prove '..UptoSaid'. A law counts once. -/
mutual
def uptoBulk {H : Type} : DataW H → Nat
  | .lit (.string bytes) => bytes.length + 1
  | .lit _ => 1
  | .nil => 1
  | .ptr d => uptoBulk d + 1
  | .slice elems spare => uptoBulkAll elems + uptoBulkAll spare + 1
  | .agg parts => uptoBulkAll parts + 1
  | .iface _ d => uptoBulk d + 1
  | .map entries => uptoBulkEntries entries + 1
  | .held _ => 1
def uptoBulkAll {H : Type} : List (DataW H) → Nat
  | [] => 0
  | d :: r => uptoBulk d + uptoBulkAll r
def uptoBulkEntries {H : Type} : List (Lit × DataW H) → Nat
  | [] => 0
  | x :: r => uptoBulkEntry x + uptoBulkEntries r
def uptoBulkEntry {H : Type} : Lit × DataW H → Nat
  | (.string bytes, d) => bytes.length + uptoBulk d + 1
  | (_, d) => uptoBulk d + 1
 end
def uptoSmall : (H : Type) → List (DataW H) → Bool := fun _ ds => decide (uptoBulkAll ds ≤ 1048576)
def OpenSpec.upto (s : _root_.Go.ChangeSpec) : _root_.Go.OpenSpec := { _root_.Go.OpenSpec.ofChange s with cond := some uptoSmall }

/-- 'laws.FnFindFieldFinds', WHERE WHAT IT READS IS OF BULK AT MOST 1048576: true; the input reads as it did. -/
def fnFindFieldFindsUptoRow : OpenClaim := { program := "ytbbacpdbbmjblaa", sum := "7457a020446639cf1c723c4cfcfcf879436874b2e37fa61db96e57b0c72382de", func := "pub-coparcener/laws.FnFindFieldFinds", spec := "fnFindFieldFinds", inPlace := ["math.Float64bits"], unfollowed := true, recurses := true, loops := true, apart := false, narrowed := true }
def FnFindFieldFindsUptoSaid : Prop := fnFindFieldFindsUptoRow.holds Try.pinned (OpenSpec.upto fnFindFieldFindsSpec)

/-- 'laws.FnEqualValues', WHERE WHAT IT READS IS OF BULK AT MOST 1048576: true; the input reads as it did. -/
def fnEqualValuesUptoRow : OpenClaim := { program := "ytbbacpdbbmjblaa", sum := "7457a020446639cf1c723c4cfcfcf879436874b2e37fa61db96e57b0c72382de", func := "pub-coparcener/laws.FnEqualValues", spec := "fnEqualValues", unfollowed := true, recurses := true, loops := true, apart := false, narrowed := true }
def FnEqualValuesUptoSaid : Prop := fnEqualValuesUptoRow.holds Try.pinned (OpenSpec.upto fnEqualValuesSpec)

/-- 'laws.FnLessListsAndMaps', WHERE WHAT IT READS IS OF BULK AT MOST 1048576: true; the input reads as it did. -/
def fnLessListsAndMapsUptoRow : OpenClaim := { program := "ytbbacpdbbmjblaa", sum := "7457a020446639cf1c723c4cfcfcf879436874b2e37fa61db96e57b0c72382de", func := "pub-coparcener/laws.FnLessListsAndMaps", spec := "fnLessListsAndMaps", inPlace := ["internal/bytealg.abigen_runtime_cmpstring"], unfollowed := true, recurses := true, loops := true, apart := false, narrowed := true }
def FnLessListsAndMapsUptoSaid : Prop := fnLessListsAndMapsUptoRow.holds Try.pinned (OpenSpec.upto fnLessListsAndMapsSpec)

/-- 'laws.FnMapSetDelete', WHERE WHAT IT READS IS OF BULK AT MOST 1048576: true; the input reads as it did. -/
def fnMapSetDeleteUptoRow : OpenClaim := { program := "ytbbacpdbbmjblaa", sum := "7457a020446639cf1c723c4cfcfcf879436874b2e37fa61db96e57b0c72382de", func := "pub-coparcener/laws.FnMapSetDelete", spec := "fnMapSetDelete", inPlace := ["math.Float64bits"], unfollowed := true, recurses := true, loops := true, apart := false, narrowed := true }
def FnMapSetDeleteUptoSaid : Prop := fnMapSetDeleteUptoRow.holds Try.pinned (OpenSpec.upto fnMapSetDeleteSpec)

/-- 'laws.FnEqualReplaces', WHERE WHAT IT READS IS OF BULK AT MOST 1048576: true; the input reads as it did. -/
def fnEqualReplacesUptoRow : OpenClaim := { program := "ytbbacpdbbmjblaa", sum := "7457a020446639cf1c723c4cfcfcf879436874b2e37fa61db96e57b0c72382de", func := "pub-coparcener/laws.FnEqualReplaces", spec := "fnEqualReplaces", inPlace := ["internal/bytealg.abigen_runtime_cmpstring"], unfollowed := true, recurses := true, loops := true, apart := false, narrowed := true }
def FnEqualReplacesUptoSaid : Prop := fnEqualReplacesUptoRow.holds Try.pinned (OpenSpec.upto fnEqualReplacesSpec)

/-- 'laws.FnFirstItemDecides', WHERE WHAT IT READS IS OF BULK AT MOST 1048576: true; the input reads as it did. -/
def fnFirstItemDecidesUptoRow : OpenClaim := { program := "ytbbacpdbbmjblaa", sum := "7457a020446639cf1c723c4cfcfcf879436874b2e37fa61db96e57b0c72382de", func := "pub-coparcener/laws.FnFirstItemDecides", spec := "fnFirstItemDecides", inPlace := ["internal/bytealg.abigen_runtime_cmpstring"], unfollowed := true, recurses := true, loops := true, apart := false, narrowed := true }
def FnFirstItemDecidesUptoSaid : Prop := fnFirstItemDecidesUptoRow.holds Try.pinned (OpenSpec.upto fnFirstItemDecidesSpec)

/-- 'laws.FnElemKindsInOrder', WHERE WHAT IT READS IS OF BULK AT MOST 1048576: true; the input reads as it did. -/
def fnElemKindsInOrderUptoRow : OpenClaim := { program := "ytbbacpdbbmjblaa", sum := "7457a020446639cf1c723c4cfcfcf879436874b2e37fa61db96e57b0c72382de", func := "pub-coparcener/laws.FnElemKindsInOrder", spec := "fnElemKindsInOrder", inPlace := ["internal/bytealg.abigen_runtime_cmpstring"], unfollowed := true, recurses := true, loops := true, apart := false, narrowed := true }
def FnElemKindsInOrderUptoSaid : Prop := fnElemKindsInOrderUptoRow.holds Try.pinned (OpenSpec.upto fnElemKindsInOrderSpec)

end Rows
end Go.Proofs.Ytbbacpdbbmjblaa
