/-
  NARROWER THAN 'FOR EVERY INPUT', by the rows' own cells (each row's printed sentence says how): FnElemSetHas: loops · FnElemMapReplaces: loops · FnFirstElemDecides: loops · FnSetMembers: loops · FnSetIntersection: loops.
  DERIVED. THE GIVEN ROWS OF THIS SEAT. 5 by the template 'for every input the law returns true; each argument reads behind the call as it read before'; 0 by the template 'total and deterministic' (their statements: YtbbacpdbbmjblaaGreatTotals.lean).
  GIVEN WITH THE SEED: the statements are not yours to turn. If you find one false, say at which input.
  Laid BY PROGRAM, IN A SANDBOX (cutbox-rows.mjs): the forced cells as the released guide's own fill.sh prints them over the translation 30ed2519ca8aa86b… (all of the seat's roots in one cut). By AI agents, Wed Nov 11 2026. No macro, syntax, notation, axiom, sorry.
-/
import Derived.Test.YtbbacpdbbmjblaaGreatChecked
import GoSem.Claim
import GoSem.ClaimJoined
import GoSem.ClaimMapViews
import Derived.JoinedTies
import Derived.KernelRfl
namespace Go.Proofs.YtbbacpdbbmjblaaGreat
/- THE CELL 'sum', in the pinned program and in every row, IS THE sha256 OF THE DUMP (.gsa) THAT YtbbacpdbbmjblaaGreatProg.lean LOADS. Nothing in Lean hashes anything: it is a label: what it is worth is what the hold of that sum in a sandbox is worth. -/
noncomputable def Tryz.pinned : Pinned := { name := "ytbbacpdbbmjblaagreat", sum := "30ed2519ca8aa86bf394c1a0c9d101ba38930ea8ac46b65c5db02678683759b0", checked := Tryz.checked }
namespace Rows
def none {H : Type} : Left H := { results := [], args := [] }

/-- 'laws.FnElemSetHas': WHATEVER THE INPUT: true; the input reads as it did. -/
def fnElemSetHasSpec : ChangeSpec := { name := "fnElemSetHas", fn := fun _ => fun
  | [d1, d2] => { results := [.lit (.bool true)], args := [d1, d2] }
  | _ => none }
def fnElemSetHasRow : OpenClaim := { program := "ytbbacpdbbmjblaagreat", sum := "30ed2519ca8aa86bf394c1a0c9d101ba38930ea8ac46b65c5db02678683759b0", func := "pub-coparcener/laws.FnElemSetHas", spec := "fnElemSetHas", inPlace := ["internal/bytealg.abigen_runtime_cmpstring", "slices.overlaps[pub-coparcener/pub/structuredmerge/fieldpath.PathElement]"], unfollowed := true, recurses := true, loops := true, apart := false }
def FnElemSetHasSaid : Prop := fnElemSetHasRow.holds Tryz.pinned (OpenSpec.ofChange fnElemSetHasSpec)

/-- ITS FALSE NEIGHBOUR: 'it returns false'. Refute it at one input. -/
def fnElemSetHasWrong : ChangeSpec := { name := "fnElemSetHas", fn := fun _ => fun
  | [d1, d2] => { results := [.lit (.bool false)], args := [d1, d2] }
  | _ => none }
def FnElemSetHasWrongFalsely : Prop := fnElemSetHasRow.holds Tryz.pinned (OpenSpec.ofChange fnElemSetHasWrong)

/-- 'laws.FnElemMapReplaces': WHATEVER THE INPUT: true; the input reads as it did. -/
def fnElemMapReplacesSpec : ChangeSpec := { name := "fnElemMapReplaces", fn := fun _ => fun
  | [d1, d2, d3, d4, d5] => { results := [.lit (.bool true)], args := [d1, d2, d3, d4, d5] }
  | _ => none }
def fnElemMapReplacesRow : OpenClaim := { program := "ytbbacpdbbmjblaagreat", sum := "30ed2519ca8aa86bf394c1a0c9d101ba38930ea8ac46b65c5db02678683759b0", func := "pub-coparcener/laws.FnElemMapReplaces", spec := "fnElemMapReplaces", inPlace := ["internal/bytealg.abigen_runtime_cmpstring", "slices.overlaps[pub-coparcener/pub/structuredmerge/fieldpath.pathElementValue]", "math.Float64bits"], unfollowed := true, recurses := true, loops := true, apart := false }
def FnElemMapReplacesSaid : Prop := fnElemMapReplacesRow.holds Tryz.pinned (OpenSpec.ofChange fnElemMapReplacesSpec)

/-- ITS FALSE NEIGHBOUR: 'it returns false'. Refute it at one input. -/
def fnElemMapReplacesWrong : ChangeSpec := { name := "fnElemMapReplaces", fn := fun _ => fun
  | [d1, d2, d3, d4, d5] => { results := [.lit (.bool false)], args := [d1, d2, d3, d4, d5] }
  | _ => none }
def FnElemMapReplacesWrongFalsely : Prop := fnElemMapReplacesRow.holds Tryz.pinned (OpenSpec.ofChange fnElemMapReplacesWrong)

/-- 'laws.FnFirstElemDecides': WHATEVER THE INPUT: true; the input reads as it did. -/
def fnFirstElemDecidesSpec : ChangeSpec := { name := "fnFirstElemDecides", fn := fun _ => fun
  | [d1, d2, d3, d4, d5] => { results := [.lit (.bool true)], args := [d1, d2, d3, d4, d5] }
  | _ => none }
def fnFirstElemDecidesRow : OpenClaim := { program := "ytbbacpdbbmjblaagreat", sum := "30ed2519ca8aa86bf394c1a0c9d101ba38930ea8ac46b65c5db02678683759b0", func := "pub-coparcener/laws.FnFirstElemDecides", spec := "fnFirstElemDecides", inPlace := ["internal/bytealg.abigen_runtime_cmpstring"], unfollowed := true, recurses := true, loops := true, apart := false }
def FnFirstElemDecidesSaid : Prop := fnFirstElemDecidesRow.holds Tryz.pinned (OpenSpec.ofChange fnFirstElemDecidesSpec)

/-- ITS FALSE NEIGHBOUR: 'it returns false'. Refute it at one input. -/
def fnFirstElemDecidesWrong : ChangeSpec := { name := "fnFirstElemDecides", fn := fun _ => fun
  | [d1, d2, d3, d4, d5] => { results := [.lit (.bool false)], args := [d1, d2, d3, d4, d5] }
  | _ => none }
def FnFirstElemDecidesWrongFalsely : Prop := fnFirstElemDecidesRow.holds Tryz.pinned (OpenSpec.ofChange fnFirstElemDecidesWrong)

/-- 'laws.FnSetMembers': WHATEVER THE INPUT: true; the input reads as it did. -/
def fnSetMembersSpec : ChangeSpec := { name := "fnSetMembers", fn := fun _ => fun
  | [d] => { results := [.lit (.bool true)], args := [d] }
  | _ => none }
def fnSetMembersRow : OpenClaim := { program := "ytbbacpdbbmjblaagreat", sum := "30ed2519ca8aa86bf394c1a0c9d101ba38930ea8ac46b65c5db02678683759b0", func := "pub-coparcener/laws.FnSetMembers", spec := "fnSetMembers", inPlace := ["internal/bytealg.abigen_runtime_cmpstring", "slices.overlaps[pub-coparcener/pub/structuredmerge/fieldpath.PathElement]", "slices.overlaps[pub-coparcener/pub/structuredmerge/fieldpath.setNode]"], unfollowed := true, recurses := true, loops := true, apart := false }
def FnSetMembersSaid : Prop := fnSetMembersRow.holds Tryz.pinned (OpenSpec.ofChange fnSetMembersSpec)

/-- ITS FALSE NEIGHBOUR: 'it returns false'. Refute it at one input. -/
def fnSetMembersWrong : ChangeSpec := { name := "fnSetMembers", fn := fun _ => fun
  | [d] => { results := [.lit (.bool false)], args := [d] }
  | _ => none }
def FnSetMembersWrongFalsely : Prop := fnSetMembersRow.holds Tryz.pinned (OpenSpec.ofChange fnSetMembersWrong)

/-- 'laws.FnSetIntersection': WHATEVER THE INPUT: true; the input reads as it did. -/
def fnSetIntersectionSpec : ChangeSpec := { name := "fnSetIntersection", fn := fun _ => fun
  | [d1, d2] => { results := [.lit (.bool true)], args := [d1, d2] }
  | _ => none }
def fnSetIntersectionRow : OpenClaim := { program := "ytbbacpdbbmjblaagreat", sum := "30ed2519ca8aa86bf394c1a0c9d101ba38930ea8ac46b65c5db02678683759b0", func := "pub-coparcener/laws.FnSetIntersection", spec := "fnSetIntersection", inPlace := ["internal/bytealg.abigen_runtime_cmpstring", "slices.overlaps[pub-coparcener/pub/structuredmerge/fieldpath.PathElement]", "slices.overlaps[pub-coparcener/pub/structuredmerge/fieldpath.setNode]"], unfollowed := true, recurses := true, loops := true, apart := false }
def FnSetIntersectionSaid : Prop := fnSetIntersectionRow.holds Tryz.pinned (OpenSpec.ofChange fnSetIntersectionSpec)

/-- ITS FALSE NEIGHBOUR: 'it returns false'. Refute it at one input. -/
def fnSetIntersectionWrong : ChangeSpec := { name := "fnSetIntersection", fn := fun _ => fun
  | [d1, d2] => { results := [.lit (.bool false)], args := [d1, d2] }
  | _ => none }
def FnSetIntersectionWrongFalsely : Prop := fnSetIntersectionRow.holds Tryz.pinned (OpenSpec.ofChange fnSetIntersectionWrong)

/- THE SECOND FORM. 'bulk': how many values and letters a reading holds, each counted each time it is reached (what is shared counts as often as it is met; a slice's spare places count too). A statement '..UptoSaid' is the law's where the arguments, and the package variables that the reading takes, are together of bulk at most 1048576: NARROWER than '..Said'. Prove '..Said' where nothing that the law and all that it calls make is longer than what came in: it says more and counts as full. Else prove '..UptoSaid'. A law counts once. -/
mutual
def uptoBulk {H : Type} : DataW H → Nat
  | .lit (.string bytes) => bytes.length + 1
  | .lit _ => 1
  | .nil => 1
  | .ptr d => uptoBulk d + 1
  | .slice elems spare => uptoBulkAll elems + uptoBulkAll spare + 1
  | .agg parts => uptoBulkAll parts + 1
  | .iface _ d => uptoBulk d + 1
  | .map entries => uptoBulkEntries entries + 1
  | .held _ => 1
def uptoBulkAll {H : Type} : List (DataW H) → Nat
  | [] => 0
  | d :: r => uptoBulk d + uptoBulkAll r
def uptoBulkEntries {H : Type} : List (Lit × DataW H) → Nat
  | [] => 0
  | x :: r => uptoBulkEntry x + uptoBulkEntries r
def uptoBulkEntry {H : Type} : Lit × DataW H → Nat
  | (.string bytes, d) => bytes.length + uptoBulk d + 1
  | (_, d) => uptoBulk d + 1
 end
def uptoSmall : (H : Type) → List (DataW H) → Bool := fun _ ds => decide (uptoBulkAll ds ≤ 1048576)
def OpenSpec.upto (s : _root_.Go.ChangeSpec) : _root_.Go.OpenSpec := { _root_.Go.OpenSpec.ofChange s with cond := some uptoSmall }

/-- 'laws.FnElemSetHas', WHERE WHAT IT READS IS OF BULK AT MOST 1048576: true; the input reads as it did. -/
def fnElemSetHasUptoRow : OpenClaim := { program := "ytbbacpdbbmjblaagreat", sum := "30ed2519ca8aa86bf394c1a0c9d101ba38930ea8ac46b65c5db02678683759b0", func := "pub-coparcener/laws.FnElemSetHas", spec := "fnElemSetHas", inPlace := ["internal/bytealg.abigen_runtime_cmpstring", "slices.overlaps[pub-coparcener/pub/structuredmerge/fieldpath.PathElement]"], unfollowed := true, recurses := true, loops := true, apart := false, narrowed := true }
def FnElemSetHasUptoSaid : Prop := fnElemSetHasUptoRow.holds Tryz.pinned (OpenSpec.upto fnElemSetHasSpec)

/-- 'laws.FnElemMapReplaces', WHERE WHAT IT READS IS OF BULK AT MOST 1048576: true; the input reads as it did. -/
def fnElemMapReplacesUptoRow : OpenClaim := { program := "ytbbacpdbbmjblaagreat", sum := "30ed2519ca8aa86bf394c1a0c9d101ba38930ea8ac46b65c5db02678683759b0", func := "pub-coparcener/laws.FnElemMapReplaces", spec := "fnElemMapReplaces", inPlace := ["internal/bytealg.abigen_runtime_cmpstring", "slices.overlaps[pub-coparcener/pub/structuredmerge/fieldpath.pathElementValue]", "math.Float64bits"], unfollowed := true, recurses := true, loops := true, apart := false, narrowed := true }
def FnElemMapReplacesUptoSaid : Prop := fnElemMapReplacesUptoRow.holds Tryz.pinned (OpenSpec.upto fnElemMapReplacesSpec)

/-- 'laws.FnFirstElemDecides', WHERE WHAT IT READS IS OF BULK AT MOST 1048576: true; the input reads as it did. -/
def fnFirstElemDecidesUptoRow : OpenClaim := { program := "ytbbacpdbbmjblaagreat", sum := "30ed2519ca8aa86bf394c1a0c9d101ba38930ea8ac46b65c5db02678683759b0", func := "pub-coparcener/laws.FnFirstElemDecides", spec := "fnFirstElemDecides", inPlace := ["internal/bytealg.abigen_runtime_cmpstring"], unfollowed := true, recurses := true, loops := true, apart := false, narrowed := true }
def FnFirstElemDecidesUptoSaid : Prop := fnFirstElemDecidesUptoRow.holds Tryz.pinned (OpenSpec.upto fnFirstElemDecidesSpec)

/-- 'laws.FnSetMembers', WHERE WHAT IT READS IS OF BULK AT MOST 1048576: true; the input reads as it did. -/
def fnSetMembersUptoRow : OpenClaim := { program := "ytbbacpdbbmjblaagreat", sum := "30ed2519ca8aa86bf394c1a0c9d101ba38930ea8ac46b65c5db02678683759b0", func := "pub-coparcener/laws.FnSetMembers", spec := "fnSetMembers", inPlace := ["internal/bytealg.abigen_runtime_cmpstring", "slices.overlaps[pub-coparcener/pub/structuredmerge/fieldpath.PathElement]", "slices.overlaps[pub-coparcener/pub/structuredmerge/fieldpath.setNode]"], unfollowed := true, recurses := true, loops := true, apart := false, narrowed := true }
def FnSetMembersUptoSaid : Prop := fnSetMembersUptoRow.holds Tryz.pinned (OpenSpec.upto fnSetMembersSpec)

/-- 'laws.FnSetIntersection', WHERE WHAT IT READS IS OF BULK AT MOST 1048576: true; the input reads as it did. -/
def fnSetIntersectionUptoRow : OpenClaim := { program := "ytbbacpdbbmjblaagreat", sum := "30ed2519ca8aa86bf394c1a0c9d101ba38930ea8ac46b65c5db02678683759b0", func := "pub-coparcener/laws.FnSetIntersection", spec := "fnSetIntersection", inPlace := ["internal/bytealg.abigen_runtime_cmpstring", "slices.overlaps[pub-coparcener/pub/structuredmerge/fieldpath.PathElement]", "slices.overlaps[pub-coparcener/pub/structuredmerge/fieldpath.setNode]"], unfollowed := true, recurses := true, loops := true, apart := false, narrowed := true }
def FnSetIntersectionUptoSaid : Prop := fnSetIntersectionUptoRow.holds Tryz.pinned (OpenSpec.upto fnSetIntersectionSpec)

end Rows
end Go.Proofs.YtbbacpdbbmjblaaGreat
