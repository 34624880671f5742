/-
  NARROWER THAN 'FOR EVERY INPUT', by the rows' own cells (each row's printed sentence says how): FnKinds: loops · FnElemRoundTrip: loops · FnKeyByFields: loops.
  DERIVED. THE GIVEN ROWS OF THIS SEAT. 4 by the template 'for every input the law returns true; each argument reads behind the call as it read before'; 0 by the template 'total and deterministic' (their statements: YthcjdkheomcncaaTotals.lean).
  GIVEN WITH THE SEED: the statements are not yours to turn. If you find one false, say at which input.
  Laid BY PROGRAM, IN A SANDBOX (cutbox-rows.mjs): the forced cells as the released guide's own fill.sh prints them over the translation c9609dfb403e826f… (all of the seat's roots in one cut). By AI agents, Wed Nov 11 2026. No macro, syntax, notation, axiom, sorry.
-/
import Derived.Test.YthcjdkheomcncaaChecked
import GoSem.Claim
import GoSem.ClaimJoined
import GoSem.ClaimMapViews
import Derived.JoinedTies
import Derived.KernelRfl
namespace Go.Proofs.Ythcjdkheomcncaa
/- THE CELL 'sum', in the pinned program and in every row, IS THE sha256 OF THE DUMP (.gsa) THAT YthcjdkheomcncaaProg.lean LOADS. Nothing in Lean hashes anything: it is a label: what it is worth is what the hold of that sum in a sandbox is worth. -/
noncomputable def Try.pinned : Pinned := { name := "ythcjdkheomcncaa", sum := "c9609dfb403e826f6f2b6290f703c8763834073bdf8c1610751573af83db2a3e", checked := Try.checked }
namespace Rows
def none {H : Type} : Left H := { results := [], args := [] }

/-- 'laws.FnCompareBools': WHATEVER THE INPUT: true; the input reads as it did. -/
def fnCompareBoolsSpec : ChangeSpec := { name := "fnCompareBools", fn := fun _ => fun
  | [d1, d2] => { results := [.lit (.bool true)], args := [d1, d2] }
  | _ => none }
def fnCompareBoolsRow : OpenClaim := { program := "ythcjdkheomcncaa", sum := "c9609dfb403e826f6f2b6290f703c8763834073bdf8c1610751573af83db2a3e", func := "pub-coparcener/laws.FnCompareBools", spec := "fnCompareBools", apart := false }
def FnCompareBoolsSaid : Prop := fnCompareBoolsRow.holds Try.pinned (OpenSpec.ofChange fnCompareBoolsSpec)

/-- ITS FALSE NEIGHBOUR: 'it returns false'. Refute it at one input. -/
def fnCompareBoolsWrong : ChangeSpec := { name := "fnCompareBools", fn := fun _ => fun
  | [d1, d2] => { results := [.lit (.bool false)], args := [d1, d2] }
  | _ => none }
def FnCompareBoolsWrongFalsely : Prop := fnCompareBoolsRow.holds Try.pinned (OpenSpec.ofChange fnCompareBoolsWrong)

/-- 'laws.FnKinds': WHATEVER THE INPUT: true; the input reads as it did. -/
def fnKindsSpec : ChangeSpec := { name := "fnKinds", fn := fun _ => fun
  | [d] => { results := [.lit (.bool true)], args := [d] }
  | _ => none }
def fnKindsRow : OpenClaim := { program := "ythcjdkheomcncaa", sum := "c9609dfb403e826f6f2b6290f703c8763834073bdf8c1610751573af83db2a3e", func := "pub-coparcener/laws.FnKinds", spec := "fnKinds", unfollowed := true, recurses := true, loops := true, apart := false }
def FnKindsSaid : Prop := fnKindsRow.holds Try.pinned (OpenSpec.ofChange fnKindsSpec)

/-- ITS FALSE NEIGHBOUR: 'it returns false'. Refute it at one input. -/
def fnKindsWrong : ChangeSpec := { name := "fnKinds", fn := fun _ => fun
  | [d] => { results := [.lit (.bool false)], args := [d] }
  | _ => none }
def FnKindsWrongFalsely : Prop := fnKindsRow.holds Try.pinned (OpenSpec.ofChange fnKindsWrong)

/-- 'laws.FnElemRoundTrip': WHATEVER THE INPUT: true; the input reads as it did. -/
def fnElemRoundTripSpec : ChangeSpec := { name := "fnElemRoundTrip", fn := fun _ => fun
  | [d] => { results := [.lit (.bool true)], args := [d] }
  | _ => none }
def fnElemRoundTripRow : OpenClaim := { program := "ythcjdkheomcncaa", sum := "c9609dfb403e826f6f2b6290f703c8763834073bdf8c1610751573af83db2a3e", func := "pub-coparcener/laws.FnElemRoundTrip", spec := "fnElemRoundTrip", inPlace := ["math.Float64bits"], unfollowed := true, recurses := true, loops := true, apart := false }
def FnElemRoundTripSaid : Prop := fnElemRoundTripRow.holds Try.pinned (OpenSpec.ofChange fnElemRoundTripSpec)

/-- ITS FALSE NEIGHBOUR: 'it returns false'. Refute it at one input. -/
def fnElemRoundTripWrong : ChangeSpec := { name := "fnElemRoundTrip", fn := fun _ => fun
  | [d] => { results := [.lit (.bool false)], args := [d] }
  | _ => none }
def FnElemRoundTripWrongFalsely : Prop := fnElemRoundTripRow.holds Try.pinned (OpenSpec.ofChange fnElemRoundTripWrong)

/-- 'laws.FnKeyByFields': WHATEVER THE INPUT: true; the input reads as it did. -/
def fnKeyByFieldsSpec : ChangeSpec := { name := "fnKeyByFields", fn := fun _ => fun
  | [d] => { results := [.lit (.bool true)], args := [d] }
  | _ => none }
def fnKeyByFieldsRow : OpenClaim := { program := "ythcjdkheomcncaa", sum := "c9609dfb403e826f6f2b6290f703c8763834073bdf8c1610751573af83db2a3e", func := "pub-coparcener/laws.FnKeyByFields", spec := "fnKeyByFields", inPlace := ["math.Float64bits"], unfollowed := true, recurses := true, loops := true, apart := false }
def FnKeyByFieldsSaid : Prop := fnKeyByFieldsRow.holds Try.pinned (OpenSpec.ofChange fnKeyByFieldsSpec)

/-- ITS FALSE NEIGHBOUR: 'it returns false'. Refute it at one input. -/
def fnKeyByFieldsWrong : ChangeSpec := { name := "fnKeyByFields", fn := fun _ => fun
  | [d] => { results := [.lit (.bool false)], args := [d] }
  | _ => none }
def FnKeyByFieldsWrongFalsely : Prop := fnKeyByFieldsRow.holds Try.pinned (OpenSpec.ofChange fnKeyByFieldsWrong)

/- THE SECOND FORM. 'bulk': how many values and letters a reading holds, each counted each time it is reached (what is shared counts as often as it is met; a slice's spare places count too). A statement '..UptoSaid' is the law's where the arguments, and the package variables that the reading takes, are together of bulk at most 1048576: NARROWER than '..Said'. Prove '..Said' where nothing that the law and all that it calls make is longer than what came in: it says more and counts as full. Else prove '..UptoSaid'. A law counts once. -/
mutual
def uptoBulk {H : Type} : DataW H → Nat
  | .lit (.string bytes) => bytes.length + 1
  | .lit _ => 1
  | .nil => 1
  | .ptr d => uptoBulk d + 1
  | .slice elems spare => uptoBulkAll elems + uptoBulkAll spare + 1
  | .agg parts => uptoBulkAll parts + 1
  | .iface _ d => uptoBulk d + 1
  | .map entries => uptoBulkEntries entries + 1
  | .held _ => 1
def uptoBulkAll {H : Type} : List (DataW H) → Nat
  | [] => 0
  | d :: r => uptoBulk d + uptoBulkAll r
def uptoBulkEntries {H : Type} : List (Lit × DataW H) → Nat
  | [] => 0
  | x :: r => uptoBulkEntry x + uptoBulkEntries r
def uptoBulkEntry {H : Type} : Lit × DataW H → Nat
  | (.string bytes, d) => bytes.length + uptoBulk d + 1
  | (_, d) => uptoBulk d + 1
 end
def uptoSmall : (H : Type) → List (DataW H) → Bool := fun _ ds => decide (uptoBulkAll ds ≤ 1048576)
def OpenSpec.upto (s : _root_.Go.ChangeSpec) : _root_.Go.OpenSpec := { _root_.Go.OpenSpec.ofChange s with cond := some uptoSmall }

/-- 'laws.FnCompareBools', WHERE WHAT IT READS IS OF BULK AT MOST 1048576: true; the input reads as it did. -/
def fnCompareBoolsUptoRow : OpenClaim := { program := "ythcjdkheomcncaa", sum := "c9609dfb403e826f6f2b6290f703c8763834073bdf8c1610751573af83db2a3e", func := "pub-coparcener/laws.FnCompareBools", spec := "fnCompareBools", apart := false, narrowed := true }
def FnCompareBoolsUptoSaid : Prop := fnCompareBoolsUptoRow.holds Try.pinned (OpenSpec.upto fnCompareBoolsSpec)

/-- 'laws.FnKinds', WHERE WHAT IT READS IS OF BULK AT MOST 1048576: true; the input reads as it did. -/
def fnKindsUptoRow : OpenClaim := { program := "ythcjdkheomcncaa", sum := "c9609dfb403e826f6f2b6290f703c8763834073bdf8c1610751573af83db2a3e", func := "pub-coparcener/laws.FnKinds", spec := "fnKinds", unfollowed := true, recurses := true, loops := true, apart := false, narrowed := true }
def FnKindsUptoSaid : Prop := fnKindsUptoRow.holds Try.pinned (OpenSpec.upto fnKindsSpec)

/-- 'laws.FnElemRoundTrip', WHERE WHAT IT READS IS OF BULK AT MOST 1048576: true; the input reads as it did. -/
def fnElemRoundTripUptoRow : OpenClaim := { program := "ythcjdkheomcncaa", sum := "c9609dfb403e826f6f2b6290f703c8763834073bdf8c1610751573af83db2a3e", func := "pub-coparcener/laws.FnElemRoundTrip", spec := "fnElemRoundTrip", inPlace := ["math.Float64bits"], unfollowed := true, recurses := true, loops := true, apart := false, narrowed := true }
def FnElemRoundTripUptoSaid : Prop := fnElemRoundTripUptoRow.holds Try.pinned (OpenSpec.upto fnElemRoundTripSpec)

/-- 'laws.FnKeyByFields', WHERE WHAT IT READS IS OF BULK AT MOST 1048576: true; the input reads as it did. -/
def fnKeyByFieldsUptoRow : OpenClaim := { program := "ythcjdkheomcncaa", sum := "c9609dfb403e826f6f2b6290f703c8763834073bdf8c1610751573af83db2a3e", func := "pub-coparcener/laws.FnKeyByFields", spec := "fnKeyByFields", inPlace := ["math.Float64bits"], unfollowed := true, recurses := true, loops := true, apart := false, narrowed := true }
def FnKeyByFieldsUptoSaid : Prop := fnKeyByFieldsUptoRow.holds Try.pinned (OpenSpec.upto fnKeyByFieldsSpec)

end Rows
end Go.Proofs.Ythcjdkheomcncaa
