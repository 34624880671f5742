/- A region that draws its order, in two stages: first what yields the same in every world is taken, then (behind that) what reads. -/
import Derived.Test.YtlghpcokbppkfaaRegion
namespace Go.Proofs.Ytlghpcokbppkfaa
section
variable {P : Program} {ops : Array Oper} {Q : Exit → Act → World → Prop} {md : Region.Mode} {S : World → Prop}

theorem wpAnyK_of_any : ∀ (fuel : Nat) (listed : Array Bool) (a : Act) (w : World), wpAny P md ops Q fuel listed a w → wpAnyK P md ops Q (fun _ => True) (fun _ => true) fuel listed a w
  | 0, _, _, _, h => h
  | fuel + 1, _, _, _, h => ⟨h.1, fun i hi => wpOp_mono (fun a' w' h' => ⟨fun _ => trivial, wpAnyK_of_any fuel _ a' w' h'⟩) (h.2 i hi)⟩

/-- Take number i, which yields its value in every world, first. -/
theorem wpP_take {i : Nat} {oi : Oper} {v : Value} {fuel : Nat} {listed : Array Bool} {a : Act} {w : World} (hi : ops[i]? = some oi)
    (hs : Region.noSelect ops = true) (hf : Region.free md ops listed i = true) (hr : (Region.ready md ops listed).contains i = true)
    (hy : YieldsIf P ops (fun _ => True) oi v a)
    (h : wpAny P md ops (NoPanic Q) fuel (listed.setIfInBounds i true) (a.put oi.dst v) w) : wpAny P md ops (NoPanic Q) (fuel + 1) listed a w :=
  wpAny_of_K _ _ _ _ (wpAnyK_first (S := fun _ => True) (keeps := fun _ => true) hi (Region.noSelect_spec hs) (fun _ _ _ h => h) (fun _ _ _ _ _ => rfl) fuel listed a w (Region.free_spec hi hf) (by simpa using hr) hy trivial (wpAnyK_of_any _ _ _ _ h))

/-- The beginning. -/
theorem wp_region_P {id : Nat} {a : Act} {w : World} (hm : P.follows .mixedOrders = true)
    (h : wpAny P .any ops (NoPanic Q) ops.size (Array.replicate ops.size false) a w.drew) : (Code.region id ops true).wp P Q a w :=
  wp_region_noPanic (wp_region_any hm h)

/-- The second stage. -/
theorem wpP_then (S : World → Prop) (held : List Nat) {fuel : Nat} {listed : Array Bool} {a : Act} {w : World} (hS : S w)
    (h : S w → wpAnyK P md ops (NoPanic Q) S (keepsB md ops held) fuel listed a w) : wpAny P md ops (NoPanic Q) fuel listed a w :=
  wpAny_of_K _ _ _ _ (h hS)
end
end Go.Proofs.Ytlghpcokbppkfaa
