/- A region that draws its order, walked in one order: what reads is taken first; what reads must stay as it is only behind those operations that may come ahead of it. (After the kit's Derived/OrdersHeld.) -/
import Derived.WalkKit
import Derived.OrdersHeld
import Derived.Deep.RegionHeld3
namespace Go.Proofs.Ytlghpcokbppkfaa

section
variable {P : Program} {ops : Array Oper} {Q : Exit → Act → World → Prop} {md : Region.Mode} {S : World → Prop} {keeps : Nat → Bool}

/-- Operation j waits for operation i, by an edge of its own. -/
def waits (md : Region.Mode) (ops : Array Oper) (j i : Nat) : Bool := ((ops[j]?).map fun o => o.after.any fun e => Region.binds md e && e.on == i).getD false
/-- Behind operation j S is still wanted: one of the held operations does not come ahead of it. -/
def keepsB (md : Region.Mode) (ops : Array Oper) (held : List Nat) (j : Nat) : Bool := held.any fun i => i != j && !waits md ops j i

/-- Whatever order is picked from here on, and S holds behind those operations that keeps names. -/
def wpAnyK (P : Program) (md : Region.Mode) (ops : Array Oper) (Q : Exit → Act → World → Prop) (S : World → Prop) (keeps : Nat → Bool) : Nat → Array Bool → Act → World → Prop
  | 0, listed, a, w => Region.ready md ops listed = [] ∧ Q .normal a w
  | fuel + 1, listed, a, w =>
    (Region.ready md ops listed = [] → Q .normal a w) ∧
    ∀ i ∈ Region.ready md ops listed, wpOp P ops Q i (fun a' w' => (keeps i = true → S w') ∧ wpAnyK P md ops Q S keeps fuel (listed.setIfInBounds i true) a' w') a w

theorem wpAny_of_K : ∀ (fuel : Nat) (listed : Array Bool) (a : Act) (w : World), wpAnyK P md ops Q S keeps fuel listed a w → wpAny P md ops Q fuel listed a w
  | 0, _, _, _, h => h
  | fuel + 1, _, _, _, h => ⟨h.1, fun i hi => wpOp_mono (fun a' w' h' => wpAny_of_K fuel _ a' w' h'.2) (h.2 i hi)⟩

theorem wpAnyK_first {i : Nat} {oi : Oper} {v : Value} (hi : ops[i]? = some oi) (hsel : ∀ (j : Nat) (o : Oper) cs b, ops[j]? = some o → o.op ≠ .select cs b)
    (hQ : ∀ c a w, Q (.panic c) (a.put oi.dst v) w → Q (.panic c) a w)
    (hkeep : ∀ j oj, ops[j]? = some oj → j ≠ i → (∀ e ∈ oj.after, Region.binds md e = true → e.on ≠ i) → keeps j = true) :
    ∀ (fuel : Nat) (listed : Array Bool) (a : Act) (w : World),
      (∀ j oj, ops[j]? = some oj → j ≠ i → listed.getD j true = false → (∀ e ∈ oj.after, Region.binds md e = true → e.on ≠ i) → oi.apart ops oj = true) →
      i ∈ Region.ready md ops listed → YieldsIf P ops S oi v a → S w →
      wpAnyK P md ops Q S keeps fuel (listed.setIfInBounds i true) (a.put oi.dst v) w → wpAnyK P md ops Q S keeps (fuel + 1) listed a w := by
  intro fuel
  induction fuel with
  | zero =>
    intro listed a w _ hr hy hS H
    refine ⟨fun h => (by rw [h] at hr; cases hr), fun j hj => ?_⟩
    by_cases hji : j = i
    · subst hji; exact hy.wpOp hi hS ⟨fun _ => hS, H⟩
    · have := ready_mono hj hji
      rw [H.1] at this
      cases this
  | succ fuel ih =>
    intro listed a w hfree hr hy hS H
    refine ⟨fun h => (by rw [h] at hr; cases hr), fun j hj => ?_⟩
    by_cases hji : j = i
    · subst hji; exact hy.wpOp hi hS ⟨fun _ => hS, H⟩
    · have h1 := H.2 j (ready_mono hj hji)
      obtain ⟨hjun, oj, hoj, hall⟩ := mem_ready.1 hj
      have hnot : ∀ e ∈ oj.after, Region.binds md e = true → e.on ≠ i := fun e he hb heq => by
        have h1 := hall e he hb
        have h0 := (mem_ready.1 hr).1
        rw [heq] at h1
        rcases Nat.lt_or_ge i listed.size with h' | h'
        · simp [h'] at h0 h1; rw [h0] at h1; cases h1
        · simp [Array.getElem?_eq_none h'] at h1
      have h2 := wpOp_putIf hoj (hfree j oj hoj hji hjun hnot) (fun cs b => hsel i oi cs b hi) (fun cs b => hsel j oj cs b hoj) hQ hy h1
      refine wpOp_mono (fun a' w' ⟨hy', hk', h'⟩ => ?_) h2
      have hS' := hk' (hkeep j oj hoj hji hnot)
      refine ⟨fun _ => hS', ih (listed.setIfInBounds j true) a' w' ?_ ?_ hy' hS' ?_⟩
      · intro k ok hk hki hun hno
        refine hfree k ok hk hki ?_ hno
        by_cases hjk : j = k
        · subst hjk
          rcases Nat.lt_or_ge j listed.size with h | h
          · simp [h] at hun
          · simp [Array.getElem?_eq_none h] at hjun
        · rw [getD_set_ne true hjk] at hun; exact hun
      · exact ready_mono hr (Ne.symm hji)
      · rw [Array.setIfInBounds_comm _ _ (Ne.symm hji)] at h'; exact h'

theorem keepsB_spec {held : List Nat} {i : Nat} (hi : held.contains i = true) (j : Nat) (oj : Oper) (hj : ops[j]? = some oj) (hne : j ≠ i) (hno : ∀ e ∈ oj.after, Region.binds md e = true → e.on ≠ i) : keepsB md ops held j = true := by
  unfold keepsB
  rw [List.any_eq_true]
  refine ⟨i, by simpa using hi, ?_⟩
  have hw : waits md ops j i = false := by
    unfold waits
    rw [hj]
    simp only [Option.map_some, Option.getD_some]
    cases h : oj.after.any (fun e => Region.binds md e && e.on == i) with
    | false => rfl
    | true =>
      obtain ⟨e, he, hb⟩ := Array.any_eq_true'.1 h
      simp only [Bool.and_eq_true, beq_iff_eq] at hb
      exact absurd hb.2 (hno e he hb.1)
  simp [hw, Ne.symm hne]

/-- Take number i, which yields its value in every world that meets S, first. -/
theorem wpK_take {held : List Nat} {i : Nat} {oi : Oper} {v : Value} {fuel : Nat} {listed : Array Bool} {a : Act} {w : World} (hi : ops[i]? = some oi) (hh : held.contains i = true)
    (hs : Region.noSelect ops = true) (hf : Region.free md ops listed i = true) (hr : (Region.ready md ops listed).contains i = true)
    (hy : YieldsIf P ops S oi v a) (hS : S w)
    (h : wpAnyK P md ops (NoPanic Q) S (keepsB md ops held) fuel (listed.setIfInBounds i true) (a.put oi.dst v) w) : wpAnyK P md ops (NoPanic Q) S (keepsB md ops held) (fuel + 1) listed a w :=
  wpAnyK_first hi (Region.noSelect_spec hs) (fun _ _ _ h => h) (fun j oj hj hne hno => keepsB_spec hh j oj hj hne hno) fuel listed a w (Region.free_spec hi hf) (by simpa using hr) hy hS h

/-- The one that alone may come up, in whatever it does; S is wanted behind it. -/
theorem wpK_one {held : List Nat} {i : Nat} {o : Oper} {fuel : Nat} {listed : Array Bool} {a : Act} {w : World} (hr : Region.ready md ops listed = [i]) (ho : ops[i]? = some o)
    (h : ∀ K' : Act → World → Prop, Shut (∀ a w, S w → (S w → wpAnyK P md ops Q S (keepsB md ops held) fuel (listed.setIfInBounds i true) a w) → K' a w) → if Region.wanted o (yielded ops a.tmps) = true then Oper.wp P o a w K' Q else K' (a.put o.dst undef) w) :
    wpAnyK P md ops Q S (keepsB md ops held) (fuel + 1) listed a w :=
  ⟨fun h0 => (by rw [hr] at h0; cases h0), fun j hj => by
    rw [hr, List.mem_singleton] at hj
    subst hj
    exact wpOp_step ho (fun K' hK => h K' (fun a w hS hW => hK a w ⟨fun _ => hS, hW hS⟩))⟩
/-- .. and S is not wanted any more. -/
theorem wpK_last {held : List Nat} {i : Nat} {o : Oper} {fuel : Nat} {listed : Array Bool} {a : Act} {w : World} (hr : Region.ready md ops listed = [i]) (hk : keepsB md ops held i = false) (ho : ops[i]? = some o)
    (h : ∀ K' : Act → World → Prop, Shut (∀ a w, wpAnyK P md ops Q S (keepsB md ops held) fuel (listed.setIfInBounds i true) a w → K' a w) → if Region.wanted o (yielded ops a.tmps) = true then Oper.wp P o a w K' Q else K' (a.put o.dst undef) w) :
    wpAnyK P md ops Q S (keepsB md ops held) (fuel + 1) listed a w :=
  ⟨fun h0 => (by rw [hr] at h0; cases h0), fun j hj => by
    rw [hr, List.mem_singleton] at hj
    subst hj
    exact wpOp_step ho (fun K' hK => h K' (fun a w hW => hK a w ⟨fun hk' => (by rw [hk] at hk'; cases hk'), hW⟩))⟩

theorem wpK_done {listed : Array Bool} {a : Act} {w : World} (hr : Region.ready md ops listed = []) (h : Q .normal a w) : ∀ fuel, wpAnyK P md ops (NoPanic Q) S keeps fuel listed a w
  | 0 => ⟨hr, h⟩
  | _ + 1 => ⟨fun _ => h, by rw [hr]; simp⟩

/-- The beginning. -/
theorem wp_region_K (S : World → Prop) (held : List Nat) {id : Nat} {a : Act} {w : World} (hm : P.follows .mixedOrders = true) (hS : S w.drew)
    (h : S w.drew → wpAnyK P .any ops (NoPanic Q) S (keepsB .any ops held) ops.size (Array.replicate ops.size false) a w.drew) : (Code.region id ops true).wp P Q a w :=
  wp_region_noPanic (wp_region_any hm (wpAny_of_K _ _ _ _ (h hS)))
end
/-- A cell that is there is as it was, behind a call that leaves old memory alone. -/
theorem cell_below {w w' : World} (hb : Go.RowKit.Below w.heap.size w w') {a : Addr} {v : Value} (h : w.cell? a = some v) : w'.cell? a = some v := (hb.cell (World.block_lt_of_cell? w a h)).trans h
end Go.Proofs.Ytlghpcokbppkfaa
