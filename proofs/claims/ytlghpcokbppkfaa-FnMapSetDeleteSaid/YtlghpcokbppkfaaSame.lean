/- spec.identical: whether two plain values are one. -/
import Derived.Test.YtlghpcokbppkfaaFloat
import Derived.Test.YtlghpcokbppkfaaRegion
import Derived.Test.YtlghpcokbppkfaaCells
import Derived.Test.YtlghpcokbppkfaaField
namespace Go.Proofs.Ytlghpcokbppkfaa
open Go.RowKit

/-- Whether two values are one. -/
noncomputable def sameG (x y : GV) : Bool := @decide (x = y) (Classical.propDecidable _)
theorem sameG_iff {x y : GV} : sameG x y = true ↔ x = y := by unfold sameG; simp

def SameC (x : GV) : Prop := ∀ (y : GV) (w : World) (v v' : Value), IsV w (Btw 0 w.heap.size) x v → IsV w (Btw 0 w.heap.size) y v' →
    Calls Try.prog 69 #[v, v'] w fun e w' => e = .returned (.bool (sameG x y)) ∧ Below w.heap.size w w'

theorem SameC.use {x : GV} (h : SameC x) (y : GV) (w : World) (v v' : Value) (hv : IsV w (Btw 0 w.heap.size) x v) (hv' : IsV w (Btw 0 w.heap.size) y v') :
    Calls Try.prog 69 #[v, v'] w fun e w' => e = .returned (.bool (sameG x y)) ∧ Below w.heap.size w w' := h y w v v' hv hv'

set_option maxHeartbeats 1000000 in
set_option maxRecDepth 100000 in
theorem same_kind (x y : GV) (w : World) (v v' : Value) (hv : IsV w (Btw 0 w.heap.size) x v) (hv' : IsV w (Btw 0 w.heap.size) y v') (hk : x.kind ≠ y.kind) :
    Calls Try.prog 69 #[v, v'] w fun e w' => e = .returned (.bool false) ∧ Below w.heap.size w w' := by
  obtain ⟨a0, c0, a1, c1, rfl⟩ := hv.form
  obtain ⟨b0, d0, b1, d1, rfl⟩ := hv'.form
  clear hv hv'
  have hB : ∀ (o o' : Obj) (n : Nat), Below w.heap.size w (((w.alloc o).alloc o').drewN n) := fun o o' n =>
    (((Below.refl _ _).alloc (Nat.le_refl _) o).alloc (by simp) o').trans ⟨rfl, rfl, rfl, Nat.le_refl _, fun _ _ => rfl⟩
  have hfb := run_float64bits
  have e1 : (x.kind != y.kind) = true := by simpa using hk
  clear hk
  go_enter Try.func69, Try.ntmps69
  go_wp2_with fail
  go_quiet (fail)
  go_wp2_with fail
  go_ret
  exact ⟨rfl, hB _ _ _⟩

set_option maxHeartbeats 1000000 in
set_option maxRecDepth 100000 in
theorem same_n (x y : GV) (w : World) (v v' : Value) (hv : IsV w (Btw 0 w.heap.size) x v) (hv' : IsV w (Btw 0 w.heap.size) y v') (h1 : x.kind = y.kind) (hk : x.n ≠ y.n) :
    Calls Try.prog 69 #[v, v'] w fun e w' => e = .returned (.bool false) ∧ Below w.heap.size w w' := by
  obtain ⟨a0, c0, a1, c1, rfl⟩ := hv.form
  obtain ⟨b0, d0, b1, d1, rfl⟩ := hv'.form
  clear hv hv'
  have hB : ∀ (o o' : Obj) (n : Nat), Below w.heap.size w (((w.alloc o).alloc o').drewN n) := fun o o' n =>
    (((Below.refl _ _).alloc (Nat.le_refl _) o).alloc (by simp) o').trans ⟨rfl, rfl, rfl, Nat.le_refl _, fun _ _ => rfl⟩
  have hfb := run_float64bits
  have e1 : (x.kind != y.kind) = false := by simp [h1]
  clear h1
  have e2 : (x.n != y.n) = true := by simpa using hk
  clear hk
  go_enter Try.func69, Try.ntmps69
  go_wp2_with fail
  go_quiet (fail)
  go_wp2_with fail
  go_ret
  exact ⟨rfl, hB _ _ _⟩

set_option maxHeartbeats 1000000 in
set_option maxRecDepth 100000 in
theorem same_s (x y : GV) (w : World) (v v' : Value) (hv : IsV w (Btw 0 w.heap.size) x v) (hv' : IsV w (Btw 0 w.heap.size) y v') (h1 : x.kind = y.kind) (h2 : x.n = y.n) (hk : x.s ≠ y.s) :
    Calls Try.prog 69 #[v, v'] w fun e w' => e = .returned (.bool false) ∧ Below w.heap.size w w' := by
  obtain ⟨a0, c0, a1, c1, rfl⟩ := hv.form
  obtain ⟨b0, d0, b1, d1, rfl⟩ := hv'.form
  clear hv hv'
  have hB : ∀ (o o' : Obj) (n : Nat), Below w.heap.size w (((w.alloc o).alloc o').drewN n) := fun o o' n =>
    (((Below.refl _ _).alloc (Nat.le_refl _) o).alloc (by simp) o').trans ⟨rfl, rfl, rfl, Nat.le_refl _, fun _ _ => rfl⟩
  have hfb := run_float64bits
  have e1 : (x.kind != y.kind) = false := by simp [h1]
  clear h1
  have e2 : (x.n != y.n) = false := by simp [h2]
  clear h2
  have e3 : (x.s.toList == y.s.toList) = false := by rw [beq_list]; simpa using hk
  clear hk
  go_enter Try.func69, Try.ntmps69
  go_wp2_with fail
  go_quiet (fail)
  go_wp2_with fail
  go_ret
  exact ⟨rfl, hB _ _ _⟩

set_option maxHeartbeats 1000000 in
set_option maxRecDepth 100000 in
theorem same_f (x y : GV) (w : World) (v v' : Value) (hv : IsV w (Btw 0 w.heap.size) x v) (hv' : IsV w (Btw 0 w.heap.size) y v') (h1 : x.kind = y.kind) (h2 : x.n = y.n) (h3 : x.s = y.s) (hk : x.f ≠ y.f) :
    Calls Try.prog 69 #[v, v'] w fun e w' => e = .returned (.bool false) ∧ Below w.heap.size w w' := by
  obtain ⟨a0, c0, a1, c1, rfl⟩ := hv.form
  obtain ⟨b0, d0, b1, d1, rfl⟩ := hv'.form
  clear hv hv'
  have hB : ∀ (o o' : Obj) (n : Nat), Below w.heap.size w (((w.alloc o).alloc o').drewN n) := fun o o' n =>
    (((Below.refl _ _).alloc (Nat.le_refl _) o).alloc (by simp) o').trans ⟨rfl, rfl, rfl, Nat.le_refl _, fun _ _ => rfl⟩
  have hfb := run_float64bits
  have e1 : (x.kind != y.kind) = false := by simp [h1]
  clear h1
  have e2 : (x.n != y.n) = false := by simp [h2]
  clear h2
  have e3 : (x.s.toList == y.s.toList) = true := by simp [h3]
  clear h3
  have e4 : ((x.f : Int) != (y.f : Int)) = true := by simp; omega
  clear hk
  go_enter Try.func69, Try.ntmps69
  go_wp2_with fail
  go_quiet (fail)
  go_wp2_with fail
  go_ret
  exact ⟨rfl, hB _ _ _⟩

set_option maxHeartbeats 1000000 in
set_option maxRecDepth 100000 in
theorem same_keys (x y : GV) (w : World) (v v' : Value) (hv : IsV w (Btw 0 w.heap.size) x v) (hv' : IsV w (Btw 0 w.heap.size) y v') (h1 : x.kind = y.kind) (h2 : x.n = y.n) (h3 : x.s = y.s) (h4 : x.f = y.f) (hk : x.keys.length ≠ y.keys.length) :
    Calls Try.prog 69 #[v, v'] w fun e w' => e = .returned (.bool false) ∧ Below w.heap.size w w' := by
  obtain ⟨a0, c0, a1, c1, rfl⟩ := hv.form
  obtain ⟨b0, d0, b1, d1, rfl⟩ := hv'.form
  clear hv hv'
  have hB : ∀ (o o' : Obj) (n : Nat), Below w.heap.size w (((w.alloc o).alloc o').drewN n) := fun o o' n =>
    (((Below.refl _ _).alloc (Nat.le_refl _) o).alloc (by simp) o').trans ⟨rfl, rfl, rfl, Nat.le_refl _, fun _ _ => rfl⟩
  have hfb := run_float64bits
  have e1 : (x.kind != y.kind) = false := by simp [h1]
  clear h1
  have e2 : (x.n != y.n) = false := by simp [h2]
  clear h2
  have e3 : (x.s.toList == y.s.toList) = true := by simp [h3]
  clear h3
  have e4 : ((x.f : Int) != (y.f : Int)) = false := by simp [h4]
  clear h4
  have e5 : ((x.keys.length : Int) != (y.keys.length : Int)) = true := by simp; omega
  clear hk
  go_enter Try.func69, Try.ntmps69
  go_wp2_with fail
  go_quiet (fail)
  go_wp2_with fail
  go_ret
  exact ⟨rfl, hB _ _ _⟩

set_option maxHeartbeats 1000000 in
set_option maxRecDepth 100000 in
theorem same_l (x y : GV) (w : World) (v v' : Value) (hv : IsV w (Btw 0 w.heap.size) x v) (hv' : IsV w (Btw 0 w.heap.size) y v') (h1 : x.kind = y.kind) (h2 : x.n = y.n) (h3 : x.s = y.s) (h4 : x.f = y.f) (h5 : x.keys.length = y.keys.length) (hk : x.l.length ≠ y.l.length) :
    Calls Try.prog 69 #[v, v'] w fun e w' => e = .returned (.bool false) ∧ Below w.heap.size w w' := by
  obtain ⟨a0, c0, a1, c1, rfl⟩ := hv.form
  obtain ⟨b0, d0, b1, d1, rfl⟩ := hv'.form
  clear hv hv'
  have hB : ∀ (o o' : Obj) (n : Nat), Below w.heap.size w (((w.alloc o).alloc o').drewN n) := fun o o' n =>
    (((Below.refl _ _).alloc (Nat.le_refl _) o).alloc (by simp) o').trans ⟨rfl, rfl, rfl, Nat.le_refl _, fun _ _ => rfl⟩
  have hfb := run_float64bits
  have e1 : (x.kind != y.kind) = false := by simp [h1]
  clear h1
  have e2 : (x.n != y.n) = false := by simp [h2]
  clear h2
  have e3 : (x.s.toList == y.s.toList) = true := by simp [h3]
  clear h3
  have e4 : ((x.f : Int) != (y.f : Int)) = false := by simp [h4]
  clear h4
  have e5 : ((x.keys.length : Int) != (y.keys.length : Int)) = false := by simp [h5]
  clear h5
  have e6 : ((x.l.length : Int) != (y.l.length : Int)) = true := by simp; omega
  clear hk
  go_enter Try.func69, Try.ntmps69
  go_wp2_with fail
  go_quiet (fail)
  go_wp2_with fail
  go_ret
  exact ⟨rfl, hB _ _ _⟩

end Go.Proofs.Ytlghpcokbppkfaa
