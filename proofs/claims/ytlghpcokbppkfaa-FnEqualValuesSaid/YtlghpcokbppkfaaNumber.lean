/- spec.number and spec.asFloat. -/
import Derived.Test.YtlghpcokbppkfaaOrderly
namespace Go.Proofs.Ytlghpcokbppkfaa
open Go.RowKit
set_option linter.unusedSimpArgs false

/-- The value is a number. -/
def isNum (x : GV) : Bool := decide (x.kind = 2) || decide (x.kind = 3)

set_option maxHeartbeats 1000000 in
set_option maxRecDepth 100000 in
theorem number_any (x : GV) (w : World) (v : Value) (hv : IsV w (Btw 0 w.heap.size) x v) :
    Calls Try.prog 131 #[v] w fun e w' => e = .returned (.bool (isNum x)) ∧ Below w.heap.size w w' := by
  obtain ⟨a0, c0, a1, c1, rfl⟩ := hv.form
  clear hv
  by_cases h2 : x.kind = 2
  · have e : isNum x = true := by simp [isNum, h2]
    rw [e, h2]
    clear h2 e
    go_enter Try.func131, Try.ntmps131
    go_wp2_with fail
    go_ret
    exact ⟨rfl, (Below.refl _ _).alloc (Nat.le_refl _) _⟩
  by_cases h3 : x.kind = 3
  · have e : isNum x = true := by simp [isNum, h3]
    rw [e, h3]
    clear h2 h3 e
    go_enter Try.func131, Try.ntmps131
    go_wp2_with fail
    go_ret
    exact ⟨rfl, (Below.refl _ _).alloc (Nat.le_refl _) _⟩
  · have e : isNum x = false := by simp [isNum, h2, h3]
    rw [e]
    have k2 : (x.kind == 2) = false := by simp [h2]
    have k3 : (x.kind == 3) = false := by simp [h3]
    clear h2 h3 e
    go_enter Try.func131, Try.ntmps131
    go_wp2_with fail
    go_ret
    exact ⟨rfl, (Below.refl _ _).alloc (Nat.le_refl _) _⟩

/-- A number as a floating-point number. -/
def asF (x : GV) : Nat := if x.kind = 2 then floatOfInt FloatKind.f64 x.n else x.f

set_option maxHeartbeats 1000000 in
set_option maxRecDepth 100000 in
theorem asFloat_any (x : GV) (w : World) (v : Value) (hv : IsV w (Btw 0 w.heap.size) x v) :
    Calls Try.prog 132 #[v] w fun e w' => e = .returned (.float .f64 (asF x)) ∧ Below w.heap.size w w' := by
  obtain ⟨a0, c0, a1, c1, rfl⟩ := hv.form
  clear hv
  by_cases h2 : x.kind = 2
  · have e : asF x = floatOfInt FloatKind.f64 x.n := by simp [asF, h2]
    rw [e, h2]
    clear h2 e
    go_enter Try.func132, Try.ntmps132
    go_wp2_with fail
    go_ret
    exact ⟨rfl, (Below.refl _ _).alloc (Nat.le_refl _) _⟩
  · have e : asF x = x.f := by simp [asF, h2]
    rw [e]
    have k2 : (x.kind == 2) = false := by simp [h2]
    clear h2 e
    go_enter Try.func132, Try.ntmps132
    go_wp2_with fail
    go_ret
    exact ⟨rfl, (Below.refl _ _).alloc (Nat.le_refl _) _⟩
end Go.Proofs.Ytlghpcokbppkfaa
