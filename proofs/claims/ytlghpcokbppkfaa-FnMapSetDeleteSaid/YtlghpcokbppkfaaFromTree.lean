/- impl.fromTree: a tree taken apart. -/
import Derived.Test.YtlghpcokbppkfaaSortKeys
import Derived.Test.YtlghpcokbppkfaaPureGet
namespace Go.Proofs.Ytlghpcokbppkfaa
open Go.RowKit
set_option linter.unusedSimpArgs false

def FromC (j : JV) : Prop := ∀ (w : World) (v : Value), IsJ w (Btw 0 w.heap.size) j v → JOk j →
    Calls Try.prog 90 #[v] w fun e w' => ∃ r, e = .returned r ∧ Below w.heap.size w w' ∧ IsV w' (Btw w.heap.size w'.heap.size) (unJ j) r
theorem FromC.use {j : JV} (h : FromC j) (w : World) (v : Value) (hv : IsJ w (Btw 0 w.heap.size) j v) (hj : JOk j) :
    Calls Try.prog 90 #[v] w fun e w' => ∃ r, e = .returned r ∧ Below w.heap.size w w' ∧ IsV w' (Btw w.heap.size w'.heap.size) (unJ j) r := h w v hv hj

set_option maxRecDepth 100000 in
theorem from_scalar (j : JV) (hj : (∀ l, j ≠ .list l) ∧ ∀ m, j ≠ .map m) : FromC j := by
  intro w v hv hok
  clear hok
  have hB : ∀ (x0 x1 x2 x3 x4 x5 : Value), Below w.heap.size w (w.alloc (.cells #[x0, x1, x2, x3, x4, x5] 26)) :=
    fun _ _ _ _ _ _ => (Below.refl _ _).alloc (Nat.le_refl _) _
  cases j <;> unfold IsJ at hv
  case null =>
    subst hv
    go_enter Try.func90, Try.ntmps90
    go_wp2_with fail
    exact bodyPost_ret (v := .agg #[.int .i64 0, .int .i64 0, .float .f64 0, .string ⟨#[]⟩, .slice none 0 0, .slice none 0 0]) (by simp [results, Try.results90, go_sem]) rfl ⟨_, rfl, hB _ _ _ _ _ _, by simp only [unJ]; exact flat_isV (by decide) (by decide) (by decide) (by decide)⟩
  case bool b =>
    subst hv
    cases b
    · go_enter Try.func90, Try.ntmps90
      go_wp2_with fail
      exact bodyPost_ret (v := .agg #[.int .i64 1, .int .i64 0, .float .f64 0, .string ⟨#[]⟩, .slice none 0 0, .slice none 0 0]) (by simp [results, Try.results90, go_sem]) rfl ⟨_, rfl, hB _ _ _ _ _ _, by simp only [unJ]; exact flat_isV (by decide) (by decide) (by decide) (by decide)⟩
    · go_enter Try.func90, Try.ntmps90
      go_wp2_with fail
      exact bodyPost_ret (v := .agg #[.int .i64 1, .int .i64 1, .float .f64 0, .string ⟨#[]⟩, .slice none 0 0, .slice none 0 0]) (by simp [results, Try.results90, go_sem]) rfl ⟨_, rfl, hB _ _ _ _ _ _, by simp only [unJ]; exact flat_isV (by decide) (by decide) (by decide) (by decide)⟩
  case int n =>
    obtain ⟨rfl, hn⟩ := hv
    go_enter Try.func90, Try.ntmps90
    go_wp2_with fail
    exact bodyPost_ret (v := .agg #[.int .i64 2, .int .i64 n, .float .f64 0, .string ⟨#[]⟩, .slice none 0 0, .slice none 0 0]) (by simp [results, Try.results90, go_sem]) rfl ⟨_, rfl, hB _ _ _ _ _ _, by simp only [unJ]; exact flat_isV (by decide) hn (by decide) (by decide)⟩
  case flt f =>
    obtain ⟨rfl, hn⟩ := hv
    go_enter Try.func90, Try.ntmps90
    go_wp2_with fail
    exact bodyPost_ret (v := .agg #[.int .i64 3, .int .i64 0, .float .f64 f, .string ⟨#[]⟩, .slice none 0 0, .slice none 0 0]) (by simp [results, Try.results90, go_sem]) rfl ⟨_, rfl, hB _ _ _ _ _ _, by simp only [unJ]; exact flat_isV (by decide) (by decide) hn (by decide)⟩
  case str s =>
    obtain ⟨rfl, hn⟩ := hv
    go_enter Try.func90, Try.ntmps90
    go_wp2_with fail
    exact bodyPost_ret (v := .agg #[.int .i64 4, .int .i64 0, .float .f64 0, .string s, .slice none 0 0, .slice none 0 0]) (by simp [results, Try.results90, go_sem]) rfl ⟨_, rfl, hB _ _ _ _ _ _, by simp only [unJ]; exact flat_isV (by decide) (by decide) (by decide) hn⟩
  case list l => exact absurd rfl (hj.1 l)
  case map m => exact absurd rfl (hj.2 m)
end Go.Proofs.Ytlghpcokbppkfaa
