/- What a value of the package holds: AsBool, AsInt, AsFloat, AsString. -/
import Derived.Test.YtlghpcokbppkfaaIsX
namespace Go.Proofs.Ytlghpcokbppkfaa
open Go.RowKit
set_option linter.unusedSimpArgs false

theorem method_AsBool (b n : Nat) (r : Value) (w : World) (hn : 0 < n) (hc : w.cell? ⟨b, 0, none⟩ = some r) : (method n 205 (.pointer (some ⟨b, 0, none⟩)) "AsBool").run Try.prog w = .ok (181, .agg #[r]) w := by
  obtain ⟨i, m, h1, h2, h3, h4⟩ := method_parts (P := Try.prog) (t := 205) (name := "AsBool") (f := 181) (b := false) (by kernel_rfl)
  exact run_method_val hn h1 h2 h3 h4 Try.underlying205 (vu_agg w) (vu_size w) hc
theorem method_AsInt (b n : Nat) (r : Value) (w : World) (hn : 0 < n) (hc : w.cell? ⟨b, 0, none⟩ = some r) : (method n 205 (.pointer (some ⟨b, 0, none⟩)) "AsInt").run Try.prog w = .ok (183, .agg #[r]) w := by
  obtain ⟨i, m, h1, h2, h3, h4⟩ := method_parts (P := Try.prog) (t := 205) (name := "AsInt") (f := 183) (b := false) (by kernel_rfl)
  exact run_method_val hn h1 h2 h3 h4 Try.underlying205 (vu_agg w) (vu_size w) hc
theorem method_AsFloat (b n : Nat) (r : Value) (w : World) (hn : 0 < n) (hc : w.cell? ⟨b, 0, none⟩ = some r) : (method n 205 (.pointer (some ⟨b, 0, none⟩)) "AsFloat").run Try.prog w = .ok (182, .agg #[r]) w := by
  obtain ⟨i, m, h1, h2, h3, h4⟩ := method_parts (P := Try.prog) (t := 205) (name := "AsFloat") (f := 182) (b := false) (by kernel_rfl)
  exact run_method_val hn h1 h2 h3 h4 Try.underlying205 (vu_agg w) (vu_size w) hc
theorem method_AsString (b n : Nat) (r : Value) (w : World) (hn : 0 < n) (hc : w.cell? ⟨b, 0, none⟩ = some r) : (method n 205 (.pointer (some ⟨b, 0, none⟩)) "AsString").run Try.prog w = .ok (188, .agg #[r]) w := by
  obtain ⟨i, m, h1, h2, h3, h4⟩ := method_parts (P := Try.prog) (t := 205) (name := "AsString") (f := 188) (b := false) (by kernel_rfl)
  exact run_method_val hn h1 h2 h3 h4 Try.underlying205 (vu_agg w) (vu_size w) hc

set_option maxRecDepth 100000 in
theorem AsBool_any (x : Bool) (w : World) : Calls Try.prog 181 #[.agg #[.iface 4 (.bool x)]] w fun e w' => e = .returned (.bool x) ∧ w' = w.alloc (.cells #[.iface 4 (.bool x)] 233) := by
  go_enter Try.func181, Try.ntmps181
  go_wp2_with fail
  go_ret
  exact ⟨rfl, rfl⟩
set_option maxRecDepth 100000 in
theorem AsInt_any (x : Int) (w : World) : Calls Try.prog 183 #[.agg #[.iface 2 (.int .i64 x)]] w fun e w' => e = .returned (.int .i64 x) ∧ w' = w.alloc (.cells #[.iface 2 (.int .i64 x)] 233) := by
  go_enter Try.func183, Try.ntmps183
  go_wp2_with fail
  go_ret
  exact ⟨rfl, rfl⟩
set_option maxRecDepth 100000 in
theorem AsFloat_any (x : Nat) (w : World) : Calls Try.prog 182 #[.agg #[.iface 22 (.float .f64 x)]] w fun e w' => e = .returned (.float .f64 x) ∧ w' = w.alloc (.cells #[.iface 22 (.float .f64 x)] 233) := by
  go_enter Try.func182, Try.ntmps182
  go_wp2_with fail
  go_ret
  exact ⟨rfl, rfl⟩
set_option maxRecDepth 100000 in
theorem AsString_any (x : ByteArray) (w : World) : Calls Try.prog 188 #[.agg #[.iface 9 (.string x)]] w fun e w' => e = .returned (.string x) ∧ w' = w.alloc (.cells #[.iface 9 (.string x)] 233) := by
  go_enter Try.func188, Try.ntmps188
  go_wp2_with fail
  go_ret
  exact ⟨rfl, rfl⟩
end Go.Proofs.Ytlghpcokbppkfaa
