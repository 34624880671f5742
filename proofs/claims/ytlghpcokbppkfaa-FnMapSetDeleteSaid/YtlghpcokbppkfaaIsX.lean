/- The methods of a value that tell its kind -/
import Derived.Test.YtlghpcokbppkfaaToValue
namespace Go.Proofs.Ytlghpcokbppkfaa
open Go.RowKit

theorem vu_agg (w : World) : (isAgg 233).run Try.prog w = .ok true w := by kernel_rfl
theorem vu_size (w : World) : (sizeOf 233).run Try.prog w = .ok 1 w := by kernel_rfl

/-- A method's row, out of one closed fact. -/
theorem method_parts {P : Program} {t : TypeId} {name : String} {f : FuncId} {b : Bool} (h : ((P.info? t).bind fun i => i.methods.find? (·.name == name)).map (fun m => (m.path, m.func)) = some (#[], some (f, b))) :
    ∃ i m, P.info? t = some i ∧ i.methods.find? (·.name == name) = some m ∧ m.path = #[] ∧ m.func = some (f, b) := by
  obtain ⟨m, hm, e⟩ := Option.map_eq_some_iff.1 h
  obtain ⟨i, hi, hf⟩ := Option.bind_eq_some_iff.1 hm
  simp only [Prod.mk.injEq] at e
  exact ⟨i, m, hi, hf, e.1, e.2⟩

theorem method_IsMap (b n : Nat) (r : Value) (w : World) (hn : 0 < n) (hc : w.cell? ⟨b, 0, none⟩ = some r) : (method n 205 (.pointer (some ⟨b, 0, none⟩)) "IsMap").run Try.prog w = .ok (193, .agg #[r]) w := by
  obtain ⟨i, m, h1, h2, h3, h4⟩ := method_parts (P := Try.prog) (t := 205) (name := "IsMap") (f := 193) (b := false) (by kernel_rfl)
  exact run_method_val hn h1 h2 h3 h4 Try.underlying205 (vu_agg w) (vu_size w) hc
theorem method_IsList (b n : Nat) (r : Value) (w : World) (hn : 0 < n) (hc : w.cell? ⟨b, 0, none⟩ = some r) : (method n 205 (.pointer (some ⟨b, 0, none⟩)) "IsList").run Try.prog w = .ok (192, .agg #[r]) w := by
  obtain ⟨i, m, h1, h2, h3, h4⟩ := method_parts (P := Try.prog) (t := 205) (name := "IsList") (f := 192) (b := false) (by kernel_rfl)
  exact run_method_val hn h1 h2 h3 h4 Try.underlying205 (vu_agg w) (vu_size w) hc
theorem method_IsBool (b n : Nat) (r : Value) (w : World) (hn : 0 < n) (hc : w.cell? ⟨b, 0, none⟩ = some r) : (method n 205 (.pointer (some ⟨b, 0, none⟩)) "IsBool").run Try.prog w = .ok (189, .agg #[r]) w := by
  obtain ⟨i, m, h1, h2, h3, h4⟩ := method_parts (P := Try.prog) (t := 205) (name := "IsBool") (f := 189) (b := false) (by kernel_rfl)
  exact run_method_val hn h1 h2 h3 h4 Try.underlying205 (vu_agg w) (vu_size w) hc
theorem method_IsInt (b n : Nat) (r : Value) (w : World) (hn : 0 < n) (hc : w.cell? ⟨b, 0, none⟩ = some r) : (method n 205 (.pointer (some ⟨b, 0, none⟩)) "IsInt").run Try.prog w = .ok (191, .agg #[r]) w := by
  obtain ⟨i, m, h1, h2, h3, h4⟩ := method_parts (P := Try.prog) (t := 205) (name := "IsInt") (f := 191) (b := false) (by kernel_rfl)
  exact run_method_val hn h1 h2 h3 h4 Try.underlying205 (vu_agg w) (vu_size w) hc
theorem method_IsFloat (b n : Nat) (r : Value) (w : World) (hn : 0 < n) (hc : w.cell? ⟨b, 0, none⟩ = some r) : (method n 205 (.pointer (some ⟨b, 0, none⟩)) "IsFloat").run Try.prog w = .ok (190, .agg #[r]) w := by
  obtain ⟨i, m, h1, h2, h3, h4⟩ := method_parts (P := Try.prog) (t := 205) (name := "IsFloat") (f := 190) (b := false) (by kernel_rfl)
  exact run_method_val hn h1 h2 h3 h4 Try.underlying205 (vu_agg w) (vu_size w) hc
theorem method_IsString (b n : Nat) (r : Value) (w : World) (hn : 0 < n) (hc : w.cell? ⟨b, 0, none⟩ = some r) : (method n 205 (.pointer (some ⟨b, 0, none⟩)) "IsString").run Try.prog w = .ok (195, .agg #[r]) w := by
  obtain ⟨i, m, h1, h2, h3, h4⟩ := method_parts (P := Try.prog) (t := 205) (name := "IsString") (f := 195) (b := false) (by kernel_rfl)
  exact run_method_val hn h1 h2 h3 h4 Try.underlying205 (vu_agg w) (vu_size w) hc
theorem method_IsNull (b n : Nat) (r : Value) (w : World) (hn : 0 < n) (hc : w.cell? ⟨b, 0, none⟩ = some r) : (method n 205 (.pointer (some ⟨b, 0, none⟩)) "IsNull").run Try.prog w = .ok (194, .agg #[r]) w := by
  obtain ⟨i, m, h1, h2, h3, h4⟩ := method_parts (P := Try.prog) (t := 205) (name := "IsNull") (f := 194) (b := false) (by kernel_rfl)
  exact run_method_val hn h1 h2 h3 h4 Try.underlying205 (vu_agg w) (vu_size w) hc
theorem method_Unstructured (b n : Nat) (r : Value) (w : World) (hn : 0 < n) (hc : w.cell? ⟨b, 0, none⟩ = some r) : (method n 205 (.pointer (some ⟨b, 0, none⟩)) "Unstructured").run Try.prog w = .ok (196, .agg #[r]) w := by
  obtain ⟨i, m, h1, h2, h3, h4⟩ := method_parts (P := Try.prog) (t := 205) (name := "Unstructured") (f := 196) (b := false) (by kernel_rfl)
  exact run_method_val hn h1 h2 h3 h4 Try.underlying205 (vu_agg w) (vu_size w) hc

/-- The form of a tree's value, whatever the memory. -/
def JForm : JV → Value → Prop
  | .null, v => v = .nilIface
  | .bool b, v => v = .iface 4 (.bool b)
  | .int n, v => v = .iface 2 (.int .i64 n)
  | .flt f, v => v = .iface 22 (.float .f64 f)
  | .str s, v => v = .iface 9 (.string s)
  | .list l, v => ∃ a c, v = .iface 106 (.slice a l.length c)
  | .map _, v => ∃ b, v = .iface 164 (.map (some b))
theorem IsJ.shape {w : World} {S : Nat → Prop} {j : JV} {v : Value} (h : IsJ w S j v) : JForm j v := by
  cases j <;> unfold IsJ at h <;> unfold JForm
  · exact h
  · exact h
  · exact h.1
  · exact h.1
  · exact h.1
  · obtain ⟨a, c, e, _⟩ := h; exact ⟨a, c, e⟩
  · obtain ⟨b, es, cl, e, _⟩ := h; exact ⟨b, e⟩

def JV.IsMap : JV → Bool | .map _ => true | _ => false
def JV.IsList : JV → Bool | .list _ => true | _ => false
def JV.IsBool : JV → Bool | .bool _ => true | _ => false
def JV.IsInt : JV → Bool | .int _ => true | _ => false
def JV.IsFloat : JV → Bool | .flt _ => true | _ => false
def JV.IsString : JV → Bool | .str _ => true | _ => false
def JV.IsNull : JV → Bool | .null => true | _ => false

set_option maxRecDepth 100000 in
theorem IsMap_any (j : JV) (w : World) (r : Value) (hj : JForm j r) : Calls Try.prog 193 #[.agg #[r]] w fun e w' => e = .returned (.bool (JV.IsMap j)) ∧ w' = w.alloc (.cells #[r] 233) := by
  cases j <;> unfold JForm at hj
  case null => subst hj; go_enter Try.func193, Try.ntmps193; go_wp2_with fail; go_ret; exact ⟨rfl, rfl⟩
  case bool => subst hj; go_enter Try.func193, Try.ntmps193; go_wp2_with fail; go_ret; exact ⟨rfl, rfl⟩
  case int => subst hj; go_enter Try.func193, Try.ntmps193; go_wp2_with fail; go_ret; exact ⟨rfl, rfl⟩
  case flt => subst hj; go_enter Try.func193, Try.ntmps193; go_wp2_with fail; go_ret; exact ⟨rfl, rfl⟩
  case str => subst hj; go_enter Try.func193, Try.ntmps193; go_wp2_with fail; go_ret; exact ⟨rfl, rfl⟩
  case list => obtain ⟨a, c, rfl⟩ := hj; go_enter Try.func193, Try.ntmps193; go_wp2_with fail; go_ret; exact ⟨rfl, rfl⟩
  case map => obtain ⟨b, rfl⟩ := hj; go_enter Try.func193, Try.ntmps193; go_wp2_with fail; go_ret; exact ⟨rfl, rfl⟩
set_option maxRecDepth 100000 in
theorem IsList_any (j : JV) (w : World) (r : Value) (hj : JForm j r) : Calls Try.prog 192 #[.agg #[r]] w fun e w' => e = .returned (.bool (JV.IsList j)) ∧ w' = w.alloc (.cells #[r] 233) := by
  cases j <;> unfold JForm at hj
  case null => subst hj; go_enter Try.func192, Try.ntmps192; go_wp2_with fail; go_ret; exact ⟨rfl, rfl⟩
  case bool => subst hj; go_enter Try.func192, Try.ntmps192; go_wp2_with fail; go_ret; exact ⟨rfl, rfl⟩
  case int => subst hj; go_enter Try.func192, Try.ntmps192; go_wp2_with fail; go_ret; exact ⟨rfl, rfl⟩
  case flt => subst hj; go_enter Try.func192, Try.ntmps192; go_wp2_with fail; go_ret; exact ⟨rfl, rfl⟩
  case str => subst hj; go_enter Try.func192, Try.ntmps192; go_wp2_with fail; go_ret; exact ⟨rfl, rfl⟩
  case list => obtain ⟨a, c, rfl⟩ := hj; go_enter Try.func192, Try.ntmps192; go_wp2_with fail; go_ret; exact ⟨rfl, rfl⟩
  case map => obtain ⟨b, rfl⟩ := hj; go_enter Try.func192, Try.ntmps192; go_wp2_with fail; go_ret; exact ⟨rfl, rfl⟩
set_option maxRecDepth 100000 in
theorem IsBool_any (j : JV) (w : World) (r : Value) (hj : JForm j r) : Calls Try.prog 189 #[.agg #[r]] w fun e w' => e = .returned (.bool (JV.IsBool j)) ∧ w' = w.alloc (.cells #[r] 233) := by
  cases j <;> unfold JForm at hj
  case null => subst hj; go_enter Try.func189, Try.ntmps189; go_wp2_with fail; go_ret; exact ⟨rfl, rfl⟩
  case bool => subst hj; go_enter Try.func189, Try.ntmps189; go_wp2_with fail; go_ret; exact ⟨rfl, rfl⟩
  case int => subst hj; go_enter Try.func189, Try.ntmps189; go_wp2_with fail; go_ret; exact ⟨rfl, rfl⟩
  case flt => subst hj; go_enter Try.func189, Try.ntmps189; go_wp2_with fail; go_ret; exact ⟨rfl, rfl⟩
  case str => subst hj; go_enter Try.func189, Try.ntmps189; go_wp2_with fail; go_ret; exact ⟨rfl, rfl⟩
  case list => obtain ⟨a, c, rfl⟩ := hj; go_enter Try.func189, Try.ntmps189; go_wp2_with fail; go_ret; exact ⟨rfl, rfl⟩
  case map => obtain ⟨b, rfl⟩ := hj; go_enter Try.func189, Try.ntmps189; go_wp2_with fail; go_ret; exact ⟨rfl, rfl⟩
set_option maxRecDepth 100000 in
theorem IsInt_any (j : JV) (w : World) (r : Value) (hj : JForm j r) : Calls Try.prog 191 #[.agg #[r]] w fun e w' => e = .returned (.bool (JV.IsInt j)) ∧ w' = w.alloc (.cells #[r] 233) := by
  cases j <;> unfold JForm at hj
  case null => subst hj; go_enter Try.func191, Try.ntmps191; go_wp2_with fail; go_ret; exact ⟨rfl, rfl⟩
  case bool => subst hj; go_enter Try.func191, Try.ntmps191; go_wp2_with fail; go_ret; exact ⟨rfl, rfl⟩
  case int => subst hj; go_enter Try.func191, Try.ntmps191; go_wp2_with fail; go_ret; exact ⟨rfl, rfl⟩
  case flt => subst hj; go_enter Try.func191, Try.ntmps191; go_wp2_with fail; go_ret; exact ⟨rfl, rfl⟩
  case str => subst hj; go_enter Try.func191, Try.ntmps191; go_wp2_with fail; go_ret; exact ⟨rfl, rfl⟩
  case list => obtain ⟨a, c, rfl⟩ := hj; go_enter Try.func191, Try.ntmps191; go_wp2_with fail; go_ret; exact ⟨rfl, rfl⟩
  case map => obtain ⟨b, rfl⟩ := hj; go_enter Try.func191, Try.ntmps191; go_wp2_with fail; go_ret; exact ⟨rfl, rfl⟩
set_option maxRecDepth 100000 in
theorem IsFloat_any (j : JV) (w : World) (r : Value) (hj : JForm j r) : Calls Try.prog 190 #[.agg #[r]] w fun e w' => e = .returned (.bool (JV.IsFloat j)) ∧ w' = w.alloc (.cells #[r] 233) := by
  cases j <;> unfold JForm at hj
  case null => subst hj; go_enter Try.func190, Try.ntmps190; go_wp2_with fail; go_ret; exact ⟨rfl, rfl⟩
  case bool => subst hj; go_enter Try.func190, Try.ntmps190; go_wp2_with fail; go_ret; exact ⟨rfl, rfl⟩
  case int => subst hj; go_enter Try.func190, Try.ntmps190; go_wp2_with fail; go_ret; exact ⟨rfl, rfl⟩
  case flt => subst hj; go_enter Try.func190, Try.ntmps190; go_wp2_with fail; go_ret; exact ⟨rfl, rfl⟩
  case str => subst hj; go_enter Try.func190, Try.ntmps190; go_wp2_with fail; go_ret; exact ⟨rfl, rfl⟩
  case list => obtain ⟨a, c, rfl⟩ := hj; go_enter Try.func190, Try.ntmps190; go_wp2_with fail; go_ret; exact ⟨rfl, rfl⟩
  case map => obtain ⟨b, rfl⟩ := hj; go_enter Try.func190, Try.ntmps190; go_wp2_with fail; go_ret; exact ⟨rfl, rfl⟩
set_option maxRecDepth 100000 in
theorem IsString_any (j : JV) (w : World) (r : Value) (hj : JForm j r) : Calls Try.prog 195 #[.agg #[r]] w fun e w' => e = .returned (.bool (JV.IsString j)) ∧ w' = w.alloc (.cells #[r] 233) := by
  cases j <;> unfold JForm at hj
  case null => subst hj; go_enter Try.func195, Try.ntmps195; go_wp2_with fail; go_ret; exact ⟨rfl, rfl⟩
  case bool => subst hj; go_enter Try.func195, Try.ntmps195; go_wp2_with fail; go_ret; exact ⟨rfl, rfl⟩
  case int => subst hj; go_enter Try.func195, Try.ntmps195; go_wp2_with fail; go_ret; exact ⟨rfl, rfl⟩
  case flt => subst hj; go_enter Try.func195, Try.ntmps195; go_wp2_with fail; go_ret; exact ⟨rfl, rfl⟩
  case str => subst hj; go_enter Try.func195, Try.ntmps195; go_wp2_with fail; go_ret; exact ⟨rfl, rfl⟩
  case list => obtain ⟨a, c, rfl⟩ := hj; go_enter Try.func195, Try.ntmps195; go_wp2_with fail; go_ret; exact ⟨rfl, rfl⟩
  case map => obtain ⟨b, rfl⟩ := hj; go_enter Try.func195, Try.ntmps195; go_wp2_with fail; go_ret; exact ⟨rfl, rfl⟩
set_option maxRecDepth 100000 in
theorem IsNull_any (j : JV) (w : World) (r : Value) (hj : JForm j r) : Calls Try.prog 194 #[.agg #[r]] w fun e w' => e = .returned (.bool (JV.IsNull j)) ∧ w' = w.alloc (.cells #[r] 233) := by
  cases j <;> unfold JForm at hj
  case null => subst hj; go_enter Try.func194, Try.ntmps194; go_wp2_with fail; go_ret; exact ⟨rfl, rfl⟩
  case bool => subst hj; go_enter Try.func194, Try.ntmps194; go_wp2_with fail; go_ret; exact ⟨rfl, rfl⟩
  case int => subst hj; go_enter Try.func194, Try.ntmps194; go_wp2_with fail; go_ret; exact ⟨rfl, rfl⟩
  case flt => subst hj; go_enter Try.func194, Try.ntmps194; go_wp2_with fail; go_ret; exact ⟨rfl, rfl⟩
  case str => subst hj; go_enter Try.func194, Try.ntmps194; go_wp2_with fail; go_ret; exact ⟨rfl, rfl⟩
  case list => obtain ⟨a, c, rfl⟩ := hj; go_enter Try.func194, Try.ntmps194; go_wp2_with fail; go_ret; exact ⟨rfl, rfl⟩
  case map => obtain ⟨b, rfl⟩ := hj; go_enter Try.func194, Try.ntmps194; go_wp2_with fail; go_ret; exact ⟨rfl, rfl⟩

theorem IsMap_val (j : JV) (w : World) (r : Value) (hj : JForm j r) (b : Nat) (hb : b < w.heap.size) (hc : w.cell? ⟨b, 0, none⟩ = some r) : Calls Try.prog 193 #[.agg #[r]] w fun e w' =>
    e = .returned (.bool (JV.IsMap j)) ∧ Below w.heap.size w w' ∧ w'.cell? ⟨b, 0, none⟩ = some r := by
  refine (IsMap_any j w r hj).mono ?_
  rintro e w' ⟨rfl, rfl⟩
  exact ⟨rfl, (Below.refl _ _).alloc (Nat.le_refl _) _, (World.cell?_alloc_lt w _ ⟨b, 0, none⟩ hb).trans hc⟩
theorem IsList_val (j : JV) (w : World) (r : Value) (hj : JForm j r) (b : Nat) (hb : b < w.heap.size) (hc : w.cell? ⟨b, 0, none⟩ = some r) : Calls Try.prog 192 #[.agg #[r]] w fun e w' =>
    e = .returned (.bool (JV.IsList j)) ∧ Below w.heap.size w w' ∧ w'.cell? ⟨b, 0, none⟩ = some r := by
  refine (IsList_any j w r hj).mono ?_
  rintro e w' ⟨rfl, rfl⟩
  exact ⟨rfl, (Below.refl _ _).alloc (Nat.le_refl _) _, (World.cell?_alloc_lt w _ ⟨b, 0, none⟩ hb).trans hc⟩
theorem IsBool_val (j : JV) (w : World) (r : Value) (hj : JForm j r) (b : Nat) (hb : b < w.heap.size) (hc : w.cell? ⟨b, 0, none⟩ = some r) : Calls Try.prog 189 #[.agg #[r]] w fun e w' =>
    e = .returned (.bool (JV.IsBool j)) ∧ Below w.heap.size w w' ∧ w'.cell? ⟨b, 0, none⟩ = some r := by
  refine (IsBool_any j w r hj).mono ?_
  rintro e w' ⟨rfl, rfl⟩
  exact ⟨rfl, (Below.refl _ _).alloc (Nat.le_refl _) _, (World.cell?_alloc_lt w _ ⟨b, 0, none⟩ hb).trans hc⟩
theorem IsInt_val (j : JV) (w : World) (r : Value) (hj : JForm j r) (b : Nat) (hb : b < w.heap.size) (hc : w.cell? ⟨b, 0, none⟩ = some r) : Calls Try.prog 191 #[.agg #[r]] w fun e w' =>
    e = .returned (.bool (JV.IsInt j)) ∧ Below w.heap.size w w' ∧ w'.cell? ⟨b, 0, none⟩ = some r := by
  refine (IsInt_any j w r hj).mono ?_
  rintro e w' ⟨rfl, rfl⟩
  exact ⟨rfl, (Below.refl _ _).alloc (Nat.le_refl _) _, (World.cell?_alloc_lt w _ ⟨b, 0, none⟩ hb).trans hc⟩
theorem IsFloat_val (j : JV) (w : World) (r : Value) (hj : JForm j r) (b : Nat) (hb : b < w.heap.size) (hc : w.cell? ⟨b, 0, none⟩ = some r) : Calls Try.prog 190 #[.agg #[r]] w fun e w' =>
    e = .returned (.bool (JV.IsFloat j)) ∧ Below w.heap.size w w' ∧ w'.cell? ⟨b, 0, none⟩ = some r := by
  refine (IsFloat_any j w r hj).mono ?_
  rintro e w' ⟨rfl, rfl⟩
  exact ⟨rfl, (Below.refl _ _).alloc (Nat.le_refl _) _, (World.cell?_alloc_lt w _ ⟨b, 0, none⟩ hb).trans hc⟩
theorem IsString_val (j : JV) (w : World) (r : Value) (hj : JForm j r) (b : Nat) (hb : b < w.heap.size) (hc : w.cell? ⟨b, 0, none⟩ = some r) : Calls Try.prog 195 #[.agg #[r]] w fun e w' =>
    e = .returned (.bool (JV.IsString j)) ∧ Below w.heap.size w w' ∧ w'.cell? ⟨b, 0, none⟩ = some r := by
  refine (IsString_any j w r hj).mono ?_
  rintro e w' ⟨rfl, rfl⟩
  exact ⟨rfl, (Below.refl _ _).alloc (Nat.le_refl _) _, (World.cell?_alloc_lt w _ ⟨b, 0, none⟩ hb).trans hc⟩
theorem IsNull_val (j : JV) (w : World) (r : Value) (hj : JForm j r) (b : Nat) (hb : b < w.heap.size) (hc : w.cell? ⟨b, 0, none⟩ = some r) : Calls Try.prog 194 #[.agg #[r]] w fun e w' =>
    e = .returned (.bool (JV.IsNull j)) ∧ Below w.heap.size w w' ∧ w'.cell? ⟨b, 0, none⟩ = some r := by
  refine (IsNull_any j w r hj).mono ?_
  rintro e w' ⟨rfl, rfl⟩
  exact ⟨rfl, (Below.refl _ _).alloc (Nat.le_refl _) _, (World.cell?_alloc_lt w _ ⟨b, 0, none⟩ hb).trans hc⟩
end Go.Proofs.Ytlghpcokbppkfaa
