/- Laws for the walk that the library lacks. -/
import Derived.Test.YtlghpcokbppkfaaMaps
namespace Go.Proofs.Ytlghpcokbppkfaa
open Go.RowKit

section
variable {P : Program} {w : World} {ops : Array Oper} {rest : List Oper} {o : Oper} {a : Act} {Q : Exit → Act → World → Prop}

/-- A slice literal of one element of one cell. -/
theorem wpList_buildSlice_one (hg : o.guard = none) (x : Operand) (t e : TypeId) (hop : o.op = Op.buildSlice t 1 #[(0, x)]) (ht : P.underlying t = some (.slice e)) (i : TypeInfo) (hi : P.info? e = some i)
    (z : Value) (hz : i.zero = some z) (hs : i.size = 1) (v : Value) (hx : a.eval x = v) (hcl : v.cells = #[v]) (hzc : z.cells = #[z])
    (hK : wpList P ops Q rest (a.put o.dst (.slice (some ⟨w.heap.size, 0, none⟩) 1 1)) (w.alloc (.cells #[v] e))) : wpList P ops Q (o :: rest) a w := by
  refine wpList_plain hg fun K hK' => ?_
  unfold Oper.wp
  have h0 : (zeroValue e).run P w = .ok z w := by simp [zeroValue, typeInfo, hi, hz]
  simp [execOp, hop, hx, Instr.buildSlice, run_underlying ht, sizeOf, typeInfo, hi, hs, Result.andThen, h0, hzc, Instr.fill, hcl, newRow, newObj, Array.range]
  refine hK' _ _ (Eq.mpr (congrArg (fun c => wpList P ops Q rest (a.put o.dst (.slice (some ⟨w.heap.size, 0, none⟩) 1 1)) (w.alloc (.cells c e))) (Array.ext ?_ ?_)) hK)
  · simp [hs]
  · intro i h1 h2
    have h3 : i = 0 := by simp at h2; exact h2
    subst h3
    simp

/-- A store of a value of one cell, whatever it is. -/
theorem wpList_store_one (hg : o.guard = none) (t : TypeId) (x v : Operand) (hop : o.op = Op.store t x v) (p : Addr) (hx : a.eval x = .pointer (some p)) (u : Value) (hv : a.eval v = u)
    (i : TypeInfo) (hi : P.info? t = some i) (hs : i.size = 1) (hu : u.oneCell' = true) (hc : u.cells = #[u]) (old : Value) (hcell : w.cell? p = some old) (hf : w.frozen? p = false)
    (hK : wpList P ops Q rest (a.put o.dst undef) (w.setCell p u)) : wpList P ops Q (o :: rest) a w := by
  refine wpList_plain hg fun K hK' => ?_
  unfold Oper.wp
  have hadd : p.add 0 = p := by unfold Addr.add; simp
  have hsure : (Instr.sureAddr (.pointer (some p))).run P w = .ok p w := by simp [go_sem]
  have hst : (storeVar t p u).run P w = .ok () (w.setCell p u) := by
    simp [storeVar, sizeOf, typeInfo, hi, hs, hc, storeCells, hadd, run_store P w p u .plain hu, hcell, hf, Result.andThen]
  simp [execOp, hop, hx, hv, Instr.storeAt, hsure, hst, Result.andThen]
  exact hK' _ _ hK

end

/-- The value method of a pointer's element, called through an interface: the pointee is loaded. -/
theorem run_method_val {P : Program} {t e n b : Nat} (hn : 0 < n) {name : String} {f : FuncId} {w : World} {r : Value} {i : TypeInfo} {m : Method} (hi : P.info? t = some i) (hf : i.methods.find? (·.name == name) = some m) (hp : m.path = #[])
    (hfn : m.func = some (f, false)) (ht : P.underlying t = some (.pointer e)) (hagg : (isAgg e).run P w = .ok true w) (hsz : (sizeOf e).run P w = .ok 1 w) (hc : w.cell? ⟨b, 0, none⟩ = some r) :
    (method n t (.pointer (some ⟨b, 0, none⟩)) name).run P w = .ok (f, .agg #[r]) w := by
  obtain ⟨n, rfl⟩ : ∃ k, n = k + 1 := ⟨n - 1, by omega⟩
  have hl : (loadVar e ⟨b, 0, none⟩).run P w = .ok (.agg #[r]) w := by
    simp [loadVar, hagg, hsz, loadCells, loadCellsFrom, Result.andThen, hc, go_sem]
  have hwrap : ∀ nm : String, (Builtin.ssaWrapNilChk_ #[t] t #[.pointer (some ⟨b, 0, none⟩), strVal "", strVal nm]).run P w = .ok (.pointer (some ⟨b, 0, none⟩)) w := fun _ => rfl
  simp [method, typeInfo, hi, hf, hp, hfn, follow, receiverAt, run_underlying ht, Place.get, hwrap, Result.andThen, asAddr, hl]

/-- Not the description of an interface type. -/
def notIface : TypeDesc → Bool | .interface _ => false | _ => true

section
variable {P : Program} {w : World} {T xT u : TypeId} {v z : Value} {d : TypeDesc}
theorem run_ta_same (h : P.underlying T = some d) (hn : notIface d = true) : (Instr.typeAssert (.iface T v) xT T true).run P w = .ok (.tuple #[v, .bool true]) w := by
  cases d <;> simp_all [notIface, Instr.typeAssert, run_underlying h, Result.andThen]
theorem run_ta_same' (h : P.underlying T = some d) (hn : notIface d = true) : (Instr.typeAssert (.iface T v) xT T false).run P w = .ok v w := by
  cases d <;> simp_all [notIface, Instr.typeAssert, run_underlying h, Result.andThen]
theorem run_ta_other (h : P.underlying T = some d) (hn : notIface d = true) (hz : (zeroValue T).run P w = .ok z w) (hu : u ≠ T) : (Instr.typeAssert (.iface u v) xT T true).run P w = .ok (.tuple #[z, .bool false]) w := by
  cases d <;> simp_all [notIface, Instr.typeAssert, run_underlying h, Result.andThen]
theorem run_ta_nil (h : P.underlying T = some d) (hn : notIface d = true) (hz : (zeroValue T).run P w = .ok z w) : (Instr.typeAssert .nilIface xT T true).run P w = .ok (.tuple #[z, .bool false]) w := by
  cases d <;> simp_all [notIface, Instr.typeAssert, run_underlying h, Result.andThen]
end

@[go_sem] theorem ta_same3 (v : Value) (xT : TypeId) (w : World) : (Instr.typeAssert (.iface 3 v) xT 3 true).run Try.prog w = .ok (.tuple #[v, .bool true]) w := run_ta_same Try.underlying3 rfl
@[go_sem] theorem ta_sames3 (v : Value) (xT : TypeId) (w : World) : (Instr.typeAssert (.iface 3 v) xT 3 false).run Try.prog w = .ok v w := run_ta_same' Try.underlying3 rfl
@[go_sem] theorem ta_other3 (u : TypeId) (v : Value) (xT : TypeId) (w : World) (h : u ≠ 3) : (Instr.typeAssert (.iface u v) xT 3 true).run Try.prog w = .ok (.tuple #[.int .i64 0, .bool false]) w :=
  run_ta_other Try.underlying3 rfl (by kernel_rfl) h
@[go_sem] theorem ta_nil3 (xT : TypeId) (w : World) : (Instr.typeAssert .nilIface xT 3 true).run Try.prog w = .ok (.tuple #[.int .i64 0, .bool false]) w :=
  run_ta_nil Try.underlying3 rfl (by kernel_rfl)
@[go_sem] theorem ta_same282 (v : Value) (xT : TypeId) (w : World) : (Instr.typeAssert (.iface 282 v) xT 282 true).run Try.prog w = .ok (.tuple #[v, .bool true]) w := run_ta_same Try.underlying282 rfl
@[go_sem] theorem ta_sames282 (v : Value) (xT : TypeId) (w : World) : (Instr.typeAssert (.iface 282 v) xT 282 false).run Try.prog w = .ok v w := run_ta_same' Try.underlying282 rfl
@[go_sem] theorem ta_other282 (u : TypeId) (v : Value) (xT : TypeId) (w : World) (h : u ≠ 282) : (Instr.typeAssert (.iface u v) xT 282 true).run Try.prog w = .ok (.tuple #[.int .i8 0, .bool false]) w :=
  run_ta_other Try.underlying282 rfl (by kernel_rfl) h
@[go_sem] theorem ta_nil282 (xT : TypeId) (w : World) : (Instr.typeAssert .nilIface xT 282 true).run Try.prog w = .ok (.tuple #[.int .i8 0, .bool false]) w :=
  run_ta_nil Try.underlying282 rfl (by kernel_rfl)
@[go_sem] theorem ta_same284 (v : Value) (xT : TypeId) (w : World) : (Instr.typeAssert (.iface 284 v) xT 284 true).run Try.prog w = .ok (.tuple #[v, .bool true]) w := run_ta_same Try.underlying284 rfl
@[go_sem] theorem ta_sames284 (v : Value) (xT : TypeId) (w : World) : (Instr.typeAssert (.iface 284 v) xT 284 false).run Try.prog w = .ok v w := run_ta_same' Try.underlying284 rfl
@[go_sem] theorem ta_other284 (u : TypeId) (v : Value) (xT : TypeId) (w : World) (h : u ≠ 284) : (Instr.typeAssert (.iface u v) xT 284 true).run Try.prog w = .ok (.tuple #[.int .i16 0, .bool false]) w :=
  run_ta_other Try.underlying284 rfl (by kernel_rfl) h
@[go_sem] theorem ta_nil284 (xT : TypeId) (w : World) : (Instr.typeAssert .nilIface xT 284 true).run Try.prog w = .ok (.tuple #[.int .i16 0, .bool false]) w :=
  run_ta_nil Try.underlying284 rfl (by kernel_rfl)
@[go_sem] theorem ta_same21 (v : Value) (xT : TypeId) (w : World) : (Instr.typeAssert (.iface 21 v) xT 21 true).run Try.prog w = .ok (.tuple #[v, .bool true]) w := run_ta_same Try.underlying21 rfl
@[go_sem] theorem ta_sames21 (v : Value) (xT : TypeId) (w : World) : (Instr.typeAssert (.iface 21 v) xT 21 false).run Try.prog w = .ok v w := run_ta_same' Try.underlying21 rfl
@[go_sem] theorem ta_other21 (u : TypeId) (v : Value) (xT : TypeId) (w : World) (h : u ≠ 21) : (Instr.typeAssert (.iface u v) xT 21 true).run Try.prog w = .ok (.tuple #[.int .i32 0, .bool false]) w :=
  run_ta_other Try.underlying21 rfl (by kernel_rfl) h
@[go_sem] theorem ta_nil21 (xT : TypeId) (w : World) : (Instr.typeAssert .nilIface xT 21 true).run Try.prog w = .ok (.tuple #[.int .i32 0, .bool false]) w :=
  run_ta_nil Try.underlying21 rfl (by kernel_rfl)
@[go_sem] theorem ta_same2 (v : Value) (xT : TypeId) (w : World) : (Instr.typeAssert (.iface 2 v) xT 2 true).run Try.prog w = .ok (.tuple #[v, .bool true]) w := run_ta_same Try.underlying2 rfl
@[go_sem] theorem ta_sames2 (v : Value) (xT : TypeId) (w : World) : (Instr.typeAssert (.iface 2 v) xT 2 false).run Try.prog w = .ok v w := run_ta_same' Try.underlying2 rfl
@[go_sem] theorem ta_other2 (u : TypeId) (v : Value) (xT : TypeId) (w : World) (h : u ≠ 2) : (Instr.typeAssert (.iface u v) xT 2 true).run Try.prog w = .ok (.tuple #[.int .i64 0, .bool false]) w :=
  run_ta_other Try.underlying2 rfl (by kernel_rfl) h
@[go_sem] theorem ta_nil2 (xT : TypeId) (w : World) : (Instr.typeAssert .nilIface xT 2 true).run Try.prog w = .ok (.tuple #[.int .i64 0, .bool false]) w :=
  run_ta_nil Try.underlying2 rfl (by kernel_rfl)
@[go_sem] theorem ta_same287 (v : Value) (xT : TypeId) (w : World) : (Instr.typeAssert (.iface 287 v) xT 287 true).run Try.prog w = .ok (.tuple #[v, .bool true]) w := run_ta_same Try.underlying287 rfl
@[go_sem] theorem ta_sames287 (v : Value) (xT : TypeId) (w : World) : (Instr.typeAssert (.iface 287 v) xT 287 false).run Try.prog w = .ok v w := run_ta_same' Try.underlying287 rfl
@[go_sem] theorem ta_other287 (u : TypeId) (v : Value) (xT : TypeId) (w : World) (h : u ≠ 287) : (Instr.typeAssert (.iface u v) xT 287 true).run Try.prog w = .ok (.tuple #[.int .u64 0, .bool false]) w :=
  run_ta_other Try.underlying287 rfl (by kernel_rfl) h
@[go_sem] theorem ta_nil287 (xT : TypeId) (w : World) : (Instr.typeAssert .nilIface xT 287 true).run Try.prog w = .ok (.tuple #[.int .u64 0, .bool false]) w :=
  run_ta_nil Try.underlying287 rfl (by kernel_rfl)
@[go_sem] theorem ta_same5 (v : Value) (xT : TypeId) (w : World) : (Instr.typeAssert (.iface 5 v) xT 5 true).run Try.prog w = .ok (.tuple #[v, .bool true]) w := run_ta_same Try.underlying5 rfl
@[go_sem] theorem ta_sames5 (v : Value) (xT : TypeId) (w : World) : (Instr.typeAssert (.iface 5 v) xT 5 false).run Try.prog w = .ok v w := run_ta_same' Try.underlying5 rfl
@[go_sem] theorem ta_other5 (u : TypeId) (v : Value) (xT : TypeId) (w : World) (h : u ≠ 5) : (Instr.typeAssert (.iface u v) xT 5 true).run Try.prog w = .ok (.tuple #[.int .u8 0, .bool false]) w :=
  run_ta_other Try.underlying5 rfl (by kernel_rfl) h
@[go_sem] theorem ta_nil5 (xT : TypeId) (w : World) : (Instr.typeAssert .nilIface xT 5 true).run Try.prog w = .ok (.tuple #[.int .u8 0, .bool false]) w :=
  run_ta_nil Try.underlying5 rfl (by kernel_rfl)
@[go_sem] theorem ta_same290 (v : Value) (xT : TypeId) (w : World) : (Instr.typeAssert (.iface 290 v) xT 290 true).run Try.prog w = .ok (.tuple #[v, .bool true]) w := run_ta_same Try.underlying290 rfl
@[go_sem] theorem ta_sames290 (v : Value) (xT : TypeId) (w : World) : (Instr.typeAssert (.iface 290 v) xT 290 false).run Try.prog w = .ok v w := run_ta_same' Try.underlying290 rfl
@[go_sem] theorem ta_other290 (u : TypeId) (v : Value) (xT : TypeId) (w : World) (h : u ≠ 290) : (Instr.typeAssert (.iface u v) xT 290 true).run Try.prog w = .ok (.tuple #[.int .u16 0, .bool false]) w :=
  run_ta_other Try.underlying290 rfl (by kernel_rfl) h
@[go_sem] theorem ta_nil290 (xT : TypeId) (w : World) : (Instr.typeAssert .nilIface xT 290 true).run Try.prog w = .ok (.tuple #[.int .u16 0, .bool false]) w :=
  run_ta_nil Try.underlying290 rfl (by kernel_rfl)
@[go_sem] theorem ta_same255 (v : Value) (xT : TypeId) (w : World) : (Instr.typeAssert (.iface 255 v) xT 255 true).run Try.prog w = .ok (.tuple #[v, .bool true]) w := run_ta_same Try.underlying255 rfl
@[go_sem] theorem ta_sames255 (v : Value) (xT : TypeId) (w : World) : (Instr.typeAssert (.iface 255 v) xT 255 false).run Try.prog w = .ok v w := run_ta_same' Try.underlying255 rfl
@[go_sem] theorem ta_other255 (u : TypeId) (v : Value) (xT : TypeId) (w : World) (h : u ≠ 255) : (Instr.typeAssert (.iface u v) xT 255 true).run Try.prog w = .ok (.tuple #[.int .u32 0, .bool false]) w :=
  run_ta_other Try.underlying255 rfl (by kernel_rfl) h
@[go_sem] theorem ta_nil255 (xT : TypeId) (w : World) : (Instr.typeAssert .nilIface xT 255 true).run Try.prog w = .ok (.tuple #[.int .u32 0, .bool false]) w :=
  run_ta_nil Try.underlying255 rfl (by kernel_rfl)
@[go_sem] theorem ta_same22 (v : Value) (xT : TypeId) (w : World) : (Instr.typeAssert (.iface 22 v) xT 22 true).run Try.prog w = .ok (.tuple #[v, .bool true]) w := run_ta_same Try.underlying22 rfl
@[go_sem] theorem ta_sames22 (v : Value) (xT : TypeId) (w : World) : (Instr.typeAssert (.iface 22 v) xT 22 false).run Try.prog w = .ok v w := run_ta_same' Try.underlying22 rfl
@[go_sem] theorem ta_other22 (u : TypeId) (v : Value) (xT : TypeId) (w : World) (h : u ≠ 22) : (Instr.typeAssert (.iface u v) xT 22 true).run Try.prog w = .ok (.tuple #[.float .f64 0, .bool false]) w :=
  run_ta_other Try.underlying22 rfl (by kernel_rfl) h
@[go_sem] theorem ta_nil22 (xT : TypeId) (w : World) : (Instr.typeAssert .nilIface xT 22 true).run Try.prog w = .ok (.tuple #[.float .f64 0, .bool false]) w :=
  run_ta_nil Try.underlying22 rfl (by kernel_rfl)
@[go_sem] theorem ta_same280 (v : Value) (xT : TypeId) (w : World) : (Instr.typeAssert (.iface 280 v) xT 280 true).run Try.prog w = .ok (.tuple #[v, .bool true]) w := run_ta_same Try.underlying280 rfl
@[go_sem] theorem ta_sames280 (v : Value) (xT : TypeId) (w : World) : (Instr.typeAssert (.iface 280 v) xT 280 false).run Try.prog w = .ok v w := run_ta_same' Try.underlying280 rfl
@[go_sem] theorem ta_other280 (u : TypeId) (v : Value) (xT : TypeId) (w : World) (h : u ≠ 280) : (Instr.typeAssert (.iface u v) xT 280 true).run Try.prog w = .ok (.tuple #[.float .f32 0, .bool false]) w :=
  run_ta_other Try.underlying280 rfl (by kernel_rfl) h
@[go_sem] theorem ta_nil280 (xT : TypeId) (w : World) : (Instr.typeAssert .nilIface xT 280 true).run Try.prog w = .ok (.tuple #[.float .f32 0, .bool false]) w :=
  run_ta_nil Try.underlying280 rfl (by kernel_rfl)
@[go_sem] theorem ta_same9 (v : Value) (xT : TypeId) (w : World) : (Instr.typeAssert (.iface 9 v) xT 9 true).run Try.prog w = .ok (.tuple #[v, .bool true]) w := run_ta_same Try.underlying9 rfl
@[go_sem] theorem ta_sames9 (v : Value) (xT : TypeId) (w : World) : (Instr.typeAssert (.iface 9 v) xT 9 false).run Try.prog w = .ok v w := run_ta_same' Try.underlying9 rfl
@[go_sem] theorem ta_other9 (u : TypeId) (v : Value) (xT : TypeId) (w : World) (h : u ≠ 9) : (Instr.typeAssert (.iface u v) xT 9 true).run Try.prog w = .ok (.tuple #[.string ⟨#[]⟩, .bool false]) w :=
  run_ta_other Try.underlying9 rfl (by kernel_rfl) h
@[go_sem] theorem ta_nil9 (xT : TypeId) (w : World) : (Instr.typeAssert .nilIface xT 9 true).run Try.prog w = .ok (.tuple #[.string ⟨#[]⟩, .bool false]) w :=
  run_ta_nil Try.underlying9 rfl (by kernel_rfl)
@[go_sem] theorem ta_same4 (v : Value) (xT : TypeId) (w : World) : (Instr.typeAssert (.iface 4 v) xT 4 true).run Try.prog w = .ok (.tuple #[v, .bool true]) w := run_ta_same Try.underlying4 rfl
@[go_sem] theorem ta_sames4 (v : Value) (xT : TypeId) (w : World) : (Instr.typeAssert (.iface 4 v) xT 4 false).run Try.prog w = .ok v w := run_ta_same' Try.underlying4 rfl
@[go_sem] theorem ta_other4 (u : TypeId) (v : Value) (xT : TypeId) (w : World) (h : u ≠ 4) : (Instr.typeAssert (.iface u v) xT 4 true).run Try.prog w = .ok (.tuple #[.bool false, .bool false]) w :=
  run_ta_other Try.underlying4 rfl (by kernel_rfl) h
@[go_sem] theorem ta_nil4 (xT : TypeId) (w : World) : (Instr.typeAssert .nilIface xT 4 true).run Try.prog w = .ok (.tuple #[.bool false, .bool false]) w :=
  run_ta_nil Try.underlying4 rfl (by kernel_rfl)
@[go_sem] theorem ta_same106 (v : Value) (xT : TypeId) (w : World) : (Instr.typeAssert (.iface 106 v) xT 106 true).run Try.prog w = .ok (.tuple #[v, .bool true]) w := run_ta_same Try.underlying106 rfl
@[go_sem] theorem ta_sames106 (v : Value) (xT : TypeId) (w : World) : (Instr.typeAssert (.iface 106 v) xT 106 false).run Try.prog w = .ok v w := run_ta_same' Try.underlying106 rfl
@[go_sem] theorem ta_other106 (u : TypeId) (v : Value) (xT : TypeId) (w : World) (h : u ≠ 106) : (Instr.typeAssert (.iface u v) xT 106 true).run Try.prog w = .ok (.tuple #[.slice none 0 0, .bool false]) w :=
  run_ta_other Try.underlying106 rfl (by kernel_rfl) h
@[go_sem] theorem ta_nil106 (xT : TypeId) (w : World) : (Instr.typeAssert .nilIface xT 106 true).run Try.prog w = .ok (.tuple #[.slice none 0 0, .bool false]) w :=
  run_ta_nil Try.underlying106 rfl (by kernel_rfl)
@[go_sem] theorem ta_same164 (v : Value) (xT : TypeId) (w : World) : (Instr.typeAssert (.iface 164 v) xT 164 true).run Try.prog w = .ok (.tuple #[v, .bool true]) w := run_ta_same Try.underlying164 rfl
@[go_sem] theorem ta_sames164 (v : Value) (xT : TypeId) (w : World) : (Instr.typeAssert (.iface 164 v) xT 164 false).run Try.prog w = .ok v w := run_ta_same' Try.underlying164 rfl
@[go_sem] theorem ta_other164 (u : TypeId) (v : Value) (xT : TypeId) (w : World) (h : u ≠ 164) : (Instr.typeAssert (.iface u v) xT 164 true).run Try.prog w = .ok (.tuple #[.map none, .bool false]) w :=
  run_ta_other Try.underlying164 rfl (by kernel_rfl) h
@[go_sem] theorem ta_nil164 (xT : TypeId) (w : World) : (Instr.typeAssert .nilIface xT 164 true).run Try.prog w = .ok (.tuple #[.map none, .bool false]) w :=
  run_ta_nil Try.underlying164 rfl (by kernel_rfl)

end Go.Proofs.Ytlghpcokbppkfaa
