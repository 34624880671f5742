/- Part 2 of what the proof rests on. -/
import Derived.Orders
import Derived.Laws.Small
import Derived.Laws.Strings
import Derived.Test.YtbbacpdbbmjblaaFiE1
section
namespace Go.Proofs.Ytbbacpdbbmjblaa
open Go.RowKit
set_option linter.unusedSimpArgs false
section
variable {P : Program} {X : Base} {N : Nat} {Q : Exit → Act → World → Prop} {s s' : Sta} {ks : List Itm} {ops : Array Oper} {rem : List Nat}
/-- An operation of this form is next. -/
structure RunK (P : Program) (X : Base) (N : Nat) (Q : Exit → Act → World → Prop) (ops : Array Oper) (rem : List Nat) (ks : List Itm) (d : Option Tmp) (op : Op) (s : Sta) : Prop where
  out : ∀ ty pos aft, RunO P X N Q ops rem ks ⟨d, op, ty, pos, aft, none⟩ s
theorem k_pick {i : Nat} {d : Option Tmp} {op : Op} {ty : TypeId} {pos : String} {aft : Array Edge} (ho : ops[i]? = some ⟨d, op, ty, pos, aft, none⟩) (h : RunK P X N Q ops rem ks d op s) : Run P X N Q (.ops ops (i :: rem) :: ks) s := run_pick ho (h.out _ _ _)
theorem k_of {d : Nat} {op : Op} {r : AV} (hN : Nat.blt d N = true) (hs : ∀ ty pos aft, dstOk X.N (some d) = true → OpS P X ⟨some d, op, ty, pos, aft, none⟩ s (s.put (some d) r)) (h : Run P X N Q (.ops ops rem :: ks) (s.put (some d) r)) : RunK P X N Q ops rem ks (some d) op s :=
  ⟨fun ty pos aft => ⟨fun hX => (ro (hs ty pos aft (by rw [hX.1]; simpa [dstOk, Nat.blt_eq] using hN)) h).out hX⟩⟩
theorem k_new {d : Nat} {op : Op} {s' : Sta} (hN : Nat.blt d N = true) (hs : ∀ ty pos aft, d < X.N → OpS P X ⟨some d, op, ty, pos, aft, none⟩ s s') (h : Run P X N Q (.ops ops rem :: ks) s') : RunK P X N Q ops rem ks (some d) op s :=
  ⟨fun ty pos aft => ⟨fun hX => (ro (hs ty pos aft (by rw [hX.1]; simpa [Nat.blt_eq] using hN)) h).out hX⟩⟩
theorem k_eff {op : Op} {s' : Sta} (hs : ∀ ty pos aft, OpS P X ⟨none, op, ty, pos, aft, none⟩ s s') (h : Run P X N Q (.ops ops rem :: ks) s') : RunK P X N Q ops rem ks none op s :=
  ⟨fun ty pos aft => ⟨fun hX => (ro (hs ty pos aft) h).out hX⟩⟩
theorem hN_ok {d : Nat} (hN : Nat.blt d N = true) (hX : X.at P N) : dstOk X.N (some d) = true := by rw [hX.1]; simpa [dstOk, Nat.blt_eq] using hN
theorem k_guardY {i : Nat} {d : Option Tmp} {op : Op} {ty : TypeId} {pos : String} {aft : Array Edge} {g : Nat} {want b : Bool} (ho : ops[i]? = some ⟨d, op, ty, pos, aft, some (g, want)⟩) (hb : guardA ops s g = .dat (.val (.bool b))) (hw : b = want)
    (ht : RunK P X N Q ops rem ks d op s) : Run P X N Q (.ops ops (i :: rem) :: ks) s := run_pickGY ho hb hw (ht.out _ _ _)
theorem k_guardN {i : Nat} {d : Tmp} {op : Op} {ty : TypeId} {pos : String} {aft : Array Edge} {g : Nat} {want b : Bool} (ho : ops[i]? = some ⟨some d, op, ty, pos, aft, some (g, want)⟩) (hb : guardA ops s g = .dat (.val (.bool b))) (hw : b = !want)
    (hN : Nat.blt d N = true) (hf : Run P X N Q (.ops ops rem :: ks) (s.put (some d) (.dat (.tup [])))) : Run P X N Q (.ops ops (i :: rem) :: ks) s := ⟨fun hX => (run_pickGN ho hb hw (hN_ok hN hX) hf).out hX⟩
theorem k_guardNT {i : Nat} {d : Tmp} {op : Op} {ty : TypeId} {pos : String} {aft : Array Edge} {g : Nat} {b : Bool} (ho : ops[i]? = some ⟨some d, op, ty, pos, aft, some (g, true)⟩) (hb : guardA ops s g = .dat (.val (.bool b))) (hw : b = false)
    (hN : Nat.blt d N = true) (hf : Run P X N Q (.ops ops rem :: ks) (s.put (some d) (.dat (.tup [])))) : Run P X N Q (.ops ops (i :: rem) :: ks) s := k_guardN ho hb hw hN hf
theorem k_guardNF {i : Nat} {d : Tmp} {op : Op} {ty : TypeId} {pos : String} {aft : Array Edge} {g : Nat} {b : Bool} (ho : ops[i]? = some ⟨some d, op, ty, pos, aft, some (g, false)⟩) (hb : guardA ops s g = .dat (.val (.bool b))) (hw : b = true)
    (hN : Nat.blt d N = true) (hf : Run P X N Q (.ops ops rem :: ks) (s.put (some d) (.dat (.tup [])))) : Run P X N Q (.ops ops (i :: rem) :: ks) s := k_guardN ho hb hw hN hf
theorem k_moveD {d : Nat} {x : Operand} {v : PD} (hN : Nat.blt d N = true) (hx : s.ev x = .dat v) (h : Run P X N Q (.ops ops rem :: ks) (s.put (some d) (.dat v))) : RunK P X N Q ops rem ks (some d) (.move x) s := k_of hN (fun _ _ _ hd => op_moveD hd rfl hx) h
theorem k_moveP {d : Nat} {x : Operand} {k off : Nat} (hN : Nat.blt d N = true) (hx : s.ev x = .ptr k off) (h : Run P X N Q (.ops ops rem :: ks) (s.put (some d) (.ptr k off))) : RunK P X N Q ops rem ks (some d) (.move x) s := k_of hN (fun _ _ _ hd => op_moveP hd rfl hx) h
theorem k_assignD {d : Nat} {x : Operand} {v : PD} (hN : Nat.blt d N = true) (hx : s.ev x = .dat v) (h : Run P X N Q (.ops ops rem :: ks) (s.put (some d) (.dat v))) : RunK P X N Q ops rem ks (some d) (.assign x) s := k_of hN (fun _ _ _ hd => op_assignD hd rfl hx) h
theorem k_assignP {d : Nat} {x : Operand} {k off : Nat} (hN : Nat.blt d N = true) (hx : s.ev x = .ptr k off) (h : Run P X N Q (.ops ops rem :: ks) (s.put (some d) (.ptr k off))) : RunK P X N Q ops rem ks (some d) (.assign x) s := k_of hN (fun _ _ _ hd => op_assignP hd rfl hx) h
theorem k_assignO {d : Nat} {x : Operand} {k : Nat} (hN : Nat.blt d N = true) (hx : s.ev x = .own k) (h : Run P X N Q (.ops ops rem :: ks) (s.put (some d) (.own k))) : RunK P X N Q ops rem ks (some d) (.assign x) s := k_of hN (fun _ _ _ hd => op_assignO hd rfl hx) h
theorem k_fieldAddrB {d : Nat} {x : Operand} {t f k off fo n : Nat} {g : Bool} (hN : Nat.blt d N = true) (hx : s.ev x = .ptr k off) [ht : FI P t f fo n g] (hn : Nat.blt 0 n = true) (h : Run P X N Q (.ops ops rem :: ks) (s.put (some d) (.ptr k (off + fo)))) : RunK P X N Q ops rem ks (some d) (.fieldAddr t x f) s := k_of hN (fun _ _ _ hd => op_fieldAddrB hd rfl hx ht.out (by simpa [Nat.blt_eq] using hn)) h
theorem k_loadBD {d : Nat} {x : Operand} {t k off T n : Nat} {cs : List AV} {g : Bool} {v : PD} (hN : Nat.blt d N = true) (hx : s.ev x = .ptr k off) (hk : s.tb k = some (.box T cs)) [ht : VI P t n g] (hf : subA g n off cs = some (.dat v)) (h : Run P X N Q (.ops ops rem :: ks) (s.put (some d) (.dat v))) : RunK P X N Q ops rem ks (some d) (.load t x) s := k_of hN (fun _ _ _ hd => op_loadBD hd rfl hx hk ht.out hf) h
theorem k_loadBO {d : Nat} {x : Operand} {t k off T n : Nat} {cs : List AV} {g : Bool} {k' : Nat} (hN : Nat.blt d N = true) (hx : s.ev x = .ptr k off) (hk : s.tb k = some (.box T cs)) [ht : VI P t n g] (hf : subA g n off cs = some (.own k')) (h : Run P X N Q (.ops ops rem :: ks) (s.put (some d) (.own k'))) : RunK P X N Q ops rem ks (some d) (.load t x) s := k_of hN (fun _ _ _ hd => op_loadBO hd rfl hx hk ht.out hf) h
theorem k_loadW {d : Nat} {x : Operand} {t k T n : Nat} {g : Bool} {v : PD} (hN : Nat.blt d N = true) (hx : s.ev x = .ptr k 0) (hk : s.tb k = some (.box T (cellsD v))) [ht : VI P t n g] (hf : fitsD g n v = true) (h : Run P X N Q (.ops ops rem :: ks) (s.put (some d) (.dat v))) : RunK P X N Q ops rem ks (some d) (.load t x) s := k_of hN (fun _ _ _ hd => op_loadW hd rfl hx hk ht.out hf) h
theorem k_loadD {d : Nat} {x : Operand} {t n : Nat} {g : Bool} {v : PD} (hN : Nat.blt d N = true) (hx : s.ev x = .dat (.ptr v)) [ht : VI P t n g] (hf : fitsD g n v = true) (h : Run P X N Q (.ops ops rem :: ks) (s.put (some d) (.dat v))) : RunK P X N Q ops rem ks (some d) (.load t x) s := k_of hN (fun _ _ _ hd => op_loadD hd rfl hx ht.out hf) h
theorem k_bin2B {d : Nat} {x : Operand} {y : Operand} {op : BinOp} {t t' : Nat} {u v : Value} {b : Bool} (hN : Nat.blt d N = true) (hx : s.ev x = .dat (.val u)) (hy : s.ev y = .dat (.val v)) (hr : bin2 op u v = some (.bool b)) (h : Run P X N Q (.ops ops rem :: ks) (s.put (some d) (.dat (.val (.bool b))))) : RunK P X N Q ops rem ks (some d) (.binOp op t x y t') s := k_of hN (fun _ _ _ hd => op_bin2 hd rfl hx hy hr) h
theorem k_cmpNil {d : Nat} {x : Operand} {op : BinOp} {t t' : Nat} {c : Value} {d0 : PD} {i b r : Bool} (hN : Nat.blt d N = true) (hx : s.ev x = .dat d0) (hc : isNilC c = some i) (ht : nilT P t = some i) (hn : NilIs i d0 b) (hr : cmpN op b = some r) (h : Run P X N Q (.ops ops rem :: ks) (s.put (some d) (.dat (.val (.bool r))))) : RunK P X N Q ops rem ks (some d) (.binOp op t x (.const c) t') s := k_of hN (fun _ _ _ hd => op_cmpNil hd rfl hx hc ht hn hr) h
theorem k_ariI {d : Nat} {x : Operand} {y : Operand} {op : BinOp} {t t' : Nat} {a b c : Int} (hN : Nat.blt d N = true) (hx : s.ev x = .dat (.val (.int .i64 a))) (hy : s.ev y = .dat (.val (.int .i64 b))) (hr : ari op a b = some c) (hc : -9223372036854775808 ≤ c ∧ c ≤ 9223372036854775807) (h : Run P X N Q (.ops ops rem :: ks) (s.put (some d) (.dat (.val (.int .i64 c))))) : RunK P X N Q ops rem ks (some d) (.binOp op t x y t') s := k_of hN (fun _ _ _ hd => op_ariI hd rfl hx hy hr hc) h
theorem k_not {d : Nat} {x : Operand} {t : Nat} {b : Bool} (hN : Nat.blt d N = true) (hx : s.ev x = .dat (.val (.bool b))) (h : Run P X N Q (.ops ops rem :: ks) (s.put (some d) (.dat (.val (.bool (!b)))))) : RunK P X N Q ops rem ks (some d) (.unOp .not t x) s := k_of hN (fun _ _ _ hd => op_not hd rfl hx) h
theorem k_pickT {d : Nat} {c x y : Operand} {b : Bool} {v : PD} (hN : Nat.blt d N = true) (hc : s.ev c = .dat (.val (.bool b))) (hb : b = true) (hx : s.ev x = .dat v) (h : Run P X N Q (.ops ops rem :: ks) (s.put (some d) (.dat v))) : RunK P X N Q ops rem ks (some d) (.pick c x y) s := k_of hN (fun _ _ _ hd => op_pickT hd rfl hc hb hx) h
theorem k_pickF {d : Nat} {c x y : Operand} {b : Bool} {v : PD} (hN : Nat.blt d N = true) (hc : s.ev c = .dat (.val (.bool b))) (hb : b = false) (hx : s.ev y = .dat v) (h : Run P X N Q (.ops ops rem :: ks) (s.put (some d) (.dat v))) : RunK P X N Q ops rem ks (some d) (.pick c x y) s := k_of hN (fun _ _ _ hd => op_pickF hd rfl hc hb hx) h
theorem k_indexAddrD {d : Nat} {x ix : Operand} {t n y e y' : Nat} {l : List PD} {k : IntKind} {i : Int} {v : PD} (hN : Nat.blt d N = true) (hx : s.ev x = .dat (.sl n y l)) (hi : s.ev ix = .dat (.val (.int k i))) [ht : SI P t e n y'] (hi0 : 0 ≤ i) (hl : l[i.toNat]? = some v) (h : Run P X N Q (.ops ops rem :: ks) (s.put (some d) (.dat (.ptr v)))) : RunK P X N Q ops rem ks (some d) (.indexAddr t x ix) s := k_of hN (fun _ _ _ hd => op_indexAddrD hd rfl hx hi ht.out hi0 hl) h
theorem k_lenD {d : Nat} {x : Operand} {t e n n' y y' : Nat} {l : List PD} (hN : Nat.blt d N = true) (hx : s.ev x = .dat (.sl n y l)) [ht : SI P t e n' y'] (h : Run P X N Q (.ops ops rem :: ks) (s.put (some d) (.dat (.val (.int .i64 l.length))))) : RunK P X N Q ops rem ks (some d) (.call { callee := .builtin .len, args := #[x], argTypes := #[t] }) s := k_of hN (fun _ _ _ hd => op_lenD hd rfl ht.out hx) h
theorem k_lenO {d : Nat} {x : Operand} {t k e e' n n' y y' : Nat} {l : List PD} (hN : Nat.blt d N = true) (hx : s.ev x = .own k) [ht : SI P t e' n' y'] (hk : s.tb k = some (.row e n y l)) (h : Run P X N Q (.ops ops rem :: ks) (s.put (some d) (.dat (.val (.int .i64 l.length))))) : RunK P X N Q ops rem ks (some d) (.call { callee := .builtin .len, args := #[x], argTypes := #[t] }) s := k_of hN (fun _ _ _ hd => op_lenO hd rfl ht.out hx hk) h
theorem k_extract {d : Nat} {x : Operand} {i : Nat} {l : List PD} {v : PD} (hN : Nat.blt d N = true) (hx : s.ev x = .dat (.tup l)) (hl : l[i]? = some v) (h : Run P X N Q (.ops ops rem :: ks) (s.put (some d) (.dat v))) : RunK P X N Q ops rem ks (some d) (.extract x i) s := k_of hN (fun _ _ _ hd => op_extract hd rfl hx hl) h
theorem k_nilB {d : Nat} {x : Operand} {k off : Nat} (hN : Nat.blt d N = true) (hx : s.ev x = .ptr k off) (h : Run P X N Q (.ops ops rem :: ks) (s.put (some d) (.ptr k off))) : RunK P X N Q ops rem ks (some d) (.nilCheck x) s := k_of hN (fun _ _ _ hd => op_nilCheckB hd rfl hx) h
theorem k_build {d : Nat} {t : Nat} {parts : Array (Nat × Operand)} {zs : List Value} {cs : List AV} {pl : List (Nat × Nat)} {v : PD} (hN : Nat.blt d N = true) [hz : ZI P t zs] [hp : PLI P t pl] (hc : fillA s pl (zs.map fun v => .dat (.val v)) parts.toList = some cs) (hr : mkAgg cs = .dat v) (h : Run P X N Q (.ops ops rem :: ks) (s.put (some d) (.dat v))) : RunK P X N Q ops rem ks (some d) (.build t parts) s := k_of hN (fun _ _ _ hd => op_build hd rfl hz.out hz.ok hp.out hc hr) h
theorem k_buildG {d : Nat} {t : Nat} {parts : Array (Nat × Operand)} {zs : List Value} {cs : List AV} {pl : List (Nat × Nat)} {v : List AV} (hN : Nat.blt d N = true) [hz : ZI P t zs] [hp : PLI P t pl] (hc : fillA s pl (zs.map fun v => .dat (.val v)) parts.toList = some cs) (hr : mkAgg cs = .agg v) (h : Run P X N Q (.ops ops rem :: ks) (s.put (some d) (.agg v))) : RunK P X N Q ops rem ks (some d) (.build t parts) s := k_of hN (fun _ _ _ hd => op_build hd rfl hz.out hz.ok hp.out hc hr) h
theorem k_iface {d : Nat} {x : Operand} {t : Nat} {v : PD} (hN : Nat.blt d N = true) (hx : s.ev x = .dat v) (ht : concT P t = true) (h : Run P X N Q (.ops ops rem :: ks) (s.put (some d) (.dat (.iface t v)))) : RunK P X N Q ops rem ks (some d) (.makeInterface t x) s := k_of hN (fun _ _ _ hd => op_iface hd rfl hx ht) h
theorem k_box {d t : Nat} {x : Operand} {cs : List AV} (hN : Nat.blt d N = true) (hk : s.tb d = none) (hx : cellsA (s.ev x) = some cs) (h : Run P X N Q (.ops ops rem :: ks) (s.new d (.box t cs) (.ptr d 0))) : RunK P X N Q ops rem ks (some d) (.box t x) s := k_new hN (fun _ _ _ hd => op_box rfl hd hk rfl hx) h
theorem k_boxW {d t : Nat} {x : Operand} {v : PD} (hN : Nat.blt d N = true) (hk : s.tb d = none) (hx : s.ev x = .dat v) (hn : notTup v = true) (h : Run P X N Q (.ops ops rem :: ks) (s.new d (.box t (cellsD v)) (.ptr d 0))) : RunK P X N Q ops rem ks (some d) (.box t x) s := k_new hN (fun _ _ _ hd => op_boxW rfl hd hk rfl hx hn) h
theorem k_alloc {d t : Nat} {zs : List Value} (hN : Nat.blt d N = true) (hk : s.tb d = none) [hz : ZI P t zs] (h : Run P X N Q (.ops ops rem :: ks) (s.new d (.box t (zs.map fun v => .dat (.val v))) (.ptr d 0))) : RunK P X N Q ops rem ks (some d) (.alloc t) s := k_new hN (fun _ _ _ hd => op_alloc rfl hd hk rfl hz.out hz.ok) h
theorem k_storeB {t k off T n : Nat} {x y : Operand} {cs ys : List AV} {g : Bool} (hx : s.ev x = .ptr k off) (hk : s.tb k = some (.box T cs)) [ht : VI P t n g] (hy : cellsA (s.ev y) = some ys) (hn : ys.length = n) (hle : Nat.ble (off + n) cs.length = true)
    (h : Run P X N Q (.ops ops rem :: ks) (s.set k (.box T (cs.take off ++ ys ++ cs.drop (off + n))))) : RunK P X N Q ops rem ks none (.store t x y) s := k_eff (fun _ _ _ => op_storeB rfl rfl hx hk ht.out hy hn (Nat.le_of_ble_eq_true hle)) h
theorem k_call {d f : Nat} {xs : List Operand} {ts : Array TypeId} {ds : List PD} {r : PD} (hN : Nat.blt d N = true) (hf : callable P f = true) (hx : allD (xs.map s.ev) = some ds) (hr : PCall P f ds r) (h : Run P X N Q (.ops ops rem :: ks) (s.put (some d) (.dat r))) :
    RunK P X N Q ops rem ks (some d) (.call { callee := .value (.func f), args := xs.toArray, argTypes := ts }) s := k_of hN (fun _ _ _ hd => op_call hd rfl hf hx hr) h
theorem k_makeSlice {d t e n y : Nat} {lo hi : Operand} {k k' : IntKind} {c : Nat} (hN : Nat.blt d N = true) (hk : s.tb d = none) (hlo : s.ev lo = .dat (.val (.int k 0))) (hhi : s.ev hi = .dat (.val (.int k' (c : Int)))) [ht : SI P t e n y] (hz : (zerI P e).isSome = true) (hc : c * y ≤ 140737488351232) (hc' : c ≤ 140737488351232)
    (h : Run P X N Q (.ops ops rem :: ks) (s.new d (.row e n y []) (.own d))) : RunK P X N Q ops rem ks (some d) (.makeSlice t lo hi) s := k_new hN (fun _ _ _ hd => op_makeSlice rfl hd hk rfl hlo hhi ht.out hz hc hc') h
theorem k_buildSlice {d t e n y len : Nat} {parts : Array (Nat × Operand)} {ds : List PD} (hN : Nat.blt d N = true) (hk : s.tb d = none) [ht : SI P t e n y] (hz : zlen P e = some n) (hds : partsD s n 0 parts.toList = some ds) (hlen : ds.length = len) (hn : Nat.blt 0 n = true) (hsm : Nat.ble (len * n) 16777216 = true) (hby : Nat.ble (len * y) 140737488351232 = true)
    (h : Run P X N Q (.ops ops rem :: ks) (s.new d (.row e n y ds) (.own d))) : RunK P X N Q ops rem ks (some d) (.buildSlice t len parts) s := k_new hN (fun _ _ _ hd => op_buildSlice rfl hd hk rfl ht.out hz hds hlen hn hsm hby) h
theorem k_appendOO {d t e n y k k2 : Nat} {x x2 : Operand} {l l2 : List PD} {e2 n2 y2 : Nat} (hN : Nat.blt d N = true) (hd0 : s.tb d = none) (hx : s.ev x = .own k) (hk : s.tb k = some (.row e n y l)) (hx2 : s.ev x2 = .own k2) (hk2 : s.tb k2 = some (.row e2 n2 y2 l2))
    [ht : SI P t e n y] (hz : zlen P e = some n) (hn : Nat.blt 0 n = true) (hn2 : n2 = n) (hb1 : (l.length + l2.length) * y ≤ 140737488351232) (hb2 : l.length + l2.length ≤ 140737488351232)
    (h : Run P X N Q (.ops ops rem :: ks) (s.mv k d (.row e n y (l ++ l2)))) : RunK P X N Q ops rem ks (some d) (.call { callee := .builtin .append, args := #[x, x2], argTypes := #[t, t] }) s :=
  k_new hN (fun _ _ _ hd => op_appendOO rfl hd hd0 rfl hx hk hx2 hk2 ht.out hz hn hn2 hb1 hb2) h
theorem k_appendOD {d t e n y k : Nat} {x x2 : Operand} {l l2 : List PD} {n2 y2 : Nat} (hN : Nat.blt d N = true) (hd0 : s.tb d = none) (hx : s.ev x = .own k) (hk : s.tb k = some (.row e n y l)) (hx2 : s.ev x2 = .dat (.sl n2 y2 l2))
    [ht : SI P t e n y] (hz : zlen P e = some n) (hn : Nat.blt 0 n = true) (hn2 : n2 = n) (hb1 : (l.length + l2.length) * y ≤ 140737488351232) (hb2 : l.length + l2.length ≤ 140737488351232)
    (h : Run P X N Q (.ops ops rem :: ks) (s.mv k d (.row e n y (l ++ l2)))) : RunK P X N Q ops rem ks (some d) (.call { callee := .builtin .append, args := #[x, x2], argTypes := #[t, t] }) s :=
  k_new hN (fun _ _ _ hd => op_appendOD rfl hd hd0 rfl hx hk hx2 ht.out hz hn hn2 hb1 hb2) h
end
end Go.Proofs.Ytbbacpdbbmjblaa
namespace Go.Proofs.Ytbbacpdbbmjblaa
open Go.RowKit
set_option linter.unusedSimpArgs false
set_option linter.unnecessarySimpa false
/-- What an operation does to a state: a key given up, a block, a temporary. -/
structure Eff where
  dead : Option Nat
  blk : Option (Nat × Blk)
  tmp : Option (Nat × AV)
def Eff.wt (e : Eff) (t : Nat) (x : AV) : AV :=
  match e.tmp with
  | some (d, v) => if t = d then v else x
  | none => x
def Eff.wd (e : Eff) (k : Nat) (x : Option Blk) : Option Blk :=
  match e.dead with
  | some k0 => if k = k0 then some .dead else x
  | none => x
def Eff.wk (e : Eff) (k : Nat) (x : Option Blk) : Option Blk :=
  match e.blk with
  | some (d, b) => if k = d then some b else e.wd k x
  | none => e.wd k x
def Eff.app (e : Eff) (s : Sta) : Sta := { tm := fun t => e.wt t (s.tm t), tb := fun k => e.wk k (s.tb k) }
def Eff.put (d : Option Nat) (v : AV) : Eff := { dead := none, blk := none, tmp := d.map fun d => (d, v) }
def Eff.new (d : Nat) (b : Blk) (v : AV) : Eff := { dead := none, blk := some (d, b), tmp := some (d, v) }
def Eff.set (k : Nat) (b : Blk) : Eff := { dead := none, blk := some (k, b), tmp := none }
theorem app_put (d : Option Nat) (v : AV) (s : Sta) : (Eff.put d v).app s = s.put d v := by
  cases d with
  | none => rfl
  | some d => rfl
theorem app_new (d : Nat) (b : Blk) (v : AV) (s : Sta) : (Eff.new d b v).app s = s.new d b v := rfl
theorem app_set (k : Nat) (b : Blk) (s : Sta) : (Eff.set k b).app s = s.set k b := rfl
mutual
def keysA : AV → List Nat
  | .any => []
  | .dat _ => []
  | .ptr k _ => [k]
  | .own k => [k]
  | .agg l => keysAs l
  | .tup l => keysAs l
  | .iface _ x => keysA x
  | .clo _ l => keysAs l
  | .elt k _ _ _ => [k]
def keysAs : List AV → List Nat
  | [] => []
  | x :: r => keysA x ++ keysAs r
end
/-- The temporaries that an operation looks at. -/
def tmpsOf (ops : List Oper) (o : Oper) : List Nat :=
  (o.op.operands.toList.filterMap fun | .tmp t => some t | _ => none) ++
  (match o.guard with | some (g, _) => ((ops[g]?).bind (·.dst)).toList | none => [])
def keysOf (s : Sta) (ts : List Nat) (e : Eff) : List Nat := ts.flatMap (fun t => keysA (s.tm t)) ++ (match e.blk with | some (k, _) => [k] | none => []) ++ e.dead.toList
/-- Two states look alike to an operation. -/
def Alike (ops : List Oper) (o : Oper) (e : Eff) (s s' : Sta) : Prop :=
  (∀ t ∈ tmpsOf ops o, s'.tm t = s.tm t) ∧ ∀ k ∈ keysOf s (tmpsOf ops o) e, s'.tb k = s.tb k
/-- The operation does this in the state s, and in every state that looks alike to it. -/
def ActS (P : Program) (X : Base) (ops : List Oper) (o : Oper) (e : Eff) (s : Sta) : Prop := ∀ s', Alike ops o e s s' → OpS P X o s' (e.app s')
def gA (ops : List Oper) (s : Sta) (g : Nat) : AV :=
  match (ops[g]?).bind (·.dst) with
  | some t => s.tm t
  | none => .any
/-- One operation of a region: its guard is taken and it acts, or it is passed by. -/
inductive Stp (P : Program) (X : Base) (ops : List Oper) (o : Oper) (s : Sta) : Eff → Prop where
  | act (e : Eff) (hg : o.guard = none) (h : ActS P X ops o e s) : Stp P X ops o s e
  | actG (e : Eff) (g : Nat) (want b : Bool) (hg : o.guard = some (g, want)) (hb : gA ops s g = .dat (.val (.bool b))) (hw : b = want) (h : ActS P X ops o e s) : Stp P X ops o s e
  | pass (g : Nat) (want b : Bool) (hg : o.guard = some (g, want)) (hb : gA ops s g = .dat (.val (.bool b))) (hw : b = !want) (hd : dstOk X.N o.dst = true) : Stp P X ops o s (Eff.put o.dst (.dat (.tup [])))
  | passU (g : Nat) (want : Bool) (hg : o.guard = some (g, want)) (hb : gA ops s g = .dat (.tup [])) (hd : dstOk X.N o.dst = true) : Stp P X ops o s (Eff.put o.dst (.dat (.tup [])))
section
variable {P : Program} {X : Base} {Q : Exit → Act → World → Prop}
def foldT (p : Nat → Bool) (t : Nat) : List Eff → Nat → AV → AV
  | [], _, x => x
  | e :: es, i, x => foldT p t es (i + 1) (if p i then e.wt t x else x)
def foldK (p : Nat → Bool) (k : Nat) : List Eff → Nat → Option Blk → Option Blk
  | [], _, x => x
  | e :: es, i, x => foldK p k es (i + 1) (if p i then e.wk k x else x)
def foldS (p : Nat → Bool) (es : List Eff) (i : Nat) (s : Sta) : Sta := { tm := fun t => foldT p t es i (s.tm t), tb := fun k => foldK p k es i (s.tb k) }
theorem foldT_same {p q : Nat → Bool} {t : Nat} : ∀ {es : List Eff} {i : Nat} {x : AV}, (∀ j e, es[j]? = some e → (∀ y, e.wt t y = y) ∨ p (i + j) = q (i + j)) → foldT p t es i x = foldT q t es i x
  | [], _, _, _ => rfl
  | e :: es, i, x, h => by
    unfold foldT
    have h0 : (if p i then e.wt t x else x) = if q i then e.wt t x else x := by
      rcases h 0 e rfl with h1 | h1
      · rw [h1]; simp
      · rw [Nat.add_zero] at h1; rw [h1]
    rw [h0]
    exact foldT_same fun j e' hj => by
      have := h (j + 1) e' (by simpa using hj)
      rwa [show i + (j + 1) = i + 1 + j by omega] at this
theorem foldK_same {p q : Nat → Bool} {k : Nat} : ∀ {es : List Eff} {i : Nat} {x : Option Blk}, (∀ j e, es[j]? = some e → (∀ y, e.wk k y = y) ∨ p (i + j) = q (i + j)) → foldK p k es i x = foldK q k es i x
  | [], _, _, _ => rfl
  | e :: es, i, x, h => by
    unfold foldK
    have h0 : (if p i then e.wk k x else x) = if q i then e.wk k x else x := by
      rcases h 0 e rfl with h1 | h1
      · rw [h1]; simp
      · rw [Nat.add_zero] at h1; rw [h1]
    rw [h0]
    exact foldK_same fun j e' hj => by
      have := h (j + 1) e' (by simpa using hj)
      rwa [show i + (j + 1) = i + 1 + j by omega] at this
theorem foldT_comm {p : Nat → Bool} {t : Nat} (f : AV → AV) : ∀ {es : List Eff} {i : Nat} {x : AV}, (∀ j e, es[j]? = some e → p (i + j) = true → ∀ y, e.wt t (f y) = f (e.wt t y)) → foldT p t es i (f x) = f (foldT p t es i x)
  | [], _, _, _ => rfl
  | e :: es, i, x, h => by
    unfold foldT
    have h0 : (if p i then e.wt t (f x) else f x) = f (if p i then e.wt t x else x) := by
      by_cases hp : p i = true
      · rw [if_pos hp, if_pos hp]; exact h 0 e rfl (by simpa using hp) x
      · rw [if_neg hp, if_neg hp]
    rw [h0]
    exact foldT_comm f fun j e' hj hp => h (j + 1) e' (by simpa using hj) (by rwa [show i + (j + 1) = i + 1 + j by omega])
theorem foldK_comm {p : Nat → Bool} {k : Nat} (f : Option Blk → Option Blk) : ∀ {es : List Eff} {i : Nat} {x : Option Blk}, (∀ j e, es[j]? = some e → p (i + j) = true → ∀ y, e.wk k (f y) = f (e.wk k y)) → foldK p k es i (f x) = f (foldK p k es i x)
  | [], _, _, _ => rfl
  | e :: es, i, x, h => by
    unfold foldK
    have h0 : (if p i then e.wk k (f x) else f x) = f (if p i then e.wk k x else x) := by
      by_cases hp : p i = true
      · rw [if_pos hp, if_pos hp]; exact h 0 e rfl (by simpa using hp) x
      · rw [if_neg hp, if_neg hp]
    rw [h0]
    exact foldK_comm f fun j e' hj hp => h (j + 1) e' (by simpa using hj) (by rwa [show i + (j + 1) = i + 1 + j by omega])
/-- One effect more. -/
theorem foldT_more {p p' : Nat → Bool} {t : Nat} {a : Nat} (ha : p a = false) (ha' : p' a = true) (hp : ∀ j, j ≠ a → p' j = p j) : ∀ {es : List Eff} {i : Nat} {x : AV} {e0 : Eff}, i ≤ a → es[a - i]? = some e0 →
    (∀ j e, a < i + j → es[j]? = some e → p (i + j) = true → ∀ y, e.wt t (e0.wt t y) = e0.wt t (e.wt t y)) → foldT p' t es i x = e0.wt t (foldT p t es i x)
  | [], i, x, e0, _, h0, _ => by simp at h0
  | e :: es, i, x, e0, hi, h0, h => by
    unfold foldT
    by_cases e1 : i = a
    · subst e1
      simp only [Nat.sub_self, List.getElem?_cons_zero, Option.some.injEq] at h0
      subst h0
      rw [if_pos ha', if_neg (by rw [ha]; simp)]
      have h1 : foldT p' t es (i + 1) (e.wt t x) = foldT p t es (i + 1) (e.wt t x) := foldT_same fun j e' hj => .inr (hp _ (by omega))
      rw [h1]
      exact foldT_comm (e.wt t) fun j e' hj hpj => h (j + 1) e' (by omega) (by simpa using hj) (by rwa [show i + (j + 1) = i + 1 + j by omega])
    · rw [hp i e1]
      exact foldT_more ha ha' hp (by omega) (by rw [show a - i = (a - (i + 1)) + 1 by omega] at h0; simpa using h0) fun j e' hj he hpj => h (j + 1) e' (by omega) (by simpa using he) (by rwa [show i + (j + 1) = i + 1 + j by omega])
theorem foldK_more {p p' : Nat → Bool} {k : Nat} {a : Nat} (ha : p a = false) (ha' : p' a = true) (hp : ∀ j, j ≠ a → p' j = p j) : ∀ {es : List Eff} {i : Nat} {x : Option Blk} {e0 : Eff}, i ≤ a → es[a - i]? = some e0 →
    (∀ j e, a < i + j → es[j]? = some e → p (i + j) = true → ∀ y, e.wk k (e0.wk k y) = e0.wk k (e.wk k y)) → foldK p' k es i x = e0.wk k (foldK p k es i x)
  | [], i, x, e0, _, h0, _ => by simp at h0
  | e :: es, i, x, e0, hi, h0, h => by
    unfold foldK
    by_cases e1 : i = a
    · subst e1
      simp only [Nat.sub_self, List.getElem?_cons_zero, Option.some.injEq] at h0
      subst h0
      rw [if_pos ha', if_neg (by rw [ha]; simp)]
      have h1 : foldK p' k es (i + 1) (e.wk k x) = foldK p k es (i + 1) (e.wk k x) := foldK_same fun j e' hj => .inr (hp _ (by omega))
      rw [h1]
      exact foldK_comm (e.wk k) fun j e' hj hpj => h (j + 1) e' (by omega) (by simpa using hj) (by rwa [show i + (j + 1) = i + 1 + j by omega])
    · rw [hp i e1]
      exact foldK_more ha ha' hp (by omega) (by rw [show a - i = (a - (i + 1)) + 1 by omega] at h0; simpa using h0) fun j e' hj he hpj => h (j + 1) e' (by omega) (by simpa using he) (by rwa [show i + (j + 1) = i + 1 + j by omega])
/-- i waits for j, through others perhaps. -/
inductive Anc (ops : List Oper) (j : Nat) : Nat → Prop where
  | edge {i : Nat} {o : Oper} {e : Edge} (ho : ops[i]? = some o) (he : e ∈ o.after) (hb : Region.binds .any e = true) (hj : e.on = j) : Anc ops j i
  | step {i : Nat} {o : Oper} {e : Edge} (ho : ops[i]? = some o) (he : e ∈ o.after) (hb : Region.binds .any e = true) (h : Anc ops j e.on) : Anc ops j i
def maskOf (acc : List Nat) : List Edge → Nat
  | [] => 0
  | e :: r => if Region.binds .any e then (1 <<< e.on) ||| (acc.getD e.on 0) ||| maskOf acc r else maskOf acc r
def masks : List Oper → List Nat → List Nat
  | [], acc => acc
  | o :: r, acc => masks r (acc ++ [maskOf acc o.after.toList])
theorem mask_spec {ops : List Oper} {acc : List Nat} (hacc : ∀ i m j, acc[i]? = some m → m.testBit j = true → Anc ops j i) {i : Nat} {o : Oper} (ho : ops[i]? = some o) {j : Nat} :
    ∀ {l : List Edge}, (∀ e ∈ l, e ∈ o.after) → (maskOf acc l).testBit j = true → Anc ops j i
  | [], _, h => by simp [maskOf] at h
  | e :: r, hl, h => by
    unfold maskOf at h
    split at h
    · rename_i hb
      rw [Nat.testBit_or, Nat.testBit_or] at h
      simp only [Bool.or_eq_true] at h
      rcases h with (h | h) | h
      · refine .edge ho (hl e List.mem_cons_self) hb ?_
        rw [Nat.one_shiftLeft, Nat.testBit_two_pow] at h
        simpa using h
      · refine .step ho (hl e List.mem_cons_self) hb ?_
        cases hq : acc[e.on]? with
        | none => simp [List.getD_eq_getElem?_getD, hq] at h
        | some m => exact hacc e.on m j hq (by simpa [List.getD_eq_getElem?_getD, hq] using h)
      · exact mask_spec hacc ho (fun e' he' => hl e' (List.mem_cons_of_mem _ he')) h
    · exact mask_spec hacc ho (fun e' he' => hl e' (List.mem_cons_of_mem _ he')) h
theorem masks_spec {ops : List Oper} : ∀ {l : List Oper} {acc : List Nat}, (∀ k o, l[k]? = some o → ops[acc.length + k]? = some o) → (∀ i m j, acc[i]? = some m → m.testBit j = true → Anc ops j i) →
    ∀ i m j, (masks l acc)[i]? = some m → m.testBit j = true → Anc ops j i
  | [], acc, _, hacc => hacc
  | o :: r, acc, hl, hacc => by
    unfold masks
    refine masks_spec (fun k o' hk => ?_) fun i m j hi hm => ?_
    · have := hl (k + 1) o' (by simpa using hk)
      rw [List.length_append, List.length_singleton]
      rwa [show acc.length + (k + 1) = acc.length + 1 + k by omega] at this
    · by_cases h1 : i < acc.length
      · rw [List.getElem?_append_left h1] at hi
        exact hacc i m j hi hm
      · rw [List.getElem?_append_right (by omega)] at hi
        have e1 : i = acc.length := by
          have := (List.getElem?_eq_some_iff.1 hi).1
          simp at this; omega
        subst e1
        simp only [Nat.sub_self, List.getElem?_cons_zero, Option.some.injEq] at hi
        subst hi
        exact mask_spec hacc (hl 0 o rfl) (fun e he => by simpa using he) hm
def disj (a b : List Nat) : Bool := a.all fun x => !b.contains x
def wrT (e : Eff) : List Nat := match e.tmp with | some (d, _) => [d] | none => []
def wrK (e : Eff) : List Nat := (match e.blk with | some (d, _) => [d] | none => []) ++ e.dead.toList
/-- What an operation reads and writes. -/
structure Foot where
  rt : List Nat
  rk : List Nat
  e : Eff
def indep (a b : Foot) : Bool :=
  disj (wrT a.e) (wrT b.e) && disj (wrK a.e) (wrK b.e) && disj (wrT a.e) b.rt && disj (wrT b.e) a.rt && disj (wrK a.e) b.rk && disj (wrK b.e) a.rk
def feet (ops : List Oper) : List Oper → List Eff → Sta → List Foot
  | o :: os, e :: es, s => { rt := tmpsOf ops o, rk := keysOf s (tmpsOf ops o) e, e } :: feet ops os es (e.app s)
  | _, _, _ => []
def pairOk (ms : List Nat) (i : Nat) (a : Foot) : Nat → List Foot → Bool
  | _, [] => true
  | j, b :: r => ((ms.getD j 0).testBit i || indep a b) && pairOk ms i a (j + 1) r
def allPairs (ms : List Nat) : Nat → List Foot → Bool
  | _, [] => true
  | i, a :: r => pairOk ms i a (i + 1) r && allPairs ms (i + 1) r
def orderOk (ops : List Oper) (es : List Eff) (s : Sta) : Bool := ops.length == es.length && (ops.all fun o => !(o.op matches .select ..)) && allPairs (masks ops []) 0 (feet ops ops es s)
theorem pairOk_spec {ms : List Nat} {i : Nat} {a : Foot} : ∀ {l : List Foot} {j : Nat}, pairOk ms i a j l = true → ∀ k b, l[k]? = some b → (ms.getD (j + k) 0).testBit i = true ∨ indep a b = true
  | [], _, _, k, b, hk => by simp at hk
  | c :: r, j, h, k, b, hk => by
    simp only [pairOk, Bool.and_eq_true, Bool.or_eq_true] at h
    cases k with
    | zero => simp at hk; subst hk; exact h.1
    | succ k =>
      have := pairOk_spec h.2 k b (by simpa using hk)
      rwa [show j + 1 + k = j + (k + 1) by omega] at this
theorem allPairs_spec {ms : List Nat} : ∀ {l : List Foot} {i : Nat}, allPairs ms i l = true → ∀ p q a b, p < q → l[p]? = some a → l[q]? = some b → (ms.getD (i + q) 0).testBit (i + p) = true ∨ indep a b = true
  | [], _, _, p, q, a, b, _, hp, _ => by simp at hp
  | c :: r, i, h, p, q, a, b, hpq, hp, hq => by
    simp only [allPairs, Bool.and_eq_true] at h
    cases q with
    | zero => omega
    | succ q =>
      cases p with
      | zero =>
        simp at hp; subst hp
        have := pairOk_spec h.1 q b (by simpa using hq)
        rwa [show i + 1 + q = i + (q + 1) by omega] at this
      | succ p =>
        have := allPairs_spec h.2 p q a b (by omega) (by simpa using hp) (by simpa using hq)
        rwa [show i + 1 + q = i + (q + 1) by omega, show i + 1 + p = i + (p + 1) by omega] at this
theorem disj_spec {a b : List Nat} (h : disj a b = true) {x : Nat} (hx : x ∈ a) : x ∉ b := by
  have := List.all_eq_true.1 h x hx
  simpa using this
theorem wt_id {e : Eff} {t : Nat} (ht : t ∉ wrT e) (y : AV) : e.wt t y = y := by
  unfold Eff.wt
  unfold wrT at ht
  cases h : e.tmp with
  | none => rfl
  | some d => rw [h] at ht; simp at ht; simp [ht]
theorem wk_id {e : Eff} {t : Nat} (ht : t ∉ wrK e) (y : Option Blk) : e.wk t y = y := by
  unfold Eff.wk Eff.wd
  unfold wrK at ht
  cases h : e.blk with
  | none =>
    rw [h] at ht
    cases h2 : e.dead with
    | none => rfl
    | some k0 => rw [h2] at ht; simp at ht; simp [ht]
  | some d =>
    rw [h] at ht
    cases h2 : e.dead with
    | none => rw [h2] at ht; simp at ht; simp [ht]
    | some k0 => rw [h2] at ht; simp at ht; simp [ht]
theorem indep_t {a b : Foot} (h : indep a b = true) (t : Nat) (y : AV) : b.e.wt t (a.e.wt t y) = a.e.wt t (b.e.wt t y) := by
  simp only [indep, Bool.and_eq_true] at h
  obtain ⟨⟨⟨⟨⟨h3, h4⟩, h5⟩, h6⟩, h7⟩, h8⟩ := h
  by_cases ha : t ∈ wrT a.e
  · have hb := disj_spec h3 ha
    rw [wt_id hb, wt_id hb]
  · rw [wt_id ha, wt_id ha]
theorem indep_k {a b : Foot} (h : indep a b = true) (t : Nat) (y : Option Blk) : b.e.wk t (a.e.wk t y) = a.e.wk t (b.e.wk t y) := by
  simp only [indep, Bool.and_eq_true] at h
  obtain ⟨⟨⟨⟨⟨h3, h4⟩, h5⟩, h6⟩, h7⟩, h8⟩ := h
  by_cases ha : t ∈ wrK a.e
  · have hb := disj_spec h4 ha
    rw [wk_id hb, wk_id hb]
  · rw [wk_id ha, wk_id ha]
inductive Tr (P : Program) (X : Base) (ops : List Oper) : List Oper → Sta → List Eff → Sta → Prop where
  | nil {s : Sta} : Tr P X ops [] s [] s
  | cons {o : Oper} {r : List Oper} {s s' : Sta} {e : Eff} {es : List Eff} (h : Stp P X ops o s e) (ht : Tr P X ops r (e.app s) es s') : Tr P X ops (o :: r) s (e :: es) s'
def sAt : List Eff → Nat → Sta → Sta
  | _, 0, s => s
  | [], _ + 1, s => s
  | e :: es, i + 1, s => sAt es i (e.app s)
theorem Tr.len {ops r : List Oper} {s s' : Sta} {es : List Eff} (h : Tr P X ops r s es s') : es.length = r.length := by
  induction h with
  | nil => rfl
  | cons _ _ ih => simp [ih]
theorem Tr.at_ {ops r : List Oper} {s s' : Sta} {es : List Eff} (h : Tr P X ops r s es s') : ∀ {i : Nat} {o : Oper} {e : Eff}, r[i]? = some o → es[i]? = some e → Stp P X ops o (sAt es i s) e := by
  induction h with
  | nil => intro i o e h; simp at h
  | cons h1 ht ih =>
    intro i o e ho he
    cases i with
    | zero => simp at ho he; subst ho; subst he; exact h1
    | succ i => exact ih (by simpa using ho) (by simpa using he)
theorem Tr.last {ops r : List Oper} {s s' : Sta} {es : List Eff} (h : Tr P X ops r s es s') : s' = sAt es r.length s := by
  induction h with
  | nil => rfl
  | cons h1 ht ih => exact ih
theorem feet_at {ops : List Oper} : ∀ {os : List Oper} {es : List Eff} {s : Sta} {i : Nat} {o : Oper} {e : Eff}, os[i]? = some o → es[i]? = some e → (feet ops os es s)[i]? = some { rt := tmpsOf ops o, rk := keysOf (sAt es i s) (tmpsOf ops o) e, e }
  | [], _, _, _, _, _, h, _ => by simp at h
  | _ :: _, [], _, _, _, _, _, h => by simp at h
  | o :: os, e :: es, s, i, o', e', ho, he => by
    unfold feet
    cases i with
    | zero => simp at ho he; subst ho; subst he; rfl
    | succ i =>
      have := feet_at (ops := ops) (s := e.app s) (i := i) (os := os) (es := es) (by simpa using ho) (by simpa using he)
      simpa [sAt] using this
theorem sAt_fold (t : Nat) : ∀ (es : List Eff) (i i0 : Nat) (s : Sta), (sAt es i s).tm t = foldT (fun j => decide (j < i0 + i)) t es i0 (s.tm t)
  | [], 0, i0, s => rfl
  | [], i + 1, i0, s => rfl
  | e :: es, 0, i0, s => by
    unfold sAt
    have : foldT (fun j => decide (j < i0 + 0)) t (e :: es) i0 (s.tm t) = foldT (fun _ => false) t (e :: es) i0 (s.tm t) := foldT_same fun j e' _ => .inr (by simp)
    rw [this]
    have hf : ∀ (l : List Eff) (k : Nat) (x : AV), foldT (fun _ => false) t l k x = x := by
      intro l
      induction l with
      | nil => intro k x; rfl
      | cons y r ih => intro k x; unfold foldT; simpa using ih (k + 1) x
    rw [hf]
  | e :: es, i + 1, i0, s => by
    unfold sAt foldT
    rw [if_pos (by simp)]
    rw [sAt_fold t es i (i0 + 1) (e.app s)]
    exact foldT_same fun j e' _ => .inr (by simp; omega)
theorem sAt_foldK (t : Nat) : ∀ (es : List Eff) (i i0 : Nat) (s : Sta), (sAt es i s).tb t = foldK (fun j => decide (j < i0 + i)) t es i0 (s.tb t)
  | [], 0, i0, s => rfl
  | [], i + 1, i0, s => rfl
  | e :: es, 0, i0, s => by
    unfold sAt
    have : foldK (fun j => decide (j < i0 + 0)) t (e :: es) i0 (s.tb t) = foldK (fun _ => false) t (e :: es) i0 (s.tb t) := foldK_same fun j e' _ => .inr (by simp)
    rw [this]
    have hf : ∀ (l : List Eff) (k : Nat) (x : Option Blk), foldK (fun _ => false) t l k x = x := by
      intro l
      induction l with
      | nil => intro k x; rfl
      | cons y r ih => intro k x; unfold foldK; simpa using ih (k + 1) x
    rw [hf]
  | e :: es, i + 1, i0, s => by
    unfold sAt foldK
    rw [if_pos (by simp)]
    rw [sAt_foldK t es i (i0 + 1) (e.app s)]
    exact foldK_same fun j e' _ => .inr (by simp; omega)
def edgesDown : Nat → List Oper → Bool
  | _, [] => true
  | i, o :: r => (o.after.toList.all fun e => !Region.binds .any e || Nat.blt e.on i) && edgesDown (i + 1) r
theorem edgesDown_spec : ∀ {l : List Oper} {i : Nat}, edgesDown i l = true → ∀ k o, l[k]? = some o → ∀ e ∈ o.after, Region.binds .any e = true → e.on < i + k
  | [], _, _, k, o, hk => by simp at hk
  | c :: r, i, h, k, o, hk => by
    simp only [edgesDown, Bool.and_eq_true] at h
    cases k with
    | zero =>
      simp at hk; subst hk
      intro e he hb
      have := List.all_eq_true.1 h.1 e (by simpa using he)
      simp only [hb, Bool.not_true, Bool.false_or] at this
      simpa [Nat.blt_eq] using this
    | succ k =>
      intro e he hb
      have := edgesDown_spec h.2 k o (by simpa using hk) e he hb
      omega
def closedL (ops : List Oper) (L : Nat → Bool) : Prop := ∀ i o, L i = true → ops[i]? = some o → ∀ e ∈ o.after, Region.binds .any e = true → L e.on = true
theorem anc_in {ops : List Oper} {L : Nat → Bool} (hc : closedL ops L) {i : Nat} (hi : ∀ o, ops[i]? = some o → ∀ e ∈ o.after, Region.binds .any e = true → L e.on = true) {j : Nat} (h : Anc ops j i) : L j = true := by
  induction h with
  | edge ho he hb hj => rw [← hj]; exact hi _ ho _ he hb
  | step ho he hb h ih => exact ih fun o' ho' e' he' hb' => hc _ _ (hi _ ho _ he hb) ho' e' he' hb'
theorem run_order {ops : List Oper} {s s' : Sta} {es : List Eff} (htr : Tr P X ops ops s es s') (hok : orderOk ops es s = true) (hdown : edgesDown 0 ops = true) (hQ : ∀ a w, Conc X s' a w → Q .normal a w) :
    ∀ (fuel : Nat) (listed : Array Bool) (a : Act) (w : World), listed.size = ops.length → closedL ops (fun i => listed.getD i false) → (((List.range ops.length).filter fun i => !listed.getD i false).length ≤ fuel) →
      Conc X (foldS (fun i => listed.getD i false) es 0 s) a w → wpAny P .any ops.toArray Q fuel listed a w := by
  have hlen := htr.len
  simp only [orderOk, Bool.and_eq_true] at hok
  obtain ⟨⟨_, hsel⟩, hpairs⟩ := hok
  have hpair : ∀ p q op oq ep eq, p < q → ops[p]? = some op → ops[q]? = some oq → es[p]? = some ep → es[q]? = some eq → Anc ops p q ∨ indep { rt := tmpsOf ops op, rk := keysOf (sAt es p s) (tmpsOf ops op) ep, e := ep } { rt := tmpsOf ops oq, rk := keysOf (sAt es q s) (tmpsOf ops oq) eq, e := eq } = true := by
    intro p q op oq ep eq hpq h1 h2 h3 h4
    rcases allPairs_spec hpairs p q _ _ hpq (feet_at h1 h3) (feet_at h2 h4) with h | h
    · left
      simp only [Nat.zero_add] at h
      cases hm : (masks ops [])[q]? with
      | none => simp [List.getD_eq_getElem?_getD, hm] at h
      | some m => exact masks_spec (acc := []) (fun k o hk => by simpa using hk) (fun i m j hi => by simp at hi) q m p hm (by simpa [List.getD_eq_getElem?_getD, hm] using h)
    · exact .inr h
  have hgd : ∀ (listed : Array Bool), listed.size = ops.length → ∀ i, i < ops.length → listed.getD i true = listed.getD i false := by
    intro listed hs i hi
    simp [Array.getD_eq_getD_getElem?, hs, hi]
  -- what comes next where nothing is ready
  have hdone : ∀ (listed : Array Bool) (a : Act) (w : World), listed.size = ops.length → (∀ i, i < ops.length → listed.getD i false = true) → Conc X (foldS (fun i => listed.getD i false) es 0 s) a w → Q .normal a w := by
    intro listed a w hs hall hc
    apply hQ
    have e1 : foldS (fun i => listed.getD i false) es 0 s = s' := by
      rw [htr.last]
      have e2 : ∀ t, foldT (fun i => listed.getD i false) t es 0 (s.tm t) = (sAt es ops.length s).tm t := fun t => by
        rw [sAt_fold t es ops.length 0 s]
        refine foldT_same fun j e he => .inr ?_
        have hj := (List.getElem?_eq_some_iff.1 he).1
        simp only [Nat.zero_add]
        rw [hall j (by omega)]
        simp; omega
      have e3 : ∀ t, foldK (fun i => listed.getD i false) t es 0 (s.tb t) = (sAt es ops.length s).tb t := fun t => by
        rw [sAt_foldK t es ops.length 0 s]
        refine foldK_same fun j e he => .inr ?_
        have hj := (List.getElem?_eq_some_iff.1 he).1
        simp only [Nat.zero_add]
        rw [hall j (by omega)]
        simp; omega
      unfold foldS
      simp only [e2, e3]
    rw [e1] at hc
    exact hc
  have hready : ∀ (listed : Array Bool), listed.size = ops.length → Region.ready .any ops.toArray listed = [] → ∀ i, i < ops.length → listed.getD i false = true := by
    intro listed hs hr i
    induction i using Nat.strongRecOn with
    | _ i ih =>
      intro hi
      cases hli : listed.getD i false with
      | true => rfl
      | false =>
        exfalso
        have hm : i ∈ Region.ready .any ops.toArray listed := by
          unfold Region.ready
          rw [List.mem_filter]
          refine ⟨by simpa using hi, ?_⟩
          rw [hgd listed hs i hi, hli]
          have ho : ops.toArray[i]? = some ops[i] := by simp [hi]
          rw [ho]
          simp only [Bool.not_false, Option.map_some, Option.getD_some, Bool.true_and]
          rw [Array.all_eq_true']
          intro e he
          cases hb : Region.binds .any e with
          | false => rfl
          | true =>
            have hlt := edgesDown_spec hdown i ops[i] (by simp [hi]) e he hb
            have := ih e.on (by omega) (by omega)
            simp [this]
        rw [hr] at hm
        cases hm
  intro fuel
  induction fuel with
  | zero =>
    intro listed a w hs hcl hcnt hc
    have hall : ∀ i, i < ops.length → listed.getD i false = true := by
      intro i hi
      cases hli : listed.getD i false with
      | true => rfl
      | false =>
        have : i ∈ (List.range ops.length).filter fun i => !listed.getD i false := List.mem_filter.2 ⟨by simpa using hi, by rw [hli]; rfl⟩
        have h0 : ((List.range ops.length).filter fun i => !listed.getD i false) = [] := List.eq_nil_of_length_eq_zero (by omega)
        rw [h0] at this
        cases this
    refine ⟨?_, hdone listed a w hs hall hc⟩
    unfold Region.ready
    rw [List.filter_eq_nil_iff]
    intro i hi
    have hi' : i < ops.length := by simpa using hi
    rw [hgd listed hs i hi', hall i hi']
    simp
  | succ fuel ih =>
    intro listed a w hs hcl hcnt hc
    refine ⟨fun hr => hdone listed a w hs (hready listed hs hr) hc, fun i hi => ?_⟩
    have hi0 := hi
    unfold Region.ready at hi
    rw [List.mem_filter] at hi
    obtain ⟨hir, hi2⟩ := hi
    have hil : i < ops.length := by simpa using hir
    simp only [Bool.and_eq_true, Bool.not_eq_true'] at hi2
    obtain ⟨hun, hdeps⟩ := hi2
    rw [hgd listed hs i hil] at hun
    have ho : ops[i]? = some ops[i] := by simp [hil]
    have hoa : ops.toArray[i]? = some ops[i] := by simp [hil]
    rw [hoa] at hdeps
    simp only [Option.map_some, Option.getD_some, Array.all_eq_true'] at hdeps
    have hdep : ∀ o, ops[i]? = some o → ∀ e ∈ o.after, Region.binds .any e = true → listed.getD e.on false = true := by
      intro o ho' e he hb
      rw [ho] at ho'; cases ho'
      have := hdeps e he
      simpa [hb] using this
    have hanc : ∀ j, Anc ops j i → listed.getD j false = true := fun j h => anc_in (L := fun i => listed.getD i false) hcl hdep h
    have hdesc : ∀ j, Anc ops i j → listed.getD j false = false := by
      intro j h
      cases hj : listed.getD j false with
      | false => rfl
      | true =>
        have := anc_in (L := fun i => listed.getD i false) hcl (fun o ho e he hb => hcl j o hj ho e he hb) h
        rw [hun] at this; cases this
    have hel : i < es.length := by omega
    have he : es[i]? = some es[i] := by simp [hel]
    have hstp := htr.at_ ho he
    -- the state looks as it does in the order of the text
    have hcell : ∀ j ej, es[j]? = some ej → j ≠ i → ((listed.getD j false = decide (j < i)) ∨ ((∀ t ∈ tmpsOf ops ops[i], ∀ y, ej.wt t y = y) ∧ (∀ k ∈ keysOf (sAt es i s) (tmpsOf ops ops[i]) es[i], ∀ y, ej.wk k y = y) ∧ (∀ t y, ej.wt t (es[i].wt t y) = es[i].wt t (ej.wt t y)) ∧ ∀ k y, ej.wk k (es[i].wk k y) = es[i].wk k (ej.wk k y))) := by
      intro j ej hej hne
      have hjl : j < ops.length := by have := (List.getElem?_eq_some_iff.1 hej).1; omega
      have hoj : ops[j]? = some ops[j] := by simp [hjl]
      rcases Nat.lt_or_ge j i with hlt | hge
      · rcases hpair j i _ _ _ _ hlt hoj ho hej he with h | h
        · left; rw [hanc j h]; simp [hlt]
        · right
          have h' := h
          simp only [indep, Bool.and_eq_true] at h'
          obtain ⟨⟨⟨⟨⟨h3, h4⟩, h5⟩, h6⟩, h7⟩, h8⟩ := h'
          exact ⟨fun t ht y => wt_id (fun hm => disj_spec h5 hm ht) y, fun k hk y => wk_id (fun hm => disj_spec h7 hm hk) y, fun t y => (indep_t h t y).symm, fun k y => (indep_k h k y).symm⟩
      · have hlt : i < j := by omega
        rcases hpair i j _ _ _ _ hlt ho hoj he hej with h | h
        · left; rw [hdesc j h]; simp; omega
        · right
          have h' := h
          simp only [indep, Bool.and_eq_true] at h'
          obtain ⟨⟨⟨⟨⟨h3, h4⟩, h5⟩, h6⟩, h7⟩, h8⟩ := h'
          exact ⟨fun t ht y => wt_id (fun hm => disj_spec h6 hm ht) y, fun k hk y => wk_id (fun hm => disj_spec h8 hm hk) y, fun t y => indep_t h t y, fun k y => indep_k h k y⟩
    let σ := foldS (fun i => listed.getD i false) es 0 s
    have halike : Alike ops ops[i] es[i] (sAt es i s) σ := by
      refine ⟨fun t ht => ?_, fun k hk => ?_⟩
      · show foldT _ t es 0 (s.tm t) = _
        rw [sAt_fold t es i 0 s]
        refine foldT_same fun j ej hej => ?_
        simp only [Nat.zero_add]
        by_cases hji : j = i
        · right; subst hji; rw [hun]; simp
        · rcases hcell j ej hej hji with h | h
          · exact .inr h
          · exact .inl (h.1 t ht)
      · show foldK _ k es 0 (s.tb k) = _
        rw [sAt_foldK k es i 0 s]
        refine foldK_same fun j ej hej => ?_
        simp only [Nat.zero_add]
        by_cases hji : j = i
        · right; subst hji; rw [hun]; simp
        · rcases hcell j ej hej hji with h | h
          · exact .inr h
          · exact .inl (h.2.1 k hk)
    have hset : ∀ j, (listed.setIfInBounds i true).getD j false = if j = i then true else listed.getD j false := by
      intro j
      rw [Array.getD_eq_getD_getElem?, Array.getD_eq_getD_getElem?, Array.getElem?_setIfInBounds]
      by_cases h : i = j
      · subst h; simp [hs, hil]
      · rw [if_neg h, if_neg (Ne.symm h)]
    have hnext : es[i].app σ = foldS (fun j => (listed.setIfInBounds i true).getD j false) es 0 s := by
      have e1 : ∀ t, es[i].wt t (foldT (fun i => listed.getD i false) t es 0 (s.tm t)) = foldT (fun j => (listed.setIfInBounds i true).getD j false) t es 0 (s.tm t) := fun t => by
        refine (foldT_more (a := i) hun (by rw [hset]; simp) (fun j hj => by rw [hset, if_neg hj]) (Nat.zero_le _) (by simpa using he) fun j ej hlt hej hpj y => ?_).symm
        simp only [Nat.zero_add] at hlt hpj
        rcases hcell j ej hej (by omega) with h | h
        · rw [hpj] at h; simp at h; omega
        · exact h.2.2.1 t y
      have e2 : ∀ t, es[i].wk t (foldK (fun i => listed.getD i false) t es 0 (s.tb t)) = foldK (fun j => (listed.setIfInBounds i true).getD j false) t es 0 (s.tb t) := fun t => by
        refine (foldK_more (a := i) hun (by rw [hset]; simp) (fun j hj => by rw [hset, if_neg hj]) (Nat.zero_le _) (by simpa using he) fun j ej hlt hej hpj y => ?_).symm
        simp only [Nat.zero_add] at hlt hpj
        rcases hcell j ej hej (by omega) with h | h
        · rw [hpj] at h; simp at h; omega
        · exact h.2.2.2 t y
      show ({ tm := _, tb := _ } : Sta) = _
      unfold foldS
      simp only [← e1, ← e2]
      rfl
    have hcl' : closedL ops (fun j => (listed.setIfInBounds i true).getD j false) := by
      intro j o hj hoj e he' hb
      simp only at hj ⊢
      rw [hset] at hj ⊢
      by_cases h : j = i
      · subst h
        split
        · rfl
        · exact hdep o hoj e he' hb
      · rw [if_neg h] at hj
        split
        · rfl
        · exact hcl j o hj hoj e he' hb
    have hcnt' : ((List.range ops.length).filter fun j => !(listed.setIfInBounds i true).getD j false).length ≤ fuel := by
      have h1 : ((List.range ops.length).filter fun j => !(listed.setIfInBounds i true).getD j false).length < ((List.range ops.length).filter fun j => !listed.getD j false).length := by
        have key : ∀ (l : List Nat), i ∈ l → (l.filter fun j => !(listed.setIfInBounds i true).getD j false).length < (l.filter fun j => !listed.getD j false).length := by
          have hle : ∀ (l : List Nat), (l.filter fun j => !(listed.setIfInBounds i true).getD j false).length ≤ (l.filter fun j => !listed.getD j false).length := by
            intro l
            induction l with
            | nil => simp
            | cons y r ih =>
              simp only [List.filter_cons, hset]
              by_cases hy : y = i
              · subst hy
                simp only [if_true, Bool.not_true, Bool.false_eq_true, if_false, hun, Bool.not_false, List.length_cons]
                simp only [hset] at ih
                omega
              · simp only [if_neg hy]
                simp only [hset] at ih
                split
                · simpa using ih
                · exact ih
          intro l
          induction l with
          | nil => intro h; cases h
          | cons y r ihl =>
            intro hm
            simp only [List.filter_cons, hset]
            by_cases hy : y = i
            · subst hy
              have := hle r
              simp only [hset] at this
              simp only [if_true, Bool.not_true, Bool.false_eq_true, if_false, hun, Bool.not_false, List.length_cons]
              omega
            · have hm' : i ∈ r := (List.mem_cons.1 hm).resolve_left (Ne.symm hy)
              have := ihl hm'
              simp only [hset] at this
              simp only [if_neg hy]
              split
              · simp only [List.length_cons]; omega
              · exact this
        exact key _ (by simpa using hil)
      omega
    have hgo : ∀ a' w', Conc X (es[i].app σ) a' w' → wpAny P .any ops.toArray Q fuel (listed.setIfInBounds i true) a' w' := fun a' w' hc' =>
      ih (listed.setIfInBounds i true) a' w' (by simpa using hs) hcl' hcnt' (by rw [← hnext]; exact hc')
    unfold wpOp
    rw [hoa]
    simp only
    have hgA : ∀ g want, ops[i].guard = some (g, want) → gA ops σ g = gA ops (sAt es i s) g := by
      intro g want hg
      unfold gA
      cases hq : (ops[g]?).bind (·.dst) with
      | none => rfl
      | some t => exact halike.1 t (by unfold tmpsOf; simp [hg, hq])
    have hgo2 : ∀ g want b, gA ops (sAt es i s) g = .dat (.val (.bool b)) → ops[i].guard = some (g, want) → Region.wanted ops[i] (yielded ops.toArray a.tmps) = (b == want) := by
      intro g want b hb hg
      refine guard_spec (s := σ) (ops := ops.toArray) (g := (g, want)) ?_ hc hg
      have h1 := hgA g want hg
      rw [hb] at h1
      unfold gA at h1
      unfold guardOf
      simp only [List.getElem?_toArray]
      cases hq : (ops[g]?).bind (·.dst) with
      | none => rw [hq] at h1; simp at h1
      | some t => rw [hq] at h1; simp only at h1; simp only [h1]
    generalize hei : es[i] = ei at *
    cases hstp with
    | act _ hg h =>
      rw [if_pos (yielded_none hg)]
      exact .inl (h σ halike a w hc _ _ hgo)
    | actG _ g want b hg hb hw h =>
      rw [if_pos (by rw [hgo2 g want b hb hg, hw]; simp)]
      exact .inl (h σ halike a w hc _ _ hgo)
    | pass g want b hg hb hw hd =>
      rw [if_neg (by rw [hgo2 g want b hb hg, hw]; cases want <;> simp)]
      obtain ⟨ρ, hcc⟩ := hc
      refine hgo _ _ ⟨ρ, ?_⟩
      rw [app_put]
      exact hcc.putO hd (by unfold VR Rep; exact ⟨[], rfl, by unfold Reps; rfl⟩)
    | passU g want hg hb hd =>
      have hw : Region.wanted ops[i] (yielded ops.toArray a.tmps) = false := by
        refine guard_spec (s := σ) (ops := ops.toArray) (g := (g, want)) ?_ hc hg
        have h1 := hgA g want hg
        rw [hb] at h1
        unfold gA at h1
        unfold guardOf
        simp only [List.getElem?_toArray]
        cases hq : (ops[g]?).bind (·.dst) with
        | none => rw [hq] at h1; simp at h1
        | some t => rw [hq] at h1; simp only at h1; simp only [h1]
      rw [if_neg (by rw [hw]; simp)]
      obtain ⟨ρ, hcc⟩ := hc
      refine hgo _ _ ⟨ρ, ?_⟩
      rw [app_put]
      exact hcc.putO hd (by unfold VR Rep; exact ⟨[], rfl, by unfold Reps; rfl⟩)
/-- A region that draws its order. -/
theorem run_draw {N : Nat} {ks : List Itm} {id : Nat} {ops : List Oper} {s s' : Sta} {es : List Eff} (hm : P.follows .mixedOrders = true) (htr : Tr P X ops ops s es s') (hok : (edgesDown 0 ops && orderOk ops es s) = true) (h : Run P X N Q ks s') :
    Run P X N Q (.code (.region id ops.toArray true) :: ks) s := ⟨fun hN a w hc => by
  simp only [Bool.and_eq_true] at hok
  show (Code.region id ops.toArray true).wp P (post P X Q ks) a w
  refine wp_region_any hm ?_
  have hc' : Conc X s a { w with drawn := w.drawn + 1 } := by obtain ⟨ρ, hcc⟩ := hc; exact ⟨ρ, hcc.drew⟩
  have hf : ∀ i, (Array.replicate ops.toArray.size false).getD i false = false := by
    intro i
    rw [Array.getD_eq_getD_getElem?, Array.getElem?_replicate]
    split <;> rfl
  have e0 : foldS (fun i => (Array.replicate ops.toArray.size false).getD i false) es 0 s = s := by
    have e1 : ∀ t, foldT (fun i => (Array.replicate ops.toArray.size false).getD i false) t es 0 (s.tm t) = s.tm t := fun t => by
      rw [foldT_same (q := fun j => decide (j < 0 + 0)) (fun j e _ => .inr (by simp only [hf]; simp)), ← sAt_fold t es 0 0 s]
      cases es <;> rfl
    have e2 : ∀ t, foldK (fun i => (Array.replicate ops.toArray.size false).getD i false) t es 0 (s.tb t) = s.tb t := fun t => by
      rw [foldK_same (q := fun j => decide (j < 0 + 0)) (fun j e _ => .inr (by simp only [hf]; simp)), ← sAt_foldK t es 0 0 s]
      cases es <;> rfl
    unfold foldS
    simp only [e1, e2]
  refine run_order htr hok.2 hok.1 (fun a w hc => h.out hN a w hc) _ _ _ _ (by simp) (fun i o hi => by simp only [hf] at hi; cases hi) ?_ (by rw [e0]; exact hc')
  refine Nat.le_trans (List.length_filter_le _ _) (by simp)⟩
end
end Go.Proofs.Ytbbacpdbbmjblaa
namespace Go.Proofs.Ytbbacpdbbmjblaa
open Go.RowKit
set_option linter.unusedSimpArgs false
set_option linter.unusedVariables false
section
variable {P : Program} {X : Base} {N : Nat} {Q : Exit → Act → World → Prop} {s s1 s' : Sta} {ks : List Itm} {ops r : List Oper} {es : List Eff}
structure TrN (P : Program) (X : Base) (N : Nat) (ops r : List Oper) (s : Sta) (es : List Eff) (s' : Sta) : Prop where
  out : X.at P N → Tr P X ops r s es s'
structure TrK (P : Program) (X : Base) (N : Nat) (ops : List Oper) (d : Option Tmp) (op : Op) (e : Eff) (s s1 : Sta) : Prop where
  act : X.at P N → ∀ ty pos aft g, ActS P X ops ⟨d, op, ty, pos, aft, g⟩ e s
  eq : e.app s = s1
theorem t_nil : TrN P X N ops [] s [] s := ⟨fun _ => .nil⟩
theorem t_pick {d : Option Tmp} {op : Op} {ty : TypeId} {pos : String} {aft : Array Edge} {e : Eff} (hk : TrK P X N ops d op e s s1) (h : TrN P X N ops r s1 es s') : TrN P X N ops (⟨d, op, ty, pos, aft, none⟩ :: r) s (e :: es) s' :=
  ⟨fun hX => .cons (.act e rfl (hk.act hX _ _ _ _)) (by rw [hk.eq]; exact h.out hX)⟩
theorem t_pickY {d : Option Tmp} {op : Op} {ty : TypeId} {pos : String} {aft : Array Edge} {g : Nat} {want b : Bool} {e : Eff} (hb : gA ops s g = .dat (.val (.bool b))) (hw : b = want) (hk : TrK P X N ops d op e s s1) (h : TrN P X N ops r s1 es s') : TrN P X N ops (⟨d, op, ty, pos, aft, some (g, want)⟩ :: r) s (e :: es) s' :=
  ⟨fun hX => .cons (.actG e g want b rfl hb hw (hk.act hX _ _ _ _)) (by rw [hk.eq]; exact h.out hX)⟩
theorem t_passT {d : Nat} {op : Op} {ty : TypeId} {pos : String} {aft : Array Edge} {g : Nat} {b : Bool} (hb : gA ops s g = .dat (.val (.bool b))) (hw : b = false) (hN : Nat.blt d N = true) (h : TrN P X N ops r (s.put (some d) (.dat (.tup []))) es s') : TrN P X N ops (⟨some d, op, ty, pos, aft, some (g, true)⟩ :: r) s (Eff.put (some d) (.dat (.tup [])) :: es) s' :=
  ⟨fun hX => .cons (.pass g true b rfl hb hw (hN_ok hN hX)) (by show Tr P X ops r ((Eff.put (some d) (.dat (.tup []))).app s) es s'; rw [app_put]; exact h.out hX)⟩
theorem run_drawN {id : Nat} {ops : List Oper} (hm : P.follows .mixedOrders = true) (htr : TrN P X N ops ops s es s') (hok : (edgesDown 0 ops && orderOk ops es s) = true) (h : Run P X N Q ks s') : Run P X N Q (.code (.region id ops.toArray true) :: ks) s := ⟨fun hX => (run_draw hm (htr.out hX) hok h).out hX⟩
/-- The same, with what comes behind: nothing is left open on the way. -/
structure TrC (P : Program) (X : Base) (N : Nat) (ops r : List Oper) (s : Sta) (K : List Eff → Sta → Prop) : Prop where
  out : ∃ es s', TrN P X N ops r s es s' ∧ K es s'
theorem c_nil {K : List Eff → Sta → Prop} (h : K [] s) : TrC P X N ops [] s K := ⟨[], s, t_nil, h⟩
theorem c_pick {K : List Eff → Sta → Prop} {d : Option Tmp} {op : Op} {ty : TypeId} {pos : String} {aft : Array Edge} {e : Eff} (hk : TrK P X N ops d op e s s1) (h : TrC P X N ops r s1 (fun es s' => K (e :: es) s')) : TrC P X N ops (⟨d, op, ty, pos, aft, none⟩ :: r) s K := by
  obtain ⟨es, s', h1, h2⟩ := h.out
  exact ⟨e :: es, s', t_pick hk h1, h2⟩
theorem c_pickY {K : List Eff → Sta → Prop} {d : Option Tmp} {op : Op} {ty : TypeId} {pos : String} {aft : Array Edge} {g : Nat} {want b : Bool} {e : Eff} (hb : gA ops s g = .dat (.val (.bool b))) (hw : b = want) (hk : TrK P X N ops d op e s s1) (h : TrC P X N ops r s1 (fun es s' => K (e :: es) s')) : TrC P X N ops (⟨d, op, ty, pos, aft, some (g, want)⟩ :: r) s K := by
  obtain ⟨es, s', h1, h2⟩ := h.out
  exact ⟨e :: es, s', t_pickY hb hw hk h1, h2⟩
theorem c_passT {K : List Eff → Sta → Prop} {d : Nat} {op : Op} {ty : TypeId} {pos : String} {aft : Array Edge} {g : Nat} {b : Bool} (hb : gA ops s g = .dat (.val (.bool b))) (hw : b = false) (hN : Nat.blt d N = true) (h : TrC P X N ops r (s.put (some d) (.dat (.tup []))) (fun es s' => K (Eff.put (some d) (.dat (.tup [])) :: es) s')) : TrC P X N ops (⟨some d, op, ty, pos, aft, some (g, true)⟩ :: r) s K := by
  obtain ⟨es, s', h1, h2⟩ := h.out
  exact ⟨_ :: es, s', t_passT hb hw hN h1, h2⟩
theorem run_drawC {id : Nat} {ops : List Oper} (hm : P.follows .mixedOrders = true) (h : TrC P X N ops ops s (fun es s' => (edgesDown 0 ops && orderOk ops es s) = true ∧ Run P X N Q ks s')) : Run P X N Q (.code (.region id ops.toArray true) :: ks) s := by
  obtain ⟨es, s', h1, h2, h3⟩ := h.out
  exact run_drawN hm h1 h2 h3
theorem ev_alike {o : Oper} {e : Eff} (h : Alike ops o e s s') {x : Operand} (hx : x ∈ o.op.operands.toList) : s'.ev x = s.ev x := by
  cases x with
  | tmp t => exact h.1 t (List.mem_append_left _ (List.mem_filterMap.2 ⟨.tmp t, hx, rfl⟩))
  | _ => rfl
theorem tb_alike {o : Oper} {e : Eff} (h : Alike ops o e s s') {x : Operand} (hx : x ∈ o.op.operands.toList) {k : Nat} (hk : k ∈ keysA (s.ev x)) : s'.tb k = s.tb k := by
  cases x with
  | tmp t => exact h.2 k (List.mem_append_left _ (List.mem_append_left _ (List.mem_flatMap.2 ⟨t, List.mem_append_left _ (List.mem_filterMap.2 ⟨.tmp t, hx, rfl⟩), hk⟩)))
  | const v =>
    exfalso
    revert hk
    cases v <;> simp only [Sta.ev, constA] <;> (try split) <;> simp [keysA]
  | global g => simp [Sta.ev, keysA] at hk
  | func f => simp [Sta.ev, keysA] at hk
theorem new_alike {o : Oper} {e : Eff} (h : Alike ops o e s s') {k : Nat} {b : Blk} (he : e.blk = some (k, b)) : s'.tb k = s.tb k := h.2 k (List.mem_append_left _ (List.mem_append_right _ (by rw [he]; exact List.mem_singleton.2 rfl)))
theorem act_val {d : Nat} {op : Op} {v : AV} (hN : Nat.blt d N = true)
    (h : ∀ s' ty pos aft g, dstOk X.N (some d) = true → (∀ x ∈ op.operands.toList, s'.ev x = s.ev x) → (∀ x ∈ op.operands.toList, ∀ k ∈ keysA (s.ev x), s'.tb k = s.tb k) → OpS P X ⟨some d, op, ty, pos, aft, g⟩ s' (s'.put (some d) v)) :
    TrK P X N ops (some d) op (Eff.put (some d) v) s (s.put (some d) v) :=
  ⟨fun hX ty pos aft g s' hA => by rw [app_put]; exact h s' ty pos aft g (hN_ok hN hX) (fun x hx => ev_alike hA hx) (fun x hx k hk => tb_alike hA hx hk), app_put _ _ _⟩
theorem act_new {d : Nat} {op : Op} {b : Blk} {v : AV} (hN : Nat.blt d N = true)
    (h : ∀ s' ty pos aft g, d < X.N → (∀ x ∈ op.operands.toList, s'.ev x = s.ev x) → (∀ x ∈ op.operands.toList, ∀ k ∈ keysA (s.ev x), s'.tb k = s.tb k) → s'.tb d = s.tb d → OpS P X ⟨some d, op, ty, pos, aft, g⟩ s' (s'.new d b v)) :
    TrK P X N ops (some d) op (Eff.new d b v) s (s.new d b v) :=
  ⟨fun hX ty pos aft g s' hA => by rw [app_new]; exact h s' ty pos aft g (by rw [hX.1]; simpa [Nat.blt_eq] using hN) (fun x hx => ev_alike hA hx) (fun x hx k hk => tb_alike hA hx hk) (new_alike hA rfl), rfl⟩
theorem act_set {k : Nat} {op : Op} {b : Blk}
    (h : ∀ s' ty pos aft g, (∀ x ∈ op.operands.toList, s'.ev x = s.ev x) → (∀ x ∈ op.operands.toList, ∀ k ∈ keysA (s.ev x), s'.tb k = s.tb k) → OpS P X ⟨none, op, ty, pos, aft, g⟩ s' (s'.set k b)) :
    TrK P X N ops none op (Eff.set k b) s (s.set k b) :=
  ⟨fun hX ty pos aft g s' hA => by rw [app_set]; exact h s' ty pos aft g (fun x hx => ev_alike hA hx) (fun x hx k hk => tb_alike hA hx hk), rfl⟩
theorem map_alike {xs : List Operand} {s' : Sta} (h : ∀ x ∈ xs, s'.ev x = s.ev x) : xs.map s'.ev = xs.map s.ev := List.map_congr_left h
theorem parts_alike {n : Nat} {s' : Sta} : ∀ {l : List (Nat × Operand)} {j : Nat}, (∀ p ∈ l, s'.ev p.2 = s.ev p.2) → partsD s' n j l = partsD s n j l
  | [], _, _ => rfl
  | (i, x) :: r, j, h => by
    unfold partsD
    have h1 := h (i, x) List.mem_cons_self
    simp only at h1
    rw [h1, parts_alike (fun p hp => h p (List.mem_cons_of_mem _ hp))]
theorem d_moveD {d : Nat} {x : Operand} {v : PD} (hN : Nat.blt d N = true) (hx : s.ev x = .dat v) : TrK P X N ops (some d) (.move x) (Eff.put (some d) (.dat v)) s (s.put (some d) (.dat v)) := act_val hN fun s' _ _ _ _ hd hev htb => op_moveD hd rfl ((hev _ (by simp [Op.operands, Call.operands])).trans hx)
theorem d_moveP {d : Nat} {x : Operand} {k off : Nat} (hN : Nat.blt d N = true) (hx : s.ev x = .ptr k off) : TrK P X N ops (some d) (.move x) (Eff.put (some d) (.ptr k off)) s (s.put (some d) (.ptr k off)) := act_val hN fun s' _ _ _ _ hd hev htb => op_moveP hd rfl ((hev _ (by simp [Op.operands, Call.operands])).trans hx)
theorem d_assignD {d : Nat} {x : Operand} {v : PD} (hN : Nat.blt d N = true) (hx : s.ev x = .dat v) : TrK P X N ops (some d) (.assign x) (Eff.put (some d) (.dat v)) s (s.put (some d) (.dat v)) := act_val hN fun s' _ _ _ _ hd hev htb => op_assignD hd rfl ((hev _ (by simp [Op.operands, Call.operands])).trans hx)
theorem d_fieldAddrB {d : Nat} {x : Operand} {t f k off fo n : Nat} {g : Bool} (hN : Nat.blt d N = true) (hx : s.ev x = .ptr k off) [ht : FI P t f fo n g] (hn : Nat.blt 0 n = true) : TrK P X N ops (some d) (.fieldAddr t x f) (Eff.put (some d) (.ptr k (off + fo))) s (s.put (some d) (.ptr k (off + fo))) := act_val hN fun s' _ _ _ _ hd hev htb => op_fieldAddrB hd rfl ((hev _ (by simp [Op.operands, Call.operands])).trans hx) ht.out (by simpa [Nat.blt_eq] using hn)
theorem d_loadBD {d : Nat} {x : Operand} {t k off T n : Nat} {cs : List AV} {g : Bool} {v : PD} (hN : Nat.blt d N = true) (hx : s.ev x = .ptr k off) (hk : s.tb k = some (.box T cs)) [ht : VI P t n g] (hf : subA g n off cs = some (.dat v)) : TrK P X N ops (some d) (.load t x) (Eff.put (some d) (.dat v)) s (s.put (some d) (.dat v)) := act_val hN fun s' _ _ _ _ hd hev htb => op_loadBD hd rfl ((hev _ (by simp [Op.operands, Call.operands])).trans hx) ((htb x (by simp [Op.operands, Call.operands]) _ (by rw [hx]; simp [keysA])).trans hk) ht.out hf
theorem d_loadBP {d : Nat} {x : Operand} {t k off T n : Nat} {cs : List AV} {g : Bool} {k' off' : Nat} (hN : Nat.blt d N = true) (hx : s.ev x = .ptr k off) (hk : s.tb k = some (.box T cs)) [ht : VI P t n g] (hf : subA g n off cs = some (.ptr k' off')) : TrK P X N ops (some d) (.load t x) (Eff.put (some d) (.ptr k' off')) s (s.put (some d) (.ptr k' off')) := act_val hN fun s' _ _ _ _ hd hev htb => op_loadBP hd rfl ((hev _ (by simp [Op.operands, Call.operands])).trans hx) ((htb x (by simp [Op.operands, Call.operands]) _ (by rw [hx]; simp [keysA])).trans hk) ht.out hf
theorem d_loadBO {d : Nat} {x : Operand} {t k off T n : Nat} {cs : List AV} {g : Bool} {k' : Nat} (hN : Nat.blt d N = true) (hx : s.ev x = .ptr k off) (hk : s.tb k = some (.box T cs)) [ht : VI P t n g] (hf : subA g n off cs = some (.own k')) : TrK P X N ops (some d) (.load t x) (Eff.put (some d) (.own k')) s (s.put (some d) (.own k')) := act_val hN fun s' _ _ _ _ hd hev htb => op_loadBO hd rfl ((hev _ (by simp [Op.operands, Call.operands])).trans hx) ((htb x (by simp [Op.operands, Call.operands]) _ (by rw [hx]; simp [keysA])).trans hk) ht.out hf
theorem d_loadW {d : Nat} {x : Operand} {t k T n : Nat} {g : Bool} {v : PD} (hN : Nat.blt d N = true) (hx : s.ev x = .ptr k 0) (hk : s.tb k = some (.box T (cellsD v))) [ht : VI P t n g] (hf : fitsD g n v = true) : TrK P X N ops (some d) (.load t x) (Eff.put (some d) (.dat v)) s (s.put (some d) (.dat v)) := act_val hN fun s' _ _ _ _ hd hev htb => op_loadW hd rfl ((hev _ (by simp [Op.operands, Call.operands])).trans hx) ((htb x (by simp [Op.operands, Call.operands]) _ (by rw [hx]; simp [keysA])).trans hk) ht.out hf
theorem d_loadD {d : Nat} {x : Operand} {t n : Nat} {g : Bool} {v : PD} (hN : Nat.blt d N = true) (hx : s.ev x = .dat (.ptr v)) [ht : VI P t n g] (hf : fitsD g n v = true) : TrK P X N ops (some d) (.load t x) (Eff.put (some d) (.dat v)) s (s.put (some d) (.dat v)) := act_val hN fun s' _ _ _ _ hd hev htb => op_loadD hd rfl ((hev _ (by simp [Op.operands, Call.operands])).trans hx) ht.out hf
theorem d_bin2B {d : Nat} {x : Operand} {y : Operand} {op : BinOp} {t t' : Nat} {u v : Value} {b : Bool} (hN : Nat.blt d N = true) (hx : s.ev x = .dat (.val u)) (hy : s.ev y = .dat (.val v)) (hr : bin2 op u v = some (.bool b)) : TrK P X N ops (some d) (.binOp op t x y t') (Eff.put (some d) (.dat (.val (.bool b)))) s (s.put (some d) (.dat (.val (.bool b)))) := act_val hN fun s' _ _ _ _ hd hev htb => op_bin2 hd rfl ((hev _ (by simp [Op.operands, Call.operands])).trans hx) ((hev _ (by simp [Op.operands, Call.operands])).trans hy) hr
theorem d_ariI {d : Nat} {x : Operand} {y : Operand} {op : BinOp} {t t' : Nat} {a b c : Int} (hN : Nat.blt d N = true) (hx : s.ev x = .dat (.val (.int .i64 a))) (hy : s.ev y = .dat (.val (.int .i64 b))) (hr : ari op a b = some c) (hc : -9223372036854775808 ≤ c ∧ c ≤ 9223372036854775807) : TrK P X N ops (some d) (.binOp op t x y t') (Eff.put (some d) (.dat (.val (.int .i64 c)))) s (s.put (some d) (.dat (.val (.int .i64 c)))) := act_val hN fun s' _ _ _ _ hd hev htb => op_ariI hd rfl ((hev _ (by simp [Op.operands, Call.operands])).trans hx) ((hev _ (by simp [Op.operands, Call.operands])).trans hy) hr hc
theorem d_not {d : Nat} {x : Operand} {t : Nat} {b : Bool} (hN : Nat.blt d N = true) (hx : s.ev x = .dat (.val (.bool b))) : TrK P X N ops (some d) (.unOp .not t x) (Eff.put (some d) (.dat (.val (.bool (!b))))) s (s.put (some d) (.dat (.val (.bool (!b))))) := act_val hN fun s' _ _ _ _ hd hev htb => op_not hd rfl ((hev _ (by simp [Op.operands, Call.operands])).trans hx)
theorem d_pickT {d : Nat} {c x y : Operand} {b : Bool} {v : PD} (hN : Nat.blt d N = true) (hc : s.ev c = .dat (.val (.bool b))) (hb : b = true) (hx : s.ev x = .dat v) : TrK P X N ops (some d) (.pick c x y) (Eff.put (some d) (.dat v)) s (s.put (some d) (.dat v)) := act_val hN fun s' _ _ _ _ hd hev htb => op_pickT hd rfl ((hev _ (by simp [Op.operands, Call.operands])).trans hc) hb ((hev _ (by simp [Op.operands, Call.operands])).trans hx)
theorem d_pickF {d : Nat} {c x y : Operand} {b : Bool} {v : PD} (hN : Nat.blt d N = true) (hc : s.ev c = .dat (.val (.bool b))) (hb : b = false) (hx : s.ev y = .dat v) : TrK P X N ops (some d) (.pick c x y) (Eff.put (some d) (.dat v)) s (s.put (some d) (.dat v)) := act_val hN fun s' _ _ _ _ hd hev htb => op_pickF hd rfl ((hev _ (by simp [Op.operands, Call.operands])).trans hc) hb ((hev _ (by simp [Op.operands, Call.operands])).trans hx)
theorem d_indexAddrD {d : Nat} {x ix : Operand} {t n y e y' : Nat} {l : List PD} {k : IntKind} {i : Int} {v : PD} (hN : Nat.blt d N = true) (hx : s.ev x = .dat (.sl n y l)) (hi : s.ev ix = .dat (.val (.int k i))) [ht : SI P t e n y'] (hi0 : 0 ≤ i) (hl : l[i.toNat]? = some v) : TrK P X N ops (some d) (.indexAddr t x ix) (Eff.put (some d) (.dat (.ptr v))) s (s.put (some d) (.dat (.ptr v))) := act_val hN fun s' _ _ _ _ hd hev htb => op_indexAddrD hd rfl ((hev _ (by simp [Op.operands, Call.operands])).trans hx) ((hev _ (by simp [Op.operands, Call.operands])).trans hi) ht.out hi0 hl
theorem d_nilB {d : Nat} {x : Operand} {k off : Nat} (hN : Nat.blt d N = true) (hx : s.ev x = .ptr k off) : TrK P X N ops (some d) (.nilCheck x) (Eff.put (some d) (.ptr k off)) s (s.put (some d) (.ptr k off)) := act_val hN fun s' _ _ _ _ hd hev htb => op_nilCheckB hd rfl ((hev _ (by simp [Op.operands, Call.operands])).trans hx)
theorem d_call {d f : Nat} {xs : List Operand} {ts : Array TypeId} {ds : List PD} {r : PD} (hN : Nat.blt d N = true) (hf : callable P f = true) (hx : allD (xs.map s.ev) = some ds) (hr : PCall P f ds r) :
    TrK P X N ops (some d) (.call { callee := .value (.func f), args := xs.toArray, argTypes := ts }) (Eff.put (some d) (.dat r)) s (s.put (some d) (.dat r)) := act_val hN fun s' _ _ _ _ hd hev htb => op_call hd rfl hf (by rw [map_alike (fun x hx => hev x (by simp [Op.operands, Call.operands, hx]))]; exact hx) hr
theorem d_alloc {d t : Nat} {zs : List Value} (hN : Nat.blt d N = true) (hk : s.tb d = none) [hz : ZI P t zs] : TrK P X N ops (some d) (.alloc t) (Eff.new d (.box t (zs.map fun v => .dat (.val v))) (.ptr d 0)) s (s.new d (.box t (zs.map fun v => .dat (.val v))) (.ptr d 0)) :=
  act_new hN fun s' _ _ _ _ hd hev htb hnew => op_alloc rfl hd (hnew.trans hk) rfl hz.out hz.ok
theorem d_storeB {t k off T n : Nat} {x y : Operand} {cs ys : List AV} {g : Bool} (hx : s.ev x = .ptr k off) (hk : s.tb k = some (.box T cs)) [ht : VI P t n g] (hy : cellsA (s.ev y) = some ys) (hn : ys.length = n) (hle : Nat.ble (off + n) cs.length = true) :
    TrK P X N ops none (.store t x y) (Eff.set k (.box T (cs.take off ++ ys ++ cs.drop (off + n)))) s (s.set k (.box T (cs.take off ++ ys ++ cs.drop (off + n)))) :=
  act_set fun s' _ _ _ _ hev htb => op_storeB rfl rfl ((hev _ (by simp [Op.operands])).trans hx) ((htb x (by simp [Op.operands]) _ (by rw [hx]; simp [keysA])).trans hk) ht.out (by rw [hev _ (by simp [Op.operands])]; exact hy) hn (Nat.le_of_ble_eq_true hle)
end
end Go.Proofs.Ytbbacpdbbmjblaa
namespace Go.Proofs.Ytbbacpdbbmjblaa
open Go.RowKit
set_option linter.unusedSimpArgs false
set_option linter.unnecessarySimpa false
def lkA : List (Nat × AV) → Nat → AV
  | [], _ => .any
  | (t, x) :: r, i => if i = t then x else lkA r i
def lkB : List (Nat × Blk) → Nat → Option Blk
  | [], _ => none
  | (t, x) :: r, i => if i = t then some x else lkB r i
/-- A state that is written out. -/
def mkSta (tm : List (Nat × AV)) (tb : List (Nat × Blk)) : Sta := { tm := lkA tm, tb := lkB tb }
-- What is held says no more than what was held; θ tells by which key the second state calls what the first calls so.
mutual
inductive ALe (θ : Nat → Nat) : AV → AV → Prop where
  | any (x : AV) : ALe θ x .any
  | dat {d d' : PD} (h : PLe d d') : ALe θ (.dat d) (.dat d')
  | ptr {k k' off : Nat} (h : θ k' = k) : ALe θ (.ptr k off) (.ptr k' off)
  | own {k k' : Nat} (h : θ k' = k) : ALe θ (.own k) (.own k')
  | elt {k k' n i off : Nat} (h : θ k' = k) : ALe θ (.elt k n i off) (.elt k' n i off)
  | iface {t : TypeId} {x y : AV} (h : ALe θ x y) : ALe θ (.iface t x) (.iface t y)
  | clo {f : Nat} {l l' : List AV} (h : CLe θ l l') : ALe θ (.clo f l) (.clo f l')
inductive CLe (θ : Nat → Nat) : List AV → List AV → Prop where
  | nil : CLe θ [] []
  | cons {x y : AV} {l l' : List AV} (h : ALe θ x y) (hl : CLe θ l l') : CLe θ (x :: l) (y :: l')
end
inductive BLe (θ : Nat → Nat) : Option Blk → Blk → Prop where
  | row {e n y : Nat} {l l' : List PD} (h : l = l') : BLe θ (some (.row e n y l)) (.row e n y l')
  | box {t : Nat} {cs cs' : List AV} (h : CLe θ cs cs') : BLe θ (some (.box t cs)) (.box t cs')
  | res {R : Res} : BLe θ (some (.res R)) (.res R)
  | dead {x : Blk} (h : Nat.beq x.kind 0 = false) : BLe θ (some x) .dead
theorem CLe.dats (θ : Nat → Nat) : ∀ l : List PD, CLe θ (l.map .dat) (l.map .dat)
  | [] => .nil
  | d :: r => .cons (.dat (PLe.refl d)) (CLe.dats θ r)
theorem BLe.boxD (θ : Nat → Nat) {t : Nat} (d : PD) : BLe θ (some (.box t (cellsD d))) (.box t (cellsD d)) := .box (by
  cases d <;> first | exact CLe.dats θ _ | exact .cons (.dat (PLe.refl _)) .nil)
section
variable {P : Program} {X : Base} {N : Nat} {Q : Exit → Act → World → Prop} {s s' : Sta} {ks : List Itm}
mutual
theorem ale_val {w : World} {F F' : Nat → Prop} {t1 t2 : Nat → Option Blk} {ρ ρ' : Nat → RV} {θ : Nat → Nat} (K : Nat → Prop) (hs : ∀ b, F b → F' b)
    (hk : ∀ k', K k' → ∃ y, t2 k' = some y ∧ BLe θ (t1 (θ k')) y ∧ ρ' k' = ρ (θ k')) : ∀ (z y : AV) {v : Value}, ALe θ z y → (∀ k ∈ keysA y, K k) → VR w F t1 ρ z v → VR w F' t2 ρ' y v
  | z, .any, v, _, _, _ => by unfold VR; trivial
  | .dat d, y, v, h, _, hv => by
    cases h with
    | any => unfold VR; trivial
    | dat hle => unfold VR at hv ⊢; exact (hle _ _ _ hv).keep (fun _ _ => rfl) hs
  | .ptr k off, y, v, h, hkk, hv => by
    cases h with
    | any => unfold VR; trivial
    | @ptr _ k' _ e =>
      subst e
      obtain ⟨b, h1, h2, h3⟩ := hk k' (hkk k' (by simp [keysA]))
      unfold VR at hv ⊢
      obtain ⟨T, cs, b', g1, g2, g3⟩ := hv
      rw [g1] at h2
      cases h2 with
      | box hcl => exact ⟨T, _, b', h1, by rw [h3]; exact g2, g3⟩
      | dead h => simp [Blk.kind] at h
  | .own k, y, v, h, hkk, hv => by
    cases h with
    | any => unfold VR; trivial
    | @own _ k' e =>
      subst e
      obtain ⟨b, h1, h2, h3⟩ := hk k' (hkk k' (by simp [keysA]))
      unfold VR at hv ⊢
      refine ⟨hv.1, ?_⟩
      rcases hv.2 with ⟨x, g1, g2, g3⟩ | g1
      · rw [g1] at h2
        cases h2 with
        | row hl => exact .inl ⟨_, h1, .inl rfl, by rw [h3]; exact g3⟩
        | box hl => simp [Blk.kind] at g2
        | res => exact .inl ⟨_, h1, .inr rfl, by rw [h3]; exact g3⟩
        | dead h => exact .inr h1
      · rw [g1] at h2; cases h2; exact .inr h1
  | .elt k n i off, y, v, h, hkk, hv => by
    cases h with
    | any => unfold VR; trivial
    | @elt _ k' _ _ _ e =>
      subst e
      obtain ⟨b, h1, h2, h3⟩ := hk k' (hkk k' (by simp [keysA]))
      unfold VR at hv ⊢
      refine ⟨hv.1, ?_⟩
      rcases hv.2 with ⟨x, g1, g2, g3⟩ | g1
      · rw [g1] at h2
        cases h2 with
        | row hl => exact .inl ⟨_, h1, .inl rfl, by rw [h3]; exact g3⟩
        | box hl => simp [Blk.kind] at g2
        | res => exact .inl ⟨_, h1, .inr rfl, by rw [h3]; exact g3⟩
        | dead h => exact .inr h1
      · rw [g1] at h2; cases h2; exact .inr h1
  | .agg l, y, v, h, _, _ => by
    cases h with
    | any => unfold VR; trivial
  | .tup l, y, v, h, _, _ => by
    cases h with
    | any => unfold VR; trivial
  | .any, y, v, h, _, _ => by
    cases h with
    | any => unfold VR; trivial
  | .iface t x, y, v, h, hkk, hv => by
    cases h with
    | any => unfold VR; trivial
    | iface h' =>
      unfold VR at hv ⊢
      obtain ⟨u, e, hu⟩ := hv
      exact ⟨u, e, ale_val K hs hk x _ h' (fun k hk => hkk k (by simpa [keysA] using hk)) hu⟩
  | .clo f l, y, v, h, hkk, hv => by
    cases h with
    | any => unfold VR; trivial
    | clo h' =>
      unfold VR at hv ⊢
      obtain ⟨u, e, hu⟩ := hv
      exact ⟨u, e, cle_val K hs hk l _ h' (fun k hk => hkk k (by simpa [keysA] using hk)) hu⟩
theorem cle_val {w : World} {F F' : Nat → Prop} {t1 t2 : Nat → Option Blk} {ρ ρ' : Nat → RV} {θ : Nat → Nat} (K : Nat → Prop) (hs : ∀ b, F b → F' b)
    (hk : ∀ k', K k' → ∃ y, t2 k' = some y ∧ BLe θ (t1 (θ k')) y ∧ ρ' k' = ρ (θ k')) : ∀ (l l' : List AV) {vs : List Value}, CLe θ l l' → (∀ k ∈ keysAs l', K k) → VRs w F t1 ρ l vs → VRs w F' t2 ρ' l' vs
  | [], _, vs, h, _, hv => by cases h; unfold VRs at hv ⊢; exact hv
  | x :: r, _, vs, h, hkk, hv => by
    cases h with
    | @cons _ y _ r' h1 h2 =>
      unfold VRs at hv ⊢
      obtain ⟨v, q, e, hx, hr⟩ := hv
      exact ⟨v, q, e, ale_val K hs hk x y h1 (fun k hk => hkk k (by simp only [keysAs, List.mem_append]; exact .inl hk)) hx, cle_val K hs hk r r' h2 (fun k hk => hkk k (by simp only [keysAs, List.mem_append]; exact .inr hk)) hr⟩
end
theorem mem_keysAs {k : Nat} : ∀ {l : List AV}, k ∈ keysAs l → ∃ x ∈ l, k ∈ keysA x
  | [], h => by simp [keysAs] at h
  | x :: r, h => by
    simp only [keysAs, List.mem_append] at h
    rcases h with h | h
    · exact ⟨x, List.mem_cons_self .., h⟩
    · obtain ⟨y, hy, hk⟩ := mem_keysAs h
      exact ⟨y, List.mem_cons_of_mem _ hy, hk⟩
theorem Conc.sub {tm : List (Nat × AV)} {tb : List (Nat × Blk)} (θ : Nat → Nat) (htm : ∀ t x, (t, x) ∈ tm → ALe θ (s.tm t) x) (htb : ∀ k b, (k, b) ∈ tb → BLe θ (s.tb (θ k)) b)
    (hinj : ∀ k k' b b', (k, b) ∈ tb → (k', b') ∈ tb → b.live = true → b'.live = true → θ k = θ k' → k = k') (hkeys : ∀ t x, (t, x) ∈ tm → ∀ k ∈ keysA x, ∃ b, (k, b) ∈ tb)
    (hkeysB : ∀ k t cs, (k, Blk.box t cs) ∈ tb → ∀ x ∈ cs, ∀ k' ∈ keysA x, ∃ b, (k', b) ∈ tb) (hlent : ∀ k b, (k, b) ∈ tb → 1000 ≤ k → θ k = k) {a : Act} {w : World} (hc : Conc X s a w) : Conc X (mkSta tm tb) a w := by
  obtain ⟨ρ, hc⟩ := hc
  have hlkB : ∀ (l : List (Nat × Blk)) k b, lkB l k = some b → (k, b) ∈ l := by
    intro l
    induction l with
    | nil => intro k b h; simp [lkB] at h
    | cons x r ih =>
      obtain ⟨t, y⟩ := x
      intro k b h
      unfold lkB at h
      split at h
      · rename_i e; subst e; simp only [Option.some.injEq] at h; subst h; exact List.mem_cons_self
      · exact List.mem_cons_of_mem _ (ih k b h)
  have hlkA : ∀ (l : List (Nat × AV)) t, lkA l t = .any ∨ (t, lkA l t) ∈ l := by
    intro l
    induction l with
    | nil => intro t; exact .inl rfl
    | cons x r ih =>
      obtain ⟨t', y⟩ := x
      intro t
      unfold lkA
      split
      · rename_i e; subst e; exact .inr List.mem_cons_self
      · rcases ih t with h | h
        · exact .inl h
        · exact .inr (List.mem_cons_of_mem _ h)
  have hsome : ∀ (l : List (Nat × Blk)) k b, (k, b) ∈ l → ∃ b', lkB l k = some b' := by
    intro l
    induction l with
    | nil => intro k b h; cases h
    | cons x r ih =>
      obtain ⟨t', y⟩ := x
      intro k b h
      unfold lkB
      split
      · exact ⟨_, rfl⟩
      · rename_i hne
        rcases List.mem_cons.1 h with h | h
        · cases h; exact absurd rfl hne
        · exact ih k b h
  let ρ' : Nat → RV := fun k => ρ (θ k)
  have hlive : ∀ k blk, lkB tb k = some blk → blk.live = true → liveB (s.tb (θ k)) = true := by
    intro k blk hx hl
    have h1 := htb k blk (hlkB tb k blk hx)
    generalize s.tb (θ k) = q at h1
    cases h1 <;> first | rfl | cases hl
  have hs : ∀ b, FF X w s.tb ρ b → FF X w (mkSta tm tb).tb ρ' b := by
    intro b hb
    refine ⟨hb.1, hb.2.1, fun k hk e => ?_⟩
    cases hx : lkB tb k with
    | none => have : liveB (lkB tb k) = true := hk; rw [hx] at this; cases this
    | some blk => exact hb.2.2 (θ k) (hlive k blk hx (by have : liveB (lkB tb k) = true := hk; rw [hx] at this; exact this)) e
  have hK : ∀ k', (∃ b, (k', b) ∈ tb) → ∃ y, (mkSta tm tb).tb k' = some y ∧ BLe θ (s.tb (θ k')) y ∧ ρ' k' = ρ (θ k') := by
    rintro k' ⟨b, hb⟩
    obtain ⟨b2, hb2⟩ := hsome tb k' b hb
    exact ⟨b2, hb2, htb k' b2 (hlkB tb k' b2 hb2), rfl⟩
  refine ⟨ρ', hc.size, hc.defers, hc.below, fun t => ?_, fun k blk hk => ?_, fun k k' b h1 h2 e1 e2 => ?_, fun k hk hl => ?_⟩
  · show VR _ _ _ _ (lkA tm t) _
    rcases hlkA tm t with h | h
    · rw [h]; unfold VR; trivial
    · exact ale_val _ hs hK _ _ (htm t _ h) (hkeys t _ h) (hc.tmps t)
  · have h1 := htb k blk (hlkB tb k blk hk)
    have hbk : ∀ b, s.tb (θ k) = some b → BR X w s.tb ρ (θ k) b := fun b h => hc.blks (θ k) b h
    generalize s.tb (θ k) = q at h1 hbk
    cases h1 with
    | @row e n y l l' hl =>
      subst hl
      obtain ⟨xs, g0, gm, g1, g2, g3, g4⟩ := hbk _ rfl
      exact ⟨xs, g0, gm, g1, g2.keep (fun _ _ => rfl) hs, g3, g4⟩
    | @box t cs cs' hcl =>
      obtain ⟨b, vs, e, g1, g2, g3, g4⟩ := hbk _ rfl
      refine ⟨b, vs, e, g1, g2, cle_val _ hs hK cs cs' hcl (fun k' hk' => ?_) g3, g4⟩
      obtain ⟨x, hx, hkx⟩ := mem_keysAs hk'
      exact hkeysB k t cs' (hlkB tb k _ hk) x hx k' hkx
    | @res R =>
      obtain ⟨g1, g2⟩ := hbk _ rfl
      exact ⟨R.keep _ _ _ _ _ _ (fun _ _ => rfl) hs (fun _ _ => rfl) g1, g2⟩
    | dead h => trivial
  · obtain ⟨y, hx, l1⟩ := live_some h1
    obtain ⟨y', hx', l2⟩ := live_some h2
    exact hinj k k' y y' (hlkB _ _ _ hx) (hlkB _ _ _ hx') l1 l2 (hc.apart (θ k) (θ k') b (hlive k y hx l1) (hlive k' y' hx' l2) e1 e2)
  · obtain ⟨y, hx, l1⟩ := live_some hl
    have e := hlent k y (hlkB _ _ _ hx) hk
    show (ρ (θ k)).v = _
    rw [e]
    exact hc.lent k hk (by have := hlive k y hx l1; rwa [e] at this)
/-- The same, by a test on the lists: what is to be shown of each entry. -/
def subTm (s : Sta) (θ : Nat → Nat) : List (Nat × AV) → Prop
  | [] => True
  | (t, x) :: r => ALe θ (s.tm t) x ∧ subTm s θ r
def subTb (s : Sta) (θ : Nat → Nat) : List (Nat × Blk) → Prop
  | [] => True
  | (k, b) :: r => BLe θ (s.tb (θ k)) b ∧ subTb s θ r
def keysIn (tb : List (Nat × Blk)) : List (Nat × AV) → Bool
  | [] => true
  | (_, x) :: r => (keysA x).all (fun k => (tb.map (·.1)).contains k) && keysIn tb r
def keysInB (tb : List (Nat × Blk)) : List (Nat × Blk) → Bool
  | [] => true
  | (_, .box _ cs) :: r => (keysAs cs).all (fun k => (tb.map (·.1)).contains k) && keysInB tb r
  | _ :: r => keysInB tb r
def injOn (θ : Nat → Nat) : List (Nat × Blk) → Bool
  | [] => true
  | (k, _) :: r => r.all (fun p => !(Nat.beq (θ k) (θ p.1)) || Nat.beq k p.1) && injOn θ r
/-- The same among those that live. -/
def injL (θ : Nat → Nat) : List (Nat × Blk) → Bool
  | [] => true
  | (k, b) :: r => (!b.live || r.all (fun p => !(Nat.beq (θ k) (θ p.1)) || (Nat.beq k p.1 || !p.2.live))) && injL θ r
def lentIn (θ : Nat → Nat) : List (Nat × Blk) → Bool
  | [] => true
  | (k, _) :: r => (Nat.blt k 1000 || Nat.beq (θ k) k) && lentIn θ r
structure SubS (s : Sta) (tm : List (Nat × AV)) (tb : List (Nat × Blk)) (θ : Nat → Nat) : Prop where
  t : subTm s θ tm
  b : subTb s θ tb
  k : (keysIn tb tm && keysInB tb tb && injL θ tb && lentIn θ tb) = true
theorem SubS.conc {tm : List (Nat × AV)} {tb : List (Nat × Blk)} {θ : Nat → Nat} (h : SubS s tm tb θ) {a : Act} {w : World} (hc : Conc X s a w) : Conc X (mkSta tm tb) a w := by
  have hk := h.k
  simp only [Bool.and_eq_true] at hk
  have h1 : ∀ (l : List (Nat × AV)), subTm s θ l → ∀ t x, (t, x) ∈ l → ALe θ (s.tm t) x := by
    intro l
    induction l with
    | nil => intro _ t x h; cases h
    | cons p r ih =>
      obtain ⟨t', y⟩ := p
      intro hl t x hm
      rcases List.mem_cons.1 hm with h | h
      · cases h; exact hl.1
      · exact ih hl.2 t x h
  have h2 : ∀ (l : List (Nat × Blk)), subTb s θ l → ∀ t x, (t, x) ∈ l → BLe θ (s.tb (θ t)) x := by
    intro l
    induction l with
    | nil => intro _ t x h; cases h
    | cons p r ih =>
      obtain ⟨t', y⟩ := p
      intro hl t x hm
      rcases List.mem_cons.1 hm with h | h
      · cases h; exact hl.1
      · exact ih hl.2 t x h
  have h3 : ∀ (l : List (Nat × AV)), keysIn tb l = true → ∀ t x, (t, x) ∈ l → ∀ k ∈ keysA x, ∃ b, (k, b) ∈ tb := by
    intro l
    induction l with
    | nil => intro _ t x h; cases h
    | cons p r ih =>
      obtain ⟨t', y⟩ := p
      intro hl t x hm k hk
      simp only [keysIn, Bool.and_eq_true] at hl
      rcases List.mem_cons.1 hm with h | h
      · cases h
        have := List.all_eq_true.1 hl.1 k hk
        simp only [List.contains_iff_mem, List.mem_map] at this
        obtain ⟨q, hq, rfl⟩ := this
        exact ⟨q.2, hq⟩
      · exact ih hl.2 t x h k hk
  have h4 : ∀ (l : List (Nat × Blk)), injL θ l = true → ∀ k k' b b', (k, b) ∈ l → (k', b') ∈ l → b.live = true → b'.live = true → θ k = θ k' → k = k' := by
    intro l
    induction l with
    | nil => intro _ k k' b b' h; cases h
    | cons p r ih =>
      obtain ⟨t', y⟩ := p
      intro hl k k' b b' h h' l1 l2 e
      simp only [injL, Bool.and_eq_true, Bool.or_eq_true, Bool.not_eq_true'] at hl
      have key : y.live = true → ∀ k2 b2, (k2, b2) ∈ r → b2.live = true → θ t' = θ k2 → t' = k2 := by
        intro hy k2 b2 hm hl2 he
        rcases hl.1 with h0 | h0
        · rw [hy] at h0; cases h0
        · have := List.all_eq_true.1 h0 (k2, b2) hm
          simp only [Bool.or_eq_true, Bool.not_eq_true'] at this
          rcases this with h1 | h1 | h1
          · rw [he, Nat.beq_refl] at h1; cases h1
          · exact Nat.eq_of_beq_eq_true h1
          · rw [hl2] at h1; cases h1
      rcases List.mem_cons.1 h with h1 | h1 <;> rcases List.mem_cons.1 h' with h2 | h2
      · cases h1; cases h2; rfl
      · cases h1; exact key l1 _ _ h2 l2 e
      · cases h2; exact (key l2 _ _ h1 l1 e.symm).symm
      · exact ih hl.2 k k' b b' h1 h2 l1 l2 e
  have h5 : ∀ (l : List (Nat × Blk)), keysInB tb l = true → ∀ k t cs, (k, Blk.box t cs) ∈ l → ∀ x ∈ cs, ∀ k' ∈ keysA x, ∃ b, (k', b) ∈ tb := by
    intro l
    induction l with
    | nil => intro _ k t cs h; cases h
    | cons p r ih =>
      obtain ⟨t', y⟩ := p
      intro hl k t cs hm x hx k' hk'
      have hr : keysInB tb r = true := by
        cases y <;> simp only [keysInB, Bool.and_eq_true] at hl <;> first | exact hl.2 | exact hl
      rcases List.mem_cons.1 hm with h | h
      · cases h
        simp only [keysInB, Bool.and_eq_true] at hl
        have hmem : k' ∈ keysAs cs := by
          clear hl hm
          induction cs with
          | nil => cases hx
          | cons z zs ihz =>
            unfold keysAs
            rcases List.mem_cons.1 hx with rfl | hx
            · exact List.mem_append_left _ hk'
            · exact List.mem_append_right _ (ihz hx)
        have := List.all_eq_true.1 hl.1 k' hmem
        simp only [List.contains_iff_mem, List.mem_map] at this
        obtain ⟨q, hq, rfl⟩ := this
        exact ⟨q.2, hq⟩
      · exact ih hr k t cs h x hx k' hk'
  have h6 : ∀ (l : List (Nat × Blk)), lentIn θ l = true → ∀ k b, (k, b) ∈ l → 1000 ≤ k → θ k = k := by
    intro l
    induction l with
    | nil => intro _ k b h; cases h
    | cons p r ih =>
      obtain ⟨t', y⟩ := p
      intro hl k b hm hk
      simp only [lentIn, Bool.and_eq_true, Bool.or_eq_true] at hl
      rcases List.mem_cons.1 hm with h | h
      · cases h
        rcases hl.1 with h1 | h1
        · have := Nat.blt_eq.mp h1; omega
        · exact Nat.eq_of_beq_eq_true h1
      · exact ih hl.2 k b h hk
  exact Conc.sub θ (h1 tm h.t) (h2 tb h.b) (h4 tb hk.1.2) (h3 tm hk.1.1.1) (h5 tb hk.1.1.2) (h6 tb hk.2) hc
/-- A loop whose states at the head of a round are written out. -/
theorem run_loopS {c : Code} {ι : Type} (tm : ι → List (Nat × AV)) (tb : ι → List (Nat × Blk)) (m : ι → Nat) (i0 : ι) (θ0 : Nat → Nat) (h0 : SubS s (tm i0) (tb i0) θ0)
    (h : ∀ i, Run P X N Q (.code c :: .again (fun s' => ∃ j θ, m j < m i ∧ SubS s' (tm j) (tb j) θ) :: ks) (mkSta (tm i) (tb i))) : Run P X N Q (.code (.loop c) :: ks) s := by
  refine run_loop (fun i => mkSta (tm i) (tb i)) m i0 (fun a w hc => h0.conc hc) fun i => ?_
  refine ⟨fun hN a w hc => ?_⟩
  have := (h i).out hN a w hc
  have mono : ∀ (ks : List Itm) (R R' : Sta → Prop), (∀ s, R s → R' s) → ∀ a w, post P X Q (.code c :: .again R :: ks) .normal a w → post P X Q (.code c :: .again R' :: ks) .normal a w := by
    intro ks R R' hR a w hp
    refine wp_mono hp fun e a w q => ?_
    cases e with
    | normal => obtain ⟨s, h1, h2⟩ := q; exact ⟨s, hR s h1, h2⟩
    | _ => exact q
  exact mono ks _ _ (fun s' ⟨j, θ, h1, h2⟩ => ⟨j, h1, fun a w hc => h2.conc hc⟩) a w this
end
end Go.Proofs.Ytbbacpdbbmjblaa
namespace Go.Proofs.Ytbbacpdbbmjblaa
open Go.RowKit
set_option linter.unusedSimpArgs false
set_option linter.unusedVariables false
section
variable {P : Program} {X : Base} {N : Nat} {Q : Exit → Act → World → Prop} {s s' : Sta} {ks : List Itm} {ops : Array Oper} {rem : List Nat} {a : Act} {w w' : World} {ρ : Nat → RV}
/-- The length of a string. -/
def strT (P : Program) (t : TypeId) : Bool := match P.underlying t with
  | some .string => true
  | _ => false
theorem op_lenS {o : Oper} (hd : dstOk X.N o.dst = true) {x : Operand} {t : TypeId} (ho : o.op = .call { callee := .builtin .len, args := #[x], argTypes := #[t] }) {b : ByteArray} (hx : s.ev x = .dat (.val (.string b))) (ht : strT P t = true) :
    OpS P X o s (s.put o.dst (.dat (.val (.int .i64 ((b.size : Nat) : Int))))) := by
  have hu : P.underlying t = some .string := by
    unfold strT at ht
    split at ht
    · assumption
    · cases ht
  refine opS_value hd fun a w ρ hc => ⟨.int .i64 ((b.size : Nat) : Int), ?_, ?_⟩
  · have h1 := hc.ev x
    rw [hx] at h1
    unfold VR Rep at h1
    simp [execOp, ho, resolve, invoke, builtin, h1.1, run_len_string _ _ _ _ hu, goInt]
  · have h1 := hc.ev x
    rw [hx] at h1
    unfold VR Rep at h1 ⊢
    have hs : b.size ≤ maxLen := h1.2
    refine ⟨rfl, ?_⟩
    show (Lit.int .i64 _).wf = true
    unfold maxLen at hs
    simp [Lit.wf, IntKind.min, IntKind.max, IntKind.bits, IntKind.signed]
    omega
theorem k_lenS {d : Nat} {x : Operand} {t : TypeId} {b : ByteArray} (hN : Nat.blt d N = true) (hx : s.ev x = .dat (.val (.string b))) (ht : strT P t = true) (h : Run P X N Q (.ops ops rem :: ks) (s.put (some d) (.dat (.val (.int .i64 ((b.size : Nat) : Int)))))) :
    RunK P X N Q ops rem ks (some d) (.call { callee := .builtin .len, args := #[x], argTypes := #[t] }) s := k_of hN (fun _ _ _ hd => op_lenS hd rfl hx ht) h
/-- Two bools compared. -/
def boolT (P : Program) (t : TypeId) : Bool := match P.underlying t with
  | some .bool => true
  | _ => false
def cmpB : BinOp → Bool → Bool → Option Bool
  | .eql, a, b => some (a == b)
  | .neq, a, b => some (!(a == b))
  | _, _, _ => none
theorem op_cmpBool {o : Oper} (hd : dstOk X.N o.dst = true) {op : BinOp} {t t' : TypeId} {x y : Operand} (ho : o.op = .binOp op t x y t') {p q r : Bool} (hx : s.ev x = .dat (.val (.bool p))) (hy : s.ev y = .dat (.val (.bool q))) (ht : boolT P t = true) (hr : cmpB op p q = some r) :
    OpS P X o s (s.put o.dst (.dat (.val (.bool r)))) := by
  have hu : P.underlying t = some .bool := by
    unfold boolT at ht
    split at ht
    · assumption
    · cases ht
  refine op_bin hd ho hx hy (fun w => ?_) trivial
  have he : (Op.equal t (.bool p) (.bool q)).run P w = .ok (p == q) w := by
    show (Op.equalIn (9999 + 1) t _ _).run P w = _
    unfold Op.equalIn
    rw [Sem.run_bind, run_underlying hu]; rfl
  unfold cmpB at hr
  split at hr <;> cases hr
  · have : (binOp .eql t (.bool p) (.bool q)).run P w = .ok (.bool (p == q)) w := by show (do pure (.bool (← _)) : Sem Value).run P w = _; simp [he]
    rw [Sem.run_bind, show (eqGuard BinOp.eql t x y (.bool p) (.bool q)).run P w = .ok () w from rfl]; exact this
  · have : (binOp .neq t (.bool p) (.bool q)).run P w = .ok (.bool (!(p == q))) w := by show (do pure (.bool (!(← _))) : Sem Value).run P w = _; simp [he]
    rw [Sem.run_bind, show (eqGuard BinOp.neq t x y (.bool p) (.bool q)).run P w = .ok () w from rfl]; exact this
theorem k_cmpBool {d : Nat} {x y : Operand} {op : BinOp} {t t' : TypeId} {p q r : Bool} (hN : Nat.blt d N = true) (hx : s.ev x = .dat (.val (.bool p))) (hy : s.ev y = .dat (.val (.bool q))) (ht : boolT P t = true) (hr : cmpB op p q = some r) (h : Run P X N Q (.ops ops rem :: ks) (s.put (some d) (.dat (.val (.bool r))))) :
    RunK P X N Q ops rem ks (some d) (.binOp op t x y t') s := k_of hN (fun _ _ _ hd => op_cmpBool hd rfl hx hy ht hr) h
theorem run_cell {t n : Nat} {g : Bool} (ht : varI P t = some (n, g)) (hc : ConcAt X s a w ρ) {p k off : Nat} (hp : s.tm p = .ptr k off) {T : TypeId} {cs : List AV} (hk : s.tb k = some (.box T cs)) {r : AV} (hf : subA g n off cs = some r) :
    ∃ v b, a.tmps.getD p undef = .pointer (some ⟨b, off, none⟩) ∧ (loadVar t ⟨b, off, none⟩).run P w = .ok v w ∧ VR w (FF X w s.tb ρ) s.tb ρ r v := by
  have h2 := hc.tmps p
  rw [hp] at h2
  unfold VR at h2
  obtain ⟨T', cs', b, hk', hρ, e⟩ := h2
  obtain ⟨b', vs, hρ', hB, hb, hvs, h1⟩ := hc.blks k _ hk
  have hρ2 : Value.pointer (some ⟨b, 0, none⟩) = .pointer (some ⟨b', 0, none⟩) := hρ.symm.trans (congrArg RV.v hρ')
  simp only [Value.pointer.injEq, Option.some.injEq, Addr.mk.injEq, and_true] at hρ2
  subst hρ2
  have hl := lies_block hb off
  cases g with
  | true =>
    simp only [subA, if_true] at hf
    split at hf
    · rename_i hle
      simp only [Option.some.injEq] at hf
      subst hf
      have hv := (hvs.drop off).take n
      have h1' : ∀ u ∈ (vs.drop off).take n, u.oneCell' = true := fun u hu => h1 u (List.mem_of_mem_drop (List.mem_of_mem_take hu))
      exact ⟨_, b, e, run_loadVar_agg ht (cs := (vs.drop off).take n) (by rw [List.length_take, List.length_drop, hvs.length]; omega) (hl.take n), VR_mkAgg hv h1'⟩
    · cases hf
  | false =>
    simp only [subA, Bool.false_eq_true, if_false] at hf
    obtain ⟨v, hv, hr⟩ := hvs.at_ hf
    exact ⟨v, b, e, run_loadVar_cell ht (by rw [cell_of_row w b off _ _ _ hb]; simpa using hv), hr⟩
theorem resOk_cell {fn : Func} {p t : Nat} (hf : fn.results = #[.cell p t]) {k off n T : Nat} {g : Bool} {cs : List AV} {d r : PD} (hp : s.tm p = .ptr k off) (hk : s.tb k = some (.box T cs)) [ht : VI P t n g] (hs : subA g n off cs = some (.dat d)) (hle : PLe d r) : resOk P fn r s := by
  intro X a w ⟨ρ0, hc0⟩
  obtain ⟨v, b, e1, e2, e3⟩ := run_cell ht.out hc0 hp hk hs
  have e0 : a.tmps[p]?.getD undef = .pointer (some ⟨b, off, none⟩) := by rw [← Array.getD_eq_getD_getElem?]; exact e1
  refine ⟨v, by simp [results, hf, e0, asAddr, e2], fun ρ hc => ?_⟩
  obtain ⟨v', b', e1', e2', e3'⟩ := run_cell ht.out hc hp hk hs
  rw [e1] at e1'
  simp only [Value.pointer.injEq, Option.some.injEq, Addr.mk.injEq, and_true] at e1'
  subst e1'
  rw [e2] at e2'
  cases e2'
  unfold VR at e3'
  exact hle _ _ _ e3'
end
end Go.Proofs.Ytbbacpdbbmjblaa
namespace Go.Proofs.Ytbbacpdbbmjblaa
open Go.RowKit
/-- Data that can lie in memory. -/
def Fits (d : PD) : Prop := ∃ w F v, Rep w F d v
theorem Fits.agg {l : List PD} (h : Fits (.agg l)) {d : PD} (hd : d ∈ l) : Fits d := by
  obtain ⟨w, F, v, h⟩ := h
  unfold Rep at h
  obtain ⟨vs, _, hr, _⟩ := h
  obtain ⟨i, hi⟩ := List.mem_iff_getElem?.1 hd
  obtain ⟨u, _, hu⟩ := hr.at_ hi
  exact ⟨w, F, u, hu⟩
theorem Fits.aggAt {l : List PD} (h : Fits (.agg l)) (i : Nat) {d : PD} (hd : l[i]? = some d) : Fits d := h.agg (List.mem_of_getElem? hd)
theorem Fits.sl {n y : Nat} {l : List PD} (h : Fits (.sl n y l)) : l.length * y ≤ 140737488351232 ∧ l.length ≤ 140737488351232 ∧ ∀ d ∈ l, Fits d := by
  obtain ⟨w, F, v, h⟩ := h
  unfold Rep at h
  obtain ⟨a, c, _, _, h1, h2, h3⟩ := h
  refine ⟨h1, h2, fun d hd => ?_⟩
  rcases h3 with rfl | ⟨b, o, _, _, hr⟩
  · cases hd
  · obtain ⟨i, hi⟩ := List.mem_iff_getElem?.1 hd
    obtain ⟨u, hu, _⟩ := hr.at_ hi
    exact ⟨w, F, u, hu⟩
section
variable {P : Program} {X : Base} {N : Nat} {Q : Exit → Act → World → Prop} {s s' : Sta} {ks : List Itm}
theorem pcall_fits {f : FuncId} {ds : List PD} {r : PD} (h : (∀ d ∈ ds, Fits d) → PCall P f ds r) : PCall P f ds r := by
  intro w F vs hF hv
  refine h (fun d hd => ?_) w F vs hF hv
  obtain ⟨i, hi⟩ := List.mem_iff_getElem?.1 hd
  obtain ⟨u, _, hu⟩ := hv.at_ hi
  exact ⟨w, F, u, hu⟩
end
end Go.Proofs.Ytbbacpdbbmjblaa
end
section
set_option linter.unusedVariables false
namespace Go.Proofs.Ytbbacpdbbmjblaa
open Go.RowKit
set_option linter.unusedSimpArgs false
mutual
def renA (θ : Nat → Nat) : AV → AV
  | .any => .any
  | .dat d => .dat d
  | .ptr k off => .ptr (θ k) off
  | .own k => .own (θ k)
  | .agg l => .agg (renAs θ l)
  | .tup l => .tup (renAs θ l)
  | .iface t x => .iface t (renA θ x)
  | .clo f l => .clo f (renAs θ l)
  | .elt k n i off => .elt (θ k) n i off
def renAs (θ : Nat → Nat) : List AV → List AV
  | [] => []
  | x :: r => renA θ x :: renAs θ r
end
def renB (θ : Nat → Nat) : Blk → Blk
  | .box t cs => .box t (renAs θ cs)
  | .row e n y l => .row e n y l
  | .res R => .res R
  | .dead => .dead
theorem renB_kind (θ : Nat → Nat) (x : Blk) : (renB θ x).kind = x.kind := by cases x <;> rfl
theorem renB_live (θ : Nat → Nat) (x : Blk) : (renB θ x).live = x.live := by cases x <;> rfl
section
variable {w w' : World} {F F' : Nat → Prop} {t1 t2 : Nat → Option Blk} {ρ1 ρ2 : Nat → RV} {θ : Nat → Nat}
/-- From the callee's names to the caller's. -/
theorem heldK.ren (K : Nat → Prop) (hk : ∀ k x, t1 k = some x → t2 (θ k) = some (renB θ x) ∧ (ρ2 (θ k)).v = (ρ1 k).v) {k : Nat} {p : Value → Prop} (h : heldK t1 ρ1 k p) : heldK t2 ρ2 (θ k) p := by
  rcases h with ⟨x, h1, h2, h3⟩ | h1
  · obtain ⟨g1, g2⟩ := hk k x h1
    exact .inl ⟨_, g1, by rw [renB_kind]; exact h2, by rw [g2]; exact h3⟩
  · exact .inr (hk k _ h1).1
mutual
theorem VR.ren (hs : ∀ b, F b → F' b) (hk : ∀ k x, t1 k = some x → t2 (θ k) = some (renB θ x) ∧ (ρ2 (θ k)).v = (ρ1 k).v) : ∀ (x : AV) {v : Value}, VR w F t1 ρ1 x v → VR w F' t2 ρ2 (renA θ x) v
  | .any, v, _ => by unfold renA VR; trivial
  | .dat d, v, hv => by unfold renA; unfold VR at hv ⊢; exact hv.keep (fun _ _ => rfl) hs d
  | .ptr k off, v, hv => by
    unfold renA; unfold VR at hv ⊢
    obtain ⟨t, cs, b, h1, h2, h3⟩ := hv
    obtain ⟨g1, g2⟩ := hk k _ h1
    exact ⟨t, _, b, g1, g2.trans h2, h3⟩
  | .own k, v, hv => by unfold renA; unfold VR at hv ⊢; exact ⟨hv.1, hv.2.ren (fun _ => True) hk⟩
  | .elt k n i off, v, hv => by unfold renA; unfold VR at hv ⊢; exact ⟨hv.1, hv.2.ren (fun _ => True) hk⟩
  | .agg l, v, hv => by
    unfold renA; unfold VR at hv ⊢
    obtain ⟨vs, e, h1, h2⟩ := hv
    exact ⟨vs, e, VRs.ren hs hk l h1, h2⟩
  | .tup l, v, hv => by
    unfold renA; unfold VR at hv ⊢
    obtain ⟨vs, e, h1⟩ := hv
    exact ⟨vs, e, VRs.ren hs hk l h1⟩
  | .iface t x, v, hv => by
    unfold renA; unfold VR at hv ⊢
    obtain ⟨u, e, h1⟩ := hv
    exact ⟨u, e, VR.ren hs hk x h1⟩
  | .clo f l, v, hv => by
    unfold renA; unfold VR at hv ⊢
    obtain ⟨vs, e, h1⟩ := hv
    exact ⟨vs, e, VRs.ren hs hk l h1⟩
theorem VRs.ren (hs : ∀ b, F b → F' b) (hk : ∀ k x, t1 k = some x → t2 (θ k) = some (renB θ x) ∧ (ρ2 (θ k)).v = (ρ1 k).v) : ∀ (l : List AV) {vs : List Value}, VRs w F t1 ρ1 l vs → VRs w F' t2 ρ2 (renAs θ l) vs
  | [], vs, hv => by unfold renAs; unfold VRs at hv ⊢; exact hv
  | x :: r, vs, hv => by
    unfold renAs; unfold VRs at hv ⊢
    obtain ⟨v, q, e, h1, h2⟩ := hv
    exact ⟨v, q, e, VR.ren hs hk x h1, VRs.ren hs hk r h2⟩
end
/-- From the caller's names to the callee's: of the keys that the value bears. -/
theorem heldK.ner (K : Nat → Prop) (hk : ∀ k, K k → ∃ x, t1 k = some x ∧ t2 (θ k) = some (renB θ x) ∧ (ρ2 (θ k)).v = (ρ1 k).v) {k : Nat} (hK : K k) {p : Value → Prop} (h : heldK t2 ρ2 (θ k) p) : heldK t1 ρ1 k p := by
  obtain ⟨x, g0, g1, g2⟩ := hk k hK
  rcases h with ⟨y, h1, h2, h3⟩ | h1
  · rw [g1] at h1
    cases h1
    rw [renB_kind] at h2
    exact .inl ⟨x, g0, h2, by rw [← g2]; exact h3⟩
  · rw [g1] at h1
    simp only [Option.some.injEq] at h1
    refine .inr ?_
    cases x <;> simp [renB] at h1
    exact g0
mutual
theorem VR.ner (K : Nat → Prop) (hs : ∀ b, F b → F' b) (hk : ∀ k, K k → ∃ x, t1 k = some x ∧ t2 (θ k) = some (renB θ x) ∧ (ρ2 (θ k)).v = (ρ1 k).v) : ∀ (x : AV) {v : Value}, (∀ k ∈ keysA x, K k) → VR w F t2 ρ2 (renA θ x) v → VR w F' t1 ρ1 x v
  | .any, v, _, _ => by unfold VR; trivial
  | .dat d, v, _, hv => by unfold renA at hv; unfold VR at hv ⊢; exact hv.keep (fun _ _ => rfl) hs d
  | .ptr k off, v, hK, hv => by
    unfold renA at hv; unfold VR at hv ⊢
    obtain ⟨t, cs, b, h1, h2, h3⟩ := hv
    obtain ⟨x, g0, g1, g2⟩ := hk k (hK k (by simp [keysA]))
    rw [g1] at h1
    cases x <;> simp [renB] at h1
    exact ⟨_, _, b, g0, g2.symm.trans h2, h3⟩
  | .own k, v, hK, hv => by unfold renA at hv; unfold VR at hv ⊢; exact ⟨hv.1, hv.2.ner K hk (hK k (by simp [keysA]))⟩
  | .elt k n i off, v, hK, hv => by unfold renA at hv; unfold VR at hv ⊢; exact ⟨hv.1, hv.2.ner K hk (hK k (by simp [keysA]))⟩
  | .agg l, v, hK, hv => by
    unfold renA at hv; unfold VR at hv ⊢
    obtain ⟨vs, e, h1, h2⟩ := hv
    exact ⟨vs, e, VRs.ner K hs hk l (fun k h => hK k (by simpa [keysA] using h)) h1, h2⟩
  | .tup l, v, hK, hv => by
    unfold renA at hv; unfold VR at hv ⊢
    obtain ⟨vs, e, h1⟩ := hv
    exact ⟨vs, e, VRs.ner K hs hk l (fun k h => hK k (by simpa [keysA] using h)) h1⟩
  | .iface t x, v, hK, hv => by
    unfold renA at hv; unfold VR at hv ⊢
    obtain ⟨u, e, h1⟩ := hv
    exact ⟨u, e, VR.ner K hs hk x (fun k h => hK k (by simpa [keysA] using h)) h1⟩
  | .clo f l, v, hK, hv => by
    unfold renA at hv; unfold VR at hv ⊢
    obtain ⟨vs, e, h1⟩ := hv
    exact ⟨vs, e, VRs.ner K hs hk l (fun k h => hK k (by simpa [keysA] using h)) h1⟩
theorem VRs.ner (K : Nat → Prop) (hs : ∀ b, F b → F' b) (hk : ∀ k, K k → ∃ x, t1 k = some x ∧ t2 (θ k) = some (renB θ x) ∧ (ρ2 (θ k)).v = (ρ1 k).v) : ∀ (l : List AV) {vs : List Value}, (∀ k ∈ keysAs l, K k) → VRs w F t2 ρ2 (renAs θ l) vs → VRs w F' t1 ρ1 l vs
  | [], vs, _, hv => by unfold renAs at hv; unfold VRs at hv ⊢; exact hv
  | x :: r, vs, hK, hv => by
    unfold renAs at hv; unfold VRs at hv ⊢
    obtain ⟨v, q, e, h1, h2⟩ := hv
    exact ⟨v, q, e, VR.ner K hs hk x (fun k h => hK k (by simp only [keysAs, List.mem_append]; exact .inl h)) h1, VRs.ner K hs hk r (fun k h => hK k (by simp only [keysAs, List.mem_append]; exact .inr h)) h2⟩
end
end
/-- The blocks of a table lie in memory, apart from one another. -/
structure Lies2 (X : Base) (tb : Nat → Option Blk) (w : World) (ρ : Nat → RV) : Prop where
  blks : ∀ k x, tb k = some x → BR X w tb ρ k x
  apart : ∀ k k' b, liveB (tb k) = true → liveB (tb k') = true → (ρ k).fp b → (ρ k').fp b → k = k'
  lent : ∀ k, 1000 ≤ k → liveB (tb k) = true → (ρ k).v = X.rv k
/-- What a function answers where blocks (the keys from 1000 on) are lent to it: one of these results, with these blocks. -/
def ACall (P : Program) (f : FuncId) (az : List AV) (tbl : List (Nat × Blk)) {ι : Type} (out : ι → AV) (tbl' : ι → List (Nat × Blk)) : Prop :=
  ∀ (X : Base) (ρ : Nat → RV) (vs : List Value), X.P = P → (∀ b, X.L b ↔ ∃ k, liveB (lkB tbl k) = true ∧ (ρ k).fp b) → (∀ b, X.F0 b → ¬ X.L b) → Lies2 X (lkB tbl) X.w0 ρ → VRs X.w0 (FF X X.w0 (lkB tbl) ρ) (lkB tbl) ρ az vs →
    Calls P f vs.toArray X.w0 fun e w' => ∃ v i ρ', e = .returned v ∧ Bel X w' ∧ Lies2 X (lkB (tbl' i)) w' ρ' ∧ VR w' (FF X w' (lkB (tbl' i)) ρ') (lkB (tbl' i)) ρ' (out i) v
def startA (az : List AV) (tbl : List (Nat × Blk)) : Sta := { tm := fun i => match az[i]? with | some x => x | none => .any, tb := lkB tbl }
/-- What comes back out of the state s. -/
def resA (P : Program) (fn : Func) (r : AV) (s : Sta) : Prop := ∀ X a w, Conc X s a w → ∃ v, (results fn a.tmps).run P w = .ok v w ∧ ∀ ρ, ConcAt X s a w ρ → VR w (FF X w s.tb ρ) s.tb ρ r v
def QA (P : Program) (X : Base) (fn : Func) {ι : Type} (out : ι → AV) (tbl' : ι → List (Nat × Blk)) : Exit → Act → World → Prop :=
  fun e a w => (e = .normal ∨ e = .ret) ∧ ∃ s i, resA P fn (out i) s ∧ s.tb = lkB (tbl' i) ∧ Conc X s a w
def lentKeys : List (Nat × Blk) → Bool
  | [] => true
  | (k, _) :: r => Nat.ble 1000 k && lentKeys r
theorem lentKeys_spec : ∀ {l : List (Nat × Blk)}, lentKeys l = true → ∀ k x, lkB l k = some x → 1000 ≤ k
  | [], _, k, x, h => by simp [lkB] at h
  | (q, y) :: r, hl, k, x, h => by
    simp only [lentKeys, Bool.and_eq_true] at hl
    unfold lkB at h
    split at h
    · rename_i e; subst e; exact Nat.le_of_ble_eq_true hl.1
    · exact lentKeys_spec hl.2 k x h
theorem acall_of_run {P : Program} {f : FuncId} {fn : Func} {c : Code} {N : Nat} {az : List AV} {tbl : List (Nat × Blk)} {ι : Type} {out : ι → AV} {tbl' : ι → List (Nat × Blk)} (hf : P.funcs[f]? = some fn) (hb : fn.body = some c) (hN : fn.ntmps = N)
    (hle : (Nat.ble az.length N && Nat.ble N 1000) = true) (h : ∀ (X : Base), Run P X N (QA P X fn out tbl') [.code c] (startA az tbl)) : ACall P f az tbl out tbl' := by
  intro X0 ρ vs hP hL hFL hlie hvs
  refine calls_of_wp_defers hf hb ?_
  have hlen := hvs.length
  simp only [Bool.and_eq_true] at hle
  have hle1 := Nat.le_of_ble_eq_true hle.2
  have hle := Nat.le_of_ble_eq_true hle.1
  let X : Base := { w0 := X0.w0, F0 := X0.F0, L := X0.L, B := X0.B, N := N, P := P, rv := X0.rv, hF0 := X0.hF0, hB := X0.hB, hN := hle1 }
  have hsz : vs.toArray.size = az.length := by simpa using hlen
  have hc : Conc X (startA az tbl) { tmps := vs.toArray ++ Array.replicate (fn.ntmps - vs.toArray.size) undef, defers := [] } X0.w0 := by
    refine ⟨ρ, by simp [X]; omega, (fun d hd => by cases hd), Bel.refl X, fun t => ?_, hlie.blks, hlie.apart, hlie.lent⟩
    show VR _ _ _ _ (match az[t]? with | some x => x | none => .any) _
    cases hd : az[t]? with
    | none => simp only; unfold VR; trivial
    | some d =>
      simp only
      obtain ⟨v, hv, hr⟩ := hvs.at_ hd
      have hlt : t < vs.length := (List.getElem?_eq_some_iff.1 hv).1
      have : (vs.toArray ++ Array.replicate (fn.ntmps - vs.toArray.size) undef).getD t undef = v := by
        rw [Array.getD_eq_getD_getElem?, Array.getElem?_append_left (by simpa using hlt)]
        simp [hv]
      rw [this]
      exact hr
  have hrun := (h X).out ⟨rfl, rfl⟩ _ _ hc
  refine wp_mono hrun ?_
  rintro e a' w' ⟨he, s', i, hres, htb, hcon⟩
  have hpost : Leaves P fn a'.tmps (fun e w' => ∃ v i ρ', e = .returned v ∧ Bel X0 w' ∧ Lies2 X0 (lkB (tbl' i)) w' ρ' ∧ VR w' (FF X0 w' (lkB (tbl' i)) ρ') (lkB (tbl' i)) ρ' (out i) v) a'.defers .returning w' := by
    obtain ⟨ρ0, hρ0⟩ := hcon
    refine leaves_harmless hρ0.defers fun w'' hb'' => ?_
    have hρ := hρ0.grow hb''
    obtain ⟨v, hv, hrep⟩ := hres X a' w'' ⟨ρ0, hρ⟩
    have h1 := hrep ρ0 hρ
    rw [htb] at h1
    refine ⟨v, hv, v, i, ρ0, rfl, ⟨hρ.below.os, hρ.below.tape, hρ.below.output, hρ.below.size, hρ.below.block⟩, ⟨?_, ?_, ?_⟩, h1⟩
    · intro k x hk; have := hρ.blks k x (by rw [htb]; exact hk); rw [htb] at this; exact this
    · intro k k' b h1 h2; exact hρ.apart k k' b (by rw [htb]; exact h1) (by rw [htb]; exact h2)
    · intro k hk h1; exact hρ.lent k hk (by rw [htb]; exact h1)
  rcases he with rfl | rfl <;> exact hpost
end Go.Proofs.Ytbbacpdbbmjblaa
set_option linter.unusedVariables false
namespace Go.Proofs.Ytbbacpdbbmjblaa
open Go.RowKit
set_option linter.unusedSimpArgs false
/-- The callee's table, laid over the caller's by other names. -/
def mergeT (θ : Nat → Nat) : List (Nat × Blk) → (Nat → Option Blk) → Nat → Option Blk
  | [], tb => tb
  | (k, x) :: r, tb => upd (mergeT θ r tb) (θ k) (some (renB θ x))
def mergeR (θ : Nat → Nat) (ρ' : Nat → RV) : List (Nat × Blk) → (Nat → RV) → Nat → RV
  | [], ρ => ρ
  | (k, _) :: r, ρ => upd (mergeR θ ρ' r ρ) (θ k) (ρ' k)
def Sta.lend (s : Sta) (θ : Nat → Nat) (l : List (Nat × Blk)) : Sta := { tm := s.tm, tb := mergeT θ l s.tb }
/-- The caller has these blocks. -/
def TbOk (s : Sta) (θ : Nat → Nat) : List (Nat × Blk) → Prop
  | [] => True
  | (k, x) :: r => s.tb (θ k) = some (renB θ x) ∧ TbOk s θ r
/-- Those that are new are free names. -/
def FreshOk (s : Sta) (θ : Nat → Nat) : List (Nat × Blk) → Prop
  | [] => True
  | (k, _) :: r => (Nat.ble 1000 k = true ∨ (s.tb (θ k) = none ∧ Nat.blt (θ k) 1000 = true)) ∧ FreshOk s θ r
/-- The same as a test. -/
def freshB (s : Sta) (θ : Nat → Nat) : List (Nat × Blk) → Bool
  | [] => true
  | (k, _) :: r => (Nat.ble 1000 k || ((s.tb (θ k)).isNone && Nat.blt (θ k) 1000)) && freshB s θ r
theorem freshB_ok {s : Sta} {θ : Nat → Nat} : ∀ {l : List (Nat × Blk)}, freshB s θ l = true → FreshOk s θ l
  | [], _ => trivial
  | (k, _) :: r, h => by
    simp only [freshB, Bool.and_eq_true, Bool.or_eq_true] at h
    exact ⟨h.1.imp id (fun h => ⟨Option.isNone_iff_eq_none.1 h.1, h.2⟩), freshB_ok h.2⟩
def hasKey (l : List (Nat × Blk)) (k : Nat) : Bool := (lkB l k).isSome
/-- All that was lent comes back, of its kind. -/
def backOk (l' : List (Nat × Blk)) : List (Nat × Blk) → Bool
  | [] => true
  | (k, x) :: r => (match lkB l' k with | some y => Nat.beq y.kind x.kind || (Nat.beq y.kind 2 && !Nat.beq x.kind 0) | none => false) && backOk l' r
def lentSub (l : List (Nat × Blk)) : List (Nat × Blk) → Bool
  | [] => true
  | (k, _) :: r => (Nat.blt k 1000 || hasKey l k) && lentSub l r
def lendOk1 (θ : Nat → Nat) (az : List AV) (l : List (Nat × Blk)) : Bool := lentKeys l && injOn θ l && keysInB l l && (keysAs az).all (fun k => (l.map (·.1)).contains k)
def lendOk2 (θ : Nat → Nat) (l l' : List (Nat × Blk)) : Bool := injOn θ l' && backOk l' l && lentSub l l'
theorem lkB_mem : ∀ {l : List (Nat × Blk)} {k : Nat} {x : Blk}, lkB l k = some x → (k, x) ∈ l
  | [], _, _, h => by simp [lkB] at h
  | (q, y) :: r, k, x, h => by
    unfold lkB at h
    split at h
    · rename_i e; subst e; simp only [Option.some.injEq] at h; subst h; exact List.mem_cons_self ..
    · exact List.mem_cons_of_mem _ (lkB_mem h)
theorem lkB_some : ∀ {l : List (Nat × Blk)} {k : Nat} {x : Blk}, (k, x) ∈ l → ∃ y, lkB l k = some y
  | (q, y) :: r, k, x, h => by
    unfold lkB
    split
    · exact ⟨_, rfl⟩
    · rename_i hne
      rcases List.mem_cons.1 h with h | h
      · cases h; exact absurd rfl hne
      · exact lkB_some h
theorem injOn_spec {θ : Nat → Nat} : ∀ {l : List (Nat × Blk)}, injOn θ l = true → ∀ {k k' : Nat} {b b' : Blk}, (k, b) ∈ l → (k', b') ∈ l → θ k = θ k' → k = k'
  | [], _, _, _, _, _, h, _, _ => by cases h
  | (t', y) :: r, hl, k, k', b, b', h, h', e => by
    simp only [injOn, Bool.and_eq_true] at hl
    have key : ∀ k2 b2, (k2, b2) ∈ r → θ t' = θ k2 → t' = k2 := by
      intro k2 b2 hm he
      have := List.all_eq_true.1 hl.1 (k2, b2) hm
      simp only [Bool.or_eq_true, Bool.not_eq_true'] at this
      rcases this with h1 | h1
      · rw [he, Nat.beq_refl] at h1; cases h1
      · exact Nat.eq_of_beq_eq_true h1
    rcases List.mem_cons.1 h with h1 | h1 <;> rcases List.mem_cons.1 h' with h2 | h2
    · cases h1; cases h2; rfl
    · cases h1; exact key _ _ h2 e
    · cases h2; exact (key _ _ h1 e.symm).symm
    · exact injOn_spec hl.2 h1 h2 e
theorem mergeT_at {θ : Nat → Nat} {tb : Nat → Option Blk} : ∀ {l : List (Nat × Blk)}, injOn θ l = true → ∀ {k : Nat} {x : Blk}, lkB l k = some x → mergeT θ l tb (θ k) = some (renB θ x)
  | [], _, k, x, h => by simp [lkB] at h
  | (q, y) :: r, hl, k, x, h => by
    have hm := lkB_mem h
    unfold lkB at h
    unfold mergeT
    split at h
    · rename_i e; subst e; simp only [Option.some.injEq] at h; subst h; exact upd_same _ _ _
    · rename_i hne
      rw [upd_ne _ _ (fun e => hne (injOn_spec hl hm (List.mem_cons_self ..) e))]
      simp only [injOn, Bool.and_eq_true] at hl
      exact mergeT_at hl.2 h
theorem mergeR_at {θ : Nat → Nat} {ρ ρ' : Nat → RV} : ∀ {l : List (Nat × Blk)}, injOn θ l = true → ∀ {k : Nat} {x : Blk}, lkB l k = some x → mergeR θ ρ' l ρ (θ k) = ρ' k
  | [], _, k, x, h => by simp [lkB] at h
  | (q, y) :: r, hl, k, x, h => by
    have hm := lkB_mem h
    unfold lkB at h
    unfold mergeR
    split at h
    · rename_i e; subst e; exact upd_same _ _ _
    · rename_i hne
      rw [upd_ne _ _ (fun e => hne (injOn_spec hl hm (List.mem_cons_self ..) e))]
      simp only [injOn, Bool.and_eq_true] at hl
      exact mergeR_at hl.2 h
/-- A name of the caller's is one of the callee's, or is not touched. -/
theorem merge_or (θ : Nat → Nat) (tb : Nat → Option Blk) (ρ ρ' : Nat → RV) : ∀ (l : List (Nat × Blk)) (j : Nat), (∃ k x, lkB l k = some x ∧ θ k = j) ∨ ((∀ k x, (k, x) ∈ l → θ k ≠ j) ∧ mergeT θ l tb j = tb j ∧ mergeR θ ρ' l ρ j = ρ j)
  | [], j => .inr ⟨(fun _ _ h => by cases h), rfl, rfl⟩
  | (q, y) :: r, j => by
    by_cases e : θ q = j
    · exact .inl ⟨q, y, by simp [lkB], e⟩
    · rcases merge_or θ tb ρ ρ' r j with ⟨k, x, h1, h2⟩ | ⟨h1, h2, h3⟩
      · refine .inl ⟨k, x, ?_, h2⟩
        unfold lkB
        rw [if_neg (fun e' => e (by rw [← e']; exact h2))]
        exact h1
      · refine .inr ⟨fun k x hm => ?_, ?_, ?_⟩
        · rcases List.mem_cons.1 hm with h | h
          · cases h; exact e
          · exact h1 k x h
        · unfold mergeT; rw [upd_ne _ _ (Ne.symm e)]; exact h2
        · unfold mergeR; rw [upd_ne _ _ (Ne.symm e)]; exact h3
theorem TbOk.at_ {s : Sta} {θ : Nat → Nat} : ∀ {l : List (Nat × Blk)}, TbOk s θ l → ∀ {k : Nat} {x : Blk}, lkB l k = some x → s.tb (θ k) = some (renB θ x)
  | [], _, k, x, h => by simp [lkB] at h
  | (q, y) :: r, hl, k, x, h => by
    unfold lkB at h
    split at h
    · rename_i e; subst e; simp only [Option.some.injEq] at h; subst h; exact hl.1
    · exact TbOk.at_ hl.2 h
theorem FreshOk.at_ {s : Sta} {θ : Nat → Nat} : ∀ {l : List (Nat × Blk)}, FreshOk s θ l → ∀ {k : Nat} {x : Blk}, lkB l k = some x → 1000 ≤ k ∨ (s.tb (θ k) = none ∧ θ k < 1000)
  | [], _, k, x, h => by simp [lkB] at h
  | (q, y) :: r, hl, k, x, h => by
    unfold lkB at h
    split at h
    · rename_i e; subst e; exact hl.1.imp Nat.le_of_ble_eq_true (fun h => ⟨h.1, Nat.blt_eq.mp h.2⟩)
    · exact FreshOk.at_ hl.2 h
theorem backOk_at {l' : List (Nat × Blk)} : ∀ {l : List (Nat × Blk)}, backOk l' l = true → ∀ {k : Nat} {x : Blk}, lkB l k = some x → ∃ y, lkB l' k = some y ∧ (y.kind = x.kind ∨ (y = .dead ∧ x.kind ≠ 0))
  | [], _, k, x, h => by simp [lkB] at h
  | (q, y) :: r, hl, k, x, h => by
    simp only [backOk, Bool.and_eq_true] at hl
    unfold lkB at h
    split at h
    · rename_i e; subst e; simp only [Option.some.injEq] at h; subst h
      have h1 := hl.1
      split at h1
      · rename_i z hz
        refine ⟨z, hz, ?_⟩
        simp only [Bool.or_eq_true, Bool.and_eq_true, Bool.not_eq_true'] at h1
        rcases h1 with h1 | ⟨h1, h2⟩
        · exact .inl (Nat.eq_of_beq_eq_true h1)
        · right
          have e2 := Nat.eq_of_beq_eq_true h1
          have e4 : z = .dead := by cases z <;> first | rfl | (simp [Blk.kind] at e2)
          refine ⟨e4, fun e3 => ?_⟩
          rw [e3] at h2; simp at h2
      · cases h1
    · exact backOk_at hl.2 h
theorem lentSub_at {l : List (Nat × Blk)} : ∀ {l' : List (Nat × Blk)}, lentSub l l' = true → ∀ {k : Nat} {x : Blk}, lkB l' k = some x → 1000 ≤ k → ∃ y, lkB l k = some y
  | [], _, k, x, h, _ => by simp [lkB] at h
  | (q, y) :: r, hl, k, x, h, hk => by
    simp only [lentSub, Bool.and_eq_true, Bool.or_eq_true] at hl
    unfold lkB at h
    split at h
    · rename_i e; subst e
      rcases hl.1 with h1 | h1
      · have := Nat.blt_eq.mp h1; omega
      · exact Option.isSome_iff_exists.1 h1
    · exact lentSub_at hl.2 h hk
theorem keysInB_at {l0 : List (Nat × Blk)} : ∀ {l : List (Nat × Blk)}, keysInB l0 l = true → ∀ {k t : Nat} {cs : List AV}, lkB l k = some (.box t cs) → ∀ k' ∈ keysAs cs, ∃ y, lkB l0 k' = some y
  | [], _, k, t, cs, h => by simp [lkB] at h
  | (q, y) :: r, hl, k, t, cs, h => by
    unfold lkB at h
    split at h
    · rename_i e; subst e; simp only [Option.some.injEq] at h; subst h
      simp only [keysInB, Bool.and_eq_true] at hl
      intro k' hk'
      have := List.all_eq_true.1 hl.1 k' hk'
      simp only [List.contains_iff_mem, List.mem_map] at this
      obtain ⟨p, hp, rfl⟩ := this
      exact lkB_some (x := p.2) hp
    · have : keysInB l0 r = true := by
        cases y <;> simp only [keysInB, Bool.and_eq_true] at hl <;> first | exact hl.2 | exact hl
      exact keysInB_at this h
section
variable {P : Program} {X : Base} {s s' : Sta} {a : Act} {w w' : World} {ρ : Nat → RV}
theorem VRs_args (h : ConcAt X s a w ρ) : ∀ {xs : List Operand} {az : List AV}, xs.map s.ev = az → VRs w (FF X w s.tb ρ) s.tb ρ az (xs.map a.eval)
  | [], _, e => by subst e; simp [VRs]
  | x :: r, _, e => by
    subst e
    simp only [List.map_cons]
    unfold VRs
    exact ⟨_, _, rfl, h.ev x, VRs_args h rfl⟩
/-- What a call to which memory is lent does. -/
theorem ConcAt.acall (hc : ConcAt X s a w ρ) (hP : X.P = P) {f : FuncId} {az : List AV} {tbl : List (Nat × Blk)} {ι : Type} {out : ι → AV} {tbl' : ι → List (Nat × Blk)} (θ : Nat → Nat) (hr : ACall P f az tbl out tbl') (htb : TbOk s θ tbl)
    (hfr : ∀ i, FreshOk s θ (tbl' i)) (hok1 : lendOk1 θ az tbl = true) (hok : ∀ i, lendOk2 θ tbl (tbl' i) = true) {vs : List Value} (hvs : VRs w (FF X w s.tb ρ) s.tb ρ (renAs θ az) vs) :
    Calls P f vs.toArray w fun e w' => ∃ v i ρ', e = .returned v ∧ ConcAt X (s.lend θ (tbl' i)) a w' ρ' ∧ VR w' (FF X w' (s.lend θ (tbl' i)).tb ρ') (s.lend θ (tbl' i)).tb ρ' (renA θ (out i)) v := by
  simp only [lendOk1, Bool.and_eq_true] at hok1
  obtain ⟨⟨⟨hlk, hinj⟩, hkb⟩, hka⟩ := hok1
  have hlk := lentKeys_spec hlk
  let L : Nat → Prop := fun b => ∃ k, liveB (lkB tbl k) = true ∧ (ρ (θ k)).fp b
  let Y : Base := { w0 := w, F0 := FF X w s.tb ρ, L := L, B := X.B, N := 0, P := P, rv := fun k => (ρ (θ k)).v, hF0 := fun b hb => hb.2.1, hB := hc.below.sizeB, hN := by omega }
  have hliveS : ∀ k x, lkB tbl k = some x → s.tb (θ k) = some (renB θ x) := fun k x h => htb.at_ h
  have hlive : ∀ k, liveB (lkB tbl k) = true → liveB (s.tb (θ k)) = true := by
    intro k h
    obtain ⟨x, hx, hl⟩ := live_some h
    rw [hliveS k x hx]
    show (renB θ x).live = true
    rw [renB_live]; exact hl
  have hmayX : ∀ k b, liveB (lkB tbl k) = true → (ρ (θ k)).fp b → X.may b ∧ b < w.heap.size := by
    intro k b h hb
    obtain ⟨x, hx, hl⟩ := live_some (hlive k h)
    exact hc.rowBlk hx hl hb
  have hFY : ∀ b, FF X w s.tb ρ b → FF Y w (lkB tbl) (fun k => ρ (θ k)) b := fun b hb => ⟨.inl hb, hb.2.1, fun k hk e => hb.2.2 (θ k) (hlive k hk) e⟩
  have hdisj : ∀ b, FF X w s.tb ρ b → ¬ L b := fun b hb ⟨k, hk, e⟩ => hb.2.2 (θ k) (hlive k hk) e
  have hnk : ∀ k, (∃ x, lkB tbl k = some x) → ∃ x, lkB tbl k = some x ∧ s.tb (θ k) = some (renB θ x) ∧ (ρ (θ k)).v = ((fun k => ρ (θ k)) k).v := fun k ⟨x, hx⟩ => ⟨x, hx, hliveS k x hx, rfl⟩
  have hlie : Lies2 Y (lkB tbl) w (fun k => ρ (θ k)) := by
    refine ⟨fun k x hx => ?_, fun k k' b h1 h2 e1 e2 => ?_, fun k _ _ => rfl⟩
    · have h1 := hc.blks (θ k) _ (hliveS k x hx)
      cases x with
      | box t cs =>
        obtain ⟨b, vs, e, g1, g2, g3, g4⟩ := h1
        refine ⟨b, vs, e, .inr ⟨k, by rw [hx]; rfl, by rw [e]; rfl⟩, g2, VRs.ner (fun k => ∃ x, lkB tbl k = some x) hFY hnk cs (fun k' hk' => keysInB_at hkb hx k' hk') g3, g4⟩
      | row e n y l =>
        obtain ⟨xs, g0, gm, g1, g2, g3, g4⟩ := h1
        refine ⟨xs, g0, fun b hb => .inr ⟨k, by rw [hx]; rfl, ?_⟩, g1, g2.keep (fun _ _ => rfl) hFY, g3, g4⟩
        show (ρ (θ k)).fp b
        rw [g0]; exact own_blkOf hb
      | res R =>
        obtain ⟨g1, g2⟩ := h1
        exact ⟨R.keep _ _ _ _ _ _ (fun _ _ => rfl) hFY (fun _ _ => rfl) g1, fun b hb => ⟨.inr ⟨k, by rw [hx]; rfl, hb⟩, (g2 b hb).2⟩⟩
      | dead => trivial
    · obtain ⟨x, hx, _⟩ := live_some h1
      obtain ⟨x', hx', _⟩ := live_some h2
      exact injOn_spec hinj (lkB_mem hx) (lkB_mem hx') (hc.apart (θ k) (θ k') b (hlive k h1) (hlive k' h2) e1 e2)
  have hargs : VRs w (FF Y w (lkB tbl) (fun k => ρ (θ k))) (lkB tbl) (fun k => ρ (θ k)) az vs := by
    refine VRs.ner (fun k => ∃ x, lkB tbl k = some x) hFY hnk az (fun k hk => ?_) hvs
    have := List.all_eq_true.1 hka k hk
    simp only [List.contains_iff_mem, List.mem_map] at this
    obtain ⟨p, hp, rfl⟩ := this
    exact lkB_some (x := p.2) hp
  refine (hr Y (fun k => ρ (θ k)) vs rfl (fun b => Iff.rfl) hdisj hlie hargs).mono ?_
  rintro e w' ⟨v, i, ρ', rfl, hbel, hl', hv⟩
  have hokI := hok i
  simp only [lendOk2, Bool.and_eq_true] at hokI
  obtain ⟨⟨hinj', hback⟩, hsub⟩ := hokI
  have hsz : w.heap.size ≤ w'.heap.size := hbel.size
  have hsame : ∀ b, b < w.heap.size → ¬ L b → w'.heap[b]? = w.heap[b]? := hbel.block
  -- footprints of what came back
  have hnewfp : ∀ k b, liveB (lkB (tbl' i) k) = true → (ρ' k).fp b → (w.heap.size ≤ b ∨ L b) ∧ b < w'.heap.size := by
    intro k b hk hb
    obtain ⟨x, hx, hl⟩ := live_some hk
    have h1 := hl'.blks k x hx
    cases x with
    | box t cs =>
      obtain ⟨b', vs', e, g1, g2, _⟩ := h1
      rw [e] at hb
      have hb : some b' = some b := hb
      cases hb
      exact ⟨g1, (Array.getElem?_eq_some_iff.1 g2).1⟩
    | row e n y l =>
      obtain ⟨xs, g0, gm, g1, _⟩ := h1
      rw [g0] at hb
      have hb : blkOf (ρ' k).v = some b := hb
      have ho : (ρ' k).v.ownBlock = some b := by
        rcases g1.2 with ⟨e, _⟩ | ⟨g, cap, cur, e, _⟩
        · rw [e] at hb; simp [blkOf] at hb
        · rw [e] at hb ⊢; simpa [blkOf, Value.ownBlock] using hb
      exact ⟨gm b ho, (g1.lt b ho).2⟩
    | res R => exact h1.2 b hb
    | dead => cases hl
  let ρn : Nat → RV := mergeR θ ρ' (tbl' i) ρ
  have hat : ∀ k x, lkB (tbl' i) k = some x → (s.lend θ (tbl' i)).tb (θ k) = some (renB θ x) ∧ ρn (θ k) = ρ' k := fun k x h => ⟨mergeT_at hinj' h, mergeR_at hinj' h⟩
  have hor := merge_or θ s.tb ρ ρ' (tbl' i)
  -- a live name of the new table
  have hnl : ∀ j, liveB ((s.lend θ (tbl' i)).tb j) = true → (∃ k, θ k = j ∧ liveB (lkB (tbl' i) k) = true) ∨ ((∀ k x, (k, x) ∈ tbl' i → θ k ≠ j) ∧ liveB (s.tb j) = true ∧ ρn j = ρ j) := by
    intro j hj
    rcases hor j with ⟨k, x, h1, h2⟩ | ⟨h1, h2, h3⟩
    · refine .inl ⟨k, h2, ?_⟩
      subst h2
      rw [(hat k x h1).1] at hj
      rw [h1]
      have : (renB θ x).live = true := hj
      rwa [renB_live] at this
    · exact .inr ⟨h1, by rw [← h2]; exact hj, h3⟩
  -- names that were not lent own nothing that was
  have hfar : ∀ j b, (∀ k x, (k, x) ∈ tbl' i → θ k ≠ j) → liveB (s.tb j) = true → (ρ j).fp b → ¬ L b ∧ b < w.heap.size := by
    intro j b hj hl hb
    obtain ⟨x, hx, hxl⟩ := live_some hl
    refine ⟨fun ⟨k, hk, e⟩ => ?_, (hc.rowBlk hx hxl hb).2⟩
    have := hc.apart j (θ k) b hl (hlive k hk) hb e
    obtain ⟨y, hy, _⟩ := live_some hk
    obtain ⟨z, hz, _⟩ := backOk_at hback hy
    exact hj k z (lkB_mem hz) this.symm
  have hFF : ∀ b, FF X w s.tb ρ b → FF X w' (s.lend θ (tbl' i)).tb ρn b := by
    intro b hb
    refine ⟨hb.1, Nat.lt_of_lt_of_le hb.2.1 hsz, fun j hj e => ?_⟩
    rcases hnl j hj with ⟨k, rfl, hk⟩ | ⟨_, h2, h3⟩
    · obtain ⟨x, hx, _⟩ := live_some hk
      rw [(hat k x hx).2] at e
      rcases (hnewfp k b hk e).1 with h | h
      · have := hb.2.1; omega
      · exact hdisj b hb h
    · rw [h3] at e; exact hb.2.2 j h2 e
  have hFN : ∀ b, FF Y w' (lkB (tbl' i)) ρ' b → FF X w' (s.lend θ (tbl' i)).tb ρn b := by
    intro b hb
    have hm : X.F0 b ∨ X.may b := by
      rcases hb.1 with h | h | ⟨k, hk, e⟩
      · exact h.1
      · exact .inr (.inl (Nat.le_trans hc.below.size h))
      · exact .inr (hmayX k b hk e).1
    refine ⟨hm, hb.2.1, fun j hj e => ?_⟩
    rcases hnl j hj with ⟨k, rfl, hk⟩ | ⟨h1, h2, h3⟩
    · obtain ⟨x, hx, _⟩ := live_some hk
      rw [(hat k x hx).2] at e
      exact hb.2.2 k hk e
    · rw [h3] at e
      obtain ⟨g1, g2⟩ := hfar j b h1 h2 e
      rcases hb.1 with h | h | h
      · exact h.2.2 j h2 e
      · have h : w.heap.size ≤ b := h
        omega
      · exact g1 h
  have hkk : ∀ j x, s.tb j = some x → ∃ x', (s.lend θ (tbl' i)).tb j = some x' ∧ ((x'.kind = x.kind ∧ (ρn j).v = (ρ j).v) ∨ (x' = .dead ∧ x.kind ≠ 0)) := by
    intro j x hx
    rcases hor j with ⟨k, y, h1, h2⟩ | ⟨_, h2, h3⟩
    · subst h2
      obtain ⟨g1, g2⟩ := hat k y h1
      rcases (hfr i).at_ h1 with hk | ⟨hk, _⟩
      · obtain ⟨z, hz⟩ := lentSub_at hsub h1 hk
        have hz' := hliveS k z hz
        rw [hx] at hz'
        simp only [Option.some.injEq] at hz'
        subst hz'
        obtain ⟨y', hy', hkind⟩ := backOk_at hback hz
        rw [h1] at hy'
        cases hy'
        refine ⟨_, g1, ?_⟩
        rcases hkind with hkind | ⟨rfl, hkind⟩
        · by_cases hyl : y.live = true
          · left
            refine ⟨by rw [renB_kind, renB_kind]; exact hkind, ?_⟩
            rw [g2]
            exact hl'.lent k hk (by rw [h1]; exact hyl)
          · cases y <;> simp [Blk.live] at hyl
            right
            refine ⟨rfl, ?_⟩
            rw [renB_kind, ← hkind]; simp [Blk.kind]
        · exact .inr ⟨rfl, by rw [renB_kind]; exact hkind⟩
      · rw [hx] at hk; cases hk
    · exact ⟨x, by rw [← hx]; exact h2, .inl ⟨rfl, congrArg RV.v h3⟩⟩
  have hFsame : ∀ b, FF X w s.tb ρ b → w'.heap[b]? = w.heap[b]? := fun b hb => hsame b hb.2.1 (hdisj b hb)
  have hren : ∀ k x, lkB (tbl' i) k = some x → (s.lend θ (tbl' i)).tb (θ k) = some (renB θ x) ∧ (ρn (θ k)).v = (ρ' k).v := fun k x h => ⟨(hat k x h).1, congrArg RV.v (hat k x h).2⟩
  refine ⟨v, i, ρn, rfl, ⟨hc.size, hc.defers, ?_, fun t => (hc.tmps t).keep hFsame hFF hkk, fun j x hx => ?_, fun j j' b h1 h2 e1 e2 => ?_, fun j hj hl => ?_⟩, hv.ren hFN hren⟩
  · exact hc.below.step hbel.os hbel.tape hbel.output hsz (fun b hb hm => hsame b hb (fun ⟨k, hk, e⟩ => hm (hmayX k b hk e).1))
  · rcases hor j with ⟨k, y, h1, h2⟩ | ⟨h1, h2, h3⟩
    · subst h2
      obtain ⟨g1, g2⟩ := hat k y h1
      have hx' : mergeT θ (tbl' i) s.tb (θ k) = some x := hx
      have g1' : mergeT θ (tbl' i) s.tb (θ k) = some (renB θ y) := g1
      rw [hx'] at g1'
      simp only [Option.some.injEq] at g1'
      subst g1'
      have hb := hl'.blks k y h1
      have hmm : ∀ b, Y.may b → X.may b := by
        rintro b (h | ⟨k, hk, e⟩)
        · exact .inl (Nat.le_trans hc.below.size h)
        · exact (hmayX k b hk e).1
      cases y with
      | box t cs =>
        obtain ⟨b, vs', e, q1, q2, q3, q4⟩ := hb
        exact ⟨b, vs', g2.trans e, hmm b q1, q2, q3.ren hFN hren, q4⟩
      | row e n y l =>
        obtain ⟨xs, q0, qm, q1, q2, q3, q4⟩ := hb
        refine ⟨xs, by rw [g2]; exact q0, fun b hb => hmm b (qm b (by rw [g2] at hb; exact hb)), by rw [g2]; exact q1, q2.keep (fun _ _ => rfl) hFN, q3, q4⟩
      | res R =>
        obtain ⟨q1, q2⟩ := hb
        refine ⟨?_, fun b hb => ?_⟩
        · rw [g2]; exact R.keep _ _ _ _ _ _ (fun _ _ => rfl) hFN (fun _ _ => rfl) q1
        · rw [g2] at hb; exact ⟨hmm b (q2 b hb).1, (q2 b hb).2⟩
      | dead => trivial
    · have hx' : s.tb j = some x := by rw [← h2]; exact hx
      exact (hc.blks j x hx').keep hFsame hFF hkk h3 (fun b hl hf => by
        obtain ⟨q1, q2⟩ := hfar j b h1 (by rw [hx']; exact hl) hf
        exact hsame b q2 q1) hsz
  · rcases hnl j h1 with ⟨k, rfl, hk⟩ | ⟨g1, g2, g3⟩ <;> rcases hnl j' h2 with ⟨k', rfl, hk'⟩ | ⟨g1', g2', g3'⟩
    · obtain ⟨x, hx, _⟩ := live_some hk
      obtain ⟨x', hx', _⟩ := live_some hk'
      rw [(hat k x hx).2] at e1
      rw [(hat k' x' hx').2] at e2
      rw [hl'.apart k k' b hk hk' e1 e2]
    · exfalso
      obtain ⟨x, hx, _⟩ := live_some hk
      rw [(hat k x hx).2] at e1
      rw [g3'] at e2
      obtain ⟨q1, q2⟩ := hfar j' b g1' g2' e2
      rcases (hnewfp k b hk e1).1 with h | h
      · omega
      · exact q1 h
    · exfalso
      obtain ⟨x, hx, _⟩ := live_some hk'
      rw [(hat k' x hx).2] at e2
      rw [g3] at e1
      obtain ⟨q1, q2⟩ := hfar j b g1 g2 e1
      rcases (hnewfp k' b hk' e2).1 with h | h
      · omega
      · exact q1 h
    · rw [g3] at e1; rw [g3'] at e2
      exact hc.apart j j' b g2 g2' e1 e2
  · rcases hnl j hl with ⟨k, rfl, hk⟩ | ⟨g1, g2, g3⟩
    · obtain ⟨x, hx, hxl⟩ := live_some hk
      rw [(hat k x hx).2]
      rcases (hfr i).at_ hx with h | ⟨_, h⟩
      · have e1 := hl'.lent k h hk
        rw [e1]
        obtain ⟨z, hz⟩ := lentSub_at hsub hx h
        obtain ⟨y', hy', hkind⟩ := backOk_at hback hz
        rw [hx] at hy'
        cases hy'
        have hzl : liveB (lkB tbl k) = true := by
          rw [hz]
          rcases hkind with hkind | ⟨rfl, _⟩
          · cases z <;> first | rfl | (cases x <;> simp [Blk.kind] at hkind <;> cases hxl)
          · cases hxl
        exact hc.lent (θ k) hj (hlive k hzl)
      · omega
    · rw [g3]; exact hc.lent j hj g2
def thk : List (Nat × Nat) → Nat → Nat → Nat
  | [], c, k => k + c
  | (a, b) :: r, c, k => bif Nat.beq k a then b else thk r c k
variable {N : Nat} {Q : Exit → Act → World → Prop} {ops : Array Oper} {rem : List Nat} {ks : List Itm}
theorem run_enter {f : FuncId} (hf : callable P f = true) {o : Oper} {vs : List Value} {K : Act → World → Prop} {Q' : Exit → Act → World → Prop} (he : (execOp a.eval o).run P w = .ok (.enter f vs.toArray) w) {R : Value → World → Prop}
    (h : Calls P f vs.toArray w fun e w' => ∃ v, e = .returned v ∧ R v w') (hK : ∀ v w', R v w' → K (a.put o.dst v) w') : o.wp P a w K Q' := by
  unfold Oper.wp
  rw [he]
  refine h.mono ?_
  rintro e w' ⟨v, rfl, hr⟩
  exact hK v w' hr
theorem k_acall (θ : Nat → Nat) {d f : Nat} {xs : List Operand} {ts : Array TypeId} {az : List AV} {tbl : List (Nat × Blk)} {ι : Type} {out : ι → AV} {tbl' : ι → List (Nat × Blk)} (hN : Nat.blt d N = true) (hf : callable P f = true) (hr : ACall P f az tbl out tbl') (hx : xs.map s.ev = renAs θ az)
    (htb : TbOk s θ tbl) (hok1 : lendOk1 θ az tbl = true) (hfr : ∀ i, FreshOk s θ (tbl' i)) (hok : ∀ i, lendOk2 θ tbl (tbl' i) = true) (h : ∀ i, Run P X N Q (.ops ops rem :: ks) ((s.lend θ (tbl' i)).put (some d) (renA θ (out i)))) :
    RunK P X N Q ops rem ks (some d) (.call { callee := .value (.func f), args := xs.toArray, argTypes := ts }) s := ⟨fun ty pos aft => ⟨fun hX a w ⟨ρ, hc⟩ => by
  have hcall := hc.acall hX.2 θ hr htb hfr hok1 hok (vs := xs.map a.eval) (by rw [← hx]; exact VRs_args hc rfl)
  refine run_enter hf (vs := xs.map a.eval) (by simp [execOp, resolve, Deferred.ofValue, Act.eval, invoke, run_callFunc hf]) (R := fun v w' => ∃ i ρ', ConcAt X (s.lend θ (tbl' i)) a w' ρ' ∧ VR w' (FF X w' (s.lend θ (tbl' i)).tb ρ') (s.lend θ (tbl' i)).tb ρ' (renA θ (out i)) v) (hcall.mono ?_) ?_
  · rintro e w' ⟨v, i, ρ', he, h1, h2⟩
    exact ⟨v, he, i, ρ', h1, h2⟩
  · rintro v w' ⟨i, ρ', h1, h2⟩
    exact (h i).out hX _ _ ⟨ρ', h1.putO (hN_ok hN hX) h2⟩⟩⟩
/-- One answer. -/
def ACall1 (P : Program) (f : FuncId) (az : List AV) (tbl : List (Nat × Blk)) (out : AV) (tbl' : List (Nat × Blk)) : Prop := ACall P f az tbl (ι := Unit) (fun _ => out) (fun _ => tbl')
theorem k_acall1 (θ : Nat → Nat) {d f : Nat} {xs : List Operand} {ts : Array TypeId} {az : List AV} {tbl : List (Nat × Blk)} {out : AV} {tbl' : List (Nat × Blk)} (hN : Nat.blt d N = true) (hf : callable P f = true) (hr : ACall1 P f az tbl out tbl') (hx : xs.map s.ev = renAs θ az)
    (htb : TbOk s θ tbl) (hok1 : lendOk1 θ az tbl = true) (hfr : FreshOk s θ tbl') (hok : lendOk2 θ tbl tbl' = true) (h : Run P X N Q (.ops ops rem :: ks) ((s.lend θ tbl').put (some d) (renA θ out))) :
    RunK P X N Q ops rem ks (some d) (.call { callee := .value (.func f), args := xs.toArray, argTypes := ts }) s := k_acall θ hN hf hr hx htb hok1 (fun _ => hfr) (fun _ => hok) (fun _ => h)
/-- A return with what was lent. -/
theorem run_retA {fn : Func} {ι : Type} {out : ι → AV} {tbl' : ι → List (Nat × Blk)} (i : ι) (θ : Nat → Nat) {tm : List (Nat × AV)} (hs : SubS s tm (tbl' i) θ) (hr : resA P fn (out i) (mkSta tm (tbl' i))) : Run P X N (QA P X fn out tbl') (.code .ret :: ks) s :=
  run_ret fun a w hc => ⟨.inr rfl, mkSta tm (tbl' i), i, hr, rfl, hs.conc hc⟩
theorem resA_tmp {fn : Func} {t : Tmp} (hf : fn.results = #[.tmp t]) {r : AV} (ht : s.tm t = r) : resA P fn r s := by
  intro X a w ⟨ρ0, hc0⟩
  refine ⟨a.tmps.getD t undef, results_tmp hf _ _ _, fun ρ hc => ?_⟩
  have := hc.tmps t
  rwa [ht] at this
theorem resA_tmp2 {fn : Func} {t u : Tmp} (hf : fn.results = #[.tmp t, .tmp u]) {r r' : AV} (ht : s.tm t = r) (hu : s.tm u = r') : resA P fn (mkTup [r, r']) s := by
  intro X a w ⟨ρ0, hc0⟩
  refine ⟨_, results_tmp2 hf _ _ _, fun ρ hc => ?_⟩
  have h1 := hc.tmps t
  have h2 := hc.tmps u
  rw [ht] at h1
  rw [hu] at h2
  refine VR_mkTup (vs := [a.tmps.getD t undef, a.tmps.getD u undef]) ?_
  unfold VRs
  refine ⟨_, _, rfl, h1, ?_⟩
  unfold VRs
  exact ⟨_, _, rfl, h2, by unfold VRs; rfl⟩
end
end Go.Proofs.Ytbbacpdbbmjblaa
set_option linter.unusedVariables false
namespace Go.Proofs.Ytbbacpdbbmjblaa
open Go.RowKit
set_option linter.unusedSimpArgs false
section
variable {P : Program} {X : Base} {N : Nat} {Q : Exit → Act → World → Prop} {ops : Array Oper} {rem : List Nat} {ks : List Itm} {s s' : Sta} {a : Act} {w w' : World} {ρ : Nat → RV}
/-- A goal at which a walk stops. -/
structure Hold (p : Prop) : Prop where
  out : p
theorem run_hold (h : Hold (Run P X N Q ks s)) : Run P X N Q ks s := h.out
def QT (X : Base) (T : Sta) : Exit → Act → World → Prop := fun e a w => e = .normal ∧ Conc X T a w
theorem run_stage {c : Code} {s : Sta} (T : Sta) (h : Run P X N (QT X T) [.code c] s) (key : Run P X N Q ks T) : Run P X N Q (.code c :: ks) s := ⟨fun hX a w hc => by
  have h1 : c.wp P (QT X T) a w := wp_mono (h.out hX a w hc) (fun e a w q => by cases e <;> exact q)
  show c.wp P _ a w
  refine wp_mono h1 ?_
  rintro e a' w' ⟨rfl, hc'⟩
  exact key.out hX a' w' hc'⟩
theorem run_stageEnd {s : Sta} {tm : List (Nat × AV)} {tb : List (Nat × Blk)} (θ : Nat → Nat) (h : SubS s tm tb θ) : Run P X N (QT X (mkSta tm tb)) [] s := run_end fun a w hc => ⟨rfl, h.conc hc⟩
end
end Go.Proofs.Ytbbacpdbbmjblaa
namespace Go.Proofs.Ytbbacpdbbmjblaa
open Go.RowKit
section
variable {P : Program} {X : Base} {N : Nat} {s s1 : Sta} {ops r : List Oper}
end
end Go.Proofs.Ytbbacpdbbmjblaa
end
