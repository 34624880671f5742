/- Part 3 of what the proof rests on. -/
import Derived.Orders
import Derived.Laws.Small
import Derived.Laws.Strings
import Derived.Test.YtgmahieoiifpfaaGreatScR2
set_option linter.unnecessarySimpa false
set_option linter.unusedSimpArgs false
set_option linter.unusedVariables false
section
namespace Go.Proofs.YtgmahieoiifpfaaGreat
open Go.RowKit
section
variable {P : Program} {X : Base} {N : Nat} {Q : Exit → Act → World → Prop} {s s' : Sta} {ks : List Itm} {ops : Array Oper} {rem : List Nat}
structure Zbp (P : Program) (X : Base) (N : Nat) (Q : Exit → Act → World → Prop) (ops : Array Oper) (rem : List Nat) (ks : List Itm) (d : Option Tmp) (op : Op) (s : Sta) : Prop where
 out : ∀ ty pos aft, Yp6 P X N Q ops rem ks ⟨d, op, ty, pos, aft, none⟩ s
theorem Zao {i : Nat} {d : Option Tmp} {op : Op} {ty : TypeId} {pos : String} {aft : Array Edge} (ho : ops[i]? = some ⟨d, op, ty, pos, aft, none⟩) (h : Zbp P X N Q ops rem ks d op s) : Run P X N Q (.ops ops (i :: rem) :: ks) s := Ykn ho (h.out _ _ _)
theorem Zdx {d : Nat} {op : Op} {r : AV} (hN : Nat.blt d N = true) (hs : ∀ ty pos aft, Za7 X.N (some d) = true → OpS P X ⟨some d, op, ty, pos, aft, none⟩ s (s.put (some d) r)) (h : Run P X N Q (.ops ops rem :: ks) (s.put (some d) r)) : Zbp P X N Q ops rem ks (some d) op s :=
 ⟨fun ty pos aft => ⟨fun hX => (ro (hs ty pos aft (by rw [hX.1]; simpa [Za7, Nat.blt_eq] using hN)) h).out hX⟩⟩
theorem Zu3 {d : Nat} {op : Op} {s' : Sta} (hN : Nat.blt d N = true) (hs : ∀ ty pos aft, d < X.N → OpS P X ⟨some d, op, ty, pos, aft, none⟩ s s') (h : Run P X N Q (.ops ops rem :: ks) s') : Zbp P X N Q ops rem ks (some d) op s :=
 ⟨fun ty pos aft => ⟨fun hX => (ro (hs ty pos aft (by rw [hX.1]; simpa [Nat.blt_eq] using hN)) h).out hX⟩⟩
theorem Yja {op : Op} {s' : Sta} (hs : ∀ ty pos aft, OpS P X ⟨none, op, ty, pos, aft, none⟩ s s') (h : Run P X N Q (.ops ops rem :: ks) s') : Zbp P X N Q ops rem ks none op s :=
 ⟨fun ty pos aft => ⟨fun hX => (ro (hs ty pos aft) h).out hX⟩⟩
theorem Zoc {d : Nat} (hN : Nat.blt d N = true) (hX : X.at P N) : Za7 X.N (some d) = true := by rw [hX.1]; simpa [Za7, Nat.blt_eq] using hN
theorem Zc3 {i : Nat} {d : Option Tmp} {op : Op} {ty : TypeId} {pos : String} {aft : Array Edge} {g : Nat} {want b : Bool} (ho : ops[i]? = some ⟨d, op, ty, pos, aft, some (g, want)⟩) (hb : Zkl ops s g = .dat (.val (.bool b))) (hw : b = want)
  (ht : Zbp P X N Q ops rem ks d op s) : Run P X N Q (.ops ops (i :: rem) :: ks) s := Yb9 ho hb hw (ht.out _ _ _)
theorem Zzk {i : Nat} {d : Tmp} {op : Op} {ty : TypeId} {pos : String} {aft : Array Edge} {g : Nat} {want b : Bool} (ho : ops[i]? = some ⟨some d, op, ty, pos, aft, some (g, want)⟩) (hb : Zkl ops s g = .dat (.val (.bool b))) (hw : b = !want)
  (hN : Nat.blt d N = true) (hf : Run P X N Q (.ops ops rem :: ks) (s.put (some d) (.dat (.tup [])))) : Run P X N Q (.ops ops (i :: rem) :: ks) s := ⟨fun hX => (Yb8 ho hb hw (Zoc hN hX) hf).out hX⟩
theorem Ze3 {i : Nat} {d : Tmp} {op : Op} {ty : TypeId} {pos : String} {aft : Array Edge} {g : Nat} {b : Bool} (ho : ops[i]? = some ⟨some d, op, ty, pos, aft, some (g, true)⟩) (hb : Zkl ops s g = .dat (.val (.bool b))) (hw : b = false)
  (hN : Nat.blt d N = true) (hf : Run P X N Q (.ops ops rem :: ks) (s.put (some d) (.dat (.tup [])))) : Run P X N Q (.ops ops (i :: rem) :: ks) s := Zzk ho hb hw hN hf
theorem Zon {i : Nat} {d : Tmp} {op : Op} {ty : TypeId} {pos : String} {aft : Array Edge} {g : Nat} {b : Bool} (ho : ops[i]? = some ⟨some d, op, ty, pos, aft, some (g, false)⟩) (hb : Zkl ops s g = .dat (.val (.bool b))) (hw : b = true)
  (hN : Nat.blt d N = true) (hf : Run P X N Q (.ops ops rem :: ks) (s.put (some d) (.dat (.tup [])))) : Run P X N Q (.ops ops (i :: rem) :: ks) s := Zzk ho hb hw hN hf
theorem Zal {d : Nat} {x : Operand} {v : PD} (hN : Nat.blt d N = true) (hx : s.ev x = .dat v) (h : Run P X N Q (.ops ops rem :: ks) (s.put (some d) (.dat v))) : Zbp P X N Q ops rem ks (some d) (.move x) s := Zdx hN (fun _ _ _ hd => Zz1 hd rfl hx) h
theorem Zfy {d : Nat} {x : Operand} {k off : Nat} (hN : Nat.blt d N = true) (hx : s.ev x = .ptr k off) (h : Run P X N Q (.ops ops rem :: ks) (s.put (some d) (.ptr k off))) : Zbp P X N Q ops rem ks (some d) (.move x) s := Zdx hN (fun _ _ _ hd => Zz3 hd rfl hx) h
theorem Yn1 {d : Nat} {x : Operand} {k : Nat} (hN : Nat.blt d N = true) (hx : s.ev x = .own k) (h : Run P X N Q (.ops ops rem :: ks) (s.put (some d) (.own k))) : Zbp P X N Q ops rem ks (some d) (.move x) s := Zdx hN (fun _ _ _ hd => Zz2 hd rfl hx) h
theorem Zad {d : Nat} {x : Operand} {v : PD} (hN : Nat.blt d N = true) (hx : s.ev x = .dat v) (h : Run P X N Q (.ops ops rem :: ks) (s.put (some d) (.dat v))) : Zbp P X N Q ops rem ks (some d) (.assign x) s := Zdx hN (fun _ _ _ hd => Zqx hd rfl hx) h
theorem Zgn {d : Nat} {x : Operand} {k off : Nat} (hN : Nat.blt d N = true) (hx : s.ev x = .ptr k off) (h : Run P X N Q (.ops ops rem :: ks) (s.put (some d) (.ptr k off))) : Zbp P X N Q ops rem ks (some d) (.assign x) s := Zdx hN (fun _ _ _ hd => Zqy hd rfl hx) h
theorem Yey {d : Nat} {x : Operand} {k : Nat} (hN : Nat.blt d N = true) (hx : s.ev x = .own k) (h : Run P X N Q (.ops ops rem :: ks) (s.put (some d) (.own k))) : Zbp P X N Q ops rem ks (some d) (.assign x) s := Zdx hN (fun _ _ _ hd => Ybs hd rfl hx) h
theorem Za9 {d : Nat} {x : Operand} {t f k off fo n : Nat} {g : Bool} (hN : Nat.blt d N = true) (hx : s.ev x = .ptr k off) [ht : FI P t f fo n g] (hn : Nat.blt 0 n = true) (h : Run P X N Q (.ops ops rem :: ks) (s.put (some d) (.ptr k (off + fo)))) : Zbp P X N Q ops rem ks (some d) (.fieldAddr t x f) s := Zdx hN (fun _ _ _ hd => Zkz hd rfl hx ht.out (by simpa [Nat.blt_eq] using hn)) h
theorem Zu1 {d : Nat} {x : Operand} {t f fo n : Nat} {g : Bool} {d0 : PD} {l : List PD} {r : PD} (hN : Nat.blt d N = true) (hx : s.ev x = .dat (.ptr d0)) (hdl : d0 = .agg l) [ht : FI P t f fo n g] (hn : Nat.blt 0 n = true) (hr : Yo4 g n fo l = some r) (h : Run P X N Q (.ops ops rem :: ks) (s.put (some d) (.dat (.ptr r)))) : Zbp P X N Q ops rem ks (some d) (.fieldAddr t x f) s := Zdx hN (fun _ _ _ hd => Zk0 hd rfl hx hdl ht.out (by simpa [Nat.blt_eq] using hn) hr) h
theorem Za5 {d : Nat} {x : Operand} {t k off T n : Nat} {cs : List AV} {g : Bool} {v : PD} (hN : Nat.blt d N = true) (hx : s.ev x = .ptr k off) (hk : s.tb k = some (.box T cs)) [ht : VI P t n g] (hf : Zrb g n off cs = some (.dat v)) (h : Run P X N Q (.ops ops rem :: ks) (s.put (some d) (.dat v))) : Zbp P X N Q ops rem ks (some d) (.load t x) s := Zdx hN (fun _ _ _ hd => Zvd hd rfl hx hk ht.out hf) h
theorem Zkq {d : Nat} {x : Operand} {t k off T n : Nat} {cs : List AV} {g : Bool} {k' : Nat} (hN : Nat.blt d N = true) (hx : s.ev x = .ptr k off) (hk : s.tb k = some (.box T cs)) [ht : VI P t n g] (hf : Zrb g n off cs = some (.own k')) (h : Run P X N Q (.ops ops rem :: ks) (s.put (some d) (.own k'))) : Zbp P X N Q ops rem ks (some d) (.load t x) s := Zdx hN (fun _ _ _ hd => Zve hd rfl hx hk ht.out hf) h
theorem Yjg {d : Nat} {x : Operand} {t k off T n : Nat} {cs : List AV} {g : Bool} {l : List AV} (hN : Nat.blt d N = true) (hx : s.ev x = .ptr k off) (hk : s.tb k = some (.box T cs)) [ht : VI P t n g] (hf : Zrb g n off cs = some (.agg l)) (h : Run P X N Q (.ops ops rem :: ks) (s.put (some d) (.agg l))) : Zbp P X N Q ops rem ks (some d) (.load t x) s := Zdx hN (fun _ _ _ hd => Yft hd rfl hx hk ht.out hf) h
theorem Zsj {d : Nat} {x : Operand} {t k T n : Nat} {g : Bool} {v : PD} (hN : Nat.blt d N = true) (hx : s.ev x = .ptr k 0) (hk : s.tb k = some (.box T (Zap v))) [ht : VI P t n g] (hf : Zkh g n v = true) (h : Run P X N Q (.ops ops rem :: ks) (s.put (some d) (.dat v))) : Zbp P X N Q ops rem ks (some d) (.load t x) s := Zdx hN (fun _ _ _ hd => Zz0 hd rfl hx hk ht.out hf) h
theorem Zw6 {d : Nat} {x : Operand} {t n : Nat} {g : Bool} {v : PD} (hN : Nat.blt d N = true) (hx : s.ev x = .dat (.ptr v)) [ht : VI P t n g] (hf : Zkh g n v = true) (h : Run P X N Q (.ops ops rem :: ks) (s.put (some d) (.dat v))) : Zbp P X N Q ops rem ks (some d) (.load t x) s := Zdx hN (fun _ _ _ hd => Zzy hd rfl hx ht.out hf) h
theorem Zax {d : Nat} {x : Operand} {y : Operand} {op : BinOp} {t t' : Nat} {u v : Value} {b : Bool} (hN : Nat.blt d N = true) (hx : s.ev x = .dat (.val u)) (hy : s.ev y = .dat (.val v)) (hr : Ymb op u v = some (.bool b)) (h : Run P X N Q (.ops ops rem :: ks) (s.put (some d) (.dat (.val (.bool b))))) : Zbp P X N Q ops rem ks (some d) (.binOp op t x y t') s := Zdx hN (fun _ _ _ hd => Yfg hd rfl hx hy hr) h
theorem Zcg {d : Nat} {x : Operand} {op : BinOp} {t t' : Nat} {c : Value} {d0 : PD} {i b r : Bool} (hN : Nat.blt d N = true) (hx : s.ev x = .dat d0) (hc : Zuy c = some i) (ht : Ysv P t = some i) (hn : NilIs i d0 b) (hr : Yss op b = some r) (h : Run P X N Q (.ops ops rem :: ks) (s.put (some d) (.dat (.val (.bool r))))) : Zbp P X N Q ops rem ks (some d) (.binOp op t x (.const c) t') s := Zdx hN (fun _ _ _ hd => Yfj hd rfl hx hc ht hn hr) h
theorem Zid {d : Nat} {x : Operand} {y : Operand} {op : BinOp} {t t' : Nat} {a b c : Int} (hN : Nat.blt d N = true) (hx : s.ev x = .dat (.val (.int .i64 a))) (hy : s.ev y = .dat (.val (.int .i64 b))) (hr : ari op a b = some c) (hc : -9223372036854775808 ≤ c ∧ c ≤ 9223372036854775807) (h : Run P X N Q (.ops ops rem :: ks) (s.put (some d) (.dat (.val (.int .i64 c))))) : Zbp P X N Q ops rem ks (some d) (.binOp op t x y t') s := Zdx hN (fun _ _ _ hd => Yff hd rfl hx hy hr hc) h
theorem Zdc {d : Nat} {x : Operand} {t : Nat} {b : Bool} (hN : Nat.blt d N = true) (hx : s.ev x = .dat (.val (.bool b))) (h : Run P X N Q (.ops ops rem :: ks) (s.put (some d) (.dat (.val (.bool (!b)))))) : Zbp P X N Q ops rem ks (some d) (.unOp .not t x) s := Zdx hN (fun _ _ _ hd => Ylt hd rfl hx) h
theorem Zfz {d : Nat} {c x y : Operand} {b : Bool} {v : PD} (hN : Nat.blt d N = true) (hc : s.ev c = .dat (.val (.bool b))) (hb : b = true) (hx : s.ev x = .dat v) (h : Run P X N Q (.ops ops rem :: ks) (s.put (some d) (.dat v))) : Zbp P X N Q ops rem ks (some d) (.pick c x y) s := Zdx hN (fun _ _ _ hd => Zz5 hd rfl hc hb hx) h
theorem Zen {d : Nat} {c x y : Operand} {b : Bool} {v : PD} (hN : Nat.blt d N = true) (hc : s.ev c = .dat (.val (.bool b))) (hb : b = false) (hx : s.ev y = .dat v) (h : Run P X N Q (.ops ops rem :: ks) (s.put (some d) (.dat v))) : Zbp P X N Q ops rem ks (some d) (.pick c x y) s := Zdx hN (fun _ _ _ hd => Zz4 hd rfl hc hb hx) h
theorem Zis {d : Nat} {x ix : Operand} {t n y e y' : Nat} {l : List PD} {k : IntKind} {i : Int} {v : PD} (hN : Nat.blt d N = true) (hx : s.ev x = .dat (.sl n y l)) (hi : s.ev ix = .dat (.val (.int k i))) [ht : SI P t e n y'] (hi0 : 0 ≤ i) (hl : l[i.toNat]? = some v) (h : Run P X N Q (.ops ops rem :: ks) (s.put (some d) (.dat (.ptr v)))) : Zbp P X N Q ops rem ks (some d) (.indexAddr t x ix) s := Zdx hN (fun _ _ _ hd => Zk1 hd rfl hx hi ht.out hi0 hl) h
theorem Zu2 {d : Nat} {x : Operand} {t e n n' y y' : Nat} {l : List PD} (hN : Nat.blt d N = true) (hx : s.ev x = .dat (.sl n y l)) [ht : SI P t e n' y'] (h : Run P X N Q (.ops ops rem :: ks) (s.put (some d) (.dat (.val (.int .i64 l.length))))) : Zbp P X N Q ops rem ks (some d) (.call { callee := .builtin .len, args := #[x], argTypes := #[t] }) s := Zdx hN (fun _ _ _ hd => Yfr hd rfl ht.out hx) h
theorem Ye1 {d : Nat} {x : Operand} {t k e e' n n' y y' : Nat} {l : List PD} (hN : Nat.blt d N = true) (hx : s.ev x = .own k) [ht : SI P t e' n' y'] (hk : s.tb k = some (.row e n y l)) (h : Run P X N Q (.ops ops rem :: ks) (s.put (some d) (.dat (.val (.int .i64 l.length))))) : Zbp P X N Q ops rem ks (some d) (.call { callee := .builtin .len, args := #[x], argTypes := #[t] }) s := Zdx hN (fun _ _ _ hd => Yon hd rfl ht.out hx hk) h
theorem Yrc {d : Nat} {x : Operand} {t e n y : Nat} (hN : Nat.blt d N = true) (hx : s.ev x = .dat (.val (.slice none 0 0))) [ht : SI P t e n y] (h : Run P X N Q (.ops ops rem :: ks) (s.put (some d) (.dat (.val (.int .i64 0))))) : Zbp P X N Q ops rem ks (some d) (.call { callee := .builtin .len, args := #[x], argTypes := #[t] }) s := Zdx hN (fun _ _ _ hd => Yom hd rfl ht.out hx) h
theorem Zcb {d : Nat} {x : Operand} {i : Nat} {l : List PD} {v : PD} (hN : Nat.blt d N = true) (hx : s.ev x = .dat (.tup l)) (hl : l[i]? = some v) (h : Run P X N Q (.ops ops rem :: ks) (s.put (some d) (.dat v))) : Zbp P X N Q ops rem ks (some d) (.extract x i) s := Zdx hN (fun _ _ _ hd => Zqz hd rfl hx hl) h
theorem Zu4 {d : Nat} {x : Operand} {k off : Nat} (hN : Nat.blt d N = true) (hx : s.ev x = .ptr k off) (h : Run P X N Q (.ops ops rem :: ks) (s.put (some d) (.ptr k off))) : Zbp P X N Q ops rem ks (some d) (.nilCheck x) s := Zdx hN (fun _ _ _ hd => Zmh hd rfl hx) h
theorem Yre {d : Nat} {x : Operand} {v : PD} (hN : Nat.blt d N = true) (hx : s.ev x = .dat (.ptr v)) (h : Run P X N Q (.ops ops rem :: ks) (s.put (some d) (.dat (.ptr v)))) : Zbp P X N Q ops rem ks (some d) (.nilCheck x) s := Zdx hN (fun _ _ _ hd => Zmi hd rfl hx) h
theorem Yjh {d : Nat} {x : Operand} {lo hi : Option Operand} {t e n y y' : Nat} {l : List PD} {a b : Nat} (hN : Nat.blt d N = true) (hx : s.ev x = .dat (.sl n y l)) [ht : SI P t e n y'] (hlo : Zv5 s lo 0 = some (a : Int)) (hhi : Zv5 s hi l.length = some (b : Int)) (hab : a ≤ b) (hbl : b ≤ l.length) (h : Run P X N Q (.ops ops rem :: ks) (s.put (some d) (.dat (.sl n y ((l.take b).drop a))))) : Zbp P X N Q ops rem ks (some d) (.slice t x lo hi none) s := Zdx hN (fun _ _ _ hd => Zvg hd rfl hx ht.out hlo hhi hab hbl) h
theorem Zlz {d : Nat} {t : Nat} {parts : Array (Nat × Operand)} {zs : List Value} {cs : List AV} {pl : List (Nat × Nat)} {v : PD} (hN : Nat.blt d N = true) [hz : ZI P t zs] [hp : PLI P t pl] (hc : Zmv s pl (zs.map fun v => .dat (.val v)) parts.toList = some cs) (hr : Zpz cs = .dat v) (h : Run P X N Q (.ops ops rem :: ks) (s.put (some d) (.dat v))) : Zbp P X N Q ops rem ks (some d) (.build t parts) s := Zdx hN (fun _ _ _ hd => Zng hd rfl hz.out hz.ok hp.out hc hr) h
theorem Zzi {d : Nat} {t : Nat} {parts : Array (Nat × Operand)} {zs : List Value} {cs : List AV} {pl : List (Nat × Nat)} {v : List AV} (hN : Nat.blt d N = true) [hz : ZI P t zs] [hp : PLI P t pl] (hc : Zmv s pl (zs.map fun v => .dat (.val v)) parts.toList = some cs) (hr : Zpz cs = .agg v) (h : Run P X N Q (.ops ops rem :: ks) (s.put (some d) (.agg v))) : Zbp P X N Q ops rem ks (some d) (.build t parts) s := Zdx hN (fun _ _ _ hd => Zng hd rfl hz.out hz.ok hp.out hc hr) h
theorem Zsh {d : Nat} {x : Operand} {t : Nat} {v : PD} (hN : Nat.blt d N = true) (hx : s.ev x = .dat v) (ht : Zt2 P t = true) (h : Run P X N Q (.ops ops rem :: ks) (s.put (some d) (.dat (.iface t v)))) : Zbp P X N Q ops rem ks (some d) (.makeInterface t x) s := Zdx hN (fun _ _ _ hd => Yj3 hd rfl hx ht) h
theorem Ynw {d t : Nat} {x : Operand} {cs : List AV} (hN : Nat.blt d N = true) (hk : s.tb d = none) (hx : Zc5 (s.ev x) = some cs) (h : Run P X N Q (.ops ops rem :: ks) (s.new d (.box t cs) (.ptr d 0))) : Zbp P X N Q ops rem ks (some d) (.box t x) s := Zu3 hN (fun _ _ _ hd => Yls rfl hd hk rfl hx) h
theorem Zcq {d t : Nat} {x : Operand} {v : PD} (hN : Nat.blt d N = true) (hk : s.tb d = none) (hx : s.ev x = .dat v) (hn : Zmg v = true) (h : Run P X N Q (.ops ops rem :: ks) (s.new d (.box t (Zap v)) (.ptr d 0))) : Zbp P X N Q ops rem ks (some d) (.box t x) s := Zu3 hN (fun _ _ _ hd => Yfh rfl hd hk rfl hx hn) h
theorem Zlx {d t : Nat} {zs : List Value} (hN : Nat.blt d N = true) (hk : s.tb d = none) [hz : ZI P t zs] (h : Run P X N Q (.ops ops rem :: ks) (s.new d (.box t (zs.map fun v => .dat (.val v))) (.ptr d 0))) : Zbp P X N Q ops rem ks (some d) (.alloc t) s := Zu3 hN (fun _ _ _ hd => Yjx rfl hd hk rfl hz.out hz.ok) h
theorem Zcx {t k off T n : Nat} {x y : Operand} {cs ys : List AV} {g : Bool} (hx : s.ev x = .ptr k off) (hk : s.tb k = some (.box T cs)) [ht : VI P t n g] (hy : Zc5 (s.ev y) = some ys) (hn : ys.length = n) (hle : Nat.ble (off + n) cs.length = true)
  (h : Run P X N Q (.ops ops rem :: ks) (s.set k (.box T (cs.take off ++ ys ++ cs.drop (off + n))))) : Zbp P X N Q ops rem ks none (.store t x y) s := Yja (fun _ _ _ => Zo7 rfl rfl hx hk ht.out hy hn (Nat.le_of_ble_eq_true hle)) h
theorem Yjk {t k T n : Nat} {x y : Operand} {cs : List AV} {v : PD} {g : Bool} (hx : s.ev x = .ptr k 0) (hk : s.tb k = some (.box T cs)) [ht : VI P t n g] (hy : s.ev y = .dat v) (hf : Zmg v = true) (hl : (Zap v).length = n) (hn : cs.length = n)
  (h : Run P X N Q (.ops ops rem :: ks) (s.set k (.box T (Zap v)))) : Zbp P X N Q ops rem ks none (.store t x y) s := Yja (fun _ _ _ => Zvh rfl rfl hx hk ht.out hy hf hl hn) h
theorem Zgo {d f : Nat} {xs : List Operand} {ts : Array TypeId} {ds : List PD} {r : PD} (hN : Nat.blt d N = true) (hf : Zbo P f = true) (hx : Zi2 (xs.map s.ev) = some ds) (hr : PCall P f ds r) (h : Run P X N Q (.ops ops rem :: ks) (s.put (some d) (.dat r))) :
  Zbp P X N Q ops rem ks (some d) (.call { callee := .value (.func f), args := xs.toArray, argTypes := ts }) s := Zdx hN (fun _ _ _ hd => Yfi hd rfl hf hx hr) h
theorem Zop {d t e n y : Nat} {lo hi : Operand} {k k' : IntKind} {c : Nat} (hN : Nat.blt d N = true) (hk : s.tb d = none) (hlo : s.ev lo = .dat (.val (.int k 0))) (hhi : s.ev hi = .dat (.val (.int k' (c : Int)))) [ht : SI P t e n y] (hz : (Ypr P e).isSome = true) (hc : c * y ≤ 140737488351232) (hc' : c ≤ 140737488351232)
  (h : Run P X N Q (.ops ops rem :: ks) (s.new d (.row e n y []) (.own d))) : Zbp P X N Q ops rem ks (some d) (.makeSlice t lo hi) s := Zu3 hN (fun _ _ _ hd => Zvf rfl hd hk rfl hlo hhi ht.out hz hc hc') h
theorem Zir {d t e n y len : Nat} {parts : Array (Nat × Operand)} {ds : List PD} (hN : Nat.blt d N = true) (hk : s.tb d = none) [ht : SI P t e n y] (hz : Zv6 P e = some n) (hds : Zjj s n 0 parts.toList = some ds) (hlen : ds.length = len) (hn : Nat.blt 0 n = true) (hsm : Nat.ble (len * n) 16777216 = true) (hby : Nat.ble (len * y) 140737488351232 = true)
  (h : Run P X N Q (.ops ops rem :: ks) (s.new d (.row e n y ds) (.own d))) : Zbp P X N Q ops rem ks (some d) (.buildSlice t len parts) s := Zu3 hN (fun _ _ _ hd => Zky rfl hd hk rfl ht.out hz hds hlen hn hsm hby) h
theorem Zly {d t e n y k k2 : Nat} {x x2 : Operand} {l l2 : List PD} {e2 n2 y2 : Nat} (hN : Nat.blt d N = true) (hd0 : s.tb d = none) (hx : s.ev x = .own k) (hk : s.tb k = some (.row e n y l)) (hx2 : s.ev x2 = .own k2) (hk2 : s.tb k2 = some (.row e2 n2 y2 l2))
  [ht : SI P t e n y] (hz : Zv6 P e = some n) (hn : Nat.blt 0 n = true) (hn2 : n2 = n) (hb1 : (l.length + l2.length) * y ≤ 140737488351232) (hb2 : l.length + l2.length ≤ 140737488351232)
  (h : Run P X N Q (.ops ops rem :: ks) (s.mv k d (.row e n y (l ++ l2)))) : Zbp P X N Q ops rem ks (some d) (.call { callee := .builtin .append, args := #[x, x2], argTypes := #[t, t] }) s :=
 Zu3 hN (fun _ _ _ hd => Zo3 rfl hd hd0 rfl hx hk hx2 hk2 ht.out hz hn hn2 hb1 hb2) h
theorem Ybm {d t e n y k : Nat} {x x2 : Operand} {l l2 : List PD} {n2 y2 : Nat} (hN : Nat.blt d N = true) (hd0 : s.tb d = none) (hx : s.ev x = .own k) (hk : s.tb k = some (.row e n y l)) (hx2 : s.ev x2 = .dat (.sl n2 y2 l2))
  [ht : SI P t e n y] (hz : Zv6 P e = some n) (hn : Nat.blt 0 n = true) (hn2 : n2 = n) (hb1 : (l.length + l2.length) * y ≤ 140737488351232) (hb2 : l.length + l2.length ≤ 140737488351232)
  (h : Run P X N Q (.ops ops rem :: ks) (s.mv k d (.row e n y (l ++ l2)))) : Zbp P X N Q ops rem ks (some d) (.call { callee := .builtin .append, args := #[x, x2], argTypes := #[t, t] }) s :=
 Zu3 hN (fun _ _ _ hd => Zo2 rfl hd hd0 rfl hx hk hx2 ht.out hz hn hn2 hb1 hb2) h
end
end Go.Proofs.YtgmahieoiifpfaaGreat
namespace Go.Proofs.YtgmahieoiifpfaaGreat
open Go.RowKit
structure Eff where
 dead : Option Nat
 blk : Option (Nat × Blk)
 tmp : Option (Nat × AV)
 blk2 : Option (Nat × Blk) := none
def Eff.wt (e : Eff) (t : Nat) (x : AV) : AV :=
 match e.tmp with
 | some (d, v) => if t = d then v else x
 | none => x
def Eff.wd (e : Eff) (k : Nat) (x : Option Blk) : Option Blk :=
 match e.dead with
 | some k0 => if k = k0 then some .dead else x
 | none => x
def Eff.wk1 (e : Eff) (k : Nat) (x : Option Blk) : Option Blk :=
 match e.blk with
 | some (d, b) => if k = d then some b else e.wd k x
 | none => e.wd k x
def Eff.wk (e : Eff) (k : Nat) (x : Option Blk) : Option Blk :=
 match e.blk2 with
 | some (d, b) => if k = d then some b else e.wk1 k x
 | none => e.wk1 k x
def Eff.more (e : Eff) : List Nat := e.dead.toList ++ (match e.blk2 with | some (k, _) => [k] | none => [])
def Eff.app (e : Eff) (s : Sta) : Sta := { tm := fun t => e.wt t (s.tm t), tb := fun k => e.wk k (s.tb k) }
def Eff.put (d : Option Nat) (v : AV) : Eff := { dead := none, blk := none, tmp := d.map fun d => (d, v) }
def Eff.new (d : Nat) (b : Blk) (v : AV) : Eff := { dead := none, blk := some (d, b), tmp := some (d, v) }
def Eff.set (k : Nat) (b : Blk) : Eff := { dead := none, blk := some (k, b), tmp := none }
def Eff.mv (k d : Nat) (b : Blk) : Eff := { dead := some k, blk := some (d, b), tmp := some (d, .own d) }
theorem Zih (d : Option Nat) (v : AV) (s : Sta) : (Eff.put d v).app s = s.put d v := by
 cases d with
 | none => rfl
 | some d => rfl
theorem Yl9 (d : Nat) (b : Blk) (v : AV) (s : Sta) : (Eff.new d b v).app s = s.new d b v := rfl
theorem Yma (k : Nat) (b : Blk) (s : Sta) : (Eff.set k b).app s = s.set k b := rfl
theorem Yp8 (k d : Nat) (b : Blk) (s : Sta) : (Eff.mv k d b).app s = s.mv k d b := rfl
mutual
def Zbq : AV → List Nat
 | .any => []
 | .dat _ => []
 | .ptr k _ => [k]
 | .own k => [k]
 | .agg l => Zcy l
 | .tup l => Zcy l
 | .iface _ x => Zbq x
 | .clo _ l => Zcy l
 | .elt k _ _ _ => [k]
def Zcy : List AV → List Nat
 | [] => []
 | x :: r => Zbq x ++ Zcy r
end
def Zmp (ops : List Oper) (o : Oper) : List Nat :=
 (o.op.operands.toList.filterMap fun | .tmp t => some t | _ => none) ++
 (match o.guard with | some (g, _) => ((ops[g]?).bind (·.dst)).toList | none => [])
def Ypt : Op → Bool
 | .move _ => true
 | .assign _ => true
 | _ => false
def Yn4 (ops : List Oper) (o : Oper) : List Nat := if Ypt o.op then [] else Zmp ops o
def Zqq (s : Sta) (ts : List Nat) (e : Eff) : List Nat := ts.flatMap (fun t => Zbq (s.tm t)) ++ (match e.blk with | some (k, _) => [k] | none => []) ++ e.more
def Zv7 (ops : List Oper) (o : Oper) (e : Eff) (s s' : Sta) : Prop :=
 (∀ t ∈ Zmp ops o, s'.tm t = s.tm t) ∧ ∀ k ∈ Zqq s (Yn4 ops o) e, s'.tb k = s.tb k
def Ysz (P : Program) (X : Base) (ops : List Oper) (o : Oper) (e : Eff) (s : Sta) : Prop := ∀ s', Zv7 ops o e s s' → OpS P X o s' (e.app s')
def gA (ops : List Oper) (s : Sta) (g : Nat) : AV :=
 match (ops[g]?).bind (·.dst) with
 | some t => s.tm t
 | none => .any
inductive Stp (P : Program) (X : Base) (ops : List Oper) (o : Oper) (s : Sta) : Eff → Prop where
 | act (e : Eff) (hg : o.guard = none) (h : Ysz P X ops o e s) : Stp P X ops o s e
 | actG (e : Eff) (g : Nat) (want b : Bool) (hg : o.guard = some (g, want)) (hb : gA ops s g = .dat (.val (.bool b))) (hw : b = want) (h : Ysz P X ops o e s) : Stp P X ops o s e
 | pass (g : Nat) (want b : Bool) (hg : o.guard = some (g, want)) (hb : gA ops s g = .dat (.val (.bool b))) (hw : b = !want) (hd : Za7 X.N o.dst = true) : Stp P X ops o s (Eff.put o.dst (.dat (.tup [])))
 | passU (g : Nat) (want : Bool) (hg : o.guard = some (g, want)) (hb : gA ops s g = .dat (.tup [])) (hd : Za7 X.N o.dst = true) : Stp P X ops o s (Eff.put o.dst (.dat (.tup [])))
section
variable {P : Program} {X : Base} {Q : Exit → Act → World → Prop}
def Zex (p : Nat → Bool) (t : Nat) : List Eff → Nat → AV → AV
 | [], _, x => x
 | e :: es, i, x => Zex p t es (i + 1) (if p i then e.wt t x else x)
def Zew (p : Nat → Bool) (k : Nat) : List Eff → Nat → Option Blk → Option Blk
 | [], _, x => x
 | e :: es, i, x => Zew p k es (i + 1) (if p i then e.wk k x else x)
def Zgj (p : Nat → Bool) (es : List Eff) (i : Nat) (s : Sta) : Sta := { tm := fun t => Zex p t es i (s.tm t), tb := fun k => Zew p k es i (s.tb k) }
theorem Zd6 {p q : Nat → Bool} {t : Nat} : ∀ {es : List Eff} {i : Nat} {x : AV}, (∀ j e, es[j]? = some e → (∀ y, e.wt t y = y) ∨ p (i + j) = q (i + j)) → Zex p t es i x = Zex q t es i x
 | [], _, _, _ => rfl
 | e :: es, i, x, h => by
  unfold Zex
  have h0 : (if p i then e.wt t x else x) = if q i then e.wt t x else x := by
   rcases h 0 e rfl with h1 | h1
   ·rw [h1]; simp
   ·rw [Nat.add_zero] at h1; rw [h1]
  rw [h0]
  exact Zd6 fun j e' hj => by
   have := h (j + 1) e' (by simpa using hj)
   rwa [show i + (j + 1) = i + 1 + j by omega] at this
theorem Zd5 {p q : Nat → Bool} {k : Nat} : ∀ {es : List Eff} {i : Nat} {x : Option Blk}, (∀ j e, es[j]? = some e → (∀ y, e.wk k y = y) ∨ p (i + j) = q (i + j)) → Zew p k es i x = Zew q k es i x
 | [], _, _, _ => rfl
 | e :: es, i, x, h => by
  unfold Zew
  have h0 : (if p i then e.wk k x else x) = if q i then e.wk k x else x := by
   rcases h 0 e rfl with h1 | h1
   ·rw [h1]; simp
   ·rw [Nat.add_zero] at h1; rw [h1]
  rw [h0]
  exact Zd5 fun j e' hj => by
   have := h (j + 1) e' (by simpa using hj)
   rwa [show i + (j + 1) = i + 1 + j by omega] at this
theorem Zqh {p : Nat → Bool} {t : Nat} (f : AV → AV) : ∀ {es : List Eff} {i : Nat} {x : AV}, (∀ j e, es[j]? = some e → p (i + j) = true → ∀ y, e.wt t (f y) = f (e.wt t y)) → Zex p t es i (f x) = f (Zex p t es i x)
 | [], _, _, _ => rfl
 | e :: es, i, x, h => by
  unfold Zex
  have h0 : (if p i then e.wt t (f x) else f x) = f (if p i then e.wt t x else x) := by
   by_cases hp : p i = true
   ·rw [if_pos hp, if_pos hp]; exact h 0 e rfl (by simpa using hp) x
   ·rw [if_neg hp, if_neg hp]
  rw [h0]
  exact Zqh f fun j e' hj hp => h (j + 1) e' (by simpa using hj) (by rwa [show i + (j + 1) = i + 1 + j by omega])
theorem Zqf {p : Nat → Bool} {k : Nat} (f : Option Blk → Option Blk) : ∀ {es : List Eff} {i : Nat} {x : Option Blk}, (∀ j e, es[j]? = some e → p (i + j) = true → ∀ y, e.wk k (f y) = f (e.wk k y)) → Zew p k es i (f x) = f (Zew p k es i x)
 | [], _, _, _ => rfl
 | e :: es, i, x, h => by
  unfold Zew
  have h0 : (if p i then e.wk k (f x) else f x) = f (if p i then e.wk k x else x) := by
   by_cases hp : p i = true
   ·rw [if_pos hp, if_pos hp]; exact h 0 e rfl (by simpa using hp) x
   ·rw [if_neg hp, if_neg hp]
  rw [h0]
  exact Zqf f fun j e' hj hp => h (j + 1) e' (by simpa using hj) (by rwa [show i + (j + 1) = i + 1 + j by omega])
theorem Zqi {p p' : Nat → Bool} {t : Nat} {a : Nat} (ha : p a = false) (ha' : p' a = true) (hp : ∀ j, j ≠ a → p' j = p j) : ∀ {es : List Eff} {i : Nat} {x : AV} {e0 : Eff}, i ≤ a → es[a - i]? = some e0 →
  (∀ j e, a < i + j → es[j]? = some e → p (i + j) = true → ∀ y, e.wt t (e0.wt t y) = e0.wt t (e.wt t y)) → Zex p' t es i x = e0.wt t (Zex p t es i x)
 | [], i, x, e0, _, h0, _ => by simp at h0
 | e :: es, i, x, e0, hi, h0, h => by
  unfold Zex
  by_cases e1 : i = a
  ·subst e1
   simp only [Nat.sub_self, List.getElem?_cons_zero, Option.some.injEq] at h0
   subst h0
   rw [if_pos ha', if_neg (by rw [ha]; simp)]
   have h1 : Zex p' t es (i + 1) (e.wt t x) = Zex p t es (i + 1) (e.wt t x) := Zd6 fun j e' hj => .inr (hp _ (by omega))
   rw [h1]
   exact Zqh (e.wt t) fun j e' hj hpj => h (j + 1) e' (by omega) (by simpa using hj) (by rwa [show i + (j + 1) = i + 1 + j by omega])
  ·rw [hp i e1]
   exact Zqi ha ha' hp (by omega) (by rw [show a - i = (a - (i + 1)) + 1 by omega] at h0; simpa using h0) fun j e' hj he hpj => h (j + 1) e' (by omega) (by simpa using he) (by rwa [show i + (j + 1) = i + 1 + j by omega])
theorem Zqg {p p' : Nat → Bool} {k : Nat} {a : Nat} (ha : p a = false) (ha' : p' a = true) (hp : ∀ j, j ≠ a → p' j = p j) : ∀ {es : List Eff} {i : Nat} {x : Option Blk} {e0 : Eff}, i ≤ a → es[a - i]? = some e0 →
  (∀ j e, a < i + j → es[j]? = some e → p (i + j) = true → ∀ y, e.wk k (e0.wk k y) = e0.wk k (e.wk k y)) → Zew p' k es i x = e0.wk k (Zew p k es i x)
 | [], i, x, e0, _, h0, _ => by simp at h0
 | e :: es, i, x, e0, hi, h0, h => by
  unfold Zew
  by_cases e1 : i = a
  ·subst e1
   simp only [Nat.sub_self, List.getElem?_cons_zero, Option.some.injEq] at h0
   subst h0
   rw [if_pos ha', if_neg (by rw [ha]; simp)]
   have h1 : Zew p' k es (i + 1) (e.wk k x) = Zew p k es (i + 1) (e.wk k x) := Zd5 fun j e' hj => .inr (hp _ (by omega))
   rw [h1]
   exact Zqf (e.wk k) fun j e' hj hpj => h (j + 1) e' (by omega) (by simpa using hj) (by rwa [show i + (j + 1) = i + 1 + j by omega])
  ·rw [hp i e1]
   exact Zqg ha ha' hp (by omega) (by rw [show a - i = (a - (i + 1)) + 1 by omega] at h0; simpa using h0) fun j e' hj he hpj => h (j + 1) e' (by omega) (by simpa using he) (by rwa [show i + (j + 1) = i + 1 + j by omega])
inductive Anc (ops : List Oper) (j : Nat) : Nat → Prop where
 | edge {i : Nat} {o : Oper} {e : Edge} (ho : ops[i]? = some o) (he : e ∈ o.after) (hb : Region.binds .any e = true) (hj : e.on = j) : Anc ops j i
 | step {i : Nat} {o : Oper} {e : Edge} (ho : ops[i]? = some o) (he : e ∈ o.after) (hb : Region.binds .any e = true) (h : Anc ops j e.on) : Anc ops j i
def Zqs (acc : List Nat) : List Edge → Nat
 | [] => 0
 | e :: r => if Region.binds .any e then (1 <<< e.on) ||| (acc.getD e.on 0) ||| Zqs acc r else Zqs acc r
def Zpy : List Oper → List Nat → List Nat
 | [], acc => acc
 | o :: r, acc => Zpy r (acc ++ [Zqs acc o.after.toList])
theorem Zov {ops : List Oper} {acc : List Nat} (hacc : ∀ i m j, acc[i]? = some m → m.testBit j = true → Anc ops j i) {i : Nat} {o : Oper} (ho : ops[i]? = some o) {j : Nat} :
  ∀ {l : List Edge}, (∀ e ∈ l, e ∈ o.after) → (Zqs acc l).testBit j = true → Anc ops j i
 | [], _, h => by simp [Zqs] at h
 | e :: r, hl, h => by
  unfold Zqs at h
  split at h
  ·rename_i hb
   rw [Nat.testBit_or, Nat.testBit_or] at h
   simp only [Bool.or_eq_true] at h
   rcases h with (h | h) | h
   ·refine .edge ho (hl e List.mem_cons_self) hb ?_
    rw [Nat.one_shiftLeft, Nat.testBit_two_pow] at h
    simpa using h
   ·refine .step ho (hl e List.mem_cons_self) hb ?_
    cases hq : acc[e.on]? with
    | none => simp [List.getD_eq_getElem?_getD, hq] at h
    | some m => exact hacc e.on m j hq (by simpa [List.getD_eq_getElem?_getD, hq] using h)
   ·exact Zov hacc ho (fun e' he' => hl e' (List.mem_cons_of_mem _ he')) h
  ·exact Zov hacc ho (fun e' he' => hl e' (List.mem_cons_of_mem _ he')) h
theorem Zi7 {ops : List Oper} : ∀ {l : List Oper} {acc : List Nat}, (∀ k o, l[k]? = some o → ops[acc.length + k]? = some o) → (∀ i m j, acc[i]? = some m → m.testBit j = true → Anc ops j i) →
  ∀ i m j, (Zpy l acc)[i]? = some m → m.testBit j = true → Anc ops j i
 | [], acc, _, hacc => hacc
 | o :: r, acc, hl, hacc => by
  unfold Zpy
  refine Zi7 (fun k o' hk => ?_) fun i m j hi hm => ?_
  ·have := hl (k + 1) o' (by simpa using hk)
   rw [List.length_append, List.length_singleton]
   rwa [show acc.length + (k + 1) = acc.length + 1 + k by omega] at this
  ·by_cases h1 : i < acc.length
   ·rw [List.getElem?_append_left h1] at hi
    exact hacc i m j hi hm
   ·rw [List.getElem?_append_right (by omega)] at hi
    have e1 : i = acc.length := by
     have := (List.getElem?_eq_some_iff.1 hi).1
     simp at this; omega
    subst e1
    simp only [Nat.sub_self, List.getElem?_cons_zero, Option.some.injEq] at hi
    subst hi
    exact Zov hacc (hl 0 o rfl) (fun e he => by simpa using he) hm
def Ym0 (a b : List Nat) : Bool := a.all fun x => !b.contains x
def wrT (e : Eff) : List Nat := match e.tmp with | some (d, _) => [d] | none => []
def wrK (e : Eff) : List Nat := (match e.blk with | some (d, _) => [d] | none => []) ++ e.more
structure Yho where
 rt : List Nat
 rk : List Nat
 e : Eff
def Zpx (a b : Yho) : Bool :=
 Ym0 (wrT a.e) (wrT b.e) && Ym0 (wrK a.e) (wrK b.e) && Ym0 (wrT a.e) b.rt && Ym0 (wrT b.e) a.rt && Ym0 (wrK a.e) b.rk && Ym0 (wrK b.e) a.rk
def Yqr (ops : List Oper) : List Oper → List Eff → Sta → List Yho
 | o :: os, e :: es, s => { rt := Zmp ops o, rk := Zqq s (Yn4 ops o) e, e } :: Yqr ops os es (e.app s)
 | _, _, _ => []
def Zz6 (ms : List Nat) (i : Nat) (a : Yho) : Nat → List Yho → Bool
 | _, [] => true
 | j, b :: r => ((ms.getD j 0).testBit i || Zpx a b) && Zz6 ms i a (j + 1) r
def Zj8 (ms : List Nat) : Nat → List Yho → Bool
 | _, [] => true
 | i, a :: r => Zz6 ms i a (i + 1) r && Zj8 ms (i + 1) r
def Zh3 (ops hd : List Oper) (es : List Eff) (s : Sta) : Bool := hd.length == es.length && (ops.all fun o => !(o.op matches .select ..)) && Zj8 (Zpy ops []) 0 (Yqr ops hd es s)
def Zsv (ops : List Oper) (es : List Eff) (s : Sta) : Bool := Zh3 ops ops es s
theorem Zpa {ms : List Nat} {i : Nat} {a : Yho} : ∀ {l : List Yho} {j : Nat}, Zz6 ms i a j l = true → ∀ k b, l[k]? = some b → (ms.getD (j + k) 0).testBit i = true ∨ Zpx a b = true
 | [], _, _, k, b, hk => by simp at hk
 | c :: r, j, h, k, b, hk => by
  simp only [Zz6, Bool.and_eq_true, Bool.or_eq_true] at h
  cases k with
  | zero => simp at hk; subst hk; exact h.1
  | succ k =>
   have := Zpa h.2 k b (by simpa using hk)
   rwa [show j + 1 + k = j + (k + 1) by omega] at this
theorem Zj9 {ms : List Nat} : ∀ {l : List Yho} {i : Nat}, Zj8 ms i l = true → ∀ p q a b, p < q → l[p]? = some a → l[q]? = some b → (ms.getD (i + q) 0).testBit (i + p) = true ∨ Zpx a b = true
 | [], _, _, p, q, a, b, _, hp, _ => by simp at hp
 | c :: r, i, h, p, q, a, b, hpq, hp, hq => by
  simp only [Zj8, Bool.and_eq_true] at h
  cases q with
  | zero => omega
  | succ q =>
   cases p with
   | zero =>
    simp at hp; subst hp
    have := Zpa h.1 q b (by simpa using hq)
    rwa [show i + 1 + q = i + (q + 1) by omega] at this
   | succ p =>
    have := Zj9 h.2 p q a b (by omega) (by simpa using hp) (by simpa using hq)
    rwa [show i + 1 + q = i + (q + 1) by omega, show i + 1 + p = i + (p + 1) by omega] at this
theorem Zhi {a b : List Nat} (h : Ym0 a b = true) {x : Nat} (hx : x ∈ a) : x ∉ b := by
 have := List.all_eq_true.1 h x hx
 simpa using this
theorem Ych {e : Eff} {t : Nat} (ht : t ∉ wrT e) (y : AV) : e.wt t y = y := by
 unfold Eff.wt
 unfold wrT at ht
 cases h : e.tmp with
 | none => rfl
 | some d => rw [h] at ht; simp at ht; simp [ht]
theorem Ycg {e : Eff} {t : Nat} (ht : t ∉ wrK e) (y : Option Blk) : e.wk t y = y := by
 obtain ⟨d, b, m, b2⟩ := e
 unfold wrK Eff.more at ht
 unfold Eff.wk Eff.wk1 Eff.wd
 rcases d with _ | d <;> rcases b with _ | b <;> rcases b2 with _ | b2 <;> simp at ht ⊢ <;> simp [ht]
theorem Yeh {a b : Yho} (h : Zpx a b = true) (t : Nat) (y : AV) : b.e.wt t (a.e.wt t y) = a.e.wt t (b.e.wt t y) := by
 simp only [Zpx, Bool.and_eq_true] at h
 obtain ⟨⟨⟨⟨⟨h3, h4⟩, h5⟩, h6⟩, h7⟩, h8⟩ := h
 by_cases ha : t ∈ wrT a.e
 ·have hb := Zhi h3 ha
  rw [Ych hb, Ych hb]
 ·rw [Ych ha, Ych ha]
theorem Yeg {a b : Yho} (h : Zpx a b = true) (t : Nat) (y : Option Blk) : b.e.wk t (a.e.wk t y) = a.e.wk t (b.e.wk t y) := by
 simp only [Zpx, Bool.and_eq_true] at h
 obtain ⟨⟨⟨⟨⟨h3, h4⟩, h5⟩, h6⟩, h7⟩, h8⟩ := h
 by_cases ha : t ∈ wrK a.e
 ·have hb := Zhi h4 ha
  rw [Ycg hb, Ycg hb]
 ·rw [Ycg ha, Ycg ha]
inductive Tr (P : Program) (X : Base) (ops : List Oper) : List Oper → Sta → List Eff → Sta → Prop where
 | nil {s : Sta} : Tr P X ops [] s [] s
 | cons {o : Oper} {r : List Oper} {s s' : Sta} {e : Eff} {es : List Eff} (h : Stp P X ops o s e) (ht : Tr P X ops r (e.app s) es s') : Tr P X ops (o :: r) s (e :: es) s'
def sAt : List Eff → Nat → Sta → Sta
 | _, 0, s => s
 | [], _ + 1, s => s
 | e :: es, i + 1, s => sAt es i (e.app s)
theorem Tr.len {ops r : List Oper} {s s' : Sta} {es : List Eff} (h : Tr P X ops r s es s') : es.length = r.length := by
 induction h with
 | nil => rfl
 | cons _ _ ih => simp [ih]
theorem Tr.at_ {ops r : List Oper} {s s' : Sta} {es : List Eff} (h : Tr P X ops r s es s') : ∀ {i : Nat} {o : Oper} {e : Eff}, r[i]? = some o → es[i]? = some e → Stp P X ops o (sAt es i s) e := by
 induction h with
 | nil => intro i o e h; simp at h
 | cons h1 ht ih =>
  intro i o e ho he
  cases i with
  | zero => simp at ho he; subst ho; subst he; exact h1
  | succ i => exact ih (by simpa using ho) (by simpa using he)
theorem Tr.last {ops r : List Oper} {s s' : Sta} {es : List Eff} (h : Tr P X ops r s es s') : s' = sAt es r.length s := by
 induction h with
 | nil => rfl
 | cons h1 ht ih => exact ih
theorem Zwr {ops : List Oper} : ∀ {os : List Oper} {es : List Eff} {s : Sta} {i : Nat} {o : Oper} {e : Eff}, os[i]? = some o → es[i]? = some e → (Yqr ops os es s)[i]? = some { rt := Zmp ops o, rk := Zqq (sAt es i s) (Yn4 ops o) e, e }
 | [], _, _, _, _, _, h, _ => by simp at h
 | _ :: _, [], _, _, _, _, _, h => by simp at h
 | o :: os, e :: es, s, i, o', e', ho, he => by
  unfold Yqr
  cases i with
  | zero => simp at ho he; subst ho; subst he; rfl
  | succ i =>
   have := Zwr (ops := ops) (s := e.app s) (i := i) (os := os) (es := es) (by simpa using ho) (by simpa using he)
   simpa [sAt] using this
theorem Zi9 (t : Nat) : ∀ (es : List Eff) (i i0 : Nat) (s : Sta), (sAt es i s).tm t = Zex (fun j => decide (j < i0 + i)) t es i0 (s.tm t)
 | [], 0, i0, s => rfl
 | [], i + 1, i0, s => rfl
 | e :: es, 0, i0, s => by
  unfold sAt
  have : Zex (fun j => decide (j < i0 + 0)) t (e :: es) i0 (s.tm t) = Zex (fun _ => false) t (e :: es) i0 (s.tm t) := Zd6 fun j e' _ => .inr (by simp)
  rw [this]
  have hf : ∀ (l : List Eff) (k : Nat) (x : AV), Zex (fun _ => false) t l k x = x := by
   intro l
   induction l with
   | nil => intro k x; rfl
   | cons y r ih => intro k x; unfold Zex; simpa using ih (k + 1) x
  rw [hf]
 | e :: es, i + 1, i0, s => by
  unfold sAt Zex
  rw [if_pos (by simp)]
  rw [Zi9 t es i (i0 + 1) (e.app s)]
  exact Zd6 fun j e' _ => .inr (by simp; omega)
theorem Zhs (t : Nat) : ∀ (es : List Eff) (i i0 : Nat) (s : Sta), (sAt es i s).tb t = Zew (fun j => decide (j < i0 + i)) t es i0 (s.tb t)
 | [], 0, i0, s => rfl
 | [], i + 1, i0, s => rfl
 | e :: es, 0, i0, s => by
  unfold sAt
  have : Zew (fun j => decide (j < i0 + 0)) t (e :: es) i0 (s.tb t) = Zew (fun _ => false) t (e :: es) i0 (s.tb t) := Zd5 fun j e' _ => .inr (by simp)
  rw [this]
  have hf : ∀ (l : List Eff) (k : Nat) (x : Option Blk), Zew (fun _ => false) t l k x = x := by
   intro l
   induction l with
   | nil => intro k x; rfl
   | cons y r ih => intro k x; unfold Zew; simpa using ih (k + 1) x
  rw [hf]
 | e :: es, i + 1, i0, s => by
  unfold sAt Zew
  rw [if_pos (by simp)]
  rw [Zhs t es i (i0 + 1) (e.app s)]
  exact Zd5 fun j e' _ => .inr (by simp; omega)
def Zc7 : Nat → List Oper → Bool
 | _, [] => true
 | i, o :: r => (o.after.toList.all fun e => !Region.binds .any e || Nat.blt e.on i) && Zc7 (i + 1) r
theorem Zee : ∀ {l : List Oper} {i : Nat}, Zc7 i l = true → ∀ k o, l[k]? = some o → ∀ e ∈ o.after, Region.binds .any e = true → e.on < i + k
 | [], _, _, k, o, hk => by simp at hk
 | c :: r, i, h, k, o, hk => by
  simp only [Zc7, Bool.and_eq_true] at h
  cases k with
  | zero =>
   simp at hk; subst hk
   intro e he hb
   have := List.all_eq_true.1 h.1 e (by simpa using he)
   simp only [hb, Bool.not_true, Bool.false_or] at this
   simpa [Nat.blt_eq] using this
  | succ k =>
   intro e he hb
   have := Zee h.2 k o (by simpa using hk) e he hb
   omega
def Znw (ops : List Oper) (L : Nat → Bool) : Prop := ∀ i o, L i = true → ops[i]? = some o → ∀ e ∈ o.after, Region.binds .any e = true → L e.on = true
theorem Ycw {ops : List Oper} {L : Nat → Bool} (hc : Znw ops L) {i : Nat} (hi : ∀ o, ops[i]? = some o → ∀ e ∈ o.after, Region.binds .any e = true → L e.on = true) {j : Nat} (h : Anc ops j i) : L j = true := by
 induction h with
 | edge ho he hb hj => rw [← hj]; exact hi _ ho _ he hb
 | step ho he hb h ih => exact ih fun o' ho' e' he' hb' => hc _ _ (hi _ ho _ he hb) ho' e' he' hb'
theorem Zue {p : Nat → Bool} {t : Nat} : ∀ {es es' : List Eff} {i : Nat} {x : AV}, es.length = es'.length → (∀ j, p (i + j) = true → es[j]? = es'[j]?) → Zex p t es i x = Zex p t es' i x
 | [], [], _, _, _, _ => rfl
 | [], _ :: _, _, _, h, _ => by simp at h
 | _ :: _, [], _, _, h, _ => by simp at h
 | e :: es, e' :: es', i, x, hl, h => by
  unfold Zex
  have h0 : (if p i then e.wt t x else x) = if p i then e'.wt t x else x := by
   by_cases hp : p i = true
   ·have := h 0 (by simpa using hp)
    simp at this; rw [this]
   ·rw [if_neg hp, if_neg hp]
  rw [h0]
  exact Zue (by simpa using hl) fun j hj => by simpa using h (j + 1) (by rwa [show i + (j + 1) = i + 1 + j by omega])
theorem Zud {p : Nat → Bool} {k : Nat} : ∀ {es es' : List Eff} {i : Nat} {x : Option Blk}, es.length = es'.length → (∀ j, p (i + j) = true → es[j]? = es'[j]?) → Zew p k es i x = Zew p k es' i x
 | [], [], _, _, _, _ => rfl
 | [], _ :: _, _, _, h, _ => by simp at h
 | _ :: _, [], _, _, h, _ => by simp at h
 | e :: es, e' :: es', i, x, hl, h => by
  unfold Zew
  have h0 : (if p i then e.wk k x else x) = if p i then e'.wk k x else x := by
   by_cases hp : p i = true
   ·have := h 0 (by simpa using hp)
    simp at this; rw [this]
   ·rw [if_neg hp, if_neg hp]
  rw [h0]
  exact Zud (by simpa using hl) fun j hj => by simpa using h (j + 1) (by rwa [show i + (j + 1) = i + 1 + j by omega])
def Ytn (P : Program) (X : Base) (ops : List Oper) (o : Oper) {ι : Type} (e : ι → Eff) (s : Sta) : Prop := ∀ s', (∀ i, Zv7 ops o (e i) s s') → ∀ a w, Conc X s' a w → ∀ (K : Act → World → Prop) (Q' : Exit → Act → World → Prop), (∀ a' w' i, Conc X ((e i).app s') a' w' → K a' w') → o.wp P a w K Q'
theorem Zl6 {ι : Type} (i0 : ι) {c : Nat} {ops hd tl : List Oper} (hsp : ops = hd ++ tl) {s s1 : Sta} {s' : ι → Sta} {es : ι → List Eff} (hlen : ∀ i, (es i).length = hd.length)
  (hstp : ∀ i j o e, j ≠ c → hd[j]? = some o → (es i)[j]? = some e → Stp P X ops o (sAt (es i) j s) e) (hlast : ∀ i, s' i = sAt (es i) hd.length s) (hsat : ∀ i, sAt (es i) c s = s1)
  (hcc : ∀ o, hd[c]? = some o → o.guard = none ∧ ∃ ec : ι → Eff, (∀ i, (es i)[c]? = some (ec i)) ∧ Ytn P X ops o ec s1) (hsame : ∀ i j, j ≠ c → ¬ Anc ops c j → (es i)[j]? = (es i0)[j]?)
  (hok : ∀ i, Zh3 ops hd (es i) s = true) (hdown : Zc7 0 ops = true) (htail : ∀ i, hd.length ≤ i → i < ops.length → ∀ j, j < hd.length → Anc ops j i)
  (hQ : ∀ (i : ι) (fuel : Nat) (listed : Array Bool) (a : Act) (w : World), listed.size = ops.length → (∀ i, i < ops.length → listed.getD i false = decide (i < hd.length)) → (((List.range ops.length).filter fun i => !listed.getD i false).length ≤ fuel) → Conc X (s' i) a w → wpAny P .any ops.toArray Q fuel listed a w) :
  ∀ (fuel : Nat) (listed : Array Bool) (a : Act) (w : World), listed.size = ops.length → Znw ops (fun i => listed.getD i false) → (∀ i, hd.length ≤ i → listed.getD i false = false) → (((List.range ops.length).filter fun i => !listed.getD i false).length ≤ fuel) →
   (∃ i, (listed.getD c false = false → i = i0) ∧ Conc X (Zgj (fun i => listed.getD i false) (es i) 0 s) a w) → wpAny P .any ops.toArray Q fuel listed a w := by
 have hle : hd.length ≤ ops.length := by rw [hsp]; simp
 have hat : ∀ i, i < hd.length → ops[i]? = hd[i]? := fun i h => by rw [hsp, List.getElem?_append_left h]
 have hpairs : ∀ v, Zj8 (Zpy ops []) 0 (Yqr ops hd (es v) s) = true := fun v => by
  have := hok v
  simp only [Zh3, Bool.and_eq_true] at this
  exact this.2
 have hpair : ∀ (v : ι) p q op oq ep eq, p < q → hd[p]? = some op → hd[q]? = some oq → (es v)[p]? = some ep → (es v)[q]? = some eq → Anc ops p q ∨ Zpx { rt := Zmp ops op, rk := Zqq (sAt (es v) p s) (Yn4 ops op) ep, e := ep } { rt := Zmp ops oq, rk := Zqq (sAt (es v) q s) (Yn4 ops oq) eq, e := eq } = true := by
  intro v p q op oq ep eq hpq h1 h2 h3 h4
  rcases Zj9 (hpairs v) p q _ _ hpq (Zwr h1 h3) (Zwr h2 h4) with h | h
  ·left
   simp only [Nat.zero_add] at h
   cases hm : (Zpy ops [])[q]? with
   | none => simp [List.getD_eq_getElem?_getD, hm] at h
   | some m => exact Zi7 (acc := []) (fun k o hk => by simpa using hk) (fun i m j hi => by simp at hi) q m p hm (by simpa [List.getD_eq_getElem?_getD, hm] using h)
  ·exact .inr h
 have hgd : ∀ (listed : Array Bool), listed.size = ops.length → ∀ i, i < ops.length → listed.getD i true = listed.getD i false := by
  intro listed hs i hi
  simp [Array.getD_eq_getD_getElem?, hs, hi]
 have hfin : ∀ (fuel : Nat) (listed : Array Bool) (a : Act) (w : World), listed.size = ops.length → (∀ i, i < hd.length → listed.getD i false = true) → (∀ i, hd.length ≤ i → listed.getD i false = false) → (((List.range ops.length).filter fun i => !listed.getD i false).length ≤ fuel) → (∃ v, (listed.getD c false = false → v = i0) ∧ Conc X (Zgj (fun i => listed.getD i false) (es v) 0 s) a w) → wpAny P .any ops.toArray Q fuel listed a w := by
  rintro fuel listed a w hs hall htl hcnt ⟨v, _, hc⟩
  have hlen := hlen v
  refine hQ v fuel listed a w hs (fun i _ => ?_) hcnt ?_
  ·by_cases h : i < hd.length
   ·rw [hall i h]; simp [h]
   ·rw [htl i (by omega)]; simp; omega
  have e1 : Zgj (fun i => listed.getD i false) (es v) 0 s = s' v := by
   rw [hlast]
   have e2 : ∀ t, Zex (fun i => listed.getD i false) t (es v) 0 (s.tm t) = (sAt (es v) hd.length s).tm t := fun t => by
    rw [Zi9 t (es v) hd.length 0 s]
    refine Zd6 fun j e he => .inr ?_
    have hj := (List.getElem?_eq_some_iff.1 he).1
    simp only [Nat.zero_add]
    rw [hall j (by omega)]
    simp; omega
   have e3 : ∀ t, Zew (fun i => listed.getD i false) t (es v) 0 (s.tb t) = (sAt (es v) hd.length s).tb t := fun t => by
    rw [Zhs t (es v) hd.length 0 s]
    refine Zd5 fun j e he => .inr ?_
    have hj := (List.getElem?_eq_some_iff.1 he).1
    simp only [Nat.zero_add]
    rw [hall j (by omega)]
    simp; omega
   unfold Zgj
   simp only [e2, e3]
  rw [e1] at hc
  exact hc
 have hready : ∀ (listed : Array Bool), listed.size = ops.length → Region.ready .any ops.toArray listed = [] → ∀ i, i < ops.length → listed.getD i false = true := by
  intro listed hs hr i
  induction i using Nat.strongRecOn with
  | _ i ih =>
   intro hi
   cases hli : listed.getD i false with
   | true => rfl
   | false =>
    exfalso
    have hm : i ∈ Region.ready .any ops.toArray listed := by
     unfold Region.ready
     rw [List.mem_filter]
     refine ⟨by simpa using hi, ?_⟩
     rw [hgd listed hs i hi, hli]
     have ho : ops.toArray[i]? = some ops[i] := by simp [hi]
     rw [ho]
     simp only [Bool.not_false, Option.map_some, Option.getD_some, Bool.true_and]
     rw [Array.all_eq_true']
     intro e he
     cases hb : Region.binds .any e with
     | false => rfl
     | true =>
      have hlt := Zee hdown i ops[i] (by simp [hi]) e he hb
      have := ih e.on (by omega) (by omega)
      simp [this]
    rw [hr] at hm
    cases hm
 intro fuel
 induction fuel with
 | zero =>
  intro listed a w hs hcl htl hcnt hc
  by_cases hhead : ∀ i, i < hd.length → listed.getD i false = true
  ·exact hfin _ listed a w hs hhead htl hcnt hc
  obtain ⟨j0, hj0, hun0⟩ : ∃ j, j < hd.length ∧ listed.getD j false = false := by
   refine Classical.byContradiction fun hn => hhead fun i hi => ?_
   cases h : listed.getD i false with
   | true => rfl
   | false => exact absurd ⟨i, hi, h⟩ hn
  have hall : ∀ i, i < ops.length → listed.getD i false = true := by
   intro i hi
   cases hli : listed.getD i false with
   | true => rfl
   | false =>
    have : i ∈ (List.range ops.length).filter fun i => !listed.getD i false := List.mem_filter.2 ⟨by simpa using hi, by rw [hli]; rfl⟩
    have h0 : ((List.range ops.length).filter fun i => !listed.getD i false) = [] := List.eq_nil_of_length_eq_zero (by omega)
    rw [h0] at this
    cases this
  have := hall j0 (by omega)
  rw [hun0] at this; cases this
 | succ fuel ih =>
  intro listed a w hs hcl htl hcnt hc
  by_cases hhead : ∀ i, i < hd.length → listed.getD i false = true
  ·exact hfin _ listed a w hs hhead htl hcnt hc
  obtain ⟨j0, hj0, hun0⟩ : ∃ j, j < hd.length ∧ listed.getD j false = false := by
   refine Classical.byContradiction fun hn => hhead fun i hi => ?_
   cases h : listed.getD i false with
   | true => rfl
   | false => exact absurd ⟨i, hi, h⟩ hn
  refine ⟨fun hr => absurd (hready listed hs hr j0 (by omega)) (by rw [hun0]; exact Bool.noConfusion), fun i hi => ?_⟩
  have hi0 := hi
  unfold Region.ready at hi
  rw [List.mem_filter] at hi
  obtain ⟨hir, hi2⟩ := hi
  have hil : i < ops.length := by simpa using hir
  simp only [Bool.and_eq_true, Bool.not_eq_true'] at hi2
  obtain ⟨hun, hdeps⟩ := hi2
  rw [hgd listed hs i hil] at hun
  obtain ⟨o, ho0⟩ : ∃ o, ops[i]? = some o := ⟨_, List.getElem?_eq_getElem hil⟩
  have hoa : ops.toArray[i]? = some o := by simpa using ho0
  rw [hoa] at hdeps
  simp only [Option.map_some, Option.getD_some, Array.all_eq_true'] at hdeps
  have hdep : ∀ o, ops[i]? = some o → ∀ e ∈ o.after, Region.binds .any e = true → listed.getD e.on false = true := by
   intro o ho' e he hb
   rw [ho0] at ho'; cases ho'
   have := hdeps e he
   simpa [hb] using this
  have hanc : ∀ j, Anc ops j i → listed.getD j false = true := fun j h => Ycw (L := fun i => listed.getD i false) hcl hdep h
  have hih : i < hd.length := Nat.lt_of_not_le fun h => by
   have := hanc j0 (htail i h hil j0 hj0)
   rw [hun0] at this; cases this
  have ho : hd[i]? = some o := by rw [← hat i hih]; exact ho0
  have hdesc : ∀ j, Anc ops i j → listed.getD j false = false := by
   intro j h
   cases hj : listed.getD j false with
   | false => rfl
   | true =>
    have := Ycw (L := fun i => listed.getD i false) hcl (fun o ho e he hb => hcl j o hj ho e he hb) h
    rw [hun] at this; cases this
  have hset : ∀ j, (listed.setIfInBounds i true).getD j false = if j = i then true else listed.getD j false := by
   intro j
   rw [Array.getD_eq_getD_getElem?, Array.getD_eq_getD_getElem?, Array.getElem?_setIfInBounds]
   by_cases h : i = j
   ·subst h; simp [hs, hil]
   ·rw [if_neg h, if_neg (Ne.symm h)]
  -- the state looks as it does in the order of the text
  have key : ∀ (v : ι) (ei : Eff), (es v)[i]? = some ei → Zv7 ops o ei (sAt (es v) i s) (Zgj (fun i => listed.getD i false) (es v) 0 s) ∧ ei.app (Zgj (fun i => listed.getD i false) (es v) 0 s) = Zgj (fun j => (listed.setIfInBounds i true).getD j false) (es v) 0 s := by
   intro v ei he
   have hcell : ∀ j ej, (es v)[j]? = some ej → j ≠ i → ((listed.getD j false = decide (j < i)) ∨ ((∀ t ∈ Zmp ops o, ∀ y, ej.wt t y = y) ∧ (∀ k ∈ Zqq (sAt (es v) i s) (Yn4 ops o) ei, ∀ y, ej.wk k y = y) ∧ (∀ t y, ej.wt t (ei.wt t y) = ei.wt t (ej.wt t y)) ∧ ∀ k y, ej.wk k (ei.wk k y) = ei.wk k (ej.wk k y))) := by
    intro j ej hej hne
    have hjl : j < hd.length := by have := (List.getElem?_eq_some_iff.1 hej).1; have := hlen v; omega
    have hoj : hd[j]? = some hd[j] := by simp [hjl]
    rcases Nat.lt_or_ge j i with hlt | hge
    ·rcases hpair v j i _ _ _ _ hlt hoj ho hej he with h | h
     ·left; rw [hanc j h]; simp [hlt]
     ·right
      have h' := h
      simp only [Zpx, Bool.and_eq_true] at h'
      obtain ⟨⟨⟨⟨⟨h3, h4⟩, h5⟩, h6⟩, h7⟩, h8⟩ := h'
      exact ⟨fun t ht y => Ych (fun hm => Zhi h5 hm ht) y, fun k hk y => Ycg (fun hm => Zhi h7 hm hk) y, fun t y => (Yeh h t y).symm, fun k y => (Yeg h k y).symm⟩
    ·have hlt : i < j := by omega
     rcases hpair v i j _ _ _ _ hlt ho hoj he hej with h | h
     ·left; rw [hdesc j h]; simp; omega
     ·right
      have h' := h
      simp only [Zpx, Bool.and_eq_true] at h'
      obtain ⟨⟨⟨⟨⟨h3, h4⟩, h5⟩, h6⟩, h7⟩, h8⟩ := h'
      exact ⟨fun t ht y => Ych (fun hm => Zhi h6 hm ht) y, fun k hk y => Ycg (fun hm => Zhi h8 hm hk) y, fun t y => Yeh h t y, fun k y => Yeg h k y⟩
   have halike : Zv7 ops o ei (sAt (es v) i s) (Zgj (fun i => listed.getD i false) (es v) 0 s) := by
    refine ⟨fun t ht => ?_, fun k hk => ?_⟩
    ·show Zex _ t (es v) 0 (s.tm t) = _
     rw [Zi9 t (es v) i 0 s]
     refine Zd6 fun j ej hej => ?_
     simp only [Nat.zero_add]
     by_cases hji : j = i
     ·right; subst hji; rw [hun]; simp
     ·rcases hcell j ej hej hji with h | h
      ·exact .inr h
      ·exact .inl (h.1 t ht)
    ·show Zew _ k (es v) 0 (s.tb k) = _
     rw [Zhs k (es v) i 0 s]
     refine Zd5 fun j ej hej => ?_
     simp only [Nat.zero_add]
     by_cases hji : j = i
     ·right; subst hji; rw [hun]; simp
     ·rcases hcell j ej hej hji with h | h
      ·exact .inr h
      ·exact .inl (h.2.1 k hk)
   have hnext : ei.app (Zgj (fun i => listed.getD i false) (es v) 0 s) = Zgj (fun j => (listed.setIfInBounds i true).getD j false) (es v) 0 s := by
    have e1 : ∀ t, ei.wt t (Zex (fun i => listed.getD i false) t (es v) 0 (s.tm t)) = Zex (fun j => (listed.setIfInBounds i true).getD j false) t (es v) 0 (s.tm t) := fun t => by
     refine (Zqi (a := i) hun (by rw [hset]; simp) (fun j hj => by rw [hset, if_neg hj]) (Nat.zero_le _) (by simpa using he) fun j ej hlt hej hpj y => ?_).symm
     simp only [Nat.zero_add] at hlt hpj
     rcases hcell j ej hej (by omega) with h | h
     ·rw [hpj] at h; simp at h; omega
     ·exact h.2.2.1 t y
    have e2 : ∀ t, ei.wk t (Zew (fun i => listed.getD i false) t (es v) 0 (s.tb t)) = Zew (fun j => (listed.setIfInBounds i true).getD j false) t (es v) 0 (s.tb t) := fun t => by
     refine (Zqg (a := i) hun (by rw [hset]; simp) (fun j hj => by rw [hset, if_neg hj]) (Nat.zero_le _) (by simpa using he) fun j ej hlt hej hpj y => ?_).symm
     simp only [Nat.zero_add] at hlt hpj
     rcases hcell j ej hej (by omega) with h | h
     ·rw [hpj] at h; simp at h; omega
     ·exact h.2.2.2 t y
    show ({ tm := _, tb := _ } : Sta) = _
    unfold Zgj
    simp only [← e1, ← e2]
   exact ⟨halike, hnext⟩
  have hcl' : Znw ops (fun j => (listed.setIfInBounds i true).getD j false) := by
   intro j o hj hoj e he' hb
   simp only at hj ⊢
   rw [hset] at hj ⊢
   by_cases h : j = i
   ·subst h
    split
    ·rfl
    ·exact hdep o hoj e he' hb
   ·rw [if_neg h] at hj
    split
    ·rfl
    ·exact hcl j o hj hoj e he' hb
  have hcnt' : ((List.range ops.length).filter fun j => !(listed.setIfInBounds i true).getD j false).length ≤ fuel := by
   have h1 : ((List.range ops.length).filter fun j => !(listed.setIfInBounds i true).getD j false).length < ((List.range ops.length).filter fun j => !listed.getD j false).length := by
    have key : ∀ (l : List Nat), i ∈ l → (l.filter fun j => !(listed.setIfInBounds i true).getD j false).length < (l.filter fun j => !listed.getD j false).length := by
     have hle : ∀ (l : List Nat), (l.filter fun j => !(listed.setIfInBounds i true).getD j false).length ≤ (l.filter fun j => !listed.getD j false).length := by
      intro l
      induction l with
      | nil => simp
      | cons y r ih =>
       simp only [List.filter_cons, hset]
       by_cases hy : y = i
       ·subst hy
        simp only [if_true, Bool.not_true, Bool.false_eq_true, if_false, hun, Bool.not_false, List.length_cons]
        simp only [hset] at ih
        omega
       ·simp only [if_neg hy]
        simp only [hset] at ih
        split
        ·simpa using ih
        ·exact ih
     intro l
     induction l with
     | nil => intro h; cases h
     | cons y r ihl =>
      intro hm
      simp only [List.filter_cons, hset]
      by_cases hy : y = i
      ·subst hy
       have := hle r
       simp only [hset] at this
       simp only [if_true, Bool.not_true, Bool.false_eq_true, if_false, hun, Bool.not_false, List.length_cons]
       omega
      ·have hm' : i ∈ r := (List.mem_cons.1 hm).resolve_left (Ne.symm hy)
       have := ihl hm'
       simp only [hset] at this
       simp only [if_neg hy]
       split
       ·simp only [List.length_cons]; omega
       ·exact this
    exact key _ (by simpa using hil)
   omega
  have hih0 : ∀ v (a' : Act) (w' : World), ((listed.setIfInBounds i true).getD c false = false → v = i0) → Conc X (Zgj (fun j => (listed.setIfInBounds i true).getD j false) (es v) 0 s) a' w' → wpAny P .any ops.toArray Q fuel (listed.setIfInBounds i true) a' w' := fun v a' w' hv hc' =>
   ih (listed.setIfInBounds i true) a' w' (by simpa using hs) hcl' (fun j hj => by rw [hset, if_neg (by omega)]; exact htl j hj) hcnt' ⟨v, hv, hc'⟩
  obtain ⟨v, hv0, hc⟩ := hc
  by_cases hic : i = c
  ·subst hic
   obtain rfl := hv0 hun
   obtain ⟨hg, ec, hec, hact⟩ := hcc o ho
   have hsig : ∀ u, Zgj (fun i => listed.getD i false) (es u) 0 s = Zgj (fun i => listed.getD i false) (es v) 0 s := fun u => by
    have hx : ∀ j, listed.getD (0 + j) false = true → (es u)[j]? = (es v)[j]? := fun j hj => by
     rw [Nat.zero_add] at hj
     refine hsame u j (fun e => by rw [e, hun] at hj; cases hj) fun hA => by rw [hdesc j hA] at hj; cases hj
    unfold Zgj
    congr 1
    ·funext t; exact Zue ((hlen u).trans (hlen v).symm) hx
    ·funext t; exact Zud ((hlen u).trans (hlen v).symm) hx
   unfold wpOp
   rw [hoa]
   simp only
   rw [if_pos (Zi1 hg)]
   refine .inl (hact _ (fun u => ?_) a w hc _ _ fun a' w' u hc' => ?_)
   ·have := (key u (ec u) (hec u)).1
    rwa [hsat, hsig] at this
   ·refine hih0 u a' w' (fun h => by rw [hset, if_pos rfl] at h; cases h) ?_
    rw [← (key u (ec u) (hec u)).2, hsig]
    exact hc'
  obtain ⟨ei, he⟩ : ∃ ei, (es v)[i]? = some ei := ⟨_, List.getElem?_eq_getElem (by rw [hlen]; exact hih)⟩
  obtain ⟨halike, hnext⟩ := key v ei he
  have hstp := hstp v i o ei hic ho he
  generalize hσ : Zgj (fun i => listed.getD i false) (es v) 0 s = σ at *
  have hgo : ∀ a' w', Conc X (ei.app σ) a' w' → wpAny P .any ops.toArray Q fuel (listed.setIfInBounds i true) a' w' := fun a' w' hc' =>
   hih0 v a' w' (fun h => hv0 (by rw [hset, if_neg (Ne.symm hic)] at h; exact h)) (by rw [← hnext]; exact hc')
  unfold wpOp
  rw [hoa]
  simp only
  have hgA : ∀ g want, o.guard = some (g, want) → gA ops σ g = gA ops (sAt (es v) i s) g := by
   intro g want hg
   unfold gA
   cases hq : (ops[g]?).bind (·.dst) with
   | none => rfl
   | some t => exact halike.1 t (by unfold Zmp; simp [hg, hq])
  have hgo2 : ∀ g want b, gA ops (sAt (es v) i s) g = .dat (.val (.bool b)) → o.guard = some (g, want) → Region.wanted o (yielded ops.toArray a.tmps) = (b == want) := by
   intro g want b hb hg
   refine Zhk (s := σ) (ops := ops.toArray) (g := (g, want)) ?_ hc hg
   have h1 := hgA g want hg
   rw [hb] at h1
   unfold gA at h1
   unfold Zhy
   simp only [List.getElem?_toArray]
   cases hq : (ops[g]?).bind (·.dst) with
   | none => rw [hq] at h1; simp at h1
   | some t => rw [hq] at h1; simp only at h1; simp only [h1]
  cases hstp with
  | act _ hg h =>
   rw [if_pos (Zi1 hg)]
   exact .inl (h σ halike a w hc _ _ hgo)
  | actG _ g want b hg hb hw h =>
   rw [if_pos (by rw [hgo2 g want b hb hg, hw]; simp)]
   exact .inl (h σ halike a w hc _ _ hgo)
  | pass g want b hg hb hw hd =>
   rw [if_neg (by rw [hgo2 g want b hb hg, hw]; cases want <;> simp)]
   obtain ⟨ρ, hcc⟩ := hc
   refine hgo _ _ ⟨ρ, ?_⟩
   rw [Zih]
   exact hcc.putO hd (by unfold VR Rep; exact ⟨[], rfl, by unfold Reps; rfl⟩)
  | passU g want hg hb hd =>
   have hw : Region.wanted o (yielded ops.toArray a.tmps) = false := by
    refine Zhk (s := σ) (ops := ops.toArray) (g := (g, want)) ?_ hc hg
    have h1 := hgA g want hg
    rw [hb] at h1
    unfold gA at h1
    unfold Zhy
    simp only [List.getElem?_toArray]
    cases hq : (ops[g]?).bind (·.dst) with
    | none => rw [hq] at h1; simp at h1
    | some t => rw [hq] at h1; simp only at h1; simp only [h1]
   rw [if_neg (by rw [hw]; simp)]
   obtain ⟨ρ, hcc⟩ := hc
   refine hgo _ _ ⟨ρ, ?_⟩
   rw [Zih]
   exact hcc.putO hd (by unfold VR Rep; exact ⟨[], rfl, by unfold Reps; rfl⟩)
theorem Yb7 {ops hd tl : List Oper} (hsp : ops = hd ++ tl) {s s' : Sta} {es : List Eff} (htr : Tr P X ops hd s es s') (hok : Zh3 ops hd es s = true) (hdown : Zc7 0 ops = true) (htail : ∀ i, hd.length ≤ i → i < ops.length → ∀ j, j < hd.length → Anc ops j i)
  (hQ : ∀ (fuel : Nat) (listed : Array Bool) (a : Act) (w : World), listed.size = ops.length → (∀ i, i < ops.length → listed.getD i false = decide (i < hd.length)) → (((List.range ops.length).filter fun i => !listed.getD i false).length ≤ fuel) → Conc X s' a w → wpAny P .any ops.toArray Q fuel listed a w) :
  ∀ (fuel : Nat) (listed : Array Bool) (a : Act) (w : World), listed.size = ops.length → Znw ops (fun i => listed.getD i false) → (∀ i, hd.length ≤ i → listed.getD i false = false) → (((List.range ops.length).filter fun i => !listed.getD i false).length ≤ fuel) →
   Conc X (Zgj (fun i => listed.getD i false) es 0 s) a w → wpAny P .any ops.toArray Q fuel listed a w := fun fuel listed a w h1 h2 h3 h4 h5 =>
 Zl6 (ι := Unit) () (c := hd.length) hsp (s1 := sAt es hd.length s) (s' := fun _ => s') (es := fun _ => es) (fun _ => htr.len) (fun _ j o e _ h1 h2 => htr.at_ h1 h2) (fun _ => htr.last) (fun _ => rfl) (fun o h => by rw [List.getElem?_eq_none (Nat.le_refl _)] at h; cases h) (fun _ _ _ _ => rfl) (fun _ => hok) hdown htail (fun _ => hQ) fuel listed a w h1 h2 h3 h4 ⟨(), fun _ => rfl, h5⟩
def Zll (ops : List Oper) (n : Nat) : Bool := (List.range ops.length).all fun i => Nat.blt i n || (List.range i).all fun j => ((Zpy ops []).getD i 0).testBit j
theorem Zp4 {ops : List Oper} {n : Nat} (h : Zll ops n = true) : ∀ i, n ≤ i → i < ops.length → ∀ j, j < i → Anc ops j i := by
 intro i h1 h2 j hj
 have h3 := List.all_eq_true.1 h i (by simpa using h2)
 have hn : Nat.blt i n = false := by
  cases hb : Nat.blt i n with
  | false => rfl
  | true => have := Nat.blt_eq.mp hb; omega
 rw [hn, Bool.false_or] at h3
 have h4 := List.all_eq_true.1 h3 j (by simpa using hj)
 cases hm : (Zpy ops [])[i]? with
 | none => simp [List.getD_eq_getElem?_getD, hm] at h4
 | some m => exact Zi7 (acc := []) (fun k o hk => by simpa using hk) (fun i m j hi => by simp at hi) i m j hm (by simpa [List.getD_eq_getElem?_getD, hm] using h4)
theorem Zrf {ops : List Oper} (hdown : Zc7 0 ops = true) {n : Nat} (hch : ∀ i, n ≤ i → i < ops.length → ∀ j, j < i → Anc ops j i) : ∀ (fuel k : Nat) (listed : Array Bool) (a : Act) (w : World), n ≤ k → k ≤ ops.length → listed.size = ops.length → (∀ i, i < ops.length → listed.getD i false = decide (i < k)) → ops.length - k ≤ fuel →
  wpOps P ops.toArray Q (List.range' k (ops.length - k)) a w → wpAny P .any ops.toArray Q fuel listed a w := by
 have hgd : ∀ (listed : Array Bool), listed.size = ops.length → ∀ i, i < ops.length → listed.getD i true = listed.getD i false := by
  intro listed hs i hi
  simp [Array.getD_eq_getD_getElem?, hs, hi]
 have hrd : ∀ (k : Nat) (listed : Array Bool), n ≤ k → k ≤ ops.length → listed.size = ops.length → (∀ i, i < ops.length → listed.getD i false = decide (i < k)) → ∀ i, i ∈ Region.ready .any ops.toArray listed ↔ (i = k ∧ k < ops.length) := by
  intro k listed hnk hk hs hl i
  unfold Region.ready
  rw [List.mem_filter]
  constructor
  ·rintro ⟨h1, h2⟩
   have hil : i < ops.length := by simpa using h1
   simp only [Bool.and_eq_true, Bool.not_eq_true'] at h2
   obtain ⟨hun, hdeps⟩ := h2
   rw [hgd listed hs i hil, hl i hil] at hun
   have hki : k ≤ i := by simpa using hun
   refine ⟨Classical.byContradiction fun hne => ?_, by omega⟩
   have hoa : ops.toArray[i]? = some ops[i] := by simp [hil]
   rw [hoa] at hdeps
   simp only [Option.map_some, Option.getD_some, Array.all_eq_true'] at hdeps
   have hcl : Znw ops (fun j => decide (j < i) && (listed.getD j false)) := by
    intro j o hj hoj e he hb
    simp only [Bool.and_eq_true, decide_eq_true_eq] at hj ⊢
    have hjl := (List.getElem?_eq_some_iff.1 hoj).1
    have h3 := hj.2
    rw [hl j hjl] at h3
    have h3 : j < k := by simpa using h3
    have := Zee hdown j o hoj e he hb
    refine ⟨by omega, ?_⟩
    rw [hl e.on (by omega)]
    simp; omega
   have := Ycw (i := i) hcl (fun o ho' e he hb => by
    have ho' : ops[i]? = some o := ho'
    have e1 : o = ops[i] := by rw [List.getElem?_eq_getElem hil] at ho'; exact (Option.some.inj ho').symm
    subst e1
    have h4 := hdeps e he
    have h5 := Zee hdown i _ ho' e he hb
    simp only [Bool.and_eq_true, decide_eq_true_eq]
    refine ⟨by omega, ?_⟩
    simpa [hb] using h4) (hch i (by omega) hil k (by omega))
   simp only [Bool.and_eq_true, decide_eq_true_eq] at this
   have h6 := this.2
   rw [hl k (by omega)] at h6
   simp at h6
  ·rintro ⟨rfl, hil⟩
   refine ⟨by simpa using hil, ?_⟩
   rw [hgd listed hs i hil, hl i hil]
   have hoa : ops.toArray[i]? = some ops[i] := by simp [hil]
   rw [hoa]
   simp only [Nat.lt_irrefl, decide_false, Bool.not_false, Option.map_some, Option.getD_some, Bool.true_and]
   rw [Array.all_eq_true']
   intro e he
   cases hb : Region.binds .any e with
   | false => rfl
   | true =>
    have hlt := Zee hdown i ops[i] (by simp [hil]) e he hb
    have := hl e.on (by omega)
    simp only [Bool.not_true, Bool.false_or]
    rw [this]
    simp; omega
 intro fuel
 induction fuel with
 | zero =>
  intro k listed a w hnk hk hs hl hf h
  obtain rfl : k = ops.length := by omega
  rw [Nat.sub_self] at h
  refine ⟨List.eq_nil_iff_forall_not_mem.2 fun i hi => ?_, h⟩
  have := (hrd _ listed hnk hk hs hl i).1 hi
  omega
 | succ fuel ih =>
  intro k listed a w hnk hk hs hl hf h
  refine ⟨fun hr => ?_, fun i hi => ?_⟩
  ·by_cases hkl : k < ops.length
   ·have := (hrd k listed hnk hk hs hl k).2 ⟨rfl, hkl⟩
    rw [hr] at this; cases this
   ·obtain rfl : k = ops.length := by omega
    rw [Nat.sub_self] at h
    exact h
  ·obtain ⟨rfl, hkl⟩ := (hrd k listed hnk hk hs hl i).1 hi
   rw [show ops.length - i = (ops.length - (i + 1)) + 1 by omega, List.range'_succ, wpOps_cons] at h
   refine wpOp_mono (fun a' w' h' => ih (i + 1) (listed.setIfInBounds i true) a' w' (by omega) (by omega) (by simpa using hs) (fun j hj => ?_) (by omega) h') h
   rw [Array.getD_eq_getD_getElem?, Array.getElem?_setIfInBounds]
   by_cases e : i = j
   ·subst e; simp [hs, hkl]
   ·rw [if_neg e, ← Array.getD_eq_getD_getElem?, hl j hj]
    congr 1
    simp; omega
theorem Zvp {N : Nat} {ks : List Itm} {id n : Nat} {ops : List Oper} {s s' : Sta} {es : List Eff} (hm : P.follows .mixedOrders = true) (htr : Tr P X ops (ops.take n) s es s') (hok : (Zc7 0 ops && Zh3 ops (ops.take n) es s && Zll ops n) = true) (h : Run P X N Q (.ops ops.toArray (List.range' (ops.take n).length (ops.length - (ops.take n).length)) :: ks) s') :
  Run P X N Q (.code (.region id ops.toArray true) :: ks) s := ⟨fun hN a w hc => by
 simp only [Bool.and_eq_true] at hok
 show (Code.region id ops.toArray true).wp P (post P X Q ks) a w
 refine wp_region_any hm ?_
 have hc' : Conc X s a { w with drawn := w.drawn + 1 } := by obtain ⟨ρ, hcc⟩ := hc; exact ⟨ρ, hcc.drew⟩
 have hf : ∀ i, (Array.replicate ops.toArray.size false).getD i false = false := by
  intro i
  rw [Array.getD_eq_getD_getElem?, Array.getElem?_replicate]
  split <;> rfl
 have e0 : Zgj (fun i => (Array.replicate ops.toArray.size false).getD i false) es 0 s = s := by
  have e1 : ∀ t, Zex (fun i => (Array.replicate ops.toArray.size false).getD i false) t es 0 (s.tm t) = s.tm t := fun t => by
   rw [Zd6 (q := fun j => decide (j < 0 + 0)) (fun j e _ => .inr (by simp only [hf]; simp)), ← Zi9 t es 0 0 s]
   cases es <;> rfl
  have e2 : ∀ t, Zew (fun i => (Array.replicate ops.toArray.size false).getD i false) t es 0 (s.tb t) = s.tb t := fun t => by
   rw [Zd5 (q := fun j => decide (j < 0 + 0)) (fun j e _ => .inr (by simp only [hf]; simp)), ← Zhs t es 0 0 s]
   cases es <;> rfl
  unfold Zgj
  simp only [e1, e2]
 have hch := Zp4 hok.2
 have hln : (ops.take n).length ≤ n := by simp; omega
 have hch' : ∀ i, (ops.take n).length ≤ i → i < ops.length → ∀ j, j < i → Anc ops j i := fun i h1 h2 => hch i (by rw [List.length_take] at h1; omega) h2
 refine Yb7 (tl := ops.drop n) (List.take_append_drop n ops).symm htr hok.1.2 hok.1.1 (fun i h1 h2 j hj => hch' i h1 h2 j (by omega)) (fun fuel listed a w hs hl hcnt hc => ?_) _ _ _ _ (by simp) (fun i o hi => by simp only [hf] at hi; cases hi) (fun i _ => hf i) ?_ (by rw [e0]; exact hc')
 ·refine Zrf hok.1.1 hch' fuel _ listed a w (Nat.le_refl _) (by simp; omega) hs hl ?_ (h.out hN a w hc)
  refine Nat.le_trans ?_ hcnt
  have : ∀ (m : Nat) (p : Nat → Bool), (∀ i, i < m → p i = decide ((ops.take n).length ≤ i)) → m - (ops.take n).length ≤ ((List.range m).filter p).length := by
   intro m
   induction m with
   | zero => intro p _; simp
   | succ m ihm =>
    intro p hp
    rw [List.range_succ, List.filter_append, List.length_append]
    have := ihm p fun i hi => hp i (by omega)
    simp only [List.filter_cons, List.filter_nil]
    rw [hp m (by omega)]
    by_cases hq : (ops.take n).length ≤ m
    ·rw [if_pos (by simpa using hq)]; simp only [List.length_cons, List.length_nil]; omega
    ·omega
  exact this ops.length _ fun i hi => by
   rw [hl i hi]
   by_cases hq : i < (ops.take n).length
   ·have h2 : ¬ (ops.take n).length ≤ i := by omega
    simp only [hq, h2, decide_true, decide_false, Bool.not_true]
   ·have h2 : (ops.take n).length ≤ i := by omega
    simp only [hq, h2, decide_true, decide_false, Bool.not_false]
 refine Nat.le_trans (List.length_filter_le _ _) (by simp)⟩
theorem Yc4 (ops : List Oper) : Zll ops ops.length = true := by
 unfold Zll
 refine List.all_eq_true.2 fun i hi => ?_
 have : Nat.blt i ops.length = true := by simpa [Nat.blt_eq] using hi
 rw [this]; rfl
theorem Ykj {N : Nat} {ks : List Itm} {id : Nat} {ops : List Oper} {s s' : Sta} {es : List Eff} (hm : P.follows .mixedOrders = true) (htr : Tr P X ops ops s es s') (hok : (Zc7 0 ops && Zsv ops es s) = true) (h : Run P X N Q ks s') :
  Run P X N Q (.code (.region id ops.toArray true) :: ks) s := by
 refine Zvp (n := ops.length) hm (by rw [List.take_length]; exact htr) (by rw [Yc4, Bool.and_true, List.take_length]; exact hok) ?_
 rw [List.take_length, Nat.sub_self]
 exact Zac h
end
end Go.Proofs.YtgmahieoiifpfaaGreat
namespace Go.Proofs.YtgmahieoiifpfaaGreat
open Go.RowKit
section
variable {P : Program} {X : Base} {N : Nat} {Q : Exit → Act → World → Prop} {s s1 s' : Sta} {ks : List Itm} {ops r : List Oper} {es : List Eff}
structure TrN (P : Program) (X : Base) (N : Nat) (ops r : List Oper) (s : Sta) (es : List Eff) (s' : Sta) : Prop where
 out : X.at P N → Tr P X ops r s es s'
structure TrK (P : Program) (X : Base) (N : Nat) (ops : List Oper) (d : Option Tmp) (op : Op) (e : Eff) (s s1 : Sta) : Prop where
 act : X.at P N → ∀ ty pos aft g, Ysz P X ops ⟨d, op, ty, pos, aft, g⟩ e s
 eq : e.app s = s1
theorem Ytl : TrN P X N ops [] s [] s := ⟨fun _ => .nil⟩
theorem Yr6 {d : Option Tmp} {op : Op} {ty : TypeId} {pos : String} {aft : Array Edge} {e : Eff} (hk : TrK P X N ops d op e s s1) (h : TrN P X N ops r s1 es s') : TrN P X N ops (⟨d, op, ty, pos, aft, none⟩ :: r) s (e :: es) s' :=
 ⟨fun hX => .cons (.act e rfl (hk.act hX _ _ _ _)) (by rw [hk.eq]; exact h.out hX)⟩
theorem Ypb {d : Option Tmp} {op : Op} {ty : TypeId} {pos : String} {aft : Array Edge} {g : Nat} {want b : Bool} {e : Eff} (hb : gA ops s g = .dat (.val (.bool b))) (hw : b = want) (hk : TrK P X N ops d op e s s1) (h : TrN P X N ops r s1 es s') : TrN P X N ops (⟨d, op, ty, pos, aft, some (g, want)⟩ :: r) s (e :: es) s' :=
 ⟨fun hX => .cons (.actG e g want b rfl hb hw (hk.act hX _ _ _ _)) (by rw [hk.eq]; exact h.out hX)⟩
theorem Ypa {d : Nat} {op : Op} {ty : TypeId} {pos : String} {aft : Array Edge} {g : Nat} {b : Bool} (hb : gA ops s g = .dat (.val (.bool b))) (hw : b = false) (hN : Nat.blt d N = true) (h : TrN P X N ops r (s.put (some d) (.dat (.tup []))) es s') : TrN P X N ops (⟨some d, op, ty, pos, aft, some (g, true)⟩ :: r) s (Eff.put (some d) (.dat (.tup [])) :: es) s' :=
 ⟨fun hX => .cons (.pass g true b rfl hb hw (Zoc hN hX)) (by show Tr P X ops r ((Eff.put (some d) (.dat (.tup []))).app s) es s'; rw [Zih]; exact h.out hX)⟩
theorem Yo9 {d : Nat} {op : Op} {ty : TypeId} {pos : String} {aft : Array Edge} {g : Nat} {b : Bool} (hb : gA ops s g = .dat (.val (.bool b))) (hw : b = true) (hN : Nat.blt d N = true) (h : TrN P X N ops r (s.put (some d) (.dat (.tup []))) es s') : TrN P X N ops (⟨some d, op, ty, pos, aft, some (g, false)⟩ :: r) s (Eff.put (some d) (.dat (.tup [])) :: es) s' :=
 ⟨fun hX => .cons (.pass g false b rfl hb hw (Zoc hN hX)) (by show Tr P X ops r ((Eff.put (some d) (.dat (.tup []))).app s) es s'; rw [Zih]; exact h.out hX)⟩
theorem Ygo {id : Nat} {ops : List Oper} (hm : P.follows .mixedOrders = true) (htr : TrN P X N ops ops s es s') (hok : (Zc7 0 ops && Zsv ops es s) = true) (h : Run P X N Q ks s') : Run P X N Q (.code (.region id ops.toArray true) :: ks) s := ⟨fun hX => (Ykj hm (htr.out hX) hok h).out hX⟩
structure TrC (P : Program) (X : Base) (N : Nat) (ops r : List Oper) (s : Sta) (K : List Eff → Sta → Prop) : Prop where
 out : ∃ es s', TrN P X N ops r s es s' ∧ K es s'
theorem Zmu {K : List Eff → Sta → Prop} (h : K [] s) : TrC P X N ops [] s K := ⟨[], s, Ytl, h⟩
theorem Zbl {K : List Eff → Sta → Prop} {d : Option Tmp} {op : Op} {ty : TypeId} {pos : String} {aft : Array Edge} {e : Eff} (hk : TrK P X N ops d op e s s1) (h : TrC P X N ops r s1 (fun es s' => K (e :: es) s')) : TrC P X N ops (⟨d, op, ty, pos, aft, none⟩ :: r) s K := by
 obtain ⟨es, s', h1, h2⟩ := h.out
 exact ⟨e :: es, s', Yr6 hk h1, h2⟩
theorem Zfd {K : List Eff → Sta → Prop} {d : Option Tmp} {op : Op} {ty : TypeId} {pos : String} {aft : Array Edge} {g : Nat} {want b : Bool} {e : Eff} (hb : gA ops s g = .dat (.val (.bool b))) (hw : b = want) (hk : TrK P X N ops d op e s s1) (h : TrC P X N ops r s1 (fun es s' => K (e :: es) s')) : TrC P X N ops (⟨d, op, ty, pos, aft, some (g, want)⟩ :: r) s K := by
 obtain ⟨es, s', h1, h2⟩ := h.out
 exact ⟨e :: es, s', Ypb hb hw hk h1, h2⟩
theorem Yc3 {K : List Eff → Sta → Prop} {d : Nat} {op : Op} {ty : TypeId} {pos : String} {aft : Array Edge} {g : Nat} {b : Bool} (hb : gA ops s g = .dat (.val (.bool b))) (hw : b = false) (hN : Nat.blt d N = true) (h : TrC P X N ops r (s.put (some d) (.dat (.tup []))) (fun es s' => K (Eff.put (some d) (.dat (.tup [])) :: es) s')) : TrC P X N ops (⟨some d, op, ty, pos, aft, some (g, true)⟩ :: r) s K := by
 obtain ⟨es, s', h1, h2⟩ := h.out
 exact ⟨_ :: es, s', Ypa hb hw hN h1, h2⟩
theorem Ymg {K : List Eff → Sta → Prop} {d : Nat} {op : Op} {ty : TypeId} {pos : String} {aft : Array Edge} {g : Nat} {b : Bool} (hb : gA ops s g = .dat (.val (.bool b))) (hw : b = true) (hN : Nat.blt d N = true) (h : TrC P X N ops r (s.put (some d) (.dat (.tup []))) (fun es s' => K (Eff.put (some d) (.dat (.tup [])) :: es) s')) : TrC P X N ops (⟨some d, op, ty, pos, aft, some (g, false)⟩ :: r) s K := by
 obtain ⟨es, s', h1, h2⟩ := h.out
 exact ⟨_ :: es, s', Yo9 hb hw hN h1, h2⟩
theorem Ze6 {id : Nat} {ops : List Oper} (hm : P.follows .mixedOrders = true) (h : TrC P X N ops ops s (fun es s' => (Zc7 0 ops && Zsv ops es s) = true ∧ Run P X N Q ks s')) : Run P X N Q (.code (.region id ops.toArray true) :: ks) s := by
 obtain ⟨es, s', h1, h2, h3⟩ := h.out
 exact Ygo hm h1 h2 h3
theorem Zlc (n : Nat) {id : Nat} {ops : List Oper} (hm : P.follows .mixedOrders = true) (h : TrC P X N ops (ops.take n) s (fun es s' => (Zc7 0 ops && Zh3 ops (ops.take n) es s && Zll ops n) = true ∧ Run P X N Q (.ops ops.toArray (List.range' (ops.take n).length (ops.length - (ops.take n).length)) :: ks) s')) : Run P X N Q (.code (.region id ops.toArray true) :: ks) s := ⟨fun hX => by
 obtain ⟨es, s', h1, h2, h3⟩ := h.out
 exact (Zvp hm (h1.out hX) h2 h3).out hX⟩
structure TrI (P : Program) (X : Base) (N : Nat) (ops : List Oper) (d : Option Tmp) (op : Op) {ι : Type} (ec : ι → Eff) (s1 : Sta) : Prop where
 act : X.at P N → ∀ ty pos aft, Ytn P X ops ⟨d, op, ty, pos, aft, none⟩ ec s1
def SameT (ops : List Oper) (c : Nat) : Nat → List (Option Eff) → List Eff → Prop
 | _, [], es => es = []
 | _, _ :: _, [] => False
 | k, none :: r, _ :: es => ((Zpy ops []).getD (c + 1 + k) 0).testBit c = true ∧ SameT ops c (k + 1) r es
 | k, some e :: r, e' :: es => e' = e ∧ SameT ops c (k + 1) r es
theorem SameT.at_ {ops : List Oper} {c : Nat} : ∀ {l : List (Option Eff)} {k : Nat} {es es' : List Eff}, SameT ops c k l es → SameT ops c k l es' → ∀ j, Anc ops c (c + 1 + k + j) ∨ es[j]? = es'[j]?
 | [], k, es, es', h, h', j => by unfold SameT at h h'; rw [h, h']; exact .inr rfl
 | x :: r, k, [], es', h, h', j => by unfold SameT at h; exact h.elim
 | x :: r, k, _ :: _, [], h, h', j => by unfold SameT at h'; exact h'.elim
 | none :: r, k, e :: es, e' :: es', h, h', j => by
  unfold SameT at h h'
  cases j with
  | zero =>
   left
   have h1 := h.1
   cases hm : (Zpy ops [])[c + 1 + k]? with
   | none => simp [List.getD_eq_getElem?_getD, hm] at h1
   | some m => exact Zi7 (acc := []) (fun k o hk => by simpa using hk) (fun i m j hi => by simp at hi) (c + 1 + k) m c hm (by simpa [List.getD_eq_getElem?_getD, hm] using h1)
  | succ j =>
   have := SameT.at_ h.2 h'.2 j
   rwa [show c + 1 + (k + 1) + j = c + 1 + k + (j + 1) by omega] at this
 | some x :: r, k, e :: es, e' :: es', h, h', j => by
  unfold SameT at h h'
  cases j with
  | zero => right; simp [h.1, h'.1]
  | succ j =>
   have := SameT.at_ h.2 h'.2 j
   rwa [show c + 1 + (k + 1) + j = c + 1 + k + (j + 1) by omega] at this
theorem Zpm : ∀ (a b : List Eff) (j : Nat) (s : Sta), j ≤ a.length → sAt (a ++ b) j s = sAt a j s
 | [], b, j, s, h => by
  obtain rfl : j = 0 := by simpa using h
  cases b <;> rfl
 | e :: a, b, 0, s, h => rfl
 | e :: a, b, j + 1, s, h => Zpm a b j (e.app s) (by simpa using h)
theorem Zs5 : ∀ (a b : List Eff) (k : Nat) (s : Sta), sAt (a ++ b) (a.length + k) s = sAt b k (sAt a a.length s)
 | [], b, k, s => by simp [sAt]
 | e :: a, b, k, s => by
  rw [List.length_cons, show a.length + 1 + k = (a.length + k) + 1 by omega]
  exact Zs5 a b k (e.app s)
theorem Ygn (c : Nat) (tmpl : List (Option Eff)) {ι : Type} (i0 : ι) (ec : ι → Eff) {id : Nat} {ops : List Oper} {d : Option Tmp} {op : Op} {ty : TypeId} {pos : String} {aft : Array Edge} (hm : P.follows .mixedOrders = true) (ho : ops[c]? = some ⟨d, op, ty, pos, aft, none⟩)
  (h : TrC P X N ops (ops.take c) s (fun es0 s1 => TrI P X N ops d op ec s1 ∧ ∀ i, TrC P X N ops (ops.drop (c + 1)) ((ec i).app s1) (fun esr s' => (Zc7 0 ops && Zsv ops (es0 ++ ec i :: esr) s) = true ∧ SameT ops c 0 tmpl esr ∧ Run P X N Q ks s'))) :
  Run P X N Q (.code (.region id ops.toArray true) :: ks) s := ⟨fun hX a w hc => by
 obtain ⟨es0, s1, h1, hI, h2⟩ := h.out
 obtain ⟨esr, h3⟩ := Classical.axiomOfChoice fun i => (h2 i).out
 obtain ⟨s', h3⟩ := Classical.axiomOfChoice h3
 have hcl : c < ops.length := (List.getElem?_eq_some_iff.1 ho).1
 have htr := h1.out hX
 have hl0 : es0.length = c := by rw [htr.len]; simp; omega
 have htr2 := fun i => (h3 i).1.out hX
 have hl2 : ∀ i, (esr i).length = ops.length - (c + 1) := fun i => by rw [(htr2 i).len]; simp
 have hok := fun i => by have := (h3 i).2.1; simp only [Bool.and_eq_true] at this; exact this
 have es1 : s1 = sAt es0 c s := by
  have := htr.last
  rwa [show (ops.take c).length = c by simp; omega] at this
 have hs1 : ∀ i, sAt (es0 ++ ec i :: esr i) c s = s1 := fun i => by rw [Zpm _ _ _ _ (by omega), es1]
 have hs2 : ∀ i k, sAt (es0 ++ ec i :: esr i) (c + 1 + k) s = sAt (esr i) k ((ec i).app s1) := fun i k => by
  have := Zs5 es0 (ec i :: esr i) (k + 1) s
  rw [hl0] at this
  rw [show c + 1 + k = c + (k + 1) by omega, this, ← es1]
  rfl
 show (Code.region id ops.toArray true).wp P (post P X Q ks) a w
 refine wp_region_any hm ?_
 have hc' : Conc X s a { w with drawn := w.drawn + 1 } := by obtain ⟨ρ, hcc⟩ := hc; exact ⟨ρ, hcc.drew⟩
 have hf : ∀ i, (Array.replicate ops.toArray.size false).getD i false = false := by
  intro i
  rw [Array.getD_eq_getD_getElem?, Array.getElem?_replicate]
  split <;> rfl
 have e0 : ∀ es, Zgj (fun i => (Array.replicate ops.toArray.size false).getD i false) es 0 s = s := fun es => by
  have e1 : ∀ t, Zex (fun i => (Array.replicate ops.toArray.size false).getD i false) t es 0 (s.tm t) = s.tm t := fun t => by
   rw [Zd6 (q := fun j => decide (j < 0 + 0)) (fun j e _ => .inr (by simp only [hf]; simp)), ← Zi9 t es 0 0 s]
   cases es <;> rfl
  have e2 : ∀ t, Zew (fun i => (Array.replicate ops.toArray.size false).getD i false) t es 0 (s.tb t) = s.tb t := fun t => by
   rw [Zd5 (q := fun j => decide (j < 0 + 0)) (fun j e _ => .inr (by simp only [hf]; simp)), ← Zhs t es 0 0 s]
   cases es <;> rfl
  unfold Zgj
  simp only [e1, e2]
 refine Zl6 i0 (c := c) (hd := ops) (tl := []) (by simp) (s1 := s1) (s' := s') (es := fun i => es0 ++ ec i :: esr i) (fun i => by simp [hl0, hl2 i]; omega) (fun i j o e hj hoj he => ?_) (fun i => ?_) hs1 (fun o hoc => ?_) (fun i j hj hA => ?_) (fun i => (hok i).2) (hok i0).1 (fun i h1 h2 => by omega)
  (fun i fuel listed a w hs hl hcnt hc => ?_) _ _ _ _ (by simp) (fun i o hi => by simp only [hf] at hi; cases hi) (fun i _ => hf i) (by refine Nat.le_trans (List.length_filter_le _ _) (by simp)) ⟨i0, fun _ => rfl, by rw [e0]; exact hc'⟩
 ·rcases Nat.lt_or_gt_of_ne hj with hlt | hgt
  ·rw [List.getElem?_append_left (by omega)] at he
   rw [Zpm _ _ _ _ (by omega)]
   exact htr.at_ (by rw [List.getElem?_take, if_pos hlt]; exact hoj) he
  ·obtain ⟨k, rfl⟩ : ∃ k, j = c + 1 + k := ⟨j - (c + 1), by omega⟩
   rw [List.getElem?_append_right (by omega), hl0, show c + 1 + k - c = k + 1 by omega, List.getElem?_cons_succ] at he
   rw [hs2]
   exact (htr2 i).at_ (by rw [List.getElem?_drop]; exact hoj) he
 ·have := (htr2 i).last
  rw [List.length_drop] at this
  show s' i = sAt (es0 ++ ec i :: esr i) ops.length s
  rw [show ops.length = c + 1 + (ops.length - (c + 1)) by omega, hs2]
  exact this
 ·rw [ho] at hoc; cases hoc
  refine ⟨rfl, ec, fun i => ?_, hI.act hX _ _ _⟩
  show (es0 ++ ec i :: esr i)[c]? = _
  rw [List.getElem?_append_right (by omega), hl0, Nat.sub_self]; rfl
 ·show (es0 ++ ec i :: esr i)[j]? = (es0 ++ ec i0 :: esr i0)[j]?
  rcases Nat.lt_or_gt_of_ne hj with hlt | hgt
  ·rw [List.getElem?_append_left (by omega), List.getElem?_append_left (by omega)]
  ·obtain ⟨k, rfl⟩ : ∃ k, j = c + 1 + k := ⟨j - (c + 1), by omega⟩
   rw [List.getElem?_append_right (by omega), List.getElem?_append_right (by omega), hl0, show c + 1 + k - c = k + 1 by omega, List.getElem?_cons_succ, List.getElem?_cons_succ]
   rcases SameT.at_ (h3 i).2.2.1 (h3 i0).2.2.1 k with h | h
   ·rw [Nat.add_zero] at h; exact absurd h hA
   ·exact h
 ·have hrun := (h3 i).2.2.2.out hX a w hc
  have hall : ∀ j, j < ops.length → listed.getD j false = true := fun j hj => by rw [hl j hj]; simpa using hj
  have hr : Region.ready .any ops.toArray listed = [] := by
   refine List.eq_nil_iff_forall_not_mem.2 fun j hj => ?_
   unfold Region.ready at hj
   rw [List.mem_filter] at hj
   have hjl : j < ops.length := by simpa using hj.1
   have h4 := hj.2
   simp only [Bool.and_eq_true, Bool.not_eq_true'] at h4
   have h5 := hall j hjl
   rw [Array.getD_eq_getD_getElem?] at h4 h5
   have h6 : j < listed.size := by omega
   simp [h6] at h4 h5
   rw [h5] at h4
   exact absurd h4.1 (by simp)
  cases fuel with
  | zero => exact ⟨hr, hrun⟩
  | succ fuel => exact ⟨fun _ => hrun, fun j hj => by rw [hr] at hj; cases hj⟩⟩
theorem Zej {o : Oper} {e : Eff} (h : Zv7 ops o e s s') {x : Operand} (hx : x ∈ o.op.operands.toList) : s'.ev x = s.ev x := by
 cases x with
 | tmp t => exact h.1 t (List.mem_append_left _ (List.mem_filterMap.2 ⟨.tmp t, hx, rfl⟩))
 | _ => rfl
theorem Zja {o : Oper} {e : Eff} (h : Zv7 ops o e s s') {x : Operand} (hx : x ∈ o.op.operands.toList) {k : Nat} (hk : k ∈ Zbq (s.ev x)) (hm : Ypt o.op = false := by rfl) : s'.tb k = s.tb k := by
 cases x with
 | tmp t => exact h.2 k (List.mem_append_left _ (List.mem_append_left _ (List.mem_flatMap.2 ⟨t, by unfold Yn4; rw [hm]; exact List.mem_append_left _ (List.mem_filterMap.2 ⟨.tmp t, hx, rfl⟩), hk⟩)))
 | const v =>
  exfalso
  revert hk
  cases v <;> simp only [Sta.ev, Zqa] <;> (try split) <;> simp [Zbq]
 | global g => simp [Sta.ev, Zbq] at hk
 | func f => simp [Sta.ev, Zbq] at hk
theorem Zho {o : Oper} {e : Eff} (h : Zv7 ops o e s s') {k : Nat} {b : Blk} (he : e.blk = some (k, b)) : s'.tb k = s.tb k := h.2 k (List.mem_append_left _ (List.mem_append_right _ (by rw [he]; exact List.mem_singleton.2 rfl)))
theorem Zbm {d : Nat} {op : Op} {v : AV} (hN : Nat.blt d N = true)
  (h : ∀ s' ty pos aft g, Za7 X.N (some d) = true → (∀ x ∈ op.operands.toList, s'.ev x = s.ev x) → (∀ x ∈ op.operands.toList, ∀ k ∈ Zbq (s.ev x), s'.tb k = s.tb k) → OpS P X ⟨some d, op, ty, pos, aft, g⟩ s' (s'.put (some d) v)) (hm : Ypt op = false := by rfl) :
  TrK P X N ops (some d) op (Eff.put (some d) v) s (s.put (some d) v) :=
 ⟨fun hX ty pos aft g s' hA => by rw [Zih]; exact h s' ty pos aft g (Zoc hN hX) (fun x hx => Zej hA hx) (fun x hx k hk => Zja hA hx hk hm), Zih _ _ _⟩
theorem Zf4 {d : Nat} {op : Op} {v : AV} (hN : Nat.blt d N = true)
  (h : ∀ s' ty pos aft g, Za7 X.N (some d) = true → (∀ x ∈ op.operands.toList, s'.ev x = s.ev x) → True → OpS P X ⟨some d, op, ty, pos, aft, g⟩ s' (s'.put (some d) v)) :
  TrK P X N ops (some d) op (Eff.put (some d) v) s (s.put (some d) v) :=
 ⟨fun hX ty pos aft g s' hA => by rw [Zih]; exact h s' ty pos aft g (Zoc hN hX) (fun x hx => Zej hA hx) trivial, Zih _ _ _⟩
theorem Zwf {d : Nat} {op : Op} {b : Blk} {v : AV} (hN : Nat.blt d N = true)
  (h : ∀ s' ty pos aft g, d < X.N → (∀ x ∈ op.operands.toList, s'.ev x = s.ev x) → (∀ x ∈ op.operands.toList, ∀ k ∈ Zbq (s.ev x), s'.tb k = s.tb k) → s'.tb d = s.tb d → OpS P X ⟨some d, op, ty, pos, aft, g⟩ s' (s'.new d b v)) (hm : Ypt op = false := by rfl) :
  TrK P X N ops (some d) op (Eff.new d b v) s (s.new d b v) :=
 ⟨fun hX ty pos aft g s' hA => by rw [Yl9]; exact h s' ty pos aft g (by rw [hX.1]; simpa [Nat.blt_eq] using hN) (fun x hx => Zej hA hx) (fun x hx k hk => Zja hA hx hk hm) (Zho hA rfl), rfl⟩
theorem Zwg {k : Nat} {op : Op} {b : Blk}
  (h : ∀ s' ty pos aft g, (∀ x ∈ op.operands.toList, s'.ev x = s.ev x) → (∀ x ∈ op.operands.toList, ∀ k ∈ Zbq (s.ev x), s'.tb k = s.tb k) → OpS P X ⟨none, op, ty, pos, aft, g⟩ s' (s'.set k b)) (hm : Ypt op = false := by rfl) :
  TrK P X N ops none op (Eff.set k b) s (s.set k b) :=
 ⟨fun hX ty pos aft g s' hA => by rw [Yma]; exact h s' ty pos aft g (fun x hx => Zej hA hx) (fun x hx k hk => Zja hA hx hk hm), rfl⟩
theorem Ycs {k d : Nat} {op : Op} {b : Blk} (hN : Nat.blt d N = true)
  (h : ∀ s' ty pos aft g, d < X.N → (∀ x ∈ op.operands.toList, s'.ev x = s.ev x) → (∀ x ∈ op.operands.toList, ∀ k ∈ Zbq (s.ev x), s'.tb k = s.tb k) → s'.tb d = s.tb d → OpS P X ⟨some d, op, ty, pos, aft, g⟩ s' (s'.mv k d b)) (hm : Ypt op = false := by rfl) :
  TrK P X N ops (some d) op (Eff.mv k d b) s (s.mv k d b) :=
 ⟨fun hX ty pos aft g s' hA => by rw [Yp8]; exact h s' ty pos aft g (by rw [hX.1]; simpa [Nat.blt_eq] using hN) (fun x hx => Zej hA hx) (fun x hx k hk => Zja hA hx hk hm) (Zho hA rfl), rfl⟩
theorem Zto {lo : Option Operand} {n : Nat} {s' : Sta} (h : ∀ x ∈ lo.toList, s'.ev x = s.ev x) : Zv5 s' lo n = Zv5 s lo n := by
 cases lo with
 | none => rfl
 | some x => simp only [Zv5]; rw [h x (by simp)]
theorem Zku {xs : List Operand} {s' : Sta} (h : ∀ x ∈ xs, s'.ev x = s.ev x) : xs.map s'.ev = xs.map s.ev := List.map_congr_left h
theorem Zpb {n : Nat} {s' : Sta} : ∀ {l : List (Nat × Operand)} {j : Nat}, (∀ p ∈ l, s'.ev p.2 = s.ev p.2) → Zjj s' n j l = Zjj s n j l
 | [], _, _ => rfl
 | (i, x) :: r, j, h => by
  unfold Zjj
  have h1 := h (i, x) List.mem_cons_self
  simp only at h1
  rw [h1, Zpb (fun p hp => h p (List.mem_cons_of_mem _ hp))]
theorem Zls {pl : List (Nat × Nat)} {s' : Sta} : ∀ {l : List (Nat × Operand)} {cs : List AV}, (∀ p ∈ l, s'.ev p.2 = s.ev p.2) → Zmv s' pl cs l = Zmv s pl cs l
 | [], _, _ => rfl
 | (i, x) :: r, cs, h => by
  unfold Zmv
  have h1 := h (i, x) List.mem_cons_self
  simp only at h1
  rw [h1]
  split
  ·split
   ·exact Zls (fun p hp => h p (List.mem_cons_of_mem _ hp))
   ·rfl
  ·rfl
theorem Zjr {d : Nat} {x : Operand} {v : PD} (hN : Nat.blt d N = true) (hx : s.ev x = .dat v) : TrK P X N ops (some d) (.move x) (Eff.put (some d) (.dat v)) s (s.put (some d) (.dat v)) := Zf4 hN fun s' _ _ _ _ hd hev htb => Zz1 hd rfl ((hev _ (by simp [Op.operands, Call.operands])).trans hx)
theorem Zwp {d : Nat} {x : Operand} {k off : Nat} (hN : Nat.blt d N = true) (hx : s.ev x = .ptr k off) : TrK P X N ops (some d) (.move x) (Eff.put (some d) (.ptr k off)) s (s.put (some d) (.ptr k off)) := Zf4 hN fun s' _ _ _ _ hd hev htb => Zz3 hd rfl ((hev _ (by simp [Op.operands, Call.operands])).trans hx)
theorem Ymv {d : Nat} {x : Operand} {k : Nat} (hN : Nat.blt d N = true) (hx : s.ev x = .own k) : TrK P X N ops (some d) (.move x) (Eff.put (some d) (.own k)) s (s.put (some d) (.own k)) := Zf4 hN fun s' _ _ _ _ hd hev htb => Zz2 hd rfl ((hev _ (by simp [Op.operands, Call.operands])).trans hx)
theorem Zil {d : Nat} {x : Operand} {v : PD} (hN : Nat.blt d N = true) (hx : s.ev x = .dat v) : TrK P X N ops (some d) (.assign x) (Eff.put (some d) (.dat v)) s (s.put (some d) (.dat v)) := Zf4 hN fun s' _ _ _ _ hd hev htb => Zqx hd rfl ((hev _ (by simp [Op.operands, Call.operands])).trans hx)
theorem Ydk {d : Nat} {x : Operand} {k off : Nat} (hN : Nat.blt d N = true) (hx : s.ev x = .ptr k off) : TrK P X N ops (some d) (.assign x) (Eff.put (some d) (.ptr k off)) s (s.put (some d) (.ptr k off)) := Zf4 hN fun s' _ _ _ _ hd hev htb => Zqy hd rfl ((hev _ (by simp [Op.operands, Call.operands])).trans hx)
theorem Zin {d : Nat} {x : Operand} {t f k off fo n : Nat} {g : Bool} (hN : Nat.blt d N = true) (hx : s.ev x = .ptr k off) [ht : FI P t f fo n g] (hn : Nat.blt 0 n = true) : TrK P X N ops (some d) (.fieldAddr t x f) (Eff.put (some d) (.ptr k (off + fo))) s (s.put (some d) (.ptr k (off + fo))) := Zbm hN fun s' _ _ _ _ hd hev htb => Zkz hd rfl ((hev _ (by simp [Op.operands, Call.operands])).trans hx) ht.out (by simpa [Nat.blt_eq] using hn)
theorem Zt5 {d : Nat} {x : Operand} {t f fo n : Nat} {g : Bool} {d0 : PD} {l : List PD} {r : PD} (hN : Nat.blt d N = true) (hx : s.ev x = .dat (.ptr d0)) (hdl : d0 = .agg l) [ht : FI P t f fo n g] (hn : Nat.blt 0 n = true) (hr : Yo4 g n fo l = some r) : TrK P X N ops (some d) (.fieldAddr t x f) (Eff.put (some d) (.dat (.ptr r))) s (s.put (some d) (.dat (.ptr r))) := Zbm hN fun s' _ _ _ _ hd hev htb => Zk0 hd rfl ((hev _ (by simp [Op.operands, Call.operands])).trans hx) hdl ht.out (by simpa [Nat.blt_eq] using hn) hr
theorem Zm2 {d : Nat} {x : Operand} {t k off T n : Nat} {cs : List AV} {g : Bool} {v : PD} (hN : Nat.blt d N = true) (hx : s.ev x = .ptr k off) (hk : s.tb k = some (.box T cs)) [ht : VI P t n g] (hf : Zrb g n off cs = some (.dat v)) : TrK P X N ops (some d) (.load t x) (Eff.put (some d) (.dat v)) s (s.put (some d) (.dat v)) := Zbm hN fun s' _ _ _ _ hd hev htb => Zvd hd rfl ((hev _ (by simp [Op.operands, Call.operands])).trans hx) ((htb x (by simp [Op.operands, Call.operands]) _ (by rw [hx]; simp [Zbq])).trans hk) ht.out hf
theorem Zm4 {d : Nat} {x : Operand} {t k off T n : Nat} {cs : List AV} {g : Bool} {k' off' : Nat} (hN : Nat.blt d N = true) (hx : s.ev x = .ptr k off) (hk : s.tb k = some (.box T cs)) [ht : VI P t n g] (hf : Zrb g n off cs = some (.ptr k' off')) : TrK P X N ops (some d) (.load t x) (Eff.put (some d) (.ptr k' off')) s (s.put (some d) (.ptr k' off')) := Zbm hN fun s' _ _ _ _ hd hev htb => Yfu hd rfl ((hev _ (by simp [Op.operands, Call.operands])).trans hx) ((htb x (by simp [Op.operands, Call.operands]) _ (by rw [hx]; simp [Zbq])).trans hk) ht.out hf
theorem Zm3 {d : Nat} {x : Operand} {t k off T n : Nat} {cs : List AV} {g : Bool} {k' : Nat} (hN : Nat.blt d N = true) (hx : s.ev x = .ptr k off) (hk : s.tb k = some (.box T cs)) [ht : VI P t n g] (hf : Zrb g n off cs = some (.own k')) : TrK P X N ops (some d) (.load t x) (Eff.put (some d) (.own k')) s (s.put (some d) (.own k')) := Zbm hN fun s' _ _ _ _ hd hev htb => Zve hd rfl ((hev _ (by simp [Op.operands, Call.operands])).trans hx) ((htb x (by simp [Op.operands, Call.operands]) _ (by rw [hx]; simp [Zbq])).trans hk) ht.out hf
theorem Zwo {d : Nat} {x : Operand} {t k T n : Nat} {g : Bool} {v : PD} (hN : Nat.blt d N = true) (hx : s.ev x = .ptr k 0) (hk : s.tb k = some (.box T (Zap v))) [ht : VI P t n g] (hf : Zkh g n v = true) : TrK P X N ops (some d) (.load t x) (Eff.put (some d) (.dat v)) s (s.put (some d) (.dat v)) := Zbm hN fun s' _ _ _ _ hd hev htb => Zz0 hd rfl ((hev _ (by simp [Op.operands, Call.operands])).trans hx) ((htb x (by simp [Op.operands, Call.operands]) _ (by rw [hx]; simp [Zbq])).trans hk) ht.out hf
theorem Ydn {d : Nat} {x : Operand} {t n : Nat} {g : Bool} {v : PD} (hN : Nat.blt d N = true) (hx : s.ev x = .dat (.ptr v)) [ht : VI P t n g] (hf : Zkh g n v = true) : TrK P X N ops (some d) (.load t x) (Eff.put (some d) (.dat v)) s (s.put (some d) (.dat v)) := Zbm hN fun s' _ _ _ _ hd hev htb => Zzy hd rfl ((hev _ (by simp [Op.operands, Call.operands])).trans hx) ht.out hf
theorem Zim {d : Nat} {x : Operand} {y : Operand} {op : BinOp} {t t' : Nat} {u v : Value} {b : Bool} (hN : Nat.blt d N = true) (hx : s.ev x = .dat (.val u)) (hy : s.ev y = .dat (.val v)) (hr : Ymb op u v = some (.bool b)) : TrK P X N ops (some d) (.binOp op t x y t') (Eff.put (some d) (.dat (.val (.bool b)))) s (s.put (some d) (.dat (.val (.bool b)))) := Zbm hN fun s' _ _ _ _ hd hev htb => Yfg hd rfl ((hev _ (by simp [Op.operands, Call.operands])).trans hx) ((hev _ (by simp [Op.operands, Call.operands])).trans hy) hr
theorem Zym {d : Nat} {x : Operand} {y : Operand} {op : BinOp} {t t' : Nat} {a b c : Int} (hN : Nat.blt d N = true) (hx : s.ev x = .dat (.val (.int .i64 a))) (hy : s.ev y = .dat (.val (.int .i64 b))) (hr : ari op a b = some c) (hc : -9223372036854775808 ≤ c ∧ c ≤ 9223372036854775807) : TrK P X N ops (some d) (.binOp op t x y t') (Eff.put (some d) (.dat (.val (.int .i64 c)))) s (s.put (some d) (.dat (.val (.int .i64 c)))) := Zbm hN fun s' _ _ _ _ hd hev htb => Yff hd rfl ((hev _ (by simp [Op.operands, Call.operands])).trans hx) ((hev _ (by simp [Op.operands, Call.operands])).trans hy) hr hc
theorem Ys7 {d : Nat} {x : Operand} {t : Nat} {b : Bool} (hN : Nat.blt d N = true) (hx : s.ev x = .dat (.val (.bool b))) : TrK P X N ops (some d) (.unOp .not t x) (Eff.put (some d) (.dat (.val (.bool (!b))))) s (s.put (some d) (.dat (.val (.bool (!b))))) := Zbm hN fun s' _ _ _ _ hd hev htb => Ylt hd rfl ((hev _ (by simp [Op.operands, Call.operands])).trans hx)
theorem Zwq {d : Nat} {c x y : Operand} {b : Bool} {v : PD} (hN : Nat.blt d N = true) (hc : s.ev c = .dat (.val (.bool b))) (hb : b = true) (hx : s.ev x = .dat v) : TrK P X N ops (some d) (.pick c x y) (Eff.put (some d) (.dat v)) s (s.put (some d) (.dat v)) := Zbm hN fun s' _ _ _ _ hd hev htb => Zz5 hd rfl ((hev _ (by simp [Op.operands, Call.operands])).trans hc) hb ((hev _ (by simp [Op.operands, Call.operands])).trans hx)
theorem Ydq {d : Nat} {c x y : Operand} {b : Bool} {v : PD} (hN : Nat.blt d N = true) (hc : s.ev c = .dat (.val (.bool b))) (hb : b = false) (hx : s.ev y = .dat v) : TrK P X N ops (some d) (.pick c x y) (Eff.put (some d) (.dat v)) s (s.put (some d) (.dat v)) := Zbm hN fun s' _ _ _ _ hd hev htb => Zz4 hd rfl ((hev _ (by simp [Op.operands, Call.operands])).trans hc) hb ((hev _ (by simp [Op.operands, Call.operands])).trans hx)
theorem Zt6 {d : Nat} {x ix : Operand} {t n y e y' : Nat} {l : List PD} {k : IntKind} {i : Int} {v : PD} (hN : Nat.blt d N = true) (hx : s.ev x = .dat (.sl n y l)) (hi : s.ev ix = .dat (.val (.int k i))) [ht : SI P t e n y'] (hi0 : 0 ≤ i) (hl : l[i.toNat]? = some v) : TrK P X N ops (some d) (.indexAddr t x ix) (Eff.put (some d) (.dat (.ptr v))) s (s.put (some d) (.dat (.ptr v))) := Zbm hN fun s' _ _ _ _ hd hev htb => Zk1 hd rfl ((hev _ (by simp [Op.operands, Call.operands])).trans hx) ((hev _ (by simp [Op.operands, Call.operands])).trans hi) ht.out hi0 hl
theorem Yqi {d : Nat} {x : Operand} {t e n n' y y' : Nat} {l : List PD} (hN : Nat.blt d N = true) (hx : s.ev x = .dat (.sl n y l)) [ht : SI P t e n' y'] : TrK P X N ops (some d) (.call { callee := .builtin .len, args := #[x], argTypes := #[t] }) (Eff.put (some d) (.dat (.val (.int .i64 l.length)))) s (s.put (some d) (.dat (.val (.int .i64 l.length)))) := Zbm hN fun s' _ _ _ _ hd hev htb => Yfr hd rfl ht.out ((hev _ (by simp [Op.operands, Call.operands])).trans hx)
theorem Ydl {d : Nat} {x : Operand} {i : Nat} {l : List PD} {v : PD} (hN : Nat.blt d N = true) (hx : s.ev x = .dat (.tup l)) (hl : l[i]? = some v) : TrK P X N ops (some d) (.extract x i) (Eff.put (some d) (.dat v)) s (s.put (some d) (.dat v)) := Zbm hN fun s' _ _ _ _ hd hev htb => Zqz hd rfl ((hev _ (by simp [Op.operands, Call.operands])).trans hx) hl
theorem Ydp {d : Nat} {x : Operand} {k off : Nat} (hN : Nat.blt d N = true) (hx : s.ev x = .ptr k off) : TrK P X N ops (some d) (.nilCheck x) (Eff.put (some d) (.ptr k off)) s (s.put (some d) (.ptr k off)) := Zbm hN fun s' _ _ _ _ hd hev htb => Zmh hd rfl ((hev _ (by simp [Op.operands, Call.operands])).trans hx)
theorem Yqk {d : Nat} {x : Operand} {v : PD} (hN : Nat.blt d N = true) (hx : s.ev x = .dat (.ptr v)) : TrK P X N ops (some d) (.nilCheck x) (Eff.put (some d) (.dat (.ptr v))) s (s.put (some d) (.dat (.ptr v))) := Zbm hN fun s' _ _ _ _ hd hev htb => Zmi hd rfl ((hev _ (by simp [Op.operands, Call.operands])).trans hx)
theorem Zyr {d : Nat} {x : Operand} {lo hi : Option Operand} {t e n y y' : Nat} {l : List PD} {a b : Nat} (hN : Nat.blt d N = true) (hx : s.ev x = .dat (.sl n y l)) [ht : SI P t e n y'] (hlo : Zv5 s lo 0 = some (a : Int)) (hhi : Zv5 s hi l.length = some (b : Int)) (hab : a ≤ b) (hbl : b ≤ l.length) :
  TrK P X N ops (some d) (.slice t x lo hi none) (Eff.put (some d) (.dat (.sl n y ((l.take b).drop a)))) s (s.put (some d) (.dat (.sl n y ((l.take b).drop a)))) := Zbm hN fun s' _ _ _ _ hd hev htb => Zvg hd rfl ((hev _ (by simp [Op.operands])).trans hx) ht.out
   ((Zto (fun x hx => hev x (by cases lo <;> simp_all [Op.operands]))).trans hlo) ((Zto (fun x hx => hev x (by cases lo <;> cases hi <;> simp_all [Op.operands]))).trans hhi) hab hbl
theorem Ymq {d : Nat} {t : Nat} {parts : Array (Nat × Operand)} {zs : List Value} {cs : List AV} {pl : List (Nat × Nat)} {v : PD} (hN : Nat.blt d N = true) [hz : ZI P t zs] [hp : PLI P t pl] (hc : Zmv s pl (zs.map fun v => .dat (.val v)) parts.toList = some cs) (hr : Zpz cs = .dat v) :
  TrK P X N ops (some d) (.build t parts) (Eff.put (some d) (.dat v)) s (s.put (some d) (.dat v)) := Zbm hN fun s' _ _ _ _ hd hev htb => Zng hd rfl hz.out hz.ok hp.out ((Zls (fun p hp => hev p.2 (by simp only [Op.operands]; exact List.mem_map.2 ⟨p, hp, rfl⟩))).trans hc) hr
theorem Yie {d : Nat} {t : Nat} {parts : Array (Nat × Operand)} {zs : List Value} {cs : List AV} {pl : List (Nat × Nat)} {v : List AV} (hN : Nat.blt d N = true) [hz : ZI P t zs] [hp : PLI P t pl] (hc : Zmv s pl (zs.map fun v => .dat (.val v)) parts.toList = some cs) (hr : Zpz cs = .agg v) :
  TrK P X N ops (some d) (.build t parts) (Eff.put (some d) (.agg v)) s (s.put (some d) (.agg v)) := Zbm hN fun s' _ _ _ _ hd hev htb => Zng hd rfl hz.out hz.ok hp.out ((Zls (fun p hp => hev p.2 (by simp only [Op.operands]; exact List.mem_map.2 ⟨p, hp, rfl⟩))).trans hc) hr
theorem Yla {d f : Nat} {xs : List Operand} {ts : Array TypeId} {ds : List PD} {r : PD} (hN : Nat.blt d N = true) (hf : Zbo P f = true) (hx : Zi2 (xs.map s.ev) = some ds) (hr : PCall P f ds r) :
  TrK P X N ops (some d) (.call { callee := .value (.func f), args := xs.toArray, argTypes := ts }) (Eff.put (some d) (.dat r)) s (s.put (some d) (.dat r)) := Zbm hN fun s' _ _ _ _ hd hev htb => Yfi hd rfl hf (by rw [Zku (fun x hx => hev x (by simp [Op.operands, Call.operands, hx]))]; exact hx) hr
theorem Yqg {d t : Nat} {x : Operand} {v : PD} (hN : Nat.blt d N = true) (hk : s.tb d = none) (hx : s.ev x = .dat v) (hn : Zmg v = true) : TrK P X N ops (some d) (.box t x) (Eff.new d (.box t (Zap v)) (.ptr d 0)) s (s.new d (.box t (Zap v)) (.ptr d 0)) :=
 Zwf hN fun s' _ _ _ _ hd hev htb hnew => Yfh rfl hd (hnew.trans hk) rfl ((hev _ (by simp [Op.operands])).trans hx) hn
theorem Zt4 {d t e n y len : Nat} {parts : Array (Nat × Operand)} {ds : List PD} (hN : Nat.blt d N = true) (hk : s.tb d = none) [ht : SI P t e n y] (hz : Zv6 P e = some n) (hds : Zjj s n 0 parts.toList = some ds) (hlen : ds.length = len) (hn : Nat.blt 0 n = true) (hsm : Nat.ble (len * n) 16777216 = true) (hby : Nat.ble (len * y) 140737488351232 = true) :
  TrK P X N ops (some d) (.buildSlice t len parts) (Eff.new d (.row e n y ds) (.own d)) s (s.new d (.row e n y ds) (.own d)) :=
 Zwf hN fun s' _ _ _ _ hd hev htb hnew => Zky rfl hd (hnew.trans hk) rfl ht.out hz ((Zpb (fun p hp => hev p.2 (by simp only [Op.operands]; exact List.mem_map.2 ⟨p, hp, rfl⟩))).trans hds) hlen hn hsm hby
theorem Zyt {t k off T n : Nat} {x y : Operand} {cs ys : List AV} {g : Bool} (hx : s.ev x = .ptr k off) (hk : s.tb k = some (.box T cs)) [ht : VI P t n g] (hy : Zc5 (s.ev y) = some ys) (hn : ys.length = n) (hle : Nat.ble (off + n) cs.length = true) :
  TrK P X N ops none (.store t x y) (Eff.set k (.box T (cs.take off ++ ys ++ cs.drop (off + n)))) s (s.set k (.box T (cs.take off ++ ys ++ cs.drop (off + n)))) :=
 Zwg fun s' _ _ _ _ hev htb => Zo7 rfl rfl ((hev _ (by simp [Op.operands])).trans hx) ((htb x (by simp [Op.operands]) _ (by rw [hx]; simp [Zbq])).trans hk) ht.out (by rw [hev _ (by simp [Op.operands])]; exact hy) hn (Nat.le_of_ble_eq_true hle)
theorem Yim {t k T n : Nat} {x y : Operand} {cs : List AV} {v : PD} {g : Bool} (hx : s.ev x = .ptr k 0) (hk : s.tb k = some (.box T cs)) [ht : VI P t n g] (hy : s.ev y = .dat v) (hf : Zmg v = true) (hl : (Zap v).length = n) (hn : cs.length = n) :
  TrK P X N ops none (.store t x y) (Eff.set k (.box T (Zap v))) s (s.set k (.box T (Zap v))) :=
 Zwg fun s' _ _ _ _ hev htb => Zvh rfl rfl ((hev _ (by simp [Op.operands])).trans hx) ((htb x (by simp [Op.operands]) _ (by rw [hx]; simp [Zbq])).trans hk) ht.out ((hev _ (by simp [Op.operands])).trans hy) hf hl hn
theorem Yba {d t e n y k k2 : Nat} {x x2 : Operand} {l l2 : List PD} {e2 n2 y2 : Nat} (hN : Nat.blt d N = true) (hd0 : s.tb d = none) (hx : s.ev x = .own k) (hk : s.tb k = some (.row e n y l)) (hx2 : s.ev x2 = .own k2) (hk2 : s.tb k2 = some (.row e2 n2 y2 l2))
  [ht : SI P t e n y] (hz : Zv6 P e = some n) (hn : Nat.blt 0 n = true) (hn2 : n2 = n) (hb1 : (l.length + l2.length) * y ≤ 140737488351232) (hb2 : l.length + l2.length ≤ 140737488351232) :
  TrK P X N ops (some d) (.call { callee := .builtin .append, args := #[x, x2], argTypes := #[t, t] }) (Eff.mv k d (.row e n y (l ++ l2))) s (s.mv k d (.row e n y (l ++ l2))) :=
 Ycs hN fun s' _ _ _ _ hd hev htb hnew => Zo3 rfl hd (hnew.trans hd0) rfl ((hev _ (by simp [Op.operands, Call.operands])).trans hx) ((htb x (by simp [Op.operands, Call.operands]) _ (by rw [hx]; simp [Zbq])).trans hk) ((hev _ (by simp [Op.operands, Call.operands])).trans hx2) ((htb x2 (by simp [Op.operands, Call.operands]) _ (by rw [hx2]; simp [Zbq])).trans hk2) ht.out hz hn hn2 hb1 hb2
theorem Ya9 {d t e n y k : Nat} {x x2 : Operand} {l l2 : List PD} {n2 y2 : Nat} (hN : Nat.blt d N = true) (hd0 : s.tb d = none) (hx : s.ev x = .own k) (hk : s.tb k = some (.row e n y l)) (hx2 : s.ev x2 = .dat (.sl n2 y2 l2))
  [ht : SI P t e n y] (hz : Zv6 P e = some n) (hn : Nat.blt 0 n = true) (hn2 : n2 = n) (hb1 : (l.length + l2.length) * y ≤ 140737488351232) (hb2 : l.length + l2.length ≤ 140737488351232) :
  TrK P X N ops (some d) (.call { callee := .builtin .append, args := #[x, x2], argTypes := #[t, t] }) (Eff.mv k d (.row e n y (l ++ l2))) s (s.mv k d (.row e n y (l ++ l2))) :=
 Ycs hN fun s' _ _ _ _ hd hev htb hnew => Zo2 rfl hd (hnew.trans hd0) rfl ((hev _ (by simp [Op.operands, Call.operands])).trans hx) ((htb x (by simp [Op.operands, Call.operands]) _ (by rw [hx]; simp [Zbq])).trans hk) ((hev _ (by simp [Op.operands, Call.operands])).trans hx2) ht.out hz hn hn2 hb1 hb2
end
end Go.Proofs.YtgmahieoiifpfaaGreat
namespace Go.Proofs.YtgmahieoiifpfaaGreat
open Go.RowKit
def lkA : List (Nat × AV) → Nat → AV
 | [], _ => .any
 | (t, x) :: r, i => if i = t then x else lkA r i
def lkB : List (Nat × Blk) → Nat → Option Blk
 | [], _ => none
 | (t, x) :: r, i => if i = t then some x else lkB r i
def Zl1 (tm : List (Nat × AV)) (tb : List (Nat × Blk)) : Sta := { tm := lkA tm, tb := lkB tb }
-- What is held says no more than what was held; θ tells by which key the second state calls what the first calls so.
mutual
inductive ALe (θ : Nat → Nat) : AV → AV → Prop where
 | any (x : AV) : ALe θ x .any
 | dat {d d' : PD} (h : PLe d d') : ALe θ (.dat d) (.dat d')
 | ptr {k k' off : Nat} (h : θ k' = k) : ALe θ (.ptr k off) (.ptr k' off)
 | own {k k' : Nat} (h : θ k' = k) : ALe θ (.own k) (.own k')
 | elt {k k' n i off : Nat} (h : θ k' = k) : ALe θ (.elt k n i off) (.elt k' n i off)
 | iface {t : TypeId} {x y : AV} (h : ALe θ x y) : ALe θ (.iface t x) (.iface t y)
 | clo {f : Nat} {l l' : List AV} (h : CLe θ l l') : ALe θ (.clo f l) (.clo f l')
inductive CLe (θ : Nat → Nat) : List AV → List AV → Prop where
 | nil : CLe θ [] []
 | cons {x y : AV} {l l' : List AV} (h : ALe θ x y) (hl : CLe θ l l') : CLe θ (x :: l) (y :: l')
end
inductive BLe (θ : Nat → Nat) : Option Blk → Blk → Prop where
 | row {e n y : Nat} {l l' : List PD} (h : l = l') : BLe θ (some (.row e n y l)) (.row e n y l')
 | box {t : Nat} {cs cs' : List AV} (h : CLe θ cs cs') : BLe θ (some (.box t cs)) (.box t cs')
 | res {R : Res} : BLe θ (some (.res R)) (.res R)
 | dead {x : Blk} (h : Nat.beq x.kind 0 = false) : BLe θ (some x) .dead
theorem CLe.dats (θ : Nat → Nat) : ∀ l : List PD, CLe θ (l.map .dat) (l.map .dat)
 | [] => .nil
 | d :: r => .cons (.dat (PLe.refl d)) (CLe.dats θ r)
theorem BLe.boxD (θ : Nat → Nat) {t : Nat} (d : PD) : BLe θ (some (.box t (Zap d))) (.box t (Zap d)) := .box (by
 cases d <;> first | exact CLe.dats θ _ | exact .cons (.dat (PLe.refl _)) .nil)
section
variable {P : Program} {X : Base} {N : Nat} {Q : Exit → Act → World → Prop} {s s' : Sta} {ks : List Itm}
mutual
theorem Zwh {w : World} {F F' : Nat → Prop} {t1 t2 : Nat → Option Blk} {ρ ρ' : Nat → RV} {θ : Nat → Nat} (K : Nat → Prop) (hs : ∀ b, F b → F' b)
  (hk : ∀ k', K k' → ∃ y, t2 k' = some y ∧ BLe θ (t1 (θ k')) y ∧ ρ' k' = ρ (θ k')) : ∀ (z y : AV) {v : Value}, ALe θ z y → (∀ k ∈ Zbq y, K k) → VR w F t1 ρ z v → VR w F' t2 ρ' y v
 | z, .any, v, _, _, _ => by unfold VR; trivial
 | .dat d, y, v, h, _, hv => by
  cases h with
  | any => unfold VR; trivial
  | dat hle => unfold VR at hv ⊢; exact (hle _ _ _ hv).keep (fun _ _ => rfl) hs
 | .ptr k off, y, v, h, hkk, hv => by
  cases h with
  | any => unfold VR; trivial
  | @ptr _ k' _ e =>
   subst e
   obtain ⟨b, h1, h2, h3⟩ := hk k' (hkk k' (by simp [Zbq]))
   unfold VR at hv ⊢
   obtain ⟨T, cs, b', g1, g2, g3⟩ := hv
   rw [g1] at h2
   cases h2 with
   | box hcl => exact ⟨T, _, b', h1, by rw [h3]; exact g2, g3⟩
   | dead h => simp [Blk.kind] at h
 | .own k, y, v, h, hkk, hv => by
  cases h with
  | any => unfold VR; trivial
  | @own _ k' e =>
   subst e
   obtain ⟨b, h1, h2, h3⟩ := hk k' (hkk k' (by simp [Zbq]))
   unfold VR at hv ⊢
   refine ⟨hv.1, ?_⟩
   rcases hv.2 with ⟨x, g1, g2, g3⟩ | g1
   ·rw [g1] at h2
    cases h2 with
    | row hl => exact .inl ⟨_, h1, .inl rfl, by rw [h3]; exact g3⟩
    | box hl => simp [Blk.kind] at g2
    | res => exact .inl ⟨_, h1, .inr rfl, by rw [h3]; exact g3⟩
    | dead h => exact .inr h1
   ·rw [g1] at h2; cases h2; exact .inr h1
 | .elt k n i off, y, v, h, hkk, hv => by
  cases h with
  | any => unfold VR; trivial
  | @elt _ k' _ _ _ e =>
   subst e
   obtain ⟨b, h1, h2, h3⟩ := hk k' (hkk k' (by simp [Zbq]))
   unfold VR at hv ⊢
   refine ⟨hv.1, ?_⟩
   rcases hv.2 with ⟨x, g1, g2, g3⟩ | g1
   ·rw [g1] at h2
    cases h2 with
    | row hl => exact .inl ⟨_, h1, .inl rfl, by rw [h3]; exact g3⟩
    | box hl => simp [Blk.kind] at g2
    | res => exact .inl ⟨_, h1, .inr rfl, by rw [h3]; exact g3⟩
    | dead h => exact .inr h1
   ·rw [g1] at h2; cases h2; exact .inr h1
 | .agg l, y, v, h, _, _ => by
  cases h with
  | any => unfold VR; trivial
 | .tup l, y, v, h, _, _ => by
  cases h with
  | any => unfold VR; trivial
 | .any, y, v, h, _, _ => by
  cases h with
  | any => unfold VR; trivial
 | .iface t x, y, v, h, hkk, hv => by
  cases h with
  | any => unfold VR; trivial
  | iface h' =>
   unfold VR at hv ⊢
   obtain ⟨u, e, hu⟩ := hv
   exact ⟨u, e, Zwh K hs hk x _ h' (fun k hk => hkk k (by simpa [Zbq] using hk)) hu⟩
 | .clo f l, y, v, h, hkk, hv => by
  cases h with
  | any => unfold VR; trivial
  | clo h' =>
   unfold VR at hv ⊢
   obtain ⟨u, e, hu⟩ := hv
   exact ⟨u, e, Zwj K hs hk l _ h' (fun k hk => hkk k (by simpa [Zbq] using hk)) hu⟩
theorem Zwj {w : World} {F F' : Nat → Prop} {t1 t2 : Nat → Option Blk} {ρ ρ' : Nat → RV} {θ : Nat → Nat} (K : Nat → Prop) (hs : ∀ b, F b → F' b)
  (hk : ∀ k', K k' → ∃ y, t2 k' = some y ∧ BLe θ (t1 (θ k')) y ∧ ρ' k' = ρ (θ k')) : ∀ (l l' : List AV) {vs : List Value}, CLe θ l l' → (∀ k ∈ Zcy l', K k) → VRs w F t1 ρ l vs → VRs w F' t2 ρ' l' vs
 | [], _, vs, h, _, hv => by cases h; unfold VRs at hv ⊢; exact hv
 | x :: r, _, vs, h, hkk, hv => by
  cases h with
  | @cons _ y _ r' h1 h2 =>
   unfold VRs at hv ⊢
   obtain ⟨v, q, e, hx, hr⟩ := hv
   exact ⟨v, q, e, Zwh K hs hk x y h1 (fun k hk => hkk k (by simp only [Zcy, List.mem_append]; exact .inl hk)) hx, Zwj K hs hk r r' h2 (fun k hk => hkk k (by simp only [Zcy, List.mem_append]; exact .inr hk)) hr⟩
end
theorem Zqt {k : Nat} : ∀ {l : List AV}, k ∈ Zcy l → ∃ x ∈ l, k ∈ Zbq x
 | [], h => by simp [Zcy] at h
 | x :: r, h => by
  simp only [Zcy, List.mem_append] at h
  rcases h with h | h
  ·exact ⟨x, List.mem_cons_self .., h⟩
  ·obtain ⟨y, hy, hk⟩ := Zqt h
   exact ⟨y, List.mem_cons_of_mem _ hy, hk⟩
theorem Conc.sub {tm : List (Nat × AV)} {tb : List (Nat × Blk)} (θ : Nat → Nat) (htm : ∀ t x, (t, x) ∈ tm → ALe θ (s.tm t) x) (htb : ∀ k b, (k, b) ∈ tb → BLe θ (s.tb (θ k)) b)
  (hinj : ∀ k k' b b', (k, b) ∈ tb → (k', b') ∈ tb → b.live = true → b'.live = true → θ k = θ k' → k = k') (hkeys : ∀ t x, (t, x) ∈ tm → ∀ k ∈ Zbq x, ∃ b, (k, b) ∈ tb)
  (hkeysB : ∀ k t cs, (k, Blk.box t cs) ∈ tb → ∀ x ∈ cs, ∀ k' ∈ Zbq x, ∃ b, (k', b) ∈ tb) (hlent : ∀ k b, (k, b) ∈ tb → 1000 ≤ k → θ k = k) {a : Act} {w : World} (hc : Conc X s a w) : Conc X (Zl1 tm tb) a w := by
 obtain ⟨ρ, hc⟩ := hc
 have hlkB : ∀ (l : List (Nat × Blk)) k b, lkB l k = some b → (k, b) ∈ l := by
  intro l
  induction l with
  | nil => intro k b h; simp [lkB] at h
  | cons x r ih =>
   obtain ⟨t, y⟩ := x
   intro k b h
   unfold lkB at h
   split at h
   ·rename_i e; subst e; simp only [Option.some.injEq] at h; subst h; exact List.mem_cons_self
   ·exact List.mem_cons_of_mem _ (ih k b h)
 have hlkA : ∀ (l : List (Nat × AV)) t, lkA l t = .any ∨ (t, lkA l t) ∈ l := by
  intro l
  induction l with
  | nil => intro t; exact .inl rfl
  | cons x r ih =>
   obtain ⟨t', y⟩ := x
   intro t
   unfold lkA
   split
   ·rename_i e; subst e; exact .inr List.mem_cons_self
   ·rcases ih t with h | h
    ·exact .inl h
    ·exact .inr (List.mem_cons_of_mem _ h)
 have hsome : ∀ (l : List (Nat × Blk)) k b, (k, b) ∈ l → ∃ b', lkB l k = some b' := by
  intro l
  induction l with
  | nil => intro k b h; cases h
  | cons x r ih =>
   obtain ⟨t', y⟩ := x
   intro k b h
   unfold lkB
   split
   ·exact ⟨_, rfl⟩
   ·rename_i hne
    rcases List.mem_cons.1 h with h | h
    ·cases h; exact absurd rfl hne
    ·exact ih k b h
 let ρ' : Nat → RV := fun k => ρ (θ k)
 have hlive : ∀ k blk, lkB tb k = some blk → blk.live = true → Za6 (s.tb (θ k)) = true := by
  intro k blk hx hl
  have h1 := htb k blk (hlkB tb k blk hx)
  generalize s.tb (θ k) = q at h1
  cases h1 <;> first | rfl | cases hl
 have hs : ∀ b, FF X w s.tb ρ b → FF X w (Zl1 tm tb).tb ρ' b := by
  intro b hb
  refine ⟨hb.1, hb.2.1, fun k hk e => ?_⟩
  cases hx : lkB tb k with
  | none => have : Za6 (lkB tb k) = true := hk; rw [hx] at this; cases this
  | some blk => exact hb.2.2 (θ k) (hlive k blk hx (by have : Za6 (lkB tb k) = true := hk; rw [hx] at this; exact this)) e
 have hK : ∀ k', (∃ b, (k', b) ∈ tb) → ∃ y, (Zl1 tm tb).tb k' = some y ∧ BLe θ (s.tb (θ k')) y ∧ ρ' k' = ρ (θ k') := by
  rintro k' ⟨b, hb⟩
  obtain ⟨b2, hb2⟩ := hsome tb k' b hb
  exact ⟨b2, hb2, htb k' b2 (hlkB tb k' b2 hb2), rfl⟩
 refine ⟨ρ', hc.size, hc.defers, hc.below, fun t => ?_, fun k blk hk => ?_, fun k k' b h1 h2 e1 e2 => ?_, fun k hk hl => ?_⟩
 ·show VR _ _ _ _ (lkA tm t) _
  rcases hlkA tm t with h | h
  ·rw [h]; unfold VR; trivial
  ·exact Zwh _ hs hK _ _ (htm t _ h) (hkeys t _ h) (hc.tmps t)
 ·have h1 := htb k blk (hlkB tb k blk hk)
  have hbk : ∀ b, s.tb (θ k) = some b → BR X w s.tb ρ (θ k) b := fun b h => hc.blks (θ k) b h
  generalize s.tb (θ k) = q at h1 hbk
  cases h1 with
  | @row e n y l l' hl =>
   subst hl
   obtain ⟨xs, g0, gm, g1, g2, g3, g4⟩ := hbk _ rfl
   exact ⟨xs, g0, gm, g1, g2.keep (fun _ _ => rfl) hs, g3, g4⟩
  | @box t cs cs' hcl =>
   obtain ⟨b, vs, e, g1, g2, g3, g4⟩ := hbk _ rfl
   refine ⟨b, vs, e, g1, g2, Zwj _ hs hK cs cs' hcl (fun k' hk' => ?_) g3, g4⟩
   obtain ⟨x, hx, hkx⟩ := Zqt hk'
   exact hkeysB k t cs' (hlkB tb k _ hk) x hx k' hkx
  | @res R =>
   obtain ⟨g1, g2⟩ := hbk _ rfl
   exact ⟨R.keep _ _ _ _ _ _ (fun _ _ => rfl) hs (fun _ _ => rfl) g1, g2⟩
  | dead h => trivial
 ·obtain ⟨y, hx, l1⟩ := Zbd h1
  obtain ⟨y', hx', l2⟩ := Zbd h2
  exact hinj k k' y y' (hlkB _ _ _ hx) (hlkB _ _ _ hx') l1 l2 (hc.apart (θ k) (θ k') b (hlive k y hx l1) (hlive k' y' hx' l2) e1 e2)
 ·obtain ⟨y, hx, l1⟩ := Zbd hl
  have e := hlent k y (hlkB _ _ _ hx) hk
  show (ρ (θ k)).v = _
  rw [e]
  exact hc.lent k hk (by have := hlive k y hx l1; rwa [e] at this)
def Yo6 (s : Sta) (θ : Nat → Nat) : List (Nat × AV) → Prop
 | [] => True
 | (t, x) :: r => ALe θ (s.tm t) x ∧ Yo6 s θ r
def Yo5 (s : Sta) (θ : Nat → Nat) : List (Nat × Blk) → Prop
 | [] => True
 | (k, b) :: r => BLe θ (s.tb (θ k)) b ∧ Yo5 s θ r
def Zzp (tb : List (Nat × Blk)) : List (Nat × AV) → Bool
 | [] => true
 | (_, x) :: r => (Zbq x).all (fun k => (tb.map (·.1)).contains k) && Zzp tb r
def Zf0 (tb : List (Nat × Blk)) : List (Nat × Blk) → Bool
 | [] => true
 | (_, .box _ cs) :: r => (Zcy cs).all (fun k => (tb.map (·.1)).contains k) && Zf0 tb r
 | _ :: r => Zf0 tb r
def Zsd (θ : Nat → Nat) : List (Nat × Blk) → Bool
 | [] => true
 | (k, _) :: r => r.all (fun p => !(Nat.beq (θ k) (θ p.1)) || Nat.beq k p.1) && Zsd θ r
def Yst (θ : Nat → Nat) : List (Nat × Blk) → Bool
 | [] => true
 | (k, b) :: r => (!b.live || r.all (fun p => !(Nat.beq (θ k) (θ p.1)) || (Nat.beq k p.1 || !p.2.live))) && Yst θ r
def Zzs (θ : Nat → Nat) : List (Nat × Blk) → Bool
 | [] => true
 | (k, _) :: r => (Nat.blt k 1000 || Nat.beq (θ k) k) && Zzs θ r
structure SubS (s : Sta) (tm : List (Nat × AV)) (tb : List (Nat × Blk)) (θ : Nat → Nat) : Prop where
 t : Yo6 s θ tm
 b : Yo5 s θ tb
 k : (Zzp tb tm && Zf0 tb tb && Yst θ tb && Zzs θ tb) = true
theorem SubS.conc {tm : List (Nat × AV)} {tb : List (Nat × Blk)} {θ : Nat → Nat} (h : SubS s tm tb θ) {a : Act} {w : World} (hc : Conc X s a w) : Conc X (Zl1 tm tb) a w := by
 have hk := h.k
 simp only [Bool.and_eq_true] at hk
 have h1 : ∀ (l : List (Nat × AV)), Yo6 s θ l → ∀ t x, (t, x) ∈ l → ALe θ (s.tm t) x := by
  intro l
  induction l with
  | nil => intro _ t x h; cases h
  | cons p r ih =>
   obtain ⟨t', y⟩ := p
   intro hl t x hm
   rcases List.mem_cons.1 hm with h | h
   ·cases h; exact hl.1
   ·exact ih hl.2 t x h
 have h2 : ∀ (l : List (Nat × Blk)), Yo5 s θ l → ∀ t x, (t, x) ∈ l → BLe θ (s.tb (θ t)) x := by
  intro l
  induction l with
  | nil => intro _ t x h; cases h
  | cons p r ih =>
   obtain ⟨t', y⟩ := p
   intro hl t x hm
   rcases List.mem_cons.1 hm with h | h
   ·cases h; exact hl.1
   ·exact ih hl.2 t x h
 have h3 : ∀ (l : List (Nat × AV)), Zzp tb l = true → ∀ t x, (t, x) ∈ l → ∀ k ∈ Zbq x, ∃ b, (k, b) ∈ tb := by
  intro l
  induction l with
  | nil => intro _ t x h; cases h
  | cons p r ih =>
   obtain ⟨t', y⟩ := p
   intro hl t x hm k hk
   simp only [Zzp, Bool.and_eq_true] at hl
   rcases List.mem_cons.1 hm with h | h
   ·cases h
    have := List.all_eq_true.1 hl.1 k hk
    simp only [List.contains_iff_mem, List.mem_map] at this
    obtain ⟨q, hq, rfl⟩ := this
    exact ⟨q.2, hq⟩
   ·exact ih hl.2 t x h k hk
 have h4 : ∀ (l : List (Nat × Blk)), Yst θ l = true → ∀ k k' b b', (k, b) ∈ l → (k', b') ∈ l → b.live = true → b'.live = true → θ k = θ k' → k = k' := by
  intro l
  induction l with
  | nil => intro _ k k' b b' h; cases h
  | cons p r ih =>
   obtain ⟨t', y⟩ := p
   intro hl k k' b b' h h' l1 l2 e
   simp only [Yst, Bool.and_eq_true, Bool.or_eq_true, Bool.not_eq_true'] at hl
   have key : y.live = true → ∀ k2 b2, (k2, b2) ∈ r → b2.live = true → θ t' = θ k2 → t' = k2 := by
    intro hy k2 b2 hm hl2 he
    rcases hl.1 with h0 | h0
    ·rw [hy] at h0; cases h0
    ·have := List.all_eq_true.1 h0 (k2, b2) hm
     simp only [Bool.or_eq_true, Bool.not_eq_true'] at this
     rcases this with h1 | h1 | h1
     ·rw [he, Nat.beq_refl] at h1; cases h1
     ·exact Nat.eq_of_beq_eq_true h1
     ·rw [hl2] at h1; cases h1
   rcases List.mem_cons.1 h with h1 | h1 <;> rcases List.mem_cons.1 h' with h2 | h2
   ·cases h1; cases h2; rfl
   ·cases h1; exact key l1 _ _ h2 l2 e
   ·cases h2; exact (key l2 _ _ h1 l1 e.symm).symm
   ·exact ih hl.2 k k' b b' h1 h2 l1 l2 e
 have h5 : ∀ (l : List (Nat × Blk)), Zf0 tb l = true → ∀ k t cs, (k, Blk.box t cs) ∈ l → ∀ x ∈ cs, ∀ k' ∈ Zbq x, ∃ b, (k', b) ∈ tb := by
  intro l
  induction l with
  | nil => intro _ k t cs h; cases h
  | cons p r ih =>
   obtain ⟨t', y⟩ := p
   intro hl k t cs hm x hx k' hk'
   have hr : Zf0 tb r = true := by
    cases y <;> simp only [Zf0, Bool.and_eq_true] at hl <;> first | exact hl.2 | exact hl
   rcases List.mem_cons.1 hm with h | h
   ·cases h
    simp only [Zf0, Bool.and_eq_true] at hl
    have hmem : k' ∈ Zcy cs := by
     clear hl hm
     induction cs with
     | nil => cases hx
     | cons z zs ihz =>
      unfold Zcy
      rcases List.mem_cons.1 hx with rfl | hx
      ·exact List.mem_append_left _ hk'
      ·exact List.mem_append_right _ (ihz hx)
    have := List.all_eq_true.1 hl.1 k' hmem
    simp only [List.contains_iff_mem, List.mem_map] at this
    obtain ⟨q, hq, rfl⟩ := this
    exact ⟨q.2, hq⟩
   ·exact ih hr k t cs h x hx k' hk'
 have h6 : ∀ (l : List (Nat × Blk)), Zzs θ l = true → ∀ k b, (k, b) ∈ l → 1000 ≤ k → θ k = k := by
  intro l
  induction l with
  | nil => intro _ k b h; cases h
  | cons p r ih =>
   obtain ⟨t', y⟩ := p
   intro hl k b hm hk
   simp only [Zzs, Bool.and_eq_true, Bool.or_eq_true] at hl
   rcases List.mem_cons.1 hm with h | h
   ·cases h
    rcases hl.1 with h1 | h1
    ·have := Nat.blt_eq.mp h1; omega
    ·exact Nat.eq_of_beq_eq_true h1
   ·exact ih hl.2 k b h hk
 exact Conc.sub θ (h1 tm h.t) (h2 tb h.b) (h4 tb hk.1.2) (h3 tm hk.1.1.1) (h5 tb hk.1.1.2) (h6 tb hk.2) hc
theorem Zaq {c : Code} {ι : Type} (tm : ι → List (Nat × AV)) (tb : ι → List (Nat × Blk)) (m : ι → Nat) (i0 : ι) (θ0 : Nat → Nat) (h0 : SubS s (tm i0) (tb i0) θ0)
  (h : ∀ i, Run P X N Q (.code c :: .again (fun s' => ∃ j θ, m j < m i ∧ SubS s' (tm j) (tb j) θ) :: ks) (Zl1 (tm i) (tb i))) : Run P X N Q (.code (.loop c) :: ks) s := by
 refine Ykm (fun i => Zl1 (tm i) (tb i)) m i0 (fun a w hc => h0.conc hc) fun i => ?_
 refine ⟨fun hN a w hc => ?_⟩
 have := (h i).out hN a w hc
 have mono : ∀ (ks : List Itm) (R R' : Sta → Prop), (∀ s, R s → R' s) → ∀ a w, post P X Q (.code c :: .again R :: ks) .normal a w → post P X Q (.code c :: .again R' :: ks) .normal a w := by
  intro ks R R' hR a w hp
  refine wp_mono hp fun e a w q => ?_
  cases e with
  | normal => obtain ⟨s, h1, h2⟩ := q; exact ⟨s, hR s h1, h2⟩
  | _ => exact q
 exact mono ks _ _ (fun s' ⟨j, θ, h1, h2⟩ => ⟨j, h1, fun a w hc => h2.conc hc⟩) a w this
end
end Go.Proofs.YtgmahieoiifpfaaGreat
namespace Go.Proofs.YtgmahieoiifpfaaGreat
open Go.RowKit
section
variable {P : Program} {X : Base} {N : Nat} {Q : Exit → Act → World → Prop} {s s' : Sta} {ks : List Itm} {ops : Array Oper} {rem : List Nat} {a : Act} {w w' : World} {ρ : Nat → RV}
theorem Ybr {o : Oper} {d : Nat} (hd : o.dst = some d) (hN : d < X.N) (hd0 : s.tb d = none) {x x2 : Operand} {t : TypeId} (ho : o.op = .call { callee := .builtin .append, args := #[x, x2], argTypes := #[t, t] })
  {e n y : Nat} {l2 : List PD} (hx : s.ev x = .dat (.val (.slice none 0 0))) (ht : Zp0 P t = some (e, n, y)) (hz : Zv6 P e = some n) (hn : Nat.blt 0 n = true) (hb1 : l2.length * y ≤ 140737488351232) (hb2 : l2.length ≤ 140737488351232)
  (h2 : ∀ a w ρ, ConcAt X s a w ρ → ∃ ad c news, a.eval x2 = .slice ad l2.length c ∧ Groups w (FF X w s.tb ρ) n l2 news ∧ (l2.length = 0 ∨ ∃ b o, ad = some ⟨b, o, none⟩ ∧ Lies w b o news)) :
  OpS P X o s (s.new d (.row e n y l2) (.own d)) := by
 intro a w ⟨ρ, hc⟩ K Q hK
 have hn := (Nat.blt_eq.mp hn : 0 < n)
 obtain ⟨inf, hu, hi1, hs1, hy1⟩ := Zcd ht
 obtain ⟨i2, z, hi2, hz1, hz2, hz3⟩ := Zli hz
 rw [hi1] at hi2
 cases hi2
 obtain ⟨ad, c, news, e2, hg2, hl2⟩ := h2 a w ρ hc
 have e1 := hc.ev x
 rw [hx] at e1
 unfold VR Rep at e1
 obtain ⟨v', w', hr, r1, r2, r3⟩ := Zfn (P := P) X.B t o.type e inf z n y hu hi1 hz1 hs1 hy1 hz2 hn (World.ownsRow_nil w X.B e n) (ad := ad) (m := l2.length) (c := c) hg2.length hl2 hg2.one (by unfold maxLen; omega) (by rw [Nat.zero_add]; omega) hc.below.sizeB
 have hb : Below w.heap.size w w' := ⟨r2.os, r2.tape, r2.output, r2.size, fun k hk => r2.block k hk (by simp [Value.ownBlock])⟩
 have hv1 : v'.oneCell' = true := by
  rcases r1.2 with ⟨e, _⟩ | ⟨g, cap, cur, e, _⟩ <;> rw [e] <;> rfl
 have hnew := hc.newBlk (Nat.lt_of_lt_of_le hN X.hN) hd0 hb (blk := .row e n y l2) (v := RV.of v') (fun b e => by
  rcases r3 b e with h | h
  ·exact h
  ·simp [Value.ownBlock] at h) fun hF hs _ => ⟨news, by rw [Zah]; rfl, (fun b e => by
   rw [Zah] at e
   rcases r3 b (Zo9 e) with h | h
   ·exact .inl (Nat.le_trans hc.below.size h)
   ·simp [Value.ownBlock] at h), by rw [Zah]; simpa [RV.of] using r1, hg2.keep hF hs, hb1, hb2⟩
 refine Zdr (v := v') (w' := w') ?_ ?_
 ·simp only [execOp, ho, resolve, invoke, builtin, Sem.run_bind, Sem.run_pure, Result.andThen_ok, List.map_toArray, List.map_cons, List.map_nil, e1.1, e2, hr]
 ·rw [hd]
  refine hK _ _ ⟨_, ConcAt.putNew hnew hN ?_⟩
  unfold VR
  exact ⟨hv1, .inl ⟨_, Zah _ _ _, .inl rfl, by rw [Zah]; rfl⟩⟩
theorem Zxg {o : Oper} {d : Nat} (hd : o.dst = some d) (hN : d < X.N) (hd0 : s.tb d = none) {x x2 : Operand} {t : TypeId} (ho : o.op = .call { callee := .builtin .append, args := #[x, x2], argTypes := #[t, t] })
  {e n y n2 y2 : Nat} {l2 : List PD} (hx : s.ev x = .dat (.val (.slice none 0 0))) (hx2 : s.ev x2 = .dat (.sl n2 y2 l2)) (ht : Zp0 P t = some (e, n, y)) (hz : Zv6 P e = some n) (hn : Nat.blt 0 n = true) (hn2 : n2 = n) (hb1 : l2.length * y ≤ 140737488351232) (hb2 : l2.length ≤ 140737488351232) :
  OpS P X o s (s.new d (.row e n y l2) (.own d)) := by
 subst hn2
 refine Ybr hd hN hd0 ho hx ht hz hn hb1 hb2 fun a w ρ hc => ?_
 have e3 := hc.ev x2
 rw [hx2] at e3
 unfold VR Rep at e3
 obtain ⟨a', c, e4, _, _, _, e5⟩ := e3
 rcases e5 with rfl | ⟨b, off, hF, rfl, hr⟩
 ·exact ⟨a', c, [], e4, rfl, .inl rfl⟩
 ·obtain ⟨news, g1, g2⟩ := hr.groups
  exact ⟨_, c, news, e4, g1, .inr ⟨b, off, rfl, g2⟩⟩
theorem Ya8 {ops : List Oper} {d t e n y : Nat} {x x2 : Operand} {l2 : List PD} {n2 y2 : Nat} (hN : Nat.blt d N = true) (hd0 : s.tb d = none) (hx : s.ev x = .dat (.val (.slice none 0 0))) (hx2 : s.ev x2 = .dat (.sl n2 y2 l2))
  [ht : SI P t e n y] (hz : Zv6 P e = some n) (hn : Nat.blt 0 n = true) (hn2 : n2 = n) (hb1 : l2.length * y ≤ 140737488351232) (hb2 : l2.length ≤ 140737488351232) :
  TrK P X N ops (some d) (.call { callee := .builtin .append, args := #[x, x2], argTypes := #[t, t] }) (Eff.new d (.row e n y l2) (.own d)) s (s.new d (.row e n y l2) (.own d)) :=
 Zwf hN fun s' _ _ _ _ hd hev htb hnew => Zxg rfl hd (hnew.trans hd0) rfl ((hev _ (by simp [Op.operands, Call.operands])).trans hx) ((hev _ (by simp [Op.operands, Call.operands])).trans hx2) ht.out hz hn hn2 hb1 hb2
theorem Yjy {o : Oper} (hd : Za7 X.N o.dst = true) {f : FuncId} {c : Operand} {xs : List Operand} {ts : Array TypeId} (ho : o.op = .call { callee := .value c, args := xs.toArray, argTypes := ts }) (hc0 : s.ev c = .dat (.val (.func (.func f) #[] #[]))) (hf : Zbo P f = true)
  {ds : List PD} (hx : Zi2 (xs.map s.ev) = some ds) {r : PD} (hr : PCall P f ds r) : OpS P X o s (s.put o.dst (.dat r)) := by
 intro a w ⟨ρ, hc⟩ K Q hK
 have hargs := Zno hc hx
 have hcall := hr w (FF X w s.tb ρ) _ (fun b hb => hb.2.1) hargs
 have e0 := hc.ev c
 rw [hc0] at e0
 unfold VR Rep at e0
 have hrun : (execOp a.eval o).run P w = .ok (.enter f (xs.map a.eval).toArray) w := by
  simp [execOp, ho, resolve, Deferred.ofValue, e0.1, invoke, Zck hf]
 unfold Oper.wp
 rw [hrun]
 refine hcall.mono ?_
 rintro e w' ⟨v, rfl, hb, hv⟩
 have hc' := hc.grow hb
 have hF := Zti hb hc
 refine hK _ _ ⟨ρ, hc'.putO hd ?_⟩
 unfold VR
 exact hv.keep (fun _ _ => rfl) hF
theorem Ymr {ops : List Oper} {d f : Nat} {c : Operand} {xs : List Operand} {ts : Array TypeId} {ds : List PD} {r : PD} (hN : Nat.blt d N = true) (hc0 : s.ev c = .dat (.val (.func (.func f) #[] #[]))) (hf : Zbo P f = true) (hx : Zi2 (xs.map s.ev) = some ds) (hr : PCall P f ds r) :
  TrK P X N ops (some d) (.call { callee := .value c, args := xs.toArray, argTypes := ts }) (Eff.put (some d) (.dat r)) s (s.put (some d) (.dat r)) := Zbm hN fun s' _ _ _ _ hd hev htb => Yjy hd rfl ((hev c (by simp [Op.operands, Call.operands])).trans hc0) hf (by rw [Zku (fun x hx => hev x (by simp [Op.operands, Call.operands, hx]))]; exact hx) hr
def Ytk (P : Program) (t : TypeId) : Bool := match P.underlying t with
 | some .string => true
 | _ => false
theorem Yoo {o : Oper} (hd : Za7 X.N o.dst = true) {x : Operand} {t : TypeId} (ho : o.op = .call { callee := .builtin .len, args := #[x], argTypes := #[t] }) {b : ByteArray} (hx : s.ev x = .dat (.val (.string b))) (ht : Ytk P t = true) :
  OpS P X o s (s.put o.dst (.dat (.val (.int .i64 ((b.size : Nat) : Int))))) := by
 have hu : P.underlying t = some .string := by
  unfold Ytk at ht
  split at ht
  ·assumption
  ·cases ht
 refine Zat hd fun a w ρ hc => ⟨.int .i64 ((b.size : Nat) : Int), ?_, ?_⟩
 ·have h1 := hc.ev x
  rw [hx] at h1
  unfold VR Rep at h1
  simp [execOp, ho, resolve, invoke, builtin, h1.1, run_len_string _ _ _ _ hu, goInt]
 ·have h1 := hc.ev x
  rw [hx] at h1
  unfold VR Rep at h1 ⊢
  have hs : b.size ≤ maxLen := h1.2
  refine ⟨rfl, ?_⟩
  show (Lit.int .i64 _).wf = true
  unfold maxLen at hs
  simp [Lit.wf, IntKind.min, IntKind.max, IntKind.bits, IntKind.signed]
  omega
theorem Zoo {d : Nat} {x : Operand} {t : TypeId} {b : ByteArray} (hN : Nat.blt d N = true) (hx : s.ev x = .dat (.val (.string b))) (ht : Ytk P t = true) (h : Run P X N Q (.ops ops rem :: ks) (s.put (some d) (.dat (.val (.int .i64 ((b.size : Nat) : Int)))))) :
  Zbp P X N Q ops rem ks (some d) (.call { callee := .builtin .len, args := #[x], argTypes := #[t] }) s := Zdx hN (fun _ _ _ hd => Yoo hd rfl hx ht) h
def Ymd (P : Program) (t : TypeId) : Bool := match P.underlying t with
 | some .bool => true
 | _ => false
def Ys4 : BinOp → Bool → Bool → Option Bool
 | .eql, a, b => some (a == b)
 | .neq, a, b => some (!(a == b))
 | _, _, _ => none
theorem Ybt {o : Oper} (hd : Za7 X.N o.dst = true) {op : BinOp} {t t' : TypeId} {x y : Operand} (ho : o.op = .binOp op t x y t') {p q r : Bool} (hx : s.ev x = .dat (.val (.bool p))) (hy : s.ev y = .dat (.val (.bool q))) (ht : Ymd P t = true) (hr : Ys4 op p q = some r) :
  OpS P X o s (s.put o.dst (.dat (.val (.bool r)))) := by
 have hu : P.underlying t = some .bool := by
  unfold Ymd at ht
  split at ht
  ·assumption
  ·cases ht
 refine Zo4 hd ho hx hy (fun w => ?_) trivial
 have he : (Op.equal t (.bool p) (.bool q)).run P w = .ok (p == q) w := by
  show (Op.equalIn (9999 + 1) t _ _).run P w = _
  unfold Op.equalIn
  rw [Sem.run_bind, run_underlying hu]; rfl
 unfold Ys4 at hr
 split at hr <;> cases hr
 ·have : (binOp .eql t (.bool p) (.bool q)).run P w = .ok (.bool (p == q)) w := by show (do pure (.bool (← _)) : Sem Value).run P w = _; simp [he]
  rw [Sem.run_bind, show (eqGuard BinOp.eql t x y (.bool p) (.bool q)).run P w = .ok () w from rfl]; exact this
 ·have : (binOp .neq t (.bool p) (.bool q)).run P w = .ok (.bool (!(p == q))) w := by show (do pure (.bool (!(← _))) : Sem Value).run P w = _; simp [he]
  rw [Sem.run_bind, show (eqGuard BinOp.neq t x y (.bool p) (.bool q)).run P w = .ok () w from rfl]; exact this
theorem Zom {d : Nat} {x y : Operand} {op : BinOp} {t t' : TypeId} {p q r : Bool} (hN : Nat.blt d N = true) (hx : s.ev x = .dat (.val (.bool p))) (hy : s.ev y = .dat (.val (.bool q))) (ht : Ymd P t = true) (hr : Ys4 op p q = some r) (h : Run P X N Q (.ops ops rem :: ks) (s.put (some d) (.dat (.val (.bool r))))) :
  Zbp P X N Q ops rem ks (some d) (.binOp op t x y t') s := Zdx hN (fun _ _ _ hd => Ybt hd rfl hx hy ht hr) h
theorem ConcAt.reBox (h : ConcAt X s a w ρ) {k : Nat} {t : TypeId} {cs cs' : List AV} (hk : s.tb k = some (.box t cs)) (hcs : ∀ vs, VRs w (FF X w s.tb ρ) s.tb ρ cs vs → VRs w (FF X w s.tb ρ) s.tb ρ cs' vs) : ConcAt X (s.set k (.box t cs')) a w ρ := by
 have hdom : ∀ k', Za6 ((s.set k (.box t cs')).tb k') = true → Za6 (s.tb k') = true := by
  intro k' hk'
  by_cases ek : k' = k
  ·subst ek; rw [hk]; rfl
  ·simp only [Sta.set, Zaw _ _ ek] at hk'; exact hk'
 have hs : ∀ b', FF X w s.tb ρ b' → FF X w (s.set k (.box t cs')).tb ρ b' := fun b' hF => ⟨hF.1, hF.2.1, fun k' hk' => hF.2.2 k' (hdom k' hk')⟩
 have hkk : ∀ k' x, s.tb k' = some x → ∃ x', (s.set k (.box t cs')).tb k' = some x' ∧ ((x'.kind = x.kind ∧ (ρ k').v = (ρ k').v) ∨ (x' = .dead ∧ x.kind ≠ 0)) := by
  intro k' x hx
  by_cases ek : k' = k
  ·subst ek; rw [hk] at hx; cases hx; exact ⟨.box t cs', Zah _ _ _, .inl ⟨rfl, rfl⟩⟩
  ·exact ⟨x, by simp only [Sta.set, Zaw _ _ ek]; exact hx, .inl ⟨rfl, rfl⟩⟩
 have hF : ∀ b, FF X w s.tb ρ b → w.heap[b]? = w.heap[b]? := fun _ _ => rfl
 refine ⟨h.size, h.defers, h.below, fun t' => (h.tmps t').keep hF hs hkk, fun k' x hx => ?_, fun k1 k2 b h1 h2 e1 e2 => h.apart k1 k2 b (hdom k1 h1) (hdom k2 h2) e1 e2, fun k' hk' hl' => h.lent k' hk' (hdom k' hl')⟩
 by_cases ek : k' = k
 ·subst ek
  simp only [Sta.set, Zah, Option.some.injEq] at hx
  subst hx
  obtain ⟨b, vs, e, g1, g2, g3, g4⟩ := h.blks k' _ hk
  exact ⟨b, vs, e, g1, g2, (hcs vs g3).keep hF hs hkk, g4⟩
 ·simp only [Sta.set, Zaw _ _ ek] at hx
  exact (h.blks k' x hx).keep hF hs hkk rfl (fun _ _ _ => rfl) (Nat.le_refl _)
theorem VRs.reset {F : Nat → Prop} {tb : Nat → Option Blk} {x : AV} : ∀ {cs : List AV} {vs : List Value} {i : Nat}, (∀ v, vs[i]? = some v → VR w F tb ρ x v) → VRs w F tb ρ cs vs → VRs w F tb ρ (cs.set i x) vs
 | [], _, i, _, h => by unfold VRs at h; subst h; simp [VRs]
 | y :: r, _, i, hx, h => by
  unfold VRs at h
  obtain ⟨v, r', rfl, h1, h2⟩ := h
  cases i with
  | zero => simp only [List.set_cons_zero]; unfold VRs; exact ⟨v, r', rfl, hx v rfl, h2⟩
  | succ i => simp only [List.set_cons_succ]; unfold VRs; exact ⟨v, r', rfl, h1, h2.reset (fun v hv => hx v (by simpa using hv))⟩
theorem Zde (k off key e n y : Nat) {t : TypeId} {cs : List AV} (hk : s.tb k = some (.box t cs)) (hoff : cs[off]? = some (.dat (.val (.slice none 0 0)))) (hkey : s.tb key = none)
  (h : Run P X N Q ks { tm := s.tm, tb := upd (upd s.tb key (some (.row e n y []))) k (some (.box t (cs.set off (.own key)))) }) (hk1 : Nat.blt key 1000 = true := by rfl) : Run P X N Q ks s := by
 refine Zdm (fun a w ⟨ρ, hc⟩ => ?_) h
 have hne : k ≠ key := fun e => by subst e; rw [hk] at hkey; cases hkey
 have hnew := hc.newBlk (Nat.blt_eq.mp hk1) hkey (Below.refl _ _) (blk := .row e n y []) (v := RV.of (.slice none 0 0)) (fun b e => by have e : none = some b := e; cases e) fun _ _ _ => ⟨[], by rw [Zah]; rfl, (fun b e => by rw [Zah] at e; have e : none = some b := e; cases e), by rw [Zah]; exact World.ownsRow_nil _ _ _ _, rfl, by simp, by simp⟩
 have hk2 : ({ s with tb := upd s.tb key (some (.row e n y [])) } : Sta).tb k = some (.box t cs) := by show upd s.tb key _ k = _; rw [Zaw _ _ hne]; exact hk
 refine ⟨_, hnew.reBox hk2 fun vs hvs => hvs.reset fun v hv => ?_⟩
 obtain ⟨u, hu, hr⟩ := hvs.at_ hoff
 rw [hv] at hu
 cases hu
 unfold VR Rep at hr
 unfold VR
 exact ⟨by rw [hr.1]; rfl, .inl ⟨_, Zah _ _ _, .inl rfl, by rw [Zah]; exact hr.1⟩⟩
theorem Yad {t n : Nat} {g : Bool} (ht : Zp1 P t = some (n, g)) (hc : ConcAt X s a w ρ) {p k off : Nat} (hp : s.tm p = .ptr k off) {T : TypeId} {cs : List AV} (hk : s.tb k = some (.box T cs)) {r : AV} (hf : Zrb g n off cs = some r) :
  ∃ v b, a.tmps.getD p undef = .pointer (some ⟨b, off, none⟩) ∧ (loadVar t ⟨b, off, none⟩).run P w = .ok v w ∧ VR w (FF X w s.tb ρ) s.tb ρ r v := by
 have h2 := hc.tmps p
 rw [hp] at h2
 unfold VR at h2
 obtain ⟨T', cs', b, hk', hρ, e⟩ := h2
 obtain ⟨b', vs, hρ', hB, hb, hvs, h1⟩ := hc.blks k _ hk
 have hρ2 : Value.pointer (some ⟨b, 0, none⟩) = .pointer (some ⟨b', 0, none⟩) := hρ.symm.trans (congrArg RV.v hρ')
 simp only [Value.pointer.injEq, Option.some.injEq, Addr.mk.injEq, and_true] at hρ2
 subst hρ2
 have hl := Zer hb off
 cases g with
 | true =>
  simp only [Zrb, if_true] at hf
  split at hf
  ·rename_i hle
   simp only [Option.some.injEq] at hf
   subst hf
   have hv := (hvs.drop off).take n
   have h1' : ∀ u ∈ (vs.drop off).take n, u.oneCell' = true := fun u hu => h1 u (List.mem_of_mem_drop (List.mem_of_mem_take hu))
   exact ⟨_, b, e, Zdz ht (cs := (vs.drop off).take n) (by rw [List.length_take, List.length_drop, hvs.length]; omega) (hl.take n), Zmx hv h1'⟩
  ·cases hf
 | false =>
  simp only [Zrb, Bool.false_eq_true, if_false] at hf
  obtain ⟨v, hv, hr⟩ := hvs.at_ hf
  exact ⟨v, b, e, Zct ht (by rw [cell_of_row w b off _ _ _ hb]; simpa using hv), hr⟩
theorem Zl4 {fn : Func} {p t : Nat} (hf : fn.results = #[.cell p t]) {k off n T : Nat} {g : Bool} {cs : List AV} {d r : PD} (hp : s.tm p = .ptr k off) (hk : s.tb k = some (.box T cs)) [ht : VI P t n g] (hs : Zrb g n off cs = some (.dat d)) (hle : PLe d r) : Yb3 P fn r s := by
 intro X a w ⟨ρ0, hc0⟩
 obtain ⟨v, b, e1, e2, e3⟩ := Yad ht.out hc0 hp hk hs
 have e0 : a.tmps[p]?.getD undef = .pointer (some ⟨b, off, none⟩) := by rw [← Array.getD_eq_getD_getElem?]; exact e1
 refine ⟨v, by simp [results, hf, e0, asAddr, e2], fun ρ hc => ?_⟩
 obtain ⟨v', b', e1', e2', e3'⟩ := Yad ht.out hc hp hk hs
 rw [e1] at e1'
 simp only [Value.pointer.injEq, Option.some.injEq, Addr.mk.injEq, and_true] at e1'
 subst e1'
 rw [e2] at e2'
 cases e2'
 unfold VR at e3'
 exact hle _ _ _ e3'
end
end Go.Proofs.YtgmahieoiifpfaaGreat
namespace Go.Proofs.YtgmahieoiifpfaaGreat
open Go.RowKit
def Fits (d : PD) : Prop := ∃ w F v, Rep w F d v
theorem Fits.agg {l : List PD} (h : Fits (.agg l)) {d : PD} (hd : d ∈ l) : Fits d := by
 obtain ⟨w, F, v, h⟩ := h
 unfold Rep at h
 obtain ⟨vs, _, hr, _⟩ := h
 obtain ⟨i, hi⟩ := List.mem_iff_getElem?.1 hd
 obtain ⟨u, _, hu⟩ := hr.at_ hi
 exact ⟨w, F, u, hu⟩
theorem Fits.aggAt {l : List PD} (h : Fits (.agg l)) (i : Nat) {d : PD} (hd : l[i]? = some d) : Fits d := h.agg (List.mem_of_getElem? hd)
theorem Fits.sl {n y : Nat} {l : List PD} (h : Fits (.sl n y l)) : l.length * y ≤ 140737488351232 ∧ l.length ≤ 140737488351232 ∧ ∀ d ∈ l, Fits d := by
 obtain ⟨w, F, v, h⟩ := h
 unfold Rep at h
 obtain ⟨a, c, _, _, h1, h2, h3⟩ := h
 refine ⟨h1, h2, fun d hd => ?_⟩
 rcases h3 with rfl | ⟨b, o, _, _, hr⟩
 ·cases hd
 ·obtain ⟨i, hi⟩ := List.mem_iff_getElem?.1 hd
  obtain ⟨u, hu, _⟩ := hr.at_ hi
  exact ⟨w, F, u, hu⟩
theorem Fits.ptr {d : PD} (h : Fits (.ptr d)) : Fits d := by
 obtain ⟨w, F, v, h⟩ := h
 unfold Rep at h
 obtain ⟨b, o, u, _, _, hu, _⟩ := h
 exact ⟨w, F, u, hu⟩
section
variable {P : Program} {X : Base} {N : Nat} {Q : Exit → Act → World → Prop} {s s' : Sta} {ks : List Itm}
theorem Zay {f : FuncId} {ds : List PD} {r : PD} (h : (∀ d ∈ ds, Fits d) → PCall P f ds r) : PCall P f ds r := by
 intro w F vs hF hv
 refine h (fun d hd => ?_) w F vs hF hv
 obtain ⟨i, hi⟩ := List.mem_iff_getElem?.1 hd
 obtain ⟨u, _, hu⟩ := hv.at_ hi
 exact ⟨w, F, u, hu⟩
end
end Go.Proofs.YtgmahieoiifpfaaGreat
end
