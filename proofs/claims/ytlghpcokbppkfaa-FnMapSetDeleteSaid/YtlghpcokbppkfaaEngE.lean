import Derived.Test.YtlghpcokbppkfaaEngD
import Derived.Test.YtlghpcokbppkfaaConv
import Derived.Test.YtlghpcokbppkfaaFromMap
import Derived.Test.YtlghpcokbppkfaaAsX
import Derived.Test.YtlghpcokbppkfaaRange
set_option linter.unusedVariables false
/- Trees' lists and maps as data: length, items, lookups, going over a map. -/
namespace Go.Proofs.Ytlghpcokbppkfaa
open Go.RowKit
open Go.ChangeMaps (setBlock)
set_option linter.unusedSimpArgs false

/-- The items of a list of the package. -/
def dvLs (l : List JV) : PD := .opq {
  rel := fun w F v => ∃ a c, v = .slice a l.length c ∧ l.length * 16 ≤ 140737488351232 ∧ (l = [] ∨ ∃ b o, F b ∧ a = some ⟨b, o, none⟩ ∧ IsJs w F l b o) ∧ ∀ x ∈ l, JOk x,
  one := fun _ _ _ ⟨_, _, e, _⟩ => by rw [e]; rfl,
  keep := fun _ _ _ _ _ h hs ⟨a, c, e, h1, h2, h3⟩ => ⟨a, c, e, h1, h2.imp id (fun ⟨b, o, hb, ha, hx⟩ => ⟨b, o, hs b hb, ha, IsJs.keep h hs l b o hb hx⟩), h3⟩ }
/-- The fields of a map of the package. -/
def dvMm (m : List (ByteArray × JV)) : PD := .opq {
  rel := fun w F v => ∃ b es cl, v = .map (some b) ∧ F b ∧ w.heap[b]? = some (.map es cl) ∧ MapKept.Stamped es cl ∧ m.length < maxLen ∧ IsEs w F m es.toList ∧ JOk (.map m),
  one := fun _ _ _ ⟨_, _, _, e, _⟩ => by rw [e]; rfl,
  keep := fun _ _ _ _ _ h hs ⟨b, es, cl, e, hb, hh, h1, h2, h3, h4⟩ => ⟨b, es, cl, e, hs b hb, (h b hb).trans hh, h1, h2, IsEs.keep h hs m es.toList h3, h4⟩ }
/-- A tree, as far as its head goes. -/
def dvX : JV → PD
  | .null => .val .nilIface
  | .bool b => .iface 4 (.val (.bool b))
  | .int n => .iface 2 (.val (.int .i64 n))
  | .flt f => .iface 22 (.val (.float .f64 f))
  | .str s => .iface 9 (.val (.string s))
  | .list l => .iface 106 (dvLs l)
  | .map m => .iface 164 (dvMm m)
theorem dvX_le (j : JV) : PLe (pdJ j) (dvX j) := by
  intro w F v h
  unfold pdJ Rep at h
  obtain ⟨h, hok⟩ := h
  cases j with
  | null => unfold IsJ at h; unfold dvX Rep; exact ⟨h, trivial⟩
  | bool b => unfold IsJ at h; unfold dvX Rep; exact ⟨_, h, by unfold Rep; exact ⟨rfl, trivial⟩⟩
  | int n => unfold IsJ at h; unfold dvX Rep; exact ⟨_, h.1, by unfold Rep; exact ⟨rfl, h.2⟩⟩
  | flt n => unfold IsJ at h; unfold dvX Rep; exact ⟨_, h.1, by unfold Rep; exact ⟨rfl, h.2⟩⟩
  | str n => unfold IsJ at h; unfold dvX Rep; exact ⟨_, h.1, by unfold Rep; exact ⟨rfl, h.2⟩⟩
  | list l =>
    unfold IsJ at h
    obtain ⟨a, c, e, h1, h2⟩ := h
    unfold dvX Rep
    refine ⟨_, e, ?_⟩
    unfold dvLs Rep
    exact ⟨a, c, rfl, h1, h2, JOks_mem (by unfold JOk at hok; exact hok.2)⟩
  | map m =>
    unfold IsJ at h
    obtain ⟨b, es, cl, e, hb, hh, h1, h2, h3⟩ := h
    unfold dvX Rep
    refine ⟨_, e, ?_⟩
    unfold dvMm Rep
    exact ⟨b, es, cl, rfl, hb, hh, h1, h2, h3, hok⟩

section
variable {P : Program}
/-- Arguments that say more. -/
theorem PCall.le {f : FuncId} {ds ds' : List PD} {r : PD} (h : ∀ w F vs, Reps w F ds vs → Reps w F ds' vs) (hp : PCall P f ds' r) : PCall P f ds r := fun w F vs hF hv => hp w F vs hF (h w F vs hv)
theorem PCall.ex {f : FuncId} {ds : List PD} {r : PD} (h : ∀ w F vs, Reps w F ds vs → PCall P f ds r) : PCall P f ds r := fun w F vs hF hv => h w F vs hv w F vs hF hv
theorem Reps.cons1 {w : World} {F : Nat → Prop} {d d' : PD} {ds : List PD} {vs : List Value} (h : PLe d d') (hv : Reps w F (d :: ds) vs) : Reps w F (d' :: ds) vs := by
  unfold Reps at hv ⊢
  obtain ⟨v, r, e, h1, h2⟩ := hv
  exact ⟨v, r, e, h _ _ _ h1, h2⟩
theorem PLe.agg1 {d d' : PD} (h : PLe d d') : PLe (.agg [d]) (.agg [d']) := by
  intro w F v hv
  unfold Rep at hv ⊢
  obtain ⟨vs, e, h1, h2⟩ := hv
  exact ⟨vs, e, Reps.cons1 h h1, h2⟩
/-- The struct around a tree, as far as its head goes. -/
theorem PCall.vu {f : FuncId} {j : JV} {ds : List PD} {r : PD} (h : PCall P f (.agg [dvX j] :: ds) r) : PCall P f (.agg [pdJ j] :: ds) r := h.le (fun _ _ _ hv => Reps.cons1 (PLe.agg1 (dvX_le j)) hv)

variable {X : Base} {N : Nat} {Q : Exit → Act → World → Prop} {ops : Array Oper} {rem : List Nat} {ks : List Itm} {s s' : Sta} {a : Act} {w w' : World} {ρ : Nat → RV}
theorem NilIs.ifc {T : Nat} {d : PD} : NilIs true (.iface T d) false := fun w F v h => by
  unfold Rep at h
  obtain ⟨u, rfl, _⟩ := h
  exact ⟨_, _, rfl⟩
/-! ### Lists -/
theorem op_lenJ {o : Oper} (hd : dstOk X.N o.dst = true) {x : Operand} {t : TypeId} (ho : o.op = .call { callee := .builtin .len, args := #[x], argTypes := #[t] }) {e n y : Nat} (ht : slcI P t = some (e, n, y)) {l : List JV} (hx : s.ev x = .dat (dvLs l)) :
    OpS P X o s (s.put o.dst (.dat (.val (.int .i64 l.length)))) := by
  refine opS_value hd fun a w ρ hc => ?_
  have h2 := hc.ev x
  rw [hx] at h2
  unfold VR dvLs Rep at h2
  obtain ⟨a', c, e1, hby, hcase, _⟩ := h2
  refine ⟨.int .i64 l.length, ?_, by unfold VR Rep; exact ⟨rfl, wf_small (by omega)⟩⟩
  obtain ⟨_, hu, _⟩ := slcI_spec ht
  simp [execOp, ho, resolve, invoke, builtin, e1, run_len hu, goInt]
theorem k_lenJ {d : Nat} {x : Operand} {t e n y : Nat} {l : List JV} (hN : Nat.blt d N = true) (hx : s.ev x = .dat (dvLs l)) [ht : SI P t e n y] (h : Run P X N Q (.ops ops rem :: ks) (s.put (some d) (.dat (.val (.int .i64 l.length))))) : RunK P X N Q ops rem ks (some d) (.call { callee := .builtin .len, args := #[x], argTypes := #[t] }) s := k_of hN (fun _ _ _ hd => op_lenJ hd rfl ht.out hx) h
theorem d_lenJ {ops : List Oper} {d : Nat} {x : Operand} {t e n y : Nat} {l : List JV} (hN : Nat.blt d N = true) (hx : s.ev x = .dat (dvLs l)) [ht : SI P t e n y] : TrK P X N ops (some d) (.call { callee := .builtin .len, args := #[x], argTypes := #[t] }) (Eff.put (some d) (.dat (.val (.int .i64 l.length)))) s (s.put (some d) (.dat (.val (.int .i64 l.length)))) := act_val hN fun s' _ _ _ _ hd hev htb => op_lenJ hd rfl ht.out ((hev _ (by simp [Op.operands, Call.operands])).trans hx)
theorem op_indexJ {o : Oper} (hd : dstOk X.N o.dst = true) {t : TypeId} {x ix : Operand} (ho : o.op = .indexAddr t x ix) {l : List JV} (hx : s.ev x = .dat (dvLs l)) {k : IntKind} {i : Nat} (hi : s.ev ix = .dat (.val (.int k (i : Int))))
    {e y' : Nat} (ht : slcI P t = some (e, 1, y')) {j : JV} (hl : l[i]? = some j) : OpS P X o s (s.put o.dst (.dat (.ptr (pdJ j)))) := by
  refine opS_value hd fun a w ρ hc => ?_
  have h2 := hc.ev x
  rw [hx] at h2
  unfold VR dvLs Rep at h2
  have h3 := hc.ev ix
  rw [hi] at h3
  unfold VR Rep at h3
  obtain ⟨a', c, e1, hby, hcase, hok⟩ := h2
  obtain ⟨inf, hu, hinf, hsz, _⟩ := slcI_spec ht
  have hlt : i < l.length := (List.getElem?_eq_some_iff.1 hl).1
  rcases hcase with rfl | ⟨b, off, hF, ha, hr⟩
  · simp at hl
  obtain ⟨u, hu1, hun⟩ := hr.at_ hl
  subst ha
  refine ⟨.pointer (some ⟨b, off + i, none⟩), ?_, ?_⟩
  · simp [execOp, ho, e1, h3.1, Instr.indexAt, asIntOf, run_underlying hu, hlt, sizeOf, typeInfo, hinf, hsz, Addr_add]
  · unfold VR Rep
    refine ⟨b, off + i, u, rfl, hF, by unfold pdJ Rep; exact ⟨hun, hok j (List.mem_of_getElem? hl)⟩, ?_⟩
    rw [one_toList hun.oneCell]
    intro q v hq
    cases q with
    | zero => simp at hq; subst hq; exact hu1
    | succ q => simp at hq
theorem k_indexJ {d : Nat} {x ix : Operand} {t e y' : Nat} {l : List JV} {k : IntKind} {i : Nat} {j : JV} (hN : Nat.blt d N = true) (hx : s.ev x = .dat (dvLs l)) (hi : s.ev ix = .dat (.val (.int k (i : Int)))) [ht : SI P t e 1 y'] (hl : l[i]? = some j) (h : Run P X N Q (.ops ops rem :: ks) (s.put (some d) (.dat (.ptr (pdJ j))))) : RunK P X N Q ops rem ks (some d) (.indexAddr t x ix) s := k_of hN (fun _ _ _ hd => op_indexJ hd rfl hx hi ht.out hl) h
theorem d_indexJ {ops : List Oper} {d : Nat} {x ix : Operand} {t e y' : Nat} {l : List JV} {k : IntKind} {i : Nat} {j : JV} (hN : Nat.blt d N = true) (hx : s.ev x = .dat (dvLs l)) (hi : s.ev ix = .dat (.val (.int k (i : Int)))) [ht : SI P t e 1 y'] (hl : l[i]? = some j) : TrK P X N ops (some d) (.indexAddr t x ix) (Eff.put (some d) (.dat (.ptr (pdJ j)))) s (s.put (some d) (.dat (.ptr (pdJ j)))) := act_val hN fun s' _ _ _ _ hd hev htb => op_indexJ hd rfl ((hev _ (by simp [Op.operands])).trans hx) ((hev _ (by simp [Op.operands])).trans hi) ht.out hl
/-! ### Maps -/
def mapT (P : Program) (t : TypeId) : Option (Nat × Nat) := match P.underlying t with
  | some (.map k e) => some (k, e)
  | _ => none
theorem mapT_spec {t k e : Nat} (h : mapT P t = some (k, e)) : P.underlying t = some (.map k e) := by
  unfold mapT at h
  split at h
  · simp only [Option.some.injEq, Prod.mk.injEq] at h; obtain ⟨rfl, rfl⟩ := h; assumption
  · cases h
/-- A map type from strings to interface values. -/
class MTI (P : Program) (t : Nat) (k : outParam Nat) (e : outParam Nat) : Prop where
  out : mapT P t = some (k, e)
  str : P.underlying k = some .string
  zer : zer1 P e = some .nilIface
theorem op_lenM {o : Oper} (hd : dstOk X.N o.dst = true) {x : Operand} {t : TypeId} (ho : o.op = .call { callee := .builtin .len, args := #[x], argTypes := #[t] }) {k e : Nat} (ht : mapT P t = some (k, e)) {m : List (ByteArray × JV)} (hx : s.ev x = .dat (dvMm m)) :
    OpS P X o s (s.put o.dst (.dat (.val (.int .i64 m.length)))) := by
  refine opS_value hd fun a w ρ hc => ?_
  have h2 := hc.ev x
  rw [hx] at h2
  unfold VR dvMm Rep at h2
  obtain ⟨b, es, cl, e1, hb, hh, hs, hl, he, hok⟩ := h2
  have hlen : es.size = m.length := by have := he.length; simpa using this
  refine ⟨.int .i64 m.length, ?_, by unfold VR Rep; exact ⟨rfl, WalkArith.wf_i64 (by unfold maxLen at hl; omega)⟩⟩
  have hu := mapT_spec ht
  simp [execOp, ho, resolve, invoke, builtin, e1, Builtin.len_, run_underlying hu, MapKept.run_getObj_map hh, goInt, hlen, Result.andThen]
theorem k_lenM {d : Nat} {x : Operand} {t k e : Nat} {m : List (ByteArray × JV)} (hN : Nat.blt d N = true) (hx : s.ev x = .dat (dvMm m)) [ht : MTI P t k e] (h : Run P X N Q (.ops ops rem :: ks) (s.put (some d) (.dat (.val (.int .i64 m.length))))) : RunK P X N Q ops rem ks (some d) (.call { callee := .builtin .len, args := #[x], argTypes := #[t] }) s := k_of hN (fun _ _ _ hd => op_lenM hd rfl ht.out hx) h
/-- What stands under a key. -/
def lkJ : List (ByteArray × JV) → ByteArray → Option JV
  | [], _ => none
  | x :: r, k => if x.1 = k then some x.2 else lkJ r k
theorem IsEs.lk {F : Nat → Prop} {k : ByteArray} : ∀ {m : List (ByteArray × JV)} {es : List MapEntry}, IsEs w F m es → (∃ j e, lkJ m k = some j ∧ e ∈ es ∧ e.key = .string k ∧ IsJ w F j e.val ∧ (k, j) ∈ m) ∨ (lkJ m k = none ∧ ∀ e ∈ es, e.key ≠ .string k)
  | [], es, h => by unfold IsEs at h; subst h; exact .inr ⟨rfl, by simp⟩
  | x :: r, es, h => by
    unfold IsEs at h
    obtain ⟨e, r', rfl, hke, _, hx, hr⟩ := h
    unfold lkJ
    by_cases hk : x.1 = k
    · rw [if_pos hk]; exact .inl ⟨x.2, e, rfl, by simp, by rw [hke, hk], hx, by rw [← hk]; simp⟩
    · rw [if_neg hk]
      rcases IsEs.lk hr with ⟨j, e', h1, h2, h3, h4, h5⟩ | ⟨h1, h2⟩
      · exact .inl ⟨j, e', h1, by simp [h2], h3, h4, by simp [h5]⟩
      · refine .inr ⟨h1, fun e' he' => ?_⟩
        rcases List.mem_cons.1 he' with rfl | he'
        · rw [hke]; intro e; injection e with e; exact hk e
        · exact h2 e' he'
theorem run_look_hit {t kt et r cl : Nat} {es : Array MapEntry} {k : ByteArray} (hm : P.underlying t = some (.map kt et)) (hd : P.underlying kt = some .string)
    (hb : w.heap[r]? = some (.map es cl)) (hs : MapKept.Stamped es cl) (hks : ∀ x ∈ es.toList, MapKept.IsKey .string x.key) {e : MapEntry} (he : e ∈ es.toList) (hke : e.key = .string k) :
    (Instr.lookup t (.map (some r)) (.string k) true).run P w = .ok (.tuple #[e.val, .bool true]) w := by
  have hk : MapKept.IsKey .string (.string k) := trivial
  rcases MapKept.findNow_spec hk es.toList 0 hks with ⟨h1, h2⟩ | ⟨j, e', h1, h2, h3⟩
  · exact absurd hke (h2 e he)
  · have : e' = e := by
      have hkn : (es.toList.map (·.key)).Nodup := hs.2.2
      obtain ⟨i, hi⟩ := List.getElem?_of_mem he
      have hij : j = i := by
        have hi' : (es.toList.map (·.key))[j]? = some (.string k) := by rw [List.getElem?_map, h2, Option.map_some, h3]
        have hj' : (es.toList.map (·.key))[i]? = some (.string k) := by rw [List.getElem?_map, hi, Option.map_some, hke]
        exact (List.getElem?_inj (List.getElem?_eq_some_iff.1 hi').1 hkn).1 (hi'.trans hj'.symm)
      rw [hij, hi] at h2
      exact (Option.some.inj h2).symm
    subst this
    simp [Instr.lookup, run_underlying hm, MapKept.run_getObj_map hb, MapKept.run_checkKey hd hk, MapKept.run_findKey hd h1, Result.andThen]
theorem run_look_miss {t kt et r cl : Nat} {es : Array MapEntry} {k : ByteArray} {z : Value} (hm : P.underlying t = some (.map kt et)) (hd : P.underlying kt = some .string) (hz : zer1 P et = some z)
    (hb : w.heap[r]? = some (.map es cl)) (hks : ∀ x ∈ es.toList, MapKept.IsKey .string x.key) (he : ∀ e ∈ es.toList, e.key ≠ .string k) :
    (Instr.lookup t (.map (some r)) (.string k) true).run P w = .ok (.tuple #[z, .bool false]) w := by
  have hk : MapKept.IsKey .string (.string k) := trivial
  rcases MapKept.findNow_spec hk es.toList 0 hks with ⟨h1, h2⟩ | ⟨j, e', h1, h2, h3⟩
  · simp [Instr.lookup, run_underlying hm, MapKept.run_getObj_map hb, MapKept.run_checkKey hd hk, MapKept.run_findKey hd h1, run_zer1 hz, Result.andThen]
  · exact absurd h3 (he e' (List.mem_of_getElem? h2))
def lkD (o : Option JV) : PD := match o with
  | some j => .tup [pdJ j, .val (.bool true)]
  | none => .tup [.val .nilIface, .val (.bool false)]
theorem op_lookM {o : Oper} (hd : dstOk X.N o.dst = true) {x y : Operand} {t : TypeId} (ho : o.op = .lookup t x y true) {kt et : Nat} (ht : MTI P t kt et) {m : List (ByteArray × JV)} {k : ByteArray} (hx : s.ev x = .dat (dvMm m)) (hy : s.ev y = .dat (.val (.string k))) :
    OpS P X o s (s.put o.dst (.dat (lkD (lkJ m k)))) := by
  refine opS_value hd fun a w ρ hc => ?_
  have h2 := hc.ev x
  rw [hx] at h2
  unfold VR dvMm Rep at h2
  have h3 := hc.ev y
  rw [hy] at h3
  unfold VR Rep at h3
  obtain ⟨b, es, cl, e1, hb, hh, hs, hl, he, hok⟩ := h2
  have hm := mapT_spec ht.out
  have hks := he.keys
  rcases he.lk (k := k) with ⟨j, e, h4, h5, h6, h7, h8⟩ | ⟨h4, h5⟩
  · rw [h4]
    refine ⟨.tuple #[e.val, .bool true], by simp [execOp, ho, e1, h3.1, run_look_hit hm ht.str hh hs hks h5 h6], ?_⟩
    unfold VR lkD Rep
    refine ⟨[e.val, .bool true], rfl, ?_⟩
    unfold Reps
    refine ⟨_, _, rfl, by unfold pdJ Rep; exact ⟨h7, JOkm_mem (by unfold JOk at hok; exact hok.2.2) _ h8⟩, ?_⟩
    unfold Reps
    exact ⟨_, [], rfl, by unfold Rep; exact ⟨rfl, trivial⟩, by unfold Reps; rfl⟩
  · rw [h4]
    exact ⟨.tuple #[.nilIface, .bool false], by simp [execOp, ho, e1, h3.1, run_look_miss hm ht.str ht.zer hh hks h5], by unfold VR lkD; exact rep_zf rfl⟩
theorem k_lookM {d : Nat} {x y : Operand} {t kt et : Nat} {m : List (ByteArray × JV)} {k : ByteArray} {o : Option JV} (hN : Nat.blt d N = true) (hx : s.ev x = .dat (dvMm m)) (hy : s.ev y = .dat (.val (.string k))) [ht : MTI P t kt et] (ho : lkJ m k = o) (h : Run P X N Q (.ops ops rem :: ks) (s.put (some d) (.dat (lkD o)))) : RunK P X N Q ops rem ks (some d) (.lookup t x y true) s := k_of hN (fun _ _ _ hd => by subst ho; exact op_lookM hd rfl ht hx hy) h
/-! ### Going over a map -/
/-- The iterator over a map, where the items 'done' have come out. -/
def itR (m done : List (ByteArray × JV)) : Res where
  rel := fun w F O v => ∃ bm r es cl dn, v = .pointer (some ⟨r, 0, none⟩) ∧ F bm ∧ O r ∧ (∀ b, O b → b = r) ∧ Rng w bm r es cl dn ∧ MapKept.Stamped es cl ∧ IsEs w F m es.toList ∧ JOk (.map m) ∧ IsEs w F done dn ∧ (∀ y ∈ done, y ∈ m)
  d := .opq { rel := fun _ _ v => v.oneCell' = true, one := fun _ _ _ h => h, keep := fun _ _ _ _ _ _ _ h => h }
  one := fun _ _ _ _ ⟨_, _, _, _, _, e, _⟩ => by rw [e]; rfl
  keep := fun w w' F F' O v h hs hO ⟨bm, r, es, cl, dn, e, h1, h2, h3, h4, h5, h6, h7, h8, h9⟩ => ⟨bm, r, es, cl, dn, e, hs bm h1, h2, h3, h4.of_eq (h bm h1) (hO r h2), h5, IsEs.keep h hs _ _ h6, h7, IsEs.keep h hs _ _ h8, h9⟩
  frz := fun _ _ _ _ v _ _ ⟨_, _, _, _, _, e, _⟩ => by unfold Rep; show v.oneCell' = true; rw [e]; rfl
theorem ConcAt.setRes (h : ConcAt X s a w ρ) {k : Nat} {R R' : Res} (hk : s.tb k = some (.res R)) (hw : Below 0 w w') (hsz : w'.heap.size = w.heap.size) (hoth : ∀ b, ¬ (ρ k).fp b → w'.heap[b]? = w.heap[b]?)
    (hR : R'.rel w' (FF X w s.tb ρ) (ρ k).fp (ρ k).v) : ConcAt X (s.set k (.res R')) a w' ρ := by
  have hlk : liveB (s.tb k) = true := by rw [hk]; rfl
  have hF : ∀ b', FF X w s.tb ρ b' → w'.heap[b']? = w.heap[b']? := fun b' hF => hoth b' (hF.2.2 k hlk)
  have hdom : ∀ k', liveB ((s.set k (.res R')).tb k') = true → liveB (s.tb k') = true := by
    intro k' hk'
    by_cases ek : k' = k
    · subst ek; exact hlk
    · simp only [Sta.set, upd_ne _ _ ek] at hk'; exact hk'
  have hs : ∀ b', FF X w s.tb ρ b' → FF X w' (s.set k (.res R')).tb ρ b' := fun b' hF => ⟨hF.1, by rw [hsz]; exact hF.2.1, fun k' hk' => hF.2.2 k' (hdom k' hk')⟩
  have hkk : ∀ k' x, s.tb k' = some x → ∃ x', (s.set k (.res R')).tb k' = some x' ∧ ((x'.kind = x.kind ∧ (ρ k').v = (ρ k').v) ∨ (x' = .dead ∧ x.kind ≠ 0)) := by
    intro k' x hx
    by_cases ek : k' = k
    · subst ek; rw [hk] at hx; cases hx; exact ⟨.res R', upd_same _ _ _, .inl ⟨rfl, rfl⟩⟩
    · exact ⟨x, by simp only [Sta.set, upd_ne _ _ ek]; exact hx, .inl ⟨rfl, rfl⟩⟩
  have hblk := h.blks k _ hk
  refine ⟨h.size, h.defers, h.below.step hw.os hw.tape hw.output (by rw [hsz]; exact Nat.le_refl _) (fun j _ hj => hoth j (fun e => hj (hblk.2 j e).1)), fun t' => (h.tmps t').keep hF hs hkk, fun k' x hx => ?_, fun k1 k2 b h1 h2 e1 e2 => h.apart k1 k2 b (hdom k1 h1) (hdom k2 h2) e1 e2, fun k' hk' hl' => h.lent k' hk' (hdom k' hl')⟩
  by_cases ek : k' = k
  · subst ek
    simp only [Sta.set, upd_same, Option.some.injEq] at hx
    subst hx
    exact ⟨R'.keep _ _ _ _ _ _ (fun _ _ => rfl) hs (fun _ _ => rfl) hR, fun b hb => ⟨(hblk.2 b hb).1, by rw [hsz]; exact (hblk.2 b hb).2⟩⟩
  · simp only [Sta.set, upd_ne _ _ ek] at hx
    exact (h.blks k' x hx).keep hF hs hkk rfl (fun b' hl hf => hoth b' fun e => ek (h.apart k' k b' (by rw [hx]; exact hl) hlk hf e)) (by rw [hsz]; exact Nat.le_refl _)
theorem IsEs.mem {F : Nat → Prop} : ∀ {m : List (ByteArray × JV)} {es : List MapEntry}, IsEs w F m es → (∀ y ∈ m, ∃ e ∈ es, e.key = .string y.1 ∧ y.1.size ≤ maxLen ∧ IsJ w F y.2 e.val) ∧ ∀ e ∈ es, ∃ y ∈ m, e.key = .string y.1 ∧ y.1.size ≤ maxLen ∧ IsJ w F y.2 e.val
  | [], es, h => by unfold IsEs at h; subst h; exact ⟨by simp, by simp⟩
  | x :: r, es, h => by
    unfold IsEs at h
    obtain ⟨e, r', rfl, hke, hz, hx, hr⟩ := h
    obtain ⟨h1, h2⟩ := IsEs.mem hr
    refine ⟨fun y hy => ?_, fun e' he' => ?_⟩
    · rcases List.mem_cons.1 hy with rfl | hy
      · exact ⟨e, by simp, hke, hz, hx⟩
      · obtain ⟨e', he', h'⟩ := h1 y hy
        exact ⟨e', by simp [he'], h'⟩
    · rcases List.mem_cons.1 he' with rfl | he'
      · exact ⟨x, by simp, hke, hz, hx⟩
      · obtain ⟨y, hy, h'⟩ := h2 e' he'
        exact ⟨y, by simp [hy], h'⟩
theorem IsEs.snoc {F : Nat → Prop} {y : ByteArray × JV} {e : MapEntry} (hke : e.key = .string y.1) (hz : y.1.size ≤ maxLen) (hj : IsJ w F y.2 e.val) : ∀ {m : List (ByteArray × JV)} {es : List MapEntry}, IsEs w F m es → IsEs w F (m ++ [y]) (es ++ [e])
  | [], es, h => by
    unfold IsEs at h; subst h
    show IsEs w F [y] [e]
    unfold IsEs
    exact ⟨e, [], rfl, hke, hz, hj, by unfold IsEs; rfl⟩
  | x :: r, es, h => by
    unfold IsEs at h
    obtain ⟨e', r', rfl, h1, h2, h3, hr⟩ := h
    show IsEs w F (x :: (r ++ [y])) (e' :: (r' ++ [e]))
    unfold IsEs
    exact ⟨e', _, rfl, h1, h2, h3, IsEs.snoc hke hz hj hr⟩
theorem key_inj {es : List MapEntry} (h : (es.map (·.key)).Nodup) : ∀ {e e' : MapEntry}, e ∈ es → e' ∈ es → e.key = e'.key → e = e' := by
  induction es with
  | nil => intro _ _ h; cases h
  | cons a r ih =>
    simp only [List.map_cons, List.nodup_cons] at h
    intro e e' he he' hb
    rcases List.mem_cons.1 he with h1 | h1 <;> rcases List.mem_cons.1 he' with h2 | h2
    · rw [h1, h2]
    · exact absurd (by rw [← h1, hb]; exact List.mem_map_of_mem (f := (·.key)) h2) h.1
    · exact absurd (by rw [← h2, ← hb]; exact List.mem_map_of_mem (f := (·.key)) h1) h.1
    · exact ih h.2 h1 h2 hb
theorem fst_inj {m : List (ByteArray × JV)} (h : (m.map (·.1)).Nodup) : ∀ {e e' : ByteArray × JV}, e ∈ m → e' ∈ m → e.1 = e'.1 → e = e' := by
  induction m with
  | nil => intro _ _ h; cases h
  | cons a r ih =>
    simp only [List.map_cons, List.nodup_cons] at h
    intro e e' he he' hb
    rcases List.mem_cons.1 he with h1 | h1 <;> rcases List.mem_cons.1 he' with h2 | h2
    · rw [h1, h2]
    · exact absurd (by rw [← h1, hb]; exact List.mem_map_of_mem (f := (·.1)) h2) h.1
    · exact absurd (by rw [← h2, ← hb]; exact List.mem_map_of_mem (f := (·.1)) h1) h.1
    · exact ih h.2 h1 h2 hb
def itD (y : ByteArray × JV) : PD := .tup [.val (.string y.1), pdJ y.2]
theorem rep_tup3 {F : Nat → Prop} {p q r : PD} {x y z : Value} (h1 : Rep w F p x) (h2 : Rep w F q y) (h3 : Rep w F r z) : Rep w F (.tup [p, q, r]) (.tuple #[x, y, z]) := by
  unfold Rep
  refine ⟨[x, y, z], rfl, ?_⟩
  unfold Reps; refine ⟨x, _, rfl, h1, ?_⟩
  unfold Reps; refine ⟨y, _, rfl, h2, ?_⟩
  unfold Reps; exact ⟨z, _, rfl, h3, by unfold Reps; rfl⟩
theorem rep_tup2 {F : Nat → Prop} {p q : PD} {x y : Value} (h1 : Rep w F p x) (h2 : Rep w F q y) : Rep w F (.tup [p, q]) (.tuple #[x, y]) := by
  unfold Rep
  refine ⟨[x, y], rfl, ?_⟩
  unfold Reps; refine ⟨x, _, rfl, h1, ?_⟩
  unfold Reps; exact ⟨y, _, rfl, h2, by unfold Reps; rfl⟩
theorem rep_str {F : Nat → Prop} {k : ByteArray} (h : k.size ≤ maxLen) : Rep w F (.val (.string k)) (.string k) := by unfold Rep; exact ⟨rfl, h⟩
theorem k_rangeM {d : Nat} {x : Operand} {t kt et : Nat} {m : List (ByteArray × JV)} (hN : Nat.blt d N = true) (hd0 : s.tb d = none) (hx : s.ev x = .dat (dvMm m)) [ht : MTI P t kt et] (h : Run P X N Q (.ops ops rem :: ks) (s.new d (.res (itR m [])) (.own d))) : RunK P X N Q ops rem ks (some d) (.range t x) s := ⟨fun ty pos aft => ⟨fun hX a w ⟨ρ, hc⟩ => by
  have hdN : d < X.N := by rw [hX.1]; simpa [Nat.blt_eq] using hN
  have h2 := hc.ev x
  rw [hx] at h2
  unfold VR dvMm Rep at h2
  obtain ⟨bm, es, cl, e1, hb, hh, hs, hl, he, hok⟩ := h2
  have hm := mapT_spec ht.out
  have hlt : bm < w.heap.size := blk_lt hh
  have hr : (execOp a.eval ⟨some d, .range t x, ty, pos, aft, none⟩).run P w = .ok (.value (.pointer (some ⟨w.heap.size, 0, none⟩))) (w.alloc (.mapIter (some bm) cl #[] cl)) := by
    simp [execOp, e1, run_range_map w t kt et bm es cl hm hh, Result.andThen]
  refine wp_value hr ?_
  have hB : Below w.heap.size w (w.alloc (.mapIter (some bm) cl #[] cl)) := (Below.refl _ _).alloc (Nat.le_refl _) _
  have hc1 := hc.grow hB
  have hFF0 : ∀ b, FF X w s.tb ρ b → FF X (w.alloc (.mapIter (some bm) cl #[] cl)) s.tb ρ b := fun b hb => FF_new hB hc b (.inl hb)
  refine h.out hX _ _ ⟨upd ρ d ⟨.pointer (some ⟨w.heap.size, 0, none⟩), fun b => b = w.heap.size⟩, ?_⟩
  have hnl : ∀ k, liveB ((upd s.tb d (some (.res (itR m [])))) k) = true → k = d ∨ (k ≠ d ∧ liveB (s.tb k) = true) := by
    intro k hk
    by_cases e : k = d
    · exact .inl e
    · rw [upd_ne _ _ e] at hk; exact .inr ⟨e, hk⟩
  have hold : ∀ k b, liveB (s.tb k) = true → (ρ k).fp b → b < w.heap.size := by
    intro k b hk hb
    obtain ⟨x, hx, hl⟩ := live_some hk
    exact (hc.rowBlk hx hl hb).2
  have hFF : ∀ b, FF X w s.tb ρ b → FF X (w.alloc (.mapIter (some bm) cl #[] cl)) (upd s.tb d (some (.res (itR m [])))) (upd ρ d ⟨.pointer (some ⟨w.heap.size, 0, none⟩), fun b => b = w.heap.size⟩) b := by
    intro b hb
    refine ⟨hb.1, (hFF0 b hb).2.1, fun k hk e => ?_⟩
    rcases hnl k hk with rfl | ⟨hne, hk⟩
    · rw [upd_same] at e
      have e : b = w.heap.size := e
      have := hb.2.1; omega
    · rw [upd_ne _ _ hne] at e; exact hb.2.2 k hk e
  have hkk : ∀ k x, s.tb k = some x → ∃ x', (upd s.tb d (some (.res (itR m [])))) k = some x' ∧ ((x'.kind = x.kind ∧ ((upd ρ d ⟨.pointer (some ⟨w.heap.size, 0, none⟩), fun b => b = w.heap.size⟩) k).v = (ρ k).v) ∨ (x' = .dead ∧ x.kind ≠ 0)) := by
    intro k x hx
    have hne : k ≠ d := fun e => by rw [e, hd0] at hx; cases hx
    exact ⟨x, by rw [upd_ne _ _ hne]; exact hx, .inl ⟨rfl, by rw [upd_ne _ _ hne]⟩⟩
  have hsame : ∀ b, FF X w s.tb ρ b → (w.alloc (.mapIter (some bm) cl #[] cl)).heap[b]? = w.heap[b]? := fun b hb => hB.block b hb.2.1
  have hiter : (w.alloc (.mapIter (some bm) cl #[] cl)).heap[w.heap.size]? = some (.mapIter (some bm) cl #[] cl) := (MapKept.heap_alloc _ _).1
  have key : ConcAt X { s with tb := upd s.tb d (some (.res (itR m []))) } a (w.alloc (.mapIter (some bm) cl #[] cl)) (upd ρ d ⟨.pointer (some ⟨w.heap.size, 0, none⟩), fun b => b = w.heap.size⟩) := by
    refine ⟨hc.size, hc.defers, hc1.below, fun t => (hc.tmps t).keep hsame hFF hkk, fun k x hx => ?_, fun k k' b h1 h2 e1 e2 => ?_, fun k hk hl => ?_⟩
    · by_cases e : k = d
      · subst e
        rw [show ({ s with tb := upd s.tb k (some (.res (itR m []))) } : Sta).tb k = some (.res (itR m [])) from upd_same _ _ _] at hx
        simp only [Option.some.injEq] at hx
        subst hx
        show (itR m []).rel _ _ _ _ ∧ _
        rw [upd_same]
        refine ⟨⟨bm, w.heap.size, es, cl, [], rfl, hFF bm hb, rfl, fun b hb => hb, ⟨(hsame bm hb).trans hh, ⟨#[], rfl, hiter⟩, by omega, by simp, by simp, hs.1, hs.2.1⟩, hs, IsEs.keep hsame hFF _ _ he, hok, by unfold IsEs; rfl, by simp⟩, ?_⟩
        intro b hb
        have hb : b = w.heap.size := hb
        subst hb
        exact ⟨.inl hc.below.size, by simp⟩
      · have hx' : s.tb k = some x := by rw [← hx]; exact (upd_ne _ _ e).symm
        exact (hc.blks k x hx').keep hsame hFF hkk (upd_ne _ _ e) (fun b hl hf => hB.block b (hc.rowBlk hx' hl hf).2) hB.size
    · rcases hnl k h1 with rfl | ⟨n1, g1⟩ <;> rcases hnl k' h2 with h | ⟨n2, g2⟩
      · exact h.symm
      · rw [upd_same] at e1; rw [upd_ne _ _ n2] at e2
        have e1 : b = w.heap.size := e1
        have := hold k' b g2 e2; omega
      · subst h
        rw [upd_same] at e2; rw [upd_ne _ _ n1] at e1
        have e2 : b = w.heap.size := e2
        have := hold k b g1 e1; omega
      · rw [upd_ne _ _ n1] at e1; rw [upd_ne _ _ n2] at e2
        exact hc.apart k k' b g1 g2 e1 e2
    · rcases hnl k hl with rfl | ⟨n1, h1⟩
      · have := X.hN; omega
      · rw [upd_ne _ _ n1]; exact hc.lent k hk h1
  refine key.putNew hdN ?_
  unfold VR
  exact ⟨rfl, .inl ⟨_, upd_same _ _ _, .inr rfl, by rw [upd_same]⟩⟩⟩⟩
/-- 'next': all have come out, or one comes that has not. -/
theorem k_nextM {d : Nat} {x : Operand} {k : Nat} {m done : List (ByteArray × JV)} (hN : Nat.blt d N = true) (hx : s.ev x = .own k) (hk : s.tb k = some (.res (itR m done)))
    (h0 : (∀ y ∈ m, y ∈ done) → Run P X N Q (.ops ops rem :: ks) (s.put (some d) (.dat (.tup [.val (.bool false)]))))
    (h1 : ∀ y, y ∈ m → y.1 ∉ done.map (·.1) → Run P X N Q (.ops ops rem :: ks) ((s.set k (.res (itR m (done ++ [y])))).put (some d) (.dat (.tup [.val (.bool true), .val (.string y.1), pdJ y.2])))) :
    RunK P X N Q ops rem ks (some d) (.next x false) s := ⟨fun ty pos aft => ⟨fun hX a w ⟨ρ, hc⟩ => by
  have h2 := hc.ev x
  rw [hx] at h2
  have e2 := VR_ownR h2 hk rfl
  have hblk := hc.blks k _ hk
  obtain ⟨⟨bm, r, es, cl, dn, e3, hbm, hr, hO, hrng, hst, hes, hok, hdn, hsub⟩, _⟩ := hblk
  rw [e3] at e2
  obtain ⟨seen, hseen, hit⟩ := hrng.iter
  have hkn : (m.map (·.1)).Nodup := by unfold JOk at hok; exact hok.1
  rcases run_next_at (P := P) w ty r bm cl cl seen es cl hit hrng.map hrng.old (Nat.le_refl _) with ⟨hl, hrun⟩ | ⟨e, he, w1, hw1, hrun⟩
  · have hrun' : (execOp a.eval ⟨some d, .next x false, ty, pos, aft, none⟩).run P w = .ok (.value (.tuple #[.bool false])) w := by simp [execOp, e2, hrun, Result.andThen]
    refine wp_value hrun' ((h0 fun y hy => ?_).out hX _ _ ⟨ρ, hc.putO (hN_ok hN hX) (by unfold VR Rep; exact ⟨[.bool false], rfl, by unfold Reps; exact ⟨_, [], rfl, by unfold Rep; exact ⟨rfl, trivial⟩, by unfold Reps; rfl⟩⟩)⟩)
    obtain ⟨e, he, hke, hz, hj⟩ := hes.mem.1 y hy
    have hl' : leftOf es seen = #[] := Array.eq_empty_of_size_eq_zero hl
    have hc' : seen.contains e.born = true := by
      cases hc' : seen.contains e.born with
      | true => rfl
      | false =>
        exfalso
        have : e ∈ (leftOf es seen) := by
          unfold leftOf
          simp only [Array.mem_filter]
          exact ⟨by simpa using he, by rw [hc']; rfl⟩
        rw [hl'] at this
        simp at this
    have hm : e.born ∈ dn.map (·.born) := by rw [← hseen]; simpa using hc'
    obtain ⟨q, hq, hqb⟩ := List.mem_map.1 hm
    have hqe : q = e := born_inj hrng.born (hrng.sub q hq) he hqb
    subst hqe
    obtain ⟨z, hz1, hzk, _⟩ := hdn.mem.2 q hq
    have : z = y := fst_inj hkn (hsub z hz1) hy (by rw [hke] at hzk; injection hzk with h; exact h.symm)
    subst this
    exact hz1
  · have hes' : e ∈ es.toList := by
      unfold leftOf at he; simp at he; simpa using he.1
    have hnb : e.born ∉ dn.map (·.born) := by
      unfold leftOf at he
      simp at he
      intro hd
      apply he.2
      have : e.born ∈ seen.toList := by rw [hseen]; exact hd
      simpa using this
    have hh : w1.heap = w.heap := by rcases hw1 with rfl | rfl <;> rfl
    have hlt : r < w1.heap.size := by rw [hh]; exact hrng.lt_.2
    have hr' : Rng (setBlock w1 r (.mapIter (some bm) cl (seen.push e.born) cl)) bm r es cl (dn ++ [e]) := by
      refine ⟨?_, ⟨seen.push e.born, by simp [hseen], setBlock_self _ _ _ hlt⟩, hrng.ne, ?_, ?_, hrng.old, hrng.born⟩
      · rw [setBlock_other _ hrng.ne, hh]; exact hrng.map
      · intro q hq
        rcases List.mem_append.1 hq with hq | hq
        · exact hrng.sub q hq
        · simp at hq; rw [hq]; exact hes'
      · rw [List.map_append, List.nodup_append]
        refine ⟨hrng.nodup, by simp, fun a ha b hb => ?_⟩
        simp at hb; subst hb
        exact fun e' => hnb (e' ▸ ha)
    have hrun' : (execOp a.eval ⟨some d, .next x false, ty, pos, aft, none⟩).run P w = .ok (.value (.tuple #[.bool true, e.key, e.val])) (setBlock w1 r (.mapIter (some bm) cl (seen.push e.born) cl)) := by simp [execOp, e2, hrun, Result.andThen]
    obtain ⟨y, hy, hke, hz, hj⟩ := hes.mem.2 e hes'
    have hsz : (setBlock w1 r (.mapIter (some bm) cl (seen.push e.born) cl)).heap.size = w.heap.size := by
      show (Array.setIfInBounds _ _ _).size = _
      rw [Array.size_setIfInBounds, hh]
    have hB : Below 0 w (setBlock w1 r (.mapIter (some bm) cl (seen.push e.born) cl)) := by
      have hB1 : Below 0 w w1 := by
        rcases hw1 with rfl | rfl
        · exact Below.refl _ _
        · exact (Below.refl _ _).drew
      exact hB1.trans ⟨rfl, rfl, rfl, by rw [hsz, hh]; exact Nat.le_refl _, fun k hk => absurd hk (Nat.not_lt_zero _)⟩
    have hoth : ∀ b, ¬ (ρ k).fp b → (setBlock w1 r (.mapIter (some bm) cl (seen.push e.born) cl)).heap[b]? = w.heap[b]? := fun b hb => by
      rw [setBlock_other _ (fun e : b = r => hb (e ▸ hr)), hh]
    have hF : ∀ b, FF X w s.tb ρ b → (setBlock w1 r (.mapIter (some bm) cl (seen.push e.born) cl)).heap[b]? = w.heap[b]? := fun b hF => hoth b (hF.2.2 k (by rw [hk]; rfl))
    have hJ := JOkm_mem (m := m) (by unfold JOk at hok; exact hok.2.2) y hy
    have hset := hc.setRes (R' := itR m (done ++ [y])) hk hB hsz hoth ⟨bm, r, es, cl, dn ++ [e], e3, hbm, hr, hO, hr', hst, IsEs.keep hF (fun _ h => h) _ _ hes, hok,
      IsEs.snoc hke hz (IsJ.keep hF (fun _ h => h) _ hj) (IsEs.keep hF (fun _ h => h) _ _ hdn), fun z hz => by
        rcases List.mem_append.1 hz with hz | hz
        · exact hsub z hz
        · simp at hz; rw [hz]; exact hy⟩
    refine wp_value hrun' ((h1 y hy fun hmem => ?_).out hX _ _ ⟨ρ, hset.putO (hN_ok hN hX) ?_⟩)
    · obtain ⟨z, hz1, hz2⟩ := List.mem_map.1 hmem
      obtain ⟨q, hq, hqk, _⟩ := hdn.mem.1 z hz1
      have : q = e := key_inj hst.2.2 (hrng.sub q hq) hes' (by rw [hqk, hke, hz2])
      subst this
      exact hnb (List.mem_map_of_mem (f := (·.born)) hq)
    · unfold VR
      have hF2 : ∀ b, FF X w s.tb ρ b → FF X (setBlock w1 r (.mapIter (some bm) cl (seen.push e.born) cl)) (s.set k (.res (itR m (done ++ [y])))).tb ρ b := fun b' hF => ⟨hF.1, by rw [hsz]; exact hF.2.1, fun k' hk' => hF.2.2 k' (by
        by_cases ek : k' = k
        · subst ek; rw [hk]; rfl
        · simp only [Sta.set, upd_ne _ _ ek] at hk'; exact hk')⟩
      rw [hke]
      exact rep_tup3 (by unfold Rep; exact ⟨rfl, trivial⟩) (rep_str hz) (by unfold pdJ Rep; exact ⟨IsJ.keep hF hF2 _ hj, hJ⟩)⟩⟩
/-- 'entry': the one that came out last. -/
theorem op_entryM {o : Oper} (hd : dstOk X.N o.dst = true) {x : Operand} (ho : o.op = .entry x) {k : Nat} {m done : List (ByteArray × JV)} {y : ByteArray × JV} (hx : s.ev x = .own k) (hk : s.tb k = some (.res (itR m (done ++ [y])))) : OpS P X o s (s.put o.dst (.dat (itD y))) := by
  refine opS_value hd fun a w ρ hc => ?_
  have h2 := hc.ev x
  rw [hx] at h2
  have e2 := VR_ownR h2 hk rfl
  have hblk := hc.blks k _ hk
  obtain ⟨⟨bm, r, es, cl, dn, e3, hbm, hr, hO, hrng, hst, hes, hok, hdn, hsub⟩, _⟩ := hblk
  rw [e3] at e2
  have hsplit : ∀ {m : List (ByteArray × JV)} {dn : List MapEntry}, IsEs w (FF X w s.tb ρ) (m ++ [y]) dn → ∃ dn' e, dn = dn' ++ [e] ∧ e.key = .string y.1 ∧ y.1.size ≤ maxLen ∧ IsJ w (FF X w s.tb ρ) y.2 e.val := by
    intro m
    induction m with
    | nil =>
      intro dn h
      have h : IsEs w (FF X w s.tb ρ) [y] dn := h
      unfold IsEs at h
      obtain ⟨e, r', rfl, h1, h2, h3, h4⟩ := h
      unfold IsEs at h4
      subst h4
      exact ⟨[], e, rfl, h1, h2, h3⟩
    | cons z m ih =>
      intro dn h
      have h : IsEs w (FF X w s.tb ρ) (z :: (m ++ [y])) dn := h
      unfold IsEs at h
      obtain ⟨e, r', rfl, h1, h2, h3, h4⟩ := h
      obtain ⟨dn', e', rfl, h5⟩ := ih h4
      exact ⟨e :: dn', e', rfl, h5⟩
  obtain ⟨dn', e, rfl, hke, hz, hj⟩ := hsplit hdn
  obtain ⟨seen, hseen, hit⟩ := hrng.iter
  obtain ⟨seen', rfl⟩ : ∃ seen' : Array Nat, seen = seen'.push e.born := by
    refine ⟨(dn'.map (·.born)).toArray, ?_⟩
    apply Array.ext'
    rw [hseen]; simp
  have hent := run_entry_at (P := P) w r bm cl seen' es cl e hit hrng.map (hrng.sub e (by simp)) hrng.born
  refine ⟨.tuple #[e.key, e.val], by simp [execOp, ho, e2, hent, Result.andThen], ?_⟩
  unfold VR itD
  rw [hke]
  exact rep_tup2 (rep_str hz) (by unfold pdJ Rep; exact ⟨hj, JOkm_mem (by unfold JOk at hok; exact hok.2.2) y (hsub y (by simp))⟩)
theorem k_entryM {d : Nat} {x : Operand} {k : Nat} {m done : List (ByteArray × JV)} {y : ByteArray × JV} (hN : Nat.blt d N = true) (hx : s.ev x = .own k) (hk : s.tb k = some (.res (itR m (done ++ [y])))) (h : Run P X N Q (.ops ops rem :: ks) (s.put (some d) (.dat (itD y)))) : RunK P X N Q ops rem ks (some d) (.entry x) s := k_of hN (fun _ _ _ hd => op_entryM hd rfl hx hk) h
end
end Go.Proofs.Ytlghpcokbppkfaa
