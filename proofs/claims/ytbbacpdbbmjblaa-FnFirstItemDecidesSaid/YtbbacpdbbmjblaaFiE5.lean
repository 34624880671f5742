/- Part 5 of what the proof rests on. -/
import Derived.Lib.Bytealg
import Derived.Test.YtbbacpdbbmjblaaFiE3
import Derived.Test.YtbbacpdbbmjblaaFiE4
section
set_option linter.unusedVariables false
namespace Go.Proofs.Ytbbacpdbbmjblaa
open Go.RowKit
open Go.ChangeMaps (setBlock)
set_option linter.unusedSimpArgs false
/-- The items of a list of the package. -/
def dvLs (l : List JV) : PD := .opq {
  rel := fun w F v => ∃ a c, v = .slice a l.length c ∧ l.length * 16 ≤ 140737488351232 ∧ (l = [] ∨ ∃ b o, F b ∧ a = some ⟨b, o, none⟩ ∧ IsJs w F l b o) ∧ ∀ x ∈ l, JOk x,
  one := fun _ _ _ ⟨_, _, e, _⟩ => by rw [e]; rfl,
  keep := fun _ _ _ _ _ h hs ⟨a, c, e, h1, h2, h3⟩ => ⟨a, c, e, h1, h2.imp id (fun ⟨b, o, hb, ha, hx⟩ => ⟨b, o, hs b hb, ha, IsJs.keep h hs l b o hb hx⟩), h3⟩ }
/-- The fields of a map of the package. -/
def dvMm (m : List (ByteArray × JV)) : PD := .opq {
  rel := fun w F v => ∃ b es cl, v = .map (some b) ∧ F b ∧ w.heap[b]? = some (.map es cl) ∧ MapKept.Stamped es cl ∧ m.length < maxLen ∧ IsEs w F m es.toList ∧ JOk (.map m),
  one := fun _ _ _ ⟨_, _, _, e, _⟩ => by rw [e]; rfl,
  keep := fun _ _ _ _ _ h hs ⟨b, es, cl, e, hb, hh, h1, h2, h3, h4⟩ => ⟨b, es, cl, e, hs b hb, (h b hb).trans hh, h1, h2, IsEs.keep h hs m es.toList h3, h4⟩ }
/-- A tree, as far as its head goes. -/
def dvX : JV → PD
  | .null => .val .nilIface
  | .bool b => .iface 4 (.val (.bool b))
  | .int n => .iface 2 (.val (.int .i64 n))
  | .flt f => .iface 40 (.val (.float .f64 f))
  | .str s => .iface 9 (.val (.string s))
  | .list l => .iface 141 (dvLs l)
  | .map m => .iface 106 (dvMm m)
theorem dvX_le (j : JV) : PLe (pdJ j) (dvX j) := by
  intro w F v h
  unfold pdJ Rep at h
  obtain ⟨h, hok⟩ := h
  cases j with
  | null => unfold IsJ at h; unfold dvX Rep; exact ⟨h, trivial⟩
  | bool b => unfold IsJ at h; unfold dvX Rep; exact ⟨_, h, by unfold Rep; exact ⟨rfl, trivial⟩⟩
  | int n => unfold IsJ at h; unfold dvX Rep; exact ⟨_, h.1, by unfold Rep; exact ⟨rfl, h.2⟩⟩
  | flt n => unfold IsJ at h; unfold dvX Rep; exact ⟨_, h.1, by unfold Rep; exact ⟨rfl, h.2⟩⟩
  | str n => unfold IsJ at h; unfold dvX Rep; exact ⟨_, h.1, by unfold Rep; exact ⟨rfl, h.2⟩⟩
  | list l =>
    unfold IsJ at h
    obtain ⟨a, c, e, h1, h2⟩ := h
    unfold dvX Rep
    refine ⟨_, e, ?_⟩
    unfold dvLs Rep
    exact ⟨a, c, rfl, h1, h2, JOks_mem (by unfold JOk at hok; exact hok.2)⟩
  | map m =>
    unfold IsJ at h
    obtain ⟨b, es, cl, e, hb, hh, h1, h2, h3⟩ := h
    unfold dvX Rep
    refine ⟨_, e, ?_⟩
    unfold dvMm Rep
    exact ⟨b, es, cl, rfl, hb, hh, h1, h2, h3, hok⟩
section
variable {P : Program}
/-- Arguments that say more. -/
theorem PCall.le {f : FuncId} {ds ds' : List PD} {r : PD} (h : ∀ w F vs, Reps w F ds vs → Reps w F ds' vs) (hp : PCall P f ds' r) : PCall P f ds r := fun w F vs hF hv => hp w F vs hF (h w F vs hv)
theorem PCall.ex {f : FuncId} {ds : List PD} {r : PD} (h : ∀ w F vs, Reps w F ds vs → PCall P f ds r) : PCall P f ds r := fun w F vs hF hv => h w F vs hv w F vs hF hv
theorem Reps.cons1 {w : World} {F : Nat → Prop} {d d' : PD} {ds : List PD} {vs : List Value} (h : PLe d d') (hv : Reps w F (d :: ds) vs) : Reps w F (d' :: ds) vs := by
  unfold Reps at hv ⊢
  obtain ⟨v, r, e, h1, h2⟩ := hv
  exact ⟨v, r, e, h _ _ _ h1, h2⟩
theorem PLe.agg1 {d d' : PD} (h : PLe d d') : PLe (.agg [d]) (.agg [d']) := by
  intro w F v hv
  unfold Rep at hv ⊢
  obtain ⟨vs, e, h1, h2⟩ := hv
  exact ⟨vs, e, Reps.cons1 h h1, h2⟩
/-- The struct around a tree, as far as its head goes. -/
theorem PCall.vu {f : FuncId} {j : JV} {ds : List PD} {r : PD} (h : PCall P f (.agg [dvX j] :: ds) r) : PCall P f (.agg [pdJ j] :: ds) r := h.le (fun _ _ _ hv => Reps.cons1 (PLe.agg1 (dvX_le j)) hv)
variable {X : Base} {N : Nat} {Q : Exit → Act → World → Prop} {ops : Array Oper} {rem : List Nat} {ks : List Itm} {s s' : Sta} {a : Act} {w w' : World} {ρ : Nat → RV}
theorem NilIs.ifc {T : Nat} {d : PD} : NilIs true (.iface T d) false := fun w F v h => by
  unfold Rep at h
  obtain ⟨u, rfl, _⟩ := h
  exact ⟨_, _, rfl⟩
theorem op_lenJ {o : Oper} (hd : dstOk X.N o.dst = true) {x : Operand} {t : TypeId} (ho : o.op = .call { callee := .builtin .len, args := #[x], argTypes := #[t] }) {e n y : Nat} (ht : slcI P t = some (e, n, y)) {l : List JV} (hx : s.ev x = .dat (dvLs l)) :
    OpS P X o s (s.put o.dst (.dat (.val (.int .i64 l.length)))) := by
  refine opS_value hd fun a w ρ hc => ?_
  have h2 := hc.ev x
  rw [hx] at h2
  unfold VR dvLs Rep at h2
  obtain ⟨a', c, e1, hby, hcase, _⟩ := h2
  refine ⟨.int .i64 l.length, ?_, by unfold VR Rep; exact ⟨rfl, wf_small (by omega)⟩⟩
  obtain ⟨_, hu, _⟩ := slcI_spec ht
  simp [execOp, ho, resolve, invoke, builtin, e1, run_len hu, goInt]
theorem k_lenJ {d : Nat} {x : Operand} {t e n y : Nat} {l : List JV} (hN : Nat.blt d N = true) (hx : s.ev x = .dat (dvLs l)) [ht : SI P t e n y] (h : Run P X N Q (.ops ops rem :: ks) (s.put (some d) (.dat (.val (.int .i64 l.length))))) : RunK P X N Q ops rem ks (some d) (.call { callee := .builtin .len, args := #[x], argTypes := #[t] }) s := k_of hN (fun _ _ _ hd => op_lenJ hd rfl ht.out hx) h
theorem d_lenJ {ops : List Oper} {d : Nat} {x : Operand} {t e n y : Nat} {l : List JV} (hN : Nat.blt d N = true) (hx : s.ev x = .dat (dvLs l)) [ht : SI P t e n y] : TrK P X N ops (some d) (.call { callee := .builtin .len, args := #[x], argTypes := #[t] }) (Eff.put (some d) (.dat (.val (.int .i64 l.length)))) s (s.put (some d) (.dat (.val (.int .i64 l.length)))) := act_val hN fun s' _ _ _ _ hd hev htb => op_lenJ hd rfl ht.out ((hev _ (by simp [Op.operands, Call.operands])).trans hx)
theorem op_indexJ {o : Oper} (hd : dstOk X.N o.dst = true) {t : TypeId} {x ix : Operand} (ho : o.op = .indexAddr t x ix) {l : List JV} (hx : s.ev x = .dat (dvLs l)) {k : IntKind} {i : Nat} (hi : s.ev ix = .dat (.val (.int k (i : Int))))
    {e y' : Nat} (ht : slcI P t = some (e, 1, y')) {j : JV} (hl : l[i]? = some j) : OpS P X o s (s.put o.dst (.dat (.ptr (pdJ j)))) := by
  refine opS_value hd fun a w ρ hc => ?_
  have h2 := hc.ev x
  rw [hx] at h2
  unfold VR dvLs Rep at h2
  have h3 := hc.ev ix
  rw [hi] at h3
  unfold VR Rep at h3
  obtain ⟨a', c, e1, hby, hcase, hok⟩ := h2
  obtain ⟨inf, hu, hinf, hsz, _⟩ := slcI_spec ht
  have hlt : i < l.length := (List.getElem?_eq_some_iff.1 hl).1
  rcases hcase with rfl | ⟨b, off, hF, ha, hr⟩
  · simp at hl
  obtain ⟨u, hu1, hun⟩ := hr.at_ hl
  subst ha
  refine ⟨.pointer (some ⟨b, off + i, none⟩), ?_, ?_⟩
  · simp [execOp, ho, e1, h3.1, Instr.indexAt, asIntOf, run_underlying hu, hlt, sizeOf, typeInfo, hinf, hsz, Addr_add]
  · unfold VR Rep
    refine ⟨b, off + i, u, rfl, hF, by unfold pdJ Rep; exact ⟨hun, hok j (List.mem_of_getElem? hl)⟩, ?_⟩
    rw [one_toList hun.oneCell]
    intro q v hq
    cases q with
    | zero => simp at hq; subst hq; exact hu1
    | succ q => simp at hq
theorem d_indexJ {ops : List Oper} {d : Nat} {x ix : Operand} {t e y' : Nat} {l : List JV} {k : IntKind} {i : Nat} {j : JV} (hN : Nat.blt d N = true) (hx : s.ev x = .dat (dvLs l)) (hi : s.ev ix = .dat (.val (.int k (i : Int)))) [ht : SI P t e 1 y'] (hl : l[i]? = some j) : TrK P X N ops (some d) (.indexAddr t x ix) (Eff.put (some d) (.dat (.ptr (pdJ j)))) s (s.put (some d) (.dat (.ptr (pdJ j)))) := act_val hN fun s' _ _ _ _ hd hev htb => op_indexJ hd rfl ((hev _ (by simp [Op.operands])).trans hx) ((hev _ (by simp [Op.operands])).trans hi) ht.out hl
def mapT (P : Program) (t : TypeId) : Option (Nat × Nat) := match P.underlying t with
  | some (.map k e) => some (k, e)
  | _ => none
theorem mapT_spec {t k e : Nat} (h : mapT P t = some (k, e)) : P.underlying t = some (.map k e) := by
  unfold mapT at h
  split at h
  · simp only [Option.some.injEq, Prod.mk.injEq] at h; obtain ⟨rfl, rfl⟩ := h; assumption
  · cases h
/-- A map type from strings to interface values. -/
class MTI (P : Program) (t : Nat) (k : outParam Nat) (e : outParam Nat) : Prop where
  out : mapT P t = some (k, e)
  str : P.underlying k = some .string
  zer : zer1 P e = some .nilIface
theorem op_lenM {o : Oper} (hd : dstOk X.N o.dst = true) {x : Operand} {t : TypeId} (ho : o.op = .call { callee := .builtin .len, args := #[x], argTypes := #[t] }) {k e : Nat} (ht : mapT P t = some (k, e)) {m : List (ByteArray × JV)} (hx : s.ev x = .dat (dvMm m)) :
    OpS P X o s (s.put o.dst (.dat (.val (.int .i64 m.length)))) := by
  refine opS_value hd fun a w ρ hc => ?_
  have h2 := hc.ev x
  rw [hx] at h2
  unfold VR dvMm Rep at h2
  obtain ⟨b, es, cl, e1, hb, hh, hs, hl, he, hok⟩ := h2
  have hlen : es.size = m.length := by have := he.length; simpa using this
  refine ⟨.int .i64 m.length, ?_, by unfold VR Rep; exact ⟨rfl, WalkArith.wf_i64 (by unfold maxLen at hl; omega)⟩⟩
  have hu := mapT_spec ht
  simp [execOp, ho, resolve, invoke, builtin, e1, Builtin.len_, run_underlying hu, MapKept.run_getObj_map hh, goInt, hlen, Result.andThen]
theorem k_lenM {d : Nat} {x : Operand} {t k e : Nat} {m : List (ByteArray × JV)} (hN : Nat.blt d N = true) (hx : s.ev x = .dat (dvMm m)) [ht : MTI P t k e] (h : Run P X N Q (.ops ops rem :: ks) (s.put (some d) (.dat (.val (.int .i64 m.length))))) : RunK P X N Q ops rem ks (some d) (.call { callee := .builtin .len, args := #[x], argTypes := #[t] }) s := k_of hN (fun _ _ _ hd => op_lenM hd rfl ht.out hx) h
/-- What stands under a key. -/
def lkJ : List (ByteArray × JV) → ByteArray → Option JV
  | [], _ => none
  | x :: r, k => if x.1 = k then some x.2 else lkJ r k
theorem IsEs.lk {F : Nat → Prop} {k : ByteArray} : ∀ {m : List (ByteArray × JV)} {es : List MapEntry}, IsEs w F m es → (∃ j e, lkJ m k = some j ∧ e ∈ es ∧ e.key = .string k ∧ IsJ w F j e.val ∧ (k, j) ∈ m) ∨ (lkJ m k = none ∧ ∀ e ∈ es, e.key ≠ .string k)
  | [], es, h => by unfold IsEs at h; subst h; exact .inr ⟨rfl, by simp⟩
  | x :: r, es, h => by
    unfold IsEs at h
    obtain ⟨e, r', rfl, hke, _, hx, hr⟩ := h
    unfold lkJ
    by_cases hk : x.1 = k
    · rw [if_pos hk]; exact .inl ⟨x.2, e, rfl, by simp, by rw [hke, hk], hx, by rw [← hk]; simp⟩
    · rw [if_neg hk]
      rcases IsEs.lk hr with ⟨j, e', h1, h2, h3, h4, h5⟩ | ⟨h1, h2⟩
      · exact .inl ⟨j, e', h1, by simp [h2], h3, h4, by simp [h5]⟩
      · refine .inr ⟨h1, fun e' he' => ?_⟩
        rcases List.mem_cons.1 he' with rfl | he'
        · rw [hke]; intro e; injection e with e; exact hk e
        · exact h2 e' he'
theorem run_look_hit {t kt et r cl : Nat} {es : Array MapEntry} {k : ByteArray} (hm : P.underlying t = some (.map kt et)) (hd : P.underlying kt = some .string)
    (hb : w.heap[r]? = some (.map es cl)) (hs : MapKept.Stamped es cl) (hks : ∀ x ∈ es.toList, MapKept.IsKey .string x.key) {e : MapEntry} (he : e ∈ es.toList) (hke : e.key = .string k) :
    (Instr.lookup t (.map (some r)) (.string k) true).run P w = .ok (.tuple #[e.val, .bool true]) w := by
  have hk : MapKept.IsKey .string (.string k) := trivial
  rcases MapKept.findNow_spec hk es.toList 0 hks with ⟨h1, h2⟩ | ⟨j, e', h1, h2, h3⟩
  · exact absurd hke (h2 e he)
  · have : e' = e := by
      have hkn : (es.toList.map (·.key)).Nodup := hs.2.2
      obtain ⟨i, hi⟩ := List.getElem?_of_mem he
      have hij : j = i := by
        have hi' : (es.toList.map (·.key))[j]? = some (.string k) := by rw [List.getElem?_map, h2, Option.map_some, h3]
        have hj' : (es.toList.map (·.key))[i]? = some (.string k) := by rw [List.getElem?_map, hi, Option.map_some, hke]
        exact (List.getElem?_inj (List.getElem?_eq_some_iff.1 hi').1 hkn).1 (hi'.trans hj'.symm)
      rw [hij, hi] at h2
      exact (Option.some.inj h2).symm
    subst this
    simp [Instr.lookup, run_underlying hm, MapKept.run_getObj_map hb, MapKept.run_checkKey hd hk, MapKept.run_findKey hd h1, Result.andThen]
theorem run_look_miss {t kt et r cl : Nat} {es : Array MapEntry} {k : ByteArray} {z : Value} (hm : P.underlying t = some (.map kt et)) (hd : P.underlying kt = some .string) (hz : zer1 P et = some z)
    (hb : w.heap[r]? = some (.map es cl)) (hks : ∀ x ∈ es.toList, MapKept.IsKey .string x.key) (he : ∀ e ∈ es.toList, e.key ≠ .string k) :
    (Instr.lookup t (.map (some r)) (.string k) true).run P w = .ok (.tuple #[z, .bool false]) w := by
  have hk : MapKept.IsKey .string (.string k) := trivial
  rcases MapKept.findNow_spec hk es.toList 0 hks with ⟨h1, h2⟩ | ⟨j, e', h1, h2, h3⟩
  · simp [Instr.lookup, run_underlying hm, MapKept.run_getObj_map hb, MapKept.run_checkKey hd hk, MapKept.run_findKey hd h1, run_zer1 hz, Result.andThen]
  · exact absurd h3 (he e' (List.mem_of_getElem? h2))
def lkD (o : Option JV) : PD := match o with
  | some j => .tup [pdJ j, .val (.bool true)]
  | none => .tup [.val .nilIface, .val (.bool false)]
theorem op_lookM {o : Oper} (hd : dstOk X.N o.dst = true) {x y : Operand} {t : TypeId} (ho : o.op = .lookup t x y true) {kt et : Nat} (ht : MTI P t kt et) {m : List (ByteArray × JV)} {k : ByteArray} (hx : s.ev x = .dat (dvMm m)) (hy : s.ev y = .dat (.val (.string k))) :
    OpS P X o s (s.put o.dst (.dat (lkD (lkJ m k)))) := by
  refine opS_value hd fun a w ρ hc => ?_
  have h2 := hc.ev x
  rw [hx] at h2
  unfold VR dvMm Rep at h2
  have h3 := hc.ev y
  rw [hy] at h3
  unfold VR Rep at h3
  obtain ⟨b, es, cl, e1, hb, hh, hs, hl, he, hok⟩ := h2
  have hm := mapT_spec ht.out
  have hks := he.keys
  rcases he.lk (k := k) with ⟨j, e, h4, h5, h6, h7, h8⟩ | ⟨h4, h5⟩
  · rw [h4]
    refine ⟨.tuple #[e.val, .bool true], by simp [execOp, ho, e1, h3.1, run_look_hit hm ht.str hh hs hks h5 h6], ?_⟩
    unfold VR lkD Rep
    refine ⟨[e.val, .bool true], rfl, ?_⟩
    unfold Reps
    refine ⟨_, _, rfl, by unfold pdJ Rep; exact ⟨h7, JOkm_mem (by unfold JOk at hok; exact hok.2.2) _ h8⟩, ?_⟩
    unfold Reps
    exact ⟨_, [], rfl, by unfold Rep; exact ⟨rfl, trivial⟩, by unfold Reps; rfl⟩
  · rw [h4]
    exact ⟨.tuple #[.nilIface, .bool false], by simp [execOp, ho, e1, h3.1, run_look_miss hm ht.str ht.zer hh hks h5], by unfold VR lkD; exact rep_zf rfl⟩
theorem k_lookM {d : Nat} {x y : Operand} {t kt et : Nat} {m : List (ByteArray × JV)} {k : ByteArray} {o : Option JV} (hN : Nat.blt d N = true) (hx : s.ev x = .dat (dvMm m)) (hy : s.ev y = .dat (.val (.string k))) [ht : MTI P t kt et] (ho : lkJ m k = o) (h : Run P X N Q (.ops ops rem :: ks) (s.put (some d) (.dat (lkD o)))) : RunK P X N Q ops rem ks (some d) (.lookup t x y true) s := k_of hN (fun _ _ _ hd => by subst ho; exact op_lookM hd rfl ht hx hy) h
/-- The iterator over a map, where the items 'done' have come out. -/
def itR (m done : List (ByteArray × JV)) : Res where
  rel := fun w F O v => ∃ bm r es cl dn, v = .pointer (some ⟨r, 0, none⟩) ∧ F bm ∧ O r ∧ (∀ b, O b → b = r) ∧ Rng w bm r es cl dn ∧ MapKept.Stamped es cl ∧ IsEs w F m es.toList ∧ JOk (.map m) ∧ IsEs w F done dn ∧ (∀ y ∈ done, y ∈ m)
  d := .opq { rel := fun _ _ v => v.oneCell' = true, one := fun _ _ _ h => h, keep := fun _ _ _ _ _ _ _ h => h }
  one := fun _ _ _ _ ⟨_, _, _, _, _, e, _⟩ => by rw [e]; rfl
  keep := fun w w' F F' O v h hs hO ⟨bm, r, es, cl, dn, e, h1, h2, h3, h4, h5, h6, h7, h8, h9⟩ => ⟨bm, r, es, cl, dn, e, hs bm h1, h2, h3, h4.of_eq (h bm h1) (hO r h2), h5, IsEs.keep h hs _ _ h6, h7, IsEs.keep h hs _ _ h8, h9⟩
  frz := fun _ _ _ _ v _ _ ⟨_, _, _, _, _, e, _⟩ => by unfold Rep; show v.oneCell' = true; rw [e]; rfl
theorem ConcAt.setRes (h : ConcAt X s a w ρ) {k : Nat} {R R' : Res} (hk : s.tb k = some (.res R)) (hw : Below 0 w w') (hsz : w'.heap.size = w.heap.size) (hoth : ∀ b, ¬ (ρ k).fp b → w'.heap[b]? = w.heap[b]?)
    (hR : R'.rel w' (FF X w s.tb ρ) (ρ k).fp (ρ k).v) : ConcAt X (s.set k (.res R')) a w' ρ := by
  have hlk : liveB (s.tb k) = true := by rw [hk]; rfl
  have hF : ∀ b', FF X w s.tb ρ b' → w'.heap[b']? = w.heap[b']? := fun b' hF => hoth b' (hF.2.2 k hlk)
  have hdom : ∀ k', liveB ((s.set k (.res R')).tb k') = true → liveB (s.tb k') = true := by
    intro k' hk'
    by_cases ek : k' = k
    · subst ek; exact hlk
    · simp only [Sta.set, upd_ne _ _ ek] at hk'; exact hk'
  have hs : ∀ b', FF X w s.tb ρ b' → FF X w' (s.set k (.res R')).tb ρ b' := fun b' hF => ⟨hF.1, by rw [hsz]; exact hF.2.1, fun k' hk' => hF.2.2 k' (hdom k' hk')⟩
  have hkk : ∀ k' x, s.tb k' = some x → ∃ x', (s.set k (.res R')).tb k' = some x' ∧ ((x'.kind = x.kind ∧ (ρ k').v = (ρ k').v) ∨ (x' = .dead ∧ x.kind ≠ 0)) := by
    intro k' x hx
    by_cases ek : k' = k
    · subst ek; rw [hk] at hx; cases hx; exact ⟨.res R', upd_same _ _ _, .inl ⟨rfl, rfl⟩⟩
    · exact ⟨x, by simp only [Sta.set, upd_ne _ _ ek]; exact hx, .inl ⟨rfl, rfl⟩⟩
  have hblk := h.blks k _ hk
  refine ⟨h.size, h.defers, h.below.step hw.os hw.tape hw.output (by rw [hsz]; exact Nat.le_refl _) (fun j _ hj => hoth j (fun e => hj (hblk.2 j e).1)), fun t' => (h.tmps t').keep hF hs hkk, fun k' x hx => ?_, fun k1 k2 b h1 h2 e1 e2 => h.apart k1 k2 b (hdom k1 h1) (hdom k2 h2) e1 e2, fun k' hk' hl' => h.lent k' hk' (hdom k' hl')⟩
  by_cases ek : k' = k
  · subst ek
    simp only [Sta.set, upd_same, Option.some.injEq] at hx
    subst hx
    exact ⟨R'.keep _ _ _ _ _ _ (fun _ _ => rfl) hs (fun _ _ => rfl) hR, fun b hb => ⟨(hblk.2 b hb).1, by rw [hsz]; exact (hblk.2 b hb).2⟩⟩
  · simp only [Sta.set, upd_ne _ _ ek] at hx
    exact (h.blks k' x hx).keep hF hs hkk rfl (fun b' hl hf => hoth b' fun e => ek (h.apart k' k b' (by rw [hx]; exact hl) hlk hf e)) (by rw [hsz]; exact Nat.le_refl _)
theorem IsEs.mem {F : Nat → Prop} : ∀ {m : List (ByteArray × JV)} {es : List MapEntry}, IsEs w F m es → (∀ y ∈ m, ∃ e ∈ es, e.key = .string y.1 ∧ y.1.size ≤ maxLen ∧ IsJ w F y.2 e.val) ∧ ∀ e ∈ es, ∃ y ∈ m, e.key = .string y.1 ∧ y.1.size ≤ maxLen ∧ IsJ w F y.2 e.val
  | [], es, h => by unfold IsEs at h; subst h; exact ⟨by simp, by simp⟩
  | x :: r, es, h => by
    unfold IsEs at h
    obtain ⟨e, r', rfl, hke, hz, hx, hr⟩ := h
    obtain ⟨h1, h2⟩ := IsEs.mem hr
    refine ⟨fun y hy => ?_, fun e' he' => ?_⟩
    · rcases List.mem_cons.1 hy with rfl | hy
      · exact ⟨e, by simp, hke, hz, hx⟩
      · obtain ⟨e', he', h'⟩ := h1 y hy
        exact ⟨e', by simp [he'], h'⟩
    · rcases List.mem_cons.1 he' with rfl | he'
      · exact ⟨x, by simp, hke, hz, hx⟩
      · obtain ⟨y, hy, h'⟩ := h2 e' he'
        exact ⟨y, by simp [hy], h'⟩
theorem IsEs.snoc {F : Nat → Prop} {y : ByteArray × JV} {e : MapEntry} (hke : e.key = .string y.1) (hz : y.1.size ≤ maxLen) (hj : IsJ w F y.2 e.val) : ∀ {m : List (ByteArray × JV)} {es : List MapEntry}, IsEs w F m es → IsEs w F (m ++ [y]) (es ++ [e])
  | [], es, h => by
    unfold IsEs at h; subst h
    show IsEs w F [y] [e]
    unfold IsEs
    exact ⟨e, [], rfl, hke, hz, hj, by unfold IsEs; rfl⟩
  | x :: r, es, h => by
    unfold IsEs at h
    obtain ⟨e', r', rfl, h1, h2, h3, hr⟩ := h
    show IsEs w F (x :: (r ++ [y])) (e' :: (r' ++ [e]))
    unfold IsEs
    exact ⟨e', _, rfl, h1, h2, h3, IsEs.snoc hke hz hj hr⟩
theorem key_inj {es : List MapEntry} (h : (es.map (·.key)).Nodup) : ∀ {e e' : MapEntry}, e ∈ es → e' ∈ es → e.key = e'.key → e = e' := by
  induction es with
  | nil => intro _ _ h; cases h
  | cons a r ih =>
    simp only [List.map_cons, List.nodup_cons] at h
    intro e e' he he' hb
    rcases List.mem_cons.1 he with h1 | h1 <;> rcases List.mem_cons.1 he' with h2 | h2
    · rw [h1, h2]
    · exact absurd (by rw [← h1, hb]; exact List.mem_map_of_mem (f := (·.key)) h2) h.1
    · exact absurd (by rw [← h2, ← hb]; exact List.mem_map_of_mem (f := (·.key)) h1) h.1
    · exact ih h.2 h1 h2 hb
theorem fst_inj {m : List (ByteArray × JV)} (h : (m.map (·.1)).Nodup) : ∀ {e e' : ByteArray × JV}, e ∈ m → e' ∈ m → e.1 = e'.1 → e = e' := by
  induction m with
  | nil => intro _ _ h; cases h
  | cons a r ih =>
    simp only [List.map_cons, List.nodup_cons] at h
    intro e e' he he' hb
    rcases List.mem_cons.1 he with h1 | h1 <;> rcases List.mem_cons.1 he' with h2 | h2
    · rw [h1, h2]
    · exact absurd (by rw [← h1, hb]; exact List.mem_map_of_mem (f := (·.1)) h2) h.1
    · exact absurd (by rw [← h2, ← hb]; exact List.mem_map_of_mem (f := (·.1)) h1) h.1
    · exact ih h.2 h1 h2 hb
def itD (y : ByteArray × JV) : PD := .tup [.val (.string y.1), pdJ y.2]
theorem rep_tup3 {F : Nat → Prop} {p q r : PD} {x y z : Value} (h1 : Rep w F p x) (h2 : Rep w F q y) (h3 : Rep w F r z) : Rep w F (.tup [p, q, r]) (.tuple #[x, y, z]) := by
  unfold Rep
  refine ⟨[x, y, z], rfl, ?_⟩
  unfold Reps; refine ⟨x, _, rfl, h1, ?_⟩
  unfold Reps; refine ⟨y, _, rfl, h2, ?_⟩
  unfold Reps; exact ⟨z, _, rfl, h3, by unfold Reps; rfl⟩
theorem rep_tup2 {F : Nat → Prop} {p q : PD} {x y : Value} (h1 : Rep w F p x) (h2 : Rep w F q y) : Rep w F (.tup [p, q]) (.tuple #[x, y]) := by
  unfold Rep
  refine ⟨[x, y], rfl, ?_⟩
  unfold Reps; refine ⟨x, _, rfl, h1, ?_⟩
  unfold Reps; exact ⟨y, _, rfl, h2, by unfold Reps; rfl⟩
theorem rep_str {F : Nat → Prop} {k : ByteArray} (h : k.size ≤ maxLen) : Rep w F (.val (.string k)) (.string k) := by unfold Rep; exact ⟨rfl, h⟩
theorem k_rangeM {d : Nat} {x : Operand} {t kt et : Nat} {m : List (ByteArray × JV)} (hN : Nat.blt d N = true) (hd0 : s.tb d = none) (hx : s.ev x = .dat (dvMm m)) [ht : MTI P t kt et] (h : Run P X N Q (.ops ops rem :: ks) (s.new d (.res (itR m [])) (.own d))) : RunK P X N Q ops rem ks (some d) (.range t x) s := ⟨fun ty pos aft => ⟨fun hX a w ⟨ρ, hc⟩ => by
  have hdN : d < X.N := by rw [hX.1]; simpa [Nat.blt_eq] using hN
  have h2 := hc.ev x
  rw [hx] at h2
  unfold VR dvMm Rep at h2
  obtain ⟨bm, es, cl, e1, hb, hh, hs, hl, he, hok⟩ := h2
  have hm := mapT_spec ht.out
  have hlt : bm < w.heap.size := blk_lt hh
  have hr : (execOp a.eval ⟨some d, .range t x, ty, pos, aft, none⟩).run P w = .ok (.value (.pointer (some ⟨w.heap.size, 0, none⟩))) (w.alloc (.mapIter (some bm) cl #[] cl)) := by
    simp [execOp, e1, run_range_map w t kt et bm es cl hm hh, Result.andThen]
  refine wp_value hr ?_
  have hB : Below w.heap.size w (w.alloc (.mapIter (some bm) cl #[] cl)) := (Below.refl _ _).alloc (Nat.le_refl _) _
  have hc1 := hc.grow hB
  have hFF0 : ∀ b, FF X w s.tb ρ b → FF X (w.alloc (.mapIter (some bm) cl #[] cl)) s.tb ρ b := fun b hb => FF_new hB hc b (.inl hb)
  refine h.out hX _ _ ⟨upd ρ d ⟨.pointer (some ⟨w.heap.size, 0, none⟩), fun b => b = w.heap.size⟩, ?_⟩
  have hnl : ∀ k, liveB ((upd s.tb d (some (.res (itR m [])))) k) = true → k = d ∨ (k ≠ d ∧ liveB (s.tb k) = true) := by
    intro k hk
    by_cases e : k = d
    · exact .inl e
    · rw [upd_ne _ _ e] at hk; exact .inr ⟨e, hk⟩
  have hold : ∀ k b, liveB (s.tb k) = true → (ρ k).fp b → b < w.heap.size := by
    intro k b hk hb
    obtain ⟨x, hx, hl⟩ := live_some hk
    exact (hc.rowBlk hx hl hb).2
  have hFF : ∀ b, FF X w s.tb ρ b → FF X (w.alloc (.mapIter (some bm) cl #[] cl)) (upd s.tb d (some (.res (itR m [])))) (upd ρ d ⟨.pointer (some ⟨w.heap.size, 0, none⟩), fun b => b = w.heap.size⟩) b := by
    intro b hb
    refine ⟨hb.1, (hFF0 b hb).2.1, fun k hk e => ?_⟩
    rcases hnl k hk with rfl | ⟨hne, hk⟩
    · rw [upd_same] at e
      have e : b = w.heap.size := e
      have := hb.2.1; omega
    · rw [upd_ne _ _ hne] at e; exact hb.2.2 k hk e
  have hkk : ∀ k x, s.tb k = some x → ∃ x', (upd s.tb d (some (.res (itR m [])))) k = some x' ∧ ((x'.kind = x.kind ∧ ((upd ρ d ⟨.pointer (some ⟨w.heap.size, 0, none⟩), fun b => b = w.heap.size⟩) k).v = (ρ k).v) ∨ (x' = .dead ∧ x.kind ≠ 0)) := by
    intro k x hx
    have hne : k ≠ d := fun e => by rw [e, hd0] at hx; cases hx
    exact ⟨x, by rw [upd_ne _ _ hne]; exact hx, .inl ⟨rfl, by rw [upd_ne _ _ hne]⟩⟩
  have hsame : ∀ b, FF X w s.tb ρ b → (w.alloc (.mapIter (some bm) cl #[] cl)).heap[b]? = w.heap[b]? := fun b hb => hB.block b hb.2.1
  have hiter : (w.alloc (.mapIter (some bm) cl #[] cl)).heap[w.heap.size]? = some (.mapIter (some bm) cl #[] cl) := (MapKept.heap_alloc _ _).1
  have key : ConcAt X { s with tb := upd s.tb d (some (.res (itR m []))) } a (w.alloc (.mapIter (some bm) cl #[] cl)) (upd ρ d ⟨.pointer (some ⟨w.heap.size, 0, none⟩), fun b => b = w.heap.size⟩) := by
    refine ⟨hc.size, hc.defers, hc1.below, fun t => (hc.tmps t).keep hsame hFF hkk, fun k x hx => ?_, fun k k' b h1 h2 e1 e2 => ?_, fun k hk hl => ?_⟩
    · by_cases e : k = d
      · subst e
        rw [show ({ s with tb := upd s.tb k (some (.res (itR m []))) } : Sta).tb k = some (.res (itR m [])) from upd_same _ _ _] at hx
        simp only [Option.some.injEq] at hx
        subst hx
        show (itR m []).rel _ _ _ _ ∧ _
        rw [upd_same]
        refine ⟨⟨bm, w.heap.size, es, cl, [], rfl, hFF bm hb, rfl, fun b hb => hb, ⟨(hsame bm hb).trans hh, ⟨#[], rfl, hiter⟩, by omega, by simp, by simp, hs.1, hs.2.1⟩, hs, IsEs.keep hsame hFF _ _ he, hok, by unfold IsEs; rfl, by simp⟩, ?_⟩
        intro b hb
        have hb : b = w.heap.size := hb
        subst hb
        exact ⟨.inl hc.below.size, by simp⟩
      · have hx' : s.tb k = some x := by rw [← hx]; exact (upd_ne _ _ e).symm
        exact (hc.blks k x hx').keep hsame hFF hkk (upd_ne _ _ e) (fun b hl hf => hB.block b (hc.rowBlk hx' hl hf).2) hB.size
    · rcases hnl k h1 with rfl | ⟨n1, g1⟩ <;> rcases hnl k' h2 with h | ⟨n2, g2⟩
      · exact h.symm
      · rw [upd_same] at e1; rw [upd_ne _ _ n2] at e2
        have e1 : b = w.heap.size := e1
        have := hold k' b g2 e2; omega
      · subst h
        rw [upd_same] at e2; rw [upd_ne _ _ n1] at e1
        have e2 : b = w.heap.size := e2
        have := hold k b g1 e1; omega
      · rw [upd_ne _ _ n1] at e1; rw [upd_ne _ _ n2] at e2
        exact hc.apart k k' b g1 g2 e1 e2
    · rcases hnl k hl with rfl | ⟨n1, h1⟩
      · have := X.hN; omega
      · rw [upd_ne _ _ n1]; exact hc.lent k hk h1
  refine key.putNew hdN ?_
  unfold VR
  exact ⟨rfl, .inl ⟨_, upd_same _ _ _, .inr rfl, by rw [upd_same]⟩⟩⟩⟩
/-- 'next': all have come out, or one comes that has not. -/
theorem k_nextM {d : Nat} {x : Operand} {k : Nat} {m done : List (ByteArray × JV)} (hN : Nat.blt d N = true) (hx : s.ev x = .own k) (hk : s.tb k = some (.res (itR m done)))
    (h0 : (∀ y ∈ m, y ∈ done) → Run P X N Q (.ops ops rem :: ks) (s.put (some d) (.dat (.tup [.val (.bool false)]))))
    (h1 : ∀ y, y ∈ m → y.1 ∉ done.map (·.1) → Run P X N Q (.ops ops rem :: ks) ((s.set k (.res (itR m (done ++ [y])))).put (some d) (.dat (.tup [.val (.bool true), .val (.string y.1), pdJ y.2])))) :
    RunK P X N Q ops rem ks (some d) (.next x false) s := ⟨fun ty pos aft => ⟨fun hX a w ⟨ρ, hc⟩ => by
  have h2 := hc.ev x
  rw [hx] at h2
  have e2 := VR_ownR h2 hk rfl
  have hblk := hc.blks k _ hk
  obtain ⟨⟨bm, r, es, cl, dn, e3, hbm, hr, hO, hrng, hst, hes, hok, hdn, hsub⟩, _⟩ := hblk
  rw [e3] at e2
  obtain ⟨seen, hseen, hit⟩ := hrng.iter
  have hkn : (m.map (·.1)).Nodup := by unfold JOk at hok; exact hok.1
  rcases run_next_at (P := P) w ty r bm cl cl seen es cl hit hrng.map hrng.old (Nat.le_refl _) with ⟨hl, hrun⟩ | ⟨e, he, w1, hw1, hrun⟩
  · have hrun' : (execOp a.eval ⟨some d, .next x false, ty, pos, aft, none⟩).run P w = .ok (.value (.tuple #[.bool false])) w := by simp [execOp, e2, hrun, Result.andThen]
    refine wp_value hrun' ((h0 fun y hy => ?_).out hX _ _ ⟨ρ, hc.putO (hN_ok hN hX) (by unfold VR Rep; exact ⟨[.bool false], rfl, by unfold Reps; exact ⟨_, [], rfl, by unfold Rep; exact ⟨rfl, trivial⟩, by unfold Reps; rfl⟩⟩)⟩)
    obtain ⟨e, he, hke, hz, hj⟩ := hes.mem.1 y hy
    have hl' : leftOf es seen = #[] := Array.eq_empty_of_size_eq_zero hl
    have hc' : seen.contains e.born = true := by
      cases hc' : seen.contains e.born with
      | true => rfl
      | false =>
        exfalso
        have : e ∈ (leftOf es seen) := by
          unfold leftOf
          simp only [Array.mem_filter]
          exact ⟨by simpa using he, by rw [hc']; rfl⟩
        rw [hl'] at this
        simp at this
    have hm : e.born ∈ dn.map (·.born) := by rw [← hseen]; simpa using hc'
    obtain ⟨q, hq, hqb⟩ := List.mem_map.1 hm
    have hqe : q = e := born_inj hrng.born (hrng.sub q hq) he hqb
    subst hqe
    obtain ⟨z, hz1, hzk, _⟩ := hdn.mem.2 q hq
    have : z = y := fst_inj hkn (hsub z hz1) hy (by rw [hke] at hzk; injection hzk with h; exact h.symm)
    subst this
    exact hz1
  · have hes' : e ∈ es.toList := by
      unfold leftOf at he; simp at he; simpa using he.1
    have hnb : e.born ∉ dn.map (·.born) := by
      unfold leftOf at he
      simp at he
      intro hd
      apply he.2
      have : e.born ∈ seen.toList := by rw [hseen]; exact hd
      simpa using this
    have hh : w1.heap = w.heap := by rcases hw1 with rfl | rfl <;> rfl
    have hlt : r < w1.heap.size := by rw [hh]; exact hrng.lt_.2
    have hr' : Rng (setBlock w1 r (.mapIter (some bm) cl (seen.push e.born) cl)) bm r es cl (dn ++ [e]) := by
      refine ⟨?_, ⟨seen.push e.born, by simp [hseen], setBlock_self _ _ _ hlt⟩, hrng.ne, ?_, ?_, hrng.old, hrng.born⟩
      · rw [setBlock_other _ hrng.ne, hh]; exact hrng.map
      · intro q hq
        rcases List.mem_append.1 hq with hq | hq
        · exact hrng.sub q hq
        · simp at hq; rw [hq]; exact hes'
      · rw [List.map_append, List.nodup_append]
        refine ⟨hrng.nodup, by simp, fun a ha b hb => ?_⟩
        simp at hb; subst hb
        exact fun e' => hnb (e' ▸ ha)
    have hrun' : (execOp a.eval ⟨some d, .next x false, ty, pos, aft, none⟩).run P w = .ok (.value (.tuple #[.bool true, e.key, e.val])) (setBlock w1 r (.mapIter (some bm) cl (seen.push e.born) cl)) := by simp [execOp, e2, hrun, Result.andThen]
    obtain ⟨y, hy, hke, hz, hj⟩ := hes.mem.2 e hes'
    have hsz : (setBlock w1 r (.mapIter (some bm) cl (seen.push e.born) cl)).heap.size = w.heap.size := by
      show (Array.setIfInBounds _ _ _).size = _
      rw [Array.size_setIfInBounds, hh]
    have hB : Below 0 w (setBlock w1 r (.mapIter (some bm) cl (seen.push e.born) cl)) := by
      have hB1 : Below 0 w w1 := by
        rcases hw1 with rfl | rfl
        · exact Below.refl _ _
        · exact (Below.refl _ _).drew
      exact hB1.trans ⟨rfl, rfl, rfl, by rw [hsz, hh]; exact Nat.le_refl _, fun k hk => absurd hk (Nat.not_lt_zero _)⟩
    have hoth : ∀ b, ¬ (ρ k).fp b → (setBlock w1 r (.mapIter (some bm) cl (seen.push e.born) cl)).heap[b]? = w.heap[b]? := fun b hb => by
      rw [setBlock_other _ (fun e : b = r => hb (e ▸ hr)), hh]
    have hF : ∀ b, FF X w s.tb ρ b → (setBlock w1 r (.mapIter (some bm) cl (seen.push e.born) cl)).heap[b]? = w.heap[b]? := fun b hF => hoth b (hF.2.2 k (by rw [hk]; rfl))
    have hJ := JOkm_mem (m := m) (by unfold JOk at hok; exact hok.2.2) y hy
    have hset := hc.setRes (R' := itR m (done ++ [y])) hk hB hsz hoth ⟨bm, r, es, cl, dn ++ [e], e3, hbm, hr, hO, hr', hst, IsEs.keep hF (fun _ h => h) _ _ hes, hok,
      IsEs.snoc hke hz (IsJ.keep hF (fun _ h => h) _ hj) (IsEs.keep hF (fun _ h => h) _ _ hdn), fun z hz => by
        rcases List.mem_append.1 hz with hz | hz
        · exact hsub z hz
        · simp at hz; rw [hz]; exact hy⟩
    refine wp_value hrun' ((h1 y hy fun hmem => ?_).out hX _ _ ⟨ρ, hset.putO (hN_ok hN hX) ?_⟩)
    · obtain ⟨z, hz1, hz2⟩ := List.mem_map.1 hmem
      obtain ⟨q, hq, hqk, _⟩ := hdn.mem.1 z hz1
      have : q = e := key_inj hst.2.2 (hrng.sub q hq) hes' (by rw [hqk, hke, hz2])
      subst this
      exact hnb (List.mem_map_of_mem (f := (·.born)) hq)
    · unfold VR
      have hF2 : ∀ b, FF X w s.tb ρ b → FF X (setBlock w1 r (.mapIter (some bm) cl (seen.push e.born) cl)) (s.set k (.res (itR m (done ++ [y])))).tb ρ b := fun b' hF => ⟨hF.1, by rw [hsz]; exact hF.2.1, fun k' hk' => hF.2.2 k' (by
        by_cases ek : k' = k
        · subst ek; rw [hk]; rfl
        · simp only [Sta.set, upd_ne _ _ ek] at hk'; exact hk')⟩
      rw [hke]
      exact rep_tup3 (by unfold Rep; exact ⟨rfl, trivial⟩) (rep_str hz) (by unfold pdJ Rep; exact ⟨IsJ.keep hF hF2 _ hj, hJ⟩)⟩⟩
/-- 'entry': the one that came out last. -/
theorem op_entryM {o : Oper} (hd : dstOk X.N o.dst = true) {x : Operand} (ho : o.op = .entry x) {k : Nat} {m done : List (ByteArray × JV)} {y : ByteArray × JV} (hx : s.ev x = .own k) (hk : s.tb k = some (.res (itR m (done ++ [y])))) : OpS P X o s (s.put o.dst (.dat (itD y))) := by
  refine opS_value hd fun a w ρ hc => ?_
  have h2 := hc.ev x
  rw [hx] at h2
  have e2 := VR_ownR h2 hk rfl
  have hblk := hc.blks k _ hk
  obtain ⟨⟨bm, r, es, cl, dn, e3, hbm, hr, hO, hrng, hst, hes, hok, hdn, hsub⟩, _⟩ := hblk
  rw [e3] at e2
  have hsplit : ∀ {m : List (ByteArray × JV)} {dn : List MapEntry}, IsEs w (FF X w s.tb ρ) (m ++ [y]) dn → ∃ dn' e, dn = dn' ++ [e] ∧ e.key = .string y.1 ∧ y.1.size ≤ maxLen ∧ IsJ w (FF X w s.tb ρ) y.2 e.val := by
    intro m
    induction m with
    | nil =>
      intro dn h
      have h : IsEs w (FF X w s.tb ρ) [y] dn := h
      unfold IsEs at h
      obtain ⟨e, r', rfl, h1, h2, h3, h4⟩ := h
      unfold IsEs at h4
      subst h4
      exact ⟨[], e, rfl, h1, h2, h3⟩
    | cons z m ih =>
      intro dn h
      have h : IsEs w (FF X w s.tb ρ) (z :: (m ++ [y])) dn := h
      unfold IsEs at h
      obtain ⟨e, r', rfl, h1, h2, h3, h4⟩ := h
      obtain ⟨dn', e', rfl, h5⟩ := ih h4
      exact ⟨e :: dn', e', rfl, h5⟩
  obtain ⟨dn', e, rfl, hke, hz, hj⟩ := hsplit hdn
  obtain ⟨seen, hseen, hit⟩ := hrng.iter
  obtain ⟨seen', rfl⟩ : ∃ seen' : Array Nat, seen = seen'.push e.born := by
    refine ⟨(dn'.map (·.born)).toArray, ?_⟩
    apply Array.ext'
    rw [hseen]; simp
  have hent := run_entry_at (P := P) w r bm cl seen' es cl e hit hrng.map (hrng.sub e (by simp)) hrng.born
  refine ⟨.tuple #[e.key, e.val], by simp [execOp, ho, e2, hent, Result.andThen], ?_⟩
  unfold VR itD
  rw [hke]
  exact rep_tup2 (rep_str hz) (by unfold pdJ Rep; exact ⟨hj, JOkm_mem (by unfold JOk at hok; exact hok.2.2) y (hsub y (by simp))⟩)
theorem k_entryM {d : Nat} {x : Operand} {k : Nat} {m done : List (ByteArray × JV)} {y : ByteArray × JV} (hN : Nat.blt d N = true) (hx : s.ev x = .own k) (hk : s.tb k = some (.res (itR m (done ++ [y])))) (h : Run P X N Q (.ops ops rem :: ks) (s.put (some d) (.dat (itD y)))) : RunK P X N Q ops rem ks (some d) (.entry x) s := k_of hN (fun _ _ _ hd => op_entryM hd rfl hx hk) h
end
end Go.Proofs.Ytbbacpdbbmjblaa
end
section
set_option linter.unusedVariables false
namespace Go.Proofs.Ytbbacpdbbmjblaa
open Go.RowKit
set_option linter.unusedSimpArgs false
/-- The allocator; a value; a list, by itself and behind a pointer; a map. -/
def dvA : PD := .iface 131 (.ptr (.agg []))
def dvV (j : JV) : PD := .iface 139 (.ptr (.agg [pdJ j]))
def dvL (l : List JV) : PD := .iface 237 (dvLs l)
def dvLp (l : List JV) : PD := .iface 250 (.ptr (dvLs l))
def dvM (m : List (ByteArray × JV)) : PD := .iface 238 (dvMm m)
/-- The structs among the types of own memory. -/
def gV (t : Nat) : Bool := Nat.beq t 173 || (Nat.beq t 133 || Nat.beq t 252)
instance : MI Try.prog 139 "IsMap" 147 (some 173) := ⟨by kernel_rfl⟩
instance : MI Try.prog 139 "IsList" 146 (some 173) := ⟨by kernel_rfl⟩
instance : MI Try.prog 139 "IsBool" 143 (some 173) := ⟨by kernel_rfl⟩
instance : MI Try.prog 139 "IsInt" 145 (some 173) := ⟨by kernel_rfl⟩
instance : MI Try.prog 139 "IsFloat" 144 (some 173) := ⟨by kernel_rfl⟩
instance : MI Try.prog 139 "IsString" 149 (some 173) := ⟨by kernel_rfl⟩
instance : MI Try.prog 139 "IsNull" 148 (some 173) := ⟨by kernel_rfl⟩
instance : MI Try.prog 139 "AsBool" 135 (some 173) := ⟨by kernel_rfl⟩
instance : MI Try.prog 139 "AsInt" 137 (some 173) := ⟨by kernel_rfl⟩
instance : MI Try.prog 139 "AsFloat" 136 (some 173) := ⟨by kernel_rfl⟩
instance : MI Try.prog 139 "AsString" 142 (some 173) := ⟨by kernel_rfl⟩
instance : MI Try.prog 139 "AsListUsing" 139 (some 173) := ⟨by kernel_rfl⟩
instance : MI Try.prog 139 "AsMapUsing" 141 (some 173) := ⟨by kernel_rfl⟩
instance : MI Try.prog 131 "Free" 134 none := ⟨by kernel_rfl⟩
instance : MI Try.prog 131 "pub-coparcener/pub/structuredmerge/value.allocValueUnstructured" 86 none := ⟨by kernel_rfl⟩
instance : MI Try.prog 131 "pub-coparcener/pub/structuredmerge/value.allocListUnstructuredRange" 184 none := ⟨by kernel_rfl⟩
instance : MI Try.prog 237 "Length" 156 none := ⟨by kernel_rfl⟩
instance : MI Try.prog 250 "Length" 156 (some 237) := ⟨by kernel_rfl⟩
instance : MI Try.prog 237 "RangeUsing" 158 none := ⟨by kernel_rfl⟩
instance : MI Try.prog 250 "RangeUsing" 158 (some 237) := ⟨by kernel_rfl⟩
instance : MI Try.prog 237 "EqualsUsing" 155 none := ⟨by kernel_rfl⟩
instance : MI Try.prog 238 "Length" 168 none := ⟨by kernel_rfl⟩
instance : MI Try.prog 238 "EqualsUsing" 162 none := ⟨by kernel_rfl⟩
instance : MI Try.prog 238 "IterateUsing" 167 none := ⟨by kernel_rfl⟩
instance : MI Try.prog 238 "Has" 165 none := ⟨by kernel_rfl⟩
instance : MI Try.prog 238 "GetUsing" 164 none := ⟨by kernel_rfl⟩
instance : MI Try.prog 238 "ZipUsing" 171 none := ⟨by kernel_rfl⟩
instance : MI Try.prog 253 "Next" 183 none := ⟨by kernel_rfl⟩
instance : MI Try.prog 251 "Next" 181 none := ⟨by kernel_rfl⟩
instance : MI Try.prog 253 "Item" 182 none := ⟨by kernel_rfl⟩
instance : MTI Try.prog 238 9 20 := ⟨by kernel_rfl, by kernel_rfl, by kernel_rfl⟩
instance : ZI Try.prog 133 [] := ⟨by kernel_rfl, by rfl⟩
instance : PLI Try.prog 133 [] := ⟨by kernel_rfl⟩
instance : ZI Try.prog 252 [] := ⟨by kernel_rfl, by rfl⟩
instance : PLI Try.prog 252 [] := ⟨by kernel_rfl⟩
theorem free_idle : Idle Try.prog 134 2 := by
  refine ⟨by kernel_rfl, fun vs u w hl => ?_⟩
  refine (callsD_of_wp (R := fun e w' => (∃ v, e = .returned v) ∧ Below w.heap.size w w') Try.func134 rfl ?_)
  refine wp_skip ?_
  exact ⟨rfl, _, results_none rfl _ _ _, ⟨_, rfl⟩, Below.refl _ _⟩
/-- The struct around a tree. -/
theorem vu_form {w : World} {F : Nat → Prop} {j : JV} {vs : List Value} (h : Reps w F [.agg [pdJ j]] vs) : ∃ u, vs = [.agg #[u]] ∧ IsJ w F j u := by
  unfold Reps at h
  obtain ⟨v, r', rfl, hv, hr⟩ := h
  unfold Reps at hr
  subst hr
  unfold Rep at hv
  obtain ⟨us, rfl, hu, _⟩ := hv
  unfold Reps at hu
  obtain ⟨u, r'', rfl, hj, hr⟩ := hu
  unfold Reps at hr
  subst hr
  unfold pdJ Rep at hj
  exact ⟨u, rfl, hj.1⟩
theorem IsMap_p (j : JV) : PCall Try.prog 147 [.agg [pdJ j]] (.val (.bool (JV.IsMap j))) := by
  intro w F vs hF hvs
  obtain ⟨u, rfl, hj⟩ := vu_form hvs
  refine (IsMap_any j w u hj.shape).mono ?_
  rintro e w' ⟨rfl, rfl⟩
  exact ⟨_, rfl, (Below.refl _ _).alloc (Nat.le_refl _) _, by unfold Rep; exact ⟨rfl, trivial⟩⟩
theorem IsList_p (j : JV) : PCall Try.prog 146 [.agg [pdJ j]] (.val (.bool (JV.IsList j))) := by
  intro w F vs hF hvs
  obtain ⟨u, rfl, hj⟩ := vu_form hvs
  refine (IsList_any j w u hj.shape).mono ?_
  rintro e w' ⟨rfl, rfl⟩
  exact ⟨_, rfl, (Below.refl _ _).alloc (Nat.le_refl _) _, by unfold Rep; exact ⟨rfl, trivial⟩⟩
theorem IsBool_p (j : JV) : PCall Try.prog 143 [.agg [pdJ j]] (.val (.bool (JV.IsBool j))) := by
  intro w F vs hF hvs
  obtain ⟨u, rfl, hj⟩ := vu_form hvs
  refine (IsBool_any j w u hj.shape).mono ?_
  rintro e w' ⟨rfl, rfl⟩
  exact ⟨_, rfl, (Below.refl _ _).alloc (Nat.le_refl _) _, by unfold Rep; exact ⟨rfl, trivial⟩⟩
theorem IsInt_p (j : JV) : PCall Try.prog 145 [.agg [pdJ j]] (.val (.bool (JV.IsInt j))) := by
  intro w F vs hF hvs
  obtain ⟨u, rfl, hj⟩ := vu_form hvs
  refine (IsInt_any j w u hj.shape).mono ?_
  rintro e w' ⟨rfl, rfl⟩
  exact ⟨_, rfl, (Below.refl _ _).alloc (Nat.le_refl _) _, by unfold Rep; exact ⟨rfl, trivial⟩⟩
theorem IsFloat_p (j : JV) : PCall Try.prog 144 [.agg [pdJ j]] (.val (.bool (JV.IsFloat j))) := by
  intro w F vs hF hvs
  obtain ⟨u, rfl, hj⟩ := vu_form hvs
  refine (IsFloat_any j w u hj.shape).mono ?_
  rintro e w' ⟨rfl, rfl⟩
  exact ⟨_, rfl, (Below.refl _ _).alloc (Nat.le_refl _) _, by unfold Rep; exact ⟨rfl, trivial⟩⟩
theorem IsString_p (j : JV) : PCall Try.prog 149 [.agg [pdJ j]] (.val (.bool (JV.IsString j))) := by
  intro w F vs hF hvs
  obtain ⟨u, rfl, hj⟩ := vu_form hvs
  refine (IsString_any j w u hj.shape).mono ?_
  rintro e w' ⟨rfl, rfl⟩
  exact ⟨_, rfl, (Below.refl _ _).alloc (Nat.le_refl _) _, by unfold Rep; exact ⟨rfl, trivial⟩⟩
theorem IsNull_p (j : JV) : PCall Try.prog 148 [.agg [pdJ j]] (.val (.bool (JV.IsNull j))) := by
  intro w F vs hF hvs
  obtain ⟨u, rfl, hj⟩ := vu_form hvs
  refine (IsNull_any j w u hj.shape).mono ?_
  rintro e w' ⟨rfl, rfl⟩
  exact ⟨_, rfl, (Below.refl _ _).alloc (Nat.le_refl _) _, by unfold Rep; exact ⟨rfl, trivial⟩⟩
theorem AsBool_p (x : Bool) : PCall Try.prog 135 [.agg [pdJ (.bool x)]] (.val (.bool x)) := by
  intro w F vs hF hvs
  obtain ⟨u, rfl, hj⟩ := vu_form hvs
  unfold IsJ at hj; subst hj
  refine (AsBool_any x w).mono ?_
  rintro e w' ⟨rfl, rfl⟩
  exact ⟨_, rfl, (Below.refl _ _).alloc (Nat.le_refl _) _, by unfold Rep; exact ⟨rfl, trivial⟩⟩
theorem AsInt_p (x : Int) : PCall Try.prog 137 [.agg [pdJ (.int x)]] (.val (.int .i64 x)) := by
  intro w F vs hF hvs
  obtain ⟨u, rfl, hj⟩ := vu_form hvs
  unfold IsJ at hj; obtain ⟨rfl, hw⟩ := hj
  refine (AsInt_any x w).mono ?_
  rintro e w' ⟨rfl, rfl⟩
  exact ⟨_, rfl, (Below.refl _ _).alloc (Nat.le_refl _) _, by unfold Rep; exact ⟨rfl, hw⟩⟩
theorem AsFloat_p (x : Nat) : PCall Try.prog 136 [.agg [pdJ (.flt x)]] (.val (.float .f64 x)) := by
  intro w F vs hF hvs
  obtain ⟨u, rfl, hj⟩ := vu_form hvs
  unfold IsJ at hj; obtain ⟨rfl, hw⟩ := hj
  refine (AsFloat_any x w).mono ?_
  rintro e w' ⟨rfl, rfl⟩
  exact ⟨_, rfl, (Below.refl _ _).alloc (Nat.le_refl _) _, by unfold Rep; exact ⟨rfl, hw⟩⟩
theorem AsString_p (x : ByteArray) : PCall Try.prog 142 [.agg [pdJ (.str x)]] (.val (.string x)) := by
  intro w F vs hF hvs
  obtain ⟨u, rfl, hj⟩ := vu_form hvs
  unfold IsJ at hj; obtain ⟨rfl, hw⟩ := hj
  refine (AsString_any x w).mono ?_
  rintro e w' ⟨rfl, rfl⟩
  exact ⟨_, rfl, (Below.refl _ _).alloc (Nat.le_refl _) _, by unfold Rep; exact ⟨rfl, hw⟩⟩
theorem asList_p (l : List JV) : PCall Try.prog 139 [.agg [pdJ (.list l)], dvA] (dvL l) := by
  refine PCall.vu ?_
  refine pcall_of_run Try.func139 rfl Try.ntmps139 rfl (fun X => ?_)
  repeat' (first
    | refine run_seq ?_
    | (refine k_pick rfl ?_; first | refine k_assignD rfl rfl ?_ | refine k_fieldAddrB rfl rfl rfl ?_ | refine k_loadBD rfl rfl rfl (by first | rfl | (simp only [cellsD]; rfl)) ?_ | refine k_boxW rfl rfl rfl (by first | rfl | (simp only [cellsD]; rfl)) ?_ | refine k_iface rfl rfl (by kernel_rfl) ?_ | refine k_ta1 rfl rfl (by kernel_rfl) ?_)
    | refine run_opsEnd ?_
    | refine run_region ?_
    | refine run_retOk (resOk_tmp rfl rfl ?_)
    | fail)
  all_goals exact PLe.refl _
theorem asMap_p (m : List (ByteArray × JV)) : PCall Try.prog 141 [.agg [pdJ (.map m)], dvA] (dvM m) := by
  refine PCall.vu ?_
  refine pcall_of_run Try.func141 rfl Try.ntmps141 rfl (fun X => ?_)
  repeat' (first
    | refine run_seq ?_
    | (refine k_pick rfl ?_; first | refine k_assignD rfl rfl ?_ | refine k_moveD rfl rfl ?_ | refine k_fieldAddrB rfl rfl rfl ?_ | refine k_loadBD rfl rfl rfl (by first | rfl | (simp only [cellsD]; rfl)) ?_ | refine k_boxW rfl rfl rfl (by first | rfl | (simp only [cellsD]; rfl)) ?_ | refine k_extract rfl rfl rfl ?_ | refine k_iface rfl rfl (by kernel_rfl) ?_ | refine k_taS rfl rfl (by kernel_rfl) ?_ | refine k_cmpNil rfl rfl rfl (by kernel_rfl) (by exact NilIs.ifc) rfl ?_)
    | refine run_opsEnd ?_
    | refine run_region ?_
    | refine run_condT rfl (by first | rfl | assumption) ?_
    | refine run_condF rfl (by first | rfl | assumption) ?_
    | refine run_block ?_
    | refine run_skip ?_
    | refine run_retOk (resOk_tmp rfl rfl ?_)
    | fail)
  all_goals exact PLe.refl _
theorem lenL_p (l : List JV) : PCall Try.prog 156 [dvLs l] (.val (.int .i64 l.length)) := by
  refine pcall_of_run Try.func156 rfl Try.ntmps156 rfl (fun X => ?_)
  repeat' (first
    | refine run_seq ?_
    | (refine k_pick rfl ?_; first | refine k_assignD rfl rfl ?_ | refine k_moveD rfl rfl ?_ | refine k_lenJ rfl rfl ?_)
    | refine run_opsEnd ?_
    | refine run_region ?_
    | refine run_retOk (resOk_tmp rfl rfl ?_)
    | fail)
  all_goals exact PLe.refl _
theorem lenM_p (m : List (ByteArray × JV)) : PCall Try.prog 168 [dvMm m] (.val (.int .i64 m.length)) := by
  refine pcall_of_run Try.func168 rfl Try.ntmps168 rfl (fun X => ?_)
  repeat' (first
    | refine run_seq ?_
    | (refine k_pick rfl ?_; first | refine k_assignD rfl rfl ?_ | refine k_moveD rfl rfl ?_ | refine k_lenM rfl rfl ?_)
    | refine run_opsEnd ?_
    | refine run_region ?_
    | refine run_retOk (resOk_tmp rfl rfl ?_)
    | fail)
  all_goals exact PLe.refl _
theorem emptyNext_p : PCall Try.prog 181 [.ptr (.agg [])] (.val (.bool false)) := by
  refine pcall_of_run Try.func181 rfl Try.ntmps181 rfl (fun X => ?_)
  repeat' (first
    | refine run_seq ?_
    | (refine k_pick rfl ?_; refine k_assignD rfl rfl ?_)
    | refine run_opsEnd ?_
    | refine run_region ?_
    | refine run_retOk (resOk_tmp rfl rfl ?_)
    | fail)
  all_goals exact PLe.refl _
def dvE : PD := .iface 251 (.ptr (.agg []))
theorem rangeNil_p : PCall Try.prog 158 [dvLs [], dvA] dvE := by
  refine pcall_of_run Try.func158 rfl Try.ntmps158 rfl (fun X => ?_)
  have hq : decide (((([] : List JV).length : Nat) : Int) = 0) = true := rfl
  repeat' (first
    | refine run_seq ?_
    | (refine k_pick rfl ?_; first | refine k_assignD rfl rfl ?_ | refine k_moveD rfl rfl ?_ | refine k_bin2B rfl rfl rfl rfl ?_ | refine k_boxW rfl rfl rfl (by first | rfl | (simp only [cellsD]; rfl)) ?_ | refine k_build rfl rfl rfl ?_ | refine k_assignI rfl rfl ?_ | refine k_ifaceP rfl rfl (by kernel_rfl) ?_ | refine k_lenJ rfl rfl ?_)
    | refine run_opsEnd ?_
    | refine run_region ?_
    | refine run_condT rfl (by first | rfl | assumption) ?_
    | fail)
  refine run_frz gV (fun _ => true) ?_
  refine run_retOk (resOk_tmp rfl rfl ?_)
  exact PLe.refl _
theorem alloc_c : ACall1 Try.prog 86 [.dat (.ptr (.agg []))] [] (.ptr 0 0) [(0, .box 173 [.dat (.val .nilIface)])] := by
  refine acall_of_run Try.func86 rfl Try.ntmps86 rfl (fun X => ?_)
  repeat' (first
    | refine run_seq ?_
    | (refine k_pick rfl ?_; first | refine k_assignD rfl rfl ?_ | refine k_boxW rfl rfl rfl (by first | rfl | (simp only [cellsD]; rfl)) ?_ | refine k_assignP rfl rfl ?_ | refine k_build rfl rfl rfl ?_)
    | refine run_opsEnd ?_
    | refine run_region ?_
    | fail)
  refine run_retA () (thk [(0, 4)] 0) (tm := [(2, .ptr 0 0)]) ?_ (resA_tmp rfl rfl)
  (refine ⟨?_, ?_, by rfl⟩ <;> repeat' (first | exact trivial | exact ALe.ptr rfl | exact ALe.own rfl | exact ALe.elt rfl | exact BLe.boxD _ _ | exact BLe.row rfl | exact BLe.res | exact BLe.dead rfl | exact ALe.dat (PLe.refl _) | exact CLe.nil | refine And.intro ?_ ?_ | refine ALe.iface ?_ | refine ALe.clo ?_ | refine CLe.cons ?_ ?_ | refine BLe.box ?_ | refine BLe.row ?_ | exact ALe.any _ | refine ALe.dat (PLe.of_eq ?_)))
theorem allocR_c : ACall1 Try.prog 184 [.dat (.ptr (.agg []))] [] (.ptr 0 0) [(0, .box 255 [.dat (.val (.slice none 0 0)), .ptr 1 0, .dat (.val (.int .i64 0))]), (1, .box 173 [.dat (.val .nilIface)])] := by
  refine acall_of_run Try.func184 rfl Try.ntmps184 rfl (fun X => ?_)
  repeat' (first
    | refine run_seq ?_
    | (refine k_pick rfl ?_; first | refine k_assignD rfl rfl ?_ | refine k_boxW rfl rfl rfl (by first | rfl | (simp only [cellsD]; rfl)) ?_ | refine k_assignP rfl rfl ?_ | refine k_build rfl rfl rfl ?_ | refine k_buildG rfl rfl rfl ?_ | refine k_box rfl rfl rfl ?_)
    | refine run_opsEnd ?_
    | refine run_region ?_
    | fail)
  refine run_retA () (thk [(0, 6), (1, 4)] 0) (tm := [(2, .ptr 0 0)]) ?_ (resA_tmp rfl rfl)
  (refine ⟨?_, ?_, by rfl⟩ <;> repeat' (first | exact trivial | exact ALe.ptr rfl | exact ALe.own rfl | exact ALe.elt rfl | exact BLe.boxD _ _ | exact BLe.row rfl | exact BLe.res | exact BLe.dead rfl | exact ALe.dat (PLe.refl _) | exact CLe.nil | refine And.intro ?_ ?_ | refine ALe.iface ?_ | refine ALe.clo ?_ | refine CLe.cons ?_ ?_ | refine BLe.box ?_ | refine BLe.row ?_ | exact ALe.any _ | refine ALe.dat (PLe.of_eq ?_)))
theorem reuse_c (x : AV) (j : JV) : ACall1 Try.prog 87 [.ptr 1000 0, .dat (pdJ j)] [(1000, .box 173 [x])] (.iface 139 (.ptr 1000 0)) [(1000, .box 173 [.dat (pdJ j)])] := by
  refine acall_of_run Try.func87 rfl Try.ntmps87 rfl (fun X => ?_)
  repeat' (first
    | refine run_seq ?_
    | (refine k_pick rfl ?_; first | refine k_assignD rfl rfl ?_ | refine k_moveD rfl rfl ?_ | refine k_fieldAddrB rfl rfl rfl ?_ | refine k_nilB rfl rfl ?_ | refine k_storeB rfl rfl rfl rfl rfl ?_ | refine k_moveP rfl rfl ?_ | refine k_assignI rfl rfl ?_ | refine k_ifaceP rfl rfl (by kernel_rfl) ?_)
    | refine run_opsEnd ?_
    | refine run_region ?_
    | fail)
  refine run_retA () id (tm := [(4, .iface 139 (.ptr 1000 0))]) ?_ (resA_tmp rfl rfl)
  (refine ⟨?_, ?_, by rfl⟩ <;> repeat' (first | exact trivial | exact ALe.ptr rfl | exact ALe.own rfl | exact ALe.elt rfl | exact BLe.boxD _ _ | exact BLe.row rfl | exact BLe.res | exact BLe.dead rfl | exact ALe.dat (PLe.refl _) | exact CLe.nil | refine And.intro ?_ ?_ | refine ALe.iface ?_ | refine ALe.clo ?_ | refine CLe.cons ?_ ?_ | refine BLe.box ?_ | refine BLe.row ?_ | exact ALe.any _ | refine ALe.dat (PLe.of_eq ?_)))
end Go.Proofs.Ytbbacpdbbmjblaa
end
section
set_option linter.unusedVariables false
namespace Go.Proofs.Ytbbacpdbbmjblaa
open Go.RowKit
set_option linter.unusedSimpArgs false
section
variable {P : Program} {X : Base} {N : Nat} {Q : Exit → Act → World → Prop} {ops : Array Oper} {rem : List Nat} {ks : List Itm} {s s' : Sta} {a : Act} {w w' : World} {ρ : Nat → RV}
theorem groups_at1 {F : Nat → Prop} {u : Value} : ∀ {l : List PD} {xs : List Value} {i : Nat}, Groups w F 1 l xs → l[i]? = some (.val u) → xs[i]? = some u ∧ okV u
  | [], _, _, _, h => by simp at h
  | d :: r, xs, i, hg, h => by
    obtain ⟨u', ys, rfl, hd, hn, h1, hr⟩ := hg
    cases i with
    | zero =>
      simp only [List.getElem?_cons_zero, Option.some.injEq] at h
      subst h
      unfold Rep at hd
      obtain ⟨rfl, hok⟩ := hd
      exact ⟨by rw [one_toList hok.one]; rfl, hok⟩
    | succ i =>
      have := groups_at1 hr (i := i) (by simpa using h)
      refine ⟨?_, this.2⟩
      rw [List.getElem?_append_right (by omega), hn]
      simpa using this.1
theorem groups_set1 {F : Nat → Prop} {u : Value} (hu : okV u) : ∀ {l : List PD} {xs : List Value} {i : Nat}, Groups w F 1 l xs → i < l.length → Groups w F 1 (l.set i (.val u)) (xs.set i u)
  | [], _, _, _, h => by simp at h
  | d :: r, xs, i, hg, h => by
    obtain ⟨u', ys, rfl, hd, hn, h1, hr⟩ := hg
    obtain ⟨c, hc⟩ : ∃ c, u'.cells.toList = [c] := List.length_eq_one_iff.1 hn
    cases i with
    | zero =>
      rw [hc]
      show Groups w F 1 (.val u :: r) (u :: ys)
      exact ⟨u, ys, by rw [one_toList hu.one]; rfl, by unfold Rep; exact ⟨rfl, hu⟩, by rw [one_toList hu.one]; rfl, by rw [one_toList hu.one]; intro c hc; simp at hc; subst hc; exact hu.one, hr⟩
    | succ i =>
      rw [hc]
      show Groups w F 1 (d :: r.set i (.val u)) (c :: ys.set i u)
      exact ⟨u', ys.set i u, by rw [hc]; rfl, hd, hn, h1, groups_set1 hu hr (by simpa using h)⟩
theorem op_indexO {o : Oper} (hd : dstOk X.N o.dst = true) {t : TypeId} {x ix : Operand} (ho : o.op = .indexAddr t x ix) {k e y : Nat} {l : List PD} (hx : s.ev x = .own k) (hk : s.tb k = some (.row e 1 y l)) {q : IntKind} {i : Nat} (hi : s.ev ix = .dat (.val (.int q (i : Int)))) {e' y' : Nat} (ht : slcI P t = some (e', 1, y')) (hl : i < l.length) :
    OpS P X o s (s.put o.dst (.elt k 1 i 0)) := by
  refine opS_value hd fun a w ρ hc => ?_
  have h2 := hc.ev x
  rw [hx] at h2
  have e2 := VR_own h2 hk
  have h3 := hc.ev ix
  rw [hi] at h3
  unfold VR Rep at h3
  obtain ⟨xs, e0, hm, how, hgr, hby, hln⟩ := hc.blks k _ hk
  obtain ⟨inf, hu, hinf, hsz, _⟩ := slcI_spec ht
  rcases how.2 with ⟨_, e3⟩ | ⟨g, cap, cur, e1, hB, hg, hr⟩
  · omega
  refine ⟨.pointer (some ⟨g, i, none⟩), ?_, ?_⟩
  · simp [execOp, ho, e2.trans e1, h3.1, Instr.indexAt, asIntOf, run_underlying hu, hl, sizeOf, typeInfo, hinf, hsz, Addr_add]
  · unfold VR
    exact ⟨rfl, .inl ⟨_, hk, .inl rfl, g, _, cap, e1, by simp⟩⟩
theorem op_loadE {o : Oper} (hd : dstOk X.N o.dst = true) {t : TypeId} {x : Operand} (ho : o.op = .load t x) {k e y i : Nat} {l : List PD} {u : Value} (hx : s.ev x = .elt k 1 i 0) (hk : s.tb k = some (.row e 1 y l)) (ht : varI P t = some (1, false)) (hl : l[i]? = some (.val u)) :
    OpS P X o s (s.put o.dst (.dat (.val u))) := by
  refine opS_value hd fun a w ρ hc => ?_
  have h2 := hc.ev x
  rw [hx] at h2
  unfold VR at h2
  obtain ⟨_, h2⟩ := h2
  obtain ⟨xs, e0, hm, how, hgr, hby, hln⟩ := hc.blks k _ hk
  rcases h2 with ⟨x', h5, h6, g, len, c, e3, e4⟩ | h5
  rotate_left
  · rw [hk] at h5; cases h5
  obtain ⟨hx', hok⟩ := groups_at1 hgr hl
  rcases how.2 with ⟨e5, _⟩ | ⟨g', cap, cur, e1, hB, hg, hc1, hc4, hc2, hc3⟩
  · rw [e3] at e5; cases e5
  rw [e3] at e1
  injection e1 with e1 _ _
  injection e1 with e1
  injection e1 with e1
  subst e1
  have hcell : w.cell? ⟨g, i, none⟩ = some u := by
    rw [cell_of_row w g i _ _ _ hg]
    rw [← hc3, List.getElem?_take] at hx'
    split at hx'
    · simpa using hx'
    · cases hx'
  refine ⟨u, ?_, by unfold VR Rep; exact ⟨rfl, hok⟩⟩
  have e4' : a.eval x = .pointer (some ⟨g, i, none⟩) := by rw [e4]; simp
  simp [execOp, ho, e4', Instr.loadAt, Instr.sureAddr, run_loadVar_cell ht hcell]
theorem ConcAt.setK (h : ConcAt X s a w ρ) {k : Nat} {x x' : Blk} (hk : s.tb k = some x) (hxl : x.live = true) (hkind : x'.kind = x.kind) (hw : Below 0 w w') (hsz : w'.heap.size = w.heap.size) (hoth : ∀ b, ¬ (ρ k).fp b → w'.heap[b]? = w.heap[b]?)
    (hnew : (∀ b, FF X w s.tb ρ b → FF X w' (s.set k x').tb ρ b) → (∀ b, FF X w s.tb ρ b → w'.heap[b]? = w.heap[b]?) → BR X w' (s.set k x').tb ρ k x') : ConcAt X (s.set k x') a w' ρ := by
  have hlk : liveB (s.tb k) = true := by rw [hk]; exact hxl
  have hF : ∀ b', FF X w s.tb ρ b' → w'.heap[b']? = w.heap[b']? := fun b' hF => hoth b' (hF.2.2 k hlk)
  have hdom : ∀ k', liveB ((s.set k x').tb k') = true → liveB (s.tb k') = true := by
    intro k' hk'
    by_cases ek : k' = k
    · subst ek; exact hlk
    · simp only [Sta.set, upd_ne _ _ ek] at hk'; exact hk'
  have hs : ∀ b', FF X w s.tb ρ b' → FF X w' (s.set k x').tb ρ b' := fun b' hF => ⟨hF.1, by rw [hsz]; exact hF.2.1, fun k' hk' => hF.2.2 k' (hdom k' hk')⟩
  have hkk : ∀ k' z, s.tb k' = some z → ∃ z', (s.set k x').tb k' = some z' ∧ ((z'.kind = z.kind ∧ (ρ k').v = (ρ k').v) ∨ (z' = .dead ∧ z.kind ≠ 0)) := by
    intro k' z hz
    by_cases ek : k' = k
    · subst ek; rw [hk] at hz; cases hz; exact ⟨x', upd_same _ _ _, .inl ⟨hkind, rfl⟩⟩
    · exact ⟨z, by simp only [Sta.set, upd_ne _ _ ek]; exact hz, .inl ⟨rfl, rfl⟩⟩
  refine ⟨h.size, h.defers, h.below.step hw.os hw.tape hw.output (by rw [hsz]; exact Nat.le_refl _) (fun j _ hj => hoth j (fun e => hj (h.rowBlk hk hxl e).1)), fun t' => (h.tmps t').keep hF hs hkk, fun k' z hz => ?_, fun k1 k2 b h1 h2 e1 e2 => h.apart k1 k2 b (hdom k1 h1) (hdom k2 h2) e1 e2, fun k' hk' hl' => h.lent k' hk' (hdom k' hl')⟩
  by_cases ek : k' = k
  · subst ek
    simp only [Sta.set, upd_same, Option.some.injEq] at hz
    subst hz
    exact hnew hs hF
  · simp only [Sta.set, upd_ne _ _ ek] at hz
    exact (h.blks k' z hz).keep hF hs hkk rfl (fun b' hl hf => hoth b' fun e => ek (h.apart k' k b' (by rw [hz]; exact hl) hlk hf e)) (by rw [hsz]; exact Nat.le_refl _)
theorem op_storeE {o : Oper} (hd : o.dst = none) {t : TypeId} {x y : Operand} (ho : o.op = .store t x y) {k e z i : Nat} {l : List PD} {u : Value} (hx : s.ev x = .elt k 1 i 0) (hk : s.tb k = some (.row e 1 z l)) (ht : varI P t = some (1, false)) (hl : i < l.length) (hy : s.ev y = .dat (.val u)) :
    OpS P X o s (s.set k (.row e 1 z (l.set i (.val u)))) := by
  intro a w ⟨ρ, hc⟩ K Q hK
  have h2 := hc.ev x
  rw [hx] at h2
  unfold VR at h2
  obtain ⟨_, h2⟩ := h2
  have h4 := hc.ev y
  rw [hy] at h4
  unfold VR Rep at h4
  obtain ⟨e6, hok⟩ := h4
  obtain ⟨xs, e0, hm, how, hgr, hby, hln⟩ := hc.blks k _ hk
  rcases h2 with ⟨x', h5, h6, g, len, c, e3, e4⟩ | h5
  rotate_left
  · rw [hk] at h5; cases h5
  have how' := how
  rcases how.2 with ⟨e5, _⟩ | ⟨g', cap, cur, e1, hB, hg, hc1, hc4, hc2, hc3⟩
  · rw [e3] at e5; cases e5
  have e1' := e1
  rw [e3] at e1
  injection e1 with e1 _ _
  injection e1 with e1
  injection e1 with e1
  subst e1
  have hlen : l.length ≤ cur.size := by omega
  have hrun := run_storeVar_at (P := P) (w := w) ht (b := g) (off := i) (old := cur.toList) (e := e) (by simpa using hg) (v := u) (by rw [one_toList hok.one]; rfl) (by simp; omega) (by rw [one_toList hok.one]; intro c hc; simp at hc; subst hc; exact hok.one)
  rw [one_toList hok.one] at hrun
  have hcur : (cur.toList.take i ++ [u] ++ cur.toList.drop (i + 1)) = cur.toList.set i u := by
    rw [List.set_eq_take_append_cons_drop, if_pos (by simp; omega)]; simp
  rw [hcur] at hrun
  have e4' : a.eval x = .pointer (some ⟨g, i, none⟩) := by rw [e4]; simp
  have hfp : (ρ k).fp g := by rw [e0, e1']; rfl
  have hoth : ∀ b', ¬ (ρ k).fp b' → (w.setRow g (cur.toList.set i u).toArray).heap[b']? = w.heap[b']? := fun b' hb' => setRow_other w g b' _ (fun e => hb' (e ▸ hfp))
  have hsz : (w.setRow g (cur.toList.set i u).toArray).heap.size = w.heap.size := by simp
  refine wp_skipped (w' := w.setRow g (cur.toList.set i u).toArray) (by simp [execOp, ho, e4', e6, Instr.storeAt, Instr.sureAddr, hrun, Result.andThen]) ?_
  rw [hd]
  have hB0 : Below 0 w (w.setRow g (cur.toList.set i u).toArray) := ⟨rfl, rfl, rfl, by rw [hsz]; exact Nat.le_refl _, fun k hk => absurd hk (Nat.not_lt_zero _)⟩
  refine hK _ _ ⟨ρ, (hc.setK (x' := .row e 1 z (l.set i (.val u))) hk rfl rfl hB0 hsz hoth (fun hs hF => ?_)).put_none .any undef⟩
  refine ⟨xs.set i u, e0, hm, ?_, (groups_set1 hok (hgr.keep hF hs) hl), by simpa using hby, by simpa using hln⟩
  rw [e1']
  refine ⟨by simpa using how.1, .inr ⟨g, cap, (cur.toList.set i u).toArray, by simp, hB, setRow_heap w g _ _ e _ (by simpa using hg), by simpa using hc1, hc4, by simpa using hc2, ?_⟩⟩
  simp only [List.length_set]
  rw [List.take_set, hc3]
theorem d_indexO {ops : List Oper} {d : Nat} {t : TypeId} {x ix : Operand} {k e y i : Nat} {l : List PD} {q : IntKind} {e' y' : Nat} (hN : Nat.blt d N = true) (hx : s.ev x = .own k) (hk : s.tb k = some (.row e 1 y l)) (hi : s.ev ix = .dat (.val (.int q (i : Int)))) [ht : SI P t e' 1 y'] (hl : i < l.length) : TrK P X N ops (some d) (.indexAddr t x ix) (Eff.put (some d) (.elt k 1 i 0)) s (s.put (some d) (.elt k 1 i 0)) :=
  act_val hN fun s' _ _ _ _ hd hev htb => op_indexO hd rfl ((hev _ (by simp [Op.operands])).trans hx) ((htb x (by simp [Op.operands]) k (by rw [hx]; simp [keysA])).trans hk) ((hev _ (by simp [Op.operands])).trans hi) ht.out hl
theorem k_indexZ {d : Nat} {t : TypeId} {x ix : Operand} {k e y i : Nat} {z : Int} {l : List PD} {q : IntKind} {e' y' : Nat} (hN : Nat.blt d N = true) (hx : s.ev x = .own k) (hk : s.tb k = some (.row e 1 y l)) (hi : s.ev ix = .dat (.val (.int q z))) [ht : SI P t e' 1 y'] (hz : z = (i : Int)) (hl : i < l.length) (h : Run P X N Q (.ops ops rem :: ks) (s.put (some d) (.elt k 1 i 0))) : RunK P X N Q ops rem ks (some d) (.indexAddr t x ix) s := k_of hN (fun _ _ _ hd => op_indexO hd rfl hx hk (by rw [hi, hz]) ht.out hl) h
theorem d_indexZ {ops : List Oper} {d : Nat} {t : TypeId} {x ix : Operand} {k e y i : Nat} {z : Int} {l : List PD} {q : IntKind} {e' y' : Nat} (hN : Nat.blt d N = true) (hx : s.ev x = .own k) (hk : s.tb k = some (.row e 1 y l)) (hi : s.ev ix = .dat (.val (.int q z))) [ht : SI P t e' 1 y'] (hz : z = (i : Int)) (hl : i < l.length) : TrK P X N ops (some d) (.indexAddr t x ix) (Eff.put (some d) (.elt k 1 i 0)) s (s.put (some d) (.elt k 1 i 0)) :=
  d_indexO hN hx hk (by rw [hi, hz]) hl
theorem k_loadE {d : Nat} {t : TypeId} {x : Operand} {k e y i : Nat} {l : List PD} {u : Value} (hN : Nat.blt d N = true) (hx : s.ev x = .elt k 1 i 0) (hk : s.tb k = some (.row e 1 y l)) [ht : VI P t 1 false] (hl : l[i]? = some (.val u)) (h : Run P X N Q (.ops ops rem :: ks) (s.put (some d) (.dat (.val u)))) : RunK P X N Q ops rem ks (some d) (.load t x) s := k_of hN (fun _ _ _ hd => op_loadE hd rfl hx hk ht.out hl) h
theorem d_loadE {ops : List Oper} {d : Nat} {t : TypeId} {x : Operand} {k e y i : Nat} {l : List PD} {u : Value} (hN : Nat.blt d N = true) (hx : s.ev x = .elt k 1 i 0) (hk : s.tb k = some (.row e 1 y l)) [ht : VI P t 1 false] (hl : l[i]? = some (.val u)) : TrK P X N ops (some d) (.load t x) (Eff.put (some d) (.dat (.val u))) s (s.put (some d) (.dat (.val u))) :=
  act_val hN fun s' _ _ _ _ hd hev htb => op_loadE hd rfl ((hev _ (by simp [Op.operands])).trans hx) ((htb x (by simp [Op.operands]) k (by rw [hx]; simp [keysA])).trans hk) ht.out hl
theorem d_storeE {ops : List Oper} {t : TypeId} {x y : Operand} {k e z i : Nat} {l : List PD} {u : Value} (hx : s.ev x = .elt k 1 i 0) (hk : s.tb k = some (.row e 1 z l)) [ht : VI P t 1 false] (hl : i < l.length) (hy : s.ev y = .dat (.val u)) : TrK P X N ops none (.store t x y) (Eff.set k (.row e 1 z (l.set i (.val u)))) s (s.set k (.row e 1 z (l.set i (.val u)))) :=
  act_set fun s' _ _ _ _ hev htb => op_storeE rfl rfl ((hev _ (by simp [Op.operands])).trans hx) ((htb x (by simp [Op.operands]) k (by rw [hx]; simp [keysA])).trans hk) ht.out hl ((hev _ (by simp [Op.operands])).trans hy)
end
end Go.Proofs.Ytbbacpdbbmjblaa
end
section
set_option linter.unusedVariables false
namespace Go.Proofs.Ytbbacpdbbmjblaa
open Go.RowKit
set_option linter.unusedSimpArgs false
theorem toValue_p (x : GV) : PCall Try.prog 50 [qV x] (dvV (plainJ x)) := by
  rw [show qV x = pdV x from (pdV_eq x).symm]
  refine pcall_fits fun hf => ?_
  obtain ⟨w0, F0, v0, h0⟩ := hf (pdV x) (by simp)
  have hok := plain_ok x (IsV.gok x (rep_isV x h0))
  refine pcall_V1 (R := fun w w' r => IsVal w' (Btw w.heap.size w'.heap.size) (plainJ x) r) (fun w v hv => toValue_any x w v hv) fun w w' r F h => ?_
  obtain ⟨b, c, rfl, hb, hh, hj⟩ := h
  unfold dvV Rep
  refine ⟨_, rfl, ?_⟩
  unfold Rep
  refine ⟨b, 0, .agg #[c], rfl, .inr hb, ?_, ?_⟩
  · unfold Rep
    refine ⟨[c], rfl, ?_, ?_⟩
    · unfold Reps
      refine ⟨c, [], rfl, ?_, by unfold Reps; rfl⟩
      unfold pdJ Rep
      exact ⟨IsJ.keep (fun _ _ => rfl) (fun b hb => .inr hb) _ hj, hok⟩
    · intro u hu
      simp at hu; subst hu; exact hj.oneCell
  · intro i u hu
    cases i with
    | zero =>
      simp [Value.cells] at hu
      subst hu
      rw [cell_of_row w' b _ _ _ _ hh]; rfl
    | succ i => simp [Value.cells] at hu
def fitS (ks : List ByteArray) : Bool := !decide ((2147483647 : Int) < (ks.length : Int)) && ks.all (fun k => !decide ((2147483647 : Int) < (k.size : Int)))
theorem fits2_p (ks : List ByteArray) : PCall Try.prog 48 [.sl 1 16 (pdS ks)] (.val (.bool (fitS ks))) := by
  refine pcall_fits fun hfit => ?_
  have b1 := (hfit (.sl 1 16 (pdS ks)) (by simp)).sl.2.1
  have hlen := pdS_len ks
  rw [hlen] at b1
  clear hfit
  refine pcall_of_run Try.func48 rfl Try.ntmps48 rfl (fun X => ?_)
  unfold fitS
  cases h0 : decide ((2147483647 : Int) < (ks.length : Int)) with
  | true =>
    have q0 : decide ((2147483647 : Int) < (((pdS ks).length : Nat) : Int)) = true := by rw [hlen]; exact h0
    repeat' (first
    | refine run_seq ?_
    | (refine k_pick rfl ?_; first | refine k_assignD rfl rfl ?_ | refine k_moveD rfl rfl ?_ | refine k_bin2B rfl rfl rfl rfl ?_ | refine k_lenD rfl rfl ?_)
    | refine run_opsEnd ?_
    | refine run_region ?_
    | refine run_condT rfl (by first | rfl | assumption) ?_
    | refine run_retOk (resOk_tmp rfl rfl ?_)
    | fail)
    all_goals exact PLe.refl _
  | false =>
    have q0 : decide ((2147483647 : Int) < (((pdS ks).length : Nat) : Int)) = false := by rw [hlen]; exact h0
    repeat' (first
    | refine run_seq ?_
    | (refine k_pick rfl ?_; first | refine k_assignD rfl rfl ?_ | refine k_moveD rfl rfl ?_ | refine k_bin2B rfl rfl rfl rfl ?_ | refine k_lenD rfl rfl ?_)
    | refine run_opsEnd ?_
    | refine run_region ?_
    | refine run_condF rfl (by first | rfl | assumption) ?_
    | refine run_block ?_
    | refine run_skip ?_
    | fail)
    refine run_loopS (ι := { j : Nat // j ≤ ks.length ∧ ∀ i x, i < j → ks[i]? = some x → decide ((2147483647 : Int) < (x.size : Int)) = false })
      (fun j => [(8, .dat (.sl 1 16 (pdS ks))), (9, .dat (.val (.int .i64 ((pdS ks).length : Nat)))), (10, .dat (.val (.int .i64 (j.1 : Nat))))])
      (fun _ => []) (fun j => ks.length - j.1) ⟨0, Nat.zero_le _, fun i _ h => absurd h (Nat.not_lt_zero i)⟩ id ?_ ?_
    · (refine ⟨?_, ?_, by rfl⟩ <;> repeat' (first | exact trivial | exact ALe.ptr rfl | exact ALe.own rfl | exact ALe.elt rfl | exact BLe.boxD _ _ | exact BLe.row rfl | exact BLe.res | exact BLe.dead rfl | exact ALe.dat (PLe.refl _) | exact CLe.nil | refine And.intro ?_ ?_ | refine ALe.iface ?_ | refine ALe.clo ?_ | refine CLe.cons ?_ ?_ | refine BLe.box ?_ | refine BLe.row ?_ | exact ALe.any _ | refine ALe.dat (PLe.of_eq ?_)))
    rintro ⟨j, hj, hall⟩
    by_cases hlt : j < ks.length
    · have hc : decide ((j : Int) < (((pdS ks).length : Nat) : Int)) = true := by rw [hlen]; simpa using hlt
      obtain ⟨x, hx⟩ : ∃ x, ks[j]? = some x := ⟨_, List.getElem?_eq_getElem hlt⟩
      have i1 : (pdS ks)[((j : Nat) : Int).toNat]? = some (.val (.string x)) := pdS_at hx
      cases h1 : decide ((2147483647 : Int) < (x.size : Int)) with
      | false =>
        repeat' (first
    | refine run_seq ?_
    | (refine k_pick rfl ?_; first | refine k_indexAddrD rfl rfl rfl (by first | omega | (dsimp only; omega)) (by assumption) ?_ | refine k_assignD rfl rfl ?_ | refine k_moveD rfl rfl ?_ | refine k_bin2B rfl rfl rfl rfl ?_ | refine k_lenS rfl rfl (by kernel_rfl) ?_ | refine k_ariI rfl rfl rfl rfl (by first | omega | (dsimp only; omega)) ?_ | refine k_loadD rfl rfl (by first | rfl | (simp only [cellsD]; rfl)) ?_)
    | refine run_opsEnd ?_
    | refine run_region ?_
    | refine run_condT rfl (by first | rfl | assumption) ?_
    | refine run_condF rfl (by first | rfl | assumption) ?_
    | refine run_block ?_
    | refine run_blkEnd ?_
    | refine run_skip ?_
    | fail)
        refine run_again ?_
        refine ⟨⟨j + 1, by omega, fun i y hi hy => ?_⟩, id, by simp only; omega, ?_⟩
        · by_cases e : i = j
          · subst e; rw [hx] at hy; cases hy; exact h1
          · exact hall i y (by omega) hy
        (refine ⟨?_, ?_, by rfl⟩ <;> repeat' (first | exact trivial | exact ALe.ptr rfl | exact ALe.own rfl | exact ALe.elt rfl | exact BLe.boxD _ _ | exact BLe.row rfl | exact BLe.res | exact BLe.dead rfl | exact ALe.dat (PLe.refl _) | exact CLe.nil | refine And.intro ?_ ?_ | refine ALe.iface ?_ | refine ALe.clo ?_ | refine CLe.cons ?_ ?_ | refine BLe.box ?_ | refine BLe.row ?_ | exact ALe.any _ | refine ALe.dat (PLe.of_eq ?_)))
      | true =>
        have e : ks.all (fun k => !decide ((2147483647 : Int) < (k.size : Int))) = false := by
          cases h : ks.all (fun k => !decide ((2147483647 : Int) < (k.size : Int))) with
          | false => rfl
          | true => have := List.all_eq_true.1 h x (List.mem_of_getElem? hx); rw [h1] at this; cases this
        rw [e]
        repeat' (first
    | refine run_seq ?_
    | (refine k_pick rfl ?_; first | refine k_indexAddrD rfl rfl rfl (by first | omega | (dsimp only; omega)) (by assumption) ?_ | refine k_assignD rfl rfl ?_ | refine k_moveD rfl rfl ?_ | refine k_bin2B rfl rfl rfl rfl ?_ | refine k_lenS rfl rfl (by kernel_rfl) ?_ | refine k_loadD rfl rfl (by first | rfl | (simp only [cellsD]; rfl)) ?_)
    | refine run_opsEnd ?_
    | refine run_region ?_
    | refine run_condT rfl (by first | rfl | assumption) ?_
    | refine run_block ?_
    | refine run_skip ?_
    | refine run_retOk (resOk_tmp rfl rfl ?_)
    | fail)
        all_goals exact PLe.refl _
    · have hc : decide ((j : Int) < (((pdS ks).length : Nat) : Int)) = false := by rw [hlen]; simpa using hlt
      have e : ks.all (fun k => !decide ((2147483647 : Int) < (k.size : Int))) = true := List.all_eq_true.2 fun x hx => by
        obtain ⟨i, hi⟩ := List.getElem?_of_mem hx
        rw [hall i x (by have := (List.getElem?_eq_some_iff.1 hi).1; omega) hi]; rfl
      rw [e]
      repeat' (first
    | refine run_seq ?_
    | (refine k_pick rfl ?_; first | refine k_assignD rfl rfl ?_ | refine k_bin2B rfl rfl rfl rfl ?_)
    | refine run_opsEnd ?_
    | refine run_region ?_
    | refine run_condF rfl (by first | rfl | assumption) ?_
    | refine run_exit rfl ?_
    | refine run_retOk (resOk_tmp rfl rfl ?_)
    | fail)
      all_goals exact PLe.refl _
theorem fits5_p (x : GV) : ∃ b, PCall Try.prog 15 [qV x] (.val (.bool b)) := by
  have c := fits2_p x.keys
  have hl := pdVs_len x.l
  cases h1 : decide ((2147483647 : Int) < (x.s.size : Int)) with
  | true =>
    refine ⟨false, ?_⟩
    refine pcall_of_run Try.func15 rfl Try.ntmps15 rfl (fun X => ?_)
    repeat' (first
    | refine run_seq ?_
    | (refine k_pick rfl ?_; first | refine k_assignD rfl rfl ?_ | refine k_fieldAddrB rfl rfl rfl ?_ | refine k_loadBD rfl rfl rfl (by first | rfl | (simp only [cellsD]; rfl)) ?_ | refine k_bin2B rfl rfl rfl rfl ?_ | refine k_boxW rfl rfl rfl (by first | rfl | (simp only [cellsD]; rfl)) ?_ | refine k_lenS rfl rfl (by kernel_rfl) ?_)
    | refine run_opsEnd ?_
    | refine run_region ?_
    | refine run_condT rfl (by first | rfl | assumption) ?_
    | refine run_retOk (resOk_tmp rfl rfl ?_)
    | fail)
    all_goals exact PLe.refl _
  | false =>
    cases h2 : fitS x.keys with
    | false =>
      rw [h2] at c
      refine ⟨false, ?_⟩
      refine pcall_of_run Try.func15 rfl Try.ntmps15 rfl (fun X => ?_)
      repeat' (first
    | refine run_seq ?_
    | (refine k_pick rfl ?_; first | refine k_assignD rfl rfl ?_ | refine k_fieldAddrB rfl rfl rfl ?_ | refine k_loadBD rfl rfl rfl (by first | rfl | (simp only [cellsD]; rfl)) ?_ | refine k_bin2B rfl rfl rfl rfl ?_ | refine k_boxW rfl rfl rfl (by first | rfl | (simp only [cellsD]; rfl)) ?_ | refine k_call rfl (by kernel_rfl) rfl (by first | exact c) ?_ | refine k_lenS rfl rfl (by kernel_rfl) ?_ | refine k_not rfl rfl ?_)
    | refine run_opsEnd ?_
    | refine run_region ?_
    | refine run_condT rfl (by first | rfl | assumption) ?_
    | refine run_condF rfl (by first | rfl | assumption) ?_
    | refine run_skip ?_
    | refine run_retOk (resOk_tmp rfl rfl ?_)
    | fail)
      all_goals exact PLe.refl _
    | true =>
      rw [h2] at c
      cases h3 : decide ((2147483647 : Int) < (((pdVs x.l).length : Nat) : Int)) with
      | true =>
        refine ⟨false, ?_⟩
        refine pcall_of_run Try.func15 rfl Try.ntmps15 rfl (fun X => ?_)
        repeat' (first
    | refine run_seq ?_
    | (refine k_pick rfl ?_; first | refine k_assignD rfl rfl ?_ | refine k_fieldAddrB rfl rfl rfl ?_ | refine k_loadBD rfl rfl rfl (by first | rfl | (simp only [cellsD]; rfl)) ?_ | refine k_bin2B rfl rfl rfl rfl ?_ | refine k_boxW rfl rfl rfl (by first | rfl | (simp only [cellsD]; rfl)) ?_ | refine k_call rfl (by kernel_rfl) rfl (by first | exact c) ?_ | refine k_lenS rfl rfl (by kernel_rfl) ?_ | refine k_lenD rfl rfl ?_ | refine k_not rfl rfl ?_)
    | refine run_opsEnd ?_
    | refine run_region ?_
    | refine run_condT rfl (by first | rfl | assumption) ?_
    | refine run_condF rfl (by first | rfl | assumption) ?_
    | refine run_skip ?_
    | refine run_retOk (resOk_tmp rfl rfl ?_)
    | fail)
        all_goals exact PLe.refl _
      | false =>
        refine ⟨true, ?_⟩
        refine pcall_of_run Try.func15 rfl Try.ntmps15 rfl (fun X => ?_)
        repeat' (first
    | refine run_seq ?_
    | (refine k_pick rfl ?_; first | refine k_assignD rfl rfl ?_ | refine k_fieldAddrB rfl rfl rfl ?_ | refine k_loadBD rfl rfl rfl (by first | rfl | (simp only [cellsD]; rfl)) ?_ | refine k_bin2B rfl rfl rfl rfl ?_ | refine k_boxW rfl rfl rfl (by first | rfl | (simp only [cellsD]; rfl)) ?_ | refine k_call rfl (by kernel_rfl) rfl (by first | exact c) ?_ | refine k_lenS rfl rfl (by kernel_rfl) ?_ | refine k_lenD rfl rfl ?_ | refine k_not rfl rfl ?_)
    | refine run_opsEnd ?_
    | refine run_region ?_
    | refine run_condF rfl (by first | rfl | assumption) ?_
    | refine run_skip ?_
    | refine run_retOk (resOk_tmp rfl rfl ?_)
    | fail)
        all_goals exact PLe.refl _
end Go.Proofs.Ytbbacpdbbmjblaa
end
section
set_option linter.unusedVariables false
namespace Go.Proofs.Ytbbacpdbbmjblaa
open Go.RowKit
set_option linter.unusedSimpArgs false
section
variable {P : Program} {X : Base} {N : Nat} {Q : Exit → Act → World → Prop} {ops : Array Oper} {rem : List Nat} {ks : List Itm} {s s' : Sta}
end
theorem has_p (m : List (ByteArray × JV)) (k : ByteArray) : PCall Try.prog 165 [dvMm m, .val (.string k)] (.val (.bool (lkJ m k).isSome)) := by
  refine pcall_of_run Try.func165 rfl Try.ntmps165 rfl (fun X => ?_)
  cases h : lkJ m k with
  | none =>
    repeat' (first
    | refine run_seq ?_
    | (refine k_pick rfl ?_; first | refine k_assignD rfl rfl ?_ | refine k_moveD rfl rfl ?_ | refine k_extract rfl rfl rfl ?_ | refine k_lookM rfl rfl rfl (by assumption) ?_)
    | refine run_opsEnd ?_
    | refine run_region ?_
    | refine run_retOk (resOk_tmp rfl rfl ?_)
    | fail)
    all_goals exact PLe.refl _
  | some x =>
    repeat' (first
    | refine run_seq ?_
    | (refine k_pick rfl ?_; first | refine k_assignD rfl rfl ?_ | refine k_moveD rfl rfl ?_ | refine k_extract rfl rfl rfl ?_ | refine k_lookM rfl rfl rfl (by assumption) ?_)
    | refine run_opsEnd ?_
    | refine run_region ?_
    | refine run_retOk (resOk_tmp rfl rfl ?_)
    | fail)
    all_goals exact PLe.refl _
end Go.Proofs.Ytbbacpdbbmjblaa
end
section
set_option linter.unusedVariables false
namespace Go.Proofs.Ytbbacpdbbmjblaa
set_option linter.unusedSimpArgs false
theorem lkJ_getA : ∀ (m : List (ByteArray × JV)) (k : ByteArray), lkJ m k = getA m k
  | [], _ => rfl
  | x :: r, k => by unfold lkJ getA; rw [lkJ_getA r k]
theorem nodup_sub {α : Type} [DecidableEq α] : ∀ {a l : List α}, a.Nodup → (∀ x ∈ a, x ∈ l) → l.length ≤ a.length → ∀ x ∈ l, x ∈ a
  | a, l, hn, hs, hl, x, hx => by
    by_cases h : x ∈ a
    · exact h
    · have := nodup_len (a := x :: a) (l := l) (List.nodup_cons.2 ⟨h, hn⟩) (fun y hy => by
        rcases List.mem_cons.1 hy with rfl | hy
        · exact hx
        · exact hs y hy)
      simp at this; omega
theorem incr_ext {a b : List ByteArray} (ha : Incr a) (hb : Incr b) (h : ∀ k, k ∈ a ↔ k ∈ b) : a = b := by
  have hg1 : ∀ (l : List ByteArray) (k : ByteArray), k ∈ l → getA (l.map fun k => (k, ())) k = some () := by
    intro l k hk
    induction l with
    | nil => simp at hk
    | cons x r ih =>
      simp only [List.map_cons, getA]
      by_cases e : x = k
      · rw [if_pos e]
      · rw [if_neg e]
        rcases List.mem_cons.1 hk with h | h
        · exact absurd h.symm e
        · exact ih h
  have hg2 : ∀ (l : List ByteArray) (k : ByteArray), k ∉ l → getA (l.map fun k => (k, ())) k = none := by
    intro l k hk
    exact getA_none fun e he => by
      obtain ⟨x, hx, rfl⟩ := List.mem_map.1 he
      exact fun e => hk (e ▸ hx)
  have e1 : ∀ l : List ByteArray, (l.map fun k => (k, ())).map (·.1) = l := fun l => by
    induction l with
    | nil => rfl
    | cons x r ih => simp only [List.map_cons, ih]
  have := getA_ext (a := a.map fun k => (k, ())) (b := b.map fun k => (k, ())) (by rw [e1]; exact ha) (by rw [e1]; exact hb) (fun k => by
    by_cases hk : k ∈ a
    · rw [hg1 _ _ hk, hg1 _ _ ((h k).1 hk)]
    · rw [hg2 _ _ hk, hg2 _ _ (fun hb => hk ((h k).2 hb))])
  have := congrArg (List.map (·.1)) this
  rwa [e1, e1] at this
theorem incr_nd {ks : List ByteArray} (h : Incr ks) : ks.Nodup := List.Pairwise.imp (fun {a b} hab e => by subst e; rw [blt_irrefl] at hab; cases hab) h
theorem zip_idx {α : Type} {ks : List ByteArray} {l : List α} (hl : ks.length = l.length) (hi : Incr ks) {k : ByteArray} {x : α} : getA (ks.zip l) k = some x ↔ ∃ i : Nat, ks[i]? = some k ∧ l[i]? = some x := by
  constructor
  · intro h
    obtain ⟨i, hi'⟩ := List.getElem?_of_mem (getA_mem h)
    rw [List.getElem?_zip_eq_some] at hi'
    exact ⟨i, hi'⟩
  · rintro ⟨i, h1, h2⟩
    refine getA_of_mem (by rw [zip_fst hl]; exact incr_nd hi) ?_
    exact List.mem_of_getElem? (i := i) (List.getElem?_zip_eq_some.2 ⟨h1, h2⟩)
/-- A map's plain value: its keys and values. -/
theorem unM_form {m : List (ByteArray × JV)} (hd : (m.map (·.1)).Nodup) : ∃ ks l, unM m gMap = .mk 6 0 0 ByteArray.empty ks l ∧ Incr ks ∧ ks.length = l.length ∧ (∀ k, k ∈ ks ↔ k ∈ m.map (·.1)) ∧ ∀ k x, (∃ i : Nat, ks[i]? = some k ∧ l[i]? = some x) ↔ ∃ j, getA m k = some j ∧ unJ j = x := by
  obtain ⟨ks, l, e, hi, hl⟩ := unM_plain m gMap gMap_plain
  have hg : ∀ k, getA (ks.zip l) k = (getA m k).map unJ := fun k => by
    have := getF_unM m gMap gMap_plain hd k
    rw [getF_gMap, Option.or_none, e] at this
    exact this
  have key : ∀ k x, (∃ i : Nat, ks[i]? = some k ∧ l[i]? = some x) ↔ ∃ j, getA m k = some j ∧ unJ j = x := fun k x => by
    rw [← zip_idx hl hi, hg, Option.map_eq_some_iff]
  refine ⟨ks, l, e, hi, hl, fun k => ?_, key⟩
  constructor
  · intro hk
    obtain ⟨i, hi'⟩ := List.getElem?_of_mem hk
    have hlt := (List.getElem?_eq_some_iff.1 hi').1
    obtain ⟨j, hj, _⟩ := (key k l[i]).1 ⟨i, hi', List.getElem?_eq_getElem (hl ▸ hlt)⟩
    exact List.mem_map_of_mem (f := (·.1)) (getA_mem hj)
  · intro hk
    obtain ⟨y, hy, rfl⟩ := List.mem_map.1 hk
    obtain ⟨i, h1, _⟩ := (key y.1 (unJ y.2)).2 ⟨y.2, getA_of_mem hd hy, rfl⟩
    exact List.mem_of_getElem? h1
end Go.Proofs.Ytbbacpdbbmjblaa
end
section
set_option linter.unusedVariables false
namespace Go.Proofs.Ytbbacpdbbmjblaa
open Go.RowKit
set_option linter.unusedSimpArgs false
/-- A value that may be there. -/
def valD : Option JV → PD
  | some j => dvV j
  | none => .val .nilIface
theorem get_p (m : List (ByteArray × JV)) (k : ByteArray) : PCall Try.prog 164 [dvMm m, dvA, .val (.string k)] (.tup [valD (lkJ m k), .val (.bool (lkJ m k).isSome)]) := by
  refine pcall_of_run Try.func164 rfl Try.ntmps164 rfl (fun X => ?_)
  cases h : lkJ m k with
  | none =>
    have hq : (!false) = true := rfl
    repeat' (first
    | refine run_seq ?_
    | (refine k_pick rfl ?_; first | refine k_assignD rfl rfl ?_ | refine k_moveD rfl rfl ?_ | refine k_extract rfl rfl rfl ?_ | refine k_not rfl rfl ?_ | refine k_lookM rfl rfl rfl (by assumption) ?_)
    | refine run_opsEnd ?_
    | refine run_region ?_
    | refine run_condT rfl (by first | rfl | assumption) ?_
    | refine run_retOk (resOk_tmp2 rfl rfl rfl ?_ ?_)
    | fail)
    all_goals exact PLe.refl _
  | some x =>
    repeat' (first
    | refine run_seq ?_
    | (refine k_pick rfl ?_; first | refine k_assignD rfl rfl ?_ | refine k_moveD rfl rfl ?_ | refine k_extract rfl rfl rfl ?_ | refine k_not rfl rfl ?_ | refine k_invAS1 (thk [] 200) rfl rfl (by kernel_rfl) (alloc_c) rfl trivial rfl (freshB_ok rfl) rfl ?_ | refine k_acall1 (thk [(1000, _)] 200) rfl (by kernel_rfl) (reuse_c (.dat (.val .nilIface)) x) rfl ⟨rfl, trivial⟩ rfl (freshB_ok rfl) rfl ?_ | refine k_assignI rfl rfl ?_ | refine k_lookM rfl rfl rfl (by assumption) ?_)
    | refine run_opsEnd ?_
    | refine run_region ?_
    | refine run_condF rfl (by first | rfl | assumption) ?_
    | fail)
    refine run_frz gV (fun _ => true) ?_
    refine run_retOk (resOk_tmp2 rfl rfl rfl ?_ ?_)
    all_goals exact PLe.refl _
theorem free_p (d : PD) : PCall Try.prog 134 [.ptr (.agg []), d] (.tup []) := by
  intro w F vs hF hvs
  have hl := hvs.length
  refine (calls_of_wp (R := fun e w' => ∃ v, e = .returned v ∧ Below w.heap.size w w' ∧ Rep w' (fun b => F b ∨ (w.heap.size ≤ b ∧ b < w'.heap.size)) (.tup []) v) Try.func134 rfl ?_)
  refine wp_skip ?_
  exact ⟨rfl, _, results_none rfl _ _ _, _, rfl, Below.refl _ _, by unfold Rep; exact ⟨[], rfl, by unfold Reps; rfl⟩⟩
theorem pdS_snoc (l : List ByteArray) (k : ByteArray) : pdS l ++ [.val (.string k)] = pdS (l ++ [k]) := by simp [pdS]
/-- The keys of one map. -/
theorem clo1_c (l : List ByteArray) (k : ByteArray) (j : JV) (hl : (l.length + 1) * 16 ≤ 140737488351232) :
    ACall1 Try.prog 178 [.dat (.val (.string k)), .iface 139 (.ptr 1002 0), .ptr 1000 0]
    [(1000, .box 41 [.own 1001]), (1001, .row 9 1 16 (pdS l)), (1002, .box 173 [.dat (pdJ j)])]
    (.dat (.val (.bool true)))
    [(1000, .box 41 [.own 0]), (1001, .dead), (1002, .box 173 [.dat (pdJ j)]), (0, .row 9 1 16 (pdS (l ++ [k])))] := by
  refine acall_of_run Try.func178 rfl Try.ntmps178 rfl (fun X => ?_)
  have hlen := pdS_len l
  have hb1 : ((pdS l).length + ([.val (.string k)] : List PD).length) * 16 ≤ 140737488351232 := by rw [hlen]; simpa using hl
  have hb2 : (pdS l).length + ([.val (.string k)] : List PD).length ≤ 140737488351232 := by rw [hlen]; simp; omega
  repeat' (first
    | refine run_seq ?_
    | (refine k_pick rfl ?_; first | refine k_appendOO rfl rfl rfl rfl rfl rfl (by kernel_rfl) rfl rfl hb1 hb2 ?_ | refine k_assignD rfl rfl ?_ | refine k_moveD rfl rfl ?_ | refine k_storeB rfl rfl rfl rfl rfl ?_ | refine k_loadBO rfl rfl rfl rfl ?_ | refine k_buildSlice rfl rfl (by kernel_rfl) rfl rfl rfl rfl rfl ?_)
    | refine run_opsEnd ?_
    | refine run_region ?_
    | fail)
  refine run_retA () (thk [(0, 9)] 0) (tm := [(5, .dat (.val (.bool true)))]) ?_ (resA_tmp rfl rfl)
  (refine ⟨?_, ?_, by rfl⟩ <;> repeat' (first | exact trivial | exact ALe.ptr rfl | exact ALe.own rfl | exact ALe.elt rfl | exact BLe.boxD _ _ | exact BLe.row rfl | exact BLe.res | exact BLe.dead rfl | exact ALe.dat (PLe.refl _) | exact CLe.nil | refine And.intro ?_ ?_ | refine ALe.iface ?_ | refine ALe.clo ?_ | refine CLe.cons ?_ ?_ | refine BLe.box ?_ | refine BLe.row ?_ | exact ALe.any _ | refine ALe.dat (PLe.of_eq ?_)))
  all_goals exact pdS_snoc l k
/-- The keys of the other, that the first has not. -/
theorem clo2_c (m : List (ByteArray × JV)) (l : List ByteArray) (k : ByteArray) (j : JV) (hl : (l.length + 1) * 16 ≤ 140737488351232) :
    ACall1 Try.prog 179 [.dat (.val (.string k)), .iface 139 (.ptr 1003 0), .ptr 1000 0, .ptr 1001 0]
    [(1000, .box 104 [.dat (dvM m)]), (1001, .box 41 [.own 1002]), (1002, .row 9 1 16 (pdS l)), (1003, .box 173 [.dat (pdJ j)])]
    (.dat (.val (.bool true)))
    [(1000, .box 104 [.dat (dvM m)]), (1001, .box 41 [.own 0]), (1002, .dead), (1003, .box 173 [.dat (pdJ j)]), (0, .row 9 1 16 (pdS (l ++ if (lkJ m k).isSome then [] else [k])))] := by
  have hH := has_p m k
  refine acall_of_run Try.func179 rfl Try.ntmps179 rfl (fun X => ?_)
  have hlen := pdS_len l
  have hb1 : ((pdS l).length + ([.val (.string k)] : List PD).length) * 16 ≤ 140737488351232 := by rw [hlen]; simpa using hl
  have hb2 : (pdS l).length + ([.val (.string k)] : List PD).length ≤ 140737488351232 := by rw [hlen]; simp; omega
  cases h : (lkJ m k).isSome with
  | true =>
    rw [h] at hH
    repeat' (first
    | refine run_seq ?_
    | (refine k_pick rfl ?_; first | refine k_assignD rfl rfl ?_ | refine k_moveD rfl rfl ?_ | refine k_loadBD rfl rfl rfl (by first | rfl | (simp only [cellsD]; rfl)) ?_ | refine k_pickF rfl rfl (by first | rfl | assumption) rfl ?_ | refine k_cmpNil rfl rfl rfl (by kernel_rfl) (by exact NilIs.ifc) rfl ?_)
    | refine run_opsEnd ?_
    | refine run_region ?_
    | refine run_condF rfl (by first | rfl | assumption) ?_
    | (refine k_guardY rfl rfl (by first | rfl | assumption) ?_; first | refine k_moveD rfl rfl ?_ | refine k_loadBD rfl rfl rfl (by first | rfl | (simp only [cellsD]; rfl)) ?_ | refine k_not rfl rfl ?_ | refine k_invS rfl rfl (by kernel_rfl) rfl (by first | exact hH) ?_)
    | refine run_skip ?_
    | fail)
    refine run_retA () (thk [(0, 1002)] 0) (tm := [(6, .dat (.val (.bool true)))]) ?_ (resA_tmp rfl rfl)
    (refine ⟨?_, ?_, by rfl⟩ <;> repeat' (first | exact trivial | exact ALe.ptr rfl | exact ALe.own rfl | exact ALe.elt rfl | exact BLe.boxD _ _ | exact BLe.row rfl | exact BLe.res | exact BLe.dead rfl | exact ALe.dat (PLe.refl _) | exact CLe.nil | refine And.intro ?_ ?_ | refine ALe.iface ?_ | refine ALe.clo ?_ | refine CLe.cons ?_ ?_ | refine BLe.box ?_ | refine BLe.row ?_ | exact ALe.any _ | refine ALe.dat (PLe.of_eq ?_)))
    all_goals simp
  | false =>
    rw [h] at hH
    repeat' (first
    | refine run_seq ?_
    | (refine k_pick rfl ?_; first | refine k_appendOO rfl rfl rfl rfl rfl rfl (by kernel_rfl) rfl rfl hb1 hb2 ?_ | refine k_assignD rfl rfl ?_ | refine k_moveD rfl rfl ?_ | refine k_loadBD rfl rfl rfl (by first | rfl | (simp only [cellsD]; rfl)) ?_ | refine k_pickF rfl rfl (by first | rfl | assumption) rfl ?_ | refine k_storeB rfl rfl rfl rfl rfl ?_ | refine k_loadBO rfl rfl rfl rfl ?_ | refine k_buildSlice rfl rfl (by kernel_rfl) rfl rfl rfl rfl rfl ?_ | refine k_cmpNil rfl rfl rfl (by kernel_rfl) (by exact NilIs.ifc) rfl ?_)
    | refine run_opsEnd ?_
    | refine run_region ?_
    | refine run_condT rfl (by first | rfl | assumption) ?_
    | (refine k_guardY rfl rfl (by first | rfl | assumption) ?_; first | refine k_moveD rfl rfl ?_ | refine k_loadBD rfl rfl rfl (by first | rfl | (simp only [cellsD]; rfl)) ?_ | refine k_not rfl rfl ?_ | refine k_invS rfl rfl (by kernel_rfl) rfl (by first | exact hH) ?_)
    | fail)
    refine run_retA () (thk [(0, 18)] 0) (tm := [(6, .dat (.val (.bool true)))]) ?_ (resA_tmp rfl rfl)
    (refine ⟨?_, ?_, by rfl⟩ <;> repeat' (first | exact trivial | exact ALe.ptr rfl | exact ALe.own rfl | exact ALe.elt rfl | exact BLe.boxD _ _ | exact BLe.row rfl | exact BLe.res | exact BLe.dead rfl | exact ALe.dat (PLe.refl _) | exact CLe.nil | refine And.intro ?_ ?_ | refine ALe.iface ?_ | refine ALe.clo ?_ | refine CLe.cons ?_ ?_ | refine BLe.box ?_ | refine BLe.row ?_ | exact ALe.any _ | refine ALe.dat (PLe.of_eq ?_)))
    all_goals (simp only [Bool.false_eq_true, if_false]; exact pdS_snoc l k)
end Go.Proofs.Ytbbacpdbbmjblaa
end
section
set_option linter.unusedVariables false
namespace Go.Proofs.Ytbbacpdbbmjblaa
open Go.RowKit
set_option linter.unusedSimpArgs false
theorem more_len {m done : List (ByteArray × JV)} {y : ByteArray × JV} (hnd : (done.map (·.1)).Nodup) (hsub : ∀ z ∈ done, z ∈ m) (hy : y ∈ m) (hny : y.1 ∉ done.map (·.1)) : done.length + 1 ≤ m.length := by
  have := nodup_len (a := (done ++ [y]).map (·.1)) (l := m.map (·.1)) (by
    rw [List.map_append, List.nodup_append]
    exact ⟨hnd, by simp, fun a ha b hb => by simp at hb; subst hb; exact fun e => hny (e ▸ ha)⟩) (fun x hx => by
    obtain ⟨z, hz, rfl⟩ := List.mem_map.1 hx
    rcases List.mem_append.1 hz with hz | hz
    · exact List.mem_map_of_mem (hsub z hz)
    · simp at hz; rw [hz]; exact List.mem_map_of_mem hy)
  simpa using this
theorem more_nd {done : List (ByteArray × JV)} {y : ByteArray × JV} (hnd : (done.map (·.1)).Nodup) (hny : y.1 ∉ done.map (·.1)) : ((done ++ [y]).map (·.1)).Nodup := by
  rw [List.map_append, List.nodup_append]
  exact ⟨hnd, by simp, fun a ha b hb => by simp at hb; subst hb; exact fun e => hny (e ▸ ha)⟩
theorem more_sub {m done : List (ByteArray × JV)} {y : ByteArray × JV} (hsub : ∀ z ∈ done, z ∈ m) (hy : y ∈ m) : ∀ z ∈ done ++ [y], z ∈ m := by
  intro z hz
  rcases List.mem_append.1 hz with hz | hz
  · exact hsub z hz
  · simp at hz; rw [hz]; exact hy
theorem all_perm {m done : List (ByteArray × JV)} (hm : (m.map (·.1)).Nodup) (hnd : (done.map (·.1)).Nodup) (hsub : ∀ z ∈ done, z ∈ m) (hev : ∀ y ∈ m, y ∈ done) : (done.map (·.1)).Perm (m.map (·.1)) :=
  (List.perm_ext_iff_of_nodup hnd hm).2 fun k => ⟨fun h => by
    obtain ⟨z, hz, rfl⟩ := List.mem_map.1 h
    exact List.mem_map_of_mem (hsub z hz), fun h => by
    obtain ⟨z, hz, rfl⟩ := List.mem_map.1 h
    exact List.mem_map_of_mem (hev z hz)⟩
set_option maxHeartbeats 4000000 in
theorem iter1_c (m : List (ByteArray × JV)) (l : List ByteArray) (hm : (m.map (·.1)).Nodup) (hl : (l.length + m.length) * 16 ≤ 140737488351232) :
    ACall Try.prog 167 [.dat (dvMm m), .dat dvA, .clo 178 [.ptr 1000 0]]
    [(1000, .box 41 [.own 1001]), (1001, .row 9 1 16 (pdS l))] (ι := { q : List ByteArray // q.Perm (m.map (·.1)) })
    (fun _ => .dat (.val (.bool true))) (fun q => [(1000, .box 41 [.own 0]), (1001, .dead), (0, .row 9 1 16 (pdS (l ++ q.1)))]) := by
  refine acall_of_run Try.func167 rfl Try.ntmps167 rfl (fun X => ?_)
  by_cases hn : m = []
  · subst hn
    have hq : decide (((([] : List (ByteArray × JV)).length : Nat) : Int) = 0) = true := rfl
    repeat' (first
    | refine run_seq ?_
    | (refine k_pick rfl ?_; first | refine k_assignD rfl rfl ?_ | refine k_moveD rfl rfl ?_ | refine k_bin2B rfl rfl rfl rfl ?_ | refine k_lenM rfl rfl ?_)
    | refine run_opsEnd ?_
    | refine run_region ?_
    | refine run_condT rfl (by first | rfl | assumption) ?_
    | fail)
    refine run_retA ⟨[], .refl _⟩ (thk [(0, 1001)] 0) (tm := [(6, .dat (.val (.bool true)))]) ?_ (resA_tmp rfl rfl)
    (refine ⟨?_, ?_, by rfl⟩ <;> repeat' (first | exact trivial | exact ALe.ptr rfl | exact ALe.own rfl | exact ALe.elt rfl | exact BLe.boxD _ _ | exact BLe.row rfl | exact BLe.res | exact BLe.dead rfl | exact ALe.dat (PLe.refl _) | exact CLe.nil | refine And.intro ?_ ?_ | refine ALe.iface ?_ | refine ALe.clo ?_ | refine CLe.cons ?_ ?_ | refine BLe.box ?_ | refine BLe.row ?_ | exact ALe.any _ | refine ALe.dat (PLe.of_eq ?_)))
    all_goals simp
  · have hq : decide (((m.length : Nat) : Int) = 0) = false := by
      cases m with
      | nil => exact absurd rfl hn
      | cons x r => simp; omega
    repeat' (first
    | refine run_seq ?_
    | (refine k_pick rfl ?_; first | refine k_rangeM rfl rfl rfl ?_ | refine k_assignD rfl rfl ?_ | refine k_moveD rfl rfl ?_ | refine k_bin2B rfl rfl rfl rfl ?_ | refine k_assignP rfl rfl ?_ | refine k_moveP rfl rfl ?_ | refine k_invAS1 (thk [] 200) rfl rfl (by kernel_rfl) (alloc_c) rfl trivial rfl (freshB_ok rfl) rfl ?_ | refine k_nilI rfl rfl ?_ | refine k_ifaceP rfl rfl (by kernel_rfl) ?_ | refine k_lenM rfl rfl ?_ | refine k_deferA rfl free_idle ?_)
    | refine run_opsEnd ?_
    | refine run_region ?_
    | refine run_condF rfl (by first | rfl | assumption) ?_
    | refine run_block ?_
    | refine run_skip ?_
    | fail)
    refine run_loopS (ι := { done : List (ByteArray × JV) // (done.map (·.1)).Nodup ∧ (∀ y ∈ done, y ∈ m) })
      (fun k => [(2, .clo 178 [.ptr 1000 0]), (7, .ptr 200 0), (20, .own 20)])
      (fun k => [(20, .res (itR m k.1)), (200, .box 173 [.any]), (1000, .box 41 [.own 300]), (1001, .dead), (300, .row 9 1 16 (pdS (l ++ k.1.map (·.1))))])
      (fun k => m.length - k.1.length) ⟨[], by simp, by simp⟩ (thk [(300, 1001)] 0) ?_ ?_
    · (refine ⟨?_, ?_, by rfl⟩ <;> repeat' (first | exact trivial | exact ALe.ptr rfl | exact ALe.own rfl | exact ALe.elt rfl | exact BLe.boxD _ _ | exact BLe.row rfl | exact BLe.res | exact BLe.dead rfl | exact ALe.dat (PLe.refl _) | exact CLe.nil | refine And.intro ?_ ?_ | refine ALe.iface ?_ | refine ALe.clo ?_ | refine CLe.cons ?_ ?_ | refine BLe.box ?_ | refine BLe.row ?_ | exact ALe.any _ | refine ALe.dat (PLe.of_eq ?_)))
      all_goals simp
    rintro ⟨done, hnd, hsub⟩
    repeat' (first
    | refine run_seq ?_
    | refine run_region ?_
    | fail)
    refine k_pick rfl (k_nextM rfl rfl rfl (fun hev => ?_) (fun y hy hny => ?_))
    · repeat' (first
    | refine run_seq ?_
    | (refine k_pick rfl ?_; first | refine k_assignD rfl rfl ?_ | refine k_extract rfl rfl rfl ?_)
    | refine run_opsEnd ?_
    | refine run_region ?_
    | refine run_condF rfl (by first | rfl | assumption) ?_
    | refine run_exit rfl ?_
    | fail)
      refine run_retA ⟨done.map (·.1), all_perm hm hnd hsub hev⟩ (thk [(0, 300)] 0) (tm := [(6, .dat (.val (.bool true)))]) ?_ (resA_tmp rfl rfl)
      (refine ⟨?_, ?_, by rfl⟩ <;> repeat' (first | exact trivial | exact ALe.ptr rfl | exact ALe.own rfl | exact ALe.elt rfl | exact BLe.boxD _ _ | exact BLe.row rfl | exact BLe.res | exact BLe.dead rfl | exact ALe.dat (PLe.refl _) | exact CLe.nil | refine And.intro ?_ ?_ | refine ALe.iface ?_ | refine ALe.clo ?_ | refine CLe.cons ?_ ?_ | refine BLe.box ?_ | refine BLe.row ?_ | exact ALe.any _ | refine ALe.dat (PLe.of_eq ?_)))
    · have hml := more_len hnd hsub hy hny
      have hC := clo1_c (l ++ done.map (·.1)) y.1 y.2 (by simp; omega)
      have hq1 : (!true) = false := rfl
      repeat' (first
    | refine run_seq ?_
    | (refine k_pick rfl ?_; first | refine k_entryM rfl rfl rfl ?_ | refine k_assignD rfl rfl ?_ | refine k_moveD rfl rfl ?_ | refine k_extract rfl rfl rfl ?_ | refine k_not rfl rfl ?_ | refine k_moveP rfl rfl ?_ | refine k_acall1 (thk [(1000, _)] 200) rfl (by kernel_rfl) (reuse_c .any _) rfl ⟨rfl, trivial⟩ rfl (freshB_ok rfl) rfl ?_ | refine k_cloA1 (thk [(1000, _), (1001, _), (1002, _)] 350) rfl rfl (by kernel_rfl) (hC) rfl ⟨rfl, ⟨rfl, ⟨rfl, trivial⟩⟩⟩ rfl (freshB_ok rfl) rfl ?_ | refine k_moveC rfl rfl ?_)
    | refine run_opsEnd ?_
    | refine run_region ?_
    | refine run_condT rfl (by first | rfl | assumption) ?_
    | refine run_condF rfl (by first | rfl | assumption) ?_
    | refine run_block ?_
    | refine run_blkEnd ?_
    | refine run_skip ?_
    | fail)
      refine run_again ?_
      refine ⟨⟨done ++ [y], more_nd hnd hny, more_sub hsub hy⟩, thk [(300, 350)] 0, by simp only [List.length_append, List.length_cons, List.length_nil]; omega, ?_⟩
      (refine ⟨?_, ?_, by rfl⟩ <;> repeat' (first | exact trivial | exact ALe.ptr rfl | exact ALe.own rfl | exact ALe.elt rfl | exact BLe.boxD _ _ | exact BLe.row rfl | exact BLe.res | exact BLe.dead rfl | exact ALe.dat (PLe.refl _) | exact CLe.nil | refine And.intro ?_ ?_ | refine ALe.iface ?_ | refine ALe.clo ?_ | refine CLe.cons ?_ ?_ | refine BLe.box ?_ | refine BLe.row ?_ | exact ALe.any _ | refine ALe.dat (PLe.of_eq ?_)))
      all_goals simp
set_option maxHeartbeats 4000000 in
theorem iter2_c (p m : List (ByteArray × JV)) (l : List ByteArray) (hm : (m.map (·.1)).Nodup) (hl : (l.length + m.length) * 16 ≤ 140737488351232) :
    ACall Try.prog 167 [.dat (dvMm m), .dat dvA, .clo 179 [.ptr 1000 0, .ptr 1001 0]]
    [(1000, .box 104 [.dat (dvM p)]), (1001, .box 41 [.own 1002]), (1002, .row 9 1 16 (pdS l))] (ι := { q : List ByteArray // q.Perm ((m.map (·.1)).filter fun k => !(lkJ p k).isSome) })
    (fun _ => .dat (.val (.bool true))) (fun q => [(1000, .box 104 [.dat (dvM p)]), (1001, .box 41 [.own 0]), (1002, .dead), (0, .row 9 1 16 (pdS (l ++ q.1)))]) := by
  refine acall_of_run Try.func167 rfl Try.ntmps167 rfl (fun X => ?_)
  by_cases hn : m = []
  · subst hn
    have hq : decide (((([] : List (ByteArray × JV)).length : Nat) : Int) = 0) = true := rfl
    repeat' (first
    | refine run_seq ?_
    | (refine k_pick rfl ?_; first | refine k_assignD rfl rfl ?_ | refine k_moveD rfl rfl ?_ | refine k_bin2B rfl rfl rfl rfl ?_ | refine k_lenM rfl rfl ?_)
    | refine run_opsEnd ?_
    | refine run_region ?_
    | refine run_condT rfl (by first | rfl | assumption) ?_
    | fail)
    refine run_retA ⟨[], .refl _⟩ (thk [(0, 1002)] 0) (tm := [(6, .dat (.val (.bool true)))]) ?_ (resA_tmp rfl rfl)
    (refine ⟨?_, ?_, by rfl⟩ <;> repeat' (first | exact trivial | exact ALe.ptr rfl | exact ALe.own rfl | exact ALe.elt rfl | exact BLe.boxD _ _ | exact BLe.row rfl | exact BLe.res | exact BLe.dead rfl | exact ALe.dat (PLe.refl _) | exact CLe.nil | refine And.intro ?_ ?_ | refine ALe.iface ?_ | refine ALe.clo ?_ | refine CLe.cons ?_ ?_ | refine BLe.box ?_ | refine BLe.row ?_ | exact ALe.any _ | refine ALe.dat (PLe.of_eq ?_)))
    all_goals simp
  · have hq : decide (((m.length : Nat) : Int) = 0) = false := by
      cases m with
      | nil => exact absurd rfl hn
      | cons x r => simp; omega
    repeat' (first
    | refine run_seq ?_
    | (refine k_pick rfl ?_; first | refine k_rangeM rfl rfl rfl ?_ | refine k_assignD rfl rfl ?_ | refine k_moveD rfl rfl ?_ | refine k_bin2B rfl rfl rfl rfl ?_ | refine k_assignP rfl rfl ?_ | refine k_moveP rfl rfl ?_ | refine k_invAS1 (thk [] 200) rfl rfl (by kernel_rfl) (alloc_c) rfl trivial rfl (freshB_ok rfl) rfl ?_ | refine k_nilI rfl rfl ?_ | refine k_ifaceP rfl rfl (by kernel_rfl) ?_ | refine k_lenM rfl rfl ?_ | refine k_deferA rfl free_idle ?_)
    | refine run_opsEnd ?_
    | refine run_region ?_
    | refine run_condF rfl (by first | rfl | assumption) ?_
    | refine run_block ?_
    | refine run_skip ?_
    | fail)
    refine run_loopS (ι := { done : List (ByteArray × JV) // (done.map (·.1)).Nodup ∧ (∀ y ∈ done, y ∈ m) })
      (fun k => [(2, .clo 179 [.ptr 1000 0, .ptr 1001 0]), (7, .ptr 200 0), (20, .own 20)])
      (fun k => [(20, .res (itR m k.1)), (200, .box 173 [.any]), (1000, .box 104 [.dat (dvM p)]), (1001, .box 41 [.own 300]), (1002, .dead), (300, .row 9 1 16 (pdS (l ++ (k.1.map (·.1)).filter fun k => !(lkJ p k).isSome)))])
      (fun k => m.length - k.1.length) ⟨[], by simp, by simp⟩ (thk [(300, 1002)] 0) ?_ ?_
    · (refine ⟨?_, ?_, by rfl⟩ <;> repeat' (first | exact trivial | exact ALe.ptr rfl | exact ALe.own rfl | exact ALe.elt rfl | exact BLe.boxD _ _ | exact BLe.row rfl | exact BLe.res | exact BLe.dead rfl | exact ALe.dat (PLe.refl _) | exact CLe.nil | refine And.intro ?_ ?_ | refine ALe.iface ?_ | refine ALe.clo ?_ | refine CLe.cons ?_ ?_ | refine BLe.box ?_ | refine BLe.row ?_ | exact ALe.any _ | refine ALe.dat (PLe.of_eq ?_)))
      all_goals simp
    rintro ⟨done, hnd, hsub⟩
    repeat' (first
    | refine run_seq ?_
    | refine run_region ?_
    | fail)
    refine k_pick rfl (k_nextM rfl rfl rfl (fun hev => ?_) (fun y hy hny => ?_))
    · repeat' (first
    | refine run_seq ?_
    | (refine k_pick rfl ?_; first | refine k_assignD rfl rfl ?_ | refine k_extract rfl rfl rfl ?_)
    | refine run_opsEnd ?_
    | refine run_region ?_
    | refine run_condF rfl (by first | rfl | assumption) ?_
    | refine run_exit rfl ?_
    | fail)
      refine run_retA ⟨(done.map (·.1)).filter fun k => !(lkJ p k).isSome, (all_perm hm hnd hsub hev).filter _⟩ (thk [(0, 300)] 0) (tm := [(6, .dat (.val (.bool true)))]) ?_ (resA_tmp rfl rfl)
      (refine ⟨?_, ?_, by rfl⟩ <;> repeat' (first | exact trivial | exact ALe.ptr rfl | exact ALe.own rfl | exact ALe.elt rfl | exact BLe.boxD _ _ | exact BLe.row rfl | exact BLe.res | exact BLe.dead rfl | exact ALe.dat (PLe.refl _) | exact CLe.nil | refine And.intro ?_ ?_ | refine ALe.iface ?_ | refine ALe.clo ?_ | refine CLe.cons ?_ ?_ | refine BLe.box ?_ | refine BLe.row ?_ | exact ALe.any _ | refine ALe.dat (PLe.of_eq ?_)))
    · have hml := more_len hnd hsub hy hny
      have hfl := List.length_filter_le (fun k => !(lkJ p k).isSome) (done.map (·.1))
      have hC := clo2_c p (l ++ (done.map (·.1)).filter fun k => !(lkJ p k).isSome) y.1 y.2 (by simp at hfl ⊢; omega)
      have hq1 : (!true) = false := rfl
      repeat' (first
    | refine run_seq ?_
    | (refine k_pick rfl ?_; first | refine k_entryM rfl rfl rfl ?_ | refine k_assignD rfl rfl ?_ | refine k_moveD rfl rfl ?_ | refine k_extract rfl rfl rfl ?_ | refine k_not rfl rfl ?_ | refine k_moveP rfl rfl ?_ | refine k_acall1 (thk [(1000, _)] 200) rfl (by kernel_rfl) (reuse_c .any _) rfl ⟨rfl, trivial⟩ rfl (freshB_ok rfl) rfl ?_ | refine k_cloA1 (thk [(1000, _), (1001, _), (1002, _), (1003, _)] 350) rfl rfl (by kernel_rfl) (hC) rfl ⟨rfl, ⟨rfl, ⟨rfl, ⟨rfl, trivial⟩⟩⟩⟩ rfl (freshB_ok rfl) rfl ?_ | refine k_moveC rfl rfl ?_)
    | refine run_opsEnd ?_
    | refine run_region ?_
    | refine run_condT rfl (by first | rfl | assumption) ?_
    | refine run_condF rfl (by first | rfl | assumption) ?_
    | refine run_block ?_
    | refine run_blkEnd ?_
    | refine run_skip ?_
    | fail)
      refine run_again ?_
      refine ⟨⟨done ++ [y], more_nd hnd hny, more_sub hsub hy⟩, thk [(300, 350)] 0, by simp only [List.length_append, List.length_cons, List.length_nil]; omega, ?_⟩
      (refine ⟨?_, ?_, by rfl⟩ <;> repeat' (first | exact trivial | exact ALe.ptr rfl | exact ALe.own rfl | exact ALe.elt rfl | exact BLe.boxD _ _ | exact BLe.row rfl | exact BLe.res | exact BLe.dead rfl | exact ALe.dat (PLe.refl _) | exact CLe.nil | refine And.intro ?_ ?_ | refine ALe.iface ?_ | refine ALe.clo ?_ | refine CLe.cons ?_ ?_ | refine BLe.box ?_ | refine BLe.row ?_ | exact ALe.any _ | refine ALe.dat (PLe.of_eq ?_)))
      all_goals
        rw [List.map_append, List.filter_append, show List.filter (fun k => !(lkJ p k).isSome) ([y].map (·.1)) = (if (lkJ p y.1).isSome then [] else [y.1]) by
          simp only [List.map_cons, List.map_nil, List.filter_cons, List.filter_nil]
          cases hs : (lkJ p y.1).isSome <;> rfl, List.append_assoc]
end Go.Proofs.Ytbbacpdbbmjblaa
end
section
namespace Go.Proofs.Ytbbacpdbbmjblaa
open Go.RowKit
theorem IsV.vals {w : World} {S : Nat → Prop} {x : GV} {c0 c1 c2 c3 c4 : Value} {a : Option Addr} {n c : Nat} (h : IsV w S x (.agg #[c0, c1, c2, c3, c4, .slice a n c])) : x.l = [] ∨ ∃ b o, S b ∧ a = some ⟨b, o, none⟩ ∧ IsVs w S x.l b o := by
  obtain ⟨k, m, f, s, ks, l⟩ := x
  unfold IsV at h
  obtain ⟨vk, a', c', e, _, _, _, _, _, _, _, hl⟩ := h
  injection e with e
  injection e with e
  simp only [List.cons.injEq, and_true] at e
  obtain ⟨_, _, _, _, _, e⟩ := e
  injection e with e1 _ _
  rw [e1]; exact hl
theorem IsV.len {w : World} {S : Nat → Prop} {x : GV} {v : Value} (h : IsV w S x v) : x.l.length * 88 ≤ 140737488351232 := by
  obtain ⟨k, m, f, s, ks, l⟩ := x
  unfold IsV at h
  obtain ⟨_, _, _, _, _, _, _, _, _, _, h, _⟩ := h
  exact h
theorem vals_at {w : World} {S : Nat → Prop} {l : List GV} {a : Option Addr} (h : l = [] ∨ ∃ b o, S b ∧ a = some ⟨b, o, none⟩ ∧ IsVs w S l b o) (hp : 0 < l.length) : ∃ b o, S b ∧ a = some ⟨b, o, none⟩ ∧ IsVs w S l b o :=
  h.resolve_left (fun e => by rw [e] at hp; simp at hp)
end Go.Proofs.Ytbbacpdbbmjblaa
end
section
namespace Go.Proofs.Ytbbacpdbbmjblaa
open Go.RowKit
set_option linter.unusedSimpArgs false
/-- Whether two floating-point numbers are equal. -/
def feq (f g : Nat) : Bool := FloatKind.f64.format.order f g == some Ordering.eq
mutual
/-- No NaN, no whole number beyond 2^53. -/
def ordV : GV → Bool
  | .mk k n f _ _ l => if k = 2 then decide (-9007199254740992 ≤ n) && decide (n ≤ 9007199254740992) else if k = 3 then feq f f else if k = 5 then ordL l else if k = 6 then ordL l else true
def ordL : List GV → Bool
  | [] => true
  | x :: r => ordV x && ordL r
end
theorem ordL_iff : ∀ {l : List GV}, ordL l = true ↔ ∀ y ∈ l, ordV y = true
  | [] => by simp [ordL]
  | x :: r => by simp [ordL, ordL_iff (l := r)]
def OrdC (x : GV) : Prop := ∀ (w : World) (v : Value), IsV w (Btw 0 w.heap.size) x v → Calls Try.prog 16 #[v] w fun e w' => e = .returned (.bool (ordV x)) ∧ Below w.heap.size w w'
theorem OrdC.use {x : GV} (h : OrdC x) (w : World) (v : Value) (hv : IsV w (Btw 0 w.heap.size) x v) : Calls Try.prog 16 #[v] w fun e w' => e = .returned (.bool (ordV x)) ∧ Below w.heap.size w w' := h w v hv
set_option maxHeartbeats 1000000 in
set_option maxRecDepth 100000 in
theorem ord_flt (n : Int) (f : Nat) (s : ByteArray) (ks : List ByteArray) (l : List GV) : OrdC (.mk 3 n f s ks l) := by
  intro w v hv
  obtain ⟨a0, c0, a1, c1, rfl⟩ := hv.form
  simp only [GV.kind, GV.n, GV.f, GV.s, GV.keys, GV.l]
  clear hv
  have e : ordV (.mk 3 n f s ks l) = feq f f := by simp [ordV]
  rw [e]
  go_enter Try.func16, Try.ntmps16
  go_wp2_with fail
  go_ret
  exact ⟨rfl, (Below.refl _ _).alloc (Nat.le_refl _) _⟩
set_option maxHeartbeats 1000000 in
set_option maxRecDepth 100000 in
theorem ord_int (n : Int) (f : Nat) (s : ByteArray) (ks : List ByteArray) (l : List GV) : OrdC (.mk 2 n f s ks l) := by
  intro w v hv
  obtain ⟨a0, c0, a1, c1, rfl⟩ := hv.form
  simp only [GV.kind, GV.n, GV.f, GV.s, GV.keys, GV.l]
  clear hv
  have e : ordV (.mk 2 n f s ks l) = (decide (-9007199254740992 ≤ n) && decide (n ≤ 9007199254740992)) := by simp [ordV]
  rw [e]
  by_cases h1 : -9007199254740992 ≤ n
  · have e1 : decide (-9007199254740992 ≤ n) = true := by simpa using h1
    rw [e1, Bool.true_and]
    go_enter Try.func16, Try.ntmps16
    go_wp2_with fail
    go_ret
    exact ⟨rfl, (Below.refl _ _).alloc (Nat.le_refl _) _⟩
  · have e1 : decide (-9007199254740992 ≤ n) = false := by simpa using h1
    rw [e1, Bool.false_and]
    go_enter Try.func16, Try.ntmps16
    go_wp2_with fail
    go_ret
    exact ⟨rfl, (Below.refl _ _).alloc (Nat.le_refl _) _⟩
set_option maxHeartbeats 1000000 in
set_option maxRecDepth 100000 in
theorem ord_other (k n : Int) (f : Nat) (s : ByteArray) (ks : List ByteArray) (l : List GV) (h2 : k ≠ 2) (h3 : k ≠ 3) (h5 : k ≠ 5) (h6 : k ≠ 6) : OrdC (.mk k n f s ks l) := by
  intro w v hv
  obtain ⟨a0, c0, a1, c1, rfl⟩ := hv.form
  simp only [GV.kind, GV.n, GV.f, GV.s, GV.keys, GV.l]
  clear hv
  have e : ordV (.mk k n f s ks l) = true := by simp [ordV, h2, h3, h5, h6]
  rw [e]
  have k2 : (k == 2) = false := by simp [h2]
  have k3 : (k == 3) = false := by simp [h3]
  have k5 : (k == 5) = false := by simp [h5]
  have k6 : (k == 6) = false := by simp [h6]
  go_enter Try.func16, Try.ntmps16
  go_wp2_with fail
  go_ret
  exact ⟨rfl, (Below.refl _ _).alloc (Nat.le_refl _) _⟩
set_option maxHeartbeats 1000000 in
set_option maxRecDepth 100000 in
theorem ord_list5 (n : Int) (f : Nat) (s : ByteArray) (ks : List ByteArray) (l : List GV) (ih : ∀ y ∈ l, OrdC y) : OrdC (.mk 5 n f s ks l) := by
  intro w v hv
  have hl88 := hv.len
  have hv0 := hv
  obtain ⟨a0, c0, a1, c1, rfl⟩ := hv.form
  have hl := hv0.vals
  simp only [GV.kind, GV.n, GV.f, GV.s, GV.keys, GV.l] at hl hl88 ⊢
  clear hv hv0
  have e : ordV (.mk 5 n f s ks l) = ordL l := by simp [ordV]
  rw [e]
  go_enter Try.func16, Try.ntmps16
  go_wp2_with fail
  have hB0 : Below w.heap.size w (w.alloc (.cells #[.int .i64 5, .int .i64 n, .float .f64 f, .string s, .slice a0 ks.length c0, .slice a1 l.length c1] 43)) := (Below.refl _ _).alloc (Nat.le_refl _) _
  generalize w.alloc (.cells #[.int .i64 5, .int .i64 n, .float .f64 f, .string s, .slice a0 ks.length c0, .slice a1 l.length c1] 43) = w0 at *
  go_loopw [30] (fun i wr => ∃ k : Nat, k ≤ l.length ∧ i = .int .i64 (k : Nat) ∧ Below w.heap.size w wr ∧ ∀ y ∈ l.take k, ordV y = true) (fun i _ => l.length - (intOf i).toNat)
  case atStart => exact ⟨0, Nat.zero_le _, rfl, hB0, by simp⟩
  case round =>
    clear hB0
    obtain ⟨k, hk, rfl, hB, hall⟩ := hrel
    by_cases hlt : k < l.length
    · obtain ⟨b, o, hb, rfl, hcells⟩ := vals_at hl (by omega)
      obtain ⟨y, hy⟩ : ∃ y, l[k]? = some y := ⟨l[k], by simp [hlt]⟩
      obtain ⟨e0, f0, e1, f1, g0, g1, g2, g3, g4, g5, hyv⟩ := (IsVs.keep (S' := Btw 0 wr.heap.size) (Btw.kept hB) (Btw.mono (Nat.le_refl _) hB.size) l b o hb hcells).cells hy
      have hc := ih y (List.mem_of_getElem? hy)
      have hyA := hyv.alloc_ (.cells #[.int .i64 y.kind, .int .i64 y.n, .float .f64 y.f, .string y.s, .slice e0 y.keys.length f0, .slice e1 y.l.length f1] 43)
      have HY := Lib.hid (And.intro hy (And.intro hall hB))
      have j0 : (0 : Int) ≤ (k : Int) := by omega
      have j1 : (k : Int) < (l.length : Int) := by omega
      have hs := hB.size
      clear hy hall hB hcells hyv
      go_wp2_with (go_at_call 16; (with_reducible refine (hc.use _ _ ?_).mono ?_))
      · simpa using hyA
      rintro e w2 ⟨rfl, hB2'⟩
      obtain ⟨hy, hall, hB⟩ := HY.out
      have hB2 : Below w.heap.size w w2 := (hB.alloc hs (.cells #[.int .i64 y.kind, .int .i64 y.n, .float .f64 y.f, .string y.s, .slice e0 y.keys.length f0, .slice e1 y.l.length f1] 43)).trans (hB2'.mono (by simp; omega))
      clear g0 g1 g2 g3 g4 g5 hyA hc HY hB2'
      cases ho : ordV y with
      | false =>
        have hf : ordL l = false := by
          cases h : ordL l with
          | false => rfl
          | true => rw [ordL_iff.1 h y (List.mem_of_getElem? hy)] at ho; cases ho
        go_wp2_with fail
        go_ret
        rw [hf]
        exact ⟨rfl, hB2⟩
      | true =>
        have HF := Lib.hid (show ∀ z ∈ l.take (k + 1), ordV z = true from fun z hz => by
          rw [List.take_add_one, hy] at hz
          rcases List.mem_append.1 hz with hz | hz
          · exact hall z hz
          · simp at hz; subst hz; exact ho)
        clear hall hy hB
        go_wp2_with fail
        go_roundw
        case rel => exact ⟨k + 1, hlt, by go_num, hB2, HF.out⟩
        case measure => simp [intOf]; omega
    · have hkl : k = l.length := by omega
      subst hkl
      have ht : ordL l = true := ordL_iff.2 (by rw [List.take_length] at hall; exact hall)
      have HT := Lib.hid ht
      clear ht hall
      go_wp2_with fail
      go_ret
      rw [HT.out]
      exact ⟨rfl, hB⟩
set_option maxHeartbeats 1000000 in
set_option maxRecDepth 100000 in
theorem ord_list6 (n : Int) (f : Nat) (s : ByteArray) (ks : List ByteArray) (l : List GV) (ih : ∀ y ∈ l, OrdC y) : OrdC (.mk 6 n f s ks l) := by
  intro w v hv
  have hl88 := hv.len
  have hv0 := hv
  obtain ⟨a0, c0, a1, c1, rfl⟩ := hv.form
  have hl := hv0.vals
  simp only [GV.kind, GV.n, GV.f, GV.s, GV.keys, GV.l] at hl hl88 ⊢
  clear hv hv0
  have e : ordV (.mk 6 n f s ks l) = ordL l := by simp [ordV]
  rw [e]
  go_enter Try.func16, Try.ntmps16
  go_wp2_with fail
  have hB0 : Below w.heap.size w (w.alloc (.cells #[.int .i64 6, .int .i64 n, .float .f64 f, .string s, .slice a0 ks.length c0, .slice a1 l.length c1] 43)) := (Below.refl _ _).alloc (Nat.le_refl _) _
  generalize w.alloc (.cells #[.int .i64 6, .int .i64 n, .float .f64 f, .string s, .slice a0 ks.length c0, .slice a1 l.length c1] 43) = w0 at *
  go_loopw [30] (fun i wr => ∃ k : Nat, k ≤ l.length ∧ i = .int .i64 (k : Nat) ∧ Below w.heap.size w wr ∧ ∀ y ∈ l.take k, ordV y = true) (fun i _ => l.length - (intOf i).toNat)
  case atStart => exact ⟨0, Nat.zero_le _, rfl, hB0, by simp⟩
  case round =>
    clear hB0
    obtain ⟨k, hk, rfl, hB, hall⟩ := hrel
    by_cases hlt : k < l.length
    · obtain ⟨b, o, hb, rfl, hcells⟩ := vals_at hl (by omega)
      obtain ⟨y, hy⟩ : ∃ y, l[k]? = some y := ⟨l[k], by simp [hlt]⟩
      obtain ⟨e0, f0, e1, f1, g0, g1, g2, g3, g4, g5, hyv⟩ := (IsVs.keep (S' := Btw 0 wr.heap.size) (Btw.kept hB) (Btw.mono (Nat.le_refl _) hB.size) l b o hb hcells).cells hy
      have hc := ih y (List.mem_of_getElem? hy)
      have hyA := hyv.alloc_ (.cells #[.int .i64 y.kind, .int .i64 y.n, .float .f64 y.f, .string y.s, .slice e0 y.keys.length f0, .slice e1 y.l.length f1] 43)
      have HY := Lib.hid (And.intro hy (And.intro hall hB))
      have j0 : (0 : Int) ≤ (k : Int) := by omega
      have j1 : (k : Int) < (l.length : Int) := by omega
      have hs := hB.size
      clear hy hall hB hcells hyv
      go_wp2_with (go_at_call 16; (with_reducible refine (hc.use _ _ ?_).mono ?_))
      · simpa using hyA
      rintro e w2 ⟨rfl, hB2'⟩
      obtain ⟨hy, hall, hB⟩ := HY.out
      have hB2 : Below w.heap.size w w2 := (hB.alloc hs (.cells #[.int .i64 y.kind, .int .i64 y.n, .float .f64 y.f, .string y.s, .slice e0 y.keys.length f0, .slice e1 y.l.length f1] 43)).trans (hB2'.mono (by simp; omega))
      clear g0 g1 g2 g3 g4 g5 hyA hc HY hB2'
      cases ho : ordV y with
      | false =>
        have hf : ordL l = false := by
          cases h : ordL l with
          | false => rfl
          | true => rw [ordL_iff.1 h y (List.mem_of_getElem? hy)] at ho; cases ho
        go_wp2_with fail
        go_ret
        rw [hf]
        exact ⟨rfl, hB2⟩
      | true =>
        have HF := Lib.hid (show ∀ z ∈ l.take (k + 1), ordV z = true from fun z hz => by
          rw [List.take_add_one, hy] at hz
          rcases List.mem_append.1 hz with hz | hz
          · exact hall z hz
          · simp at hz; subst hz; exact ho)
        clear hall hy hB
        go_wp2_with fail
        go_roundw
        case rel => exact ⟨k + 1, hlt, by go_num, hB2, HF.out⟩
        case measure => simp [intOf]; omega
    · have hkl : k = l.length := by omega
      subst hkl
      have ht : ordL l = true := ordL_iff.2 (by rw [List.take_length] at hall; exact hall)
      have HT := Lib.hid ht
      clear ht hall
      go_wp2_with fail
      go_ret
      rw [HT.out]
      exact ⟨rfl, hB⟩
/-- Orderly tells whether a value is orderly. -/
theorem ord_any : ∀ x : GV, OrdC x
  | .mk k n f s ks l => by
    have ih : ∀ y ∈ l, OrdC y := fun y hy => ord_any y
    by_cases h2 : k = 2
    · subst h2; exact ord_int n f s ks l
    by_cases h3 : k = 3
    · subst h3; exact ord_flt n f s ks l
    by_cases h5 : k = 5
    · subst h5; exact ord_list5 n f s ks l ih
    by_cases h6 : k = 6
    · subst h6; exact ord_list6 n f s ks l ih
    exact ord_other k n f s ks l h2 h3 h5 h6
termination_by x => SizeOf.sizeOf x
decreasing_by
  have := List.sizeOf_lt_of_mem hy
  simp; omega
end Go.Proofs.Ytbbacpdbbmjblaa
end
section
set_option linter.unusedVariables false
namespace Go.Proofs.Ytbbacpdbbmjblaa
open Go.RowKit
set_option linter.unusedSimpArgs false
mutual
/-- Two trees are equal: as value.Equals has it. -/
def eqJ : JV → JV → Bool
  | .flt a, .flt b => feq a b
  | .flt a, .int n => feq a (floatOfInt .f64 n)
  | .int n, .flt b => feq (floatOfInt .f64 n) b
  | .int a, .int b => decide (a = b)
  | .str a, .str b => decide (a = b)
  | .bool a, .bool b => a == b
  | .list a, .list b => eqJs a b
  | .map a, .map b => Nat.beq a.length b.length && eqJm a b
  | .null, .null => true
  | _, _ => false
termination_by _ k => SizeOf.sizeOf k
def eqJs : List JV → List JV → Bool
  | [], [] => true
  | x :: r, y :: q => eqJ x y && eqJs r q
  | _, _ => false
termination_by _ k => SizeOf.sizeOf k
def eqJm : List (ByteArray × JV) → List (ByteArray × JV) → Bool
  | _, [] => true
  | a, y :: q => (match lkJ a y.1 with | some x => eqJ x y.2 | none => false) && eqJm a q
termination_by _ k => SizeOf.sizeOf k
decreasing_by
  all_goals simp_wf
  · obtain ⟨y1, y2⟩ := y; simp; omega
  · omega
end
theorem eqJs_len : ∀ {a b : List JV}, eqJs a b = true → a.length = b.length
  | [], [], _ => rfl
  | x :: r, y :: q, h => by
    unfold eqJs at h
    simp only [Bool.and_eq_true] at h
    simp [eqJs_len h.2]
  | [], _ :: _, h => by simp [eqJs] at h
  | _ :: _, [], h => by simp [eqJs] at h
theorem eqJs_true : ∀ {a b : List JV}, a.length = b.length → (∀ (i : Nat) (x y : JV), a[i]? = some x → b[i]? = some y → eqJ x y = true) → eqJs a b = true
  | [], [], _, _ => by unfold eqJs; rfl
  | x :: r, y :: q, hl, h => by
    unfold eqJs
    rw [h 0 x y rfl rfl, eqJs_true (by simpa using hl) (fun i x y hx hy => h (i + 1) x y (by simpa using hx) (by simpa using hy))]
    rfl
  | [], _ :: _, hl, _ => by simp at hl
  | _ :: _, [], hl, _ => by simp at hl
theorem eqJs_false : ∀ {a b : List JV} {i : Nat} {x y : JV}, a[i]? = some x → b[i]? = some y → eqJ x y = false → eqJs a b = false
  | x' :: r, y' :: q, 0, x, y, hx, hy, h => by
    simp only [List.getElem?_cons_zero, Option.some.injEq] at hx hy
    subst hx hy
    unfold eqJs
    rw [h]; rfl
  | x' :: r, y' :: q, i + 1, x, y, hx, hy, h => by
    unfold eqJs
    rw [eqJs_false (by simpa using hx) (by simpa using hy) h]
    simp
  | [], _, _, _, _, hx, _, _ => by simp at hx
  | _ :: _, [], _, _, _, _, hy, _ => by simp at hy
theorem dvLs_len {w : World} {F : Nat → Prop} {l : List JV} {v : Value} (h : Rep w F (dvLs l) v) : l.length * 16 ≤ 140737488351232 := by
  unfold dvLs Rep at h
  obtain ⟨_, _, _, h, _⟩ := h
  exact h
theorem rangeCons_c (l : List JV) (h : l ≠ []) : ACall1 Try.prog 158 [.dat (dvLs l), .dat dvA] [] (.iface 253 (.ptr 0 0))
    [(0, .box 255 [.dat (dvLs l), .ptr 1 0, .dat (.val (.int .i64 (-1)))]), (1, .box 173 [.dat (.val .nilIface)])] := by
  refine acall_of_run Try.func158 rfl Try.ntmps158 rfl (fun X => ?_)
  have hq : decide (((l.length : Nat) : Int) = 0) = false := by
    cases l with
    | nil => exact absurd rfl h
    | cons x r => simp; omega
  repeat' (first
    | refine run_seq ?_
    | (refine k_pick rfl ?_; first | refine k_assignD rfl rfl ?_ | refine k_moveD rfl rfl ?_ | refine k_fieldAddrB rfl rfl rfl ?_ | refine k_bin2B rfl rfl rfl rfl ?_ | refine k_nilB rfl rfl ?_ | refine k_storeB rfl rfl rfl rfl rfl ?_ | refine k_assignP rfl rfl ?_ | refine k_moveP rfl rfl ?_ | refine k_invAS1 (thk [] 200) rfl rfl (by kernel_rfl) (allocR_c) rfl trivial rfl (freshB_ok rfl) rfl ?_ | refine k_assignI rfl rfl ?_ | refine k_ifaceP rfl rfl (by kernel_rfl) ?_ | refine k_lenJ rfl rfl ?_)
    | refine run_opsEnd ?_
    | refine run_region ?_
    | refine run_condF rfl (by first | rfl | assumption) ?_
    | refine run_skip ?_
    | fail)
  refine run_retA () (thk [(0, 200), (1, 201)] 0) (tm := [(4, .iface 253 (.ptr 0 0))]) ?_ (resA_tmp rfl rfl)
  (refine ⟨?_, ?_, by rfl⟩ <;> repeat' (first | exact trivial | exact ALe.ptr rfl | exact ALe.own rfl | exact ALe.elt rfl | exact BLe.boxD _ _ | exact BLe.row rfl | exact BLe.res | exact BLe.dead rfl | exact ALe.dat (PLe.refl _) | exact CLe.nil | refine And.intro ?_ ?_ | refine ALe.iface ?_ | refine ALe.clo ?_ | refine CLe.cons ?_ ?_ | refine BLe.box ?_ | refine BLe.row ?_ | exact ALe.any _ | refine ALe.dat (PLe.of_eq ?_)))
theorem next_c (l : List JV) (k : Nat) (hk : k ≤ 140737488351232) : ACall1 Try.prog 183 [.ptr 1000 0] [(1000, .box 255 [.dat (dvLs l), .ptr 1001 0, .dat (.val (.int .i64 ((k : Int) - 1)))]), (1001, .box 173 [.any])]
    (.dat (.val (.bool (decide ((k : Int) < (l.length : Int)))))) [(1000, .box 255 [.dat (dvLs l), .ptr 1001 0, .dat (.val (.int .i64 (k : Int)))]), (1001, .box 173 [.any])] := by
  refine acall_of_run Try.func183 rfl Try.ntmps183 rfl (fun X => ?_)
  repeat' (first
    | refine run_seq ?_
    | (refine k_pick rfl ?_; first | refine k_assignD rfl rfl ?_ | refine k_fieldAddrB rfl rfl rfl ?_ | refine k_loadBD rfl rfl rfl (by first | rfl | (simp only [cellsD]; rfl)) ?_ | refine k_nilB rfl rfl ?_ | refine k_storeB rfl rfl rfl rfl rfl ?_ | refine k_ariI rfl rfl rfl rfl (by first | omega | (dsimp only; omega)) ?_ | refine k_moveP rfl rfl ?_)
    | refine run_opsEnd ?_
    | refine run_region ?_
    | refine run_drawC (by kernel_rfl) ?_
    | refine c_nil (And.intro (by kernel_rfl) ?_)
    | refine c_pick (d_assignD rfl rfl) ?_
    | refine c_pick (d_fieldAddrB rfl rfl rfl) ?_
    | refine c_pick (d_loadBD rfl rfl rfl (by first | rfl | (simp only [cellsD]; rfl))) ?_
    | refine c_pick (d_bin2B rfl rfl rfl rfl) ?_
    | refine c_pick (d_nilB rfl rfl) ?_
    | refine c_pick (d_moveP rfl rfl) ?_
    | refine c_pick (d_lenJ rfl rfl) ?_
    | fail)
  refine run_retA () id (tm := [(2, .dat (.val (.bool (decide ((k : Int) < (l.length : Int))))))]) ?_ (resA_tmp rfl rfl)
  (refine ⟨?_, ?_, by rfl⟩ <;> repeat' (first | exact trivial | exact ALe.ptr rfl | exact ALe.own rfl | exact ALe.elt rfl | exact BLe.boxD _ _ | exact BLe.row rfl | exact BLe.res | exact BLe.dead rfl | exact ALe.dat (PLe.refl _) | exact CLe.nil | refine And.intro ?_ ?_ | refine ALe.iface ?_ | refine ALe.clo ?_ | refine CLe.cons ?_ ?_ | refine BLe.box ?_ | refine BLe.row ?_ | exact ALe.any _ | refine ALe.dat (PLe.of_eq ?_)))
  all_goals (rw [show (k : Int) - 1 + 1 = k by omega])
set_option maxHeartbeats 4000000 in
theorem item_c (l : List JV) (k : Nat) (j : JV) (hj : l[k]? = some j) : ACall1 Try.prog 182 [.ptr 1000 0] [(1000, .box 255 [.dat (dvLs l), .ptr 1001 0, .dat (.val (.int .i64 (k : Int)))]), (1001, .box 173 [.any])]
    (.tup [.dat (.val (.int .i64 (k : Int))), .iface 139 (.ptr 1001 0)]) [(1000, .box 255 [.dat (dvLs l), .ptr 1001 0, .dat (.val (.int .i64 (k : Int)))]), (1001, .box 173 [.dat (pdJ j)])] := by
  refine acall_of_run Try.func182 rfl Try.ntmps182 rfl (fun X => ?_)
  have hlt : k < l.length := (List.getElem?_eq_some_iff.1 hj).1
  have hq1 : decide (((k : Nat) : Int) < 0) = false := by simp
  have hq2 : decide (((l.length : Nat) : Int) ≤ (k : Int)) = false := by simp; omega
  repeat' (first
    | refine run_seq ?_
    | (refine k_pick rfl ?_; first | refine k_assignD rfl rfl ?_ | refine k_fieldAddrB rfl rfl rfl ?_ | refine k_loadBD rfl rfl rfl (by first | rfl | (simp only [cellsD]; rfl)) ?_ | refine k_bin2B rfl rfl rfl rfl ?_ | refine k_nilB rfl rfl ?_ | refine k_moveP rfl rfl ?_)
    | refine run_opsEnd ?_
    | refine run_region ?_
    | refine run_condF rfl (by first | rfl | assumption) ?_
    | refine run_skip ?_
    | refine run_drawC (by kernel_rfl) ?_
    | refine c_nil (And.intro (by kernel_rfl) ?_)
    | refine c_pick (d_assignD rfl rfl) ?_
    | refine c_pick (d_fieldAddrB rfl rfl rfl) ?_
    | refine c_pick (d_loadBD rfl rfl rfl (by first | rfl | (simp only [cellsD]; rfl))) ?_
    | refine c_pick (d_bin2B rfl rfl rfl rfl) ?_
    | refine c_pick (d_nilB rfl rfl) ?_
    | refine c_pick (d_loadD rfl rfl (by first | rfl | (simp only [cellsD]; rfl))) ?_
    | refine c_pick (d_moveP rfl rfl) ?_
    | refine c_pick (d_loadBP rfl rfl rfl rfl) ?_
    | refine c_pick (d_acallB (thk [(1000, _)] 200) rfl (by kernel_rfl) ((reuse_c .any _)) rfl rfl rfl rfl rfl) ?_
    | refine c_pick (d_assignI rfl rfl) ?_
    | refine c_pick (d_lenJ rfl rfl) ?_
    | refine c_pick (d_indexJ rfl rfl rfl (by assumption)) ?_
    | fail)
  refine run_retA () id (tm := [(2, .dat (.val (.int .i64 (k : Int)))), (3, .iface 139 (.ptr 1001 0))]) ?_ ?_
  rotate_left
  · show resA _ _ (mkTup [.dat (.val (.int .i64 (k : Int))), .iface 139 (.ptr 1001 0)]) _
    exact resA_tmp2 rfl rfl rfl
  (refine ⟨?_, ?_, by rfl⟩ <;> repeat' (first | exact trivial | exact ALe.ptr rfl | exact ALe.own rfl | exact ALe.elt rfl | exact BLe.boxD _ _ | exact BLe.row rfl | exact BLe.res | exact BLe.dead rfl | exact ALe.dat (PLe.refl _) | exact CLe.nil | refine And.intro ?_ ?_ | refine ALe.iface ?_ | refine ALe.clo ?_ | refine CLe.cons ?_ ?_ | refine BLe.box ?_ | refine BLe.row ?_ | exact ALe.any _ | refine ALe.dat (PLe.of_eq ?_)))
end Go.Proofs.Ytbbacpdbbmjblaa
end
section
namespace Go.Proofs.Ytbbacpdbbmjblaa
open Go.RowKit
set_option linter.unusedSimpArgs false
def cmpI (a b : Int) : Int := if a < b then -1 else if b < a then 1 else 0
def cmpS (a b : ByteArray) : Int := if blt a b then -1 else if blt b a then 1 else 0
theorem bl_pre : ∀ (x y : List UInt8) (n : Nat) (p q : UInt8), x.take n = y.take n → x[n]? = some p → y[n]? = some q → p ≠ q → Op.bytesLess x y = decide (p < q)
  | [], _, n, p, q, _, h, _, _ => by simp at h
  | _ :: _, [], n, p, q, _, _, h, _ => by simp at h
  | a :: x, b :: y, 0, p, q, _, h1, h2, hne => by
    simp at h1 h2
    subst h1 h2
    have : (a == b) = false := by simp [hne]
    simp [Op.bytesLess, this]
  | a :: x, b :: y, n + 1, p, q, h, h1, h2, hne => by
    simp only [List.take_succ_cons, List.cons.injEq] at h
    obtain ⟨rfl, h⟩ := h
    have := bl_pre x y n p q h (by simpa using h1) (by simpa using h2) hne
    simp [Op.bytesLess, this, UInt8.lt_irrefl]
theorem bl_end : ∀ (x y : List UInt8) (n : Nat), x.take n = y.take n → n = min x.length y.length → Op.bytesLess x y = decide (x.length < y.length)
  | [], [], n, _, _ => by simp [Op.bytesLess]
  | [], _ :: _, n, _, _ => by simp [Op.bytesLess]
  | _ :: _, [], n, _, _ => by simp [Op.bytesLess]
  | a :: x, b :: y, n, h, hn => by
    obtain ⟨n, rfl⟩ : ∃ k, n = k + 1 := ⟨n - 1, by simp at hn; omega⟩
    simp only [List.take_succ_cons, List.cons.injEq] at h
    obtain ⟨rfl, h⟩ := h
    have := bl_end x y n h (by simp at hn; omega)
    simp [Op.bytesLess, this, UInt8.lt_irrefl]
theorem size_list (a : ByteArray) : a.toList.length = a.size := by rw [ByteArray.toList_eq]; rfl
theorem byte_at (a : ByteArray) (k : Nat) (h : k < a.size) : a.toList[k]? = some a[k] := by
  rw [ByteArray.toList_eq]
  rw [List.getElem?_eq_getElem (by exact h)]
  rfl
theorem cmpS_pre {a b : ByteArray} {k : Nat} (h : a.toList.take k = b.toList.take k) (h1 : k < a.size) (h2 : k < b.size) (hne : a[k] ≠ b[k]) : cmpS a b = cmpI (a[k].toNat : Int) (b[k].toNat : Int) := by
  have e1 := bl_pre _ _ k _ _ h (byte_at a k h1) (byte_at b k h2) hne
  have e2 := bl_pre _ _ k _ _ h.symm (byte_at b k h2) (byte_at a k h1) (Ne.symm hne)
  unfold cmpS cmpI blt
  rw [e1, e2]
  simp only [decide_eq_true_eq, UInt8.lt_iff_toNat_lt, Int.ofNat_lt]
theorem cmpS_end {a b : ByteArray} {k : Nat} (h : a.toList.take k = b.toList.take k) (hk : k = min a.size b.size) : cmpS a b = cmpI (a.size : Int) (b.size : Int) := by
  have e1 := bl_end _ _ k h (by rw [size_list, size_list]; exact hk)
  have e2 := bl_end _ _ k h.symm (by rw [size_list, size_list]; omega)
  rw [size_list, size_list] at e1 e2
  unfold cmpS cmpI blt
  rw [e1, e2]
  simp only [decide_eq_true_eq, Int.ofNat_lt]
theorem wrap_small {q : Nat} (h : q < 9223372036854775808) : IntKind.i64.wrap (q : Int) = q := by
  simp [IntKind.wrap, IntKind.bits, IntKind.signed]; omega
set_option maxRecDepth 100000 in
theorem CompareInts_any (a b : Int) (w : World) : Calls Try.prog 38 #[.int .i64 a, .int .i64 b] w fun e w' => e = .returned (.int .i64 (cmpI a b)) ∧ w' = w := by
  by_cases h1 : a < b
  · have hc : cmpI a b = -1 := by simp [cmpI, h1]
    rw [hc]
    go_enter Try.func38, Try.ntmps38
    go_wp2_with fail
    go_ret
    exact ⟨rfl, rfl⟩
  by_cases h2 : b < a
  · have hc : cmpI a b = 1 := by simp [cmpI, h1, h2]
    rw [hc]
    go_enter Try.func38, Try.ntmps38
    go_wp2_with fail
    go_ret
    exact ⟨rfl, rfl⟩
  · have hc : cmpI a b = 0 := by simp [cmpI, h1, h2]
    rw [hc]
    go_enter Try.func38, Try.ntmps38
    go_wp2_with fail
    go_ret
    exact ⟨rfl, rfl⟩
set_option maxHeartbeats 1000000 in
set_option maxRecDepth 100000 in
theorem CompareStrings_any (a b : ByteArray) (w : World) (ha : a.size ≤ maxLen) (_hb : b.size ≤ maxLen) : Calls Try.prog 83 #[.string a, .string b] w fun e w' => e = .returned (.int .i64 (cmpS a b)) ∧ Below w.heap.size w w' := by
  unfold maxLen at ha
  go_enter Try.func83, Try.ntmps83
  go_wp2_with fail
  go_loopw [5] (fun i wr => ∃ k : Nat, k ≤ a.size ∧ k ≤ b.size ∧ i = .int .i64 (k : Nat) ∧ Below w.heap.size w wr ∧ a.toList.take k = b.toList.take k) (fun i _ => a.size - (intOf i).toNat)
  case atStart => exact ⟨0, Nat.zero_le _, Nat.zero_le _, rfl, Below.refl _ _, by simp⟩
  case round =>
    obtain ⟨k, hka, hkb, rfl, hB, hpre⟩ := hrel
    by_cases h1 : k < a.size
    · by_cases h2 : k < b.size
      · have j0 : (0 : Int) ≤ (k : Int) := by omega
        have j1 : (k : Int) < (a.size : Int) := by omega
        have j2 : (k : Int) < (b.size : Int) := by omega
        have l1 : a[k].toNat < 256 := a[k].toNat_lt
        have l2 : b[k].toNat < 256 := b[k].toNat_lt
        have HP := Lib.hid hpre
        clear hpre
        by_cases hxy : a[k] = b[k]
        · have e7 : ((a[k].toNat : Int) != (b[k].toNat : Int)) = false := by rw [hxy]; simp
          have HXY := Lib.hid hxy
          clear hxy
          go_wp2_with fail
          go_quiet (fail)
          go_wp2_with fail
          have hwk : wrap64 ((k : Int) + 1) = ((k + 1 : Nat) : Int) := by unfold wrap64; omega
          try rw [hwk]
          refine ⟨⟨k + 1, h1, h2, rfl, hB.trans ⟨rfl, rfl, rfl, Nat.le_refl _, fun _ _ => rfl⟩, ?_⟩, by simp only [intOf]; omega⟩
          rw [List.take_add_one, List.take_add_one, HP.out, byte_at a k h1, byte_at b k h2, HXY.out]
        · have e7 : ((a[k].toNat : Int) != (b[k].toNat : Int)) = true := by
            have : a[k].toNat ≠ b[k].toNat := fun e => hxy (UInt8.toNat_inj.1 e)
            simp; omega
          have HXY := Lib.hid hxy
          clear hxy
          go_wp2_with fail
          go_quiet (fail)
          go_wp2_with fail
          refine wp_region_K (fun _ => True) [0, 1, 2, 3, 4, 5, 6, 7, 9] (by kernel_rfl) ?_ (fun hHeld => ?_)
          · trivial
          refine wpK_take (i := 0) (v := ?_) rfl (by kernel_rfl) (by kernel_rfl) (by kernel_rfl) (by kernel_rfl) (.inl ⟨by rfl, ?_⟩) hHeld ?_
          rotate_left
          · (intro w hSw; (try dsimp only at hSw); go_split_ands; go_simp; (try with_reducible rfl))
          try simp only [Act.put, List.setIfInBounds_toArray, List.set_cons_zero, List.set_cons_succ]
          refine wpK_take (i := 1) (v := ?_) rfl (by kernel_rfl) (by kernel_rfl) (by kernel_rfl) (by kernel_rfl) (.inl ⟨by rfl, ?_⟩) hHeld ?_
          rotate_left
          · (intro w hSw; (try dsimp only at hSw); go_split_ands; go_simp; (try with_reducible rfl))
          try simp only [Act.put, List.setIfInBounds_toArray, List.set_cons_zero, List.set_cons_succ]
          refine wpK_take (i := 2) (v := ?_) rfl (by kernel_rfl) (by kernel_rfl) (by kernel_rfl) (by kernel_rfl) (.inl ⟨by rfl, ?_⟩) hHeld ?_
          rotate_left
          · (intro w hSw; (try dsimp only at hSw); go_split_ands; go_simp; (try with_reducible rfl))
          try simp only [Act.put, List.setIfInBounds_toArray, List.set_cons_zero, List.set_cons_succ]
          refine wpK_take (i := 3) (v := ?_) rfl (by kernel_rfl) (by kernel_rfl) (by kernel_rfl) (by kernel_rfl) (.inl ⟨by rfl, ?_⟩) hHeld ?_
          rotate_left
          · (intro w hSw; (try dsimp only at hSw); go_split_ands; go_simp; (try with_reducible rfl))
          try simp only [Act.put, List.setIfInBounds_toArray, List.set_cons_zero, List.set_cons_succ]
          refine wpK_take (i := 4) (v := ?_) rfl (by kernel_rfl) (by kernel_rfl) (by kernel_rfl) (by kernel_rfl) (.inl ⟨by rfl, ?_⟩) hHeld ?_
          rotate_left
          · (intro w hSw; (try dsimp only at hSw); go_split_ands; go_simp; (try with_reducible rfl))
          try simp only [Act.put, List.setIfInBounds_toArray, List.set_cons_zero, List.set_cons_succ]
          refine wpK_take (i := 5) (v := ?_) rfl (by kernel_rfl) (by kernel_rfl) (by kernel_rfl) (by kernel_rfl) (.inl ⟨by rfl, ?_⟩) hHeld ?_
          rotate_left
          · (intro w hSw; (try dsimp only at hSw); go_split_ands; go_simp; (try with_reducible rfl))
          try simp only [Act.put, List.setIfInBounds_toArray, List.set_cons_zero, List.set_cons_succ]
          refine wpK_take (i := 6) (v := ?_) rfl (by kernel_rfl) (by kernel_rfl) (by kernel_rfl) (by kernel_rfl) (.inl ⟨by rfl, ?_⟩) hHeld ?_
          rotate_left
          · (intro w hSw; (try dsimp only at hSw); go_split_ands; go_simp; (try with_reducible rfl))
          try simp only [Act.put, List.setIfInBounds_toArray, List.set_cons_zero, List.set_cons_succ]
          refine wpK_take (i := 7) (v := ?_) rfl (by kernel_rfl) (by kernel_rfl) (by kernel_rfl) (by kernel_rfl) (.inl ⟨by rfl, ?_⟩) hHeld ?_
          rotate_left
          · (intro w hSw; (try dsimp only at hSw); go_split_ands; go_simp; (try with_reducible rfl))
          try simp only [Act.put, List.setIfInBounds_toArray, List.set_cons_zero, List.set_cons_succ]
          refine wpK_one (i := 8) (by kernel_rfl) rfl (fun K hK => ?_)
          go_simp
          refine (CompareInts_any _ _ _).mono ?_
          rintro e w2 ⟨rfl, rfl⟩
          refine hK.out _ _ ?_ (fun hHeld => ?_)
          · trivial
          clear hK K
          try simp only [Act.put, List.setIfInBounds_toArray, List.set_cons_zero, List.set_cons_succ]
          refine wpK_take (i := 9) (v := ?_) rfl (by kernel_rfl) (by kernel_rfl) (by kernel_rfl) (by kernel_rfl) (.inl ⟨by rfl, ?_⟩) hHeld ?_
          rotate_left
          · (intro w hSw; (try dsimp only at hSw); go_split_ands; go_simp; (try with_reducible rfl))
          try simp only [Act.put, List.setIfInBounds_toArray, List.set_cons_zero, List.set_cons_succ]
          refine wpK_done (by kernel_rfl) ?_ _
          simp only [List.getElem_toArray, List.getElem_cons_succ, List.getElem_cons_zero, List.set_cons_succ, List.set_cons_zero]
          go_wp2_with fail
          go_ret
          rw [cmpS_pre HP.out h1 h2 HXY.out]
          have wa := wrap_small (q := a[k].toNat) (by omega)
          have wb := wrap_small (q := b[k].toNat) (by omega)
          simp only [wa, wb]
          exact ⟨rfl, hB.trans ⟨rfl, rfl, rfl, Nat.le_refl _, fun _ _ => rfl⟩⟩
      · have hend := cmpS_end hpre (by omega)
        have HE := Lib.hid hend
        have n2 : ¬ ((k : Int) < (b.size : Int)) := by omega
        have n1 : (k : Int) < (a.size : Int) := by omega
        clear hpre hend
        go_wp2_with (go_at_call 38; refine (CompareInts_any _ _ _).mono ?_)
        go_ret
        rw [HE.out]
        exact ⟨rfl, hB⟩
    · have hend := cmpS_end hpre (by omega)
      have HE := Lib.hid hend
      have n1 : ¬ ((k : Int) < (a.size : Int)) := by omega
      clear hpre hend
      go_wp2_with (go_at_call 38; refine (CompareInts_any _ _ _).mono ?_)
      go_ret
      rw [HE.out]
      exact ⟨rfl, hB⟩
end Go.Proofs.Ytbbacpdbbmjblaa
end
section
set_option linter.unusedVariables false
namespace Go.Proofs.Ytbbacpdbbmjblaa
open Go.RowKit
set_option linter.unusedSimpArgs false
/-- How two floating-point numbers, and two bools, compare. -/
def cmpF (a b : Nat) : Int := if FloatKind.f64.format.order a b == some .gt then 1 else if FloatKind.f64.format.order a b == some .lt then -1 else 0
def cmpBo (a b : Bool) : Int := if a == b then 0 else if !a then -1 else 1
theorem compareBytes_eq : ∀ (x y : List UInt8), Lib.compareBytes x y = if Op.bytesLess x y then -1 else if Op.bytesLess y x then 1 else 0
  | [], [] => rfl
  | [], _ :: _ => rfl
  | _ :: _, [] => rfl
  | a :: x, b :: y => by
    unfold Lib.compareBytes
    rw [compareBytes_eq x y]
    simp only [Op.bytesLess]
    by_cases h : a < b
    · simp [h]
    · rw [if_neg h]
      by_cases h' : b < a
      · have hne : (a == b) = false := by
          simp only [beq_eq_false_iff_ne]
          intro e; subst e; exact absurd h' (UInt8.lt_irrefl _)
        have hne' : (b == a) = false := by
          simp only [beq_eq_false_iff_ne]
          intro e; subst e; exact absurd h' (UInt8.lt_irrefl _)
        simp [h, h', hne]
      · have e : a = b := by
          rw [UInt8.lt_iff_toNat_lt] at h h'
          exact UInt8.toNat_inj.1 (by omega)
        subst e
        simp [UInt8.lt_irrefl]
theorem cmpS_bytes (a b : ByteArray) : Lib.compareBytes a.data.toList b.data.toList = cmpS a b := by
  rw [compareBytes_eq]
  unfold cmpS blt
  rw [ByteArray.toList_eq, ByteArray.toList_eq]
theorem cmpS_wf (a b : ByteArray) : (Lit.int .i64 (cmpS a b)).wf = true := by
  unfold cmpS
  split
  · rfl
  · split <;> rfl
/-- A function without a body that compares two strings. -/
class CmpStrF (P : Program) (f : Nat) : Prop where
  out : ∀ (a b : ByteArray) (w : World), (callFunc f #[.string a, .string b]).run P w = .ok (.value (.int .i64 (cmpS a b))) w
set_option maxRecDepth 100000 in
instance : CmpStrF Try.prog 113 := ⟨fun a b w => by
  rw [run_callFunc_extern (fn := Try.f113) (e := Extern.BytealgCompare.compare) Try.func113 (by kernel_rfl) (by kernel_rfl) (by kernel_rfl) (by kernel_rfl)]
  simp only [Lib.run_compareString, Result.andThen_ok, cmpS_bytes]⟩
section
variable {P : Program} {X : Base} {N : Nat} {Q : Exit → Act → World → Prop} {ops : Array Oper} {rem : List Nat} {ks : List Itm} {s s' : Sta}
theorem op_cmpStr {o : Oper} (hd : dstOk X.N o.dst = true) {f : FuncId} {x y : Operand} {ts : Array TypeId} (ho : o.op = .call { callee := .value (.func f), args := #[x, y], argTypes := ts }) (hf : CmpStrF P f) {a b : ByteArray} (hx : s.ev x = .dat (.val (.string a))) (hy : s.ev y = .dat (.val (.string b))) :
    OpS P X o s (s.put o.dst (.dat (.val (.int .i64 (cmpS a b))))) := by
  refine opS_value hd fun a' w ρ hc => ⟨.int .i64 (cmpS a b), ?_, by unfold VR Rep; exact ⟨rfl, cmpS_wf a b⟩⟩
  have h1 := hc.ev x
  rw [hx] at h1
  have h2 := hc.ev y
  rw [hy] at h2
  unfold VR Rep at h1 h2
  have hrun := hf.out a b w
  rw [← h1.1, ← h2.1] at hrun
  have ef : a'.eval (.func f) = .func (.func f) #[] #[] := rfl
  simp [execOp, ho, resolve, Deferred.ofValue, ef, invoke, Result.andThen, hrun]
theorem k_cmpStr {d f : Nat} {x y : Operand} {ts : Array TypeId} {a b : ByteArray} (hN : Nat.blt d N = true) [hf : CmpStrF P f] (hx : s.ev x = .dat (.val (.string a))) (hy : s.ev y = .dat (.val (.string b))) (h : Run P X N Q (.ops ops rem :: ks) (s.put (some d) (.dat (.val (.int .i64 (cmpS a b)))))) :
    RunK P X N Q ops rem ks (some d) (.call { callee := .value (.func f), args := #[x, y], argTypes := ts }) s := k_of hN (fun _ _ _ hd => op_cmpStr hd rfl hf hx hy) h
end
theorem bytealg_p (a b : ByteArray) : PCall Try.prog 107 [.val (.string a), .val (.string b)] (.val (.int .i64 (cmpS a b))) := by
  refine pcall_of_run Try.func107 rfl Try.ntmps107 rfl (fun X => ?_)
  repeat' (first
    | refine run_seq ?_
    | (refine k_pick rfl ?_; first | refine k_cmpStr rfl rfl rfl ?_ | refine k_assignD rfl rfl ?_ | refine k_moveD rfl rfl ?_)
    | refine run_opsEnd ?_
    | refine run_region ?_
    | refine run_retOk (resOk_tmp rfl rfl ?_)
    | fail)
  all_goals exact PLe.refl _
theorem strcmp_p (a b : ByteArray) : PCall Try.prog 96 [.val (.string a), .val (.string b)] (.val (.int .i64 (cmpS a b))) := by
  have c := bytealg_p a b
  refine pcall_of_run Try.func96 rfl Try.ntmps96 rfl (fun X => ?_)
  repeat' (first
    | refine run_seq ?_
    | (refine k_pick rfl ?_; first | refine k_assignD rfl rfl ?_ | refine k_moveD rfl rfl ?_ | refine k_call rfl (by kernel_rfl) rfl (by first | exact c) ?_)
    | refine run_opsEnd ?_
    | refine run_region ?_
    | refine run_retOk (resOk_tmp rfl rfl ?_)
    | fail)
  all_goals exact PLe.refl _
theorem fltcmp_p (a b : Nat) : PCall Try.prog 104 [.val (.float .f64 a), .val (.float .f64 b)] (.val (.int .i64 (cmpF a b))) := by
  refine pcall_of_run Try.func104 rfl Try.ntmps104 rfl (fun X => ?_)
  unfold cmpF
  cases h1 : (FloatKind.f64.format.order a b == some .gt) <;> cases h2 : (FloatKind.f64.format.order a b == some .lt)
  all_goals
    repeat' (first
    | refine run_seq ?_
    | (refine k_pick rfl ?_; first | refine k_assignD rfl rfl ?_ | refine k_moveD rfl rfl ?_ | refine k_fltC rfl rfl rfl rfl ?_)
    | refine run_opsEnd ?_
    | refine run_region ?_
    | refine run_condT rfl (by first | rfl | assumption) ?_
    | refine run_condF rfl (by first | rfl | assumption) ?_
    | refine run_skip ?_
    | refine run_retOk (resOk_tmp rfl rfl ?_)
    | fail)
  all_goals exact PLe.refl _
theorem intcmp_p (a b : Int) : PCall Try.prog 105 [.val (.int .i64 a), .val (.int .i64 b)] (.val (.int .i64 (cmpI a b))) := by
  refine pcall_of_run Try.func105 rfl Try.ntmps105 rfl (fun X => ?_)
  unfold cmpI
  by_cases h1 : b < a
  · have q1 : decide (b < a) = true := by simpa using h1
    rw [if_neg (by omega), if_pos h1]
    repeat' (first
    | refine run_seq ?_
    | (refine k_pick rfl ?_; first | refine k_assignD rfl rfl ?_ | refine k_moveD rfl rfl ?_ | refine k_bin2B rfl rfl rfl rfl ?_)
    | refine run_opsEnd ?_
    | refine run_region ?_
    | refine run_condT rfl (by first | rfl | assumption) ?_
    | refine run_retOk (resOk_tmp rfl rfl ?_)
    | fail)
    all_goals exact PLe.refl _
  · have q1 : decide (b < a) = false := by simpa using h1
    by_cases h2 : a < b
    · have q2 : decide (a < b) = true := by simpa using h2
      rw [if_pos h2]
      repeat' (first
    | refine run_seq ?_
    | (refine k_pick rfl ?_; first | refine k_assignD rfl rfl ?_ | refine k_moveD rfl rfl ?_ | refine k_bin2B rfl rfl rfl rfl ?_)
    | refine run_opsEnd ?_
    | refine run_region ?_
    | refine run_condT rfl (by first | rfl | assumption) ?_
    | refine run_condF rfl (by first | rfl | assumption) ?_
    | refine run_retOk (resOk_tmp rfl rfl ?_)
    | fail)
      all_goals exact PLe.refl _
    · have q2 : decide (a < b) = false := by simpa using h2
      rw [if_neg h2, if_neg h1]
      repeat' (first
    | refine run_seq ?_
    | (refine k_pick rfl ?_; first | refine k_assignD rfl rfl ?_ | refine k_moveD rfl rfl ?_ | refine k_bin2B rfl rfl rfl rfl ?_)
    | refine run_opsEnd ?_
    | refine run_region ?_
    | refine run_condF rfl (by first | rfl | assumption) ?_
    | refine run_skip ?_
    | refine run_retOk (resOk_tmp rfl rfl ?_)
    | fail)
      all_goals exact PLe.refl _
theorem boolcmp_p (a b : Bool) : PCall Try.prog 106 [.val (.bool a), .val (.bool b)] (.val (.int .i64 (cmpBo a b))) := by
  refine pcall_of_run Try.func106 rfl Try.ntmps106 rfl (fun X => ?_)
  cases a <;> cases b
  all_goals
    repeat' (first
    | refine run_seq ?_
    | (refine k_pick rfl ?_; first | refine k_assignD rfl rfl ?_ | refine k_moveD rfl rfl ?_ | refine k_cmpBool rfl rfl rfl (by kernel_rfl) rfl ?_ | refine k_not rfl rfl ?_)
    | refine run_opsEnd ?_
    | refine run_region ?_
    | refine run_condT rfl (by first | rfl | assumption) ?_
    | refine run_condF rfl (by first | rfl | assumption) ?_
    | refine run_skip ?_
    | refine run_retOk (resOk_tmp rfl rfl ?_)
    | fail)
  all_goals exact PLe.refl _
/-- Lists compare lexically. -/
def cmpLs (f : JV → JV → Int) : List JV → List JV → Int
  | [], [] => 0
  | [], _ :: _ => -1
  | _ :: _, [] => 1
  | x :: r, y :: q => if f x y = 0 then cmpLs f r q else f x y
theorem cmpLs_ne {f : JV → JV → Int} : ∀ {a b : List JV} {i : Nat} {x y : JV}, (∀ j u v, j < i → a[j]? = some u → b[j]? = some v → f u v = 0) → a[i]? = some x → b[i]? = some y → f x y ≠ 0 → cmpLs f a b = f x y
  | x' :: r, y' :: q, 0, x, y, _, hx, hy, h => by
    simp only [List.getElem?_cons_zero, Option.some.injEq] at hx hy
    subst hx hy
    simp only [cmpLs, if_neg h]
  | x' :: r, y' :: q, i + 1, x, y, hall, hx, hy, h => by
    simp only [cmpLs]
    rw [if_pos (hall 0 x' y' (by omega) rfl rfl)]
    exact cmpLs_ne (i := i) (fun j u v hj hu hv => hall (j + 1) u v (by omega) (by simpa using hu) (by simpa using hv)) (by simpa using hx) (by simpa using hy) h
  | [], _, _, _, _, _, hx, _, _ => by simp at hx
  | _ :: _, [], _, _, _, _, _, hy, _ => by simp at hy
theorem cmpLs_end {f : JV → JV → Int} : ∀ {a b : List JV}, (∀ (j : Nat) (u v : JV), a[j]? = some u → b[j]? = some v → f u v = 0) → cmpLs f a b = if a.length < b.length then -1 else if b.length < a.length then 1 else 0
  | [], [], _ => rfl
  | [], _ :: _, _ => by simp [cmpLs]
  | _ :: _, [], _ => by simp [cmpLs]
  | x :: r, y :: q, h => by
    simp only [cmpLs]
    rw [if_pos (h 0 x y rfl rfl), cmpLs_end (fun j u v hu hv => h (j + 1) u v (by simpa using hu) (by simpa using hv))]
    simp
end Go.Proofs.Ytbbacpdbbmjblaa
end
