import Derived.Test.YtlghpcokbppkfaaVal
set_option linter.unusedVariables false
/- Maps of the call's own: made, set, deleted from; interface values of own memory; method values. -/
namespace Go.Proofs.Ytlghpcokbppkfaa
open Go.RowKit
open Go.ChangeMaps (setBlock)
set_option linter.unusedSimpArgs false

/-- A map of the call's own. -/
def mapR (m : List (ByteArray × JV)) : Res where
  rel := fun w F O v => ∃ b es cl, v = .map (some b) ∧ O b ∧ (∀ b', O b' → b' = b) ∧ w.heap[b]? = some (.map es cl) ∧ MapKept.Stamped es cl ∧ m.length < maxLen ∧ IsEs w F m es.toList ∧ JOk (.map m)
  d := dvMm m
  one := fun _ _ _ _ ⟨_, _, _, e, _⟩ => by rw [e]; rfl
  keep := fun w w' F F' O v h hs hO ⟨b, es, cl, e, h1, h2, h3, h4, h5, h6, h7⟩ => ⟨b, es, cl, e, h1, h2, (hO b h1).trans h3, h4, h5, IsEs.keep h hs _ _ h6, h7⟩
  frz := fun w F O F' v h1 h2 ⟨b, es, cl, e, g1, g2, g3, g4, g5, g6, g7⟩ => by
    unfold dvMm Rep
    exact ⟨b, es, cl, e, h2 b g1, g3, g4, g5, IsEs.keep (fun _ _ => rfl) h1 _ _ g6, g7⟩
/-- A map without a key. -/
def delA (k : ByteArray) : List (ByteArray × JV) → List (ByteArray × JV)
  | [] => []
  | x :: r => if x.1 = k then r else x :: delA k r
theorem IsEs.del {w : World} {F : Nat → Prop} {k : ByteArray} : ∀ {m : List (ByteArray × JV)} {es : List MapEntry} {i : Nat} {e : MapEntry}, IsEs w F m es → (es.map (·.key)).Nodup → es[i]? = some e → e.key = .string k → IsEs w F (delA k m) (es.eraseIdx i)
  | [], es, i, e, h, _, hi, _ => by unfold IsEs at h; subst h; simp at hi
  | x :: r, es, i, e, h, hn, hi, hk => by
    unfold IsEs at h
    obtain ⟨e0, r', rfl, hke, hz, hx, hr⟩ := h
    simp only [List.map_cons, List.nodup_cons] at hn
    unfold delA
    cases i with
    | zero =>
      simp only [List.getElem?_cons_zero, Option.some.injEq] at hi
      subst hi
      rw [if_pos (by rw [hke] at hk; injection hk)]
      exact hr
    | succ i =>
      have hi' : r'[i]? = some e := by simpa using hi
      rw [if_neg (fun q => hn.1 (by rw [hke, q, ← hk]; exact List.mem_map_of_mem (f := (·.key)) (List.mem_of_getElem? hi')))]
      show IsEs w F (x :: delA k r) (e0 :: r'.eraseIdx i)
      unfold IsEs
      exact ⟨e0, _, rfl, hke, hz, hx, IsEs.del hr hn.2 hi' hk⟩
theorem delA_sub {k : ByteArray} : ∀ {m : List (ByteArray × JV)}, (delA k m).Sublist m
  | [] => .slnil
  | x :: r => by
    unfold delA
    split
    · exact List.sublist_cons_self x r
    · exact delA_sub.cons_cons x
theorem delA_none {k : ByteArray} : ∀ {m : List (ByteArray × JV)}, (∀ y ∈ m, y.1 ≠ k) → delA k m = m
  | [], _ => rfl
  | x :: r, h => by unfold delA; rw [if_neg (h x (by simp)), delA_none (fun y hy => h y (by simp [hy]))]
theorem JOk_del {k : ByteArray} {m : List (ByteArray × JV)} (h : JOk (.map m)) : JOk (.map (delA k m)) := by
  unfold JOk at h ⊢
  have hs := delA_sub (k := k) (m := m)
  refine ⟨(hs.map _).nodup h.1, by have := hs.length_le; omega, ?_⟩
  have : ∀ {a b : List (ByteArray × JV)}, a.Sublist b → JOkm b → JOkm a := by
    intro a b hs
    induction hs with
    | slnil => exact id
    | cons x _ ih => intro h; simp only [JOkm] at h; exact ih h.2
    | cons_cons x _ ih => intro h; simp only [JOkm] at h ⊢; exact ⟨h.1, ih h.2⟩
  exact this hs h.2.2
theorem JOk_put {k : ByteArray} {j : JV} {m : List (ByteArray × JV)} (h : JOk (.map m)) (hj : JOk j) (hl : (m.length + 1) * 88 ≤ 140737488351232) : JOk (.map (putA m k j)) := by
  unfold JOk at h ⊢
  exact ⟨putA_nodup h.1 k j, by have := putA_length m k j; omega, JOkm_put m k j h.2.2 hj⟩

section
variable {P : Program} {X : Base} {N : Nat} {Q : Exit → Act → World → Prop} {ops : Array Oper} {rem : List Nat} {ks : List Itm} {s s' : Sta} {a : Act} {w w' : World} {ρ : Nat → RV}
/-- New memory of another make. -/
theorem ConcAt.newRes (hc : ConcAt X s a w ρ) {d : Nat} (hd : d < X.N) (hd0 : s.tb d = none) {o : Obj} {R : Res} {v : Value}
    (hR : ∀ F : Nat → Prop, R.rel (w.alloc o) F (fun b => b = w.heap.size) v) :
    ConcAt X (s.new d (.res R) (.own d)) (a.put (some d) v) (w.alloc o) (upd ρ d ⟨v, fun b => b = w.heap.size⟩) := by
  have hB : Below w.heap.size w (w.alloc o) := (Below.refl _ _).alloc (Nat.le_refl _) _
  have hc1 := hc.grow hB
  have hFF0 : ∀ b, FF X w s.tb ρ b → FF X (w.alloc o) s.tb ρ b := fun b hb => FF_new hB hc b (.inl hb)
  have hnl : ∀ k, liveB ((upd s.tb d (some (.res R))) k) = true → k = d ∨ (k ≠ d ∧ liveB (s.tb k) = true) := by
    intro k hk
    by_cases e : k = d
    · exact .inl e
    · rw [upd_ne _ _ e] at hk; exact .inr ⟨e, hk⟩
  have hold : ∀ k b, liveB (s.tb k) = true → (ρ k).fp b → b < w.heap.size := by
    intro k b hk hb
    obtain ⟨x, hx, hl⟩ := live_some hk
    exact (hc.rowBlk hx hl hb).2
  have hFF : ∀ b, FF X w s.tb ρ b → FF X (w.alloc o) (upd s.tb d (some (.res R))) (upd ρ d ⟨v, fun b => b = w.heap.size⟩) b := by
    intro b hb
    refine ⟨hb.1, (hFF0 b hb).2.1, fun k hk e => ?_⟩
    rcases hnl k hk with rfl | ⟨hne, hk⟩
    · rw [upd_same] at e
      have e : b = w.heap.size := e
      have := hb.2.1; omega
    · rw [upd_ne _ _ hne] at e; exact hb.2.2 k hk e
  have hkk : ∀ k x, s.tb k = some x → ∃ x', (upd s.tb d (some (.res R))) k = some x' ∧ ((x'.kind = x.kind ∧ ((upd ρ d ⟨v, fun b => b = w.heap.size⟩) k).v = (ρ k).v) ∨ (x' = .dead ∧ x.kind ≠ 0)) := by
    intro k x hx
    have hne : k ≠ d := fun e => by rw [e, hd0] at hx; cases hx
    exact ⟨x, by rw [upd_ne _ _ hne]; exact hx, .inl ⟨rfl, by rw [upd_ne _ _ hne]⟩⟩
  have hsame : ∀ b, FF X w s.tb ρ b → (w.alloc o).heap[b]? = w.heap[b]? := fun b hb => hB.block b hb.2.1
  have key : ConcAt X { s with tb := upd s.tb d (some (.res R)) } a (w.alloc o) (upd ρ d ⟨v, fun b => b = w.heap.size⟩) := by
    refine ⟨hc.size, hc.defers, hc1.below, fun t => (hc.tmps t).keep hsame hFF hkk, fun k x hx => ?_, fun k k' b h1 h2 e1 e2 => ?_, fun k hk hl => ?_⟩
    · by_cases e : k = d
      · subst e
        rw [show ({ s with tb := upd s.tb k (some (.res R)) } : Sta).tb k = some (.res R) from upd_same _ _ _] at hx
        simp only [Option.some.injEq] at hx
        subst hx
        show R.rel _ _ _ _ ∧ _
        rw [upd_same]
        refine ⟨hR _, ?_⟩
        intro b hb
        have hb : b = w.heap.size := hb
        subst hb
        exact ⟨.inl hc.below.size, by simp⟩
      · have hx' : s.tb k = some x := by rw [← hx]; exact (upd_ne _ _ e).symm
        exact (hc.blks k x hx').keep hsame hFF hkk (upd_ne _ _ e) (fun b hl hf => hB.block b (hc.rowBlk hx' hl hf).2) hB.size
    · rcases hnl k h1 with rfl | ⟨n1, g1⟩ <;> rcases hnl k' h2 with h | ⟨n2, g2⟩
      · exact h.symm
      · rw [upd_same] at e1; rw [upd_ne _ _ n2] at e2
        have e1 : b = w.heap.size := e1
        have := hold k' b g2 e2; omega
      · subst h
        rw [upd_same] at e2; rw [upd_ne _ _ n1] at e1
        have e2 : b = w.heap.size := e2
        have := hold k b g1 e1; omega
      · rw [upd_ne _ _ n1] at e1; rw [upd_ne _ _ n2] at e2
        exact hc.apart k k' b g1 g2 e1 e2
    · rcases hnl k hl with rfl | ⟨n1, h1⟩
      · have := X.hN; omega
      · rw [upd_ne _ _ n1]; exact hc.lent k hk h1
  refine key.putNew hd ?_
  unfold VR
  exact ⟨R.one _ _ _ _ (hR (fun _ => True)), .inl ⟨_, upd_same _ _ _, .inr rfl, by rw [upd_same]⟩⟩
theorem k_makeMapR {d t : Nat} (hN : Nat.blt d N = true) (hd0 : s.tb d = none) (h : Run P X N Q (.ops ops rem :: ks) (s.new d (.res (mapR [])) (.own d))) : RunK P X N Q ops rem ks (some d) (.makeMap t none) s := k_new hN (fun ty pos aft hd => by
  intro a w ⟨ρ, hc⟩ K Q hK
  have hr : (execOp a.eval ⟨some d, .makeMap t none, ty, pos, aft, none⟩).run P w = .ok (.value (.map (some w.heap.size))) (w.alloc (.map #[] 0)) := by
    simp [execOp, Instr.makeMap, Result.andThen]
  refine wp_value hr (hK _ _ ⟨_, hc.newRes hd hd0 (o := .map #[] 0) (R := mapR []) (fun F => ?_)⟩)
  exact ⟨w.heap.size, #[], 0, rfl, rfl, fun b hb => hb, (MapKept.heap_alloc _ _).1, MapKept.stamped_empty 0, by unfold maxLen; decide, by unfold IsEs; rfl, by unfold JOk; exact ⟨by simp, by simp, by simp [JOkm]⟩⟩) h
theorem op_mapUpdR {o : Oper} (hd : o.dst = none) {t : TypeId} {x y z : Operand} (ho : o.op = .mapUpdate t x y z) {k0 kt et : Nat} (ht : MTI P t kt et) {m : List (ByteArray × JV)} {k : ByteArray} {j : JV} (hx : s.ev x = .own k0) (hk : s.tb k0 = some (.res (mapR m))) (hy : s.ev y = .dat (.val (.string k))) (hz : s.ev z = .dat (pdJ j)) (hl : (m.length + 1) * 88 ≤ 140737488351232) :
    OpS P X o s (s.set k0 (.res (mapR (putA m k j)))) := by
  intro a w ⟨ρ, hc⟩ K Q hK
  have h2 := hc.ev x
  rw [hx] at h2
  have e2 := VR_ownR h2 hk rfl
  have h3 := hc.ev y
  rw [hy] at h3
  unfold VR Rep at h3
  have h4 := hc.ev z
  rw [hz] at h4
  unfold VR pdJ Rep at h4
  obtain ⟨⟨b, es, cl, e3, hO, hO', hh, hst, hlen, hes, hok⟩, _⟩ := hc.blks k0 _ hk
  rw [e3] at e2
  have hm := mapT_spec ht.out
  obtain ⟨es', cl', hrun, r1, r2⟩ := run_mapUpdate_str (P := P) (w := w) (k := k) (v := a.eval z) hm ht.str hh hst hes.keys
  have hlt : b < w.heap.size := blk_lt hh
  have hsz : (setBlock w b (.map es' cl')).heap.size = w.heap.size := setBlock_size _ _ _
  have hB : Below 0 w (setBlock w b (.map es' cl')) := ⟨rfl, rfl, rfl, by rw [hsz]; exact Nat.le_refl _, fun k hk => absurd hk (Nat.not_lt_zero _)⟩
  have hoth : ∀ b', ¬ (ρ k0).fp b' → (setBlock w b (.map es' cl')).heap[b']? = w.heap[b']? := fun b' hb' => setBlock_other _ (fun e : b' = b => hb' (e ▸ hO))
  have hF : ∀ b', FF X w s.tb ρ b' → (setBlock w b (.map es' cl')).heap[b']? = w.heap[b']? := fun b' hF => hoth b' (hF.2.2 k0 (by rw [hk]; rfl))
  refine wp_skipped (w' := setBlock w b (.map es' cl')) (by simp [execOp, ho, e2, h3.1, hrun, Result.andThen]) ?_
  rw [hd]
  refine hK _ _ ⟨ρ, (hc.setRes (R' := mapR (putA m k j)) hk hB hsz hoth ?_).put_none .any undef⟩
  refine ⟨b, es', cl', e3, hO, hO', setBlock_same _ hlt, r2, by have := putA_length m k j; unfold maxLen at *; omega, ?_, JOk_put hok h4.2 hl⟩
  rw [r1]
  exact IsEs.keep hF (fun _ h => h) _ _ (IsEs.put h3.2 h4.1 hes)
theorem k_mapUpdR {t k0 kt et : Nat} {x y z : Operand} {m : List (ByteArray × JV)} {k : ByteArray} {j : JV} (hx : s.ev x = .own k0) (hk : s.tb k0 = some (.res (mapR m))) [ht : MTI P t kt et] (hy : s.ev y = .dat (.val (.string k))) (hz : s.ev z = .dat (pdJ j)) (hl : (m.length + 1) * 88 ≤ 140737488351232)
    (h : Run P X N Q (.ops ops rem :: ks) (s.set k0 (.res (mapR (putA m k j))))) : RunK P X N Q ops rem ks none (.mapUpdate t x y z) s := k_eff (fun _ _ _ => op_mapUpdR rfl rfl ht hx hk hy hz hl) h
theorem run_del_str {t kt et ty r cl : Nat} {es : Array MapEntry} {k : ByteArray} (hm : P.underlying t = some (.map kt et)) (hd : P.underlying kt = some .string)
    (hb : w.heap[r]? = some (.map es cl)) (hs : MapKept.Stamped es cl) (hks : ∀ x ∈ es.toList, MapKept.IsKey .string x.key) (q : TypeId) :
    ∃ es' : Array MapEntry, (Builtin.delete_ #[t, q] ty #[.map (some r), .string k]).run P w = .ok (.tuple #[]) (setBlock w r (.map es' cl)) ∧ MapKept.Stamped es' cl ∧
      ((∃ i e, es.toList[i]? = some e ∧ e.key = .string k ∧ es'.toList = es.toList.eraseIdx i) ∨ (es' = es ∧ ∀ e ∈ es.toList, e.key ≠ .string k)) := by
  have hk : MapKept.IsKey .string (.string k) := trivial
  rcases MapKept.findNow_spec hk es.toList 0 hks with ⟨h1, h2⟩ | ⟨j, e, h1, h2, h3⟩
  · refine ⟨es, ?_, hs, .inr ⟨rfl, h2⟩⟩
    simp [Builtin.delete_, run_underlying hm, MapKept.run_getObj_map hb, MapKept.run_checkKey hd hk, MapKept.run_findKey hd h1, MapKept.run_setObj_map _ hb, Result.andThen, setBlock]
  · have he : (es.eraseIdxIfInBounds j).toList = es.toList.eraseIdx j := by simp
    refine ⟨es.eraseIdxIfInBounds j, ?_, ?_, .inl ⟨j, e, h2, h3, he⟩⟩
    · simp [Builtin.delete_, run_underlying hm, MapKept.run_getObj_map hb, MapKept.run_checkKey hd hk, MapKept.run_findKey hd h1, MapKept.run_setObj_map _ hb, Result.andThen, setBlock]
    · obtain ⟨s1, s2, s3⟩ := hs
      have hsub : (es.eraseIdxIfInBounds j).toList.Sublist es.toList := by rw [he]; exact List.eraseIdx_sublist _ _
      exact ⟨fun x hx => s1 x (hsub.subset hx), (hsub.map _).nodup s2, (hsub.map _).nodup s3⟩
theorem op_delR {o : Oper} (hd : o.dst = none) {t q : TypeId} {x y : Operand} (ho : o.op = .call { callee := .builtin .delete, args := #[x, y], argTypes := #[t, q] }) {k0 kt et : Nat} (ht : MTI P t kt et) {m : List (ByteArray × JV)} {k : ByteArray} (hx : s.ev x = .own k0) (hk : s.tb k0 = some (.res (mapR m))) (hy : s.ev y = .dat (.val (.string k))) :
    OpS P X o s (s.set k0 (.res (mapR (delA k m)))) := by
  intro a w ⟨ρ, hc⟩ K Q hK
  have h2 := hc.ev x
  rw [hx] at h2
  have e2 := VR_ownR h2 hk rfl
  have h3 := hc.ev y
  rw [hy] at h3
  unfold VR Rep at h3
  obtain ⟨⟨b, es, cl, e3, hO, hO', hh, hst, hlen, hes, hok⟩, _⟩ := hc.blks k0 _ hk
  rw [e3] at e2
  have hm := mapT_spec ht.out
  obtain ⟨es', hrun, r2, r3⟩ := run_del_str (P := P) (w := w) (ty := o.type) (k := k) hm ht.str hh hst hes.keys q
  have hlt : b < w.heap.size := blk_lt hh
  have hsz : (setBlock w b (.map es' cl)).heap.size = w.heap.size := setBlock_size _ _ _
  have hB : Below 0 w (setBlock w b (.map es' cl)) := ⟨rfl, rfl, rfl, by rw [hsz]; exact Nat.le_refl _, fun k hk => absurd hk (Nat.not_lt_zero _)⟩
  have hoth : ∀ b', ¬ (ρ k0).fp b' → (setBlock w b (.map es' cl)).heap[b']? = w.heap[b']? := fun b' hb' => setBlock_other _ (fun e : b' = b => hb' (e ▸ hO))
  have hF : ∀ b', FF X w s.tb ρ b' → (setBlock w b (.map es' cl)).heap[b']? = w.heap[b']? := fun b' hF => hoth b' (hF.2.2 k0 (by rw [hk]; rfl))
  have hrun' : (execOp a.eval o).run P w = .ok (.value (.tuple #[])) (setBlock w b (.map es' cl)) := by simp [execOp, ho, resolve, invoke, builtin, e2, h3.1, hrun, Result.andThen]
  have hset := hc.setRes (R' := mapR (delA k m)) hk hB hsz hoth ⟨b, es', cl, e3, hO, hO', setBlock_same _ hlt, r2, by have := (delA_sub (k := k) (m := m)).length_le; omega, (by
    rcases r3 with ⟨i, e, h5, h6, h7⟩ | ⟨rfl, h5⟩
    · rw [h7]; exact IsEs.keep hF (fun _ h => h) _ _ (IsEs.del hes hst.2.2 h5 h6)
    · rw [delA_none (fun y hy e => by
        obtain ⟨q, hq, hqk, _⟩ := hes.mem.1 y hy
        exact h5 q hq (by rw [hqk, e]))]
      exact IsEs.keep hF (fun _ h => h) _ _ hes), JOk_del hok⟩
  refine wp_value hrun' ?_
  rw [hd]
  exact hK _ _ ⟨ρ, hset.put_none .any _⟩
theorem k_delR {t q k0 kt et : Nat} {x y : Operand} {m : List (ByteArray × JV)} {k : ByteArray} (hx : s.ev x = .own k0) (hk : s.tb k0 = some (.res (mapR m))) [ht : MTI P t kt et] (hy : s.ev y = .dat (.val (.string k)))
    (h : Run P X N Q (.ops ops rem :: ks) (s.set k0 (.res (mapR (delA k m))))) : RunK P X N Q ops rem ks none (.call { callee := .builtin .delete, args := #[x, y], argTypes := #[t, q] }) s := k_eff (fun _ _ _ => op_delR rfl rfl ht hx hk hy) h

/-! ### Interface values of own memory; method values -/
theorem k_ifaceO {d : Nat} {x : Operand} {t k : Nat} (hN : Nat.blt d N = true) (hx : s.ev x = .own k) (ht : concT P t = true) (h : Run P X N Q (.ops ops rem :: ks) (s.put (some d) (.iface t (.own k)))) : RunK P X N Q ops rem ks (some d) (.makeInterface t x) s := k_of hN (fun _ _ _ hd => op_ifaceA hd rfl hx ht) h
theorem d_ifaceO {ops : List Oper} {d : Nat} {x : Operand} {t k : Nat} (hN : Nat.blt d N = true) (hx : s.ev x = .own k) (ht : concT P t = true) : TrK P X N ops (some d) (.makeInterface t x) (Eff.put (some d) (.iface t (.own k))) s (s.put (some d) (.iface t (.own k))) := act_val hN fun s' _ _ _ _ hd hev htb => op_ifaceA hd rfl ((hev _ (by simp [Op.operands])).trans hx) ht
theorem op_taA {o : Oper} (hd : dstOk X.N o.dst = true) {x : Operand} {t T : TypeId} (ho : o.op = .typeAssert x t T true) {y : AV} (hx : s.ev x = .iface T y) (ht : nifT P T = true) : OpS P X o s (s.put o.dst (.tup [y, .dat (.val (.bool true))])) := by
  refine opS_value hd fun a w ρ hc => ?_
  have h1 := hc.ev x
  rw [hx] at h1
  unfold VR at h1
  obtain ⟨u, e, hu⟩ := h1
  unfold nifT at ht
  split at ht
  · rename_i d' hd'
    refine ⟨.tuple #[u, .bool true], by simp [execOp, ho, e, run_ta_same hd' ht], ?_⟩
    unfold VR
    refine ⟨[u, .bool true], rfl, ?_⟩
    unfold VRs
    refine ⟨u, _, rfl, hu, ?_⟩
    unfold VRs
    refine ⟨_, [], rfl, by unfold VR Rep; exact ⟨rfl, trivial⟩, by unfold VRs; rfl⟩
  · cases ht
theorem k_taA {d : Nat} {x : Operand} {t T : Nat} {y : AV} (hN : Nat.blt d N = true) (hx : s.ev x = .iface T y) (ht : nifT P T = true) (h : Run P X N Q (.ops ops rem :: ks) (s.put (some d) (.tup [y, .dat (.val (.bool true))]))) : RunK P X N Q ops rem ks (some d) (.typeAssert x t T true) s := k_of hN (fun _ _ _ hd => op_taA hd rfl hx ht) h
theorem k_extractO {d : Nat} {x : Operand} {i k : Nat} {l : List AV} (hN : Nat.blt d N = true) (hx : s.ev x = .tup l) (hl : l[i]? = some (.own k)) (h : Run P X N Q (.ops ops rem :: ks) (s.put (some d) (.own k))) : RunK P X N Q ops rem ks (some d) (.extract x i) s := k_of hN (fun _ _ _ hd => op_extractA hd rfl hx hl) h
/-- The method's value of an interface value that holds a map. -/
def methD (T : TypeId) (name : String) : PD := .opq { rel := fun _ _ v => ∃ b, v = .func (.method name) #[.iface T (.map (some b))] #[], one := fun _ _ _ ⟨_, e⟩ => by rw [e]; rfl, keep := fun _ _ _ _ _ _ _ h => h }
theorem op_methV {o : Oper} (hd : dstOk X.N o.dst = true) {x : Operand} {name : String} (ho : o.op = .makeFunc (.method name) #[x] #[]) {T k : Nat} {m : List (ByteArray × JV)} (hx : s.ev x = .iface T (.own k)) (hk : s.tb k = some (.res (mapR m))) : OpS P X o s (s.put o.dst (.dat (methD T name))) := by
  refine opS_value hd fun a w ρ hc => ?_
  have h1 := hc.ev x
  rw [hx] at h1
  unfold VR at h1
  obtain ⟨u, e, hu⟩ := h1
  have e2 := VR_ownR hu hk rfl
  obtain ⟨⟨b, es, cl, e3, _⟩, _⟩ := hc.blks k _ hk
  rw [e3] at e2
  subst e2
  exact ⟨.func (.method name) #[.iface T (.map (some b))] #[], by simp [execOp, ho, Instr.makeFunc, e], by unfold VR methD Rep; exact ⟨b, rfl⟩⟩
theorem run_nilAhead {T : TypeId} {name : String} {f : FuncId} (h : methI P T name = some (f, none)) {n : Nat} (hn : 0 < n) (v : Value) (w : World) : (nilAhead n T v name).run P w = .ok (some false) w := by
  obtain ⟨i, m, u, b, hi, hf, hp, hfn, hu, hq⟩ := methI_spec h
  obtain ⟨n, rfl⟩ : ∃ k, n = k + 1 := ⟨n - 1, by omega⟩
  rcases hq with ⟨_, ⟨rfl, e, rfl⟩ | ⟨rfl, he⟩⟩ | ⟨e, he, _⟩
  · simp [nilAhead, typeInfo, hi, hf, hp, hfn, followBlind, run_underlying hu, Result.andThen]
  · cases u <;> simp [nilAhead, typeInfo, hi, hf, hp, hfn, followBlind, run_underlying hu, Result.andThen]
    exact absurd rfl (he _)
  · cases he
theorem op_nilM {o : Oper} (hd : dstOk X.N o.dst = true) {x : Operand} (ho : o.op = .nilCheck x) {T : TypeId} {name : String} {f : FuncId} (hm : methI P T name = some (f, none)) (hx : s.ev x = .dat (methD T name)) : OpS P X o s (s.put o.dst (.dat (methD T name))) := by
  refine opS_value hd fun a w ρ hc => ?_
  have h1 := hc.ev x
  rw [hx] at h1
  unfold VR methD Rep at h1
  obtain ⟨b, e⟩ := h1
  refine ⟨_, ?_, by unfold VR methD Rep; exact ⟨b, rfl⟩⟩
  simp [execOp, ho, e, run_nilAhead hm (show 0 < P.types.size + Made.depth by unfold Made.depth; omega), Result.andThen]
theorem d_methV {ops : List Oper} {d : Nat} {x : Operand} {name : String} {T k : Nat} {m : List (ByteArray × JV)} (hN : Nat.blt d N = true) (hx : s.ev x = .iface T (.own k)) (hk : s.tb k = some (.res (mapR m))) : TrK P X N ops (some d) (.makeFunc (.method name) #[x] #[]) (Eff.put (some d) (.dat (methD T name))) s (s.put (some d) (.dat (methD T name))) :=
  act_val hN fun s' _ _ _ _ hd hev htb => op_methV hd rfl ((hev _ (by simp [Op.operands])).trans hx) ((htb x (by simp [Op.operands]) k (by rw [hx]; simp [keysA])).trans hk)
theorem d_nilM {ops : List Oper} {d : Nat} {x : Operand} {T : Nat} {name : String} {f : Nat} (hN : Nat.blt d N = true) (hx : s.ev x = .dat (methD T name)) [hm : MI P T name f none] : TrK P X N ops (some d) (.nilCheck x) (Eff.put (some d) (.dat (methD T name))) s (s.put (some d) (.dat (methD T name))) :=
  act_val hN fun s' _ _ _ _ hd hev htb => op_nilM hd rfl hm.out ((hev _ (by simp [Op.operands])).trans hx)
end
end Go.Proofs.Ytlghpcokbppkfaa
