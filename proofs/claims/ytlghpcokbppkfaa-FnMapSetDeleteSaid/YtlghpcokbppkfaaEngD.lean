import Derived.Test.YtlghpcokbppkfaaEngC
import Derived.Test.YtlghpcokbppkfaaOps
import Derived.Laws.FloatArith
set_option linter.unusedVariables false
/- More rules: own memory shown as data for the time of a call; methods called through interfaces; closures; deferred calls; type assertions. -/
namespace Go.Proofs.Ytlghpcokbppkfaa
open Go.RowKit
set_option linter.unusedSimpArgs false

section
variable {P : Program} {X : Base} {N : Nat} {Q : Exit → Act → World → Prop} {ops : Array Oper} {rem : List Nat} {ks : List Itm} {s s' : Sta} {a : Act} {w w' : World} {ρ : Nat → RV}
/-! ### Own memory as data -/
theorem ConcAt.frzVR (h : ConcAt X s a w ρ) (G K : Nat → Bool) : (∀ (x : AV) {v : Value}, VR w (FF X w s.tb ρ) s.tb ρ x v → VR w (FF X w (s.frz G K).tb ρ) (s.frz G K).tb ρ (frzA G K s.tb x) v) ∧
    ∀ (l : List AV) {vs : List Value}, VRs w (FF X w s.tb ρ) s.tb ρ l vs → VRs w (FF X w (s.frz G K).tb ρ) (s.frz G K).tb ρ (frzAs G K s.tb l) vs := by
  have hlv : ∀ k, liveB ((s.frz G K).tb k) = true → liveB (s.tb k) = true := by
    intro k hk
    simp only [Sta.frz] at hk
    split at hk
    · cases hk
    · cases hx : s.tb k with
      | none => rw [hx] at hk; cases hk
      | some x => rw [hx] at hk; cases x <;> first | rfl | cases hk
  have hlK : ∀ k, K k = true → liveB ((s.frz G K).tb k) = false := by
    intro k hK
    simp [Sta.frz, hK, liveB]
  have hs : ∀ b, FF X w s.tb ρ b → FF X w (s.frz G K).tb ρ b := fun b hb => ⟨hb.1, hb.2.1, fun k hk => hb.2.2 k (hlv k hk)⟩
  have hnew : ∀ k x b, s.tb k = some x → x.live = true → K k = true → (ρ k).fp b → FF X w (s.frz G K).tb ρ b := by
    intro k x b hk hl hK hb
    obtain ⟨h1, h2⟩ := h.rowBlk hk hl hb
    refine ⟨.inr h1, h2, fun k' hk' e' => ?_⟩
    have := h.apart k' k b (hlv k' hk') (by rw [hk]; exact hl) e' hb
    subst this
    rw [hlK k' hK] at hk'; cases hk'
  have hown : ∀ k v, VR w (FF X w s.tb ρ) s.tb ρ (.own k) v → K k = true → VR w (FF X w (s.frz G K).tb ρ) (s.frz G K).tb ρ (frzA G K s.tb (.own k)) v := by
    intro k v hv hK
    unfold frzA
    rw [if_pos hK]
    unfold VR at hv
    rcases hv.2 with ⟨x, hk, hkd, e⟩ | hk
    · subst e
      rw [hk]
      cases x with
      | box t cs => simp [Blk.kind] at hkd
      | dead => simp [Blk.kind] at hkd
      | res R =>
        obtain ⟨h1, h2⟩ := h.blks k _ hk
        simp only
        unfold VR
        exact R.frz _ _ _ _ _ hs (fun b hb => hnew k _ b hk rfl hK hb) h1
      | row e n y l =>
        obtain ⟨xs, h0, hm, h1, h2, h3, h4⟩ := h.blks k _ hk
        simp only
        unfold VR Rep
        rcases h1.2 with ⟨e1, e2⟩ | ⟨g, cap, cur, e1, hB, hg, hc1, _, hc2, hc3⟩
        · exact ⟨none, 0, by rw [e1, e2], by omega, h3, h4, .inl (List.eq_nil_of_length_eq_zero e2)⟩
        · refine ⟨some ⟨g, 0, none⟩, cap, e1, hc1, h3, h4, .inr ⟨g, 0, hnew k _ g hk rfl hK (by rw [h0, e1]; rfl), rfl, ?_⟩⟩
          refine (h2.keep (fun _ _ => rfl) hs).lies fun j u hj => ?_
          rw [cell_of_row w g (0 + j) _ _ _ hg]
          rw [← hc3, List.getElem?_take] at hj
          split at hj
          · simpa using hj
          · cases hj
    · rw [hk]; unfold VR; trivial
  have hptr : ∀ k off v, VR w (FF X w s.tb ρ) s.tb ρ (.ptr k off) v → K k = true → VR w (FF X w (s.frz G K).tb ρ) (s.frz G K).tb ρ (frzP G off (s.tb k)) v := by
    intro k off v hv hK
    unfold VR at hv
    obtain ⟨t, cs, b, h1, h2, rfl⟩ := hv
    obtain ⟨b', vs, h2', hB, hb, hvs, hone⟩ := h.blks k _ h1
    have hρ2 : Value.pointer (some ⟨b, 0, none⟩) = .pointer (some ⟨b', 0, none⟩) := h2.symm.trans (congrArg RV.v h2')
    simp only [Value.pointer.injEq, Option.some.injEq, Addr.mk.injEq, and_true] at hρ2
    subst hρ2
    rw [h1]
    unfold frzP
    simp only
    split
    · rename_i ds hds
      rw [allD_spec hds] at hvs
      have hF' : FF X w (s.frz G K).tb ρ b := hnew k _ b h1 rfl hK (by rw [h2']; rfl)
      have hr := Reps.keep (w' := w) (fun _ _ => rfl) hs ds hvs.dat
      have hl := lies_block hb 0
      split
      · unfold VR Rep
        refine ⟨b, 0, .agg vs.toArray, rfl, hF', ?_, by simpa [Value.cells] using hl⟩
        unfold Rep
        exact ⟨vs, rfl, hr, hone⟩
      · split
        · rename_i d
          unfold Reps at hr
          obtain ⟨u, r', rfl, hu, hr'⟩ := hr
          unfold Reps at hr'
          subst hr'
          unfold VR Rep
          exact ⟨b, 0, u, rfl, hF', hu, by rw [one_toList (hone u (by simp))]; simpa using hl⟩
        · unfold VR; trivial
    · unfold VR; trivial
  have hkeep : ∀ k x, s.tb k = some x → K k = false → (s.frz G K).tb k = some (frzB G K s.tb x) := fun k x hx hK => by simp [Sta.frz, hx, hK]
  exact ⟨fun x v hv => frz_A hs hown hptr hkeep x hv, fun l vs hv => frz_As hs hown hptr hkeep l hv⟩

def allK : Nat → Bool := fun _ => true
/-- Data without memory behind it. -/
def Flat (r : PD) : Prop := ∀ (w w' : World) (F F' : Nat → Prop) (v : Value), Rep w F r v → Rep w' F' r v
theorem Flat.val {u : Value} : Flat (.val u) := fun w w' F F' v h => by unfold Rep at h ⊢; exact h
theorem Flat.tup0 : Flat (.tup []) := fun w w' F F' v h => by
  unfold Rep at h ⊢
  obtain ⟨vs, e, h⟩ := h
  exact ⟨vs, e, by unfold Reps at h ⊢; exact h⟩
/-- The arguments of a call, some of which may be own memory; what comes back holds no memory. -/
theorem ConcAt.zcall (hc : ConcAt X s a w ρ) (G : Nat → Bool) {az : List AV} {vs : List Value} (hv : VRs w (FF X w s.tb ρ) s.tb ρ az vs) {ds : List PD} (hx : allD (frzAs G allK s.tb az) = some ds) {f : FuncId} {r : PD} (hr : PCall P f ds r) (hz : Flat r) :
    Calls P f vs.toArray w fun e w' => ∃ v, e = .returned v ∧ ConcAt X s a w' ρ ∧ VR w' (FF X w' s.tb ρ) s.tb ρ (.dat r) v := by
  have h1 := (hc.frzVR G allK).2 az hv
  rw [allD_spec hx] at h1
  refine (hr w _ vs (fun b hb => hb.2.1) h1.dat).mono ?_
  rintro e w' ⟨v, rfl, hb, hv'⟩
  exact ⟨v, rfl, hc.grow hb, by unfold VR; exact hz _ _ _ _ _ hv'⟩
/-- The same on data, whatever comes back. -/
theorem ConcAt.dcall (hc : ConcAt X s a w ρ) {az : List AV} {vs : List Value} (hv : VRs w (FF X w s.tb ρ) s.tb ρ az vs) {ds : List PD} (hx : allD az = some ds) {f : FuncId} {r : PD} (hr : PCall P f ds r) :
    Calls P f vs.toArray w fun e w' => ∃ v, e = .returned v ∧ ConcAt X s a w' ρ ∧ VR w' (FF X w' s.tb ρ) s.tb ρ (.dat r) v := by
  rw [allD_spec hx] at hv
  refine (hr w _ vs (fun b hb => hb.2.1) hv.dat).mono ?_
  rintro e w' ⟨v, rfl, hb, hv'⟩
  exact ⟨v, rfl, hc.grow hb, by unfold VR; exact hv'.keep (fun _ _ => rfl) (FF_new hb hc)⟩
mutual
theorem frz_alike (G : Nat → Bool) {tb tb' : Nat → Option Blk} : ∀ x : AV, (∀ k ∈ keysA x, tb' k = tb k) → frzA G allK tb' x = frzA G allK tb x
  | .any, _ => rfl
  | .dat _, _ => rfl
  | .ptr k off, h => by unfold frzA; rw [h k (by simp [keysA])]
  | .own k, h => by unfold frzA; rw [h k (by simp [keysA])]
  | .elt k n i off, h => by unfold frzA; rfl
  | .agg l, h => by unfold frzA; rw [frzs_alike G l (fun k hk => h k (by simpa [keysA] using hk))]
  | .tup l, h => by unfold frzA; rw [frzs_alike G l (fun k hk => h k (by simpa [keysA] using hk))]
  | .iface t x, h => by unfold frzA; rw [frz_alike G x (fun k hk => h k (by simpa [keysA] using hk))]
  | .clo f l, h => by unfold frzA; rw [frzs_alike G l (fun k hk => h k (by simpa [keysA] using hk))]
theorem frzs_alike (G : Nat → Bool) {tb tb' : Nat → Option Blk} : ∀ l : List AV, (∀ k ∈ keysAs l, tb' k = tb k) → frzAs G allK tb' l = frzAs G allK tb l
  | [], _ => rfl
  | x :: r, h => by unfold frzAs; rw [frz_alike G x (fun k hk => h k (by simp only [keysAs, List.mem_append]; exact .inl hk)), frzs_alike G r (fun k hk => h k (by simp only [keysAs, List.mem_append]; exact .inr hk))]
end
theorem keysAs_map {xs : List Operand} {k : Nat} : k ∈ keysAs (xs.map s.ev) → ∃ x ∈ xs, k ∈ keysA (s.ev x) := by
  induction xs with
  | nil => intro h; simp [keysAs] at h
  | cons x r ih =>
    intro h
    simp only [List.map_cons, keysAs, List.mem_append] at h
    rcases h with h | h
    · exact ⟨x, by simp, h⟩
    · obtain ⟨y, hy, hk⟩ := ih h
      exact ⟨y, by simp [hy], hk⟩
theorem frzs_ev (G : Nat → Bool) {xs : List Operand} (hev : ∀ x ∈ xs, s'.ev x = s.ev x) (htb : ∀ x ∈ xs, ∀ k ∈ keysA (s.ev x), s'.tb k = s.tb k) : frzAs G allK s'.tb (xs.map s'.ev) = frzAs G allK s.tb (xs.map s.ev) := by
  rw [map_alike hev]
  exact frzs_alike G _ fun k hk => by
    obtain ⟨x, hx, hk⟩ := keysAs_map hk
    exact htb x hx k hk
/-- From a call's outcome to an operation's. -/
theorem opS_enter {o : Oper} (hd : dstOk X.N o.dst = true) {f : FuncId} {r : AV} (h : ∀ a w ρ, ConcAt X s a w ρ → ∃ vs : List Value, (execOp a.eval o).run P w = .ok (.enter f vs.toArray) w ∧
    Calls P f vs.toArray w fun e w' => ∃ v, e = .returned v ∧ ConcAt X s a w' ρ ∧ VR w' (FF X w' s.tb ρ) s.tb ρ r v) : OpS P X o s (s.put o.dst r) := by
  intro a w ⟨ρ, hc⟩ K Q hK
  obtain ⟨vs, he, hcall⟩ := h a w ρ hc
  unfold Oper.wp
  rw [he]
  refine hcall.mono ?_
  rintro e w' ⟨v, rfl, hc', hv⟩
  exact hK _ _ ⟨ρ, hc'.putO hd hv⟩
theorem op_callZ {o : Oper} (hd : dstOk X.N o.dst = true) {f : FuncId} {xs : List Operand} {ts : Array TypeId} (ho : o.op = .call { callee := .value (.func f), args := xs.toArray, argTypes := ts }) (G : Nat → Bool) (hf : callable P f = true)
    {ds : List PD} (hx : allD (frzAs G allK s.tb (xs.map s.ev)) = some ds) {r : PD} (hr : PCall P f ds r) (hz : Flat r) : OpS P X o s (s.put o.dst (.dat r)) :=
  opS_enter hd fun a w ρ hc => ⟨xs.map a.eval, by simp [execOp, ho, resolve, Deferred.ofValue, Act.eval, invoke, run_callFunc hf], hc.zcall G (VRs_args hc rfl) hx hr hz⟩
theorem k_callZ (G : Nat → Bool) {d f : Nat} {xs : List Operand} {ts : Array TypeId} {ds : List PD} {r : PD} (hN : Nat.blt d N = true) (hf : callable P f = true) (hx : allD (frzAs G allK s.tb (xs.map s.ev)) = some ds) (hr : PCall P f ds r) (hz : Flat r) (h : Run P X N Q (.ops ops rem :: ks) (s.put (some d) (.dat r))) :
    RunK P X N Q ops rem ks (some d) (.call { callee := .value (.func f), args := xs.toArray, argTypes := ts }) s := k_of hN (fun _ _ _ hd => op_callZ hd rfl G hf hx hr hz) h
theorem d_callZ {ops : List Oper} (G : Nat → Bool) {d f : Nat} {xs : List Operand} {ts : Array TypeId} {ds : List PD} {r : PD} (hN : Nat.blt d N = true) (hf : callable P f = true) (hx : allD (frzAs G allK s.tb (xs.map s.ev)) = some ds) (hr : PCall P f ds r) (hz : Flat r) :
    TrK P X N ops (some d) (.call { callee := .value (.func f), args := xs.toArray, argTypes := ts }) (Eff.put (some d) (.dat r)) s (s.put (some d) (.dat r)) := act_val hN fun s' _ _ _ _ hd hev htb => op_callZ hd rfl G hf (by rw [frzs_ev G (fun x hx => hev x (by simp [Op.operands, Call.operands, hx])) (fun x hx => htb x (by simp [Op.operands, Call.operands, hx]))]; exact hx) hr hz

/-! ### Methods -/
/-- What the method of a type is: the function; for a value method called through a pointer, the type that is loaded. -/
def methI (P : Program) (T : TypeId) (name : String) : Option (FuncId × Option TypeId) :=
  match (P.info? T).bind fun i => i.methods.find? (·.name == name) with
  | some m => match m.path.toList, m.func, P.underlying T with
    | [], some (f, true), some (.pointer _) => some (f, none)
    | [], some (f, false), some (.pointer e) => some (f, some e)
    | [], some (f, false), some _ => some (f, none)
    | _, _, _ => none
  | none => none
theorem methI_spec {T : TypeId} {name : String} {f : FuncId} {q : Option TypeId} (h : methI P T name = some (f, q)) : ∃ i m u b, P.info? T = some i ∧ i.methods.find? (·.name == name) = some m ∧ m.path = #[] ∧ m.func = some (f, b) ∧ P.underlying T = some u ∧
    ((q = none ∧ ((b = true ∧ ∃ e, u = .pointer e) ∨ (b = false ∧ ∀ e, u ≠ .pointer e))) ∨ ∃ e, q = some e ∧ b = false ∧ u = .pointer e) := by
  unfold methI at h
  split at h
  · rename_i m hm
    obtain ⟨i, hi, hf⟩ := Option.bind_eq_some_iff.1 hm
    split at h
    · rename_i f' e h1 h2 h3
      simp only [Option.some.injEq, Prod.mk.injEq] at h
      exact ⟨i, m, _, true, hi, hf, Array.toList_eq_nil_iff.1 h1, by rw [h2, h.1], h3, .inl ⟨h.2.symm, .inl ⟨rfl, e, rfl⟩⟩⟩
    · rename_i f' e h1 h2 h3
      simp only [Option.some.injEq, Prod.mk.injEq] at h
      exact ⟨i, m, _, false, hi, hf, Array.toList_eq_nil_iff.1 h1, by rw [h2, h.1], h3, .inr ⟨e, h.2.symm, rfl, rfl⟩⟩
    · rename_i f' u h0 h1 h2 h3
      simp only [Option.some.injEq, Prod.mk.injEq] at h
      exact ⟨i, m, _, false, hi, hf, Array.toList_eq_nil_iff.1 h1, by rw [h2, h.1], h3, .inl ⟨h.2.symm, .inr ⟨rfl, fun e he => h0 e he⟩⟩⟩
    · cases h
  · cases h
theorem run_method_same {T : TypeId} {name : String} {f : FuncId} (h : methI P T name = some (f, none)) {n : Nat} (hn : 0 < n) (v : Value) (w : World) : (method n T v name).run P w = .ok (f, v) w := by
  obtain ⟨i, m, u, b, hi, hf, hp, hfn, hu, hq⟩ := methI_spec h
  obtain ⟨n, rfl⟩ : ∃ k, n = k + 1 := ⟨n - 1, by omega⟩
  rcases hq with ⟨_, ⟨rfl, e, rfl⟩ | ⟨rfl, he⟩⟩ | ⟨e, he, _⟩
  · simp [method, typeInfo, hi, hf, hp, hfn, follow, receiverAt, run_underlying hu, Place.get, Result.andThen]
  · cases u <;> simp [method, typeInfo, hi, hf, hp, hfn, follow, receiverAt, run_underlying hu, Place.get, Result.andThen]
    exact absurd rfl (he _)
  · cases he
theorem run_method_load {T e : TypeId} {name : String} {f : FuncId} (h : methI P T name = some (f, some e)) {n : Nat} (hn : 0 < n) {p : Addr} {u : Value} {w : World} (hl : (loadVar e p).run P w = .ok u w) : (method n T (.pointer (some p)) name).run P w = .ok (f, u) w := by
  obtain ⟨i, m, d, b, hi, hf, hp, hfn, hu, hq⟩ := methI_spec h
  obtain ⟨n, rfl⟩ : ∃ k, n = k + 1 := ⟨n - 1, by omega⟩
  have hwrap : ∀ nm : String, (Builtin.ssaWrapNilChk_ #[T] T #[.pointer (some p), strVal "", strVal nm]).run P w = .ok (.pointer (some p)) w := fun _ => rfl
  rcases hq with ⟨hq, _⟩ | ⟨e', he, rfl, rfl⟩
  · cases hq
  · cases he
    simp [method, typeInfo, hi, hf, hp, hfn, follow, receiverAt, run_underlying hu, Place.get, hwrap, Result.andThen, asAddr, hl]
class MI (P : Program) (T : Nat) (name : String) (f : outParam Nat) (q : outParam (Option Nat)) : Prop where
  out : methI P T name = some (f, q)
/-- The receiver: what lies in the interface value, and what the function is given. -/
def Recv (P : Program) (X : Base) (s : Sta) (T : TypeId) (name : String) (f : FuncId) (x y : AV) : Prop :=
  ∀ a w ρ, ConcAt X s a w ρ → ∀ v, VR w (FF X w s.tb ρ) s.tb ρ x v → ∃ u, (∀ n, 0 < n → (method n T v name).run P w = .ok (f, u) w) ∧ VR w (FF X w s.tb ρ) s.tb ρ y u
theorem Recv.same {T : TypeId} {name : String} {f : FuncId} {x : AV} (h : methI P T name = some (f, none)) : Recv P X s T name f x x := fun a w ρ hc v hv => ⟨v, fun n hn => run_method_same h hn v w, hv⟩
theorem Recv.loadD {T e : TypeId} {name : String} {f : FuncId} {d : PD} {n : Nat} {g : Bool} (h : methI P T name = some (f, some e)) [ht : VI P e n g] (hf : fitsD g n d = true) : Recv P X s T name f (.dat (.ptr d)) (.dat d) := by
  intro a w ρ hc v hv
  unfold VR Rep at hv
  obtain ⟨b, off, u, rfl, hF, hu, hl⟩ := hv
  have hrun : (loadVar e ⟨b, off, none⟩).run P w = .ok u w := by
    rcases fitsD_agg hf with ⟨rfl, l, rfl, hn⟩ | ⟨rfl, h1, h1'⟩
    · unfold Rep at hu
      obtain ⟨vs, rfl, hvs, _⟩ := hu
      exact run_loadVar_agg ht.out (by rw [hvs.length]; exact hn) (by simpa [Value.cells] using hl)
    · have hone := hu.one h1 h1'
      rw [one_toList hone] at hl
      exact run_loadVar_cell ht.out (by simpa using hl 0 u rfl)
  exact ⟨u, fun n hn => run_method_load h hn hrun, by unfold VR; exact hu⟩
theorem Recv.loadB {T e : TypeId} {name : String} {f : FuncId} {k off T' : Nat} {cs : List AV} {y : AV} {n : Nat} {g : Bool} (h : methI P T name = some (f, some e)) [ht : VI P e n g] (hk : s.tb k = some (.box T' cs)) (hf : subA g n off cs = some y) : Recv P X s T name f (.ptr k off) y := by
  intro a w ρ hc v hv
  unfold VR at hv
  obtain ⟨T'', cs', b, hk', hρ, rfl⟩ := hv
  obtain ⟨b', vs, hρ', hB, hb, hvs, h1⟩ := hc.blks k _ hk
  have hρ2 : Value.pointer (some ⟨b, 0, none⟩) = .pointer (some ⟨b', 0, none⟩) := hρ.symm.trans (congrArg RV.v hρ')
  simp only [Value.pointer.injEq, Option.some.injEq, Addr.mk.injEq, and_true] at hρ2
  subst hρ2
  have hl := lies_block hb off
  have key : ∃ u, (loadVar e ⟨b, off, none⟩).run P w = .ok u w ∧ VR w (FF X w s.tb ρ) s.tb ρ y u := by
    cases g with
    | true =>
      simp only [subA, if_true] at hf
      split at hf
      · rename_i hle
        simp only [Option.some.injEq] at hf
        subst hf
        have hv := (hvs.drop off).take n
        have h1' : ∀ u ∈ (vs.drop off).take n, u.oneCell' = true := fun u hu => h1 u (List.mem_of_mem_drop (List.mem_of_mem_take hu))
        exact ⟨_, run_loadVar_agg ht.out (cs := (vs.drop off).take n) (by rw [List.length_take, List.length_drop, hvs.length]; omega) (hl.take n), VR_mkAgg hv h1'⟩
      · cases hf
    | false =>
      simp only [subA, Bool.false_eq_true, if_false] at hf
      obtain ⟨v, hv, hr⟩ := hvs.at_ hf
      have hcell : w.cell? ⟨b, off, none⟩ = some v := by rw [cell_of_row w b off _ _ _ hb]; simpa using hv
      exact ⟨v, run_loadVar_cell ht.out hcell, hr⟩
  obtain ⟨u, hrun, hu⟩ := key
  exact ⟨u, fun n hn => run_method_load h hn hrun, hu⟩
def ifcA : AV → Option (TypeId × AV)
  | .iface T x => some (T, x)
  | .dat (.iface T d) => some (T, .dat d)
  | _ => none
theorem ifcA_spec {z : AV} {T : TypeId} {x : AV} (h : ifcA z = some (T, x)) {F : Nat → Prop} {tb : Nat → Option Blk} {v : Value} (hv : VR w F tb ρ z v) : ∃ u, v = .iface T u ∧ VR w F tb ρ x u := by
  unfold ifcA at h
  split at h
  · simp only [Option.some.injEq, Prod.mk.injEq] at h
    obtain ⟨rfl, rfl⟩ := h
    unfold VR at hv
    exact hv
  · simp only [Option.some.injEq, Prod.mk.injEq] at h
    obtain ⟨rfl, rfl⟩ := h
    unfold VR Rep at hv
    obtain ⟨u, e, hu⟩ := hv
    exact ⟨u, e, by unfold VR; exact hu⟩
  · cases h
theorem inv_enter {T : TypeId} {name : String} {f : FuncId} {c : Operand} {x y : AV} {xs : List Operand} {ts : Array TypeId} {o : Oper} (ho : o.op = .call { callee := .invoke c name, args := xs.toArray, argTypes := ts }) (hi : ifcA (s.ev c) = some (T, x)) (hR : Recv P X s T name f x y) (hf : callable P f = true) (hc : ConcAt X s a w ρ) :
    ∃ vs, VRs w (FF X w s.tb ρ) s.tb ρ (y :: xs.map s.ev) vs ∧ (execOp a.eval o).run P w = .ok (.enter f vs.toArray) w := by
  obtain ⟨v, e, hv⟩ := ifcA_spec hi (hc.ev c)
  obtain ⟨u, hm, hu⟩ := hR a w ρ hc v hv
  refine ⟨u :: xs.map a.eval, by unfold VRs; exact ⟨u, _, rfl, hu, VRs_args hc rfl⟩, ?_⟩
  have h1 := hm (P.types.size + Made.depth) (by unfold Made.depth; omega)
  simp [execOp, ho, resolve, invoke, callMethod, e, h1, run_callFunc hf, Result.andThen, List.take_of_length_le]
theorem op_inv {o : Oper} (hd : dstOk X.N o.dst = true) {T : TypeId} {name : String} {f : FuncId} {c : Operand} {x y : AV} {xs : List Operand} {ts : Array TypeId} (ho : o.op = .call { callee := .invoke c name, args := xs.toArray, argTypes := ts }) (hi : ifcA (s.ev c) = some (T, x)) (hR : Recv P X s T name f x y) (hf : callable P f = true)
    {ds : List PD} (hx : allD (y :: xs.map s.ev) = some ds) {r : PD} (hr : PCall P f ds r) : OpS P X o s (s.put o.dst (.dat r)) :=
  opS_enter hd fun a w ρ hc => by
    obtain ⟨vs, hv, he⟩ := inv_enter ho hi hR hf hc
    exact ⟨vs, he, hc.dcall hv hx hr⟩
theorem op_invZ {o : Oper} (hd : dstOk X.N o.dst = true) {T : TypeId} {name : String} {f : FuncId} {c : Operand} {x y : AV} {xs : List Operand} {ts : Array TypeId} (ho : o.op = .call { callee := .invoke c name, args := xs.toArray, argTypes := ts }) (G : Nat → Bool) (hi : ifcA (s.ev c) = some (T, x)) (hR : Recv P X s T name f x y) (hf : callable P f = true)
    {ds : List PD} (hx : allD (frzAs G allK s.tb (y :: xs.map s.ev)) = some ds) {r : PD} (hr : PCall P f ds r) (hz : Flat r) : OpS P X o s (s.put o.dst (.dat r)) :=
  opS_enter hd fun a w ρ hc => by
    obtain ⟨vs, hv, he⟩ := inv_enter ho hi hR hf hc
    exact ⟨vs, he, hc.zcall G hv hx hr hz⟩
theorem k_inv {d : Nat} {T : TypeId} {name : String} {f : FuncId} {c : Operand} {x y : AV} {xs : List Operand} {ts : Array TypeId} {ds : List PD} {r : PD} (hN : Nat.blt d N = true) (hi : ifcA (s.ev c) = some (T, x)) (hR : Recv P X s T name f x y) (hf : callable P f = true) (hx : allD (y :: xs.map s.ev) = some ds) (hr : PCall P f ds r)
    (h : Run P X N Q (.ops ops rem :: ks) (s.put (some d) (.dat r))) : RunK P X N Q ops rem ks (some d) (.call { callee := .invoke c name, args := xs.toArray, argTypes := ts }) s := k_of hN (fun _ _ _ hd => op_inv hd rfl hi hR hf hx hr) h
theorem k_invZ (G : Nat → Bool) {d : Nat} {T : TypeId} {name : String} {f : FuncId} {c : Operand} {x y : AV} {xs : List Operand} {ts : Array TypeId} {ds : List PD} {r : PD} (hN : Nat.blt d N = true) (hi : ifcA (s.ev c) = some (T, x)) (hR : Recv P X s T name f x y) (hf : callable P f = true) (hx : allD (frzAs G allK s.tb (y :: xs.map s.ev)) = some ds) (hr : PCall P f ds r) (hz : Flat r)
    (h : Run P X N Q (.ops ops rem :: ks) (s.put (some d) (.dat r))) : RunK P X N Q ops rem ks (some d) (.call { callee := .invoke c name, args := xs.toArray, argTypes := ts }) s := k_of hN (fun _ _ _ hd => op_invZ hd rfl G hi hR hf hx hr hz) h
theorem d_invD {ops : List Oper} {d : Nat} {T e : TypeId} {name : String} {f : FuncId} {c : Operand} {p : PD} {n : Nat} {g : Bool} {xs : List Operand} {ts : Array TypeId} {ds : List PD} {r : PD} (hN : Nat.blt d N = true) (hi : s.ev c = .dat (.iface T (.ptr p))) [hm : MI P T name f (some e)] [ht : VI P e n g] (hfit : fitsD g n p = true) (hf : callable P f = true) (hx : allD (.dat p :: xs.map s.ev) = some ds) (hr : PCall P f ds r) :
    TrK P X N ops (some d) (.call { callee := .invoke c name, args := xs.toArray, argTypes := ts }) (Eff.put (some d) (.dat r)) s (s.put (some d) (.dat r)) := act_val hN fun s' _ _ _ _ hd hev htb =>
  op_inv hd rfl (x := .dat (.ptr p)) (by rw [hev c (by simp [Op.operands, Call.operands]), hi]; rfl) (Recv.loadD hm.out hfit) hf (by rw [map_alike (fun x hx => hev x (by simp [Op.operands, Call.operands, hx]))]; exact hx) hr
theorem k_invD {d : Nat} {T e : TypeId} {name : String} {f : FuncId} {c : Operand} {p : PD} {n : Nat} {g : Bool} {xs : List Operand} {ts : Array TypeId} {ds : List PD} {r : PD} (hN : Nat.blt d N = true) (hi : s.ev c = .dat (.iface T (.ptr p))) [hm : MI P T name f (some e)] [ht : VI P e n g] (hfit : fitsD g n p = true) (hf : callable P f = true) (hx : allD (.dat p :: xs.map s.ev) = some ds) (hr : PCall P f ds r)
    (h : Run P X N Q (.ops ops rem :: ks) (s.put (some d) (.dat r))) : RunK P X N Q ops rem ks (some d) (.call { callee := .invoke c name, args := xs.toArray, argTypes := ts }) s := k_inv hN (x := .dat (.ptr p)) (by rw [hi]; rfl) (Recv.loadD hm.out hfit) hf hx hr h
theorem d_invS {ops : List Oper} {d : Nat} {T : TypeId} {name : String} {f : FuncId} {c : Operand} {p : PD} {xs : List Operand} {ts : Array TypeId} {ds : List PD} {r : PD} (hN : Nat.blt d N = true) (hi : s.ev c = .dat (.iface T p)) [hm : MI P T name f none] (hf : callable P f = true) (hx : allD (.dat p :: xs.map s.ev) = some ds) (hr : PCall P f ds r) :
    TrK P X N ops (some d) (.call { callee := .invoke c name, args := xs.toArray, argTypes := ts }) (Eff.put (some d) (.dat r)) s (s.put (some d) (.dat r)) := act_val hN fun s' _ _ _ _ hd hev htb =>
  op_inv hd rfl (x := .dat p) (by rw [hev c (by simp [Op.operands, Call.operands]), hi]; rfl) (Recv.same hm.out) hf (by rw [map_alike (fun x hx => hev x (by simp [Op.operands, Call.operands, hx]))]; exact hx) hr
theorem k_invS {d : Nat} {T : TypeId} {name : String} {f : FuncId} {c : Operand} {p : PD} {xs : List Operand} {ts : Array TypeId} {ds : List PD} {r : PD} (hN : Nat.blt d N = true) (hi : s.ev c = .dat (.iface T p)) [hm : MI P T name f none] (hf : callable P f = true) (hx : allD (.dat p :: xs.map s.ev) = some ds) (hr : PCall P f ds r)
    (h : Run P X N Q (.ops ops rem :: ks) (s.put (some d) (.dat r))) : RunK P X N Q ops rem ks (some d) (.call { callee := .invoke c name, args := xs.toArray, argTypes := ts }) s := k_inv hN (x := .dat p) (by rw [hi]; rfl) (Recv.same hm.out) hf hx hr h
/-- A method to which memory is lent. -/
theorem k_invA (θ : Nat → Nat) {d : Nat} {T : TypeId} {name : String} {f : FuncId} {c : Operand} {x y : AV} {xs : List Operand} {ts : Array TypeId} {az : List AV} {tbl : List (Nat × Blk)} {ι : Type} {out : ι → AV} {tbl' : ι → List (Nat × Blk)} (hN : Nat.blt d N = true) (hi : ifcA (s.ev c) = some (T, x)) (hR : Recv P X s T name f x y) (hf : callable P f = true)
    (hr : ACall P f az tbl out tbl') (hx : y :: xs.map s.ev = renAs θ az) (htb : TbOk s θ tbl) (hok1 : lendOk1 θ az tbl = true) (hfr : ∀ i, FreshOk s θ (tbl' i)) (hok : ∀ i, lendOk2 θ tbl (tbl' i) = true) (h : ∀ i, Run P X N Q (.ops ops rem :: ks) ((s.lend θ (tbl' i)).put (some d) (renA θ (out i)))) :
    RunK P X N Q ops rem ks (some d) (.call { callee := .invoke c name, args := xs.toArray, argTypes := ts }) s := ⟨fun ty pos aft => ⟨fun hX a w ⟨ρ, hc⟩ => by
  obtain ⟨vs, hv, he⟩ := inv_enter (o := ⟨some d, .call { callee := .invoke c name, args := xs.toArray, argTypes := ts }, ty, pos, aft, none⟩) rfl hi hR hf hc
  have hcall := hc.acall hX.2 θ hr htb hfr hok1 hok (vs := vs) (by rw [← hx]; exact hv)
  refine run_enter hf he (R := fun v w' => ∃ i ρ', ConcAt X (s.lend θ (tbl' i)) a w' ρ' ∧ VR w' (FF X w' (s.lend θ (tbl' i)).tb ρ') (s.lend θ (tbl' i)).tb ρ' (renA θ (out i)) v) (hcall.mono ?_) ?_
  · rintro e w' ⟨v, i, ρ', he, h1, h2⟩
    exact ⟨v, he, i, ρ', h1, h2⟩
  · rintro v w' ⟨i, ρ', h1, h2⟩
    exact (h i).out hX _ _ ⟨ρ', h1.putO (hN_ok hN hX) h2⟩⟩⟩
theorem k_invA1 (θ : Nat → Nat) {d : Nat} {T : TypeId} {name : String} {f : FuncId} {c : Operand} {x y : AV} {xs : List Operand} {ts : Array TypeId} {az : List AV} {tbl : List (Nat × Blk)} {out : AV} {tbl' : List (Nat × Blk)} (hN : Nat.blt d N = true) (hi : ifcA (s.ev c) = some (T, x)) (hR : Recv P X s T name f x y) (hf : callable P f = true)
    (hr : ACall1 P f az tbl out tbl') (hx : y :: xs.map s.ev = renAs θ az) (htb : TbOk s θ tbl) (hok1 : lendOk1 θ az tbl = true) (hfr : FreshOk s θ tbl') (hok : lendOk2 θ tbl tbl' = true) (h : Run P X N Q (.ops ops rem :: ks) ((s.lend θ tbl').put (some d) (renA θ out))) :
    RunK P X N Q ops rem ks (some d) (.call { callee := .invoke c name, args := xs.toArray, argTypes := ts }) s := k_invA θ hN hi hR hf hr hx htb hok1 (fun _ => hfr) (fun _ => hok) (fun _ => h)

theorem k_invAS1 (θ : Nat → Nat) {d : Nat} {T : TypeId} {name : String} {f : FuncId} {c : Operand} {x : AV} {xs : List Operand} {ts : Array TypeId} {az : List AV} {tbl : List (Nat × Blk)} {out : AV} {tbl' : List (Nat × Blk)} (hN : Nat.blt d N = true) (hi : ifcA (s.ev c) = some (T, x)) [hm : MI P T name f none] (hf : callable P f = true)
    (hr : ACall1 P f az tbl out tbl') (hx : x :: xs.map s.ev = renAs θ az) (htb : TbOk s θ tbl) (hok1 : lendOk1 θ az tbl = true) (hfr : FreshOk s θ tbl') (hok : lendOk2 θ tbl tbl' = true) (h : Run P X N Q (.ops ops rem :: ks) ((s.lend θ tbl').put (some d) (renA θ out))) :
    RunK P X N Q ops rem ks (some d) (.call { callee := .invoke c name, args := xs.toArray, argTypes := ts }) s := k_invA θ hN hi (Recv.same hm.out) hf hr hx htb hok1 (fun _ => hfr) (fun _ => hok) (fun _ => h)
theorem k_invAD1 (θ : Nat → Nat) {d : Nat} {T e : TypeId} {name : String} {f : FuncId} {c : Operand} {p : PD} {n : Nat} {g : Bool} {xs : List Operand} {ts : Array TypeId} {az : List AV} {tbl : List (Nat × Blk)} {out : AV} {tbl' : List (Nat × Blk)} (hN : Nat.blt d N = true) (hi : s.ev c = .dat (.iface T (.ptr p))) [hm : MI P T name f (some e)] [ht : VI P e n g] (hfit : fitsD g n p = true) (hf : callable P f = true)
    (hr : ACall1 P f az tbl out tbl') (hx : .dat p :: xs.map s.ev = renAs θ az) (htb : TbOk s θ tbl) (hok1 : lendOk1 θ az tbl = true) (hfr : FreshOk s θ tbl') (hok : lendOk2 θ tbl tbl' = true) (h : Run P X N Q (.ops ops rem :: ks) ((s.lend θ tbl').put (some d) (renA θ out))) :
    RunK P X N Q ops rem ks (some d) (.call { callee := .invoke c name, args := xs.toArray, argTypes := ts }) s := k_invA θ hN (x := .dat (.ptr p)) (by rw [hi]; rfl) (Recv.loadD hm.out hfit) hf hr hx htb hok1 (fun _ => hfr) (fun _ => hok) (fun _ => h)
theorem k_invAS (θ : Nat → Nat) {d : Nat} {T : TypeId} {name : String} {f : FuncId} {c : Operand} {x : AV} {xs : List Operand} {ts : Array TypeId} {az : List AV} {tbl : List (Nat × Blk)} {ι : Type} {out : ι → AV} {tbl' : ι → List (Nat × Blk)} (hN : Nat.blt d N = true) (hi : ifcA (s.ev c) = some (T, x)) [hm : MI P T name f none] (hf : callable P f = true)
    (hr : ACall P f az tbl out tbl') (hx : x :: xs.map s.ev = renAs θ az) (htb : TbOk s θ tbl) (hok1 : lendOk1 θ az tbl = true) (hfr : ∀ i, FreshOk s θ (tbl' i)) (hok : ∀ i, lendOk2 θ tbl (tbl' i) = true) (h : ∀ i, Run P X N Q (.ops ops rem :: ks) ((s.lend θ (tbl' i)).put (some d) (renA θ (out i)))) :
    RunK P X N Q ops rem ks (some d) (.call { callee := .invoke c name, args := xs.toArray, argTypes := ts }) s := k_invA θ hN hi (Recv.same hm.out) hf hr hx htb hok1 hfr hok h

/-! ### Closures -/
theorem op_makeFunc {o : Oper} (hd : dstOk X.N o.dst = true) {f : Nat} {xs : List Operand} (ho : o.op = .makeFunc (.func f) #[] xs.toArray) : OpS P X o s (s.put o.dst (.clo f (xs.map s.ev))) :=
  opS_value hd fun a w ρ hc => ⟨.func (.func f) #[] (xs.map a.eval).toArray, by simp [execOp, ho, Instr.makeFunc], by unfold VR; exact ⟨_, rfl, VRs_args hc rfl⟩⟩
theorem k_makeFunc {d f : Nat} {xs : List Operand} (hN : Nat.blt d N = true) (h : Run P X N Q (.ops ops rem :: ks) (s.put (some d) (.clo f (xs.map s.ev)))) : RunK P X N Q ops rem ks (some d) (.makeFunc (.func f) #[] xs.toArray) s := k_of hN (fun _ _ _ hd => op_makeFunc hd rfl) h
theorem d_makeFunc {ops : List Oper} {d f : Nat} {xs : List Operand} (hN : Nat.blt d N = true) : TrK P X N ops (some d) (.makeFunc (.func f) #[] xs.toArray) (Eff.put (some d) (.clo f (xs.map s.ev))) s (s.put (some d) (.clo f (xs.map s.ev))) := act_val hN fun s' _ _ _ _ hd hev htb => by
  rw [← map_alike (s := s) (s' := s') (xs := xs) (fun x hx => hev x (by simp [Op.operands, hx]))]; exact op_makeFunc hd rfl
theorem VRs_append {F : Nat → Prop} {tb : Nat → Option Blk} : ∀ {l l' : List AV} {vs vs' : List Value}, VRs w F tb ρ l vs → VRs w F tb ρ l' vs' → VRs w F tb ρ (l ++ l') (vs ++ vs')
  | [], _, _, _, h, h' => by unfold VRs at h; subst h; simpa using h'
  | x :: r, _, _, _, h, h' => by
    unfold VRs at h
    obtain ⟨v, r', rfl, h1, h2⟩ := h
    show VRs w F tb ρ (x :: (r ++ _)) (v :: (r' ++ _))
    unfold VRs
    exact ⟨v, _, rfl, h1, VRs_append h2 h'⟩
theorem clo_enter {f : FuncId} {c : Operand} {caps : List AV} {xs : List Operand} {ts : Array TypeId} {o : Oper} (ho : o.op = .call { callee := .value c, args := xs.toArray, argTypes := ts }) (hi : s.ev c = .clo f caps) (hf : callable P f = true) (hc : ConcAt X s a w ρ) :
    ∃ vs, VRs w (FF X w s.tb ρ) s.tb ρ (xs.map s.ev ++ caps) vs ∧ (execOp a.eval o).run P w = .ok (.enter f vs.toArray) w := by
  have h1 := hc.ev c
  rw [hi] at h1
  unfold VR at h1
  obtain ⟨us, e, h2⟩ := h1
  refine ⟨xs.map a.eval ++ us, VRs_append (VRs_args hc rfl) h2, ?_⟩
  simp [execOp, ho, resolve, Deferred.ofValue, e, invoke, run_callFunc hf, Result.andThen]
theorem k_cloA (θ : Nat → Nat) {d : Nat} {f : FuncId} {c : Operand} {caps : List AV} {xs : List Operand} {ts : Array TypeId} {az : List AV} {tbl : List (Nat × Blk)} {ι : Type} {out : ι → AV} {tbl' : ι → List (Nat × Blk)} (hN : Nat.blt d N = true) (hi : s.ev c = .clo f caps) (hf : callable P f = true)
    (hr : ACall P f az tbl out tbl') (hx : xs.map s.ev ++ caps = renAs θ az) (htb : TbOk s θ tbl) (hok1 : lendOk1 θ az tbl = true) (hfr : ∀ i, FreshOk s θ (tbl' i)) (hok : ∀ i, lendOk2 θ tbl (tbl' i) = true) (h : ∀ i, Run P X N Q (.ops ops rem :: ks) ((s.lend θ (tbl' i)).put (some d) (renA θ (out i)))) :
    RunK P X N Q ops rem ks (some d) (.call { callee := .value c, args := xs.toArray, argTypes := ts }) s := ⟨fun ty pos aft => ⟨fun hX a w ⟨ρ, hc⟩ => by
  obtain ⟨vs, hv, he⟩ := clo_enter (o := ⟨some d, .call { callee := .value c, args := xs.toArray, argTypes := ts }, ty, pos, aft, none⟩) rfl hi hf hc
  have hcall := hc.acall hX.2 θ hr htb hfr hok1 hok (vs := vs) (by rw [← hx]; exact hv)
  refine run_enter hf he (R := fun v w' => ∃ i ρ', ConcAt X (s.lend θ (tbl' i)) a w' ρ' ∧ VR w' (FF X w' (s.lend θ (tbl' i)).tb ρ') (s.lend θ (tbl' i)).tb ρ' (renA θ (out i)) v) (hcall.mono ?_) ?_
  · rintro e w' ⟨v, i, ρ', he, h1, h2⟩
    exact ⟨v, he, i, ρ', h1, h2⟩
  · rintro v w' ⟨i, ρ', h1, h2⟩
    exact (h i).out hX _ _ ⟨ρ', h1.putO (hN_ok hN hX) h2⟩⟩⟩
theorem k_cloA1 (θ : Nat → Nat) {d : Nat} {f : FuncId} {c : Operand} {caps : List AV} {xs : List Operand} {ts : Array TypeId} {az : List AV} {tbl : List (Nat × Blk)} {out : AV} {tbl' : List (Nat × Blk)} (hN : Nat.blt d N = true) (hi : s.ev c = .clo f caps) (hf : callable P f = true)
    (hr : ACall1 P f az tbl out tbl') (hx : xs.map s.ev ++ caps = renAs θ az) (htb : TbOk s θ tbl) (hok1 : lendOk1 θ az tbl = true) (hfr : FreshOk s θ tbl') (hok : lendOk2 θ tbl tbl' = true) (h : Run P X N Q (.ops ops rem :: ks) ((s.lend θ tbl').put (some d) (renA θ out))) :
    RunK P X N Q ops rem ks (some d) (.call { callee := .value c, args := xs.toArray, argTypes := ts }) s := k_cloA θ hN hi hf hr hx htb hok1 (fun _ => hfr) (fun _ => hok) (fun _ => h)
/-- A closure over own memory that is shown as data; what comes back holds no memory. -/
theorem op_cloZ {o : Oper} (hd : dstOk X.N o.dst = true) {f : FuncId} {c : Operand} {caps : List AV} {xs : List Operand} {ts : Array TypeId} (ho : o.op = .call { callee := .value c, args := xs.toArray, argTypes := ts }) (G : Nat → Bool) (hi : s.ev c = .clo f caps) (hf : callable P f = true)
    {ds : List PD} (hx : allD (frzAs G allK s.tb (xs.map s.ev ++ caps)) = some ds) {r : PD} (hr : PCall P f ds r) (hz : Flat r) : OpS P X o s (s.put o.dst (.dat r)) :=
  opS_enter hd fun a w ρ hc => by
    obtain ⟨vs, hv, he⟩ := clo_enter ho hi hf hc
    exact ⟨vs, he, hc.zcall G hv hx hr hz⟩
theorem k_cloZ (G : Nat → Bool) {d : Nat} {f : FuncId} {c : Operand} {caps : List AV} {xs : List Operand} {ts : Array TypeId} {ds : List PD} {r : PD} (hN : Nat.blt d N = true) (hi : s.ev c = .clo f caps) (hf : callable P f = true) (hx : allD (frzAs G allK s.tb (xs.map s.ev ++ caps)) = some ds) (hr : PCall P f ds r) (hz : Flat r)
    (h : Run P X N Q (.ops ops rem :: ks) (s.put (some d) (.dat r))) : RunK P X N Q ops rem ks (some d) (.call { callee := .value c, args := xs.toArray, argTypes := ts }) s := k_of hN (fun _ _ _ hd => op_cloZ hd rfl G hi hf hx hr hz) h

/-! ### Type assertions on data -/
def nifT (P : Program) (t : TypeId) : Bool := match P.underlying t with
  | some d => notIface d
  | none => false
/-- The zero value of a type, of one cell. -/
def zer1 (P : Program) (t : TypeId) : Option Value := match P.info? t with
  | some i => i.zero
  | none => none
theorem run_zer1 {t : TypeId} {z : Value} (h : zer1 P t = some z) (w : World) : (zeroValue t).run P w = .ok z w := by
  unfold zer1 at h
  split at h
  · rename_i i hi
    simp [zeroValue, typeInfo, hi, h, Result.andThen]
  · cases h
theorem op_taS {o : Oper} (hd : dstOk X.N o.dst = true) {x : Operand} {t T : TypeId} (ho : o.op = .typeAssert x t T true) {d : PD} (hx : s.ev x = .dat (.iface T d)) (ht : nifT P T = true) : OpS P X o s (s.put o.dst (.dat (.tup [d, .val (.bool true)]))) := by
  refine opS_value hd fun a w ρ hc => ?_
  have h1 := hc.ev x
  rw [hx] at h1
  unfold VR Rep at h1
  obtain ⟨u, e, hu⟩ := h1
  unfold nifT at ht
  split at ht
  · rename_i d' hd'
    refine ⟨.tuple #[u, .bool true], by simp [execOp, ho, e, run_ta_same hd' ht], ?_⟩
    unfold VR Rep
    refine ⟨[u, .bool true], rfl, ?_⟩
    unfold Reps
    refine ⟨u, _, rfl, hu, ?_⟩
    unfold Reps
    refine ⟨_, [], rfl, by unfold Rep; exact ⟨rfl, trivial⟩, by unfold Reps; rfl⟩
  · cases ht
theorem op_ta1 {o : Oper} (hd : dstOk X.N o.dst = true) {x : Operand} {t T : TypeId} (ho : o.op = .typeAssert x t T false) {d : PD} (hx : s.ev x = .dat (.iface T d)) (ht : nifT P T = true) : OpS P X o s (s.put o.dst (.dat d)) := by
  refine opS_value hd fun a w ρ hc => ?_
  have h1 := hc.ev x
  rw [hx] at h1
  unfold VR Rep at h1
  obtain ⟨u, e, hu⟩ := h1
  unfold nifT at ht
  split at ht
  · rename_i d' hd'
    exact ⟨u, by simp [execOp, ho, e, run_ta_same' hd' ht], by unfold VR; exact hu⟩
  · cases ht
theorem rep_zf {F : Nat → Prop} {z : Value} (hz : okB z = true) : Rep w F (.tup [.val z, .val (.bool false)]) (.tuple #[z, .bool false]) := by
  unfold Rep
  refine ⟨[z, .bool false], rfl, ?_⟩
  unfold Reps
  refine ⟨z, _, rfl, by unfold Rep; exact ⟨rfl, okB_ok hz⟩, ?_⟩
  unfold Reps
  refine ⟨_, [], rfl, by unfold Rep; exact ⟨rfl, trivial⟩, by unfold Reps; rfl⟩
theorem op_taO {o : Oper} (hd : dstOk X.N o.dst = true) {x : Operand} {t T u : TypeId} (ho : o.op = .typeAssert x t T true) {d : PD} (hx : s.ev x = .dat (.iface u d)) (hne : Nat.beq u T = false) (ht : nifT P T = true) {z : Value} (hz : zer1 P T = some z) (hk : okB z = true) : OpS P X o s (s.put o.dst (.dat (.tup [.val z, .val (.bool false)]))) := by
  refine opS_value hd fun a w ρ hc => ?_
  have h1 := hc.ev x
  rw [hx] at h1
  unfold VR Rep at h1
  obtain ⟨q, e, hu⟩ := h1
  have hne' : u ≠ T := fun e => by rw [e] at hne; simp at hne
  unfold nifT at ht
  split at ht
  · rename_i d' hd'
    exact ⟨.tuple #[z, .bool false], by simp [execOp, ho, e, run_ta_other hd' ht (run_zer1 hz w) hne'], by unfold VR; exact rep_zf hk⟩
  · cases ht
theorem op_taN {o : Oper} (hd : dstOk X.N o.dst = true) {x : Operand} {t T : TypeId} (ho : o.op = .typeAssert x t T true) (hx : s.ev x = .dat (.val .nilIface)) (ht : nifT P T = true) {z : Value} (hz : zer1 P T = some z) (hk : okB z = true) : OpS P X o s (s.put o.dst (.dat (.tup [.val z, .val (.bool false)]))) := by
  refine opS_value hd fun a w ρ hc => ?_
  have h1 := hc.ev x
  rw [hx] at h1
  unfold VR Rep at h1
  unfold nifT at ht
  split at ht
  · rename_i d' hd'
    exact ⟨.tuple #[z, .bool false], by simp [execOp, ho, h1.1, run_ta_nil hd' ht (run_zer1 hz w)], by unfold VR; exact rep_zf hk⟩
  · cases ht
theorem k_taS {d : Nat} {x : Operand} {t T : Nat} {p : PD} (hN : Nat.blt d N = true) (hx : s.ev x = .dat (.iface T p)) (ht : nifT P T = true) (h : Run P X N Q (.ops ops rem :: ks) (s.put (some d) (.dat (.tup [p, .val (.bool true)])))) : RunK P X N Q ops rem ks (some d) (.typeAssert x t T true) s := k_of hN (fun _ _ _ hd => op_taS hd rfl hx ht) h
theorem d_taS {ops : List Oper} {d : Nat} {x : Operand} {t T : Nat} {p : PD} (hN : Nat.blt d N = true) (hx : s.ev x = .dat (.iface T p)) (ht : nifT P T = true) : TrK P X N ops (some d) (.typeAssert x t T true) (Eff.put (some d) (.dat (.tup [p, .val (.bool true)]))) s (s.put (some d) (.dat (.tup [p, .val (.bool true)]))) := act_val hN fun s' _ _ _ _ hd hev htb => op_taS hd rfl ((hev _ (by simp [Op.operands])).trans hx) ht
theorem k_ta1 {d : Nat} {x : Operand} {t T : Nat} {p : PD} (hN : Nat.blt d N = true) (hx : s.ev x = .dat (.iface T p)) (ht : nifT P T = true) (h : Run P X N Q (.ops ops rem :: ks) (s.put (some d) (.dat p))) : RunK P X N Q ops rem ks (some d) (.typeAssert x t T false) s := k_of hN (fun _ _ _ hd => op_ta1 hd rfl hx ht) h
theorem d_ta1 {ops : List Oper} {d : Nat} {x : Operand} {t T : Nat} {p : PD} (hN : Nat.blt d N = true) (hx : s.ev x = .dat (.iface T p)) (ht : nifT P T = true) : TrK P X N ops (some d) (.typeAssert x t T false) (Eff.put (some d) (.dat p)) s (s.put (some d) (.dat p)) := act_val hN fun s' _ _ _ _ hd hev htb => op_ta1 hd rfl ((hev _ (by simp [Op.operands])).trans hx) ht
theorem k_taO {d : Nat} {x : Operand} {t T u : Nat} {p : PD} {z : Value} (hN : Nat.blt d N = true) (hx : s.ev x = .dat (.iface u p)) (hne : Nat.beq u T = false) (ht : nifT P T = true) (hz : zer1 P T = some z) (hk : okB z = true) (h : Run P X N Q (.ops ops rem :: ks) (s.put (some d) (.dat (.tup [.val z, .val (.bool false)])))) : RunK P X N Q ops rem ks (some d) (.typeAssert x t T true) s := k_of hN (fun _ _ _ hd => op_taO hd rfl hx hne ht hz hk) h
theorem d_taO {ops : List Oper} {d : Nat} {x : Operand} {t T u : Nat} {p : PD} {z : Value} (hN : Nat.blt d N = true) (hx : s.ev x = .dat (.iface u p)) (hne : Nat.beq u T = false) (ht : nifT P T = true) (hz : zer1 P T = some z) (hk : okB z = true) : TrK P X N ops (some d) (.typeAssert x t T true) (Eff.put (some d) (.dat (.tup [.val z, .val (.bool false)]))) s (s.put (some d) (.dat (.tup [.val z, .val (.bool false)]))) := act_val hN fun s' _ _ _ _ hd hev htb => op_taO hd rfl ((hev _ (by simp [Op.operands])).trans hx) hne ht hz hk
theorem k_taN {d : Nat} {x : Operand} {t T : Nat} {z : Value} (hN : Nat.blt d N = true) (hx : s.ev x = .dat (.val .nilIface)) (ht : nifT P T = true) (hz : zer1 P T = some z) (hk : okB z = true) (h : Run P X N Q (.ops ops rem :: ks) (s.put (some d) (.dat (.tup [.val z, .val (.bool false)])))) : RunK P X N Q ops rem ks (some d) (.typeAssert x t T true) s := k_of hN (fun _ _ _ hd => op_taN hd rfl hx ht hz hk) h
theorem d_taN {ops : List Oper} {d : Nat} {x : Operand} {t T : Nat} {z : Value} (hN : Nat.blt d N = true) (hx : s.ev x = .dat (.val .nilIface)) (ht : nifT P T = true) (hz : zer1 P T = some z) (hk : okB z = true) : TrK P X N ops (some d) (.typeAssert x t T true) (Eff.put (some d) (.dat (.tup [.val z, .val (.bool false)]))) s (s.put (some d) (.dat (.tup [.val z, .val (.bool false)]))) := act_val hN fun s' _ _ _ _ hd hev htb => op_taN hd rfl ((hev _ (by simp [Op.operands])).trans hx) ht hz hk

/-! ### Deferred calls that only make memory -/
/-- A function that makes memory at most, whatever its arguments are. -/
def Idle (P : Program) (f : FuncId) (n : Nat) : Prop := callable P f = true ∧ ∀ (vs : List Value) (u : FrameMode) (w : World), vs.length = n → CallsD P f vs.toArray u w fun e u' w' => u' = u ∧ (∃ v, e = .returned v) ∧ Below w.heap.size w w'
theorem ConcAt.defer (h : ConcAt X s a w ρ) {d : Deferred} (hd : Harmless X.P d) : ConcAt X s { a with defers := d :: a.defers } w ρ :=
  ⟨h.size, fun d' hd' => (List.mem_cons.1 hd').elim (fun e => e ▸ hd) (h.defers d'), h.below, h.tmps, h.blks, h.apart, h.lent⟩
theorem run_deferA {i : Nat} {ty : TypeId} {pos : String} {aft : Array Edge} {T : TypeId} {name : String} {f : FuncId} {c : Operand} {x : AV} {xs : List Operand} {ts : Array TypeId} (ho : ops[i]? = some ⟨none, .defer { callee := .invoke c name, args := xs.toArray, argTypes := ts }, ty, pos, aft, none⟩)
    (hi : ifcA (s.ev c) = some (T, x)) [hm : MI P T name f none] (hf : Idle P f (xs.length + 1)) (h : Run P X N Q (.ops ops rem :: ks) s) : Run P X N Q (.ops ops (i :: rem) :: ks) s := run_pick ho ⟨fun hX a w ⟨ρ, hc⟩ => by
  obtain ⟨v, e, hv⟩ := ifcA_spec hi (hc.ev c)
  have hrun : (execOp a.eval ⟨none, .defer { callee := .invoke c name, args := xs.toArray, argTypes := ts }, ty, pos, aft, none⟩).run P w = .ok (.defer { target := .fn (.method name) #[], args := #[.iface T v] ++ (xs.map a.eval).toArray }) w := by
    simp [execOp, resolve, e, Result.andThen]
  unfold Oper.wp
  rw [hrun, Oper.upon_defer]
  refine h.out hX _ _ ⟨ρ, (hc.defer ?_).put_none .any undef⟩
  rw [hX.2]
  refine ⟨.method name, #[], f, (v :: xs.map a.eval).toArray, rfl, fun w' => ?_, fun u w' => ?_⟩
  · simp [invoke, callMethod, run_method_same hm.out (show 0 < P.types.size + Made.depth by unfold Made.depth; omega), run_callFunc hf.1, Result.andThen, List.take_of_length_le]
  · exact hf.2 _ u w' (by simp)⟩

theorem d_deferA {ops : List Oper} {T : TypeId} {name : String} {f : FuncId} {c : Operand} {x : AV} {xs : List Operand} {ts : Array TypeId} (hi : ifcA (s.ev c) = some (T, x)) [hm : MI P T name f none] (hf : Idle P f (xs.length + 1)) :
    TrK P X N ops none (.defer { callee := .invoke c name, args := xs.toArray, argTypes := ts }) ⟨none, none, none⟩ s s := ⟨fun hX ty pos aft g s' hA => by
  intro a w ⟨ρ, hc⟩ K Q hK
  have hev : s'.ev c = s.ev c := ev_alike hA (by simp [Op.operands, Call.operands])
  obtain ⟨v, e, hv⟩ := ifcA_spec (by rw [hev]; exact hi) (hc.ev c)
  have hrun : (execOp a.eval ⟨none, .defer { callee := .invoke c name, args := xs.toArray, argTypes := ts }, ty, pos, aft, g⟩).run P w = .ok (.defer { target := .fn (.method name) #[], args := #[.iface T v] ++ (xs.map a.eval).toArray }) w := by
    simp [execOp, resolve, e, Result.andThen]
  unfold Oper.wp
  rw [hrun, Oper.upon_defer]
  refine hK _ _ ⟨ρ, (hc.defer ?_).put_none .any undef⟩
  rw [hX.2]
  refine ⟨.method name, #[], f, (v :: xs.map a.eval).toArray, rfl, fun w' => ?_, fun u w' => ?_⟩
  · simp [invoke, callMethod, run_method_same hm.out (show 0 < P.types.size + Made.depth by unfold Made.depth; omega), run_callFunc hf.1, Result.andThen, List.take_of_length_le]
  · exact hf.2 _ u w' (by simp), rfl⟩
theorem k_deferA {T : TypeId} {name : String} {f : FuncId} {c : Operand} {x : AV} {xs : List Operand} {ts : Array TypeId} (hi : ifcA (s.ev c) = some (T, x)) [hm : MI P T name f none] (hf : Idle P f (xs.length + 1)) (h : Run P X N Q (.ops ops rem :: ks) s) :
    RunK P X N Q ops rem ks none (.defer { callee := .invoke c name, args := xs.toArray, argTypes := ts }) s := ⟨fun ty pos aft => ⟨fun hX a w ⟨ρ, hc⟩ => by
  obtain ⟨v, e, hv⟩ := ifcA_spec hi (hc.ev c)
  have hrun : (execOp a.eval ⟨none, .defer { callee := .invoke c name, args := xs.toArray, argTypes := ts }, ty, pos, aft, none⟩).run P w = .ok (.defer { target := .fn (.method name) #[], args := #[.iface T v] ++ (xs.map a.eval).toArray }) w := by
    simp [execOp, resolve, e, Result.andThen]
  unfold Oper.wp
  rw [hrun, Oper.upon_defer]
  refine h.out hX _ _ ⟨ρ, (hc.defer ?_).put_none .any undef⟩
  rw [hX.2]
  refine ⟨.method name, #[], f, (v :: xs.map a.eval).toArray, rfl, fun w' => ?_, fun u w' => ?_⟩
  · simp [invoke, callMethod, run_method_same hm.out (show 0 < P.types.size + Made.depth by unfold Made.depth; omega), run_callFunc hf.1, Result.andThen, List.take_of_length_le]
  · exact hf.2 _ u w' (by simp)⟩⟩

/-! ### In a drawn region: a call to which one block is lent -/
theorem d_acallB (θ : Nat → Nat) {ops : List Oper} {d f k : Nat} {xs : List Operand} {ts : Array TypeId} {az : List AV} {b b' : Blk} {out : AV} (hN : Nat.blt d N = true) (hf : callable P f = true) (hr : ACall1 P f az [(1000, b)] out [(1000, b')]) (hx : xs.map s.ev = renAs θ az) (hk : θ 1000 = k)
    (htb : s.tb k = some (renB θ b)) (hok1 : lendOk1 θ az [(1000, b)] = true) (hok : lendOk2 θ [(1000, b)] [(1000, b')] = true) :
    TrK P X N ops (some d) (.call { callee := .value (.func f), args := xs.toArray, argTypes := ts }) ⟨none, some (k, renB θ b'), some (d, renA θ out)⟩ s ((s.set k (renB θ b')).put (some d) (renA θ out)) := ⟨fun hX ty pos aft g s' hA => by
  have hev : xs.map s'.ev = renAs θ az := by rw [map_alike (fun x hx => ev_alike hA (by simp [Op.operands, Call.operands, hx]))]; exact hx
  have htb' : s'.tb k = some (renB θ b) := (new_alike hA rfl).trans htb
  intro a w ⟨ρ, hc⟩ K Q hK
  have hcall := hc.acall hX.2 θ hr (by refine ⟨?_, trivial⟩; rw [hk]; exact htb') (fun _ => ⟨.inl rfl, trivial⟩) hok1 (fun _ => hok) (vs := xs.map a.eval) (by rw [← hev]; exact VRs_args hc rfl)
  refine run_enter hf (vs := xs.map a.eval) (by simp [execOp, resolve, Deferred.ofValue, Act.eval, invoke, run_callFunc hf]) (R := fun v w' => ∃ ρ', ConcAt X (s'.lend θ [(1000, b')]) a w' ρ' ∧ VR w' (FF X w' (s'.lend θ [(1000, b')]).tb ρ') (s'.lend θ [(1000, b')]).tb ρ' (renA θ out) v) (hcall.mono ?_) ?_
  · rintro e w' ⟨v, i, ρ', he, h1, h2⟩
    exact ⟨v, he, ρ', h1, h2⟩
  · rintro v w' ⟨ρ', h1, h2⟩
    refine hK _ _ ?_
    have := h1.putO (d := some d) (hN_ok hN hX) h2
    refine ⟨ρ', ?_⟩
    have e : ((s'.lend θ [(1000, b')]).put (some d) (renA θ out)) = (Eff.mk none (some (k, renB θ b')) (some (d, renA θ out))).app s' := by
      subst hk; rfl
    rw [← e]; exact this, rfl⟩
theorem k_acallB (θ : Nat → Nat) {d f k : Nat} {xs : List Operand} {ts : Array TypeId} {az : List AV} {b b' : Blk} {out : AV} (hN : Nat.blt d N = true) (hf : callable P f = true) (hr : ACall1 P f az [(1000, b)] out [(1000, b')]) (hx : xs.map s.ev = renAs θ az) (hk : θ 1000 = k)
    (htb : s.tb k = some (renB θ b)) (hok1 : lendOk1 θ az [(1000, b)] = true) (hok : lendOk2 θ [(1000, b)] [(1000, b')] = true) (h : Run P X N Q (.ops ops rem :: ks) ((s.set k (renB θ b')).put (some d) (renA θ out))) :
    RunK P X N Q ops rem ks (some d) (.call { callee := .value (.func f), args := xs.toArray, argTypes := ts }) s :=
  k_acall1 θ hN hf hr hx ⟨by rw [hk]; exact htb, trivial⟩ hok1 ⟨.inl rfl, trivial⟩ hok (by subst hk; exact h)

/-! ### Interface values of own memory; nil checks of interface values; numbers -/
theorem op_ifaceA {o : Oper} (hd : dstOk X.N o.dst = true) {t : TypeId} {x : Operand} (ho : o.op = .makeInterface t x) {y : AV} (hx : s.ev x = y) (ht : concT P t = true) : OpS P X o s (s.put o.dst (.iface t y)) := by
  refine opS_value hd fun a w ρ hc => ⟨.iface t (a.eval x), ?_, ?_⟩
  · unfold concT at ht
    split at ht
    · cases ht
    · rename_i d2 hne hu
      cases d2 <;> first | (simp [execOp, ho, Instr.makeInterface, run_underlying hu]; done) | exact (hne _ rfl).elim
    · cases ht
  · have h1 := hc.ev x
    rw [hx] at h1
    unfold VR
    exact ⟨_, rfl, h1⟩
theorem k_ifaceP {d : Nat} {x : Operand} {t k off : Nat} (hN : Nat.blt d N = true) (hx : s.ev x = .ptr k off) (ht : concT P t = true) (h : Run P X N Q (.ops ops rem :: ks) (s.put (some d) (.iface t (.ptr k off)))) : RunK P X N Q ops rem ks (some d) (.makeInterface t x) s := k_of hN (fun _ _ _ hd => op_ifaceA hd rfl hx ht) h
theorem d_ifaceP {ops : List Oper} {d : Nat} {x : Operand} {t k off : Nat} (hN : Nat.blt d N = true) (hx : s.ev x = .ptr k off) (ht : concT P t = true) : TrK P X N ops (some d) (.makeInterface t x) (Eff.put (some d) (.iface t (.ptr k off))) s (s.put (some d) (.iface t (.ptr k off))) := act_val hN fun s' _ _ _ _ hd hev htb => op_ifaceA hd rfl ((hev _ (by simp [Op.operands])).trans hx) ht
theorem op_nilI {o : Oper} (hd : dstOk X.N o.dst = true) {x : Operand} (ho : o.op = .nilCheck x) {t : TypeId} {y : PD} (hx : s.ev x = .dat (.iface t y)) : OpS P X o s (s.put o.dst (.dat (.iface t y))) := by
  refine opS_value hd fun a w ρ hc => ?_
  have h1 := hc.ev x
  rw [hx] at h1
  unfold VR Rep at h1
  obtain ⟨u, e, hu⟩ := h1
  exact ⟨.iface t u, by simp [execOp, ho, e], by unfold VR Rep; exact ⟨u, rfl, hu⟩⟩
theorem k_nilI {d : Nat} {x : Operand} {t : TypeId} {y : PD} (hN : Nat.blt d N = true) (hx : s.ev x = .dat (.iface t y)) (h : Run P X N Q (.ops ops rem :: ks) (s.put (some d) (.dat (.iface t y)))) : RunK P X N Q ops rem ks (some d) (.nilCheck x) s := k_of hN (fun _ _ _ hd => op_nilI hd rfl hx) h
theorem d_nilI {ops : List Oper} {d : Nat} {x : Operand} {t : TypeId} {y : PD} (hN : Nat.blt d N = true) (hx : s.ev x = .dat (.iface t y)) : TrK P X N ops (some d) (.nilCheck x) (Eff.put (some d) (.dat (.iface t y))) s (s.put (some d) (.dat (.iface t y))) := act_val hN fun s' _ _ _ _ hd hev htb => op_nilI hd rfl ((hev _ (by simp [Op.operands])).trans hx)
theorem op_assignX {o : Oper} (hd : dstOk X.N o.dst = true) {x : Operand} (ho : o.op = .assign x) {t : TypeId} {y : AV} (hx : s.ev x = .iface t y) : OpS P X o s (s.put o.dst (.iface t y)) := op_assign hd ho hx
theorem k_assignI {d : Nat} {x : Operand} {t : TypeId} {y : AV} (hN : Nat.blt d N = true) (hx : s.ev x = .iface t y) (h : Run P X N Q (.ops ops rem :: ks) (s.put (some d) (.iface t y))) : RunK P X N Q ops rem ks (some d) (.assign x) s := k_of hN (fun _ _ _ hd => op_assign hd rfl hx) h
theorem d_assignI {ops : List Oper} {d : Nat} {x : Operand} {t : TypeId} {y : AV} (hN : Nat.blt d N = true) (hx : s.ev x = .iface t y) : TrK P X N ops (some d) (.assign x) (Eff.put (some d) (.iface t y)) s (s.put (some d) (.iface t y)) := act_val hN fun s' _ _ _ _ hd hev htb => op_assign hd rfl ((hev _ (by simp [Op.operands])).trans hx)
theorem k_moveI {d : Nat} {x : Operand} {t : TypeId} {y : AV} (hN : Nat.blt d N = true) (hx : s.ev x = .iface t y) (h : Run P X N Q (.ops ops rem :: ks) (s.put (some d) (.iface t y))) : RunK P X N Q ops rem ks (some d) (.move x) s := k_of hN (fun _ _ _ hd => op_move hd rfl hx) h
theorem d_moveI {ops : List Oper} {d : Nat} {x : Operand} {t : TypeId} {y : AV} (hN : Nat.blt d N = true) (hx : s.ev x = .iface t y) : TrK P X N ops (some d) (.move x) (Eff.put (some d) (.iface t y)) s (s.put (some d) (.iface t y)) := act_val hN fun s' _ _ _ _ hd hev htb => op_move hd rfl ((hev _ (by simp [Op.operands])).trans hx)
theorem k_moveC {d : Nat} {x : Operand} {f : Nat} {l : List AV} (hN : Nat.blt d N = true) (hx : s.ev x = .clo f l) (h : Run P X N Q (.ops ops rem :: ks) (s.put (some d) (.clo f l))) : RunK P X N Q ops rem ks (some d) (.move x) s := k_of hN (fun _ _ _ hd => op_move hd rfl hx) h
theorem d_moveC {ops : List Oper} {d : Nat} {x : Operand} {f : Nat} {l : List AV} (hN : Nat.blt d N = true) (hx : s.ev x = .clo f l) : TrK P X N ops (some d) (.move x) (Eff.put (some d) (.clo f l)) s (s.put (some d) (.clo f l)) := act_val hN fun s' _ _ _ _ hd hev htb => op_move hd rfl ((hev _ (by simp [Op.operands])).trans hx)
theorem k_loadBC {d : Nat} {x : Operand} {t k off T n : Nat} {cs : List AV} {g : Bool} {f : Nat} {l : List AV} (hN : Nat.blt d N = true) (hx : s.ev x = .ptr k off) (hk : s.tb k = some (.box T cs)) [ht : VI P t n g] (hf : subA g n off cs = some (.clo f l)) (h : Run P X N Q (.ops ops rem :: ks) (s.put (some d) (.clo f l))) : RunK P X N Q ops rem ks (some d) (.load t x) s := k_of hN (fun _ _ _ hd => op_loadB hd rfl hx hk ht.out hf) h
/-- Items of a made-up tuple with own parts. -/
theorem op_extractA {o : Oper} (hd : dstOk X.N o.dst = true) {x : Operand} {i : Nat} (ho : o.op = .extract x i) {l : List AV} (hx : s.ev x = .tup l) {y : AV} (hl : l[i]? = some y) : OpS P X o s (s.put o.dst y) := by
  refine opS_value hd fun a w ρ hc => ?_
  have h1 := hc.ev x
  rw [hx] at h1
  unfold VR at h1
  obtain ⟨vs, e, h2⟩ := h1
  obtain ⟨u, hu, hv⟩ := h2.at_ hl
  exact ⟨u, by simp [execOp, ho, e, Instr.extract, hu], hv⟩
theorem k_extractI {d : Nat} {x : Operand} {i : Nat} {l : List AV} {t : TypeId} {y : AV} (hN : Nat.blt d N = true) (hx : s.ev x = .tup l) (hl : l[i]? = some (.iface t y)) (h : Run P X N Q (.ops ops rem :: ks) (s.put (some d) (.iface t y))) : RunK P X N Q ops rem ks (some d) (.extract x i) s := k_of hN (fun _ _ _ hd => op_extractA hd rfl hx hl) h
theorem k_extractD {d : Nat} {x : Operand} {i : Nat} {l : List AV} {y : PD} (hN : Nat.blt d N = true) (hx : s.ev x = .tup l) (hl : l[i]? = some (.dat y)) (h : Run P X N Q (.ops ops rem :: ks) (s.put (some d) (.dat y))) : RunK P X N Q ops rem ks (some d) (.extract x i) s := k_of hN (fun _ _ _ hd => op_extractA hd rfl hx hl) h
theorem k_moveT {d : Nat} {x : Operand} {l : List AV} (hN : Nat.blt d N = true) (hx : s.ev x = .tup l) (h : Run P X N Q (.ops ops rem :: ks) (s.put (some d) (.tup l))) : RunK P X N Q ops rem ks (some d) (.move x) s := k_of hN (fun _ _ _ hd => op_move hd rfl hx) h
/-- Floating-point numbers. -/
def fltC (k : FloatKind) : BinOp → Nat → Nat → Option Bool
  | .eql, a, b => some (k.format.order a b == some .eq)
  | .neq, a, b => some (k.format.order a b != some .eq)
  | .lss, a, b => some (k.format.order a b == some .lt)
  | .leq, a, b => some (k.format.order a b == some .lt || k.format.order a b == some .eq)
  | .gtr, a, b => some (k.format.order a b == some .gt)
  | .geq, a, b => some (k.format.order a b == some .gt || k.format.order a b == some .eq)
  | _, _, _ => none
theorem run_fltC {op : BinOp} {k : FloatKind} {a b : Nat} {r : Bool} (h : fltC k op a b = some r) (t : TypeId) (x y : Operand) (w : World) : (do eqGuard op t x y (.float k a) (.float k b); binOp op t (.float k a) (.float k b) : Sem Value).run P w = .ok (.bool r) w := by
  unfold fltC at h
  split at h <;> first | cases h | skip
  all_goals simp [eqGuard, binOp, Op.floatCmp, go_sem]
theorem op_fltC {o : Oper} (hd : dstOk X.N o.dst = true) {op : BinOp} {t t' : TypeId} {x y : Operand} (ho : o.op = .binOp op t x y t') {k : FloatKind} {a b : Nat} {r : Bool} (hx : s.ev x = .dat (.val (.float k a))) (hy : s.ev y = .dat (.val (.float k b))) (hr : fltC k op a b = some r) : OpS P X o s (s.put o.dst (.dat (.val (.bool r)))) :=
  op_bin hd ho hx hy (run_fltC hr t x y) trivial
theorem k_fltC {d : Nat} {x y : Operand} {op : BinOp} {t t' : Nat} {k : FloatKind} {a b : Nat} {r : Bool} (hN : Nat.blt d N = true) (hx : s.ev x = .dat (.val (.float k a))) (hy : s.ev y = .dat (.val (.float k b))) (hr : fltC k op a b = some r) (h : Run P X N Q (.ops ops rem :: ks) (s.put (some d) (.dat (.val (.bool r))))) : RunK P X N Q ops rem ks (some d) (.binOp op t x y t') s := k_of hN (fun _ _ _ hd => op_fltC hd rfl hx hy hr) h
theorem d_fltC {ops : List Oper} {d : Nat} {x y : Operand} {op : BinOp} {t t' : Nat} {k : FloatKind} {a b : Nat} {r : Bool} (hN : Nat.blt d N = true) (hx : s.ev x = .dat (.val (.float k a))) (hy : s.ev y = .dat (.val (.float k b))) (hr : fltC k op a b = some r) : TrK P X N ops (some d) (.binOp op t x y t') (Eff.put (some d) (.dat (.val (.bool r)))) s (s.put (some d) (.dat (.val (.bool r)))) := act_val hN fun s' _ _ _ _ hd hev htb => op_fltC hd rfl ((hev _ (by simp [Op.operands])).trans hx) ((hev _ (by simp [Op.operands])).trans hy) hr
def fltT (P : Program) (t : TypeId) : Option FloatKind := match P.underlying t with
  | some (.float k) => some k
  | _ => none
theorem op_convF {o : Oper} (hd : dstOk X.N o.dst = true) {t t' : TypeId} {x : Operand} (ho : o.op = .convert t t' x) {k : IntKind} {q : FloatKind} {a : Int} (hx : s.ev x = .dat (.val (.int k a))) (ht0 : intT P t = some k) (ht : fltT P t' = some q) : OpS P X o s (s.put o.dst (.dat (.val (.float q (floatOfInt q a))))) := by
  refine opS_value hd fun a' w ρ hc => ⟨.float q (floatOfInt q a), ?_, by unfold VR Rep; exact ⟨rfl, floatOfInt_wf q a⟩⟩
  have h1 := hc.ev x
  rw [hx] at h1
  unfold VR Rep at h1
  unfold fltT at ht
  split at ht
  · rename_i q' hu
    cases ht
    unfold intT at ht0
    split at ht0
    · rename_i k' hu0
      simp [execOp, ho, h1.1, convert, run_underlying hu, run_underlying hu0, Conv.intToFloat]
      rfl
    · cases ht0
  · cases ht
theorem k_convF {d : Nat} {x : Operand} {t t' : Nat} {k : IntKind} {q : FloatKind} {a : Int} (hN : Nat.blt d N = true) (hx : s.ev x = .dat (.val (.int k a))) (ht0 : intT P t = some k) (ht : fltT P t' = some q) (h : Run P X N Q (.ops ops rem :: ks) (s.put (some d) (.dat (.val (.float q (floatOfInt q a)))))) : RunK P X N Q ops rem ks (some d) (.convert t t' x) s := k_of hN (fun _ _ _ hd => op_convF hd rfl hx ht0 ht) h
theorem d_convF {ops : List Oper} {d : Nat} {x : Operand} {t t' : Nat} {k : IntKind} {q : FloatKind} {a : Int} (hN : Nat.blt d N = true) (hx : s.ev x = .dat (.val (.int k a))) (ht0 : intT P t = some k) (ht : fltT P t' = some q) : TrK P X N ops (some d) (.convert t t' x) (Eff.put (some d) (.dat (.val (.float q (floatOfInt q a))))) s (s.put (some d) (.dat (.val (.float q (floatOfInt q a))))) := act_val hN fun s' _ _ _ _ hd hev htb => op_convF hd rfl ((hev _ (by simp [Op.operands])).trans hx) ht0 ht
end
end Go.Proofs.Ytlghpcokbppkfaa
