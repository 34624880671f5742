/- Part 7 of what the proof rests on. -/
import Derived.Laws.FloatArith
import Derived.Test.YtbbacpdbbmjblaaGreatFeD3
import Derived.Test.YtbbacpdbbmjblaaGreatFeD4
import Derived.Test.YtbbacpdbbmjblaaGreatFeD5
import Derived.Test.YtbbacpdbbmjblaaGreatFeD6
section
set_option linter.unusedVariables false
namespace Go.Proofs.YtbbacpdbbmjblaaGreat
open Go.RowKit
set_option linter.unusedSimpArgs false
section
variable {P : Program} {X : Base} {N : Nat} {Q : Exit → Act → World → Prop} {ops : Array Oper} {rem : List Nat} {ks : List Itm} {s s' : Sta} {a : Act} {w w' : World} {ρ : Nat → RV}
theorem ConcAt.frzVR (h : ConcAt X s a w ρ) (G K : Nat → Bool) : (∀ (x : AV) {v : Value}, VR w (FF X w s.tb ρ) s.tb ρ x v → VR w (FF X w (s.frz G K).tb ρ) (s.frz G K).tb ρ (frzA G K s.tb x) v) ∧
    ∀ (l : List AV) {vs : List Value}, VRs w (FF X w s.tb ρ) s.tb ρ l vs → VRs w (FF X w (s.frz G K).tb ρ) (s.frz G K).tb ρ (frzAs G K s.tb l) vs := by
  have hlv : ∀ k, liveB ((s.frz G K).tb k) = true → liveB (s.tb k) = true := by
    intro k hk
    simp only [Sta.frz] at hk
    split at hk
    · cases hk
    · cases hx : s.tb k with
      | none => rw [hx] at hk; cases hk
      | some x => rw [hx] at hk; cases x <;> first | rfl | cases hk
  have hlK : ∀ k, K k = true → liveB ((s.frz G K).tb k) = false := by
    intro k hK
    simp [Sta.frz, hK, liveB]
  have hs : ∀ b, FF X w s.tb ρ b → FF X w (s.frz G K).tb ρ b := fun b hb => ⟨hb.1, hb.2.1, fun k hk => hb.2.2 k (hlv k hk)⟩
  have hnew : ∀ k x b, s.tb k = some x → x.live = true → K k = true → (ρ k).fp b → FF X w (s.frz G K).tb ρ b := by
    intro k x b hk hl hK hb
    obtain ⟨h1, h2⟩ := h.rowBlk hk hl hb
    refine ⟨.inr h1, h2, fun k' hk' e' => ?_⟩
    have := h.apart k' k b (hlv k' hk') (by rw [hk]; exact hl) e' hb
    subst this
    rw [hlK k' hK] at hk'; cases hk'
  have hown : ∀ k v, VR w (FF X w s.tb ρ) s.tb ρ (.own k) v → K k = true → VR w (FF X w (s.frz G K).tb ρ) (s.frz G K).tb ρ (frzA G K s.tb (.own k)) v := by
    intro k v hv hK
    unfold frzA
    rw [if_pos hK]
    unfold VR at hv
    rcases hv.2 with ⟨x, hk, hkd, e⟩ | hk
    · subst e
      rw [hk]
      cases x with
      | box t cs => simp [Blk.kind] at hkd
      | dead => simp [Blk.kind] at hkd
      | res R =>
        obtain ⟨h1, h2⟩ := h.blks k _ hk
        simp only
        unfold VR
        exact R.frz _ _ _ _ _ hs (fun b hb => hnew k _ b hk rfl hK hb) h1
      | row e n y l =>
        obtain ⟨xs, h0, hm, h1, h2, h3, h4⟩ := h.blks k _ hk
        simp only
        unfold VR Rep
        rcases h1.2 with ⟨e1, e2⟩ | ⟨g, cap, cur, e1, hB, hg, hc1, _, hc2, hc3⟩
        · exact ⟨none, 0, by rw [e1, e2], by omega, h3, h4, .inl (List.eq_nil_of_length_eq_zero e2)⟩
        · refine ⟨some ⟨g, 0, none⟩, cap, e1, hc1, h3, h4, .inr ⟨g, 0, hnew k _ g hk rfl hK (by rw [h0, e1]; rfl), rfl, ?_⟩⟩
          refine (h2.keep (fun _ _ => rfl) hs).lies fun j u hj => ?_
          rw [cell_of_row w g (0 + j) _ _ _ hg]
          rw [← hc3, List.getElem?_take] at hj
          split at hj
          · simpa using hj
          · cases hj
    · rw [hk]; unfold VR; trivial
  have hptr : ∀ k off v, VR w (FF X w s.tb ρ) s.tb ρ (.ptr k off) v → K k = true → VR w (FF X w (s.frz G K).tb ρ) (s.frz G K).tb ρ (frzP G off (s.tb k)) v := by
    intro k off v hv hK
    unfold VR at hv
    obtain ⟨t, cs, b, h1, h2, rfl⟩ := hv
    obtain ⟨b', vs, h2', hB, hb, hvs, hone⟩ := h.blks k _ h1
    have hρ2 : Value.pointer (some ⟨b, 0, none⟩) = .pointer (some ⟨b', 0, none⟩) := h2.symm.trans (congrArg RV.v h2')
    simp only [Value.pointer.injEq, Option.some.injEq, Addr.mk.injEq, and_true] at hρ2
    subst hρ2
    rw [h1]
    unfold frzP
    simp only
    split
    · rename_i ds hds
      rw [allD_spec hds] at hvs
      have hF' : FF X w (s.frz G K).tb ρ b := hnew k _ b h1 rfl hK (by rw [h2']; rfl)
      have hr := Reps.keep (w' := w) (fun _ _ => rfl) hs ds hvs.dat
      have hl := lies_block hb 0
      split
      · unfold VR Rep
        refine ⟨b, 0, .agg vs.toArray, rfl, hF', ?_, by simpa [Value.cells] using hl⟩
        unfold Rep
        exact ⟨vs, rfl, hr, hone⟩
      · split
        · rename_i d
          unfold Reps at hr
          obtain ⟨u, r', rfl, hu, hr'⟩ := hr
          unfold Reps at hr'
          subst hr'
          unfold VR Rep
          exact ⟨b, 0, u, rfl, hF', hu, by rw [one_toList (hone u (by simp))]; simpa using hl⟩
        · unfold VR; trivial
    · unfold VR; trivial
  have hkeep : ∀ k x, s.tb k = some x → K k = false → (s.frz G K).tb k = some (frzB G K s.tb x) := fun k x hx hK => by simp [Sta.frz, hx, hK]
  exact ⟨fun x v hv => frz_A hs hown hptr hkeep x hv, fun l vs hv => frz_As hs hown hptr hkeep l hv⟩
def allK : Nat → Bool := fun _ => true
/-- Data without memory behind it. -/
def Flat (r : PD) : Prop := ∀ (w w' : World) (F F' : Nat → Prop) (v : Value), Rep w F r v → Rep w' F' r v
theorem Flat.val {u : Value} : Flat (.val u) := fun w w' F F' v h => by unfold Rep at h ⊢; exact h
/-- The arguments of a call, some of which may be own memory; what comes back holds no memory. -/
theorem ConcAt.zcall (hc : ConcAt X s a w ρ) (G : Nat → Bool) {az : List AV} {vs : List Value} (hv : VRs w (FF X w s.tb ρ) s.tb ρ az vs) {ds : List PD} (hx : allD (frzAs G allK s.tb az) = some ds) {f : FuncId} {r : PD} (hr : PCall P f ds r) (hz : Flat r) :
    Calls P f vs.toArray w fun e w' => ∃ v, e = .returned v ∧ ConcAt X s a w' ρ ∧ VR w' (FF X w' s.tb ρ) s.tb ρ (.dat r) v := by
  have h1 := (hc.frzVR G allK).2 az hv
  rw [allD_spec hx] at h1
  refine (hr w _ vs (fun b hb => hb.2.1) h1.dat).mono ?_
  rintro e w' ⟨v, rfl, hb, hv'⟩
  exact ⟨v, rfl, hc.grow hb, by unfold VR; exact hz _ _ _ _ _ hv'⟩
/-- The same on data, whatever comes back. -/
theorem ConcAt.dcall (hc : ConcAt X s a w ρ) {az : List AV} {vs : List Value} (hv : VRs w (FF X w s.tb ρ) s.tb ρ az vs) {ds : List PD} (hx : allD az = some ds) {f : FuncId} {r : PD} (hr : PCall P f ds r) :
    Calls P f vs.toArray w fun e w' => ∃ v, e = .returned v ∧ ConcAt X s a w' ρ ∧ VR w' (FF X w' s.tb ρ) s.tb ρ (.dat r) v := by
  rw [allD_spec hx] at hv
  refine (hr w _ vs (fun b hb => hb.2.1) hv.dat).mono ?_
  rintro e w' ⟨v, rfl, hb, hv'⟩
  exact ⟨v, rfl, hc.grow hb, by unfold VR; exact hv'.keep (fun _ _ => rfl) (FF_new hb hc)⟩
mutual
theorem frz_alike (G : Nat → Bool) {tb tb' : Nat → Option Blk} : ∀ x : AV, (∀ k ∈ keysA x, tb' k = tb k) → frzA G allK tb' x = frzA G allK tb x
  | .any, _ => rfl
  | .dat _, _ => rfl
  | .ptr k off, h => by unfold frzA; rw [h k (by simp [keysA])]
  | .own k, h => by unfold frzA; rw [h k (by simp [keysA])]
  | .elt k n i off, h => by unfold frzA; rfl
  | .agg l, h => by unfold frzA; rw [frzs_alike G l (fun k hk => h k (by simpa [keysA] using hk))]
  | .tup l, h => by unfold frzA; rw [frzs_alike G l (fun k hk => h k (by simpa [keysA] using hk))]
  | .iface t x, h => by unfold frzA; rw [frz_alike G x (fun k hk => h k (by simpa [keysA] using hk))]
  | .clo f l, h => by unfold frzA; rw [frzs_alike G l (fun k hk => h k (by simpa [keysA] using hk))]
theorem frzs_alike (G : Nat → Bool) {tb tb' : Nat → Option Blk} : ∀ l : List AV, (∀ k ∈ keysAs l, tb' k = tb k) → frzAs G allK tb' l = frzAs G allK tb l
  | [], _ => rfl
  | x :: r, h => by unfold frzAs; rw [frz_alike G x (fun k hk => h k (by simp only [keysAs, List.mem_append]; exact .inl hk)), frzs_alike G r (fun k hk => h k (by simp only [keysAs, List.mem_append]; exact .inr hk))]
end
theorem keysAs_map {xs : List Operand} {k : Nat} : k ∈ keysAs (xs.map s.ev) → ∃ x ∈ xs, k ∈ keysA (s.ev x) := by
  induction xs with
  | nil => intro h; simp [keysAs] at h
  | cons x r ih =>
    intro h
    simp only [List.map_cons, keysAs, List.mem_append] at h
    rcases h with h | h
    · exact ⟨x, by simp, h⟩
    · obtain ⟨y, hy, hk⟩ := ih h
      exact ⟨y, by simp [hy], hk⟩
theorem frzs_ev (G : Nat → Bool) {xs : List Operand} (hev : ∀ x ∈ xs, s'.ev x = s.ev x) (htb : ∀ x ∈ xs, ∀ k ∈ keysA (s.ev x), s'.tb k = s.tb k) : frzAs G allK s'.tb (xs.map s'.ev) = frzAs G allK s.tb (xs.map s.ev) := by
  rw [map_alike hev]
  exact frzs_alike G _ fun k hk => by
    obtain ⟨x, hx, hk⟩ := keysAs_map hk
    exact htb x hx k hk
/-- From a call's outcome to an operation's. -/
theorem opS_enter {o : Oper} (hd : dstOk X.N o.dst = true) {f : FuncId} {r : AV} (h : ∀ a w ρ, ConcAt X s a w ρ → ∃ vs : List Value, (execOp a.eval o).run P w = .ok (.enter f vs.toArray) w ∧
    Calls P f vs.toArray w fun e w' => ∃ v, e = .returned v ∧ ConcAt X s a w' ρ ∧ VR w' (FF X w' s.tb ρ) s.tb ρ r v) : OpS P X o s (s.put o.dst r) := by
  intro a w ⟨ρ, hc⟩ K Q hK
  obtain ⟨vs, he, hcall⟩ := h a w ρ hc
  unfold Oper.wp
  rw [he]
  refine hcall.mono ?_
  rintro e w' ⟨v, rfl, hc', hv⟩
  exact hK _ _ ⟨ρ, hc'.putO hd hv⟩
theorem op_callZ {o : Oper} (hd : dstOk X.N o.dst = true) {f : FuncId} {xs : List Operand} {ts : Array TypeId} (ho : o.op = .call { callee := .value (.func f), args := xs.toArray, argTypes := ts }) (G : Nat → Bool) (hf : callable P f = true)
    {ds : List PD} (hx : allD (frzAs G allK s.tb (xs.map s.ev)) = some ds) {r : PD} (hr : PCall P f ds r) (hz : Flat r) : OpS P X o s (s.put o.dst (.dat r)) :=
  opS_enter hd fun a w ρ hc => ⟨xs.map a.eval, by simp [execOp, ho, resolve, Deferred.ofValue, Act.eval, invoke, run_callFunc hf], hc.zcall G (VRs_args hc rfl) hx hr hz⟩
theorem k_callZ (G : Nat → Bool) {d f : Nat} {xs : List Operand} {ts : Array TypeId} {ds : List PD} {r : PD} (hN : Nat.blt d N = true) (hf : callable P f = true) (hx : allD (frzAs G allK s.tb (xs.map s.ev)) = some ds) (hr : PCall P f ds r) (hz : Flat r) (h : Run P X N Q (.ops ops rem :: ks) (s.put (some d) (.dat r))) :
    RunK P X N Q ops rem ks (some d) (.call { callee := .value (.func f), args := xs.toArray, argTypes := ts }) s := k_of hN (fun _ _ _ hd => op_callZ hd rfl G hf hx hr hz) h
theorem d_callZ {ops : List Oper} (G : Nat → Bool) {d f : Nat} {xs : List Operand} {ts : Array TypeId} {ds : List PD} {r : PD} (hN : Nat.blt d N = true) (hf : callable P f = true) (hx : allD (frzAs G allK s.tb (xs.map s.ev)) = some ds) (hr : PCall P f ds r) (hz : Flat r) :
    TrK P X N ops (some d) (.call { callee := .value (.func f), args := xs.toArray, argTypes := ts }) (Eff.put (some d) (.dat r)) s (s.put (some d) (.dat r)) := act_val hN fun s' _ _ _ _ hd hev htb => op_callZ hd rfl G hf (by rw [frzs_ev G (fun x hx => hev x (by simp [Op.operands, Call.operands, hx])) (fun x hx => htb x (by simp [Op.operands, Call.operands, hx]))]; exact hx) hr hz
/-- What the method of a type is: the function; for a value method called through a pointer, the type that is loaded. -/
def methI (P : Program) (T : TypeId) (name : String) : Option (FuncId × Option TypeId) :=
  match (P.info? T).bind fun i => i.methods.find? (·.name == name) with
  | some m => match m.path.toList, m.func, P.underlying T with
    | [], some (f, true), some (.pointer _) => some (f, none)
    | [], some (f, false), some (.pointer e) => some (f, some e)
    | [], some (f, false), some _ => some (f, none)
    | _, _, _ => none
  | none => none
theorem methI_spec {T : TypeId} {name : String} {f : FuncId} {q : Option TypeId} (h : methI P T name = some (f, q)) : ∃ i m u b, P.info? T = some i ∧ i.methods.find? (·.name == name) = some m ∧ m.path = #[] ∧ m.func = some (f, b) ∧ P.underlying T = some u ∧
    ((q = none ∧ ((b = true ∧ ∃ e, u = .pointer e) ∨ (b = false ∧ ∀ e, u ≠ .pointer e))) ∨ ∃ e, q = some e ∧ b = false ∧ u = .pointer e) := by
  unfold methI at h
  split at h
  · rename_i m hm
    obtain ⟨i, hi, hf⟩ := Option.bind_eq_some_iff.1 hm
    split at h
    · rename_i f' e h1 h2 h3
      simp only [Option.some.injEq, Prod.mk.injEq] at h
      exact ⟨i, m, _, true, hi, hf, Array.toList_eq_nil_iff.1 h1, by rw [h2, h.1], h3, .inl ⟨h.2.symm, .inl ⟨rfl, e, rfl⟩⟩⟩
    · rename_i f' e h1 h2 h3
      simp only [Option.some.injEq, Prod.mk.injEq] at h
      exact ⟨i, m, _, false, hi, hf, Array.toList_eq_nil_iff.1 h1, by rw [h2, h.1], h3, .inr ⟨e, h.2.symm, rfl, rfl⟩⟩
    · rename_i f' u h0 h1 h2 h3
      simp only [Option.some.injEq, Prod.mk.injEq] at h
      exact ⟨i, m, _, false, hi, hf, Array.toList_eq_nil_iff.1 h1, by rw [h2, h.1], h3, .inl ⟨h.2.symm, .inr ⟨rfl, fun e he => h0 e he⟩⟩⟩
    · cases h
  · cases h
theorem run_method_same {T : TypeId} {name : String} {f : FuncId} (h : methI P T name = some (f, none)) {n : Nat} (hn : 0 < n) (v : Value) (w : World) : (method n T v name).run P w = .ok (f, v) w := by
  obtain ⟨i, m, u, b, hi, hf, hp, hfn, hu, hq⟩ := methI_spec h
  obtain ⟨n, rfl⟩ : ∃ k, n = k + 1 := ⟨n - 1, by omega⟩
  rcases hq with ⟨_, ⟨rfl, e, rfl⟩ | ⟨rfl, he⟩⟩ | ⟨e, he, _⟩
  · simp [method, typeInfo, hi, hf, hp, hfn, follow, receiverAt, run_underlying hu, Place.get, Result.andThen]
  · cases u <;> simp [method, typeInfo, hi, hf, hp, hfn, follow, receiverAt, run_underlying hu, Place.get, Result.andThen]
    exact absurd rfl (he _)
  · cases he
theorem run_method_load {T e : TypeId} {name : String} {f : FuncId} (h : methI P T name = some (f, some e)) {n : Nat} (hn : 0 < n) {p : Addr} {u : Value} {w : World} (hl : (loadVar e p).run P w = .ok u w) : (method n T (.pointer (some p)) name).run P w = .ok (f, u) w := by
  obtain ⟨i, m, d, b, hi, hf, hp, hfn, hu, hq⟩ := methI_spec h
  obtain ⟨n, rfl⟩ : ∃ k, n = k + 1 := ⟨n - 1, by omega⟩
  have hwrap : ∀ nm : String, (Builtin.ssaWrapNilChk_ #[T] T #[.pointer (some p), strVal "", strVal nm]).run P w = .ok (.pointer (some p)) w := fun _ => rfl
  rcases hq with ⟨hq, _⟩ | ⟨e', he, rfl, rfl⟩
  · cases hq
  · cases he
    simp [method, typeInfo, hi, hf, hp, hfn, follow, receiverAt, run_underlying hu, Place.get, hwrap, Result.andThen, asAddr, hl]
class MI (P : Program) (T : Nat) (name : String) (f : outParam Nat) (q : outParam (Option Nat)) : Prop where
  out : methI P T name = some (f, q)
/-- The receiver: what lies in the interface value, and what the function is given. -/
def Recv (P : Program) (X : Base) (s : Sta) (T : TypeId) (name : String) (f : FuncId) (x y : AV) : Prop :=
  ∀ a w ρ, ConcAt X s a w ρ → ∀ v, VR w (FF X w s.tb ρ) s.tb ρ x v → ∃ u, (∀ n, 0 < n → (method n T v name).run P w = .ok (f, u) w) ∧ VR w (FF X w s.tb ρ) s.tb ρ y u
theorem Recv.same {T : TypeId} {name : String} {f : FuncId} {x : AV} (h : methI P T name = some (f, none)) : Recv P X s T name f x x := fun a w ρ hc v hv => ⟨v, fun n hn => run_method_same h hn v w, hv⟩
theorem Recv.loadD {T e : TypeId} {name : String} {f : FuncId} {d : PD} {n : Nat} {g : Bool} (h : methI P T name = some (f, some e)) [ht : VI P e n g] (hf : fitsD g n d = true) : Recv P X s T name f (.dat (.ptr d)) (.dat d) := by
  intro a w ρ hc v hv
  unfold VR Rep at hv
  obtain ⟨b, off, u, rfl, hF, hu, hl⟩ := hv
  have hrun : (loadVar e ⟨b, off, none⟩).run P w = .ok u w := by
    rcases fitsD_agg hf with ⟨rfl, l, rfl, hn⟩ | ⟨rfl, h1, h1'⟩
    · unfold Rep at hu
      obtain ⟨vs, rfl, hvs, _⟩ := hu
      exact run_loadVar_agg ht.out (by rw [hvs.length]; exact hn) (by simpa [Value.cells] using hl)
    · have hone := hu.one h1 h1'
      rw [one_toList hone] at hl
      exact run_loadVar_cell ht.out (by simpa using hl 0 u rfl)
  exact ⟨u, fun n hn => run_method_load h hn hrun, by unfold VR; exact hu⟩
def ifcA : AV → Option (TypeId × AV)
  | .iface T x => some (T, x)
  | .dat (.iface T d) => some (T, .dat d)
  | _ => none
theorem ifcA_spec {z : AV} {T : TypeId} {x : AV} (h : ifcA z = some (T, x)) {F : Nat → Prop} {tb : Nat → Option Blk} {v : Value} (hv : VR w F tb ρ z v) : ∃ u, v = .iface T u ∧ VR w F tb ρ x u := by
  unfold ifcA at h
  split at h
  · simp only [Option.some.injEq, Prod.mk.injEq] at h
    obtain ⟨rfl, rfl⟩ := h
    unfold VR at hv
    exact hv
  · simp only [Option.some.injEq, Prod.mk.injEq] at h
    obtain ⟨rfl, rfl⟩ := h
    unfold VR Rep at hv
    obtain ⟨u, e, hu⟩ := hv
    exact ⟨u, e, by unfold VR; exact hu⟩
  · cases h
theorem inv_enter {T : TypeId} {name : String} {f : FuncId} {c : Operand} {x y : AV} {xs : List Operand} {ts : Array TypeId} {o : Oper} (ho : o.op = .call { callee := .invoke c name, args := xs.toArray, argTypes := ts }) (hi : ifcA (s.ev c) = some (T, x)) (hR : Recv P X s T name f x y) (hf : callable P f = true) (hc : ConcAt X s a w ρ) :
    ∃ vs, VRs w (FF X w s.tb ρ) s.tb ρ (y :: xs.map s.ev) vs ∧ (execOp a.eval o).run P w = .ok (.enter f vs.toArray) w := by
  obtain ⟨v, e, hv⟩ := ifcA_spec hi (hc.ev c)
  obtain ⟨u, hm, hu⟩ := hR a w ρ hc v hv
  refine ⟨u :: xs.map a.eval, by unfold VRs; exact ⟨u, _, rfl, hu, VRs_args hc rfl⟩, ?_⟩
  have h1 := hm (P.types.size + Made.depth) (by unfold Made.depth; omega)
  simp [execOp, ho, resolve, invoke, callMethod, e, h1, run_callFunc hf, Result.andThen, List.take_of_length_le]
theorem op_inv {o : Oper} (hd : dstOk X.N o.dst = true) {T : TypeId} {name : String} {f : FuncId} {c : Operand} {x y : AV} {xs : List Operand} {ts : Array TypeId} (ho : o.op = .call { callee := .invoke c name, args := xs.toArray, argTypes := ts }) (hi : ifcA (s.ev c) = some (T, x)) (hR : Recv P X s T name f x y) (hf : callable P f = true)
    {ds : List PD} (hx : allD (y :: xs.map s.ev) = some ds) {r : PD} (hr : PCall P f ds r) : OpS P X o s (s.put o.dst (.dat r)) :=
  opS_enter hd fun a w ρ hc => by
    obtain ⟨vs, hv, he⟩ := inv_enter ho hi hR hf hc
    exact ⟨vs, he, hc.dcall hv hx hr⟩
theorem k_inv {d : Nat} {T : TypeId} {name : String} {f : FuncId} {c : Operand} {x y : AV} {xs : List Operand} {ts : Array TypeId} {ds : List PD} {r : PD} (hN : Nat.blt d N = true) (hi : ifcA (s.ev c) = some (T, x)) (hR : Recv P X s T name f x y) (hf : callable P f = true) (hx : allD (y :: xs.map s.ev) = some ds) (hr : PCall P f ds r)
    (h : Run P X N Q (.ops ops rem :: ks) (s.put (some d) (.dat r))) : RunK P X N Q ops rem ks (some d) (.call { callee := .invoke c name, args := xs.toArray, argTypes := ts }) s := k_of hN (fun _ _ _ hd => op_inv hd rfl hi hR hf hx hr) h
theorem k_invD {d : Nat} {T e : TypeId} {name : String} {f : FuncId} {c : Operand} {p : PD} {n : Nat} {g : Bool} {xs : List Operand} {ts : Array TypeId} {ds : List PD} {r : PD} (hN : Nat.blt d N = true) (hi : s.ev c = .dat (.iface T (.ptr p))) [hm : MI P T name f (some e)] [ht : VI P e n g] (hfit : fitsD g n p = true) (hf : callable P f = true) (hx : allD (.dat p :: xs.map s.ev) = some ds) (hr : PCall P f ds r)
    (h : Run P X N Q (.ops ops rem :: ks) (s.put (some d) (.dat r))) : RunK P X N Q ops rem ks (some d) (.call { callee := .invoke c name, args := xs.toArray, argTypes := ts }) s := k_inv hN (x := .dat (.ptr p)) (by rw [hi]; rfl) (Recv.loadD hm.out hfit) hf hx hr h
theorem k_invS {d : Nat} {T : TypeId} {name : String} {f : FuncId} {c : Operand} {p : PD} {xs : List Operand} {ts : Array TypeId} {ds : List PD} {r : PD} (hN : Nat.blt d N = true) (hi : s.ev c = .dat (.iface T p)) [hm : MI P T name f none] (hf : callable P f = true) (hx : allD (.dat p :: xs.map s.ev) = some ds) (hr : PCall P f ds r)
    (h : Run P X N Q (.ops ops rem :: ks) (s.put (some d) (.dat r))) : RunK P X N Q ops rem ks (some d) (.call { callee := .invoke c name, args := xs.toArray, argTypes := ts }) s := k_inv hN (x := .dat p) (by rw [hi]; rfl) (Recv.same hm.out) hf hx hr h
/-- A method to which memory is lent. -/
theorem k_invA (θ : Nat → Nat) {d : Nat} {T : TypeId} {name : String} {f : FuncId} {c : Operand} {x y : AV} {xs : List Operand} {ts : Array TypeId} {az : List AV} {tbl : List (Nat × Blk)} {ι : Type} {out : ι → AV} {tbl' : ι → List (Nat × Blk)} (hN : Nat.blt d N = true) (hi : ifcA (s.ev c) = some (T, x)) (hR : Recv P X s T name f x y) (hf : callable P f = true)
    (hr : ACall P f az tbl out tbl') (hx : y :: xs.map s.ev = renAs θ az) (htb : TbOk s θ tbl) (hok1 : lendOk1 θ az tbl = true) (hfr : ∀ i, FreshOk s θ (tbl' i)) (hok : ∀ i, lendOk2 θ tbl (tbl' i) = true) (h : ∀ i, Run P X N Q (.ops ops rem :: ks) ((s.lend θ (tbl' i)).put (some d) (renA θ (out i)))) :
    RunK P X N Q ops rem ks (some d) (.call { callee := .invoke c name, args := xs.toArray, argTypes := ts }) s := ⟨fun ty pos aft => ⟨fun hX a w ⟨ρ, hc⟩ => by
  obtain ⟨vs, hv, he⟩ := inv_enter (o := ⟨some d, .call { callee := .invoke c name, args := xs.toArray, argTypes := ts }, ty, pos, aft, none⟩) rfl hi hR hf hc
  have hcall := hc.acall hX.2 θ hr htb hfr hok1 hok (vs := vs) (by rw [← hx]; exact hv)
  refine run_enter hf he (R := fun v w' => ∃ i ρ', ConcAt X (s.lend θ (tbl' i)) a w' ρ' ∧ VR w' (FF X w' (s.lend θ (tbl' i)).tb ρ') (s.lend θ (tbl' i)).tb ρ' (renA θ (out i)) v) (hcall.mono ?_) ?_
  · rintro e w' ⟨v, i, ρ', he, h1, h2⟩
    exact ⟨v, he, i, ρ', h1, h2⟩
  · rintro v w' ⟨i, ρ', h1, h2⟩
    exact (h i).out hX _ _ ⟨ρ', h1.putO (hN_ok hN hX) h2⟩⟩⟩
theorem k_invAS1 (θ : Nat → Nat) {d : Nat} {T : TypeId} {name : String} {f : FuncId} {c : Operand} {x : AV} {xs : List Operand} {ts : Array TypeId} {az : List AV} {tbl : List (Nat × Blk)} {out : AV} {tbl' : List (Nat × Blk)} (hN : Nat.blt d N = true) (hi : ifcA (s.ev c) = some (T, x)) [hm : MI P T name f none] (hf : callable P f = true)
    (hr : ACall1 P f az tbl out tbl') (hx : x :: xs.map s.ev = renAs θ az) (htb : TbOk s θ tbl) (hok1 : lendOk1 θ az tbl = true) (hfr : FreshOk s θ tbl') (hok : lendOk2 θ tbl tbl' = true) (h : Run P X N Q (.ops ops rem :: ks) ((s.lend θ tbl').put (some d) (renA θ out))) :
    RunK P X N Q ops rem ks (some d) (.call { callee := .invoke c name, args := xs.toArray, argTypes := ts }) s := k_invA θ hN hi (Recv.same hm.out) hf hr hx htb hok1 (fun _ => hfr) (fun _ => hok) (fun _ => h)
theorem k_invAD1 (θ : Nat → Nat) {d : Nat} {T e : TypeId} {name : String} {f : FuncId} {c : Operand} {p : PD} {n : Nat} {g : Bool} {xs : List Operand} {ts : Array TypeId} {az : List AV} {tbl : List (Nat × Blk)} {out : AV} {tbl' : List (Nat × Blk)} (hN : Nat.blt d N = true) (hi : s.ev c = .dat (.iface T (.ptr p))) [hm : MI P T name f (some e)] [ht : VI P e n g] (hfit : fitsD g n p = true) (hf : callable P f = true)
    (hr : ACall1 P f az tbl out tbl') (hx : .dat p :: xs.map s.ev = renAs θ az) (htb : TbOk s θ tbl) (hok1 : lendOk1 θ az tbl = true) (hfr : FreshOk s θ tbl') (hok : lendOk2 θ tbl tbl' = true) (h : Run P X N Q (.ops ops rem :: ks) ((s.lend θ tbl').put (some d) (renA θ out))) :
    RunK P X N Q ops rem ks (some d) (.call { callee := .invoke c name, args := xs.toArray, argTypes := ts }) s := k_invA θ hN (x := .dat (.ptr p)) (by rw [hi]; rfl) (Recv.loadD hm.out hfit) hf hr hx htb hok1 (fun _ => hfr) (fun _ => hok) (fun _ => h)
theorem k_invAS (θ : Nat → Nat) {d : Nat} {T : TypeId} {name : String} {f : FuncId} {c : Operand} {x : AV} {xs : List Operand} {ts : Array TypeId} {az : List AV} {tbl : List (Nat × Blk)} {ι : Type} {out : ι → AV} {tbl' : ι → List (Nat × Blk)} (hN : Nat.blt d N = true) (hi : ifcA (s.ev c) = some (T, x)) [hm : MI P T name f none] (hf : callable P f = true)
    (hr : ACall P f az tbl out tbl') (hx : x :: xs.map s.ev = renAs θ az) (htb : TbOk s θ tbl) (hok1 : lendOk1 θ az tbl = true) (hfr : ∀ i, FreshOk s θ (tbl' i)) (hok : ∀ i, lendOk2 θ tbl (tbl' i) = true) (h : ∀ i, Run P X N Q (.ops ops rem :: ks) ((s.lend θ (tbl' i)).put (some d) (renA θ (out i)))) :
    RunK P X N Q ops rem ks (some d) (.call { callee := .invoke c name, args := xs.toArray, argTypes := ts }) s := k_invA θ hN hi (Recv.same hm.out) hf hr hx htb hok1 hfr hok h
theorem op_makeFunc {o : Oper} (hd : dstOk X.N o.dst = true) {f : Nat} {xs : List Operand} (ho : o.op = .makeFunc (.func f) #[] xs.toArray) : OpS P X o s (s.put o.dst (.clo f (xs.map s.ev))) :=
  opS_value hd fun a w ρ hc => ⟨.func (.func f) #[] (xs.map a.eval).toArray, by simp [execOp, ho, Instr.makeFunc], by unfold VR; exact ⟨_, rfl, VRs_args hc rfl⟩⟩
theorem k_makeFunc {d f : Nat} {xs : List Operand} (hN : Nat.blt d N = true) (h : Run P X N Q (.ops ops rem :: ks) (s.put (some d) (.clo f (xs.map s.ev)))) : RunK P X N Q ops rem ks (some d) (.makeFunc (.func f) #[] xs.toArray) s := k_of hN (fun _ _ _ hd => op_makeFunc hd rfl) h
theorem VRs_append {F : Nat → Prop} {tb : Nat → Option Blk} : ∀ {l l' : List AV} {vs vs' : List Value}, VRs w F tb ρ l vs → VRs w F tb ρ l' vs' → VRs w F tb ρ (l ++ l') (vs ++ vs')
  | [], _, _, _, h, h' => by unfold VRs at h; subst h; simpa using h'
  | x :: r, _, _, _, h, h' => by
    unfold VRs at h
    obtain ⟨v, r', rfl, h1, h2⟩ := h
    show VRs w F tb ρ (x :: (r ++ _)) (v :: (r' ++ _))
    unfold VRs
    exact ⟨v, _, rfl, h1, VRs_append h2 h'⟩
theorem clo_enter {f : FuncId} {c : Operand} {caps : List AV} {xs : List Operand} {ts : Array TypeId} {o : Oper} (ho : o.op = .call { callee := .value c, args := xs.toArray, argTypes := ts }) (hi : s.ev c = .clo f caps) (hf : callable P f = true) (hc : ConcAt X s a w ρ) :
    ∃ vs, VRs w (FF X w s.tb ρ) s.tb ρ (xs.map s.ev ++ caps) vs ∧ (execOp a.eval o).run P w = .ok (.enter f vs.toArray) w := by
  have h1 := hc.ev c
  rw [hi] at h1
  unfold VR at h1
  obtain ⟨us, e, h2⟩ := h1
  refine ⟨xs.map a.eval ++ us, VRs_append (VRs_args hc rfl) h2, ?_⟩
  simp [execOp, ho, resolve, Deferred.ofValue, e, invoke, run_callFunc hf, Result.andThen]
theorem k_cloA (θ : Nat → Nat) {d : Nat} {f : FuncId} {c : Operand} {caps : List AV} {xs : List Operand} {ts : Array TypeId} {az : List AV} {tbl : List (Nat × Blk)} {ι : Type} {out : ι → AV} {tbl' : ι → List (Nat × Blk)} (hN : Nat.blt d N = true) (hi : s.ev c = .clo f caps) (hf : callable P f = true)
    (hr : ACall P f az tbl out tbl') (hx : xs.map s.ev ++ caps = renAs θ az) (htb : TbOk s θ tbl) (hok1 : lendOk1 θ az tbl = true) (hfr : ∀ i, FreshOk s θ (tbl' i)) (hok : ∀ i, lendOk2 θ tbl (tbl' i) = true) (h : ∀ i, Run P X N Q (.ops ops rem :: ks) ((s.lend θ (tbl' i)).put (some d) (renA θ (out i)))) :
    RunK P X N Q ops rem ks (some d) (.call { callee := .value c, args := xs.toArray, argTypes := ts }) s := ⟨fun ty pos aft => ⟨fun hX a w ⟨ρ, hc⟩ => by
  obtain ⟨vs, hv, he⟩ := clo_enter (o := ⟨some d, .call { callee := .value c, args := xs.toArray, argTypes := ts }, ty, pos, aft, none⟩) rfl hi hf hc
  have hcall := hc.acall hX.2 θ hr htb hfr hok1 hok (vs := vs) (by rw [← hx]; exact hv)
  refine run_enter hf he (R := fun v w' => ∃ i ρ', ConcAt X (s.lend θ (tbl' i)) a w' ρ' ∧ VR w' (FF X w' (s.lend θ (tbl' i)).tb ρ') (s.lend θ (tbl' i)).tb ρ' (renA θ (out i)) v) (hcall.mono ?_) ?_
  · rintro e w' ⟨v, i, ρ', he, h1, h2⟩
    exact ⟨v, he, i, ρ', h1, h2⟩
  · rintro v w' ⟨i, ρ', h1, h2⟩
    exact (h i).out hX _ _ ⟨ρ', h1.putO (hN_ok hN hX) h2⟩⟩⟩
theorem k_cloA1 (θ : Nat → Nat) {d : Nat} {f : FuncId} {c : Operand} {caps : List AV} {xs : List Operand} {ts : Array TypeId} {az : List AV} {tbl : List (Nat × Blk)} {out : AV} {tbl' : List (Nat × Blk)} (hN : Nat.blt d N = true) (hi : s.ev c = .clo f caps) (hf : callable P f = true)
    (hr : ACall1 P f az tbl out tbl') (hx : xs.map s.ev ++ caps = renAs θ az) (htb : TbOk s θ tbl) (hok1 : lendOk1 θ az tbl = true) (hfr : FreshOk s θ tbl') (hok : lendOk2 θ tbl tbl' = true) (h : Run P X N Q (.ops ops rem :: ks) ((s.lend θ tbl').put (some d) (renA θ out))) :
    RunK P X N Q ops rem ks (some d) (.call { callee := .value c, args := xs.toArray, argTypes := ts }) s := k_cloA θ hN hi hf hr hx htb hok1 (fun _ => hfr) (fun _ => hok) (fun _ => h)
def nifT (P : Program) (t : TypeId) : Bool := match P.underlying t with
  | some d => notIface d
  | none => false
/-- The zero value of a type, of one cell. -/
def zer1 (P : Program) (t : TypeId) : Option Value := match P.info? t with
  | some i => i.zero
  | none => none
theorem run_zer1 {t : TypeId} {z : Value} (h : zer1 P t = some z) (w : World) : (zeroValue t).run P w = .ok z w := by
  unfold zer1 at h
  split at h
  · rename_i i hi
    simp [zeroValue, typeInfo, hi, h, Result.andThen]
  · cases h
theorem op_taS {o : Oper} (hd : dstOk X.N o.dst = true) {x : Operand} {t T : TypeId} (ho : o.op = .typeAssert x t T true) {d : PD} (hx : s.ev x = .dat (.iface T d)) (ht : nifT P T = true) : OpS P X o s (s.put o.dst (.dat (.tup [d, .val (.bool true)]))) := by
  refine opS_value hd fun a w ρ hc => ?_
  have h1 := hc.ev x
  rw [hx] at h1
  unfold VR Rep at h1
  obtain ⟨u, e, hu⟩ := h1
  unfold nifT at ht
  split at ht
  · rename_i d' hd'
    refine ⟨.tuple #[u, .bool true], by simp [execOp, ho, e, run_ta_same hd' ht], ?_⟩
    unfold VR Rep
    refine ⟨[u, .bool true], rfl, ?_⟩
    unfold Reps
    refine ⟨u, _, rfl, hu, ?_⟩
    unfold Reps
    refine ⟨_, [], rfl, by unfold Rep; exact ⟨rfl, trivial⟩, by unfold Reps; rfl⟩
  · cases ht
theorem op_ta1 {o : Oper} (hd : dstOk X.N o.dst = true) {x : Operand} {t T : TypeId} (ho : o.op = .typeAssert x t T false) {d : PD} (hx : s.ev x = .dat (.iface T d)) (ht : nifT P T = true) : OpS P X o s (s.put o.dst (.dat d)) := by
  refine opS_value hd fun a w ρ hc => ?_
  have h1 := hc.ev x
  rw [hx] at h1
  unfold VR Rep at h1
  obtain ⟨u, e, hu⟩ := h1
  unfold nifT at ht
  split at ht
  · rename_i d' hd'
    exact ⟨u, by simp [execOp, ho, e, run_ta_same' hd' ht], by unfold VR; exact hu⟩
  · cases ht
theorem rep_zf {F : Nat → Prop} {z : Value} (hz : okB z = true) : Rep w F (.tup [.val z, .val (.bool false)]) (.tuple #[z, .bool false]) := by
  unfold Rep
  refine ⟨[z, .bool false], rfl, ?_⟩
  unfold Reps
  refine ⟨z, _, rfl, by unfold Rep; exact ⟨rfl, okB_ok hz⟩, ?_⟩
  unfold Reps
  refine ⟨_, [], rfl, by unfold Rep; exact ⟨rfl, trivial⟩, by unfold Reps; rfl⟩
theorem k_taS {d : Nat} {x : Operand} {t T : Nat} {p : PD} (hN : Nat.blt d N = true) (hx : s.ev x = .dat (.iface T p)) (ht : nifT P T = true) (h : Run P X N Q (.ops ops rem :: ks) (s.put (some d) (.dat (.tup [p, .val (.bool true)])))) : RunK P X N Q ops rem ks (some d) (.typeAssert x t T true) s := k_of hN (fun _ _ _ hd => op_taS hd rfl hx ht) h
theorem k_ta1 {d : Nat} {x : Operand} {t T : Nat} {p : PD} (hN : Nat.blt d N = true) (hx : s.ev x = .dat (.iface T p)) (ht : nifT P T = true) (h : Run P X N Q (.ops ops rem :: ks) (s.put (some d) (.dat p))) : RunK P X N Q ops rem ks (some d) (.typeAssert x t T false) s := k_of hN (fun _ _ _ hd => op_ta1 hd rfl hx ht) h
/-- A function that makes memory at most, whatever its arguments are. -/
def Idle (P : Program) (f : FuncId) (n : Nat) : Prop := callable P f = true ∧ ∀ (vs : List Value) (u : FrameMode) (w : World), vs.length = n → CallsD P f vs.toArray u w fun e u' w' => u' = u ∧ (∃ v, e = .returned v) ∧ Below w.heap.size w w'
theorem ConcAt.defer (h : ConcAt X s a w ρ) {d : Deferred} (hd : Harmless X.P d) : ConcAt X s { a with defers := d :: a.defers } w ρ :=
  ⟨h.size, fun d' hd' => (List.mem_cons.1 hd').elim (fun e => e ▸ hd) (h.defers d'), h.below, h.tmps, h.blks, h.apart, h.lent⟩
theorem d_deferA {ops : List Oper} {T : TypeId} {name : String} {f : FuncId} {c : Operand} {x : AV} {xs : List Operand} {ts : Array TypeId} (hi : ifcA (s.ev c) = some (T, x)) [hm : MI P T name f none] (hf : Idle P f (xs.length + 1)) :
    TrK P X N ops none (.defer { callee := .invoke c name, args := xs.toArray, argTypes := ts }) ⟨none, none, none⟩ s s := ⟨fun hX ty pos aft g s' hA => by
  intro a w ⟨ρ, hc⟩ K Q hK
  have hev : s'.ev c = s.ev c := ev_alike hA (by simp [Op.operands, Call.operands])
  obtain ⟨v, e, hv⟩ := ifcA_spec (by rw [hev]; exact hi) (hc.ev c)
  have hrun : (execOp a.eval ⟨none, .defer { callee := .invoke c name, args := xs.toArray, argTypes := ts }, ty, pos, aft, g⟩).run P w = .ok (.defer { target := .fn (.method name) #[], args := #[.iface T v] ++ (xs.map a.eval).toArray }) w := by
    simp [execOp, resolve, e, Result.andThen]
  unfold Oper.wp
  rw [hrun, Oper.upon_defer]
  refine hK _ _ ⟨ρ, (hc.defer ?_).put_none .any undef⟩
  rw [hX.2]
  refine ⟨.method name, #[], f, (v :: xs.map a.eval).toArray, rfl, fun w' => ?_, fun u w' => ?_⟩
  · simp [invoke, callMethod, run_method_same hm.out (show 0 < P.types.size + Made.depth by unfold Made.depth; omega), run_callFunc hf.1, Result.andThen, List.take_of_length_le]
  · exact hf.2 _ u w' (by simp), rfl⟩
theorem k_deferA {T : TypeId} {name : String} {f : FuncId} {c : Operand} {x : AV} {xs : List Operand} {ts : Array TypeId} (hi : ifcA (s.ev c) = some (T, x)) [hm : MI P T name f none] (hf : Idle P f (xs.length + 1)) (h : Run P X N Q (.ops ops rem :: ks) s) :
    RunK P X N Q ops rem ks none (.defer { callee := .invoke c name, args := xs.toArray, argTypes := ts }) s := ⟨fun ty pos aft => ⟨fun hX a w ⟨ρ, hc⟩ => by
  obtain ⟨v, e, hv⟩ := ifcA_spec hi (hc.ev c)
  have hrun : (execOp a.eval ⟨none, .defer { callee := .invoke c name, args := xs.toArray, argTypes := ts }, ty, pos, aft, none⟩).run P w = .ok (.defer { target := .fn (.method name) #[], args := #[.iface T v] ++ (xs.map a.eval).toArray }) w := by
    simp [execOp, resolve, e, Result.andThen]
  unfold Oper.wp
  rw [hrun, Oper.upon_defer]
  refine h.out hX _ _ ⟨ρ, (hc.defer ?_).put_none .any undef⟩
  rw [hX.2]
  refine ⟨.method name, #[], f, (v :: xs.map a.eval).toArray, rfl, fun w' => ?_, fun u w' => ?_⟩
  · simp [invoke, callMethod, run_method_same hm.out (show 0 < P.types.size + Made.depth by unfold Made.depth; omega), run_callFunc hf.1, Result.andThen, List.take_of_length_le]
  · exact hf.2 _ u w' (by simp)⟩⟩
theorem d_acallB (θ : Nat → Nat) {ops : List Oper} {d f k : Nat} {xs : List Operand} {ts : Array TypeId} {az : List AV} {b b' : Blk} {out : AV} (hN : Nat.blt d N = true) (hf : callable P f = true) (hr : ACall1 P f az [(1000, b)] out [(1000, b')]) (hx : xs.map s.ev = renAs θ az) (hk : θ 1000 = k)
    (htb : s.tb k = some (renB θ b)) (hok1 : lendOk1 θ az [(1000, b)] = true) (hok : lendOk2 θ [(1000, b)] [(1000, b')] = true) :
    TrK P X N ops (some d) (.call { callee := .value (.func f), args := xs.toArray, argTypes := ts }) ⟨none, some (k, renB θ b'), some (d, renA θ out)⟩ s ((s.set k (renB θ b')).put (some d) (renA θ out)) := ⟨fun hX ty pos aft g s' hA => by
  have hev : xs.map s'.ev = renAs θ az := by rw [map_alike (fun x hx => ev_alike hA (by simp [Op.operands, Call.operands, hx]))]; exact hx
  have htb' : s'.tb k = some (renB θ b) := (new_alike hA rfl).trans htb
  intro a w ⟨ρ, hc⟩ K Q hK
  have hcall := hc.acall hX.2 θ hr (by refine ⟨?_, trivial⟩; rw [hk]; exact htb') (fun _ => ⟨.inl rfl, trivial⟩) hok1 (fun _ => hok) (vs := xs.map a.eval) (by rw [← hev]; exact VRs_args hc rfl)
  refine run_enter hf (vs := xs.map a.eval) (by simp [execOp, resolve, Deferred.ofValue, Act.eval, invoke, run_callFunc hf]) (R := fun v w' => ∃ ρ', ConcAt X (s'.lend θ [(1000, b')]) a w' ρ' ∧ VR w' (FF X w' (s'.lend θ [(1000, b')]).tb ρ') (s'.lend θ [(1000, b')]).tb ρ' (renA θ out) v) (hcall.mono ?_) ?_
  · rintro e w' ⟨v, i, ρ', he, h1, h2⟩
    exact ⟨v, he, ρ', h1, h2⟩
  · rintro v w' ⟨ρ', h1, h2⟩
    refine hK _ _ ?_
    have := h1.putO (d := some d) (hN_ok hN hX) h2
    refine ⟨ρ', ?_⟩
    have e : ((s'.lend θ [(1000, b')]).put (some d) (renA θ out)) = (Eff.mk none (some (k, renB θ b')) (some (d, renA θ out))).app s' := by
      subst hk; rfl
    rw [← e]; exact this, rfl⟩
theorem op_ifaceA {o : Oper} (hd : dstOk X.N o.dst = true) {t : TypeId} {x : Operand} (ho : o.op = .makeInterface t x) {y : AV} (hx : s.ev x = y) (ht : concT P t = true) : OpS P X o s (s.put o.dst (.iface t y)) := by
  refine opS_value hd fun a w ρ hc => ⟨.iface t (a.eval x), ?_, ?_⟩
  · unfold concT at ht
    split at ht
    · cases ht
    · rename_i d2 hne hu
      cases d2 <;> first | (simp [execOp, ho, Instr.makeInterface, run_underlying hu]; done) | exact (hne _ rfl).elim
    · cases ht
  · have h1 := hc.ev x
    rw [hx] at h1
    unfold VR
    exact ⟨_, rfl, h1⟩
theorem k_ifaceP {d : Nat} {x : Operand} {t k off : Nat} (hN : Nat.blt d N = true) (hx : s.ev x = .ptr k off) (ht : concT P t = true) (h : Run P X N Q (.ops ops rem :: ks) (s.put (some d) (.iface t (.ptr k off)))) : RunK P X N Q ops rem ks (some d) (.makeInterface t x) s := k_of hN (fun _ _ _ hd => op_ifaceA hd rfl hx ht) h
theorem d_ifaceP {ops : List Oper} {d : Nat} {x : Operand} {t k off : Nat} (hN : Nat.blt d N = true) (hx : s.ev x = .ptr k off) (ht : concT P t = true) : TrK P X N ops (some d) (.makeInterface t x) (Eff.put (some d) (.iface t (.ptr k off))) s (s.put (some d) (.iface t (.ptr k off))) := act_val hN fun s' _ _ _ _ hd hev htb => op_ifaceA hd rfl ((hev _ (by simp [Op.operands])).trans hx) ht
theorem op_nilI {o : Oper} (hd : dstOk X.N o.dst = true) {x : Operand} (ho : o.op = .nilCheck x) {t : TypeId} {y : PD} (hx : s.ev x = .dat (.iface t y)) : OpS P X o s (s.put o.dst (.dat (.iface t y))) := by
  refine opS_value hd fun a w ρ hc => ?_
  have h1 := hc.ev x
  rw [hx] at h1
  unfold VR Rep at h1
  obtain ⟨u, e, hu⟩ := h1
  exact ⟨.iface t u, by simp [execOp, ho, e], by unfold VR Rep; exact ⟨u, rfl, hu⟩⟩
theorem k_nilI {d : Nat} {x : Operand} {t : TypeId} {y : PD} (hN : Nat.blt d N = true) (hx : s.ev x = .dat (.iface t y)) (h : Run P X N Q (.ops ops rem :: ks) (s.put (some d) (.dat (.iface t y)))) : RunK P X N Q ops rem ks (some d) (.nilCheck x) s := k_of hN (fun _ _ _ hd => op_nilI hd rfl hx) h
theorem d_nilI {ops : List Oper} {d : Nat} {x : Operand} {t : TypeId} {y : PD} (hN : Nat.blt d N = true) (hx : s.ev x = .dat (.iface t y)) : TrK P X N ops (some d) (.nilCheck x) (Eff.put (some d) (.dat (.iface t y))) s (s.put (some d) (.dat (.iface t y))) := act_val hN fun s' _ _ _ _ hd hev htb => op_nilI hd rfl ((hev _ (by simp [Op.operands])).trans hx)
theorem k_assignI {d : Nat} {x : Operand} {t : TypeId} {y : AV} (hN : Nat.blt d N = true) (hx : s.ev x = .iface t y) (h : Run P X N Q (.ops ops rem :: ks) (s.put (some d) (.iface t y))) : RunK P X N Q ops rem ks (some d) (.assign x) s := k_of hN (fun _ _ _ hd => op_assign hd rfl hx) h
theorem d_assignI {ops : List Oper} {d : Nat} {x : Operand} {t : TypeId} {y : AV} (hN : Nat.blt d N = true) (hx : s.ev x = .iface t y) : TrK P X N ops (some d) (.assign x) (Eff.put (some d) (.iface t y)) s (s.put (some d) (.iface t y)) := act_val hN fun s' _ _ _ _ hd hev htb => op_assign hd rfl ((hev _ (by simp [Op.operands])).trans hx)
theorem k_moveI {d : Nat} {x : Operand} {t : TypeId} {y : AV} (hN : Nat.blt d N = true) (hx : s.ev x = .iface t y) (h : Run P X N Q (.ops ops rem :: ks) (s.put (some d) (.iface t y))) : RunK P X N Q ops rem ks (some d) (.move x) s := k_of hN (fun _ _ _ hd => op_move hd rfl hx) h
theorem d_moveI {ops : List Oper} {d : Nat} {x : Operand} {t : TypeId} {y : AV} (hN : Nat.blt d N = true) (hx : s.ev x = .iface t y) : TrK P X N ops (some d) (.move x) (Eff.put (some d) (.iface t y)) s (s.put (some d) (.iface t y)) := act_val hN fun s' _ _ _ _ hd hev htb => op_move hd rfl ((hev _ (by simp [Op.operands])).trans hx)
theorem k_moveC {d : Nat} {x : Operand} {f : Nat} {l : List AV} (hN : Nat.blt d N = true) (hx : s.ev x = .clo f l) (h : Run P X N Q (.ops ops rem :: ks) (s.put (some d) (.clo f l))) : RunK P X N Q ops rem ks (some d) (.move x) s := k_of hN (fun _ _ _ hd => op_move hd rfl hx) h
theorem k_loadBC {d : Nat} {x : Operand} {t k off T n : Nat} {cs : List AV} {g : Bool} {f : Nat} {l : List AV} (hN : Nat.blt d N = true) (hx : s.ev x = .ptr k off) (hk : s.tb k = some (.box T cs)) [ht : VI P t n g] (hf : subA g n off cs = some (.clo f l)) (h : Run P X N Q (.ops ops rem :: ks) (s.put (some d) (.clo f l))) : RunK P X N Q ops rem ks (some d) (.load t x) s := k_of hN (fun _ _ _ hd => op_loadB hd rfl hx hk ht.out hf) h
/-- Items of a made-up tuple with own parts. -/
theorem op_extractA {o : Oper} (hd : dstOk X.N o.dst = true) {x : Operand} {i : Nat} (ho : o.op = .extract x i) {l : List AV} (hx : s.ev x = .tup l) {y : AV} (hl : l[i]? = some y) : OpS P X o s (s.put o.dst y) := by
  refine opS_value hd fun a w ρ hc => ?_
  have h1 := hc.ev x
  rw [hx] at h1
  unfold VR at h1
  obtain ⟨vs, e, h2⟩ := h1
  obtain ⟨u, hu, hv⟩ := h2.at_ hl
  exact ⟨u, by simp [execOp, ho, e, Instr.extract, hu], hv⟩
theorem k_extractI {d : Nat} {x : Operand} {i : Nat} {l : List AV} {t : TypeId} {y : AV} (hN : Nat.blt d N = true) (hx : s.ev x = .tup l) (hl : l[i]? = some (.iface t y)) (h : Run P X N Q (.ops ops rem :: ks) (s.put (some d) (.iface t y))) : RunK P X N Q ops rem ks (some d) (.extract x i) s := k_of hN (fun _ _ _ hd => op_extractA hd rfl hx hl) h
theorem k_extractD {d : Nat} {x : Operand} {i : Nat} {l : List AV} {y : PD} (hN : Nat.blt d N = true) (hx : s.ev x = .tup l) (hl : l[i]? = some (.dat y)) (h : Run P X N Q (.ops ops rem :: ks) (s.put (some d) (.dat y))) : RunK P X N Q ops rem ks (some d) (.extract x i) s := k_of hN (fun _ _ _ hd => op_extractA hd rfl hx hl) h
theorem k_moveT {d : Nat} {x : Operand} {l : List AV} (hN : Nat.blt d N = true) (hx : s.ev x = .tup l) (h : Run P X N Q (.ops ops rem :: ks) (s.put (some d) (.tup l))) : RunK P X N Q ops rem ks (some d) (.move x) s := k_of hN (fun _ _ _ hd => op_move hd rfl hx) h
/-- Floating-point numbers. -/
def fltC (k : FloatKind) : BinOp → Nat → Nat → Option Bool
  | .eql, a, b => some (k.format.order a b == some .eq)
  | .neq, a, b => some (k.format.order a b != some .eq)
  | .lss, a, b => some (k.format.order a b == some .lt)
  | .leq, a, b => some (k.format.order a b == some .lt || k.format.order a b == some .eq)
  | .gtr, a, b => some (k.format.order a b == some .gt)
  | .geq, a, b => some (k.format.order a b == some .gt || k.format.order a b == some .eq)
  | _, _, _ => none
theorem run_fltC {op : BinOp} {k : FloatKind} {a b : Nat} {r : Bool} (h : fltC k op a b = some r) (t : TypeId) (x y : Operand) (w : World) : (do eqGuard op t x y (.float k a) (.float k b); binOp op t (.float k a) (.float k b) : Sem Value).run P w = .ok (.bool r) w := by
  unfold fltC at h
  split at h <;> first | cases h | skip
  all_goals simp [eqGuard, binOp, Op.floatCmp, go_sem]
theorem op_fltC {o : Oper} (hd : dstOk X.N o.dst = true) {op : BinOp} {t t' : TypeId} {x y : Operand} (ho : o.op = .binOp op t x y t') {k : FloatKind} {a b : Nat} {r : Bool} (hx : s.ev x = .dat (.val (.float k a))) (hy : s.ev y = .dat (.val (.float k b))) (hr : fltC k op a b = some r) : OpS P X o s (s.put o.dst (.dat (.val (.bool r)))) :=
  op_bin hd ho hx hy (run_fltC hr t x y) trivial
theorem k_fltC {d : Nat} {x y : Operand} {op : BinOp} {t t' : Nat} {k : FloatKind} {a b : Nat} {r : Bool} (hN : Nat.blt d N = true) (hx : s.ev x = .dat (.val (.float k a))) (hy : s.ev y = .dat (.val (.float k b))) (hr : fltC k op a b = some r) (h : Run P X N Q (.ops ops rem :: ks) (s.put (some d) (.dat (.val (.bool r))))) : RunK P X N Q ops rem ks (some d) (.binOp op t x y t') s := k_of hN (fun _ _ _ hd => op_fltC hd rfl hx hy hr) h
theorem d_fltC {ops : List Oper} {d : Nat} {x y : Operand} {op : BinOp} {t t' : Nat} {k : FloatKind} {a b : Nat} {r : Bool} (hN : Nat.blt d N = true) (hx : s.ev x = .dat (.val (.float k a))) (hy : s.ev y = .dat (.val (.float k b))) (hr : fltC k op a b = some r) : TrK P X N ops (some d) (.binOp op t x y t') (Eff.put (some d) (.dat (.val (.bool r)))) s (s.put (some d) (.dat (.val (.bool r)))) := act_val hN fun s' _ _ _ _ hd hev htb => op_fltC hd rfl ((hev _ (by simp [Op.operands])).trans hx) ((hev _ (by simp [Op.operands])).trans hy) hr
def fltT (P : Program) (t : TypeId) : Option FloatKind := match P.underlying t with
  | some (.float k) => some k
  | _ => none
theorem op_convF {o : Oper} (hd : dstOk X.N o.dst = true) {t t' : TypeId} {x : Operand} (ho : o.op = .convert t t' x) {k : IntKind} {q : FloatKind} {a : Int} (hx : s.ev x = .dat (.val (.int k a))) (ht0 : intT P t = some k) (ht : fltT P t' = some q) : OpS P X o s (s.put o.dst (.dat (.val (.float q (floatOfInt q a))))) := by
  refine opS_value hd fun a' w ρ hc => ⟨.float q (floatOfInt q a), ?_, by unfold VR Rep; exact ⟨rfl, floatOfInt_wf q a⟩⟩
  have h1 := hc.ev x
  rw [hx] at h1
  unfold VR Rep at h1
  unfold fltT at ht
  split at ht
  · rename_i q' hu
    cases ht
    unfold intT at ht0
    split at ht0
    · rename_i k' hu0
      simp [execOp, ho, h1.1, convert, run_underlying hu, run_underlying hu0, Conv.intToFloat]
      rfl
    · cases ht0
  · cases ht
theorem k_convF {d : Nat} {x : Operand} {t t' : Nat} {k : IntKind} {q : FloatKind} {a : Int} (hN : Nat.blt d N = true) (hx : s.ev x = .dat (.val (.int k a))) (ht0 : intT P t = some k) (ht : fltT P t' = some q) (h : Run P X N Q (.ops ops rem :: ks) (s.put (some d) (.dat (.val (.float q (floatOfInt q a)))))) : RunK P X N Q ops rem ks (some d) (.convert t t' x) s := k_of hN (fun _ _ _ hd => op_convF hd rfl hx ht0 ht) h
end
end Go.Proofs.YtbbacpdbbmjblaaGreat
end
section
namespace Go.Proofs.YtbbacpdbbmjblaaGreat
open Go.RowKit
set_option linter.unusedSimpArgs false
set_option maxRecDepth 100000 in
theorem AsBool_any (x : Bool) (w : World) : Calls Tryz.prog 178 #[.agg #[.iface 4 (.bool x)]] w fun e w' => e = .returned (.bool x) ∧ w' = w.alloc (.cells #[.iface 4 (.bool x)] 177) := by
  go_enter Tryz.func178, Tryz.ntmps178
  go_wp2_with fail
  go_ret
  exact ⟨rfl, rfl⟩
set_option maxRecDepth 100000 in
theorem AsInt_any (x : Int) (w : World) : Calls Tryz.prog 180 #[.agg #[.iface 2 (.int .i64 x)]] w fun e w' => e = .returned (.int .i64 x) ∧ w' = w.alloc (.cells #[.iface 2 (.int .i64 x)] 177) := by
  go_enter Tryz.func180, Tryz.ntmps180
  go_wp2_with fail
  go_ret
  exact ⟨rfl, rfl⟩
set_option maxRecDepth 100000 in
theorem AsFloat_any (x : Nat) (w : World) : Calls Tryz.prog 179 #[.agg #[.iface 25 (.float .f64 x)]] w fun e w' => e = .returned (.float .f64 x) ∧ w' = w.alloc (.cells #[.iface 25 (.float .f64 x)] 177) := by
  go_enter Tryz.func179, Tryz.ntmps179
  go_wp2_with fail
  go_ret
  exact ⟨rfl, rfl⟩
set_option maxRecDepth 100000 in
theorem AsString_any (x : ByteArray) (w : World) : Calls Tryz.prog 185 #[.agg #[.iface 9 (.string x)]] w fun e w' => e = .returned (.string x) ∧ w' = w.alloc (.cells #[.iface 9 (.string x)] 177) := by
  go_enter Tryz.func185, Tryz.ntmps185
  go_wp2_with fail
  go_ret
  exact ⟨rfl, rfl⟩
end Go.Proofs.YtbbacpdbbmjblaaGreat
end
section
set_option linter.unusedVariables false
namespace Go.Proofs.YtbbacpdbbmjblaaGreat
open Go.RowKit
open Go.ChangeMaps (setBlock)
set_option linter.unusedSimpArgs false
/-- The items of a list of the package. -/
def dvLs (l : List JV) : PD := .opq {
  rel := fun w F v => ∃ a c, v = .slice a l.length c ∧ l.length * 16 ≤ 140737488351232 ∧ (l = [] ∨ ∃ b o, F b ∧ a = some ⟨b, o, none⟩ ∧ IsJs w F l b o) ∧ ∀ x ∈ l, JOk x,
  one := fun _ _ _ ⟨_, _, e, _⟩ => by rw [e]; rfl,
  keep := fun _ _ _ _ _ h hs ⟨a, c, e, h1, h2, h3⟩ => ⟨a, c, e, h1, h2.imp id (fun ⟨b, o, hb, ha, hx⟩ => ⟨b, o, hs b hb, ha, IsJs.keep h hs l b o hb hx⟩), h3⟩ }
/-- The fields of a map of the package. -/
def dvMm (m : List (ByteArray × JV)) : PD := .opq {
  rel := fun w F v => ∃ b es cl, v = .map (some b) ∧ F b ∧ w.heap[b]? = some (.map es cl) ∧ MapKept.Stamped es cl ∧ m.length < maxLen ∧ IsEs w F m es.toList ∧ JOk (.map m),
  one := fun _ _ _ ⟨_, _, _, e, _⟩ => by rw [e]; rfl,
  keep := fun _ _ _ _ _ h hs ⟨b, es, cl, e, hb, hh, h1, h2, h3, h4⟩ => ⟨b, es, cl, e, hs b hb, (h b hb).trans hh, h1, h2, IsEs.keep h hs m es.toList h3, h4⟩ }
/-- A tree, as far as its head goes. -/
def dvX : JV → PD
  | .null => .val .nilIface
  | .bool b => .iface 4 (.val (.bool b))
  | .int n => .iface 2 (.val (.int .i64 n))
  | .flt f => .iface 25 (.val (.float .f64 f))
  | .str s => .iface 9 (.val (.string s))
  | .list l => .iface 154 (dvLs l)
  | .map m => .iface 155 (dvMm m)
theorem dvX_le (j : JV) : PLe (pdJ j) (dvX j) := by
  intro w F v h
  unfold pdJ Rep at h
  obtain ⟨h, hok⟩ := h
  cases j with
  | null => unfold IsJ at h; unfold dvX Rep; exact ⟨h, trivial⟩
  | bool b => unfold IsJ at h; unfold dvX Rep; exact ⟨_, h, by unfold Rep; exact ⟨rfl, trivial⟩⟩
  | int n => unfold IsJ at h; unfold dvX Rep; exact ⟨_, h.1, by unfold Rep; exact ⟨rfl, h.2⟩⟩
  | flt n => unfold IsJ at h; unfold dvX Rep; exact ⟨_, h.1, by unfold Rep; exact ⟨rfl, h.2⟩⟩
  | str n => unfold IsJ at h; unfold dvX Rep; exact ⟨_, h.1, by unfold Rep; exact ⟨rfl, h.2⟩⟩
  | list l =>
    unfold IsJ at h
    obtain ⟨a, c, e, h1, h2⟩ := h
    unfold dvX Rep
    refine ⟨_, e, ?_⟩
    unfold dvLs Rep
    exact ⟨a, c, rfl, h1, h2, JOks_mem (by unfold JOk at hok; exact hok.2)⟩
  | map m =>
    unfold IsJ at h
    obtain ⟨b, es, cl, e, hb, hh, h1, h2, h3⟩ := h
    unfold dvX Rep
    refine ⟨_, e, ?_⟩
    unfold dvMm Rep
    exact ⟨b, es, cl, rfl, hb, hh, h1, h2, h3, hok⟩
section
variable {P : Program}
/-- Arguments that say more. -/
theorem PCall.le {f : FuncId} {ds ds' : List PD} {r : PD} (h : ∀ w F vs, Reps w F ds vs → Reps w F ds' vs) (hp : PCall P f ds' r) : PCall P f ds r := fun w F vs hF hv => hp w F vs hF (h w F vs hv)
theorem PCall.ex {f : FuncId} {ds : List PD} {r : PD} (h : ∀ w F vs, Reps w F ds vs → PCall P f ds r) : PCall P f ds r := fun w F vs hF hv => h w F vs hv w F vs hF hv
theorem Reps.cons1 {w : World} {F : Nat → Prop} {d d' : PD} {ds : List PD} {vs : List Value} (h : PLe d d') (hv : Reps w F (d :: ds) vs) : Reps w F (d' :: ds) vs := by
  unfold Reps at hv ⊢
  obtain ⟨v, r, e, h1, h2⟩ := hv
  exact ⟨v, r, e, h _ _ _ h1, h2⟩
theorem PLe.agg1 {d d' : PD} (h : PLe d d') : PLe (.agg [d]) (.agg [d']) := by
  intro w F v hv
  unfold Rep at hv ⊢
  obtain ⟨vs, e, h1, h2⟩ := hv
  exact ⟨vs, e, Reps.cons1 h h1, h2⟩
/-- The struct around a tree, as far as its head goes. -/
theorem PCall.vu {f : FuncId} {j : JV} {ds : List PD} {r : PD} (h : PCall P f (.agg [dvX j] :: ds) r) : PCall P f (.agg [pdJ j] :: ds) r := h.le (fun _ _ _ hv => Reps.cons1 (PLe.agg1 (dvX_le j)) hv)
variable {X : Base} {N : Nat} {Q : Exit → Act → World → Prop} {ops : Array Oper} {rem : List Nat} {ks : List Itm} {s s' : Sta} {a : Act} {w w' : World} {ρ : Nat → RV}
theorem NilIs.ifc {T : Nat} {d : PD} : NilIs true (.iface T d) false := fun w F v h => by
  unfold Rep at h
  obtain ⟨u, rfl, _⟩ := h
  exact ⟨_, _, rfl⟩
theorem op_lenJ {o : Oper} (hd : dstOk X.N o.dst = true) {x : Operand} {t : TypeId} (ho : o.op = .call { callee := .builtin .len, args := #[x], argTypes := #[t] }) {e n y : Nat} (ht : slcI P t = some (e, n, y)) {l : List JV} (hx : s.ev x = .dat (dvLs l)) :
    OpS P X o s (s.put o.dst (.dat (.val (.int .i64 l.length)))) := by
  refine opS_value hd fun a w ρ hc => ?_
  have h2 := hc.ev x
  rw [hx] at h2
  unfold VR dvLs Rep at h2
  obtain ⟨a', c, e1, hby, hcase, _⟩ := h2
  refine ⟨.int .i64 l.length, ?_, by unfold VR Rep; exact ⟨rfl, wf_small (by omega)⟩⟩
  obtain ⟨_, hu, _⟩ := slcI_spec ht
  simp [execOp, ho, resolve, invoke, builtin, e1, run_len hu, goInt]
theorem k_lenJ {d : Nat} {x : Operand} {t e n y : Nat} {l : List JV} (hN : Nat.blt d N = true) (hx : s.ev x = .dat (dvLs l)) [ht : SI P t e n y] (h : Run P X N Q (.ops ops rem :: ks) (s.put (some d) (.dat (.val (.int .i64 l.length))))) : RunK P X N Q ops rem ks (some d) (.call { callee := .builtin .len, args := #[x], argTypes := #[t] }) s := k_of hN (fun _ _ _ hd => op_lenJ hd rfl ht.out hx) h
theorem d_lenJ {ops : List Oper} {d : Nat} {x : Operand} {t e n y : Nat} {l : List JV} (hN : Nat.blt d N = true) (hx : s.ev x = .dat (dvLs l)) [ht : SI P t e n y] : TrK P X N ops (some d) (.call { callee := .builtin .len, args := #[x], argTypes := #[t] }) (Eff.put (some d) (.dat (.val (.int .i64 l.length)))) s (s.put (some d) (.dat (.val (.int .i64 l.length)))) := act_val hN fun s' _ _ _ _ hd hev htb => op_lenJ hd rfl ht.out ((hev _ (by simp [Op.operands, Call.operands])).trans hx)
theorem op_indexJ {o : Oper} (hd : dstOk X.N o.dst = true) {t : TypeId} {x ix : Operand} (ho : o.op = .indexAddr t x ix) {l : List JV} (hx : s.ev x = .dat (dvLs l)) {k : IntKind} {i : Nat} (hi : s.ev ix = .dat (.val (.int k (i : Int))))
    {e y' : Nat} (ht : slcI P t = some (e, 1, y')) {j : JV} (hl : l[i]? = some j) : OpS P X o s (s.put o.dst (.dat (.ptr (pdJ j)))) := by
  refine opS_value hd fun a w ρ hc => ?_
  have h2 := hc.ev x
  rw [hx] at h2
  unfold VR dvLs Rep at h2
  have h3 := hc.ev ix
  rw [hi] at h3
  unfold VR Rep at h3
  obtain ⟨a', c, e1, hby, hcase, hok⟩ := h2
  obtain ⟨inf, hu, hinf, hsz, _⟩ := slcI_spec ht
  have hlt : i < l.length := (List.getElem?_eq_some_iff.1 hl).1
  rcases hcase with rfl | ⟨b, off, hF, ha, hr⟩
  · simp at hl
  obtain ⟨u, hu1, hun⟩ := hr.at_ hl
  subst ha
  refine ⟨.pointer (some ⟨b, off + i, none⟩), ?_, ?_⟩
  · simp [execOp, ho, e1, h3.1, Instr.indexAt, asIntOf, run_underlying hu, hlt, sizeOf, typeInfo, hinf, hsz, Addr_add]
  · unfold VR Rep
    refine ⟨b, off + i, u, rfl, hF, by unfold pdJ Rep; exact ⟨hun, hok j (List.mem_of_getElem? hl)⟩, ?_⟩
    rw [one_toList hun.oneCell]
    intro q v hq
    cases q with
    | zero => simp at hq; subst hq; exact hu1
    | succ q => simp at hq
theorem d_indexJ {ops : List Oper} {d : Nat} {x ix : Operand} {t e y' : Nat} {l : List JV} {k : IntKind} {i : Nat} {j : JV} (hN : Nat.blt d N = true) (hx : s.ev x = .dat (dvLs l)) (hi : s.ev ix = .dat (.val (.int k (i : Int)))) [ht : SI P t e 1 y'] (hl : l[i]? = some j) : TrK P X N ops (some d) (.indexAddr t x ix) (Eff.put (some d) (.dat (.ptr (pdJ j)))) s (s.put (some d) (.dat (.ptr (pdJ j)))) := act_val hN fun s' _ _ _ _ hd hev htb => op_indexJ hd rfl ((hev _ (by simp [Op.operands])).trans hx) ((hev _ (by simp [Op.operands])).trans hi) ht.out hl
def mapT (P : Program) (t : TypeId) : Option (Nat × Nat) := match P.underlying t with
  | some (.map k e) => some (k, e)
  | _ => none
theorem mapT_spec {t k e : Nat} (h : mapT P t = some (k, e)) : P.underlying t = some (.map k e) := by
  unfold mapT at h
  split at h
  · simp only [Option.some.injEq, Prod.mk.injEq] at h; obtain ⟨rfl, rfl⟩ := h; assumption
  · cases h
/-- A map type from strings to interface values. -/
class MTI (P : Program) (t : Nat) (k : outParam Nat) (e : outParam Nat) : Prop where
  out : mapT P t = some (k, e)
  str : P.underlying k = some .string
  zer : zer1 P e = some .nilIface
theorem op_lenM {o : Oper} (hd : dstOk X.N o.dst = true) {x : Operand} {t : TypeId} (ho : o.op = .call { callee := .builtin .len, args := #[x], argTypes := #[t] }) {k e : Nat} (ht : mapT P t = some (k, e)) {m : List (ByteArray × JV)} (hx : s.ev x = .dat (dvMm m)) :
    OpS P X o s (s.put o.dst (.dat (.val (.int .i64 m.length)))) := by
  refine opS_value hd fun a w ρ hc => ?_
  have h2 := hc.ev x
  rw [hx] at h2
  unfold VR dvMm Rep at h2
  obtain ⟨b, es, cl, e1, hb, hh, hs, hl, he, hok⟩ := h2
  have hlen : es.size = m.length := by have := he.length; simpa using this
  refine ⟨.int .i64 m.length, ?_, by unfold VR Rep; exact ⟨rfl, WalkArith.wf_i64 (by unfold maxLen at hl; omega)⟩⟩
  have hu := mapT_spec ht
  simp [execOp, ho, resolve, invoke, builtin, e1, Builtin.len_, run_underlying hu, MapKept.run_getObj_map hh, goInt, hlen, Result.andThen]
theorem k_lenM {d : Nat} {x : Operand} {t k e : Nat} {m : List (ByteArray × JV)} (hN : Nat.blt d N = true) (hx : s.ev x = .dat (dvMm m)) [ht : MTI P t k e] (h : Run P X N Q (.ops ops rem :: ks) (s.put (some d) (.dat (.val (.int .i64 m.length))))) : RunK P X N Q ops rem ks (some d) (.call { callee := .builtin .len, args := #[x], argTypes := #[t] }) s := k_of hN (fun _ _ _ hd => op_lenM hd rfl ht.out hx) h
/-- What stands under a key. -/
def lkJ : List (ByteArray × JV) → ByteArray → Option JV
  | [], _ => none
  | x :: r, k => if x.1 = k then some x.2 else lkJ r k
theorem IsEs.lk {F : Nat → Prop} {k : ByteArray} : ∀ {m : List (ByteArray × JV)} {es : List MapEntry}, IsEs w F m es → (∃ j e, lkJ m k = some j ∧ e ∈ es ∧ e.key = .string k ∧ IsJ w F j e.val ∧ (k, j) ∈ m) ∨ (lkJ m k = none ∧ ∀ e ∈ es, e.key ≠ .string k)
  | [], es, h => by unfold IsEs at h; subst h; exact .inr ⟨rfl, by simp⟩
  | x :: r, es, h => by
    unfold IsEs at h
    obtain ⟨e, r', rfl, hke, _, hx, hr⟩ := h
    unfold lkJ
    by_cases hk : x.1 = k
    · rw [if_pos hk]; exact .inl ⟨x.2, e, rfl, by simp, by rw [hke, hk], hx, by rw [← hk]; simp⟩
    · rw [if_neg hk]
      rcases IsEs.lk hr with ⟨j, e', h1, h2, h3, h4, h5⟩ | ⟨h1, h2⟩
      · exact .inl ⟨j, e', h1, by simp [h2], h3, h4, by simp [h5]⟩
      · refine .inr ⟨h1, fun e' he' => ?_⟩
        rcases List.mem_cons.1 he' with rfl | he'
        · rw [hke]; intro e; injection e with e; exact hk e
        · exact h2 e' he'
theorem run_look_hit {t kt et r cl : Nat} {es : Array MapEntry} {k : ByteArray} (hm : P.underlying t = some (.map kt et)) (hd : P.underlying kt = some .string)
    (hb : w.heap[r]? = some (.map es cl)) (hs : MapKept.Stamped es cl) (hks : ∀ x ∈ es.toList, MapKept.IsKey .string x.key) {e : MapEntry} (he : e ∈ es.toList) (hke : e.key = .string k) :
    (Instr.lookup t (.map (some r)) (.string k) true).run P w = .ok (.tuple #[e.val, .bool true]) w := by
  have hk : MapKept.IsKey .string (.string k) := trivial
  rcases MapKept.findNow_spec hk es.toList 0 hks with ⟨h1, h2⟩ | ⟨j, e', h1, h2, h3⟩
  · exact absurd hke (h2 e he)
  · have : e' = e := by
      have hkn : (es.toList.map (·.key)).Nodup := hs.2.2
      obtain ⟨i, hi⟩ := List.getElem?_of_mem he
      have hij : j = i := by
        have hi' : (es.toList.map (·.key))[j]? = some (.string k) := by rw [List.getElem?_map, h2, Option.map_some, h3]
        have hj' : (es.toList.map (·.key))[i]? = some (.string k) := by rw [List.getElem?_map, hi, Option.map_some, hke]
        exact (List.getElem?_inj (List.getElem?_eq_some_iff.1 hi').1 hkn).1 (hi'.trans hj'.symm)
      rw [hij, hi] at h2
      exact (Option.some.inj h2).symm
    subst this
    simp [Instr.lookup, run_underlying hm, MapKept.run_getObj_map hb, MapKept.run_checkKey hd hk, MapKept.run_findKey hd h1, Result.andThen]
theorem run_look_miss {t kt et r cl : Nat} {es : Array MapEntry} {k : ByteArray} {z : Value} (hm : P.underlying t = some (.map kt et)) (hd : P.underlying kt = some .string) (hz : zer1 P et = some z)
    (hb : w.heap[r]? = some (.map es cl)) (hks : ∀ x ∈ es.toList, MapKept.IsKey .string x.key) (he : ∀ e ∈ es.toList, e.key ≠ .string k) :
    (Instr.lookup t (.map (some r)) (.string k) true).run P w = .ok (.tuple #[z, .bool false]) w := by
  have hk : MapKept.IsKey .string (.string k) := trivial
  rcases MapKept.findNow_spec hk es.toList 0 hks with ⟨h1, h2⟩ | ⟨j, e', h1, h2, h3⟩
  · simp [Instr.lookup, run_underlying hm, MapKept.run_getObj_map hb, MapKept.run_checkKey hd hk, MapKept.run_findKey hd h1, run_zer1 hz, Result.andThen]
  · exact absurd h3 (he e' (List.mem_of_getElem? h2))
def lkD (o : Option JV) : PD := match o with
  | some j => .tup [pdJ j, .val (.bool true)]
  | none => .tup [.val .nilIface, .val (.bool false)]
theorem op_lookM {o : Oper} (hd : dstOk X.N o.dst = true) {x y : Operand} {t : TypeId} (ho : o.op = .lookup t x y true) {kt et : Nat} (ht : MTI P t kt et) {m : List (ByteArray × JV)} {k : ByteArray} (hx : s.ev x = .dat (dvMm m)) (hy : s.ev y = .dat (.val (.string k))) :
    OpS P X o s (s.put o.dst (.dat (lkD (lkJ m k)))) := by
  refine opS_value hd fun a w ρ hc => ?_
  have h2 := hc.ev x
  rw [hx] at h2
  unfold VR dvMm Rep at h2
  have h3 := hc.ev y
  rw [hy] at h3
  unfold VR Rep at h3
  obtain ⟨b, es, cl, e1, hb, hh, hs, hl, he, hok⟩ := h2
  have hm := mapT_spec ht.out
  have hks := he.keys
  rcases he.lk (k := k) with ⟨j, e, h4, h5, h6, h7, h8⟩ | ⟨h4, h5⟩
  · rw [h4]
    refine ⟨.tuple #[e.val, .bool true], by simp [execOp, ho, e1, h3.1, run_look_hit hm ht.str hh hs hks h5 h6], ?_⟩
    unfold VR lkD Rep
    refine ⟨[e.val, .bool true], rfl, ?_⟩
    unfold Reps
    refine ⟨_, _, rfl, by unfold pdJ Rep; exact ⟨h7, JOkm_mem (by unfold JOk at hok; exact hok.2.2) _ h8⟩, ?_⟩
    unfold Reps
    exact ⟨_, [], rfl, by unfold Rep; exact ⟨rfl, trivial⟩, by unfold Reps; rfl⟩
  · rw [h4]
    exact ⟨.tuple #[.nilIface, .bool false], by simp [execOp, ho, e1, h3.1, run_look_miss hm ht.str ht.zer hh hks h5], by unfold VR lkD; exact rep_zf rfl⟩
theorem k_lookM {d : Nat} {x y : Operand} {t kt et : Nat} {m : List (ByteArray × JV)} {k : ByteArray} {o : Option JV} (hN : Nat.blt d N = true) (hx : s.ev x = .dat (dvMm m)) (hy : s.ev y = .dat (.val (.string k))) [ht : MTI P t kt et] (ho : lkJ m k = o) (h : Run P X N Q (.ops ops rem :: ks) (s.put (some d) (.dat (lkD o)))) : RunK P X N Q ops rem ks (some d) (.lookup t x y true) s := k_of hN (fun _ _ _ hd => by subst ho; exact op_lookM hd rfl ht hx hy) h
/-- The iterator over a map, where the items 'done' have come out. -/
def itR (m done : List (ByteArray × JV)) : Res where
  rel := fun w F O v => ∃ bm r es cl dn, v = .pointer (some ⟨r, 0, none⟩) ∧ F bm ∧ O r ∧ (∀ b, O b → b = r) ∧ Rng w bm r es cl dn ∧ MapKept.Stamped es cl ∧ IsEs w F m es.toList ∧ JOk (.map m) ∧ IsEs w F done dn ∧ (∀ y ∈ done, y ∈ m)
  d := .opq { rel := fun _ _ v => v.oneCell' = true, one := fun _ _ _ h => h, keep := fun _ _ _ _ _ _ _ h => h }
  one := fun _ _ _ _ ⟨_, _, _, _, _, e, _⟩ => by rw [e]; rfl
  keep := fun w w' F F' O v h hs hO ⟨bm, r, es, cl, dn, e, h1, h2, h3, h4, h5, h6, h7, h8, h9⟩ => ⟨bm, r, es, cl, dn, e, hs bm h1, h2, h3, h4.of_eq (h bm h1) (hO r h2), h5, IsEs.keep h hs _ _ h6, h7, IsEs.keep h hs _ _ h8, h9⟩
  frz := fun _ _ _ _ v _ _ ⟨_, _, _, _, _, e, _⟩ => by unfold Rep; show v.oneCell' = true; rw [e]; rfl
theorem ConcAt.setRes (h : ConcAt X s a w ρ) {k : Nat} {R R' : Res} (hk : s.tb k = some (.res R)) (hw : Below 0 w w') (hsz : w'.heap.size = w.heap.size) (hoth : ∀ b, ¬ (ρ k).fp b → w'.heap[b]? = w.heap[b]?)
    (hR : R'.rel w' (FF X w s.tb ρ) (ρ k).fp (ρ k).v) : ConcAt X (s.set k (.res R')) a w' ρ := by
  have hlk : liveB (s.tb k) = true := by rw [hk]; rfl
  have hF : ∀ b', FF X w s.tb ρ b' → w'.heap[b']? = w.heap[b']? := fun b' hF => hoth b' (hF.2.2 k hlk)
  have hdom : ∀ k', liveB ((s.set k (.res R')).tb k') = true → liveB (s.tb k') = true := by
    intro k' hk'
    by_cases ek : k' = k
    · subst ek; exact hlk
    · simp only [Sta.set, upd_ne _ _ ek] at hk'; exact hk'
  have hs : ∀ b', FF X w s.tb ρ b' → FF X w' (s.set k (.res R')).tb ρ b' := fun b' hF => ⟨hF.1, by rw [hsz]; exact hF.2.1, fun k' hk' => hF.2.2 k' (hdom k' hk')⟩
  have hkk : ∀ k' x, s.tb k' = some x → ∃ x', (s.set k (.res R')).tb k' = some x' ∧ ((x'.kind = x.kind ∧ (ρ k').v = (ρ k').v) ∨ (x' = .dead ∧ x.kind ≠ 0)) := by
    intro k' x hx
    by_cases ek : k' = k
    · subst ek; rw [hk] at hx; cases hx; exact ⟨.res R', upd_same _ _ _, .inl ⟨rfl, rfl⟩⟩
    · exact ⟨x, by simp only [Sta.set, upd_ne _ _ ek]; exact hx, .inl ⟨rfl, rfl⟩⟩
  have hblk := h.blks k _ hk
  refine ⟨h.size, h.defers, h.below.step hw.os hw.tape hw.output (by rw [hsz]; exact Nat.le_refl _) (fun j _ hj => hoth j (fun e => hj (hblk.2 j e).1)), fun t' => (h.tmps t').keep hF hs hkk, fun k' x hx => ?_, fun k1 k2 b h1 h2 e1 e2 => h.apart k1 k2 b (hdom k1 h1) (hdom k2 h2) e1 e2, fun k' hk' hl' => h.lent k' hk' (hdom k' hl')⟩
  by_cases ek : k' = k
  · subst ek
    simp only [Sta.set, upd_same, Option.some.injEq] at hx
    subst hx
    exact ⟨R'.keep _ _ _ _ _ _ (fun _ _ => rfl) hs (fun _ _ => rfl) hR, fun b hb => ⟨(hblk.2 b hb).1, by rw [hsz]; exact (hblk.2 b hb).2⟩⟩
  · simp only [Sta.set, upd_ne _ _ ek] at hx
    exact (h.blks k' x hx).keep hF hs hkk rfl (fun b' hl hf => hoth b' fun e => ek (h.apart k' k b' (by rw [hx]; exact hl) hlk hf e)) (by rw [hsz]; exact Nat.le_refl _)
theorem IsEs.mem {F : Nat → Prop} : ∀ {m : List (ByteArray × JV)} {es : List MapEntry}, IsEs w F m es → (∀ y ∈ m, ∃ e ∈ es, e.key = .string y.1 ∧ y.1.size ≤ maxLen ∧ IsJ w F y.2 e.val) ∧ ∀ e ∈ es, ∃ y ∈ m, e.key = .string y.1 ∧ y.1.size ≤ maxLen ∧ IsJ w F y.2 e.val
  | [], es, h => by unfold IsEs at h; subst h; exact ⟨by simp, by simp⟩
  | x :: r, es, h => by
    unfold IsEs at h
    obtain ⟨e, r', rfl, hke, hz, hx, hr⟩ := h
    obtain ⟨h1, h2⟩ := IsEs.mem hr
    refine ⟨fun y hy => ?_, fun e' he' => ?_⟩
    · rcases List.mem_cons.1 hy with rfl | hy
      · exact ⟨e, by simp, hke, hz, hx⟩
      · obtain ⟨e', he', h'⟩ := h1 y hy
        exact ⟨e', by simp [he'], h'⟩
    · rcases List.mem_cons.1 he' with rfl | he'
      · exact ⟨x, by simp, hke, hz, hx⟩
      · obtain ⟨y, hy, h'⟩ := h2 e' he'
        exact ⟨y, by simp [hy], h'⟩
theorem IsEs.snoc {F : Nat → Prop} {y : ByteArray × JV} {e : MapEntry} (hke : e.key = .string y.1) (hz : y.1.size ≤ maxLen) (hj : IsJ w F y.2 e.val) : ∀ {m : List (ByteArray × JV)} {es : List MapEntry}, IsEs w F m es → IsEs w F (m ++ [y]) (es ++ [e])
  | [], es, h => by
    unfold IsEs at h; subst h
    show IsEs w F [y] [e]
    unfold IsEs
    exact ⟨e, [], rfl, hke, hz, hj, by unfold IsEs; rfl⟩
  | x :: r, es, h => by
    unfold IsEs at h
    obtain ⟨e', r', rfl, h1, h2, h3, hr⟩ := h
    show IsEs w F (x :: (r ++ [y])) (e' :: (r' ++ [e]))
    unfold IsEs
    exact ⟨e', _, rfl, h1, h2, h3, IsEs.snoc hke hz hj hr⟩
theorem key_inj {es : List MapEntry} (h : (es.map (·.key)).Nodup) : ∀ {e e' : MapEntry}, e ∈ es → e' ∈ es → e.key = e'.key → e = e' := by
  induction es with
  | nil => intro _ _ h; cases h
  | cons a r ih =>
    simp only [List.map_cons, List.nodup_cons] at h
    intro e e' he he' hb
    rcases List.mem_cons.1 he with h1 | h1 <;> rcases List.mem_cons.1 he' with h2 | h2
    · rw [h1, h2]
    · exact absurd (by rw [← h1, hb]; exact List.mem_map_of_mem (f := (·.key)) h2) h.1
    · exact absurd (by rw [← h2, ← hb]; exact List.mem_map_of_mem (f := (·.key)) h1) h.1
    · exact ih h.2 h1 h2 hb
theorem fst_inj {m : List (ByteArray × JV)} (h : (m.map (·.1)).Nodup) : ∀ {e e' : ByteArray × JV}, e ∈ m → e' ∈ m → e.1 = e'.1 → e = e' := by
  induction m with
  | nil => intro _ _ h; cases h
  | cons a r ih =>
    simp only [List.map_cons, List.nodup_cons] at h
    intro e e' he he' hb
    rcases List.mem_cons.1 he with h1 | h1 <;> rcases List.mem_cons.1 he' with h2 | h2
    · rw [h1, h2]
    · exact absurd (by rw [← h1, hb]; exact List.mem_map_of_mem (f := (·.1)) h2) h.1
    · exact absurd (by rw [← h2, ← hb]; exact List.mem_map_of_mem (f := (·.1)) h1) h.1
    · exact ih h.2 h1 h2 hb
def itD (y : ByteArray × JV) : PD := .tup [.val (.string y.1), pdJ y.2]
theorem rep_tup3 {F : Nat → Prop} {p q r : PD} {x y z : Value} (h1 : Rep w F p x) (h2 : Rep w F q y) (h3 : Rep w F r z) : Rep w F (.tup [p, q, r]) (.tuple #[x, y, z]) := by
  unfold Rep
  refine ⟨[x, y, z], rfl, ?_⟩
  unfold Reps; refine ⟨x, _, rfl, h1, ?_⟩
  unfold Reps; refine ⟨y, _, rfl, h2, ?_⟩
  unfold Reps; exact ⟨z, _, rfl, h3, by unfold Reps; rfl⟩
theorem rep_tup2 {F : Nat → Prop} {p q : PD} {x y : Value} (h1 : Rep w F p x) (h2 : Rep w F q y) : Rep w F (.tup [p, q]) (.tuple #[x, y]) := by
  unfold Rep
  refine ⟨[x, y], rfl, ?_⟩
  unfold Reps; refine ⟨x, _, rfl, h1, ?_⟩
  unfold Reps; exact ⟨y, _, rfl, h2, by unfold Reps; rfl⟩
theorem rep_str {F : Nat → Prop} {k : ByteArray} (h : k.size ≤ maxLen) : Rep w F (.val (.string k)) (.string k) := by unfold Rep; exact ⟨rfl, h⟩
theorem k_rangeM {d : Nat} {x : Operand} {t kt et : Nat} {m : List (ByteArray × JV)} (hN : Nat.blt d N = true) (hd0 : s.tb d = none) (hx : s.ev x = .dat (dvMm m)) [ht : MTI P t kt et] (h : Run P X N Q (.ops ops rem :: ks) (s.new d (.res (itR m [])) (.own d))) : RunK P X N Q ops rem ks (some d) (.range t x) s := ⟨fun ty pos aft => ⟨fun hX a w ⟨ρ, hc⟩ => by
  have hdN : d < X.N := by rw [hX.1]; simpa [Nat.blt_eq] using hN
  have h2 := hc.ev x
  rw [hx] at h2
  unfold VR dvMm Rep at h2
  obtain ⟨bm, es, cl, e1, hb, hh, hs, hl, he, hok⟩ := h2
  have hm := mapT_spec ht.out
  have hlt : bm < w.heap.size := blk_lt hh
  have hr : (execOp a.eval ⟨some d, .range t x, ty, pos, aft, none⟩).run P w = .ok (.value (.pointer (some ⟨w.heap.size, 0, none⟩))) (w.alloc (.mapIter (some bm) cl #[] cl)) := by
    simp [execOp, e1, run_range_map w t kt et bm es cl hm hh, Result.andThen]
  refine wp_value hr ?_
  have hB : Below w.heap.size w (w.alloc (.mapIter (some bm) cl #[] cl)) := (Below.refl _ _).alloc (Nat.le_refl _) _
  have hc1 := hc.grow hB
  have hFF0 : ∀ b, FF X w s.tb ρ b → FF X (w.alloc (.mapIter (some bm) cl #[] cl)) s.tb ρ b := fun b hb => FF_new hB hc b (.inl hb)
  refine h.out hX _ _ ⟨upd ρ d ⟨.pointer (some ⟨w.heap.size, 0, none⟩), fun b => b = w.heap.size⟩, ?_⟩
  have hnl : ∀ k, liveB ((upd s.tb d (some (.res (itR m [])))) k) = true → k = d ∨ (k ≠ d ∧ liveB (s.tb k) = true) := by
    intro k hk
    by_cases e : k = d
    · exact .inl e
    · rw [upd_ne _ _ e] at hk; exact .inr ⟨e, hk⟩
  have hold : ∀ k b, liveB (s.tb k) = true → (ρ k).fp b → b < w.heap.size := by
    intro k b hk hb
    obtain ⟨x, hx, hl⟩ := live_some hk
    exact (hc.rowBlk hx hl hb).2
  have hFF : ∀ b, FF X w s.tb ρ b → FF X (w.alloc (.mapIter (some bm) cl #[] cl)) (upd s.tb d (some (.res (itR m [])))) (upd ρ d ⟨.pointer (some ⟨w.heap.size, 0, none⟩), fun b => b = w.heap.size⟩) b := by
    intro b hb
    refine ⟨hb.1, (hFF0 b hb).2.1, fun k hk e => ?_⟩
    rcases hnl k hk with rfl | ⟨hne, hk⟩
    · rw [upd_same] at e
      have e : b = w.heap.size := e
      have := hb.2.1; omega
    · rw [upd_ne _ _ hne] at e; exact hb.2.2 k hk e
  have hkk : ∀ k x, s.tb k = some x → ∃ x', (upd s.tb d (some (.res (itR m [])))) k = some x' ∧ ((x'.kind = x.kind ∧ ((upd ρ d ⟨.pointer (some ⟨w.heap.size, 0, none⟩), fun b => b = w.heap.size⟩) k).v = (ρ k).v) ∨ (x' = .dead ∧ x.kind ≠ 0)) := by
    intro k x hx
    have hne : k ≠ d := fun e => by rw [e, hd0] at hx; cases hx
    exact ⟨x, by rw [upd_ne _ _ hne]; exact hx, .inl ⟨rfl, by rw [upd_ne _ _ hne]⟩⟩
  have hsame : ∀ b, FF X w s.tb ρ b → (w.alloc (.mapIter (some bm) cl #[] cl)).heap[b]? = w.heap[b]? := fun b hb => hB.block b hb.2.1
  have hiter : (w.alloc (.mapIter (some bm) cl #[] cl)).heap[w.heap.size]? = some (.mapIter (some bm) cl #[] cl) := (MapKept.heap_alloc _ _).1
  have key : ConcAt X { s with tb := upd s.tb d (some (.res (itR m []))) } a (w.alloc (.mapIter (some bm) cl #[] cl)) (upd ρ d ⟨.pointer (some ⟨w.heap.size, 0, none⟩), fun b => b = w.heap.size⟩) := by
    refine ⟨hc.size, hc.defers, hc1.below, fun t => (hc.tmps t).keep hsame hFF hkk, fun k x hx => ?_, fun k k' b h1 h2 e1 e2 => ?_, fun k hk hl => ?_⟩
    · by_cases e : k = d
      · subst e
        rw [show ({ s with tb := upd s.tb k (some (.res (itR m []))) } : Sta).tb k = some (.res (itR m [])) from upd_same _ _ _] at hx
        simp only [Option.some.injEq] at hx
        subst hx
        show (itR m []).rel _ _ _ _ ∧ _
        rw [upd_same]
        refine ⟨⟨bm, w.heap.size, es, cl, [], rfl, hFF bm hb, rfl, fun b hb => hb, ⟨(hsame bm hb).trans hh, ⟨#[], rfl, hiter⟩, by omega, by simp, by simp, hs.1, hs.2.1⟩, hs, IsEs.keep hsame hFF _ _ he, hok, by unfold IsEs; rfl, by simp⟩, ?_⟩
        intro b hb
        have hb : b = w.heap.size := hb
        subst hb
        exact ⟨.inl hc.below.size, by simp⟩
      · have hx' : s.tb k = some x := by rw [← hx]; exact (upd_ne _ _ e).symm
        exact (hc.blks k x hx').keep hsame hFF hkk (upd_ne _ _ e) (fun b hl hf => hB.block b (hc.rowBlk hx' hl hf).2) hB.size
    · rcases hnl k h1 with rfl | ⟨n1, g1⟩ <;> rcases hnl k' h2 with h | ⟨n2, g2⟩
      · exact h.symm
      · rw [upd_same] at e1; rw [upd_ne _ _ n2] at e2
        have e1 : b = w.heap.size := e1
        have := hold k' b g2 e2; omega
      · subst h
        rw [upd_same] at e2; rw [upd_ne _ _ n1] at e1
        have e2 : b = w.heap.size := e2
        have := hold k b g1 e1; omega
      · rw [upd_ne _ _ n1] at e1; rw [upd_ne _ _ n2] at e2
        exact hc.apart k k' b g1 g2 e1 e2
    · rcases hnl k hl with rfl | ⟨n1, h1⟩
      · have := X.hN; omega
      · rw [upd_ne _ _ n1]; exact hc.lent k hk h1
  refine key.putNew hdN ?_
  unfold VR
  exact ⟨rfl, .inl ⟨_, upd_same _ _ _, .inr rfl, by rw [upd_same]⟩⟩⟩⟩
/-- 'next': all have come out, or one comes that has not. -/
theorem k_nextM {d : Nat} {x : Operand} {k : Nat} {m done : List (ByteArray × JV)} (hN : Nat.blt d N = true) (hx : s.ev x = .own k) (hk : s.tb k = some (.res (itR m done)))
    (h0 : (∀ y ∈ m, y ∈ done) → Run P X N Q (.ops ops rem :: ks) (s.put (some d) (.dat (.tup [.val (.bool false)]))))
    (h1 : ∀ y, y ∈ m → y.1 ∉ done.map (·.1) → Run P X N Q (.ops ops rem :: ks) ((s.set k (.res (itR m (done ++ [y])))).put (some d) (.dat (.tup [.val (.bool true), .val (.string y.1), pdJ y.2])))) :
    RunK P X N Q ops rem ks (some d) (.next x false) s := ⟨fun ty pos aft => ⟨fun hX a w ⟨ρ, hc⟩ => by
  have h2 := hc.ev x
  rw [hx] at h2
  have e2 := VR_ownR h2 hk rfl
  have hblk := hc.blks k _ hk
  obtain ⟨⟨bm, r, es, cl, dn, e3, hbm, hr, hO, hrng, hst, hes, hok, hdn, hsub⟩, _⟩ := hblk
  rw [e3] at e2
  obtain ⟨seen, hseen, hit⟩ := hrng.iter
  have hkn : (m.map (·.1)).Nodup := by unfold JOk at hok; exact hok.1
  rcases run_next_at (P := P) w ty r bm cl cl seen es cl hit hrng.map hrng.old (Nat.le_refl _) with ⟨hl, hrun⟩ | ⟨e, he, w1, hw1, hrun⟩
  · have hrun' : (execOp a.eval ⟨some d, .next x false, ty, pos, aft, none⟩).run P w = .ok (.value (.tuple #[.bool false])) w := by simp [execOp, e2, hrun, Result.andThen]
    refine wp_value hrun' ((h0 fun y hy => ?_).out hX _ _ ⟨ρ, hc.putO (hN_ok hN hX) (by unfold VR Rep; exact ⟨[.bool false], rfl, by unfold Reps; exact ⟨_, [], rfl, by unfold Rep; exact ⟨rfl, trivial⟩, by unfold Reps; rfl⟩⟩)⟩)
    obtain ⟨e, he, hke, hz, hj⟩ := hes.mem.1 y hy
    have hl' : leftOf es seen = #[] := Array.eq_empty_of_size_eq_zero hl
    have hc' : seen.contains e.born = true := by
      cases hc' : seen.contains e.born with
      | true => rfl
      | false =>
        exfalso
        have : e ∈ (leftOf es seen) := by
          unfold leftOf
          simp only [Array.mem_filter]
          exact ⟨by simpa using he, by rw [hc']; rfl⟩
        rw [hl'] at this
        simp at this
    have hm : e.born ∈ dn.map (·.born) := by rw [← hseen]; simpa using hc'
    obtain ⟨q, hq, hqb⟩ := List.mem_map.1 hm
    have hqe : q = e := born_inj hrng.born (hrng.sub q hq) he hqb
    subst hqe
    obtain ⟨z, hz1, hzk, _⟩ := hdn.mem.2 q hq
    have : z = y := fst_inj hkn (hsub z hz1) hy (by rw [hke] at hzk; injection hzk with h; exact h.symm)
    subst this
    exact hz1
  · have hes' : e ∈ es.toList := by
      unfold leftOf at he; simp at he; simpa using he.1
    have hnb : e.born ∉ dn.map (·.born) := by
      unfold leftOf at he
      simp at he
      intro hd
      apply he.2
      have : e.born ∈ seen.toList := by rw [hseen]; exact hd
      simpa using this
    have hh : w1.heap = w.heap := by rcases hw1 with rfl | rfl <;> rfl
    have hlt : r < w1.heap.size := by rw [hh]; exact hrng.lt_.2
    have hr' : Rng (setBlock w1 r (.mapIter (some bm) cl (seen.push e.born) cl)) bm r es cl (dn ++ [e]) := by
      refine ⟨?_, ⟨seen.push e.born, by simp [hseen], setBlock_self _ _ _ hlt⟩, hrng.ne, ?_, ?_, hrng.old, hrng.born⟩
      · rw [setBlock_other _ hrng.ne, hh]; exact hrng.map
      · intro q hq
        rcases List.mem_append.1 hq with hq | hq
        · exact hrng.sub q hq
        · simp at hq; rw [hq]; exact hes'
      · rw [List.map_append, List.nodup_append]
        refine ⟨hrng.nodup, by simp, fun a ha b hb => ?_⟩
        simp at hb; subst hb
        exact fun e' => hnb (e' ▸ ha)
    have hrun' : (execOp a.eval ⟨some d, .next x false, ty, pos, aft, none⟩).run P w = .ok (.value (.tuple #[.bool true, e.key, e.val])) (setBlock w1 r (.mapIter (some bm) cl (seen.push e.born) cl)) := by simp [execOp, e2, hrun, Result.andThen]
    obtain ⟨y, hy, hke, hz, hj⟩ := hes.mem.2 e hes'
    have hsz : (setBlock w1 r (.mapIter (some bm) cl (seen.push e.born) cl)).heap.size = w.heap.size := by
      show (Array.setIfInBounds _ _ _).size = _
      rw [Array.size_setIfInBounds, hh]
    have hB : Below 0 w (setBlock w1 r (.mapIter (some bm) cl (seen.push e.born) cl)) := by
      have hB1 : Below 0 w w1 := by
        rcases hw1 with rfl | rfl
        · exact Below.refl _ _
        · exact (Below.refl _ _).drew
      exact hB1.trans ⟨rfl, rfl, rfl, by rw [hsz, hh]; exact Nat.le_refl _, fun k hk => absurd hk (Nat.not_lt_zero _)⟩
    have hoth : ∀ b, ¬ (ρ k).fp b → (setBlock w1 r (.mapIter (some bm) cl (seen.push e.born) cl)).heap[b]? = w.heap[b]? := fun b hb => by
      rw [setBlock_other _ (fun e : b = r => hb (e ▸ hr)), hh]
    have hF : ∀ b, FF X w s.tb ρ b → (setBlock w1 r (.mapIter (some bm) cl (seen.push e.born) cl)).heap[b]? = w.heap[b]? := fun b hF => hoth b (hF.2.2 k (by rw [hk]; rfl))
    have hJ := JOkm_mem (m := m) (by unfold JOk at hok; exact hok.2.2) y hy
    have hset := hc.setRes (R' := itR m (done ++ [y])) hk hB hsz hoth ⟨bm, r, es, cl, dn ++ [e], e3, hbm, hr, hO, hr', hst, IsEs.keep hF (fun _ h => h) _ _ hes, hok,
      IsEs.snoc hke hz (IsJ.keep hF (fun _ h => h) _ hj) (IsEs.keep hF (fun _ h => h) _ _ hdn), fun z hz => by
        rcases List.mem_append.1 hz with hz | hz
        · exact hsub z hz
        · simp at hz; rw [hz]; exact hy⟩
    refine wp_value hrun' ((h1 y hy fun hmem => ?_).out hX _ _ ⟨ρ, hset.putO (hN_ok hN hX) ?_⟩)
    · obtain ⟨z, hz1, hz2⟩ := List.mem_map.1 hmem
      obtain ⟨q, hq, hqk, _⟩ := hdn.mem.1 z hz1
      have : q = e := key_inj hst.2.2 (hrng.sub q hq) hes' (by rw [hqk, hke, hz2])
      subst this
      exact hnb (List.mem_map_of_mem (f := (·.born)) hq)
    · unfold VR
      have hF2 : ∀ b, FF X w s.tb ρ b → FF X (setBlock w1 r (.mapIter (some bm) cl (seen.push e.born) cl)) (s.set k (.res (itR m (done ++ [y])))).tb ρ b := fun b' hF => ⟨hF.1, by rw [hsz]; exact hF.2.1, fun k' hk' => hF.2.2 k' (by
        by_cases ek : k' = k
        · subst ek; rw [hk]; rfl
        · simp only [Sta.set, upd_ne _ _ ek] at hk'; exact hk')⟩
      rw [hke]
      exact rep_tup3 (by unfold Rep; exact ⟨rfl, trivial⟩) (rep_str hz) (by unfold pdJ Rep; exact ⟨IsJ.keep hF hF2 _ hj, hJ⟩)⟩⟩
/-- 'entry': the one that came out last. -/
theorem op_entryM {o : Oper} (hd : dstOk X.N o.dst = true) {x : Operand} (ho : o.op = .entry x) {k : Nat} {m done : List (ByteArray × JV)} {y : ByteArray × JV} (hx : s.ev x = .own k) (hk : s.tb k = some (.res (itR m (done ++ [y])))) : OpS P X o s (s.put o.dst (.dat (itD y))) := by
  refine opS_value hd fun a w ρ hc => ?_
  have h2 := hc.ev x
  rw [hx] at h2
  have e2 := VR_ownR h2 hk rfl
  have hblk := hc.blks k _ hk
  obtain ⟨⟨bm, r, es, cl, dn, e3, hbm, hr, hO, hrng, hst, hes, hok, hdn, hsub⟩, _⟩ := hblk
  rw [e3] at e2
  have hsplit : ∀ {m : List (ByteArray × JV)} {dn : List MapEntry}, IsEs w (FF X w s.tb ρ) (m ++ [y]) dn → ∃ dn' e, dn = dn' ++ [e] ∧ e.key = .string y.1 ∧ y.1.size ≤ maxLen ∧ IsJ w (FF X w s.tb ρ) y.2 e.val := by
    intro m
    induction m with
    | nil =>
      intro dn h
      have h : IsEs w (FF X w s.tb ρ) [y] dn := h
      unfold IsEs at h
      obtain ⟨e, r', rfl, h1, h2, h3, h4⟩ := h
      unfold IsEs at h4
      subst h4
      exact ⟨[], e, rfl, h1, h2, h3⟩
    | cons z m ih =>
      intro dn h
      have h : IsEs w (FF X w s.tb ρ) (z :: (m ++ [y])) dn := h
      unfold IsEs at h
      obtain ⟨e, r', rfl, h1, h2, h3, h4⟩ := h
      obtain ⟨dn', e', rfl, h5⟩ := ih h4
      exact ⟨e :: dn', e', rfl, h5⟩
  obtain ⟨dn', e, rfl, hke, hz, hj⟩ := hsplit hdn
  obtain ⟨seen, hseen, hit⟩ := hrng.iter
  obtain ⟨seen', rfl⟩ : ∃ seen' : Array Nat, seen = seen'.push e.born := by
    refine ⟨(dn'.map (·.born)).toArray, ?_⟩
    apply Array.ext'
    rw [hseen]; simp
  have hent := run_entry_at (P := P) w r bm cl seen' es cl e hit hrng.map (hrng.sub e (by simp)) hrng.born
  refine ⟨.tuple #[e.key, e.val], by simp [execOp, ho, e2, hent, Result.andThen], ?_⟩
  unfold VR itD
  rw [hke]
  exact rep_tup2 (rep_str hz) (by unfold pdJ Rep; exact ⟨hj, JOkm_mem (by unfold JOk at hok; exact hok.2.2) y (hsub y (by simp))⟩)
theorem k_entryM {d : Nat} {x : Operand} {k : Nat} {m done : List (ByteArray × JV)} {y : ByteArray × JV} (hN : Nat.blt d N = true) (hx : s.ev x = .own k) (hk : s.tb k = some (.res (itR m (done ++ [y])))) (h : Run P X N Q (.ops ops rem :: ks) (s.put (some d) (.dat (itD y)))) : RunK P X N Q ops rem ks (some d) (.entry x) s := k_of hN (fun _ _ _ hd => op_entryM hd rfl hx hk) h
end
end Go.Proofs.YtbbacpdbbmjblaaGreat
end
section
set_option linter.unusedVariables false
namespace Go.Proofs.YtbbacpdbbmjblaaGreat
open Go.RowKit
set_option linter.unusedSimpArgs false
/-- The allocator; a value; a list, by itself and behind a pointer; a map. -/
def dvA : PD := .iface 150 (.ptr (.agg []))
def dvV (j : JV) : PD := .iface 149 (.ptr (.agg [pdJ j]))
def dvL (l : List JV) : PD := .iface 245 (dvLs l)
def dvLp (l : List JV) : PD := .iface 269 (.ptr (dvLs l))
def dvM (m : List (ByteArray × JV)) : PD := .iface 246 (dvMm m)
/-- The structs among the types of own memory. -/
def gV (t : Nat) : Bool := Nat.beq t 177 || (Nat.beq t 152 || Nat.beq t 271)
instance : MI Tryz.prog 149 "IsMap" 190 (some 177) := ⟨by kernel_rfl⟩
instance : MI Tryz.prog 149 "IsList" 189 (some 177) := ⟨by kernel_rfl⟩
instance : MI Tryz.prog 149 "IsBool" 186 (some 177) := ⟨by kernel_rfl⟩
instance : MI Tryz.prog 149 "IsInt" 188 (some 177) := ⟨by kernel_rfl⟩
instance : MI Tryz.prog 149 "IsFloat" 187 (some 177) := ⟨by kernel_rfl⟩
instance : MI Tryz.prog 149 "IsString" 192 (some 177) := ⟨by kernel_rfl⟩
instance : MI Tryz.prog 149 "IsNull" 191 (some 177) := ⟨by kernel_rfl⟩
instance : MI Tryz.prog 149 "AsBool" 178 (some 177) := ⟨by kernel_rfl⟩
instance : MI Tryz.prog 149 "AsInt" 180 (some 177) := ⟨by kernel_rfl⟩
instance : MI Tryz.prog 149 "AsFloat" 179 (some 177) := ⟨by kernel_rfl⟩
instance : MI Tryz.prog 149 "AsString" 185 (some 177) := ⟨by kernel_rfl⟩
instance : MI Tryz.prog 149 "AsListUsing" 182 (some 177) := ⟨by kernel_rfl⟩
instance : MI Tryz.prog 149 "AsMapUsing" 184 (some 177) := ⟨by kernel_rfl⟩
instance : MI Tryz.prog 150 "Free" 194 none := ⟨by kernel_rfl⟩
instance : MI Tryz.prog 150 "pub-coparcener/pub/structuredmerge/value.allocValueUnstructured" 107 none := ⟨by kernel_rfl⟩
instance : MI Tryz.prog 150 "pub-coparcener/pub/structuredmerge/value.allocListUnstructuredRange" 232 none := ⟨by kernel_rfl⟩
instance : MI Tryz.prog 245 "Length" 200 none := ⟨by kernel_rfl⟩
instance : MI Tryz.prog 269 "Length" 200 (some 245) := ⟨by kernel_rfl⟩
instance : MI Tryz.prog 245 "RangeUsing" 202 none := ⟨by kernel_rfl⟩
instance : MI Tryz.prog 269 "RangeUsing" 202 (some 245) := ⟨by kernel_rfl⟩
instance : MI Tryz.prog 245 "EqualsUsing" 199 none := ⟨by kernel_rfl⟩
instance : MI Tryz.prog 246 "Length" 213 none := ⟨by kernel_rfl⟩
instance : MI Tryz.prog 246 "EqualsUsing" 207 none := ⟨by kernel_rfl⟩
instance : MI Tryz.prog 246 "IterateUsing" 212 none := ⟨by kernel_rfl⟩
instance : MI Tryz.prog 246 "Has" 210 none := ⟨by kernel_rfl⟩
instance : MI Tryz.prog 246 "GetUsing" 209 none := ⟨by kernel_rfl⟩
instance : MI Tryz.prog 246 "ZipUsing" 216 none := ⟨by kernel_rfl⟩
instance : MI Tryz.prog 272 "Next" 228 none := ⟨by kernel_rfl⟩
instance : MI Tryz.prog 270 "Next" 226 none := ⟨by kernel_rfl⟩
instance : MI Tryz.prog 272 "Item" 227 none := ⟨by kernel_rfl⟩
instance : MTI Tryz.prog 246 9 20 := ⟨by kernel_rfl, by kernel_rfl, by kernel_rfl⟩
instance : ZI Tryz.prog 152 [] := ⟨by kernel_rfl, by rfl⟩
instance : PLI Tryz.prog 152 [] := ⟨by kernel_rfl⟩
instance : ZI Tryz.prog 271 [] := ⟨by kernel_rfl, by rfl⟩
instance : PLI Tryz.prog 271 [] := ⟨by kernel_rfl⟩
theorem free_idle : Idle Tryz.prog 194 2 := by
  refine ⟨by kernel_rfl, fun vs u w hl => ?_⟩
  refine (callsD_of_wp (R := fun e w' => (∃ v, e = .returned v) ∧ Below w.heap.size w w') Tryz.func194 rfl ?_)
  refine wp_skip ?_
  exact ⟨rfl, _, results_none rfl _ _ _, ⟨_, rfl⟩, Below.refl _ _⟩
/-- The struct around a tree. -/
theorem vu_form {w : World} {F : Nat → Prop} {j : JV} {vs : List Value} (h : Reps w F [.agg [pdJ j]] vs) : ∃ u, vs = [.agg #[u]] ∧ IsJ w F j u := by
  unfold Reps at h
  obtain ⟨v, r', rfl, hv, hr⟩ := h
  unfold Reps at hr
  subst hr
  unfold Rep at hv
  obtain ⟨us, rfl, hu, _⟩ := hv
  unfold Reps at hu
  obtain ⟨u, r'', rfl, hj, hr⟩ := hu
  unfold Reps at hr
  subst hr
  unfold pdJ Rep at hj
  exact ⟨u, rfl, hj.1⟩
theorem IsMap_p (j : JV) : PCall Tryz.prog 190 [.agg [pdJ j]] (.val (.bool (JV.IsMap j))) := by
  intro w F vs hF hvs
  obtain ⟨u, rfl, hj⟩ := vu_form hvs
  refine (IsMap_any j w u hj.shape).mono ?_
  rintro e w' ⟨rfl, rfl⟩
  exact ⟨_, rfl, (Below.refl _ _).alloc (Nat.le_refl _) _, by unfold Rep; exact ⟨rfl, trivial⟩⟩
theorem IsList_p (j : JV) : PCall Tryz.prog 189 [.agg [pdJ j]] (.val (.bool (JV.IsList j))) := by
  intro w F vs hF hvs
  obtain ⟨u, rfl, hj⟩ := vu_form hvs
  refine (IsList_any j w u hj.shape).mono ?_
  rintro e w' ⟨rfl, rfl⟩
  exact ⟨_, rfl, (Below.refl _ _).alloc (Nat.le_refl _) _, by unfold Rep; exact ⟨rfl, trivial⟩⟩
theorem IsBool_p (j : JV) : PCall Tryz.prog 186 [.agg [pdJ j]] (.val (.bool (JV.IsBool j))) := by
  intro w F vs hF hvs
  obtain ⟨u, rfl, hj⟩ := vu_form hvs
  refine (IsBool_any j w u hj.shape).mono ?_
  rintro e w' ⟨rfl, rfl⟩
  exact ⟨_, rfl, (Below.refl _ _).alloc (Nat.le_refl _) _, by unfold Rep; exact ⟨rfl, trivial⟩⟩
theorem IsInt_p (j : JV) : PCall Tryz.prog 188 [.agg [pdJ j]] (.val (.bool (JV.IsInt j))) := by
  intro w F vs hF hvs
  obtain ⟨u, rfl, hj⟩ := vu_form hvs
  refine (IsInt_any j w u hj.shape).mono ?_
  rintro e w' ⟨rfl, rfl⟩
  exact ⟨_, rfl, (Below.refl _ _).alloc (Nat.le_refl _) _, by unfold Rep; exact ⟨rfl, trivial⟩⟩
theorem IsFloat_p (j : JV) : PCall Tryz.prog 187 [.agg [pdJ j]] (.val (.bool (JV.IsFloat j))) := by
  intro w F vs hF hvs
  obtain ⟨u, rfl, hj⟩ := vu_form hvs
  refine (IsFloat_any j w u hj.shape).mono ?_
  rintro e w' ⟨rfl, rfl⟩
  exact ⟨_, rfl, (Below.refl _ _).alloc (Nat.le_refl _) _, by unfold Rep; exact ⟨rfl, trivial⟩⟩
theorem IsString_p (j : JV) : PCall Tryz.prog 192 [.agg [pdJ j]] (.val (.bool (JV.IsString j))) := by
  intro w F vs hF hvs
  obtain ⟨u, rfl, hj⟩ := vu_form hvs
  refine (IsString_any j w u hj.shape).mono ?_
  rintro e w' ⟨rfl, rfl⟩
  exact ⟨_, rfl, (Below.refl _ _).alloc (Nat.le_refl _) _, by unfold Rep; exact ⟨rfl, trivial⟩⟩
theorem IsNull_p (j : JV) : PCall Tryz.prog 191 [.agg [pdJ j]] (.val (.bool (JV.IsNull j))) := by
  intro w F vs hF hvs
  obtain ⟨u, rfl, hj⟩ := vu_form hvs
  refine (IsNull_any j w u hj.shape).mono ?_
  rintro e w' ⟨rfl, rfl⟩
  exact ⟨_, rfl, (Below.refl _ _).alloc (Nat.le_refl _) _, by unfold Rep; exact ⟨rfl, trivial⟩⟩
theorem AsBool_p (x : Bool) : PCall Tryz.prog 178 [.agg [pdJ (.bool x)]] (.val (.bool x)) := by
  intro w F vs hF hvs
  obtain ⟨u, rfl, hj⟩ := vu_form hvs
  unfold IsJ at hj; subst hj
  refine (AsBool_any x w).mono ?_
  rintro e w' ⟨rfl, rfl⟩
  exact ⟨_, rfl, (Below.refl _ _).alloc (Nat.le_refl _) _, by unfold Rep; exact ⟨rfl, trivial⟩⟩
theorem AsInt_p (x : Int) : PCall Tryz.prog 180 [.agg [pdJ (.int x)]] (.val (.int .i64 x)) := by
  intro w F vs hF hvs
  obtain ⟨u, rfl, hj⟩ := vu_form hvs
  unfold IsJ at hj; obtain ⟨rfl, hw⟩ := hj
  refine (AsInt_any x w).mono ?_
  rintro e w' ⟨rfl, rfl⟩
  exact ⟨_, rfl, (Below.refl _ _).alloc (Nat.le_refl _) _, by unfold Rep; exact ⟨rfl, hw⟩⟩
theorem AsFloat_p (x : Nat) : PCall Tryz.prog 179 [.agg [pdJ (.flt x)]] (.val (.float .f64 x)) := by
  intro w F vs hF hvs
  obtain ⟨u, rfl, hj⟩ := vu_form hvs
  unfold IsJ at hj; obtain ⟨rfl, hw⟩ := hj
  refine (AsFloat_any x w).mono ?_
  rintro e w' ⟨rfl, rfl⟩
  exact ⟨_, rfl, (Below.refl _ _).alloc (Nat.le_refl _) _, by unfold Rep; exact ⟨rfl, hw⟩⟩
theorem AsString_p (x : ByteArray) : PCall Tryz.prog 185 [.agg [pdJ (.str x)]] (.val (.string x)) := by
  intro w F vs hF hvs
  obtain ⟨u, rfl, hj⟩ := vu_form hvs
  unfold IsJ at hj; obtain ⟨rfl, hw⟩ := hj
  refine (AsString_any x w).mono ?_
  rintro e w' ⟨rfl, rfl⟩
  exact ⟨_, rfl, (Below.refl _ _).alloc (Nat.le_refl _) _, by unfold Rep; exact ⟨rfl, hw⟩⟩
theorem asList_p (l : List JV) : PCall Tryz.prog 182 [.agg [pdJ (.list l)], dvA] (dvL l) := by
  refine PCall.vu ?_
  refine pcall_of_run Tryz.func182 rfl Tryz.ntmps182 rfl (fun X => ?_)
  repeat' (first
    | refine run_seq ?_
    | (refine k_pick rfl ?_; first | refine k_assignD rfl rfl ?_ | refine k_fieldAddrB rfl rfl rfl ?_ | refine k_loadBD rfl rfl rfl (by first | rfl | (simp only [cellsD]; rfl)) ?_ | refine k_boxW rfl rfl rfl (by first | rfl | (simp only [cellsD]; rfl)) ?_ | refine k_iface rfl rfl (by kernel_rfl) ?_ | refine k_ta1 rfl rfl (by kernel_rfl) ?_)
    | refine run_opsEnd ?_
    | refine run_region ?_
    | refine run_retOk (resOk_tmp rfl rfl ?_)
    | fail)
  all_goals exact PLe.refl _
theorem asMap_p (m : List (ByteArray × JV)) : PCall Tryz.prog 184 [.agg [pdJ (.map m)], dvA] (dvM m) := by
  refine PCall.vu ?_
  refine pcall_of_run Tryz.func184 rfl Tryz.ntmps184 rfl (fun X => ?_)
  repeat' (first
    | refine run_seq ?_
    | (refine k_pick rfl ?_; first | refine k_assignD rfl rfl ?_ | refine k_moveD rfl rfl ?_ | refine k_fieldAddrB rfl rfl rfl ?_ | refine k_loadBD rfl rfl rfl (by first | rfl | (simp only [cellsD]; rfl)) ?_ | refine k_boxW rfl rfl rfl (by first | rfl | (simp only [cellsD]; rfl)) ?_ | refine k_extract rfl rfl rfl ?_ | refine k_iface rfl rfl (by kernel_rfl) ?_ | refine k_taS rfl rfl (by kernel_rfl) ?_ | refine k_cmpNil rfl rfl rfl (by kernel_rfl) (by exact NilIs.ifc) rfl ?_)
    | refine run_opsEnd ?_
    | refine run_region ?_
    | refine run_condT rfl (by first | rfl | assumption) ?_
    | refine run_condF rfl (by first | rfl | assumption) ?_
    | refine run_block ?_
    | refine run_skip ?_
    | refine run_retOk (resOk_tmp rfl rfl ?_)
    | fail)
  all_goals exact PLe.refl _
theorem lenL_p (l : List JV) : PCall Tryz.prog 200 [dvLs l] (.val (.int .i64 l.length)) := by
  refine pcall_of_run Tryz.func200 rfl Tryz.ntmps200 rfl (fun X => ?_)
  repeat' (first
    | refine run_seq ?_
    | (refine k_pick rfl ?_; first | refine k_assignD rfl rfl ?_ | refine k_moveD rfl rfl ?_ | refine k_lenJ rfl rfl ?_)
    | refine run_opsEnd ?_
    | refine run_region ?_
    | refine run_retOk (resOk_tmp rfl rfl ?_)
    | fail)
  all_goals exact PLe.refl _
theorem lenM_p (m : List (ByteArray × JV)) : PCall Tryz.prog 213 [dvMm m] (.val (.int .i64 m.length)) := by
  refine pcall_of_run Tryz.func213 rfl Tryz.ntmps213 rfl (fun X => ?_)
  repeat' (first
    | refine run_seq ?_
    | (refine k_pick rfl ?_; first | refine k_assignD rfl rfl ?_ | refine k_moveD rfl rfl ?_ | refine k_lenM rfl rfl ?_)
    | refine run_opsEnd ?_
    | refine run_region ?_
    | refine run_retOk (resOk_tmp rfl rfl ?_)
    | fail)
  all_goals exact PLe.refl _
theorem emptyNext_p : PCall Tryz.prog 226 [.ptr (.agg [])] (.val (.bool false)) := by
  refine pcall_of_run Tryz.func226 rfl Tryz.ntmps226 rfl (fun X => ?_)
  repeat' (first
    | refine run_seq ?_
    | (refine k_pick rfl ?_; refine k_assignD rfl rfl ?_)
    | refine run_opsEnd ?_
    | refine run_region ?_
    | refine run_retOk (resOk_tmp rfl rfl ?_)
    | fail)
  all_goals exact PLe.refl _
def dvE : PD := .iface 270 (.ptr (.agg []))
theorem rangeNil_p : PCall Tryz.prog 202 [dvLs [], dvA] dvE := by
  refine pcall_of_run Tryz.func202 rfl Tryz.ntmps202 rfl (fun X => ?_)
  have hq : decide (((([] : List JV).length : Nat) : Int) = 0) = true := rfl
  repeat' (first
    | refine run_seq ?_
    | (refine k_pick rfl ?_; first | refine k_assignD rfl rfl ?_ | refine k_moveD rfl rfl ?_ | refine k_bin2B rfl rfl rfl rfl ?_ | refine k_boxW rfl rfl rfl (by first | rfl | (simp only [cellsD]; rfl)) ?_ | refine k_build rfl rfl rfl ?_ | refine k_assignI rfl rfl ?_ | refine k_ifaceP rfl rfl (by kernel_rfl) ?_ | refine k_lenJ rfl rfl ?_)
    | refine run_opsEnd ?_
    | refine run_region ?_
    | refine run_condT rfl (by first | rfl | assumption) ?_
    | fail)
  refine run_frz gV (fun _ => true) ?_
  refine run_retOk (resOk_tmp rfl rfl ?_)
  exact PLe.refl _
theorem alloc_c : ACall1 Tryz.prog 107 [.dat (.ptr (.agg []))] [] (.ptr 0 0) [(0, .box 177 [.dat (.val .nilIface)])] := by
  refine acall_of_run Tryz.func107 rfl Tryz.ntmps107 rfl (fun X => ?_)
  repeat' (first
    | refine run_seq ?_
    | (refine k_pick rfl ?_; first | refine k_assignD rfl rfl ?_ | refine k_boxW rfl rfl rfl (by first | rfl | (simp only [cellsD]; rfl)) ?_ | refine k_assignP rfl rfl ?_ | refine k_build rfl rfl rfl ?_)
    | refine run_opsEnd ?_
    | refine run_region ?_
    | fail)
  refine run_retA () (thk [(0, 4)] 0) (tm := [(2, .ptr 0 0)]) ?_ (resA_tmp rfl rfl)
  (refine ⟨?_, ?_, by rfl⟩ <;> repeat' (first | exact trivial | exact ALe.ptr rfl | exact ALe.own rfl | exact ALe.elt rfl | exact BLe.boxD _ _ | exact BLe.row rfl | exact BLe.res | exact BLe.dead rfl | exact ALe.dat (PLe.refl _) | exact CLe.nil | refine And.intro ?_ ?_ | refine ALe.iface ?_ | refine ALe.clo ?_ | refine CLe.cons ?_ ?_ | refine BLe.box ?_ | refine BLe.row ?_ | exact ALe.any _ | refine ALe.dat (PLe.of_eq ?_)))
theorem allocR_c : ACall1 Tryz.prog 232 [.dat (.ptr (.agg []))] [] (.ptr 0 0) [(0, .box 274 [.dat (.val (.slice none 0 0)), .ptr 1 0, .dat (.val (.int .i64 0))]), (1, .box 177 [.dat (.val .nilIface)])] := by
  refine acall_of_run Tryz.func232 rfl Tryz.ntmps232 rfl (fun X => ?_)
  repeat' (first
    | refine run_seq ?_
    | (refine k_pick rfl ?_; first | refine k_assignD rfl rfl ?_ | refine k_boxW rfl rfl rfl (by first | rfl | (simp only [cellsD]; rfl)) ?_ | refine k_assignP rfl rfl ?_ | refine k_build rfl rfl rfl ?_ | refine k_buildG rfl rfl rfl ?_ | refine k_box rfl rfl rfl ?_)
    | refine run_opsEnd ?_
    | refine run_region ?_
    | fail)
  refine run_retA () (thk [(0, 6), (1, 4)] 0) (tm := [(2, .ptr 0 0)]) ?_ (resA_tmp rfl rfl)
  (refine ⟨?_, ?_, by rfl⟩ <;> repeat' (first | exact trivial | exact ALe.ptr rfl | exact ALe.own rfl | exact ALe.elt rfl | exact BLe.boxD _ _ | exact BLe.row rfl | exact BLe.res | exact BLe.dead rfl | exact ALe.dat (PLe.refl _) | exact CLe.nil | refine And.intro ?_ ?_ | refine ALe.iface ?_ | refine ALe.clo ?_ | refine CLe.cons ?_ ?_ | refine BLe.box ?_ | refine BLe.row ?_ | exact ALe.any _ | refine ALe.dat (PLe.of_eq ?_)))
theorem reuse_c (x : AV) (j : JV) : ACall1 Tryz.prog 108 [.ptr 1000 0, .dat (pdJ j)] [(1000, .box 177 [x])] (.iface 149 (.ptr 1000 0)) [(1000, .box 177 [.dat (pdJ j)])] := by
  refine acall_of_run Tryz.func108 rfl Tryz.ntmps108 rfl (fun X => ?_)
  repeat' (first
    | refine run_seq ?_
    | (refine k_pick rfl ?_; first | refine k_assignD rfl rfl ?_ | refine k_moveD rfl rfl ?_ | refine k_fieldAddrB rfl rfl rfl ?_ | refine k_nilB rfl rfl ?_ | refine k_storeB rfl rfl rfl rfl rfl ?_ | refine k_moveP rfl rfl ?_ | refine k_assignI rfl rfl ?_ | refine k_ifaceP rfl rfl (by kernel_rfl) ?_)
    | refine run_opsEnd ?_
    | refine run_region ?_
    | fail)
  refine run_retA () id (tm := [(4, .iface 149 (.ptr 1000 0))]) ?_ (resA_tmp rfl rfl)
  (refine ⟨?_, ?_, by rfl⟩ <;> repeat' (first | exact trivial | exact ALe.ptr rfl | exact ALe.own rfl | exact ALe.elt rfl | exact BLe.boxD _ _ | exact BLe.row rfl | exact BLe.res | exact BLe.dead rfl | exact ALe.dat (PLe.refl _) | exact CLe.nil | refine And.intro ?_ ?_ | refine ALe.iface ?_ | refine ALe.clo ?_ | refine CLe.cons ?_ ?_ | refine BLe.box ?_ | refine BLe.row ?_ | exact ALe.any _ | refine ALe.dat (PLe.of_eq ?_)))
end Go.Proofs.YtbbacpdbbmjblaaGreat
end
section
set_option linter.unusedVariables false
namespace Go.Proofs.YtbbacpdbbmjblaaGreat
open Go.RowKit
set_option linter.unusedSimpArgs false
section
variable {P : Program} {X : Base} {N : Nat} {Q : Exit → Act → World → Prop} {ops : Array Oper} {rem : List Nat} {ks : List Itm} {s s' : Sta} {a : Act} {w w' : World} {ρ : Nat → RV}
theorem groups_at1 {F : Nat → Prop} {u : Value} : ∀ {l : List PD} {xs : List Value} {i : Nat}, Groups w F 1 l xs → l[i]? = some (.val u) → xs[i]? = some u ∧ okV u
  | [], _, _, _, h => by simp at h
  | d :: r, xs, i, hg, h => by
    obtain ⟨u', ys, rfl, hd, hn, h1, hr⟩ := hg
    cases i with
    | zero =>
      simp only [List.getElem?_cons_zero, Option.some.injEq] at h
      subst h
      unfold Rep at hd
      obtain ⟨rfl, hok⟩ := hd
      exact ⟨by rw [one_toList hok.one]; rfl, hok⟩
    | succ i =>
      have := groups_at1 hr (i := i) (by simpa using h)
      refine ⟨?_, this.2⟩
      rw [List.getElem?_append_right (by omega), hn]
      simpa using this.1
theorem groups_set1 {F : Nat → Prop} {u : Value} (hu : okV u) : ∀ {l : List PD} {xs : List Value} {i : Nat}, Groups w F 1 l xs → i < l.length → Groups w F 1 (l.set i (.val u)) (xs.set i u)
  | [], _, _, _, h => by simp at h
  | d :: r, xs, i, hg, h => by
    obtain ⟨u', ys, rfl, hd, hn, h1, hr⟩ := hg
    obtain ⟨c, hc⟩ : ∃ c, u'.cells.toList = [c] := List.length_eq_one_iff.1 hn
    cases i with
    | zero =>
      rw [hc]
      show Groups w F 1 (.val u :: r) (u :: ys)
      exact ⟨u, ys, by rw [one_toList hu.one]; rfl, by unfold Rep; exact ⟨rfl, hu⟩, by rw [one_toList hu.one]; rfl, by rw [one_toList hu.one]; intro c hc; simp at hc; subst hc; exact hu.one, hr⟩
    | succ i =>
      rw [hc]
      show Groups w F 1 (d :: r.set i (.val u)) (c :: ys.set i u)
      exact ⟨u', ys.set i u, by rw [hc]; rfl, hd, hn, h1, groups_set1 hu hr (by simpa using h)⟩
theorem op_indexO {o : Oper} (hd : dstOk X.N o.dst = true) {t : TypeId} {x ix : Operand} (ho : o.op = .indexAddr t x ix) {k e y : Nat} {l : List PD} (hx : s.ev x = .own k) (hk : s.tb k = some (.row e 1 y l)) {q : IntKind} {i : Nat} (hi : s.ev ix = .dat (.val (.int q (i : Int)))) {e' y' : Nat} (ht : slcI P t = some (e', 1, y')) (hl : i < l.length) :
    OpS P X o s (s.put o.dst (.elt k 1 i 0)) := by
  refine opS_value hd fun a w ρ hc => ?_
  have h2 := hc.ev x
  rw [hx] at h2
  have e2 := VR_own h2 hk
  have h3 := hc.ev ix
  rw [hi] at h3
  unfold VR Rep at h3
  obtain ⟨xs, e0, hm, how, hgr, hby, hln⟩ := hc.blks k _ hk
  obtain ⟨inf, hu, hinf, hsz, _⟩ := slcI_spec ht
  rcases how.2 with ⟨_, e3⟩ | ⟨g, cap, cur, e1, hB, hg, hr⟩
  · omega
  refine ⟨.pointer (some ⟨g, i, none⟩), ?_, ?_⟩
  · simp [execOp, ho, e2.trans e1, h3.1, Instr.indexAt, asIntOf, run_underlying hu, hl, sizeOf, typeInfo, hinf, hsz, Addr_add]
  · unfold VR
    exact ⟨rfl, .inl ⟨_, hk, .inl rfl, g, _, cap, e1, by simp⟩⟩
theorem op_loadE {o : Oper} (hd : dstOk X.N o.dst = true) {t : TypeId} {x : Operand} (ho : o.op = .load t x) {k e y i : Nat} {l : List PD} {u : Value} (hx : s.ev x = .elt k 1 i 0) (hk : s.tb k = some (.row e 1 y l)) (ht : varI P t = some (1, false)) (hl : l[i]? = some (.val u)) :
    OpS P X o s (s.put o.dst (.dat (.val u))) := by
  refine opS_value hd fun a w ρ hc => ?_
  have h2 := hc.ev x
  rw [hx] at h2
  unfold VR at h2
  obtain ⟨_, h2⟩ := h2
  obtain ⟨xs, e0, hm, how, hgr, hby, hln⟩ := hc.blks k _ hk
  rcases h2 with ⟨x', h5, h6, g, len, c, e3, e4⟩ | h5
  rotate_left
  · rw [hk] at h5; cases h5
  obtain ⟨hx', hok⟩ := groups_at1 hgr hl
  rcases how.2 with ⟨e5, _⟩ | ⟨g', cap, cur, e1, hB, hg, hc1, hc4, hc2, hc3⟩
  · rw [e3] at e5; cases e5
  rw [e3] at e1
  injection e1 with e1 _ _
  injection e1 with e1
  injection e1 with e1
  subst e1
  have hcell : w.cell? ⟨g, i, none⟩ = some u := by
    rw [cell_of_row w g i _ _ _ hg]
    rw [← hc3, List.getElem?_take] at hx'
    split at hx'
    · simpa using hx'
    · cases hx'
  refine ⟨u, ?_, by unfold VR Rep; exact ⟨rfl, hok⟩⟩
  have e4' : a.eval x = .pointer (some ⟨g, i, none⟩) := by rw [e4]; simp
  simp [execOp, ho, e4', Instr.loadAt, Instr.sureAddr, run_loadVar_cell ht hcell]
theorem ConcAt.setK (h : ConcAt X s a w ρ) {k : Nat} {x x' : Blk} (hk : s.tb k = some x) (hxl : x.live = true) (hkind : x'.kind = x.kind) (hw : Below 0 w w') (hsz : w'.heap.size = w.heap.size) (hoth : ∀ b, ¬ (ρ k).fp b → w'.heap[b]? = w.heap[b]?)
    (hnew : (∀ b, FF X w s.tb ρ b → FF X w' (s.set k x').tb ρ b) → (∀ b, FF X w s.tb ρ b → w'.heap[b]? = w.heap[b]?) → BR X w' (s.set k x').tb ρ k x') : ConcAt X (s.set k x') a w' ρ := by
  have hlk : liveB (s.tb k) = true := by rw [hk]; exact hxl
  have hF : ∀ b', FF X w s.tb ρ b' → w'.heap[b']? = w.heap[b']? := fun b' hF => hoth b' (hF.2.2 k hlk)
  have hdom : ∀ k', liveB ((s.set k x').tb k') = true → liveB (s.tb k') = true := by
    intro k' hk'
    by_cases ek : k' = k
    · subst ek; exact hlk
    · simp only [Sta.set, upd_ne _ _ ek] at hk'; exact hk'
  have hs : ∀ b', FF X w s.tb ρ b' → FF X w' (s.set k x').tb ρ b' := fun b' hF => ⟨hF.1, by rw [hsz]; exact hF.2.1, fun k' hk' => hF.2.2 k' (hdom k' hk')⟩
  have hkk : ∀ k' z, s.tb k' = some z → ∃ z', (s.set k x').tb k' = some z' ∧ ((z'.kind = z.kind ∧ (ρ k').v = (ρ k').v) ∨ (z' = .dead ∧ z.kind ≠ 0)) := by
    intro k' z hz
    by_cases ek : k' = k
    · subst ek; rw [hk] at hz; cases hz; exact ⟨x', upd_same _ _ _, .inl ⟨hkind, rfl⟩⟩
    · exact ⟨z, by simp only [Sta.set, upd_ne _ _ ek]; exact hz, .inl ⟨rfl, rfl⟩⟩
  refine ⟨h.size, h.defers, h.below.step hw.os hw.tape hw.output (by rw [hsz]; exact Nat.le_refl _) (fun j _ hj => hoth j (fun e => hj (h.rowBlk hk hxl e).1)), fun t' => (h.tmps t').keep hF hs hkk, fun k' z hz => ?_, fun k1 k2 b h1 h2 e1 e2 => h.apart k1 k2 b (hdom k1 h1) (hdom k2 h2) e1 e2, fun k' hk' hl' => h.lent k' hk' (hdom k' hl')⟩
  by_cases ek : k' = k
  · subst ek
    simp only [Sta.set, upd_same, Option.some.injEq] at hz
    subst hz
    exact hnew hs hF
  · simp only [Sta.set, upd_ne _ _ ek] at hz
    exact (h.blks k' z hz).keep hF hs hkk rfl (fun b' hl hf => hoth b' fun e => ek (h.apart k' k b' (by rw [hz]; exact hl) hlk hf e)) (by rw [hsz]; exact Nat.le_refl _)
theorem op_storeE {o : Oper} (hd : o.dst = none) {t : TypeId} {x y : Operand} (ho : o.op = .store t x y) {k e z i : Nat} {l : List PD} {u : Value} (hx : s.ev x = .elt k 1 i 0) (hk : s.tb k = some (.row e 1 z l)) (ht : varI P t = some (1, false)) (hl : i < l.length) (hy : s.ev y = .dat (.val u)) :
    OpS P X o s (s.set k (.row e 1 z (l.set i (.val u)))) := by
  intro a w ⟨ρ, hc⟩ K Q hK
  have h2 := hc.ev x
  rw [hx] at h2
  unfold VR at h2
  obtain ⟨_, h2⟩ := h2
  have h4 := hc.ev y
  rw [hy] at h4
  unfold VR Rep at h4
  obtain ⟨e6, hok⟩ := h4
  obtain ⟨xs, e0, hm, how, hgr, hby, hln⟩ := hc.blks k _ hk
  rcases h2 with ⟨x', h5, h6, g, len, c, e3, e4⟩ | h5
  rotate_left
  · rw [hk] at h5; cases h5
  have how' := how
  rcases how.2 with ⟨e5, _⟩ | ⟨g', cap, cur, e1, hB, hg, hc1, hc4, hc2, hc3⟩
  · rw [e3] at e5; cases e5
  have e1' := e1
  rw [e3] at e1
  injection e1 with e1 _ _
  injection e1 with e1
  injection e1 with e1
  subst e1
  have hlen : l.length ≤ cur.size := by omega
  have hrun := run_storeVar_at (P := P) (w := w) ht (b := g) (off := i) (old := cur.toList) (e := e) (by simpa using hg) (v := u) (by rw [one_toList hok.one]; rfl) (by simp; omega) (by rw [one_toList hok.one]; intro c hc; simp at hc; subst hc; exact hok.one)
  rw [one_toList hok.one] at hrun
  have hcur : (cur.toList.take i ++ [u] ++ cur.toList.drop (i + 1)) = cur.toList.set i u := by
    rw [List.set_eq_take_append_cons_drop, if_pos (by simp; omega)]; simp
  rw [hcur] at hrun
  have e4' : a.eval x = .pointer (some ⟨g, i, none⟩) := by rw [e4]; simp
  have hfp : (ρ k).fp g := by rw [e0, e1']; rfl
  have hoth : ∀ b', ¬ (ρ k).fp b' → (w.setRow g (cur.toList.set i u).toArray).heap[b']? = w.heap[b']? := fun b' hb' => setRow_other w g b' _ (fun e => hb' (e ▸ hfp))
  have hsz : (w.setRow g (cur.toList.set i u).toArray).heap.size = w.heap.size := by simp
  refine wp_skipped (w' := w.setRow g (cur.toList.set i u).toArray) (by simp [execOp, ho, e4', e6, Instr.storeAt, Instr.sureAddr, hrun, Result.andThen]) ?_
  rw [hd]
  have hB0 : Below 0 w (w.setRow g (cur.toList.set i u).toArray) := ⟨rfl, rfl, rfl, by rw [hsz]; exact Nat.le_refl _, fun k hk => absurd hk (Nat.not_lt_zero _)⟩
  refine hK _ _ ⟨ρ, (hc.setK (x' := .row e 1 z (l.set i (.val u))) hk rfl rfl hB0 hsz hoth (fun hs hF => ?_)).put_none .any undef⟩
  refine ⟨xs.set i u, e0, hm, ?_, (groups_set1 hok (hgr.keep hF hs) hl), by simpa using hby, by simpa using hln⟩
  rw [e1']
  refine ⟨by simpa using how.1, .inr ⟨g, cap, (cur.toList.set i u).toArray, by simp, hB, setRow_heap w g _ _ e _ (by simpa using hg), by simpa using hc1, hc4, by simpa using hc2, ?_⟩⟩
  simp only [List.length_set]
  rw [List.take_set, hc3]
theorem d_indexO {ops : List Oper} {d : Nat} {t : TypeId} {x ix : Operand} {k e y i : Nat} {l : List PD} {q : IntKind} {e' y' : Nat} (hN : Nat.blt d N = true) (hx : s.ev x = .own k) (hk : s.tb k = some (.row e 1 y l)) (hi : s.ev ix = .dat (.val (.int q (i : Int)))) [ht : SI P t e' 1 y'] (hl : i < l.length) : TrK P X N ops (some d) (.indexAddr t x ix) (Eff.put (some d) (.elt k 1 i 0)) s (s.put (some d) (.elt k 1 i 0)) :=
  act_val hN fun s' _ _ _ _ hd hev htb => op_indexO hd rfl ((hev _ (by simp [Op.operands])).trans hx) ((htb x (by simp [Op.operands]) k (by rw [hx]; simp [keysA])).trans hk) ((hev _ (by simp [Op.operands])).trans hi) ht.out hl
theorem k_indexZ {d : Nat} {t : TypeId} {x ix : Operand} {k e y i : Nat} {z : Int} {l : List PD} {q : IntKind} {e' y' : Nat} (hN : Nat.blt d N = true) (hx : s.ev x = .own k) (hk : s.tb k = some (.row e 1 y l)) (hi : s.ev ix = .dat (.val (.int q z))) [ht : SI P t e' 1 y'] (hz : z = (i : Int)) (hl : i < l.length) (h : Run P X N Q (.ops ops rem :: ks) (s.put (some d) (.elt k 1 i 0))) : RunK P X N Q ops rem ks (some d) (.indexAddr t x ix) s := k_of hN (fun _ _ _ hd => op_indexO hd rfl hx hk (by rw [hi, hz]) ht.out hl) h
theorem d_indexZ {ops : List Oper} {d : Nat} {t : TypeId} {x ix : Operand} {k e y i : Nat} {z : Int} {l : List PD} {q : IntKind} {e' y' : Nat} (hN : Nat.blt d N = true) (hx : s.ev x = .own k) (hk : s.tb k = some (.row e 1 y l)) (hi : s.ev ix = .dat (.val (.int q z))) [ht : SI P t e' 1 y'] (hz : z = (i : Int)) (hl : i < l.length) : TrK P X N ops (some d) (.indexAddr t x ix) (Eff.put (some d) (.elt k 1 i 0)) s (s.put (some d) (.elt k 1 i 0)) :=
  d_indexO hN hx hk (by rw [hi, hz]) hl
theorem k_loadE {d : Nat} {t : TypeId} {x : Operand} {k e y i : Nat} {l : List PD} {u : Value} (hN : Nat.blt d N = true) (hx : s.ev x = .elt k 1 i 0) (hk : s.tb k = some (.row e 1 y l)) [ht : VI P t 1 false] (hl : l[i]? = some (.val u)) (h : Run P X N Q (.ops ops rem :: ks) (s.put (some d) (.dat (.val u)))) : RunK P X N Q ops rem ks (some d) (.load t x) s := k_of hN (fun _ _ _ hd => op_loadE hd rfl hx hk ht.out hl) h
theorem d_loadE {ops : List Oper} {d : Nat} {t : TypeId} {x : Operand} {k e y i : Nat} {l : List PD} {u : Value} (hN : Nat.blt d N = true) (hx : s.ev x = .elt k 1 i 0) (hk : s.tb k = some (.row e 1 y l)) [ht : VI P t 1 false] (hl : l[i]? = some (.val u)) : TrK P X N ops (some d) (.load t x) (Eff.put (some d) (.dat (.val u))) s (s.put (some d) (.dat (.val u))) :=
  act_val hN fun s' _ _ _ _ hd hev htb => op_loadE hd rfl ((hev _ (by simp [Op.operands])).trans hx) ((htb x (by simp [Op.operands]) k (by rw [hx]; simp [keysA])).trans hk) ht.out hl
theorem d_storeE {ops : List Oper} {t : TypeId} {x y : Operand} {k e z i : Nat} {l : List PD} {u : Value} (hx : s.ev x = .elt k 1 i 0) (hk : s.tb k = some (.row e 1 z l)) [ht : VI P t 1 false] (hl : i < l.length) (hy : s.ev y = .dat (.val u)) : TrK P X N ops none (.store t x y) (Eff.set k (.row e 1 z (l.set i (.val u)))) s (s.set k (.row e 1 z (l.set i (.val u)))) :=
  act_set fun s' _ _ _ _ hev htb => op_storeE rfl rfl ((hev _ (by simp [Op.operands])).trans hx) ((htb x (by simp [Op.operands]) k (by rw [hx]; simp [keysA])).trans hk) ht.out hl ((hev _ (by simp [Op.operands])).trans hy)
end
end Go.Proofs.YtbbacpdbbmjblaaGreat
end
section
set_option linter.unusedVariables false
namespace Go.Proofs.YtbbacpdbbmjblaaGreat
open Go.RowKit
set_option linter.unusedSimpArgs false
def fitS (ks : List ByteArray) : Bool := !decide ((2147483647 : Int) < (ks.length : Int)) && ks.all (fun k => !decide ((2147483647 : Int) < (k.size : Int)))
theorem fits2_p (ks : List ByteArray) : PCall Tryz.prog 32 [.sl 1 16 (pdS ks)] (.val (.bool (fitS ks))) := by
  refine pcall_fits fun hfit => ?_
  have b1 := (hfit (.sl 1 16 (pdS ks)) (by simp)).sl.2.1
  have hlen := pdS_len ks
  rw [hlen] at b1
  clear hfit
  refine pcall_of_run Tryz.func32 rfl Tryz.ntmps32 rfl (fun X => ?_)
  unfold fitS
  cases h0 : decide ((2147483647 : Int) < (ks.length : Int)) with
  | true =>
    have q0 : decide ((2147483647 : Int) < (((pdS ks).length : Nat) : Int)) = true := by rw [hlen]; exact h0
    repeat' (first
    | refine run_seq ?_
    | (refine k_pick rfl ?_; first | refine k_assignD rfl rfl ?_ | refine k_moveD rfl rfl ?_ | refine k_bin2B rfl rfl rfl rfl ?_ | refine k_lenD rfl rfl ?_)
    | refine run_opsEnd ?_
    | refine run_region ?_
    | refine run_condT rfl (by first | rfl | assumption) ?_
    | refine run_retOk (resOk_tmp rfl rfl ?_)
    | fail)
    all_goals exact PLe.refl _
  | false =>
    have q0 : decide ((2147483647 : Int) < (((pdS ks).length : Nat) : Int)) = false := by rw [hlen]; exact h0
    repeat' (first
    | refine run_seq ?_
    | (refine k_pick rfl ?_; first | refine k_assignD rfl rfl ?_ | refine k_moveD rfl rfl ?_ | refine k_bin2B rfl rfl rfl rfl ?_ | refine k_lenD rfl rfl ?_)
    | refine run_opsEnd ?_
    | refine run_region ?_
    | refine run_condF rfl (by first | rfl | assumption) ?_
    | refine run_block ?_
    | refine run_skip ?_
    | fail)
    refine run_loopS (ι := { j : Nat // j ≤ ks.length ∧ ∀ i x, i < j → ks[i]? = some x → decide ((2147483647 : Int) < (x.size : Int)) = false })
      (fun j => [(8, .dat (.sl 1 16 (pdS ks))), (9, .dat (.val (.int .i64 ((pdS ks).length : Nat)))), (10, .dat (.val (.int .i64 (j.1 : Nat))))])
      (fun _ => []) (fun j => ks.length - j.1) ⟨0, Nat.zero_le _, fun i _ h => absurd h (Nat.not_lt_zero i)⟩ id ?_ ?_
    · (refine ⟨?_, ?_, by rfl⟩ <;> repeat' (first | exact trivial | exact ALe.ptr rfl | exact ALe.own rfl | exact ALe.elt rfl | exact BLe.boxD _ _ | exact BLe.row rfl | exact BLe.res | exact BLe.dead rfl | exact ALe.dat (PLe.refl _) | exact CLe.nil | refine And.intro ?_ ?_ | refine ALe.iface ?_ | refine ALe.clo ?_ | refine CLe.cons ?_ ?_ | refine BLe.box ?_ | refine BLe.row ?_ | exact ALe.any _ | refine ALe.dat (PLe.of_eq ?_)))
    rintro ⟨j, hj, hall⟩
    by_cases hlt : j < ks.length
    · have hc : decide ((j : Int) < (((pdS ks).length : Nat) : Int)) = true := by rw [hlen]; simpa using hlt
      obtain ⟨x, hx⟩ : ∃ x, ks[j]? = some x := ⟨_, List.getElem?_eq_getElem hlt⟩
      have i1 : (pdS ks)[((j : Nat) : Int).toNat]? = some (.val (.string x)) := pdS_at hx
      cases h1 : decide ((2147483647 : Int) < (x.size : Int)) with
      | false =>
        repeat' (first
    | refine run_seq ?_
    | (refine k_pick rfl ?_; first | refine k_indexAddrD rfl rfl rfl (by first | omega | (dsimp only; omega)) (by assumption) ?_ | refine k_assignD rfl rfl ?_ | refine k_moveD rfl rfl ?_ | refine k_bin2B rfl rfl rfl rfl ?_ | refine k_lenS rfl rfl (by kernel_rfl) ?_ | refine k_ariI rfl rfl rfl rfl (by first | omega | (dsimp only; omega)) ?_ | refine k_loadD rfl rfl (by first | rfl | (simp only [cellsD]; rfl)) ?_)
    | refine run_opsEnd ?_
    | refine run_region ?_
    | refine run_condT rfl (by first | rfl | assumption) ?_
    | refine run_condF rfl (by first | rfl | assumption) ?_
    | refine run_block ?_
    | refine run_blkEnd ?_
    | refine run_skip ?_
    | fail)
        refine run_again ?_
        refine ⟨⟨j + 1, by omega, fun i y hi hy => ?_⟩, id, by simp only; omega, ?_⟩
        · by_cases e : i = j
          · subst e; rw [hx] at hy; cases hy; exact h1
          · exact hall i y (by omega) hy
        (refine ⟨?_, ?_, by rfl⟩ <;> repeat' (first | exact trivial | exact ALe.ptr rfl | exact ALe.own rfl | exact ALe.elt rfl | exact BLe.boxD _ _ | exact BLe.row rfl | exact BLe.res | exact BLe.dead rfl | exact ALe.dat (PLe.refl _) | exact CLe.nil | refine And.intro ?_ ?_ | refine ALe.iface ?_ | refine ALe.clo ?_ | refine CLe.cons ?_ ?_ | refine BLe.box ?_ | refine BLe.row ?_ | exact ALe.any _ | refine ALe.dat (PLe.of_eq ?_)))
      | true =>
        have e : ks.all (fun k => !decide ((2147483647 : Int) < (k.size : Int))) = false := by
          cases h : ks.all (fun k => !decide ((2147483647 : Int) < (k.size : Int))) with
          | false => rfl
          | true => have := List.all_eq_true.1 h x (List.mem_of_getElem? hx); rw [h1] at this; cases this
        rw [e]
        repeat' (first
    | refine run_seq ?_
    | (refine k_pick rfl ?_; first | refine k_indexAddrD rfl rfl rfl (by first | omega | (dsimp only; omega)) (by assumption) ?_ | refine k_assignD rfl rfl ?_ | refine k_moveD rfl rfl ?_ | refine k_bin2B rfl rfl rfl rfl ?_ | refine k_lenS rfl rfl (by kernel_rfl) ?_ | refine k_loadD rfl rfl (by first | rfl | (simp only [cellsD]; rfl)) ?_)
    | refine run_opsEnd ?_
    | refine run_region ?_
    | refine run_condT rfl (by first | rfl | assumption) ?_
    | refine run_block ?_
    | refine run_skip ?_
    | refine run_retOk (resOk_tmp rfl rfl ?_)
    | fail)
        all_goals exact PLe.refl _
    · have hc : decide ((j : Int) < (((pdS ks).length : Nat) : Int)) = false := by rw [hlen]; simpa using hlt
      have e : ks.all (fun k => !decide ((2147483647 : Int) < (k.size : Int))) = true := List.all_eq_true.2 fun x hx => by
        obtain ⟨i, hi⟩ := List.getElem?_of_mem hx
        rw [hall i x (by have := (List.getElem?_eq_some_iff.1 hi).1; omega) hi]; rfl
      rw [e]
      repeat' (first
    | refine run_seq ?_
    | (refine k_pick rfl ?_; first | refine k_assignD rfl rfl ?_ | refine k_bin2B rfl rfl rfl rfl ?_)
    | refine run_opsEnd ?_
    | refine run_region ?_
    | refine run_condF rfl (by first | rfl | assumption) ?_
    | refine run_exit rfl ?_
    | refine run_retOk (resOk_tmp rfl rfl ?_)
    | fail)
      all_goals exact PLe.refl _
end Go.Proofs.YtbbacpdbbmjblaaGreat
end
section
set_option linter.unusedVariables false
namespace Go.Proofs.YtbbacpdbbmjblaaGreat
open Go.RowKit
set_option linter.unusedSimpArgs false
section
variable {P : Program} {X : Base} {N : Nat} {Q : Exit → Act → World → Prop} {ops : Array Oper} {rem : List Nat} {ks : List Itm} {s s' : Sta}
end
theorem has_p (m : List (ByteArray × JV)) (k : ByteArray) : PCall Tryz.prog 210 [dvMm m, .val (.string k)] (.val (.bool (lkJ m k).isSome)) := by
  refine pcall_of_run Tryz.func210 rfl Tryz.ntmps210 rfl (fun X => ?_)
  cases h : lkJ m k with
  | none =>
    repeat' (first
    | refine run_seq ?_
    | (refine k_pick rfl ?_; first | refine k_assignD rfl rfl ?_ | refine k_moveD rfl rfl ?_ | refine k_extract rfl rfl rfl ?_ | refine k_lookM rfl rfl rfl (by assumption) ?_)
    | refine run_opsEnd ?_
    | refine run_region ?_
    | refine run_retOk (resOk_tmp rfl rfl ?_)
    | fail)
    all_goals exact PLe.refl _
  | some x =>
    repeat' (first
    | refine run_seq ?_
    | (refine k_pick rfl ?_; first | refine k_assignD rfl rfl ?_ | refine k_moveD rfl rfl ?_ | refine k_extract rfl rfl rfl ?_ | refine k_lookM rfl rfl rfl (by assumption) ?_)
    | refine run_opsEnd ?_
    | refine run_region ?_
    | refine run_retOk (resOk_tmp rfl rfl ?_)
    | fail)
    all_goals exact PLe.refl _
end Go.Proofs.YtbbacpdbbmjblaaGreat
end
section
set_option linter.unusedVariables false
namespace Go.Proofs.YtbbacpdbbmjblaaGreat
set_option linter.unusedSimpArgs false
theorem lkJ_getA : ∀ (m : List (ByteArray × JV)) (k : ByteArray), lkJ m k = getA m k
  | [], _ => rfl
  | x :: r, k => by unfold lkJ getA; rw [lkJ_getA r k]
theorem nodup_sub {α : Type} [DecidableEq α] : ∀ {a l : List α}, a.Nodup → (∀ x ∈ a, x ∈ l) → l.length ≤ a.length → ∀ x ∈ l, x ∈ a
  | a, l, hn, hs, hl, x, hx => by
    by_cases h : x ∈ a
    · exact h
    · have := nodup_len (a := x :: a) (l := l) (List.nodup_cons.2 ⟨h, hn⟩) (fun y hy => by
        rcases List.mem_cons.1 hy with rfl | hy
        · exact hx
        · exact hs y hy)
      simp at this; omega
theorem incr_ext {a b : List ByteArray} (ha : Incr a) (hb : Incr b) (h : ∀ k, k ∈ a ↔ k ∈ b) : a = b := by
  have hg1 : ∀ (l : List ByteArray) (k : ByteArray), k ∈ l → getA (l.map fun k => (k, ())) k = some () := by
    intro l k hk
    induction l with
    | nil => simp at hk
    | cons x r ih =>
      simp only [List.map_cons, getA]
      by_cases e : x = k
      · rw [if_pos e]
      · rw [if_neg e]
        rcases List.mem_cons.1 hk with h | h
        · exact absurd h.symm e
        · exact ih h
  have hg2 : ∀ (l : List ByteArray) (k : ByteArray), k ∉ l → getA (l.map fun k => (k, ())) k = none := by
    intro l k hk
    exact getA_none fun e he => by
      obtain ⟨x, hx, rfl⟩ := List.mem_map.1 he
      exact fun e => hk (e ▸ hx)
  have e1 : ∀ l : List ByteArray, (l.map fun k => (k, ())).map (·.1) = l := fun l => by
    induction l with
    | nil => rfl
    | cons x r ih => simp only [List.map_cons, ih]
  have := getA_ext (a := a.map fun k => (k, ())) (b := b.map fun k => (k, ())) (by rw [e1]; exact ha) (by rw [e1]; exact hb) (fun k => by
    by_cases hk : k ∈ a
    · rw [hg1 _ _ hk, hg1 _ _ ((h k).1 hk)]
    · rw [hg2 _ _ hk, hg2 _ _ (fun hb => hk ((h k).2 hb))])
  have := congrArg (List.map (·.1)) this
  rwa [e1, e1] at this
theorem incr_nd {ks : List ByteArray} (h : Incr ks) : ks.Nodup := List.Pairwise.imp (fun {a b} hab e => by subst e; rw [blt_irrefl] at hab; cases hab) h
theorem zip_idx {α : Type} {ks : List ByteArray} {l : List α} (hl : ks.length = l.length) (hi : Incr ks) {k : ByteArray} {x : α} : getA (ks.zip l) k = some x ↔ ∃ i : Nat, ks[i]? = some k ∧ l[i]? = some x := by
  constructor
  · intro h
    obtain ⟨i, hi'⟩ := List.getElem?_of_mem (getA_mem h)
    rw [List.getElem?_zip_eq_some] at hi'
    exact ⟨i, hi'⟩
  · rintro ⟨i, h1, h2⟩
    refine getA_of_mem (by rw [zip_fst hl]; exact incr_nd hi) ?_
    exact List.mem_of_getElem? (i := i) (List.getElem?_zip_eq_some.2 ⟨h1, h2⟩)
/-- A map's plain value: its keys and values. -/
theorem unM_form {m : List (ByteArray × JV)} (hd : (m.map (·.1)).Nodup) : ∃ ks l, unM m gMap = .mk 6 0 0 ByteArray.empty ks l ∧ Incr ks ∧ ks.length = l.length ∧ (∀ k, k ∈ ks ↔ k ∈ m.map (·.1)) ∧ ∀ k x, (∃ i : Nat, ks[i]? = some k ∧ l[i]? = some x) ↔ ∃ j, getA m k = some j ∧ unJ j = x := by
  obtain ⟨ks, l, e, hi, hl⟩ := unM_plain m gMap gMap_plain
  have hg : ∀ k, getA (ks.zip l) k = (getA m k).map unJ := fun k => by
    have := getF_unM m gMap gMap_plain hd k
    rw [getF_gMap, Option.or_none, e] at this
    exact this
  have key : ∀ k x, (∃ i : Nat, ks[i]? = some k ∧ l[i]? = some x) ↔ ∃ j, getA m k = some j ∧ unJ j = x := fun k x => by
    rw [← zip_idx hl hi, hg, Option.map_eq_some_iff]
  refine ⟨ks, l, e, hi, hl, fun k => ?_, key⟩
  constructor
  · intro hk
    obtain ⟨i, hi'⟩ := List.getElem?_of_mem hk
    have hlt := (List.getElem?_eq_some_iff.1 hi').1
    obtain ⟨j, hj, _⟩ := (key k l[i]).1 ⟨i, hi', List.getElem?_eq_getElem (hl ▸ hlt)⟩
    exact List.mem_map_of_mem (f := (·.1)) (getA_mem hj)
  · intro hk
    obtain ⟨y, hy, rfl⟩ := List.mem_map.1 hk
    obtain ⟨i, h1, _⟩ := (key y.1 (unJ y.2)).2 ⟨y.2, getA_of_mem hd hy, rfl⟩
    exact List.mem_of_getElem? h1
end Go.Proofs.YtbbacpdbbmjblaaGreat
end
section
set_option linter.unusedVariables false
namespace Go.Proofs.YtbbacpdbbmjblaaGreat
open Go.RowKit
set_option linter.unusedSimpArgs false
/-- A value that may be there. -/
def valD : Option JV → PD
  | some j => dvV j
  | none => .val .nilIface
theorem get_p (m : List (ByteArray × JV)) (k : ByteArray) : PCall Tryz.prog 209 [dvMm m, dvA, .val (.string k)] (.tup [valD (lkJ m k), .val (.bool (lkJ m k).isSome)]) := by
  refine pcall_of_run Tryz.func209 rfl Tryz.ntmps209 rfl (fun X => ?_)
  cases h : lkJ m k with
  | none =>
    have hq : (!false) = true := rfl
    repeat' (first
    | refine run_seq ?_
    | (refine k_pick rfl ?_; first | refine k_assignD rfl rfl ?_ | refine k_moveD rfl rfl ?_ | refine k_extract rfl rfl rfl ?_ | refine k_not rfl rfl ?_ | refine k_lookM rfl rfl rfl (by assumption) ?_)
    | refine run_opsEnd ?_
    | refine run_region ?_
    | refine run_condT rfl (by first | rfl | assumption) ?_
    | refine run_retOk (resOk_tmp2 rfl rfl rfl ?_ ?_)
    | fail)
    all_goals exact PLe.refl _
  | some x =>
    repeat' (first
    | refine run_seq ?_
    | (refine k_pick rfl ?_; first | refine k_assignD rfl rfl ?_ | refine k_moveD rfl rfl ?_ | refine k_extract rfl rfl rfl ?_ | refine k_not rfl rfl ?_ | refine k_invAS1 (thk [] 200) rfl rfl (by kernel_rfl) (alloc_c) rfl trivial rfl (freshB_ok rfl) rfl ?_ | refine k_acall1 (thk [(1000, _)] 200) rfl (by kernel_rfl) (reuse_c (.dat (.val .nilIface)) x) rfl ⟨rfl, trivial⟩ rfl (freshB_ok rfl) rfl ?_ | refine k_assignI rfl rfl ?_ | refine k_lookM rfl rfl rfl (by assumption) ?_)
    | refine run_opsEnd ?_
    | refine run_region ?_
    | refine run_condF rfl (by first | rfl | assumption) ?_
    | fail)
    refine run_frz gV (fun _ => true) ?_
    refine run_retOk (resOk_tmp2 rfl rfl rfl ?_ ?_)
    all_goals exact PLe.refl _
theorem free_p (d : PD) : PCall Tryz.prog 194 [.ptr (.agg []), d] (.tup []) := by
  intro w F vs hF hvs
  have hl := hvs.length
  refine (calls_of_wp (R := fun e w' => ∃ v, e = .returned v ∧ Below w.heap.size w w' ∧ Rep w' (fun b => F b ∨ (w.heap.size ≤ b ∧ b < w'.heap.size)) (.tup []) v) Tryz.func194 rfl ?_)
  refine wp_skip ?_
  exact ⟨rfl, _, results_none rfl _ _ _, _, rfl, Below.refl _ _, by unfold Rep; exact ⟨[], rfl, by unfold Reps; rfl⟩⟩
theorem pdS_snoc (l : List ByteArray) (k : ByteArray) : pdS l ++ [.val (.string k)] = pdS (l ++ [k]) := by simp [pdS]
/-- The keys of one map. -/
theorem clo1_c (l : List ByteArray) (k : ByteArray) (j : JV) (hl : (l.length + 1) * 16 ≤ 140737488351232) :
    ACall1 Tryz.prog 223 [.dat (.val (.string k)), .iface 149 (.ptr 1002 0), .ptr 1000 0]
    [(1000, .box 23 [.own 1001]), (1001, .row 9 1 16 (pdS l)), (1002, .box 177 [.dat (pdJ j)])]
    (.dat (.val (.bool true)))
    [(1000, .box 23 [.own 0]), (1001, .dead), (1002, .box 177 [.dat (pdJ j)]), (0, .row 9 1 16 (pdS (l ++ [k])))] := by
  refine acall_of_run Tryz.func223 rfl Tryz.ntmps223 rfl (fun X => ?_)
  have hlen := pdS_len l
  have hb1 : ((pdS l).length + ([.val (.string k)] : List PD).length) * 16 ≤ 140737488351232 := by rw [hlen]; simpa using hl
  have hb2 : (pdS l).length + ([.val (.string k)] : List PD).length ≤ 140737488351232 := by rw [hlen]; simp; omega
  repeat' (first
    | refine run_seq ?_
    | (refine k_pick rfl ?_; first | refine k_appendOO rfl rfl rfl rfl rfl rfl (by kernel_rfl) rfl rfl hb1 hb2 ?_ | refine k_assignD rfl rfl ?_ | refine k_moveD rfl rfl ?_ | refine k_storeB rfl rfl rfl rfl rfl ?_ | refine k_loadBO rfl rfl rfl rfl ?_ | refine k_buildSlice rfl rfl (by kernel_rfl) rfl rfl rfl rfl rfl ?_)
    | refine run_opsEnd ?_
    | refine run_region ?_
    | fail)
  refine run_retA () (thk [(0, 9)] 0) (tm := [(5, .dat (.val (.bool true)))]) ?_ (resA_tmp rfl rfl)
  (refine ⟨?_, ?_, by rfl⟩ <;> repeat' (first | exact trivial | exact ALe.ptr rfl | exact ALe.own rfl | exact ALe.elt rfl | exact BLe.boxD _ _ | exact BLe.row rfl | exact BLe.res | exact BLe.dead rfl | exact ALe.dat (PLe.refl _) | exact CLe.nil | refine And.intro ?_ ?_ | refine ALe.iface ?_ | refine ALe.clo ?_ | refine CLe.cons ?_ ?_ | refine BLe.box ?_ | refine BLe.row ?_ | exact ALe.any _ | refine ALe.dat (PLe.of_eq ?_)))
  all_goals exact pdS_snoc l k
/-- The keys of the other, that the first has not. -/
theorem clo2_c (m : List (ByteArray × JV)) (l : List ByteArray) (k : ByteArray) (j : JV) (hl : (l.length + 1) * 16 ≤ 140737488351232) :
    ACall1 Tryz.prog 224 [.dat (.val (.string k)), .iface 149 (.ptr 1003 0), .ptr 1000 0, .ptr 1001 0]
    [(1000, .box 195 [.dat (dvM m)]), (1001, .box 23 [.own 1002]), (1002, .row 9 1 16 (pdS l)), (1003, .box 177 [.dat (pdJ j)])]
    (.dat (.val (.bool true)))
    [(1000, .box 195 [.dat (dvM m)]), (1001, .box 23 [.own 0]), (1002, .dead), (1003, .box 177 [.dat (pdJ j)]), (0, .row 9 1 16 (pdS (l ++ if (lkJ m k).isSome then [] else [k])))] := by
  have hH := has_p m k
  refine acall_of_run Tryz.func224 rfl Tryz.ntmps224 rfl (fun X => ?_)
  have hlen := pdS_len l
  have hb1 : ((pdS l).length + ([.val (.string k)] : List PD).length) * 16 ≤ 140737488351232 := by rw [hlen]; simpa using hl
  have hb2 : (pdS l).length + ([.val (.string k)] : List PD).length ≤ 140737488351232 := by rw [hlen]; simp; omega
  cases h : (lkJ m k).isSome with
  | true =>
    rw [h] at hH
    repeat' (first
    | refine run_seq ?_
    | (refine k_pick rfl ?_; first | refine k_assignD rfl rfl ?_ | refine k_moveD rfl rfl ?_ | refine k_loadBD rfl rfl rfl (by first | rfl | (simp only [cellsD]; rfl)) ?_ | refine k_pickF rfl rfl (by first | rfl | assumption) rfl ?_ | refine k_cmpNil rfl rfl rfl (by kernel_rfl) (by exact NilIs.ifc) rfl ?_)
    | refine run_opsEnd ?_
    | refine run_region ?_
    | refine run_condF rfl (by first | rfl | assumption) ?_
    | (refine k_guardY rfl rfl (by first | rfl | assumption) ?_; first | refine k_moveD rfl rfl ?_ | refine k_loadBD rfl rfl rfl (by first | rfl | (simp only [cellsD]; rfl)) ?_ | refine k_not rfl rfl ?_ | refine k_invS rfl rfl (by kernel_rfl) rfl (by first | exact hH) ?_)
    | refine run_skip ?_
    | fail)
    refine run_retA () (thk [(0, 1002)] 0) (tm := [(6, .dat (.val (.bool true)))]) ?_ (resA_tmp rfl rfl)
    (refine ⟨?_, ?_, by rfl⟩ <;> repeat' (first | exact trivial | exact ALe.ptr rfl | exact ALe.own rfl | exact ALe.elt rfl | exact BLe.boxD _ _ | exact BLe.row rfl | exact BLe.res | exact BLe.dead rfl | exact ALe.dat (PLe.refl _) | exact CLe.nil | refine And.intro ?_ ?_ | refine ALe.iface ?_ | refine ALe.clo ?_ | refine CLe.cons ?_ ?_ | refine BLe.box ?_ | refine BLe.row ?_ | exact ALe.any _ | refine ALe.dat (PLe.of_eq ?_)))
    all_goals simp
  | false =>
    rw [h] at hH
    repeat' (first
    | refine run_seq ?_
    | (refine k_pick rfl ?_; first | refine k_appendOO rfl rfl rfl rfl rfl rfl (by kernel_rfl) rfl rfl hb1 hb2 ?_ | refine k_assignD rfl rfl ?_ | refine k_moveD rfl rfl ?_ | refine k_loadBD rfl rfl rfl (by first | rfl | (simp only [cellsD]; rfl)) ?_ | refine k_pickF rfl rfl (by first | rfl | assumption) rfl ?_ | refine k_storeB rfl rfl rfl rfl rfl ?_ | refine k_loadBO rfl rfl rfl rfl ?_ | refine k_buildSlice rfl rfl (by kernel_rfl) rfl rfl rfl rfl rfl ?_ | refine k_cmpNil rfl rfl rfl (by kernel_rfl) (by exact NilIs.ifc) rfl ?_)
    | refine run_opsEnd ?_
    | refine run_region ?_
    | refine run_condT rfl (by first | rfl | assumption) ?_
    | (refine k_guardY rfl rfl (by first | rfl | assumption) ?_; first | refine k_moveD rfl rfl ?_ | refine k_loadBD rfl rfl rfl (by first | rfl | (simp only [cellsD]; rfl)) ?_ | refine k_not rfl rfl ?_ | refine k_invS rfl rfl (by kernel_rfl) rfl (by first | exact hH) ?_)
    | fail)
    refine run_retA () (thk [(0, 18)] 0) (tm := [(6, .dat (.val (.bool true)))]) ?_ (resA_tmp rfl rfl)
    (refine ⟨?_, ?_, by rfl⟩ <;> repeat' (first | exact trivial | exact ALe.ptr rfl | exact ALe.own rfl | exact ALe.elt rfl | exact BLe.boxD _ _ | exact BLe.row rfl | exact BLe.res | exact BLe.dead rfl | exact ALe.dat (PLe.refl _) | exact CLe.nil | refine And.intro ?_ ?_ | refine ALe.iface ?_ | refine ALe.clo ?_ | refine CLe.cons ?_ ?_ | refine BLe.box ?_ | refine BLe.row ?_ | exact ALe.any _ | refine ALe.dat (PLe.of_eq ?_)))
    all_goals (simp only [Bool.false_eq_true, if_false]; exact pdS_snoc l k)
end Go.Proofs.YtbbacpdbbmjblaaGreat
end
section
set_option linter.unusedVariables false
namespace Go.Proofs.YtbbacpdbbmjblaaGreat
open Go.RowKit
set_option linter.unusedSimpArgs false
theorem more_len {m done : List (ByteArray × JV)} {y : ByteArray × JV} (hnd : (done.map (·.1)).Nodup) (hsub : ∀ z ∈ done, z ∈ m) (hy : y ∈ m) (hny : y.1 ∉ done.map (·.1)) : done.length + 1 ≤ m.length := by
  have := nodup_len (a := (done ++ [y]).map (·.1)) (l := m.map (·.1)) (by
    rw [List.map_append, List.nodup_append]
    exact ⟨hnd, by simp, fun a ha b hb => by simp at hb; subst hb; exact fun e => hny (e ▸ ha)⟩) (fun x hx => by
    obtain ⟨z, hz, rfl⟩ := List.mem_map.1 hx
    rcases List.mem_append.1 hz with hz | hz
    · exact List.mem_map_of_mem (hsub z hz)
    · simp at hz; rw [hz]; exact List.mem_map_of_mem hy)
  simpa using this
theorem more_nd {done : List (ByteArray × JV)} {y : ByteArray × JV} (hnd : (done.map (·.1)).Nodup) (hny : y.1 ∉ done.map (·.1)) : ((done ++ [y]).map (·.1)).Nodup := by
  rw [List.map_append, List.nodup_append]
  exact ⟨hnd, by simp, fun a ha b hb => by simp at hb; subst hb; exact fun e => hny (e ▸ ha)⟩
theorem more_sub {m done : List (ByteArray × JV)} {y : ByteArray × JV} (hsub : ∀ z ∈ done, z ∈ m) (hy : y ∈ m) : ∀ z ∈ done ++ [y], z ∈ m := by
  intro z hz
  rcases List.mem_append.1 hz with hz | hz
  · exact hsub z hz
  · simp at hz; rw [hz]; exact hy
theorem all_perm {m done : List (ByteArray × JV)} (hm : (m.map (·.1)).Nodup) (hnd : (done.map (·.1)).Nodup) (hsub : ∀ z ∈ done, z ∈ m) (hev : ∀ y ∈ m, y ∈ done) : (done.map (·.1)).Perm (m.map (·.1)) :=
  (List.perm_ext_iff_of_nodup hnd hm).2 fun k => ⟨fun h => by
    obtain ⟨z, hz, rfl⟩ := List.mem_map.1 h
    exact List.mem_map_of_mem (hsub z hz), fun h => by
    obtain ⟨z, hz, rfl⟩ := List.mem_map.1 h
    exact List.mem_map_of_mem (hev z hz)⟩
set_option maxHeartbeats 4000000 in
theorem iter1_c (m : List (ByteArray × JV)) (l : List ByteArray) (hm : (m.map (·.1)).Nodup) (hl : (l.length + m.length) * 16 ≤ 140737488351232) :
    ACall Tryz.prog 212 [.dat (dvMm m), .dat dvA, .clo 223 [.ptr 1000 0]]
    [(1000, .box 23 [.own 1001]), (1001, .row 9 1 16 (pdS l))] (ι := { q : List ByteArray // q.Perm (m.map (·.1)) })
    (fun _ => .dat (.val (.bool true))) (fun q => [(1000, .box 23 [.own 0]), (1001, .dead), (0, .row 9 1 16 (pdS (l ++ q.1)))]) := by
  refine acall_of_run Tryz.func212 rfl Tryz.ntmps212 rfl (fun X => ?_)
  by_cases hn : m = []
  · subst hn
    have hq : decide (((([] : List (ByteArray × JV)).length : Nat) : Int) = 0) = true := rfl
    repeat' (first
    | refine run_seq ?_
    | (refine k_pick rfl ?_; first | refine k_assignD rfl rfl ?_ | refine k_moveD rfl rfl ?_ | refine k_bin2B rfl rfl rfl rfl ?_ | refine k_lenM rfl rfl ?_)
    | refine run_opsEnd ?_
    | refine run_region ?_
    | refine run_condT rfl (by first | rfl | assumption) ?_
    | fail)
    refine run_retA ⟨[], .refl _⟩ (thk [(0, 1001)] 0) (tm := [(6, .dat (.val (.bool true)))]) ?_ (resA_tmp rfl rfl)
    (refine ⟨?_, ?_, by rfl⟩ <;> repeat' (first | exact trivial | exact ALe.ptr rfl | exact ALe.own rfl | exact ALe.elt rfl | exact BLe.boxD _ _ | exact BLe.row rfl | exact BLe.res | exact BLe.dead rfl | exact ALe.dat (PLe.refl _) | exact CLe.nil | refine And.intro ?_ ?_ | refine ALe.iface ?_ | refine ALe.clo ?_ | refine CLe.cons ?_ ?_ | refine BLe.box ?_ | refine BLe.row ?_ | exact ALe.any _ | refine ALe.dat (PLe.of_eq ?_)))
    all_goals simp
  · have hq : decide (((m.length : Nat) : Int) = 0) = false := by
      cases m with
      | nil => exact absurd rfl hn
      | cons x r => simp; omega
    repeat' (first
    | refine run_seq ?_
    | (refine k_pick rfl ?_; first | refine k_rangeM rfl rfl rfl ?_ | refine k_assignD rfl rfl ?_ | refine k_moveD rfl rfl ?_ | refine k_bin2B rfl rfl rfl rfl ?_ | refine k_assignP rfl rfl ?_ | refine k_moveP rfl rfl ?_ | refine k_invAS1 (thk [] 200) rfl rfl (by kernel_rfl) (alloc_c) rfl trivial rfl (freshB_ok rfl) rfl ?_ | refine k_nilI rfl rfl ?_ | refine k_ifaceP rfl rfl (by kernel_rfl) ?_ | refine k_lenM rfl rfl ?_ | refine k_deferA rfl free_idle ?_)
    | refine run_opsEnd ?_
    | refine run_region ?_
    | refine run_condF rfl (by first | rfl | assumption) ?_
    | refine run_block ?_
    | refine run_skip ?_
    | fail)
    refine run_loopS (ι := { done : List (ByteArray × JV) // (done.map (·.1)).Nodup ∧ (∀ y ∈ done, y ∈ m) })
      (fun k => [(2, .clo 223 [.ptr 1000 0]), (7, .ptr 200 0), (20, .own 20)])
      (fun k => [(20, .res (itR m k.1)), (200, .box 177 [.any]), (1000, .box 23 [.own 300]), (1001, .dead), (300, .row 9 1 16 (pdS (l ++ k.1.map (·.1))))])
      (fun k => m.length - k.1.length) ⟨[], by simp, by simp⟩ (thk [(300, 1001)] 0) ?_ ?_
    · (refine ⟨?_, ?_, by rfl⟩ <;> repeat' (first | exact trivial | exact ALe.ptr rfl | exact ALe.own rfl | exact ALe.elt rfl | exact BLe.boxD _ _ | exact BLe.row rfl | exact BLe.res | exact BLe.dead rfl | exact ALe.dat (PLe.refl _) | exact CLe.nil | refine And.intro ?_ ?_ | refine ALe.iface ?_ | refine ALe.clo ?_ | refine CLe.cons ?_ ?_ | refine BLe.box ?_ | refine BLe.row ?_ | exact ALe.any _ | refine ALe.dat (PLe.of_eq ?_)))
      all_goals simp
    rintro ⟨done, hnd, hsub⟩
    repeat' (first
    | refine run_seq ?_
    | refine run_region ?_
    | fail)
    refine k_pick rfl (k_nextM rfl rfl rfl (fun hev => ?_) (fun y hy hny => ?_))
    · repeat' (first
    | refine run_seq ?_
    | (refine k_pick rfl ?_; first | refine k_assignD rfl rfl ?_ | refine k_extract rfl rfl rfl ?_)
    | refine run_opsEnd ?_
    | refine run_region ?_
    | refine run_condF rfl (by first | rfl | assumption) ?_
    | refine run_exit rfl ?_
    | fail)
      refine run_retA ⟨done.map (·.1), all_perm hm hnd hsub hev⟩ (thk [(0, 300)] 0) (tm := [(6, .dat (.val (.bool true)))]) ?_ (resA_tmp rfl rfl)
      (refine ⟨?_, ?_, by rfl⟩ <;> repeat' (first | exact trivial | exact ALe.ptr rfl | exact ALe.own rfl | exact ALe.elt rfl | exact BLe.boxD _ _ | exact BLe.row rfl | exact BLe.res | exact BLe.dead rfl | exact ALe.dat (PLe.refl _) | exact CLe.nil | refine And.intro ?_ ?_ | refine ALe.iface ?_ | refine ALe.clo ?_ | refine CLe.cons ?_ ?_ | refine BLe.box ?_ | refine BLe.row ?_ | exact ALe.any _ | refine ALe.dat (PLe.of_eq ?_)))
    · have hml := more_len hnd hsub hy hny
      have hC := clo1_c (l ++ done.map (·.1)) y.1 y.2 (by simp; omega)
      have hq1 : (!true) = false := rfl
      repeat' (first
    | refine run_seq ?_
    | (refine k_pick rfl ?_; first | refine k_entryM rfl rfl rfl ?_ | refine k_assignD rfl rfl ?_ | refine k_moveD rfl rfl ?_ | refine k_extract rfl rfl rfl ?_ | refine k_not rfl rfl ?_ | refine k_moveP rfl rfl ?_ | refine k_acall1 (thk [(1000, _)] 200) rfl (by kernel_rfl) (reuse_c .any _) rfl ⟨rfl, trivial⟩ rfl (freshB_ok rfl) rfl ?_ | refine k_cloA1 (thk [(1000, _), (1001, _), (1002, _)] 350) rfl rfl (by kernel_rfl) (hC) rfl ⟨rfl, ⟨rfl, ⟨rfl, trivial⟩⟩⟩ rfl (freshB_ok rfl) rfl ?_ | refine k_moveC rfl rfl ?_)
    | refine run_opsEnd ?_
    | refine run_region ?_
    | refine run_condT rfl (by first | rfl | assumption) ?_
    | refine run_condF rfl (by first | rfl | assumption) ?_
    | refine run_block ?_
    | refine run_blkEnd ?_
    | refine run_skip ?_
    | fail)
      refine run_again ?_
      refine ⟨⟨done ++ [y], more_nd hnd hny, more_sub hsub hy⟩, thk [(300, 350)] 0, by simp only [List.length_append, List.length_cons, List.length_nil]; omega, ?_⟩
      (refine ⟨?_, ?_, by rfl⟩ <;> repeat' (first | exact trivial | exact ALe.ptr rfl | exact ALe.own rfl | exact ALe.elt rfl | exact BLe.boxD _ _ | exact BLe.row rfl | exact BLe.res | exact BLe.dead rfl | exact ALe.dat (PLe.refl _) | exact CLe.nil | refine And.intro ?_ ?_ | refine ALe.iface ?_ | refine ALe.clo ?_ | refine CLe.cons ?_ ?_ | refine BLe.box ?_ | refine BLe.row ?_ | exact ALe.any _ | refine ALe.dat (PLe.of_eq ?_)))
      all_goals simp
set_option maxHeartbeats 4000000 in
theorem iter2_c (p m : List (ByteArray × JV)) (l : List ByteArray) (hm : (m.map (·.1)).Nodup) (hl : (l.length + m.length) * 16 ≤ 140737488351232) :
    ACall Tryz.prog 212 [.dat (dvMm m), .dat dvA, .clo 224 [.ptr 1000 0, .ptr 1001 0]]
    [(1000, .box 195 [.dat (dvM p)]), (1001, .box 23 [.own 1002]), (1002, .row 9 1 16 (pdS l))] (ι := { q : List ByteArray // q.Perm ((m.map (·.1)).filter fun k => !(lkJ p k).isSome) })
    (fun _ => .dat (.val (.bool true))) (fun q => [(1000, .box 195 [.dat (dvM p)]), (1001, .box 23 [.own 0]), (1002, .dead), (0, .row 9 1 16 (pdS (l ++ q.1)))]) := by
  refine acall_of_run Tryz.func212 rfl Tryz.ntmps212 rfl (fun X => ?_)
  by_cases hn : m = []
  · subst hn
    have hq : decide (((([] : List (ByteArray × JV)).length : Nat) : Int) = 0) = true := rfl
    repeat' (first
    | refine run_seq ?_
    | (refine k_pick rfl ?_; first | refine k_assignD rfl rfl ?_ | refine k_moveD rfl rfl ?_ | refine k_bin2B rfl rfl rfl rfl ?_ | refine k_lenM rfl rfl ?_)
    | refine run_opsEnd ?_
    | refine run_region ?_
    | refine run_condT rfl (by first | rfl | assumption) ?_
    | fail)
    refine run_retA ⟨[], .refl _⟩ (thk [(0, 1002)] 0) (tm := [(6, .dat (.val (.bool true)))]) ?_ (resA_tmp rfl rfl)
    (refine ⟨?_, ?_, by rfl⟩ <;> repeat' (first | exact trivial | exact ALe.ptr rfl | exact ALe.own rfl | exact ALe.elt rfl | exact BLe.boxD _ _ | exact BLe.row rfl | exact BLe.res | exact BLe.dead rfl | exact ALe.dat (PLe.refl _) | exact CLe.nil | refine And.intro ?_ ?_ | refine ALe.iface ?_ | refine ALe.clo ?_ | refine CLe.cons ?_ ?_ | refine BLe.box ?_ | refine BLe.row ?_ | exact ALe.any _ | refine ALe.dat (PLe.of_eq ?_)))
    all_goals simp
  · have hq : decide (((m.length : Nat) : Int) = 0) = false := by
      cases m with
      | nil => exact absurd rfl hn
      | cons x r => simp; omega
    repeat' (first
    | refine run_seq ?_
    | (refine k_pick rfl ?_; first | refine k_rangeM rfl rfl rfl ?_ | refine k_assignD rfl rfl ?_ | refine k_moveD rfl rfl ?_ | refine k_bin2B rfl rfl rfl rfl ?_ | refine k_assignP rfl rfl ?_ | refine k_moveP rfl rfl ?_ | refine k_invAS1 (thk [] 200) rfl rfl (by kernel_rfl) (alloc_c) rfl trivial rfl (freshB_ok rfl) rfl ?_ | refine k_nilI rfl rfl ?_ | refine k_ifaceP rfl rfl (by kernel_rfl) ?_ | refine k_lenM rfl rfl ?_ | refine k_deferA rfl free_idle ?_)
    | refine run_opsEnd ?_
    | refine run_region ?_
    | refine run_condF rfl (by first | rfl | assumption) ?_
    | refine run_block ?_
    | refine run_skip ?_
    | fail)
    refine run_loopS (ι := { done : List (ByteArray × JV) // (done.map (·.1)).Nodup ∧ (∀ y ∈ done, y ∈ m) })
      (fun k => [(2, .clo 224 [.ptr 1000 0, .ptr 1001 0]), (7, .ptr 200 0), (20, .own 20)])
      (fun k => [(20, .res (itR m k.1)), (200, .box 177 [.any]), (1000, .box 195 [.dat (dvM p)]), (1001, .box 23 [.own 300]), (1002, .dead), (300, .row 9 1 16 (pdS (l ++ (k.1.map (·.1)).filter fun k => !(lkJ p k).isSome)))])
      (fun k => m.length - k.1.length) ⟨[], by simp, by simp⟩ (thk [(300, 1002)] 0) ?_ ?_
    · (refine ⟨?_, ?_, by rfl⟩ <;> repeat' (first | exact trivial | exact ALe.ptr rfl | exact ALe.own rfl | exact ALe.elt rfl | exact BLe.boxD _ _ | exact BLe.row rfl | exact BLe.res | exact BLe.dead rfl | exact ALe.dat (PLe.refl _) | exact CLe.nil | refine And.intro ?_ ?_ | refine ALe.iface ?_ | refine ALe.clo ?_ | refine CLe.cons ?_ ?_ | refine BLe.box ?_ | refine BLe.row ?_ | exact ALe.any _ | refine ALe.dat (PLe.of_eq ?_)))
      all_goals simp
    rintro ⟨done, hnd, hsub⟩
    repeat' (first
    | refine run_seq ?_
    | refine run_region ?_
    | fail)
    refine k_pick rfl (k_nextM rfl rfl rfl (fun hev => ?_) (fun y hy hny => ?_))
    · repeat' (first
    | refine run_seq ?_
    | (refine k_pick rfl ?_; first | refine k_assignD rfl rfl ?_ | refine k_extract rfl rfl rfl ?_)
    | refine run_opsEnd ?_
    | refine run_region ?_
    | refine run_condF rfl (by first | rfl | assumption) ?_
    | refine run_exit rfl ?_
    | fail)
      refine run_retA ⟨(done.map (·.1)).filter fun k => !(lkJ p k).isSome, (all_perm hm hnd hsub hev).filter _⟩ (thk [(0, 300)] 0) (tm := [(6, .dat (.val (.bool true)))]) ?_ (resA_tmp rfl rfl)
      (refine ⟨?_, ?_, by rfl⟩ <;> repeat' (first | exact trivial | exact ALe.ptr rfl | exact ALe.own rfl | exact ALe.elt rfl | exact BLe.boxD _ _ | exact BLe.row rfl | exact BLe.res | exact BLe.dead rfl | exact ALe.dat (PLe.refl _) | exact CLe.nil | refine And.intro ?_ ?_ | refine ALe.iface ?_ | refine ALe.clo ?_ | refine CLe.cons ?_ ?_ | refine BLe.box ?_ | refine BLe.row ?_ | exact ALe.any _ | refine ALe.dat (PLe.of_eq ?_)))
    · have hml := more_len hnd hsub hy hny
      have hfl := List.length_filter_le (fun k => !(lkJ p k).isSome) (done.map (·.1))
      have hC := clo2_c p (l ++ (done.map (·.1)).filter fun k => !(lkJ p k).isSome) y.1 y.2 (by simp at hfl ⊢; omega)
      have hq1 : (!true) = false := rfl
      repeat' (first
    | refine run_seq ?_
    | (refine k_pick rfl ?_; first | refine k_entryM rfl rfl rfl ?_ | refine k_assignD rfl rfl ?_ | refine k_moveD rfl rfl ?_ | refine k_extract rfl rfl rfl ?_ | refine k_not rfl rfl ?_ | refine k_moveP rfl rfl ?_ | refine k_acall1 (thk [(1000, _)] 200) rfl (by kernel_rfl) (reuse_c .any _) rfl ⟨rfl, trivial⟩ rfl (freshB_ok rfl) rfl ?_ | refine k_cloA1 (thk [(1000, _), (1001, _), (1002, _), (1003, _)] 350) rfl rfl (by kernel_rfl) (hC) rfl ⟨rfl, ⟨rfl, ⟨rfl, ⟨rfl, trivial⟩⟩⟩⟩ rfl (freshB_ok rfl) rfl ?_ | refine k_moveC rfl rfl ?_)
    | refine run_opsEnd ?_
    | refine run_region ?_
    | refine run_condT rfl (by first | rfl | assumption) ?_
    | refine run_condF rfl (by first | rfl | assumption) ?_
    | refine run_block ?_
    | refine run_blkEnd ?_
    | refine run_skip ?_
    | fail)
      refine run_again ?_
      refine ⟨⟨done ++ [y], more_nd hnd hny, more_sub hsub hy⟩, thk [(300, 350)] 0, by simp only [List.length_append, List.length_cons, List.length_nil]; omega, ?_⟩
      (refine ⟨?_, ?_, by rfl⟩ <;> repeat' (first | exact trivial | exact ALe.ptr rfl | exact ALe.own rfl | exact ALe.elt rfl | exact BLe.boxD _ _ | exact BLe.row rfl | exact BLe.res | exact BLe.dead rfl | exact ALe.dat (PLe.refl _) | exact CLe.nil | refine And.intro ?_ ?_ | refine ALe.iface ?_ | refine ALe.clo ?_ | refine CLe.cons ?_ ?_ | refine BLe.box ?_ | refine BLe.row ?_ | exact ALe.any _ | refine ALe.dat (PLe.of_eq ?_)))
      all_goals
        rw [List.map_append, List.filter_append, show List.filter (fun k => !(lkJ p k).isSome) ([y].map (·.1)) = (if (lkJ p y.1).isSome then [] else [y.1]) by
          simp only [List.map_cons, List.map_nil, List.filter_cons, List.filter_nil]
          cases hs : (lkJ p y.1).isSome <;> rfl, List.append_assoc]
end Go.Proofs.YtbbacpdbbmjblaaGreat
end
