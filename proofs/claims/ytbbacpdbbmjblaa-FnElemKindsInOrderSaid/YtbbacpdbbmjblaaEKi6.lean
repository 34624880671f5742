/- Part 6 of what the proof rests on. -/
import Derived.Lib.Bytealg
import Derived.Test.YtbbacpdbbmjblaaEKi3
import Derived.Test.YtbbacpdbbmjblaaEKi4
import Derived.Test.YtbbacpdbbmjblaaEKi5
section
set_option linter.unusedVariables false
namespace Go.Proofs.Ytbbacpdbbmjblaa
open Go.RowKit
set_option linter.unusedSimpArgs false
section
variable {P : Program} {X : Base} {N : Nat} {Q : Exit → Act → World → Prop} {ops : Array Oper} {rem : List Nat} {ks : List Itm} {s s' : Sta} {a : Act} {w w' : World} {ρ : Nat → RV}
theorem groups_at1 {F : Nat → Prop} {u : Value} : ∀ {l : List PD} {xs : List Value} {i : Nat}, Groups w F 1 l xs → l[i]? = some (.val u) → xs[i]? = some u ∧ okV u
  | [], _, _, _, h => by simp at h
  | d :: r, xs, i, hg, h => by
    obtain ⟨u', ys, rfl, hd, hn, h1, hr⟩ := hg
    cases i with
    | zero =>
      simp only [List.getElem?_cons_zero, Option.some.injEq] at h
      subst h
      unfold Rep at hd
      obtain ⟨rfl, hok⟩ := hd
      exact ⟨by rw [one_toList hok.one]; rfl, hok⟩
    | succ i =>
      have := groups_at1 hr (i := i) (by simpa using h)
      refine ⟨?_, this.2⟩
      rw [List.getElem?_append_right (by omega), hn]
      simpa using this.1
theorem groups_set1 {F : Nat → Prop} {u : Value} (hu : okV u) : ∀ {l : List PD} {xs : List Value} {i : Nat}, Groups w F 1 l xs → i < l.length → Groups w F 1 (l.set i (.val u)) (xs.set i u)
  | [], _, _, _, h => by simp at h
  | d :: r, xs, i, hg, h => by
    obtain ⟨u', ys, rfl, hd, hn, h1, hr⟩ := hg
    obtain ⟨c, hc⟩ : ∃ c, u'.cells.toList = [c] := List.length_eq_one_iff.1 hn
    cases i with
    | zero =>
      rw [hc]
      show Groups w F 1 (.val u :: r) (u :: ys)
      exact ⟨u, ys, by rw [one_toList hu.one]; rfl, by unfold Rep; exact ⟨rfl, hu⟩, by rw [one_toList hu.one]; rfl, by rw [one_toList hu.one]; intro c hc; simp at hc; subst hc; exact hu.one, hr⟩
    | succ i =>
      rw [hc]
      show Groups w F 1 (d :: r.set i (.val u)) (c :: ys.set i u)
      exact ⟨u', ys.set i u, by rw [hc]; rfl, hd, hn, h1, groups_set1 hu hr (by simpa using h)⟩
theorem op_indexO {o : Oper} (hd : dstOk X.N o.dst = true) {t : TypeId} {x ix : Operand} (ho : o.op = .indexAddr t x ix) {k e y : Nat} {l : List PD} (hx : s.ev x = .own k) (hk : s.tb k = some (.row e 1 y l)) {q : IntKind} {i : Nat} (hi : s.ev ix = .dat (.val (.int q (i : Int)))) {e' y' : Nat} (ht : slcI P t = some (e', 1, y')) (hl : i < l.length) :
    OpS P X o s (s.put o.dst (.elt k 1 i 0)) := by
  refine opS_value hd fun a w ρ hc => ?_
  have h2 := hc.ev x
  rw [hx] at h2
  have e2 := VR_own h2 hk
  have h3 := hc.ev ix
  rw [hi] at h3
  unfold VR Rep at h3
  obtain ⟨xs, e0, hm, how, hgr, hby, hln⟩ := hc.blks k _ hk
  obtain ⟨inf, hu, hinf, hsz, _⟩ := slcI_spec ht
  rcases how.2 with ⟨_, e3⟩ | ⟨g, cap, cur, e1, hB, hg, hr⟩
  · omega
  refine ⟨.pointer (some ⟨g, i, none⟩), ?_, ?_⟩
  · simp [execOp, ho, e2.trans e1, h3.1, Instr.indexAt, asIntOf, run_underlying hu, hl, sizeOf, typeInfo, hinf, hsz, Addr_add]
  · unfold VR
    exact ⟨rfl, .inl ⟨_, hk, .inl rfl, g, _, cap, e1, by simp⟩⟩
theorem op_loadE {o : Oper} (hd : dstOk X.N o.dst = true) {t : TypeId} {x : Operand} (ho : o.op = .load t x) {k e y i : Nat} {l : List PD} {u : Value} (hx : s.ev x = .elt k 1 i 0) (hk : s.tb k = some (.row e 1 y l)) (ht : varI P t = some (1, false)) (hl : l[i]? = some (.val u)) :
    OpS P X o s (s.put o.dst (.dat (.val u))) := by
  refine opS_value hd fun a w ρ hc => ?_
  have h2 := hc.ev x
  rw [hx] at h2
  unfold VR at h2
  obtain ⟨_, h2⟩ := h2
  obtain ⟨xs, e0, hm, how, hgr, hby, hln⟩ := hc.blks k _ hk
  rcases h2 with ⟨x', h5, h6, g, len, c, e3, e4⟩ | h5
  rotate_left
  · rw [hk] at h5; cases h5
  obtain ⟨hx', hok⟩ := groups_at1 hgr hl
  rcases how.2 with ⟨e5, _⟩ | ⟨g', cap, cur, e1, hB, hg, hc1, hc4, hc2, hc3⟩
  · rw [e3] at e5; cases e5
  rw [e3] at e1
  injection e1 with e1 _ _
  injection e1 with e1
  injection e1 with e1
  subst e1
  have hcell : w.cell? ⟨g, i, none⟩ = some u := by
    rw [cell_of_row w g i _ _ _ hg]
    rw [← hc3, List.getElem?_take] at hx'
    split at hx'
    · simpa using hx'
    · cases hx'
  refine ⟨u, ?_, by unfold VR Rep; exact ⟨rfl, hok⟩⟩
  have e4' : a.eval x = .pointer (some ⟨g, i, none⟩) := by rw [e4]; simp
  simp [execOp, ho, e4', Instr.loadAt, Instr.sureAddr, run_loadVar_cell ht hcell]
theorem ConcAt.setK (h : ConcAt X s a w ρ) {k : Nat} {x x' : Blk} (hk : s.tb k = some x) (hxl : x.live = true) (hkind : x'.kind = x.kind) (hw : Below 0 w w') (hsz : w'.heap.size = w.heap.size) (hoth : ∀ b, ¬ (ρ k).fp b → w'.heap[b]? = w.heap[b]?)
    (hnew : (∀ b, FF X w s.tb ρ b → FF X w' (s.set k x').tb ρ b) → (∀ b, FF X w s.tb ρ b → w'.heap[b]? = w.heap[b]?) → BR X w' (s.set k x').tb ρ k x') : ConcAt X (s.set k x') a w' ρ := by
  have hlk : liveB (s.tb k) = true := by rw [hk]; exact hxl
  have hF : ∀ b', FF X w s.tb ρ b' → w'.heap[b']? = w.heap[b']? := fun b' hF => hoth b' (hF.2.2 k hlk)
  have hdom : ∀ k', liveB ((s.set k x').tb k') = true → liveB (s.tb k') = true := by
    intro k' hk'
    by_cases ek : k' = k
    · subst ek; exact hlk
    · simp only [Sta.set, upd_ne _ _ ek] at hk'; exact hk'
  have hs : ∀ b', FF X w s.tb ρ b' → FF X w' (s.set k x').tb ρ b' := fun b' hF => ⟨hF.1, by rw [hsz]; exact hF.2.1, fun k' hk' => hF.2.2 k' (hdom k' hk')⟩
  have hkk : ∀ k' z, s.tb k' = some z → ∃ z', (s.set k x').tb k' = some z' ∧ ((z'.kind = z.kind ∧ (ρ k').v = (ρ k').v) ∨ (z' = .dead ∧ z.kind ≠ 0)) := by
    intro k' z hz
    by_cases ek : k' = k
    · subst ek; rw [hk] at hz; cases hz; exact ⟨x', upd_same _ _ _, .inl ⟨hkind, rfl⟩⟩
    · exact ⟨z, by simp only [Sta.set, upd_ne _ _ ek]; exact hz, .inl ⟨rfl, rfl⟩⟩
  refine ⟨h.size, h.defers, h.below.step hw.os hw.tape hw.output (by rw [hsz]; exact Nat.le_refl _) (fun j _ hj => hoth j (fun e => hj (h.rowBlk hk hxl e).1)), fun t' => (h.tmps t').keep hF hs hkk, fun k' z hz => ?_, fun k1 k2 b h1 h2 e1 e2 => h.apart k1 k2 b (hdom k1 h1) (hdom k2 h2) e1 e2, fun k' hk' hl' => h.lent k' hk' (hdom k' hl')⟩
  by_cases ek : k' = k
  · subst ek
    simp only [Sta.set, upd_same, Option.some.injEq] at hz
    subst hz
    exact hnew hs hF
  · simp only [Sta.set, upd_ne _ _ ek] at hz
    exact (h.blks k' z hz).keep hF hs hkk rfl (fun b' hl hf => hoth b' fun e => ek (h.apart k' k b' (by rw [hz]; exact hl) hlk hf e)) (by rw [hsz]; exact Nat.le_refl _)
theorem op_storeE {o : Oper} (hd : o.dst = none) {t : TypeId} {x y : Operand} (ho : o.op = .store t x y) {k e z i : Nat} {l : List PD} {u : Value} (hx : s.ev x = .elt k 1 i 0) (hk : s.tb k = some (.row e 1 z l)) (ht : varI P t = some (1, false)) (hl : i < l.length) (hy : s.ev y = .dat (.val u)) :
    OpS P X o s (s.set k (.row e 1 z (l.set i (.val u)))) := by
  intro a w ⟨ρ, hc⟩ K Q hK
  have h2 := hc.ev x
  rw [hx] at h2
  unfold VR at h2
  obtain ⟨_, h2⟩ := h2
  have h4 := hc.ev y
  rw [hy] at h4
  unfold VR Rep at h4
  obtain ⟨e6, hok⟩ := h4
  obtain ⟨xs, e0, hm, how, hgr, hby, hln⟩ := hc.blks k _ hk
  rcases h2 with ⟨x', h5, h6, g, len, c, e3, e4⟩ | h5
  rotate_left
  · rw [hk] at h5; cases h5
  have how' := how
  rcases how.2 with ⟨e5, _⟩ | ⟨g', cap, cur, e1, hB, hg, hc1, hc4, hc2, hc3⟩
  · rw [e3] at e5; cases e5
  have e1' := e1
  rw [e3] at e1
  injection e1 with e1 _ _
  injection e1 with e1
  injection e1 with e1
  subst e1
  have hlen : l.length ≤ cur.size := by omega
  have hrun := run_storeVar_at (P := P) (w := w) ht (b := g) (off := i) (old := cur.toList) (e := e) (by simpa using hg) (v := u) (by rw [one_toList hok.one]; rfl) (by simp; omega) (by rw [one_toList hok.one]; intro c hc; simp at hc; subst hc; exact hok.one)
  rw [one_toList hok.one] at hrun
  have hcur : (cur.toList.take i ++ [u] ++ cur.toList.drop (i + 1)) = cur.toList.set i u := by
    rw [List.set_eq_take_append_cons_drop, if_pos (by simp; omega)]; simp
  rw [hcur] at hrun
  have e4' : a.eval x = .pointer (some ⟨g, i, none⟩) := by rw [e4]; simp
  have hfp : (ρ k).fp g := by rw [e0, e1']; rfl
  have hoth : ∀ b', ¬ (ρ k).fp b' → (w.setRow g (cur.toList.set i u).toArray).heap[b']? = w.heap[b']? := fun b' hb' => setRow_other w g b' _ (fun e => hb' (e ▸ hfp))
  have hsz : (w.setRow g (cur.toList.set i u).toArray).heap.size = w.heap.size := by simp
  refine wp_skipped (w' := w.setRow g (cur.toList.set i u).toArray) (by simp [execOp, ho, e4', e6, Instr.storeAt, Instr.sureAddr, hrun, Result.andThen]) ?_
  rw [hd]
  have hB0 : Below 0 w (w.setRow g (cur.toList.set i u).toArray) := ⟨rfl, rfl, rfl, by rw [hsz]; exact Nat.le_refl _, fun k hk => absurd hk (Nat.not_lt_zero _)⟩
  refine hK _ _ ⟨ρ, (hc.setK (x' := .row e 1 z (l.set i (.val u))) hk rfl rfl hB0 hsz hoth (fun hs hF => ?_)).put_none .any undef⟩
  refine ⟨xs.set i u, e0, hm, ?_, (groups_set1 hok (hgr.keep hF hs) hl), by simpa using hby, by simpa using hln⟩
  rw [e1']
  refine ⟨by simpa using how.1, .inr ⟨g, cap, (cur.toList.set i u).toArray, by simp, hB, setRow_heap w g _ _ e _ (by simpa using hg), by simpa using hc1, hc4, by simpa using hc2, ?_⟩⟩
  simp only [List.length_set]
  rw [List.take_set, hc3]
theorem d_indexO {ops : List Oper} {d : Nat} {t : TypeId} {x ix : Operand} {k e y i : Nat} {l : List PD} {q : IntKind} {e' y' : Nat} (hN : Nat.blt d N = true) (hx : s.ev x = .own k) (hk : s.tb k = some (.row e 1 y l)) (hi : s.ev ix = .dat (.val (.int q (i : Int)))) [ht : SI P t e' 1 y'] (hl : i < l.length) : TrK P X N ops (some d) (.indexAddr t x ix) (Eff.put (some d) (.elt k 1 i 0)) s (s.put (some d) (.elt k 1 i 0)) :=
  act_val hN fun s' _ _ _ _ hd hev htb => op_indexO hd rfl ((hev _ (by simp [Op.operands])).trans hx) ((htb x (by simp [Op.operands]) k (by rw [hx]; simp [keysA])).trans hk) ((hev _ (by simp [Op.operands])).trans hi) ht.out hl
theorem k_indexZ {d : Nat} {t : TypeId} {x ix : Operand} {k e y i : Nat} {z : Int} {l : List PD} {q : IntKind} {e' y' : Nat} (hN : Nat.blt d N = true) (hx : s.ev x = .own k) (hk : s.tb k = some (.row e 1 y l)) (hi : s.ev ix = .dat (.val (.int q z))) [ht : SI P t e' 1 y'] (hz : z = (i : Int)) (hl : i < l.length) (h : Run P X N Q (.ops ops rem :: ks) (s.put (some d) (.elt k 1 i 0))) : RunK P X N Q ops rem ks (some d) (.indexAddr t x ix) s := k_of hN (fun _ _ _ hd => op_indexO hd rfl hx hk (by rw [hi, hz]) ht.out hl) h
theorem d_indexZ {ops : List Oper} {d : Nat} {t : TypeId} {x ix : Operand} {k e y i : Nat} {z : Int} {l : List PD} {q : IntKind} {e' y' : Nat} (hN : Nat.blt d N = true) (hx : s.ev x = .own k) (hk : s.tb k = some (.row e 1 y l)) (hi : s.ev ix = .dat (.val (.int q z))) [ht : SI P t e' 1 y'] (hz : z = (i : Int)) (hl : i < l.length) : TrK P X N ops (some d) (.indexAddr t x ix) (Eff.put (some d) (.elt k 1 i 0)) s (s.put (some d) (.elt k 1 i 0)) :=
  d_indexO hN hx hk (by rw [hi, hz]) hl
theorem k_loadE {d : Nat} {t : TypeId} {x : Operand} {k e y i : Nat} {l : List PD} {u : Value} (hN : Nat.blt d N = true) (hx : s.ev x = .elt k 1 i 0) (hk : s.tb k = some (.row e 1 y l)) [ht : VI P t 1 false] (hl : l[i]? = some (.val u)) (h : Run P X N Q (.ops ops rem :: ks) (s.put (some d) (.dat (.val u)))) : RunK P X N Q ops rem ks (some d) (.load t x) s := k_of hN (fun _ _ _ hd => op_loadE hd rfl hx hk ht.out hl) h
theorem d_loadE {ops : List Oper} {d : Nat} {t : TypeId} {x : Operand} {k e y i : Nat} {l : List PD} {u : Value} (hN : Nat.blt d N = true) (hx : s.ev x = .elt k 1 i 0) (hk : s.tb k = some (.row e 1 y l)) [ht : VI P t 1 false] (hl : l[i]? = some (.val u)) : TrK P X N ops (some d) (.load t x) (Eff.put (some d) (.dat (.val u))) s (s.put (some d) (.dat (.val u))) :=
  act_val hN fun s' _ _ _ _ hd hev htb => op_loadE hd rfl ((hev _ (by simp [Op.operands])).trans hx) ((htb x (by simp [Op.operands]) k (by rw [hx]; simp [keysA])).trans hk) ht.out hl
theorem d_storeE {ops : List Oper} {t : TypeId} {x y : Operand} {k e z i : Nat} {l : List PD} {u : Value} (hx : s.ev x = .elt k 1 i 0) (hk : s.tb k = some (.row e 1 z l)) [ht : VI P t 1 false] (hl : i < l.length) (hy : s.ev y = .dat (.val u)) : TrK P X N ops none (.store t x y) (Eff.set k (.row e 1 z (l.set i (.val u)))) s (s.set k (.row e 1 z (l.set i (.val u)))) :=
  act_set fun s' _ _ _ _ hev htb => op_storeE rfl rfl ((hev _ (by simp [Op.operands])).trans hx) ((htb x (by simp [Op.operands]) k (by rw [hx]; simp [keysA])).trans hk) ht.out hl ((hev _ (by simp [Op.operands])).trans hy)
end
end Go.Proofs.Ytbbacpdbbmjblaa
end
section
set_option linter.unusedVariables false
namespace Go.Proofs.Ytbbacpdbbmjblaa
open Go.RowKit
set_option linter.unusedSimpArgs false
def fitS (ks : List ByteArray) : Bool := !decide ((2147483647 : Int) < (ks.length : Int)) && ks.all (fun k => !decide ((2147483647 : Int) < (k.size : Int)))
theorem fits2_p (ks : List ByteArray) : PCall Try.prog 48 [.sl 1 16 (pdS ks)] (.val (.bool (fitS ks))) := by
  refine pcall_fits fun hfit => ?_
  have b1 := (hfit (.sl 1 16 (pdS ks)) (by simp)).sl.2.1
  have hlen := pdS_len ks
  rw [hlen] at b1
  clear hfit
  refine pcall_of_run Try.func48 rfl Try.ntmps48 rfl (fun X => ?_)
  unfold fitS
  cases h0 : decide ((2147483647 : Int) < (ks.length : Int)) with
  | true =>
    have q0 : decide ((2147483647 : Int) < (((pdS ks).length : Nat) : Int)) = true := by rw [hlen]; exact h0
    repeat' (first
    | refine run_seq ?_
    | (refine k_pick rfl ?_; first | refine k_assignD rfl rfl ?_ | refine k_moveD rfl rfl ?_ | refine k_bin2B rfl rfl rfl rfl ?_ | refine k_lenD rfl rfl ?_)
    | refine run_opsEnd ?_
    | refine run_region ?_
    | refine run_condT rfl (by first | rfl | assumption) ?_
    | refine run_retOk (resOk_tmp rfl rfl ?_)
    | fail)
    all_goals exact PLe.refl _
  | false =>
    have q0 : decide ((2147483647 : Int) < (((pdS ks).length : Nat) : Int)) = false := by rw [hlen]; exact h0
    repeat' (first
    | refine run_seq ?_
    | (refine k_pick rfl ?_; first | refine k_assignD rfl rfl ?_ | refine k_moveD rfl rfl ?_ | refine k_bin2B rfl rfl rfl rfl ?_ | refine k_lenD rfl rfl ?_)
    | refine run_opsEnd ?_
    | refine run_region ?_
    | refine run_condF rfl (by first | rfl | assumption) ?_
    | refine run_block ?_
    | refine run_skip ?_
    | fail)
    refine run_loopS (ι := { j : Nat // j ≤ ks.length ∧ ∀ i x, i < j → ks[i]? = some x → decide ((2147483647 : Int) < (x.size : Int)) = false })
      (fun j => [(8, .dat (.sl 1 16 (pdS ks))), (9, .dat (.val (.int .i64 ((pdS ks).length : Nat)))), (10, .dat (.val (.int .i64 (j.1 : Nat))))])
      (fun _ => []) (fun j => ks.length - j.1) ⟨0, Nat.zero_le _, fun i _ h => absurd h (Nat.not_lt_zero i)⟩ id ?_ ?_
    · (refine ⟨?_, ?_, by rfl⟩ <;> repeat' (first | exact trivial | exact ALe.ptr rfl | exact ALe.own rfl | exact ALe.elt rfl | exact BLe.boxD _ _ | exact BLe.row rfl | exact BLe.res | exact BLe.dead rfl | exact ALe.dat (PLe.refl _) | exact CLe.nil | refine And.intro ?_ ?_ | refine ALe.iface ?_ | refine ALe.clo ?_ | refine CLe.cons ?_ ?_ | refine BLe.box ?_ | refine BLe.row ?_ | exact ALe.any _ | refine ALe.dat (PLe.of_eq ?_)))
    rintro ⟨j, hj, hall⟩
    by_cases hlt : j < ks.length
    · have hc : decide ((j : Int) < (((pdS ks).length : Nat) : Int)) = true := by rw [hlen]; simpa using hlt
      obtain ⟨x, hx⟩ : ∃ x, ks[j]? = some x := ⟨_, List.getElem?_eq_getElem hlt⟩
      have i1 : (pdS ks)[((j : Nat) : Int).toNat]? = some (.val (.string x)) := pdS_at hx
      cases h1 : decide ((2147483647 : Int) < (x.size : Int)) with
      | false =>
        repeat' (first
    | refine run_seq ?_
    | (refine k_pick rfl ?_; first | refine k_indexAddrD rfl rfl rfl (by first | omega | (dsimp only; omega)) (by assumption) ?_ | refine k_assignD rfl rfl ?_ | refine k_moveD rfl rfl ?_ | refine k_bin2B rfl rfl rfl rfl ?_ | refine k_lenS rfl rfl (by kernel_rfl) ?_ | refine k_ariI rfl rfl rfl rfl (by first | omega | (dsimp only; omega)) ?_ | refine k_loadD rfl rfl (by first | rfl | (simp only [cellsD]; rfl)) ?_)
    | refine run_opsEnd ?_
    | refine run_region ?_
    | refine run_condT rfl (by first | rfl | assumption) ?_
    | refine run_condF rfl (by first | rfl | assumption) ?_
    | refine run_block ?_
    | refine run_blkEnd ?_
    | refine run_skip ?_
    | fail)
        refine run_again ?_
        refine ⟨⟨j + 1, by omega, fun i y hi hy => ?_⟩, id, by simp only; omega, ?_⟩
        · by_cases e : i = j
          · subst e; rw [hx] at hy; cases hy; exact h1
          · exact hall i y (by omega) hy
        (refine ⟨?_, ?_, by rfl⟩ <;> repeat' (first | exact trivial | exact ALe.ptr rfl | exact ALe.own rfl | exact ALe.elt rfl | exact BLe.boxD _ _ | exact BLe.row rfl | exact BLe.res | exact BLe.dead rfl | exact ALe.dat (PLe.refl _) | exact CLe.nil | refine And.intro ?_ ?_ | refine ALe.iface ?_ | refine ALe.clo ?_ | refine CLe.cons ?_ ?_ | refine BLe.box ?_ | refine BLe.row ?_ | exact ALe.any _ | refine ALe.dat (PLe.of_eq ?_)))
      | true =>
        have e : ks.all (fun k => !decide ((2147483647 : Int) < (k.size : Int))) = false := by
          cases h : ks.all (fun k => !decide ((2147483647 : Int) < (k.size : Int))) with
          | false => rfl
          | true => have := List.all_eq_true.1 h x (List.mem_of_getElem? hx); rw [h1] at this; cases this
        rw [e]
        repeat' (first
    | refine run_seq ?_
    | (refine k_pick rfl ?_; first | refine k_indexAddrD rfl rfl rfl (by first | omega | (dsimp only; omega)) (by assumption) ?_ | refine k_assignD rfl rfl ?_ | refine k_moveD rfl rfl ?_ | refine k_bin2B rfl rfl rfl rfl ?_ | refine k_lenS rfl rfl (by kernel_rfl) ?_ | refine k_loadD rfl rfl (by first | rfl | (simp only [cellsD]; rfl)) ?_)
    | refine run_opsEnd ?_
    | refine run_region ?_
    | refine run_condT rfl (by first | rfl | assumption) ?_
    | refine run_block ?_
    | refine run_skip ?_
    | refine run_retOk (resOk_tmp rfl rfl ?_)
    | fail)
        all_goals exact PLe.refl _
    · have hc : decide ((j : Int) < (((pdS ks).length : Nat) : Int)) = false := by rw [hlen]; simpa using hlt
      have e : ks.all (fun k => !decide ((2147483647 : Int) < (k.size : Int))) = true := List.all_eq_true.2 fun x hx => by
        obtain ⟨i, hi⟩ := List.getElem?_of_mem hx
        rw [hall i x (by have := (List.getElem?_eq_some_iff.1 hi).1; omega) hi]; rfl
      rw [e]
      repeat' (first
    | refine run_seq ?_
    | (refine k_pick rfl ?_; first | refine k_assignD rfl rfl ?_ | refine k_bin2B rfl rfl rfl rfl ?_)
    | refine run_opsEnd ?_
    | refine run_region ?_
    | refine run_condF rfl (by first | rfl | assumption) ?_
    | refine run_exit rfl ?_
    | refine run_retOk (resOk_tmp rfl rfl ?_)
    | fail)
      all_goals exact PLe.refl _
end Go.Proofs.Ytbbacpdbbmjblaa
end
section
set_option linter.unusedVariables false
namespace Go.Proofs.Ytbbacpdbbmjblaa
open Go.RowKit
set_option linter.unusedSimpArgs false
section
variable {P : Program} {X : Base} {N : Nat} {Q : Exit → Act → World → Prop} {ops : Array Oper} {rem : List Nat} {ks : List Itm} {s s' : Sta}
end
theorem has_p (m : List (ByteArray × JV)) (k : ByteArray) : PCall Try.prog 165 [dvMm m, .val (.string k)] (.val (.bool (lkJ m k).isSome)) := by
  refine pcall_of_run Try.func165 rfl Try.ntmps165 rfl (fun X => ?_)
  cases h : lkJ m k with
  | none =>
    repeat' (first
    | refine run_seq ?_
    | (refine k_pick rfl ?_; first | refine k_assignD rfl rfl ?_ | refine k_moveD rfl rfl ?_ | refine k_extract rfl rfl rfl ?_ | refine k_lookM rfl rfl rfl (by assumption) ?_)
    | refine run_opsEnd ?_
    | refine run_region ?_
    | refine run_retOk (resOk_tmp rfl rfl ?_)
    | fail)
    all_goals exact PLe.refl _
  | some x =>
    repeat' (first
    | refine run_seq ?_
    | (refine k_pick rfl ?_; first | refine k_assignD rfl rfl ?_ | refine k_moveD rfl rfl ?_ | refine k_extract rfl rfl rfl ?_ | refine k_lookM rfl rfl rfl (by assumption) ?_)
    | refine run_opsEnd ?_
    | refine run_region ?_
    | refine run_retOk (resOk_tmp rfl rfl ?_)
    | fail)
    all_goals exact PLe.refl _
end Go.Proofs.Ytbbacpdbbmjblaa
end
section
set_option linter.unusedVariables false
namespace Go.Proofs.Ytbbacpdbbmjblaa
set_option linter.unusedSimpArgs false
theorem lkJ_getA : ∀ (m : List (ByteArray × JV)) (k : ByteArray), lkJ m k = getA m k
  | [], _ => rfl
  | x :: r, k => by unfold lkJ getA; rw [lkJ_getA r k]
theorem incr_ext {a b : List ByteArray} (ha : Incr a) (hb : Incr b) (h : ∀ k, k ∈ a ↔ k ∈ b) : a = b := by
  have hg1 : ∀ (l : List ByteArray) (k : ByteArray), k ∈ l → getA (l.map fun k => (k, ())) k = some () := by
    intro l k hk
    induction l with
    | nil => simp at hk
    | cons x r ih =>
      simp only [List.map_cons, getA]
      by_cases e : x = k
      · rw [if_pos e]
      · rw [if_neg e]
        rcases List.mem_cons.1 hk with h | h
        · exact absurd h.symm e
        · exact ih h
  have hg2 : ∀ (l : List ByteArray) (k : ByteArray), k ∉ l → getA (l.map fun k => (k, ())) k = none := by
    intro l k hk
    exact getA_none fun e he => by
      obtain ⟨x, hx, rfl⟩ := List.mem_map.1 he
      exact fun e => hk (e ▸ hx)
  have e1 : ∀ l : List ByteArray, (l.map fun k => (k, ())).map (·.1) = l := fun l => by
    induction l with
    | nil => rfl
    | cons x r ih => simp only [List.map_cons, ih]
  have := getA_ext (a := a.map fun k => (k, ())) (b := b.map fun k => (k, ())) (by rw [e1]; exact ha) (by rw [e1]; exact hb) (fun k => by
    by_cases hk : k ∈ a
    · rw [hg1 _ _ hk, hg1 _ _ ((h k).1 hk)]
    · rw [hg2 _ _ hk, hg2 _ _ (fun hb => hk ((h k).2 hb))])
  have := congrArg (List.map (·.1)) this
  rwa [e1, e1] at this
end Go.Proofs.Ytbbacpdbbmjblaa
end
section
set_option linter.unusedVariables false
namespace Go.Proofs.Ytbbacpdbbmjblaa
open Go.RowKit
set_option linter.unusedSimpArgs false
/-- A value that may be there. -/
def valD : Option JV → PD
  | some j => dvV j
  | none => .val .nilIface
theorem get_p (m : List (ByteArray × JV)) (k : ByteArray) : PCall Try.prog 164 [dvMm m, dvA, .val (.string k)] (.tup [valD (lkJ m k), .val (.bool (lkJ m k).isSome)]) := by
  refine pcall_of_run Try.func164 rfl Try.ntmps164 rfl (fun X => ?_)
  cases h : lkJ m k with
  | none =>
    have hq : (!false) = true := rfl
    repeat' (first
    | refine run_seq ?_
    | (refine k_pick rfl ?_; first | refine k_assignD rfl rfl ?_ | refine k_moveD rfl rfl ?_ | refine k_extract rfl rfl rfl ?_ | refine k_not rfl rfl ?_ | refine k_lookM rfl rfl rfl (by assumption) ?_)
    | refine run_opsEnd ?_
    | refine run_region ?_
    | refine run_condT rfl (by first | rfl | assumption) ?_
    | refine run_retOk (resOk_tmp2 rfl rfl rfl ?_ ?_)
    | fail)
    all_goals exact PLe.refl _
  | some x =>
    repeat' (first
    | refine run_seq ?_
    | (refine k_pick rfl ?_; first | refine k_assignD rfl rfl ?_ | refine k_moveD rfl rfl ?_ | refine k_extract rfl rfl rfl ?_ | refine k_not rfl rfl ?_ | refine k_invAS1 (thk [] 200) rfl rfl (by kernel_rfl) (alloc_c) rfl trivial rfl (freshB_ok rfl) rfl ?_ | refine k_acall1 (thk [(1000, _)] 200) rfl (by kernel_rfl) (reuse_c (.dat (.val .nilIface)) x) rfl ⟨rfl, trivial⟩ rfl (freshB_ok rfl) rfl ?_ | refine k_assignI rfl rfl ?_ | refine k_lookM rfl rfl rfl (by assumption) ?_)
    | refine run_opsEnd ?_
    | refine run_region ?_
    | refine run_condF rfl (by first | rfl | assumption) ?_
    | fail)
    refine run_frz gV (fun _ => true) ?_
    refine run_retOk (resOk_tmp2 rfl rfl rfl ?_ ?_)
    all_goals exact PLe.refl _
theorem free_p (d : PD) : PCall Try.prog 134 [.ptr (.agg []), d] (.tup []) := by
  intro w F vs hF hvs
  have hl := hvs.length
  refine (calls_of_wp (R := fun e w' => ∃ v, e = .returned v ∧ Below w.heap.size w w' ∧ Rep w' (fun b => F b ∨ (w.heap.size ≤ b ∧ b < w'.heap.size)) (.tup []) v) Try.func134 rfl ?_)
  refine wp_skip ?_
  exact ⟨rfl, _, results_none rfl _ _ _, _, rfl, Below.refl _ _, by unfold Rep; exact ⟨[], rfl, by unfold Reps; rfl⟩⟩
theorem pdS_snoc (l : List ByteArray) (k : ByteArray) : pdS l ++ [.val (.string k)] = pdS (l ++ [k]) := by simp [pdS]
/-- The keys of one map. -/
theorem clo1_c (l : List ByteArray) (k : ByteArray) (j : JV) (hl : (l.length + 1) * 16 ≤ 140737488351232) :
    ACall1 Try.prog 178 [.dat (.val (.string k)), .iface 139 (.ptr 1002 0), .ptr 1000 0]
    [(1000, .box 41 [.own 1001]), (1001, .row 9 1 16 (pdS l)), (1002, .box 173 [.dat (pdJ j)])]
    (.dat (.val (.bool true)))
    [(1000, .box 41 [.own 0]), (1001, .dead), (1002, .box 173 [.dat (pdJ j)]), (0, .row 9 1 16 (pdS (l ++ [k])))] := by
  refine acall_of_run Try.func178 rfl Try.ntmps178 rfl (fun X => ?_)
  have hlen := pdS_len l
  have hb1 : ((pdS l).length + ([.val (.string k)] : List PD).length) * 16 ≤ 140737488351232 := by rw [hlen]; simpa using hl
  have hb2 : (pdS l).length + ([.val (.string k)] : List PD).length ≤ 140737488351232 := by rw [hlen]; simp; omega
  repeat' (first
    | refine run_seq ?_
    | (refine k_pick rfl ?_; first | refine k_appendOO rfl rfl rfl rfl rfl rfl (by kernel_rfl) rfl rfl hb1 hb2 ?_ | refine k_assignD rfl rfl ?_ | refine k_moveD rfl rfl ?_ | refine k_storeB rfl rfl rfl rfl rfl ?_ | refine k_loadBO rfl rfl rfl rfl ?_ | refine k_buildSlice rfl rfl (by kernel_rfl) rfl rfl rfl rfl rfl ?_)
    | refine run_opsEnd ?_
    | refine run_region ?_
    | fail)
  refine run_retA () (thk [(0, 9)] 0) (tm := [(5, .dat (.val (.bool true)))]) ?_ (resA_tmp rfl rfl)
  (refine ⟨?_, ?_, by rfl⟩ <;> repeat' (first | exact trivial | exact ALe.ptr rfl | exact ALe.own rfl | exact ALe.elt rfl | exact BLe.boxD _ _ | exact BLe.row rfl | exact BLe.res | exact BLe.dead rfl | exact ALe.dat (PLe.refl _) | exact CLe.nil | refine And.intro ?_ ?_ | refine ALe.iface ?_ | refine ALe.clo ?_ | refine CLe.cons ?_ ?_ | refine BLe.box ?_ | refine BLe.row ?_ | exact ALe.any _ | refine ALe.dat (PLe.of_eq ?_)))
  all_goals exact pdS_snoc l k
/-- The keys of the other, that the first has not. -/
theorem clo2_c (m : List (ByteArray × JV)) (l : List ByteArray) (k : ByteArray) (j : JV) (hl : (l.length + 1) * 16 ≤ 140737488351232) :
    ACall1 Try.prog 179 [.dat (.val (.string k)), .iface 139 (.ptr 1003 0), .ptr 1000 0, .ptr 1001 0]
    [(1000, .box 104 [.dat (dvM m)]), (1001, .box 41 [.own 1002]), (1002, .row 9 1 16 (pdS l)), (1003, .box 173 [.dat (pdJ j)])]
    (.dat (.val (.bool true)))
    [(1000, .box 104 [.dat (dvM m)]), (1001, .box 41 [.own 0]), (1002, .dead), (1003, .box 173 [.dat (pdJ j)]), (0, .row 9 1 16 (pdS (l ++ if (lkJ m k).isSome then [] else [k])))] := by
  have hH := has_p m k
  refine acall_of_run Try.func179 rfl Try.ntmps179 rfl (fun X => ?_)
  have hlen := pdS_len l
  have hb1 : ((pdS l).length + ([.val (.string k)] : List PD).length) * 16 ≤ 140737488351232 := by rw [hlen]; simpa using hl
  have hb2 : (pdS l).length + ([.val (.string k)] : List PD).length ≤ 140737488351232 := by rw [hlen]; simp; omega
  cases h : (lkJ m k).isSome with
  | true =>
    rw [h] at hH
    repeat' (first
    | refine run_seq ?_
    | (refine k_pick rfl ?_; first | refine k_assignD rfl rfl ?_ | refine k_moveD rfl rfl ?_ | refine k_loadBD rfl rfl rfl (by first | rfl | (simp only [cellsD]; rfl)) ?_ | refine k_pickF rfl rfl (by first | rfl | assumption) rfl ?_ | refine k_cmpNil rfl rfl rfl (by kernel_rfl) (by exact NilIs.ifc) rfl ?_)
    | refine run_opsEnd ?_
    | refine run_region ?_
    | refine run_condF rfl (by first | rfl | assumption) ?_
    | (refine k_guardY rfl rfl (by first | rfl | assumption) ?_; first | refine k_moveD rfl rfl ?_ | refine k_loadBD rfl rfl rfl (by first | rfl | (simp only [cellsD]; rfl)) ?_ | refine k_not rfl rfl ?_ | refine k_invS rfl rfl (by kernel_rfl) rfl (by first | exact hH) ?_)
    | refine run_skip ?_
    | fail)
    refine run_retA () (thk [(0, 1002)] 0) (tm := [(6, .dat (.val (.bool true)))]) ?_ (resA_tmp rfl rfl)
    (refine ⟨?_, ?_, by rfl⟩ <;> repeat' (first | exact trivial | exact ALe.ptr rfl | exact ALe.own rfl | exact ALe.elt rfl | exact BLe.boxD _ _ | exact BLe.row rfl | exact BLe.res | exact BLe.dead rfl | exact ALe.dat (PLe.refl _) | exact CLe.nil | refine And.intro ?_ ?_ | refine ALe.iface ?_ | refine ALe.clo ?_ | refine CLe.cons ?_ ?_ | refine BLe.box ?_ | refine BLe.row ?_ | exact ALe.any _ | refine ALe.dat (PLe.of_eq ?_)))
    all_goals simp
  | false =>
    rw [h] at hH
    repeat' (first
    | refine run_seq ?_
    | (refine k_pick rfl ?_; first | refine k_appendOO rfl rfl rfl rfl rfl rfl (by kernel_rfl) rfl rfl hb1 hb2 ?_ | refine k_assignD rfl rfl ?_ | refine k_moveD rfl rfl ?_ | refine k_loadBD rfl rfl rfl (by first | rfl | (simp only [cellsD]; rfl)) ?_ | refine k_pickF rfl rfl (by first | rfl | assumption) rfl ?_ | refine k_storeB rfl rfl rfl rfl rfl ?_ | refine k_loadBO rfl rfl rfl rfl ?_ | refine k_buildSlice rfl rfl (by kernel_rfl) rfl rfl rfl rfl rfl ?_ | refine k_cmpNil rfl rfl rfl (by kernel_rfl) (by exact NilIs.ifc) rfl ?_)
    | refine run_opsEnd ?_
    | refine run_region ?_
    | refine run_condT rfl (by first | rfl | assumption) ?_
    | (refine k_guardY rfl rfl (by first | rfl | assumption) ?_; first | refine k_moveD rfl rfl ?_ | refine k_loadBD rfl rfl rfl (by first | rfl | (simp only [cellsD]; rfl)) ?_ | refine k_not rfl rfl ?_ | refine k_invS rfl rfl (by kernel_rfl) rfl (by first | exact hH) ?_)
    | fail)
    refine run_retA () (thk [(0, 18)] 0) (tm := [(6, .dat (.val (.bool true)))]) ?_ (resA_tmp rfl rfl)
    (refine ⟨?_, ?_, by rfl⟩ <;> repeat' (first | exact trivial | exact ALe.ptr rfl | exact ALe.own rfl | exact ALe.elt rfl | exact BLe.boxD _ _ | exact BLe.row rfl | exact BLe.res | exact BLe.dead rfl | exact ALe.dat (PLe.refl _) | exact CLe.nil | refine And.intro ?_ ?_ | refine ALe.iface ?_ | refine ALe.clo ?_ | refine CLe.cons ?_ ?_ | refine BLe.box ?_ | refine BLe.row ?_ | exact ALe.any _ | refine ALe.dat (PLe.of_eq ?_)))
    all_goals (simp only [Bool.false_eq_true, if_false]; exact pdS_snoc l k)
end Go.Proofs.Ytbbacpdbbmjblaa
end
section
set_option linter.unusedVariables false
namespace Go.Proofs.Ytbbacpdbbmjblaa
open Go.RowKit
set_option linter.unusedSimpArgs false
theorem more_len {m done : List (ByteArray × JV)} {y : ByteArray × JV} (hnd : (done.map (·.1)).Nodup) (hsub : ∀ z ∈ done, z ∈ m) (hy : y ∈ m) (hny : y.1 ∉ done.map (·.1)) : done.length + 1 ≤ m.length := by
  have := nodup_len (a := (done ++ [y]).map (·.1)) (l := m.map (·.1)) (by
    rw [List.map_append, List.nodup_append]
    exact ⟨hnd, by simp, fun a ha b hb => by simp at hb; subst hb; exact fun e => hny (e ▸ ha)⟩) (fun x hx => by
    obtain ⟨z, hz, rfl⟩ := List.mem_map.1 hx
    rcases List.mem_append.1 hz with hz | hz
    · exact List.mem_map_of_mem (hsub z hz)
    · simp at hz; rw [hz]; exact List.mem_map_of_mem hy)
  simpa using this
theorem more_nd {done : List (ByteArray × JV)} {y : ByteArray × JV} (hnd : (done.map (·.1)).Nodup) (hny : y.1 ∉ done.map (·.1)) : ((done ++ [y]).map (·.1)).Nodup := by
  rw [List.map_append, List.nodup_append]
  exact ⟨hnd, by simp, fun a ha b hb => by simp at hb; subst hb; exact fun e => hny (e ▸ ha)⟩
theorem more_sub {m done : List (ByteArray × JV)} {y : ByteArray × JV} (hsub : ∀ z ∈ done, z ∈ m) (hy : y ∈ m) : ∀ z ∈ done ++ [y], z ∈ m := by
  intro z hz
  rcases List.mem_append.1 hz with hz | hz
  · exact hsub z hz
  · simp at hz; rw [hz]; exact hy
theorem all_perm {m done : List (ByteArray × JV)} (hm : (m.map (·.1)).Nodup) (hnd : (done.map (·.1)).Nodup) (hsub : ∀ z ∈ done, z ∈ m) (hev : ∀ y ∈ m, y ∈ done) : (done.map (·.1)).Perm (m.map (·.1)) :=
  (List.perm_ext_iff_of_nodup hnd hm).2 fun k => ⟨fun h => by
    obtain ⟨z, hz, rfl⟩ := List.mem_map.1 h
    exact List.mem_map_of_mem (hsub z hz), fun h => by
    obtain ⟨z, hz, rfl⟩ := List.mem_map.1 h
    exact List.mem_map_of_mem (hev z hz)⟩
set_option maxHeartbeats 4000000 in
theorem iter1_c (m : List (ByteArray × JV)) (l : List ByteArray) (hm : (m.map (·.1)).Nodup) (hl : (l.length + m.length) * 16 ≤ 140737488351232) :
    ACall Try.prog 167 [.dat (dvMm m), .dat dvA, .clo 178 [.ptr 1000 0]]
    [(1000, .box 41 [.own 1001]), (1001, .row 9 1 16 (pdS l))] (ι := { q : List ByteArray // q.Perm (m.map (·.1)) })
    (fun _ => .dat (.val (.bool true))) (fun q => [(1000, .box 41 [.own 0]), (1001, .dead), (0, .row 9 1 16 (pdS (l ++ q.1)))]) := by
  refine acall_of_run Try.func167 rfl Try.ntmps167 rfl (fun X => ?_)
  by_cases hn : m = []
  · subst hn
    have hq : decide (((([] : List (ByteArray × JV)).length : Nat) : Int) = 0) = true := rfl
    repeat' (first
    | refine run_seq ?_
    | (refine k_pick rfl ?_; first | refine k_assignD rfl rfl ?_ | refine k_moveD rfl rfl ?_ | refine k_bin2B rfl rfl rfl rfl ?_ | refine k_lenM rfl rfl ?_)
    | refine run_opsEnd ?_
    | refine run_region ?_
    | refine run_condT rfl (by first | rfl | assumption) ?_
    | fail)
    refine run_retA ⟨[], .refl _⟩ (thk [(0, 1001)] 0) (tm := [(6, .dat (.val (.bool true)))]) ?_ (resA_tmp rfl rfl)
    (refine ⟨?_, ?_, by rfl⟩ <;> repeat' (first | exact trivial | exact ALe.ptr rfl | exact ALe.own rfl | exact ALe.elt rfl | exact BLe.boxD _ _ | exact BLe.row rfl | exact BLe.res | exact BLe.dead rfl | exact ALe.dat (PLe.refl _) | exact CLe.nil | refine And.intro ?_ ?_ | refine ALe.iface ?_ | refine ALe.clo ?_ | refine CLe.cons ?_ ?_ | refine BLe.box ?_ | refine BLe.row ?_ | exact ALe.any _ | refine ALe.dat (PLe.of_eq ?_)))
    all_goals simp
  · have hq : decide (((m.length : Nat) : Int) = 0) = false := by
      cases m with
      | nil => exact absurd rfl hn
      | cons x r => simp; omega
    repeat' (first
    | refine run_seq ?_
    | (refine k_pick rfl ?_; first | refine k_rangeM rfl rfl rfl ?_ | refine k_assignD rfl rfl ?_ | refine k_moveD rfl rfl ?_ | refine k_bin2B rfl rfl rfl rfl ?_ | refine k_assignP rfl rfl ?_ | refine k_moveP rfl rfl ?_ | refine k_invAS1 (thk [] 200) rfl rfl (by kernel_rfl) (alloc_c) rfl trivial rfl (freshB_ok rfl) rfl ?_ | refine k_nilI rfl rfl ?_ | refine k_ifaceP rfl rfl (by kernel_rfl) ?_ | refine k_lenM rfl rfl ?_ | refine k_deferA rfl free_idle ?_)
    | refine run_opsEnd ?_
    | refine run_region ?_
    | refine run_condF rfl (by first | rfl | assumption) ?_
    | refine run_block ?_
    | refine run_skip ?_
    | fail)
    refine run_loopS (ι := { done : List (ByteArray × JV) // (done.map (·.1)).Nodup ∧ (∀ y ∈ done, y ∈ m) })
      (fun k => [(2, .clo 178 [.ptr 1000 0]), (7, .ptr 200 0), (20, .own 20)])
      (fun k => [(20, .res (itR m k.1)), (200, .box 173 [.any]), (1000, .box 41 [.own 300]), (1001, .dead), (300, .row 9 1 16 (pdS (l ++ k.1.map (·.1))))])
      (fun k => m.length - k.1.length) ⟨[], by simp, by simp⟩ (thk [(300, 1001)] 0) ?_ ?_
    · (refine ⟨?_, ?_, by rfl⟩ <;> repeat' (first | exact trivial | exact ALe.ptr rfl | exact ALe.own rfl | exact ALe.elt rfl | exact BLe.boxD _ _ | exact BLe.row rfl | exact BLe.res | exact BLe.dead rfl | exact ALe.dat (PLe.refl _) | exact CLe.nil | refine And.intro ?_ ?_ | refine ALe.iface ?_ | refine ALe.clo ?_ | refine CLe.cons ?_ ?_ | refine BLe.box ?_ | refine BLe.row ?_ | exact ALe.any _ | refine ALe.dat (PLe.of_eq ?_)))
      all_goals simp
    rintro ⟨done, hnd, hsub⟩
    repeat' (first
    | refine run_seq ?_
    | refine run_region ?_
    | fail)
    refine k_pick rfl (k_nextM rfl rfl rfl (fun hev => ?_) (fun y hy hny => ?_))
    · repeat' (first
    | refine run_seq ?_
    | (refine k_pick rfl ?_; first | refine k_assignD rfl rfl ?_ | refine k_extract rfl rfl rfl ?_)
    | refine run_opsEnd ?_
    | refine run_region ?_
    | refine run_condF rfl (by first | rfl | assumption) ?_
    | refine run_exit rfl ?_
    | fail)
      refine run_retA ⟨done.map (·.1), all_perm hm hnd hsub hev⟩ (thk [(0, 300)] 0) (tm := [(6, .dat (.val (.bool true)))]) ?_ (resA_tmp rfl rfl)
      (refine ⟨?_, ?_, by rfl⟩ <;> repeat' (first | exact trivial | exact ALe.ptr rfl | exact ALe.own rfl | exact ALe.elt rfl | exact BLe.boxD _ _ | exact BLe.row rfl | exact BLe.res | exact BLe.dead rfl | exact ALe.dat (PLe.refl _) | exact CLe.nil | refine And.intro ?_ ?_ | refine ALe.iface ?_ | refine ALe.clo ?_ | refine CLe.cons ?_ ?_ | refine BLe.box ?_ | refine BLe.row ?_ | exact ALe.any _ | refine ALe.dat (PLe.of_eq ?_)))
    · have hml := more_len hnd hsub hy hny
      have hC := clo1_c (l ++ done.map (·.1)) y.1 y.2 (by simp; omega)
      have hq1 : (!true) = false := rfl
      repeat' (first
    | refine run_seq ?_
    | (refine k_pick rfl ?_; first | refine k_entryM rfl rfl rfl ?_ | refine k_assignD rfl rfl ?_ | refine k_moveD rfl rfl ?_ | refine k_extract rfl rfl rfl ?_ | refine k_not rfl rfl ?_ | refine k_moveP rfl rfl ?_ | refine k_acall1 (thk [(1000, _)] 200) rfl (by kernel_rfl) (reuse_c .any _) rfl ⟨rfl, trivial⟩ rfl (freshB_ok rfl) rfl ?_ | refine k_cloA1 (thk [(1000, _), (1001, _), (1002, _)] 350) rfl rfl (by kernel_rfl) (hC) rfl ⟨rfl, ⟨rfl, ⟨rfl, trivial⟩⟩⟩ rfl (freshB_ok rfl) rfl ?_ | refine k_moveC rfl rfl ?_)
    | refine run_opsEnd ?_
    | refine run_region ?_
    | refine run_condT rfl (by first | rfl | assumption) ?_
    | refine run_condF rfl (by first | rfl | assumption) ?_
    | refine run_block ?_
    | refine run_blkEnd ?_
    | refine run_skip ?_
    | fail)
      refine run_again ?_
      refine ⟨⟨done ++ [y], more_nd hnd hny, more_sub hsub hy⟩, thk [(300, 350)] 0, by simp only [List.length_append, List.length_cons, List.length_nil]; omega, ?_⟩
      (refine ⟨?_, ?_, by rfl⟩ <;> repeat' (first | exact trivial | exact ALe.ptr rfl | exact ALe.own rfl | exact ALe.elt rfl | exact BLe.boxD _ _ | exact BLe.row rfl | exact BLe.res | exact BLe.dead rfl | exact ALe.dat (PLe.refl _) | exact CLe.nil | refine And.intro ?_ ?_ | refine ALe.iface ?_ | refine ALe.clo ?_ | refine CLe.cons ?_ ?_ | refine BLe.box ?_ | refine BLe.row ?_ | exact ALe.any _ | refine ALe.dat (PLe.of_eq ?_)))
      all_goals simp
set_option maxHeartbeats 4000000 in
theorem iter2_c (p m : List (ByteArray × JV)) (l : List ByteArray) (hm : (m.map (·.1)).Nodup) (hl : (l.length + m.length) * 16 ≤ 140737488351232) :
    ACall Try.prog 167 [.dat (dvMm m), .dat dvA, .clo 179 [.ptr 1000 0, .ptr 1001 0]]
    [(1000, .box 104 [.dat (dvM p)]), (1001, .box 41 [.own 1002]), (1002, .row 9 1 16 (pdS l))] (ι := { q : List ByteArray // q.Perm ((m.map (·.1)).filter fun k => !(lkJ p k).isSome) })
    (fun _ => .dat (.val (.bool true))) (fun q => [(1000, .box 104 [.dat (dvM p)]), (1001, .box 41 [.own 0]), (1002, .dead), (0, .row 9 1 16 (pdS (l ++ q.1)))]) := by
  refine acall_of_run Try.func167 rfl Try.ntmps167 rfl (fun X => ?_)
  by_cases hn : m = []
  · subst hn
    have hq : decide (((([] : List (ByteArray × JV)).length : Nat) : Int) = 0) = true := rfl
    repeat' (first
    | refine run_seq ?_
    | (refine k_pick rfl ?_; first | refine k_assignD rfl rfl ?_ | refine k_moveD rfl rfl ?_ | refine k_bin2B rfl rfl rfl rfl ?_ | refine k_lenM rfl rfl ?_)
    | refine run_opsEnd ?_
    | refine run_region ?_
    | refine run_condT rfl (by first | rfl | assumption) ?_
    | fail)
    refine run_retA ⟨[], .refl _⟩ (thk [(0, 1002)] 0) (tm := [(6, .dat (.val (.bool true)))]) ?_ (resA_tmp rfl rfl)
    (refine ⟨?_, ?_, by rfl⟩ <;> repeat' (first | exact trivial | exact ALe.ptr rfl | exact ALe.own rfl | exact ALe.elt rfl | exact BLe.boxD _ _ | exact BLe.row rfl | exact BLe.res | exact BLe.dead rfl | exact ALe.dat (PLe.refl _) | exact CLe.nil | refine And.intro ?_ ?_ | refine ALe.iface ?_ | refine ALe.clo ?_ | refine CLe.cons ?_ ?_ | refine BLe.box ?_ | refine BLe.row ?_ | exact ALe.any _ | refine ALe.dat (PLe.of_eq ?_)))
    all_goals simp
  · have hq : decide (((m.length : Nat) : Int) = 0) = false := by
      cases m with
      | nil => exact absurd rfl hn
      | cons x r => simp; omega
    repeat' (first
    | refine run_seq ?_
    | (refine k_pick rfl ?_; first | refine k_rangeM rfl rfl rfl ?_ | refine k_assignD rfl rfl ?_ | refine k_moveD rfl rfl ?_ | refine k_bin2B rfl rfl rfl rfl ?_ | refine k_assignP rfl rfl ?_ | refine k_moveP rfl rfl ?_ | refine k_invAS1 (thk [] 200) rfl rfl (by kernel_rfl) (alloc_c) rfl trivial rfl (freshB_ok rfl) rfl ?_ | refine k_nilI rfl rfl ?_ | refine k_ifaceP rfl rfl (by kernel_rfl) ?_ | refine k_lenM rfl rfl ?_ | refine k_deferA rfl free_idle ?_)
    | refine run_opsEnd ?_
    | refine run_region ?_
    | refine run_condF rfl (by first | rfl | assumption) ?_
    | refine run_block ?_
    | refine run_skip ?_
    | fail)
    refine run_loopS (ι := { done : List (ByteArray × JV) // (done.map (·.1)).Nodup ∧ (∀ y ∈ done, y ∈ m) })
      (fun k => [(2, .clo 179 [.ptr 1000 0, .ptr 1001 0]), (7, .ptr 200 0), (20, .own 20)])
      (fun k => [(20, .res (itR m k.1)), (200, .box 173 [.any]), (1000, .box 104 [.dat (dvM p)]), (1001, .box 41 [.own 300]), (1002, .dead), (300, .row 9 1 16 (pdS (l ++ (k.1.map (·.1)).filter fun k => !(lkJ p k).isSome)))])
      (fun k => m.length - k.1.length) ⟨[], by simp, by simp⟩ (thk [(300, 1002)] 0) ?_ ?_
    · (refine ⟨?_, ?_, by rfl⟩ <;> repeat' (first | exact trivial | exact ALe.ptr rfl | exact ALe.own rfl | exact ALe.elt rfl | exact BLe.boxD _ _ | exact BLe.row rfl | exact BLe.res | exact BLe.dead rfl | exact ALe.dat (PLe.refl _) | exact CLe.nil | refine And.intro ?_ ?_ | refine ALe.iface ?_ | refine ALe.clo ?_ | refine CLe.cons ?_ ?_ | refine BLe.box ?_ | refine BLe.row ?_ | exact ALe.any _ | refine ALe.dat (PLe.of_eq ?_)))
      all_goals simp
    rintro ⟨done, hnd, hsub⟩
    repeat' (first
    | refine run_seq ?_
    | refine run_region ?_
    | fail)
    refine k_pick rfl (k_nextM rfl rfl rfl (fun hev => ?_) (fun y hy hny => ?_))
    · repeat' (first
    | refine run_seq ?_
    | (refine k_pick rfl ?_; first | refine k_assignD rfl rfl ?_ | refine k_extract rfl rfl rfl ?_)
    | refine run_opsEnd ?_
    | refine run_region ?_
    | refine run_condF rfl (by first | rfl | assumption) ?_
    | refine run_exit rfl ?_
    | fail)
      refine run_retA ⟨(done.map (·.1)).filter fun k => !(lkJ p k).isSome, (all_perm hm hnd hsub hev).filter _⟩ (thk [(0, 300)] 0) (tm := [(6, .dat (.val (.bool true)))]) ?_ (resA_tmp rfl rfl)
      (refine ⟨?_, ?_, by rfl⟩ <;> repeat' (first | exact trivial | exact ALe.ptr rfl | exact ALe.own rfl | exact ALe.elt rfl | exact BLe.boxD _ _ | exact BLe.row rfl | exact BLe.res | exact BLe.dead rfl | exact ALe.dat (PLe.refl _) | exact CLe.nil | refine And.intro ?_ ?_ | refine ALe.iface ?_ | refine ALe.clo ?_ | refine CLe.cons ?_ ?_ | refine BLe.box ?_ | refine BLe.row ?_ | exact ALe.any _ | refine ALe.dat (PLe.of_eq ?_)))
    · have hml := more_len hnd hsub hy hny
      have hfl := List.length_filter_le (fun k => !(lkJ p k).isSome) (done.map (·.1))
      have hC := clo2_c p (l ++ (done.map (·.1)).filter fun k => !(lkJ p k).isSome) y.1 y.2 (by simp at hfl ⊢; omega)
      have hq1 : (!true) = false := rfl
      repeat' (first
    | refine run_seq ?_
    | (refine k_pick rfl ?_; first | refine k_entryM rfl rfl rfl ?_ | refine k_assignD rfl rfl ?_ | refine k_moveD rfl rfl ?_ | refine k_extract rfl rfl rfl ?_ | refine k_not rfl rfl ?_ | refine k_moveP rfl rfl ?_ | refine k_acall1 (thk [(1000, _)] 200) rfl (by kernel_rfl) (reuse_c .any _) rfl ⟨rfl, trivial⟩ rfl (freshB_ok rfl) rfl ?_ | refine k_cloA1 (thk [(1000, _), (1001, _), (1002, _), (1003, _)] 350) rfl rfl (by kernel_rfl) (hC) rfl ⟨rfl, ⟨rfl, ⟨rfl, ⟨rfl, trivial⟩⟩⟩⟩ rfl (freshB_ok rfl) rfl ?_ | refine k_moveC rfl rfl ?_)
    | refine run_opsEnd ?_
    | refine run_region ?_
    | refine run_condT rfl (by first | rfl | assumption) ?_
    | refine run_condF rfl (by first | rfl | assumption) ?_
    | refine run_block ?_
    | refine run_blkEnd ?_
    | refine run_skip ?_
    | fail)
      refine run_again ?_
      refine ⟨⟨done ++ [y], more_nd hnd hny, more_sub hsub hy⟩, thk [(300, 350)] 0, by simp only [List.length_append, List.length_cons, List.length_nil]; omega, ?_⟩
      (refine ⟨?_, ?_, by rfl⟩ <;> repeat' (first | exact trivial | exact ALe.ptr rfl | exact ALe.own rfl | exact ALe.elt rfl | exact BLe.boxD _ _ | exact BLe.row rfl | exact BLe.res | exact BLe.dead rfl | exact ALe.dat (PLe.refl _) | exact CLe.nil | refine And.intro ?_ ?_ | refine ALe.iface ?_ | refine ALe.clo ?_ | refine CLe.cons ?_ ?_ | refine BLe.box ?_ | refine BLe.row ?_ | exact ALe.any _ | refine ALe.dat (PLe.of_eq ?_)))
      all_goals
        rw [List.map_append, List.filter_append, show List.filter (fun k => !(lkJ p k).isSome) ([y].map (·.1)) = (if (lkJ p y.1).isSome then [] else [y.1]) by
          simp only [List.map_cons, List.map_nil, List.filter_cons, List.filter_nil]
          cases hs : (lkJ p y.1).isSome <;> rfl, List.append_assoc]
end Go.Proofs.Ytbbacpdbbmjblaa
end
section
namespace Go.Proofs.Ytbbacpdbbmjblaa
open Go.RowKit
set_option linter.unusedSimpArgs false
/-- Whether two floating-point numbers are equal. -/
def feq (f g : Nat) : Bool := FloatKind.f64.format.order f g == some Ordering.eq
end Go.Proofs.Ytbbacpdbbmjblaa
end
section
set_option linter.unusedVariables false
namespace Go.Proofs.Ytbbacpdbbmjblaa
open Go.RowKit
set_option linter.unusedSimpArgs false
mutual
/-- Two trees are equal: as value.Equals has it. -/
def eqJ : JV → JV → Bool
  | .flt a, .flt b => feq a b
  | .flt a, .int n => feq a (floatOfInt .f64 n)
  | .int n, .flt b => feq (floatOfInt .f64 n) b
  | .int a, .int b => decide (a = b)
  | .str a, .str b => decide (a = b)
  | .bool a, .bool b => a == b
  | .list a, .list b => eqJs a b
  | .map a, .map b => Nat.beq a.length b.length && eqJm a b
  | .null, .null => true
  | _, _ => false
termination_by _ k => SizeOf.sizeOf k
def eqJs : List JV → List JV → Bool
  | [], [] => true
  | x :: r, y :: q => eqJ x y && eqJs r q
  | _, _ => false
termination_by _ k => SizeOf.sizeOf k
def eqJm : List (ByteArray × JV) → List (ByteArray × JV) → Bool
  | _, [] => true
  | a, y :: q => (match lkJ a y.1 with | some x => eqJ x y.2 | none => false) && eqJm a q
termination_by _ k => SizeOf.sizeOf k
decreasing_by
  all_goals simp_wf
  · obtain ⟨y1, y2⟩ := y; simp; omega
  · omega
end
theorem eqJs_len : ∀ {a b : List JV}, eqJs a b = true → a.length = b.length
  | [], [], _ => rfl
  | x :: r, y :: q, h => by
    unfold eqJs at h
    simp only [Bool.and_eq_true] at h
    simp [eqJs_len h.2]
  | [], _ :: _, h => by simp [eqJs] at h
  | _ :: _, [], h => by simp [eqJs] at h
theorem eqJs_true : ∀ {a b : List JV}, a.length = b.length → (∀ (i : Nat) (x y : JV), a[i]? = some x → b[i]? = some y → eqJ x y = true) → eqJs a b = true
  | [], [], _, _ => by unfold eqJs; rfl
  | x :: r, y :: q, hl, h => by
    unfold eqJs
    rw [h 0 x y rfl rfl, eqJs_true (by simpa using hl) (fun i x y hx hy => h (i + 1) x y (by simpa using hx) (by simpa using hy))]
    rfl
  | [], _ :: _, hl, _ => by simp at hl
  | _ :: _, [], hl, _ => by simp at hl
theorem eqJs_false : ∀ {a b : List JV} {i : Nat} {x y : JV}, a[i]? = some x → b[i]? = some y → eqJ x y = false → eqJs a b = false
  | x' :: r, y' :: q, 0, x, y, hx, hy, h => by
    simp only [List.getElem?_cons_zero, Option.some.injEq] at hx hy
    subst hx hy
    unfold eqJs
    rw [h]; rfl
  | x' :: r, y' :: q, i + 1, x, y, hx, hy, h => by
    unfold eqJs
    rw [eqJs_false (by simpa using hx) (by simpa using hy) h]
    simp
  | [], _, _, _, _, hx, _, _ => by simp at hx
  | _ :: _, [], _, _, _, _, hy, _ => by simp at hy
theorem dvLs_len {w : World} {F : Nat → Prop} {l : List JV} {v : Value} (h : Rep w F (dvLs l) v) : l.length * 16 ≤ 140737488351232 := by
  unfold dvLs Rep at h
  obtain ⟨_, _, _, h, _⟩ := h
  exact h
theorem rangeCons_c (l : List JV) (h : l ≠ []) : ACall1 Try.prog 158 [.dat (dvLs l), .dat dvA] [] (.iface 253 (.ptr 0 0))
    [(0, .box 255 [.dat (dvLs l), .ptr 1 0, .dat (.val (.int .i64 (-1)))]), (1, .box 173 [.dat (.val .nilIface)])] := by
  refine acall_of_run Try.func158 rfl Try.ntmps158 rfl (fun X => ?_)
  have hq : decide (((l.length : Nat) : Int) = 0) = false := by
    cases l with
    | nil => exact absurd rfl h
    | cons x r => simp; omega
  repeat' (first
    | refine run_seq ?_
    | (refine k_pick rfl ?_; first | refine k_assignD rfl rfl ?_ | refine k_moveD rfl rfl ?_ | refine k_fieldAddrB rfl rfl rfl ?_ | refine k_bin2B rfl rfl rfl rfl ?_ | refine k_nilB rfl rfl ?_ | refine k_storeB rfl rfl rfl rfl rfl ?_ | refine k_assignP rfl rfl ?_ | refine k_moveP rfl rfl ?_ | refine k_invAS1 (thk [] 200) rfl rfl (by kernel_rfl) (allocR_c) rfl trivial rfl (freshB_ok rfl) rfl ?_ | refine k_assignI rfl rfl ?_ | refine k_ifaceP rfl rfl (by kernel_rfl) ?_ | refine k_lenJ rfl rfl ?_)
    | refine run_opsEnd ?_
    | refine run_region ?_
    | refine run_condF rfl (by first | rfl | assumption) ?_
    | refine run_skip ?_
    | fail)
  refine run_retA () (thk [(0, 200), (1, 201)] 0) (tm := [(4, .iface 253 (.ptr 0 0))]) ?_ (resA_tmp rfl rfl)
  (refine ⟨?_, ?_, by rfl⟩ <;> repeat' (first | exact trivial | exact ALe.ptr rfl | exact ALe.own rfl | exact ALe.elt rfl | exact BLe.boxD _ _ | exact BLe.row rfl | exact BLe.res | exact BLe.dead rfl | exact ALe.dat (PLe.refl _) | exact CLe.nil | refine And.intro ?_ ?_ | refine ALe.iface ?_ | refine ALe.clo ?_ | refine CLe.cons ?_ ?_ | refine BLe.box ?_ | refine BLe.row ?_ | exact ALe.any _ | refine ALe.dat (PLe.of_eq ?_)))
theorem next_c (l : List JV) (k : Nat) (hk : k ≤ 140737488351232) : ACall1 Try.prog 183 [.ptr 1000 0] [(1000, .box 255 [.dat (dvLs l), .ptr 1001 0, .dat (.val (.int .i64 ((k : Int) - 1)))]), (1001, .box 173 [.any])]
    (.dat (.val (.bool (decide ((k : Int) < (l.length : Int)))))) [(1000, .box 255 [.dat (dvLs l), .ptr 1001 0, .dat (.val (.int .i64 (k : Int)))]), (1001, .box 173 [.any])] := by
  refine acall_of_run Try.func183 rfl Try.ntmps183 rfl (fun X => ?_)
  repeat' (first
    | refine run_seq ?_
    | (refine k_pick rfl ?_; first | refine k_assignD rfl rfl ?_ | refine k_fieldAddrB rfl rfl rfl ?_ | refine k_loadBD rfl rfl rfl (by first | rfl | (simp only [cellsD]; rfl)) ?_ | refine k_nilB rfl rfl ?_ | refine k_storeB rfl rfl rfl rfl rfl ?_ | refine k_ariI rfl rfl rfl rfl (by first | omega | (dsimp only; omega)) ?_ | refine k_moveP rfl rfl ?_)
    | refine run_opsEnd ?_
    | refine run_region ?_
    | refine run_drawC (by kernel_rfl) ?_
    | refine c_nil (And.intro (by kernel_rfl) ?_)
    | refine c_pick (d_assignD rfl rfl) ?_
    | refine c_pick (d_fieldAddrB rfl rfl rfl) ?_
    | refine c_pick (d_loadBD rfl rfl rfl (by first | rfl | (simp only [cellsD]; rfl))) ?_
    | refine c_pick (d_bin2B rfl rfl rfl rfl) ?_
    | refine c_pick (d_nilB rfl rfl) ?_
    | refine c_pick (d_moveP rfl rfl) ?_
    | refine c_pick (d_lenJ rfl rfl) ?_
    | fail)
  refine run_retA () id (tm := [(2, .dat (.val (.bool (decide ((k : Int) < (l.length : Int))))))]) ?_ (resA_tmp rfl rfl)
  (refine ⟨?_, ?_, by rfl⟩ <;> repeat' (first | exact trivial | exact ALe.ptr rfl | exact ALe.own rfl | exact ALe.elt rfl | exact BLe.boxD _ _ | exact BLe.row rfl | exact BLe.res | exact BLe.dead rfl | exact ALe.dat (PLe.refl _) | exact CLe.nil | refine And.intro ?_ ?_ | refine ALe.iface ?_ | refine ALe.clo ?_ | refine CLe.cons ?_ ?_ | refine BLe.box ?_ | refine BLe.row ?_ | exact ALe.any _ | refine ALe.dat (PLe.of_eq ?_)))
  all_goals (rw [show (k : Int) - 1 + 1 = k by omega])
set_option maxHeartbeats 4000000 in
theorem item_c (l : List JV) (k : Nat) (j : JV) (hj : l[k]? = some j) : ACall1 Try.prog 182 [.ptr 1000 0] [(1000, .box 255 [.dat (dvLs l), .ptr 1001 0, .dat (.val (.int .i64 (k : Int)))]), (1001, .box 173 [.any])]
    (.tup [.dat (.val (.int .i64 (k : Int))), .iface 139 (.ptr 1001 0)]) [(1000, .box 255 [.dat (dvLs l), .ptr 1001 0, .dat (.val (.int .i64 (k : Int)))]), (1001, .box 173 [.dat (pdJ j)])] := by
  refine acall_of_run Try.func182 rfl Try.ntmps182 rfl (fun X => ?_)
  have hlt : k < l.length := (List.getElem?_eq_some_iff.1 hj).1
  have hq1 : decide (((k : Nat) : Int) < 0) = false := by simp
  have hq2 : decide (((l.length : Nat) : Int) ≤ (k : Int)) = false := by simp; omega
  repeat' (first
    | refine run_seq ?_
    | (refine k_pick rfl ?_; first | refine k_assignD rfl rfl ?_ | refine k_fieldAddrB rfl rfl rfl ?_ | refine k_loadBD rfl rfl rfl (by first | rfl | (simp only [cellsD]; rfl)) ?_ | refine k_bin2B rfl rfl rfl rfl ?_ | refine k_nilB rfl rfl ?_ | refine k_moveP rfl rfl ?_)
    | refine run_opsEnd ?_
    | refine run_region ?_
    | refine run_condF rfl (by first | rfl | assumption) ?_
    | refine run_skip ?_
    | refine run_drawC (by kernel_rfl) ?_
    | refine c_nil (And.intro (by kernel_rfl) ?_)
    | refine c_pick (d_assignD rfl rfl) ?_
    | refine c_pick (d_fieldAddrB rfl rfl rfl) ?_
    | refine c_pick (d_loadBD rfl rfl rfl (by first | rfl | (simp only [cellsD]; rfl))) ?_
    | refine c_pick (d_bin2B rfl rfl rfl rfl) ?_
    | refine c_pick (d_nilB rfl rfl) ?_
    | refine c_pick (d_loadD rfl rfl (by first | rfl | (simp only [cellsD]; rfl))) ?_
    | refine c_pick (d_moveP rfl rfl) ?_
    | refine c_pick (d_loadBP rfl rfl rfl rfl) ?_
    | refine c_pick (d_acallB (thk [(1000, _)] 200) rfl (by kernel_rfl) ((reuse_c .any _)) rfl rfl rfl rfl rfl) ?_
    | refine c_pick (d_assignI rfl rfl) ?_
    | refine c_pick (d_lenJ rfl rfl) ?_
    | refine c_pick (d_indexJ rfl rfl rfl (by assumption)) ?_
    | fail)
  refine run_retA () id (tm := [(2, .dat (.val (.int .i64 (k : Int)))), (3, .iface 139 (.ptr 1001 0))]) ?_ ?_
  rotate_left
  · show resA _ _ (mkTup [.dat (.val (.int .i64 (k : Int))), .iface 139 (.ptr 1001 0)]) _
    exact resA_tmp2 rfl rfl rfl
  (refine ⟨?_, ?_, by rfl⟩ <;> repeat' (first | exact trivial | exact ALe.ptr rfl | exact ALe.own rfl | exact ALe.elt rfl | exact BLe.boxD _ _ | exact BLe.row rfl | exact BLe.res | exact BLe.dead rfl | exact ALe.dat (PLe.refl _) | exact CLe.nil | refine And.intro ?_ ?_ | refine ALe.iface ?_ | refine ALe.clo ?_ | refine CLe.cons ?_ ?_ | refine BLe.box ?_ | refine BLe.row ?_ | exact ALe.any _ | refine ALe.dat (PLe.of_eq ?_)))
end Go.Proofs.Ytbbacpdbbmjblaa
end
section
namespace Go.Proofs.Ytbbacpdbbmjblaa
open Go.RowKit
set_option linter.unusedSimpArgs false
def cmpI (a b : Int) : Int := if a < b then -1 else if b < a then 1 else 0
def cmpS (a b : ByteArray) : Int := if blt a b then -1 else if blt b a then 1 else 0
end Go.Proofs.Ytbbacpdbbmjblaa
end
section
set_option linter.unusedVariables false
namespace Go.Proofs.Ytbbacpdbbmjblaa
open Go.RowKit
set_option linter.unusedSimpArgs false
/-- How two floating-point numbers, and two bools, compare. -/
def cmpF (a b : Nat) : Int := if FloatKind.f64.format.order a b == some .gt then 1 else if FloatKind.f64.format.order a b == some .lt then -1 else 0
def cmpBo (a b : Bool) : Int := if a == b then 0 else if !a then -1 else 1
theorem compareBytes_eq : ∀ (x y : List UInt8), Lib.compareBytes x y = if Op.bytesLess x y then -1 else if Op.bytesLess y x then 1 else 0
  | [], [] => rfl
  | [], _ :: _ => rfl
  | _ :: _, [] => rfl
  | a :: x, b :: y => by
    unfold Lib.compareBytes
    rw [compareBytes_eq x y]
    simp only [Op.bytesLess]
    by_cases h : a < b
    · simp [h]
    · rw [if_neg h]
      by_cases h' : b < a
      · have hne : (a == b) = false := by
          simp only [beq_eq_false_iff_ne]
          intro e; subst e; exact absurd h' (UInt8.lt_irrefl _)
        have hne' : (b == a) = false := by
          simp only [beq_eq_false_iff_ne]
          intro e; subst e; exact absurd h' (UInt8.lt_irrefl _)
        simp [h, h', hne]
      · have e : a = b := by
          rw [UInt8.lt_iff_toNat_lt] at h h'
          exact UInt8.toNat_inj.1 (by omega)
        subst e
        simp [UInt8.lt_irrefl]
theorem cmpS_bytes (a b : ByteArray) : Lib.compareBytes a.data.toList b.data.toList = cmpS a b := by
  rw [compareBytes_eq]
  unfold cmpS blt
  rw [ByteArray.toList_eq, ByteArray.toList_eq]
theorem cmpS_wf (a b : ByteArray) : (Lit.int .i64 (cmpS a b)).wf = true := by
  unfold cmpS
  split
  · rfl
  · split <;> rfl
/-- A function without a body that compares two strings. -/
class CmpStrF (P : Program) (f : Nat) : Prop where
  out : ∀ (a b : ByteArray) (w : World), (callFunc f #[.string a, .string b]).run P w = .ok (.value (.int .i64 (cmpS a b))) w
set_option maxRecDepth 100000 in
instance : CmpStrF Try.prog 113 := ⟨fun a b w => by
  rw [run_callFunc_extern (fn := Try.f113) (e := Extern.BytealgCompare.compare) Try.func113 (by kernel_rfl) (by kernel_rfl) (by kernel_rfl) (by kernel_rfl)]
  simp only [Lib.run_compareString, Result.andThen_ok, cmpS_bytes]⟩
section
variable {P : Program} {X : Base} {N : Nat} {Q : Exit → Act → World → Prop} {ops : Array Oper} {rem : List Nat} {ks : List Itm} {s s' : Sta}
theorem op_cmpStr {o : Oper} (hd : dstOk X.N o.dst = true) {f : FuncId} {x y : Operand} {ts : Array TypeId} (ho : o.op = .call { callee := .value (.func f), args := #[x, y], argTypes := ts }) (hf : CmpStrF P f) {a b : ByteArray} (hx : s.ev x = .dat (.val (.string a))) (hy : s.ev y = .dat (.val (.string b))) :
    OpS P X o s (s.put o.dst (.dat (.val (.int .i64 (cmpS a b))))) := by
  refine opS_value hd fun a' w ρ hc => ⟨.int .i64 (cmpS a b), ?_, by unfold VR Rep; exact ⟨rfl, cmpS_wf a b⟩⟩
  have h1 := hc.ev x
  rw [hx] at h1
  have h2 := hc.ev y
  rw [hy] at h2
  unfold VR Rep at h1 h2
  have hrun := hf.out a b w
  rw [← h1.1, ← h2.1] at hrun
  have ef : a'.eval (.func f) = .func (.func f) #[] #[] := rfl
  simp [execOp, ho, resolve, Deferred.ofValue, ef, invoke, Result.andThen, hrun]
theorem k_cmpStr {d f : Nat} {x y : Operand} {ts : Array TypeId} {a b : ByteArray} (hN : Nat.blt d N = true) [hf : CmpStrF P f] (hx : s.ev x = .dat (.val (.string a))) (hy : s.ev y = .dat (.val (.string b))) (h : Run P X N Q (.ops ops rem :: ks) (s.put (some d) (.dat (.val (.int .i64 (cmpS a b)))))) :
    RunK P X N Q ops rem ks (some d) (.call { callee := .value (.func f), args := #[x, y], argTypes := ts }) s := k_of hN (fun _ _ _ hd => op_cmpStr hd rfl hf hx hy) h
end
theorem bytealg_p (a b : ByteArray) : PCall Try.prog 107 [.val (.string a), .val (.string b)] (.val (.int .i64 (cmpS a b))) := by
  refine pcall_of_run Try.func107 rfl Try.ntmps107 rfl (fun X => ?_)
  repeat' (first
    | refine run_seq ?_
    | (refine k_pick rfl ?_; first | refine k_cmpStr rfl rfl rfl ?_ | refine k_assignD rfl rfl ?_ | refine k_moveD rfl rfl ?_)
    | refine run_opsEnd ?_
    | refine run_region ?_
    | refine run_retOk (resOk_tmp rfl rfl ?_)
    | fail)
  all_goals exact PLe.refl _
theorem strcmp_p (a b : ByteArray) : PCall Try.prog 96 [.val (.string a), .val (.string b)] (.val (.int .i64 (cmpS a b))) := by
  have c := bytealg_p a b
  refine pcall_of_run Try.func96 rfl Try.ntmps96 rfl (fun X => ?_)
  repeat' (first
    | refine run_seq ?_
    | (refine k_pick rfl ?_; first | refine k_assignD rfl rfl ?_ | refine k_moveD rfl rfl ?_ | refine k_call rfl (by kernel_rfl) rfl (by first | exact c) ?_)
    | refine run_opsEnd ?_
    | refine run_region ?_
    | refine run_retOk (resOk_tmp rfl rfl ?_)
    | fail)
  all_goals exact PLe.refl _
theorem fltcmp_p (a b : Nat) : PCall Try.prog 104 [.val (.float .f64 a), .val (.float .f64 b)] (.val (.int .i64 (cmpF a b))) := by
  refine pcall_of_run Try.func104 rfl Try.ntmps104 rfl (fun X => ?_)
  unfold cmpF
  cases h1 : (FloatKind.f64.format.order a b == some .gt) <;> cases h2 : (FloatKind.f64.format.order a b == some .lt)
  all_goals
    repeat' (first
    | refine run_seq ?_
    | (refine k_pick rfl ?_; first | refine k_assignD rfl rfl ?_ | refine k_moveD rfl rfl ?_ | refine k_fltC rfl rfl rfl rfl ?_)
    | refine run_opsEnd ?_
    | refine run_region ?_
    | refine run_condT rfl (by first | rfl | assumption) ?_
    | refine run_condF rfl (by first | rfl | assumption) ?_
    | refine run_skip ?_
    | refine run_retOk (resOk_tmp rfl rfl ?_)
    | fail)
  all_goals exact PLe.refl _
theorem intcmp_p (a b : Int) : PCall Try.prog 105 [.val (.int .i64 a), .val (.int .i64 b)] (.val (.int .i64 (cmpI a b))) := by
  refine pcall_of_run Try.func105 rfl Try.ntmps105 rfl (fun X => ?_)
  unfold cmpI
  by_cases h1 : b < a
  · have q1 : decide (b < a) = true := by simpa using h1
    rw [if_neg (by omega), if_pos h1]
    repeat' (first
    | refine run_seq ?_
    | (refine k_pick rfl ?_; first | refine k_assignD rfl rfl ?_ | refine k_moveD rfl rfl ?_ | refine k_bin2B rfl rfl rfl rfl ?_)
    | refine run_opsEnd ?_
    | refine run_region ?_
    | refine run_condT rfl (by first | rfl | assumption) ?_
    | refine run_retOk (resOk_tmp rfl rfl ?_)
    | fail)
    all_goals exact PLe.refl _
  · have q1 : decide (b < a) = false := by simpa using h1
    by_cases h2 : a < b
    · have q2 : decide (a < b) = true := by simpa using h2
      rw [if_pos h2]
      repeat' (first
    | refine run_seq ?_
    | (refine k_pick rfl ?_; first | refine k_assignD rfl rfl ?_ | refine k_moveD rfl rfl ?_ | refine k_bin2B rfl rfl rfl rfl ?_)
    | refine run_opsEnd ?_
    | refine run_region ?_
    | refine run_condT rfl (by first | rfl | assumption) ?_
    | refine run_condF rfl (by first | rfl | assumption) ?_
    | refine run_retOk (resOk_tmp rfl rfl ?_)
    | fail)
      all_goals exact PLe.refl _
    · have q2 : decide (a < b) = false := by simpa using h2
      rw [if_neg h2, if_neg h1]
      repeat' (first
    | refine run_seq ?_
    | (refine k_pick rfl ?_; first | refine k_assignD rfl rfl ?_ | refine k_moveD rfl rfl ?_ | refine k_bin2B rfl rfl rfl rfl ?_)
    | refine run_opsEnd ?_
    | refine run_region ?_
    | refine run_condF rfl (by first | rfl | assumption) ?_
    | refine run_skip ?_
    | refine run_retOk (resOk_tmp rfl rfl ?_)
    | fail)
      all_goals exact PLe.refl _
theorem boolcmp_p (a b : Bool) : PCall Try.prog 106 [.val (.bool a), .val (.bool b)] (.val (.int .i64 (cmpBo a b))) := by
  refine pcall_of_run Try.func106 rfl Try.ntmps106 rfl (fun X => ?_)
  cases a <;> cases b
  all_goals
    repeat' (first
    | refine run_seq ?_
    | (refine k_pick rfl ?_; first | refine k_assignD rfl rfl ?_ | refine k_moveD rfl rfl ?_ | refine k_cmpBool rfl rfl rfl (by kernel_rfl) rfl ?_ | refine k_not rfl rfl ?_)
    | refine run_opsEnd ?_
    | refine run_region ?_
    | refine run_condT rfl (by first | rfl | assumption) ?_
    | refine run_condF rfl (by first | rfl | assumption) ?_
    | refine run_skip ?_
    | refine run_retOk (resOk_tmp rfl rfl ?_)
    | fail)
  all_goals exact PLe.refl _
/-- Lists compare lexically. -/
def cmpLs (f : JV → JV → Int) : List JV → List JV → Int
  | [], [] => 0
  | [], _ :: _ => -1
  | _ :: _, [] => 1
  | x :: r, y :: q => if f x y = 0 then cmpLs f r q else f x y
theorem cmpLs_ne {f : JV → JV → Int} : ∀ {a b : List JV} {i : Nat} {x y : JV}, (∀ j u v, j < i → a[j]? = some u → b[j]? = some v → f u v = 0) → a[i]? = some x → b[i]? = some y → f x y ≠ 0 → cmpLs f a b = f x y
  | x' :: r, y' :: q, 0, x, y, _, hx, hy, h => by
    simp only [List.getElem?_cons_zero, Option.some.injEq] at hx hy
    subst hx hy
    simp only [cmpLs, if_neg h]
  | x' :: r, y' :: q, i + 1, x, y, hall, hx, hy, h => by
    simp only [cmpLs]
    rw [if_pos (hall 0 x' y' (by omega) rfl rfl)]
    exact cmpLs_ne (i := i) (fun j u v hj hu hv => hall (j + 1) u v (by omega) (by simpa using hu) (by simpa using hv)) (by simpa using hx) (by simpa using hy) h
  | [], _, _, _, _, _, hx, _, _ => by simp at hx
  | _ :: _, [], _, _, _, _, _, hy, _ => by simp at hy
theorem cmpLs_end {f : JV → JV → Int} : ∀ {a b : List JV}, (∀ (j : Nat) (u v : JV), a[j]? = some u → b[j]? = some v → f u v = 0) → cmpLs f a b = if a.length < b.length then -1 else if b.length < a.length then 1 else 0
  | [], [], _ => rfl
  | [], _ :: _, _ => by simp [cmpLs]
  | _ :: _, [], _ => by simp [cmpLs]
  | x :: r, y :: q, h => by
    simp only [cmpLs]
    rw [if_pos (h 0 x y rfl rfl), cmpLs_end (fun j u v hu hv => h (j + 1) u v (by simpa using hu) (by simpa using hv))]
    simp
end Go.Proofs.Ytbbacpdbbmjblaa
end
section
set_option linter.unusedVariables false
namespace Go.Proofs.Ytbbacpdbbmjblaa
open Go.RowKit
set_option linter.unusedSimpArgs false
/-- What the round over a key comes to. -/
def stepC (f : JV → JV → Int) (p q : List (ByteArray × JV)) (i : Nat) (k : ByteArray) : Int :=
  if i = p.length then -1 else if i = q.length then 1 else match lkJ p k, lkJ q k with
    | none, _ => 1
    | some _, none => -1
    | some x, some y => f x y
/-- The rounds over the keys, till one that is not 0. -/
def cmpKs (f : JV → JV → Int) (p q : List (ByteArray × JV)) : Nat → List ByteArray → Int
  | _, [] => 0
  | i, k :: r => if stepC f p q i k = 0 then cmpKs f p q (i + 1) r else stepC f p q i k
theorem cloC_c (f : JV → JV → Int) (p q : List (ByteArray × JV)) (i : Nat) (k : ByteArray) (hi : i ≤ 140737488351232) (hE : ∀ x y, lkJ p k = some x → lkJ q k = some y → PCall Try.prog 90 [dvA, dvV x, dvV y] (.val (.int .i64 (f x y)))) :
    ACall1 Try.prog 112 [.dat (.val (.string k)), .dat (valD (lkJ p k)), .dat (valD (lkJ q k)), .ptr 1000 0, .ptr 1001 0, .ptr 1002 0, .ptr 1003 0, .ptr 1004 0]
    [(1000, .box 3 [.dat (.val (.int .i64 (i : Int)))]), (1001, .box 3 [.dat (.val (.int .i64 (p.length : Int)))]), (1002, .box 3 [.dat (.val (.int .i64 0))]), (1003, .box 3 [.dat (.val (.int .i64 (q.length : Int)))]), (1004, .box 159 [.dat dvA])]
    (.dat (.val (.bool (decide (stepC f p q i k = 0)))))
    [(1000, .box 3 [.dat (.val (.int .i64 ((i : Int) + 1)))]), (1001, .box 3 [.dat (.val (.int .i64 (p.length : Int)))]), (1002, .box 3 [.dat (.val (.int .i64 (stepC f p q i k)))]), (1003, .box 3 [.dat (.val (.int .i64 (q.length : Int)))]), (1004, .box 159 [.dat dvA])] := by
  refine acall_of_run Try.func112 rfl Try.ntmps112 rfl (fun X => ?_)
  by_cases h1 : i = p.length
  · have q1 : decide ((i : Int) = (p.length : Int)) = true := by simp; omega
    have e : stepC f p q i k = -1 := by unfold stepC; rw [if_pos h1]
    rw [e]
    repeat' (first
    | refine run_seq ?_
    | (refine k_pick rfl ?_; first | refine k_assignD rfl rfl ?_ | refine k_loadBD rfl rfl rfl (by first | rfl | (simp only [cellsD]; rfl)) ?_ | refine k_bin2B rfl rfl rfl rfl ?_ | refine k_storeB rfl rfl rfl rfl rfl ?_ | refine k_ariI rfl rfl rfl rfl (by first | omega | (dsimp only; omega)) ?_)
    | refine run_opsEnd ?_
    | refine run_region ?_
    | refine run_condT rfl (by first | rfl | assumption) ?_
    | refine run_block ?_
    | refine run_blkEnd ?_
    | fail)
    refine run_retA () id (tm := [(11, .dat (.val (.bool (decide ((-1 : Int) = 0)))))]) ?_ (resA_tmp rfl rfl)
    (refine ⟨?_, ?_, by rfl⟩ <;> repeat' (first | exact trivial | exact ALe.ptr rfl | exact ALe.own rfl | exact ALe.elt rfl | exact BLe.boxD _ _ | exact BLe.row rfl | exact BLe.res | exact BLe.dead rfl | exact ALe.dat (PLe.refl _) | exact CLe.nil | refine And.intro ?_ ?_ | refine ALe.iface ?_ | refine ALe.clo ?_ | refine CLe.cons ?_ ?_ | refine BLe.box ?_ | refine BLe.row ?_ | exact ALe.any _ | refine ALe.dat (PLe.of_eq ?_)))
  have q1 : decide ((i : Int) = (p.length : Int)) = false := by simp; omega
  by_cases h2 : i = q.length
  · have q2 : decide ((i : Int) = (q.length : Int)) = true := by simp; omega
    have e : stepC f p q i k = 1 := by unfold stepC; rw [if_neg h1, if_pos h2]
    rw [e]
    repeat' (first
    | refine run_seq ?_
    | (refine k_pick rfl ?_; first | refine k_assignD rfl rfl ?_ | refine k_loadBD rfl rfl rfl (by first | rfl | (simp only [cellsD]; rfl)) ?_ | refine k_bin2B rfl rfl rfl rfl ?_ | refine k_storeB rfl rfl rfl rfl rfl ?_ | refine k_ariI rfl rfl rfl rfl (by first | omega | (dsimp only; omega)) ?_)
    | refine run_opsEnd ?_
    | refine run_region ?_
    | refine run_condT rfl (by first | rfl | assumption) ?_
    | refine run_condF rfl (by first | rfl | assumption) ?_
    | refine run_block ?_
    | refine run_blkEnd ?_
    | fail)
    refine run_retA () id (tm := [(11, .dat (.val (.bool (decide ((1 : Int) = 0)))))]) ?_ (resA_tmp rfl rfl)
    (refine ⟨?_, ?_, by rfl⟩ <;> repeat' (first | exact trivial | exact ALe.ptr rfl | exact ALe.own rfl | exact ALe.elt rfl | exact BLe.boxD _ _ | exact BLe.row rfl | exact BLe.res | exact BLe.dead rfl | exact ALe.dat (PLe.refl _) | exact CLe.nil | refine And.intro ?_ ?_ | refine ALe.iface ?_ | refine ALe.clo ?_ | refine CLe.cons ?_ ?_ | refine BLe.box ?_ | refine BLe.row ?_ | exact ALe.any _ | refine ALe.dat (PLe.of_eq ?_)))
  have q2 : decide ((i : Int) = (q.length : Int)) = false := by simp; omega
  cases hp : lkJ p k with
  | none =>
    have e : stepC f p q i k = 1 := by unfold stepC; rw [if_neg h1, if_neg h2, hp]
    rw [e]
    generalize valD (lkJ q k) = R
    repeat' (first
    | refine run_seq ?_
    | (refine k_pick rfl ?_; first | refine k_assignD rfl rfl ?_ | refine k_moveD rfl rfl ?_ | refine k_loadBD rfl rfl rfl (by first | rfl | (simp only [cellsD]; rfl)) ?_ | refine k_bin2B rfl rfl rfl rfl ?_ | refine k_cmpNil rfl rfl rfl (by kernel_rfl) (by first | exact NilIs.ptr | exact NilIs.none | exact NilIs.nilI | assumption) rfl ?_ | refine k_storeB rfl rfl rfl rfl rfl ?_ | refine k_ariI rfl rfl rfl rfl (by first | omega | (dsimp only; omega)) ?_)
    | refine run_opsEnd ?_
    | refine run_region ?_
    | refine run_condT rfl (by first | rfl | assumption) ?_
    | refine run_condF rfl (by first | rfl | assumption) ?_
    | refine run_block ?_
    | refine run_blkEnd ?_
    | fail)
    refine run_retA () id (tm := [(11, .dat (.val (.bool (decide ((1 : Int) = 0)))))]) ?_ (resA_tmp rfl rfl)
    (refine ⟨?_, ?_, by rfl⟩ <;> repeat' (first | exact trivial | exact ALe.ptr rfl | exact ALe.own rfl | exact ALe.elt rfl | exact BLe.boxD _ _ | exact BLe.row rfl | exact BLe.res | exact BLe.dead rfl | exact ALe.dat (PLe.refl _) | exact CLe.nil | refine And.intro ?_ ?_ | refine ALe.iface ?_ | refine ALe.clo ?_ | refine CLe.cons ?_ ?_ | refine BLe.box ?_ | refine BLe.row ?_ | exact ALe.any _ | refine ALe.dat (PLe.of_eq ?_)))
  | some x =>
    cases hq : lkJ q k with
    | none =>
      have e : stepC f p q i k = -1 := by unfold stepC; rw [if_neg h1, if_neg h2, hp, hq]
      rw [e]
      repeat' (first
    | refine run_seq ?_
    | (refine k_pick rfl ?_; first | refine k_assignD rfl rfl ?_ | refine k_moveD rfl rfl ?_ | refine k_loadBD rfl rfl rfl (by first | rfl | (simp only [cellsD]; rfl)) ?_ | refine k_bin2B rfl rfl rfl rfl ?_ | refine k_cmpNil rfl rfl rfl (by kernel_rfl) (by first | exact NilIs.ptr | exact NilIs.none | exact NilIs.nilI | assumption) rfl ?_ | refine k_storeB rfl rfl rfl rfl rfl ?_ | refine k_ariI rfl rfl rfl rfl (by first | omega | (dsimp only; omega)) ?_ | refine k_cmpNil rfl rfl rfl (by kernel_rfl) (by exact NilIs.ifc) rfl ?_)
    | refine run_opsEnd ?_
    | refine run_region ?_
    | refine run_condT rfl (by first | rfl | assumption) ?_
    | refine run_condF rfl (by first | rfl | assumption) ?_
    | refine run_block ?_
    | refine run_blkEnd ?_
    | fail)
      refine run_retA () id (tm := [(11, .dat (.val (.bool (decide ((-1 : Int) = 0)))))]) ?_ (resA_tmp rfl rfl)
      (refine ⟨?_, ?_, by rfl⟩ <;> repeat' (first | exact trivial | exact ALe.ptr rfl | exact ALe.own rfl | exact ALe.elt rfl | exact BLe.boxD _ _ | exact BLe.row rfl | exact BLe.res | exact BLe.dead rfl | exact ALe.dat (PLe.refl _) | exact CLe.nil | refine And.intro ?_ ?_ | refine ALe.iface ?_ | refine ALe.clo ?_ | refine CLe.cons ?_ ?_ | refine BLe.box ?_ | refine BLe.row ?_ | exact ALe.any _ | refine ALe.dat (PLe.of_eq ?_)))
    | some y =>
      have hC := hE x y hp hq
      have e : stepC f p q i k = f x y := by unfold stepC; rw [if_neg h1, if_neg h2, hp, hq]
      rw [e]
      generalize f x y = c at *
      repeat' (first
    | refine run_seq ?_
    | (refine k_pick rfl ?_; first | refine k_assignD rfl rfl ?_ | refine k_moveD rfl rfl ?_ | refine k_loadBD rfl rfl rfl (by first | rfl | (simp only [cellsD]; rfl)) ?_ | refine k_bin2B rfl rfl rfl rfl ?_ | refine k_call rfl (by kernel_rfl) rfl (by first | exact hC) ?_ | refine k_storeB rfl rfl rfl rfl rfl ?_ | refine k_ariI rfl rfl rfl rfl (by first | omega | (dsimp only; omega)) ?_ | refine k_cmpNil rfl rfl rfl (by kernel_rfl) (by exact NilIs.ifc) rfl ?_)
    | refine run_opsEnd ?_
    | refine run_region ?_
    | refine run_condF rfl (by first | rfl | assumption) ?_
    | refine run_block ?_
    | refine run_blkEnd ?_
    | fail)
      refine run_retA () id (tm := [(11, .dat (.val (.bool (decide (c = 0)))))]) ?_ (resA_tmp rfl rfl)
      (refine ⟨?_, ?_, by rfl⟩ <;> repeat' (first | exact trivial | exact ALe.ptr rfl | exact ALe.own rfl | exact ALe.elt rfl | exact BLe.boxD _ _ | exact BLe.row rfl | exact BLe.res | exact BLe.dead rfl | exact ALe.dat (PLe.refl _) | exact CLe.nil | refine And.intro ?_ ?_ | refine ALe.iface ?_ | refine ALe.clo ?_ | refine CLe.cons ?_ ?_ | refine BLe.box ?_ | refine BLe.row ?_ | exact ALe.any _ | refine ALe.dat (PLe.of_eq ?_)))
theorem swap_eq {A : List ByteArray} {x y : ByteArray} {R : List ByteArray} : ((pdS (A ++ y :: x :: R)).set (A.length + 1) (.val (.string y))).set A.length (.val (.string x)) = pdS (A ++ x :: y :: R) := by
  unfold pdS
  simp only [List.map_append, List.map_cons]
  have e : (A.map fun k => PD.val (.string k)).length = A.length := by simp
  rw [List.set_append_right _ _ (by rw [e]; omega), List.set_append_right _ _ (by rw [e]; omega), e]
  simp
/-- x stands where it belongs. -/
theorem incr_put {A B : List ByteArray} {x : ByteArray} (h : Incr (A ++ B)) (hB : ∀ b ∈ B, blt x b = true) (hA : ∀ y, A.getLast? = some y → blt y x = true) : Incr (A ++ x :: B) := by
  unfold Incr at *
  rw [List.pairwise_append] at h ⊢
  obtain ⟨h1, h2, h3⟩ := h
  have hAx : ∀ a ∈ A, blt a x = true := by
    intro a ha
    rcases List.eq_nil_or_concat A with rfl | ⟨A', y, rfl⟩
    · cases ha
    · have hy := hA y (by simp)
      simp only [List.concat_eq_append] at ha h1
      rcases List.mem_append.1 ha with ha | ha
      · rw [List.pairwise_append] at h1
        exact blt_trans (h1.2.2 a ha y (by simp)) hy
      · simp at ha; subst ha; exact hy
  refine ⟨h1, List.pairwise_cons.2 ⟨hB, h2⟩, fun a ha b hb => ?_⟩
  rcases List.mem_cons.1 hb with rfl | hb
  · exact hAx a ha
  · exact h3 a ha b hb
end Go.Proofs.Ytbbacpdbbmjblaa
end
section
set_option linter.unusedVariables false
namespace Go.Proofs.Ytbbacpdbbmjblaa
open Go.RowKit
set_option linter.unusedSimpArgs false
/-- The blocks that the round writes. -/
def cTb (p q : List (ByteArray × JV)) (i : AV) (c : AV) : List (Nat × Blk) :=
  [(1000, .box 3 [i]), (1001, .box 3 [.dat (.val (.int .i64 (p.length : Int)))]), (1002, .box 3 [c]), (1003, .box 3 [.dat (.val (.int .i64 (q.length : Int)))]), (1004, .box 159 [.dat dvA])]
def cClo : AV := .clo 112 [.ptr 1000 0, .ptr 1001 0, .ptr 1002 0, .ptr 1003 0, .ptr 1004 0]
theorem take_mid {A B R : List ByteArray} {x : ByteArray} {i : Nat} (h : A.length + B.length = i) : (A ++ x :: (B ++ R)).take (i + 1) = A ++ x :: B := by
  rw [show A ++ x :: (B ++ R) = (A ++ x :: B) ++ R by simp]
  rw [List.take_left' (by simp; omega)]
theorem valD_nil (o : Option JV) : NilIs true (valD o) (!o.isSome) := by
  cases o with
  | none => exact NilIs.nilI
  | some j => exact NilIs.ifc
set_option maxHeartbeats 16000000 in
theorem lex_c (f : JV → JV → Int) (p q : List (ByteArray × JV)) (K : List ByteArray) (hpq : p ≠ [] ∨ q ≠ []) (hp : (p.map (·.1)).Nodup) (hq : (q.map (·.1)).Nodup) (hl : (p.length + q.length) * 16 ≤ 140737488351232) (hK : Incr K) (hKm : ∀ k, k ∈ K ↔ k ∈ p.map (·.1) ∨ k ∈ q.map (·.1))
    (hE : ∀ k x y, lkJ p k = some x → lkJ q k = some y → PCall Try.prog 90 [dvA, dvV x, dvV y] (.val (.int .i64 (f x y)))) :
    ACall1 Try.prog 175 [.dat dvA, .dat (dvM p), .dat (dvM q), cClo] (cTb p q (.dat (.val (.int .i64 0))) (.dat (.val (.int .i64 0)))) (.dat (.val (.bool (decide (cmpKs f p q 0 K = 0))))) (cTb p q .any (.dat (.val (.int .i64 (cmpKs f p q 0 K))))) := by
  have hI1 := iter1_c p [] hp (by simp; omega)
  refine acall_of_run Try.func175 rfl Try.ntmps175 rfl (fun X => ?_)
  obtain ⟨cap, hcap⟩ : ∃ cap, cap = if p.length < q.length then q.length else p.length := ⟨_, rfl⟩
  have hc1 : cap * 16 ≤ 140737488351232 := by rw [hcap]; split <;> omega
  have hc2 : cap ≤ 140737488351232 := by omega
  repeat' (first
    | (show Run _ _ _ _ (Itm.code (Code.cond (Operand.tmp 31) _ _) :: _) _; refine run_hold ?_)
    | refine run_seq ?_
    | (refine k_pick rfl ?_; first | refine k_assignD rfl rfl ?_ | refine k_moveD rfl rfl ?_ | refine k_loadBD rfl rfl rfl (by first | rfl | (simp only [cellsD]; rfl)) ?_ | refine k_bin2B rfl rfl rfl rfl ?_ | refine k_boxW rfl rfl rfl (by first | rfl | (simp only [cellsD]; rfl)) ?_ | refine k_invS rfl rfl (by kernel_rfl) rfl (by first | exact lenM_p _) ?_ | refine k_cmpNil rfl rfl rfl (by kernel_rfl) (by exact NilIs.ifc) rfl ?_)
    | refine run_opsEnd ?_
    | refine run_region ?_
    | refine run_condT rfl (by first | rfl | assumption) ?_
    | fail)
  refine ⟨?_⟩
  refine run_stage (mkSta [(0, .dat dvA), (2, .dat (dvM q)), (3, cClo), (5, .ptr 5 0), (9, .dat (.val (.int .i64 (p.length : Int)))), (10, .dat (.val (.int .i64 (q.length : Int)))), (11, .dat (.val (.int .i64 (cap : Int))))]
    ((5, .box 104 [.dat (dvM p)]) :: cTb p q (.dat (.val (.int .i64 0))) (.dat (.val (.int .i64 0))))) ?_ ?_
  · by_cases hgt : p.length < q.length
    · have g : decide ((p.length : Int) < (q.length : Int)) = true := decide_eq_true (by omega)
      rw [if_pos hgt] at hcap
      subst hcap
      repeat' (first
    | (refine k_pick rfl ?_; first | refine k_assignD rfl rfl ?_ | refine k_moveD rfl rfl ?_)
    | refine run_opsEnd ?_
    | refine run_region ?_
    | refine run_condT rfl (by first | rfl | assumption) ?_
    | fail)
      refine run_stageEnd id ?_
      (refine ⟨?_, ?_, by rfl⟩ <;> repeat' (first | exact trivial | exact ALe.ptr rfl | exact ALe.own rfl | exact ALe.elt rfl | exact BLe.boxD _ _ | exact BLe.row rfl | exact BLe.res | exact BLe.dead rfl | exact ALe.dat (PLe.refl _) | exact CLe.nil | refine And.intro ?_ ?_ | refine ALe.iface ?_ | refine ALe.clo ?_ | refine CLe.cons ?_ ?_ | refine BLe.box ?_ | refine BLe.row ?_ | exact ALe.any _ | refine ALe.dat (PLe.of_eq ?_)))
    · have g : decide ((p.length : Int) < (q.length : Int)) = false := decide_eq_false (by omega)
      rw [if_neg hgt] at hcap
      subst hcap
      repeat' (first
    | refine run_condF rfl (by first | rfl | assumption) ?_
    | refine run_skip ?_
    | fail)
      refine run_stageEnd id ?_
      (refine ⟨?_, ?_, by rfl⟩ <;> repeat' (first | exact trivial | exact ALe.ptr rfl | exact ALe.own rfl | exact ALe.elt rfl | exact BLe.boxD _ _ | exact BLe.row rfl | exact BLe.res | exact BLe.dead rfl | exact ALe.dat (PLe.refl _) | exact CLe.nil | refine And.intro ?_ ?_ | refine ALe.iface ?_ | refine ALe.clo ?_ | refine CLe.cons ?_ ?_ | refine BLe.box ?_ | refine BLe.row ?_ | exact ALe.any _ | refine ALe.dat (PLe.of_eq ?_)))
  clear hcap
  repeat' (first
    | (show Run _ _ _ _ (Itm.code (Code.region 10 _ _) :: _) _; refine run_hold ?_)
    | refine run_seq ?_
    | fail)
  refine ⟨?_⟩
  refine run_stage (mkSta [(0, .dat dvA), (2, .dat (dvM q)), (3, cClo), (5, .ptr 5 0), (11, .dat (.val (.int .i64 (cap : Int)))), (38, .dat (.val (.bool false)))]
    ((5, .box 104 [.dat (dvM p)]) :: cTb p q (.dat (.val (.int .i64 0))) (.dat (.val (.int .i64 0))))) ?_ ?_
  · by_cases h1 : p.length = 0
    · have g1 : decide ((p.length : Int) = 0) = true := decide_eq_true (by omega)
      have h2 : q.length ≠ 0 := fun h2 => hpq.elim (fun h => h (List.eq_nil_of_length_eq_zero h1)) (fun h => h (List.eq_nil_of_length_eq_zero h2))
      have g2 : decide ((q.length : Int) = 0) = false := decide_eq_false (by omega)
      repeat' (first
    | (refine k_pick rfl ?_; first | refine k_moveD rfl rfl ?_ | refine k_bin2B rfl rfl rfl rfl ?_ | refine k_pickT rfl rfl (by first | rfl | assumption) rfl ?_)
    | refine run_opsEnd ?_
    | refine run_region ?_
    | (refine k_guardY rfl rfl (by first | rfl | assumption) ?_; first | refine k_moveD rfl rfl ?_ | refine k_bin2B rfl rfl rfl rfl ?_)
    | fail)
      refine run_stageEnd id ?_
      (refine ⟨?_, ?_, by rfl⟩ <;> repeat' (first | exact trivial | exact ALe.ptr rfl | exact ALe.own rfl | exact ALe.elt rfl | exact BLe.boxD _ _ | exact BLe.row rfl | exact BLe.res | exact BLe.dead rfl | exact ALe.dat (PLe.refl _) | exact CLe.nil | refine And.intro ?_ ?_ | refine ALe.iface ?_ | refine ALe.clo ?_ | refine CLe.cons ?_ ?_ | refine BLe.box ?_ | refine BLe.row ?_ | exact ALe.any _ | refine ALe.dat (PLe.of_eq ?_)))
      all_goals (rw [g2])
    · have g1 : decide ((p.length : Int) = 0) = false := decide_eq_false (by omega)
      repeat' (first
    | (refine k_pick rfl ?_; first | refine k_moveD rfl rfl ?_ | refine k_bin2B rfl rfl rfl rfl ?_ | refine k_pickF rfl rfl (by first | rfl | assumption) rfl ?_)
    | refine run_opsEnd ?_
    | refine run_region ?_
    | refine k_guardNT rfl rfl (by first | rfl | assumption) rfl ?_
    | fail)
      refine run_stageEnd id ?_
      (refine ⟨?_, ?_, by rfl⟩ <;> repeat' (first | exact trivial | exact ALe.ptr rfl | exact ALe.own rfl | exact ALe.elt rfl | exact BLe.boxD _ _ | exact BLe.row rfl | exact BLe.res | exact BLe.dead rfl | exact ALe.dat (PLe.refl _) | exact CLe.nil | refine And.intro ?_ ?_ | refine ALe.iface ?_ | refine ALe.clo ?_ | refine CLe.cons ?_ ?_ | refine BLe.box ?_ | refine BLe.row ?_ | exact ALe.any _ | refine ALe.dat (PLe.of_eq ?_)))
  repeat' (first
    | refine run_seq ?_
    | (refine k_pick rfl ?_; first | refine k_makeSlice rfl rfl rfl rfl (by kernel_rfl) hc1 hc2 ?_ | refine k_moveD rfl rfl ?_ | refine k_loadBD rfl rfl rfl (by first | rfl | (simp only [cellsD]; rfl)) ?_ | refine k_storeB rfl rfl rfl rfl rfl ?_ | refine k_alloc rfl rfl ?_ | refine k_makeFunc rfl ?_ | refine k_cmpNil rfl rfl rfl (by kernel_rfl) (by exact NilIs.ifc) rfl ?_)
    | refine run_opsEnd ?_
    | refine run_region ?_
    | refine run_condT rfl (by first | rfl | assumption) ?_
    | refine run_condF rfl (by first | rfl | assumption) ?_
    | refine run_skip ?_
    | fail)
  refine k_pick rfl (k_invAS (thk [(1000, _), (1001, _)] 200) rfl rfl (by kernel_rfl) hI1 rfl ⟨rfl, rfl, trivial⟩ rfl (fun _ => freshB_ok rfl) (fun _ => rfl) (fun q1 => ?_))
  have hq1l : q1.1.length = p.length := by have := q1.2.length_eq; simpa using this
  have hI2 := iter2_c p q ([] ++ q1.1) hq (by simp [hq1l]; omega)
  repeat' (first
    | refine run_seq ?_
    | (refine k_pick rfl ?_; first | refine k_moveD rfl rfl ?_ | refine k_makeFunc rfl ?_ | refine k_cmpNil rfl rfl rfl (by kernel_rfl) (by exact NilIs.ifc) rfl ?_)
    | refine run_opsEnd ?_
    | refine run_region ?_
    | refine run_condT rfl (by first | rfl | assumption) ?_
    | fail)
  refine k_pick rfl (k_invAS (thk [(1000, _), (1001, _), (1002, _)] 350) rfl rfl (by kernel_rfl) hI2 rfl ⟨rfl, rfl, rfl, trivial⟩ rfl (fun _ => freshB_ok rfl) (fun _ => rfl) (fun q2 => ?_))
  obtain ⟨L0, hL0⟩ : ∃ L0, L0 = [] ++ q1.1 ++ q2.1 := ⟨_, rfl⟩
  have hmem : ∀ k, k ∈ L0 ↔ k ∈ K := by
    intro k
    rw [hL0, hKm, List.nil_append, List.mem_append, q1.2.mem_iff, q2.2.mem_iff, List.mem_filter]
    constructor
    · rintro (h | h)
      · exact .inl h
      · exact .inr h.1
    · rintro (h | h)
      · exact .inl h
      · by_cases hk : k ∈ p.map (·.1)
        · exact .inl hk
        · refine .inr ⟨h, ?_⟩
          rw [lkJ_getA, getA_none (fun e he hek => hk (by rw [← hek]; exact List.mem_map_of_mem (f := (·.1)) he))]
          rfl
  have hnd0 : L0.Nodup := by
    rw [hL0, List.nil_append, List.nodup_append]
    refine ⟨q1.2.nodup_iff.2 hp, q2.2.nodup_iff.2 (hq.filter _), fun a ha b hb e => ?_⟩
    subst e
    have h1 := q1.2.mem_iff.1 ha
    have h2 := (List.mem_filter.1 (q2.2.mem_iff.1 hb)).2
    obtain ⟨y, hy, rfl⟩ := List.mem_map.1 h1
    rw [lkJ_getA, getA_of_mem hp (show (y.1, y.2) ∈ p from hy)] at h2
    cases h2
  have hne0 : 1 ≤ L0.length := by
    have : ∃ k, k ∈ K := by
      rcases hpq with h | h
      · cases p with
        | nil => exact absurd rfl h
        | cons y r => exact ⟨y.1, (hKm _).2 (.inl (by simp))⟩
      · cases q with
        | nil => exact absurd rfl h
        | cons y r => exact ⟨y.1, (hKm _).2 (.inr (by simp))⟩
    obtain ⟨k, hk⟩ := this
    exact List.length_pos_of_mem ((hmem k).2 hk)
  have hlen0 : L0.length ≤ 140737488351232 := by
    have h2 := q2.2.length_eq
    have h3 := List.length_filter_le (fun k => !(lkJ p k).isSome) (q.map (·.1))
    simp at h2 h3
    rw [hL0]; simp [hq1l]; omega
  repeat' (first
    | refine run_seq ?_
    | (refine k_pick rfl ?_; refine k_assignD rfl rfl ?_)
    | refine run_opsEnd ?_
    | refine run_region ?_
    | refine run_block ?_
    | fail)
  refine run_loopS (ι := { x : List ByteArray × Nat // x.1.Perm L0 ∧ 1 ≤ x.2 ∧ x.2 ≤ x.1.length ∧ Incr (x.1.take x.2) })
    (fun x => [(0, .dat dvA), (2, .dat (dvM q)), (3, cClo), (5, .ptr 5 0), (12, .ptr 12 0), (13, .dat (.val (.int .i64 (x.1.2 : Nat))))])
    (fun x => [(5, .box 104 [.dat (dvM p)]), (12, .box 41 [.own 350]), (350, .row 9 1 16 (pdS x.1.1))] ++ cTb p q (.dat (.val (.int .i64 0))) (.dat (.val (.int .i64 0))))
    (fun x => L0.length - x.1.2) ⟨(L0, 1), .refl _, Nat.le_refl _, hne0, by
      cases L0 with
      | nil => simp at hne0
      | cons x r => simp [Incr]⟩ id ?_ ?_
  · (refine ⟨?_, ?_, by rfl⟩ <;> repeat' (first | exact trivial | exact ALe.ptr rfl | exact ALe.own rfl | exact ALe.elt rfl | exact BLe.boxD _ _ | exact BLe.row rfl | exact BLe.res | exact BLe.dead rfl | exact ALe.dat (PLe.refl _) | exact CLe.nil | refine And.intro ?_ ?_ | refine ALe.iface ?_ | refine ALe.clo ?_ | refine CLe.cons ?_ ?_ | refine BLe.box ?_ | refine BLe.row ?_ | exact ALe.any _ | refine ALe.dat (PLe.of_eq ?_)))
    all_goals (first | (show pdS ([] ++ q1.1 ++ q2.1) = pdS L0; rw [hL0]) | rfl)
  rintro ⟨⟨L, i⟩, hperm, hi1, hi2, hinc⟩
  have hperm : L.Perm L0 := hperm
  have hi1 : 1 ≤ i := hi1
  have hi2 : i ≤ L.length := hi2
  have hinc : Incr (L.take i) := hinc
  have hLl : L.length = L0.length := hperm.length_eq
  have hps := pdS_len L
  by_cases hlt : i < L.length
  · have g : decide ((i : Int) < (((pdS L).length : Nat) : Int)) = true := by rw [hps]; simpa using hlt
    repeat' (first
    | refine run_seq ?_
    | (refine k_pick rfl ?_; first | refine k_assignD rfl rfl ?_ | refine k_moveD rfl rfl ?_ | refine k_bin2B rfl rfl rfl rfl ?_ | refine k_loadBO rfl rfl rfl rfl ?_ | refine k_lenO rfl rfl rfl ?_)
    | refine run_opsEnd ?_
    | refine run_region ?_
    | refine run_condT rfl (by first | rfl | assumption) ?_
    | refine run_block ?_
    | refine run_skip ?_
    | fail)
    refine run_loopS (ι := { x : List ByteArray × ByteArray × List ByteArray // (x.1 ++ x.2.1 :: (x.2.2 ++ L.drop (i + 1))).Perm L0 ∧ x.1.length + x.2.2.length = i ∧ Incr (x.1 ++ x.2.2) ∧ ∀ b ∈ x.2.2, blt x.2.1 b = true })
      (fun x => [(0, .dat dvA), (2, .dat (dvM q)), (3, cClo), (5, .ptr 5 0), (12, .ptr 12 0), (13, .dat (.val (.int .i64 (i : Nat)))), (14, .dat (.val (.int .i64 (x.1.1.length : Nat))))])
      (fun x => [(5, .box 104 [.dat (dvM p)]), (12, .box 41 [.own 350]), (350, .row 9 1 16 (pdS (x.1.1 ++ x.1.2.1 :: (x.1.2.2 ++ L.drop (i + 1)))))] ++ cTb p q (.dat (.val (.int .i64 0))) (.dat (.val (.int .i64 0))))
      (fun x => x.1.1.length) ⟨(L.take i, L[i], []), by simpa [List.take_append_drop] using hperm, by simp; omega, by simpa using hinc, by simp⟩ id ?_ ?_
    · (refine ⟨?_, ?_, by rfl⟩ <;> repeat' (first | exact trivial | exact ALe.ptr rfl | exact ALe.own rfl | exact ALe.elt rfl | exact BLe.boxD _ _ | exact BLe.row rfl | exact BLe.res | exact BLe.dead rfl | exact ALe.dat (PLe.refl _) | exact CLe.nil | refine And.intro ?_ ?_ | refine ALe.iface ?_ | refine ALe.clo ?_ | refine CLe.cons ?_ ?_ | refine BLe.box ?_ | refine BLe.row ?_ | exact ALe.any _ | refine ALe.dat (PLe.of_eq ?_)))
      all_goals (first | rfl | (simp [List.length_take]; done) | (simp [List.length_take]; omega))
    rintro ⟨⟨A, x, B⟩, hperm2, hab, hinc2, hB⟩
    have hperm2 : (A ++ x :: (B ++ L.drop (i + 1))).Perm L0 := hperm2
    have hab : A.length + B.length = i := hab
    have hinc2 : Incr (A ++ B) := hinc2
    have hB : ∀ b ∈ B, blt x b = true := hB
    have hll : (A ++ x :: (B ++ L.drop (i + 1))).length = L0.length := hperm2.length_eq
    generalize L.drop (i + 1) = R at *
    rcases List.eq_nil_or_concat A with rfl | ⟨A', y, rfl⟩
    · have g1 : decide ((0 : Int) < ((([] : List ByteArray).length : Nat) : Int)) = false := rfl
      repeat' (first
    | refine run_seq ?_
    | (refine k_pick rfl ?_; first | refine k_assignD rfl rfl ?_ | refine k_moveD rfl rfl ?_ | refine k_ariI rfl rfl rfl rfl (by first | omega | (dsimp only; omega)) ?_)
    | refine run_opsEnd ?_
    | refine run_region ?_
    | refine run_condF rfl (by first | rfl | assumption) ?_
    | refine run_blkEnd ?_
    | refine run_exit rfl ?_
    | refine run_drawC (by kernel_rfl) ?_
    | refine c_nil (And.intro (by kernel_rfl) ?_)
    | refine c_pick (d_moveD rfl rfl) ?_
    | refine c_pick (d_bin2B rfl rfl rfl rfl) ?_
    | refine c_pick (d_pickF rfl rfl (by first | rfl | assumption) rfl) ?_
    | refine c_passT rfl (by first | rfl | assumption) rfl ?_
    | fail)
      refine run_again ?_
      refine ⟨⟨([] ++ x :: (B ++ R), i + 1), hperm2, by omega, by rw [hll, ← hLl]; omega, ?_⟩, id, by show L0.length - (i + 1) < L0.length - i; omega, ?_⟩
      · show Incr (([] ++ x :: (B ++ R)).take (i + 1))
        rw [take_mid hab]
        exact incr_put hinc2 hB (fun y h => by simp at h)
      (refine ⟨?_, ?_, by rfl⟩ <;> repeat' (first | exact trivial | exact ALe.ptr rfl | exact ALe.own rfl | exact ALe.elt rfl | exact BLe.boxD _ _ | exact BLe.row rfl | exact BLe.res | exact BLe.dead rfl | exact ALe.dat (PLe.refl _) | exact CLe.nil | refine And.intro ?_ ?_ | refine ALe.iface ?_ | refine ALe.clo ?_ | refine CLe.cons ?_ ?_ | refine BLe.box ?_ | refine BLe.row ?_ | exact ALe.any _ | refine ALe.dat (PLe.of_eq ?_)))
    · simp only [List.concat_eq_append] at *
      have hal : (A' ++ [y]).length = A'.length + 1 := by simp
      have g1 : decide ((0 : Int) < (((A' ++ [y]).length : Nat) : Int)) = true := decide_eq_true (by omega)
      have z0 : (((A' ++ [y]).length : Nat) : Int) = (((A' ++ [y]).length : Nat) : Int) := rfl
      have z1 : (((A' ++ [y]).length : Nat) : Int) - 1 = ((A'.length : Nat) : Int) := by rw [hal]; omega
      have hx : (pdS (A' ++ [y] ++ x :: (B ++ R)))[(A' ++ [y]).length]? = some (.val (.string x)) := pdS_at (by rw [List.getElem?_append_right (Nat.le_refl _)]; simp)
      have hy : (pdS (A' ++ [y] ++ x :: (B ++ R)))[A'.length]? = some (.val (.string y)) := pdS_at (by simp)
      have l0 : (A' ++ [y]).length < (pdS (A' ++ [y] ++ x :: (B ++ R))).length := (List.getElem?_eq_some_iff.1 hx).1
      have l1 : A'.length < (pdS (A' ++ [y] ++ x :: (B ++ R))).length := (List.getElem?_eq_some_iff.1 hy).1
      cases hb : blt x y with
      | true =>
        have l2 : A'.length < ((pdS (A' ++ [y] ++ x :: (B ++ R))).set (A' ++ [y]).length (.val (.string y))).length := by rw [List.length_set]; exact l1
        have hsw : ((pdS (A' ++ [y] ++ x :: (B ++ R))).set (A' ++ [y]).length (.val (.string y))).set A'.length (.val (.string x)) = pdS (A' ++ x :: (y :: B ++ R)) := by
          rw [hal, show A' ++ [y] ++ x :: (B ++ R) = A' ++ y :: x :: (B ++ R) by simp, swap_eq]
          simp
        repeat' (first
    | refine run_seq ?_
    | (refine k_pick rfl ?_; first | refine k_assignD rfl rfl ?_ | refine k_moveD rfl rfl ?_ | refine k_ariI rfl rfl rfl rfl (by first | omega | (dsimp only; omega)) ?_)
    | refine run_opsEnd ?_
    | refine run_region ?_
    | refine run_condT rfl (by first | rfl | assumption) ?_
    | refine run_block ?_
    | refine run_blkEnd ?_
    | refine run_skip ?_
    | refine run_drawC (by kernel_rfl) ?_
    | refine c_nil (And.intro (by kernel_rfl) ?_)
    | refine c_pick (d_indexZ rfl rfl rfl rfl (by assumption) (by assumption)) ?_
    | refine c_pick (d_loadE rfl rfl rfl (by assumption)) ?_
    | refine c_pick (d_storeE rfl rfl (by assumption) rfl) ?_
    | refine c_pick (d_moveD rfl rfl) ?_
    | refine c_pick (d_bin2B rfl rfl rfl rfl) ?_
    | refine c_pick (d_pickT rfl rfl (by first | rfl | assumption) rfl) ?_
    | refine c_pick (d_ariI rfl rfl rfl rfl (by first | omega | (dsimp only; omega))) ?_
    | refine c_pick (d_loadBO rfl rfl rfl rfl) ?_
    | refine c_pickY rfl (by first | rfl | assumption) (d_indexZ rfl rfl rfl rfl (by assumption) (by assumption)) ?_
    | refine c_pickY rfl (by first | rfl | assumption) (d_loadE rfl rfl rfl (by assumption)) ?_
    | refine c_pickY rfl (by first | rfl | assumption) (d_moveD rfl rfl) ?_
    | refine c_pickY rfl (by first | rfl | assumption) (d_bin2B rfl rfl rfl rfl) ?_
    | refine c_pickY rfl (by first | rfl | assumption) (d_ariI rfl rfl rfl rfl (by first | omega | (dsimp only; omega))) ?_
    | refine c_pickY rfl (by first | rfl | assumption) (d_loadBO rfl rfl rfl rfl) ?_
    | fail)
        refine run_again ?_
        refine ⟨⟨(A', x, y :: B), ?_, by simp at hab ⊢; omega, by simpa using hinc2, ?_⟩, id, by show A'.length < (A' ++ [y]).length; omega, ?_⟩
        · refine List.Perm.trans ?_ hperm2
          show (A' ++ x :: (y :: B ++ R)).Perm (A' ++ [y] ++ x :: (B ++ R))
          rw [show A' ++ [y] ++ x :: (B ++ R) = A' ++ (y :: x :: (B ++ R)) by simp, show A' ++ x :: (y :: B ++ R) = A' ++ (x :: y :: (B ++ R)) by simp]
          exact (List.Perm.swap y x _).append_left A'
        · intro b hb'
          rcases List.mem_cons.1 hb' with rfl | hb'
          · exact hb
          · exact hB b hb'
        (refine ⟨?_, ?_, by rfl⟩ <;> repeat' (first | exact trivial | exact ALe.ptr rfl | exact ALe.own rfl | exact ALe.elt rfl | exact BLe.boxD _ _ | exact BLe.row rfl | exact BLe.res | exact BLe.dead rfl | exact ALe.dat (PLe.refl _) | exact CLe.nil | refine And.intro ?_ ?_ | refine ALe.iface ?_ | refine ALe.clo ?_ | refine CLe.cons ?_ ?_ | refine BLe.box ?_ | refine BLe.row ?_ | exact ALe.any _ | refine ALe.dat (PLe.of_eq ?_)))
        all_goals first | exact congrArg _ (congrArg _ z1) | exact hsw | rw [z1] | rw [hsw]
      | false =>
        repeat' (first
    | refine run_seq ?_
    | (refine k_pick rfl ?_; first | refine k_assignD rfl rfl ?_ | refine k_moveD rfl rfl ?_ | refine k_ariI rfl rfl rfl rfl (by first | omega | (dsimp only; omega)) ?_)
    | refine run_opsEnd ?_
    | refine run_region ?_
    | refine run_condF rfl (by first | rfl | assumption) ?_
    | refine run_blkEnd ?_
    | refine run_exit rfl ?_
    | refine run_drawC (by kernel_rfl) ?_
    | refine c_nil (And.intro (by kernel_rfl) ?_)
    | refine c_pick (d_moveD rfl rfl) ?_
    | refine c_pick (d_bin2B rfl rfl rfl rfl) ?_
    | refine c_pick (d_pickT rfl rfl (by first | rfl | assumption) rfl) ?_
    | refine c_pickY rfl (by first | rfl | assumption) (d_indexZ rfl rfl rfl rfl (by assumption) (by assumption)) ?_
    | refine c_pickY rfl (by first | rfl | assumption) (d_loadE rfl rfl rfl (by assumption)) ?_
    | refine c_pickY rfl (by first | rfl | assumption) (d_moveD rfl rfl) ?_
    | refine c_pickY rfl (by first | rfl | assumption) (d_bin2B rfl rfl rfl rfl) ?_
    | refine c_pickY rfl (by first | rfl | assumption) (d_ariI rfl rfl rfl rfl (by first | omega | (dsimp only; omega))) ?_
    | refine c_pickY rfl (by first | rfl | assumption) (d_loadBO rfl rfl rfl rfl) ?_
    | fail)
        refine run_again ?_
        refine ⟨⟨(A' ++ [y] ++ x :: (B ++ R), i + 1), hperm2, by omega, by rw [hll, ← hLl]; omega, ?_⟩, id, by show L0.length - (i + 1) < L0.length - i; omega, ?_⟩
        · show Incr ((A' ++ [y] ++ x :: (B ++ R)).take (i + 1))
          rw [take_mid hab]
          refine incr_put hinc2 hB (fun z hz => ?_)
          simp at hz
          subst hz
          cases hbb : blt y x with
          | true => rfl
          | false =>
            have := blt_total hb hbb
            subst this
            have hnd2 : (A' ++ [x] ++ x :: (B ++ R)).Nodup := hperm2.nodup_iff.2 hnd0
            simp [List.nodup_append] at hnd2
        (refine ⟨?_, ?_, by rfl⟩ <;> repeat' (first | exact trivial | exact ALe.ptr rfl | exact ALe.own rfl | exact ALe.elt rfl | exact BLe.boxD _ _ | exact BLe.row rfl | exact BLe.res | exact BLe.dead rfl | exact ALe.dat (PLe.refl _) | exact CLe.nil | refine And.intro ?_ ?_ | refine ALe.iface ?_ | refine ALe.clo ?_ | refine CLe.cons ?_ ?_ | refine BLe.box ?_ | refine BLe.row ?_ | exact ALe.any _ | refine ALe.dat (PLe.of_eq ?_)))
  have g : decide ((i : Int) < (((pdS L).length : Nat) : Int)) = false := by rw [hps]; simpa using hlt
  have hLK : L = K := incr_ext (by rw [List.take_of_length_le (by omega)] at hinc; exact hinc) hK (fun k => (hperm.mem_iff).trans (hmem k))
  subst hLK
  obtain ⟨C, hC0⟩ : ∃ C, C = cmpKs f p q 0 L := ⟨_, rfl⟩
  rw [← hC0]
  repeat' (first
    | refine run_seq ?_
    | (refine k_pick rfl ?_; first | refine k_moveD rfl rfl ?_ | refine k_bin2B rfl rfl rfl rfl ?_ | refine k_loadBO rfl rfl rfl rfl ?_ | refine k_lenO rfl rfl rfl ?_)
    | refine run_opsEnd ?_
    | refine run_region ?_
    | refine run_condF rfl (by first | rfl | assumption) ?_
    | refine run_block ?_
    | refine run_exit rfl ?_
    | fail)
  refine run_loopS (ι := { j : Nat // j ≤ L.length ∧ C = cmpKs f p q j (L.drop j) })
    (fun j => [(0, .dat dvA), (2, .dat (dvM q)), (3, cClo), (5, .ptr 5 0), (92, .own 350), (93, .dat (.val (.int .i64 ((pdS L).length : Nat)))), (94, .dat (.val (.int .i64 (j.1 : Nat))))])
    (fun j => [(5, .box 104 [.dat (dvM p)]), (350, .row 9 1 16 (pdS L))] ++ cTb p q (.dat (.val (.int .i64 (j.1 : Nat)))) (.dat (.val (.int .i64 0))))
    (fun j => L.length - j.1) ⟨0, Nat.zero_le _, hC0⟩ id ?_ ?_
  · (refine ⟨?_, ?_, by rfl⟩ <;> repeat' (first | exact trivial | exact ALe.ptr rfl | exact ALe.own rfl | exact ALe.elt rfl | exact BLe.boxD _ _ | exact BLe.row rfl | exact BLe.res | exact BLe.dead rfl | exact ALe.dat (PLe.refl _) | exact CLe.nil | refine And.intro ?_ ?_ | refine ALe.iface ?_ | refine ALe.clo ?_ | refine CLe.cons ?_ ?_ | refine BLe.box ?_ | refine BLe.row ?_ | exact ALe.any _ | refine ALe.dat (PLe.of_eq ?_)))
  rintro ⟨j, hj, hcj⟩
  by_cases hjl : j < L.length
  · have g2 : decide ((j : Int) < (((pdS L).length : Nat) : Int)) = true := by rw [hps]; simpa using hjl
    obtain ⟨k, hk⟩ : ∃ k, L[j]? = some k := ⟨_, List.getElem?_eq_getElem hjl⟩
    have i1 : (pdS L)[j]? = some (.val (.string k)) := pdS_at hk
    have i2 : j < (pdS L).length := by rw [hps]; exact hjl
    have z0 : ((j : Nat) : Int) = ((j : Nat) : Int) := rfl
    have hC := cloC_c f p q j k (by omega) (hE k)
    have hg1 := get_p p k
    have hg2 := get_p q k
    have hd : L.drop j = k :: L.drop (j + 1) := by
      rw [List.drop_eq_getElem_cons hjl]
      rw [List.getElem?_eq_getElem hjl] at hk
      rw [Option.some.inj hk]
    rw [hd] at hcj
    simp only [cmpKs] at hcj
    generalize stepC f p q j k = c at *
    have hn1 := valD_nil (lkJ p k)
    have hn2 := valD_nil (lkJ q k)
    generalize lkJ p k = o1 at *
    generalize lkJ q k = o2 at *
    by_cases hc : c = 0
    · have g3 : (!decide (c = 0)) = false := by simp [hc]
      rw [if_pos hc] at hcj
      repeat' (first
    | refine run_seq ?_
    | (refine k_pick rfl ?_; first | refine k_indexZ rfl rfl rfl rfl (by assumption) (by assumption) ?_ | refine k_loadE rfl rfl rfl (by assumption) ?_ | refine k_assignD rfl rfl ?_ | refine k_moveD rfl rfl ?_ | refine k_loadBD rfl rfl rfl (by first | rfl | (simp only [cellsD]; rfl)) ?_ | refine k_bin2B rfl rfl rfl rfl ?_ | refine k_extract rfl rfl rfl ?_ | refine k_cmpNil rfl rfl rfl (by kernel_rfl) (by first | exact NilIs.ptr | exact NilIs.none | exact NilIs.nilI | assumption) rfl ?_ | refine k_not rfl rfl ?_ | refine k_ariI rfl rfl rfl rfl (by first | omega | (dsimp only; omega)) ?_ | refine k_cloA1 (thk [(1000, _), (1001, _), (1002, _), (1003, _), (1004, _)] 200) rfl rfl (by kernel_rfl) (hC) rfl ⟨rfl, ⟨rfl, ⟨rfl, ⟨rfl, ⟨rfl, trivial⟩⟩⟩⟩⟩ rfl (freshB_ok rfl) rfl ?_ | refine k_invS rfl rfl (by kernel_rfl) rfl (by first | exact hg1 | exact hg2 | exact free_p _) ?_ | refine k_moveC rfl rfl ?_ | refine k_cmpNil rfl rfl rfl (by kernel_rfl) (by exact NilIs.ifc) rfl ?_)
    | refine run_opsEnd ?_
    | refine run_region ?_
    | refine run_condT rfl (by first | rfl | assumption) ?_
    | refine run_condF rfl (by first | rfl | assumption) ?_
    | refine run_cond rfl (fun h => ?_) (fun h => ?_)
    | refine run_block ?_
    | refine run_blkEnd ?_
    | refine run_skip ?_
    | fail)
      all_goals
        refine run_again ?_
        refine ⟨⟨j + 1, by omega, hcj⟩, id, by simp only; omega, ?_⟩
        (refine ⟨?_, ?_, by rfl⟩ <;> repeat' (first | exact trivial | exact ALe.ptr rfl | exact ALe.own rfl | exact ALe.elt rfl | exact BLe.boxD _ _ | exact BLe.row rfl | exact BLe.res | exact BLe.dead rfl | exact ALe.dat (PLe.refl _) | exact CLe.nil | refine And.intro ?_ ?_ | refine ALe.iface ?_ | refine ALe.clo ?_ | refine CLe.cons ?_ ?_ | refine BLe.box ?_ | refine BLe.row ?_ | exact ALe.any _ | refine ALe.dat (PLe.of_eq ?_)))
        all_goals (first | rfl | (rw [hc]) | simp)
    · have g3 : (!decide (c = 0)) = true := by simp [hc]
      rw [if_neg hc] at hcj
      subst hcj
      repeat' (first
    | refine run_seq ?_
    | (refine k_pick rfl ?_; first | refine k_indexZ rfl rfl rfl rfl (by assumption) (by assumption) ?_ | refine k_loadE rfl rfl rfl (by assumption) ?_ | refine k_assignD rfl rfl ?_ | refine k_moveD rfl rfl ?_ | refine k_loadBD rfl rfl rfl (by first | rfl | (simp only [cellsD]; rfl)) ?_ | refine k_bin2B rfl rfl rfl rfl ?_ | refine k_extract rfl rfl rfl ?_ | refine k_cmpNil rfl rfl rfl (by kernel_rfl) (by first | exact NilIs.ptr | exact NilIs.none | exact NilIs.nilI | assumption) rfl ?_ | refine k_not rfl rfl ?_ | refine k_cloA1 (thk [(1000, _), (1001, _), (1002, _), (1003, _), (1004, _)] 200) rfl rfl (by kernel_rfl) (hC) rfl ⟨rfl, ⟨rfl, ⟨rfl, ⟨rfl, ⟨rfl, trivial⟩⟩⟩⟩⟩ rfl (freshB_ok rfl) rfl ?_ | refine k_invS rfl rfl (by kernel_rfl) rfl (by first | exact hg1 | exact hg2 | exact free_p _) ?_ | refine k_moveC rfl rfl ?_ | refine k_cmpNil rfl rfl rfl (by kernel_rfl) (by exact NilIs.ifc) rfl ?_)
    | refine run_opsEnd ?_
    | refine run_region ?_
    | refine run_condT rfl (by first | rfl | assumption) ?_
    | refine run_cond rfl (fun h => ?_) (fun h => ?_)
    | refine run_block ?_
    | refine run_skip ?_
    | fail)
      all_goals
        refine run_retA () id (tm := [(8, .dat (.val (.bool (decide (C = 0)))))]) ?_ (resA_tmp rfl rfl)
        (refine ⟨?_, ?_, by rfl⟩ <;> repeat' (first | exact trivial | exact ALe.ptr rfl | exact ALe.own rfl | exact ALe.elt rfl | exact BLe.boxD _ _ | exact BLe.row rfl | exact BLe.res | exact BLe.dead rfl | exact ALe.dat (PLe.refl _) | exact CLe.nil | refine And.intro ?_ ?_ | refine ALe.iface ?_ | refine ALe.clo ?_ | refine CLe.cons ?_ ?_ | refine BLe.box ?_ | refine BLe.row ?_ | exact ALe.any _ | refine ALe.dat (PLe.of_eq ?_)))
        all_goals (rw [show decide (C = 0) = false from decide_eq_false hc])
  · have g2 : decide ((j : Int) < (((pdS L).length : Nat) : Int)) = false := by rw [hps]; simpa using hjl
    have e : C = 0 := by rw [hcj, List.drop_eq_nil_of_le (by omega)]; rfl
    subst e
    repeat' (first
    | refine run_seq ?_
    | (refine k_pick rfl ?_; first | refine k_assignD rfl rfl ?_ | refine k_bin2B rfl rfl rfl rfl ?_)
    | refine run_opsEnd ?_
    | refine run_region ?_
    | refine run_condF rfl (by first | rfl | assumption) ?_
    | refine run_exit rfl ?_
    | fail)
    refine run_retA () id (tm := [(8, .dat (.val (.bool true)))]) ?_ (resA_tmp rfl rfl)
    (refine ⟨?_, ?_, by rfl⟩ <;> repeat' (first | exact trivial | exact ALe.ptr rfl | exact ALe.own rfl | exact ALe.elt rfl | exact BLe.boxD _ _ | exact BLe.row rfl | exact BLe.res | exact BLe.dead rfl | exact ALe.dat (PLe.refl _) | exact CLe.nil | refine And.intro ?_ ?_ | refine ALe.iface ?_ | refine ALe.clo ?_ | refine CLe.cons ?_ ?_ | refine BLe.box ?_ | refine BLe.row ?_ | exact ALe.any _ | refine ALe.dat (PLe.of_eq ?_)))
end Go.Proofs.Ytbbacpdbbmjblaa
end
section
set_option linter.unusedVariables false
namespace Go.Proofs.Ytbbacpdbbmjblaa
open Go.RowKit
set_option linter.unusedSimpArgs false
theorem dvL_len {w : World} {F : Nat → Prop} {l1 l2 : List JV} {vs : List Value} (hvs : Reps w F [dvA, dvL l1, dvL l2] vs) : l1.length * 16 ≤ 140737488351232 ∧ l2.length * 16 ≤ 140737488351232 := by
  unfold Reps at hvs; obtain ⟨_, _, _, _, hvs⟩ := hvs
  unfold Reps at hvs; obtain ⟨_, _, _, hv1, hvs⟩ := hvs
  unfold Reps at hvs; obtain ⟨_, _, _, hv2, _⟩ := hvs
  unfold dvL Rep at hv1 hv2
  obtain ⟨_, _, hv1⟩ := hv1
  obtain ⟨_, _, hv2⟩ := hv2
  exact ⟨dvLs_len hv1, dvLs_len hv2⟩
set_option maxHeartbeats 8000000 in
theorem lstCmp_p (f : JV → JV → Int) (l1 l2 : List JV) (hE : ∀ x ∈ l1, ∀ y ∈ l2, PCall Try.prog 90 [dvA, dvV x, dvV y] (.val (.int .i64 (f x y)))) : PCall Try.prog 93 [dvA, dvL l1, dvL l2] (.val (.int .i64 (cmpLs f l1 l2))) := by
  refine PCall.ex fun w F vs hvs => ?_
  obtain ⟨hlen1, hlen2⟩ := dvL_len hvs
  clear hvs vs F w
  refine pcall_of_run Try.func93 rfl Try.ntmps93 rfl (fun X => ?_)
  by_cases hn : l1 = []
  · subst hn
    by_cases hn2 : l2 = []
    · subst hn2
      repeat' (first
    | refine run_seq ?_
    | (refine k_pick rfl ?_; first | refine k_assignD rfl rfl ?_ | refine k_moveD rfl rfl ?_ | refine k_invS rfl rfl (by kernel_rfl) rfl (by first | exact rangeNil_p) ?_ | refine k_nilI rfl rfl ?_ | refine k_deferA rfl free_idle ?_)
    | refine run_opsEnd ?_
    | refine run_region ?_
    | refine run_block ?_
    | fail)
      refine run_loopS (ι := Unit) (fun _ => [(7, .dat dvE), (8, .dat dvE)]) (fun _ => []) (fun _ => 0) () id ?_ (fun _ => ?_)
      · (refine ⟨?_, ?_, by rfl⟩ <;> repeat' (first | exact trivial | exact ALe.ptr rfl | exact ALe.own rfl | exact ALe.elt rfl | exact BLe.boxD _ _ | exact BLe.row rfl | exact BLe.res | exact BLe.dead rfl | exact ALe.dat (PLe.refl _) | exact CLe.nil | refine And.intro ?_ ?_ | refine ALe.iface ?_ | refine ALe.clo ?_ | refine CLe.cons ?_ ?_ | refine BLe.box ?_ | refine BLe.row ?_ | exact ALe.any _ | refine ALe.dat (PLe.of_eq ?_)))
      repeat' (first
    | refine run_seq ?_
    | (refine k_pick rfl ?_; first | refine k_assignD rfl rfl ?_ | refine k_moveD rfl rfl ?_ | refine k_pickT rfl rfl (by first | rfl | assumption) rfl ?_ | refine k_not rfl rfl ?_ | refine k_invS rfl rfl (by kernel_rfl) rfl (by first | exact emptyNext_p) ?_)
    | refine run_opsEnd ?_
    | refine run_region ?_
    | refine run_condT rfl (by first | rfl | assumption) ?_
    | (refine k_guardY rfl rfl (by first | rfl | assumption) ?_; first | refine k_moveD rfl rfl ?_ | refine k_not rfl rfl ?_)
    | refine run_block ?_
    | refine run_retOk (resOk_tmp rfl rfl ?_)
    | fail)
      all_goals exact PLe.refl _
    · have e : cmpLs f [] l2 = -1 := by
        cases l2 with
        | nil => exact absurd rfl hn2
        | cons y q => rfl
      have hq2 : decide (((0 : Nat) : Int) < (l2.length : Int)) = true := by
        cases l2 with
        | nil => exact absurd rfl hn2
        | cons y q => first | (simp; done) | (simp; omega)
      have hq2n : (!decide (((0 : Nat) : Int) < (l2.length : Int))) = false := by rw [hq2]; rfl
      rw [e]
      repeat' (first
    | refine run_seq ?_
    | (refine k_pick rfl ?_; first | refine k_assignD rfl rfl ?_ | refine k_moveD rfl rfl ?_ | refine k_invAS1 (thk [] 200) rfl rfl (by kernel_rfl) (rangeCons_c _ hn2) rfl trivial rfl (freshB_ok rfl) rfl ?_ | refine k_invS rfl rfl (by kernel_rfl) rfl (by first | exact rangeNil_p) ?_ | refine k_nilI rfl rfl ?_ | refine k_assignI rfl rfl ?_ | refine k_moveI rfl rfl ?_ | refine k_deferA rfl free_idle ?_)
    | refine run_opsEnd ?_
    | refine run_region ?_
    | refine run_block ?_
    | fail)
      refine run_loopS (ι := Unit) (fun _ => [(7, .dat dvE), (8, .iface 253 (.ptr 350 0))])
        (fun _ => [(350, .box 255 [.dat (dvLs l2), .ptr 351 0, .dat (.val (.int .i64 (((0 : Nat) : Int) - 1)))]), (351, .box 173 [.any])]) (fun _ => 0) () (thk [(350, 200), (351, 201)] 0) ?_ (fun _ => ?_)
      · (refine ⟨?_, ?_, by rfl⟩ <;> repeat' (first | exact trivial | exact ALe.ptr rfl | exact ALe.own rfl | exact ALe.elt rfl | exact BLe.boxD _ _ | exact BLe.row rfl | exact BLe.res | exact BLe.dead rfl | exact ALe.dat (PLe.refl _) | exact CLe.nil | refine And.intro ?_ ?_ | refine ALe.iface ?_ | refine ALe.clo ?_ | refine CLe.cons ?_ ?_ | refine BLe.box ?_ | refine BLe.row ?_ | exact ALe.any _ | refine ALe.dat (PLe.of_eq ?_)))
      repeat' (first
    | refine run_seq ?_
    | (refine k_pick rfl ?_; first | refine k_assignD rfl rfl ?_ | refine k_moveD rfl rfl ?_ | refine k_pickT rfl rfl (by first | rfl | assumption) rfl ?_ | refine k_not rfl rfl ?_ | refine k_invAS1 (thk [(1000, _), (1001, _)] 200) rfl rfl (by kernel_rfl) (next_c l2 0 (by omega)) rfl ⟨rfl, ⟨rfl, trivial⟩⟩ rfl (freshB_ok rfl) rfl ?_ | refine k_invS rfl rfl (by kernel_rfl) rfl (by first | exact emptyNext_p) ?_ | refine k_moveI rfl rfl ?_)
    | refine run_opsEnd ?_
    | refine run_region ?_
    | refine run_condT rfl (by first | rfl | assumption) ?_
    | refine run_condF rfl (by first | rfl | assumption) ?_
    | (refine k_guardY rfl rfl (by first | rfl | assumption) ?_; first | refine k_moveD rfl rfl ?_ | refine k_not rfl rfl ?_)
    | refine run_block ?_
    | refine run_skip ?_
    | refine run_retOk (resOk_tmp rfl rfl ?_)
    | fail)
      all_goals exact PLe.refl _
  · by_cases hn2 : l2 = []
    · subst hn2
      have e : cmpLs f l1 [] = 1 := by
        cases l1 with
        | nil => exact absurd rfl hn
        | cons y q => rfl
      have hq1 : decide (((0 : Nat) : Int) < (l1.length : Int)) = true := by
        cases l1 with
        | nil => exact absurd rfl hn
        | cons y q => first | (simp; done) | (simp; omega)
      have hq1n : (!decide (((0 : Nat) : Int) < (l1.length : Int))) = false := by rw [hq1]; rfl
      rw [e]
      repeat' (first
    | refine run_seq ?_
    | (refine k_pick rfl ?_; first | refine k_assignD rfl rfl ?_ | refine k_moveD rfl rfl ?_ | refine k_invAS1 (thk [] 200) rfl rfl (by kernel_rfl) (rangeCons_c _ hn) rfl trivial rfl (freshB_ok rfl) rfl ?_ | refine k_invS rfl rfl (by kernel_rfl) rfl (by first | exact rangeNil_p) ?_ | refine k_nilI rfl rfl ?_ | refine k_assignI rfl rfl ?_ | refine k_moveI rfl rfl ?_ | refine k_deferA rfl free_idle ?_)
    | refine run_opsEnd ?_
    | refine run_region ?_
    | refine run_block ?_
    | fail)
      refine run_loopS (ι := Unit) (fun _ => [(7, .iface 253 (.ptr 200 0)), (8, .dat dvE)])
        (fun _ => [(200, .box 255 [.dat (dvLs l1), .ptr 201 0, .dat (.val (.int .i64 (((0 : Nat) : Int) - 1)))]), (201, .box 173 [.any])]) (fun _ => 0) () id ?_ (fun _ => ?_)
      · (refine ⟨?_, ?_, by rfl⟩ <;> repeat' (first | exact trivial | exact ALe.ptr rfl | exact ALe.own rfl | exact ALe.elt rfl | exact BLe.boxD _ _ | exact BLe.row rfl | exact BLe.res | exact BLe.dead rfl | exact ALe.dat (PLe.refl _) | exact CLe.nil | refine And.intro ?_ ?_ | refine ALe.iface ?_ | refine ALe.clo ?_ | refine CLe.cons ?_ ?_ | refine BLe.box ?_ | refine BLe.row ?_ | exact ALe.any _ | refine ALe.dat (PLe.of_eq ?_)))
      repeat' (first
    | refine run_seq ?_
    | (refine k_pick rfl ?_; first | refine k_assignD rfl rfl ?_ | refine k_moveD rfl rfl ?_ | refine k_pickF rfl rfl (by first | rfl | assumption) rfl ?_ | refine k_not rfl rfl ?_ | refine k_invAS1 (thk [(1000, _), (1001, _)] 200) rfl rfl (by kernel_rfl) (next_c l1 0 (by omega)) rfl ⟨rfl, ⟨rfl, trivial⟩⟩ rfl (freshB_ok rfl) rfl ?_ | refine k_invS rfl rfl (by kernel_rfl) rfl (by first | exact emptyNext_p) ?_ | refine k_moveI rfl rfl ?_)
    | refine run_opsEnd ?_
    | refine run_region ?_
    | refine run_condT rfl (by first | rfl | assumption) ?_
    | refine run_condF rfl (by first | rfl | assumption) ?_
    | refine k_guardNT rfl rfl (by first | rfl | assumption) rfl ?_
    | refine run_block ?_
    | refine run_skip ?_
    | refine run_retOk (resOk_tmp rfl rfl ?_)
    | fail)
      all_goals exact PLe.refl _
    · repeat' (first
    | refine run_seq ?_
    | (refine k_pick rfl ?_; first | refine k_assignD rfl rfl ?_ | refine k_moveD rfl rfl ?_ | refine k_invAS1 (thk [] 200) rfl rfl (by kernel_rfl) (rangeCons_c _ hn) rfl trivial rfl (freshB_ok rfl) rfl ?_ | refine k_invAS1 (thk [] 350) rfl rfl (by kernel_rfl) (rangeCons_c _ hn2) rfl trivial rfl (freshB_ok rfl) rfl ?_ | refine k_nilI rfl rfl ?_ | refine k_assignI rfl rfl ?_ | refine k_moveI rfl rfl ?_ | refine k_deferA rfl free_idle ?_)
    | refine run_opsEnd ?_
    | refine run_region ?_
    | refine run_block ?_
    | fail)
      refine run_loopS (ι := { k : Nat // (k ≤ l1.length ∧ k ≤ l2.length) ∧ ∀ i x y, i < k → l1[i]? = some x → l2[i]? = some y → f x y = 0 })
        (fun k => [(0, .dat dvA), (7, .iface 253 (.ptr 200 0)), (8, .iface 253 (.ptr 350 0))])
        (fun k => [(200, .box 255 [.dat (dvLs l1), .ptr 201 0, .dat (.val (.int .i64 ((k.1 : Nat) - 1 : Int)))]), (201, .box 173 [.any]),
          (350, .box 255 [.dat (dvLs l2), .ptr 351 0, .dat (.val (.int .i64 ((k.1 : Nat) - 1 : Int)))]), (351, .box 173 [.any])])
        (fun k => l1.length - k.1) ⟨0, ⟨Nat.zero_le _, Nat.zero_le _⟩, fun i _ _ h => absurd h (Nat.not_lt_zero i)⟩ id ?_ ?_
      · (refine ⟨?_, ?_, by rfl⟩ <;> repeat' (first | exact trivial | exact ALe.ptr rfl | exact ALe.own rfl | exact ALe.elt rfl | exact BLe.boxD _ _ | exact BLe.row rfl | exact BLe.res | exact BLe.dead rfl | exact ALe.dat (PLe.refl _) | exact CLe.nil | refine And.intro ?_ ?_ | refine ALe.iface ?_ | refine ALe.clo ?_ | refine CLe.cons ?_ ?_ | refine BLe.box ?_ | refine BLe.row ?_ | exact ALe.any _ | refine ALe.dat (PLe.of_eq ?_)))
      rintro ⟨k, ⟨hk, hk2⟩, hall⟩
      have hend : k = l1.length ∨ k = l2.length → cmpLs f l1 l2 = if l1.length < l2.length then -1 else if l2.length < l1.length then 1 else 0 := fun h => cmpLs_end (fun j u v hu hv => hall j u v (by
        have := (List.getElem?_eq_some_iff.1 hu).1
        have := (List.getElem?_eq_some_iff.1 hv).1
        omega) hu hv)
      by_cases hlt : k < l1.length
      · have hq1 : decide ((k : Int) < (l1.length : Int)) = true := by simpa using hlt
        have hq1n : (!decide ((k : Int) < (l1.length : Int))) = false := by rw [hq1]; rfl
        by_cases hlt2 : k < l2.length
        · have hq2 : decide ((k : Int) < (l2.length : Int)) = true := by simpa using hlt2
          have hq2n : (!decide ((k : Int) < (l2.length : Int))) = false := by rw [hq2]; rfl
          obtain ⟨x, hx⟩ : ∃ x, l1[k]? = some x := ⟨_, List.getElem?_eq_getElem hlt⟩
          obtain ⟨y, hy⟩ : ∃ y, l2[k]? = some y := ⟨_, List.getElem?_eq_getElem hlt2⟩
          have hC := hE x (List.mem_of_getElem? hx) y (List.mem_of_getElem? hy)
          by_cases hr : f x y = 0
          · have hq3 : decide (f x y ≠ 0) = false := by simpa using hr
            repeat' (first
    | refine run_seq ?_
    | (refine k_pick rfl ?_; first | refine k_assignD rfl rfl ?_ | refine k_moveD rfl rfl ?_ | refine k_bin2B rfl rfl rfl rfl ?_ | refine k_pickF rfl rfl (by first | rfl | assumption) rfl ?_ | refine k_not rfl rfl ?_ | refine k_invAS1 (thk [(1000, _), (1001, _)] 200) rfl rfl (by kernel_rfl) (next_c l1 k (by omega)) rfl ⟨rfl, ⟨rfl, trivial⟩⟩ rfl (freshB_ok rfl) rfl ?_ | refine k_invAS1 (thk [(1000, _), (1001, _)] 200) rfl rfl (by kernel_rfl) (next_c l2 k (by omega)) rfl ⟨rfl, ⟨rfl, trivial⟩⟩ rfl (freshB_ok rfl) rfl ?_ | refine k_invAS1 (thk [(1000, _), (1001, _)] 200) rfl rfl (by kernel_rfl) (item_c l1 k x hx) rfl ⟨rfl, ⟨rfl, trivial⟩⟩ rfl (freshB_ok rfl) rfl ?_ | refine k_invAS1 (thk [(1000, _), (1001, _)] 200) rfl rfl (by kernel_rfl) (item_c l2 k y hy) rfl ⟨rfl, ⟨rfl, trivial⟩⟩ rfl (freshB_ok rfl) rfl ?_ | refine k_assignI rfl rfl ?_ | refine k_moveI rfl rfl ?_ | refine k_moveT rfl rfl ?_ | refine k_extractI rfl rfl rfl ?_ | refine k_extractD rfl rfl rfl ?_ | refine k_callZ gV rfl (by kernel_rfl) rfl (by first | exact hC) Flat.val ?_)
    | refine run_opsEnd ?_
    | refine run_region ?_
    | refine run_condF rfl (by first | rfl | assumption) ?_
    | refine k_guardNT rfl rfl (by first | rfl | assumption) rfl ?_
    | refine run_block ?_
    | refine run_blkEnd ?_
    | refine run_skip ?_
    | fail)
            refine run_again ?_
            refine ⟨⟨k + 1, ⟨by omega, by omega⟩, ?_⟩, id, by simp only; omega, ?_⟩
            · intro i x' y' hi hx' hy'
              by_cases e : i = k
              · subst e
                rw [hx] at hx'; rw [hy] at hy'
                cases hx'; cases hy'
                exact hr
              · exact hall i x' y' (by omega) hx' hy'
            (refine ⟨?_, ?_, by rfl⟩ <;> repeat' (first | exact trivial | exact ALe.ptr rfl | exact ALe.own rfl | exact ALe.elt rfl | exact BLe.boxD _ _ | exact BLe.row rfl | exact BLe.res | exact BLe.dead rfl | exact ALe.dat (PLe.refl _) | exact CLe.nil | refine And.intro ?_ ?_ | refine ALe.iface ?_ | refine ALe.clo ?_ | refine CLe.cons ?_ ?_ | refine BLe.box ?_ | refine BLe.row ?_ | exact ALe.any _ | refine ALe.dat (PLe.of_eq ?_)))
            all_goals (rw [show (((k + 1 : Nat) : Int) - 1) = k by omega])
          · have hq3 : decide (f x y ≠ 0) = true := by simpa using hr
            rw [cmpLs_ne (fun j u v hj hu hv => hall j u v hj hu hv) hx hy hr]
            repeat' (first
    | refine run_seq ?_
    | (refine k_pick rfl ?_; first | refine k_assignD rfl rfl ?_ | refine k_moveD rfl rfl ?_ | refine k_bin2B rfl rfl rfl rfl ?_ | refine k_pickF rfl rfl (by first | rfl | assumption) rfl ?_ | refine k_not rfl rfl ?_ | refine k_invAS1 (thk [(1000, _), (1001, _)] 200) rfl rfl (by kernel_rfl) (next_c l1 k (by omega)) rfl ⟨rfl, ⟨rfl, trivial⟩⟩ rfl (freshB_ok rfl) rfl ?_ | refine k_invAS1 (thk [(1000, _), (1001, _)] 200) rfl rfl (by kernel_rfl) (next_c l2 k (by omega)) rfl ⟨rfl, ⟨rfl, trivial⟩⟩ rfl (freshB_ok rfl) rfl ?_ | refine k_invAS1 (thk [(1000, _), (1001, _)] 200) rfl rfl (by kernel_rfl) (item_c l1 k x hx) rfl ⟨rfl, ⟨rfl, trivial⟩⟩ rfl (freshB_ok rfl) rfl ?_ | refine k_invAS1 (thk [(1000, _), (1001, _)] 200) rfl rfl (by kernel_rfl) (item_c l2 k y hy) rfl ⟨rfl, ⟨rfl, trivial⟩⟩ rfl (freshB_ok rfl) rfl ?_ | refine k_assignI rfl rfl ?_ | refine k_moveI rfl rfl ?_ | refine k_moveT rfl rfl ?_ | refine k_extractI rfl rfl rfl ?_ | refine k_extractD rfl rfl rfl ?_ | refine k_callZ gV rfl (by kernel_rfl) rfl (by first | exact hC) Flat.val ?_)
    | refine run_opsEnd ?_
    | refine run_region ?_
    | refine run_condT rfl (by first | rfl | assumption) ?_
    | refine run_condF rfl (by first | rfl | assumption) ?_
    | refine k_guardNT rfl rfl (by first | rfl | assumption) rfl ?_
    | refine run_block ?_
    | refine run_skip ?_
    | refine run_retOk (resOk_tmp rfl rfl ?_)
    | fail)
            all_goals exact PLe.refl _
        · have hq2 : decide ((k : Int) < (l2.length : Int)) = false := by simpa using hlt2
          have hq2n : (!decide ((k : Int) < (l2.length : Int))) = true := by rw [hq2]; rfl
          rw [hend (.inr (by omega)), if_neg (by omega), if_pos (by omega)]
          repeat' (first
    | refine run_seq ?_
    | (refine k_pick rfl ?_; first | refine k_assignD rfl rfl ?_ | refine k_moveD rfl rfl ?_ | refine k_pickF rfl rfl (by first | rfl | assumption) rfl ?_ | refine k_not rfl rfl ?_ | refine k_invAS1 (thk [(1000, _), (1001, _)] 200) rfl rfl (by kernel_rfl) (next_c l1 k (by omega)) rfl ⟨rfl, ⟨rfl, trivial⟩⟩ rfl (freshB_ok rfl) rfl ?_ | refine k_invAS1 (thk [(1000, _), (1001, _)] 200) rfl rfl (by kernel_rfl) (next_c l2 k (by omega)) rfl ⟨rfl, ⟨rfl, trivial⟩⟩ rfl (freshB_ok rfl) rfl ?_ | refine k_moveI rfl rfl ?_)
    | refine run_opsEnd ?_
    | refine run_region ?_
    | refine run_condT rfl (by first | rfl | assumption) ?_
    | refine run_condF rfl (by first | rfl | assumption) ?_
    | refine k_guardNT rfl rfl (by first | rfl | assumption) rfl ?_
    | refine run_block ?_
    | refine run_skip ?_
    | refine run_retOk (resOk_tmp rfl rfl ?_)
    | fail)
          all_goals exact PLe.refl _
      · have hq1 : decide ((k : Int) < (l1.length : Int)) = false := by simpa using hlt
        have hq1n : (!decide ((k : Int) < (l1.length : Int))) = true := by rw [hq1]; rfl
        by_cases hlt2 : k < l2.length
        · have hq2 : decide ((k : Int) < (l2.length : Int)) = true := by simpa using hlt2
          have hq2n : (!decide ((k : Int) < (l2.length : Int))) = false := by rw [hq2]; rfl
          rw [hend (.inl (by omega)), if_pos (by omega)]
          repeat' (first
    | refine run_seq ?_
    | (refine k_pick rfl ?_; first | refine k_assignD rfl rfl ?_ | refine k_moveD rfl rfl ?_ | refine k_pickT rfl rfl (by first | rfl | assumption) rfl ?_ | refine k_not rfl rfl ?_ | refine k_invAS1 (thk [(1000, _), (1001, _)] 200) rfl rfl (by kernel_rfl) (next_c l1 k (by omega)) rfl ⟨rfl, ⟨rfl, trivial⟩⟩ rfl (freshB_ok rfl) rfl ?_ | refine k_invAS1 (thk [(1000, _), (1001, _)] 200) rfl rfl (by kernel_rfl) (next_c l2 k (by omega)) rfl ⟨rfl, ⟨rfl, trivial⟩⟩ rfl (freshB_ok rfl) rfl ?_ | refine k_moveI rfl rfl ?_)
    | refine run_opsEnd ?_
    | refine run_region ?_
    | refine run_condT rfl (by first | rfl | assumption) ?_
    | refine run_condF rfl (by first | rfl | assumption) ?_
    | (refine k_guardY rfl rfl (by first | rfl | assumption) ?_; first | refine k_moveD rfl rfl ?_ | refine k_not rfl rfl ?_)
    | refine run_block ?_
    | refine run_skip ?_
    | refine run_retOk (resOk_tmp rfl rfl ?_)
    | fail)
          all_goals exact PLe.refl _
        · have hq2 : decide ((k : Int) < (l2.length : Int)) = false := by simpa using hlt2
          have hq2n : (!decide ((k : Int) < (l2.length : Int))) = true := by rw [hq2]; rfl
          rw [hend (.inl (by omega)), if_neg (by omega), if_neg (by omega)]
          repeat' (first
    | refine run_seq ?_
    | (refine k_pick rfl ?_; first | refine k_assignD rfl rfl ?_ | refine k_moveD rfl rfl ?_ | refine k_pickT rfl rfl (by first | rfl | assumption) rfl ?_ | refine k_not rfl rfl ?_ | refine k_invAS1 (thk [(1000, _), (1001, _)] 200) rfl rfl (by kernel_rfl) (next_c l1 k (by omega)) rfl ⟨rfl, ⟨rfl, trivial⟩⟩ rfl (freshB_ok rfl) rfl ?_ | refine k_invAS1 (thk [(1000, _), (1001, _)] 200) rfl rfl (by kernel_rfl) (next_c l2 k (by omega)) rfl ⟨rfl, ⟨rfl, trivial⟩⟩ rfl (freshB_ok rfl) rfl ?_ | refine k_moveI rfl rfl ?_)
    | refine run_opsEnd ?_
    | refine run_region ?_
    | refine run_condT rfl (by first | rfl | assumption) ?_
    | (refine k_guardY rfl rfl (by first | rfl | assumption) ?_; first | refine k_moveD rfl rfl ?_ | refine k_not rfl rfl ?_)
    | refine run_block ?_
    | refine run_retOk (resOk_tmp rfl rfl ?_)
    | fail)
          all_goals exact PLe.refl _
end Go.Proofs.Ytbbacpdbbmjblaa
end
section
set_option linter.unusedVariables false
namespace Go.Proofs.Ytbbacpdbbmjblaa
open Go.RowKit
set_option linter.unusedSimpArgs false
/-- A key put into a list of keys in increasing order. -/
def insK (k : ByteArray) : List ByteArray → List ByteArray
  | [] => [k]
  | x :: r => if blt k x = true then k :: x :: r else if blt x k = true then x :: insK k r else x :: r
theorem mem_insK {k z : ByteArray} : ∀ {l : List ByteArray}, z ∈ insK k l ↔ z = k ∨ z ∈ l
  | [] => by simp [insK]
  | x :: r => by
    unfold insK
    split
    · simp
    · rename_i h1
      split
      · simp only [List.mem_cons, mem_insK (l := r)]
        constructor
        · rintro (h | h | h) <;> simp [h]
        · rintro (h | h | h) <;> simp [h]
      · rename_i h2
        have : k = x := blt_total (by simpa using h1) (by simpa using h2)
        subst this
        simp
theorem incr_insK {k : ByteArray} : ∀ {l : List ByteArray}, Incr l → Incr (insK k l)
  | [], _ => by simp [insK, Incr]
  | x :: r, h => by
    unfold Incr at h
    rw [List.pairwise_cons] at h
    unfold insK
    split
    · rename_i h1
      exact List.pairwise_cons.2 ⟨fun b hb => by
        rcases List.mem_cons.1 hb with rfl | hb
        · exact h1
        · exact blt_trans h1 (h.1 b hb), List.pairwise_cons.2 h⟩
    · split
      · rename_i h2
        refine List.pairwise_cons.2 ⟨fun b hb => ?_, incr_insK h.2⟩
        rcases mem_insK.1 hb with rfl | hb
        · exact h2
        · exact h.1 b hb
      · exact List.pairwise_cons.2 h
/-- The keys of two maps, in increasing order, each once. -/
def unionK (p q : List (ByteArray × JV)) : List ByteArray := (p.map (·.1) ++ q.map (·.1)).foldr insK []
theorem unionK_incr (p q : List (ByteArray × JV)) : Incr (unionK p q) := by
  unfold unionK
  induction p.map (·.1) ++ q.map (·.1) with
  | nil => simp [Incr]
  | cons x r ih => exact incr_insK ih
theorem unionK_mem (p q : List (ByteArray × JV)) (k : ByteArray) : k ∈ unionK p q ↔ k ∈ p.map (·.1) ∨ k ∈ q.map (·.1) := by
  unfold unionK
  rw [← List.mem_append]
  induction p.map (·.1) ++ q.map (·.1) with
  | nil => simp
  | cons x r ih => rw [List.foldr_cons, mem_insK, ih, List.mem_cons]
/-- Maps compare by their first fields. -/
def cmpMs (f : JV → JV → Int) (p q : List (ByteArray × JV)) : Int := if p.length = 0 ∧ q.length = 0 then 0 else cmpKs f p q 0 (unionK p q)
/-- The kinds' order. -/
def rankJ : JV → Nat
  | .int _ => 0 | .flt _ => 0 | .str _ => 1 | .bool _ => 2 | .list _ => 3 | .map _ => 4 | .null => 5
/-- A step where the other map's values come with what compares with them. -/
def stepT (a : List (ByteArray × JV)) (n : Nat) (T : List (ByteArray × (JV → Int))) (i : Nat) (k : ByteArray) : Int :=
  if i = a.length then -1 else if i = n then 1 else match lkJ a k, getA T k with
    | none, _ => 1
    | some _, none => -1
    | some x, some g => g x
def cmpKsT (a : List (ByteArray × JV)) (n : Nat) (T : List (ByteArray × (JV → Int))) : Nat → List ByteArray → Int
  | _, [] => 0
  | i, k :: r => if stepT a n T i k = 0 then cmpKsT a n T (i + 1) r else stepT a n T i k
mutual
/-- How two trees compare: as value.Compare has it. -/
def cmpJ : JV → JV → Int
  | .flt a, .flt b => cmpF a b
  | .flt a, .int n => cmpF a (floatOfInt .f64 n)
  | .int n, .flt b => cmpF (floatOfInt .f64 n) b
  | .int a, .int b => cmpI a b
  | .str a, .str b => cmpS a b
  | .bool a, .bool b => cmpBo a b
  | .list a, .list b => cmpJs a b
  | .map a, .map b => if a.length = 0 ∧ b.length = 0 then 0 else cmpKsT a b.length (cmpT b) 0 (unionK a b)
  | .null, .null => 0
  | j, k => if rankJ j < rankJ k then -1 else 1
termination_by _ k => SizeOf.sizeOf k
def cmpJs : List JV → List JV → Int
  | [], [] => 0
  | [], _ :: _ => -1
  | _ :: _, [] => 1
  | x :: r, y :: q => if cmpJ x y = 0 then cmpJs r q else cmpJ x y
termination_by _ k => SizeOf.sizeOf k
def cmpT : List (ByteArray × JV) → List (ByteArray × (JV → Int))
  | [] => []
  | y :: q => (y.1, fun x => cmpJ x y.2) :: cmpT q
termination_by k => SizeOf.sizeOf k
decreasing_by
  all_goals simp_wf
  · obtain ⟨y1, y2⟩ := y; simp; omega
  · omega
end
theorem cmpJs_eq : ∀ a b : List JV, cmpJs a b = cmpLs cmpJ a b
  | [], [] => by simp only [cmpJs, cmpLs]
  | [], _ :: _ => by simp only [cmpJs, cmpLs]
  | _ :: _, [] => by simp only [cmpJs, cmpLs]
  | x :: r, y :: q => by simp only [cmpJs, cmpLs]; rw [cmpJs_eq r q]
theorem cmpT_get : ∀ (b : List (ByteArray × JV)) (k : ByteArray), getA (cmpT b) k = (lkJ b k).map fun y x => cmpJ x y
  | [], k => by simp [cmpT, getA, lkJ]
  | y :: q, k => by
    unfold cmpT
    simp only [getA, lkJ]
    by_cases e : y.1 = k
    · rw [if_pos e, if_pos e]; rfl
    · rw [if_neg e, if_neg e, cmpT_get q k]
theorem stepT_eq (a b : List (ByteArray × JV)) (i : Nat) (k : ByteArray) : stepT a b.length (cmpT b) i k = stepC cmpJ a b i k := by
  unfold stepT stepC
  rw [cmpT_get]
  split
  · rfl
  · split
    · rfl
    · cases lkJ a k <;> cases lkJ b k <;> rfl
theorem cmpKsT_eq (a b : List (ByteArray × JV)) : ∀ (K : List ByteArray) (i : Nat), cmpKsT a b.length (cmpT b) i K = cmpKs cmpJ a b i K
  | [], i => rfl
  | k :: r, i => by simp only [cmpKsT, cmpKs]; rw [stepT_eq, cmpKsT_eq a b r]
theorem cmpJ_map (a b : List (ByteArray × JV)) : cmpJ (.map a) (.map b) = cmpMs cmpJ a b := by
  unfold cmpJ cmpMs
  rw [cmpKsT_eq]
theorem cmpJ_list (a b : List JV) : cmpJ (.list a) (.list b) = cmpLs cmpJ a b := by
  unfold cmpJ
  exact cmpJs_eq a b
end Go.Proofs.Ytbbacpdbbmjblaa
end
section
set_option linter.unusedVariables false
namespace Go.Proofs.Ytbbacpdbbmjblaa
open Go.RowKit
set_option linter.unusedSimpArgs false
section
variable {f : JV → JV → Int} {p q : List (ByteArray × JV)} {C : Int}
theorem dmz_c (h : ACall1 Try.prog 175 [.dat dvA, .dat (dvM p), .dat (dvM q), cClo] (cTb p q (.dat (.val (.int .i64 0))) (.dat (.val (.int .i64 0)))) (.dat (.val (.bool (decide (C = 0))))) (cTb p q .any (.dat (.val (.int .i64 C))))) :
    ACall1 Try.prog 173 [.dat dvA, .dat (dvM p), .dat (dvM q), .dat (.val (.int .i64 1)), cClo] (cTb p q (.dat (.val (.int .i64 0))) (.dat (.val (.int .i64 0)))) (.dat (.val (.bool (decide (C = 0))))) (cTb p q .any (.dat (.val (.int .i64 C)))) := by
  refine acall_of_run Try.func173 rfl Try.ntmps173 rfl (fun X => ?_)
  have g1 : decide ((1 : Int) = 0) = false := rfl
  have g2 : decide ((1 : Int) = 1) = true := rfl
  unfold cTb at h
  repeat' (first
    | refine run_seq ?_
    | (refine k_pick rfl ?_; first | refine k_assignD rfl rfl ?_ | refine k_moveD rfl rfl ?_ | refine k_bin2B rfl rfl rfl rfl ?_ | refine k_acall1 (thk [(1000, _), (1001, _), (1002, _), (1003, _), (1004, _)] 200) rfl (by kernel_rfl) (h) rfl ⟨rfl, ⟨rfl, ⟨rfl, ⟨rfl, ⟨rfl, trivial⟩⟩⟩⟩⟩ rfl (freshB_ok rfl) rfl ?_ | refine k_moveC rfl rfl ?_)
    | refine run_opsEnd ?_
    | refine run_region ?_
    | refine run_condT rfl (by first | rfl | assumption) ?_
    | refine run_condF rfl (by first | rfl | assumption) ?_
    | refine run_block ?_
    | fail)
  refine run_retA () id (tm := [(10, .dat (.val (.bool (decide (C = 0)))))]) ?_ (resA_tmp rfl rfl)
  (refine ⟨?_, ?_, by rfl⟩ <;> repeat' (first | exact trivial | exact ALe.ptr rfl | exact ALe.own rfl | exact ALe.elt rfl | exact BLe.boxD _ _ | exact BLe.row rfl | exact BLe.res | exact BLe.dead rfl | exact ALe.dat (PLe.refl _) | exact CLe.nil | refine And.intro ?_ ?_ | refine ALe.iface ?_ | refine ALe.clo ?_ | refine CLe.cons ?_ ?_ | refine BLe.box ?_ | refine BLe.row ?_ | exact ALe.any _ | refine ALe.dat (PLe.of_eq ?_)))
theorem zipU_c (h : ACall1 Try.prog 173 [.dat dvA, .dat (dvM p), .dat (dvM q), .dat (.val (.int .i64 1)), cClo] (cTb p q (.dat (.val (.int .i64 0))) (.dat (.val (.int .i64 0)))) (.dat (.val (.bool (decide (C = 0))))) (cTb p q .any (.dat (.val (.int .i64 C))))) :
    ACall1 Try.prog 171 [.dat (dvMm p), .dat dvA, .dat (dvM q), .dat (.val (.int .i64 1)), cClo] (cTb p q (.dat (.val (.int .i64 0))) (.dat (.val (.int .i64 0)))) (.dat (.val (.bool (decide (C = 0))))) (cTb p q .any (.dat (.val (.int .i64 C)))) := by
  refine acall_of_run Try.func171 rfl Try.ntmps171 rfl (fun X => ?_)
  unfold cTb at h
  repeat' (first
    | refine run_seq ?_
    | (refine k_pick rfl ?_; first | refine k_assignD rfl rfl ?_ | refine k_moveD rfl rfl ?_ | refine k_acall1 (thk [(1000, _), (1001, _), (1002, _), (1003, _), (1004, _)] 200) rfl (by kernel_rfl) (h) rfl ⟨rfl, ⟨rfl, ⟨rfl, ⟨rfl, ⟨rfl, trivial⟩⟩⟩⟩⟩ rfl (freshB_ok rfl) rfl ?_ | refine k_moveC rfl rfl ?_ | refine k_iface rfl rfl (by kernel_rfl) ?_)
    | refine run_opsEnd ?_
    | refine run_region ?_
    | fail)
  refine run_retA () id (tm := [(10, .dat (.val (.bool (decide (C = 0)))))]) ?_ (resA_tmp rfl rfl)
  (refine ⟨?_, ?_, by rfl⟩ <;> repeat' (first | exact trivial | exact ALe.ptr rfl | exact ALe.own rfl | exact ALe.elt rfl | exact BLe.boxD _ _ | exact BLe.row rfl | exact BLe.res | exact BLe.dead rfl | exact ALe.dat (PLe.refl _) | exact CLe.nil | refine And.intro ?_ ?_ | refine ALe.iface ?_ | refine ALe.clo ?_ | refine CLe.cons ?_ ?_ | refine BLe.box ?_ | refine BLe.row ?_ | exact ALe.any _ | refine ALe.dat (PLe.of_eq ?_)))
theorem mzU_c (h : ACall1 Try.prog 171 [.dat (dvMm p), .dat dvA, .dat (dvM q), .dat (.val (.int .i64 1)), cClo] (cTb p q (.dat (.val (.int .i64 0))) (.dat (.val (.int .i64 0)))) (.dat (.val (.bool (decide (C = 0))))) (cTb p q .any (.dat (.val (.int .i64 C))))) :
    ACall1 Try.prog 111 [.dat dvA, .dat (dvM p), .dat (dvM q), .dat (.val (.int .i64 1)), cClo] (cTb p q (.dat (.val (.int .i64 0))) (.dat (.val (.int .i64 0)))) (.dat (.val (.bool (decide (C = 0))))) (cTb p q .any (.dat (.val (.int .i64 C)))) := by
  refine acall_of_run Try.func111 rfl Try.ntmps111 rfl (fun X => ?_)
  unfold cTb at h
  repeat' (first
    | refine run_seq ?_
    | (refine k_pick rfl ?_; first | refine k_assignD rfl rfl ?_ | refine k_moveD rfl rfl ?_ | refine k_box rfl rfl rfl ?_ | refine k_invAS1 (thk [(1000, _), (1001, _), (1002, _), (1003, _), (1004, _)] 200) rfl rfl (by kernel_rfl) (h) rfl ⟨rfl, ⟨rfl, ⟨rfl, ⟨rfl, ⟨rfl, trivial⟩⟩⟩⟩⟩ rfl (freshB_ok rfl) rfl ?_ | refine k_loadBC rfl rfl rfl rfl ?_ | refine k_cmpNil rfl rfl rfl (by kernel_rfl) (by exact NilIs.ifc) rfl ?_)
    | refine run_opsEnd ?_
    | refine run_region ?_
    | refine run_condT rfl (by first | rfl | assumption) ?_
    | fail)
  refine run_retA () id (tm := [(10, .dat (.val (.bool (decide (C = 0)))))]) ?_ (resA_tmp rfl rfl)
  (refine ⟨?_, ?_, by rfl⟩ <;> repeat' (first | exact trivial | exact ALe.ptr rfl | exact ALe.own rfl | exact ALe.elt rfl | exact BLe.boxD _ _ | exact BLe.row rfl | exact BLe.res | exact BLe.dead rfl | exact ALe.dat (PLe.refl _) | exact CLe.nil | refine And.intro ?_ ?_ | refine ALe.iface ?_ | refine ALe.clo ?_ | refine CLe.cons ?_ ?_ | refine BLe.box ?_ | refine BLe.row ?_ | exact ALe.any _ | refine ALe.dat (PLe.of_eq ?_)))
end
set_option maxHeartbeats 4000000 in
theorem mapCmp_p (f : JV → JV → Int) (p q : List (ByteArray × JV)) (hp : (p.map (·.1)).Nodup) (hq : (q.map (·.1)).Nodup) (hl : (p.length + q.length) * 16 ≤ 140737488351232) (hE : ∀ k x y, lkJ p k = some x → lkJ q k = some y → PCall Try.prog 90 [dvA, dvV x, dvV y] (.val (.int .i64 (f x y)))) :
    PCall Try.prog 103 [dvA, dvM p, dvM q] (.val (.int .i64 (cmpMs f p q))) := by
  refine pcall_of_run Try.func103 rfl Try.ntmps103 rfl (fun X => ?_)
  unfold cmpMs
  by_cases h0 : p.length = 0 ∧ q.length = 0
  · rw [if_pos h0]
    have g1 : decide ((p.length : Int) = 0) = true := decide_eq_true (by omega)
    have g2 : decide ((q.length : Int) = 0) = true := decide_eq_true (by omega)
    repeat' (first
    | refine run_seq ?_
    | (refine k_pick rfl ?_; first | refine k_assignD rfl rfl ?_ | refine k_moveD rfl rfl ?_ | refine k_loadBD rfl rfl rfl (by first | rfl | (simp only [cellsD]; rfl)) ?_ | refine k_bin2B rfl rfl rfl rfl ?_ | refine k_pickT rfl rfl (by first | rfl | assumption) rfl ?_ | refine k_boxW rfl rfl rfl (by first | rfl | (simp only [cellsD]; rfl)) ?_ | refine k_storeB rfl rfl rfl rfl rfl ?_ | refine k_alloc rfl rfl ?_ | refine k_invS rfl rfl (by kernel_rfl) rfl (by first | exact lenM_p _) ?_ | refine k_cmpNil rfl rfl rfl (by kernel_rfl) (by exact NilIs.ifc) rfl ?_)
    | refine run_opsEnd ?_
    | refine run_region ?_
    | refine run_condT rfl (by first | rfl | assumption) ?_
    | (refine k_guardY rfl rfl (by first | rfl | assumption) ?_; first | refine k_loadBD rfl rfl rfl (by first | rfl | (simp only [cellsD]; rfl)) ?_ | refine k_bin2B rfl rfl rfl rfl ?_)
    | refine run_retOk (resOk_tmp rfl rfl ?_)
    | fail)
    all_goals exact PLe.refl _
  · rw [if_neg h0]
    have hpq : p ≠ [] ∨ q ≠ [] := by
      by_cases h1 : p = []
      · exact .inr fun h2 => h0 ⟨by rw [h1]; rfl, by rw [h2]; rfl⟩
      · exact .inl h1
    have hM := mzU_c (zipU_c (dmz_c (lex_c f p q (unionK p q) hpq hp hq hl (unionK_incr p q) (unionK_mem p q) hE)))
    generalize cmpKs f p q 0 (unionK p q) = C at *
    unfold cTb at hM
    by_cases h1 : p.length = 0
    · have g1 : decide ((p.length : Int) = 0) = true := decide_eq_true (by omega)
      have g2 : decide ((q.length : Int) = 0) = false := decide_eq_false (by omega)
      repeat' (first
    | refine run_seq ?_
    | (refine k_pick rfl ?_; first | refine k_assignD rfl rfl ?_ | refine k_moveD rfl rfl ?_ | refine k_loadBD rfl rfl rfl (by first | rfl | (simp only [cellsD]; rfl)) ?_ | refine k_bin2B rfl rfl rfl rfl ?_ | refine k_pickT rfl rfl (by first | rfl | assumption) rfl ?_ | refine k_boxW rfl rfl rfl (by first | rfl | (simp only [cellsD]; rfl)) ?_ | refine k_storeB rfl rfl rfl rfl rfl ?_ | refine k_alloc rfl rfl ?_ | refine k_acall1 (thk [(1000, _), (1001, _), (1002, _), (1003, _), (1004, _)] 200) rfl (by kernel_rfl) (hM) rfl ⟨rfl, ⟨rfl, ⟨rfl, ⟨rfl, ⟨rfl, trivial⟩⟩⟩⟩⟩ rfl (freshB_ok rfl) rfl ?_ | refine k_invS rfl rfl (by kernel_rfl) rfl (by first | exact lenM_p _) ?_ | refine k_makeFunc rfl ?_ | refine k_cmpNil rfl rfl rfl (by kernel_rfl) (by exact NilIs.ifc) rfl ?_)
    | refine run_opsEnd ?_
    | refine run_region ?_
    | refine run_condT rfl (by first | rfl | assumption) ?_
    | refine run_condF rfl (by first | rfl | assumption) ?_
    | (refine k_guardY rfl rfl (by first | rfl | assumption) ?_; first | refine k_loadBD rfl rfl rfl (by first | rfl | (simp only [cellsD]; rfl)) ?_ | refine k_bin2B rfl rfl rfl rfl ?_)
    | refine run_skip ?_
    | refine run_retOk (resOk_tmp rfl rfl ?_)
    | fail)
      all_goals exact PLe.refl _
    · have g1 : decide ((p.length : Int) = 0) = false := decide_eq_false (by omega)
      repeat' (first
    | refine run_seq ?_
    | (refine k_pick rfl ?_; first | refine k_assignD rfl rfl ?_ | refine k_moveD rfl rfl ?_ | refine k_loadBD rfl rfl rfl (by first | rfl | (simp only [cellsD]; rfl)) ?_ | refine k_bin2B rfl rfl rfl rfl ?_ | refine k_pickF rfl rfl (by first | rfl | assumption) rfl ?_ | refine k_boxW rfl rfl rfl (by first | rfl | (simp only [cellsD]; rfl)) ?_ | refine k_storeB rfl rfl rfl rfl rfl ?_ | refine k_alloc rfl rfl ?_ | refine k_acall1 (thk [(1000, _), (1001, _), (1002, _), (1003, _), (1004, _)] 200) rfl (by kernel_rfl) (hM) rfl ⟨rfl, ⟨rfl, ⟨rfl, ⟨rfl, ⟨rfl, trivial⟩⟩⟩⟩⟩ rfl (freshB_ok rfl) rfl ?_ | refine k_invS rfl rfl (by kernel_rfl) rfl (by first | exact lenM_p _) ?_ | refine k_makeFunc rfl ?_ | refine k_cmpNil rfl rfl rfl (by kernel_rfl) (by exact NilIs.ifc) rfl ?_)
    | refine run_opsEnd ?_
    | refine run_region ?_
    | refine run_condT rfl (by first | rfl | assumption) ?_
    | refine run_condF rfl (by first | rfl | assumption) ?_
    | refine k_guardNT rfl rfl (by first | rfl | assumption) rfl ?_
    | refine run_skip ?_
    | refine run_retOk (resOk_tmp rfl rfl ?_)
    | fail)
      all_goals exact PLe.refl _
end Go.Proofs.Ytbbacpdbbmjblaa
end
section
set_option linter.unusedVariables false
namespace Go.Proofs.Ytbbacpdbbmjblaa
open Go.RowKit
set_option linter.unusedSimpArgs false
set_option maxHeartbeats 40000000 in
theorem cmpO_null (k : JV) (hl : (JV.IsList .null && k.IsList) = false) (hm : (JV.IsMap .null && k.IsMap) = false) : PCall Try.prog 90 [dvA, dvV .null, dvV k] (.val (.int .i64 (cmpJ .null k))) := by
  refine pcall_of_run Try.func90 rfl Try.ntmps90 rfl (fun X => ?_)
  cases k
  all_goals first
    | exact absurd hl (fun h => Bool.noConfusion h)
    | exact absurd hm (fun h => Bool.noConfusion h)
    | skip
  all_goals clear hl hm
  all_goals
    repeat' (first
    | refine run_seq ?_
    | (refine k_pick rfl ?_; first | refine k_assignD rfl rfl ?_ | refine k_moveD rfl rfl ?_ | refine k_not rfl rfl ?_ | refine k_invD rfl rfl rfl (by kernel_rfl) rfl (by first | exact IsFloat_p _ | exact IsInt_p _ | exact IsString_p _ | exact IsBool_p _ | exact IsList_p _ | exact IsMap_p _ | exact IsNull_p _ | exact AsString_p _ | exact AsBool_p _ | exact AsFloat_p _ | exact AsInt_p _ | exact fltcmp_p _ _ | exact intcmp_p _ _ | exact boolcmp_p _ _ | exact strcmp_p _ _) ?_)
    | refine run_opsEnd ?_
    | refine run_region ?_
    | refine run_condT rfl (by first | rfl | assumption) ?_
    | refine run_condF rfl (by first | rfl | assumption) ?_
    | refine run_skip ?_
    | refine run_retOk (resOk_tmp rfl rfl ?_)
    | fail)
  all_goals exact PLe.of_eq (by unfold cmpJ; rfl)
set_option maxHeartbeats 40000000 in
theorem cmpO_bool (b : Bool) (k : JV) (hl : (JV.IsList (.bool b) && k.IsList) = false) (hm : (JV.IsMap (.bool b) && k.IsMap) = false) : PCall Try.prog 90 [dvA, dvV (.bool b), dvV k] (.val (.int .i64 (cmpJ (.bool b) k))) := by
  refine pcall_of_run Try.func90 rfl Try.ntmps90 rfl (fun X => ?_)
  cases k
  all_goals first
    | exact absurd hl (fun h => Bool.noConfusion h)
    | exact absurd hm (fun h => Bool.noConfusion h)
    | skip
  all_goals clear hl hm
  all_goals
    repeat' (first
    | refine run_seq ?_
    | (refine k_pick rfl ?_; first | refine k_assignD rfl rfl ?_ | refine k_moveD rfl rfl ?_ | refine k_call rfl (by kernel_rfl) rfl (by first | exact IsFloat_p _ | exact IsInt_p _ | exact IsString_p _ | exact IsBool_p _ | exact IsList_p _ | exact IsMap_p _ | exact IsNull_p _ | exact AsString_p _ | exact AsBool_p _ | exact AsFloat_p _ | exact AsInt_p _ | exact fltcmp_p _ _ | exact intcmp_p _ _ | exact boolcmp_p _ _ | exact strcmp_p _ _) ?_ | refine k_not rfl rfl ?_ | refine k_invD rfl rfl rfl (by kernel_rfl) rfl (by first | exact IsFloat_p _ | exact IsInt_p _ | exact IsString_p _ | exact IsBool_p _ | exact IsList_p _ | exact IsMap_p _ | exact IsNull_p _ | exact AsString_p _ | exact AsBool_p _ | exact AsFloat_p _ | exact AsInt_p _ | exact fltcmp_p _ _ | exact intcmp_p _ _ | exact boolcmp_p _ _ | exact strcmp_p _ _) ?_)
    | refine run_opsEnd ?_
    | refine run_region ?_
    | refine run_condT rfl (by first | rfl | assumption) ?_
    | refine run_condF rfl (by first | rfl | assumption) ?_
    | refine run_skip ?_
    | refine run_retOk (resOk_tmp rfl rfl ?_)
    | fail)
  all_goals exact PLe.of_eq (by unfold cmpJ; rfl)
end Go.Proofs.Ytbbacpdbbmjblaa
end
section
set_option linter.unusedVariables false
namespace Go.Proofs.Ytbbacpdbbmjblaa
open Go.RowKit
set_option linter.unusedSimpArgs false
set_option maxHeartbeats 40000000 in
theorem cmpO_int (b : Int) (k : JV) (hl : (JV.IsList (.int b) && k.IsList) = false) (hm : (JV.IsMap (.int b) && k.IsMap) = false) : PCall Try.prog 90 [dvA, dvV (.int b), dvV k] (.val (.int .i64 (cmpJ (.int b) k))) := by
  refine pcall_of_run Try.func90 rfl Try.ntmps90 rfl (fun X => ?_)
  cases k
  all_goals first
    | exact absurd hl (fun h => Bool.noConfusion h)
    | exact absurd hm (fun h => Bool.noConfusion h)
    | skip
  all_goals clear hl hm
  all_goals
    repeat' (first
    | refine run_seq ?_
    | (refine k_pick rfl ?_; first | refine k_assignD rfl rfl ?_ | refine k_moveD rfl rfl ?_ | refine k_call rfl (by kernel_rfl) rfl (by first | exact IsFloat_p _ | exact IsInt_p _ | exact IsString_p _ | exact IsBool_p _ | exact IsList_p _ | exact IsMap_p _ | exact IsNull_p _ | exact AsString_p _ | exact AsBool_p _ | exact AsFloat_p _ | exact AsInt_p _ | exact fltcmp_p _ _ | exact intcmp_p _ _ | exact boolcmp_p _ _ | exact strcmp_p _ _) ?_ | refine k_not rfl rfl ?_ | refine k_invD rfl rfl rfl (by kernel_rfl) rfl (by first | exact IsFloat_p _ | exact IsInt_p _ | exact IsString_p _ | exact IsBool_p _ | exact IsList_p _ | exact IsMap_p _ | exact IsNull_p _ | exact AsString_p _ | exact AsBool_p _ | exact AsFloat_p _ | exact AsInt_p _ | exact fltcmp_p _ _ | exact intcmp_p _ _ | exact boolcmp_p _ _ | exact strcmp_p _ _) ?_ | refine k_convF (q := .f64) rfl rfl (by kernel_rfl) (by kernel_rfl) ?_)
    | refine run_opsEnd ?_
    | refine run_region ?_
    | refine run_condT rfl (by first | rfl | assumption) ?_
    | refine run_condF rfl (by first | rfl | assumption) ?_
    | refine run_skip ?_
    | refine run_retOk (resOk_tmp rfl rfl ?_)
    | fail)
  all_goals exact PLe.of_eq (by unfold cmpJ; rfl)
set_option maxHeartbeats 40000000 in
theorem cmpO_flt (b : Nat) (k : JV) (hl : (JV.IsList (.flt b) && k.IsList) = false) (hm : (JV.IsMap (.flt b) && k.IsMap) = false) : PCall Try.prog 90 [dvA, dvV (.flt b), dvV k] (.val (.int .i64 (cmpJ (.flt b) k))) := by
  refine pcall_of_run Try.func90 rfl Try.ntmps90 rfl (fun X => ?_)
  cases k
  all_goals first
    | exact absurd hl (fun h => Bool.noConfusion h)
    | exact absurd hm (fun h => Bool.noConfusion h)
    | skip
  all_goals clear hl hm
  all_goals
    repeat' (first
    | refine run_seq ?_
    | (refine k_pick rfl ?_; first | refine k_assignD rfl rfl ?_ | refine k_moveD rfl rfl ?_ | refine k_call rfl (by kernel_rfl) rfl (by first | exact IsFloat_p _ | exact IsInt_p _ | exact IsString_p _ | exact IsBool_p _ | exact IsList_p _ | exact IsMap_p _ | exact IsNull_p _ | exact AsString_p _ | exact AsBool_p _ | exact AsFloat_p _ | exact AsInt_p _ | exact fltcmp_p _ _ | exact intcmp_p _ _ | exact boolcmp_p _ _ | exact strcmp_p _ _) ?_ | refine k_not rfl rfl ?_ | refine k_invD rfl rfl rfl (by kernel_rfl) rfl (by first | exact IsFloat_p _ | exact IsInt_p _ | exact IsString_p _ | exact IsBool_p _ | exact IsList_p _ | exact IsMap_p _ | exact IsNull_p _ | exact AsString_p _ | exact AsBool_p _ | exact AsFloat_p _ | exact AsInt_p _ | exact fltcmp_p _ _ | exact intcmp_p _ _ | exact boolcmp_p _ _ | exact strcmp_p _ _) ?_ | refine k_convF (q := .f64) rfl rfl (by kernel_rfl) (by kernel_rfl) ?_)
    | refine run_opsEnd ?_
    | refine run_region ?_
    | refine run_condT rfl (by first | rfl | assumption) ?_
    | refine run_condF rfl (by first | rfl | assumption) ?_
    | refine run_skip ?_
    | refine run_retOk (resOk_tmp rfl rfl ?_)
    | fail)
  all_goals exact PLe.of_eq (by unfold cmpJ; rfl)
end Go.Proofs.Ytbbacpdbbmjblaa
end
section
set_option linter.unusedVariables false
namespace Go.Proofs.Ytbbacpdbbmjblaa
open Go.RowKit
set_option linter.unusedSimpArgs false
set_option maxHeartbeats 40000000 in
theorem cmpO_str (b : ByteArray) (k : JV) (hl : (JV.IsList (.str b) && k.IsList) = false) (hm : (JV.IsMap (.str b) && k.IsMap) = false) : PCall Try.prog 90 [dvA, dvV (.str b), dvV k] (.val (.int .i64 (cmpJ (.str b) k))) := by
  refine pcall_of_run Try.func90 rfl Try.ntmps90 rfl (fun X => ?_)
  cases k
  all_goals first
    | exact absurd hl (fun h => Bool.noConfusion h)
    | exact absurd hm (fun h => Bool.noConfusion h)
    | skip
  all_goals clear hl hm
  all_goals
    repeat' (first
    | refine run_seq ?_
    | (refine k_pick rfl ?_; first | refine k_assignD rfl rfl ?_ | refine k_moveD rfl rfl ?_ | refine k_call rfl (by kernel_rfl) rfl (by first | exact IsFloat_p _ | exact IsInt_p _ | exact IsString_p _ | exact IsBool_p _ | exact IsList_p _ | exact IsMap_p _ | exact IsNull_p _ | exact AsString_p _ | exact AsBool_p _ | exact AsFloat_p _ | exact AsInt_p _ | exact fltcmp_p _ _ | exact intcmp_p _ _ | exact boolcmp_p _ _ | exact strcmp_p _ _) ?_ | refine k_not rfl rfl ?_ | refine k_invD rfl rfl rfl (by kernel_rfl) rfl (by first | exact IsFloat_p _ | exact IsInt_p _ | exact IsString_p _ | exact IsBool_p _ | exact IsList_p _ | exact IsMap_p _ | exact IsNull_p _ | exact AsString_p _ | exact AsBool_p _ | exact AsFloat_p _ | exact AsInt_p _ | exact fltcmp_p _ _ | exact intcmp_p _ _ | exact boolcmp_p _ _ | exact strcmp_p _ _) ?_)
    | refine run_opsEnd ?_
    | refine run_region ?_
    | refine run_condT rfl (by first | rfl | assumption) ?_
    | refine run_condF rfl (by first | rfl | assumption) ?_
    | refine run_skip ?_
    | refine run_retOk (resOk_tmp rfl rfl ?_)
    | fail)
  all_goals exact PLe.of_eq (by unfold cmpJ; rfl)
set_option maxHeartbeats 40000000 in
theorem cmpO_list (b : List JV) (k : JV) (hl : (JV.IsList (.list b) && k.IsList) = false) (hm : (JV.IsMap (.list b) && k.IsMap) = false) : PCall Try.prog 90 [dvA, dvV (.list b), dvV k] (.val (.int .i64 (cmpJ (.list b) k))) := by
  refine pcall_of_run Try.func90 rfl Try.ntmps90 rfl (fun X => ?_)
  cases k
  all_goals first
    | exact absurd hl (fun h => Bool.noConfusion h)
    | exact absurd hm (fun h => Bool.noConfusion h)
    | skip
  all_goals clear hl hm
  all_goals
    repeat' (first
    | refine run_seq ?_
    | (refine k_pick rfl ?_; first | refine k_assignD rfl rfl ?_ | refine k_moveD rfl rfl ?_ | refine k_not rfl rfl ?_ | refine k_invD rfl rfl rfl (by kernel_rfl) rfl (by first | exact IsFloat_p _ | exact IsInt_p _ | exact IsString_p _ | exact IsBool_p _ | exact IsList_p _ | exact IsMap_p _ | exact IsNull_p _ | exact AsString_p _ | exact AsBool_p _ | exact AsFloat_p _ | exact AsInt_p _ | exact fltcmp_p _ _ | exact intcmp_p _ _ | exact boolcmp_p _ _ | exact strcmp_p _ _) ?_)
    | refine run_opsEnd ?_
    | refine run_region ?_
    | refine run_condT rfl (by first | rfl | assumption) ?_
    | refine run_condF rfl (by first | rfl | assumption) ?_
    | refine run_skip ?_
    | refine run_retOk (resOk_tmp rfl rfl ?_)
    | fail)
  all_goals exact PLe.of_eq (by unfold cmpJ; rfl)
end Go.Proofs.Ytbbacpdbbmjblaa
end
section
set_option linter.unusedVariables false
namespace Go.Proofs.Ytbbacpdbbmjblaa
open Go.RowKit
set_option linter.unusedSimpArgs false
set_option maxHeartbeats 40000000 in
theorem cmpO_map (b : List (ByteArray × JV)) (k : JV) (hl : (JV.IsList (.map b) && k.IsList) = false) (hm : (JV.IsMap (.map b) && k.IsMap) = false) : PCall Try.prog 90 [dvA, dvV (.map b), dvV k] (.val (.int .i64 (cmpJ (.map b) k))) := by
  refine pcall_of_run Try.func90 rfl Try.ntmps90 rfl (fun X => ?_)
  cases k
  all_goals first
    | exact absurd hl (fun h => Bool.noConfusion h)
    | exact absurd hm (fun h => Bool.noConfusion h)
    | skip
  all_goals clear hl hm
  all_goals
    repeat' (first
    | refine run_seq ?_
    | (refine k_pick rfl ?_; first | refine k_assignD rfl rfl ?_ | refine k_moveD rfl rfl ?_ | refine k_not rfl rfl ?_ | refine k_invD rfl rfl rfl (by kernel_rfl) rfl (by first | exact IsFloat_p _ | exact IsInt_p _ | exact IsString_p _ | exact IsBool_p _ | exact IsList_p _ | exact IsMap_p _ | exact IsNull_p _ | exact AsString_p _ | exact AsBool_p _ | exact AsFloat_p _ | exact AsInt_p _ | exact fltcmp_p _ _ | exact intcmp_p _ _ | exact boolcmp_p _ _ | exact strcmp_p _ _) ?_)
    | refine run_opsEnd ?_
    | refine run_region ?_
    | refine run_condT rfl (by first | rfl | assumption) ?_
    | refine run_condF rfl (by first | rfl | assumption) ?_
    | refine run_skip ?_
    | refine run_retOk (resOk_tmp rfl rfl ?_)
    | fail)
  all_goals exact PLe.of_eq (by unfold cmpJ; rfl)
end Go.Proofs.Ytbbacpdbbmjblaa
end
