/- Part 9 of what the proof rests on. -/
import Derived.Maps.AppendAt
import Derived.Deep.AppendLies
import Derived.Deep.Draws
import Derived.RegionTactic
import Derived.Deep.QuietTactic
import Derived.BigQuiet
import Derived.Lib.Overlaps
import Derived.Lib.AppendZerosOnto
import Derived.Shelf.Spec.SlicesInsert
import Derived.Test.YtgmahieoiifpfaaGreatSmR1
import Derived.Test.YtgmahieoiifpfaaGreatSmR4
import Derived.Test.YtgmahieoiifpfaaGreatSmR5
import Derived.Test.YtgmahieoiifpfaaGreatSmR6
import Derived.Test.YtgmahieoiifpfaaGreatSmR7
import Derived.Test.YtgmahieoiifpfaaGreatSmR8
section
set_option linter.unusedVariables false
namespace Go.Proofs.YtgmahieoiifpfaaGreat
open Go.RowKit
set_option linter.unusedSimpArgs false
def srtB (ks : List ByteArray) : List ByteArray := ks.foldr (fun k l => insL l l k k) []
theorem srtB_incr : ∀ ks : List ByteArray, Incr (srtB ks)
  | [] => List.Pairwise.nil
  | k :: r => insL_incr (srtB_incr r) k
theorem insL_mem1 {α : Type} {ks : List ByteArray} {l : List α} {k : ByteArray} {x y : α} (h : y ∈ insL ks l k x) : y = x ∨ y ∈ l := by
  unfold insL at h
  simp only [List.mem_append, List.mem_cons, List.not_mem_nil, or_false] at h
  rcases h with (h | h) | h
  · exact .inr (List.mem_of_mem_take h)
  · exact .inl h
  · exact .inr (List.mem_of_mem_drop h)
theorem insL_mem2 {l : List ByteArray} {k x : ByteArray} : x ∈ insL l l k k ↔ x = k ∨ x ∈ l := by
  constructor
  · exact insL_mem1
  · intro h
    unfold insL
    rcases h with rfl | h
    · simp
    · by_cases e : x = k
      · subst e; simp
      · rw [List.mem_append, List.mem_append]
        rw [← List.take_append_drop (lb l k) l, List.mem_append] at h
        rcases h with h | h
        · exact .inl (.inl h)
        · cases hh : hasAt l k with
          | false => exact .inr (by simpa using h)
          | true =>
            unfold hasAt at hh
            simp only [decide_eq_true_eq] at hh
            obtain ⟨h1, h2⟩ := List.getElem?_eq_some_iff.1 hh
            rw [List.drop_eq_getElem_cons h1, h2, List.mem_cons] at h
            rcases h with h | h
            · exact absurd h e
            · exact .inr h
theorem srtB_mem : ∀ (ks : List ByteArray) (x : ByteArray), x ∈ srtB ks ↔ x ∈ ks
  | [], x => Iff.rfl
  | k :: r, x => by
    show x ∈ insL (srtB r) (srtB r) k k ↔ _
    rw [insL_mem2, srtB_mem r x, List.mem_cons]
theorem incr_nodup {l : List ByteArray} (h : Incr l) : l.Nodup := List.Pairwise.imp (fun h e => by subst e; rw [blt_irrefl] at h; cases h) h
set_option maxHeartbeats 8000000 in
theorem sortedKeys_q (m : List (ByteArray × JV)) : PCall Tryz.prog 197 [dvMm m] (.sl 1 16 (pdS (srtB (m.map (·.1))))) := by
  refine PCall.ex fun w F vs hv => ?_
  obtain ⟨hm, hl⟩ : (m.map (·.1)).Nodup ∧ m.length * 88 ≤ 140737488351232 := by
    unfold Reps at hv
    obtain ⟨v, r, _, h, _⟩ := hv
    unfold dvMm Rep at h
    obtain ⟨_, _, _, _, _, _, _, _, _, h⟩ := h
    unfold JOk at h
    exact ⟨h.1, h.2.1⟩
  clear hv
  refine pcall_of_run Tryz.func197 rfl Tryz.ntmps197 rfl (fun X => ?_)
  refine wk ?_
  refine run_nilOwn 3 100 9 1 16 rfl rfl ?_
  refine run_loopS (ι := { q : List (ByteArray × JV) × List ByteArray // (q.1.map (·.1)).Nodup ∧ (∀ y ∈ q.1, y ∈ m) ∧ Incr q.2 ∧ (∀ k, k ∈ q.2 ↔ k ∈ q.1.map (·.1)) })
    (fun q => [(3, .own 100), (7, .own 7)])
    (fun q => [(7, .res (itR m q.1.1)), (100, .row 9 1 16 (pdS q.1.2))])
    (fun q => m.length - q.1.1.length) ⟨([], []), by simp, by simp, List.Pairwise.nil, by simp⟩ id ?_ ?_
  · exact sb
  rintro ⟨⟨done, l⟩, hnd, hsub, hi, hmem⟩
  simp only at hnd hsub hi hmem ⊢
  have hlen : l.length = done.length := by
    have := ((List.perm_ext_iff_of_nodup (incr_nodup hi) hnd).2 hmem).length_eq
    simpa using this
  refine wk ?_
  refine k_nextM rfl rfl rfl (fun hev => ?_) (fun y hy hny => ?_)
  · have e : l = srtB (m.map (·.1)) := incr_ext hi (srtB_incr _) fun k => by
      rw [srtB_mem, hmem]
      exact (all_perm hm hnd hsub hev).mem_iff
    rw [← e]
    refine run_frz (fun _ => false) (fun k => k == 100) ?_
    exact wke
  · have hml := more_len hnd hsub hy hny
    have hnk : y.1 ∉ l := fun h => hny ((hmem _).1 h)
    have n1 := pdS_len l
    have hL : (pdS l ++ [PD.val (.string y.1)]).length = l.length + 1 := by simp [n1]
    have hz : ((l.length + 1 : Nat) : Int) - 1 = ((l.length : Nat) : Int) := by omega
    have hA : pdS l ++ [PD.val (.string y.1)] = pdS (insAt l l.length y.1) := by rw [insAt_end]; simp [pdS]
    refine wk ?_
    refine run_loopS (ι := { i : Nat // i ≤ l.length ∧ ∀ x ∈ l.drop i, blt y.1 x = true })
      (fun i => [(3, .own 100), (5, .dat (.val (.int .i64 (i.1 : Nat)))), (7, .own 7)])
      (fun i => [(7, .res (itR m (done ++ [y]))), (100, .row 9 1 16 (pdS (insAt l i.1 y.1)))])
      (fun i => i.1) ⟨l.length, Nat.le_refl _, by simp⟩ (fun j => if j = 100 then 15 else j) ?_ ?_
    · rw [hL, hA]
      simp only [hz]
      exact sb
    rintro ⟨i, hil, hd⟩
    have hins := insAt_length l y.1 hil
    have n2 := pdS_len (insAt l i y.1)
    by_cases h0 : 0 < i
    · have g1 : decide ((0 : Int) < (i : Int)) = true := decide_eq_true (by omega)
      obtain ⟨a, ha⟩ : ∃ a, l[i - 1]? = some a := ⟨_, List.getElem?_eq_getElem (by omega)⟩
      have q1 : (pdS (insAt l i y.1))[i]? = some (.val (.string y.1)) := pdS_at (insAt_at l y.1 hil)
      have q2 : (pdS (insAt l i y.1))[i - 1]? = some (.val (.string a)) := pdS_at (by
        have := insAt_before l y.1 (p := i - 1) (by omega)
        rw [show i - 1 + 1 = i by omega] at this
        rw [this, ha])
      have l1 : i < (pdS (insAt l i y.1)).length := by omega
      have l2 : i - 1 < (pdS (insAt l i y.1)).length := by omega
      have z1 : (i : Int) = ((i : Nat) : Int) := rfl
      have z2 : (i : Int) - 1 = ((i - 1 : Nat) : Int) := by omega
      cases hb : blt y.1 a with
      | true =>
        have e : ((pdS (insAt l i y.1)).set i (.val (.string a))).set (i - 1) (.val (.string y.1)) = pdS (insAt l (i - 1) y.1) := by
          have h1 := insAt_swap l y.1 a (p := i - 1) (by omega) ha
          rw [show i - 1 + 1 = i by omega] at h1
          rw [← h1]
          simp [pdS, List.map_set]
        refine wk ?_
        refine run_again ?_
        refine ⟨⟨i - 1, by omega, fun x hx => ?_⟩, id, by simp only; omega, ?_⟩
        · have hdd : l.drop (i - 1) = a :: l.drop i := by
            rw [List.drop_eq_getElem_cons (by omega), show i - 1 + 1 = i by omega]
            congr 1
            exact (List.getElem?_eq_some_iff.1 ha).2
          rw [hdd] at hx
          rcases List.mem_cons.1 hx with rfl | hx
          · exact hb
          · exact hd x hx
        simp only [← e, ← z2]
        exact sb
      | false =>
        refine wk ?_
        refine run_again ?_
        refine ⟨⟨(done ++ [y], insAt l i y.1), more_nd hnd hny, more_sub hsub hy, insAt_incr hi hd fun x hx => ?_, fun k => ?_⟩, id, by simp only [List.length_append, List.length_cons, List.length_nil]; omega, ?_⟩
        · obtain ⟨j, hj⟩ := List.getElem?_of_mem hx
          have hji : j < i := by have := (List.getElem?_eq_some_iff.1 hj).1; simp at this; omega
          rw [List.getElem?_take, if_pos hji] at hj
          have hxl := List.mem_of_getElem? hj
          have h1 : blt x a = true ∨ x = a := by
            rcases incr_le hi (show j ≤ i - 1 by omega) hj ha with h | h
            · exact .inr h
            · exact .inl h
          have h2 : blt a y.1 = true := by
            cases h3 : blt a y.1 with
            | true => rfl
            | false => exact absurd (blt_total h3 hb) fun e => hnk (e ▸ List.mem_of_getElem? ha)
          rcases h1 with h1 | rfl
          · exact blt_trans h1 h2
          · exact h2
        · rw [insAt_mem, hmem, List.map_append, List.mem_append]
          simp [or_comm]
        exact sb
    · obtain rfl : i = 0 := by omega
      have g1 : decide ((0 : Int) < ((0 : Nat) : Int)) = false := decide_eq_false (by omega)
      refine wk ?_
      refine run_again ?_
      refine ⟨⟨(done ++ [y], insAt l 0 y.1), more_nd hnd hny, more_sub hsub hy, insAt_incr hi hd (by simp), fun k => ?_⟩, id, by simp only [List.length_append, List.length_cons, List.length_nil]; omega, ?_⟩
      · rw [insAt_mem, hmem, List.map_append, List.mem_append]
        simp [or_comm]
      exact sb
section
variable {P : Program} {X : Base} {N : Nat} {Q : Exit → Act → World → Prop} {s s' : Sta} {w : World}
theorem run_look1 {t kt et r cl : Nat} {es : Array MapEntry} {k : ByteArray} (hm : P.underlying t = some (.map kt et)) (hd : P.underlying kt = some .string)
    (hb : w.heap[r]? = some (.map es cl)) (hs : MapKept.Stamped es cl) (hks : ∀ x ∈ es.toList, MapKept.IsKey .string x.key) {e : MapEntry} (he : e ∈ es.toList) (hke : e.key = .string k) :
    (Instr.lookup t (.map (some r)) (.string k) false).run P w = .ok e.val w := by
  have hk : MapKept.IsKey .string (.string k) := trivial
  rcases MapKept.findNow_spec hk es.toList 0 hks with ⟨h1, h2⟩ | ⟨j, e', h1, h2, h3⟩
  · exact absurd hke (h2 e he)
  · obtain rfl : e' = e := key_inj hs.2.2 (List.mem_of_getElem? h2) he (h3.trans hke.symm)
    simp [Instr.lookup, run_underlying hm, MapKept.run_getObj_map hb, MapKept.run_checkKey hd hk, MapKept.run_findKey hd h1, Result.andThen]
theorem op_lookM1 {o : Oper} (hd : dstOk X.N o.dst = true) {x y : Operand} {t : TypeId} (ho : o.op = .lookup t x y false) {kt et : Nat} (ht : MTI P t kt et) {m : List (ByteArray × JV)} {k : ByteArray} {j : JV} (hx : s.ev x = .dat (dvMm m)) (hy : s.ev y = .dat (.val (.string k))) (hj : lkJ m k = some j) :
    OpS P X o s (s.put o.dst (.dat (pdJ j))) := by
  refine opS_value hd fun a w ρ hc => ?_
  have h2 := hc.ev x
  rw [hx] at h2
  unfold VR dvMm Rep at h2
  have h3 := hc.ev y
  rw [hy] at h3
  unfold VR Rep at h3
  obtain ⟨b, es, cl, e1, hb, hh, hs, hl, he, hok⟩ := h2
  rcases he.lk (k := k) with ⟨j', e, h4, h5, h6, h7, h8⟩ | ⟨h4, h5⟩
  · rw [hj] at h4
    cases h4
    refine ⟨e.val, by simp [execOp, ho, e1, h3.1, run_look1 (mapT_spec ht.out) ht.str hh hs he.keys h5 h6], ?_⟩
    unfold VR pdJ Rep
    exact ⟨h7, JOkm_mem (by unfold JOk at hok; exact hok.2.2) _ h8⟩
  · rw [hj] at h4; cases h4
theorem d_lookM1 {ops : List Oper} {d : Nat} {x y : Operand} {t kt et : Nat} {m : List (ByteArray × JV)} {k : ByteArray} {j : JV} (hN : Nat.blt d N = true) (hx : s.ev x = .dat (dvMm m)) (hy : s.ev y = .dat (.val (.string k))) [ht : MTI P t kt et] (hj : lkJ m k = some j) :
    TrK P X N ops (some d) (.lookup t x y false) (Eff.put (some d) (.dat (pdJ j))) s (s.put (some d) (.dat (pdJ j))) := act_val hN fun s' _ _ _ _ hd hev htb => op_lookM1 hd rfl ht ((hev _ (by simp [Op.operands])).trans hx) ((hev _ (by simp [Op.operands])).trans hy) hj
end
theorem lk_mem : ∀ {m : List (ByteArray × JV)} {k : ByteArray}, k ∈ m.map (·.1) → ∃ j, lkJ m k = some j ∧ getA m k = some j ∧ (k, j) ∈ m
  | [], k, h => by cases h
  | x :: r, k, h => by
    unfold lkJ getA
    by_cases e : x.1 = k
    · rw [if_pos e, if_pos e]; exact ⟨_, rfl, rfl, by rw [← e]; simp⟩
    · rw [if_neg e, if_neg e]
      rw [List.map_cons, List.mem_cons] at h
      obtain ⟨j, h1, h2, h3⟩ := lk_mem (h.resolve_left fun h => e h.symm)
      exact ⟨j, h1, h2, by simp [h3]⟩
theorem unJs_map (l : List JV) : unJs l = l.map unJ := by
  induction l with
  | nil => unfold unJs; rfl
  | cons x r ih => unfold unJs; rw [ih]; rfl
theorem pcall_X {f : FuncId} {j : JV} {r : PD} (h : PCall Tryz.prog f [dvX j] r) : PCall Tryz.prog f [pdJ j] r := h.le fun _ _ _ hv => Reps.cons1 (dvX_le j) hv
set_option maxHeartbeats 8000000 in
theorem from_b (b : Bool) : PCall Tryz.prog 134 [pdJ (.bool b)] (qV (unJ (.bool b))) := by
  refine pcall_X ?_
  unfold dvX unJ gv qV
  cases b
  all_goals
    refine pcall_of_run Tryz.func134 rfl Tryz.ntmps134 rfl (fun X => ?_)
    exact wke
set_option maxRecDepth 100000 in
set_option maxHeartbeats 8000000 in
theorem from_n : PCall Tryz.prog 134 [pdJ .null] (qV (unJ .null)) := by
  refine pcall_X ?_
  unfold dvX unJ gNull qV
  refine pcall_of_run Tryz.func134 rfl Tryz.ntmps134 rfl (fun X => ?_)
  exact wke
set_option maxRecDepth 100000 in
set_option maxHeartbeats 8000000 in
theorem from_i (n : Int) : PCall Tryz.prog 134 [pdJ (.int n)] (qV (unJ (.int n))) := by
  refine pcall_X ?_
  unfold dvX unJ gv qV
  refine pcall_of_run Tryz.func134 rfl Tryz.ntmps134 rfl (fun X => ?_)
  exact wke
set_option maxRecDepth 100000 in
set_option maxHeartbeats 8000000 in
theorem from_f (n : Nat) : PCall Tryz.prog 134 [pdJ (.flt n)] (qV (unJ (.flt n))) := by
  refine pcall_X ?_
  unfold dvX unJ gv qV
  refine pcall_of_run Tryz.func134 rfl Tryz.ntmps134 rfl (fun X => ?_)
  exact wke
set_option maxRecDepth 100000 in
set_option maxHeartbeats 8000000 in
theorem from_s (n : ByteArray) : PCall Tryz.prog 134 [pdJ (.str n)] (qV (unJ (.str n))) := by
  refine pcall_X ?_
  unfold dvX unJ gv qV
  refine pcall_of_run Tryz.func134 rfl Tryz.ntmps134 rfl (fun X => ?_)
  exact wke
set_option maxRecDepth 100000 in
set_option maxHeartbeats 8000000 in
theorem from_l (l : List JV) (ih : ∀ y ∈ l, PCall Tryz.prog 134 [pdJ y] (qV (unJ y))) : PCall Tryz.prog 134 [pdJ (.list l)] (qV (unJ (.list l))) := by
  refine PCall.ex fun w F vs hv => ?_
  have hl : l.length * 88 ≤ 140737488351232 := by
    unfold Reps at hv
    obtain ⟨v, r, _, h, _⟩ := hv
    unfold pdJ Rep at h
    have h := h.2
    unfold JOk at h
    exact h.1
  clear hv
  refine pcall_X ?_
  have e : unJ (.list l) = .mk 5 0 0 ByteArray.empty [] (unJs l) := by unfold unJ; rfl
  rw [e]
  unfold dvX
  refine pcall_of_run Tryz.func134 rfl Tryz.ntmps134 rfl (fun X => ?_)
  refine wk ?_
  refine run_nilOwnB 8 5 100 27 6 88 rfl rfl rfl ?_
  refine run_loopS (ι := { k : Nat // k ≤ l.length })
    (fun k => [(2, .ptr 2 0), (8, .ptr 8 0), (41, .dat (dvLs l)), (42, .dat (.val (.int .i64 (l.length : Nat)))), (43, .dat (.val (.int .i64 (k.1 : Nat))))])
    (fun k => [(2, .box 27 (cellsD (qV gNull))), (8, .box 27 [.dat (.val (.int .i64 5)), .dat (.val (.int .i64 0)), .dat (.val (.float .f64 0)), .dat (.val (.string ⟨#[]⟩)), .dat (.val (.slice none 0 0)), .own 100]), (100, .row 27 6 88 ((l.take k.1).map fun x => qV (unJ x)))]) (fun k => l.length - k.1) ⟨0, Nat.zero_le _⟩ id ?_ ?_
  · exact sb
  rintro ⟨k, hk⟩
  by_cases hlt : k < l.length
  · have hc : decide ((k : Int) < ((l.length : Nat) : Int)) = true := decide_eq_true (by omega)
    obtain ⟨x, hx⟩ : ∃ x, l[k]? = some x := ⟨_, List.getElem?_eq_getElem hlt⟩
    have c := ih x (List.mem_of_getElem? hx)
    have hbt : (((l.take k).map fun x => qV (unJ x)).length + [qV (unJ x)].length) * 88 ≤ 140737488351232 := by simp; omega
    have hbl : ((l.take k).map fun x => qV (unJ x)).length + [qV (unJ x)].length ≤ 140737488351232 := by simp; omega
    have e : ((l.take (k + 1)).map fun x => qV (unJ x)) = ((l.take k).map fun x => qV (unJ x)) ++ [qV (unJ x)] := by simp [List.take_add_one, hx]
    generalize ((l.take k).map fun x => qV (unJ x)) = da at *
    unfold qV at *
    refine wk ?_
    refine run_again ?_
    refine ⟨⟨k + 1, by omega⟩, (fun j => if j = 100 then 52 else j), by simp only; omega, ?_⟩
    rw [e]
    exact sb
  · have hc : decide ((k : Int) < ((l.length : Nat) : Int)) = false := decide_eq_false (by omega)
    have hkk : l.take k = l := List.take_of_length_le (by omega)
    simp only [hkk]
    refine wk ?_
    refine run_frz (fun _ => false) (fun k => k == 100) ?_
    have e : pdVs (unJs l) = l.map fun x => qV (unJ x) := by rw [pdVs_eq, unJs_map, List.map_map]; exact List.map_congr_left fun x _ => pdV_q _
    unfold qV
    simp only [GV.kind, GV.n, GV.f, GV.s, GV.keys, GV.l]
    rw [e]
    exact wke
set_option maxRecDepth 100000 in
set_option maxHeartbeats 8000000 in
theorem from_m (m : List (ByteArray × JV)) (ih : ∀ y ∈ m, PCall Tryz.prog 134 [pdJ y.2] (qV (unJ y.2))) : PCall Tryz.prog 134 [pdJ (.map m)] (qV (unJ (.map m))) := by
  refine PCall.ex fun w F vs hv => ?_
  obtain ⟨hd, hl⟩ : (m.map (·.1)).Nodup ∧ m.length * 88 ≤ 140737488351232 := by
    unfold Reps at hv
    obtain ⟨v, r, _, h, _⟩ := hv
    unfold pdJ Rep at h
    have h := h.2
    unfold JOk at h
    exact ⟨h.1, h.2.1⟩
  clear hv
  refine pcall_X ?_
  have c0 := sortedKeys_q m
  have hi := srtB_incr (m.map (·.1))
  have hm := srtB_mem (m.map (·.1))
  rw [unM_sorted hd hi hm]
  generalize hks : srtB (m.map (·.1)) = ks at *
  have hkl : ks.length = m.length := by
    have := ((List.perm_ext_iff_of_nodup (incr_nodup hi) hd).2 hm).length_eq
    simpa using this
  have n1 := pdS_len ks
  have e0 : ∀ k, (valsOf m (ks.take k)) = (ks.take k).map fun k => unJ ((getA m k).getD .null) := fun _ => rfl
  unfold dvX
  refine pcall_of_run Tryz.func134 rfl Tryz.ntmps134 rfl (fun X => ?_)
  refine wk ?_
  refine run_nilOwnB 12 5 100 27 6 88 rfl rfl rfl ?_
  refine run_loopS (ι := { k : Nat // k ≤ ks.length })
    (fun k => [(2, .ptr 2 0), (11, .dat (dvMm m)), (12, .ptr 12 0), (64, .dat (.sl 1 16 (pdS ks))), (65, .dat (.val (.int .i64 ((pdS ks).length : Nat)))), (66, .dat (.val (.int .i64 (k.1 : Nat))))])
    (fun k => [(2, .box 27 (cellsD (qV gNull))), (12, .box 27 [.dat (.val (.int .i64 6)), .dat (.val (.int .i64 0)), .dat (.val (.float .f64 0)), .dat (.val (.string ⟨#[]⟩)), .dat (.sl 1 16 (pdS ks)), .own 100]), (100, .row 27 6 88 ((ks.take k.1).map fun k => qV (unJ ((getA m k).getD .null))))]) (fun k => ks.length - k.1) ⟨0, Nat.zero_le _⟩ id ?_ ?_
  · exact sb
  rintro ⟨k, hk⟩
  by_cases hlt : k < ks.length
  · have hc : decide ((k : Int) < (((pdS ks).length : Nat) : Int)) = true := decide_eq_true (by omega)
    obtain ⟨key, hx⟩ : ∃ x, ks[k]? = some x := ⟨_, List.getElem?_eq_getElem hlt⟩
    have i1 : (pdS ks)[((k : Nat) : Int).toNat]? = some (.val (.string key)) := pdS_at hx
    obtain ⟨j, hj1, hj2, hj3⟩ := lk_mem ((hm key).1 (List.mem_of_getElem? hx))
    have c := ih (key, j) hj3
    have e : ((ks.take (k + 1)).map fun k => qV (unJ ((getA m k).getD .null))) = ((ks.take k).map fun k => qV (unJ ((getA m k).getD .null))) ++ [qV (unJ j)] := by simp [List.take_add_one, hx, hj2]
    have hbt : (((ks.take k).map fun k => qV (unJ ((getA m k).getD .null))).length + [qV (unJ j)].length) * 88 ≤ 140737488351232 := by simp; omega
    have hbl : ((ks.take k).map fun k => qV (unJ ((getA m k).getD .null))).length + [qV (unJ j)].length ≤ 140737488351232 := by simp; omega
    generalize ((ks.take k).map fun k => qV (unJ ((getA m k).getD .null))) = da at *
    unfold qV at *
    refine wk ?_
    refine x_of (d_lookM1 rfl rfl rfl hj1) ?_
    refine wk ?_
    refine run_again ?_
    refine ⟨⟨k + 1, by omega⟩, (fun j => if j = 100 then 77 else j), by simp only; omega, ?_⟩
    rw [e]
    exact sb
  · have hc : decide ((k : Int) < (((pdS ks).length : Nat) : Int)) = false := decide_eq_false (by omega)
    have hkk : ks.take k = ks := List.take_of_length_le (by omega)
    simp only [hkk]
    refine wk ?_
    refine run_frz (fun _ => false) (fun k => k == 100) ?_
    have e : pdVs (valsOf m ks) = ks.map fun k => qV (unJ ((getA m k).getD .null)) := by rw [pdVs_eq]; unfold valsOf; rw [List.map_map]; exact List.map_congr_left fun x _ => pdV_q _
    unfold qV
    simp only [GV.kind, GV.n, GV.f, GV.s, GV.keys, GV.l]
    rw [e]
    exact wke
theorem fromTree_p : ∀ (j : JV), PCall Tryz.prog 134 [pdJ j] (qV (unJ j))
  | .null => from_n
  | .bool b => from_b b
  | .int n => from_i n
  | .flt n => from_f n
  | .str s => from_s s
  | .list l => from_l l fun y _ => fromTree_p y
  | .map m => from_m m fun y hy => by
    have : SizeOf.sizeOf y.2 < 1 + SizeOf.sizeOf m := by
      have h1 := List.sizeOf_lt_of_mem hy
      have h2 : SizeOf.sizeOf y.2 < SizeOf.sizeOf y := by obtain ⟨a, b⟩ := y; simp; omega
      omega
    exact fromTree_p y.2
end Go.Proofs.YtgmahieoiifpfaaGreat
end
section
namespace Go.Proofs.YtgmahieoiifpfaaGreat
theorem insL_mem {α : Type} {ks : List ByteArray} {l : List α} {k : ByteArray} {x y : α} (h : y ∈ insL ks l k x) : y = x ∨ y ∈ l := by
  unfold insL at h
  simp only [List.mem_append, List.mem_cons, List.not_mem_nil, or_false] at h
  rcases h with (h | h) | h
  · exact .inr (List.mem_of_mem_take h)
  · exact .inl h
  · exact .inr (List.mem_of_mem_drop h)
theorem withF_mem {m x y : GV} {k : ByteArray} (h : y ∈ (withF m k x).l) : y = x ∨ y ∈ m.l := by
  unfold withF at h
  exact insL_mem h
theorem cleanM_mem : ∀ (ks : List ByteArray) (l : List GV) (acc y : GV), y ∈ (cleanM ks l acc).l → (∃ z ∈ l, y = cleanV z) ∨ y ∈ acc.l
  | [], l, acc, y, h => by simp only [cleanM] at h; exact .inr h
  | _ :: _, [], acc, y, h => by simp only [cleanM] at h; exact .inr h
  | k :: ks, x :: l, acc, y, h => by
    simp only [cleanM] at h
    rcases cleanM_mem ks l _ y h with ⟨z, hz, e⟩ | h
    · exact .inl ⟨z, by simp [hz], e⟩
    · rcases withF_mem h with e | h
      · exact .inl ⟨x, by simp, e⟩
      · exact .inr h
theorem getF_cleanM : ∀ (ks : List ByteArray) (l : List GV) (acc : GV), Plain acc → ks.Nodup → ∀ k, getF (cleanM ks l acc) k = ((getA (ks.zip l) k).map cleanV).or (getF acc k)
  | [], l, acc, h, _, k => by simp [cleanM, getA]
  | _ :: _, [], acc, h, _, k => by simp [cleanM, getA]
  | a :: ks, x :: l, acc, h, hd, k => by
    simp only [List.nodup_cons] at hd
    simp only [cleanM]
    rw [getF_cleanM ks l _ (withF_plain h _ _) hd.2, getF_with h]
    simp only [List.zip_cons_cons, getA]
    by_cases e : a = k
    · have : getA (ks.zip l) k = none := getA_none fun y hy hyk => hd.1 (by rw [e, ← hyk]; exact (List.of_mem_zip (a := y.1) (b := y.2) hy).1)
      rw [if_pos e, if_pos e, this]; simp
    · rw [if_neg e, if_neg e]
theorem getA_map {α : Type} {f : α → α} : ∀ (a : List (ByteArray × α)) (k : ByteArray), (∀ e ∈ a, f e.2 = e.2) → (getA a k).map f = getA a k
  | [], k, _ => rfl
  | e :: r, k, h => by
    simp only [getA]
    split
    · simp [h e (by simp)]
    · exact getA_map r k fun x hx => h x (by simp [hx])
theorem cleanM_fix {g : GV} (hg : Plain g) (h : ∀ y ∈ g.l, cleanV y = y) : cleanM g.keys g.l gMap = g := by
  refine plain_ext (cleanM_plain _ _ _ gMap_plain).1 hg fun k => ?_
  obtain ⟨ks, l, rfl, hi, hl⟩ := hg
  simp only [GV.keys, GV.l] at h ⊢
  rw [getF_cleanM _ _ _ gMap_plain (incr_nodup hi)]
  rw [getA_map _ _ (fun e he => h e.2 (List.of_mem_zip (a := e.1) (b := e.2) he).2)]
  rw [getF_gMap, Option.or_none]
  rfl
theorem cleanL_fix : ∀ (l : List GV), (∀ y ∈ l, cleanV (cleanV y) = cleanV y) → cleanL (cleanL l) = cleanL l
  | [], _ => by simp [cleanL]
  | x :: l, h => by
    simp only [cleanL]
    rw [h x (by simp), cleanL_fix l fun y hy => h y (by simp [hy])]
theorem cleanV_idem : ∀ x : GV, cleanV (cleanV x) = cleanV x
  | .mk k n f s ks l => by
    have ih : ∀ y ∈ l, cleanV (cleanV y) = cleanV y := fun y hy => cleanV_idem y
    by_cases h1 : k = 1
    · subst h1; by_cases hn : n = 0 <;> simp [cleanV, hn]
    by_cases h2 : k = 2
    · subst h2; simp [cleanV]
    by_cases h3 : k = 3
    · subst h3; simp [cleanV]
    by_cases h4 : k = 4
    · subst h4; simp [cleanV]
    by_cases h5 : k = 5
    · subst h5; simp [cleanV, cleanL_fix l ih]
    by_cases h6 : k = 6
    · subst h6
      have e : cleanV (.mk 6 n f s ks l) = cleanM ks l gMap := by simp [cleanV, gMap]
      rw [e]
      have hp := (cleanM_plain ks l gMap gMap_plain).1
      have hfix := cleanM_fix hp (fun y hy => by
        rcases cleanM_mem ks l gMap y hy with ⟨z, hz, rfl⟩ | hy
        · exact ih z hz
        · simp [gMap, GV.l] at hy)
      obtain ⟨ks', l', e', _, _⟩ := hp
      rw [e'] at hfix ⊢
      simpa [cleanV, gMap, GV.keys, GV.l] using hfix
    · simp [cleanV, h1, h2, h3, h4, h5, h6, gNull]
termination_by x => SizeOf.sizeOf x
decreasing_by
  have := List.sizeOf_lt_of_mem hy
  simp; omega
end Go.Proofs.YtgmahieoiifpfaaGreat
end
section
set_option linter.unusedVariables false
namespace Go.Proofs.YtgmahieoiifpfaaGreat
open Go.RowKit
set_option linter.unusedSimpArgs false
theorem ordVals_q (l : List GV) : PCall Tryz.prog 94 [.sl 6 88 (pdVs l)] (.val (.bool (ordL l))) := by
  intro w F vs hF hv
  unfold Reps at hv
  obtain ⟨v, r', rfl, hx, hr⟩ := hv
  unfold Reps at hr
  subst hr
  unfold Rep at hx
  rw [pdVs_len] at hx
  obtain ⟨a, c, rfl, h1, h2, h3, h4⟩ := hx
  refine (ordVals_any l w a c h2 ?_).mono ?_
  · rcases h4 with h4 | ⟨b, o, hb, rfl, hr⟩
    · left
      cases l with
      | nil => rfl
      | cons _ _ => unfold pdVs at h4; cases h4
    · exact .inr ⟨b, o, ⟨Nat.zero_le _, hF b hb⟩, rfl, IsVs.keep (fun _ _ => rfl) (fun b hb => ⟨Nat.zero_le _, hF b hb⟩) l b o hb (repL_isVs l hr)⟩
  · rintro e w' ⟨he, hb⟩
    exact ⟨_, he, hb, by unfold Rep; exact ⟨rfl, trivial⟩⟩
end Go.Proofs.YtgmahieoiifpfaaGreat
end
section
set_option linter.unusedVariables false
namespace Go.Proofs.YtgmahieoiifpfaaGreat
open Go.RowKit
set_option linter.unusedSimpArgs false
section
variable {P : Program} {X : Base} {N : Nat} {Q : Exit → Act → World → Prop} {ops : Array Oper} {rem : List Nat} {ks : List Itm} {s s' : Sta}
/-- min(n, m) -/
theorem op_minN {o : Oper} (hd : dstOk X.N o.dst = true) {x y : Operand} {ts : Array TypeId} (ho : o.op = .call { callee := .builtin .min, args := #[x, y], argTypes := ts }) {p q : Nat} (hx : s.ev x = .dat (.val (.int .i64 ((p : Nat) : Int)))) (hy : s.ev y = .dat (.val (.int .i64 ((q : Nat) : Int)))) :
    OpS P X o s (s.put o.dst (.dat (.val (.int .i64 ((min p q : Nat) : Int))))) := by
  refine opS_value hd fun a w ρ hc => ⟨.int .i64 ((min p q : Nat) : Int), ?_, ?_⟩
  · have h1 := hc.ev x
    have h2 := hc.ev y
    rw [hx] at h1
    rw [hy] at h2
    unfold VR Rep at h1 h2
    have e : (if (q : Int) < (p : Int) then (q : Int) else (p : Int)) = ((min p q : Nat) : Int) := by split <;> omega
    simp only [execOp, ho, resolve, invoke, builtin, h1.1, h2.1, List.map_toArray, List.map_cons, List.map_nil, Sem.run_bind, Sem.run_pure, Result.andThen_ok, run_min_int2, e]
  · unfold VR Rep
    refine ⟨rfl, ?_⟩
    have h1 := hc.ev x
    have h2 := hc.ev y
    rw [hx] at h1
    rw [hy] at h2
    unfold VR Rep at h1 h2
    have : min p q = p ∨ min p q = q := by omega
    rcases this with h | h <;> rw [h]
    · exact h1.2
    · exact h2.2
theorem k_minN {d p q : Nat} {x y : Operand} {ts : Array TypeId} (hN : Nat.blt d N = true) (hx : s.ev x = .dat (.val (.int .i64 ((p : Nat) : Int)))) (hy : s.ev y = .dat (.val (.int .i64 ((q : Nat) : Int)))) (h : Run P X N Q (.ops ops rem :: ks) (s.put (some d) (.dat (.val (.int .i64 ((min p q : Nat) : Int)))))) :
    RunK P X N Q ops rem ks (some d) (.call { callee := .builtin .min, args := #[x, y], argTypes := ts }) s := k_of hN (fun _ _ _ hd => op_minN hd rfl hx hy) h
theorem d_minN {ops : List Oper} {d p q : Nat} {x y : Operand} {ts : Array TypeId} (hN : Nat.blt d N = true) (hx : s.ev x = .dat (.val (.int .i64 ((p : Nat) : Int)))) (hy : s.ev y = .dat (.val (.int .i64 ((q : Nat) : Int)))) :
    TrK P X N ops (some d) (.call { callee := .builtin .min, args := #[x, y], argTypes := ts }) (Eff.put (some d) (.dat (.val (.int .i64 ((min p q : Nat) : Int))))) s (s.put (some d) (.dat (.val (.int .i64 ((min p q : Nat) : Int))))) := act_val hN fun s' _ _ _ _ hd hev htb => op_minN hd rfl ((hev x (by simp [Op.operands, Call.operands])).trans hx) ((hev y (by simp [Op.operands, Call.operands])).trans hy)
end
theorem elemRank_p (x : EV) : PCall Tryz.prog 73 [pdE x] (.val (.int .i64 (rkE x))) := by
  obtain ⟨k, s, ks, l, v, n⟩ := x
  unfold pdE rkE
  simp only
  refine pcall_of_run Tryz.func73 rfl Tryz.ntmps73 rfl (fun X => ?_)
  by_cases h1 : k = 1
  · have g1 : decide (k = 1) = true := decide_eq_true h1
    rw [if_pos h1]
    repeat' (first
    | refine run_seq ?_
    | (refine k_pick rfl ?_; first | refine k_assignD rfl rfl ?_ | refine k_moveD rfl rfl ?_ | refine k_fieldAddrB rfl rfl rfl ?_ | refine k_loadBD rfl rfl rfl (by first | rfl | (simp only [cellsD]; rfl)) ?_ | refine k_bin2B rfl rfl rfl rfl ?_ | refine k_pickT rfl rfl (by first | rfl | assumption) rfl ?_ | refine k_boxW rfl rfl rfl (by first | rfl | (simp only [cellsD]; rfl)) ?_)
    | refine run_opsEnd ?_
    | refine run_region ?_
    | refine run_condT rfl (by first | rfl | assumption) ?_
    | refine k_guardNF rfl rfl (by first | rfl | assumption) rfl ?_
    | refine run_retOk (resOk_tmp rfl rfl ?_)
    | fail)
    all_goals exact PLe.of_eq (by rw [h1])
  have g1 : decide (k = 1) = false := decide_eq_false h1
  rw [if_neg h1]
  by_cases h2 : k = 2
  · have g2 : decide (k = 2) = true := decide_eq_true h2
    rw [if_pos h2]
    repeat' (first
    | refine run_seq ?_
    | (refine k_pick rfl ?_; first | refine k_assignD rfl rfl ?_ | refine k_moveD rfl rfl ?_ | refine k_fieldAddrB rfl rfl rfl ?_ | refine k_loadBD rfl rfl rfl (by first | rfl | (simp only [cellsD]; rfl)) ?_ | refine k_bin2B rfl rfl rfl rfl ?_ | refine k_pickT rfl rfl (by first | rfl | assumption) rfl ?_ | refine k_pickF rfl rfl (by first | rfl | assumption) rfl ?_ | refine k_boxW rfl rfl rfl (by first | rfl | (simp only [cellsD]; rfl)) ?_)
    | refine run_opsEnd ?_
    | refine run_region ?_
    | refine run_condT rfl (by first | rfl | assumption) ?_
    | (refine k_guardY rfl rfl (by first | rfl | assumption) ?_; first | refine k_fieldAddrB rfl rfl rfl ?_ | refine k_loadBD rfl rfl rfl (by first | rfl | (simp only [cellsD]; rfl)) ?_ | refine k_bin2B rfl rfl rfl rfl ?_)
    | refine k_guardNF rfl rfl (by first | rfl | assumption) rfl ?_
    | refine run_retOk (resOk_tmp rfl rfl ?_)
    | fail)
    all_goals exact PLe.of_eq (by rw [h2])
  have g2 : decide (k = 2) = false := decide_eq_false h2
  rw [if_neg h2]
  by_cases h3 : k = 3
  · have g3 : decide (k = 3) = true := decide_eq_true h3
    rw [if_pos h3]
    repeat' (first
    | refine run_seq ?_
    | (refine k_pick rfl ?_; first | refine k_assignD rfl rfl ?_ | refine k_moveD rfl rfl ?_ | refine k_fieldAddrB rfl rfl rfl ?_ | refine k_loadBD rfl rfl rfl (by first | rfl | (simp only [cellsD]; rfl)) ?_ | refine k_bin2B rfl rfl rfl rfl ?_ | refine k_pickF rfl rfl (by first | rfl | assumption) rfl ?_ | refine k_boxW rfl rfl rfl (by first | rfl | (simp only [cellsD]; rfl)) ?_)
    | refine run_opsEnd ?_
    | refine run_region ?_
    | refine run_condT rfl (by first | rfl | assumption) ?_
    | (refine k_guardY rfl rfl (by first | rfl | assumption) ?_; first | refine k_fieldAddrB rfl rfl rfl ?_ | refine k_loadBD rfl rfl rfl (by first | rfl | (simp only [cellsD]; rfl)) ?_ | refine k_bin2B rfl rfl rfl rfl ?_)
    | refine run_retOk (resOk_tmp rfl rfl ?_)
    | fail)
    all_goals exact PLe.of_eq (by rw [h3])
  have g3 : decide (k = 3) = false := decide_eq_false h3
  rw [if_neg h3]
  repeat' (first
    | refine run_seq ?_
    | (refine k_pick rfl ?_; first | refine k_assignD rfl rfl ?_ | refine k_moveD rfl rfl ?_ | refine k_fieldAddrB rfl rfl rfl ?_ | refine k_loadBD rfl rfl rfl (by first | rfl | (simp only [cellsD]; rfl)) ?_ | refine k_bin2B rfl rfl rfl rfl ?_ | refine k_pickF rfl rfl (by first | rfl | assumption) rfl ?_ | refine k_boxW rfl rfl rfl (by first | rfl | (simp only [cellsD]; rfl)) ?_)
    | refine run_opsEnd ?_
    | refine run_region ?_
    | refine run_condF rfl (by first | rfl | assumption) ?_
    | (refine k_guardY rfl rfl (by first | rfl | assumption) ?_; first | refine k_fieldAddrB rfl rfl rfl ?_ | refine k_loadBD rfl rfl rfl (by first | rfl | (simp only [cellsD]; rfl)) ?_ | refine k_bin2B rfl rfl rfl rfl ?_)
    | refine run_skip ?_
    | refine run_retOk (resOk_tmp rfl rfl ?_)
    | fail)
  all_goals exact PLe.refl _
theorem kvE_at {x : EV} {i : Nat} {k : ByteArray} {v : GV} (h1 : x.keys[i]? = some k) (h2 : x.l[i]? = some v) : (kvE x)[i]? = some (k, v) := by
  unfold kvE
  rw [List.getElem?_zip_eq_some]
  exact ⟨h1, h2⟩
theorem kvE_len (x : EV) : (kvE x).length = min x.keys.length x.l.length := by unfold kvE; exact List.length_zip
theorem pdS_i {ks : List ByteArray} {j : Nat} {x : ByteArray} (h : ks[j]? = some x) : (pdS ks)[((j : Nat) : Int).toNat]? = some (.val (.string x)) := pdS_at h
theorem pdVs_i {l : List GV} {j : Nat} {x : GV} (h : l[j]? = some x) : (pdVs l)[((j : Nat) : Int).toNat]? = some (qV x) := by
  rw [show qV x = pdV x from (pdV_eq x).symm]
  exact pdVs_at h
set_option maxHeartbeats 16000000 in
theorem cmpKeys_p (x y : EV) : PCall Tryz.prog 229 [pdE x, pdE y] (.val (.int .i64 (cmpLx cmpKv (kvE x) (kvE y)))) := by
  refine pcall_fits fun hfit => ?_
  have b1 := (Fits.aggAt (hfit (pdE x) (by simp)) 2 (d := .sl 1 16 (pdS x.keys)) rfl).sl.2.1
  rw [pdS_len] at b1
  clear hfit
  have n1 := pdS_len x.keys
  have n2 := pdVs_len x.l
  have n3 := pdS_len y.keys
  have n4 := pdVs_len y.l
  have m1 := kvE_len x
  have m2 := kvE_len y
  have c0 := sInts_p (((kvE x).length : Nat) : Int) (((kvE y).length : Nat) : Int)
  have ez1 : ((min (pdS x.keys).length (pdVs x.l).length : Nat) : Int) = (((kvE x).length : Nat) : Int) := by omega
  have ez2 : ((min (pdS y.keys).length (pdVs y.l).length : Nat) : Int) = (((kvE y).length : Nat) : Int) := by omega
  rw [← ez1, ← ez2] at c0
  refine pcall_of_run Tryz.func229 rfl Tryz.ntmps229 rfl (fun X => ?_)
  repeat' (first
    | refine run_seq ?_
    | (refine k_pick rfl ?_; first | refine k_assignD rfl rfl ?_ | refine k_boxW rfl rfl rfl (by first | rfl | (simp only [pdE, cellsD]; rfl)) ?_)
    | refine run_opsEnd ?_
    | refine run_region ?_
    | refine run_block ?_
    | fail)
  refine run_loopS (ι := { j : Nat // (j ≤ (kvE x).length ∧ j ≤ (kvE y).length) ∧ ∀ i f g, i < j → (kvE x)[i]? = some f → (kvE y)[i]? = some g → cmpKv f g = 0 })
    (fun j => [(2, .ptr 2 0), (3, .ptr 3 0), (5, .dat (.val (.int .i64 (j.1 : Nat))))])
    (fun j => [(2, .box 29 (cellsD (pdE x))), (3, .box 29 (cellsD (pdE y)))]) (fun j => (kvE x).length - j.1) ⟨0, ⟨Nat.zero_le _, Nat.zero_le _⟩, fun i _ _ h => absurd h (Nat.not_lt_zero i)⟩ id ?_ ?_
  · (refine ⟨?_, ?_, by rfl⟩ <;> repeat' (first | exact trivial | exact ALe.ptr rfl | exact ALe.own rfl | exact ALe.elt rfl | exact BLe.boxD _ _ | exact BLe.row rfl | exact BLe.res | exact BLe.dead rfl | exact ALe.dat (PLe.refl _) | exact CLe.nil | refine And.intro ?_ ?_ | refine ALe.iface ?_ | refine ALe.clo ?_ | refine CLe.cons ?_ ?_ | refine BLe.box ?_ | refine BLe.row ?_ | exact ALe.any _ | refine ALe.dat (PLe.of_eq ?_)))
  rintro ⟨j, ⟨hj, hj'⟩, hall⟩
  have hend : j = (kvE x).length ∨ j = (kvE y).length → cmpLx cmpKv (kvE x) (kvE y) = cmpI (((kvE x).length : Nat) : Int) (((kvE y).length : Nat) : Int) := fun h => cmpLx_end hj hj' hall h
  rw [← ez1, ← ez2] at hend
  by_cases h1 : j < x.keys.length
  rotate_left
  · have g1 : decide ((j : Int) < (((pdS x.keys).length : Nat) : Int)) = false := decide_eq_false (by omega)
    rw [hend (by omega)]
    repeat' (first
    | refine run_seq ?_
    | (refine k_pick rfl ?_; first | refine k_minN rfl rfl rfl ?_ | refine k_assignD rfl rfl ?_ | refine k_moveD rfl rfl ?_ | refine k_fieldAddrB rfl rfl rfl ?_ | refine k_loadBD rfl rfl rfl (by first | rfl | (simp only [pdE, cellsD]; rfl)) ?_ | refine k_bin2B rfl rfl rfl rfl ?_ | refine k_pickF rfl rfl (by first | rfl | assumption) rfl ?_ | refine k_call rfl (by kernel_rfl) rfl (by first | exact c0 | (simp only [← pdE]; exact c0)) ?_ | refine k_lenD rfl rfl ?_)
    | refine run_opsEnd ?_
    | refine run_region ?_
    | refine run_condF rfl (by first | rfl | assumption) ?_
    | refine k_guardNT rfl rfl (by first | rfl | assumption) rfl ?_
    | refine run_exit rfl ?_
    | refine run_retOk (resOk_tmp rfl rfl ?_)
    | fail)
    all_goals exact PLe.refl _
  have g1 : decide ((j : Int) < (((pdS x.keys).length : Nat) : Int)) = true := decide_eq_true (by omega)
  by_cases h2 : j < x.l.length
  rotate_left
  · have g2 : decide ((j : Int) < (((pdVs x.l).length : Nat) : Int)) = false := decide_eq_false (by omega)
    rw [hend (by omega)]
    repeat' (first
    | refine run_seq ?_
    | (refine k_pick rfl ?_; first | refine k_minN rfl rfl rfl ?_ | refine k_assignD rfl rfl ?_ | refine k_moveD rfl rfl ?_ | refine k_fieldAddrB rfl rfl rfl ?_ | refine k_loadBD rfl rfl rfl (by first | rfl | (simp only [pdE, cellsD]; rfl)) ?_ | refine k_bin2B rfl rfl rfl rfl ?_ | refine k_pickT rfl rfl (by first | rfl | assumption) rfl ?_ | refine k_pickF rfl rfl (by first | rfl | assumption) rfl ?_ | refine k_call rfl (by kernel_rfl) rfl (by first | exact c0 | (simp only [← pdE]; exact c0)) ?_ | refine k_lenD rfl rfl ?_)
    | refine run_opsEnd ?_
    | refine run_region ?_
    | refine run_condF rfl (by first | rfl | assumption) ?_
    | (refine k_guardY rfl rfl (by first | rfl | assumption) ?_; first | refine k_moveD rfl rfl ?_ | refine k_fieldAddrB rfl rfl rfl ?_ | refine k_loadBD rfl rfl rfl (by first | rfl | (simp only [pdE, cellsD]; rfl)) ?_ | refine k_bin2B rfl rfl rfl rfl ?_ | refine k_lenD rfl rfl ?_)
    | refine k_guardNT rfl rfl (by first | rfl | assumption) rfl ?_
    | refine run_exit rfl ?_
    | refine run_retOk (resOk_tmp rfl rfl ?_)
    | fail)
    all_goals exact PLe.refl _
  have g2 : decide ((j : Int) < (((pdVs x.l).length : Nat) : Int)) = true := decide_eq_true (by omega)
  by_cases h3 : j < y.keys.length
  rotate_left
  · have g3 : decide ((j : Int) < (((pdS y.keys).length : Nat) : Int)) = false := decide_eq_false (by omega)
    rw [hend (by omega)]
    repeat' (first
    | refine run_seq ?_
    | (refine k_pick rfl ?_; first | refine k_minN rfl rfl rfl ?_ | refine k_assignD rfl rfl ?_ | refine k_moveD rfl rfl ?_ | refine k_fieldAddrB rfl rfl rfl ?_ | refine k_loadBD rfl rfl rfl (by first | rfl | (simp only [pdE, cellsD]; rfl)) ?_ | refine k_bin2B rfl rfl rfl rfl ?_ | refine k_pickT rfl rfl (by first | rfl | assumption) rfl ?_ | refine k_pickF rfl rfl (by first | rfl | assumption) rfl ?_ | refine k_call rfl (by kernel_rfl) rfl (by first | exact c0 | (simp only [← pdE]; exact c0)) ?_ | refine k_lenD rfl rfl ?_)
    | refine run_opsEnd ?_
    | refine run_region ?_
    | refine run_condF rfl (by first | rfl | assumption) ?_
    | (refine k_guardY rfl rfl (by first | rfl | assumption) ?_; first | refine k_moveD rfl rfl ?_ | refine k_fieldAddrB rfl rfl rfl ?_ | refine k_loadBD rfl rfl rfl (by first | rfl | (simp only [pdE, cellsD]; rfl)) ?_ | refine k_bin2B rfl rfl rfl rfl ?_ | refine k_lenD rfl rfl ?_)
    | refine k_guardNT rfl rfl (by first | rfl | assumption) rfl ?_
    | refine run_exit rfl ?_
    | refine run_retOk (resOk_tmp rfl rfl ?_)
    | fail)
    all_goals exact PLe.refl _
  have g3 : decide ((j : Int) < (((pdS y.keys).length : Nat) : Int)) = true := decide_eq_true (by omega)
  by_cases h4 : j < y.l.length
  rotate_left
  · have g4 : decide ((j : Int) < (((pdVs y.l).length : Nat) : Int)) = false := decide_eq_false (by omega)
    rw [hend (by omega)]
    repeat' (first
    | refine run_seq ?_
    | (refine k_pick rfl ?_; first | refine k_minN rfl rfl rfl ?_ | refine k_assignD rfl rfl ?_ | refine k_moveD rfl rfl ?_ | refine k_fieldAddrB rfl rfl rfl ?_ | refine k_loadBD rfl rfl rfl (by first | rfl | (simp only [pdE, cellsD]; rfl)) ?_ | refine k_bin2B rfl rfl rfl rfl ?_ | refine k_pickT rfl rfl (by first | rfl | assumption) rfl ?_ | refine k_call rfl (by kernel_rfl) rfl (by first | exact c0 | (simp only [← pdE]; exact c0)) ?_ | refine k_lenD rfl rfl ?_)
    | refine run_opsEnd ?_
    | refine run_region ?_
    | refine run_condF rfl (by first | rfl | assumption) ?_
    | (refine k_guardY rfl rfl (by first | rfl | assumption) ?_; first | refine k_moveD rfl rfl ?_ | refine k_fieldAddrB rfl rfl rfl ?_ | refine k_loadBD rfl rfl rfl (by first | rfl | (simp only [pdE, cellsD]; rfl)) ?_ | refine k_bin2B rfl rfl rfl rfl ?_ | refine k_lenD rfl rfl ?_)
    | refine run_exit rfl ?_
    | refine run_retOk (resOk_tmp rfl rfl ?_)
    | fail)
    all_goals exact PLe.refl _
  have g4 : decide ((j : Int) < (((pdVs y.l).length : Nat) : Int)) = true := decide_eq_true (by omega)
  obtain ⟨f1, hf1⟩ : ∃ u, x.keys[j]? = some u := ⟨_, List.getElem?_eq_getElem h1⟩
  obtain ⟨f2, hf2⟩ : ∃ u, x.l[j]? = some u := ⟨_, List.getElem?_eq_getElem h2⟩
  obtain ⟨u1, hu1⟩ : ∃ u, y.keys[j]? = some u := ⟨_, List.getElem?_eq_getElem h3⟩
  obtain ⟨u2, hu2⟩ : ∃ u, y.l[j]? = some u := ⟨_, List.getElem?_eq_getElem h4⟩
  have i1 := pdS_i hf1
  have i2 := pdVs_i hf2
  have i3 := pdS_i hu1
  have i4 := pdVs_i hu2
  have c1 := sStrs_p f1 u1
  have c2 := sCmpVals_p f2 u2
  have hx := kvE_at hf1 hf2
  have hy := kvE_at hu1 hu2
  by_cases hs : cmpS f1 u1 = 0
  · have g5 : decide (cmpS f1 u1 ≠ 0) = false := decide_eq_false (by simp [hs])
    by_cases hv : cmpP (cleanV f2) (cleanV u2) = 0
    · have g6 : decide (cmpP (cleanV f2) (cleanV u2) ≠ 0) = false := decide_eq_false (by simp [hv])
      repeat' (first
    | refine run_seq ?_
    | (refine k_pick rfl ?_; first | refine k_assignD rfl rfl ?_ | refine k_moveD rfl rfl ?_ | refine k_fieldAddrB rfl rfl rfl ?_ | refine k_loadBD rfl rfl rfl (by first | rfl | (simp only [pdE, cellsD]; rfl)) ?_ | refine k_bin2B rfl rfl rfl rfl ?_ | refine k_pickT rfl rfl (by first | rfl | assumption) rfl ?_ | refine k_lenD rfl rfl ?_ | refine k_ariI rfl rfl rfl rfl (by first | omega | (dsimp only; omega)) ?_)
    | refine run_opsEnd ?_
    | refine run_region ?_
    | refine run_condT rfl (by first | rfl | assumption) ?_
    | refine run_condF rfl (by first | rfl | assumption) ?_
    | (refine k_guardY rfl rfl (by first | rfl | assumption) ?_; first | refine k_moveD rfl rfl ?_ | refine k_fieldAddrB rfl rfl rfl ?_ | refine k_loadBD rfl rfl rfl (by first | rfl | (simp only [pdE, cellsD]; rfl)) ?_ | refine k_bin2B rfl rfl rfl rfl ?_ | refine k_lenD rfl rfl ?_)
    | refine run_block ?_
    | refine run_blkEnd ?_
    | refine run_skip ?_
    | refine run_drawC (by kernel_rfl) ?_
    | refine c_nil (And.intro (by kernel_rfl) ?_)
    | refine c_pick (d_indexAddrD rfl rfl rfl (by first | omega | (dsimp only; omega)) (by assumption)) ?_
    | refine c_pick (d_assignD rfl rfl) ?_
    | refine c_pick (d_moveD rfl rfl) ?_
    | refine c_pick (d_fieldAddrB rfl rfl rfl) ?_
    | refine c_pick (d_loadBD rfl rfl rfl (by first | rfl | (simp only [pdE, cellsD]; rfl))) ?_
    | refine c_pick (d_call rfl (by kernel_rfl) rfl (by first | exact c0 | (simp only [← pdE]; exact c0) | exact c1 | (simp only [← pdE]; exact c1) | exact c2 | (simp only [← pdE]; exact c2))) ?_
    | refine c_pick (d_loadD rfl rfl (by first | rfl | (simp only [pdE, cellsD]; rfl))) ?_
    | fail)
      refine run_again ?_
      refine ⟨⟨j + 1, ⟨by omega, by omega⟩, fun i f g hi hf hg => ?_⟩, id, by simp only; omega, ?_⟩
      · by_cases e : i = j
        · subst e
          rw [hx] at hf; rw [hy] at hg
          cases hf; cases hg
          unfold cmpKv
          rw [lx_zero hs, hv]
        · exact hall i f g (by omega) hf hg
      (refine ⟨?_, ?_, by rfl⟩ <;> repeat' (first | exact trivial | exact ALe.ptr rfl | exact ALe.own rfl | exact ALe.elt rfl | exact BLe.boxD _ _ | exact BLe.row rfl | exact BLe.res | exact BLe.dead rfl | exact ALe.dat (PLe.refl _) | exact CLe.nil | refine And.intro ?_ ?_ | refine ALe.iface ?_ | refine ALe.clo ?_ | refine CLe.cons ?_ ?_ | refine BLe.box ?_ | refine BLe.row ?_ | exact ALe.any _ | refine ALe.dat (PLe.of_eq ?_)))
    · have g6 : decide (cmpP (cleanV f2) (cleanV u2) ≠ 0) = true := decide_eq_true hv
      have e : cmpKv (f1, f2) (u1, u2) = cmpP (cleanV f2) (cleanV u2) := by unfold cmpKv; rw [lx_zero hs]
      rw [cmpLx_at hall hx hy (by rw [e]; exact hv), e]
      repeat' (first
    | refine run_seq ?_
    | (refine k_pick rfl ?_; first | refine k_assignD rfl rfl ?_ | refine k_moveD rfl rfl ?_ | refine k_fieldAddrB rfl rfl rfl ?_ | refine k_loadBD rfl rfl rfl (by first | rfl | (simp only [pdE, cellsD]; rfl)) ?_ | refine k_bin2B rfl rfl rfl rfl ?_ | refine k_pickT rfl rfl (by first | rfl | assumption) rfl ?_ | refine k_lenD rfl rfl ?_)
    | refine run_opsEnd ?_
    | refine run_region ?_
    | refine run_condT rfl (by first | rfl | assumption) ?_
    | refine run_condF rfl (by first | rfl | assumption) ?_
    | (refine k_guardY rfl rfl (by first | rfl | assumption) ?_; first | refine k_moveD rfl rfl ?_ | refine k_fieldAddrB rfl rfl rfl ?_ | refine k_loadBD rfl rfl rfl (by first | rfl | (simp only [pdE, cellsD]; rfl)) ?_ | refine k_bin2B rfl rfl rfl rfl ?_ | refine k_lenD rfl rfl ?_)
    | refine run_block ?_
    | refine run_skip ?_
    | refine run_retOk (resOk_tmp rfl rfl ?_)
    | refine run_drawC (by kernel_rfl) ?_
    | refine c_nil (And.intro (by kernel_rfl) ?_)
    | refine c_pick (d_indexAddrD rfl rfl rfl (by first | omega | (dsimp only; omega)) (by assumption)) ?_
    | refine c_pick (d_assignD rfl rfl) ?_
    | refine c_pick (d_moveD rfl rfl) ?_
    | refine c_pick (d_fieldAddrB rfl rfl rfl) ?_
    | refine c_pick (d_loadBD rfl rfl rfl (by first | rfl | (simp only [pdE, cellsD]; rfl))) ?_
    | refine c_pick (d_call rfl (by kernel_rfl) rfl (by first | exact c0 | (simp only [← pdE]; exact c0) | exact c1 | (simp only [← pdE]; exact c1) | exact c2 | (simp only [← pdE]; exact c2))) ?_
    | refine c_pick (d_loadD rfl rfl (by first | rfl | (simp only [pdE, cellsD]; rfl))) ?_
    | fail)
      all_goals exact PLe.refl _
  · have g5 : decide (cmpS f1 u1 ≠ 0) = true := decide_eq_true hs
    have e : cmpKv (f1, f2) (u1, u2) = cmpS f1 u1 := by unfold cmpKv; rw [lx_pos hs]
    rw [cmpLx_at hall hx hy (by rw [e]; exact hs), e]
    repeat' (first
    | refine run_seq ?_
    | (refine k_pick rfl ?_; first | refine k_assignD rfl rfl ?_ | refine k_moveD rfl rfl ?_ | refine k_fieldAddrB rfl rfl rfl ?_ | refine k_loadBD rfl rfl rfl (by first | rfl | (simp only [pdE, cellsD]; rfl)) ?_ | refine k_bin2B rfl rfl rfl rfl ?_ | refine k_pickT rfl rfl (by first | rfl | assumption) rfl ?_ | refine k_lenD rfl rfl ?_)
    | refine run_opsEnd ?_
    | refine run_region ?_
    | refine run_condT rfl (by first | rfl | assumption) ?_
    | (refine k_guardY rfl rfl (by first | rfl | assumption) ?_; first | refine k_moveD rfl rfl ?_ | refine k_fieldAddrB rfl rfl rfl ?_ | refine k_loadBD rfl rfl rfl (by first | rfl | (simp only [pdE, cellsD]; rfl)) ?_ | refine k_bin2B rfl rfl rfl rfl ?_ | refine k_lenD rfl rfl ?_)
    | refine run_block ?_
    | refine run_skip ?_
    | refine run_retOk (resOk_tmp rfl rfl ?_)
    | refine run_drawC (by kernel_rfl) ?_
    | refine c_nil (And.intro (by kernel_rfl) ?_)
    | refine c_pick (d_indexAddrD rfl rfl rfl (by first | omega | (dsimp only; omega)) (by assumption)) ?_
    | refine c_pick (d_assignD rfl rfl) ?_
    | refine c_pick (d_moveD rfl rfl) ?_
    | refine c_pick (d_fieldAddrB rfl rfl rfl) ?_
    | refine c_pick (d_loadBD rfl rfl rfl (by first | rfl | (simp only [pdE, cellsD]; rfl))) ?_
    | refine c_pick (d_call rfl (by kernel_rfl) rfl (by first | exact c0 | (simp only [← pdE]; exact c0) | exact c1 | (simp only [← pdE]; exact c1) | exact c2 | (simp only [← pdE]; exact c2))) ?_
    | refine c_pick (d_loadD rfl rfl (by first | rfl | (simp only [pdE, cellsD]; rfl))) ?_
    | fail)
    all_goals exact PLe.refl _
set_option maxHeartbeats 16000000 in
theorem eqKeys_p (x y : EV) : PCall Tryz.prog 74 [pdE x, pdE y] (.val (.bool (eqLx eqKv (kvE x) (kvE y)))) := by
  refine pcall_fits fun hfit => ?_
  have b1 := (Fits.aggAt (hfit (pdE x) (by simp)) 2 (d := .sl 1 16 (pdS x.keys)) rfl).sl.2.1
  rw [pdS_len] at b1
  clear hfit
  have n1 := pdS_len x.keys
  have n2 := pdVs_len x.l
  have n3 := pdS_len y.keys
  have n4 := pdVs_len y.l
  have m1 := kvE_len x
  have m2 := kvE_len y
  obtain ⟨z1, ez1⟩ : ∃ z, z = ((min (pdS x.keys).length (pdVs x.l).length : Nat) : Int) := ⟨_, rfl⟩
  obtain ⟨z2, ez2⟩ : ∃ z, z = ((min (pdS y.keys).length (pdVs y.l).length : Nat) : Int) := ⟨_, rfl⟩
  have hz1 : z1 = (((kvE x).length : Nat) : Int) := by omega
  have hz2 : z2 = (((kvE y).length : Nat) : Int) := by omega
  refine pcall_of_run Tryz.func74 rfl Tryz.ntmps74 rfl (fun X => ?_)
  by_cases hl : (kvE x).length = (kvE y).length
  rotate_left
  · have g1 : decide (((min (pdS x.keys).length (pdVs x.l).length : Nat) : Int) ≠ ((min (pdS y.keys).length (pdVs y.l).length : Nat) : Int)) = true := decide_eq_true (by omega)
    rw [eqLx_len hl]
    repeat' (first
    | refine run_seq ?_
    | (refine k_pick rfl ?_; first | refine k_assignD rfl rfl ?_ | refine k_moveD rfl rfl ?_ | refine k_bin2B rfl rfl rfl rfl ?_ | refine k_boxW rfl rfl rfl (by first | rfl | (simp only [pdE, cellsD]; rfl)) ?_)
    | refine run_opsEnd ?_
    | refine run_region ?_
    | refine run_condT rfl (by first | rfl | assumption) ?_
    | refine run_retOk (resOk_tmp rfl rfl ?_)
    | refine run_drawC (by kernel_rfl) ?_
    | refine c_nil (And.intro (by kernel_rfl) ?_)
    | refine c_pick (d_minN rfl rfl rfl) ?_
    | refine c_pick (d_assignD rfl rfl) ?_
    | refine c_pick (d_fieldAddrB rfl rfl rfl) ?_
    | refine c_pick (d_loadBD rfl rfl rfl (by first | rfl | (simp only [pdE, cellsD]; rfl))) ?_
    | refine c_pick (d_lenD rfl rfl) ?_
    | fail)
    all_goals exact PLe.refl _
  have g1 : decide (((min (pdS x.keys).length (pdVs x.l).length : Nat) : Int) ≠ ((min (pdS y.keys).length (pdVs y.l).length : Nat) : Int)) = false := decide_eq_false (by omega)
  repeat' (first
    | refine run_seq ?_
    | (refine k_pick rfl ?_; first | refine k_assignD rfl rfl ?_ | refine k_moveD rfl rfl ?_ | refine k_bin2B rfl rfl rfl rfl ?_ | refine k_boxW rfl rfl rfl (by first | rfl | (simp only [pdE, cellsD]; rfl)) ?_)
    | refine run_opsEnd ?_
    | refine run_region ?_
    | refine run_condF rfl (by first | rfl | assumption) ?_
    | refine run_block ?_
    | refine run_skip ?_
    | refine run_drawC (by kernel_rfl) ?_
    | refine c_nil (And.intro (by kernel_rfl) ?_)
    | refine c_pick (d_minN rfl rfl rfl) ?_
    | refine c_pick (d_assignD rfl rfl) ?_
    | refine c_pick (d_fieldAddrB rfl rfl rfl) ?_
    | refine c_pick (d_loadBD rfl rfl rfl (by first | rfl | (simp only [pdE, cellsD]; rfl))) ?_
    | refine c_pick (d_lenD rfl rfl) ?_
    | fail)
  refine run_loopS (ι := { j : Nat // j ≤ (kvE x).length ∧ ∀ i f g, i < j → (kvE x)[i]? = some f → (kvE y)[i]? = some g → eqKv f g = true })
    (fun j => [(2, .ptr 2 0), (3, .ptr 3 0), (5, .dat (.val (.int .i64 z1))), (7, .dat (.val (.int .i64 (j.1 : Nat))))])
    (fun j => [(2, .box 29 (cellsD (pdE x))), (3, .box 29 (cellsD (pdE y)))]) (fun j => (kvE x).length - j.1) ⟨0, Nat.zero_le _, fun i _ _ h => absurd h (Nat.not_lt_zero i)⟩ id ?_ ?_
  · (refine ⟨?_, ?_, by rfl⟩ <;> repeat' (first | exact trivial | exact ALe.ptr rfl | exact ALe.own rfl | exact ALe.elt rfl | exact BLe.boxD _ _ | exact BLe.row rfl | exact BLe.res | exact BLe.dead rfl | exact ALe.dat (PLe.refl _) | exact CLe.nil | refine And.intro ?_ ?_ | refine ALe.iface ?_ | refine ALe.clo ?_ | refine CLe.cons ?_ ?_ | refine BLe.box ?_ | refine BLe.row ?_ | exact ALe.any _ | refine ALe.dat (PLe.of_eq ?_)))
    all_goals first | rfl | (rw [ez1])
  rintro ⟨j, hj, hall⟩
  by_cases hlt : j < (kvE x).length
  rotate_left
  · have g2 : decide ((j : Int) < z1) = false := decide_eq_false (by omega)
    rw [eqLx_all hl fun i f g hf hg => hall i f g (by have := (List.getElem?_eq_some_iff.1 hf).1; omega) hf hg]
    repeat' (first
    | refine run_seq ?_
    | (refine k_pick rfl ?_; first | refine k_assignD rfl rfl ?_ | refine k_moveD rfl rfl ?_ | refine k_bin2B rfl rfl rfl rfl ?_)
    | refine run_opsEnd ?_
    | refine run_region ?_
    | refine run_condF rfl (by first | rfl | assumption) ?_
    | refine run_exit rfl ?_
    | refine run_retOk (resOk_tmp rfl rfl ?_)
    | fail)
    all_goals exact PLe.refl _
  have g2 : decide ((j : Int) < z1) = true := decide_eq_true (by omega)
  obtain ⟨f1, hf1⟩ : ∃ u, x.keys[j]? = some u := ⟨_, List.getElem?_eq_getElem (by omega)⟩
  obtain ⟨f2, hf2⟩ : ∃ u, x.l[j]? = some u := ⟨_, List.getElem?_eq_getElem (by omega)⟩
  obtain ⟨u1, hu1⟩ : ∃ u, y.keys[j]? = some u := ⟨_, List.getElem?_eq_getElem (by omega)⟩
  obtain ⟨u2, hu2⟩ : ∃ u, y.l[j]? = some u := ⟨_, List.getElem?_eq_getElem (by omega)⟩
  have i1 := pdS_i hf1
  have i2 := pdVs_i hf2
  have i3 := pdS_i hu1
  have i4 := pdVs_i hu2
  have c2 := eqSpec_p f2 u2
  have hx := kvE_at hf1 hf2
  have hy := kvE_at hu1 hu2
  by_cases hs : f1 = u1
  · have g3 : (!decide (f1 = u1)) = false := by simp [hs]
    have g3' : decide (f1 ≠ u1) = false := by simp [hs]
    cases hv : eqP (cleanV f2) (cleanV u2) with
    | true =>
      rw [hv] at c2
      repeat' (first
    | refine run_seq ?_
    | (refine k_pick rfl ?_; first | refine k_assignD rfl rfl ?_ | refine k_moveD rfl rfl ?_ | refine k_bin2B rfl rfl rfl rfl ?_ | refine k_ariI rfl rfl rfl rfl (by first | omega | (dsimp only; omega)) ?_)
    | refine run_opsEnd ?_
    | refine run_region ?_
    | refine run_condT rfl (by first | rfl | assumption) ?_
    | refine run_condF rfl (by first | rfl | assumption) ?_
    | refine run_block ?_
    | refine run_blkEnd ?_
    | refine run_skip ?_
    | refine run_drawC (by kernel_rfl) ?_
    | refine c_nil (And.intro (by kernel_rfl) ?_)
    | refine c_pick (d_indexAddrD rfl rfl rfl (by first | omega | (dsimp only; omega)) (by assumption)) ?_
    | refine c_pick (d_moveD rfl rfl) ?_
    | refine c_pick (d_fieldAddrB rfl rfl rfl) ?_
    | refine c_pick (d_loadBD rfl rfl rfl (by first | rfl | (simp only [pdE, cellsD]; rfl))) ?_
    | refine c_pick (d_bin2B rfl rfl rfl rfl) ?_
    | refine c_pick (d_pickF rfl rfl (by first | rfl | assumption) rfl) ?_
    | refine c_pick (d_loadD rfl rfl (by first | rfl | (simp only [pdE, cellsD]; rfl))) ?_
    | refine c_pickY rfl (by first | rfl | assumption) (d_indexAddrD rfl rfl rfl (by first | omega | (dsimp only; omega)) (by assumption)) ?_
    | refine c_pickY rfl (by first | rfl | assumption) (d_moveD rfl rfl) ?_
    | refine c_pickY rfl (by first | rfl | assumption) (d_fieldAddrB rfl rfl rfl) ?_
    | refine c_pickY rfl (by first | rfl | assumption) (d_loadBD rfl rfl rfl (by first | rfl | (simp only [pdE, cellsD]; rfl))) ?_
    | refine c_pickY rfl (by first | rfl | assumption) (d_call rfl (by kernel_rfl) rfl (by first | exact c2 | (simp only [← pdE]; exact c2))) ?_
    | refine c_pickY rfl (by first | rfl | assumption) (d_not rfl rfl) ?_
    | refine c_pickY rfl (by first | rfl | assumption) (d_loadD rfl rfl (by first | rfl | (simp only [pdE, cellsD]; rfl))) ?_
    | fail)
      refine run_again ?_
      refine ⟨⟨j + 1, by omega, fun i f g hi hf hg => ?_⟩, id, by simp only; omega, ?_⟩
      · by_cases e : i = j
        · subst e
          rw [hx] at hf; rw [hy] at hg
          cases hf; cases hg
          unfold eqKv
          simp only
          rw [hv]; simp [hs]
        · exact hall i f g (by omega) hf hg
      (refine ⟨?_, ?_, by rfl⟩ <;> repeat' (first | exact trivial | exact ALe.ptr rfl | exact ALe.own rfl | exact ALe.elt rfl | exact BLe.boxD _ _ | exact BLe.row rfl | exact BLe.res | exact BLe.dead rfl | exact ALe.dat (PLe.refl _) | exact CLe.nil | refine And.intro ?_ ?_ | refine ALe.iface ?_ | refine ALe.clo ?_ | refine CLe.cons ?_ ?_ | refine BLe.box ?_ | refine BLe.row ?_ | exact ALe.any _ | refine ALe.dat (PLe.of_eq ?_)))
    | false =>
      rw [hv] at c2
      rw [eqLx_no hx hy (by unfold eqKv; simp only; rw [hv]; simp)]
      repeat' (first
    | refine run_seq ?_
    | (refine k_pick rfl ?_; first | refine k_assignD rfl rfl ?_ | refine k_moveD rfl rfl ?_ | refine k_bin2B rfl rfl rfl rfl ?_)
    | refine run_opsEnd ?_
    | refine run_region ?_
    | refine run_condT rfl (by first | rfl | assumption) ?_
    | refine run_block ?_
    | refine run_skip ?_
    | refine run_retOk (resOk_tmp rfl rfl ?_)
    | refine run_drawC (by kernel_rfl) ?_
    | refine c_nil (And.intro (by kernel_rfl) ?_)
    | refine c_pick (d_indexAddrD rfl rfl rfl (by first | omega | (dsimp only; omega)) (by assumption)) ?_
    | refine c_pick (d_moveD rfl rfl) ?_
    | refine c_pick (d_fieldAddrB rfl rfl rfl) ?_
    | refine c_pick (d_loadBD rfl rfl rfl (by first | rfl | (simp only [pdE, cellsD]; rfl))) ?_
    | refine c_pick (d_bin2B rfl rfl rfl rfl) ?_
    | refine c_pick (d_pickF rfl rfl (by first | rfl | assumption) rfl) ?_
    | refine c_pick (d_loadD rfl rfl (by first | rfl | (simp only [pdE, cellsD]; rfl))) ?_
    | refine c_pickY rfl (by first | rfl | assumption) (d_indexAddrD rfl rfl rfl (by first | omega | (dsimp only; omega)) (by assumption)) ?_
    | refine c_pickY rfl (by first | rfl | assumption) (d_moveD rfl rfl) ?_
    | refine c_pickY rfl (by first | rfl | assumption) (d_fieldAddrB rfl rfl rfl) ?_
    | refine c_pickY rfl (by first | rfl | assumption) (d_loadBD rfl rfl rfl (by first | rfl | (simp only [pdE, cellsD]; rfl))) ?_
    | refine c_pickY rfl (by first | rfl | assumption) (d_call rfl (by kernel_rfl) rfl (by first | exact c2 | (simp only [← pdE]; exact c2))) ?_
    | refine c_pickY rfl (by first | rfl | assumption) (d_not rfl rfl) ?_
    | refine c_pickY rfl (by first | rfl | assumption) (d_loadD rfl rfl (by first | rfl | (simp only [pdE, cellsD]; rfl))) ?_
    | fail)
      all_goals exact PLe.refl _
  · have g3 : (!decide (f1 = u1)) = true := by simp [hs]
    have g3' : decide (f1 ≠ u1) = true := by simp [hs]
    rw [eqLx_no hx hy (by unfold eqKv; simp [hs])]
    repeat' (first
    | refine run_seq ?_
    | (refine k_pick rfl ?_; first | refine k_assignD rfl rfl ?_ | refine k_moveD rfl rfl ?_ | refine k_bin2B rfl rfl rfl rfl ?_)
    | refine run_opsEnd ?_
    | refine run_region ?_
    | refine run_condT rfl (by first | rfl | assumption) ?_
    | refine run_block ?_
    | refine run_skip ?_
    | refine run_retOk (resOk_tmp rfl rfl ?_)
    | refine run_drawC (by kernel_rfl) ?_
    | refine c_nil (And.intro (by kernel_rfl) ?_)
    | refine c_pick (d_indexAddrD rfl rfl rfl (by first | omega | (dsimp only; omega)) (by assumption)) ?_
    | refine c_pick (d_moveD rfl rfl) ?_
    | refine c_pick (d_fieldAddrB rfl rfl rfl) ?_
    | refine c_pick (d_loadBD rfl rfl rfl (by first | rfl | (simp only [pdE, cellsD]; rfl))) ?_
    | refine c_pick (d_bin2B rfl rfl rfl rfl) ?_
    | refine c_pick (d_pickT rfl rfl (by first | rfl | assumption) rfl) ?_
    | refine c_pick (d_loadD rfl rfl (by first | rfl | (simp only [pdE, cellsD]; rfl))) ?_
    | refine c_passF rfl (by first | rfl | assumption) rfl ?_
    | fail)
    all_goals exact PLe.refl _
set_option maxHeartbeats 8000000 in
theorem cmpElems_p (x y : EV) : PCall Tryz.prog 201 [pdE x, pdE y] (.val (.int .i64 (cmpE x y))) := by
  have c1 := elemRank_p x
  have c2 := elemRank_p y
  have c3 := sInts_p (rkE x) (rkE y)
  have c4 := cmpKeys_p x y
  have c5 := sCmpVals_p x.v y.v
  have c6 := sInts_p x.n y.n
  have c7 := sStrs_p x.s y.s
  unfold cmpE bodyE
  unfold pdE at *
  unfold qV at c5
  by_cases h0 : rkE x = rkE y
  rotate_left
  · have h0' : cmpI (rkE x) (rkE y) ≠ 0 := fun h => h0 (cmpI_zero.1 h)
    have g0 : decide (cmpI (rkE x) (rkE y) ≠ 0) = true := decide_eq_true h0'
    rw [lx_pos h0']
    refine pcall_of_run Tryz.func201 rfl Tryz.ntmps201 rfl (fun X => ?_)
    repeat' (first
    | refine run_seq ?_
    | (refine k_pick rfl ?_; first | refine k_assignD rfl rfl ?_ | refine k_moveD rfl rfl ?_ | refine k_bin2B rfl rfl rfl rfl ?_ | refine k_boxW rfl rfl rfl (by first | rfl | (simp only [cellsD]; rfl)) ?_)
    | refine run_opsEnd ?_
    | refine run_region ?_
    | refine run_condT rfl (by first | rfl | assumption) ?_
    | refine run_retOk (resOk_tmp rfl rfl ?_)
    | refine run_drawC (by kernel_rfl) ?_
    | refine c_nil (And.intro (by kernel_rfl) ?_)
    | refine c_pick (d_assignD rfl rfl) ?_
    | refine c_pick (d_loadW rfl rfl rfl (by first | rfl | (simp only [cellsD]; rfl))) ?_
    | refine c_pick (d_call rfl (by kernel_rfl) rfl (by first | exact c1 | exact c2 | exact c3)) ?_
    | fail)
    all_goals exact PLe.refl _
  have h0' : cmpI (rkE x) (rkE y) = 0 := cmpI_zero.2 h0
  have g0 : decide (cmpI (rkE x) (rkE y) ≠ 0) = false := decide_eq_false (by simp [h0'])
  rw [lx_zero h0']
  by_cases h1 : rkE x = 1
  · have g1 : decide (rkE x = 1) = true := decide_eq_true h1
    rw [if_pos h1]
    refine pcall_of_run Tryz.func201 rfl Tryz.ntmps201 rfl (fun X => ?_)
    repeat' (first
    | refine run_seq ?_
    | (refine k_pick rfl ?_; first | refine k_assignD rfl rfl ?_ | refine k_moveD rfl rfl ?_ | refine k_loadW rfl rfl rfl (by first | rfl | (simp only [cellsD]; rfl)) ?_ | refine k_bin2B rfl rfl rfl rfl ?_ | refine k_boxW rfl rfl rfl (by first | rfl | (simp only [cellsD]; rfl)) ?_ | refine k_call rfl (by kernel_rfl) rfl (by first | exact c1 | exact c2 | exact c3 | exact c4) ?_)
    | refine run_opsEnd ?_
    | refine run_region ?_
    | refine run_condT rfl (by first | rfl | assumption) ?_
    | refine run_condF rfl (by first | rfl | assumption) ?_
    | refine run_block ?_
    | refine run_skip ?_
    | refine run_retOk (resOk_tmp rfl rfl ?_)
    | refine run_drawC (by kernel_rfl) ?_
    | refine c_nil (And.intro (by kernel_rfl) ?_)
    | refine c_pick (d_assignD rfl rfl) ?_
    | refine c_pick (d_loadW rfl rfl rfl (by first | rfl | (simp only [cellsD]; rfl))) ?_
    | refine c_pick (d_call rfl (by kernel_rfl) rfl (by first | exact c1 | exact c2 | exact c3 | exact c4)) ?_
    | fail)
    all_goals exact PLe.refl _
  have g1 : decide (rkE x = 1) = false := decide_eq_false h1
  rw [if_neg h1]
  by_cases h2 : rkE x = 2
  · have g2 : decide (rkE x = 2) = true := decide_eq_true h2
    rw [if_pos h2]
    refine pcall_of_run Tryz.func201 rfl Tryz.ntmps201 rfl (fun X => ?_)
    repeat' (first
    | refine run_seq ?_
    | (refine k_pick rfl ?_; first | refine k_assignD rfl rfl ?_ | refine k_moveD rfl rfl ?_ | refine k_fieldAddrB rfl rfl rfl ?_ | refine k_loadW rfl rfl rfl (by first | rfl | (simp only [cellsD]; rfl)) ?_ | refine k_loadBD rfl rfl rfl (by first | rfl | (simp only [cellsD]; rfl)) ?_ | refine k_bin2B rfl rfl rfl rfl ?_ | refine k_boxW rfl rfl rfl (by first | rfl | (simp only [cellsD]; rfl)) ?_ | refine k_call rfl (by kernel_rfl) rfl (by first | exact c1 | exact c2 | exact c3 | exact c5) ?_)
    | refine run_opsEnd ?_
    | refine run_region ?_
    | refine run_condT rfl (by first | rfl | assumption) ?_
    | refine run_condF rfl (by first | rfl | assumption) ?_
    | refine run_block ?_
    | refine run_skip ?_
    | refine run_retOk (resOk_tmp rfl rfl ?_)
    | refine run_drawC (by kernel_rfl) ?_
    | refine c_nil (And.intro (by kernel_rfl) ?_)
    | refine c_pick (d_assignD rfl rfl) ?_
    | refine c_pick (d_loadW rfl rfl rfl (by first | rfl | (simp only [cellsD]; rfl))) ?_
    | refine c_pick (d_call rfl (by kernel_rfl) rfl (by first | exact c1 | exact c2 | exact c3 | exact c5)) ?_
    | fail)
    all_goals exact PLe.refl _
  have g2 : decide (rkE x = 2) = false := decide_eq_false h2
  rw [if_neg h2]
  by_cases h3 : rkE x = 3
  · have g3 : decide (rkE x = 3) = true := decide_eq_true h3
    rw [if_pos h3]
    refine pcall_of_run Tryz.func201 rfl Tryz.ntmps201 rfl (fun X => ?_)
    repeat' (first
    | refine run_seq ?_
    | (refine k_pick rfl ?_; first | refine k_assignD rfl rfl ?_ | refine k_moveD rfl rfl ?_ | refine k_fieldAddrB rfl rfl rfl ?_ | refine k_loadW rfl rfl rfl (by first | rfl | (simp only [cellsD]; rfl)) ?_ | refine k_loadBD rfl rfl rfl (by first | rfl | (simp only [cellsD]; rfl)) ?_ | refine k_bin2B rfl rfl rfl rfl ?_ | refine k_boxW rfl rfl rfl (by first | rfl | (simp only [cellsD]; rfl)) ?_ | refine k_call rfl (by kernel_rfl) rfl (by first | exact c1 | exact c2 | exact c3 | exact c6) ?_)
    | refine run_opsEnd ?_
    | refine run_region ?_
    | refine run_condT rfl (by first | rfl | assumption) ?_
    | refine run_condF rfl (by first | rfl | assumption) ?_
    | refine run_block ?_
    | refine run_skip ?_
    | refine run_retOk (resOk_tmp rfl rfl ?_)
    | refine run_drawC (by kernel_rfl) ?_
    | refine c_nil (And.intro (by kernel_rfl) ?_)
    | refine c_pick (d_assignD rfl rfl) ?_
    | refine c_pick (d_loadW rfl rfl rfl (by first | rfl | (simp only [cellsD]; rfl))) ?_
    | refine c_pick (d_call rfl (by kernel_rfl) rfl (by first | exact c1 | exact c2 | exact c3 | exact c6)) ?_
    | fail)
    all_goals exact PLe.refl _
  have g3 : decide (rkE x = 3) = false := decide_eq_false h3
  rw [if_neg h3]
  refine pcall_of_run Tryz.func201 rfl Tryz.ntmps201 rfl (fun X => ?_)
  repeat' (first
    | refine run_seq ?_
    | (refine k_pick rfl ?_; first | refine k_assignD rfl rfl ?_ | refine k_moveD rfl rfl ?_ | refine k_fieldAddrB rfl rfl rfl ?_ | refine k_loadW rfl rfl rfl (by first | rfl | (simp only [cellsD]; rfl)) ?_ | refine k_loadBD rfl rfl rfl (by first | rfl | (simp only [cellsD]; rfl)) ?_ | refine k_bin2B rfl rfl rfl rfl ?_ | refine k_boxW rfl rfl rfl (by first | rfl | (simp only [cellsD]; rfl)) ?_ | refine k_call rfl (by kernel_rfl) rfl (by first | exact c1 | exact c2 | exact c3 | exact c7) ?_)
    | refine run_opsEnd ?_
    | refine run_region ?_
    | refine run_condF rfl (by first | rfl | assumption) ?_
    | refine run_block ?_
    | refine run_blkEnd ?_
    | refine run_skip ?_
    | refine run_retOk (resOk_tmp rfl rfl ?_)
    | refine run_drawC (by kernel_rfl) ?_
    | refine c_nil (And.intro (by kernel_rfl) ?_)
    | refine c_pick (d_assignD rfl rfl) ?_
    | refine c_pick (d_loadW rfl rfl rfl (by first | rfl | (simp only [cellsD]; rfl))) ?_
    | refine c_pick (d_call rfl (by kernel_rfl) rfl (by first | exact c1 | exact c2 | exact c3 | exact c7)) ?_
    | fail)
  all_goals exact PLe.refl _
set_option maxHeartbeats 8000000 in
theorem eqElems_p (x y : EV) : PCall Tryz.prog 20 [pdE x, pdE y] (.val (.bool (eqE x y))) := by
  have c1 := elemRank_p x
  have c2 := elemRank_p y
  have c4 := eqKeys_p x y
  have c5 := eqSpec_p x.v y.v
  unfold eqE
  unfold pdE at *
  unfold qV at c5
  by_cases h0 : rkE x = rkE y
  rotate_left
  · have g0 : decide (rkE x ≠ rkE y) = true := decide_eq_true h0
    rw [if_pos h0]
    refine pcall_of_run Tryz.func20 rfl Tryz.ntmps20 rfl (fun X => ?_)
    repeat' (first
    | refine run_seq ?_
    | (refine k_pick rfl ?_; first | refine k_assignD rfl rfl ?_ | refine k_boxW rfl rfl rfl (by first | rfl | (simp only [cellsD]; rfl)) ?_)
    | refine run_opsEnd ?_
    | refine run_region ?_
    | refine run_condT rfl (by first | rfl | assumption) ?_
    | refine run_retOk (resOk_tmp rfl rfl ?_)
    | refine run_drawC (by kernel_rfl) ?_
    | refine c_nil (And.intro (by kernel_rfl) ?_)
    | refine c_pick (d_loadW rfl rfl rfl (by first | rfl | (simp only [cellsD]; rfl))) ?_
    | refine c_pick (d_bin2B rfl rfl rfl rfl) ?_
    | refine c_pick (d_call rfl (by kernel_rfl) rfl (by first | exact c1 | exact c2)) ?_
    | fail)
    all_goals exact PLe.refl _
  have g0 : decide (rkE x ≠ rkE y) = false := decide_eq_false (by simp [h0])
  rw [if_neg (by simp [h0])]
  by_cases h1 : rkE x = 1
  · have g1 : decide (rkE x = 1) = true := decide_eq_true h1
    rw [if_pos h1]
    refine pcall_of_run Tryz.func20 rfl Tryz.ntmps20 rfl (fun X => ?_)
    repeat' (first
    | refine run_seq ?_
    | (refine k_pick rfl ?_; first | refine k_assignD rfl rfl ?_ | refine k_loadW rfl rfl rfl (by first | rfl | (simp only [cellsD]; rfl)) ?_ | refine k_bin2B rfl rfl rfl rfl ?_ | refine k_boxW rfl rfl rfl (by first | rfl | (simp only [cellsD]; rfl)) ?_ | refine k_call rfl (by kernel_rfl) rfl (by first | exact c1 | exact c2 | exact c4) ?_)
    | refine run_opsEnd ?_
    | refine run_region ?_
    | refine run_condT rfl (by first | rfl | assumption) ?_
    | refine run_condF rfl (by first | rfl | assumption) ?_
    | refine run_block ?_
    | refine run_skip ?_
    | refine run_retOk (resOk_tmp rfl rfl ?_)
    | refine run_drawC (by kernel_rfl) ?_
    | refine c_nil (And.intro (by kernel_rfl) ?_)
    | refine c_pick (d_loadW rfl rfl rfl (by first | rfl | (simp only [cellsD]; rfl))) ?_
    | refine c_pick (d_bin2B rfl rfl rfl rfl) ?_
    | refine c_pick (d_call rfl (by kernel_rfl) rfl (by first | exact c1 | exact c2 | exact c4)) ?_
    | fail)
    all_goals exact PLe.refl _
  have g1 : decide (rkE x = 1) = false := decide_eq_false h1
  rw [if_neg h1]
  by_cases h2 : rkE x = 2
  · have g2 : decide (rkE x = 2) = true := decide_eq_true h2
    rw [if_pos h2]
    refine pcall_of_run Tryz.func20 rfl Tryz.ntmps20 rfl (fun X => ?_)
    repeat' (first
    | refine run_seq ?_
    | (refine k_pick rfl ?_; first | refine k_assignD rfl rfl ?_ | refine k_fieldAddrB rfl rfl rfl ?_ | refine k_loadW rfl rfl rfl (by first | rfl | (simp only [cellsD]; rfl)) ?_ | refine k_loadBD rfl rfl rfl (by first | rfl | (simp only [cellsD]; rfl)) ?_ | refine k_bin2B rfl rfl rfl rfl ?_ | refine k_boxW rfl rfl rfl (by first | rfl | (simp only [cellsD]; rfl)) ?_ | refine k_call rfl (by kernel_rfl) rfl (by first | exact c1 | exact c2 | exact c5) ?_)
    | refine run_opsEnd ?_
    | refine run_region ?_
    | refine run_condT rfl (by first | rfl | assumption) ?_
    | refine run_condF rfl (by first | rfl | assumption) ?_
    | refine run_block ?_
    | refine run_skip ?_
    | refine run_retOk (resOk_tmp rfl rfl ?_)
    | refine run_drawC (by kernel_rfl) ?_
    | refine c_nil (And.intro (by kernel_rfl) ?_)
    | refine c_pick (d_loadW rfl rfl rfl (by first | rfl | (simp only [cellsD]; rfl))) ?_
    | refine c_pick (d_bin2B rfl rfl rfl rfl) ?_
    | refine c_pick (d_call rfl (by kernel_rfl) rfl (by first | exact c1 | exact c2 | exact c5)) ?_
    | fail)
    all_goals exact PLe.refl _
  have g2 : decide (rkE x = 2) = false := decide_eq_false h2
  rw [if_neg h2]
  by_cases h3 : rkE x = 3
  · have g3 : decide (rkE x = 3) = true := decide_eq_true h3
    rw [if_pos h3]
    refine pcall_of_run Tryz.func20 rfl Tryz.ntmps20 rfl (fun X => ?_)
    repeat' (first
    | refine run_seq ?_
    | (refine k_pick rfl ?_; first | refine k_assignD rfl rfl ?_ | refine k_fieldAddrB rfl rfl rfl ?_ | refine k_loadW rfl rfl rfl (by first | rfl | (simp only [cellsD]; rfl)) ?_ | refine k_loadBD rfl rfl rfl (by first | rfl | (simp only [cellsD]; rfl)) ?_ | refine k_bin2B rfl rfl rfl rfl ?_ | refine k_boxW rfl rfl rfl (by first | rfl | (simp only [cellsD]; rfl)) ?_ | refine k_call rfl (by kernel_rfl) rfl (by first | exact c1 | exact c2) ?_)
    | refine run_opsEnd ?_
    | refine run_region ?_
    | refine run_condT rfl (by first | rfl | assumption) ?_
    | refine run_condF rfl (by first | rfl | assumption) ?_
    | refine run_block ?_
    | refine run_skip ?_
    | refine run_retOk (resOk_tmp rfl rfl ?_)
    | refine run_drawC (by kernel_rfl) ?_
    | refine c_nil (And.intro (by kernel_rfl) ?_)
    | refine c_pick (d_loadW rfl rfl rfl (by first | rfl | (simp only [cellsD]; rfl))) ?_
    | refine c_pick (d_bin2B rfl rfl rfl rfl) ?_
    | refine c_pick (d_call rfl (by kernel_rfl) rfl (by first | exact c1 | exact c2)) ?_
    | fail)
    all_goals exact PLe.refl _
  have g3 : decide (rkE x = 3) = false := decide_eq_false h3
  rw [if_neg h3]
  refine pcall_of_run Tryz.func20 rfl Tryz.ntmps20 rfl (fun X => ?_)
  repeat' (first
    | refine run_seq ?_
    | (refine k_pick rfl ?_; first | refine k_assignD rfl rfl ?_ | refine k_fieldAddrB rfl rfl rfl ?_ | refine k_loadW rfl rfl rfl (by first | rfl | (simp only [cellsD]; rfl)) ?_ | refine k_loadBD rfl rfl rfl (by first | rfl | (simp only [cellsD]; rfl)) ?_ | refine k_bin2B rfl rfl rfl rfl ?_ | refine k_boxW rfl rfl rfl (by first | rfl | (simp only [cellsD]; rfl)) ?_ | refine k_call rfl (by kernel_rfl) rfl (by first | exact c1 | exact c2) ?_)
    | refine run_opsEnd ?_
    | refine run_region ?_
    | refine run_condF rfl (by first | rfl | assumption) ?_
    | refine run_block ?_
    | refine run_blkEnd ?_
    | refine run_skip ?_
    | refine run_retOk (resOk_tmp rfl rfl ?_)
    | refine run_drawC (by kernel_rfl) ?_
    | refine c_nil (And.intro (by kernel_rfl) ?_)
    | refine c_pick (d_loadW rfl rfl rfl (by first | rfl | (simp only [cellsD]; rfl))) ?_
    | refine c_pick (d_bin2B rfl rfl rfl rfl) ?_
    | refine c_pick (d_call rfl (by kernel_rfl) rfl (by first | exact c1 | exact c2)) ?_
    | fail)
  all_goals exact PLe.refl _
end Go.Proofs.YtgmahieoiifpfaaGreat
end
section
set_option linter.unusedVariables false
namespace Go.Proofs.YtgmahieoiifpfaaGreat
open Go.RowKit
set_option linter.unusedSimpArgs false
set_option maxHeartbeats 8000000 in
theorem toKeys_q (x : EV) : PCall Tryz.prog 130 [pdE x] (dvFl (flE x)) := by
  refine pcall_fits fun hfit => ?_
  have b0 := (Fits.aggAt (hfit (pdE x) (by simp)) 3 (d := .sl 6 88 (pdVs x.l)) rfl).sl
  have b1 := b0.1
  have b2 := (Fits.aggAt (hfit (pdE x) (by simp)) 2 (d := .sl 1 16 (pdS x.keys)) rfl).sl.2.1
  clear hfit b0
  have n1 := pdVs_len x.l
  have n2 := pdS_len x.keys
  rw [n1] at b1
  rw [n2] at b2
  have n3 := flE_length x
  refine pcall_of_run Tryz.func130 rfl Tryz.ntmps130 rfl (fun X => ?_)
  unfold pdE
  refine wk ?_
  refine run_loopS (ι := { k : Nat // k ≤ x.keys.length })
    (fun k => [(1, .ptr 1 0), (3, .own 100), (8, .dat (.sl 1 16 (pdS x.keys))), (9, .dat (.val (.int .i64 ((pdS x.keys).length : Nat)))), (10, .dat (.val (.int .i64 (k.1 : Nat))))])
    (fun k => [(1, .box 29 (cellsD (pdE x))), (100, .row 213 2 32 (((flE x).take k.1).map dvFld))]) (fun k => x.keys.length - k.1) ⟨0, Nat.zero_le _⟩ (fun j => if j = 100 then 6 else j) ?_ ?_
  · exact sb
  rintro ⟨k, hk⟩
  by_cases hlt : k < x.keys.length
  · have hc : decide ((k : Int) < (((pdS x.keys).length : Nat) : Int)) = true := decide_eq_true (by omega)
    obtain ⟨key, hkey⟩ : ∃ y, x.keys[k]? = some y := ⟨_, List.getElem?_eq_getElem hlt⟩
    have i1 : (pdS x.keys)[((k : Nat) : Int).toNat]? = some (.val (.string key)) := pdS_at hkey
    by_cases hl : k < x.l.length
    · have hc2 : decide ((k : Int) < (((pdVs x.l).length : Nat) : Int)) = true := decide_eq_true (by omega)
      obtain ⟨y, hy⟩ : ∃ y, x.l[k]? = some y := ⟨_, List.getElem?_eq_getElem hl⟩
      have i2 : (pdVs x.l)[((k : Nat) : Int).toNat]? = some (qV y) := (pdVs_at hy).trans (by rw [pdV_q])
      have c := toValue_q y
      have hf := flE_at x hkey hy
      have e : ((flE x).take (k + 1)).map dvFld = ((flE x).take k).map dvFld ++ [.agg [.val (.string key), dvV (plainJ y)]] := by simp [List.take_add_one, hf, dvFld]
      have hbt : ((((flE x).take k).map dvFld).length + [PD.agg [.val (.string key), dvV (plainJ y)]].length) * 32 ≤ 140737488351232 := by simp; omega
      have hbl : (((flE x).take k).map dvFld).length + [PD.agg [.val (.string key), dvV (plainJ y)]].length ≤ 140737488351232 := by simp; omega
      generalize ((flE x).take k).map dvFld = da at *
      unfold qV at *
      unfold pdE
      refine wk ?_
      refine run_again ?_
      refine ⟨⟨k + 1, by omega⟩, (fun j => if j = 100 then 30 else j), by simp only; omega, ?_⟩
      rw [e]
      exact sb
    · have hc2 : decide ((k : Int) < (((pdVs x.l).length : Nat) : Int)) = false := decide_eq_false (by omega)
      have e : (flE x).take (k + 1) = (flE x).take k := by rw [List.take_of_length_le (by omega), List.take_of_length_le (by omega)]
      unfold pdE
      refine wk ?_
      refine run_again ?_
      refine ⟨⟨k + 1, by omega⟩, id, by simp only; omega, ?_⟩
      simp only [e]
      exact sb
  · have hc : decide ((k : Int) < (((pdS x.keys).length : Nat) : Int)) = false := decide_eq_false (by omega)
    have hkk : (flE x).take k = flE x := List.take_of_length_le (by omega)
    simp only [hkk]
    unfold pdE
    refine run_frz (fun _ => false) (fun k => k == 100) ?_
    unfold dvFl
    exact wke
set_option maxHeartbeats 8000000 in
theorem toElem_q (x : EV) : PCall Tryz.prog 67 [pdE x] (dvPE (toPE x)) := by
  have c1 := toKeys_q x
  have c2 := toValue_q x.v
  unfold toPE
  unfold qV pdE at *
  unfold dvFl at c1
  refine pcall_of_run Tryz.func67 rfl Tryz.ntmps67 rfl (fun X => ?_)
  by_cases h1 : x.kind = 1
  · have g1 : decide (x.kind = 1) = true := decide_eq_true h1
    rw [if_pos h1]
    refine wk ?_
    refine run_frz (fun _ => false) (fun k => k == 3) ?_
    exact wke
  have g1 : decide (x.kind = 1) = false := decide_eq_false h1
  rw [if_neg h1]
  by_cases h2 : x.kind = 2
  · have g2 : decide (x.kind = 2) = true := decide_eq_true h2
    rw [if_pos h2]
    refine wk ?_
    refine run_frz (fun _ => false) (fun k => k == 4) ?_
    exact wke
  have g2 : decide (x.kind = 2) = false := decide_eq_false h2
  rw [if_neg h2]
  by_cases h3 : x.kind = 3
  · have g3 : decide (x.kind = 3) = true := decide_eq_true h3
    rw [if_pos h3]
    refine wk ?_
    refine run_frz (fun _ => false) (fun k => k == 5) ?_
    exact wke
  have g3 : decide (x.kind = 3) = false := decide_eq_false h3
  rw [if_neg h3]
  refine wk ?_
  refine run_frz (fun _ => false) (fun k => k == 6) ?_
  exact wke
set_option maxHeartbeats 8000000 in
theorem cleanE_q (x : EV) : PCall Tryz.prog 92 [pdE x] (pdE (cleanE x)) := by
  have c1 := plainList_q (x.l.take (min x.keys.length x.l.length)) fun y _ => clean_q y
  have c2 := clean_q x.v
  refine pcall_fits fun hfit => ?_
  have b0 := (Fits.aggAt (hfit (pdE x) (by simp)) 3 (d := .sl 6 88 (pdVs x.l)) rfl).sl
  have b1 := b0.1
  have b2 := (Fits.aggAt (hfit (pdE x) (by simp)) 2 (d := .sl 1 16 (pdS x.keys)) rfl).sl.2.1
  clear hfit b0
  have n1 := pdVs_len x.l
  have n2 := pdS_len x.keys
  have e1 : pdVs (x.l.take (min x.keys.length x.l.length)) = ((pdVs x.l).take (min (pdS x.keys).length (pdVs x.l).length)).drop 0 := by rw [n1, n2, pdVs_eq, pdVs_eq]; simp [List.map_take]
  have e2 : pdS (x.keys.take (min x.keys.length x.l.length)) = [] ++ ((pdS x.keys).take (min (pdS x.keys).length (pdVs x.l).length)).drop 0 := by rw [n1, n2]; simp [pdS, List.map_take]
  have m1 : min (pdS x.keys).length (pdVs x.l).length ≤ (pdS x.keys).length := Nat.min_le_left _ _
  have m2 : min (pdS x.keys).length (pdVs x.l).length ≤ (pdVs x.l).length := Nat.min_le_right _ _
  have m3 : (([] : List PD).length + (((pdS x.keys).take (min (pdS x.keys).length (pdVs x.l).length)).drop 0).length) * 16 ≤ 140737488351232 := by simp; omega
  have m4 : ([] : List PD).length + (((pdS x.keys).take (min (pdS x.keys).length (pdVs x.l).length)).drop 0).length ≤ 140737488351232 := by simp; omega
  rw [e1] at c1
  unfold cleanE
  by_cases h1 : x.kind = 1
  · have g1 : decide (x.kind = 1) = true := decide_eq_true h1
    rw [if_pos h1]
    unfold qV pdE at *
    simp only [e2, gNull, GV.kind, GV.n, GV.f, GV.s, GV.keys, GV.l]
    generalize cleanL (x.l.take (min x.keys.length x.l.length)) = cl at *
    clear e1 e2
    refine pcall_of_run Tryz.func92 rfl Tryz.ntmps92 rfl (fun X => ?_)
    refine wk ?_
    refine run_frz (fun _ => false) (fun k => k == 20) ?_
    exact wke
  have g1 : decide (x.kind = 1) = false := decide_eq_false h1
  rw [if_neg h1]
  clear e1 e2 m1 m2 m3 m4 c1 b1 b2
  generalize cleanV x.v = y at *
  unfold qV pdE at *
  refine pcall_of_run Tryz.func92 rfl Tryz.ntmps92 rfl (fun X => ?_)
  by_cases h2 : x.kind = 2
  · have g2 : decide (x.kind = 2) = true := decide_eq_true h2
    rw [if_pos h2]
    exact wke
  have g2 : decide (x.kind = 2) = false := decide_eq_false h2
  rw [if_neg h2]
  by_cases h3 : x.kind = 3
  · have g3 : decide (x.kind = 3) = true := decide_eq_true h3
    rw [if_pos h3]
    exact wke
  have g3 : decide (x.kind = 3) = false := decide_eq_false h3
  rw [if_neg h3]
  exact wke
theorem toElem_v (x : EV) : PCall Tryz.prog 67 [pdE x] (dvPE (toPE x)) := toElem_q x
theorem cleanE_p (x : EV) : PCall Tryz.prog 92 [pdE x] (pdE (cleanE x)) := cleanE_q x
end Go.Proofs.YtgmahieoiifpfaaGreat
end
section
set_option linter.unusedVariables false
namespace Go.Proofs.YtgmahieoiifpfaaGreat
open Go.RowKit
set_option linter.unusedSimpArgs false
section
variable {P : Program} {X : Base} {N : Nat} {Q : Exit → Act → World → Prop} {s s' : Sta}
end
def srtK : List ByteArray → Bool
  | a :: b :: r => decide (cmpS a b < 0) && srtK (b :: r)
  | _ => true
theorem srtK_no : ∀ {ks : List ByteArray} {i : Nat} {a b : ByteArray}, ks[i]? = some a → ks[i + 1]? = some b → 0 ≤ cmpS a b → srtK ks = false
  | [], _, _, _, h, _, _ => by simp at h
  | [_], i, a, b, _, h, _ => by simp at h
  | x :: y :: r, 0, a, b, h, h', hc => by
    simp at h h'
    subst h h'
    unfold srtK
    rw [decide_eq_false (by omega)]; rfl
  | x :: y :: r, i + 1, a, b, h, h', hc => by
    unfold srtK
    rw [srtK_no (ks := y :: r) (i := i) (by simpa using h) (by simpa using h') hc, Bool.and_false]
theorem srtK_yes : ∀ {ks : List ByteArray}, (∀ (i : Nat) (a b : ByteArray), ks[i]? = some a → ks[i + 1]? = some b → cmpS a b < 0) → srtK ks = true
  | [], _ => rfl
  | [_], _ => rfl
  | x :: y :: r, h => by
    unfold srtK
    rw [decide_eq_true (h 0 x y rfl rfl), srtK_yes (ks := y :: r) (fun i a b ha hb => h (i + 1) a b (by simpa using ha) (by simpa using hb))]; rfl
theorem cleanE_keys (x : EV) : (cleanE x).keys.length ≤ x.keys.length := by
  unfold cleanE
  split
  · simp only [List.length_take]; omega
  · split
    · simp
    · split <;> simp
set_option maxHeartbeats 8000000 in
theorem keySorted_p (x : EV) : PCall Tryz.prog 95 [pdE x] (.val (.bool (srtK (cleanE x).keys))) := by
  refine pcall_fits fun hfit => ?_
  have b1 := (Fits.aggAt (hfit (pdE x) (by simp)) 2 (d := .sl 1 16 (pdS x.keys)) rfl).sl.2.1
  rw [pdS_len] at b1
  clear hfit
  have b2 := cleanE_keys x
  have c1 := cleanE_p x
  generalize cleanE x = y at *
  have n1 := pdS_len y.keys
  refine pcall_of_run Tryz.func95 rfl Tryz.ntmps95 rfl (fun X => ?_)
  repeat' (first
    | refine run_seq ?_
    | (refine k_pick rfl ?_; first | refine k_assignD rfl rfl ?_ | refine k_loadW rfl rfl rfl (by first | rfl | (simp only [pdE, cellsD]; rfl)) ?_ | refine k_boxW rfl rfl rfl (by first | rfl | (simp only [pdE, cellsD]; rfl)) ?_ | refine k_call rfl (by kernel_rfl) rfl (by first | exact c1 | (simp only [← pdE]; exact c1)) ?_ | refine k_storeW rfl rfl rfl (by first | rfl | (simp only [pdE, cellsD]; rfl)) (by first | rfl | (simp only [pdE, cellsD]; rfl)) rfl ?_)
    | refine run_opsEnd ?_
    | refine run_region ?_
    | refine run_block ?_
    | fail)
  refine run_loopS (ι := { j : Nat // (j ≤ y.keys.length) ∧ ∀ (i : Nat) (a b : ByteArray), i < j → y.keys[i]? = some a → y.keys[i + 1]? = some b → cmpS a b < 0 })
    (fun j => [(1, .ptr 1 0), (3, .dat (.val (.int .i64 ((j.1 + 1 : Nat) : Int))))])
    (fun j => [(1, .box 29 (cellsD (pdE y)))]) (fun j => y.keys.length - j.1) ⟨0, Nat.zero_le _, fun i _ _ h => absurd h (Nat.not_lt_zero i)⟩ id ?_ ?_
  · (refine ⟨?_, ?_, by rfl⟩ <;> repeat' (first | exact trivial | exact ALe.ptr rfl | exact ALe.own rfl | exact ALe.elt rfl | exact BLe.boxD _ _ | exact BLe.row rfl | exact BLe.res | exact BLe.dead rfl | exact ALe.dat (PLe.refl _) | exact CLe.nil | refine And.intro ?_ ?_ | refine ALe.iface ?_ | refine ALe.clo ?_ | refine CLe.cons ?_ ?_ | refine BLe.box ?_ | refine BLe.row ?_ | exact ALe.any _ | refine ALe.dat (PLe.of_eq ?_)))
  rintro ⟨j, hj, hall⟩
  by_cases hlt : j + 1 < y.keys.length
  rotate_left
  · have g1 : decide (((j + 1 : Nat) : Int) < (((pdS y.keys).length : Nat) : Int)) = false := decide_eq_false (by omega)
    rw [srtK_yes fun i a b ha hb => hall i a b (by have := (List.getElem?_eq_some_iff.1 hb).1; omega) ha hb]
    repeat' (first
    | refine run_seq ?_
    | (refine k_pick rfl ?_; first | refine k_assignD rfl rfl ?_ | refine k_moveD rfl rfl ?_ | refine k_fieldAddrB rfl rfl rfl ?_ | refine k_loadBD rfl rfl rfl (by first | rfl | (simp only [pdE, cellsD]; rfl)) ?_ | refine k_bin2B rfl rfl rfl rfl ?_ | refine k_lenD rfl rfl ?_)
    | refine run_opsEnd ?_
    | refine run_region ?_
    | refine run_condF rfl (by first | rfl | assumption) ?_
    | refine run_exit rfl ?_
    | refine run_retOk (resOk_tmp rfl rfl ?_)
    | fail)
    all_goals exact PLe.refl _
  have g1 : decide (((j + 1 : Nat) : Int) < (((pdS y.keys).length : Nat) : Int)) = true := decide_eq_true (by omega)
  obtain ⟨a, ha⟩ : ∃ u, y.keys[j]? = some u := ⟨_, List.getElem?_eq_getElem (by omega)⟩
  obtain ⟨b, hb⟩ : ∃ u, y.keys[j + 1]? = some u := ⟨_, List.getElem?_eq_getElem hlt⟩
  have i1 : (pdS y.keys)[(((j + 1 : Nat) : Int) - 1).toNat]? = some (.val (.string a)) := by
    rw [show ((((j + 1 : Nat) : Int) - 1).toNat) = j by omega]; exact pdS_at ha
  have i2 := pdS_i hb
  have c2 := sStrs_p a b
  by_cases hs : cmpS a b < 0
  · have g2 : decide (0 ≤ cmpS a b) = false := decide_eq_false (by omega)
    repeat' (first
    | refine run_seq ?_
    | (refine k_pick rfl ?_; first | refine k_assignD rfl rfl ?_ | refine k_moveD rfl rfl ?_ | refine k_fieldAddrB rfl rfl rfl ?_ | refine k_loadBD rfl rfl rfl (by first | rfl | (simp only [pdE, cellsD]; rfl)) ?_ | refine k_bin2B rfl rfl rfl rfl ?_ | refine k_lenD rfl rfl ?_ | refine k_ariI rfl rfl rfl rfl (by first | omega | (dsimp only; omega)) ?_)
    | refine run_opsEnd ?_
    | refine run_region ?_
    | refine run_condT rfl (by first | rfl | assumption) ?_
    | refine run_condF rfl (by first | rfl | assumption) ?_
    | refine run_block ?_
    | refine run_blkEnd ?_
    | refine run_skip ?_
    | refine run_drawC (by kernel_rfl) ?_
    | refine c_nil (And.intro (by kernel_rfl) ?_)
    | refine c_pick (d_indexAddrD rfl rfl rfl (by first | omega | (dsimp only; omega)) (by assumption)) ?_
    | refine c_pick (d_moveD rfl rfl) ?_
    | refine c_pick (d_fieldAddrB rfl rfl rfl) ?_
    | refine c_pick (d_loadBD rfl rfl rfl (by first | rfl | (simp only [pdE, cellsD]; rfl))) ?_
    | refine c_pick (d_bin2B rfl rfl rfl rfl) ?_
    | refine c_pick (d_call rfl (by kernel_rfl) rfl (by first | exact c2 | (simp only [← pdE]; exact c2))) ?_
    | refine c_pick (d_ariI rfl rfl rfl rfl (by first | omega | (dsimp only; omega))) ?_
    | refine c_pick (d_loadD rfl rfl (by first | rfl | (simp only [pdE, cellsD]; rfl))) ?_
    | fail)
    refine run_again ?_
    refine ⟨⟨j + 1, by omega, fun i a' b' hi ha' hb' => ?_⟩, id, by simp only; omega, ?_⟩
    · by_cases e : i = j
      · subst e
        rw [ha] at ha'; rw [hb] at hb'
        cases ha'; cases hb'
        exact hs
      · exact hall i a' b' (by omega) ha' hb'
    (refine ⟨?_, ?_, by rfl⟩ <;> repeat' (first | exact trivial | exact ALe.ptr rfl | exact ALe.own rfl | exact ALe.elt rfl | exact BLe.boxD _ _ | exact BLe.row rfl | exact BLe.res | exact BLe.dead rfl | exact ALe.dat (PLe.refl _) | exact CLe.nil | refine And.intro ?_ ?_ | refine ALe.iface ?_ | refine ALe.clo ?_ | refine CLe.cons ?_ ?_ | refine BLe.box ?_ | refine BLe.row ?_ | exact ALe.any _ | refine ALe.dat (PLe.of_eq ?_)))
  · have g2 : decide (0 ≤ cmpS a b) = true := decide_eq_true (by omega)
    rw [srtK_no ha hb (by omega)]
    repeat' (first
    | refine run_seq ?_
    | (refine k_pick rfl ?_; first | refine k_assignD rfl rfl ?_ | refine k_moveD rfl rfl ?_ | refine k_fieldAddrB rfl rfl rfl ?_ | refine k_loadBD rfl rfl rfl (by first | rfl | (simp only [pdE, cellsD]; rfl)) ?_ | refine k_bin2B rfl rfl rfl rfl ?_ | refine k_lenD rfl rfl ?_)
    | refine run_opsEnd ?_
    | refine run_region ?_
    | refine run_condT rfl (by first | rfl | assumption) ?_
    | refine run_block ?_
    | refine run_skip ?_
    | refine run_retOk (resOk_tmp rfl rfl ?_)
    | refine run_drawC (by kernel_rfl) ?_
    | refine c_nil (And.intro (by kernel_rfl) ?_)
    | refine c_pick (d_indexAddrD rfl rfl rfl (by first | omega | (dsimp only; omega)) (by assumption)) ?_
    | refine c_pick (d_moveD rfl rfl) ?_
    | refine c_pick (d_fieldAddrB rfl rfl rfl) ?_
    | refine c_pick (d_loadBD rfl rfl rfl (by first | rfl | (simp only [pdE, cellsD]; rfl))) ?_
    | refine c_pick (d_bin2B rfl rfl rfl rfl) ?_
    | refine c_pick (d_call rfl (by kernel_rfl) rfl (by first | exact c2 | (simp only [← pdE]; exact c2))) ?_
    | refine c_pick (d_ariI rfl rfl rfl rfl (by first | omega | (dsimp only; omega))) ?_
    | refine c_pick (d_loadD rfl rfl (by first | rfl | (simp only [pdE, cellsD]; rfl))) ?_
    | fail)
    all_goals exact PLe.refl _
/-- spec.OrderlyElem. -/
def ordE (x : EV) : Bool := ordV (cleanE x).v && (ordL (cleanE x).l && srtK (cleanE (cleanE x)).keys)
theorem ordElem_p (x : EV) : PCall Tryz.prog 37 [pdE x] (.val (.bool (ordE x))) := by
  unfold ordE
  have c0 := cleanE_p x
  generalize cleanE x = y at *
  have c1 := ordV_p y.v
  have c2 := ordVals_q y.l
  have c3 := keySorted_p y
  unfold pdE at *
  unfold qV at c1
  generalize ordV y.v = b1 at *
  generalize ordL y.l = b2 at *
  generalize srtK (cleanE y).keys = b3 at *
  refine pcall_of_run Tryz.func37 rfl Tryz.ntmps37 rfl (fun X => ?_)
  cases b1 <;> cases b2
  all_goals
    repeat' (first
    | refine run_seq ?_
    | (refine k_pick rfl ?_; first | refine k_assignD rfl rfl ?_ | refine k_moveD rfl rfl ?_ | refine k_fieldAddrB rfl rfl rfl ?_ | refine k_loadW rfl rfl rfl (by first | rfl | (simp only [cellsD]; rfl)) ?_ | refine k_loadBD rfl rfl rfl (by first | rfl | (simp only [cellsD]; rfl)) ?_ | refine k_pickT rfl rfl (by first | rfl | assumption) rfl ?_ | refine k_pickF rfl rfl (by first | rfl | assumption) rfl ?_ | refine k_boxW rfl rfl rfl (by first | rfl | (simp only [cellsD]; rfl)) ?_ | refine k_call rfl (by kernel_rfl) rfl (by first | exact c0 | exact c1 | exact c2 | exact c3) ?_ | refine k_storeW rfl rfl rfl (by first | rfl | (simp only [cellsD]; rfl)) (by first | rfl | (simp only [cellsD]; rfl)) rfl ?_)
    | refine run_opsEnd ?_
    | refine run_region ?_
    | (refine k_guardY rfl rfl (by first | rfl | assumption) ?_; first | refine k_fieldAddrB rfl rfl rfl ?_ | refine k_loadW rfl rfl rfl (by first | rfl | (simp only [cellsD]; rfl)) ?_ | refine k_loadBD rfl rfl rfl (by first | rfl | (simp only [cellsD]; rfl)) ?_ | refine k_call rfl (by kernel_rfl) rfl (by first | exact c0 | exact c1 | exact c2 | exact c3) ?_)
    | refine k_guardNT rfl rfl (by first | rfl | assumption) rfl ?_
    | refine run_retOk (resOk_tmp rfl rfl ?_)
    | fail)
  all_goals exact PLe.refl _
theorem OPE_ord {x : EV} (h : JPE (toPE x)) (ho : ordE x = true) : OPE (toPE x) := by
  unfold ordE at ho
  simp only [Bool.and_eq_true] at ho
  exact OPE_of h ho.1 ho.2.1
def pdP (l : List EV) : PD := .sl 11 168 (l.map pdE)
def dvP (l : List PEV) : PD := .sl 4 32 (l.map dvPE)
set_option maxHeartbeats 8000000 in
theorem ordPaths_p (ps : List (List EV)) : PCall Tryz.prog 21 [.sl 1 24 (ps.map pdP)] (.val (.bool (ps.all fun p => p.all ordE))) := by
  refine pcall_fits fun hfit => ?_
  have b1 := (hfit (.sl 1 24 (ps.map pdP)) (by simp)).sl.2.1
  have b3 : ∀ p ∈ ps, p.length ≤ 140737488351232 := fun p hp => by
    have h := (hfit (.sl 1 24 (ps.map pdP)) (by simp)).sl.2.2 (pdP p) (List.mem_map.2 ⟨p, hp, rfl⟩)
    unfold pdP at h
    simpa using h.sl.2.1
  clear hfit
  have n1 : (ps.map pdP).length = ps.length := by simp
  have ga : ∀ {i : Nat} {p : List EV}, ps[i]? = some p → (ps.map pdP)[((i : Nat) : Int).toNat]? = some (pdP p) := fun h => by simp [h]
  rw [n1] at b1
  generalize ps.map pdP = da at *
  refine pcall_of_run Tryz.func21 rfl Tryz.ntmps21 rfl (fun X => ?_)
  repeat' (first
    | refine run_seq ?_
    | (refine k_pick rfl ?_; first | refine k_assignD rfl rfl ?_ | refine k_moveD rfl rfl ?_ | refine k_lenD rfl rfl ?_)
    | refine run_opsEnd ?_
    | refine run_region ?_
    | refine run_block ?_
    | fail)
  refine run_loopS (ι := { j : Nat // j ≤ ps.length ∧ ∀ i p, i < j → ps[i]? = some p → p.all ordE = true })
    (fun j => [(7, .dat (.sl 1 24 da)), (8, .dat (.val (.int .i64 ((da.length : Nat) : Int)))), (9, .dat (.val (.int .i64 (j.1 : Nat))))])
    (fun _ => []) (fun j => ps.length - j.1) ⟨0, Nat.zero_le _, fun i _ h => absurd h (Nat.not_lt_zero i)⟩ id ?_ ?_
  · (refine ⟨?_, ?_, by rfl⟩ <;> repeat' (first | exact trivial | exact ALe.ptr rfl | exact ALe.own rfl | exact ALe.elt rfl | exact BLe.boxD _ _ | exact BLe.row rfl | exact BLe.res | exact BLe.dead rfl | exact ALe.dat (PLe.refl _) | exact CLe.nil | refine And.intro ?_ ?_ | refine ALe.iface ?_ | refine ALe.clo ?_ | refine CLe.cons ?_ ?_ | refine BLe.box ?_ | refine BLe.row ?_ | exact ALe.any _ | refine ALe.dat (PLe.of_eq ?_)))
  rintro ⟨j, hj, hall⟩
  by_cases hlt : j < ps.length
  rotate_left
  · have g1 : decide ((j : Int) < ((da.length : Nat) : Int)) = false := decide_eq_false (by omega)
    have e : (ps.all fun p => p.all ordE) = true := List.all_eq_true.2 fun p hp => by
      obtain ⟨i, hi⟩ := List.getElem?_of_mem hp
      exact hall i p (by have := (List.getElem?_eq_some_iff.1 hi).1; omega) hi
    rw [e]
    repeat' (first
    | refine run_seq ?_
    | (refine k_pick rfl ?_; first | refine k_assignD rfl rfl ?_ | refine k_bin2B rfl rfl rfl rfl ?_)
    | refine run_opsEnd ?_
    | refine run_region ?_
    | refine run_condF rfl (by first | rfl | assumption) ?_
    | refine run_exit rfl ?_
    | refine run_retOk (resOk_tmp rfl rfl ?_)
    | fail)
    all_goals exact PLe.refl _
  have g1 : decide ((j : Int) < ((da.length : Nat) : Int)) = true := decide_eq_true (by omega)
  obtain ⟨p, hp⟩ : ∃ p, ps[j]? = some p := ⟨_, List.getElem?_eq_getElem hlt⟩
  have i1 := ga hp
  have b2 := b3 p (List.mem_of_getElem? hp)
  have n2 : (p.map pdE).length = p.length := by simp
  have gb : ∀ {i : Nat} {x : EV}, p[i]? = some x → (p.map pdE)[((i : Nat) : Int).toNat]? = some (pdE x) := fun h => by simp [h]
  unfold pdP at i1
  repeat' (first
    | refine run_seq ?_
    | (refine k_pick rfl ?_; first | refine k_indexAddrD rfl rfl rfl (by first | omega | (dsimp only; omega)) (by assumption) ?_ | refine k_assignD rfl rfl ?_ | refine k_moveD rfl rfl ?_ | refine k_bin2B rfl rfl rfl rfl ?_ | refine k_lenD rfl rfl ?_ | refine k_loadD rfl rfl (by first | rfl | (simp only [cellsD]; rfl)) ?_)
    | refine run_opsEnd ?_
    | refine run_region ?_
    | refine run_condT rfl (by first | rfl | assumption) ?_
    | refine run_block ?_
    | refine run_skip ?_
    | fail)
  refine run_loopS (ι := { q : Nat // q ≤ p.length ∧ ∀ i x, i < q → p[i]? = some x → ordE x = true })
    (fun q => [(7, .dat (.sl 1 24 da)), (8, .dat (.val (.int .i64 ((da.length : Nat) : Int)))), (9, .dat (.val (.int .i64 (j : Nat)))), (13, .dat (.sl 11 168 (p.map pdE))), (14, .dat (.val (.int .i64 (((p.map pdE).length : Nat) : Int)))), (15, .dat (.val (.int .i64 (q.1 : Nat))))])
    (fun _ => []) (fun q => p.length - q.1) ⟨0, Nat.zero_le _, fun i _ h => absurd h (Nat.not_lt_zero i)⟩ id ?_ ?_
  · (refine ⟨?_, ?_, by rfl⟩ <;> repeat' (first | exact trivial | exact ALe.ptr rfl | exact ALe.own rfl | exact ALe.elt rfl | exact BLe.boxD _ _ | exact BLe.row rfl | exact BLe.res | exact BLe.dead rfl | exact ALe.dat (PLe.refl _) | exact CLe.nil | refine And.intro ?_ ?_ | refine ALe.iface ?_ | refine ALe.clo ?_ | refine CLe.cons ?_ ?_ | refine BLe.box ?_ | refine BLe.row ?_ | exact ALe.any _ | refine ALe.dat (PLe.of_eq ?_)))
  rintro ⟨q, hq, hallq⟩
  by_cases hltq : q < p.length
  rotate_left
  · have g2 : decide ((q : Int) < (((p.map pdE).length : Nat) : Int)) = false := decide_eq_false (by omega)
    have e : p.all ordE = true := List.all_eq_true.2 fun x hx => by
      obtain ⟨i, hi⟩ := List.getElem?_of_mem hx
      exact hallq i x (by have := (List.getElem?_eq_some_iff.1 hi).1; omega) hi
    repeat' (first
    | refine run_seq ?_
    | (refine k_pick rfl ?_; first | refine k_moveD rfl rfl ?_ | refine k_bin2B rfl rfl rfl rfl ?_ | refine k_ariI rfl rfl rfl rfl (by first | omega | (dsimp only; omega)) ?_)
    | refine run_opsEnd ?_
    | refine run_region ?_
    | refine run_condF rfl (by first | rfl | assumption) ?_
    | refine run_blkEnd ?_
    | refine run_exit rfl ?_
    | fail)
    refine run_again ?_
    refine ⟨⟨j + 1, by omega, fun i p' hi hp' => ?_⟩, id, by simp only; omega, ?_⟩
    · by_cases e' : i = j
      · subst e'
        rw [hp] at hp'; cases hp'
        exact e
      · exact hall i p' (by omega) hp'
    (refine ⟨?_, ?_, by rfl⟩ <;> repeat' (first | exact trivial | exact ALe.ptr rfl | exact ALe.own rfl | exact ALe.elt rfl | exact BLe.boxD _ _ | exact BLe.row rfl | exact BLe.res | exact BLe.dead rfl | exact ALe.dat (PLe.refl _) | exact CLe.nil | refine And.intro ?_ ?_ | refine ALe.iface ?_ | refine ALe.clo ?_ | refine CLe.cons ?_ ?_ | refine BLe.box ?_ | refine BLe.row ?_ | exact ALe.any _ | refine ALe.dat (PLe.of_eq ?_)))
  have g2 : decide ((q : Int) < (((p.map pdE).length : Nat) : Int)) = true := decide_eq_true (by omega)
  obtain ⟨x, hx⟩ : ∃ x, p[q]? = some x := ⟨_, List.getElem?_eq_getElem hltq⟩
  have i2 := gb hx
  have c1 := ordElem_p x
  cases ho : ordE x with
  | true =>
    rw [ho] at c1
    repeat' (first
    | refine run_seq ?_
    | (refine k_pick rfl ?_; first | refine k_indexAddrD rfl rfl rfl (by first | omega | (dsimp only; omega)) (by assumption) ?_ | refine k_moveD rfl rfl ?_ | refine k_loadW rfl rfl rfl (by first | rfl | (simp only [pdE, cellsD]; rfl)) ?_ | refine k_bin2B rfl rfl rfl rfl ?_ | refine k_call rfl (by kernel_rfl) rfl (by first | exact c1 | (simp only [← pdE]; exact c1)) ?_ | refine k_not rfl rfl ?_ | refine k_storeW rfl rfl rfl (by first | rfl | (simp only [pdE, cellsD]; rfl)) (by first | rfl | (simp only [pdE, cellsD]; rfl)) rfl ?_ | refine k_ariI rfl rfl rfl rfl (by first | omega | (dsimp only; omega)) ?_ | refine k_loadD rfl rfl (by first | rfl | (simp only [pdE, cellsD]; rfl)) ?_ | refine k_alloc rfl rfl ?_)
    | refine run_opsEnd ?_
    | refine run_region ?_
    | refine run_condT rfl (by first | rfl | assumption) ?_
    | refine run_condF rfl (by first | rfl | assumption) ?_
    | refine run_block ?_
    | refine run_blkEnd ?_
    | refine run_skip ?_
    | fail)
    refine run_again ?_
    refine ⟨⟨q + 1, by omega, fun i x' hi hx' => ?_⟩, id, by simp only; omega, ?_⟩
    · by_cases e' : i = q
      · subst e'
        rw [hx] at hx'; cases hx'
        exact ho
      · exact hallq i x' (by omega) hx'
    (refine ⟨?_, ?_, by rfl⟩ <;> repeat' (first | exact trivial | exact ALe.ptr rfl | exact ALe.own rfl | exact ALe.elt rfl | exact BLe.boxD _ _ | exact BLe.row rfl | exact BLe.res | exact BLe.dead rfl | exact ALe.dat (PLe.refl _) | exact CLe.nil | refine And.intro ?_ ?_ | refine ALe.iface ?_ | refine ALe.clo ?_ | refine CLe.cons ?_ ?_ | refine BLe.box ?_ | refine BLe.row ?_ | exact ALe.any _ | refine ALe.dat (PLe.of_eq ?_)))
  | false =>
    rw [ho] at c1
    have e : (ps.all fun p => p.all ordE) = false := List.all_eq_false.2 ⟨p, List.mem_of_getElem? hp, by
      simp only [Bool.not_eq_true]
      exact List.all_eq_false.2 ⟨x, List.mem_of_getElem? hx, by simp [ho]⟩⟩
    rw [e]
    repeat' (first
    | refine run_seq ?_
    | (refine k_pick rfl ?_; first | refine k_indexAddrD rfl rfl rfl (by first | omega | (dsimp only; omega)) (by assumption) ?_ | refine k_assignD rfl rfl ?_ | refine k_loadW rfl rfl rfl (by first | rfl | (simp only [pdE, cellsD]; rfl)) ?_ | refine k_bin2B rfl rfl rfl rfl ?_ | refine k_call rfl (by kernel_rfl) rfl (by first | exact c1 | (simp only [← pdE]; exact c1)) ?_ | refine k_not rfl rfl ?_ | refine k_storeW rfl rfl rfl (by first | rfl | (simp only [pdE, cellsD]; rfl)) (by first | rfl | (simp only [pdE, cellsD]; rfl)) rfl ?_ | refine k_loadD rfl rfl (by first | rfl | (simp only [pdE, cellsD]; rfl)) ?_ | refine k_alloc rfl rfl ?_)
    | refine run_opsEnd ?_
    | refine run_region ?_
    | refine run_condT rfl (by first | rfl | assumption) ?_
    | refine run_block ?_
    | refine run_skip ?_
    | refine run_retOk (resOk_tmp rfl rfl ?_)
    | fail)
    all_goals exact PLe.refl _
theorem dvPE_agg (p : PEV) : ∃ d0 d1 d2 d3, dvPE p = .agg [d0, d1, d2, d3] := by cases p <;> exact ⟨_, _, _, _, rfl⟩
set_option maxHeartbeats 8000000 in
theorem toPath_p (l : List EV) : PCall Tryz.prog 98 [pdP l] (dvP (l.map toPE)) := by
  refine pcall_fits fun hfit => ?_
  unfold pdP dvP at *
  have b0 := (hfit (.sl 11 168 (l.map pdE)) (by simp)).sl
  clear hfit
  have n1 : (l.map pdE).length = l.length := by simp
  have b1 := b0.1
  have b2 := b0.2.1
  rw [n1] at b1 b2
  clear b0
  have ga : ∀ {i : Nat} {x : EV}, l[i]? = some x → (l.map pdE)[((i : Nat) : Int).toNat]? = some (pdE x) := fun h => by simp [h]
  refine pcall_of_run Tryz.func98 rfl Tryz.ntmps98 rfl (fun X => ?_)
  repeat' (first
    | refine run_seq ?_
    | (refine k_pick rfl ?_; first | refine k_assignD rfl rfl ?_ | refine k_moveD rfl rfl ?_ | refine k_lenD rfl rfl ?_ | refine k_assignO rfl rfl ?_ | refine k_buildSlice rfl rfl (by kernel_rfl) rfl rfl rfl rfl rfl ?_)
    | refine run_opsEnd ?_
    | refine run_region ?_
    | refine run_block ?_
    | fail)
  refine run_loopS (ι := { k : Nat // k ≤ l.length })
    (fun k => [(3, .own 100), (7, .dat (.sl 11 168 (l.map pdE))), (8, .dat (.val (.int .i64 (((l.map pdE).length : Nat) : Int)))), (9, .dat (.val (.int .i64 (k.1 : Nat))))])
    (fun k => [(100, .row 99 4 32 ((l.take k.1).map fun x => dvPE (toPE x)))]) (fun k => l.length - k.1) ⟨0, Nat.zero_le _⟩ (fun j => if j = 100 then 6 else j) ?_ ?_
  · (refine ⟨?_, ?_, by rfl⟩ <;> repeat' (first | exact trivial | exact ALe.ptr rfl | exact ALe.own rfl | exact ALe.elt rfl | exact BLe.boxD _ _ | exact BLe.row rfl | exact BLe.res | exact BLe.dead rfl | exact ALe.dat (PLe.refl _) | exact CLe.nil | refine And.intro ?_ ?_ | refine ALe.iface ?_ | refine ALe.clo ?_ | refine CLe.cons ?_ ?_ | refine BLe.box ?_ | refine BLe.row ?_ | exact ALe.any _ | refine ALe.dat (PLe.of_eq ?_)))
  rintro ⟨k, hk⟩
  by_cases hlt : k < l.length
  · have hc : decide ((k : Int) < (((l.map pdE).length : Nat) : Int)) = true := decide_eq_true (by omega)
    obtain ⟨x, hx⟩ : ∃ x, l[k]? = some x := ⟨_, List.getElem?_eq_getElem hlt⟩
    have hi := ga hx
    have c1 := toElem_v x
    obtain ⟨d0, d1, d2, d3, e⟩ := dvPE_agg (toPE x)
    rw [e] at c1
    have hbt : (((l.take k).map fun x => dvPE (toPE x)).length + [PD.agg [d0, d1, d2, d3]].length) * 32 ≤ 140737488351232 := by simp; omega
    have hbl : ((l.take k).map fun x => dvPE (toPE x)).length + [PD.agg [d0, d1, d2, d3]].length ≤ 140737488351232 := by simp; omega
    repeat' (first
    | refine run_seq ?_
    | (refine k_pick rfl ?_; first | refine k_indexAddrD rfl rfl rfl (by first | omega | (dsimp only; omega)) (by assumption) ?_ | refine k_appendOO rfl rfl rfl rfl rfl rfl (by kernel_rfl) rfl rfl hbt hbl ?_ | refine k_moveD rfl rfl ?_ | refine k_loadW rfl rfl rfl (by first | rfl | (simp only [pdE, cellsD]; rfl)) ?_ | refine k_bin2B rfl rfl rfl rfl ?_ | refine k_call rfl (by kernel_rfl) rfl (by first | exact c1 | (simp only [← pdE]; exact c1)) ?_ | refine k_storeW rfl rfl rfl (by first | rfl | (simp only [pdE, cellsD]; rfl)) (by first | rfl | (simp only [pdE, cellsD]; rfl)) rfl ?_ | refine k_ariI rfl rfl rfl rfl (by first | omega | (dsimp only; omega)) ?_ | refine k_loadD rfl rfl (by first | rfl | (simp only [pdE, cellsD]; rfl)) ?_ | refine k_alloc rfl rfl ?_ | refine k_assignO rfl rfl ?_ | refine k_moveO rfl rfl ?_ | refine k_buildSlice rfl rfl (by kernel_rfl) rfl rfl rfl rfl rfl ?_)
    | refine run_opsEnd ?_
    | refine run_region ?_
    | refine run_condT rfl (by first | rfl | assumption) ?_
    | refine run_block ?_
    | refine run_blkEnd ?_
    | refine run_skip ?_
    | fail)
    refine run_again ?_
    refine ⟨⟨k + 1, by omega⟩, (fun j => if j = 100 then 17 else j), by simp only; omega, ?_⟩
    (refine ⟨?_, ?_, by rfl⟩ <;> repeat' (first | exact trivial | exact ALe.ptr rfl | exact ALe.own rfl | exact ALe.elt rfl | exact BLe.boxD _ _ | exact BLe.row rfl | exact BLe.res | exact BLe.dead rfl | exact ALe.dat (PLe.refl _) | exact CLe.nil | refine And.intro ?_ ?_ | refine ALe.iface ?_ | refine ALe.clo ?_ | refine CLe.cons ?_ ?_ | refine BLe.box ?_ | refine BLe.row ?_ | exact ALe.any _ | refine ALe.dat (PLe.of_eq ?_)))
    all_goals (simp [List.take_add_one, hx, e])
  · have hc : decide ((k : Int) < (((l.map pdE).length : Nat) : Int)) = false := decide_eq_false (by omega)
    have hkk : l.take k = l := List.take_of_length_le (by omega)
    simp only [hkk]
    refine run_frz (fun _ => false) (fun k => k == 100) ?_
    repeat' (first
    | refine run_seq ?_
    | (refine k_pick rfl ?_; first | refine k_assignD rfl rfl ?_ | refine k_moveD rfl rfl ?_ | refine k_bin2B rfl rfl rfl rfl ?_)
    | refine run_opsEnd ?_
    | refine run_region ?_
    | refine run_condF rfl (by first | rfl | assumption) ?_
    | refine run_exit rfl ?_
    | refine run_retOk (resOk_tmp rfl rfl ?_)
    | fail)
    all_goals exact PLe.of_eq (by rw [List.map_map]; rfl)
end Go.Proofs.YtgmahieoiifpfaaGreat
end
section
set_option linter.unusedVariables false
namespace Go.Proofs.YtgmahieoiifpfaaGreat
set_option linter.unusedSimpArgs false
section
variable {α : Type} (c : α → α → Int)
/-- Putting p into the sorted list. -/
def insL_ : List α → α → List α
  | [], p => [p]
  | m :: r, p => if c m p < 0 then m :: insL_ r p else if c m p = 0 then m :: r else p :: m :: r
def hasL_ (l : List α) (p : α) : Bool := l.any fun m => decide (c m p = 0)
def locL_ : List α → α → Nat
  | [], _ => 0
  | m :: r, p => if c m p < 0 then locL_ r p + 1 else 0
def fndL_ : List α → α → Bool
  | [], _ => false
  | m :: r, p => if c m p < 0 then fndL_ r p else decide (c m p = 0)
def setL_ (l : List α) : List α := l.foldl (insL_ c) []
variable {c}
theorem locL_le : ∀ (l : List α) (p : α), locL_ c l p ≤ l.length
  | [], _ => Nat.le_refl _
  | m :: r, p => by
    unfold locL_
    split
    · simpa using locL_le r p
    · simp
theorem sins_loc : ∀ (l : List α) (p : α), insL_ c l p = if fndL_ c l p then l else l.take (locL_ c l p) ++ p :: l.drop (locL_ c l p)
  | [], p => by simp [insL_, fndL_, locL_]
  | m :: r, p => by
    unfold insL_ fndL_ locL_
    by_cases h : c m p < 0
    · rw [if_pos h, if_pos h, if_pos h, sins_loc r p]
      split <;> simp
    · rw [if_neg h, if_neg h, if_neg h]
      by_cases h' : c m p = 0
      · simp [h']
      · simp [h']
theorem locL_lt : ∀ (l : List α) (p : α) (i : Nat) (x : α), i < locL_ c l p → l[i]? = some x → c x p < 0
  | [], _, _, _, h, _ => by simp [locL_] at h
  | m :: r, p, i, x, h, hx => by
    unfold locL_ at h
    by_cases h' : c m p < 0
    · rw [if_pos h'] at h
      cases i with
      | zero => simp at hx; subst hx; exact h'
      | succ i => exact locL_lt r p i x (by omega) (by simpa using hx)
    · rw [if_neg h'] at h; omega
/-- Sorted: each stands before all behind it. -/
def Srt (c : α → α → Int) (l : List α) : Prop := l.Pairwise fun a b => c a b < 0
structure OrdL (c : α → α → Int) (P : α → Prop) : Prop where
  tri : ∀ x y z, P x → P y → P z → Tri (c x y) (c y z) (c x z)
  swp : ∀ x y, P x → P y → c y x = - c x y
theorem fndL_at : ∀ (l : List α) (p : α), fndL_ c l p = match l[locL_ c l p]? with | some x => decide (c x p = 0) | none => false
  | [], _ => rfl
  | m :: r, p => by
    unfold fndL_ locL_
    by_cases h : c m p < 0
    · rw [if_pos h, if_pos h, fndL_at r p]
      simp
    · rw [if_neg h, if_neg h]
      rfl
theorem sins_mem : ∀ {l : List α} {p x : α}, x ∈ insL_ c l p → x = p ∨ x ∈ l
  | [], p, x, h => by simp [insL_] at h; exact .inl h
  | m :: r, p, x, h => by
    unfold insL_ at h
    split at h
    · rcases List.mem_cons.1 h with h | h
      · exact .inr (by simp [h])
      · rcases sins_mem h with h | h
        · exact .inl h
        · exact .inr (by simp [h])
    · split at h
      · exact .inr h
      · rcases List.mem_cons.1 h with h | h
        · exact .inl h
        · exact .inr h
variable {P : α → Prop}
theorem sins_P {l : List α} {p : α} (hl : ∀ x ∈ l, P x) (hp : P p) : ∀ x ∈ insL_ c l p, P x := fun x hx => by
  rcases sins_mem hx with rfl | h
  · exact hp
  · exact hl x h
theorem OrdL.self (O : OrdL c P) {x : α} (hx : P x) : c x x = 0 := by
  have := O.swp x x hx hx
  omega
theorem OrdL.lt (O : OrdL c P) {x y z : α} (hx : P x) (hy : P y) (hz : P z) (h : c x y < 0) (h' : c y z < 0) : c x z < 0 := by
  obtain ⟨h1, h2, h3, h4, h5, h6, h7⟩ := O.tri x y z hx hy hz
  have := h6 (by omega) (by omega)
  omega
theorem sins_srt (O : OrdL c P) : ∀ {l : List α} {p : α}, (∀ x ∈ l, P x) → P p → Srt c l → Srt c (insL_ c l p)
  | [], p, _, _, _ => by simp [insL_, Srt]
  | m :: r, p, hl, hp, hs => by
    have hm : P m := hl m (by simp)
    have hr : ∀ x ∈ r, P x := fun x hx => hl x (by simp [hx])
    unfold Srt at hs
    rw [List.pairwise_cons] at hs
    unfold insL_
    by_cases h : c m p < 0
    · rw [if_pos h]
      unfold Srt
      rw [List.pairwise_cons]
      refine ⟨fun x hx => ?_, sins_srt O hr hp hs.2⟩
      rcases sins_mem hx with rfl | hx
      · exact h
      · exact hs.1 x hx
    · rw [if_neg h]
      by_cases h' : c m p = 0
      · rw [if_pos h']
        unfold Srt
        rw [List.pairwise_cons]
        exact hs
      · rw [if_neg h']
        have hpm : c p m < 0 := by
          have := O.swp m p hm hp
          omega
        unfold Srt
        rw [List.pairwise_cons, List.pairwise_cons]
        refine ⟨fun x hx => ?_, hs⟩
        rcases List.mem_cons.1 hx with rfl | hx
        · exact hpm
        · exact O.lt hp hm (hr x hx) hpm (hs.1 x hx)
theorem has_cons (m : α) (r : List α) (q : α) : hasL_ c (m :: r) q = (decide (c m q = 0) || hasL_ c r q) := rfl
theorem has_ins (O : OrdL c P) : ∀ {l : List α} {p q : α}, (∀ x ∈ l, P x) → P p → P q → hasL_ c (insL_ c l p) q = (hasL_ c l q || decide (c p q = 0))
  | [], p, q, _, _, _ => by simp [insL_, hasL_]
  | m :: r, p, q, hl, hp, hq => by
    have hm : P m := hl m (by simp)
    have hr : ∀ x ∈ r, P x := fun x hx => hl x (by simp [hx])
    unfold insL_
    by_cases h : c m p < 0
    · rw [if_pos h, has_cons, has_cons, has_ins O hr hp hq, Bool.or_assoc]
    · rw [if_neg h]
      by_cases h' : c m p = 0
      · rw [if_pos h', has_cons]
        have e : c m q = c p q := (O.tri m p q hm hp hq).zp h'
        rw [e]
        cases decide (c p q = 0) <;> cases hasL_ c r q <;> rfl
      · rw [if_neg h', has_cons, Bool.or_comm]
/-- Behind one that does not stand before p, in a sorted list, none equals p or stands before it. -/
theorem srt_gt (O : OrdL c P) {m : α} {r : List α} {p : α} (hm : P m) (hr : ∀ x ∈ r, P x) (hp : P p) (hs : Srt c (m :: r)) (h : ¬ c m p < 0) : ∀ x ∈ r, 0 < c x p := by
  intro x hx
  unfold Srt at hs
  rw [List.pairwise_cons] at hs
  have h1 := hs.1 x hx
  have hP := hr x hx
  obtain ⟨a1, a2, a3, a4, a5, a6, a7⟩ := O.tri x m p hP hm hp
  have := O.swp m x hm hP
  by_cases h0 : c m p = 0
  · have := a5 h0; omega
  · have := a7 (by omega) (by omega); omega
theorem locL_ge (O : OrdL c P) : ∀ {l : List α} {p : α}, (∀ x ∈ l, P x) → P p → Srt c l → ∀ (i : Nat) (x : α), locL_ c l p ≤ i → l[i]? = some x → ¬ c x p < 0
  | [], _, _, _, _, _, _, _, hx => by simp at hx
  | m :: r, p, hl, hp, hs, i, x, hi, hx => by
    have hm : P m := hl m (by simp)
    have hr : ∀ x ∈ r, P x := fun x hx => hl x (by simp [hx])
    unfold locL_ at hi
    by_cases h : c m p < 0
    · rw [if_pos h] at hi
      cases i with
      | zero => omega
      | succ i => exact locL_ge O hr hp (by unfold Srt at hs ⊢; exact (List.pairwise_cons.1 hs).2) i x (by omega) (by simpa using hx)
    · cases i with
      | zero => simp at hx; subst hx; exact h
      | succ i =>
        have := srt_gt O hm hr hp hs h x (List.mem_of_getElem? (by simpa using hx))
        omega
theorem foldl_ins (O : OrdL c P) : ∀ (l acc : List α), (∀ x ∈ l, P x) → (∀ x ∈ acc, P x) → Srt c acc → (∀ x ∈ l.foldl (insL_ c) acc, P x) ∧ Srt c (l.foldl (insL_ c) acc) ∧ ∀ q, P q → hasL_ c (l.foldl (insL_ c) acc) q = (hasL_ c acc q || hasL_ c l q)
  | [], acc, _, h, hs => ⟨h, hs, fun q _ => by simp [hasL_]⟩
  | p :: r, acc, hl, h, hs => by
    have hp : P p := hl p (by simp)
    have hr : ∀ x ∈ r, P x := fun x hx => hl x (by simp [hx])
    obtain ⟨h1, h2, h3⟩ := foldl_ins O r (insL_ c acc p) hr (sins_P h hp) (sins_srt O h hp hs)
    rw [List.foldl_cons]
    refine ⟨h1, h2, fun q hq => ?_⟩
    rw [h3 q hq, has_ins O h hp hq, has_cons, Bool.or_assoc]
theorem set_P (O : OrdL c P) {l : List α} (hl : ∀ x ∈ l, P x) : ∀ x ∈ setL_ c l, P x := (foldl_ins O l [] hl (by simp) (by simp [Srt])).1
theorem set_srt (O : OrdL c P) {l : List α} (hl : ∀ x ∈ l, P x) : Srt c (setL_ c l) := (foldl_ins O l [] hl (by simp) (by simp [Srt])).2.1
theorem has_set (O : OrdL c P) {l : List α} (hl : ∀ x ∈ l, P x) {q : α} (hq : P q) : hasL_ c (setL_ c l) q = hasL_ c l q := by
  unfold setL_
  rw [(foldl_ins O l [] hl (by simp) (by simp [Srt])).2.2 q hq]; rfl
end
theorem ordPE : OrdL cmpPE OPE := ⟨fun _ _ _ => tri_PE, fun _ _ h h' => swap_PE h.j h'.j⟩
end Go.Proofs.YtgmahieoiifpfaaGreat
end
section
set_option linter.unusedVariables false
namespace Go.Proofs.YtgmahieoiifpfaaGreat
open Go.RowKit
set_option linter.unusedSimpArgs false
theorem Tryz.infoPE : ∃ i, Tryz.prog.info? 99 = some i ∧ i.zero = some (.agg #[.pointer none, .pointer none, .pointer none, .pointer none]) ∧ i.size = 4 ∧ i.bytes = 32 := by
  have h : (Tryz.prog.info? 99).map (fun i => (i.zero, i.size, i.bytes)) = some (some (.agg #[.pointer none, .pointer none, .pointer none, .pointer none]), 4, 32) := by kernel_rfl
  cases hq : Tryz.prog.info? 99 with
  | none => rw [hq] at h; cases h
  | some i =>
    rw [hq] at h
    simp only [Option.map_some, Option.some.injEq, Prod.mk.injEq] at h
    exact ⟨i, rfl, h.1, h.2.1, h.2.2⟩
set_option maxHeartbeats 4000000 in
set_option maxRecDepth 100000 in
/-- At the end. -/
theorem insPE_end (w : World) (base : Nat) (v : Value) (g2 c2 len : Nat) (xs news : List Value) (hv : w.ownsRow base 99 4 v len xs) (hu : w.ownsRow base 99 4 (.slice (some ⟨g2, 0, none⟩) 1 c2) 1 news)
    (hb : (len + 1) * 32 ≤ 140737488351232) (hl : len + 1 ≤ 140737488351232) (hw : base ≤ w.heap.size) (h1 : ∀ c ∈ news, c.oneCell' = true) :
    Calls Tryz.prog 218 #[v, .int .i64 (len : Int), .slice (some ⟨g2, 0, none⟩) 1 c2] w fun e' w' => ∃ v', e' = .returned v' ∧ w'.ownsRow base 99 4 v' (len + 1) (xs ++ news) ∧ w.grownBy w' v.ownBlock ∧ (∀ b, blkOf v' = some b → w.heap.size ≤ b ∨ v.ownBlock = some b) := by
  obtain ⟨inf, hi, hz, hs, hy⟩ := Tryz.infoPE
  have hnews : news.length = 1 * 4 := hu.1
  have hlies : Lies w g2 0 news := fun j u hj => by
    have := hu.cells (g := g2) rfl j u hj
    rwa [Addr_add] at this
  obtain ⟨v', w', hr, r1, r2, r3⟩ := run_append_row (P := Tryz.prog) base 114 114 99 inf _ 4 32 Tryz.underlying114 hi hz hs hy rfl (by omega) hv (ad := some ⟨g2, 0, none⟩) (m := 1) (c := c2) hnews (.inr ⟨g2, 0, rfl, hlies⟩) h1 (by unfold maxLen; omega) (by omega) hw
  obtain ⟨a, c, rfl⟩ : ∃ a c, v = .slice a len c := by
    rcases hv.2 with ⟨rfl, rfl⟩ | ⟨g, cap, cur, rfl, _⟩
    · exact ⟨_, _, rfl⟩
    · exact ⟨_, _, rfl⟩
  have hc : len ≤ c := by
    rcases hv.2 with ⟨e, e2⟩ | ⟨g, cap, cur, e, _, _, h, _⟩
    · omega
    · injection e with _ _ e; omega
  rw [← append_types Tryz.underlying114 Tryz.underlying113] at hr
  have HR := Lib.hid (And.intro r1 (And.intro r2 r3))
  clear r1 r2 r3 hv hu hlies
  generalize (Value.slice a len c).ownBlock = ob at *
  go_enter Tryz.func218, Tryz.ntmps218
  go_wp2_with (at_builtin; refine Lib.wpList_append_run _ rfl _ _ _ _ rfl _ _ rfl rfl _ _ hr ?_)
  all_goals
    go_ret
    obtain ⟨r1, r2, r3⟩ := HR.out
    exact ⟨_, rfl, r1, r2, r3⟩
theorem setRow_oth {w : World} {g b : Nat} {cs : Array Value} (h : b ≠ g) : (w.setRow g cs).heap[b]? = w.heap[b]? := by
  unfold World.setRow
  simp only
  rw [Array.getElem?_modify, if_neg (fun e => h e.symm)]
theorem setRow_size {w : World} {g : Nat} {cs : Array Value} : (w.setRow g cs).heap.size = w.heap.size := by
  unfold World.setRow
  simp
theorem row_cell {w : World} {g : Nat} {cur : Array Value} {t : TypeId} {fz : Nat × Nat} (h : w.heap[g]? = some (.cells cur t fz)) {j : Nat} {u : Value} (hu : cur.toList[j]? = some u) : w.cell? ⟨g, j, none⟩ = some u := by
  rw [Array.getElem?_toList] at hu
  simp [World.cell?, h, hu]
theorem ls1 {α : Type} (xs rest : List α) {p q r : Nat} (hp : p + 4 ≤ xs.length) (hq : p + 4 + r = xs.length + 4) (hq2 : q = p + 4 := by omega) : (xs ++ rest).take q ++ xs.drop p ++ (xs ++ rest).drop (q + r) = xs.take (p + 4) ++ xs.drop p ++ rest.drop 4 := by
  subst hq2
  have e : (xs ++ rest).drop (xs.length + 4) = rest.drop 4 := by
    rw [List.drop_append, List.drop_eq_nil_of_le (Nat.le_add_right _ _), List.nil_append, Nat.add_sub_cancel_left]
  rw [List.take_append_of_le_length hp, hq, e]
theorem ls2 {α : Type} (xs rest news : List α) {p : Nat} (hp : p + 4 ≤ xs.length) : (xs.take (p + 4) ++ xs.drop p ++ rest.drop 4).take p ++ news ++ (xs.take (p + 4) ++ xs.drop p ++ rest.drop 4).drop (p + 4) = xs.take p ++ news ++ xs.drop p ++ rest.drop 4 := by
  rw [List.append_assoc (xs.take (p + 4)), List.drop_left' (by simp; omega), List.take_append_of_le_length (by simp; omega), List.take_take, Nat.min_eq_left (by omega)]
  simp
set_option maxHeartbeats 4000000 in
set_option maxRecDepth 100000 in
/-- Ahead of others, where there is room. -/
theorem insPE_room (w : World) (base g cap g2 c2 len i : Nat) (cur : Array Value) (xs rest news : List Value) (hbg : base ≤ g) (hg : w.heap[g]? = some (.cells cur 99 (0, 0))) (hcm : cap ≤ maxLen) (hcs : cur.size = cap * 4) (hcur : cur.toList = xs ++ rest) (hxs : xs.length = len * 4)
    (hu : w.ownsRow base 99 4 (.slice (some ⟨g2, 0, none⟩) 1 c2) 1 news) (hne : g2 ≠ g) (hi : i < len) (hroom : len + 1 ≤ cap)
    (hl : len + 1 ≤ 140737488351232) (h1x : ∀ c ∈ xs, c.oneCell' = true) (h1 : ∀ c ∈ news, c.oneCell' = true) :
    Calls Tryz.prog 218 #[.slice (some ⟨g, 0, none⟩) len cap, .int .i64 (i : Int), .slice (some ⟨g2, 0, none⟩) 1 c2] w fun e' w' => ∃ v', e' = .returned v' ∧ w'.ownsRow base 99 4 v' (len + 1) (xs.take (i * 4) ++ news ++ xs.drop (i * 4)) ∧ w.grownBy w' (some g) ∧ (∀ b, blkOf v' = some b → w.heap.size ≤ b ∨ (some g) = some b) := by
  obtain ⟨inf, hinf, hz, hs, hy⟩ := Tryz.infoPE
  have hsz : (Tryz.prog.info? 99).map (·.size) = some 4 := by rw [hinf]; simp [hs]
  have hrl : rest.length = (cap - len) * 4 := by
    have := congrArg List.length hcur
    simp only [Array.length_toList, List.length_append] at this
    omega
  have hnews : news.length = 4 := by have := hu.1; omega
  obtain ⟨cur2, hg2, hc2⟩ : ∃ cur2, w.heap[g2]? = some (.cells cur2 99 (0, 0)) ∧ cur2.toList.take 4 = news ∧ cur2.size ≠ 0 := by
    rcases hu.2 with ⟨e, _⟩ | ⟨g', cap', cur', e, _, h1, h2, h3, h4, h5⟩
    · cases e
    · injection e with e1 _ _
      injection e1 with e1
      injection e1 with e1
      subst e1
      exact ⟨cur', h1, h5, by omega⟩
  have hlies : ∀ j u, news[j]? = some u → w.cell? ⟨g2, j, none⟩ = some u := fun j u hj => by
    refine row_cell hg2 ?_
    rw [← hc2.1] at hj
    rw [List.getElem?_take] at hj
    split at hj
    · exact hj
    · cases hj
  have hov : ∀ o lb cb, (callFunc 239 #[.slice (some ⟨g2, 0, none⟩) 1 c2, .slice (some ⟨g, o, none⟩) lb cb]).run Tryz.prog w = .ok (.value (.bool false)) w := fun o lb cb => by
    rw [run_callFunc_extern (fn := Tryz.f239) Tryz.func239 (by kernel_rfl) (by kernel_rfl) (by kernel_rfl) (e := Extern.SlicesOverlaps.overlaps #[113, 113] #[4]) (by kernel_rfl),
      Lib.run_overlaps_apart w 113 4 99 Tryz.underlying113 4 (fun w => by simp [sizeOf, typeInfo, hinf, hs]) ⟨g2, 0, none⟩ ⟨g, o, none⟩ 1 c2 lb cb hne 99 99 cur2.size cur.size (by simp [World.shape?, hg2]) (by simp [World.shape?, hg]) (by omega) (by simp [World.frozen?, hg2]) (by simp [World.frozen?, hg2])]
    rfl
  obtain ⟨curA, hA⟩ : ∃ c : Array Value, c = (xs.take (i * 4 + 4) ++ xs.drop (i * 4) ++ rest.drop 4).toArray := ⟨_, rfl⟩
  obtain ⟨curB, hB⟩ : ∃ c : Array Value, c = (xs.take (i * 4) ++ news ++ xs.drop (i * 4) ++ rest.drop 4).toArray := ⟨_, rfl⟩
  have hdl : (xs.drop (i * 4)).length = (len - i) * 4 := by rw [List.length_drop, hxs]; omega
  have hmin1 : Nat.min (len + 1 - i) (len - i) = len - i := by simp only [Nat.min_def]; split <;> omega
  have hmin2 : Nat.min 1 (len + 1 - i) = 1 := by simp only [Nat.min_def]; split <;> omega
  have hcp1 : ∀ ty dc sc, (Builtin.copy_ #[114, 114] ty #[.slice (some ⟨g, (i + 1) * 4, none⟩) (len - i) dc, .slice (some ⟨g, i * 4, none⟩) (len + 1 - i) sc]).run Tryz.prog w.drew = .ok (goInt ((len - i : Nat) : Int)) (w.drew.setRow g curA) := fun ty dc sc => by
    have := run_copy_rowN (P := Tryz.prog) (w := w.drew) 114 114 ty 99 4 g ((i + 1) * 4) (len - i) dc ⟨g, i * 4, none⟩ (len + 1 - i) sc cur 99 (xs.drop (i * 4)) Tryz.underlying114 hsz hg (by rw [hmin1, hdl])
      (fun j u hj => by
        rw [Addr_add]
        refine row_cell (w := w.drew) hg ?_
        rw [List.getElem?_drop] at hj
        rw [hcur, List.getElem?_append_left (List.getElem?_eq_some_iff.1 hj).1]
        exact hj) (by rw [hdl, hcs]; omega) (fun u hu => h1x u (List.mem_of_mem_drop hu))
    rw [hmin1] at this
    rw [this, hA, hcur, hdl]
    congr 3
    exact ls1 xs rest (p := i * 4) (r := (len - i) * 4) (by omega) (by omega) (by omega)
  have hgA : (w.drew.setRow g curA).heap[g]? = some (.cells curA 99 (0, 0)) := setRow_heap w.drew g cur curA 99 _ hg
  have hcp2 : ∀ (W : World), W.heap = (w.drew.setRow g curA).heap → ∀ ty dc, (Builtin.copy_ #[114, 113] ty #[.slice (some ⟨g, i * 4, none⟩) (len + 1 - i) dc, .slice (some ⟨g2, 0, none⟩) 1 c2]).run Tryz.prog W = .ok (goInt ((1 : Nat) : Int)) (W.setRow g curB) := fun W hW ty dc => by
    have := run_copy_rowN (P := Tryz.prog) (w := W) 114 113 ty 99 4 g (i * 4) (len + 1 - i) dc ⟨g2, 0, none⟩ 1 c2 curA 99 news Tryz.underlying114 hsz (by rw [hW]; exact hgA) (by rw [hmin2, hnews])
      (fun j u hj => by
        rw [Addr_add, Nat.zero_add]
        rw [World.cell?_of_block (w := w) (a := ⟨g2, j, none⟩) (by rw [hW]; exact setRow_oth hne)]
        exact hlies j u hj) (by rw [hA, hnews]; simp [hxs, hdl, hrl]; omega) h1
    rw [hmin2] at this
    rw [this, hA, hB, hnews]
    congr 3
    exact ls2 xs rest news (by omega)
  have FIN : ((w.drew.setRow g curA).setRow g curB).ownsRow base 99 4 (.slice (some ⟨g, 0, none⟩) (len + 1) cap) (len + 1) (xs.take (i * 4) ++ news ++ xs.drop (i * 4)) ∧ w.grownBy ((w.drew.setRow g curA).setRow g curB) (some g) ∧ (∀ b, blkOf (.slice (some ⟨g, 0, none⟩) (len + 1) cap) = some b → w.heap.size ≤ b ∨ (some g) = some b) := by
    have hlen : (xs.take (i * 4) ++ news ++ xs.drop (i * 4)).length = (len + 1) * 4 := by simp only [List.length_append, List.length_take, List.length_drop, hxs, hnews]; omega
    refine ⟨⟨hlen, .inr ⟨g, cap, curB, rfl, hbg, setRow_heap (w.drew.setRow g curA) g curA curB _ _ hgA, hroom, hcm, ?_, ?_⟩⟩, ⟨rfl, rfl, rfl, by rw [setRow_size, setRow_size]; exact Nat.le_refl _, fun k _ hk => ?_⟩, fun b hb => .inr (by simpa [blkOf] using hb)⟩
    · rw [hB, List.size_toArray, List.length_append, hlen, List.length_drop, hrl]; omega
    · rw [hB]; exact List.take_left' hlen
    · rw [setRow_oth (fun e => hk (by rw [e])), setRow_oth (fun e => hk (by rw [e]))]; rfl
  clear hA hB
  have mixed : Tryz.prog.follows Departure.mixedOrders = true := by kernel_rfl
  have hb2 : ¬ (cap = i + 1) := by omega
  have hb4 : ¬ (cap = i) := by omega
  have hin : i ≤ len := by omega
  have hb3 : (i : Int) ≤ (len : Int) + 1 := by omega
  have hw1 : IntKind.i64.wrap ((i : Int) + 1) = (i : Int) + 1 := by rw [IntKind.wrap_i64]; omega
  have htn : ((i : Int) + 1).toNat = i + 1 := by omega
  have hb1 : (0 : Int) ≤ (i : Int) + 1 := by omega
  go_enter Tryz.func218, Tryz.ntmps218
  go_wp2_with (simp only [hov])
  go_region_law_o (refine step_copy_runI rfl _ _ 114 114 rfl _ _ (by simp [Act.eval, Act.put]) (by simp [Act.eval, Act.put]) (hcp1 _ _ _) ?_)
  go_wp2_with (at_builtin; refine wpList_copy_runI _ rfl _ _ 114 113 rfl _ _ rfl rfl (hcp2 _ rfl _ _) ?_)
  go_ret
  exact ⟨_, rfl, FIN⟩
theorem ls3 {α : Type} (A Z news : List α) {p : Nat} (hA : A.length = p) : (A ++ Z).take p ++ news ++ (A ++ Z).drop (p + 4) = A ++ news ++ Z.drop 4 := by
  rw [List.take_left' hA, List.drop_append, List.drop_eq_nil_of_le (by omega : A.length ≤ p + 4), hA, List.nil_append, Nat.add_sub_cancel_left]
theorem ls4 {α : Type} (A Y D news : List α) {p r q : Nat} (hA : A.length = p) (hn : news.length = 4) (hq : q = p + 4) : (A ++ news ++ Y).take q ++ D ++ (A ++ news ++ Y).drop (q + r) = A ++ news ++ D ++ Y.drop r := by
  have h : (A ++ news).length = q := by rw [List.length_append, hA, hn, hq]
  have e : (A ++ news ++ Y).drop (q + r) = Y.drop r := by
    rw [List.drop_append, List.drop_eq_nil_of_le (by omega), h, List.nil_append, Nat.add_sub_cancel_left]
  rw [List.take_left' h, e]
set_option maxHeartbeats 4000000 in
set_option maxRecDepth 100000 in
/-- Ahead of others, where there is no room. -/
theorem insPE_grow (w : World) (base g cap g2 c2 len i : Nat) (cur : Array Value) (xs news : List Value) (hbw : base ≤ w.heap.size) (hg : w.heap[g]? = some (.cells cur 99 (0, 0))) (hcur : cur.toList.take (len * 4) = xs) (hxs : xs.length = len * 4)
    (hu : w.ownsRow base 99 4 (.slice (some ⟨g2, 0, none⟩) 1 c2) 1 news) (hi : i < len) (hle : len ≤ cap) (hroom : cap < len + 1)
    (hb : (len + 1) * 32 ≤ 140737488351232) (hl : len + 1 ≤ 140737488351232) (h1x : ∀ c ∈ xs, c.oneCell' = true) (h1 : ∀ c ∈ news, c.oneCell' = true) :
    Calls Tryz.prog 218 #[.slice (some ⟨g, 0, none⟩) len cap, .int .i64 (i : Int), .slice (some ⟨g2, 0, none⟩) 1 c2] w fun e' w' => ∃ v', e' = .returned v' ∧ w'.ownsRow base 99 4 v' (len + 1) (xs.take (i * 4) ++ news ++ xs.drop (i * 4)) ∧ w.grownBy w' (some g) ∧ (∀ b, blkOf v' = some b → w.heap.size ≤ b ∨ (some g) = some b) := by
  obtain ⟨inf, hinf, hz, hs, hy⟩ := Tryz.infoPE
  have hsz : (Tryz.prog.info? 99).map (·.size) = some 4 := by rw [hinf]; simp [hs]
  have hnews : news.length = 4 := by have := hu.1; omega
  obtain ⟨cur2, hg2, hc2⟩ : ∃ cur2, w.heap[g2]? = some (.cells cur2 99 (0, 0)) ∧ cur2.toList.take 4 = news := by
    rcases hu.2 with ⟨e, _⟩ | ⟨g', cap', cur', e, _, h1, h2, h3, h4, h5⟩
    · cases e
    · injection e with e1 _ _
      injection e1 with e1
      injection e1 with e1
      subst e1
      exact ⟨cur', h1, h5⟩
  have hlies : ∀ j u, news[j]? = some u → w.cell? ⟨g2, j, none⟩ = some u := fun j u hj => by
    refine row_cell hg2 ?_
    rw [← hc2, List.getElem?_take] at hj
    split at hj
    · exact hj
    · cases hj
  have hliex : ∀ j u, xs[j]? = some u → w.cell? ⟨g, j, none⟩ = some u := fun j u hj => by
    refine row_cell hg ?_
    rw [← hcur, List.getElem?_take] at hj
    split at hj
    · exact hj
    · cases hj
  have hgw : g < w.heap.size := (Array.getElem?_eq_some_iff.1 hg).1
  have hg2w : g2 < w.heap.size := (Array.getElem?_eq_some_iff.1 hg2).1
  obtain ⟨G, hG⟩ : ∃ G, G = grownCap w (len + 1) cap 99 := ⟨_, rfl⟩
  have hGn : len + 1 ≤ G := by rw [hG]; exact grownCap_ge w _ _ _
  have hGm : G ≤ maxLen := by rw [hG]; exact grownCap_le_maxLen w _ _ _ (by unfold maxLen; omega)
  obtain ⟨ROW, hROW⟩ : ∃ ROW : Array Value, ROW = (xs.take (i * 4)).toArray ++ Builtin.zeroCells (Value.agg #[.pointer none, .pointer none, .pointer none, .pointer none]).cells (len + 1 - i) ++ Builtin.zeroCells (Value.agg #[.pointer none, .pointer none, .pointer none, .pointer none]).cells (G - (len + 1)) := ⟨_, rfl⟩
  obtain ⟨Z, hZ, hZl⟩ : ∃ Z : List Value, ROW.toList = xs.take (i * 4) ++ Z ∧ Z.length = (G - i) * 4 := by
    refine ⟨(Builtin.zeroCells (Value.agg #[.pointer none, .pointer none, .pointer none, .pointer none]).cells (len + 1 - i)).toList ++ (Builtin.zeroCells (Value.agg #[.pointer none, .pointer none, .pointer none, .pointer none]).cells (G - (len + 1))).toList, by rw [hROW]; simp, ?_⟩
    rw [List.length_append, Array.length_toList, Array.length_toList, size_zeroCells, size_zeroCells]
    simp only [Value.cells, List.size_toArray, List.length_cons, List.length_nil]
    omega
  have htl : (xs.take (i * 4)).length = i * 4 := by rw [List.length_take, hxs]; omega
  have hdl : (xs.drop (i * 4)).length = (len - i) * 4 := by rw [List.length_drop, hxs]; omega
  have hRs : ROW.size = G * 4 := by rw [← Array.length_toList, hZ, List.length_append, htl, hZl]; omega
  have hold : (Builtin.firstCells inf.size i (.slice (some ⟨g, 0, none⟩) i cap)).run Tryz.prog w.drew = .ok (xs.take (i * 4)).toArray w.drew := by
    rw [hs]
    exact run_firstCells_some w.drew 4 i ⟨g, 0, none⟩ i cap (xs.take (i * 4)) htl (fun j v hj => by
      rw [Addr_add, Nat.zero_add]
      rw [List.getElem?_take] at hj
      split at hj
      · exact hliex j v hj
      · cases hj)
  have hrz : ∀ ty, (Builtin.append_ #[114, 3] ty #[.slice (some ⟨g, 0, none⟩) i cap, .int .i64 ((len : Int) + 1 - (i : Int))]).run Tryz.prog w = .ok (.slice (some ⟨w.heap.size, 0, none⟩) (len + 1) G) (w.drew.alloc (.cells ROW 99)) := fun ty => by
    have h := Lib.run_append_grow_zeros (P := Tryz.prog) w 114 3 ty 99 inf _ .i64 .i64 Tryz.underlying114 Tryz.underlying3 hinf hz (some ⟨g, 0, none⟩) i cap (xs.take (i * 4)) hold (len + 1 - i) (by omega) (by omega) (by omega) (by omega) (by rw [hy]; omega) (by rw [hy, show i + (len + 1 - i) = len + 1 by omega]; exact growslice_fits hroom (by omega))
    rw [show i + (len + 1 - i) = len + 1 by omega, ← hG] at h
    rw [show ((len : Int) + 1 - (i : Int)) = ((len + 1 - i : Nat) : Int) by omega, h, hROW]
  obtain ⟨curB, hB⟩ : ∃ c : Array Value, c = (xs.take (i * 4) ++ news ++ Z.drop 4).toArray := ⟨_, rfl⟩
  obtain ⟨curC, hC⟩ : ∃ c : Array Value, c = (xs.take (i * 4) ++ news ++ xs.drop (i * 4) ++ (Z.drop 4).drop ((len - i) * 4)).toArray := ⟨_, rfl⟩
  have hN1 : (w.alloc (.cells ROW 99)).heap[w.heap.size]? = some (.cells ROW 99 (0, 0)) := heap_alloc_new w _
  have hNB : ((w.alloc (.cells ROW 99)).setRow w.heap.size curB).heap[w.heap.size]? = some (.cells curB 99 (0, 0)) := setRow_heap _ _ ROW curB 99 _ hN1
  have hNC : (((w.alloc (.cells ROW 99)).setRow w.heap.size curB).setRow w.heap.size curC).heap[w.heap.size]? = some (.cells curC 99 (0, 0)) := setRow_heap _ _ curB curC 99 _ hNB
  have hold1 : ∀ b, b < w.heap.size → (w.alloc (.cells ROW 99)).heap[b]? = w.heap[b]? := fun b h => Below.heap_alloc _ _ _ h
  have hmin1 : Nat.min (len - i) (len + 1 - (i + 1)) = len - i := by simp only [Nat.min_def]; split <;> omega
  have hmin2 : Nat.min 1 (len + 1 - i) = 1 := by simp only [Nat.min_def]; split <;> omega
  have hcpA : ∀ (W : World), W.heap = (w.alloc (.cells ROW 99)).heap → ∀ ty dc, (Builtin.copy_ #[114, 113] ty #[.slice (some ⟨w.heap.size, i * 4, none⟩) (len + 1 - i) dc, .slice (some ⟨g2, 0, none⟩) 1 c2]).run Tryz.prog W = .ok (goInt ((1 : Nat) : Int)) (W.setRow w.heap.size curB) := fun W hW ty dc => by
    have := run_copy_rowN (P := Tryz.prog) (w := W) 114 113 ty 99 4 w.heap.size (i * 4) (len + 1 - i) dc ⟨g2, 0, none⟩ 1 c2 ROW 99 news Tryz.underlying114 hsz (by rw [hW]; exact hN1) (by rw [hmin2, hnews])
      (fun j u hj => by
        rw [Addr_add, Nat.zero_add]
        rw [World.cell?_of_block (w := w) (a := ⟨g2, j, none⟩) (by rw [hW]; exact hold1 _ hg2w)]
        exact hlies j u hj) (by rw [hRs, hnews]; omega) h1
    rw [hmin2] at this
    rw [this, hB, hnews, hZ]
    congr 3
    exact ls3 _ _ _ htl
  have hcpB : ∀ (W : World), W.heap = ((w.alloc (.cells ROW 99)).setRow w.heap.size curB).heap → ∀ ty dc sc, (Builtin.copy_ #[114, 114] ty #[.slice (some ⟨w.heap.size, (i + 1) * 4, none⟩) (len - i) dc, .slice (some ⟨g, i * 4, none⟩) (len - i) sc]).run Tryz.prog W = .ok (goInt ((len - i : Nat) : Int)) (W.setRow w.heap.size curC) := fun W hW ty dc sc => by
    have hm : Nat.min (len - i) (len - i) = len - i := by simp only [Nat.min_def]; split <;> omega
    have := run_copy_rowN (P := Tryz.prog) (w := W) 114 114 ty 99 4 w.heap.size ((i + 1) * 4) (len - i) dc ⟨g, i * 4, none⟩ (len - i) sc curB 99 (xs.drop (i * 4)) Tryz.underlying114 hsz (by rw [hW]; exact hNB) (by rw [hm, hdl])
      (fun j u hj => by
        rw [Addr_add]
        rw [World.cell?_of_block (w := w) (a := ⟨g, i * 4 + j, none⟩) (by rw [hW]; exact (setRow_oth (show g ≠ w.heap.size from Nat.ne_of_lt hgw)).trans (hold1 _ hgw))]
        rw [List.getElem?_drop] at hj
        exact hliex _ u hj) (by rw [hB, List.size_toArray, hdl]; simp only [List.length_append, htl, hnews, List.length_drop, hZl]; omega) (fun u hu => h1x u (List.mem_of_mem_drop hu))
    rw [hm] at this
    rw [this, hC, hB, hdl]
    congr 3
    exact ls4 _ _ _ _ htl hnews (by omega)
  have FIN : ∀ W : World, W.os = w.os → W.tape = w.tape → W.output = w.output → W.heap = (((w.alloc (.cells ROW 99)).setRow w.heap.size curB).setRow w.heap.size curC).heap → W.ownsRow base 99 4 (.slice (some ⟨w.heap.size, 0, none⟩) (len + 1) G) (len + 1) (xs.take (i * 4) ++ news ++ xs.drop (i * 4)) ∧ w.grownBy W (some g) ∧ (∀ b, blkOf (.slice (some ⟨w.heap.size, 0, none⟩) (len + 1) G) = some b → w.heap.size ≤ b ∨ (some g) = some b) := by
    intro W e1 e2 e3 e4
    have hlen : (xs.take (i * 4) ++ news ++ xs.drop (i * 4)).length = (len + 1) * 4 := by simp only [List.length_append, htl, hdl, hnews]; omega
    refine ⟨⟨hlen, .inr ⟨w.heap.size, G, curC, rfl, hbw, by rw [e4]; exact hNC, hGn, hGm, ?_, ?_⟩⟩, ⟨e1, e2, e3, by rw [e4, setRow_size, setRow_size]; simp, fun k hk _ => ?_⟩, fun b hb => .inl (Nat.le_of_eq (by simpa [blkOf] using hb))⟩
    · rw [hC, List.size_toArray, List.length_append, hlen, List.length_drop, List.length_drop, hZl]; omega
    · rw [hC]; exact List.take_left' hlen
    · rw [e4, setRow_oth (by omega), setRow_oth (by omega)]; exact hold1 _ hk
  clear hB hC hNB hNC hN1 hold1 hold hRs hZ hZl hROW hG hlies hliex hg hg2 hu hcur
  have mixed : Tryz.prog.follows Departure.mixedOrders = true := by kernel_rfl
  have hb2 : ¬ (cap = i + 1) ∨ cap = i + 1 := by omega
  have hb4 : ¬ (cap = i) := by omega
  have hb5 : ¬ (G = i) := by omega
  have hb6 : ¬ (G = i + 1) := by omega
  have hin : i ≤ len := by omega
  have hz3 : (cap : Int) < (len : Int) + 1 := by omega
  have hb3 : (i : Int) ≤ (len : Int) + 1 := by omega
  have hb7 : (i : Int) ≤ (len : Int) := by omega
  have hw1 : IntKind.i64.wrap ((i : Int) + 1) = (i : Int) + 1 := by rw [IntKind.wrap_i64]; omega
  have htn : ((i : Int) + 1).toNat = i + 1 := by omega
  have hb1 : (0 : Int) ≤ (i : Int) + 1 := by omega
  have hcpA' := hcpA (w.alloc (.cells ROW 99)).drew rfl
  have hcpB' := hcpB ((w.alloc (.cells ROW 99)).drew.setRow w.heap.size curB).drew rfl
  clear hb2 hcpA hcpB
  go_enter Tryz.func218, Tryz.ntmps218
  go_wp2_with (at_builtin; refine Lib.wpList_append_run _ rfl _ _ _ _ rfl _ _ rfl rfl _ _ (hrz _) ?_)
  go_region
  go_wp2
  go_ret
  exact ⟨_, rfl, FIN _ rfl rfl rfl rfl⟩
instance : InsF Tryz.prog 218 99 4 32 := ⟨by kernel_rfl, fun w base v u len i xs news hv hu hap hi hb hl hw h1x h1 => by
  obtain ⟨g2, c2, rfl⟩ : ∃ g2 c2, u = .slice (some ⟨g2, 0, none⟩) 1 c2 := by
    rcases hu.2 with ⟨_, e⟩ | ⟨g', cap', cur', e, _⟩
    · omega
    · exact ⟨_, _, e⟩
  by_cases he : i = len
  · subst he
    rw [List.take_of_length_le (by rw [hv.1]; exact Nat.le_refl _), List.drop_eq_nil_of_le (by rw [hv.1]; exact Nat.le_refl _), List.append_nil]
    exact insPE_end w base v g2 c2 i xs news hv hu hb hl hw h1
  · rcases hv.2 with ⟨_, e⟩ | ⟨g, cap, cur, rfl, hbg, hg, hnc, hcm, hcs, hcur⟩
    · omega
    · have hne : g2 ≠ g := fun e => hap g rfl (by rw [e]; rfl)
      by_cases hroom : len + 1 ≤ cap
      · exact insPE_room w base g cap g2 c2 len i cur xs (cur.toList.drop (len * 4)) news hbg hg hcm hcs (by rw [← hcur, List.take_append_drop]) hv.1 hu hne (by omega) hroom hl h1x h1
      · exact insPE_grow w base g cap g2 c2 len i cur xs news hw hg hcur hv.1 hu (by omega) hnc (by omega) hb hl h1x h1⟩
end Go.Proofs.YtgmahieoiifpfaaGreat
end
section
set_option linter.unusedVariables false
namespace Go.Proofs.YtgmahieoiifpfaaGreat
open Go.RowKit
set_option linter.unusedSimpArgs false
theorem Flat.tup2 {u v : Value} : Flat (.tup [.val u, .val v]) := fun w w' F F' x h => by
  unfold Rep at h ⊢
  obtain ⟨vs, e, h⟩ := h
  refine ⟨vs, e, ?_⟩
  simp only [Reps] at h ⊢
  unfold Rep at h ⊢
  exact h
theorem fits_PE (p : PEV) : fitsD true 4 (dvPE p) = true := by cases p <;> rfl
theorem fInsert_p (x p : PEV) : PCall Tryz.prog 217 [dvPE x, dvPE p] (.val (.int .i64 (cmpPE x p))) := by
  have c := peCompare_p x p
  obtain ⟨d0, d1, d2, d3, e⟩ := dvPE_agg x
  obtain ⟨u0, u1, u2, u3, e'⟩ := dvPE_agg p
  rw [e, e'] at c ⊢
  refine pcall_of_run Tryz.func217 rfl Tryz.ntmps217 rfl (fun X => ?_)
  repeat' (first
    | refine run_seq ?_
    | (refine k_pick rfl ?_; first | refine k_assignD rfl rfl ?_ | refine k_loadW rfl rfl rfl (by first | rfl | (simp only [cellsD]; rfl)) ?_ | refine k_boxW rfl rfl rfl (by first | rfl | (simp only [cellsD]; rfl)) ?_ | refine k_call rfl (by kernel_rfl) rfl (by first | exact c) ?_)
    | refine run_opsEnd ?_
    | refine run_region ?_
    | refine run_retOk (resOk_tmp rfl rfl ?_)
    | fail)
  all_goals exact PLe.refl _
set_option maxHeartbeats 8000000 in
/-- slices.BinarySearchFunc over a set: how many elements stand before p, and whether the next one equals it. -/
theorem bsfInsert_p (l : List PEV) (p : PEV) (hl : ∀ x ∈ l, OPE x) (hp : OPE p) (hs : Srt cmpPE l) :
    PCall Tryz.prog 216 [.sl 4 32 (l.map dvPE), dvPE p, .val (.func (.func 217) #[] #[])] (.tup [.val (.int .i64 ((locL_ cmpPE l p : Nat) : Int)), .val (.bool (fndL_ cmpPE l p))]) := by
  refine pcall_fits fun hfit => ?_
  have b1 := (hfit (.sl 4 32 (l.map dvPE)) (by simp)).sl.2.1
  clear hfit
  have n1 : (l.map dvPE).length = l.length := by simp
  have ga : ∀ {i : Nat} {x : PEV}, l[i]? = some x → (l.map dvPE)[((i : Nat) : Int).toNat]? = some (dvPE x) := fun h => by simp [h]
  rw [n1] at b1
  generalize l.map dvPE = da at *
  have hF := fun x => fInsert_p x p
  obtain ⟨u0, u1, u2, u3, e'⟩ := dvPE_agg p
  rw [e'] at hF ⊢
  have hlo := fun (i : Nat) (x : PEV) (h : i < locL_ cmpPE l p) (hx : l[i]? = some x) => locL_lt l p i x h hx
  have hhi := fun (i : Nat) (x : PEV) (h : locL_ cmpPE l p ≤ i) (hx : l[i]? = some x) => locL_ge ordPE hl hp hs i x h hx
  have hle := locL_le (c := cmpPE) l p
  rw [fndL_at]
  generalize locL_ cmpPE l p = loc at *
  clear hs
  refine pcall_of_run Tryz.func216 rfl Tryz.ntmps216 rfl (fun X => ?_)
  repeat' (first
    | refine run_seq ?_
    | (refine k_pick rfl ?_; first | refine k_assignD rfl rfl ?_ | refine k_moveD rfl rfl ?_ | refine k_boxW rfl rfl rfl (by first | rfl | (simp only [cellsD]; rfl)) ?_ | refine k_lenD rfl rfl ?_)
    | refine run_opsEnd ?_
    | refine run_region ?_
    | refine run_block ?_
    | fail)
  refine run_loopS (ι := { j : Nat × Nat // j.1 ≤ loc ∧ loc ≤ j.2 ∧ j.2 ≤ l.length })
    (fun j => [(0, .dat (.sl 4 32 da)), (2, .dat (.val (.func (.func 217) #[] #[]))), (4, .ptr 4 0), (8, .dat (.val (.int .i64 ((da.length : Nat) : Int)))), (9, .dat (.val (.int .i64 (j.1.1 : Nat)))), (10, .dat (.val (.int .i64 (j.1.2 : Nat))))])
    (fun _ => [(4, .box 99 (cellsD (.agg [u0, u1, u2, u3])))]) (fun j => j.1.2 - j.1.1) ⟨(0, l.length), Nat.zero_le _, hle, Nat.le_refl _⟩ id ?_ ?_
  · (refine ⟨?_, ?_, by rfl⟩ <;> repeat' (first | exact trivial | exact ALe.ptr rfl | exact ALe.own rfl | exact ALe.elt rfl | exact BLe.boxD _ _ | exact BLe.row rfl | exact BLe.res | exact BLe.dead rfl | exact ALe.dat (PLe.refl _) | exact CLe.nil | refine And.intro ?_ ?_ | refine ALe.iface ?_ | refine ALe.clo ?_ | refine CLe.cons ?_ ?_ | refine BLe.box ?_ | refine BLe.row ?_ | exact ALe.any _ | refine ALe.dat (PLe.of_eq ?_)))
    all_goals (rw [n1])
  rintro ⟨⟨lo, hi⟩, h1, h2, h3⟩
  simp only at h1 h2 h3
  simp only
  by_cases hlt : lo < hi
  · have g1 : decide ((lo : Int) < (hi : Int)) = true := decide_eq_true (by omega)
    obtain ⟨h, hh⟩ : ∃ h, h = (lo + hi) / 2 := ⟨_, rfl⟩
    have w1 : IntKind.u64.wrap ((lo : Int) + (hi : Int)) = (lo : Int) + (hi : Int) := by
      simp [IntKind.wrap, IntKind.signed, IntKind.bits]; omega
    have w2 : ((lo : Int) + (hi : Int)) / 2 = ((h : Nat) : Int) := by omega
    have w3 : IntKind.i64.wrap ((h : Nat) : Int) = ((h : Nat) : Int) := by rw [IntKind.wrap_i64]; omega
    have w4 : (Lit.int .u64 ((h : Nat) : Int)).wf = true := by
      simp [Lit.wf, IntKind.min, IntKind.max, IntKind.signed, IntKind.bits]; omega
    obtain ⟨x, hx⟩ : ∃ x, l[h]? = some x := ⟨_, List.getElem?_eq_getElem (by omega)⟩
    have i1 := ga hx
    have cF := hF x
    have f1 := fits_PE x
    by_cases hc : cmpPE x p < 0
    · have g2 : decide (cmpPE x p < 0) = true := decide_eq_true hc
      have hb : h < loc := by
        refine Nat.lt_of_not_le fun hn => hhi h x hn hx hc
      repeat' (first
    | refine run_seq ?_
    | (refine k_pick rfl ?_; first | refine k_convE rfl rfl (by kernel_rfl) (by kernel_rfl) (by assumption) ?_ | refine k_shr1 rfl rfl rfl (by assumption) (by assumption) ?_ | refine k_assignD rfl rfl ?_ | refine k_moveD rfl rfl ?_ | refine k_bin2B rfl rfl rfl rfl ?_ | refine k_ariI rfl rfl rfl rfl (by first | omega | (dsimp only; omega)) ?_)
    | refine run_opsEnd ?_
    | refine run_region ?_
    | refine run_condT rfl (by first | rfl | assumption) ?_
    | refine run_block ?_
    | refine run_blkEnd ?_
    | refine run_skip ?_
    | refine run_drawC (by kernel_rfl) ?_
    | refine c_nil (And.intro (by kernel_rfl) ?_)
    | refine c_pick (d_indexAddrD rfl rfl rfl (by first | omega | (dsimp only; omega)) (by assumption)) ?_
    | refine c_pick (d_loadD rfl rfl (by first | rfl | assumption)) ?_
    | refine c_pick (d_moveD rfl rfl) ?_
    | refine c_pick (d_loadW rfl rfl rfl (by first | rfl | (simp only [cellsD]; rfl))) ?_
    | refine c_pick (d_bin2B rfl rfl rfl rfl) ?_
    | refine c_pick (d_callV rfl rfl (by kernel_rfl) rfl (by first | exact cF)) ?_
    | fail)
      refine run_again ?_
      refine ⟨⟨(h + 1, hi), by simp only; omega, by simp only; omega, h3⟩, id, by simp only; omega, ?_⟩
      (refine ⟨?_, ?_, by rfl⟩ <;> repeat' (first | exact trivial | exact ALe.ptr rfl | exact ALe.own rfl | exact ALe.elt rfl | exact BLe.boxD _ _ | exact BLe.row rfl | exact BLe.res | exact BLe.dead rfl | exact ALe.dat (PLe.refl _) | exact CLe.nil | refine And.intro ?_ ?_ | refine ALe.iface ?_ | refine ALe.clo ?_ | refine CLe.cons ?_ ?_ | refine BLe.box ?_ | refine BLe.row ?_ | exact ALe.any _ | refine ALe.dat (PLe.of_eq ?_)))
    · have g2 : decide (cmpPE x p < 0) = false := decide_eq_false hc
      have hb : loc ≤ h := by
        refine Nat.le_of_not_lt fun hn => hc (hlo h x hn hx)
      repeat' (first
    | refine run_seq ?_
    | (refine k_pick rfl ?_; first | refine k_convE rfl rfl (by kernel_rfl) (by kernel_rfl) (by assumption) ?_ | refine k_shr1 rfl rfl rfl (by assumption) (by assumption) ?_ | refine k_assignD rfl rfl ?_ | refine k_moveD rfl rfl ?_ | refine k_bin2B rfl rfl rfl rfl ?_ | refine k_ariI rfl rfl rfl rfl (by first | omega | (dsimp only; omega)) ?_)
    | refine run_opsEnd ?_
    | refine run_region ?_
    | refine run_condT rfl (by first | rfl | assumption) ?_
    | refine run_condF rfl (by first | rfl | assumption) ?_
    | refine run_block ?_
    | refine run_blkEnd ?_
    | refine run_skip ?_
    | refine run_drawC (by kernel_rfl) ?_
    | refine c_nil (And.intro (by kernel_rfl) ?_)
    | refine c_pick (d_indexAddrD rfl rfl rfl (by first | omega | (dsimp only; omega)) (by assumption)) ?_
    | refine c_pick (d_loadD rfl rfl (by first | rfl | assumption)) ?_
    | refine c_pick (d_moveD rfl rfl) ?_
    | refine c_pick (d_loadW rfl rfl rfl (by first | rfl | (simp only [cellsD]; rfl))) ?_
    | refine c_pick (d_bin2B rfl rfl rfl rfl) ?_
    | refine c_pick (d_callV rfl rfl (by kernel_rfl) rfl (by first | exact cF)) ?_
    | fail)
      refine run_again ?_
      refine ⟨⟨(lo, h), h1, hb, by simp only; omega⟩, id, by simp only; omega, ?_⟩
      (refine ⟨?_, ?_, by rfl⟩ <;> repeat' (first | exact trivial | exact ALe.ptr rfl | exact ALe.own rfl | exact ALe.elt rfl | exact BLe.boxD _ _ | exact BLe.row rfl | exact BLe.res | exact BLe.dead rfl | exact ALe.dat (PLe.refl _) | exact CLe.nil | refine And.intro ?_ ?_ | refine ALe.iface ?_ | refine ALe.clo ?_ | refine CLe.cons ?_ ?_ | refine BLe.box ?_ | refine BLe.row ?_ | exact ALe.any _ | refine ALe.dat (PLe.of_eq ?_)))
  · have g1 : decide ((lo : Int) < (hi : Int)) = false := decide_eq_false (by omega)
    obtain rfl : lo = loc := by omega
    by_cases hin : lo < l.length
    · have g2 : decide ((lo : Int) < ((da.length : Nat) : Int)) = true := decide_eq_true (by omega)
      obtain ⟨x, hx⟩ : ∃ x, l[lo]? = some x := ⟨_, List.getElem?_eq_getElem hin⟩
      have i1 := ga hx
      have cF := hF x
      have f1 := fits_PE x
      rw [hx]
      repeat' (first
    | refine run_seq ?_
    | (refine k_pick rfl ?_; first | refine k_moveD rfl rfl ?_ | refine k_bin2B rfl rfl rfl rfl ?_)
    | refine run_opsEnd ?_
    | refine run_region ?_
    | refine run_condF rfl (by first | rfl | assumption) ?_
    | refine run_exit rfl ?_
    | refine run_retOk (resOk_tmp2 rfl rfl rfl ?_ ?_)
    | refine run_drawC (by kernel_rfl) ?_
    | refine c_nil (And.intro (by kernel_rfl) ?_)
    | refine c_pick (d_assignD rfl rfl) ?_
    | refine c_pick (d_moveD rfl rfl) ?_
    | refine c_pick (d_bin2B rfl rfl rfl rfl) ?_
    | refine c_pick (d_pickT rfl rfl (by first | rfl | assumption) rfl) ?_
    | refine c_pickY rfl (by first | rfl | assumption) (d_indexAddrD rfl rfl rfl (by first | omega | (dsimp only; omega)) (by assumption)) ?_
    | refine c_pickY rfl (by first | rfl | assumption) (d_loadD rfl rfl (by first | rfl | assumption)) ?_
    | refine c_pickY rfl (by first | rfl | assumption) (d_moveD rfl rfl) ?_
    | refine c_pickY rfl (by first | rfl | assumption) (d_loadW rfl rfl rfl (by first | rfl | (simp only [cellsD]; rfl))) ?_
    | refine c_pickY rfl (by first | rfl | assumption) (d_bin2B rfl rfl rfl rfl) ?_
    | refine c_pickY rfl (by first | rfl | assumption) (d_callV rfl rfl (by kernel_rfl) rfl (by first | exact cF)) ?_
    | fail)
      all_goals exact PLe.refl _
    · have g2 : decide ((lo : Int) < ((da.length : Nat) : Int)) = false := decide_eq_false (by omega)
      rw [List.getElem?_eq_none (by omega)]
      repeat' (first
    | refine run_seq ?_
    | (refine k_pick rfl ?_; first | refine k_moveD rfl rfl ?_ | refine k_bin2B rfl rfl rfl rfl ?_)
    | refine run_opsEnd ?_
    | refine run_region ?_
    | refine run_condF rfl (by first | rfl | assumption) ?_
    | refine run_exit rfl ?_
    | refine run_retOk (resOk_tmp2 rfl rfl rfl ?_ ?_)
    | refine run_drawC (by kernel_rfl) ?_
    | refine c_nil (And.intro (by kernel_rfl) ?_)
    | refine c_pick (d_assignD rfl rfl) ?_
    | refine c_pick (d_moveD rfl rfl) ?_
    | refine c_pick (d_bin2B rfl rfl rfl rfl) ?_
    | refine c_pick (d_pickF rfl rfl (by first | rfl | assumption) rfl) ?_
    | refine c_passT rfl (by first | rfl | assumption) rfl ?_
    | fail)
      all_goals exact PLe.refl _
end Go.Proofs.YtgmahieoiifpfaaGreat
end
section
set_option linter.unusedVariables false
namespace Go.Proofs.YtgmahieoiifpfaaGreat
open Go.RowKit
def peC : PEV → List PD
  | .name s => [.ptr (.val (.string s)), nilP, nilP, nilP]
  | .key fl => [nilP, .ptr (dvFl fl), nilP, nilP]
  | .val j => [nilP, nilP, .ptr (dvV j), nilP]
  | .idx n => [nilP, nilP, nilP, .ptr (.val (.int .i64 n))]
theorem dvPE_C (p : PEV) : dvPE p = .agg (peC p) := by cases p <;> rfl
theorem peC_four (p : PEV) : ∃ d0 d1 d2 d3, peC p = [d0, d1, d2, d3] := by cases p <;> exact ⟨_, _, _, _, rfl⟩
end Go.Proofs.YtgmahieoiifpfaaGreat
end
