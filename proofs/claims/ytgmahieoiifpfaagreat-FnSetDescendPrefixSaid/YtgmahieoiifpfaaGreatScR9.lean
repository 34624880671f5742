/- Part 9 of what the proof rests on. -/
import Derived.Maps.AppendAt
import Derived.Deep.AppendLies
import Derived.Deep.Draws
import Derived.RegionTactic
import Derived.Deep.QuietTactic
import Derived.BigQuiet
import Derived.Lib.Overlaps
import Derived.Lib.AppendZerosOnto
import Derived.Shelf.Spec.SlicesInsert
import Derived.Test.YtgmahieoiifpfaaGreatScR1
import Derived.Test.YtgmahieoiifpfaaGreatScR4
import Derived.Test.YtgmahieoiifpfaaGreatScR5
import Derived.Test.YtgmahieoiifpfaaGreatScR6
import Derived.Test.YtgmahieoiifpfaaGreatScR7
import Derived.Test.YtgmahieoiifpfaaGreatScR8
set_option linter.unusedSimpArgs false
set_option linter.unusedVariables false
set_option maxHeartbeats 16000000
set_option maxRecDepth 100000
namespace Go.Proofs.YtgmahieoiifpfaaGreat
open Go.RowKit
def Yo3 (ks : List ByteArray) : List ByteArray := ks.foldr (fun k l => Zoh l l k k) []
theorem Zpp : ∀ ks : List ByteArray, Zf2 (Yo3 ks)
 | [] => List.Pairwise.nil
 | k :: r => Zuu (Zpp r) k
theorem Yek {α : Type} {ks : List ByteArray} {l : List α} {k : ByteArray} {x y : α} (h : y ∈ Zoh ks l k x) : y = x ∨ y ∈ l := by
 unfold Zoh at h
 simp only [List.mem_append, List.mem_cons, List.not_mem_nil, or_false] at h
 rcases h with (h | h) | h
 ·exact .inr (List.mem_of_mem_take h)
 ·exact .inl h
 ·exact .inr (List.mem_of_mem_drop h)
theorem Yel {l : List ByteArray} {k x : ByteArray} : x ∈ Zoh l l k k ↔ x = k ∨ x ∈ l := by
 constructor
 ·exact Yek
 ·intro h
  unfold Zoh
  rcases h with rfl | h
  ·simp
  ·by_cases e : x = k
   ·subst e; simp
   ·rw [List.mem_append, List.mem_append]
    rw [← List.take_append_drop (lb l k) l, List.mem_append] at h
    rcases h with h | h
    ·exact .inl (.inl h)
    ·cases hh : Zf6 l k with
     | false => exact .inr (by simpa using h)
     | true =>
      unfold Zf6 at hh
      simp only [decide_eq_true_eq] at hh
      obtain ⟨h1, h2⟩ := List.getElem?_eq_some_iff.1 hh
      rw [List.drop_eq_getElem_cons h1, h2, List.mem_cons] at h
      rcases h with h | h
      ·exact absurd h e
      ·exact .inr h
theorem Ztc : ∀ (ks : List ByteArray) (x : ByteArray), x ∈ Yo3 ks ↔ x ∈ ks
 | [], x => Iff.rfl
 | k :: r, x => by
  show x ∈ Zoh (Yo3 r) (Yo3 r) k k ↔ _
  rw [Yel, Ztc r x, List.mem_cons]
theorem Zlw {l : List ByteArray} (h : Zf2 l) : l.Nodup := List.Pairwise.imp (fun h e => by subst e; rw [Zbb] at h; cases h) h
theorem Zvw (m : List (ByteArray × JV)) : PCall Tryz.prog 197 [Zio m] (.sl 1 16 (pdS (Yo3 (m.map (·.1))))) := by
 refine PCall.ex fun w F vs hv => ?_
 obtain ⟨hm, hl⟩ : (m.map (·.1)).Nodup ∧ m.length * 88 ≤ 140737488351232 := by
  unfold Reps at hv
  obtain ⟨v, r, _, h, _⟩ := hv
  unfold Zio Rep at h
  obtain ⟨_, _, _, _, _, _, _, _, _, h⟩ := h
  unfold JOk at h
  exact ⟨h.1, h.2.1⟩
 clear hv
 refine Zaa Tryz.func197 rfl Tryz.ntmps197 rfl (fun X => ?_)
 refine wk ?_
 refine Zq6 3 100 9 1 16 rfl rfl ?_
 refine Zaq (ι := { q : List (ByteArray × JV) × List ByteArray // (q.1.map (·.1)).Nodup ∧ (∀ y ∈ q.1, y ∈ m) ∧ Zf2 q.2 ∧ (∀ k, k ∈ q.2 ↔ k ∈ q.1.map (·.1)) })
  (fun q => [(3, .own 100), (7, .own 7)])
  (fun q => [(7, .res (itR m q.1.1)), (100, .row 9 1 16 (pdS q.1.2))])
  (fun q => m.length - q.1.1.length) ⟨([], []), by simp, by simp, List.Pairwise.nil, by simp⟩ id ?_ ?_
 ·exact sb
 rintro ⟨⟨done, l⟩, hnd, hsub, hi, hmem⟩
 simp only at hnd hsub hi hmem ⊢
 have hlen : l.length = done.length := by
  have := ((List.perm_ext_iff_of_nodup (Zlw hi) hnd).2 hmem).length_eq
  simpa using this
 refine wk ?_
 refine Zsk rfl rfl rfl (fun hev => ?_) (fun y hy hny => ?_)
 ·have e : l = Yo3 (m.map (·.1)) := Zsc hi (Zpp _) fun k => by
   rw [Ztc, hmem]
   exact (Zrm hm hnd hsub hev).mem_iff
  rw [← e]
  refine Zbj (fun _ => false) (fun k => k == 100) ?_
  exact wke
 ·have hml := Zsp hnd hsub hy hny
  have hnk : y.1 ∉ l := fun h => hny ((hmem _).1 h)
  have n1 := Zby l
  have hL : (pdS l ++ [PD.val (.string y.1)]).length = l.length + 1 := by simp [n1]
  have hz : ((l.length + 1 : Nat) : Int) - 1 = ((l.length : Nat) : Int) := by omega
  have hA : pdS l ++ [PD.val (.string y.1)] = pdS (Zft l l.length y.1) := by rw [Yej]; simp [pdS]
  refine wk ?_
  refine Zaq (ι := { i : Nat // i ≤ l.length ∧ ∀ x ∈ l.drop i, blt y.1 x = true })
   (fun i => [(3, .own 100), (5, .dat (.val (.int .i64 (i.1 : Nat)))), (7, .own 7)])
   (fun i => [(7, .res (itR m (done ++ [y]))), (100, .row 9 1 16 (pdS (Zft l i.1 y.1)))])
   (fun i => i.1) ⟨l.length, Nat.le_refl _, by simp⟩ (fun j => if j = 100 then 15 else j) ?_ ?_
  ·rw [hL, hA]
   simp only [hz]
   exact sb
  rintro ⟨i, hil, hd⟩
  have hins := Zus l y.1 hil
  have n2 := Zby (Zft l i y.1)
  by_cases h0 : 0 < i
  ·have g1 : decide ((0 : Int) < (i : Int)) = true := decide_eq_true (by omega)
   obtain ⟨a, ha⟩ : ∃ a, l[i - 1]? = some a := ⟨_, List.getElem?_eq_getElem (by omega)⟩
   have q1 : (pdS (Zft l i y.1))[i]? = some (.val (.string y.1)) := Zfb (Yi1 l y.1 hil)
   have q2 : (pdS (Zft l i y.1))[i - 1]? = some (.val (.string a)) := Zfb (by
    have := Zur l y.1 (p := i - 1) (by omega)
    rw [show i - 1 + 1 = i by omega] at this
    rw [this, ha])
   have l1 : i < (pdS (Zft l i y.1)).length := by omega
   have l2 : i - 1 < (pdS (Zft l i y.1)).length := by omega
   have z1 : (i : Int) = ((i : Nat) : Int) := rfl
   have z2 : (i : Int) - 1 = ((i - 1 : Nat) : Int) := by omega
   cases hb : blt y.1 a with
   | true =>
    have e : ((pdS (Zft l i y.1)).set i (.val (.string a))).set (i - 1) (.val (.string y.1)) = pdS (Zft l (i - 1) y.1) := by
     have h1 := Ybg l y.1 a (p := i - 1) (by omega) ha
     rw [show i - 1 + 1 = i by omega] at h1
     rw [← h1]
     simp [pdS, List.map_set]
    refine wk ?_
    refine Zan ?_
    refine ⟨⟨i - 1, by omega, fun x hx => ?_⟩, id, by simp only; omega, ?_⟩
    ·have hdd : l.drop (i - 1) = a :: l.drop i := by
      rw [List.drop_eq_getElem_cons (by omega), show i - 1 + 1 = i by omega]
      congr 1
      exact (List.getElem?_eq_some_iff.1 ha).2
     rw [hdd] at hx
     rcases List.mem_cons.1 hx with rfl | hx
     ·exact hb
     ·exact hd x hx
    simp only [← e, ← z2]
    exact sb
   | false =>
    refine wk ?_
    refine Zan ?_
    refine ⟨⟨(done ++ [y], Zft l i y.1), Zsq hnd hny, Zne hsub hy, Zqn hi hd fun x hx => ?_, fun k => ?_⟩, id, by simp only [List.length_append, List.length_cons, List.length_nil]; omega, ?_⟩
    ·obtain ⟨j, hj⟩ := List.getElem?_of_mem hx
     have hji : j < i := by have := (List.getElem?_eq_some_iff.1 hj).1; simp at this; omega
     rw [List.getElem?_take, if_pos hji] at hj
     have hxl := List.mem_of_getElem? hj
     have h1 : blt x a = true ∨ x = a := by
      rcases Zog hi (show j ≤ i - 1 by omega) hj ha with h | h
      ·exact .inr h
      ·exact .inl h
     have h2 : blt a y.1 = true := by
      cases h3 : blt a y.1 with
      | true => rfl
      | false => exact absurd (Zgf h3 hb) fun e => hnk (e ▸ List.mem_of_getElem? ha)
     rcases h1 with h1 | rfl
     ·exact Zb9 h1 h2
     ·exact h2
    ·rw [Zut, hmem, List.map_append, List.mem_append]
     simp [or_comm]
    exact sb
  ·obtain rfl : i = 0 := by omega
   have g1 : decide ((0 : Int) < ((0 : Nat) : Int)) = false := decide_eq_false (by omega)
   refine wk ?_
   refine Zan ?_
   refine ⟨⟨(done ++ [y], Zft l 0 y.1), Zsq hnd hny, Zne hsub hy, Zqn hi hd (by simp), fun k => ?_⟩, id, by simp only [List.length_append, List.length_cons, List.length_nil]; omega, ?_⟩
   ·rw [Zut, hmem, List.map_append, List.mem_append]
    simp [or_comm]
   exact sb
section
variable {P : Program} {X : Base} {N : Nat} {Q : Exit → Act → World → Prop} {s s' : Sta} {w : World}
theorem Ygp {t kt et r cl : Nat} {es : Array MapEntry} {k : ByteArray} (hm : P.underlying t = some (.map kt et)) (hd : P.underlying kt = some .string)
  (hb : w.heap[r]? = some (.map es cl)) (hs : MapKept.Stamped es cl) (hks : ∀ x ∈ es.toList, MapKept.IsKey .string x.key) {e : MapEntry} (he : e ∈ es.toList) (hke : e.key = .string k) :
  (Instr.lookup t (.map (some r)) (.string k) false).run P w = .ok e.val w := by
 have hk : MapKept.IsKey .string (.string k) := trivial
 rcases MapKept.findNow_spec hk es.toList 0 hks with ⟨h1, h2⟩ | ⟨j, e', h1, h2, h3⟩
 ·exact absurd hke (h2 e he)
 ·obtain rfl : e' = e := Ye6 hs.2.2 (List.mem_of_getElem? h2) he (h3.trans hke.symm)
  simp [Instr.lookup, run_underlying hm, MapKept.run_getObj_map hb, MapKept.run_checkKey hd hk, MapKept.run_findKey hd h1, Result.andThen]
theorem Yfv {o : Oper} (hd : Za7 X.N o.dst = true) {x y : Operand} {t : TypeId} (ho : o.op = .lookup t x y false) {kt et : Nat} (ht : MTI P t kt et) {m : List (ByteArray × JV)} {k : ByteArray} {j : JV} (hx : s.ev x = .dat (Zio m)) (hy : s.ev y = .dat (.val (.string k))) (hj : lkJ m k = some j) :
  OpS P X o s (s.put o.dst (.dat (pdJ j))) := by
 refine Zat hd fun a w ρ hc => ?_
 have h2 := hc.ev x
 rw [hx] at h2
 unfold VR Zio Rep at h2
 have h3 := hc.ev y
 rw [hy] at h3
 unfold VR Rep at h3
 obtain ⟨b, es, cl, e1, hb, hh, hs, hl, he, hok⟩ := h2
 rcases he.lk (k := k) with ⟨j', e, h4, h5, h6, h7, h8⟩ | ⟨h4, h5⟩
 ·rw [hj] at h4
  cases h4
  refine ⟨e.val, by simp [execOp, ho, e1, h3.1, Ygp (Ziu ht.out) ht.str hh hs he.keys h5 h6], ?_⟩
  unfold VR pdJ Rep
  exact ⟨h7, Zes (by unfold JOk at hok; exact hok.2.2) _ h8⟩
 ·rw [hj] at h4; cases h4
theorem Yii {ops : List Oper} {d : Nat} {x y : Operand} {t kt et : Nat} {m : List (ByteArray × JV)} {k : ByteArray} {j : JV} (hN : Nat.blt d N = true) (hx : s.ev x = .dat (Zio m)) (hy : s.ev y = .dat (.val (.string k))) [ht : MTI P t kt et] (hj : lkJ m k = some j) :
  TrK P X N ops (some d) (.lookup t x y false) (Eff.put (some d) (.dat (pdJ j))) s (s.put (some d) (.dat (pdJ j))) := Zbm hN fun s' _ _ _ _ hd hev htb => Yfv hd rfl ht ((hev _ (by simp [Op.operands])).trans hx) ((hev _ (by simp [Op.operands])).trans hy) hj
end
theorem Ylo : ∀ {m : List (ByteArray × JV)} {k : ByteArray}, k ∈ m.map (·.1) → ∃ j, lkJ m k = some j ∧ Zcz m k = some j ∧ (k, j) ∈ m
 | [], k, h => by cases h
 | x :: r, k, h => by
  unfold lkJ Zcz
  by_cases e : x.1 = k
  ·rw [if_pos e, if_pos e]; exact ⟨_, rfl, rfl, by rw [← e]; simp⟩
  ·rw [if_neg e, if_neg e]
   rw [List.map_cons, List.mem_cons] at h
   obtain ⟨j, h1, h2, h3⟩ := Ylo (h.resolve_left fun h => e h.symm)
   exact ⟨j, h1, h2, by simp [h3]⟩
theorem Ykz (l : List JV) : Zg1 l = l.map unJ := by
 induction l with
 | nil => unfold Zg1; rfl
 | cons x r ih => unfold Zg1; rw [ih]; rfl
theorem Zjy {f : FuncId} {j : JV} {r : PD} (h : PCall Tryz.prog f [dvX j] r) : PCall Tryz.prog f [pdJ j] r := h.le fun _ _ _ hv => Reps.cons1 (Yld j) hv
theorem Yqw (b : Bool) : PCall Tryz.prog 134 [pdJ (.bool b)] (qV (unJ (.bool b))) := by
 refine Zjy ?_
 unfold dvX unJ gv qV
 cases b
 all_goals
  refine Zaa Tryz.func134 rfl Tryz.ntmps134 rfl (fun X => ?_)
  exact wke
theorem Yq1 : PCall Tryz.prog 134 [pdJ .null] (qV (unJ .null)) := by
 refine Zjy ?_
 unfold dvX unJ Zdi qV
 refine Zaa Tryz.func134 rfl Tryz.ntmps134 rfl (fun X => ?_)
 exact wke
theorem Yqy (n : Int) : PCall Tryz.prog 134 [pdJ (.int n)] (qV (unJ (.int n))) := by
 refine Zjy ?_
 unfold dvX unJ gv qV
 refine Zaa Tryz.func134 rfl Tryz.ntmps134 rfl (fun X => ?_)
 exact wke
theorem Yqx (n : Nat) : PCall Tryz.prog 134 [pdJ (.flt n)] (qV (unJ (.flt n))) := by
 refine Zjy ?_
 unfold dvX unJ gv qV
 refine Zaa Tryz.func134 rfl Tryz.ntmps134 rfl (fun X => ?_)
 exact wke
theorem Yq2 (n : ByteArray) : PCall Tryz.prog 134 [pdJ (.str n)] (qV (unJ (.str n))) := by
 refine Zjy ?_
 unfold dvX unJ gv qV
 refine Zaa Tryz.func134 rfl Tryz.ntmps134 rfl (fun X => ?_)
 exact wke
theorem Yqz (l : List JV) (ih : ∀ y ∈ l, PCall Tryz.prog 134 [pdJ y] (qV (unJ y))) : PCall Tryz.prog 134 [pdJ (.list l)] (qV (unJ (.list l))) := by
 refine PCall.ex fun w F vs hv => ?_
 have hl : l.length * 88 ≤ 140737488351232 := by
  unfold Reps at hv
  obtain ⟨v, r, _, h, _⟩ := hv
  unfold pdJ Rep at h
  have h := h.2
  unfold JOk at h
  exact h.1
 clear hv
 refine Zjy ?_
 have e : unJ (.list l) = .mk 5 0 0 ByteArray.empty [] (Zg1 l) := by unfold unJ; rfl
 rw [e]
 unfold dvX
 refine Zaa Tryz.func134 rfl Tryz.ntmps134 rfl (fun X => ?_)
 refine wk ?_
 refine Zde 8 5 100 27 6 88 rfl rfl rfl ?_
 refine Zaq (ι := { k : Nat // k ≤ l.length })
  (fun k => [(2, .ptr 2 0), (8, .ptr 8 0), (41, .dat (Zj4 l)), (42, .dat (.val (.int .i64 (l.length : Nat)))), (43, .dat (.val (.int .i64 (k.1 : Nat))))])
  (fun k => [(2, .box 27 (Zap (qV Zdi))), (8, .box 27 [.dat (.val (.int .i64 5)), .dat (.val (.int .i64 0)), .dat (.val (.float .f64 0)), .dat (.val (.string ⟨#[]⟩)), .dat (.val (.slice none 0 0)), .own 100]), (100, .row 27 6 88 ((l.take k.1).map fun x => qV (unJ x)))]) (fun k => l.length - k.1) ⟨0, Nat.zero_le _⟩ id ?_ ?_
 ·exact sb
 rintro ⟨k, hk⟩
 by_cases hlt : k < l.length
 ·have hc : decide ((k : Int) < ((l.length : Nat) : Int)) = true := decide_eq_true (by omega)
  obtain ⟨x, hx⟩ : ∃ x, l[k]? = some x := ⟨_, List.getElem?_eq_getElem hlt⟩
  have c := ih x (List.mem_of_getElem? hx)
  have hbt : (((l.take k).map fun x => qV (unJ x)).length + [qV (unJ x)].length) * 88 ≤ 140737488351232 := by simp; omega
  have hbl : ((l.take k).map fun x => qV (unJ x)).length + [qV (unJ x)].length ≤ 140737488351232 := by simp; omega
  have e : ((l.take (k + 1)).map fun x => qV (unJ x)) = ((l.take k).map fun x => qV (unJ x)) ++ [qV (unJ x)] := by simp [List.take_add_one, hx]
  generalize ((l.take k).map fun x => qV (unJ x)) = da at *
  unfold qV at *
  refine wk ?_
  refine Zan ?_
  refine ⟨⟨k + 1, by omega⟩, (fun j => if j = 100 then 52 else j), by simp only; omega, ?_⟩
  rw [e]
  exact sb
 ·have hc : decide ((k : Int) < ((l.length : Nat) : Int)) = false := decide_eq_false (by omega)
  have hkk : l.take k = l := List.take_of_length_le (by omega)
  simp only [hkk]
  refine wk ?_
  refine Zbj (fun _ => false) (fun k => k == 100) ?_
  have e : Zb8 (Zg1 l) = l.map fun x => qV (unJ x) := by rw [Zhe, Ykz, List.map_map]; exact List.map_congr_left fun x _ => Zsx _
  unfold qV
  simp only [GV.kind, GV.n, GV.f, GV.s, GV.keys, GV.l]
  rw [e]
  exact wke
theorem Yq0 (m : List (ByteArray × JV)) (ih : ∀ y ∈ m, PCall Tryz.prog 134 [pdJ y.2] (qV (unJ y.2))) : PCall Tryz.prog 134 [pdJ (.map m)] (qV (unJ (.map m))) := by
 refine PCall.ex fun w F vs hv => ?_
 obtain ⟨hd, hl⟩ : (m.map (·.1)).Nodup ∧ m.length * 88 ≤ 140737488351232 := by
  unfold Reps at hv
  obtain ⟨v, r, _, h, _⟩ := hv
  unfold pdJ Rep at h
  have h := h.2
  unfold JOk at h
  exact ⟨h.1, h.2.1⟩
 clear hv
 refine Zjy ?_
 have c0 := Zvw m
 have hi := Zpp (m.map (·.1))
 have hm := Ztc (m.map (·.1))
 rw [Ycf hd hi hm]
 generalize hks : Yo3 (m.map (·.1)) = ks at *
 have hkl : ks.length = m.length := by
  have := ((List.perm_ext_iff_of_nodup (Zlw hi) hd).2 hm).length_eq
  simpa using this
 have n1 := Zby ks
 have e0 : ∀ k, (Zmr m (ks.take k)) = (ks.take k).map fun k => unJ ((Zcz m k).getD .null) := fun _ => rfl
 unfold dvX
 refine Zaa Tryz.func134 rfl Tryz.ntmps134 rfl (fun X => ?_)
 refine wk ?_
 refine Zde 12 5 100 27 6 88 rfl rfl rfl ?_
 refine Zaq (ι := { k : Nat // k ≤ ks.length })
  (fun k => [(2, .ptr 2 0), (11, .dat (Zio m)), (12, .ptr 12 0), (64, .dat (.sl 1 16 (pdS ks))), (65, .dat (.val (.int .i64 ((pdS ks).length : Nat)))), (66, .dat (.val (.int .i64 (k.1 : Nat))))])
  (fun k => [(2, .box 27 (Zap (qV Zdi))), (12, .box 27 [.dat (.val (.int .i64 6)), .dat (.val (.int .i64 0)), .dat (.val (.float .f64 0)), .dat (.val (.string ⟨#[]⟩)), .dat (.sl 1 16 (pdS ks)), .own 100]), (100, .row 27 6 88 ((ks.take k.1).map fun k => qV (unJ ((Zcz m k).getD .null))))]) (fun k => ks.length - k.1) ⟨0, Nat.zero_le _⟩ id ?_ ?_
 ·exact sb
 rintro ⟨k, hk⟩
 by_cases hlt : k < ks.length
 ·have hc : decide ((k : Int) < (((pdS ks).length : Nat) : Int)) = true := decide_eq_true (by omega)
  obtain ⟨key, hx⟩ : ∃ x, ks[k]? = some x := ⟨_, List.getElem?_eq_getElem hlt⟩
  have i1 : (pdS ks)[((k : Nat) : Int).toNat]? = some (.val (.string key)) := Zfb hx
  obtain ⟨j, hj1, hj2, hj3⟩ := Ylo ((hm key).1 (List.mem_of_getElem? hx))
  have c := ih (key, j) hj3
  have e : ((ks.take (k + 1)).map fun k => qV (unJ ((Zcz m k).getD .null))) = ((ks.take k).map fun k => qV (unJ ((Zcz m k).getD .null))) ++ [qV (unJ j)] := by simp [List.take_add_one, hx, hj2]
  have hbt : (((ks.take k).map fun k => qV (unJ ((Zcz m k).getD .null))).length + [qV (unJ j)].length) * 88 ≤ 140737488351232 := by simp; omega
  have hbl : ((ks.take k).map fun k => qV (unJ ((Zcz m k).getD .null))).length + [qV (unJ j)].length ≤ 140737488351232 := by simp; omega
  generalize ((ks.take k).map fun k => qV (unJ ((Zcz m k).getD .null))) = da at *
  unfold qV at *
  refine wk ?_
  refine Zcl (Yii rfl rfl rfl hj1) ?_
  refine wk ?_
  refine Zan ?_
  refine ⟨⟨k + 1, by omega⟩, (fun j => if j = 100 then 77 else j), by simp only; omega, ?_⟩
  rw [e]
  exact sb
 ·have hc : decide ((k : Int) < (((pdS ks).length : Nat) : Int)) = false := decide_eq_false (by omega)
  have hkk : ks.take k = ks := List.take_of_length_le (by omega)
  simp only [hkk]
  refine wk ?_
  refine Zbj (fun _ => false) (fun k => k == 100) ?_
  have e : Zb8 (Zmr m ks) = ks.map fun k => qV (unJ ((Zcz m k).getD .null)) := by rw [Zhe]; unfold Zmr; rw [List.map_map]; exact List.map_congr_left fun x _ => Zsx _
  unfold qV
  simp only [GV.kind, GV.n, GV.f, GV.s, GV.keys, GV.l]
  rw [e]
  exact wke
theorem Zlv : ∀ (j : JV), PCall Tryz.prog 134 [pdJ j] (qV (unJ j))
 | .null => Yq1
 | .bool b => Yqw b
 | .int n => Yqy n
 | .flt n => Yqx n
 | .str s => Yq2 s
 | .list l => Yqz l fun y _ => Zlv y
 | .map m => Yq0 m fun y hy => by
  have : SizeOf.sizeOf y.2 < 1 + SizeOf.sizeOf m := by
   have h1 := List.sizeOf_lt_of_mem hy
   have h2 : SizeOf.sizeOf y.2 < SizeOf.sizeOf y := by obtain ⟨a, b⟩ := y; simp; omega
   omega
  exact Zlv y.2
end Go.Proofs.YtgmahieoiifpfaaGreat
section
namespace Go.Proofs.YtgmahieoiifpfaaGreat
theorem Yi3 {α : Type} {ks : List ByteArray} {l : List α} {k : ByteArray} {x y : α} (h : y ∈ Zoh ks l k x) : y = x ∨ y ∈ l := by
 unfold Zoh at h
 simp only [List.mem_append, List.mem_cons, List.not_mem_nil, or_false] at h
 rcases h with (h | h) | h
 ·exact .inr (List.mem_of_mem_take h)
 ·exact .inl h
 ·exact .inr (List.mem_of_mem_drop h)
theorem Yhk {m x y : GV} {k : ByteArray} (h : y ∈ (Zl9 m k x).l) : y = x ∨ y ∈ m.l := by
 unfold Zl9 at h
 exact Yi3 h
theorem Zp6 : ∀ (ks : List ByteArray) (l : List GV) (acc y : GV), y ∈ (Zbz ks l acc).l → (∃ z ∈ l, y = Zav z) ∨ y ∈ acc.l
 | [], l, acc, y, h => by simp only [Zbz] at h; exact .inr h
 | _ :: _, [], acc, y, h => by simp only [Zbz] at h; exact .inr h
 | k :: ks, x :: l, acc, y, h => by
  simp only [Zbz] at h
  rcases Zp6 ks l _ y h with ⟨z, hz, e⟩ | h
  ·exact .inl ⟨z, by simp [hz], e⟩
  ·rcases Yhk h with e | h
   ·exact .inl ⟨x, by simp, e⟩
   ·exact .inr h
theorem Zn5 : ∀ (ks : List ByteArray) (l : List GV) (acc : GV), Zjd acc → ks.Nodup → ∀ k, Yhq (Zbz ks l acc) k = ((Zcz (ks.zip l) k).map Zav).or (Yhq acc k)
 | [], l, acc, h, _, k => by simp [Zbz, Zcz]
 | _ :: _, [], acc, h, _, k => by simp [Zbz, Zcz]
 | a :: ks, x :: l, acc, h, hd, k => by
  simp only [List.nodup_cons] at hd
  simp only [Zbz]
  rw [Zn5 ks l _ (Zgx h _ _) hd.2, Zn7 h]
  simp only [List.zip_cons_cons, Zcz]
  by_cases e : a = k
  ·have : Zcz (ks.zip l) k = none := Zey fun y hy hyk => hd.1 (by rw [e, ← hyk]; exact (List.of_mem_zip (a := y.1) (b := y.2) hy).1)
   rw [if_pos e, if_pos e, this]; simp
  ·rw [if_neg e, if_neg e]
theorem Zy9 {α : Type} {f : α → α} : ∀ (a : List (ByteArray × α)) (k : ByteArray), (∀ e ∈ a, f e.2 = e.2) → (Zcz a k).map f = Zcz a k
 | [], k, _ => rfl
 | e :: r, k, h => by
  simp only [Zcz]
  split
  ·simp [h e (by simp)]
  ·exact Zy9 r k fun x hx => h x (by simp [hx])
theorem Ya4 {g : GV} (hg : Zjd g) (h : ∀ y ∈ g.l, Zav y = y) : Zbz g.keys g.l gMap = g := by
 refine Zph (Zg3 _ _ _ Zbg).1 hg fun k => ?_
 obtain ⟨ks, l, rfl, hi, hl⟩ := hg
 simp only [GV.keys, GV.l] at h ⊢
 rw [Zn5 _ _ _ Zbg (Zlw hi)]
 rw [Zy9 _ _ (fun e he => h e.2 (List.of_mem_zip (a := e.1) (b := e.2) he).2)]
 rw [Zn6, Option.or_none]
 rfl
theorem Zp5 : ∀ (l : List GV), (∀ y ∈ l, Zav (Zav y) = Zav y) → Zco (Zco l) = Zco l
 | [], _ => by simp [Zco]
 | x :: l, h => by
  simp only [Zco]
  rw [h x (by simp), Zp5 l fun y hy => h y (by simp [hy])]
theorem Zc1 : ∀ x : GV, Zav (Zav x) = Zav x
 | .mk k n f s ks l => by
  have ih : ∀ y ∈ l, Zav (Zav y) = Zav y := fun y hy => Zc1 y
  by_cases h1 : k = 1
  ·subst h1; by_cases hn : n = 0 <;> simp [Zav, hn]
  by_cases h2 : k = 2
  ·subst h2; simp [Zav]
  by_cases h3 : k = 3
  ·subst h3; simp [Zav]
  by_cases h4 : k = 4
  ·subst h4; simp [Zav]
  by_cases h5 : k = 5
  ·subst h5; simp [Zav, Zp5 l ih]
  by_cases h6 : k = 6
  ·subst h6
   have e : Zav (.mk 6 n f s ks l) = Zbz ks l gMap := by simp [Zav, gMap]
   rw [e]
   have hp := (Zg3 ks l gMap Zbg).1
   have hfix := Ya4 hp (fun y hy => by
    rcases Zp6 ks l gMap y hy with ⟨z, hz, rfl⟩ | hy
    ·exact ih z hz
    ·simp [gMap, GV.l] at hy)
   obtain ⟨ks', l', e', _, _⟩ := hp
   rw [e'] at hfix ⊢
   simpa [Zav, gMap, GV.keys, GV.l] using hfix
  ·simp [Zav, h1, h2, h3, h4, h5, h6, Zdi]
termination_by x => SizeOf.sizeOf x
decreasing_by
 have := List.sizeOf_lt_of_mem hy
 simp; omega
end Go.Proofs.YtgmahieoiifpfaaGreat
end
namespace Go.Proofs.YtgmahieoiifpfaaGreat
open Go.RowKit
theorem Yf1 (l : List GV) : PCall Tryz.prog 94 [.sl 6 88 (Zb8 l)] (.val (.bool (Zmj l))) := by
 intro w F vs hF hv
 unfold Reps at hv
 obtain ⟨v, r', rfl, hx, hr⟩ := hv
 unfold Reps at hr
 subst hr
 unfold Rep at hx
 rw [Zbu] at hx
 obtain ⟨a, c, rfl, h1, h2, h3, h4⟩ := hx
 refine (Zxj l w a c h2 ?_).mono ?_
 ·rcases h4 with h4 | ⟨b, o, hb, rfl, hr⟩
  ·left
   cases l with
   | nil => rfl
   | cons _ _ => unfold Zb8 at h4; cases h4
  ·exact .inr ⟨b, o, ⟨Nat.zero_le _, hF b hb⟩, rfl, IsVs.keep (fun _ _ => rfl) (fun b hb => ⟨Nat.zero_le _, hF b hb⟩) l b o hb (Zk9 l hr)⟩
 ·rintro e w' ⟨he, hb⟩
  exact ⟨_, he, hb, by unfold Rep; exact ⟨rfl, trivial⟩⟩
section
variable {P : Program} {X : Base} {N : Nat} {Q : Exit → Act → World → Prop} {ops : Array Oper} {rem : List Nat} {ks : List Itm} {s s' : Sta}
end
theorem Zi4 (x : EV) : PCall Tryz.prog 73 [pdE x] (.val (.int .i64 (rkE x))) := by
 obtain ⟨k, s, ks, l, v, n⟩ := x
 unfold pdE rkE
 simp only
 refine Zaa Tryz.func73 rfl Tryz.ntmps73 rfl (fun X => ?_)
 by_cases h1 : k = 1
 ·have g1 : decide (k = 1) = true := decide_eq_true h1
  rw [if_pos h1]
  subst h1
  exact wke
 have g1 : decide (k = 1) = false := decide_eq_false h1
 rw [if_neg h1]
 by_cases h2 : k = 2
 ·have g2 : decide (k = 2) = true := decide_eq_true h2
  rw [if_pos h2]
  subst h2
  exact wke
 have g2 : decide (k = 2) = false := decide_eq_false h2
 rw [if_neg h2]
 by_cases h3 : k = 3
 ·have g3 : decide (k = 3) = true := decide_eq_true h3
  rw [if_pos h3]
  subst h3
  exact wke
 have g3 : decide (k = 3) = false := decide_eq_false h3
 rw [if_neg h3]
 exact wke
theorem Zzr {x : EV} {i : Nat} {k : ByteArray} {v : GV} (h1 : x.keys[i]? = some k) (h2 : x.l[i]? = some v) : (kvE x)[i]? = some (k, v) := by
 unfold kvE
 rw [List.getElem?_zip_eq_some]
 exact ⟨h1, h2⟩
theorem Zsl (x : EV) : (kvE x).length = min x.keys.length x.l.length := by unfold kvE; exact List.length_zip
theorem Yf7 {ks : List ByteArray} {j : Nat} {x : ByteArray} (h : ks[j]? = some x) : (pdS ks)[((j : Nat) : Int).toNat]? = some (.val (.string x)) := Zfb h
theorem Zz8 {l : List GV} {j : Nat} {x : GV} (h : l[j]? = some x) : (Zb8 l)[((j : Nat) : Int).toNat]? = some (qV x) := by
 rw [show qV x = pdV x from (Zf1 x).symm]
 exact Zfi h
theorem Yc8 (x y : EV) : PCall Tryz.prog 229 [pdE x, pdE y] (.val (.int .i64 (Zca Znx (kvE x) (kvE y)))) := by
 refine Zay fun hfit => ?_
 have b1 := (Fits.aggAt (hfit (pdE x) (by simp)) 2 (d := .sl 1 16 (pdS x.keys)) rfl).sl.2.1
 rw [Zby] at b1
 clear hfit
 have n1 := Zby x.keys
 have n2 := Zbu x.l
 have n3 := Zby y.keys
 have n4 := Zbu y.l
 have m1 := Zsl x
 have m2 := Zsl y
 have c0 := Zi0 (((kvE x).length : Nat) : Int) (((kvE y).length : Nat) : Int)
 have ez1 : ((min (pdS x.keys).length (Zb8 x.l).length : Nat) : Int) = (((kvE x).length : Nat) : Int) := by omega
 have ez2 : ((min (pdS y.keys).length (Zb8 y.l).length : Nat) : Int) = (((kvE y).length : Nat) : Int) := by omega
 rw [← ez1, ← ez2] at c0
 refine Zaa Tryz.func229 rfl Tryz.ntmps229 rfl (fun X => ?_)
 (try unfold pdE at *)
 refine wk ?_
 refine Zaq (ι := { j : Nat // (j ≤ (kvE x).length ∧ j ≤ (kvE y).length) ∧ ∀ i f g, i < j → (kvE x)[i]? = some f → (kvE y)[i]? = some g → Znx f g = 0 })
  (fun j => [(2, .ptr 2 0), (3, .ptr 3 0), (5, .dat (.val (.int .i64 (j.1 : Nat))))])
  (fun j => [(2, .box 29 (Zap (pdE x))), (3, .box 29 (Zap (pdE y)))]) (fun j => (kvE x).length - j.1) ⟨0, ⟨Nat.zero_le _, Nat.zero_le _⟩, fun i _ _ h => absurd h (Nat.not_lt_zero i)⟩ id ?_ ?_
 ·exact sb
 rintro ⟨j, ⟨hj, hj'⟩, hall⟩
 have hend : j = (kvE x).length ∨ j = (kvE y).length → Zca Znx (kvE x) (kvE y) = Zbw (((kvE x).length : Nat) : Int) (((kvE y).length : Nat) : Int) := fun h => Ztv hj hj' hall h
 rw [← ez1, ← ez2] at hend
 by_cases h1 : j < x.keys.length
 rotate_left
 ·have g1 : decide ((j : Int) < (((pdS x.keys).length : Nat) : Int)) = false := decide_eq_false (by omega)
  rw [hend (by omega)]
  (try unfold pdE at *)
  exact wke
 have g1 : decide ((j : Int) < (((pdS x.keys).length : Nat) : Int)) = true := decide_eq_true (by omega)
 by_cases h2 : j < x.l.length
 rotate_left
 ·have g2 : decide ((j : Int) < (((Zb8 x.l).length : Nat) : Int)) = false := decide_eq_false (by omega)
  rw [hend (by omega)]
  (try unfold pdE at *)
  exact wke
 have g2 : decide ((j : Int) < (((Zb8 x.l).length : Nat) : Int)) = true := decide_eq_true (by omega)
 by_cases h3 : j < y.keys.length
 rotate_left
 ·have g3 : decide ((j : Int) < (((pdS y.keys).length : Nat) : Int)) = false := decide_eq_false (by omega)
  rw [hend (by omega)]
  (try unfold pdE at *)
  exact wke
 have g3 : decide ((j : Int) < (((pdS y.keys).length : Nat) : Int)) = true := decide_eq_true (by omega)
 by_cases h4 : j < y.l.length
 rotate_left
 ·have g4 : decide ((j : Int) < (((Zb8 y.l).length : Nat) : Int)) = false := decide_eq_false (by omega)
  rw [hend (by omega)]
  (try unfold pdE at *)
  exact wke
 have g4 : decide ((j : Int) < (((Zb8 y.l).length : Nat) : Int)) = true := decide_eq_true (by omega)
 obtain ⟨f1, hf1⟩ : ∃ u, x.keys[j]? = some u := ⟨_, List.getElem?_eq_getElem h1⟩
 obtain ⟨f2, hf2⟩ : ∃ u, x.l[j]? = some u := ⟨_, List.getElem?_eq_getElem h2⟩
 obtain ⟨u1, hu1⟩ : ∃ u, y.keys[j]? = some u := ⟨_, List.getElem?_eq_getElem h3⟩
 obtain ⟨u2, hu2⟩ : ∃ u, y.l[j]? = some u := ⟨_, List.getElem?_eq_getElem h4⟩
 have i1 := Yf7 hf1
 have i2 := Zz8 hf2
 have i3 := Yf7 hu1
 have i4 := Zz8 hu2
 have c1 := Zpn f1 u1
 have c2 := Zra f2 u2
 have hx := Zzr hf1 hf2
 have hy := Zzr hu1 hu2
 by_cases hs : Zdb f1 u1 = 0
 ·have g5 : decide (Zdb f1 u1 ≠ 0) = false := decide_eq_false (by simp [hs])
  by_cases hv : Zdp (Zav f2) (Zav u2) = 0
  ·have g6 : decide (Zdp (Zav f2) (Zav u2) ≠ 0) = false := decide_eq_false (by simp [hv])
   (try unfold pdE at *)
   refine wk ?_
   refine Zan ?_
   refine ⟨⟨j + 1, ⟨by omega, by omega⟩, fun i f g hi hf hg => ?_⟩, id, by simp only; omega, ?_⟩
   ·by_cases e : i = j
    ·subst e
     rw [hx] at hf; rw [hy] at hg
     cases hf; cases hg
     unfold Znx
     rw [Zci hs, hv]
    ·exact hall i f g (by omega) hf hg
   exact sb
  ·have g6 : decide (Zdp (Zav f2) (Zav u2) ≠ 0) = true := decide_eq_true hv
   have e : Znx (f1, f2) (u1, u2) = Zdp (Zav f2) (Zav u2) := by unfold Znx; rw [Zci hs]
   rw [Zmz hall hx hy (by rw [e]; exact hv), e]
   (try unfold pdE at *)
   exact wke
 ·have g5 : decide (Zdb f1 u1 ≠ 0) = true := decide_eq_true hs
  have e : Znx (f1, f2) (u1, u2) = Zdb f1 u1 := by unfold Znx; rw [Zeh hs]
  rw [Zmz hall hx hy (by rw [e]; exact hs), e]
  (try unfold pdE at *)
  exact wke
theorem Yio (x y : EV) : PCall Tryz.prog 74 [pdE x, pdE y] (.val (.bool (Zfa Ylf (kvE x) (kvE y)))) := by
 refine Zay fun hfit => ?_
 have b1 := (Fits.aggAt (hfit (pdE x) (by simp)) 2 (d := .sl 1 16 (pdS x.keys)) rfl).sl.2.1
 rw [Zby] at b1
 clear hfit
 have n1 := Zby x.keys
 have n2 := Zbu x.l
 have n3 := Zby y.keys
 have n4 := Zbu y.l
 have m1 := Zsl x
 have m2 := Zsl y
 obtain ⟨z1, ez1⟩ : ∃ z, z = ((min (pdS x.keys).length (Zb8 x.l).length : Nat) : Int) := ⟨_, rfl⟩
 obtain ⟨z2, ez2⟩ : ∃ z, z = ((min (pdS y.keys).length (Zb8 y.l).length : Nat) : Int) := ⟨_, rfl⟩
 have hz1 : z1 = (((kvE x).length : Nat) : Int) := by omega
 have hz2 : z2 = (((kvE y).length : Nat) : Int) := by omega
 refine Zaa Tryz.func74 rfl Tryz.ntmps74 rfl (fun X => ?_)
 by_cases hl : (kvE x).length = (kvE y).length
 rotate_left
 ·have g1 : decide (((min (pdS x.keys).length (Zb8 x.l).length : Nat) : Int) ≠ ((min (pdS y.keys).length (Zb8 y.l).length : Nat) : Int)) = true := decide_eq_true (by omega)
  rw [Zm8 hl]
  (try unfold pdE at *)
  exact wke
 have g1 : decide (((min (pdS x.keys).length (Zb8 x.l).length : Nat) : Int) ≠ ((min (pdS y.keys).length (Zb8 y.l).length : Nat) : Int)) = false := decide_eq_false (by omega)
 (try unfold pdE at *)
 refine wk ?_
 refine Zaq (ι := { j : Nat // j ≤ (kvE x).length ∧ ∀ i f g, i < j → (kvE x)[i]? = some f → (kvE y)[i]? = some g → Ylf f g = true })
  (fun j => [(2, .ptr 2 0), (3, .ptr 3 0), (5, .dat (.val (.int .i64 z1))), (7, .dat (.val (.int .i64 (j.1 : Nat))))])
  (fun j => [(2, .box 29 (Zap (pdE x))), (3, .box 29 (Zap (pdE y)))]) (fun j => (kvE x).length - j.1) ⟨0, Nat.zero_le _, fun i _ _ h => absurd h (Nat.not_lt_zero i)⟩ id ?_ ?_
 ·exact sb
  all_goals first | rfl | (rw [ez1])
 rintro ⟨j, hj, hall⟩
 by_cases hlt : j < (kvE x).length
 rotate_left
 ·have g2 : decide ((j : Int) < z1) = false := decide_eq_false (by omega)
  rw [Zm6 hl fun i f g hf hg => hall i f g (by have := (List.getElem?_eq_some_iff.1 hf).1; omega) hf hg]
  (try unfold pdE at *)
  exact wke
 have g2 : decide ((j : Int) < z1) = true := decide_eq_true (by omega)
 obtain ⟨f1, hf1⟩ : ∃ u, x.keys[j]? = some u := ⟨_, List.getElem?_eq_getElem (by omega)⟩
 obtain ⟨f2, hf2⟩ : ∃ u, x.l[j]? = some u := ⟨_, List.getElem?_eq_getElem (by omega)⟩
 obtain ⟨u1, hu1⟩ : ∃ u, y.keys[j]? = some u := ⟨_, List.getElem?_eq_getElem (by omega)⟩
 obtain ⟨u2, hu2⟩ : ∃ u, y.l[j]? = some u := ⟨_, List.getElem?_eq_getElem (by omega)⟩
 have i1 := Yf7 hf1
 have i2 := Zz8 hf2
 have i3 := Yf7 hu1
 have i4 := Zz8 hu2
 have c2 := Zy4 f2 u2
 have hx := Zzr hf1 hf2
 have hy := Zzr hu1 hu2
 by_cases hs : f1 = u1
 ·have g3 : (!decide (f1 = u1)) = false := by simp [hs]
  have g3' : decide (f1 ≠ u1) = false := by simp [hs]
  cases hv : eqP (Zav f2) (Zav u2) with
  | true =>
   rw [hv] at c2
   (try unfold pdE at *)
   refine wk ?_
   refine Zan ?_
   refine ⟨⟨j + 1, by omega, fun i f g hi hf hg => ?_⟩, id, by simp only; omega, ?_⟩
   ·by_cases e : i = j
    ·subst e
     rw [hx] at hf; rw [hy] at hg
     cases hf; cases hg
     unfold Ylf
     simp only
     rw [hv]; simp [hs]
    ·exact hall i f g (by omega) hf hg
   exact sb
  | false =>
   rw [hv] at c2
   rw [Zlq hx hy (by unfold Ylf; simp only; rw [hv]; simp)]
   (try unfold pdE at *)
   exact wke
 ·have g3 : (!decide (f1 = u1)) = true := by simp [hs]
  have g3' : decide (f1 ≠ u1) = true := by simp [hs]
  rw [Zlq hx hy (by unfold Ylf; simp [hs])]
  (try unfold pdE at *)
  exact wke
theorem Ya5 (x y : EV) : PCall Tryz.prog 201 [pdE x, pdE y] (.val (.int .i64 (Zdu x y))) := by
 have c1 := Zi4 x
 have c2 := Zi4 y
 have c3 := Zi0 (rkE x) (rkE y)
 have c4 := Yc8 x y
 have c5 := Zra x.v y.v
 have c6 := Zi0 x.n y.n
 have c7 := Zpn x.s y.s
 unfold Zdu Yc0
 unfold pdE at *
 unfold qV at c5
 by_cases h0 : rkE x = rkE y
 rotate_left
 ·have h0' : Zbw (rkE x) (rkE y) ≠ 0 := fun h => h0 (cmpI_zero.1 h)
  have g0 : decide (Zbw (rkE x) (rkE y) ≠ 0) = true := decide_eq_true h0'
  rw [Zeh h0']
  refine Zaa Tryz.func201 rfl Tryz.ntmps201 rfl (fun X => ?_)
  exact wke
 have h0' : Zbw (rkE x) (rkE y) = 0 := cmpI_zero.2 h0
 have g0 : decide (Zbw (rkE x) (rkE y) ≠ 0) = false := decide_eq_false (by simp [h0'])
 rw [Zci h0']
 by_cases h1 : rkE x = 1
 ·have g1 : decide (rkE x = 1) = true := decide_eq_true h1
  rw [if_pos h1]
  refine Zaa Tryz.func201 rfl Tryz.ntmps201 rfl (fun X => ?_)
  exact wke
 have g1 : decide (rkE x = 1) = false := decide_eq_false h1
 rw [if_neg h1]
 by_cases h2 : rkE x = 2
 ·have g2 : decide (rkE x = 2) = true := decide_eq_true h2
  rw [if_pos h2]
  refine Zaa Tryz.func201 rfl Tryz.ntmps201 rfl (fun X => ?_)
  exact wke
 have g2 : decide (rkE x = 2) = false := decide_eq_false h2
 rw [if_neg h2]
 by_cases h3 : rkE x = 3
 ·have g3 : decide (rkE x = 3) = true := decide_eq_true h3
  rw [if_pos h3]
  refine Zaa Tryz.func201 rfl Tryz.ntmps201 rfl (fun X => ?_)
  exact wke
 have g3 : decide (rkE x = 3) = false := decide_eq_false h3
 rw [if_neg h3]
 refine Zaa Tryz.func201 rfl Tryz.ntmps201 rfl (fun X => ?_)
 exact wke
theorem Zt7 (x y : EV) : PCall Tryz.prog 20 [pdE x, pdE y] (.val (.bool (eqE x y))) := by
 have c1 := Zi4 x
 have c2 := Zi4 y
 have c4 := Yio x y
 have c5 := Zy4 x.v y.v
 unfold eqE
 unfold pdE at *
 unfold qV at c5
 by_cases h0 : rkE x = rkE y
 rotate_left
 ·have g0 : decide (rkE x ≠ rkE y) = true := decide_eq_true h0
  rw [if_pos h0]
  refine Zaa Tryz.func20 rfl Tryz.ntmps20 rfl (fun X => ?_)
  exact wke
 have g0 : decide (rkE x ≠ rkE y) = false := decide_eq_false (by simp [h0])
 rw [if_neg (by simp [h0])]
 by_cases h1 : rkE x = 1
 ·have g1 : decide (rkE x = 1) = true := decide_eq_true h1
  rw [if_pos h1]
  refine Zaa Tryz.func20 rfl Tryz.ntmps20 rfl (fun X => ?_)
  exact wke
 have g1 : decide (rkE x = 1) = false := decide_eq_false h1
 rw [if_neg h1]
 by_cases h2 : rkE x = 2
 ·have g2 : decide (rkE x = 2) = true := decide_eq_true h2
  rw [if_pos h2]
  refine Zaa Tryz.func20 rfl Tryz.ntmps20 rfl (fun X => ?_)
  exact wke
 have g2 : decide (rkE x = 2) = false := decide_eq_false h2
 rw [if_neg h2]
 by_cases h3 : rkE x = 3
 ·have g3 : decide (rkE x = 3) = true := decide_eq_true h3
  rw [if_pos h3]
  refine Zaa Tryz.func20 rfl Tryz.ntmps20 rfl (fun X => ?_)
  exact wke
 have g3 : decide (rkE x = 3) = false := decide_eq_false h3
 rw [if_neg h3]
 refine Zaa Tryz.func20 rfl Tryz.ntmps20 rfl (fun X => ?_)
 exact wke
theorem Ykw (x : EV) : PCall Tryz.prog 130 [pdE x] (Ycj (flE x)) := by
 refine Zay fun hfit => ?_
 have b0 := (Fits.aggAt (hfit (pdE x) (by simp)) 3 (d := .sl 6 88 (Zb8 x.l)) rfl).sl
 have b1 := b0.1
 have b2 := (Fits.aggAt (hfit (pdE x) (by simp)) 2 (d := .sl 1 16 (pdS x.keys)) rfl).sl.2.1
 clear hfit b0
 have n1 := Zbu x.l
 have n2 := Zby x.keys
 rw [n1] at b1
 rw [n2] at b2
 have n3 := Zlt x
 refine Zaa Tryz.func130 rfl Tryz.ntmps130 rfl (fun X => ?_)
 unfold pdE
 refine wk ?_
 refine Zaq (ι := { k : Nat // k ≤ x.keys.length })
  (fun k => [(1, .ptr 1 0), (3, .own 100), (8, .dat (.sl 1 16 (pdS x.keys))), (9, .dat (.val (.int .i64 ((pdS x.keys).length : Nat)))), (10, .dat (.val (.int .i64 (k.1 : Nat))))])
  (fun k => [(1, .box 29 (Zap (pdE x))), (100, .row 213 2 32 (((flE x).take k.1).map Zeb))]) (fun k => x.keys.length - k.1) ⟨0, Nat.zero_le _⟩ (fun j => if j = 100 then 6 else j) ?_ ?_
 ·exact sb
 rintro ⟨k, hk⟩
 by_cases hlt : k < x.keys.length
 ·have hc : decide ((k : Int) < (((pdS x.keys).length : Nat) : Int)) = true := decide_eq_true (by omega)
  obtain ⟨key, hkey⟩ : ∃ y, x.keys[k]? = some y := ⟨_, List.getElem?_eq_getElem hlt⟩
  have i1 : (pdS x.keys)[((k : Nat) : Int).toNat]? = some (.val (.string key)) := Zfb hkey
  by_cases hl : k < x.l.length
  ·have hc2 : decide ((k : Int) < (((Zb8 x.l).length : Nat) : Int)) = true := decide_eq_true (by omega)
   obtain ⟨y, hy⟩ : ∃ y, x.l[k]? = some y := ⟨_, List.getElem?_eq_getElem hl⟩
   have i2 : (Zb8 x.l)[((k : Nat) : Int).toNat]? = some (qV y) := (Zfi hy).trans (by rw [Zsx])
   have c := Zvy y
   have hf := Yqu x hkey hy
   have e : ((flE x).take (k + 1)).map Zeb = ((flE x).take k).map Zeb ++ [.agg [.val (.string key), dvV (Za1 y)]] := by simp [List.take_add_one, hf, Zeb]
   have hbt : ((((flE x).take k).map Zeb).length + [PD.agg [.val (.string key), dvV (Za1 y)]].length) * 32 ≤ 140737488351232 := by simp; omega
   have hbl : (((flE x).take k).map Zeb).length + [PD.agg [.val (.string key), dvV (Za1 y)]].length ≤ 140737488351232 := by simp; omega
   generalize ((flE x).take k).map Zeb = da at *
   unfold qV at *
   unfold pdE
   refine wk ?_
   refine Zan ?_
   refine ⟨⟨k + 1, by omega⟩, (fun j => if j = 100 then 30 else j), by simp only; omega, ?_⟩
   rw [e]
   exact sb
  ·have hc2 : decide ((k : Int) < (((Zb8 x.l).length : Nat) : Int)) = false := decide_eq_false (by omega)
   have e : (flE x).take (k + 1) = (flE x).take k := by rw [List.take_of_length_le (by omega), List.take_of_length_le (by omega)]
   unfold pdE
   refine wk ?_
   refine Zan ?_
   refine ⟨⟨k + 1, by omega⟩, id, by simp only; omega, ?_⟩
   simp only [e]
   exact sb
 ·have hc : decide ((k : Int) < (((pdS x.keys).length : Nat) : Int)) = false := decide_eq_false (by omega)
  have hkk : (flE x).take k = flE x := List.take_of_length_le (by omega)
  simp only [hkk]
  unfold pdE
  refine Zbj (fun _ => false) (fun k => k == 100) ?_
  unfold Ycj
  exact wke
theorem Ykv (x : EV) : PCall Tryz.prog 67 [pdE x] (Za4 (Zaz x)) := by
 have c1 := Ykw x
 have c2 := Zvy x.v
 unfold Zaz
 unfold qV pdE at *
 unfold Ycj at c1
 refine Zaa Tryz.func67 rfl Tryz.ntmps67 rfl (fun X => ?_)
 by_cases h1 : x.kind = 1
 ·have g1 : decide (x.kind = 1) = true := decide_eq_true h1
  rw [if_pos h1]
  refine wk ?_
  refine Zbj (fun _ => false) (fun k => k == 3) ?_
  exact wke
 have g1 : decide (x.kind = 1) = false := decide_eq_false h1
 rw [if_neg h1]
 by_cases h2 : x.kind = 2
 ·have g2 : decide (x.kind = 2) = true := decide_eq_true h2
  rw [if_pos h2]
  refine wk ?_
  refine Zbj (fun _ => false) (fun k => k == 4) ?_
  exact wke
 have g2 : decide (x.kind = 2) = false := decide_eq_false h2
 rw [if_neg h2]
 by_cases h3 : x.kind = 3
 ·have g3 : decide (x.kind = 3) = true := decide_eq_true h3
  rw [if_pos h3]
  refine wk ?_
  refine Zbj (fun _ => false) (fun k => k == 5) ?_
  exact wke
 have g3 : decide (x.kind = 3) = false := decide_eq_false h3
 rw [if_neg h3]
 refine wk ?_
 refine Zbj (fun _ => false) (fun k => k == 6) ?_
 exact wke
theorem Zyc (x : EV) : PCall Tryz.prog 92 [pdE x] (pdE (Za0 x)) := by
 have c1 := Zpe (x.l.take (min x.keys.length x.l.length)) fun y _ => Zrq y
 have c2 := Zrq x.v
 refine Zay fun hfit => ?_
 have b0 := (Fits.aggAt (hfit (pdE x) (by simp)) 3 (d := .sl 6 88 (Zb8 x.l)) rfl).sl
 have b1 := b0.1
 have b2 := (Fits.aggAt (hfit (pdE x) (by simp)) 2 (d := .sl 1 16 (pdS x.keys)) rfl).sl.2.1
 clear hfit b0
 have n1 := Zbu x.l
 have n2 := Zby x.keys
 have e1 : Zb8 (x.l.take (min x.keys.length x.l.length)) = ((Zb8 x.l).take (min (pdS x.keys).length (Zb8 x.l).length)).drop 0 := by rw [n1, n2, Zhe, Zhe]; simp [List.map_take]
 have e2 : pdS (x.keys.take (min x.keys.length x.l.length)) = [] ++ ((pdS x.keys).take (min (pdS x.keys).length (Zb8 x.l).length)).drop 0 := by rw [n1, n2]; simp [pdS, List.map_take]
 have m1 : min (pdS x.keys).length (Zb8 x.l).length ≤ (pdS x.keys).length := Nat.min_le_left _ _
 have m2 : min (pdS x.keys).length (Zb8 x.l).length ≤ (Zb8 x.l).length := Nat.min_le_right _ _
 have m3 : (([] : List PD).length + (((pdS x.keys).take (min (pdS x.keys).length (Zb8 x.l).length)).drop 0).length) * 16 ≤ 140737488351232 := by simp; omega
 have m4 : ([] : List PD).length + (((pdS x.keys).take (min (pdS x.keys).length (Zb8 x.l).length)).drop 0).length ≤ 140737488351232 := by simp; omega
 rw [e1] at c1
 unfold Za0
 by_cases h1 : x.kind = 1
 ·have g1 : decide (x.kind = 1) = true := decide_eq_true h1
  rw [if_pos h1]
  unfold qV pdE at *
  simp only [e2, Zdi, GV.kind, GV.n, GV.f, GV.s, GV.keys, GV.l]
  generalize Zco (x.l.take (min x.keys.length x.l.length)) = cl at *
  clear e1 e2
  refine Zaa Tryz.func92 rfl Tryz.ntmps92 rfl (fun X => ?_)
  refine wk ?_
  refine Zbj (fun _ => false) (fun k => k == 20) ?_
  exact wke
 have g1 : decide (x.kind = 1) = false := decide_eq_false h1
 rw [if_neg h1]
 clear e1 e2 m1 m2 m3 m4 c1 b1 b2
 generalize Zav x.v = y at *
 unfold qV pdE at *
 refine Zaa Tryz.func92 rfl Tryz.ntmps92 rfl (fun X => ?_)
 by_cases h2 : x.kind = 2
 ·have g2 : decide (x.kind = 2) = true := decide_eq_true h2
  rw [if_pos h2]
  exact wke
 have g2 : decide (x.kind = 2) = false := decide_eq_false h2
 rw [if_neg h2]
 by_cases h3 : x.kind = 3
 ·have g3 : decide (x.kind = 3) = true := decide_eq_true h3
  rw [if_pos h3]
  exact wke
 have g3 : decide (x.kind = 3) = false := decide_eq_false h3
 rw [if_neg h3]
 exact wke
theorem Ztd (x : EV) : PCall Tryz.prog 67 [pdE x] (Za4 (Zaz x)) := Ykv x
theorem Zyb (x : EV) : PCall Tryz.prog 92 [pdE x] (pdE (Za0 x)) := Zyc x
theorem Zy8 (x : EV) : ∃ b, PCall Tryz.prog 15 [pdE x] (.val (.bool b)) := by
 have c := Ynf x.keys
 unfold pdE
 cases h1 : decide ((2147483647 : Int) < (x.s.size : Int)) with
 | true =>
  refine ⟨false, ?_⟩
  refine Zaa Tryz.func15 rfl Tryz.ntmps15 rfl (fun X => ?_)
  repeat' (first
  | refine Zae ?_
  | (refine Zao rfl ?_; first | refine Zad rfl rfl ?_ | refine Za9 rfl rfl rfl ?_ | refine Za5 rfl rfl rfl (by first | rfl | (simp only [Zap]; rfl)) ?_ | refine Zax rfl rfl rfl rfl ?_ | refine Zcq rfl rfl rfl (by first | rfl | (simp only [Zap]; rfl)) ?_ | refine Zoo rfl rfl (by kernel_rfl) ?_)
  | refine Zac ?_
  | refine Zab ?_
  | refine Zam rfl (by first | rfl | assumption) ?_
  | refine Zag (Zaj rfl rfl ?_)
  | fail)
  all_goals exact PLe.refl _
 | false =>
  cases h2 : Ys9 x.keys with
  | false =>
   rw [h2] at c
   refine ⟨false, ?_⟩
   refine Zaa Tryz.func15 rfl Tryz.ntmps15 rfl (fun X => ?_)
   repeat' (first
  | refine Zae ?_
  | (refine Zao rfl ?_; first | refine Zad rfl rfl ?_ | refine Za9 rfl rfl rfl ?_ | refine Za5 rfl rfl rfl (by first | rfl | (simp only [Zap]; rfl)) ?_ | refine Zax rfl rfl rfl rfl ?_ | refine Zcq rfl rfl rfl (by first | rfl | (simp only [Zap]; rfl)) ?_ | refine Zgo rfl (by kernel_rfl) rfl (by first | exact c) ?_ | refine Zoo rfl rfl (by kernel_rfl) ?_ | refine Zdc rfl rfl ?_)
  | refine Zac ?_
  | refine Zab ?_
  | refine Zam rfl (by first | rfl | assumption) ?_
  | refine Zak rfl (by first | rfl | assumption) ?_
  | refine Zas ?_
  | refine Zag (Zaj rfl rfl ?_)
  | fail)
   all_goals exact PLe.refl _
  | true =>
   rw [h2] at c
   cases h3 : decide ((2147483647 : Int) < (((Zb8 x.l).length : Nat) : Int)) with
   | true =>
    refine ⟨false, ?_⟩
    refine Zaa Tryz.func15 rfl Tryz.ntmps15 rfl (fun X => ?_)
    repeat' (first
  | refine Zae ?_
  | (refine Zao rfl ?_; first | refine Zad rfl rfl ?_ | refine Za9 rfl rfl rfl ?_ | refine Za5 rfl rfl rfl (by first | rfl | (simp only [Zap]; rfl)) ?_ | refine Zax rfl rfl rfl rfl ?_ | refine Zcq rfl rfl rfl (by first | rfl | (simp only [Zap]; rfl)) ?_ | refine Zgo rfl (by kernel_rfl) rfl (by first | exact c) ?_ | refine Zoo rfl rfl (by kernel_rfl) ?_ | refine Zu2 rfl rfl ?_ | refine Zdc rfl rfl ?_)
  | refine Zac ?_
  | refine Zab ?_
  | refine Zam rfl (by first | rfl | assumption) ?_
  | refine Zak rfl (by first | rfl | assumption) ?_
  | refine Zas ?_
  | refine Zag (Zaj rfl rfl ?_)
  | fail)
    all_goals exact PLe.refl _
   | false =>
    refine ⟨true, ?_⟩
    refine Zaa Tryz.func15 rfl Tryz.ntmps15 rfl (fun X => ?_)
    repeat' (first
  | refine Zae ?_
  | (refine Zao rfl ?_; first | refine Zad rfl rfl ?_ | refine Za9 rfl rfl rfl ?_ | refine Za5 rfl rfl rfl (by first | rfl | (simp only [Zap]; rfl)) ?_ | refine Zax rfl rfl rfl rfl ?_ | refine Zcq rfl rfl rfl (by first | rfl | (simp only [Zap]; rfl)) ?_ | refine Zgo rfl (by kernel_rfl) rfl (by first | exact c) ?_ | refine Zoo rfl rfl (by kernel_rfl) ?_ | refine Zu2 rfl rfl ?_ | refine Zdc rfl rfl ?_)
  | refine Zac ?_
  | refine Zab ?_
  | refine Zak rfl (by first | rfl | assumption) ?_
  | refine Zas ?_
  | refine Zag (Zaj rfl rfl ?_)
  | fail)
    all_goals exact PLe.refl _
section
variable {P : Program} {X : Base} {N : Nat} {Q : Exit → Act → World → Prop} {s s' : Sta}
end
def Yks : List ByteArray → Bool
 | a :: b :: r => decide (Zdb a b < 0) && Yks (b :: r)
 | _ => true
theorem Yg5 : ∀ {ks : List ByteArray} {i : Nat} {a b : ByteArray}, ks[i]? = some a → ks[i + 1]? = some b → 0 ≤ Zdb a b → Yks ks = false
 | [], _, _, _, h, _, _ => by simp at h
 | [_], i, a, b, _, h, _ => by simp at h
 | x :: y :: r, 0, a, b, h, h', hc => by
  simp at h h'
  subst h h'
  unfold Yks
  rw [decide_eq_false (by omega)]; rfl
 | x :: y :: r, i + 1, a, b, h, h', hc => by
  unfold Yks
  rw [Yg5 (ks := y :: r) (i := i) (by simpa using h) (by simpa using h') hc, Bool.and_false]
theorem Yak : ∀ {ks : List ByteArray}, (∀ (i : Nat) (a b : ByteArray), ks[i]? = some a → ks[i + 1]? = some b → Zdb a b < 0) → Yks ks = true
 | [], _ => rfl
 | [_], _ => rfl
 | x :: y :: r, h => by
  unfold Yks
  rw [decide_eq_true (h 0 x y rfl rfl), Yak (ks := y :: r) (fun i a b ha hb => h (i + 1) a b (by simpa using ha) (by simpa using hb))]; rfl
theorem Zwk (x : EV) : (Za0 x).keys.length ≤ x.keys.length := by
 unfold Za0
 split
 ·simp only [List.length_take]; omega
 ·split
  ·simp
  ·split <;> simp
theorem Zw9 (x : EV) : PCall Tryz.prog 95 [pdE x] (.val (.bool (Yks (Za0 x).keys))) := by
 refine Zay fun hfit => ?_
 have b1 := (Fits.aggAt (hfit (pdE x) (by simp)) 2 (d := .sl 1 16 (pdS x.keys)) rfl).sl.2.1
 rw [Zby] at b1
 clear hfit
 have b2 := Zwk x
 have c1 := Zyb x
 generalize Za0 x = y at *
 have n1 := Zby y.keys
 refine Zaa Tryz.func95 rfl Tryz.ntmps95 rfl (fun X => ?_)
 (try unfold pdE at *)
 refine wk ?_
 refine Zaq (ι := { j : Nat // (j ≤ y.keys.length) ∧ ∀ (i : Nat) (a b : ByteArray), i < j → y.keys[i]? = some a → y.keys[i + 1]? = some b → Zdb a b < 0 })
  (fun j => [(1, .ptr 1 0), (3, .dat (.val (.int .i64 ((j.1 + 1 : Nat) : Int))))])
  (fun j => [(1, .box 29 (Zap (pdE y)))]) (fun j => y.keys.length - j.1) ⟨0, Nat.zero_le _, fun i _ _ h => absurd h (Nat.not_lt_zero i)⟩ id ?_ ?_
 ·exact sb
 rintro ⟨j, hj, hall⟩
 by_cases hlt : j + 1 < y.keys.length
 rotate_left
 ·have g1 : decide (((j + 1 : Nat) : Int) < (((pdS y.keys).length : Nat) : Int)) = false := decide_eq_false (by omega)
  rw [Yak fun i a b ha hb => hall i a b (by have := (List.getElem?_eq_some_iff.1 hb).1; omega) ha hb]
  (try unfold pdE at *)
  exact wke
 have g1 : decide (((j + 1 : Nat) : Int) < (((pdS y.keys).length : Nat) : Int)) = true := decide_eq_true (by omega)
 obtain ⟨a, ha⟩ : ∃ u, y.keys[j]? = some u := ⟨_, List.getElem?_eq_getElem (by omega)⟩
 obtain ⟨b, hb⟩ : ∃ u, y.keys[j + 1]? = some u := ⟨_, List.getElem?_eq_getElem hlt⟩
 have i1 : (pdS y.keys)[(((j + 1 : Nat) : Int) - 1).toNat]? = some (.val (.string a)) := by
  rw [show ((((j + 1 : Nat) : Int) - 1).toNat) = j by omega]; exact Zfb ha
 have i2 := Yf7 hb
 have c2 := Zpn a b
 by_cases hs : Zdb a b < 0
 ·have g2 : decide (0 ≤ Zdb a b) = false := decide_eq_false (by omega)
  (try unfold pdE at *)
  refine wk ?_
  refine Zan ?_
  refine ⟨⟨j + 1, by omega, fun i a' b' hi ha' hb' => ?_⟩, id, by simp only; omega, ?_⟩
  ·by_cases e : i = j
   ·subst e
    rw [ha] at ha'; rw [hb] at hb'
    cases ha'; cases hb'
    exact hs
   ·exact hall i a' b' (by omega) ha' hb'
  exact sb
 ·have g2 : decide (0 ≤ Zdb a b) = true := decide_eq_true (by omega)
  rw [Yg5 ha hb (by omega)]
  (try unfold pdE at *)
  exact wke
def Zjx (x : EV) : Bool := Zje (Za0 x).v && (Zmj (Za0 x).l && Yks (Za0 (Za0 x)).keys)
theorem Zo8 (x : EV) : PCall Tryz.prog 37 [pdE x] (.val (.bool (Zjx x))) := by
 unfold Zjx
 have c0 := Zyb x
 generalize Za0 x = y at *
 have c1 := Yry y.v
 have c2 := Yf1 y.l
 have c3 := Zw9 y
 unfold pdE at *
 unfold qV at c1
 generalize Zje y.v = b1 at *
 generalize Zmj y.l = b2 at *
 generalize Yks (Za0 y).keys = b3 at *
 refine Zaa Tryz.func37 rfl Tryz.ntmps37 rfl (fun X => ?_)
 cases b1 <;> cases b2
 all_goals
  exact wke
theorem Zwe {x : EV} (h : JPE (Zaz x)) (ho : Zjx x = true) : OPE (Zaz x) := by
 unfold Zjx at ho
 simp only [Bool.and_eq_true] at ho
 exact Yp4 h ho.1 ho.2.1
def pdP (l : List EV) : PD := .sl 11 168 (l.map pdE)
def dvP (l : List PEV) : PD := .sl 4 32 (l.map Za4)
theorem Zq0 (ps : List (List EV)) : PCall Tryz.prog 21 [.sl 1 24 (ps.map pdP)] (.val (.bool (ps.all fun p => p.all Zjx))) := by
 refine Zay fun hfit => ?_
 have b1 := (hfit (.sl 1 24 (ps.map pdP)) (by simp)).sl.2.1
 have b3 : ∀ p ∈ ps, p.length ≤ 140737488351232 := fun p hp => by
  have h := (hfit (.sl 1 24 (ps.map pdP)) (by simp)).sl.2.2 (pdP p) (List.mem_map.2 ⟨p, hp, rfl⟩)
  unfold pdP at h
  simpa using h.sl.2.1
 clear hfit
 have n1 : (ps.map pdP).length = ps.length := by simp
 have ga : ∀ {i : Nat} {p : List EV}, ps[i]? = some p → (ps.map pdP)[((i : Nat) : Int).toNat]? = some (pdP p) := fun h => by simp [h]
 rw [n1] at b1
 generalize ps.map pdP = da at *
 refine Zaa Tryz.func21 rfl Tryz.ntmps21 rfl (fun X => ?_)
 refine wk ?_
 refine Zaq (ι := { j : Nat // j ≤ ps.length ∧ ∀ i p, i < j → ps[i]? = some p → p.all Zjx = true })
  (fun j => [(7, .dat (.sl 1 24 da)), (8, .dat (.val (.int .i64 ((da.length : Nat) : Int)))), (9, .dat (.val (.int .i64 (j.1 : Nat))))])
  (fun _ => []) (fun j => ps.length - j.1) ⟨0, Nat.zero_le _, fun i _ h => absurd h (Nat.not_lt_zero i)⟩ id ?_ ?_
 ·exact sb
 rintro ⟨j, hj, hall⟩
 by_cases hlt : j < ps.length
 rotate_left
 ·have g1 : decide ((j : Int) < ((da.length : Nat) : Int)) = false := decide_eq_false (by omega)
  have e : (ps.all fun p => p.all Zjx) = true := List.all_eq_true.2 fun p hp => by
   obtain ⟨i, hi⟩ := List.getElem?_of_mem hp
   exact hall i p (by have := (List.getElem?_eq_some_iff.1 hi).1; omega) hi
  rw [e]
  exact wke
 have g1 : decide ((j : Int) < ((da.length : Nat) : Int)) = true := decide_eq_true (by omega)
 obtain ⟨p, hp⟩ : ∃ p, ps[j]? = some p := ⟨_, List.getElem?_eq_getElem hlt⟩
 have i1 := ga hp
 have b2 := b3 p (List.mem_of_getElem? hp)
 have n2 : (p.map pdE).length = p.length := by simp
 have gb : ∀ {i : Nat} {x : EV}, p[i]? = some x → (p.map pdE)[((i : Nat) : Int).toNat]? = some (pdE x) := fun h => by simp [h]
 unfold pdP at i1
 refine wk ?_
 refine Zaq (ι := { q : Nat // q ≤ p.length ∧ ∀ i x, i < q → p[i]? = some x → Zjx x = true })
  (fun q => [(7, .dat (.sl 1 24 da)), (8, .dat (.val (.int .i64 ((da.length : Nat) : Int)))), (9, .dat (.val (.int .i64 (j : Nat)))), (13, .dat (.sl 11 168 (p.map pdE))), (14, .dat (.val (.int .i64 (((p.map pdE).length : Nat) : Int)))), (15, .dat (.val (.int .i64 (q.1 : Nat))))])
  (fun _ => []) (fun q => p.length - q.1) ⟨0, Nat.zero_le _, fun i _ h => absurd h (Nat.not_lt_zero i)⟩ id ?_ ?_
 ·exact sb
 rintro ⟨q, hq, hallq⟩
 by_cases hltq : q < p.length
 rotate_left
 ·have g2 : decide ((q : Int) < (((p.map pdE).length : Nat) : Int)) = false := decide_eq_false (by omega)
  have e : p.all Zjx = true := List.all_eq_true.2 fun x hx => by
   obtain ⟨i, hi⟩ := List.getElem?_of_mem hx
   exact hallq i x (by have := (List.getElem?_eq_some_iff.1 hi).1; omega) hi
  refine wk ?_
  refine Zan ?_
  refine ⟨⟨j + 1, by omega, fun i p' hi hp' => ?_⟩, id, by simp only; omega, ?_⟩
  ·by_cases e' : i = j
   ·subst e'
    rw [hp] at hp'; cases hp'
    exact e
   ·exact hall i p' (by omega) hp'
  exact sb
 have g2 : decide ((q : Int) < (((p.map pdE).length : Nat) : Int)) = true := decide_eq_true (by omega)
 obtain ⟨x, hx⟩ : ∃ x, p[q]? = some x := ⟨_, List.getElem?_eq_getElem hltq⟩
 have i2 := gb hx
 have c1 := Zo8 x
 cases ho : Zjx x with
 | true =>
  rw [ho] at c1
  (try unfold pdE at *)
  refine wk ?_
  refine Zan ?_
  refine ⟨⟨q + 1, by omega, fun i x' hi hx' => ?_⟩, id, by simp only; omega, ?_⟩
  ·by_cases e' : i = q
   ·subst e'
    rw [hx] at hx'; cases hx'
    exact ho
   ·exact hallq i x' (by omega) hx'
  exact sb
 | false =>
  rw [ho] at c1
  have e : (ps.all fun p => p.all Zjx) = false := List.all_eq_false.2 ⟨p, List.mem_of_getElem? hp, by
   simp only [Bool.not_eq_true]
   exact List.all_eq_false.2 ⟨x, List.mem_of_getElem? hx, by simp [ho]⟩⟩
  rw [e]
  (try unfold pdE at *)
  exact wke
theorem Zc2 (p : PEV) : ∃ d0 d1 d2 d3, Za4 p = .agg [d0, d1, d2, d3] := by cases p <;> exact ⟨_, _, _, _, rfl⟩
theorem Yan (l : List EV) : PCall Tryz.prog 98 [pdP l] (dvP (l.map Zaz)) := by
 refine Zay fun hfit => ?_
 unfold pdP dvP at *
 have b0 := (hfit (.sl 11 168 (l.map pdE)) (by simp)).sl
 clear hfit
 have n1 : (l.map pdE).length = l.length := by simp
 have b1 := b0.1
 have b2 := b0.2.1
 rw [n1] at b1 b2
 clear b0
 have ga : ∀ {i : Nat} {x : EV}, l[i]? = some x → (l.map pdE)[((i : Nat) : Int).toNat]? = some (pdE x) := fun h => by simp [h]
 refine Zaa Tryz.func98 rfl Tryz.ntmps98 rfl (fun X => ?_)
 refine wk ?_
 refine Zaq (ι := { k : Nat // k ≤ l.length })
  (fun k => [(3, .own 100), (7, .dat (.sl 11 168 (l.map pdE))), (8, .dat (.val (.int .i64 (((l.map pdE).length : Nat) : Int)))), (9, .dat (.val (.int .i64 (k.1 : Nat))))])
  (fun k => [(100, .row 99 4 32 ((l.take k.1).map fun x => Za4 (Zaz x)))]) (fun k => l.length - k.1) ⟨0, Nat.zero_le _⟩ (fun j => if j = 100 then 6 else j) ?_ ?_
 ·exact sb
 rintro ⟨k, hk⟩
 by_cases hlt : k < l.length
 ·have hc : decide ((k : Int) < (((l.map pdE).length : Nat) : Int)) = true := decide_eq_true (by omega)
  obtain ⟨x, hx⟩ : ∃ x, l[k]? = some x := ⟨_, List.getElem?_eq_getElem hlt⟩
  have hi := ga hx
  have c1 := Ztd x
  obtain ⟨d0, d1, d2, d3, e⟩ := Zc2 (Zaz x)
  rw [e] at c1
  have hbt : (((l.take k).map fun x => Za4 (Zaz x)).length + [PD.agg [d0, d1, d2, d3]].length) * 32 ≤ 140737488351232 := by simp; omega
  have hbl : ((l.take k).map fun x => Za4 (Zaz x)).length + [PD.agg [d0, d1, d2, d3]].length ≤ 140737488351232 := by simp; omega
  have e2 : ((l.take k).map fun x => Za4 (Zaz x)) ++ [PD.agg [d0, d1, d2, d3]] = (l.take (k + 1)).map fun x => Za4 (Zaz x) := by simp [List.take_add_one, hx, e]
  generalize ((l.take k).map fun x => Za4 (Zaz x)) = r1 at *
  unfold pdE at hi c1
  refine wk ?_
  refine Zan ?_
  refine ⟨⟨k + 1, by omega⟩, (fun j => if j = 100 then 17 else j), by simp only; omega, ?_⟩
  exact sb
 ·have hc : decide ((k : Int) < (((l.map pdE).length : Nat) : Int)) = false := decide_eq_false (by omega)
  have hkk : l.take k = l := List.take_of_length_le (by omega)
  simp only [hkk]
  refine Zbj (fun _ => false) (fun k => k == 100) ?_
  have e : PD.sl 4 32 (l.map fun x => Za4 (Zaz x)) = .sl 4 32 ((l.map Zaz).map Za4) := by rw [List.map_map]; rfl
  exact wke
end Go.Proofs.YtgmahieoiifpfaaGreat
section
namespace Go.Proofs.YtgmahieoiifpfaaGreat
section
variable {α : Type} (c : α → α → Int)
def Zdj : List α → α → List α
 | [], p => [p]
 | m :: r, p => if c m p < 0 then m :: Zdj r p else if c m p = 0 then m :: r else p :: m :: r
def Zbn (l : List α) (p : α) : Bool := l.any fun m => decide (c m p = 0)
def Zbe : List α → α → Nat
 | [], _ => 0
 | m :: r, p => if c m p < 0 then Zbe r p + 1 else 0
def Ze9 : List α → α → Bool
 | [], _ => false
 | m :: r, p => if c m p < 0 then Ze9 r p else decide (c m p = 0)
def Zvt (l : List α) : List α := l.foldl (Zdj c) []
variable {c}
theorem Zit : ∀ (l : List α) (p : α), Zbe c l p ≤ l.length
 | [], _ => Nat.le_refl _
 | m :: r, p => by
  unfold Zbe
  split
  ·simpa using Zit r p
  ·simp
theorem Zta : ∀ (l : List α) (p : α), Zdj c l p = if Ze9 c l p then l else l.take (Zbe c l p) ++ p :: l.drop (Zbe c l p)
 | [], p => by simp [Zdj, Ze9, Zbe]
 | m :: r, p => by
  unfold Zdj Ze9 Zbe
  by_cases h : c m p < 0
  ·rw [if_pos h, if_pos h, if_pos h, Zta r p]
   split <;> simp
  ·rw [if_neg h, if_neg h, if_neg h]
   by_cases h' : c m p = 0
   ·simp [h']
   ·simp [h']
theorem Zot : ∀ (l : List α) (p : α) (i : Nat) (x : α), i < Zbe c l p → l[i]? = some x → c x p < 0
 | [], _, _, _, h, _ => by simp [Zbe] at h
 | m :: r, p, i, x, h, hx => by
  unfold Zbe at h
  by_cases h' : c m p < 0
  ·rw [if_pos h'] at h
   cases i with
   | zero => simp at hx; subst hx; exact h'
   | succ i => exact Zot r p i x (by omega) (by simpa using hx)
  ·rw [if_neg h'] at h; omega
def Srt (c : α → α → Int) (l : List α) : Prop := l.Pairwise fun a b => c a b < 0
structure OrdL (c : α → α → Int) (P : α → Prop) : Prop where
 tri : ∀ x y z, P x → P y → P z → Tri (c x y) (c y z) (c x z)
 swp : ∀ x y, P x → P y → c y x = - c x y
theorem Zn2 : ∀ (l : List α) (p : α), Ze9 c l p = match l[Zbe c l p]? with | some x => decide (c x p = 0) | none => false
 | [], _ => rfl
 | m :: r, p => by
  unfold Ze9 Zbe
  by_cases h : c m p < 0
  ·rw [if_pos h, if_pos h, Zn2 r p]
   simp
  ·rw [if_neg h, if_neg h]
   rfl
theorem Ztb : ∀ {l : List α} {p x : α}, x ∈ Zdj c l p → x = p ∨ x ∈ l
 | [], p, x, h => by simp [Zdj] at h; exact .inl h
 | m :: r, p, x, h => by
  unfold Zdj at h
  split at h
  ·rcases List.mem_cons.1 h with h | h
   ·exact .inr (by simp [h])
   ·rcases Ztb h with h | h
    ·exact .inl h
    ·exact .inr (by simp [h])
  ·split at h
   ·exact .inr h
   ·rcases List.mem_cons.1 h with h | h
    ·exact .inl h
    ·exact .inr h
variable {P : α → Prop}
theorem Ylw {l : List α} {p : α} (hl : ∀ x ∈ l, P x) (hp : P p) : ∀ x ∈ Zdj c l p, P x := fun x hx => by
 rcases Ztb hx with rfl | h
 ·exact hp
 ·exact hl x h
theorem OrdL.self (O : OrdL c P) {x : α} (hx : P x) : c x x = 0 := by
 have := O.swp x x hx hx
 omega
theorem OrdL.lt (O : OrdL c P) {x y z : α} (hx : P x) (hy : P y) (hz : P z) (h : c x y < 0) (h' : c y z < 0) : c x z < 0 := by
 obtain ⟨h1, h2, h3, h4, h5, h6, h7⟩ := O.tri x y z hx hy hz
 have := h6 (by omega) (by omega)
 omega
theorem Zle (O : OrdL c P) : ∀ {l : List α} {p : α}, (∀ x ∈ l, P x) → P p → Srt c l → Srt c (Zdj c l p)
 | [], p, _, _, _ => by simp [Zdj, Srt]
 | m :: r, p, hl, hp, hs => by
  have hm : P m := hl m (by simp)
  have hr : ∀ x ∈ r, P x := fun x hx => hl x (by simp [hx])
  unfold Srt at hs
  rw [List.pairwise_cons] at hs
  unfold Zdj
  by_cases h : c m p < 0
  ·rw [if_pos h]
   unfold Srt
   rw [List.pairwise_cons]
   refine ⟨fun x hx => ?_, Zle O hr hp hs.2⟩
   rcases Ztb hx with rfl | hx
   ·exact h
   ·exact hs.1 x hx
  ·rw [if_neg h]
   by_cases h' : c m p = 0
   ·rw [if_pos h']
    unfold Srt
    rw [List.pairwise_cons]
    exact hs
   ·rw [if_neg h']
    have hpm : c p m < 0 := by
     have := O.swp m p hm hp
     omega
    unfold Srt
    rw [List.pairwise_cons, List.pairwise_cons]
    refine ⟨fun x hx => ?_, hs⟩
    rcases List.mem_cons.1 hx with rfl | hx
    ·exact hpm
    ·exact O.lt hp hm (hr x hx) hpm (hs.1 x hx)
theorem Zcf (m : α) (r : List α) (q : α) : Zbn c (m :: r) q = (decide (c m q = 0) || Zbn c r q) := rfl
theorem Zwz (O : OrdL c P) : ∀ {l : List α} {p q : α}, (∀ x ∈ l, P x) → P p → P q → Zbn c (Zdj c l p) q = (Zbn c l q || decide (c p q = 0))
 | [], p, q, _, _, _ => by simp [Zdj, Zbn]
 | m :: r, p, q, hl, hp, hq => by
  have hm : P m := hl m (by simp)
  have hr : ∀ x ∈ r, P x := fun x hx => hl x (by simp [hx])
  unfold Zdj
  by_cases h : c m p < 0
  ·rw [if_pos h, Zcf, Zcf, Zwz O hr hp hq, Bool.or_assoc]
  ·rw [if_neg h]
   by_cases h' : c m p = 0
   ·rw [if_pos h', Zcf]
    have e : c m q = c p q := (O.tri m p q hm hp hq).zp h'
    rw [e]
    cases decide (c p q = 0) <;> cases Zbn c r q <;> rfl
   ·rw [if_neg h', Zcf, Bool.or_comm]
theorem Yg7 (O : OrdL c P) {m : α} {r : List α} {p : α} (hm : P m) (hr : ∀ x ∈ r, P x) (hp : P p) (hs : Srt c (m :: r)) (h : ¬ c m p < 0) : ∀ x ∈ r, 0 < c x p := by
 intro x hx
 unfold Srt at hs
 rw [List.pairwise_cons] at hs
 have h1 := hs.1 x hx
 have hP := hr x hx
 obtain ⟨a1, a2, a3, a4, a5, a6, a7⟩ := O.tri x m p hP hm hp
 have := O.swp m x hm hP
 by_cases h0 : c m p = 0
 ·have := a5 h0; omega
 ·have := a7 (by omega) (by omega); omega
theorem Zos (O : OrdL c P) : ∀ {l : List α} {p : α}, (∀ x ∈ l, P x) → P p → Srt c l → ∀ (i : Nat) (x : α), Zbe c l p ≤ i → l[i]? = some x → ¬ c x p < 0
 | [], _, _, _, _, _, _, _, hx => by simp at hx
 | m :: r, p, hl, hp, hs, i, x, hi, hx => by
  have hm : P m := hl m (by simp)
  have hr : ∀ x ∈ r, P x := fun x hx => hl x (by simp [hx])
  unfold Zbe at hi
  by_cases h : c m p < 0
  ·rw [if_pos h] at hi
   cases i with
   | zero => omega
   | succ i => exact Zos O hr hp (by unfold Srt at hs ⊢; exact (List.pairwise_cons.1 hs).2) i x (by omega) (by simpa using hx)
  ·cases i with
   | zero => simp at hx; subst hx; exact h
   | succ i =>
    have := Yg7 O hm hr hp hs h x (List.mem_of_getElem? (by simpa using hx))
    omega
theorem Zki (O : OrdL c P) : ∀ (l acc : List α), (∀ x ∈ l, P x) → (∀ x ∈ acc, P x) → Srt c acc → (∀ x ∈ l.foldl (Zdj c) acc, P x) ∧ Srt c (l.foldl (Zdj c) acc) ∧ ∀ q, P q → Zbn c (l.foldl (Zdj c) acc) q = (Zbn c acc q || Zbn c l q)
 | [], acc, _, h, hs => ⟨h, hs, fun q _ => by simp [Zbn]⟩
 | p :: r, acc, hl, h, hs => by
  have hp : P p := hl p (by simp)
  have hr : ∀ x ∈ r, P x := fun x hx => hl x (by simp [hx])
  obtain ⟨h1, h2, h3⟩ := Zki O r (Zdj c acc p) hr (Ylw h hp) (Zle O h hp hs)
  rw [List.foldl_cons]
  refine ⟨h1, h2, fun q hq => ?_⟩
  rw [h3 q hq, Zwz O h hp hq, Zcf, Bool.or_assoc]
theorem Yr1 (O : OrdL c P) {l : List α} (hl : ∀ x ∈ l, P x) : ∀ x ∈ Zvt c l, P x := (Zki O l [] hl (by simp) (by simp [Srt])).1
theorem Yg1 (O : OrdL c P) {l : List α} (hl : ∀ x ∈ l, P x) : Srt c (Zvt c l) := (Zki O l [] hl (by simp) (by simp [Srt])).2.1
theorem Yed (O : OrdL c P) {l : List α} (hl : ∀ x ∈ l, P x) {q : α} (hq : P q) : Zbn c (Zvt c l) q = Zbn c l q := by
 unfold Zvt
 rw [(Zki O l [] hl (by simp) (by simp [Srt])).2.2 q hq]; rfl
end
theorem ordPE : OrdL Zaf OPE := ⟨fun _ _ _ => Ysk, fun _ _ h h' => Yo7 h.j h'.j⟩
end Go.Proofs.YtgmahieoiifpfaaGreat
end
namespace Go.Proofs.YtgmahieoiifpfaaGreat
open Go.RowKit
theorem Tryz.infoPE : ∃ i, Tryz.prog.info? 99 = some i ∧ i.zero = some (.agg #[.pointer none, .pointer none, .pointer none, .pointer none]) ∧ i.size = 4 ∧ i.bytes = 32 := by
 have h : (Tryz.prog.info? 99).map (fun i => (i.zero, i.size, i.bytes)) = some (some (.agg #[.pointer none, .pointer none, .pointer none, .pointer none]), 4, 32) := by kernel_rfl
 cases hq : Tryz.prog.info? 99 with
 | none => rw [hq] at h; cases h
 | some i =>
  rw [hq] at h
  simp only [Option.map_some, Option.some.injEq, Prod.mk.injEq] at h
  exact ⟨i, rfl, h.1, h.2.1, h.2.2⟩
/-- At the end. -/
theorem Yem (w : World) (base : Nat) (v : Value) (g2 c2 len : Nat) (xs news : List Value) (hv : w.ownsRow base 99 4 v len xs) (hu : w.ownsRow base 99 4 (.slice (some ⟨g2, 0, none⟩) 1 c2) 1 news)
  (hb : (len + 1) * 32 ≤ 140737488351232) (hl : len + 1 ≤ 140737488351232) (hw : base ≤ w.heap.size) (h1 : ∀ c ∈ news, c.oneCell' = true) :
  Calls Tryz.prog 218 #[v, .int .i64 (len : Int), .slice (some ⟨g2, 0, none⟩) 1 c2] w fun e' w' => ∃ v', e' = .returned v' ∧ w'.ownsRow base 99 4 v' (len + 1) (xs ++ news) ∧ w.grownBy w' v.ownBlock ∧ (∀ b, Zdo v' = some b → w.heap.size ≤ b ∨ v.ownBlock = some b) := by
 obtain ⟨inf, hi, hz, hs, hy⟩ := Tryz.infoPE
 have hnews : news.length = 1 * 4 := hu.1
 have hlies : Lies w g2 0 news := fun j u hj => by
  have := hu.cells (g := g2) rfl j u hj
  rwa [Zb2] at this
 obtain ⟨v', w', hr, r1, r2, r3⟩ := Zfn (P := Tryz.prog) base 114 114 99 inf _ 4 32 Tryz.underlying114 hi hz hs hy rfl (by omega) hv (ad := some ⟨g2, 0, none⟩) (m := 1) (c := c2) hnews (.inr ⟨g2, 0, rfl, hlies⟩) h1 (by unfold maxLen; omega) (by omega) hw
 obtain ⟨a, c, rfl⟩ : ∃ a c, v = .slice a len c := by
  rcases hv.2 with ⟨rfl, rfl⟩ | ⟨g, cap, cur, rfl, _⟩
  ·exact ⟨_, _, rfl⟩
  ·exact ⟨_, _, rfl⟩
 have hc : len ≤ c := by
  rcases hv.2 with ⟨e, e2⟩ | ⟨g, cap, cur, e, _, _, h, _⟩
  ·omega
  ·injection e with _ _ e; omega
 rw [← Zma Tryz.underlying114 Tryz.underlying113] at hr
 have HR := Lib.hid (And.intro r1 (And.intro r2 r3))
 clear r1 r2 r3 hv hu hlies
 generalize (Value.slice a len c).ownBlock = ob at *
 go_enter Tryz.func218, Tryz.ntmps218
 go_wp2_with (at_builtin; refine Lib.wpList_append_run _ rfl _ _ _ _ rfl _ _ rfl rfl _ _ hr ?_)
 all_goals
  go_ret
  obtain ⟨r1, r2, r3⟩ := HR.out
  exact ⟨_, rfl, r1, r2, r3⟩
theorem Zcu {w : World} {g b : Nat} {cs : Array Value} (h : b ≠ g) : (w.setRow g cs).heap[b]? = w.heap[b]? := by
 unfold World.setRow
 simp only
 rw [Array.getElem?_modify, if_neg (fun e => h e.symm)]
theorem Zd0 {w : World} {g : Nat} {cs : Array Value} : (w.setRow g cs).heap.size = w.heap.size := by
 unfold World.setRow
 simp
theorem Zg8 {w : World} {g : Nat} {cur : Array Value} {t : TypeId} {fz : Nat × Nat} (h : w.heap[g]? = some (.cells cur t fz)) {j : Nat} {u : Value} (hu : cur.toList[j]? = some u) : w.cell? ⟨g, j, none⟩ = some u := by
 rw [Array.getElem?_toList] at hu
 simp [World.cell?, h, hu]
theorem ls1 {α : Type} (xs rest : List α) {p q r : Nat} (hp : p + 4 ≤ xs.length) (hq : p + 4 + r = xs.length + 4) (hq2 : q = p + 4 := by omega) : (xs ++ rest).take q ++ xs.drop p ++ (xs ++ rest).drop (q + r) = xs.take (p + 4) ++ xs.drop p ++ rest.drop 4 := by
 subst hq2
 have e : (xs ++ rest).drop (xs.length + 4) = rest.drop 4 := by
  rw [List.drop_append, List.drop_eq_nil_of_le (Nat.le_add_right _ _), List.nil_append, Nat.add_sub_cancel_left]
 rw [List.take_append_of_le_length hp, hq, e]
theorem ls2 {α : Type} (xs rest news : List α) {p : Nat} (hp : p + 4 ≤ xs.length) : (xs.take (p + 4) ++ xs.drop p ++ rest.drop 4).take p ++ news ++ (xs.take (p + 4) ++ xs.drop p ++ rest.drop 4).drop (p + 4) = xs.take p ++ news ++ xs.drop p ++ rest.drop 4 := by
 rw [List.append_assoc (xs.take (p + 4)), List.drop_left' (by simp; omega), List.take_append_of_le_length (by simp; omega), List.take_take, Nat.min_eq_left (by omega)]
 simp
/-- Ahead of others, where there is room. -/
theorem Ybj (w : World) (base g cap g2 c2 len i : Nat) (cur : Array Value) (xs rest news : List Value) (hbg : base ≤ g) (hg : w.heap[g]? = some (.cells cur 99 (0, 0))) (hcm : cap ≤ maxLen) (hcs : cur.size = cap * 4) (hcur : cur.toList = xs ++ rest) (hxs : xs.length = len * 4)
  (hu : w.ownsRow base 99 4 (.slice (some ⟨g2, 0, none⟩) 1 c2) 1 news) (hne : g2 ≠ g) (hi : i < len) (hroom : len + 1 ≤ cap)
  (hl : len + 1 ≤ 140737488351232) (h1x : ∀ c ∈ xs, c.oneCell' = true) (h1 : ∀ c ∈ news, c.oneCell' = true) :
  Calls Tryz.prog 218 #[.slice (some ⟨g, 0, none⟩) len cap, .int .i64 (i : Int), .slice (some ⟨g2, 0, none⟩) 1 c2] w fun e' w' => ∃ v', e' = .returned v' ∧ w'.ownsRow base 99 4 v' (len + 1) (xs.take (i * 4) ++ news ++ xs.drop (i * 4)) ∧ w.grownBy w' (some g) ∧ (∀ b, Zdo v' = some b → w.heap.size ≤ b ∨ (some g) = some b) := by
 obtain ⟨inf, hinf, hz, hs, hy⟩ := Tryz.infoPE
 have hsz : (Tryz.prog.info? 99).map (·.size) = some 4 := by rw [hinf]; simp [hs]
 have hrl : rest.length = (cap - len) * 4 := by
  have := congrArg List.length hcur
  simp only [Array.length_toList, List.length_append] at this
  omega
 have hnews : news.length = 4 := by have := hu.1; omega
 obtain ⟨cur2, hg2, hc2⟩ : ∃ cur2, w.heap[g2]? = some (.cells cur2 99 (0, 0)) ∧ cur2.toList.take 4 = news ∧ cur2.size ≠ 0 := by
  rcases hu.2 with ⟨e, _⟩ | ⟨g', cap', cur', e, _, h1, h2, h3, h4, h5⟩
  ·cases e
  ·injection e with e1 _ _
   injection e1 with e1
   injection e1 with e1
   subst e1
   exact ⟨cur', h1, h5, by omega⟩
 have hlies : ∀ j u, news[j]? = some u → w.cell? ⟨g2, j, none⟩ = some u := fun j u hj => by
  refine Zg8 hg2 ?_
  rw [← hc2.1] at hj
  rw [List.getElem?_take] at hj
  split at hj
  ·exact hj
  ·cases hj
 have hov : ∀ o lb cb, (callFunc 239 #[.slice (some ⟨g2, 0, none⟩) 1 c2, .slice (some ⟨g, o, none⟩) lb cb]).run Tryz.prog w = .ok (.value (.bool false)) w := fun o lb cb => by
  rw [run_callFunc_extern (fn := Tryz.f239) Tryz.func239 (by kernel_rfl) (by kernel_rfl) (by kernel_rfl) (e := Extern.SlicesOverlaps.overlaps #[113, 113] #[4]) (by kernel_rfl),
   Lib.run_overlaps_apart w 113 4 99 Tryz.underlying113 4 (fun w => by simp [sizeOf, typeInfo, hinf, hs]) ⟨g2, 0, none⟩ ⟨g, o, none⟩ 1 c2 lb cb hne 99 99 cur2.size cur.size (by simp [World.shape?, hg2]) (by simp [World.shape?, hg]) (by omega) (by simp [World.frozen?, hg2]) (by simp [World.frozen?, hg2])]
  rfl
 obtain ⟨curA, hA⟩ : ∃ c : Array Value, c = (xs.take (i * 4 + 4) ++ xs.drop (i * 4) ++ rest.drop 4).toArray := ⟨_, rfl⟩
 obtain ⟨curB, hB⟩ : ∃ c : Array Value, c = (xs.take (i * 4) ++ news ++ xs.drop (i * 4) ++ rest.drop 4).toArray := ⟨_, rfl⟩
 have hdl : (xs.drop (i * 4)).length = (len - i) * 4 := by rw [List.length_drop, hxs]; omega
 have hmin1 : Nat.min (len + 1 - i) (len - i) = len - i := by simp only [Nat.min_def]; split <;> omega
 have hmin2 : Nat.min 1 (len + 1 - i) = 1 := by simp only [Nat.min_def]; split <;> omega
 have hcp1 : ∀ ty dc sc, (Builtin.copy_ #[114, 114] ty #[.slice (some ⟨g, (i + 1) * 4, none⟩) (len - i) dc, .slice (some ⟨g, i * 4, none⟩) (len + 1 - i) sc]).run Tryz.prog w.drew = .ok (goInt ((len - i : Nat) : Int)) (w.drew.setRow g curA) := fun ty dc sc => by
  have := Zcj (P := Tryz.prog) (w := w.drew) 114 114 ty 99 4 g ((i + 1) * 4) (len - i) dc ⟨g, i * 4, none⟩ (len + 1 - i) sc cur 99 (xs.drop (i * 4)) Tryz.underlying114 hsz hg (by rw [hmin1, hdl])
   (fun j u hj => by
    rw [Zb2]
    refine Zg8 (w := w.drew) hg ?_
    rw [List.getElem?_drop] at hj
    rw [hcur, List.getElem?_append_left (List.getElem?_eq_some_iff.1 hj).1]
    exact hj) (by rw [hdl, hcs]; omega) (fun u hu => h1x u (List.mem_of_mem_drop hu))
  rw [hmin1] at this
  rw [this, hA, hcur, hdl]
  congr 3
  exact ls1 xs rest (p := i * 4) (r := (len - i) * 4) (by omega) (by omega) (by omega)
 have hgA : (w.drew.setRow g curA).heap[g]? = some (.cells curA 99 (0, 0)) := setRow_heap w.drew g cur curA 99 _ hg
 have hcp2 : ∀ (W : World), W.heap = (w.drew.setRow g curA).heap → ∀ ty dc, (Builtin.copy_ #[114, 113] ty #[.slice (some ⟨g, i * 4, none⟩) (len + 1 - i) dc, .slice (some ⟨g2, 0, none⟩) 1 c2]).run Tryz.prog W = .ok (goInt ((1 : Nat) : Int)) (W.setRow g curB) := fun W hW ty dc => by
  have := Zcj (P := Tryz.prog) (w := W) 114 113 ty 99 4 g (i * 4) (len + 1 - i) dc ⟨g2, 0, none⟩ 1 c2 curA 99 news Tryz.underlying114 hsz (by rw [hW]; exact hgA) (by rw [hmin2, hnews])
   (fun j u hj => by
    rw [Zb2, Nat.zero_add]
    rw [World.cell?_of_block (w := w) (a := ⟨g2, j, none⟩) (by rw [hW]; exact Zcu hne)]
    exact hlies j u hj) (by rw [hA, hnews]; simp [hxs, hdl, hrl]; omega) h1
  rw [hmin2] at this
  rw [this, hA, hB, hnews]
  congr 3
  exact ls2 xs rest news (by omega)
 have FIN : ((w.drew.setRow g curA).setRow g curB).ownsRow base 99 4 (.slice (some ⟨g, 0, none⟩) (len + 1) cap) (len + 1) (xs.take (i * 4) ++ news ++ xs.drop (i * 4)) ∧ w.grownBy ((w.drew.setRow g curA).setRow g curB) (some g) ∧ (∀ b, Zdo (.slice (some ⟨g, 0, none⟩) (len + 1) cap) = some b → w.heap.size ≤ b ∨ (some g) = some b) := by
  have hlen : (xs.take (i * 4) ++ news ++ xs.drop (i * 4)).length = (len + 1) * 4 := by simp only [List.length_append, List.length_take, List.length_drop, hxs, hnews]; omega
  refine ⟨⟨hlen, .inr ⟨g, cap, curB, rfl, hbg, setRow_heap (w.drew.setRow g curA) g curA curB _ _ hgA, hroom, hcm, ?_, ?_⟩⟩, ⟨rfl, rfl, rfl, by rw [Zd0, Zd0]; exact Nat.le_refl _, fun k _ hk => ?_⟩, fun b hb => .inr (by simpa [Zdo] using hb)⟩
  ·rw [hB, List.size_toArray, List.length_append, hlen, List.length_drop, hrl]; omega
  ·rw [hB]; exact List.take_left' hlen
  ·rw [Zcu (fun e => hk (by rw [e])), Zcu (fun e => hk (by rw [e]))]; rfl
 clear hA hB
 have mixed : Tryz.prog.follows Departure.mixedOrders = true := by kernel_rfl
 have hb2 : ¬ (cap = i + 1) := by omega
 have hb4 : ¬ (cap = i) := by omega
 have hin : i ≤ len := by omega
 have hb3 : (i : Int) ≤ (len : Int) + 1 := by omega
 have hw1 : IntKind.i64.wrap ((i : Int) + 1) = (i : Int) + 1 := by rw [IntKind.wrap_i64]; omega
 have htn : ((i : Int) + 1).toNat = i + 1 := by omega
 have hb1 : (0 : Int) ≤ (i : Int) + 1 := by omega
 go_enter Tryz.func218, Tryz.ntmps218
 go_wp2_with (simp only [hov])
 go_region_law_o (refine step_copy_runI rfl _ _ 114 114 rfl _ _ (by simp [Act.eval, Act.put]) (by simp [Act.eval, Act.put]) (hcp1 _ _ _) ?_)
 go_wp2_with (at_builtin; refine wpList_copy_runI _ rfl _ _ 114 113 rfl _ _ rfl rfl (hcp2 _ rfl _ _) ?_)
 go_ret
 exact ⟨_, rfl, FIN⟩
theorem ls3 {α : Type} (A Z news : List α) {p : Nat} (hA : A.length = p) : (A ++ Z).take p ++ news ++ (A ++ Z).drop (p + 4) = A ++ news ++ Z.drop 4 := by
 rw [List.take_left' hA, List.drop_append, List.drop_eq_nil_of_le (by omega : A.length ≤ p + 4), hA, List.nil_append, Nat.add_sub_cancel_left]
theorem ls4 {α : Type} (A Y D news : List α) {p r q : Nat} (hA : A.length = p) (hn : news.length = 4) (hq : q = p + 4) : (A ++ news ++ Y).take q ++ D ++ (A ++ news ++ Y).drop (q + r) = A ++ news ++ D ++ Y.drop r := by
 have h : (A ++ news).length = q := by rw [List.length_append, hA, hn, hq]
 have e : (A ++ news ++ Y).drop (q + r) = Y.drop r := by
  rw [List.drop_append, List.drop_eq_nil_of_le (by omega), h, List.nil_append, Nat.add_sub_cancel_left]
 rw [List.take_left' h, e]
/-- Ahead of others, where there is no room. -/
theorem Ybi (w : World) (base g cap g2 c2 len i : Nat) (cur : Array Value) (xs news : List Value) (hbw : base ≤ w.heap.size) (hg : w.heap[g]? = some (.cells cur 99 (0, 0))) (hcur : cur.toList.take (len * 4) = xs) (hxs : xs.length = len * 4)
  (hu : w.ownsRow base 99 4 (.slice (some ⟨g2, 0, none⟩) 1 c2) 1 news) (hi : i < len) (hle : len ≤ cap) (hroom : cap < len + 1)
  (hb : (len + 1) * 32 ≤ 140737488351232) (hl : len + 1 ≤ 140737488351232) (h1x : ∀ c ∈ xs, c.oneCell' = true) (h1 : ∀ c ∈ news, c.oneCell' = true) :
  Calls Tryz.prog 218 #[.slice (some ⟨g, 0, none⟩) len cap, .int .i64 (i : Int), .slice (some ⟨g2, 0, none⟩) 1 c2] w fun e' w' => ∃ v', e' = .returned v' ∧ w'.ownsRow base 99 4 v' (len + 1) (xs.take (i * 4) ++ news ++ xs.drop (i * 4)) ∧ w.grownBy w' (some g) ∧ (∀ b, Zdo v' = some b → w.heap.size ≤ b ∨ (some g) = some b) := by
 obtain ⟨inf, hinf, hz, hs, hy⟩ := Tryz.infoPE
 have hsz : (Tryz.prog.info? 99).map (·.size) = some 4 := by rw [hinf]; simp [hs]
 have hnews : news.length = 4 := by have := hu.1; omega
 obtain ⟨cur2, hg2, hc2⟩ : ∃ cur2, w.heap[g2]? = some (.cells cur2 99 (0, 0)) ∧ cur2.toList.take 4 = news := by
  rcases hu.2 with ⟨e, _⟩ | ⟨g', cap', cur', e, _, h1, h2, h3, h4, h5⟩
  ·cases e
  ·injection e with e1 _ _
   injection e1 with e1
   injection e1 with e1
   subst e1
   exact ⟨cur', h1, h5⟩
 have hlies : ∀ j u, news[j]? = some u → w.cell? ⟨g2, j, none⟩ = some u := fun j u hj => by
  refine Zg8 hg2 ?_
  rw [← hc2, List.getElem?_take] at hj
  split at hj
  ·exact hj
  ·cases hj
 have hliex : ∀ j u, xs[j]? = some u → w.cell? ⟨g, j, none⟩ = some u := fun j u hj => by
  refine Zg8 hg ?_
  rw [← hcur, List.getElem?_take] at hj
  split at hj
  ·exact hj
  ·cases hj
 have hgw : g < w.heap.size := (Array.getElem?_eq_some_iff.1 hg).1
 have hg2w : g2 < w.heap.size := (Array.getElem?_eq_some_iff.1 hg2).1
 obtain ⟨G, hG⟩ : ∃ G, G = grownCap w (len + 1) cap 99 := ⟨_, rfl⟩
 have hGn : len + 1 ≤ G := by rw [hG]; exact grownCap_ge w _ _ _
 have hGm : G ≤ maxLen := by rw [hG]; exact grownCap_le_maxLen w _ _ _ (by unfold maxLen; omega)
 obtain ⟨ROW, hROW⟩ : ∃ ROW : Array Value, ROW = (xs.take (i * 4)).toArray ++ Builtin.zeroCells (Value.agg #[.pointer none, .pointer none, .pointer none, .pointer none]).cells (len + 1 - i) ++ Builtin.zeroCells (Value.agg #[.pointer none, .pointer none, .pointer none, .pointer none]).cells (G - (len + 1)) := ⟨_, rfl⟩
 obtain ⟨Z, hZ, hZl⟩ : ∃ Z : List Value, ROW.toList = xs.take (i * 4) ++ Z ∧ Z.length = (G - i) * 4 := by
  refine ⟨(Builtin.zeroCells (Value.agg #[.pointer none, .pointer none, .pointer none, .pointer none]).cells (len + 1 - i)).toList ++ (Builtin.zeroCells (Value.agg #[.pointer none, .pointer none, .pointer none, .pointer none]).cells (G - (len + 1))).toList, by rw [hROW]; simp, ?_⟩
  rw [List.length_append, Array.length_toList, Array.length_toList, size_zeroCells, size_zeroCells]
  simp only [Value.cells, List.size_toArray, List.length_cons, List.length_nil]
  omega
 have htl : (xs.take (i * 4)).length = i * 4 := by rw [List.length_take, hxs]; omega
 have hdl : (xs.drop (i * 4)).length = (len - i) * 4 := by rw [List.length_drop, hxs]; omega
 have hRs : ROW.size = G * 4 := by rw [← Array.length_toList, hZ, List.length_append, htl, hZl]; omega
 have hold : (Builtin.firstCells inf.size i (.slice (some ⟨g, 0, none⟩) i cap)).run Tryz.prog w.drew = .ok (xs.take (i * 4)).toArray w.drew := by
  rw [hs]
  exact run_firstCells_some w.drew 4 i ⟨g, 0, none⟩ i cap (xs.take (i * 4)) htl (fun j v hj => by
   rw [Zb2, Nat.zero_add]
   rw [List.getElem?_take] at hj
   split at hj
   ·exact hliex j v hj
   ·cases hj)
 have hrz : ∀ ty, (Builtin.append_ #[114, 3] ty #[.slice (some ⟨g, 0, none⟩) i cap, .int .i64 ((len : Int) + 1 - (i : Int))]).run Tryz.prog w = .ok (.slice (some ⟨w.heap.size, 0, none⟩) (len + 1) G) (w.drew.alloc (.cells ROW 99)) := fun ty => by
  have h := Lib.run_append_grow_zeros (P := Tryz.prog) w 114 3 ty 99 inf _ .i64 .i64 Tryz.underlying114 Tryz.underlying3 hinf hz (some ⟨g, 0, none⟩) i cap (xs.take (i * 4)) hold (len + 1 - i) (by omega) (by omega) (by omega) (by omega) (by rw [hy]; omega) (by rw [hy, show i + (len + 1 - i) = len + 1 by omega]; exact growslice_fits hroom (by omega))
  rw [show i + (len + 1 - i) = len + 1 by omega, ← hG] at h
  rw [show ((len : Int) + 1 - (i : Int)) = ((len + 1 - i : Nat) : Int) by omega, h, hROW]
 obtain ⟨curB, hB⟩ : ∃ c : Array Value, c = (xs.take (i * 4) ++ news ++ Z.drop 4).toArray := ⟨_, rfl⟩
 obtain ⟨curC, hC⟩ : ∃ c : Array Value, c = (xs.take (i * 4) ++ news ++ xs.drop (i * 4) ++ (Z.drop 4).drop ((len - i) * 4)).toArray := ⟨_, rfl⟩
 have hN1 : (w.alloc (.cells ROW 99)).heap[w.heap.size]? = some (.cells ROW 99 (0, 0)) := heap_alloc_new w _
 have hNB : ((w.alloc (.cells ROW 99)).setRow w.heap.size curB).heap[w.heap.size]? = some (.cells curB 99 (0, 0)) := setRow_heap _ _ ROW curB 99 _ hN1
 have hNC : (((w.alloc (.cells ROW 99)).setRow w.heap.size curB).setRow w.heap.size curC).heap[w.heap.size]? = some (.cells curC 99 (0, 0)) := setRow_heap _ _ curB curC 99 _ hNB
 have hold1 : ∀ b, b < w.heap.size → (w.alloc (.cells ROW 99)).heap[b]? = w.heap[b]? := fun b h => Below.heap_alloc _ _ _ h
 have hmin1 : Nat.min (len - i) (len + 1 - (i + 1)) = len - i := by simp only [Nat.min_def]; split <;> omega
 have hmin2 : Nat.min 1 (len + 1 - i) = 1 := by simp only [Nat.min_def]; split <;> omega
 have hcpA : ∀ (W : World), W.heap = (w.alloc (.cells ROW 99)).heap → ∀ ty dc, (Builtin.copy_ #[114, 113] ty #[.slice (some ⟨w.heap.size, i * 4, none⟩) (len + 1 - i) dc, .slice (some ⟨g2, 0, none⟩) 1 c2]).run Tryz.prog W = .ok (goInt ((1 : Nat) : Int)) (W.setRow w.heap.size curB) := fun W hW ty dc => by
  have := Zcj (P := Tryz.prog) (w := W) 114 113 ty 99 4 w.heap.size (i * 4) (len + 1 - i) dc ⟨g2, 0, none⟩ 1 c2 ROW 99 news Tryz.underlying114 hsz (by rw [hW]; exact hN1) (by rw [hmin2, hnews])
   (fun j u hj => by
    rw [Zb2, Nat.zero_add]
    rw [World.cell?_of_block (w := w) (a := ⟨g2, j, none⟩) (by rw [hW]; exact hold1 _ hg2w)]
    exact hlies j u hj) (by rw [hRs, hnews]; omega) h1
  rw [hmin2] at this
  rw [this, hB, hnews, hZ]
  congr 3
  exact ls3 _ _ _ htl
 have hcpB : ∀ (W : World), W.heap = ((w.alloc (.cells ROW 99)).setRow w.heap.size curB).heap → ∀ ty dc sc, (Builtin.copy_ #[114, 114] ty #[.slice (some ⟨w.heap.size, (i + 1) * 4, none⟩) (len - i) dc, .slice (some ⟨g, i * 4, none⟩) (len - i) sc]).run Tryz.prog W = .ok (goInt ((len - i : Nat) : Int)) (W.setRow w.heap.size curC) := fun W hW ty dc sc => by
  have hm : Nat.min (len - i) (len - i) = len - i := by simp only [Nat.min_def]; split <;> omega
  have := Zcj (P := Tryz.prog) (w := W) 114 114 ty 99 4 w.heap.size ((i + 1) * 4) (len - i) dc ⟨g, i * 4, none⟩ (len - i) sc curB 99 (xs.drop (i * 4)) Tryz.underlying114 hsz (by rw [hW]; exact hNB) (by rw [hm, hdl])
   (fun j u hj => by
    rw [Zb2]
    rw [World.cell?_of_block (w := w) (a := ⟨g, i * 4 + j, none⟩) (by rw [hW]; exact (Zcu (show g ≠ w.heap.size from Nat.ne_of_lt hgw)).trans (hold1 _ hgw))]
    rw [List.getElem?_drop] at hj
    exact hliex _ u hj) (by rw [hB, List.size_toArray, hdl]; simp only [List.length_append, htl, hnews, List.length_drop, hZl]; omega) (fun u hu => h1x u (List.mem_of_mem_drop hu))
  rw [hm] at this
  rw [this, hC, hB, hdl]
  congr 3
  exact ls4 _ _ _ _ htl hnews (by omega)
 have FIN : ∀ W : World, W.os = w.os → W.tape = w.tape → W.output = w.output → W.heap = (((w.alloc (.cells ROW 99)).setRow w.heap.size curB).setRow w.heap.size curC).heap → W.ownsRow base 99 4 (.slice (some ⟨w.heap.size, 0, none⟩) (len + 1) G) (len + 1) (xs.take (i * 4) ++ news ++ xs.drop (i * 4)) ∧ w.grownBy W (some g) ∧ (∀ b, Zdo (.slice (some ⟨w.heap.size, 0, none⟩) (len + 1) G) = some b → w.heap.size ≤ b ∨ (some g) = some b) := by
  intro W e1 e2 e3 e4
  have hlen : (xs.take (i * 4) ++ news ++ xs.drop (i * 4)).length = (len + 1) * 4 := by simp only [List.length_append, htl, hdl, hnews]; omega
  refine ⟨⟨hlen, .inr ⟨w.heap.size, G, curC, rfl, hbw, by rw [e4]; exact hNC, hGn, hGm, ?_, ?_⟩⟩, ⟨e1, e2, e3, by rw [e4, Zd0, Zd0]; simp, fun k hk _ => ?_⟩, fun b hb => .inl (Nat.le_of_eq (by simpa [Zdo] using hb))⟩
  ·rw [hC, List.size_toArray, List.length_append, hlen, List.length_drop, List.length_drop, hZl]; omega
  ·rw [hC]; exact List.take_left' hlen
  ·rw [e4, Zcu (by omega), Zcu (by omega)]; exact hold1 _ hk
 clear hB hC hNB hNC hN1 hold1 hold hRs hZ hZl hROW hG hlies hliex hg hg2 hu hcur
 have mixed : Tryz.prog.follows Departure.mixedOrders = true := by kernel_rfl
 have hb2 : ¬ (cap = i + 1) ∨ cap = i + 1 := by omega
 have hb4 : ¬ (cap = i) := by omega
 have hb5 : ¬ (G = i) := by omega
 have hb6 : ¬ (G = i + 1) := by omega
 have hin : i ≤ len := by omega
 have hz3 : (cap : Int) < (len : Int) + 1 := by omega
 have hb3 : (i : Int) ≤ (len : Int) + 1 := by omega
 have hb7 : (i : Int) ≤ (len : Int) := by omega
 have hw1 : IntKind.i64.wrap ((i : Int) + 1) = (i : Int) + 1 := by rw [IntKind.wrap_i64]; omega
 have htn : ((i : Int) + 1).toNat = i + 1 := by omega
 have hb1 : (0 : Int) ≤ (i : Int) + 1 := by omega
 have hcpA' := hcpA (w.alloc (.cells ROW 99)).drew rfl
 have hcpB' := hcpB ((w.alloc (.cells ROW 99)).drew.setRow w.heap.size curB).drew rfl
 clear hb2 hcpA hcpB
 go_enter Tryz.func218, Tryz.ntmps218
 go_wp2_with (at_builtin; refine Lib.wpList_append_run _ rfl _ _ _ _ rfl _ _ rfl rfl _ _ (hrz _) ?_)
 go_region
 go_wp2
 go_ret
 exact ⟨_, rfl, FIN _ rfl rfl rfl rfl⟩
instance : Ysr Tryz.prog 218 99 4 32 := ⟨by kernel_rfl, fun w base v u len i xs news hv hu hap hi hb hl hw h1x h1 => by
 obtain ⟨g2, c2, rfl⟩ : ∃ g2 c2, u = .slice (some ⟨g2, 0, none⟩) 1 c2 := by
  rcases hu.2 with ⟨_, e⟩ | ⟨g', cap', cur', e, _⟩
  ·omega
  ·exact ⟨_, _, e⟩
 by_cases he : i = len
 ·subst he
  rw [List.take_of_length_le (by rw [hv.1]; exact Nat.le_refl _), List.drop_eq_nil_of_le (by rw [hv.1]; exact Nat.le_refl _), List.append_nil]
  exact Yem w base v g2 c2 i xs news hv hu hb hl hw h1
 ·rcases hv.2 with ⟨_, e⟩ | ⟨g, cap, cur, rfl, hbg, hg, hnc, hcm, hcs, hcur⟩
  ·omega
  ·have hne : g2 ≠ g := fun e => hap g rfl (by rw [e]; rfl)
   by_cases hroom : len + 1 ≤ cap
   ·exact Ybj w base g cap g2 c2 len i cur xs (cur.toList.drop (len * 4)) news hbg hg hcm hcs (by rw [← hcur, List.take_append_drop]) hv.1 hu hne (by omega) hroom hl h1x h1
   ·exact Ybi w base g cap g2 c2 len i cur xs news hw hg hcur hv.1 hu (by omega) hnc (by omega) hb hl h1x h1⟩
theorem Flat.tup2 {u v : Value} : Flat (.tup [.val u, .val v]) := fun w w' F F' x h => by
 unfold Rep at h ⊢
 obtain ⟨vs, e, h⟩ := h
 refine ⟨vs, e, ?_⟩
 simp only [Reps] at h ⊢
 unfold Rep at h ⊢
 exact h
theorem Yd1 (p : PEV) : Zkh true 4 (Za4 p) = true := by cases p <;> rfl
theorem Ydz (x p : PEV) : PCall Tryz.prog 217 [Za4 x, Za4 p] (.val (.int .i64 (Zaf x p))) := by
 have c := Zh4 x p
 obtain ⟨d0, d1, d2, d3, e⟩ := Zc2 x
 obtain ⟨u0, u1, u2, u3, e'⟩ := Zc2 p
 rw [e, e'] at c ⊢
 refine Zaa Tryz.func217 rfl Tryz.ntmps217 rfl (fun X => ?_)
 exact wke
/-- slices.BinarySearchFunc over a set: how many elements stand before p, and whether the next one equals it. -/
theorem Zwi (l : List PEV) (p : PEV) (hl : ∀ x ∈ l, OPE x) (hp : OPE p) (hs : Srt Zaf l) :
  PCall Tryz.prog 216 [.sl 4 32 (l.map Za4), Za4 p, .val (.func (.func 217) #[] #[])] (.tup [.val (.int .i64 ((Zbe Zaf l p : Nat) : Int)), .val (.bool (Ze9 Zaf l p))]) := by
 refine Zay fun hfit => ?_
 have b1 := (hfit (.sl 4 32 (l.map Za4)) (by simp)).sl.2.1
 clear hfit
 have n1 : (l.map Za4).length = l.length := by simp
 have ga : ∀ {i : Nat} {x : PEV}, l[i]? = some x → (l.map Za4)[((i : Nat) : Int).toNat]? = some (Za4 x) := fun h => by simp [h]
 rw [n1] at b1
 generalize l.map Za4 = da at *
 have hF := fun x => Ydz x p
 obtain ⟨u0, u1, u2, u3, e'⟩ := Zc2 p
 rw [e'] at hF ⊢
 have hlo := fun (i : Nat) (x : PEV) (h : i < Zbe Zaf l p) (hx : l[i]? = some x) => Zot l p i x h hx
 have hhi := fun (i : Nat) (x : PEV) (h : Zbe Zaf l p ≤ i) (hx : l[i]? = some x) => Zos ordPE hl hp hs i x h hx
 have hle := Zit (c := Zaf) l p
 rw [Zn2]
 generalize Zbe Zaf l p = loc at *
 clear hs
 refine Zaa Tryz.func216 rfl Tryz.ntmps216 rfl (fun X => ?_)
 refine wk ?_
 refine Zaq (ι := { j : Nat × Nat // j.1 ≤ loc ∧ loc ≤ j.2 ∧ j.2 ≤ l.length })
  (fun j => [(0, .dat (.sl 4 32 da)), (2, .dat (.val (.func (.func 217) #[] #[]))), (4, .ptr 4 0), (8, .dat (.val (.int .i64 ((da.length : Nat) : Int)))), (9, .dat (.val (.int .i64 (j.1.1 : Nat)))), (10, .dat (.val (.int .i64 (j.1.2 : Nat))))])
  (fun _ => [(4, .box 99 (Zap (.agg [u0, u1, u2, u3])))]) (fun j => j.1.2 - j.1.1) ⟨(0, da.length), Nat.zero_le _, by rw [n1]; exact hle, by rw [n1]; exact Nat.le_refl _⟩ id ?_ ?_
 ·exact sb
 rintro ⟨⟨lo, hi⟩, h1, h2, h3⟩
 simp only at h1 h2 h3
 simp only
 by_cases hlt : lo < hi
 ·have g1 : decide ((lo : Int) < (hi : Int)) = true := decide_eq_true (by omega)
  obtain ⟨h, hh⟩ : ∃ h, h = (lo + hi) / 2 := ⟨_, rfl⟩
  have w1 : IntKind.u64.wrap ((lo : Int) + (hi : Int)) = (lo : Int) + (hi : Int) := by
   simp [IntKind.wrap, IntKind.signed, IntKind.bits]; omega
  have w2 : ((lo : Int) + (hi : Int)) / 2 = ((h : Nat) : Int) := by omega
  have w3 : IntKind.i64.wrap ((h : Nat) : Int) = ((h : Nat) : Int) := by rw [IntKind.wrap_i64]; omega
  have w4 : (Lit.int .u64 ((h : Nat) : Int)).wf = true := by
   simp [Lit.wf, IntKind.min, IntKind.max, IntKind.signed, IntKind.bits]; omega
  obtain ⟨x, hx⟩ : ∃ x, l[h]? = some x := ⟨_, List.getElem?_eq_getElem (by omega)⟩
  have i1 := ga hx
  have cF := hF x
  have f1 := Yd1 x
  by_cases hc : Zaf x p < 0
  ·have g2 : decide (Zaf x p < 0) = true := decide_eq_true hc
   have hb : h < loc := by
    refine Nat.lt_of_not_le fun hn => hhi h x hn hx hc
   refine wk ?_
   refine Zan ?_
   refine ⟨⟨(h + 1, hi), by simp only; omega, by simp only; omega, h3⟩, id, by simp only; omega, ?_⟩
   exact sb
  ·have g2 : decide (Zaf x p < 0) = false := decide_eq_false hc
   have hb : loc ≤ h := by
    refine Nat.le_of_not_lt fun hn => hc (hlo h x hn hx)
   refine wk ?_
   refine Zan ?_
   refine ⟨⟨(lo, h), h1, hb, by simp only; omega⟩, id, by simp only; omega, ?_⟩
   exact sb
 ·have g1 : decide ((lo : Int) < (hi : Int)) = false := decide_eq_false (by omega)
  obtain rfl : lo = loc := by omega
  by_cases hin : lo < l.length
  ·have g2 : decide ((lo : Int) < ((da.length : Nat) : Int)) = true := decide_eq_true (by omega)
   obtain ⟨x, hx⟩ : ∃ x, l[lo]? = some x := ⟨_, List.getElem?_eq_getElem hin⟩
   have i1 := ga hx
   have cF := hF x
   have f1 := Yd1 x
   rw [hx]
   exact wke
  ·have g2 : decide ((lo : Int) < ((da.length : Nat) : Int)) = false := decide_eq_false (by omega)
   rw [List.getElem?_eq_none (by omega)]
   exact wke
theorem Yg0 (l : List PEV) : PCall Tryz.prog 166 [.ptr (.agg [.sl 4 32 (l.map Za4)])] (.val (.int .i64 ((l.length : Nat) : Int))) := by
 have n1 : (l.map Za4).length = l.length := by simp
 rw [← n1]
 refine Zaa Tryz.func166 rfl Tryz.ntmps166 rfl (fun X => ?_)
 exact wke
end Go.Proofs.YtgmahieoiifpfaaGreat
section
namespace Go.Proofs.YtgmahieoiifpfaaGreat
section
variable {α β : Type} (c : α → α → Int)
def Zgz : List (α × β) → α → β → List (α × β)
 | [], p, j => [(p, j)]
 | m :: r, p, j => if c m.1 p < 0 then m :: Zgz r p j else if c m.1 p = 0 then (m.1, j) :: r else (p, j) :: m :: r
def Zea : List (α × β) → α → Option β
 | [], _ => none
 | m :: r, p => if c m.1 p < 0 then Zea r p else if c m.1 p = 0 then some m.2 else none
variable {c}
theorem Zoi : ∀ (m : List (α × β)) (p : α) (j : β), (Zgz c m p j).map (·.1) = Zdj c (m.map (·.1)) p
 | [], p, j => rfl
 | m :: r, p, j => by
  unfold Zgz
  rw [List.map_cons]
  unfold Zdj
  by_cases h : c m.1 p < 0
  ·rw [if_pos h, if_pos h, List.map_cons, Zoi r p j]
  ·rw [if_neg h, if_neg h]
   by_cases h' : c m.1 p = 0
   ·rw [if_pos h', if_pos h']; rfl
   ·rw [if_neg h', if_neg h']; rfl
theorem Zm9 : ∀ (m : List (α × β)) (p : α) (j : β), Ze9 c (m.map (·.1)) p = true → ∃ x, m[Zbe c (m.map (·.1)) p]? = some x ∧ Zgz c m p j = m.set (Zbe c (m.map (·.1)) p) (x.1, j) ∧ Zea c m p = some x.2
 | [], p, j, h => by cases h
 | m :: r, p, j, h => by
  rw [List.map_cons] at h ⊢
  unfold Ze9 at h
  unfold Zgz Zbe Zea
  by_cases h1 : c m.1 p < 0
  ·rw [if_pos h1] at h
   rw [if_pos h1, if_pos h1, if_pos h1]
   obtain ⟨x, g1, g2, g3⟩ := Zm9 r p j h
   exact ⟨x, by simpa using g1, by rw [g2]; rfl, g3⟩
  ·rw [if_neg h1] at h
   have h2 : c m.1 p = 0 := by simpa using h
   rw [if_neg h1, if_neg h1, if_neg h1, if_pos h2, if_pos h2]
   exact ⟨m, rfl, rfl, rfl⟩
theorem Zna : ∀ (m : List (α × β)) (p : α) (j : β), Ze9 c (m.map (·.1)) p = false → Zgz c m p j = m.take (Zbe c (m.map (·.1)) p) ++ (p, j) :: m.drop (Zbe c (m.map (·.1)) p) ∧ Zea c m p = none
 | [], p, j, h => ⟨rfl, rfl⟩
 | m :: r, p, j, h => by
  rw [List.map_cons] at h ⊢
  unfold Ze9 at h
  unfold Zgz Zbe Zea
  by_cases h1 : c m.1 p < 0
  ·rw [if_pos h1] at h
   rw [if_pos h1, if_pos h1, if_pos h1]
   obtain ⟨g1, g2⟩ := Zna r p j h
   exact ⟨by rw [g1]; rfl, g2⟩
  ·rw [if_neg h1] at h
   have h2 : ¬ c m.1 p = 0 := by simpa using h
   rw [if_neg h1, if_neg h1, if_neg h1, if_neg h2, if_neg h2]
   exact ⟨rfl, rfl⟩
theorem Zse : ∀ (m : List (α × β)) (p : α) (j : β), (Zgz c m p j).length ≤ m.length + 1
 | [], p, j => by simp [Zgz]
 | m :: r, p, j => by
  unfold Zgz
  have := Zse r p j
  split
  ·simp; omega
  ·split <;> simp
variable {P : α → Prop}
theorem Zzd (O : OrdL c P) : ∀ (m : List (α × β)) {p : α} (j : β), P p → Zea c (Zgz c m p j) p = some j
 | [], p, j, hp => by
  have h := O.self hp
  simp [Zgz, Zea, h]
 | m :: r, p, j, hp => by
  unfold Zgz
  by_cases h1 : c m.1 p < 0
  ·rw [if_pos h1]
   unfold Zea
   rw [if_pos h1]
   exact Zzd O r j hp
  ·rw [if_neg h1]
   by_cases h2 : c m.1 p = 0
   ·rw [if_pos h2]
    unfold Zea
    simp only
    rw [if_neg h1, if_pos h2]
   ·rw [if_neg h2]
    have h := O.self hp
    unfold Zea
    simp only
    rw [if_neg (by omega), if_pos h]
theorem Zuk (O : OrdL c P) : ∀ (m : List (α × β)) {p q : α} (j : β), (∀ x ∈ m, P x.1) → P p → P q → c p q ≠ 0 → Zea c (Zgz c m p j) q = Zea c m q
 | [], p, q, j, _, hp, hq, h => by
  unfold Zgz Zea
  simp only
  split
  ·rfl
  ·first | rfl | (rw [if_neg h]; rfl)
 | m :: r, p, q, j, hm, hp, hq, h => by
  have hm1 : P m.1 := hm m (by simp)
  have hr : ∀ x ∈ r, P x.1 := fun x hx => hm x (by simp [hx])
  unfold Zgz
  by_cases h1 : c m.1 p < 0
  ·rw [if_pos h1]
   unfold Zea
   rw [Zuk O r j hr hp hq h]
  ·rw [if_neg h1]
   by_cases h2 : c m.1 p = 0
   ·rw [if_pos h2]
    have e : c m.1 q = c p q := (O.tri m.1 p q hm1 hp hq).zp h2
    unfold Zea
    simp only
    rw [e]
    split
    ·rfl
    ·first | rfl | rw [if_neg h, if_neg h]
   ·rw [if_neg h2]
    have hpm : c p m.1 < 0 := by
     have := O.swp m.1 p hm1 hp
     omega
    by_cases h3 : c p q < 0
    ·show (if c p q < 0 then Zea c (m :: r) q else if c p q = 0 then some j else none) = _
     rw [if_pos h3]
    ·show (if c p q < 0 then Zea c (m :: r) q else if c p q = 0 then some j else none) = _
     rw [if_neg h3, if_neg h]
     have hqp : c q p < 0 := by
      have := O.swp p q hp hq
      have := (O.tri p q q hp hq hq).rp
      omega
     have hqm := O.lt hq hp hm1 hqp hpm
     have := O.swp q m.1 hq hm1
     unfold Zea
     rw [if_neg (by omega), if_neg (by omega)]
end
end Go.Proofs.YtgmahieoiifpfaaGreat
end
section
namespace Go.Proofs.YtgmahieoiifpfaaGreat
inductive ST (α : Type) where
 | mk (m : List α) (c : List (α × ST α))
section
variable {α : Type}
def ST.m : ST α → List α | .mk m _ => m
def ST.c : ST α → List (α × ST α) | .mk _ c => c
mutual
/-- The paths of a set, in the order of a Zc0. -/
def Zc0 : ST α → List (List α)
 | .mk m c => m.map (fun x => [x]) ++ Zba c
def Zba : List (α × ST α) → List (List α)
 | [] => []
 | y :: r => (Zc0 y.2).map (y.1 :: ·) ++ Zba r
end
def en : List α → Int
 | [] => 0
 | _ :: _ => 1
variable (c : α → α → Int) (P : α → Prop)
def cw : List α → List α → Int
 | [], [] => 0
 | [], _ :: _ => -1
 | _ :: _, [] => 1
 | x :: a, y :: b => lx (Zbw (en a) (en b)) (lx (c x y) (cw a b))
def Zdl : ST α → List α → Bool
 | _, [] => false
 | t, [p] => Zbn c t.m p
 | t, p :: q :: r => match Zea c t.c p with
  | some t' => Zdl t' (q :: r)
  | none => false
def Zgy : List α → ST α → ST α
 | [], t => t
 | [p], t => .mk (Zdj c t.m p) t.c
 | p :: q :: r, t => .mk t.m (Zgz c t.c p (Zgy (q :: r) ((Zea c t.c p).getD (.mk [] []))))
def ofP (ps : List (List α)) : ST α := ps.foldl (fun t p => Zgy c p t) (.mk [] [])
mutual
def WFT : ST α → Prop
 | .mk m ch => (∀ x ∈ m, P x) ∧ Srt c m ∧ Srt c (ch.map (·.1)) ∧ WFC ch
def WFC : List (α × ST α) → Prop
 | [] => True
 | y :: r => P y.1 ∧ WFT y.2 ∧ WFC r
end
mutual
/-- No node is without a path. -/
def NET : ST α → Prop
 | .mk m ch => NEC ch
def NEC : List (α × ST α) → Prop
 | [] => True
 | y :: r => Zc0 y.2 ≠ [] ∧ NET y.2 ∧ NEC r
end
def PP (p : List α) : Prop := p ≠ [] ∧ ∀ x ∈ p, P x
variable {c P}
theorem Zj2 (t : ST α) : Zc0 t = t.m.map (fun x => [x]) ++ Zba t.c := by cases t; unfold Zc0; rfl
theorem WFT_iff {t : ST α} : WFT c P t ↔ (∀ x ∈ t.m, P x) ∧ Srt c t.m ∧ Srt c (t.c.map (·.1)) ∧ WFC c P t.c := by cases t; rw [WFT]; rfl
theorem WFC_iff {l : List (α × ST α)} : WFC c P l ↔ ∀ y ∈ l, P y.1 ∧ WFT c P y.2 := by
 induction l with
 | nil => unfold WFC; simp
 | cons y r ih => unfold WFC; rw [ih]; simp [and_assoc]
theorem NET_iff {t : ST α} : NET t ↔ ∀ y ∈ t.c, Zc0 y.2 ≠ [] ∧ NET y.2 := by
 have h : ∀ l : List (α × ST α), NEC l ↔ ∀ y ∈ l, Zc0 y.2 ≠ [] ∧ NET y.2 := fun l => by
  induction l with
  | nil => unfold NEC; simp
  | cons y r ih => unfold NEC; rw [ih]; simp [and_assoc]
 cases t; rw [NET]; exact h _
theorem Zxm (O : OrdL c P) : ∀ (a b : List α), (∀ x ∈ a, P x) → (∀ x ∈ b, P x) → rng (cw c a b)
 | [], [], _, _ => .inr (.inl rfl)
 | [], _ :: _, _, _ => .inl rfl
 | _ :: _, [], _, _ => .inr (.inr rfl)
 | x :: a, y :: b, ha, hb => Zg7 (Zc4 _ _) (Zg7 (O.tri x y y (ha x (by simp)) (hb y (by simp)) (hb y (by simp))).rp (Zxm O a b (fun z hz => ha z (by simp [hz])) fun z hz => hb z (by simp [hz])))
theorem Ysl (O : OrdL c P) : ∀ (a b d : List α), en a = en b → en b = en d → (∀ x ∈ a, P x) → (∀ x ∈ b, P x) → (∀ x ∈ d, P x) → Tri (cw c a b) (cw c b d) (cw c a d)
 | [], [], [], _, _, _, _, _ => Zel 0 0 0
 | x :: a, y :: b, z :: d, _, _, ha, hb, hd => by
  have hx := ha x (by simp)
  have hy := hb y (by simp)
  have hz := hd z (by simp)
  have ha' : ∀ x ∈ a, P x := fun z hz => ha z (by simp [hz])
  have hb' : ∀ x ∈ b, P x := fun z hz => hb z (by simp [hz])
  have hd' : ∀ x ∈ d, P x := fun z hz => hd z (by simp [hz])
  have R : ∀ x y : α, P x → P y → rng (c x y) := fun x y hx hy => (O.tri x y y hx hy hy).rp
  refine Zjl (Zel _ _ _) (Zg7 (R _ _ hx hy) (Zxm O _ _ ha' hb')) (Zg7 (R _ _ hy hz) (Zxm O _ _ hb' hd')) (Zg7 (R _ _ hx hz) (Zxm O _ _ ha' hd')) fun h1 h2 => ?_
  exact Zjl (O.tri x y z hx hy hz) (Zxm O _ _ ha' hb') (Zxm O _ _ hb' hd') (Zxm O _ _ ha' hd') fun _ _ => Ysl O a b d (cmpI_zero.1 h1) (cmpI_zero.1 h2) ha' hb' hd'
theorem Yr4 (O : OrdL c P) : ∀ (a b : List α), (∀ x ∈ a, P x) → (∀ x ∈ b, P x) → cw c b a = - cw c a b
 | [], [], _, _ => rfl
 | [], _ :: _, _, _ => rfl
 | _ :: _, [], _, _ => rfl
 | x :: a, y :: b, ha, hb => by
  unfold cw
  rw [O.swp x y (ha x (by simp)) (hb y (by simp)), Yr4 O a b (fun z hz => ha z (by simp [hz])) (fun z hz => hb z (by simp [hz])), show Zbw (en b) (en a) = - Zbw (en a) (en b) from by unfold Zbw; split <;> split <;> omega, Zkt, Zkt]
theorem Zlp {a : List α} (h : a ≠ []) : en a = 1 := by cases a with | nil => exact absurd rfl h | cons _ _ => rfl
theorem Yht (O : OrdL c P) : OrdL (cw c) (PP P) := ⟨fun a b d ha hb hd => Ysl O a b d (by rw [Zlp ha.1, Zlp hb.1]) (by rw [Zlp hb.1, Zlp hd.1]) ha.2 hb.2 hd.2, fun a b ha hb => Yr4 O a b ha.2 hb.2⟩
theorem Zcr (x y : α) (a b : List α) : cw c (x :: a) (y :: b) = lx (Zbw (en a) (en b)) (lx (c x y) (cw c a b)) := rfl
theorem Ydj : ∀ (a b : List α), cw c a b = 0 ↔ Zca c a b = 0
 | [], [] => Iff.rfl
 | [], _ :: _ => Iff.rfl
 | _ :: _, [] => Iff.rfl
 | x :: a, y :: b => by
  rw [Zcr, Zb7, Zc9, Zc9, Zc9, Ydj a b]
  refine ⟨fun h => h.2, fun h => ⟨?_, h⟩⟩
  have := (cmpLx_zero.1 h.2).1
  cases a <;> cases b <;> first | rfl | (simp at this)
theorem Zwx (a b : List α) (q : α) : Zbn c (a ++ b) q = (Zbn c a q || Zbn c b q) := by unfold Zbn; rw [List.any_append]
theorem Zek {x : α} {l : List α} : Srt c (x :: l) ↔ (∀ y ∈ l, c x y < 0) ∧ Srt c l := List.pairwise_cons
theorem Zqm (O : OrdL c P) {l : List α} {x : α} (h : x ∈ l) (hx : P x) : Zbn c l x = true := by
 unfold Zbn
 exact List.any_eq_true.2 ⟨x, h, by simp [O.self hx]⟩
theorem Zzf {l : List α} {q : α} (h : Zbn c l q = true) : ∃ x ∈ l, c x q = 0 := by
 unfold Zbn at h
 obtain ⟨x, hx, h⟩ := List.any_eq_true.1 h
 exact ⟨x, hx, by simpa using h⟩
theorem Zwy (O : OrdL c P) {l : List α} {p q : α} (hl : ∀ x ∈ l, P x) (hp : P p) (hq : P q) (h : c p q = 0) : Zbn c l p = Zbn c l q := by
 have e : ∀ x ∈ l, (c x p = 0 ↔ c x q = 0) := fun x hx => by
  obtain ⟨_, _, _, h4, h5, _, _⟩ := O.tri x p q (hl x hx) hp hq
  exact ⟨fun h' => by rw [h4 h']; exact h, fun h' => by rw [h5 h] at h'; exact h'⟩
 unfold Zbn
 rw [Bool.eq_iff_iff, List.any_eq_true, List.any_eq_true]
 exact ⟨fun ⟨x, hx, h⟩ => ⟨x, hx, by simpa using (e x hx).1 (by simpa using h)⟩, fun ⟨x, hx, h⟩ => ⟨x, hx, by simpa using (e x hx).2 (by simpa using h)⟩⟩
theorem Zj0 (O : OrdL c P) : ∀ (l l' : List α), (∀ x ∈ l, P x) → (∀ x ∈ l', P x) → Srt c l → Srt c l' → (∀ q, P q → Zbn c l q = Zbn c l' q) → Zca c l l' = 0
 | [], [], _, _, _, _, _ => rfl
 | [], y :: r, _, hl, _, _, h => by
  have := h y (hl y (by simp))
  rw [Zqm O (l := y :: r) (by simp) (hl y (by simp))] at this
  exact Bool.noConfusion this
 | x :: r, [], hl, _, _, _, h => by
  have := h x (hl x (by simp))
  rw [Zqm O (l := x :: r) (by simp) (hl x (by simp))] at this
  exact Bool.noConfusion this
 | x :: r, y :: r', hl, hl', hs, hs', h => by
  have hx := hl x (by simp)
  have hy := hl' y (by simp)
  have hr : ∀ z ∈ r, P z := fun z hz => hl z (by simp [hz])
  have hr' : ∀ z ∈ r', P z := fun z hz => hl' z (by simp [hz])
  rw [Zek] at hs hs'
  have hxy : c x y = 0 := by
   have h1 := h x hx
   rw [Zqm O (l := x :: r) (by simp) hx] at h1
   obtain ⟨z, hz, e1⟩ := Zzf h1.symm
   have h2 := h y hy
   rw [Zqm O (l := y :: r') (by simp) hy] at h2
   obtain ⟨u, hu, e2⟩ := Zzf h2
   rcases List.mem_cons.1 hz with rfl | hz
   ·have := O.swp z x hy hx; omega
   ·rcases List.mem_cons.1 hu with rfl | hu
    ·exact e2
    ·have h3 := hs'.1 z hz
     have h4 := hs.1 u hu
     have k1 : c x y = c x u := (O.tri x u y hx (hr u hu) hy).zq e2
     have k2 : c y x = c y z := (O.tri y z x hy (hr' z hz) hx).zq e1
     have := O.swp x y hx hy
     omega
  rw [Zb7, Zci hxy]
  refine Zj0 O r r' hr hr' hs.2 hs'.2 fun q hq => ?_
  have h1 := h q hq
  rw [Zcf, Zcf, (O.tri x y q hx hy hq).zp hxy] at h1
  by_cases e : c y q = 0
  ·have e' : c x q = 0 := by rw [(O.tri x y q hx hy hq).zp hxy]; exact e
   have n1 : Zbn c r q = false := by
    rw [Zwy O hr hq hx (by have := O.swp x q hx hq; omega)]
    refine Bool.eq_false_iff.2 fun hc => ?_
    obtain ⟨z, hz, e0⟩ := Zzf hc
    have := hs.1 z hz
    have := O.swp x z hx (hr z hz)
    omega
   have n2 : Zbn c r' q = false := by
    rw [Zwy O hr' hq hy (by have := O.swp y q hy hq; omega)]
    refine Bool.eq_false_iff.2 fun hc => ?_
    obtain ⟨z, hz, e0⟩ := Zzf hc
    have := hs'.1 z hz
    have := O.swp y z hy (hr' z hz)
    omega
   rw [n1, n2]
  ·simpa [e] using h1
theorem Yiy (t : ST α) : Zdl c t [] = false := by unfold Zdl; rfl
theorem Ze1 (t : ST α) (p : α) : Zdl c t [p] = Zbn c t.m p := by unfold Zdl; rfl
theorem Zfl (t : ST α) (p : α) {q : List α} (hq : q ≠ []) : Zdl c t (p :: q) = (match Zea c t.c p with | some t' => Zdl c t' q | none => false) := by
 cases q with
 | nil => exact absurd rfl hq
 | cons z r => rw [Zdl]
theorem Zui {β : Type} (y : α × β) (r : List (α × β)) (p : α) : Zea c (y :: r) p = if c y.1 p < 0 then Zea c r p else if c y.1 p = 0 then some y.2 else none := rfl
mutual
theorem Zec : ∀ (t : ST α), WFT c P t → ∀ p ∈ Zc0 t, PP P p
 | .mk m ch, h, p, hp => by
  unfold WFT at h
  unfold Zc0 at hp
  rcases List.mem_append.1 hp with hp | hp
  ·obtain ⟨x, hx, rfl⟩ := List.mem_map.1 hp
   exact ⟨by simp, fun z hz => by rw [List.mem_singleton] at hz; rw [hz]; exact h.1 x hx⟩
  ·obtain ⟨x, q, rfl, h1, h2⟩ := Zte ch h.2.2.2 p hp
   exact ⟨by simp, fun z hz => by
    rcases List.mem_cons.1 hz with rfl | hz
    ·exact h1
    ·exact h2.2 z hz⟩
theorem Zte : ∀ (l : List (α × ST α)), WFC c P l → ∀ p ∈ Zba l, ∃ x q, p = x :: q ∧ P x ∧ PP P q
 | [], _, p, hp => by unfold Zba at hp; cases hp
 | y :: r, h, p, hp => by
  unfold WFC at h
  unfold Zba at hp
  rcases List.mem_append.1 hp with hp | hp
  ·obtain ⟨q, hq, rfl⟩ := List.mem_map.1 hp
   exact ⟨_, _, rfl, h.1, Zec y.2 h.2.1 q hq⟩
  ·exact Zte r h.2.2 p hp
end
theorem Yiv {β : Type} : ∀ {l : List (α × β)} {x : α}, (∀ y ∈ l, 0 < c y.1 x) → Zea c l x = none
 | [], _, _ => rfl
 | y :: r, x, h => by
  have := h y (by simp)
  unfold Zea
  rw [if_neg (by omega), if_neg (by omega)]
theorem Zwv {β : Type} (O : OrdL c P) : ∀ {l : List (α × β)} {x y : α}, (∀ z ∈ l, P z.1) → P x → P y → c x y = 0 → Zea c l x = Zea c l y
 | [], _, _, _, _, _, _ => rfl
 | z :: r, x, y, hl, hx, hy, h => by
  have e : c z.1 y = c z.1 x := (O.tri z.1 x y (hl z (by simp)) hx hy).zq h
  unfold Zea
  rw [e, Zwv O (fun z hz => hl z (by simp [hz])) hx hy h]
theorem Ziq {β : Type} : ∀ {l : List (α × β)} {x : α} {t : β}, Zea c l x = some t → ∃ k, (k, t) ∈ l ∧ c k x = 0
 | [], _, _, h => by cases h
 | y :: r, x, t, h => by
  unfold Zea at h
  split at h
  ·obtain ⟨k, h1, h2⟩ := Ziq h
   exact ⟨k, by simp [h1], h2⟩
  ·split at h
   ·rename_i e
    cases h
    exact ⟨y.1, by simp, e⟩
   ·cases h
theorem any_map {β γ : Type} (f : β → γ) (p : γ → Bool) (l : List β) : (l.map f).any p = l.any fun x => p (f x) := by simp [List.any_map, Function.comp_def]
theorem Yiz (m : List α) (p : α) (q : List α) : Zbn (cw c) (m.map fun x => [x]) (p :: q) = (q.isEmpty && Zbn c m p) := by
 unfold Zbn
 rw [any_map]
 cases q with
 | nil =>
  simp only [List.isEmpty_nil, Bool.true_and]
  congr 1
  funext x
  rw [Zcr]
  simp [en, Zbw, lx, cw]
 | cons z r =>
  simp only [List.isEmpty_cons, Bool.false_and]
  rw [List.any_eq_false]
  intro x _
  rw [Zcr]
  simp [en, Zbw, lx]
theorem Yee (l : List (List α)) (hl : ∀ a ∈ l, a ≠ []) (x p : α) (q : List α) : Zbn (cw c) (l.map (x :: ·)) (p :: q) = (!q.isEmpty && decide (c x p = 0) && Zbn (cw c) l q) := by
 unfold Zbn
 rw [any_map]
 cases q with
 | nil =>
  simp only [List.isEmpty_nil, Bool.not_true, Bool.false_and]
  rw [List.any_eq_false]
  intro a ha
  rw [Zcr, Zlp (hl a ha)]
  simp [en, Zbw, lx]
 | cons z r =>
  simp only [List.isEmpty_cons, Bool.not_false, Bool.true_and]
  by_cases h : c x p = 0
  ·rw [decide_eq_true h, Bool.true_and, Bool.eq_iff_iff, List.any_eq_true, List.any_eq_true]
   have e : ∀ a ∈ l, cw c (x :: a) (p :: z :: r) = cw c a (z :: r) := fun a ha => by
    rw [Zcr, Zlp (hl a ha), show Zbw 1 (en (z :: r)) = 0 from rfl, Zci rfl, Zci h]
   exact ⟨fun ⟨a, ha, h⟩ => ⟨a, ha, by rw [e a ha] at h; exact h⟩, fun ⟨a, ha, h⟩ => ⟨a, ha, by rw [e a ha]; exact h⟩⟩
  ·rw [decide_eq_false h, Bool.false_and, List.any_eq_false]
   intro a ha
   rw [Zcr, Zlp (hl a ha), show Zbw 1 (en (z :: r)) = 0 from rfl, Zci rfl, Zeh h]
   simp [h]
mutual
theorem Zkn (O : OrdL c P) : ∀ (t : ST α), WFT c P t → ∀ (p : α) (q : List α), P p → (∀ x ∈ q, P x) → Zbn (cw c) (Zc0 t) (p :: q) = Zdl c t (p :: q)
 | .mk m ch, h, p, q, hp, hq => by
  unfold WFT at h
  unfold Zc0
  rw [Zwx, Yiz, Zun O ch h.2.2.2 h.2.2.1 p q hp hq]
  cases q with
  | nil => simp [Zdl, ST.m]
  | cons z r =>
   rw [Zfl _ _ (by simp)]
   simp only [List.isEmpty_cons, Bool.false_and, Bool.false_or, Bool.not_false, Bool.true_and]
   rfl
theorem Zun (O : OrdL c P) : ∀ (l : List (α × ST α)), WFC c P l → Srt c (l.map (·.1)) → ∀ (p : α) (q : List α), P p → (∀ x ∈ q, P x) → Zbn (cw c) (Zba l) (p :: q) = (!q.isEmpty && (match Zea c l p with | some t => Zdl c t q | none => false))
 | [], _, _, p, q, _, _ => by unfold Zba; simp [Zbn, Zea]
 | y :: r, h, hs, p, q, hp, hq => by
  have hr := h
  unfold WFC at h
  have hk := WFC_iff.1 hr
  rw [List.map_cons, Zek] at hs
  unfold Zba
  have hne : ∀ a ∈ Zc0 y.2, a ≠ [] := fun a ha => (Zec y.2 h.2.1 a ha).1
  rw [Zwx, Yee _ hne, Zun O r h.2.2 hs.2 p q hp hq]
  cases q with
  | nil => rfl
  | cons z w =>
  rw [Zkn O y.2 h.2.1 z w (hq z (by simp)) fun x hx => hq x (by simp [hx])]
  simp only [List.isEmpty_cons, Bool.not_false, Bool.true_and]
  have hgt : ¬ c y.1 p < 0 → ∀ u ∈ r, 0 < c u.1 p := fun hn u hu => by
   have h1 := hs.1 u.1 (List.mem_map.2 ⟨u, hu, rfl⟩)
   exact Yg7 O h.1 (fun x hx => by obtain ⟨v, hv, rfl⟩ := List.mem_map.1 hx; exact (hk v (by simp [hv])).1) hp (by rw [Zek]; exact hs) hn u.1 (List.mem_map.2 ⟨u, hu, rfl⟩)
  rw [Zui]
  by_cases h1 : c y.1 p < 0
  ·rw [if_pos h1, decide_eq_false (by omega), Bool.false_and, Bool.false_or]
  ·rw [if_neg h1, Yiv (hgt h1)]
   by_cases h2 : c y.1 p = 0
   ·rw [if_pos h2, decide_eq_true h2]; simp
   ·rw [if_neg h2, decide_eq_false h2]; simp
end
theorem srt_app {a b : List α} : Srt c (a ++ b) ↔ Srt c a ∧ Srt c b ∧ ∀ x ∈ a, ∀ y ∈ b, c x y < 0 := List.pairwise_append
mutual
theorem Znk (O : OrdL c P) : ∀ (t : ST α), WFT c P t → Srt (cw c) (Zc0 t)
 | .mk m ch, h => by
  unfold WFT at h
  unfold Zc0
  refine srt_app.2 ⟨?_, Zvx O ch h.2.2.2 h.2.2.1, fun a ha b hb => ?_⟩
  ·unfold Srt
   rw [List.pairwise_map]
   refine List.Pairwise.imp (fun {x y} hxy => ?_) h.2.1
   rw [Zcr, Zci (show Zbw (en ([] : List α)) (en []) = 0 from rfl), Zeh (by omega)]
   exact hxy
  ·obtain ⟨x, _, rfl⟩ := List.mem_map.1 ha
   obtain ⟨k, q, rfl, _, hq⟩ := Zte ch h.2.2.2 b hb
   rw [Zcr, Zlp hq.1]
   show lx (-1) _ < 0
   rw [Zeh (by decide)]
   decide
theorem Zvx (O : OrdL c P) : ∀ (l : List (α × ST α)), WFC c P l → Srt c (l.map (·.1)) → Srt (cw c) (Zba l)
 | [], _, _ => by unfold Zba; exact List.Pairwise.nil
 | y :: r, h, hs => by
  unfold WFC at h
  rw [List.map_cons, Zek] at hs
  unfold Zba
  refine srt_app.2 ⟨?_, Zvx O r h.2.2 hs.2, fun a ha b hb => ?_⟩
  ·unfold Srt
   rw [List.pairwise_map]
   refine List.Pairwise.imp_of_mem (fun {a b} ha hb hab => ?_) (Znk O y.2 h.2.1)
   rw [Zcr, Zlp (Zec y.2 h.2.1 a ha).1, Zlp (Zec y.2 h.2.1 b hb).1, Zci (show Zbw 1 1 = 0 from rfl), Zci (O.self h.1)]
   exact hab
  ·obtain ⟨q, hq, rfl⟩ := List.mem_map.1 ha
   have hb' : ∃ u ∈ r, ∃ q', b = u.1 :: q' ∧ q' ≠ [] := by
    clear hs ha
    induction r with
    | nil => unfold Zba at hb; cases hb
    | cons u r ih =>
     have hc := h.2.2
     unfold WFC at hc
     unfold Zba at hb
     rcases List.mem_append.1 hb with hb | hb
     ·obtain ⟨q', hq', rfl⟩ := List.mem_map.1 hb
      exact ⟨u, by simp, q', rfl, (Zec u.2 hc.2.1 q' hq').1⟩
     ·obtain ⟨v, hv, h'⟩ := ih ⟨h.1, h.2.1, hc.2.2⟩ hb
      exact ⟨v, by simp [hv], h'⟩
   obtain ⟨u, hu, q', rfl, hq'⟩ := hb'
   have := hs.1 u.1 (List.mem_map.2 ⟨u, hu, rfl⟩)
   rw [Zcr, Zlp (Zec y.2 h.2.1 q hq).1, Zlp hq', Zci (show Zbw 1 1 = 0 from rfl), Zeh (by omega)]
   exact this
end
end
end Go.Proofs.YtgmahieoiifpfaaGreat
end
section
namespace Go.Proofs.YtgmahieoiifpfaaGreat
section
variable {α : Type} {c : α → α → Int} {P : α → Prop}
theorem Zg6 : WFT c P (ST.mk [] []) := by unfold WFT WFC; simp [Srt]
theorem Zum (p : List α) : Zdl c (ST.mk [] []) p = false := by
 match p with
 | [] => unfold Zdl; rfl
 | [_] => unfold Zdl; simp [Zbn, ST.m]
 | _ :: _ :: _ => unfold Zdl; simp [Zea, ST.c]
theorem Zf7 {β : Type} : ∀ {l : List (α × β)} {p : α} {j : β} {y : α × β}, y ∈ Zgz c l p j → y ∈ l ∨ (y.2 = j ∧ (y.1 = p ∨ ∃ z ∈ l, z.1 = y.1))
 | [], p, j, y, h => by
  unfold Zgz at h
  rw [List.mem_singleton] at h
  subst h
  exact .inr ⟨rfl, .inl rfl⟩
 | m :: r, p, j, y, h => by
  unfold Zgz at h
  split at h
  ·rcases List.mem_cons.1 h with rfl | h
   ·exact .inl (by simp)
   ·rcases Zf7 h with h | ⟨h1, h2⟩
    ·exact .inl (by simp [h])
    ·refine .inr ⟨h1, h2.imp id fun ⟨z, hz, e⟩ => ⟨z, by simp [hz], e⟩⟩
  ·split at h
   ·rcases List.mem_cons.1 h with rfl | h
    ·exact .inr ⟨rfl, .inr ⟨m, by simp, rfl⟩⟩
    ·exact .inl (by simp [h])
   ·rcases List.mem_cons.1 h with rfl | h
    ·exact .inr ⟨rfl, .inl rfl⟩
    ·exact .inl h
theorem Zr9 {β : Type} (O : OrdL c P) {l : List (α × β)} {p q : α} (j : β) (hl : ∀ x ∈ l, P x.1) (hp : P p) (hq : P q) : Zea c (Zgz c l p j) q = if c p q = 0 then some j else Zea c l q := by
 split
 ·rename_i h
  rw [← Zwv O (fun z hz => ?_) hp hq h, Zzd O l j hp]
  rcases Zf7 hz with hz | ⟨_, h | ⟨u, hu, e⟩⟩
  ·exact hl z hz
  ·rw [h]; exact hp
  ·rw [← e]; exact hl u hu
 ·rename_i h
  exact Zuk O l j hl hp hq h
theorem Zr8 {l : List (α × ST α)} (h : WFC c P l) {x : α} {t : ST α} (hx : Zea c l x = some t) : WFT c P t := by
 obtain ⟨k, hk, _⟩ := Ziq hx
 exact (WFC_iff.1 h _ hk).2
theorem Zsf (O : OrdL c P) : ∀ (p : List α) (t : ST α), (∀ x ∈ p, P x) → WFT c P t → WFT c P (Zgy c p t)
 | [], t, _, h => by unfold Zgy; exact h
 | [p], t, hp, h => by
  unfold Zgy
  obtain ⟨h1, h2, h3, h4⟩ := WFT_iff.1 h
  have hP := hp p (by simp)
  exact WFT_iff.2 ⟨Ylw h1 hP, Zle O h1 hP h2, h3, h4⟩
 | p :: q :: r, t, hp, h => by
  unfold Zgy
  obtain ⟨h1, h2, h3, h4⟩ := WFT_iff.1 h
  have hP := hp p (by simp)
  have hk : ∀ x ∈ t.c.map (·.1), P x := fun x hx => by
   obtain ⟨y, hy, rfl⟩ := List.mem_map.1 hx
   exact (WFC_iff.1 h4 y hy).1
  have hs : WFT c P ((Zea c t.c p).getD (.mk [] [])) := by
   cases hg : Zea c t.c p with
   | none => exact Zg6
   | some t' => exact Zr8 h4 hg
  have hi := Zsf O (q :: r) _ (fun x hx => hp x (by simp [hx])) hs
  refine WFT_iff.2 ⟨h1, h2, ?_, WFC_iff.2 fun y hy => ?_⟩
  ·show Srt c ((Zgz c t.c p _).map (·.1))
   rw [Zoi]
   exact Zle O hk hP h3
  ·have hy : y ∈ Zgz c t.c p (Zgy c (q :: r) ((Zea c t.c p).getD (.mk [] []))) := hy
   rcases Zf7 hy with hy | ⟨e, h | ⟨z, hz, e'⟩⟩
   ·exact WFC_iff.1 h4 y hy
   ·rw [e, h]; exact ⟨hP, hi⟩
   ·rw [e, ← e']; exact ⟨(WFC_iff.1 h4 z hz).1, hi⟩
theorem Zzb (l : List (α × ST α)) (p : α) (q : List α) : Zdl c ((Zea c l p).getD (.mk [] [])) q = (match Zea c l p with | some t' => Zdl c t' q | none => false) := by
 cases Zea c l p with
 | none => exact Zum q
 | some t => rfl
theorem Zsb (O : OrdL c P) : ∀ (p : List α) (t : ST α) (q : List α), (∀ x ∈ p, P x) → p ≠ [] → WFT c P t → PP P q → Zdl c (Zgy c p t) q = (Zdl c t q || decide (cw c p q = 0))
 | [], _, _, _, h, _, _ => absurd rfl h
 | [p], t, [q], hp, _, h, hq => by
  obtain ⟨h1, h2, h3, h4⟩ := WFT_iff.1 h
  rw [Ze1, Ze1]
  unfold Zgy
  show Zbn c (Zdj c t.m p) q = _
  rw [Zwz O h1 (hp p (by simp)) (hq.2 q (by simp)), Zcr, Zci (show Zbw (en ([] : List α)) (en []) = 0 from rfl), show cw c ([] : List α) [] = 0 from rfl]
  congr 1
  unfold lx
  split <;> simp_all
 | [p], t, q :: z :: r, hp, _, h, hq => by
  rw [Zfl _ _ (by simp), Zfl _ _ (by simp)]
  unfold Zgy
  show _ = (_ || decide (lx (-1) _ = 0))
  rw [Zeh (show (-1 : Int) ≠ 0 by decide), decide_eq_false (show ¬ (-1 : Int) = 0 by decide), Bool.or_false]
  rfl
 | p :: z :: r, t, [q], hp, _, h, hq => by
  rw [Ze1, Ze1]
  unfold Zgy
  show _ = (_ || decide (lx 1 _ = 0))
  rw [Zeh (show (1 : Int) ≠ 0 by decide), decide_eq_false (show ¬ (1 : Int) = 0 by decide), Bool.or_false]
  rfl
 | p :: z :: r, t, q :: y :: w, hp, _, h, hq => by
  obtain ⟨h1, h2, h3, h4⟩ := WFT_iff.1 h
  have hP := hp p (by simp)
  have hQ := hq.2 q (by simp)
  have hk : ∀ x ∈ t.c, P x.1 := fun x hx => (WFC_iff.1 h4 x hx).1
  rw [Zfl _ _ (by simp), Zfl _ _ (by simp)]
  unfold Zgy
  show (match Zea c (Zgz c t.c p (Zgy c (z :: r) ((Zea c t.c p).getD (.mk [] [])))) q with | some t' => Zdl c t' (y :: w) | none => false) = _
  rw [Zr9 O _ hk hP hQ, Zcr, Zci (show Zbw (en (z :: r)) (en (y :: w)) = 0 from rfl)]
  by_cases e : c p q = 0
  ·rw [if_pos e, Zci e]
   have hs : WFT c P ((Zea c t.c p).getD (.mk [] [])) := by
    cases hg : Zea c t.c p with
    | none => exact Zg6
    | some t' => exact Zr8 h4 hg
   show Zdl c (Zgy c (z :: r) ((Zea c t.c p).getD (.mk [] []))) (y :: w) = _
   rw [Zsb O (z :: r) _ (y :: w) (fun x hx => hp x (by simp [hx])) (by simp) hs ⟨by simp, fun x hx => hq.2 x (by simp [hx])⟩, Zzb, Zwv O hk hP hQ e]
   first | done | rfl
  ·rw [if_neg e, Zeh e, decide_eq_false e, Bool.or_false]
   first | done | rfl
theorem Zu8 (O : OrdL c P) {t : ST α} (h : WFT c P t) {p : List α} (hp : PP P p) (hh : Zdl c t p = true) : Zc0 t ≠ [] := by
 cases p with
 | nil => exact absurd rfl hp.1
 | cons x q =>
  rw [← Zkn O t h x q (hp.2 x (by simp)) fun z hz => hp.2 z (by simp [hz])] at hh
  intro e
  rw [e] at hh
  cases hh
theorem Yeo (O : OrdL c P) : ∀ (p : List α) (t : ST α), (∀ x ∈ p, P x) → WFT c P t → NET t → NET (Zgy c p t)
 | [], t, _, _, h => by unfold Zgy; exact h
 | [p], t, _, _, h => by unfold Zgy; exact NET_iff.2 fun y hy => NET_iff.1 h y hy
 | p :: q :: r, t, hp, hw, h => by
  unfold Zgy
  obtain ⟨h1, h2, h3, h4⟩ := WFT_iff.1 hw
  have hs : WFT c P ((Zea c t.c p).getD (.mk [] [])) ∧ NET ((Zea c t.c p).getD (.mk [] [])) := by
   cases hg : Zea c t.c p with
   | none => exact ⟨Zg6, NET_iff.2 (by simp [ST.c])⟩
   | some t' =>
    obtain ⟨k, hk, _⟩ := Ziq hg
    exact ⟨Zr8 h4 hg, (NET_iff.1 h _ hk).2⟩
  have hq : ∀ x ∈ q :: r, P x := fun x hx => hp x (by simp [hx])
  refine NET_iff.2 fun y hy => ?_
  have hy : y ∈ Zgz c t.c p (Zgy c (q :: r) ((Zea c t.c p).getD (.mk [] []))) := hy
  rcases Zf7 hy with hy | ⟨e, _⟩
  ·exact NET_iff.1 h y hy
  ·rw [e]
   refine ⟨Zu8 O (Zsf O _ _ hq hs.1) ⟨by simp, hq⟩ ?_, Yeo O _ _ hq hs.1 hs.2⟩
   rw [Zsb O _ _ _ hq (by simp) hs.1 ⟨by simp, hq⟩, (Yht O).self ⟨by simp, hq⟩]
   simp
theorem Zoz (O : OrdL c P) : ∀ (ps : List (List α)) (t : ST α), (∀ p ∈ ps, ∀ x ∈ p, P x) → WFT c P t → NET t → WFT c P (ps.foldl (fun t p => Zgy c p t) t) ∧ NET (ps.foldl (fun t p => Zgy c p t) t) ∧ ∀ q, PP P q → Zdl c (ps.foldl (fun t p => Zgy c p t) t) q = (Zdl c t q || Zbn (cw c) ps q)
 | [], t, _, h, hn => ⟨h, hn, fun q _ => by simp [Zbn]⟩
 | p :: r, t, hp, h, hn => by
  have h1 : ∀ x ∈ p, P x := hp p (by simp)
  obtain ⟨g1, g2, g3⟩ := Zoz O r (Zgy c p t) (fun q hq => hp q (by simp [hq])) (Zsf O p t h1 h) (Yeo O p t h1 h hn)
  rw [List.foldl_cons]
  refine ⟨g1, g2, fun q hq => ?_⟩
  rw [g3 q hq, Zcf]
  by_cases e : p = []
  ·subst e
   have : cw c ([] : List α) q ≠ 0 := by
    cases q with
    | nil => exact absurd rfl hq.1
    | cons _ _ => exact (show (-1 : Int) ≠ 0 by decide)
   rw [decide_eq_false this]
   unfold Zgy
   simp
  ·rw [Zsb O p t q h1 e h hq, Bool.or_assoc]
variable {ps : List (List α)}
theorem Zxd (O : OrdL c P) (h : ∀ p ∈ ps, ∀ x ∈ p, P x) : WFT c P (ofP c ps) := (Zoz O ps _ h Zg6 (NET_iff.2 (by simp [ST.c]))).1
theorem Yof (O : OrdL c P) (h : ∀ p ∈ ps, ∀ x ∈ p, P x) : NET (ofP c ps) := (Zoz O ps _ h Zg6 (NET_iff.2 (by simp [ST.c]))).2.1
theorem Yog (O : OrdL c P) (h : ∀ p ∈ ps, ∀ x ∈ p, P x) {q : List α} (hq : PP P q) : Zdl c (ofP c ps) q = Zbn (cw c) ps q := by
 unfold ofP
 rw [(Zoz O ps _ h Zg6 (NET_iff.2 (by simp [ST.c]))).2.2 q hq, Zum, Bool.false_or]
end
end Go.Proofs.YtgmahieoiifpfaaGreat
end
section
namespace Go.Proofs.YtgmahieoiifpfaaGreat
section
variable {α : Type} {c : α → α → Int}
mutual
/-- No list of the set is longer than n. -/
def SzT (n : Nat) : ST α → Prop
 | .mk m ch => m.length ≤ n ∧ ch.length ≤ n ∧ SzC n ch
def SzC (n : Nat) : List (α × ST α) → Prop
 | [] => True
 | y :: r => SzT n y.2 ∧ SzC n r
end
theorem Yl8 {n : Nat} {l : List (α × ST α)} : SzC n l ↔ ∀ y ∈ l, SzT n y.2 := by
 induction l with
 | nil => unfold SzC; simp
 | cons y r ih => unfold SzC; rw [ih]; simp
theorem SzT_iff {n : Nat} {t : ST α} : SzT n t ↔ t.m.length ≤ n ∧ t.c.length ≤ n ∧ ∀ y ∈ t.c, SzT n y.2 := by
 cases t
 rw [SzT, Yl8]
 rfl
theorem Zzv {n : Nat} : SzT n (ST.mk [] [] : ST α) := by rw [SzT_iff]; simp [ST.m, ST.c]
theorem Ynl {n : Nat} {l : List (α × ST α)} (h : ∀ y ∈ l, SzT n y.2) {x : α} {t : ST α} (hx : Zea c l x = some t) : SzT n t := by
 obtain ⟨k, h1, _⟩ := Ziq hx
 exact h _ h1
theorem Zza {n : Nat} {l : List (α × ST α)} (h : ∀ y ∈ l, SzT n y.2) {x : α} : SzT n ((Zea c l x).getD (.mk [] [])) := by
 cases hx : Zea c l x with
 | none => exact Zzv
 | some t => exact Ynl h hx
theorem Zw1 : ∀ (l : List α) (p : α), (Zdj c l p).length ≤ l.length + 1
 | [], p => by simp [Zdj]
 | x :: r, p => by
  unfold Zdj
  have := Zw1 r p
  split
  ·simp; omega
  ·split <;> simp
mutual
theorem Zg2 {n k : Nat} (h : n ≤ k) : ∀ (t : ST α), SzT n t → SzT k t
 | .mk m ch, ht => by
  unfold SzT at ht ⊢
  exact ⟨by omega, by omega, Zx4 h ch ht.2.2⟩
theorem Zx4 {n k : Nat} (h : n ≤ k) : ∀ (l : List (α × ST α)), SzC n l → SzC k l
 | [], _ => by unfold SzC; trivial
 | y :: r, ht => by
  unfold SzC at ht ⊢
  exact ⟨Zg2 h y.2 ht.1, Zx4 h r ht.2⟩
end
theorem Zw2 {n : Nat} : ∀ (p : List α) (t : ST α), SzT n t → SzT (n + 1) (Zgy c p t)
 | [], t, h => by unfold Zgy; exact Zg2 (by omega) t h
 | [p], t, h => by
  obtain ⟨h1, h2, h3⟩ := SzT_iff.1 h
  unfold Zgy
  rw [SzT_iff]
  have := Zw1 (c := c) t.m p
  exact ⟨by show (Zdj c t.m p).length ≤ n + 1; omega, by show t.c.length ≤ n + 1; omega, fun y hy => Zg2 (by omega) _ (h3 y hy)⟩
 | p :: q :: r, t, h => by
  obtain ⟨h1, h2, h3⟩ := SzT_iff.1 h
  unfold Zgy
  rw [SzT_iff]
  have hl := Zse (c := c) t.c p (Zgy c (q :: r) ((Zea c t.c p).getD (.mk [] [])))
  refine ⟨by show t.m.length ≤ n + 1; omega, by show (Zgz c t.c p _).length ≤ n + 1; omega, fun y hy => ?_⟩
  rcases Zf7 hy with h | ⟨h, _⟩
  ·exact Zg2 (by omega) _ (h3 y h)
  ·rw [h]
   exact Zw2 (q :: r) _ (Zza h3)
end
end Go.Proofs.YtgmahieoiifpfaaGreat
end
section
namespace Go.Proofs.YtgmahieoiifpfaaGreat
section
variable {α γ : Type} (c : α → α → Int) (k : γ → α)
def Zcs (l : List γ) (q : α) : Option γ := l.find? fun z => decide (c (k z) q = 0)
variable (fl fr : γ → Option γ) (fb : γ → γ → Option γ)
def mrg : List γ → List γ → List γ
 | [], b => b.filterMap fr
 | x :: a, [] => (x :: a).filterMap fl
 | x :: a, y :: b => if c (k x) (k y) < 0 then (fl x).toList ++ mrg a (y :: b) else if c (k y) (k x) < 0 then (fr y).toList ++ mrg (x :: a) b else (fb x y).toList ++ mrg a b
termination_by a b => a.length + b.length
def Ypu (f g : Option γ) : Option γ := match f, g with
 | none, none => none
 | some x, none => fl x
 | none, some y => fr y
 | some x, some y => fb x y
variable {c k fl fr fb} {P : α → Prop}
theorem Zox (b : List γ) : mrg c k fl fr fb [] b = b.filterMap fr := by rw [mrg]
theorem Zkx (a : List γ) : mrg c k fl fr fb a [] = a.filterMap fl := by
 cases a with
 | nil => rw [mrg]; rfl
 | cons x a => rw [mrg]
theorem Zkv (x y : γ) (a b : List γ) : mrg c k fl fr fb (x :: a) (y :: b) = if c (k x) (k y) < 0 then (fl x).toList ++ mrg c k fl fr fb a (y :: b) else if c (k y) (k x) < 0 then (fr y).toList ++ mrg c k fl fr fb (x :: a) b else (fb x y).toList ++ mrg c k fl fr fb a b := by rw [mrg]
theorem Zdk (x : γ) (l : List γ) (q : α) : Zcs c k (x :: l) q = if c (k x) q = 0 then some x else Zcs c k l q := by
 unfold Zcs
 rw [List.find?_cons]
 by_cases h : c (k x) q = 0
 ·rw [if_pos h, decide_eq_true h]
 ·rw [if_neg h, decide_eq_false h]
theorem Zuc (q : α) : Zcs c k [] q = none := rfl
theorem Zkg {o : Option γ} {x : α} {l : List γ} {q : α} (h : ∀ z, o = some z → c (k z) q = c x q) : Zcs c k (o.toList ++ l) q = if c x q = 0 then o.or (Zcs c k l q) else Zcs c k l q := by
 cases o with
 | none => simp
 | some z =>
  show Zcs c k (z :: l) q = _
  rw [Zdk, h z rfl]
  rfl
theorem Zgc {l : List γ} {q : α} (h : ∀ z ∈ l, c (k z) q ≠ 0) : Zcs c k l q = none := by
 unfold Zcs
 rw [List.find?_eq_none]
 intro z hz
 simpa using h z hz
theorem Zkf {l : List γ} {q : α} {z : γ} (h : Zcs c k l q = some z) : z ∈ l ∧ c (k z) q = 0 := by
 unfold Zcs at h
 exact ⟨List.mem_of_find?_eq_some h, by simpa using List.find?_some h⟩
theorem Zr5 {f : γ → Option γ} (hf : ∀ x z, f x = some z → k z = k x) : ∀ {l : List γ} (q : α), Srt c (l.map k) → OrdL c P → (∀ x ∈ l, P (k x)) → P q → Zcs c k (l.filterMap f) q = (match Zcs c k l q with | some x => f x | none => none)
 | [], q, _, _, _, _ => rfl
 | x :: l, q, hs, O, hP, hq => by
  rw [List.map_cons, Zek] at hs
  have hx := hP x (by simp)
  have hl : ∀ z ∈ l, P (k z) := fun z hz => hP z (by simp [hz])
  have ih := Zr5 hf q hs.2 O hl hq
  have e : (x :: l).filterMap f = (f x).toList ++ l.filterMap f := by
   rw [List.filterMap_cons]
   cases f x <;> rfl
  rw [e, Zkg (x := k x) fun z hz => by rw [hf x z hz], Zdk, ih]
  by_cases h : c (k x) q = 0
  ·rw [if_pos h, if_pos h]
   have hn : Zcs c k l q = none := Zgc fun z hz h0 => by
    have h1 := hs.1 (k z) (List.mem_map.2 ⟨z, hz, rfl⟩)
    have h2 := (O.tri (k x) (k z) q hx (hl z hz) hq)
    have h3 := O.swp (k z) q (hl z hz) hq
    have h4 := h2.zq h0
    omega
   rw [hn]
   simp only
   cases f x <;> rfl
  ·rw [if_neg h, if_neg h]
variable (hl : ∀ x z, fl x = some z → k z = k x) (hr : ∀ y z, fr y = some z → k z = k y) (hb : ∀ x y z, fb x y = some z → k z = k x ∨ k z = k y)
theorem Zow : ∀ (a b : List γ) {z : γ}, z ∈ mrg c k fl fr fb a b → (∃ x ∈ a, fl x = some z) ∨ (∃ y ∈ b, fr y = some z) ∨ ∃ x ∈ a, ∃ y ∈ b, fb x y = some z
 | [], b, z, h => by
  rw [Zox, List.mem_filterMap] at h
  exact .inr (.inl h)
 | x :: a, [], z, h => by
  rw [Zkx, List.mem_filterMap] at h
  exact .inl h
 | x :: a, y :: b, z, h => by
  rw [Zkv] at h
  split at h
  ·rcases List.mem_append.1 h with h | h
   ·exact .inl ⟨x, by simp, by simpa using h⟩
   ·rcases Zow a (y :: b) h with ⟨u, h1, h2⟩ | h | ⟨u, h1, h2⟩
    ·exact .inl ⟨u, by simp [h1], h2⟩
    ·exact .inr (.inl h)
    ·exact .inr (.inr ⟨u, by simp [h1], h2⟩)
  ·split at h
   ·rcases List.mem_append.1 h with h | h
    ·exact .inr (.inl ⟨y, by simp, by simpa using h⟩)
    ·rcases Zow (x :: a) b h with h | ⟨u, h1, h2⟩ | ⟨u, h1, v, h2, h3⟩
     ·exact .inl h
     ·exact .inr (.inl ⟨u, by simp [h1], h2⟩)
     ·exact .inr (.inr ⟨u, h1, v, by simp [h2], h3⟩)
   ·rcases List.mem_append.1 h with h | h
    ·exact .inr (.inr ⟨x, by simp, y, by simp, by simpa using h⟩)
    ·rcases Zow a b h with ⟨u, h1, h2⟩ | ⟨u, h1, h2⟩ | ⟨u, h1, v, h2, h3⟩
     ·exact .inl ⟨u, by simp [h1], h2⟩
     ·exact .inr (.inl ⟨u, by simp [h1], h2⟩)
     ·exact .inr (.inr ⟨u, by simp [h1], v, by simp [h2], h3⟩)
termination_by a b => a.length + b.length
include hl hr hb
theorem Zsr {a b : List γ} {z : γ} (h : z ∈ mrg c k fl fr fb a b) : (∃ x ∈ a, k z = k x) ∨ ∃ y ∈ b, k z = k y := by
 rcases Zow a b h with ⟨x, h1, h2⟩ | ⟨x, h1, h2⟩ | ⟨x, h1, y, h2, h3⟩
 ·exact .inl ⟨x, h1, hl _ _ h2⟩
 ·exact .inr ⟨x, h1, hr _ _ h2⟩
 ·rcases hb _ _ _ h3 with h | h
  ·exact .inl ⟨x, h1, h⟩
  ·exact .inr ⟨y, h2, h⟩
omit hl hr hb in
theorem Yg6 {f : γ → Option γ} (hf : ∀ x z, f x = some z → k z = k x) : ∀ {l : List γ}, Srt c (l.map k) → Srt c ((l.filterMap f).map k)
 | [], _ => List.Pairwise.nil
 | x :: l, hs => by
  rw [List.map_cons, Zek] at hs
  have ih := Yg6 hf hs.2
  rw [List.filterMap_cons]
  cases hx : f x with
  | none => exact ih
  | some z =>
   show Srt c (k z :: (l.filterMap f).map k)
   rw [Zek, hf x z hx]
   refine ⟨fun y hy => ?_, ih⟩
   obtain ⟨u, hu, rfl⟩ := List.mem_map.1 hy
   obtain ⟨v, hv, e⟩ := List.mem_filterMap.1 hu
   rw [hf v u e]
   exact hs.1 _ (List.mem_map.2 ⟨v, hv, rfl⟩)
omit hl hr hb in
theorem Zxr {o : Option γ} {l : List γ} (h : ∀ z, o = some z → ∀ y ∈ l, c (k z) (k y) < 0) (hs : Srt c (l.map k)) : Srt c ((o.toList ++ l).map k) := by
 cases o with
 | none => exact hs
 | some z =>
  show Srt c (k z :: l.map k)
  rw [Zek]
  refine ⟨fun y hy => ?_, hs⟩
  obtain ⟨u, hu, rfl⟩ := List.mem_map.1 hy
  exact h z rfl u hu
theorem Zoy (O : OrdL c P) : ∀ (a b : List γ), (∀ x ∈ a, P (k x)) → (∀ x ∈ b, P (k x)) → Srt c (a.map k) → Srt c (b.map k) → Srt c ((mrg c k fl fr fb a b).map k)
 | [], b, _, _, _, hs => by rw [Zox]; exact Yg6 hr hs
 | x :: a, [], _, _, hs, _ => by rw [Zkx]; exact Yg6 hl hs
 | x :: a, y :: b, ha, hb', hs, ht => by
  have hs' := hs
  have ht' := ht
  rw [List.map_cons, Zek] at hs ht
  have hx := ha x (by simp)
  have hy := hb' y (by simp)
  have hra : ∀ z ∈ a, P (k z) := fun z hz => ha z (by simp [hz])
  have hrb : ∀ z ∈ b, P (k z) := fun z hz => hb' z (by simp [hz])
  have xa : ∀ z ∈ a, c (k x) (k z) < 0 := fun z hz => hs.1 _ (List.mem_map.2 ⟨z, hz, rfl⟩)
  have yb : ∀ z ∈ b, c (k y) (k z) < 0 := fun z hz => ht.1 _ (List.mem_map.2 ⟨z, hz, rfl⟩)
  rw [Zkv]
  split
  ·rename_i h
   refine Zxr (fun z hz u hu => ?_) (Zoy O a (y :: b) hra hb' hs.2 ht')
   rw [hl x z hz]
   rcases Zsr hl hr hb hu with ⟨v, hv, e⟩ | ⟨v, hv, e⟩
   ·rw [e]; exact xa v hv
   ·rw [e]
    rcases List.mem_cons.1 hv with rfl | hv
    ·exact h
    ·exact O.lt hx hy (hrb v hv) h (yb v hv)
  ·split
   ·rename_i h0 h
    refine Zxr (fun z hz u hu => ?_) (Zoy O (x :: a) b ha hrb hs' ht.2)
    rw [hr y z hz]
    rcases Zsr hl hr hb hu with ⟨v, hv, e⟩ | ⟨v, hv, e⟩
    ·rw [e]
     rcases List.mem_cons.1 hv with rfl | hv
     ·exact h
     ·exact O.lt hy hx (hra v hv) h (xa v hv)
    ·rw [e]; exact yb v hv
   ·rename_i h0 h
    have hxy : c (k x) (k y) = 0 := by have := O.swp (k x) (k y) hx hy; omega
    have xb : ∀ v ∈ b, c (k x) (k v) < 0 := fun v hv => by rw [(O.tri (k x) (k y) (k v) hx hy (hrb v hv)).zp hxy]; exact yb v hv
    have ya : ∀ v ∈ a, c (k y) (k v) < 0 := fun v hv => by rw [← (O.tri (k x) (k y) (k v) hx hy (hra v hv)).zp hxy]; exact xa v hv
    refine Zxr (fun z hz u hu => ?_) (Zoy O a b hra hrb hs.2 ht.2)
    rcases Zsr hl hr hb hu with ⟨v, hv, e⟩ | ⟨v, hv, e⟩ <;> rcases hb x y z hz with e' | e' <;> rw [e, e']
    ·exact xa v hv
    ·exact ya v hv
    ·exact xb v hv
    ·exact yb v hv
termination_by a b => a.length + b.length
theorem Zkw (O : OrdL c P) {q : α} (hq : P q) : ∀ (a b : List γ), (∀ x ∈ a, P (k x)) → (∀ x ∈ b, P (k x)) → Srt c (a.map k) → Srt c (b.map k) → Zcs c k (mrg c k fl fr fb a b) q = Ypu fl fr fb (Zcs c k a q) (Zcs c k b q)
 | [], b, _, hP, _, hs => by
  rw [Zox, Zr5 hr q hs O hP hq, Zuc]
  unfold Ypu
  cases Zcs c k b q <;> rfl
 | x :: a, [], hP, _, hs, _ => by
  rw [Zkx, Zr5 hl q hs O hP hq, Zuc]
  unfold Ypu
  cases Zcs c k (x :: a) q <;> rfl
 | x :: a, y :: b, ha, hb', hs, ht => by
  have hs' := hs
  have ht' := ht
  rw [List.map_cons, Zek] at hs ht
  have hx := ha x (by simp)
  have hy := hb' y (by simp)
  have hra : ∀ z ∈ a, P (k z) := fun z hz => ha z (by simp [hz])
  have hrb : ∀ z ∈ b, P (k z) := fun z hz => hb' z (by simp [hz])
  have xa : ∀ z ∈ a, c (k x) (k z) < 0 := fun z hz => hs.1 _ (List.mem_map.2 ⟨z, hz, rfl⟩)
  have yb : ∀ z ∈ b, c (k y) (k z) < 0 := fun z hz => ht.1 _ (List.mem_map.2 ⟨z, hz, rfl⟩)
  have ne : ∀ {u v : α}, P u → P v → c u v < 0 → c u q = 0 → c v q ≠ 0 := fun {u v} hu hv h1 h2 h3 => by
   have h4 := (O.tri u v q hu hv hq).zq h3
   omega
  have na : c (k x) q = 0 → Zcs c k a q = none := fun h => Zgc fun z hz => ne hx (hra z hz) (xa z hz) h
  have nb : c (k y) q = 0 → Zcs c k b q = none := fun h => Zgc fun z hz => ne hy (hrb z hz) (yb z hz) h
  rw [Zkv]
  split
  ·rename_i h
   rw [Zkg (x := k x) fun z hz => by rw [hl x z hz], Zkw O hq a (y :: b) hra hb' hs.2 ht', Zdk x a]
   by_cases e : c (k x) q = 0
   ·have n2 : Zcs c k (y :: b) q = none := Zgc fun z hz => by
     rcases List.mem_cons.1 hz with rfl | hz
     ·exact ne hx hy h e
     ·exact ne hx (hrb z hz) (O.lt hx hy (hrb z hz) h (yb z hz)) e
    rw [if_pos e, if_pos e, na e, n2]
    show (fl x).or none = fl x
    cases fl x <;> rfl
   ·rw [if_neg e, if_neg e]
  ·split
   ·rename_i h0 h
    rw [Zkg (x := k y) fun z hz => by rw [hr y z hz], Zkw O hq (x :: a) b ha hrb hs' ht.2, Zdk y b]
    by_cases e : c (k y) q = 0
    ·have n2 : Zcs c k (x :: a) q = none := Zgc fun z hz => by
      rcases List.mem_cons.1 hz with rfl | hz
      ·exact ne hy hx h e
      ·exact ne hy (hra z hz) (O.lt hy hx (hra z hz) h (xa z hz)) e
     rw [if_pos e, if_pos e, nb e, n2]
     show (fr y).or none = fr y
     cases fr y <;> rfl
    ·rw [if_neg e, if_neg e]
   ·rename_i h0 h
    have hxy : c (k x) (k y) = 0 := by have := O.swp (k x) (k y) hx hy; omega
    have exy : c (k x) q = c (k y) q := (O.tri (k x) (k y) q hx hy hq).zp hxy
    rw [Zkg (x := k x) fun z hz => by rcases hb x y z hz with e | e <;> rw [e]; exact exy.symm, Zkw O hq a b hra hrb hs.2 ht.2, Zdk x a, Zdk y b, ← exy]
    by_cases e : c (k x) q = 0
    ·rw [if_pos e, if_pos e, if_pos e, na e, nb (by rw [← exy]; exact e)]
     show (fb x y).or none = fb x y
     cases fb x y <;> rfl
    ·rw [if_neg e, if_neg e, if_neg e]
termination_by a b => a.length + b.length
omit hl hr hb in
end
end Go.Proofs.YtgmahieoiifpfaaGreat
end
