import Derived.Test.YtlghpcokbppkfaaValL
import Derived.Test.YtlghpcokbppkfaaEqS
import Derived.Test.YtlghpcokbppkfaaPureGet
set_option linter.unusedVariables false
/- Equality of trees is equality of their plain values. -/
namespace Go.Proofs.Ytlghpcokbppkfaa
set_option linter.unusedSimpArgs false

theorem lkJ_getA : ∀ (m : List (ByteArray × JV)) (k : ByteArray), lkJ m k = getA m k
  | [], _ => rfl
  | x :: r, k => by unfold lkJ getA; rw [lkJ_getA r k]
theorem nodup_sub {α : Type} [DecidableEq α] : ∀ {a l : List α}, a.Nodup → (∀ x ∈ a, x ∈ l) → l.length ≤ a.length → ∀ x ∈ l, x ∈ a
  | a, l, hn, hs, hl, x, hx => by
    by_cases h : x ∈ a
    · exact h
    · have := nodup_len (a := x :: a) (l := l) (List.nodup_cons.2 ⟨h, hn⟩) (fun y hy => by
        rcases List.mem_cons.1 hy with rfl | hy
        · exact hx
        · exact hs y hy)
      simp at this; omega
theorem incr_ext {a b : List ByteArray} (ha : Incr a) (hb : Incr b) (h : ∀ k, k ∈ a ↔ k ∈ b) : a = b := by
  have hg1 : ∀ (l : List ByteArray) (k : ByteArray), k ∈ l → getA (l.map fun k => (k, ())) k = some () := by
    intro l k hk
    induction l with
    | nil => simp at hk
    | cons x r ih =>
      simp only [List.map_cons, getA]
      by_cases e : x = k
      · rw [if_pos e]
      · rw [if_neg e]
        rcases List.mem_cons.1 hk with h | h
        · exact absurd h.symm e
        · exact ih h
  have hg2 : ∀ (l : List ByteArray) (k : ByteArray), k ∉ l → getA (l.map fun k => (k, ())) k = none := by
    intro l k hk
    exact getA_none fun e he => by
      obtain ⟨x, hx, rfl⟩ := List.mem_map.1 he
      exact fun e => hk (e ▸ hx)
  have e1 : ∀ l : List ByteArray, (l.map fun k => (k, ())).map (·.1) = l := fun l => by
    induction l with
    | nil => rfl
    | cons x r ih => simp only [List.map_cons, ih]
  have := getA_ext (a := a.map fun k => (k, ())) (b := b.map fun k => (k, ())) (by rw [e1]; exact ha) (by rw [e1]; exact hb) (fun k => by
    by_cases hk : k ∈ a
    · rw [hg1 _ _ hk, hg1 _ _ ((h k).1 hk)]
    · rw [hg2 _ _ hk, hg2 _ _ (fun hb => hk ((h k).2 hb))])
  have := congrArg (List.map (·.1)) this
  rwa [e1, e1] at this
theorem incr_nd {ks : List ByteArray} (h : Incr ks) : ks.Nodup := List.Pairwise.imp (fun {a b} hab e => by subst e; rw [blt_irrefl] at hab; cases hab) h
theorem zip_idx {α : Type} {ks : List ByteArray} {l : List α} (hl : ks.length = l.length) (hi : Incr ks) {k : ByteArray} {x : α} : getA (ks.zip l) k = some x ↔ ∃ i : Nat, ks[i]? = some k ∧ l[i]? = some x := by
  constructor
  · intro h
    obtain ⟨i, hi'⟩ := List.getElem?_of_mem (getA_mem h)
    rw [List.getElem?_zip_eq_some] at hi'
    exact ⟨i, hi'⟩
  · rintro ⟨i, h1, h2⟩
    refine getA_of_mem (by rw [zip_fst hl]; exact incr_nd hi) ?_
    exact List.mem_of_getElem? (i := i) (List.getElem?_zip_eq_some.2 ⟨h1, h2⟩)
/-- A map's plain value: its keys and values. -/
theorem unM_form {m : List (ByteArray × JV)} (hd : (m.map (·.1)).Nodup) : ∃ ks l, unM m gMap = .mk 6 0 0 ByteArray.empty ks l ∧ Incr ks ∧ ks.length = l.length ∧ (∀ k, k ∈ ks ↔ k ∈ m.map (·.1)) ∧ ∀ k x, (∃ i : Nat, ks[i]? = some k ∧ l[i]? = some x) ↔ ∃ j, getA m k = some j ∧ unJ j = x := by
  obtain ⟨ks, l, e, hi, hl⟩ := unM_plain m gMap gMap_plain
  have hg : ∀ k, getA (ks.zip l) k = (getA m k).map unJ := fun k => by
    have := getF_unM m gMap gMap_plain hd k
    rw [getF_gMap, Option.or_none, e] at this
    exact this
  have key : ∀ k x, (∃ i : Nat, ks[i]? = some k ∧ l[i]? = some x) ↔ ∃ j, getA m k = some j ∧ unJ j = x := fun k x => by
    rw [← zip_idx hl hi, hg, Option.map_eq_some_iff]
  refine ⟨ks, l, e, hi, hl, fun k => ?_, key⟩
  constructor
  · intro hk
    obtain ⟨i, hi'⟩ := List.getElem?_of_mem hk
    have hlt := (List.getElem?_eq_some_iff.1 hi').1
    obtain ⟨j, hj, _⟩ := (key k l[i]).1 ⟨i, hi', List.getElem?_eq_getElem (hl ▸ hlt)⟩
    exact List.mem_map_of_mem (f := (·.1)) (getA_mem hj)
  · intro hk
    obtain ⟨y, hy, rfl⟩ := List.mem_map.1 hk
    obtain ⟨i, h1, _⟩ := (key y.1 (unJ y.2)).2 ⟨y.2, getA_of_mem hd hy, rfl⟩
    exact List.mem_of_getElem? h1
theorem eqP_mk {k n : Int} {f : Nat} {s : ByteArray} {ks : List ByteArray} {l : List GV} {k' n' : Int} {f' : Nat} {s' : ByteArray} {ks' : List ByteArray} {l' : List GV} (h : (isNum (.mk k n f s ks l) && isNum (.mk k' n' f' s' ks' l')) = false) :
    eqP (.mk k n f s ks l) (.mk k' n' f' s' ks' l') = (decide (k = k') && (decide (n = n') && (decide (s = s') && (decide (ks = ks') && eqPs l l')))) := by
  unfold eqP; rw [if_neg (by rw [h]; simp)]
theorem eq_list : ∀ (b a : List JV), (∀ y ∈ b, ∀ x, JOk x → JOk y → eqP (unJ x) (unJ y) = eqJ x y) → JOks a → JOks b → eqPs (unJs a) (unJs b) = eqJs a b
  | [], [], _, _, _ => by simp only [unJs, eqPs, eqJs]
  | [], _ :: _, _, _, _ => by simp only [unJs, eqPs, eqJs]
  | _ :: _, [], _, _, _ => by simp only [unJs, eqPs, eqJs]
  | y :: b, x :: a, ih, ha, hb => by
    simp only [JOks] at ha hb
    simp only [unJs, eqPs, eqJs]
    rw [ih y (by simp) x ha.1 hb.1, eq_list b a (fun z hz => ih z (by simp [hz])) ha.2 hb.2]
theorem eqJm_iff (m : List (ByteArray × JV)) : ∀ q : List (ByteArray × JV), eqJm m q = true ↔ ∀ y ∈ q, ∃ x, getA m y.1 = some x ∧ eqJ x y.2 = true
  | [] => by simp [eqJm]
  | y :: q => by
    unfold eqJm
    rw [Bool.and_eq_true, eqJm_iff m q, lkJ_getA]
    constructor
    · rintro ⟨h1, h2⟩ z hz
      rcases List.mem_cons.1 hz with rfl | hz
      · cases hg : getA m z.1 with
        | none => rw [hg] at h1; cases h1
        | some x => rw [hg] at h1; exact ⟨x, rfl, h1⟩
      · exact h2 z hz
    · intro h
      obtain ⟨x, hx, he⟩ := h y (by simp)
      exact ⟨by rw [hx]; exact he, fun z hz => h z (by simp [hz])⟩
theorem eq_map (m q : List (ByteArray × JV)) (ih : ∀ y ∈ q, ∀ x, JOk x → JOk y.2 → eqP (unJ x) (unJ y.2) = eqJ x y.2) (hm : JOk (.map m)) (hq : JOk (.map q)) : eqP (unJ (.map m)) (unJ (.map q)) = eqJ (.map m) (.map q) := by
  unfold JOk at hm hq
  obtain ⟨ks, l, e1, hi, hl, hk, hg⟩ := unM_form hm.1
  obtain ⟨ks', l', e2, hi', hl', hk', hg'⟩ := unM_form hq.1
  have hJm : ∀ {k j}, getA m k = some j → JOk j := fun h => JOkm_mem hm.2.2 _ (getA_mem h)
  have hJq : ∀ {k j}, getA q k = some j → JOk j := fun h => JOkm_mem hq.2.2 _ (getA_mem h)
  rw [show unJ (.map m) = unM m gMap by unfold unJ; rfl, show unJ (.map q) = unM q gMap by unfold unJ; rfl, e1, e2, eqP_mk (by simp [isNum, GV.kind]), show eqJ (.map m) (.map q) = (Nat.beq m.length q.length && eqJm m q) by unfold eqJ; rfl]
  simp only [decide_true, Bool.true_and]
  rw [Bool.eq_iff_iff]
  simp only [Bool.and_eq_true, decide_eq_true_eq, eqJm_iff]
  constructor
  · rintro ⟨rfl, h2⟩
    have hmm : ∀ k, k ∈ m.map (·.1) ↔ k ∈ q.map (·.1) := fun k => (hk k).symm.trans (hk' k)
    have l1 := nodup_len hm.1 (fun x hx => (hmm x).1 hx)
    have l2 := nodup_len hq.1 (fun x hx => (hmm x).2 hx)
    simp only [List.length_map] at l1 l2
    refine ⟨by rw [show m.length = q.length by omega]; simp, fun y hy => ?_⟩
    have hgy := getA_of_mem hq.1 (show (y.1, y.2) ∈ q from hy)
    obtain ⟨i, h3, h4⟩ := (hg' y.1 (unJ y.2)).2 ⟨y.2, hgy, rfl⟩
    have hlt := (List.getElem?_eq_some_iff.1 h3).1
    have h5 : l[i]? = some l[i] := List.getElem?_eq_getElem (hl ▸ hlt)
    obtain ⟨x, h6, h7⟩ := (hg y.1 l[i]).1 ⟨i, h3, h5⟩
    refine ⟨x, h6, ?_⟩
    rw [← ih y hy x (hJm h6) (hJq hgy), h7]
    exact eqPs_all h2 i _ _ h5 h4
  · rintro ⟨h1, h2⟩
    have hlen := Nat.eq_of_beq_eq_true h1
    have hsub : ∀ k ∈ q.map (·.1), k ∈ m.map (·.1) := fun k hk => by
      obtain ⟨y, hy, rfl⟩ := List.mem_map.1 hk
      obtain ⟨x, hx, _⟩ := h2 y hy
      exact List.mem_map_of_mem (f := (·.1)) (getA_mem hx)
    have hsub' := nodup_sub hq.1 hsub (by simp [hlen])
    have ek : ks = ks' := incr_ext hi hi' fun k => (hk k).trans ⟨fun h => (hk' k).2 (hsub' k h), fun h => hsub k ((hk' k).1 h)⟩
    subst ek
    refine ⟨rfl, eqPs_true (by omega) fun i x y hx hy => ?_⟩
    have hlt : i < ks.length := by rw [hl]; exact (List.getElem?_eq_some_iff.1 hx).1
    have hki : ks[i]? = some ks[i] := List.getElem?_eq_getElem hlt
    obtain ⟨x0, h3, rfl⟩ := (hg ks[i] x).1 ⟨i, hki, hx⟩
    obtain ⟨y0, h4, rfl⟩ := (hg' ks[i] y).1 ⟨i, hki, hy⟩
    obtain ⟨x1, h5, h6⟩ := h2 (ks[i], y0) (getA_mem h4)
    have h5 : getA m ks[i] = some x1 := h5
    rw [h3] at h5
    cases h5
    rw [ih (ks[i], y0) (getA_mem h4) x0 (hJm h3) (hJq h4)]
    exact h6
theorem eq_law : ∀ (k j : JV), JOk j → JOk k → eqP (unJ j) (unJ k) = eqJ j k
  | .list b, .list a, ha, hb => by
    unfold JOk at ha hb
    rw [show unJ (.list a) = .mk 5 0 0 ByteArray.empty [] (unJs a) by unfold unJ; rfl, show unJ (.list b) = .mk 5 0 0 ByteArray.empty [] (unJs b) by unfold unJ; rfl, eqP_mk (by simp [isNum, GV.kind]), show eqJ (.list a) (.list b) = eqJs a b by unfold eqJ; rfl]
    simp only [decide_true, Bool.true_and]
    exact eq_list b a (fun y hy x hx hy' => eq_law y x hx hy') ha.2 hb.2
  | .map q, .map m, ha, hb => eq_map m q (fun y hy x hx hy' => eq_law y.2 x hx hy') ha hb
  | .null, j, _, _ => by
    cases j <;> simp only [unJ, gNull, gv, eqJ]
    case map => rename_i m _h; obtain ⟨ks, l, e, _⟩ := unM_plain m gMap gMap_plain; rw [e, eqP_mk (by simp [isNum, GV.kind])]; simp
    all_goals (rw [eqP_mk (by simp [isNum, GV.kind])]; simp [eqPs])
  | .bool b, j, _, _ => by
    cases j <;> simp only [unJ, gNull, gv, eqJ]
    case map => rename_i m _h; obtain ⟨ks, l, e, _⟩ := unM_plain m gMap gMap_plain; rw [e, eqP_mk (by simp [isNum, GV.kind])]; simp
    case bool => rename_i a _h; rw [eqP_mk (by simp [isNum, GV.kind])]; cases a <;> cases b <;> simp [eqPs]
    all_goals (rw [eqP_mk (by simp [isNum, GV.kind])]; simp [eqPs])
  | .int n, j, _, _ => by
    cases j <;> simp only [unJ, gNull, gv, eqJ]
    case map => rename_i m _h; obtain ⟨ks, l, e, _⟩ := unM_plain m gMap gMap_plain; rw [e, eqP_mk (by simp [isNum, GV.kind])]; simp
    case int => simp [eqP, isNum, GV.kind]
    case flt => simp [eqP, isNum, GV.kind, asF, GV.n, GV.f]
    all_goals (rw [eqP_mk (by simp [isNum, GV.kind])]; simp [eqPs])
  | .flt n, j, _, _ => by
    cases j <;> simp only [unJ, gNull, gv, eqJ]
    case map => rename_i m _h; obtain ⟨ks, l, e, _⟩ := unM_plain m gMap gMap_plain; rw [e, eqP_mk (by simp [isNum, GV.kind])]; simp
    case int => simp [eqP, isNum, GV.kind, asF, GV.n, GV.f]
    case flt => simp [eqP, isNum, GV.kind, asF, GV.n, GV.f]
    all_goals (rw [eqP_mk (by simp [isNum, GV.kind])]; simp [eqPs])
  | .str n, j, _, _ => by
    cases j <;> simp only [unJ, gNull, gv, eqJ]
    case map => rename_i m _h; obtain ⟨ks, l, e, _⟩ := unM_plain m gMap gMap_plain; rw [e, eqP_mk (by simp [isNum, GV.kind])]; simp
    all_goals (rw [eqP_mk (by simp [isNum, GV.kind])]; simp [eqPs])
  | .list b, .null, _, _ => by simp only [unJ, gNull, gv, eqJ]; rw [eqP_mk (by simp [isNum, GV.kind])]; simp
  | .list b, .bool _, _, _ => by simp only [unJ, gNull, gv, eqJ]; rw [eqP_mk (by simp [isNum, GV.kind])]; simp
  | .list b, .int _, _, _ => by simp only [unJ, gNull, gv, eqJ]; rw [eqP_mk (by simp [isNum, GV.kind])]; simp
  | .list b, .flt _, _, _ => by simp only [unJ, gNull, gv, eqJ]; rw [eqP_mk (by simp [isNum, GV.kind])]; simp
  | .list b, .str _, _, _ => by simp only [unJ, gNull, gv, eqJ]; rw [eqP_mk (by simp [isNum, GV.kind])]; simp
  | .list b, .map m, _, _ => by simp only [unJ, gNull, gv, eqJ]; obtain ⟨ks, l, e, _⟩ := unM_plain m gMap gMap_plain; rw [e, eqP_mk (by simp [isNum, GV.kind])]; simp
  | .map q, .null, _, _ => by simp only [unJ, gNull, gv, eqJ]; obtain ⟨ks, l, e, _⟩ := unM_plain q gMap gMap_plain; rw [e, eqP_mk (by simp [isNum, GV.kind])]; simp
  | .map q, .bool _, _, _ => by simp only [unJ, gNull, gv, eqJ]; obtain ⟨ks, l, e, _⟩ := unM_plain q gMap gMap_plain; rw [e, eqP_mk (by simp [isNum, GV.kind])]; simp
  | .map q, .int _, _, _ => by simp only [unJ, gNull, gv, eqJ]; obtain ⟨ks, l, e, _⟩ := unM_plain q gMap gMap_plain; rw [e, eqP_mk (by simp [isNum, GV.kind])]; simp
  | .map q, .flt _, _, _ => by simp only [unJ, gNull, gv, eqJ]; obtain ⟨ks, l, e, _⟩ := unM_plain q gMap gMap_plain; rw [e, eqP_mk (by simp [isNum, GV.kind])]; simp
  | .map q, .str _, _, _ => by simp only [unJ, gNull, gv, eqJ]; obtain ⟨ks, l, e, _⟩ := unM_plain q gMap gMap_plain; rw [e, eqP_mk (by simp [isNum, GV.kind])]; simp
  | .map q, .list _, _, _ => by simp only [unJ, gNull, gv, eqJ]; obtain ⟨ks, l, e, _⟩ := unM_plain q gMap gMap_plain; rw [e, eqP_mk (by simp [isNum, GV.kind])]; simp
termination_by k => SizeOf.sizeOf k
decreasing_by
  all_goals simp_wf
  · have := List.sizeOf_lt_of_mem hy; omega
  · have := List.sizeOf_lt_of_mem hy
    obtain ⟨y1, y2⟩ := y
    simp at this ⊢
    omega
end Go.Proofs.Ytlghpcokbppkfaa
