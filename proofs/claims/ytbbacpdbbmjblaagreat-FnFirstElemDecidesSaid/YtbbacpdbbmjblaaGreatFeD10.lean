/- Part 10 of what the proof rests on. -/
import Derived.Test.YtbbacpdbbmjblaaGreatFeD3
import Derived.Test.YtbbacpdbbmjblaaGreatFeD4
import Derived.Test.YtbbacpdbbmjblaaGreatFeD5
import Derived.Test.YtbbacpdbbmjblaaGreatFeD6
import Derived.Test.YtbbacpdbbmjblaaGreatFeD7
import Derived.Test.YtbbacpdbbmjblaaGreatFeD8
import Derived.Test.YtbbacpdbbmjblaaGreatFeD9
section
set_option linter.unusedVariables false
namespace Go.Proofs.YtbbacpdbbmjblaaGreat
set_option linter.unusedSimpArgs false
theorem eqPs_iff : ∀ {a b : List GV}, (∀ x ∈ a, ∀ y ∈ b, eqP x y = true ↔ cmpP x y = 0) → (eqPs a b = true ↔ cmpPl a b = 0)
  | [], [], _ => by rw [cmpPl_nil]; unfold eqPs; simp [cmpI]
  | [], y :: b, _ => by rw [cmpPl_nil, cmpI_lt (by first | (simp; done) | (simp; omega))]; unfold eqPs; simp
  | x :: a, [], _ => by rw [cmpPl_nil', cmpI_gt (by first | (simp; done) | (simp; omega))]; unfold eqPs; simp
  | x :: a, y :: b, h => by
    rw [cmpPl_cons, lx_is_zero, ← eqPs_iff (a := a) (b := b) (fun x hx y hy => h x (by simp [hx]) y (by simp [hy])), ← h x (by simp) y (by simp)]
    simp only [eqPs, Bool.and_eq_true]
theorem cmpPm_zero : ∀ {ks : List ByteArray} {a : List GV} {ks' : List ByteArray} {b : List GV}, ks.length = a.length → ks'.length = b.length → (cmpPm ks a ks' b = 0 ↔ ks = ks' ∧ cmpPl a b = 0)
  | [], a, [], b, h, h' => by
    have e1 : a = [] := List.eq_nil_of_length_eq_zero h.symm
    have e2 : b = [] := List.eq_nil_of_length_eq_zero h'.symm
    subst e1 e2
    rw [cmpPm_nil, cmpPl_nil]
    simp [cmpI]
  | [], a, k' :: ks', b, h, h' => by
    rw [cmpPm_nil, cmpI_lt (by first | (simp; done) | (simp; omega))]
    simp
  | k :: ks, a, [], b, h, h' => by
    rw [cmpPm_nil', cmpI_gt (by first | (simp; done) | (simp; omega))]
    simp
  | k :: ks, x :: a, k' :: ks', y :: b, h, h' => by
    rw [cmpPm_cons, cmpPl_cons, lx_is_zero, lx_is_zero, lx_is_zero, cmpS_zero, cmpPm_zero (by simpa using h) (by simpa using h')]
    simp only [List.cons.injEq]
    constructor
    · rintro ⟨h1, h2, h3, h4⟩; exact ⟨⟨h1, h3⟩, h2, h4⟩
    · rintro ⟨⟨h1, h3⟩, h2, h4⟩; exact ⟨h1, h2, h3, h4⟩
  | _ :: _, [], _, _, h, _ => by simp at h
  | _ :: _, _ :: _, _ :: _, [], _, h' => by simp at h'
theorem isNum_mk (k n : Int) (f : Nat) (s : ByteArray) (ks : List ByteArray) (l : List GV) : isNum (.mk k n f s ks l) = (decide (k = 2) || decide (k = 3)) := rfl
theorem eqP_nums {x y : GV} (h : (isNum x && isNum y) = true) : eqP x y = (if x.kind = 2 ∧ y.kind = 2 then decide (x.n = y.n) else feq (asF x) (asF y)) := by
  cases x; cases y
  simp only [eqP]
  rw [if_pos h]
  rfl
theorem eqP_not {x y : GV} (h : (isNum x && isNum y) = false) : eqP x y = (decide (x.kind = y.kind) && (decide (x.n = y.n) && (decide (x.s = y.s) && (decide (x.keys = y.keys) && eqPs x.l y.l)))) := by
  cases x; cases y
  simp only [eqP]
  rw [if_neg (by rw [h]; simp)]
  rfl
theorem OG.kind_of {x : GV} (h : OG x) : (rankV x = 0 ∧ isNum x = true) ∨ (rankV x = 1 ∧ x.kind = 4 ∧ x.n = 0 ∧ x.keys = [] ∧ x.l = []) ∨ (rankV x = 2 ∧ x.kind = 1 ∧ x.s = ByteArray.empty ∧ x.keys = [] ∧ x.l = [])
    ∨ (rankV x = 3 ∧ x.kind = 5 ∧ x.n = 0 ∧ x.s = ByteArray.empty ∧ x.keys = []) ∨ (rankV x = 4 ∧ x.kind = 6 ∧ x.n = 0 ∧ x.s = ByteArray.empty) ∨ (rankV x = 5 ∧ x.kind = 0 ∧ x.n = 0 ∧ x.s = ByteArray.empty ∧ x.keys = [] ∧ x.l = []) := by
  obtain ⟨k, n, f, s, ks, l⟩ := x
  unfold OG at h
  obtain ⟨_, h⟩ := h
  rw [rank_mk, isNum_mk]
  rcases h with h | h | h | h | h | h | h <;> obtain ⟨rfl, h⟩ := h
  · exact .inr (.inr (.inr (.inr (.inr ⟨rfl, rfl, h⟩))))
  · exact .inr (.inr (.inl ⟨rfl, rfl, h⟩))
  · exact .inl ⟨rfl, rfl⟩
  · exact .inl ⟨rfl, rfl⟩
  · exact .inr (.inl ⟨rfl, rfl, h⟩)
  · exact .inr (.inr (.inr (.inl ⟨rfl, rfl, h⟩)))
  · exact .inr (.inr (.inr (.inr (.inl ⟨rfl, rfl, h.1, h.2.1⟩))))
theorem rank_num {x : GV} (h : isNum x = true) : rankV x = 0 := by
  cases x
  rw [isNum_mk] at h
  rw [rank_mk]
  simp at h
  rcases h with h | h <;> simp [h]
theorem eqP_iff (x y : GV) (hx : OG x) (hy : OG y) : eqP x y = true ↔ cmpP x y = 0 := by
  induction hk : SizeOf.sizeOf x using Nat.strongRecOn generalizing x y with
  | _ n IH =>
  subst hk
  rw [cmpP_lx, lx_is_zero, cmpI_zero]
  have ih : eqPs x.l y.l = true ↔ cmpPl x.l y.l = 0 := eqPs_iff fun a ha b hb => IH _ (sz_l ha) a b (hx.subs a ha) (hy.subs b hb) rfl
  cases hn : isNum x && isNum y with
  | true =>
    have hn' := hn
    simp only [Bool.and_eq_true] at hn'
    have r1 := rank_num hn'.1
    have r2 := rank_num hn'.2
    rw [eqP_nums hn, r1, r2]
    unfold bodyP
    rw [if_pos rfl]
    obtain ⟨_, _, a2, _⟩ := hx.num r1
    obtain ⟨_, _, b2, _⟩ := hy.num r2
    unfold cmpNu
    by_cases h : x.kind = 2 ∧ y.kind = 2
    · rw [if_pos h, if_pos h, cmpI_zero]
      simp
    · rw [if_neg h, if_neg h, feq_zero a2 b2]
      simp
  | false =>
    rw [eqP_not hn]
    simp only [Bool.and_eq_true, decide_eq_true_eq]
    by_cases hr : rankV x = rankV y
    · have key := hx.kind_of
      have key' := hy.kind_of
      rw [← hr] at key'
      rw [← hr]
      rcases key with ⟨h, h1⟩ | ⟨h, h1⟩ | ⟨h, h1⟩ | ⟨h, h1⟩ | ⟨h, h1⟩ | ⟨h, h1⟩
      · rw [h1] at hn
        have : isNum y = true := by
          rcases key' with ⟨h', h2⟩ | ⟨h', h2⟩ | ⟨h', h2⟩ | ⟨h', h2⟩ | ⟨h', h2⟩ | ⟨h', h2⟩
          · exact h2
          all_goals omega
        rw [this] at hn; cases hn
      all_goals
        rw [h] at key' ⊢
        unfold bodyP
        simp (config := { decide := true }) only [if_false, if_true]
      · obtain ⟨a1, a2, a3, a4⟩ := h1
        obtain ⟨b1, b2, b3, b4⟩ : y.kind = 4 ∧ y.n = 0 ∧ y.keys = [] ∧ y.l = [] := by
          rcases key' with ⟨h', h2⟩ | ⟨h', h2⟩ | ⟨h', h2⟩ | ⟨h', h2⟩ | ⟨h', h2⟩ | ⟨h', h2⟩ <;> first | exact h2 | omega
        rw [a1, a2, a3, a4, b1, b2, b3, b4, cmpS_zero]
        simp [eqPs]
      · obtain ⟨a1, a2, a3, a4⟩ := h1
        obtain ⟨b1, b2, b3, b4⟩ : y.kind = 1 ∧ y.s = ByteArray.empty ∧ y.keys = [] ∧ y.l = [] := by
          rcases key' with ⟨h', h2⟩ | ⟨h', h2⟩ | ⟨h', h2⟩ | ⟨h', h2⟩ | ⟨h', h2⟩ | ⟨h', h2⟩ <;> first | exact h2 | omega
        rw [a1, a2, a3, a4, b1, b2, b3, b4, cmpI_zero]
        simp [eqPs]
      · obtain ⟨a1, a2, a3, a4⟩ := h1
        obtain ⟨b1, b2, b3, b4⟩ : y.kind = 5 ∧ y.n = 0 ∧ y.s = ByteArray.empty ∧ y.keys = [] := by
          rcases key' with ⟨h', h2⟩ | ⟨h', h2⟩ | ⟨h', h2⟩ | ⟨h', h2⟩ | ⟨h', h2⟩ | ⟨h', h2⟩ <;> first | exact h2 | omega
        rw [a1, a2, a3, a4, b1, b2, b3, b4, ih]
        simp
      · obtain ⟨a1, a2, a3⟩ := h1
        obtain ⟨b1, b2, b3⟩ : y.kind = 6 ∧ y.n = 0 ∧ y.s = ByteArray.empty := by
          rcases key' with ⟨h', h2⟩ | ⟨h', h2⟩ | ⟨h', h2⟩ | ⟨h', h2⟩ | ⟨h', h2⟩ | ⟨h', h2⟩ <;> first | exact h2 | omega
        rw [a1, a2, a3, b1, b2, b3, ih, cmpPm_zero (hx.keys h).1 (hy.keys (hr ▸ h)).1]
        simp
      · obtain ⟨a1, a2, a3, a4, a5⟩ := h1
        obtain ⟨b1, b2, b3, b4, b5⟩ : y.kind = 0 ∧ y.n = 0 ∧ y.s = ByteArray.empty ∧ y.keys = [] ∧ y.l = [] := by
          rcases key' with ⟨h', h2⟩ | ⟨h', h2⟩ | ⟨h', h2⟩ | ⟨h', h2⟩ | ⟨h', h2⟩ | ⟨h', h2⟩ <;> first | exact h2 | omega
        rw [a1, a2, a3, a4, a5, b1, b2, b3, b4, b5]
        simp [eqPs]
    · constructor
      · rintro ⟨h, _⟩
        exfalso
        apply hr
        unfold rankV
        rw [h]
      · rintro ⟨h, _⟩; exact absurd h hr
theorem OG_un : ∀ j : JV, JOk j → ordV (unJ j) = true → OG (unJ j) := by
  intro j
  induction hk : SizeOf.sizeOf j using Nat.strongRecOn generalizing j with
  | _ n IH =>
  subst hk
  intro hj ho
  cases j with
  | list l =>
    unfold JOk at hj
    rw [show unJ (.list l) = .mk 5 0 0 ByteArray.empty [] (unJs l) by unfold unJ; rfl] at ho ⊢
    unfold OG
    have ho : ordL (unJs l) = true := by unfold ordV at ho; exact ho
    refine ⟨?_, .inr (.inr (.inr (.inr (.inr (.inl ⟨rfl, rfl, rfl, rfl⟩)))))⟩
    have : ∀ (r : List JV), (∀ y ∈ r, y ∈ l) → JOks r → ordL (unJs r) = true → OGs (unJs r) := by
      intro r
      induction r with
      | nil => intro _ _ _; simp only [unJs, OGs]
      | cons x r ih =>
        intro h hr hor
        simp only [JOks] at hr
        simp only [unJs, ordL, Bool.and_eq_true] at hor
        simp only [unJs, OGs]
        exact ⟨IH (SizeOf.sizeOf x) (by have := List.sizeOf_lt_of_mem (h x (by simp)); simp; omega) x rfl hr.1 hor.1, ih (fun y hy => h y (by simp [hy])) hr.2 hor.2⟩
    exact this l (fun _ h => h) hj.2 ho
  | map m =>
    unfold JOk at hj
    obtain ⟨ks, l, e, hi, hl, hk, hg⟩ := unM_form hj.1
    rw [show unJ (.map m) = unM m gMap by unfold unJ; rfl, e] at ho ⊢
    unfold OG
    have ho : ordL l = true := by unfold ordV at ho; exact ho
    refine ⟨?_, .inr (.inr (.inr (.inr (.inr (.inr ⟨rfl, rfl, rfl, hi, hl⟩)))))⟩
    refine OGs_of fun x hx => ?_
    have hox := ordL_iff.1 ho x hx
    obtain ⟨i, hi⟩ := List.getElem?_of_mem hx
    have hil := (List.getElem?_eq_some_iff.1 hi).1
    obtain ⟨k, hkk⟩ : ∃ k, ks[i]? = some k := ⟨_, List.getElem?_eq_getElem (by omega)⟩
    obtain ⟨j, hj1, hj2⟩ := (hg k x).1 ⟨i, hkk, hi⟩
    rw [← hj2] at hox ⊢
    have hm := getA_mem hj1
    refine IH (SizeOf.sizeOf j) ?_ j rfl (JOkm_mem hj.2.2 _ hm) hox
    have := List.sizeOf_lt_of_mem hm
    simp at this ⊢
    omega
  | null => rw [show unJ .null = .mk 0 0 0 ByteArray.empty [] [] by unfold unJ; rfl]; unfold OG; exact ⟨by simp only [OGs], .inl ⟨rfl, rfl, rfl, rfl, rfl⟩⟩
  | bool b => rw [show unJ (.bool b) = .mk 1 (if b then 1 else 0) 0 ByteArray.empty [] [] by unfold unJ; rfl]; unfold OG; exact ⟨by simp only [OGs], .inr (.inl ⟨rfl, rfl, rfl, rfl⟩)⟩
  | int b =>
    rw [show unJ (.int b) = .mk 2 b 0 ByteArray.empty [] [] by unfold unJ; rfl] at ho ⊢
    unfold OG
    have ho : (decide (-9007199254740992 ≤ b) && decide (b ≤ 9007199254740992)) = true := by unfold ordV at ho; exact ho
    simp only [Bool.and_eq_true, decide_eq_true_eq] at ho
    exact ⟨by simp only [OGs], .inr (.inr (.inl ⟨rfl, ho.1, ho.2⟩))⟩
  | flt b =>
    rw [show unJ (.flt b) = .mk 3 0 b ByteArray.empty [] [] by unfold unJ; rfl] at ho ⊢
    unfold OG
    have ho : feq b b = true := by unfold ordV at ho; exact ho
    exact ⟨by simp only [OGs], .inr (.inr (.inr (.inl ⟨rfl, ho⟩)))⟩
  | str b => rw [show unJ (.str b) = .mk 4 0 0 b [] [] by unfold unJ; rfl]; unfold OG; exact ⟨by simp only [OGs], .inr (.inr (.inr (.inr (.inl ⟨rfl, rfl, rfl, rfl⟩))))⟩
end Go.Proofs.YtbbacpdbbmjblaaGreat
end
section
set_option linter.unusedVariables false
namespace Go.Proofs.YtbbacpdbbmjblaaGreat
set_option linter.unusedSimpArgs false
theorem cmpFs_eq (a b : Nat) : cmpFs a b = cmpF a b := by
  unfold cmpFs cmpF
  cases FloatKind.f64.format.order a b with
  | none => rfl
  | some o => cases o <;> rfl
theorem cmpS_lt {a b : ByteArray} (h : blt a b = true) : cmpS a b = -1 := by unfold cmpS; rw [if_pos h]
theorem cmpS_gt {a b : ByteArray} (h : blt b a = true) : cmpS a b = 1 := by unfold cmpS; rw [if_neg (by rw [blt_asymm h]; simp), if_pos h]
theorem cmpS_self (a : ByteArray) : cmpS a a = 0 := by unfold cmpS; rw [if_neg (by rw [blt_irrefl]; simp), if_neg (by rw [blt_irrefl]; simp)]
theorem incr_head {u : ByteArray} {U : List ByteArray} (h : Incr (u :: U)) : (∀ b ∈ U, blt u b = true) ∧ Incr U := List.pairwise_cons.1 h
theorem cmp_map : ∀ (ks : List ByteArray) (l : List GV) (ks' : List ByteArray) (l' : List GV) (U : List ByteArray) (i : Nat) (m q : List (ByteArray × JV)), Incr ks → Incr ks' → Incr U → (∀ k, k ∈ U ↔ k ∈ ks ∨ k ∈ ks') → ks.length = l.length → ks'.length = l'.length → i + ks.length = m.length → i + ks'.length = q.length →
    (∀ k ∈ U, ∀ z, getA (ks.zip l) k = some z ↔ ∃ x, lkJ m k = some x ∧ unJ x = z) → (∀ k ∈ U, ∀ z, getA (ks'.zip l') k = some z ↔ ∃ x, lkJ q k = some x ∧ unJ x = z) →
    (∀ k x y, lkJ m k = some x → lkJ q k = some y → cmpP (unJ x) (unJ y) = cmpJ x y) → cmpPm ks l ks' l' = cmpKs cmpJ m q i U
  | [], l, [], l', U, i, m, q, _, _, _, hU, _, _, _, _, _, _, _ => by
    have : U = [] := List.eq_nil_iff_forall_not_mem.2 fun k hk => by simpa using (hU k).1 hk
    subst this
    simp only [cmpPm, cmpKs]; rfl
  | [], l, b :: r', l', U, i, m, q, _, _, _, hU, _, _, hm, hq, _, _, _ => by
    cases U with
    | nil => have := (hU b).2 (by simp); simp at this
    | cons u U =>
      simp only [cmpPm, cmpKs]
      have e : stepC cmpJ m q i u = -1 := by unfold stepC; rw [if_pos (by simpa using hm)]
      rw [e, if_neg (by decide)]
      unfold cmpI
      first | (simp; done) | (simp; omega)
  | a :: r, l, [], l', U, i, m, q, _, _, _, hU, hl, _, hm, hq, _, _, _ => by
    cases U with
    | nil => have := (hU a).2 (by simp); simp at this
    | cons u U =>
      have e : stepC cmpJ m q i u = 1 := by
        unfold stepC
        simp at hm hq
        rw [if_neg (by omega), if_pos (by omega)]
      cases l <;> simp only [cmpPm, cmpKs] <;> rw [e, if_neg (by decide)] <;> unfold cmpI <;> first | (simp; done) | (simp; omega)
  | a :: r, [], b :: r', l', U, i, m, q, _, _, _, _, hl, _, _, _, _, _, _ => by simp at hl
  | a :: r, _ :: _, b :: r', [], U, i, m, q, _, _, _, _, _, hl', _, _, _, _, _ => by simp at hl'
  | a :: r, z :: l, b :: r', z' :: l', U, i, m, q, h1, h2, h3, hU, hl, hl', hm, hq, hv, hv', ih => by
    obtain ⟨h1a, h1b⟩ := incr_head h1
    obtain ⟨h2a, h2b⟩ := incr_head h2
    cases U with
    | nil => have := (hU a).2 (by simp); simp at this
    | cons u U =>
      obtain ⟨h3a, h3b⟩ := incr_head h3
      have him : i ≠ m.length := by simp at hm; omega
      have hiq : i ≠ q.length := by simp at hq; omega
      have hua : u = a ∨ blt u a = true := by
        rcases List.mem_cons.1 ((hU a).2 (by simp)) with h | h
        · exact .inl h.symm
        · exact .inr (h3a a h)
      have hub : u = b ∨ blt u b = true := by
        rcases List.mem_cons.1 ((hU b).2 (by simp)) with h | h
        · exact .inl h.symm
        · exact .inr (h3a b h)
      have hu := (hU u).1 (by simp)
      have none_m : ∀ k, k ∉ a :: r → k ∈ u :: U → lkJ m k = none := by
        intro k hk hkU
        cases h : lkJ m k with
        | none => rfl
        | some x =>
          have := (hv k hkU (unJ x)).2 ⟨x, h, rfl⟩
          exact absurd (List.of_mem_zip (a := k) (b := unJ x) (getA_mem this)).1 hk
      have none_q : ∀ k, k ∉ b :: r' → k ∈ u :: U → lkJ q k = none := by
        intro k hk hkU
        cases h : lkJ q k with
        | none => rfl
        | some x =>
          have := (hv' k hkU (unJ x)).2 ⟨x, h, rfl⟩
          exact absurd (List.of_mem_zip (a := k) (b := unJ x) (getA_mem this)).1 hk
      have hcmp : cmpPm (a :: r) (z :: l) (b :: r') (z' :: l') = if cmpS a b ≠ 0 then cmpS a b else if cmpP z z' ≠ 0 then cmpP z z' else cmpPm r l r' l' := by simp only [cmpPm]
      rw [hcmp]
      simp only [cmpKs]
      cases hab : blt a b with
      | true =>
        have e : u = a := by
          rcases hu with h | h
          · rcases List.mem_cons.1 h with h | h
            · exact h
            · rcases hua with e | e
              · exact e
              · have := h1a u h; rw [blt_asymm this] at e; cases e
          · exfalso
            have hbu : blt a u = true := by
              rcases List.mem_cons.1 h with h | h
              · rw [h]; exact hab
              · exact blt_trans hab (h2a u h)
            rcases hua with e | e
            · rw [e, blt_irrefl] at hbu; cases hbu
            · rw [blt_asymm hbu] at e; cases e
        subst e
        obtain ⟨x, hx, _⟩ := (hv u (by simp) z).1 (by simp [getA])
        have hn := none_q u (fun h => by
          rcases List.mem_cons.1 h with h | h
          · rw [h, blt_irrefl] at hab; cases hab
          · have := blt_trans hab (h2a u h); rw [blt_irrefl] at this; cases this) (by simp)
        have e : stepC cmpJ m q i u = -1 := by unfold stepC; rw [if_neg him, if_neg hiq, hx, hn]
        rw [cmpS_lt hab, if_pos (by decide), e, if_neg (by decide)]
      | false =>
        cases hba : blt b a with
        | true =>
          have e : u = b := by
            rcases hu with h | h
            · exfalso
              have hbu : blt b u = true := by
                rcases List.mem_cons.1 h with h | h
                · rw [h]; exact hba
                · exact blt_trans hba (h1a u h)
              rcases hub with e | e
              · rw [e, blt_irrefl] at hbu; cases hbu
              · rw [blt_asymm hbu] at e; cases e
            · rcases List.mem_cons.1 h with h | h
              · exact h
              · rcases hub with e | e
                · exact e
                · have := h2a u h; rw [blt_asymm this] at e; cases e
          subst e
          have hn := none_m u (fun h => by
            rcases List.mem_cons.1 h with h | h
            · rw [h, blt_irrefl] at hba; cases hba
            · have := blt_trans hba (h1a u h); rw [blt_irrefl] at this; cases this) (by simp)
          have e : stepC cmpJ m q i u = 1 := by unfold stepC; rw [if_neg him, if_neg hiq, hn]
          rw [cmpS_gt hba, if_pos (by decide), e, if_neg (by decide)]
        | false =>
          have e0 : a = b := blt_total hab hba
          subst e0
          have e : u = a := by
            rcases hua with e | e
            · exact e
            · exfalso
              rcases hu with h | h
              · rcases List.mem_cons.1 h with h | h
                · rw [h, blt_irrefl] at e; cases e
                · have := h1a u h; rw [blt_asymm this] at e; cases e
              · rcases List.mem_cons.1 h with h | h
                · rw [h, blt_irrefl] at e; cases e
                · have := h2a u h; rw [blt_asymm this] at e; cases e
          subst e
          obtain ⟨x, hx, ex⟩ := (hv u (by simp) z).1 (by simp [getA])
          obtain ⟨y, hy, ey⟩ := (hv' u (by simp) z').1 (by simp [getA])
          have e : stepC cmpJ m q i u = cmpJ x y := by unfold stepC; rw [if_neg him, if_neg hiq, hx, hy]
          have e2 : cmpP z z' = cmpJ x y := by rw [← ex, ← ey]; exact ih u x y hx hy
          rw [cmpS_self, if_neg (by simp), e, e2]
          by_cases hc : cmpJ x y = 0
          · rw [if_neg (by simp [hc]), if_pos hc]
            have hne : ∀ k ∈ U, u ≠ k := fun k hk e => by have := h3a k hk; rw [← e, blt_irrefl] at this; cases this
            refine cmp_map r l r' l' U (i + 1) m q h1b h2b h3b (fun k => ⟨fun hk => ?_, fun hk => ?_⟩) (by simpa using hl) (by simpa using hl') (by simp at hm; omega) (by simp at hq; omega) (fun k hk w => ?_) (fun k hk w => ?_) ih
            · rcases (hU k).1 (by simp [hk]) with h | h
              · rcases List.mem_cons.1 h with h | h
                · exact absurd h.symm (hne k hk)
                · exact .inl h
              · rcases List.mem_cons.1 h with h | h
                · exact absurd h.symm (hne k hk)
                · exact .inr h
            · have hmem : k ∈ u :: U := (hU k).2 (hk.imp (by simp_all) (by simp_all))
              rcases List.mem_cons.1 hmem with h | h
              · exfalso
                subst h
                rcases hk with hk | hk
                · have := h1a k hk; rw [blt_irrefl] at this; cases this
                · have := h2a k hk; rw [blt_irrefl] at this; cases this
              · exact h
            · have := hv k (by simp [hk]) w
              simp only [List.zip_cons_cons, getA, if_neg (hne k hk)] at this
              exact this
            · have := hv' k (by simp [hk]) w
              simp only [List.zip_cons_cons, getA, if_neg (hne k hk)] at this
              exact this
          · rw [if_pos hc, if_neg hc]
theorem cmp_list : ∀ (b a : List JV), (∀ y ∈ b, ∀ x, JOk x → JOk y → cmpP (unJ x) (unJ y) = cmpJ x y) → JOks a → JOks b → cmpPl (unJs a) (unJs b) = cmpLs cmpJ a b
  | [], [], _, _, _ => by simp only [unJs, cmpPl, cmpLs]; rfl
  | [], x :: a, _, _, _ => by
    simp only [unJs, cmpPl, cmpLs]
    unfold cmpI
    first | (simp; done) | (simp; omega)
  | y :: b, [], _, _, _ => by
    simp only [unJs, cmpPl, cmpLs]
    unfold cmpI
    first | (simp; done) | (simp; omega)
  | y :: b, x :: a, ih, ha, hb => by
    simp only [JOks] at ha hb
    simp only [unJs, cmpPl, cmpLs]
    rw [ih y (by simp) x ha.1 hb.1, cmp_list b a (fun z hz => ih z (by simp [hz])) ha.2 hb.2]
    by_cases h : cmpJ x y = 0
    · rw [if_neg (by simp [h]), if_pos h]
    · rw [if_pos h, if_neg h]
theorem rank_un (j : JV) : rankV (unJ j) = (rankJ j : Int) := by
  cases j
  case map m =>
    obtain ⟨ks, l, e, _⟩ := unM_plain m gMap gMap_plain
    rw [show unJ (.map m) = unM m gMap by unfold unJ; rfl, e]; rfl
  all_goals (unfold unJ; rfl)
theorem cmpP_diff {x y : GV} (h : cmpI (rankV x) (rankV y) ≠ 0) : cmpP x y = cmpI (rankV x) (rankV y) := by
  cases x; cases y
  simp only [cmpP]
  rw [if_pos h]
theorem cmpJ_diff {j k : JV} (h : rankJ j ≠ rankJ k) : cmpJ j k = if rankJ j < rankJ k then -1 else 1 := by
  cases j <;> cases k <;> first | exact absurd rfl h | (unfold cmpJ; rfl) | (simp only [cmpJ])
theorem cmpP_0 {k n : Int} {f : Nat} {s : ByteArray} {ks : List ByteArray} {l : List GV} {k' n' : Int} {f' : Nat} {s' : ByteArray} {ks' : List ByteArray} {l' : List GV} (r : Int) (h : rankV (.mk k n f s ks l) = r) (h' : rankV (.mk k' n' f' s' ks' l') = r) :
    cmpP (.mk k n f s ks l) (.mk k' n' f' s' ks' l') = if r = 0 then (if k = 2 ∧ k' = 2 then cmpI n n' else cmpFs (asF (.mk k n f s ks l)) (asF (.mk k' n' f' s' ks' l'))) else if r = 1 then cmpS s s' else if r = 2 then cmpI n n' else if r = 3 then cmpPl l l' else if r = 4 then cmpPm ks l ks' l' else 0 := by
  simp only [cmpP]
  rw [h, h', if_neg (by unfold cmpI; simp)]
theorem cmp_law : ∀ (k j : JV), JOk j → JOk k → cmpP (unJ j) (unJ k) = cmpJ j k := by
  intro k
  induction hk : SizeOf.sizeOf k using Nat.strongRecOn generalizing k with
  | _ n IH =>
  subst hk
  intro j hj hok
  by_cases hr : rankJ j = rankJ k
  rotate_left
  · have h1 := rank_un j
    have h2 := rank_un k
    have h3 : cmpI (rankV (unJ j)) (rankV (unJ k)) = if rankJ j < rankJ k then -1 else 1 := by
      rw [h1, h2]
      unfold cmpI
      by_cases h : rankJ j < rankJ k
      · rw [if_pos (by omega), if_pos h]
      · rw [if_neg (by omega), if_pos (by omega), if_neg h]
    rw [cmpJ_diff hr, ← h3]
    exact cmpP_diff (by rw [h3]; split <;> decide)
  cases j <;> cases k <;> first | (exfalso; simp [rankJ] at hr; done) | skip
  case null.null => rw [show unJ .null = .mk 0 0 0 ByteArray.empty [] [] by unfold unJ; rfl, cmpP_0 5 rfl rfl]; unfold cmpJ; rfl
  case bool.bool a b => rw [show unJ (.bool a) = .mk 1 (if a then 1 else 0) 0 ByteArray.empty [] [] by unfold unJ; rfl, show unJ (.bool b) = .mk 1 (if b then 1 else 0) 0 ByteArray.empty [] [] by unfold unJ; rfl, cmpP_0 2 rfl rfl]; unfold cmpJ; cases a <;> cases b <;> rfl
  case int.int a b => rw [show unJ (.int a) = .mk 2 a 0 ByteArray.empty [] [] by unfold unJ; rfl, show unJ (.int b) = .mk 2 b 0 ByteArray.empty [] [] by unfold unJ; rfl, cmpP_0 0 rfl rfl, if_pos rfl, if_pos ⟨rfl, rfl⟩]; unfold cmpJ; rfl
  case int.flt a b => rw [show unJ (.int a) = .mk 2 a 0 ByteArray.empty [] [] by unfold unJ; rfl, show unJ (.flt b) = .mk 3 0 b ByteArray.empty [] [] by unfold unJ; rfl, cmpP_0 0 rfl rfl, if_pos rfl, if_neg (by decide), cmpFs_eq]; unfold cmpJ; rfl
  case flt.int a b => rw [show unJ (.int b) = .mk 2 b 0 ByteArray.empty [] [] by unfold unJ; rfl, show unJ (.flt a) = .mk 3 0 a ByteArray.empty [] [] by unfold unJ; rfl, cmpP_0 0 rfl rfl, if_pos rfl, if_neg (by decide), cmpFs_eq]; unfold cmpJ; rfl
  case flt.flt a b => rw [show unJ (.flt a) = .mk 3 0 a ByteArray.empty [] [] by unfold unJ; rfl, show unJ (.flt b) = .mk 3 0 b ByteArray.empty [] [] by unfold unJ; rfl, cmpP_0 0 rfl rfl, if_pos rfl, if_neg (by decide), cmpFs_eq]; unfold cmpJ; rfl
  case str.str a b => rw [show unJ (.str a) = .mk 4 0 0 a [] [] by unfold unJ; rfl, show unJ (.str b) = .mk 4 0 0 b [] [] by unfold unJ; rfl, cmpP_0 1 rfl rfl]; unfold cmpJ; rfl
  case list.list a b =>
    unfold JOk at hj hok
    rw [show unJ (.list a) = .mk 5 0 0 ByteArray.empty [] (unJs a) by unfold unJ; rfl, show unJ (.list b) = .mk 5 0 0 ByteArray.empty [] (unJs b) by unfold unJ; rfl, cmpP_0 3 rfl rfl, cmpJ_list]
    show cmpPl (unJs a) (unJs b) = _
    exact cmp_list b a (fun y hy x hx hy' => IH (SizeOf.sizeOf y) (by have := List.sizeOf_lt_of_mem hy; simp; omega) y rfl x hx hy') hj.2 hok.2
  case map.map m q =>
    unfold JOk at hj hok
    obtain ⟨ks, l, e1, hi, hl, hk, hg⟩ := unM_form hj.1
    obtain ⟨ks', l', e2, hi', hl', hk', hg'⟩ := unM_form hok.1
    rw [show unJ (.map m) = unM m gMap by unfold unJ; rfl, show unJ (.map q) = unM q gMap by unfold unJ; rfl, e1, e2, cmpP_0 4 rfl rfl, cmpJ_map]
    show cmpPm ks l ks' l' = _
    have len : ∀ {m : List (ByteArray × JV)} {ks : List ByteArray}, (m.map (·.1)).Nodup → Incr ks → (∀ k, k ∈ ks ↔ k ∈ m.map (·.1)) → ks.length = m.length := by
      intro m ks hm hi hk
      have h1 := nodup_len (incr_nd hi) (fun x hx => (hk x).1 hx)
      have h2 := nodup_len hm (fun x hx => (hk x).2 hx)
      simp only [List.length_map] at h1 h2
      omega
    have n1 := len hj.1 hi hk
    have n2 := len hok.1 hi' hk'
    have hz : ∀ {m : List (ByteArray × JV)} {ks : List ByteArray} {l : List GV}, ks.length = l.length → Incr ks → (∀ k x, (∃ i : Nat, ks[i]? = some k ∧ l[i]? = some x) ↔ ∃ j, getA m k = some j ∧ unJ j = x) → ∀ k z, getA (ks.zip l) k = some z ↔ ∃ x, lkJ m k = some x ∧ unJ x = z := fun hl hi hg k z => by
      rw [zip_idx hl hi, hg, lkJ_getA]
    have main := cmp_map ks l ks' l' (unionK m q) 0 m q hi hi' (unionK_incr m q) (fun k => by rw [unionK_mem, hk, hk']) hl hl' (by omega) (by omega) (fun k _ z => hz hl hi hg k z) (fun k _ z => hz hl' hi' hg' k z) (fun k x y hx hy => by
      rw [lkJ_getA] at hx hy
      have hy' := getA_mem hy
      refine IH (SizeOf.sizeOf y) ?_ y rfl x (JOkm_mem hj.2.2 _ (getA_mem hx)) (JOkm_mem hok.2.2 _ hy')
      have := List.sizeOf_lt_of_mem hy'
      simp at this ⊢
      omega)
    unfold cmpMs
    by_cases h0 : m.length = 0 ∧ q.length = 0
    · rw [if_pos h0]
      have e3 : ks = [] := List.eq_nil_of_length_eq_zero (by omega)
      have e4 : ks' = [] := List.eq_nil_of_length_eq_zero (by omega)
      subst e3 e4
      simp only [cmpPm]; rfl
    · rw [if_neg h0]; exact main
end Go.Proofs.YtbbacpdbbmjblaaGreat
end
section
set_option linter.unusedVariables false
namespace Go.Proofs.YtbbacpdbbmjblaaGreat
set_option linter.unusedSimpArgs false
theorem eqP_mk {k n : Int} {f : Nat} {s : ByteArray} {ks : List ByteArray} {l : List GV} {k' n' : Int} {f' : Nat} {s' : ByteArray} {ks' : List ByteArray} {l' : List GV} (h : (isNum (.mk k n f s ks l) && isNum (.mk k' n' f' s' ks' l')) = false) :
    eqP (.mk k n f s ks l) (.mk k' n' f' s' ks' l') = (decide (k = k') && (decide (n = n') && (decide (s = s') && (decide (ks = ks') && eqPs l l')))) := by
  unfold eqP; rw [if_neg (by rw [h]; simp)]
theorem eq_list : ∀ (b a : List JV), (∀ y ∈ b, ∀ x, JOk x → JOk y → eqP (unJ x) (unJ y) = eqJ x y) → JOks a → JOks b → eqPs (unJs a) (unJs b) = eqJs a b
  | [], [], _, _, _ => by simp only [unJs, eqPs, eqJs]
  | [], _ :: _, _, _, _ => by simp only [unJs, eqPs, eqJs]
  | _ :: _, [], _, _, _ => by simp only [unJs, eqPs, eqJs]
  | y :: b, x :: a, ih, ha, hb => by
    simp only [JOks] at ha hb
    simp only [unJs, eqPs, eqJs]
    rw [ih y (by simp) x ha.1 hb.1, eq_list b a (fun z hz => ih z (by simp [hz])) ha.2 hb.2]
theorem eqJm_iff (m : List (ByteArray × JV)) : ∀ q : List (ByteArray × JV), eqJm m q = true ↔ ∀ y ∈ q, ∃ x, getA m y.1 = some x ∧ eqJ x y.2 = true
  | [] => by simp [eqJm]
  | y :: q => by
    unfold eqJm
    rw [Bool.and_eq_true, eqJm_iff m q, lkJ_getA]
    constructor
    · rintro ⟨h1, h2⟩ z hz
      rcases List.mem_cons.1 hz with rfl | hz
      · cases hg : getA m z.1 with
        | none => rw [hg] at h1; cases h1
        | some x => rw [hg] at h1; exact ⟨x, rfl, h1⟩
      · exact h2 z hz
    · intro h
      obtain ⟨x, hx, he⟩ := h y (by simp)
      exact ⟨by rw [hx]; exact he, fun z hz => h z (by simp [hz])⟩
theorem eq_map (m q : List (ByteArray × JV)) (ih : ∀ y ∈ q, ∀ x, JOk x → JOk y.2 → eqP (unJ x) (unJ y.2) = eqJ x y.2) (hm : JOk (.map m)) (hq : JOk (.map q)) : eqP (unJ (.map m)) (unJ (.map q)) = eqJ (.map m) (.map q) := by
  unfold JOk at hm hq
  obtain ⟨ks, l, e1, hi, hl, hk, hg⟩ := unM_form hm.1
  obtain ⟨ks', l', e2, hi', hl', hk', hg'⟩ := unM_form hq.1
  have hJm : ∀ {k j}, getA m k = some j → JOk j := fun h => JOkm_mem hm.2.2 _ (getA_mem h)
  have hJq : ∀ {k j}, getA q k = some j → JOk j := fun h => JOkm_mem hq.2.2 _ (getA_mem h)
  rw [show unJ (.map m) = unM m gMap by unfold unJ; rfl, show unJ (.map q) = unM q gMap by unfold unJ; rfl, e1, e2, eqP_mk (by simp [isNum, GV.kind]), show eqJ (.map m) (.map q) = (Nat.beq m.length q.length && eqJm m q) by unfold eqJ; rfl]
  simp only [decide_true, Bool.true_and]
  rw [Bool.eq_iff_iff]
  simp only [Bool.and_eq_true, decide_eq_true_eq, eqJm_iff]
  constructor
  · rintro ⟨rfl, h2⟩
    have hmm : ∀ k, k ∈ m.map (·.1) ↔ k ∈ q.map (·.1) := fun k => (hk k).symm.trans (hk' k)
    have l1 := nodup_len hm.1 (fun x hx => (hmm x).1 hx)
    have l2 := nodup_len hq.1 (fun x hx => (hmm x).2 hx)
    simp only [List.length_map] at l1 l2
    refine ⟨by rw [show m.length = q.length by omega]; simp, fun y hy => ?_⟩
    have hgy := getA_of_mem hq.1 (show (y.1, y.2) ∈ q from hy)
    obtain ⟨i, h3, h4⟩ := (hg' y.1 (unJ y.2)).2 ⟨y.2, hgy, rfl⟩
    have hlt := (List.getElem?_eq_some_iff.1 h3).1
    have h5 : l[i]? = some l[i] := List.getElem?_eq_getElem (hl ▸ hlt)
    obtain ⟨x, h6, h7⟩ := (hg y.1 l[i]).1 ⟨i, h3, h5⟩
    refine ⟨x, h6, ?_⟩
    rw [← ih y hy x (hJm h6) (hJq hgy), h7]
    exact eqPs_all h2 i _ _ h5 h4
  · rintro ⟨h1, h2⟩
    have hlen := Nat.eq_of_beq_eq_true h1
    have hsub : ∀ k ∈ q.map (·.1), k ∈ m.map (·.1) := fun k hk => by
      obtain ⟨y, hy, rfl⟩ := List.mem_map.1 hk
      obtain ⟨x, hx, _⟩ := h2 y hy
      exact List.mem_map_of_mem (f := (·.1)) (getA_mem hx)
    have hsub' := nodup_sub hq.1 hsub (by simp [hlen])
    have ek : ks = ks' := incr_ext hi hi' fun k => (hk k).trans ⟨fun h => (hk' k).2 (hsub' k h), fun h => hsub k ((hk' k).1 h)⟩
    subst ek
    refine ⟨rfl, eqPs_true (by omega) fun i x y hx hy => ?_⟩
    have hlt : i < ks.length := by rw [hl]; exact (List.getElem?_eq_some_iff.1 hx).1
    have hki : ks[i]? = some ks[i] := List.getElem?_eq_getElem hlt
    obtain ⟨x0, h3, rfl⟩ := (hg ks[i] x).1 ⟨i, hki, hx⟩
    obtain ⟨y0, h4, rfl⟩ := (hg' ks[i] y).1 ⟨i, hki, hy⟩
    obtain ⟨x1, h5, h6⟩ := h2 (ks[i], y0) (getA_mem h4)
    have h5 : getA m ks[i] = some x1 := h5
    rw [h3] at h5
    cases h5
    rw [ih (ks[i], y0) (getA_mem h4) x0 (hJm h3) (hJq h4)]
    exact h6
theorem eq_law : ∀ (k j : JV), JOk j → JOk k → eqP (unJ j) (unJ k) = eqJ j k
  | .list b, .list a, ha, hb => by
    unfold JOk at ha hb
    rw [show unJ (.list a) = .mk 5 0 0 ByteArray.empty [] (unJs a) by unfold unJ; rfl, show unJ (.list b) = .mk 5 0 0 ByteArray.empty [] (unJs b) by unfold unJ; rfl, eqP_mk (by simp [isNum, GV.kind]), show eqJ (.list a) (.list b) = eqJs a b by unfold eqJ; rfl]
    simp only [decide_true, Bool.true_and]
    exact eq_list b a (fun y hy x hx hy' => eq_law y x hx hy') ha.2 hb.2
  | .map q, .map m, ha, hb => eq_map m q (fun y hy x hx hy' => eq_law y.2 x hx hy') ha hb
  | .null, j, _, _ => by
    cases j <;> simp only [unJ, gNull, gv, eqJ]
    case map => rename_i m _h; obtain ⟨ks, l, e, _⟩ := unM_plain m gMap gMap_plain; rw [e, eqP_mk (by simp [isNum, GV.kind])]; simp
    all_goals (rw [eqP_mk (by simp [isNum, GV.kind])]; simp [eqPs])
  | .bool b, j, _, _ => by
    cases j <;> simp only [unJ, gNull, gv, eqJ]
    case map => rename_i m _h; obtain ⟨ks, l, e, _⟩ := unM_plain m gMap gMap_plain; rw [e, eqP_mk (by simp [isNum, GV.kind])]; simp
    case bool => rename_i a _h; rw [eqP_mk (by simp [isNum, GV.kind])]; cases a <;> cases b <;> simp [eqPs]
    all_goals (rw [eqP_mk (by simp [isNum, GV.kind])]; simp [eqPs])
  | .int n, j, _, _ => by
    cases j <;> simp only [unJ, gNull, gv, eqJ]
    case map => rename_i m _h; obtain ⟨ks, l, e, _⟩ := unM_plain m gMap gMap_plain; rw [e, eqP_mk (by simp [isNum, GV.kind])]; simp
    case int => simp [eqP, isNum, GV.kind]
    case flt => simp [eqP, isNum, GV.kind, asF, GV.n, GV.f]
    all_goals (rw [eqP_mk (by simp [isNum, GV.kind])]; simp [eqPs])
  | .flt n, j, _, _ => by
    cases j <;> simp only [unJ, gNull, gv, eqJ]
    case map => rename_i m _h; obtain ⟨ks, l, e, _⟩ := unM_plain m gMap gMap_plain; rw [e, eqP_mk (by simp [isNum, GV.kind])]; simp
    case int => simp [eqP, isNum, GV.kind, asF, GV.n, GV.f]
    case flt => simp [eqP, isNum, GV.kind, asF, GV.n, GV.f]
    all_goals (rw [eqP_mk (by simp [isNum, GV.kind])]; simp [eqPs])
  | .str n, j, _, _ => by
    cases j <;> simp only [unJ, gNull, gv, eqJ]
    case map => rename_i m _h; obtain ⟨ks, l, e, _⟩ := unM_plain m gMap gMap_plain; rw [e, eqP_mk (by simp [isNum, GV.kind])]; simp
    all_goals (rw [eqP_mk (by simp [isNum, GV.kind])]; simp [eqPs])
  | .list b, .null, _, _ => by simp only [unJ, gNull, gv, eqJ]; rw [eqP_mk (by simp [isNum, GV.kind])]; simp
  | .list b, .bool _, _, _ => by simp only [unJ, gNull, gv, eqJ]; rw [eqP_mk (by simp [isNum, GV.kind])]; simp
  | .list b, .int _, _, _ => by simp only [unJ, gNull, gv, eqJ]; rw [eqP_mk (by simp [isNum, GV.kind])]; simp
  | .list b, .flt _, _, _ => by simp only [unJ, gNull, gv, eqJ]; rw [eqP_mk (by simp [isNum, GV.kind])]; simp
  | .list b, .str _, _, _ => by simp only [unJ, gNull, gv, eqJ]; rw [eqP_mk (by simp [isNum, GV.kind])]; simp
  | .list b, .map m, _, _ => by simp only [unJ, gNull, gv, eqJ]; obtain ⟨ks, l, e, _⟩ := unM_plain m gMap gMap_plain; rw [e, eqP_mk (by simp [isNum, GV.kind])]; simp
  | .map q, .null, _, _ => by simp only [unJ, gNull, gv, eqJ]; obtain ⟨ks, l, e, _⟩ := unM_plain q gMap gMap_plain; rw [e, eqP_mk (by simp [isNum, GV.kind])]; simp
  | .map q, .bool _, _, _ => by simp only [unJ, gNull, gv, eqJ]; obtain ⟨ks, l, e, _⟩ := unM_plain q gMap gMap_plain; rw [e, eqP_mk (by simp [isNum, GV.kind])]; simp
  | .map q, .int _, _, _ => by simp only [unJ, gNull, gv, eqJ]; obtain ⟨ks, l, e, _⟩ := unM_plain q gMap gMap_plain; rw [e, eqP_mk (by simp [isNum, GV.kind])]; simp
  | .map q, .flt _, _, _ => by simp only [unJ, gNull, gv, eqJ]; obtain ⟨ks, l, e, _⟩ := unM_plain q gMap gMap_plain; rw [e, eqP_mk (by simp [isNum, GV.kind])]; simp
  | .map q, .str _, _, _ => by simp only [unJ, gNull, gv, eqJ]; obtain ⟨ks, l, e, _⟩ := unM_plain q gMap gMap_plain; rw [e, eqP_mk (by simp [isNum, GV.kind])]; simp
  | .map q, .list _, _, _ => by simp only [unJ, gNull, gv, eqJ]; obtain ⟨ks, l, e, _⟩ := unM_plain q gMap gMap_plain; rw [e, eqP_mk (by simp [isNum, GV.kind])]; simp
termination_by k => SizeOf.sizeOf k
decreasing_by
  all_goals simp_wf
  · have := List.sizeOf_lt_of_mem hy; omega
  · have := List.sizeOf_lt_of_mem hy
    obtain ⟨y1, y2⟩ := y
    simp at this ⊢
    omega
end Go.Proofs.YtbbacpdbbmjblaaGreat
end
section
set_option linter.unusedVariables false
namespace Go.Proofs.YtbbacpdbbmjblaaGreat
set_option linter.unusedSimpArgs false
section
variable {α β : Type}
def cmpLx (c : α → α → Int) : List α → List α → Int
  | [], [] => 0
  | [], _ :: _ => -1
  | _ :: _, [] => 1
  | x :: r, y :: q => lx (c x y) (cmpLx c r q)
theorem cmpLx_cons (c : α → α → Int) (x y : α) (r q : List α) : cmpLx c (x :: r) (y :: q) = lx (c x y) (cmpLx c r q) := rfl
theorem rng_Lx {c : α → α → Int} : ∀ {a b : List α}, (∀ x ∈ a, ∀ y ∈ b, rng (c x y)) → rng (cmpLx c a b)
  | [], [], _ => .inr (.inl rfl)
  | [], _ :: _, _ => .inl rfl
  | _ :: _, [], _ => .inr (.inr rfl)
  | x :: r, y :: q, h => rng_lx (h x (by simp) y (by simp)) (rng_Lx fun u hu v hv => h u (by simp [hu]) v (by simp [hv]))
theorem swap_Lx {c : α → α → Int} : ∀ {a b : List α}, (∀ x ∈ a, ∀ y ∈ b, c y x = - c x y) → cmpLx c b a = - cmpLx c a b
  | [], [], _ => rfl
  | [], _ :: _, _ => rfl
  | _ :: _, [], _ => rfl
  | x :: r, y :: q, h => by
    rw [cmpLx_cons, cmpLx_cons, h x (by simp) y (by simp), swap_Lx (a := r) (b := q) fun u hu v hv => h u (by simp [hu]) v (by simp [hv]), lx_neg]
theorem tri_Lx {c : α → α → Int} {P : α → Prop} (T : ∀ x y z, P x → P y → P z → Tri (c x y) (c y z) (c x z)) : ∀ (a b d : List α), (∀ x ∈ a, P x) → (∀ x ∈ b, P x) → (∀ x ∈ d, P x) → Tri (cmpLx c a b) (cmpLx c b d) (cmpLx c a d) := by
  have R : ∀ (a b : List α), (∀ x ∈ a, P x) → (∀ x ∈ b, P x) → rng (cmpLx c a b) := fun a b ha hb => rng_Lx fun x hx y hy => (T x y y (ha x hx) (hb y hy) (hb y hy)).rp
  intro a
  induction a with
  | nil =>
    intro b d ha hb hd
    have h2 := R b d hb hd
    cases b with
    | nil =>
      have e : cmpLx c [] ([] : List α) = 0 := rfl
      have h3 := R [] d ha hd
      unfold rng at h2 h3
      rw [e]
      exact ⟨by omega, h3, h3, by omega, by omega, by omega, by omega⟩
    | cons y q =>
      have e : cmpLx c [] (y :: q) = -1 := rfl
      unfold rng at h2
      cases d with
      | nil =>
        have e2 : cmpLx c [] ([] : List α) = 0 := rfl
        have e3 : cmpLx c (y :: q) ([] : List α) = 1 := rfl
        rw [e, e2, e3]
        exact ⟨by omega, by omega, by omega, by omega, by omega, by omega, by omega⟩
      | cons z t =>
        have e2 : cmpLx c [] (z :: t) = -1 := rfl
        rw [e, e2]
        exact ⟨by omega, h2, by omega, by omega, by omega, by omega, by omega⟩
  | cons x r ih =>
    intro b d ha hb hd
    cases b with
    | nil =>
      have e : cmpLx c (x :: r) ([] : List α) = 1 := rfl
      have h2 := R [] d hb hd
      have h3 := R (x :: r) d ha hd
      unfold rng at h2 h3
      rw [e]
      cases d with
      | nil =>
        have e2 : cmpLx c ([] : List α) [] = 0 := rfl
        rw [e, e2]
        exact ⟨by omega, by omega, by omega, by omega, by omega, by omega, by omega⟩
      | cons z t =>
        have e2 : cmpLx c [] (z :: t) = -1 := rfl
        rw [e2]
        exact ⟨by omega, by omega, h3, by omega, by omega, by omega, by omega⟩
    | cons y q =>
      cases d with
      | nil =>
        have e2 : cmpLx c (x :: r) ([] : List α) = 1 := rfl
        have e3 : cmpLx c (y :: q) ([] : List α) = 1 := rfl
        have h1 := R (x :: r) (y :: q) ha hb
        unfold rng at h1
        rw [e2, e3]
        exact ⟨h1, by omega, by omega, by omega, by omega, by omega, by omega⟩
      | cons z t =>
        have ha' : ∀ u ∈ r, P u := fun u hu => ha u (by simp [hu])
        have hb' : ∀ u ∈ q, P u := fun u hu => hb u (by simp [hu])
        have hd' : ∀ u ∈ t, P u := fun u hu => hd u (by simp [hu])
        rw [cmpLx_cons, cmpLx_cons, cmpLx_cons]
        exact tri_lx (T x y z (ha x (by simp)) (hb y (by simp)) (hd z (by simp))) (R r q ha' hb') (R q t hb' hd') (R r t ha' hd') (fun _ _ => ih q t ha' hb' hd')
theorem cmpLx_zero {c : α → α → Int} : ∀ {a b : List α}, cmpLx c a b = 0 ↔ a.length = b.length ∧ ∀ (i : Nat) (x y : α), a[i]? = some x → b[i]? = some y → c x y = 0
  | [], [] => by simp [cmpLx]
  | [], _ :: _ => by simp [cmpLx]
  | _ :: _, [] => by simp [cmpLx]
  | x :: r, y :: q => by
    rw [cmpLx_cons, lx_is_zero, cmpLx_zero (a := r) (b := q)]
    constructor
    · rintro ⟨h, h2, h3⟩
      refine ⟨by simp [h2], fun i u v hu hv => ?_⟩
      cases i with
      | zero => simp at hu hv; subst hu hv; exact h
      | succ i => exact h3 i u v (by simpa using hu) (by simpa using hv)
    · rintro ⟨h2, h3⟩
      exact ⟨h3 0 x y rfl rfl, by simpa using h2, fun i u v hu hv => h3 (i + 1) u v (by simpa using hu) (by simpa using hv)⟩
theorem cmpLx_map {c : α → α → Int} {c' : β → β → Int} (f : β → α) : ∀ {a b : List β}, (∀ x ∈ a, ∀ y ∈ b, c (f x) (f y) = c' x y) → cmpLx c (a.map f) (b.map f) = cmpLx c' a b
  | [], [], _ => rfl
  | [], _ :: _, _ => rfl
  | _ :: _, [], _ => rfl
  | x :: r, y :: q, h => by
    rw [List.map_cons, List.map_cons, cmpLx_cons, cmpLx_cons, h x (by simp) y (by simp), cmpLx_map f fun u hu v hv => h u (by simp [hu]) v (by simp [hv])]
/-- Behind k equal pairs. -/
theorem cmpLx_drop {c : α → α → Int} : ∀ (k : Nat) {a b : List α}, k ≤ a.length → k ≤ b.length → (∀ (i : Nat) (x y : α), i < k → a[i]? = some x → b[i]? = some y → c x y = 0) → cmpLx c a b = cmpLx c (a.drop k) (b.drop k)
  | 0, a, b, _, _, _ => by simp
  | k + 1, [], _, h, _, _ => by simp at h
  | k + 1, _ :: _, [], _, h, _ => by simp at h
  | k + 1, x :: r, y :: q, h1, h2, h => by
    rw [cmpLx_cons, lx_zero (h 0 x y (by omega) rfl rfl), cmpLx_drop k (by simpa using h1) (by simpa using h2) (fun i u v hi hu hv => h (i + 1) u v (by omega) (by simpa using hu) (by simpa using hv))]
    rfl
theorem cmpLx_at {c : α → α → Int} {k : Nat} {a b : List α} {x y : α} (h : ∀ (i : Nat) (x y : α), i < k → a[i]? = some x → b[i]? = some y → c x y = 0) (hx : a[k]? = some x) (hy : b[k]? = some y) (hn : c x y ≠ 0) : cmpLx c a b = c x y := by
  have h1 := (List.getElem?_eq_some_iff.1 hx).1
  have h2 := (List.getElem?_eq_some_iff.1 hy).1
  rw [cmpLx_drop k (by omega) (by omega) h, List.drop_eq_getElem_cons h1, List.drop_eq_getElem_cons h2, cmpLx_cons]
  have e1 := (List.getElem?_eq_some_iff.1 hx).2
  have e2 := (List.getElem?_eq_some_iff.1 hy).2
  rw [e1, e2, lx_pos hn]
theorem cmpLx_end {c : α → α → Int} {k : Nat} {a b : List α} (h1 : k ≤ a.length) (h2 : k ≤ b.length) (h : ∀ (i : Nat) (x y : α), i < k → a[i]? = some x → b[i]? = some y → c x y = 0) (hk : k = a.length ∨ k = b.length) : cmpLx c a b = cmpI a.length b.length := by
  rw [cmpLx_drop k h1 h2 h]
  rcases hk with hk | hk
  · rw [hk, List.drop_length]
    cases hb : b.drop a.length with
    | nil =>
      have := congrArg List.length hb
      simp at this
      rw [cmpI_zero.2 (by omega)]; rfl
    | cons y q =>
      have := congrArg List.length hb
      simp at this
      rw [cmpI_lt (by omega)]; rfl
  · rw [hk, List.drop_length]
    cases ha : a.drop b.length with
    | nil =>
      have := congrArg List.length ha
      simp at this
      rw [cmpI_zero.2 (by omega)]; rfl
    | cons y q =>
      have := congrArg List.length ha
      simp at this
      rw [cmpI_gt (by omega)]; rfl
theorem cmpLx_begin {c : α → α → Int} : ∀ (p : List α) (x y : α) (a b : List α), (∀ z ∈ p, c z z = 0) → c x y ≠ 0 → cmpLx c (p ++ x :: a) (p ++ y :: b) = c x y
  | [], x, y, a, b, _, h => by rw [List.nil_append, List.nil_append, cmpLx_cons, lx_pos h]
  | z :: p, x, y, a, b, hp, h => by
    rw [List.cons_append, List.cons_append, cmpLx_cons, lx_zero (hp z (by simp))]
    exact cmpLx_begin p x y a b (fun u hu => hp u (by simp [hu])) h
/-- Equal, pair by pair. -/
def eqLx (e : α → α → Bool) : List α → List α → Bool
  | [], [] => true
  | x :: r, y :: q => e x y && eqLx e r q
  | _, _ => false
theorem eqLx_iff {e : α → α → Bool} : ∀ {a b : List α}, eqLx e a b = true ↔ a.length = b.length ∧ ∀ (i : Nat) (x y : α), a[i]? = some x → b[i]? = some y → e x y = true
  | [], [] => by simp [eqLx]
  | [], _ :: _ => by simp [eqLx]
  | _ :: _, [] => by simp [eqLx]
  | x :: r, y :: q => by
    rw [show eqLx e (x :: r) (y :: q) = (e x y && eqLx e r q) from rfl, Bool.and_eq_true, eqLx_iff (a := r) (b := q)]
    constructor
    · rintro ⟨h, h2, h3⟩
      refine ⟨by simp [h2], fun i u v hu hv => ?_⟩
      cases i with
      | zero => simp at hu hv; subst hu hv; exact h
      | succ i => exact h3 i u v (by simpa using hu) (by simpa using hv)
    · rintro ⟨h2, h3⟩
      exact ⟨h3 0 x y rfl rfl, by simpa using h2, fun i u v hu hv => h3 (i + 1) u v (by simpa using hu) (by simpa using hv)⟩
theorem eqLx_len {e : α → α → Bool} {a b : List α} (h : a.length ≠ b.length) : eqLx e a b = false := Bool.eq_false_iff.2 fun h' => h (eqLx_iff.1 h').1
theorem eqLx_no {e : α → α → Bool} {a b : List α} {i : Nat} {x y : α} (hx : a[i]? = some x) (hy : b[i]? = some y) (h : e x y = false) : eqLx e a b = false := Bool.eq_false_iff.2 fun h' => by rw [(eqLx_iff.1 h').2 i x y hx hy] at h; cases h
theorem eqLx_all {e : α → α → Bool} {a b : List α} (hl : a.length = b.length) (h : ∀ (i : Nat) (x y : α), a[i]? = some x → b[i]? = some y → e x y = true) : eqLx e a b = true := eqLx_iff.2 ⟨hl, h⟩
theorem eqLx_map {e : α → α → Bool} {e' : β → β → Bool} (f : β → α) : ∀ {a b : List β}, (∀ x ∈ a, ∀ y ∈ b, e (f x) (f y) = e' x y) → eqLx e (a.map f) (b.map f) = eqLx e' a b
  | [], [], _ => rfl
  | [], _ :: _, _ => rfl
  | _ :: _, [], _ => rfl
  | x :: r, y :: q, h => by
    show (e (f x) (f y) && eqLx e (r.map f) (q.map f)) = (e' x y && eqLx e' r q)
    rw [h x (by simp) y (by simp), eqLx_map f fun u hu v hv => h u (by simp [hu]) v (by simp [hv])]
theorem eqLx_cmp {e : α → α → Bool} {c : α → α → Int} {a b : List α} (h : ∀ x ∈ a, ∀ y ∈ b, e x y = true ↔ c x y = 0) : eqLx e a b = true ↔ cmpLx c a b = 0 := by
  rw [eqLx_iff, cmpLx_zero]
  constructor
  · rintro ⟨h1, h2⟩
    exact ⟨h1, fun i x y hx hy => (h x (List.mem_of_getElem? hx) y (List.mem_of_getElem? hy)).1 (h2 i x y hx hy)⟩
  · rintro ⟨h1, h2⟩
    exact ⟨h1, fun i x y hx hy => (h x (List.mem_of_getElem? hx) y (List.mem_of_getElem? hy)).2 (h2 i x y hx hy)⟩
end
def OJ (j : JV) : Prop := JOk j ∧ OG (unJ j)
theorem tri_J {x y z : JV} (hx : OJ x) (hy : OJ y) (hz : OJ z) : Tri (cmpJ x y) (cmpJ y z) (cmpJ x z) := by
  rw [← cmp_law _ _ hx.1 hy.1, ← cmp_law _ _ hy.1 hz.1, ← cmp_law _ _ hx.1 hz.1]
  exact tri_P _ _ _ hx.2 hy.2 hz.2
theorem rng_J {x y : JV} (hx : JOk x) (hy : JOk y) : rng (cmpJ x y) := by
  rw [← cmp_law _ _ hx hy]
  exact rng_P _ _
theorem swap_J {x y : JV} (hx : JOk x) (hy : JOk y) : cmpJ y x = - cmpJ x y := by
  rw [← cmp_law _ _ hx hy, ← cmp_law _ _ hy hx]
  exact swap_P _ _
theorem eqJ_iff {x y : JV} (hx : OJ x) (hy : OJ y) : eqJ x y = true ↔ cmpJ x y = 0 := by
  rw [← cmp_law _ _ hx.1 hy.1, ← eq_law _ _ hx.1 hy.1]
  exact eqP_iff _ _ hx.2 hy.2
def cmpFd (f g : ByteArray × JV) : Int := lx (cmpS f.1 g.1) (cmpJ f.2 g.2)
def eqFd (f g : ByteArray × JV) : Bool := decide (f.1 = g.1) && eqJ f.2 g.2
def rkPE : PEV → Int
  | .name _ => 0
  | .key _ => 1
  | .val _ => 2
  | .idx _ => 3
def bodyPE : PEV → PEV → Int
  | .name a, .name b => cmpS a b
  | .key a, .key b => cmpLx cmpFd a b
  | .val a, .val b => cmpJ a b
  | .idx a, .idx b => cmpI a b
  | _, _ => 0
def cmpPE (p q : PEV) : Int := lx (cmpI (rkPE p) (rkPE q)) (bodyPE p q)
def eqPE : PEV → PEV → Bool
  | .name a, .name b => decide (a = b)
  | .key a, .key b => eqLx eqFd a b
  | .val a, .val b => eqJ a b
  | .idx a, .idx b => decide (a = b)
  | _, _ => false
/-- The element is in memory; its values are orderly. -/
def JPE : PEV → Prop
  | .key fl => ∀ f ∈ fl, JOk f.2
  | .val j => JOk j
  | _ => True
def OPE : PEV → Prop
  | .key fl => ∀ f ∈ fl, OJ f.2
  | .val j => OJ j
  | _ => True
theorem OPE.j {p : PEV} (h : OPE p) : JPE p := by
  cases p with
  | key fl => exact fun f hf => (h f hf).1
  | val j => exact h.1
  | _ => trivial
theorem rng_Fd {f g : ByteArray × JV} (h : JOk f.2) (h' : JOk g.2) : rng (cmpFd f g) := rng_lx (rng_cmpS _ _) (rng_J h h')
theorem tri_Fd {f g k : ByteArray × JV} (hf : OJ f.2) (hg : OJ g.2) (hk : OJ k.2) : Tri (cmpFd f g) (cmpFd g k) (cmpFd f k) :=
  tri_lx (tri_cmpS _ _ _) (rng_J hf.1 hg.1) (rng_J hg.1 hk.1) (rng_J hf.1 hk.1) (fun _ _ => tri_J hf hg hk)
theorem rng_body_PE {p q : PEV} (hp : JPE p) (hq : JPE q) : rng (bodyPE p q) := by
  cases p <;> cases q <;> first
    | exact .inr (.inl rfl)
    | exact rng_cmpS _ _
    | exact rng_cmpI _ _
    | exact rng_J hp hq
    | exact rng_Lx fun x hx y hy => rng_Fd (hp x hx) (hq y hy)
theorem tri_PE {p q r : PEV} (hp : OPE p) (hq : OPE q) (hr : OPE r) : Tri (cmpPE p q) (cmpPE q r) (cmpPE p r) := by
  refine tri_lx (tri_cmpI _ _ _) (rng_body_PE hp.j hq.j) (rng_body_PE hq.j hr.j) (rng_body_PE hp.j hr.j) (fun h1 h2 => ?_)
  rw [cmpI_zero] at h1 h2
  cases p <;> cases q <;> first | (exfalso; revert h1; simp [rkPE]; done) | skip
  all_goals cases r <;> first | (exfalso; revert h2; simp [rkPE]; done) | skip
  · exact tri_cmpS _ _ _
  · exact tri_Lx (P := fun f : ByteArray × JV => OJ f.2) (fun x y z => tri_Fd) _ _ _ hp hq hr
  · exact tri_J hp hq hr
  · exact tri_cmpI _ _ _
theorem swap_PE {p q : PEV} (hp : JPE p) (hq : JPE q) : cmpPE q p = - cmpPE p q := by
  unfold cmpPE
  have h : bodyPE q p = - bodyPE p q := by
    cases p <;> cases q <;> first
      | rfl
      | exact cmpS_swap _ _
      | exact cmpI_swap _ _
      | exact swap_J hp hq
      | exact swap_Lx fun x hx y hy => by unfold cmpFd; rw [cmpS_swap x.1, swap_J (hp x hx) (hq y hy), lx_neg]
  rw [h, cmpI_swap (rkPE p), lx_neg]
theorem self_PE {p : PEV} (hp : JPE p) : cmpPE p p = 0 := by
  have := swap_PE hp hp
  omega
theorem eqPE_iff {p q : PEV} (hp : OPE p) (hq : OPE q) : eqPE p q = true ↔ cmpPE p q = 0 := by
  unfold cmpPE
  rw [lx_is_zero, cmpI_zero]
  cases p <;> cases q <;> first
    | (simp [eqPE, rkPE, bodyPE]; done)
    | skip
  · simp [eqPE, rkPE, bodyPE, cmpS_zero]
  · show eqLx eqFd _ _ = true ↔ _ ∧ cmpLx cmpFd _ _ = 0
    rw [eqLx_cmp (c := cmpFd) fun x hx y hy => ?_]
    · exact ⟨fun h => ⟨rfl, h⟩, fun h => h.2⟩
    · unfold eqFd cmpFd
      rw [lx_is_zero, Bool.and_eq_true, decide_eq_true_eq, cmpS_zero, eqJ_iff (hp x hx) (hq y hy)]
  · show eqJ _ _ = true ↔ _ ∧ cmpJ _ _ = 0
    rw [eqJ_iff hp hq]
    exact ⟨fun h => ⟨rfl, h⟩, fun h => h.2⟩
  · simp [eqPE, rkPE, bodyPE, cmpI_zero]
end Go.Proofs.YtbbacpdbbmjblaaGreat
end
section
set_option linter.unusedVariables false
namespace Go.Proofs.YtbbacpdbbmjblaaGreat
open Go.RowKit
set_option linter.unusedSimpArgs false
theorem PCall.ret {P : Program} {f : FuncId} {ds : List PD} {r r' : PD} (h : PLe r r') (hp : PCall P f ds r) : PCall P f ds r' := fun w F vs hF hv =>
  (hp w F vs hF hv).mono (fun e w' ⟨v, he, hb, hr⟩ => ⟨v, he, hb, h _ _ _ hr⟩)
theorem ptr_le {d d' : PD} (h : PLe d d') : PLe (.ptr d) (.ptr d') := by
  intro w F v hv
  unfold Rep at hv ⊢
  obtain ⟨b, o, u, e, hb, hu, hl⟩ := hv
  exact ⟨b, o, u, e, hb, h _ _ _ hu, hl⟩
theorem repL_le {w : World} {F : Nat → Prop} {α : Type} {pd pd' : α → PD} (h : ∀ x, PLe (pd x) (pd' x)) {n b : Nat} : ∀ (l : List α) (o : Nat), RepL w F n (l.map pd) b o → RepL w F n (l.map pd') b o
  | [], _, _ => by simp [RepL]
  | x :: r, o, hv => by
    rw [List.map_cons] at hv ⊢
    unfold RepL at hv ⊢
    obtain ⟨⟨u, hu, h1, h2, h3⟩, hr⟩ := hv
    exact ⟨⟨u, h _ _ _ _ hu, h1, h2, h3⟩, repL_le h r _ hr⟩
theorem sl_le {α : Type} {pd pd' : α → PD} (h : ∀ x, PLe (pd x) (pd' x)) (n y : Nat) (l : List α) : PLe (.sl n y (l.map pd)) (.sl n y (l.map pd')) := by
  intro w F v hv
  unfold Rep at hv ⊢
  rw [List.length_map] at hv ⊢
  obtain ⟨a, c, e, h1, h2, h3, h4⟩ := hv
  refine ⟨a, c, e, h1, h2, h3, ?_⟩
  rcases h4 with h4 | ⟨b, o, hb, ha, hr⟩
  · left; cases l with | nil => rfl | cons _ _ => cases h4
  · exact .inr ⟨b, o, hb, ha, repL_le h l o hr⟩
theorem val_le (j : JV) : PLe (pdVal j) (dvV j) := by
  intro w F v h
  unfold pdVal Rep at h
  obtain ⟨u, rfl, h⟩ := h
  unfold Rep at h
  obtain ⟨b, o, u', rfl, hb, hj, hl⟩ := h
  have hj' := hj
  unfold pdJ Rep at hj'
  have h1 : u'.oneCell' = true := hj'.1.oneCell
  unfold dvV Rep
  refine ⟨_, rfl, ?_⟩
  unfold Rep
  refine ⟨b, o, .agg #[u'], rfl, hb, ?_, ?_⟩
  · unfold Rep
    refine ⟨[u'], rfl, ?_, fun u hu => by rw [List.mem_singleton] at hu; rw [hu]; exact h1⟩
    unfold Reps
    exact ⟨u', [], rfl, hj, by unfold Reps; rfl⟩
  · rwa [show (Value.agg #[u']).cells.toList = u'.cells.toList by rw [hj'.1.cells]; rfl]
def dvFld (f : ByteArray × JV) : PD := .agg [.val (.string f.1), dvV f.2]
def dvFl (fl : List (ByteArray × JV)) : PD := .sl 2 32 (fl.map dvFld)
def dvPE : PEV → PD
  | .name s => .agg [.ptr (.val (.string s)), nilP, nilP, nilP]
  | .key fl => .agg [nilP, .ptr (dvFl fl), nilP, nilP]
  | .val j => .agg [nilP, nilP, .ptr (dvV j), nilP]
  | .idx n => .agg [nilP, nilP, nilP, .ptr (.val (.int .i64 n))]
inductive PAl : List PD → List PD → Prop
  | nil : PAl [] []
  | cons {d d' : PD} {l l' : List PD} (h : PLe d d') (hs : PAl l l') : PAl (d :: l) (d' :: l')
theorem agg_le : ∀ {l l' : List PD}, PAl l l' → PLe (.agg l) (.agg l') := by
  have key : ∀ {w : World} {F : Nat → Prop} {l l' : List PD}, PAl l l' → ∀ vs, Reps w F l vs → Reps w F l' vs := by
    intro w F l l' h
    induction h with
    | nil => exact fun vs hv => hv
    | cons h _ ih =>
      intro vs hv
      unfold Reps at hv ⊢
      obtain ⟨v, r, e, h1, h2⟩ := hv
      exact ⟨v, r, e, h _ _ _ h1, ih _ h2⟩
  intro l l' h w F v hv
  unfold Rep at hv ⊢
  obtain ⟨vs, e, h1, h2⟩ := hv
  exact ⟨vs, e, key h _ h1, h2⟩
theorem fld_le (f : ByteArray × JV) : PLe (pdFld f) (dvFld f) := agg_le (.cons (PLe.refl _) (.cons (val_le _) .nil))
theorem pe_le (p : PEV) : PLe (pdPE p) (dvPE p) := by
  cases p with
  | name s => exact PLe.refl _
  | key fl => exact agg_le (.cons (PLe.refl _) (.cons (ptr_le (sl_le fld_le 2 32 fl)) (.cons (PLe.refl _) (.cons (PLe.refl _) .nil))))
  | val j => exact agg_le (.cons (PLe.refl _) (.cons (PLe.refl _) (.cons (ptr_le (val_le j)) (.cons (PLe.refl _) .nil))))
  | idx n => exact PLe.refl _
theorem toElem_v (x : EV) : PCall Tryz.prog 39 [pdE x] (dvPE (toPE x)) := (toElem_p x).ret (pe_le _)
theorem JPE_fits {x : EV} (h : Fits (pdE x)) : JPE (toPE x) := by
  obtain ⟨w0, F0, v0, h0⟩ := h
  obtain ⟨ak, ck, a, c, c0, c1, c2, c3, c4, c5, e, h1, h2, h3, hk, h5, h6, hl, hv⟩ := rep_isE h0
  unfold toPE
  by_cases k1 : x.kind = 1
  · rw [if_pos k1]
    intro f hf
    unfold flE at hf
    have hm := (List.of_mem_zip hf).2
    obtain ⟨y, hy, ey⟩ := List.mem_map.1 hm
    rw [← ey]
    refine plain_ok y ?_
    rcases hl with hl | ⟨b, o, hb, ha, hvs⟩
    · rw [hl] at hy; cases hy
    · obtain ⟨i, hi⟩ := List.getElem?_of_mem hy
      obtain ⟨u, hu, _⟩ := (isVs_repL _ hvs).at_ (pdVs_at hi)
      exact IsV.gok y (rep_isV y hu)
  · rw [if_neg k1]
    by_cases k2 : x.kind = 2
    · rw [if_pos k2]; exact plain_ok x.v (IsV.gok x.v hv)
    · rw [if_neg k2]
      by_cases k3 : x.kind = 3
      · rw [if_pos k3]; trivial
      · rw [if_neg k3]; trivial
set_option maxHeartbeats 8000000 in
theorem flCompare_p (a b : List (ByteArray × JV)) : PCall Tryz.prog 102 [dvFl a, dvFl b] (.val (.int .i64 (cmpLx cmpFd a b))) := by
  refine pcall_fits fun hfit => ?_
  unfold dvFl at hfit ⊢
  have b1 := (hfit (.sl 2 32 (a.map dvFld)) (by simp)).sl.2.1
  clear hfit
  have la : (a.map dvFld).length = a.length := by simp
  have lb : (b.map dvFld).length = b.length := by simp
  have ga : ∀ {i : Nat} {f : ByteArray × JV}, a[i]? = some f → (a.map dvFld)[((i : Nat) : Int).toNat]? = some (dvFld f) := fun h => by simp [h]
  have gb : ∀ {i : Nat} {f : ByteArray × JV}, b[i]? = some f → (b.map dvFld)[((i : Nat) : Int).toNat]? = some (dvFld f) := fun h => by simp [h]
  rw [la] at b1
  generalize a.map dvFld = da at *
  generalize b.map dvFld = db at *
  refine pcall_of_run Tryz.func102 rfl Tryz.ntmps102 rfl (fun X => ?_)
  repeat' (first
    | refine run_seq ?_
    | (refine k_pick rfl ?_; refine k_assignD rfl rfl ?_)
    | refine run_opsEnd ?_
    | refine run_region ?_
    | refine run_block ?_
    | fail)
  refine run_loopS (ι := { j : Nat // (j ≤ a.length ∧ j ≤ b.length) ∧ ∀ i x y, i < j → a[i]? = some x → b[i]? = some y → cmpFd x y = 0 })
    (fun j => [(0, .dat (.sl 2 32 da)), (1, .dat (.sl 2 32 db)), (5, .dat (.val (.int .i64 (j.1 : Nat))))])
    (fun _ => []) (fun j => a.length - j.1) ⟨0, ⟨Nat.zero_le _, Nat.zero_le _⟩, fun i _ _ h => absurd h (Nat.not_lt_zero i)⟩ id ?_ ?_
  · (refine ⟨?_, ?_, by rfl⟩ <;> repeat' (first | exact trivial | exact ALe.ptr rfl | exact ALe.own rfl | exact ALe.elt rfl | exact BLe.boxD _ _ | exact BLe.row rfl | exact BLe.res | exact BLe.dead rfl | exact ALe.dat (PLe.refl _) | exact CLe.nil | refine And.intro ?_ ?_ | refine ALe.iface ?_ | refine ALe.clo ?_ | refine CLe.cons ?_ ?_ | refine BLe.box ?_ | refine BLe.row ?_ | exact ALe.any _ | refine ALe.dat (PLe.of_eq ?_)))
  rintro ⟨j, ⟨hj, hj'⟩, hall⟩
  have hend : j = a.length ∨ j = b.length → cmpLx cmpFd a b = cmpI a.length b.length := fun h => cmpLx_end hj hj' hall h
  by_cases hlt : j < a.length
  · have g1 : decide (((da.length : Nat) : Int) ≤ (j : Int)) = false := decide_eq_false (by omega)
    by_cases hlt' : j < b.length
    · have g2 : decide (((db.length : Nat) : Int) ≤ (j : Int)) = false := decide_eq_false (by omega)
      obtain ⟨x, hx⟩ : ∃ x, a[j]? = some x := ⟨_, List.getElem?_eq_getElem hlt⟩
      obtain ⟨y, hy⟩ : ∃ y, b[j]? = some y := ⟨_, List.getElem?_eq_getElem hlt'⟩
      have i1 := ga hx
      have i2 := gb hy
      have c1 := strcmp_p x.1 y.1
      have c2 := compare_p x.2 y.2
      by_cases hs : cmpS x.1 y.1 = 0
      · have g3 : decide (cmpS x.1 y.1 ≠ 0) = false := decide_eq_false (by simp [hs])
        by_cases hv : cmpJ x.2 y.2 = 0
        · have g4 : decide (cmpJ x.2 y.2 ≠ 0) = false := decide_eq_false (by simp [hv])
          repeat' (first
    | refine run_seq ?_
    | (refine k_pick rfl ?_; first | refine k_assignD rfl rfl ?_ | refine k_moveD rfl rfl ?_ | refine k_bin2B rfl rfl rfl rfl ?_ | refine k_pickF rfl rfl (by first | rfl | assumption) rfl ?_ | refine k_lenD rfl rfl ?_ | refine k_ariI rfl rfl rfl rfl (by first | omega | (dsimp only; omega)) ?_)
    | refine run_opsEnd ?_
    | refine run_region ?_
    | refine run_condF rfl (by first | rfl | assumption) ?_
    | refine k_guardNT rfl rfl (by first | rfl | assumption) rfl ?_
    | refine run_block ?_
    | refine run_blkEnd ?_
    | refine run_skip ?_
    | refine run_drawC (by kernel_rfl) ?_
    | refine c_nil (And.intro (by kernel_rfl) ?_)
    | refine c_pick (d_indexAddrD rfl rfl rfl (by first | omega | (dsimp only; omega)) (by assumption)) ?_
    | refine c_pick (d_assignD rfl rfl) ?_
    | refine c_pick (d_moveD rfl rfl) ?_
    | refine c_pick (d_call rfl (by kernel_rfl) rfl (by first | exact c1 | exact c2)) ?_
    | refine c_pick (d_fieldAddrD rfl rfl rfl rfl (by first | rfl | (simp only [cellsD]; rfl))) ?_
    | refine c_pick (d_loadD rfl rfl (by first | rfl | (simp only [cellsD]; rfl))) ?_
    | fail)
          refine run_again ?_
          refine ⟨⟨j + 1, ⟨by omega, by omega⟩, fun i x' y' hi hx' hy' => ?_⟩, id, by simp only; omega, ?_⟩
          · by_cases e : i = j
            · subst e
              rw [hx] at hx'; rw [hy] at hy'
              cases hx'; cases hy'
              unfold cmpFd
              rw [lx_zero hs, hv]
            · exact hall i x' y' (by omega) hx' hy'
          (refine ⟨?_, ?_, by rfl⟩ <;> repeat' (first | exact trivial | exact ALe.ptr rfl | exact ALe.own rfl | exact ALe.elt rfl | exact BLe.boxD _ _ | exact BLe.row rfl | exact BLe.res | exact BLe.dead rfl | exact ALe.dat (PLe.refl _) | exact CLe.nil | refine And.intro ?_ ?_ | refine ALe.iface ?_ | refine ALe.clo ?_ | refine CLe.cons ?_ ?_ | refine BLe.box ?_ | refine BLe.row ?_ | exact ALe.any _ | refine ALe.dat (PLe.of_eq ?_)))
        · have g4 : decide (cmpJ x.2 y.2 ≠ 0) = true := decide_eq_true hv
          have e : cmpFd x y = cmpJ x.2 y.2 := by unfold cmpFd; rw [lx_zero hs]
          rw [cmpLx_at hall hx hy (by rw [e]; exact hv), e]
          repeat' (first
    | refine run_seq ?_
    | (refine k_pick rfl ?_; first | refine k_assignD rfl rfl ?_ | refine k_moveD rfl rfl ?_ | refine k_bin2B rfl rfl rfl rfl ?_ | refine k_pickF rfl rfl (by first | rfl | assumption) rfl ?_ | refine k_lenD rfl rfl ?_)
    | refine run_opsEnd ?_
    | refine run_region ?_
    | refine run_condT rfl (by first | rfl | assumption) ?_
    | refine run_condF rfl (by first | rfl | assumption) ?_
    | refine k_guardNT rfl rfl (by first | rfl | assumption) rfl ?_
    | refine run_block ?_
    | refine run_skip ?_
    | refine run_retOk (resOk_tmp rfl rfl ?_)
    | refine run_drawC (by kernel_rfl) ?_
    | refine c_nil (And.intro (by kernel_rfl) ?_)
    | refine c_pick (d_indexAddrD rfl rfl rfl (by first | omega | (dsimp only; omega)) (by assumption)) ?_
    | refine c_pick (d_assignD rfl rfl) ?_
    | refine c_pick (d_moveD rfl rfl) ?_
    | refine c_pick (d_call rfl (by kernel_rfl) rfl (by first | exact c1 | exact c2)) ?_
    | refine c_pick (d_fieldAddrD rfl rfl rfl rfl (by first | rfl | (simp only [cellsD]; rfl))) ?_
    | refine c_pick (d_loadD rfl rfl (by first | rfl | (simp only [cellsD]; rfl))) ?_
    | fail)
          all_goals exact PLe.refl _
      · have g3 : decide (cmpS x.1 y.1 ≠ 0) = true := decide_eq_true hs
        have e : cmpFd x y = cmpS x.1 y.1 := by unfold cmpFd; rw [lx_pos hs]
        rw [cmpLx_at hall hx hy (by rw [e]; exact hs), e]
        repeat' (first
    | refine run_seq ?_
    | (refine k_pick rfl ?_; first | refine k_assignD rfl rfl ?_ | refine k_moveD rfl rfl ?_ | refine k_bin2B rfl rfl rfl rfl ?_ | refine k_pickF rfl rfl (by first | rfl | assumption) rfl ?_ | refine k_lenD rfl rfl ?_)
    | refine run_opsEnd ?_
    | refine run_region ?_
    | refine run_condT rfl (by first | rfl | assumption) ?_
    | refine run_condF rfl (by first | rfl | assumption) ?_
    | refine k_guardNT rfl rfl (by first | rfl | assumption) rfl ?_
    | refine run_block ?_
    | refine run_skip ?_
    | refine run_retOk (resOk_tmp rfl rfl ?_)
    | refine run_drawC (by kernel_rfl) ?_
    | refine c_nil (And.intro (by kernel_rfl) ?_)
    | refine c_pick (d_indexAddrD rfl rfl rfl (by first | omega | (dsimp only; omega)) (by assumption)) ?_
    | refine c_pick (d_assignD rfl rfl) ?_
    | refine c_pick (d_moveD rfl rfl) ?_
    | refine c_pick (d_call rfl (by kernel_rfl) rfl (by first | exact c1 | exact c2)) ?_
    | refine c_pick (d_fieldAddrD rfl rfl rfl rfl (by first | rfl | (simp only [cellsD]; rfl))) ?_
    | refine c_pick (d_loadD rfl rfl (by first | rfl | (simp only [cellsD]; rfl))) ?_
    | fail)
        all_goals exact PLe.refl _
    · have g2 : decide (((db.length : Nat) : Int) ≤ (j : Int)) = true := decide_eq_true (by omega)
      rw [hend (.inr (by omega)), cmpI_gt (by omega)]
      repeat' (first
    | refine run_seq ?_
    | (refine k_pick rfl ?_; first | refine k_assignD rfl rfl ?_ | refine k_moveD rfl rfl ?_ | refine k_bin2B rfl rfl rfl rfl ?_ | refine k_pickF rfl rfl (by first | rfl | assumption) rfl ?_ | refine k_lenD rfl rfl ?_)
    | refine run_opsEnd ?_
    | refine run_region ?_
    | refine run_condT rfl (by first | rfl | assumption) ?_
    | refine run_condF rfl (by first | rfl | assumption) ?_
    | refine k_guardNT rfl rfl (by first | rfl | assumption) rfl ?_
    | refine run_block ?_
    | refine run_skip ?_
    | refine run_retOk (resOk_tmp rfl rfl ?_)
    | fail)
      all_goals exact PLe.refl _
  · have g1 : decide (((da.length : Nat) : Int) ≤ (j : Int)) = true := decide_eq_true (by omega)
    by_cases hlt' : j < b.length
    · have g2 : decide (((db.length : Nat) : Int) ≤ (j : Int)) = false := decide_eq_false (by omega)
      rw [hend (.inl (by omega)), cmpI_lt (by omega)]
      repeat' (first
    | refine run_seq ?_
    | (refine k_pick rfl ?_; first | refine k_assignD rfl rfl ?_ | refine k_moveD rfl rfl ?_ | refine k_bin2B rfl rfl rfl rfl ?_ | refine k_pickT rfl rfl (by first | rfl | assumption) rfl ?_ | refine k_lenD rfl rfl ?_)
    | refine run_opsEnd ?_
    | refine run_region ?_
    | refine run_condT rfl (by first | rfl | assumption) ?_
    | refine run_condF rfl (by first | rfl | assumption) ?_
    | (refine k_guardY rfl rfl (by first | rfl | assumption) ?_; first | refine k_moveD rfl rfl ?_ | refine k_bin2B rfl rfl rfl rfl ?_ | refine k_lenD rfl rfl ?_)
    | refine run_block ?_
    | refine run_skip ?_
    | refine run_retOk (resOk_tmp rfl rfl ?_)
    | fail)
      all_goals exact PLe.refl _
    · have g2 : decide (((db.length : Nat) : Int) ≤ (j : Int)) = true := decide_eq_true (by omega)
      rw [hend (.inl (by omega)), cmpI_zero.2 (by omega)]
      repeat' (first
    | refine run_seq ?_
    | (refine k_pick rfl ?_; first | refine k_assignD rfl rfl ?_ | refine k_moveD rfl rfl ?_ | refine k_bin2B rfl rfl rfl rfl ?_ | refine k_pickT rfl rfl (by first | rfl | assumption) rfl ?_ | refine k_lenD rfl rfl ?_)
    | refine run_opsEnd ?_
    | refine run_region ?_
    | refine run_condT rfl (by first | rfl | assumption) ?_
    | (refine k_guardY rfl rfl (by first | rfl | assumption) ?_; first | refine k_moveD rfl rfl ?_ | refine k_bin2B rfl rfl rfl rfl ?_ | refine k_lenD rfl rfl ?_)
    | refine run_block ?_
    | refine run_retOk (resOk_tmp rfl rfl ?_)
    | fail)
      all_goals exact PLe.refl _
set_option maxHeartbeats 8000000 in
theorem flEquals_p (a b : List (ByteArray × JV)) : PCall Tryz.prog 119 [dvFl a, dvFl b] (.val (.bool (eqLx eqFd a b))) := by
  refine pcall_fits fun hfit => ?_
  unfold dvFl at hfit ⊢
  have b1 := (hfit (.sl 2 32 (a.map dvFld)) (by simp)).sl.2.1
  clear hfit
  have la : (a.map dvFld).length = a.length := by simp
  have lb : (b.map dvFld).length = b.length := by simp
  have ga : ∀ {i : Nat} {f : ByteArray × JV}, a[i]? = some f → (a.map dvFld)[((i : Nat) : Int).toNat]? = some (dvFld f) := fun h => by simp [h]
  have gb : ∀ {i : Nat} {f : ByteArray × JV}, b[i]? = some f → (b.map dvFld)[((i : Nat) : Int).toNat]? = some (dvFld f) := fun h => by simp [h]
  rw [la] at b1
  generalize a.map dvFld = da at *
  generalize b.map dvFld = db at *
  refine pcall_of_run Tryz.func119 rfl Tryz.ntmps119 rfl (fun X => ?_)
  by_cases hl : a.length = b.length
  rotate_left
  · have g1 : decide (((da.length : Nat) : Int) ≠ ((db.length : Nat) : Int)) = true := decide_eq_true (by omega)
    rw [eqLx_len hl]
    repeat' (first
    | refine run_seq ?_
    | (refine k_pick rfl ?_; first | refine k_assignD rfl rfl ?_ | refine k_moveD rfl rfl ?_ | refine k_bin2B rfl rfl rfl rfl ?_ | refine k_lenD rfl rfl ?_)
    | refine run_opsEnd ?_
    | refine run_region ?_
    | refine run_condT rfl (by first | rfl | assumption) ?_
    | refine run_retOk (resOk_tmp rfl rfl ?_)
    | fail)
    all_goals exact PLe.refl _
  have g1 : decide (((da.length : Nat) : Int) ≠ ((db.length : Nat) : Int)) = false := decide_eq_false (by omega)
  repeat' (first
    | refine run_seq ?_
    | (refine k_pick rfl ?_; first | refine k_assignD rfl rfl ?_ | refine k_moveD rfl rfl ?_ | refine k_bin2B rfl rfl rfl rfl ?_ | refine k_lenD rfl rfl ?_)
    | refine run_opsEnd ?_
    | refine run_region ?_
    | refine run_condF rfl (by first | rfl | assumption) ?_
    | refine run_block ?_
    | refine run_skip ?_
    | fail)
  refine run_loopS (ι := { j : Nat // j ≤ a.length ∧ ∀ i x y, i < j → a[i]? = some x → b[i]? = some y → eqFd x y = true })
    (fun j => [(0, .dat (.sl 2 32 da)), (1, .dat (.sl 2 32 db)), (12, .dat (.val (.int .i64 ((da.length : Nat) : Int)))), (13, .dat (.val (.int .i64 (j.1 : Nat))))])
    (fun _ => []) (fun j => a.length - j.1) ⟨0, Nat.zero_le _, fun i _ _ h => absurd h (Nat.not_lt_zero i)⟩ id ?_ ?_
  · (refine ⟨?_, ?_, by rfl⟩ <;> repeat' (first | exact trivial | exact ALe.ptr rfl | exact ALe.own rfl | exact ALe.elt rfl | exact BLe.boxD _ _ | exact BLe.row rfl | exact BLe.res | exact BLe.dead rfl | exact ALe.dat (PLe.refl _) | exact CLe.nil | refine And.intro ?_ ?_ | refine ALe.iface ?_ | refine ALe.clo ?_ | refine CLe.cons ?_ ?_ | refine BLe.box ?_ | refine BLe.row ?_ | exact ALe.any _ | refine ALe.dat (PLe.of_eq ?_)))
  rintro ⟨j, hj, hall⟩
  by_cases hlt : j < a.length
  · have g2 : decide ((j : Int) < ((da.length : Nat) : Int)) = true := decide_eq_true (by omega)
    obtain ⟨x, hx⟩ : ∃ x, a[j]? = some x := ⟨_, List.getElem?_eq_getElem hlt⟩
    obtain ⟨y, hy⟩ : ∃ y, b[j]? = some y := ⟨_, List.getElem?_eq_getElem (by omega)⟩
    have i1 := ga hx
    have i2 := gb hy
    have c2 := equals_p x.2 y.2
    by_cases hs : x.1 = y.1
    · have g3 : decide (x.1 ≠ y.1) = false := decide_eq_false (by simp [hs])
      have g3' : (!decide (x.1 = y.1)) = false := by simp [hs]
      cases hv : eqJ x.2 y.2 with
      | true =>
        rw [hv] at c2
        repeat' (first
    | refine run_seq ?_
    | (refine k_pick rfl ?_; first | refine k_assignD rfl rfl ?_ | refine k_moveD rfl rfl ?_ | refine k_bin2B rfl rfl rfl rfl ?_ | refine k_ariI rfl rfl rfl rfl (by first | omega | (dsimp only; omega)) ?_)
    | refine run_opsEnd ?_
    | refine run_region ?_
    | refine run_condT rfl (by first | rfl | assumption) ?_
    | refine run_condF rfl (by first | rfl | assumption) ?_
    | refine run_block ?_
    | refine run_blkEnd ?_
    | refine run_skip ?_
    | refine run_drawC (by kernel_rfl) ?_
    | refine c_nil (And.intro (by kernel_rfl) ?_)
    | refine c_pick (d_indexAddrD rfl rfl rfl (by first | omega | (dsimp only; omega)) (by assumption)) ?_
    | refine c_pick (d_moveD rfl rfl) ?_
    | refine c_pick (d_bin2B rfl rfl rfl rfl) ?_
    | refine c_pick (d_call rfl (by kernel_rfl) rfl (by first | exact c2)) ?_
    | refine c_pick (d_not rfl rfl) ?_
    | refine c_pick (d_fieldAddrD rfl rfl rfl rfl (by first | rfl | (simp only [cellsD]; rfl))) ?_
    | refine c_pick (d_loadD rfl rfl (by first | rfl | (simp only [cellsD]; rfl))) ?_
    | fail)
        refine run_again ?_
        refine ⟨⟨j + 1, by omega, fun i x' y' hi hx' hy' => ?_⟩, id, by simp only; omega, ?_⟩
        · by_cases e : i = j
          · subst e
            rw [hx] at hx'; rw [hy] at hy'
            cases hx'; cases hy'
            unfold eqFd
            rw [hv]; simp [hs]
          · exact hall i x' y' (by omega) hx' hy'
        (refine ⟨?_, ?_, by rfl⟩ <;> repeat' (first | exact trivial | exact ALe.ptr rfl | exact ALe.own rfl | exact ALe.elt rfl | exact BLe.boxD _ _ | exact BLe.row rfl | exact BLe.res | exact BLe.dead rfl | exact ALe.dat (PLe.refl _) | exact CLe.nil | refine And.intro ?_ ?_ | refine ALe.iface ?_ | refine ALe.clo ?_ | refine CLe.cons ?_ ?_ | refine BLe.box ?_ | refine BLe.row ?_ | exact ALe.any _ | refine ALe.dat (PLe.of_eq ?_)))
      | false =>
        rw [hv] at c2
        rw [eqLx_no hx hy (by unfold eqFd; rw [hv]; simp)]
        repeat' (first
    | refine run_seq ?_
    | (refine k_pick rfl ?_; first | refine k_assignD rfl rfl ?_ | refine k_moveD rfl rfl ?_ | refine k_bin2B rfl rfl rfl rfl ?_)
    | refine run_opsEnd ?_
    | refine run_region ?_
    | refine run_condT rfl (by first | rfl | assumption) ?_
    | refine run_condF rfl (by first | rfl | assumption) ?_
    | refine run_block ?_
    | refine run_skip ?_
    | refine run_retOk (resOk_tmp rfl rfl ?_)
    | refine run_drawC (by kernel_rfl) ?_
    | refine c_nil (And.intro (by kernel_rfl) ?_)
    | refine c_pick (d_indexAddrD rfl rfl rfl (by first | omega | (dsimp only; omega)) (by assumption)) ?_
    | refine c_pick (d_moveD rfl rfl) ?_
    | refine c_pick (d_bin2B rfl rfl rfl rfl) ?_
    | refine c_pick (d_call rfl (by kernel_rfl) rfl (by first | exact c2)) ?_
    | refine c_pick (d_not rfl rfl) ?_
    | refine c_pick (d_fieldAddrD rfl rfl rfl rfl (by first | rfl | (simp only [cellsD]; rfl))) ?_
    | refine c_pick (d_loadD rfl rfl (by first | rfl | (simp only [cellsD]; rfl))) ?_
    | fail)
        all_goals exact PLe.refl _
    · have g3 : decide (x.1 ≠ y.1) = true := decide_eq_true hs
      have g3' : (!decide (x.1 = y.1)) = true := by simp [hs]
      rw [eqLx_no hx hy (by unfold eqFd; simp [hs])]
      repeat' (first
    | refine run_seq ?_
    | (refine k_pick rfl ?_; first | refine k_assignD rfl rfl ?_ | refine k_moveD rfl rfl ?_ | refine k_bin2B rfl rfl rfl rfl ?_)
    | refine run_opsEnd ?_
    | refine run_region ?_
    | refine run_condT rfl (by first | rfl | assumption) ?_
    | refine run_block ?_
    | refine run_skip ?_
    | refine run_retOk (resOk_tmp rfl rfl ?_)
    | refine run_drawC (by kernel_rfl) ?_
    | refine c_nil (And.intro (by kernel_rfl) ?_)
    | refine c_pick (d_indexAddrD rfl rfl rfl (by first | omega | (dsimp only; omega)) (by assumption)) ?_
    | refine c_pick (d_moveD rfl rfl) ?_
    | refine c_pick (d_bin2B rfl rfl rfl rfl) ?_
    | refine c_pick (d_fieldAddrD rfl rfl rfl rfl (by first | rfl | (simp only [cellsD]; rfl))) ?_
    | refine c_pick (d_loadD rfl rfl (by first | rfl | (simp only [cellsD]; rfl))) ?_
    | fail)
      all_goals exact PLe.refl _
  · have g2 : decide ((j : Int) < ((da.length : Nat) : Int)) = false := decide_eq_false (by omega)
    rw [eqLx_all hl (fun i x y hx hy => hall i x y (by have := (List.getElem?_eq_some_iff.1 hx).1; omega) hx hy)]
    repeat' (first
    | refine run_seq ?_
    | (refine k_pick rfl ?_; first | refine k_assignD rfl rfl ?_ | refine k_bin2B rfl rfl rfl rfl ?_)
    | refine run_opsEnd ?_
    | refine run_region ?_
    | refine run_condF rfl (by first | rfl | assumption) ?_
    | refine run_exit rfl ?_
    | refine run_retOk (resOk_tmp rfl rfl ?_)
    | fail)
    all_goals exact PLe.refl _
set_option maxHeartbeats 8000000 in
theorem peCompare_p (p q : PEV) : PCall Tryz.prog 73 [dvPE p, dvPE q] (.val (.int .i64 (cmpPE p q))) := by
  cases p with
  | name a =>
    cases q with
    | name b =>
      have c1 := strcmp_p a b
      have e : cmpPE (.name a) (.name b) = cmpS a b := rfl
      rw [e]
      unfold dvPE
      refine pcall_of_run Tryz.func73 rfl Tryz.ntmps73 rfl (fun X => ?_)
      repeat' (first
    | refine run_seq ?_
    | (refine k_pick rfl ?_; first | refine k_assignD rfl rfl ?_ | refine k_fieldAddrB rfl rfl rfl ?_ | refine k_loadBD rfl rfl rfl (by first | rfl | (simp only [cellsD]; rfl)) ?_ | refine k_boxW rfl rfl rfl (by first | rfl | (simp only [cellsD]; rfl)) ?_ | refine k_cmpNil rfl rfl rfl (by kernel_rfl) (by first | exact NilIs.ptr | exact NilIs.none | exact NilIs.nilI | assumption) rfl ?_)
    | refine run_opsEnd ?_
    | refine run_region ?_
    | refine run_condT rfl (by first | rfl | assumption) ?_
    | refine run_condF rfl (by first | rfl | assumption) ?_
    | refine run_skip ?_
    | refine run_retOk (resOk_tmp rfl rfl ?_)
    | refine run_drawC (by kernel_rfl) ?_
    | refine c_nil (And.intro (by kernel_rfl) ?_)
    | refine c_pick (d_assignD rfl rfl) ?_
    | refine c_pick (d_fieldAddrB rfl rfl rfl) ?_
    | refine c_pick (d_loadBD rfl rfl rfl (by first | rfl | (simp only [cellsD]; rfl))) ?_
    | refine c_pick (d_call rfl (by kernel_rfl) rfl (by first | exact c1)) ?_
    | refine c_pick (d_nilD rfl rfl) ?_
    | refine c_pick (d_loadD rfl rfl (by first | rfl | (simp only [cellsD]; rfl))) ?_
    | fail)
      all_goals exact PLe.refl _
    | _ =>
      refine pcall_of_run Tryz.func73 rfl Tryz.ntmps73 rfl (fun X => ?_)
      unfold dvPE
      repeat' (first
    | refine run_seq ?_
    | (refine k_pick rfl ?_; first | refine k_assignD rfl rfl ?_ | refine k_fieldAddrB rfl rfl rfl ?_ | refine k_loadBD rfl rfl rfl (by first | rfl | (simp only [cellsD]; rfl)) ?_ | refine k_boxW rfl rfl rfl (by first | rfl | (simp only [cellsD]; rfl)) ?_ | refine k_cmpNil rfl rfl rfl (by kernel_rfl) (by first | exact NilIs.ptr | exact NilIs.none | exact NilIs.nilI | assumption) rfl ?_)
    | refine run_opsEnd ?_
    | refine run_region ?_
    | refine run_condT rfl (by first | rfl | assumption) ?_
    | refine run_retOk (resOk_tmp rfl rfl ?_)
    | fail)
      all_goals exact PLe.refl _
  | key a =>
    cases q with
    | key b =>
      have c1 := flCompare_p a b
      have e : cmpPE (.key a) (.key b) = cmpLx cmpFd a b := rfl
      rw [e]
      unfold dvPE
      refine pcall_of_run Tryz.func73 rfl Tryz.ntmps73 rfl (fun X => ?_)
      repeat' (first
    | refine run_seq ?_
    | (refine k_pick rfl ?_; first | refine k_assignD rfl rfl ?_ | refine k_fieldAddrB rfl rfl rfl ?_ | refine k_loadBD rfl rfl rfl (by first | rfl | (simp only [cellsD]; rfl)) ?_ | refine k_boxW rfl rfl rfl (by first | rfl | (simp only [cellsD]; rfl)) ?_ | refine k_cmpNil rfl rfl rfl (by kernel_rfl) (by first | exact NilIs.ptr | exact NilIs.none | exact NilIs.nilI | assumption) rfl ?_)
    | refine run_opsEnd ?_
    | refine run_region ?_
    | refine run_condT rfl (by first | rfl | assumption) ?_
    | refine run_condF rfl (by first | rfl | assumption) ?_
    | refine run_skip ?_
    | refine run_retOk (resOk_tmp rfl rfl ?_)
    | refine run_drawC (by kernel_rfl) ?_
    | refine c_nil (And.intro (by kernel_rfl) ?_)
    | refine c_pick (d_assignD rfl rfl) ?_
    | refine c_pick (d_fieldAddrB rfl rfl rfl) ?_
    | refine c_pick (d_loadBD rfl rfl rfl (by first | rfl | (simp only [cellsD]; rfl))) ?_
    | refine c_pick (d_call rfl (by kernel_rfl) rfl (by first | exact c1)) ?_
    | refine c_pick (d_nilD rfl rfl) ?_
    | refine c_pick (d_loadD rfl rfl (by first | rfl | (simp only [cellsD]; rfl))) ?_
    | fail)
      all_goals exact PLe.refl _
    | _ =>
      refine pcall_of_run Tryz.func73 rfl Tryz.ntmps73 rfl (fun X => ?_)
      unfold dvPE
      repeat' (first
    | refine run_seq ?_
    | (refine k_pick rfl ?_; first | refine k_assignD rfl rfl ?_ | refine k_fieldAddrB rfl rfl rfl ?_ | refine k_loadBD rfl rfl rfl (by first | rfl | (simp only [cellsD]; rfl)) ?_ | refine k_boxW rfl rfl rfl (by first | rfl | (simp only [cellsD]; rfl)) ?_ | refine k_cmpNil rfl rfl rfl (by kernel_rfl) (by first | exact NilIs.ptr | exact NilIs.none | exact NilIs.nilI | assumption) rfl ?_)
    | refine run_opsEnd ?_
    | refine run_region ?_
    | refine run_condT rfl (by first | rfl | assumption) ?_
    | refine run_condF rfl (by first | rfl | assumption) ?_
    | refine run_skip ?_
    | refine run_retOk (resOk_tmp rfl rfl ?_)
    | fail)
      all_goals exact PLe.refl _
  | val a =>
    cases q with
    | val b =>
      have c1 := compare_p a b
      have e : cmpPE (.val a) (.val b) = cmpJ a b := rfl
      rw [e]
      unfold dvPE
      refine pcall_of_run Tryz.func73 rfl Tryz.ntmps73 rfl (fun X => ?_)
      repeat' (first
    | refine run_seq ?_
    | (refine k_pick rfl ?_; first | refine k_assignD rfl rfl ?_ | refine k_fieldAddrB rfl rfl rfl ?_ | refine k_loadBD rfl rfl rfl (by first | rfl | (simp only [cellsD]; rfl)) ?_ | refine k_boxW rfl rfl rfl (by first | rfl | (simp only [cellsD]; rfl)) ?_ | refine k_cmpNil rfl rfl rfl (by kernel_rfl) (by first | exact NilIs.ptr | exact NilIs.none | exact NilIs.nilI | assumption) rfl ?_)
    | refine run_opsEnd ?_
    | refine run_region ?_
    | refine run_condT rfl (by first | rfl | assumption) ?_
    | refine run_condF rfl (by first | rfl | assumption) ?_
    | refine run_skip ?_
    | refine run_retOk (resOk_tmp rfl rfl ?_)
    | refine run_drawC (by kernel_rfl) ?_
    | refine c_nil (And.intro (by kernel_rfl) ?_)
    | refine c_pick (d_assignD rfl rfl) ?_
    | refine c_pick (d_fieldAddrB rfl rfl rfl) ?_
    | refine c_pick (d_loadBD rfl rfl rfl (by first | rfl | (simp only [cellsD]; rfl))) ?_
    | refine c_pick (d_call rfl (by kernel_rfl) rfl (by first | exact c1)) ?_
    | refine c_pick (d_nilD rfl rfl) ?_
    | refine c_pick (d_loadD rfl rfl (by first | rfl | (simp only [cellsD]; rfl))) ?_
    | fail)
      all_goals exact PLe.refl _
    | _ =>
      refine pcall_of_run Tryz.func73 rfl Tryz.ntmps73 rfl (fun X => ?_)
      unfold dvPE
      repeat' (first
    | refine run_seq ?_
    | (refine k_pick rfl ?_; first | refine k_assignD rfl rfl ?_ | refine k_fieldAddrB rfl rfl rfl ?_ | refine k_loadBD rfl rfl rfl (by first | rfl | (simp only [cellsD]; rfl)) ?_ | refine k_boxW rfl rfl rfl (by first | rfl | (simp only [cellsD]; rfl)) ?_ | refine k_cmpNil rfl rfl rfl (by kernel_rfl) (by first | exact NilIs.ptr | exact NilIs.none | exact NilIs.nilI | assumption) rfl ?_)
    | refine run_opsEnd ?_
    | refine run_region ?_
    | refine run_condT rfl (by first | rfl | assumption) ?_
    | refine run_condF rfl (by first | rfl | assumption) ?_
    | refine run_skip ?_
    | refine run_retOk (resOk_tmp rfl rfl ?_)
    | fail)
      all_goals exact PLe.refl _
  | idx a =>
    cases q with
    | idx b =>
      have e : cmpPE (.idx a) (.idx b) = cmpI a b := rfl
      rw [e]
      unfold dvPE
      refine pcall_of_run Tryz.func73 rfl Tryz.ntmps73 rfl (fun X => ?_)
      by_cases h1 : a < b
      · have g1 : decide (a < b) = true := decide_eq_true h1
        rw [cmpI_lt h1]
        repeat' (first
    | refine run_seq ?_
    | (refine k_pick rfl ?_; first | refine k_assignD rfl rfl ?_ | refine k_fieldAddrB rfl rfl rfl ?_ | refine k_loadBD rfl rfl rfl (by first | rfl | (simp only [cellsD]; rfl)) ?_ | refine k_boxW rfl rfl rfl (by first | rfl | (simp only [cellsD]; rfl)) ?_ | refine k_cmpNil rfl rfl rfl (by kernel_rfl) (by first | exact NilIs.ptr | exact NilIs.none | exact NilIs.nilI | assumption) rfl ?_)
    | refine run_opsEnd ?_
    | refine run_region ?_
    | refine run_condT rfl (by first | rfl | assumption) ?_
    | refine run_condF rfl (by first | rfl | assumption) ?_
    | refine run_skip ?_
    | refine run_retOk (resOk_tmp rfl rfl ?_)
    | refine run_drawC (by kernel_rfl) ?_
    | refine c_nil (And.intro (by kernel_rfl) ?_)
    | refine c_pick (d_fieldAddrB rfl rfl rfl) ?_
    | refine c_pick (d_loadBD rfl rfl rfl (by first | rfl | (simp only [cellsD]; rfl))) ?_
    | refine c_pick (d_bin2B rfl rfl rfl rfl) ?_
    | refine c_pick (d_nilD rfl rfl) ?_
    | refine c_pick (d_loadD rfl rfl (by first | rfl | (simp only [cellsD]; rfl))) ?_
    | fail)
        all_goals exact PLe.refl _
      · have g1 : decide (a < b) = false := decide_eq_false h1
        by_cases h2 : a = b
        · have g2 : decide (a = b) = true := decide_eq_true h2
          rw [cmpI_zero.2 h2]
          repeat' (first
    | refine run_seq ?_
    | (refine k_pick rfl ?_; first | refine k_assignD rfl rfl ?_ | refine k_fieldAddrB rfl rfl rfl ?_ | refine k_loadBD rfl rfl rfl (by first | rfl | (simp only [cellsD]; rfl)) ?_ | refine k_boxW rfl rfl rfl (by first | rfl | (simp only [cellsD]; rfl)) ?_ | refine k_cmpNil rfl rfl rfl (by kernel_rfl) (by first | exact NilIs.ptr | exact NilIs.none | exact NilIs.nilI | assumption) rfl ?_)
    | refine run_opsEnd ?_
    | refine run_region ?_
    | refine run_condT rfl (by first | rfl | assumption) ?_
    | refine run_condF rfl (by first | rfl | assumption) ?_
    | refine run_skip ?_
    | refine run_retOk (resOk_tmp rfl rfl ?_)
    | refine run_drawC (by kernel_rfl) ?_
    | refine c_nil (And.intro (by kernel_rfl) ?_)
    | refine c_pick (d_fieldAddrB rfl rfl rfl) ?_
    | refine c_pick (d_loadBD rfl rfl rfl (by first | rfl | (simp only [cellsD]; rfl))) ?_
    | refine c_pick (d_bin2B rfl rfl rfl rfl) ?_
    | refine c_pick (d_nilD rfl rfl) ?_
    | refine c_pick (d_loadD rfl rfl (by first | rfl | (simp only [cellsD]; rfl))) ?_
    | fail)
          all_goals exact PLe.refl _
        · have g2 : decide (a = b) = false := decide_eq_false h2
          rw [cmpI_gt (by omega)]
          repeat' (first
    | refine run_seq ?_
    | (refine k_pick rfl ?_; first | refine k_assignD rfl rfl ?_ | refine k_fieldAddrB rfl rfl rfl ?_ | refine k_loadBD rfl rfl rfl (by first | rfl | (simp only [cellsD]; rfl)) ?_ | refine k_boxW rfl rfl rfl (by first | rfl | (simp only [cellsD]; rfl)) ?_ | refine k_cmpNil rfl rfl rfl (by kernel_rfl) (by first | exact NilIs.ptr | exact NilIs.none | exact NilIs.nilI | assumption) rfl ?_)
    | refine run_opsEnd ?_
    | refine run_region ?_
    | refine run_condT rfl (by first | rfl | assumption) ?_
    | refine run_condF rfl (by first | rfl | assumption) ?_
    | refine run_skip ?_
    | refine run_retOk (resOk_tmp rfl rfl ?_)
    | refine run_drawC (by kernel_rfl) ?_
    | refine c_nil (And.intro (by kernel_rfl) ?_)
    | refine c_pick (d_fieldAddrB rfl rfl rfl) ?_
    | refine c_pick (d_loadBD rfl rfl rfl (by first | rfl | (simp only [cellsD]; rfl))) ?_
    | refine c_pick (d_bin2B rfl rfl rfl rfl) ?_
    | refine c_pick (d_nilD rfl rfl) ?_
    | refine c_pick (d_loadD rfl rfl (by first | rfl | (simp only [cellsD]; rfl))) ?_
    | fail)
          all_goals exact PLe.refl _
    | _ =>
      refine pcall_of_run Tryz.func73 rfl Tryz.ntmps73 rfl (fun X => ?_)
      unfold dvPE
      repeat' (first
    | refine run_seq ?_
    | (refine k_pick rfl ?_; first | refine k_assignD rfl rfl ?_ | refine k_fieldAddrB rfl rfl rfl ?_ | refine k_loadBD rfl rfl rfl (by first | rfl | (simp only [cellsD]; rfl)) ?_ | refine k_boxW rfl rfl rfl (by first | rfl | (simp only [cellsD]; rfl)) ?_ | refine k_cmpNil rfl rfl rfl (by kernel_rfl) (by first | exact NilIs.ptr | exact NilIs.none | exact NilIs.nilI | assumption) rfl ?_)
    | refine run_opsEnd ?_
    | refine run_region ?_
    | refine run_condT rfl (by first | rfl | assumption) ?_
    | refine run_condF rfl (by first | rfl | assumption) ?_
    | refine run_skip ?_
    | refine run_retOk (resOk_tmp rfl rfl ?_)
    | fail)
      all_goals exact PLe.refl _
set_option maxHeartbeats 8000000 in
theorem peEquals_p (p q : PEV) : PCall Tryz.prog 85 [dvPE p, dvPE q] (.val (.bool (eqPE p q))) := by
  cases p with
  | name a =>
    cases q with
    | name b =>
      have e : eqPE (.name a) (.name b) = decide (a = b) := rfl
      rw [e]
      unfold dvPE
      refine pcall_of_run Tryz.func85 rfl Tryz.ntmps85 rfl (fun X => ?_)
      repeat' (first
    | refine run_seq ?_
    | (refine k_pick rfl ?_; first | refine k_assignD rfl rfl ?_ | refine k_fieldAddrB rfl rfl rfl ?_ | refine k_loadBD rfl rfl rfl (by first | rfl | (simp only [cellsD]; rfl)) ?_ | refine k_boxW rfl rfl rfl (by first | rfl | (simp only [cellsD]; rfl)) ?_ | refine k_cmpNil rfl rfl rfl (by kernel_rfl) (by first | exact NilIs.ptr | exact NilIs.none | exact NilIs.nilI | assumption) rfl ?_)
    | refine run_opsEnd ?_
    | refine run_region ?_
    | refine run_condT rfl (by first | rfl | assumption) ?_
    | refine run_condF rfl (by first | rfl | assumption) ?_
    | refine run_skip ?_
    | refine run_retOk (resOk_tmp rfl rfl ?_)
    | refine run_drawC (by kernel_rfl) ?_
    | refine c_nil (And.intro (by kernel_rfl) ?_)
    | refine c_pick (d_assignD rfl rfl) ?_
    | refine c_pick (d_fieldAddrB rfl rfl rfl) ?_
    | refine c_pick (d_loadBD rfl rfl rfl (by first | rfl | (simp only [cellsD]; rfl))) ?_
    | refine c_pick (d_bin2B rfl rfl rfl rfl) ?_
    | refine c_pick (d_nilD rfl rfl) ?_
    | refine c_pick (d_loadD rfl rfl (by first | rfl | (simp only [cellsD]; rfl))) ?_
    | fail)
      all_goals exact PLe.refl _
    | _ =>
      refine pcall_of_run Tryz.func85 rfl Tryz.ntmps85 rfl (fun X => ?_)
      unfold dvPE
      repeat' (first
    | refine run_seq ?_
    | (refine k_pick rfl ?_; first | refine k_assignD rfl rfl ?_ | refine k_fieldAddrB rfl rfl rfl ?_ | refine k_loadBD rfl rfl rfl (by first | rfl | (simp only [cellsD]; rfl)) ?_ | refine k_boxW rfl rfl rfl (by first | rfl | (simp only [cellsD]; rfl)) ?_ | refine k_cmpNil rfl rfl rfl (by kernel_rfl) (by first | exact NilIs.ptr | exact NilIs.none | exact NilIs.nilI | assumption) rfl ?_)
    | refine run_opsEnd ?_
    | refine run_region ?_
    | refine run_condT rfl (by first | rfl | assumption) ?_
    | refine run_retOk (resOk_tmp rfl rfl ?_)
    | fail)
      all_goals exact PLe.refl _
  | key a =>
    cases q with
    | key b =>
      have c1 := flEquals_p a b
      have e : eqPE (.key a) (.key b) = eqLx eqFd a b := rfl
      rw [e]
      unfold dvPE
      refine pcall_of_run Tryz.func85 rfl Tryz.ntmps85 rfl (fun X => ?_)
      repeat' (first
    | refine run_seq ?_
    | (refine k_pick rfl ?_; first | refine k_assignD rfl rfl ?_ | refine k_fieldAddrB rfl rfl rfl ?_ | refine k_loadBD rfl rfl rfl (by first | rfl | (simp only [cellsD]; rfl)) ?_ | refine k_boxW rfl rfl rfl (by first | rfl | (simp only [cellsD]; rfl)) ?_ | refine k_cmpNil rfl rfl rfl (by kernel_rfl) (by first | exact NilIs.ptr | exact NilIs.none | exact NilIs.nilI | assumption) rfl ?_)
    | refine run_opsEnd ?_
    | refine run_region ?_
    | refine run_condT rfl (by first | rfl | assumption) ?_
    | refine run_condF rfl (by first | rfl | assumption) ?_
    | refine run_skip ?_
    | refine run_retOk (resOk_tmp rfl rfl ?_)
    | refine run_drawC (by kernel_rfl) ?_
    | refine c_nil (And.intro (by kernel_rfl) ?_)
    | refine c_pick (d_assignD rfl rfl) ?_
    | refine c_pick (d_fieldAddrB rfl rfl rfl) ?_
    | refine c_pick (d_loadBD rfl rfl rfl (by first | rfl | (simp only [cellsD]; rfl))) ?_
    | refine c_pick (d_call rfl (by kernel_rfl) rfl (by first | exact c1)) ?_
    | refine c_pick (d_nilD rfl rfl) ?_
    | refine c_pick (d_loadD rfl rfl (by first | rfl | (simp only [cellsD]; rfl))) ?_
    | fail)
      all_goals exact PLe.refl _
    | _ =>
      refine pcall_of_run Tryz.func85 rfl Tryz.ntmps85 rfl (fun X => ?_)
      unfold dvPE
      repeat' (first
    | refine run_seq ?_
    | (refine k_pick rfl ?_; first | refine k_assignD rfl rfl ?_ | refine k_fieldAddrB rfl rfl rfl ?_ | refine k_loadBD rfl rfl rfl (by first | rfl | (simp only [cellsD]; rfl)) ?_ | refine k_boxW rfl rfl rfl (by first | rfl | (simp only [cellsD]; rfl)) ?_ | refine k_cmpNil rfl rfl rfl (by kernel_rfl) (by first | exact NilIs.ptr | exact NilIs.none | exact NilIs.nilI | assumption) rfl ?_)
    | refine run_opsEnd ?_
    | refine run_region ?_
    | refine run_condT rfl (by first | rfl | assumption) ?_
    | refine run_condF rfl (by first | rfl | assumption) ?_
    | refine run_skip ?_
    | refine run_retOk (resOk_tmp rfl rfl ?_)
    | fail)
      all_goals exact PLe.refl _
  | val a =>
    cases q with
    | val b =>
      have c1 := equals_p a b
      have e : eqPE (.val a) (.val b) = eqJ a b := rfl
      rw [e]
      unfold dvPE
      refine pcall_of_run Tryz.func85 rfl Tryz.ntmps85 rfl (fun X => ?_)
      repeat' (first
    | refine run_seq ?_
    | (refine k_pick rfl ?_; first | refine k_assignD rfl rfl ?_ | refine k_fieldAddrB rfl rfl rfl ?_ | refine k_loadBD rfl rfl rfl (by first | rfl | (simp only [cellsD]; rfl)) ?_ | refine k_boxW rfl rfl rfl (by first | rfl | (simp only [cellsD]; rfl)) ?_ | refine k_cmpNil rfl rfl rfl (by kernel_rfl) (by first | exact NilIs.ptr | exact NilIs.none | exact NilIs.nilI | assumption) rfl ?_)
    | refine run_opsEnd ?_
    | refine run_region ?_
    | refine run_condT rfl (by first | rfl | assumption) ?_
    | refine run_condF rfl (by first | rfl | assumption) ?_
    | refine run_skip ?_
    | refine run_retOk (resOk_tmp rfl rfl ?_)
    | refine run_drawC (by kernel_rfl) ?_
    | refine c_nil (And.intro (by kernel_rfl) ?_)
    | refine c_pick (d_assignD rfl rfl) ?_
    | refine c_pick (d_fieldAddrB rfl rfl rfl) ?_
    | refine c_pick (d_loadBD rfl rfl rfl (by first | rfl | (simp only [cellsD]; rfl))) ?_
    | refine c_pick (d_call rfl (by kernel_rfl) rfl (by first | exact c1)) ?_
    | refine c_pick (d_nilD rfl rfl) ?_
    | refine c_pick (d_loadD rfl rfl (by first | rfl | (simp only [cellsD]; rfl))) ?_
    | fail)
      all_goals exact PLe.refl _
    | _ =>
      refine pcall_of_run Tryz.func85 rfl Tryz.ntmps85 rfl (fun X => ?_)
      unfold dvPE
      repeat' (first
    | refine run_seq ?_
    | (refine k_pick rfl ?_; first | refine k_assignD rfl rfl ?_ | refine k_fieldAddrB rfl rfl rfl ?_ | refine k_loadBD rfl rfl rfl (by first | rfl | (simp only [cellsD]; rfl)) ?_ | refine k_boxW rfl rfl rfl (by first | rfl | (simp only [cellsD]; rfl)) ?_ | refine k_cmpNil rfl rfl rfl (by kernel_rfl) (by first | exact NilIs.ptr | exact NilIs.none | exact NilIs.nilI | assumption) rfl ?_)
    | refine run_opsEnd ?_
    | refine run_region ?_
    | refine run_condT rfl (by first | rfl | assumption) ?_
    | refine run_condF rfl (by first | rfl | assumption) ?_
    | refine run_skip ?_
    | refine run_retOk (resOk_tmp rfl rfl ?_)
    | fail)
      all_goals exact PLe.refl _
  | idx a =>
    cases q with
    | idx b =>
      have e : eqPE (.idx a) (.idx b) = decide (a = b) := rfl
      rw [e]
      unfold dvPE
      refine pcall_of_run Tryz.func85 rfl Tryz.ntmps85 rfl (fun X => ?_)
      repeat' (first
    | refine run_seq ?_
    | (refine k_pick rfl ?_; first | refine k_assignD rfl rfl ?_ | refine k_fieldAddrB rfl rfl rfl ?_ | refine k_loadBD rfl rfl rfl (by first | rfl | (simp only [cellsD]; rfl)) ?_ | refine k_boxW rfl rfl rfl (by first | rfl | (simp only [cellsD]; rfl)) ?_ | refine k_cmpNil rfl rfl rfl (by kernel_rfl) (by first | exact NilIs.ptr | exact NilIs.none | exact NilIs.nilI | assumption) rfl ?_)
    | refine run_opsEnd ?_
    | refine run_region ?_
    | refine run_condT rfl (by first | rfl | assumption) ?_
    | refine run_condF rfl (by first | rfl | assumption) ?_
    | refine run_skip ?_
    | refine run_retOk (resOk_tmp rfl rfl ?_)
    | refine run_drawC (by kernel_rfl) ?_
    | refine c_nil (And.intro (by kernel_rfl) ?_)
    | refine c_pick (d_assignD rfl rfl) ?_
    | refine c_pick (d_fieldAddrB rfl rfl rfl) ?_
    | refine c_pick (d_loadBD rfl rfl rfl (by first | rfl | (simp only [cellsD]; rfl))) ?_
    | refine c_pick (d_bin2B rfl rfl rfl rfl) ?_
    | refine c_pick (d_nilD rfl rfl) ?_
    | refine c_pick (d_loadD rfl rfl (by first | rfl | (simp only [cellsD]; rfl))) ?_
    | fail)
      all_goals exact PLe.refl _
    | _ =>
      refine pcall_of_run Tryz.func85 rfl Tryz.ntmps85 rfl (fun X => ?_)
      unfold dvPE
      repeat' (first
    | refine run_seq ?_
    | (refine k_pick rfl ?_; first | refine k_assignD rfl rfl ?_ | refine k_fieldAddrB rfl rfl rfl ?_ | refine k_loadBD rfl rfl rfl (by first | rfl | (simp only [cellsD]; rfl)) ?_ | refine k_boxW rfl rfl rfl (by first | rfl | (simp only [cellsD]; rfl)) ?_ | refine k_cmpNil rfl rfl rfl (by kernel_rfl) (by first | exact NilIs.ptr | exact NilIs.none | exact NilIs.nilI | assumption) rfl ?_)
    | refine run_opsEnd ?_
    | refine run_region ?_
    | refine run_condT rfl (by first | rfl | assumption) ?_
    | refine run_condF rfl (by first | rfl | assumption) ?_
    | refine run_skip ?_
    | refine run_retOk (resOk_tmp rfl rfl ?_)
    | fail)
      all_goals exact PLe.refl _
end Go.Proofs.YtbbacpdbbmjblaaGreat
end
section
namespace Go.Proofs.YtbbacpdbbmjblaaGreat
open Go.RowKit
set_option linter.unusedSimpArgs false
set_option maxHeartbeats 1000000 in
set_option maxRecDepth 100000 in
theorem ordVals_any (l : List GV) (w : World) (a1 : Option Addr) (c1 : Nat) (hl88 : l.length * 88 ≤ 140737488351232) (hl : l = [] ∨ ∃ b o, Btw 0 w.heap.size b ∧ a1 = some ⟨b, o, none⟩ ∧ IsVs w (Btw 0 w.heap.size) l b o) :
    Calls Tryz.prog 35 #[.slice a1 l.length c1] w fun e w' => e = .returned (.bool (ordL l)) ∧ Below w.heap.size w w' := by
  go_enter Tryz.func35, Tryz.ntmps35
  go_wp2_with fail
  go_loopw [7] (fun i wr => ∃ k : Nat, k ≤ l.length ∧ i = .int .i64 (k : Nat) ∧ Below w.heap.size w wr ∧ ∀ y ∈ l.take k, ordV y = true) (fun i _ => l.length - (intOf i).toNat)
  case atStart => exact ⟨0, Nat.zero_le _, rfl, Below.refl _ _, by simp⟩
  case round =>
    obtain ⟨k, hk, rfl, hB, hall⟩ := hrel
    by_cases hlt : k < l.length
    · obtain ⟨b, o, hb, rfl, hcells⟩ := vals_at hl (by omega)
      obtain ⟨y, hy⟩ : ∃ y, l[k]? = some y := ⟨l[k], by simp [hlt]⟩
      obtain ⟨e0, f0, e1, f1, g0, g1, g2, g3, g4, g5, hyv⟩ := (IsVs.keep (S' := Btw 0 wr.heap.size) (Btw.kept hB) (Btw.mono (Nat.le_refl _) hB.size) l b o hb hcells).cells hy
      have hc := ord_any y
      have hyA := hyv.alloc_ (.cells #[.int .i64 y.kind, .int .i64 y.n, .float .f64 y.f, .string y.s, .slice e0 y.keys.length f0, .slice e1 y.l.length f1] 27)
      have HY := Lib.hid (And.intro hy (And.intro hall hB))
      have j0 : (0 : Int) ≤ (k : Int) := by omega
      have j1 : (k : Int) < (l.length : Int) := by omega
      have hs := hB.size
      clear hy hall hB hcells hyv
      go_wp2_with (go_at_call 34; (with_reducible refine (hc.use _ _ ?_).mono ?_))
      · simpa using hyA
      rintro e w2 ⟨rfl, hB2'⟩
      obtain ⟨hy, hall, hB⟩ := HY.out
      have hB2 : Below w.heap.size w w2 := (hB.alloc hs (.cells #[.int .i64 y.kind, .int .i64 y.n, .float .f64 y.f, .string y.s, .slice e0 y.keys.length f0, .slice e1 y.l.length f1] 27)).trans (hB2'.mono (by simp; omega))
      clear g0 g1 g2 g3 g4 g5 hyA hc HY hB2'
      cases ho : ordV y with
      | false =>
        have hf : ordL l = false := by
          cases h : ordL l with
          | false => rfl
          | true => rw [ordL_iff.1 h y (List.mem_of_getElem? hy)] at ho; cases ho
        go_wp2_with fail
        go_ret
        rw [hf]
        exact ⟨rfl, hB2⟩
      | true =>
        have HF := Lib.hid (show ∀ z ∈ l.take (k + 1), ordV z = true from fun z hz => by
          rw [List.take_add_one, hy] at hz
          rcases List.mem_append.1 hz with hz | hz
          · exact hall z hz
          · simp at hz; subst hz; exact ho)
        clear hall hy hB
        go_wp2_with fail
        go_roundw
        case rel => exact ⟨k + 1, hlt, by go_num, hB2, HF.out⟩
        case measure => simp [intOf]; omega
    · have hkl : k = l.length := by omega
      subst hkl
      have ht : ordL l = true := ordL_iff.2 (by rw [List.take_length] at hall; exact hall)
      have HT := Lib.hid ht
      clear ht hall
      go_wp2_with fail
      go_ret
      rw [HT.out]
      exact ⟨rfl, hB⟩
end Go.Proofs.YtbbacpdbbmjblaaGreat
end
section
set_option linter.unusedVariables false
namespace Go.Proofs.YtbbacpdbbmjblaaGreat
open Go.RowKit
set_option linter.unusedSimpArgs false
def rkE (x : EV) : Int := if x.kind = 1 then 1 else if x.kind = 2 then 2 else if x.kind = 3 then 3 else 0
def kvE (x : EV) : List (ByteArray × GV) := x.keys.zip x.l
def cmpKv (f g : ByteArray × GV) : Int := lx (cmpS f.1 g.1) (cmpP (cleanV f.2) (cleanV g.2))
def eqKv (f g : ByteArray × GV) : Bool := decide (f.1 = g.1) && eqP (cleanV f.2) (cleanV g.2)
def bodyE (x y : EV) : Int := if rkE x = 1 then cmpLx cmpKv (kvE x) (kvE y) else if rkE x = 2 then cmpP (cleanV x.v) (cleanV y.v) else if rkE x = 3 then cmpI x.n y.n else cmpS x.s y.s
def cmpE (x y : EV) : Int := lx (cmpI (rkE x) (rkE y)) (bodyE x y)
def eqE (x y : EV) : Bool := if rkE x ≠ rkE y then false else if rkE x = 1 then eqLx eqKv (kvE x) (kvE y) else if rkE x = 2 then eqP (cleanV x.v) (cleanV y.v) else if rkE x = 3 then decide (x.n = y.n) else decide (x.s = y.s)
theorem toPE_kind (x : EV) : (x.kind = 1 ∧ rkE x = 1 ∧ toPE x = .key (flE x)) ∨ (x.kind = 2 ∧ rkE x = 2 ∧ toPE x = .val (plainJ x.v)) ∨ (x.kind = 3 ∧ rkE x = 3 ∧ toPE x = .idx x.n) ∨ (x.kind ≠ 1 ∧ x.kind ≠ 2 ∧ x.kind ≠ 3 ∧ rkE x = 0 ∧ toPE x = .name x.s) := by
  unfold rkE toPE
  by_cases h1 : x.kind = 1
  · simp [h1]
  · by_cases h2 : x.kind = 2
    · simp [h2]
    · by_cases h3 : x.kind = 3
      · simp [h3]
      · simp [h1, h2, h3]
theorem rk_to (x : EV) : rkPE (toPE x) = rkE x := by
  rcases toPE_kind x with h | h | h | h
  · rw [h.2.2, h.2.1]; rfl
  · rw [h.2.2, h.2.1]; rfl
  · rw [h.2.2, h.2.1]; rfl
  · rw [h.2.2.2.2, h.2.2.2.1]; rfl
theorem flE_map (x : EV) : flE x = (kvE x).map fun f => (f.1, plainJ f.2) := by
  unfold flE kvE
  rw [List.zip_map_right]
  rfl
theorem kv_jok {x : EV} (h : JPE (toPE x)) (hk : toPE x = .key (flE x)) : ∀ f ∈ kvE x, JOk (plainJ f.2) := by
  rw [hk] at h
  intro f hf
  exact h (f.1, plainJ f.2) (by rw [flE_map]; exact List.mem_map.2 ⟨f, hf, rfl⟩)
theorem cmp_pl {a b : GV} (h1 : JOk (plainJ a)) (h2 : JOk (plainJ b)) : cmpJ (plainJ a) (plainJ b) = cmpP (cleanV a) (cleanV b) := by
  rw [← cmp_law _ _ h1 h2, un_plain, un_plain]
theorem eq_pl {a b : GV} (h1 : JOk (plainJ a)) (h2 : JOk (plainJ b)) : eqJ (plainJ a) (plainJ b) = eqP (cleanV a) (cleanV b) := by
  rw [← eq_law _ _ h1 h2, un_plain, un_plain]
theorem cmpE_law {x y : EV} (hx : JPE (toPE x)) (hy : JPE (toPE y)) : cmpPE (toPE x) (toPE y) = cmpE x y := by
  unfold cmpPE cmpE
  rw [rk_to, rk_to]
  by_cases hr : rkE x = rkE y
  · rw [lx_zero (cmpI_zero.2 hr), lx_zero (cmpI_zero.2 hr)]
    unfold bodyE
    rcases toPE_kind x with h | h | h | h <;> rcases toPE_kind y with h' | h' | h' | h' <;> first
      | (exfalso; omega)
      | skip
    · rw [h.2.2, h'.2.2, if_pos h.2.1]
      show cmpLx cmpFd _ _ = _
      rw [flE_map, flE_map]
      exact cmpLx_map _ fun f hf g hg => by
        show lx _ (cmpJ (plainJ f.2) (plainJ g.2)) = lx _ _
        rw [cmp_pl (kv_jok hx h.2.2 f hf) (kv_jok hy h'.2.2 g hg)]
    · rw [h.2.2, h'.2.2, if_neg (by omega), if_pos h.2.1]
      rw [h.2.2] at hx
      rw [h'.2.2] at hy
      exact cmp_pl hx hy
    · rw [h.2.2, h'.2.2, if_neg (by omega), if_neg (by omega), if_pos h.2.1]
      rfl
    · rw [h.2.2.2.2, h'.2.2.2.2, if_neg (by omega), if_neg (by omega), if_neg (by omega)]
      rfl
  · rw [lx_pos (fun h => hr (cmpI_zero.1 h)), lx_pos (fun h => hr (cmpI_zero.1 h))]
theorem eqPE_rk {p q : PEV} (h : rkPE p ≠ rkPE q) : eqPE p q = false := by
  cases p <;> cases q <;> first | rfl | exact absurd rfl h
theorem eqE_law {x y : EV} (hx : JPE (toPE x)) (hy : JPE (toPE y)) : eqPE (toPE x) (toPE y) = eqE x y := by
  unfold eqE
  by_cases hr : rkE x = rkE y
  · rw [if_neg (by simpa using hr)]
    rcases toPE_kind x with h | h | h | h <;> rcases toPE_kind y with h' | h' | h' | h' <;> first
      | (exfalso; omega)
      | skip
    · rw [h.2.2, h'.2.2, if_pos h.2.1]
      show eqLx eqFd _ _ = _
      rw [flE_map, flE_map]
      exact eqLx_map _ fun f hf g hg => by
        show (decide _ && eqJ (plainJ f.2) (plainJ g.2)) = (decide _ && _)
        rw [eq_pl (kv_jok hx h.2.2 f hf) (kv_jok hy h'.2.2 g hg)]
    · rw [h.2.2, h'.2.2, if_neg (by omega), if_pos h.2.1]
      rw [h.2.2] at hx
      rw [h'.2.2] at hy
      exact eq_pl hx hy
    · rw [h.2.2, h'.2.2, if_neg (by omega), if_neg (by omega), if_pos h.2.1]
      rfl
    · rw [h.2.2.2.2, h'.2.2.2.2, if_neg (by omega), if_neg (by omega), if_neg (by omega)]
      rfl
  · rw [if_pos hr]
    exact eqPE_rk (by rw [rk_to, rk_to]; exact hr)
/-- spec.OrderlyElem, without the order of names. -/
theorem OPE_of {x : EV} (h : JPE (toPE x)) (h1 : ordV (cleanE x).v = true) (h2 : ordL (cleanE x).l = true) : OPE (toPE x) := by
  rcases toPE_kind x with k | k | k | k
  · rw [k.2.2] at h ⊢
    intro f hf
    rw [flE_map] at hf
    obtain ⟨g, hg, rfl⟩ := List.mem_map.1 hf
    have hj : JOk (plainJ g.2) := kv_jok (by rw [k.2.2]; exact h) k.2.2 g hg
    refine ⟨hj, OG_un _ hj ?_⟩
    rw [un_plain]
    rw [show (cleanE x).l = cleanL (x.l.take (min x.keys.length x.l.length)) by unfold cleanE; rw [if_pos k.1]] at h2
    refine ordL_iff.1 h2 _ ?_
    unfold kvE at hg
    obtain ⟨i, hi⟩ := List.getElem?_of_mem hg
    rw [List.getElem?_zip_eq_some] at hi
    have b1 := (List.getElem?_eq_some_iff.1 hi.1).1
    have b2 := (List.getElem?_eq_some_iff.1 hi.2).1
    refine List.mem_of_getElem? (i := i) ?_
    rw [cleanL_at, List.getElem?_take_of_lt (by omega), hi.2]
    rfl
  · rw [k.2.2] at h ⊢
    refine ⟨h, OG_un _ h ?_⟩
    rw [un_plain]
    rwa [show (cleanE x).v = cleanV x.v by unfold cleanE; rw [if_neg (by omega), if_pos k.1]] at h1
  · rw [k.2.2]; trivial
  · rw [k.2.2.2.2]; trivial
end Go.Proofs.YtbbacpdbbmjblaaGreat
end
section
set_option linter.unusedVariables false
namespace Go.Proofs.YtbbacpdbbmjblaaGreat
open Go.RowKit
set_option linter.unusedSimpArgs false
theorem ordVals_q (l : List GV) : PCall Tryz.prog 35 [.sl 6 88 (pdVs l)] (.val (.bool (ordL l))) := by
  intro w F vs hF hv
  unfold Reps at hv
  obtain ⟨v, r', rfl, hx, hr⟩ := hv
  unfold Reps at hr
  subst hr
  unfold Rep at hx
  rw [pdVs_len] at hx
  obtain ⟨a, c, rfl, h1, h2, h3, h4⟩ := hx
  refine (ordVals_any l w a c h2 ?_).mono ?_
  · rcases h4 with h4 | ⟨b, o, hb, rfl, hr⟩
    · left
      cases l with
      | nil => rfl
      | cons _ _ => unfold pdVs at h4; cases h4
    · exact .inr ⟨b, o, ⟨Nat.zero_le _, hF b hb⟩, rfl, IsVs.keep (fun _ _ => rfl) (fun b hb => ⟨Nat.zero_le _, hF b hb⟩) l b o hb (repL_isVs l hr)⟩
  · rintro e w' ⟨he, hb⟩
    exact ⟨_, he, hb, by unfold Rep; exact ⟨rfl, trivial⟩⟩
end Go.Proofs.YtbbacpdbbmjblaaGreat
end
