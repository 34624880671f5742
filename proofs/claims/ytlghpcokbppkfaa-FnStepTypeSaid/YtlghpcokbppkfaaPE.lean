/- Path elements as plain data: impl.Elem and the package's own; toElem, CleanElem, zzFits13 as contracts on data. -/
import Derived.Test.YtlghpcokbppkfaaLawsA
import Derived.Test.YtlghpcokbppkfaaToElem
import Derived.Test.YtlghpcokbppkfaaCleanElem
set_option linter.unusedVariables false
namespace Go.Proofs.Ytlghpcokbppkfaa
open Go.RowKit
set_option linter.unusedSimpArgs false
set_option maxRecDepth 10000
set_option maxHeartbeats 2000000

def pdE (x : EV) : PD := .agg [.val (.int .i64 x.kind), .val (.string x.s), .sl 1 16 (pdS x.keys), .sl 6 88 (pdVs x.l), .val (.int .i64 x.v.kind), .val (.int .i64 x.v.n), .val (.float .f64 x.v.f), .val (.string x.v.s), .sl 1 16 (pdS x.v.keys), .sl 6 88 (pdVs x.v.l), .val (.int .i64 x.n)]
section
variable {w : World} {F : Nat → Prop}
theorem rep_vals {l : List GV} {a : Option Addr} {n c : Nat} (h : Rep w F (.sl 6 88 (pdVs l)) (.slice a n c)) : n = l.length ∧ l.length ≤ c ∧ l.length * 88 ≤ 140737488351232 ∧ (l = [] ∨ ∃ b o, F b ∧ a = some ⟨b, o, none⟩ ∧ IsVs w F l b o) := by
  unfold Rep at h
  rw [pdVs_len] at h
  obtain ⟨a', c', e, h5, h6, _, h7⟩ := h
  injection e with e1 e2 e3
  subst e1 e2 e3
  refine ⟨rfl, h5, h6, ?_⟩
  rcases h7 with h7 | ⟨b, o, hF, rfl, hv⟩
  · left; cases l with | nil => rfl | cons _ _ => unfold pdVs at h7; cases h7
  · exact .inr ⟨b, o, hF, rfl, repL_isVs l hv⟩
theorem vals_rep {l : List GV} {a : Option Addr} {c : Nat} (h5 : l.length ≤ c) (h6 : l.length * 88 ≤ 140737488351232) (h : l = [] ∨ ∃ b o, F b ∧ a = some ⟨b, o, none⟩ ∧ IsVs w F l b o) : Rep w F (.sl 6 88 (pdVs l)) (.slice a l.length c) := by
  unfold Rep
  rw [pdVs_len]
  refine ⟨a, c, rfl, h5, h6, by omega, ?_⟩
  rcases h with rfl | ⟨b, o, hF, rfl, hv⟩
  · left; unfold pdVs; rfl
  · exact .inr ⟨b, o, hF, rfl, isVs_repL l hv⟩
theorem rep_isE {x : EV} {u : Value} (h : Rep w F (pdE x) u) : IsE w F x u := by
  unfold pdE Rep at h
  obtain ⟨vs, rfl, hr, h1⟩ := h
  simp only [Reps] at hr
  obtain ⟨v0, _, rfl, e0, v1, _, rfl, e1, v2, _, rfl, e2, v3, _, rfl, e3, v4, _, rfl, e4, v5, _, rfl, e5, v6, _, rfl, e6, v7, _, rfl, e7, v8, _, rfl, e8, v9, _, rfl, e9, v10, _, rfl, e10, rfl⟩ := hr
  have hV : Rep w F (pdV x.v) (.agg #[v4, v5, v6, v7, v8, v9]) := by
    rw [pdV_eq]; unfold Rep
    refine ⟨[v4, v5, v6, v7, v8, v9], rfl, ?_, fun u hu => h1 u ?_⟩
    rotate_left
    · simp only [List.mem_cons, List.not_mem_nil, or_false] at hu ⊢
      rcases hu with h | h | h | h | h | h <;> simp [h]
    simp only [Reps]
    exact ⟨_, _, rfl, e4, _, _, rfl, e5, _, _, rfl, e6, _, _, rfl, e7, _, _, rfl, e8, _, _, rfl, e9, rfl⟩
  have hE2 := rep_strs.1 e2
  obtain ⟨ak, ck, rfl, _⟩ := id hE2
  obtain ⟨a, c, rfl, _⟩ : ∃ a c, v3 = .slice a x.l.length c ∧ True := by
    have := e3
    unfold Rep at this
    rw [pdVs_len] at this
    obtain ⟨a, c, e, _⟩ := this
    exact ⟨a, c, e, trivial⟩
  obtain ⟨_, g1, g2, g3⟩ := rep_vals e3
  unfold Rep at e0 e1 e10
  obtain ⟨rfl, w0⟩ := e0
  obtain ⟨rfl, w1⟩ := e1
  obtain ⟨rfl, w10⟩ := e10
  exact ⟨ak, ck, a, c, v4, v5, v6, v7, v8, v9, rfl, w0, w10, w1, hE2, g1, g2, g3, rep_isV _ hV⟩
theorem isE_rep {x : EV} {u : Value} (h : IsE w F x u) : Rep w F (pdE x) u := by
  obtain ⟨ak, ck, a, c, c0, c1, c2, c3, c4, c5, rfl, h1, h2, h3, hk, h5, h6, hl, hv⟩ := h
  have hV := isV_rep _ hv
  rw [pdV_eq] at hV
  unfold Rep at hV
  obtain ⟨vs, e, hr, ho⟩ := hV
  simp only [Value.agg.injEq] at e
  have : vs = [c0, c1, c2, c3, c4, c5] := by simpa using (congrArg Array.toList e).symm
  subst this
  simp only [Reps] at hr
  obtain ⟨v4, _, e4', e4, v5, _, e5', e5, v6, _, e6', e6, v7, _, e7', e7, v8, _, e8', e8, v9, _, e9', e9, _⟩ := hr
  simp only [List.cons.injEq] at e4'
  obtain ⟨rfl, rfl⟩ := e4'
  simp only [List.cons.injEq] at e5'
  obtain ⟨rfl, rfl⟩ := e5'
  simp only [List.cons.injEq] at e6'
  obtain ⟨rfl, rfl⟩ := e6'
  simp only [List.cons.injEq] at e7'
  obtain ⟨rfl, rfl⟩ := e7'
  simp only [List.cons.injEq] at e8'
  obtain ⟨rfl, rfl⟩ := e8'
  simp only [List.cons.injEq] at e9'
  obtain ⟨rfl, _⟩ := e9'
  unfold pdE Rep
  refine ⟨_, rfl, ?_, ?_⟩
  · simp only [Reps]
    exact ⟨_, _, rfl, by unfold Rep; exact ⟨rfl, h1⟩, _, _, rfl, by unfold Rep; exact ⟨rfl, h3⟩, _, _, rfl, rep_strs.2 hk, _, _, rfl, vals_rep h5 h6 hl, _, _, rfl, e4, _, _, rfl, e5, _, _, rfl, e6, _, _, rfl, e7, _, _, rfl, e8, _, _, rfl, e9, _, _, rfl, by unfold Rep; exact ⟨rfl, h2⟩, rfl⟩
  · intro u hu
    simp only [List.mem_cons, List.not_mem_nil, or_false] at hu
    rcases hu with rfl | rfl | rfl | rfl | rfl | rfl | rfl | rfl | rfl | rfl | rfl
    all_goals first
      | rfl
      | exact ho _ (by simp)
theorem isE_arg {x : EV} {v : Value} (h : Rep w F (pdE x) v) (hF : ∀ b, F b → b < w.heap.size) : IsE w (Btw 0 w.heap.size) x v := (rep_isE h).keep (fun _ _ => rfl) (fun b hb => ⟨Nat.zero_le _, hF b hb⟩)
end
section
variable {P : Program} {f : FuncId}
theorem pcall_E1 {x : EV} {y : PD} {R : World → World → Value → Prop} (h : ∀ w v, IsE w (Btw 0 w.heap.size) x v → Calls P f #[v] w fun e w' => ∃ r, e = .returned r ∧ Below w.heap.size w w' ∧ R w w' r)
    (hR : ∀ (w w' : World) (r : Value) (F : Nat → Prop), R w w' r → Rep w' (fun b => F b ∨ (w.heap.size ≤ b ∧ b < w'.heap.size)) y r) : PCall P f [pdE x] y := by
  intro w F vs hF hv
  unfold Reps at hv
  obtain ⟨v, r', rfl, hx, hr⟩ := hv
  unfold Reps at hr
  subst hr
  refine (h w v (isE_arg hx hF)).mono ?_
  rintro e w' ⟨r, he, hb, hRr⟩
  exact ⟨r, he, hb, hR w w' r F hRr⟩
end

/-! ### The package's own -/
def pdVal (j : JV) : PD := .iface 205 (.ptr (pdJ j))
def pdFld (f : ByteArray × JV) : PD := .agg [.val (.string f.1), pdVal f.2]
/-- Within Go's bounds. -/
def PEOk : PEV → Prop
  | .key fl => (∀ f ∈ fl, JOk f.2) ∧ fl.length * 32 ≤ 140737488351232
  | .val j => JOk j
  | _ => True
def pdPE : PEV → PD
  | .name s => .agg [.ptr (.val (.string s)), nilP, nilP, nilP]
  | .key fl => .agg [nilP, .ptr (.sl 2 32 (fl.map pdFld)), nilP, nilP]
  | .val j => .agg [nilP, nilP, .ptr (pdVal j), nilP]
  | .idx n => .agg [nilP, nilP, nilP, .ptr (.val (.int .i64 n))]
section
variable {w : World} {F : Nat → Prop}
theorem isVal_rep {j : JV} {v : Value} (h : IsVal w F j v) (hj : JOk j) : Rep w F (pdVal j) v := by
  obtain ⟨b, r, rfl, hb, hh, hr⟩ := h
  unfold pdVal Rep
  refine ⟨_, rfl, ?_⟩
  unfold Rep
  refine ⟨b, 0, r, rfl, hb, ?_, ?_⟩
  · unfold pdJ Rep; exact ⟨hr, hj⟩
  · intro k u hk
    rw [hr.cells] at hk
    cases k with
    | zero => simp at hk; subst hk; exact blk_c hh 0 rfl
    | succ k => simp at hk
theorem repL_fl {g : Nat} : ∀ (fl : List (ByteArray × JV)) {xs : List Value} {o : Nat}, FCells w F fl xs → (∀ j u, xs[j]? = some u → w.cell? ⟨g, o + j, none⟩ = some u) → (∀ f ∈ fl, JOk f.2) → RepL w F 2 (fl.map pdFld) g o
  | [], _, _, _, _, _ => by simp [RepL]
  | (k, j) :: r, xs, o, hx, hc, hok => by
    obtain ⟨c, xs', rfl, hz, hv, hr⟩ := hx
    have hj := hok _ (List.mem_cons_self ..)
    obtain ⟨b, q, ec, _⟩ := id hv
    rw [List.map_cons]
    unfold RepL
    refine ⟨⟨.agg #[.string k, c], ?_, rfl, ?_, ?_⟩, repL_fl r hr (fun j' u hu => ?_) (fun f hf => hok f (List.mem_cons_of_mem _ hf))⟩
    · unfold pdFld Rep
      refine ⟨[.string k, c], rfl, ?_, ?_⟩
      · simp only [Reps]
        exact ⟨_, _, rfl, by unfold Rep; exact ⟨rfl, hz⟩, _, _, rfl, isVal_rep hv hj, rfl⟩
      · subst ec; simp [Value.oneCell']
    · subst ec; simp [Value.cells, Value.oneCell']
    · intro j' u hu
      refine hc j' u ?_
      match j', hu with
      | 0, hu => simpa [Value.cells] using hu
      | 1, hu => simpa [Value.cells] using hu
      | j' + 2, hu => simp [Value.cells] at hu
    · have := hc (2 + j') u (by rw [show 2 + j' = j' + 1 + 1 by omega]; simpa using hu)
      rwa [show o + (2 + j') = o + 2 + j' by omega] at this
theorem isPE_rep {p : PEV} {v : Value} (h : IsPE w F p v) (hp : PEOk p) : Rep w F (pdPE p) v := by
  have nilR : ∀ F', Rep w F' nilP (.pointer none) := fun F' => by unfold nilP Rep; exact ⟨rfl, trivial⟩
  cases p with
  | name s =>
    obtain ⟨b, rfl, hb, hh, hz⟩ := h
    unfold pdPE Rep
    refine ⟨_, rfl, ?_, by simp [Value.oneCell']⟩
    simp only [Reps]
    refine ⟨_, _, rfl, ?_, _, _, rfl, nilR _, _, _, rfl, nilR _, _, _, rfl, nilR _, rfl⟩
    unfold Rep
    refine ⟨b, 0, .string s, rfl, hb, by unfold Rep; exact ⟨rfl, hz⟩, fun k u hk => ?_⟩
    cases k with
    | zero => simp [Value.cells] at hk; subst hk; exact blk_c hh 0 rfl
    | succ k => simp [Value.cells] at hk
  | key fl =>
    obtain ⟨b, u, rfl, hb, hh, A, C, rfl, hC, hr⟩ := h
    obtain ⟨hok, hlen⟩ := hp
    unfold pdPE Rep
    refine ⟨_, rfl, ?_, by simp [Value.oneCell']⟩
    simp only [Reps]
    refine ⟨_, _, rfl, nilR _, _, _, rfl, ?_, _, _, rfl, nilR _, _, _, rfl, nilR _, rfl⟩
    unfold Rep
    refine ⟨b, 0, .slice A fl.length C, rfl, hb, ?_, fun k u hk => ?_⟩
    · unfold Rep
      rw [List.length_map]
      refine ⟨A, C, rfl, hC, hlen, by omega, ?_⟩
      rcases hr with rfl | ⟨g, o, xs, hg, rfl, hx, hc⟩
      · exact .inl rfl
      · exact .inr ⟨g, o, hg, rfl, repL_fl fl hx hc hok⟩
    · cases k with
      | zero => simp [Value.cells] at hk; subst hk; exact blk_c hh 0 rfl
      | succ k => simp [Value.cells] at hk
  | val j =>
    obtain ⟨b, u, rfl, hb, hh, hv⟩ := h
    unfold pdPE Rep
    refine ⟨_, rfl, ?_, by simp [Value.oneCell']⟩
    simp only [Reps]
    refine ⟨_, _, rfl, nilR _, _, _, rfl, nilR _, _, _, rfl, ?_, _, _, rfl, nilR _, rfl⟩
    have hR := isVal_rep hv hp
    obtain ⟨b', q, eu, _⟩ := id hv
    unfold Rep
    refine ⟨b, 0, u, rfl, hb, hR, fun k u' hk => ?_⟩
    subst eu
    cases k with
    | zero => simp [Value.cells] at hk; subst hk; exact blk_c hh 0 rfl
    | succ k => simp [Value.cells] at hk
  | idx n =>
    obtain ⟨b, rfl, hb, hh, hz⟩ := h
    unfold pdPE Rep
    refine ⟨_, rfl, ?_, by simp [Value.oneCell']⟩
    simp only [Reps]
    refine ⟨_, _, rfl, nilR _, _, _, rfl, nilR _, _, _, rfl, nilR _, _, _, rfl, ?_, rfl⟩
    unfold Rep
    refine ⟨b, 0, .int .i64 n, rfl, hb, by unfold Rep; exact ⟨rfl, hz⟩, fun k u hk => ?_⟩
    cases k with
    | zero => simp [Value.cells] at hk; subst hk; exact blk_c hh 0 rfl
    | succ k => simp [Value.cells] at hk
end
theorem toElem_p (x : EV) : PCall Try.prog 72 [pdE x] (pdPE (toPE x)) := by
  refine pcall_fits fun hf => ?_
  obtain ⟨w0, F0, v0, h0⟩ := hf (pdE x) (by simp)
  obtain ⟨ak, ck, a, c, c0, c1, c2, c3, c4, c5, e, h1, h2, h3, hk, h5, h6, hl, hv⟩ := rep_isE h0
  refine pcall_E1 (R := fun w w' r => IsPE w' (Btw w.heap.size w'.heap.size) (toPE x) r) (fun w v hv => toElem_any x w v hv) fun w w' r F h => ?_
  refine isPE_rep (h.keep (fun _ _ => rfl) (fun b hb => .inr hb)) ?_
  unfold toPE
  by_cases k1 : x.kind = 1
  · rw [if_pos k1]
    refine ⟨fun f hf => ?_, by rw [flE_length]; have := Nat.min_le_right x.keys.length x.l.length; omega⟩
    unfold flE at hf
    have hm := (List.of_mem_zip hf).2
    obtain ⟨y, hy, ey⟩ := List.mem_map.1 hm
    rw [← ey]
    refine plain_ok y ?_
    rcases hl with hl | ⟨b, o, hb, ha, hvs⟩
    · rw [hl] at hy; cases hy
    · obtain ⟨i, hi⟩ := List.getElem?_of_mem hy
      obtain ⟨u, hu, _⟩ := (isVs_repL _ hvs).at_ (pdVs_at hi)
      exact IsV.gok y (rep_isV y hu)
  · rw [if_neg k1]
    by_cases k2 : x.kind = 2
    · rw [if_pos k2]; exact plain_ok x.v (IsV.gok x.v hv)
    · rw [if_neg k2]
      by_cases k3 : x.kind = 3
      · rw [if_pos k3]; trivial
      · rw [if_neg k3]; trivial
theorem cleanE_p (x : EV) : PCall Try.prog 22 [pdE x] (pdE (cleanE x)) :=
  pcall_E1 (R := fun w w' r => IsE w' (Btw w.heap.size w'.heap.size) (cleanE x) r) (fun w v hv => cleanE_any x w v hv) fun w w' r F h => isE_rep (h.keep (fun _ _ => rfl) (fun b hb => .inr hb))
end Go.Proofs.Ytlghpcokbppkfaa
