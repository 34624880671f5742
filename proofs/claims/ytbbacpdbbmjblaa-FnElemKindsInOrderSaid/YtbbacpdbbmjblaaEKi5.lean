/- Part 5 of what the proof rests on. -/
import Derived.Laws.FloatArith
import Derived.Test.YtbbacpdbbmjblaaEKi2
import Derived.Test.YtbbacpdbbmjblaaEKi3
import Derived.Test.YtbbacpdbbmjblaaEKi4
section
set_option linter.unusedVariables false
namespace Go.Proofs.Ytbbacpdbbmjblaa
open Go.RowKit
set_option linter.unusedSimpArgs false
set_option maxRecDepth 10000
set_option maxHeartbeats 2000000
def pdE (x : EV) : PD := .agg [.val (.int .i64 x.kind), .val (.string x.s), .sl 1 16 (pdS x.keys), .sl 6 88 (pdVs x.l), .val (.int .i64 x.v.kind), .val (.int .i64 x.v.n), .val (.float .f64 x.v.f), .val (.string x.v.s), .sl 1 16 (pdS x.v.keys), .sl 6 88 (pdVs x.v.l), .val (.int .i64 x.n)]
section
variable {w : World} {F : Nat → Prop}
theorem rep_vals {l : List GV} {a : Option Addr} {n c : Nat} (h : Rep w F (.sl 6 88 (pdVs l)) (.slice a n c)) : n = l.length ∧ l.length ≤ c ∧ l.length * 88 ≤ 140737488351232 ∧ (l = [] ∨ ∃ b o, F b ∧ a = some ⟨b, o, none⟩ ∧ IsVs w F l b o) := by
  unfold Rep at h
  rw [pdVs_len] at h
  obtain ⟨a', c', e, h5, h6, _, h7⟩ := h
  injection e with e1 e2 e3
  subst e1 e2 e3
  refine ⟨rfl, h5, h6, ?_⟩
  rcases h7 with h7 | ⟨b, o, hF, rfl, hv⟩
  · left; cases l with | nil => rfl | cons _ _ => unfold pdVs at h7; cases h7
  · exact .inr ⟨b, o, hF, rfl, repL_isVs l hv⟩
theorem vals_rep {l : List GV} {a : Option Addr} {c : Nat} (h5 : l.length ≤ c) (h6 : l.length * 88 ≤ 140737488351232) (h : l = [] ∨ ∃ b o, F b ∧ a = some ⟨b, o, none⟩ ∧ IsVs w F l b o) : Rep w F (.sl 6 88 (pdVs l)) (.slice a l.length c) := by
  unfold Rep
  rw [pdVs_len]
  refine ⟨a, c, rfl, h5, h6, by omega, ?_⟩
  rcases h with rfl | ⟨b, o, hF, rfl, hv⟩
  · left; unfold pdVs; rfl
  · exact .inr ⟨b, o, hF, rfl, isVs_repL l hv⟩
theorem rep_isE {x : EV} {u : Value} (h : Rep w F (pdE x) u) : IsE w F x u := by
  unfold pdE Rep at h
  obtain ⟨vs, rfl, hr, h1⟩ := h
  simp only [Reps] at hr
  obtain ⟨v0, _, rfl, e0, v1, _, rfl, e1, v2, _, rfl, e2, v3, _, rfl, e3, v4, _, rfl, e4, v5, _, rfl, e5, v6, _, rfl, e6, v7, _, rfl, e7, v8, _, rfl, e8, v9, _, rfl, e9, v10, _, rfl, e10, rfl⟩ := hr
  have hV : Rep w F (pdV x.v) (.agg #[v4, v5, v6, v7, v8, v9]) := by
    rw [pdV_eq]; unfold Rep
    refine ⟨[v4, v5, v6, v7, v8, v9], rfl, ?_, fun u hu => h1 u ?_⟩
    rotate_left
    · simp only [List.mem_cons, List.not_mem_nil, or_false] at hu ⊢
      rcases hu with h | h | h | h | h | h <;> simp [h]
    simp only [Reps]
    exact ⟨_, _, rfl, e4, _, _, rfl, e5, _, _, rfl, e6, _, _, rfl, e7, _, _, rfl, e8, _, _, rfl, e9, rfl⟩
  have hE2 := rep_strs.1 e2
  obtain ⟨ak, ck, rfl, _⟩ := id hE2
  obtain ⟨a, c, rfl, _⟩ : ∃ a c, v3 = .slice a x.l.length c ∧ True := by
    have := e3
    unfold Rep at this
    rw [pdVs_len] at this
    obtain ⟨a, c, e, _⟩ := this
    exact ⟨a, c, e, trivial⟩
  obtain ⟨_, g1, g2, g3⟩ := rep_vals e3
  unfold Rep at e0 e1 e10
  obtain ⟨rfl, w0⟩ := e0
  obtain ⟨rfl, w1⟩ := e1
  obtain ⟨rfl, w10⟩ := e10
  exact ⟨ak, ck, a, c, v4, v5, v6, v7, v8, v9, rfl, w0, w10, w1, hE2, g1, g2, g3, rep_isV _ hV⟩
theorem isE_rep {x : EV} {u : Value} (h : IsE w F x u) : Rep w F (pdE x) u := by
  obtain ⟨ak, ck, a, c, c0, c1, c2, c3, c4, c5, rfl, h1, h2, h3, hk, h5, h6, hl, hv⟩ := h
  have hV := isV_rep _ hv
  rw [pdV_eq] at hV
  unfold Rep at hV
  obtain ⟨vs, e, hr, ho⟩ := hV
  simp only [Value.agg.injEq] at e
  have : vs = [c0, c1, c2, c3, c4, c5] := by simpa using (congrArg Array.toList e).symm
  subst this
  simp only [Reps] at hr
  obtain ⟨v4, _, e4', e4, v5, _, e5', e5, v6, _, e6', e6, v7, _, e7', e7, v8, _, e8', e8, v9, _, e9', e9, _⟩ := hr
  simp only [List.cons.injEq] at e4'
  obtain ⟨rfl, rfl⟩ := e4'
  simp only [List.cons.injEq] at e5'
  obtain ⟨rfl, rfl⟩ := e5'
  simp only [List.cons.injEq] at e6'
  obtain ⟨rfl, rfl⟩ := e6'
  simp only [List.cons.injEq] at e7'
  obtain ⟨rfl, rfl⟩ := e7'
  simp only [List.cons.injEq] at e8'
  obtain ⟨rfl, rfl⟩ := e8'
  simp only [List.cons.injEq] at e9'
  obtain ⟨rfl, _⟩ := e9'
  unfold pdE Rep
  refine ⟨_, rfl, ?_, ?_⟩
  · simp only [Reps]
    exact ⟨_, _, rfl, by unfold Rep; exact ⟨rfl, h1⟩, _, _, rfl, by unfold Rep; exact ⟨rfl, h3⟩, _, _, rfl, rep_strs.2 hk, _, _, rfl, vals_rep h5 h6 hl, _, _, rfl, e4, _, _, rfl, e5, _, _, rfl, e6, _, _, rfl, e7, _, _, rfl, e8, _, _, rfl, e9, _, _, rfl, by unfold Rep; exact ⟨rfl, h2⟩, rfl⟩
  · intro u hu
    simp only [List.mem_cons, List.not_mem_nil, or_false] at hu
    rcases hu with rfl | rfl | rfl | rfl | rfl | rfl | rfl | rfl | rfl | rfl | rfl
    all_goals first
      | rfl
      | exact ho _ (by simp)
theorem isE_arg {x : EV} {v : Value} (h : Rep w F (pdE x) v) (hF : ∀ b, F b → b < w.heap.size) : IsE w (Btw 0 w.heap.size) x v := (rep_isE h).keep (fun _ _ => rfl) (fun b hb => ⟨Nat.zero_le _, hF b hb⟩)
end
section
variable {P : Program} {f : FuncId}
theorem pcall_E1 {x : EV} {y : PD} {R : World → World → Value → Prop} (h : ∀ w v, IsE w (Btw 0 w.heap.size) x v → Calls P f #[v] w fun e w' => ∃ r, e = .returned r ∧ Below w.heap.size w w' ∧ R w w' r)
    (hR : ∀ (w w' : World) (r : Value) (F : Nat → Prop), R w w' r → Rep w' (fun b => F b ∨ (w.heap.size ≤ b ∧ b < w'.heap.size)) y r) : PCall P f [pdE x] y := by
  intro w F vs hF hv
  unfold Reps at hv
  obtain ⟨v, r', rfl, hx, hr⟩ := hv
  unfold Reps at hr
  subst hr
  refine (h w v (isE_arg hx hF)).mono ?_
  rintro e w' ⟨r, he, hb, hRr⟩
  exact ⟨r, he, hb, hR w w' r F hRr⟩
end
def pdVal (j : JV) : PD := .iface 139 (.ptr (pdJ j))
def pdFld (f : ByteArray × JV) : PD := .agg [.val (.string f.1), pdVal f.2]
/-- Within Go's bounds. -/
def PEOk : PEV → Prop
  | .key fl => (∀ f ∈ fl, JOk f.2) ∧ fl.length * 32 ≤ 140737488351232
  | .val j => JOk j
  | _ => True
def pdPE : PEV → PD
  | .name s => .agg [.ptr (.val (.string s)), nilP, nilP, nilP]
  | .key fl => .agg [nilP, .ptr (.sl 2 32 (fl.map pdFld)), nilP, nilP]
  | .val j => .agg [nilP, nilP, .ptr (pdVal j), nilP]
  | .idx n => .agg [nilP, nilP, nilP, .ptr (.val (.int .i64 n))]
section
variable {w : World} {F : Nat → Prop}
theorem isVal_rep {j : JV} {v : Value} (h : IsVal w F j v) (hj : JOk j) : Rep w F (pdVal j) v := by
  obtain ⟨b, r, rfl, hb, hh, hr⟩ := h
  unfold pdVal Rep
  refine ⟨_, rfl, ?_⟩
  unfold Rep
  refine ⟨b, 0, r, rfl, hb, ?_, ?_⟩
  · unfold pdJ Rep; exact ⟨hr, hj⟩
  · intro k u hk
    rw [hr.cells] at hk
    cases k with
    | zero => simp at hk; subst hk; exact blk_c hh 0 rfl
    | succ k => simp at hk
theorem repL_fl {g : Nat} : ∀ (fl : List (ByteArray × JV)) {xs : List Value} {o : Nat}, FCells w F fl xs → (∀ j u, xs[j]? = some u → w.cell? ⟨g, o + j, none⟩ = some u) → (∀ f ∈ fl, JOk f.2) → RepL w F 2 (fl.map pdFld) g o
  | [], _, _, _, _, _ => by simp [RepL]
  | (k, j) :: r, xs, o, hx, hc, hok => by
    obtain ⟨c, xs', rfl, hz, hv, hr⟩ := hx
    have hj := hok _ (List.mem_cons_self ..)
    obtain ⟨b, q, ec, _⟩ := id hv
    rw [List.map_cons]
    unfold RepL
    refine ⟨⟨.agg #[.string k, c], ?_, rfl, ?_, ?_⟩, repL_fl r hr (fun j' u hu => ?_) (fun f hf => hok f (List.mem_cons_of_mem _ hf))⟩
    · unfold pdFld Rep
      refine ⟨[.string k, c], rfl, ?_, ?_⟩
      · simp only [Reps]
        exact ⟨_, _, rfl, by unfold Rep; exact ⟨rfl, hz⟩, _, _, rfl, isVal_rep hv hj, rfl⟩
      · subst ec; simp [Value.oneCell']
    · subst ec; simp [Value.cells, Value.oneCell']
    · intro j' u hu
      refine hc j' u ?_
      match j', hu with
      | 0, hu => simpa [Value.cells] using hu
      | 1, hu => simpa [Value.cells] using hu
      | j' + 2, hu => simp [Value.cells] at hu
    · have := hc (2 + j') u (by rw [show 2 + j' = j' + 1 + 1 by omega]; simpa using hu)
      rwa [show o + (2 + j') = o + 2 + j' by omega] at this
theorem isPE_rep {p : PEV} {v : Value} (h : IsPE w F p v) (hp : PEOk p) : Rep w F (pdPE p) v := by
  have nilR : ∀ F', Rep w F' nilP (.pointer none) := fun F' => by unfold nilP Rep; exact ⟨rfl, trivial⟩
  cases p with
  | name s =>
    obtain ⟨b, rfl, hb, hh, hz⟩ := h
    unfold pdPE Rep
    refine ⟨_, rfl, ?_, by simp [Value.oneCell']⟩
    simp only [Reps]
    refine ⟨_, _, rfl, ?_, _, _, rfl, nilR _, _, _, rfl, nilR _, _, _, rfl, nilR _, rfl⟩
    unfold Rep
    refine ⟨b, 0, .string s, rfl, hb, by unfold Rep; exact ⟨rfl, hz⟩, fun k u hk => ?_⟩
    cases k with
    | zero => simp [Value.cells] at hk; subst hk; exact blk_c hh 0 rfl
    | succ k => simp [Value.cells] at hk
  | key fl =>
    obtain ⟨b, u, rfl, hb, hh, A, C, rfl, hC, hr⟩ := h
    obtain ⟨hok, hlen⟩ := hp
    unfold pdPE Rep
    refine ⟨_, rfl, ?_, by simp [Value.oneCell']⟩
    simp only [Reps]
    refine ⟨_, _, rfl, nilR _, _, _, rfl, ?_, _, _, rfl, nilR _, _, _, rfl, nilR _, rfl⟩
    unfold Rep
    refine ⟨b, 0, .slice A fl.length C, rfl, hb, ?_, fun k u hk => ?_⟩
    · unfold Rep
      rw [List.length_map]
      refine ⟨A, C, rfl, hC, hlen, by omega, ?_⟩
      rcases hr with rfl | ⟨g, o, xs, hg, rfl, hx, hc⟩
      · exact .inl rfl
      · exact .inr ⟨g, o, hg, rfl, repL_fl fl hx hc hok⟩
    · cases k with
      | zero => simp [Value.cells] at hk; subst hk; exact blk_c hh 0 rfl
      | succ k => simp [Value.cells] at hk
  | val j =>
    obtain ⟨b, u, rfl, hb, hh, hv⟩ := h
    unfold pdPE Rep
    refine ⟨_, rfl, ?_, by simp [Value.oneCell']⟩
    simp only [Reps]
    refine ⟨_, _, rfl, nilR _, _, _, rfl, nilR _, _, _, rfl, ?_, _, _, rfl, nilR _, rfl⟩
    have hR := isVal_rep hv hp
    obtain ⟨b', q, eu, _⟩ := id hv
    unfold Rep
    refine ⟨b, 0, u, rfl, hb, hR, fun k u' hk => ?_⟩
    subst eu
    cases k with
    | zero => simp [Value.cells] at hk; subst hk; exact blk_c hh 0 rfl
    | succ k => simp [Value.cells] at hk
  | idx n =>
    obtain ⟨b, rfl, hb, hh, hz⟩ := h
    unfold pdPE Rep
    refine ⟨_, rfl, ?_, by simp [Value.oneCell']⟩
    simp only [Reps]
    refine ⟨_, _, rfl, nilR _, _, _, rfl, nilR _, _, _, rfl, nilR _, _, _, rfl, ?_, rfl⟩
    unfold Rep
    refine ⟨b, 0, .int .i64 n, rfl, hb, by unfold Rep; exact ⟨rfl, hz⟩, fun k u hk => ?_⟩
    cases k with
    | zero => simp [Value.cells] at hk; subst hk; exact blk_c hh 0 rfl
    | succ k => simp [Value.cells] at hk
end
theorem toElem_p (x : EV) : PCall Try.prog 69 [pdE x] (pdPE (toPE x)) := by
  refine pcall_fits fun hf => ?_
  obtain ⟨w0, F0, v0, h0⟩ := hf (pdE x) (by simp)
  obtain ⟨ak, ck, a, c, c0, c1, c2, c3, c4, c5, e, h1, h2, h3, hk, h5, h6, hl, hv⟩ := rep_isE h0
  refine pcall_E1 (R := fun w w' r => IsPE w' (Btw w.heap.size w'.heap.size) (toPE x) r) (fun w v hv => toElem_any x w v hv) fun w w' r F h => ?_
  refine isPE_rep (h.keep (fun _ _ => rfl) (fun b hb => .inr hb)) ?_
  unfold toPE
  by_cases k1 : x.kind = 1
  · rw [if_pos k1]
    refine ⟨fun f hf => ?_, by rw [flE_length]; have := Nat.min_le_right x.keys.length x.l.length; omega⟩
    unfold flE at hf
    have hm := (List.of_mem_zip hf).2
    obtain ⟨y, hy, ey⟩ := List.mem_map.1 hm
    rw [← ey]
    refine plain_ok y ?_
    rcases hl with hl | ⟨b, o, hb, ha, hvs⟩
    · rw [hl] at hy; cases hy
    · obtain ⟨i, hi⟩ := List.getElem?_of_mem hy
      obtain ⟨u, hu, _⟩ := (isVs_repL _ hvs).at_ (pdVs_at hi)
      exact IsV.gok y (rep_isV y hu)
  · rw [if_neg k1]
    by_cases k2 : x.kind = 2
    · rw [if_pos k2]; exact plain_ok x.v (IsV.gok x.v hv)
    · rw [if_neg k2]
      by_cases k3 : x.kind = 3
      · rw [if_pos k3]; trivial
      · rw [if_neg k3]; trivial
theorem cleanE_p (x : EV) : PCall Try.prog 36 [pdE x] (pdE (cleanE x)) :=
  pcall_E1 (R := fun w w' r => IsE w' (Btw w.heap.size w'.heap.size) (cleanE x) r) (fun w v hv => cleanE_any x w v hv) fun w w' r F h => isE_rep (h.keep (fun _ _ => rfl) (fun b hb => .inr hb))
end Go.Proofs.Ytbbacpdbbmjblaa
end
section
set_option linter.unusedVariables false
namespace Go.Proofs.Ytbbacpdbbmjblaa
open Go.RowKit
set_option linter.unusedSimpArgs false
mutual
def renA (θ : Nat → Nat) : AV → AV
  | .any => .any
  | .dat d => .dat d
  | .ptr k off => .ptr (θ k) off
  | .own k => .own (θ k)
  | .agg l => .agg (renAs θ l)
  | .tup l => .tup (renAs θ l)
  | .iface t x => .iface t (renA θ x)
  | .clo f l => .clo f (renAs θ l)
  | .elt k n i off => .elt (θ k) n i off
def renAs (θ : Nat → Nat) : List AV → List AV
  | [] => []
  | x :: r => renA θ x :: renAs θ r
end
def renB (θ : Nat → Nat) : Blk → Blk
  | .box t cs => .box t (renAs θ cs)
  | .row e n y l => .row e n y l
  | .res R => .res R
  | .dead => .dead
theorem renB_kind (θ : Nat → Nat) (x : Blk) : (renB θ x).kind = x.kind := by cases x <;> rfl
theorem renB_live (θ : Nat → Nat) (x : Blk) : (renB θ x).live = x.live := by cases x <;> rfl
section
variable {w w' : World} {F F' : Nat → Prop} {t1 t2 : Nat → Option Blk} {ρ1 ρ2 : Nat → RV} {θ : Nat → Nat}
/-- From the callee's names to the caller's. -/
theorem heldK.ren (K : Nat → Prop) (hk : ∀ k x, t1 k = some x → t2 (θ k) = some (renB θ x) ∧ (ρ2 (θ k)).v = (ρ1 k).v) {k : Nat} {p : Value → Prop} (h : heldK t1 ρ1 k p) : heldK t2 ρ2 (θ k) p := by
  rcases h with ⟨x, h1, h2, h3⟩ | h1
  · obtain ⟨g1, g2⟩ := hk k x h1
    exact .inl ⟨_, g1, by rw [renB_kind]; exact h2, by rw [g2]; exact h3⟩
  · exact .inr (hk k _ h1).1
mutual
theorem VR.ren (hs : ∀ b, F b → F' b) (hk : ∀ k x, t1 k = some x → t2 (θ k) = some (renB θ x) ∧ (ρ2 (θ k)).v = (ρ1 k).v) : ∀ (x : AV) {v : Value}, VR w F t1 ρ1 x v → VR w F' t2 ρ2 (renA θ x) v
  | .any, v, _ => by unfold renA VR; trivial
  | .dat d, v, hv => by unfold renA; unfold VR at hv ⊢; exact hv.keep (fun _ _ => rfl) hs d
  | .ptr k off, v, hv => by
    unfold renA; unfold VR at hv ⊢
    obtain ⟨t, cs, b, h1, h2, h3⟩ := hv
    obtain ⟨g1, g2⟩ := hk k _ h1
    exact ⟨t, _, b, g1, g2.trans h2, h3⟩
  | .own k, v, hv => by unfold renA; unfold VR at hv ⊢; exact ⟨hv.1, hv.2.ren (fun _ => True) hk⟩
  | .elt k n i off, v, hv => by unfold renA; unfold VR at hv ⊢; exact ⟨hv.1, hv.2.ren (fun _ => True) hk⟩
  | .agg l, v, hv => by
    unfold renA; unfold VR at hv ⊢
    obtain ⟨vs, e, h1, h2⟩ := hv
    exact ⟨vs, e, VRs.ren hs hk l h1, h2⟩
  | .tup l, v, hv => by
    unfold renA; unfold VR at hv ⊢
    obtain ⟨vs, e, h1⟩ := hv
    exact ⟨vs, e, VRs.ren hs hk l h1⟩
  | .iface t x, v, hv => by
    unfold renA; unfold VR at hv ⊢
    obtain ⟨u, e, h1⟩ := hv
    exact ⟨u, e, VR.ren hs hk x h1⟩
  | .clo f l, v, hv => by
    unfold renA; unfold VR at hv ⊢
    obtain ⟨vs, e, h1⟩ := hv
    exact ⟨vs, e, VRs.ren hs hk l h1⟩
theorem VRs.ren (hs : ∀ b, F b → F' b) (hk : ∀ k x, t1 k = some x → t2 (θ k) = some (renB θ x) ∧ (ρ2 (θ k)).v = (ρ1 k).v) : ∀ (l : List AV) {vs : List Value}, VRs w F t1 ρ1 l vs → VRs w F' t2 ρ2 (renAs θ l) vs
  | [], vs, hv => by unfold renAs; unfold VRs at hv ⊢; exact hv
  | x :: r, vs, hv => by
    unfold renAs; unfold VRs at hv ⊢
    obtain ⟨v, q, e, h1, h2⟩ := hv
    exact ⟨v, q, e, VR.ren hs hk x h1, VRs.ren hs hk r h2⟩
end
/-- From the caller's names to the callee's: of the keys that the value bears. -/
theorem heldK.ner (K : Nat → Prop) (hk : ∀ k, K k → ∃ x, t1 k = some x ∧ t2 (θ k) = some (renB θ x) ∧ (ρ2 (θ k)).v = (ρ1 k).v) {k : Nat} (hK : K k) {p : Value → Prop} (h : heldK t2 ρ2 (θ k) p) : heldK t1 ρ1 k p := by
  obtain ⟨x, g0, g1, g2⟩ := hk k hK
  rcases h with ⟨y, h1, h2, h3⟩ | h1
  · rw [g1] at h1
    cases h1
    rw [renB_kind] at h2
    exact .inl ⟨x, g0, h2, by rw [← g2]; exact h3⟩
  · rw [g1] at h1
    simp only [Option.some.injEq] at h1
    refine .inr ?_
    cases x <;> simp [renB] at h1
    exact g0
mutual
theorem VR.ner (K : Nat → Prop) (hs : ∀ b, F b → F' b) (hk : ∀ k, K k → ∃ x, t1 k = some x ∧ t2 (θ k) = some (renB θ x) ∧ (ρ2 (θ k)).v = (ρ1 k).v) : ∀ (x : AV) {v : Value}, (∀ k ∈ keysA x, K k) → VR w F t2 ρ2 (renA θ x) v → VR w F' t1 ρ1 x v
  | .any, v, _, _ => by unfold VR; trivial
  | .dat d, v, _, hv => by unfold renA at hv; unfold VR at hv ⊢; exact hv.keep (fun _ _ => rfl) hs d
  | .ptr k off, v, hK, hv => by
    unfold renA at hv; unfold VR at hv ⊢
    obtain ⟨t, cs, b, h1, h2, h3⟩ := hv
    obtain ⟨x, g0, g1, g2⟩ := hk k (hK k (by simp [keysA]))
    rw [g1] at h1
    cases x <;> simp [renB] at h1
    exact ⟨_, _, b, g0, g2.symm.trans h2, h3⟩
  | .own k, v, hK, hv => by unfold renA at hv; unfold VR at hv ⊢; exact ⟨hv.1, hv.2.ner K hk (hK k (by simp [keysA]))⟩
  | .elt k n i off, v, hK, hv => by unfold renA at hv; unfold VR at hv ⊢; exact ⟨hv.1, hv.2.ner K hk (hK k (by simp [keysA]))⟩
  | .agg l, v, hK, hv => by
    unfold renA at hv; unfold VR at hv ⊢
    obtain ⟨vs, e, h1, h2⟩ := hv
    exact ⟨vs, e, VRs.ner K hs hk l (fun k h => hK k (by simpa [keysA] using h)) h1, h2⟩
  | .tup l, v, hK, hv => by
    unfold renA at hv; unfold VR at hv ⊢
    obtain ⟨vs, e, h1⟩ := hv
    exact ⟨vs, e, VRs.ner K hs hk l (fun k h => hK k (by simpa [keysA] using h)) h1⟩
  | .iface t x, v, hK, hv => by
    unfold renA at hv; unfold VR at hv ⊢
    obtain ⟨u, e, h1⟩ := hv
    exact ⟨u, e, VR.ner K hs hk x (fun k h => hK k (by simpa [keysA] using h)) h1⟩
  | .clo f l, v, hK, hv => by
    unfold renA at hv; unfold VR at hv ⊢
    obtain ⟨vs, e, h1⟩ := hv
    exact ⟨vs, e, VRs.ner K hs hk l (fun k h => hK k (by simpa [keysA] using h)) h1⟩
theorem VRs.ner (K : Nat → Prop) (hs : ∀ b, F b → F' b) (hk : ∀ k, K k → ∃ x, t1 k = some x ∧ t2 (θ k) = some (renB θ x) ∧ (ρ2 (θ k)).v = (ρ1 k).v) : ∀ (l : List AV) {vs : List Value}, (∀ k ∈ keysAs l, K k) → VRs w F t2 ρ2 (renAs θ l) vs → VRs w F' t1 ρ1 l vs
  | [], vs, _, hv => by unfold renAs at hv; unfold VRs at hv ⊢; exact hv
  | x :: r, vs, hK, hv => by
    unfold renAs at hv; unfold VRs at hv ⊢
    obtain ⟨v, q, e, h1, h2⟩ := hv
    exact ⟨v, q, e, VR.ner K hs hk x (fun k h => hK k (by simp only [keysAs, List.mem_append]; exact .inl h)) h1, VRs.ner K hs hk r (fun k h => hK k (by simp only [keysAs, List.mem_append]; exact .inr h)) h2⟩
end
end
/-- The blocks of a table lie in memory, apart from one another. -/
structure Lies2 (X : Base) (tb : Nat → Option Blk) (w : World) (ρ : Nat → RV) : Prop where
  blks : ∀ k x, tb k = some x → BR X w tb ρ k x
  apart : ∀ k k' b, liveB (tb k) = true → liveB (tb k') = true → (ρ k).fp b → (ρ k').fp b → k = k'
  lent : ∀ k, 1000 ≤ k → liveB (tb k) = true → (ρ k).v = X.rv k
/-- What a function answers where blocks (the keys from 1000 on) are lent to it: one of these results, with these blocks. -/
def ACall (P : Program) (f : FuncId) (az : List AV) (tbl : List (Nat × Blk)) {ι : Type} (out : ι → AV) (tbl' : ι → List (Nat × Blk)) : Prop :=
  ∀ (X : Base) (ρ : Nat → RV) (vs : List Value), X.P = P → (∀ b, X.L b ↔ ∃ k, liveB (lkB tbl k) = true ∧ (ρ k).fp b) → (∀ b, X.F0 b → ¬ X.L b) → Lies2 X (lkB tbl) X.w0 ρ → VRs X.w0 (FF X X.w0 (lkB tbl) ρ) (lkB tbl) ρ az vs →
    Calls P f vs.toArray X.w0 fun e w' => ∃ v i ρ', e = .returned v ∧ Bel X w' ∧ Lies2 X (lkB (tbl' i)) w' ρ' ∧ VR w' (FF X w' (lkB (tbl' i)) ρ') (lkB (tbl' i)) ρ' (out i) v
def startA (az : List AV) (tbl : List (Nat × Blk)) : Sta := { tm := fun i => match az[i]? with | some x => x | none => .any, tb := lkB tbl }
/-- What comes back out of the state s. -/
def resA (P : Program) (fn : Func) (r : AV) (s : Sta) : Prop := ∀ X a w, Conc X s a w → ∃ v, (results fn a.tmps).run P w = .ok v w ∧ ∀ ρ, ConcAt X s a w ρ → VR w (FF X w s.tb ρ) s.tb ρ r v
def QA (P : Program) (X : Base) (fn : Func) {ι : Type} (out : ι → AV) (tbl' : ι → List (Nat × Blk)) : Exit → Act → World → Prop :=
  fun e a w => (e = .normal ∨ e = .ret) ∧ ∃ s i, resA P fn (out i) s ∧ s.tb = lkB (tbl' i) ∧ Conc X s a w
def lentKeys : List (Nat × Blk) → Bool
  | [] => true
  | (k, _) :: r => Nat.ble 1000 k && lentKeys r
theorem lentKeys_spec : ∀ {l : List (Nat × Blk)}, lentKeys l = true → ∀ k x, lkB l k = some x → 1000 ≤ k
  | [], _, k, x, h => by simp [lkB] at h
  | (q, y) :: r, hl, k, x, h => by
    simp only [lentKeys, Bool.and_eq_true] at hl
    unfold lkB at h
    split at h
    · rename_i e; subst e; exact Nat.le_of_ble_eq_true hl.1
    · exact lentKeys_spec hl.2 k x h
theorem acall_of_run {P : Program} {f : FuncId} {fn : Func} {c : Code} {N : Nat} {az : List AV} {tbl : List (Nat × Blk)} {ι : Type} {out : ι → AV} {tbl' : ι → List (Nat × Blk)} (hf : P.funcs[f]? = some fn) (hb : fn.body = some c) (hN : fn.ntmps = N)
    (hle : (Nat.ble az.length N && Nat.ble N 1000) = true) (h : ∀ (X : Base), Run P X N (QA P X fn out tbl') [.code c] (startA az tbl)) : ACall P f az tbl out tbl' := by
  intro X0 ρ vs hP hL hFL hlie hvs
  refine calls_of_wp_defers hf hb ?_
  have hlen := hvs.length
  simp only [Bool.and_eq_true] at hle
  have hle1 := Nat.le_of_ble_eq_true hle.2
  have hle := Nat.le_of_ble_eq_true hle.1
  let X : Base := { w0 := X0.w0, F0 := X0.F0, L := X0.L, B := X0.B, N := N, P := P, rv := X0.rv, hF0 := X0.hF0, hB := X0.hB, hN := hle1 }
  have hsz : vs.toArray.size = az.length := by simpa using hlen
  have hc : Conc X (startA az tbl) { tmps := vs.toArray ++ Array.replicate (fn.ntmps - vs.toArray.size) undef, defers := [] } X0.w0 := by
    refine ⟨ρ, by simp [X]; omega, (fun d hd => by cases hd), Bel.refl X, fun t => ?_, hlie.blks, hlie.apart, hlie.lent⟩
    show VR _ _ _ _ (match az[t]? with | some x => x | none => .any) _
    cases hd : az[t]? with
    | none => simp only; unfold VR; trivial
    | some d =>
      simp only
      obtain ⟨v, hv, hr⟩ := hvs.at_ hd
      have hlt : t < vs.length := (List.getElem?_eq_some_iff.1 hv).1
      have : (vs.toArray ++ Array.replicate (fn.ntmps - vs.toArray.size) undef).getD t undef = v := by
        rw [Array.getD_eq_getD_getElem?, Array.getElem?_append_left (by simpa using hlt)]
        simp [hv]
      rw [this]
      exact hr
  have hrun := (h X).out ⟨rfl, rfl⟩ _ _ hc
  refine wp_mono hrun ?_
  rintro e a' w' ⟨he, s', i, hres, htb, hcon⟩
  have hpost : Leaves P fn a'.tmps (fun e w' => ∃ v i ρ', e = .returned v ∧ Bel X0 w' ∧ Lies2 X0 (lkB (tbl' i)) w' ρ' ∧ VR w' (FF X0 w' (lkB (tbl' i)) ρ') (lkB (tbl' i)) ρ' (out i) v) a'.defers .returning w' := by
    obtain ⟨ρ0, hρ0⟩ := hcon
    refine leaves_harmless hρ0.defers fun w'' hb'' => ?_
    have hρ := hρ0.grow hb''
    obtain ⟨v, hv, hrep⟩ := hres X a' w'' ⟨ρ0, hρ⟩
    have h1 := hrep ρ0 hρ
    rw [htb] at h1
    refine ⟨v, hv, v, i, ρ0, rfl, ⟨hρ.below.os, hρ.below.tape, hρ.below.output, hρ.below.size, hρ.below.block⟩, ⟨?_, ?_, ?_⟩, h1⟩
    · intro k x hk; have := hρ.blks k x (by rw [htb]; exact hk); rw [htb] at this; exact this
    · intro k k' b h1 h2; exact hρ.apart k k' b (by rw [htb]; exact h1) (by rw [htb]; exact h2)
    · intro k hk h1; exact hρ.lent k hk (by rw [htb]; exact h1)
  rcases he with rfl | rfl <;> exact hpost
end Go.Proofs.Ytbbacpdbbmjblaa
set_option linter.unusedVariables false
namespace Go.Proofs.Ytbbacpdbbmjblaa
open Go.RowKit
set_option linter.unusedSimpArgs false
/-- The callee's table, laid over the caller's by other names. -/
def mergeT (θ : Nat → Nat) : List (Nat × Blk) → (Nat → Option Blk) → Nat → Option Blk
  | [], tb => tb
  | (k, x) :: r, tb => upd (mergeT θ r tb) (θ k) (some (renB θ x))
def mergeR (θ : Nat → Nat) (ρ' : Nat → RV) : List (Nat × Blk) → (Nat → RV) → Nat → RV
  | [], ρ => ρ
  | (k, _) :: r, ρ => upd (mergeR θ ρ' r ρ) (θ k) (ρ' k)
def Sta.lend (s : Sta) (θ : Nat → Nat) (l : List (Nat × Blk)) : Sta := { tm := s.tm, tb := mergeT θ l s.tb }
/-- The caller has these blocks. -/
def TbOk (s : Sta) (θ : Nat → Nat) : List (Nat × Blk) → Prop
  | [] => True
  | (k, x) :: r => s.tb (θ k) = some (renB θ x) ∧ TbOk s θ r
/-- Those that are new are free names. -/
def FreshOk (s : Sta) (θ : Nat → Nat) : List (Nat × Blk) → Prop
  | [] => True
  | (k, _) :: r => (Nat.ble 1000 k = true ∨ (s.tb (θ k) = none ∧ Nat.blt (θ k) 1000 = true)) ∧ FreshOk s θ r
/-- The same as a test. -/
def freshB (s : Sta) (θ : Nat → Nat) : List (Nat × Blk) → Bool
  | [] => true
  | (k, _) :: r => (Nat.ble 1000 k || ((s.tb (θ k)).isNone && Nat.blt (θ k) 1000)) && freshB s θ r
theorem freshB_ok {s : Sta} {θ : Nat → Nat} : ∀ {l : List (Nat × Blk)}, freshB s θ l = true → FreshOk s θ l
  | [], _ => trivial
  | (k, _) :: r, h => by
    simp only [freshB, Bool.and_eq_true, Bool.or_eq_true] at h
    exact ⟨h.1.imp id (fun h => ⟨Option.isNone_iff_eq_none.1 h.1, h.2⟩), freshB_ok h.2⟩
def hasKey (l : List (Nat × Blk)) (k : Nat) : Bool := (lkB l k).isSome
/-- All that was lent comes back, of its kind. -/
def backOk (l' : List (Nat × Blk)) : List (Nat × Blk) → Bool
  | [] => true
  | (k, x) :: r => (match lkB l' k with | some y => Nat.beq y.kind x.kind || (Nat.beq y.kind 2 && !Nat.beq x.kind 0) | none => false) && backOk l' r
def lentSub (l : List (Nat × Blk)) : List (Nat × Blk) → Bool
  | [] => true
  | (k, _) :: r => (Nat.blt k 1000 || hasKey l k) && lentSub l r
def lendOk1 (θ : Nat → Nat) (az : List AV) (l : List (Nat × Blk)) : Bool := lentKeys l && injOn θ l && keysInB l l && (keysAs az).all (fun k => (l.map (·.1)).contains k)
def lendOk2 (θ : Nat → Nat) (l l' : List (Nat × Blk)) : Bool := injOn θ l' && backOk l' l && lentSub l l'
theorem lkB_mem : ∀ {l : List (Nat × Blk)} {k : Nat} {x : Blk}, lkB l k = some x → (k, x) ∈ l
  | [], _, _, h => by simp [lkB] at h
  | (q, y) :: r, k, x, h => by
    unfold lkB at h
    split at h
    · rename_i e; subst e; simp only [Option.some.injEq] at h; subst h; exact List.mem_cons_self ..
    · exact List.mem_cons_of_mem _ (lkB_mem h)
theorem lkB_some : ∀ {l : List (Nat × Blk)} {k : Nat} {x : Blk}, (k, x) ∈ l → ∃ y, lkB l k = some y
  | (q, y) :: r, k, x, h => by
    unfold lkB
    split
    · exact ⟨_, rfl⟩
    · rename_i hne
      rcases List.mem_cons.1 h with h | h
      · cases h; exact absurd rfl hne
      · exact lkB_some h
theorem injOn_spec {θ : Nat → Nat} : ∀ {l : List (Nat × Blk)}, injOn θ l = true → ∀ {k k' : Nat} {b b' : Blk}, (k, b) ∈ l → (k', b') ∈ l → θ k = θ k' → k = k'
  | [], _, _, _, _, _, h, _, _ => by cases h
  | (t', y) :: r, hl, k, k', b, b', h, h', e => by
    simp only [injOn, Bool.and_eq_true] at hl
    have key : ∀ k2 b2, (k2, b2) ∈ r → θ t' = θ k2 → t' = k2 := by
      intro k2 b2 hm he
      have := List.all_eq_true.1 hl.1 (k2, b2) hm
      simp only [Bool.or_eq_true, Bool.not_eq_true'] at this
      rcases this with h1 | h1
      · rw [he, Nat.beq_refl] at h1; cases h1
      · exact Nat.eq_of_beq_eq_true h1
    rcases List.mem_cons.1 h with h1 | h1 <;> rcases List.mem_cons.1 h' with h2 | h2
    · cases h1; cases h2; rfl
    · cases h1; exact key _ _ h2 e
    · cases h2; exact (key _ _ h1 e.symm).symm
    · exact injOn_spec hl.2 h1 h2 e
theorem mergeT_at {θ : Nat → Nat} {tb : Nat → Option Blk} : ∀ {l : List (Nat × Blk)}, injOn θ l = true → ∀ {k : Nat} {x : Blk}, lkB l k = some x → mergeT θ l tb (θ k) = some (renB θ x)
  | [], _, k, x, h => by simp [lkB] at h
  | (q, y) :: r, hl, k, x, h => by
    have hm := lkB_mem h
    unfold lkB at h
    unfold mergeT
    split at h
    · rename_i e; subst e; simp only [Option.some.injEq] at h; subst h; exact upd_same _ _ _
    · rename_i hne
      rw [upd_ne _ _ (fun e => hne (injOn_spec hl hm (List.mem_cons_self ..) e))]
      simp only [injOn, Bool.and_eq_true] at hl
      exact mergeT_at hl.2 h
theorem mergeR_at {θ : Nat → Nat} {ρ ρ' : Nat → RV} : ∀ {l : List (Nat × Blk)}, injOn θ l = true → ∀ {k : Nat} {x : Blk}, lkB l k = some x → mergeR θ ρ' l ρ (θ k) = ρ' k
  | [], _, k, x, h => by simp [lkB] at h
  | (q, y) :: r, hl, k, x, h => by
    have hm := lkB_mem h
    unfold lkB at h
    unfold mergeR
    split at h
    · rename_i e; subst e; exact upd_same _ _ _
    · rename_i hne
      rw [upd_ne _ _ (fun e => hne (injOn_spec hl hm (List.mem_cons_self ..) e))]
      simp only [injOn, Bool.and_eq_true] at hl
      exact mergeR_at hl.2 h
/-- A name of the caller's is one of the callee's, or is not touched. -/
theorem merge_or (θ : Nat → Nat) (tb : Nat → Option Blk) (ρ ρ' : Nat → RV) : ∀ (l : List (Nat × Blk)) (j : Nat), (∃ k x, lkB l k = some x ∧ θ k = j) ∨ ((∀ k x, (k, x) ∈ l → θ k ≠ j) ∧ mergeT θ l tb j = tb j ∧ mergeR θ ρ' l ρ j = ρ j)
  | [], j => .inr ⟨(fun _ _ h => by cases h), rfl, rfl⟩
  | (q, y) :: r, j => by
    by_cases e : θ q = j
    · exact .inl ⟨q, y, by simp [lkB], e⟩
    · rcases merge_or θ tb ρ ρ' r j with ⟨k, x, h1, h2⟩ | ⟨h1, h2, h3⟩
      · refine .inl ⟨k, x, ?_, h2⟩
        unfold lkB
        rw [if_neg (fun e' => e (by rw [← e']; exact h2))]
        exact h1
      · refine .inr ⟨fun k x hm => ?_, ?_, ?_⟩
        · rcases List.mem_cons.1 hm with h | h
          · cases h; exact e
          · exact h1 k x h
        · unfold mergeT; rw [upd_ne _ _ (Ne.symm e)]; exact h2
        · unfold mergeR; rw [upd_ne _ _ (Ne.symm e)]; exact h3
theorem TbOk.at_ {s : Sta} {θ : Nat → Nat} : ∀ {l : List (Nat × Blk)}, TbOk s θ l → ∀ {k : Nat} {x : Blk}, lkB l k = some x → s.tb (θ k) = some (renB θ x)
  | [], _, k, x, h => by simp [lkB] at h
  | (q, y) :: r, hl, k, x, h => by
    unfold lkB at h
    split at h
    · rename_i e; subst e; simp only [Option.some.injEq] at h; subst h; exact hl.1
    · exact TbOk.at_ hl.2 h
theorem FreshOk.at_ {s : Sta} {θ : Nat → Nat} : ∀ {l : List (Nat × Blk)}, FreshOk s θ l → ∀ {k : Nat} {x : Blk}, lkB l k = some x → 1000 ≤ k ∨ (s.tb (θ k) = none ∧ θ k < 1000)
  | [], _, k, x, h => by simp [lkB] at h
  | (q, y) :: r, hl, k, x, h => by
    unfold lkB at h
    split at h
    · rename_i e; subst e; exact hl.1.imp Nat.le_of_ble_eq_true (fun h => ⟨h.1, Nat.blt_eq.mp h.2⟩)
    · exact FreshOk.at_ hl.2 h
theorem backOk_at {l' : List (Nat × Blk)} : ∀ {l : List (Nat × Blk)}, backOk l' l = true → ∀ {k : Nat} {x : Blk}, lkB l k = some x → ∃ y, lkB l' k = some y ∧ (y.kind = x.kind ∨ (y = .dead ∧ x.kind ≠ 0))
  | [], _, k, x, h => by simp [lkB] at h
  | (q, y) :: r, hl, k, x, h => by
    simp only [backOk, Bool.and_eq_true] at hl
    unfold lkB at h
    split at h
    · rename_i e; subst e; simp only [Option.some.injEq] at h; subst h
      have h1 := hl.1
      split at h1
      · rename_i z hz
        refine ⟨z, hz, ?_⟩
        simp only [Bool.or_eq_true, Bool.and_eq_true, Bool.not_eq_true'] at h1
        rcases h1 with h1 | ⟨h1, h2⟩
        · exact .inl (Nat.eq_of_beq_eq_true h1)
        · right
          have e2 := Nat.eq_of_beq_eq_true h1
          have e4 : z = .dead := by cases z <;> first | rfl | (simp [Blk.kind] at e2)
          refine ⟨e4, fun e3 => ?_⟩
          rw [e3] at h2; simp at h2
      · cases h1
    · exact backOk_at hl.2 h
theorem lentSub_at {l : List (Nat × Blk)} : ∀ {l' : List (Nat × Blk)}, lentSub l l' = true → ∀ {k : Nat} {x : Blk}, lkB l' k = some x → 1000 ≤ k → ∃ y, lkB l k = some y
  | [], _, k, x, h, _ => by simp [lkB] at h
  | (q, y) :: r, hl, k, x, h, hk => by
    simp only [lentSub, Bool.and_eq_true, Bool.or_eq_true] at hl
    unfold lkB at h
    split at h
    · rename_i e; subst e
      rcases hl.1 with h1 | h1
      · have := Nat.blt_eq.mp h1; omega
      · exact Option.isSome_iff_exists.1 h1
    · exact lentSub_at hl.2 h hk
theorem keysInB_at {l0 : List (Nat × Blk)} : ∀ {l : List (Nat × Blk)}, keysInB l0 l = true → ∀ {k t : Nat} {cs : List AV}, lkB l k = some (.box t cs) → ∀ k' ∈ keysAs cs, ∃ y, lkB l0 k' = some y
  | [], _, k, t, cs, h => by simp [lkB] at h
  | (q, y) :: r, hl, k, t, cs, h => by
    unfold lkB at h
    split at h
    · rename_i e; subst e; simp only [Option.some.injEq] at h; subst h
      simp only [keysInB, Bool.and_eq_true] at hl
      intro k' hk'
      have := List.all_eq_true.1 hl.1 k' hk'
      simp only [List.contains_iff_mem, List.mem_map] at this
      obtain ⟨p, hp, rfl⟩ := this
      exact lkB_some (x := p.2) hp
    · have : keysInB l0 r = true := by
        cases y <;> simp only [keysInB, Bool.and_eq_true] at hl <;> first | exact hl.2 | exact hl
      exact keysInB_at this h
section
variable {P : Program} {X : Base} {s s' : Sta} {a : Act} {w w' : World} {ρ : Nat → RV}
theorem VRs_args (h : ConcAt X s a w ρ) : ∀ {xs : List Operand} {az : List AV}, xs.map s.ev = az → VRs w (FF X w s.tb ρ) s.tb ρ az (xs.map a.eval)
  | [], _, e => by subst e; simp [VRs]
  | x :: r, _, e => by
    subst e
    simp only [List.map_cons]
    unfold VRs
    exact ⟨_, _, rfl, h.ev x, VRs_args h rfl⟩
/-- What a call to which memory is lent does. -/
theorem ConcAt.acall (hc : ConcAt X s a w ρ) (hP : X.P = P) {f : FuncId} {az : List AV} {tbl : List (Nat × Blk)} {ι : Type} {out : ι → AV} {tbl' : ι → List (Nat × Blk)} (θ : Nat → Nat) (hr : ACall P f az tbl out tbl') (htb : TbOk s θ tbl)
    (hfr : ∀ i, FreshOk s θ (tbl' i)) (hok1 : lendOk1 θ az tbl = true) (hok : ∀ i, lendOk2 θ tbl (tbl' i) = true) {vs : List Value} (hvs : VRs w (FF X w s.tb ρ) s.tb ρ (renAs θ az) vs) :
    Calls P f vs.toArray w fun e w' => ∃ v i ρ', e = .returned v ∧ ConcAt X (s.lend θ (tbl' i)) a w' ρ' ∧ VR w' (FF X w' (s.lend θ (tbl' i)).tb ρ') (s.lend θ (tbl' i)).tb ρ' (renA θ (out i)) v := by
  simp only [lendOk1, Bool.and_eq_true] at hok1
  obtain ⟨⟨⟨hlk, hinj⟩, hkb⟩, hka⟩ := hok1
  have hlk := lentKeys_spec hlk
  let L : Nat → Prop := fun b => ∃ k, liveB (lkB tbl k) = true ∧ (ρ (θ k)).fp b
  let Y : Base := { w0 := w, F0 := FF X w s.tb ρ, L := L, B := X.B, N := 0, P := P, rv := fun k => (ρ (θ k)).v, hF0 := fun b hb => hb.2.1, hB := hc.below.sizeB, hN := by omega }
  have hliveS : ∀ k x, lkB tbl k = some x → s.tb (θ k) = some (renB θ x) := fun k x h => htb.at_ h
  have hlive : ∀ k, liveB (lkB tbl k) = true → liveB (s.tb (θ k)) = true := by
    intro k h
    obtain ⟨x, hx, hl⟩ := live_some h
    rw [hliveS k x hx]
    show (renB θ x).live = true
    rw [renB_live]; exact hl
  have hmayX : ∀ k b, liveB (lkB tbl k) = true → (ρ (θ k)).fp b → X.may b ∧ b < w.heap.size := by
    intro k b h hb
    obtain ⟨x, hx, hl⟩ := live_some (hlive k h)
    exact hc.rowBlk hx hl hb
  have hFY : ∀ b, FF X w s.tb ρ b → FF Y w (lkB tbl) (fun k => ρ (θ k)) b := fun b hb => ⟨.inl hb, hb.2.1, fun k hk e => hb.2.2 (θ k) (hlive k hk) e⟩
  have hdisj : ∀ b, FF X w s.tb ρ b → ¬ L b := fun b hb ⟨k, hk, e⟩ => hb.2.2 (θ k) (hlive k hk) e
  have hnk : ∀ k, (∃ x, lkB tbl k = some x) → ∃ x, lkB tbl k = some x ∧ s.tb (θ k) = some (renB θ x) ∧ (ρ (θ k)).v = ((fun k => ρ (θ k)) k).v := fun k ⟨x, hx⟩ => ⟨x, hx, hliveS k x hx, rfl⟩
  have hlie : Lies2 Y (lkB tbl) w (fun k => ρ (θ k)) := by
    refine ⟨fun k x hx => ?_, fun k k' b h1 h2 e1 e2 => ?_, fun k _ _ => rfl⟩
    · have h1 := hc.blks (θ k) _ (hliveS k x hx)
      cases x with
      | box t cs =>
        obtain ⟨b, vs, e, g1, g2, g3, g4⟩ := h1
        refine ⟨b, vs, e, .inr ⟨k, by rw [hx]; rfl, by rw [e]; rfl⟩, g2, VRs.ner (fun k => ∃ x, lkB tbl k = some x) hFY hnk cs (fun k' hk' => keysInB_at hkb hx k' hk') g3, g4⟩
      | row e n y l =>
        obtain ⟨xs, g0, gm, g1, g2, g3, g4⟩ := h1
        refine ⟨xs, g0, fun b hb => .inr ⟨k, by rw [hx]; rfl, ?_⟩, g1, g2.keep (fun _ _ => rfl) hFY, g3, g4⟩
        show (ρ (θ k)).fp b
        rw [g0]; exact own_blkOf hb
      | res R =>
        obtain ⟨g1, g2⟩ := h1
        exact ⟨R.keep _ _ _ _ _ _ (fun _ _ => rfl) hFY (fun _ _ => rfl) g1, fun b hb => ⟨.inr ⟨k, by rw [hx]; rfl, hb⟩, (g2 b hb).2⟩⟩
      | dead => trivial
    · obtain ⟨x, hx, _⟩ := live_some h1
      obtain ⟨x', hx', _⟩ := live_some h2
      exact injOn_spec hinj (lkB_mem hx) (lkB_mem hx') (hc.apart (θ k) (θ k') b (hlive k h1) (hlive k' h2) e1 e2)
  have hargs : VRs w (FF Y w (lkB tbl) (fun k => ρ (θ k))) (lkB tbl) (fun k => ρ (θ k)) az vs := by
    refine VRs.ner (fun k => ∃ x, lkB tbl k = some x) hFY hnk az (fun k hk => ?_) hvs
    have := List.all_eq_true.1 hka k hk
    simp only [List.contains_iff_mem, List.mem_map] at this
    obtain ⟨p, hp, rfl⟩ := this
    exact lkB_some (x := p.2) hp
  refine (hr Y (fun k => ρ (θ k)) vs rfl (fun b => Iff.rfl) hdisj hlie hargs).mono ?_
  rintro e w' ⟨v, i, ρ', rfl, hbel, hl', hv⟩
  have hokI := hok i
  simp only [lendOk2, Bool.and_eq_true] at hokI
  obtain ⟨⟨hinj', hback⟩, hsub⟩ := hokI
  have hsz : w.heap.size ≤ w'.heap.size := hbel.size
  have hsame : ∀ b, b < w.heap.size → ¬ L b → w'.heap[b]? = w.heap[b]? := hbel.block
  -- footprints of what came back
  have hnewfp : ∀ k b, liveB (lkB (tbl' i) k) = true → (ρ' k).fp b → (w.heap.size ≤ b ∨ L b) ∧ b < w'.heap.size := by
    intro k b hk hb
    obtain ⟨x, hx, hl⟩ := live_some hk
    have h1 := hl'.blks k x hx
    cases x with
    | box t cs =>
      obtain ⟨b', vs', e, g1, g2, _⟩ := h1
      rw [e] at hb
      have hb : some b' = some b := hb
      cases hb
      exact ⟨g1, (Array.getElem?_eq_some_iff.1 g2).1⟩
    | row e n y l =>
      obtain ⟨xs, g0, gm, g1, _⟩ := h1
      rw [g0] at hb
      have hb : blkOf (ρ' k).v = some b := hb
      have ho : (ρ' k).v.ownBlock = some b := by
        rcases g1.2 with ⟨e, _⟩ | ⟨g, cap, cur, e, _⟩
        · rw [e] at hb; simp [blkOf] at hb
        · rw [e] at hb ⊢; simpa [blkOf, Value.ownBlock] using hb
      exact ⟨gm b ho, (g1.lt b ho).2⟩
    | res R => exact h1.2 b hb
    | dead => cases hl
  let ρn : Nat → RV := mergeR θ ρ' (tbl' i) ρ
  have hat : ∀ k x, lkB (tbl' i) k = some x → (s.lend θ (tbl' i)).tb (θ k) = some (renB θ x) ∧ ρn (θ k) = ρ' k := fun k x h => ⟨mergeT_at hinj' h, mergeR_at hinj' h⟩
  have hor := merge_or θ s.tb ρ ρ' (tbl' i)
  -- a live name of the new table
  have hnl : ∀ j, liveB ((s.lend θ (tbl' i)).tb j) = true → (∃ k, θ k = j ∧ liveB (lkB (tbl' i) k) = true) ∨ ((∀ k x, (k, x) ∈ tbl' i → θ k ≠ j) ∧ liveB (s.tb j) = true ∧ ρn j = ρ j) := by
    intro j hj
    rcases hor j with ⟨k, x, h1, h2⟩ | ⟨h1, h2, h3⟩
    · refine .inl ⟨k, h2, ?_⟩
      subst h2
      rw [(hat k x h1).1] at hj
      rw [h1]
      have : (renB θ x).live = true := hj
      rwa [renB_live] at this
    · exact .inr ⟨h1, by rw [← h2]; exact hj, h3⟩
  -- names that were not lent own nothing that was
  have hfar : ∀ j b, (∀ k x, (k, x) ∈ tbl' i → θ k ≠ j) → liveB (s.tb j) = true → (ρ j).fp b → ¬ L b ∧ b < w.heap.size := by
    intro j b hj hl hb
    obtain ⟨x, hx, hxl⟩ := live_some hl
    refine ⟨fun ⟨k, hk, e⟩ => ?_, (hc.rowBlk hx hxl hb).2⟩
    have := hc.apart j (θ k) b hl (hlive k hk) hb e
    obtain ⟨y, hy, _⟩ := live_some hk
    obtain ⟨z, hz, _⟩ := backOk_at hback hy
    exact hj k z (lkB_mem hz) this.symm
  have hFF : ∀ b, FF X w s.tb ρ b → FF X w' (s.lend θ (tbl' i)).tb ρn b := by
    intro b hb
    refine ⟨hb.1, Nat.lt_of_lt_of_le hb.2.1 hsz, fun j hj e => ?_⟩
    rcases hnl j hj with ⟨k, rfl, hk⟩ | ⟨_, h2, h3⟩
    · obtain ⟨x, hx, _⟩ := live_some hk
      rw [(hat k x hx).2] at e
      rcases (hnewfp k b hk e).1 with h | h
      · have := hb.2.1; omega
      · exact hdisj b hb h
    · rw [h3] at e; exact hb.2.2 j h2 e
  have hFN : ∀ b, FF Y w' (lkB (tbl' i)) ρ' b → FF X w' (s.lend θ (tbl' i)).tb ρn b := by
    intro b hb
    have hm : X.F0 b ∨ X.may b := by
      rcases hb.1 with h | h | ⟨k, hk, e⟩
      · exact h.1
      · exact .inr (.inl (Nat.le_trans hc.below.size h))
      · exact .inr (hmayX k b hk e).1
    refine ⟨hm, hb.2.1, fun j hj e => ?_⟩
    rcases hnl j hj with ⟨k, rfl, hk⟩ | ⟨h1, h2, h3⟩
    · obtain ⟨x, hx, _⟩ := live_some hk
      rw [(hat k x hx).2] at e
      exact hb.2.2 k hk e
    · rw [h3] at e
      obtain ⟨g1, g2⟩ := hfar j b h1 h2 e
      rcases hb.1 with h | h | h
      · exact h.2.2 j h2 e
      · have h : w.heap.size ≤ b := h
        omega
      · exact g1 h
  have hkk : ∀ j x, s.tb j = some x → ∃ x', (s.lend θ (tbl' i)).tb j = some x' ∧ ((x'.kind = x.kind ∧ (ρn j).v = (ρ j).v) ∨ (x' = .dead ∧ x.kind ≠ 0)) := by
    intro j x hx
    rcases hor j with ⟨k, y, h1, h2⟩ | ⟨_, h2, h3⟩
    · subst h2
      obtain ⟨g1, g2⟩ := hat k y h1
      rcases (hfr i).at_ h1 with hk | ⟨hk, _⟩
      · obtain ⟨z, hz⟩ := lentSub_at hsub h1 hk
        have hz' := hliveS k z hz
        rw [hx] at hz'
        simp only [Option.some.injEq] at hz'
        subst hz'
        obtain ⟨y', hy', hkind⟩ := backOk_at hback hz
        rw [h1] at hy'
        cases hy'
        refine ⟨_, g1, ?_⟩
        rcases hkind with hkind | ⟨rfl, hkind⟩
        · by_cases hyl : y.live = true
          · left
            refine ⟨by rw [renB_kind, renB_kind]; exact hkind, ?_⟩
            rw [g2]
            exact hl'.lent k hk (by rw [h1]; exact hyl)
          · cases y <;> simp [Blk.live] at hyl
            right
            refine ⟨rfl, ?_⟩
            rw [renB_kind, ← hkind]; simp [Blk.kind]
        · exact .inr ⟨rfl, by rw [renB_kind]; exact hkind⟩
      · rw [hx] at hk; cases hk
    · exact ⟨x, by rw [← hx]; exact h2, .inl ⟨rfl, congrArg RV.v h3⟩⟩
  have hFsame : ∀ b, FF X w s.tb ρ b → w'.heap[b]? = w.heap[b]? := fun b hb => hsame b hb.2.1 (hdisj b hb)
  have hren : ∀ k x, lkB (tbl' i) k = some x → (s.lend θ (tbl' i)).tb (θ k) = some (renB θ x) ∧ (ρn (θ k)).v = (ρ' k).v := fun k x h => ⟨(hat k x h).1, congrArg RV.v (hat k x h).2⟩
  refine ⟨v, i, ρn, rfl, ⟨hc.size, hc.defers, ?_, fun t => (hc.tmps t).keep hFsame hFF hkk, fun j x hx => ?_, fun j j' b h1 h2 e1 e2 => ?_, fun j hj hl => ?_⟩, hv.ren hFN hren⟩
  · exact hc.below.step hbel.os hbel.tape hbel.output hsz (fun b hb hm => hsame b hb (fun ⟨k, hk, e⟩ => hm (hmayX k b hk e).1))
  · rcases hor j with ⟨k, y, h1, h2⟩ | ⟨h1, h2, h3⟩
    · subst h2
      obtain ⟨g1, g2⟩ := hat k y h1
      have hx' : mergeT θ (tbl' i) s.tb (θ k) = some x := hx
      have g1' : mergeT θ (tbl' i) s.tb (θ k) = some (renB θ y) := g1
      rw [hx'] at g1'
      simp only [Option.some.injEq] at g1'
      subst g1'
      have hb := hl'.blks k y h1
      have hmm : ∀ b, Y.may b → X.may b := by
        rintro b (h | ⟨k, hk, e⟩)
        · exact .inl (Nat.le_trans hc.below.size h)
        · exact (hmayX k b hk e).1
      cases y with
      | box t cs =>
        obtain ⟨b, vs', e, q1, q2, q3, q4⟩ := hb
        exact ⟨b, vs', g2.trans e, hmm b q1, q2, q3.ren hFN hren, q4⟩
      | row e n y l =>
        obtain ⟨xs, q0, qm, q1, q2, q3, q4⟩ := hb
        refine ⟨xs, by rw [g2]; exact q0, fun b hb => hmm b (qm b (by rw [g2] at hb; exact hb)), by rw [g2]; exact q1, q2.keep (fun _ _ => rfl) hFN, q3, q4⟩
      | res R =>
        obtain ⟨q1, q2⟩ := hb
        refine ⟨?_, fun b hb => ?_⟩
        · rw [g2]; exact R.keep _ _ _ _ _ _ (fun _ _ => rfl) hFN (fun _ _ => rfl) q1
        · rw [g2] at hb; exact ⟨hmm b (q2 b hb).1, (q2 b hb).2⟩
      | dead => trivial
    · have hx' : s.tb j = some x := by rw [← h2]; exact hx
      exact (hc.blks j x hx').keep hFsame hFF hkk h3 (fun b hl hf => by
        obtain ⟨q1, q2⟩ := hfar j b h1 (by rw [hx']; exact hl) hf
        exact hsame b q2 q1) hsz
  · rcases hnl j h1 with ⟨k, rfl, hk⟩ | ⟨g1, g2, g3⟩ <;> rcases hnl j' h2 with ⟨k', rfl, hk'⟩ | ⟨g1', g2', g3'⟩
    · obtain ⟨x, hx, _⟩ := live_some hk
      obtain ⟨x', hx', _⟩ := live_some hk'
      rw [(hat k x hx).2] at e1
      rw [(hat k' x' hx').2] at e2
      rw [hl'.apart k k' b hk hk' e1 e2]
    · exfalso
      obtain ⟨x, hx, _⟩ := live_some hk
      rw [(hat k x hx).2] at e1
      rw [g3'] at e2
      obtain ⟨q1, q2⟩ := hfar j' b g1' g2' e2
      rcases (hnewfp k b hk e1).1 with h | h
      · omega
      · exact q1 h
    · exfalso
      obtain ⟨x, hx, _⟩ := live_some hk'
      rw [(hat k' x hx).2] at e2
      rw [g3] at e1
      obtain ⟨q1, q2⟩ := hfar j b g1 g2 e1
      rcases (hnewfp k' b hk' e2).1 with h | h
      · omega
      · exact q1 h
    · rw [g3] at e1; rw [g3'] at e2
      exact hc.apart j j' b g2 g2' e1 e2
  · rcases hnl j hl with ⟨k, rfl, hk⟩ | ⟨g1, g2, g3⟩
    · obtain ⟨x, hx, hxl⟩ := live_some hk
      rw [(hat k x hx).2]
      rcases (hfr i).at_ hx with h | ⟨_, h⟩
      · have e1 := hl'.lent k h hk
        rw [e1]
        obtain ⟨z, hz⟩ := lentSub_at hsub hx h
        obtain ⟨y', hy', hkind⟩ := backOk_at hback hz
        rw [hx] at hy'
        cases hy'
        have hzl : liveB (lkB tbl k) = true := by
          rw [hz]
          rcases hkind with hkind | ⟨rfl, _⟩
          · cases z <;> first | rfl | (cases x <;> simp [Blk.kind] at hkind <;> cases hxl)
          · cases hxl
        exact hc.lent (θ k) hj (hlive k hzl)
      · omega
    · rw [g3]; exact hc.lent j hj g2
def thk : List (Nat × Nat) → Nat → Nat → Nat
  | [], c, k => k + c
  | (a, b) :: r, c, k => bif Nat.beq k a then b else thk r c k
variable {N : Nat} {Q : Exit → Act → World → Prop} {ops : Array Oper} {rem : List Nat} {ks : List Itm}
theorem run_enter {f : FuncId} (hf : callable P f = true) {o : Oper} {vs : List Value} {K : Act → World → Prop} {Q' : Exit → Act → World → Prop} (he : (execOp a.eval o).run P w = .ok (.enter f vs.toArray) w) {R : Value → World → Prop}
    (h : Calls P f vs.toArray w fun e w' => ∃ v, e = .returned v ∧ R v w') (hK : ∀ v w', R v w' → K (a.put o.dst v) w') : o.wp P a w K Q' := by
  unfold Oper.wp
  rw [he]
  refine h.mono ?_
  rintro e w' ⟨v, rfl, hr⟩
  exact hK v w' hr
theorem k_acall (θ : Nat → Nat) {d f : Nat} {xs : List Operand} {ts : Array TypeId} {az : List AV} {tbl : List (Nat × Blk)} {ι : Type} {out : ι → AV} {tbl' : ι → List (Nat × Blk)} (hN : Nat.blt d N = true) (hf : callable P f = true) (hr : ACall P f az tbl out tbl') (hx : xs.map s.ev = renAs θ az)
    (htb : TbOk s θ tbl) (hok1 : lendOk1 θ az tbl = true) (hfr : ∀ i, FreshOk s θ (tbl' i)) (hok : ∀ i, lendOk2 θ tbl (tbl' i) = true) (h : ∀ i, Run P X N Q (.ops ops rem :: ks) ((s.lend θ (tbl' i)).put (some d) (renA θ (out i)))) :
    RunK P X N Q ops rem ks (some d) (.call { callee := .value (.func f), args := xs.toArray, argTypes := ts }) s := ⟨fun ty pos aft => ⟨fun hX a w ⟨ρ, hc⟩ => by
  have hcall := hc.acall hX.2 θ hr htb hfr hok1 hok (vs := xs.map a.eval) (by rw [← hx]; exact VRs_args hc rfl)
  refine run_enter hf (vs := xs.map a.eval) (by simp [execOp, resolve, Deferred.ofValue, Act.eval, invoke, run_callFunc hf]) (R := fun v w' => ∃ i ρ', ConcAt X (s.lend θ (tbl' i)) a w' ρ' ∧ VR w' (FF X w' (s.lend θ (tbl' i)).tb ρ') (s.lend θ (tbl' i)).tb ρ' (renA θ (out i)) v) (hcall.mono ?_) ?_
  · rintro e w' ⟨v, i, ρ', he, h1, h2⟩
    exact ⟨v, he, i, ρ', h1, h2⟩
  · rintro v w' ⟨i, ρ', h1, h2⟩
    exact (h i).out hX _ _ ⟨ρ', h1.putO (hN_ok hN hX) h2⟩⟩⟩
/-- One answer. -/
def ACall1 (P : Program) (f : FuncId) (az : List AV) (tbl : List (Nat × Blk)) (out : AV) (tbl' : List (Nat × Blk)) : Prop := ACall P f az tbl (ι := Unit) (fun _ => out) (fun _ => tbl')
theorem k_acall1 (θ : Nat → Nat) {d f : Nat} {xs : List Operand} {ts : Array TypeId} {az : List AV} {tbl : List (Nat × Blk)} {out : AV} {tbl' : List (Nat × Blk)} (hN : Nat.blt d N = true) (hf : callable P f = true) (hr : ACall1 P f az tbl out tbl') (hx : xs.map s.ev = renAs θ az)
    (htb : TbOk s θ tbl) (hok1 : lendOk1 θ az tbl = true) (hfr : FreshOk s θ tbl') (hok : lendOk2 θ tbl tbl' = true) (h : Run P X N Q (.ops ops rem :: ks) ((s.lend θ tbl').put (some d) (renA θ out))) :
    RunK P X N Q ops rem ks (some d) (.call { callee := .value (.func f), args := xs.toArray, argTypes := ts }) s := k_acall θ hN hf hr hx htb hok1 (fun _ => hfr) (fun _ => hok) (fun _ => h)
/-- A return with what was lent. -/
theorem run_retA {fn : Func} {ι : Type} {out : ι → AV} {tbl' : ι → List (Nat × Blk)} (i : ι) (θ : Nat → Nat) {tm : List (Nat × AV)} (hs : SubS s tm (tbl' i) θ) (hr : resA P fn (out i) (mkSta tm (tbl' i))) : Run P X N (QA P X fn out tbl') (.code .ret :: ks) s :=
  run_ret fun a w hc => ⟨.inr rfl, mkSta tm (tbl' i), i, hr, rfl, hs.conc hc⟩
theorem resA_tmp {fn : Func} {t : Tmp} (hf : fn.results = #[.tmp t]) {r : AV} (ht : s.tm t = r) : resA P fn r s := by
  intro X a w ⟨ρ0, hc0⟩
  refine ⟨a.tmps.getD t undef, results_tmp hf _ _ _, fun ρ hc => ?_⟩
  have := hc.tmps t
  rwa [ht] at this
theorem resA_tmp2 {fn : Func} {t u : Tmp} (hf : fn.results = #[.tmp t, .tmp u]) {r r' : AV} (ht : s.tm t = r) (hu : s.tm u = r') : resA P fn (mkTup [r, r']) s := by
  intro X a w ⟨ρ0, hc0⟩
  refine ⟨_, results_tmp2 hf _ _ _, fun ρ hc => ?_⟩
  have h1 := hc.tmps t
  have h2 := hc.tmps u
  rw [ht] at h1
  rw [hu] at h2
  refine VR_mkTup (vs := [a.tmps.getD t undef, a.tmps.getD u undef]) ?_
  unfold VRs
  refine ⟨_, _, rfl, h1, ?_⟩
  unfold VRs
  exact ⟨_, _, rfl, h2, by unfold VRs; rfl⟩
end
end Go.Proofs.Ytbbacpdbbmjblaa
set_option linter.unusedVariables false
namespace Go.Proofs.Ytbbacpdbbmjblaa
open Go.RowKit
set_option linter.unusedSimpArgs false
section
variable {P : Program} {X : Base} {N : Nat} {Q : Exit → Act → World → Prop} {ops : Array Oper} {rem : List Nat} {ks : List Itm} {s s' : Sta} {a : Act} {w w' : World} {ρ : Nat → RV}
/-- A goal at which a walk stops. -/
structure Hold (p : Prop) : Prop where
  out : p
theorem run_hold (h : Hold (Run P X N Q ks s)) : Run P X N Q ks s := h.out
def QT (X : Base) (T : Sta) : Exit → Act → World → Prop := fun e a w => e = .normal ∧ Conc X T a w
theorem run_stage {c : Code} {s : Sta} (T : Sta) (h : Run P X N (QT X T) [.code c] s) (key : Run P X N Q ks T) : Run P X N Q (.code c :: ks) s := ⟨fun hX a w hc => by
  have h1 : c.wp P (QT X T) a w := wp_mono (h.out hX a w hc) (fun e a w q => by cases e <;> exact q)
  show c.wp P _ a w
  refine wp_mono h1 ?_
  rintro e a' w' ⟨rfl, hc'⟩
  exact key.out hX a' w' hc'⟩
theorem run_stageEnd {s : Sta} {tm : List (Nat × AV)} {tb : List (Nat × Blk)} (θ : Nat → Nat) (h : SubS s tm tb θ) : Run P X N (QT X (mkSta tm tb)) [] s := run_end fun a w hc => ⟨rfl, h.conc hc⟩
end
end Go.Proofs.Ytbbacpdbbmjblaa
namespace Go.Proofs.Ytbbacpdbbmjblaa
open Go.RowKit
section
variable {P : Program} {X : Base} {N : Nat} {s s1 : Sta} {ops r : List Oper}
end
end Go.Proofs.Ytbbacpdbbmjblaa
end
section
set_option linter.unusedVariables false
namespace Go.Proofs.Ytbbacpdbbmjblaa
open Go.RowKit
set_option linter.unusedSimpArgs false
section
variable {P : Program} {X : Base} {N : Nat} {Q : Exit → Act → World → Prop} {ops : Array Oper} {rem : List Nat} {ks : List Itm} {s s' : Sta} {a : Act} {w w' : World} {ρ : Nat → RV}
theorem ConcAt.frzVR (h : ConcAt X s a w ρ) (G K : Nat → Bool) : (∀ (x : AV) {v : Value}, VR w (FF X w s.tb ρ) s.tb ρ x v → VR w (FF X w (s.frz G K).tb ρ) (s.frz G K).tb ρ (frzA G K s.tb x) v) ∧
    ∀ (l : List AV) {vs : List Value}, VRs w (FF X w s.tb ρ) s.tb ρ l vs → VRs w (FF X w (s.frz G K).tb ρ) (s.frz G K).tb ρ (frzAs G K s.tb l) vs := by
  have hlv : ∀ k, liveB ((s.frz G K).tb k) = true → liveB (s.tb k) = true := by
    intro k hk
    simp only [Sta.frz] at hk
    split at hk
    · cases hk
    · cases hx : s.tb k with
      | none => rw [hx] at hk; cases hk
      | some x => rw [hx] at hk; cases x <;> first | rfl | cases hk
  have hlK : ∀ k, K k = true → liveB ((s.frz G K).tb k) = false := by
    intro k hK
    simp [Sta.frz, hK, liveB]
  have hs : ∀ b, FF X w s.tb ρ b → FF X w (s.frz G K).tb ρ b := fun b hb => ⟨hb.1, hb.2.1, fun k hk => hb.2.2 k (hlv k hk)⟩
  have hnew : ∀ k x b, s.tb k = some x → x.live = true → K k = true → (ρ k).fp b → FF X w (s.frz G K).tb ρ b := by
    intro k x b hk hl hK hb
    obtain ⟨h1, h2⟩ := h.rowBlk hk hl hb
    refine ⟨.inr h1, h2, fun k' hk' e' => ?_⟩
    have := h.apart k' k b (hlv k' hk') (by rw [hk]; exact hl) e' hb
    subst this
    rw [hlK k' hK] at hk'; cases hk'
  have hown : ∀ k v, VR w (FF X w s.tb ρ) s.tb ρ (.own k) v → K k = true → VR w (FF X w (s.frz G K).tb ρ) (s.frz G K).tb ρ (frzA G K s.tb (.own k)) v := by
    intro k v hv hK
    unfold frzA
    rw [if_pos hK]
    unfold VR at hv
    rcases hv.2 with ⟨x, hk, hkd, e⟩ | hk
    · subst e
      rw [hk]
      cases x with
      | box t cs => simp [Blk.kind] at hkd
      | dead => simp [Blk.kind] at hkd
      | res R =>
        obtain ⟨h1, h2⟩ := h.blks k _ hk
        simp only
        unfold VR
        exact R.frz _ _ _ _ _ hs (fun b hb => hnew k _ b hk rfl hK hb) h1
      | row e n y l =>
        obtain ⟨xs, h0, hm, h1, h2, h3, h4⟩ := h.blks k _ hk
        simp only
        unfold VR Rep
        rcases h1.2 with ⟨e1, e2⟩ | ⟨g, cap, cur, e1, hB, hg, hc1, _, hc2, hc3⟩
        · exact ⟨none, 0, by rw [e1, e2], by omega, h3, h4, .inl (List.eq_nil_of_length_eq_zero e2)⟩
        · refine ⟨some ⟨g, 0, none⟩, cap, e1, hc1, h3, h4, .inr ⟨g, 0, hnew k _ g hk rfl hK (by rw [h0, e1]; rfl), rfl, ?_⟩⟩
          refine (h2.keep (fun _ _ => rfl) hs).lies fun j u hj => ?_
          rw [cell_of_row w g (0 + j) _ _ _ hg]
          rw [← hc3, List.getElem?_take] at hj
          split at hj
          · simpa using hj
          · cases hj
    · rw [hk]; unfold VR; trivial
  have hptr : ∀ k off v, VR w (FF X w s.tb ρ) s.tb ρ (.ptr k off) v → K k = true → VR w (FF X w (s.frz G K).tb ρ) (s.frz G K).tb ρ (frzP G off (s.tb k)) v := by
    intro k off v hv hK
    unfold VR at hv
    obtain ⟨t, cs, b, h1, h2, rfl⟩ := hv
    obtain ⟨b', vs, h2', hB, hb, hvs, hone⟩ := h.blks k _ h1
    have hρ2 : Value.pointer (some ⟨b, 0, none⟩) = .pointer (some ⟨b', 0, none⟩) := h2.symm.trans (congrArg RV.v h2')
    simp only [Value.pointer.injEq, Option.some.injEq, Addr.mk.injEq, and_true] at hρ2
    subst hρ2
    rw [h1]
    unfold frzP
    simp only
    split
    · rename_i ds hds
      rw [allD_spec hds] at hvs
      have hF' : FF X w (s.frz G K).tb ρ b := hnew k _ b h1 rfl hK (by rw [h2']; rfl)
      have hr := Reps.keep (w' := w) (fun _ _ => rfl) hs ds hvs.dat
      have hl := lies_block hb 0
      split
      · unfold VR Rep
        refine ⟨b, 0, .agg vs.toArray, rfl, hF', ?_, by simpa [Value.cells] using hl⟩
        unfold Rep
        exact ⟨vs, rfl, hr, hone⟩
      · split
        · rename_i d
          unfold Reps at hr
          obtain ⟨u, r', rfl, hu, hr'⟩ := hr
          unfold Reps at hr'
          subst hr'
          unfold VR Rep
          exact ⟨b, 0, u, rfl, hF', hu, by rw [one_toList (hone u (by simp))]; simpa using hl⟩
        · unfold VR; trivial
    · unfold VR; trivial
  have hkeep : ∀ k x, s.tb k = some x → K k = false → (s.frz G K).tb k = some (frzB G K s.tb x) := fun k x hx hK => by simp [Sta.frz, hx, hK]
  exact ⟨fun x v hv => frz_A hs hown hptr hkeep x hv, fun l vs hv => frz_As hs hown hptr hkeep l hv⟩
def allK : Nat → Bool := fun _ => true
/-- Data without memory behind it. -/
def Flat (r : PD) : Prop := ∀ (w w' : World) (F F' : Nat → Prop) (v : Value), Rep w F r v → Rep w' F' r v
theorem Flat.val {u : Value} : Flat (.val u) := fun w w' F F' v h => by unfold Rep at h ⊢; exact h
/-- The arguments of a call, some of which may be own memory; what comes back holds no memory. -/
theorem ConcAt.zcall (hc : ConcAt X s a w ρ) (G : Nat → Bool) {az : List AV} {vs : List Value} (hv : VRs w (FF X w s.tb ρ) s.tb ρ az vs) {ds : List PD} (hx : allD (frzAs G allK s.tb az) = some ds) {f : FuncId} {r : PD} (hr : PCall P f ds r) (hz : Flat r) :
    Calls P f vs.toArray w fun e w' => ∃ v, e = .returned v ∧ ConcAt X s a w' ρ ∧ VR w' (FF X w' s.tb ρ) s.tb ρ (.dat r) v := by
  have h1 := (hc.frzVR G allK).2 az hv
  rw [allD_spec hx] at h1
  refine (hr w _ vs (fun b hb => hb.2.1) h1.dat).mono ?_
  rintro e w' ⟨v, rfl, hb, hv'⟩
  exact ⟨v, rfl, hc.grow hb, by unfold VR; exact hz _ _ _ _ _ hv'⟩
/-- The same on data, whatever comes back. -/
theorem ConcAt.dcall (hc : ConcAt X s a w ρ) {az : List AV} {vs : List Value} (hv : VRs w (FF X w s.tb ρ) s.tb ρ az vs) {ds : List PD} (hx : allD az = some ds) {f : FuncId} {r : PD} (hr : PCall P f ds r) :
    Calls P f vs.toArray w fun e w' => ∃ v, e = .returned v ∧ ConcAt X s a w' ρ ∧ VR w' (FF X w' s.tb ρ) s.tb ρ (.dat r) v := by
  rw [allD_spec hx] at hv
  refine (hr w _ vs (fun b hb => hb.2.1) hv.dat).mono ?_
  rintro e w' ⟨v, rfl, hb, hv'⟩
  exact ⟨v, rfl, hc.grow hb, by unfold VR; exact hv'.keep (fun _ _ => rfl) (FF_new hb hc)⟩
mutual
theorem frz_alike (G : Nat → Bool) {tb tb' : Nat → Option Blk} : ∀ x : AV, (∀ k ∈ keysA x, tb' k = tb k) → frzA G allK tb' x = frzA G allK tb x
  | .any, _ => rfl
  | .dat _, _ => rfl
  | .ptr k off, h => by unfold frzA; rw [h k (by simp [keysA])]
  | .own k, h => by unfold frzA; rw [h k (by simp [keysA])]
  | .elt k n i off, h => by unfold frzA; rfl
  | .agg l, h => by unfold frzA; rw [frzs_alike G l (fun k hk => h k (by simpa [keysA] using hk))]
  | .tup l, h => by unfold frzA; rw [frzs_alike G l (fun k hk => h k (by simpa [keysA] using hk))]
  | .iface t x, h => by unfold frzA; rw [frz_alike G x (fun k hk => h k (by simpa [keysA] using hk))]
  | .clo f l, h => by unfold frzA; rw [frzs_alike G l (fun k hk => h k (by simpa [keysA] using hk))]
theorem frzs_alike (G : Nat → Bool) {tb tb' : Nat → Option Blk} : ∀ l : List AV, (∀ k ∈ keysAs l, tb' k = tb k) → frzAs G allK tb' l = frzAs G allK tb l
  | [], _ => rfl
  | x :: r, h => by unfold frzAs; rw [frz_alike G x (fun k hk => h k (by simp only [keysAs, List.mem_append]; exact .inl hk)), frzs_alike G r (fun k hk => h k (by simp only [keysAs, List.mem_append]; exact .inr hk))]
end
theorem keysAs_map {xs : List Operand} {k : Nat} : k ∈ keysAs (xs.map s.ev) → ∃ x ∈ xs, k ∈ keysA (s.ev x) := by
  induction xs with
  | nil => intro h; simp [keysAs] at h
  | cons x r ih =>
    intro h
    simp only [List.map_cons, keysAs, List.mem_append] at h
    rcases h with h | h
    · exact ⟨x, by simp, h⟩
    · obtain ⟨y, hy, hk⟩ := ih h
      exact ⟨y, by simp [hy], hk⟩
theorem frzs_ev (G : Nat → Bool) {xs : List Operand} (hev : ∀ x ∈ xs, s'.ev x = s.ev x) (htb : ∀ x ∈ xs, ∀ k ∈ keysA (s.ev x), s'.tb k = s.tb k) : frzAs G allK s'.tb (xs.map s'.ev) = frzAs G allK s.tb (xs.map s.ev) := by
  rw [map_alike hev]
  exact frzs_alike G _ fun k hk => by
    obtain ⟨x, hx, hk⟩ := keysAs_map hk
    exact htb x hx k hk
/-- From a call's outcome to an operation's. -/
theorem opS_enter {o : Oper} (hd : dstOk X.N o.dst = true) {f : FuncId} {r : AV} (h : ∀ a w ρ, ConcAt X s a w ρ → ∃ vs : List Value, (execOp a.eval o).run P w = .ok (.enter f vs.toArray) w ∧
    Calls P f vs.toArray w fun e w' => ∃ v, e = .returned v ∧ ConcAt X s a w' ρ ∧ VR w' (FF X w' s.tb ρ) s.tb ρ r v) : OpS P X o s (s.put o.dst r) := by
  intro a w ⟨ρ, hc⟩ K Q hK
  obtain ⟨vs, he, hcall⟩ := h a w ρ hc
  unfold Oper.wp
  rw [he]
  refine hcall.mono ?_
  rintro e w' ⟨v, rfl, hc', hv⟩
  exact hK _ _ ⟨ρ, hc'.putO hd hv⟩
theorem op_callZ {o : Oper} (hd : dstOk X.N o.dst = true) {f : FuncId} {xs : List Operand} {ts : Array TypeId} (ho : o.op = .call { callee := .value (.func f), args := xs.toArray, argTypes := ts }) (G : Nat → Bool) (hf : callable P f = true)
    {ds : List PD} (hx : allD (frzAs G allK s.tb (xs.map s.ev)) = some ds) {r : PD} (hr : PCall P f ds r) (hz : Flat r) : OpS P X o s (s.put o.dst (.dat r)) :=
  opS_enter hd fun a w ρ hc => ⟨xs.map a.eval, by simp [execOp, ho, resolve, Deferred.ofValue, Act.eval, invoke, run_callFunc hf], hc.zcall G (VRs_args hc rfl) hx hr hz⟩
theorem k_callZ (G : Nat → Bool) {d f : Nat} {xs : List Operand} {ts : Array TypeId} {ds : List PD} {r : PD} (hN : Nat.blt d N = true) (hf : callable P f = true) (hx : allD (frzAs G allK s.tb (xs.map s.ev)) = some ds) (hr : PCall P f ds r) (hz : Flat r) (h : Run P X N Q (.ops ops rem :: ks) (s.put (some d) (.dat r))) :
    RunK P X N Q ops rem ks (some d) (.call { callee := .value (.func f), args := xs.toArray, argTypes := ts }) s := k_of hN (fun _ _ _ hd => op_callZ hd rfl G hf hx hr hz) h
theorem d_callZ {ops : List Oper} (G : Nat → Bool) {d f : Nat} {xs : List Operand} {ts : Array TypeId} {ds : List PD} {r : PD} (hN : Nat.blt d N = true) (hf : callable P f = true) (hx : allD (frzAs G allK s.tb (xs.map s.ev)) = some ds) (hr : PCall P f ds r) (hz : Flat r) :
    TrK P X N ops (some d) (.call { callee := .value (.func f), args := xs.toArray, argTypes := ts }) (Eff.put (some d) (.dat r)) s (s.put (some d) (.dat r)) := act_val hN fun s' _ _ _ _ hd hev htb => op_callZ hd rfl G hf (by rw [frzs_ev G (fun x hx => hev x (by simp [Op.operands, Call.operands, hx])) (fun x hx => htb x (by simp [Op.operands, Call.operands, hx]))]; exact hx) hr hz
/-- What the method of a type is: the function; for a value method called through a pointer, the type that is loaded. -/
def methI (P : Program) (T : TypeId) (name : String) : Option (FuncId × Option TypeId) :=
  match (P.info? T).bind fun i => i.methods.find? (·.name == name) with
  | some m => match m.path.toList, m.func, P.underlying T with
    | [], some (f, true), some (.pointer _) => some (f, none)
    | [], some (f, false), some (.pointer e) => some (f, some e)
    | [], some (f, false), some _ => some (f, none)
    | _, _, _ => none
  | none => none
theorem methI_spec {T : TypeId} {name : String} {f : FuncId} {q : Option TypeId} (h : methI P T name = some (f, q)) : ∃ i m u b, P.info? T = some i ∧ i.methods.find? (·.name == name) = some m ∧ m.path = #[] ∧ m.func = some (f, b) ∧ P.underlying T = some u ∧
    ((q = none ∧ ((b = true ∧ ∃ e, u = .pointer e) ∨ (b = false ∧ ∀ e, u ≠ .pointer e))) ∨ ∃ e, q = some e ∧ b = false ∧ u = .pointer e) := by
  unfold methI at h
  split at h
  · rename_i m hm
    obtain ⟨i, hi, hf⟩ := Option.bind_eq_some_iff.1 hm
    split at h
    · rename_i f' e h1 h2 h3
      simp only [Option.some.injEq, Prod.mk.injEq] at h
      exact ⟨i, m, _, true, hi, hf, Array.toList_eq_nil_iff.1 h1, by rw [h2, h.1], h3, .inl ⟨h.2.symm, .inl ⟨rfl, e, rfl⟩⟩⟩
    · rename_i f' e h1 h2 h3
      simp only [Option.some.injEq, Prod.mk.injEq] at h
      exact ⟨i, m, _, false, hi, hf, Array.toList_eq_nil_iff.1 h1, by rw [h2, h.1], h3, .inr ⟨e, h.2.symm, rfl, rfl⟩⟩
    · rename_i f' u h0 h1 h2 h3
      simp only [Option.some.injEq, Prod.mk.injEq] at h
      exact ⟨i, m, _, false, hi, hf, Array.toList_eq_nil_iff.1 h1, by rw [h2, h.1], h3, .inl ⟨h.2.symm, .inr ⟨rfl, fun e he => h0 e he⟩⟩⟩
    · cases h
  · cases h
theorem run_method_same {T : TypeId} {name : String} {f : FuncId} (h : methI P T name = some (f, none)) {n : Nat} (hn : 0 < n) (v : Value) (w : World) : (method n T v name).run P w = .ok (f, v) w := by
  obtain ⟨i, m, u, b, hi, hf, hp, hfn, hu, hq⟩ := methI_spec h
  obtain ⟨n, rfl⟩ : ∃ k, n = k + 1 := ⟨n - 1, by omega⟩
  rcases hq with ⟨_, ⟨rfl, e, rfl⟩ | ⟨rfl, he⟩⟩ | ⟨e, he, _⟩
  · simp [method, typeInfo, hi, hf, hp, hfn, follow, receiverAt, run_underlying hu, Place.get, Result.andThen]
  · cases u <;> simp [method, typeInfo, hi, hf, hp, hfn, follow, receiverAt, run_underlying hu, Place.get, Result.andThen]
    exact absurd rfl (he _)
  · cases he
theorem run_method_load {T e : TypeId} {name : String} {f : FuncId} (h : methI P T name = some (f, some e)) {n : Nat} (hn : 0 < n) {p : Addr} {u : Value} {w : World} (hl : (loadVar e p).run P w = .ok u w) : (method n T (.pointer (some p)) name).run P w = .ok (f, u) w := by
  obtain ⟨i, m, d, b, hi, hf, hp, hfn, hu, hq⟩ := methI_spec h
  obtain ⟨n, rfl⟩ : ∃ k, n = k + 1 := ⟨n - 1, by omega⟩
  have hwrap : ∀ nm : String, (Builtin.ssaWrapNilChk_ #[T] T #[.pointer (some p), strVal "", strVal nm]).run P w = .ok (.pointer (some p)) w := fun _ => rfl
  rcases hq with ⟨hq, _⟩ | ⟨e', he, rfl, rfl⟩
  · cases hq
  · cases he
    simp [method, typeInfo, hi, hf, hp, hfn, follow, receiverAt, run_underlying hu, Place.get, hwrap, Result.andThen, asAddr, hl]
class MI (P : Program) (T : Nat) (name : String) (f : outParam Nat) (q : outParam (Option Nat)) : Prop where
  out : methI P T name = some (f, q)
/-- The receiver: what lies in the interface value, and what the function is given. -/
def Recv (P : Program) (X : Base) (s : Sta) (T : TypeId) (name : String) (f : FuncId) (x y : AV) : Prop :=
  ∀ a w ρ, ConcAt X s a w ρ → ∀ v, VR w (FF X w s.tb ρ) s.tb ρ x v → ∃ u, (∀ n, 0 < n → (method n T v name).run P w = .ok (f, u) w) ∧ VR w (FF X w s.tb ρ) s.tb ρ y u
theorem Recv.same {T : TypeId} {name : String} {f : FuncId} {x : AV} (h : methI P T name = some (f, none)) : Recv P X s T name f x x := fun a w ρ hc v hv => ⟨v, fun n hn => run_method_same h hn v w, hv⟩
theorem Recv.loadD {T e : TypeId} {name : String} {f : FuncId} {d : PD} {n : Nat} {g : Bool} (h : methI P T name = some (f, some e)) [ht : VI P e n g] (hf : fitsD g n d = true) : Recv P X s T name f (.dat (.ptr d)) (.dat d) := by
  intro a w ρ hc v hv
  unfold VR Rep at hv
  obtain ⟨b, off, u, rfl, hF, hu, hl⟩ := hv
  have hrun : (loadVar e ⟨b, off, none⟩).run P w = .ok u w := by
    rcases fitsD_agg hf with ⟨rfl, l, rfl, hn⟩ | ⟨rfl, h1, h1'⟩
    · unfold Rep at hu
      obtain ⟨vs, rfl, hvs, _⟩ := hu
      exact run_loadVar_agg ht.out (by rw [hvs.length]; exact hn) (by simpa [Value.cells] using hl)
    · have hone := hu.one h1 h1'
      rw [one_toList hone] at hl
      exact run_loadVar_cell ht.out (by simpa using hl 0 u rfl)
  exact ⟨u, fun n hn => run_method_load h hn hrun, by unfold VR; exact hu⟩
def ifcA : AV → Option (TypeId × AV)
  | .iface T x => some (T, x)
  | .dat (.iface T d) => some (T, .dat d)
  | _ => none
theorem ifcA_spec {z : AV} {T : TypeId} {x : AV} (h : ifcA z = some (T, x)) {F : Nat → Prop} {tb : Nat → Option Blk} {v : Value} (hv : VR w F tb ρ z v) : ∃ u, v = .iface T u ∧ VR w F tb ρ x u := by
  unfold ifcA at h
  split at h
  · simp only [Option.some.injEq, Prod.mk.injEq] at h
    obtain ⟨rfl, rfl⟩ := h
    unfold VR at hv
    exact hv
  · simp only [Option.some.injEq, Prod.mk.injEq] at h
    obtain ⟨rfl, rfl⟩ := h
    unfold VR Rep at hv
    obtain ⟨u, e, hu⟩ := hv
    exact ⟨u, e, by unfold VR; exact hu⟩
  · cases h
theorem inv_enter {T : TypeId} {name : String} {f : FuncId} {c : Operand} {x y : AV} {xs : List Operand} {ts : Array TypeId} {o : Oper} (ho : o.op = .call { callee := .invoke c name, args := xs.toArray, argTypes := ts }) (hi : ifcA (s.ev c) = some (T, x)) (hR : Recv P X s T name f x y) (hf : callable P f = true) (hc : ConcAt X s a w ρ) :
    ∃ vs, VRs w (FF X w s.tb ρ) s.tb ρ (y :: xs.map s.ev) vs ∧ (execOp a.eval o).run P w = .ok (.enter f vs.toArray) w := by
  obtain ⟨v, e, hv⟩ := ifcA_spec hi (hc.ev c)
  obtain ⟨u, hm, hu⟩ := hR a w ρ hc v hv
  refine ⟨u :: xs.map a.eval, by unfold VRs; exact ⟨u, _, rfl, hu, VRs_args hc rfl⟩, ?_⟩
  have h1 := hm (P.types.size + Made.depth) (by unfold Made.depth; omega)
  simp [execOp, ho, resolve, invoke, callMethod, e, h1, run_callFunc hf, Result.andThen, List.take_of_length_le]
theorem op_inv {o : Oper} (hd : dstOk X.N o.dst = true) {T : TypeId} {name : String} {f : FuncId} {c : Operand} {x y : AV} {xs : List Operand} {ts : Array TypeId} (ho : o.op = .call { callee := .invoke c name, args := xs.toArray, argTypes := ts }) (hi : ifcA (s.ev c) = some (T, x)) (hR : Recv P X s T name f x y) (hf : callable P f = true)
    {ds : List PD} (hx : allD (y :: xs.map s.ev) = some ds) {r : PD} (hr : PCall P f ds r) : OpS P X o s (s.put o.dst (.dat r)) :=
  opS_enter hd fun a w ρ hc => by
    obtain ⟨vs, hv, he⟩ := inv_enter ho hi hR hf hc
    exact ⟨vs, he, hc.dcall hv hx hr⟩
theorem k_inv {d : Nat} {T : TypeId} {name : String} {f : FuncId} {c : Operand} {x y : AV} {xs : List Operand} {ts : Array TypeId} {ds : List PD} {r : PD} (hN : Nat.blt d N = true) (hi : ifcA (s.ev c) = some (T, x)) (hR : Recv P X s T name f x y) (hf : callable P f = true) (hx : allD (y :: xs.map s.ev) = some ds) (hr : PCall P f ds r)
    (h : Run P X N Q (.ops ops rem :: ks) (s.put (some d) (.dat r))) : RunK P X N Q ops rem ks (some d) (.call { callee := .invoke c name, args := xs.toArray, argTypes := ts }) s := k_of hN (fun _ _ _ hd => op_inv hd rfl hi hR hf hx hr) h
theorem k_invD {d : Nat} {T e : TypeId} {name : String} {f : FuncId} {c : Operand} {p : PD} {n : Nat} {g : Bool} {xs : List Operand} {ts : Array TypeId} {ds : List PD} {r : PD} (hN : Nat.blt d N = true) (hi : s.ev c = .dat (.iface T (.ptr p))) [hm : MI P T name f (some e)] [ht : VI P e n g] (hfit : fitsD g n p = true) (hf : callable P f = true) (hx : allD (.dat p :: xs.map s.ev) = some ds) (hr : PCall P f ds r)
    (h : Run P X N Q (.ops ops rem :: ks) (s.put (some d) (.dat r))) : RunK P X N Q ops rem ks (some d) (.call { callee := .invoke c name, args := xs.toArray, argTypes := ts }) s := k_inv hN (x := .dat (.ptr p)) (by rw [hi]; rfl) (Recv.loadD hm.out hfit) hf hx hr h
theorem k_invS {d : Nat} {T : TypeId} {name : String} {f : FuncId} {c : Operand} {p : PD} {xs : List Operand} {ts : Array TypeId} {ds : List PD} {r : PD} (hN : Nat.blt d N = true) (hi : s.ev c = .dat (.iface T p)) [hm : MI P T name f none] (hf : callable P f = true) (hx : allD (.dat p :: xs.map s.ev) = some ds) (hr : PCall P f ds r)
    (h : Run P X N Q (.ops ops rem :: ks) (s.put (some d) (.dat r))) : RunK P X N Q ops rem ks (some d) (.call { callee := .invoke c name, args := xs.toArray, argTypes := ts }) s := k_inv hN (x := .dat p) (by rw [hi]; rfl) (Recv.same hm.out) hf hx hr h
/-- A method to which memory is lent. -/
theorem k_invA (θ : Nat → Nat) {d : Nat} {T : TypeId} {name : String} {f : FuncId} {c : Operand} {x y : AV} {xs : List Operand} {ts : Array TypeId} {az : List AV} {tbl : List (Nat × Blk)} {ι : Type} {out : ι → AV} {tbl' : ι → List (Nat × Blk)} (hN : Nat.blt d N = true) (hi : ifcA (s.ev c) = some (T, x)) (hR : Recv P X s T name f x y) (hf : callable P f = true)
    (hr : ACall P f az tbl out tbl') (hx : y :: xs.map s.ev = renAs θ az) (htb : TbOk s θ tbl) (hok1 : lendOk1 θ az tbl = true) (hfr : ∀ i, FreshOk s θ (tbl' i)) (hok : ∀ i, lendOk2 θ tbl (tbl' i) = true) (h : ∀ i, Run P X N Q (.ops ops rem :: ks) ((s.lend θ (tbl' i)).put (some d) (renA θ (out i)))) :
    RunK P X N Q ops rem ks (some d) (.call { callee := .invoke c name, args := xs.toArray, argTypes := ts }) s := ⟨fun ty pos aft => ⟨fun hX a w ⟨ρ, hc⟩ => by
  obtain ⟨vs, hv, he⟩ := inv_enter (o := ⟨some d, .call { callee := .invoke c name, args := xs.toArray, argTypes := ts }, ty, pos, aft, none⟩) rfl hi hR hf hc
  have hcall := hc.acall hX.2 θ hr htb hfr hok1 hok (vs := vs) (by rw [← hx]; exact hv)
  refine run_enter hf he (R := fun v w' => ∃ i ρ', ConcAt X (s.lend θ (tbl' i)) a w' ρ' ∧ VR w' (FF X w' (s.lend θ (tbl' i)).tb ρ') (s.lend θ (tbl' i)).tb ρ' (renA θ (out i)) v) (hcall.mono ?_) ?_
  · rintro e w' ⟨v, i, ρ', he, h1, h2⟩
    exact ⟨v, he, i, ρ', h1, h2⟩
  · rintro v w' ⟨i, ρ', h1, h2⟩
    exact (h i).out hX _ _ ⟨ρ', h1.putO (hN_ok hN hX) h2⟩⟩⟩
theorem k_invAS1 (θ : Nat → Nat) {d : Nat} {T : TypeId} {name : String} {f : FuncId} {c : Operand} {x : AV} {xs : List Operand} {ts : Array TypeId} {az : List AV} {tbl : List (Nat × Blk)} {out : AV} {tbl' : List (Nat × Blk)} (hN : Nat.blt d N = true) (hi : ifcA (s.ev c) = some (T, x)) [hm : MI P T name f none] (hf : callable P f = true)
    (hr : ACall1 P f az tbl out tbl') (hx : x :: xs.map s.ev = renAs θ az) (htb : TbOk s θ tbl) (hok1 : lendOk1 θ az tbl = true) (hfr : FreshOk s θ tbl') (hok : lendOk2 θ tbl tbl' = true) (h : Run P X N Q (.ops ops rem :: ks) ((s.lend θ tbl').put (some d) (renA θ out))) :
    RunK P X N Q ops rem ks (some d) (.call { callee := .invoke c name, args := xs.toArray, argTypes := ts }) s := k_invA θ hN hi (Recv.same hm.out) hf hr hx htb hok1 (fun _ => hfr) (fun _ => hok) (fun _ => h)
theorem k_invAD1 (θ : Nat → Nat) {d : Nat} {T e : TypeId} {name : String} {f : FuncId} {c : Operand} {p : PD} {n : Nat} {g : Bool} {xs : List Operand} {ts : Array TypeId} {az : List AV} {tbl : List (Nat × Blk)} {out : AV} {tbl' : List (Nat × Blk)} (hN : Nat.blt d N = true) (hi : s.ev c = .dat (.iface T (.ptr p))) [hm : MI P T name f (some e)] [ht : VI P e n g] (hfit : fitsD g n p = true) (hf : callable P f = true)
    (hr : ACall1 P f az tbl out tbl') (hx : .dat p :: xs.map s.ev = renAs θ az) (htb : TbOk s θ tbl) (hok1 : lendOk1 θ az tbl = true) (hfr : FreshOk s θ tbl') (hok : lendOk2 θ tbl tbl' = true) (h : Run P X N Q (.ops ops rem :: ks) ((s.lend θ tbl').put (some d) (renA θ out))) :
    RunK P X N Q ops rem ks (some d) (.call { callee := .invoke c name, args := xs.toArray, argTypes := ts }) s := k_invA θ hN (x := .dat (.ptr p)) (by rw [hi]; rfl) (Recv.loadD hm.out hfit) hf hr hx htb hok1 (fun _ => hfr) (fun _ => hok) (fun _ => h)
theorem k_invAS (θ : Nat → Nat) {d : Nat} {T : TypeId} {name : String} {f : FuncId} {c : Operand} {x : AV} {xs : List Operand} {ts : Array TypeId} {az : List AV} {tbl : List (Nat × Blk)} {ι : Type} {out : ι → AV} {tbl' : ι → List (Nat × Blk)} (hN : Nat.blt d N = true) (hi : ifcA (s.ev c) = some (T, x)) [hm : MI P T name f none] (hf : callable P f = true)
    (hr : ACall P f az tbl out tbl') (hx : x :: xs.map s.ev = renAs θ az) (htb : TbOk s θ tbl) (hok1 : lendOk1 θ az tbl = true) (hfr : ∀ i, FreshOk s θ (tbl' i)) (hok : ∀ i, lendOk2 θ tbl (tbl' i) = true) (h : ∀ i, Run P X N Q (.ops ops rem :: ks) ((s.lend θ (tbl' i)).put (some d) (renA θ (out i)))) :
    RunK P X N Q ops rem ks (some d) (.call { callee := .invoke c name, args := xs.toArray, argTypes := ts }) s := k_invA θ hN hi (Recv.same hm.out) hf hr hx htb hok1 hfr hok h
theorem op_makeFunc {o : Oper} (hd : dstOk X.N o.dst = true) {f : Nat} {xs : List Operand} (ho : o.op = .makeFunc (.func f) #[] xs.toArray) : OpS P X o s (s.put o.dst (.clo f (xs.map s.ev))) :=
  opS_value hd fun a w ρ hc => ⟨.func (.func f) #[] (xs.map a.eval).toArray, by simp [execOp, ho, Instr.makeFunc], by unfold VR; exact ⟨_, rfl, VRs_args hc rfl⟩⟩
theorem k_makeFunc {d f : Nat} {xs : List Operand} (hN : Nat.blt d N = true) (h : Run P X N Q (.ops ops rem :: ks) (s.put (some d) (.clo f (xs.map s.ev)))) : RunK P X N Q ops rem ks (some d) (.makeFunc (.func f) #[] xs.toArray) s := k_of hN (fun _ _ _ hd => op_makeFunc hd rfl) h
theorem VRs_append {F : Nat → Prop} {tb : Nat → Option Blk} : ∀ {l l' : List AV} {vs vs' : List Value}, VRs w F tb ρ l vs → VRs w F tb ρ l' vs' → VRs w F tb ρ (l ++ l') (vs ++ vs')
  | [], _, _, _, h, h' => by unfold VRs at h; subst h; simpa using h'
  | x :: r, _, _, _, h, h' => by
    unfold VRs at h
    obtain ⟨v, r', rfl, h1, h2⟩ := h
    show VRs w F tb ρ (x :: (r ++ _)) (v :: (r' ++ _))
    unfold VRs
    exact ⟨v, _, rfl, h1, VRs_append h2 h'⟩
theorem clo_enter {f : FuncId} {c : Operand} {caps : List AV} {xs : List Operand} {ts : Array TypeId} {o : Oper} (ho : o.op = .call { callee := .value c, args := xs.toArray, argTypes := ts }) (hi : s.ev c = .clo f caps) (hf : callable P f = true) (hc : ConcAt X s a w ρ) :
    ∃ vs, VRs w (FF X w s.tb ρ) s.tb ρ (xs.map s.ev ++ caps) vs ∧ (execOp a.eval o).run P w = .ok (.enter f vs.toArray) w := by
  have h1 := hc.ev c
  rw [hi] at h1
  unfold VR at h1
  obtain ⟨us, e, h2⟩ := h1
  refine ⟨xs.map a.eval ++ us, VRs_append (VRs_args hc rfl) h2, ?_⟩
  simp [execOp, ho, resolve, Deferred.ofValue, e, invoke, run_callFunc hf, Result.andThen]
theorem k_cloA (θ : Nat → Nat) {d : Nat} {f : FuncId} {c : Operand} {caps : List AV} {xs : List Operand} {ts : Array TypeId} {az : List AV} {tbl : List (Nat × Blk)} {ι : Type} {out : ι → AV} {tbl' : ι → List (Nat × Blk)} (hN : Nat.blt d N = true) (hi : s.ev c = .clo f caps) (hf : callable P f = true)
    (hr : ACall P f az tbl out tbl') (hx : xs.map s.ev ++ caps = renAs θ az) (htb : TbOk s θ tbl) (hok1 : lendOk1 θ az tbl = true) (hfr : ∀ i, FreshOk s θ (tbl' i)) (hok : ∀ i, lendOk2 θ tbl (tbl' i) = true) (h : ∀ i, Run P X N Q (.ops ops rem :: ks) ((s.lend θ (tbl' i)).put (some d) (renA θ (out i)))) :
    RunK P X N Q ops rem ks (some d) (.call { callee := .value c, args := xs.toArray, argTypes := ts }) s := ⟨fun ty pos aft => ⟨fun hX a w ⟨ρ, hc⟩ => by
  obtain ⟨vs, hv, he⟩ := clo_enter (o := ⟨some d, .call { callee := .value c, args := xs.toArray, argTypes := ts }, ty, pos, aft, none⟩) rfl hi hf hc
  have hcall := hc.acall hX.2 θ hr htb hfr hok1 hok (vs := vs) (by rw [← hx]; exact hv)
  refine run_enter hf he (R := fun v w' => ∃ i ρ', ConcAt X (s.lend θ (tbl' i)) a w' ρ' ∧ VR w' (FF X w' (s.lend θ (tbl' i)).tb ρ') (s.lend θ (tbl' i)).tb ρ' (renA θ (out i)) v) (hcall.mono ?_) ?_
  · rintro e w' ⟨v, i, ρ', he, h1, h2⟩
    exact ⟨v, he, i, ρ', h1, h2⟩
  · rintro v w' ⟨i, ρ', h1, h2⟩
    exact (h i).out hX _ _ ⟨ρ', h1.putO (hN_ok hN hX) h2⟩⟩⟩
theorem k_cloA1 (θ : Nat → Nat) {d : Nat} {f : FuncId} {c : Operand} {caps : List AV} {xs : List Operand} {ts : Array TypeId} {az : List AV} {tbl : List (Nat × Blk)} {out : AV} {tbl' : List (Nat × Blk)} (hN : Nat.blt d N = true) (hi : s.ev c = .clo f caps) (hf : callable P f = true)
    (hr : ACall1 P f az tbl out tbl') (hx : xs.map s.ev ++ caps = renAs θ az) (htb : TbOk s θ tbl) (hok1 : lendOk1 θ az tbl = true) (hfr : FreshOk s θ tbl') (hok : lendOk2 θ tbl tbl' = true) (h : Run P X N Q (.ops ops rem :: ks) ((s.lend θ tbl').put (some d) (renA θ out))) :
    RunK P X N Q ops rem ks (some d) (.call { callee := .value c, args := xs.toArray, argTypes := ts }) s := k_cloA θ hN hi hf hr hx htb hok1 (fun _ => hfr) (fun _ => hok) (fun _ => h)
def nifT (P : Program) (t : TypeId) : Bool := match P.underlying t with
  | some d => notIface d
  | none => false
/-- The zero value of a type, of one cell. -/
def zer1 (P : Program) (t : TypeId) : Option Value := match P.info? t with
  | some i => i.zero
  | none => none
theorem run_zer1 {t : TypeId} {z : Value} (h : zer1 P t = some z) (w : World) : (zeroValue t).run P w = .ok z w := by
  unfold zer1 at h
  split at h
  · rename_i i hi
    simp [zeroValue, typeInfo, hi, h, Result.andThen]
  · cases h
theorem op_taS {o : Oper} (hd : dstOk X.N o.dst = true) {x : Operand} {t T : TypeId} (ho : o.op = .typeAssert x t T true) {d : PD} (hx : s.ev x = .dat (.iface T d)) (ht : nifT P T = true) : OpS P X o s (s.put o.dst (.dat (.tup [d, .val (.bool true)]))) := by
  refine opS_value hd fun a w ρ hc => ?_
  have h1 := hc.ev x
  rw [hx] at h1
  unfold VR Rep at h1
  obtain ⟨u, e, hu⟩ := h1
  unfold nifT at ht
  split at ht
  · rename_i d' hd'
    refine ⟨.tuple #[u, .bool true], by simp [execOp, ho, e, run_ta_same hd' ht], ?_⟩
    unfold VR Rep
    refine ⟨[u, .bool true], rfl, ?_⟩
    unfold Reps
    refine ⟨u, _, rfl, hu, ?_⟩
    unfold Reps
    refine ⟨_, [], rfl, by unfold Rep; exact ⟨rfl, trivial⟩, by unfold Reps; rfl⟩
  · cases ht
theorem op_ta1 {o : Oper} (hd : dstOk X.N o.dst = true) {x : Operand} {t T : TypeId} (ho : o.op = .typeAssert x t T false) {d : PD} (hx : s.ev x = .dat (.iface T d)) (ht : nifT P T = true) : OpS P X o s (s.put o.dst (.dat d)) := by
  refine opS_value hd fun a w ρ hc => ?_
  have h1 := hc.ev x
  rw [hx] at h1
  unfold VR Rep at h1
  obtain ⟨u, e, hu⟩ := h1
  unfold nifT at ht
  split at ht
  · rename_i d' hd'
    exact ⟨u, by simp [execOp, ho, e, run_ta_same' hd' ht], by unfold VR; exact hu⟩
  · cases ht
theorem rep_zf {F : Nat → Prop} {z : Value} (hz : okB z = true) : Rep w F (.tup [.val z, .val (.bool false)]) (.tuple #[z, .bool false]) := by
  unfold Rep
  refine ⟨[z, .bool false], rfl, ?_⟩
  unfold Reps
  refine ⟨z, _, rfl, by unfold Rep; exact ⟨rfl, okB_ok hz⟩, ?_⟩
  unfold Reps
  refine ⟨_, [], rfl, by unfold Rep; exact ⟨rfl, trivial⟩, by unfold Reps; rfl⟩
theorem k_taS {d : Nat} {x : Operand} {t T : Nat} {p : PD} (hN : Nat.blt d N = true) (hx : s.ev x = .dat (.iface T p)) (ht : nifT P T = true) (h : Run P X N Q (.ops ops rem :: ks) (s.put (some d) (.dat (.tup [p, .val (.bool true)])))) : RunK P X N Q ops rem ks (some d) (.typeAssert x t T true) s := k_of hN (fun _ _ _ hd => op_taS hd rfl hx ht) h
theorem k_ta1 {d : Nat} {x : Operand} {t T : Nat} {p : PD} (hN : Nat.blt d N = true) (hx : s.ev x = .dat (.iface T p)) (ht : nifT P T = true) (h : Run P X N Q (.ops ops rem :: ks) (s.put (some d) (.dat p))) : RunK P X N Q ops rem ks (some d) (.typeAssert x t T false) s := k_of hN (fun _ _ _ hd => op_ta1 hd rfl hx ht) h
/-- A function that makes memory at most, whatever its arguments are. -/
def Idle (P : Program) (f : FuncId) (n : Nat) : Prop := callable P f = true ∧ ∀ (vs : List Value) (u : FrameMode) (w : World), vs.length = n → CallsD P f vs.toArray u w fun e u' w' => u' = u ∧ (∃ v, e = .returned v) ∧ Below w.heap.size w w'
theorem ConcAt.defer (h : ConcAt X s a w ρ) {d : Deferred} (hd : Harmless X.P d) : ConcAt X s { a with defers := d :: a.defers } w ρ :=
  ⟨h.size, fun d' hd' => (List.mem_cons.1 hd').elim (fun e => e ▸ hd) (h.defers d'), h.below, h.tmps, h.blks, h.apart, h.lent⟩
theorem d_deferA {ops : List Oper} {T : TypeId} {name : String} {f : FuncId} {c : Operand} {x : AV} {xs : List Operand} {ts : Array TypeId} (hi : ifcA (s.ev c) = some (T, x)) [hm : MI P T name f none] (hf : Idle P f (xs.length + 1)) :
    TrK P X N ops none (.defer { callee := .invoke c name, args := xs.toArray, argTypes := ts }) ⟨none, none, none⟩ s s := ⟨fun hX ty pos aft g s' hA => by
  intro a w ⟨ρ, hc⟩ K Q hK
  have hev : s'.ev c = s.ev c := ev_alike hA (by simp [Op.operands, Call.operands])
  obtain ⟨v, e, hv⟩ := ifcA_spec (by rw [hev]; exact hi) (hc.ev c)
  have hrun : (execOp a.eval ⟨none, .defer { callee := .invoke c name, args := xs.toArray, argTypes := ts }, ty, pos, aft, g⟩).run P w = .ok (.defer { target := .fn (.method name) #[], args := #[.iface T v] ++ (xs.map a.eval).toArray }) w := by
    simp [execOp, resolve, e, Result.andThen]
  unfold Oper.wp
  rw [hrun, Oper.upon_defer]
  refine hK _ _ ⟨ρ, (hc.defer ?_).put_none .any undef⟩
  rw [hX.2]
  refine ⟨.method name, #[], f, (v :: xs.map a.eval).toArray, rfl, fun w' => ?_, fun u w' => ?_⟩
  · simp [invoke, callMethod, run_method_same hm.out (show 0 < P.types.size + Made.depth by unfold Made.depth; omega), run_callFunc hf.1, Result.andThen, List.take_of_length_le]
  · exact hf.2 _ u w' (by simp), rfl⟩
theorem k_deferA {T : TypeId} {name : String} {f : FuncId} {c : Operand} {x : AV} {xs : List Operand} {ts : Array TypeId} (hi : ifcA (s.ev c) = some (T, x)) [hm : MI P T name f none] (hf : Idle P f (xs.length + 1)) (h : Run P X N Q (.ops ops rem :: ks) s) :
    RunK P X N Q ops rem ks none (.defer { callee := .invoke c name, args := xs.toArray, argTypes := ts }) s := ⟨fun ty pos aft => ⟨fun hX a w ⟨ρ, hc⟩ => by
  obtain ⟨v, e, hv⟩ := ifcA_spec hi (hc.ev c)
  have hrun : (execOp a.eval ⟨none, .defer { callee := .invoke c name, args := xs.toArray, argTypes := ts }, ty, pos, aft, none⟩).run P w = .ok (.defer { target := .fn (.method name) #[], args := #[.iface T v] ++ (xs.map a.eval).toArray }) w := by
    simp [execOp, resolve, e, Result.andThen]
  unfold Oper.wp
  rw [hrun, Oper.upon_defer]
  refine h.out hX _ _ ⟨ρ, (hc.defer ?_).put_none .any undef⟩
  rw [hX.2]
  refine ⟨.method name, #[], f, (v :: xs.map a.eval).toArray, rfl, fun w' => ?_, fun u w' => ?_⟩
  · simp [invoke, callMethod, run_method_same hm.out (show 0 < P.types.size + Made.depth by unfold Made.depth; omega), run_callFunc hf.1, Result.andThen, List.take_of_length_le]
  · exact hf.2 _ u w' (by simp)⟩⟩
theorem d_acallB (θ : Nat → Nat) {ops : List Oper} {d f k : Nat} {xs : List Operand} {ts : Array TypeId} {az : List AV} {b b' : Blk} {out : AV} (hN : Nat.blt d N = true) (hf : callable P f = true) (hr : ACall1 P f az [(1000, b)] out [(1000, b')]) (hx : xs.map s.ev = renAs θ az) (hk : θ 1000 = k)
    (htb : s.tb k = some (renB θ b)) (hok1 : lendOk1 θ az [(1000, b)] = true) (hok : lendOk2 θ [(1000, b)] [(1000, b')] = true) :
    TrK P X N ops (some d) (.call { callee := .value (.func f), args := xs.toArray, argTypes := ts }) ⟨none, some (k, renB θ b'), some (d, renA θ out)⟩ s ((s.set k (renB θ b')).put (some d) (renA θ out)) := ⟨fun hX ty pos aft g s' hA => by
  have hev : xs.map s'.ev = renAs θ az := by rw [map_alike (fun x hx => ev_alike hA (by simp [Op.operands, Call.operands, hx]))]; exact hx
  have htb' : s'.tb k = some (renB θ b) := (new_alike hA rfl).trans htb
  intro a w ⟨ρ, hc⟩ K Q hK
  have hcall := hc.acall hX.2 θ hr (by refine ⟨?_, trivial⟩; rw [hk]; exact htb') (fun _ => ⟨.inl rfl, trivial⟩) hok1 (fun _ => hok) (vs := xs.map a.eval) (by rw [← hev]; exact VRs_args hc rfl)
  refine run_enter hf (vs := xs.map a.eval) (by simp [execOp, resolve, Deferred.ofValue, Act.eval, invoke, run_callFunc hf]) (R := fun v w' => ∃ ρ', ConcAt X (s'.lend θ [(1000, b')]) a w' ρ' ∧ VR w' (FF X w' (s'.lend θ [(1000, b')]).tb ρ') (s'.lend θ [(1000, b')]).tb ρ' (renA θ out) v) (hcall.mono ?_) ?_
  · rintro e w' ⟨v, i, ρ', he, h1, h2⟩
    exact ⟨v, he, ρ', h1, h2⟩
  · rintro v w' ⟨ρ', h1, h2⟩
    refine hK _ _ ?_
    have := h1.putO (d := some d) (hN_ok hN hX) h2
    refine ⟨ρ', ?_⟩
    have e : ((s'.lend θ [(1000, b')]).put (some d) (renA θ out)) = (Eff.mk none (some (k, renB θ b')) (some (d, renA θ out))).app s' := by
      subst hk; rfl
    rw [← e]; exact this, rfl⟩
theorem op_ifaceA {o : Oper} (hd : dstOk X.N o.dst = true) {t : TypeId} {x : Operand} (ho : o.op = .makeInterface t x) {y : AV} (hx : s.ev x = y) (ht : concT P t = true) : OpS P X o s (s.put o.dst (.iface t y)) := by
  refine opS_value hd fun a w ρ hc => ⟨.iface t (a.eval x), ?_, ?_⟩
  · unfold concT at ht
    split at ht
    · cases ht
    · rename_i d2 hne hu
      cases d2 <;> first | (simp [execOp, ho, Instr.makeInterface, run_underlying hu]; done) | exact (hne _ rfl).elim
    · cases ht
  · have h1 := hc.ev x
    rw [hx] at h1
    unfold VR
    exact ⟨_, rfl, h1⟩
theorem k_ifaceP {d : Nat} {x : Operand} {t k off : Nat} (hN : Nat.blt d N = true) (hx : s.ev x = .ptr k off) (ht : concT P t = true) (h : Run P X N Q (.ops ops rem :: ks) (s.put (some d) (.iface t (.ptr k off)))) : RunK P X N Q ops rem ks (some d) (.makeInterface t x) s := k_of hN (fun _ _ _ hd => op_ifaceA hd rfl hx ht) h
theorem d_ifaceP {ops : List Oper} {d : Nat} {x : Operand} {t k off : Nat} (hN : Nat.blt d N = true) (hx : s.ev x = .ptr k off) (ht : concT P t = true) : TrK P X N ops (some d) (.makeInterface t x) (Eff.put (some d) (.iface t (.ptr k off))) s (s.put (some d) (.iface t (.ptr k off))) := act_val hN fun s' _ _ _ _ hd hev htb => op_ifaceA hd rfl ((hev _ (by simp [Op.operands])).trans hx) ht
theorem op_nilI {o : Oper} (hd : dstOk X.N o.dst = true) {x : Operand} (ho : o.op = .nilCheck x) {t : TypeId} {y : PD} (hx : s.ev x = .dat (.iface t y)) : OpS P X o s (s.put o.dst (.dat (.iface t y))) := by
  refine opS_value hd fun a w ρ hc => ?_
  have h1 := hc.ev x
  rw [hx] at h1
  unfold VR Rep at h1
  obtain ⟨u, e, hu⟩ := h1
  exact ⟨.iface t u, by simp [execOp, ho, e], by unfold VR Rep; exact ⟨u, rfl, hu⟩⟩
theorem k_nilI {d : Nat} {x : Operand} {t : TypeId} {y : PD} (hN : Nat.blt d N = true) (hx : s.ev x = .dat (.iface t y)) (h : Run P X N Q (.ops ops rem :: ks) (s.put (some d) (.dat (.iface t y)))) : RunK P X N Q ops rem ks (some d) (.nilCheck x) s := k_of hN (fun _ _ _ hd => op_nilI hd rfl hx) h
theorem d_nilI {ops : List Oper} {d : Nat} {x : Operand} {t : TypeId} {y : PD} (hN : Nat.blt d N = true) (hx : s.ev x = .dat (.iface t y)) : TrK P X N ops (some d) (.nilCheck x) (Eff.put (some d) (.dat (.iface t y))) s (s.put (some d) (.dat (.iface t y))) := act_val hN fun s' _ _ _ _ hd hev htb => op_nilI hd rfl ((hev _ (by simp [Op.operands])).trans hx)
theorem k_assignI {d : Nat} {x : Operand} {t : TypeId} {y : AV} (hN : Nat.blt d N = true) (hx : s.ev x = .iface t y) (h : Run P X N Q (.ops ops rem :: ks) (s.put (some d) (.iface t y))) : RunK P X N Q ops rem ks (some d) (.assign x) s := k_of hN (fun _ _ _ hd => op_assign hd rfl hx) h
theorem d_assignI {ops : List Oper} {d : Nat} {x : Operand} {t : TypeId} {y : AV} (hN : Nat.blt d N = true) (hx : s.ev x = .iface t y) : TrK P X N ops (some d) (.assign x) (Eff.put (some d) (.iface t y)) s (s.put (some d) (.iface t y)) := act_val hN fun s' _ _ _ _ hd hev htb => op_assign hd rfl ((hev _ (by simp [Op.operands])).trans hx)
theorem k_moveI {d : Nat} {x : Operand} {t : TypeId} {y : AV} (hN : Nat.blt d N = true) (hx : s.ev x = .iface t y) (h : Run P X N Q (.ops ops rem :: ks) (s.put (some d) (.iface t y))) : RunK P X N Q ops rem ks (some d) (.move x) s := k_of hN (fun _ _ _ hd => op_move hd rfl hx) h
theorem d_moveI {ops : List Oper} {d : Nat} {x : Operand} {t : TypeId} {y : AV} (hN : Nat.blt d N = true) (hx : s.ev x = .iface t y) : TrK P X N ops (some d) (.move x) (Eff.put (some d) (.iface t y)) s (s.put (some d) (.iface t y)) := act_val hN fun s' _ _ _ _ hd hev htb => op_move hd rfl ((hev _ (by simp [Op.operands])).trans hx)
theorem k_moveC {d : Nat} {x : Operand} {f : Nat} {l : List AV} (hN : Nat.blt d N = true) (hx : s.ev x = .clo f l) (h : Run P X N Q (.ops ops rem :: ks) (s.put (some d) (.clo f l))) : RunK P X N Q ops rem ks (some d) (.move x) s := k_of hN (fun _ _ _ hd => op_move hd rfl hx) h
theorem k_loadBC {d : Nat} {x : Operand} {t k off T n : Nat} {cs : List AV} {g : Bool} {f : Nat} {l : List AV} (hN : Nat.blt d N = true) (hx : s.ev x = .ptr k off) (hk : s.tb k = some (.box T cs)) [ht : VI P t n g] (hf : subA g n off cs = some (.clo f l)) (h : Run P X N Q (.ops ops rem :: ks) (s.put (some d) (.clo f l))) : RunK P X N Q ops rem ks (some d) (.load t x) s := k_of hN (fun _ _ _ hd => op_loadB hd rfl hx hk ht.out hf) h
/-- Items of a made-up tuple with own parts. -/
theorem op_extractA {o : Oper} (hd : dstOk X.N o.dst = true) {x : Operand} {i : Nat} (ho : o.op = .extract x i) {l : List AV} (hx : s.ev x = .tup l) {y : AV} (hl : l[i]? = some y) : OpS P X o s (s.put o.dst y) := by
  refine opS_value hd fun a w ρ hc => ?_
  have h1 := hc.ev x
  rw [hx] at h1
  unfold VR at h1
  obtain ⟨vs, e, h2⟩ := h1
  obtain ⟨u, hu, hv⟩ := h2.at_ hl
  exact ⟨u, by simp [execOp, ho, e, Instr.extract, hu], hv⟩
theorem k_extractI {d : Nat} {x : Operand} {i : Nat} {l : List AV} {t : TypeId} {y : AV} (hN : Nat.blt d N = true) (hx : s.ev x = .tup l) (hl : l[i]? = some (.iface t y)) (h : Run P X N Q (.ops ops rem :: ks) (s.put (some d) (.iface t y))) : RunK P X N Q ops rem ks (some d) (.extract x i) s := k_of hN (fun _ _ _ hd => op_extractA hd rfl hx hl) h
theorem k_extractD {d : Nat} {x : Operand} {i : Nat} {l : List AV} {y : PD} (hN : Nat.blt d N = true) (hx : s.ev x = .tup l) (hl : l[i]? = some (.dat y)) (h : Run P X N Q (.ops ops rem :: ks) (s.put (some d) (.dat y))) : RunK P X N Q ops rem ks (some d) (.extract x i) s := k_of hN (fun _ _ _ hd => op_extractA hd rfl hx hl) h
theorem k_moveT {d : Nat} {x : Operand} {l : List AV} (hN : Nat.blt d N = true) (hx : s.ev x = .tup l) (h : Run P X N Q (.ops ops rem :: ks) (s.put (some d) (.tup l))) : RunK P X N Q ops rem ks (some d) (.move x) s := k_of hN (fun _ _ _ hd => op_move hd rfl hx) h
/-- Floating-point numbers. -/
def fltC (k : FloatKind) : BinOp → Nat → Nat → Option Bool
  | .eql, a, b => some (k.format.order a b == some .eq)
  | .neq, a, b => some (k.format.order a b != some .eq)
  | .lss, a, b => some (k.format.order a b == some .lt)
  | .leq, a, b => some (k.format.order a b == some .lt || k.format.order a b == some .eq)
  | .gtr, a, b => some (k.format.order a b == some .gt)
  | .geq, a, b => some (k.format.order a b == some .gt || k.format.order a b == some .eq)
  | _, _, _ => none
theorem run_fltC {op : BinOp} {k : FloatKind} {a b : Nat} {r : Bool} (h : fltC k op a b = some r) (t : TypeId) (x y : Operand) (w : World) : (do eqGuard op t x y (.float k a) (.float k b); binOp op t (.float k a) (.float k b) : Sem Value).run P w = .ok (.bool r) w := by
  unfold fltC at h
  split at h <;> first | cases h | skip
  all_goals simp [eqGuard, binOp, Op.floatCmp, go_sem]
theorem op_fltC {o : Oper} (hd : dstOk X.N o.dst = true) {op : BinOp} {t t' : TypeId} {x y : Operand} (ho : o.op = .binOp op t x y t') {k : FloatKind} {a b : Nat} {r : Bool} (hx : s.ev x = .dat (.val (.float k a))) (hy : s.ev y = .dat (.val (.float k b))) (hr : fltC k op a b = some r) : OpS P X o s (s.put o.dst (.dat (.val (.bool r)))) :=
  op_bin hd ho hx hy (run_fltC hr t x y) trivial
theorem k_fltC {d : Nat} {x y : Operand} {op : BinOp} {t t' : Nat} {k : FloatKind} {a b : Nat} {r : Bool} (hN : Nat.blt d N = true) (hx : s.ev x = .dat (.val (.float k a))) (hy : s.ev y = .dat (.val (.float k b))) (hr : fltC k op a b = some r) (h : Run P X N Q (.ops ops rem :: ks) (s.put (some d) (.dat (.val (.bool r))))) : RunK P X N Q ops rem ks (some d) (.binOp op t x y t') s := k_of hN (fun _ _ _ hd => op_fltC hd rfl hx hy hr) h
def fltT (P : Program) (t : TypeId) : Option FloatKind := match P.underlying t with
  | some (.float k) => some k
  | _ => none
theorem op_convF {o : Oper} (hd : dstOk X.N o.dst = true) {t t' : TypeId} {x : Operand} (ho : o.op = .convert t t' x) {k : IntKind} {q : FloatKind} {a : Int} (hx : s.ev x = .dat (.val (.int k a))) (ht0 : intT P t = some k) (ht : fltT P t' = some q) : OpS P X o s (s.put o.dst (.dat (.val (.float q (floatOfInt q a))))) := by
  refine opS_value hd fun a' w ρ hc => ⟨.float q (floatOfInt q a), ?_, by unfold VR Rep; exact ⟨rfl, floatOfInt_wf q a⟩⟩
  have h1 := hc.ev x
  rw [hx] at h1
  unfold VR Rep at h1
  unfold fltT at ht
  split at ht
  · rename_i q' hu
    cases ht
    unfold intT at ht0
    split at ht0
    · rename_i k' hu0
      simp [execOp, ho, h1.1, convert, run_underlying hu, run_underlying hu0, Conv.intToFloat]
      rfl
    · cases ht0
  · cases ht
theorem k_convF {d : Nat} {x : Operand} {t t' : Nat} {k : IntKind} {q : FloatKind} {a : Int} (hN : Nat.blt d N = true) (hx : s.ev x = .dat (.val (.int k a))) (ht0 : intT P t = some k) (ht : fltT P t' = some q) (h : Run P X N Q (.ops ops rem :: ks) (s.put (some d) (.dat (.val (.float q (floatOfInt q a)))))) : RunK P X N Q ops rem ks (some d) (.convert t t' x) s := k_of hN (fun _ _ _ hd => op_convF hd rfl hx ht0 ht) h
end
end Go.Proofs.Ytbbacpdbbmjblaa
end
section
namespace Go.Proofs.Ytbbacpdbbmjblaa
open Go.RowKit
set_option linter.unusedSimpArgs false
set_option maxRecDepth 100000 in
theorem AsBool_any (x : Bool) (w : World) : Calls Try.prog 135 #[.agg #[.iface 4 (.bool x)]] w fun e w' => e = .returned (.bool x) ∧ w' = w.alloc (.cells #[.iface 4 (.bool x)] 173) := by
  go_enter Try.func135, Try.ntmps135
  go_wp2_with fail
  go_ret
  exact ⟨rfl, rfl⟩
set_option maxRecDepth 100000 in
theorem AsInt_any (x : Int) (w : World) : Calls Try.prog 137 #[.agg #[.iface 2 (.int .i64 x)]] w fun e w' => e = .returned (.int .i64 x) ∧ w' = w.alloc (.cells #[.iface 2 (.int .i64 x)] 173) := by
  go_enter Try.func137, Try.ntmps137
  go_wp2_with fail
  go_ret
  exact ⟨rfl, rfl⟩
set_option maxRecDepth 100000 in
theorem AsFloat_any (x : Nat) (w : World) : Calls Try.prog 136 #[.agg #[.iface 40 (.float .f64 x)]] w fun e w' => e = .returned (.float .f64 x) ∧ w' = w.alloc (.cells #[.iface 40 (.float .f64 x)] 173) := by
  go_enter Try.func136, Try.ntmps136
  go_wp2_with fail
  go_ret
  exact ⟨rfl, rfl⟩
set_option maxRecDepth 100000 in
theorem AsString_any (x : ByteArray) (w : World) : Calls Try.prog 142 #[.agg #[.iface 9 (.string x)]] w fun e w' => e = .returned (.string x) ∧ w' = w.alloc (.cells #[.iface 9 (.string x)] 173) := by
  go_enter Try.func142, Try.ntmps142
  go_wp2_with fail
  go_ret
  exact ⟨rfl, rfl⟩
end Go.Proofs.Ytbbacpdbbmjblaa
end
section
set_option linter.unusedVariables false
namespace Go.Proofs.Ytbbacpdbbmjblaa
open Go.RowKit
open Go.ChangeMaps (setBlock)
set_option linter.unusedSimpArgs false
/-- The items of a list of the package. -/
def dvLs (l : List JV) : PD := .opq {
  rel := fun w F v => ∃ a c, v = .slice a l.length c ∧ l.length * 16 ≤ 140737488351232 ∧ (l = [] ∨ ∃ b o, F b ∧ a = some ⟨b, o, none⟩ ∧ IsJs w F l b o) ∧ ∀ x ∈ l, JOk x,
  one := fun _ _ _ ⟨_, _, e, _⟩ => by rw [e]; rfl,
  keep := fun _ _ _ _ _ h hs ⟨a, c, e, h1, h2, h3⟩ => ⟨a, c, e, h1, h2.imp id (fun ⟨b, o, hb, ha, hx⟩ => ⟨b, o, hs b hb, ha, IsJs.keep h hs l b o hb hx⟩), h3⟩ }
/-- The fields of a map of the package. -/
def dvMm (m : List (ByteArray × JV)) : PD := .opq {
  rel := fun w F v => ∃ b es cl, v = .map (some b) ∧ F b ∧ w.heap[b]? = some (.map es cl) ∧ MapKept.Stamped es cl ∧ m.length < maxLen ∧ IsEs w F m es.toList ∧ JOk (.map m),
  one := fun _ _ _ ⟨_, _, _, e, _⟩ => by rw [e]; rfl,
  keep := fun _ _ _ _ _ h hs ⟨b, es, cl, e, hb, hh, h1, h2, h3, h4⟩ => ⟨b, es, cl, e, hs b hb, (h b hb).trans hh, h1, h2, IsEs.keep h hs m es.toList h3, h4⟩ }
/-- A tree, as far as its head goes. -/
def dvX : JV → PD
  | .null => .val .nilIface
  | .bool b => .iface 4 (.val (.bool b))
  | .int n => .iface 2 (.val (.int .i64 n))
  | .flt f => .iface 40 (.val (.float .f64 f))
  | .str s => .iface 9 (.val (.string s))
  | .list l => .iface 141 (dvLs l)
  | .map m => .iface 106 (dvMm m)
theorem dvX_le (j : JV) : PLe (pdJ j) (dvX j) := by
  intro w F v h
  unfold pdJ Rep at h
  obtain ⟨h, hok⟩ := h
  cases j with
  | null => unfold IsJ at h; unfold dvX Rep; exact ⟨h, trivial⟩
  | bool b => unfold IsJ at h; unfold dvX Rep; exact ⟨_, h, by unfold Rep; exact ⟨rfl, trivial⟩⟩
  | int n => unfold IsJ at h; unfold dvX Rep; exact ⟨_, h.1, by unfold Rep; exact ⟨rfl, h.2⟩⟩
  | flt n => unfold IsJ at h; unfold dvX Rep; exact ⟨_, h.1, by unfold Rep; exact ⟨rfl, h.2⟩⟩
  | str n => unfold IsJ at h; unfold dvX Rep; exact ⟨_, h.1, by unfold Rep; exact ⟨rfl, h.2⟩⟩
  | list l =>
    unfold IsJ at h
    obtain ⟨a, c, e, h1, h2⟩ := h
    unfold dvX Rep
    refine ⟨_, e, ?_⟩
    unfold dvLs Rep
    exact ⟨a, c, rfl, h1, h2, JOks_mem (by unfold JOk at hok; exact hok.2)⟩
  | map m =>
    unfold IsJ at h
    obtain ⟨b, es, cl, e, hb, hh, h1, h2, h3⟩ := h
    unfold dvX Rep
    refine ⟨_, e, ?_⟩
    unfold dvMm Rep
    exact ⟨b, es, cl, rfl, hb, hh, h1, h2, h3, hok⟩
section
variable {P : Program}
/-- Arguments that say more. -/
theorem PCall.le {f : FuncId} {ds ds' : List PD} {r : PD} (h : ∀ w F vs, Reps w F ds vs → Reps w F ds' vs) (hp : PCall P f ds' r) : PCall P f ds r := fun w F vs hF hv => hp w F vs hF (h w F vs hv)
theorem PCall.ex {f : FuncId} {ds : List PD} {r : PD} (h : ∀ w F vs, Reps w F ds vs → PCall P f ds r) : PCall P f ds r := fun w F vs hF hv => h w F vs hv w F vs hF hv
theorem Reps.cons1 {w : World} {F : Nat → Prop} {d d' : PD} {ds : List PD} {vs : List Value} (h : PLe d d') (hv : Reps w F (d :: ds) vs) : Reps w F (d' :: ds) vs := by
  unfold Reps at hv ⊢
  obtain ⟨v, r, e, h1, h2⟩ := hv
  exact ⟨v, r, e, h _ _ _ h1, h2⟩
theorem PLe.agg1 {d d' : PD} (h : PLe d d') : PLe (.agg [d]) (.agg [d']) := by
  intro w F v hv
  unfold Rep at hv ⊢
  obtain ⟨vs, e, h1, h2⟩ := hv
  exact ⟨vs, e, Reps.cons1 h h1, h2⟩
/-- The struct around a tree, as far as its head goes. -/
theorem PCall.vu {f : FuncId} {j : JV} {ds : List PD} {r : PD} (h : PCall P f (.agg [dvX j] :: ds) r) : PCall P f (.agg [pdJ j] :: ds) r := h.le (fun _ _ _ hv => Reps.cons1 (PLe.agg1 (dvX_le j)) hv)
variable {X : Base} {N : Nat} {Q : Exit → Act → World → Prop} {ops : Array Oper} {rem : List Nat} {ks : List Itm} {s s' : Sta} {a : Act} {w w' : World} {ρ : Nat → RV}
theorem NilIs.ifc {T : Nat} {d : PD} : NilIs true (.iface T d) false := fun w F v h => by
  unfold Rep at h
  obtain ⟨u, rfl, _⟩ := h
  exact ⟨_, _, rfl⟩
theorem op_lenJ {o : Oper} (hd : dstOk X.N o.dst = true) {x : Operand} {t : TypeId} (ho : o.op = .call { callee := .builtin .len, args := #[x], argTypes := #[t] }) {e n y : Nat} (ht : slcI P t = some (e, n, y)) {l : List JV} (hx : s.ev x = .dat (dvLs l)) :
    OpS P X o s (s.put o.dst (.dat (.val (.int .i64 l.length)))) := by
  refine opS_value hd fun a w ρ hc => ?_
  have h2 := hc.ev x
  rw [hx] at h2
  unfold VR dvLs Rep at h2
  obtain ⟨a', c, e1, hby, hcase, _⟩ := h2
  refine ⟨.int .i64 l.length, ?_, by unfold VR Rep; exact ⟨rfl, wf_small (by omega)⟩⟩
  obtain ⟨_, hu, _⟩ := slcI_spec ht
  simp [execOp, ho, resolve, invoke, builtin, e1, run_len hu, goInt]
theorem k_lenJ {d : Nat} {x : Operand} {t e n y : Nat} {l : List JV} (hN : Nat.blt d N = true) (hx : s.ev x = .dat (dvLs l)) [ht : SI P t e n y] (h : Run P X N Q (.ops ops rem :: ks) (s.put (some d) (.dat (.val (.int .i64 l.length))))) : RunK P X N Q ops rem ks (some d) (.call { callee := .builtin .len, args := #[x], argTypes := #[t] }) s := k_of hN (fun _ _ _ hd => op_lenJ hd rfl ht.out hx) h
theorem d_lenJ {ops : List Oper} {d : Nat} {x : Operand} {t e n y : Nat} {l : List JV} (hN : Nat.blt d N = true) (hx : s.ev x = .dat (dvLs l)) [ht : SI P t e n y] : TrK P X N ops (some d) (.call { callee := .builtin .len, args := #[x], argTypes := #[t] }) (Eff.put (some d) (.dat (.val (.int .i64 l.length)))) s (s.put (some d) (.dat (.val (.int .i64 l.length)))) := act_val hN fun s' _ _ _ _ hd hev htb => op_lenJ hd rfl ht.out ((hev _ (by simp [Op.operands, Call.operands])).trans hx)
theorem op_indexJ {o : Oper} (hd : dstOk X.N o.dst = true) {t : TypeId} {x ix : Operand} (ho : o.op = .indexAddr t x ix) {l : List JV} (hx : s.ev x = .dat (dvLs l)) {k : IntKind} {i : Nat} (hi : s.ev ix = .dat (.val (.int k (i : Int))))
    {e y' : Nat} (ht : slcI P t = some (e, 1, y')) {j : JV} (hl : l[i]? = some j) : OpS P X o s (s.put o.dst (.dat (.ptr (pdJ j)))) := by
  refine opS_value hd fun a w ρ hc => ?_
  have h2 := hc.ev x
  rw [hx] at h2
  unfold VR dvLs Rep at h2
  have h3 := hc.ev ix
  rw [hi] at h3
  unfold VR Rep at h3
  obtain ⟨a', c, e1, hby, hcase, hok⟩ := h2
  obtain ⟨inf, hu, hinf, hsz, _⟩ := slcI_spec ht
  have hlt : i < l.length := (List.getElem?_eq_some_iff.1 hl).1
  rcases hcase with rfl | ⟨b, off, hF, ha, hr⟩
  · simp at hl
  obtain ⟨u, hu1, hun⟩ := hr.at_ hl
  subst ha
  refine ⟨.pointer (some ⟨b, off + i, none⟩), ?_, ?_⟩
  · simp [execOp, ho, e1, h3.1, Instr.indexAt, asIntOf, run_underlying hu, hlt, sizeOf, typeInfo, hinf, hsz, Addr_add]
  · unfold VR Rep
    refine ⟨b, off + i, u, rfl, hF, by unfold pdJ Rep; exact ⟨hun, hok j (List.mem_of_getElem? hl)⟩, ?_⟩
    rw [one_toList hun.oneCell]
    intro q v hq
    cases q with
    | zero => simp at hq; subst hq; exact hu1
    | succ q => simp at hq
theorem d_indexJ {ops : List Oper} {d : Nat} {x ix : Operand} {t e y' : Nat} {l : List JV} {k : IntKind} {i : Nat} {j : JV} (hN : Nat.blt d N = true) (hx : s.ev x = .dat (dvLs l)) (hi : s.ev ix = .dat (.val (.int k (i : Int)))) [ht : SI P t e 1 y'] (hl : l[i]? = some j) : TrK P X N ops (some d) (.indexAddr t x ix) (Eff.put (some d) (.dat (.ptr (pdJ j)))) s (s.put (some d) (.dat (.ptr (pdJ j)))) := act_val hN fun s' _ _ _ _ hd hev htb => op_indexJ hd rfl ((hev _ (by simp [Op.operands])).trans hx) ((hev _ (by simp [Op.operands])).trans hi) ht.out hl
def mapT (P : Program) (t : TypeId) : Option (Nat × Nat) := match P.underlying t with
  | some (.map k e) => some (k, e)
  | _ => none
theorem mapT_spec {t k e : Nat} (h : mapT P t = some (k, e)) : P.underlying t = some (.map k e) := by
  unfold mapT at h
  split at h
  · simp only [Option.some.injEq, Prod.mk.injEq] at h; obtain ⟨rfl, rfl⟩ := h; assumption
  · cases h
/-- A map type from strings to interface values. -/
class MTI (P : Program) (t : Nat) (k : outParam Nat) (e : outParam Nat) : Prop where
  out : mapT P t = some (k, e)
  str : P.underlying k = some .string
  zer : zer1 P e = some .nilIface
theorem op_lenM {o : Oper} (hd : dstOk X.N o.dst = true) {x : Operand} {t : TypeId} (ho : o.op = .call { callee := .builtin .len, args := #[x], argTypes := #[t] }) {k e : Nat} (ht : mapT P t = some (k, e)) {m : List (ByteArray × JV)} (hx : s.ev x = .dat (dvMm m)) :
    OpS P X o s (s.put o.dst (.dat (.val (.int .i64 m.length)))) := by
  refine opS_value hd fun a w ρ hc => ?_
  have h2 := hc.ev x
  rw [hx] at h2
  unfold VR dvMm Rep at h2
  obtain ⟨b, es, cl, e1, hb, hh, hs, hl, he, hok⟩ := h2
  have hlen : es.size = m.length := by have := he.length; simpa using this
  refine ⟨.int .i64 m.length, ?_, by unfold VR Rep; exact ⟨rfl, WalkArith.wf_i64 (by unfold maxLen at hl; omega)⟩⟩
  have hu := mapT_spec ht
  simp [execOp, ho, resolve, invoke, builtin, e1, Builtin.len_, run_underlying hu, MapKept.run_getObj_map hh, goInt, hlen, Result.andThen]
theorem k_lenM {d : Nat} {x : Operand} {t k e : Nat} {m : List (ByteArray × JV)} (hN : Nat.blt d N = true) (hx : s.ev x = .dat (dvMm m)) [ht : MTI P t k e] (h : Run P X N Q (.ops ops rem :: ks) (s.put (some d) (.dat (.val (.int .i64 m.length))))) : RunK P X N Q ops rem ks (some d) (.call { callee := .builtin .len, args := #[x], argTypes := #[t] }) s := k_of hN (fun _ _ _ hd => op_lenM hd rfl ht.out hx) h
/-- What stands under a key. -/
def lkJ : List (ByteArray × JV) → ByteArray → Option JV
  | [], _ => none
  | x :: r, k => if x.1 = k then some x.2 else lkJ r k
theorem IsEs.lk {F : Nat → Prop} {k : ByteArray} : ∀ {m : List (ByteArray × JV)} {es : List MapEntry}, IsEs w F m es → (∃ j e, lkJ m k = some j ∧ e ∈ es ∧ e.key = .string k ∧ IsJ w F j e.val ∧ (k, j) ∈ m) ∨ (lkJ m k = none ∧ ∀ e ∈ es, e.key ≠ .string k)
  | [], es, h => by unfold IsEs at h; subst h; exact .inr ⟨rfl, by simp⟩
  | x :: r, es, h => by
    unfold IsEs at h
    obtain ⟨e, r', rfl, hke, _, hx, hr⟩ := h
    unfold lkJ
    by_cases hk : x.1 = k
    · rw [if_pos hk]; exact .inl ⟨x.2, e, rfl, by simp, by rw [hke, hk], hx, by rw [← hk]; simp⟩
    · rw [if_neg hk]
      rcases IsEs.lk hr with ⟨j, e', h1, h2, h3, h4, h5⟩ | ⟨h1, h2⟩
      · exact .inl ⟨j, e', h1, by simp [h2], h3, h4, by simp [h5]⟩
      · refine .inr ⟨h1, fun e' he' => ?_⟩
        rcases List.mem_cons.1 he' with rfl | he'
        · rw [hke]; intro e; injection e with e; exact hk e
        · exact h2 e' he'
theorem run_look_hit {t kt et r cl : Nat} {es : Array MapEntry} {k : ByteArray} (hm : P.underlying t = some (.map kt et)) (hd : P.underlying kt = some .string)
    (hb : w.heap[r]? = some (.map es cl)) (hs : MapKept.Stamped es cl) (hks : ∀ x ∈ es.toList, MapKept.IsKey .string x.key) {e : MapEntry} (he : e ∈ es.toList) (hke : e.key = .string k) :
    (Instr.lookup t (.map (some r)) (.string k) true).run P w = .ok (.tuple #[e.val, .bool true]) w := by
  have hk : MapKept.IsKey .string (.string k) := trivial
  rcases MapKept.findNow_spec hk es.toList 0 hks with ⟨h1, h2⟩ | ⟨j, e', h1, h2, h3⟩
  · exact absurd hke (h2 e he)
  · have : e' = e := by
      have hkn : (es.toList.map (·.key)).Nodup := hs.2.2
      obtain ⟨i, hi⟩ := List.getElem?_of_mem he
      have hij : j = i := by
        have hi' : (es.toList.map (·.key))[j]? = some (.string k) := by rw [List.getElem?_map, h2, Option.map_some, h3]
        have hj' : (es.toList.map (·.key))[i]? = some (.string k) := by rw [List.getElem?_map, hi, Option.map_some, hke]
        exact (List.getElem?_inj (List.getElem?_eq_some_iff.1 hi').1 hkn).1 (hi'.trans hj'.symm)
      rw [hij, hi] at h2
      exact (Option.some.inj h2).symm
    subst this
    simp [Instr.lookup, run_underlying hm, MapKept.run_getObj_map hb, MapKept.run_checkKey hd hk, MapKept.run_findKey hd h1, Result.andThen]
theorem run_look_miss {t kt et r cl : Nat} {es : Array MapEntry} {k : ByteArray} {z : Value} (hm : P.underlying t = some (.map kt et)) (hd : P.underlying kt = some .string) (hz : zer1 P et = some z)
    (hb : w.heap[r]? = some (.map es cl)) (hks : ∀ x ∈ es.toList, MapKept.IsKey .string x.key) (he : ∀ e ∈ es.toList, e.key ≠ .string k) :
    (Instr.lookup t (.map (some r)) (.string k) true).run P w = .ok (.tuple #[z, .bool false]) w := by
  have hk : MapKept.IsKey .string (.string k) := trivial
  rcases MapKept.findNow_spec hk es.toList 0 hks with ⟨h1, h2⟩ | ⟨j, e', h1, h2, h3⟩
  · simp [Instr.lookup, run_underlying hm, MapKept.run_getObj_map hb, MapKept.run_checkKey hd hk, MapKept.run_findKey hd h1, run_zer1 hz, Result.andThen]
  · exact absurd h3 (he e' (List.mem_of_getElem? h2))
def lkD (o : Option JV) : PD := match o with
  | some j => .tup [pdJ j, .val (.bool true)]
  | none => .tup [.val .nilIface, .val (.bool false)]
theorem op_lookM {o : Oper} (hd : dstOk X.N o.dst = true) {x y : Operand} {t : TypeId} (ho : o.op = .lookup t x y true) {kt et : Nat} (ht : MTI P t kt et) {m : List (ByteArray × JV)} {k : ByteArray} (hx : s.ev x = .dat (dvMm m)) (hy : s.ev y = .dat (.val (.string k))) :
    OpS P X o s (s.put o.dst (.dat (lkD (lkJ m k)))) := by
  refine opS_value hd fun a w ρ hc => ?_
  have h2 := hc.ev x
  rw [hx] at h2
  unfold VR dvMm Rep at h2
  have h3 := hc.ev y
  rw [hy] at h3
  unfold VR Rep at h3
  obtain ⟨b, es, cl, e1, hb, hh, hs, hl, he, hok⟩ := h2
  have hm := mapT_spec ht.out
  have hks := he.keys
  rcases he.lk (k := k) with ⟨j, e, h4, h5, h6, h7, h8⟩ | ⟨h4, h5⟩
  · rw [h4]
    refine ⟨.tuple #[e.val, .bool true], by simp [execOp, ho, e1, h3.1, run_look_hit hm ht.str hh hs hks h5 h6], ?_⟩
    unfold VR lkD Rep
    refine ⟨[e.val, .bool true], rfl, ?_⟩
    unfold Reps
    refine ⟨_, _, rfl, by unfold pdJ Rep; exact ⟨h7, JOkm_mem (by unfold JOk at hok; exact hok.2.2) _ h8⟩, ?_⟩
    unfold Reps
    exact ⟨_, [], rfl, by unfold Rep; exact ⟨rfl, trivial⟩, by unfold Reps; rfl⟩
  · rw [h4]
    exact ⟨.tuple #[.nilIface, .bool false], by simp [execOp, ho, e1, h3.1, run_look_miss hm ht.str ht.zer hh hks h5], by unfold VR lkD; exact rep_zf rfl⟩
theorem k_lookM {d : Nat} {x y : Operand} {t kt et : Nat} {m : List (ByteArray × JV)} {k : ByteArray} {o : Option JV} (hN : Nat.blt d N = true) (hx : s.ev x = .dat (dvMm m)) (hy : s.ev y = .dat (.val (.string k))) [ht : MTI P t kt et] (ho : lkJ m k = o) (h : Run P X N Q (.ops ops rem :: ks) (s.put (some d) (.dat (lkD o)))) : RunK P X N Q ops rem ks (some d) (.lookup t x y true) s := k_of hN (fun _ _ _ hd => by subst ho; exact op_lookM hd rfl ht hx hy) h
/-- The iterator over a map, where the items 'done' have come out. -/
def itR (m done : List (ByteArray × JV)) : Res where
  rel := fun w F O v => ∃ bm r es cl dn, v = .pointer (some ⟨r, 0, none⟩) ∧ F bm ∧ O r ∧ (∀ b, O b → b = r) ∧ Rng w bm r es cl dn ∧ MapKept.Stamped es cl ∧ IsEs w F m es.toList ∧ JOk (.map m) ∧ IsEs w F done dn ∧ (∀ y ∈ done, y ∈ m)
  d := .opq { rel := fun _ _ v => v.oneCell' = true, one := fun _ _ _ h => h, keep := fun _ _ _ _ _ _ _ h => h }
  one := fun _ _ _ _ ⟨_, _, _, _, _, e, _⟩ => by rw [e]; rfl
  keep := fun w w' F F' O v h hs hO ⟨bm, r, es, cl, dn, e, h1, h2, h3, h4, h5, h6, h7, h8, h9⟩ => ⟨bm, r, es, cl, dn, e, hs bm h1, h2, h3, h4.of_eq (h bm h1) (hO r h2), h5, IsEs.keep h hs _ _ h6, h7, IsEs.keep h hs _ _ h8, h9⟩
  frz := fun _ _ _ _ v _ _ ⟨_, _, _, _, _, e, _⟩ => by unfold Rep; show v.oneCell' = true; rw [e]; rfl
theorem ConcAt.setRes (h : ConcAt X s a w ρ) {k : Nat} {R R' : Res} (hk : s.tb k = some (.res R)) (hw : Below 0 w w') (hsz : w'.heap.size = w.heap.size) (hoth : ∀ b, ¬ (ρ k).fp b → w'.heap[b]? = w.heap[b]?)
    (hR : R'.rel w' (FF X w s.tb ρ) (ρ k).fp (ρ k).v) : ConcAt X (s.set k (.res R')) a w' ρ := by
  have hlk : liveB (s.tb k) = true := by rw [hk]; rfl
  have hF : ∀ b', FF X w s.tb ρ b' → w'.heap[b']? = w.heap[b']? := fun b' hF => hoth b' (hF.2.2 k hlk)
  have hdom : ∀ k', liveB ((s.set k (.res R')).tb k') = true → liveB (s.tb k') = true := by
    intro k' hk'
    by_cases ek : k' = k
    · subst ek; exact hlk
    · simp only [Sta.set, upd_ne _ _ ek] at hk'; exact hk'
  have hs : ∀ b', FF X w s.tb ρ b' → FF X w' (s.set k (.res R')).tb ρ b' := fun b' hF => ⟨hF.1, by rw [hsz]; exact hF.2.1, fun k' hk' => hF.2.2 k' (hdom k' hk')⟩
  have hkk : ∀ k' x, s.tb k' = some x → ∃ x', (s.set k (.res R')).tb k' = some x' ∧ ((x'.kind = x.kind ∧ (ρ k').v = (ρ k').v) ∨ (x' = .dead ∧ x.kind ≠ 0)) := by
    intro k' x hx
    by_cases ek : k' = k
    · subst ek; rw [hk] at hx; cases hx; exact ⟨.res R', upd_same _ _ _, .inl ⟨rfl, rfl⟩⟩
    · exact ⟨x, by simp only [Sta.set, upd_ne _ _ ek]; exact hx, .inl ⟨rfl, rfl⟩⟩
  have hblk := h.blks k _ hk
  refine ⟨h.size, h.defers, h.below.step hw.os hw.tape hw.output (by rw [hsz]; exact Nat.le_refl _) (fun j _ hj => hoth j (fun e => hj (hblk.2 j e).1)), fun t' => (h.tmps t').keep hF hs hkk, fun k' x hx => ?_, fun k1 k2 b h1 h2 e1 e2 => h.apart k1 k2 b (hdom k1 h1) (hdom k2 h2) e1 e2, fun k' hk' hl' => h.lent k' hk' (hdom k' hl')⟩
  by_cases ek : k' = k
  · subst ek
    simp only [Sta.set, upd_same, Option.some.injEq] at hx
    subst hx
    exact ⟨R'.keep _ _ _ _ _ _ (fun _ _ => rfl) hs (fun _ _ => rfl) hR, fun b hb => ⟨(hblk.2 b hb).1, by rw [hsz]; exact (hblk.2 b hb).2⟩⟩
  · simp only [Sta.set, upd_ne _ _ ek] at hx
    exact (h.blks k' x hx).keep hF hs hkk rfl (fun b' hl hf => hoth b' fun e => ek (h.apart k' k b' (by rw [hx]; exact hl) hlk hf e)) (by rw [hsz]; exact Nat.le_refl _)
theorem IsEs.mem {F : Nat → Prop} : ∀ {m : List (ByteArray × JV)} {es : List MapEntry}, IsEs w F m es → (∀ y ∈ m, ∃ e ∈ es, e.key = .string y.1 ∧ y.1.size ≤ maxLen ∧ IsJ w F y.2 e.val) ∧ ∀ e ∈ es, ∃ y ∈ m, e.key = .string y.1 ∧ y.1.size ≤ maxLen ∧ IsJ w F y.2 e.val
  | [], es, h => by unfold IsEs at h; subst h; exact ⟨by simp, by simp⟩
  | x :: r, es, h => by
    unfold IsEs at h
    obtain ⟨e, r', rfl, hke, hz, hx, hr⟩ := h
    obtain ⟨h1, h2⟩ := IsEs.mem hr
    refine ⟨fun y hy => ?_, fun e' he' => ?_⟩
    · rcases List.mem_cons.1 hy with rfl | hy
      · exact ⟨e, by simp, hke, hz, hx⟩
      · obtain ⟨e', he', h'⟩ := h1 y hy
        exact ⟨e', by simp [he'], h'⟩
    · rcases List.mem_cons.1 he' with rfl | he'
      · exact ⟨x, by simp, hke, hz, hx⟩
      · obtain ⟨y, hy, h'⟩ := h2 e' he'
        exact ⟨y, by simp [hy], h'⟩
theorem IsEs.snoc {F : Nat → Prop} {y : ByteArray × JV} {e : MapEntry} (hke : e.key = .string y.1) (hz : y.1.size ≤ maxLen) (hj : IsJ w F y.2 e.val) : ∀ {m : List (ByteArray × JV)} {es : List MapEntry}, IsEs w F m es → IsEs w F (m ++ [y]) (es ++ [e])
  | [], es, h => by
    unfold IsEs at h; subst h
    show IsEs w F [y] [e]
    unfold IsEs
    exact ⟨e, [], rfl, hke, hz, hj, by unfold IsEs; rfl⟩
  | x :: r, es, h => by
    unfold IsEs at h
    obtain ⟨e', r', rfl, h1, h2, h3, hr⟩ := h
    show IsEs w F (x :: (r ++ [y])) (e' :: (r' ++ [e]))
    unfold IsEs
    exact ⟨e', _, rfl, h1, h2, h3, IsEs.snoc hke hz hj hr⟩
theorem key_inj {es : List MapEntry} (h : (es.map (·.key)).Nodup) : ∀ {e e' : MapEntry}, e ∈ es → e' ∈ es → e.key = e'.key → e = e' := by
  induction es with
  | nil => intro _ _ h; cases h
  | cons a r ih =>
    simp only [List.map_cons, List.nodup_cons] at h
    intro e e' he he' hb
    rcases List.mem_cons.1 he with h1 | h1 <;> rcases List.mem_cons.1 he' with h2 | h2
    · rw [h1, h2]
    · exact absurd (by rw [← h1, hb]; exact List.mem_map_of_mem (f := (·.key)) h2) h.1
    · exact absurd (by rw [← h2, ← hb]; exact List.mem_map_of_mem (f := (·.key)) h1) h.1
    · exact ih h.2 h1 h2 hb
theorem fst_inj {m : List (ByteArray × JV)} (h : (m.map (·.1)).Nodup) : ∀ {e e' : ByteArray × JV}, e ∈ m → e' ∈ m → e.1 = e'.1 → e = e' := by
  induction m with
  | nil => intro _ _ h; cases h
  | cons a r ih =>
    simp only [List.map_cons, List.nodup_cons] at h
    intro e e' he he' hb
    rcases List.mem_cons.1 he with h1 | h1 <;> rcases List.mem_cons.1 he' with h2 | h2
    · rw [h1, h2]
    · exact absurd (by rw [← h1, hb]; exact List.mem_map_of_mem (f := (·.1)) h2) h.1
    · exact absurd (by rw [← h2, ← hb]; exact List.mem_map_of_mem (f := (·.1)) h1) h.1
    · exact ih h.2 h1 h2 hb
def itD (y : ByteArray × JV) : PD := .tup [.val (.string y.1), pdJ y.2]
theorem rep_tup3 {F : Nat → Prop} {p q r : PD} {x y z : Value} (h1 : Rep w F p x) (h2 : Rep w F q y) (h3 : Rep w F r z) : Rep w F (.tup [p, q, r]) (.tuple #[x, y, z]) := by
  unfold Rep
  refine ⟨[x, y, z], rfl, ?_⟩
  unfold Reps; refine ⟨x, _, rfl, h1, ?_⟩
  unfold Reps; refine ⟨y, _, rfl, h2, ?_⟩
  unfold Reps; exact ⟨z, _, rfl, h3, by unfold Reps; rfl⟩
theorem rep_tup2 {F : Nat → Prop} {p q : PD} {x y : Value} (h1 : Rep w F p x) (h2 : Rep w F q y) : Rep w F (.tup [p, q]) (.tuple #[x, y]) := by
  unfold Rep
  refine ⟨[x, y], rfl, ?_⟩
  unfold Reps; refine ⟨x, _, rfl, h1, ?_⟩
  unfold Reps; exact ⟨y, _, rfl, h2, by unfold Reps; rfl⟩
theorem rep_str {F : Nat → Prop} {k : ByteArray} (h : k.size ≤ maxLen) : Rep w F (.val (.string k)) (.string k) := by unfold Rep; exact ⟨rfl, h⟩
theorem k_rangeM {d : Nat} {x : Operand} {t kt et : Nat} {m : List (ByteArray × JV)} (hN : Nat.blt d N = true) (hd0 : s.tb d = none) (hx : s.ev x = .dat (dvMm m)) [ht : MTI P t kt et] (h : Run P X N Q (.ops ops rem :: ks) (s.new d (.res (itR m [])) (.own d))) : RunK P X N Q ops rem ks (some d) (.range t x) s := ⟨fun ty pos aft => ⟨fun hX a w ⟨ρ, hc⟩ => by
  have hdN : d < X.N := by rw [hX.1]; simpa [Nat.blt_eq] using hN
  have h2 := hc.ev x
  rw [hx] at h2
  unfold VR dvMm Rep at h2
  obtain ⟨bm, es, cl, e1, hb, hh, hs, hl, he, hok⟩ := h2
  have hm := mapT_spec ht.out
  have hlt : bm < w.heap.size := blk_lt hh
  have hr : (execOp a.eval ⟨some d, .range t x, ty, pos, aft, none⟩).run P w = .ok (.value (.pointer (some ⟨w.heap.size, 0, none⟩))) (w.alloc (.mapIter (some bm) cl #[] cl)) := by
    simp [execOp, e1, run_range_map w t kt et bm es cl hm hh, Result.andThen]
  refine wp_value hr ?_
  have hB : Below w.heap.size w (w.alloc (.mapIter (some bm) cl #[] cl)) := (Below.refl _ _).alloc (Nat.le_refl _) _
  have hc1 := hc.grow hB
  have hFF0 : ∀ b, FF X w s.tb ρ b → FF X (w.alloc (.mapIter (some bm) cl #[] cl)) s.tb ρ b := fun b hb => FF_new hB hc b (.inl hb)
  refine h.out hX _ _ ⟨upd ρ d ⟨.pointer (some ⟨w.heap.size, 0, none⟩), fun b => b = w.heap.size⟩, ?_⟩
  have hnl : ∀ k, liveB ((upd s.tb d (some (.res (itR m [])))) k) = true → k = d ∨ (k ≠ d ∧ liveB (s.tb k) = true) := by
    intro k hk
    by_cases e : k = d
    · exact .inl e
    · rw [upd_ne _ _ e] at hk; exact .inr ⟨e, hk⟩
  have hold : ∀ k b, liveB (s.tb k) = true → (ρ k).fp b → b < w.heap.size := by
    intro k b hk hb
    obtain ⟨x, hx, hl⟩ := live_some hk
    exact (hc.rowBlk hx hl hb).2
  have hFF : ∀ b, FF X w s.tb ρ b → FF X (w.alloc (.mapIter (some bm) cl #[] cl)) (upd s.tb d (some (.res (itR m [])))) (upd ρ d ⟨.pointer (some ⟨w.heap.size, 0, none⟩), fun b => b = w.heap.size⟩) b := by
    intro b hb
    refine ⟨hb.1, (hFF0 b hb).2.1, fun k hk e => ?_⟩
    rcases hnl k hk with rfl | ⟨hne, hk⟩
    · rw [upd_same] at e
      have e : b = w.heap.size := e
      have := hb.2.1; omega
    · rw [upd_ne _ _ hne] at e; exact hb.2.2 k hk e
  have hkk : ∀ k x, s.tb k = some x → ∃ x', (upd s.tb d (some (.res (itR m [])))) k = some x' ∧ ((x'.kind = x.kind ∧ ((upd ρ d ⟨.pointer (some ⟨w.heap.size, 0, none⟩), fun b => b = w.heap.size⟩) k).v = (ρ k).v) ∨ (x' = .dead ∧ x.kind ≠ 0)) := by
    intro k x hx
    have hne : k ≠ d := fun e => by rw [e, hd0] at hx; cases hx
    exact ⟨x, by rw [upd_ne _ _ hne]; exact hx, .inl ⟨rfl, by rw [upd_ne _ _ hne]⟩⟩
  have hsame : ∀ b, FF X w s.tb ρ b → (w.alloc (.mapIter (some bm) cl #[] cl)).heap[b]? = w.heap[b]? := fun b hb => hB.block b hb.2.1
  have hiter : (w.alloc (.mapIter (some bm) cl #[] cl)).heap[w.heap.size]? = some (.mapIter (some bm) cl #[] cl) := (MapKept.heap_alloc _ _).1
  have key : ConcAt X { s with tb := upd s.tb d (some (.res (itR m []))) } a (w.alloc (.mapIter (some bm) cl #[] cl)) (upd ρ d ⟨.pointer (some ⟨w.heap.size, 0, none⟩), fun b => b = w.heap.size⟩) := by
    refine ⟨hc.size, hc.defers, hc1.below, fun t => (hc.tmps t).keep hsame hFF hkk, fun k x hx => ?_, fun k k' b h1 h2 e1 e2 => ?_, fun k hk hl => ?_⟩
    · by_cases e : k = d
      · subst e
        rw [show ({ s with tb := upd s.tb k (some (.res (itR m []))) } : Sta).tb k = some (.res (itR m [])) from upd_same _ _ _] at hx
        simp only [Option.some.injEq] at hx
        subst hx
        show (itR m []).rel _ _ _ _ ∧ _
        rw [upd_same]
        refine ⟨⟨bm, w.heap.size, es, cl, [], rfl, hFF bm hb, rfl, fun b hb => hb, ⟨(hsame bm hb).trans hh, ⟨#[], rfl, hiter⟩, by omega, by simp, by simp, hs.1, hs.2.1⟩, hs, IsEs.keep hsame hFF _ _ he, hok, by unfold IsEs; rfl, by simp⟩, ?_⟩
        intro b hb
        have hb : b = w.heap.size := hb
        subst hb
        exact ⟨.inl hc.below.size, by simp⟩
      · have hx' : s.tb k = some x := by rw [← hx]; exact (upd_ne _ _ e).symm
        exact (hc.blks k x hx').keep hsame hFF hkk (upd_ne _ _ e) (fun b hl hf => hB.block b (hc.rowBlk hx' hl hf).2) hB.size
    · rcases hnl k h1 with rfl | ⟨n1, g1⟩ <;> rcases hnl k' h2 with h | ⟨n2, g2⟩
      · exact h.symm
      · rw [upd_same] at e1; rw [upd_ne _ _ n2] at e2
        have e1 : b = w.heap.size := e1
        have := hold k' b g2 e2; omega
      · subst h
        rw [upd_same] at e2; rw [upd_ne _ _ n1] at e1
        have e2 : b = w.heap.size := e2
        have := hold k b g1 e1; omega
      · rw [upd_ne _ _ n1] at e1; rw [upd_ne _ _ n2] at e2
        exact hc.apart k k' b g1 g2 e1 e2
    · rcases hnl k hl with rfl | ⟨n1, h1⟩
      · have := X.hN; omega
      · rw [upd_ne _ _ n1]; exact hc.lent k hk h1
  refine key.putNew hdN ?_
  unfold VR
  exact ⟨rfl, .inl ⟨_, upd_same _ _ _, .inr rfl, by rw [upd_same]⟩⟩⟩⟩
/-- 'next': all have come out, or one comes that has not. -/
theorem k_nextM {d : Nat} {x : Operand} {k : Nat} {m done : List (ByteArray × JV)} (hN : Nat.blt d N = true) (hx : s.ev x = .own k) (hk : s.tb k = some (.res (itR m done)))
    (h0 : (∀ y ∈ m, y ∈ done) → Run P X N Q (.ops ops rem :: ks) (s.put (some d) (.dat (.tup [.val (.bool false)]))))
    (h1 : ∀ y, y ∈ m → y.1 ∉ done.map (·.1) → Run P X N Q (.ops ops rem :: ks) ((s.set k (.res (itR m (done ++ [y])))).put (some d) (.dat (.tup [.val (.bool true), .val (.string y.1), pdJ y.2])))) :
    RunK P X N Q ops rem ks (some d) (.next x false) s := ⟨fun ty pos aft => ⟨fun hX a w ⟨ρ, hc⟩ => by
  have h2 := hc.ev x
  rw [hx] at h2
  have e2 := VR_ownR h2 hk rfl
  have hblk := hc.blks k _ hk
  obtain ⟨⟨bm, r, es, cl, dn, e3, hbm, hr, hO, hrng, hst, hes, hok, hdn, hsub⟩, _⟩ := hblk
  rw [e3] at e2
  obtain ⟨seen, hseen, hit⟩ := hrng.iter
  have hkn : (m.map (·.1)).Nodup := by unfold JOk at hok; exact hok.1
  rcases run_next_at (P := P) w ty r bm cl cl seen es cl hit hrng.map hrng.old (Nat.le_refl _) with ⟨hl, hrun⟩ | ⟨e, he, w1, hw1, hrun⟩
  · have hrun' : (execOp a.eval ⟨some d, .next x false, ty, pos, aft, none⟩).run P w = .ok (.value (.tuple #[.bool false])) w := by simp [execOp, e2, hrun, Result.andThen]
    refine wp_value hrun' ((h0 fun y hy => ?_).out hX _ _ ⟨ρ, hc.putO (hN_ok hN hX) (by unfold VR Rep; exact ⟨[.bool false], rfl, by unfold Reps; exact ⟨_, [], rfl, by unfold Rep; exact ⟨rfl, trivial⟩, by unfold Reps; rfl⟩⟩)⟩)
    obtain ⟨e, he, hke, hz, hj⟩ := hes.mem.1 y hy
    have hl' : leftOf es seen = #[] := Array.eq_empty_of_size_eq_zero hl
    have hc' : seen.contains e.born = true := by
      cases hc' : seen.contains e.born with
      | true => rfl
      | false =>
        exfalso
        have : e ∈ (leftOf es seen) := by
          unfold leftOf
          simp only [Array.mem_filter]
          exact ⟨by simpa using he, by rw [hc']; rfl⟩
        rw [hl'] at this
        simp at this
    have hm : e.born ∈ dn.map (·.born) := by rw [← hseen]; simpa using hc'
    obtain ⟨q, hq, hqb⟩ := List.mem_map.1 hm
    have hqe : q = e := born_inj hrng.born (hrng.sub q hq) he hqb
    subst hqe
    obtain ⟨z, hz1, hzk, _⟩ := hdn.mem.2 q hq
    have : z = y := fst_inj hkn (hsub z hz1) hy (by rw [hke] at hzk; injection hzk with h; exact h.symm)
    subst this
    exact hz1
  · have hes' : e ∈ es.toList := by
      unfold leftOf at he; simp at he; simpa using he.1
    have hnb : e.born ∉ dn.map (·.born) := by
      unfold leftOf at he
      simp at he
      intro hd
      apply he.2
      have : e.born ∈ seen.toList := by rw [hseen]; exact hd
      simpa using this
    have hh : w1.heap = w.heap := by rcases hw1 with rfl | rfl <;> rfl
    have hlt : r < w1.heap.size := by rw [hh]; exact hrng.lt_.2
    have hr' : Rng (setBlock w1 r (.mapIter (some bm) cl (seen.push e.born) cl)) bm r es cl (dn ++ [e]) := by
      refine ⟨?_, ⟨seen.push e.born, by simp [hseen], setBlock_self _ _ _ hlt⟩, hrng.ne, ?_, ?_, hrng.old, hrng.born⟩
      · rw [setBlock_other _ hrng.ne, hh]; exact hrng.map
      · intro q hq
        rcases List.mem_append.1 hq with hq | hq
        · exact hrng.sub q hq
        · simp at hq; rw [hq]; exact hes'
      · rw [List.map_append, List.nodup_append]
        refine ⟨hrng.nodup, by simp, fun a ha b hb => ?_⟩
        simp at hb; subst hb
        exact fun e' => hnb (e' ▸ ha)
    have hrun' : (execOp a.eval ⟨some d, .next x false, ty, pos, aft, none⟩).run P w = .ok (.value (.tuple #[.bool true, e.key, e.val])) (setBlock w1 r (.mapIter (some bm) cl (seen.push e.born) cl)) := by simp [execOp, e2, hrun, Result.andThen]
    obtain ⟨y, hy, hke, hz, hj⟩ := hes.mem.2 e hes'
    have hsz : (setBlock w1 r (.mapIter (some bm) cl (seen.push e.born) cl)).heap.size = w.heap.size := by
      show (Array.setIfInBounds _ _ _).size = _
      rw [Array.size_setIfInBounds, hh]
    have hB : Below 0 w (setBlock w1 r (.mapIter (some bm) cl (seen.push e.born) cl)) := by
      have hB1 : Below 0 w w1 := by
        rcases hw1 with rfl | rfl
        · exact Below.refl _ _
        · exact (Below.refl _ _).drew
      exact hB1.trans ⟨rfl, rfl, rfl, by rw [hsz, hh]; exact Nat.le_refl _, fun k hk => absurd hk (Nat.not_lt_zero _)⟩
    have hoth : ∀ b, ¬ (ρ k).fp b → (setBlock w1 r (.mapIter (some bm) cl (seen.push e.born) cl)).heap[b]? = w.heap[b]? := fun b hb => by
      rw [setBlock_other _ (fun e : b = r => hb (e ▸ hr)), hh]
    have hF : ∀ b, FF X w s.tb ρ b → (setBlock w1 r (.mapIter (some bm) cl (seen.push e.born) cl)).heap[b]? = w.heap[b]? := fun b hF => hoth b (hF.2.2 k (by rw [hk]; rfl))
    have hJ := JOkm_mem (m := m) (by unfold JOk at hok; exact hok.2.2) y hy
    have hset := hc.setRes (R' := itR m (done ++ [y])) hk hB hsz hoth ⟨bm, r, es, cl, dn ++ [e], e3, hbm, hr, hO, hr', hst, IsEs.keep hF (fun _ h => h) _ _ hes, hok,
      IsEs.snoc hke hz (IsJ.keep hF (fun _ h => h) _ hj) (IsEs.keep hF (fun _ h => h) _ _ hdn), fun z hz => by
        rcases List.mem_append.1 hz with hz | hz
        · exact hsub z hz
        · simp at hz; rw [hz]; exact hy⟩
    refine wp_value hrun' ((h1 y hy fun hmem => ?_).out hX _ _ ⟨ρ, hset.putO (hN_ok hN hX) ?_⟩)
    · obtain ⟨z, hz1, hz2⟩ := List.mem_map.1 hmem
      obtain ⟨q, hq, hqk, _⟩ := hdn.mem.1 z hz1
      have : q = e := key_inj hst.2.2 (hrng.sub q hq) hes' (by rw [hqk, hke, hz2])
      subst this
      exact hnb (List.mem_map_of_mem (f := (·.born)) hq)
    · unfold VR
      have hF2 : ∀ b, FF X w s.tb ρ b → FF X (setBlock w1 r (.mapIter (some bm) cl (seen.push e.born) cl)) (s.set k (.res (itR m (done ++ [y])))).tb ρ b := fun b' hF => ⟨hF.1, by rw [hsz]; exact hF.2.1, fun k' hk' => hF.2.2 k' (by
        by_cases ek : k' = k
        · subst ek; rw [hk]; rfl
        · simp only [Sta.set, upd_ne _ _ ek] at hk'; exact hk')⟩
      rw [hke]
      exact rep_tup3 (by unfold Rep; exact ⟨rfl, trivial⟩) (rep_str hz) (by unfold pdJ Rep; exact ⟨IsJ.keep hF hF2 _ hj, hJ⟩)⟩⟩
/-- 'entry': the one that came out last. -/
theorem op_entryM {o : Oper} (hd : dstOk X.N o.dst = true) {x : Operand} (ho : o.op = .entry x) {k : Nat} {m done : List (ByteArray × JV)} {y : ByteArray × JV} (hx : s.ev x = .own k) (hk : s.tb k = some (.res (itR m (done ++ [y])))) : OpS P X o s (s.put o.dst (.dat (itD y))) := by
  refine opS_value hd fun a w ρ hc => ?_
  have h2 := hc.ev x
  rw [hx] at h2
  have e2 := VR_ownR h2 hk rfl
  have hblk := hc.blks k _ hk
  obtain ⟨⟨bm, r, es, cl, dn, e3, hbm, hr, hO, hrng, hst, hes, hok, hdn, hsub⟩, _⟩ := hblk
  rw [e3] at e2
  have hsplit : ∀ {m : List (ByteArray × JV)} {dn : List MapEntry}, IsEs w (FF X w s.tb ρ) (m ++ [y]) dn → ∃ dn' e, dn = dn' ++ [e] ∧ e.key = .string y.1 ∧ y.1.size ≤ maxLen ∧ IsJ w (FF X w s.tb ρ) y.2 e.val := by
    intro m
    induction m with
    | nil =>
      intro dn h
      have h : IsEs w (FF X w s.tb ρ) [y] dn := h
      unfold IsEs at h
      obtain ⟨e, r', rfl, h1, h2, h3, h4⟩ := h
      unfold IsEs at h4
      subst h4
      exact ⟨[], e, rfl, h1, h2, h3⟩
    | cons z m ih =>
      intro dn h
      have h : IsEs w (FF X w s.tb ρ) (z :: (m ++ [y])) dn := h
      unfold IsEs at h
      obtain ⟨e, r', rfl, h1, h2, h3, h4⟩ := h
      obtain ⟨dn', e', rfl, h5⟩ := ih h4
      exact ⟨e :: dn', e', rfl, h5⟩
  obtain ⟨dn', e, rfl, hke, hz, hj⟩ := hsplit hdn
  obtain ⟨seen, hseen, hit⟩ := hrng.iter
  obtain ⟨seen', rfl⟩ : ∃ seen' : Array Nat, seen = seen'.push e.born := by
    refine ⟨(dn'.map (·.born)).toArray, ?_⟩
    apply Array.ext'
    rw [hseen]; simp
  have hent := run_entry_at (P := P) w r bm cl seen' es cl e hit hrng.map (hrng.sub e (by simp)) hrng.born
  refine ⟨.tuple #[e.key, e.val], by simp [execOp, ho, e2, hent, Result.andThen], ?_⟩
  unfold VR itD
  rw [hke]
  exact rep_tup2 (rep_str hz) (by unfold pdJ Rep; exact ⟨hj, JOkm_mem (by unfold JOk at hok; exact hok.2.2) y (hsub y (by simp))⟩)
theorem k_entryM {d : Nat} {x : Operand} {k : Nat} {m done : List (ByteArray × JV)} {y : ByteArray × JV} (hN : Nat.blt d N = true) (hx : s.ev x = .own k) (hk : s.tb k = some (.res (itR m (done ++ [y])))) (h : Run P X N Q (.ops ops rem :: ks) (s.put (some d) (.dat (itD y)))) : RunK P X N Q ops rem ks (some d) (.entry x) s := k_of hN (fun _ _ _ hd => op_entryM hd rfl hx hk) h
end
end Go.Proofs.Ytbbacpdbbmjblaa
end
section
set_option linter.unusedVariables false
namespace Go.Proofs.Ytbbacpdbbmjblaa
open Go.RowKit
set_option linter.unusedSimpArgs false
/-- The allocator; a value; a list, by itself and behind a pointer; a map. -/
def dvA : PD := .iface 131 (.ptr (.agg []))
def dvV (j : JV) : PD := .iface 139 (.ptr (.agg [pdJ j]))
def dvL (l : List JV) : PD := .iface 237 (dvLs l)
def dvLp (l : List JV) : PD := .iface 250 (.ptr (dvLs l))
def dvM (m : List (ByteArray × JV)) : PD := .iface 238 (dvMm m)
/-- The structs among the types of own memory. -/
def gV (t : Nat) : Bool := Nat.beq t 173 || (Nat.beq t 133 || Nat.beq t 252)
instance : MI Try.prog 139 "IsMap" 147 (some 173) := ⟨by kernel_rfl⟩
instance : MI Try.prog 139 "IsList" 146 (some 173) := ⟨by kernel_rfl⟩
instance : MI Try.prog 139 "IsBool" 143 (some 173) := ⟨by kernel_rfl⟩
instance : MI Try.prog 139 "IsInt" 145 (some 173) := ⟨by kernel_rfl⟩
instance : MI Try.prog 139 "IsFloat" 144 (some 173) := ⟨by kernel_rfl⟩
instance : MI Try.prog 139 "IsString" 149 (some 173) := ⟨by kernel_rfl⟩
instance : MI Try.prog 139 "IsNull" 148 (some 173) := ⟨by kernel_rfl⟩
instance : MI Try.prog 139 "AsBool" 135 (some 173) := ⟨by kernel_rfl⟩
instance : MI Try.prog 139 "AsInt" 137 (some 173) := ⟨by kernel_rfl⟩
instance : MI Try.prog 139 "AsFloat" 136 (some 173) := ⟨by kernel_rfl⟩
instance : MI Try.prog 139 "AsString" 142 (some 173) := ⟨by kernel_rfl⟩
instance : MI Try.prog 139 "AsListUsing" 139 (some 173) := ⟨by kernel_rfl⟩
instance : MI Try.prog 139 "AsMapUsing" 141 (some 173) := ⟨by kernel_rfl⟩
instance : MI Try.prog 131 "Free" 134 none := ⟨by kernel_rfl⟩
instance : MI Try.prog 131 "pub-coparcener/pub/structuredmerge/value.allocValueUnstructured" 86 none := ⟨by kernel_rfl⟩
instance : MI Try.prog 131 "pub-coparcener/pub/structuredmerge/value.allocListUnstructuredRange" 184 none := ⟨by kernel_rfl⟩
instance : MI Try.prog 237 "Length" 156 none := ⟨by kernel_rfl⟩
instance : MI Try.prog 250 "Length" 156 (some 237) := ⟨by kernel_rfl⟩
instance : MI Try.prog 237 "RangeUsing" 158 none := ⟨by kernel_rfl⟩
instance : MI Try.prog 250 "RangeUsing" 158 (some 237) := ⟨by kernel_rfl⟩
instance : MI Try.prog 237 "EqualsUsing" 155 none := ⟨by kernel_rfl⟩
instance : MI Try.prog 238 "Length" 168 none := ⟨by kernel_rfl⟩
instance : MI Try.prog 238 "EqualsUsing" 162 none := ⟨by kernel_rfl⟩
instance : MI Try.prog 238 "IterateUsing" 167 none := ⟨by kernel_rfl⟩
instance : MI Try.prog 238 "Has" 165 none := ⟨by kernel_rfl⟩
instance : MI Try.prog 238 "GetUsing" 164 none := ⟨by kernel_rfl⟩
instance : MI Try.prog 238 "ZipUsing" 171 none := ⟨by kernel_rfl⟩
instance : MI Try.prog 253 "Next" 183 none := ⟨by kernel_rfl⟩
instance : MI Try.prog 251 "Next" 181 none := ⟨by kernel_rfl⟩
instance : MI Try.prog 253 "Item" 182 none := ⟨by kernel_rfl⟩
instance : MTI Try.prog 238 9 20 := ⟨by kernel_rfl, by kernel_rfl, by kernel_rfl⟩
instance : ZI Try.prog 133 [] := ⟨by kernel_rfl, by rfl⟩
instance : PLI Try.prog 133 [] := ⟨by kernel_rfl⟩
instance : ZI Try.prog 252 [] := ⟨by kernel_rfl, by rfl⟩
instance : PLI Try.prog 252 [] := ⟨by kernel_rfl⟩
theorem free_idle : Idle Try.prog 134 2 := by
  refine ⟨by kernel_rfl, fun vs u w hl => ?_⟩
  refine (callsD_of_wp (R := fun e w' => (∃ v, e = .returned v) ∧ Below w.heap.size w w') Try.func134 rfl ?_)
  refine wp_skip ?_
  exact ⟨rfl, _, results_none rfl _ _ _, ⟨_, rfl⟩, Below.refl _ _⟩
/-- The struct around a tree. -/
theorem vu_form {w : World} {F : Nat → Prop} {j : JV} {vs : List Value} (h : Reps w F [.agg [pdJ j]] vs) : ∃ u, vs = [.agg #[u]] ∧ IsJ w F j u := by
  unfold Reps at h
  obtain ⟨v, r', rfl, hv, hr⟩ := h
  unfold Reps at hr
  subst hr
  unfold Rep at hv
  obtain ⟨us, rfl, hu, _⟩ := hv
  unfold Reps at hu
  obtain ⟨u, r'', rfl, hj, hr⟩ := hu
  unfold Reps at hr
  subst hr
  unfold pdJ Rep at hj
  exact ⟨u, rfl, hj.1⟩
theorem IsMap_p (j : JV) : PCall Try.prog 147 [.agg [pdJ j]] (.val (.bool (JV.IsMap j))) := by
  intro w F vs hF hvs
  obtain ⟨u, rfl, hj⟩ := vu_form hvs
  refine (IsMap_any j w u hj.shape).mono ?_
  rintro e w' ⟨rfl, rfl⟩
  exact ⟨_, rfl, (Below.refl _ _).alloc (Nat.le_refl _) _, by unfold Rep; exact ⟨rfl, trivial⟩⟩
theorem IsList_p (j : JV) : PCall Try.prog 146 [.agg [pdJ j]] (.val (.bool (JV.IsList j))) := by
  intro w F vs hF hvs
  obtain ⟨u, rfl, hj⟩ := vu_form hvs
  refine (IsList_any j w u hj.shape).mono ?_
  rintro e w' ⟨rfl, rfl⟩
  exact ⟨_, rfl, (Below.refl _ _).alloc (Nat.le_refl _) _, by unfold Rep; exact ⟨rfl, trivial⟩⟩
theorem IsBool_p (j : JV) : PCall Try.prog 143 [.agg [pdJ j]] (.val (.bool (JV.IsBool j))) := by
  intro w F vs hF hvs
  obtain ⟨u, rfl, hj⟩ := vu_form hvs
  refine (IsBool_any j w u hj.shape).mono ?_
  rintro e w' ⟨rfl, rfl⟩
  exact ⟨_, rfl, (Below.refl _ _).alloc (Nat.le_refl _) _, by unfold Rep; exact ⟨rfl, trivial⟩⟩
theorem IsInt_p (j : JV) : PCall Try.prog 145 [.agg [pdJ j]] (.val (.bool (JV.IsInt j))) := by
  intro w F vs hF hvs
  obtain ⟨u, rfl, hj⟩ := vu_form hvs
  refine (IsInt_any j w u hj.shape).mono ?_
  rintro e w' ⟨rfl, rfl⟩
  exact ⟨_, rfl, (Below.refl _ _).alloc (Nat.le_refl _) _, by unfold Rep; exact ⟨rfl, trivial⟩⟩
theorem IsFloat_p (j : JV) : PCall Try.prog 144 [.agg [pdJ j]] (.val (.bool (JV.IsFloat j))) := by
  intro w F vs hF hvs
  obtain ⟨u, rfl, hj⟩ := vu_form hvs
  refine (IsFloat_any j w u hj.shape).mono ?_
  rintro e w' ⟨rfl, rfl⟩
  exact ⟨_, rfl, (Below.refl _ _).alloc (Nat.le_refl _) _, by unfold Rep; exact ⟨rfl, trivial⟩⟩
theorem IsString_p (j : JV) : PCall Try.prog 149 [.agg [pdJ j]] (.val (.bool (JV.IsString j))) := by
  intro w F vs hF hvs
  obtain ⟨u, rfl, hj⟩ := vu_form hvs
  refine (IsString_any j w u hj.shape).mono ?_
  rintro e w' ⟨rfl, rfl⟩
  exact ⟨_, rfl, (Below.refl _ _).alloc (Nat.le_refl _) _, by unfold Rep; exact ⟨rfl, trivial⟩⟩
theorem IsNull_p (j : JV) : PCall Try.prog 148 [.agg [pdJ j]] (.val (.bool (JV.IsNull j))) := by
  intro w F vs hF hvs
  obtain ⟨u, rfl, hj⟩ := vu_form hvs
  refine (IsNull_any j w u hj.shape).mono ?_
  rintro e w' ⟨rfl, rfl⟩
  exact ⟨_, rfl, (Below.refl _ _).alloc (Nat.le_refl _) _, by unfold Rep; exact ⟨rfl, trivial⟩⟩
theorem AsBool_p (x : Bool) : PCall Try.prog 135 [.agg [pdJ (.bool x)]] (.val (.bool x)) := by
  intro w F vs hF hvs
  obtain ⟨u, rfl, hj⟩ := vu_form hvs
  unfold IsJ at hj; subst hj
  refine (AsBool_any x w).mono ?_
  rintro e w' ⟨rfl, rfl⟩
  exact ⟨_, rfl, (Below.refl _ _).alloc (Nat.le_refl _) _, by unfold Rep; exact ⟨rfl, trivial⟩⟩
theorem AsInt_p (x : Int) : PCall Try.prog 137 [.agg [pdJ (.int x)]] (.val (.int .i64 x)) := by
  intro w F vs hF hvs
  obtain ⟨u, rfl, hj⟩ := vu_form hvs
  unfold IsJ at hj; obtain ⟨rfl, hw⟩ := hj
  refine (AsInt_any x w).mono ?_
  rintro e w' ⟨rfl, rfl⟩
  exact ⟨_, rfl, (Below.refl _ _).alloc (Nat.le_refl _) _, by unfold Rep; exact ⟨rfl, hw⟩⟩
theorem AsFloat_p (x : Nat) : PCall Try.prog 136 [.agg [pdJ (.flt x)]] (.val (.float .f64 x)) := by
  intro w F vs hF hvs
  obtain ⟨u, rfl, hj⟩ := vu_form hvs
  unfold IsJ at hj; obtain ⟨rfl, hw⟩ := hj
  refine (AsFloat_any x w).mono ?_
  rintro e w' ⟨rfl, rfl⟩
  exact ⟨_, rfl, (Below.refl _ _).alloc (Nat.le_refl _) _, by unfold Rep; exact ⟨rfl, hw⟩⟩
theorem AsString_p (x : ByteArray) : PCall Try.prog 142 [.agg [pdJ (.str x)]] (.val (.string x)) := by
  intro w F vs hF hvs
  obtain ⟨u, rfl, hj⟩ := vu_form hvs
  unfold IsJ at hj; obtain ⟨rfl, hw⟩ := hj
  refine (AsString_any x w).mono ?_
  rintro e w' ⟨rfl, rfl⟩
  exact ⟨_, rfl, (Below.refl _ _).alloc (Nat.le_refl _) _, by unfold Rep; exact ⟨rfl, hw⟩⟩
theorem asList_p (l : List JV) : PCall Try.prog 139 [.agg [pdJ (.list l)], dvA] (dvL l) := by
  refine PCall.vu ?_
  refine pcall_of_run Try.func139 rfl Try.ntmps139 rfl (fun X => ?_)
  repeat' (first
    | refine run_seq ?_
    | (refine k_pick rfl ?_; first | refine k_assignD rfl rfl ?_ | refine k_fieldAddrB rfl rfl rfl ?_ | refine k_loadBD rfl rfl rfl (by first | rfl | (simp only [cellsD]; rfl)) ?_ | refine k_boxW rfl rfl rfl (by first | rfl | (simp only [cellsD]; rfl)) ?_ | refine k_iface rfl rfl (by kernel_rfl) ?_ | refine k_ta1 rfl rfl (by kernel_rfl) ?_)
    | refine run_opsEnd ?_
    | refine run_region ?_
    | refine run_retOk (resOk_tmp rfl rfl ?_)
    | fail)
  all_goals exact PLe.refl _
theorem asMap_p (m : List (ByteArray × JV)) : PCall Try.prog 141 [.agg [pdJ (.map m)], dvA] (dvM m) := by
  refine PCall.vu ?_
  refine pcall_of_run Try.func141 rfl Try.ntmps141 rfl (fun X => ?_)
  repeat' (first
    | refine run_seq ?_
    | (refine k_pick rfl ?_; first | refine k_assignD rfl rfl ?_ | refine k_moveD rfl rfl ?_ | refine k_fieldAddrB rfl rfl rfl ?_ | refine k_loadBD rfl rfl rfl (by first | rfl | (simp only [cellsD]; rfl)) ?_ | refine k_boxW rfl rfl rfl (by first | rfl | (simp only [cellsD]; rfl)) ?_ | refine k_extract rfl rfl rfl ?_ | refine k_iface rfl rfl (by kernel_rfl) ?_ | refine k_taS rfl rfl (by kernel_rfl) ?_ | refine k_cmpNil rfl rfl rfl (by kernel_rfl) (by exact NilIs.ifc) rfl ?_)
    | refine run_opsEnd ?_
    | refine run_region ?_
    | refine run_condT rfl (by first | rfl | assumption) ?_
    | refine run_condF rfl (by first | rfl | assumption) ?_
    | refine run_block ?_
    | refine run_skip ?_
    | refine run_retOk (resOk_tmp rfl rfl ?_)
    | fail)
  all_goals exact PLe.refl _
theorem lenL_p (l : List JV) : PCall Try.prog 156 [dvLs l] (.val (.int .i64 l.length)) := by
  refine pcall_of_run Try.func156 rfl Try.ntmps156 rfl (fun X => ?_)
  repeat' (first
    | refine run_seq ?_
    | (refine k_pick rfl ?_; first | refine k_assignD rfl rfl ?_ | refine k_moveD rfl rfl ?_ | refine k_lenJ rfl rfl ?_)
    | refine run_opsEnd ?_
    | refine run_region ?_
    | refine run_retOk (resOk_tmp rfl rfl ?_)
    | fail)
  all_goals exact PLe.refl _
theorem lenM_p (m : List (ByteArray × JV)) : PCall Try.prog 168 [dvMm m] (.val (.int .i64 m.length)) := by
  refine pcall_of_run Try.func168 rfl Try.ntmps168 rfl (fun X => ?_)
  repeat' (first
    | refine run_seq ?_
    | (refine k_pick rfl ?_; first | refine k_assignD rfl rfl ?_ | refine k_moveD rfl rfl ?_ | refine k_lenM rfl rfl ?_)
    | refine run_opsEnd ?_
    | refine run_region ?_
    | refine run_retOk (resOk_tmp rfl rfl ?_)
    | fail)
  all_goals exact PLe.refl _
theorem emptyNext_p : PCall Try.prog 181 [.ptr (.agg [])] (.val (.bool false)) := by
  refine pcall_of_run Try.func181 rfl Try.ntmps181 rfl (fun X => ?_)
  repeat' (first
    | refine run_seq ?_
    | (refine k_pick rfl ?_; refine k_assignD rfl rfl ?_)
    | refine run_opsEnd ?_
    | refine run_region ?_
    | refine run_retOk (resOk_tmp rfl rfl ?_)
    | fail)
  all_goals exact PLe.refl _
def dvE : PD := .iface 251 (.ptr (.agg []))
theorem rangeNil_p : PCall Try.prog 158 [dvLs [], dvA] dvE := by
  refine pcall_of_run Try.func158 rfl Try.ntmps158 rfl (fun X => ?_)
  have hq : decide (((([] : List JV).length : Nat) : Int) = 0) = true := rfl
  repeat' (first
    | refine run_seq ?_
    | (refine k_pick rfl ?_; first | refine k_assignD rfl rfl ?_ | refine k_moveD rfl rfl ?_ | refine k_bin2B rfl rfl rfl rfl ?_ | refine k_boxW rfl rfl rfl (by first | rfl | (simp only [cellsD]; rfl)) ?_ | refine k_build rfl rfl rfl ?_ | refine k_assignI rfl rfl ?_ | refine k_ifaceP rfl rfl (by kernel_rfl) ?_ | refine k_lenJ rfl rfl ?_)
    | refine run_opsEnd ?_
    | refine run_region ?_
    | refine run_condT rfl (by first | rfl | assumption) ?_
    | fail)
  refine run_frz gV (fun _ => true) ?_
  refine run_retOk (resOk_tmp rfl rfl ?_)
  exact PLe.refl _
theorem alloc_c : ACall1 Try.prog 86 [.dat (.ptr (.agg []))] [] (.ptr 0 0) [(0, .box 173 [.dat (.val .nilIface)])] := by
  refine acall_of_run Try.func86 rfl Try.ntmps86 rfl (fun X => ?_)
  repeat' (first
    | refine run_seq ?_
    | (refine k_pick rfl ?_; first | refine k_assignD rfl rfl ?_ | refine k_boxW rfl rfl rfl (by first | rfl | (simp only [cellsD]; rfl)) ?_ | refine k_assignP rfl rfl ?_ | refine k_build rfl rfl rfl ?_)
    | refine run_opsEnd ?_
    | refine run_region ?_
    | fail)
  refine run_retA () (thk [(0, 4)] 0) (tm := [(2, .ptr 0 0)]) ?_ (resA_tmp rfl rfl)
  (refine ⟨?_, ?_, by rfl⟩ <;> repeat' (first | exact trivial | exact ALe.ptr rfl | exact ALe.own rfl | exact ALe.elt rfl | exact BLe.boxD _ _ | exact BLe.row rfl | exact BLe.res | exact BLe.dead rfl | exact ALe.dat (PLe.refl _) | exact CLe.nil | refine And.intro ?_ ?_ | refine ALe.iface ?_ | refine ALe.clo ?_ | refine CLe.cons ?_ ?_ | refine BLe.box ?_ | refine BLe.row ?_ | exact ALe.any _ | refine ALe.dat (PLe.of_eq ?_)))
theorem allocR_c : ACall1 Try.prog 184 [.dat (.ptr (.agg []))] [] (.ptr 0 0) [(0, .box 255 [.dat (.val (.slice none 0 0)), .ptr 1 0, .dat (.val (.int .i64 0))]), (1, .box 173 [.dat (.val .nilIface)])] := by
  refine acall_of_run Try.func184 rfl Try.ntmps184 rfl (fun X => ?_)
  repeat' (first
    | refine run_seq ?_
    | (refine k_pick rfl ?_; first | refine k_assignD rfl rfl ?_ | refine k_boxW rfl rfl rfl (by first | rfl | (simp only [cellsD]; rfl)) ?_ | refine k_assignP rfl rfl ?_ | refine k_build rfl rfl rfl ?_ | refine k_buildG rfl rfl rfl ?_ | refine k_box rfl rfl rfl ?_)
    | refine run_opsEnd ?_
    | refine run_region ?_
    | fail)
  refine run_retA () (thk [(0, 6), (1, 4)] 0) (tm := [(2, .ptr 0 0)]) ?_ (resA_tmp rfl rfl)
  (refine ⟨?_, ?_, by rfl⟩ <;> repeat' (first | exact trivial | exact ALe.ptr rfl | exact ALe.own rfl | exact ALe.elt rfl | exact BLe.boxD _ _ | exact BLe.row rfl | exact BLe.res | exact BLe.dead rfl | exact ALe.dat (PLe.refl _) | exact CLe.nil | refine And.intro ?_ ?_ | refine ALe.iface ?_ | refine ALe.clo ?_ | refine CLe.cons ?_ ?_ | refine BLe.box ?_ | refine BLe.row ?_ | exact ALe.any _ | refine ALe.dat (PLe.of_eq ?_)))
theorem reuse_c (x : AV) (j : JV) : ACall1 Try.prog 87 [.ptr 1000 0, .dat (pdJ j)] [(1000, .box 173 [x])] (.iface 139 (.ptr 1000 0)) [(1000, .box 173 [.dat (pdJ j)])] := by
  refine acall_of_run Try.func87 rfl Try.ntmps87 rfl (fun X => ?_)
  repeat' (first
    | refine run_seq ?_
    | (refine k_pick rfl ?_; first | refine k_assignD rfl rfl ?_ | refine k_moveD rfl rfl ?_ | refine k_fieldAddrB rfl rfl rfl ?_ | refine k_nilB rfl rfl ?_ | refine k_storeB rfl rfl rfl rfl rfl ?_ | refine k_moveP rfl rfl ?_ | refine k_assignI rfl rfl ?_ | refine k_ifaceP rfl rfl (by kernel_rfl) ?_)
    | refine run_opsEnd ?_
    | refine run_region ?_
    | fail)
  refine run_retA () id (tm := [(4, .iface 139 (.ptr 1000 0))]) ?_ (resA_tmp rfl rfl)
  (refine ⟨?_, ?_, by rfl⟩ <;> repeat' (first | exact trivial | exact ALe.ptr rfl | exact ALe.own rfl | exact ALe.elt rfl | exact BLe.boxD _ _ | exact BLe.row rfl | exact BLe.res | exact BLe.dead rfl | exact ALe.dat (PLe.refl _) | exact CLe.nil | refine And.intro ?_ ?_ | refine ALe.iface ?_ | refine ALe.clo ?_ | refine CLe.cons ?_ ?_ | refine BLe.box ?_ | refine BLe.row ?_ | exact ALe.any _ | refine ALe.dat (PLe.of_eq ?_)))
end Go.Proofs.Ytbbacpdbbmjblaa
end
