import Derived.Test.YtlghpcokbppkfaaEngB
set_option linter.unusedVariables false
/- Calls to which memory is lent: the callee may write blocks of the caller's. -/
namespace Go.Proofs.Ytlghpcokbppkfaa
open Go.RowKit
set_option linter.unusedSimpArgs false

/-! ### Names of blocks, changed -/
mutual
def renA (θ : Nat → Nat) : AV → AV
  | .any => .any
  | .dat d => .dat d
  | .ptr k off => .ptr (θ k) off
  | .own k => .own (θ k)
  | .agg l => .agg (renAs θ l)
  | .tup l => .tup (renAs θ l)
  | .iface t x => .iface t (renA θ x)
  | .clo f l => .clo f (renAs θ l)
  | .elt k n i off => .elt (θ k) n i off
def renAs (θ : Nat → Nat) : List AV → List AV
  | [] => []
  | x :: r => renA θ x :: renAs θ r
end
def renB (θ : Nat → Nat) : Blk → Blk
  | .box t cs => .box t (renAs θ cs)
  | .row e n y l => .row e n y l
  | .res R => .res R
  | .dead => .dead
theorem renB_kind (θ : Nat → Nat) (x : Blk) : (renB θ x).kind = x.kind := by cases x <;> rfl
theorem renB_live (θ : Nat → Nat) (x : Blk) : (renB θ x).live = x.live := by cases x <;> rfl
section
variable {w w' : World} {F F' : Nat → Prop} {t1 t2 : Nat → Option Blk} {ρ1 ρ2 : Nat → RV} {θ : Nat → Nat}
/-- From the callee's names to the caller's. -/
theorem heldK.ren (K : Nat → Prop) (hk : ∀ k x, t1 k = some x → t2 (θ k) = some (renB θ x) ∧ (ρ2 (θ k)).v = (ρ1 k).v) {k : Nat} {p : Value → Prop} (h : heldK t1 ρ1 k p) : heldK t2 ρ2 (θ k) p := by
  rcases h with ⟨x, h1, h2, h3⟩ | h1
  · obtain ⟨g1, g2⟩ := hk k x h1
    exact .inl ⟨_, g1, by rw [renB_kind]; exact h2, by rw [g2]; exact h3⟩
  · exact .inr (hk k _ h1).1
mutual
theorem VR.ren (hs : ∀ b, F b → F' b) (hk : ∀ k x, t1 k = some x → t2 (θ k) = some (renB θ x) ∧ (ρ2 (θ k)).v = (ρ1 k).v) : ∀ (x : AV) {v : Value}, VR w F t1 ρ1 x v → VR w F' t2 ρ2 (renA θ x) v
  | .any, v, _ => by unfold renA VR; trivial
  | .dat d, v, hv => by unfold renA; unfold VR at hv ⊢; exact hv.keep (fun _ _ => rfl) hs d
  | .ptr k off, v, hv => by
    unfold renA; unfold VR at hv ⊢
    obtain ⟨t, cs, b, h1, h2, h3⟩ := hv
    obtain ⟨g1, g2⟩ := hk k _ h1
    exact ⟨t, _, b, g1, g2.trans h2, h3⟩
  | .own k, v, hv => by unfold renA; unfold VR at hv ⊢; exact ⟨hv.1, hv.2.ren (fun _ => True) hk⟩
  | .elt k n i off, v, hv => by unfold renA; unfold VR at hv ⊢; exact ⟨hv.1, hv.2.ren (fun _ => True) hk⟩
  | .agg l, v, hv => by
    unfold renA; unfold VR at hv ⊢
    obtain ⟨vs, e, h1, h2⟩ := hv
    exact ⟨vs, e, VRs.ren hs hk l h1, h2⟩
  | .tup l, v, hv => by
    unfold renA; unfold VR at hv ⊢
    obtain ⟨vs, e, h1⟩ := hv
    exact ⟨vs, e, VRs.ren hs hk l h1⟩
  | .iface t x, v, hv => by
    unfold renA; unfold VR at hv ⊢
    obtain ⟨u, e, h1⟩ := hv
    exact ⟨u, e, VR.ren hs hk x h1⟩
  | .clo f l, v, hv => by
    unfold renA; unfold VR at hv ⊢
    obtain ⟨vs, e, h1⟩ := hv
    exact ⟨vs, e, VRs.ren hs hk l h1⟩
theorem VRs.ren (hs : ∀ b, F b → F' b) (hk : ∀ k x, t1 k = some x → t2 (θ k) = some (renB θ x) ∧ (ρ2 (θ k)).v = (ρ1 k).v) : ∀ (l : List AV) {vs : List Value}, VRs w F t1 ρ1 l vs → VRs w F' t2 ρ2 (renAs θ l) vs
  | [], vs, hv => by unfold renAs; unfold VRs at hv ⊢; exact hv
  | x :: r, vs, hv => by
    unfold renAs; unfold VRs at hv ⊢
    obtain ⟨v, q, e, h1, h2⟩ := hv
    exact ⟨v, q, e, VR.ren hs hk x h1, VRs.ren hs hk r h2⟩
end
/-- From the caller's names to the callee's: of the keys that the value bears. -/
theorem heldK.ner (K : Nat → Prop) (hk : ∀ k, K k → ∃ x, t1 k = some x ∧ t2 (θ k) = some (renB θ x) ∧ (ρ2 (θ k)).v = (ρ1 k).v) {k : Nat} (hK : K k) {p : Value → Prop} (h : heldK t2 ρ2 (θ k) p) : heldK t1 ρ1 k p := by
  obtain ⟨x, g0, g1, g2⟩ := hk k hK
  rcases h with ⟨y, h1, h2, h3⟩ | h1
  · rw [g1] at h1
    cases h1
    rw [renB_kind] at h2
    exact .inl ⟨x, g0, h2, by rw [← g2]; exact h3⟩
  · rw [g1] at h1
    simp only [Option.some.injEq] at h1
    refine .inr ?_
    cases x <;> simp [renB] at h1
    exact g0
mutual
theorem VR.ner (K : Nat → Prop) (hs : ∀ b, F b → F' b) (hk : ∀ k, K k → ∃ x, t1 k = some x ∧ t2 (θ k) = some (renB θ x) ∧ (ρ2 (θ k)).v = (ρ1 k).v) : ∀ (x : AV) {v : Value}, (∀ k ∈ keysA x, K k) → VR w F t2 ρ2 (renA θ x) v → VR w F' t1 ρ1 x v
  | .any, v, _, _ => by unfold VR; trivial
  | .dat d, v, _, hv => by unfold renA at hv; unfold VR at hv ⊢; exact hv.keep (fun _ _ => rfl) hs d
  | .ptr k off, v, hK, hv => by
    unfold renA at hv; unfold VR at hv ⊢
    obtain ⟨t, cs, b, h1, h2, h3⟩ := hv
    obtain ⟨x, g0, g1, g2⟩ := hk k (hK k (by simp [keysA]))
    rw [g1] at h1
    cases x <;> simp [renB] at h1
    exact ⟨_, _, b, g0, g2.symm.trans h2, h3⟩
  | .own k, v, hK, hv => by unfold renA at hv; unfold VR at hv ⊢; exact ⟨hv.1, hv.2.ner K hk (hK k (by simp [keysA]))⟩
  | .elt k n i off, v, hK, hv => by unfold renA at hv; unfold VR at hv ⊢; exact ⟨hv.1, hv.2.ner K hk (hK k (by simp [keysA]))⟩
  | .agg l, v, hK, hv => by
    unfold renA at hv; unfold VR at hv ⊢
    obtain ⟨vs, e, h1, h2⟩ := hv
    exact ⟨vs, e, VRs.ner K hs hk l (fun k h => hK k (by simpa [keysA] using h)) h1, h2⟩
  | .tup l, v, hK, hv => by
    unfold renA at hv; unfold VR at hv ⊢
    obtain ⟨vs, e, h1⟩ := hv
    exact ⟨vs, e, VRs.ner K hs hk l (fun k h => hK k (by simpa [keysA] using h)) h1⟩
  | .iface t x, v, hK, hv => by
    unfold renA at hv; unfold VR at hv ⊢
    obtain ⟨u, e, h1⟩ := hv
    exact ⟨u, e, VR.ner K hs hk x (fun k h => hK k (by simpa [keysA] using h)) h1⟩
  | .clo f l, v, hK, hv => by
    unfold renA at hv; unfold VR at hv ⊢
    obtain ⟨vs, e, h1⟩ := hv
    exact ⟨vs, e, VRs.ner K hs hk l (fun k h => hK k (by simpa [keysA] using h)) h1⟩
theorem VRs.ner (K : Nat → Prop) (hs : ∀ b, F b → F' b) (hk : ∀ k, K k → ∃ x, t1 k = some x ∧ t2 (θ k) = some (renB θ x) ∧ (ρ2 (θ k)).v = (ρ1 k).v) : ∀ (l : List AV) {vs : List Value}, (∀ k ∈ keysAs l, K k) → VRs w F t2 ρ2 (renAs θ l) vs → VRs w F' t1 ρ1 l vs
  | [], vs, _, hv => by unfold renAs at hv; unfold VRs at hv ⊢; exact hv
  | x :: r, vs, hK, hv => by
    unfold renAs at hv; unfold VRs at hv ⊢
    obtain ⟨v, q, e, h1, h2⟩ := hv
    exact ⟨v, q, e, VR.ner K hs hk x (fun k h => hK k (by simp only [keysAs, List.mem_append]; exact .inl h)) h1, VRs.ner K hs hk r (fun k h => hK k (by simp only [keysAs, List.mem_append]; exact .inr h)) h2⟩
end
end

/-! ### The contract -/
/-- The blocks of a table lie in memory, apart from one another. -/
structure Lies2 (X : Base) (tb : Nat → Option Blk) (w : World) (ρ : Nat → RV) : Prop where
  blks : ∀ k x, tb k = some x → BR X w tb ρ k x
  apart : ∀ k k' b, liveB (tb k) = true → liveB (tb k') = true → (ρ k).fp b → (ρ k').fp b → k = k'
  lent : ∀ k, 1000 ≤ k → liveB (tb k) = true → (ρ k).v = X.rv k
/-- What a function answers where blocks (the keys from 1000 on) are lent to it: one of these results, with these blocks. -/
def ACall (P : Program) (f : FuncId) (az : List AV) (tbl : List (Nat × Blk)) {ι : Type} (out : ι → AV) (tbl' : ι → List (Nat × Blk)) : Prop :=
  ∀ (X : Base) (ρ : Nat → RV) (vs : List Value), X.P = P → (∀ b, X.L b ↔ ∃ k, liveB (lkB tbl k) = true ∧ (ρ k).fp b) → (∀ b, X.F0 b → ¬ X.L b) → Lies2 X (lkB tbl) X.w0 ρ → VRs X.w0 (FF X X.w0 (lkB tbl) ρ) (lkB tbl) ρ az vs →
    Calls P f vs.toArray X.w0 fun e w' => ∃ v i ρ', e = .returned v ∧ Bel X w' ∧ Lies2 X (lkB (tbl' i)) w' ρ' ∧ VR w' (FF X w' (lkB (tbl' i)) ρ') (lkB (tbl' i)) ρ' (out i) v
def startA (az : List AV) (tbl : List (Nat × Blk)) : Sta := { tm := fun i => match az[i]? with | some x => x | none => .any, tb := lkB tbl }
/-- What comes back out of the state s. -/
def resA (P : Program) (fn : Func) (r : AV) (s : Sta) : Prop := ∀ X a w, Conc X s a w → ∃ v, (results fn a.tmps).run P w = .ok v w ∧ ∀ ρ, ConcAt X s a w ρ → VR w (FF X w s.tb ρ) s.tb ρ r v
def QA (P : Program) (X : Base) (fn : Func) {ι : Type} (out : ι → AV) (tbl' : ι → List (Nat × Blk)) : Exit → Act → World → Prop :=
  fun e a w => (e = .normal ∨ e = .ret) ∧ ∃ s i, resA P fn (out i) s ∧ s.tb = lkB (tbl' i) ∧ Conc X s a w
def lentKeys : List (Nat × Blk) → Bool
  | [] => true
  | (k, _) :: r => Nat.ble 1000 k && lentKeys r
theorem lentKeys_spec : ∀ {l : List (Nat × Blk)}, lentKeys l = true → ∀ k x, lkB l k = some x → 1000 ≤ k
  | [], _, k, x, h => by simp [lkB] at h
  | (q, y) :: r, hl, k, x, h => by
    simp only [lentKeys, Bool.and_eq_true] at hl
    unfold lkB at h
    split at h
    · rename_i e; subst e; exact Nat.le_of_ble_eq_true hl.1
    · exact lentKeys_spec hl.2 k x h
theorem acall_of_run {P : Program} {f : FuncId} {fn : Func} {c : Code} {N : Nat} {az : List AV} {tbl : List (Nat × Blk)} {ι : Type} {out : ι → AV} {tbl' : ι → List (Nat × Blk)} (hf : P.funcs[f]? = some fn) (hb : fn.body = some c) (hN : fn.ntmps = N)
    (hle : (Nat.ble az.length N && Nat.ble N 1000) = true) (h : ∀ (X : Base), Run P X N (QA P X fn out tbl') [.code c] (startA az tbl)) : ACall P f az tbl out tbl' := by
  intro X0 ρ vs hP hL hFL hlie hvs
  refine calls_of_wp_defers hf hb ?_
  have hlen := hvs.length
  simp only [Bool.and_eq_true] at hle
  have hle1 := Nat.le_of_ble_eq_true hle.2
  have hle := Nat.le_of_ble_eq_true hle.1
  let X : Base := { w0 := X0.w0, F0 := X0.F0, L := X0.L, B := X0.B, N := N, P := P, rv := X0.rv, hF0 := X0.hF0, hB := X0.hB, hN := hle1 }
  have hsz : vs.toArray.size = az.length := by simpa using hlen
  have hc : Conc X (startA az tbl) { tmps := vs.toArray ++ Array.replicate (fn.ntmps - vs.toArray.size) undef, defers := [] } X0.w0 := by
    refine ⟨ρ, by simp [X]; omega, (fun d hd => by cases hd), Bel.refl X, fun t => ?_, hlie.blks, hlie.apart, hlie.lent⟩
    show VR _ _ _ _ (match az[t]? with | some x => x | none => .any) _
    cases hd : az[t]? with
    | none => simp only; unfold VR; trivial
    | some d =>
      simp only
      obtain ⟨v, hv, hr⟩ := hvs.at_ hd
      have hlt : t < vs.length := (List.getElem?_eq_some_iff.1 hv).1
      have : (vs.toArray ++ Array.replicate (fn.ntmps - vs.toArray.size) undef).getD t undef = v := by
        rw [Array.getD_eq_getD_getElem?, Array.getElem?_append_left (by simpa using hlt)]
        simp [hv]
      rw [this]
      exact hr
  have hrun := (h X).out ⟨rfl, rfl⟩ _ _ hc
  refine wp_mono hrun ?_
  rintro e a' w' ⟨he, s', i, hres, htb, hcon⟩
  have hpost : Leaves P fn a'.tmps (fun e w' => ∃ v i ρ', e = .returned v ∧ Bel X0 w' ∧ Lies2 X0 (lkB (tbl' i)) w' ρ' ∧ VR w' (FF X0 w' (lkB (tbl' i)) ρ') (lkB (tbl' i)) ρ' (out i) v) a'.defers .returning w' := by
    obtain ⟨ρ0, hρ0⟩ := hcon
    refine leaves_harmless hρ0.defers fun w'' hb'' => ?_
    have hρ := hρ0.grow hb''
    obtain ⟨v, hv, hrep⟩ := hres X a' w'' ⟨ρ0, hρ⟩
    have h1 := hrep ρ0 hρ
    rw [htb] at h1
    refine ⟨v, hv, v, i, ρ0, rfl, ⟨hρ.below.os, hρ.below.tape, hρ.below.output, hρ.below.size, hρ.below.block⟩, ⟨?_, ?_, ?_⟩, h1⟩
    · intro k x hk; have := hρ.blks k x (by rw [htb]; exact hk); rw [htb] at this; exact this
    · intro k k' b h1 h2; exact hρ.apart k k' b (by rw [htb]; exact h1) (by rw [htb]; exact h2)
    · intro k hk h1; exact hρ.lent k hk (by rw [htb]; exact h1)
  rcases he with rfl | rfl <;> exact hpost
end Go.Proofs.Ytlghpcokbppkfaa

set_option linter.unusedVariables false
/- The rule for a call to which memory is lent. -/
namespace Go.Proofs.Ytlghpcokbppkfaa
open Go.RowKit
set_option linter.unusedSimpArgs false

/-- The callee's table, laid over the caller's by other names. -/
def mergeT (θ : Nat → Nat) : List (Nat × Blk) → (Nat → Option Blk) → Nat → Option Blk
  | [], tb => tb
  | (k, x) :: r, tb => upd (mergeT θ r tb) (θ k) (some (renB θ x))
def mergeR (θ : Nat → Nat) (ρ' : Nat → RV) : List (Nat × Blk) → (Nat → RV) → Nat → RV
  | [], ρ => ρ
  | (k, _) :: r, ρ => upd (mergeR θ ρ' r ρ) (θ k) (ρ' k)
def Sta.lend (s : Sta) (θ : Nat → Nat) (l : List (Nat × Blk)) : Sta := { tm := s.tm, tb := mergeT θ l s.tb }
/-- The caller has these blocks. -/
def TbOk (s : Sta) (θ : Nat → Nat) : List (Nat × Blk) → Prop
  | [] => True
  | (k, x) :: r => s.tb (θ k) = some (renB θ x) ∧ TbOk s θ r
/-- Those that are new are free names. -/
def FreshOk (s : Sta) (θ : Nat → Nat) : List (Nat × Blk) → Prop
  | [] => True
  | (k, _) :: r => (Nat.ble 1000 k = true ∨ (s.tb (θ k) = none ∧ Nat.blt (θ k) 1000 = true)) ∧ FreshOk s θ r
/-- The same as a test. -/
def freshB (s : Sta) (θ : Nat → Nat) : List (Nat × Blk) → Bool
  | [] => true
  | (k, _) :: r => (Nat.ble 1000 k || ((s.tb (θ k)).isNone && Nat.blt (θ k) 1000)) && freshB s θ r
theorem freshB_ok {s : Sta} {θ : Nat → Nat} : ∀ {l : List (Nat × Blk)}, freshB s θ l = true → FreshOk s θ l
  | [], _ => trivial
  | (k, _) :: r, h => by
    simp only [freshB, Bool.and_eq_true, Bool.or_eq_true] at h
    exact ⟨h.1.imp id (fun h => ⟨Option.isNone_iff_eq_none.1 h.1, h.2⟩), freshB_ok h.2⟩
def hasKey (l : List (Nat × Blk)) (k : Nat) : Bool := (lkB l k).isSome
/-- All that was lent comes back, of its kind. -/
def backOk (l' : List (Nat × Blk)) : List (Nat × Blk) → Bool
  | [] => true
  | (k, x) :: r => (match lkB l' k with | some y => Nat.beq y.kind x.kind || (Nat.beq y.kind 2 && !Nat.beq x.kind 0) | none => false) && backOk l' r
def lentSub (l : List (Nat × Blk)) : List (Nat × Blk) → Bool
  | [] => true
  | (k, _) :: r => (Nat.blt k 1000 || hasKey l k) && lentSub l r
def lendOk1 (θ : Nat → Nat) (az : List AV) (l : List (Nat × Blk)) : Bool := lentKeys l && injOn θ l && keysInB l l && (keysAs az).all (fun k => (l.map (·.1)).contains k)
def lendOk2 (θ : Nat → Nat) (l l' : List (Nat × Blk)) : Bool := injOn θ l' && backOk l' l && lentSub l l'

theorem lkB_mem : ∀ {l : List (Nat × Blk)} {k : Nat} {x : Blk}, lkB l k = some x → (k, x) ∈ l
  | [], _, _, h => by simp [lkB] at h
  | (q, y) :: r, k, x, h => by
    unfold lkB at h
    split at h
    · rename_i e; subst e; simp only [Option.some.injEq] at h; subst h; exact List.mem_cons_self ..
    · exact List.mem_cons_of_mem _ (lkB_mem h)
theorem lkB_some : ∀ {l : List (Nat × Blk)} {k : Nat} {x : Blk}, (k, x) ∈ l → ∃ y, lkB l k = some y
  | (q, y) :: r, k, x, h => by
    unfold lkB
    split
    · exact ⟨_, rfl⟩
    · rename_i hne
      rcases List.mem_cons.1 h with h | h
      · cases h; exact absurd rfl hne
      · exact lkB_some h
theorem injOn_spec {θ : Nat → Nat} : ∀ {l : List (Nat × Blk)}, injOn θ l = true → ∀ {k k' : Nat} {b b' : Blk}, (k, b) ∈ l → (k', b') ∈ l → θ k = θ k' → k = k'
  | [], _, _, _, _, _, h, _, _ => by cases h
  | (t', y) :: r, hl, k, k', b, b', h, h', e => by
    simp only [injOn, Bool.and_eq_true] at hl
    have key : ∀ k2 b2, (k2, b2) ∈ r → θ t' = θ k2 → t' = k2 := by
      intro k2 b2 hm he
      have := List.all_eq_true.1 hl.1 (k2, b2) hm
      simp only [Bool.or_eq_true, Bool.not_eq_true'] at this
      rcases this with h1 | h1
      · rw [he, Nat.beq_refl] at h1; cases h1
      · exact Nat.eq_of_beq_eq_true h1
    rcases List.mem_cons.1 h with h1 | h1 <;> rcases List.mem_cons.1 h' with h2 | h2
    · cases h1; cases h2; rfl
    · cases h1; exact key _ _ h2 e
    · cases h2; exact (key _ _ h1 e.symm).symm
    · exact injOn_spec hl.2 h1 h2 e
theorem mergeT_at {θ : Nat → Nat} {tb : Nat → Option Blk} : ∀ {l : List (Nat × Blk)}, injOn θ l = true → ∀ {k : Nat} {x : Blk}, lkB l k = some x → mergeT θ l tb (θ k) = some (renB θ x)
  | [], _, k, x, h => by simp [lkB] at h
  | (q, y) :: r, hl, k, x, h => by
    have hm := lkB_mem h
    unfold lkB at h
    unfold mergeT
    split at h
    · rename_i e; subst e; simp only [Option.some.injEq] at h; subst h; exact upd_same _ _ _
    · rename_i hne
      rw [upd_ne _ _ (fun e => hne (injOn_spec hl hm (List.mem_cons_self ..) e))]
      simp only [injOn, Bool.and_eq_true] at hl
      exact mergeT_at hl.2 h
theorem mergeR_at {θ : Nat → Nat} {ρ ρ' : Nat → RV} : ∀ {l : List (Nat × Blk)}, injOn θ l = true → ∀ {k : Nat} {x : Blk}, lkB l k = some x → mergeR θ ρ' l ρ (θ k) = ρ' k
  | [], _, k, x, h => by simp [lkB] at h
  | (q, y) :: r, hl, k, x, h => by
    have hm := lkB_mem h
    unfold lkB at h
    unfold mergeR
    split at h
    · rename_i e; subst e; exact upd_same _ _ _
    · rename_i hne
      rw [upd_ne _ _ (fun e => hne (injOn_spec hl hm (List.mem_cons_self ..) e))]
      simp only [injOn, Bool.and_eq_true] at hl
      exact mergeR_at hl.2 h
/-- A name of the caller's is one of the callee's, or is not touched. -/
theorem merge_or (θ : Nat → Nat) (tb : Nat → Option Blk) (ρ ρ' : Nat → RV) : ∀ (l : List (Nat × Blk)) (j : Nat), (∃ k x, lkB l k = some x ∧ θ k = j) ∨ ((∀ k x, (k, x) ∈ l → θ k ≠ j) ∧ mergeT θ l tb j = tb j ∧ mergeR θ ρ' l ρ j = ρ j)
  | [], j => .inr ⟨(fun _ _ h => by cases h), rfl, rfl⟩
  | (q, y) :: r, j => by
    by_cases e : θ q = j
    · exact .inl ⟨q, y, by simp [lkB], e⟩
    · rcases merge_or θ tb ρ ρ' r j with ⟨k, x, h1, h2⟩ | ⟨h1, h2, h3⟩
      · refine .inl ⟨k, x, ?_, h2⟩
        unfold lkB
        rw [if_neg (fun e' => e (by rw [← e']; exact h2))]
        exact h1
      · refine .inr ⟨fun k x hm => ?_, ?_, ?_⟩
        · rcases List.mem_cons.1 hm with h | h
          · cases h; exact e
          · exact h1 k x h
        · unfold mergeT; rw [upd_ne _ _ (Ne.symm e)]; exact h2
        · unfold mergeR; rw [upd_ne _ _ (Ne.symm e)]; exact h3
theorem TbOk.at_ {s : Sta} {θ : Nat → Nat} : ∀ {l : List (Nat × Blk)}, TbOk s θ l → ∀ {k : Nat} {x : Blk}, lkB l k = some x → s.tb (θ k) = some (renB θ x)
  | [], _, k, x, h => by simp [lkB] at h
  | (q, y) :: r, hl, k, x, h => by
    unfold lkB at h
    split at h
    · rename_i e; subst e; simp only [Option.some.injEq] at h; subst h; exact hl.1
    · exact TbOk.at_ hl.2 h
theorem FreshOk.at_ {s : Sta} {θ : Nat → Nat} : ∀ {l : List (Nat × Blk)}, FreshOk s θ l → ∀ {k : Nat} {x : Blk}, lkB l k = some x → 1000 ≤ k ∨ (s.tb (θ k) = none ∧ θ k < 1000)
  | [], _, k, x, h => by simp [lkB] at h
  | (q, y) :: r, hl, k, x, h => by
    unfold lkB at h
    split at h
    · rename_i e; subst e; exact hl.1.imp Nat.le_of_ble_eq_true (fun h => ⟨h.1, Nat.blt_eq.mp h.2⟩)
    · exact FreshOk.at_ hl.2 h
theorem backOk_at {l' : List (Nat × Blk)} : ∀ {l : List (Nat × Blk)}, backOk l' l = true → ∀ {k : Nat} {x : Blk}, lkB l k = some x → ∃ y, lkB l' k = some y ∧ (y.kind = x.kind ∨ (y = .dead ∧ x.kind ≠ 0))
  | [], _, k, x, h => by simp [lkB] at h
  | (q, y) :: r, hl, k, x, h => by
    simp only [backOk, Bool.and_eq_true] at hl
    unfold lkB at h
    split at h
    · rename_i e; subst e; simp only [Option.some.injEq] at h; subst h
      have h1 := hl.1
      split at h1
      · rename_i z hz
        refine ⟨z, hz, ?_⟩
        simp only [Bool.or_eq_true, Bool.and_eq_true, Bool.not_eq_true'] at h1
        rcases h1 with h1 | ⟨h1, h2⟩
        · exact .inl (Nat.eq_of_beq_eq_true h1)
        · right
          have e2 := Nat.eq_of_beq_eq_true h1
          have e4 : z = .dead := by cases z <;> first | rfl | (simp [Blk.kind] at e2)
          refine ⟨e4, fun e3 => ?_⟩
          rw [e3] at h2; simp at h2
      · cases h1
    · exact backOk_at hl.2 h
theorem lentSub_at {l : List (Nat × Blk)} : ∀ {l' : List (Nat × Blk)}, lentSub l l' = true → ∀ {k : Nat} {x : Blk}, lkB l' k = some x → 1000 ≤ k → ∃ y, lkB l k = some y
  | [], _, k, x, h, _ => by simp [lkB] at h
  | (q, y) :: r, hl, k, x, h, hk => by
    simp only [lentSub, Bool.and_eq_true, Bool.or_eq_true] at hl
    unfold lkB at h
    split at h
    · rename_i e; subst e
      rcases hl.1 with h1 | h1
      · have := Nat.blt_eq.mp h1; omega
      · exact Option.isSome_iff_exists.1 h1
    · exact lentSub_at hl.2 h hk
theorem keysInB_at {l0 : List (Nat × Blk)} : ∀ {l : List (Nat × Blk)}, keysInB l0 l = true → ∀ {k t : Nat} {cs : List AV}, lkB l k = some (.box t cs) → ∀ k' ∈ keysAs cs, ∃ y, lkB l0 k' = some y
  | [], _, k, t, cs, h => by simp [lkB] at h
  | (q, y) :: r, hl, k, t, cs, h => by
    unfold lkB at h
    split at h
    · rename_i e; subst e; simp only [Option.some.injEq] at h; subst h
      simp only [keysInB, Bool.and_eq_true] at hl
      intro k' hk'
      have := List.all_eq_true.1 hl.1 k' hk'
      simp only [List.contains_iff_mem, List.mem_map] at this
      obtain ⟨p, hp, rfl⟩ := this
      exact lkB_some (x := p.2) hp
    · have : keysInB l0 r = true := by
        cases y <;> simp only [keysInB, Bool.and_eq_true] at hl <;> first | exact hl.2 | exact hl
      exact keysInB_at this h

section
variable {P : Program} {X : Base} {s s' : Sta} {a : Act} {w w' : World} {ρ : Nat → RV}
theorem VRs_args (h : ConcAt X s a w ρ) : ∀ {xs : List Operand} {az : List AV}, xs.map s.ev = az → VRs w (FF X w s.tb ρ) s.tb ρ az (xs.map a.eval)
  | [], _, e => by subst e; simp [VRs]
  | x :: r, _, e => by
    subst e
    simp only [List.map_cons]
    unfold VRs
    exact ⟨_, _, rfl, h.ev x, VRs_args h rfl⟩
theorem renAs_map (θ : Nat → Nat) : ∀ l : List AV, renAs θ l = l.map (renA θ)
  | [] => rfl
  | x :: r => by unfold renAs; rw [renAs_map θ r]; rfl
/-- What a call to which memory is lent does. -/
theorem ConcAt.acall (hc : ConcAt X s a w ρ) (hP : X.P = P) {f : FuncId} {az : List AV} {tbl : List (Nat × Blk)} {ι : Type} {out : ι → AV} {tbl' : ι → List (Nat × Blk)} (θ : Nat → Nat) (hr : ACall P f az tbl out tbl') (htb : TbOk s θ tbl)
    (hfr : ∀ i, FreshOk s θ (tbl' i)) (hok1 : lendOk1 θ az tbl = true) (hok : ∀ i, lendOk2 θ tbl (tbl' i) = true) {vs : List Value} (hvs : VRs w (FF X w s.tb ρ) s.tb ρ (renAs θ az) vs) :
    Calls P f vs.toArray w fun e w' => ∃ v i ρ', e = .returned v ∧ ConcAt X (s.lend θ (tbl' i)) a w' ρ' ∧ VR w' (FF X w' (s.lend θ (tbl' i)).tb ρ') (s.lend θ (tbl' i)).tb ρ' (renA θ (out i)) v := by
  simp only [lendOk1, Bool.and_eq_true] at hok1
  obtain ⟨⟨⟨hlk, hinj⟩, hkb⟩, hka⟩ := hok1
  have hlk := lentKeys_spec hlk
  let L : Nat → Prop := fun b => ∃ k, liveB (lkB tbl k) = true ∧ (ρ (θ k)).fp b
  let Y : Base := { w0 := w, F0 := FF X w s.tb ρ, L := L, B := X.B, N := 0, P := P, rv := fun k => (ρ (θ k)).v, hF0 := fun b hb => hb.2.1, hB := hc.below.sizeB, hN := by omega }
  have hliveS : ∀ k x, lkB tbl k = some x → s.tb (θ k) = some (renB θ x) := fun k x h => htb.at_ h
  have hlive : ∀ k, liveB (lkB tbl k) = true → liveB (s.tb (θ k)) = true := by
    intro k h
    obtain ⟨x, hx, hl⟩ := live_some h
    rw [hliveS k x hx]
    show (renB θ x).live = true
    rw [renB_live]; exact hl
  have hmayX : ∀ k b, liveB (lkB tbl k) = true → (ρ (θ k)).fp b → X.may b ∧ b < w.heap.size := by
    intro k b h hb
    obtain ⟨x, hx, hl⟩ := live_some (hlive k h)
    exact hc.rowBlk hx hl hb
  have hFY : ∀ b, FF X w s.tb ρ b → FF Y w (lkB tbl) (fun k => ρ (θ k)) b := fun b hb => ⟨.inl hb, hb.2.1, fun k hk e => hb.2.2 (θ k) (hlive k hk) e⟩
  have hdisj : ∀ b, FF X w s.tb ρ b → ¬ L b := fun b hb ⟨k, hk, e⟩ => hb.2.2 (θ k) (hlive k hk) e
  have hnk : ∀ k, (∃ x, lkB tbl k = some x) → ∃ x, lkB tbl k = some x ∧ s.tb (θ k) = some (renB θ x) ∧ (ρ (θ k)).v = ((fun k => ρ (θ k)) k).v := fun k ⟨x, hx⟩ => ⟨x, hx, hliveS k x hx, rfl⟩
  have hlie : Lies2 Y (lkB tbl) w (fun k => ρ (θ k)) := by
    refine ⟨fun k x hx => ?_, fun k k' b h1 h2 e1 e2 => ?_, fun k _ _ => rfl⟩
    · have h1 := hc.blks (θ k) _ (hliveS k x hx)
      cases x with
      | box t cs =>
        obtain ⟨b, vs, e, g1, g2, g3, g4⟩ := h1
        refine ⟨b, vs, e, .inr ⟨k, by rw [hx]; rfl, by rw [e]; rfl⟩, g2, VRs.ner (fun k => ∃ x, lkB tbl k = some x) hFY hnk cs (fun k' hk' => keysInB_at hkb hx k' hk') g3, g4⟩
      | row e n y l =>
        obtain ⟨xs, g0, gm, g1, g2, g3, g4⟩ := h1
        refine ⟨xs, g0, fun b hb => .inr ⟨k, by rw [hx]; rfl, ?_⟩, g1, g2.keep (fun _ _ => rfl) hFY, g3, g4⟩
        show (ρ (θ k)).fp b
        rw [g0]; exact own_blkOf hb
      | res R =>
        obtain ⟨g1, g2⟩ := h1
        exact ⟨R.keep _ _ _ _ _ _ (fun _ _ => rfl) hFY (fun _ _ => rfl) g1, fun b hb => ⟨.inr ⟨k, by rw [hx]; rfl, hb⟩, (g2 b hb).2⟩⟩
      | dead => trivial
    · obtain ⟨x, hx, _⟩ := live_some h1
      obtain ⟨x', hx', _⟩ := live_some h2
      exact injOn_spec hinj (lkB_mem hx) (lkB_mem hx') (hc.apart (θ k) (θ k') b (hlive k h1) (hlive k' h2) e1 e2)
  have hargs : VRs w (FF Y w (lkB tbl) (fun k => ρ (θ k))) (lkB tbl) (fun k => ρ (θ k)) az vs := by
    refine VRs.ner (fun k => ∃ x, lkB tbl k = some x) hFY hnk az (fun k hk => ?_) hvs
    have := List.all_eq_true.1 hka k hk
    simp only [List.contains_iff_mem, List.mem_map] at this
    obtain ⟨p, hp, rfl⟩ := this
    exact lkB_some (x := p.2) hp
  refine (hr Y (fun k => ρ (θ k)) vs rfl (fun b => Iff.rfl) hdisj hlie hargs).mono ?_
  rintro e w' ⟨v, i, ρ', rfl, hbel, hl', hv⟩
  have hokI := hok i
  simp only [lendOk2, Bool.and_eq_true] at hokI
  obtain ⟨⟨hinj', hback⟩, hsub⟩ := hokI
  have hsz : w.heap.size ≤ w'.heap.size := hbel.size
  have hsame : ∀ b, b < w.heap.size → ¬ L b → w'.heap[b]? = w.heap[b]? := hbel.block
  -- footprints of what came back
  have hnewfp : ∀ k b, liveB (lkB (tbl' i) k) = true → (ρ' k).fp b → (w.heap.size ≤ b ∨ L b) ∧ b < w'.heap.size := by
    intro k b hk hb
    obtain ⟨x, hx, hl⟩ := live_some hk
    have h1 := hl'.blks k x hx
    cases x with
    | box t cs =>
      obtain ⟨b', vs', e, g1, g2, _⟩ := h1
      rw [e] at hb
      have hb : some b' = some b := hb
      cases hb
      exact ⟨g1, (Array.getElem?_eq_some_iff.1 g2).1⟩
    | row e n y l =>
      obtain ⟨xs, g0, gm, g1, _⟩ := h1
      rw [g0] at hb
      have hb : blkOf (ρ' k).v = some b := hb
      have ho : (ρ' k).v.ownBlock = some b := by
        rcases g1.2 with ⟨e, _⟩ | ⟨g, cap, cur, e, _⟩
        · rw [e] at hb; simp [blkOf] at hb
        · rw [e] at hb ⊢; simpa [blkOf, Value.ownBlock] using hb
      exact ⟨gm b ho, (g1.lt b ho).2⟩
    | res R => exact h1.2 b hb
    | dead => cases hl
  let ρn : Nat → RV := mergeR θ ρ' (tbl' i) ρ
  have hat : ∀ k x, lkB (tbl' i) k = some x → (s.lend θ (tbl' i)).tb (θ k) = some (renB θ x) ∧ ρn (θ k) = ρ' k := fun k x h => ⟨mergeT_at hinj' h, mergeR_at hinj' h⟩
  have hor := merge_or θ s.tb ρ ρ' (tbl' i)
  -- a live name of the new table
  have hnl : ∀ j, liveB ((s.lend θ (tbl' i)).tb j) = true → (∃ k, θ k = j ∧ liveB (lkB (tbl' i) k) = true) ∨ ((∀ k x, (k, x) ∈ tbl' i → θ k ≠ j) ∧ liveB (s.tb j) = true ∧ ρn j = ρ j) := by
    intro j hj
    rcases hor j with ⟨k, x, h1, h2⟩ | ⟨h1, h2, h3⟩
    · refine .inl ⟨k, h2, ?_⟩
      subst h2
      rw [(hat k x h1).1] at hj
      rw [h1]
      have : (renB θ x).live = true := hj
      rwa [renB_live] at this
    · exact .inr ⟨h1, by rw [← h2]; exact hj, h3⟩
  -- names that were not lent own nothing that was
  have hfar : ∀ j b, (∀ k x, (k, x) ∈ tbl' i → θ k ≠ j) → liveB (s.tb j) = true → (ρ j).fp b → ¬ L b ∧ b < w.heap.size := by
    intro j b hj hl hb
    obtain ⟨x, hx, hxl⟩ := live_some hl
    refine ⟨fun ⟨k, hk, e⟩ => ?_, (hc.rowBlk hx hxl hb).2⟩
    have := hc.apart j (θ k) b hl (hlive k hk) hb e
    obtain ⟨y, hy, _⟩ := live_some hk
    obtain ⟨z, hz, _⟩ := backOk_at hback hy
    exact hj k z (lkB_mem hz) this.symm
  have hFF : ∀ b, FF X w s.tb ρ b → FF X w' (s.lend θ (tbl' i)).tb ρn b := by
    intro b hb
    refine ⟨hb.1, Nat.lt_of_lt_of_le hb.2.1 hsz, fun j hj e => ?_⟩
    rcases hnl j hj with ⟨k, rfl, hk⟩ | ⟨_, h2, h3⟩
    · obtain ⟨x, hx, _⟩ := live_some hk
      rw [(hat k x hx).2] at e
      rcases (hnewfp k b hk e).1 with h | h
      · have := hb.2.1; omega
      · exact hdisj b hb h
    · rw [h3] at e; exact hb.2.2 j h2 e
  have hFN : ∀ b, FF Y w' (lkB (tbl' i)) ρ' b → FF X w' (s.lend θ (tbl' i)).tb ρn b := by
    intro b hb
    have hm : X.F0 b ∨ X.may b := by
      rcases hb.1 with h | h | ⟨k, hk, e⟩
      · exact h.1
      · exact .inr (.inl (Nat.le_trans hc.below.size h))
      · exact .inr (hmayX k b hk e).1
    refine ⟨hm, hb.2.1, fun j hj e => ?_⟩
    rcases hnl j hj with ⟨k, rfl, hk⟩ | ⟨h1, h2, h3⟩
    · obtain ⟨x, hx, _⟩ := live_some hk
      rw [(hat k x hx).2] at e
      exact hb.2.2 k hk e
    · rw [h3] at e
      obtain ⟨g1, g2⟩ := hfar j b h1 h2 e
      rcases hb.1 with h | h | h
      · exact h.2.2 j h2 e
      · have h : w.heap.size ≤ b := h
        omega
      · exact g1 h
  have hkk : ∀ j x, s.tb j = some x → ∃ x', (s.lend θ (tbl' i)).tb j = some x' ∧ ((x'.kind = x.kind ∧ (ρn j).v = (ρ j).v) ∨ (x' = .dead ∧ x.kind ≠ 0)) := by
    intro j x hx
    rcases hor j with ⟨k, y, h1, h2⟩ | ⟨_, h2, h3⟩
    · subst h2
      obtain ⟨g1, g2⟩ := hat k y h1
      rcases (hfr i).at_ h1 with hk | ⟨hk, _⟩
      · obtain ⟨z, hz⟩ := lentSub_at hsub h1 hk
        have hz' := hliveS k z hz
        rw [hx] at hz'
        simp only [Option.some.injEq] at hz'
        subst hz'
        obtain ⟨y', hy', hkind⟩ := backOk_at hback hz
        rw [h1] at hy'
        cases hy'
        refine ⟨_, g1, ?_⟩
        rcases hkind with hkind | ⟨rfl, hkind⟩
        · by_cases hyl : y.live = true
          · left
            refine ⟨by rw [renB_kind, renB_kind]; exact hkind, ?_⟩
            rw [g2]
            exact hl'.lent k hk (by rw [h1]; exact hyl)
          · cases y <;> simp [Blk.live] at hyl
            right
            refine ⟨rfl, ?_⟩
            rw [renB_kind, ← hkind]; simp [Blk.kind]
        · exact .inr ⟨rfl, by rw [renB_kind]; exact hkind⟩
      · rw [hx] at hk; cases hk
    · exact ⟨x, by rw [← hx]; exact h2, .inl ⟨rfl, congrArg RV.v h3⟩⟩
  have hFsame : ∀ b, FF X w s.tb ρ b → w'.heap[b]? = w.heap[b]? := fun b hb => hsame b hb.2.1 (hdisj b hb)
  have hren : ∀ k x, lkB (tbl' i) k = some x → (s.lend θ (tbl' i)).tb (θ k) = some (renB θ x) ∧ (ρn (θ k)).v = (ρ' k).v := fun k x h => ⟨(hat k x h).1, congrArg RV.v (hat k x h).2⟩
  refine ⟨v, i, ρn, rfl, ⟨hc.size, hc.defers, ?_, fun t => (hc.tmps t).keep hFsame hFF hkk, fun j x hx => ?_, fun j j' b h1 h2 e1 e2 => ?_, fun j hj hl => ?_⟩, hv.ren hFN hren⟩
  · exact hc.below.step hbel.os hbel.tape hbel.output hsz (fun b hb hm => hsame b hb (fun ⟨k, hk, e⟩ => hm (hmayX k b hk e).1))
  · rcases hor j with ⟨k, y, h1, h2⟩ | ⟨h1, h2, h3⟩
    · subst h2
      obtain ⟨g1, g2⟩ := hat k y h1
      have hx' : mergeT θ (tbl' i) s.tb (θ k) = some x := hx
      have g1' : mergeT θ (tbl' i) s.tb (θ k) = some (renB θ y) := g1
      rw [hx'] at g1'
      simp only [Option.some.injEq] at g1'
      subst g1'
      have hb := hl'.blks k y h1
      have hmm : ∀ b, Y.may b → X.may b := by
        rintro b (h | ⟨k, hk, e⟩)
        · exact .inl (Nat.le_trans hc.below.size h)
        · exact (hmayX k b hk e).1
      cases y with
      | box t cs =>
        obtain ⟨b, vs', e, q1, q2, q3, q4⟩ := hb
        exact ⟨b, vs', g2.trans e, hmm b q1, q2, q3.ren hFN hren, q4⟩
      | row e n y l =>
        obtain ⟨xs, q0, qm, q1, q2, q3, q4⟩ := hb
        refine ⟨xs, by rw [g2]; exact q0, fun b hb => hmm b (qm b (by rw [g2] at hb; exact hb)), by rw [g2]; exact q1, q2.keep (fun _ _ => rfl) hFN, q3, q4⟩
      | res R =>
        obtain ⟨q1, q2⟩ := hb
        refine ⟨?_, fun b hb => ?_⟩
        · rw [g2]; exact R.keep _ _ _ _ _ _ (fun _ _ => rfl) hFN (fun _ _ => rfl) q1
        · rw [g2] at hb; exact ⟨hmm b (q2 b hb).1, (q2 b hb).2⟩
      | dead => trivial
    · have hx' : s.tb j = some x := by rw [← h2]; exact hx
      exact (hc.blks j x hx').keep hFsame hFF hkk h3 (fun b hl hf => by
        obtain ⟨q1, q2⟩ := hfar j b h1 (by rw [hx']; exact hl) hf
        exact hsame b q2 q1) hsz
  · rcases hnl j h1 with ⟨k, rfl, hk⟩ | ⟨g1, g2, g3⟩ <;> rcases hnl j' h2 with ⟨k', rfl, hk'⟩ | ⟨g1', g2', g3'⟩
    · obtain ⟨x, hx, _⟩ := live_some hk
      obtain ⟨x', hx', _⟩ := live_some hk'
      rw [(hat k x hx).2] at e1
      rw [(hat k' x' hx').2] at e2
      rw [hl'.apart k k' b hk hk' e1 e2]
    · exfalso
      obtain ⟨x, hx, _⟩ := live_some hk
      rw [(hat k x hx).2] at e1
      rw [g3'] at e2
      obtain ⟨q1, q2⟩ := hfar j' b g1' g2' e2
      rcases (hnewfp k b hk e1).1 with h | h
      · omega
      · exact q1 h
    · exfalso
      obtain ⟨x, hx, _⟩ := live_some hk'
      rw [(hat k' x hx).2] at e2
      rw [g3] at e1
      obtain ⟨q1, q2⟩ := hfar j b g1 g2 e1
      rcases (hnewfp k' b hk' e2).1 with h | h
      · omega
      · exact q1 h
    · rw [g3] at e1; rw [g3'] at e2
      exact hc.apart j j' b g2 g2' e1 e2
  · rcases hnl j hl with ⟨k, rfl, hk⟩ | ⟨g1, g2, g3⟩
    · obtain ⟨x, hx, hxl⟩ := live_some hk
      rw [(hat k x hx).2]
      rcases (hfr i).at_ hx with h | ⟨_, h⟩
      · have e1 := hl'.lent k h hk
        rw [e1]
        obtain ⟨z, hz⟩ := lentSub_at hsub hx h
        obtain ⟨y', hy', hkind⟩ := backOk_at hback hz
        rw [hx] at hy'
        cases hy'
        have hzl : liveB (lkB tbl k) = true := by
          rw [hz]
          rcases hkind with hkind | ⟨rfl, _⟩
          · cases z <;> first | rfl | (cases x <;> simp [Blk.kind] at hkind <;> cases hxl)
          · cases hxl
        exact hc.lent (θ k) hj (hlive k hzl)
      · omega
    · rw [g3]; exact hc.lent j hj g2

/-! ### The rules -/
def thk : List (Nat × Nat) → Nat → Nat → Nat
  | [], c, k => k + c
  | (a, b) :: r, c, k => bif Nat.beq k a then b else thk r c k
variable {N : Nat} {Q : Exit → Act → World → Prop} {ops : Array Oper} {rem : List Nat} {ks : List Itm}
theorem run_enter {f : FuncId} (hf : callable P f = true) {o : Oper} {vs : List Value} {K : Act → World → Prop} {Q' : Exit → Act → World → Prop} (he : (execOp a.eval o).run P w = .ok (.enter f vs.toArray) w) {R : Value → World → Prop}
    (h : Calls P f vs.toArray w fun e w' => ∃ v, e = .returned v ∧ R v w') (hK : ∀ v w', R v w' → K (a.put o.dst v) w') : o.wp P a w K Q' := by
  unfold Oper.wp
  rw [he]
  refine h.mono ?_
  rintro e w' ⟨v, rfl, hr⟩
  exact hK v w' hr
theorem k_acall (θ : Nat → Nat) {d f : Nat} {xs : List Operand} {ts : Array TypeId} {az : List AV} {tbl : List (Nat × Blk)} {ι : Type} {out : ι → AV} {tbl' : ι → List (Nat × Blk)} (hN : Nat.blt d N = true) (hf : callable P f = true) (hr : ACall P f az tbl out tbl') (hx : xs.map s.ev = renAs θ az)
    (htb : TbOk s θ tbl) (hok1 : lendOk1 θ az tbl = true) (hfr : ∀ i, FreshOk s θ (tbl' i)) (hok : ∀ i, lendOk2 θ tbl (tbl' i) = true) (h : ∀ i, Run P X N Q (.ops ops rem :: ks) ((s.lend θ (tbl' i)).put (some d) (renA θ (out i)))) :
    RunK P X N Q ops rem ks (some d) (.call { callee := .value (.func f), args := xs.toArray, argTypes := ts }) s := ⟨fun ty pos aft => ⟨fun hX a w ⟨ρ, hc⟩ => by
  have hcall := hc.acall hX.2 θ hr htb hfr hok1 hok (vs := xs.map a.eval) (by rw [← hx]; exact VRs_args hc rfl)
  refine run_enter hf (vs := xs.map a.eval) (by simp [execOp, resolve, Deferred.ofValue, Act.eval, invoke, run_callFunc hf]) (R := fun v w' => ∃ i ρ', ConcAt X (s.lend θ (tbl' i)) a w' ρ' ∧ VR w' (FF X w' (s.lend θ (tbl' i)).tb ρ') (s.lend θ (tbl' i)).tb ρ' (renA θ (out i)) v) (hcall.mono ?_) ?_
  · rintro e w' ⟨v, i, ρ', he, h1, h2⟩
    exact ⟨v, he, i, ρ', h1, h2⟩
  · rintro v w' ⟨i, ρ', h1, h2⟩
    exact (h i).out hX _ _ ⟨ρ', h1.putO (hN_ok hN hX) h2⟩⟩⟩
/-- One answer. -/
def ACall1 (P : Program) (f : FuncId) (az : List AV) (tbl : List (Nat × Blk)) (out : AV) (tbl' : List (Nat × Blk)) : Prop := ACall P f az tbl (ι := Unit) (fun _ => out) (fun _ => tbl')
theorem k_acall1 (θ : Nat → Nat) {d f : Nat} {xs : List Operand} {ts : Array TypeId} {az : List AV} {tbl : List (Nat × Blk)} {out : AV} {tbl' : List (Nat × Blk)} (hN : Nat.blt d N = true) (hf : callable P f = true) (hr : ACall1 P f az tbl out tbl') (hx : xs.map s.ev = renAs θ az)
    (htb : TbOk s θ tbl) (hok1 : lendOk1 θ az tbl = true) (hfr : FreshOk s θ tbl') (hok : lendOk2 θ tbl tbl' = true) (h : Run P X N Q (.ops ops rem :: ks) ((s.lend θ tbl').put (some d) (renA θ out))) :
    RunK P X N Q ops rem ks (some d) (.call { callee := .value (.func f), args := xs.toArray, argTypes := ts }) s := k_acall θ hN hf hr hx htb hok1 (fun _ => hfr) (fun _ => hok) (fun _ => h)
/-- A return with what was lent. -/
theorem run_retA {fn : Func} {ι : Type} {out : ι → AV} {tbl' : ι → List (Nat × Blk)} (i : ι) (θ : Nat → Nat) {tm : List (Nat × AV)} (hs : SubS s tm (tbl' i) θ) (hr : resA P fn (out i) (mkSta tm (tbl' i))) : Run P X N (QA P X fn out tbl') (.code .ret :: ks) s :=
  run_ret fun a w hc => ⟨.inr rfl, mkSta tm (tbl' i), i, hr, rfl, hs.conc hc⟩
theorem run_endA {fn : Func} {ι : Type} {out : ι → AV} {tbl' : ι → List (Nat × Blk)} (i : ι) (θ : Nat → Nat) {tm : List (Nat × AV)} (hs : SubS s tm (tbl' i) θ) (hr : resA P fn (out i) (mkSta tm (tbl' i))) : Run P X N (QA P X fn out tbl') [] s :=
  run_end fun a w hc => ⟨.inl rfl, mkSta tm (tbl' i), i, hr, rfl, hs.conc hc⟩
theorem resA_tmp {fn : Func} {t : Tmp} (hf : fn.results = #[.tmp t]) {r : AV} (ht : s.tm t = r) : resA P fn r s := by
  intro X a w ⟨ρ0, hc0⟩
  refine ⟨a.tmps.getD t undef, results_tmp hf _ _ _, fun ρ hc => ?_⟩
  have := hc.tmps t
  rwa [ht] at this
theorem resA_none {fn : Func} (hf : fn.results = #[]) : resA P fn (.dat (.tup [])) s := by
  intro X a w ⟨ρ0, hc0⟩
  exact ⟨.tuple #[], results_none hf _ _ _, fun ρ hc => by unfold VR Rep; exact ⟨[], rfl, by unfold Reps; rfl⟩⟩
theorem resA_tmp2 {fn : Func} {t u : Tmp} (hf : fn.results = #[.tmp t, .tmp u]) {r r' : AV} (ht : s.tm t = r) (hu : s.tm u = r') : resA P fn (mkTup [r, r']) s := by
  intro X a w ⟨ρ0, hc0⟩
  refine ⟨_, results_tmp2 hf _ _ _, fun ρ hc => ?_⟩
  have h1 := hc.tmps t
  have h2 := hc.tmps u
  rw [ht] at h1
  rw [hu] at h2
  refine VR_mkTup (vs := [a.tmps.getD t undef, a.tmps.getD u undef]) ?_
  unfold VRs
  refine ⟨_, _, rfl, h1, ?_⟩
  unfold VRs
  exact ⟨_, _, rfl, h2, by unfold VRs; rfl⟩
end
end Go.Proofs.Ytlghpcokbppkfaa

set_option linter.unusedVariables false
/- More rules: own pointers against nil; interface values of own pointers; closures; calls through interfaces; deferred calls. -/
namespace Go.Proofs.Ytlghpcokbppkfaa
open Go.RowKit
set_option linter.unusedSimpArgs false

section
variable {P : Program} {X : Base} {N : Nat} {Q : Exit → Act → World → Prop} {ops : Array Oper} {rem : List Nat} {ks : List Itm} {s s' : Sta} {a : Act} {w w' : World} {ρ : Nat → RV}
/-! ### An address of the call's own is not nil -/
def NilA (i : Bool) (x : AV) : Prop := ∀ (w : World) (F : Nat → Prop) (tb : Nat → Option Blk) (ρ : Nat → RV) (v : Value), VR w F tb ρ x v → nilK i false v
theorem NilA.ptr {k off : Nat} : NilA false (.ptr k off) := fun w F tb ρ v h => by
  unfold VR at h
  obtain ⟨t, cs, b, _, _, rfl⟩ := h
  exact ⟨_, rfl⟩
theorem NilA.iface {t : Nat} {x : AV} : NilA true (.iface t x) := fun w F tb ρ v h => by
  unfold VR at h
  obtain ⟨u, rfl, _⟩ := h
  exact ⟨_, _, rfl⟩
theorem op_cmpNilA {o : Oper} (hd : dstOk X.N o.dst = true) {op : BinOp} {t t' : TypeId} {x : Operand} {c : Value} (ho : o.op = .binOp op t x (.const c) t') {y : AV} (hx : s.ev x = y) {i r : Bool} (hc : isNilC c = some i) (ht : nilT P t = some i) (hn : NilA i y) (hr : cmpN op false = some r) :
    OpS P X o s (s.put o.dst (.dat (.val (.bool r)))) := by
  refine opS_value hd fun a w ρ hcc => ⟨.bool r, ?_, by unfold VR Rep; exact ⟨rfl, trivial⟩⟩
  have h1 := hcc.ev x
  rw [hx] at h1
  have h2 := hn _ _ _ _ _ h1
  have hev : a.eval (.const c) = c := rfl
  have he := run_equal_nil hc ht h2 w
  have hb : (binOp op t (a.eval x) c).run P w = .ok (.bool r) w ∧ (eqGuard op t x (.const c) (a.eval x) c).run P w = .ok () w := by
    unfold isNilC at hc
    generalize a.eval x = v at *
    split at hc
    · cases hc
      obtain ⟨q, rfl⟩ := h2
      unfold cmpN at hr
      split at hr <;> cases hr
      · exact ⟨by show (do pure (.bool (← _)) : Sem Value).run P w = _; simp [he], rfl⟩
      · exact ⟨by show (do pure (.bool (!(← _))) : Sem Value).run P w = _; simp [he], rfl⟩
    · cases hc
      obtain ⟨q, z, rfl⟩ := h2
      unfold cmpN at hr
      split at hr <;> cases hr
      · exact ⟨by show (do pure (.bool (← _)) : Sem Value).run P w = _; simp [he], rfl⟩
      · exact ⟨by show (do pure (.bool (!(← _))) : Sem Value).run P w = _; simp [he], rfl⟩
    · cases hc
  simp [execOp, ho, hev, Sem.run_bind, hb.1, hb.2]
theorem k_cmpNilA {d : Nat} {x : Operand} {op : BinOp} {t t' : Nat} {c : Value} {y : AV} {i r : Bool} (hN : Nat.blt d N = true) (hx : s.ev x = y) (hc : isNilC c = some i) (ht : nilT P t = some i) (hn : NilA i y) (hr : cmpN op false = some r) (h : Run P X N Q (.ops ops rem :: ks) (s.put (some d) (.dat (.val (.bool r))))) : RunK P X N Q ops rem ks (some d) (.binOp op t x (.const c) t') s := k_of hN (fun _ _ _ hd => op_cmpNilA hd rfl hx hc ht hn hr) h
theorem d_cmpNilA {ops : List Oper} {d : Nat} {x : Operand} {op : BinOp} {t t' : Nat} {c : Value} {y : AV} {i r : Bool} (hN : Nat.blt d N = true) (hx : s.ev x = y) (hc : isNilC c = some i) (ht : nilT P t = some i) (hn : NilA i y) (hr : cmpN op false = some r) : TrK P X N ops (some d) (.binOp op t x (.const c) t') (Eff.put (some d) (.dat (.val (.bool r)))) s (s.put (some d) (.dat (.val (.bool r)))) :=
  act_val hN fun s' _ _ _ _ hd hev htb => op_cmpNilA hd rfl ((hev _ (by simp [Op.operands, Call.operands])).trans hx) hc ht hn hr

/-! ### A part of the way by itself: whatever ways lead through it, they end in one state -/
/-- A goal at which a walk stops. -/
structure Hold (p : Prop) : Prop where
  out : p
theorem run_hold (h : Hold (Run P X N Q ks s)) : Run P X N Q ks s := h.out
def QT (X : Base) (T : Sta) : Exit → Act → World → Prop := fun e a w => e = .normal ∧ Conc X T a w
theorem run_stage {c : Code} {s : Sta} (T : Sta) (h : Run P X N (QT X T) [.code c] s) (key : Run P X N Q ks T) : Run P X N Q (.code c :: ks) s := ⟨fun hX a w hc => by
  have h1 : c.wp P (QT X T) a w := wp_mono (h.out hX a w hc) (fun e a w q => by cases e <;> exact q)
  show c.wp P _ a w
  refine wp_mono h1 ?_
  rintro e a' w' ⟨rfl, hc'⟩
  exact key.out hX a' w' hc'⟩
theorem run_stageEnd {s : Sta} {tm : List (Nat × AV)} {tb : List (Nat × Blk)} (θ : Nat → Nat) (h : SubS s tm tb θ) : Run P X N (QT X (mkSta tm tb)) [] s := run_end fun a w hc => ⟨rfl, h.conc hc⟩
end
end Go.Proofs.Ytlghpcokbppkfaa

/- Regions that draw their order: where a guard is not known. -/
namespace Go.Proofs.Ytlghpcokbppkfaa
open Go.RowKit
section
variable {P : Program} {X : Base} {N : Nat} {s s1 : Sta} {ops r : List Oper}
/-- The next operation's guard is decided. -/
structure TrD (P : Program) (X : Base) (N : Nat) (ops : List Oper) (o : Oper) (r : List Oper) (s : Sta) (K : List Eff → Sta → Prop) : Prop where
  out : TrC P X N ops (o :: r) s K
theorem c_pickD {K : List Eff → Sta → Prop} {d : Option Tmp} {op : Op} {ty : TypeId} {pos : String} {aft : Array Edge} {g : Nat} {want b : Bool} {e : Eff} (hb : gA ops s g = .dat (.val (.bool b))) (hw : b = want) (hk : TrK P X N ops d op e s s1) (h : TrC P X N ops r s1 (fun es s' => K (e :: es) s')) : TrD P X N ops ⟨d, op, ty, pos, aft, some (g, want)⟩ r s K := ⟨c_pickY hb hw hk h⟩
theorem c_splitT {K : List Eff → Sta → Prop} {d : Nat} {op : Op} {ty : TypeId} {pos : String} {aft : Array Edge} {g : Nat} {b : Bool} (hb : gA ops s g = .dat (.val (.bool b))) (hN : Nat.blt d N = true) (ht : b = true → TrD P X N ops ⟨some d, op, ty, pos, aft, some (g, true)⟩ r s K)
    (hf : b = false → TrC P X N ops r (s.put (some d) (.dat (.tup []))) (fun es s' => K (Eff.put (some d) (.dat (.tup [])) :: es) s')) : TrC P X N ops (⟨some d, op, ty, pos, aft, some (g, true)⟩ :: r) s K := by
  cases b
  · exact c_passT hb rfl hN (hf rfl)
  · exact (ht rfl).out
theorem c_splitF {K : List Eff → Sta → Prop} {d : Nat} {op : Op} {ty : TypeId} {pos : String} {aft : Array Edge} {g : Nat} {b : Bool} (hb : gA ops s g = .dat (.val (.bool b))) (hN : Nat.blt d N = true) (hf : b = false → TrD P X N ops ⟨some d, op, ty, pos, aft, some (g, false)⟩ r s K)
    (ht : b = true → TrC P X N ops r (s.put (some d) (.dat (.tup []))) (fun es s' => K (Eff.put (some d) (.dat (.tup [])) :: es) s')) : TrC P X N ops (⟨some d, op, ty, pos, aft, some (g, false)⟩ :: r) s K := by
  cases b
  · exact (hf rfl).out
  · exact c_passF hb rfl hN (ht rfl)
end
end Go.Proofs.Ytlghpcokbppkfaa
