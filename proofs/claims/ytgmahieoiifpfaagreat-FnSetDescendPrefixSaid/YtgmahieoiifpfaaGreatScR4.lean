/- Part 4 of what the proof rests on. -/
import Derived.Test.YtgmahieoiifpfaaGreatProg
import Derived.WalkKit
import Derived.Lib.Hide
import Derived.Maps.Own
import Derived.WalkLawsBesides
import Derived.WalkSpells
import Derived.Laws.EntriesVeiled
import Derived.Laws.FloatArith
import Derived.Maps.AppendAt
import Derived.Deep.AppendLies
import Derived.Deep.Draws
import Derived.RegionTactic
import Derived.OrdersHeld
import Derived.Deep.RegionHeld3
import Derived.Deep.DeepCutAuto
import Derived.Deep.QuietTactic
import Derived.BigQuiet
import Derived.Deep.DeepFit
import Derived.Test.YtgmahieoiifpfaaGreatScR1
import Derived.Test.YtgmahieoiifpfaaGreatScR2
import Derived.Test.YtgmahieoiifpfaaGreatScR3
set_option linter.unusedSimpArgs false
set_option linter.unusedVariables false
section
namespace Go.Proofs.YtgmahieoiifpfaaGreat
open Go.RowKit
mutual
def Zie (θ : Nat → Nat) : AV → AV
 | .any => .any
 | .dat d => .dat d
 | .ptr k off => .ptr (θ k) off
 | .own k => .own (θ k)
 | .agg l => .agg (Zg0 θ l)
 | .tup l => .tup (Zg0 θ l)
 | .iface t x => .iface t (Zie θ x)
 | .clo f l => .clo f (Zg0 θ l)
 | .elt k n i off => .elt (θ k) n i off
def Zg0 (θ : Nat → Nat) : List AV → List AV
 | [] => []
 | x :: r => Zie θ x :: Zg0 θ r
end
def Zml (θ : Nat → Nat) : Blk → Blk
 | .box t cs => .box t (Zg0 θ cs)
 | .row e n y l => .row e n y l
 | .res R => .res R
 | .dead => .dead
theorem Zhr (θ : Nat → Nat) (x : Blk) : (Zml θ x).kind = x.kind := by cases x <;> rfl
theorem Zpi (θ : Nat → Nat) (x : Blk) : (Zml θ x).live = x.live := by cases x <;> rfl
section
variable {w w' : World} {F F' : Nat → Prop} {t1 t2 : Nat → Option Blk} {ρ1 ρ2 : Nat → RV} {θ : Nat → Nat}
theorem heldK.ren (K : Nat → Prop) (hk : ∀ k x, t1 k = some x → t2 (θ k) = some (Zml θ x) ∧ (ρ2 (θ k)).v = (ρ1 k).v) {k : Nat} {p : Value → Prop} (h : heldK t1 ρ1 k p) : heldK t2 ρ2 (θ k) p := by
 rcases h with ⟨x, h1, h2, h3⟩ | h1
 ·obtain ⟨g1, g2⟩ := hk k x h1
  exact .inl ⟨_, g1, by rw [Zhr]; exact h2, by rw [g2]; exact h3⟩
 ·exact .inr (hk k _ h1).1
mutual
theorem VR.ren (hs : ∀ b, F b → F' b) (hk : ∀ k x, t1 k = some x → t2 (θ k) = some (Zml θ x) ∧ (ρ2 (θ k)).v = (ρ1 k).v) : ∀ (x : AV) {v : Value}, VR w F t1 ρ1 x v → VR w F' t2 ρ2 (Zie θ x) v
 | .any, v, _ => by unfold Zie VR; trivial
 | .dat d, v, hv => by unfold Zie; unfold VR at hv ⊢; exact hv.keep (fun _ _ => rfl) hs d
 | .ptr k off, v, hv => by
  unfold Zie; unfold VR at hv ⊢
  obtain ⟨t, cs, b, h1, h2, h3⟩ := hv
  obtain ⟨g1, g2⟩ := hk k _ h1
  exact ⟨t, _, b, g1, g2.trans h2, h3⟩
 | .own k, v, hv => by unfold Zie; unfold VR at hv ⊢; exact ⟨hv.1, hv.2.ren (fun _ => True) hk⟩
 | .elt k n i off, v, hv => by unfold Zie; unfold VR at hv ⊢; exact ⟨hv.1, hv.2.ren (fun _ => True) hk⟩
 | .agg l, v, hv => by
  unfold Zie; unfold VR at hv ⊢
  obtain ⟨vs, e, h1, h2⟩ := hv
  exact ⟨vs, e, VRs.ren hs hk l h1, h2⟩
 | .tup l, v, hv => by
  unfold Zie; unfold VR at hv ⊢
  obtain ⟨vs, e, h1⟩ := hv
  exact ⟨vs, e, VRs.ren hs hk l h1⟩
 | .iface t x, v, hv => by
  unfold Zie; unfold VR at hv ⊢
  obtain ⟨u, e, h1⟩ := hv
  exact ⟨u, e, VR.ren hs hk x h1⟩
 | .clo f l, v, hv => by
  unfold Zie; unfold VR at hv ⊢
  obtain ⟨vs, e, h1⟩ := hv
  exact ⟨vs, e, VRs.ren hs hk l h1⟩
theorem VRs.ren (hs : ∀ b, F b → F' b) (hk : ∀ k x, t1 k = some x → t2 (θ k) = some (Zml θ x) ∧ (ρ2 (θ k)).v = (ρ1 k).v) : ∀ (l : List AV) {vs : List Value}, VRs w F t1 ρ1 l vs → VRs w F' t2 ρ2 (Zg0 θ l) vs
 | [], vs, hv => by unfold Zg0; unfold VRs at hv ⊢; exact hv
 | x :: r, vs, hv => by
  unfold Zg0; unfold VRs at hv ⊢
  obtain ⟨v, q, e, h1, h2⟩ := hv
  exact ⟨v, q, e, VR.ren hs hk x h1, VRs.ren hs hk r h2⟩
end
theorem heldK.ner (K : Nat → Prop) (hk : ∀ k, K k → ∃ x, t1 k = some x ∧ t2 (θ k) = some (Zml θ x) ∧ (ρ2 (θ k)).v = (ρ1 k).v) {k : Nat} (hK : K k) {p : Value → Prop} (h : heldK t2 ρ2 (θ k) p) : heldK t1 ρ1 k p := by
 obtain ⟨x, g0, g1, g2⟩ := hk k hK
 rcases h with ⟨y, h1, h2, h3⟩ | h1
 ·rw [g1] at h1
  cases h1
  rw [Zhr] at h2
  exact .inl ⟨x, g0, h2, by rw [← g2]; exact h3⟩
 ·rw [g1] at h1
  simp only [Option.some.injEq] at h1
  refine .inr ?_
  cases x <;> simp [Zml] at h1
  exact g0
mutual
theorem VR.ner (K : Nat → Prop) (hs : ∀ b, F b → F' b) (hk : ∀ k, K k → ∃ x, t1 k = some x ∧ t2 (θ k) = some (Zml θ x) ∧ (ρ2 (θ k)).v = (ρ1 k).v) : ∀ (x : AV) {v : Value}, (∀ k ∈ Zbq x, K k) → VR w F t2 ρ2 (Zie θ x) v → VR w F' t1 ρ1 x v
 | .any, v, _, _ => by unfold VR; trivial
 | .dat d, v, _, hv => by unfold Zie at hv; unfold VR at hv ⊢; exact hv.keep (fun _ _ => rfl) hs d
 | .ptr k off, v, hK, hv => by
  unfold Zie at hv; unfold VR at hv ⊢
  obtain ⟨t, cs, b, h1, h2, h3⟩ := hv
  obtain ⟨x, g0, g1, g2⟩ := hk k (hK k (by simp [Zbq]))
  rw [g1] at h1
  cases x <;> simp [Zml] at h1
  exact ⟨_, _, b, g0, g2.symm.trans h2, h3⟩
 | .own k, v, hK, hv => by unfold Zie at hv; unfold VR at hv ⊢; exact ⟨hv.1, hv.2.ner K hk (hK k (by simp [Zbq]))⟩
 | .elt k n i off, v, hK, hv => by unfold Zie at hv; unfold VR at hv ⊢; exact ⟨hv.1, hv.2.ner K hk (hK k (by simp [Zbq]))⟩
 | .agg l, v, hK, hv => by
  unfold Zie at hv; unfold VR at hv ⊢
  obtain ⟨vs, e, h1, h2⟩ := hv
  exact ⟨vs, e, VRs.ner K hs hk l (fun k h => hK k (by simpa [Zbq] using h)) h1, h2⟩
 | .tup l, v, hK, hv => by
  unfold Zie at hv; unfold VR at hv ⊢
  obtain ⟨vs, e, h1⟩ := hv
  exact ⟨vs, e, VRs.ner K hs hk l (fun k h => hK k (by simpa [Zbq] using h)) h1⟩
 | .iface t x, v, hK, hv => by
  unfold Zie at hv; unfold VR at hv ⊢
  obtain ⟨u, e, h1⟩ := hv
  exact ⟨u, e, VR.ner K hs hk x (fun k h => hK k (by simpa [Zbq] using h)) h1⟩
 | .clo f l, v, hK, hv => by
  unfold Zie at hv; unfold VR at hv ⊢
  obtain ⟨vs, e, h1⟩ := hv
  exact ⟨vs, e, VRs.ner K hs hk l (fun k h => hK k (by simpa [Zbq] using h)) h1⟩
theorem VRs.ner (K : Nat → Prop) (hs : ∀ b, F b → F' b) (hk : ∀ k, K k → ∃ x, t1 k = some x ∧ t2 (θ k) = some (Zml θ x) ∧ (ρ2 (θ k)).v = (ρ1 k).v) : ∀ (l : List AV) {vs : List Value}, (∀ k ∈ Zcy l, K k) → VRs w F t2 ρ2 (Zg0 θ l) vs → VRs w F' t1 ρ1 l vs
 | [], vs, _, hv => by unfold Zg0 at hv; unfold VRs at hv ⊢; exact hv
 | x :: r, vs, hK, hv => by
  unfold Zg0 at hv; unfold VRs at hv ⊢
  obtain ⟨v, q, e, h1, h2⟩ := hv
  exact ⟨v, q, e, VR.ner K hs hk x (fun k h => hK k (by simp only [Zcy, List.mem_append]; exact .inl h)) h1, VRs.ner K hs hk r (fun k h => hK k (by simp only [Zcy, List.mem_append]; exact .inr h)) h2⟩
end
end
structure Ya0 (X : Base) (tb : Nat → Option Blk) (w : World) (ρ : Nat → RV) : Prop where
 blks : ∀ k x, tb k = some x → BR X w tb ρ k x
 apart : ∀ k k' b, Za6 (tb k) = true → Za6 (tb k') = true → (ρ k).fp b → (ρ k').fp b → k = k'
 lent : ∀ k, 1000 ≤ k → Za6 (tb k) = true → (ρ k).v = X.rv k
def Zif (P : Program) (f : FuncId) (az : List AV) (tbl : List (Nat × Blk)) {ι : Type} (out : ι → AV) (tbl' : ι → List (Nat × Blk)) : Prop :=
 ∀ (X : Base) (ρ : Nat → RV) (vs : List Value), X.P = P → (∀ b, X.L b ↔ ∃ k, Za6 (lkB tbl k) = true ∧ (ρ k).fp b) → (∀ b, X.F0 b → ¬ X.L b) → Ya0 X (lkB tbl) X.w0 ρ → VRs X.w0 (FF X X.w0 (lkB tbl) ρ) (lkB tbl) ρ az vs →
  Calls P f vs.toArray X.w0 fun e w' => ∃ v i ρ', e = .returned v ∧ Bel X w' ∧ Ya0 X (lkB (tbl' i)) w' ρ' ∧ VR w' (FF X w' (lkB (tbl' i)) ρ') (lkB (tbl' i)) ρ' (out i) v
def Ylx (az : List AV) (tbl : List (Nat × Blk)) : Sta := { tm := fun i => match az[i]? with | some x => x | none => .any, tb := lkB tbl }
def Yox (P : Program) (fn : Func) (r : AV) (s : Sta) : Prop := ∀ X a w, Conc X s a w → ∃ v, (results fn a.tmps).run P w = .ok v w ∧ ∀ ρ, ConcAt X s a w ρ → VR w (FF X w s.tb ρ) s.tb ρ r v
def QA (P : Program) (X : Base) (fn : Func) {ι : Type} (out : ι → AV) (tbl' : ι → List (Nat × Blk)) : Exit → Act → World → Prop :=
 fun e a w => (e = .normal ∨ e = .ret) ∧ ∃ s i, Yox P fn (out i) s ∧ s.tb = lkB (tbl' i) ∧ Conc X s a w
def Znc : List (Nat × Blk) → Bool
 | [] => true
 | (k, _) :: r => Nat.ble 1000 k && Znc r
theorem Zks : ∀ {l : List (Nat × Blk)}, Znc l = true → ∀ k x, lkB l k = some x → 1000 ≤ k
 | [], _, k, x, h => by simp [lkB] at h
 | (q, y) :: r, hl, k, x, h => by
  simp only [Znc, Bool.and_eq_true] at hl
  unfold lkB at h
  split at h
  ·rename_i e; subst e; exact Nat.le_of_ble_eq_true hl.1
  ·exact Zks hl.2 k x h
theorem Zar {P : Program} {f : FuncId} {fn : Func} {c : Code} {N : Nat} {az : List AV} {tbl : List (Nat × Blk)} {ι : Type} {out : ι → AV} {tbl' : ι → List (Nat × Blk)} (hf : P.funcs[f]? = some fn) (hb : fn.body = some c) (hN : fn.ntmps = N)
  (hle : (Nat.ble az.length N && Nat.ble N 1000) = true) (h : ∀ (X : Base), Run P X N (QA P X fn out tbl') [.code c] (Ylx az tbl)) : Zif P f az tbl out tbl' := by
 intro X0 ρ vs hP hL hFL hlie hvs
 refine calls_of_wp_defers hf hb ?_
 have hlen := hvs.length
 simp only [Bool.and_eq_true] at hle
 have hle1 := Nat.le_of_ble_eq_true hle.2
 have hle := Nat.le_of_ble_eq_true hle.1
 let X : Base := { w0 := X0.w0, F0 := X0.F0, L := X0.L, B := X0.B, N := N, P := P, rv := X0.rv, hF0 := X0.hF0, hB := X0.hB, hN := hle1, hLB := X0.hLB }
 have hsz : vs.toArray.size = az.length := by simpa using hlen
 have hc : Conc X (Ylx az tbl) { tmps := vs.toArray ++ Array.replicate (fn.ntmps - vs.toArray.size) undef, defers := [] } X0.w0 := by
  refine ⟨ρ, by simp [X]; omega, (fun d hd => by cases hd), Bel.refl X, fun t => ?_, hlie.blks, hlie.apart, hlie.lent⟩
  show VR _ _ _ _ (match az[t]? with | some x => x | none => .any) _
  cases hd : az[t]? with
  | none => simp only; unfold VR; trivial
  | some d =>
   simp only
   obtain ⟨v, hv, hr⟩ := hvs.at_ hd
   have hlt : t < vs.length := (List.getElem?_eq_some_iff.1 hv).1
   have : (vs.toArray ++ Array.replicate (fn.ntmps - vs.toArray.size) undef).getD t undef = v := by
    rw [Array.getD_eq_getD_getElem?, Array.getElem?_append_left (by simpa using hlt)]
    simp [hv]
   rw [this]
   exact hr
 have hrun := (h X).out ⟨rfl, rfl⟩ _ _ hc
 refine wp_mono hrun ?_
 rintro e a' w' ⟨he, s', i, hres, htb, hcon⟩
 have hpost : Leaves P fn a'.tmps (fun e w' => ∃ v i ρ', e = .returned v ∧ Bel X0 w' ∧ Ya0 X0 (lkB (tbl' i)) w' ρ' ∧ VR w' (FF X0 w' (lkB (tbl' i)) ρ') (lkB (tbl' i)) ρ' (out i) v) a'.defers .returning w' := by
  obtain ⟨ρ0, hρ0⟩ := hcon
  refine Zgp hρ0.defers fun w'' hb'' => ?_
  have hρ := hρ0.grow hb''
  obtain ⟨v, hv, hrep⟩ := hres X a' w'' ⟨ρ0, hρ⟩
  have h1 := hrep ρ0 hρ
  rw [htb] at h1
  refine ⟨v, hv, v, i, ρ0, rfl, ⟨hρ.below.os, hρ.below.tape, hρ.below.output, hρ.below.size, hρ.below.block⟩, ⟨?_, ?_, ?_⟩, h1⟩
  ·intro k x hk; have := hρ.blks k x (by rw [htb]; exact hk); rw [htb] at this; exact this
  ·intro k k' b h1 h2; exact hρ.apart k k' b (by rw [htb]; exact h1) (by rw [htb]; exact h2)
  ·intro k hk h1; exact hρ.lent k hk (by rw [htb]; exact h1)
 rcases he with rfl | rfl <;> exact hpost
end Go.Proofs.YtgmahieoiifpfaaGreat
namespace Go.Proofs.YtgmahieoiifpfaaGreat
open Go.RowKit
def Zmf (θ : Nat → Nat) : List (Nat × Blk) → (Nat → Option Blk) → Nat → Option Blk
 | [], tb => tb
 | (k, x) :: r, tb => upd (Zmf θ r tb) (θ k) (some (Zml θ x))
def Zqu (θ : Nat → Nat) (ρ' : Nat → RV) : List (Nat × Blk) → (Nat → RV) → Nat → RV
 | [], ρ => ρ
 | (k, _) :: r, ρ => upd (Zqu θ ρ' r ρ) (θ k) (ρ' k)
def Sta.lend (s : Sta) (θ : Nat → Nat) (l : List (Nat × Blk)) : Sta := { tm := s.tm, tb := Zmf θ l s.tb }
def TbOk (s : Sta) (θ : Nat → Nat) : List (Nat × Blk) → Prop
 | [] => True
 | (k, x) :: r => s.tb (θ k) = some (Zml θ x) ∧ TbOk s θ r
def FreshOk (s : Sta) (θ : Nat → Nat) : List (Nat × Blk) → Prop
 | [] => True
 | (k, _) :: r => (Nat.ble 1000 k = true ∨ (s.tb (θ k) = none ∧ Nat.blt (θ k) 1000 = true)) ∧ FreshOk s θ r
def Yd4 (s : Sta) (θ : Nat → Nat) : List (Nat × Blk) → Bool
 | [] => true
 | (k, _) :: r => (Nat.ble 1000 k || ((s.tb (θ k)).isNone && Nat.blt (θ k) 1000)) && Yd4 s θ r
theorem Zai {s : Sta} {θ : Nat → Nat} : ∀ {l : List (Nat × Blk)}, Yd4 s θ l = true → FreshOk s θ l
 | [], _ => trivial
 | (k, _) :: r, h => by
  simp only [Yd4, Bool.and_eq_true, Bool.or_eq_true] at h
  exact ⟨h.1.imp id (fun h => ⟨Option.isNone_iff_eq_none.1 h.1, h.2⟩), Zai h.2⟩
def Yq4 (l : List (Nat × Blk)) (k : Nat) : Bool := (lkB l k).isSome
def Zx7 (l' : List (Nat × Blk)) : List (Nat × Blk) → Bool
 | [] => true
 | (k, x) :: r => (match lkB l' k with | some y => Nat.beq y.kind x.kind || (Nat.beq y.kind 2 && !Nat.beq x.kind 0) | none => false) && Zx7 l' r
def Zsn (l : List (Nat × Blk)) : List (Nat × Blk) → Bool
 | [] => true
 | (k, _) :: r => (Nat.blt k 1000 || Yq4 l k) && Zsn l r
def Zgq (θ : Nat → Nat) (az : List AV) (l : List (Nat × Blk)) : Bool := Znc l && Zsd θ l && Zf0 l l && (Zcy az).all (fun k => (l.map (·.1)).contains k)
def Zgr (θ : Nat → Nat) (l l' : List (Nat × Blk)) : Bool := Zsd θ l' && Zx7 l' l && Zsn l l'
theorem Zfh : ∀ {l : List (Nat × Blk)} {k : Nat} {x : Blk}, lkB l k = some x → (k, x) ∈ l
 | [], _, _, h => by simp [lkB] at h
 | (q, y) :: r, k, x, h => by
  unfold lkB at h
  split at h
  ·rename_i e; subst e; simp only [Option.some.injEq] at h; subst h; exact List.mem_cons_self ..
  ·exact List.mem_cons_of_mem _ (Zfh h)
theorem Zso : ∀ {l : List (Nat × Blk)} {k : Nat} {x : Blk}, (k, x) ∈ l → ∃ y, lkB l k = some y
 | (q, y) :: r, k, x, h => by
  unfold lkB
  split
  ·exact ⟨_, rfl⟩
  ·rename_i hne
   rcases List.mem_cons.1 h with h | h
   ·cases h; exact absurd rfl hne
   ·exact Zso h
theorem Zi5 {θ : Nat → Nat} : ∀ {l : List (Nat × Blk)}, Zsd θ l = true → ∀ {k k' : Nat} {b b' : Blk}, (k, b) ∈ l → (k', b') ∈ l → θ k = θ k' → k = k'
 | [], _, _, _, _, _, h, _, _ => by cases h
 | (t', y) :: r, hl, k, k', b, b', h, h', e => by
  simp only [Zsd, Bool.and_eq_true] at hl
  have key : ∀ k2 b2, (k2, b2) ∈ r → θ t' = θ k2 → t' = k2 := by
   intro k2 b2 hm he
   have := List.all_eq_true.1 hl.1 (k2, b2) hm
   simp only [Bool.or_eq_true, Bool.not_eq_true'] at this
   rcases this with h1 | h1
   ·rw [he, Nat.beq_refl] at h1; cases h1
   ·exact Nat.eq_of_beq_eq_true h1
  rcases List.mem_cons.1 h with h1 | h1 <;> rcases List.mem_cons.1 h' with h2 | h2
  ·cases h1; cases h2; rfl
  ·cases h1; exact key _ _ h2 e
  ·cases h2; exact (key _ _ h1 e.symm).symm
  ·exact Zi5 hl.2 h1 h2 e
theorem Zu7 {θ : Nat → Nat} {tb : Nat → Option Blk} : ∀ {l : List (Nat × Blk)}, Zsd θ l = true → ∀ {k : Nat} {x : Blk}, lkB l k = some x → Zmf θ l tb (θ k) = some (Zml θ x)
 | [], _, k, x, h => by simp [lkB] at h
 | (q, y) :: r, hl, k, x, h => by
  have hm := Zfh h
  unfold lkB at h
  unfold Zmf
  split at h
  ·rename_i e; subst e; simp only [Option.some.injEq] at h; subst h; exact Zah _ _ _
  ·rename_i hne
   rw [Zaw _ _ (fun e => hne (Zi5 hl hm (List.mem_cons_self ..) e))]
   simp only [Zsd, Bool.and_eq_true] at hl
   exact Zu7 hl.2 h
theorem Zu6 {θ : Nat → Nat} {ρ ρ' : Nat → RV} : ∀ {l : List (Nat × Blk)}, Zsd θ l = true → ∀ {k : Nat} {x : Blk}, lkB l k = some x → Zqu θ ρ' l ρ (θ k) = ρ' k
 | [], _, k, x, h => by simp [lkB] at h
 | (q, y) :: r, hl, k, x, h => by
  have hm := Zfh h
  unfold lkB at h
  unfold Zqu
  split at h
  ·rename_i e; subst e; exact Zah _ _ _
  ·rename_i hne
   rw [Zaw _ _ (fun e => hne (Zi5 hl hm (List.mem_cons_self ..) e))]
   simp only [Zsd, Bool.and_eq_true] at hl
   exact Zu6 hl.2 h
theorem Zzt (θ : Nat → Nat) (tb : Nat → Option Blk) (ρ ρ' : Nat → RV) : ∀ (l : List (Nat × Blk)) (j : Nat), (∃ k x, lkB l k = some x ∧ θ k = j) ∨ ((∀ k x, (k, x) ∈ l → θ k ≠ j) ∧ Zmf θ l tb j = tb j ∧ Zqu θ ρ' l ρ j = ρ j)
 | [], j => .inr ⟨(fun _ _ h => by cases h), rfl, rfl⟩
 | (q, y) :: r, j => by
  by_cases e : θ q = j
  ·exact .inl ⟨q, y, by simp [lkB], e⟩
  ·rcases Zzt θ tb ρ ρ' r j with ⟨k, x, h1, h2⟩ | ⟨h1, h2, h3⟩
   ·refine .inl ⟨k, x, ?_, h2⟩
    unfold lkB
    rw [if_neg (fun e' => e (by rw [← e']; exact h2))]
    exact h1
   ·refine .inr ⟨fun k x hm => ?_, ?_, ?_⟩
    ·rcases List.mem_cons.1 hm with h | h
     ·cases h; exact e
     ·exact h1 k x h
    ·unfold Zmf; rw [Zaw _ _ (Ne.symm e)]; exact h2
    ·unfold Zqu; rw [Zaw _ _ (Ne.symm e)]; exact h3
theorem TbOk.at_ {s : Sta} {θ : Nat → Nat} : ∀ {l : List (Nat × Blk)}, TbOk s θ l → ∀ {k : Nat} {x : Blk}, lkB l k = some x → s.tb (θ k) = some (Zml θ x)
 | [], _, k, x, h => by simp [lkB] at h
 | (q, y) :: r, hl, k, x, h => by
  unfold lkB at h
  split at h
  ·rename_i e; subst e; simp only [Option.some.injEq] at h; subst h; exact hl.1
  ·exact TbOk.at_ hl.2 h
theorem FreshOk.at_ {s : Sta} {θ : Nat → Nat} : ∀ {l : List (Nat × Blk)}, FreshOk s θ l → ∀ {k : Nat} {x : Blk}, lkB l k = some x → 1000 ≤ k ∨ (s.tb (θ k) = none ∧ θ k < 1000)
 | [], _, k, x, h => by simp [lkB] at h
 | (q, y) :: r, hl, k, x, h => by
  unfold lkB at h
  split at h
  ·rename_i e; subst e; exact hl.1.imp Nat.le_of_ble_eq_true (fun h => ⟨h.1, Nat.blt_eq.mp h.2⟩)
  ·exact FreshOk.at_ hl.2 h
theorem Zkb {l' : List (Nat × Blk)} : ∀ {l : List (Nat × Blk)}, Zx7 l' l = true → ∀ {k : Nat} {x : Blk}, lkB l k = some x → ∃ y, lkB l' k = some y ∧ (y.kind = x.kind ∨ (y = .dead ∧ x.kind ≠ 0))
 | [], _, k, x, h => by simp [lkB] at h
 | (q, y) :: r, hl, k, x, h => by
  simp only [Zx7, Bool.and_eq_true] at hl
  unfold lkB at h
  split at h
  ·rename_i e; subst e; simp only [Option.some.injEq] at h; subst h
   have h1 := hl.1
   split at h1
   ·rename_i z hz
    refine ⟨z, hz, ?_⟩
    simp only [Bool.or_eq_true, Bool.and_eq_true, Bool.not_eq_true'] at h1
    rcases h1 with h1 | ⟨h1, h2⟩
    ·exact .inl (Nat.eq_of_beq_eq_true h1)
    ·right
     have e2 := Nat.eq_of_beq_eq_true h1
     have e4 : z = .dead := by cases z <;> first | rfl | (simp [Blk.kind] at e2)
     refine ⟨e4, fun e3 => ?_⟩
     rw [e3] at h2; simp at h2
   ·cases h1
  ·exact Zkb hl.2 h
theorem Zl0 {l : List (Nat × Blk)} : ∀ {l' : List (Nat × Blk)}, Zsn l l' = true → ∀ {k : Nat} {x : Blk}, lkB l' k = some x → 1000 ≤ k → ∃ y, lkB l k = some y
 | [], _, k, x, h, _ => by simp [lkB] at h
 | (q, y) :: r, hl, k, x, h, hk => by
  simp only [Zsn, Bool.and_eq_true, Bool.or_eq_true] at hl
  unfold lkB at h
  split at h
  ·rename_i e; subst e
   rcases hl.1 with h1 | h1
   ·have := Nat.blt_eq.mp h1; omega
   ·exact Option.isSome_iff_exists.1 h1
  ·exact Zl0 hl.2 h hk
theorem Zqp {l0 : List (Nat × Blk)} : ∀ {l : List (Nat × Blk)}, Zf0 l0 l = true → ∀ {k t : Nat} {cs : List AV}, lkB l k = some (.box t cs) → ∀ k' ∈ Zcy cs, ∃ y, lkB l0 k' = some y
 | [], _, k, t, cs, h => by simp [lkB] at h
 | (q, y) :: r, hl, k, t, cs, h => by
  unfold lkB at h
  split at h
  ·rename_i e; subst e; simp only [Option.some.injEq] at h; subst h
   simp only [Zf0, Bool.and_eq_true] at hl
   intro k' hk'
   have := List.all_eq_true.1 hl.1 k' hk'
   simp only [List.contains_iff_mem, List.mem_map] at this
   obtain ⟨p, hp, rfl⟩ := this
   exact Zso (x := p.2) hp
  ·have : Zf0 l0 r = true := by
    cases y <;> simp only [Zf0, Bool.and_eq_true] at hl <;> first | exact hl.2 | exact hl
   exact Zqp this h
section
variable {P : Program} {X : Base} {s s' : Sta} {a : Act} {w w' : World} {ρ : Nat → RV}
theorem Zhv (h : ConcAt X s a w ρ) : ∀ {xs : List Operand} {az : List AV}, xs.map s.ev = az → VRs w (FF X w s.tb ρ) s.tb ρ az (xs.map a.eval)
 | [], _, e => by subst e; simp [VRs]
 | x :: r, _, e => by
  subst e
  simp only [List.map_cons]
  unfold VRs
  exact ⟨_, _, rfl, h.ev x, Zhv h rfl⟩
theorem ConcAt.acall (hc : ConcAt X s a w ρ) (hP : X.P = P) {f : FuncId} {az : List AV} {tbl : List (Nat × Blk)} {ι : Type} {out : ι → AV} {tbl' : ι → List (Nat × Blk)} (θ : Nat → Nat) (hr : Zif P f az tbl out tbl') (htb : TbOk s θ tbl)
  (hfr : ∀ i, FreshOk s θ (tbl' i)) (hok1 : Zgq θ az tbl = true) (hok : ∀ i, Zgr θ tbl (tbl' i) = true) {vs : List Value} (hvs : VRs w (FF X w s.tb ρ) s.tb ρ (Zg0 θ az) vs) :
  Calls P f vs.toArray w fun e w' => ∃ v i ρ', e = .returned v ∧ ConcAt X (s.lend θ (tbl' i)) a w' ρ' ∧ VR w' (FF X w' (s.lend θ (tbl' i)).tb ρ') (s.lend θ (tbl' i)).tb ρ' (Zie θ (out i)) v := by
 simp only [Zgq, Bool.and_eq_true] at hok1
 obtain ⟨⟨⟨hlk, hinj⟩, hkb⟩, hka⟩ := hok1
 have hlk := Zks hlk
 let L : Nat → Prop := fun b => ∃ k, Za6 (lkB tbl k) = true ∧ (ρ (θ k)).fp b
 have hLBY : ∀ b, L b → X.B ≤ b := fun b ⟨k, hk, hb⟩ => by
  obtain ⟨x, hx, hl⟩ := Zbd hk
  exact Base.mayB (hc.rowBlk (htb.at_ hx) (by rw [Zpi]; exact hl) hb).1
 let Y : Base := { w0 := w, F0 := FF X w s.tb ρ, L := L, B := X.B, N := 0, P := P, rv := fun k => (ρ (θ k)).v, hF0 := fun b hb => hb.2.1, hB := hc.below.sizeB, hN := by omega, hLB := hLBY }
 have hliveS : ∀ k x, lkB tbl k = some x → s.tb (θ k) = some (Zml θ x) := fun k x h => htb.at_ h
 have hlive : ∀ k, Za6 (lkB tbl k) = true → Za6 (s.tb (θ k)) = true := by
  intro k h
  obtain ⟨x, hx, hl⟩ := Zbd h
  rw [hliveS k x hx]
  show (Zml θ x).live = true
  rw [Zpi]; exact hl
 have hmayX : ∀ k b, Za6 (lkB tbl k) = true → (ρ (θ k)).fp b → X.may b ∧ b < w.heap.size := by
  intro k b h hb
  obtain ⟨x, hx, hl⟩ := Zbd (hlive k h)
  exact hc.rowBlk hx hl hb
 have hFY : ∀ b, FF X w s.tb ρ b → FF Y w (lkB tbl) (fun k => ρ (θ k)) b := fun b hb => ⟨.inl hb, hb.2.1, fun k hk e => hb.2.2 (θ k) (hlive k hk) e⟩
 have hdisj : ∀ b, FF X w s.tb ρ b → ¬ L b := fun b hb ⟨k, hk, e⟩ => hb.2.2 (θ k) (hlive k hk) e
 have hnk : ∀ k, (∃ x, lkB tbl k = some x) → ∃ x, lkB tbl k = some x ∧ s.tb (θ k) = some (Zml θ x) ∧ (ρ (θ k)).v = ((fun k => ρ (θ k)) k).v := fun k ⟨x, hx⟩ => ⟨x, hx, hliveS k x hx, rfl⟩
 have hlie : Ya0 Y (lkB tbl) w (fun k => ρ (θ k)) := by
  refine ⟨fun k x hx => ?_, fun k k' b h1 h2 e1 e2 => ?_, fun k _ _ => rfl⟩
  ·have h1 := hc.blks (θ k) _ (hliveS k x hx)
   cases x with
   | box t cs =>
    obtain ⟨b, vs, e, g1, g2, g3, g4⟩ := h1
    refine ⟨b, vs, e, .inr ⟨k, by rw [hx]; rfl, by rw [e]; rfl⟩, g2, VRs.ner (fun k => ∃ x, lkB tbl k = some x) hFY hnk cs (fun k' hk' => Zqp hkb hx k' hk') g3, g4⟩
   | row e n y l =>
    obtain ⟨xs, g0, gm, g1, g2, g3, g4⟩ := h1
    refine ⟨xs, g0, fun b hb => .inr ⟨k, by rw [hx]; rfl, ?_⟩, g1, g2.keep (fun _ _ => rfl) hFY, g3, g4⟩
    show (ρ (θ k)).fp b
    rw [g0]; exact Zo9 hb
   | res R =>
    obtain ⟨g1, g2⟩ := h1
    exact ⟨R.keep _ _ _ _ _ _ (fun _ _ => rfl) hFY (fun _ _ => rfl) g1, fun b hb => ⟨.inr ⟨k, by rw [hx]; rfl, hb⟩, (g2 b hb).2⟩⟩
   | dead => trivial
  ·obtain ⟨x, hx, _⟩ := Zbd h1
   obtain ⟨x', hx', _⟩ := Zbd h2
   exact Zi5 hinj (Zfh hx) (Zfh hx') (hc.apart (θ k) (θ k') b (hlive k h1) (hlive k' h2) e1 e2)
 have hargs : VRs w (FF Y w (lkB tbl) (fun k => ρ (θ k))) (lkB tbl) (fun k => ρ (θ k)) az vs := by
  refine VRs.ner (fun k => ∃ x, lkB tbl k = some x) hFY hnk az (fun k hk => ?_) hvs
  have := List.all_eq_true.1 hka k hk
  simp only [List.contains_iff_mem, List.mem_map] at this
  obtain ⟨p, hp, rfl⟩ := this
  exact Zso (x := p.2) hp
 refine (hr Y (fun k => ρ (θ k)) vs rfl (fun b => Iff.rfl) hdisj hlie hargs).mono ?_
 rintro e w' ⟨v, i, ρ', rfl, hbel, hl', hv⟩
 have hokI := hok i
 simp only [Zgr, Bool.and_eq_true] at hokI
 obtain ⟨⟨hinj', hback⟩, hsub⟩ := hokI
 have hsz : w.heap.size ≤ w'.heap.size := hbel.size
 have hsame : ∀ b, b < w.heap.size → ¬ L b → w'.heap[b]? = w.heap[b]? := hbel.block
 -- footprints of what came back
 have hnewfp : ∀ k b, Za6 (lkB (tbl' i) k) = true → (ρ' k).fp b → (w.heap.size ≤ b ∨ L b) ∧ b < w'.heap.size := by
  intro k b hk hb
  obtain ⟨x, hx, hl⟩ := Zbd hk
  have h1 := hl'.blks k x hx
  cases x with
  | box t cs =>
   obtain ⟨b', vs', e, g1, g2, _⟩ := h1
   rw [e] at hb
   have hb : some b' = some b := hb
   cases hb
   exact ⟨g1, (Array.getElem?_eq_some_iff.1 g2).1⟩
  | row e n y l =>
   obtain ⟨xs, g0, gm, g1, _⟩ := h1
   rw [g0] at hb
   have hb : Zdo (ρ' k).v = some b := hb
   have ho : (ρ' k).v.ownBlock = some b := by
    rcases g1.2 with ⟨e, _⟩ | ⟨g, cap, cur, e, _⟩
    ·rw [e] at hb; simp [Zdo] at hb
    ·rw [e] at hb ⊢; simpa [Zdo, Value.ownBlock] using hb
   exact ⟨gm b ho, (g1.lt b ho).2⟩
  | res R => exact h1.2 b hb
  | dead => cases hl
 let ρn : Nat → RV := Zqu θ ρ' (tbl' i) ρ
 have hat : ∀ k x, lkB (tbl' i) k = some x → (s.lend θ (tbl' i)).tb (θ k) = some (Zml θ x) ∧ ρn (θ k) = ρ' k := fun k x h => ⟨Zu7 hinj' h, Zu6 hinj' h⟩
 have hor := Zzt θ s.tb ρ ρ' (tbl' i)
 -- a live name of the new table
 have hnl : ∀ j, Za6 ((s.lend θ (tbl' i)).tb j) = true → (∃ k, θ k = j ∧ Za6 (lkB (tbl' i) k) = true) ∨ ((∀ k x, (k, x) ∈ tbl' i → θ k ≠ j) ∧ Za6 (s.tb j) = true ∧ ρn j = ρ j) := by
  intro j hj
  rcases hor j with ⟨k, x, h1, h2⟩ | ⟨h1, h2, h3⟩
  ·refine .inl ⟨k, h2, ?_⟩
   subst h2
   rw [(hat k x h1).1] at hj
   rw [h1]
   have : (Zml θ x).live = true := hj
   rwa [Zpi] at this
  ·exact .inr ⟨h1, by rw [← h2]; exact hj, h3⟩
 -- names that were not lent own nothing that was
 have hfar : ∀ j b, (∀ k x, (k, x) ∈ tbl' i → θ k ≠ j) → Za6 (s.tb j) = true → (ρ j).fp b → ¬ L b ∧ b < w.heap.size := by
  intro j b hj hl hb
  obtain ⟨x, hx, hxl⟩ := Zbd hl
  refine ⟨fun ⟨k, hk, e⟩ => ?_, (hc.rowBlk hx hxl hb).2⟩
  have := hc.apart j (θ k) b hl (hlive k hk) hb e
  obtain ⟨y, hy, _⟩ := Zbd hk
  obtain ⟨z, hz, _⟩ := Zkb hback hy
  exact hj k z (Zfh hz) this.symm
 have hFF : ∀ b, FF X w s.tb ρ b → FF X w' (s.lend θ (tbl' i)).tb ρn b := by
  intro b hb
  refine ⟨hb.1, Nat.lt_of_lt_of_le hb.2.1 hsz, fun j hj e => ?_⟩
  rcases hnl j hj with ⟨k, rfl, hk⟩ | ⟨_, h2, h3⟩
  ·obtain ⟨x, hx, _⟩ := Zbd hk
   rw [(hat k x hx).2] at e
   rcases (hnewfp k b hk e).1 with h | h
   ·have := hb.2.1; omega
   ·exact hdisj b hb h
  ·rw [h3] at e; exact hb.2.2 j h2 e
 have hFN : ∀ b, FF Y w' (lkB (tbl' i)) ρ' b → FF X w' (s.lend θ (tbl' i)).tb ρn b := by
  intro b hb
  have hm : X.F0 b ∨ X.may b := by
   rcases hb.1 with h | h | ⟨k, hk, e⟩
   ·exact h.1
   ·exact .inr (.inl (Nat.le_trans hc.below.size h))
   ·exact .inr (hmayX k b hk e).1
  refine ⟨hm, hb.2.1, fun j hj e => ?_⟩
  rcases hnl j hj with ⟨k, rfl, hk⟩ | ⟨h1, h2, h3⟩
  ·obtain ⟨x, hx, _⟩ := Zbd hk
   rw [(hat k x hx).2] at e
   exact hb.2.2 k hk e
  ·rw [h3] at e
   obtain ⟨g1, g2⟩ := hfar j b h1 h2 e
   rcases hb.1 with h | h | h
   ·exact h.2.2 j h2 e
   ·have h : w.heap.size ≤ b := h
    omega
   ·exact g1 h
 have hkk : ∀ j x, s.tb j = some x → ∃ x', (s.lend θ (tbl' i)).tb j = some x' ∧ ((x'.kind = x.kind ∧ (ρn j).v = (ρ j).v) ∨ (x' = .dead ∧ x.kind ≠ 0)) := by
  intro j x hx
  rcases hor j with ⟨k, y, h1, h2⟩ | ⟨_, h2, h3⟩
  ·subst h2
   obtain ⟨g1, g2⟩ := hat k y h1
   rcases (hfr i).at_ h1 with hk | ⟨hk, _⟩
   ·obtain ⟨z, hz⟩ := Zl0 hsub h1 hk
    have hz' := hliveS k z hz
    rw [hx] at hz'
    simp only [Option.some.injEq] at hz'
    subst hz'
    obtain ⟨y', hy', hkind⟩ := Zkb hback hz
    rw [h1] at hy'
    cases hy'
    refine ⟨_, g1, ?_⟩
    rcases hkind with hkind | ⟨rfl, hkind⟩
    ·by_cases hyl : y.live = true
     ·left
      refine ⟨by rw [Zhr, Zhr]; exact hkind, ?_⟩
      rw [g2]
      exact hl'.lent k hk (by rw [h1]; exact hyl)
     ·cases y <;> simp [Blk.live] at hyl
      right
      refine ⟨rfl, ?_⟩
      rw [Zhr, ← hkind]; simp [Blk.kind]
    ·exact .inr ⟨rfl, by rw [Zhr]; exact hkind⟩
   ·rw [hx] at hk; cases hk
  ·exact ⟨x, by rw [← hx]; exact h2, .inl ⟨rfl, congrArg RV.v h3⟩⟩
 have hFsame : ∀ b, FF X w s.tb ρ b → w'.heap[b]? = w.heap[b]? := fun b hb => hsame b hb.2.1 (hdisj b hb)
 have hren : ∀ k x, lkB (tbl' i) k = some x → (s.lend θ (tbl' i)).tb (θ k) = some (Zml θ x) ∧ (ρn (θ k)).v = (ρ' k).v := fun k x h => ⟨(hat k x h).1, congrArg RV.v (hat k x h).2⟩
 refine ⟨v, i, ρn, rfl, ⟨hc.size, hc.defers, ?_, fun t => (hc.tmps t).keep hFsame hFF hkk, fun j x hx => ?_, fun j j' b h1 h2 e1 e2 => ?_, fun j hj hl => ?_⟩, hv.ren hFN hren⟩
 ·exact hc.below.step hbel.os hbel.tape hbel.output hsz (fun b hb hm => hsame b hb (fun ⟨k, hk, e⟩ => hm (hmayX k b hk e).1))
 ·rcases hor j with ⟨k, y, h1, h2⟩ | ⟨h1, h2, h3⟩
  ·subst h2
   obtain ⟨g1, g2⟩ := hat k y h1
   have hx' : Zmf θ (tbl' i) s.tb (θ k) = some x := hx
   have g1' : Zmf θ (tbl' i) s.tb (θ k) = some (Zml θ y) := g1
   rw [hx'] at g1'
   simp only [Option.some.injEq] at g1'
   subst g1'
   have hb := hl'.blks k y h1
   have hmm : ∀ b, Y.may b → X.may b := by
    rintro b (h | ⟨k, hk, e⟩)
    ·exact .inl (Nat.le_trans hc.below.size h)
    ·exact (hmayX k b hk e).1
   cases y with
   | box t cs =>
    obtain ⟨b, vs', e, q1, q2, q3, q4⟩ := hb
    exact ⟨b, vs', g2.trans e, hmm b q1, q2, q3.ren hFN hren, q4⟩
   | row e n y l =>
    obtain ⟨xs, q0, qm, q1, q2, q3, q4⟩ := hb
    refine ⟨xs, by rw [g2]; exact q0, fun b hb => hmm b (qm b (by rw [g2] at hb; exact hb)), by rw [g2]; exact q1, q2.keep (fun _ _ => rfl) hFN, q3, q4⟩
   | res R =>
    obtain ⟨q1, q2⟩ := hb
    refine ⟨?_, fun b hb => ?_⟩
    ·rw [g2]; exact R.keep _ _ _ _ _ _ (fun _ _ => rfl) hFN (fun _ _ => rfl) q1
    ·rw [g2] at hb; exact ⟨hmm b (q2 b hb).1, (q2 b hb).2⟩
   | dead => trivial
  ·have hx' : s.tb j = some x := by rw [← h2]; exact hx
   exact (hc.blks j x hx').keep hFsame hFF hkk h3 (fun b hl hf => by
    obtain ⟨q1, q2⟩ := hfar j b h1 (by rw [hx']; exact hl) hf
    exact hsame b q2 q1) hsz
 ·rcases hnl j h1 with ⟨k, rfl, hk⟩ | ⟨g1, g2, g3⟩ <;> rcases hnl j' h2 with ⟨k', rfl, hk'⟩ | ⟨g1', g2', g3'⟩
  ·obtain ⟨x, hx, _⟩ := Zbd hk
   obtain ⟨x', hx', _⟩ := Zbd hk'
   rw [(hat k x hx).2] at e1
   rw [(hat k' x' hx').2] at e2
   rw [hl'.apart k k' b hk hk' e1 e2]
  ·exfalso
   obtain ⟨x, hx, _⟩ := Zbd hk
   rw [(hat k x hx).2] at e1
   rw [g3'] at e2
   obtain ⟨q1, q2⟩ := hfar j' b g1' g2' e2
   rcases (hnewfp k b hk e1).1 with h | h
   ·omega
   ·exact q1 h
  ·exfalso
   obtain ⟨x, hx, _⟩ := Zbd hk'
   rw [(hat k' x hx).2] at e2
   rw [g3] at e1
   obtain ⟨q1, q2⟩ := hfar j b g1 g2 e1
   rcases (hnewfp k' b hk' e2).1 with h | h
   ·omega
   ·exact q1 h
  ·rw [g3] at e1; rw [g3'] at e2
   exact hc.apart j j' b g2 g2' e1 e2
 ·rcases hnl j hl with ⟨k, rfl, hk⟩ | ⟨g1, g2, g3⟩
  ·obtain ⟨x, hx, hxl⟩ := Zbd hk
   rw [(hat k x hx).2]
   rcases (hfr i).at_ hx with h | ⟨_, h⟩
   ·have e1 := hl'.lent k h hk
    rw [e1]
    obtain ⟨z, hz⟩ := Zl0 hsub hx h
    obtain ⟨y', hy', hkind⟩ := Zkb hback hz
    rw [hx] at hy'
    cases hy'
    have hzl : Za6 (lkB tbl k) = true := by
     rw [hz]
     rcases hkind with hkind | ⟨rfl, _⟩
     ·cases z <;> first | rfl | (cases x <;> simp [Blk.kind] at hkind <;> cases hxl)
     ·cases hxl
    exact hc.lent (θ k) hj (hlive k hzl)
   ·omega
  ·rw [g3]; exact hc.lent j hj g2
def thk : List (Nat × Nat) → Nat → Nat → Nat
 | [], c, k => k + c
 | (a, b) :: r, c, k => bif Nat.beq k a then b else thk r c k
variable {N : Nat} {Q : Exit → Act → World → Prop} {ops : Array Oper} {rem : List Nat} {ks : List Itm}
theorem Ziz {f : FuncId} (hf : Zbo P f = true) {o : Oper} {vs : List Value} {K : Act → World → Prop} {Q' : Exit → Act → World → Prop} (he : (execOp a.eval o).run P w = .ok (.enter f vs.toArray) w) {R : Value → World → Prop}
  (h : Calls P f vs.toArray w fun e w' => ∃ v, e = .returned v ∧ R v w') (hK : ∀ v w', R v w' → K (a.put o.dst v) w') : o.wp P a w K Q' := by
 unfold Oper.wp
 rw [he]
 refine h.mono ?_
 rintro e w' ⟨v, rfl, hr⟩
 exact hK v w' hr
theorem Zol (θ : Nat → Nat) {d f : Nat} {xs : List Operand} {ts : Array TypeId} {az : List AV} {tbl : List (Nat × Blk)} {ι : Type} {out : ι → AV} {tbl' : ι → List (Nat × Blk)} (hN : Nat.blt d N = true) (hf : Zbo P f = true) (hr : Zif P f az tbl out tbl') (hx : xs.map s.ev = Zg0 θ az)
  (htb : TbOk s θ tbl) (hok1 : Zgq θ az tbl = true) (hfr : ∀ i, FreshOk s θ (tbl' i)) (hok : ∀ i, Zgr θ tbl (tbl' i) = true) (h : ∀ i, Run P X N Q (.ops ops rem :: ks) ((s.lend θ (tbl' i)).put (some d) (Zie θ (out i)))) :
  Zbp P X N Q ops rem ks (some d) (.call { callee := .value (.func f), args := xs.toArray, argTypes := ts }) s := ⟨fun ty pos aft => ⟨fun hX a w ⟨ρ, hc⟩ => by
 have hcall := hc.acall hX.2 θ hr htb hfr hok1 hok (vs := xs.map a.eval) (by rw [← hx]; exact Zhv hc rfl)
 refine Ziz hf (vs := xs.map a.eval) (by simp [execOp, resolve, Deferred.ofValue, Act.eval, invoke, Zck hf]) (R := fun v w' => ∃ i ρ', ConcAt X (s.lend θ (tbl' i)) a w' ρ' ∧ VR w' (FF X w' (s.lend θ (tbl' i)).tb ρ') (s.lend θ (tbl' i)).tb ρ' (Zie θ (out i)) v) (hcall.mono ?_) ?_
 ·rintro e w' ⟨v, i, ρ', he, h1, h2⟩
  exact ⟨v, he, i, ρ', h1, h2⟩
 ·rintro v w' ⟨i, ρ', h1, h2⟩
  exact (h i).out hX _ _ ⟨ρ', h1.putO (Zoc hN hX) h2⟩⟩⟩
def Zbv (P : Program) (f : FuncId) (az : List AV) (tbl : List (Nat × Blk)) (out : AV) (tbl' : List (Nat × Blk)) : Prop := Zif P f az tbl (ι := Unit) (fun _ => out) (fun _ => tbl')
theorem Zb5 (θ : Nat → Nat) {d f : Nat} {xs : List Operand} {ts : Array TypeId} {az : List AV} {tbl : List (Nat × Blk)} {out : AV} {tbl' : List (Nat × Blk)} (hN : Nat.blt d N = true) (hf : Zbo P f = true) (hr : Zbv P f az tbl out tbl') (hx : xs.map s.ev = Zg0 θ az)
  (htb : TbOk s θ tbl) (hok1 : Zgq θ az tbl = true) (hfr : FreshOk s θ tbl') (hok : Zgr θ tbl tbl' = true) (h : Run P X N Q (.ops ops rem :: ks) ((s.lend θ tbl').put (some d) (Zie θ out))) :
  Zbp P X N Q ops rem ks (some d) (.call { callee := .value (.func f), args := xs.toArray, argTypes := ts }) s := Zol θ hN hf hr hx htb hok1 (fun _ => hfr) (fun _ => hok) (fun _ => h)
theorem Za3 {fn : Func} {ι : Type} {out : ι → AV} {tbl' : ι → List (Nat × Blk)} (i : ι) (θ : Nat → Nat) {tm : List (Nat × AV)} (hs : SubS s tm (tbl' i) θ) (hr : Yox P fn (out i) (Zl1 tm (tbl' i))) : Run P X N (QA P X fn out tbl') (.code .ret :: ks) s :=
 Ygs fun a w hc => ⟨.inr rfl, Zl1 tm (tbl' i), i, hr, rfl, hs.conc hc⟩
theorem Zfo {fn : Func} {ι : Type} {out : ι → AV} {tbl' : ι → List (Nat × Blk)} (i : ι) (θ : Nat → Nat) {tm : List (Nat × AV)} (hs : SubS s tm (tbl' i) θ) (hr : Yox P fn (out i) (Zl1 tm (tbl' i))) : Run P X N (QA P X fn out tbl') [] s :=
 Zs0 fun a w hc => ⟨.inl rfl, Zl1 tm (tbl' i), i, hr, rfl, hs.conc hc⟩
theorem Zbc {fn : Func} {t : Tmp} (hf : fn.results = #[.tmp t]) {r : AV} (ht : s.tm t = r) : Yox P fn r s := by
 intro X a w ⟨ρ0, hc0⟩
 refine ⟨a.tmps.getD t undef, results_tmp hf _ _ _, fun ρ hc => ?_⟩
 have := hc.tmps t
 rwa [ht] at this
theorem Zda {fn : Func} (hf : fn.results = #[]) : Yox P fn (.dat (.tup [])) s := by
 intro X a w ⟨ρ0, hc0⟩
 exact ⟨.tuple #[], results_none hf _ _ _, fun ρ hc => by unfold VR Rep; exact ⟨[], rfl, by unfold Reps; rfl⟩⟩
theorem Ygg {fn : Func} {t u : Tmp} (hf : fn.results = #[.tmp t, .tmp u]) {r r' : AV} (ht : s.tm t = r) (hu : s.tm u = r') : Yox P fn (Ye9 [r, r']) s := by
 intro X a w ⟨ρ0, hc0⟩
 refine ⟨_, results_tmp2 hf _ _ _, fun ρ hc => ?_⟩
 have h1 := hc.tmps t
 have h2 := hc.tmps u
 rw [ht] at h1
 rw [hu] at h2
 refine Zx5 (vs := [a.tmps.getD t undef, a.tmps.getD u undef]) ?_
 unfold VRs
 refine ⟨_, _, rfl, h1, ?_⟩
 unfold VRs
 exact ⟨_, _, rfl, h2, by unfold VRs; rfl⟩
end
end Go.Proofs.YtgmahieoiifpfaaGreat
namespace Go.Proofs.YtgmahieoiifpfaaGreat
open Go.RowKit
section
variable {P : Program} {X : Base} {N : Nat} {Q : Exit → Act → World → Prop} {ops : Array Oper} {rem : List Nat} {ks : List Itm} {s s' : Sta} {a : Act} {w w' : World} {ρ : Nat → RV}
structure Ytp (p : Prop) : Prop where
 out : p
theorem Yae (h : Ytp (Run P X N Q ks s)) : Run P X N Q ks s := h.out
def QT (X : Base) (T : Sta) : Exit → Act → World → Prop := fun e a w => e = .normal ∧ Conc X T a w
theorem Zvs {c : Code} {s : Sta} (T : Sta) (h : Run P X N (QT X T) [.code c] s) (key : Run P X N Q ks T) : Run P X N Q (.code c :: ks) s := ⟨fun hX a w hc => by
 have h1 : c.wp P (QT X T) a w := wp_mono (h.out hX a w hc) (fun e a w q => by cases e <;> exact q)
 show c.wp P _ a w
 refine wp_mono h1 ?_
 rintro e a' w' ⟨rfl, hc'⟩
 exact key.out hX a' w' hc'⟩
theorem Zg9 {s : Sta} {tm : List (Nat × AV)} {tb : List (Nat × Blk)} (θ : Nat → Nat) (h : SubS s tm tb θ) : Run P X N (QT X (Zl1 tm tb)) [] s := Zs0 fun a w hc => ⟨rfl, h.conc hc⟩
end
end Go.Proofs.YtgmahieoiifpfaaGreat
namespace Go.Proofs.YtgmahieoiifpfaaGreat
open Go.RowKit
section
variable {P : Program} {X : Base} {N : Nat} {s s1 : Sta} {ops r : List Oper}
end
end Go.Proofs.YtgmahieoiifpfaaGreat
end
namespace Go.Proofs.YtgmahieoiifpfaaGreat
open Go.RowKit
@[go_sem] theorem Ygt (P : Program) (w : World) (a : Addr) (m : Mode) (k : FloatKind) (b : Nat) : (store a (.float k b) m).run P w = stored P w a (.float k b) m := run_store P w a _ m rfl
inductive GV where
 | mk (kind n : Int) (f : Nat) (s : ByteArray) (keys : List ByteArray) (l : List GV)
namespace GV
def kind : GV → Int | .mk k _ _ _ _ _ => k
def n : GV → Int | .mk _ n _ _ _ _ => n
def f : GV → Nat | .mk _ _ f _ _ _ => f
def s : GV → ByteArray | .mk _ _ _ s _ _ => s
def keys : GV → List ByteArray | .mk _ _ _ _ k _ => k
def l : GV → List GV | .mk _ _ _ _ _ l => l
end GV
inductive JV where
 | null
 | bool (b : Bool)
 | int (n : Int)
 | flt (bits : Nat)
 | str (s : ByteArray)
 | list (l : List JV)
 | map (m : List (ByteArray × JV))
def IsStrs (w : World) (S : Nat → Prop) (v : Value) (ks : List ByteArray) : Prop :=
 ∃ a c, v = .slice a ks.length c ∧ ks.length ≤ c ∧ ks.length * 16 ≤ 140737488351232 ∧ (∀ s ∈ ks, s.size ≤ maxLen) ∧
  (0 < ks.length → ∃ b o, S b ∧ a = some ⟨b, o, none⟩ ∧ ∀ i, i < ks.length → w.cell? ⟨b, o + i, none⟩ = some (.string (ks.getD i ByteArray.empty)))
mutual
/-- The struct value v holds the impl.Value x; all cells behind it lie in blocks of S. -/
def IsV (w : World) (S : Nat → Prop) : GV → Value → Prop
 | .mk k n f s ks l, v => ∃ vk a c, v = .agg #[.int .i64 k, .int .i64 n, .float .f64 f, .string s, vk, .slice a l.length c] ∧
   (Lit.int .i64 k).wf = true ∧ (Lit.int .i64 n).wf = true ∧ (Lit.float .f64 f).wf = true ∧ s.size ≤ maxLen ∧
   IsStrs w S vk ks ∧ l.length ≤ c ∧ l.length * 88 ≤ 140737488351232 ∧ (l = [] ∨ ∃ b o, S b ∧ a = some ⟨b, o, none⟩ ∧ IsVs w S l b o)
/-- From cell o of block b on lie the values of the list, six cells each. -/
def IsVs (w : World) (S : Nat → Prop) : List GV → Nat → Nat → Prop
 | [], _, _ => True
 | x :: r, b, o => (∃ c0 c1 c2 c3 c4 c5, w.cell? ⟨b, o, none⟩ = some c0 ∧ w.cell? ⟨b, o + 1, none⟩ = some c1 ∧ w.cell? ⟨b, o + 2, none⟩ = some c2 ∧
   w.cell? ⟨b, o + 3, none⟩ = some c3 ∧ w.cell? ⟨b, o + 4, none⟩ = some c4 ∧ w.cell? ⟨b, o + 5, none⟩ = some c5 ∧ IsV w S x (.agg #[c0, c1, c2, c3, c4, c5])) ∧
   IsVs w S r b (o + 6)
end
mutual
/-- The interface value v is the tree j. -/
def IsJ (w : World) (S : Nat → Prop) : JV → Value → Prop
 | .null, v => v = .nilIface
 | .bool b, v => v = .iface 4 (.bool b)
 | .int n, v => v = .iface 2 (.int .i64 n) ∧ (Lit.int .i64 n).wf = true
 | .flt f, v => v = .iface 25 (.float .f64 f) ∧ (Lit.float .f64 f).wf = true
 | .str s, v => v = .iface 9 (.string s) ∧ s.size ≤ maxLen
 | .list l, v => ∃ a c, v = .iface 276 (.slice a l.length c) ∧ l.length * 16 ≤ 140737488351232 ∧ (l = [] ∨ ∃ b o, S b ∧ a = some ⟨b, o, none⟩ ∧ IsJs w S l b o)
 | .map m, v => ∃ b es cl, v = .iface 277 (.map (some b)) ∧ S b ∧ w.heap[b]? = some (.map es cl) ∧ MapKept.Stamped es cl ∧ m.length < maxLen ∧ IsEs w S m es.toList
def IsJs (w : World) (S : Nat → Prop) : List JV → Nat → Nat → Prop
 | [], _, _ => True
 | x :: r, b, o => (∃ c, w.cell? ⟨b, o, none⟩ = some c ∧ IsJ w S x c) ∧ IsJs w S r b (o + 1)
def IsEs (w : World) (S : Nat → Prop) : List (ByteArray × JV) → List MapEntry → Prop
 | [], es => es = []
 | x :: r, es => ∃ e r', es = e :: r' ∧ e.key = .string x.1 ∧ x.1.size ≤ maxLen ∧ IsJ w S x.2 e.val ∧ IsEs w S r r'
end
section
variable {w w' : World} {S S' : Nat → Prop}
theorem IsStrs.keep (h : ∀ b, S b → w'.heap[b]? = w.heap[b]?) (hs : ∀ b, S b → S' b) {v : Value} {ks : List ByteArray} (hv : IsStrs w S v ks) : IsStrs w' S' v ks := by
 obtain ⟨a, c, e, hle, hl, hz, hc⟩ := hv
 refine ⟨a, c, e, hle, hl, hz, fun h0 => ?_⟩
 obtain ⟨b, o, hb, ha, hx⟩ := hc h0
 exact ⟨b, o, hs b hb, ha, fun i hi => (World.cell?_of_block (a := ⟨b, o + i, none⟩) (h b hb)).trans (hx i hi)⟩
mutual
theorem IsV.keep (h : ∀ b, S b → w'.heap[b]? = w.heap[b]?) (hs : ∀ b, S b → S' b) : ∀ (x : GV) {v : Value}, IsV w S x v → IsV w' S' x v
 | .mk k n f s ks l, v, hv => by
  unfold IsV at hv ⊢
  obtain ⟨vk, a, c, e, h1, h2, h3, h4, h5, h8, h6, h7⟩ := hv
  refine ⟨vk, a, c, e, h1, h2, h3, h4, h5.keep h hs, h8, h6, ?_⟩
  rcases h7 with h7 | ⟨b, o, hb, ha, hx⟩
  ·exact .inl h7
  ·exact .inr ⟨b, o, hs b hb, ha, IsVs.keep h hs l b o hb hx⟩
theorem IsVs.keep (h : ∀ b, S b → w'.heap[b]? = w.heap[b]?) (hs : ∀ b, S b → S' b) : ∀ (l : List GV) (b o : Nat), S b → IsVs w S l b o → IsVs w' S' l b o
 | [], _, _, _, _ => by unfold IsVs; trivial
 | x :: r, b, o, hb, hv => by
  unfold IsVs at hv ⊢
  obtain ⟨⟨c0, c1, c2, c3, c4, c5, g0, g1, g2, g3, g4, g5, hx⟩, hr⟩ := hv
  have hk : ∀ p : Addr, p.block = b → w'.cell? p = w.cell? p := fun p hp => World.cell?_of_block (by rw [hp]; exact h b hb)
  exact ⟨⟨c0, c1, c2, c3, c4, c5, (hk _ rfl).trans g0, (hk _ rfl).trans g1, (hk _ rfl).trans g2, (hk _ rfl).trans g3, (hk _ rfl).trans g4, (hk _ rfl).trans g5, IsV.keep h hs x hx⟩,
   IsVs.keep h hs r b (o + 6) hb hr⟩
end
mutual
theorem IsJ.keep (h : ∀ b, S b → w'.heap[b]? = w.heap[b]?) (hs : ∀ b, S b → S' b) : ∀ (j : JV) {v : Value}, IsJ w S j v → IsJ w' S' j v
 | .null, _, hv => by unfold IsJ at hv ⊢; exact hv
 | .bool _, _, hv => by unfold IsJ at hv ⊢; exact hv
 | .int _, _, hv => by unfold IsJ at hv ⊢; exact hv
 | .flt _, _, hv => by unfold IsJ at hv ⊢; exact hv
 | .str _, _, hv => by unfold IsJ at hv ⊢; exact hv
 | .list l, _, hv => by
  unfold IsJ at hv ⊢
  obtain ⟨a, c, e, hl, h7⟩ := hv
  refine ⟨a, c, e, hl, ?_⟩
  rcases h7 with h7 | ⟨b, o, hb, ha, hx⟩
  ·exact .inl h7
  ·exact .inr ⟨b, o, hs b hb, ha, IsJs.keep h hs l b o hb hx⟩
 | .map m, _, hv => by
  unfold IsJ at hv ⊢
  obtain ⟨b, es, cl, e, hb, hh, ht, hm, he⟩ := hv
  exact ⟨b, es, cl, e, hs b hb, (h b hb).trans hh, ht, hm, IsEs.keep h hs m es.toList he⟩
theorem IsJs.keep (h : ∀ b, S b → w'.heap[b]? = w.heap[b]?) (hs : ∀ b, S b → S' b) : ∀ (l : List JV) (b o : Nat), S b → IsJs w S l b o → IsJs w' S' l b o
 | [], _, _, _, _ => by unfold IsJs; trivial
 | x :: r, b, o, hb, hv => by
  unfold IsJs at hv ⊢
  obtain ⟨⟨c, g, hx⟩, hr⟩ := hv
  exact ⟨⟨c, (World.cell?_of_block (a := ⟨b, o, none⟩) (h b hb)).trans g, IsJ.keep h hs x hx⟩, IsJs.keep h hs r b (o + 1) hb hr⟩
theorem IsEs.keep (h : ∀ b, S b → w'.heap[b]? = w.heap[b]?) (hs : ∀ b, S b → S' b) : ∀ (m : List (ByteArray × JV)) (es : List MapEntry), IsEs w S m es → IsEs w' S' m es
 | [], _, hv => by unfold IsEs at hv ⊢; exact hv
 | x :: r, es, hv => by
  unfold IsEs at hv ⊢
  obtain ⟨e, r', e1, hk, hz, hx, hr⟩ := hv
  exact ⟨e, r', e1, hk, hz, IsJ.keep h hs x.2 hx, IsEs.keep h hs r r' hr⟩
end
end
def Btw (lo hi : Nat) (b : Nat) : Prop := lo ≤ b ∧ b < hi
section
variable {w w' : World} {lo hi : Nat}
theorem Btw.kept (h : Below hi w w') : ∀ b, Btw lo hi b → w'.heap[b]? = w.heap[b]? := fun b hb => h.block b hb.2
theorem Btw.mono {lo' hi' : Nat} (h1 : lo' ≤ lo) (h2 : hi ≤ hi') : ∀ b, Btw lo hi b → Btw lo' hi' b := fun _ hb => ⟨Nat.le_trans h1 hb.1, Nat.lt_of_lt_of_le hb.2 h2⟩
theorem Zya {b : Nat} {o : Obj} (h : w.heap[b]? = some o) : b < w.heap.size := (Array.getElem?_eq_some_iff.1 h).1
theorem IsV.alloc_ {x : GV} {v : Value} (h : IsV w (Btw lo w.heap.size) x v) (o : Obj) : IsV (w.alloc o) (Btw lo (w.alloc o).heap.size) x v :=
 IsV.keep (fun b hb => Below.heap_alloc _ _ _ hb.2) (Btw.mono (Nat.le_refl _) (by simp)) x h
theorem IsVs.at_ {S : Nat → Prop} : ∀ {l : List GV} {b o : Nat}, IsVs w S l b o → ∀ {i : Nat} {x : GV}, l[i]? = some x →
  ∃ c0 c1 c2 c3 c4 c5, w.cell? ⟨b, o + i * 6, none⟩ = some c0 ∧ w.cell? ⟨b, o + i * 6 + 1, none⟩ = some c1 ∧ w.cell? ⟨b, o + i * 6 + 2, none⟩ = some c2 ∧
   w.cell? ⟨b, o + i * 6 + 3, none⟩ = some c3 ∧ w.cell? ⟨b, o + i * 6 + 4, none⟩ = some c4 ∧ w.cell? ⟨b, o + i * 6 + 5, none⟩ = some c5 ∧ IsV w S x (.agg #[c0, c1, c2, c3, c4, c5])
 | [], _, _, _, i, x, h => by simp at h
 | y :: r, b, o, hv, i, x, h => by
  unfold IsVs at hv
  cases i with
  | zero =>
   simp at h; subst h
   simpa using hv.1
  | succ i =>
   have h' : r[i]? = some x := by simpa using h
   have := IsVs.at_ hv.2 h'
   rw [show o + 6 + i * 6 = o + (i + 1) * 6 by omega] at this
   exact this
theorem IsV.form {S : Nat → Prop} {x : GV} {v : Value} (h : IsV w S x v) : ∃ a0 c0 a1 c1, v = .agg #[.int .i64 x.kind, .int .i64 x.n, .float .f64 x.f, .string x.s, .slice a0 x.keys.length c0, .slice a1 x.l.length c1] := by
 obtain ⟨k, n, f, s, ks, l⟩ := x
 unfold IsV at h
 obtain ⟨vk, a, c, rfl, _, _, _, _, ⟨a0, c0, rfl, _⟩, _⟩ := h
 exact ⟨a0, c0, a, c, rfl⟩
theorem IsVs.cells {S : Nat → Prop} {l : List GV} {b o : Nat} (h : IsVs w S l b o) {i : Nat} {x : GV} (hx : l[i]? = some x) :
  ∃ a0 c0 a1 c1, w.cell? ⟨b, o + i * 6, none⟩ = some (.int .i64 x.kind) ∧ w.cell? ⟨b, o + i * 6 + 1, none⟩ = some (.int .i64 x.n) ∧ w.cell? ⟨b, o + i * 6 + 2, none⟩ = some (.float .f64 x.f) ∧
   w.cell? ⟨b, o + i * 6 + 3, none⟩ = some (.string x.s) ∧ w.cell? ⟨b, o + i * 6 + 4, none⟩ = some (.slice a0 x.keys.length c0) ∧ w.cell? ⟨b, o + i * 6 + 5, none⟩ = some (.slice a1 x.l.length c1) ∧
   IsV w S x (.agg #[.int .i64 x.kind, .int .i64 x.n, .float .f64 x.f, .string x.s, .slice a0 x.keys.length c0, .slice a1 x.l.length c1]) := by
 obtain ⟨c0, c1, c2, c3, c4, c5, g0, g1, g2, g3, g4, g5, hv⟩ := h.at_ hx
 obtain ⟨a0, d0, a1, d1, e⟩ := hv.form
 injection e with e
 simp only [Array.mk.injEq, List.cons.injEq, and_true] at e
 obtain ⟨rfl, rfl, rfl, rfl, rfl, rfl⟩ := e
 exact ⟨a0, d0, a1, d1, g0, g1, g2, g3, g4, g5, hv⟩
theorem IsJ.one {S : Nat → Prop} {j : JV} {v : Value} (h : IsJ w S j v) : v = .nilIface ∨ ∃ t u, v = .iface t u := by
 cases j <;> unfold IsJ at h
 ·exact .inl h
 ·exact .inr ⟨_, _, h⟩
 ·exact .inr ⟨_, _, h.1⟩
 ·exact .inr ⟨_, _, h.1⟩
 ·exact .inr ⟨_, _, h.1⟩
 ·obtain ⟨a, c, e, _⟩ := h; exact .inr ⟨_, _, e⟩
 ·obtain ⟨b, es, cl, e, _⟩ := h; exact .inr ⟨_, _, e⟩
theorem IsJ.oneCell {S : Nat → Prop} {j : JV} {v : Value} (h : IsJ w S j v) : v.oneCell' = true := by
 rcases h.one with rfl | ⟨t, u, rfl⟩ <;> rfl
theorem IsJs.at_ {S : Nat → Prop} : ∀ {l : List JV} {b o : Nat}, IsJs w S l b o → ∀ {i : Nat} {x : JV}, l[i]? = some x → ∃ c, w.cell? ⟨b, o + i, none⟩ = some c ∧ IsJ w S x c
 | [], _, _, _, i, x, h => by simp at h
 | y :: r, b, o, hv, i, x, h => by
  unfold IsJs at hv
  cases i with
  | zero =>
   simp at h; subst h
   simpa using hv.1
  | succ i =>
   have h' : r[i]? = some x := by simpa using h
   have := IsJs.at_ hv.2 h'
   rw [show o + 1 + i = o + (i + 1) by omega] at this
   exact this
end
def Zk7 {α : Type} (m : List (ByteArray × α)) (k : ByteArray) (x : α) : List (ByteArray × α) :=
 match m with
 | [] => [(k, x)]
 | e :: r => if e.1 = k then (k, x) :: r else e :: Zk7 r k x
theorem Zh5 {α : Type} (m : List (ByteArray × α)) (k : ByteArray) (x : α) : (Zk7 m k x).length ≤ m.length + 1 := by
 induction m with
 | nil => simp [Zk7]
 | cons e r ih => unfold Zk7; split <;> simp <;> omega
def Yn3 (v : Value) (k : ByteArray) : Bool := match v with | .string s => decide (s = k) | _ => false
theorem keyIs_iff {v : Value} {k : ByteArray} : Yn3 v k = true ↔ v = .string k := by
 cases v <;> simp [Yn3]
def Ykb (es : List MapEntry) (k : ByteArray) (v : Value) (cl : Nat) : List MapEntry :=
 match es with
 | [] => [{ key := .string k, val := v, born := cl }]
 | e :: r => if Yn3 e.key k = true then { e with key := .string k, val := v } :: r else e :: Ykb r k v cl
theorem IsEs.keys {w : World} {S : Nat → Prop} : ∀ {m : List (ByteArray × JV)} {es : List MapEntry}, IsEs w S m es → ∀ x ∈ es, MapKept.IsKey .string x.key
 | [], es, h => by unfold IsEs at h; subst h; simp
 | x :: r, es, h => by
  unfold IsEs at h
  obtain ⟨e, r', rfl, hk, _, _, hr⟩ := h
  intro y hy
  rcases List.mem_cons.1 hy with rfl | hy
  ·rw [hk]; trivial
  ·exact hr.keys y hy
theorem IsEs.length {w : World} {S : Nat → Prop} : ∀ {m : List (ByteArray × JV)} {es : List MapEntry}, IsEs w S m es → es.length = m.length
 | [], es, h => by unfold IsEs at h; subst h; rfl
 | x :: r, es, h => by
  unfold IsEs at h
  obtain ⟨e, r', rfl, _, _, _, hr⟩ := h
  simp [hr.length]
theorem IsEs.put {w : World} {S : Nat → Prop} {k : ByteArray} {j : JV} {v : Value} {cl : Nat} (hk : k.size ≤ maxLen) (hj : IsJ w S j v) :
  ∀ {m : List (ByteArray × JV)} {es : List MapEntry}, IsEs w S m es → IsEs w S (Zk7 m k j) (Ykb es k v cl)
 | [], es, h => by
  unfold IsEs at h; subst h
  unfold Zk7 Ykb IsEs
  exact ⟨_, _, rfl, rfl, hk, hj, by unfold IsEs; rfl⟩
 | x :: r, es, h => by
  unfold IsEs at h
  obtain ⟨e, r', rfl, hke, hz, hx, hr⟩ := h
  unfold Zk7 Ykb
  by_cases hq : x.1 = k
  ·rw [if_pos hq, if_pos (keyIs_iff.2 (by rw [hke, hq]))]
   unfold IsEs
   exact ⟨_, _, rfl, rfl, hk, hj, hr⟩
  ·rw [if_neg hq, if_neg (fun q => hq (by have := keyIs_iff.1 q; rw [hke] at this; injection this))]
   unfold IsEs
   exact ⟨_, _, rfl, hke, hz, hx, IsEs.put hk hj hr⟩
theorem Zvl {k : ByteArray} {v : Value} {cl : Nat} : ∀ {es : List MapEntry}, (∀ x ∈ es, x.key ≠ .string k) → Ykb es k v cl = es ++ [{ key := .string k, val := v, born := cl }]
 | [], _ => rfl
 | e :: r, h => by
  unfold Ykb
  rw [if_neg (fun q => h e (by simp) (keyIs_iff.1 q)), Zvl (fun x hx => h x (by simp [hx]))]
  rfl
theorem Zvm {k : ByteArray} {v : Value} {cl : Nat} : ∀ {es : List MapEntry} {j : Nat} {e : MapEntry}, (es.map (·.key)).Nodup → es[j]? = some e → e.key = .string k →
  Ykb es k v cl = es.modify j (fun e => { e with key := .string k, val := v })
 | [], j, e, _, h, _ => by simp at h
 | x :: r, j, e, hn, h, hk => by
  unfold Ykb
  cases j with
  | zero =>
   simp at h; subst h
   rw [if_pos (keyIs_iff.2 hk)]; rfl
  | succ j =>
   have h' : r[j]? = some e := by simpa using h
   have hne : x.key ≠ .string k := by
    intro q
    simp only [List.map_cons, List.nodup_cons] at hn
    exact hn.1 (by rw [q, ← hk]; exact List.mem_map.2 ⟨e, List.mem_of_getElem? h', rfl⟩)
   rw [if_neg (fun q => hne (keyIs_iff.1 q)), Zvm (List.nodup_cons.1 (by simpa using hn)).2 h' hk]
   rfl
section
variable {P : Program} {w : World}
theorem Zl5 {t kt et r cl : Nat} {es : Array MapEntry} {k : ByteArray} {v : Value} (hm : P.underlying t = some (.map kt et)) (hd : P.underlying kt = some .string)
  (hb : w.heap[r]? = some (.map es cl)) (hs : MapKept.Stamped es cl) (hks : ∀ x ∈ es.toList, MapKept.IsKey .string x.key) :
  ∃ es' cl', (Instr.mapUpdate t (.map (some r)) (.string k) v).run P w = .ok () (ChangeMaps.setBlock w r (.map es' cl')) ∧ es'.toList = Ykb es.toList k v cl ∧ MapKept.Stamped es' cl' := by
 have hk : MapKept.IsKey .string (.string k) := trivial
 rcases MapKept.findNow_spec hk es.toList 0 hks with ⟨h1, h2⟩ | ⟨j, e, h1, h2, h3⟩
 ·refine ⟨es.push { key := .string k, val := v, born := cl }, cl + 1, ?_, ?_, MapKept.stamped_push hs h2⟩
  ·simp [Instr.mapUpdate, run_underlying hm, MapKept.run_getObj_map hb, MapKept.run_checkKey hd hk, MapKept.run_findKey hd h1, MapKept.run_setObj_map _ hb, Result.andThen, ChangeMaps.setBlock]
  ·rw [Array.toList_push, Zvl h2]
 ·have hj : es[j]? = some e := by simpa using h2
  refine ⟨es.modify j (fun e => { e with key := .string k, val := v }), cl, ?_, ?_, ?_⟩
  ·simp [Instr.mapUpdate, run_underlying hm, MapKept.run_getObj_map hb, MapKept.run_checkKey hd hk, MapKept.run_findKey hd h1, hj, h3, MapKept.run_keyThatStays hk, MapKept.run_setObj_map _ hb, Result.andThen, ChangeMaps.setBlock]
  ·rw [Zvm hs.2.2 h2 h3, Array.toList_modify]
  ·exact MapKept.stamped_modify hs _ _ (fun _ _ => rfl) (fun e' _ he' => by rw [hj] at he'; cases he'; exact h3.symm)
end
theorem Zs9 (w : World) (b : Nat) (o : Obj) : (ChangeMaps.setBlock w b o).heap.size = w.heap.size := by simp [ChangeMaps.setBlock]
theorem Zhh {b k : Nat} {w : World} (o : Obj) (h : k ≠ b) : (ChangeMaps.setBlock w b o).heap[k]? = w.heap[k]? := by
 simp [ChangeMaps.setBlock, Ne.symm h]
theorem Zs7 {b : Nat} {w : World} (o : Obj) (h : b < w.heap.size) : (ChangeMaps.setBlock w b o).heap[b]? = some o := by
 simp [ChangeMaps.setBlock, h]
section
variable {P : Program} {w : World} {ops : Array Oper} {rest : List Oper} {o : Oper} {a : Act} {Q : Exit → Act → World → Prop}
end
def Zf8 : TypeDesc → Bool | .interface _ => false | _ => true
section
variable {P : Program} {w : World} {T xT u : TypeId} {v z : Value} {d : TypeDesc}
theorem Zeo (h : P.underlying T = some d) (hn : Zf8 d = true) : (Instr.typeAssert (.iface T v) xT T true).run P w = .ok (.tuple #[v, .bool true]) w := by
 cases d <;> simp_all [Zf8, Instr.typeAssert, run_underlying h, Result.andThen]
theorem Zfv (h : P.underlying T = some d) (hn : Zf8 d = true) : (Instr.typeAssert (.iface T v) xT T false).run P w = .ok v w := by
 cases d <;> simp_all [Zf8, Instr.typeAssert, run_underlying h, Result.andThen]
theorem Zbk (h : P.underlying T = some d) (hn : Zf8 d = true) (hz : (zeroValue T).run P w = .ok z w) (hu : u ≠ T) : (Instr.typeAssert (.iface u v) xT T true).run P w = .ok (.tuple #[z, .bool false]) w := by
 cases d <;> simp_all [Zf8, Instr.typeAssert, run_underlying h, Result.andThen]
theorem Zq8 (h : P.underlying T = some d) (hn : Zf8 d = true) (hz : (zeroValue T).run P w = .ok z w) : (Instr.typeAssert .nilIface xT T true).run P w = .ok (.tuple #[z, .bool false]) w := by
 cases d <;> simp_all [Zf8, Instr.typeAssert, run_underlying h, Result.andThen]
end
@[go_sem] theorem Yr9 (u : TypeId) (v : Value) (xT : TypeId) (w : World) (h : u ≠ 3) : (Instr.typeAssert (.iface u v) xT 3 true).run Tryz.prog w = .ok (.tuple #[.int .i64 0, .bool false]) w :=
 Zbk Tryz.underlying3 rfl (by kernel_rfl) h
@[go_sem] theorem Yph (u : TypeId) (v : Value) (xT : TypeId) (w : World) (h : u ≠ 387) : (Instr.typeAssert (.iface u v) xT 387 true).run Tryz.prog w = .ok (.tuple #[.int .i8 0, .bool false]) w :=
 Zbk Tryz.underlying387 rfl (by kernel_rfl) h
@[go_sem] theorem Ypi (u : TypeId) (v : Value) (xT : TypeId) (w : World) (h : u ≠ 389) : (Instr.typeAssert (.iface u v) xT 389 true).run Tryz.prog w = .ok (.tuple #[.int .i16 0, .bool false]) w :=
 Zbk Tryz.underlying389 rfl (by kernel_rfl) h
@[go_sem] theorem Ypw (u : TypeId) (v : Value) (xT : TypeId) (w : World) (h : u ≠ 21) : (Instr.typeAssert (.iface u v) xT 21 true).run Tryz.prog w = .ok (.tuple #[.int .i32 0, .bool false]) w :=
 Zbk Tryz.underlying21 rfl (by kernel_rfl) h
@[go_sem] theorem Ysw (v : Value) (xT : TypeId) (w : World) : (Instr.typeAssert (.iface 2 v) xT 2 true).run Tryz.prog w = .ok (.tuple #[v, .bool true]) w := Zeo Tryz.underlying2 rfl
@[go_sem] theorem Yse (v : Value) (xT : TypeId) (w : World) : (Instr.typeAssert (.iface 2 v) xT 2 false).run Tryz.prog w = .ok v w := Zfv Tryz.underlying2 rfl
@[go_sem] theorem Yr8 (u : TypeId) (v : Value) (xT : TypeId) (w : World) (h : u ≠ 2) : (Instr.typeAssert (.iface u v) xT 2 true).run Tryz.prog w = .ok (.tuple #[.int .i64 0, .bool false]) w :=
 Zbk Tryz.underlying2 rfl (by kernel_rfl) h
@[go_sem] theorem Ype (u : TypeId) (v : Value) (xT : TypeId) (w : World) (h : u ≠ 299) : (Instr.typeAssert (.iface u v) xT 299 true).run Tryz.prog w = .ok (.tuple #[.int .u64 0, .bool false]) w :=
 Zbk Tryz.underlying299 rfl (by kernel_rfl) h
@[go_sem] theorem Ysb (u : TypeId) (v : Value) (xT : TypeId) (w : World) (h : u ≠ 5) : (Instr.typeAssert (.iface u v) xT 5 true).run Tryz.prog w = .ok (.tuple #[.int .u8 0, .bool false]) w :=
 Zbk Tryz.underlying5 rfl (by kernel_rfl) h
@[go_sem] theorem Ypj (u : TypeId) (v : Value) (xT : TypeId) (w : World) (h : u ≠ 394) : (Instr.typeAssert (.iface u v) xT 394 true).run Tryz.prog w = .ok (.tuple #[.int .u16 0, .bool false]) w :=
 Zbk Tryz.underlying394 rfl (by kernel_rfl) h
@[go_sem] theorem Ypf (u : TypeId) (v : Value) (xT : TypeId) (w : World) (h : u ≠ 368) : (Instr.typeAssert (.iface u v) xT 368 true).run Tryz.prog w = .ok (.tuple #[.int .u32 0, .bool false]) w :=
 Zbk Tryz.underlying368 rfl (by kernel_rfl) h
@[go_sem] theorem Ysd (v : Value) (xT : TypeId) (w : World) : (Instr.typeAssert (.iface 25 v) xT 25 true).run Tryz.prog w = .ok (.tuple #[v, .bool true]) w := Zeo Tryz.underlying25 rfl
@[go_sem] theorem Yp0 (v : Value) (xT : TypeId) (w : World) : (Instr.typeAssert (.iface 25 v) xT 25 false).run Tryz.prog w = .ok v w := Zfv Tryz.underlying25 rfl
@[go_sem] theorem Ypx (u : TypeId) (v : Value) (xT : TypeId) (w : World) (h : u ≠ 25) : (Instr.typeAssert (.iface u v) xT 25 true).run Tryz.prog w = .ok (.tuple #[.float .f64 0, .bool false]) w :=
 Zbk Tryz.underlying25 rfl (by kernel_rfl) h
@[go_sem] theorem Ypg (u : TypeId) (v : Value) (xT : TypeId) (w : World) (h : u ≠ 385) : (Instr.typeAssert (.iface u v) xT 385 true).run Tryz.prog w = .ok (.tuple #[.float .f32 0, .bool false]) w :=
 Zbk Tryz.underlying385 rfl (by kernel_rfl) h
@[go_sem] theorem Ysy (v : Value) (xT : TypeId) (w : World) : (Instr.typeAssert (.iface 9 v) xT 9 true).run Tryz.prog w = .ok (.tuple #[v, .bool true]) w := Zeo Tryz.underlying9 rfl
@[go_sem] theorem Ysg (v : Value) (xT : TypeId) (w : World) : (Instr.typeAssert (.iface 9 v) xT 9 false).run Tryz.prog w = .ok v w := Zfv Tryz.underlying9 rfl
@[go_sem] theorem Ysc (u : TypeId) (v : Value) (xT : TypeId) (w : World) (h : u ≠ 9) : (Instr.typeAssert (.iface u v) xT 9 true).run Tryz.prog w = .ok (.tuple #[.string ⟨#[]⟩, .bool false]) w :=
 Zbk Tryz.underlying9 rfl (by kernel_rfl) h
@[go_sem] theorem Ysx (v : Value) (xT : TypeId) (w : World) : (Instr.typeAssert (.iface 4 v) xT 4 true).run Tryz.prog w = .ok (.tuple #[v, .bool true]) w := Zeo Tryz.underlying4 rfl
@[go_sem] theorem Ysf (v : Value) (xT : TypeId) (w : World) : (Instr.typeAssert (.iface 4 v) xT 4 false).run Tryz.prog w = .ok v w := Zfv Tryz.underlying4 rfl
@[go_sem] theorem Ysa (u : TypeId) (v : Value) (xT : TypeId) (w : World) (h : u ≠ 4) : (Instr.typeAssert (.iface u v) xT 4 true).run Tryz.prog w = .ok (.tuple #[.bool false, .bool false]) w :=
 Zbk Tryz.underlying4 rfl (by kernel_rfl) h
@[go_sem] theorem Ypy (v : Value) (xT : TypeId) (w : World) : (Instr.typeAssert (.iface 276 v) xT 276 true).run Tryz.prog w = .ok (.tuple #[v, .bool true]) w := Zeo Tryz.underlying276 rfl
@[go_sem] theorem Ypc (u : TypeId) (v : Value) (xT : TypeId) (w : World) (h : u ≠ 276) : (Instr.typeAssert (.iface u v) xT 276 true).run Tryz.prog w = .ok (.tuple #[.slice none 0 0, .bool false]) w :=
 Zbk Tryz.underlying276 rfl (by kernel_rfl) h
@[go_sem] theorem Ypz (v : Value) (xT : TypeId) (w : World) : (Instr.typeAssert (.iface 277 v) xT 277 true).run Tryz.prog w = .ok (.tuple #[v, .bool true]) w := Zeo Tryz.underlying277 rfl
@[go_sem] theorem Ypd (u : TypeId) (v : Value) (xT : TypeId) (w : World) (h : u ≠ 277) : (Instr.typeAssert (.iface u v) xT 277 true).run Tryz.prog w = .ok (.tuple #[.map none, .bool false]) w :=
 Zbk Tryz.underlying277 rfl (by kernel_rfl) h
@[go_sem] theorem Yr7 (xT : TypeId) (w : World) : (Instr.typeAssert .nilIface xT 277 true).run Tryz.prog w = .ok (.tuple #[.map none, .bool false]) w :=
 Zq8 Tryz.underlying277 rfl (by kernel_rfl)
section
variable {P : Program} {X : Base} {N : Nat} {Q : Exit → Act → World → Prop} {ops : Array Oper} {rem : List Nat} {ks : List Itm} {s s' : Sta} {a : Act} {w w' : World} {ρ : Nat → RV}
theorem ConcAt.frzVR (h : ConcAt X s a w ρ) (G K : Nat → Bool) : (∀ (x : AV) {v : Value}, VR w (FF X w s.tb ρ) s.tb ρ x v → VR w (FF X w (s.frz G K).tb ρ) (s.frz G K).tb ρ (Zjt G K s.tb x) v) ∧
  ∀ (l : List AV) {vs : List Value}, VRs w (FF X w s.tb ρ) s.tb ρ l vs → VRs w (FF X w (s.frz G K).tb ρ) (s.frz G K).tb ρ (Zig G K s.tb l) vs := by
 have hlv : ∀ k, Za6 ((s.frz G K).tb k) = true → Za6 (s.tb k) = true := by
  intro k hk
  simp only [Sta.frz] at hk
  split at hk
  ·cases hk
  ·cases hx : s.tb k with
   | none => rw [hx] at hk; cases hk
   | some x => rw [hx] at hk; cases x <;> first | rfl | cases hk
 have hlK : ∀ k, K k = true → Za6 ((s.frz G K).tb k) = false := by
  intro k hK
  simp [Sta.frz, hK, Za6]
 have hs : ∀ b, FF X w s.tb ρ b → FF X w (s.frz G K).tb ρ b := fun b hb => ⟨hb.1, hb.2.1, fun k hk => hb.2.2 k (hlv k hk)⟩
 have hnew : ∀ k x b, s.tb k = some x → x.live = true → K k = true → (ρ k).fp b → FF X w (s.frz G K).tb ρ b := by
  intro k x b hk hl hK hb
  obtain ⟨h1, h2⟩ := h.rowBlk hk hl hb
  refine ⟨.inr h1, h2, fun k' hk' e' => ?_⟩
  have := h.apart k' k b (hlv k' hk') (by rw [hk]; exact hl) e' hb
  subst this
  rw [hlK k' hK] at hk'; cases hk'
 have hown : ∀ k v, VR w (FF X w s.tb ρ) s.tb ρ (.own k) v → K k = true → VR w (FF X w (s.frz G K).tb ρ) (s.frz G K).tb ρ (Zjt G K s.tb (.own k)) v := by
  intro k v hv hK
  unfold Zjt
  rw [if_pos hK]
  unfold VR at hv
  rcases hv.2 with ⟨x, hk, hkd, e⟩ | hk
  ·subst e
   rw [hk]
   cases x with
   | box t cs => simp [Blk.kind] at hkd
   | dead => simp [Blk.kind] at hkd
   | res R =>
    obtain ⟨h1, h2⟩ := h.blks k _ hk
    simp only
    unfold VR
    exact R.frz _ _ _ _ _ hs (fun b hb => hnew k _ b hk rfl hK hb) h1
   | row e n y l =>
    obtain ⟨xs, h0, hm, h1, h2, h3, h4⟩ := h.blks k _ hk
    simp only
    unfold VR Rep
    rcases h1.2 with ⟨e1, e2⟩ | ⟨g, cap, cur, e1, hB, hg, hc1, _, hc2, hc3⟩
    ·exact ⟨none, 0, by rw [e1, e2], by omega, h3, h4, .inl (List.eq_nil_of_length_eq_zero e2)⟩
    ·refine ⟨some ⟨g, 0, none⟩, cap, e1, hc1, h3, h4, .inr ⟨g, 0, hnew k _ g hk rfl hK (by rw [h0, e1]; rfl), rfl, ?_⟩⟩
     refine (h2.keep (fun _ _ => rfl) hs).lies fun j u hj => ?_
     rw [cell_of_row w g (0 + j) _ _ _ hg]
     rw [← hc3, List.getElem?_take] at hj
     split at hj
     ·simpa using hj
     ·cases hj
  ·rw [hk]; unfold VR; trivial
 have hptr : ∀ k off v, VR w (FF X w s.tb ρ) s.tb ρ (.ptr k off) v → K k = true → VR w (FF X w (s.frz G K).tb ρ) (s.frz G K).tb ρ (Yni G off (s.tb k)) v := by
  intro k off v hv hK
  unfold VR at hv
  obtain ⟨t, cs, b, h1, h2, rfl⟩ := hv
  obtain ⟨b', vs, h2', hB, hb, hvs, hone⟩ := h.blks k _ h1
  have hρ2 : Value.pointer (some ⟨b, 0, none⟩) = .pointer (some ⟨b', 0, none⟩) := h2.symm.trans (congrArg RV.v h2')
  simp only [Value.pointer.injEq, Option.some.injEq, Addr.mk.injEq, and_true] at hρ2
  subst hρ2
  rw [h1]
  unfold Yni
  simp only
  split
  ·rename_i ds hds
   rw [Zfq hds] at hvs
   have hF' : FF X w (s.frz G K).tb ρ b := hnew k _ b h1 rfl hK (by rw [h2']; rfl)
   have hr := Reps.keep (w' := w) (fun _ _ => rfl) hs ds hvs.dat
   have hl := Zer hb 0
   split
   ·unfold VR Rep
    refine ⟨b, 0, .agg vs.toArray, rfl, hF', ?_, by simpa [Value.cells] using hl⟩
    unfold Rep
    exact ⟨vs, rfl, hr, hone⟩
   ·split
    ·rename_i d
     unfold Reps at hr
     obtain ⟨u, r', rfl, hu, hr'⟩ := hr
     unfold Reps at hr'
     subst hr'
     unfold VR Rep
     exact ⟨b, 0, u, rfl, hF', hu, by rw [Za8 (hone u (by simp))]; simpa using hl⟩
    ·unfold VR; trivial
  ·unfold VR; trivial
 have hkeep : ∀ k x, s.tb k = some x → K k = false → (s.frz G K).tb k = some (Yps G K s.tb x) := fun k x hx hK => by simp [Sta.frz, hx, hK]
 exact ⟨fun x v hv => Yiu hs hown hptr hkeep x hv, fun l vs hv => Zqk hs hown hptr hkeep l hv⟩
def Ycv : Nat → Bool := fun _ => true
def Flat (r : PD) : Prop := ∀ (w w' : World) (F F' : Nat → Prop) (v : Value), Rep w F r v → Rep w' F' r v
theorem Flat.val {u : Value} : Flat (.val u) := fun w w' F F' v h => by unfold Rep at h ⊢; exact h
theorem ConcAt.zcall (hc : ConcAt X s a w ρ) (G : Nat → Bool) {az : List AV} {vs : List Value} (hv : VRs w (FF X w s.tb ρ) s.tb ρ az vs) {ds : List PD} (hx : Zi2 (Zig G Ycv s.tb az) = some ds) {f : FuncId} {r : PD} (hr : PCall P f ds r) (hz : Flat r) :
  Calls P f vs.toArray w fun e w' => ∃ v, e = .returned v ∧ ConcAt X s a w' ρ ∧ VR w' (FF X w' s.tb ρ) s.tb ρ (.dat r) v := by
 have h1 := (hc.frzVR G Ycv).2 az hv
 rw [Zfq hx] at h1
 refine (hr w _ vs (fun b hb => hb.2.1) h1.dat).mono ?_
 rintro e w' ⟨v, rfl, hb, hv'⟩
 exact ⟨v, rfl, hc.grow hb, by unfold VR; exact hz _ _ _ _ _ hv'⟩
theorem ConcAt.dcall (hc : ConcAt X s a w ρ) {az : List AV} {vs : List Value} (hv : VRs w (FF X w s.tb ρ) s.tb ρ az vs) {ds : List PD} (hx : Zi2 az = some ds) {f : FuncId} {r : PD} (hr : PCall P f ds r) :
  Calls P f vs.toArray w fun e w' => ∃ v, e = .returned v ∧ ConcAt X s a w' ρ ∧ VR w' (FF X w' s.tb ρ) s.tb ρ (.dat r) v := by
 rw [Zfq hx] at hv
 refine (hr w _ vs (fun b hb => hb.2.1) hv.dat).mono ?_
 rintro e w' ⟨v, rfl, hb, hv'⟩
 exact ⟨v, rfl, hc.grow hb, by unfold VR; exact hv'.keep (fun _ _ => rfl) (Zti hb hc)⟩
mutual
theorem Zuh (G : Nat → Bool) {tb tb' : Nat → Option Blk} : ∀ x : AV, (∀ k ∈ Zbq x, tb' k = tb k) → Zjt G Ycv tb' x = Zjt G Ycv tb x
 | .any, _ => rfl
 | .dat _, _ => rfl
 | .ptr k off, h => by unfold Zjt; rw [h k (by simp [Zbq])]
 | .own k, h => by unfold Zjt; rw [h k (by simp [Zbq])]
 | .elt k n i off, h => by unfold Zjt; rfl
 | .agg l, h => by unfold Zjt; rw [Zhj G l (fun k hk => h k (by simpa [Zbq] using hk))]
 | .tup l, h => by unfold Zjt; rw [Zhj G l (fun k hk => h k (by simpa [Zbq] using hk))]
 | .iface t x, h => by unfold Zjt; rw [Zuh G x (fun k hk => h k (by simpa [Zbq] using hk))]
 | .clo f l, h => by unfold Zjt; rw [Zhj G l (fun k hk => h k (by simpa [Zbq] using hk))]
theorem Zhj (G : Nat → Bool) {tb tb' : Nat → Option Blk} : ∀ l : List AV, (∀ k ∈ Zcy l, tb' k = tb k) → Zig G Ycv tb' l = Zig G Ycv tb l
 | [], _ => rfl
 | x :: r, h => by unfold Zig; rw [Zuh G x (fun k hk => h k (by simp only [Zcy, List.mem_append]; exact .inl hk)), Zhj G r (fun k hk => h k (by simp only [Zcy, List.mem_append]; exact .inr hk))]
end
theorem Ybp {xs : List Operand} {k : Nat} : k ∈ Zcy (xs.map s.ev) → ∃ x ∈ xs, k ∈ Zbq (s.ev x) := by
 induction xs with
 | nil => intro h; simp [Zcy] at h
 | cons x r ih =>
  intro h
  simp only [List.map_cons, Zcy, List.mem_append] at h
  rcases h with h | h
  ·exact ⟨x, by simp, h⟩
  ·obtain ⟨y, hy, hk⟩ := ih h
   exact ⟨y, by simp [hy], hk⟩
theorem Ynj (G : Nat → Bool) {xs : List Operand} (hev : ∀ x ∈ xs, s'.ev x = s.ev x) (htb : ∀ x ∈ xs, ∀ k ∈ Zbq (s.ev x), s'.tb k = s.tb k) : Zig G Ycv s'.tb (xs.map s'.ev) = Zig G Ycv s.tb (xs.map s.ev) := by
 rw [Zku hev]
 exact Zhj G _ fun k hk => by
  obtain ⟨x, hx, hk⟩ := Ybp hk
  exact htb x hx k hk
theorem Zu9 {o : Oper} (hd : Za7 X.N o.dst = true) {f : FuncId} {r : AV} (h : ∀ a w ρ, ConcAt X s a w ρ → ∃ vs : List Value, (execOp a.eval o).run P w = .ok (.enter f vs.toArray) w ∧
  Calls P f vs.toArray w fun e w' => ∃ v, e = .returned v ∧ ConcAt X s a w' ρ ∧ VR w' (FF X w' s.tb ρ) s.tb ρ r v) : OpS P X o s (s.put o.dst r) := by
 intro a w ⟨ρ, hc⟩ K Q hK
 obtain ⟨vs, he, hcall⟩ := h a w ρ hc
 unfold Oper.wp
 rw [he]
 refine hcall.mono ?_
 rintro e w' ⟨v, rfl, hc', hv⟩
 exact hK _ _ ⟨ρ, hc'.putO hd hv⟩
theorem Zzx {o : Oper} (hd : Za7 X.N o.dst = true) {f : FuncId} {xs : List Operand} {ts : Array TypeId} (ho : o.op = .call { callee := .value (.func f), args := xs.toArray, argTypes := ts }) (G : Nat → Bool) (hf : Zbo P f = true)
  {ds : List PD} (hx : Zi2 (Zig G Ycv s.tb (xs.map s.ev)) = some ds) {r : PD} (hr : PCall P f ds r) (hz : Flat r) : OpS P X o s (s.put o.dst (.dat r)) :=
 Zu9 hd fun a w ρ hc => ⟨xs.map a.eval, by simp [execOp, ho, resolve, Deferred.ofValue, Act.eval, invoke, Zck hf], hc.zcall G (Zhv hc rfl) hx hr hz⟩
theorem Zhb (G : Nat → Bool) {d f : Nat} {xs : List Operand} {ts : Array TypeId} {ds : List PD} {r : PD} (hN : Nat.blt d N = true) (hf : Zbo P f = true) (hx : Zi2 (Zig G Ycv s.tb (xs.map s.ev)) = some ds) (hr : PCall P f ds r) (hz : Flat r) (h : Run P X N Q (.ops ops rem :: ks) (s.put (some d) (.dat r))) :
  Zbp P X N Q ops rem ks (some d) (.call { callee := .value (.func f), args := xs.toArray, argTypes := ts }) s := Zdx hN (fun _ _ _ hd => Zzx hd rfl G hf hx hr hz) h
theorem Zlo {ops : List Oper} (G : Nat → Bool) {d f : Nat} {xs : List Operand} {ts : Array TypeId} {ds : List PD} {r : PD} (hN : Nat.blt d N = true) (hf : Zbo P f = true) (hx : Zi2 (Zig G Ycv s.tb (xs.map s.ev)) = some ds) (hr : PCall P f ds r) (hz : Flat r) :
  TrK P X N ops (some d) (.call { callee := .value (.func f), args := xs.toArray, argTypes := ts }) (Eff.put (some d) (.dat r)) s (s.put (some d) (.dat r)) := Zbm hN fun s' _ _ _ _ hd hev htb => Zzx hd rfl G hf (by rw [Ynj G (fun x hx => hev x (by simp [Op.operands, Call.operands, hx])) (fun x hx => htb x (by simp [Op.operands, Call.operands, hx]))]; exact hx) hr hz
def Zxb (P : Program) (T : TypeId) (name : String) : Option (FuncId × Option TypeId) :=
 match (P.info? T).bind fun i => i.methods.find? (·.name == name) with
 | some m => match m.path.toList, m.func, P.underlying T with
  | [], some (f, true), some (.pointer _) => some (f, none)
  | [], some (f, false), some (.pointer e) => some (f, some e)
  | [], some (f, false), some _ => some (f, none)
  | _, _, _ => none
 | none => none
theorem Zqv {T : TypeId} {name : String} {f : FuncId} {q : Option TypeId} (h : Zxb P T name = some (f, q)) : ∃ i m u b, P.info? T = some i ∧ i.methods.find? (·.name == name) = some m ∧ m.path = #[] ∧ m.func = some (f, b) ∧ P.underlying T = some u ∧
  ((q = none ∧ ((b = true ∧ ∃ e, u = .pointer e) ∨ (b = false ∧ ∀ e, u ≠ .pointer e))) ∨ ∃ e, q = some e ∧ b = false ∧ u = .pointer e) := by
 unfold Zxb at h
 split at h
 ·rename_i m hm
  obtain ⟨i, hi, hf⟩ := Option.bind_eq_some_iff.1 hm
  split at h
  ·rename_i f' e h1 h2 h3
   simp only [Option.some.injEq, Prod.mk.injEq] at h
   exact ⟨i, m, _, true, hi, hf, Array.toList_eq_nil_iff.1 h1, by rw [h2, h.1], h3, .inl ⟨h.2.symm, .inl ⟨rfl, e, rfl⟩⟩⟩
  ·rename_i f' e h1 h2 h3
   simp only [Option.some.injEq, Prod.mk.injEq] at h
   exact ⟨i, m, _, false, hi, hf, Array.toList_eq_nil_iff.1 h1, by rw [h2, h.1], h3, .inr ⟨e, h.2.symm, rfl, rfl⟩⟩
  ·rename_i f' u h0 h1 h2 h3
   simp only [Option.some.injEq, Prod.mk.injEq] at h
   exact ⟨i, m, _, false, hi, hf, Array.toList_eq_nil_iff.1 h1, by rw [h2, h.1], h3, .inl ⟨h.2.symm, .inr ⟨rfl, fun e he => h0 e he⟩⟩⟩
  ·cases h
 ·cases h
theorem Zgs {T : TypeId} {name : String} {f : FuncId} (h : Zxb P T name = some (f, none)) {n : Nat} (hn : 0 < n) (v : Value) (w : World) : (method n T v name).run P w = .ok (f, v) w := by
 obtain ⟨i, m, u, b, hi, hf, hp, hfn, hu, hq⟩ := Zqv h
 obtain ⟨n, rfl⟩ : ∃ k, n = k + 1 := ⟨n - 1, by omega⟩
 rcases hq with ⟨_, ⟨rfl, e, rfl⟩ | ⟨rfl, he⟩⟩ | ⟨e, he, _⟩
 ·simp [method, typeInfo, hi, hf, hp, hfn, follow, receiverAt, run_underlying hu, Place.get, Result.andThen]
 ·cases u <;> simp [method, typeInfo, hi, hf, hp, hfn, follow, receiverAt, run_underlying hu, Place.get, Result.andThen]
  exact absurd rfl (he _)
 ·cases he
theorem Zpl {T e : TypeId} {name : String} {f : FuncId} (h : Zxb P T name = some (f, some e)) {n : Nat} (hn : 0 < n) {p : Addr} {u : Value} {w : World} (hl : (loadVar e p).run P w = .ok u w) : (method n T (.pointer (some p)) name).run P w = .ok (f, u) w := by
 obtain ⟨i, m, d, b, hi, hf, hp, hfn, hu, hq⟩ := Zqv h
 obtain ⟨n, rfl⟩ : ∃ k, n = k + 1 := ⟨n - 1, by omega⟩
 have hwrap : ∀ nm : String, (Builtin.ssaWrapNilChk_ #[T] T #[.pointer (some p), strVal "", strVal nm]).run P w = .ok (.pointer (some p)) w := fun _ => rfl
 rcases hq with ⟨hq, _⟩ | ⟨e', he, rfl, rfl⟩
 ·cases hq
 ·cases he
  simp [method, typeInfo, hi, hf, hp, hfn, follow, receiverAt, run_underlying hu, Place.get, hwrap, Result.andThen, asAddr, hl]
class MI (P : Program) (T : Nat) (name : String) (f : outParam Nat) (q : outParam (Option Nat)) : Prop where
 out : Zxb P T name = some (f, q)
def Recv (P : Program) (X : Base) (s : Sta) (T : TypeId) (name : String) (f : FuncId) (x y : AV) : Prop :=
 ∀ a w ρ, ConcAt X s a w ρ → ∀ v, VR w (FF X w s.tb ρ) s.tb ρ x v → ∃ u, (∀ n, 0 < n → (method n T v name).run P w = .ok (f, u) w) ∧ VR w (FF X w s.tb ρ) s.tb ρ y u
theorem Recv.same {T : TypeId} {name : String} {f : FuncId} {x : AV} (h : Zxb P T name = some (f, none)) : Recv P X s T name f x x := fun a w ρ hc v hv => ⟨v, fun n hn => Zgs h hn v w, hv⟩
theorem Recv.loadD {T e : TypeId} {name : String} {f : FuncId} {d : PD} {n : Nat} {g : Bool} (h : Zxb P T name = some (f, some e)) [ht : VI P e n g] (hf : Zkh g n d = true) : Recv P X s T name f (.dat (.ptr d)) (.dat d) := by
 intro a w ρ hc v hv
 unfold VR Rep at hv
 obtain ⟨b, off, u, rfl, hF, hu, hl⟩ := hv
 have hrun : (loadVar e ⟨b, off, none⟩).run P w = .ok u w := by
  rcases Zn1 hf with ⟨rfl, l, rfl, hn⟩ | ⟨rfl, h1, h1'⟩
  ·unfold Rep at hu
   obtain ⟨vs, rfl, hvs, _⟩ := hu
   exact Zdz ht.out (by rw [hvs.length]; exact hn) (by simpa [Value.cells] using hl)
  ·have hone := hu.one h1 h1'
   rw [Za8 hone] at hl
   exact Zct ht.out (by simpa using hl 0 u rfl)
 exact ⟨u, fun n hn => Zpl h hn hrun, by unfold VR; exact hu⟩
def Yhr : AV → Option (TypeId × AV)
 | .iface T x => some (T, x)
 | .dat (.iface T d) => some (T, .dat d)
 | _ => none
theorem Zod {z : AV} {T : TypeId} {x : AV} (h : Yhr z = some (T, x)) {F : Nat → Prop} {tb : Nat → Option Blk} {v : Value} (hv : VR w F tb ρ z v) : ∃ u, v = .iface T u ∧ VR w F tb ρ x u := by
 unfold Yhr at h
 split at h
 ·simp only [Option.some.injEq, Prod.mk.injEq] at h
  obtain ⟨rfl, rfl⟩ := h
  unfold VR at hv
  exact hv
 ·simp only [Option.some.injEq, Prod.mk.injEq] at h
  obtain ⟨rfl, rfl⟩ := h
  unfold VR Rep at hv
  obtain ⟨u, e, hu⟩ := hv
  exact ⟨u, e, by unfold VR; exact hu⟩
 ·cases h
theorem Zuv {T : TypeId} {name : String} {f : FuncId} {c : Operand} {x y : AV} {xs : List Operand} {ts : Array TypeId} {o : Oper} (ho : o.op = .call { callee := .invoke c name, args := xs.toArray, argTypes := ts }) (hi : Yhr (s.ev c) = some (T, x)) (hR : Recv P X s T name f x y) (hf : Zbo P f = true) (hc : ConcAt X s a w ρ) :
  ∃ vs, VRs w (FF X w s.tb ρ) s.tb ρ (y :: xs.map s.ev) vs ∧ (execOp a.eval o).run P w = .ok (.enter f vs.toArray) w := by
 obtain ⟨v, e, hv⟩ := Zod hi (hc.ev c)
 obtain ⟨u, hm, hu⟩ := hR a w ρ hc v hv
 refine ⟨u :: xs.map a.eval, by unfold VRs; exact ⟨u, _, rfl, hu, Zhv hc rfl⟩, ?_⟩
 have h1 := hm (P.types.size + Made.depth) (by unfold Made.depth; omega)
 simp [execOp, ho, resolve, invoke, callMethod, e, h1, Zck hf, Result.andThen, List.take_of_length_le]
theorem Yrr {o : Oper} (hd : Za7 X.N o.dst = true) {T : TypeId} {name : String} {f : FuncId} {c : Operand} {x y : AV} {xs : List Operand} {ts : Array TypeId} (ho : o.op = .call { callee := .invoke c name, args := xs.toArray, argTypes := ts }) (hi : Yhr (s.ev c) = some (T, x)) (hR : Recv P X s T name f x y) (hf : Zbo P f = true)
  {ds : List PD} (hx : Zi2 (y :: xs.map s.ev) = some ds) {r : PD} (hr : PCall P f ds r) : OpS P X o s (s.put o.dst (.dat r)) :=
 Zu9 hd fun a w ρ hc => by
  obtain ⟨vs, hv, he⟩ := Zuv ho hi hR hf hc
  exact ⟨vs, he, hc.dcall hv hx hr⟩
theorem Yrb {d : Nat} {T : TypeId} {name : String} {f : FuncId} {c : Operand} {x y : AV} {xs : List Operand} {ts : Array TypeId} {ds : List PD} {r : PD} (hN : Nat.blt d N = true) (hi : Yhr (s.ev c) = some (T, x)) (hR : Recv P X s T name f x y) (hf : Zbo P f = true) (hx : Zi2 (y :: xs.map s.ev) = some ds) (hr : PCall P f ds r)
  (h : Run P X N Q (.ops ops rem :: ks) (s.put (some d) (.dat r))) : Zbp P X N Q ops rem ks (some d) (.call { callee := .invoke c name, args := xs.toArray, argTypes := ts }) s := Zdx hN (fun _ _ _ hd => Yrr hd rfl hi hR hf hx hr) h
theorem Zeg {d : Nat} {T e : TypeId} {name : String} {f : FuncId} {c : Operand} {p : PD} {n : Nat} {g : Bool} {xs : List Operand} {ts : Array TypeId} {ds : List PD} {r : PD} (hN : Nat.blt d N = true) (hi : s.ev c = .dat (.iface T (.ptr p))) [hm : MI P T name f (some e)] [ht : VI P e n g] (hfit : Zkh g n p = true) (hf : Zbo P f = true) (hx : Zi2 (.dat p :: xs.map s.ev) = some ds) (hr : PCall P f ds r)
  (h : Run P X N Q (.ops ops rem :: ks) (s.put (some d) (.dat r))) : Zbp P X N Q ops rem ks (some d) (.call { callee := .invoke c name, args := xs.toArray, argTypes := ts }) s := Yrb hN (x := .dat (.ptr p)) (by rw [hi]; rfl) (Recv.loadD hm.out hfit) hf hx hr h
theorem Zdq {d : Nat} {T : TypeId} {name : String} {f : FuncId} {c : Operand} {p : PD} {xs : List Operand} {ts : Array TypeId} {ds : List PD} {r : PD} (hN : Nat.blt d N = true) (hi : s.ev c = .dat (.iface T p)) [hm : MI P T name f none] (hf : Zbo P f = true) (hx : Zi2 (.dat p :: xs.map s.ev) = some ds) (hr : PCall P f ds r)
  (h : Run P X N Q (.ops ops rem :: ks) (s.put (some d) (.dat r))) : Zbp P X N Q ops rem ks (some d) (.call { callee := .invoke c name, args := xs.toArray, argTypes := ts }) s := Yrb hN (x := .dat p) (by rw [hi]; rfl) (Recv.same hm.out) hf hx hr h
theorem Yez (θ : Nat → Nat) {d : Nat} {T : TypeId} {name : String} {f : FuncId} {c : Operand} {x y : AV} {xs : List Operand} {ts : Array TypeId} {az : List AV} {tbl : List (Nat × Blk)} {ι : Type} {out : ι → AV} {tbl' : ι → List (Nat × Blk)} (hN : Nat.blt d N = true) (hi : Yhr (s.ev c) = some (T, x)) (hR : Recv P X s T name f x y) (hf : Zbo P f = true)
  (hr : Zif P f az tbl out tbl') (hx : y :: xs.map s.ev = Zg0 θ az) (htb : TbOk s θ tbl) (hok1 : Zgq θ az tbl = true) (hfr : ∀ i, FreshOk s θ (tbl' i)) (hok : ∀ i, Zgr θ tbl (tbl' i) = true) (h : ∀ i, Run P X N Q (.ops ops rem :: ks) ((s.lend θ (tbl' i)).put (some d) (Zie θ (out i)))) :
  Zbp P X N Q ops rem ks (some d) (.call { callee := .invoke c name, args := xs.toArray, argTypes := ts }) s := ⟨fun ty pos aft => ⟨fun hX a w ⟨ρ, hc⟩ => by
 obtain ⟨vs, hv, he⟩ := Zuv (o := ⟨some d, .call { callee := .invoke c name, args := xs.toArray, argTypes := ts }, ty, pos, aft, none⟩) rfl hi hR hf hc
 have hcall := hc.acall hX.2 θ hr htb hfr hok1 hok (vs := vs) (by rw [← hx]; exact hv)
 refine Ziz hf he (R := fun v w' => ∃ i ρ', ConcAt X (s.lend θ (tbl' i)) a w' ρ' ∧ VR w' (FF X w' (s.lend θ (tbl' i)).tb ρ') (s.lend θ (tbl' i)).tb ρ' (Zie θ (out i)) v) (hcall.mono ?_) ?_
 ·rintro e w' ⟨v, i, ρ', he, h1, h2⟩
  exact ⟨v, he, i, ρ', h1, h2⟩
 ·rintro v w' ⟨i, ρ', h1, h2⟩
  exact (h i).out hX _ _ ⟨ρ', h1.putO (Zoc hN hX) h2⟩⟩⟩
theorem Za2 (θ : Nat → Nat) {d : Nat} {T : TypeId} {name : String} {f : FuncId} {c : Operand} {x : AV} {xs : List Operand} {ts : Array TypeId} {az : List AV} {tbl : List (Nat × Blk)} {out : AV} {tbl' : List (Nat × Blk)} (hN : Nat.blt d N = true) (hi : Yhr (s.ev c) = some (T, x)) [hm : MI P T name f none] (hf : Zbo P f = true)
  (hr : Zbv P f az tbl out tbl') (hx : x :: xs.map s.ev = Zg0 θ az) (htb : TbOk s θ tbl) (hok1 : Zgq θ az tbl = true) (hfr : FreshOk s θ tbl') (hok : Zgr θ tbl tbl' = true) (h : Run P X N Q (.ops ops rem :: ks) ((s.lend θ tbl').put (some d) (Zie θ out))) :
  Zbp P X N Q ops rem ks (some d) (.call { callee := .invoke c name, args := xs.toArray, argTypes := ts }) s := Yez θ hN hi (Recv.same hm.out) hf hr hx htb hok1 (fun _ => hfr) (fun _ => hok) (fun _ => h)
theorem Yjf (θ : Nat → Nat) {d : Nat} {T e : TypeId} {name : String} {f : FuncId} {c : Operand} {p : PD} {n : Nat} {g : Bool} {xs : List Operand} {ts : Array TypeId} {az : List AV} {tbl : List (Nat × Blk)} {out : AV} {tbl' : List (Nat × Blk)} (hN : Nat.blt d N = true) (hi : s.ev c = .dat (.iface T (.ptr p))) [hm : MI P T name f (some e)] [ht : VI P e n g] (hfit : Zkh g n p = true) (hf : Zbo P f = true)
  (hr : Zbv P f az tbl out tbl') (hx : .dat p :: xs.map s.ev = Zg0 θ az) (htb : TbOk s θ tbl) (hok1 : Zgq θ az tbl = true) (hfr : FreshOk s θ tbl') (hok : Zgr θ tbl tbl' = true) (h : Run P X N Q (.ops ops rem :: ks) ((s.lend θ tbl').put (some d) (Zie θ out))) :
  Zbp P X N Q ops rem ks (some d) (.call { callee := .invoke c name, args := xs.toArray, argTypes := ts }) s := Yez θ hN (x := .dat (.ptr p)) (by rw [hi]; rfl) (Recv.loadD hm.out hfit) hf hr hx htb hok1 (fun _ => hfr) (fun _ => hok) (fun _ => h)
theorem Ye0 (θ : Nat → Nat) {d : Nat} {T : TypeId} {name : String} {f : FuncId} {c : Operand} {x : AV} {xs : List Operand} {ts : Array TypeId} {az : List AV} {tbl : List (Nat × Blk)} {ι : Type} {out : ι → AV} {tbl' : ι → List (Nat × Blk)} (hN : Nat.blt d N = true) (hi : Yhr (s.ev c) = some (T, x)) [hm : MI P T name f none] (hf : Zbo P f = true)
  (hr : Zif P f az tbl out tbl') (hx : x :: xs.map s.ev = Zg0 θ az) (htb : TbOk s θ tbl) (hok1 : Zgq θ az tbl = true) (hfr : ∀ i, FreshOk s θ (tbl' i)) (hok : ∀ i, Zgr θ tbl (tbl' i) = true) (h : ∀ i, Run P X N Q (.ops ops rem :: ks) ((s.lend θ (tbl' i)).put (some d) (Zie θ (out i)))) :
  Zbp P X N Q ops rem ks (some d) (.call { callee := .invoke c name, args := xs.toArray, argTypes := ts }) s := Yez θ hN hi (Recv.same hm.out) hf hr hx htb hok1 hfr hok h
theorem Zxh {o : Oper} (hd : Za7 X.N o.dst = true) {f : Nat} {xs : List Operand} (ho : o.op = .makeFunc (.func f) #[] xs.toArray) : OpS P X o s (s.put o.dst (.clo f (xs.map s.ev))) :=
 Zat hd fun a w ρ hc => ⟨.func (.func f) #[] (xs.map a.eval).toArray, by simp [execOp, ho, Instr.makeFunc], by unfold VR; exact ⟨_, rfl, Zhv hc rfl⟩⟩
theorem Zgd {d f : Nat} {xs : List Operand} (hN : Nat.blt d N = true) (h : Run P X N Q (.ops ops rem :: ks) (s.put (some d) (.clo f (xs.map s.ev)))) : Zbp P X N Q ops rem ks (some d) (.makeFunc (.func f) #[] xs.toArray) s := Zdx hN (fun _ _ _ hd => Zxh hd rfl) h
theorem Zp2 {F : Nat → Prop} {tb : Nat → Option Blk} : ∀ {l l' : List AV} {vs vs' : List Value}, VRs w F tb ρ l vs → VRs w F tb ρ l' vs' → VRs w F tb ρ (l ++ l') (vs ++ vs')
 | [], _, _, _, h, h' => by unfold VRs at h; subst h; simpa using h'
 | x :: r, _, _, _, h, h' => by
  unfold VRs at h
  obtain ⟨v, r', rfl, h1, h2⟩ := h
  show VRs w F tb ρ (x :: (r ++ _)) (v :: (r' ++ _))
  unfold VRs
  exact ⟨v, _, rfl, h1, Zp2 h2 h'⟩
theorem Yc5 {f : FuncId} {c : Operand} {caps : List AV} {xs : List Operand} {ts : Array TypeId} {o : Oper} (ho : o.op = .call { callee := .value c, args := xs.toArray, argTypes := ts }) (hi : s.ev c = .clo f caps) (hf : Zbo P f = true) (hc : ConcAt X s a w ρ) :
  ∃ vs, VRs w (FF X w s.tb ρ) s.tb ρ (xs.map s.ev ++ caps) vs ∧ (execOp a.eval o).run P w = .ok (.enter f vs.toArray) w := by
 have h1 := hc.ev c
 rw [hi] at h1
 unfold VR at h1
 obtain ⟨us, e, h2⟩ := h1
 refine ⟨xs.map a.eval ++ us, Zp2 (Zhv hc rfl) h2, ?_⟩
 simp [execOp, ho, resolve, Deferred.ofValue, e, invoke, Zck hf, Result.andThen]
theorem Yra (θ : Nat → Nat) {d : Nat} {f : FuncId} {c : Operand} {caps : List AV} {xs : List Operand} {ts : Array TypeId} {az : List AV} {tbl : List (Nat × Blk)} {ι : Type} {out : ι → AV} {tbl' : ι → List (Nat × Blk)} (hN : Nat.blt d N = true) (hi : s.ev c = .clo f caps) (hf : Zbo P f = true)
  (hr : Zif P f az tbl out tbl') (hx : xs.map s.ev ++ caps = Zg0 θ az) (htb : TbOk s θ tbl) (hok1 : Zgq θ az tbl = true) (hfr : ∀ i, FreshOk s θ (tbl' i)) (hok : ∀ i, Zgr θ tbl (tbl' i) = true) (h : ∀ i, Run P X N Q (.ops ops rem :: ks) ((s.lend θ (tbl' i)).put (some d) (Zie θ (out i)))) :
  Zbp P X N Q ops rem ks (some d) (.call { callee := .value c, args := xs.toArray, argTypes := ts }) s := ⟨fun ty pos aft => ⟨fun hX a w ⟨ρ, hc⟩ => by
 obtain ⟨vs, hv, he⟩ := Yc5 (o := ⟨some d, .call { callee := .value c, args := xs.toArray, argTypes := ts }, ty, pos, aft, none⟩) rfl hi hf hc
 have hcall := hc.acall hX.2 θ hr htb hfr hok1 hok (vs := vs) (by rw [← hx]; exact hv)
 refine Ziz hf he (R := fun v w' => ∃ i ρ', ConcAt X (s.lend θ (tbl' i)) a w' ρ' ∧ VR w' (FF X w' (s.lend θ (tbl' i)).tb ρ') (s.lend θ (tbl' i)).tb ρ' (Zie θ (out i)) v) (hcall.mono ?_) ?_
 ·rintro e w' ⟨v, i, ρ', he, h1, h2⟩
  exact ⟨v, he, i, ρ', h1, h2⟩
 ·rintro v w' ⟨i, ρ', h1, h2⟩
  exact (h i).out hX _ _ ⟨ρ', h1.putO (Zoc hN hX) h2⟩⟩⟩
theorem Zhz (θ : Nat → Nat) {d : Nat} {f : FuncId} {c : Operand} {caps : List AV} {xs : List Operand} {ts : Array TypeId} {az : List AV} {tbl : List (Nat × Blk)} {out : AV} {tbl' : List (Nat × Blk)} (hN : Nat.blt d N = true) (hi : s.ev c = .clo f caps) (hf : Zbo P f = true)
  (hr : Zbv P f az tbl out tbl') (hx : xs.map s.ev ++ caps = Zg0 θ az) (htb : TbOk s θ tbl) (hok1 : Zgq θ az tbl = true) (hfr : FreshOk s θ tbl') (hok : Zgr θ tbl tbl' = true) (h : Run P X N Q (.ops ops rem :: ks) ((s.lend θ tbl').put (some d) (Zie θ out))) :
  Zbp P X N Q ops rem ks (some d) (.call { callee := .value c, args := xs.toArray, argTypes := ts }) s := Yra θ hN hi hf hr hx htb hok1 (fun _ => hfr) (fun _ => hok) (fun _ => h)
def Yck (P : Program) (t : TypeId) : Bool := match P.underlying t with
 | some d => Zf8 d
 | none => false
def Yl3 (P : Program) (t : TypeId) : Option Value := match P.info? t with
 | some i => i.zero
 | none => none
theorem Zs4 {t : TypeId} {z : Value} (h : Yl3 P t = some z) (w : World) : (zeroValue t).run P w = .ok z w := by
 unfold Yl3 at h
 split at h
 ·rename_i i hi
  simp [zeroValue, typeInfo, hi, h, Result.andThen]
 ·cases h
theorem Yrw {o : Oper} (hd : Za7 X.N o.dst = true) {x : Operand} {t T : TypeId} (ho : o.op = .typeAssert x t T true) {d : PD} (hx : s.ev x = .dat (.iface T d)) (ht : Yck P T = true) : OpS P X o s (s.put o.dst (.dat (.tup [d, .val (.bool true)]))) := by
 refine Zat hd fun a w ρ hc => ?_
 have h1 := hc.ev x
 rw [hx] at h1
 unfold VR Rep at h1
 obtain ⟨u, e, hu⟩ := h1
 unfold Yck at ht
 split at ht
 ·rename_i d' hd'
  refine ⟨.tuple #[u, .bool true], by simp [execOp, ho, e, Zeo hd' ht], ?_⟩
  unfold VR Rep
  refine ⟨[u, .bool true], rfl, ?_⟩
  unfold Reps
  refine ⟨u, _, rfl, hu, ?_⟩
  unfold Reps
  refine ⟨_, [], rfl, by unfold Rep; exact ⟨rfl, trivial⟩, by unfold Reps; rfl⟩
 ·cases ht
theorem Yrt {o : Oper} (hd : Za7 X.N o.dst = true) {x : Operand} {t T : TypeId} (ho : o.op = .typeAssert x t T false) {d : PD} (hx : s.ev x = .dat (.iface T d)) (ht : Yck P T = true) : OpS P X o s (s.put o.dst (.dat d)) := by
 refine Zat hd fun a w ρ hc => ?_
 have h1 := hc.ev x
 rw [hx] at h1
 unfold VR Rep at h1
 obtain ⟨u, e, hu⟩ := h1
 unfold Yck at ht
 split at ht
 ·rename_i d' hd'
  exact ⟨u, by simp [execOp, ho, e, Zfv hd' ht], by unfold VR; exact hu⟩
 ·cases ht
theorem Ygf {F : Nat → Prop} {z : Value} (hz : okB z = true) : Rep w F (.tup [.val z, .val (.bool false)]) (.tuple #[z, .bool false]) := by
 unfold Rep
 refine ⟨[z, .bool false], rfl, ?_⟩
 unfold Reps
 refine ⟨z, _, rfl, by unfold Rep; exact ⟨rfl, Zqw hz⟩, ?_⟩
 unfold Reps
 refine ⟨_, [], rfl, by unfold Rep; exact ⟨rfl, trivial⟩, by unfold Reps; rfl⟩
theorem Yrv {o : Oper} (hd : Za7 X.N o.dst = true) {x : Operand} {t T u : TypeId} (ho : o.op = .typeAssert x t T true) {d : PD} (hx : s.ev x = .dat (.iface u d)) (hne : Nat.beq u T = false) (ht : Yck P T = true) {z : Value} (hz : Yl3 P T = some z) (hk : okB z = true) : OpS P X o s (s.put o.dst (.dat (.tup [.val z, .val (.bool false)]))) := by
 refine Zat hd fun a w ρ hc => ?_
 have h1 := hc.ev x
 rw [hx] at h1
 unfold VR Rep at h1
 obtain ⟨q, e, hu⟩ := h1
 have hne' : u ≠ T := fun e => by rw [e] at hne; simp at hne
 unfold Yck at ht
 split at ht
 ·rename_i d' hd'
  exact ⟨.tuple #[z, .bool false], by simp [execOp, ho, e, Zbk hd' ht (Zs4 hz w) hne'], by unfold VR; exact Ygf hk⟩
 ·cases ht
theorem Yru {o : Oper} (hd : Za7 X.N o.dst = true) {x : Operand} {t T : TypeId} (ho : o.op = .typeAssert x t T true) (hx : s.ev x = .dat (.val .nilIface)) (ht : Yck P T = true) {z : Value} (hz : Yl3 P T = some z) (hk : okB z = true) : OpS P X o s (s.put o.dst (.dat (.tup [.val z, .val (.bool false)]))) := by
 refine Zat hd fun a w ρ hc => ?_
 have h1 := hc.ev x
 rw [hx] at h1
 unfold VR Rep at h1
 unfold Yck at ht
 split at ht
 ·rename_i d' hd'
  exact ⟨.tuple #[z, .bool false], by simp [execOp, ho, h1.1, Zq8 hd' ht (Zs4 hz w)], by unfold VR; exact Ygf hk⟩
 ·cases ht
theorem Yrh {d : Nat} {x : Operand} {t T : Nat} {p : PD} (hN : Nat.blt d N = true) (hx : s.ev x = .dat (.iface T p)) (ht : Yck P T = true) (h : Run P X N Q (.ops ops rem :: ks) (s.put (some d) (.dat (.tup [p, .val (.bool true)])))) : Zbp P X N Q ops rem ks (some d) (.typeAssert x t T true) s := Zdx hN (fun _ _ _ hd => Yrw hd rfl hx ht) h
theorem Yrg {d : Nat} {x : Operand} {t T : Nat} {p : PD} (hN : Nat.blt d N = true) (hx : s.ev x = .dat (.iface T p)) (ht : Yck P T = true) (h : Run P X N Q (.ops ops rem :: ks) (s.put (some d) (.dat p))) : Zbp P X N Q ops rem ks (some d) (.typeAssert x t T false) s := Zdx hN (fun _ _ _ hd => Yrt hd rfl hx ht) h
theorem Ytd {d : Nat} {x : Operand} {t T u : Nat} {p : PD} {z : Value} (hN : Nat.blt d N = true) (hx : s.ev x = .dat (.iface u p)) (hne : Nat.beq u T = false) (ht : Yck P T = true) (hz : Yl3 P T = some z) (hk : okB z = true) (h : Run P X N Q (.ops ops rem :: ks) (s.put (some d) (.dat (.tup [.val z, .val (.bool false)])))) : Zbp P X N Q ops rem ks (some d) (.typeAssert x t T true) s := Zdx hN (fun _ _ _ hd => Yrv hd rfl hx hne ht hz hk) h
theorem Ytc {d : Nat} {x : Operand} {t T : Nat} {z : Value} (hN : Nat.blt d N = true) (hx : s.ev x = .dat (.val .nilIface)) (ht : Yck P T = true) (hz : Yl3 P T = some z) (hk : okB z = true) (h : Run P X N Q (.ops ops rem :: ks) (s.put (some d) (.dat (.tup [.val z, .val (.bool false)])))) : Zbp P X N Q ops rem ks (some d) (.typeAssert x t T true) s := Zdx hN (fun _ _ _ hd => Yru hd rfl hx ht hz hk) h
def Ys0 (P : Program) (f : FuncId) (n : Nat) : Prop := Zbo P f = true ∧ ∀ (vs : List Value) (u : FrameMode) (w : World), vs.length = n → CallsD P f vs.toArray u w fun e u' w' => u' = u ∧ (∃ v, e = .returned v) ∧ Below w.heap.size w w'
theorem ConcAt.defer (h : ConcAt X s a w ρ) {d : Deferred} (hd : Zri X.P d) : ConcAt X s { a with defers := d :: a.defers } w ρ :=
 ⟨h.size, fun d' hd' => (List.mem_cons.1 hd').elim (fun e => e ▸ hd) (h.defers d'), h.below, h.tmps, h.blks, h.apart, h.lent⟩
theorem Yif {ops : List Oper} {T : TypeId} {name : String} {f : FuncId} {c : Operand} {x : AV} {xs : List Operand} {ts : Array TypeId} (hi : Yhr (s.ev c) = some (T, x)) [hm : MI P T name f none] (hf : Ys0 P f (xs.length + 1)) :
  TrK P X N ops none (.defer { callee := .invoke c name, args := xs.toArray, argTypes := ts }) ⟨none, none, none, none⟩ s s := ⟨fun hX ty pos aft g s' hA => by
 intro a w ⟨ρ, hc⟩ K Q hK
 have hev : s'.ev c = s.ev c := Zej hA (by simp [Op.operands, Call.operands])
 obtain ⟨v, e, hv⟩ := Zod (by rw [hev]; exact hi) (hc.ev c)
 have hrun : (execOp a.eval ⟨none, .defer { callee := .invoke c name, args := xs.toArray, argTypes := ts }, ty, pos, aft, g⟩).run P w = .ok (.defer { target := .fn (.method name) #[], args := #[.iface T v] ++ (xs.map a.eval).toArray }) w := by
  simp [execOp, resolve, e, Result.andThen]
 unfold Oper.wp
 rw [hrun, Oper.upon_defer]
 refine hK _ _ ⟨ρ, (hc.defer ?_).put_none .any undef⟩
 rw [hX.2]
 refine ⟨.method name, #[], f, (v :: xs.map a.eval).toArray, rfl, fun w' => ?_, fun u w' => ?_⟩
 ·simp [invoke, callMethod, Zgs hm.out (show 0 < P.types.size + Made.depth by unfold Made.depth; omega), Zck hf.1, Result.andThen, List.take_of_length_le]
 ·exact hf.2 _ u w' (by simp), rfl⟩
theorem Zd7 {T : TypeId} {name : String} {f : FuncId} {c : Operand} {x : AV} {xs : List Operand} {ts : Array TypeId} (hi : Yhr (s.ev c) = some (T, x)) [hm : MI P T name f none] (hf : Ys0 P f (xs.length + 1)) (h : Run P X N Q (.ops ops rem :: ks) s) :
  Zbp P X N Q ops rem ks none (.defer { callee := .invoke c name, args := xs.toArray, argTypes := ts }) s := ⟨fun ty pos aft => ⟨fun hX a w ⟨ρ, hc⟩ => by
 obtain ⟨v, e, hv⟩ := Zod hi (hc.ev c)
 have hrun : (execOp a.eval ⟨none, .defer { callee := .invoke c name, args := xs.toArray, argTypes := ts }, ty, pos, aft, none⟩).run P w = .ok (.defer { target := .fn (.method name) #[], args := #[.iface T v] ++ (xs.map a.eval).toArray }) w := by
  simp [execOp, resolve, e, Result.andThen]
 unfold Oper.wp
 rw [hrun, Oper.upon_defer]
 refine h.out hX _ _ ⟨ρ, (hc.defer ?_).put_none .any undef⟩
 rw [hX.2]
 refine ⟨.method name, #[], f, (v :: xs.map a.eval).toArray, rfl, fun w' => ?_, fun u w' => ?_⟩
 ·simp [invoke, callMethod, Zgs hm.out (show 0 < P.types.size + Made.depth by unfold Made.depth; omega), Zck hf.1, Result.andThen, List.take_of_length_le]
 ·exact hf.2 _ u w' (by simp)⟩⟩
theorem Zrv (θ : Nat → Nat) {ops : List Oper} {d f k : Nat} {xs : List Operand} {ts : Array TypeId} {az : List AV} {b b' : Blk} {out : AV} (hN : Nat.blt d N = true) (hf : Zbo P f = true) (hr : Zbv P f az [(1000, b)] out [(1000, b')]) (hx : xs.map s.ev = Zg0 θ az) (hk : θ 1000 = k)
  (htb : s.tb k = some (Zml θ b)) (hok1 : Zgq θ az [(1000, b)] = true) (hok : Zgr θ [(1000, b)] [(1000, b')] = true) :
  TrK P X N ops (some d) (.call { callee := .value (.func f), args := xs.toArray, argTypes := ts }) ⟨none, some (k, Zml θ b'), some (d, Zie θ out), none⟩ s ((s.set k (Zml θ b')).put (some d) (Zie θ out)) := ⟨fun hX ty pos aft g s' hA => by
 have hev : xs.map s'.ev = Zg0 θ az := by rw [Zku (fun x hx => Zej hA (by simp [Op.operands, Call.operands, hx]))]; exact hx
 have htb' : s'.tb k = some (Zml θ b) := (Zho hA rfl).trans htb
 intro a w ⟨ρ, hc⟩ K Q hK
 have hcall := hc.acall hX.2 θ hr (by refine ⟨?_, trivial⟩; rw [hk]; exact htb') (fun _ => ⟨.inl rfl, trivial⟩) hok1 (fun _ => hok) (vs := xs.map a.eval) (by rw [← hev]; exact Zhv hc rfl)
 refine Ziz hf (vs := xs.map a.eval) (by simp [execOp, resolve, Deferred.ofValue, Act.eval, invoke, Zck hf]) (R := fun v w' => ∃ ρ', ConcAt X (s'.lend θ [(1000, b')]) a w' ρ' ∧ VR w' (FF X w' (s'.lend θ [(1000, b')]).tb ρ') (s'.lend θ [(1000, b')]).tb ρ' (Zie θ out) v) (hcall.mono ?_) ?_
 ·rintro e w' ⟨v, i, ρ', he, h1, h2⟩
  exact ⟨v, he, ρ', h1, h2⟩
 ·rintro v w' ⟨ρ', h1, h2⟩
  refine hK _ _ ?_
  have := h1.putO (d := some d) (Zoc hN hX) h2
  refine ⟨ρ', ?_⟩
  have e : ((s'.lend θ [(1000, b')]).put (some d) (Zie θ out)) = (Eff.mk none (some (k, Zml θ b')) (some (d, Zie θ out)) none).app s' := by
   subst hk; rfl
  rw [← e]; exact this, rfl⟩
theorem Zo6 {o : Oper} (hd : Za7 X.N o.dst = true) {t : TypeId} {x : Operand} (ho : o.op = .makeInterface t x) {y : AV} (hx : s.ev x = y) (ht : Zt2 P t = true) : OpS P X o s (s.put o.dst (.iface t y)) := by
 refine Zat hd fun a w ρ hc => ⟨.iface t (a.eval x), ?_, ?_⟩
 ·unfold Zt2 at ht
  split at ht
  ·cases ht
  ·rename_i d2 hne hu
   cases d2 <;> first | (simp [execOp, ho, Instr.makeInterface, run_underlying hu]; done) | exact (hne _ rfl).elim
  ·cases ht
 ·have h1 := hc.ev x
  rw [hx] at h1
  unfold VR
  exact ⟨_, rfl, h1⟩
theorem Zfm {d : Nat} {x : Operand} {t k off : Nat} (hN : Nat.blt d N = true) (hx : s.ev x = .ptr k off) (ht : Zt2 P t = true) (h : Run P X N Q (.ops ops rem :: ks) (s.put (some d) (.iface t (.ptr k off)))) : Zbp P X N Q ops rem ks (some d) (.makeInterface t x) s := Zdx hN (fun _ _ _ hd => Zo6 hd rfl hx ht) h
theorem Zyn {ops : List Oper} {d : Nat} {x : Operand} {t k off : Nat} (hN : Nat.blt d N = true) (hx : s.ev x = .ptr k off) (ht : Zt2 P t = true) : TrK P X N ops (some d) (.makeInterface t x) (Eff.put (some d) (.iface t (.ptr k off))) s (s.put (some d) (.iface t (.ptr k off))) := Zbm hN fun s' _ _ _ _ hd hev htb => Zo6 hd rfl ((hev _ (by simp [Op.operands])).trans hx) ht
theorem Yfx {o : Oper} (hd : Za7 X.N o.dst = true) {x : Operand} (ho : o.op = .nilCheck x) {t : TypeId} {y : PD} (hx : s.ev x = .dat (.iface t y)) : OpS P X o s (s.put o.dst (.dat (.iface t y))) := by
 refine Zat hd fun a w ρ hc => ?_
 have h1 := hc.ev x
 rw [hx] at h1
 unfold VR Rep at h1
 obtain ⟨u, e, hu⟩ := h1
 exact ⟨.iface t u, by simp [execOp, ho, e], by unfold VR Rep; exact ⟨u, rfl, hu⟩⟩
theorem Zg5 {d : Nat} {x : Operand} {t : TypeId} {y : PD} (hN : Nat.blt d N = true) (hx : s.ev x = .dat (.iface t y)) (h : Run P X N Q (.ops ops rem :: ks) (s.put (some d) (.dat (.iface t y)))) : Zbp P X N Q ops rem ks (some d) (.nilCheck x) s := Zdx hN (fun _ _ _ hd => Yfx hd rfl hx) h
theorem Ylb {ops : List Oper} {d : Nat} {x : Operand} {t : TypeId} {y : PD} (hN : Nat.blt d N = true) (hx : s.ev x = .dat (.iface t y)) : TrK P X N ops (some d) (.nilCheck x) (Eff.put (some d) (.dat (.iface t y))) s (s.put (some d) (.dat (.iface t y))) := Zbm hN fun s' _ _ _ _ hd hev htb => Yfx hd rfl ((hev _ (by simp [Op.operands])).trans hx)
theorem Zc8 {d : Nat} {x : Operand} {t : TypeId} {y : AV} (hN : Nat.blt d N = true) (hx : s.ev x = .iface t y) (h : Run P X N Q (.ops ops rem :: ks) (s.put (some d) (.iface t y))) : Zbp P X N Q ops rem ks (some d) (.assign x) s := Zdx hN (fun _ _ _ hd => Zhp hd rfl hx) h
theorem Zt3 {ops : List Oper} {d : Nat} {x : Operand} {t : TypeId} {y : AV} (hN : Nat.blt d N = true) (hx : s.ev x = .iface t y) : TrK P X N ops (some d) (.assign x) (Eff.put (some d) (.iface t y)) s (s.put (some d) (.iface t y)) := Zf4 hN fun s' _ _ _ _ hd hev htb => Zhp hd rfl ((hev _ (by simp [Op.operands])).trans hx)
theorem Zdw {d : Nat} {x : Operand} {t : TypeId} {y : AV} (hN : Nat.blt d N = true) (hx : s.ev x = .iface t y) (h : Run P X N Q (.ops ops rem :: ks) (s.put (some d) (.iface t y))) : Zbp P X N Q ops rem ks (some d) (.move x) s := Zdx hN (fun _ _ _ hd => Zhc hd rfl hx) h
theorem Ydo {ops : List Oper} {d : Nat} {x : Operand} {t : TypeId} {y : AV} (hN : Nat.blt d N = true) (hx : s.ev x = .iface t y) : TrK P X N ops (some d) (.move x) (Eff.put (some d) (.iface t y)) s (s.put (some d) (.iface t y)) := Zf4 hN fun s' _ _ _ _ hd hev htb => Zhc hd rfl ((hev _ (by simp [Op.operands])).trans hx)
theorem Zh0 {d : Nat} {x : Operand} {f : Nat} {l : List AV} (hN : Nat.blt d N = true) (hx : s.ev x = .clo f l) (h : Run P X N Q (.ops ops rem :: ks) (s.put (some d) (.clo f l))) : Zbp P X N Q ops rem ks (some d) (.move x) s := Zdx hN (fun _ _ _ hd => Zhc hd rfl hx) h
theorem Ymt {ops : List Oper} {d : Nat} {x : Operand} {f : Nat} {l : List AV} (hN : Nat.blt d N = true) (hx : s.ev x = .clo f l) : TrK P X N ops (some d) (.move x) (Eff.put (some d) (.clo f l)) s (s.put (some d) (.clo f l)) := Zf4 hN fun s' _ _ _ _ hd hev htb => Zhc hd rfl ((hev _ (by simp [Op.operands])).trans hx)
theorem Zzn {d : Nat} {x : Operand} {t k off T n : Nat} {cs : List AV} {g : Bool} {f : Nat} {l : List AV} (hN : Nat.blt d N = true) (hx : s.ev x = .ptr k off) (hk : s.tb k = some (.box T cs)) [ht : VI P t n g] (hf : Zrb g n off cs = some (.clo f l)) (h : Run P X N Q (.ops ops rem :: ks) (s.put (some d) (.clo f l))) : Zbp P X N Q ops rem ks (some d) (.load t x) s := Zdx hN (fun _ _ _ hd => Zh2 hd rfl hx hk ht.out hf) h
theorem Zo5 {o : Oper} (hd : Za7 X.N o.dst = true) {x : Operand} {i : Nat} (ho : o.op = .extract x i) {l : List AV} (hx : s.ev x = .tup l) {y : AV} (hl : l[i]? = some y) : OpS P X o s (s.put o.dst y) := by
 refine Zat hd fun a w ρ hc => ?_
 have h1 := hc.ev x
 rw [hx] at h1
 unfold VR at h1
 obtain ⟨vs, e, h2⟩ := h1
 obtain ⟨u, hu, hv⟩ := h2.at_ hl
 exact ⟨u, by simp [execOp, ho, e, Instr.extract, hu], hv⟩
theorem Zhm {d : Nat} {x : Operand} {i : Nat} {l : List AV} {t : TypeId} {y : AV} (hN : Nat.blt d N = true) (hx : s.ev x = .tup l) (hl : l[i]? = some (.iface t y)) (h : Run P X N Q (.ops ops rem :: ks) (s.put (some d) (.iface t y))) : Zbp P X N Q ops rem ks (some d) (.extract x i) s := Zdx hN (fun _ _ _ hd => Zo5 hd rfl hx hl) h
theorem Zhl {d : Nat} {x : Operand} {i : Nat} {l : List AV} {y : PD} (hN : Nat.blt d N = true) (hx : s.ev x = .tup l) (hl : l[i]? = some (.dat y)) (h : Run P X N Q (.ops ops rem :: ks) (s.put (some d) (.dat y))) : Zbp P X N Q ops rem ks (some d) (.extract x i) s := Zdx hN (fun _ _ _ hd => Zo5 hd rfl hx hl) h
theorem Zoq {d : Nat} {x : Operand} {l : List AV} (hN : Nat.blt d N = true) (hx : s.ev x = .tup l) (h : Run P X N Q (.ops ops rem :: ks) (s.put (some d) (.tup l))) : Zbp P X N Q ops rem ks (some d) (.move x) s := Zdx hN (fun _ _ _ hd => Zhc hd rfl hx) h
def Yqv (k : FloatKind) : BinOp → Nat → Nat → Option Bool
 | .eql, a, b => some (k.format.order a b == some .eq)
 | .neq, a, b => some (k.format.order a b != some .eq)
 | .lss, a, b => some (k.format.order a b == some .lt)
 | .leq, a, b => some (k.format.order a b == some .lt || k.format.order a b == some .eq)
 | .gtr, a, b => some (k.format.order a b == some .gt)
 | .geq, a, b => some (k.format.order a b == some .gt || k.format.order a b == some .eq)
 | _, _, _ => none
theorem Ykk {op : BinOp} {k : FloatKind} {a b : Nat} {r : Bool} (h : Yqv k op a b = some r) (t : TypeId) (x y : Operand) (w : World) : (do eqGuard op t x y (.float k a) (.float k b); binOp op t (.float k a) (.float k b) : Sem Value).run P w = .ok (.bool r) w := by
 unfold Yqv at h
 split at h <;> first | cases h | skip
 all_goals simp [eqGuard, binOp, Op.floatCmp, go_sem]
theorem Yfo {o : Oper} (hd : Za7 X.N o.dst = true) {op : BinOp} {t t' : TypeId} {x y : Operand} (ho : o.op = .binOp op t x y t') {k : FloatKind} {a b : Nat} {r : Bool} (hx : s.ev x = .dat (.val (.float k a))) (hy : s.ev y = .dat (.val (.float k b))) (hr : Yqv k op a b = some r) : OpS P X o s (s.put o.dst (.dat (.val (.bool r)))) :=
 Zo4 hd ho hx hy (Ykk hr t x y) trivial
theorem Zzj {d : Nat} {x y : Operand} {op : BinOp} {t t' : Nat} {k : FloatKind} {a b : Nat} {r : Bool} (hN : Nat.blt d N = true) (hx : s.ev x = .dat (.val (.float k a))) (hy : s.ev y = .dat (.val (.float k b))) (hr : Yqv k op a b = some r) (h : Run P X N Q (.ops ops rem :: ks) (s.put (some d) (.dat (.val (.bool r))))) : Zbp P X N Q ops rem ks (some d) (.binOp op t x y t') s := Zdx hN (fun _ _ _ hd => Yfo hd rfl hx hy hr) h
theorem Yqh {ops : List Oper} {d : Nat} {x y : Operand} {op : BinOp} {t t' : Nat} {k : FloatKind} {a b : Nat} {r : Bool} (hN : Nat.blt d N = true) (hx : s.ev x = .dat (.val (.float k a))) (hy : s.ev y = .dat (.val (.float k b))) (hr : Yqv k op a b = some r) : TrK P X N ops (some d) (.binOp op t x y t') (Eff.put (some d) (.dat (.val (.bool r)))) s (s.put (some d) (.dat (.val (.bool r)))) := Zbm hN fun s' _ _ _ _ hd hev htb => Yfo hd rfl ((hev _ (by simp [Op.operands])).trans hx) ((hev _ (by simp [Op.operands])).trans hy) hr
def Yta (P : Program) (t : TypeId) : Option FloatKind := match P.underlying t with
 | some (.float k) => some k
 | _ => none
theorem Yj0 {o : Oper} (hd : Za7 X.N o.dst = true) {t t' : TypeId} {x : Operand} (ho : o.op = .convert t t' x) {k : IntKind} {q : FloatKind} {a : Int} (hx : s.ev x = .dat (.val (.int k a))) (ht0 : Yno P t = some k) (ht : Yta P t' = some q) : OpS P X o s (s.put o.dst (.dat (.val (.float q (floatOfInt q a))))) := by
 refine Zat hd fun a' w ρ hc => ⟨.float q (floatOfInt q a), ?_, by unfold VR Rep; exact ⟨rfl, floatOfInt_wf q a⟩⟩
 have h1 := hc.ev x
 rw [hx] at h1
 unfold VR Rep at h1
 unfold Yta at ht
 split at ht
 ·rename_i q' hu
  cases ht
  unfold Yno at ht0
  split at ht0
  ·rename_i k' hu0
   simp [execOp, ho, h1.1, convert, run_underlying hu, run_underlying hu0, Conv.intToFloat]
   rfl
  ·cases ht0
 ·cases ht
theorem Zsg {d : Nat} {x : Operand} {t t' : Nat} {k : IntKind} {q : FloatKind} {a : Int} (hN : Nat.blt d N = true) (hx : s.ev x = .dat (.val (.int k a))) (ht0 : Yno P t = some k) (ht : Yta P t' = some q) (h : Run P X N Q (.ops ops rem :: ks) (s.put (some d) (.dat (.val (.float q (floatOfInt q a)))))) : Zbp P X N Q ops rem ks (some d) (.convert t t' x) s := Zdx hN (fun _ _ _ hd => Yj0 hd rfl hx ht0 ht) h
end
end Go.Proofs.YtgmahieoiifpfaaGreat
section
namespace Go.Proofs.YtgmahieoiifpfaaGreat
open Go
instance : VI Tryz.prog 2 1 false := ⟨by kernel_rfl⟩
instance : VI Tryz.prog 3 1 false := ⟨by kernel_rfl⟩
instance : VI Tryz.prog 9 1 false := ⟨by kernel_rfl⟩
instance : VI Tryz.prog 20 1 false := ⟨by kernel_rfl⟩
instance : VI Tryz.prog 22 1 false := ⟨by kernel_rfl⟩
instance : VI Tryz.prog 23 1 false := ⟨by kernel_rfl⟩
instance : VI Tryz.prog 24 1 false := ⟨by kernel_rfl⟩
instance : VI Tryz.prog 25 1 false := ⟨by kernel_rfl⟩
instance : VI Tryz.prog 27 6 true := ⟨by kernel_rfl⟩
instance : VI Tryz.prog 29 11 true := ⟨by kernel_rfl⟩
instance : VI Tryz.prog 38 1 false := ⟨by kernel_rfl⟩
instance : VI Tryz.prog 94 1 false := ⟨by kernel_rfl⟩
instance : VI Tryz.prog 95 1 false := ⟨by kernel_rfl⟩
instance : VI Tryz.prog 96 1 false := ⟨by kernel_rfl⟩
instance : VI Tryz.prog 97 1 false := ⟨by kernel_rfl⟩
instance : VI Tryz.prog 99 4 true := ⟨by kernel_rfl⟩
instance : VI Tryz.prog 102 1 false := ⟨by kernel_rfl⟩
instance : VI Tryz.prog 109 1 false := ⟨by kernel_rfl⟩
instance : VI Tryz.prog 114 1 false := ⟨by kernel_rfl⟩
instance : VI Tryz.prog 116 1 true := ⟨by kernel_rfl⟩
instance : VI Tryz.prog 118 1 false := ⟨by kernel_rfl⟩
instance : VI Tryz.prog 120 1 true := ⟨by kernel_rfl⟩
instance : VI Tryz.prog 152 1 false := ⟨by kernel_rfl⟩
instance : VI Tryz.prog 153 1 false := ⟨by kernel_rfl⟩
instance : VI Tryz.prog 186 1 false := ⟨by kernel_rfl⟩
instance : VI Tryz.prog 204 1 false := ⟨by kernel_rfl⟩
instance : VI Tryz.prog 213 2 true := ⟨by kernel_rfl⟩
instance : VI Tryz.prog 224 5 true := ⟨by kernel_rfl⟩
instance : VI Tryz.prog 271 1 false := ⟨by kernel_rfl⟩
instance : VI Tryz.prog 315 1 true := ⟨by kernel_rfl⟩
instance : VI Tryz.prog 321 1 false := ⟨by kernel_rfl⟩
instance : VI Tryz.prog 358 1 false := ⟨by kernel_rfl⟩
instance : VI Tryz.prog 397 1 false := ⟨by kernel_rfl⟩
instance : VI Tryz.prog 398 1 false := ⟨by kernel_rfl⟩
instance : SI Tryz.prog 22 29 11 168 := ⟨by kernel_rfl⟩
instance : SI Tryz.prog 23 27 6 88 := ⟨by kernel_rfl⟩
instance : SI Tryz.prog 24 9 1 16 := ⟨by kernel_rfl⟩
instance : SI Tryz.prog 38 22 1 24 := ⟨by kernel_rfl⟩
instance : SI Tryz.prog 113 99 4 32 := ⟨by kernel_rfl⟩
instance : SI Tryz.prog 114 99 4 32 := ⟨by kernel_rfl⟩
instance : SI Tryz.prog 117 224 5 40 := ⟨by kernel_rfl⟩
instance : SI Tryz.prog 118 224 5 40 := ⟨by kernel_rfl⟩
instance : SI Tryz.prog 153 99 4 32 := ⟨by kernel_rfl⟩
instance : SI Tryz.prog 186 213 2 32 := ⟨by kernel_rfl⟩
instance : SI Tryz.prog 276 20 1 16 := ⟨by kernel_rfl⟩
instance : SI Tryz.prog 282 153 1 24 := ⟨by kernel_rfl⟩
instance : SI Tryz.prog 397 20 1 16 := ⟨by kernel_rfl⟩
instance : ZI Tryz.prog 3 [.int .i64 0] := ⟨by kernel_rfl, by kernel_rfl⟩
instance : ZI Tryz.prog 9 [.string ⟨#[]⟩] := ⟨by kernel_rfl, by kernel_rfl⟩
instance : ZI Tryz.prog 22 [.slice none 0 0] := ⟨by kernel_rfl, by kernel_rfl⟩
instance : ZI Tryz.prog 24 [.slice none 0 0] := ⟨by kernel_rfl, by kernel_rfl⟩
instance : ZI Tryz.prog 27 [.int .i64 0, .int .i64 0, .float .f64 0, .string ⟨#[]⟩, .slice none 0 0, .slice none 0 0] := ⟨by kernel_rfl, by kernel_rfl⟩
instance : ZI Tryz.prog 29 [.int .i64 0, .string ⟨#[]⟩, .slice none 0 0, .slice none 0 0, .int .i64 0, .int .i64 0, .float .f64 0, .string ⟨#[]⟩, .slice none 0 0, .slice none 0 0, .int .i64 0] := ⟨by kernel_rfl, by kernel_rfl⟩
instance : ZI Tryz.prog 38 [.slice none 0 0] := ⟨by kernel_rfl, by kernel_rfl⟩
instance : ZI Tryz.prog 99 [.pointer none, .pointer none, .pointer none, .pointer none] := ⟨by kernel_rfl, by kernel_rfl⟩
instance : ZI Tryz.prog 102 [.nilIface] := ⟨by kernel_rfl, by kernel_rfl⟩
instance : ZI Tryz.prog 116 [.slice none 0 0] := ⟨by kernel_rfl, by kernel_rfl⟩
instance : ZI Tryz.prog 120 [.slice none 0 0] := ⟨by kernel_rfl, by kernel_rfl⟩
instance : ZI Tryz.prog 122 [.slice none 0 0, .slice none 0 0] := ⟨by kernel_rfl, by kernel_rfl⟩
instance : ZI Tryz.prog 186 [.slice none 0 0] := ⟨by kernel_rfl, by kernel_rfl⟩
instance : ZI Tryz.prog 213 [.string ⟨#[]⟩, .nilIface] := ⟨by kernel_rfl, by kernel_rfl⟩
instance : ZI Tryz.prog 224 [.pointer none, .pointer none, .pointer none, .pointer none, .pointer none] := ⟨by kernel_rfl, by kernel_rfl⟩
instance : ZI Tryz.prog 271 [.pointer none] := ⟨by kernel_rfl, by kernel_rfl⟩
instance : ZI Tryz.prog 315 [.nilIface] := ⟨by kernel_rfl, by kernel_rfl⟩
instance : ZI Tryz.prog 427 [.slice none 0 0, .pointer none, .int .i64 0] := ⟨by kernel_rfl, by kernel_rfl⟩
instance : PLI Tryz.prog 27 [(0, 1), (1, 1), (2, 1), (3, 1), (4, 1), (5, 1)] := ⟨by kernel_rfl⟩
instance : FI Tryz.prog 27 0 0 1 false := ⟨by kernel_rfl⟩
instance : FI Tryz.prog 27 1 1 1 false := ⟨by kernel_rfl⟩
instance : FI Tryz.prog 27 2 2 1 false := ⟨by kernel_rfl⟩
instance : FI Tryz.prog 27 3 3 1 false := ⟨by kernel_rfl⟩
instance : FI Tryz.prog 27 4 4 1 false := ⟨by kernel_rfl⟩
instance : FI Tryz.prog 27 5 5 1 false := ⟨by kernel_rfl⟩
instance : PLI Tryz.prog 29 [(0, 1), (1, 1), (2, 1), (3, 1), (4, 6), (10, 1)] := ⟨by kernel_rfl⟩
instance : FI Tryz.prog 29 0 0 1 false := ⟨by kernel_rfl⟩
instance : FI Tryz.prog 29 1 1 1 false := ⟨by kernel_rfl⟩
instance : FI Tryz.prog 29 2 2 1 false := ⟨by kernel_rfl⟩
instance : FI Tryz.prog 29 3 3 1 false := ⟨by kernel_rfl⟩
instance : FI Tryz.prog 29 4 4 6 true := ⟨by kernel_rfl⟩
instance : FI Tryz.prog 29 5 10 1 false := ⟨by kernel_rfl⟩
instance : PLI Tryz.prog 99 [(0, 1), (1, 1), (2, 1), (3, 1)] := ⟨by kernel_rfl⟩
instance : FI Tryz.prog 99 0 0 1 false := ⟨by kernel_rfl⟩
instance : FI Tryz.prog 99 1 1 1 false := ⟨by kernel_rfl⟩
instance : FI Tryz.prog 99 2 2 1 false := ⟨by kernel_rfl⟩
instance : FI Tryz.prog 99 3 3 1 false := ⟨by kernel_rfl⟩
instance : PLI Tryz.prog 116 [(0, 1)] := ⟨by kernel_rfl⟩
instance : FI Tryz.prog 116 0 0 1 false := ⟨by kernel_rfl⟩
instance : PLI Tryz.prog 120 [(0, 1)] := ⟨by kernel_rfl⟩
instance : FI Tryz.prog 120 0 0 1 false := ⟨by kernel_rfl⟩
instance : PLI Tryz.prog 122 [(0, 1), (1, 1)] := ⟨by kernel_rfl⟩
instance : FI Tryz.prog 122 0 0 1 true := ⟨by kernel_rfl⟩
instance : FI Tryz.prog 122 1 1 1 true := ⟨by kernel_rfl⟩
instance : PLI Tryz.prog 213 [(0, 1), (1, 1)] := ⟨by kernel_rfl⟩
instance : FI Tryz.prog 213 0 0 1 false := ⟨by kernel_rfl⟩
instance : FI Tryz.prog 213 1 1 1 false := ⟨by kernel_rfl⟩
instance : PLI Tryz.prog 224 [(0, 4), (4, 1)] := ⟨by kernel_rfl⟩
instance : FI Tryz.prog 224 0 0 4 true := ⟨by kernel_rfl⟩
instance : FI Tryz.prog 224 1 4 1 false := ⟨by kernel_rfl⟩
instance : PLI Tryz.prog 315 [(0, 1)] := ⟨by kernel_rfl⟩
instance : FI Tryz.prog 315 0 0 1 false := ⟨by kernel_rfl⟩
instance : PLI Tryz.prog 427 [(0, 1), (1, 1), (2, 1)] := ⟨by kernel_rfl⟩
instance : FI Tryz.prog 427 0 0 1 false := ⟨by kernel_rfl⟩
instance : FI Tryz.prog 427 1 1 1 false := ⟨by kernel_rfl⟩
instance : FI Tryz.prog 427 2 2 1 false := ⟨by kernel_rfl⟩
end Go.Proofs.YtgmahieoiifpfaaGreat
end
namespace Go.Proofs.YtgmahieoiifpfaaGreat
open Go.RowKit
def Zoh {α : Type} (ks : List ByteArray) (l : List α) (k : ByteArray) (x : α) : List α := l.take (lb ks k) ++ [x] ++ l.drop (lb ks k + if Zf6 ks k then 1 else 0)
def Zl9 (m : GV) (k : ByteArray) (x : GV) : GV := .mk 6 0 0 ByteArray.empty (Zoh m.keys m.keys k k) (Zoh m.keys m.l k x)
theorem Zju {α : Type} {ks : List ByteArray} {l : List α} {k : ByteArray} {x : α} {j : Nat} (hj : j = lb ks k + if Zf6 ks k then 1 else 0) (hjl : j ≤ l.length) (hl : lb ks k ≤ l.length) : (Zoh ks l k x).length = lb ks k + 1 + (l.length - j) := by
 simp only [Zoh, List.length_append, List.length_take, List.length_drop, List.length_cons, List.length_nil, ← hj]; omega
end Go.Proofs.YtgmahieoiifpfaaGreat
section
namespace Go.Proofs.YtgmahieoiifpfaaGreat
section
variable {P : Program} {ops : Array Oper} {Q : Exit → Act → World → Prop} {md : Region.Mode} {S : World → Prop} {keeps : Nat → Bool}
def Ypn (md : Region.Mode) (ops : Array Oper) (j i : Nat) : Bool := ((ops[j]?).map fun o => o.after.any fun e => Region.binds md e && e.on == i).getD false
def Zor (md : Region.Mode) (ops : Array Oper) (held : List Nat) (j : Nat) : Bool := held.any fun i => i != j && !Ypn md ops j i
def Zjm (P : Program) (md : Region.Mode) (ops : Array Oper) (Q : Exit → Act → World → Prop) (S : World → Prop) (keeps : Nat → Bool) : Nat → Array Bool → Act → World → Prop
 | 0, listed, a, w => Region.ready md ops listed = [] ∧ Q .normal a w
 | fuel + 1, listed, a, w =>
  (Region.ready md ops listed = [] → Q .normal a w) ∧
  ∀ i ∈ Region.ready md ops listed, wpOp P ops Q i (fun a' w' => (keeps i = true → S w') ∧ Zjm P md ops Q S keeps fuel (listed.setIfInBounds i true) a' w') a w
theorem Zre : ∀ (fuel : Nat) (listed : Array Bool) (a : Act) (w : World), Zjm P md ops Q S keeps fuel listed a w → wpAny P md ops Q fuel listed a w
 | 0, _, _, _, h => h
 | fuel + 1, _, _, _, h => ⟨h.1, fun i hi => wpOp_mono (fun a' w' h' => Zre fuel _ a' w' h'.2) (h.2 i hi)⟩
theorem Zv3 {i : Nat} {oi : Oper} {v : Value} (hi : ops[i]? = some oi) (hsel : ∀ (j : Nat) (o : Oper) cs b, ops[j]? = some o → o.op ≠ .select cs b)
  (hQ : ∀ c a w, Q (.panic c) (a.put oi.dst v) w → Q (.panic c) a w)
  (hkeep : ∀ j oj, ops[j]? = some oj → j ≠ i → (∀ e ∈ oj.after, Region.binds md e = true → e.on ≠ i) → keeps j = true) :
  ∀ (fuel : Nat) (listed : Array Bool) (a : Act) (w : World),
   (∀ j oj, ops[j]? = some oj → j ≠ i → listed.getD j true = false → (∀ e ∈ oj.after, Region.binds md e = true → e.on ≠ i) → oi.apart ops oj = true) →
   i ∈ Region.ready md ops listed → YieldsIf P ops S oi v a → S w →
   Zjm P md ops Q S keeps fuel (listed.setIfInBounds i true) (a.put oi.dst v) w → Zjm P md ops Q S keeps (fuel + 1) listed a w := by
 intro fuel
 induction fuel with
 | zero =>
  intro listed a w _ hr hy hS H
  refine ⟨fun h => (by rw [h] at hr; cases hr), fun j hj => ?_⟩
  by_cases hji : j = i
  ·subst hji; exact hy.wpOp hi hS ⟨fun _ => hS, H⟩
  ·have := ready_mono hj hji
   rw [H.1] at this
   cases this
 | succ fuel ih =>
  intro listed a w hfree hr hy hS H
  refine ⟨fun h => (by rw [h] at hr; cases hr), fun j hj => ?_⟩
  by_cases hji : j = i
  ·subst hji; exact hy.wpOp hi hS ⟨fun _ => hS, H⟩
  ·have h1 := H.2 j (ready_mono hj hji)
   obtain ⟨hjun, oj, hoj, hall⟩ := mem_ready.1 hj
   have hnot : ∀ e ∈ oj.after, Region.binds md e = true → e.on ≠ i := fun e he hb heq => by
    have h1 := hall e he hb
    have h0 := (mem_ready.1 hr).1
    rw [heq] at h1
    rcases Nat.lt_or_ge i listed.size with h' | h'
    ·simp [h'] at h0 h1; rw [h0] at h1; cases h1
    ·simp [Array.getElem?_eq_none h'] at h1
   have h2 := wpOp_putIf hoj (hfree j oj hoj hji hjun hnot) (fun cs b => hsel i oi cs b hi) (fun cs b => hsel j oj cs b hoj) hQ hy h1
   refine wpOp_mono (fun a' w' ⟨hy', hk', h'⟩ => ?_) h2
   have hS' := hk' (hkeep j oj hoj hji hnot)
   refine ⟨fun _ => hS', ih (listed.setIfInBounds j true) a' w' ?_ ?_ hy' hS' ?_⟩
   ·intro k ok hk hki hun hno
    refine hfree k ok hk hki ?_ hno
    by_cases hjk : j = k
    ·subst hjk
     rcases Nat.lt_or_ge j listed.size with h | h
     ·simp [h] at hun
     ·simp [Array.getElem?_eq_none h] at hjun
    ·rw [getD_set_ne true hjk] at hun; exact hun
   ·exact ready_mono hr (Ne.symm hji)
   ·rw [Array.setIfInBounds_comm _ _ (Ne.symm hji)] at h'; exact h'
theorem Zw8 {held : List Nat} {i : Nat} (hi : held.contains i = true) (j : Nat) (oj : Oper) (hj : ops[j]? = some oj) (hne : j ≠ i) (hno : ∀ e ∈ oj.after, Region.binds md e = true → e.on ≠ i) : Zor md ops held j = true := by
 unfold Zor
 rw [List.any_eq_true]
 refine ⟨i, by simpa using hi, ?_⟩
 have hw : Ypn md ops j i = false := by
  unfold Ypn
  rw [hj]
  simp only [Option.map_some, Option.getD_some]
  cases h : oj.after.any (fun e => Region.binds md e && e.on == i) with
  | false => rfl
  | true =>
   obtain ⟨e, he, hb⟩ := Array.any_eq_true'.1 h
   simp only [Bool.and_eq_true, beq_iff_eq] at hb
   exact absurd hb.2 (hno e he hb.1)
 simp [hw, Ne.symm hne]
theorem Zf9 {held : List Nat} {i : Nat} {oi : Oper} {v : Value} {fuel : Nat} {listed : Array Bool} {a : Act} {w : World} (hi : ops[i]? = some oi) (hh : held.contains i = true)
  (hs : Region.noSelect ops = true) (hf : Region.free md ops listed i = true) (hr : (Region.ready md ops listed).contains i = true)
  (hy : YieldsIf P ops S oi v a) (hS : S w)
  (h : Zjm P md ops (NoPanic Q) S (Zor md ops held) fuel (listed.setIfInBounds i true) (a.put oi.dst v) w) : Zjm P md ops (NoPanic Q) S (Zor md ops held) (fuel + 1) listed a w :=
 Zv3 hi (Region.noSelect_spec hs) (fun _ _ _ h => h) (fun j oj hj hne hno => Zw8 hh j oj hj hne hno) fuel listed a w (Region.free_spec hi hf) (by simpa using hr) hy hS h
theorem Ypp {held : List Nat} {i : Nat} {o : Oper} {fuel : Nat} {listed : Array Bool} {a : Act} {w : World} (hr : Region.ready md ops listed = [i]) (ho : ops[i]? = some o)
  (h : ∀ K' : Act → World → Prop, Shut (∀ a w, S w → (S w → Zjm P md ops Q S (Zor md ops held) fuel (listed.setIfInBounds i true) a w) → K' a w) → if Region.wanted o (yielded ops a.tmps) = true then Oper.wp P o a w K' Q else K' (a.put o.dst undef) w) :
  Zjm P md ops Q S (Zor md ops held) (fuel + 1) listed a w :=
 ⟨fun h0 => (by rw [hr] at h0; cases h0), fun j hj => by
  rw [hr, List.mem_singleton] at hj
  subst hj
  exact wpOp_step ho (fun K' hK => h K' (fun a w hS hW => hK a w ⟨fun _ => hS, hW hS⟩))⟩
theorem Yk1 {listed : Array Bool} {a : Act} {w : World} (hr : Region.ready md ops listed = []) (h : Q .normal a w) : ∀ fuel, Zjm P md ops (NoPanic Q) S keeps fuel listed a w
 | 0 => ⟨hr, h⟩
 | _ + 1 => ⟨fun _ => h, by rw [hr]; simp⟩
theorem Zxv (S : World → Prop) (held : List Nat) {id : Nat} {a : Act} {w : World} (hm : P.follows .mixedOrders = true) (hS : S w.drew)
  (h : S w.drew → Zjm P .any ops (NoPanic Q) S (Zor .any ops held) ops.size (Array.replicate ops.size false) a w.drew) : (Code.region id ops true).wp P Q a w :=
 wp_region_noPanic (wp_region_any hm (Zre _ _ _ _ (h hS)))
end
end Go.Proofs.YtgmahieoiifpfaaGreat
end
namespace Go.Proofs.YtgmahieoiifpfaaGreat
open Go.RowKit
theorem Ylp {α : Type} {p : α → Bool} {y : α} : ∀ {l : List α}, y ∈ l.takeWhile p → p y = true
 | [], h => by simp at h
 | a :: r, h => by
  simp only [List.takeWhile_cons] at h
  split at h
  ·rename_i ha
   rcases List.mem_cons.1 h with rfl | h
   ·exact ha
   ·exact Ylp h
  ·cases h
theorem Yn8 {ks : List ByteArray} {k y : ByteArray} (h : y ∈ ks.take (lb ks k)) : blt y k = true := by
 have : ks.take (lb ks k) = ks.takeWhile fun x => blt x k := by
  unfold lb
  exact (List.prefix_iff_eq_take.1 (List.takeWhile_prefix _)).symm
 rw [this] at h
 exact Ylp (p := fun x => blt x k) h
theorem Ytf {ks : List ByteArray} {k y : ByteArray} (h : ks[lb ks k]? = some y) : blt y k = false := by
 induction ks with
 | nil => simp at h
 | cons a r ih =>
  unfold lb at h ih
  simp only [List.takeWhile_cons] at h
  split at h
  ·exact ih (by simpa using h)
  ·rename_i ha
   simp at h; subst h
   simpa using ha
theorem Ym1 {ks : List ByteArray} (hinc : Zf2 ks) {k y : ByteArray} (h : y ∈ ks.drop (lb ks k + if Zf6 ks k then 1 else 0)) : blt k y = true := by
 obtain ⟨i, hi⟩ := List.getElem?_of_mem h
 rw [List.getElem?_drop] at hi
 cases hh : Zf6 ks k with
 | true =>
  rw [hh] at hi
  unfold Zf6 at hh
  simp only [decide_eq_true_eq] at hh
  rcases Zog hinc (show lb ks k ≤ lb ks k + 1 + i by omega) hh (by simpa using hi) with e | e
  ·exfalso
   obtain ⟨h1, e1⟩ := List.getElem?_eq_some_iff.1 hh
   obtain ⟨h2, e2⟩ := List.getElem?_eq_some_iff.1 (show ks[lb ks k + 1 + i]? = some y by simpa using hi)
   have := List.pairwise_iff_getElem.1 hinc (lb ks k) (lb ks k + 1 + i) h1 h2 (by omega)
   rw [e1, e2, e, Zbb] at this
   cases this
  ·exact e
 | false =>
  rw [hh] at hi
  simp only [Bool.false_eq_true, if_false, Nat.add_zero] at hi
  have hlt : lb ks k < ks.length := by
   have := (List.getElem?_eq_some_iff.1 hi).1; omega
  obtain ⟨z, hz⟩ : ∃ z, ks[lb ks k]? = some z := ⟨ks[lb ks k], by simp [hlt]⟩
  have h1 := Ytf hz
  have h2 : z ≠ k := by
   intro e
   unfold Zf6 at hh
   simp only [decide_eq_false_iff_not] at hh
   exact hh (by rw [hz, e])
  have h3 : blt k z = true := by
   cases hb : blt k z with
   | true => rfl
   | false => exact absurd (Zgf h1 hb) h2
  rcases Zog hinc (show lb ks k ≤ lb ks k + i by omega) hz hi with e | e
  ·rw [← e]; exact h3
  ·exact Zb9 h3 e
theorem Zuu {ks : List ByteArray} (hinc : Zf2 ks) (k : ByteArray) : Zf2 (Zoh ks ks k k) := by
 unfold Zoh Zf2
 rw [List.pairwise_append, List.pairwise_append]
 refine ⟨⟨List.Pairwise.sublist (List.take_sublist _ _) hinc, by simp, fun a ha b hb => ?_⟩, List.Pairwise.sublist (List.drop_sublist _ _) hinc, fun a ha b hb => ?_⟩
 ·simp at hb; subst hb; exact Yn8 ha
 ·have hb' := Ym1 hinc hb
  rcases List.mem_append.1 ha with ha | ha
  ·exact Zb9 (Yn8 ha) hb'
  ·simp at ha; subst ha; exact hb'
def Zjd (m : GV) : Prop := ∃ ks l, m = .mk 6 0 0 ByteArray.empty ks l ∧ Zf2 ks ∧ ks.length = l.length
theorem Zkm {ks : List ByteArray} {k : ByteArray} : lb ks k + (if Zf6 ks k then 1 else 0) ≤ ks.length := by
 cases h : Zf6 ks k with
 | false => simpa using Ye7 ks k
 | true =>
  unfold Zf6 at h
  simp only [decide_eq_true_eq] at h
  have := (List.getElem?_eq_some_iff.1 h).1
  simp; omega
theorem Zgx {m : GV} (h : Zjd m) (k : ByteArray) (x : GV) : Zjd (Zl9 m k x) := by
 obtain ⟨ks, l, rfl, hi, hl⟩ := h
 refine ⟨_, _, rfl, Zuu hi k, ?_⟩
 simp only [GV.keys, GV.l]
 rw [Zju rfl Zkm (Ye7 _ _), Zju (l := l) rfl (by rw [← hl]; exact Zkm) (by rw [← hl]; exact Ye7 _ _), hl]
theorem Yhj {m : GV} (h : Zjd m) (k : ByteArray) (x : GV) : (Zl9 m k x).l.length ≤ m.l.length + 1 := by
 obtain ⟨ks, l, rfl, hi, hl⟩ := h
 simp only [Zl9, GV.keys, GV.l]
 rw [Zju (l := l) rfl (by rw [← hl]; exact Zkm) (by rw [← hl]; exact Ye7 _ _)]
 have := Zkm (ks := ks) (k := k)
 omega
def gv (k n : Int) (f : Nat) (s : ByteArray) : GV := .mk k n f s [] []
def Zdi : GV := .mk 0 0 0 ByteArray.empty [] []
mutual
/-- The plain form. -/
def Zav : GV → GV
 | .mk k n f s ks l => if k = 1 then .mk 1 (if n = 0 then 0 else 1) 0 ByteArray.empty [] [] else if k = 2 then .mk 2 n 0 ByteArray.empty [] [] else if k = 3 then .mk 3 0 f ByteArray.empty [] []
  else if k = 4 then .mk 4 0 0 s [] [] else if k = 5 then .mk 5 0 0 ByteArray.empty [] (Zco l) else if k = 6 then Zbz ks l (.mk 6 0 0 ByteArray.empty [] []) else Zdi
def Zco : List GV → List GV
 | [] => []
 | x :: r => Zav x :: Zco r
def Zbz : List ByteArray → List GV → GV → GV
 | k :: ks, x :: r, acc => Zbz ks r (Zl9 acc k (Zav x))
 | _, _, acc => acc
end
theorem Ztr : ∀ (l : List GV) (i : Nat), (Zco l)[i]? = (l[i]?).map Zav
 | [], i => by simp [Zco]
 | x :: r, 0 => by simp [Zco]
 | x :: r, i + 1 => by simp [Zco, Ztr r i]
def gMap : GV := .mk 6 0 0 ByteArray.empty [] []
theorem Zbg : Zjd gMap := ⟨[], [], rfl, by simp [Zf2], rfl⟩
theorem Znv : ∀ (ks : List ByteArray) (l : List GV) (acc : GV) (k : Nat) (key : ByteArray) (x : GV), ks[k]? = some key → l[k]? = some x →
  Zbz (ks.take (k + 1)) l acc = Zl9 (Zbz (ks.take k) l acc) key (Zav x)
 | [], _, _, _, _, _, h, _ => by simp at h
 | _ :: _, [], _, _, _, _, _, h => by simp at h
 | y :: ks, z :: l, acc, 0, key, x, h, h' => by
  simp at h h'; subst h h'
  simp [Zbz]
 | y :: ks, z :: l, acc, k + 1, key, x, h, h' => by
  simp only [List.take_succ_cons, Zbz]
  exact Znv ks l _ k key x (by simpa using h) (by simpa using h')
theorem Zlm : ∀ (ks : List ByteArray) (l : List GV) (acc : GV) (k : Nat), ks.length ≤ k ∨ l.length ≤ k → Zbz (ks.take k) l acc = Zbz ks l acc
 | [], _, _, _, _ => by simp
 | _ :: _, [], _, k, _ => by cases k <;> simp [Zbz]
 | y :: ks, z :: l, acc, 0, h => by simp at h
 | y :: ks, z :: l, acc, k + 1, h => by
  simp only [List.take_succ_cons, Zbz]
  exact Zlm ks l _ k (by simpa using h)
theorem Zg3 : ∀ (ks : List ByteArray) (l : List GV) (acc : GV), Zjd acc → Zjd (Zbz ks l acc) ∧ (Zbz ks l acc).l.length ≤ acc.l.length + ks.length
 | [], _, acc, h => by simpa [Zbz] using h
 | _ :: _, [], acc, h => by simpa [Zbz] using h
 | y :: ks, z :: l, acc, h => by
  simp only [Zbz]
  have h1 := Zgx h y (Zav z)
  have h2 := Yhj h y (Zav z)
  have h3 := Zg3 ks l _ h1
  exact ⟨h3.1, by simp only [List.length_cons]; omega⟩
mutual
/-- The tree of a value. -/
def Za1 : GV → JV
 | .mk k n f s ks l => if k = 1 then .bool (n != 0) else if k = 2 then .int n else if k = 3 then .flt f else if k = 4 then .str s
  else if k = 5 then .list (Zdy l) else if k = 6 then .map (Zcp ks l []) else .null
def Zdy : List GV → List JV
 | [] => []
 | x :: r => Za1 x :: Zdy r
def Zcp : List ByteArray → List GV → List (ByteArray × JV) → List (ByteArray × JV)
 | k :: ks, x :: r, acc => Zcp ks r (Zk7 acc k (Za1 x))
 | _, _, acc => acc
end
theorem Zhf : ∀ l, (Zdy l).length = l.length
 | [] => by simp [Zdy]
 | x :: r => by simp [Zdy, Zhf r]
theorem Zpg : ∀ (ks : List ByteArray) (l : List GV) (acc : List (ByteArray × JV)) (k : Nat) (key : ByteArray) (x : GV), ks[k]? = some key → l[k]? = some x →
  Zcp (ks.take (k + 1)) l acc = Zk7 (Zcp (ks.take k) l acc) key (Za1 x)
 | [], _, _, _, _, _, h, _ => by simp at h
 | _ :: _, [], _, _, _, _, _, h => by simp at h
 | y :: ks, z :: l, acc, 0, key, x, h, h' => by
  simp at h h'; subst h h'
  simp [Zcp]
 | y :: ks, z :: l, acc, k + 1, key, x, h, h' => by
  simp only [List.take_succ_cons, Zcp]
  exact Zpg ks l _ k key x (by simpa using h) (by simpa using h')
theorem Zpf : ∀ (ks : List ByteArray) (l : List GV) (acc : List (ByteArray × JV)) (k : Nat), l.length ≤ k → Zcp (ks.take (k + 1)) l acc = Zcp (ks.take k) l acc
 | [], _, _, _, _ => by simp
 | _ :: _, [], _, k, _ => by cases k <;> simp [Zcp]
 | y :: ks, z :: l, acc, 0, h => by simp at h
 | y :: ks, z :: l, acc, k + 1, h => by
  simp only [List.take_succ_cons, Zcp]
  exact Zpf ks l _ k (by simpa using h)
theorem Zk4 : ∀ (ks : List ByteArray) (l : List GV) (acc : List (ByteArray × JV)), (Zcp ks l acc).length ≤ acc.length + ks.length
 | [], _, _ => by simp [Zcp]
 | _ :: _, [], _ => by simp [Zcp]
 | y :: ks, z :: l, acc => by
  simp only [Zcp]
  have h1 := Zk4 ks l (Zk7 acc y (Za1 z))
  have h2 := Zh5 acc y (Za1 z)
  simp only [List.length_cons]; omega
end Go.Proofs.YtgmahieoiifpfaaGreat
