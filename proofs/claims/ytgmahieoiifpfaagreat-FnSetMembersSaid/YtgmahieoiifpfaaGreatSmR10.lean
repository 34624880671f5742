/- Part 10 of what the proof rests on. -/
import Derived.Lib.Overlaps
import Derived.Lib.AppendZerosOnto
import Derived.Shelf.Spec.SlicesInsert
import Derived.Test.YtgmahieoiifpfaaGreatSmR4
import Derived.Test.YtgmahieoiifpfaaGreatSmR5
import Derived.Test.YtgmahieoiifpfaaGreatSmR6
import Derived.Test.YtgmahieoiifpfaaGreatSmR8
import Derived.Test.YtgmahieoiifpfaaGreatSmR9
section
set_option linter.unusedVariables false
namespace Go.Proofs.YtgmahieoiifpfaaGreat
set_option linter.unusedSimpArgs false
section
variable {α β : Type} (c : α → α → Int)
/-- Putting j under p. -/
def insM : List (α × β) → α → β → List (α × β)
  | [], p, j => [(p, j)]
  | m :: r, p, j => if c m.1 p < 0 then m :: insM r p j else if c m.1 p = 0 then (m.1, j) :: r else (p, j) :: m :: r
def getR : List (α × β) → α → Option β
  | [], _ => none
  | m :: r, p => if c m.1 p < 0 then getR r p else if c m.1 p = 0 then some m.2 else none
variable {c}
theorem insM_keys : ∀ (m : List (α × β)) (p : α) (j : β), (insM c m p j).map (·.1) = insL_ c (m.map (·.1)) p
  | [], p, j => rfl
  | m :: r, p, j => by
    unfold insM
    rw [List.map_cons]
    unfold insL_
    by_cases h : c m.1 p < 0
    · rw [if_pos h, if_pos h, List.map_cons, insM_keys r p j]
    · rw [if_neg h, if_neg h]
      by_cases h' : c m.1 p = 0
      · rw [if_pos h', if_pos h']; rfl
      · rw [if_neg h', if_neg h']; rfl
theorem insM_fnd : ∀ (m : List (α × β)) (p : α) (j : β), fndL_ c (m.map (·.1)) p = true → ∃ x, m[locL_ c (m.map (·.1)) p]? = some x ∧ insM c m p j = m.set (locL_ c (m.map (·.1)) p) (x.1, j) ∧ getR c m p = some x.2
  | [], p, j, h => by cases h
  | m :: r, p, j, h => by
    rw [List.map_cons] at h ⊢
    unfold fndL_ at h
    unfold insM locL_ getR
    by_cases h1 : c m.1 p < 0
    · rw [if_pos h1] at h
      rw [if_pos h1, if_pos h1, if_pos h1]
      obtain ⟨x, g1, g2, g3⟩ := insM_fnd r p j h
      exact ⟨x, by simpa using g1, by rw [g2]; rfl, g3⟩
    · rw [if_neg h1] at h
      have h2 : c m.1 p = 0 := by simpa using h
      rw [if_neg h1, if_neg h1, if_neg h1, if_pos h2, if_pos h2]
      exact ⟨m, rfl, rfl, rfl⟩
theorem insM_not : ∀ (m : List (α × β)) (p : α) (j : β), fndL_ c (m.map (·.1)) p = false → insM c m p j = m.take (locL_ c (m.map (·.1)) p) ++ (p, j) :: m.drop (locL_ c (m.map (·.1)) p) ∧ getR c m p = none
  | [], p, j, h => ⟨rfl, rfl⟩
  | m :: r, p, j, h => by
    rw [List.map_cons] at h ⊢
    unfold fndL_ at h
    unfold insM locL_ getR
    by_cases h1 : c m.1 p < 0
    · rw [if_pos h1] at h
      rw [if_pos h1, if_pos h1, if_pos h1]
      obtain ⟨g1, g2⟩ := insM_not r p j h
      exact ⟨by rw [g1]; rfl, g2⟩
    · rw [if_neg h1] at h
      have h2 : ¬ c m.1 p = 0 := by simpa using h
      rw [if_neg h1, if_neg h1, if_neg h1, if_neg h2, if_neg h2]
      exact ⟨rfl, rfl⟩
theorem insM_len : ∀ (m : List (α × β)) (p : α) (j : β), (insM c m p j).length ≤ m.length + 1
  | [], p, j => by simp [insM]
  | m :: r, p, j => by
    unfold insM
    have := insM_len r p j
    split
    · simp; omega
    · split <;> simp
variable {P : α → Prop}
theorem get_same (O : OrdL c P) : ∀ (m : List (α × β)) {p : α} (j : β), P p → getR c (insM c m p j) p = some j
  | [], p, j, hp => by
    have h := O.self hp
    simp [insM, getR, h]
  | m :: r, p, j, hp => by
    unfold insM
    by_cases h1 : c m.1 p < 0
    · rw [if_pos h1]
      unfold getR
      rw [if_pos h1]
      exact get_same O r j hp
    · rw [if_neg h1]
      by_cases h2 : c m.1 p = 0
      · rw [if_pos h2]
        unfold getR
        simp only
        rw [if_neg h1, if_pos h2]
      · rw [if_neg h2]
        have h := O.self hp
        unfold getR
        simp only
        rw [if_neg (by omega), if_pos h]
theorem get_other (O : OrdL c P) : ∀ (m : List (α × β)) {p q : α} (j : β), (∀ x ∈ m, P x.1) → P p → P q → c p q ≠ 0 → getR c (insM c m p j) q = getR c m q
  | [], p, q, j, _, hp, hq, h => by
    unfold insM getR
    simp only
    split
    · rfl
    · first | rfl | (rw [if_neg h]; rfl)
  | m :: r, p, q, j, hm, hp, hq, h => by
    have hm1 : P m.1 := hm m (by simp)
    have hr : ∀ x ∈ r, P x.1 := fun x hx => hm x (by simp [hx])
    unfold insM
    by_cases h1 : c m.1 p < 0
    · rw [if_pos h1]
      unfold getR
      rw [get_other O r j hr hp hq h]
    · rw [if_neg h1]
      by_cases h2 : c m.1 p = 0
      · rw [if_pos h2]
        have e : c m.1 q = c p q := (O.tri m.1 p q hm1 hp hq).zp h2
        unfold getR
        simp only
        rw [e]
        split
        · rfl
        · first | rfl | rw [if_neg h, if_neg h]
      · rw [if_neg h2]
        have hpm : c p m.1 < 0 := by
          have := O.swp m.1 p hm1 hp
          omega
        by_cases h3 : c p q < 0
        · show (if c p q < 0 then getR c (m :: r) q else if c p q = 0 then some j else none) = _
          rw [if_pos h3]
        · show (if c p q < 0 then getR c (m :: r) q else if c p q = 0 then some j else none) = _
          rw [if_neg h3, if_neg h]
          have hqp : c q p < 0 := by
            have := O.swp p q hp hq
            have := (O.tri p q q hp hq hq).rp
            omega
          have hqm := O.lt hq hp hm1 hqp hpm
          have := O.swp q m.1 hq hm1
          unfold getR
          rw [if_neg (by omega), if_neg (by omega)]
end
end Go.Proofs.YtgmahieoiifpfaaGreat
end
section
set_option linter.unusedVariables false
namespace Go.Proofs.YtgmahieoiifpfaaGreat
set_option linter.unusedSimpArgs false
/-- A set of paths: the elements that end a path here, and what goes on below others. -/
inductive ST (α : Type) where
  | mk (m : List α) (c : List (α × ST α))
section
variable {α : Type}
def ST.m : ST α → List α | .mk m _ => m
def ST.c : ST α → List (α × ST α) | .mk _ c => c
mutual
/-- The paths of a set, in the order of a walk. -/
def walk : ST α → List (List α)
  | .mk m c => m.map (fun x => [x]) ++ walkC c
def walkC : List (α × ST α) → List (List α)
  | [] => []
  | y :: r => (walk y.2).map (y.1 :: ·) ++ walkC r
end
def en : List α → Int
  | [] => 0
  | _ :: _ => 1
variable (c : α → α → Int) (P : α → Prop)
/-- The order of a walk. -/
def cw : List α → List α → Int
  | [], [] => 0
  | [], _ :: _ => -1
  | _ :: _, [] => 1
  | x :: a, y :: b => lx (cmpI (en a) (en b)) (lx (c x y) (cw a b))
def hasT : ST α → List α → Bool
  | _, [] => false
  | t, [p] => hasL_ c t.m p
  | t, p :: q :: r => match getR c t.c p with
    | some t' => hasT t' (q :: r)
    | none => false
def insT : List α → ST α → ST α
  | [], t => t
  | [p], t => .mk (insL_ c t.m p) t.c
  | p :: q :: r, t => .mk t.m (insM c t.c p (insT (q :: r) ((getR c t.c p).getD (.mk [] []))))
def ofP (ps : List (List α)) : ST α := ps.foldl (fun t p => insT c p t) (.mk [] [])
mutual
def WFT : ST α → Prop
  | .mk m ch => (∀ x ∈ m, P x) ∧ Srt c m ∧ Srt c (ch.map (·.1)) ∧ WFC ch
def WFC : List (α × ST α) → Prop
  | [] => True
  | y :: r => P y.1 ∧ WFT y.2 ∧ WFC r
end
mutual
/-- No node is without a path. -/
def NET : ST α → Prop
  | .mk m ch => NEC ch
def NEC : List (α × ST α) → Prop
  | [] => True
  | y :: r => walk y.2 ≠ [] ∧ NET y.2 ∧ NEC r
end
def PP (p : List α) : Prop := p ≠ [] ∧ ∀ x ∈ p, P x
variable {c P}
theorem walk_eq (t : ST α) : walk t = t.m.map (fun x => [x]) ++ walkC t.c := by cases t; unfold walk; rfl
theorem WFT_iff {t : ST α} : WFT c P t ↔ (∀ x ∈ t.m, P x) ∧ Srt c t.m ∧ Srt c (t.c.map (·.1)) ∧ WFC c P t.c := by cases t; rw [WFT]; rfl
theorem WFC_iff {l : List (α × ST α)} : WFC c P l ↔ ∀ y ∈ l, P y.1 ∧ WFT c P y.2 := by
  induction l with
  | nil => unfold WFC; simp
  | cons y r ih => unfold WFC; rw [ih]; simp [and_assoc]
theorem NET_iff {t : ST α} : NET t ↔ ∀ y ∈ t.c, walk y.2 ≠ [] ∧ NET y.2 := by
  have h : ∀ l : List (α × ST α), NEC l ↔ ∀ y ∈ l, walk y.2 ≠ [] ∧ NET y.2 := fun l => by
    induction l with
    | nil => unfold NEC; simp
    | cons y r ih => unfold NEC; rw [ih]; simp [and_assoc]
  cases t; rw [NET]; exact h _
theorem rng_W (O : OrdL c P) : ∀ (a b : List α), (∀ x ∈ a, P x) → (∀ x ∈ b, P x) → rng (cw c a b)
  | [], [], _, _ => .inr (.inl rfl)
  | [], _ :: _, _, _ => .inl rfl
  | _ :: _, [], _, _ => .inr (.inr rfl)
  | x :: a, y :: b, ha, hb => rng_lx (rng_cmpI _ _) (rng_lx (O.tri x y y (ha x (by simp)) (hb y (by simp)) (hb y (by simp))).rp (rng_W O a b (fun z hz => ha z (by simp [hz])) fun z hz => hb z (by simp [hz])))
theorem tri_W (O : OrdL c P) : ∀ (a b d : List α), en a = en b → en b = en d → (∀ x ∈ a, P x) → (∀ x ∈ b, P x) → (∀ x ∈ d, P x) → Tri (cw c a b) (cw c b d) (cw c a d)
  | [], [], [], _, _, _, _, _ => tri_cmpI 0 0 0
  | x :: a, y :: b, z :: d, _, _, ha, hb, hd => by
    have hx := ha x (by simp)
    have hy := hb y (by simp)
    have hz := hd z (by simp)
    have ha' : ∀ x ∈ a, P x := fun z hz => ha z (by simp [hz])
    have hb' : ∀ x ∈ b, P x := fun z hz => hb z (by simp [hz])
    have hd' : ∀ x ∈ d, P x := fun z hz => hd z (by simp [hz])
    have R : ∀ x y : α, P x → P y → rng (c x y) := fun x y hx hy => (O.tri x y y hx hy hy).rp
    refine tri_lx (tri_cmpI _ _ _) (rng_lx (R _ _ hx hy) (rng_W O _ _ ha' hb')) (rng_lx (R _ _ hy hz) (rng_W O _ _ hb' hd')) (rng_lx (R _ _ hx hz) (rng_W O _ _ ha' hd')) fun h1 h2 => ?_
    exact tri_lx (O.tri x y z hx hy hz) (rng_W O _ _ ha' hb') (rng_W O _ _ hb' hd') (rng_W O _ _ ha' hd') fun _ _ => tri_W O a b d (cmpI_zero.1 h1) (cmpI_zero.1 h2) ha' hb' hd'
theorem swp_W (O : OrdL c P) : ∀ (a b : List α), (∀ x ∈ a, P x) → (∀ x ∈ b, P x) → cw c b a = - cw c a b
  | [], [], _, _ => rfl
  | [], _ :: _, _, _ => rfl
  | _ :: _, [], _, _ => rfl
  | x :: a, y :: b, ha, hb => by
    unfold cw
    rw [O.swp x y (ha x (by simp)) (hb y (by simp)), swp_W O a b (fun z hz => ha z (by simp [hz])) (fun z hz => hb z (by simp [hz])), show cmpI (en b) (en a) = - cmpI (en a) (en b) from by unfold cmpI; split <;> split <;> omega, lx_neg, lx_neg]
theorem en_ne {a : List α} (h : a ≠ []) : en a = 1 := by cases a with | nil => exact absurd rfl h | cons _ _ => rfl
theorem ordW (O : OrdL c P) : OrdL (cw c) (PP P) := ⟨fun a b d ha hb hd => tri_W O a b d (by rw [en_ne ha.1, en_ne hb.1]) (by rw [en_ne hb.1, en_ne hd.1]) ha.2 hb.2 hd.2, fun a b ha hb => swp_W O a b ha.2 hb.2⟩
theorem cw_cons (x y : α) (a b : List α) : cw c (x :: a) (y :: b) = lx (cmpI (en a) (en b)) (lx (c x y) (cw c a b)) := rfl
/-- Paths are equal in the order of a walk where they are so element by element. -/
theorem cw_zero : ∀ (a b : List α), cw c a b = 0 ↔ cmpLx c a b = 0
  | [], [] => Iff.rfl
  | [], _ :: _ => Iff.rfl
  | _ :: _, [] => Iff.rfl
  | x :: a, y :: b => by
    rw [cw_cons, cmpLx_cons, lx_is_zero, lx_is_zero, lx_is_zero, cw_zero a b]
    refine ⟨fun h => h.2, fun h => ⟨?_, h⟩⟩
    have := (cmpLx_zero.1 h.2).1
    cases a <;> cases b <;> first | rfl | (simp at this)
theorem has_app (a b : List α) (q : α) : hasL_ c (a ++ b) q = (hasL_ c a q || hasL_ c b q) := by unfold hasL_; rw [List.any_append]
theorem srt_cons {x : α} {l : List α} : Srt c (x :: l) ↔ (∀ y ∈ l, c x y < 0) ∧ Srt c l := List.pairwise_cons
theorem has_of (O : OrdL c P) {l : List α} {x : α} (h : x ∈ l) (hx : P x) : hasL_ c l x = true := by
  unfold hasL_
  exact List.any_eq_true.2 ⟨x, h, by simp [O.self hx]⟩
theorem has_ex {l : List α} {q : α} (h : hasL_ c l q = true) : ∃ x ∈ l, c x q = 0 := by
  unfold hasL_ at h
  obtain ⟨x, hx, h⟩ := List.any_eq_true.1 h
  exact ⟨x, hx, by simpa using h⟩
theorem has_eqv (O : OrdL c P) {l : List α} {p q : α} (hl : ∀ x ∈ l, P x) (hp : P p) (hq : P q) (h : c p q = 0) : hasL_ c l p = hasL_ c l q := by
  have e : ∀ x ∈ l, (c x p = 0 ↔ c x q = 0) := fun x hx => by
    obtain ⟨_, _, _, h4, h5, _, _⟩ := O.tri x p q (hl x hx) hp hq
    exact ⟨fun h' => by rw [h4 h']; exact h, fun h' => by rw [h5 h] at h'; exact h'⟩
  unfold hasL_
  rw [Bool.eq_iff_iff, List.any_eq_true, List.any_eq_true]
  exact ⟨fun ⟨x, hx, h⟩ => ⟨x, hx, by simpa using (e x hx).1 (by simpa using h)⟩, fun ⟨x, hx, h⟩ => ⟨x, hx, by simpa using (e x hx).2 (by simpa using h)⟩⟩
/-- Two sorted lists that have the same are equal in pairs. -/
theorem srt_ext (O : OrdL c P) : ∀ (l l' : List α), (∀ x ∈ l, P x) → (∀ x ∈ l', P x) → Srt c l → Srt c l' → (∀ q, P q → hasL_ c l q = hasL_ c l' q) → cmpLx c l l' = 0
  | [], [], _, _, _, _, _ => rfl
  | [], y :: r, _, hl, _, _, h => by
    have := h y (hl y (by simp))
    rw [has_of O (l := y :: r) (by simp) (hl y (by simp))] at this
    exact Bool.noConfusion this
  | x :: r, [], hl, _, _, _, h => by
    have := h x (hl x (by simp))
    rw [has_of O (l := x :: r) (by simp) (hl x (by simp))] at this
    exact Bool.noConfusion this
  | x :: r, y :: r', hl, hl', hs, hs', h => by
    have hx := hl x (by simp)
    have hy := hl' y (by simp)
    have hr : ∀ z ∈ r, P z := fun z hz => hl z (by simp [hz])
    have hr' : ∀ z ∈ r', P z := fun z hz => hl' z (by simp [hz])
    rw [srt_cons] at hs hs'
    have hxy : c x y = 0 := by
      have h1 := h x hx
      rw [has_of O (l := x :: r) (by simp) hx] at h1
      obtain ⟨z, hz, e1⟩ := has_ex h1.symm
      have h2 := h y hy
      rw [has_of O (l := y :: r') (by simp) hy] at h2
      obtain ⟨u, hu, e2⟩ := has_ex h2
      rcases List.mem_cons.1 hz with rfl | hz
      · have := O.swp z x hy hx; omega
      · rcases List.mem_cons.1 hu with rfl | hu
        · exact e2
        · have h3 := hs'.1 z hz
          have h4 := hs.1 u hu
          have k1 : c x y = c x u := (O.tri x u y hx (hr u hu) hy).zq e2
          have k2 : c y x = c y z := (O.tri y z x hy (hr' z hz) hx).zq e1
          have := O.swp x y hx hy
          omega
    rw [cmpLx_cons, lx_zero hxy]
    refine srt_ext O r r' hr hr' hs.2 hs'.2 fun q hq => ?_
    have h1 := h q hq
    rw [has_cons, has_cons, (O.tri x y q hx hy hq).zp hxy] at h1
    by_cases e : c y q = 0
    · have e' : c x q = 0 := by rw [(O.tri x y q hx hy hq).zp hxy]; exact e
      have n1 : hasL_ c r q = false := by
        rw [has_eqv O hr hq hx (by have := O.swp x q hx hq; omega)]
        refine Bool.eq_false_iff.2 fun hc => ?_
        obtain ⟨z, hz, e0⟩ := has_ex hc
        have := hs.1 z hz
        have := O.swp x z hx (hr z hz)
        omega
      have n2 : hasL_ c r' q = false := by
        rw [has_eqv O hr' hq hy (by have := O.swp y q hy hq; omega)]
        refine Bool.eq_false_iff.2 fun hc => ?_
        obtain ⟨z, hz, e0⟩ := has_ex hc
        have := hs'.1 z hz
        have := O.swp y z hy (hr' z hz)
        omega
      rw [n1, n2]
    · simpa [e] using h1
theorem hasT_one (t : ST α) (p : α) : hasT c t [p] = hasL_ c t.m p := by unfold hasT; rfl
theorem hasT_two (t : ST α) (p : α) {q : List α} (hq : q ≠ []) : hasT c t (p :: q) = (match getR c t.c p with | some t' => hasT c t' q | none => false) := by
  cases q with
  | nil => exact absurd rfl hq
  | cons z r => rw [hasT]
theorem getR_cons {β : Type} (y : α × β) (r : List (α × β)) (p : α) : getR c (y :: r) p = if c y.1 p < 0 then getR c r p else if c y.1 p = 0 then some y.2 else none := rfl
mutual
theorem walk_PP : ∀ (t : ST α), WFT c P t → ∀ p ∈ walk t, PP P p
  | .mk m ch, h, p, hp => by
    unfold WFT at h
    unfold walk at hp
    rcases List.mem_append.1 hp with hp | hp
    · obtain ⟨x, hx, rfl⟩ := List.mem_map.1 hp
      exact ⟨by simp, fun z hz => by rw [List.mem_singleton] at hz; rw [hz]; exact h.1 x hx⟩
    · obtain ⟨x, q, rfl, h1, h2⟩ := walkC_PP ch h.2.2.2 p hp
      exact ⟨by simp, fun z hz => by
        rcases List.mem_cons.1 hz with rfl | hz
        · exact h1
        · exact h2.2 z hz⟩
theorem walkC_PP : ∀ (l : List (α × ST α)), WFC c P l → ∀ p ∈ walkC l, ∃ x q, p = x :: q ∧ P x ∧ PP P q
  | [], _, p, hp => by unfold walkC at hp; cases hp
  | y :: r, h, p, hp => by
    unfold WFC at h
    unfold walkC at hp
    rcases List.mem_append.1 hp with hp | hp
    · obtain ⟨q, hq, rfl⟩ := List.mem_map.1 hp
      exact ⟨_, _, rfl, h.1, walk_PP y.2 h.2.1 q hq⟩
    · exact walkC_PP r h.2.2 p hp
end
theorem get_none {β : Type} : ∀ {l : List (α × β)} {x : α}, (∀ y ∈ l, 0 < c y.1 x) → getR c l x = none
  | [], _, _ => rfl
  | y :: r, x, h => by
    have := h y (by simp)
    unfold getR
    rw [if_neg (by omega), if_neg (by omega)]
theorem get_eqv {β : Type} (O : OrdL c P) : ∀ {l : List (α × β)} {x y : α}, (∀ z ∈ l, P z.1) → P x → P y → c x y = 0 → getR c l x = getR c l y
  | [], _, _, _, _, _, _ => rfl
  | z :: r, x, y, hl, hx, hy, h => by
    have e : c z.1 y = c z.1 x := (O.tri z.1 x y (hl z (by simp)) hx hy).zq h
    unfold getR
    rw [e, get_eqv O (fun z hz => hl z (by simp [hz])) hx hy h]
theorem get_mem {β : Type} : ∀ {l : List (α × β)} {x : α} {t : β}, getR c l x = some t → ∃ k, (k, t) ∈ l ∧ c k x = 0
  | [], _, _, h => by cases h
  | y :: r, x, t, h => by
    unfold getR at h
    split at h
    · obtain ⟨k, h1, h2⟩ := get_mem h
      exact ⟨k, by simp [h1], h2⟩
    · split at h
      · rename_i e
        cases h
        exact ⟨y.1, by simp, e⟩
      · cases h
theorem any_map {β γ : Type} (f : β → γ) (p : γ → Bool) (l : List β) : (l.map f).any p = l.any fun x => p (f x) := by simp [List.any_map, Function.comp_def]
theorem has_ones (m : List α) (p : α) (q : List α) : hasL_ (cw c) (m.map fun x => [x]) (p :: q) = (q.isEmpty && hasL_ c m p) := by
  unfold hasL_
  rw [any_map]
  cases q with
  | nil =>
    simp only [List.isEmpty_nil, Bool.true_and]
    congr 1
    funext x
    rw [cw_cons]
    simp [en, cmpI, lx, cw]
  | cons z r =>
    simp only [List.isEmpty_cons, Bool.false_and]
    rw [List.any_eq_false]
    intro x _
    rw [cw_cons]
    simp [en, cmpI, lx]
theorem has_under (l : List (List α)) (hl : ∀ a ∈ l, a ≠ []) (x p : α) (q : List α) : hasL_ (cw c) (l.map (x :: ·)) (p :: q) = (!q.isEmpty && decide (c x p = 0) && hasL_ (cw c) l q) := by
  unfold hasL_
  rw [any_map]
  cases q with
  | nil =>
    simp only [List.isEmpty_nil, Bool.not_true, Bool.false_and]
    rw [List.any_eq_false]
    intro a ha
    rw [cw_cons, en_ne (hl a ha)]
    simp [en, cmpI, lx]
  | cons z r =>
    simp only [List.isEmpty_cons, Bool.not_false, Bool.true_and]
    by_cases h : c x p = 0
    · rw [decide_eq_true h, Bool.true_and, Bool.eq_iff_iff, List.any_eq_true, List.any_eq_true]
      have e : ∀ a ∈ l, cw c (x :: a) (p :: z :: r) = cw c a (z :: r) := fun a ha => by
        rw [cw_cons, en_ne (hl a ha), show cmpI 1 (en (z :: r)) = 0 from rfl, lx_zero rfl, lx_zero h]
      exact ⟨fun ⟨a, ha, h⟩ => ⟨a, ha, by rw [e a ha] at h; exact h⟩, fun ⟨a, ha, h⟩ => ⟨a, ha, by rw [e a ha]; exact h⟩⟩
    · rw [decide_eq_false h, Bool.false_and, List.any_eq_false]
      intro a ha
      rw [cw_cons, en_ne (hl a ha), show cmpI 1 (en (z :: r)) = 0 from rfl, lx_zero rfl, lx_pos h]
      simp [h]
mutual
theorem has_walk (O : OrdL c P) : ∀ (t : ST α), WFT c P t → ∀ (p : α) (q : List α), P p → (∀ x ∈ q, P x) → hasL_ (cw c) (walk t) (p :: q) = hasT c t (p :: q)
  | .mk m ch, h, p, q, hp, hq => by
    unfold WFT at h
    unfold walk
    rw [has_app, has_ones, has_walkC O ch h.2.2.2 h.2.2.1 p q hp hq]
    cases q with
    | nil => simp [hasT, ST.m]
    | cons z r =>
      rw [hasT_two _ _ (by simp)]
      simp only [List.isEmpty_cons, Bool.false_and, Bool.false_or, Bool.not_false, Bool.true_and]
      rfl
theorem has_walkC (O : OrdL c P) : ∀ (l : List (α × ST α)), WFC c P l → Srt c (l.map (·.1)) → ∀ (p : α) (q : List α), P p → (∀ x ∈ q, P x) → hasL_ (cw c) (walkC l) (p :: q) = (!q.isEmpty && (match getR c l p with | some t => hasT c t q | none => false))
  | [], _, _, p, q, _, _ => by unfold walkC; simp [hasL_, getR]
  | y :: r, h, hs, p, q, hp, hq => by
    have hr := h
    unfold WFC at h
    have hk := WFC_iff.1 hr
    rw [List.map_cons, srt_cons] at hs
    unfold walkC
    have hne : ∀ a ∈ walk y.2, a ≠ [] := fun a ha => (walk_PP y.2 h.2.1 a ha).1
    rw [has_app, has_under _ hne, has_walkC O r h.2.2 hs.2 p q hp hq]
    cases q with
    | nil => rfl
    | cons z w =>
    rw [has_walk O y.2 h.2.1 z w (hq z (by simp)) fun x hx => hq x (by simp [hx])]
    simp only [List.isEmpty_cons, Bool.not_false, Bool.true_and]
    have hgt : ¬ c y.1 p < 0 → ∀ u ∈ r, 0 < c u.1 p := fun hn u hu => by
      have h1 := hs.1 u.1 (List.mem_map.2 ⟨u, hu, rfl⟩)
      exact srt_gt O h.1 (fun x hx => by obtain ⟨v, hv, rfl⟩ := List.mem_map.1 hx; exact (hk v (by simp [hv])).1) hp (by rw [srt_cons]; exact hs) hn u.1 (List.mem_map.2 ⟨u, hu, rfl⟩)
    rw [getR_cons]
    by_cases h1 : c y.1 p < 0
    · rw [if_pos h1, decide_eq_false (by omega), Bool.false_and, Bool.false_or]
    · rw [if_neg h1, get_none (hgt h1)]
      by_cases h2 : c y.1 p = 0
      · rw [if_pos h2, decide_eq_true h2]; simp
      · rw [if_neg h2, decide_eq_false h2]; simp
end
theorem srt_app {a b : List α} : Srt c (a ++ b) ↔ Srt c a ∧ Srt c b ∧ ∀ x ∈ a, ∀ y ∈ b, c x y < 0 := List.pairwise_append
mutual
theorem srt_walk (O : OrdL c P) : ∀ (t : ST α), WFT c P t → Srt (cw c) (walk t)
  | .mk m ch, h => by
    unfold WFT at h
    unfold walk
    refine srt_app.2 ⟨?_, srt_walkC O ch h.2.2.2 h.2.2.1, fun a ha b hb => ?_⟩
    · unfold Srt
      rw [List.pairwise_map]
      refine List.Pairwise.imp (fun {x y} hxy => ?_) h.2.1
      rw [cw_cons, lx_zero (show cmpI (en ([] : List α)) (en []) = 0 from rfl), lx_pos (by omega)]
      exact hxy
    · obtain ⟨x, _, rfl⟩ := List.mem_map.1 ha
      obtain ⟨k, q, rfl, _, hq⟩ := walkC_PP ch h.2.2.2 b hb
      rw [cw_cons, en_ne hq.1]
      show lx (-1) _ < 0
      rw [lx_pos (by decide)]
      decide
theorem srt_walkC (O : OrdL c P) : ∀ (l : List (α × ST α)), WFC c P l → Srt c (l.map (·.1)) → Srt (cw c) (walkC l)
  | [], _, _ => by unfold walkC; exact List.Pairwise.nil
  | y :: r, h, hs => by
    unfold WFC at h
    rw [List.map_cons, srt_cons] at hs
    unfold walkC
    refine srt_app.2 ⟨?_, srt_walkC O r h.2.2 hs.2, fun a ha b hb => ?_⟩
    · unfold Srt
      rw [List.pairwise_map]
      refine List.Pairwise.imp_of_mem (fun {a b} ha hb hab => ?_) (srt_walk O y.2 h.2.1)
      rw [cw_cons, en_ne (walk_PP y.2 h.2.1 a ha).1, en_ne (walk_PP y.2 h.2.1 b hb).1, lx_zero (show cmpI 1 1 = 0 from rfl), lx_zero (O.self h.1)]
      exact hab
    · obtain ⟨q, hq, rfl⟩ := List.mem_map.1 ha
      have hb' : ∃ u ∈ r, ∃ q', b = u.1 :: q' ∧ q' ≠ [] := by
        clear hs ha
        induction r with
        | nil => unfold walkC at hb; cases hb
        | cons u r ih =>
          have hc := h.2.2
          unfold WFC at hc
          unfold walkC at hb
          rcases List.mem_append.1 hb with hb | hb
          · obtain ⟨q', hq', rfl⟩ := List.mem_map.1 hb
            exact ⟨u, by simp, q', rfl, (walk_PP u.2 hc.2.1 q' hq').1⟩
          · obtain ⟨v, hv, h'⟩ := ih ⟨h.1, h.2.1, hc.2.2⟩ hb
            exact ⟨v, by simp [hv], h'⟩
      obtain ⟨u, hu, q', rfl, hq'⟩ := hb'
      have := hs.1 u.1 (List.mem_map.2 ⟨u, hu, rfl⟩)
      rw [cw_cons, en_ne (walk_PP y.2 h.2.1 q hq).1, en_ne hq', lx_zero (show cmpI 1 1 = 0 from rfl), lx_pos (by omega)]
      exact this
end
end
end Go.Proofs.YtgmahieoiifpfaaGreat
end
section
set_option linter.unusedVariables false
namespace Go.Proofs.YtgmahieoiifpfaaGreat
set_option linter.unusedSimpArgs false
section
variable {α : Type} {c : α → α → Int} {P : α → Prop}
theorem none_WFT : WFT c P (ST.mk [] []) := by unfold WFT WFC; simp [Srt]
theorem hasT_none (p : List α) : hasT c (ST.mk [] []) p = false := by
  match p with
  | [] => unfold hasT; rfl
  | [_] => unfold hasT; simp [hasL_, ST.m]
  | _ :: _ :: _ => unfold hasT; simp [getR, ST.c]
theorem insM_mem {β : Type} : ∀ {l : List (α × β)} {p : α} {j : β} {y : α × β}, y ∈ insM c l p j → y ∈ l ∨ (y.2 = j ∧ (y.1 = p ∨ ∃ z ∈ l, z.1 = y.1))
  | [], p, j, y, h => by
    unfold insM at h
    rw [List.mem_singleton] at h
    subst h
    exact .inr ⟨rfl, .inl rfl⟩
  | m :: r, p, j, y, h => by
    unfold insM at h
    split at h
    · rcases List.mem_cons.1 h with rfl | h
      · exact .inl (by simp)
      · rcases insM_mem h with h | ⟨h1, h2⟩
        · exact .inl (by simp [h])
        · refine .inr ⟨h1, h2.imp id fun ⟨z, hz, e⟩ => ⟨z, by simp [hz], e⟩⟩
    · split at h
      · rcases List.mem_cons.1 h with rfl | h
        · exact .inr ⟨rfl, .inr ⟨m, by simp, rfl⟩⟩
        · exact .inl (by simp [h])
      · rcases List.mem_cons.1 h with rfl | h
        · exact .inr ⟨rfl, .inl rfl⟩
        · exact .inl h
theorem get_ins {β : Type} (O : OrdL c P) {l : List (α × β)} {p q : α} (j : β) (hl : ∀ x ∈ l, P x.1) (hp : P p) (hq : P q) : getR c (insM c l p j) q = if c p q = 0 then some j else getR c l q := by
  split
  · rename_i h
    rw [← get_eqv O (fun z hz => ?_) hp hq h, get_same O l j hp]
    rcases insM_mem hz with hz | ⟨_, h | ⟨u, hu, e⟩⟩
    · exact hl z hz
    · rw [h]; exact hp
    · rw [← e]; exact hl u hu
  · rename_i h
    exact get_other O l j hl hp hq h
theorem get_WFT {l : List (α × ST α)} (h : WFC c P l) {x : α} {t : ST α} (hx : getR c l x = some t) : WFT c P t := by
  obtain ⟨k, hk, _⟩ := get_mem hx
  exact (WFC_iff.1 h _ hk).2
theorem ins_WFT (O : OrdL c P) : ∀ (p : List α) (t : ST α), (∀ x ∈ p, P x) → WFT c P t → WFT c P (insT c p t)
  | [], t, _, h => by unfold insT; exact h
  | [p], t, hp, h => by
    unfold insT
    obtain ⟨h1, h2, h3, h4⟩ := WFT_iff.1 h
    have hP := hp p (by simp)
    exact WFT_iff.2 ⟨sins_P h1 hP, sins_srt O h1 hP h2, h3, h4⟩
  | p :: q :: r, t, hp, h => by
    unfold insT
    obtain ⟨h1, h2, h3, h4⟩ := WFT_iff.1 h
    have hP := hp p (by simp)
    have hk : ∀ x ∈ t.c.map (·.1), P x := fun x hx => by
      obtain ⟨y, hy, rfl⟩ := List.mem_map.1 hx
      exact (WFC_iff.1 h4 y hy).1
    have hs : WFT c P ((getR c t.c p).getD (.mk [] [])) := by
      cases hg : getR c t.c p with
      | none => exact none_WFT
      | some t' => exact get_WFT h4 hg
    have hi := ins_WFT O (q :: r) _ (fun x hx => hp x (by simp [hx])) hs
    refine WFT_iff.2 ⟨h1, h2, ?_, WFC_iff.2 fun y hy => ?_⟩
    · show Srt c ((insM c t.c p _).map (·.1))
      rw [insM_keys]
      exact sins_srt O hk hP h3
    · have hy : y ∈ insM c t.c p (insT c (q :: r) ((getR c t.c p).getD (.mk [] []))) := hy
      rcases insM_mem hy with hy | ⟨e, h | ⟨z, hz, e'⟩⟩
      · exact WFC_iff.1 h4 y hy
      · rw [e, h]; exact ⟨hP, hi⟩
      · rw [e, ← e']; exact ⟨(WFC_iff.1 h4 z hz).1, hi⟩
theorem getD_has (l : List (α × ST α)) (p : α) (q : List α) : hasT c ((getR c l p).getD (.mk [] [])) q = (match getR c l p with | some t' => hasT c t' q | none => false) := by
  cases getR c l p with
  | none => exact hasT_none q
  | some t => rfl
theorem has_insT (O : OrdL c P) : ∀ (p : List α) (t : ST α) (q : List α), (∀ x ∈ p, P x) → p ≠ [] → WFT c P t → PP P q → hasT c (insT c p t) q = (hasT c t q || decide (cw c p q = 0))
  | [], _, _, _, h, _, _ => absurd rfl h
  | [p], t, [q], hp, _, h, hq => by
    obtain ⟨h1, h2, h3, h4⟩ := WFT_iff.1 h
    rw [hasT_one, hasT_one]
    unfold insT
    show hasL_ c (insL_ c t.m p) q = _
    rw [has_ins O h1 (hp p (by simp)) (hq.2 q (by simp)), cw_cons, lx_zero (show cmpI (en ([] : List α)) (en []) = 0 from rfl), show cw c ([] : List α) [] = 0 from rfl]
    congr 1
    unfold lx
    split <;> simp_all
  | [p], t, q :: z :: r, hp, _, h, hq => by
    rw [hasT_two _ _ (by simp), hasT_two _ _ (by simp)]
    unfold insT
    show _ = (_ || decide (lx (-1) _ = 0))
    rw [lx_pos (show (-1 : Int) ≠ 0 by decide), decide_eq_false (show ¬ (-1 : Int) = 0 by decide), Bool.or_false]
    rfl
  | p :: z :: r, t, [q], hp, _, h, hq => by
    rw [hasT_one, hasT_one]
    unfold insT
    show _ = (_ || decide (lx 1 _ = 0))
    rw [lx_pos (show (1 : Int) ≠ 0 by decide), decide_eq_false (show ¬ (1 : Int) = 0 by decide), Bool.or_false]
    rfl
  | p :: z :: r, t, q :: y :: w, hp, _, h, hq => by
    obtain ⟨h1, h2, h3, h4⟩ := WFT_iff.1 h
    have hP := hp p (by simp)
    have hQ := hq.2 q (by simp)
    have hk : ∀ x ∈ t.c, P x.1 := fun x hx => (WFC_iff.1 h4 x hx).1
    rw [hasT_two _ _ (by simp), hasT_two _ _ (by simp)]
    unfold insT
    show (match getR c (insM c t.c p (insT c (z :: r) ((getR c t.c p).getD (.mk [] [])))) q with | some t' => hasT c t' (y :: w) | none => false) = _
    rw [get_ins O _ hk hP hQ, cw_cons, lx_zero (show cmpI (en (z :: r)) (en (y :: w)) = 0 from rfl)]
    by_cases e : c p q = 0
    · rw [if_pos e, lx_zero e]
      have hs : WFT c P ((getR c t.c p).getD (.mk [] [])) := by
        cases hg : getR c t.c p with
        | none => exact none_WFT
        | some t' => exact get_WFT h4 hg
      show hasT c (insT c (z :: r) ((getR c t.c p).getD (.mk [] []))) (y :: w) = _
      rw [has_insT O (z :: r) _ (y :: w) (fun x hx => hp x (by simp [hx])) (by simp) hs ⟨by simp, fun x hx => hq.2 x (by simp [hx])⟩, getD_has, get_eqv O hk hP hQ e]
      first | done | rfl
    · rw [if_neg e, lx_pos e, decide_eq_false e, Bool.or_false]
      first | done | rfl
theorem ne_of_has (O : OrdL c P) {t : ST α} (h : WFT c P t) {p : List α} (hp : PP P p) (hh : hasT c t p = true) : walk t ≠ [] := by
  cases p with
  | nil => exact absurd rfl hp.1
  | cons x q =>
    rw [← has_walk O t h x q (hp.2 x (by simp)) fun z hz => hp.2 z (by simp [hz])] at hh
    intro e
    rw [e] at hh
    cases hh
theorem ins_NET (O : OrdL c P) : ∀ (p : List α) (t : ST α), (∀ x ∈ p, P x) → WFT c P t → NET t → NET (insT c p t)
  | [], t, _, _, h => by unfold insT; exact h
  | [p], t, _, _, h => by unfold insT; exact NET_iff.2 fun y hy => NET_iff.1 h y hy
  | p :: q :: r, t, hp, hw, h => by
    unfold insT
    obtain ⟨h1, h2, h3, h4⟩ := WFT_iff.1 hw
    have hs : WFT c P ((getR c t.c p).getD (.mk [] [])) ∧ NET ((getR c t.c p).getD (.mk [] [])) := by
      cases hg : getR c t.c p with
      | none => exact ⟨none_WFT, NET_iff.2 (by simp [ST.c])⟩
      | some t' =>
        obtain ⟨k, hk, _⟩ := get_mem hg
        exact ⟨get_WFT h4 hg, (NET_iff.1 h _ hk).2⟩
    have hq : ∀ x ∈ q :: r, P x := fun x hx => hp x (by simp [hx])
    refine NET_iff.2 fun y hy => ?_
    have hy : y ∈ insM c t.c p (insT c (q :: r) ((getR c t.c p).getD (.mk [] []))) := hy
    rcases insM_mem hy with hy | ⟨e, _⟩
    · exact NET_iff.1 h y hy
    · rw [e]
      refine ⟨ne_of_has O (ins_WFT O _ _ hq hs.1) ⟨by simp, hq⟩ ?_, ins_NET O _ _ hq hs.1 hs.2⟩
      rw [has_insT O _ _ _ hq (by simp) hs.1 ⟨by simp, hq⟩, (ordW O).self ⟨by simp, hq⟩]
      simp
theorem ofP_inv (O : OrdL c P) : ∀ (ps : List (List α)) (t : ST α), (∀ p ∈ ps, ∀ x ∈ p, P x) → WFT c P t → NET t → WFT c P (ps.foldl (fun t p => insT c p t) t) ∧ NET (ps.foldl (fun t p => insT c p t) t) ∧ ∀ q, PP P q → hasT c (ps.foldl (fun t p => insT c p t) t) q = (hasT c t q || hasL_ (cw c) ps q)
  | [], t, _, h, hn => ⟨h, hn, fun q _ => by simp [hasL_]⟩
  | p :: r, t, hp, h, hn => by
    have h1 : ∀ x ∈ p, P x := hp p (by simp)
    obtain ⟨g1, g2, g3⟩ := ofP_inv O r (insT c p t) (fun q hq => hp q (by simp [hq])) (ins_WFT O p t h1 h) (ins_NET O p t h1 h hn)
    rw [List.foldl_cons]
    refine ⟨g1, g2, fun q hq => ?_⟩
    rw [g3 q hq, has_cons]
    by_cases e : p = []
    · subst e
      have : cw c ([] : List α) q ≠ 0 := by
        cases q with
        | nil => exact absurd rfl hq.1
        | cons _ _ => exact (show (-1 : Int) ≠ 0 by decide)
      rw [decide_eq_false this]
      unfold insT
      simp
    · rw [has_insT O p t q h1 e h hq, Bool.or_assoc]
variable {ps : List (List α)}
theorem ofP_WFT (O : OrdL c P) (h : ∀ p ∈ ps, ∀ x ∈ p, P x) : WFT c P (ofP c ps) := (ofP_inv O ps _ h none_WFT (NET_iff.2 (by simp [ST.c]))).1
theorem ofP_has (O : OrdL c P) (h : ∀ p ∈ ps, ∀ x ∈ p, P x) {q : List α} (hq : PP P q) : hasT c (ofP c ps) q = hasL_ (cw c) ps q := by
  unfold ofP
  rw [(ofP_inv O ps _ h none_WFT (NET_iff.2 (by simp [ST.c]))).2.2 q hq, hasT_none, Bool.false_or]
end
end Go.Proofs.YtgmahieoiifpfaaGreat
end
section
set_option linter.unusedVariables false
namespace Go.Proofs.YtgmahieoiifpfaaGreat
open Go.RowKit
set_option linter.unusedSimpArgs false
mutual
/-- A set as data. -/
def dvSet : ST PEV → PD
  | .mk m ch => .agg [.sl 4 32 (m.map dvPE), .sl 5 40 (dvNodes ch)]
def dvNodes : List (PEV × ST PEV) → List PD
  | [] => []
  | y :: r => .agg (peC y.1 ++ [.ptr (dvSet y.2)]) :: dvNodes r
end
def adr (b : Nat) : Value := .pointer (some ⟨b, 0, none⟩)
/-- A node whose subtree lies at b. -/
def nodeD (y : PEV × Nat) : PD := .agg (peC y.1 ++ [.val (adr y.2)])
/-- A row of data of the call's own. -/
def RowAt (w : World) (F : Nat → Prop) (e n y : Nat) (l : List PD) (v : Value) : Prop :=
  ∃ xs, w.ownsRow 0 e n v l.length xs ∧ Groups w F n l xs ∧ l.length * y ≤ 140737488351232 ∧ l.length ≤ 140737488351232
theorem RowAt.keep {w w' : World} {F F' : Nat → Prop} {e n y : Nat} {l : List PD} {v : Value} (h : ∀ b, F b → w'.heap[b]? = w.heap[b]?) (hs : ∀ b, F b → F' b) (hO : ∀ b, v.ownBlock = some b → w'.heap[b]? = w.heap[b]?) (hv : RowAt w F e n y l v) : RowAt w' F' e n y l v := by
  obtain ⟨xs, h1, h2, h3⟩ := hv
  refine ⟨xs, ⟨h1.1, h1.2.imp id ?_⟩, h2.keep h hs, h3⟩
  rintro ⟨g, cap, cur, e1, e2, e3, r⟩
  exact ⟨g, cap, cur, e1, e2, (hO g (by rw [e1]; rfl)).trans e3, r⟩
mutual
/-- The set t lies at b, in blocks of its own. -/
def TreeAt (w : World) (F : Nat → Prop) : ST PEV → Nat → (Nat → Prop) → Prop
  | .mk m ch, b, O => ∃ sm sc bs, ∃ Ok : Nat → Prop, w.heap[b]? = some (.cells #[sm, sc] 122 (0, 0)) ∧ RowAt w F 99 4 32 (m.map dvPE) sm ∧ RowAt w F 224 5 40 (((ch.map (·.1)).zip bs).map nodeD) sc ∧ KidsAt w F ch bs Ok ∧
      (∀ x, O x ↔ x = b ∨ sm.ownBlock = some x ∨ sc.ownBlock = some x ∨ Ok x) ∧ sm.ownBlock ≠ some b ∧ sc.ownBlock ≠ some b ∧ (∀ x, sm.ownBlock = some x → sc.ownBlock ≠ some x) ∧ ¬ Ok b ∧ (∀ x, sm.ownBlock = some x → ¬ Ok x) ∧ ∀ x, sc.ownBlock = some x → ¬ Ok x
def KidsAt (w : World) (F : Nat → Prop) : List (PEV × ST PEV) → List Nat → (Nat → Prop) → Prop
  | [], bs, O => bs = [] ∧ ∀ x, ¬ O x
  | y :: r, bs, O => ∃ b bs', ∃ O1 O2 : Nat → Prop, bs = b :: bs' ∧ TreeAt w F y.2 b O1 ∧ KidsAt w F r bs' O2 ∧ (∀ x, O x ↔ O1 x ∨ O2 x) ∧ ∀ x, O1 x → ¬ O2 x
end
section
variable {w w' : World} {F F' : Nat → Prop}
mutual
theorem TreeAt.keep (h : ∀ b, F b → w'.heap[b]? = w.heap[b]?) (hs : ∀ b, F b → F' b) : ∀ (t : ST PEV) {b : Nat} {O : Nat → Prop}, (∀ x, O x → w'.heap[x]? = w.heap[x]?) → TreeAt w F t b O → TreeAt w' F' t b O
  | .mk m ch, b, O, hO, hv => by
    unfold TreeAt at hv ⊢
    obtain ⟨sm, sc, bs, Ok, h1, h2, h3, h4, h5, h6⟩ := hv
    exact ⟨sm, sc, bs, Ok, (hO b ((h5 b).2 (.inl rfl))).trans h1, h2.keep h hs fun x hx => hO x ((h5 x).2 (.inr (.inl hx))), h3.keep h hs fun x hx => hO x ((h5 x).2 (.inr (.inr (.inl hx)))), KidsAt.keep h hs ch (fun x hx => hO x ((h5 x).2 (.inr (.inr (.inr hx))))) h4, h5, h6⟩
theorem KidsAt.keep (h : ∀ b, F b → w'.heap[b]? = w.heap[b]?) (hs : ∀ b, F b → F' b) : ∀ (l : List (PEV × ST PEV)) {bs : List Nat} {O : Nat → Prop}, (∀ x, O x → w'.heap[x]? = w.heap[x]?) → KidsAt w F l bs O → KidsAt w' F' l bs O
  | [], bs, O, hO, hv => by unfold KidsAt at hv ⊢; exact hv
  | y :: r, bs, O, hO, hv => by
    unfold KidsAt at hv ⊢
    obtain ⟨b, bs', O1, O2, h1, h2, h3, h4, h5⟩ := hv
    exact ⟨b, bs', O1, O2, h1, TreeAt.keep h hs y.2 (fun x hx => hO x ((h4 x).2 (.inl hx))) h2, KidsAt.keep h hs r (fun x hx => hO x ((h4 x).2 (.inr hx))) h3, h4, h5⟩
end
theorem KidsAt.len : ∀ {l : List (PEV × ST PEV)} {bs : List Nat} {O : Nat → Prop}, KidsAt w F l bs O → bs.length = l.length
  | [], bs, O, h => by unfold KidsAt at h; rw [h.1]; rfl
  | y :: r, bs, O, h => by
    unfold KidsAt at h
    obtain ⟨b, bs', O1, O2, rfl, _, h3, _⟩ := h
    simp [h3.len]
end
end Go.Proofs.YtgmahieoiifpfaaGreat
end
section
set_option linter.unusedVariables false
namespace Go.Proofs.YtgmahieoiifpfaaGreat
open Go.RowKit
set_option linter.unusedSimpArgs false
theorem reps_snoc {w : World} {F : Nat → Prop} : ∀ {l : List PD} {d : PD} {vs : List Value}, Reps w F (l ++ [d]) vs → ∃ vs' u, vs = vs' ++ [u] ∧ Reps w F l vs' ∧ Rep w F d u
  | [], d, vs, h => by
    unfold Reps at h
    obtain ⟨u, r, rfl, h1, h2⟩ := h
    unfold Reps at h2
    subst h2
    exact ⟨[], u, rfl, by unfold Reps; rfl, h1⟩
  | x :: l, d, vs, h => by
    simp only [List.cons_append] at h
    unfold Reps at h
    obtain ⟨v, r, rfl, h1, h2⟩ := h
    obtain ⟨vs', u, rfl, h3, h4⟩ := reps_snoc h2
    exact ⟨v :: vs', u, rfl, by unfold Reps; exact ⟨v, vs', rfl, h1, h3⟩, h4⟩
theorem own_rep {w : World} {F : Nat → Prop} {base e n y : Nat} {v : Value} {l : List PD} {xs : List Value} (h1 : w.ownsRow base e n v l.length xs) (h2 : Groups w F n l xs) (h3 : l.length * y ≤ 140737488351232) (h4 : l.length ≤ 140737488351232) (hO : ∀ b, v.ownBlock = some b → F b) : Rep w F (.sl n y l) v := by
  unfold Rep
  rcases h1.2 with ⟨e1, e2⟩ | ⟨g, cap, cur, e1, hB, hg, hc1, _, hc2, hc3⟩
  · exact ⟨none, 0, by rw [e1, e2], by omega, h3, h4, .inl (List.eq_nil_of_length_eq_zero e2)⟩
  · refine ⟨some ⟨g, 0, none⟩, cap, e1, hc1, h3, h4, .inr ⟨g, 0, hO g (by rw [e1]; rfl), rfl, ?_⟩⟩
    refine h2.lies fun j u hj => ?_
    rw [cell_of_row w g (0 + j) _ _ _ hg]
    rw [← hc3, List.getElem?_take] at hj
    split at hj
    · simpa using hj
    · cases hj
theorem own_one {w : World} {base e n : Nat} {v : Value} {len : Nat} {xs : List Value} (h1 : w.ownsRow base e n v len xs) : v.oneCell' = true := by
  rcases h1.2 with ⟨e1, e2⟩ | ⟨g, cap, cur, e1, _⟩ <;> rw [e1] <;> rfl
theorem dvNodes_len : ∀ l : List (PEV × ST PEV), (dvNodes l).length = l.length
  | [] => by unfold dvNodes; rfl
  | y :: r => by unfold dvNodes; simp [dvNodes_len r]
section
variable {w : World} {F F' : Nat → Prop}
mutual
/-- A set in memory, as data. -/
theorem TreeAt.rep (hs : ∀ b, F b → F' b) : ∀ (t : ST PEV) {b : Nat} {O : Nat → Prop}, (∀ x, O x → F' x) → TreeAt w F t b O → ∃ sm sc, w.heap[b]? = some (.cells #[sm, sc] 122 (0, 0)) ∧ Rep w F' (dvSet t) (.agg #[sm, sc]) ∧ sm.oneCell' = true ∧ sc.oneCell' = true ∧ O b
  | .mk m ch, b, O, hO, hv => by
    unfold TreeAt at hv
    obtain ⟨sm, sc, bs, Ok, h1, ⟨xs, a1, a2, a3, a4⟩, ⟨ys, c1, c2, c3, c4⟩, h4, h5, _⟩ := hv
    refine ⟨sm, sc, h1, ?_, own_one a1, own_one c1, (h5 b).2 (.inl rfl)⟩
    have r1 := own_rep a1 (a2.keep (fun _ _ => rfl) hs) a3 a4 fun x hx => hO x ((h5 x).2 (.inr (.inl hx)))
    have hlen := h4.len
    have hn : (((ch.map (·.1)).zip bs).map nodeD).length = (dvNodes ch).length := by rw [dvNodes_len]; simp [hlen]
    rw [hn] at c1 c3 c4
    have r2 := own_rep c1 (KidsAt.rep hs ch (fun x hx => hO x ((h5 x).2 (.inr (.inr (.inr hx))))) h4 c2) c3 c4 fun x hx => hO x ((h5 x).2 (.inr (.inr (.inl hx))))
    unfold dvSet Rep
    refine ⟨[sm, sc], rfl, ?_, fun u hu => ?_⟩
    · unfold Reps
      refine ⟨sm, [sc], rfl, r1, ?_⟩
      unfold Reps
      exact ⟨sc, [], rfl, r2, by unfold Reps; rfl⟩
    · rcases List.mem_cons.1 hu with rfl | hu
      · exact own_one a1
      · rw [List.mem_singleton] at hu; rw [hu]; exact own_one c1
theorem KidsAt.rep (hs : ∀ b, F b → F' b) : ∀ (l : List (PEV × ST PEV)) {bs : List Nat} {O : Nat → Prop} {xs : List Value}, (∀ x, O x → F' x) → KidsAt w F l bs O → Groups w F 5 (((l.map (·.1)).zip bs).map nodeD) xs → Groups w F' 5 (dvNodes l) xs
  | [], bs, O, xs, hO, hv, hg => by unfold dvNodes; exact hg
  | y :: r, bs, O, xs, hO, hv, hg => by
    unfold KidsAt at hv
    obtain ⟨b, bs', O1, O2, rfl, h2, h3, h4, h5⟩ := hv
    simp only [List.map_cons, List.zip_cons_cons] at hg
    obtain ⟨u, ys, rfl, g1, g2, g3, g4⟩ := hg
    unfold dvNodes
    refine ⟨u, ys, rfl, ?_, g2, g3, KidsAt.rep hs r (fun x hx => hO x ((h4 x).2 (.inr hx))) h3 g4⟩
    obtain ⟨sm, sc, t1, t2, t3, t4, t5⟩ := TreeAt.rep hs y.2 (fun x hx => hO x ((h4 x).2 (.inl hx))) h2
    unfold nodeD Rep at g1
    obtain ⟨vs, rfl, g5, g6⟩ := g1
    obtain ⟨vs', v, rfl, g7, g8⟩ := reps_snoc g5
    unfold Rep at g8
    unfold Rep
    refine ⟨vs' ++ [v], rfl, (Reps.keep (w' := w) (fun _ _ => rfl) hs _ g7).append ?_, g6⟩
    unfold Reps
    refine ⟨v, [], rfl, ?_, by unfold Reps; rfl⟩
    unfold Rep
    refine ⟨b, 0, .agg #[sm, sc], g8.1, hO b ((h4 b).2 (.inl t5)), t2, ?_⟩
    have hl := lies_block (vs := [sm, sc]) t1 0
    simpa [Value.cells] using hl
end
theorem TreeAt.congr {t : ST PEV} {b : Nat} {O O' : Nat → Prop} (h : ∀ x, O' x ↔ O x) (hv : TreeAt w F t b O) : TreeAt w F t b O' := by
  cases t with
  | mk m ch =>
    unfold TreeAt at hv ⊢
    obtain ⟨sm, sc, bs, Ok, h1, h2, h3, h4, h5, h6⟩ := hv
    exact ⟨sm, sc, bs, Ok, h1, h2, h3, h4, fun x => (h x).trans (h5 x), h6⟩
end
def slS (b : Nat) : Value := .slice (some ⟨b, 0, none⟩) 1 1
/-- The set t, at b. -/
def setAt (b : Nat) (t : ST PEV) : Res where
  rel w F O v := v = slS b ∧ TreeAt w F t b O
  d := .sl 2 48 [dvSet t]
  one := by rintro w F O v ⟨rfl, _⟩; rfl
  keep := fun w w' F F' O v h hs hO ⟨e, ht⟩ => ⟨e, TreeAt.keep h hs t hO ht⟩
  frz := by
    rintro w F O F' v hs hO ⟨rfl, ht⟩
    obtain ⟨sm, sc, t1, t2, t3, t4, t5⟩ := ht.rep hs t hO
    unfold Rep
    refine ⟨some ⟨b, 0, none⟩, 1, rfl, by simp, by simp, by simp, .inr ⟨b, 0, hO b t5, rfl, ?_⟩⟩
    unfold RepL
    refine ⟨⟨.agg #[sm, sc], t2, rfl, fun c hc => ?_, ?_⟩, by unfold RepL; trivial⟩
    · have hc : c ∈ [sm, sc] := hc
      rcases List.mem_cons.1 hc with rfl | hu
      · exact t3
      · rw [List.mem_singleton] at hu; rw [hu]; exact t4
    · have hl := lies_block (vs := [sm, sc]) t1 0
      simpa [Value.cells] using hl
/-- With a set at b', the set g of it stands at b. -/
def Wand (w : World) (F O : Nat → Prop) (b' : Nat) (g : ST PEV → ST PEV) (b : Nat) : Prop :=
  ∀ (w' : World) (F' : Nat → Prop) (t' : ST PEV) (O' : Nat → Prop), (∀ x, F x → w'.heap[x]? = w.heap[x]?) → (∀ x, F x → F' x) → (∀ x, O x → w'.heap[x]? = w.heap[x]?) → TreeAt w' F' t' b' O' → (∀ x, O x → ¬ O' x) → TreeAt w' F' (g t') b (fun x => O x ∨ O' x)
def oneQ : Opq where
  rel _ _ v := v.oneCell' = true
  one := fun _ _ _ h => h
  keep := fun _ _ _ _ _ _ _ h => h
def wandAt (b' : Nat) (g : ST PEV → ST PEV) (b : Nat) : Res where
  rel w F O v := v = slS b ∧ Wand w F O b' g b
  d := .opq oneQ
  one := by rintro w F O v ⟨rfl, _⟩; rfl
  keep := fun w w' F F' O v h hs hO ⟨e, ht⟩ => ⟨e, fun w2 F2 t' O' h1 h2 h3 h4 h5 => ht w2 F2 t' O' (fun x hx => (h1 x (hs x hx)).trans (h x hx)) (fun x hx => h2 x (hs x hx)) (fun x hx => (h3 x hx).trans (hO x hx)) h4 h5⟩
  frz := by
    rintro w F O F' v hs hO ⟨rfl, ht⟩
    unfold Rep
    rfl
theorem tree_nil {w : World} {F : Nat → Prop} {b : Nat} (h : w.heap[b]? = some (.cells #[.slice none 0 0, .slice none 0 0] 122 (0, 0))) : TreeAt w F (.mk [] []) b (fun x => x = b) := by
  unfold TreeAt
  refine ⟨.slice none 0 0, .slice none 0 0, [], fun _ => False, h, ⟨[], ⟨rfl, .inl ⟨rfl, rfl⟩⟩, rfl, by simp, by simp⟩, ⟨[], ⟨rfl, .inl ⟨rfl, rfl⟩⟩, rfl, by simp, by simp⟩, by unfold KidsAt; exact ⟨rfl, fun _ h => h⟩, fun x => ?_, ?_⟩
  · simp [Value.ownBlock]
  · simp [Value.ownBlock]
section
variable {P : Program} {X : Base} {N : Nat} {ops : List Oper} {s s' : Sta} {a : Act} {w : World} {ρ : Nat → RV}
theorem ConcAt.reput {d : Nat} (hd : d < X.N) {x y : AV} {v u : Value} (h : ConcAt X (s.put (some d) x) (a.put (some d) v) w ρ) (hy : VR w (FF X w s.tb ρ) s.tb ρ y u) : ConcAt X (s.put (some d) y) (a.put (some d) u) w ρ := by
  have h2 := h.put hd (x := y) (v := u) hy
  have e1 : (s.put (some d) x).put (some d) y = s.put (some d) y := by
    have : upd (upd s.tm d x) d y = upd s.tm d y := by
      funext t
      unfold upd
      split
      · rfl
      · rfl
    show ({ tm := upd (upd s.tm d x) d y, tb := _ } : Sta) = { tm := _, tb := _ }
    rw [this]
    rfl
  have e2 : (a.put (some d) v).put (some d) u = a.put (some d) u := by
    simp [Act.put]
  rwa [e1, e2] at h2
/-- A new empty set. -/
theorem i_boxS {d : Nat} {x : Operand} (y : Nat → AV) (hy : ∀ b w F tb ρ, tb d = some (.res (setAt b (.mk [] []))) → (ρ d).v = slS b → VR w F tb ρ (y b) (adr b)) (hN : Nat.blt d N = true) (hd0 : s.tb d = none) (hx : s.ev x = .dat (.agg [.val (.slice none 0 0), .val (.slice none 0 0)])) :
    TrI P X N ops (some d) (.box 122 x) (fun b : Nat => Eff.new d (.res (setAt b (.mk [] []))) (y b)) s := ⟨fun hX ty pos aft s' hA a w ⟨ρ, hc⟩ K Q' hK => by
  have hd : d < X.N := by rw [hX.1]; exact Nat.blt_eq.mp hN
  have h1 := hc.ev x
  rw [ev_alike (hA 0) (by simp [Op.operands]), hx] at h1
  have hd0' : s'.tb d = none := (new_alike (hA 0) rfl).trans hd0
  have he : a.eval x = .agg #[.slice none 0 0, .slice none 0 0] := by
    unfold VR Rep at h1
    obtain ⟨vs, e, h2, _⟩ := h1
    rw [e]
    unfold Reps at h2
    obtain ⟨v, r, rfl, h3, h2⟩ := h2
    unfold Reps at h2
    obtain ⟨v2, r2, rfl, h4, h2⟩ := h2
    unfold Reps at h2
    subst h2
    unfold Rep at h3 h4
    rw [h3.1, h4.1]
  have h2 := hc.newRes (d := d) hd hd0' (o := .cells #[.slice none 0 0, .slice none 0 0] 122) (R := setAt w.heap.size (.mk [] [])) (v := slS w.heap.size) fun F => ⟨rfl, tree_nil (by show (w.heap.push _)[w.heap.size]? = _; exact Array.getElem?_push_size)⟩
  have hr : (execOp a.eval ⟨some d, .box 122 x, ty, pos, aft, none⟩).run P w = .ok (.value (.pointer (some ⟨w.heap.size, 0, none⟩))) (w.alloc (.cells #[.slice none 0 0, .slice none 0 0] 122)) := by
    simp [execOp, Instr.box, newVar, newRow, he, Value.cells]
  have h3 := ConcAt.reput (s := { s' with tb := upd s'.tb d (some (.res (setAt w.heap.size (.mk [] [])))) }) hd h2 (hy w.heap.size _ _ _ _ (upd_same _ _ _) (by rw [upd_same]))
  refine wp_value hr ?_
  exact hK (a.put (some d) (adr w.heap.size)) _ w.heap.size ⟨_, h3⟩⟩
end
end Go.Proofs.YtgmahieoiifpfaaGreat
end
section
set_option linter.unusedVariables false
namespace Go.Proofs.YtgmahieoiifpfaaGreat
open Go.RowKit
set_option linter.unusedSimpArgs false
/-- A node: a path element and one cell. -/
def dN (e : PEV × PD) : PD := .agg (peC e.1 ++ [e.2])
theorem fnDescend_p (x : PEV × PD) (p : PEV) : PCall Tryz.prog 159 [dN x, dvPE p] (.val (.int .i64 (cmpPE x.1 p))) := by
  have c := peCompare_p x.1 p
  obtain ⟨d0, d1, d2, d3, e⟩ := peC_four x.1
  obtain ⟨u0, u1, u2, u3, e'⟩ := dvPE_agg p
  unfold dN
  rw [dvPE_C x.1, e, e'] at c
  rw [e, e']
  refine pcall_of_run Tryz.func159 rfl Tryz.ntmps159 rfl (fun X => ?_)
  exact wke
set_option maxHeartbeats 8000000 in
/-- slices.BinarySearchFunc over set nodes. -/
theorem bsnDescend_p (m : List (PEV × PD)) (p : PEV) (hl : ∀ x ∈ m.map (·.1), OPE x) (hp : OPE p) (hs : Srt cmpPE (m.map (·.1))) :
    PCall Tryz.prog 158 [.sl 5 40 (m.map dN), dvPE p, .val (.func (.func 159) #[] #[])] (.tup [.val (.int .i64 ((locL_ cmpPE (m.map (·.1)) p : Nat) : Int)), .val (.bool (fndL_ cmpPE (m.map (·.1)) p))]) := by
  refine pcall_fits fun hfit => ?_
  have b1 := (hfit (.sl 5 40 (m.map dN)) (by simp)).sl.2.1
  clear hfit
  have n1 : (m.map dN).length = m.length := by simp
  have ga : ∀ {z : Int} {i : Nat} {x : PEV × PD}, z = (i : Int) → m[i]? = some x → (m.map dN)[z.toNat]? = some (dN x) := fun hz h => by subst hz; simp [h]
  have gk : ∀ {i : Nat} {x : PEV × PD}, m[i]? = some x → (m.map (·.1))[i]? = some x.1 := fun h => by simp [h]
  rw [n1] at b1
  generalize m.map dN = da at *
  have hF := fun x => fnDescend_p x p
  obtain ⟨u0, u1, u2, u3, e'⟩ := dvPE_agg p
  rw [e'] at hF ⊢
  have hlo := fun (i : Nat) (x : PEV × PD) (h : i < locL_ cmpPE (m.map (·.1)) p) (hx : m[i]? = some x) => locL_lt (m.map (·.1)) p i x.1 h (gk hx)
  have hhi := fun (i : Nat) (x : PEV × PD) (h : locL_ cmpPE (m.map (·.1)) p ≤ i) (hx : m[i]? = some x) => locL_ge ordPE hl hp hs i x.1 h (gk hx)
  have hle := locL_le (c := cmpPE) (m.map (·.1)) p
  rw [List.length_map] at hle
  rw [fndL_at]
  generalize hloc : locL_ cmpPE (m.map (·.1)) p = loc at *
  clear hs
  refine pcall_of_run Tryz.func158 rfl Tryz.ntmps158 rfl (fun X => ?_)
  refine wk ?_
  refine run_loopS (ι := { j : Nat × Nat // j.1 ≤ loc ∧ loc ≤ j.2 ∧ j.2 ≤ m.length })
    (fun j => [(0, .dat (.sl 5 40 da)), (2, .dat (.val (.func (.func 159) #[] #[]))), (4, .ptr 4 0), (8, .dat (.val (.int .i64 ((da.length : Nat) : Int)))), (9, .dat (.val (.int .i64 (j.1.1 : Nat)))), (10, .dat (.val (.int .i64 (j.1.2 : Nat))))])
    (fun _ => [(4, .box 99 (cellsD (.agg [u0, u1, u2, u3])))]) (fun j => j.1.2 - j.1.1) ⟨(0, da.length), Nat.zero_le _, by rw [n1]; exact hle, by rw [n1]; exact Nat.le_refl _⟩ id ?_ ?_
  · exact sb
  rintro ⟨⟨lo, hi⟩, h1, h2, h3⟩
  simp only at h1 h2 h3
  simp only
  by_cases hlt : lo < hi
  · have g1 : decide ((lo : Int) < (hi : Int)) = true := decide_eq_true (by omega)
    obtain ⟨h, hh⟩ : ∃ h, h = (lo + hi) / 2 := ⟨_, rfl⟩
    have w1 : IntKind.u64.wrap ((lo : Int) + (hi : Int)) = (lo : Int) + (hi : Int) := by
      simp [IntKind.wrap, IntKind.signed, IntKind.bits]; omega
    have w2 : ((lo : Int) + (hi : Int)) / 2 = ((h : Nat) : Int) := by omega
    have w3 : IntKind.i64.wrap ((h : Nat) : Int) = ((h : Nat) : Int) := by rw [IntKind.wrap_i64]; omega
    have w4 : (Lit.int .u64 ((h : Nat) : Int)).wf = true := by
      simp [Lit.wf, IntKind.min, IntKind.max, IntKind.signed, IntKind.bits]; omega
    obtain ⟨x, hx⟩ : ∃ x, m[h]? = some x := ⟨_, List.getElem?_eq_getElem (by omega)⟩
    have i1 := ga (z := ((h : Nat) : Int)) rfl hx
    have cF := hF x
    obtain ⟨k, v⟩ := x
    obtain ⟨d0, d1, d2, d3, ek⟩ := peC_four k
    unfold dN at i1 cF
    rw [ek] at i1 cF
    by_cases hc : cmpPE k p < 0
    · have g2 : decide (cmpPE k p < 0) = true := decide_eq_true hc
      have hb : h < loc := by
        refine Nat.lt_of_not_le fun hn => hhi h _ hn hx hc
      clear hlo hhi hF hloc
      refine wk ?_
      refine run_again ?_
      refine ⟨⟨(h + 1, hi), by simp only; omega, by simp only; omega, h3⟩, id, by simp only; omega, ?_⟩
      exact sb
    · have g2 : decide (cmpPE k p < 0) = false := decide_eq_false hc
      have hb : loc ≤ h := by
        refine Nat.le_of_not_lt fun hn => hc (hlo h _ hn hx)
      clear hlo hhi hF hloc
      refine wk ?_
      refine run_again ?_
      refine ⟨⟨(lo, h), h1, hb, by simp only; omega⟩, id, by simp only; omega, ?_⟩
      exact sb
  · have g1 : decide ((lo : Int) < (hi : Int)) = false := decide_eq_false (by omega)
    obtain rfl : lo = loc := by omega
    by_cases hin : lo < m.length
    · have g2 : decide ((lo : Int) < ((da.length : Nat) : Int)) = true := decide_eq_true (by omega)
      obtain ⟨x, hx⟩ : ∃ x, m[lo]? = some x := ⟨_, List.getElem?_eq_getElem hin⟩
      have i1 := ga (z := ((lo : Nat) : Int)) rfl hx
      have cF := hF x
      rw [gk hx]
      obtain ⟨k, v⟩ := x
      obtain ⟨d0, d1, d2, d3, ek⟩ := peC_four k
      unfold dN at i1 cF
      rw [ek] at i1 cF
      simp only
      clear hlo hhi hF hloc
      exact wke
    · have g2 : decide ((lo : Int) < ((da.length : Nat) : Int)) = false := decide_eq_false (by omega)
      rw [List.getElem?_eq_none (by rw [List.length_map]; omega)]
      simp only
      exact wke
end Go.Proofs.YtgmahieoiifpfaaGreat
end
section
set_option linter.unusedVariables false
namespace Go.Proofs.YtgmahieoiifpfaaGreat
open Go.RowKit
set_option linter.unusedSimpArgs false
theorem Tryz.infoPN : ∃ i, Tryz.prog.info? 224 = some i ∧ i.zero = some (.agg #[.pointer none, .pointer none, .pointer none, .pointer none, .pointer none]) ∧ i.size = 5 ∧ i.bytes = 40 := by
  have h : (Tryz.prog.info? 224).map (fun i => (i.zero, i.size, i.bytes)) = some (some (.agg #[.pointer none, .pointer none, .pointer none, .pointer none, .pointer none]), 5, 40) := by kernel_rfl
  cases hq : Tryz.prog.info? 224 with
  | none => rw [hq] at h; cases h
  | some i =>
    rw [hq] at h
    simp only [Option.map_some, Option.some.injEq, Prod.mk.injEq] at h
    exact ⟨i, rfl, h.1, h.2.1, h.2.2⟩
set_option maxHeartbeats 4000000 in
set_option maxRecDepth 100000 in
/-- At the end. -/
theorem insPN_end (w : World) (base : Nat) (v : Value) (g2 c2 len : Nat) (xs news : List Value) (hv : w.ownsRow base 224 5 v len xs) (hu : w.ownsRow base 224 5 (.slice (some ⟨g2, 0, none⟩) 1 c2) 1 news)
    (hb : (len + 1) * 40 ≤ 140737488351232) (hl : len + 1 ≤ 140737488351232) (hw : base ≤ w.heap.size) (h1 : ∀ c ∈ news, c.oneCell' = true) :
    Calls Tryz.prog 161 #[v, .int .i64 (len : Int), .slice (some ⟨g2, 0, none⟩) 1 c2] w fun e' w' => ∃ v', e' = .returned v' ∧ w'.ownsRow base 224 5 v' (len + 1) (xs ++ news) ∧ w.grownBy w' v.ownBlock ∧ (∀ b, blkOf v' = some b → w.heap.size ≤ b ∨ v.ownBlock = some b) := by
  obtain ⟨inf, hi, hz, hs, hy⟩ := Tryz.infoPN
  have hnews : news.length = 1 * 5 := hu.1
  have hlies : Lies w g2 0 news := fun j u hj => by
    have := hu.cells (g := g2) rfl j u hj
    rwa [Addr_add] at this
  obtain ⟨v', w', hr, r1, r2, r3⟩ := run_append_row (P := Tryz.prog) base 118 118 224 inf _ 5 40 Tryz.underlying118 hi hz hs hy rfl (by omega) hv (ad := some ⟨g2, 0, none⟩) (m := 1) (c := c2) hnews (.inr ⟨g2, 0, rfl, hlies⟩) h1 (by unfold maxLen; omega) (by omega) hw
  obtain ⟨a, c, rfl⟩ : ∃ a c, v = .slice a len c := by
    rcases hv.2 with ⟨rfl, rfl⟩ | ⟨g, cap, cur, rfl, _⟩
    · exact ⟨_, _, rfl⟩
    · exact ⟨_, _, rfl⟩
  have hc : len ≤ c := by
    rcases hv.2 with ⟨e, e2⟩ | ⟨g, cap, cur, e, _, _, h, _⟩
    · omega
    · injection e with _ _ e; omega
  rw [← append_types Tryz.underlying118 Tryz.underlying117] at hr
  have HR := Lib.hid (And.intro r1 (And.intro r2 r3))
  clear r1 r2 r3 hv hu hlies
  generalize (Value.slice a len c).ownBlock = ob at *
  go_enter Tryz.func161, Tryz.ntmps161
  go_wp2_with (at_builtin; refine Lib.wpList_append_run _ rfl _ _ _ _ rfl _ _ rfl rfl _ _ hr ?_)
  all_goals
    go_ret
    obtain ⟨r1, r2, r3⟩ := HR.out
    exact ⟨_, rfl, r1, r2, r3⟩
theorem ln1 {α : Type} (xs rest : List α) {p q r : Nat} (hp : p + 5 ≤ xs.length) (hq : p + 5 + r = xs.length + 5) (hq2 : q = p + 5 := by omega) : (xs ++ rest).take q ++ xs.drop p ++ (xs ++ rest).drop (q + r) = xs.take (p + 5) ++ xs.drop p ++ rest.drop 5 := by
  subst hq2
  have e : (xs ++ rest).drop (xs.length + 5) = rest.drop 5 := by
    rw [List.drop_append, List.drop_eq_nil_of_le (Nat.le_add_right _ _), List.nil_append, Nat.add_sub_cancel_left]
  rw [List.take_append_of_le_length hp, hq, e]
theorem ln2 {α : Type} (xs rest news : List α) {p : Nat} (hp : p + 5 ≤ xs.length) : (xs.take (p + 5) ++ xs.drop p ++ rest.drop 5).take p ++ news ++ (xs.take (p + 5) ++ xs.drop p ++ rest.drop 5).drop (p + 5) = xs.take p ++ news ++ xs.drop p ++ rest.drop 5 := by
  rw [List.append_assoc (xs.take (p + 5)), List.drop_left' (by simp; omega), List.take_append_of_le_length (by simp; omega), List.take_take, Nat.min_eq_left (by omega)]
  simp
set_option maxHeartbeats 4000000 in
set_option maxRecDepth 100000 in
/-- Ahead of others, where there is room. -/
theorem insPN_room (w : World) (base g cap g2 c2 len i : Nat) (cur : Array Value) (xs rest news : List Value) (hbg : base ≤ g) (hg : w.heap[g]? = some (.cells cur 224 (0, 0))) (hcm : cap ≤ maxLen) (hcs : cur.size = cap * 5) (hcur : cur.toList = xs ++ rest) (hxs : xs.length = len * 5)
    (hu : w.ownsRow base 224 5 (.slice (some ⟨g2, 0, none⟩) 1 c2) 1 news) (hne : g2 ≠ g) (hi : i < len) (hroom : len + 1 ≤ cap)
    (hl : len + 1 ≤ 140737488351232) (h1x : ∀ c ∈ xs, c.oneCell' = true) (h1 : ∀ c ∈ news, c.oneCell' = true) :
    Calls Tryz.prog 161 #[.slice (some ⟨g, 0, none⟩) len cap, .int .i64 (i : Int), .slice (some ⟨g2, 0, none⟩) 1 c2] w fun e' w' => ∃ v', e' = .returned v' ∧ w'.ownsRow base 224 5 v' (len + 1) (xs.take (i * 5) ++ news ++ xs.drop (i * 5)) ∧ w.grownBy w' (some g) ∧ (∀ b, blkOf v' = some b → w.heap.size ≤ b ∨ (some g) = some b) := by
  obtain ⟨inf, hinf, hz, hs, hy⟩ := Tryz.infoPN
  have hsz : (Tryz.prog.info? 224).map (·.size) = some 5 := by rw [hinf]; simp [hs]
  have hrl : rest.length = (cap - len) * 5 := by
    have := congrArg List.length hcur
    simp only [Array.length_toList, List.length_append] at this
    omega
  have hnews : news.length = 5 := by have := hu.1; omega
  obtain ⟨cur2, hg2, hc2⟩ : ∃ cur2, w.heap[g2]? = some (.cells cur2 224 (0, 0)) ∧ cur2.toList.take 5 = news ∧ cur2.size ≠ 0 := by
    rcases hu.2 with ⟨e, _⟩ | ⟨g', cap', cur', e, _, h1, h2, h3, h4, h5⟩
    · cases e
    · injection e with e1 _ _
      injection e1 with e1
      injection e1 with e1
      subst e1
      exact ⟨cur', h1, h5, by omega⟩
  have hlies : ∀ j u, news[j]? = some u → w.cell? ⟨g2, j, none⟩ = some u := fun j u hj => by
    refine row_cell hg2 ?_
    rw [← hc2.1] at hj
    rw [List.getElem?_take] at hj
    split at hj
    · exact hj
    · cases hj
  have hov : ∀ o lb cb, (callFunc 214 #[.slice (some ⟨g2, 0, none⟩) 1 c2, .slice (some ⟨g, o, none⟩) lb cb]).run Tryz.prog w = .ok (.value (.bool false)) w := fun o lb cb => by
    rw [run_callFunc_extern (fn := Tryz.f214) Tryz.func214 (by kernel_rfl) (by kernel_rfl) (by kernel_rfl) (e := Extern.SlicesOverlaps.overlaps #[117, 117] #[4]) (by kernel_rfl),
      Lib.run_overlaps_apart w 117 4 224 Tryz.underlying117 5 (fun w => by simp [sizeOf, typeInfo, hinf, hs]) ⟨g2, 0, none⟩ ⟨g, o, none⟩ 1 c2 lb cb hne 224 224 cur2.size cur.size (by simp [World.shape?, hg2]) (by simp [World.shape?, hg]) (by omega) (by simp [World.frozen?, hg2]) (by simp [World.frozen?, hg2])]
    rfl
  obtain ⟨curA, hA⟩ : ∃ c : Array Value, c = (xs.take (i * 5 + 5) ++ xs.drop (i * 5) ++ rest.drop 5).toArray := ⟨_, rfl⟩
  obtain ⟨curB, hB⟩ : ∃ c : Array Value, c = (xs.take (i * 5) ++ news ++ xs.drop (i * 5) ++ rest.drop 5).toArray := ⟨_, rfl⟩
  have hdl : (xs.drop (i * 5)).length = (len - i) * 5 := by rw [List.length_drop, hxs]; omega
  have hmin1 : Nat.min (len + 1 - i) (len - i) = len - i := by simp only [Nat.min_def]; split <;> omega
  have hmin2 : Nat.min 1 (len + 1 - i) = 1 := by simp only [Nat.min_def]; split <;> omega
  have hcp1 : ∀ ty dc sc, (Builtin.copy_ #[118, 118] ty #[.slice (some ⟨g, (i + 1) * 5, none⟩) (len - i) dc, .slice (some ⟨g, i * 5, none⟩) (len + 1 - i) sc]).run Tryz.prog w.drew = .ok (goInt ((len - i : Nat) : Int)) (w.drew.setRow g curA) := fun ty dc sc => by
    have := run_copy_rowN (P := Tryz.prog) (w := w.drew) 118 118 ty 224 5 g ((i + 1) * 5) (len - i) dc ⟨g, i * 5, none⟩ (len + 1 - i) sc cur 224 (xs.drop (i * 5)) Tryz.underlying118 hsz hg (by rw [hmin1, hdl])
      (fun j u hj => by
        rw [Addr_add]
        refine row_cell (w := w.drew) hg ?_
        rw [List.getElem?_drop] at hj
        rw [hcur, List.getElem?_append_left (List.getElem?_eq_some_iff.1 hj).1]
        exact hj) (by rw [hdl, hcs]; omega) (fun u hu => h1x u (List.mem_of_mem_drop hu))
    rw [hmin1] at this
    rw [this, hA, hcur, hdl]
    congr 3
    exact ln1 xs rest (p := i * 5) (r := (len - i) * 5) (by omega) (by omega) (by omega)
  have hgA : (w.drew.setRow g curA).heap[g]? = some (.cells curA 224 (0, 0)) := setRow_heap w.drew g cur curA 224 _ hg
  have hcp2 : ∀ (W : World), W.heap = (w.drew.setRow g curA).heap → ∀ ty dc, (Builtin.copy_ #[118, 117] ty #[.slice (some ⟨g, i * 5, none⟩) (len + 1 - i) dc, .slice (some ⟨g2, 0, none⟩) 1 c2]).run Tryz.prog W = .ok (goInt ((1 : Nat) : Int)) (W.setRow g curB) := fun W hW ty dc => by
    have := run_copy_rowN (P := Tryz.prog) (w := W) 118 117 ty 224 5 g (i * 5) (len + 1 - i) dc ⟨g2, 0, none⟩ 1 c2 curA 224 news Tryz.underlying118 hsz (by rw [hW]; exact hgA) (by rw [hmin2, hnews])
      (fun j u hj => by
        rw [Addr_add, Nat.zero_add]
        rw [World.cell?_of_block (w := w) (a := ⟨g2, j, none⟩) (by rw [hW]; exact setRow_oth hne)]
        exact hlies j u hj) (by rw [hA, hnews]; simp [hxs, hdl, hrl]; omega) h1
    rw [hmin2] at this
    rw [this, hA, hB, hnews]
    congr 3
    exact ln2 xs rest news (by omega)
  have FIN : ((w.drew.setRow g curA).setRow g curB).ownsRow base 224 5 (.slice (some ⟨g, 0, none⟩) (len + 1) cap) (len + 1) (xs.take (i * 5) ++ news ++ xs.drop (i * 5)) ∧ w.grownBy ((w.drew.setRow g curA).setRow g curB) (some g) ∧ (∀ b, blkOf (.slice (some ⟨g, 0, none⟩) (len + 1) cap) = some b → w.heap.size ≤ b ∨ (some g) = some b) := by
    have hlen : (xs.take (i * 5) ++ news ++ xs.drop (i * 5)).length = (len + 1) * 5 := by simp only [List.length_append, List.length_take, List.length_drop, hxs, hnews]; omega
    refine ⟨⟨hlen, .inr ⟨g, cap, curB, rfl, hbg, setRow_heap (w.drew.setRow g curA) g curA curB _ _ hgA, hroom, hcm, ?_, ?_⟩⟩, ⟨rfl, rfl, rfl, by rw [setRow_size, setRow_size]; exact Nat.le_refl _, fun k _ hk => ?_⟩, fun b hb => .inr (by simpa [blkOf] using hb)⟩
    · rw [hB, List.size_toArray, List.length_append, hlen, List.length_drop, hrl]; omega
    · rw [hB]; exact List.take_left' hlen
    · rw [setRow_oth (fun e => hk (by rw [e])), setRow_oth (fun e => hk (by rw [e]))]; rfl
  clear hA hB
  have mixed : Tryz.prog.follows Departure.mixedOrders = true := by kernel_rfl
  have hb2 : ¬ (cap = i + 1) := by omega
  have hb4 : ¬ (cap = i) := by omega
  have hin : i ≤ len := by omega
  have hb3 : (i : Int) ≤ (len : Int) + 1 := by omega
  have hw1 : IntKind.i64.wrap ((i : Int) + 1) = (i : Int) + 1 := by rw [IntKind.wrap_i64]; omega
  have htn : ((i : Int) + 1).toNat = i + 1 := by omega
  have hb1 : (0 : Int) ≤ (i : Int) + 1 := by omega
  go_enter Tryz.func161, Tryz.ntmps161
  go_wp2_with (simp only [hov])
  go_region_law_o (refine step_copy_runI rfl _ _ 118 118 rfl _ _ (by simp [Act.eval, Act.put]) (by simp [Act.eval, Act.put]) (hcp1 _ _ _) ?_)
  go_wp2_with (at_builtin; refine wpList_copy_runI _ rfl _ _ 118 117 rfl _ _ rfl rfl (hcp2 _ rfl _ _) ?_)
  go_ret
  exact ⟨_, rfl, FIN⟩
theorem ln3 {α : Type} (A Z news : List α) {p : Nat} (hA : A.length = p) : (A ++ Z).take p ++ news ++ (A ++ Z).drop (p + 5) = A ++ news ++ Z.drop 5 := by
  rw [List.take_left' hA, List.drop_append, List.drop_eq_nil_of_le (by omega : A.length ≤ p + 5), hA, List.nil_append, Nat.add_sub_cancel_left]
theorem ln4 {α : Type} (A Y D news : List α) {p r q : Nat} (hA : A.length = p) (hn : news.length = 5) (hq : q = p + 5) : (A ++ news ++ Y).take q ++ D ++ (A ++ news ++ Y).drop (q + r) = A ++ news ++ D ++ Y.drop r := by
  have h : (A ++ news).length = q := by rw [List.length_append, hA, hn, hq]
  have e : (A ++ news ++ Y).drop (q + r) = Y.drop r := by
    rw [List.drop_append, List.drop_eq_nil_of_le (by omega), h, List.nil_append, Nat.add_sub_cancel_left]
  rw [List.take_left' h, e]
set_option maxHeartbeats 4000000 in
set_option maxRecDepth 100000 in
/-- Ahead of others, where there is no room. -/
theorem insPN_grow (w : World) (base g cap g2 c2 len i : Nat) (cur : Array Value) (xs news : List Value) (hbw : base ≤ w.heap.size) (hg : w.heap[g]? = some (.cells cur 224 (0, 0))) (hcur : cur.toList.take (len * 5) = xs) (hxs : xs.length = len * 5)
    (hu : w.ownsRow base 224 5 (.slice (some ⟨g2, 0, none⟩) 1 c2) 1 news) (hi : i < len) (hle : len ≤ cap) (hroom : cap < len + 1)
    (hb : (len + 1) * 40 ≤ 140737488351232) (hl : len + 1 ≤ 140737488351232) (h1x : ∀ c ∈ xs, c.oneCell' = true) (h1 : ∀ c ∈ news, c.oneCell' = true) :
    Calls Tryz.prog 161 #[.slice (some ⟨g, 0, none⟩) len cap, .int .i64 (i : Int), .slice (some ⟨g2, 0, none⟩) 1 c2] w fun e' w' => ∃ v', e' = .returned v' ∧ w'.ownsRow base 224 5 v' (len + 1) (xs.take (i * 5) ++ news ++ xs.drop (i * 5)) ∧ w.grownBy w' (some g) ∧ (∀ b, blkOf v' = some b → w.heap.size ≤ b ∨ (some g) = some b) := by
  obtain ⟨inf, hinf, hz, hs, hy⟩ := Tryz.infoPN
  have hsz : (Tryz.prog.info? 224).map (·.size) = some 5 := by rw [hinf]; simp [hs]
  have hnews : news.length = 5 := by have := hu.1; omega
  obtain ⟨cur2, hg2, hc2⟩ : ∃ cur2, w.heap[g2]? = some (.cells cur2 224 (0, 0)) ∧ cur2.toList.take 5 = news := by
    rcases hu.2 with ⟨e, _⟩ | ⟨g', cap', cur', e, _, h1, h2, h3, h4, h5⟩
    · cases e
    · injection e with e1 _ _
      injection e1 with e1
      injection e1 with e1
      subst e1
      exact ⟨cur', h1, h5⟩
  have hlies : ∀ j u, news[j]? = some u → w.cell? ⟨g2, j, none⟩ = some u := fun j u hj => by
    refine row_cell hg2 ?_
    rw [← hc2, List.getElem?_take] at hj
    split at hj
    · exact hj
    · cases hj
  have hliex : ∀ j u, xs[j]? = some u → w.cell? ⟨g, j, none⟩ = some u := fun j u hj => by
    refine row_cell hg ?_
    rw [← hcur, List.getElem?_take] at hj
    split at hj
    · exact hj
    · cases hj
  have hgw : g < w.heap.size := (Array.getElem?_eq_some_iff.1 hg).1
  have hg2w : g2 < w.heap.size := (Array.getElem?_eq_some_iff.1 hg2).1
  obtain ⟨G, hG⟩ : ∃ G, G = grownCap w (len + 1) cap 224 := ⟨_, rfl⟩
  have hGn : len + 1 ≤ G := by rw [hG]; exact grownCap_ge w _ _ _
  have hGm : G ≤ maxLen := by rw [hG]; exact grownCap_le_maxLen w _ _ _ (by unfold maxLen; omega)
  obtain ⟨ROW, hROW⟩ : ∃ ROW : Array Value, ROW = (xs.take (i * 5)).toArray ++ Builtin.zeroCells (Value.agg #[.pointer none, .pointer none, .pointer none, .pointer none, .pointer none]).cells (len + 1 - i) ++ Builtin.zeroCells (Value.agg #[.pointer none, .pointer none, .pointer none, .pointer none, .pointer none]).cells (G - (len + 1)) := ⟨_, rfl⟩
  obtain ⟨Z, hZ, hZl⟩ : ∃ Z : List Value, ROW.toList = xs.take (i * 5) ++ Z ∧ Z.length = (G - i) * 5 := by
    refine ⟨(Builtin.zeroCells (Value.agg #[.pointer none, .pointer none, .pointer none, .pointer none, .pointer none]).cells (len + 1 - i)).toList ++ (Builtin.zeroCells (Value.agg #[.pointer none, .pointer none, .pointer none, .pointer none, .pointer none]).cells (G - (len + 1))).toList, by rw [hROW]; simp, ?_⟩
    rw [List.length_append, Array.length_toList, Array.length_toList, size_zeroCells, size_zeroCells]
    simp only [Value.cells, List.size_toArray, List.length_cons, List.length_nil]
    omega
  have htl : (xs.take (i * 5)).length = i * 5 := by rw [List.length_take, hxs]; omega
  have hdl : (xs.drop (i * 5)).length = (len - i) * 5 := by rw [List.length_drop, hxs]; omega
  have hRs : ROW.size = G * 5 := by rw [← Array.length_toList, hZ, List.length_append, htl, hZl]; omega
  have hold : (Builtin.firstCells inf.size i (.slice (some ⟨g, 0, none⟩) i cap)).run Tryz.prog w.drew = .ok (xs.take (i * 5)).toArray w.drew := by
    rw [hs]
    exact run_firstCells_some w.drew 5 i ⟨g, 0, none⟩ i cap (xs.take (i * 5)) htl (fun j v hj => by
      rw [Addr_add, Nat.zero_add]
      rw [List.getElem?_take] at hj
      split at hj
      · exact hliex j v hj
      · cases hj)
  have hrz : ∀ ty, (Builtin.append_ #[118, 3] ty #[.slice (some ⟨g, 0, none⟩) i cap, .int .i64 ((len : Int) + 1 - (i : Int))]).run Tryz.prog w = .ok (.slice (some ⟨w.heap.size, 0, none⟩) (len + 1) G) (w.drew.alloc (.cells ROW 224)) := fun ty => by
    have h := Lib.run_append_grow_zeros (P := Tryz.prog) w 118 3 ty 224 inf _ .i64 .i64 Tryz.underlying118 Tryz.underlying3 hinf hz (some ⟨g, 0, none⟩) i cap (xs.take (i * 5)) hold (len + 1 - i) (by omega) (by omega) (by omega) (by omega) (by rw [hy]; omega) (by rw [hy, show i + (len + 1 - i) = len + 1 by omega]; exact growslice_fits hroom (by omega))
    rw [show i + (len + 1 - i) = len + 1 by omega, ← hG] at h
    rw [show ((len : Int) + 1 - (i : Int)) = ((len + 1 - i : Nat) : Int) by omega, h, hROW]
  obtain ⟨curB, hB⟩ : ∃ c : Array Value, c = (xs.take (i * 5) ++ news ++ Z.drop 5).toArray := ⟨_, rfl⟩
  obtain ⟨curC, hC⟩ : ∃ c : Array Value, c = (xs.take (i * 5) ++ news ++ xs.drop (i * 5) ++ (Z.drop 5).drop ((len - i) * 5)).toArray := ⟨_, rfl⟩
  have hN1 : (w.alloc (.cells ROW 224)).heap[w.heap.size]? = some (.cells ROW 224 (0, 0)) := heap_alloc_new w _
  have hNB : ((w.alloc (.cells ROW 224)).setRow w.heap.size curB).heap[w.heap.size]? = some (.cells curB 224 (0, 0)) := setRow_heap _ _ ROW curB 224 _ hN1
  have hNC : (((w.alloc (.cells ROW 224)).setRow w.heap.size curB).setRow w.heap.size curC).heap[w.heap.size]? = some (.cells curC 224 (0, 0)) := setRow_heap _ _ curB curC 224 _ hNB
  have hold1 : ∀ b, b < w.heap.size → (w.alloc (.cells ROW 224)).heap[b]? = w.heap[b]? := fun b h => Below.heap_alloc _ _ _ h
  have hmin1 : Nat.min (len - i) (len + 1 - (i + 1)) = len - i := by simp only [Nat.min_def]; split <;> omega
  have hmin2 : Nat.min 1 (len + 1 - i) = 1 := by simp only [Nat.min_def]; split <;> omega
  have hcpA : ∀ (W : World), W.heap = (w.alloc (.cells ROW 224)).heap → ∀ ty dc, (Builtin.copy_ #[118, 117] ty #[.slice (some ⟨w.heap.size, i * 5, none⟩) (len + 1 - i) dc, .slice (some ⟨g2, 0, none⟩) 1 c2]).run Tryz.prog W = .ok (goInt ((1 : Nat) : Int)) (W.setRow w.heap.size curB) := fun W hW ty dc => by
    have := run_copy_rowN (P := Tryz.prog) (w := W) 118 117 ty 224 5 w.heap.size (i * 5) (len + 1 - i) dc ⟨g2, 0, none⟩ 1 c2 ROW 224 news Tryz.underlying118 hsz (by rw [hW]; exact hN1) (by rw [hmin2, hnews])
      (fun j u hj => by
        rw [Addr_add, Nat.zero_add]
        rw [World.cell?_of_block (w := w) (a := ⟨g2, j, none⟩) (by rw [hW]; exact hold1 _ hg2w)]
        exact hlies j u hj) (by rw [hRs, hnews]; omega) h1
    rw [hmin2] at this
    rw [this, hB, hnews, hZ]
    congr 3
    exact ln3 _ _ _ htl
  have hcpB : ∀ (W : World), W.heap = ((w.alloc (.cells ROW 224)).setRow w.heap.size curB).heap → ∀ ty dc sc, (Builtin.copy_ #[118, 118] ty #[.slice (some ⟨w.heap.size, (i + 1) * 5, none⟩) (len - i) dc, .slice (some ⟨g, i * 5, none⟩) (len - i) sc]).run Tryz.prog W = .ok (goInt ((len - i : Nat) : Int)) (W.setRow w.heap.size curC) := fun W hW ty dc sc => by
    have hm : Nat.min (len - i) (len - i) = len - i := by simp only [Nat.min_def]; split <;> omega
    have := run_copy_rowN (P := Tryz.prog) (w := W) 118 118 ty 224 5 w.heap.size ((i + 1) * 5) (len - i) dc ⟨g, i * 5, none⟩ (len - i) sc curB 224 (xs.drop (i * 5)) Tryz.underlying118 hsz (by rw [hW]; exact hNB) (by rw [hm, hdl])
      (fun j u hj => by
        rw [Addr_add]
        rw [World.cell?_of_block (w := w) (a := ⟨g, i * 5 + j, none⟩) (by rw [hW]; exact (setRow_oth (show g ≠ w.heap.size from Nat.ne_of_lt hgw)).trans (hold1 _ hgw))]
        rw [List.getElem?_drop] at hj
        exact hliex _ u hj) (by rw [hB, List.size_toArray, hdl]; simp only [List.length_append, htl, hnews, List.length_drop, hZl]; omega) (fun u hu => h1x u (List.mem_of_mem_drop hu))
    rw [hm] at this
    rw [this, hC, hB, hdl]
    congr 3
    exact ln4 _ _ _ _ htl hnews (by omega)
  have FIN : ∀ W : World, W.os = w.os → W.tape = w.tape → W.output = w.output → W.heap = (((w.alloc (.cells ROW 224)).setRow w.heap.size curB).setRow w.heap.size curC).heap → W.ownsRow base 224 5 (.slice (some ⟨w.heap.size, 0, none⟩) (len + 1) G) (len + 1) (xs.take (i * 5) ++ news ++ xs.drop (i * 5)) ∧ w.grownBy W (some g) ∧ (∀ b, blkOf (.slice (some ⟨w.heap.size, 0, none⟩) (len + 1) G) = some b → w.heap.size ≤ b ∨ (some g) = some b) := by
    intro W e1 e2 e3 e4
    have hlen : (xs.take (i * 5) ++ news ++ xs.drop (i * 5)).length = (len + 1) * 5 := by simp only [List.length_append, htl, hdl, hnews]; omega
    refine ⟨⟨hlen, .inr ⟨w.heap.size, G, curC, rfl, hbw, by rw [e4]; exact hNC, hGn, hGm, ?_, ?_⟩⟩, ⟨e1, e2, e3, by rw [e4, setRow_size, setRow_size]; simp, fun k hk _ => ?_⟩, fun b hb => .inl (Nat.le_of_eq (by simpa [blkOf] using hb))⟩
    · rw [hC, List.size_toArray, List.length_append, hlen, List.length_drop, List.length_drop, hZl]; omega
    · rw [hC]; exact List.take_left' hlen
    · rw [e4, setRow_oth (by omega), setRow_oth (by omega)]; exact hold1 _ hk
  clear hB hC hNB hNC hN1 hold1 hold hRs hZ hZl hROW hG hlies hliex hg hg2 hu hcur
  have mixed : Tryz.prog.follows Departure.mixedOrders = true := by kernel_rfl
  have hb2 : ¬ (cap = i + 1) ∨ cap = i + 1 := by omega
  have hb4 : ¬ (cap = i) := by omega
  have hb5 : ¬ (G = i) := by omega
  have hb6 : ¬ (G = i + 1) := by omega
  have hin : i ≤ len := by omega
  have hz3 : (cap : Int) < (len : Int) + 1 := by omega
  have hb3 : (i : Int) ≤ (len : Int) + 1 := by omega
  have hb7 : (i : Int) ≤ (len : Int) := by omega
  have hw1 : IntKind.i64.wrap ((i : Int) + 1) = (i : Int) + 1 := by rw [IntKind.wrap_i64]; omega
  have htn : ((i : Int) + 1).toNat = i + 1 := by omega
  have hb1 : (0 : Int) ≤ (i : Int) + 1 := by omega
  have hcpA' := hcpA (w.alloc (.cells ROW 224)).drew rfl
  have hcpB' := hcpB ((w.alloc (.cells ROW 224)).drew.setRow w.heap.size curB).drew rfl
  clear hb2 hcpA hcpB
  go_enter Tryz.func161, Tryz.ntmps161
  go_wp2_with (at_builtin; refine Lib.wpList_append_run _ rfl _ _ _ _ rfl _ _ rfl rfl _ _ (hrz _) ?_)
  go_region
  go_wp2
  go_ret
  exact ⟨_, rfl, FIN _ rfl rfl rfl rfl⟩
instance : InsF Tryz.prog 161 224 5 40 := ⟨by kernel_rfl, fun w base v u len i xs news hv hu hap hi hb hl hw h1x h1 => by
  obtain ⟨g2, c2, rfl⟩ : ∃ g2 c2, u = .slice (some ⟨g2, 0, none⟩) 1 c2 := by
    rcases hu.2 with ⟨_, e⟩ | ⟨g', cap', cur', e, _⟩
    · omega
    · exact ⟨_, _, e⟩
  by_cases he : i = len
  · subst he
    rw [List.take_of_length_le (by rw [hv.1]; exact Nat.le_refl _), List.drop_eq_nil_of_le (by rw [hv.1]; exact Nat.le_refl _), List.append_nil]
    exact insPN_end w base v g2 c2 i xs news hv hu hb hl hw h1
  · rcases hv.2 with ⟨_, e⟩ | ⟨g, cap, cur, rfl, hbg, hg, hnc, hcm, hcs, hcur⟩
    · omega
    · have hne : g2 ≠ g := fun e => hap g rfl (by rw [e]; rfl)
      by_cases hroom : len + 1 ≤ cap
      · exact insPN_room w base g cap g2 c2 len i cur xs (cur.toList.drop (len * 5)) news hbg hg hcm hcs (by rw [← hcur, List.take_append_drop]) hv.1 hu hne (by omega) hroom hl h1x h1
      · exact insPN_grow w base g cap g2 c2 len i cur xs news hw hg hcur hv.1 hu (by omega) hnc (by omega) hb hl h1x h1⟩
end Go.Proofs.YtgmahieoiifpfaaGreat
end
section
set_option linter.unusedVariables false
namespace Go.Proofs.YtgmahieoiifpfaaGreat
open Go.RowKit
set_option linter.unusedSimpArgs false
set_option maxHeartbeats 8000000 in
theorem insert2_c (v : Value) (l : List PEV) (p : PEV) (hl : ∀ x ∈ l, OPE x) (hp : OPE p) (hs : Srt cmpPE l) (hb : (l.length + 1) * 32 ≤ 140737488351232) :
    ACall1 Tryz.prog 162 [.ptr 1000 0, .dat (dvPE p)] [(1000, .box 122 [.own 1001, .dat (.val v)]), (1001, .row 99 4 32 (l.map dvPE))] (.dat (.tup []))
      [(1000, .box 122 [.own 0, .dat (.val v)]), (0, .row 99 4 32 ((insL_ cmpPE l p).map dvPE)), (1001, .dead)] := by
  have c := bsfInsert_p l p hl hp hs
  have n1 : (l.map dvPE).length = l.length := by simp
  have hle := locL_le (c := cmpPE) l p
  rw [sins_loc]
  obtain ⟨u0, u1, u2, u3, e⟩ := dvPE_agg p
  cases hf : fndL_ cmpPE l p with
  | true =>
    rw [hf] at c
    rw [e] at c ⊢
    rw [if_pos rfl]
    generalize l.map dvPE = da at *
    refine acall_of_run Tryz.func162 rfl Tryz.ntmps162 rfl (fun X => ?_)
    refine wk ?_
    refine x_of (d_callZ gV rfl (by kernel_rfl) rfl c Flat.tup2) ?_
    refine wk ?_
    refine run_retA () (fun j => if j = 0 then 1001 else j) (tm := []) ?_ (resA_none rfl)
    exact sb
  | false =>
    rw [hf] at c
    rw [if_neg (by simp), List.map_append, List.map_cons, List.map_take, List.map_drop]
    rw [e] at c ⊢
    generalize l.map dvPE = da at *
    generalize locL_ cmpPE l p = loc at *
    have q0 : loc ≤ da.length := by omega
    have q1 : (da.length + 1) * 32 ≤ 140737488351232 := by omega
    have q2 : da.length + 1 ≤ 140737488351232 := by omega
    refine acall_of_run Tryz.func162 rfl Tryz.ntmps162 rfl (fun X => ?_)
    refine wk ?_
    refine x_of (d_callZ gV rfl (by kernel_rfl) rfl c Flat.tup2) ?_
    refine wk ?_
    refine x_of (d_insert rfl rfl rfl rfl rfl rfl rfl rfl (by assumption) (by assumption) (by assumption)) ?_
    refine wk ?_
    refine run_endA () (fun j => if j = 0 then 24 else j) (tm := []) ?_ (resA_none rfl)
    exact sb
end Go.Proofs.YtgmahieoiifpfaaGreat
end
section
set_option linter.unusedVariables false
namespace Go.Proofs.YtgmahieoiifpfaaGreat
open Go.RowKit
set_option linter.unusedSimpArgs false
set_option maxHeartbeats 8000000 in
theorem descF_c (v : Value) (m : List (PEV × PD)) (p : PEV) (hl : ∀ x ∈ m.map (·.1), OPE x) (hp : OPE p) (hs : Srt cmpPE (m.map (·.1))) {b : Nat} {k : PEV} (hf : fndL_ cmpPE (m.map (·.1)) p = true) (hx : m[locL_ cmpPE (m.map (·.1)) p]? = some (k, .val (adr b))) :
    ACall1 Tryz.prog 96 [.ptr 1000 1, .dat (dvPE p)] [(1000, .box 122 [.dat (.val v), .own 1001]), (1001, .row 224 5 40 (m.map dN))] (.dat (.val (adr b)))
      [(1000, .box 122 [.dat (.val v), .own 1001]), (1001, .row 224 5 40 (m.map dN))] := by
  have c := bsnDescend_p m p hl hp hs
  obtain ⟨u0, u1, u2, u3, e⟩ := dvPE_agg p
  obtain ⟨d0, d1, d2, d3, e1⟩ := peC_four k
  have i1 : (m.map dN)[locL_ cmpPE (m.map (·.1)) p]? = some (.agg [d0, d1, d2, d3, .val (adr b)]) := by
    rw [List.getElem?_map, hx]; show some (dN _) = _; unfold dN; rw [e1]; rfl
  have i2 : locL_ cmpPE (m.map (·.1)) p < (m.map dN).length := (List.getElem?_eq_some_iff.1 i1).1
  rw [hf] at c
  rw [e] at c ⊢
  clear hx
  generalize m.map dN = da at *
  generalize locL_ cmpPE (m.map (·.1)) p = loc at *
  refine acall_of_run Tryz.func96 rfl Tryz.ntmps96 rfl (fun X => ?_)
  refine wk ?_
  refine x_of (d_callZ gV rfl (by kernel_rfl) rfl c Flat.tup2) ?_
  refine wk ?_
  refine run_retA () id (tm := [(4, .dat (.val (adr b)))]) ?_ (resA_tmp rfl rfl)
  exact sb
set_option maxHeartbeats 8000000 in
theorem descN_c (v : Value) (m : List (PEV × PD)) (p : PEV) (hl : ∀ x ∈ m.map (·.1), OPE x) (hp : OPE p) (hs : Srt cmpPE (m.map (·.1))) (hb : (m.length + 1) * 40 ≤ 140737488351232) (hf : fndL_ cmpPE (m.map (·.1)) p = false) :
    ACall Tryz.prog 96 [.ptr 1000 1, .dat (dvPE p)] [(1000, .box 122 [.dat (.val v), .own 1001]), (1001, .row 224 5 40 (m.map dN))] (ι := Nat) (fun b => .dat (.val (adr b)))
      (fun b => [(1000, .box 122 [.dat (.val v), .own 0]), (0, .row 224 5 40 ((m.take (locL_ cmpPE (m.map (·.1)) p) ++ (p, .val (adr b)) :: m.drop (locL_ cmpPE (m.map (·.1)) p)).map dN)), (1001, .dead), (1, .res (setAt b (.mk [] [])))]) := by
  have c := bsnDescend_p m p hl hp hs
  have n1 : (m.map dN).length = m.length := by simp
  have hle := locL_le (c := cmpPE) (m.map (·.1)) p
  rw [List.length_map] at hle
  obtain ⟨u0, u1, u2, u3, e⟩ := peC_four p
  have hd : ∀ b, (m.take (locL_ cmpPE (m.map (·.1)) p) ++ (p, PD.val (adr b)) :: m.drop (locL_ cmpPE (m.map (·.1)) p)).map dN = (m.map dN).take (locL_ cmpPE (m.map (·.1)) p) ++ .agg [u0, u1, u2, u3, .val (adr b)] :: (m.map dN).drop (locL_ cmpPE (m.map (·.1)) p) := fun b => by
    rw [List.map_append, List.map_cons, List.map_take, List.map_drop]
    congr 2
    unfold dN
    simp only [e]
    rfl
  simp only [hd]
  rw [hf] at c
  rw [dvPE_C, e] at c ⊢
  clear hd
  generalize m.map dN = da at *
  generalize locL_ cmpPE (m.map (·.1)) p = loc at *
  have q0 : loc ≤ da.length := by omega
  have q1 : (da.length + 1) * 40 ≤ 140737488351232 := by omega
  have q2 : da.length + 1 ≤ 140737488351232 := by omega
  refine acall_of_run Tryz.func96 rfl Tryz.ntmps96 rfl (fun X => ?_)
  refine wk ?_
  refine x_of (d_callZ gV rfl (by kernel_rfl) rfl c Flat.tup2) ?_
  have nd : NoDraw := ⟨trivial⟩
  refine wk ?_
  clear nd
  refine run_drawI 8 [none, none, none, some (Eff.put (some 37) (.ptr 1000 1)), some (Eff.put (some 38) (.ptr 1000 1)), none] 0 (fun b : Nat => Eff.new 33 (.res (setAt b (.mk [] []))) (.dat (.val (adr b)))) (by kernel_rfl) rfl ?_
  simp only [List.take_succ_cons, List.take_zero, List.drop_succ_cons, List.drop_zero, Nat.reduceAdd]
  refine wk ?_
  refine c_nil ⟨i_boxS (fun b => .dat (.val (adr b))) (fun b w F tb ρ _ _ => by unfold VR Rep; exact ⟨rfl, trivial⟩) rfl rfl rfl, fun b => ?_⟩
  refine wk ?_
  refine x_of (d_insert rfl rfl rfl rfl rfl rfl rfl rfl (by assumption) (by assumption) (by assumption)) ?_
  refine wk ?_
  refine ⟨⟨by kernel_rfl, by kernel_rfl, by kernel_rfl, rfl, rfl, by kernel_rfl, rfl⟩, ?_⟩
  have i1 : (da.take loc ++ .agg [u0, u1, u2, u3, .val (adr b)] :: da.drop loc)[loc]? = some (.agg [u0, u1, u2, u3, .val (adr b)]) := by
    have h0 : (da.take loc).length = loc := by rw [List.length_take]; omega
    rw [List.getElem?_append_right (by omega), h0, Nat.sub_self]; rfl
  have i2 := (List.getElem?_eq_some_iff.1 i1).1
  refine wk ?_
  refine run_retA b (thk [(0, 36), (1, 33)] 0) (tm := [(4, .dat (.val (adr b)))]) ?_ (resA_tmp rfl rfl)
  exact sb
end Go.Proofs.YtgmahieoiifpfaaGreat
end
section
set_option linter.unusedVariables false
namespace Go.Proofs.YtgmahieoiifpfaaGreat
open Go.RowKit
set_option linter.unusedSimpArgs false
section
variable {X : Base} {ρ ρ1 ρ' : Nat → RV} {tbl tbl1 tbl' : List (Nat × Blk)} {w' : World} {L1 : Nat → Prop} {rv : Nat → Value}
/-- A part of what is lent. -/
def Base.part (X : Base) (L1 : Nat → Prop) (h : ∀ b, L1 b → X.L b) (rv : Nat → Value) : Base := { X with L := L1, rv := rv, hLB := fun b hb => X.hLB b (h b hb) }
theorem ff_start (hL : ∀ b, X.L b ↔ ∃ k, liveB (lkB tbl k) = true ∧ (ρ k).fp b) (hFL : ∀ b, X.F0 b → ¬ X.L b) (h : ∀ b, L1 b → X.L b) (hfp : ∀ k b, liveB (lkB tbl1 k) = true → (ρ1 k).fp b → L1 b) : ∀ b, FF X X.w0 (lkB tbl) ρ b → FF (X.part L1 h rv) X.w0 (lkB tbl1) ρ1 b := fun b hb => by
  have h0 : X.F0 b := by
    rcases hb.1 with h | h | h
    · exact h
    · have := hb.2.1; omega
    · obtain ⟨k, h1, h2⟩ := (hL b).1 h
      exact absurd h2 (hb.2.2 k h1)
  exact ⟨.inl h0, hb.2.1, fun k hk e => hFL b h0 (h b (hfp k b hk e))⟩
theorem ff_end (hFL : ∀ b, X.F0 b → ¬ X.L b) (hLs : ∀ b, X.L b → b < X.w0.heap.size) (h : ∀ b, L1 b → X.L b) (hfp : ∀ k x, liveB (lkB tbl' k) = true → (ρ' k).fp x → (∃ j, liveB (lkB tbl1 j) = true ∧ (ρ1 j).fp x) ∨ (X.L x ∧ ¬ L1 x)) : ∀ b, FF (X.part L1 h rv) w' (lkB tbl1) ρ1 b → FF X w' (lkB tbl') ρ' b := fun b hb => by
  refine ⟨hb.1.imp id fun h0 => h0.imp id (h b), hb.2.1, fun k hk e => ?_⟩
  rcases hfp k b hk e with ⟨j, h1, h2⟩ | ⟨h1, h2⟩
  · exact hb.2.2 j h1 h2
  · rcases hb.1 with h3 | h3 | h3
    · exact hFL b h3 h1
    · have := hLs b h1
      have h3 : X.w0.heap.size ≤ b := h3
      omega
    · exact h2 h3
theorem bel_part {h : ∀ b, L1 b → X.L b} (hb : Bel (X.part L1 h rv) w') : Bel X w' := ⟨hb.os, hb.tape, hb.output, hb.size, fun b h1 h2 => hb.block b h1 fun h3 => h2 (h b h3)⟩
end
theorem own_base {w : World} {base base' e n : Nat} {v : Value} {len : Nat} {xs : List Value} (h : w.ownsRow base e n v len xs) (hb : ∀ b, v.ownBlock = some b → base' ≤ b) : w.ownsRow base' e n v len xs := by
  refine ⟨h.1, h.2.imp id ?_⟩
  rintro ⟨g, cap, cur, e1, _, r⟩
  exact ⟨g, cap, cur, e1, hb g (by rw [e1]; rfl), r⟩
theorem blk_own {w : World} {base e n : Nat} {v : Value} {len : Nat} {xs : List Value} (h : w.ownsRow base e n v len xs) {b : Nat} : blkOf v = some b ↔ v.ownBlock = some b := by
  rcases h.2 with ⟨e1, e2⟩ | ⟨g, cap, cur, e1, _⟩ <;> rw [e1] <;> exact Iff.rfl
theorem own_lt {w : World} {base e n : Nat} {v : Value} {len : Nat} {xs : List Value} (h : w.ownsRow base e n v len xs) {b : Nat} (hb : v.ownBlock = some b) : b < w.heap.size := by
  rcases h.2 with ⟨e1, e2⟩ | ⟨g, cap, cur, e1, _, hg, _⟩
  · rw [e1] at hb; cases hb
  · rw [e1] at hb
    have : g = b := by simpa [Value.ownBlock] using hb
    subst this
    exact (Array.getElem?_eq_some_iff.1 hg).1
theorem live_mem {l : List (Nat × Blk)} {k : Nat} (h : liveB (lkB l k) = true) : ∃ x, (k, x) ∈ l ∧ x.live = true := by
  obtain ⟨x, h1, h2⟩ := live_some h
  exact ⟨x, lkB_mem h1, h2⟩
theorem VRs_two {w : World} {F : Nat → Prop} {tb : Nat → Option Blk} {ρ : Nat → RV} {x y : AV} {vs : List Value} (h : VRs w F tb ρ [x, y] vs) : ∃ v u, vs = [v, u] ∧ VR w F tb ρ x v ∧ VR w F tb ρ y u := by
  unfold VRs at h
  obtain ⟨v, r, rfl, h1, h⟩ := h
  unfold VRs at h
  obtain ⟨u, r, rfl, h2, h⟩ := h
  unfold VRs at h
  subst h
  exact ⟨v, u, rfl, h1, h2⟩
set_option maxHeartbeats 2000000 in
/-- (*PathElementSet).Insert at the members of a set. -/
theorem memIns_c (b : Nat) (m : List PEV) (ch : List (PEV × ST PEV)) (p : PEV) (hl : ∀ x ∈ m, OPE x) (hp : OPE p) (hs : Srt cmpPE m) (hb : (m.length + 1) * 32 ≤ 140737488351232) :
    ACall1 Tryz.prog 162 [.elt 1000 2 0 0, .dat (dvPE p)] [(1000, .res (setAt b (.mk m ch)))] (.dat (.tup [])) [(1000, .res (setAt b (.mk (insL_ cmpPE m p) ch)))] := by
  intro X ρ vs hP hL hFL hlie hvs
  have hk : lkB [(1000, Blk.res (setAt b (.mk m ch)))] 1000 = some (.res (setAt b (.mk m ch))) := rfl
  obtain ⟨⟨hv0, ht⟩, hmay⟩ := hlie.blks 1000 _ hk
  obtain ⟨v1, v2, rfl, g1, g2⟩ := VRs_two hvs
  unfold TreeAt at ht
  obtain ⟨sm, sc, bs, Ok, t1, ⟨xs, a1, a2, a3, a4⟩, ⟨ys, c1, c2, c3, c4⟩, t4, t5, t6, t7, t8, t9, t10, t11⟩ := ht
  have hLO : ∀ x, (ρ 1000).fp x → X.L x := fun x hx => (hL x).2 ⟨1000, rfl, hx⟩
  have hLs : ∀ x, X.L x → x < X.w0.heap.size := fun x hx => by
    obtain ⟨k, h1, h2⟩ := (hL x).1 hx
    obtain ⟨y, hy, hyl⟩ := live_some h1
    have : k = 1000 := by
      unfold lkB at hy
      split at hy
      · assumption
      · simp [lkB] at hy
    subst this
    exact (hmay x h2).2
  have hv1 : v1 = .pointer (some ⟨b, 0, none⟩) := by
    unfold VR at g1
    obtain ⟨_, ⟨x, _, _, g, len, c, e1, e2⟩ | h⟩ := g1
    · rw [hv0] at e1
      unfold slS at e1
      injection e1 with e1 _ _
      injection e1 with e1
      injection e1 with e1
      rw [e2, ← e1]
    · cases h
  let L1 : Nat → Prop := fun x => x = b ∨ sm.ownBlock = some x
  have hL1 : ∀ x, L1 x → X.L x := fun x hx => hLO x ((t5 x).2 (hx.imp id .inl))
  let ρ1 : Nat → RV := fun k => if k = 1000 then RV.of (.pointer (some ⟨b, 0, none⟩)) else RV.of sm
  let rv1 : Nat → Value := fun k => (ρ1 k).v
  have c := insert2_c sc m p hl hp hs hb
  have hfp1 : ∀ k x, liveB (lkB [(1000, .box 122 [.own 1001, .dat (.val sc)]), (1001, .row 99 4 32 (m.map dvPE))] k) = true → (ρ1 k).fp x → L1 x := by
    intro k x h1 h2
    simp only [ρ1] at h2
    split at h2
    · left
      have h2 : some b = some x := h2
      exact (Option.some.inj h2).symm
    · right
      exact (blk_own a1).1 h2
  have hFs := ff_start (rv := rv1) hL hFL hL1 hfp1
  refine (c (X.part L1 hL1 rv1) ρ1 [v1, v2] hP (fun x => ⟨fun hx => ?_, fun ⟨k, h1, h2⟩ => hfp1 k x h1 h2⟩) (fun x h1 h2 => hFL x h1 (hL1 x h2)) ⟨fun k x hx => ?_, fun k k' x h1 h2 e1 e2 => ?_, fun k _ _ => rfl⟩ ?_).mono ?_
  · rcases hx with rfl | hx
    · exact ⟨1000, rfl, rfl⟩
    · exact ⟨1001, rfl, (blk_own a1).2 hx⟩
  · unfold lkB at hx
    split at hx
    · rename_i e
      subst e
      simp only [Option.some.injEq] at hx
      subst hx
      refine ⟨b, [sm, sc], rfl, .inr (.inl rfl), t1, ?_, ?_⟩
      · unfold VRs
        refine ⟨sm, [sc], rfl, ?_, ?_⟩
        · unfold VR
          exact ⟨own_one a1, .inl ⟨_, rfl, .inl rfl, rfl⟩⟩
        · unfold VRs
          refine ⟨sc, [], rfl, ?_, by unfold VRs; rfl⟩
          unfold VR Rep
          refine ⟨rfl, ?_⟩
          rcases c1.2 with ⟨e1, _⟩ | ⟨g, cap, cur, e1, _⟩ <;> rw [e1] <;> trivial
      · intro u hu
        rcases List.mem_cons.1 hu with rfl | hu
        · exact own_one a1
        · rw [List.mem_singleton] at hu; rw [hu]; exact own_one c1
    · unfold lkB at hx
      split at hx
      · rename_i e
        subst e
        simp only [Option.some.injEq] at hx
        subst hx
        refine ⟨xs, rfl, fun x hx => .inr (.inr hx), own_base a1 fun x hx => X.hLB x (hL1 x (.inr hx)), a2.keep (fun _ _ => rfl) hFs, by simpa using a3, by simpa using a4⟩
      · simp [lkB] at hx
  · obtain ⟨x1, m1, _⟩ := live_mem h1
    obtain ⟨x2, m2, _⟩ := live_mem h2
    simp only [List.mem_cons, Prod.mk.injEq, List.not_mem_nil, or_false] at m1 m2
    rcases m1 with ⟨rfl, _⟩ | ⟨rfl, _⟩ <;> rcases m2 with ⟨rfl, _⟩ | ⟨rfl, _⟩
    · rfl
    · have e1 : some b = some x := e1
      exact absurd ((blk_own a1).1 e2) (by rw [← e1]; exact t6)
    · have e2 : some b = some x := e2
      exact absurd ((blk_own a1).1 e1) (by rw [← e2]; exact t6)
    · rfl
  · unfold VRs
    refine ⟨v1, [v2], rfl, ?_, ?_⟩
    · unfold VR
      exact ⟨_, _, b, rfl, rfl, hv1⟩
    · unfold VRs
      refine ⟨v2, [], rfl, ?_, by unfold VRs; rfl⟩
      unfold VR at g2 ⊢
      exact g2.keep (fun _ _ => rfl) hFs
  · rintro e' w' ⟨v, i, ρ2, he, hbel, hl2, hvr⟩
    obtain ⟨b', vs', e1, _, k1, k2, k3⟩ := hl2.blks 1000 _ rfl
    have e2 := hl2.lent 1000 (Nat.le_refl _) rfl
    rw [e1] at e2
    have e2 : Value.pointer (some ⟨b', 0, none⟩) = .pointer (some ⟨b, 0, none⟩) := e2
    simp only [Value.pointer.injEq, Option.some.injEq, Addr.mk.injEq, and_true] at e2
    subst e2
    obtain ⟨v0, u0, rfl, k4, k5⟩ := VRs_two k2
    obtain ⟨ys0, q0, qm, q1, q2, q3, q4⟩ := hl2.blks 0 _ rfl
    have k4 := VR_ownR k4 (x := .row 99 4 32 ((insL_ cmpPE m p).map dvPE)) rfl rfl
    have k5 : u0 = sc := by unfold VR Rep at k5; exact k5.1
    subst k4 k5
    have hb0 : X.L b' := hL1 b' (.inl rfl)
    have hsz := hbel.size
    have hsz : X.w0.heap.size ≤ w'.heap.size := hsz
    let O' : Nat → Prop := fun x => x = b' ∨ (ρ2 0).v.ownBlock = some x ∨ u0.ownBlock = some x ∨ Ok x
    have hscL : ∀ x, u0.ownBlock = some x → X.L x ∧ ¬ L1 x := fun x hx => ⟨hLO x ((t5 x).2 (.inr (.inr (.inl hx)))), fun h => by
      rcases h with rfl | h
      · exact t7 hx
      · exact t8 x h hx⟩
    have hOkL : ∀ x, Ok x → X.L x ∧ ¬ L1 x := fun x hx => ⟨hLO x ((t5 x).2 (.inr (.inr (.inr hx)))), fun h => by
      rcases h with rfl | h
      · exact t9 hx
      · exact t10 x h hx⟩
    have hsame : ∀ x, X.L x ∧ ¬ L1 x → w'.heap[x]? = X.w0.heap[x]? := fun x hx => hbel.block x (hLs x hx.1) hx.2
    have hnew : ∀ x, (ρ2 0).v.ownBlock = some x → ¬ (X.L x ∧ ¬ L1 x) := fun x hx h => by
      rcases qm x hx with h1 | h1
      · have := hLs x h.1
        have h1 : X.w0.heap.size ≤ x := h1
        omega
      · exact h.2 h1
    let ρf : Nat → RV := fun _ => ⟨slS b', O'⟩
    have hF0 : ∀ x, FF X X.w0 (lkB [(1000, .res (setAt b' (.mk m ch)))]) ρ x → w'.heap[x]? = X.w0.heap[x]? := fun x hx => hbel.block x hx.2.1 fun h => by
      have h3 := hL1 x h
      obtain ⟨k, h1, h2⟩ := (hL x).1 h3
      exact hx.2.2 k h1 h2
    have hFe : ∀ x, FF (X.part L1 hL1 rv1) w' (lkB [(1000, .box 122 [.own 0, .dat (.val u0)]), (0, .row 99 4 32 ((insL_ cmpPE m p).map dvPE)), (1001, .dead)]) ρ2 x → FF X w' (lkB [(1000, .res (setAt b' (.mk (insL_ cmpPE m p) ch)))]) ρf x := ff_end hFL hLs hL1 fun k x h1 h2 => by
      have h2 : O' x := h2
      rcases h2 with rfl | h2 | h2 | h2
      · exact .inl ⟨1000, rfl, by rw [e1]; rfl⟩
      · exact .inl ⟨0, rfl, by rw [q0]; exact (blk_own q1).2 h2⟩
      · exact .inr (hscL x h2)
      · exact .inr (hOkL x h2)
    have hFs2 : ∀ x, FF X X.w0 (lkB [(1000, .res (setAt b' (.mk m ch)))]) ρ x → FF X w' (lkB [(1000, .res (setAt b' (.mk (insL_ cmpPE m p) ch)))]) ρf x := fun x hx => by
      have hnL : ¬ X.L x := fun h => by
        obtain ⟨k, h1, h2⟩ := (hL x).1 h
        exact hx.2.2 k h1 h2
      refine ⟨hx.1, Nat.lt_of_lt_of_le hx.2.1 hsz, fun k h1 h2 => ?_⟩
      have h2 : O' x := h2
      rcases h2 with rfl | h2 | h2 | h2
      · exact hnL hb0
      · rcases qm x h2 with h3 | h3
        · have := hx.2.1
          have h3 : X.w0.heap.size ≤ x := h3
          omega
        · exact hnL (hL1 x h3)
      · exact hnL (hscL x h2).1
      · exact hnL (hOkL x h2).1
    refine ⟨v, (), ρf, he, bel_part hbel, ⟨fun k x hx => ?_, fun k k' x h1 h2 _ _ => ?_, fun k h1 h2 => ?_⟩, ?_⟩
    · have hm := lkB_mem hx
      simp only [List.mem_cons, Prod.mk.injEq, List.not_mem_nil, or_false] at hm
      obtain ⟨rfl, rfl⟩ := hm
      refine ⟨⟨rfl, ?_⟩, fun x hx => ?_⟩
      · unfold TreeAt
        refine ⟨(ρ2 0).v, u0, bs, Ok, by simpa using k1, ⟨ys0, own_base q1 (fun _ _ => Nat.zero_le _), q2.keep (fun _ _ => rfl) hFe, q3, q4⟩, RowAt.keep hF0 hFs2 (fun x hx => hsame x (hscL x hx)) ⟨ys, c1, c2, c3, c4⟩, KidsAt.keep hF0 hFs2 ch (fun x hx => hsame x (hOkL x hx)) t4, fun x => Iff.rfl, fun h => ?_, t7, fun x h1 h2 => hnew x h1 (hscL x h2), t9, fun x h1 h2 => hnew x h1 (hOkL x h2), t11⟩
        have := hl2.apart 1000 0 b' rfl rfl (by rw [e1]; rfl) (by rw [q0]; exact (blk_own q1).2 h)
        cases this
      · have hx : O' x := hx
        rcases hx with rfl | h2 | h2 | h2
        · exact ⟨.inr hb0, Nat.lt_of_lt_of_le (hLs _ hb0) hsz⟩
        · exact ⟨(qm x h2).imp id (hL1 x), own_lt q1 h2⟩
        · exact ⟨.inr (hscL x h2).1, Nat.lt_of_lt_of_le (hLs _ (hscL x h2).1) hsz⟩
        · exact ⟨.inr (hOkL x h2).1, Nat.lt_of_lt_of_le (hLs _ (hOkL x h2).1) hsz⟩
    · obtain ⟨x1, m1, _⟩ := live_mem h1
      obtain ⟨x2, m2, _⟩ := live_mem h2
      simp only [List.mem_cons, Prod.mk.injEq, List.not_mem_nil, or_false] at m1 m2
      rw [m1.1, m2.1]
    · obtain ⟨x1, m1, _⟩ := live_mem h2
      simp only [List.mem_cons, Prod.mk.injEq, List.not_mem_nil, or_false] at m1
      rw [m1.1, ← hlie.lent 1000 (Nat.le_refl _) rfl, hv0]
    · unfold VR Rep at hvr ⊢
      obtain ⟨vs, e, h⟩ := hvr
      unfold Reps at h
      exact ⟨vs, e, by unfold Reps; exact h⟩
section
variable {w : World} {F : Nat → Prop}
theorem KidsAt.take : ∀ {ch : List (PEV × ST PEV)} {bs : List Nat} {O : Nat → Prop} {i : Nat} {k : PEV} {t : ST PEV}, KidsAt w F ch bs O → ch[i]? = some (k, t) → ∃ (b' : Nat) (O1 O2 : Nat → Prop), bs[i]? = some b' ∧ TreeAt w F t b' O1 ∧ (∀ x, O x ↔ O1 x ∨ O2 x) ∧ (∀ x, O1 x → ¬ O2 x) ∧
    ∀ (w' : World) (F' : Nat → Prop) (t' : ST PEV) (O' : Nat → Prop), (∀ x, F x → w'.heap[x]? = w.heap[x]?) → (∀ x, F x → F' x) → (∀ x, O2 x → w'.heap[x]? = w.heap[x]?) → TreeAt w' F' t' b' O' → (∀ x, O2 x → ¬ O' x) → KidsAt w' F' (ch.set i (k, t')) bs (fun x => O2 x ∨ O' x)
  | [], _, _, _, _, _, _, h => by simp at h
  | y :: r, bs, O, i, k, t, hv, h => by
    unfold KidsAt at hv
    obtain ⟨b, bs', O1, O2, rfl, h2, h3, h4, h5⟩ := hv
    cases i with
    | zero =>
      simp only [List.getElem?_cons_zero, Option.some.injEq] at h
      subst h
      refine ⟨b, O1, O2, rfl, h2, h4, h5, fun w' F' t' O' g1 g2 g3 g4 g5 => ?_⟩
      simp only [List.set_cons_zero]
      unfold KidsAt
      exact ⟨b, bs', O', O2, rfl, g4, KidsAt.keep g1 g2 r g3 h3, fun x => or_comm, fun x hx hx' => g5 x hx' hx⟩
    | succ i =>
      obtain ⟨b', P1, P2, q1, q2, q3, q4, q5⟩ := KidsAt.take h3 (i := i) (by simpa using h)
      refine ⟨b', P1, fun x => O1 x ∨ P2 x, by simpa using q1, q2, fun x => ?_, fun x hx hx' => ?_, fun w' F' t' O' g1 g2 g3 g4 g5 => ?_⟩
      · rw [h4, q3]
        constructor
        · rintro (h | h | h)
          · exact .inr (.inl h)
          · exact .inl h
          · exact .inr (.inr h)
        · rintro (h | h | h)
          · exact .inr (.inl h)
          · exact .inl h
          · exact .inr (.inr h)
      · rcases hx' with h | h
        · exact h5 x h ((q3 x).2 (.inl hx))
        · exact q4 x hx h
      · simp only [List.set_cons_succ]
        unfold KidsAt
        refine ⟨b, bs', O1, fun x => P2 x ∨ O' x, rfl, TreeAt.keep g1 g2 y.2 (fun x hx => g3 x (.inl hx)) h2, q5 w' F' t' O' g1 g2 (fun x hx => g3 x (.inr hx)) g4 (fun x hx => g5 x (.inr hx)), fun x => or_assoc, fun x hx hx' => ?_⟩
        rcases hx' with h | h
        · exact h5 x hx ((q3 x).2 (.inr h))
        · exact g5 x (.inl hx) h
theorem KidsAt.put {k : PEV} {t : ST PEV} {b' : Nat} {O' : Nat → Prop} (ht : TreeAt w F t b' O') : ∀ {ch : List (PEV × ST PEV)} {bs : List Nat} {O : Nat → Prop} (i : Nat), KidsAt w F ch bs O → (∀ x, O x → ¬ O' x) → KidsAt w F (ch.take i ++ (k, t) :: ch.drop i) (bs.take i ++ b' :: bs.drop i) (fun x => O x ∨ O' x)
  | ch, bs, O, 0, hv, hd => by
    simp only [List.take_zero, List.drop_zero, List.nil_append]
    unfold KidsAt
    exact ⟨b', bs, O', O, rfl, ht, hv, fun x => or_comm, fun x hx hx' => hd x hx' hx⟩
  | [], bs, O, i + 1, hv, hd => by
    have hv0 := hv
    unfold KidsAt at hv
    obtain ⟨rfl, _⟩ := hv
    simp only [List.take_nil, List.drop_nil, List.nil_append]
    conv in KidsAt w F _ _ _ => unfold KidsAt
    exact ⟨b', [], O', O, rfl, ht, hv0, fun x => or_comm, fun x hx hx' => hd x hx' hx⟩
  | y :: r, bs, O, i + 1, hv, hd => by
    unfold KidsAt at hv
    obtain ⟨b, bs', O1, O2, rfl, h2, h3, h4, h5⟩ := hv
    simp only [List.take_succ_cons, List.drop_succ_cons, List.cons_append]
    have ih := KidsAt.put (k := k) ht i h3 (fun x hx => hd x ((h4 x).2 (.inr hx)))
    conv in KidsAt w F _ _ _ => unfold KidsAt
    refine ⟨b, _, O1, fun x => O2 x ∨ O' x, rfl, h2, ih, fun x => by show (O x ∨ O' x) ↔ _; rw [h4]; exact or_assoc, fun x hx hx' => ?_⟩
    rcases hx' with h | h
    · exact h5 x hx h
    · exact hd x ((h4 x).2 (.inl hx)) h
theorem wand_mk {b b' : Nat} {sm sc : Value} {m : List PEV} {g : ST PEV → List (PEV × ST PEV)} {bs : List Nat} {Or : Nat → Prop} (t1 : w.heap[b]? = some (.cells #[sm, sc] 122 (0, 0))) (h2 : RowAt w F 99 4 32 (m.map dvPE) sm)
    (h3 : ∀ t', RowAt w F 224 5 40 ((((g t').map (·.1)).zip bs).map nodeD) sc)
    (h4 : ∀ (w' : World) (F' : Nat → Prop) (t' : ST PEV) (O' : Nat → Prop), (∀ x, F x → w'.heap[x]? = w.heap[x]?) → (∀ x, F x → F' x) → (∀ x, Or x → w'.heap[x]? = w.heap[x]?) → TreeAt w' F' t' b' O' → (∀ x, Or x → ¬ O' x) → KidsAt w' F' (g t') bs (fun x => Or x ∨ O' x))
    (d1 : sm.ownBlock ≠ some b) (d2 : sc.ownBlock ≠ some b) (d3 : ∀ x, sm.ownBlock = some x → sc.ownBlock ≠ some x) (d4 : ¬ Or b) (d5 : ∀ x, sm.ownBlock = some x → ¬ Or x) (d6 : ∀ x, sc.ownBlock = some x → ¬ Or x) :
    Wand w F (fun x => x = b ∨ sm.ownBlock = some x ∨ sc.ownBlock = some x ∨ Or x) b' (fun t' => .mk m (g t')) b := by
  intro w' F' t' O' g1 g2 g3 g4 g5
  unfold TreeAt
  refine ⟨sm, sc, bs, fun x => Or x ∨ O' x, (g3 b (.inl rfl)).trans t1, h2.keep g1 g2 fun x hx => g3 x (.inr (.inl hx)), (h3 t').keep g1 g2 fun x hx => g3 x (.inr (.inr (.inl hx))), h4 w' F' t' O' g1 g2 (fun x hx => g3 x (.inr (.inr (.inr hx)))) g4 fun x hx => g5 x (.inr (.inr (.inr hx))), fun x => ?_, d1, d2, d3, ?_, fun x hx h => ?_, fun x hx h => ?_⟩
  · simp only [or_assoc]
  · rintro (h | h)
    · exact d4 h
    · exact g5 b (.inl rfl) h
  · rcases h with h | h
    · exact d5 x hx h
    · exact g5 x (.inr (.inl hx)) h
  · rcases h with h | h
    · exact d6 x hx h
    · exact g5 x (.inr (.inr (.inl hx))) h
end
theorem zipN_fst : ∀ {l : List PEV} {bs : List Nat}, bs.length = l.length → ((l.zip bs).map fun y => (y.1, PD.val (adr y.2))).map (·.1) = l
  | [], bs, _ => by simp
  | x :: l, [], h => by simp at h
  | x :: l, b :: bs, h => by simp only [List.zip_cons_cons, List.map_cons]; rw [zipN_fst (by simpa using h)]
theorem zip_dN (l : List PEV) (bs : List Nat) : ((l.zip bs).map fun y => (y.1, PD.val (adr y.2))).map dN = (l.zip bs).map nodeD := by
  rw [List.map_map]; rfl
theorem set_keys {ch : List (PEV × ST PEV)} {i : Nat} {k : PEV} {t t' : ST PEV} (h : ch[i]? = some (k, t)) : (ch.set i (k, t')).map (·.1) = ch.map (·.1) := by
  rw [List.map_set]
  refine List.ext_getElem? fun j => ?_
  rw [List.getElem?_set]
  split
  · rename_i e
    subst e
    have hl : i < (ch.map (·.1)).length := by simpa using (List.getElem?_eq_some_iff.1 h).1
    simp [h]
    exact (List.getElem?_eq_some_iff.1 h).1
  · rfl
/-- What is lent, if it is one set. -/
theorem open_set {X : Base} {ρ : Nat → RV} {b : Nat} {m : List PEV} {ch : List (PEV × ST PEV)} (hL : ∀ x, X.L x ↔ ∃ k, liveB (lkB [(1000, Blk.res (setAt b (.mk m ch)))] k) = true ∧ (ρ k).fp x) (hlie : Lies2 X (lkB [(1000, Blk.res (setAt b (.mk m ch)))]) X.w0 ρ) :
    (∀ x, X.L x ↔ (ρ 1000).fp x) ∧ (∀ x, X.L x → x < X.w0.heap.size) ∧ X.rv 1000 = slS b ∧ (∀ {i : Nat} {v : Value}, VR X.w0 (FF X X.w0 (lkB [(1000, Blk.res (setAt b (.mk m ch)))]) ρ) (lkB [(1000, Blk.res (setAt b (.mk m ch)))]) ρ (.elt 1000 2 0 i) v → v = .pointer (some ⟨b, i, none⟩)) ∧
    TreeAt X.w0 (FF X X.w0 (lkB [(1000, Blk.res (setAt b (.mk m ch)))]) ρ) (.mk m ch) b (ρ 1000).fp := by
  obtain ⟨⟨hv0, ht⟩, hmay⟩ := hlie.blks 1000 _ rfl
  have hk : ∀ k, liveB (lkB [(1000, Blk.res (setAt b (.mk m ch)))] k) = true → k = 1000 := fun k h => by
    obtain ⟨x1, m1, _⟩ := live_mem h
    simp only [List.mem_cons, Prod.mk.injEq, List.not_mem_nil, or_false] at m1
    exact m1.1
  refine ⟨fun x => ⟨fun h => ?_, fun h => (hL x).2 ⟨1000, rfl, h⟩⟩, fun x h => ?_, ?_, fun {i v} g1 => ?_, ht⟩
  · obtain ⟨k, h1, h2⟩ := (hL x).1 h
    rw [hk k h1] at h2; exact h2
  · obtain ⟨k, h1, h2⟩ := (hL x).1 h
    rw [hk k h1] at h2
    exact (hmay x h2).2
  · rw [← hlie.lent 1000 (Nat.le_refl _) rfl, hv0]
  · unfold VR at g1
    obtain ⟨_, ⟨x, _, _, g, len, c, e1, e2⟩ | h⟩ := g1
    · rw [hv0] at e1
      unfold slS at e1
      injection e1 with e1 _ _
      injection e1 with e1
      injection e1 with e1
      rw [e2, ← e1]
      simp
    · cases h
def lvS (b : Nat) (v : Value) : Nat → Prop := fun x => x = b ∨ v.ownBlock = some x
def rvS (b : Nat) (v : Value) : Nat → RV := fun k => if k = 1000 then RV.of (.pointer (some ⟨b, 0, none⟩)) else RV.of v
/-- A call to which a set's children are lent, out of a set. -/
theorem desc_start {P : Program} {f : FuncId} {ι : Type} {out : ι → AV} {tbl' : ι → List (Nat × Blk)} {X : Base} {ρ : Nat → RV} {b : Nat} {m : List PEV} {ch : List (PEV × ST PEV)} {sm sc v1 v2 : Value} {nl : List PD} {d : PD} {base : Nat} {zs : List Value} {n : Nat}
    (hP : X.P = P) (hL : ∀ x, X.L x ↔ ∃ k, liveB (lkB [(1000, Blk.res (setAt b (.mk m ch)))] k) = true ∧ (ρ k).fp x) (hFL : ∀ b, X.F0 b → ¬ X.L b) (hL1 : ∀ x, lvS b sc x → X.L x)
    (t1 : X.w0.heap[b]? = some (.cells #[sm, sc] 122 (0, 0))) (c0 : X.w0.ownsRow base 99 4 sm n zs) (hr : RowAt X.w0 (FF X X.w0 (lkB [(1000, Blk.res (setAt b (.mk m ch)))]) ρ) 224 5 40 nl sc) (hne : sc.ownBlock ≠ some b) (hv1 : v1 = .pointer (some ⟨b, 1, none⟩))
    (g2 : VR X.w0 (FF X X.w0 (lkB [(1000, Blk.res (setAt b (.mk m ch)))]) ρ) (lkB [(1000, Blk.res (setAt b (.mk m ch)))]) ρ (.dat d) v2)
    (c : ACall P f [.ptr 1000 1, .dat d] [(1000, .box 122 [.dat (.val sm), .own 1001]), (1001, .row 224 5 40 nl)] out tbl') :
    Calls P f #[v1, v2] X.w0 fun e w' => ∃ v i ρ', e = .returned v ∧ Bel (X.part (lvS b sc) hL1 fun k => (rvS b sc k).v) w' ∧ Lies2 (X.part (lvS b sc) hL1 fun k => (rvS b sc k).v) (lkB (tbl' i)) w' ρ' ∧ VR w' (FF (X.part (lvS b sc) hL1 fun k => (rvS b sc k).v) w' (lkB (tbl' i)) ρ') (lkB (tbl' i)) ρ' (out i) v := by
  obtain ⟨ys, c1, c2, c3, c4⟩ := hr
  have hfp1 : ∀ k x, liveB (lkB [(1000, .box 122 [.dat (.val sm), .own 1001]), (1001, .row 224 5 40 nl)] k) = true → (rvS b sc k).fp x → lvS b sc x := by
    intro k x h1 h2
    unfold rvS at h2
    split at h2
    · left
      have h2 : some b = some x := h2
      exact (Option.some.inj h2).symm
    · right
      exact (blk_own c1).1 h2
  have hFs := ff_start (rv := fun k => (rvS b sc k).v) hL hFL hL1 hfp1
  refine c (X.part (lvS b sc) hL1 fun k => (rvS b sc k).v) (rvS b sc) [v1, v2] hP (fun x => ⟨fun hx => ?_, fun ⟨k, h1, h2⟩ => hfp1 k x h1 h2⟩) (fun x h1 h2 => hFL x h1 (hL1 x h2)) ⟨fun k x hx => ?_, fun k k' x h1 h2 e1 e2 => ?_, fun k _ _ => rfl⟩ ?_
  · rcases hx with rfl | hx
    · exact ⟨1000, rfl, rfl⟩
    · exact ⟨1001, rfl, (blk_own c1).2 hx⟩
  · have hm := lkB_mem hx
    simp only [List.mem_cons, Prod.mk.injEq, List.not_mem_nil, or_false] at hm
    rcases hm with ⟨rfl, rfl⟩ | ⟨rfl, rfl⟩
    · refine ⟨b, [sm, sc], rfl, .inr (.inl rfl), t1, ?_, ?_⟩
      · unfold VRs
        refine ⟨sm, [sc], rfl, ?_, ?_⟩
        · unfold VR Rep
          refine ⟨rfl, ?_⟩
          rcases c0.2 with ⟨e1, _⟩ | ⟨g, cap, cur, e1, _⟩ <;> rw [e1] <;> trivial
        · unfold VRs
          refine ⟨sc, [], rfl, ?_, by unfold VRs; rfl⟩
          unfold VR
          exact ⟨own_one c1, .inl ⟨_, rfl, .inl rfl, rfl⟩⟩
      · intro u hu
        rcases List.mem_cons.1 hu with rfl | hu
        · exact own_one c0
        · rw [List.mem_singleton] at hu; rw [hu]; exact own_one c1
    · exact ⟨ys, rfl, fun x hx => .inr (.inr hx), own_base c1 fun x hx => X.hLB x (hL1 x (.inr hx)), c2.keep (fun _ _ => rfl) hFs, c3, c4⟩
  · obtain ⟨x1, m1, _⟩ := live_mem h1
    obtain ⟨x2, m2, _⟩ := live_mem h2
    simp only [List.mem_cons, Prod.mk.injEq, List.not_mem_nil, or_false] at m1 m2
    rcases m1 with ⟨rfl, _⟩ | ⟨rfl, _⟩ <;> rcases m2 with ⟨rfl, _⟩ | ⟨rfl, _⟩
    · rfl
    · have e1 : some b = some x := e1
      exact absurd ((blk_own c1).1 e2) (by rw [← e1]; exact hne)
    · have e2 : some b = some x := e2
      exact absurd ((blk_own c1).1 e1) (by rw [← e2]; exact hne)
    · rfl
  · unfold VRs
    refine ⟨v1, [v2], rfl, ?_, ?_⟩
    · unfold VR
      exact ⟨_, _, b, rfl, rfl, hv1⟩
    · unfold VRs
      refine ⟨v2, [], rfl, ?_, by unfold VRs; rfl⟩
      unfold VR at g2 ⊢
      exact g2.keep (fun _ _ => rfl) hFs
end Go.Proofs.YtgmahieoiifpfaaGreat
end
section
set_option linter.unusedVariables false
namespace Go.Proofs.YtgmahieoiifpfaaGreat
open Go.RowKit
set_option linter.unusedSimpArgs false
theorem zipN_ins (p : PEV) (t' : ST PEV) (b' : Nat) : ∀ (loc : Nat) (ch : List (PEV × ST PEV)) (bs : List Nat), bs.length = ch.length → (((ch.take loc ++ (p, t') :: ch.drop loc).map (·.1)).zip (bs.take loc ++ b' :: bs.drop loc)).map nodeD = ((((ch.map (·.1)).zip bs).map fun y => (y.1, PD.val (adr y.2))).take loc ++ (p, PD.val (adr b')) :: (((ch.map (·.1)).zip bs).map fun y => (y.1, PD.val (adr y.2))).drop loc).map dN
  | 0, ch, bs, h => by
    simp only [List.take_zero, List.drop_zero, List.nil_append, List.map_cons, List.zip_cons_cons]
    rw [zip_dN]; rfl
  | loc + 1, [], bs, h => by
    have : bs = [] := List.eq_nil_of_length_eq_zero (by simpa using h)
    subst this
    rfl
  | loc + 1, y :: ch, [], h => by simp at h
  | loc + 1, y :: ch, b :: bs, h => by
    simp only [List.take_succ_cons, List.drop_succ_cons, List.cons_append, List.map_cons, List.zip_cons_cons]
    rw [zipN_ins p t' b' loc ch bs (by simpa using h)]
    rfl
set_option maxHeartbeats 2000000 in
theorem descF_s (b : Nat) (m : List PEV) (ch : List (PEV × ST PEV)) (p : PEV) (hl : ∀ x ∈ ch.map (·.1), OPE x) (hp : OPE p) (hs : Srt cmpPE (ch.map (·.1))) {k : PEV} {t : ST PEV} (hf : fndL_ cmpPE (ch.map (·.1)) p = true) (hx : ch[locL_ cmpPE (ch.map (·.1)) p]? = some (k, t)) :
    ACall Tryz.prog 96 [.elt 1000 2 0 1, .dat (dvPE p)] [(1000, .res (setAt b (.mk m ch)))] (ι := Nat) (fun _ => .elt 0 2 0 0)
      (fun b' => [(1000, .res (wandAt b' (fun t' => .mk m (ch.set (locL_ cmpPE (ch.map (·.1)) p) (k, t'))) b)), (0, .res (setAt b' t))]) := by
  intro X ρ vs hP hL hFL hlie hvs
  obtain ⟨hLO, hLs, hrv, helt, ht⟩ := open_set hL hlie
  obtain ⟨v1, v2, rfl, g1, g2⟩ := VRs_two hvs
  have hv1 := helt g1
  have hcx := hx
  unfold TreeAt at ht
  obtain ⟨sm, sc, bs, Ok, t1, ⟨xs, a1, a2, a3, a4⟩, hrow, t4, t5, t6, t7, t8, t9, t10, t11⟩ := ht
  obtain ⟨b', O1, O2, j1, j2, j3, j4, j5⟩ := t4.take hx
  have hlen := t4.len
  have hL1 : ∀ x, lvS b sc x → X.L x := fun x hx => (hLO x).2 ((t5 x).2 (hx.imp id fun h => .inr (.inl h)))
  have hmx : (((ch.map (·.1)).zip bs).map fun y => (y.1, PD.val (adr y.2)))[locL_ cmpPE (ch.map (·.1)) p]? = some (k, PD.val (adr b')) := by
    rw [List.getElem?_map, (List.getElem?_zip_eq_some (z := (k, b'))).2 ⟨by rw [List.getElem?_map, hx]; rfl, j1⟩]; rfl
  have c := descF_c sm (((ch.map (·.1)).zip bs).map fun y => (y.1, PD.val (adr y.2))) p (by rw [zipN_fst (by simpa using hlen)]; exact hl) hp (by rw [zipN_fst (by simpa using hlen)]; exact hs) (b := b') (k := k) (by rw [zipN_fst (by simpa using hlen)]; exact hf) (by rw [zipN_fst (by simpa using hlen)]; exact hmx)
  rw [zip_dN] at c
  refine (desc_start hP hL hFL hL1 t1 a1 hrow t7 hv1 g2 c).mono ?_
  rintro e' w' ⟨v, i, ρ2, he, hbel, hl2, hvr⟩
  obtain ⟨b2, vs', e1, _, k1, k2, k3⟩ := hl2.blks 1000 _ rfl
  have e2 := hl2.lent 1000 (Nat.le_refl _) rfl
  rw [e1] at e2
  have e2 : Value.pointer (some ⟨b2, 0, none⟩) = .pointer (some ⟨b, 0, none⟩) := e2
  simp only [Value.pointer.injEq, Option.some.injEq, Addr.mk.injEq, and_true] at e2
  subst e2
  obtain ⟨v0, u0, rfl, k4, k5⟩ := VRs_two k2
  obtain ⟨ys0, q0, qm, q1, q2, q3, q4⟩ := hl2.blks 1001 _ rfl
  have e3 : (ρ2 1001).v = sc := hl2.lent 1001 (by omega) rfl
  have m5 := VR_ownR k5 (x := .row 224 5 40 (((ch.map (·.1)).zip bs).map nodeD)) rfl rfl
  have m4 : v0 = sm := by unfold VR Rep at k4; exact k4.1
  rw [e3] at m5 q0 q1
  clear k4 k5
  subst m4 m5
  have hb0 : X.L b2 := hL1 b2 (.inl rfl)
  have hsz : X.w0.heap.size ≤ w'.heap.size := hbel.size
  have hfr : ∀ x, v0.ownBlock = some x ∨ Ok x → X.L x ∧ ¬ lvS b2 u0 x := fun x hx => by
    rcases hx with h | h
    · refine ⟨(hLO x).2 ((t5 x).2 (.inr (.inl h))), fun h2 => ?_⟩
      rcases h2 with rfl | h2
      · exact t6 h
      · exact t8 x h h2
    · refine ⟨(hLO x).2 ((t5 x).2 (.inr (.inr (.inr h)))), fun h2 => ?_⟩
      rcases h2 with rfl | h2
      · exact t9 h
      · exact t11 x h2 h
  have hsame : ∀ x, X.L x ∧ ¬ lvS b2 u0 x → w'.heap[x]? = X.w0.heap[x]? := fun x hx => hbel.block x (hLs x hx.1) hx.2
  let Or : Nat → Prop := fun x => x = b2 ∨ v0.ownBlock = some x ∨ u0.ownBlock = some x ∨ O2 x
  let ρf : Nat → RV := fun k => if k = 1000 then ⟨slS b2, Or⟩ else ⟨slS b', O1⟩
  have hnL : ∀ x, FF X X.w0 (lkB [(1000, .res (setAt b2 (.mk m ch)))]) ρ x → ¬ X.L x := fun x hx h => by
    obtain ⟨k, h1, h2⟩ := (hL x).1 h
    exact hx.2.2 k h1 h2
  have hF0 : ∀ x, FF X X.w0 (lkB [(1000, .res (setAt b2 (.mk m ch)))]) ρ x → w'.heap[x]? = X.w0.heap[x]? := fun x hx => hbel.block x hx.2.1 fun h => hnL x hx (hL1 x h)
  have hall : ∀ q x, liveB (lkB [(1000, .res (wandAt b' (fun t' => .mk m (ch.set (locL_ cmpPE (ch.map (·.1)) p) (k, t'))) b2)), (0, .res (setAt b' t))] q) = true → (ρf q).fp x → x = b2 ∨ u0.ownBlock = some x ∨ (v0.ownBlock = some x ∨ Ok x) := fun k x h1 h2 => by
    simp only [ρf] at h2
    split at h2
    · rcases h2 with h | h | h | h
      · exact .inl h
      · exact .inr (.inr (.inl h))
      · exact .inr (.inl h)
      · exact .inr (.inr (.inr ((j3 x).2 (.inr h))))
    · exact .inr (.inr (.inr ((j3 x).2 (.inl h2))))
  have hFe : ∀ x, FF (X.part (lvS b2 u0) hL1 fun k => (rvS b2 u0 k).v) w' (lkB [(1000, .box 122 [.dat (.val v0), .own 1001]), (1001, .row 224 5 40 (((ch.map (·.1)).zip bs).map nodeD))]) ρ2 x → FF X w' (lkB [(1000, .res (wandAt b' (fun t' => .mk m (ch.set (locL_ cmpPE (ch.map (·.1)) p) (k, t'))) b2)), (0, .res (setAt b' t))]) ρf x := ff_end hFL hLs hL1 fun k x h1 h2 => by
    rcases hall k x h1 h2 with rfl | h | h
    · exact .inl ⟨1000, rfl, by rw [e1]; rfl⟩
    · exact .inl ⟨1001, rfl, by rw [q0]; exact (blk_own q1).2 h⟩
    · exact .inr (hfr x h)
  have hLall : ∀ x, x = b2 ∨ u0.ownBlock = some x ∨ (v0.ownBlock = some x ∨ Ok x) → X.L x := fun x h => by
    rcases h with h | h | h
    · exact hL1 x (.inl h)
    · exact hL1 x (.inr h)
    · exact (hfr x h).1
  have hFs2 : ∀ x, FF X X.w0 (lkB [(1000, .res (setAt b2 (.mk m ch)))]) ρ x → FF X w' (lkB [(1000, .res (wandAt b' (fun t' => .mk m (ch.set (locL_ cmpPE (ch.map (·.1)) p) (k, t'))) b2)), (0, .res (setAt b' t))]) ρf x := fun x hx =>
    ⟨hx.1, Nat.lt_of_lt_of_le hx.2.1 hsz, fun k h1 h2 => hnL x hx (hLall x (hall k x h1 h2))⟩
  have hdj : ∀ x, Or x → ¬ O1 x := fun x h h1 => by
    have hk : Ok x := (j3 x).2 (.inl h1)
    rcases h with rfl | h | h | h
    · exact t9 hk
    · exact t10 x h hk
    · exact t11 x h hk
    · exact j4 x h1 h
  refine ⟨v, b', ρf, he, bel_part hbel, ⟨fun k x hx => ?_, fun k k' x h1 h2 f1 f2 => ?_, fun k h1 h2 => ?_⟩, ?_⟩
  · have hm := lkB_mem hx
    simp only [List.mem_cons, Prod.mk.injEq, List.not_mem_nil, or_false] at hm
    rcases hm with ⟨rfl, rfl⟩ | ⟨rfl, rfl⟩
    · refine ⟨⟨rfl, ?_⟩, fun x hx => ⟨.inr (hLall x (hall 1000 x rfl hx)), Nat.lt_of_lt_of_le (hLs _ (hLall x (hall 1000 x rfl hx))) hsz⟩⟩
      refine wand_mk (by simpa using k1) (RowAt.keep hF0 hFs2 (fun x hx => hsame x (hfr x (.inl hx))) ⟨xs, a1, a2, a3, a4⟩) (fun t' => ?_) (fun w2 F2 t' O' f1 f2 f3 f4 f5 => j5 w2 F2 t' O' (fun x hx => (f1 x (hFs2 x hx)).trans (hF0 x hx)) (fun x hx => f2 x (hFs2 x hx)) (fun x hx => (f3 x hx).trans (hsame x (hfr x (.inr ((j3 x).2 (.inr hx)))))) f4 f5) t6 t7 t8 (fun h => t9 ((j3 _).2 (.inr h))) (fun x h h' => t10 x h ((j3 _).2 (.inr h'))) (fun x h h' => t11 x h ((j3 _).2 (.inr h')))
      rw [set_keys hcx]
      exact ⟨ys0, own_base q1 (fun _ _ => Nat.zero_le _), q2.keep (fun _ _ => rfl) hFe, q3, q4⟩
    · exact ⟨⟨rfl, TreeAt.keep hF0 hFs2 t (fun x hx => hsame x (hfr x (.inr ((j3 x).2 (.inl hx))))) j2⟩, fun x hx => ⟨.inr (hLall x (hall 0 x rfl hx)), Nat.lt_of_lt_of_le (hLs _ (hLall x (hall 0 x rfl hx))) hsz⟩⟩
  · obtain ⟨x1, m1, _⟩ := live_mem h1
    obtain ⟨x2, m2, _⟩ := live_mem h2
    simp only [List.mem_cons, Prod.mk.injEq, List.not_mem_nil, or_false] at m1 m2
    rcases m1 with ⟨rfl, _⟩ | ⟨rfl, _⟩ <;> rcases m2 with ⟨rfl, _⟩ | ⟨rfl, _⟩
    · rfl
    · exact absurd f2 (hdj x f1)
    · exact absurd f1 (hdj x f2)
    · rfl
  · obtain ⟨x1, m1, _⟩ := live_mem h2
    simp only [List.mem_cons, Prod.mk.injEq, List.not_mem_nil, or_false] at m1
    rcases m1 with ⟨rfl, _⟩ | ⟨rfl, _⟩
    · exact hrv.symm
    · omega
  · unfold VR Rep at hvr
    unfold VR
    rw [hvr.1]
    exact ⟨rfl, .inl ⟨_, rfl, .inr rfl, b', 1, 1, rfl, by simp [adr]⟩⟩
set_option maxHeartbeats 2000000 in
theorem descN_s (b : Nat) (m : List PEV) (ch : List (PEV × ST PEV)) (p : PEV) (hl : ∀ x ∈ ch.map (·.1), OPE x) (hp : OPE p) (hs : Srt cmpPE (ch.map (·.1))) (hb : (ch.length + 1) * 40 ≤ 140737488351232) (hf : fndL_ cmpPE (ch.map (·.1)) p = false) :
    ACall Tryz.prog 96 [.elt 1000 2 0 1, .dat (dvPE p)] [(1000, .res (setAt b (.mk m ch)))] (ι := Nat) (fun _ => .elt 0 2 0 0)
      (fun b' => [(1000, .res (wandAt b' (fun t' => .mk m (ch.take (locL_ cmpPE (ch.map (·.1)) p) ++ (p, t') :: ch.drop (locL_ cmpPE (ch.map (·.1)) p))) b)), (0, .res (setAt b' (.mk [] [])))]) := by
  intro X ρ vs hP hL hFL hlie hvs
  obtain ⟨hLO, hLs, hrv, helt, ht⟩ := open_set hL hlie
  obtain ⟨v1, v2, rfl, g1, g2⟩ := VRs_two hvs
  have hv1 := helt g1
  unfold TreeAt at ht
  obtain ⟨sm, sc, bs, Ok, t1, ⟨xs, a1, a2, a3, a4⟩, hrow, t4, t5, t6, t7, t8, t9, t10, t11⟩ := ht
  have hlen := t4.len
  have hL1 : ∀ x, lvS b sc x → X.L x := fun x hx => (hLO x).2 ((t5 x).2 (hx.imp id fun h => .inr (.inl h)))
  have hzl : ((((ch.map (·.1)).zip bs).map fun y => (y.1, PD.val (adr y.2))).length) = ch.length := by simp [hlen]
  have c := descN_c sm (((ch.map (·.1)).zip bs).map fun y => (y.1, PD.val (adr y.2))) p (by rw [zipN_fst (by simpa using hlen)]; exact hl) hp (by rw [zipN_fst (by simpa using hlen)]; exact hs) (by rw [hzl]; exact hb) (by rw [zipN_fst (by simpa using hlen)]; exact hf)
  rw [zip_dN, zipN_fst (by simpa using hlen)] at c
  refine (desc_start hP hL hFL hL1 t1 a1 hrow t7 hv1 g2 c).mono ?_
  rintro e' w' ⟨v, b', ρ2, he, hbel, hl2, hvr⟩
  obtain ⟨b2, vs', e1, _, k1, k2, k3⟩ := hl2.blks 1000 _ rfl
  have e2 := hl2.lent 1000 (Nat.le_refl _) rfl
  rw [e1] at e2
  have e2 : Value.pointer (some ⟨b2, 0, none⟩) = .pointer (some ⟨b, 0, none⟩) := e2
  simp only [Value.pointer.injEq, Option.some.injEq, Addr.mk.injEq, and_true] at e2
  subst e2
  obtain ⟨v0, u0, rfl, k4, k5⟩ := VRs_two k2
  obtain ⟨ys0, q0, qm, q1, q2, q3, q4⟩ := hl2.blks 0 _ rfl
  obtain ⟨⟨s0, s1⟩, s2⟩ := hl2.blks 1 _ rfl
  have m5 := VR_ownR k5 (x := .row 224 5 40 (((((ch.map (·.1)).zip bs).map fun y => (y.1, PD.val (adr y.2))).take (locL_ cmpPE (ch.map (·.1)) p) ++ (p, PD.val (adr b')) :: (((ch.map (·.1)).zip bs).map fun y => (y.1, PD.val (adr y.2))).drop (locL_ cmpPE (ch.map (·.1)) p)).map dN)) rfl rfl
  have m4 : v0 = sm := by unfold VR Rep at k4; exact k4.1
  clear k4 k5
  subst m4
  generalize hu : (ρ2 0).v = u1 at *
  subst m5
  have hb0 : X.L b2 := hL1 b2 (.inl rfl)
  have hsz : X.w0.heap.size ≤ w'.heap.size := hbel.size
  have hfr : ∀ x, v0.ownBlock = some x ∨ Ok x → X.L x ∧ ¬ lvS b2 sc x := fun x hx => by
    rcases hx with h | h
    · refine ⟨(hLO x).2 ((t5 x).2 (.inr (.inl h))), fun h2 => ?_⟩
      rcases h2 with rfl | h2
      · exact t6 h
      · exact t8 x h h2
    · refine ⟨(hLO x).2 ((t5 x).2 (.inr (.inr (.inr h)))), fun h2 => ?_⟩
      rcases h2 with rfl | h2
      · exact t9 h
      · exact t11 x h2 h
  have hsame : ∀ x, X.L x ∧ ¬ lvS b2 sc x → w'.heap[x]? = X.w0.heap[x]? := fun x hx => hbel.block x (hLs x hx.1) hx.2
  let Or : Nat → Prop := fun x => x = b2 ∨ v0.ownBlock = some x ∨ u0.ownBlock = some x ∨ Ok x
  let ρf : Nat → RV := fun k => if k = 1000 then ⟨slS b2, Or⟩ else ⟨slS b', (ρ2 1).fp⟩
  have hnL : ∀ x, FF X X.w0 (lkB [(1000, .res (setAt b2 (.mk m ch)))]) ρ x → ¬ X.L x := fun x hx h => by
    obtain ⟨k, h1, h2⟩ := (hL x).1 h
    exact hx.2.2 k h1 h2
  have hF0 : ∀ x, FF X X.w0 (lkB [(1000, .res (setAt b2 (.mk m ch)))]) ρ x → w'.heap[x]? = X.w0.heap[x]? := fun x hx => hbel.block x hx.2.1 fun h => hnL x hx (hL1 x h)
  have hall : ∀ q x, liveB (lkB [(1000, .res (wandAt b' (fun t' => .mk m (ch.take (locL_ cmpPE (ch.map (·.1)) p) ++ (p, t') :: ch.drop (locL_ cmpPE (ch.map (·.1)) p))) b2)), (0, .res (setAt b' (.mk [] [])))] q) = true → (ρf q).fp x → x = b2 ∨ u0.ownBlock = some x ∨ (ρ2 1).fp x ∨ (v0.ownBlock = some x ∨ Ok x) := fun k x h1 h2 => by
    simp only [ρf] at h2
    split at h2
    · rcases h2 with h | h | h | h
      · exact .inl h
      · exact .inr (.inr (.inr (.inl h)))
      · exact .inr (.inl h)
      · exact .inr (.inr (.inr (.inr h)))
    · exact .inr (.inr (.inl h2))
  have hm1 : ∀ x, (X.part (lvS b2 sc) hL1 fun k => (rvS b2 sc k).v).may x → X.may x ∧ ¬ (X.L x ∧ ¬ lvS b2 sc x) := fun x hx => by
    rcases hx with h | h
    · have h : X.w0.heap.size ≤ x := h
      exact ⟨.inl h, fun h2 => by have := hLs x h2.1; omega⟩
    · exact ⟨.inr (hL1 x h), fun h2 => h2.2 h⟩
  have hFe : ∀ x, FF (X.part (lvS b2 sc) hL1 fun k => (rvS b2 sc k).v) w' (lkB [(1000, .box 122 [.dat (.val v0), .own 0]), (0, .row 224 5 40 (((((ch.map (·.1)).zip bs).map fun y => (y.1, PD.val (adr y.2))).take (locL_ cmpPE (ch.map (·.1)) p) ++ (p, PD.val (adr b')) :: (((ch.map (·.1)).zip bs).map fun y => (y.1, PD.val (adr y.2))).drop (locL_ cmpPE (ch.map (·.1)) p)).map dN)), (1001, .dead), (1, .res (setAt b' (.mk [] [])))]) ρ2 x → FF X w' (lkB [(1000, .res (wandAt b' (fun t' => .mk m (ch.take (locL_ cmpPE (ch.map (·.1)) p) ++ (p, t') :: ch.drop (locL_ cmpPE (ch.map (·.1)) p))) b2)), (0, .res (setAt b' (.mk [] [])))]) ρf x := ff_end hFL hLs hL1 fun k x h1 h2 => by
    rcases hall k x h1 h2 with rfl | h | h | h
    · exact .inl ⟨1000, rfl, by rw [e1]; rfl⟩
    · exact .inl ⟨0, rfl, by rw [q0]; exact (blk_own q1).2 h⟩
    · exact .inl ⟨1, rfl, h⟩
    · exact .inr (hfr x h)
  have hcl : ∀ q x, liveB (lkB [(1000, .res (wandAt b' (fun t' => .mk m (ch.take (locL_ cmpPE (ch.map (·.1)) p) ++ (p, t') :: ch.drop (locL_ cmpPE (ch.map (·.1)) p))) b2)), (0, .res (setAt b' (.mk [] [])))] q) = true → (ρf q).fp x → X.may x ∧ x < w'.heap.size := fun q x h1 h2 => by
    rcases hall q x h1 h2 with rfl | h | h | h
    · exact ⟨.inr hb0, Nat.lt_of_lt_of_le (hLs _ hb0) hsz⟩
    · exact ⟨(hm1 x (qm x h)).1, own_lt q1 h⟩
    · exact ⟨(hm1 x (s2 x h).1).1, (s2 x h).2⟩
    · exact ⟨.inr (hfr x h).1, Nat.lt_of_lt_of_le (hLs _ (hfr x h).1) hsz⟩
  have hFs2 : ∀ x, FF X X.w0 (lkB [(1000, .res (setAt b2 (.mk m ch)))]) ρ x → FF X w' (lkB [(1000, .res (wandAt b' (fun t' => .mk m (ch.take (locL_ cmpPE (ch.map (·.1)) p) ++ (p, t') :: ch.drop (locL_ cmpPE (ch.map (·.1)) p))) b2)), (0, .res (setAt b' (.mk [] [])))]) ρf x := fun x hx =>
    ⟨hx.1, Nat.lt_of_lt_of_le hx.2.1 hsz, fun k h1 h2 => by
      rcases (hcl k x h1 h2).1 with h | h
      · have := hx.2.1; omega
      · exact hnL x hx h⟩
  have hdj : ∀ x, Or x → ¬ (ρ2 1).fp x := fun x h h1 => by
    have hk := (hm1 x (s2 x h1).1).2
    rcases h with rfl | h | h | h
    · have := hl2.apart 1000 1 x rfl rfl (by rw [e1]; rfl) h1
      cases this
    · exact hk (hfr x (.inl h))
    · have := hl2.apart 0 1 x rfl rfl (by rw [q0]; exact (blk_own q1).2 h) h1
      cases this
    · exact hk (hfr x (.inr h))
  have hd2 : u0.ownBlock ≠ some b2 := fun h => by
    have := hl2.apart 1000 0 b2 rfl rfl (by rw [e1]; rfl) (by rw [q0]; exact (blk_own q1).2 h)
    cases this
  refine ⟨v, b', ρf, he, bel_part hbel, ⟨fun k x hx => ?_, fun k k' x h1 h2 f1 f2 => ?_, fun k h1 h2 => ?_⟩, ?_⟩
  · have hm := lkB_mem hx
    simp only [List.mem_cons, Prod.mk.injEq, List.not_mem_nil, or_false] at hm
    rcases hm with ⟨rfl, rfl⟩ | ⟨rfl, rfl⟩
    · refine ⟨⟨rfl, ?_⟩, fun x hx => hcl 1000 x rfl hx⟩
      refine wand_mk (by simpa using k1) (RowAt.keep hF0 hFs2 (fun x hx => hsame x (hfr x (.inl hx))) ⟨xs, a1, a2, a3, a4⟩) (bs := bs.take (locL_ cmpPE (ch.map (·.1)) p) ++ b' :: bs.drop (locL_ cmpPE (ch.map (·.1)) p)) (fun t' => ?_) (fun w2 F2 t' O' f1 f2 f3 f4 f5 => KidsAt.put f4 _ (KidsAt.keep (fun x hx => (f1 x (hFs2 x hx)).trans (hF0 x hx)) (fun x hx => f2 x (hFs2 x hx)) ch (fun x hx => (f3 x hx).trans (hsame x (hfr x (.inr hx)))) t4) f5) t6 hd2 (fun x h h' => (hm1 x (qm x h')).2 (hfr x (.inl h))) t9 t10 (fun x h h' => (hm1 x (qm x h)).2 (hfr x (.inr h')))
      rw [zipN_ins p t' b' _ ch bs hlen]
      exact ⟨ys0, own_base q1 (fun _ _ => Nat.zero_le _), q2.keep (fun _ _ => rfl) hFe, q3, q4⟩
    · exact ⟨⟨rfl, TreeAt.keep (fun _ _ => rfl) hFe _ (fun _ _ => rfl) s1⟩, fun x hx => hcl 0 x rfl hx⟩
  · obtain ⟨x1, m1, _⟩ := live_mem h1
    obtain ⟨x2, m2, _⟩ := live_mem h2
    simp only [List.mem_cons, Prod.mk.injEq, List.not_mem_nil, or_false] at m1 m2
    rcases m1 with ⟨rfl, _⟩ | ⟨rfl, _⟩ <;> rcases m2 with ⟨rfl, _⟩ | ⟨rfl, _⟩
    · rfl
    · exact absurd f2 (hdj x f1)
    · exact absurd f1 (hdj x f2)
    · rfl
  · obtain ⟨x1, m1, _⟩ := live_mem h2
    simp only [List.mem_cons, Prod.mk.injEq, List.not_mem_nil, or_false] at m1
    rcases m1 with ⟨rfl, _⟩ | ⟨rfl, _⟩
    · exact hrv.symm
    · omega
  · unfold VR Rep at hvr
    unfold VR
    rw [hvr.1]
    exact ⟨rfl, .inl ⟨_, rfl, .inr rfl, b', 1, 1, rfl, by simp [adr]⟩⟩
end Go.Proofs.YtgmahieoiifpfaaGreat
end
section
set_option linter.unusedVariables false
namespace Go.Proofs.YtgmahieoiifpfaaGreat
open Go.RowKit
set_option linter.unusedSimpArgs false
theorem desc_c (b : Nat) (m : List PEV) (ch : List (PEV × ST PEV)) (p : PEV) (hl : ∀ x ∈ ch.map (·.1), OPE x) (hp : OPE p) (hs : Srt cmpPE (ch.map (·.1))) (hb : (ch.length + 1) * 40 ≤ 140737488351232) :
    ACall Tryz.prog 96 [.elt 1000 2 0 1, .dat (dvPE p)] [(1000, .res (setAt b (.mk m ch)))] (ι := Nat) (fun _ => .elt 0 2 0 0)
      (fun b' => [(1000, .res (wandAt b' (fun t' => .mk m (insM cmpPE ch p t')) b)), (0, .res (setAt b' ((getR cmpPE ch p).getD (.mk [] []))))]) := by
  cases hf : fndL_ cmpPE (ch.map (·.1)) p with
  | true =>
    obtain ⟨x, g1, _, g3⟩ := insM_fnd ch p (.mk [] []) hf
    have e : (fun t' => ST.mk m (insM cmpPE ch p t')) = fun t' => ST.mk m (ch.set (locL_ cmpPE (ch.map (·.1)) p) (x.1, t')) := by
      funext t'
      obtain ⟨y, h1, h2, _⟩ := insM_fnd ch p t' hf
      rw [g1] at h1
      cases h1
      rw [h2]
    rw [e, g3]
    exact descF_s b m ch p hl hp hs hf g1
  | false =>
    have e : (fun t' => ST.mk m (insM cmpPE ch p t')) = fun t' => ST.mk m (ch.take (locL_ cmpPE (ch.map (·.1)) p) ++ (p, t') :: ch.drop (locL_ cmpPE (ch.map (·.1)) p)) := by
      funext t'
      rw [(insM_not ch p t' hf).1]
    rw [e, (insM_not ch p (.mk [] []) hf).2]
    exact descN_s b m ch p hl hp hs hb hf
theorem wand_comp {w : World} {F O1 O2 : Nat → Prop} {b b1 b2 : Nat} {g g' : ST PEV → ST PEV} (h1 : Wand w F O1 b1 g b) (h2 : Wand w F O2 b2 g' b1) (hd : ∀ x, O1 x → ¬ O2 x) : Wand w F (fun x => O1 x ∨ O2 x) b2 (fun t => g (g' t)) b := by
  intro w' F' t' O' f1 f2 f3 f4 f5
  have t2 := h2 w' F' t' O' f1 f2 (fun x hx => f3 x (.inr hx)) f4 (fun x hx => f5 x (.inr hx))
  refine (h1 w' F' _ _ f1 f2 (fun x hx => f3 x (.inl hx)) t2 fun x hx h => ?_).congr fun x => or_assoc
  rcases h with h | h
  · exact hd x hx h
  · exact f5 x (.inl hx) h
section
variable {P : Program} {X : Base} {N : Nat} {Q : Exit → Act → World → Prop} {ks : List Itm} {s : Sta}
theorem run_wands {k1 k2 : Nat} {b b1 b2 : Nat} {g g' : ST PEV → ST PEV} (hk1 : s.tb k1 = some (.res (wandAt b1 g b))) (hk2 : s.tb k2 = some (.res (wandAt b2 g' b1))) (hne : k1 ≠ k2)
    (h : Run P X N Q ks ((s.set k2 .dead).set k1 (.res (wandAt b2 (fun t => g (g' t)) b)))) : Run P X N Q ks s := run_weaken (fun a w ⟨ρ, hc⟩ => by
  obtain ⟨⟨v1, w1⟩, m1⟩ := hc.blks k1 _ hk1
  obtain ⟨⟨v2, w2⟩, m2⟩ := hc.blks k2 _ hk2
  have hap : ∀ x, (ρ k1).fp x → ¬ (ρ k2).fp x := fun x h1 h2 => hne (hc.apart k1 k2 x (by rw [hk1]; rfl) (by rw [hk2]; rfl) h1 h2)
  have hj := hc.join (js := [k1, k2]) (d := k1) (R := wandAt b2 (fun t => g (g' t)) b) (v := (ρ k1).v) (O := fun x => (ρ k1).fp x ∨ (ρ k2).fp x) (w' := w) (fun k hk => by
      rcases List.mem_cons.1 hk with rfl | hk
      · rw [hk1]; rfl
      · rw [List.mem_singleton] at hk; subst hk; rw [hk2]; rfl) (.inr ⟨by simp, rfl, _, hk1⟩) (fun k hk t cs hcs => by
      rcases List.mem_cons.1 hk with rfl | hk
      · rw [hk1] at hcs; cases hcs
      · rw [List.mem_singleton] at hk; subst hk; rw [hk2] at hcs; cases hcs) rfl rfl rfl (Nat.le_refl _) (fun _ _ _ => rfl) (fun x hx => by
      rcases hx with hx | hx
      · exact .inr ⟨k1, by simp, hx⟩
      · exact .inr ⟨k2, by simp, hx⟩) (fun F' hF' => ⟨v1, wand_comp (fun w' F2 t' O' f1 f2 f3 f4 f5 => w1 w' F2 t' O' (fun x hx => f1 x (hF' x hx)) (fun x hx => f2 x (hF' x hx)) f3 f4 f5) (fun w' F2 t' O' f1 f2 f3 f4 f5 => w2 w' F2 t' O' (fun x hx => f1 x (hF' x hx)) (fun x hx => f2 x (hF' x hx)) f3 f4 f5) hap⟩)
  have e : joinT [k1, k2] k1 (wandAt b2 (fun t => g (g' t)) b) s.tb = ((s.set k2 .dead).set k1 (.res (wandAt b2 (fun t => g (g' t)) b))).tb := by
    funext j
    show _ = upd (upd s.tb k2 (some .dead)) k1 (some _) j
    unfold joinT upd
    by_cases h1 : j = k1
    · rw [if_pos h1, if_pos h1]
    · rw [if_neg h1, if_neg h1]
      by_cases h2 : j = k2
      · rw [if_pos h2, if_pos (by simp [h2])]
      · rw [if_neg h2, if_neg (by simp [h1, h2])]
  rw [e] at hj
  exact ⟨_, hj⟩) h
end
end Go.Proofs.YtgmahieoiifpfaaGreat
end
section
set_option linter.unusedVariables false
namespace Go.Proofs.YtgmahieoiifpfaaGreat
section
variable {α : Type} {c : α → α → Int}
mutual
/-- No list of the set is longer than n. -/
def SzT (n : Nat) : ST α → Prop
  | .mk m ch => m.length ≤ n ∧ ch.length ≤ n ∧ SzC n ch
def SzC (n : Nat) : List (α × ST α) → Prop
  | [] => True
  | y :: r => SzT n y.2 ∧ SzC n r
end
theorem SzC_iff {n : Nat} {l : List (α × ST α)} : SzC n l ↔ ∀ y ∈ l, SzT n y.2 := by
  induction l with
  | nil => unfold SzC; simp
  | cons y r ih => unfold SzC; rw [ih]; simp
theorem SzT_iff {n : Nat} {t : ST α} : SzT n t ↔ t.m.length ≤ n ∧ t.c.length ≤ n ∧ ∀ y ∈ t.c, SzT n y.2 := by
  cases t
  rw [SzT, SzC_iff]
  rfl
theorem none_SzT {n : Nat} : SzT n (ST.mk [] [] : ST α) := by rw [SzT_iff]; simp [ST.m, ST.c]
theorem get_SzT {n : Nat} {l : List (α × ST α)} (h : ∀ y ∈ l, SzT n y.2) {x : α} {t : ST α} (hx : getR c l x = some t) : SzT n t := by
  obtain ⟨k, h1, _⟩ := get_mem hx
  exact h _ h1
theorem getD_SzT {n : Nat} {l : List (α × ST α)} (h : ∀ y ∈ l, SzT n y.2) {x : α} : SzT n ((getR c l x).getD (.mk [] [])) := by
  cases hx : getR c l x with
  | none => exact none_SzT
  | some t => exact get_SzT h hx
theorem insL_le : ∀ (l : List α) (p : α), (insL_ c l p).length ≤ l.length + 1
  | [], p => by simp [insL_]
  | x :: r, p => by
    unfold insL_
    have := insL_le r p
    split
    · simp; omega
    · split <;> simp
mutual
theorem SzT_mono {n k : Nat} (h : n ≤ k) : ∀ (t : ST α), SzT n t → SzT k t
  | .mk m ch, ht => by
    unfold SzT at ht ⊢
    exact ⟨by omega, by omega, SzC_mono h ch ht.2.2⟩
theorem SzC_mono {n k : Nat} (h : n ≤ k) : ∀ (l : List (α × ST α)), SzC n l → SzC k l
  | [], _ => by unfold SzC; trivial
  | y :: r, ht => by
    unfold SzC at ht ⊢
    exact ⟨SzT_mono h y.2 ht.1, SzC_mono h r ht.2⟩
end
theorem ins_SzT {n : Nat} : ∀ (p : List α) (t : ST α), SzT n t → SzT (n + 1) (insT c p t)
  | [], t, h => by unfold insT; exact SzT_mono (by omega) t h
  | [p], t, h => by
    obtain ⟨h1, h2, h3⟩ := SzT_iff.1 h
    unfold insT
    rw [SzT_iff]
    have := insL_le (c := c) t.m p
    exact ⟨by show (insL_ c t.m p).length ≤ n + 1; omega, by show t.c.length ≤ n + 1; omega, fun y hy => SzT_mono (by omega) _ (h3 y hy)⟩
  | p :: q :: r, t, h => by
    obtain ⟨h1, h2, h3⟩ := SzT_iff.1 h
    unfold insT
    rw [SzT_iff]
    have hl := insM_len (c := c) t.c p (insT c (q :: r) ((getR c t.c p).getD (.mk [] [])))
    refine ⟨by show t.m.length ≤ n + 1; omega, by show (insM c t.c p _).length ≤ n + 1; omega, fun y hy => ?_⟩
    rcases insM_mem hy with h | ⟨h, _⟩
    · exact SzT_mono (by omega) _ (h3 y h)
    · rw [h]
      exact ins_SzT (q :: r) _ (getD_SzT h3)
end
end Go.Proofs.YtgmahieoiifpfaaGreat
end
section
set_option linter.unusedVariables false
namespace Go.Proofs.YtgmahieoiifpfaaGreat
open Go.RowKit
set_option linter.unusedSimpArgs false
/-- Where an insertion stands. -/
structure InsI (n : Nat) (T : ST PEV) where
  b : Nat
  t : ST PEV
  g : ST PEV → ST PEV
  q : List PEV
  eq : g (insT cmpPE q t) = T
  ne : q ≠ []
  O : ∀ x ∈ q, OPE x
  W : WFT cmpPE OPE t
  Z : SzT n t
set_option maxHeartbeats 8000000 in
theorem insW_c (b b1 : Nat) (g : ST PEV → ST PEV) (t : ST PEV) (q : List PEV) (hq : q ≠ []) (hO : ∀ x ∈ q, OPE x) (hw : WFT cmpPE OPE t) (n : Nat) (hz : SzT n t) (hn : n ≤ 2147483647) :
    ACall Tryz.prog 97 [.elt 1001 2 0 0, .dat (.sl 4 32 (q.map dvPE))] [(1000, .res (wandAt b1 g b)), (1001, .res (setAt b1 t))] (ι := { x : Nat × ST PEV × (ST PEV → ST PEV) // x.2.2 x.2.1 = g (insT cmpPE q t) }) (fun _ => .dat (.tup []))
      (fun x => [(1000, .res (wandAt x.1.1 x.1.2.2 b)), (0, .res (setAt x.1.1 x.1.2.1)), (1001, .dead)]) := by
  have g0 : decide ((((q.map dvPE).length : Nat) : Int) = 0) = false := decide_eq_false (by
    have : q.length ≠ 0 := fun h => hq (List.eq_nil_of_length_eq_zero h)
    simp only [List.length_map]; omega)
  refine acall_of_run Tryz.func97 rfl Tryz.ntmps97 rfl (fun X => ?_)
  refine wk ?_
  refine run_loopS (ι := InsI n (g (insT cmpPE q t)))
    (fun j => [(0, .elt 100 2 0 0), (1, .dat (.sl 4 32 (j.q.map dvPE)))])
    (fun j => [(1000, .res (wandAt j.b j.g b)), (100, .res (setAt j.b j.t)), (1001, .dead)]) (fun j => j.q.length) ⟨b1, t, g, q, rfl, hq, hO, hw, hz⟩ (fun k => if k = 100 then 1001 else k) ?_ ?_
  · exact sb
  clear hO hw hz hq g0
  generalize g (insT cmpPE q t) = T
  clear g t q b1
  rintro ⟨b1, ⟨m, ch⟩, g, q, he, hq, hO, hw, hz⟩
  obtain ⟨w1, w2, w3, w4⟩ := WFT_iff.1 hw
  obtain ⟨z1, z2, z3⟩ := SzT_iff.1 hz
  simp only [ST.m, ST.c] at w1 w2 w3 w4 z1 z2 z3
  have w4' : ∀ x ∈ ch.map (·.1), OPE x := fun x hx => by
    obtain ⟨y, hy, rfl⟩ := List.mem_map.1 hx
    exact (WFC_iff.1 w4 y hy).1
  cases q with
  | nil => exact absurd rfl hq
  | cons x q =>
    have hx := hO x (by simp)
    obtain ⟨u0, u1, u2, u3, e⟩ := dvPE_agg x
    cases q with
    | nil =>
      have c := memIns_c b1 m ch x w1 hx w2 (by omega)
      have i0 : ([x].map dvPE)[(0 : Int).toNat]? = some (.agg [u0, u1, u2, u3]) := by rw [← e]; rfl
      have g1 : decide (((([x].map dvPE).length : Nat) : Int) = 1) = true := rfl
      rw [e] at c
      have nd : NoDraw := ⟨trivial⟩
      refine wk ?_
      clear nd
      refine run_drawS 6 (by kernel_rfl) ?_
      simp only [List.take_succ_cons, List.take_zero]
      refine wk ?_
      refine k_acall1 (thk [(1000, 100)] 200) rfl (by kernel_rfl) c rfl ⟨rfl, trivial⟩ rfl (freshB_ok rfl) rfl ?_
      refine wk ?_
      refine run_retA ⟨(b1, .mk (insL_ cmpPE m x) ch, g), he⟩ (thk [(0, 100), (1000, 1000), (1001, 1001)] 0) (tm := []) ?_ (resA_none rfl)
      exact sb
    | cons y r =>
      have c := desc_c b1 m ch x w4' hx w3 (by omega)
      have i0 : ((x :: y :: r).map dvPE)[(0 : Int).toNat]? = some (.agg [u0, u1, u2, u3]) := by rw [← e]; rfl
      have g1 : decide (((((x :: y :: r).map dvPE).length : Nat) : Int) = 1) = false := decide_eq_false (by simp only [List.length_map, List.length_cons]; omega)
      rw [e] at c
      have ln : 1 ≤ ((x :: y :: r).map dvPE).length := by simp
      have l1 : PD.sl 4 32 (((((x :: y :: r).map dvPE)).take ((x :: y :: r).map dvPE).length).drop 1) = PD.sl 4 32 ((y :: r).map dvPE) := by
        rw [List.take_length]; rfl
      have nd : NoDraw := ⟨trivial⟩
      refine wk ?_
      clear nd
      refine run_drawS 6 (by kernel_rfl) ?_
      simp only [List.take_succ_cons, List.take_zero]
      refine wk ?_
      refine k_acall (thk [(1000, 100)] 200) rfl (by kernel_rfl) c rfl ⟨rfl, trivial⟩ rfl (fun _ => freshB_ok rfl) (fun _ => rfl) (fun b' => ?_)
      refine wk ?_
      refine run_wands (k1 := 1000) (k2 := 100) rfl rfl (by decide) ?_
      refine run_again ?_
      refine ⟨⟨b', (getR cmpPE ch x).getD (.mk [] []), fun t' => g (.mk m (insM cmpPE ch x t')), y :: r, he, by simp, fun z hz => hO z (List.mem_cons_of_mem _ hz), ?_, getD_SzT z3⟩, thk [(100, 200), (1000, 1000), (1001, 1001)] 0, by simp, ?_⟩
      · cases hg : getR cmpPE ch x with
        | none => exact none_WFT
        | some t' => exact get_WFT w4 hg
      · exact sb
end Go.Proofs.YtgmahieoiifpfaaGreat
end
section
set_option linter.unusedVariables false
namespace Go.Proofs.YtgmahieoiifpfaaGreat
open Go.RowKit
set_option linter.unusedSimpArgs false
theorem insNil_c (b : Nat) (t : ST PEV) : ACall1 Tryz.prog 97 [.elt 1000 2 0 0, .dat (.sl 4 32 [])] [(1000, .res (setAt b t))] (.dat (.tup [])) [(1000, .res (setAt b t))] := by
  refine acall_of_run Tryz.func97 rfl Tryz.ntmps97 rfl (fun X => ?_)
  have g0 : decide (((([] : List PD).length : Nat) : Int) = 0) = true := rfl
  refine wk ?_
  refine run_retA () id (tm := []) ?_ (resA_none rfl)
  exact sb
set_option maxHeartbeats 2000000 in
theorem ins_c (b : Nat) (t : ST PEV) (q : List PEV) (hO : ∀ x ∈ q, OPE x) (hw : WFT cmpPE OPE t) {n : Nat} (hz : SzT n t) (hn : n ≤ 2147483647) :
    ACall1 Tryz.prog 97 [.elt 1000 2 0 0, .dat (.sl 4 32 (q.map dvPE))] [(1000, .res (setAt b t))] (.dat (.tup [])) [(1000, .res (setAt b (insT cmpPE q t)))] := by
  by_cases hq : q = []
  · subst hq
    have e : insT cmpPE [] t = t := by unfold insT; rfl
    rw [e]
    exact insNil_c b t
  have c := insW_c b b id t q hq hO hw n hz hn
  intro X ρ vs hP hL hFL hlie hvs
  obtain ⟨m, ch⟩ := t
  obtain ⟨hLO, hLs, hrv, helt, ht⟩ := open_set hL hlie
  obtain ⟨v1, v2, rfl, g1, g2⟩ := VRs_two hvs
  have hv1 := helt g1
  let ρ1 : Nat → RV := fun k => if k = 1000 then ⟨slS b, fun _ => False⟩ else ⟨slS b, (ρ 1000).fp⟩
  have hfp1 : ∀ k x, liveB (lkB [(1000, .res (wandAt b id b)), (1001, .res (setAt b (.mk m ch)))] k) = true → (ρ1 k).fp x → X.L x := fun k x h1 h2 => by
    simp only [ρ1] at h2
    split at h2
    · exact h2.elim
    · exact (hLO x).2 h2
  have hFs := ff_start (rv := fun _ => slS b) hL hFL (fun _ h => h) hfp1
  refine (c (X.part X.L (fun _ h => h) fun _ => slS b) ρ1 [v1, v2] hP (fun x => ⟨fun hx => ⟨1001, rfl, (hLO x).1 hx⟩, fun ⟨k, h1, h2⟩ => hfp1 k x h1 h2⟩) hFL ⟨fun k x hx => ?_, fun k k' x h1 h2 e1 e2 => ?_, fun k _ _ => ?_⟩ ?_).mono ?_
  · have hm := lkB_mem hx
    simp only [List.mem_cons, Prod.mk.injEq, List.not_mem_nil, or_false] at hm
    rcases hm with ⟨rfl, rfl⟩ | ⟨rfl, rfl⟩
    · exact ⟨⟨rfl, fun w' F' t' O' f1 f2 f3 f4 f5 => f4.congr fun x => by show (False ∨ O' x) ↔ O' x; simp⟩, fun x h => False.elim h⟩
    · exact ⟨⟨rfl, TreeAt.keep (fun _ _ => rfl) hFs _ (fun _ _ => rfl) ht⟩, fun x h => ⟨.inr ((hLO x).2 h), hLs x ((hLO x).2 h)⟩⟩
  · obtain ⟨x1, m1, _⟩ := live_mem h1
    obtain ⟨x2, m2, _⟩ := live_mem h2
    simp only [List.mem_cons, Prod.mk.injEq, List.not_mem_nil, or_false] at m1 m2
    rcases m1 with ⟨rfl, _⟩ | ⟨rfl, _⟩ <;> rcases m2 with ⟨rfl, _⟩ | ⟨rfl, _⟩
    · rfl
    · exact False.elim e1
    · exact False.elim e2
    · rfl
  · show (if k = 1000 then RV.mk (slS b) fun _ => False else ⟨slS b, (ρ 1000).fp⟩).v = slS b
    split <;> rfl
  · unfold VRs
    refine ⟨v1, [v2], rfl, ?_, ?_⟩
    · unfold VR
      exact ⟨by rw [hv1]; rfl, .inl ⟨_, rfl, .inr rfl, b, 1, 1, rfl, hv1⟩⟩
    · unfold VRs
      refine ⟨v2, [], rfl, ?_, by unfold VRs; rfl⟩
      unfold VR at g2 ⊢
      exact g2.keep (fun _ _ => rfl) hFs
  · rintro e' w' ⟨v, ⟨⟨b2, t2, g2'⟩, hi⟩, ρ2, he, hbel, hl2, hvr⟩
    obtain ⟨⟨s1, s2⟩, s3⟩ := hl2.blks 1000 _ rfl
    obtain ⟨⟨r1, r2⟩, r3⟩ := hl2.blks 0 _ rfl
    simp only at hi
    let ρf : Nat → RV := fun _ => ⟨slS b, fun x => (ρ2 1000).fp x ∨ (ρ2 0).fp x⟩
    have hFe : ∀ x, FF (X.part X.L (fun _ h => h) fun _ => slS b) w' (lkB [(1000, .res (wandAt b2 g2' b)), (0, .res (setAt b2 t2)), (1001, .dead)]) ρ2 x → FF X w' (lkB [(1000, .res (setAt b (insT cmpPE q (.mk m ch))))]) ρf x := ff_end hFL hLs (fun _ h => h) fun k x h1 h2 => by
      rcases h2 with h | h
      · exact .inl ⟨1000, rfl, h⟩
      · exact .inl ⟨0, rfl, h⟩
    have hap : ∀ x, (ρ2 1000).fp x → ¬ (ρ2 0).fp x := fun x h1 h2 => by
      have := hl2.apart 1000 0 x rfl rfl h1 h2
      cases this
    refine ⟨v, (), ρf, he, bel_part hbel, ⟨fun k x hx => ?_, fun k k' x h1 h2 _ _ => ?_, fun k h1 h2 => ?_⟩, ?_⟩
    · have hm := lkB_mem hx
      simp only [List.mem_cons, Prod.mk.injEq, List.not_mem_nil, or_false] at hm
      obtain ⟨rfl, rfl⟩ := hm
      refine ⟨⟨rfl, ?_⟩, fun x hx => ?_⟩
      · have := s2 w' _ t2 _ (fun _ _ => rfl) hFe (fun _ _ => rfl) (TreeAt.keep (fun _ _ => rfl) hFe t2 (fun _ _ => rfl) r2) hap
        have this : TreeAt w' _ (g2' t2) b _ := this
        rw [hi] at this
        exact this
      · rcases hx with h | h
        · exact s3 x h
        · exact r3 x h
    · obtain ⟨x1, m1, _⟩ := live_mem h1
      obtain ⟨x2, m2, _⟩ := live_mem h2
      simp only [List.mem_cons, Prod.mk.injEq, List.not_mem_nil, or_false] at m1 m2
      rw [m1.1, m2.1]
    · obtain ⟨x1, m1, _⟩ := live_mem h2
      simp only [List.mem_cons, Prod.mk.injEq, List.not_mem_nil, or_false] at m1
      rw [m1.1]; exact hrv.symm
    · unfold VR Rep at hvr ⊢
      obtain ⟨vs, e, h⟩ := hvr
      unfold Reps at h
      exact ⟨vs, e, by unfold Reps; exact h⟩
end Go.Proofs.YtgmahieoiifpfaaGreat
end
section
set_option linter.unusedVariables false
namespace Go.Proofs.YtgmahieoiifpfaaGreat
open Go.RowKit
set_option linter.unusedSimpArgs false
/-- A new set, as data. -/
theorem pcall_of_set {P : Program} {f : FuncId} {az : List PD} {t : ST PEV} (h : ACall P f (az.map .dat) [] (ι := Nat) (fun _ => .elt 0 2 0 0) (fun b => [(0, .res (setAt b t))])) : PCall P f az (.ptr (dvSet t)) := by
  intro w F vs hF hv
  let X : Base := { w0 := w, F0 := F, L := fun _ => False, B := w.heap.size, N := 0, P := P, rv := fun _ => undef, hF0 := hF, hB := Nat.le_refl _, hN := by omega, hLB := fun _ h => h.elim }
  have hlk : ∀ k, lkB [] k = none := fun k => rfl
  have hFF : ∀ b, F b → FF X w (lkB []) (fun _ => RV.of undef) b := fun b hb => ⟨.inl hb, hF b hb, fun k hk => by rw [hlk] at hk; cases hk⟩
  refine (h X (fun _ => RV.of undef) vs rfl (fun b => ⟨fun h => h.elim, fun ⟨k, h, _⟩ => by rw [hlk] at h; cases h⟩) (fun _ _ h => h) ⟨fun k x h => (by rw [hlk] at h; cases h), fun k k' b h => (by rw [hlk] at h; cases h), fun k _ h => (by rw [hlk] at h; cases h)⟩ (VRs.of_dat (hv.keep (fun _ _ => rfl) hFF))).mono ?_
  rintro e w' ⟨v, b, ρ, he, hbel, hl, hvr⟩
  obtain ⟨⟨e1, ht⟩, hm⟩ := hl.blks 0 _ rfl
  refine ⟨v, he, ⟨hbel.os, hbel.tape, hbel.output, hbel.size, fun b hb => hbel.block b hb fun h => h⟩, ?_⟩
  have hO : ∀ x, (ρ 0).fp x → F x ∨ (w.heap.size ≤ x ∧ x < w'.heap.size) := fun x hx => by
    rcases hm x hx with ⟨h1 | h1, h2⟩
    · exact .inr ⟨h1, h2⟩
    · exact h1.elim
  obtain ⟨sm, sc, t1, t2, t3, t4, t5⟩ := ht.rep (F' := fun b => F b ∨ (w.heap.size ≤ b ∧ b < w'.heap.size)) (fun x hx => by
    rcases hx.1 with h1 | h1 | h1
    · exact .inl h1
    · exact .inr ⟨h1, hx.2.1⟩
    · exact h1.elim) t hO
  unfold VR at hvr
  obtain ⟨_, ⟨x, _, _, g, len, c, e2, e3⟩ | h0⟩ := hvr
  · rw [e1] at e2
    unfold slS at e2
    injection e2 with e2 _ _
    injection e2 with e2
    injection e2 with e2
    subst e2
    unfold Rep
    refine ⟨b, 0, .agg #[sm, sc], by rw [e3], hO b t5, t2, ?_⟩
    have hl := lies_block (vs := [sm, sc]) t1 0
    simpa [Value.cells] using hl
  · cases h0
theorem k_boxS {P : Program} {X : Base} {N : Nat} {Q : Exit → Act → World → Prop} {opa : Array Oper} {rem : List Nat} {ks : List Itm} {s : Sta} {d : Nat} {x : Operand} (hN : Nat.blt d N = true) (hd0 : s.tb d = none) (hx : s.ev x = .dat (.agg [.val (.slice none 0 0), .val (.slice none 0 0)]))
    (h : ∀ b, Run P X N Q (.ops opa rem :: ks) (s.new d (.res (setAt b (.mk [] []))) (.elt d 2 0 0))) : RunK P X N Q opa rem ks (some d) (.box 122 x) s := ⟨fun ty pos aft => ⟨fun hX a w hc => by
  have hi := i_boxS (P := P) (X := X) (N := N) (ops := []) (s := s) (fun _ => .elt d 2 0 0) (fun b w F tb ρ h1 h2 => by unfold VR; exact ⟨rfl, .inl ⟨_, h1, .inr rfl, b, 1, 1, h2, by simp [adr]⟩⟩) hN hd0 hx
  exact hi.act hX ty pos aft s (fun i => ⟨fun _ _ => rfl, fun _ _ => rfl⟩) a w hc _ _ fun a' w' b hc' => (h b).out hX a' w' hc'⟩⟩
theorem newSet_c : ACall Tryz.prog 140 [.dat (.val (.slice none 0 0))] [] (ι := Nat) (fun _ => .elt 0 2 0 0) (fun b => [(0, .res (setAt b (.mk [] [])))]) := by
  have g0 : decide ((0 : Int) < 0) = false := rfl
  refine acall_of_run Tryz.func140 rfl Tryz.ntmps140 rfl (fun X => ?_)
  have nd : NoDraw := ⟨trivial⟩
  refine wk ?_
  clear nd
  refine k_boxS rfl rfl rfl fun b => ?_
  refine wk ?_
  refine run_loopS (ι := Unit) (fun _ => [(3, .elt 100 2 0 0), (9, .dat (.val (.int .i64 0))), (10, .dat (.val (.int .i64 0)))]) (fun _ => [(100, .res (setAt b (.mk [] [])))]) (fun _ => 0) () (fun k => if k = 100 then 7 else k) ?_ fun _ => ?_
  · exact sb
  refine wk ?_
  refine run_retA b (thk [(0, 100)] 0) (tm := [(2, .elt 0 2 0 0)]) ?_ (resA_tmp rfl rfl)
  exact sb
theorem ofP_app {c : PEV → PEV → Int} (ps : List (List PEV)) (p : List PEV) : ofP c (ps ++ [p]) = insT c p (ofP c ps) := by
  unfold ofP
  rw [List.foldl_append]
  rfl
theorem ofP_SzT {c : PEV → PEV → Int} (ps : List (List PEV)) : SzT ps.length (ofP c ps) := by
  have : ∀ n, n ≤ ps.length → SzT n (ofP c (ps.take n)) := by
    intro n
    induction n with
    | zero => intro _; rw [List.take_zero]; exact none_SzT
    | succ n ih =>
      intro h
      rw [List.take_add_one, List.getElem?_eq_getElem h]
      simp only [Option.toList_some]
      rw [ofP_app]
      exact ins_SzT _ _ (ih (by omega))
  have h := this ps.length (Nat.le_refl _)
  rwa [List.take_length] at h
set_option maxHeartbeats 8000000 in
theorem toSet_c (ps : List (List EV)) (hO : ∀ p ∈ ps, ∀ x ∈ p, OPE (toPE x)) (hn : ps.length ≤ 2147483647) : ACall Tryz.prog 77 ([.sl 1 24 (ps.map pdP)].map .dat) [] (ι := Nat) (fun _ => .elt 0 2 0 0) (fun b => [(0, .res (setAt b (ofP cmpPE (ps.map (·.map toPE)))))]) := by
  have c0 := newSet_c
  have n1 : (ps.map pdP).length = ps.length := by simp
  have hO' : ∀ k, ∀ p ∈ (ps.map (·.map toPE)).take k, ∀ x ∈ p, OPE x := fun k p hp x hx => by
    obtain ⟨q, hq, rfl⟩ := List.mem_map.1 (List.mem_of_mem_take hp)
    obtain ⟨y, hy, rfl⟩ := List.mem_map.1 hx
    exact hO q hq y hy
  refine acall_of_run Tryz.func77 rfl Tryz.ntmps77 rfl (fun X => ?_)
  refine wk ?_
  refine k_acall (thk [] 200) rfl (by kernel_rfl) c0 rfl trivial rfl (fun _ => freshB_ok rfl) (fun _ => rfl) (fun b => ?_)
  refine wk ?_
  refine run_loopS (ι := { k : Nat // k ≤ ps.length }) (fun k => [(3, .elt 100 2 0 0), (7, .dat (.sl 1 24 (ps.map pdP))), (8, .dat (.val (.int .i64 (((ps.map pdP).length : Nat) : Int)))), (9, .dat (.val (.int .i64 (k.1 : Nat))))]) (fun k => [(100, .res (setAt b (ofP cmpPE ((ps.map (·.map toPE)).take k.1))))]) (fun k => ps.length - k.1) ⟨0, Nat.zero_le _⟩ (fun k => if k = 100 then 200 else k) ?_ ?_
  · exact sb
  rintro ⟨k, hk⟩
  by_cases hlt : k < ps.length
  · have g1 : decide ((k : Int) < (((ps.map pdP).length : Nat) : Int)) = true := decide_eq_true (by omega)
    obtain ⟨p, hp⟩ : ∃ p, ps[k]? = some p := ⟨_, List.getElem?_eq_getElem hlt⟩
    have i1 : (ps.map pdP)[((k : Nat) : Int).toNat]? = some (pdP p) := by simp [hp]
    have c1 := toPath_p p
    have hpm := List.mem_of_getElem? hp
    have c2 := ins_c b (ofP cmpPE ((ps.map (·.map toPE)).take k)) (p.map toPE) (fun x hx => by
      obtain ⟨y, hy, rfl⟩ := List.mem_map.1 hx
      exact hO p hpm y hy) (ofP_WFT ordPE (hO' k)) (ofP_SzT _) (by rw [List.length_take, List.length_map]; omega)
    have e : insT cmpPE (p.map toPE) (ofP cmpPE ((ps.map (·.map toPE)).take k)) = ofP cmpPE ((ps.map (·.map toPE)).take (k + 1)) := by
      rw [List.take_add_one, List.getElem?_map, hp]
      exact (ofP_app _ _).symm
    rw [e] at c2
    unfold dvP at c1
    refine wk ?_
    refine k_acall1 (thk [(1000, 100)] 300) rfl (by kernel_rfl) c2 rfl ⟨rfl, trivial⟩ rfl (freshB_ok rfl) rfl ?_
    refine wk ?_
    refine run_again ?_
    refine ⟨⟨k + 1, by omega⟩, id, by simp only; omega, ?_⟩
    exact sb
  · have g1 : decide ((k : Int) < (((ps.map pdP).length : Nat) : Int)) = false := decide_eq_false (by omega)
    have e : (ps.map (·.map toPE)).take k = ps.map (·.map toPE) := List.take_of_length_le (by rw [List.length_map]; omega)
    simp only [e]
    refine wk ?_
    refine run_retA b (thk [(0, 100)] 0) (tm := [(2, .elt 0 2 0 0)]) ?_ (resA_tmp rfl rfl)
    exact sb
theorem toSet_p (ps : List (List EV)) (hO : ∀ p ∈ ps, ∀ x ∈ p, OPE (toPE x)) (hn : ps.length ≤ 2147483647) : PCall Tryz.prog 77 [.sl 1 24 (ps.map pdP)] (.ptr (dvSet (ofP cmpPE (ps.map (·.map toPE))))) := pcall_of_set (toSet_c ps hO hn)
end Go.Proofs.YtgmahieoiifpfaaGreat
end
