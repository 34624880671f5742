/- Part 10 of what the proof rests on. -/
import Derived.Lib.Overlaps
import Derived.Lib.AppendZerosOnto
import Derived.Shelf.Spec.SlicesInsert
import Derived.Test.YtgmahieoiifpfaaGreatSbR4
import Derived.Test.YtgmahieoiifpfaaGreatSbR5
import Derived.Test.YtgmahieoiifpfaaGreatSbR6
import Derived.Test.YtgmahieoiifpfaaGreatSbR8
import Derived.Test.YtgmahieoiifpfaaGreatSbR9
set_option linter.unusedSimpArgs false
set_option linter.unusedVariables false
set_option maxHeartbeats 16000000
set_option maxRecDepth 100000
namespace Go.Proofs.YtgmahieoiifpfaaGreat
open Go.RowKit
mutual
/-- A set as data. -/
def Zaz : ST PEV → PD
 | .mk m ch => .agg [.sl 4 32 (m.map Zav), .sl 5 40 (Zau ch)]
def Zau : List (PEV × ST PEV) → List PD
 | [] => []
 | y :: r => .agg (peC y.1 ++ [.ptr (Zaz y.2)]) :: Zau r
end
def adr (b : Nat) : Value := .pointer (some ⟨b, 0, none⟩)
def Zr8 (y : PEV × Nat) : PD := .agg (peC y.1 ++ [.val (adr y.2)])
def RowAt (w : World) (F : Nat → Prop) (e n y : Nat) (l : List PD) (v : Value) : Prop :=
 ∃ xs, w.ownsRow 0 e n v l.length xs ∧ Groups w F n l xs ∧ l.length * y ≤ 140737488351232 ∧ l.length ≤ 140737488351232
theorem RowAt.keep {w w' : World} {F F' : Nat → Prop} {e n y : Nat} {l : List PD} {v : Value} (h : ∀ b, F b → w'.heap[b]? = w.heap[b]?) (hs : ∀ b, F b → F' b) (hO : ∀ b, v.ownBlock = some b → w'.heap[b]? = w.heap[b]?) (hv : RowAt w F e n y l v) : RowAt w' F' e n y l v := by
 obtain ⟨xs, h1, h2, h3⟩ := hv
 refine ⟨xs, ⟨h1.1, h1.2.imp id ?_⟩, h2.keep h hs, h3⟩
 rintro ⟨g, cap, cur, e1, e2, e3, r⟩
 exact ⟨g, cap, cur, e1, e2, (hO g (by rw [e1]; rfl)).trans e3, r⟩
mutual
/-- The set t lies at b, in blocks of its own. -/
def TreeAt (w : World) (F : Nat → Prop) : ST PEV → Nat → (Nat → Prop) → Prop
 | .mk m ch, b, O => ∃ sm sc bs, ∃ Ok : Nat → Prop, w.heap[b]? = some (.cells #[sm, sc] 122 (0, 0)) ∧ RowAt w F 99 4 32 (m.map Zav) sm ∧ RowAt w F 224 5 40 (((ch.map (·.1)).zip bs).map Zr8) sc ∧ KidsAt w F ch bs Ok ∧
   (∀ x, O x ↔ x = b ∨ sm.ownBlock = some x ∨ sc.ownBlock = some x ∨ Ok x) ∧ sm.ownBlock ≠ some b ∧ sc.ownBlock ≠ some b ∧ (∀ x, sm.ownBlock = some x → sc.ownBlock ≠ some x) ∧ ¬ Ok b ∧ (∀ x, sm.ownBlock = some x → ¬ Ok x) ∧ ∀ x, sc.ownBlock = some x → ¬ Ok x
def KidsAt (w : World) (F : Nat → Prop) : List (PEV × ST PEV) → List Nat → (Nat → Prop) → Prop
 | [], bs, O => bs = [] ∧ ∀ x, ¬ O x
 | y :: r, bs, O => ∃ b bs', ∃ O1 O2 : Nat → Prop, bs = b :: bs' ∧ TreeAt w F y.2 b O1 ∧ KidsAt w F r bs' O2 ∧ (∀ x, O x ↔ O1 x ∨ O2 x) ∧ ∀ x, O1 x → ¬ O2 x
end
section
variable {w w' : World} {F F' : Nat → Prop}
mutual
theorem TreeAt.keep (h : ∀ b, F b → w'.heap[b]? = w.heap[b]?) (hs : ∀ b, F b → F' b) : ∀ (t : ST PEV) {b : Nat} {O : Nat → Prop}, (∀ x, O x → w'.heap[x]? = w.heap[x]?) → TreeAt w F t b O → TreeAt w' F' t b O
 | .mk m ch, b, O, hO, hv => by
  unfold TreeAt at hv ⊢
  obtain ⟨sm, sc, bs, Ok, h1, h2, h3, h4, h5, h6⟩ := hv
  exact ⟨sm, sc, bs, Ok, (hO b ((h5 b).2 (.inl rfl))).trans h1, h2.keep h hs fun x hx => hO x ((h5 x).2 (.inr (.inl hx))), h3.keep h hs fun x hx => hO x ((h5 x).2 (.inr (.inr (.inl hx)))), KidsAt.keep h hs ch (fun x hx => hO x ((h5 x).2 (.inr (.inr (.inr hx))))) h4, h5, h6⟩
theorem KidsAt.keep (h : ∀ b, F b → w'.heap[b]? = w.heap[b]?) (hs : ∀ b, F b → F' b) : ∀ (l : List (PEV × ST PEV)) {bs : List Nat} {O : Nat → Prop}, (∀ x, O x → w'.heap[x]? = w.heap[x]?) → KidsAt w F l bs O → KidsAt w' F' l bs O
 | [], bs, O, hO, hv => by unfold KidsAt at hv ⊢; exact hv
 | y :: r, bs, O, hO, hv => by
  unfold KidsAt at hv ⊢
  obtain ⟨b, bs', O1, O2, h1, h2, h3, h4, h5⟩ := hv
  exact ⟨b, bs', O1, O2, h1, TreeAt.keep h hs y.2 (fun x hx => hO x ((h4 x).2 (.inl hx))) h2, KidsAt.keep h hs r (fun x hx => hO x ((h4 x).2 (.inr hx))) h3, h4, h5⟩
end
theorem KidsAt.len : ∀ {l : List (PEV × ST PEV)} {bs : List Nat} {O : Nat → Prop}, KidsAt w F l bs O → bs.length = l.length
 | [], bs, O, h => by unfold KidsAt at h; rw [h.1]; rfl
 | y :: r, bs, O, h => by
  unfold KidsAt at h
  obtain ⟨b, bs', O1, O2, rfl, _, h3, _⟩ := h
  simp [h3.len]
end
end Go.Proofs.YtgmahieoiifpfaaGreat
section
namespace Go.Proofs.YtgmahieoiifpfaaGreat
section
variable {α : Type}
mutual
/-- The sets have the same structure. -/
def eqT (e : α → α → Bool) : ST α → ST α → Bool
 | .mk m ch, t => Zll e m t.m && (decide (ch.length = t.c.length) && eqC e ch t.c)
def eqC (e : α → α → Bool) : List (α × ST α) → List (α × ST α) → Bool
 | [], _ => true
 | _ :: _, [] => false
 | y :: r, z :: q => e y.1 z.1 && (eqT e y.2 z.2 && eqC e r q)
end
variable {c : α → α → Int} {P : α → Prop} {e : α → α → Bool}
theorem Yj1 (s t : ST α) : eqT e s t = (Zll e s.m t.m && (decide (s.c.length = t.c.length) && eqC e s.c t.c)) := by cases s; unfold eqT; rfl
theorem Ycv : ∀ (l l' : List (α × ST α)), l.length = l'.length → (∀ (i : Nat) (y z : α × ST α), l[i]? = some y → l'[i]? = some z → e y.1 z.1 = true ∧ eqT e y.2 z.2 = true) → eqC e l l' = true
 | [], _, _, _ => by unfold eqC; rfl
 | y :: r, [], h, _ => by simp at h
 | y :: r, z :: q, hl, h => by
  have h0 := h 0 y z rfl rfl
  unfold eqC
  rw [h0.1, h0.2, Ycv r q (by simpa using hl) fun i y z hy hz => h (i + 1) y z (by simpa using hy) (by simpa using hz)]
  rfl
theorem Ycu : ∀ (l l' : List (α × ST α)) (i : Nat) (y z : α × ST α), l[i]? = some y → l'[i]? = some z → (e y.1 z.1 = false ∨ eqT e y.2 z.2 = false) → eqC e l l' = false
 | [], _, i, y, z, h, _, _ => by simp at h
 | y :: r, [], i, _, z, _, h, _ => by simp at h
 | u :: r, v :: q, 0, y, z, hy, hz, h => by
  simp at hy hz
  subst hy
  subst hz
  unfold eqC
  rcases h with h | h <;> rw [h] <;> simp
 | u :: r, v :: q, i + 1, y, z, hy, hz, h => by
  unfold eqC
  rw [Ycu r q i y z (by simpa using hy) (by simpa using hz) h]
  simp
theorem Zyu (l : List (α × ST α)) (q : α) : Za2 c (l.map Prod.fst) q = (Zb4 c Prod.fst l q).isSome := by
 induction l with
 | nil => rfl
 | cons x l ih =>
  rw [List.map_cons, Zb8, Zdf, ih]
  by_cases h : c x.1 q = 0
  ·rw [decide_eq_true h, if_pos h]; rfl
  ·rw [decide_eq_false h, if_neg h]; rfl
theorem Zv8 (O : OrdL c P) {q : α} (hq : P q) : ∀ {l : List (α × ST α)} {y : α × ST α}, (∀ x ∈ l, P x.1) → Srt c (l.map Prod.fst) → y ∈ l → c y.1 q = 0 → Zb4 c Prod.fst l q = some y
 | x :: r, y, hP, hs, hy, h => by
  rw [List.map_cons, Zek] at hs
  rw [Zdf]
  rcases List.mem_cons.1 hy with rfl | hy
  ·rw [if_pos h]
  ·have h1 := hs.1 y.1 (List.mem_map.2 ⟨y, hy, rfl⟩)
   have h2 := (O.tri x.1 y.1 q (hP x (by simp)) (hP y (by simp [hy])) hq).zq h
   rw [if_neg (by omega)]
   exact Zv8 O hq (fun z hz => hP z (by simp [hz])) hs.2 hy h
theorem Yp3 (O : OrdL c P) {t : ST α} (h : WFT c P t) (hn : Zer t ≠ []) : ∃ q, PP P q ∧ Zcn c t q = true := by
 cases hw : Zer t with
 | nil => exact absurd hw hn
 | cons q r =>
  have hm : q ∈ Zer t := by rw [hw]; simp
  have hq := Zdz t h q hm
  exact ⟨q, hq, by rw [← Yhr O h hq]; exact Zn3 (Yey O) hm hq⟩
theorem Yj2 (O : OrdL c P) (he : ∀ x y, P x → P y → (e x y = true ↔ c x y = 0)) : ∀ (n : Nat) (s t : ST α), dpT s < n → WFT c P s → WFT c P t → NET s → NET t → (∀ q, PP P q → Zcn c s q = Zcn c t q) → eqT e s t = true
 | 0, _, _, h, _, _, _, _, _ => by omega
 | n + 1, s, t, hd, hs, ht, ns, nt, hq => by
  obtain ⟨a1, a2, a3, a4⟩ := WFT_iff.1 hs
  obtain ⟨b1, b2, b3, b4⟩ := WFT_iff.1 ht
  have a4 := WFC_iff.1 a4
  have b4 := WFC_iff.1 b4
  have hm : Zcj c s.m t.m = 0 := Zo9 O _ _ a1 b1 a2 b2 fun q hp => by
   have := hq [q] ⟨by simp, fun x hx => by rw [List.mem_singleton] at hx; rw [hx]; exact hp⟩
   rwa [Zd7, Zd7] at this
  have key : ∀ {u v : ST α}, WFT c P u → WFT c P v → NET u → (∀ q, PP P q → Zcn c u q = Zcn c v q) → ∀ q, P q → (Zb4 c Prod.fst u.c q).isSome = true → (Zb4 c Prod.fst v.c q).isSome = true := fun {u v} hu hv nu h q hp hf => by
   cases hy : Zb4 c Prod.fst u.c q with
   | none => rw [hy] at hf; cases hf
   | some y =>
    obtain ⟨p, hpp, h1⟩ := Yp3 O (Zdq hu (Zhb hy).1).2 (NET_iff.1 nu y (Zhb hy).1).1
    have h2 := h (q :: p) ⟨by simp, fun x hx => by
     rcases List.mem_cons.1 hx with rfl | hx
     ·exact hp
     ·exact hpp.2 x hx⟩
    rw [Zex O hu hp hpp.1, Zex O hv hp hpp.1, hy] at h2
    simp only at h2
    rw [h1] at h2
    cases hz : Zb4 c Prod.fst v.c q with
    | none => rw [hz] at h2; cases h2
    | some z => rfl
  have hk : Zcj c (s.c.map Prod.fst) (t.c.map Prod.fst) = 0 := Zo9 O _ _ (fun x hx => by obtain ⟨y, hy, rfl⟩ := List.mem_map.1 hx; exact (a4 y hy).1) (fun x hx => by obtain ⟨y, hy, rfl⟩ := List.mem_map.1 hx; exact (b4 y hy).1) a3 b3 fun q hp => by
   rw [Zyu, Zyu]
   have k1 := key hs ht ns hq q hp
   have k2 := key ht hs nt (fun q hq' => (hq q hq').symm) q hp
   cases h1 : (Zb4 c Prod.fst s.c q).isSome <;> cases h2 : (Zb4 c Prod.fst t.c q).isSome <;> simp_all
  have hl : s.c.length = t.c.length := by have := Zkg hk; simpa using this
  rw [Yj1, (Zx8 fun x hx y hy => he x y (a1 x hx) (b1 y hy)).2 hm, decide_eq_true hl, Bool.true_and, Bool.true_and]
  refine Ycv _ _ hl fun i y z hy hz => ?_
  have ym := List.mem_of_getElem? hy
  have zm := List.mem_of_getElem? hz
  have hyz : c y.1 z.1 = 0 := (cmpLx_zero.1 hk).2 i y.1 z.1 (by simp [hy]) (by simp [hz])
  refine ⟨(he _ _ (a4 y ym).1 (b4 z zm).1).2 hyz, Yj2 O he n y.2 z.2 (by have := Zdi ym; omega) (a4 y ym).2 (b4 z zm).2 (NET_iff.1 ns y ym).2 (NET_iff.1 nt z zm).2 fun q hq' => ?_⟩
  have hp := (b4 z zm).1
  have h2 := hq (z.1 :: q) ⟨by simp, fun x hx => by
   rcases List.mem_cons.1 hx with rfl | hx
   ·exact hp
   ·exact hq'.2 x hx⟩
  rw [Zex O hs hp hq'.1, Zex O ht hp hq'.1, Zv8 O hp (fun x hx => (a4 x hx).1) a3 ym hyz, Zv8 O hp (fun x hx => (b4 x hx).1) b3 zm (O.self hp)] at h2
  exact h2
mutual
theorem Zmv {Q : α → Prop} (h : ∀ x, P x → Q x) : ∀ (t : ST α), WFT c P t → WFT c Q t
 | .mk m ch, ht => by
  unfold WFT at ht ⊢
  exact ⟨fun x hx => h x (ht.1 x hx), ht.2.1, ht.2.2.1, Zxf h ch ht.2.2.2⟩
theorem Zxf {Q : α → Prop} (h : ∀ x, P x → Q x) : ∀ (l : List (α × ST α)), WFC c P l → WFC c Q l
 | [], _ => by unfold WFC; trivial
 | y :: r, ht => by
  unfold WFC at ht ⊢
  exact ⟨h y.1 ht.1, Zmv h y.2 ht.2.1, Zxf h r ht.2.2⟩
end
theorem Zzu : ∀ (l : List (α × ST α)), NEC l → l.length ≤ (Zby l).length
 | [], _ => by simp
 | y :: r, h => by
  unfold NEC at h
  unfold Zby
  have := Zzu r h.2.2
  have : 0 < (Zer y.2).length := List.length_pos_iff.2 h.1
  simp only [List.length_append, List.length_map, List.length_cons]
  omega
mutual
theorem Yjv {n : Nat} : ∀ (t : ST α), NET t → (Zer t).length ≤ n → SzT n t
 | .mk m ch, h, hk => by
  unfold NET at h
  unfold Zer at hk
  rw [List.length_append, List.length_map] at hk
  have := Zzu ch h
  unfold SzT
  exact ⟨by omega, by omega, Yju ch h (by omega)⟩
theorem Yju {n : Nat} : ∀ (l : List (α × ST α)), NEC l → (Zby l).length ≤ n → SzC n l
 | [], _, _ => by unfold SzC; trivial
 | y :: r, h, hk => by
  unfold NEC at h
  unfold Zby at hk
  rw [List.length_append, List.length_map] at hk
  unfold SzC
  exact ⟨Yjv y.2 h.2.1 (by omega), Yju r h.2.2 (by omega)⟩
end
theorem Yja : ∀ (l : List α), (Zvc c l).length ≤ l.length := fun l => by
 have : ∀ (l acc : List α), (l.foldl (Zde c) acc).length ≤ acc.length + l.length := by
  intro l
  induction l with
  | nil => intro acc; simp
  | cons x l ih =>
   intro acc
   have h1 := ih (Zde c acc x)
   have h2 := Zwf (c := c) acc x
   simp only [List.foldl_cons, List.length_cons]
   omega
 have := this l []
 simpa [Zvc] using this
theorem Yjm (O : OrdL c P) {u s t : ST α} (hu : WFT c P u) (hs : WFT c P s) (ht : WFT c P t) (h : ∀ q, PP P q → Zcn c u q = (Zcn c s q || Zcn c t q)) : (Zer u).length ≤ (Zer s).length + (Zer t).length := by
 have hP : ∀ x ∈ Zer s ++ Zer t, PP P x := fun x hx => by
  rcases List.mem_append.1 hx with hx | hx
  ·exact Zdz s hs x hx
  ·exact Zdz t ht x hx
 have e := Zzv O hu (l := Zvc (cw c) (Zer s ++ Zer t)) (Yqj (Yey O) hP) (Yfy (Yey O) hP) fun q hq => by
  rw [Ydc (Yey O) hP hq, Zwc, Yhr O hs hq, Yhr O ht hq, h q hq]
 rw [Zkg e]
 have := Yja (c := cw c) (Zer s ++ Zer t)
 rwa [List.length_append] at this
def Zjg {β : Type} (f : List β → Bool) (q : List β) : Bool := (List.range q.length).any fun n => f (q.take (n + 1))
theorem Ye7 (n : Nat) (f : Nat → Bool) : (List.range (n + 1)).any f = (f 0 || (List.range n).any fun i => f (i + 1)) := by
 rw [List.range_succ_eq_map, List.any_cons, List.any_map]
 rfl
theorem Znh {β : Type} {l : List β} {f g : β → Bool} (h : ∀ x ∈ l, f x = g x) : l.any f = l.any g := by
 induction l with
 | nil => rfl
 | cons x l ih => rw [List.any_cons, List.any_cons, h x (by simp), ih fun y hy => h y (by simp [hy])]
theorem Zsy {β : Type} {q : List β} {n : Nat} (h : n < q.length) : q.take (n + 1) ≠ [] := by
 cases q with
 | nil => simp at h
 | cons a q => simp
theorem Zi0 : ∀ (q : List α) (t : ST α), Zpx c t q = Zjg (Zcn c t) q
 | [], t => by unfold Zpx; rfl
 | p :: q, t => by
  unfold Zpx Zjg
  rw [List.length_cons, Ye7]
  congr 1
  ·cases hg : Zd6 c t.c p with
   | none =>
    simp only
    symm
    rw [List.any_eq_false]
    intro n hn
    have hn := List.mem_range.1 hn
    rw [List.take_succ_cons, Zf3 _ _ (Zsy hn), hg]
    simp
   | some t' =>
    simp only
    rw [Zi0 q t']
    unfold Zjg
    refine Znh fun n hn => ?_
    have hn := List.mem_range.1 hn
    rw [List.take_succ_cons, Zf3 _ _ (Zsy hn), hg]
theorem Yj7 {d : Nat} : ∀ (p : List α) (t : ST α), p.length ≤ d + 1 → dpT t ≤ d → dpT (Zgv c p t) ≤ d
 | [], t, _, h => by unfold Zgv; exact h
 | [p], t, _, h => by
  unfold Zgv
  rw [Ztm] at h ⊢
  exact h
 | p :: q :: r, t, hp, h => by
  rw [Ztm] at h ⊢
  unfold Zgv
  refine Yct fun y hy => ?_
  rcases Zi3 hy with hy | ⟨e, _⟩
  ·have := Zri hy; omega
  ·rw [e]
   simp only [List.length_cons] at hp
   cases d with
   | zero => omega
   | succ d =>
    have hg : dpT ((Zd6 c t.c p).getD (.mk [] [])) ≤ d := by
     cases hg : Zd6 c t.c p with
     | none =>
      show dpT (ST.mk [] []) ≤ d
      rw [Ztm]
      show dpC [] ≤ d
      unfold dpC
      omega
     | some t' =>
      obtain ⟨k, h1, _⟩ := Zlp hg
      have := Zri h1
      show dpT t' ≤ d
      simp only at this
      omega
    have := Yj7 (d := d) (q :: r) _ (by simp only [List.length_cons]; omega) hg
    omega
theorem Yp6 {ps : List (List α)} {d : Nat} (h : ∀ p ∈ ps, p.length ≤ d + 1) : dpT (ofP c ps) ≤ d := by
 unfold ofP
 have : ∀ (ps : List (List α)) (t : ST α), (∀ p ∈ ps, p.length ≤ d + 1) → dpT t ≤ d → dpT (ps.foldl (fun t p => Zgv c p t) t) ≤ d := by
  intro ps
  induction ps with
  | nil => intro t _ h; exact h
  | cons p ps ih => intro t hp h; exact ih _ (fun q hq => hp q (by simp [hq])) (Yj7 p t (hp p (by simp)) h)
 refine this ps _ h ?_
 rw [Ztm]
 show dpC [] ≤ d
 unfold dpC
 omega
end
end Go.Proofs.YtgmahieoiifpfaaGreat
end
namespace Go.Proofs.YtgmahieoiifpfaaGreat
open Go.RowKit
theorem Ypa : ∀ {l : List (PEV × ST PEV)} {k : Nat} {y : PEV × ST PEV}, l[k]? = some y → emC (l.drop k) = (emT y.2 && emC (l.drop (k + 1))) := fun h => by
 rw [Zbi h]
 conv => lhs; unfold emC
theorem Yln : emC ([] : List (PEV × ST PEV)) = true := by unfold emC; rfl
theorem Zyy : ∀ {l : List (PEV × ST PEV)} {k : Nat} {y : PEV × ST PEV}, l[k]? = some y → (Zau l)[((k : Nat) : Int).toNat]? = some (.agg (peC y.1 ++ [.ptr (Zaz y.2)]))
 | [], k, y, h => by simp at h
 | z :: r, 0, y, h => by
  simp at h; subst h
  unfold Zau
  rfl
 | z :: r, k + 1, y, h => by
  have := Zyy (l := r) (k := k) (by simpa using h)
  unfold Zau
  simpa using this
theorem Zuq : ∀ l : List (PEV × ST PEV), (Zau l).length = l.length
 | [] => by unfold Zau; rfl
 | y :: r => by unfold Zau; simp [Zuq r]
theorem Ybe (a : List (PEV × ST PEV)) (ih : ∀ x ∈ a, PCall Tryz.prog 120 [.ptr (Zaz x.2)] (.val (.bool (emT x.2)))) : PCall Tryz.prog 178 [.ptr (.agg [.sl 5 40 (Zau a)])] (.val (.bool (emC a))) := by
 refine Zbf fun hfit => ?_
 have b1 := ((Fits.aggAt (hfit (.ptr (.agg [.sl 5 40 (Zau a)])) (by simp)).ptr 0 (d := .sl 5 40 (Zau a)) rfl).sl).2.1
 clear hfit
 have na := Zuq a
 have ga : ∀ {i : Nat} {x : PEV × ST PEV}, a[i]? = some x → (Zau a)[((i : Nat) : Int).toNat]? = some (.agg (peC x.1 ++ [.ptr (Zaz x.2)])) := Zyy
 generalize Zau a = da at *
 generalize hr : emC a = r
 refine Zaa Tryz.func178 rfl Tryz.ntmps178 rfl (fun X => ?_)
 refine wk ?_
 refine Zaq (ι := { k : Nat // k ≤ a.length ∧ emC (a.drop k) = r })
  (fun k => [(8, .dat (.sl 5 40 da)), (9, .dat (.val (.int .i64 ((da.length : Nat) : Int)))), (10, .dat (.val (.int .i64 (k.1 : Nat))))]) (fun _ => []) (fun k => a.length - k.1) ⟨0, Nat.zero_le _, hr⟩ id ?_ ?_
 ·exact sb
 rintro ⟨k, h1, h2⟩
 by_cases hk : k < a.length
 ·have g1 : decide ((k : Int) < ((da.length : Nat) : Int)) = true := decide_eq_true (by omega)
  obtain ⟨x, hx⟩ : ∃ x, a[k]? = some x := ⟨_, List.getElem?_eq_getElem hk⟩
  rw [Ypa hx] at h2
  have i1 := ga hx
  have c1 := ih x (List.mem_of_getElem? hx)
  obtain ⟨u0, u1, u2, u3, e⟩ := Zej x.1
  rw [e] at i1
  simp only [List.cons_append, List.nil_append] at i1
  generalize Zaz x.2 = sx at *
  cases he : emT x.2 with
  | true =>
   rw [he] at c1 h2
   refine wk ?_
   refine Zah ?_
   refine ⟨⟨k + 1, by omega, h2⟩, id, by simp only; omega, ?_⟩
   exact sb
  | false =>
   rw [he] at c1 h2
   have h2 : false = r := h2
   subst h2
   exact wke
 ·have g1 : decide ((k : Int) < ((da.length : Nat) : Int)) = false := decide_eq_false (by omega)
  rw [List.drop_eq_nil_of_le (by omega), Yln] at h2
  subst h2
  exact wke
theorem Yhc (m : List PEV) (ch : List (PEV × ST PEV)) (ih : ∀ x ∈ ch, PCall Tryz.prog 120 [.ptr (Zaz x.2)] (.val (.bool (emT x.2)))) : PCall Tryz.prog 120 [.ptr (Zaz (.mk m ch))] (.val (.bool (emT (.mk m ch)))) := by
 have c1 := Yfx m
 have c2 := Ybe ch ih
 unfold Zaz emT
 generalize m.map Zav = dm at *
 generalize Zau ch = dc at *
 generalize emC ch = e at *
 cases m with
 | nil =>
  have g1 : decide ((0 : Int) < (((([] : List PEV).length : Nat)) : Int)) = false := rfl
  refine Zaa Tryz.func120 rfl Tryz.ntmps120 rfl (fun X => ?_)
  exact wke
 | cons x m =>
  have g1 : decide ((0 : Int) < ((((x :: m).length : Nat)) : Int)) = true := decide_eq_true (by simp only [List.length_cons]; omega)
  refine Zaa Tryz.func120 rfl Tryz.ntmps120 rfl (fun X => ?_)
  exact wke
mutual
theorem Znr : ∀ t : ST PEV, PCall Tryz.prog 120 [.ptr (Zaz t)] (.val (.bool (emT t)))
 | .mk m ch => Yhc m ch (Zx3 ch)
theorem Zx3 : ∀ (l : List (PEV × ST PEV)), ∀ x ∈ l, PCall Tryz.prog 120 [.ptr (Zaz x.2)] (.val (.bool (emT x.2)))
 | y :: r, x, h => by
  rcases List.mem_cons.1 h with e | h
  ·rw [e]; exact Znr y.2
  ·exact Zx3 r x h
end
def nd (y : PEV × ST PEV) : PD := .agg (peC y.1 ++ [.ptr (Zaz y.2)])
theorem Zbz : ∀ (l : List (PEV × ST PEV)), Zau l = l.map nd
 | [] => by unfold Zau; rfl
 | y :: r => by
  unfold Zau
  rw [List.map_cons, Zbz r]
  rfl
theorem Zfx (y : PEV × ST PEV) : ∃ u0 u1 u2 u3, (∀ t, nd (y.1, t) = .agg [u0, u1, u2, u3, .ptr (Zaz t)]) ∧ Zav y.1 = .agg [u0, u1, u2, u3] := by
 obtain ⟨a, b, c, d, e⟩ := Zej y.1
 exact ⟨a, b, c, d, fun t => by unfold nd; rw [e]; rfl, by rw [Zp1, e]⟩
def ndN (kl kr kb : Bool) (n : Nat) : List (PEV × ST PEV) → List (PEV × ST PEV) → List (PEV × ST PEV) := mrg Zae Prod.fst (fun x => if kl then some x else none) (fun y => if kr then some y else none) (fun x y => if kr || !emT (opN Zae kl kr kb n x.2 y.2) then some (x.1, opN Zae kl kr kb n x.2 y.2) else none)
def ndR (m : List PEV) (n : Nat) : List (PEV × ST PEV) → List (PEV × ST PEV) → List (PEV × ST PEV) := mrg Zae Prod.fst (fun x => if Za2 Zae m x.1 then none else some x) (fun _ => none) (fun x y => if Za2 Zae m x.1 then none else if emT (rdN Zae n x.2 y.2) then none else some (x.1, rdN Zae n x.2 y.2))
theorem Zsw {α : Type} (l : List α) : l.filterMap (fun x => if (true : Bool) then some x else none) = l := by simp
theorem Zr9 {α : Type} (l : List α) : l.filterMap (fun x => if (false : Bool) then some x else none) = [] := by simp
theorem Ybf (n : Nat) (a b : List (PEV × ST PEV)) (hz : a.length + b.length ≤ 1099511627776) (ih : ∀ x ∈ a, ∀ y ∈ b, PCall Tryz.prog 88 [.ptr (Zaz x.2), .ptr (Zaz y.2)] (.ptr (Zaz (opN Zae false false true n x.2 y.2)))) : PCall Tryz.prog 156 [.ptr (.agg [.sl 5 40 (Zau a)]), .ptr (.agg [.sl 5 40 (Zau b)])] (.ptr (.agg [.sl 5 40 (Zau (ndN false false true n a b))])) := by
 rw [Zbz, Zbz, Zbz]
 have na : (a.map nd).length = a.length := by simp
 have nb : (b.map nd).length = b.length := by simp
 have ga : ∀ {i : Nat} {x : PEV × ST PEV}, a[i]? = some x → (a.map nd)[((i : Nat) : Int).toNat]? = some (nd x) := Ze0 nd
 have gb : ∀ {i : Nat} {x : PEV × ST PEV}, b[i]? = some x → (b.map nd)[((i : Nat) : Int).toNat]? = some (nd x) := Ze0 nd
 have ra := fun o i => Zdm nd o a i
 have rb := fun o i => Zdm nd o b i
 have nr : ∀ l, ndN false false true n l [] = [] := fun l => by unfold ndN; rw [Zfj]; exact Zr9 l
 have nl : ∀ l, ndN false false true n [] l = [] := fun l => by unfold ndN; rw [Zg3]; exact Zr9 l
 have st : ∀ (x y : PEV × ST PEV) (p q : List (PEV × ST PEV)), ndN false false true n (x :: p) (y :: q) = if Zae x.1 y.1 < 0 then ndN false false true n p (y :: q) else if Zae y.1 x.1 < 0 then ndN false false true n (x :: p) q else if emT (opN Zae false false true n x.2 y.2) = true then ndN false false true n p q else (x.1, opN Zae false false true n x.2 y.2) :: ndN false false true n p q := fun x y p q => by
  unfold ndN; rw [Zfi]
  cases emT (opN Zae false false true n x.2 y.2) <;> rfl
 generalize ndN false false true n = f at *
 generalize hr : f a b = r
 generalize a.map nd = da at *
 generalize b.map nd = db at *
 refine Zaa Tryz.func156 rfl Tryz.ntmps156 rfl (fun X => ?_)
 refine wk ?_
 refine Zca 10 0 400 224 5 40 rfl rfl rfl ?_
 refine Zaq (ι := { p : (Nat × Nat) × List (PEV × ST PEV) // p.1.1 ≤ a.length ∧ p.1.2 ≤ b.length ∧ p.2.length ≤ p.1.1 + p.1.2 ∧ p.2 ++ f (a.drop p.1.1) (b.drop p.1.2) = r })
  (fun p => [(0, .dat (.ptr (.agg [.sl 5 40 da]))), (1, .dat (.ptr (.agg [.sl 5 40 db]))), (5, .ptr 10 0), (6, .dat (.val (.int .i64 (p.1.1.1 : Nat)))), (7, .dat (.val (.int .i64 (p.1.1.2 : Nat))))])
  (fun p => [(10, .box 120 [.own 400]), (400, .row 224 5 40 (p.1.2.map nd))]) (fun p => (a.length - p.1.1.1) + (b.length - p.1.1.2)) ⟨((0, 0), []), Nat.zero_le _, Nat.zero_le _, Nat.le_refl _, hr⟩ id ?_ ?_
 ·exact sb
 rintro ⟨⟨⟨i, j⟩, o⟩, h1, h2, h3, h4⟩
 simp only at h1 h2 h3 h4
 simp only
 by_cases hi : i < a.length
 ·have g1 : decide ((i : Int) < ((da.length : Nat) : Int)) = true := decide_eq_true (by omega)
  by_cases hj : j < b.length
  ·have g2 : decide ((j : Int) < ((db.length : Nat) : Int)) = true := decide_eq_true (by omega)
   obtain ⟨x, hx⟩ : ∃ x, a[i]? = some x := ⟨_, List.getElem?_eq_getElem hi⟩
   obtain ⟨y, hy⟩ : ∃ y, b[j]? = some y := ⟨_, List.getElem?_eq_getElem hj⟩
   rw [Zbi hx, Zbi hy, st] at h4
   have i1 := ga hx
   have i2 := gb hy
   have c1 := Zdo x.1 y.1
   have c2 := Zdo y.1 x.1
   have c3 := ih x (List.mem_of_getElem? hx) y (List.mem_of_getElem? hy)
   have c4 := Znr (opN Zae false false true n x.2 y.2)
   obtain ⟨u0, u1, u2, u3, ex, ex1⟩ := Zfx x
   obtain ⟨v0, v1, v2, v3, ey, ey1⟩ := Zfx y
   rw [show nd x = nd (x.1, x.2) from rfl, ex] at i1
   rw [show nd y = nd (y.1, y.2) from rfl, ey] at i2
   rw [ex1, ey1] at c1 c2
   generalize opN Zae false false true n x.2 y.2 = R at *
   clear nl nr st ga gb ra rb
   by_cases k1 : Zae x.1 y.1 < 0
   ·rw [decide_eq_true k1] at c1
    rw [if_pos k1, ← Zbi hy] at h4
    refine wk ?_
    refine Zah ?_
    refine ⟨⟨((i + 1, j), o), by simp only; omega, by simp only; omega, by simp only; omega, h4⟩, id, by simp only; omega, ?_⟩
    exact sb
   ·rw [decide_eq_false k1] at c1
    rw [if_neg k1] at h4
    by_cases k2 : Zae y.1 x.1 < 0
    ·rw [decide_eq_true k2] at c2
     rw [if_pos k2, ← Zbi hx] at h4
     refine wk ?_
     refine Zah ?_
     refine ⟨⟨((i, j + 1), o), by simp only; omega, by simp only; omega, by simp only; omega, h4⟩, id, by simp only; omega, ?_⟩
     exact sb
    ·rw [decide_eq_false k2] at c2
     rw [if_neg k2] at h4
     cases hem : emT R with
     | true =>
      rw [hem] at c4
      rw [hem, if_pos rfl] at h4
      refine wk ?_
      refine Zah ?_
      refine ⟨⟨((i + 1, j + 1), o), by simp only; omega, by simp only; omega, by simp only; omega, h4⟩, id, by simp only; omega, ?_⟩
      exact sb
     | false =>
      rw [hem] at c4
      rw [hem, if_neg (by decide)] at h4
      have e := Zdn nd o (x.1, R)
      have hb := Zkd (n := (o.map nd).length) (k := [nd (x.1, R)].length) (y := 40) (by rw [List.length_map]; exact h3) (show i + j ≤ 1099511627776 by omega) (by decide) rfl
      have hb1 := hb.1
      have hb2 := hb.2
      clear hb
      rw [ex R] at e hb1 hb2
      generalize o.map nd = od at *
      refine wk ?_
      refine Zah ?_
      refine ⟨⟨((i + 1, j + 1), o ++ [(x.1, R)]), by simp only; omega, by simp only; omega, by simp only [List.length_append, List.length_cons, List.length_nil]; omega, by simp only; rw [List.append_assoc]; exact h4⟩, (fun k => if k = 400 then 100 else k), by simp only; omega, ?_⟩
      exact sb
  ·have g2 : decide ((j : Int) < ((db.length : Nat) : Int)) = false := decide_eq_false (by omega)
   obtain rfl : o = r := by rw [← h4, List.drop_eq_nil_of_le (i := j) (by omega), nr, List.append_nil]
   refine Zay (fun _ => false) (fun k => Nat.beq k 400) ?_
   refine Zay (fun t => Nat.beq t 120) (fun k => Nat.beq k 10) ?_
   exact wke
 ·have g1 : decide ((i : Int) < ((da.length : Nat) : Int)) = false := decide_eq_false (by omega)
  obtain rfl : o = r := by rw [← h4, List.drop_eq_nil_of_le (i := i) (by omega), nl, List.append_nil]
  refine Zay (fun _ => false) (fun k => Nat.beq k 400) ?_
  refine Zay (fun t => Nat.beq t 120) (fun k => Nat.beq k 10) ?_
  exact wke
theorem Ybh (n : Nat) (a b : List (PEV × ST PEV)) (hz : a.length + b.length ≤ 1099511627776) (ih : ∀ x ∈ a, ∀ y ∈ b, PCall Tryz.prog 101 [.ptr (Zaz x.2), .ptr (Zaz y.2)] (.ptr (Zaz (opN Zae true true true n x.2 y.2)))) : PCall Tryz.prog 165 [.ptr (.agg [.sl 5 40 (Zau a)]), .ptr (.agg [.sl 5 40 (Zau b)])] (.ptr (.agg [.sl 5 40 (Zau (ndN true true true n a b))])) := by
 rw [Zbz, Zbz, Zbz]
 have na : (a.map nd).length = a.length := by simp
 have nb : (b.map nd).length = b.length := by simp
 have ga : ∀ {i : Nat} {x : PEV × ST PEV}, a[i]? = some x → (a.map nd)[((i : Nat) : Int).toNat]? = some (nd x) := Ze0 nd
 have gb : ∀ {i : Nat} {x : PEV × ST PEV}, b[i]? = some x → (b.map nd)[((i : Nat) : Int).toNat]? = some (nd x) := Ze0 nd
 have ra := fun o i => Zdm nd o a i
 have rb := fun o i => Zdm nd o b i
 have nr : ∀ l, ndN true true true n l [] = l := fun l => by unfold ndN; rw [Zfj]; exact Zsw l
 have nl : ∀ l, ndN true true true n [] l = l := fun l => by unfold ndN; rw [Zg3]; exact Zsw l
 have st : ∀ (x y : PEV × ST PEV) (p q : List (PEV × ST PEV)), ndN true true true n (x :: p) (y :: q) = if Zae x.1 y.1 < 0 then x :: ndN true true true n p (y :: q) else if Zae y.1 x.1 < 0 then y :: ndN true true true n (x :: p) q else (x.1, opN Zae true true true n x.2 y.2) :: ndN true true true n p q := fun x y p q => by
  unfold ndN; rw [Zfi]
  rfl
 generalize ndN true true true n = f at *
 generalize hr : f a b = r
 generalize a.map nd = da at *
 generalize b.map nd = db at *
 refine Zaa Tryz.func165 rfl Tryz.ntmps165 rfl (fun X => ?_)
 refine wk ?_
 refine Zca 9 0 400 224 5 40 rfl rfl rfl ?_
 refine Zaq (ι := { p : (Nat × Nat) × List (PEV × ST PEV) // p.1.1 ≤ a.length ∧ p.1.2 ≤ b.length ∧ p.2.length ≤ p.1.1 + p.1.2 ∧ p.2 ++ f (a.drop p.1.1) (b.drop p.1.2) = r })
  (fun p => [(0, .dat (.ptr (.agg [.sl 5 40 da]))), (1, .dat (.ptr (.agg [.sl 5 40 db]))), (5, .ptr 9 0), (6, .dat (.val (.int .i64 (p.1.1.1 : Nat)))), (7, .dat (.val (.int .i64 (p.1.1.2 : Nat))))])
  (fun p => [(9, .box 120 [.own 400]), (400, .row 224 5 40 (p.1.2.map nd))]) (fun p => (a.length - p.1.1.1) + (b.length - p.1.1.2)) ⟨((0, 0), []), Nat.zero_le _, Nat.zero_le _, Nat.le_refl _, hr⟩ id ?_ ?_
 ·exact sb
 rintro ⟨⟨⟨i, j⟩, o⟩, h1, h2, h3, h4⟩
 simp only at h1 h2 h3 h4
 simp only
 by_cases hi : i < a.length
 ·have g1 : decide ((i : Int) < ((da.length : Nat) : Int)) = true := decide_eq_true (by omega)
  by_cases hj : j < b.length
  ·have g2 : decide ((j : Int) < ((db.length : Nat) : Int)) = true := decide_eq_true (by omega)
   obtain ⟨x, hx⟩ : ∃ x, a[i]? = some x := ⟨_, List.getElem?_eq_getElem hi⟩
   obtain ⟨y, hy⟩ : ∃ y, b[j]? = some y := ⟨_, List.getElem?_eq_getElem hj⟩
   rw [Zbi hx, Zbi hy, st] at h4
   have i1 := ga hx
   have i2 := gb hy
   have c1 := Zdo x.1 y.1
   have c2 := Zdo y.1 x.1
   have c3 := ih x (List.mem_of_getElem? hx) y (List.mem_of_getElem? hy)
   obtain ⟨u0, u1, u2, u3, ex, ex1⟩ := Zfx x
   obtain ⟨v0, v1, v2, v3, ey, ey1⟩ := Zfx y
   rw [show nd x = nd (x.1, x.2) from rfl, ex] at i1
   rw [show nd y = nd (y.1, y.2) from rfl, ey] at i2
   rw [ex1, ey1] at c1 c2
   generalize opN Zae true true true n x.2 y.2 = R at *
   clear nl nr st ga gb ra rb
   by_cases k1 : Zae x.1 y.1 < 0
   ·rw [decide_eq_true k1] at c1
    rw [if_pos k1, ← Zbi hy] at h4
    have e := Zdn nd o (x.1, x.2)
    have hb := Zkd (n := (o.map nd).length) (k := [nd (x.1, x.2)].length) (y := 40) (by rw [List.length_map]; exact h3) (show i + j ≤ 1099511627776 by omega) (by decide) rfl
    have hb1 := hb.1
    have hb2 := hb.2
    clear hb
    rw [ex x.2] at e hb1 hb2
    generalize o.map nd = od at *
    refine wk ?_
    refine Zah ?_
    refine ⟨⟨((i + 1, j), o ++ [x]), by simp only; omega, by simp only; omega, by simp only [List.length_append, List.length_cons, List.length_nil]; omega, by simp only; rw [List.append_assoc]; exact h4⟩, (fun k => if k = 400 then 56 else k), by simp only; omega, ?_⟩
    exact sb
   ·rw [decide_eq_false k1] at c1
    rw [if_neg k1] at h4
    by_cases k2 : Zae y.1 x.1 < 0
    ·rw [decide_eq_true k2] at c2
     rw [if_pos k2, ← Zbi hx] at h4
     have e := Zdn nd o (y.1, y.2)
     have hb := Zkd (n := (o.map nd).length) (k := [nd (y.1, y.2)].length) (y := 40) (by rw [List.length_map]; exact h3) (show i + j ≤ 1099511627776 by omega) (by decide) rfl
     have hb1 := hb.1
     have hb2 := hb.2
     clear hb
     rw [ey y.2] at e hb1 hb2
     generalize o.map nd = od at *
     refine wk ?_
     refine Zah ?_
     refine ⟨⟨((i, j + 1), o ++ [y]), by simp only; omega, by simp only; omega, by simp only [List.length_append, List.length_cons, List.length_nil]; omega, by simp only; rw [List.append_assoc]; exact h4⟩, (fun k => if k = 400 then 129 else k), by simp only; omega, ?_⟩
     exact sb
    ·rw [decide_eq_false k2] at c2
     rw [if_neg k2] at h4
     have e := Zdn nd o (x.1, R)
     have hb := Zkd (n := (o.map nd).length) (k := [nd (x.1, R)].length) (y := 40) (by rw [List.length_map]; exact h3) (show i + j ≤ 1099511627776 by omega) (by decide) rfl
     have hb1 := hb.1
     have hb2 := hb.2
     clear hb
     rw [ex R] at e hb1 hb2
     generalize o.map nd = od at *
     refine wk ?_
     refine Zah ?_
     refine ⟨⟨((i + 1, j + 1), o ++ [(x.1, R)]), by simp only; omega, by simp only; omega, by simp only [List.length_append, List.length_cons, List.length_nil]; omega, by simp only; rw [List.append_assoc]; exact h4⟩, (fun k => if k = 400 then 111 else k), by simp only; omega, ?_⟩
     exact sb
  ·have g2 : decide ((j : Int) < ((db.length : Nat) : Int)) = false := decide_eq_false (by omega)
   have e := ra o i
   rw [show o ++ a.drop i = r by rw [← h4, List.drop_eq_nil_of_le (i := j) (by omega), nr]] at e
   have hb := Zz5 (n := (o.map nd).length) (k := ((da.take da.length).drop i).length) (m := a.length + b.length) (y := 40) (by rw [List.length_map, List.length_drop, List.length_take]; omega) hz (by decide)
   have hb1 := hb.1
   have hb2 := hb.2
   clear hb
   generalize o.map nd = od at *
   rw [← e]
   refine wk ?_
   refine Zay (fun _ => false) (fun k => Nat.beq k 152) ?_
   refine Zay (fun t => Nat.beq t 120) (fun k => Nat.beq k 9) ?_
   exact wke
 ·have g1 : decide ((i : Int) < ((da.length : Nat) : Int)) = false := decide_eq_false (by omega)
  by_cases hj : j < b.length
  ·have g2 : decide ((j : Int) < ((db.length : Nat) : Int)) = true := decide_eq_true (by omega)
   have e := rb o j
   rw [show o ++ b.drop j = r by rw [← h4, List.drop_eq_nil_of_le (i := i) (by omega), nl]] at e
   have hb := Zz5 (n := (o.map nd).length) (k := ((db.take db.length).drop j).length) (m := a.length + b.length) (y := 40) (by rw [List.length_map, List.length_drop, List.length_take]; omega) hz (by decide)
   have hb1 := hb.1
   have hb2 := hb.2
   clear hb
   generalize o.map nd = od at *
   rw [← e]
   refine wk ?_
   refine Zay (fun _ => false) (fun k => Nat.beq k 173) ?_
   refine Zay (fun t => Nat.beq t 120) (fun k => Nat.beq k 9) ?_
   exact wke
  ·have g2 : decide ((j : Int) < ((db.length : Nat) : Int)) = false := decide_eq_false (by omega)
   obtain rfl : o = r := by rw [← h4, List.drop_eq_nil_of_le (i := i) (by omega), nl, List.drop_eq_nil_of_le (i := j) (by omega), List.append_nil]
   refine Zay (fun _ => false) (fun k => Nat.beq k 400) ?_
   refine Zay (fun t => Nat.beq t 120) (fun k => Nat.beq k 9) ?_
   exact wke
theorem Yfz (n : Nat) (a b : List (PEV × ST PEV)) (m : List PEV) (hz : a.length + b.length ≤ 1099511627776) (ih : ∀ x ∈ a, ∀ y ∈ b, PCall Tryz.prog 121 [.ptr (Zaz x.2), .ptr (Zaz y.2)] (.ptr (Zaz (opN Zae true false false n x.2 y.2)))) : PCall Tryz.prog 179 [.ptr (.agg [.sl 5 40 (Zau a)]), .ptr (.agg [.sl 4 32 (m.map Zav), .sl 5 40 (Zau b)])] (.ptr (.agg [.sl 5 40 (Zau (ndN true false false n a b))])) := by
 rw [Zbz, Zbz, Zbz]
 have na : (a.map nd).length = a.length := by simp
 have nb : (b.map nd).length = b.length := by simp
 have ga : ∀ {i : Nat} {x : PEV × ST PEV}, a[i]? = some x → (a.map nd)[((i : Nat) : Int).toNat]? = some (nd x) := Ze0 nd
 have gb : ∀ {i : Nat} {x : PEV × ST PEV}, b[i]? = some x → (b.map nd)[((i : Nat) : Int).toNat]? = some (nd x) := Ze0 nd
 have ra := fun o i => Zdm nd o a i
 have rb := fun o i => Zdm nd o b i
 have nr : ∀ l, ndN true false false n l [] = l := fun l => by unfold ndN; rw [Zfj]; exact Zsw l
 have nl : ∀ l, ndN true false false n [] l = [] := fun l => by unfold ndN; rw [Zg3]; exact Zr9 l
 have st : ∀ (x y : PEV × ST PEV) (p q : List (PEV × ST PEV)), ndN true false false n (x :: p) (y :: q) = if Zae x.1 y.1 < 0 then x :: ndN true false false n p (y :: q) else if Zae y.1 x.1 < 0 then ndN true false false n (x :: p) q else if emT (opN Zae true false false n x.2 y.2) = true then ndN true false false n p q else (x.1, opN Zae true false false n x.2 y.2) :: ndN true false false n p q := fun x y p q => by
  unfold ndN; rw [Zfi]
  cases emT (opN Zae true false false n x.2 y.2) <;> rfl
 generalize ndN true false false n = f at *
 generalize hr : f a b = r
 generalize a.map nd = da at *
 generalize b.map nd = db at *
 generalize m.map Zav = dm at *
 refine Zaa Tryz.func179 rfl Tryz.ntmps179 rfl (fun X => ?_)
 refine wk ?_
 refine Zca 10 0 400 224 5 40 rfl rfl rfl ?_
 refine Zaq (ι := { p : (Nat × Nat) × List (PEV × ST PEV) // p.1.1 ≤ a.length ∧ p.1.2 ≤ b.length ∧ p.2.length ≤ p.1.1 + p.1.2 ∧ p.2 ++ f (a.drop p.1.1) (b.drop p.1.2) = r })
  (fun p => [(0, .dat (.ptr (.agg [.sl 5 40 da]))), (1, .dat (.ptr (.agg [.sl 4 32 dm, .sl 5 40 db]))), (5, .ptr 10 0), (6, .dat (.val (.int .i64 (p.1.1.1 : Nat)))), (7, .dat (.val (.int .i64 (p.1.1.2 : Nat))))])
  (fun p => [(10, .box 120 [.own 400]), (400, .row 224 5 40 (p.1.2.map nd))]) (fun p => (a.length - p.1.1.1) + (b.length - p.1.1.2)) ⟨((0, 0), []), Nat.zero_le _, Nat.zero_le _, Nat.le_refl _, hr⟩ id ?_ ?_
 ·exact sb
 rintro ⟨⟨⟨i, j⟩, o⟩, h1, h2, h3, h4⟩
 simp only at h1 h2 h3 h4
 simp only
 by_cases hi : i < a.length
 ·have g1 : decide ((i : Int) < ((da.length : Nat) : Int)) = true := decide_eq_true (by omega)
  by_cases hj : j < b.length
  ·have g2 : decide ((j : Int) < ((db.length : Nat) : Int)) = true := decide_eq_true (by omega)
   obtain ⟨x, hx⟩ : ∃ x, a[i]? = some x := ⟨_, List.getElem?_eq_getElem hi⟩
   obtain ⟨y, hy⟩ : ∃ y, b[j]? = some y := ⟨_, List.getElem?_eq_getElem hj⟩
   rw [Zbi hx, Zbi hy, st] at h4
   have i1 := ga hx
   have i2 := gb hy
   have c1 := Zdo x.1 y.1
   have c2 := Zdo y.1 x.1
   have c3 := ih x (List.mem_of_getElem? hx) y (List.mem_of_getElem? hy)
   have c4 := Znr (opN Zae true false false n x.2 y.2)
   obtain ⟨u0, u1, u2, u3, ex, ex1⟩ := Zfx x
   obtain ⟨v0, v1, v2, v3, ey, ey1⟩ := Zfx y
   rw [show nd x = nd (x.1, x.2) from rfl, ex] at i1
   rw [show nd y = nd (y.1, y.2) from rfl, ey] at i2
   rw [ex1, ey1] at c1 c2
   generalize opN Zae true false false n x.2 y.2 = R at *
   clear nl nr st ga gb ra rb
   by_cases k1 : Zae x.1 y.1 < 0
   ·rw [decide_eq_true k1] at c1
    rw [if_pos k1, ← Zbi hy] at h4
    have e := Zdn nd o (x.1, x.2)
    have hb := Zkd (n := (o.map nd).length) (k := [nd (x.1, x.2)].length) (y := 40) (by rw [List.length_map]; exact h3) (show i + j ≤ 1099511627776 by omega) (by decide) rfl
    have hb1 := hb.1
    have hb2 := hb.2
    clear hb
    rw [ex x.2] at e hb1 hb2
    generalize o.map nd = od at *
    refine wk ?_
    refine Zah ?_
    refine ⟨⟨((i + 1, j), o ++ [x]), by simp only; omega, by simp only; omega, by simp only [List.length_append, List.length_cons, List.length_nil]; omega, by simp only; rw [List.append_assoc]; exact h4⟩, (fun k => if k = 400 then 69 else k), by simp only; omega, ?_⟩
    exact sb
   ·rw [decide_eq_false k1] at c1
    rw [if_neg k1] at h4
    by_cases k2 : Zae y.1 x.1 < 0
    ·rw [decide_eq_true k2] at c2
     rw [if_pos k2, ← Zbi hx] at h4
     refine wk ?_
     refine Zah ?_
     refine ⟨⟨((i, j + 1), o), by simp only; omega, by simp only; omega, by simp only; omega, h4⟩, id, by simp only; omega, ?_⟩
     exact sb
    ·rw [decide_eq_false k2] at c2
     rw [if_neg k2] at h4
     cases hem : emT R with
     | true =>
      rw [hem] at c4
      rw [hem, if_pos rfl] at h4
      refine wk ?_
      refine Zah ?_
      refine ⟨⟨((i + 1, j + 1), o), by simp only; omega, by simp only; omega, by simp only; omega, h4⟩, id, by simp only; omega, ?_⟩
      exact sb
     | false =>
      rw [hem] at c4
      rw [hem, if_neg (by decide)] at h4
      have e := Zdn nd o (x.1, R)
      have hb := Zkd (n := (o.map nd).length) (k := [nd (x.1, R)].length) (y := 40) (by rw [List.length_map]; exact h3) (show i + j ≤ 1099511627776 by omega) (by decide) rfl
      have hb1 := hb.1
      have hb2 := hb.2
      clear hb
      rw [ex R] at e hb1 hb2
      generalize o.map nd = od at *
      refine wk ?_
      refine Zah ?_
      refine ⟨⟨((i + 1, j + 1), o ++ [(x.1, R)]), by simp only; omega, by simp only; omega, by simp only [List.length_append, List.length_cons, List.length_nil]; omega, by simp only; rw [List.append_assoc]; exact h4⟩, (fun k => if k = 400 then 130 else k), by simp only; omega, ?_⟩
      exact sb
  ·have g2 : decide ((j : Int) < ((db.length : Nat) : Int)) = false := decide_eq_false (by omega)
   have e := ra o i
   rw [show o ++ a.drop i = r by rw [← h4, List.drop_eq_nil_of_le (i := j) (by omega), nr]] at e
   have hb := Zz5 (n := (o.map nd).length) (k := ((da.take da.length).drop i).length) (m := a.length + b.length) (y := 40) (by rw [List.length_map, List.length_drop, List.length_take]; omega) hz (by decide)
   have hb1 := hb.1
   have hb2 := hb.2
   clear hb
   generalize o.map nd = od at *
   rw [← e]
   refine wk ?_
   refine Zay (fun _ => false) (fun k => Nat.beq k 155) ?_
   refine Zay (fun t => Nat.beq t 120) (fun k => Nat.beq k 10) ?_
   exact wke
 ·have g1 : decide ((i : Int) < ((da.length : Nat) : Int)) = false := decide_eq_false (by omega)
  obtain rfl : o = r := by rw [← h4, List.drop_eq_nil_of_le (i := i) (by omega), nl, List.append_nil]
  refine Zay (fun _ => false) (fun k => Nat.beq k 400) ?_
  refine Zay (fun t => Nat.beq t 120) (fun k => Nat.beq k 10) ?_
  exact wke
theorem Ybg (n : Nat) (a b : List (PEV × ST PEV)) (m : List PEV) (hm : ∀ x ∈ m, OPE x) (hs : Srt Zae m) (ha : ∀ x ∈ a, OPE x.1) (hz : a.length + b.length ≤ 1099511627776) (ih : ∀ x ∈ a, ∀ y ∈ b, PCall Tryz.prog 107 [.ptr (Zaz x.2), .ptr (Zaz y.2)] (.ptr (Zaz (rdN Zae n x.2 y.2)))) : PCall Tryz.prog 171 [.ptr (.agg [.sl 5 40 (Zau a)]), .ptr (.agg [.sl 4 32 (m.map Zav), .sl 5 40 (Zau b)])] (.ptr (.agg [.sl 5 40 (Zau (ndR m n a b))])) := by
 rw [Zbz, Zbz, Zbz]
 have na : (a.map nd).length = a.length := by simp
 have nb : (b.map nd).length = b.length := by simp
 have ga : ∀ {i : Nat} {x : PEV × ST PEV}, a[i]? = some x → (a.map nd)[((i : Nat) : Int).toNat]? = some (nd x) := Ze0 nd
 have gb : ∀ {i : Nat} {x : PEV × ST PEV}, b[i]? = some x → (b.map nd)[((i : Nat) : Int).toNat]? = some (nd x) := Ze0 nd
 have ra := fun o i => Zdm nd o a i
 have rb := fun o i => Zdm nd o b i
 have cm : ∀ x ∈ a, PCall Tryz.prog 180 [.ptr (.agg [.sl 4 32 (m.map Zav)]), Zav x.1] (.val (.bool (Za2 Zae m x.1))) := fun x hx => Zzi m x.1 hm (ha x hx) hs
 have nr : ∀ l, ndR m n l [] = l.filterMap (fun x => if Za2 Zae m x.1 then none else some x) := fun l => by unfold ndR; rw [Zfj]
 have nl : ∀ l, ndR m n [] l = [] := fun l => by unfold ndR; rw [Zg3]; simp
 have st : ∀ (x y : PEV × ST PEV) (p q : List (PEV × ST PEV)), ndR m n (x :: p) (y :: q) = if Zae x.1 y.1 < 0 then (if Za2 Zae m x.1 = true then ndR m n p (y :: q) else x :: ndR m n p (y :: q)) else if Zae y.1 x.1 < 0 then ndR m n (x :: p) q else (if Za2 Zae m x.1 = true then ndR m n p q else if emT (rdN Zae n x.2 y.2) = true then ndR m n p q else (x.1, rdN Zae n x.2 y.2) :: ndR m n p q) := fun x y p q => by
  unfold ndR; rw [Zfi]
  cases Za2 Zae m x.1 <;> cases emT (rdN Zae n x.2 y.2) <;> rfl
 generalize ndR m n = f at *
 generalize hr : f a b = r
 generalize a.map nd = da at *
 generalize b.map nd = db at *
 generalize m.map Zav = dm at *
 refine Zaa Tryz.func171 rfl Tryz.ntmps171 rfl (fun X => ?_)
 refine wk ?_
 refine Zca 12 0 400 224 5 40 rfl rfl rfl ?_
 refine Zaq (ι := { p : (Nat × Nat) × List (PEV × ST PEV) // p.1.1 ≤ a.length ∧ p.1.2 ≤ b.length ∧ p.2.length ≤ p.1.1 + p.1.2 ∧ p.2 ++ f (a.drop p.1.1) (b.drop p.1.2) = r })
  (fun p => [(0, .dat (.ptr (.agg [.sl 5 40 da]))), (1, .dat (.ptr (.agg [.sl 4 32 dm, .sl 5 40 db]))), (5, .ptr 12 0), (6, .dat (.val (.int .i64 (p.1.1.1 : Nat)))), (7, .dat (.val (.int .i64 (p.1.1.2 : Nat))))])
  (fun p => [(12, .box 120 [.own 400]), (400, .row 224 5 40 (p.1.2.map nd))]) (fun p => (a.length - p.1.1.1) + (b.length - p.1.1.2)) ⟨((0, 0), []), Nat.zero_le _, Nat.zero_le _, Nat.le_refl _, hr⟩ id ?_ ?_
 ·exact sb
 rintro ⟨⟨⟨i, j⟩, o⟩, h1, h2, h3, h4⟩
 simp only at h1 h2 h3 h4
 simp only
 by_cases hi : i < a.length
 ·have g1 : decide ((i : Int) < ((da.length : Nat) : Int)) = true := decide_eq_true (by omega)
  by_cases hj : j < b.length
  ·have g2 : decide ((j : Int) < ((db.length : Nat) : Int)) = true := decide_eq_true (by omega)
   obtain ⟨x, hx⟩ : ∃ x, a[i]? = some x := ⟨_, List.getElem?_eq_getElem hi⟩
   obtain ⟨y, hy⟩ : ∃ y, b[j]? = some y := ⟨_, List.getElem?_eq_getElem hj⟩
   rw [Zbi hx, Zbi hy, st] at h4
   have i1 := ga hx
   have i2 := gb hy
   have c1 := Zdo x.1 y.1
   have c2 := Zdo y.1 x.1
   have c3 := ih x (List.mem_of_getElem? hx) y (List.mem_of_getElem? hy)
   have c4 := Znr (rdN Zae n x.2 y.2)
   have c5 := cm x (List.mem_of_getElem? hx)
   obtain ⟨u0, u1, u2, u3, ex, ex1⟩ := Zfx x
   obtain ⟨v0, v1, v2, v3, ey, ey1⟩ := Zfx y
   rw [show nd x = nd (x.1, x.2) from rfl, ex] at i1
   rw [show nd y = nd (y.1, y.2) from rfl, ey] at i2
   rw [ex1, ey1] at c1 c2
   rw [ex1] at c5
   generalize rdN Zae n x.2 y.2 = R at *
   clear nl nr st ga gb ra rb cm ih
   by_cases k1 : Zae x.1 y.1 < 0
   ·rw [decide_eq_true k1] at c1
    rw [if_pos k1, ← Zbi hy] at h4
    cases hh : Za2 Zae m x.1 with
    | true =>
     rw [hh] at c5
     rw [hh, if_pos rfl] at h4
     refine wk ?_
     refine Zah ?_
     refine ⟨⟨((i + 1, j), o), by simp only; omega, by simp only; omega, by simp only; omega, h4⟩, id, by simp only; omega, ?_⟩
     exact sb
    | false =>
     rw [hh] at c5
     rw [hh, if_neg (by decide)] at h4
     have e := Zdn nd o (x.1, x.2)
     have hb := Zkd (n := (o.map nd).length) (k := [nd (x.1, x.2)].length) (y := 40) (by rw [List.length_map]; exact h3) (show i + j ≤ 1099511627776 by omega) (by decide) rfl
     have hb1 := hb.1
     have hb2 := hb.2
     clear hb
     rw [ex x.2] at e hb1 hb2
     generalize o.map nd = od at *
     refine wk ?_
     refine Zah ?_
     refine ⟨⟨((i + 1, j), o ++ [x]), by simp only; omega, by simp only; omega, by simp only [List.length_append, List.length_cons, List.length_nil]; omega, by simp only; rw [List.append_assoc]; exact h4⟩, (fun k => if k = 400 then 84 else k), by simp only; omega, ?_⟩
     exact sb
   ·rw [decide_eq_false k1] at c1
    rw [if_neg k1] at h4
    by_cases k2 : Zae y.1 x.1 < 0
    ·rw [decide_eq_true k2] at c2
     rw [if_pos k2, ← Zbi hx] at h4
     refine wk ?_
     refine Zah ?_
     refine ⟨⟨((i, j + 1), o), by simp only; omega, by simp only; omega, by simp only; omega, h4⟩, id, by simp only; omega, ?_⟩
     exact sb
    ·rw [decide_eq_false k2] at c2
     rw [if_neg k2] at h4
     cases hh : Za2 Zae m x.1 with
     | true =>
      rw [hh] at c5
      rw [hh, if_pos rfl] at h4
      refine wk ?_
      refine Zah ?_
      refine ⟨⟨((i + 1, j + 1), o), by simp only; omega, by simp only; omega, by simp only; omega, h4⟩, id, by simp only; omega, ?_⟩
      exact sb
     | false =>
      rw [hh] at c5
      rw [hh, if_neg (by decide)] at h4
      cases hem : emT R with
      | true =>
       rw [hem] at c4
       rw [hem, if_pos rfl] at h4
       refine wk ?_
       refine Zah ?_
       refine ⟨⟨((i + 1, j + 1), o), by simp only; omega, by simp only; omega, by simp only; omega, h4⟩, id, by simp only; omega, ?_⟩
       exact sb
      | false =>
       rw [hem] at c4
       rw [hem, if_neg (by decide)] at h4
       have e := Zdn nd o (x.1, R)
       have hb := Zkd (n := (o.map nd).length) (k := [nd (x.1, R)].length) (y := 40) (by rw [List.length_map]; exact h3) (show i + j ≤ 1099511627776 by omega) (by decide) rfl
       have hb1 := hb.1
       have hb2 := hb.2
       clear hb
       rw [ex R] at e hb1 hb2
       generalize o.map nd = od at *
       refine wk ?_
       refine Zah ?_
       refine ⟨⟨((i + 1, j + 1), o ++ [(x.1, R)]), by simp only; omega, by simp only; omega, by simp only [List.length_append, List.length_cons, List.length_nil]; omega, by simp only; rw [List.append_assoc]; exact h4⟩, (fun k => if k = 400 then 158 else k), by simp only; omega, ?_⟩
       exact sb
  ·have g2 : decide ((j : Int) < ((db.length : Nat) : Int)) = false := decide_eq_false (by omega)
   have e1 : (List.drop i (List.take da.length da)).length = (a.drop i).length := by rw [List.length_drop, List.length_take, List.length_drop]; omega
   have g9 : ∀ {k : Nat} {x : PEV × ST PEV}, (a.drop i)[k]? = some x → (List.drop i (List.take da.length da))[((k : Nat) : Int).toNat]? = some (nd x) := fun {k x} h => by
    rw [List.take_of_length_le (Nat.le_refl _)]
    rw [List.getElem?_drop] at h ⊢
    exact ga h
   have q1 : o ++ (a.drop i).filterMap (fun x => if Za2 Zae m x.1 then none else some x) = r := by rw [← h4, List.drop_eq_nil_of_le (i := j) (by omega), nr]
   have cm9 : ∀ x ∈ a.drop i, PCall Tryz.prog 180 [.ptr (.agg [.sl 4 32 dm]), Zav x.1] (.val (.bool (Za2 Zae m x.1))) := fun x hx => cm x (List.mem_of_mem_drop hx)
   have ln : (a.drop i).length = a.length - i := List.length_drop
   clear ga gb ra rb nl nr st ih cm
   refine wk ?_
   generalize a.drop i = a9 at *
   generalize List.drop i (List.take da.length da) = d9 at *
   refine Zaq (ι := { p : Nat × List (PEV × ST PEV) // p.1 ≤ a9.length ∧ p.2.length ≤ i + j + p.1 ∧ p.2 ++ (a9.drop p.1).filterMap (fun x => if Za2 Zae m x.1 then none else some x) = r })
    (fun p => [(1, .dat (.ptr (.agg [.sl 4 32 dm, .sl 5 40 db]))), (5, .ptr 12 0), (177, .dat (.sl 5 40 d9)), (178, .dat (.val (.int .i64 ((d9.length : Nat) : Int)))), (179, .dat (.val (.int .i64 (p.1.1 : Nat))))])
    (fun p => [(12, .box 120 [.own 400]), (400, .row 224 5 40 (p.1.2.map nd))]) (fun p => a9.length - p.1.1) ⟨(0, o), Nat.zero_le _, h3, q1⟩ id ?_ ?_
   ·exact sb
   clear q1 h4 h3 o
   rintro ⟨⟨k, o⟩, h5, h3, h6⟩
   simp only at h3 h5 h6
   simp only
   by_cases hk : k < a9.length
   ·have g3 : decide ((k : Int) < ((d9.length : Nat) : Int)) = true := decide_eq_true (by omega)
    obtain ⟨x, hx⟩ : ∃ x, a9[k]? = some x := ⟨_, List.getElem?_eq_getElem hk⟩
    rw [Zbi hx, List.filterMap_cons] at h6
    have i1 := g9 hx
    have c5 := cm9 x (List.mem_of_getElem? hx)
    obtain ⟨u0, u1, u2, u3, ex, ex1⟩ := Zfx x
    rw [show nd x = nd (x.1, x.2) from rfl, ex] at i1
    rw [ex1] at c5
    cases hh : Za2 Zae m x.1 with
    | true =>
     rw [hh] at c5 h6
     have h6 : o ++ (a9.drop (k + 1)).filterMap (fun x => if Za2 Zae m x.1 then none else some x) = r := h6
     refine wk ?_
     refine Zah ?_
     refine ⟨⟨(k + 1, o), by simp only; omega, by simp only; omega, h6⟩, id, by simp only; omega, ?_⟩
     exact sb
    | false =>
     rw [hh] at c5 h6
     have h6 : o ++ x :: (a9.drop (k + 1)).filterMap (fun x => if Za2 Zae m x.1 then none else some x) = r := h6
     have e := Zdn nd o (x.1, x.2)
     have hb := Zkd (n := (o.map nd).length) (m := i + j + k) (k := [nd (x.1, x.2)].length) (y := 40) (by rw [List.length_map]; exact h3) (by omega) (by decide) rfl
     have hb1 := hb.1
     have hb2 := hb.2
     clear hb
     rw [ex x.2] at e hb1 hb2
     generalize o.map nd = od at *
     refine wk ?_
     refine Zah ?_
     refine ⟨⟨(k + 1, o ++ [x]), by simp only; omega, by simp only [List.length_append, List.length_cons, List.length_nil]; omega, by simp only; rw [List.append_assoc]; exact h6⟩, (fun k => if k = 400 then 197 else k), by simp only; omega, ?_⟩
     exact sb
   ·have g3 : decide ((k : Int) < ((d9.length : Nat) : Int)) = false := decide_eq_false (by omega)
    obtain rfl : o = r := by rw [← h6, List.drop_eq_nil_of_le (by omega)]; simp
    refine Zay (fun _ => false) (fun k => Nat.beq k 400) ?_
    refine Zay (fun t => Nat.beq t 120) (fun k => Nat.beq k 12) ?_
    exact wke
 ·have g1 : decide ((i : Int) < ((da.length : Nat) : Int)) = false := decide_eq_false (by omega)
  obtain rfl : o = r := by rw [← h4, List.drop_eq_nil_of_le (i := i) (by omega), nl, List.append_nil]
  refine Zay (fun _ => false) (fun k => Nat.beq k 400) ?_
  refine Zay (fun t => Nat.beq t 120) (fun k => Nat.beq k 12) ?_
  exact wke
theorem Yed (kl kr kb : Bool) (n : Nat) (m m2 : List PEV) (ch ch2 : List (PEV × ST PEV)) : opN Zae kl kr kb (n + 1) (.mk m ch) (.mk m2 ch2) = .mk (opM Zae kl kr kb m m2) (ndN kl kr kb n ch ch2) := Zol
theorem Yqf (n : Nat) (m m2 : List PEV) (ch ch2 : List (PEV × ST PEV)) : rdN Zae (n + 1) (.mk m ch) (.mk m2 ch2) = .mk (opM Zae true false false m m2) (ndR m2 n ch ch2) := Zo1
theorem Ybd (n : Nat) : ∀ (s t : ST PEV) (ka kb : Nat), dpT s < n → SzT ka s → SzT kb t → ka + kb ≤ 1099511627776 → PCall Tryz.prog 101 [.ptr (Zaz s), .ptr (Zaz t)] (.ptr (Zaz (opN Zae true true true n s t))) := by
 induction n with
 | zero => exact fun s t ka kb h => absurd h (Nat.not_lt_zero _)
 | succ n ih =>
  intro s t ka kb hd hs ht hk
  obtain ⟨m, ch⟩ := s
  obtain ⟨m2, ch2⟩ := t
  obtain ⟨s1, s2, s3⟩ := SzT_iff.1 hs
  obtain ⟨t1, t2, t3⟩ := SzT_iff.1 ht
  simp only [ST.m, ST.c] at s1 s2 s3 t1 t2 t3
  have c1 := Ya0 m m2 (by omega)
  have c2 := Ybh n ch ch2 (by omega) (fun x hx y hy => ih x.2 y.2 ka kb (by have := Zdi (t := ST.mk m ch) hx; omega) (s3 x hx) (t3 y hy) hk)
  rw [Yed]
  unfold Zaz
  clear ih s3 t3 hs ht hd
  generalize Zau (ndN _ _ _ _ _ _) = d1 at *
  generalize (opM _ _ _ _ _ _).map Zav = d2 at *
  generalize m.map Zav = d3 at *
  generalize m2.map Zav = d4 at *
  generalize Zau ch = d5 at *
  generalize Zau ch2 = d6 at *
  refine Zaa Tryz.func101 rfl Tryz.ntmps101 rfl (fun X => ?_)
  refine wk ?_
  refine Zay (fun t => Nat.beq t 122) (fun k => Nat.beq k 24) ?_
  exact wke
theorem Ybb (n : Nat) : ∀ (s t : ST PEV) (ka kb : Nat), dpT s < n → SzT ka s → SzT kb t → ka + kb ≤ 1099511627776 → PCall Tryz.prog 88 [.ptr (Zaz s), .ptr (Zaz t)] (.ptr (Zaz (opN Zae false false true n s t))) := by
 induction n with
 | zero => exact fun s t ka kb h => absurd h (Nat.not_lt_zero _)
 | succ n ih =>
  intro s t ka kb hd hs ht hk
  obtain ⟨m, ch⟩ := s
  obtain ⟨m2, ch2⟩ := t
  obtain ⟨s1, s2, s3⟩ := SzT_iff.1 hs
  obtain ⟨t1, t2, t3⟩ := SzT_iff.1 ht
  simp only [ST.m, ST.c] at s1 s2 s3 t1 t2 t3
  have c1 := Yaz m m2 (by omega)
  have c2 := Ybf n ch ch2 (by omega) (fun x hx y hy => ih x.2 y.2 ka kb (by have := Zdi (t := ST.mk m ch) hx; omega) (s3 x hx) (t3 y hy) hk)
  rw [Yed]
  unfold Zaz
  clear ih s3 t3 hs ht hd
  generalize Zau (ndN _ _ _ _ _ _) = d1 at *
  generalize (opM _ _ _ _ _ _).map Zav = d2 at *
  generalize m.map Zav = d3 at *
  generalize m2.map Zav = d4 at *
  generalize Zau ch = d5 at *
  generalize Zau ch2 = d6 at *
  refine Zaa Tryz.func88 rfl Tryz.ntmps88 rfl (fun X => ?_)
  refine wk ?_
  refine Zay (fun t => Nat.beq t 122) (fun k => Nat.beq k 24) ?_
  exact wke
theorem Yft (n : Nat) : ∀ (s t : ST PEV) (ka kb : Nat), dpT s < n → SzT ka s → SzT kb t → ka + kb ≤ 1099511627776 → PCall Tryz.prog 121 [.ptr (Zaz s), .ptr (Zaz t)] (.ptr (Zaz (opN Zae true false false n s t))) := by
 induction n with
 | zero => exact fun s t ka kb h => absurd h (Nat.not_lt_zero _)
 | succ n ih =>
  intro s t ka kb hd hs ht hk
  obtain ⟨m, ch⟩ := s
  obtain ⟨m2, ch2⟩ := t
  obtain ⟨s1, s2, s3⟩ := SzT_iff.1 hs
  obtain ⟨t1, t2, t3⟩ := SzT_iff.1 ht
  simp only [ST.m, ST.c] at s1 s2 s3 t1 t2 t3
  have c1 := Zu2 m m2 (by omega)
  have c2 := Yfz n ch ch2 m2 (by omega) (fun x hx y hy => ih x.2 y.2 ka kb (by have := Zdi (t := ST.mk m ch) hx; omega) (s3 x hx) (t3 y hy) hk)
  rw [Yed]
  unfold Zaz
  clear ih s3 t3 hs ht hd
  generalize Zau (ndN _ _ _ _ _ _) = d1 at *
  generalize (opM _ _ _ _ _ _).map Zav = d2 at *
  generalize m.map Zav = d3 at *
  generalize m2.map Zav = d4 at *
  generalize Zau ch = d5 at *
  generalize Zau ch2 = d6 at *
  refine Zaa Tryz.func121 rfl Tryz.ntmps121 rfl (fun X => ?_)
  refine wk ?_
  refine Zay (fun t => Nat.beq t 122) (fun k => Nat.beq k 22) ?_
  exact wke
theorem Ybc (n : Nat) : ∀ (s t : ST PEV) (ka kb : Nat), dpT s < n → WFT Zae OPE s → WFT Zae OPE t → SzT ka s → SzT kb t → ka + kb ≤ 1099511627776 → PCall Tryz.prog 107 [.ptr (Zaz s), .ptr (Zaz t)] (.ptr (Zaz (rdN Zae n s t))) := by
 induction n with
 | zero => exact fun s t ka kb h => absurd h (Nat.not_lt_zero _)
 | succ n ih =>
  intro s t ka kb hd ws wt hs ht hk
  obtain ⟨m, ch⟩ := s
  obtain ⟨m2, ch2⟩ := t
  obtain ⟨s1, s2, s3⟩ := SzT_iff.1 hs
  obtain ⟨t1, t2, t3⟩ := SzT_iff.1 ht
  simp only [ST.m, ST.c] at s1 s2 s3 t1 t2 t3
  obtain ⟨_, _, _, a4⟩ := WFT_iff.1 ws
  obtain ⟨b1, b2, _, b4⟩ := WFT_iff.1 wt
  have a4 := WFC_iff.1 a4
  have b4 := WFC_iff.1 b4
  simp only [ST.m, ST.c] at a4 b1 b2 b4
  have c1 := Zu2 m m2 (by omega)
  have c2 := Ybg n ch ch2 m2 b1 b2 (fun x hx => (a4 x hx).1) (by omega) (fun x hx y hy => ih x.2 y.2 ka kb (by have := Zdi (t := ST.mk m ch) hx; omega) (a4 x hx).2 (b4 y hy).2 (s3 x hx) (t3 y hy) hk)
  rw [Yqf]
  unfold Zaz
  clear ih s3 t3 hs ht hd a4 b4 b1 b2 ws wt
  generalize Zau (ndR _ _ _ _) = d1 at *
  generalize (opM _ _ _ _ _ _).map Zav = d2 at *
  generalize m.map Zav = d3 at *
  generalize m2.map Zav = d4 at *
  generalize Zau ch = d5 at *
  generalize Zau ch2 = d6 at *
  refine Zaa Tryz.func107 rfl Tryz.ntmps107 rfl (fun X => ?_)
  refine wk ?_
  refine Zay (fun t => Nat.beq t 122) (fun k => Nat.beq k 22) ?_
  exact wke
def Zg8 (v : Value) (e n y : Nat) (l : List PD) : Res where
 rel w F O u := u = v ∧ (∃ xs, w.ownsRow 0 e n u l.length xs ∧ Groups w F n l xs ∧ l.length * y ≤ 140737488351232 ∧ l.length ≤ 140737488351232) ∧ ∀ b, O b ↔ v.ownBlock = some b
 d := .sl n y l
 one := by
  rintro w F O u ⟨rfl, ⟨xs, h, _⟩, _⟩
  rcases h.2 with ⟨e1, e2⟩ | ⟨g, cap, cur, e1, _⟩ <;> rw [e1] <;> rfl
 keep := by
  rintro w w' F F' O v h hs hO ⟨rfl, ⟨xs, h1, h2, h3, h4⟩, h5⟩
  refine ⟨rfl, ⟨xs, ⟨h1.1, h1.2.imp id ?_⟩, h2.keep h hs, h3, h4⟩, h5⟩
  rintro ⟨g', cap', cur, e1, e2, e3, r⟩
  exact ⟨g', cap', cur, e1, e2, (hO g' ((h5 g').2 (by rw [e1]; rfl))).trans e3, r⟩
 frz := by
  rintro w F O F' v hs hO ⟨rfl, ⟨xs, h1, h2, h3, h4⟩, h5⟩
  unfold Rep
  rcases h1.2 with ⟨e1, e2⟩ | ⟨g, cap, cur, e1, hB, hg, hc1, _, hc2, hc3⟩
  ·exact ⟨none, 0, by rw [e1, e2], by omega, h3, h4, .inl (List.eq_nil_of_length_eq_zero e2)⟩
  ·refine ⟨some ⟨g, 0, none⟩, cap, e1, hc1, h3, h4, .inr ⟨g, 0, hO g ((h5 g).2 (by rw [e1]; rfl)), rfl, ?_⟩⟩
   refine (h2.keep (fun _ _ => rfl) hs).lies fun j u hj => ?_
   rw [cell_of_row w g (0 + j) _ _ _ hg]
   rw [← hc3, List.getElem?_take] at hj
   split at hj
   ·simpa using hj
   ·cases hj
def Ysa : Opq where
 rel _ _ v := v.oneCell' = true
 one := fun _ _ _ h => h
 keep := fun _ _ _ _ _ _ _ h => h
def Zmq (v v' : Value) (e n y : Nat) (l : List PD) : Res where
 rel w F O u := u = v ∧ v.oneCell' = true ∧ (((∃ xs, w.ownsRow 0 e n v l.length xs ∧ Groups w F n l xs ∧ l.length * y ≤ 140737488351232 ∧ l.length ≤ 140737488351232) ∧ ∀ b, O b ↔ v.ownBlock = some b) ∨
  ((∀ b, ¬ O b) ∧ l.length * y ≤ 140737488351232 ∧ l.length ≤ 140737488351232 ∧ ∃ g m cap, v = .slice (some ⟨g, 0, none⟩) l.length cap ∧ v' = .slice (some ⟨g, 0, none⟩) m cap ∧ l.length ≤ m))
 d := .opq Ysa
 one := by rintro w F O u ⟨rfl, h, _⟩; exact h
 keep := by
  rintro w w' F F' O u h hs hO ⟨rfl, h0, hv⟩
  refine ⟨rfl, h0, hv.imp ?_ id⟩
  rintro ⟨⟨xs, h1, h2, h3, h4⟩, h5⟩
  refine ⟨⟨xs, ⟨h1.1, h1.2.imp id ?_⟩, h2.keep h hs, h3, h4⟩, h5⟩
  rintro ⟨g', cap', cur, e1, e2, e3, r⟩
  exact ⟨g', cap', cur, e1, e2, (hO g' ((h5 g').2 (by rw [e1]; rfl))).trans e3, r⟩
 frz := by
  rintro w F O F' v hs hO ⟨rfl, h, _⟩
  unfold Rep
  exact h
section
variable {P : Program} {X : Base} {N : Nat} {Q : Exit → Act → World → Prop} {opa : Array Oper} {rem : List Nat} {ks : List Itm} {ops : List Oper} {s s' : Sta} {a : Act} {w w' : World} {ρ : Nat → RV}
theorem Yba {k t d e n y : Nat} {l : List PD} (hk : s.tb k = some (.row e n y l)) (ht : s.tm t = .own k) (hd : s.tb d = none) (hd1 : d < 1000)
  (h : ∀ v, Run P X N Q ks { tm := upd s.tm t (.own d), tb := upd (upd s.tb k (some .dead)) d (some (.res (Zg8 v e n y l))) }) : Run P X N Q ks s := ⟨fun hN a w hc => by
 obtain ⟨ρ, hc⟩ := hc
 obtain ⟨xs, q0, qm, q1, q2, q3, q4⟩ := hc.blks k _ hk
 have hj := hc.join (js := [k]) (d := d) (R := Zg8 (ρ k).v e n y l) (v := (ρ k).v) (O := (ρ k).fp) (w' := w) (fun j hj => by
   rw [List.mem_singleton] at hj; subst hj; rw [hk]; rfl) (.inl ⟨hd, hd1⟩) (fun j hj t cs hcs => by
   rw [List.mem_singleton] at hj; subst hj; rw [hk] at hcs; cases hcs) rfl rfl rfl (Nat.le_refl _) (fun _ _ _ => rfl) (fun b hb => .inr ⟨k, by simp, hb⟩) (fun F' hF' => ⟨rfl, ⟨xs, ⟨q1.1, q1.2.imp id (by
    rintro ⟨g', cap', cur, e1, e2, r⟩
    exact ⟨g', cap', cur, e1, Nat.zero_le _, r⟩)⟩, q2.keep (fun _ _ => rfl) hF', q3, q4⟩, fun b => by
     rw [q0]
     show Zdh (ρ k).v = some b ↔ (ρ k).v.ownBlock = some b
     rcases q1.2 with ⟨e1, e2⟩ | ⟨g, cap, cur, e1, _⟩ <;> rw [e1] <;> exact Iff.rfl⟩)
 have e : Zhs [k] d (Zg8 (ρ k).v e n y l) s.tb = upd (upd s.tb k (some .dead)) d (some (.res (Zg8 (ρ k).v e n y l))) := by
  funext j
  unfold Zhs upd
  by_cases h1 : j = d
  ·rw [if_pos h1, if_pos h1]
  ·rw [if_neg h1, if_neg h1]
   by_cases h2 : j = k
   ·rw [if_pos h2, if_pos (by simp [h2])]
   ·rw [if_neg h2, if_neg (by simp [h2])]
 rw [e] at hj
 have ht1 := hc.tmps t
 rw [ht] at ht1
 have ht2 := Zka ht1 hk
 refine (h (ρ k).v).out hN a w ⟨_, hj.see (t := t) (x := .own d) ?_⟩
 unfold VR
 refine ⟨?_, .inl ⟨_, Zaf _ _ _, .inr rfl, ?_⟩⟩
 ·rw [ht2]
  rcases q1.2 with ⟨e1, e2⟩ | ⟨g, cap, cur, e1, _⟩ <;> rw [e1] <;> rfl
 ·rw [Zaf]
  exact ht2⟩
theorem Zu7 {k d e n y : Nat} {v v' : Value} {l l2 : List PD} (hk : s.tb k = some (.res (Zmq v v' e n y l))) (hd : s.tb d = some (.res (Zg8 v' e n y (l ++ l2)))) (hne : k ≠ d)
  (h : Run P X N Q ks ((s.set d .dead).set k (.res (Zg8 v e n y l)))) : Run P X N Q ks s := Zfc (fun a w ⟨ρ, hc⟩ => by
 obtain ⟨⟨e1, e0, hb⟩, m1⟩ := hc.blks k _ hk
 obtain ⟨⟨e2, ⟨xs, r1, r2, r3, r4⟩, r5⟩, m2⟩ := hc.blks d _ hd
 have hlv : ∀ j ∈ [k, d], Za6 (s.tb j) = true := fun j hj => by
  rcases List.mem_cons.1 hj with rfl | hj
  ·rw [hk]; rfl
  ·rw [List.mem_singleton] at hj; subst hj; rw [hd]; rfl
 have hnb : ∀ j ∈ [k, d], ∀ t cs, s.tb j = some (.box t cs) → False := fun j hj t cs hcs => by
  rcases List.mem_cons.1 hj with rfl | hj
  ·rw [hk] at hcs; cases hcs
  ·rw [List.mem_singleton] at hj; subst hj; rw [hd] at hcs; cases hcs
 have eqt : Zhs [k, d] k (Zg8 v e n y l) s.tb = ((s.set d .dead).set k (.res (Zg8 v e n y l))).tb := by
  funext j
  show _ = upd (upd s.tb d (some .dead)) k (some _) j
  unfold Zhs upd
  by_cases h1 : j = k
  ·rw [if_pos h1, if_pos h1]
  ·rw [if_neg h1, if_neg h1]
   by_cases h2 : j = d
   ·rw [if_pos h2, if_pos (by simp [h2])]
   ·rw [if_neg h2, if_neg (by simp [h1, h2])]
 rcases hb with ⟨⟨ys, q1, q2, q3, q4⟩, q5⟩ | ⟨q0, q3, q4, g, m, cap, f1, f2, f3⟩
 ·have hj := hc.join (js := [k, d]) (d := k) (R := Zg8 v e n y l) (v := (ρ k).v) (O := (ρ k).fp) (w' := w) hlv (.inr ⟨by simp, rfl, _, hk⟩) (fun j hj t cs hcs => (hnb j hj t cs hcs).elim) rfl rfl rfl (Nat.le_refl _) (fun _ _ _ => rfl) (fun b hb => .inr ⟨k, by simp, hb⟩)
   (fun F' hF' => ⟨e1, ⟨ys, by rw [e1]; exact q1, q2.keep (fun _ _ => rfl) hF', q3, q4⟩, q5⟩)
  rw [eqt] at hj
  exact ⟨_, hj⟩
 ·have hj := hc.join (js := [k, d]) (d := k) (R := Zg8 v e n y l) (v := (ρ k).v) (O := (ρ d).fp) (w' := w) hlv (.inr ⟨by simp, rfl, _, hk⟩) (fun j hj t cs hcs => (hnb j hj t cs hcs).elim) rfl rfl rfl (Nat.le_refl _) (fun _ _ _ => rfl) (fun b hb => .inr ⟨d, by simp, hb⟩)
   (fun F' hF' => ⟨e1, by
    rw [e2, f2] at r1
    rw [e1, f1]
    obtain ⟨c1, c2⟩ := r1
    rcases c2 with ⟨c2, _⟩ | ⟨g', cap', cur, c2, c3, c4, c5, c6, c7, c8⟩
    ·cases c2
    ·injection c2 with c9 c10 c11
     injection c9 with c9
     injection c9 with c9
     subst c9 c11
     have hs := (r2.split l.length (by simp)).1
     rw [List.take_left] at hs
     refine ⟨xs.take (l.length * n), ⟨?_, .inr ⟨g, cap, cur, rfl, Nat.zero_le _, c4, by simp at c5; omega, c6, c7, ?_⟩⟩, hs.keep (fun _ _ => rfl) hF', q3, q4⟩
     ·rw [List.length_take, c1]
      refine Nat.min_eq_left (Nat.mul_le_mul_right _ (by simp))
     ·rw [← c8, List.take_take]
      congr 1
      refine (Nat.min_eq_left (Nat.mul_le_mul_right _ (by simp))).symm, fun b => by
    rw [r5, f1, f2]; exact Iff.rfl⟩)
  rw [eqt] at hj
  exact ⟨_, hj⟩) h
theorem Zo3 (base : Nat) (t ty e : TypeId) (i : TypeInfo) (z : Value) (size bytes : Nat) (ht : P.underlying t = some (.slice e)) (hi : P.info? e = some i) (hz : i.zero = some z)
  (hsize : i.size = size) (hby : i.bytes = bytes) (hzs : z.cells.size = size) (hsz : 0 < size) {v : Value} {n : Nat} {xs : List Value} (hown : w.ownsRow base e size v n xs)
  {ad : Option Addr} {m c : Nat} {news : List Value} (hm : m ≠ 0) (hl : news.length = m * size) (hnews : m = 0 ∨ ∃ b o, ad = some ⟨b, o, none⟩ ∧ Lies w b o news) (h1 : ∀ u ∈ news, u.oneCell' = true)
  (h63 : n + m ≤ maxLen) (hbytes : (n + m) * bytes ≤ 140737488355328) :
  ∃ v' w', (Builtin.append_ #[t, t] ty #[v, .slice ad m c]).run P w = .ok v' w' ∧ w'.ownsRow 0 e size v' (n + m) (xs ++ news) ∧ w'.os = w.os ∧ w'.tape = w.tape ∧ w'.output = w.output ∧ w.heap.size ≤ w'.heap.size ∧
   ((∃ g cap, v = .slice (some ⟨g, 0, none⟩) n cap ∧ v' = .slice (some ⟨g, 0, none⟩) (n + m) cap ∧ ∀ b, b ≠ g → w'.heap[b]? = w.heap[b]?) ∨ ((∀ b, v'.ownBlock = some b → w.heap.size ≤ b ∧ b < w'.heap.size) ∧ ∀ b, b < w.heap.size → w'.heap[b]? = w.heap[b]?)) := by
 obtain ⟨b0, o0, rfl, hlies⟩ := hnews.resolve_left hm
 subst hsize
 subst hby
 have hadd := hlies.add
 have hlen : (xs ++ news).length = (n + m) * i.size := by rw [List.length_append, hown.1, hl, Nat.add_mul]
 have hsmall : n + m ≤ 9223372036854775807 := by simp only [maxLen] at h63; omega
 have grown : ∀ (old : Nat),
   (w.drew.alloc (.cells (xs.toArray ++ news.toArray ++ Builtin.zeroCells z.cells (grownCap w (n + m) old e - (n + m))) e)).ownsRow 0 e i.size
    (.slice (some ⟨w.heap.size, 0, none⟩) (n + m) (grownCap w (n + m) old e)) (n + m) (xs ++ news) := by
  intro old
  have hge := grownCap_ge w (n + m) old e
  have hcm : grownCap w (n + m) old e ≤ maxLen := grownCap_le_maxLen w (n + m) old e h63
  refine ⟨hlen, .inr ⟨w.heap.size, _, _, rfl, Nat.zero_le _, (MapKept.heap_alloc w.drew _).1, hge, hcm, ?_, ?_⟩⟩
  ·simp only [Array.size_append, List.size_toArray, size_zeroCells, hzs, hown.1, hl, ← Nat.add_mul]
   congr 1
   omega
  ·simp only [Array.toList_append, List.append_assoc]
   rw [← List.append_assoc, ← hlen]
   exact List.take_left
 have newb : ∀ (o : Obj) (n cap : Nat), ((∀ b, (Value.slice (some ⟨w.heap.size, 0, none⟩) n cap).ownBlock = some b → w.heap.size ≤ b ∧ b < (w.drew.alloc o).heap.size) ∧ ∀ b, b < w.heap.size → (w.drew.alloc o).heap[b]? = w.heap[b]?) := fun o n cap =>
  ⟨fun b hb => by
   have hb : w.heap.size = b := by simpa [Value.ownBlock] using hb
   subst hb
   exact ⟨Nat.le_refl _, by simp⟩, fun b hb => Below.heap_alloc w.drew _ b hb⟩
 rcases hown.2 with ⟨rfl, rfl⟩ | ⟨g, cap, cur, rfl, hbg, hg, hnc, hcm, hcs, htake⟩
 ·have hx : xs = [] := List.eq_nil_of_length_eq_zero (by simpa using hown.1)
  subst hx
  have hr := run_append_nil (P := P) w t ty e i z ht hi hz ⟨b0, o0, none⟩ m c news hl hadd (by omega) (by omega) (by have hb := hbytes; simp only [Nat.zero_add] at hb; omega)
  have hgr := grown 0
  simp only [Nat.zero_add, List.nil_append, Array.empty_append] at hgr ⊢
  exact ⟨_, _, hr, hgr, rfl, rfl, rfl, by simp, .inr (newb _ _ _)⟩
 ·by_cases hroom : n + m ≤ cap
  ·have hfit : n * i.size + news.length ≤ cur.size := by rw [hl, hcs, ← Nat.add_mul]; exact Nat.mul_le_mul_right _ hroom
   have hr := run_append_room (P := P) w t ty e i ht hi g n cap cur hg ⟨b0, o0, none⟩ m c news hl hadd h1 hroom hfit
   refine ⟨_, _, hr, ⟨hlen, .inr ⟨g, cap, _, rfl, Nat.zero_le _, setRow_heap w g cur _ e _ hg, hroom, hcm, ?_, ?_⟩⟩, rfl, rfl, rfl, by simp, .inl ⟨g, cap, rfl, rfl, fun k hk => setRow_other w g k _ hk⟩⟩
   ·simp only [List.size_toArray, List.length_append, List.length_take, List.length_drop, Array.length_toList]
    omega
   ·rw [htake, ← hlen]
    exact List.take_left
  ·have holds : ∀ j u, xs[j]? = some u → w.cell? ((⟨g, 0, none⟩ : Addr).add j) = some u := hown.cells (g := g) rfl
   have hr := run_append_grow (P := P) w t ty e i z ht hi hz ⟨g, 0, none⟩ n cap xs hown.1 holds ⟨b0, o0, none⟩ m c news hl hadd (by omega) (by omega) (growslice_fits (by omega) hbytes)
   exact ⟨_, _, hr, grown cap, rfl, rfl, rfl, by simp, .inr (newb _ _ _)⟩
end
def Yc4 (v v' : Value) (e n y : Nat) (l l' : List PD) : Res where
 rel w F O u := u = v ∧ ∃ Ok Od : Nat → Prop, (∀ b, O b ↔ Ok b ∨ Od b) ∧ (∀ b, Ok b → ¬ Od b) ∧ (Zmq v v' e n y l).rel w F Ok v ∧ (Zg8 v' e n y l').rel w F Od v'
 d := .opq Ysa
 one := by rintro w F O u ⟨rfl, Ok, Od, _, _, h, _⟩; exact h.2.1
 keep := by
  rintro w w' F F' O u h hs hO ⟨rfl, Ok, Od, h1, h2, h3, h4⟩
  exact ⟨rfl, Ok, Od, h1, h2, (Zmq u v' e n y l).keep w w' F F' Ok u h hs (fun b hb => hO b ((h1 b).2 (.inl hb))) h3, (Zg8 v' e n y l').keep w w' F F' Od v' h hs (fun b hb => hO b ((h1 b).2 (.inr hb))) h4⟩
 frz := by
  rintro w F O F' v hs hO ⟨rfl, Ok, Od, _, _, h, _⟩
  unfold Rep
  exact h.2.1
section
variable {P : Program} {X : Base} {N : Nat} {ops : List Oper} {s s' : Sta} {a : Act} {w w' : World} {ρ : Nat → RV}
def Ztv (k : Nat) (b1 b2 : Blk) : Nat → Option Blk := fun j => if j = k then some b1 else some b2
theorem ConcAt.fork (hc : ConcAt X s a w ρ) {k d : Nat} {v v' : Value} {e n y : Nat} {l l' : List PD} (hk : s.tb k = some (.res (Yc4 v v' e n y l l'))) (hd : s.tb d = none) (hd1 : d < 1000) :
  ∃ ρ', ConcAt X { tm := s.tm, tb := Zfz [k, d] (Ztv k (.res (Zmq v v' e n y l)) (.res (Zg8 v' e n y l'))) s.tb } a w ρ' ∧ (ρ' d).v = v' := by
 obtain ⟨⟨e1, Ok, Od, h1, h2, h3, h4⟩, h5⟩ := hc.blks k _ hk
 have hne : d ≠ k := fun h => by rw [h, hk] at hd; cases hd
 let nr : Nat → RV := fun j => if j = k then ⟨v, Ok⟩ else ⟨v', Od⟩
 have nk : nr k = ⟨v, Ok⟩ := if_pos rfl
 have nd : nr d = ⟨v', Od⟩ := if_neg hne
 have hmem : ∀ j, j ∈ [k, d] → j = k ∨ j = d := fun j hj => by
  rcases List.mem_cons.1 hj with h | h
  ·exact .inl h
  ·exact .inr (List.mem_singleton.1 h)
 have hs := hc.split (X' := X) hk (js := [k, d]) (nb := Ztv k (.res (Zmq v v' e n y l)) (.res (Zg8 v' e n y l'))) (nr := nr) (fun j hj hjk => by
   rcases hmem j hj with h | h
   ·exact absurd h hjk
   ·rw [h]; exact hd) (by simp) (fun _ _ _ _ => rfl) rfl ⟨by rw [nk]; exact e1.symm, _, by unfold Ztv; rw [if_pos rfl], .inl rfl⟩ (fun j hj hl b hb => by
   simp only [nr] at hb
   split at hb
   ·exact (h1 b).2 (.inl hb)
   ·exact (h1 b).2 (.inr hb)) (fun j1 g1 j2 g2 b _ _ b1 b2 => by
   rcases hmem j1 g1 with rfl | rfl <;> rcases hmem j2 g2 with rfl | rfl
   ·rfl
   ·rw [nk] at b1
    rw [nd] at b2
    exact absurd b2 (h2 b b1)
   ·rw [nk] at b2
    rw [nd] at b1
    exact absurd b1 (h2 b b2)
   ·rfl) (fun j hj h6 h7 => by
   rcases hmem j hj with rfl | rfl
   ·rw [nk]
    rw [← hc.lent j h6 (by rw [hk]; rfl)]
    exact e1.symm
   ·omega) (fun hF j hj x hx => by
   rcases hmem j hj with rfl | rfl
   ·have ev : Zgp [j, d] nr ρ j = ⟨v, Ok⟩ := by unfold Zgp; rw [if_pos (by simp)]; exact nk
    unfold Ztv at hx
    rw [if_pos rfl] at hx
    cases hx
    refine ⟨?_, fun b hb => ?_⟩
    ·rw [ev]
     exact (Zmq v v' e n y l).keep w w _ _ Ok v (fun _ _ => rfl) hF (fun _ _ => rfl) h3
    ·rw [ev] at hb
     exact h5 b ((h1 b).2 (.inl hb))
   ·have ev : Zgp [k, j] nr ρ j = ⟨v', Od⟩ := by unfold Zgp; rw [if_pos (by simp)]; exact nd
    unfold Ztv at hx
    rw [if_neg hne] at hx
    cases hx
    refine ⟨?_, fun b hb => ?_⟩
    ·rw [ev]
     exact (Zg8 v' e n y l').keep w w _ _ Od v' (fun _ _ => rfl) hF (fun _ _ => rfl) h4
    ·rw [ev] at hb
     exact h5 b ((h1 b).2 (.inr hb)))
 refine ⟨_, hs, ?_⟩
 show (Zgp [k, d] nr ρ d).v = v'
 unfold Zgp
 rw [if_pos (by simp), nd]
def Eff.bk (k d : Nat) (b1 b2 : Blk) : Eff := { dead := none, blk := some (d, b2), tmp := some (d, .own d), blk2 := some (k, b1) }
theorem Zt4 {d t e n y k k2 : Nat} {x x2 : Operand} {v : Value} {l l2 : List PD} {e2 n2 y2 : Nat} (hN : Nat.blt d N = true) (hd0 : s.tb d = none) (hx : s.ev x = .own k) (hk : s.tb k = some (.res (Zg8 v e n y l))) (hx2 : s.ev x2 = .own k2) (hk2 : s.tb k2 = some (.row e2 n2 y2 l2))
  [ht : SI P t e n y] (hz : Zvp P e = some n) (hn : Nat.blt 0 n = true) (hn2 : n2 = n) (h0 : l2.length ≠ 0) (hb1 : (l.length + l2.length) * y ≤ 140737488351232) (hb2 : l.length + l2.length ≤ 140737488351232) :
  TrI P X N ops (some d) (.call { callee := .builtin .append, args := #[x, x2], argTypes := #[t, t] }) (fun v' : Value => Eff.bk k d (.res (Zmq v v' e n y l)) (.res (Zg8 v' e n y (l ++ l2)))) s := ⟨fun hX ty pos aft s' hA a w ⟨ρ, hc⟩ K Q' hK => by
 subst hn2
 have hN' : d < X.N := by rw [hX.1]; exact Nat.blt_eq.mp hN
 have hA0 := hA (.slice none 0 0)
 have hx' := (Zfg hA0 (x := x) (by simp [Op.operands, Call.operands])).trans hx
 have hx2' := (Zfg hA0 (x := x2) (by simp [Op.operands, Call.operands])).trans hx2
 have hk' := (Zja hA0 (x := x) (by simp [Op.operands, Call.operands]) (k := k) (by rw [hx]; simp [Zbp])).trans hk
 have hk2' := (Zja hA0 (x := x2) (by simp [Op.operands, Call.operands]) (k := k2) (by rw [hx2]; simp [Zbp])).trans hk2
 have hd0' : s'.tb d = none := (Zin hA0 rfl).trans hd0
 have hne : d ≠ k := fun h => by rw [h, hk'] at hd0'; cases hd0'
 have g1 := hc.ev x
 rw [hx'] at g1
 have g1 := Zib g1 hk' rfl
 have g2 := hc.ev x2
 rw [hx2'] at g2
 have g2 := Zka g2 hk2'
 obtain ⟨⟨e1, ⟨xs, q1, q2, q3, q4⟩, q5⟩, q6⟩ := hc.blks k _ hk'
 obtain ⟨ys, r0, rm, r1, r2, r3, r4⟩ := hc.blks k2 _ hk2'
 obtain ⟨g, c, hv2, hlies⟩ : ∃ g c, (ρ k2).v = .slice (some ⟨g, 0, none⟩) l2.length c ∧ Lies w g 0 ys := by
  rcases r1.2 with ⟨f1, f2⟩ | ⟨g, cap, cur, f1, f2⟩
  ·exact absurd f2 h0
  ·refine ⟨g, cap, f1, fun j u hj => ?_⟩
   have := r1.cells (g := g) (by rw [f1]; rfl) j u hj
   rwa [Zb5] at this
 obtain ⟨inf, hu, hi1, hs1, hy1⟩ := Zcv ht.out
 obtain ⟨i2, z, hi2, hz1, hz2, hz3⟩ := Zle hz
 rw [hi1] at hi2
 cases hi2
 obtain ⟨v', w', hr, a1, a2, a3, a4, a5, a6⟩ := Zo3 (P := P) 0 t ty e inf z n2 y hu hi1 hz1 hs1 hy1 hz2 (Nat.blt_eq.mp hn) q1 (ad := some ⟨g, 0, none⟩) (m := l2.length) (c := c) h0 r2.length (.inr ⟨g, 0, rfl, hlies⟩) r2.one (by unfold maxLen; omega) (by omega)
 rw [← hv2, e1] at hr
 rw [e1] at g1
 have hone : v.oneCell' = true := by
  rw [e1] at q1
  rcases q1.2 with ⟨f1, _⟩ | ⟨g, cap, cur, f1, _⟩ <;> rw [f1] <;> rfl
 have hkfp : ∀ b, v.ownBlock = some b → (ρ k).fp b := fun b hb => (q5 b).2 hb
 have hnk : ∀ b, FF X w s'.tb ρ b → v.ownBlock ≠ some b := fun b hb h => hb.2.2 k (by rw [hk']; rfl) (hkfp b h)
 have hsame : ∀ b, b < w.heap.size → v.ownBlock ≠ some b → w'.heap[b]? = w.heap[b]? := fun b h1 h2 => by
  rcases a6 with ⟨g, cap, f1, f2, f3⟩ | ⟨_, f3⟩
  ·refine f3 b fun h => h2 ?_
   rw [← e1, f1, h]; rfl
  ·exact f3 b h1
 have hF : ∀ b, FF X w s'.tb ρ b → w'.heap[b]? = w.heap[b]? := fun b hb => hsame b hb.2.1 (hnk b hb)
 have hlb1 : (l ++ l2).length * y ≤ 140737488351232 := by rw [List.length_append]; exact hb1
 have hlb2 : (l ++ l2).length ≤ 140737488351232 := by rw [List.length_append]; exact hb2
 have hrow : ∀ F' : Nat → Prop, (∀ b, FF X w s'.tb ρ b → F' b) → (Zg8 v' e n2 y (l ++ l2)).rel w' F' (fun b => v'.ownBlock = some b) v' := fun F' hF' =>
  ⟨rfl, ⟨xs ++ ys, by rw [List.length_append]; exact a1, (q2.keep hF hF').append (r2.keep hF hF'), hlb1, hlb2⟩, fun b => Iff.rfl⟩
 obtain ⟨Ok, hOk1, hOk2, hOk3⟩ : ∃ Ok : Nat → Prop, (∀ b, Ok b → v.ownBlock = some b) ∧ (∀ b, Ok b → v'.ownBlock ≠ some b) ∧ ∀ F' : Nat → Prop, (∀ b, FF X w s'.tb ρ b → F' b) → (Zmq v v' e n2 y l).rel w' F' Ok v := by
  rcases a6 with ⟨g, cap, f1, f2, f3⟩ | ⟨f2, f3⟩
  ·exact ⟨fun _ => False, fun _ h => h.elim, fun _ h => h.elim, fun F' hF' => ⟨rfl, hone, .inr ⟨fun _ h => h, q3, q4, g, l.length + l2.length, cap, by rw [← e1]; exact f1, f2, by omega⟩⟩⟩
  ·refine ⟨fun b => v.ownBlock = some b, fun _ h => h, fun b h h' => ?_, fun F' hF' => ⟨rfl, hone, .inl ⟨⟨xs, ?_, q2.keep hF hF', q3, q4⟩, fun b => Iff.rfl⟩⟩⟩
   ·have h1 := (q6 b (hkfp b h)).2
    have := (f2 b h').1
    omega
   ·rw [e1] at q1
    refine ⟨q1.1, q1.2.imp id ?_⟩
    rintro ⟨g', cap', cur, c1, c2, c3, r⟩
    exact ⟨g', cap', cur, c1, c2, (f3 g' (Array.getElem?_eq_some_iff.1 c3).1).trans c3, r⟩
 have hOd : ∀ b, v'.ownBlock = some b → (w.heap.size ≤ b ∧ b < w'.heap.size) ∨ v.ownBlock = some b := fun b hb => by
  rcases a6 with ⟨g, cap, f1, f2, f3⟩ | ⟨f2, f3⟩
  ·right
   rw [f2] at hb
   rw [← e1, f1]
   exact hb
  ·exact .inl (f2 b hb)
 have hj := hc.join (js := [k]) (d := k) (R := Yc4 v v' e n2 y l (l ++ l2)) (v := (ρ k).v) (O := fun b => Ok b ∨ v'.ownBlock = some b) (w' := w') (fun j hj => by
   rw [List.mem_singleton] at hj; subst hj; rw [hk']; rfl) (.inr ⟨by simp, rfl, _, hk'⟩) (fun j hj t cs hcs => by
   rw [List.mem_singleton] at hj; subst hj; rw [hk'] at hcs; cases hcs) a2 a3 a4 a5 (fun b h1 h2 => hsame b h1 fun h => h2 k (by simp) (hkfp b h)) (fun b hb => by
   rcases hb with hb | hb
   ·exact .inr ⟨k, by simp, hkfp b (hOk1 b hb)⟩
   ·rcases hOd b hb with h | h
    ·exact .inl h
    ·exact .inr ⟨k, by simp, hkfp b h⟩) (fun F' hF' => ⟨e1, Ok, fun b => v'.ownBlock = some b, fun b => Iff.rfl, hOk2, hOk3 F' hF', hrow F' hF'⟩)
 have et : Zhs [k] k (Yc4 v v' e n2 y l (l ++ l2)) s'.tb = upd s'.tb k (some (.res (Yc4 v v' e n2 y l (l ++ l2)))) := by
  funext j
  unfold Zhs upd
  by_cases h1 : j = k
  ·rw [if_pos h1, if_pos h1]
  ·rw [if_neg h1, if_neg h1, if_neg (by simp [h1])]
 rw [et] at hj
 obtain ⟨ρ2, hf, hf2⟩ := hj.fork (k := k) (d := d) (Zaf _ _ _) (by show upd s'.tb k _ d = none; rw [Zaw _ _ hne]; exact hd0') (Nat.lt_of_lt_of_le hN' X.hN)
 have hput := hf.put hN' (x := .own d) (v := v') (by
  unfold VR
  refine ⟨?_, .inl ⟨.res (Zg8 v' e n2 y (l ++ l2)), ?_, .inr rfl, hf2.symm⟩⟩
  ·rcases a1.2 with ⟨f1, _⟩ | ⟨g, cap, cur, f1, _⟩ <;> rw [f1] <;> rfl
  ·show Zfz [k, d] _ _ d = _
   unfold Zfz Ztv
   rw [if_pos (by simp), if_neg hne])
 refine Zea (v := v') (w' := w') ?_ ?_
 ·simp only [execOp, resolve, invoke, builtin, Sem.run_bind, Sem.run_pure, Result.andThen_ok, List.map_toArray, List.map_cons, List.map_nil, g1, g2, hr]
 ·refine hK (a.put (some d) v') w' v' ⟨ρ2, ?_⟩
  have es : (Eff.bk k d (.res (Zmq v v' e n2 y l)) (.res (Zg8 v' e n2 y (l ++ l2)))).app s' = ({ tm := s'.tm, tb := Zfz [k, d] (Ztv k (.res (Zmq v v' e n2 y l)) (.res (Zg8 v' e n2 y (l ++ l2)))) (upd s'.tb k (some (.res (Yc4 v v' e n2 y l (l ++ l2))))) } : Sta).put (some d) (.own d) := by
   show ({ tm := _, tb := _ } : Sta) = { tm := _, tb := _ }
   congr 1
   funext j
   show (if j = k then _ else if j = d then _ else s'.tb j) = Zfz [k, d] _ _ j
   unfold Zfz Ztv upd
   by_cases h1 : j = k
   ·rw [if_pos h1, if_pos (by simp [h1]), if_pos h1]
   ·rw [if_neg h1]
    by_cases h2 : j = d
    ·rw [if_pos h2, if_pos (by simp [h2]), if_neg h1]
    ·rw [if_neg h2, if_neg (by simp [h1, h2]), if_neg h1]
  rw [es]
  exact hput⟩
theorem Zu9 {Q : Exit → Act → World → Prop} {ks : List Itm} (c n : Nat) (tmpl : List (Option Eff)) {ι : Type} (i0 : ι) (ec : ι → Eff) {id : Nat} {ops : List Oper} {d : Option Tmp} {op : Op} {ty : TypeId} {pos : String} {aft : Array Edge} (hm : P.follows .mixedOrders = true) (ho : ops[c]? = some ⟨d, op, ty, pos, aft, none⟩) (hcn : c < n) (hnl : n ≤ ops.length)
  (h : TrC P X N ops (ops.take c) s (fun es0 s1 => TrI P X N ops d op ec s1 ∧ ∀ i, TrC P X N ops ((ops.take n).drop (c + 1)) ((ec i).app s1) (fun esr s' => (Zc4 0 ops && Zhw ops (ops.take n) (es0 ++ ec i :: esr) s && Zlh ops n) = true ∧ SameT ops c 0 tmpl esr ∧ Run P X N Q (.ops ops.toArray (List.range' n (ops.length - n)) :: ks) s'))) :
  Run P X N Q (.code (.region id ops.toArray true) :: ks) s := ⟨fun hX a w hc => by
 obtain ⟨es0, s1, h1, hI, h2⟩ := h.out
 obtain ⟨esr, h3⟩ := Classical.axiomOfChoice fun i => (h2 i).out
 obtain ⟨s', h3⟩ := Classical.axiomOfChoice h3
 have hcl : c < ops.length := (List.getElem?_eq_some_iff.1 ho).1
 have hln : (ops.take n).length = n := by simp; omega
 have htr := h1.out hX
 have hl0 : es0.length = c := by rw [htr.len]; simp; omega
 have htr2 := fun i => (h3 i).1.out hX
 have hl2 : ∀ i, (esr i).length = n - (c + 1) := fun i => by rw [(htr2 i).len]; simp; omega
 have hok := fun i => by have := (h3 i).2.1; simp only [Bool.and_eq_true] at this; exact this
 have es1 : s1 = sAt es0 c s := by
  have := htr.last
  rwa [show (ops.take c).length = c by simp; omega] at this
 have hs1 : ∀ i, sAt (es0 ++ ec i :: esr i) c s = s1 := fun i => by rw [Zo7 _ _ _ _ (by omega), es1]
 have hs2 : ∀ i k, sAt (es0 ++ ec i :: esr i) (c + 1 + k) s = sAt (esr i) k ((ec i).app s1) := fun i k => by
  have := Zsp es0 (ec i :: esr i) (k + 1) s
  rw [hl0] at this
  rw [show c + 1 + k = c + (k + 1) by omega, this, ← es1]
  rfl
 show (Code.region id ops.toArray true).wp P (post P X Q ks) a w
 refine wp_region_any hm ?_
 have hc' : Conc X s a { w with drawn := w.drawn + 1 } := by obtain ⟨ρ, hcc⟩ := hc; exact ⟨ρ, hcc.drew⟩
 have hf : ∀ i, (Array.replicate ops.toArray.size false).getD i false = false := by
  intro i
  rw [Array.getD_eq_getD_getElem?, Array.getElem?_replicate]
  split <;> rfl
 have e0 : ∀ es, Zgf (fun i => (Array.replicate ops.toArray.size false).getD i false) es 0 s = s := fun es => by
  have e1 : ∀ t, Zev (fun i => (Array.replicate ops.toArray.size false).getD i false) t es 0 (s.tm t) = s.tm t := fun t => by
   rw [Zd5 (q := fun j => decide (j < 0 + 0)) (fun j e _ => .inr (by simp only [hf]; simp)), ← Zi7 t es 0 0 s]
   cases es <;> rfl
  have e2 : ∀ t, Zeu (fun i => (Array.replicate ops.toArray.size false).getD i false) t es 0 (s.tb t) = s.tb t := fun t => by
   rw [Zd4 (q := fun j => decide (j < 0 + 0)) (fun j e _ => .inr (by simp only [hf]; simp)), ← Zhl t es 0 0 s]
   cases es <;> rfl
  unfold Zgf
  simp only [e1, e2]
 have hch := Zpq (hok i0).2
 have hat : ∀ i, i < n → (ops.take n)[i]? = ops[i]? := fun i hi => by rw [List.getElem?_take, if_pos hi]
 refine Zl3 i0 (c := c) (hd := ops.take n) (tl := ops.drop n) (List.take_append_drop n ops).symm (s1 := s1) (s' := s') (es := fun i => es0 ++ ec i :: esr i) (fun i => by rw [hln]; simp [hl0, hl2 i]; omega) (fun i j o e hj hoj he => ?_) (fun i => ?_) hs1 (fun o hoc => ?_) (fun i j hj hA => ?_) (fun i => (hok i).1.2) (hok i0).1.1 (fun i h1 h2 j hj => hch i (by omega) h2 j (by omega))
  (fun i fuel listed a w hs hl hcnt hc => ?_) _ _ _ _ (by simp) (fun i o hi => by simp only [hf] at hi; cases hi) (fun i _ => hf i) (by refine Nat.le_trans (List.length_filter_le _ _) (by simp)) ⟨i0, fun _ => rfl, by rw [e0]; exact hc'⟩
 ·have hjn : j < n := by
   have := (List.getElem?_eq_some_iff.1 hoj).1
   omega
  rcases Nat.lt_or_gt_of_ne hj with hlt | hgt
  ·rw [List.getElem?_append_left (by omega)] at he
   rw [Zo7 _ _ _ _ (by omega)]
   exact htr.at_ (by rw [List.getElem?_take, if_pos hlt, ← hat j hjn]; exact hoj) he
  ·obtain ⟨k, rfl⟩ : ∃ k, j = c + 1 + k := ⟨j - (c + 1), by omega⟩
   rw [List.getElem?_append_right (by omega), hl0, show c + 1 + k - c = k + 1 by omega, List.getElem?_cons_succ] at he
   rw [hs2]
   exact (htr2 i).at_ (by rw [List.getElem?_drop]; exact hoj) he
 ·have := (htr2 i).last
  rw [List.length_drop, hln] at this
  show s' i = sAt (es0 ++ ec i :: esr i) (ops.take n).length s
  rw [hln, show n = c + 1 + (n - (c + 1)) by omega, hs2]
  exact this
 ·rw [hat c hcn, ho] at hoc; cases hoc
  refine ⟨rfl, ec, fun i => ?_, hI.act hX _ _ _⟩
  show (es0 ++ ec i :: esr i)[c]? = _
  rw [List.getElem?_append_right (by omega), hl0, Nat.sub_self]; rfl
 ·show (es0 ++ ec i :: esr i)[j]? = (es0 ++ ec i0 :: esr i0)[j]?
  rcases Nat.lt_or_gt_of_ne hj with hlt | hgt
  ·rw [List.getElem?_append_left (by omega), List.getElem?_append_left (by omega)]
  ·obtain ⟨k, rfl⟩ : ∃ k, j = c + 1 + k := ⟨j - (c + 1), by omega⟩
   rw [List.getElem?_append_right (by omega), List.getElem?_append_right (by omega), hl0, show c + 1 + k - c = k + 1 by omega, List.getElem?_cons_succ, List.getElem?_cons_succ]
   rcases SameT.at_ (h3 i).2.2.1 (h3 i0).2.2.1 k with h | h
   ·rw [Nat.add_zero] at h; exact absurd h hA
   ·exact h
 ·rw [hln] at hl
  refine Zq0 (hok i0).1.1 hch fuel n listed a w (Nat.le_refl _) hnl hs hl ?_ ((h3 i).2.2.2.out hX a w hc)
  refine Nat.le_trans ?_ hcnt
  have : ∀ (m : Nat) (p : Nat → Bool), (∀ i, i < m → p i = decide (n ≤ i)) → m - n ≤ ((List.range m).filter p).length := by
   intro m
   induction m with
   | zero => intro p _; simp
   | succ m ihm =>
    intro p hp
    rw [List.range_succ, List.filter_append, List.length_append]
    have := ihm p fun i hi => hp i (by omega)
    simp only [List.filter_cons, List.filter_nil]
    rw [hp m (by omega)]
    by_cases hq : n ≤ m
    ·rw [if_pos (by simpa using hq)]; simp only [List.length_cons, List.length_nil]; omega
    ·omega
  exact this ops.length _ fun i hi => by
   rw [hl i hi]
   by_cases hq : i < n
   ·have h2 : ¬ n ≤ i := by omega
    simp only [hq, h2, decide_true, decide_false, Bool.not_true]
   ·have h2 : n ≤ i := by omega
    simp only [hq, h2, decide_true, decide_false, Bool.not_false]⟩
end
section
variable {P : Program} {X : Base} {N : Nat} {Q : Exit → Act → World → Prop} {opa : Array Oper} {rem : List Nat} {ks : List Itm} {ops : List Oper} {s s' : Sta} {a : Act} {w w' : World} {ρ : Nat → RV}
theorem ConcAt.swap (hc : ConcAt X s a w ρ) {k : Nat} {x x' : Blk} {r : RV} (hk : s.tb k = some x) (h1 : x.kind = 1 ∨ x.kind = 3) (h2 : x'.kind = 1 ∨ x'.kind = 3) (hv : r.v = (ρ k).v) (hf : ∀ b, r.fp b → (ρ k).fp b)
  (hb : (∀ b, FF X w s.tb ρ b → FF X w (upd s.tb k (some x')) (upd ρ k r) b) → BR X w (upd s.tb k (some x')) (upd ρ k r) k x') : ConcAt X (s.set k x') a w (upd ρ k r) := by
 have hlx : x.live = true := by cases x <;> simp [Blk.kind] at h1 <;> rfl
 have hlx' : x'.live = true := by cases x' <;> simp [Blk.kind] at h2 <;> rfl
 have hlk : Za6 (s.tb k) = true := by rw [hk]; exact hlx
 have hlv : ∀ j, Za6 (upd s.tb k (some x') j) = true → Za6 (s.tb j) = true := fun j hj => by
  by_cases e : j = k
  ·rw [e]; exact hlk
  ·rwa [Zaw _ _ e] at hj
 have hfp : ∀ j b, (upd ρ k r j).fp b → (ρ j).fp b := fun j b hj => by
  by_cases e : j = k
  ·subst e; rw [Zaf] at hj; exact hf b hj
  ·rwa [Zaw _ _ e] at hj
 have hs : ∀ b, FF X w s.tb ρ b → FF X w (upd s.tb k (some x')) (upd ρ k r) b := fun b hb' => ⟨hb'.1, hb'.2.1, fun j hj e => hb'.2.2 j (hlv j hj) (hfp j b e)⟩
 have hkept : ∀ j, Zvu s.tb (upd s.tb k (some x')) ρ (upd ρ k r) j := by
  intro j y hy
  by_cases e : j = k
  ·subst e
   rw [hk] at hy; cases hy
   exact ⟨x', Zaf _ _ _, .inl ⟨.inr ⟨h1, h2⟩, by rw [Zaf]; exact hv⟩⟩
  ·exact ⟨y, by rw [Zaw _ _ e]; exact hy, .inl ⟨.inl rfl, by rw [Zaw _ _ e]⟩⟩
 refine ⟨hc.size, hc.defers, hc.below, fun t => VR.keepK (fun _ _ => rfl) hs _ (fun j _ => hkept j) (hc.tmps t), fun j y hy => ?_, fun j1 j2 b g1 g2 e1 e2 => hc.apart j1 j2 b (hlv j1 g1) (hlv j2 g2) (hfp j1 b e1) (hfp j2 b e2), fun j hj hl => ?_⟩
 ·by_cases e : j = k
  ·subst e
   have hy : some x' = some y := by rw [← hy]; exact (Zaf _ _ _).symm
   cases hy
   exact hb hs
  ·have hy : s.tb j = some y := by rw [← hy]; exact (Zaw _ _ e).symm
   exact (hc.blks j y hy).keepK (fun _ _ => rfl) hs (fun _ _ _ j _ => hkept j) (Zaw _ _ e) (fun _ _ _ => rfl) (Nat.le_refl _)
 ·by_cases e : j = k
  ·subst e
   rw [Zaf, hv]
   exact hc.lent j hj hlk
  ·rw [Zaw _ _ e]
   exact hc.lent j hj (hlv j hl)
theorem Yke {base e n : Nat} {v : Value} {len : Nat} {xs : List Value} (h : w.ownsRow base e n v len xs) {b : Nat} : (RV.of v).fp b ↔ v.ownBlock = some b := by
 show Zdh v = some b ↔ _
 rcases h.2 with ⟨e1, e2⟩ | ⟨g, cap, cur, e1, _⟩ <;> rw [e1] <;> exact Iff.rfl
theorem Ya4 {k e n y : Nat} {v : Value} {l : List PD} (hk : s.tb k = some (.res (Zg8 v e n y l))) (h : Run P X N Q ks (s.set k (.row e n y l))) : Run P X N Q ks s := Zfc (fun a w ⟨ρ, hc⟩ => by
 obtain ⟨⟨e1, ⟨xs, q1, q2, q3, q4⟩, q5⟩, q6⟩ := hc.blks k _ hk
 have ho : ∀ b, (RV.of (ρ k).v).fp b → (ρ k).fp b := fun b hb => (q5 b).2 (by rw [← e1]; exact (Yke q1).1 hb)
 refine ⟨_, hc.swap (x' := .row e n y l) (r := RV.of (ρ k).v) hk (.inr rfl) (.inl rfl) rfl ho fun hF => ?_⟩
 refine ⟨xs, by rw [Zaf]; rfl, fun b hb => ?_, ?_, q2.keep (fun _ _ => rfl) hF, q3, q4⟩
 ·rw [Zaf] at hb
  exact (q6 b ((q5 b).2 (by rw [← e1]; exact hb))).1
 ·rw [Zaf]
  refine ⟨q1.1, q1.2.imp id ?_⟩
  rintro ⟨g, cap, cur, f1, _, r⟩
  exact ⟨g, cap, cur, f1, Base.mayB (q6 g ((q5 g).2 (by rw [← e1, f1]; rfl))).1, r⟩) h
theorem Yi7 {k e n y : Nat} {v : Value} {l : List PD} (hk : s.tb k = some (.res (Zg8 v e n y l))) (hk1 : 1000 ≤ k) (h : X.rv k = v → Run P X N Q ks s) : Run P X N Q ks s := ⟨fun hN a w hc => by
 obtain ⟨ρ, hc⟩ := hc
 have e1 := (hc.blks k _ hk).1.1
 have e2 := hc.lent k hk1 (by rw [hk]; rfl)
 exact (h (e2.symm.trans e1)).out hN a w ⟨ρ, hc⟩⟩
theorem Yfo {k e n y : Nat} {v : Value} {l : List PD} (hk : s.tb k = some (.row e n y l)) (hk1 : 1000 ≤ k) (hv : X.rv k = v) (h : Run P X N Q ks (s.set k (.res (Zg8 v e n y l)))) : Run P X N Q ks s := Zfc (fun a w ⟨ρ, hc⟩ => by
 obtain ⟨xs, q0, qm, q1, q2, q3, q4⟩ := hc.blks k _ hk
 have e2 : (ρ k).v = v := (hc.lent k hk1 (by rw [hk]; rfl)).trans hv
 refine ⟨_, hc.swap (x' := .res (Zg8 v e n y l)) (r := ρ k) hk (.inl rfl) (.inr rfl) rfl (fun b h => h) fun hF => ?_⟩
 have hfp : ∀ b, (ρ k).fp b ↔ v.ownBlock = some b := fun b => by rw [q0, Yke q1, e2]
 refine ⟨?_, fun b hb => ?_⟩
 ·rw [Zaf]
  refine ⟨e2, ⟨xs, ?_, q2.keep (fun _ _ => rfl) hF, q3, q4⟩, hfp⟩
  refine ⟨q1.1, q1.2.imp id ?_⟩
  rintro ⟨g, cap, cur, f1, _, r⟩
  exact ⟨g, cap, cur, f1, Nat.zero_le _, r⟩
 ·rw [Zaf] at hb
  exact hc.rowBlk hk rfl hb) h
theorem Zn0 {F : Nat → Prop} {n : Nat} {d : PD} : ∀ {l : List PD} {xs : List Value} {i : Nat}, Groups w F n l xs → l[i]? = some d → ∃ u, Rep w F d u ∧ u.cells.toList.length = n ∧ ∀ j c, u.cells.toList[j]? = some c → xs[i * n + j]? = some c
 | [], xs, i, _, h => by simp at h
 | d0 :: r, xs, i, hg, h => by
  obtain ⟨u, ys, rfl, hu, hn, h1, hr⟩ := hg
  cases i with
  | zero =>
   simp only [List.getElem?_cons_zero, Option.some.injEq] at h
   subst h
   refine ⟨u, hu, hn, fun j c hj => ?_⟩
   rw [Nat.zero_mul, Nat.zero_add, List.getElem?_append_left (List.getElem?_eq_some_iff.1 hj).1]
   exact hj
  | succ i =>
   obtain ⟨u2, h2, h3, h4⟩ := Zn0 hr (i := i) (by simpa using h)
   refine ⟨u2, h2, h3, fun j c hj => ?_⟩
   rw [show (i + 1) * n + j = u.cells.toList.length + (i * n + j) by rw [hn, Nat.succ_mul]; omega, List.getElem?_append_right (Nat.le_add_right _ _), Nat.add_sub_cancel_left]
   exact h4 j c hj
theorem Yit {o : Oper} (hd : Za7 X.N o.dst = true) {t : TypeId} {x : Operand} (ho : o.op = .load t x) {k e n y i : Nat} {l : List PD} {ds : List PD} (hx : s.ev x = .elt k n i 0) (hk : s.tb k = some (.row e n y l)) (ht : Zqy P t = some (n, true)) (hl : l[i]? = some (.agg ds)) :
  OpS P X o s (s.put o.dst (.dat (.agg ds))) := by
 refine Zas hd fun a w ρ hc => ?_
 have h2 := hc.ev x
 rw [hx] at h2
 unfold VR at h2
 obtain ⟨_, h2⟩ := h2
 obtain ⟨xs, e0, hm, how, hgr, hby, hln⟩ := hc.blks k _ hk
 rcases h2 with ⟨x', h5, h6, g, len, c, e3, e4⟩ | h5
 rotate_left
 ·rw [hk] at h5; cases h5
 obtain ⟨u, hu, hun, huc⟩ := Zn0 hgr hl
 rcases how.2 with ⟨e5, _⟩ | ⟨g', cap, cur, e1, hB, hg, hc1, hc4, hc2, hc3⟩
 ·rw [e3] at e5; cases e5
 rw [e3] at e1
 injection e1 with e1 _ _
 injection e1 with e1
 injection e1 with e1
 subst e1
 have hlies : Lies w g (i * n) u.cells.toList := fun j c hj => by
  have h7 := huc j c hj
  rw [cell_of_row w g (i * n + j) _ _ _ hg]
  rw [← hc3, List.getElem?_take] at h7
  split at h7
  ·simpa using h7
  ·cases h7
 have hu2 := hu
 unfold Rep at hu2
 obtain ⟨vs, e6, _, _⟩ := hu2
 have e7 : Value.agg u.cells = u := by rw [e6]; rfl
 refine ⟨u, ?_, by unfold VR; exact hu⟩
 have e4' : a.eval x = .pointer (some ⟨g, i * n, none⟩) := by rw [e4]; simp
 have hr := Zdx (P := P) (w := w) ht hun hlies
 rw [show u.cells.toList.toArray = u.cells by simp, e7] at hr
 simp [execOp, ho, e4', Instr.loadAt, Instr.sureAddr, hr]
theorem Ymh {d : Nat} {x : Operand} {t k e n y i : Nat} {l : List PD} {ds : List PD} (hN : Nat.blt d N = true) (hx : s.ev x = .elt k n i 0) (hk : s.tb k = some (.row e n y l)) [ht : VI P t n true] (hl : l[i]? = some (.agg ds)) (h : Run P X N Q (.ops opa rem :: ks) (s.put (some d) (.dat (.agg ds)))) : Zbo P X N Q opa rem ks (some d) (.load t x) s := Zd0 hN (fun _ _ _ hd => Yit hd rfl hx hk ht.out hl) h
end
theorem Zu6 {w : World} {F : Nat → Prop} : ∀ {l : List PD} {d : PD} {vs : List Value}, Reps w F (l ++ [d]) vs → ∃ vs' u, vs = vs' ++ [u] ∧ Reps w F l vs' ∧ Rep w F d u
 | [], d, vs, h => by
  unfold Reps at h
  obtain ⟨u, r, rfl, h1, h2⟩ := h
  unfold Reps at h2
  subst h2
  exact ⟨[], u, rfl, by unfold Reps; rfl, h1⟩
 | x :: l, d, vs, h => by
  simp only [List.cons_append] at h
  unfold Reps at h
  obtain ⟨v, r, rfl, h1, h2⟩ := h
  obtain ⟨vs', u, rfl, h3, h4⟩ := Zu6 h2
  exact ⟨v :: vs', u, rfl, by unfold Reps; exact ⟨v, vs', rfl, h1, h3⟩, h4⟩
theorem Ye3 {w : World} {F : Nat → Prop} {base e n y : Nat} {v : Value} {l : List PD} {xs : List Value} (h1 : w.ownsRow base e n v l.length xs) (h2 : Groups w F n l xs) (h3 : l.length * y ≤ 140737488351232) (h4 : l.length ≤ 140737488351232) (hO : ∀ b, v.ownBlock = some b → F b) : Rep w F (.sl n y l) v := by
 unfold Rep
 rcases h1.2 with ⟨e1, e2⟩ | ⟨g, cap, cur, e1, hB, hg, hc1, _, hc2, hc3⟩
 ·exact ⟨none, 0, by rw [e1, e2], by omega, h3, h4, .inl (List.eq_nil_of_length_eq_zero e2)⟩
 ·refine ⟨some ⟨g, 0, none⟩, cap, e1, hc1, h3, h4, .inr ⟨g, 0, hO g (by rw [e1]; rfl), rfl, ?_⟩⟩
  refine h2.lies fun j u hj => ?_
  rw [cell_of_row w g (0 + j) _ _ _ hg]
  rw [← hc3, List.getElem?_take] at hj
  split at hj
  ·simpa using hj
  ·cases hj
theorem Zg5 {w : World} {base e n : Nat} {v : Value} {len : Nat} {xs : List Value} (h1 : w.ownsRow base e n v len xs) : v.oneCell' = true := by
 rcases h1.2 with ⟨e1, e2⟩ | ⟨g, cap, cur, e1, _⟩ <;> rw [e1] <;> rfl
theorem Zjs : ∀ l : List (PEV × ST PEV), (Zau l).length = l.length
 | [] => by unfold Zau; rfl
 | y :: r => by unfold Zau; simp [Zjs r]
section
variable {w : World} {F F' : Nat → Prop}
mutual
/-- A set in memory, as data. -/
theorem TreeAt.rep (hs : ∀ b, F b → F' b) : ∀ (t : ST PEV) {b : Nat} {O : Nat → Prop}, (∀ x, O x → F' x) → TreeAt w F t b O → ∃ sm sc, w.heap[b]? = some (.cells #[sm, sc] 122 (0, 0)) ∧ Rep w F' (Zaz t) (.agg #[sm, sc]) ∧ sm.oneCell' = true ∧ sc.oneCell' = true ∧ O b
 | .mk m ch, b, O, hO, hv => by
  unfold TreeAt at hv
  obtain ⟨sm, sc, bs, Ok, h1, ⟨xs, a1, a2, a3, a4⟩, ⟨ys, c1, c2, c3, c4⟩, h4, h5, _⟩ := hv
  refine ⟨sm, sc, h1, ?_, Zg5 a1, Zg5 c1, (h5 b).2 (.inl rfl)⟩
  have r1 := Ye3 a1 (a2.keep (fun _ _ => rfl) hs) a3 a4 fun x hx => hO x ((h5 x).2 (.inr (.inl hx)))
  have hlen := h4.len
  have hn : (((ch.map (·.1)).zip bs).map Zr8).length = (Zau ch).length := by rw [Zjs]; simp [hlen]
  rw [hn] at c1 c3 c4
  have r2 := Ye3 c1 (KidsAt.rep hs ch (fun x hx => hO x ((h5 x).2 (.inr (.inr (.inr hx))))) h4 c2) c3 c4 fun x hx => hO x ((h5 x).2 (.inr (.inr (.inl hx))))
  unfold Zaz Rep
  refine ⟨[sm, sc], rfl, ?_, fun u hu => ?_⟩
  ·unfold Reps
   refine ⟨sm, [sc], rfl, r1, ?_⟩
   unfold Reps
   exact ⟨sc, [], rfl, r2, by unfold Reps; rfl⟩
  ·rcases List.mem_cons.1 hu with rfl | hu
   ·exact Zg5 a1
   ·rw [List.mem_singleton] at hu; rw [hu]; exact Zg5 c1
theorem KidsAt.rep (hs : ∀ b, F b → F' b) : ∀ (l : List (PEV × ST PEV)) {bs : List Nat} {O : Nat → Prop} {xs : List Value}, (∀ x, O x → F' x) → KidsAt w F l bs O → Groups w F 5 (((l.map (·.1)).zip bs).map Zr8) xs → Groups w F' 5 (Zau l) xs
 | [], bs, O, xs, hO, hv, hg => by unfold Zau; exact hg
 | y :: r, bs, O, xs, hO, hv, hg => by
  unfold KidsAt at hv
  obtain ⟨b, bs', O1, O2, rfl, h2, h3, h4, h5⟩ := hv
  simp only [List.map_cons, List.zip_cons_cons] at hg
  obtain ⟨u, ys, rfl, g1, g2, g3, g4⟩ := hg
  unfold Zau
  refine ⟨u, ys, rfl, ?_, g2, g3, KidsAt.rep hs r (fun x hx => hO x ((h4 x).2 (.inr hx))) h3 g4⟩
  obtain ⟨sm, sc, t1, t2, t3, t4, t5⟩ := TreeAt.rep hs y.2 (fun x hx => hO x ((h4 x).2 (.inl hx))) h2
  unfold Zr8 Rep at g1
  obtain ⟨vs, rfl, g5, g6⟩ := g1
  obtain ⟨vs', v, rfl, g7, g8⟩ := Zu6 g5
  unfold Rep at g8
  unfold Rep
  refine ⟨vs' ++ [v], rfl, (Reps.keep (w' := w) (fun _ _ => rfl) hs _ g7).append ?_, g6⟩
  unfold Reps
  refine ⟨v, [], rfl, ?_, by unfold Reps; rfl⟩
  unfold Rep
  refine ⟨b, 0, .agg #[sm, sc], g8.1, hO b ((h4 b).2 (.inl t5)), t2, ?_⟩
  have hl := Ze9 (vs := [sm, sc]) t1 0
  simpa [Value.cells] using hl
end
theorem TreeAt.congr {t : ST PEV} {b : Nat} {O O' : Nat → Prop} (h : ∀ x, O' x ↔ O x) (hv : TreeAt w F t b O) : TreeAt w F t b O' := by
 cases t with
 | mk m ch =>
  unfold TreeAt at hv ⊢
  obtain ⟨sm, sc, bs, Ok, h1, h2, h3, h4, h5, h6⟩ := hv
  exact ⟨sm, sc, bs, Ok, h1, h2, h3, h4, fun x => (h x).trans (h5 x), h6⟩
end
def slS (b : Nat) : Value := .slice (some ⟨b, 0, none⟩) 1 1
def Zbt (b : Nat) (t : ST PEV) : Res where
 rel w F O v := v = slS b ∧ TreeAt w F t b O
 d := .sl 2 48 [Zaz t]
 one := by rintro w F O v ⟨rfl, _⟩; rfl
 keep := fun w w' F F' O v h hs hO ⟨e, ht⟩ => ⟨e, TreeAt.keep h hs t hO ht⟩
 frz := by
  rintro w F O F' v hs hO ⟨rfl, ht⟩
  obtain ⟨sm, sc, t1, t2, t3, t4, t5⟩ := ht.rep hs t hO
  unfold Rep
  refine ⟨some ⟨b, 0, none⟩, 1, rfl, by simp, by simp, by simp, .inr ⟨b, 0, hO b t5, rfl, ?_⟩⟩
  unfold RepL
  refine ⟨⟨.agg #[sm, sc], t2, rfl, fun c hc => ?_, ?_⟩, by unfold RepL; trivial⟩
  ·have hc : c ∈ [sm, sc] := hc
   rcases List.mem_cons.1 hc with rfl | hu
   ·exact t3
   ·rw [List.mem_singleton] at hu; rw [hu]; exact t4
  ·have hl := Ze9 (vs := [sm, sc]) t1 0
   simpa [Value.cells] using hl
def Yor (w : World) (F O : Nat → Prop) (b' : Nat) (g : ST PEV → ST PEV) (b : Nat) : Prop :=
 ∀ (w' : World) (F' : Nat → Prop) (t' : ST PEV) (O' : Nat → Prop), (∀ x, F x → w'.heap[x]? = w.heap[x]?) → (∀ x, F x → F' x) → (∀ x, O x → w'.heap[x]? = w.heap[x]?) → TreeAt w' F' t' b' O' → (∀ x, O x → ¬ O' x) → TreeAt w' F' (g t') b (fun x => O x ∨ O' x)
def Yse : Opq where
 rel _ _ v := v.oneCell' = true
 one := fun _ _ _ h => h
 keep := fun _ _ _ _ _ _ _ h => h
def Zei (b' : Nat) (g : ST PEV → ST PEV) (b : Nat) : Res where
 rel w F O v := v = slS b ∧ Yor w F O b' g b
 d := .opq Yse
 one := by rintro w F O v ⟨rfl, _⟩; rfl
 keep := fun w w' F F' O v h hs hO ⟨e, ht⟩ => ⟨e, fun w2 F2 t' O' h1 h2 h3 h4 h5 => ht w2 F2 t' O' (fun x hx => (h1 x (hs x hx)).trans (h x hx)) (fun x hx => h2 x (hs x hx)) (fun x hx => (h3 x hx).trans (hO x hx)) h4 h5⟩
 frz := by
  rintro w F O F' v hs hO ⟨rfl, ht⟩
  unfold Rep
  rfl
theorem Yji {w : World} {F : Nat → Prop} {b : Nat} (h : w.heap[b]? = some (.cells #[.slice none 0 0, .slice none 0 0] 122 (0, 0))) : TreeAt w F (.mk [] []) b (fun x => x = b) := by
 unfold TreeAt
 refine ⟨.slice none 0 0, .slice none 0 0, [], fun _ => False, h, ⟨[], ⟨rfl, .inl ⟨rfl, rfl⟩⟩, rfl, by simp, by simp⟩, ⟨[], ⟨rfl, .inl ⟨rfl, rfl⟩⟩, rfl, by simp, by simp⟩, by unfold KidsAt; exact ⟨rfl, fun _ h => h⟩, fun x => ?_, ?_⟩
 ·simp [Value.ownBlock]
 ·simp [Value.ownBlock]
section
variable {P : Program} {X : Base} {N : Nat} {ops : List Oper} {s s' : Sta} {a : Act} {w : World} {ρ : Nat → RV}
theorem ConcAt.reput {d : Nat} (hd : d < X.N) {x y : AV} {v u : Value} (h : ConcAt X (s.put (some d) x) (a.put (some d) v) w ρ) (hy : VR w (FF X w s.tb ρ) s.tb ρ y u) : ConcAt X (s.put (some d) y) (a.put (some d) u) w ρ := by
 have h2 := h.put hd (x := y) (v := u) hy
 have e1 : (s.put (some d) x).put (some d) y = s.put (some d) y := by
  have : upd (upd s.tm d x) d y = upd s.tm d y := by
   funext t
   unfold upd
   split
   ·rfl
   ·rfl
  show ({ tm := upd (upd s.tm d x) d y, tb := _ } : Sta) = { tm := _, tb := _ }
  rw [this]
  rfl
 have e2 : (a.put (some d) v).put (some d) u = a.put (some d) u := by
  simp [Act.put]
 rwa [e1, e2] at h2
theorem Yj5 {d : Nat} {x : Operand} (y : Nat → AV) (hy : ∀ b w F tb ρ, tb d = some (.res (Zbt b (.mk [] []))) → (ρ d).v = slS b → VR w F tb ρ (y b) (adr b)) (hN : Nat.blt d N = true) (hd0 : s.tb d = none) (hx : s.ev x = .dat (.agg [.val (.slice none 0 0), .val (.slice none 0 0)])) :
  TrI P X N ops (some d) (.box 122 x) (fun b : Nat => Eff.new d (.res (Zbt b (.mk [] []))) (y b)) s := ⟨fun hX ty pos aft s' hA a w ⟨ρ, hc⟩ K Q' hK => by
 have hd : d < X.N := by rw [hX.1]; exact Nat.blt_eq.mp hN
 have h1 := hc.ev x
 rw [Zfg (hA 0) (by simp [Op.operands]), hx] at h1
 have hd0' : s'.tb d = none := (Zin (hA 0) rfl).trans hd0
 have he : a.eval x = .agg #[.slice none 0 0, .slice none 0 0] := by
  unfold VR Rep at h1
  obtain ⟨vs, e, h2, _⟩ := h1
  rw [e]
  unfold Reps at h2
  obtain ⟨v, r, rfl, h3, h2⟩ := h2
  unfold Reps at h2
  obtain ⟨v2, r2, rfl, h4, h2⟩ := h2
  unfold Reps at h2
  subst h2
  unfold Rep at h3 h4
  rw [h3.1, h4.1]
 have h2 := hc.newRes (d := d) hd hd0' (o := .cells #[.slice none 0 0, .slice none 0 0] 122) (R := Zbt w.heap.size (.mk [] [])) (v := slS w.heap.size) fun F => ⟨rfl, Yji (by show (w.heap.push _)[w.heap.size]? = _; exact Array.getElem?_push_size)⟩
 have hr : (execOp a.eval ⟨some d, .box 122 x, ty, pos, aft, none⟩).run P w = .ok (.value (.pointer (some ⟨w.heap.size, 0, none⟩))) (w.alloc (.cells #[.slice none 0 0, .slice none 0 0] 122)) := by
  simp [execOp, Instr.box, newVar, newRow, he, Value.cells]
 have h3 := ConcAt.reput (s := { s' with tb := upd s'.tb d (some (.res (Zbt w.heap.size (.mk [] [])))) }) hd h2 (hy w.heap.size _ _ _ _ (Zaf _ _ _) (by rw [Zaf]))
 refine Zea hr ?_
 exact hK (a.put (some d) (adr w.heap.size)) _ w.heap.size ⟨_, h3⟩⟩
end
def dN (e : PEV × PD) : PD := .agg (peC e.1 ++ [e.2])
theorem Ylv (x : PEV × PD) (p : PEV) : PCall Tryz.prog 219 [dN x, Zav p] (.val (.int .i64 (Zae x.1 p))) := by
 have c := Zgn x.1 p
 obtain ⟨d0, d1, d2, d3, e⟩ := Zej x.1
 obtain ⟨u0, u1, u2, u3, e'⟩ := Zcm p
 unfold dN
 rw [Zp1 x.1, e, e'] at c
 rw [e, e']
 refine Zaa Tryz.func219 rfl Tryz.ntmps219 rfl (fun X => ?_)
 exact wke
/-- slices.BinarySearchFunc over set nodes. -/
theorem Ygr (m : List (PEV × PD)) (p : PEV) (hl : ∀ x ∈ m.map (·.1), OPE x) (hp : OPE p) (hs : Srt Zae (m.map (·.1))) :
  PCall Tryz.prog 158 [.sl 5 40 (m.map dN), Zav p, .val (.func (.func 219) #[] #[])] (.tup [.val (.int .i64 ((Zbc Zae (m.map (·.1)) p : Nat) : Int)), .val (.bool (Ze8 Zae (m.map (·.1)) p))]) := by
 refine Zbf fun hfit => ?_
 have b1 := (hfit (.sl 5 40 (m.map dN)) (by simp)).sl.2.1
 clear hfit
 have n1 : (m.map dN).length = m.length := by simp
 have ga : ∀ {z : Int} {i : Nat} {x : PEV × PD}, z = (i : Int) → m[i]? = some x → (m.map dN)[z.toNat]? = some (dN x) := fun hz h => by subst hz; simp [h]
 have gk : ∀ {i : Nat} {x : PEV × PD}, m[i]? = some x → (m.map (·.1))[i]? = some x.1 := fun h => by simp [h]
 rw [n1] at b1
 generalize m.map dN = da at *
 have hF := fun x => Ylv x p
 obtain ⟨u0, u1, u2, u3, e'⟩ := Zcm p
 rw [e'] at hF ⊢
 have hlo := fun (i : Nat) (x : PEV × PD) (h : i < Zbc Zae (m.map (·.1)) p) (hx : m[i]? = some x) => Zog (m.map (·.1)) p i x.1 h (gk hx)
 have hhi := fun (i : Nat) (x : PEV × PD) (h : Zbc Zae (m.map (·.1)) p ≤ i) (hx : m[i]? = some x) => Zof ordPE hl hp hs i x.1 h (gk hx)
 have hle := Zjy (c := Zae) (m.map (·.1)) p
 rw [List.length_map] at hle
 rw [Znt]
 generalize hloc : Zbc Zae (m.map (·.1)) p = loc at *
 clear hs
 refine Zaa Tryz.func158 rfl Tryz.ntmps158 rfl (fun X => ?_)
 refine wk ?_
 refine Zaq (ι := { j : Nat × Nat // j.1 ≤ loc ∧ loc ≤ j.2 ∧ j.2 ≤ m.length })
  (fun j => [(0, .dat (.sl 5 40 da)), (2, .dat (.val (.func (.func 219) #[] #[]))), (4, .ptr 4 0), (8, .dat (.val (.int .i64 ((da.length : Nat) : Int)))), (9, .dat (.val (.int .i64 (j.1.1 : Nat)))), (10, .dat (.val (.int .i64 (j.1.2 : Nat))))])
  (fun _ => [(4, .box 99 (Zap (.agg [u0, u1, u2, u3])))]) (fun j => j.1.2 - j.1.1) ⟨(0, da.length), Nat.zero_le _, by rw [n1]; exact hle, by rw [n1]; exact Nat.le_refl _⟩ id ?_ ?_
 ·exact sb
 rintro ⟨⟨lo, hi⟩, h1, h2, h3⟩
 simp only at h1 h2 h3
 simp only
 by_cases hlt : lo < hi
 ·have g1 : decide ((lo : Int) < (hi : Int)) = true := decide_eq_true (by omega)
  obtain ⟨h, hh⟩ : ∃ h, h = (lo + hi) / 2 := ⟨_, rfl⟩
  have w1 : IntKind.u64.wrap ((lo : Int) + (hi : Int)) = (lo : Int) + (hi : Int) := by
   simp [IntKind.wrap, IntKind.signed, IntKind.bits]; omega
  have w2 : ((lo : Int) + (hi : Int)) / 2 = ((h : Nat) : Int) := by omega
  have w3 : IntKind.i64.wrap ((h : Nat) : Int) = ((h : Nat) : Int) := by rw [IntKind.wrap_i64]; omega
  have w4 : (Lit.int .u64 ((h : Nat) : Int)).wf = true := by
   simp [Lit.wf, IntKind.min, IntKind.max, IntKind.signed, IntKind.bits]; omega
  obtain ⟨x, hx⟩ : ∃ x, m[h]? = some x := ⟨_, List.getElem?_eq_getElem (by omega)⟩
  have i1 := ga (z := ((h : Nat) : Int)) rfl hx
  have cF := hF x
  obtain ⟨k, v⟩ := x
  obtain ⟨d0, d1, d2, d3, ek⟩ := Zej k
  unfold dN at i1 cF
  rw [ek] at i1 cF
  by_cases hc : Zae k p < 0
  ·have g2 : decide (Zae k p < 0) = true := decide_eq_true hc
   have hb : h < loc := by
    refine Nat.lt_of_not_le fun hn => hhi h _ hn hx hc
   clear hlo hhi hF hloc
   refine wk ?_
   refine Zah ?_
   refine ⟨⟨(h + 1, hi), by simp only; omega, by simp only; omega, h3⟩, id, by simp only; omega, ?_⟩
   exact sb
  ·have g2 : decide (Zae k p < 0) = false := decide_eq_false hc
   have hb : loc ≤ h := by
    refine Nat.le_of_not_lt fun hn => hc (hlo h _ hn hx)
   clear hlo hhi hF hloc
   refine wk ?_
   refine Zah ?_
   refine ⟨⟨(lo, h), h1, hb, by simp only; omega⟩, id, by simp only; omega, ?_⟩
   exact sb
 ·have g1 : decide ((lo : Int) < (hi : Int)) = false := decide_eq_false (by omega)
  obtain rfl : lo = loc := by omega
  by_cases hin : lo < m.length
  ·have g2 : decide ((lo : Int) < ((da.length : Nat) : Int)) = true := decide_eq_true (by omega)
   obtain ⟨x, hx⟩ : ∃ x, m[lo]? = some x := ⟨_, List.getElem?_eq_getElem hin⟩
   have i1 := ga (z := ((lo : Nat) : Int)) rfl hx
   have cF := hF x
   rw [gk hx]
   obtain ⟨k, v⟩ := x
   obtain ⟨d0, d1, d2, d3, ek⟩ := Zej k
   unfold dN at i1 cF
   rw [ek] at i1 cF
   simp only
   clear hlo hhi hF hloc
   exact wke
  ·have g2 : decide ((lo : Int) < ((da.length : Nat) : Int)) = false := decide_eq_false (by omega)
   rw [List.getElem?_eq_none (by rw [List.length_map]; omega)]
   simp only
   exact wke
theorem Zwa (x : PEV × PD) (p : PEV) : PCall Tryz.prog 159 [dN x, Zav p] (.val (.int .i64 (Zae x.1 p))) := by
 have c := Zgn x.1 p
 obtain ⟨d0, d1, d2, d3, e⟩ := Zej x.1
 obtain ⟨u0, u1, u2, u3, e'⟩ := Zcm p
 unfold dN
 rw [Zp1 x.1, e, e'] at c
 rw [e, e']
 refine Zaa Tryz.func159 rfl Tryz.ntmps159 rfl (fun X => ?_)
 exact wke
/-- slices.BinarySearchFunc over set nodes. -/
theorem Zl9 (m : List (PEV × PD)) (p : PEV) (hl : ∀ x ∈ m.map (·.1), OPE x) (hp : OPE p) (hs : Srt Zae (m.map (·.1))) :
  PCall Tryz.prog 158 [.sl 5 40 (m.map dN), Zav p, .val (.func (.func 159) #[] #[])] (.tup [.val (.int .i64 ((Zbc Zae (m.map (·.1)) p : Nat) : Int)), .val (.bool (Ze8 Zae (m.map (·.1)) p))]) := by
 refine Zbf fun hfit => ?_
 have b1 := (hfit (.sl 5 40 (m.map dN)) (by simp)).sl.2.1
 clear hfit
 have n1 : (m.map dN).length = m.length := by simp
 have ga : ∀ {z : Int} {i : Nat} {x : PEV × PD}, z = (i : Int) → m[i]? = some x → (m.map dN)[z.toNat]? = some (dN x) := fun hz h => by subst hz; simp [h]
 have gk : ∀ {i : Nat} {x : PEV × PD}, m[i]? = some x → (m.map (·.1))[i]? = some x.1 := fun h => by simp [h]
 rw [n1] at b1
 generalize m.map dN = da at *
 have hF := fun x => Zwa x p
 obtain ⟨u0, u1, u2, u3, e'⟩ := Zcm p
 rw [e'] at hF ⊢
 have hlo := fun (i : Nat) (x : PEV × PD) (h : i < Zbc Zae (m.map (·.1)) p) (hx : m[i]? = some x) => Zog (m.map (·.1)) p i x.1 h (gk hx)
 have hhi := fun (i : Nat) (x : PEV × PD) (h : Zbc Zae (m.map (·.1)) p ≤ i) (hx : m[i]? = some x) => Zof ordPE hl hp hs i x.1 h (gk hx)
 have hle := Zjy (c := Zae) (m.map (·.1)) p
 rw [List.length_map] at hle
 rw [Znt]
 generalize hloc : Zbc Zae (m.map (·.1)) p = loc at *
 clear hs
 refine Zaa Tryz.func158 rfl Tryz.ntmps158 rfl (fun X => ?_)
 refine wk ?_
 refine Zaq (ι := { j : Nat × Nat // j.1 ≤ loc ∧ loc ≤ j.2 ∧ j.2 ≤ m.length })
  (fun j => [(0, .dat (.sl 5 40 da)), (2, .dat (.val (.func (.func 159) #[] #[]))), (4, .ptr 4 0), (8, .dat (.val (.int .i64 ((da.length : Nat) : Int)))), (9, .dat (.val (.int .i64 (j.1.1 : Nat)))), (10, .dat (.val (.int .i64 (j.1.2 : Nat))))])
  (fun _ => [(4, .box 99 (Zap (.agg [u0, u1, u2, u3])))]) (fun j => j.1.2 - j.1.1) ⟨(0, da.length), Nat.zero_le _, by rw [n1]; exact hle, by rw [n1]; exact Nat.le_refl _⟩ id ?_ ?_
 ·exact sb
 rintro ⟨⟨lo, hi⟩, h1, h2, h3⟩
 simp only at h1 h2 h3
 simp only
 by_cases hlt : lo < hi
 ·have g1 : decide ((lo : Int) < (hi : Int)) = true := decide_eq_true (by omega)
  obtain ⟨h, hh⟩ : ∃ h, h = (lo + hi) / 2 := ⟨_, rfl⟩
  have w1 : IntKind.u64.wrap ((lo : Int) + (hi : Int)) = (lo : Int) + (hi : Int) := by
   simp [IntKind.wrap, IntKind.signed, IntKind.bits]; omega
  have w2 : ((lo : Int) + (hi : Int)) / 2 = ((h : Nat) : Int) := by omega
  have w3 : IntKind.i64.wrap ((h : Nat) : Int) = ((h : Nat) : Int) := by rw [IntKind.wrap_i64]; omega
  have w4 : (Lit.int .u64 ((h : Nat) : Int)).wf = true := by
   simp [Lit.wf, IntKind.min, IntKind.max, IntKind.signed, IntKind.bits]; omega
  obtain ⟨x, hx⟩ : ∃ x, m[h]? = some x := ⟨_, List.getElem?_eq_getElem (by omega)⟩
  have i1 := ga (z := ((h : Nat) : Int)) rfl hx
  have cF := hF x
  obtain ⟨k, v⟩ := x
  obtain ⟨d0, d1, d2, d3, ek⟩ := Zej k
  unfold dN at i1 cF
  rw [ek] at i1 cF
  by_cases hc : Zae k p < 0
  ·have g2 : decide (Zae k p < 0) = true := decide_eq_true hc
   have hb : h < loc := by
    refine Nat.lt_of_not_le fun hn => hhi h _ hn hx hc
   clear hlo hhi hF hloc
   refine wk ?_
   refine Zah ?_
   refine ⟨⟨(h + 1, hi), by simp only; omega, by simp only; omega, h3⟩, id, by simp only; omega, ?_⟩
   exact sb
  ·have g2 : decide (Zae k p < 0) = false := decide_eq_false hc
   have hb : loc ≤ h := by
    refine Nat.le_of_not_lt fun hn => hc (hlo h _ hn hx)
   clear hlo hhi hF hloc
   refine wk ?_
   refine Zah ?_
   refine ⟨⟨(lo, h), h1, hb, by simp only; omega⟩, id, by simp only; omega, ?_⟩
   exact sb
 ·have g1 : decide ((lo : Int) < (hi : Int)) = false := decide_eq_false (by omega)
  obtain rfl : lo = loc := by omega
  by_cases hin : lo < m.length
  ·have g2 : decide ((lo : Int) < ((da.length : Nat) : Int)) = true := decide_eq_true (by omega)
   obtain ⟨x, hx⟩ : ∃ x, m[lo]? = some x := ⟨_, List.getElem?_eq_getElem hin⟩
   have i1 := ga (z := ((lo : Nat) : Int)) rfl hx
   have cF := hF x
   rw [gk hx]
   obtain ⟨k, v⟩ := x
   obtain ⟨d0, d1, d2, d3, ek⟩ := Zej k
   unfold dN at i1 cF
   rw [ek] at i1 cF
   simp only
   clear hlo hhi hF hloc
   exact wke
  ·have g2 : decide ((lo : Int) < ((da.length : Nat) : Int)) = false := decide_eq_false (by omega)
   rw [List.getElem?_eq_none (by rw [List.length_map]; omega)]
   simp only
   exact wke
theorem Tryz.infoPN : ∃ i, Tryz.prog.info? 224 = some i ∧ i.zero = some (.agg #[.pointer none, .pointer none, .pointer none, .pointer none, .pointer none]) ∧ i.size = 5 ∧ i.bytes = 40 := by
 have h : (Tryz.prog.info? 224).map (fun i => (i.zero, i.size, i.bytes)) = some (some (.agg #[.pointer none, .pointer none, .pointer none, .pointer none, .pointer none]), 5, 40) := by kernel_rfl
 cases hq : Tryz.prog.info? 224 with
 | none => rw [hq] at h; cases h
 | some i =>
  rw [hq] at h
  simp only [Option.map_some, Option.some.injEq, Prod.mk.injEq] at h
  exact ⟨i, rfl, h.1, h.2.1, h.2.2⟩
/-- At the end. -/
theorem Ydl (w : World) (base : Nat) (v : Value) (g2 c2 len : Nat) (xs news : List Value) (hv : w.ownsRow base 224 5 v len xs) (hu : w.ownsRow base 224 5 (.slice (some ⟨g2, 0, none⟩) 1 c2) 1 news)
  (hb : (len + 1) * 40 ≤ 140737488351232) (hl : len + 1 ≤ 140737488351232) (hw : base ≤ w.heap.size) (h1 : ∀ c ∈ news, c.oneCell' = true) :
  Calls Tryz.prog 161 #[v, .int .i64 (len : Int), .slice (some ⟨g2, 0, none⟩) 1 c2] w fun e' w' => ∃ v', e' = .returned v' ∧ w'.ownsRow base 224 5 v' (len + 1) (xs ++ news) ∧ w.grownBy w' v.ownBlock ∧ (∀ b, Zdh v' = some b → w.heap.size ≤ b ∨ v.ownBlock = some b) := by
 obtain ⟨inf, hi, hz, hs, hy⟩ := Tryz.infoPN
 have hnews : news.length = 1 * 5 := hu.1
 have hlies : Lies w g2 0 news := fun j u hj => by
  have := hu.cells (g := g2) rfl j u hj
  rwa [Zb5] at this
 obtain ⟨v', w', hr, r1, r2, r3⟩ := Zfk (P := Tryz.prog) base 118 118 224 inf _ 5 40 Tryz.underlying118 hi hz hs hy rfl (by omega) hv (ad := some ⟨g2, 0, none⟩) (m := 1) (c := c2) hnews (.inr ⟨g2, 0, rfl, hlies⟩) h1 (by unfold maxLen; omega) (by omega) hw
 obtain ⟨a, c, rfl⟩ : ∃ a c, v = .slice a len c := by
  rcases hv.2 with ⟨rfl, rfl⟩ | ⟨g, cap, cur, rfl, _⟩
  ·exact ⟨_, _, rfl⟩
  ·exact ⟨_, _, rfl⟩
 have hc : len ≤ c := by
  rcases hv.2 with ⟨e, e2⟩ | ⟨g, cap, cur, e, _, _, h, _⟩
  ·omega
  ·injection e with _ _ e; omega
 rw [← Zl8 Tryz.underlying118 Tryz.underlying117] at hr
 have HR := Lib.hid (And.intro r1 (And.intro r2 r3))
 clear r1 r2 r3 hv hu hlies
 generalize (Value.slice a len c).ownBlock = ob at *
 go_enter Tryz.func161, Tryz.ntmps161
 go_wp2_with (at_builtin; refine Lib.wpList_append_run _ rfl _ _ _ _ rfl _ _ rfl rfl _ _ hr ?_)
 all_goals
  go_ret
  obtain ⟨r1, r2, r3⟩ := HR.out
  exact ⟨_, rfl, r1, r2, r3⟩
theorem ln1 {α : Type} (xs rest : List α) {p q r : Nat} (hp : p + 5 ≤ xs.length) (hq : p + 5 + r = xs.length + 5) (hq2 : q = p + 5 := by omega) : (xs ++ rest).take q ++ xs.drop p ++ (xs ++ rest).drop (q + r) = xs.take (p + 5) ++ xs.drop p ++ rest.drop 5 := by
 subst hq2
 have e : (xs ++ rest).drop (xs.length + 5) = rest.drop 5 := by
  rw [List.drop_append, List.drop_eq_nil_of_le (Nat.le_add_right _ _), List.nil_append, Nat.add_sub_cancel_left]
 rw [List.take_append_of_le_length hp, hq, e]
theorem ln2 {α : Type} (xs rest news : List α) {p : Nat} (hp : p + 5 ≤ xs.length) : (xs.take (p + 5) ++ xs.drop p ++ rest.drop 5).take p ++ news ++ (xs.take (p + 5) ++ xs.drop p ++ rest.drop 5).drop (p + 5) = xs.take p ++ news ++ xs.drop p ++ rest.drop 5 := by
 rw [List.append_assoc (xs.take (p + 5)), List.drop_left' (by simp; omega), List.take_append_of_le_length (by simp; omega), List.take_take, Nat.min_eq_left (by omega)]
 simp
/-- Ahead of others, where there is room. -/
theorem Yan (w : World) (base g cap g2 c2 len i : Nat) (cur : Array Value) (xs rest news : List Value) (hbg : base ≤ g) (hg : w.heap[g]? = some (.cells cur 224 (0, 0))) (hcm : cap ≤ maxLen) (hcs : cur.size = cap * 5) (hcur : cur.toList = xs ++ rest) (hxs : xs.length = len * 5)
  (hu : w.ownsRow base 224 5 (.slice (some ⟨g2, 0, none⟩) 1 c2) 1 news) (hne : g2 ≠ g) (hi : i < len) (hroom : len + 1 ≤ cap)
  (hl : len + 1 ≤ 140737488351232) (h1x : ∀ c ∈ xs, c.oneCell' = true) (h1 : ∀ c ∈ news, c.oneCell' = true) :
  Calls Tryz.prog 161 #[.slice (some ⟨g, 0, none⟩) len cap, .int .i64 (i : Int), .slice (some ⟨g2, 0, none⟩) 1 c2] w fun e' w' => ∃ v', e' = .returned v' ∧ w'.ownsRow base 224 5 v' (len + 1) (xs.take (i * 5) ++ news ++ xs.drop (i * 5)) ∧ w.grownBy w' (some g) ∧ (∀ b, Zdh v' = some b → w.heap.size ≤ b ∨ (some g) = some b) := by
 obtain ⟨inf, hinf, hz, hs, hy⟩ := Tryz.infoPN
 have hsz : (Tryz.prog.info? 224).map (·.size) = some 5 := by rw [hinf]; simp [hs]
 have hrl : rest.length = (cap - len) * 5 := by
  have := congrArg List.length hcur
  simp only [Array.length_toList, List.length_append] at this
  omega
 have hnews : news.length = 5 := by have := hu.1; omega
 obtain ⟨cur2, hg2, hc2⟩ : ∃ cur2, w.heap[g2]? = some (.cells cur2 224 (0, 0)) ∧ cur2.toList.take 5 = news ∧ cur2.size ≠ 0 := by
  rcases hu.2 with ⟨e, _⟩ | ⟨g', cap', cur', e, _, h1, h2, h3, h4, h5⟩
  ·cases e
  ·injection e with e1 _ _
   injection e1 with e1
   injection e1 with e1
   subst e1
   exact ⟨cur', h1, h5, by omega⟩
 have hlies : ∀ j u, news[j]? = some u → w.cell? ⟨g2, j, none⟩ = some u := fun j u hj => by
  refine Zg1 hg2 ?_
  rw [← hc2.1] at hj
  rw [List.getElem?_take] at hj
  split at hj
  ·exact hj
  ·cases hj
 have hov : ∀ o lb cb, (callFunc 214 #[.slice (some ⟨g2, 0, none⟩) 1 c2, .slice (some ⟨g, o, none⟩) lb cb]).run Tryz.prog w = .ok (.value (.bool false)) w := fun o lb cb => by
  rw [run_callFunc_extern (fn := Tryz.f214) Tryz.func214 (by kernel_rfl) (by kernel_rfl) (by kernel_rfl) (e := Extern.SlicesOverlaps.overlaps #[117, 117] #[4]) (by kernel_rfl),
   Lib.run_overlaps_apart w 117 4 224 Tryz.underlying117 5 (fun w => by simp [sizeOf, typeInfo, hinf, hs]) ⟨g2, 0, none⟩ ⟨g, o, none⟩ 1 c2 lb cb hne 224 224 cur2.size cur.size (by simp [World.shape?, hg2]) (by simp [World.shape?, hg]) (by omega) (by simp [World.frozen?, hg2]) (by simp [World.frozen?, hg2])]
  rfl
 obtain ⟨curA, hA⟩ : ∃ c : Array Value, c = (xs.take (i * 5 + 5) ++ xs.drop (i * 5) ++ rest.drop 5).toArray := ⟨_, rfl⟩
 obtain ⟨curB, hB⟩ : ∃ c : Array Value, c = (xs.take (i * 5) ++ news ++ xs.drop (i * 5) ++ rest.drop 5).toArray := ⟨_, rfl⟩
 have hdl : (xs.drop (i * 5)).length = (len - i) * 5 := by rw [List.length_drop, hxs]; omega
 have hmin1 : Nat.min (len + 1 - i) (len - i) = len - i := by simp only [Nat.min_def]; split <;> omega
 have hmin2 : Nat.min 1 (len + 1 - i) = 1 := by simp only [Nat.min_def]; split <;> omega
 have hcp1 : ∀ ty dc sc, (Builtin.copy_ #[118, 118] ty #[.slice (some ⟨g, (i + 1) * 5, none⟩) (len - i) dc, .slice (some ⟨g, i * 5, none⟩) (len + 1 - i) sc]).run Tryz.prog w.drew = .ok (goInt ((len - i : Nat) : Int)) (w.drew.setRow g curA) := fun ty dc sc => by
  have := Zcu (P := Tryz.prog) (w := w.drew) 118 118 ty 224 5 g ((i + 1) * 5) (len - i) dc ⟨g, i * 5, none⟩ (len + 1 - i) sc cur 224 (xs.drop (i * 5)) Tryz.underlying118 hsz hg (by rw [hmin1, hdl])
   (fun j u hj => by
    rw [Zb5]
    refine Zg1 (w := w.drew) hg ?_
    rw [List.getElem?_drop] at hj
    rw [hcur, List.getElem?_append_left (List.getElem?_eq_some_iff.1 hj).1]
    exact hj) (by rw [hdl, hcs]; omega) (fun u hu => h1x u (List.mem_of_mem_drop hu))
  rw [hmin1] at this
  rw [this, hA, hcur, hdl]
  congr 3
  exact ln1 xs rest (p := i * 5) (r := (len - i) * 5) (by omega) (by omega) (by omega)
 have hgA : (w.drew.setRow g curA).heap[g]? = some (.cells curA 224 (0, 0)) := setRow_heap w.drew g cur curA 224 _ hg
 have hcp2 : ∀ (W : World), W.heap = (w.drew.setRow g curA).heap → ∀ ty dc, (Builtin.copy_ #[118, 117] ty #[.slice (some ⟨g, i * 5, none⟩) (len + 1 - i) dc, .slice (some ⟨g2, 0, none⟩) 1 c2]).run Tryz.prog W = .ok (goInt ((1 : Nat) : Int)) (W.setRow g curB) := fun W hW ty dc => by
  have := Zcu (P := Tryz.prog) (w := W) 118 117 ty 224 5 g (i * 5) (len + 1 - i) dc ⟨g2, 0, none⟩ 1 c2 curA 224 news Tryz.underlying118 hsz (by rw [hW]; exact hgA) (by rw [hmin2, hnews])
   (fun j u hj => by
    rw [Zb5, Nat.zero_add]
    rw [World.cell?_of_block (w := w) (a := ⟨g2, j, none⟩) (by rw [hW]; exact Zcp hne)]
    exact hlies j u hj) (by rw [hA, hnews]; simp [hxs, hdl, hrl]; omega) h1
  rw [hmin2] at this
  rw [this, hA, hB, hnews]
  congr 3
  exact ln2 xs rest news (by omega)
 have FIN : ((w.drew.setRow g curA).setRow g curB).ownsRow base 224 5 (.slice (some ⟨g, 0, none⟩) (len + 1) cap) (len + 1) (xs.take (i * 5) ++ news ++ xs.drop (i * 5)) ∧ w.grownBy ((w.drew.setRow g curA).setRow g curB) (some g) ∧ (∀ b, Zdh (.slice (some ⟨g, 0, none⟩) (len + 1) cap) = some b → w.heap.size ≤ b ∨ (some g) = some b) := by
  have hlen : (xs.take (i * 5) ++ news ++ xs.drop (i * 5)).length = (len + 1) * 5 := by simp only [List.length_append, List.length_take, List.length_drop, hxs, hnews]; omega
  refine ⟨⟨hlen, .inr ⟨g, cap, curB, rfl, hbg, setRow_heap (w.drew.setRow g curA) g curA curB _ _ hgA, hroom, hcm, ?_, ?_⟩⟩, ⟨rfl, rfl, rfl, by rw [Zdy, Zdy]; exact Nat.le_refl _, fun k _ hk => ?_⟩, fun b hb => .inr (by simpa [Zdh] using hb)⟩
  ·rw [hB, List.size_toArray, List.length_append, hlen, List.length_drop, hrl]; omega
  ·rw [hB]; exact List.take_left' hlen
  ·rw [Zcp (fun e => hk (by rw [e])), Zcp (fun e => hk (by rw [e]))]; rfl
 clear hA hB
 have mixed : Tryz.prog.follows Departure.mixedOrders = true := by kernel_rfl
 have hb2 : ¬ (cap = i + 1) := by omega
 have hb4 : ¬ (cap = i) := by omega
 have hin : i ≤ len := by omega
 have hb3 : (i : Int) ≤ (len : Int) + 1 := by omega
 have hw1 : IntKind.i64.wrap ((i : Int) + 1) = (i : Int) + 1 := by rw [IntKind.wrap_i64]; omega
 have htn : ((i : Int) + 1).toNat = i + 1 := by omega
 have hb1 : (0 : Int) ≤ (i : Int) + 1 := by omega
 go_enter Tryz.func161, Tryz.ntmps161
 go_wp2_with (simp only [hov])
 go_region_law_o (refine step_copy_runI rfl _ _ 118 118 rfl _ _ (by simp [Act.eval, Act.put]) (by simp [Act.eval, Act.put]) (hcp1 _ _ _) ?_)
 go_wp2_with (at_builtin; refine wpList_copy_runI _ rfl _ _ 118 117 rfl _ _ rfl rfl (hcp2 _ rfl _ _) ?_)
 go_ret
 exact ⟨_, rfl, FIN⟩
theorem ln3 {α : Type} (A Z news : List α) {p : Nat} (hA : A.length = p) : (A ++ Z).take p ++ news ++ (A ++ Z).drop (p + 5) = A ++ news ++ Z.drop 5 := by
 rw [List.take_left' hA, List.drop_append, List.drop_eq_nil_of_le (by omega : A.length ≤ p + 5), hA, List.nil_append, Nat.add_sub_cancel_left]
theorem ln4 {α : Type} (A Y D news : List α) {p r q : Nat} (hA : A.length = p) (hn : news.length = 5) (hq : q = p + 5) : (A ++ news ++ Y).take q ++ D ++ (A ++ news ++ Y).drop (q + r) = A ++ news ++ D ++ Y.drop r := by
 have h : (A ++ news).length = q := by rw [List.length_append, hA, hn, hq]
 have e : (A ++ news ++ Y).drop (q + r) = Y.drop r := by
  rw [List.drop_append, List.drop_eq_nil_of_le (by omega), h, List.nil_append, Nat.add_sub_cancel_left]
 rw [List.take_left' h, e]
/-- Ahead of others, where there is no room. -/
theorem Yam (w : World) (base g cap g2 c2 len i : Nat) (cur : Array Value) (xs news : List Value) (hbw : base ≤ w.heap.size) (hg : w.heap[g]? = some (.cells cur 224 (0, 0))) (hcur : cur.toList.take (len * 5) = xs) (hxs : xs.length = len * 5)
  (hu : w.ownsRow base 224 5 (.slice (some ⟨g2, 0, none⟩) 1 c2) 1 news) (hi : i < len) (hle : len ≤ cap) (hroom : cap < len + 1)
  (hb : (len + 1) * 40 ≤ 140737488351232) (hl : len + 1 ≤ 140737488351232) (h1x : ∀ c ∈ xs, c.oneCell' = true) (h1 : ∀ c ∈ news, c.oneCell' = true) :
  Calls Tryz.prog 161 #[.slice (some ⟨g, 0, none⟩) len cap, .int .i64 (i : Int), .slice (some ⟨g2, 0, none⟩) 1 c2] w fun e' w' => ∃ v', e' = .returned v' ∧ w'.ownsRow base 224 5 v' (len + 1) (xs.take (i * 5) ++ news ++ xs.drop (i * 5)) ∧ w.grownBy w' (some g) ∧ (∀ b, Zdh v' = some b → w.heap.size ≤ b ∨ (some g) = some b) := by
 obtain ⟨inf, hinf, hz, hs, hy⟩ := Tryz.infoPN
 have hsz : (Tryz.prog.info? 224).map (·.size) = some 5 := by rw [hinf]; simp [hs]
 have hnews : news.length = 5 := by have := hu.1; omega
 obtain ⟨cur2, hg2, hc2⟩ : ∃ cur2, w.heap[g2]? = some (.cells cur2 224 (0, 0)) ∧ cur2.toList.take 5 = news := by
  rcases hu.2 with ⟨e, _⟩ | ⟨g', cap', cur', e, _, h1, h2, h3, h4, h5⟩
  ·cases e
  ·injection e with e1 _ _
   injection e1 with e1
   injection e1 with e1
   subst e1
   exact ⟨cur', h1, h5⟩
 have hlies : ∀ j u, news[j]? = some u → w.cell? ⟨g2, j, none⟩ = some u := fun j u hj => by
  refine Zg1 hg2 ?_
  rw [← hc2, List.getElem?_take] at hj
  split at hj
  ·exact hj
  ·cases hj
 have hliex : ∀ j u, xs[j]? = some u → w.cell? ⟨g, j, none⟩ = some u := fun j u hj => by
  refine Zg1 hg ?_
  rw [← hcur, List.getElem?_take] at hj
  split at hj
  ·exact hj
  ·cases hj
 have hgw : g < w.heap.size := (Array.getElem?_eq_some_iff.1 hg).1
 have hg2w : g2 < w.heap.size := (Array.getElem?_eq_some_iff.1 hg2).1
 obtain ⟨G, hG⟩ : ∃ G, G = grownCap w (len + 1) cap 224 := ⟨_, rfl⟩
 have hGn : len + 1 ≤ G := by rw [hG]; exact grownCap_ge w _ _ _
 have hGm : G ≤ maxLen := by rw [hG]; exact grownCap_le_maxLen w _ _ _ (by unfold maxLen; omega)
 obtain ⟨ROW, hROW⟩ : ∃ ROW : Array Value, ROW = (xs.take (i * 5)).toArray ++ Builtin.zeroCells (Value.agg #[.pointer none, .pointer none, .pointer none, .pointer none, .pointer none]).cells (len + 1 - i) ++ Builtin.zeroCells (Value.agg #[.pointer none, .pointer none, .pointer none, .pointer none, .pointer none]).cells (G - (len + 1)) := ⟨_, rfl⟩
 obtain ⟨Z, hZ, hZl⟩ : ∃ Z : List Value, ROW.toList = xs.take (i * 5) ++ Z ∧ Z.length = (G - i) * 5 := by
  refine ⟨(Builtin.zeroCells (Value.agg #[.pointer none, .pointer none, .pointer none, .pointer none, .pointer none]).cells (len + 1 - i)).toList ++ (Builtin.zeroCells (Value.agg #[.pointer none, .pointer none, .pointer none, .pointer none, .pointer none]).cells (G - (len + 1))).toList, by rw [hROW]; simp, ?_⟩
  rw [List.length_append, Array.length_toList, Array.length_toList, size_zeroCells, size_zeroCells]
  simp only [Value.cells, List.size_toArray, List.length_cons, List.length_nil]
  omega
 have htl : (xs.take (i * 5)).length = i * 5 := by rw [List.length_take, hxs]; omega
 have hdl : (xs.drop (i * 5)).length = (len - i) * 5 := by rw [List.length_drop, hxs]; omega
 have hRs : ROW.size = G * 5 := by rw [← Array.length_toList, hZ, List.length_append, htl, hZl]; omega
 have hold : (Builtin.firstCells inf.size i (.slice (some ⟨g, 0, none⟩) i cap)).run Tryz.prog w.drew = .ok (xs.take (i * 5)).toArray w.drew := by
  rw [hs]
  exact run_firstCells_some w.drew 5 i ⟨g, 0, none⟩ i cap (xs.take (i * 5)) htl (fun j v hj => by
   rw [Zb5, Nat.zero_add]
   rw [List.getElem?_take] at hj
   split at hj
   ·exact hliex j v hj
   ·cases hj)
 have hrz : ∀ ty, (Builtin.append_ #[118, 3] ty #[.slice (some ⟨g, 0, none⟩) i cap, .int .i64 ((len : Int) + 1 - (i : Int))]).run Tryz.prog w = .ok (.slice (some ⟨w.heap.size, 0, none⟩) (len + 1) G) (w.drew.alloc (.cells ROW 224)) := fun ty => by
  have h := Lib.run_append_grow_zeros (P := Tryz.prog) w 118 3 ty 224 inf _ .i64 .i64 Tryz.underlying118 Tryz.underlying3 hinf hz (some ⟨g, 0, none⟩) i cap (xs.take (i * 5)) hold (len + 1 - i) (by omega) (by omega) (by omega) (by omega) (by rw [hy]; omega) (by rw [hy, show i + (len + 1 - i) = len + 1 by omega]; exact growslice_fits hroom (by omega))
  rw [show i + (len + 1 - i) = len + 1 by omega, ← hG] at h
  rw [show ((len : Int) + 1 - (i : Int)) = ((len + 1 - i : Nat) : Int) by omega, h, hROW]
 obtain ⟨curB, hB⟩ : ∃ c : Array Value, c = (xs.take (i * 5) ++ news ++ Z.drop 5).toArray := ⟨_, rfl⟩
 obtain ⟨curC, hC⟩ : ∃ c : Array Value, c = (xs.take (i * 5) ++ news ++ xs.drop (i * 5) ++ (Z.drop 5).drop ((len - i) * 5)).toArray := ⟨_, rfl⟩
 have hN1 : (w.alloc (.cells ROW 224)).heap[w.heap.size]? = some (.cells ROW 224 (0, 0)) := heap_alloc_new w _
 have hNB : ((w.alloc (.cells ROW 224)).setRow w.heap.size curB).heap[w.heap.size]? = some (.cells curB 224 (0, 0)) := setRow_heap _ _ ROW curB 224 _ hN1
 have hNC : (((w.alloc (.cells ROW 224)).setRow w.heap.size curB).setRow w.heap.size curC).heap[w.heap.size]? = some (.cells curC 224 (0, 0)) := setRow_heap _ _ curB curC 224 _ hNB
 have hold1 : ∀ b, b < w.heap.size → (w.alloc (.cells ROW 224)).heap[b]? = w.heap[b]? := fun b h => Below.heap_alloc _ _ _ h
 have hmin1 : Nat.min (len - i) (len + 1 - (i + 1)) = len - i := by simp only [Nat.min_def]; split <;> omega
 have hmin2 : Nat.min 1 (len + 1 - i) = 1 := by simp only [Nat.min_def]; split <;> omega
 have hcpA : ∀ (W : World), W.heap = (w.alloc (.cells ROW 224)).heap → ∀ ty dc, (Builtin.copy_ #[118, 117] ty #[.slice (some ⟨w.heap.size, i * 5, none⟩) (len + 1 - i) dc, .slice (some ⟨g2, 0, none⟩) 1 c2]).run Tryz.prog W = .ok (goInt ((1 : Nat) : Int)) (W.setRow w.heap.size curB) := fun W hW ty dc => by
  have := Zcu (P := Tryz.prog) (w := W) 118 117 ty 224 5 w.heap.size (i * 5) (len + 1 - i) dc ⟨g2, 0, none⟩ 1 c2 ROW 224 news Tryz.underlying118 hsz (by rw [hW]; exact hN1) (by rw [hmin2, hnews])
   (fun j u hj => by
    rw [Zb5, Nat.zero_add]
    rw [World.cell?_of_block (w := w) (a := ⟨g2, j, none⟩) (by rw [hW]; exact hold1 _ hg2w)]
    exact hlies j u hj) (by rw [hRs, hnews]; omega) h1
  rw [hmin2] at this
  rw [this, hB, hnews, hZ]
  congr 3
  exact ln3 _ _ _ htl
 have hcpB : ∀ (W : World), W.heap = ((w.alloc (.cells ROW 224)).setRow w.heap.size curB).heap → ∀ ty dc sc, (Builtin.copy_ #[118, 118] ty #[.slice (some ⟨w.heap.size, (i + 1) * 5, none⟩) (len - i) dc, .slice (some ⟨g, i * 5, none⟩) (len - i) sc]).run Tryz.prog W = .ok (goInt ((len - i : Nat) : Int)) (W.setRow w.heap.size curC) := fun W hW ty dc sc => by
  have hm : Nat.min (len - i) (len - i) = len - i := by simp only [Nat.min_def]; split <;> omega
  have := Zcu (P := Tryz.prog) (w := W) 118 118 ty 224 5 w.heap.size ((i + 1) * 5) (len - i) dc ⟨g, i * 5, none⟩ (len - i) sc curB 224 (xs.drop (i * 5)) Tryz.underlying118 hsz (by rw [hW]; exact hNB) (by rw [hm, hdl])
   (fun j u hj => by
    rw [Zb5]
    rw [World.cell?_of_block (w := w) (a := ⟨g, i * 5 + j, none⟩) (by rw [hW]; exact (Zcp (show g ≠ w.heap.size from Nat.ne_of_lt hgw)).trans (hold1 _ hgw))]
    rw [List.getElem?_drop] at hj
    exact hliex _ u hj) (by rw [hB, List.size_toArray, hdl]; simp only [List.length_append, htl, hnews, List.length_drop, hZl]; omega) (fun u hu => h1x u (List.mem_of_mem_drop hu))
  rw [hm] at this
  rw [this, hC, hB, hdl]
  congr 3
  exact ln4 _ _ _ _ htl hnews (by omega)
 have FIN : ∀ W : World, W.os = w.os → W.tape = w.tape → W.output = w.output → W.heap = (((w.alloc (.cells ROW 224)).setRow w.heap.size curB).setRow w.heap.size curC).heap → W.ownsRow base 224 5 (.slice (some ⟨w.heap.size, 0, none⟩) (len + 1) G) (len + 1) (xs.take (i * 5) ++ news ++ xs.drop (i * 5)) ∧ w.grownBy W (some g) ∧ (∀ b, Zdh (.slice (some ⟨w.heap.size, 0, none⟩) (len + 1) G) = some b → w.heap.size ≤ b ∨ (some g) = some b) := by
  intro W e1 e2 e3 e4
  have hlen : (xs.take (i * 5) ++ news ++ xs.drop (i * 5)).length = (len + 1) * 5 := by simp only [List.length_append, htl, hdl, hnews]; omega
  refine ⟨⟨hlen, .inr ⟨w.heap.size, G, curC, rfl, hbw, by rw [e4]; exact hNC, hGn, hGm, ?_, ?_⟩⟩, ⟨e1, e2, e3, by rw [e4, Zdy, Zdy]; simp, fun k hk _ => ?_⟩, fun b hb => .inl (Nat.le_of_eq (by simpa [Zdh] using hb))⟩
  ·rw [hC, List.size_toArray, List.length_append, hlen, List.length_drop, List.length_drop, hZl]; omega
  ·rw [hC]; exact List.take_left' hlen
  ·rw [e4, Zcp (by omega), Zcp (by omega)]; exact hold1 _ hk
 clear hB hC hNB hNC hN1 hold1 hold hRs hZ hZl hROW hG hlies hliex hg hg2 hu hcur
 have mixed : Tryz.prog.follows Departure.mixedOrders = true := by kernel_rfl
 have hb2 : ¬ (cap = i + 1) ∨ cap = i + 1 := by omega
 have hb4 : ¬ (cap = i) := by omega
 have hb5 : ¬ (G = i) := by omega
 have hb6 : ¬ (G = i + 1) := by omega
 have hin : i ≤ len := by omega
 have hz3 : (cap : Int) < (len : Int) + 1 := by omega
 have hb3 : (i : Int) ≤ (len : Int) + 1 := by omega
 have hb7 : (i : Int) ≤ (len : Int) := by omega
 have hw1 : IntKind.i64.wrap ((i : Int) + 1) = (i : Int) + 1 := by rw [IntKind.wrap_i64]; omega
 have htn : ((i : Int) + 1).toNat = i + 1 := by omega
 have hb1 : (0 : Int) ≤ (i : Int) + 1 := by omega
 have hcpA' := hcpA (w.alloc (.cells ROW 224)).drew rfl
 have hcpB' := hcpB ((w.alloc (.cells ROW 224)).drew.setRow w.heap.size curB).drew rfl
 clear hb2 hcpA hcpB
 go_enter Tryz.func161, Tryz.ntmps161
 go_wp2_with (at_builtin; refine Lib.wpList_append_run _ rfl _ _ _ _ rfl _ _ rfl rfl _ _ (hrz _) ?_)
 go_region
 go_wp2
 go_ret
 exact ⟨_, rfl, FIN _ rfl rfl rfl rfl⟩
instance : Yq8 Tryz.prog 161 224 5 40 := ⟨by kernel_rfl, fun w base v u len i xs news hv hu hap hi hb hl hw h1x h1 => by
 obtain ⟨g2, c2, rfl⟩ : ∃ g2 c2, u = .slice (some ⟨g2, 0, none⟩) 1 c2 := by
  rcases hu.2 with ⟨_, e⟩ | ⟨g', cap', cur', e, _⟩
  ·omega
  ·exact ⟨_, _, e⟩
 by_cases he : i = len
 ·subst he
  rw [List.take_of_length_le (by rw [hv.1]; exact Nat.le_refl _), List.drop_eq_nil_of_le (by rw [hv.1]; exact Nat.le_refl _), List.append_nil]
  exact Ydl w base v g2 c2 i xs news hv hu hb hl hw h1
 ·rcases hv.2 with ⟨_, e⟩ | ⟨g, cap, cur, rfl, hbg, hg, hnc, hcm, hcs, hcur⟩
  ·omega
  ·have hne : g2 ≠ g := fun e => hap g rfl (by rw [e]; rfl)
   by_cases hroom : len + 1 ≤ cap
   ·exact Yan w base g cap g2 c2 len i cur xs (cur.toList.drop (len * 5)) news hbg hg hcm hcs (by rw [← hcur, List.take_append_drop]) hv.1 hu hne (by omega) hroom hl h1x h1
   ·exact Yam w base g cap g2 c2 len i cur xs news hw hg hcur hv.1 hu (by omega) hnc (by omega) hb hl h1x h1⟩
theorem Ydo (v : Value) (l : List PEV) (p : PEV) (hl : ∀ x ∈ l, OPE x) (hp : OPE p) (hs : Srt Zae l) (hb : (l.length + 1) * 32 ≤ 140737488351232) :
  Zb0 Tryz.prog 162 [.ptr 1000 0, .dat (Zav p)] [(1000, .box 122 [.own 1001, .dat (.val v)]), (1001, .row 99 4 32 (l.map Zav))] (.dat (.tup []))
   [(1000, .box 122 [.own 0, .dat (.val v)]), (0, .row 99 4 32 ((Zde Zae l p).map Zav)), (1001, .dead)] := by
 have c := Zvy l p hl hp hs
 have n1 : (l.map Zav).length = l.length := by simp
 have hle := Zjy (c := Zae) l p
 rw [Zst]
 obtain ⟨u0, u1, u2, u3, e⟩ := Zcm p
 cases hf : Ze8 Zae l p with
 | true =>
  rw [hf] at c
  rw [e] at c ⊢
  rw [if_pos rfl]
  generalize l.map Zav = da at *
  refine Zar Tryz.func162 rfl Tryz.ntmps162 rfl (fun X => ?_)
  refine wk ?_
  refine Zcl (Zlk gV rfl (by kernel_rfl) rfl c Flat.tup2) ?_
  refine wk ?_
  refine Za4 () (fun j => if j = 0 then 1001 else j) (tm := []) ?_ (Zeh rfl)
  exact sb
 | false =>
  rw [hf] at c
  rw [if_neg (by simp), List.map_append, List.map_cons, List.map_take, List.map_drop]
  rw [e] at c ⊢
  generalize l.map Zav = da at *
  generalize Zbc Zae l p = loc at *
  have q0 : loc ≤ da.length := by omega
  have q1 : (da.length + 1) * 32 ≤ 140737488351232 := by omega
  have q2 : da.length + 1 ≤ 140737488351232 := by omega
  refine Zar Tryz.func162 rfl Tryz.ntmps162 rfl (fun X => ?_)
  refine wk ?_
  refine Zcl (Zlk gV rfl (by kernel_rfl) rfl c Flat.tup2) ?_
  refine wk ?_
  refine Zcl (Zxx rfl rfl rfl rfl rfl rfl rfl rfl (by assumption) (by assumption) (by assumption)) ?_
  refine wk ?_
  refine Zhz () (fun j => if j = 0 then 24 else j) (tm := []) ?_ (Zeh rfl)
  exact sb
end Go.Proofs.YtgmahieoiifpfaaGreat
