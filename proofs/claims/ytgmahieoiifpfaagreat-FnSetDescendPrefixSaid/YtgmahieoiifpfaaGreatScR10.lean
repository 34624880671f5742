/- Part 10 of what the proof rests on. -/
import Derived.Test.YtgmahieoiifpfaaGreatScR4
import Derived.Test.YtgmahieoiifpfaaGreatScR5
import Derived.Test.YtgmahieoiifpfaaGreatScR6
import Derived.Test.YtgmahieoiifpfaaGreatScR8
import Derived.Test.YtgmahieoiifpfaaGreatScR9
set_option linter.unusedSimpArgs false
set_option linter.unusedVariables false
set_option maxHeartbeats 16000000
set_option maxRecDepth 100000
section
namespace Go.Proofs.YtgmahieoiifpfaaGreat
section
variable {α : Type}
mutual
/-- How deep a set goes. -/
def dpT : ST α → Nat
 | .mk m ch => dpC ch
def dpC : List (α × ST α) → Nat
 | [] => 0
 | y :: r => max (dpT y.2 + 1) (dpC r)
end
theorem Zrx : ∀ {l : List (α × ST α)} {y : α × ST α}, y ∈ l → dpT y.2 + 1 ≤ dpC l
 | z :: r, y, h => by
  unfold dpC
  rcases List.mem_cons.1 h with rfl | h
  ·omega
  ·have := Zrx h; omega
theorem Yds {l : List (α × ST α)} {d : Nat} (h : ∀ y ∈ l, dpT y.2 + 1 ≤ d) : dpC l ≤ d := by
 induction l with
 | nil => unfold dpC; omega
 | cons y r ih =>
  unfold dpC
  have := h y (by simp)
  have := ih fun z hz => h z (by simp [hz])
  omega
theorem Zry (t : ST α) : dpT t = dpC t.c := by cases t; unfold dpT; rfl
theorem Zeu {t : ST α} {y : α × ST α} (h : y ∈ t.c) : dpT y.2 < dpT t := by
 have := Zrx h
 rw [Zry t]; omega
mutual
/-- The set is empty. -/
def emT : ST α → Bool
 | .mk m ch => m.isEmpty && emC ch
def emC : List (α × ST α) → Bool
 | [] => true
 | y :: r => emT y.2 && emC r
end
mutual
theorem Zr1 : ∀ (t : ST α), emT t = true ↔ Zc0 t = []
 | .mk m ch => by
  unfold emT Zc0
  rw [Bool.and_eq_true, Zyv ch, List.append_eq_nil_iff, List.map_eq_nil_iff, List.isEmpty_iff]
theorem Zyv : ∀ (l : List (α × ST α)), emC l = true ↔ Zba l = []
 | [] => by unfold emC Zba; simp
 | y :: r => by
  unfold emC Zba
  rw [Bool.and_eq_true, Zyv r, Zr1 y.2, List.append_eq_nil_iff, List.map_eq_nil_iff]
end
variable (c : α → α → Int) {P : α → Prop}
variable (kl kr kb : Bool)
def opM (a b : List α) : List α := mrg c id (fun x => if kl then some x else none) (fun y => if kr then some y else none) (fun x y => if kb then some (if kr then y else x) else none) a b
def opN : Nat → ST α → ST α → ST α
 | 0, s, _ => s
 | n + 1, s, t => .mk (opM c kl kr kb s.m t.m) (mrg c Prod.fst (fun x => if kl then some x else none) (fun y => if kr then some y else none) (fun x y => if kr || !emT (opN n x.2 y.2) then some (x.1, opN n x.2 y.2) else none) s.c t.c)
def opB (a b : Bool) : Bool := (kl && a && !b) || (kr && !a && b) || (kb && a && b)
variable {c kl kr kb}
theorem kA {γ : Type} (k : γ → α) (b : Bool) (x z : γ) (h : (if b then some x else none) = some z) : k z = k x := by
 cases b with
 | true => cases h; rfl
 | false => cases h
theorem mB (x y z : α) (h : (if kb then some (if kr then y else x) else none) = some z) : id z = id x ∨ id z = id y := by
 cases kb with
 | true =>
  cases kr with
  | true => cases h; exact .inr rfl
  | false => cases h; exact .inl rfl
 | false => cases h
theorem nB {n : Nat} (x y z : α × ST α) (h : (if kr || !emT (opN c kl kr kb n x.2 y.2) then some (x.1, opN c kl kr kb n x.2 y.2) else none) = some z) : z.1 = x.1 ∨ z.1 = y.1 := by
 split at h
 ·cases h; exact .inl rfl
 ·cases h
theorem Zsa (l : List α) (q : α) : Zbn c l q = (Zcs c id l q).isSome := by
 induction l with
 | nil => rfl
 | cons x l ih =>
  rw [Zcf, Zdk, ih]
  show _ = (if c x q = 0 then some x else Zcs c id l q).isSome
  by_cases h : c x q = 0
  ·rw [decide_eq_true h, if_pos h]; rfl
  ·rw [decide_eq_false h, if_neg h]; rfl
theorem Zuj {β : Type} (O : OrdL c P) : ∀ {l : List (α × β)} {q : α}, Srt c (l.map Prod.fst) → (∀ x ∈ l, P x.1) → P q → Zea c l q = (Zcs c Prod.fst l q).map Prod.snd
 | [], q, _, _, _ => rfl
 | x :: l, q, hs, hP, hq => by
  have hs' := hs
  rw [List.map_cons, Zek] at hs
  have ih := Zuj O hs.2 (fun z hz => hP z (by simp [hz])) hq
  rw [Zui, Zdk, ih]
  by_cases h1 : c x.1 q < 0
  ·rw [if_pos h1, if_neg (by omega)]
  ·rw [if_neg h1]
   by_cases h2 : c x.1 q = 0
   ·rw [if_pos h2, if_pos h2]; rfl
   ·rw [if_neg h2, if_neg h2, Zgc]
    ·rfl
    ·intro z hz h0
     have := Yg7 O (hP x (by simp)) (fun u hu => by obtain ⟨v, hv, rfl⟩ := List.mem_map.1 hu; exact hP v (by simp [hv])) hq hs' h1 z.1 (List.mem_map.2 ⟨z, hz, rfl⟩)
     omega
theorem Zgl (O : OrdL c P) {t : ST α} (h : WFT c P t) {p : α} {q : List α} (hp : P p) (hq : q ≠ []) : Zdl c t (p :: q) = (match Zcs c Prod.fst t.c p with | some y => Zdl c y.2 q | none => false) := by
 obtain ⟨h1, h2, h3, h4⟩ := WFT_iff.1 h
 rw [Zfl _ _ hq, Zuj O h3 (fun x hx => (WFC_iff.1 h4 x hx).1) hp]
 cases Zcs c Prod.fst t.c p <;> rfl
theorem Yec (O : OrdL c P) {t : ST α} (h : WFT c P t) (he : emT t = true) {q : List α} (hq : ∀ x ∈ q, P x) : Zdl c t q = false := by
 cases q with
 | nil => exact Yiy t
 | cons p q =>
  rw [← Zkn O t h p q (hq p (by simp)) fun x hx => hq x (by simp [hx]), (Zr1 t).1 he]
  rfl
theorem Yoh (O : OrdL c P) {a b : List α} (ha : ∀ x ∈ a, P x) (hb : ∀ x ∈ b, P x) (hs : Srt c a) (ht : Srt c b) {q : α} (hq : P q) : Zbn c (opM c kl kr kb a b) q = opB kl kr kb (Zbn c a q) (Zbn c b q) := by
 rw [Zsa, Zsa, Zsa]
 unfold opM
 rw [Zkw (P := P) (c := c) (k := id) (kA id kl) (kA id kr) mB O hq a b ha hb (by simpa using hs) (by simpa using ht)]
 unfold Ypu opB
 cases Zcs c id a q <;> cases Zcs c id b q <;> cases kl <;> cases kr <;> cases kb <;> rfl
theorem Yoi {a b : List α} {z : α} (h : z ∈ opM c kl kr kb a b) : z ∈ a ∨ z ∈ b := by
 rcases Zsr (c := c) (k := id) (kA id kl) (kA id kr) mB h with ⟨x, h1, h2⟩ | ⟨x, h1, h2⟩
 ·have h2 : z = x := h2
  exact .inl (h2 ▸ h1)
 ·have h2 : z = x := h2
  exact .inr (h2 ▸ h1)
theorem Yoj (O : OrdL c P) {a b : List α} (ha : ∀ x ∈ a, P x) (hb : ∀ x ∈ b, P x) (hs : Srt c a) (ht : Srt c b) : Srt c (opM c kl kr kb a b) := by
 have := Zoy (P := P) (c := c) (k := id) (fl := fun x => if kl then some x else none) (fr := fun y => if kr then some y else none) (fb := fun x y => if kb then some (if kr then y else x) else none) (kA id kl) (kA id kr) mB O a b ha hb (by simpa using hs) (by simpa using ht)
 unfold opM
 simpa using this
section
variable {n : Nat} {s t : ST α}
theorem Zo1 : opN c kl kr kb (n + 1) s t = .mk (opM c kl kr kb s.m t.m) (mrg c Prod.fst (fun x => if kl then some x else none) (fun y => if kr then some y else none) (fun x y => if kr || !emT (opN c kl kr kb n x.2 y.2) then some (x.1, opN c kl kr kb n x.2 y.2) else none) s.c t.c) := by conv => lhs; unfold opN
theorem Zxf {y : α × ST α} (h : y ∈ (opN c kl kr kb (n + 1) s t).c) : y ∈ s.c ∨ y ∈ t.c ∨ ∃ u ∈ s.c, ∃ v ∈ t.c, y = (u.1, opN c kl kr kb n u.2 v.2) ∧ (kr = true ∨ emT (opN c kl kr kb n u.2 v.2) = false) := by
 rw [Zo1] at h
 rcases Zow (c := c) (k := Prod.fst) _ _ h with ⟨x, h1, h2⟩ | ⟨x, h1, h2⟩ | ⟨x, h1, u, h2, h3⟩
 ·left
  split at h2
  ·cases h2; exact h1
  ·cases h2
 ·right; left
  split at h2
  ·cases h2; exact h1
  ·cases h2
 ·right; right
  split at h3
  ·rename_i hk
   cases h3
   exact ⟨x, h1, u, h2, rfl, by simpa using hk⟩
  ·cases h3
theorem Zfp {x : α × ST α} (h : WFT c P t) (hx : x ∈ t.c) : P x.1 ∧ WFT c P x.2 := WFC_iff.1 (WFT_iff.1 h).2.2.2 x hx
end
theorem Zo0 (O : OrdL c P) : ∀ (n : Nat) (s t : ST α), WFT c P s → WFT c P t → WFT c P (opN c kl kr kb n s t)
 | 0, s, t, hs, _ => by unfold opN; exact hs
 | n + 1, s, t, hs, ht => by
  obtain ⟨a1, a2, a3, a4⟩ := WFT_iff.1 hs
  obtain ⟨b1, b2, b3, b4⟩ := WFT_iff.1 ht
  refine WFT_iff.2 ⟨?_, ?_, ?_, WFC_iff.2 fun y hy => ?_⟩
  ·rw [Zo1]
   intro x hx
   rcases Yoi hx with h | h
   ·exact a1 x h
   ·exact b1 x h
  ·rw [Zo1]
   exact Yoj O a1 b1 a2 b2
  ·rw [Zo1]
   exact Zoy (kA Prod.fst kl) (kA Prod.fst kr) nB O s.c t.c (fun x hx => (Zfp hs hx).1) (fun x hx => (Zfp ht hx).1) a3 b3
  ·rcases Zxf hy with h | h | ⟨u, hu, v, hv, e, _⟩
   ·exact Zfp hs h
   ·exact Zfp ht h
   ·rw [e]
    exact ⟨(Zfp hs hu).1, Zo0 O n u.2 v.2 (Zfp hs hu).2 (Zfp ht hv).2⟩
theorem Zxe (O : OrdL c P) : ∀ (n : Nat) (s t : ST α), dpT s < n → WFT c P s → WFT c P t → ∀ q, PP P q → Zdl c (opN c kl kr kb n s t) q = opB kl kr kb (Zdl c s q) (Zdl c t q)
 | 0, _, _, h, _, _, _, _ => by omega
 | n + 1, s, t, hd, hs, ht, [], hq => absurd rfl hq.1
 | n + 1, s, t, hd, hs, ht, [p], hq => by
  obtain ⟨a1, a2, a3, a4⟩ := WFT_iff.1 hs
  obtain ⟨b1, b2, b3, b4⟩ := WFT_iff.1 ht
  rw [Ze1, Ze1, Ze1, Zo1]
  exact Yoh O a1 b1 a2 b2 (hq.2 p (by simp))
 | n + 1, s, t, hd, hs, ht, p :: z :: r, hq => by
  obtain ⟨a1, a2, a3, a4⟩ := WFT_iff.1 hs
  obtain ⟨b1, b2, b3, b4⟩ := WFT_iff.1 ht
  have hp := hq.2 p (by simp)
  have hz : PP P (z :: r) := ⟨by simp, fun x hx => hq.2 x (by simp [hx])⟩
  rw [Zgl O (Zo0 O (n + 1) s t hs ht) hp hz.1, Zgl O hs hp hz.1, Zgl O ht hp hz.1]
  have e : Zcs c Prod.fst (opN c kl kr kb (n + 1) s t).c p = Ypu (fun x => if kl then some x else none) (fun y => if kr then some y else none) (fun x y => if kr || !emT (opN c kl kr kb n x.2 y.2) then some (x.1, opN c kl kr kb n x.2 y.2) else none) (Zcs c Prod.fst s.c p) (Zcs c Prod.fst t.c p) := by
   rw [Zo1]
   exact Zkw (kA Prod.fst kl) (kA Prod.fst kr) nB O hp s.c t.c (fun x hx => (Zfp hs hx).1) (fun x hx => (Zfp ht hx).1) a3 b3
  rw [e]
  unfold Ypu
  cases fs : Zcs c Prod.fst s.c p with
  | none =>
   cases ft : Zcs c Prod.fst t.c p with
   | none => unfold opB; cases kl <;> cases kr <;> cases kb <;> rfl
   | some y =>
    simp only
    unfold opB
    cases kl <;> cases kr <;> cases kb <;> simp
  | some x =>
   cases ft : Zcs c Prod.fst t.c p with
   | none =>
    simp only
    unfold opB
    cases kl <;> cases kr <;> cases kb <;> simp
   | some y =>
    simp only
    have hx := (Zkf fs).1
    have hy := (Zkf ft).1
    have hdx : dpT x.2 < n := by have := Zeu hx; omega
    have ih := Zxe O n x.2 y.2 hdx (Zfp hs hx).2 (Zfp ht hy).2 (z :: r) hz
    by_cases hk : (kr || !emT (opN c kl kr kb n x.2 y.2)) = true
    ·rw [if_pos hk]
     exact ih
    ·rw [if_neg hk]
     simp only
     rw [← ih]
     symm
     refine Yec O (Zo0 O n x.2 y.2 (Zfp hs hx).2 (Zfp ht hy).2) ?_ hz.2
     simp at hk
     exact hk.2
theorem Yfe (O : OrdL c P) (hk : kr = false ∨ (kl = true ∧ kb = true)) : ∀ (n : Nat) (s t : ST α), dpT s < n → WFT c P s → WFT c P t → NET s → NET t → NET (opN c kl kr kb n s t)
 | 0, s, t, h, _, _, _, _ => by omega
 | n + 1, s, t, hd, hs, ht, ns, nt => by
  refine NET_iff.2 fun y hy => ?_
  rcases Zxf hy with h | h | ⟨u, hu, v, hv, e, he⟩
  ·exact NET_iff.1 ns y h
  ·exact NET_iff.1 nt y h
  ·have hdx : dpT u.2 < n := by have := Zeu hu; omega
   have nu := NET_iff.1 ns u hu
   have nv := NET_iff.1 nt v hv
   have hw := Zo0 (kl := kl) (kr := kr) (kb := kb) O n u.2 v.2 (Zfp hs hu).2 (Zfp ht hv).2
   rw [e]
   refine ⟨?_, Yfe O hk n u.2 v.2 hdx (Zfp hs hu).2 (Zfp ht hv).2 nu.2 nv.2⟩
   rcases he with he | he
   ·obtain ⟨k1, k2⟩ : kl = true ∧ kb = true := by
     rcases hk with h | h
     ·rw [h] at he; cases he
     ·exact h
    cases hq : Zc0 u.2 with
    | nil => exact absurd hq nu.1
    | cons q r =>
     have hqm : q ∈ Zc0 u.2 := by rw [hq]; simp
     have hqP := Zec u.2 (Zfp hs hu).2 q hqm
     have h1 : Zdl c u.2 q = true := by
      cases q with
      | nil => exact absurd rfl hqP.1
      | cons a q =>
       rw [← Zkn O u.2 (Zfp hs hu).2 a q (hqP.2 a (by simp)) fun x hx => hqP.2 x (by simp [hx])]
       exact Zqm (Yht O) hqm hqP
     refine Zu8 O hw hqP ?_
     rw [Zxe O n u.2 v.2 hdx (Zfp hs hu).2 (Zfp ht hv).2 q hqP, h1, k1, k2, he]
     cases Zdl c v.2 q <;> rfl
   ·intro h0
    rw [(Zr1 _).2 h0] at he
    cases he
theorem Ylr : ∀ (n : Nat) (s t : ST α), dpT (opN c kl kr kb n s t) ≤ max (dpT s) (dpT t)
 | 0, s, t => by unfold opN; omega
 | n + 1, s, t => by
  rw [Zry (opN c kl kr kb (n + 1) s t)]
  refine Yds fun y hy => ?_
  rcases Zxf hy with h | h | ⟨u, hu, v, hv, e, _⟩
  ·have := Zeu h; omega
  ·have := Zeu h; omega
  ·have := Ylr n u.2 v.2
   have := Zeu hu
   have := Zeu hv
   rw [e]
   simp only
   omega
theorem Yll (O : OrdL c P) {t : ST α} (h : WFT c P t) {q : List α} (hq : PP P q) : Zbn (cw c) (Zc0 t) q = Zdl c t q := by
 cases q with
 | nil => exact absurd rfl hq.1
 | cons x q => exact Zkn O t h x q (hq.2 x (by simp)) fun z hz => hq.2 z (by simp [hz])
theorem Yat (O : OrdL c P) {t : ST α} (h : WFT c P t) {l : List (List α)} (hl : ∀ x ∈ l, PP P x) (hs : Srt (cw c) l) (he : ∀ q, PP P q → Zdl c t q = Zbn (cw c) l q) : Zca (cw c) (Zc0 t) l = 0 :=
 Zj0 (Yht O) _ _ (Zec t h) hl (Znk O t h) hs fun q hq => by rw [Yll O h hq, he q hq]
theorem Zfs {β : Type} {f : β → β → Int} : ∀ {a b : List β}, Zca f a b = 0 → a.length = b.length := fun h => (cmpLx_zero.1 h).1
theorem Ybf (O : OrdL c P) {l : List α} {f : α → Bool} (hl : ∀ x ∈ l, P x) (hf : ∀ x y, P x → P y → c x y = 0 → f x = f y) {q : α} (hq : P q) : Zbn c (l.filter f) q = (Zbn c l q && f q) := by
 induction l with
 | nil => rfl
 | cons x l ih =>
  have ih := ih fun z hz => hl z (by simp [hz])
  rw [List.filter_cons, Zcf]
  by_cases h : c x q = 0
  ·have := hf x q (hl x (by simp)) hq h
   rw [decide_eq_true h, Bool.true_or, Bool.true_and]
   cases hx : f x with
   | true => rw [if_pos rfl, Zcf, decide_eq_true h, Bool.true_or, ← this, hx]
   | false => rw [if_neg (by simp), ih, ← this, hx, Bool.and_false]
  ·rw [decide_eq_false h, Bool.false_or]
   split
   ·rw [Zcf, decide_eq_false h, Bool.false_or, ih]
   ·exact ih
theorem Yce {l : List α} {f : α → Bool} (h : Srt c l) : Srt c (l.filter f) := List.Pairwise.filter f h
theorem Yix (O : OrdL c P) {t : ST α} (h : WFT c P t) {p q : List α} (hp : PP P p) (hq : PP P q) (e : cw c p q = 0) : Zdl c t p = Zdl c t q := by
 rw [← Yll O h hp, ← Yll O h hq]
 exact Zwy (Yht O) (Zec t h) hp hq e
theorem Ypo (O : OrdL c P) {s t : ST α} (hs : WFT c P s) (ht : WFT c P t) (h : ∀ q, PP P q → Zdl c s q = true → Zdl c t q = true) : (Zc0 s).length ≤ (Zc0 t).length := by
 have e := Yat O hs (l := (Zc0 t).filter fun q => Zdl c s q) (fun x hx => Zec t ht x ((List.mem_filter.1 hx).1)) (Yce (Znk O t ht)) fun q hq => by
  rw [Ybf (Yht O) (Zec t ht) (fun x y hx hy e => Yix O hs hx hy e) hq, Yll O ht hq]
  cases h1 : Zdl c s q with
  | true => rw [h q hq h1]; rfl
  | false => rw [Bool.and_false]
 rw [Zfs e]
 exact List.length_filter_le _ _
end
end Go.Proofs.YtgmahieoiifpfaaGreat
end
namespace Go.Proofs.YtgmahieoiifpfaaGreat
open Go.RowKit
def peC : PEV → List PD
 | .name s => [.ptr (.val (.string s)), Zlj, Zlj, Zlj]
 | .key fl => [Zlj, .ptr (Ycj fl), Zlj, Zlj]
 | .val j => [Zlj, Zlj, .ptr (dvV j), Zlj]
 | .idx n => [Zlj, Zlj, Zlj, .ptr (.val (.int .i64 n))]
theorem Zqd (p : PEV) : Za4 p = .agg (peC p) := by cases p <;> rfl
theorem Ze5 (p : PEV) : ∃ d0 d1 d2 d3, peC p = [d0, d1, d2, d3] := by cases p <;> exact ⟨_, _, _, _, rfl⟩
theorem Zf5 {α : Type} {l : List α} {i : Nat} {x : α} (h : l[i]? = some x) : l.drop i = x :: l.drop (i + 1) := by
 obtain ⟨h1, h2⟩ := List.getElem?_eq_some_iff.1 h
 rw [List.drop_eq_getElem_cons h1, h2]
theorem Zip (p : PEV) : ∃ u0 u1 u2 u3, Za4 p = .agg [u0, u1, u2, u3] := by
 obtain ⟨a, b, c, d, e⟩ := Ze5 p
 exact ⟨a, b, c, d, by rw [Zqd, e]⟩
theorem Zi6 {α : Type} (f : α → PD) (o : List α) (x : α) : o.map f ++ [f x] = (o ++ [x]).map f := by simp
theorem Znd {α : Type} (f : α → PD) (o l : List α) (i : Nat) : o.map f ++ ((l.map f).take (l.map f).length).drop i = (o ++ l.drop i).map f := by
 rw [List.take_of_length_le (Nat.le_refl _), List.map_append, List.map_drop]
theorem Zji {α : Type} (f : α → PD) {l : List α} {i : Nat} {x : α} (h : l[i]? = some x) : (l.map f)[((i : Nat) : Int).toNat]? = some (f x) := by simp [h]
theorem Ya2 {n m k y : Nat} (h : n ≤ m) (hm : m ≤ 1099511627776) (hy : y ≤ 40) (hk : k = 1) : (n + k) * y ≤ 140737488351232 ∧ n + k ≤ 140737488351232 := by
 subst hk
 refine ⟨Nat.le_trans (Nat.mul_le_mul_left _ hy) (by omega), by omega⟩
theorem Yh2 {n m k y : Nat} (h : n + k ≤ m) (hm : m ≤ 1099511627776) (hy : y ≤ 40) : (n + k) * y ≤ 140737488351232 ∧ n + k ≤ 140737488351232 :=
 ⟨Nat.le_trans (Nat.mul_le_mul_left _ hy) (by omega), by omega⟩
theorem Ybz (a b : List PEV) (hz : a.length + b.length ≤ 1099511627776) : PCall Tryz.prog 164 [.ptr (.agg [.sl 4 32 (a.map Za4)]), .ptr (.agg [.sl 4 32 (b.map Za4)])] (.ptr (.agg [.sl 4 32 ((opM Zaf true true true a b).map Za4)])) := by
 have na : (a.map Za4).length = a.length := by simp
 have nb : (b.map Za4).length = b.length := by simp
 have ga : ∀ {i : Nat} {x : PEV}, a[i]? = some x → (a.map Za4)[((i : Nat) : Int).toNat]? = some (Za4 x) := Zji Za4
 have gb : ∀ {i : Nat} {x : PEV}, b[i]? = some x → (b.map Za4)[((i : Nat) : Int).toNat]? = some (Za4 x) := Zji Za4
 have ra := fun o i => Znd Za4 o a i
 have rb := fun o i => Znd Za4 o b i
 have nr : ∀ l, opM Zaf true true true l [] = l := fun l => by unfold opM; rw [Zkx]; simp
 have nl : ∀ l, opM Zaf true true true [] l = l := fun l => by unfold opM; rw [Zox]; simp
 have st : ∀ (x y : PEV) (p q : List PEV), opM Zaf true true true (x :: p) (y :: q) = if Zaf x y < 0 then x :: opM Zaf true true true p (y :: q) else if Zaf y x < 0 then y :: opM Zaf true true true (x :: p) q else y :: opM Zaf true true true p q := fun x y p q => by
  unfold opM; rw [Zkv]; rfl
 generalize opM Zaf true true true = f at *
 generalize hr : f a b = r
 generalize a.map Za4 = da at *
 generalize b.map Za4 = db at *
 refine Zaa Tryz.func164 rfl Tryz.ntmps164 rfl (fun X => ?_)
 refine wk ?_
 refine Zde 9 0 400 99 4 32 rfl rfl rfl ?_
 refine Zaq (ι := { p : (Nat × Nat) × List PEV // p.1.1 ≤ a.length ∧ p.1.2 ≤ b.length ∧ p.2.length ≤ p.1.1 + p.1.2 ∧ p.2 ++ f (a.drop p.1.1) (b.drop p.1.2) = r })
  (fun p => [(0, .dat (.ptr (.agg [.sl 4 32 da]))), (1, .dat (.ptr (.agg [.sl 4 32 db]))), (5, .ptr 9 0), (6, .dat (.val (.int .i64 (p.1.1.1 : Nat)))), (7, .dat (.val (.int .i64 (p.1.1.2 : Nat))))])
  (fun p => [(9, .box 116 [.own 400]), (400, .row 99 4 32 (p.1.2.map Za4))]) (fun p => (a.length - p.1.1.1) + (b.length - p.1.1.2)) ⟨((0, 0), []), Nat.zero_le _, Nat.zero_le _, Nat.le_refl _, hr⟩ id ?_ ?_
 ·exact sb
 rintro ⟨⟨⟨i, j⟩, o⟩, h1, h2, h3, h4⟩
 simp only at h1 h2 h3 h4
 simp only
 by_cases hi : i < a.length
 ·have g1 : decide ((i : Int) < ((da.length : Nat) : Int)) = true := decide_eq_true (by omega)
  by_cases hj : j < b.length
  ·have g2 : decide ((j : Int) < ((db.length : Nat) : Int)) = true := decide_eq_true (by omega)
   obtain ⟨x, hx⟩ : ∃ x, a[i]? = some x := ⟨_, List.getElem?_eq_getElem hi⟩
   obtain ⟨y, hy⟩ : ∃ y, b[j]? = some y := ⟨_, List.getElem?_eq_getElem hj⟩
   rw [Zf5 hx, Zf5 hy, st] at h4
   have i1 := ga hx
   have i2 := gb hy
   have c1 := Znh x y
   have c2 := Znh y x
   obtain ⟨u0, u1, u2, u3, ex⟩ := Zip x
   obtain ⟨v0, v1, v2, v3, ey⟩ := Zip y
   rw [ex] at i1 c1 c2
   rw [ey] at i2 c1 c2
   clear nl nr st ga gb ra rb
   by_cases k1 : Zaf x y < 0
   ·rw [decide_eq_true k1] at c1
    rw [if_pos k1, ← Zf5 hy] at h4
    have e := Zi6 Za4 o x
    have hb := Ya2 (n := (o.map Za4).length) (k := [Za4 x].length) (y := 32) (by rw [List.length_map]; exact h3) (show i + j ≤ 1099511627776 by omega) (by decide) rfl
    have hb1 := hb.1
    have hb2 := hb.2
    clear hb
    rw [ex] at e hb1 hb2
    generalize o.map Za4 = od at *
    refine wk ?_
    refine Zan ?_
    refine ⟨⟨((i + 1, j), o ++ [x]), by simp only; omega, by simp only; omega, by simp only [List.length_append, List.length_cons, List.length_nil]; omega, by simp only; rw [List.append_assoc]; exact h4⟩, (fun k => if k = 400 then 54 else k), by simp only; omega, ?_⟩
    exact sb
   ·rw [decide_eq_false k1] at c1
    rw [if_neg k1] at h4
    by_cases k2 : Zaf y x < 0
    ·rw [decide_eq_true k2] at c2
     rw [if_pos k2, ← Zf5 hx] at h4
     have e := Zi6 Za4 o y
     have hb := Ya2 (n := (o.map Za4).length) (k := [Za4 y].length) (y := 32) (by rw [List.length_map]; exact h3) (show i + j ≤ 1099511627776 by omega) (by decide) rfl
     have hb1 := hb.1
     have hb2 := hb.2
     clear hb
     rw [ey] at e hb1 hb2
     generalize o.map Za4 = od at *
     refine wk ?_
     refine Zan ?_
     refine ⟨⟨((i, j + 1), o ++ [y]), by simp only; omega, by simp only; omega, by simp only [List.length_append, List.length_cons, List.length_nil]; omega, by simp only; rw [List.append_assoc]; exact h4⟩, (fun k => if k = 400 then 72 else k), by simp only; omega, ?_⟩
     exact sb
    ·rw [decide_eq_false k2] at c2
     rw [if_neg k2] at h4
     have e := Zi6 Za4 o y
     have hb := Ya2 (n := (o.map Za4).length) (k := [Za4 y].length) (y := 32) (by rw [List.length_map]; exact h3) (show i + j ≤ 1099511627776 by omega) (by decide) rfl
     have hb1 := hb.1
     have hb2 := hb.2
     clear hb
     rw [ey] at e hb1 hb2
     generalize o.map Za4 = od at *
     refine wk ?_
     refine Zan ?_
     refine ⟨⟨((i + 1, j + 1), o ++ [y]), by simp only; omega, by simp only; omega, by simp only [List.length_append, List.length_cons, List.length_nil]; omega, by simp only; rw [List.append_assoc]; exact h4⟩, (fun k => if k = 400 then 72 else k), by simp only; omega, ?_⟩
     exact sb
  ·have g2 : decide ((j : Int) < ((db.length : Nat) : Int)) = false := decide_eq_false (by omega)
   have e := ra o i
   rw [show o ++ a.drop i = r by rw [← h4, List.drop_eq_nil_of_le (i := j) (by omega), nr]] at e
   have hb := Yh2 (n := (o.map Za4).length) (k := ((da.take da.length).drop i).length) (m := a.length + b.length) (y := 32) (by rw [List.length_map, List.length_drop, List.length_take]; omega) hz (by decide)
   have hb1 := hb.1
   have hb2 := hb.2
   clear hb
   generalize o.map Za4 = od at *
   rw [← e]
   refine wk ?_
   refine Zbj (fun _ => false) (fun k => Nat.beq k 113) ?_
   refine Zbj (fun t => Nat.beq t 116) (fun k => Nat.beq k 9) ?_
   exact wke
 ·have g1 : decide ((i : Int) < ((da.length : Nat) : Int)) = false := decide_eq_false (by omega)
  by_cases hj : j < b.length
  ·have g2 : decide ((j : Int) < ((db.length : Nat) : Int)) = true := decide_eq_true (by omega)
   have e := rb o j
   rw [show o ++ b.drop j = r by rw [← h4, List.drop_eq_nil_of_le (i := i) (by omega), nl]] at e
   have hb := Yh2 (n := (o.map Za4).length) (k := ((db.take db.length).drop j).length) (m := a.length + b.length) (y := 32) (by rw [List.length_map, List.length_drop, List.length_take]; omega) hz (by decide)
   have hb1 := hb.1
   have hb2 := hb.2
   clear hb
   generalize o.map Za4 = od at *
   rw [← e]
   refine wk ?_
   refine Zbj (fun _ => false) (fun k => Nat.beq k 134) ?_
   refine Zbj (fun t => Nat.beq t 116) (fun k => Nat.beq k 9) ?_
   exact wke
  ·have g2 : decide ((j : Int) < ((db.length : Nat) : Int)) = false := decide_eq_false (by omega)
   obtain rfl : o = r := by rw [← h4, List.drop_eq_nil_of_le (i := i) (by omega), nl, List.drop_eq_nil_of_le (i := j) (by omega), List.append_nil]
   refine Zbj (fun _ => false) (fun k => Nat.beq k 400) ?_
   refine Zbj (fun t => Nat.beq t 116) (fun k => Nat.beq k 9) ?_
   exact wke
def Zwd (tb tb' : Nat → Option Blk) (ρ ρ' : Nat → RV) (k : Nat) : Prop := ∀ x, tb k = some x → ∃ x', tb' k = some x' ∧ (((x'.kind = x.kind ∨ ((x.kind = 1 ∨ x.kind = 3) ∧ (x'.kind = 1 ∨ x'.kind = 3))) ∧ (ρ' k).v = (ρ k).v) ∨ (x' = .dead ∧ x.kind ≠ 0))
section
variable {w w' : World} {F F' : Nat → Prop} {tb tb' : Nat → Option Blk} {ρ ρ' : Nat → RV}
theorem heldK.keepK {k : Nat} (hk : Zwd tb tb' ρ ρ' k) {p : Value → Prop} (h : heldK tb ρ k p) : heldK tb' ρ' k p := by
 rcases h with ⟨x, h1, h2, h3⟩ | h1
 ·obtain ⟨x', e2, e3⟩ := hk _ h1
  rcases e3 with ⟨e3, e1⟩ | ⟨rfl, _⟩
  ·refine .inl ⟨x', e2, ?_, by rw [e1]; exact h3⟩
   rcases e3 with e3 | ⟨_, e3⟩
   ·rw [e3]; exact h2
   ·exact e3
  ·exact .inr e2
 ·obtain ⟨x', e2, e3⟩ := hk _ h1
  rcases e3 with ⟨e3, e1⟩ | ⟨rfl, _⟩
  ·rcases e3 with e3 | ⟨e3, _⟩
   ·cases x' <;> simp [Blk.kind] at e3
    exact .inr e2
   ·simp [Blk.kind] at e3
  ·exact .inr e2
mutual
theorem VR.keepK (h : ∀ b, F b → w'.heap[b]? = w.heap[b]?) (hs : ∀ b, F b → F' b) : ∀ (x : AV) {v : Value}, (∀ k ∈ Zbq x, Zwd tb tb' ρ ρ' k) → VR w F tb ρ x v → VR w' F' tb' ρ' x v
 | .any, v, hk, hv => by unfold VR; trivial
 | .dat d, v, hk, hv => by unfold VR at hv ⊢; exact hv.keep h hs d
 | .ptr k off, v, hk, hv => by
  unfold VR at hv ⊢
  obtain ⟨t, cs, b, h1, h2, h3⟩ := hv
  obtain ⟨x', e2, e3⟩ := hk k (by simp [Zbq]) _ h1
  rcases e3 with ⟨e3, e1⟩ | ⟨_, e3⟩
  ·rcases e3 with e3 | ⟨e3, _⟩
   ·cases x' with
    | box t' cs' => exact ⟨t', cs', b, e2, e1.trans h2, h3⟩
    | row _ _ _ _ => simp [Blk.kind] at e3
    | res _ => simp [Blk.kind] at e3
    | dead => simp [Blk.kind] at e3
   ·simp [Blk.kind] at e3
  ·simp [Blk.kind] at e3
 | .own k, v, hk, hv => by
  unfold VR at hv ⊢
  exact ⟨hv.1, hv.2.keepK (hk k (by simp [Zbq]))⟩
 | .elt k n i off, v, hk, hv => by
  unfold VR at hv ⊢
  exact ⟨hv.1, hv.2.keepK (hk k (by simp [Zbq]))⟩
 | .agg l, v, hk, hv => by
  unfold VR at hv ⊢
  obtain ⟨vs, e, hr, h1⟩ := hv
  exact ⟨vs, e, VRs.keepK h hs l (fun k h => hk k (by simpa [Zbq] using h)) hr, h1⟩
 | .tup l, v, hk, hv => by
  unfold VR at hv ⊢
  obtain ⟨vs, e, hr⟩ := hv
  exact ⟨vs, e, VRs.keepK h hs l (fun k h => hk k (by simpa [Zbq] using h)) hr⟩
 | .iface t x, v, hk, hv => by
  unfold VR at hv ⊢
  obtain ⟨u, e, hr⟩ := hv
  exact ⟨u, e, VR.keepK h hs x (fun k h => hk k (by simpa [Zbq] using h)) hr⟩
 | .clo f l, v, hk, hv => by
  unfold VR at hv ⊢
  obtain ⟨vs, e, hr⟩ := hv
  exact ⟨vs, e, VRs.keepK h hs l (fun k h => hk k (by simpa [Zbq] using h)) hr⟩
theorem VRs.keepK (h : ∀ b, F b → w'.heap[b]? = w.heap[b]?) (hs : ∀ b, F b → F' b) : ∀ (l : List AV) {vs : List Value}, (∀ k ∈ Zcy l, Zwd tb tb' ρ ρ' k) → VRs w F tb ρ l vs → VRs w' F' tb' ρ' l vs
 | [], _, hk, hv => by unfold VRs at hv ⊢; exact hv
 | x :: r, _, hk, hv => by
  unfold VRs at hv ⊢
  obtain ⟨v, r', e, hx, hr⟩ := hv
  exact ⟨v, r', e, VR.keepK h hs x (fun k h => hk k (by simp only [Zcy, List.mem_append]; exact .inl h)) hx, VRs.keepK h hs r (fun k h => hk k (by simp only [Zcy, List.mem_append]; exact .inr h)) hr⟩
end
end
section
variable {P : Program} {X X' : Base} {N : Nat} {Q : Exit → Act → World → Prop} {ks : List Itm} {s s' : Sta} {a : Act} {w w' : World} {ρ ρ' : Nat → RV}
theorem BR.keepK {tb tb' : Nat → Option Blk} {k : Nat} {x : Blk} (h : BR X w tb ρ k x) (hF : ∀ b, FF X w tb ρ b → w'.heap[b]? = w.heap[b]?) (hs : ∀ b, FF X w tb ρ b → FF X w' tb' ρ' b)
  (hkk : ∀ t cs, x = .box t cs → ∀ j ∈ Zcy cs, Zwd tb tb' ρ ρ' j) (hρ : ρ' k = ρ k) (hO : ∀ b, x.live = true → (ρ k).fp b → w'.heap[b]? = w.heap[b]?) (hsz : w.heap.size ≤ w'.heap.size) : BR X w' tb' ρ' k x := by
 cases x with
 | box t cs =>
  obtain ⟨b, vs, e, h1, h2, h3, h4⟩ := h
  exact ⟨b, vs, hρ.trans e, h1, (hO b rfl (by rw [e]; rfl)).trans h2, VRs.keepK hF hs cs (hkk t cs rfl) h3, h4⟩
 | row e n y l =>
  obtain ⟨xs, e0, h0, h1, h2, h3, h4⟩ := h
  refine ⟨xs, by rw [hρ]; exact e0, by rw [hρ]; exact h0, ?_, h2.keep hF hs, h3, h4⟩
  rw [hρ]
  refine ⟨h1.1, h1.2.imp id ?_⟩
  rintro ⟨g, cap, cur, e1, e2, e3, r⟩
  exact ⟨g, cap, cur, e1, e2, (hO g rfl (by rw [e0, e1]; rfl)).trans e3, r⟩
 | res R =>
  obtain ⟨h1, h2⟩ := h
  refine ⟨?_, ?_⟩
  ·rw [hρ]; exact R.keep _ _ _ _ _ _ hF hs (fun b => hO b rfl) h1
  ·rw [hρ]; exact fun b hb => ⟨(h2 b hb).1, Nat.lt_of_lt_of_le (h2 b hb).2 hsz⟩
 | dead => trivial
def Zgm (ks : List Nat) (d : Nat) (R : Res) (tb : Nat → Option Blk) : Nat → Option Blk := fun j => if j = d then some (.res R) else if ks.contains j then some .dead else tb j
theorem ConcAt.join (hc : ConcAt X s a w ρ) {js : List Nat} {d : Nat} {R : Res} {v : Value} {O : Nat → Prop}
  (hlive : ∀ k ∈ js, Za6 (s.tb k) = true) (hd : (s.tb d = none ∧ d < 1000) ∨ (d ∈ js ∧ (ρ d).v = v ∧ ∃ R0, s.tb d = some (.res R0)))
  (hbox : ∀ k ∈ js, ∀ t cs, s.tb k = some (.box t cs) → (∀ t, k ∉ Zbq (s.tm t)) ∧ ∀ j t cs, s.tb j = some (.box t cs) → j ∉ js → k ∉ Zcy cs)
  (hos : w'.os = w.os) (htp : w'.tape = w.tape) (hout : w'.output = w.output) (hsz : w.heap.size ≤ w'.heap.size) (hoth : ∀ b, b < w.heap.size → (∀ k ∈ js, ¬ (ρ k).fp b) → w'.heap[b]? = w.heap[b]?)
  (hO : ∀ b, O b → (w.heap.size ≤ b ∧ b < w'.heap.size) ∨ ∃ k ∈ js, (ρ k).fp b) (hR : ∀ F' : Nat → Prop, (∀ b, FF X w s.tb ρ b → F' b) → R.rel w' F' O v) :
  ConcAt X { tm := s.tm, tb := Zgm js d R s.tb } a w' (upd ρ d ⟨v, O⟩) := by
 have hFold : ∀ b, FF X w s.tb ρ b → ∀ k ∈ js, ¬ (ρ k).fp b := fun b hb k hk => hb.2.2 k (hlive k hk)
 have hF : ∀ b, FF X w s.tb ρ b → w'.heap[b]? = w.heap[b]? := fun b hb => hoth b hb.2.1 (hFold b hb)
 have hlv : ∀ j, Za6 (Zgm js d R s.tb j) = true → j = d ∨ (j ≠ d ∧ j ∉ js ∧ Za6 (s.tb j) = true) := by
  intro j hj
  unfold Zgm at hj
  by_cases e : j = d
  ·exact .inl e
  ·rw [if_neg e] at hj
   by_cases e2 : js.contains j = true
   ·rw [if_pos e2] at hj; cases hj
   ·rw [if_neg e2] at hj
    exact .inr ⟨e, by simpa using e2, hj⟩
 have hold : ∀ k b, Za6 (s.tb k) = true → (ρ k).fp b → b < w.heap.size := by
  intro k b hk hb
  obtain ⟨x, hx, hl⟩ := Zbd hk
  exact (hc.rowBlk hx hl hb).2
 have hs : ∀ b, FF X w s.tb ρ b → FF X w' (Zgm js d R s.tb) (upd ρ d ⟨v, O⟩) b := by
  intro b hb
  refine ⟨hb.1, Nat.lt_of_lt_of_le hb.2.1 hsz, fun j hj e => ?_⟩
  rcases hlv j hj with rfl | ⟨n1, n2, n3⟩
  ·rw [Zah] at e
   rcases hO b e with ⟨h1, _⟩ | ⟨k, hk, h1⟩
   ·have := hb.2.1; omega
   ·exact hFold b hb k hk h1
  ·rw [Zaw _ _ n1] at e
   exact hb.2.2 j n3 e
 have hkept : ∀ k, (∀ t cs, s.tb k = some (.box t cs) → k ∉ js) → Zwd s.tb (Zgm js d R s.tb) ρ (upd ρ d ⟨v, O⟩) k := by
  intro k hb x hx
  by_cases e : k = d
  ·subst e
   rcases hd with ⟨hd, _⟩ | ⟨hd, hv, R0, hR0⟩
   ·rw [hd] at hx; cases hx
   ·rw [hR0] at hx; cases hx
    exact ⟨.res R, by simp [Zgm], .inl ⟨.inl rfl, by rw [Zah]; exact hv.symm⟩⟩
  ·by_cases e2 : k ∈ js
   ·refine ⟨.dead, by simp [Zgm, e, e2], .inr ⟨rfl, fun h0 => ?_⟩⟩
    cases x with
    | box t cs => exact hb t cs hx e2
    | row _ _ _ _ => simp [Blk.kind] at h0
    | res _ => simp [Blk.kind] at h0
    | dead => simp [Blk.kind] at h0
   ·exact ⟨x, by simp [Zgm, e, e2, hx], .inl ⟨.inl rfl, by rw [Zaw _ _ e]⟩⟩
 have hwp : ∀ j b, j ∉ js → Za6 (s.tb j) = true → (ρ j).fp b → w'.heap[b]? = w.heap[b]? := fun j b hj hl hb =>
  hoth b (hold j b hl hb) fun k hk hb' => hj ((hc.apart j k b hl (hlive k hk) hb hb').symm ▸ hk)
 have hmay : ∀ b, O b → X.may b ∧ b < w'.heap.size := by
  intro b hb
  rcases hO b hb with ⟨h1, h2⟩ | ⟨k, hk, h1⟩
  ·exact ⟨.inl (Nat.le_trans hc.below.size h1), h2⟩
  ·obtain ⟨x, hx, hl⟩ := Zbd (hlive k hk)
   have := hc.rowBlk hx hl h1
   exact ⟨this.1, Nat.lt_of_lt_of_le this.2 hsz⟩
 refine ⟨hc.size, hc.defers, hc.below.step hos htp hout hsz (fun b hb hm => hoth b hb fun k hk hf => ?_), fun t => ?_, fun j x hx => ?_, fun j1 j2 b h1 h2 e1 e2 => ?_, fun j hj hl => ?_⟩
 ·obtain ⟨x, hx, hl⟩ := Zbd (hlive k hk)
  exact hm (hc.rowBlk hx hl hf).1
 ·exact VR.keepK hF hs _ (fun k hk => hkept k fun t' cs hb hin => (hbox k hin t' cs hb).1 t hk) (hc.tmps t)
 ·by_cases e : j = d
  ·subst e
   have hx : some (Blk.res R) = some x := by rw [← hx]; simp [Zgm]
   cases hx
   refine ⟨?_, ?_⟩
   ·rw [Zah]; exact hR _ hs
   ·rw [Zah]; exact hmay
  ·by_cases e2 : j ∈ js
   ·have hx : some Blk.dead = some x := by rw [← hx]; simp [Zgm, e, e2]
    cases hx; trivial
   ·have hx : s.tb j = some x := by rw [← hx]; simp [Zgm, e, e2]
    exact (hc.blks j x hx).keepK hF hs (fun t cs ex k hk => hkept k fun t' cs' hb hin => (hbox k hin t' cs' hb).2 j t cs (by rw [← ex]; exact hx) e2 hk) (Zaw _ _ e) (fun b hl hb => hwp j b e2 (by rw [hx]; exact hl) hb) hsz
 ·rcases hlv j1 h1 with rfl | ⟨n1, n2, n3⟩ <;> rcases hlv j2 h2 with h | ⟨m1, m2, m3⟩
  ·exact h.symm
  ·rw [Zah] at e1; rw [Zaw _ _ m1] at e2
   rcases hO b e1 with ⟨h3, _⟩ | ⟨k, hk, h3⟩
   ·have := hold j2 b m3 e2; omega
   ·exact absurd (hc.apart j2 k b m3 (hlive k hk) e2 h3 ▸ hk) m2
  ·subst h
   rw [Zah] at e2; rw [Zaw _ _ n1] at e1
   rcases hO b e2 with ⟨h3, _⟩ | ⟨k, hk, h3⟩
   ·have := hold j1 b n3 e1; omega
   ·exact absurd (hc.apart j1 k b n3 (hlive k hk) e1 h3 ▸ hk) n2
  ·rw [Zaw _ _ n1] at e1; rw [Zaw _ _ m1] at e2
   exact hc.apart j1 j2 b n3 m3 e1 e2
 ·rcases hlv j hl with rfl | ⟨n1, n2, n3⟩
  ·rcases hd with ⟨_, h⟩ | ⟨h1, h2, R0, h3⟩
   ·omega
   ·rw [Zah]
    show v = _
    rw [← h2]
    exact hc.lent j hj (by rw [h3]; rfl)
  ·rw [Zaw _ _ n1]; exact hc.lent j hj n3
def Zfc (js : List Nat) (nb tb : Nat → Option Blk) : Nat → Option Blk := fun j => if js.contains j then nb j else tb j
def Zfw (js : List Nat) (nr ρ : Nat → RV) : Nat → RV := fun j => if js.contains j then nr j else ρ j
theorem ConcAt.split (hc : ConcAt X s a w ρ) {k : Nat} {R : Res} (hk : s.tb k = some (.res R)) {js : List Nat} {nb : Nat → Option Blk} {nr : Nat → RV} (hfree : ∀ j ∈ js, j ≠ k → s.tb j = none) (hin : k ∈ js)
  (hrv : ∀ j, 1000 ≤ j → Za6 (s.tb j) = true → j ∉ js → X'.rv j = X.rv j) (hX : X' = { X with rv := X'.rv })
  (hkk : (nr k).v = (ρ k).v ∧ ∃ x, nb k = some x ∧ (x.kind = 3 ∨ x.kind = 1)) (hfp : ∀ j ∈ js, Za6 (nb j) = true → ∀ b, (nr j).fp b → (ρ k).fp b) (hap : ∀ j1 ∈ js, ∀ j2 ∈ js, ∀ b, Za6 (nb j1) = true → Za6 (nb j2) = true → (nr j1).fp b → (nr j2).fp b → j1 = j2)
  (hlent : ∀ j ∈ js, 1000 ≤ j → Za6 (nb j) = true → (nr j).v = X'.rv j)
  (hb : (∀ b, FF X w s.tb ρ b → FF X' w (Zfc js nb s.tb) (Zfw js nr ρ) b) → ∀ j ∈ js, ∀ x, nb j = some x → BR X' w (Zfc js nb s.tb) (Zfw js nr ρ) j x) :
  ConcAt X' { tm := s.tm, tb := Zfc js nb s.tb } a w (Zfw js nr ρ) := by
 obtain ⟨rv', hX⟩ : ∃ r, X' = { X with rv := r } := ⟨_, hX⟩
 subst hX
 have hin' : ∀ {j}, j ∈ js → Zfc js nb s.tb j = nb j ∧ Zfw js nr ρ j = nr j := fun h => by unfold Zfc Zfw; rw [if_pos (by simpa using h), if_pos (by simpa using h)]; exact ⟨rfl, rfl⟩
 have hnin : ∀ {j}, j ∉ js → Zfc js nb s.tb j = s.tb j ∧ Zfw js nr ρ j = ρ j := fun h => by unfold Zfc Zfw; rw [if_neg (by simpa using h), if_neg (by simpa using h)]; exact ⟨rfl, rfl⟩
 have hlk : Za6 (s.tb k) = true := by rw [hk]; rfl
 have hs : ∀ b, FF X w s.tb ρ b → FF { X with rv := rv' } w (Zfc js nb s.tb) (Zfw js nr ρ) b := by
  intro b hb'
  refine ⟨hb'.1, hb'.2.1, fun j hj e => ?_⟩
  by_cases hi : j ∈ js
  ·rw [(hin' hi).1] at hj; rw [(hin' hi).2] at e
   exact hb'.2.2 k hlk (hfp j hi hj b e)
  ·rw [(hnin hi).1] at hj; rw [(hnin hi).2] at e
   exact hb'.2.2 j hj e
 have hkept : ∀ j, Zwd s.tb (Zfc js nb s.tb) ρ (Zfw js nr ρ) j := by
  intro j x hx
  by_cases hi : j ∈ js
  ·by_cases e : j = k
   ·subst e
    rw [hk] at hx; cases hx
    obtain ⟨h1, x', h2, h3⟩ := hkk
    refine ⟨x', by rw [(hin' hi).1]; exact h2, .inl ⟨?_, by rw [(hin' hi).2]; exact h1⟩⟩
    rcases h3 with h3 | h3
    ·exact .inl h3
    ·exact .inr ⟨.inr rfl, .inl h3⟩
   ·rw [hfree j hi e] at hx; cases hx
  ·exact ⟨x, by rw [(hnin hi).1]; exact hx, .inl ⟨.inl rfl, by rw [(hnin hi).2]⟩⟩
 have hlv : ∀ j, Za6 (Zfc js nb s.tb j) = true → (j ∈ js ∧ Za6 (nb j) = true) ∨ (j ∉ js ∧ Za6 (s.tb j) = true) := by
  intro j hj
  by_cases hi : j ∈ js
  ·rw [(hin' hi).1] at hj; exact .inl ⟨hi, hj⟩
  ·rw [(hnin hi).1] at hj; exact .inr ⟨hi, hj⟩
 refine ⟨hc.size, hc.defers, ⟨hc.below.os, hc.below.tape, hc.below.output, hc.below.size, hc.below.block⟩, fun t => VR.keepK (fun _ _ => rfl) hs _ (fun j _ => hkept j) (hc.tmps t), fun j x hx => ?_, fun j1 j2 b h1 h2 e1 e2 => ?_, fun j hj hl => ?_⟩
 ·by_cases hi : j ∈ js
  ·exact hb hs j hi x (by rw [← (hin' hi).1]; exact hx)
  ·have hx : s.tb j = some x := by rw [← (hnin hi).1]; exact hx
   have h0 : BR { X with rv := rv' } w s.tb ρ j x := by
    have := hc.blks j x hx
    cases x <;> exact this
   exact BR.keepK (X := { X with rv := rv' }) h0 (fun _ _ => rfl) hs (fun _ _ _ j _ => hkept j) (hnin hi).2 (fun _ _ _ => rfl) (Nat.le_refl _)
 ·have hnk : ∀ j, j ∉ js → j ≠ k := fun j hj e => hj (e ▸ hin)
  rcases hlv j1 h1 with ⟨a1, a2⟩ | ⟨a1, a2⟩ <;> rcases hlv j2 h2 with ⟨c1, c2⟩ | ⟨c1, c2⟩
  ·rw [(hin' a1).2] at e1; rw [(hin' c1).2] at e2
   exact hap j1 a1 j2 c1 b a2 c2 e1 e2
  ·rw [(hin' a1).2] at e1; rw [(hnin c1).2] at e2
   exact absurd (hc.apart j2 k b c2 hlk e2 (hfp j1 a1 a2 b e1)) (hnk j2 c1)
  ·rw [(hnin a1).2] at e1; rw [(hin' c1).2] at e2
   exact absurd (hc.apart j1 k b a2 hlk e1 (hfp j2 c1 c2 b e2)) (hnk j1 a1)
  ·rw [(hnin a1).2] at e1; rw [(hnin c1).2] at e2
   exact hc.apart j1 j2 b a2 c2 e1 e2
 ·rcases hlv j hl with ⟨a1, a2⟩ | ⟨a1, a2⟩
  ·rw [(hin' a1).2]; exact hlent j a1 hj a2
  ·rw [(hnin a1).2, hc.lent j hj a2]; exact (hrv j hj a2 a1).symm
theorem ConcAt.see (hc : ConcAt X s a w ρ) {t : Nat} {x : AV} (hx : VR w (FF X w s.tb ρ) s.tb ρ x (a.tmps.getD t undef)) : ConcAt X { s with tm := upd s.tm t x } a w ρ := by
 refine ⟨hc.size, hc.defers, hc.below, fun i => ?_, hc.blks, hc.apart, hc.lent⟩
 show VR _ _ _ _ (upd s.tm t x i) _
 by_cases e : i = t
 ·subst e; rw [Zah]; exact hx
 ·rw [Zaw _ _ e]; exact hc.tmps i
end
mutual
/-- A set as data. -/
def Zbs : ST PEV → PD
 | .mk m ch => .agg [.sl 4 32 (m.map Za4), .sl 5 40 (Zbi ch)]
def Zbi : List (PEV × ST PEV) → List PD
 | [] => []
 | y :: r => .agg (peC y.1 ++ [.ptr (Zbs y.2)]) :: Zbi r
end
def adr (b : Nat) : Value := .pointer (some ⟨b, 0, none⟩)
def Zss (y : PEV × Nat) : PD := .agg (peC y.1 ++ [.val (adr y.2)])
def RowAt (w : World) (F : Nat → Prop) (e n y : Nat) (l : List PD) (v : Value) : Prop :=
 ∃ xs, w.ownsRow 0 e n v l.length xs ∧ Groups w F n l xs ∧ l.length * y ≤ 140737488351232 ∧ l.length ≤ 140737488351232
theorem RowAt.keep {w w' : World} {F F' : Nat → Prop} {e n y : Nat} {l : List PD} {v : Value} (h : ∀ b, F b → w'.heap[b]? = w.heap[b]?) (hs : ∀ b, F b → F' b) (hO : ∀ b, v.ownBlock = some b → w'.heap[b]? = w.heap[b]?) (hv : RowAt w F e n y l v) : RowAt w' F' e n y l v := by
 obtain ⟨xs, h1, h2, h3⟩ := hv
 refine ⟨xs, ⟨h1.1, h1.2.imp id ?_⟩, h2.keep h hs, h3⟩
 rintro ⟨g, cap, cur, e1, e2, e3, r⟩
 exact ⟨g, cap, cur, e1, e2, (hO g (by rw [e1]; rfl)).trans e3, r⟩
mutual
/-- The set t lies at b, in blocks of its own. -/
def TreeAt (w : World) (F : Nat → Prop) : ST PEV → Nat → (Nat → Prop) → Prop
 | .mk m ch, b, O => ∃ sm sc bs, ∃ Ok : Nat → Prop, w.heap[b]? = some (.cells #[sm, sc] 122 (0, 0)) ∧ RowAt w F 99 4 32 (m.map Za4) sm ∧ RowAt w F 224 5 40 (((ch.map (·.1)).zip bs).map Zss) sc ∧ KidsAt w F ch bs Ok ∧
   (∀ x, O x ↔ x = b ∨ sm.ownBlock = some x ∨ sc.ownBlock = some x ∨ Ok x) ∧ sm.ownBlock ≠ some b ∧ sc.ownBlock ≠ some b ∧ (∀ x, sm.ownBlock = some x → sc.ownBlock ≠ some x) ∧ ¬ Ok b ∧ (∀ x, sm.ownBlock = some x → ¬ Ok x) ∧ ∀ x, sc.ownBlock = some x → ¬ Ok x
def KidsAt (w : World) (F : Nat → Prop) : List (PEV × ST PEV) → List Nat → (Nat → Prop) → Prop
 | [], bs, O => bs = [] ∧ ∀ x, ¬ O x
 | y :: r, bs, O => ∃ b bs', ∃ O1 O2 : Nat → Prop, bs = b :: bs' ∧ TreeAt w F y.2 b O1 ∧ KidsAt w F r bs' O2 ∧ (∀ x, O x ↔ O1 x ∨ O2 x) ∧ ∀ x, O1 x → ¬ O2 x
end
section
variable {w w' : World} {F F' : Nat → Prop}
mutual
theorem TreeAt.keep (h : ∀ b, F b → w'.heap[b]? = w.heap[b]?) (hs : ∀ b, F b → F' b) : ∀ (t : ST PEV) {b : Nat} {O : Nat → Prop}, (∀ x, O x → w'.heap[x]? = w.heap[x]?) → TreeAt w F t b O → TreeAt w' F' t b O
 | .mk m ch, b, O, hO, hv => by
  unfold TreeAt at hv ⊢
  obtain ⟨sm, sc, bs, Ok, h1, h2, h3, h4, h5, h6⟩ := hv
  exact ⟨sm, sc, bs, Ok, (hO b ((h5 b).2 (.inl rfl))).trans h1, h2.keep h hs fun x hx => hO x ((h5 x).2 (.inr (.inl hx))), h3.keep h hs fun x hx => hO x ((h5 x).2 (.inr (.inr (.inl hx)))), KidsAt.keep h hs ch (fun x hx => hO x ((h5 x).2 (.inr (.inr (.inr hx))))) h4, h5, h6⟩
theorem KidsAt.keep (h : ∀ b, F b → w'.heap[b]? = w.heap[b]?) (hs : ∀ b, F b → F' b) : ∀ (l : List (PEV × ST PEV)) {bs : List Nat} {O : Nat → Prop}, (∀ x, O x → w'.heap[x]? = w.heap[x]?) → KidsAt w F l bs O → KidsAt w' F' l bs O
 | [], bs, O, hO, hv => by unfold KidsAt at hv ⊢; exact hv
 | y :: r, bs, O, hO, hv => by
  unfold KidsAt at hv ⊢
  obtain ⟨b, bs', O1, O2, h1, h2, h3, h4, h5⟩ := hv
  exact ⟨b, bs', O1, O2, h1, TreeAt.keep h hs y.2 (fun x hx => hO x ((h4 x).2 (.inl hx))) h2, KidsAt.keep h hs r (fun x hx => hO x ((h4 x).2 (.inr hx))) h3, h4, h5⟩
end
theorem KidsAt.len : ∀ {l : List (PEV × ST PEV)} {bs : List Nat} {O : Nat → Prop}, KidsAt w F l bs O → bs.length = l.length
 | [], bs, O, h => by unfold KidsAt at h; rw [h.1]; rfl
 | y :: r, bs, O, h => by
  unfold KidsAt at h
  obtain ⟨b, bs', O1, O2, rfl, _, h3, _⟩ := h
  simp [h3.len]
end
end Go.Proofs.YtgmahieoiifpfaaGreat
section
namespace Go.Proofs.YtgmahieoiifpfaaGreat
section
variable {α : Type}
mutual
/-- The sets have the same structure. -/
def eqT (e : α → α → Bool) : ST α → ST α → Bool
 | .mk m ch, t => Zfa e m t.m && (decide (ch.length = t.c.length) && eqC e ch t.c)
def eqC (e : α → α → Bool) : List (α × ST α) → List (α × ST α) → Bool
 | [], _ => true
 | _ :: _, [] => false
 | y :: r, z :: q => e y.1 z.1 && (eqT e y.2 z.2 && eqC e r q)
end
variable {c : α → α → Int} {P : α → Prop} {e : α → α → Bool}
theorem Ylg (s t : ST α) : eqT e s t = (Zfa e s.m t.m && (decide (s.c.length = t.c.length) && eqC e s.c t.c)) := by cases s; unfold eqT; rfl
theorem Ydu : ∀ (l l' : List (α × ST α)), l.length = l'.length → (∀ (i : Nat) (y z : α × ST α), l[i]? = some y → l'[i]? = some z → e y.1 z.1 = true ∧ eqT e y.2 z.2 = true) → eqC e l l' = true
 | [], _, _, _ => by unfold eqC; rfl
 | y :: r, [], h, _ => by simp at h
 | y :: r, z :: q, hl, h => by
  have h0 := h 0 y z rfl rfl
  unfold eqC
  rw [h0.1, h0.2, Ydu r q (by simpa using hl) fun i y z hy hz => h (i + 1) y z (by simpa using hy) (by simpa using hz)]
  rfl
theorem Ydt : ∀ (l l' : List (α × ST α)) (i : Nat) (y z : α × ST α), l[i]? = some y → l'[i]? = some z → (e y.1 z.1 = false ∨ eqT e y.2 z.2 = false) → eqC e l l' = false
 | [], _, i, y, z, h, _, _ => by simp at h
 | y :: r, [], i, _, z, _, h, _ => by simp at h
 | u :: r, v :: q, 0, y, z, hy, hz, h => by
  simp at hy hz
  subst hy
  subst hz
  unfold eqC
  rcases h with h | h <;> rw [h] <;> simp
 | u :: r, v :: q, i + 1, y, z, hy, hz, h => by
  unfold eqC
  rw [Ydt r q i y z (by simpa using hy) (by simpa using hz) h]
  simp
theorem Zzq (l : List (α × ST α)) (q : α) : Zbn c (l.map Prod.fst) q = (Zcs c Prod.fst l q).isSome := by
 induction l with
 | nil => rfl
 | cons x l ih =>
  rw [List.map_cons, Zcf, Zdk, ih]
  by_cases h : c x.1 q = 0
  ·rw [decide_eq_true h, if_pos h]; rfl
  ·rw [decide_eq_false h, if_neg h]; rfl
theorem Zws (O : OrdL c P) {q : α} (hq : P q) : ∀ {l : List (α × ST α)} {y : α × ST α}, (∀ x ∈ l, P x.1) → Srt c (l.map Prod.fst) → y ∈ l → c y.1 q = 0 → Zcs c Prod.fst l q = some y
 | x :: r, y, hP, hs, hy, h => by
  rw [List.map_cons, Zek] at hs
  rw [Zdk]
  rcases List.mem_cons.1 hy with rfl | hy
  ·rw [if_pos h]
  ·have h1 := hs.1 y.1 (List.mem_map.2 ⟨y, hy, rfl⟩)
   have h2 := (O.tri x.1 y.1 q (hP x (by simp)) (hP y (by simp [hy])) hq).zq h
   rw [if_neg (by omega)]
   exact Zws O hq (fun z hz => hP z (by simp [hz])) hs.2 hy h
theorem Yrl (O : OrdL c P) {t : ST α} (h : WFT c P t) (hn : Zc0 t ≠ []) : ∃ q, PP P q ∧ Zdl c t q = true := by
 cases hw : Zc0 t with
 | nil => exact absurd hw hn
 | cons q r =>
  have hm : q ∈ Zc0 t := by rw [hw]; simp
  have hq := Zec t h q hm
  exact ⟨q, hq, by rw [← Yll O h hq]; exact Zqm (Yht O) hm hq⟩
theorem Ylh (O : OrdL c P) (he : ∀ x y, P x → P y → (e x y = true ↔ c x y = 0)) : ∀ (n : Nat) (s t : ST α), dpT s < n → WFT c P s → WFT c P t → NET s → NET t → (∀ q, PP P q → Zdl c s q = Zdl c t q) → eqT e s t = true
 | 0, _, _, h, _, _, _, _, _ => by omega
 | n + 1, s, t, hd, hs, ht, ns, nt, hq => by
  obtain ⟨a1, a2, a3, a4⟩ := WFT_iff.1 hs
  obtain ⟨b1, b2, b3, b4⟩ := WFT_iff.1 ht
  have a4 := WFC_iff.1 a4
  have b4 := WFC_iff.1 b4
  have hm : Zca c s.m t.m = 0 := Zj0 O _ _ a1 b1 a2 b2 fun q hp => by
   have := hq [q] ⟨by simp, fun x hx => by rw [List.mem_singleton] at hx; rw [hx]; exact hp⟩
   rwa [Ze1, Ze1] at this
  have key : ∀ {u v : ST α}, WFT c P u → WFT c P v → NET u → (∀ q, PP P q → Zdl c u q = Zdl c v q) → ∀ q, P q → (Zcs c Prod.fst u.c q).isSome = true → (Zcs c Prod.fst v.c q).isSome = true := fun {u v} hu hv nu h q hp hf => by
   cases hy : Zcs c Prod.fst u.c q with
   | none => rw [hy] at hf; cases hf
   | some y =>
    obtain ⟨p, hpp, h1⟩ := Yrl O (Zfp hu (Zkf hy).1).2 (NET_iff.1 nu y (Zkf hy).1).1
    have h2 := h (q :: p) ⟨by simp, fun x hx => by
     rcases List.mem_cons.1 hx with rfl | hx
     ·exact hp
     ·exact hpp.2 x hx⟩
    rw [Zgl O hu hp hpp.1, Zgl O hv hp hpp.1, hy] at h2
    simp only at h2
    rw [h1] at h2
    cases hz : Zcs c Prod.fst v.c q with
    | none => rw [hz] at h2; cases h2
    | some z => rfl
  have hk : Zca c (s.c.map Prod.fst) (t.c.map Prod.fst) = 0 := Zj0 O _ _ (fun x hx => by obtain ⟨y, hy, rfl⟩ := List.mem_map.1 hx; exact (a4 y hy).1) (fun x hx => by obtain ⟨y, hy, rfl⟩ := List.mem_map.1 hx; exact (b4 y hy).1) a3 b3 fun q hp => by
   rw [Zzq, Zzq]
   have k1 := key hs ht ns hq q hp
   have k2 := key ht hs nt (fun q hq' => (hq q hq').symm) q hp
   cases h1 : (Zcs c Prod.fst s.c q).isSome <;> cases h2 : (Zcs c Prod.fst t.c q).isSome <;> simp_all
  have hl : s.c.length = t.c.length := by have := Zfs hk; simpa using this
  rw [Ylg, (Zm7 fun x hx y hy => he x y (a1 x hx) (b1 y hy)).2 hm, decide_eq_true hl, Bool.true_and, Bool.true_and]
  refine Ydu _ _ hl fun i y z hy hz => ?_
  have ym := List.mem_of_getElem? hy
  have zm := List.mem_of_getElem? hz
  have hyz : c y.1 z.1 = 0 := (cmpLx_zero.1 hk).2 i y.1 z.1 (by simp [hy]) (by simp [hz])
  refine ⟨(he _ _ (a4 y ym).1 (b4 z zm).1).2 hyz, Ylh O he n y.2 z.2 (by have := Zeu ym; omega) (a4 y ym).2 (b4 z zm).2 (NET_iff.1 ns y ym).2 (NET_iff.1 nt z zm).2 fun q hq' => ?_⟩
  have hp := (b4 z zm).1
  have h2 := hq (z.1 :: q) ⟨by simp, fun x hx => by
   rcases List.mem_cons.1 hx with rfl | hx
   ·exact hp
   ·exact hq'.2 x hx⟩
  rw [Zgl O hs hp hq'.1, Zgl O ht hp hq'.1, Zws O hp (fun x hx => (a4 x hx).1) a3 ym hyz, Zws O hp (fun x hx => (b4 x hx).1) b3 zm (O.self hp)] at h2
  exact h2
mutual
theorem Zf3 {Q : α → Prop} (h : ∀ x, P x → Q x) : ∀ (t : ST α), WFT c P t → WFT c Q t
 | .mk m ch, ht => by
  unfold WFT at ht ⊢
  exact ⟨fun x hx => h x (ht.1 x hx), ht.2.1, ht.2.2.1, Zx6 h ch ht.2.2.2⟩
theorem Zx6 {Q : α → Prop} (h : ∀ x, P x → Q x) : ∀ (l : List (α × ST α)), WFC c P l → WFC c Q l
 | [], _ => by unfold WFC; trivial
 | y :: r, ht => by
  unfold WFC at ht ⊢
  exact ⟨h y.1 ht.1, Zf3 h y.2 ht.2.1, Zx6 h r ht.2.2⟩
end
theorem Yas : ∀ (l : List (α × ST α)), NEC l → l.length ≤ (Zba l).length
 | [], _ => by simp
 | y :: r, h => by
  unfold NEC at h
  unfold Zba
  have := Yas r h.2.2
  have : 0 < (Zc0 y.2).length := List.length_pos_iff.2 h.1
  simp only [List.length_append, List.length_map, List.length_cons]
  omega
mutual
theorem Yk4 {n : Nat} : ∀ (t : ST α), NET t → (Zc0 t).length ≤ n → SzT n t
 | .mk m ch, h, hk => by
  unfold NET at h
  unfold Zc0 at hk
  rw [List.length_append, List.length_map] at hk
  have := Yas ch h
  unfold SzT
  exact ⟨by omega, by omega, Yk3 ch h (by omega)⟩
theorem Yk3 {n : Nat} : ∀ (l : List (α × ST α)), NEC l → (Zba l).length ≤ n → SzC n l
 | [], _, _ => by unfold SzC; trivial
 | y :: r, h, hk => by
  unfold NEC at h
  unfold Zba at hk
  rw [List.length_append, List.length_map] at hk
  unfold SzC
  exact ⟨Yk4 y.2 h.2.1 (by omega), Yk3 r h.2.2 (by omega)⟩
end
theorem Ykp : ∀ (l : List α), (Zvt c l).length ≤ l.length := fun l => by
 have : ∀ (l acc : List α), (l.foldl (Zdj c) acc).length ≤ acc.length + l.length := by
  intro l
  induction l with
  | nil => intro acc; simp
  | cons x l ih =>
   intro acc
   have h1 := ih (Zdj c acc x)
   have h2 := Zw1 (c := c) acc x
   simp only [List.foldl_cons, List.length_cons]
   omega
 have := this l []
 simpa [Zvt] using this
theorem Yau (O : OrdL c P) {u s t : ST α} (hu : WFT c P u) (hs : WFT c P s) (ht : WFT c P t) (h : ∀ q, PP P q → Zdl c u q = (Zdl c s q || Zdl c t q)) : (Zc0 u).length ≤ (Zc0 s).length + (Zc0 t).length := by
 have hP : ∀ x ∈ Zc0 s ++ Zc0 t, PP P x := fun x hx => by
  rcases List.mem_append.1 hx with hx | hx
  ·exact Zec s hs x hx
  ·exact Zec t ht x hx
 have e := Yat O hu (l := Zvt (cw c) (Zc0 s ++ Zc0 t)) (Yr1 (Yht O) hP) (Yg1 (Yht O) hP) fun q hq => by
  rw [Yed (Yht O) hP hq, Zwx, Yll O hs hq, Yll O ht hq, h q hq]
 rw [Zfs e]
 have := Ykp (c := cw c) (Zc0 s ++ Zc0 t)
 rwa [List.length_append] at this
theorem Yep {d : Nat} : ∀ (p : List α) (t : ST α), p.length ≤ d + 1 → dpT t ≤ d → dpT (Zgy c p t) ≤ d
 | [], t, _, h => by unfold Zgy; exact h
 | [p], t, _, h => by
  unfold Zgy
  rw [Zry] at h ⊢
  exact h
 | p :: q :: r, t, hp, h => by
  rw [Zry] at h ⊢
  unfold Zgy
  refine Yds fun y hy => ?_
  rcases Zf7 hy with hy | ⟨e, _⟩
  ·have := Zrx hy; omega
  ·rw [e]
   simp only [List.length_cons] at hp
   cases d with
   | zero => omega
   | succ d =>
    have hg : dpT ((Zea c t.c p).getD (.mk [] [])) ≤ d := by
     cases hg : Zea c t.c p with
     | none =>
      show dpT (ST.mk [] []) ≤ d
      rw [Zry]
      show dpC [] ≤ d
      unfold dpC
      omega
     | some t' =>
      obtain ⟨k, h1, _⟩ := Ziq hg
      have := Zrx h1
      show dpT t' ≤ d
      simp only at this
      omega
    have := Yep (d := d) (q :: r) _ (by simp only [List.length_cons]; omega) hg
    omega
theorem Ylq {ps : List (List α)} {d : Nat} (h : ∀ p ∈ ps, p.length ≤ d + 1) : dpT (ofP c ps) ≤ d := by
 unfold ofP
 have : ∀ (ps : List (List α)) (t : ST α), (∀ p ∈ ps, p.length ≤ d + 1) → dpT t ≤ d → dpT (ps.foldl (fun t p => Zgy c p t) t) ≤ d := by
  intro ps
  induction ps with
  | nil => intro t _ h; exact h
  | cons p ps ih => intro t hp h; exact ih _ (fun q hq => hp q (by simp [hq])) (Yep p t (hp p (by simp)) h)
 refine this ps _ h ?_
 rw [Zry]
 show dpC [] ≤ d
 unfold dpC
 omega
end
end Go.Proofs.YtgmahieoiifpfaaGreat
end
namespace Go.Proofs.YtgmahieoiifpfaaGreat
open Go.RowKit
def nd (y : PEV × ST PEV) : PD := .agg (peC y.1 ++ [.ptr (Zbs y.2)])
theorem Zeq : ∀ (l : List (PEV × ST PEV)), Zbi l = l.map nd
 | [] => by unfold Zbi; rfl
 | y :: r => by
  unfold Zbi
  rw [List.map_cons, Zeq r]
  rfl
theorem Zl2 (y : PEV × ST PEV) : ∃ u0 u1 u2 u3, (∀ t, nd (y.1, t) = .agg [u0, u1, u2, u3, .ptr (Zbs t)]) ∧ Za4 y.1 = .agg [u0, u1, u2, u3] := by
 obtain ⟨a, b, c, d, e⟩ := Ze5 y.1
 exact ⟨a, b, c, d, fun t => by unfold nd; rw [e]; rfl, by rw [Zqd, e]⟩
def ndN (kl kr kb : Bool) (n : Nat) : List (PEV × ST PEV) → List (PEV × ST PEV) → List (PEV × ST PEV) := mrg Zaf Prod.fst (fun x => if kl then some x else none) (fun y => if kr then some y else none) (fun x y => if kr || !emT (opN Zaf kl kr kb n x.2 y.2) then some (x.1, opN Zaf kl kr kb n x.2 y.2) else none)
theorem Yaj {α : Type} (l : List α) : l.filterMap (fun x => if (true : Bool) then some x else none) = l := by simp
theorem Ycd (n : Nat) (a b : List (PEV × ST PEV)) (hz : a.length + b.length ≤ 1099511627776) (ih : ∀ x ∈ a, ∀ y ∈ b, PCall Tryz.prog 101 [.ptr (Zbs x.2), .ptr (Zbs y.2)] (.ptr (Zbs (opN Zaf true true true n x.2 y.2)))) : PCall Tryz.prog 165 [.ptr (.agg [.sl 5 40 (Zbi a)]), .ptr (.agg [.sl 5 40 (Zbi b)])] (.ptr (.agg [.sl 5 40 (Zbi (ndN true true true n a b))])) := by
 rw [Zeq, Zeq, Zeq]
 have na : (a.map nd).length = a.length := by simp
 have nb : (b.map nd).length = b.length := by simp
 have ga : ∀ {i : Nat} {x : PEV × ST PEV}, a[i]? = some x → (a.map nd)[((i : Nat) : Int).toNat]? = some (nd x) := Zji nd
 have gb : ∀ {i : Nat} {x : PEV × ST PEV}, b[i]? = some x → (b.map nd)[((i : Nat) : Int).toNat]? = some (nd x) := Zji nd
 have ra := fun o i => Znd nd o a i
 have rb := fun o i => Znd nd o b i
 have nr : ∀ l, ndN true true true n l [] = l := fun l => by unfold ndN; rw [Zkx]; exact Yaj l
 have nl : ∀ l, ndN true true true n [] l = l := fun l => by unfold ndN; rw [Zox]; exact Yaj l
 have st : ∀ (x y : PEV × ST PEV) (p q : List (PEV × ST PEV)), ndN true true true n (x :: p) (y :: q) = if Zaf x.1 y.1 < 0 then x :: ndN true true true n p (y :: q) else if Zaf y.1 x.1 < 0 then y :: ndN true true true n (x :: p) q else (x.1, opN Zaf true true true n x.2 y.2) :: ndN true true true n p q := fun x y p q => by
  unfold ndN; rw [Zkv]
  rfl
 generalize ndN true true true n = f at *
 generalize hr : f a b = r
 generalize a.map nd = da at *
 generalize b.map nd = db at *
 refine Zaa Tryz.func165 rfl Tryz.ntmps165 rfl (fun X => ?_)
 refine wk ?_
 refine Zde 9 0 400 224 5 40 rfl rfl rfl ?_
 refine Zaq (ι := { p : (Nat × Nat) × List (PEV × ST PEV) // p.1.1 ≤ a.length ∧ p.1.2 ≤ b.length ∧ p.2.length ≤ p.1.1 + p.1.2 ∧ p.2 ++ f (a.drop p.1.1) (b.drop p.1.2) = r })
  (fun p => [(0, .dat (.ptr (.agg [.sl 5 40 da]))), (1, .dat (.ptr (.agg [.sl 5 40 db]))), (5, .ptr 9 0), (6, .dat (.val (.int .i64 (p.1.1.1 : Nat)))), (7, .dat (.val (.int .i64 (p.1.1.2 : Nat))))])
  (fun p => [(9, .box 120 [.own 400]), (400, .row 224 5 40 (p.1.2.map nd))]) (fun p => (a.length - p.1.1.1) + (b.length - p.1.1.2)) ⟨((0, 0), []), Nat.zero_le _, Nat.zero_le _, Nat.le_refl _, hr⟩ id ?_ ?_
 ·exact sb
 rintro ⟨⟨⟨i, j⟩, o⟩, h1, h2, h3, h4⟩
 simp only at h1 h2 h3 h4
 simp only
 by_cases hi : i < a.length
 ·have g1 : decide ((i : Int) < ((da.length : Nat) : Int)) = true := decide_eq_true (by omega)
  by_cases hj : j < b.length
  ·have g2 : decide ((j : Int) < ((db.length : Nat) : Int)) = true := decide_eq_true (by omega)
   obtain ⟨x, hx⟩ : ∃ x, a[i]? = some x := ⟨_, List.getElem?_eq_getElem hi⟩
   obtain ⟨y, hy⟩ : ∃ y, b[j]? = some y := ⟨_, List.getElem?_eq_getElem hj⟩
   rw [Zf5 hx, Zf5 hy, st] at h4
   have i1 := ga hx
   have i2 := gb hy
   have c1 := Znh x.1 y.1
   have c2 := Znh y.1 x.1
   have c3 := ih x (List.mem_of_getElem? hx) y (List.mem_of_getElem? hy)
   obtain ⟨u0, u1, u2, u3, ex, ex1⟩ := Zl2 x
   obtain ⟨v0, v1, v2, v3, ey, ey1⟩ := Zl2 y
   rw [show nd x = nd (x.1, x.2) from rfl, ex] at i1
   rw [show nd y = nd (y.1, y.2) from rfl, ey] at i2
   rw [ex1, ey1] at c1 c2
   generalize opN Zaf true true true n x.2 y.2 = R at *
   clear nl nr st ga gb ra rb
   by_cases k1 : Zaf x.1 y.1 < 0
   ·rw [decide_eq_true k1] at c1
    rw [if_pos k1, ← Zf5 hy] at h4
    have e := Zi6 nd o (x.1, x.2)
    have hb := Ya2 (n := (o.map nd).length) (k := [nd (x.1, x.2)].length) (y := 40) (by rw [List.length_map]; exact h3) (show i + j ≤ 1099511627776 by omega) (by decide) rfl
    have hb1 := hb.1
    have hb2 := hb.2
    clear hb
    rw [ex x.2] at e hb1 hb2
    generalize o.map nd = od at *
    refine wk ?_
    refine Zan ?_
    refine ⟨⟨((i + 1, j), o ++ [x]), by simp only; omega, by simp only; omega, by simp only [List.length_append, List.length_cons, List.length_nil]; omega, by simp only; rw [List.append_assoc]; exact h4⟩, (fun k => if k = 400 then 56 else k), by simp only; omega, ?_⟩
    exact sb
   ·rw [decide_eq_false k1] at c1
    rw [if_neg k1] at h4
    by_cases k2 : Zaf y.1 x.1 < 0
    ·rw [decide_eq_true k2] at c2
     rw [if_pos k2, ← Zf5 hx] at h4
     have e := Zi6 nd o (y.1, y.2)
     have hb := Ya2 (n := (o.map nd).length) (k := [nd (y.1, y.2)].length) (y := 40) (by rw [List.length_map]; exact h3) (show i + j ≤ 1099511627776 by omega) (by decide) rfl
     have hb1 := hb.1
     have hb2 := hb.2
     clear hb
     rw [ey y.2] at e hb1 hb2
     generalize o.map nd = od at *
     refine wk ?_
     refine Zan ?_
     refine ⟨⟨((i, j + 1), o ++ [y]), by simp only; omega, by simp only; omega, by simp only [List.length_append, List.length_cons, List.length_nil]; omega, by simp only; rw [List.append_assoc]; exact h4⟩, (fun k => if k = 400 then 129 else k), by simp only; omega, ?_⟩
     exact sb
    ·rw [decide_eq_false k2] at c2
     rw [if_neg k2] at h4
     have e := Zi6 nd o (x.1, R)
     have hb := Ya2 (n := (o.map nd).length) (k := [nd (x.1, R)].length) (y := 40) (by rw [List.length_map]; exact h3) (show i + j ≤ 1099511627776 by omega) (by decide) rfl
     have hb1 := hb.1
     have hb2 := hb.2
     clear hb
     rw [ex R] at e hb1 hb2
     generalize o.map nd = od at *
     refine wk ?_
     refine Zan ?_
     refine ⟨⟨((i + 1, j + 1), o ++ [(x.1, R)]), by simp only; omega, by simp only; omega, by simp only [List.length_append, List.length_cons, List.length_nil]; omega, by simp only; rw [List.append_assoc]; exact h4⟩, (fun k => if k = 400 then 111 else k), by simp only; omega, ?_⟩
     exact sb
  ·have g2 : decide ((j : Int) < ((db.length : Nat) : Int)) = false := decide_eq_false (by omega)
   have e := ra o i
   rw [show o ++ a.drop i = r by rw [← h4, List.drop_eq_nil_of_le (i := j) (by omega), nr]] at e
   have hb := Yh2 (n := (o.map nd).length) (k := ((da.take da.length).drop i).length) (m := a.length + b.length) (y := 40) (by rw [List.length_map, List.length_drop, List.length_take]; omega) hz (by decide)
   have hb1 := hb.1
   have hb2 := hb.2
   clear hb
   generalize o.map nd = od at *
   rw [← e]
   refine wk ?_
   refine Zbj (fun _ => false) (fun k => Nat.beq k 152) ?_
   refine Zbj (fun t => Nat.beq t 120) (fun k => Nat.beq k 9) ?_
   exact wke
 ·have g1 : decide ((i : Int) < ((da.length : Nat) : Int)) = false := decide_eq_false (by omega)
  by_cases hj : j < b.length
  ·have g2 : decide ((j : Int) < ((db.length : Nat) : Int)) = true := decide_eq_true (by omega)
   have e := rb o j
   rw [show o ++ b.drop j = r by rw [← h4, List.drop_eq_nil_of_le (i := i) (by omega), nl]] at e
   have hb := Yh2 (n := (o.map nd).length) (k := ((db.take db.length).drop j).length) (m := a.length + b.length) (y := 40) (by rw [List.length_map, List.length_drop, List.length_take]; omega) hz (by decide)
   have hb1 := hb.1
   have hb2 := hb.2
   clear hb
   generalize o.map nd = od at *
   rw [← e]
   refine wk ?_
   refine Zbj (fun _ => false) (fun k => Nat.beq k 173) ?_
   refine Zbj (fun t => Nat.beq t 120) (fun k => Nat.beq k 9) ?_
   exact wke
  ·have g2 : decide ((j : Int) < ((db.length : Nat) : Int)) = false := decide_eq_false (by omega)
   obtain rfl : o = r := by rw [← h4, List.drop_eq_nil_of_le (i := i) (by omega), nl, List.drop_eq_nil_of_le (i := j) (by omega), List.append_nil]
   refine Zbj (fun _ => false) (fun k => Nat.beq k 400) ?_
   refine Zbj (fun t => Nat.beq t 120) (fun k => Nat.beq k 9) ?_
   exact wke
theorem Yrp (kl kr kb : Bool) (n : Nat) (m m2 : List PEV) (ch ch2 : List (PEV × ST PEV)) : opN Zaf kl kr kb (n + 1) (.mk m ch) (.mk m2 ch2) = .mk (opM Zaf kl kr kb m m2) (ndN kl kr kb n ch ch2) := Zo1
theorem Ycc (n : Nat) : ∀ (s t : ST PEV) (ka kb : Nat), dpT s < n → SzT ka s → SzT kb t → ka + kb ≤ 1099511627776 → PCall Tryz.prog 101 [.ptr (Zbs s), .ptr (Zbs t)] (.ptr (Zbs (opN Zaf true true true n s t))) := by
 induction n with
 | zero => exact fun s t ka kb h => absurd h (Nat.not_lt_zero _)
 | succ n ih =>
  intro s t ka kb hd hs ht hk
  obtain ⟨m, ch⟩ := s
  obtain ⟨m2, ch2⟩ := t
  obtain ⟨s1, s2, s3⟩ := SzT_iff.1 hs
  obtain ⟨t1, t2, t3⟩ := SzT_iff.1 ht
  simp only [ST.m, ST.c] at s1 s2 s3 t1 t2 t3
  have c1 := Ybz m m2 (by omega)
  have c2 := Ycd n ch ch2 (by omega) (fun x hx y hy => ih x.2 y.2 ka kb (by have := Zeu (t := ST.mk m ch) hx; omega) (s3 x hx) (t3 y hy) hk)
  rw [Yrp]
  unfold Zbs
  clear ih s3 t3 hs ht hd
  generalize Zbi (ndN _ _ _ _ _ _) = d1 at *
  generalize (opM _ _ _ _ _ _).map Za4 = d2 at *
  generalize m.map Za4 = d3 at *
  generalize m2.map Za4 = d4 at *
  generalize Zbi ch = d5 at *
  generalize Zbi ch2 = d6 at *
  refine Zaa Tryz.func101 rfl Tryz.ntmps101 rfl (fun X => ?_)
  refine wk ?_
  refine Zbj (fun t => Nat.beq t 122) (fun k => Nat.beq k 24) ?_
  exact wke
def slV (g len cap : Nat) : Value := .slice (some ⟨g, 0, none⟩) len cap
def atR (g cap e y : Nat) (l : List PD) : Res where
 rel w F O u := u = slV g l.length cap ∧ (∃ xs, w.ownsRow 0 e 1 u l.length xs ∧ Groups w F 1 l xs ∧ l.length * y ≤ 140737488351232 ∧ l.length ≤ 140737488351232) ∧ ∀ b, O b ↔ b = g
 d := .sl 1 y l
 one := by rintro w F O v ⟨rfl, _⟩; rfl
 keep := by
  rintro w w' F F' O v h hs hO ⟨rfl, ⟨xs, h1, h2, h3, h4⟩, h5⟩
  refine ⟨rfl, ⟨xs, ⟨h1.1, h1.2.imp id ?_⟩, h2.keep h hs, h3, h4⟩, h5⟩
  rintro ⟨g', cap', cur, e1, e2, e3, r⟩
  refine ⟨g', cap', cur, e1, e2, (hO g' ((h5 g').2 ?_)).trans e3, r⟩
  unfold slV at e1
  injection e1 with e1 _ _
  injection e1 with e1
  injection e1 with e1
  exact e1.symm
 frz := by
  rintro w F O F' v hs hO ⟨rfl, ⟨xs, h1, h2, h3, h4⟩, h5⟩
  unfold Rep
  rcases h1.2 with ⟨e1, e2⟩ | ⟨g', cap', cur, e1, hB, hg, hc1, _, hc2, hc3⟩
  ·cases e1
  ·have e1' := e1
   unfold slV at e1'
   injection e1' with e2 _ e3
   injection e2 with e2
   injection e2 with e2
   subst e2
   refine ⟨some ⟨g, 0, none⟩, cap, rfl, by omega, h3, h4, .inr ⟨g, 0, hO g ((h5 g).2 rfl), rfl, ?_⟩⟩
   refine (h2.keep (fun _ _ => rfl) hs).lies fun j u hj => ?_
   rw [cell_of_row w g (0 + j) _ _ _ hg]
   rw [← hc3, List.getElem?_take] at hj
   split at hj
   ·simpa using hj
   ·cases hj
section
variable {P : Program} {X : Base} {N : Nat} {Q : Exit → Act → World → Prop} {opa : Array Oper} {rem : List Nat} {ks : List Itm} {ops : List Oper} {s s' : Sta} {a : Act} {w w' : World} {ρ : Nat → RV}
theorem Zxn {k t d e y : Nat} {l : List PD} (hk : s.tb k = some (.row e 1 y l)) (ht : s.tm t = .own k) (hd : s.tb d = none) (hd1 : d < 1000) (hl : 0 < l.length)
  (h : ∀ g cap, Run P X N Q ks { tm := upd s.tm t (.own d), tb := upd (upd s.tb k (some .dead)) d (some (.res (atR g cap e y l))) }) : Run P X N Q ks s := ⟨fun hN a w hc => by
 obtain ⟨ρ, hc⟩ := hc
 obtain ⟨xs, q0, qm, q1, q2, q3, q4⟩ := hc.blks k _ hk
 obtain ⟨g, cap, hv⟩ : ∃ g cap, (ρ k).v = slV g l.length cap := by
  rcases q1.2 with ⟨e1, e2⟩ | ⟨g', cap', cur, e1, _⟩
  ·omega
  ·exact ⟨g', cap', e1⟩
 have hne : k ≠ d := fun h => by rw [h, hd] at hk; cases hk
 have hj := hc.join (js := [k]) (d := d) (R := atR g cap e y l) (v := (ρ k).v) (O := (ρ k).fp) (w' := w) (fun j hj => by
   rw [List.mem_singleton] at hj; subst hj; rw [hk]; rfl) (.inl ⟨hd, hd1⟩) (fun j hj t cs hcs => by
   rw [List.mem_singleton] at hj; subst hj; rw [hk] at hcs; cases hcs) rfl rfl rfl (Nat.le_refl _) (fun _ _ _ => rfl) (fun b hb => .inr ⟨k, by simp, hb⟩) (fun F' hF' => ⟨hv, ⟨xs, ⟨q1.1, q1.2.imp id (by
    rintro ⟨g', cap', cur, e1, e2, r⟩
    exact ⟨g', cap', cur, e1, Nat.zero_le _, r⟩)⟩, q2.keep (fun _ _ => rfl) hF', q3, q4⟩, fun b => by
     rw [q0, hv]
     show (some g = some b) ↔ b = g
     constructor
     ·intro h; exact (Option.some.inj h).symm
     ·intro h; rw [h]⟩)
 have e : Zgm [k] d (atR g cap e y l) s.tb = upd (upd s.tb k (some .dead)) d (some (.res (atR g cap e y l))) := by
  funext j
  unfold Zgm upd
  by_cases h1 : j = d
  ·rw [if_pos h1, if_pos h1]
  ·rw [if_neg h1, if_neg h1]
   by_cases h2 : j = k
   ·rw [if_pos h2, if_pos (by simp [h2])]
   ·rw [if_neg h2, if_neg (by simp [h2])]
 rw [e] at hj
 have ht1 := hc.tmps t
 rw [ht] at ht1
 have ht2 := Zjf ht1 hk
 refine (h g cap).out hN a w ⟨_, hj.see (t := t) (x := .own d) ?_⟩
 unfold VR
 refine ⟨by rw [ht2, hv]; rfl, .inl ⟨_, Zah _ _ _, .inr rfl, ?_⟩⟩
 rw [Zah]
 exact ht2⟩
theorem Zru {k g cap e y : Nat} {l : List PD} (hk : s.tb k = some (.res (atR g cap e y l))) (h : Conc X s a w) : Conc X (s.set k (.row e 1 y l)) a w := by
 obtain ⟨ρ, hc⟩ := h
 obtain ⟨⟨e1, ⟨xs, q1, q2, q3, q4⟩, q5⟩, q6⟩ := hc.blks k _ hk
 have hs := hc.split (X' := X) hk (js := [k]) (nb := fun _ => some (.row e 1 y l)) (nr := fun _ => RV.of (ρ k).v) (fun j hj hne => absurd (List.mem_singleton.1 hj) hne) (by simp) (fun _ _ _ _ => rfl) rfl ⟨rfl, _, rfl, .inr rfl⟩ (fun j hj hl b hb => by
   rw [e1] at hb
   have hb : some g = some b := hb
   exact (q5 b).2 (Option.some.inj hb).symm) (fun j1 h1 j2 h2 b _ _ _ _ => (List.mem_singleton.1 h1).trans (List.mem_singleton.1 h2).symm) (fun j hj h1 h2 => by
   rw [List.mem_singleton] at hj; subst hj
   exact hc.lent j h1 (by rw [hk]; rfl)) (fun hF j hj x hx => by
   rw [List.mem_singleton] at hj; subst hj
   cases hx
   have ev : Zfw [j] (fun _ => RV.of (ρ j).v) ρ j = RV.of (ρ j).v := by unfold Zfw; rw [if_pos (by simp)]
   refine ⟨xs, by rw [ev]; rfl, fun b hb => ?_, ?_, q2.keep (fun _ _ => rfl) hF, q3, q4⟩
   ·rw [ev, e1] at hb
    have hb : some g = some b := hb
    exact (q6 b ((q5 b).2 (Option.some.inj hb).symm)).1
   ·rw [ev]
    refine ⟨q1.1, q1.2.imp id ?_⟩
    rintro ⟨g', cap', cur, f1, _, r⟩
    refine ⟨g', cap', cur, f1, ?_, r⟩
    rw [e1] at f1
    unfold slV at f1
    injection f1 with f2 _ _
    injection f2 with f2
    injection f2 with f2
    exact f2 ▸ Base.mayB (q6 g ((q5 g).2 rfl)).1)
 have et : Zfc [k] (fun _ => some (.row e 1 y l)) s.tb = upd s.tb k (some (.row e 1 y l)) := by
  funext j
  unfold Zfc upd
  by_cases h2 : j = k
  ·rw [if_pos h2, if_pos (by simp [h2])]
  ·rw [if_neg h2, if_neg (by simp [h2])]
 rw [et] at hs
 exact ⟨_, hs⟩
theorem Ybn {d : Option Tmp} {op : Op} {k g cap e y : Nat} {l : List PD} (hk : s.tb k = some (.res (atR g cap e y l))) (h : Zbp P X N Q opa rem ks d op (s.set k (.row e 1 y l))) : Zbp P X N Q opa rem ks d op s := ⟨fun ty pos aft => ⟨fun hX a w hc => (h.out ty pos aft).out hX a w (Zru hk hc)⟩⟩
theorem Yfz {o : Oper} (hd : Za7 X.N o.dst = true) {t : TypeId} {x lo : Operand} (ho : o.op = .slice t x (some lo) none none) {k g cap e y e' y' p : Nat} {l : List PD} (hx : s.ev x = .own k) (hk : s.tb k = some (.res (atR g cap e y l))) (ht : Zp0 P t = some (e', 1, y')) (hlo : s.ev lo = .dat (.val (.int .i64 (p : Int)))) (hp : p ≤ l.length) :
  OpS P X o s (s.put o.dst (.dat (.val (.slice (some ⟨g, if cap = p then 0 else p, none⟩) (l.length - p) (cap - p))))) := by
 refine Zat hd fun a w ρ hc => ?_
 have h2 := hc.ev x
 rw [hx] at h2
 have h3 := Zhu h2 hk rfl
 obtain ⟨⟨e1, ⟨xs, q1, _⟩, _⟩, _⟩ := hc.blks k _ hk
 rw [e1] at h3
 have hcap : l.length ≤ cap := by
  rw [e1] at q1
  rcases q1.2 with ⟨f1, _⟩ | ⟨g', cap', cur, f1, _, _, f2, _⟩
  ·cases f1
  ·unfold slV at f1
   injection f1 with _ _ f3
   omega
 obtain ⟨inf, hu, hi1, hs1, hb1⟩ := Zcd ht
 have hl := hc.ev lo
 rw [hlo] at hl
 unfold VR Rep at hl
 refine ⟨.slice (some ⟨g, if cap = p then 0 else p, none⟩) (l.length - p) (cap - p), ?_, by unfold VR Rep; exact ⟨rfl, trivial⟩⟩
 have hb : (Instr.sliceBounds true l.length cap (some (a.eval lo)) none none).run P w = .ok (p, l.length, cap) w := by
  have := Zlb (P := P) (w := w) (k := .i64) hp .sliceB
  simp [Instr.sliceBounds, hl.1, this]
 have hr : (Instr.sliceAt t (a.eval x) (some (a.eval lo)) none none).run P w = .ok (.slice (some ⟨g, if cap = p then 0 else p, none⟩) (l.length - p) (cap - p)) w := by
  rw [h3]
  unfold slV
  simp only [Instr.sliceAt, Sem.run_bind, run_underlying hu, Result.andThen_ok, Instr.slice, hb, sizeOf, typeInfo, run_program, hi1, Sem.run_pure, hs1]
  by_cases hcp : cap = p
  ·rw [if_pos hcp, if_pos hcp]
  ·rw [if_neg hcp, if_neg hcp]
   simp [Zb2]
 simp [execOp, ho, hr]
theorem Zys {d : Nat} {t : Nat} {x lo : Operand} {k g cap e y e' y' p : Nat} {l : List PD} (hN : Nat.blt d N = true) (hx : s.ev x = .own k) (hk : s.tb k = some (.res (atR g cap e y l))) [ht : SI P t e' 1 y'] (hlo : s.ev lo = .dat (.val (.int .i64 (p : Int)))) (hp : p ≤ l.length) :
  TrK P X N ops (some d) (.slice t x (some lo) none none) (Eff.put (some d) (.dat (.val (.slice (some ⟨g, if cap = p then 0 else p, none⟩) (l.length - p) (cap - p))))) s (s.put (some d) (.dat (.val (.slice (some ⟨g, if cap = p then 0 else p, none⟩) (l.length - p) (cap - p))))) :=
 Zbm hN fun s' _ _ _ _ hd hev htb => Yfz hd rfl ((hev _ (by simp [Op.operands])).trans hx) ((htb x (by simp [Op.operands]) k (by rw [hx]; simp [Zbq])).trans hk) ht.out ((hev _ (by simp [Op.operands])).trans hlo) hp
theorem Ydr {d : Nat} {t : Nat} {x lo : Operand} {k g cap e y e' y' p : Nat} {z : Int} {l : List PD} (hN : Nat.blt d N = true) (hx : s.ev x = .own k) (hk : s.tb k = some (.res (atR g cap e y l))) [ht : SI P t e' 1 y'] (hlo : s.ev lo = .dat (.val (.int .i64 z))) (hz : z = (p : Int)) (hp : p ≤ l.length) :
  TrK P X N ops (some d) (.slice t x (some lo) none none) (Eff.put (some d) (.dat (.val (.slice (some ⟨g, if cap = p then 0 else p, none⟩) (l.length - p) (cap - p))))) s (s.put (some d) (.dat (.val (.slice (some ⟨g, if cap = p then 0 else p, none⟩) (l.length - p) (cap - p))))) := by
 subst hz
 exact Zys hN hx hk hlo hp
def Zjk (l : List PD) (i : Nat) : List PD := l.take (i + 1) ++ (l.drop i).take (l.length - (i + 1))
theorem Yj2 {o : Oper} {d : Nat} (hd : o.dst = some d) (hN : d < X.N) {t e' y' : Nat} {x z : Operand} (ho : o.op = .call { callee := .builtin .copy, args := #[x, z], argTypes := #[t, t] }) (ht : Zp0 P t = some (e', 1, y')) {k g cap e y i : Nat} {l : List PD} (hk : s.tb k = some (.res (atR g cap e y l))) (hi : i < l.length)
  (hx : s.ev x = .dat (.val (.slice (some ⟨g, if cap = i + 1 then 0 else i + 1, none⟩) (l.length - (i + 1)) (cap - (i + 1))))) (hz : s.ev z = .dat (.val (.slice (some ⟨g, if cap = i then 0 else i, none⟩) (l.length - i) (cap - i)))) :
  OpS P X o s ((s.set k (.res (atR g cap e y (Zjk l i)))).put (some d) (.dat (.val (.int .i64 ((l.length - (i + 1) : Nat) : Int))))) := by
 intro a w ⟨ρ, hc⟩ K Q hK
 have h1 := hc.ev x
 rw [hx] at h1
 unfold VR Rep at h1
 have h2 := hc.ev z
 rw [hz] at h2
 unfold VR Rep at h2
 obtain ⟨⟨e1, ⟨xs, q1, q2, q3, q4⟩, q5⟩, q6⟩ := hc.blks k _ hk
 obtain ⟨inf, hu, hi1, hs1, hb1⟩ := Zcd ht
 have hlen : (Zjk l i).length = l.length := by unfold Zjk; simp; omega
 have q1' := q1
 rw [e1] at q1'
 obtain ⟨cur, hg, hc1, hc4, hc2, hc3⟩ : ∃ cur, w.heap[g]? = some (.cells cur e (0, 0)) ∧ l.length ≤ cap ∧ cap ≤ maxLen ∧ cur.size = cap * 1 ∧ cur.toList.take (l.length * 1) = xs := by
  rcases q1'.2 with ⟨f1, _⟩ | ⟨g', cap', cur, f1, _, f2, f3, f4, f5, f6⟩
  ·cases f1
  ·unfold slV at f1
   injection f1 with f7 _ f8
   injection f7 with f7
   injection f7 with f7
   subst f7 f8
   exact ⟨cur, f2, f3, f4, f5, f6⟩
 rw [Nat.mul_one] at hc2 hc3
 have hxl : xs.length = l.length := by have := q1.1; omega
 have hic : cap ≠ i := by omega
 rw [if_neg hic] at h2
 obtain ⟨cs, hcs⟩ : ∃ cs, cs = (xs.drop i).take (l.length - (i + 1)) := ⟨_, rfl⟩
 have hcsl : cs.length = l.length - (i + 1) := by rw [hcs]; simp; omega
 have hmin : Nat.min (l.length - i) (l.length - (i + 1)) = l.length - (i + 1) := by simp only [Nat.min_def]; split <;> omega
 obtain ⟨o1, ho1⟩ : ∃ o1, o1 = if cap = i + 1 then 0 else i + 1 := ⟨_, rfl⟩
 rw [← ho1] at h1
 have hfit : o1 + cs.length ≤ cur.size := by rw [ho1, hcsl]; split <;> omega
 have hrun := Zcj (P := P) (w := w) t t o.type e' 1 g o1 (l.length - (i + 1)) (cap - (i + 1)) ⟨g, i, none⟩ (l.length - i) (cap - i) cur e cs hu (by rw [hi1]; simp [hs1]) hg (by rw [hmin, Nat.mul_one]; exact hcsl) (fun j v hj => by
  rw [Zb2, cell_of_row w g (i + j) _ _ _ hg]
  rw [hcs, List.getElem?_take] at hj
  split at hj
  ·rw [List.getElem?_drop, ← hc3, List.getElem?_take] at hj
   split at hj
   ·simpa using hj
   ·cases hj
  ·cases hj) hfit (fun v hv => q2.one v (List.mem_of_mem_drop (List.mem_of_mem_take (hcs ▸ hv))))
 rw [hmin] at hrun
 obtain ⟨cur2, hcur2⟩ : ∃ c : Array Value, c = (cur.toList.take o1 ++ cs ++ cur.toList.drop (o1 + cs.length)).toArray := ⟨_, rfl⟩
 rw [← hcur2] at hrun
 have hsz2 : cur2.size = cur.size := by rw [hcur2]; simp; omega
 have hrow : cur2.toList.take l.length = xs.take (i + 1) ++ cs := by
  rw [hcur2]
  by_cases hl : i + 1 = l.length
  ·have : cs = [] := List.eq_nil_of_length_eq_zero (by omega)
   rw [this]
   simp only [List.append_nil, List.length_nil, Nat.add_zero, List.take_append_drop]
   rw [hc3, List.take_of_length_le (by omega)]
  ·have ho1' : o1 = i + 1 := by rw [ho1, if_neg (by omega)]
   have ht1 : (cur.toList.take (i + 1)).length = i + 1 := by rw [List.length_take, Array.length_toList]; omega
   rw [ho1', ← hc3, List.take_take, show min (i + 1) l.length = i + 1 by omega, List.take_append_of_le_length (by rw [List.length_append, ht1, hcsl]; omega), List.take_of_length_le (by rw [List.length_append, ht1, hcsl]; omega)]
 have hfp : (ρ k).fp g := (q5 g).2 rfl
 have hoth : ∀ b', ¬ (ρ k).fp b' → (w.setRow g cur2).heap[b']? = w.heap[b']? := fun b' hb' => setRow_other w g b' _ (fun e => hb' (e ▸ hfp))
 have hsz : (w.setRow g cur2).heap.size = w.heap.size := by simp
 have hF : ∀ b', FF X w s.tb ρ b' → (w.setRow g cur2).heap[b']? = w.heap[b']? := fun b' h => hoth b' (h.2.2 k (by rw [hk]; rfl))
 have hB0 : Below 0 w (w.setRow g cur2) := ⟨rfl, rfl, rfl, by rw [hsz]; exact Nat.le_refl _, fun k hk => absurd hk (Nat.not_lt_zero _)⟩
 have hset := hc.setRes (R' := atR g cap e y (Zjk l i)) hk hB0 hsz hoth ⟨by rw [hlen]; exact e1, ⟨xs.take (i + 1) ++ cs, by
   rw [e1, hlen]
   refine ⟨by simp; omega, .inr ⟨g, cap, cur2, rfl, Nat.zero_le _, setRow_heap w g _ _ e _ hg, hc1, hc4, by rw [hsz2, hc2, Nat.mul_one], by rw [Nat.mul_one]; exact hrow⟩⟩, by
   have g1 := (q2.split (i + 1) (by omega)).1
   have g2 := ((q2.split i (by omega)).2.split (l.length - (i + 1)) (by simp; omega)).1
   rw [Nat.mul_one] at g1 g2
   rw [Nat.mul_one] at g2
   rw [← hcs] at g2
   exact (g1.append g2).keep hF (fun _ h => h), by rw [hlen]; exact q3, by rw [hlen]; exact q4⟩, q5⟩
 refine Zdr (v := .int .i64 ((l.length - (i + 1) : Nat) : Int)) (w' := w.setRow g cur2) ?_ ?_
 ·simp only [execOp, ho, resolve, invoke, builtin, Sem.run_bind, Sem.run_pure, Result.andThen_ok, List.map_toArray, List.map_cons, List.map_nil, h1.1, h2.1, hrun]
  rfl
 ·rw [hd]
  refine hK _ _ ⟨ρ, hset.put hN ?_⟩
  unfold VR Rep
  exact ⟨rfl, Znm (by omega)⟩
def Eff.cp (k d : Nat) (b : Blk) (v : AV) : Eff := { dead := none, blk := some (k, b), tmp := some (d, v) }
theorem Yms {d t e' y' : Nat} {x z : Operand} (hN : Nat.blt d N = true) [ht : SI P t e' 1 y'] {k g cap e y i : Nat} {l : List PD} (hk : s.tb k = some (.res (atR g cap e y l))) (hi : i < l.length)
  (hx : s.ev x = .dat (.val (.slice (some ⟨g, if cap = i + 1 then 0 else i + 1, none⟩) (l.length - (i + 1)) (cap - (i + 1))))) (hz : s.ev z = .dat (.val (.slice (some ⟨g, if cap = i then 0 else i, none⟩) (l.length - i) (cap - i)))) :
  TrK P X N ops (some d) (.call { callee := .builtin .copy, args := #[x, z], argTypes := #[t, t] }) (Eff.cp k d (.res (atR g cap e y (Zjk l i))) (.dat (.val (.int .i64 ((l.length - (i + 1) : Nat) : Int))))) s
   ((s.set k (.res (atR g cap e y (Zjk l i)))).put (some d) (.dat (.val (.int .i64 ((l.length - (i + 1) : Nat) : Int))))) :=
 ⟨fun hX ty pos aft gd s' hA => Yj2 (s := s') rfl (by rw [hX.1]; exact Nat.blt_eq.mp hN) rfl ht.out ((Zho hA rfl).trans hk) hi ((Zej hA (by simp [Op.operands, Call.operands])).trans hx) ((Zej hA (by simp [Op.operands, Call.operands])).trans hz), rfl⟩
theorem Zob {F : Nat → Prop} {d' : PD} {c : Value} (hd' : Rep w F d' c) (hc : c.oneCell' = true) : ∀ {l : List PD} {xs : List Value} {i : Nat}, Groups w F 1 l xs → Groups w F 1 (l.set i d') (xs.set i c)
 | [], xs, i, hg => by cases hg; exact rfl
 | d :: r, xs, i, hg => by
  obtain ⟨u, ys, rfl, hd, hn, h1, hr⟩ := hg
  obtain ⟨v, hv⟩ := List.length_eq_one_iff.1 hn
  cases i with
  | zero =>
   rw [hv]
   simp only [List.cons_append, List.nil_append, List.set_cons_zero]
   refine ⟨c, ys, by rw [Za8 hc]; rfl, hd', by rw [Za8 hc]; rfl, fun x hx => ?_, hr⟩
   rw [Za8 hc, List.mem_singleton] at hx
   rw [hx]; exact hc
  | succ i =>
   rw [hv]
   simp only [List.cons_append, List.nil_append, List.set_cons_succ]
   exact ⟨u, ys.set i c, by rw [hv]; rfl, hd, hn, h1, Zob hd' hc hr⟩
theorem Ybv {o : Oper} (hd : o.dst = none) {t : TypeId} {x y : Operand} (ho : o.op = .store t x y) {k e z i : Nat} {l : List PD} {d' : PD} (hx : s.ev x = .elt k 1 i 0) (hk : s.tb k = some (.row e 1 z l)) (ht : Zp1 P t = some (1, false)) (hl : i < l.length) (hy : s.ev y = .dat d') (h1d : Ys1 d') :
  OpS P X o s (s.set k (.row e 1 z (l.set i d'))) := by
 intro a w ⟨ρ, hc⟩ K Q hK
 have h2 := hc.ev x
 rw [hx] at h2
 unfold VR at h2
 obtain ⟨_, h2⟩ := h2
 have h4 := hc.ev y
 rw [hy] at h4
 unfold VR at h4
 have hone := h1d _ _ _ h4
 obtain ⟨xs, e0, hm, how, hgr, hby, hln⟩ := hc.blks k _ hk
 rcases h2 with ⟨x', h5, h6, g, len, c, e3, e4⟩ | h5
 rotate_left
 ·rw [hk] at h5; cases h5
 rcases how.2 with ⟨e5, _⟩ | ⟨g', cap, cur, e1, hB, hg, hc1, hc4, hc2, hc3⟩
 ·rw [e3] at e5; cases e5
 have e1' := e1
 rw [e3] at e1
 injection e1 with e1 _ _
 injection e1 with e1
 injection e1 with e1
 subst e1
 have e4 : a.eval x = .pointer (some ⟨g, i, none⟩) := by rw [e4]; simp
 have hlen : i < cur.size := by omega
 have hrun := Zgt (P := P) (w := w) ht (b := g) (off := i) (old := cur.toList) (e := e) (by simpa using hg) (v := a.eval y) (by rw [Za8 hone]; rfl) (by simp; omega) (by rw [Za8 hone]; intro c hc; simp at hc; subst hc; exact hone)
 rw [Za8 hone] at hrun
 have hcur : (cur.toList.take i ++ [a.eval y] ++ cur.toList.drop (i + 1)) = cur.toList.set i (a.eval y) := by
  rw [List.set_eq_take_append_cons_drop, if_pos (by simp; omega)]; simp
 rw [hcur] at hrun
 have hfp : (ρ k).fp g := by rw [e0, e1']; rfl
 have hoth : ∀ b', ¬ (ρ k).fp b' → (w.setRow g (cur.toList.set i (a.eval y)).toArray).heap[b']? = w.heap[b']? := fun b' hb' => setRow_other w g b' _ (fun e => hb' (e ▸ hfp))
 have hsz : (w.setRow g (cur.toList.set i (a.eval y)).toArray).heap.size = w.heap.size := by simp
 refine Zjb (w' := w.setRow g (cur.toList.set i (a.eval y)).toArray) (by simp [execOp, ho, e4, Instr.storeAt, Instr.sureAddr, hrun, Result.andThen]) ?_
 rw [hd]
 have hB0 : Below 0 w (w.setRow g (cur.toList.set i (a.eval y)).toArray) := ⟨rfl, rfl, rfl, by rw [hsz]; exact Nat.le_refl _, fun k hk => absurd hk (Nat.not_lt_zero _)⟩
 refine hK _ _ ⟨ρ, (hc.setK (x' := .row e 1 z (l.set i d')) hk rfl rfl hB0 hsz hoth (fun hs hF => ?_)).put_none .any undef⟩
 refine ⟨xs.set i (a.eval y), e0, hm, ?_, Zob (h4.keep hF hs _) hone (hgr.keep hF hs), by simpa using hby, by simpa using hln⟩
 rw [e1']
 refine ⟨by simpa using how.1, .inr ⟨g, cap, (cur.toList.set i (a.eval y)).toArray, by simp, hB, setRow_heap w g _ _ e _ (by simpa using hg), by simpa using hc1, hc4, by simpa using hc2, ?_⟩⟩
 simp only [List.length_set]
 rw [List.take_set, hc3]
theorem Ye5 {t : TypeId} {x y : Operand} {k e z i : Nat} {l : List PD} {d' : PD} (hx : s.ev x = .elt k 1 i 0) (hk : s.tb k = some (.row e 1 z l)) [ht : VI P t 1 false] (hl : i < l.length) (hy : s.ev y = .dat d') (h1d : Ys1 d') (h : Run P X N Q (.ops opa rem :: ks) (s.set k (.row e 1 z (l.set i d')))) :
  Zbp P X N Q opa rem ks none (.store t x y) s := Yja (fun _ _ _ => Ybv rfl rfl hx hk ht.out hl hy h1d) h
end
def Zhg (v : Value) (e n y : Nat) (l : List PD) : Res where
 rel w F O u := u = v ∧ (∃ xs, w.ownsRow 0 e n u l.length xs ∧ Groups w F n l xs ∧ l.length * y ≤ 140737488351232 ∧ l.length ≤ 140737488351232) ∧ ∀ b, O b ↔ v.ownBlock = some b
 d := .sl n y l
 one := by
  rintro w F O u ⟨rfl, ⟨xs, h, _⟩, _⟩
  rcases h.2 with ⟨e1, e2⟩ | ⟨g, cap, cur, e1, _⟩ <;> rw [e1] <;> rfl
 keep := by
  rintro w w' F F' O v h hs hO ⟨rfl, ⟨xs, h1, h2, h3, h4⟩, h5⟩
  refine ⟨rfl, ⟨xs, ⟨h1.1, h1.2.imp id ?_⟩, h2.keep h hs, h3, h4⟩, h5⟩
  rintro ⟨g', cap', cur, e1, e2, e3, r⟩
  exact ⟨g', cap', cur, e1, e2, (hO g' ((h5 g').2 (by rw [e1]; rfl))).trans e3, r⟩
 frz := by
  rintro w F O F' v hs hO ⟨rfl, ⟨xs, h1, h2, h3, h4⟩, h5⟩
  unfold Rep
  rcases h1.2 with ⟨e1, e2⟩ | ⟨g, cap, cur, e1, hB, hg, hc1, _, hc2, hc3⟩
  ·exact ⟨none, 0, by rw [e1, e2], by omega, h3, h4, .inl (List.eq_nil_of_length_eq_zero e2)⟩
  ·refine ⟨some ⟨g, 0, none⟩, cap, e1, hc1, h3, h4, .inr ⟨g, 0, hO g ((h5 g).2 (by rw [e1]; rfl)), rfl, ?_⟩⟩
   refine (h2.keep (fun _ _ => rfl) hs).lies fun j u hj => ?_
   rw [cell_of_row w g (0 + j) _ _ _ hg]
   rw [← hc3, List.getElem?_take] at hj
   split at hj
   ·simpa using hj
   ·cases hj
def Yto : Opq where
 rel _ _ v := v.oneCell' = true
 one := fun _ _ _ h => h
 keep := fun _ _ _ _ _ _ _ h => h
def Zmt (v v' : Value) (e n y : Nat) (l : List PD) : Res where
 rel w F O u := u = v ∧ v.oneCell' = true ∧ (((∃ xs, w.ownsRow 0 e n v l.length xs ∧ Groups w F n l xs ∧ l.length * y ≤ 140737488351232 ∧ l.length ≤ 140737488351232) ∧ ∀ b, O b ↔ v.ownBlock = some b) ∨
  ((∀ b, ¬ O b) ∧ l.length * y ≤ 140737488351232 ∧ l.length ≤ 140737488351232 ∧ ∃ g m cap, v = .slice (some ⟨g, 0, none⟩) l.length cap ∧ v' = .slice (some ⟨g, 0, none⟩) m cap ∧ l.length ≤ m))
 d := .opq Yto
 one := by rintro w F O u ⟨rfl, h, _⟩; exact h
 keep := by
  rintro w w' F F' O u h hs hO ⟨rfl, h0, hv⟩
  refine ⟨rfl, h0, hv.imp ?_ id⟩
  rintro ⟨⟨xs, h1, h2, h3, h4⟩, h5⟩
  refine ⟨⟨xs, ⟨h1.1, h1.2.imp id ?_⟩, h2.keep h hs, h3, h4⟩, h5⟩
  rintro ⟨g', cap', cur, e1, e2, e3, r⟩
  exact ⟨g', cap', cur, e1, e2, (hO g' ((h5 g').2 (by rw [e1]; rfl))).trans e3, r⟩
 frz := by
  rintro w F O F' v hs hO ⟨rfl, h, _⟩
  unfold Rep
  exact h
section
variable {P : Program} {X : Base} {N : Nat} {Q : Exit → Act → World → Prop} {opa : Array Oper} {rem : List Nat} {ks : List Itm} {ops : List Oper} {s s' : Sta} {a : Act} {w w' : World} {ρ : Nat → RV}
theorem Zq7 {k t d e n y : Nat} {l : List PD} (hk : s.tb k = some (.row e n y l)) (ht : s.tm t = .own k) (hd : s.tb d = none) (hd1 : d < 1000)
  (h : ∀ v, Run P X N Q ks { tm := upd s.tm t (.own d), tb := upd (upd s.tb k (some .dead)) d (some (.res (Zhg v e n y l))) }) : Run P X N Q ks s := ⟨fun hN a w hc => by
 obtain ⟨ρ, hc⟩ := hc
 obtain ⟨xs, q0, qm, q1, q2, q3, q4⟩ := hc.blks k _ hk
 have hj := hc.join (js := [k]) (d := d) (R := Zhg (ρ k).v e n y l) (v := (ρ k).v) (O := (ρ k).fp) (w' := w) (fun j hj => by
   rw [List.mem_singleton] at hj; subst hj; rw [hk]; rfl) (.inl ⟨hd, hd1⟩) (fun j hj t cs hcs => by
   rw [List.mem_singleton] at hj; subst hj; rw [hk] at hcs; cases hcs) rfl rfl rfl (Nat.le_refl _) (fun _ _ _ => rfl) (fun b hb => .inr ⟨k, by simp, hb⟩) (fun F' hF' => ⟨rfl, ⟨xs, ⟨q1.1, q1.2.imp id (by
    rintro ⟨g', cap', cur, e1, e2, r⟩
    exact ⟨g', cap', cur, e1, Nat.zero_le _, r⟩)⟩, q2.keep (fun _ _ => rfl) hF', q3, q4⟩, fun b => by
     rw [q0]
     show Zdo (ρ k).v = some b ↔ (ρ k).v.ownBlock = some b
     rcases q1.2 with ⟨e1, e2⟩ | ⟨g, cap, cur, e1, _⟩ <;> rw [e1] <;> exact Iff.rfl⟩)
 have e : Zgm [k] d (Zhg (ρ k).v e n y l) s.tb = upd (upd s.tb k (some .dead)) d (some (.res (Zhg (ρ k).v e n y l))) := by
  funext j
  unfold Zgm upd
  by_cases h1 : j = d
  ·rw [if_pos h1, if_pos h1]
  ·rw [if_neg h1, if_neg h1]
   by_cases h2 : j = k
   ·rw [if_pos h2, if_pos (by simp [h2])]
   ·rw [if_neg h2, if_neg (by simp [h2])]
 rw [e] at hj
 have ht1 := hc.tmps t
 rw [ht] at ht1
 have ht2 := Zjf ht1 hk
 refine (h (ρ k).v).out hN a w ⟨_, hj.see (t := t) (x := .own d) ?_⟩
 unfold VR
 refine ⟨?_, .inl ⟨_, Zah _ _ _, .inr rfl, ?_⟩⟩
 ·rw [ht2]
  rcases q1.2 with ⟨e1, e2⟩ | ⟨g, cap, cur, e1, _⟩ <;> rw [e1] <;> rfl
 ·rw [Zah]
  exact ht2⟩
theorem Zvo {k d e n y : Nat} {v v' : Value} {l l2 : List PD} (hk : s.tb k = some (.res (Zmt v v' e n y l))) (hd : s.tb d = some (.res (Zhg v' e n y (l ++ l2)))) (hne : k ≠ d)
  (h : Run P X N Q ks ((s.set d .dead).set k (.res (Zhg v e n y l)))) : Run P X N Q ks s := Zdm (fun a w ⟨ρ, hc⟩ => by
 obtain ⟨⟨e1, e0, hb⟩, m1⟩ := hc.blks k _ hk
 obtain ⟨⟨e2, ⟨xs, r1, r2, r3, r4⟩, r5⟩, m2⟩ := hc.blks d _ hd
 have hlv : ∀ j ∈ [k, d], Za6 (s.tb j) = true := fun j hj => by
  rcases List.mem_cons.1 hj with rfl | hj
  ·rw [hk]; rfl
  ·rw [List.mem_singleton] at hj; subst hj; rw [hd]; rfl
 have hnb : ∀ j ∈ [k, d], ∀ t cs, s.tb j = some (.box t cs) → False := fun j hj t cs hcs => by
  rcases List.mem_cons.1 hj with rfl | hj
  ·rw [hk] at hcs; cases hcs
  ·rw [List.mem_singleton] at hj; subst hj; rw [hd] at hcs; cases hcs
 have eqt : Zgm [k, d] k (Zhg v e n y l) s.tb = ((s.set d .dead).set k (.res (Zhg v e n y l))).tb := by
  funext j
  show _ = upd (upd s.tb d (some .dead)) k (some _) j
  unfold Zgm upd
  by_cases h1 : j = k
  ·rw [if_pos h1, if_pos h1]
  ·rw [if_neg h1, if_neg h1]
   by_cases h2 : j = d
   ·rw [if_pos h2, if_pos (by simp [h2])]
   ·rw [if_neg h2, if_neg (by simp [h1, h2])]
 rcases hb with ⟨⟨ys, q1, q2, q3, q4⟩, q5⟩ | ⟨q0, q3, q4, g, m, cap, f1, f2, f3⟩
 ·have hj := hc.join (js := [k, d]) (d := k) (R := Zhg v e n y l) (v := (ρ k).v) (O := (ρ k).fp) (w' := w) hlv (.inr ⟨by simp, rfl, _, hk⟩) (fun j hj t cs hcs => (hnb j hj t cs hcs).elim) rfl rfl rfl (Nat.le_refl _) (fun _ _ _ => rfl) (fun b hb => .inr ⟨k, by simp, hb⟩)
   (fun F' hF' => ⟨e1, ⟨ys, by rw [e1]; exact q1, q2.keep (fun _ _ => rfl) hF', q3, q4⟩, q5⟩)
  rw [eqt] at hj
  exact ⟨_, hj⟩
 ·have hj := hc.join (js := [k, d]) (d := k) (R := Zhg v e n y l) (v := (ρ k).v) (O := (ρ d).fp) (w' := w) hlv (.inr ⟨by simp, rfl, _, hk⟩) (fun j hj t cs hcs => (hnb j hj t cs hcs).elim) rfl rfl rfl (Nat.le_refl _) (fun _ _ _ => rfl) (fun b hb => .inr ⟨d, by simp, hb⟩)
   (fun F' hF' => ⟨e1, by
    rw [e2, f2] at r1
    rw [e1, f1]
    obtain ⟨c1, c2⟩ := r1
    rcases c2 with ⟨c2, _⟩ | ⟨g', cap', cur, c2, c3, c4, c5, c6, c7, c8⟩
    ·cases c2
    ·injection c2 with c9 c10 c11
     injection c9 with c9
     injection c9 with c9
     subst c9 c11
     have hs := (r2.split l.length (by simp)).1
     rw [List.take_left] at hs
     refine ⟨xs.take (l.length * n), ⟨?_, .inr ⟨g, cap, cur, rfl, Nat.zero_le _, c4, by simp at c5; omega, c6, c7, ?_⟩⟩, hs.keep (fun _ _ => rfl) hF', q3, q4⟩
     ·rw [List.length_take, c1]
      refine Nat.min_eq_left (Nat.mul_le_mul_right _ (by simp))
     ·rw [← c8, List.take_take]
      congr 1
      refine (Nat.min_eq_left (Nat.mul_le_mul_right _ (by simp))).symm, fun b => by
    rw [r5, f1, f2]; exact Iff.rfl⟩)
  rw [eqt] at hj
  exact ⟨_, hj⟩) h
theorem Zpk (base : Nat) (t ty e : TypeId) (i : TypeInfo) (z : Value) (size bytes : Nat) (ht : P.underlying t = some (.slice e)) (hi : P.info? e = some i) (hz : i.zero = some z)
  (hsize : i.size = size) (hby : i.bytes = bytes) (hzs : z.cells.size = size) (hsz : 0 < size) {v : Value} {n : Nat} {xs : List Value} (hown : w.ownsRow base e size v n xs)
  {ad : Option Addr} {m c : Nat} {news : List Value} (hm : m ≠ 0) (hl : news.length = m * size) (hnews : m = 0 ∨ ∃ b o, ad = some ⟨b, o, none⟩ ∧ Lies w b o news) (h1 : ∀ u ∈ news, u.oneCell' = true)
  (h63 : n + m ≤ maxLen) (hbytes : (n + m) * bytes ≤ 140737488355328) :
  ∃ v' w', (Builtin.append_ #[t, t] ty #[v, .slice ad m c]).run P w = .ok v' w' ∧ w'.ownsRow 0 e size v' (n + m) (xs ++ news) ∧ w'.os = w.os ∧ w'.tape = w.tape ∧ w'.output = w.output ∧ w.heap.size ≤ w'.heap.size ∧
   ((∃ g cap, v = .slice (some ⟨g, 0, none⟩) n cap ∧ v' = .slice (some ⟨g, 0, none⟩) (n + m) cap ∧ ∀ b, b ≠ g → w'.heap[b]? = w.heap[b]?) ∨ ((∀ b, v'.ownBlock = some b → w.heap.size ≤ b ∧ b < w'.heap.size) ∧ ∀ b, b < w.heap.size → w'.heap[b]? = w.heap[b]?)) := by
 obtain ⟨b0, o0, rfl, hlies⟩ := hnews.resolve_left hm
 subst hsize
 subst hby
 have hadd := hlies.add
 have hlen : (xs ++ news).length = (n + m) * i.size := by rw [List.length_append, hown.1, hl, Nat.add_mul]
 have hsmall : n + m ≤ 9223372036854775807 := by simp only [maxLen] at h63; omega
 have grown : ∀ (old : Nat),
   (w.drew.alloc (.cells (xs.toArray ++ news.toArray ++ Builtin.zeroCells z.cells (grownCap w (n + m) old e - (n + m))) e)).ownsRow 0 e i.size
    (.slice (some ⟨w.heap.size, 0, none⟩) (n + m) (grownCap w (n + m) old e)) (n + m) (xs ++ news) := by
  intro old
  have hge := grownCap_ge w (n + m) old e
  have hcm : grownCap w (n + m) old e ≤ maxLen := grownCap_le_maxLen w (n + m) old e h63
  refine ⟨hlen, .inr ⟨w.heap.size, _, _, rfl, Nat.zero_le _, (MapKept.heap_alloc w.drew _).1, hge, hcm, ?_, ?_⟩⟩
  ·simp only [Array.size_append, List.size_toArray, size_zeroCells, hzs, hown.1, hl, ← Nat.add_mul]
   congr 1
   omega
  ·simp only [Array.toList_append, List.append_assoc]
   rw [← List.append_assoc, ← hlen]
   exact List.take_left
 have newb : ∀ (o : Obj) (n cap : Nat), ((∀ b, (Value.slice (some ⟨w.heap.size, 0, none⟩) n cap).ownBlock = some b → w.heap.size ≤ b ∧ b < (w.drew.alloc o).heap.size) ∧ ∀ b, b < w.heap.size → (w.drew.alloc o).heap[b]? = w.heap[b]?) := fun o n cap =>
  ⟨fun b hb => by
   have hb : w.heap.size = b := by simpa [Value.ownBlock] using hb
   subst hb
   exact ⟨Nat.le_refl _, by simp⟩, fun b hb => Below.heap_alloc w.drew _ b hb⟩
 rcases hown.2 with ⟨rfl, rfl⟩ | ⟨g, cap, cur, rfl, hbg, hg, hnc, hcm, hcs, htake⟩
 ·have hx : xs = [] := List.eq_nil_of_length_eq_zero (by simpa using hown.1)
  subst hx
  have hr := run_append_nil (P := P) w t ty e i z ht hi hz ⟨b0, o0, none⟩ m c news hl hadd (by omega) (by omega) (by have hb := hbytes; simp only [Nat.zero_add] at hb; omega)
  have hgr := grown 0
  simp only [Nat.zero_add, List.nil_append, Array.empty_append] at hgr ⊢
  exact ⟨_, _, hr, hgr, rfl, rfl, rfl, by simp, .inr (newb _ _ _)⟩
 ·by_cases hroom : n + m ≤ cap
  ·have hfit : n * i.size + news.length ≤ cur.size := by rw [hl, hcs, ← Nat.add_mul]; exact Nat.mul_le_mul_right _ hroom
   have hr := run_append_room (P := P) w t ty e i ht hi g n cap cur hg ⟨b0, o0, none⟩ m c news hl hadd h1 hroom hfit
   refine ⟨_, _, hr, ⟨hlen, .inr ⟨g, cap, _, rfl, Nat.zero_le _, setRow_heap w g cur _ e _ hg, hroom, hcm, ?_, ?_⟩⟩, rfl, rfl, rfl, by simp, .inl ⟨g, cap, rfl, rfl, fun k hk => setRow_other w g k _ hk⟩⟩
   ·simp only [List.size_toArray, List.length_append, List.length_take, List.length_drop, Array.length_toList]
    omega
   ·rw [htake, ← hlen]
    exact List.take_left
  ·have holds : ∀ j u, xs[j]? = some u → w.cell? ((⟨g, 0, none⟩ : Addr).add j) = some u := hown.cells (g := g) rfl
   have hr := run_append_grow (P := P) w t ty e i z ht hi hz ⟨g, 0, none⟩ n cap xs hown.1 holds ⟨b0, o0, none⟩ m c news hl hadd (by omega) (by omega) (growslice_fits (by omega) hbytes)
   exact ⟨_, _, hr, grown cap, rfl, rfl, rfl, by simp, .inr (newb _ _ _)⟩
end
def Yd3 (v v' : Value) (e n y : Nat) (l l' : List PD) : Res where
 rel w F O u := u = v ∧ ∃ Ok Od : Nat → Prop, (∀ b, O b ↔ Ok b ∨ Od b) ∧ (∀ b, Ok b → ¬ Od b) ∧ (Zmt v v' e n y l).rel w F Ok v ∧ (Zhg v' e n y l').rel w F Od v'
 d := .opq Yto
 one := by rintro w F O u ⟨rfl, Ok, Od, _, _, h, _⟩; exact h.2.1
 keep := by
  rintro w w' F F' O u h hs hO ⟨rfl, Ok, Od, h1, h2, h3, h4⟩
  exact ⟨rfl, Ok, Od, h1, h2, (Zmt u v' e n y l).keep w w' F F' Ok u h hs (fun b hb => hO b ((h1 b).2 (.inl hb))) h3, (Zhg v' e n y l').keep w w' F F' Od v' h hs (fun b hb => hO b ((h1 b).2 (.inr hb))) h4⟩
 frz := by
  rintro w F O F' v hs hO ⟨rfl, Ok, Od, _, _, h, _⟩
  unfold Rep
  exact h.2.1
section
variable {P : Program} {X : Base} {N : Nat} {ops : List Oper} {s s' : Sta} {a : Act} {w w' : World} {ρ : Nat → RV}
def Zuf (k : Nat) (b1 b2 : Blk) : Nat → Option Blk := fun j => if j = k then some b1 else some b2
theorem ConcAt.fork (hc : ConcAt X s a w ρ) {k d : Nat} {v v' : Value} {e n y : Nat} {l l' : List PD} (hk : s.tb k = some (.res (Yd3 v v' e n y l l'))) (hd : s.tb d = none) (hd1 : d < 1000) :
  ∃ ρ', ConcAt X { tm := s.tm, tb := Zfc [k, d] (Zuf k (.res (Zmt v v' e n y l)) (.res (Zhg v' e n y l'))) s.tb } a w ρ' ∧ (ρ' d).v = v' := by
 obtain ⟨⟨e1, Ok, Od, h1, h2, h3, h4⟩, h5⟩ := hc.blks k _ hk
 have hne : d ≠ k := fun h => by rw [h, hk] at hd; cases hd
 let nr : Nat → RV := fun j => if j = k then ⟨v, Ok⟩ else ⟨v', Od⟩
 have nk : nr k = ⟨v, Ok⟩ := if_pos rfl
 have nd : nr d = ⟨v', Od⟩ := if_neg hne
 have hmem : ∀ j, j ∈ [k, d] → j = k ∨ j = d := fun j hj => by
  rcases List.mem_cons.1 hj with h | h
  ·exact .inl h
  ·exact .inr (List.mem_singleton.1 h)
 have hs := hc.split (X' := X) hk (js := [k, d]) (nb := Zuf k (.res (Zmt v v' e n y l)) (.res (Zhg v' e n y l'))) (nr := nr) (fun j hj hjk => by
   rcases hmem j hj with h | h
   ·exact absurd h hjk
   ·rw [h]; exact hd) (by simp) (fun _ _ _ _ => rfl) rfl ⟨by rw [nk]; exact e1.symm, _, by unfold Zuf; rw [if_pos rfl], .inl rfl⟩ (fun j hj hl b hb => by
   simp only [nr] at hb
   split at hb
   ·exact (h1 b).2 (.inl hb)
   ·exact (h1 b).2 (.inr hb)) (fun j1 g1 j2 g2 b _ _ b1 b2 => by
   rcases hmem j1 g1 with rfl | rfl <;> rcases hmem j2 g2 with rfl | rfl
   ·rfl
   ·rw [nk] at b1
    rw [nd] at b2
    exact absurd b2 (h2 b b1)
   ·rw [nk] at b2
    rw [nd] at b1
    exact absurd b1 (h2 b b2)
   ·rfl) (fun j hj h6 h7 => by
   rcases hmem j hj with rfl | rfl
   ·rw [nk]
    rw [← hc.lent j h6 (by rw [hk]; rfl)]
    exact e1.symm
   ·omega) (fun hF j hj x hx => by
   rcases hmem j hj with rfl | rfl
   ·have ev : Zfw [j, d] nr ρ j = ⟨v, Ok⟩ := by unfold Zfw; rw [if_pos (by simp)]; exact nk
    unfold Zuf at hx
    rw [if_pos rfl] at hx
    cases hx
    refine ⟨?_, fun b hb => ?_⟩
    ·rw [ev]
     exact (Zmt v v' e n y l).keep w w _ _ Ok v (fun _ _ => rfl) hF (fun _ _ => rfl) h3
    ·rw [ev] at hb
     exact h5 b ((h1 b).2 (.inl hb))
   ·have ev : Zfw [k, j] nr ρ j = ⟨v', Od⟩ := by unfold Zfw; rw [if_pos (by simp)]; exact nd
    unfold Zuf at hx
    rw [if_neg hne] at hx
    cases hx
    refine ⟨?_, fun b hb => ?_⟩
    ·rw [ev]
     exact (Zhg v' e n y l').keep w w _ _ Od v' (fun _ _ => rfl) hF (fun _ _ => rfl) h4
    ·rw [ev] at hb
     exact h5 b ((h1 b).2 (.inr hb)))
 refine ⟨_, hs, ?_⟩
 show (Zfw [k, d] nr ρ d).v = v'
 unfold Zfw
 rw [if_pos (by simp), nd]
def Eff.bk (k d : Nat) (b1 b2 : Blk) : Eff := { dead := none, blk := some (d, b2), tmp := some (d, .own d), blk2 := some (k, b1) }
theorem Zuo {d t e n y k k2 : Nat} {x x2 : Operand} {v : Value} {l l2 : List PD} {e2 n2 y2 : Nat} (hN : Nat.blt d N = true) (hd0 : s.tb d = none) (hx : s.ev x = .own k) (hk : s.tb k = some (.res (Zhg v e n y l))) (hx2 : s.ev x2 = .own k2) (hk2 : s.tb k2 = some (.row e2 n2 y2 l2))
  [ht : SI P t e n y] (hz : Zv6 P e = some n) (hn : Nat.blt 0 n = true) (hn2 : n2 = n) (h0 : l2.length ≠ 0) (hb1 : (l.length + l2.length) * y ≤ 140737488351232) (hb2 : l.length + l2.length ≤ 140737488351232) :
  TrI P X N ops (some d) (.call { callee := .builtin .append, args := #[x, x2], argTypes := #[t, t] }) (fun v' : Value => Eff.bk k d (.res (Zmt v v' e n y l)) (.res (Zhg v' e n y (l ++ l2)))) s := ⟨fun hX ty pos aft s' hA a w ⟨ρ, hc⟩ K Q' hK => by
 subst hn2
 have hN' : d < X.N := by rw [hX.1]; exact Nat.blt_eq.mp hN
 have hA0 := hA (.slice none 0 0)
 have hx' := (Zej hA0 (x := x) (by simp [Op.operands, Call.operands])).trans hx
 have hx2' := (Zej hA0 (x := x2) (by simp [Op.operands, Call.operands])).trans hx2
 have hk' := (Zja hA0 (x := x) (by simp [Op.operands, Call.operands]) (k := k) (by rw [hx]; simp [Zbq])).trans hk
 have hk2' := (Zja hA0 (x := x2) (by simp [Op.operands, Call.operands]) (k := k2) (by rw [hx2]; simp [Zbq])).trans hk2
 have hd0' : s'.tb d = none := (Zho hA0 rfl).trans hd0
 have hne : d ≠ k := fun h => by rw [h, hk'] at hd0'; cases hd0'
 have g1 := hc.ev x
 rw [hx'] at g1
 have g1 := Zhu g1 hk' rfl
 have g2 := hc.ev x2
 rw [hx2'] at g2
 have g2 := Zjf g2 hk2'
 obtain ⟨⟨e1, ⟨xs, q1, q2, q3, q4⟩, q5⟩, q6⟩ := hc.blks k _ hk'
 obtain ⟨ys, r0, rm, r1, r2, r3, r4⟩ := hc.blks k2 _ hk2'
 obtain ⟨g, c, hv2, hlies⟩ : ∃ g c, (ρ k2).v = .slice (some ⟨g, 0, none⟩) l2.length c ∧ Lies w g 0 ys := by
  rcases r1.2 with ⟨f1, f2⟩ | ⟨g, cap, cur, f1, f2⟩
  ·exact absurd f2 h0
  ·refine ⟨g, cap, f1, fun j u hj => ?_⟩
   have := r1.cells (g := g) (by rw [f1]; rfl) j u hj
   rwa [Zb2] at this
 obtain ⟨inf, hu, hi1, hs1, hy1⟩ := Zcd ht.out
 obtain ⟨i2, z, hi2, hz1, hz2, hz3⟩ := Zli hz
 rw [hi1] at hi2
 cases hi2
 obtain ⟨v', w', hr, a1, a2, a3, a4, a5, a6⟩ := Zpk (P := P) 0 t ty e inf z n2 y hu hi1 hz1 hs1 hy1 hz2 (Nat.blt_eq.mp hn) q1 (ad := some ⟨g, 0, none⟩) (m := l2.length) (c := c) h0 r2.length (.inr ⟨g, 0, rfl, hlies⟩) r2.one (by unfold maxLen; omega) (by omega)
 rw [← hv2, e1] at hr
 rw [e1] at g1
 have hone : v.oneCell' = true := by
  rw [e1] at q1
  rcases q1.2 with ⟨f1, _⟩ | ⟨g, cap, cur, f1, _⟩ <;> rw [f1] <;> rfl
 have hkfp : ∀ b, v.ownBlock = some b → (ρ k).fp b := fun b hb => (q5 b).2 hb
 have hnk : ∀ b, FF X w s'.tb ρ b → v.ownBlock ≠ some b := fun b hb h => hb.2.2 k (by rw [hk']; rfl) (hkfp b h)
 have hsame : ∀ b, b < w.heap.size → v.ownBlock ≠ some b → w'.heap[b]? = w.heap[b]? := fun b h1 h2 => by
  rcases a6 with ⟨g, cap, f1, f2, f3⟩ | ⟨_, f3⟩
  ·refine f3 b fun h => h2 ?_
   rw [← e1, f1, h]; rfl
  ·exact f3 b h1
 have hF : ∀ b, FF X w s'.tb ρ b → w'.heap[b]? = w.heap[b]? := fun b hb => hsame b hb.2.1 (hnk b hb)
 have hlb1 : (l ++ l2).length * y ≤ 140737488351232 := by rw [List.length_append]; exact hb1
 have hlb2 : (l ++ l2).length ≤ 140737488351232 := by rw [List.length_append]; exact hb2
 have hrow : ∀ F' : Nat → Prop, (∀ b, FF X w s'.tb ρ b → F' b) → (Zhg v' e n2 y (l ++ l2)).rel w' F' (fun b => v'.ownBlock = some b) v' := fun F' hF' =>
  ⟨rfl, ⟨xs ++ ys, by rw [List.length_append]; exact a1, (q2.keep hF hF').append (r2.keep hF hF'), hlb1, hlb2⟩, fun b => Iff.rfl⟩
 obtain ⟨Ok, hOk1, hOk2, hOk3⟩ : ∃ Ok : Nat → Prop, (∀ b, Ok b → v.ownBlock = some b) ∧ (∀ b, Ok b → v'.ownBlock ≠ some b) ∧ ∀ F' : Nat → Prop, (∀ b, FF X w s'.tb ρ b → F' b) → (Zmt v v' e n2 y l).rel w' F' Ok v := by
  rcases a6 with ⟨g, cap, f1, f2, f3⟩ | ⟨f2, f3⟩
  ·exact ⟨fun _ => False, fun _ h => h.elim, fun _ h => h.elim, fun F' hF' => ⟨rfl, hone, .inr ⟨fun _ h => h, q3, q4, g, l.length + l2.length, cap, by rw [← e1]; exact f1, f2, by omega⟩⟩⟩
  ·refine ⟨fun b => v.ownBlock = some b, fun _ h => h, fun b h h' => ?_, fun F' hF' => ⟨rfl, hone, .inl ⟨⟨xs, ?_, q2.keep hF hF', q3, q4⟩, fun b => Iff.rfl⟩⟩⟩
   ·have h1 := (q6 b (hkfp b h)).2
    have := (f2 b h').1
    omega
   ·rw [e1] at q1
    refine ⟨q1.1, q1.2.imp id ?_⟩
    rintro ⟨g', cap', cur, c1, c2, c3, r⟩
    exact ⟨g', cap', cur, c1, c2, (f3 g' (Array.getElem?_eq_some_iff.1 c3).1).trans c3, r⟩
 have hOd : ∀ b, v'.ownBlock = some b → (w.heap.size ≤ b ∧ b < w'.heap.size) ∨ v.ownBlock = some b := fun b hb => by
  rcases a6 with ⟨g, cap, f1, f2, f3⟩ | ⟨f2, f3⟩
  ·right
   rw [f2] at hb
   rw [← e1, f1]
   exact hb
  ·exact .inl (f2 b hb)
 have hj := hc.join (js := [k]) (d := k) (R := Yd3 v v' e n2 y l (l ++ l2)) (v := (ρ k).v) (O := fun b => Ok b ∨ v'.ownBlock = some b) (w' := w') (fun j hj => by
   rw [List.mem_singleton] at hj; subst hj; rw [hk']; rfl) (.inr ⟨by simp, rfl, _, hk'⟩) (fun j hj t cs hcs => by
   rw [List.mem_singleton] at hj; subst hj; rw [hk'] at hcs; cases hcs) a2 a3 a4 a5 (fun b h1 h2 => hsame b h1 fun h => h2 k (by simp) (hkfp b h)) (fun b hb => by
   rcases hb with hb | hb
   ·exact .inr ⟨k, by simp, hkfp b (hOk1 b hb)⟩
   ·rcases hOd b hb with h | h
    ·exact .inl h
    ·exact .inr ⟨k, by simp, hkfp b h⟩) (fun F' hF' => ⟨e1, Ok, fun b => v'.ownBlock = some b, fun b => Iff.rfl, hOk2, hOk3 F' hF', hrow F' hF'⟩)
 have et : Zgm [k] k (Yd3 v v' e n2 y l (l ++ l2)) s'.tb = upd s'.tb k (some (.res (Yd3 v v' e n2 y l (l ++ l2)))) := by
  funext j
  unfold Zgm upd
  by_cases h1 : j = k
  ·rw [if_pos h1, if_pos h1]
  ·rw [if_neg h1, if_neg h1, if_neg (by simp [h1])]
 rw [et] at hj
 obtain ⟨ρ2, hf, hf2⟩ := hj.fork (k := k) (d := d) (Zah _ _ _) (by show upd s'.tb k _ d = none; rw [Zaw _ _ hne]; exact hd0') (Nat.lt_of_lt_of_le hN' X.hN)
 have hput := hf.put hN' (x := .own d) (v := v') (by
  unfold VR
  refine ⟨?_, .inl ⟨.res (Zhg v' e n2 y (l ++ l2)), ?_, .inr rfl, hf2.symm⟩⟩
  ·rcases a1.2 with ⟨f1, _⟩ | ⟨g, cap, cur, f1, _⟩ <;> rw [f1] <;> rfl
  ·show Zfc [k, d] _ _ d = _
   unfold Zfc Zuf
   rw [if_pos (by simp), if_neg hne])
 refine Zdr (v := v') (w' := w') ?_ ?_
 ·simp only [execOp, resolve, invoke, builtin, Sem.run_bind, Sem.run_pure, Result.andThen_ok, List.map_toArray, List.map_cons, List.map_nil, g1, g2, hr]
 ·refine hK (a.put (some d) v') w' v' ⟨ρ2, ?_⟩
  have es : (Eff.bk k d (.res (Zmt v v' e n2 y l)) (.res (Zhg v' e n2 y (l ++ l2)))).app s' = ({ tm := s'.tm, tb := Zfc [k, d] (Zuf k (.res (Zmt v v' e n2 y l)) (.res (Zhg v' e n2 y (l ++ l2)))) (upd s'.tb k (some (.res (Yd3 v v' e n2 y l (l ++ l2))))) } : Sta).put (some d) (.own d) := by
   show ({ tm := _, tb := _ } : Sta) = { tm := _, tb := _ }
   congr 1
   funext j
   show (if j = k then _ else if j = d then _ else s'.tb j) = Zfc [k, d] _ _ j
   unfold Zfc Zuf upd
   by_cases h1 : j = k
   ·rw [if_pos h1, if_pos (by simp [h1]), if_pos h1]
   ·rw [if_neg h1]
    by_cases h2 : j = d
    ·rw [if_pos h2, if_pos (by simp [h2]), if_neg h1]
    ·rw [if_neg h2, if_neg (by simp [h1, h2]), if_neg h1]
  rw [es]
  exact hput⟩
theorem Zvq {Q : Exit → Act → World → Prop} {ks : List Itm} (c n : Nat) (tmpl : List (Option Eff)) {ι : Type} (i0 : ι) (ec : ι → Eff) {id : Nat} {ops : List Oper} {d : Option Tmp} {op : Op} {ty : TypeId} {pos : String} {aft : Array Edge} (hm : P.follows .mixedOrders = true) (ho : ops[c]? = some ⟨d, op, ty, pos, aft, none⟩) (hcn : c < n) (hnl : n ≤ ops.length)
  (h : TrC P X N ops (ops.take c) s (fun es0 s1 => TrI P X N ops d op ec s1 ∧ ∀ i, TrC P X N ops ((ops.take n).drop (c + 1)) ((ec i).app s1) (fun esr s' => (Zc7 0 ops && Zh3 ops (ops.take n) (es0 ++ ec i :: esr) s && Zll ops n) = true ∧ SameT ops c 0 tmpl esr ∧ Run P X N Q (.ops ops.toArray (List.range' n (ops.length - n)) :: ks) s'))) :
  Run P X N Q (.code (.region id ops.toArray true) :: ks) s := ⟨fun hX a w hc => by
 obtain ⟨es0, s1, h1, hI, h2⟩ := h.out
 obtain ⟨esr, h3⟩ := Classical.axiomOfChoice fun i => (h2 i).out
 obtain ⟨s', h3⟩ := Classical.axiomOfChoice h3
 have hcl : c < ops.length := (List.getElem?_eq_some_iff.1 ho).1
 have hln : (ops.take n).length = n := by simp; omega
 have htr := h1.out hX
 have hl0 : es0.length = c := by rw [htr.len]; simp; omega
 have htr2 := fun i => (h3 i).1.out hX
 have hl2 : ∀ i, (esr i).length = n - (c + 1) := fun i => by rw [(htr2 i).len]; simp; omega
 have hok := fun i => by have := (h3 i).2.1; simp only [Bool.and_eq_true] at this; exact this
 have es1 : s1 = sAt es0 c s := by
  have := htr.last
  rwa [show (ops.take c).length = c by simp; omega] at this
 have hs1 : ∀ i, sAt (es0 ++ ec i :: esr i) c s = s1 := fun i => by rw [Zpm _ _ _ _ (by omega), es1]
 have hs2 : ∀ i k, sAt (es0 ++ ec i :: esr i) (c + 1 + k) s = sAt (esr i) k ((ec i).app s1) := fun i k => by
  have := Zs5 es0 (ec i :: esr i) (k + 1) s
  rw [hl0] at this
  rw [show c + 1 + k = c + (k + 1) by omega, this, ← es1]
  rfl
 show (Code.region id ops.toArray true).wp P (post P X Q ks) a w
 refine wp_region_any hm ?_
 have hc' : Conc X s a { w with drawn := w.drawn + 1 } := by obtain ⟨ρ, hcc⟩ := hc; exact ⟨ρ, hcc.drew⟩
 have hf : ∀ i, (Array.replicate ops.toArray.size false).getD i false = false := by
  intro i
  rw [Array.getD_eq_getD_getElem?, Array.getElem?_replicate]
  split <;> rfl
 have e0 : ∀ es, Zgj (fun i => (Array.replicate ops.toArray.size false).getD i false) es 0 s = s := fun es => by
  have e1 : ∀ t, Zex (fun i => (Array.replicate ops.toArray.size false).getD i false) t es 0 (s.tm t) = s.tm t := fun t => by
   rw [Zd6 (q := fun j => decide (j < 0 + 0)) (fun j e _ => .inr (by simp only [hf]; simp)), ← Zi9 t es 0 0 s]
   cases es <;> rfl
  have e2 : ∀ t, Zew (fun i => (Array.replicate ops.toArray.size false).getD i false) t es 0 (s.tb t) = s.tb t := fun t => by
   rw [Zd5 (q := fun j => decide (j < 0 + 0)) (fun j e _ => .inr (by simp only [hf]; simp)), ← Zhs t es 0 0 s]
   cases es <;> rfl
  unfold Zgj
  simp only [e1, e2]
 have hch := Zp4 (hok i0).2
 have hat : ∀ i, i < n → (ops.take n)[i]? = ops[i]? := fun i hi => by rw [List.getElem?_take, if_pos hi]
 refine Zl6 i0 (c := c) (hd := ops.take n) (tl := ops.drop n) (List.take_append_drop n ops).symm (s1 := s1) (s' := s') (es := fun i => es0 ++ ec i :: esr i) (fun i => by rw [hln]; simp [hl0, hl2 i]; omega) (fun i j o e hj hoj he => ?_) (fun i => ?_) hs1 (fun o hoc => ?_) (fun i j hj hA => ?_) (fun i => (hok i).1.2) (hok i0).1.1 (fun i h1 h2 j hj => hch i (by omega) h2 j (by omega))
  (fun i fuel listed a w hs hl hcnt hc => ?_) _ _ _ _ (by simp) (fun i o hi => by simp only [hf] at hi; cases hi) (fun i _ => hf i) (by refine Nat.le_trans (List.length_filter_le _ _) (by simp)) ⟨i0, fun _ => rfl, by rw [e0]; exact hc'⟩
 ·have hjn : j < n := by
   have := (List.getElem?_eq_some_iff.1 hoj).1
   omega
  rcases Nat.lt_or_gt_of_ne hj with hlt | hgt
  ·rw [List.getElem?_append_left (by omega)] at he
   rw [Zpm _ _ _ _ (by omega)]
   exact htr.at_ (by rw [List.getElem?_take, if_pos hlt, ← hat j hjn]; exact hoj) he
  ·obtain ⟨k, rfl⟩ : ∃ k, j = c + 1 + k := ⟨j - (c + 1), by omega⟩
   rw [List.getElem?_append_right (by omega), hl0, show c + 1 + k - c = k + 1 by omega, List.getElem?_cons_succ] at he
   rw [hs2]
   exact (htr2 i).at_ (by rw [List.getElem?_drop]; exact hoj) he
 ·have := (htr2 i).last
  rw [List.length_drop, hln] at this
  show s' i = sAt (es0 ++ ec i :: esr i) (ops.take n).length s
  rw [hln, show n = c + 1 + (n - (c + 1)) by omega, hs2]
  exact this
 ·rw [hat c hcn, ho] at hoc; cases hoc
  refine ⟨rfl, ec, fun i => ?_, hI.act hX _ _ _⟩
  show (es0 ++ ec i :: esr i)[c]? = _
  rw [List.getElem?_append_right (by omega), hl0, Nat.sub_self]; rfl
 ·show (es0 ++ ec i :: esr i)[j]? = (es0 ++ ec i0 :: esr i0)[j]?
  rcases Nat.lt_or_gt_of_ne hj with hlt | hgt
  ·rw [List.getElem?_append_left (by omega), List.getElem?_append_left (by omega)]
  ·obtain ⟨k, rfl⟩ : ∃ k, j = c + 1 + k := ⟨j - (c + 1), by omega⟩
   rw [List.getElem?_append_right (by omega), List.getElem?_append_right (by omega), hl0, show c + 1 + k - c = k + 1 by omega, List.getElem?_cons_succ, List.getElem?_cons_succ]
   rcases SameT.at_ (h3 i).2.2.1 (h3 i0).2.2.1 k with h | h
   ·rw [Nat.add_zero] at h; exact absurd h hA
   ·exact h
 ·rw [hln] at hl
  refine Zrf (hok i0).1.1 hch fuel n listed a w (Nat.le_refl _) hnl hs hl ?_ ((h3 i).2.2.2.out hX a w hc)
  refine Nat.le_trans ?_ hcnt
  have : ∀ (m : Nat) (p : Nat → Bool), (∀ i, i < m → p i = decide (n ≤ i)) → m - n ≤ ((List.range m).filter p).length := by
   intro m
   induction m with
   | zero => intro p _; simp
   | succ m ihm =>
    intro p hp
    rw [List.range_succ, List.filter_append, List.length_append]
    have := ihm p fun i hi => hp i (by omega)
    simp only [List.filter_cons, List.filter_nil]
    rw [hp m (by omega)]
    by_cases hq : n ≤ m
    ·rw [if_pos (by simpa using hq)]; simp only [List.length_cons, List.length_nil]; omega
    ·omega
  exact this ops.length _ fun i hi => by
   rw [hl i hi]
   by_cases hq : i < n
   ·have h2 : ¬ n ≤ i := by omega
    simp only [hq, h2, decide_true, decide_false, Bool.not_true]
   ·have h2 : n ≤ i := by omega
    simp only [hq, h2, decide_true, decide_false, Bool.not_false]⟩
end
section
variable {P : Program} {X : Base} {N : Nat} {Q : Exit → Act → World → Prop} {opa : Array Oper} {rem : List Nat} {ks : List Itm} {ops : List Oper} {s s' : Sta} {a : Act} {w w' : World} {ρ : Nat → RV}
theorem ConcAt.swap (hc : ConcAt X s a w ρ) {k : Nat} {x x' : Blk} {r : RV} (hk : s.tb k = some x) (h1 : x.kind = 1 ∨ x.kind = 3) (h2 : x'.kind = 1 ∨ x'.kind = 3) (hv : r.v = (ρ k).v) (hf : ∀ b, r.fp b → (ρ k).fp b)
  (hb : (∀ b, FF X w s.tb ρ b → FF X w (upd s.tb k (some x')) (upd ρ k r) b) → BR X w (upd s.tb k (some x')) (upd ρ k r) k x') : ConcAt X (s.set k x') a w (upd ρ k r) := by
 have hlx : x.live = true := by cases x <;> simp [Blk.kind] at h1 <;> rfl
 have hlx' : x'.live = true := by cases x' <;> simp [Blk.kind] at h2 <;> rfl
 have hlk : Za6 (s.tb k) = true := by rw [hk]; exact hlx
 have hlv : ∀ j, Za6 (upd s.tb k (some x') j) = true → Za6 (s.tb j) = true := fun j hj => by
  by_cases e : j = k
  ·rw [e]; exact hlk
  ·rwa [Zaw _ _ e] at hj
 have hfp : ∀ j b, (upd ρ k r j).fp b → (ρ j).fp b := fun j b hj => by
  by_cases e : j = k
  ·subst e; rw [Zah] at hj; exact hf b hj
  ·rwa [Zaw _ _ e] at hj
 have hs : ∀ b, FF X w s.tb ρ b → FF X w (upd s.tb k (some x')) (upd ρ k r) b := fun b hb' => ⟨hb'.1, hb'.2.1, fun j hj e => hb'.2.2 j (hlv j hj) (hfp j b e)⟩
 have hkept : ∀ j, Zwd s.tb (upd s.tb k (some x')) ρ (upd ρ k r) j := by
  intro j y hy
  by_cases e : j = k
  ·subst e
   rw [hk] at hy; cases hy
   exact ⟨x', Zah _ _ _, .inl ⟨.inr ⟨h1, h2⟩, by rw [Zah]; exact hv⟩⟩
  ·exact ⟨y, by rw [Zaw _ _ e]; exact hy, .inl ⟨.inl rfl, by rw [Zaw _ _ e]⟩⟩
 refine ⟨hc.size, hc.defers, hc.below, fun t => VR.keepK (fun _ _ => rfl) hs _ (fun j _ => hkept j) (hc.tmps t), fun j y hy => ?_, fun j1 j2 b g1 g2 e1 e2 => hc.apart j1 j2 b (hlv j1 g1) (hlv j2 g2) (hfp j1 b e1) (hfp j2 b e2), fun j hj hl => ?_⟩
 ·by_cases e : j = k
  ·subst e
   have hy : some x' = some y := by rw [← hy]; exact (Zah _ _ _).symm
   cases hy
   exact hb hs
  ·have hy : s.tb j = some y := by rw [← hy]; exact (Zaw _ _ e).symm
   exact (hc.blks j y hy).keepK (fun _ _ => rfl) hs (fun _ _ _ j _ => hkept j) (Zaw _ _ e) (fun _ _ _ => rfl) (Nat.le_refl _)
 ·by_cases e : j = k
  ·subst e
   rw [Zah, hv]
   exact hc.lent j hj hlk
  ·rw [Zaw _ _ e]
   exact hc.lent j hj (hlv j hl)
theorem Ylu {base e n : Nat} {v : Value} {len : Nat} {xs : List Value} (h : w.ownsRow base e n v len xs) {b : Nat} : (RV.of v).fp b ↔ v.ownBlock = some b := by
 show Zdo v = some b ↔ _
 rcases h.2 with ⟨e1, e2⟩ | ⟨g, cap, cur, e1, _⟩ <;> rw [e1] <;> exact Iff.rfl
theorem Yb4 {k e n y : Nat} {v : Value} {l : List PD} (hk : s.tb k = some (.res (Zhg v e n y l))) (h : Run P X N Q ks (s.set k (.row e n y l))) : Run P X N Q ks s := Zdm (fun a w ⟨ρ, hc⟩ => by
 obtain ⟨⟨e1, ⟨xs, q1, q2, q3, q4⟩, q5⟩, q6⟩ := hc.blks k _ hk
 have ho : ∀ b, (RV.of (ρ k).v).fp b → (ρ k).fp b := fun b hb => (q5 b).2 (by rw [← e1]; exact (Ylu q1).1 hb)
 refine ⟨_, hc.swap (x' := .row e n y l) (r := RV.of (ρ k).v) hk (.inr rfl) (.inl rfl) rfl ho fun hF => ?_⟩
 refine ⟨xs, by rw [Zah]; rfl, fun b hb => ?_, ?_, q2.keep (fun _ _ => rfl) hF, q3, q4⟩
 ·rw [Zah] at hb
  exact (q6 b ((q5 b).2 (by rw [← e1]; exact hb))).1
 ·rw [Zah]
  refine ⟨q1.1, q1.2.imp id ?_⟩
  rintro ⟨g, cap, cur, f1, _, r⟩
  exact ⟨g, cap, cur, f1, Base.mayB (q6 g ((q5 g).2 (by rw [← e1, f1]; rfl))).1, r⟩) h
theorem Ykl {k e n y : Nat} {v : Value} {l : List PD} (hk : s.tb k = some (.res (Zhg v e n y l))) (hk1 : 1000 ≤ k) (h : X.rv k = v → Run P X N Q ks s) : Run P X N Q ks s := ⟨fun hN a w hc => by
 obtain ⟨ρ, hc⟩ := hc
 have e1 := (hc.blks k _ hk).1.1
 have e2 := hc.lent k hk1 (by rw [hk]; rfl)
 exact (h (e2.symm.trans e1)).out hN a w ⟨ρ, hc⟩⟩
theorem Ygq {k e n y : Nat} {v : Value} {l : List PD} (hk : s.tb k = some (.row e n y l)) (hk1 : 1000 ≤ k) (hv : X.rv k = v) (h : Run P X N Q ks (s.set k (.res (Zhg v e n y l)))) : Run P X N Q ks s := Zdm (fun a w ⟨ρ, hc⟩ => by
 obtain ⟨xs, q0, qm, q1, q2, q3, q4⟩ := hc.blks k _ hk
 have e2 : (ρ k).v = v := (hc.lent k hk1 (by rw [hk]; rfl)).trans hv
 refine ⟨_, hc.swap (x' := .res (Zhg v e n y l)) (r := ρ k) hk (.inl rfl) (.inr rfl) rfl (fun b h => h) fun hF => ?_⟩
 have hfp : ∀ b, (ρ k).fp b ↔ v.ownBlock = some b := fun b => by rw [q0, Ylu q1, e2]
 refine ⟨?_, fun b hb => ?_⟩
 ·rw [Zah]
  refine ⟨e2, ⟨xs, ?_, q2.keep (fun _ _ => rfl) hF, q3, q4⟩, hfp⟩
  refine ⟨q1.1, q1.2.imp id ?_⟩
  rintro ⟨g, cap, cur, f1, _, r⟩
  exact ⟨g, cap, cur, f1, Nat.zero_le _, r⟩
 ·rw [Zah] at hb
  exact hc.rowBlk hk rfl hb) h
theorem Zn9 {F : Nat → Prop} {n : Nat} {d : PD} : ∀ {l : List PD} {xs : List Value} {i : Nat}, Groups w F n l xs → l[i]? = some d → ∃ u, Rep w F d u ∧ u.cells.toList.length = n ∧ ∀ j c, u.cells.toList[j]? = some c → xs[i * n + j]? = some c
 | [], xs, i, _, h => by simp at h
 | d0 :: r, xs, i, hg, h => by
  obtain ⟨u, ys, rfl, hu, hn, h1, hr⟩ := hg
  cases i with
  | zero =>
   simp only [List.getElem?_cons_zero, Option.some.injEq] at h
   subst h
   refine ⟨u, hu, hn, fun j c hj => ?_⟩
   rw [Nat.zero_mul, Nat.zero_add, List.getElem?_append_left (List.getElem?_eq_some_iff.1 hj).1]
   exact hj
  | succ i =>
   obtain ⟨u2, h2, h3, h4⟩ := Zn9 hr (i := i) (by simpa using h)
   refine ⟨u2, h2, h3, fun j c hj => ?_⟩
   rw [show (i + 1) * n + j = u.cells.toList.length + (i * n + j) by rw [hn, Nat.succ_mul]; omega, List.getElem?_append_right (Nat.le_add_right _ _), Nat.add_sub_cancel_left]
   exact h4 j c hj
theorem Yj4 {o : Oper} (hd : Za7 X.N o.dst = true) {t : TypeId} {x : Operand} (ho : o.op = .load t x) {k e n y i : Nat} {l : List PD} {ds : List PD} (hx : s.ev x = .elt k n i 0) (hk : s.tb k = some (.row e n y l)) (ht : Zp1 P t = some (n, true)) (hl : l[i]? = some (.agg ds)) :
  OpS P X o s (s.put o.dst (.dat (.agg ds))) := by
 refine Zat hd fun a w ρ hc => ?_
 have h2 := hc.ev x
 rw [hx] at h2
 unfold VR at h2
 obtain ⟨_, h2⟩ := h2
 obtain ⟨xs, e0, hm, how, hgr, hby, hln⟩ := hc.blks k _ hk
 rcases h2 with ⟨x', h5, h6, g, len, c, e3, e4⟩ | h5
 rotate_left
 ·rw [hk] at h5; cases h5
 obtain ⟨u, hu, hun, huc⟩ := Zn9 hgr hl
 rcases how.2 with ⟨e5, _⟩ | ⟨g', cap, cur, e1, hB, hg, hc1, hc4, hc2, hc3⟩
 ·rw [e3] at e5; cases e5
 rw [e3] at e1
 injection e1 with e1 _ _
 injection e1 with e1
 injection e1 with e1
 subst e1
 have hlies : Lies w g (i * n) u.cells.toList := fun j c hj => by
  have h7 := huc j c hj
  rw [cell_of_row w g (i * n + j) _ _ _ hg]
  rw [← hc3, List.getElem?_take] at h7
  split at h7
  ·simpa using h7
  ·cases h7
 have hu2 := hu
 unfold Rep at hu2
 obtain ⟨vs, e6, _, _⟩ := hu2
 have e7 : Value.agg u.cells = u := by rw [e6]; rfl
 refine ⟨u, ?_, by unfold VR; exact hu⟩
 have e4' : a.eval x = .pointer (some ⟨g, i * n, none⟩) := by rw [e4]; simp
 have hr := Zdz (P := P) (w := w) ht hun hlies
 rw [show u.cells.toList.toArray = u.cells by simp, e7] at hr
 simp [execOp, ho, e4', Instr.loadAt, Instr.sureAddr, hr]
theorem Yny {d : Nat} {x : Operand} {t k e n y i : Nat} {l : List PD} {ds : List PD} (hN : Nat.blt d N = true) (hx : s.ev x = .elt k n i 0) (hk : s.tb k = some (.row e n y l)) [ht : VI P t n true] (hl : l[i]? = some (.agg ds)) (h : Run P X N Q (.ops opa rem :: ks) (s.put (some d) (.dat (.agg ds)))) : Zbp P X N Q opa rem ks (some d) (.load t x) s := Zdx hN (fun _ _ _ hd => Yj4 hd rfl hx hk ht.out hl) h
end
theorem Zvn {w : World} {F : Nat → Prop} : ∀ {l : List PD} {d : PD} {vs : List Value}, Reps w F (l ++ [d]) vs → ∃ vs' u, vs = vs' ++ [u] ∧ Reps w F l vs' ∧ Rep w F d u
 | [], d, vs, h => by
  unfold Reps at h
  obtain ⟨u, r, rfl, h1, h2⟩ := h
  unfold Reps at h2
  subst h2
  exact ⟨[], u, rfl, by unfold Reps; rfl, h1⟩
 | x :: l, d, vs, h => by
  simp only [List.cons_append] at h
  unfold Reps at h
  obtain ⟨v, r, rfl, h1, h2⟩ := h
  obtain ⟨vs', u, rfl, h3, h4⟩ := Zvn h2
  exact ⟨v :: vs', u, rfl, by unfold Reps; exact ⟨v, vs', rfl, h1, h3⟩, h4⟩
theorem Yf6 {w : World} {F : Nat → Prop} {base e n y : Nat} {v : Value} {l : List PD} {xs : List Value} (h1 : w.ownsRow base e n v l.length xs) (h2 : Groups w F n l xs) (h3 : l.length * y ≤ 140737488351232) (h4 : l.length ≤ 140737488351232) (hO : ∀ b, v.ownBlock = some b → F b) : Rep w F (.sl n y l) v := by
 unfold Rep
 rcases h1.2 with ⟨e1, e2⟩ | ⟨g, cap, cur, e1, hB, hg, hc1, _, hc2, hc3⟩
 ·exact ⟨none, 0, by rw [e1, e2], by omega, h3, h4, .inl (List.eq_nil_of_length_eq_zero e2)⟩
 ·refine ⟨some ⟨g, 0, none⟩, cap, e1, hc1, h3, h4, .inr ⟨g, 0, hO g (by rw [e1]; rfl), rfl, ?_⟩⟩
  refine h2.lies fun j u hj => ?_
  rw [cell_of_row w g (0 + j) _ _ _ hg]
  rw [← hc3, List.getElem?_take] at hj
  split at hj
  ·simpa using hj
  ·cases hj
theorem Zhd {w : World} {base e n : Nat} {v : Value} {len : Nat} {xs : List Value} (h1 : w.ownsRow base e n v len xs) : v.oneCell' = true := by
 rcases h1.2 with ⟨e1, e2⟩ | ⟨g, cap, cur, e1, _⟩ <;> rw [e1] <;> rfl
theorem Zjs : ∀ l : List (PEV × ST PEV), (Zbi l).length = l.length
 | [] => by unfold Zbi; rfl
 | y :: r => by unfold Zbi; simp [Zjs r]
section
variable {w : World} {F F' : Nat → Prop}
mutual
/-- A set in memory, as data. -/
theorem TreeAt.rep (hs : ∀ b, F b → F' b) : ∀ (t : ST PEV) {b : Nat} {O : Nat → Prop}, (∀ x, O x → F' x) → TreeAt w F t b O → ∃ sm sc, w.heap[b]? = some (.cells #[sm, sc] 122 (0, 0)) ∧ Rep w F' (Zbs t) (.agg #[sm, sc]) ∧ sm.oneCell' = true ∧ sc.oneCell' = true ∧ O b
 | .mk m ch, b, O, hO, hv => by
  unfold TreeAt at hv
  obtain ⟨sm, sc, bs, Ok, h1, ⟨xs, a1, a2, a3, a4⟩, ⟨ys, c1, c2, c3, c4⟩, h4, h5, _⟩ := hv
  refine ⟨sm, sc, h1, ?_, Zhd a1, Zhd c1, (h5 b).2 (.inl rfl)⟩
  have r1 := Yf6 a1 (a2.keep (fun _ _ => rfl) hs) a3 a4 fun x hx => hO x ((h5 x).2 (.inr (.inl hx)))
  have hlen := h4.len
  have hn : (((ch.map (·.1)).zip bs).map Zss).length = (Zbi ch).length := by rw [Zjs]; simp [hlen]
  rw [hn] at c1 c3 c4
  have r2 := Yf6 c1 (KidsAt.rep hs ch (fun x hx => hO x ((h5 x).2 (.inr (.inr (.inr hx))))) h4 c2) c3 c4 fun x hx => hO x ((h5 x).2 (.inr (.inr (.inl hx))))
  unfold Zbs Rep
  refine ⟨[sm, sc], rfl, ?_, fun u hu => ?_⟩
  ·unfold Reps
   refine ⟨sm, [sc], rfl, r1, ?_⟩
   unfold Reps
   exact ⟨sc, [], rfl, r2, by unfold Reps; rfl⟩
  ·rcases List.mem_cons.1 hu with rfl | hu
   ·exact Zhd a1
   ·rw [List.mem_singleton] at hu; rw [hu]; exact Zhd c1
theorem KidsAt.rep (hs : ∀ b, F b → F' b) : ∀ (l : List (PEV × ST PEV)) {bs : List Nat} {O : Nat → Prop} {xs : List Value}, (∀ x, O x → F' x) → KidsAt w F l bs O → Groups w F 5 (((l.map (·.1)).zip bs).map Zss) xs → Groups w F' 5 (Zbi l) xs
 | [], bs, O, xs, hO, hv, hg => by unfold Zbi; exact hg
 | y :: r, bs, O, xs, hO, hv, hg => by
  unfold KidsAt at hv
  obtain ⟨b, bs', O1, O2, rfl, h2, h3, h4, h5⟩ := hv
  simp only [List.map_cons, List.zip_cons_cons] at hg
  obtain ⟨u, ys, rfl, g1, g2, g3, g4⟩ := hg
  unfold Zbi
  refine ⟨u, ys, rfl, ?_, g2, g3, KidsAt.rep hs r (fun x hx => hO x ((h4 x).2 (.inr hx))) h3 g4⟩
  obtain ⟨sm, sc, t1, t2, t3, t4, t5⟩ := TreeAt.rep hs y.2 (fun x hx => hO x ((h4 x).2 (.inl hx))) h2
  unfold Zss Rep at g1
  obtain ⟨vs, rfl, g5, g6⟩ := g1
  obtain ⟨vs', v, rfl, g7, g8⟩ := Zvn g5
  unfold Rep at g8
  unfold Rep
  refine ⟨vs' ++ [v], rfl, (Reps.keep (w' := w) (fun _ _ => rfl) hs _ g7).append ?_, g6⟩
  unfold Reps
  refine ⟨v, [], rfl, ?_, by unfold Reps; rfl⟩
  unfold Rep
  refine ⟨b, 0, .agg #[sm, sc], g8.1, hO b ((h4 b).2 (.inl t5)), t2, ?_⟩
  have hl := Zer (vs := [sm, sc]) t1 0
  simpa [Value.cells] using hl
end
theorem TreeAt.congr {t : ST PEV} {b : Nat} {O O' : Nat → Prop} (h : ∀ x, O' x ↔ O x) (hv : TreeAt w F t b O) : TreeAt w F t b O' := by
 cases t with
 | mk m ch =>
  unfold TreeAt at hv ⊢
  obtain ⟨sm, sc, bs, Ok, h1, h2, h3, h4, h5, h6⟩ := hv
  exact ⟨sm, sc, bs, Ok, h1, h2, h3, h4, fun x => (h x).trans (h5 x), h6⟩
end
def slS (b : Nat) : Value := .slice (some ⟨b, 0, none⟩) 1 1
def Zbr (b : Nat) (t : ST PEV) : Res where
 rel w F O v := v = slS b ∧ TreeAt w F t b O
 d := .sl 2 48 [Zbs t]
 one := by rintro w F O v ⟨rfl, _⟩; rfl
 keep := fun w w' F F' O v h hs hO ⟨e, ht⟩ => ⟨e, TreeAt.keep h hs t hO ht⟩
 frz := by
  rintro w F O F' v hs hO ⟨rfl, ht⟩
  obtain ⟨sm, sc, t1, t2, t3, t4, t5⟩ := ht.rep hs t hO
  unfold Rep
  refine ⟨some ⟨b, 0, none⟩, 1, rfl, by simp, by simp, by simp, .inr ⟨b, 0, hO b t5, rfl, ?_⟩⟩
  unfold RepL
  refine ⟨⟨.agg #[sm, sc], t2, rfl, fun c hc => ?_, ?_⟩, by unfold RepL; trivial⟩
  ·have hc : c ∈ [sm, sc] := hc
   rcases List.mem_cons.1 hc with rfl | hu
   ·exact t3
   ·rw [List.mem_singleton] at hu; rw [hu]; exact t4
  ·have hl := Zer (vs := [sm, sc]) t1 0
   simpa [Value.cells] using hl
def Yp7 (w : World) (F O : Nat → Prop) (b' : Nat) (g : ST PEV → ST PEV) (b : Nat) : Prop :=
 ∀ (w' : World) (F' : Nat → Prop) (t' : ST PEV) (O' : Nat → Prop), (∀ x, F x → w'.heap[x]? = w.heap[x]?) → (∀ x, F x → F' x) → (∀ x, O x → w'.heap[x]? = w.heap[x]?) → TreeAt w' F' t' b' O' → (∀ x, O x → ¬ O' x) → TreeAt w' F' (g t') b (fun x => O x ∨ O' x)
def Ytu : Opq where
 rel _ _ v := v.oneCell' = true
 one := fun _ _ _ h => h
 keep := fun _ _ _ _ _ _ _ h => h
def Zd1 (b' : Nat) (g : ST PEV → ST PEV) (b : Nat) : Res where
 rel w F O v := v = slS b ∧ Yp7 w F O b' g b
 d := .opq Ytu
 one := by rintro w F O v ⟨rfl, _⟩; rfl
 keep := fun w w' F F' O v h hs hO ⟨e, ht⟩ => ⟨e, fun w2 F2 t' O' h1 h2 h3 h4 h5 => ht w2 F2 t' O' (fun x hx => (h1 x (hs x hx)).trans (h x hx)) (fun x hx => h2 x (hs x hx)) (fun x hx => (h3 x hx).trans (hO x hx)) h4 h5⟩
 frz := by
  rintro w F O F' v hs hO ⟨rfl, ht⟩
  unfold Rep
  rfl
theorem Ykx {w : World} {F : Nat → Prop} {b : Nat} (h : w.heap[b]? = some (.cells #[.slice none 0 0, .slice none 0 0] 122 (0, 0))) : TreeAt w F (.mk [] []) b (fun x => x = b) := by
 unfold TreeAt
 refine ⟨.slice none 0 0, .slice none 0 0, [], fun _ => False, h, ⟨[], ⟨rfl, .inl ⟨rfl, rfl⟩⟩, rfl, by simp, by simp⟩, ⟨[], ⟨rfl, .inl ⟨rfl, rfl⟩⟩, rfl, by simp, by simp⟩, by unfold KidsAt; exact ⟨rfl, fun _ h => h⟩, fun x => ?_, ?_⟩
 ·simp [Value.ownBlock]
 ·simp [Value.ownBlock]
section
variable {P : Program} {X : Base} {N : Nat} {ops : List Oper} {s s' : Sta} {a : Act} {w : World} {ρ : Nat → RV}
theorem ConcAt.reput {d : Nat} (hd : d < X.N) {x y : AV} {v u : Value} (h : ConcAt X (s.put (some d) x) (a.put (some d) v) w ρ) (hy : VR w (FF X w s.tb ρ) s.tb ρ y u) : ConcAt X (s.put (some d) y) (a.put (some d) u) w ρ := by
 have h2 := h.put hd (x := y) (v := u) hy
 have e1 : (s.put (some d) x).put (some d) y = s.put (some d) y := by
  have : upd (upd s.tm d x) d y = upd s.tm d y := by
   funext t
   unfold upd
   split
   ·rfl
   ·rfl
  show ({ tm := upd (upd s.tm d x) d y, tb := _ } : Sta) = { tm := _, tb := _ }
  rw [this]
  rfl
 have e2 : (a.put (some d) v).put (some d) u = a.put (some d) u := by
  simp [Act.put]
 rwa [e1, e2] at h2
theorem Ylm {d : Nat} {x : Operand} (y : Nat → AV) (hy : ∀ b w F tb ρ, tb d = some (.res (Zbr b (.mk [] []))) → (ρ d).v = slS b → VR w F tb ρ (y b) (adr b)) (hN : Nat.blt d N = true) (hd0 : s.tb d = none) (hx : s.ev x = .dat (.agg [.val (.slice none 0 0), .val (.slice none 0 0)])) :
  TrI P X N ops (some d) (.box 122 x) (fun b : Nat => Eff.new d (.res (Zbr b (.mk [] []))) (y b)) s := ⟨fun hX ty pos aft s' hA a w ⟨ρ, hc⟩ K Q' hK => by
 have hd : d < X.N := by rw [hX.1]; exact Nat.blt_eq.mp hN
 have h1 := hc.ev x
 rw [Zej (hA 0) (by simp [Op.operands]), hx] at h1
 have hd0' : s'.tb d = none := (Zho (hA 0) rfl).trans hd0
 have he : a.eval x = .agg #[.slice none 0 0, .slice none 0 0] := by
  unfold VR Rep at h1
  obtain ⟨vs, e, h2, _⟩ := h1
  rw [e]
  unfold Reps at h2
  obtain ⟨v, r, rfl, h3, h2⟩ := h2
  unfold Reps at h2
  obtain ⟨v2, r2, rfl, h4, h2⟩ := h2
  unfold Reps at h2
  subst h2
  unfold Rep at h3 h4
  rw [h3.1, h4.1]
 have h2 := hc.newRes (d := d) hd hd0' (o := .cells #[.slice none 0 0, .slice none 0 0] 122) (R := Zbr w.heap.size (.mk [] [])) (v := slS w.heap.size) fun F => ⟨rfl, Ykx (by show (w.heap.push _)[w.heap.size]? = _; exact Array.getElem?_push_size)⟩
 have hr : (execOp a.eval ⟨some d, .box 122 x, ty, pos, aft, none⟩).run P w = .ok (.value (.pointer (some ⟨w.heap.size, 0, none⟩))) (w.alloc (.cells #[.slice none 0 0, .slice none 0 0] 122)) := by
  simp [execOp, Instr.box, newVar, newRow, he, Value.cells]
 have h3 := ConcAt.reput (s := { s' with tb := upd s'.tb d (some (.res (Zbr w.heap.size (.mk [] [])))) }) hd h2 (hy w.heap.size _ _ _ _ (Zah _ _ _) (by rw [Zah]))
 refine Zdr hr ?_
 exact hK (a.put (some d) (adr w.heap.size)) _ w.heap.size ⟨_, h3⟩⟩
end
def dN (e : PEV × PD) : PD := .agg (peC e.1 ++ [e.2])
theorem Ynh (x : PEV × PD) (p : PEV) : PCall Tryz.prog 219 [dN x, Za4 p] (.val (.int .i64 (Zaf x.1 p))) := by
 have c := Zh4 x.1 p
 obtain ⟨d0, d1, d2, d3, e⟩ := Ze5 x.1
 obtain ⟨u0, u1, u2, u3, e'⟩ := Zc2 p
 unfold dN
 rw [Zqd x.1, e, e'] at c
 rw [e, e']
 refine Zaa Tryz.func219 rfl Tryz.ntmps219 rfl (fun X => ?_)
 exact wke
/-- slices.BinarySearchFunc over set nodes. -/
theorem Yh5 (m : List (PEV × PD)) (p : PEV) (hl : ∀ x ∈ m.map (·.1), OPE x) (hp : OPE p) (hs : Srt Zaf (m.map (·.1))) :
  PCall Tryz.prog 158 [.sl 5 40 (m.map dN), Za4 p, .val (.func (.func 219) #[] #[])] (.tup [.val (.int .i64 ((Zbe Zaf (m.map (·.1)) p : Nat) : Int)), .val (.bool (Ze9 Zaf (m.map (·.1)) p))]) := by
 refine Zay fun hfit => ?_
 have b1 := (hfit (.sl 5 40 (m.map dN)) (by simp)).sl.2.1
 clear hfit
 have n1 : (m.map dN).length = m.length := by simp
 have ga : ∀ {z : Int} {i : Nat} {x : PEV × PD}, z = (i : Int) → m[i]? = some x → (m.map dN)[z.toNat]? = some (dN x) := fun hz h => by subst hz; simp [h]
 have gk : ∀ {i : Nat} {x : PEV × PD}, m[i]? = some x → (m.map (·.1))[i]? = some x.1 := fun h => by simp [h]
 rw [n1] at b1
 generalize m.map dN = da at *
 have hF := fun x => Ynh x p
 obtain ⟨u0, u1, u2, u3, e'⟩ := Zc2 p
 rw [e'] at hF ⊢
 have hlo := fun (i : Nat) (x : PEV × PD) (h : i < Zbe Zaf (m.map (·.1)) p) (hx : m[i]? = some x) => Zot (m.map (·.1)) p i x.1 h (gk hx)
 have hhi := fun (i : Nat) (x : PEV × PD) (h : Zbe Zaf (m.map (·.1)) p ≤ i) (hx : m[i]? = some x) => Zos ordPE hl hp hs i x.1 h (gk hx)
 have hle := Zit (c := Zaf) (m.map (·.1)) p
 rw [List.length_map] at hle
 rw [Zn2]
 generalize hloc : Zbe Zaf (m.map (·.1)) p = loc at *
 clear hs
 refine Zaa Tryz.func158 rfl Tryz.ntmps158 rfl (fun X => ?_)
 refine wk ?_
 refine Zaq (ι := { j : Nat × Nat // j.1 ≤ loc ∧ loc ≤ j.2 ∧ j.2 ≤ m.length })
  (fun j => [(0, .dat (.sl 5 40 da)), (2, .dat (.val (.func (.func 219) #[] #[]))), (4, .ptr 4 0), (8, .dat (.val (.int .i64 ((da.length : Nat) : Int)))), (9, .dat (.val (.int .i64 (j.1.1 : Nat)))), (10, .dat (.val (.int .i64 (j.1.2 : Nat))))])
  (fun _ => [(4, .box 99 (Zap (.agg [u0, u1, u2, u3])))]) (fun j => j.1.2 - j.1.1) ⟨(0, da.length), Nat.zero_le _, by rw [n1]; exact hle, by rw [n1]; exact Nat.le_refl _⟩ id ?_ ?_
 ·exact sb
 rintro ⟨⟨lo, hi⟩, h1, h2, h3⟩
 simp only at h1 h2 h3
 simp only
 by_cases hlt : lo < hi
 ·have g1 : decide ((lo : Int) < (hi : Int)) = true := decide_eq_true (by omega)
  obtain ⟨h, hh⟩ : ∃ h, h = (lo + hi) / 2 := ⟨_, rfl⟩
  have w1 : IntKind.u64.wrap ((lo : Int) + (hi : Int)) = (lo : Int) + (hi : Int) := by
   simp [IntKind.wrap, IntKind.signed, IntKind.bits]; omega
  have w2 : ((lo : Int) + (hi : Int)) / 2 = ((h : Nat) : Int) := by omega
  have w3 : IntKind.i64.wrap ((h : Nat) : Int) = ((h : Nat) : Int) := by rw [IntKind.wrap_i64]; omega
  have w4 : (Lit.int .u64 ((h : Nat) : Int)).wf = true := by
   simp [Lit.wf, IntKind.min, IntKind.max, IntKind.signed, IntKind.bits]; omega
  obtain ⟨x, hx⟩ : ∃ x, m[h]? = some x := ⟨_, List.getElem?_eq_getElem (by omega)⟩
  have i1 := ga (z := ((h : Nat) : Int)) rfl hx
  have cF := hF x
  obtain ⟨k, v⟩ := x
  obtain ⟨d0, d1, d2, d3, ek⟩ := Ze5 k
  unfold dN at i1 cF
  rw [ek] at i1 cF
  by_cases hc : Zaf k p < 0
  ·have g2 : decide (Zaf k p < 0) = true := decide_eq_true hc
   have hb : h < loc := by
    refine Nat.lt_of_not_le fun hn => hhi h _ hn hx hc
   clear hlo hhi hF hloc
   refine wk ?_
   refine Zan ?_
   refine ⟨⟨(h + 1, hi), by simp only; omega, by simp only; omega, h3⟩, id, by simp only; omega, ?_⟩
   exact sb
  ·have g2 : decide (Zaf k p < 0) = false := decide_eq_false hc
   have hb : loc ≤ h := by
    refine Nat.le_of_not_lt fun hn => hc (hlo h _ hn hx)
   clear hlo hhi hF hloc
   refine wk ?_
   refine Zan ?_
   refine ⟨⟨(lo, h), h1, hb, by simp only; omega⟩, id, by simp only; omega, ?_⟩
   exact sb
 ·have g1 : decide ((lo : Int) < (hi : Int)) = false := decide_eq_false (by omega)
  obtain rfl : lo = loc := by omega
  by_cases hin : lo < m.length
  ·have g2 : decide ((lo : Int) < ((da.length : Nat) : Int)) = true := decide_eq_true (by omega)
   obtain ⟨x, hx⟩ : ∃ x, m[lo]? = some x := ⟨_, List.getElem?_eq_getElem hin⟩
   have i1 := ga (z := ((lo : Nat) : Int)) rfl hx
   have cF := hF x
   rw [gk hx]
   obtain ⟨k, v⟩ := x
   obtain ⟨d0, d1, d2, d3, ek⟩ := Ze5 k
   unfold dN at i1 cF
   rw [ek] at i1 cF
   simp only
   clear hlo hhi hF hloc
   exact wke
  ·have g2 : decide ((lo : Int) < ((da.length : Nat) : Int)) = false := decide_eq_false (by omega)
   rw [List.getElem?_eq_none (by rw [List.length_map]; omega)]
   simp only
   exact wke
theorem Zwu (x : PEV × PD) (p : PEV) : PCall Tryz.prog 159 [dN x, Za4 p] (.val (.int .i64 (Zaf x.1 p))) := by
 have c := Zh4 x.1 p
 obtain ⟨d0, d1, d2, d3, e⟩ := Ze5 x.1
 obtain ⟨u0, u1, u2, u3, e'⟩ := Zc2 p
 unfold dN
 rw [Zqd x.1, e, e'] at c
 rw [e, e']
 refine Zaa Tryz.func159 rfl Tryz.ntmps159 rfl (fun X => ?_)
 exact wke
/-- slices.BinarySearchFunc over set nodes. -/
theorem Zmb (m : List (PEV × PD)) (p : PEV) (hl : ∀ x ∈ m.map (·.1), OPE x) (hp : OPE p) (hs : Srt Zaf (m.map (·.1))) :
  PCall Tryz.prog 158 [.sl 5 40 (m.map dN), Za4 p, .val (.func (.func 159) #[] #[])] (.tup [.val (.int .i64 ((Zbe Zaf (m.map (·.1)) p : Nat) : Int)), .val (.bool (Ze9 Zaf (m.map (·.1)) p))]) := by
 refine Zay fun hfit => ?_
 have b1 := (hfit (.sl 5 40 (m.map dN)) (by simp)).sl.2.1
 clear hfit
 have n1 : (m.map dN).length = m.length := by simp
 have ga : ∀ {z : Int} {i : Nat} {x : PEV × PD}, z = (i : Int) → m[i]? = some x → (m.map dN)[z.toNat]? = some (dN x) := fun hz h => by subst hz; simp [h]
 have gk : ∀ {i : Nat} {x : PEV × PD}, m[i]? = some x → (m.map (·.1))[i]? = some x.1 := fun h => by simp [h]
 rw [n1] at b1
 generalize m.map dN = da at *
 have hF := fun x => Zwu x p
 obtain ⟨u0, u1, u2, u3, e'⟩ := Zc2 p
 rw [e'] at hF ⊢
 have hlo := fun (i : Nat) (x : PEV × PD) (h : i < Zbe Zaf (m.map (·.1)) p) (hx : m[i]? = some x) => Zot (m.map (·.1)) p i x.1 h (gk hx)
 have hhi := fun (i : Nat) (x : PEV × PD) (h : Zbe Zaf (m.map (·.1)) p ≤ i) (hx : m[i]? = some x) => Zos ordPE hl hp hs i x.1 h (gk hx)
 have hle := Zit (c := Zaf) (m.map (·.1)) p
 rw [List.length_map] at hle
 rw [Zn2]
 generalize hloc : Zbe Zaf (m.map (·.1)) p = loc at *
 clear hs
 refine Zaa Tryz.func158 rfl Tryz.ntmps158 rfl (fun X => ?_)
 refine wk ?_
 refine Zaq (ι := { j : Nat × Nat // j.1 ≤ loc ∧ loc ≤ j.2 ∧ j.2 ≤ m.length })
  (fun j => [(0, .dat (.sl 5 40 da)), (2, .dat (.val (.func (.func 159) #[] #[]))), (4, .ptr 4 0), (8, .dat (.val (.int .i64 ((da.length : Nat) : Int)))), (9, .dat (.val (.int .i64 (j.1.1 : Nat)))), (10, .dat (.val (.int .i64 (j.1.2 : Nat))))])
  (fun _ => [(4, .box 99 (Zap (.agg [u0, u1, u2, u3])))]) (fun j => j.1.2 - j.1.1) ⟨(0, da.length), Nat.zero_le _, by rw [n1]; exact hle, by rw [n1]; exact Nat.le_refl _⟩ id ?_ ?_
 ·exact sb
 rintro ⟨⟨lo, hi⟩, h1, h2, h3⟩
 simp only at h1 h2 h3
 simp only
 by_cases hlt : lo < hi
 ·have g1 : decide ((lo : Int) < (hi : Int)) = true := decide_eq_true (by omega)
  obtain ⟨h, hh⟩ : ∃ h, h = (lo + hi) / 2 := ⟨_, rfl⟩
  have w1 : IntKind.u64.wrap ((lo : Int) + (hi : Int)) = (lo : Int) + (hi : Int) := by
   simp [IntKind.wrap, IntKind.signed, IntKind.bits]; omega
  have w2 : ((lo : Int) + (hi : Int)) / 2 = ((h : Nat) : Int) := by omega
  have w3 : IntKind.i64.wrap ((h : Nat) : Int) = ((h : Nat) : Int) := by rw [IntKind.wrap_i64]; omega
  have w4 : (Lit.int .u64 ((h : Nat) : Int)).wf = true := by
   simp [Lit.wf, IntKind.min, IntKind.max, IntKind.signed, IntKind.bits]; omega
  obtain ⟨x, hx⟩ : ∃ x, m[h]? = some x := ⟨_, List.getElem?_eq_getElem (by omega)⟩
  have i1 := ga (z := ((h : Nat) : Int)) rfl hx
  have cF := hF x
  obtain ⟨k, v⟩ := x
  obtain ⟨d0, d1, d2, d3, ek⟩ := Ze5 k
  unfold dN at i1 cF
  rw [ek] at i1 cF
  by_cases hc : Zaf k p < 0
  ·have g2 : decide (Zaf k p < 0) = true := decide_eq_true hc
   have hb : h < loc := by
    refine Nat.lt_of_not_le fun hn => hhi h _ hn hx hc
   clear hlo hhi hF hloc
   refine wk ?_
   refine Zan ?_
   refine ⟨⟨(h + 1, hi), by simp only; omega, by simp only; omega, h3⟩, id, by simp only; omega, ?_⟩
   exact sb
  ·have g2 : decide (Zaf k p < 0) = false := decide_eq_false hc
   have hb : loc ≤ h := by
    refine Nat.le_of_not_lt fun hn => hc (hlo h _ hn hx)
   clear hlo hhi hF hloc
   refine wk ?_
   refine Zan ?_
   refine ⟨⟨(lo, h), h1, hb, by simp only; omega⟩, id, by simp only; omega, ?_⟩
   exact sb
 ·have g1 : decide ((lo : Int) < (hi : Int)) = false := decide_eq_false (by omega)
  obtain rfl : lo = loc := by omega
  by_cases hin : lo < m.length
  ·have g2 : decide ((lo : Int) < ((da.length : Nat) : Int)) = true := decide_eq_true (by omega)
   obtain ⟨x, hx⟩ : ∃ x, m[lo]? = some x := ⟨_, List.getElem?_eq_getElem hin⟩
   have i1 := ga (z := ((lo : Nat) : Int)) rfl hx
   have cF := hF x
   rw [gk hx]
   obtain ⟨k, v⟩ := x
   obtain ⟨d0, d1, d2, d3, ek⟩ := Ze5 k
   unfold dN at i1 cF
   rw [ek] at i1 cF
   simp only
   clear hlo hhi hF hloc
   exact wke
  ·have g2 : decide ((lo : Int) < ((da.length : Nat) : Int)) = false := decide_eq_false (by omega)
   rw [List.getElem?_eq_none (by rw [List.length_map]; omega)]
   simp only
   exact wke
end Go.Proofs.YtgmahieoiifpfaaGreat
