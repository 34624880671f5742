/- Part 12 of what the proof rests on. -/
import Derived.Test.YtgmahieoiifpfaaGreatScR5
import Derived.Test.YtgmahieoiifpfaaGreatScR6
import Derived.Test.YtgmahieoiifpfaaGreatScR9
import Derived.Test.YtgmahieoiifpfaaGreatScR10
import Derived.Test.YtgmahieoiifpfaaGreatScR11
set_option linter.unusedSimpArgs false
set_option linter.unusedVariables false
set_option maxHeartbeats 16000000
namespace Go.Proofs.YtgmahieoiifpfaaGreat
open Go.RowKit
def Ybh (s : List (List EV)) (p : List EV) : List (List EV) := if p = [] then s else if Ze9 (cw Zdu) s p then s else s.take (Zbe (cw Zdu) s p) ++ p.map Za0 :: s.drop (Zbe (cw Zdu) s p)
def Zb1 (ps : List (List EV)) : List (List EV) := ps.foldl Ybh []
theorem Zvu (ps : List (List EV)) (p : List EV) : Zb1 (ps ++ [p]) = Ybh (Zb1 ps) p := by
 unfold Zb1
 rw [List.foldl_append]
 rfl
structure SetOk (s : List (List EV)) : Prop where
 P : ∀ a ∈ s, PP OE a
 S : Srt (cw Zdu) s
theorem Yro (n y : Nat) (l : List PD) : Ys1 (.sl n y l) := fun w F c h => by
 unfold Rep at h
 obtain ⟨a, c', e, _⟩ := h
 rw [e]; rfl
theorem Yg2 {l : List PD} {i : Nat} {z d : PD} (hi : i ≤ l.length) : (Zjk (l ++ [z]) i).set i d = l.take i ++ d :: l.drop i := by
 unfold Zjk
 have e1 : (l ++ [z]).length = l.length + 1 := by simp
 rw [e1, show l.length + 1 - (i + 1) = l.length - i by omega]
 have e2 : ((l ++ [z]).drop i).take (l.length - i) = l.drop i := by
  rw [List.drop_append_of_le_length hi, List.take_append_of_le_length (by simp), List.take_of_length_le (by simp)]
 rw [e2]
 obtain ⟨x, hx⟩ : ∃ x, (l ++ [z])[i]? = some x := ⟨_, List.getElem?_eq_getElem (by simp; omega)⟩
 have e3 : (l ++ [z]).take (i + 1) = l.take i ++ [x] := by
  rw [List.take_add_one, hx, List.take_append_of_le_length hi]; rfl
 rw [e3, List.append_assoc, List.set_append_right _ _ (by simp; omega)]
 have : (l.take i).length = i := by simp; omega
 rw [this, Nat.sub_self]
 rfl
theorem Yi2 (s : List (List EV)) (p : List EV) : (Ybh s p).length ≤ s.length + 1 := by
 unfold Ybh
 split
 ·omega
 ·split
  ·omega
  ·simp; omega
theorem Zvv (ps : List (List EV)) : ∀ k, (Zb1 (ps.take k)).length ≤ k := by
 intro k
 induction k with
 | zero => simp [Zb1]
 | succ k ih =>
  by_cases hk : k < ps.length
  ·rw [List.take_add_one, List.getElem?_eq_getElem hk]
   simp only [Option.toList_some]
   rw [Zvu]
   have := Yi2 (Zb1 (ps.take k)) ps[k]
   omega
  ·rw [List.take_of_length_le (by omega)] at ih ⊢
   omega
theorem Yo1 (ps : List (List EV)) (hn : ps.length ≤ 549755813888) (hO : ∀ p ∈ ps, ∀ x ∈ p, OE x) (hok : ∀ k, SetOk (Zb1 (ps.take k))) : PCall Tryz.prog 25 [.sl 1 24 (ps.map pdP)] (.sl 1 24 ((Zb1 ps).map pdP)) := by
 have n1 : (ps.map pdP).length = ps.length := by simp
 refine Zaa Tryz.func25 rfl Tryz.ntmps25 rfl (fun X => ?_)
 refine wk ?_
 refine Zq6 3 100 22 1 24 rfl rfl ?_
 refine Zaq (ι := { k : Nat // k ≤ ps.length })
  (fun k => [(3, .own 100), (8, .dat (.sl 1 24 (ps.map pdP))), (9, .dat (.val (.int .i64 (((ps.map pdP).length : Nat) : Int)))), (10, .dat (.val (.int .i64 (k.1 : Nat))))])
  (fun k => [(100, .row 22 1 24 ((Zb1 (ps.take k.1)).map pdP))]) (fun k => ps.length - k.1) ⟨0, Nat.zero_le _⟩ id ?_ ?_
 ·exact sb
 rintro ⟨k, hk⟩
 by_cases hlt : k < ps.length
 ·have hc : decide ((k : Int) < (((ps.map pdP).length : Nat) : Int)) = true := decide_eq_true (by omega)
  obtain ⟨p, hp⟩ : ∃ p, ps[k]? = some p := ⟨_, List.getElem?_eq_getElem hlt⟩
  have hi : (ps.map pdP)[((k : Nat) : Int).toNat]? = some (.sl 11 168 (p.map pdE)) := by rw [show PD.sl 11 168 (p.map pdE) = pdP p from rfl]; simp [hp]
  have hstep : Zb1 (ps.take (k + 1)) = Ybh (Zb1 (ps.take k)) p := by
   rw [List.take_add_one, hp]
   exact Zvu _ _
  have hkl := Zvv ps k
  have hsok := hok k
  have hpm := List.mem_of_getElem? hp
  by_cases h0 : p = []
  ·subst h0
   have g1 : decide ((((([] : List EV).map pdE).length : Nat) : Int) = 0) = true := rfl
   have e : (Zb1 (ps.take k)).map pdP = (Zb1 (ps.take (k + 1))).map pdP := by rw [hstep]; unfold Ybh; rw [if_pos rfl]
   refine wk ?_
   refine Zan ?_
   refine ⟨⟨k + 1, by omega⟩, id, by simp only; omega, ?_⟩
   exact sb
  have g1 : decide ((((p.map pdE).length : Nat) : Int) = 0) = false := decide_eq_false (by
   have : p.length ≠ 0 := fun h => h0 (List.eq_nil_of_length_eq_zero h)
   rw [List.length_map]; omega)
  have c1 : PCall Tryz.prog 79 [.sl 1 24 ((Zb1 (ps.take k)).map pdP), .sl 11 168 (p.map pdE)] (.tup [.val (.int .i64 ((Zbe (cw Zdu) (Zb1 (ps.take k)) p : Nat) : Int)), .val (.bool (Ze9 (cw Zdu) (Zb1 (ps.take k)) p))]) := Yov (Zb1 (ps.take k)) p hsok.P ⟨h0, fun x hx => hO p hpm x hx⟩ hsok.S
  have c2 : PCall Tryz.prog 80 [.sl 11 168 (p.map pdE)] (.sl 11 168 ((p.map Za0).map pdE)) := Zwl p
  have hle := Zit (c := cw Zdu) (Zb1 (ps.take k)) p
  have e2 : Ybh (Zb1 (ps.take k)) p = if Ze9 (cw Zdu) (Zb1 (ps.take k)) p then Zb1 (ps.take k) else (Zb1 (ps.take k)).take (Zbe (cw Zdu) (Zb1 (ps.take k)) p) ++ p.map Za0 :: (Zb1 (ps.take k)).drop (Zbe (cw Zdu) (Zb1 (ps.take k)) p) := by
   conv => lhs; unfold Ybh
   rw [if_neg h0]
  rw [← hstep] at e2
  cases hf : Ze9 (cw Zdu) (Zb1 (ps.take k)) p with
  | true =>
   rw [hf] at c1 e2
   rw [if_pos rfl] at e2
   have e : (Zb1 (ps.take k)).map pdP = (Zb1 (ps.take (k + 1))).map pdP := by rw [e2]
   refine wk ?_
   refine Zhb gV rfl (by kernel_rfl) rfl c1 Flat.tup2 ?_
   refine wk ?_
   refine Zan ?_
   refine ⟨⟨k + 1, by omega⟩, id, by simp only; omega, ?_⟩
   exact sb
  | false =>
   rw [hf] at c1 e2
   rw [if_neg (by simp)] at e2
   generalize Zbe (cw Zdu) (Zb1 (ps.take k)) p = loc at *
   have e : ((Zb1 (ps.take k)).map pdP).take loc ++ .sl 11 168 ((p.map Za0).map pdE) :: ((Zb1 (ps.take k)).map pdP).drop loc = (Zb1 (ps.take (k + 1))).map pdP := by
    rw [e2, List.map_append, List.map_cons, List.map_take, List.map_drop]; rfl
   have hll : ((Zb1 (ps.take k)).map pdP).length = (Zb1 (ps.take k)).length := by simp
   clear e2 hstep hsok hok hO hf h0 hpm
   generalize (Zb1 (ps.take k)).map pdP = r1 at *
   have hbt : (r1.length + [PD.val (.slice none 0 0)].length) * 24 ≤ 140737488351232 := by simp only [List.length_cons, List.length_nil]; omega
   have hbl : r1.length + [PD.val (.slice none 0 0)].length ≤ 140737488351232 := by omega
   have hss := Yg2 (l := r1) (i := loc) (z := .val (.slice none 0 0)) (d := .sl 11 168 ((p.map Za0).map pdE)) (by omega)
   rw [e] at hss
   have h3 : 0 < (r1 ++ [PD.val (.slice none 0 0)]).length := by simp
   have h4 : (r1 ++ [PD.val (.slice none 0 0)]).length = r1.length + 1 := by simp
   have h5 : loc + 1 ≤ (r1 ++ [PD.val (.slice none 0 0)]).length := by omega
   have h6 : loc ≤ (r1 ++ [PD.val (.slice none 0 0)]).length := by omega
   have h7 : loc < (r1 ++ [PD.val (.slice none 0 0)]).length := by omega
   have i2 : loc < (Zjk (r1 ++ [PD.val (.slice none 0 0)]) loc).length := by unfold Zjk; simp; omega
   refine wk ?_
   refine Zhb gV rfl (by kernel_rfl) rfl c1 Flat.tup2 ?_
   have nd : Zia := ⟨trivial⟩
   refine wk ?_
   clear nd
   refine Zxn (k := 26) (t := 3) (d := 200) rfl rfl rfl (by decide) h3 fun g cap => ?_
   refine wk ?_
   refine Zcl (Ydr (p := loc + 1) rfl rfl rfl rfl (by omega) h5) ?_
   refine wk ?_
   refine Zcl (Zys (p := loc) rfl rfl rfl rfl h6) ?_
   refine wk ?_
   refine Zcl (Yms (k := 200) (i := loc) rfl rfl h7 rfl rfl) ?_
   refine wk ?_
   refine Ybn (k := 200) rfl ?_
   refine wk ?_
   refine Ye5 rfl rfl i2 rfl (Yro _ _ _) ?_
   refine wk ?_
   refine Zan ?_
   refine ⟨⟨k + 1, by omega⟩, (fun j => if j = 100 then 200 else j), by simp only; omega, ?_⟩
   exact sb
 ·have hc : decide ((k : Int) < (((ps.map pdP).length : Nat) : Int)) = false := decide_eq_false (by omega)
  have hkk : ps.take k = ps := List.take_of_length_le (by omega)
  simp only [hkk]
  refine Zbj (fun _ => false) (fun k => k == 100) ?_
  exact wke
theorem Zla (x : EV) : rkE (Za0 x) = rkE x := by
 unfold rkE Za0
 by_cases k1 : x.kind = 1
 ·rw [if_pos k1, if_pos k1]; rfl
 rw [if_neg k1, if_neg k1]
 by_cases k2 : x.kind = 2
 ·rw [if_pos k2, if_pos k2]; rfl
 rw [if_neg k2, if_neg k2]
 by_cases k3 : x.kind = 3
 ·rw [if_pos k3, if_pos k3]; rfl
 rw [if_neg k3, if_neg k3]; rfl
theorem Zpw : ∀ (ks : List ByteArray) (l : List GV), (ks.take (min ks.length l.length)).zip (Zco (l.take (min ks.length l.length))) = (ks.zip l).map fun f => (f.1, Zav f.2)
 | [], l => by simp
 | k :: ks, [] => by simp
 | k :: ks, v :: l => by
  simp only [List.length_cons, Nat.succ_min_succ, List.take_succ_cons, Zco, List.zip_cons_cons, List.map_cons]
  rw [Zpw ks l]
theorem Zkr {x : EV} (h : rkE x = 1) : kvE (Za0 x) = (kvE x).map fun f => (f.1, Zav f.2) := by
 have k1 : x.kind = 1 := by
  unfold rkE at h
  by_cases k1 : x.kind = 1
  ·exact k1
  ·rw [if_neg k1] at h
   split at h
   ·cases h
   ·split at h <;> cases h
 unfold kvE Za0
 rw [if_pos k1]
 exact Zpw x.keys x.l
theorem Zp7 {α : Type} {c : α → α → Int} {f : α → α} (h : ∀ x y, c (f x) y = c x y) : ∀ (a b : List α), Zca c (a.map f) b = Zca c a b
 | [], b => rfl
 | x :: a, [] => rfl
 | x :: a, y :: b => by rw [List.map_cons, Zb7, Zb7, h, Zp7 h a b]
theorem Zp8 {α : Type} {c : α → α → Int} {f : α → α} (h : ∀ x y, c x (f y) = c x y) : ∀ (a b : List α), Zca c a (b.map f) = Zca c a b
 | [], [] => rfl
 | [], y :: b => rfl
 | x :: a, [] => rfl
 | x :: a, y :: b => by rw [List.map_cons, Zb7, Zb7, h, Zp8 h a b]
theorem Zt9 {α : Type} {c : α → α → Bool} {f : α → α} (h : ∀ x y, c (f x) y = c x y) : ∀ (a b : List α), Zfa c (a.map f) b = Zfa c a b
 | [], [] => rfl
 | [], y :: b => rfl
 | x :: a, [] => rfl
 | x :: a, y :: b => by rw [List.map_cons]; unfold Zfa; rw [h, Zt9 h a b]
theorem Zua {α : Type} {c : α → α → Bool} {f : α → α} (h : ∀ x y, c x (f y) = c x y) : ∀ (a b : List α), Zfa c a (b.map f) = Zfa c a b
 | [], [] => rfl
 | [], y :: b => rfl
 | x :: a, [] => rfl
 | x :: a, y :: b => by rw [List.map_cons]; unfold Zfa; rw [h, Zua h a b]
theorem Zrs {x : EV} (h : rkE x = 2) : (Za0 x).v = Zav x.v := by
 unfold rkE at h
 unfold Za0
 by_cases k1 : x.kind = 1
 ·rw [if_pos k1] at h; cases h
 rw [if_neg k1] at h ⊢
 by_cases k2 : x.kind = 2
 ·rw [if_pos k2]
 rw [if_neg k2] at h
 split at h <;> cases h
theorem Zro {x : EV} (h : rkE x = 3) : (Za0 x).n = x.n := by
 unfold rkE at h
 unfold Za0
 by_cases k1 : x.kind = 1
 ·rw [if_pos k1] at h; cases h
 rw [if_neg k1] at h ⊢
 by_cases k2 : x.kind = 2
 ·rw [if_pos k2] at h; cases h
 rw [if_neg k2] at h ⊢
 by_cases k3 : x.kind = 3
 ·rw [if_pos k3]
 rw [if_neg k3] at h; cases h
theorem Zrr {x : EV} (h1 : ¬ rkE x = 1) (h2 : ¬ rkE x = 2) (h3 : ¬ rkE x = 3) : (Za0 x).s = x.s := by
 unfold rkE at h1 h2 h3
 unfold Za0
 by_cases k1 : x.kind = 1
 ·rw [if_pos k1] at h1; exact absurd rfl h1
 rw [if_neg k1] at h2 h3 ⊢
 by_cases k2 : x.kind = 2
 ·rw [if_pos k2] at h2; exact absurd rfl h2
 rw [if_neg k2] at h3 ⊢
 by_cases k3 : x.kind = 3
 ·rw [if_pos k3] at h3; exact absurd rfl h3
 rw [if_neg k3]
theorem Zhn (x : EV) : LikeE (Za0 x) x := by
 refine ⟨fun y => ?_, fun y => ?_, fun y => ?_, fun y => ?_⟩
 ·unfold Zdu Yc0
  rw [Zla]
  congr 1
  by_cases h1 : rkE x = 1
  ·rw [if_pos h1, if_pos h1, Zkr h1]
   exact Zp7 (fun f g => by unfold Znx; simp only; rw [Zc1]) _ _
  rw [if_neg h1, if_neg h1]
  by_cases h2 : rkE x = 2
  ·rw [if_pos h2, if_pos h2, Zrs h2, Zc1]
  rw [if_neg h2, if_neg h2]
  by_cases h3 : rkE x = 3
  ·rw [if_pos h3, if_pos h3, Zro h3]
  rw [if_neg h3, if_neg h3, Zrr h1 h2 h3]
 ·unfold Zdu
  rw [Zla]
  by_cases hr : Zbw (rkE y) (rkE x) = 0
  ·rw [Zci hr, Zci hr]
   have hr : rkE y = rkE x := by
    unfold Zbw at hr
    split at hr
    ·cases hr
    ·split at hr
     ·cases hr
     ·omega
   unfold Yc0
   by_cases h1 : rkE y = 1
   ·rw [if_pos h1, if_pos h1, Zkr (by rw [← hr]; exact h1)]
    exact Zp8 (fun f g => by unfold Znx; simp only; rw [Zc1]) _ _
   rw [if_neg h1, if_neg h1]
   by_cases h2 : rkE y = 2
   ·rw [if_pos h2, if_pos h2, Zrs (by rw [← hr]; exact h2), Zc1]
   rw [if_neg h2, if_neg h2]
   by_cases h3 : rkE y = 3
   ·rw [if_pos h3, if_pos h3, Zro (by rw [← hr]; exact h3)]
   rw [if_neg h3, if_neg h3, Zrr (by rw [← hr]; exact h1) (by rw [← hr]; exact h2) (by rw [← hr]; exact h3)]
  ·rw [Zeh hr, Zeh hr]
 ·unfold eqE
  rw [Zla]
  by_cases hr : rkE x = rkE y
  ·rw [if_neg (show ¬ (rkE x ≠ rkE y) from fun h => h hr), if_neg (show ¬ (rkE x ≠ rkE y) from fun h => h hr)]
   by_cases h1 : rkE x = 1
   ·rw [if_pos h1, if_pos h1, Zkr h1]
    exact Zt9 (fun f g => by unfold Ylf; simp only; rw [Zc1]) _ _
   rw [if_neg h1, if_neg h1]
   by_cases h2 : rkE x = 2
   ·rw [if_pos h2, if_pos h2, Zrs h2, Zc1]
   rw [if_neg h2, if_neg h2]
   by_cases h3 : rkE x = 3
   ·rw [if_pos h3, if_pos h3, Zro h3]
   rw [if_neg h3, if_neg h3, Zrr h1 h2 h3]
  ·rw [if_pos hr, if_pos hr]
 ·unfold eqE
  rw [Zla]
  by_cases hr : rkE y = rkE x
  ·rw [if_neg (show ¬ (rkE y ≠ rkE x) from fun h => h hr), if_neg (show ¬ (rkE y ≠ rkE x) from fun h => h hr)]
   by_cases h1 : rkE y = 1
   ·rw [if_pos h1, if_pos h1, Zkr (by rw [← hr]; exact h1)]
    exact Zua (fun f g => by unfold Ylf; simp only; rw [Zc1]) _ _
   rw [if_neg h1, if_neg h1]
   by_cases h2 : rkE y = 2
   ·rw [if_pos h2, if_pos h2, Zrs (by rw [← hr]; exact h2), Zc1]
   rw [if_neg h2, if_neg h2]
   by_cases h3 : rkE y = 3
   ·rw [if_pos h3, if_pos h3, Zro (by rw [← hr]; exact h3)]
   rw [if_neg h3, if_neg h3, Zrr (by rw [← hr]; exact h1) (by rw [← hr]; exact h2) (by rw [← hr]; exact h3)]
  ·rw [if_pos hr, if_pos hr]
theorem OE.clean {x : EV} (h : OE x) : OE (Za0 x) := by
 obtain ⟨z, hz, l⟩ := h
 have c := Zhn x
 exact ⟨z, hz, ⟨fun y => (c.l y).trans (l.l y), fun y => (c.r y).trans (l.r y), fun y => (c.el y).trans (l.el y), fun y => (c.er y).trans (l.er y)⟩⟩
theorem Ydh {α : Type} {c : α → α → Int} {f : α → α} (h : ∀ x y, c (f x) y = c x y) : ∀ (a b : List α), cw c (a.map f) b = cw c a b
 | [], b => rfl
 | x :: a, [] => rfl
 | x :: a, y :: b => by
  rw [List.map_cons, Zcr, Zcr, h, Ydh h a b]
  cases a <;> rfl
theorem Ydi {α : Type} {c : α → α → Int} {f : α → α} (h : ∀ x y, c x (f y) = c x y) : ∀ (a b : List α), cw c a (b.map f) = cw c a b
 | [], [] => rfl
 | [], y :: b => rfl
 | x :: a, [] => rfl
 | x :: a, y :: b => by
  rw [List.map_cons, Zcr, Zcr, h, Ydi h a b]
  cases b <;> rfl
theorem Ys5 (a b : List EV) : cw Zdu a (b.map Za0) = cw Zdu a b := Ydi (fun x y => (Zhn y).r x) a b
theorem Ys6 (a b : List EV) : cw Zdu (a.map Za0) b = cw Zdu a b := Ydh (fun x y => (Zhn x).l y) a b
theorem Zou {α : Type} {c : α → α → Int} {p q : α} (h : ∀ x, c x p = c x q) : ∀ l : List α, Zbe c l p = Zbe c l q ∧ Ze9 c l p = Ze9 c l q
 | [] => ⟨rfl, rfl⟩
 | x :: r => by
  unfold Zbe Ze9
  rw [h x, (Zou h r).1, (Zou h r).2]
  exact ⟨rfl, rfl⟩
def clP (ps : List (List EV)) : List (List EV) := (ps.filter fun p => !p.isEmpty).map (·.map Za0)
theorem Ynn {s : List (List EV)} {p : List EV} (h : p ≠ []) : Ybh s p = Zdj (cw Zdu) s (p.map Za0) := by
 unfold Ybh
 rw [if_neg h, Zta]
 obtain ⟨h1, h2⟩ := Zou (c := cw Zdu) (p := p.map Za0) (q := p) (fun x => Ys5 x p) s
 rw [h1, h2]
theorem Yah (ps : List (List EV)) : Zb1 ps = Zvt (cw Zdu) (clP ps) := by
 have : ∀ (ps : List (List EV)) (s : List (List EV)), ps.foldl Ybh s = (clP ps).foldl (Zdj (cw Zdu)) s := by
  intro ps
  induction ps with
  | nil => intro s; rfl
  | cons p ps ih =>
   intro s
   rw [List.foldl_cons, ih]
   unfold clP
   rw [List.filter_cons]
   cases p with
   | nil => rw [show Ybh s [] = s from by unfold Ybh; rw [if_pos rfl]]; rfl
   | cons x p =>
    rw [Ynn (by simp)]
    rfl
 exact this ps []
theorem Ymh {ps : List (List EV)} (h : ∀ p ∈ ps, ∀ x ∈ p, OE x) : ∀ a ∈ clP ps, PP OE a := fun a ha => by
 unfold clP at ha
 obtain ⟨p, hp, rfl⟩ := List.mem_map.1 ha
 obtain ⟨hp, hne⟩ := List.mem_filter.1 hp
 refine ⟨fun e => ?_, fun x hx => ?_⟩
 ·have : p = [] := List.map_eq_nil_iff.1 e
  subst this
  simp at hne
 ·obtain ⟨y, hy, rfl⟩ := List.mem_map.1 hx
  exact (h p hp y hy).clean
theorem Zha {ps : List (List EV)} (h : ∀ p ∈ ps, ∀ x ∈ p, OE x) : SetOk (Zb1 ps) := by
 rw [Yah]
 exact ⟨Yr1 Ybx (Ymh h), Yg1 Ybx (Ymh h)⟩
theorem Yeb (q : List EV) (hq : q ≠ []) : ∀ ps : List (List EV), Zbn (cw Zdu) (clP ps) q = Zbn (cw Zdu) ps q
 | [] => rfl
 | p :: ps => by
  have ih := Yeb q hq ps
  unfold clP at ih ⊢
  rw [List.filter_cons, Zcf]
  cases p with
  | nil =>
   have : decide (cw Zdu [] q = 0) = false := by
    cases q with
    | nil => exact absurd rfl hq
    | cons y q => rfl
   rw [this, Bool.false_or]
   exact ih
  | cons x p =>
   simp only [List.isEmpty_cons, Bool.not_false, if_true, List.map_cons]
   rw [Zcf, ih]
   have := Ys6 (x :: p) q
   rw [List.map_cons] at this
   rw [this]
theorem Zld {ps : List (List EV)} (h : ∀ p ∈ ps, ∀ x ∈ p, OE x) {q : List EV} (hq : PP OE q) : Zbn (cw Zdu) (Zb1 ps) q = Zbn (cw Zdu) ps q := by
 rw [Yah, Yed Ybx (Ymh h) hq, Yeb q hq.1]
theorem Zms {α β : Type} : ∀ (a : List α) (b : List β), (a.zip b).map (·.1) = a.take (min a.length b.length)
 | [], b => by simp
 | x :: a, [] => by simp
 | x :: a, y :: b => by simp [Zms a b, Nat.succ_min_succ]
theorem Yl4 : ∀ (a : List ByteArray) (b : List GV), ((a.zip (b.map Za1)).map fun p => unJ p.2) = Zco (b.take (min a.length b.length))
 | [], b => by simp [Zco]
 | x :: a, [] => by simp [Zco]
 | x :: a, y :: b => by
  have := Yl4 a b
  simp only [List.map_cons, List.zip_cons_cons, List.length_cons, Nat.succ_min_succ, List.take_succ_cons, Zco]
  rw [this, Zd9]
theorem Zvz (x : EV) : Zei (Zaz x) = Za0 x := by
 unfold Zaz Za0
 split
 ·simp only [Zei, flE]
  rw [Zms, Yl4, List.length_map]
 split
 ·simp [Zei, Zd9]
 split
 ·simp [Zei]
 ·simp [Zei]
def PR (p : PEV) : Prop := OPE p ∧ KL p ∧ ∃ x, p = Zaz x
def BrE (y : EV) (p : PEV) : Prop := ∃ z, OPE (Zaz z) ∧ LikeE y z ∧ p = Zaz z
theorem Yp9 {y : EV} (h : OE y) : ∃ p, BrE y p := by
 obtain ⟨z, h1, h2⟩ := h
 exact ⟨_, z, h1, h2, rfl⟩
theorem BrE.o {y : EV} {p : PEV} (h : BrE y p) : OPE p := by
 obtain ⟨z, h1, h2, rfl⟩ := h
 exact h1
theorem BrE.cmp {y : EV} {p : PEV} (h : BrE y p) {x : EV} (hx : OPE (Zaz x)) : Zdu x y = Zaf (Zaz x) p := by
 obtain ⟨z, h1, h2, rfl⟩ := h
 rw [h2.r x, Zg4 hx.j h1.j]
theorem Zxs {p : PEV} (h : PR p) : ∃ x, OPE (Zaz x) ∧ p = Zaz x ∧ Zei p = Za0 x := by
 obtain ⟨h1, h2, x, rfl⟩ := h
 exact ⟨x, h1, rfl, Zvz x⟩
theorem BrE.cmp2 {y : EV} {p q : PEV} (h : BrE y p) (hx : PR q) : Zdu (Zei q) y = Zaf q p := by
 obtain ⟨x, h1, rfl, h3⟩ := Zxs hx
 rw [h3, (Zhn x).l y, h.cmp h1]
theorem Yk6 {p : PEV} (h : PR p) : BrE (Zei p) p := by
 obtain ⟨x, h1, rfl, h3⟩ := Zxs h
 exact ⟨x, h1, by rw [h3]; exact Zhn x, rfl⟩
theorem Yl6 {p : PEV} (h : PR p) : OE (Zei p) := by
 obtain ⟨x, h1, rfl, h3⟩ := Zxs h
 rw [h3]
 exact (OE.raw h1).clean
theorem Yao : ∀ l : List JV, (Zg1 l).length = l.length
 | [] => by simp [Zg1]
 | x :: r => by simp [Zg1, Yao r]
theorem Zxz : ∀ {l : List GV}, (∀ y ∈ l, GOk y) → Zrh l
 | [], _ => by unfold Zrh; trivial
 | x :: r, h => by unfold Zrh; exact ⟨h x (by simp), Zxz fun y hy => h y (by simp [hy])⟩
mutual
theorem Yd7 : ∀ j : JV, JOk j → GOk (unJ j)
 | .null, _ => by simp [unJ, GOk, Zrh, Zdi, gv]
 | .bool b, _ => by simp [unJ, GOk, Zrh, gv]
 | .int n, _ => by simp [unJ, GOk, Zrh, gv]
 | .flt f, _ => by simp [unJ, GOk, Zrh, gv]
 | .str s, _ => by simp [unJ, GOk, Zrh, gv]
 | .list l, h => by
  unfold JOk at h
  unfold unJ GOk
  exact ⟨by rw [Yao]; exact h.1, Yd9 l h.2⟩
 | .map m, h => by
  unfold JOk at h
  unfold unJ
  obtain ⟨ks, l, e, hi, hl, hk, hg⟩ := Zh9 h.1
  have hm := h.2.1
  rw [e]
  unfold GOk
  have hn := Ze4 (Zw0 hi) (l := m.map (·.1)) (fun x hx => (hk x).1 hx)
  rw [List.length_map] at hn
  refine ⟨by omega, Zxz fun y hy => ?_⟩
  obtain ⟨i, h1, rfl⟩ := List.getElem_of_mem hy
  obtain ⟨j, hj, e2⟩ := (hg (ks[i]'(by omega)) l[i]).1 ⟨i, List.getElem?_eq_getElem _, List.getElem?_eq_getElem _⟩
  rw [← e2]
  exact Yd8 m h.2.2 _ (Zdd hj)
theorem Yd9 : ∀ l : List JV, Znn l → Zrh (Zg1 l)
 | [], _ => by unfold Zg1 Zrh; trivial
 | x :: r, h => by
  unfold Znn at h
  unfold Zg1 Zrh
  exact ⟨Yd7 x h.1, Yd9 r h.2⟩
theorem Yd8 : ∀ m : List (ByteArray × JV), Zv4 m → ∀ x ∈ m, GOk (unJ x.2)
 | [], _, x, hx => by cases hx
 | y :: r, h, x, hx => by
  unfold Zv4 at h
  rcases List.mem_cons.1 hx with e | hx
  ·rw [e]; exact Yd7 y.2 h.1
  ·exact Yd8 r h.2 x hx
end
theorem Zx2 {v : GV} (h : OJ (Za1 v)) : OJ (Za1 (Zav v)) := by
 have e : unJ (Za1 v) = Zav v := Zd9 v
 refine ⟨Zk5 _ (by rw [← e]; exact Yd7 _ h.1), ?_⟩
 rw [Zd9, Zc1, ← e]
 exact h.2
theorem Yh6 {x : EV} (h : OPE (Zaz x)) (k : KL (Zaz x)) : OPE (Zaz (Za0 x)) ∧ KL (Zaz (Za0 x)) := by
 rcases Zgv x with q | q | q | q
 ·rw [q.2.2] at h k
  have e1 : Za0 x = ⟨1, ByteArray.empty, x.keys.take (min x.keys.length x.l.length), Zco (x.l.take (min x.keys.length x.l.length)), Zdi, 0⟩ := by unfold Za0; rw [if_pos q.1]
  have e : Zaz (Za0 x) = .key (flE (Za0 x)) := by rw [e1]; rfl
  have e2 : flE (Za0 x) = (x.keys.zip x.l).map fun f => (f.1, Za1 (Zav f.2)) := by
   rw [e1]
   show (x.keys.take (min x.keys.length x.l.length)).zip ((Zco (x.l.take (min x.keys.length x.l.length))).map Za1) = _
   rw [List.zip_map_right, Zpw, List.map_map]
   rfl
  rw [e]
  refine ⟨fun f hf => ?_, fun fl hfl => ?_⟩
  ·rw [e2] at hf
   obtain ⟨g, hg, rfl⟩ := List.mem_map.1 hf
   refine Zx2 (h (g.1, Za1 g.2) ?_)
   unfold flE
   rw [List.zip_map_right]
   exact List.mem_map.2 ⟨g, hg, rfl⟩
  ·injection hfl with hfl
   have := k _ rfl
   rw [← hfl, e2, List.length_map, List.length_zip]
   rw [Zlt] at this
   exact this
 ·rw [q.2.2] at h k
  have e : Zaz (Za0 x) = .val (Za1 (Zav x.v)) := by
   unfold Za0
   rw [if_neg (by rw [q.1]; decide), if_pos q.1]
   rfl
  rw [e]
  exact ⟨Zx2 h, fun fl hfl => by cases hfl⟩
 ·have e : Zaz (Za0 x) = .idx x.n := by
   unfold Za0
   rw [if_neg (by rw [q.1]; decide), if_neg (by rw [q.1]; decide), if_pos q.1]
   rfl
  rw [e]
  exact ⟨trivial, fun fl hfl => by cases hfl⟩
 ·have e : Zaz (Za0 x) = .name x.s := by
   unfold Za0
   rw [if_neg q.1, if_neg q.2.1, if_neg q.2.2.1]
   rfl
  rw [e]
  exact ⟨trivial, fun fl hfl => by cases hfl⟩
theorem Yhx {p : PEV} (h : PR p) : OPE (Zaz (Zei p)) ∧ KL (Zaz (Zei p)) := by
 obtain ⟨h1, h2, x, rfl⟩ := h
 rw [Zvz]
 exact Yh6 h1 h2
def Br : List EV → List PEV → Prop
 | [], [] => True
 | y :: q, p :: r => BrE y p ∧ Br q r
 | _, _ => False
theorem Ztp : ∀ (q : List EV), (∀ x ∈ q, OE x) → ∃ q', Br q q'
 | [], _ => ⟨[], trivial⟩
 | y :: q, h => by
  obtain ⟨p, hp⟩ := Yp9 (h y (by simp))
  obtain ⟨r, hr⟩ := Ztp q fun x hx => h x (by simp [hx])
  exact ⟨p :: r, hp, hr⟩
theorem Br.o : ∀ {q : List EV} {q' : List PEV}, Br q q' → ∀ x ∈ q', OPE x
 | [], [], _ => by simp
 | y :: q, p :: r, h => fun x hx => by
  rcases List.mem_cons.1 hx with rfl | hx
  ·exact h.1.o
  ·exact Br.o h.2 x hx
theorem Br.ne : ∀ {q : List EV} {q' : List PEV}, Br q q' → q ≠ [] → q' ≠ []
 | [], [], _, h => absurd rfl h
 | y :: q, p :: r, h, _ => by simp
theorem Br.pp {q : List EV} {q' : List PEV} (h : Br q q') (hq : q ≠ []) : PP OPE q' := ⟨h.ne hq, h.o⟩
theorem Yle {α β : Type} (f : α → β) (l : List α) : en (l.map f) = en l := by cases l <;> rfl
theorem Br.en : ∀ {q : List EV} {q' : List PEV}, Br q q' → en q = en q'
 | [], [], _ => rfl
 | y :: q, p :: r, h => rfl
theorem Br.cw : ∀ {a q : List EV} {q' : List PEV}, (∀ x ∈ a, OPE (Zaz x)) → Br q q' → cw Zdu a q = cw Zaf (a.map Zaz) q'
 | [], [], [], _, _ => rfl
 | [], y :: q, p :: r, _, _ => rfl
 | x :: a, [], [], _, _ => rfl
 | x :: a, y :: q, p :: r, ha, h => by
  rw [List.map_cons, Zcr, Zcr, h.1.cmp (ha x (by simp)), Br.cw (fun z hz => ha z (by simp [hz])) h.2, Yle, h.2.en]
theorem Br.cw2 : ∀ {a : List PEV} {q : List EV} {q' : List PEV}, (∀ x ∈ a, PR x) → Br q q' → Go.Proofs.YtgmahieoiifpfaaGreat.cw Zdu (a.map Zei) q = Go.Proofs.YtgmahieoiifpfaaGreat.cw Zaf a q'
 | [], [], [], _, _ => rfl
 | [], y :: q, p :: r, _, _ => rfl
 | x :: a, [], [], _, _ => rfl
 | x :: a, y :: q, p :: r, ha, h => by
  rw [List.map_cons, Zcr, Zcr, h.1.cmp2 (ha x (by simp)), Br.cw2 (fun z hz => ha z (by simp [hz])) h.2, Yle, h.2.en]
theorem Yqa : ∀ {r : List PEV}, (∀ x ∈ r, PR x) → Br (r.map Zei) r
 | [], _ => trivial
 | p :: r, h => ⟨Yk6 (h p (by simp)), Yqa fun x hx => h x (by simp [hx])⟩
theorem Yk7 {ps : List (List EV)} (h : ∀ p ∈ ps, ∀ x ∈ p, OPE (Zaz x)) {q : List EV} {q' : List PEV} (hb : Br q q') : Zbn (cw Zdu) ps q = Zbn (cw Zaf) (ps.map (·.map Zaz)) q' := by
 induction ps with
 | nil => rfl
 | cons p ps ih =>
  rw [List.map_cons, Zcf, Zcf, ih fun p hp => h p (by simp [hp]), hb.cw (h p (by simp))]
theorem Ymf {l : List (List PEV)} (h : ∀ p ∈ l, ∀ x ∈ p, PR x) {q : List EV} {q' : List PEV} (hb : Br q q') : Zbn (cw Zdu) (l.map (·.map Zei)) q = Zbn (cw Zaf) l q' := by
 induction l with
 | nil => rfl
 | cons p ps ih =>
  rw [List.map_cons, Zcf, Zcf, ih fun p hp => h p (by simp [hp]), hb.cw2 (h p (by simp))]
def PsOk (ps : List (List EV)) : Prop := ∀ p ∈ ps, ∀ x ∈ p, OPE (Zaz x) ∧ KL (Zaz x)
def Zef (t : ST PEV) : List (List EV) := (Zc0 t).map (·.map Zei)
section
variable {t : ST PEV} (h : WFT Zaf PR t)
include h
theorem WFT.o : WFT Zaf OPE t := Zf3 (fun _ h => h.1) t h
theorem Zul : ∀ r ∈ Zc0 t, ∀ x ∈ r, PR x := fun r hr => (Zec t h r hr).2
theorem Ze0 : SetOk (Zef t) := by
 refine ⟨fun a ha => ?_, ?_⟩
 ·obtain ⟨r, hr, rfl⟩ := List.mem_map.1 ha
  refine ⟨fun e => (Zec t h r hr).1 (List.map_eq_nil_iff.1 e), fun x hx => ?_⟩
  obtain ⟨p, hp, rfl⟩ := List.mem_map.1 hx
  exact Yl6 (Zul h r hr p hp)
 ·unfold Zef Srt
  rw [List.pairwise_map]
  refine List.Pairwise.imp_of_mem (fun {a b} ha hb hab => ?_) (Znk ordPE t (WFT.o h))
  rw [(Yqa (Zul h b hb)).cw2 (Zul h a ha)]
  exact hab
theorem Zez {q : List EV} {q' : List PEV} (hb : Br q q') (hq : q ≠ []) : Zbn (cw Zdu) (Zef t) q = Zdl Zaf t q' := by
 unfold Zef
 rw [Ymf (Zul h) hb, Yll ordPE (WFT.o h) (hb.pp hq)]
theorem Zze : PsOk (Zef t) := fun p hp x hx => by
 obtain ⟨r, hr, rfl⟩ := List.mem_map.1 hp
 obtain ⟨y, hy, rfl⟩ := List.mem_map.1 hx
 exact Yhx (Zul h r hr y hy)
theorem Zfx : (Zef t).length = (Zc0 t).length := (fun (_ : WFT Zaf PR t) => by unfold Zef; rw [List.length_map]) h
end
def inT (ps : List (List EV)) : ST PEV := ofP Zaf (ps.map (·.map Zaz))
theorem Zvi : OrdL Zaf PR := ⟨fun a b d ha hb hd => ordPE.1 a b d ha.1 hb.1 hd.1, fun a b ha hb => ordPE.2 a b ha.1 hb.1⟩
section
variable {ps : List (List EV)} (h : PsOk ps)
include h
theorem PsOk.el : ∀ p ∈ ps.map (·.map Zaz), ∀ x ∈ p, PR x := fun p hp x hx => by
 obtain ⟨q, hq, rfl⟩ := List.mem_map.1 hp
 obtain ⟨y, hy, rfl⟩ := List.mem_map.1 hx
 exact ⟨(h q hq y hy).1, (h q hq y hy).2, y, rfl⟩
theorem PsOk.raw : ∀ p ∈ ps, ∀ x ∈ p, OPE (Zaz x) := fun p hp x hx => (h p hp x hx).1
theorem PsOk.oe : ∀ p ∈ ps, ∀ x ∈ p, OE x := fun p hp x hx => OE.raw (h p hp x hx).1
theorem Zup : WFT Zaf PR (inT ps) := Zxd Zvi (PsOk.el h)
theorem Yq5 : NET (inT ps) := Yof Zvi (PsOk.el h)
theorem Zoe {q : List EV} {q' : List PEV} (hb : Br q q') (hq : q ≠ []) : Zdl Zaf (inT ps) q' = Zbn (cw Zdu) ps q := by
 unfold inT
 rw [Yog ordPE (fun p hp x hx => (PsOk.el h p hp x hx).1) (hb.pp hq), Yk7 (PsOk.raw h) hb]
theorem Ynm : (Zc0 (inT ps)).length ≤ ps.length := by
 have e := Zj0 Ybx (Zef (inT ps)) (Zb1 ps) (Ze0 (Zup h)).P (Zha (PsOk.oe h)).P (Ze0 (Zup h)).S (Zha (PsOk.oe h)).S fun q hq => by
  obtain ⟨q', hb⟩ := Ztp q hq.2
  rw [Zez (Zup h) hb hq.1, Zoe h hb hq.1, Zld (PsOk.oe h) hq]
 have e := Zfs e
 rw [Zfx (Zup h)] at e
 rw [e]
 have := Zvv ps ps.length
 rwa [List.take_length] at this
end
structure TOk (t : ST PEV) (n : Nat) : Prop where
 w : WFT Zaf PR t
 e : NET t
 d : dpT t ≤ 837723144946
 k : (Zc0 t).length ≤ n
theorem TOk.sz {t : ST PEV} {n : Nat} (h : TOk t n) : SzT n t := Yk4 t h.e h.k
theorem TOk.o {t : ST PEV} {n : Nat} (h : TOk t n) : WFT Zaf OPE t := WFT.o h.w
def Ztl (ps : List (List EV)) : Prop := ∀ p ∈ ps, p.length ≤ 837723144947
theorem Yef {ps : List (List EV)} (h : PsOk ps) (hl : Ztl ps) {n : Nat} (hn : ps.length ≤ n) : TOk (inT ps) n := ⟨Zup h, Yq5 h, Ylq fun p hp => by
 obtain ⟨q, hq, rfl⟩ := List.mem_map.1 hp
 rw [List.length_map]
 exact hl q hq, Nat.le_trans (Ynm h) hn⟩
def uT (s t : ST PEV) : ST PEV := opN Zaf true true true (dpT s + 1) s t
section
variable {s t : ST PEV} {a b : Nat} (hs : TOk s a) (ht : TOk t b)
include hs ht
theorem Yl1 {q : List PEV} (hq : PP OPE q) : Zdl Zaf (uT s t) q = (Zdl Zaf s q || Zdl Zaf t q) := by
 unfold uT
 rw [Zxe ordPE _ s t (Nat.lt_succ_self _) hs.o ht.o q hq]
 unfold opB
 cases Zdl Zaf s q <;> cases Zdl Zaf t q <;> rfl
theorem Yhf : TOk (uT s t) (a + b) := by
 have w : WFT Zaf PR (uT s t) := Zo0 Zvi _ s t hs.w ht.w
 refine ⟨w, Yfe ordPE (.inr ⟨rfl, rfl⟩) _ s t (Nat.lt_succ_self _) hs.o ht.o hs.e ht.e, Nat.le_trans (Ylr _ s t) (by have := hs.d; have := ht.d; omega), ?_⟩
 have := Yau ordPE (WFT.o w) hs.o ht.o fun q hq => Yl1 hs ht hq
 have := hs.k
 have := ht.k
 omega
end
mutual
theorem Zxu : ∀ (t : ST PEV), ∀ q ∈ Zc0 t, q.length ≤ dpT t + 1
 | .mk m ch, q, hq => by
  unfold Zc0 at hq
  unfold dpT
  rcases List.mem_append.1 hq with hq | hq
  ·obtain ⟨x, _, rfl⟩ := List.mem_map.1 hq
   simp
  ·exact Yar ch q hq
theorem Yar : ∀ (l : List (PEV × ST PEV)), ∀ q ∈ Zba l, q.length ≤ dpC l + 1
 | [], q, hq => by unfold Zba at hq; cases hq
 | y :: r, q, hq => by
  unfold Zba at hq
  unfold dpC
  rcases List.mem_append.1 hq with hq | hq
  ·obtain ⟨x, hx, rfl⟩ := List.mem_map.1 hq
   have := Zxu y.2 x hx
   simp only [List.length_cons]
   omega
  ·have := Yar r q hq
   omega
end
theorem Yiw {t : ST PEV} {n : Nat} (h : TOk t n) : Ztl (Zef t) := fun p hp => by
 obtain ⟨r, hr, rfl⟩ := List.mem_map.1 hp
 have := Zxu t r hr
 have := h.d
 rw [List.length_map]
 omega
theorem Ye8 {A B : List (List EV)} (hA : SetOk A) (hB : SetOk B) (h : Zca (cw Zdu) A B = 0) : Zfa (Zfa eqE) A B = true :=
 (Zm7 fun a ha b hb => by
  rw [Ydj]
  exact Zm7 fun x hx y hy => Ydv ((hA.P a ha).2 x hx) ((hB.P b hb).2 y hy)).2 h
theorem Zpo {A B : List (List EV)} (hA : SetOk A) (hB : SetOk B) (h : ∀ q, PP OE q → Zbn (cw Zdu) A q = Zbn (cw Zdu) B q) : Zca (cw Zdu) A B = 0 := Zj0 Ybx A B hA.P hB.P hA.S hB.S h
theorem Zn0 {A B : List (List EV)} (hA : ∀ p ∈ A, ∀ x ∈ p, OE x) (hB : ∀ p ∈ B, ∀ x ∈ p, OE x) (h : ∀ q, PP OE q → Zbn (cw Zdu) A q = Zbn (cw Zdu) B q) : Zfa (Zfa eqE) (Zb1 A) (Zb1 B) = true :=
 Ye8 (Zha hA) (Zha hB) (Zpo (Zha hA) (Zha hB) fun q hq => by rw [Zld hA hq, Zld hB hq, h q hq])
theorem SetOk.oe {A : List (List EV)} (h : SetOk A) : ∀ p ∈ A, ∀ x ∈ p, OE x := fun p hp => (h.P p hp).2
theorem Yjp {A B : List (List EV)} (hA : SetOk A) (hB : SetOk B) (h : ∀ q, PP OE q → Zbn (cw Zdu) A q = Zbn (cw Zdu) B q) : A.length = B.length ∧ Zfa (Zfa eqE) (Zb1 A) (Zb1 B) = true :=
 ⟨Zfs (Zpo hA hB h), Zn0 hA.oe hB.oe h⟩
def PZ (p : PEV) : Prop := ∃ z, OPE (Zaz z) ∧ p = Zaz z
theorem Yj8 : OrdL Zaf PZ := by
 have o : ∀ p, PZ p → OPE p := fun p h => by
  obtain ⟨z, h1, rfl⟩ := h
  exact h1
 exact ⟨fun a b d ha hb hd => ordPE.1 a b d (o a ha) (o b hb) (o d hd), fun a b ha hb => ordPE.2 a b (o a ha) (o b hb)⟩
theorem PZ.o {p : PEV} (h : PZ p) : OPE p := by
 obtain ⟨z, h1, rfl⟩ := h
 exact h1
theorem PR.z {p : PEV} (h : PR p) : PZ p := by
 obtain ⟨h1, h2, x, rfl⟩ := h
 exact ⟨x, h1, rfl⟩
theorem Yhy : ∀ (q' : List PEV), (∀ x ∈ q', PZ x) → ∃ q, Br q q' ∧ q.length = q'.length
 | [], _ => ⟨[], trivial, rfl⟩
 | p :: r, h => by
  obtain ⟨z, h1, h2⟩ := h p (by simp)
  obtain ⟨q, hq, hl⟩ := Yhy r fun x hx => h x (by simp [hx])
  exact ⟨z :: q, ⟨⟨z, h1, LikeE.refl z, h2⟩, hq⟩, by simp [hl]⟩
theorem Yag {s t : ST PEV} {a b : Nat} (hs : TOk s a) (ht : TOk t b) (h : ∀ q q', Br q q' → q ≠ [] → Zdl Zaf s q' = Zdl Zaf t q') : eqT Zke s t = true :=
 Ylh (P := PZ) Yj8 (fun x y hx hy => Zy1 hx.o hy.o) _ s t (Nat.lt_succ_self _) (Zf3 (fun _ h => h.z) s hs.w) (Zf3 (fun _ h => h.z) t ht.w) hs.e ht.e fun q' hq' => by
  obtain ⟨q, hb, hl⟩ := Yhy q' hq'.2
  exact h q q' hb fun e => hq'.1 (List.eq_nil_of_length_eq_zero (by rw [← hl, e]; rfl))
theorem Yrz {t : ST PEV} {n : Nat} (h : TOk t n) {q : List EV} {q' : List PEV} (hb : Br q q') (hq : q ≠ []) : Zdl Zaf (inT (Zef t)) q' = Zdl Zaf t q' := by
 rw [Zoe (Zze h.w) hb hq, Zez h.w hb hq]
mutual
theorem Zok : ∀ t : ST PEV, Ycp t
 | .mk m ch => Yi7 m ch (Yi6 ch (Zuz ch))
theorem Zuz : ∀ (l : List (PEV × ST PEV)), ∀ y ∈ l, Ycp y.2
 | z :: r, y, h => by
  rcases List.mem_cons.1 h with e | h
  ·rw [e]; exact Zok z.2
  ·exact Zuz r y h
end
def B168 (k : Nat) : Prop := k * 168 ≤ 140737488351232
theorem B168.le {a b : Nat} (h : a ≤ b) (hb : B168 b) : B168 a := Nat.le_trans (Nat.mul_le_mul_right 168 h) hb
theorem Yk2 (n : Nat) : ∀ (t : ST PEV) (d : Nat), dpT t < n → WFT Zaf PR t → B168 (d + dpT t + 1) → DpT d t := by
 induction n with
 | zero => exact fun t d h => absurd h (Nat.not_lt_zero _)
 | succ n ih =>
  intro t d h0 h hb
  obtain ⟨m, ch⟩ := t
  obtain ⟨h1, h2, h3, h4⟩ := WFT_iff.1 h
  have h4 := WFC_iff.1 h4
  unfold DpT
  refine ⟨fun x hx => (h1 x hx).2.1, B168.le (by omega) hb, DpC_iff.2 fun y hy => ?_⟩
  have hm : dpT y.2 < dpT (ST.mk m ch) := Zeu (t := ST.mk m ch) hy
  exact ⟨(h4 y hy).1.2.1, ih y.2 (d + 1) (by omega) (h4 y hy).2 (B168.le (by omega) hb)⟩
theorem Zxx : B168 837723144947 := by unfold B168; decide
theorem Ye3 {P : Program} {X : Base} {N : Nat} {Q : Exit → Act → World → Prop} {opa : Array Oper} {rem : List Nat} {ks : List Itm} {s : Sta} {ι : Type} {s2 : ι → Sta} {d : Option Tmp} {op : Op} (hl : ∀ (Q : Exit → Act → World → Prop) (ks : List Itm), (∀ v, Run P X N Q ks (s2 v)) → Run P X N Q ks s) (h : ∀ v, Zbp P X N Q opa rem ks d op (s2 v)) : Zbp P X N Q opa rem ks d op s :=
 ⟨fun ty pos aft => ⟨fun hX a w hc => by
  have hx := (hl (fun _ a w => ∃ v, Conc X (s2 v) a w) [] (fun v => Zs0 fun a w hc => ⟨v, hc⟩)).out hX a w hc
  obtain ⟨v, hv⟩ := hx
  exact ((h v).out ty pos aft).out hX a w hv⟩⟩
theorem Yes (t : ST PEV) : (Zc0 t).map (fun r => ipP ([] ++ r)) = (Zef t).map pdP := by
 unfold Zef
 rw [List.map_map]
 refine List.map_congr_left fun r _ => ?_
 show ipP r = pdP (r.map Zei)
 unfold ipP pdP
 rw [List.map_map]
 rfl
theorem Yev {t : ST PEV} {n : Nat} (h : TOk t n) (hn : n ≤ 1099511627776) :
  Zbv Tryz.prog 152 [.dat (.ptr (Zbs t)), .clo 153 [.ptr 1001 0]] [(1001, .box 38 [.own 1002]), (1002, .row 22 1 24 [])] (.dat (.tup []))
   [(1001, .box 38 [.own 0]), (0, .row 22 1 24 ((Zef t).map pdP)), (1002, .dead)] := by
 have c := fun v => Zok t v [] [] (Zg2 hn t h.sz) (by simp) (Yk2 _ t 0 (Nat.lt_succ_self _) h.w (B168.le (by have := h.d; omega) Zxx)) (by have := h.k; simp only [List.length_nil]; omega)
 rw [List.nil_append, Yes] at c
 generalize Zbs t = dt at *
 generalize (Zef t).map pdP = r at *
 rw [List.map_nil] at c
 refine Zar Tryz.func152 rfl Tryz.ntmps152 rfl (fun X => ?_)
 refine wk ?_
 refine Ye3 (fun _ _ => Zq7 (k := 5) (t := 5) (d := 600) rfl rfl rfl (by decide)) fun v => ?_
 refine Zb5 (thk [(1000, 600), (1001, 1001), (1002, 1002)] 200) rfl (by kernel_rfl) (c v) rfl ⟨rfl, rfl, rfl, trivial⟩ rfl (Zai rfl) rfl ?_
 refine wk ?_
 refine Zfo () (fun j => if j = 0 then 200 else j) (tm := []) ?_ (Zda rfl)
 exact sb
theorem Zn3 {t : ST PEV} {n : Nat} (h : TOk t n) (hn : n ≤ 1099511627776) : PCall Tryz.prog 87 [.ptr (Zbs t)] (.sl 1 24 ((Zef t).map pdP)) := by
 have c1 := Yev h hn
 generalize Zbs t = dt at *
 generalize (Zef t).map pdP = r at *
 refine Zaa Tryz.func87 rfl Tryz.ntmps87 rfl (fun X => ?_)
 refine wk ?_
 refine Ye2 (fun _ _ => Zde 3 0 100 22 1 24 rfl rfl rfl) ?_
 refine Zb5 (thk [(1001, 3), (1002, 100)] 200) rfl (by kernel_rfl) c1 rfl ⟨rfl, rfl, trivial⟩ rfl (Zai rfl) rfl ?_
 refine wk ?_
 refine Zbj (fun _ => false) (fun k => k == 200) ?_
 exact wke
theorem Zj1 (ps : List (List EV)) (h : PsOk ps) (hn : ps.length ≤ 549755813888) : PCall Tryz.prog 77 [.sl 1 24 (ps.map pdP)] (.ptr (Zbs (inT ps))) := Yhd ps h.raw hn
section
variable {s t : ST PEV} {a b : Nat} (hs : TOk s a) (ht : TOk t b) (hn : a + b ≤ 1099511627776)
include hs ht hn
theorem Ypl : PCall Tryz.prog 101 [.ptr (Zbs s), .ptr (Zbs t)] (.ptr (Zbs (uT s t))) := Ycc _ s t a b (Nat.lt_succ_self _) hs.sz ht.sz hn
end
section
variable {a b : List (List EV)} (ha : PsOk a) (hb : PsOk b) (la : Ztl a) (lb : Ztl b) (na : a.length ≤ 549755813888) (nb : b.length ≤ 549755813888)
include ha hb la lb na nb
theorem Yhv : PCall Tryz.prog 41 [.sl 1 24 (a.map pdP), .sl 1 24 (b.map pdP)] (.sl 1 24 ((Zef (uT (inT a) (inT b))).map pdP)) := by
 have ta := Yef ha la (Nat.le_refl _)
 have tb := Yef hb lb (Nat.le_refl _)
 have c1 := Zj1 a ha na
 have c2 := Zj1 b hb nb
 have c3 := Ypl ta tb (by omega)
 have c4 := Zn3 (Yhf ta tb) (by omega)
 clear ta tb ha hb la lb na nb
 generalize (Zef _).map pdP = d1 at *
 generalize Zbs (uT _ _) = d2 at *
 generalize Zbs (inT a) = d3 at *
 generalize Zbs (inT b) = d4 at *
 generalize a.map pdP = d5 at *
 generalize b.map pdP = d6 at *
 refine Zaa Tryz.func41 rfl Tryz.ntmps41 rfl (fun X => ?_)
 exact wke
end
theorem Yjo (A B : List (List EV)) : PCall Tryz.prog 99 [.sl 1 24 (A.map pdP), .sl 1 24 (B.map pdP)] (.val (.bool (Zfa (Zfa eqE) A B))) := by
 refine Zay fun hfit => ?_
 have b1 := (hfit (.sl 1 24 (A.map pdP)) (by simp)).sl.2.1
 clear hfit
 have n1 : (A.map pdP).length = A.length := by simp
 have n2 : (B.map pdP).length = B.length := by simp
 have ga : ∀ {i : Nat} {x : List EV}, A[i]? = some x → (A.map pdP)[((i : Nat) : Int).toNat]? = some (pdP x) := fun h => by simp [h]
 have gb : ∀ {i : Nat} {x : List EV}, B[i]? = some x → (B.map pdP)[((i : Nat) : Int).toNat]? = some (pdP x) := fun h => by simp [h]
 generalize A.map pdP = da at *
 generalize B.map pdP = db at *
 by_cases hl : A.length = B.length
 rotate_left
 ·have g1 : decide (((da.length : Nat) : Int) ≠ ((db.length : Nat) : Int)) = true := decide_eq_true (by omega)
  rw [Zm8 hl]
  refine Zaa Tryz.func99 rfl Tryz.ntmps99 rfl (fun X => ?_)
  exact wke
 have g1 : decide (((da.length : Nat) : Int) ≠ ((db.length : Nat) : Int)) = false := decide_eq_false (by omega)
 refine Zaa Tryz.func99 rfl Tryz.ntmps99 rfl (fun X => ?_)
 refine wk ?_
 refine Zaq (ι := { k : Nat // k ≤ A.length ∧ ∀ (i : Nat) (x y : List EV), i < k → A[i]? = some x → B[i]? = some y → Zfa eqE x y = true })
  (fun k => [(0, .dat (.sl 1 24 da)), (1, .dat (.sl 1 24 db)), (12, .dat (.val (.int .i64 ((da.length : Nat) : Int)))), (13, .dat (.val (.int .i64 (k.1 : Nat))))]) (fun _ => []) (fun k => A.length - k.1) ⟨0, Nat.zero_le _, fun i _ _ h => absurd h (Nat.not_lt_zero i)⟩ id ?_ ?_
 ·exact sb
 rintro ⟨k, hk, hall⟩
 by_cases hlt : k < A.length
 ·have hc : decide ((k : Int) < ((da.length : Nat) : Int)) = true := decide_eq_true (by omega)
  obtain ⟨x, hx⟩ : ∃ p, A[k]? = some p := ⟨_, List.getElem?_eq_getElem hlt⟩
  obtain ⟨y, hy⟩ : ∃ p, B[k]? = some p := ⟨_, List.getElem?_eq_getElem (by omega)⟩
  have i1 := ga hx
  have i2 := gb hy
  have c1 := Zlg x y
  unfold pdP at i1 i2 c1
  cases he : Zfa eqE x y with
  | true =>
   rw [he] at c1
   refine wk ?_
   refine Zan ?_
   refine ⟨⟨k + 1, by omega, fun i u v hi hu hv => ?_⟩, id, by simp only; omega, ?_⟩
   ·by_cases e : i = k
    ·subst e
     rw [hx] at hu; rw [hy] at hv
     cases hu; cases hv
     exact he
    ·exact hall i u v (by omega) hu hv
   exact sb
  | false =>
   rw [he] at c1
   rw [Zlq hx hy he]
   exact wke
 ·have hc : decide ((k : Int) < ((da.length : Nat) : Int)) = false := decide_eq_false (by omega)
  rw [Zm6 hl fun i x y hx hy => hall i x y (by have := (List.getElem?_eq_some_iff.1 hx).1; omega) hx hy]
  exact wke
theorem Zxp (ps : List (List EV)) (hn : ps.length ≤ 549755813888) (hO : ∀ p ∈ ps, ∀ x ∈ p, OE x) : PCall Tryz.prog 25 [.sl 1 24 (ps.map pdP)] (.sl 1 24 ((Zb1 ps).map pdP)) := Yo1 ps hn hO fun k => Zha fun p hp => hO p (List.mem_of_mem_take hp)
theorem Zr3 (A B : List (List EV)) (hA : ∀ p ∈ A, ∀ x ∈ p, OE x) (hB : ∀ p ∈ B, ∀ x ∈ p, OE x) (la : A.length ≤ 549755813888) (lb : B.length ≤ 549755813888) : PCall Tryz.prog 39 [.sl 1 24 (A.map pdP), .sl 1 24 (B.map pdP)] (.val (.bool (Zfa (Zfa eqE) (Zb1 A) (Zb1 B)))) := by
 have c1 := Zxp A la hA
 have c2 := Zxp B lb hB
 have c3 := Yjo (Zb1 A) (Zb1 B)
 generalize (Zb1 A).map pdP = d1 at *
 generalize (Zb1 B).map pdP = d2 at *
 generalize A.map pdP = d3 at *
 generalize B.map pdP = d4 at *
 refine Zaa Tryz.func39 rfl Tryz.ntmps39 rfl (fun X => ?_)
 exact wke
theorem Yob (A B : List (List EV)) (hA : ∀ p ∈ A, ∀ x ∈ p, OE x) (hB : ∀ p ∈ B, ∀ x ∈ p, OE x) (la : A.length ≤ 549755813888) (lb : B.length ≤ 549755813888) (h : A.length = B.length ∧ Zfa (Zfa eqE) (Zb1 A) (Zb1 B) = true) : PCall Tryz.prog 33 [.sl 1 24 (A.map pdP), .sl 1 24 (B.map pdP)] (.val (.bool true)) := by
 have c1 := Zr3 A B hA hB la lb
 rw [h.2] at c1
 have g1 : decide ((((A.map pdP).length : Nat) : Int) = (((B.map pdP).length : Nat) : Int)) = true := decide_eq_true (by rw [List.length_map, List.length_map, h.1])
 generalize A.map pdP = d3 at *
 generalize B.map pdP = d4 at *
 refine Zaa Tryz.func33 rfl Tryz.ntmps33 rfl (fun X => ?_)
 exact wke
theorem Zwc {x : EV} (h : Fits (pdE x)) : KL (Zaz x) := by
 intro fl hfl
 have h1 : Fits (.sl 6 88 (Zb8 x.l)) := Fits.aggAt h 3 rfl
 have h2 := h1.sl.1
 rw [Zbu] at h2
 unfold Zaz at hfl
 split at hfl
 ·injection hfl with hfl
  subst hfl
  rw [Zlt]
  omega
 ·split at hfl
  ·cases hfl
  ·split at hfl <;> cases hfl
theorem Zsw {ps : List (List EV)} (h : Fits (.sl 1 24 (ps.map pdP))) (ho : (ps.all fun p => p.all Zjx) = true) : ∀ p ∈ ps, ∀ x ∈ p, OPE (Zaz x) ∧ KL (Zaz x) := fun p hp x hx => by
 have h1 : Fits (.sl 11 168 (p.map pdE)) := h.sl.2.2 (pdP p) (List.mem_map.2 ⟨p, hp, rfl⟩)
 have h2 : Fits (pdE x) := h1.sl.2.2 (pdE x) (List.mem_map.2 ⟨x, hx, rfl⟩)
 exact ⟨Zwe (Zrk h2) (List.all_eq_true.1 (List.all_eq_true.1 ho p hp) x hx), Zwc h2⟩
theorem Yoa {n : Nat} (h : n * 168 ≤ 140737488351232) : n ≤ 837723144947 := by
 have := (Nat.le_div_iff_mul_le (by decide : 0 < 168)).2 h
 exact Nat.le_trans this (by decide)
theorem Zpc {ps : List (List EV)} (h : Fits (.sl 1 24 (ps.map pdP))) : Ztl ps := fun p hp => by
 have h1 : Fits (.sl 11 168 (p.map pdE)) := h.sl.2.2 (pdP p) (List.mem_map.2 ⟨p, hp, rfl⟩)
 have h2 := h1.sl.1
 rw [List.length_map] at h2
 exact Yoa h2
theorem Yrj {n : Nat} (h : ¬ 2147483647 < n) : n ≤ 549755813888 := by omega
theorem You (a b : List PEV) : PCall Tryz.prog 168 [.ptr (.agg [.sl 4 32 (a.map Za4)]), .ptr (.agg [.sl 4 32 (b.map Za4)])] (.val (.bool (Zfa Zke a b))) := by
 refine Zay fun hfit => ?_
 have b1 := ((Fits.aggAt (hfit (.ptr (.agg [.sl 4 32 (a.map Za4)])) (by simp)).ptr 0 (d := .sl 4 32 (a.map Za4)) rfl).sl).2.1
 clear hfit
 have n1 : (a.map Za4).length = a.length := by simp
 have n2 : (b.map Za4).length = b.length := by simp
 have ga : ∀ {i : Nat} {x : PEV}, a[i]? = some x → (a.map Za4)[((i : Nat) : Int).toNat]? = some (Za4 x) := Zji Za4
 have gb : ∀ {i : Nat} {x : PEV}, b[i]? = some x → (b.map Za4)[((i : Nat) : Int).toNat]? = some (Za4 x) := Zji Za4
 generalize a.map Za4 = da at *
 generalize b.map Za4 = db at *
 by_cases hl : a.length = b.length
 rotate_left
 ·have g1 : decide (((da.length : Nat) : Int) ≠ ((db.length : Nat) : Int)) = true := decide_eq_true (by omega)
  rw [Zm8 hl]
  refine Zaa Tryz.func168 rfl Tryz.ntmps168 rfl (fun X => ?_)
  exact wke
 have g1 : decide (((da.length : Nat) : Int) ≠ ((db.length : Nat) : Int)) = false := decide_eq_false (by omega)
 refine Zaa Tryz.func168 rfl Tryz.ntmps168 rfl (fun X => ?_)
 refine wk ?_
 refine Zaq (ι := { k : Nat // k ≤ a.length ∧ ∀ (i : Nat) (x y : PEV), i < k → a[i]? = some x → b[i]? = some y → Zke x y = true })
  (fun k => [(0, .dat (.ptr (.agg [.sl 4 32 da]))), (1, .dat (.ptr (.agg [.sl 4 32 db]))), (21, .dat (.val (.int .i64 ((da.length : Nat) : Int)))), (22, .dat (.val (.int .i64 (k.1 : Nat))))]) (fun _ => []) (fun k => a.length - k.1) ⟨0, Nat.zero_le _, fun i _ _ h => absurd h (Nat.not_lt_zero i)⟩ id ?_ ?_
 ·exact sb
 rintro ⟨k, hk, hall⟩
 by_cases hlt : k < a.length
 ·have hc : decide ((k : Int) < ((da.length : Nat) : Int)) = true := decide_eq_true (by omega)
  obtain ⟨x, hx⟩ : ∃ p, a[k]? = some p := ⟨_, List.getElem?_eq_getElem hlt⟩
  obtain ⟨y, hy⟩ : ∃ p, b[k]? = some p := ⟨_, List.getElem?_eq_getElem (by omega)⟩
  have i1 := ga hx
  have i2 := gb hy
  have c1 := Zq2 x y
  obtain ⟨u0, u1, u2, u3, ex⟩ := Zip x
  obtain ⟨v0, v1, v2, v3, ey⟩ := Zip y
  rw [ex] at i1 c1
  rw [ey] at i2 c1
  cases he : Zke x y with
  | true =>
   rw [he] at c1
   refine wk ?_
   refine Zan ?_
   refine ⟨⟨k + 1, by omega, fun i u v hi hu hv => ?_⟩, id, by simp only; omega, ?_⟩
   ·by_cases e : i = k
    ·subst e
     rw [hx] at hu; rw [hy] at hv
     cases hu; cases hv
     exact he
    ·exact hall i u v (by omega) hu hv
   exact sb
  | false =>
   rw [he] at c1
   rw [Zlq hx hy he]
   exact wke
 ·have hc : decide ((k : Int) < ((da.length : Nat) : Int)) = false := decide_eq_false (by omega)
  rw [Zm6 hl fun i x y hx hy => hall i x y (by have := (List.getElem?_eq_some_iff.1 hx).1; omega) hx hy]
  exact wke
theorem Yo2 (a b : List (PEV × ST PEV)) (ih : ∀ x ∈ a, ∀ y ∈ b, PCall Tryz.prog 103 [.ptr (Zbs x.2), .ptr (Zbs y.2)] (.val (.bool (eqT Zke x.2 y.2)))) : PCall Tryz.prog 169 [.ptr (.agg [.sl 5 40 (Zbi a)]), .ptr (.agg [.sl 5 40 (Zbi b)])] (.val (.bool (decide (a.length = b.length) && eqC Zke a b))) := by
 refine Zay fun hfit => ?_
 have b1 := ((Fits.aggAt (hfit (.ptr (.agg [.sl 5 40 (Zbi a)])) (by simp)).ptr 0 (d := .sl 5 40 (Zbi a)) rfl).sl).2.1
 clear hfit
 rw [Zeq, Zeq] at *
 have n1 : (a.map nd).length = a.length := by simp
 have n2 : (b.map nd).length = b.length := by simp
 have ga : ∀ {i : Nat} {x : PEV × ST PEV}, a[i]? = some x → (a.map nd)[((i : Nat) : Int).toNat]? = some (nd x) := Zji nd
 have gb : ∀ {i : Nat} {x : PEV × ST PEV}, b[i]? = some x → (b.map nd)[((i : Nat) : Int).toNat]? = some (nd x) := Zji nd
 generalize a.map nd = da at *
 generalize b.map nd = db at *
 by_cases hl : a.length = b.length
 rotate_left
 ·have g1 : decide (((da.length : Nat) : Int) ≠ ((db.length : Nat) : Int)) = true := decide_eq_true (by omega)
  rw [decide_eq_false hl, Bool.false_and]
  refine Zaa Tryz.func169 rfl Tryz.ntmps169 rfl (fun X => ?_)
  exact wke
 have g1 : decide (((da.length : Nat) : Int) ≠ ((db.length : Nat) : Int)) = false := decide_eq_false (by omega)
 rw [decide_eq_true hl, Bool.true_and]
 refine Zaa Tryz.func169 rfl Tryz.ntmps169 rfl (fun X => ?_)
 refine wk ?_
 refine Zaq (ι := { k : Nat // k ≤ a.length ∧ ∀ (i : Nat) (x y : PEV × ST PEV), i < k → a[i]? = some x → b[i]? = some y → Zke x.1 y.1 = true ∧ eqT Zke x.2 y.2 = true })
  (fun k => [(0, .dat (.ptr (.agg [.sl 5 40 da]))), (1, .dat (.ptr (.agg [.sl 5 40 db]))), (21, .dat (.val (.int .i64 ((da.length : Nat) : Int)))), (22, .dat (.val (.int .i64 (k.1 : Nat))))]) (fun _ => []) (fun k => a.length - k.1) ⟨0, Nat.zero_le _, fun i _ _ h => absurd h (Nat.not_lt_zero i)⟩ id ?_ ?_
 ·exact sb
 rintro ⟨k, hk, hall⟩
 by_cases hlt : k < a.length
 ·have hc : decide ((k : Int) < ((da.length : Nat) : Int)) = true := decide_eq_true (by omega)
  obtain ⟨x, hx⟩ : ∃ p, a[k]? = some p := ⟨_, List.getElem?_eq_getElem hlt⟩
  obtain ⟨y, hy⟩ : ∃ p, b[k]? = some p := ⟨_, List.getElem?_eq_getElem (by omega)⟩
  have i1 := ga hx
  have i2 := gb hy
  have c1 := Zq2 x.1 y.1
  have c2 := ih x (List.mem_of_getElem? hx) y (List.mem_of_getElem? hy)
  obtain ⟨u0, u1, u2, u3, ex, ex1⟩ := Zl2 x
  obtain ⟨v0, v1, v2, v3, ey, ey1⟩ := Zl2 y
  rw [show nd x = nd (x.1, x.2) from rfl, ex] at i1
  rw [show nd y = nd (y.1, y.2) from rfl, ey] at i2
  rw [ex1, ey1] at c1
  clear ex ey ga gb ih
  cases he : Zke x.1 y.1 with
  | true =>
   rw [he] at c1
   cases h2 : eqT Zke x.2 y.2 with
   | true =>
    rw [h2] at c2
    refine wk ?_
    refine Zan ?_
    refine ⟨⟨k + 1, by omega, fun i u v hi hu hv => ?_⟩, id, by simp only; omega, ?_⟩
    ·by_cases e : i = k
     ·subst e
      rw [hx] at hu; rw [hy] at hv
      cases hu; cases hv
      exact ⟨he, h2⟩
     ·exact hall i u v (by omega) hu hv
    exact sb
   | false =>
    rw [h2] at c2
    rw [Ydt a b k x y hx hy (.inr h2)]
    exact wke
  | false =>
   rw [he] at c1
   rw [Ydt a b k x y hx hy (.inl he)]
   exact wke
 ·have hc : decide ((k : Int) < ((da.length : Nat) : Int)) = false := decide_eq_false (by omega)
  rw [Ydu a b hl fun i x y hx hy => hall i x y (by have := (List.getElem?_eq_some_iff.1 hx).1; omega) hx hy]
  exact wke
theorem Yoz (n : Nat) : ∀ (s t : ST PEV), dpT s < n → PCall Tryz.prog 103 [.ptr (Zbs s), .ptr (Zbs t)] (.val (.bool (eqT Zke s t))) := by
 induction n with
 | zero => exact fun s t h => absurd h (Nat.not_lt_zero _)
 | succ n ih =>
  intro s t hd
  obtain ⟨m, ch⟩ := s
  obtain ⟨m2, ch2⟩ := t
  have c1 := You m m2
  have c2 := Yo2 ch ch2 (fun x hx y hy => ih x.2 y.2 (by have := Zeu (t := ST.mk m ch) hx; omega))
  rw [Ylg]
  show PCall _ _ _ (.val (.bool (Zfa Zke m m2 && (decide (ch.length = ch2.length) && eqC Zke ch ch2))))
  unfold Zbs
  clear ih hd
  generalize m.map Za4 = d3 at *
  generalize m2.map Za4 = d4 at *
  generalize Zbi ch = d5 at *
  generalize Zbi ch2 = d6 at *
  generalize (decide (ch.length = ch2.length) && eqC Zke ch ch2) = r at *
  cases he : Zfa Zke m m2 with
  | true =>
   rw [he] at c1
   refine Zaa Tryz.func103 rfl Tryz.ntmps103 rfl (fun X => ?_)
   exact wke
  | false =>
   rw [he] at c1
   refine Zaa Tryz.func103 rfl Tryz.ntmps103 rfl (fun X => ?_)
   exact wke
theorem Yo0 (s t : ST PEV) : PCall Tryz.prog 103 [.ptr (Zbs s), .ptr (Zbs t)] (.val (.bool (eqT Zke s t))) := Yoz _ s t (Nat.lt_succ_self _)
theorem Yl2 {l : List (PEV × ST PEV)} {k : Nat} {y : PEV × ST PEV} (hy : l[k]? = some y) : (Zba (l.drop k)).length = (Zc0 y.2).length + (Zba (l.drop (k + 1))).length := by
 rw [Zf5 hy]
 conv => lhs; unfold Zba
 rw [List.length_append, List.length_map]
theorem Yg4 (a : List (PEV × ST PEV)) (hb : (Zba a).length ≤ 1099511627776) (hn : a.length ≤ 1099511627776) (ih : ∀ x ∈ a, PCall Tryz.prog 102 [.ptr (Zbs x.2)] (.val (.int .i64 (((Zc0 x.2).length : Nat) : Int)))) : PCall Tryz.prog 167 [.ptr (.agg [.sl 5 40 (Zbi a)])] (.val (.int .i64 (((Zba a).length : Nat) : Int))) := by
 rw [Zeq]
 have n1 : (a.map nd).length = a.length := by simp
 have ga : ∀ {i : Nat} {x : PEV × ST PEV}, a[i]? = some x → (a.map nd)[((i : Nat) : Int).toNat]? = some (nd x) := Zji nd
 generalize a.map nd = da at *
 generalize hr : (Zba a).length = r at *
 refine Zaa Tryz.func167 rfl Tryz.ntmps167 rfl (fun X => ?_)
 refine wk ?_
 refine Zaq (ι := { p : Nat × Nat // p.1 ≤ a.length ∧ p.2 + (Zba (a.drop p.1)).length = r })
  (fun p => [(3, .dat (.val (.int .i64 (p.1.2 : Nat)))), (9, .dat (.sl 5 40 da)), (10, .dat (.val (.int .i64 ((da.length : Nat) : Int)))), (11, .dat (.val (.int .i64 (p.1.1 : Nat))))]) (fun _ => []) (fun p => a.length - p.1.1) ⟨(0, 0), Nat.zero_le _, by simp only [List.drop_zero]; omega⟩ id ?_ ?_
 ·exact sb
 rintro ⟨⟨k, q⟩, hk, hq⟩
 simp only at hk hq
 simp only
 by_cases hlt : k < a.length
 ·have hc : decide ((k : Int) < ((da.length : Nat) : Int)) = true := decide_eq_true (by omega)
  obtain ⟨x, hx⟩ : ∃ p, a[k]? = some p := ⟨_, List.getElem?_eq_getElem hlt⟩
  have i1 := ga hx
  have c1 := ih x (List.mem_of_getElem? hx)
  rw [Yl2 hx] at hq
  obtain ⟨u0, u1, u2, u3, ex, ex1⟩ := Zl2 x
  rw [show nd x = nd (x.1, x.2) from rfl, ex] at i1
  clear ex ga ih
  generalize hw : (Zc0 x.2).length = w at *
  refine wk ?_
  refine Zan ?_
  refine ⟨⟨(k + 1, q + w), by simp only; omega, by simp only; omega⟩, id, by simp only; omega, ?_⟩
  have ez : (q : Int) + (w : Int) = ((q + w : Nat) : Int) := by omega
  exact sb
 ·have hc : decide ((k : Int) < ((da.length : Nat) : Int)) = false := decide_eq_false (by omega)
  rw [List.drop_eq_nil_of_le (by omega)] at hq
  obtain rfl : q = r := by unfold Zba at hq; simpa using hq
  exact wke
theorem Ygz (n : Nat) : ∀ (t : ST PEV), dpT t < n → SzT 1099511627776 t → (Zc0 t).length ≤ 1099511627776 → PCall Tryz.prog 102 [.ptr (Zbs t)] (.val (.int .i64 (((Zc0 t).length : Nat) : Int))) := by
 induction n with
 | zero => exact fun t h => absurd h (Nat.not_lt_zero _)
 | succ n ih =>
  intro t hd hs hk
  obtain ⟨m, ch⟩ := t
  obtain ⟨s1, s2, s3⟩ := SzT_iff.1 hs
  simp only [ST.m, ST.c] at s1 s2 s3
  have hw : (Zc0 (ST.mk m ch)).length = m.length + (Zba ch).length := by
   rw [Zj2]; simp [ST.m, ST.c]
  rw [hw] at hk ⊢
  have hle : ∀ x ∈ ch, (Zc0 x.2).length ≤ (Zba ch).length := fun x hx => by
   obtain ⟨i, h1, e⟩ := List.getElem_of_mem hx
   have h2 : ch[i]? = some x := by rw [List.getElem?_eq_getElem h1, e]
   have h3 := Yl2 h2
   have h4 : ∀ (l : List (PEV × ST PEV)) (k : Nat), (Zba (l.drop k)).length ≤ (Zba l).length := by
    intro l
    induction l with
    | nil => intro k; simp
    | cons y r ih =>
     intro k
     cases k with
     | zero => exact Nat.le_refl _
     | succ k =>
      have := ih k
      rw [List.drop_succ_cons]
      conv => rhs; unfold Zba
      rw [List.length_append]
      omega
   have := h4 ch i
   omega
  have c1 := Yg0 m
  have c2 := Yg4 ch (by omega) s2 (fun x hx => ih x.2 (by have := Zeu (t := ST.mk m ch) hx; omega) (s3 x hx) (by have := hle x hx; omega))
  have ez : ((m.length : Nat) : Int) + (((Zba ch).length : Nat) : Int) = ((m.length + (Zba ch).length : Nat) : Int) := by omega
  rw [← ez]
  have bd : ((m.length : Nat) : Int) + (((Zba ch).length : Nat) : Int) ≤ 1099511627776 := by omega
  unfold Zbs
  clear ih hd hle s3 hs hw
  generalize m.map Za4 = d3 at *
  generalize Zbi ch = d5 at *
  generalize (Zba ch).length = w at *
  refine Zaa Tryz.func102 rfl Tryz.ntmps102 rfl (fun X => ?_)
  exact wke
section
variable {P : Program} {X : Base} {N : Nat} {s : Sta}
end
section
variable {a b : List (List EV)} (ha : PsOk a) (hb : PsOk b) (la : Ztl a) (lb : Ztl b) (na : a.length ≤ 549755813888) (nb : b.length ≤ 549755813888)
include ha hb
theorem Zx0 (na : a.length ≤ 549755813888) (nb : b.length ≤ 549755813888) : PCall Tryz.prog 43 [.sl 1 24 (a.map pdP), .sl 1 24 (b.map pdP)] (.val (.bool (eqT Zke (inT a) (inT b)))) := by
 have c1 := Zj1 a ha na
 have c2 := Zj1 b hb nb
 have c3 := Yo0 (inT a) (inT b)
 clear ha hb na nb
 generalize eqT Zke (inT a) (inT b) = r at *
 generalize Zbs (inT a) = d3 at *
 generalize Zbs (inT b) = d4 at *
 generalize a.map pdP = d5 at *
 generalize b.map pdP = d6 at *
 refine Zaa Tryz.func43 rfl Tryz.ntmps43 rfl (fun X => ?_)
 exact wke
include la lb na nb
end
theorem Ykr (l : List (PEV × ST PEV)) (p : PEV) (hl : ∀ y ∈ l, OPE y.1) (hp : OPE p) (hs : Srt Zaf (l.map (·.1))) :
  PCall Tryz.prog 163 [.ptr (.agg [.sl 5 40 (Zbi l)]), Za4 p] (.tup [(match Zea Zaf l p with | some t => .ptr (Zbs t) | none => .val (.pointer none)), .val (.bool (Zea Zaf l p).isSome)]) := by
 rw [Zeq]
 have ek : (l.map fun y => (y.1, PD.ptr (Zbs y.2))).map (·.1) = l.map (·.1) := by rw [List.map_map]; rfl
 have e : (l.map fun y => (y.1, PD.ptr (Zbs y.2))).map dN = l.map nd := by rw [List.map_map]; rfl
 have c1 := Yh5 (l.map fun y => (y.1, PD.ptr (Zbs y.2))) p (by
  rw [ek]
  intro x hx
  obtain ⟨y, hy, rfl⟩ := List.mem_map.1 hx
  exact hl y hy) hp (by rw [ek]; exact hs)
 rw [e, ek] at c1
 obtain ⟨u0, u1, u2, u3, ep⟩ := Zip p
 rw [ep] at c1 ⊢
 cases hf : Ze9 Zaf (l.map (·.1)) p with
 | true =>
  obtain ⟨x, hx, _, hg⟩ := Zm9 l p (ST.mk [] []) hf
  have i1 := Zji nd hx
  obtain ⟨v0, v1, v2, v3, ex, _⟩ := Zl2 x
  rw [show nd x = nd (x.1, x.2) from rfl, ex] at i1
  rw [hf] at c1
  rw [hg]
  simp only [Option.isSome_some]
  have hb : (0 : Int) ≤ ((Zbe Zaf (l.map (·.1)) p : Nat) : Int) := Int.natCast_nonneg _
  clear hx ex hg hf ek e hs hl
  generalize ((Zbe Zaf (l.map (·.1)) p : Nat) : Int) = loc at *
  generalize l.map nd = da at *
  generalize Zbs x.2 = dx at *
  refine Zaa Tryz.func163 rfl Tryz.ntmps163 rfl (fun X => ?_)
  exact wke
 | false =>
  obtain ⟨_, hg⟩ := Zna l p (ST.mk [] []) hf
  rw [hf] at c1
  rw [hg]
  simp only [Option.isSome_none]
  clear hg hf ek e hs hl
  generalize ((Zbe Zaf (l.map (·.1)) p : Nat) : Int) = loc at *
  generalize l.map nd = da at *
  refine Zaa Tryz.func163 rfl Tryz.ntmps163 rfl (fun X => ?_)
  exact wke
def wpT (t : ST PEV) (p : PEV) : ST PEV := (Zea Zaf t.c p).getD (.mk [] [])
theorem Yhl (t : ST PEV) (p : PEV) {q : List PEV} (hq : q ≠ []) : Zdl Zaf (wpT t p) q = Zdl Zaf t (p :: q) := by
 unfold wpT
 rw [Zzb, Zfl _ _ hq]
 all_goals rfl
theorem Yoe (n : Nat) : TOk (.mk [] []) n := ⟨Zg6, NET_iff.2 (by simp [ST.c]), by rw [Zry]; show dpC [] ≤ _; unfold dpC; omega, by rw [Zj2]; simp only [ST.m, ST.c]; unfold Zba; simp⟩
theorem Zpt : ∀ {l : List (PEV × ST PEV)} {y : PEV × ST PEV}, y ∈ l → (Zc0 y.2).length ≤ (Zba l).length
 | z :: r, y, h => by
  unfold Zba
  rw [List.length_append, List.length_map]
  rcases List.mem_cons.1 h with rfl | h
  ·omega
  ·have := Zpt h; omega
theorem Ztg {t : ST PEV} {n : Nat} (h : TOk t n) (p : PEV) : TOk (wpT t p) n := by
 unfold wpT
 cases hg : Zea Zaf t.c p with
 | none => exact Yoe n
 | some t' =>
  obtain ⟨k, hk, _⟩ := Ziq hg
  have hd := Zeu hk
  have hw := Zpt hk
  have hn := h.k
  rw [Zj2, List.length_append] at hn
  exact ⟨(Zfp h.w hk).2, (NET_iff.1 h.e _ hk).2, by have := h.d; simp only at hd; show dpT t' ≤ _; omega, by simp only at hw; show (Zc0 t').length ≤ _; omega⟩
theorem Yjv : PCall Tryz.prog 140 [.val (.slice none 0 0)] (.ptr (Zbs (.mk [] []))) := Zmk (az := [.val (.slice none 0 0)]) Zzu
theorem Zv2 {t : ST PEV} {n : Nat} (h : TOk t n) (p : PEV) (hp : OPE p) : PCall Tryz.prog 100 [.ptr (Zbs t), Za4 p] (.ptr (Zbs (wpT t p))) := by
 obtain ⟨m, ch⟩ := t
 obtain ⟨_, _, h3, h4⟩ := WFT_iff.1 h.o
 have h4 := WFC_iff.1 h4
 simp only [ST.c] at h3 h4
 have c1 := Ykr ch p (fun y hy => (h4 y hy).1) hp h3
 have c2 := Yjv
 unfold wpT
 simp only [ST.c]
 obtain ⟨u0, u1, u2, u3, ep⟩ := Zip p
 rw [ep] at c1 ⊢
 clear h3 h4 h ep
 cases hg : Zea Zaf ch p with
 | none =>
  rw [hg] at c1
  simp only [Option.isSome_none] at c1
  simp only [Option.getD_none]
  generalize hd : Zbs (.mk [] []) = d0 at *
  unfold Zbs
  generalize Zbi ch = dc at *
  generalize m.map Za4 = dm at *
  refine Zaa Tryz.func100 rfl Tryz.ntmps100 rfl (fun X => ?_)
  exact wke
 | some t' =>
  rw [hg] at c1
  simp only [Option.isSome_some] at c1
  simp only [Option.getD_some]
  generalize Zbs t' = d0 at *
  clear c2
  unfold Zbs
  generalize Zbi ch = dc at *
  generalize m.map Za4 = dm at *
  refine Zaa Tryz.func100 rfl Tryz.ntmps100 rfl (fun X => ?_)
  exact wke
structure LOk (l : List (List EV)) : Prop where
 ok : PsOk l
 ln : Ztl l
 n : l.length ≤ 549755813888
theorem Yea {t : ST PEV} {n : Nat} (h : TOk t n) (hn : n ≤ 549755813888) : LOk (Zef t) := ⟨Zze h.w, Yiw h, by rw [Zfx h.w]; have := h.k; omega⟩
theorem LOk.t {l : List (List EV)} (h : LOk l) : TOk (inT l) l.length := Yef h.ok h.ln (Nat.le_refl _)
theorem Yhw {a : List (List EV)} (ha : LOk a) (e : EV) (he : OPE (Zaz e)) : PCall Tryz.prog 40 [.sl 1 24 (a.map pdP), pdE e] (.sl 1 24 ((Zef (wpT (inT a) (Zaz e))).map pdP)) := by
 have c1 := Zj1 a ha.ok ha.n
 have c2 := Ztd e
 have c3 := Zv2 ha.t (Zaz e) he
 have c4 := Zn3 (Ztg ha.t (Zaz e)) (by have := ha.n; omega)
 obtain ⟨u0, u1, u2, u3, ep⟩ := Zip (Zaz e)
 rw [ep] at c2 c3
 clear ha he ep
 generalize (Zef _).map pdP = d1 at *
 generalize Zbs (wpT _ _) = d2 at *
 generalize Zbs (inT a) = d3 at *
 generalize a.map pdP = d5 at *
 unfold pdE at c2 ⊢
 refine Zaa Tryz.func40 rfl Tryz.ntmps40 rfl (fun X => ?_)
 exact wke
end Go.Proofs.YtgmahieoiifpfaaGreat
