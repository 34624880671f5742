/- Part 12 of what the proof rests on. -/
import Derived.Test.YtgmahieoiifpfaaGreatSaR6
import Derived.Test.YtgmahieoiifpfaaGreatSaR9
import Derived.Test.YtgmahieoiifpfaaGreatSaR10
import Derived.Test.YtgmahieoiifpfaaGreatSaR11
set_option linter.unusedSimpArgs false
set_option linter.unusedVariables false
set_option maxHeartbeats 8000000
namespace Go.Proofs.YtgmahieoiifpfaaGreat
open Go.RowKit
theorem Zk9 (x : EV) : rkE (Za1 x) = rkE x := by
 unfold rkE Za1
 by_cases k1 : x.kind = 1
 ·rw [if_pos k1, if_pos k1]; rfl
 rw [if_neg k1, if_neg k1]
 by_cases k2 : x.kind = 2
 ·rw [if_pos k2, if_pos k2]; rfl
 rw [if_neg k2, if_neg k2]
 by_cases k3 : x.kind = 3
 ·rw [if_pos k3, if_pos k3]; rfl
 rw [if_neg k3, if_neg k3]; rfl
theorem Zpp : ∀ (ks : List ByteArray) (l : List GV), (ks.take (min ks.length l.length)).zip (Zcp (l.take (min ks.length l.length))) = (ks.zip l).map fun f => (f.1, Zat f.2)
 | [], l => by simp
 | k :: ks, [] => by simp
 | k :: ks, v :: l => by
  simp only [List.length_cons, Nat.succ_min_succ, List.take_succ_cons, Zcp, List.zip_cons_cons, List.map_cons]
  rw [Zpp ks l]
theorem Zkt {x : EV} (h : rkE x = 1) : kvE (Za1 x) = (kvE x).map fun f => (f.1, Zat f.2) := by
 have k1 : x.kind = 1 := by
  unfold rkE at h
  by_cases k1 : x.kind = 1
  ·exact k1
  ·rw [if_neg k1] at h
   split at h
   ·cases h
   ·split at h <;> cases h
 unfold kvE Za1
 rw [if_pos k1]
 exact Zpp x.keys x.l
theorem Zp1 {α : Type} {c : α → α → Int} {f : α → α} (h : ∀ x y, c (f x) y = c x y) : ∀ (a b : List α), Zb7 c (a.map f) b = Zb7 c a b
 | [], b => rfl
 | x :: a, [] => rfl
 | x :: a, y :: b => by rw [List.map_cons, Zbs, Zbs, h, Zp1 h a b]
theorem Zp2 {α : Type} {c : α → α → Int} {f : α → α} (h : ∀ x y, c x (f y) = c x y) : ∀ (a b : List α), Zb7 c a (b.map f) = Zb7 c a b
 | [], [] => rfl
 | [], y :: b => rfl
 | x :: a, [] => rfl
 | x :: a, y :: b => by rw [List.map_cons, Zbs, Zbs, h, Zp2 h a b]
theorem Ztw {α : Type} {c : α → α → Bool} {f : α → α} (h : ∀ x y, c (f x) y = c x y) : ∀ (a b : List α), Ze7 c (a.map f) b = Ze7 c a b
 | [], [] => rfl
 | [], y :: b => rfl
 | x :: a, [] => rfl
 | x :: a, y :: b => by rw [List.map_cons]; unfold Ze7; rw [h, Ztw h a b]
theorem Ztx {α : Type} {c : α → α → Bool} {f : α → α} (h : ∀ x y, c x (f y) = c x y) : ∀ (a b : List α), Ze7 c a (b.map f) = Ze7 c a b
 | [], [] => rfl
 | [], y :: b => rfl
 | x :: a, [] => rfl
 | x :: a, y :: b => by rw [List.map_cons]; unfold Ze7; rw [h, Ztx h a b]
theorem Zrj {x : EV} (h : rkE x = 2) : (Za1 x).v = Zat x.v := by
 unfold rkE at h
 unfold Za1
 by_cases k1 : x.kind = 1
 ·rw [if_pos k1] at h; cases h
 rw [if_neg k1] at h ⊢
 by_cases k2 : x.kind = 2
 ·rw [if_pos k2]
 rw [if_neg k2] at h
 split at h <;> cases h
theorem Zrf {x : EV} (h : rkE x = 3) : (Za1 x).n = x.n := by
 unfold rkE at h
 unfold Za1
 by_cases k1 : x.kind = 1
 ·rw [if_pos k1] at h; cases h
 rw [if_neg k1] at h ⊢
 by_cases k2 : x.kind = 2
 ·rw [if_pos k2] at h; cases h
 rw [if_neg k2] at h ⊢
 by_cases k3 : x.kind = 3
 ·rw [if_pos k3]
 rw [if_neg k3] at h; cases h
theorem Zri {x : EV} (h1 : ¬ rkE x = 1) (h2 : ¬ rkE x = 2) (h3 : ¬ rkE x = 3) : (Za1 x).s = x.s := by
 unfold rkE at h1 h2 h3
 unfold Za1
 by_cases k1 : x.kind = 1
 ·rw [if_pos k1] at h1; exact absurd rfl h1
 rw [if_neg k1] at h2 h3 ⊢
 by_cases k2 : x.kind = 2
 ·rw [if_pos k2] at h2; exact absurd rfl h2
 rw [if_neg k2] at h3 ⊢
 by_cases k3 : x.kind = 3
 ·rw [if_pos k3] at h3; exact absurd rfl h3
 rw [if_neg k3]
theorem Zhg (x : EV) : LikeE (Za1 x) x := by
 refine ⟨fun y => ?_, fun y => ?_, fun y => ?_, fun y => ?_⟩
 ·unfold Zcn Yck
  rw [Zk9]
  congr 1
  by_cases h1 : rkE x = 1
  ·rw [if_pos h1, if_pos h1, Zkt h1]
   exact Zp1 (fun f g => by unfold Zn1; simp only; rw [Zc1]) _ _
  rw [if_neg h1, if_neg h1]
  by_cases h2 : rkE x = 2
  ·rw [if_pos h2, if_pos h2, Zrj h2, Zc1]
  rw [if_neg h2, if_neg h2]
  by_cases h3 : rkE x = 3
  ·rw [if_pos h3, if_pos h3, Zrf h3]
  rw [if_neg h3, if_neg h3, Zri h1 h2 h3]
 ·unfold Zcn
  rw [Zk9]
  by_cases hr : Zbv (rkE y) (rkE x) = 0
  ·rw [Zce hr, Zce hr]
   have hr : rkE y = rkE x := by
    unfold Zbv at hr
    split at hr
    ·cases hr
    ·split at hr
     ·cases hr
     ·omega
   unfold Yck
   by_cases h1 : rkE y = 1
   ·rw [if_pos h1, if_pos h1, Zkt (by rw [← hr]; exact h1)]
    exact Zp2 (fun f g => by unfold Zn1; simp only; rw [Zc1]) _ _
   rw [if_neg h1, if_neg h1]
   by_cases h2 : rkE y = 2
   ·rw [if_pos h2, if_pos h2, Zrj (by rw [← hr]; exact h2), Zc1]
   rw [if_neg h2, if_neg h2]
   by_cases h3 : rkE y = 3
   ·rw [if_pos h3, if_pos h3, Zrf (by rw [← hr]; exact h3)]
   rw [if_neg h3, if_neg h3, Zri (by rw [← hr]; exact h1) (by rw [← hr]; exact h2) (by rw [← hr]; exact h3)]
  ·rw [Zee hr, Zee hr]
 ·unfold eqE
  rw [Zk9]
  by_cases hr : rkE x = rkE y
  ·rw [if_neg (show ¬ (rkE x ≠ rkE y) from fun h => h hr), if_neg (show ¬ (rkE x ≠ rkE y) from fun h => h hr)]
   by_cases h1 : rkE x = 1
   ·rw [if_pos h1, if_pos h1, Zkt h1]
    exact Ztw (fun f g => by unfold Ykz; simp only; rw [Zc1]) _ _
   rw [if_neg h1, if_neg h1]
   by_cases h2 : rkE x = 2
   ·rw [if_pos h2, if_pos h2, Zrj h2, Zc1]
   rw [if_neg h2, if_neg h2]
   by_cases h3 : rkE x = 3
   ·rw [if_pos h3, if_pos h3, Zrf h3]
   rw [if_neg h3, if_neg h3, Zri h1 h2 h3]
  ·rw [if_pos hr, if_pos hr]
 ·unfold eqE
  rw [Zk9]
  by_cases hr : rkE y = rkE x
  ·rw [if_neg (show ¬ (rkE y ≠ rkE x) from fun h => h hr), if_neg (show ¬ (rkE y ≠ rkE x) from fun h => h hr)]
   by_cases h1 : rkE y = 1
   ·rw [if_pos h1, if_pos h1, Zkt (by rw [← hr]; exact h1)]
    exact Ztx (fun f g => by unfold Ykz; simp only; rw [Zc1]) _ _
   rw [if_neg h1, if_neg h1]
   by_cases h2 : rkE y = 2
   ·rw [if_pos h2, if_pos h2, Zrj (by rw [← hr]; exact h2), Zc1]
   rw [if_neg h2, if_neg h2]
   by_cases h3 : rkE y = 3
   ·rw [if_pos h3, if_pos h3, Zrf (by rw [← hr]; exact h3)]
   rw [if_neg h3, if_neg h3, Zri (by rw [← hr]; exact h1) (by rw [← hr]; exact h2) (by rw [← hr]; exact h3)]
  ·rw [if_pos hr, if_pos hr]
theorem OE.clean {x : EV} (h : OE x) : OE (Za1 x) := by
 obtain ⟨z, hz, l⟩ := h
 have c := Zhg x
 exact ⟨z, hz, ⟨fun y => (c.l y).trans (l.l y), fun y => (c.r y).trans (l.r y), fun y => (c.el y).trans (l.el y), fun y => (c.er y).trans (l.er y)⟩⟩
theorem Yc1 {α : Type} {c : α → α → Int} {f : α → α} (h : ∀ x y, c (f x) y = c x y) : ∀ (a b : List α), cw c (a.map f) b = cw c a b
 | [], b => rfl
 | x :: a, [] => rfl
 | x :: a, y :: b => by
  rw [List.map_cons, Zcs, Zcs, h, Yc1 h a b]
  cases a <;> rfl
theorem Yc2 {α : Type} {c : α → α → Int} {f : α → α} (h : ∀ x y, c x (f y) = c x y) : ∀ (a b : List α), cw c a (b.map f) = cw c a b
 | [], [] => rfl
 | [], y :: b => rfl
 | x :: a, [] => rfl
 | x :: a, y :: b => by
  rw [List.map_cons, Zcs, Zcs, h, Yc2 h a b]
  cases b <;> rfl
theorem Ys1 (a b : List EV) : cw Zcn a (b.map Za1) = cw Zcn a b := Yc2 (fun x y => (Zhg y).r x) a b
theorem Ys2 (a b : List EV) : cw Zcn (a.map Za1) b = cw Zcn a b := Yc1 (fun x y => (Zhg x).l y) a b
theorem Zot {α : Type} {c : α → α → Int} {p q : α} (h : ∀ x, c x p = c x q) : ∀ l : List α, Zbf c l p = Zbf c l q ∧ Zev c l p = Zev c l q
 | [] => ⟨rfl, rfl⟩
 | x :: r => by
  unfold Zbf Zev
  rw [h x, (Zot h r).1, (Zot h r).2]
  exact ⟨rfl, rfl⟩
def clP (ps : List (List EV)) : List (List EV) := (ps.filter fun p => !p.isEmpty).map (·.map Za1)
theorem Ynb {s : List (List EV)} {p : List EV} (h : p ≠ []) : Ya1 s p = Zds (cw Zcn) s (p.map Za1) := by
 unfold Ya1
 rw [if_neg h, Zsz]
 obtain ⟨h1, h2⟩ := Zot (c := cw Zcn) (p := p.map Za1) (q := p) (fun x => Ys1 x p) s
 rw [h1, h2]
theorem Zz3 (ps : List (List EV)) : Zbj ps = Ygp (cw Zcn) (clP ps) := by
 have : ∀ (ps : List (List EV)) (s : List (List EV)), ps.foldl Ya1 s = (clP ps).foldl (Zds (cw Zcn)) s := by
  intro ps
  induction ps with
  | nil => intro s; rfl
  | cons p ps ih =>
   intro s
   rw [List.foldl_cons, ih]
   unfold clP
   rw [List.filter_cons]
   cases p with
   | nil => rw [show Ya1 s [] = s from by unfold Ya1; rw [if_pos rfl]]; rfl
   | cons x p =>
    rw [Ynb (by simp)]
    rfl
 exact this ps []
theorem Yl4 {ps : List (List EV)} (h : ∀ p ∈ ps, ∀ x ∈ p, OE x) : ∀ a ∈ clP ps, PP OE a := fun a ha => by
 unfold clP at ha
 obtain ⟨p, hp, rfl⟩ := List.mem_map.1 ha
 obtain ⟨hp, hne⟩ := List.mem_filter.1 hp
 refine ⟨fun e => ?_, fun x hx => ?_⟩
 ·have : p = [] := List.map_eq_nil_iff.1 e
  subst this
  simp at hne
 ·obtain ⟨y, hy, rfl⟩ := List.mem_map.1 hx
  exact (h p hp y hy).clean
theorem Zde {ps : List (List EV)} (h : ∀ p ∈ ps, ∀ x ∈ p, OE x) : SetOk (Zbj ps) := by
 rw [Zz3]
 exact ⟨Yth Zpt (Yl4 h), Yor Zpt (Yl4 h)⟩
theorem Ydu (q : List EV) (hq : q ≠ []) : ∀ ps : List (List EV), Zaw (cw Zcn) (clP ps) q = Zaw (cw Zcn) ps q
 | [] => rfl
 | p :: ps => by
  have ih := Ydu q hq ps
  unfold clP at ih ⊢
  rw [List.filter_cons, Zcc]
  cases p with
  | nil =>
   have : decide (cw Zcn [] q = 0) = false := by
    cases q with
    | nil => exact absurd rfl hq
    | cons y q => rfl
   rw [this, Bool.false_or]
   exact ih
  | cons x p =>
   simp only [List.isEmpty_cons, Bool.not_false, if_true, List.map_cons]
   rw [Zcc, ih]
   have := Ys2 (x :: p) q
   rw [List.map_cons] at this
   rw [this]
theorem Zgl {ps : List (List EV)} (h : ∀ p ∈ ps, ∀ x ∈ p, OE x) {q : List EV} (hq : PP OE q) : Zaw (cw Zcn) (Zbj ps) q = Zaw (cw Zcn) ps q := by
 rw [Zz3, Ym9 Zpt (Yl4 h) hq, Ydu q hq.1]
theorem Zmv {α β : Type} : ∀ (a : List α) (b : List β), (a.zip b).map (·.1) = a.take (min a.length b.length)
 | [], b => by simp
 | x :: a, [] => by simp
 | x :: a, y :: b => by simp [Zmv a b, Nat.succ_min_succ]
theorem Ylp : ∀ (a : List ByteArray) (b : List GV), ((a.zip (b.map Za2)).map fun p => unJ p.2) = Zcp (b.take (min a.length b.length))
 | [], b => by simp [Zcp]
 | x :: a, [] => by simp [Zcp]
 | x :: a, y :: b => by
  have := Ylp a b
  simp only [List.map_cons, List.zip_cons_cons, List.length_cons, Nat.succ_min_succ, List.take_succ_cons, Zcp]
  rw [this, Zd9]
theorem Zvs (x : EV) : Zic (Zc2 x) = Za1 x := by
 unfold Zc2 Za1
 split
 ·simp only [Zic, flE]
  rw [Zmv, Ylp, List.length_map]
 split
 ·simp [Zic, Zd9]
 split
 ·simp [Zic]
 ·simp [Zic]
def PR (p : PEV) : Prop := OPE p ∧ KL p ∧ ∃ x, p = Zc2 x
def BrE (y : EV) (p : PEV) : Prop := ∃ z, OPE (Zc2 z) ∧ LikeE y z ∧ p = Zc2 z
theorem Yp2 {y : EV} (h : OE y) : ∃ p, BrE y p := by
 obtain ⟨z, h1, h2⟩ := h
 exact ⟨_, z, h1, h2, rfl⟩
theorem BrE.o {y : EV} {p : PEV} (h : BrE y p) : OPE p := by
 obtain ⟨z, h1, h2, rfl⟩ := h
 exact h1
theorem BrE.cmp {y : EV} {p : PEV} (h : BrE y p) {x : EV} (hx : OPE (Zc2 x)) : Zcn x y = Zag (Zc2 x) p := by
 obtain ⟨z, h1, h2, rfl⟩ := h
 rw [h2.r x, Zhp hx.j h1.j]
theorem Zxe {p : PEV} (h : PR p) : ∃ x, OPE (Zc2 x) ∧ p = Zc2 x ∧ Zic p = Za1 x := by
 obtain ⟨h1, h2, x, rfl⟩ := h
 exact ⟨x, h1, rfl, Zvs x⟩
theorem BrE.cmp2 {y : EV} {p q : PEV} (h : BrE y p) (hx : PR q) : Zcn (Zic q) y = Zag q p := by
 obtain ⟨x, h1, rfl, h3⟩ := Zxe hx
 rw [h3, (Zhg x).l y, h.cmp h1]
theorem Yp1 {p : PEV} (h : PR p) : BrE (Zic p) p := by
 obtain ⟨x, h1, rfl, h3⟩ := Zxe h
 exact ⟨x, h1, by rw [h3]; exact Zhg x, rfl⟩
theorem Ysw {p : PEV} (h : PR p) : OE (Zic p) := by
 obtain ⟨x, h1, rfl, h3⟩ := Zxe h
 rw [h3]
 exact (OE.raw h1).clean
theorem Zz7 : ∀ l : List JV, (Zgr l).length = l.length
 | [] => by simp [Zgr]
 | x :: r => by simp [Zgr, Zz7 r]
theorem Zxj : ∀ {l : List GV}, (∀ y ∈ l, GOk y) → Zq8 l
 | [], _ => by unfold Zq8; trivial
 | x :: r, h => by unfold Zq8; exact ⟨h x (by simp), Zxj fun y hy => h y (by simp [hy])⟩
mutual
theorem Ydp : ∀ j : JV, JOk j → GOk (unJ j)
 | .null, _ => by simp [unJ, GOk, Zq8, Zdi, gv]
 | .bool b, _ => by simp [unJ, GOk, Zq8, gv]
 | .int n, _ => by simp [unJ, GOk, Zq8, gv]
 | .flt f, _ => by simp [unJ, GOk, Zq8, gv]
 | .str s, _ => by simp [unJ, GOk, Zq8, gv]
 | .list l, h => by
  unfold JOk at h
  unfold unJ GOk
  exact ⟨by rw [Zz7]; exact h.1, Ydr l h.2⟩
 | .map m, h => by
  unfold JOk at h
  unfold unJ
  obtain ⟨ks, l, e, hi, hl, hk, hg⟩ := Zh6 h.1
  have hm := h.2.1
  rw [e]
  unfold GOk
  have hn := Ze3 (Zwq hi) (l := m.map (·.1)) (fun x hx => (hk x).1 hx)
  rw [List.length_map] at hn
  refine ⟨by omega, Zxj fun y hy => ?_⟩
  obtain ⟨i, h1, rfl⟩ := List.getElem_of_mem hy
  obtain ⟨j, hj, e2⟩ := (hg (ks[i]'(by omega)) l[i]).1 ⟨i, List.getElem?_eq_getElem _, List.getElem?_eq_getElem _⟩
  rw [← e2]
  exact Ydq m h.2.2 _ (Zdc hj)
theorem Ydr : ∀ l : List JV, Znq l → Zq8 (Zgr l)
 | [], _ => by unfold Zgr Zq8; trivial
 | x :: r, h => by
  unfold Znq at h
  unfold Zgr Zq8
  exact ⟨Ydp x h.1, Ydr r h.2⟩
theorem Ydq : ∀ m : List (ByteArray × JV), Zvv m → ∀ x ∈ m, GOk (unJ x.2)
 | [], _, x, hx => by cases hx
 | y :: r, h, x, hx => by
  unfold Zvv at h
  rcases List.mem_cons.1 hx with e | hx
  ·rw [e]; exact Ydp y.2 h.1
  ·exact Ydq r h.2 x hx
end
theorem Zxl {v : GV} (h : OJ (Za2 v)) : OJ (Za2 (Zat v)) := by
 have e : unJ (Za2 v) = Zat v := Zd9 v
 refine ⟨Zk4 _ (by rw [← e]; exact Ydp _ h.1), ?_⟩
 rw [Zd9, Zc1, ← e]
 exact h.2
theorem Yhp {x : EV} (h : OPE (Zc2 x)) (k : KL (Zc2 x)) : OPE (Zc2 (Za1 x)) ∧ KL (Zc2 (Za1 x)) := by
 rcases Zgm x with q | q | q | q
 ·rw [q.2.2] at h k
  have e1 : Za1 x = ⟨1, ByteArray.empty, x.keys.take (min x.keys.length x.l.length), Zcp (x.l.take (min x.keys.length x.l.length)), Zdi, 0⟩ := by unfold Za1; rw [if_pos q.1]
  have e : Zc2 (Za1 x) = .key (flE (Za1 x)) := by rw [e1]; rfl
  have e2 : flE (Za1 x) = (x.keys.zip x.l).map fun f => (f.1, Za2 (Zat f.2)) := by
   rw [e1]
   show (x.keys.take (min x.keys.length x.l.length)).zip ((Zcp (x.l.take (min x.keys.length x.l.length))).map Za2) = _
   rw [List.zip_map_right, Zpp, List.map_map]
   rfl
  rw [e]
  refine ⟨fun f hf => ?_, fun fl hfl => ?_⟩
  ·rw [e2] at hf
   obtain ⟨g, hg, rfl⟩ := List.mem_map.1 hf
   refine Zxl (h (g.1, Za2 g.2) ?_)
   unfold flE
   rw [List.zip_map_right]
   exact List.mem_map.2 ⟨g, hg, rfl⟩
  ·injection hfl with hfl
   have := k _ rfl
   rw [← hfl, e2, List.length_map, List.length_zip]
   rw [Zlr] at this
   exact this
 ·rw [q.2.2] at h k
  have e : Zc2 (Za1 x) = .val (Za2 (Zat x.v)) := by
   unfold Za1
   rw [if_neg (by rw [q.1]; decide), if_pos q.1]
   rfl
  rw [e]
  exact ⟨Zxl h, fun fl hfl => by cases hfl⟩
 ·have e : Zc2 (Za1 x) = .idx x.n := by
   unfold Za1
   rw [if_neg (by rw [q.1]; decide), if_neg (by rw [q.1]; decide), if_pos q.1]
   rfl
  rw [e]
  exact ⟨trivial, fun fl hfl => by cases hfl⟩
 ·have e : Zc2 (Za1 x) = .name x.s := by
   unfold Za1
   rw [if_neg q.1, if_neg q.2.1, if_neg q.2.2.1]
   rfl
  rw [e]
  exact ⟨trivial, fun fl hfl => by cases hfl⟩
theorem Yhh {p : PEV} (h : PR p) : OPE (Zc2 (Zic p)) ∧ KL (Zc2 (Zic p)) := by
 obtain ⟨h1, h2, x, rfl⟩ := h
 rw [Zvs]
 exact Yhp h1 h2
def Br : List EV → List PEV → Prop
 | [], [] => True
 | y :: q, p :: r => BrE y p ∧ Br q r
 | _, _ => False
theorem Yhn : ∀ (q : List EV), (∀ x ∈ q, OE x) → ∃ q', Br q q'
 | [], _ => ⟨[], trivial⟩
 | y :: q, h => by
  obtain ⟨p, hp⟩ := Yp2 (h y (by simp))
  obtain ⟨r, hr⟩ := Yhn q fun x hx => h x (by simp [hx])
  exact ⟨p :: r, hp, hr⟩
theorem Br.o : ∀ {q : List EV} {q' : List PEV}, Br q q' → ∀ x ∈ q', OPE x
 | [], [], _ => by simp
 | y :: q, p :: r, h => fun x hx => by
  rcases List.mem_cons.1 hx with rfl | hx
  ·exact h.1.o
  ·exact Br.o h.2 x hx
theorem Br.ne : ∀ {q : List EV} {q' : List PEV}, Br q q' → q ≠ [] → q' ≠ []
 | [], [], _, h => absurd rfl h
 | y :: q, p :: r, h, _ => by simp
theorem Br.pp {q : List EV} {q' : List PEV} (h : Br q q') (hq : q ≠ []) : PP OPE q' := ⟨h.ne hq, h.o⟩
theorem Br.len : ∀ {q : List EV} {q' : List PEV}, Br q q' → q'.length = q.length
 | [], [], _ => rfl
 | y :: q, p :: r, h => by simp [Br.len h.2]
theorem Yky {α β : Type} (f : α → β) (l : List α) : en (l.map f) = en l := by cases l <;> rfl
theorem Br.en : ∀ {q : List EV} {q' : List PEV}, Br q q' → en q = en q'
 | [], [], _ => rfl
 | y :: q, p :: r, h => rfl
theorem Br.cw : ∀ {a q : List EV} {q' : List PEV}, (∀ x ∈ a, OPE (Zc2 x)) → Br q q' → cw Zcn a q = cw Zag (a.map Zc2) q'
 | [], [], [], _, _ => rfl
 | [], y :: q, p :: r, _, _ => rfl
 | x :: a, [], [], _, _ => rfl
 | x :: a, y :: q, p :: r, ha, h => by
  rw [List.map_cons, Zcs, Zcs, h.1.cmp (ha x (by simp)), Br.cw (fun z hz => ha z (by simp [hz])) h.2, Yky, h.2.en]
theorem Br.cw2 : ∀ {a : List PEV} {q : List EV} {q' : List PEV}, (∀ x ∈ a, PR x) → Br q q' → Go.Proofs.YtgmahieoiifpfaaGreat.cw Zcn (a.map Zic) q = Go.Proofs.YtgmahieoiifpfaaGreat.cw Zag a q'
 | [], [], [], _, _ => rfl
 | [], y :: q, p :: r, _, _ => rfl
 | x :: a, [], [], _, _ => rfl
 | x :: a, y :: q, p :: r, ha, h => by
  rw [List.map_cons, Zcs, Zcs, h.1.cmp2 (ha x (by simp)), Br.cw2 (fun z hz => ha z (by simp [hz])) h.2, Yky, h.2.en]
theorem Yp3 : ∀ {r : List PEV}, (∀ x ∈ r, PR x) → Br (r.map Zic) r
 | [], _ => trivial
 | p :: r, h => ⟨Yp1 (h p (by simp)), Yp3 fun x hx => h x (by simp [hx])⟩
theorem Yp5 {ps : List (List EV)} (h : ∀ p ∈ ps, ∀ x ∈ p, OPE (Zc2 x)) {q : List EV} {q' : List PEV} (hb : Br q q') : Zaw (cw Zcn) ps q = Zaw (cw Zag) (ps.map (·.map Zc2)) q' := by
 induction ps with
 | nil => rfl
 | cons p ps ih =>
  rw [List.map_cons, Zcc, Zcc, ih fun p hp => h p (by simp [hp]), hb.cw (h p (by simp))]
theorem Yl2 {l : List (List PEV)} (h : ∀ p ∈ l, ∀ x ∈ p, PR x) {q : List EV} {q' : List PEV} (hb : Br q q') : Zaw (cw Zcn) (l.map (·.map Zic)) q = Zaw (cw Zag) l q' := by
 induction l with
 | nil => rfl
 | cons p ps ih =>
  rw [List.map_cons, Zcc, Zcc, ih fun p hp => h p (by simp [hp]), hb.cw2 (h p (by simp))]
def PsOk (ps : List (List EV)) : Prop := ∀ p ∈ ps, ∀ x ∈ p, OPE (Zc2 x) ∧ KL (Zc2 x)
def Zlf (t : ST PEV) : List (List EV) := (Zgo t).map (·.map Zic)
section
variable {t : ST PEV} (h : WFT Zag PR t)
include h
theorem WFT.o : WFT Zag OPE t := Zm1 (fun _ h => h.1) t h
theorem Zt8 : ∀ r ∈ Zgo t, ∀ x ∈ r, PR x := fun r hr => (Ze5 t h r hr).2
theorem Zqd : SetOk (Zlf t) := by
 refine ⟨fun a ha => ?_, ?_⟩
 ·obtain ⟨r, hr, rfl⟩ := List.mem_map.1 ha
  refine ⟨fun e => (Ze5 t h r hr).1 (List.map_eq_nil_iff.1 e), fun x hx => ?_⟩
  obtain ⟨p, hp, rfl⟩ := List.mem_map.1 hx
  exact Ysw (Zt8 h r hr p hp)
 ·unfold Zlf Srt
  rw [List.pairwise_map]
  refine List.Pairwise.imp_of_mem (fun {a b} ha hb hab => ?_) (Znn ordPE t (WFT.o h))
  rw [(Yp3 (Zt8 h b hb)).cw2 (Zt8 h a ha)]
  exact hab
theorem Zwn {q : List EV} {q' : List PEV} (hb : Br q q') (hq : q ≠ []) : Zaw (cw Zcn) (Zlf t) q = Zer Zag t q' := by
 unfold Zlf
 rw [Yl2 (Zt8 h) hb, Ypk ordPE (WFT.o h) (hb.pp hq)]
theorem Yds : PsOk (Zlf t) := fun p hp x hx => by
 obtain ⟨r, hr, rfl⟩ := List.mem_map.1 hp
 obtain ⟨y, hy, rfl⟩ := List.mem_map.1 hx
 exact Yhh (Zt8 h r hr y hy)
theorem Zrx : (Zlf t).length = (Zgo t).length := (fun (_ : WFT Zag PR t) => by unfold Zlf; rw [List.length_map]) h
end
def inT (ps : List (List EV)) : ST PEV := ofP Zag (ps.map (·.map Zc2))
theorem Yju : OrdL Zag PR := ⟨fun a b d ha hb hd => ordPE.1 a b d ha.1 hb.1 hd.1, fun a b ha hb => ordPE.2 a b ha.1 hb.1⟩
section
variable {ps : List (List EV)} (h : PsOk ps)
include h
theorem PsOk.el : ∀ p ∈ ps.map (·.map Zc2), ∀ x ∈ p, PR x := fun p hp x hx => by
 obtain ⟨q, hq, rfl⟩ := List.mem_map.1 hp
 obtain ⟨y, hy, rfl⟩ := List.mem_map.1 hx
 exact ⟨(h q hq y hy).1, (h q hq y hy).2, y, rfl⟩
theorem PsOk.raw : ∀ p ∈ ps, ∀ x ∈ p, OPE (Zc2 x) := fun p hp x hx => (h p hp x hx).1
theorem PsOk.oe : ∀ p ∈ ps, ∀ x ∈ p, OE x := fun p hp x hx => OE.raw (h p hp x hx).1
theorem Zud : WFT Zag PR (inT ps) := Yeq Yju (PsOk.el h)
theorem Yq3 : NET (inT ps) := Yn6 Yju (PsOk.el h)
theorem Zue {q : List EV} {q' : List PEV} (hb : Br q q') (hq : q ≠ []) : Zer Zag (inT ps) q' = Zaw (cw Zcn) ps q := by
 unfold inT
 rw [Yn8 ordPE (fun p hp x hx => (PsOk.el h p hp x hx).1) (hb.pp hq), Yp5 (PsOk.raw h) hb]
theorem Yna : (Zgo (inT ps)).length ≤ ps.length := by
 have e := Zmb Zpt (Zlf (inT ps)) (Zbj ps) (Zqd (Zud h)).P (Zde (PsOk.oe h)).P (Zqd (Zud h)).S (Zde (PsOk.oe h)).S fun q hq => by
  obtain ⟨q', hb⟩ := Yhn q hq.2
  rw [Zwn (Zud h) hb hq.1, Zue h hb hq.1, Zgl (PsOk.oe h) hq]
 have e := Zij e
 rw [Zrx (Zud h)] at e
 rw [e]
 have := Zlb ps ps.length
 rwa [List.take_length] at this
end
structure TOk (t : ST PEV) (n : Nat) : Prop where
 w : WFT Zag PR t
 e : NET t
 d : dpT t ≤ 837723144946
 k : (Zgo t).length ≤ n
theorem TOk.sz {t : ST PEV} {n : Nat} (h : TOk t n) : SzT n t := Ykq t h.e h.k
theorem TOk.o {t : ST PEV} {n : Nat} (h : TOk t n) : WFT Zag OPE t := WFT.o h.w
def Znr (ps : List (List EV)) : Prop := ∀ p ∈ ps, p.length ≤ 837723144947
theorem Zge {ps : List (List EV)} (h : PsOk ps) (hl : Znr ps) {n : Nat} (hn : ps.length ≤ n) : TOk (inT ps) n := ⟨Zud h, Yq3 h, Yrl fun p hp => by
 obtain ⟨q, hq, rfl⟩ := List.mem_map.1 hp
 rw [List.length_map]
 exact hl q hq, Nat.le_trans (Yna h) hn⟩
def iT (s t : ST PEV) : ST PEV := opN Zag false false true (dpT s + 1) s t
def rT (s t : ST PEV) : ST PEV := rdN Zag (dpT s + 1) s t
section
variable {s t : ST PEV} {a b : Nat} (hs : TOk s a) (ht : TOk t b)
include hs ht
theorem Yk3 {q : List PEV} (hq : PP OPE q) : Zer Zag (iT s t) q = (Zer Zag s q && Zer Zag t q) := by
 unfold iT
 rw [Zw1 ordPE _ s t (Nat.lt_succ_self _) hs.o ht.o q hq]
 unfold opB
 cases Zer Zag s q <;> cases Zer Zag t q <;> rfl
theorem Ylh {q : List PEV} (hq : PP OPE q) : Zer Zag (rT s t) q = (Zer Zag s q && !Yb2 Zag t q) := Yf0 ordPE _ s t (Nat.lt_succ_self _) hs.o ht.o q hq
theorem Yaz : TOk (iT s t) a := by
 have w : WFT Zag PR (iT s t) := Zow Yju _ s t hs.w ht.w
 refine ⟨w, Yew ordPE (.inl rfl) _ s t (Nat.lt_succ_self _) hs.o ht.o hs.e ht.e, Nat.le_trans (Yla _ s t) (by have := hs.d; have := ht.d; omega), ?_⟩
 refine Nat.le_trans (Ygz ordPE (WFT.o w) hs.o fun q hq h => ?_) hs.k
 rw [Yk3 hs ht hq] at h
 exact (Bool.and_eq_true_iff.1 h).1
theorem Yfw : TOk (rT s t) a := by
 have w : WFT Zag PR (rT s t) := Zsp Yju _ s t hs.w ht.w
 refine ⟨w, Yfz ordPE _ s t (Nat.lt_succ_self _) hs.e, Nat.le_trans (Yli _ s t) hs.d, ?_⟩
 refine Nat.le_trans (Ygz ordPE (WFT.o w) hs.o fun q hq h => ?_) hs.k
 rw [Ylh hs ht hq] at h
 exact (Bool.and_eq_true_iff.1 h).1
end
mutual
theorem Ygy : ∀ (t : ST PEV), ∀ q ∈ Zgo t, q.length ≤ dpT t + 1
 | .mk m ch, q, hq => by
  unfold Zgo at hq
  unfold dpT
  rcases List.mem_append.1 hq with hq | hq
  ·obtain ⟨x, _, rfl⟩ := List.mem_map.1 hq
   simp
  ·exact Yaa ch q hq
theorem Yaa : ∀ (l : List (PEV × ST PEV)), ∀ q ∈ Zb5 l, q.length ≤ dpC l + 1
 | [], q, hq => by unfold Zb5 at hq; cases hq
 | y :: r, q, hq => by
  unfold Zb5 at hq
  unfold dpC
  rcases List.mem_append.1 hq with hq | hq
  ·obtain ⟨x, hx, rfl⟩ := List.mem_map.1 hq
   have := Ygy y.2 x hx
   simp only [List.length_cons]
   omega
  ·have := Yaa r q hq
   omega
end
theorem Yij {t : ST PEV} {n : Nat} (h : TOk t n) : Znr (Zlf t) := fun p hp => by
 obtain ⟨r, hr, rfl⟩ := List.mem_map.1 hp
 have := Ygy t r hr
 have := h.d
 rw [List.length_map]
 omega
theorem Ytg {t : ST PEV} {n : Nat} (h : TOk t n) : TOk (inT (Zlf t)) n := Zge (Yds h.w) (Yij h) (by rw [Zrx h.w]; exact h.k)
theorem Yem {A B : List (List EV)} (hA : SetOk A) (hB : SetOk B) (h : Zb7 (cw Zcn) A B = 0) : Ze7 (Ze7 eqE) A B = true :=
 (Znc fun a ha b hb => by
  rw [Zrm]
  exact Znc fun x hx y hy => Yqk ((hA.P a ha).2 x hx) ((hB.P b hb).2 y hy)).2 h
theorem Ygo {A B : List (List EV)} (hA : SetOk A) (hB : SetOk B) (h : ∀ q, PP OE q → Zaw (cw Zcn) A q = Zaw (cw Zcn) B q) : Zb7 (cw Zcn) A B = 0 := Zmb Zpt A B hA.P hB.P hA.S hB.S h
theorem Ydi {A B : List (List EV)} (hA : ∀ p ∈ A, ∀ x ∈ p, OE x) (hB : ∀ p ∈ B, ∀ x ∈ p, OE x) (h : ∀ q, PP OE q → Zaw (cw Zcn) A q = Zaw (cw Zcn) B q) : Ze7 (Ze7 eqE) (Zbj A) (Zbj B) = true :=
 Yem (Zde hA) (Zde hB) (Ygo (Zde hA) (Zde hB) fun q hq => by rw [Zgl hA hq, Zgl hB hq, h q hq])
theorem SetOk.oe {A : List (List EV)} (h : SetOk A) : ∀ p ∈ A, ∀ x ∈ p, OE x := fun p hp => (h.P p hp).2
theorem Zze {A B : List (List EV)} (hA : SetOk A) (hB : SetOk B) (h : ∀ q, PP OE q → Zaw (cw Zcn) A q = Zaw (cw Zcn) B q) : A.length = B.length ∧ Ze7 (Ze7 eqE) (Zbj A) (Zbj B) = true :=
 ⟨Zij (Ygo hA hB h), Ydi hA.oe hB.oe h⟩
theorem Zkh {A : List (List EV)} (hA : SetOk A) (f : List EV → Bool) : SetOk (A.filter f) := ⟨fun a ha => hA.P a (List.mem_filter.1 ha).1, Zq1 hA.S⟩
def PZ (p : PEV) : Prop := ∃ z, OPE (Zc2 z) ∧ p = Zc2 z
theorem Yte : OrdL Zag PZ := by
 have o : ∀ p, PZ p → OPE p := fun p h => by
  obtain ⟨z, h1, rfl⟩ := h
  exact h1
 exact ⟨fun a b d ha hb hd => ordPE.1 a b d (o a ha) (o b hb) (o d hd), fun a b ha hb => ordPE.2 a b (o a ha) (o b hb)⟩
theorem PZ.o {p : PEV} (h : PZ p) : OPE p := by
 obtain ⟨z, h1, rfl⟩ := h
 exact h1
theorem PR.z {p : PEV} (h : PR p) : PZ p := by
 obtain ⟨h1, h2, x, rfl⟩ := h
 exact ⟨x, h1, rfl⟩
theorem Ypw : ∀ (q' : List PEV), (∀ x ∈ q', PZ x) → ∃ q, Br q q' ∧ q.length = q'.length
 | [], _ => ⟨[], trivial, rfl⟩
 | p :: r, h => by
  obtain ⟨z, h1, h2⟩ := h p (by simp)
  obtain ⟨q, hq, hl⟩ := Ypw r fun x hx => h x (by simp [hx])
  exact ⟨z :: q, ⟨⟨z, h1, LikeE.refl z, h2⟩, hq⟩, by simp [hl]⟩
theorem Br.take : ∀ {q : List EV} {q' : List PEV} (n : Nat), Br q q' → Br (q.take n) (q'.take n)
 | [], [], n, _ => by simp; trivial
 | y :: q, p :: r, 0, h => trivial
 | y :: q, p :: r, n + 1, h => ⟨h.1, Br.take n h.2⟩
theorem Yj9 {s t : ST PEV} {a b : Nat} (hs : TOk s a) (ht : TOk t b) (h : ∀ q q', Br q q' → q ≠ [] → Zer Zag s q' = Zer Zag t q') : eqT Zj4 s t = true :=
 Yk1 (P := PZ) Yte (fun x y hx hy => Zym hx.o hy.o) _ s t (Nat.lt_succ_self _) (Zm1 (fun _ h => h.z) s hs.w) (Zm1 (fun _ h => h.z) t ht.w) hs.e ht.e fun q' hq' => by
  obtain ⟨q, hb, hl⟩ := Ypw q' hq'.2
  exact h q q' hb fun e => hq'.1 (List.eq_nil_of_length_eq_zero (by rw [← hl, e]; rfl))
theorem Yd9 {a b : List (List EV)} (ha : PsOk a) (hb : PsOk b) (la : Znr a) (lb : Znr b) : (Zlf (iT (inT a) (inT b))).length = ((Zbj a).filter fun p => Zaw (cw Zcn) (Zbj b) p).length ∧ Ze7 (Ze7 eqE) (Zbj (Zlf (iT (inT a) (inT b)))) (Zbj ((Zbj a).filter fun p => Zaw (cw Zcn) (Zbj b) p)) = true := by
 have ta := Zge ha la (Nat.le_refl _)
 have tb := Zge hb lb (Nat.le_refl _)
 have sa := Zde (PsOk.oe ha)
 have sb' := Zde (PsOk.oe hb)
 refine Zze (Zqd (Yaz ta tb).w) (Zkh sa _) fun q hq => ?_
 obtain ⟨q', hbr⟩ := Yhn q hq.2
 rw [Zwn (Yaz ta tb).w hbr hq.1, Yk3 ta tb (hbr.pp hq.1), Zue ha hbr hq.1, Zue hb hbr hq.1, Zlv Zpt sa.P (fun x y hx hy e => Zlu Zpt sb'.P hx hy e) hq, Zgl (PsOk.oe ha) hq, Zgl (PsOk.oe hb) hq]
theorem Yp4 {ps : List (List EV)} (h : PsOk ps) {q : List EV} {q' : List PEV} (hb : Br q q') (hq : q ≠ []) : Yb2 Zag (inT ps) q' = Zdn (Zaw (cw Zcn) ps) q := by
 rw [Zx5]
 unfold Zdn
 rw [hb.len]
 refine Zkc fun n hn => ?_
 exact Zue h (hb.take _) (Zxd (List.mem_range.1 hn))
theorem Yfu {ps : List (List EV)} (h : ∀ p ∈ ps, ∀ x ∈ p, OE x) {q : List EV} (hq : PP OE q) : Zdn (Zaw (cw Zcn) (Zbj ps)) q = Zdn (Zaw (cw Zcn) ps) q := by
 unfold Zdn
 exact Zkc fun n _ => Zgl h (Zrb hq n)
theorem Yid {a b : List (List EV)} (ha : PsOk a) (hb : PsOk b) (la : Znr a) (lb : Znr b) : (Zlf (rT (inT a) (inT b))).length = ((Zbj a).filter fun p => !Zdn (Zaw (cw Zcn) (Zbj b)) p).length ∧ Ze7 (Ze7 eqE) (Zbj (Zlf (rT (inT a) (inT b)))) (Zbj ((Zbj a).filter fun p => !Zdn (Zaw (cw Zcn) (Zbj b)) p)) = true := by
 have ta := Zge ha la (Nat.le_refl _)
 have tb := Zge hb lb (Nat.le_refl _)
 have sa := Zde (PsOk.oe ha)
 have sb' := Zde (PsOk.oe hb)
 refine Zze (Zqd (Yfw ta tb).w) (Zkh sa _) fun q hq => ?_
 obtain ⟨q', hbr⟩ := Yhn q hq.2
 rw [Zwn (Yfw ta tb).w hbr hq.1, Ylh ta tb (hbr.pp hq.1), Zue ha hbr hq.1, Yp4 hb hbr hq.1, Zlv Zpt sa.P (fun x y hx hy e => by rw [Yok Yru sb'.P hx hy e]) hq, Zgl (PsOk.oe ha) hq, Yfu (PsOk.oe hb) hq]
mutual
theorem Zuq : ∀ t : ST PEV, Yb8 t
 | .mk m ch => Yit m ch (Yis ch (Zup ch))
theorem Zup : ∀ (l : List (PEV × ST PEV)), ∀ y ∈ l, Yb8 y.2
 | z :: r, y, h => by
  rcases List.mem_cons.1 h with e | h
  ·rw [e]; exact Zuq z.2
  ·exact Zup r y h
end
def B168 (k : Nat) : Prop := k * 168 ≤ 140737488351232
theorem B168.le {a b : Nat} (h : a ≤ b) (hb : B168 b) : B168 a := Nat.le_trans (Nat.mul_le_mul_right 168 h) hb
theorem Yps (n : Nat) : ∀ (t : ST PEV) (d : Nat), dpT t < n → WFT Zag PR t → B168 (d + dpT t + 1) → DpT d t := by
 induction n with
 | zero => exact fun t d h => absurd h (Nat.not_lt_zero _)
 | succ n ih =>
  intro t d h0 h hb
  obtain ⟨m, ch⟩ := t
  obtain ⟨h1, h2, h3, h4⟩ := WFT_iff.1 h
  have h4 := WFC_iff.1 h4
  unfold DpT
  refine ⟨fun x hx => (h1 x hx).2.1, B168.le (by omega) hb, DpC_iff.2 fun y hy => ?_⟩
  have hm : dpT y.2 < dpT (ST.mk m ch) := Zel (t := ST.mk m ch) hy
  exact ⟨(h4 y hy).1.2.1, ih y.2 (d + 1) (by omega) (h4 y hy).2 (B168.le (by omega) hb)⟩
theorem Yhc : B168 837723144947 := by unfold B168; decide
theorem Ynp {P : Program} {X : Base} {N : Nat} {Q : Exit → Act → World → Prop} {opa : Array Oper} {rem : List Nat} {ks : List Itm} {s : Sta} {ι : Type} {s2 : ι → Sta} {d : Option Tmp} {op : Op} (hl : ∀ (Q : Exit → Act → World → Prop) (ks : List Itm), (∀ v, Run P X N Q ks (s2 v)) → Run P X N Q ks s) (h : ∀ v, Zbp P X N Q opa rem ks d op (s2 v)) : Zbp P X N Q opa rem ks d op s :=
 ⟨fun ty pos aft => ⟨fun hX a w hc => by
  have hx := (hl (fun _ a w => ∃ v, Conc X (s2 v) a w) [] (fun v => Zsq fun a w hc => ⟨v, hc⟩)).out hX a w hc
  obtain ⟨v, hv⟩ := hx
  exact ((h v).out ty pos aft).out hX a w hv⟩⟩
theorem Ynf (t : ST PEV) : (Zgo t).map (fun r => ipP ([] ++ r)) = (Zlf t).map pdP := by
 unfold Zlf
 rw [List.map_map]
 refine List.map_congr_left fun r _ => ?_
 show ipP r = pdP (r.map Zic)
 unfold ipP pdP
 rw [List.map_map]
 rfl
theorem Yec {t : ST PEV} {n : Nat} (h : TOk t n) (hn : n ≤ 1099511627776) :
  Zbr Tryz.prog 152 [.dat (.ptr (Zbn t)), .clo 153 [.ptr 1001 0]] [(1001, .box 38 [.own 1002]), (1002, .row 22 1 24 [])] (.dat (.tup []))
   [(1001, .box 38 [.own 0]), (0, .row 22 1 24 ((Zlf t).map pdP)), (1002, .dead)] := by
 have c := fun v => Zuq t v [] [] (Zj8 hn t h.sz) (by simp) (Yps _ t 0 (Nat.lt_succ_self _) h.w (B168.le (by have := h.d; omega) Yhc)) (by have := h.k; simp only [List.length_nil]; omega)
 rw [List.nil_append, Ynf] at c
 generalize Zbn t = dt at *
 generalize (Zlf t).map pdP = r at *
 rw [List.map_nil] at c
 refine Zar Tryz.func152 rfl Tryz.ntmps152 rfl (fun X => ?_)
 refine wk ?_
 refine Ynp (fun _ _ => Ybs (k := 5) (t := 5) (d := 600) rfl rfl rfl (by decide)) fun v => ?_
 refine Zb9 (thk [(1000, 600), (1001, 1001), (1002, 1002)] 200) rfl (by kernel_rfl) (c v) rfl ⟨rfl, rfl, rfl, trivial⟩ rfl (Zai rfl) rfl ?_
 refine wk ?_
 refine Zh3 () (fun j => if j = 0 then 200 else j) (tm := []) ?_ (Zef rfl)
 exact sb
theorem Zn6 {t : ST PEV} {n : Nat} (h : TOk t n) (hn : n ≤ 1099511627776) : PCall Tryz.prog 87 [.ptr (Zbn t)] (.sl 1 24 ((Zlf t).map pdP)) := by
 have c1 := Yec h hn
 generalize Zbn t = dt at *
 generalize (Zlf t).map pdP = r at *
 refine Zaa Tryz.func87 rfl Tryz.ntmps87 rfl (fun X => ?_)
 refine wk ?_
 refine Yra (fun _ _ => Zdd 3 0 100 22 1 24 rfl rfl rfl) ?_
 refine Zb9 (thk [(1001, 3), (1002, 100)] 200) rfl (by kernel_rfl) c1 rfl ⟨rfl, rfl, trivial⟩ rfl (Zai rfl) rfl ?_
 refine wk ?_
 refine Zba (fun _ => false) (fun k => k == 200) ?_
 exact wke
theorem Zi0 (ps : List (List EV)) (h : PsOk ps) (hn : ps.length ≤ 549755813888) : PCall Tryz.prog 77 [.sl 1 24 (ps.map pdP)] (.ptr (Zbn (inT ps))) := Ypb ps h.raw hn
section
variable {s t : ST PEV} {a b : Nat} (hs : TOk s a) (ht : TOk t b) (hn : a + b ≤ 1099511627776)
include hs ht hn
theorem Yne : PCall Tryz.prog 88 [.ptr (Zbn s), .ptr (Zbn t)] (.ptr (Zbn (iT s t))) := Ybt _ s t a b (Nat.lt_succ_self _) hs.sz ht.sz hn
theorem Yf1 : PCall Tryz.prog 107 [.ptr (Zbn s), .ptr (Zbn t)] (.ptr (Zbn (rT s t))) := Ybu _ s t a b (Nat.lt_succ_self _) hs.o ht.o hs.sz ht.sz hn
end
section
variable {a b : List (List EV)} (ha : PsOk a) (hb : PsOk b) (la : Znr a) (lb : Znr b) (na : a.length ≤ 549755813888) (nb : b.length ≤ 549755813888)
include ha hb la lb na nb
theorem Yhe : PCall Tryz.prog 34 [.sl 1 24 (a.map pdP), .sl 1 24 (b.map pdP)] (.sl 1 24 ((Zlf (iT (inT a) (inT b))).map pdP)) := by
 have ta := Zge ha la (Nat.le_refl _)
 have tb := Zge hb lb (Nat.le_refl _)
 have c1 := Zi0 a ha na
 have c2 := Zi0 b hb nb
 have c3 := Yne ta tb (by omega)
 have c4 := Zn6 (Yaz ta tb) (by omega)
 clear ta tb ha hb la lb na nb
 generalize (Zlf _).map pdP = d1 at *
 generalize Zbn (iT _ _) = d2 at *
 generalize Zbn (inT a) = d3 at *
 generalize Zbn (inT b) = d4 at *
 generalize a.map pdP = d5 at *
 generalize b.map pdP = d6 at *
 refine Zaa Tryz.func34 rfl Tryz.ntmps34 rfl (fun X => ?_)
 exact wke
theorem Yhf : PCall Tryz.prog 47 [.sl 1 24 (a.map pdP), .sl 1 24 (b.map pdP)] (.sl 1 24 ((Zlf (rT (inT a) (inT b))).map pdP)) := by
 have ta := Zge ha la (Nat.le_refl _)
 have tb := Zge hb lb (Nat.le_refl _)
 have c1 := Zi0 a ha na
 have c2 := Zi0 b hb nb
 have c3 := Yf1 ta tb (by omega)
 have c4 := Zn6 (Yfw ta tb) (by omega)
 clear ta tb ha hb la lb na nb
 generalize (Zlf _).map pdP = d1 at *
 generalize Zbn (rT _ _) = d2 at *
 generalize Zbn (inT a) = d3 at *
 generalize Zbn (inT b) = d4 at *
 generalize a.map pdP = d5 at *
 generalize b.map pdP = d6 at *
 refine Zaa Tryz.func47 rfl Tryz.ntmps47 rfl (fun X => ?_)
 exact wke
end
theorem Ztz {α : Type} (f : α → Bool) {s : List α} {k : Nat} {p : α} (h : s[k]? = some p) : (s.take (k + 1)).filter f = (s.take k).filter f ++ (if f p then [p] else []) := by
 rw [List.take_add_one, h, List.filter_append]
 show _ ++ List.filter f [p] = _
 rw [List.filter_cons]
 rfl
theorem Zyt {α : Type} (f : α → Bool) (s : List α) (k : Nat) : ((s.take k).filter f).length ≤ k := by
 have h1 := List.length_filter_le f (s.take k)
 have h2 := List.length_take_le k s
 omega
theorem Zvp (s : List (List EV)) (p : List EV) (hs : SetOk s) (hp : PP OE p) : PCall Tryz.prog 91 [.sl 1 24 (s.map pdP), pdP p] (.val (.bool (Zaw (cw Zcn) s p))) := by
 have c1 := Yfs s p hs.P hp hs.S
 rw [Zwl Zpt hs.P hp hs.S] at c1
 have g1 : decide ((0 : Int) < (((p.map pdE).length : Nat) : Int)) = true := decide_eq_true (by
  have : p.length ≠ 0 := fun h => hp.1 (List.eq_nil_of_length_eq_zero h)
  rw [List.length_map]; omega)
 unfold pdP at c1 ⊢
 generalize p.map pdE = dp at *
 generalize s.map (fun l => PD.sl 11 168 (l.map pdE)) = ds at *
 generalize ((Zbf (cw Zcn) s p : Nat) : Int) = loc at *
 have g2 : PD.val (.bool (decide ((0 : Int) < ((dp.length : Nat) : Int)))) = .val (.bool true) := by rw [g1]
 cases hh : Zaw (cw Zcn) s p with
 | true =>
  rw [hh] at c1
  refine Zaa Tryz.func91 rfl Tryz.ntmps91 rfl (fun X => ?_)
  exact wke
 | false =>
  rw [hh] at c1
  refine Zaa Tryz.func91 rfl Tryz.ntmps91 rfl (fun X => ?_)
  exact wke
theorem Ya8 (B : PD) (ask : List EV → Bool) (s : List (List EV)) (hn : s.length ≤ 1099511627776)
  (h : ∀ p ∈ s, Zbr Tryz.prog 90 [.dat (pdP p), .ptr 1000 0] [(1000, .box 38 [.dat B])] (.dat (.val (.bool (ask p)))) [(1000, .box 38 [.dat B])]) :
  Zbr Tryz.prog 89 [.dat (.sl 1 24 (s.map pdP)), .clo 90 [.ptr 1000 0]] [(1000, .box 38 [.dat B])] (.dat (.sl 1 24 ((s.filter ask).map pdP))) [(1000, .box 38 [.dat B])] := by
 have n1 : (s.map pdP).length = s.length := by simp
 have ga : ∀ {i : Nat} {x : List EV}, s[i]? = some x → (s.map pdP)[((i : Nat) : Int).toNat]? = some (pdP x) := fun h => by simp [h]
 generalize s.map pdP = da at *
 refine Zar Tryz.func89 rfl Tryz.ntmps89 rfl (fun X => ?_)
 refine wk ?_
 refine Zja 5 100 22 1 24 rfl rfl ?_
 refine Zap (ι := { k : Nat // k ≤ s.length })
  (fun k => [(1, .clo 90 [.ptr 1000 0]), (5, .own 100), (8, .dat (.sl 1 24 da)), (9, .dat (.val (.int .i64 ((da.length : Nat) : Int)))), (10, .dat (.val (.int .i64 (k.1 : Nat))))])
  (fun k => [(1000, .box 38 [.dat B]), (100, .row 22 1 24 (((s.take k.1).filter ask).map pdP))]) (fun k => s.length - k.1) ⟨0, Nat.zero_le _⟩ id ?_ ?_
 ·exact sb
 rintro ⟨k, hk⟩
 by_cases hlt : k < s.length
 ·have hc : decide ((k : Int) < ((da.length : Nat) : Int)) = true := decide_eq_true (by omega)
  obtain ⟨p, hp⟩ : ∃ p, s[k]? = some p := ⟨_, List.getElem?_eq_getElem hlt⟩
  have i1 := ga hp
  have c1 := h p (List.mem_of_getElem? hp)
  have e := Ztz ask hp
  have hl := Zyt ask s k
  unfold pdP at i1 c1
  cases ha : ask p with
  | true =>
   rw [ha] at c1 e
   rw [if_pos rfl] at e
   have hbt : ((((s.take k).filter ask).map pdP).length + [PD.sl 11 168 (p.map pdE)].length) * 24 ≤ 140737488351232 := by
    rw [List.length_map]; simp only [List.length_cons, List.length_nil]; omega
   have hbl : (((s.take k).filter ask).map pdP).length + [PD.sl 11 168 (p.map pdE)].length ≤ 140737488351232 := by omega
   have e2 : ((s.take k).filter ask).map pdP ++ [PD.sl 11 168 (p.map pdE)] = ((s.take (k + 1)).filter ask).map pdP := by rw [e, List.map_append]; rfl
   clear e
   generalize ((s.take k).filter ask).map pdP = r1 at *
   refine wk ?_
   refine Zfs (thk [(1000, 1000)] 200) rfl rfl (by kernel_rfl) c1 rfl ⟨rfl, trivial⟩ rfl (Zai rfl) rfl ?_
   refine wk ?_
   refine Zae ?_
   refine ⟨⟨k + 1, by omega⟩, (fun j => if j = 100 then 20 else j), by simp only; omega, ?_⟩
   exact sb
  | false =>
   rw [ha] at c1 e
   have e2 : ((s.take k).filter ask).map pdP = ((s.take (k + 1)).filter ask).map pdP := by rw [e]; simp
   refine wk ?_
   refine Zfs (thk [(1000, 1000)] 200) rfl rfl (by kernel_rfl) c1 rfl ⟨rfl, trivial⟩ rfl (Zai rfl) rfl ?_
   refine wk ?_
   refine Zae ?_
   refine ⟨⟨k + 1, by omega⟩, id, by simp only; omega, ?_⟩
   exact sb
 ·have hc : decide ((k : Int) < ((da.length : Nat) : Int)) = false := decide_eq_false (by omega)
  have hkk : s.take k = s := List.take_of_length_le (by omega)
  simp only [hkk]
  refine Zba (fun _ => false) (fun k => k == 100) ?_
  refine wk ?_
  refine Za0 () id (tm := [(4, .dat (.sl 1 24 ((s.filter ask).map pdP)))]) ?_ (Za6 rfl rfl)
  exact sb
theorem Zmz (B : PD) (ask : List EV → Bool) (s : List (List EV)) (hn : s.length ≤ 1099511627776)
  (h : ∀ p ∈ s, Zbr Tryz.prog 105 [.dat (pdP p), .ptr 1000 0] [(1000, .box 38 [.dat B])] (.dat (.val (.bool (ask p)))) [(1000, .box 38 [.dat B])]) :
  Zbr Tryz.prog 89 [.dat (.sl 1 24 (s.map pdP)), .clo 105 [.ptr 1000 0]] [(1000, .box 38 [.dat B])] (.dat (.sl 1 24 ((s.filter ask).map pdP))) [(1000, .box 38 [.dat B])] := by
 have n1 : (s.map pdP).length = s.length := by simp
 have ga : ∀ {i : Nat} {x : List EV}, s[i]? = some x → (s.map pdP)[((i : Nat) : Int).toNat]? = some (pdP x) := fun h => by simp [h]
 generalize s.map pdP = da at *
 refine Zar Tryz.func89 rfl Tryz.ntmps89 rfl (fun X => ?_)
 refine wk ?_
 refine Zja 5 100 22 1 24 rfl rfl ?_
 refine Zap (ι := { k : Nat // k ≤ s.length })
  (fun k => [(1, .clo 105 [.ptr 1000 0]), (5, .own 100), (8, .dat (.sl 1 24 da)), (9, .dat (.val (.int .i64 ((da.length : Nat) : Int)))), (10, .dat (.val (.int .i64 (k.1 : Nat))))])
  (fun k => [(1000, .box 38 [.dat B]), (100, .row 22 1 24 (((s.take k.1).filter ask).map pdP))]) (fun k => s.length - k.1) ⟨0, Nat.zero_le _⟩ id ?_ ?_
 ·exact sb
 rintro ⟨k, hk⟩
 by_cases hlt : k < s.length
 ·have hc : decide ((k : Int) < ((da.length : Nat) : Int)) = true := decide_eq_true (by omega)
  obtain ⟨p, hp⟩ : ∃ p, s[k]? = some p := ⟨_, List.getElem?_eq_getElem hlt⟩
  have i1 := ga hp
  have c1 := h p (List.mem_of_getElem? hp)
  have e := Ztz ask hp
  have hl := Zyt ask s k
  unfold pdP at i1 c1
  cases ha : ask p with
  | true =>
   rw [ha] at c1 e
   rw [if_pos rfl] at e
   have hbt : ((((s.take k).filter ask).map pdP).length + [PD.sl 11 168 (p.map pdE)].length) * 24 ≤ 140737488351232 := by
    rw [List.length_map]; simp only [List.length_cons, List.length_nil]; omega
   have hbl : (((s.take k).filter ask).map pdP).length + [PD.sl 11 168 (p.map pdE)].length ≤ 140737488351232 := by omega
   have e2 : ((s.take k).filter ask).map pdP ++ [PD.sl 11 168 (p.map pdE)] = ((s.take (k + 1)).filter ask).map pdP := by rw [e, List.map_append]; rfl
   clear e
   generalize ((s.take k).filter ask).map pdP = r1 at *
   refine wk ?_
   refine Zfs (thk [(1000, 1000)] 200) rfl rfl (by kernel_rfl) c1 rfl ⟨rfl, trivial⟩ rfl (Zai rfl) rfl ?_
   refine wk ?_
   refine Zae ?_
   refine ⟨⟨k + 1, by omega⟩, (fun j => if j = 100 then 20 else j), by simp only; omega, ?_⟩
   exact sb
  | false =>
   rw [ha] at c1 e
   have e2 : ((s.take k).filter ask).map pdP = ((s.take (k + 1)).filter ask).map pdP := by rw [e]; simp
   refine wk ?_
   refine Zfs (thk [(1000, 1000)] 200) rfl rfl (by kernel_rfl) c1 rfl ⟨rfl, trivial⟩ rfl (Zai rfl) rfl ?_
   refine wk ?_
   refine Zae ?_
   refine ⟨⟨k + 1, by omega⟩, id, by simp only; omega, ?_⟩
   exact sb
 ·have hc : decide ((k : Int) < ((da.length : Nat) : Int)) = false := decide_eq_false (by omega)
  have hkk : s.take k = s := List.take_of_length_le (by omega)
  simp only [hkk]
  refine Zba (fun _ => false) (fun k => k == 100) ?_
  refine wk ?_
  refine Za0 () id (tm := [(4, .dat (.sl 1 24 ((s.filter ask).map pdP)))]) ?_ (Za6 rfl rfl)
  exact sb
theorem Yrh (a b : List (List EV)) (ha : SetOk a) (hb : SetOk b) (hn : a.length ≤ 1099511627776) : PCall Tryz.prog 35 [.sl 1 24 (a.map pdP), .sl 1 24 (b.map pdP)] (.sl 1 24 ((a.filter fun p => Zaw (cw Zcn) b p).map pdP)) := by
 have c1 : ∀ p ∈ a, Zbr Tryz.prog 90 [.dat (pdP p), .ptr 1000 0] [(1000, .box 38 [.dat (.sl 1 24 (b.map pdP))])] (.dat (.val (.bool (Zaw (cw Zcn) b p)))) [(1000, .box 38 [.dat (.sl 1 24 (b.map pdP))])] := fun p hp => by
  have c0 := Zvp b p hb (ha.P p hp)
  generalize b.map pdP = db at *
  unfold pdP at c0 ⊢
  generalize p.map pdE = dp at *
  refine Zar Tryz.func90 rfl Tryz.ntmps90 rfl (fun X => ?_)
  refine wk ?_
  refine Za0 () id (tm := [(3, .dat (.val (.bool (Zaw (cw Zcn) b p))))]) ?_ (Za6 rfl rfl)
  exact sb
 have c2 := Ya8 _ (fun p => Zaw (cw Zcn) b p) a hn c1
 clear c1
 generalize a.map pdP = da at *
 generalize b.map pdP = db at *
 generalize (a.filter fun p => Zaw (cw Zcn) b p).map pdP = dr at *
 refine Zaa Tryz.func35 rfl Tryz.ntmps35 rfl (fun X => ?_)
 refine wk ?_
 refine Zb9 (thk [(1000, 3)] 200) rfl (by kernel_rfl) c2 rfl ⟨rfl, trivial⟩ rfl (Zai rfl) rfl ?_
 exact wke
theorem Yja (A B : List (List EV)) : PCall Tryz.prog 99 [.sl 1 24 (A.map pdP), .sl 1 24 (B.map pdP)] (.val (.bool (Ze7 (Ze7 eqE) A B))) := by
 refine Zay fun hfit => ?_
 have b1 := (hfit (.sl 1 24 (A.map pdP)) (by simp)).sl.2.1
 clear hfit
 have n1 : (A.map pdP).length = A.length := by simp
 have n2 : (B.map pdP).length = B.length := by simp
 have ga : ∀ {i : Nat} {x : List EV}, A[i]? = some x → (A.map pdP)[((i : Nat) : Int).toNat]? = some (pdP x) := fun h => by simp [h]
 have gb : ∀ {i : Nat} {x : List EV}, B[i]? = some x → (B.map pdP)[((i : Nat) : Int).toNat]? = some (pdP x) := fun h => by simp [h]
 generalize A.map pdP = da at *
 generalize B.map pdP = db at *
 by_cases hl : A.length = B.length
 rotate_left
 ·have g1 : decide (((da.length : Nat) : Int) ≠ ((db.length : Nat) : Int)) = true := decide_eq_true (by omega)
  rw [Znd hl]
  refine Zaa Tryz.func99 rfl Tryz.ntmps99 rfl (fun X => ?_)
  exact wke
 have g1 : decide (((da.length : Nat) : Int) ≠ ((db.length : Nat) : Int)) = false := decide_eq_false (by omega)
 refine Zaa Tryz.func99 rfl Tryz.ntmps99 rfl (fun X => ?_)
 refine wk ?_
 refine Zap (ι := { k : Nat // k ≤ A.length ∧ ∀ (i : Nat) (x y : List EV), i < k → A[i]? = some x → B[i]? = some y → Ze7 eqE x y = true })
  (fun k => [(0, .dat (.sl 1 24 da)), (1, .dat (.sl 1 24 db)), (12, .dat (.val (.int .i64 ((da.length : Nat) : Int)))), (13, .dat (.val (.int .i64 (k.1 : Nat))))]) (fun _ => []) (fun k => A.length - k.1) ⟨0, Nat.zero_le _, fun i _ _ h => absurd h (Nat.not_lt_zero i)⟩ id ?_ ?_
 ·exact sb
 rintro ⟨k, hk, hall⟩
 by_cases hlt : k < A.length
 ·have hc : decide ((k : Int) < ((da.length : Nat) : Int)) = true := decide_eq_true (by omega)
  obtain ⟨x, hx⟩ : ∃ p, A[k]? = some p := ⟨_, List.getElem?_eq_getElem hlt⟩
  obtain ⟨y, hy⟩ : ∃ p, B[k]? = some p := ⟨_, List.getElem?_eq_getElem (by omega)⟩
  have i1 := ga hx
  have i2 := gb hy
  have c1 := Zs1 x y
  unfold pdP at i1 i2 c1
  cases he : Ze7 eqE x y with
  | true =>
   rw [he] at c1
   refine wk ?_
   refine Zae ?_
   refine ⟨⟨k + 1, by omega, fun i u v hi hu hv => ?_⟩, id, by simp only; omega, ?_⟩
   ·by_cases e : i = k
    ·subst e
     rw [hx] at hu; rw [hy] at hv
     cases hu; cases hv
     exact he
    ·exact hall i u v (by omega) hu hv
   exact sb
  | false =>
   rw [he] at c1
   rw [Zlo hx hy he]
   exact wke
 ·have hc : decide ((k : Int) < ((da.length : Nat) : Int)) = false := decide_eq_false (by omega)
  rw [Znb hl fun i x y hx hy => hall i x y (by have := (List.getElem?_eq_some_iff.1 hx).1; omega) hx hy]
  exact wke
theorem Zma (ps : List (List EV)) (hn : ps.length ≤ 549755813888) (hO : ∀ p ∈ ps, ∀ x ∈ p, OE x) : PCall Tryz.prog 25 [.sl 1 24 (ps.map pdP)] (.sl 1 24 ((Zbj ps).map pdP)) := Yoq ps hn hO fun k => Zde fun p hp => hO p (List.mem_of_mem_take hp)
theorem Yic (A B : List (List EV)) (hA : ∀ p ∈ A, ∀ x ∈ p, OE x) (hB : ∀ p ∈ B, ∀ x ∈ p, OE x) (la : A.length ≤ 549755813888) (lb : B.length ≤ 549755813888) : PCall Tryz.prog 39 [.sl 1 24 (A.map pdP), .sl 1 24 (B.map pdP)] (.val (.bool (Ze7 (Ze7 eqE) (Zbj A) (Zbj B)))) := by
 have c1 := Zma A la hA
 have c2 := Zma B lb hB
 have c3 := Yja (Zbj A) (Zbj B)
 generalize (Zbj A).map pdP = d1 at *
 generalize (Zbj B).map pdP = d2 at *
 generalize A.map pdP = d3 at *
 generalize B.map pdP = d4 at *
 refine Zaa Tryz.func39 rfl Tryz.ntmps39 rfl (fun X => ?_)
 exact wke
theorem Yen (A B : List (List EV)) (hA : ∀ p ∈ A, ∀ x ∈ p, OE x) (hB : ∀ p ∈ B, ∀ x ∈ p, OE x) (la : A.length ≤ 549755813888) (lb : B.length ≤ 549755813888) (h : A.length = B.length ∧ Ze7 (Ze7 eqE) (Zbj A) (Zbj B) = true) : PCall Tryz.prog 33 [.sl 1 24 (A.map pdP), .sl 1 24 (B.map pdP)] (.val (.bool true)) := by
 have c1 := Yic A B hA hB la lb
 rw [h.2] at c1
 have g1 : decide ((((A.map pdP).length : Nat) : Int) = (((B.map pdP).length : Nat) : Int)) = true := decide_eq_true (by rw [List.length_map, List.length_map, h.1])
 generalize A.map pdP = d3 at *
 generalize B.map pdP = d4 at *
 refine Zaa Tryz.func33 rfl Tryz.ntmps33 rfl (fun X => ?_)
 exact wke
theorem Yks (A B : List (List EV)) (la : A.length ≤ 549755813888) (lb : B.length ≤ 549755813888) : PCall Tryz.prog 32 [.sl 1 24 (A.map pdP), .sl 1 24 (B.map pdP)] (.sl 1 24 ((A ++ B).map pdP)) := by
 have n1 : (A.map pdP).length = A.length := by simp
 have n2 : (B.map pdP).length = B.length := by simp
 rw [List.map_append]
 generalize A.map pdP = d3 at *
 generalize B.map pdP = d4 at *
 have b1 : (([] : List PD).length + d3.length) * 24 ≤ 140737488351232 := Nat.le_trans (Nat.mul_le_mul_right 24 (show ([] : List PD).length + d3.length ≤ 1099511627776 by rw [n1]; simp only [List.length_nil]; omega)) (by decide)
 have b3 : ((([] : List PD) ++ d3).length + d4.length) * 24 ≤ 140737488351232 := Nat.le_trans (Nat.mul_le_mul_right 24 (show (([] : List PD) ++ d3).length + d4.length ≤ 1099511627776 by rw [List.nil_append]; omega)) (by decide)
 have b2 : ([] : List PD).length + d3.length ≤ 140737488351232 := by rw [n1]; simp only [List.length_nil]; omega
 have b4 : (([] : List PD) ++ d3).length + d4.length ≤ 140737488351232 := by rw [List.nil_append]; omega
 clear n1 n2 la lb
 refine Zaa Tryz.func32 rfl Tryz.ntmps32 rfl (fun X => ?_)
 repeat (first | (show Zbp _ _ _ _ _ _ _ _ (.assign _) _; refine Zad rfl rfl ?_) | (show Zbp _ _ _ _ _ _ _ _ (.move _) _; refine Zak rfl rfl ?_) | (show Zbp _ _ _ _ _ _ _ _ (.buildSlice _ _ _) _; refine Zgv rfl rfl (by kernel_rfl) rfl rfl rfl rfl rfl ?_) | refine Zao rfl ?_ | refine Zah ?_ | refine Zab ?_ | refine Zac ?_ | refine Zbw ?_)
 refine Zly rfl rfl rfl rfl rfl (by kernel_rfl) rfl rfl b1 b2 ?_
 refine Zao rfl ?_
 refine Zak rfl rfl ?_
 refine Zao rfl ?_
 refine Zly rfl rfl rfl rfl rfl (by kernel_rfl) rfl rfl b3 b4 ?_
 clear b1 b2 b3 b4
 refine wk ?_
 refine Zba (fun _ => false) (fun k => k == 9) ?_
 exact wke
theorem Yls {x : EV} (h : Fits (pdE x)) : KL (Zc2 x) := by
 intro fl hfl
 have h1 : Fits (.sl 6 88 (Zb6 x.l)) := Fits.aggAt h 3 rfl
 have h2 := h1.sl.1
 rw [Zbu] at h2
 unfold Zc2 at hfl
 split at hfl
 ·injection hfl with hfl
  subst hfl
  rw [Zlr]
  omega
 ·split at hfl
  ·cases hfl
  ·split at hfl <;> cases hfl
theorem Znj {ps : List (List EV)} (h : Fits (.sl 1 24 (ps.map pdP))) (ho : (ps.all fun p => p.all Zzt) = true) : ∀ p ∈ ps, ∀ x ∈ p, OPE (Zc2 x) ∧ KL (Zc2 x) := fun p hp x hx => by
 have h1 : Fits (.sl 11 168 (p.map pdE)) := h.sl.2.2 (pdP p) (List.mem_map.2 ⟨p, hp, rfl⟩)
 have h2 : Fits (pdE x) := h1.sl.2.2 (pdE x) (List.mem_map.2 ⟨x, hx, rfl⟩)
 exact ⟨Ylt (Yhg h2) (List.all_eq_true.1 (List.all_eq_true.1 ho p hp) x hx), Yls h2⟩
theorem Ycg {β : Type} {f : List β → Bool} {q : List β} (h : ∀ i, i < q.length → f (q.take (i + 1)) = false) : Zdn f q = false := by
 unfold Zdn
 rw [List.any_eq_false]
 intro n hn
 rw [h n (List.mem_range.1 hn)]
 simp
theorem Yaj {β : Type} {f : List β → Bool} {q : List β} {i : Nat} (hi : i < q.length) (h : f (q.take (i + 1)) = true) : Zdn f q = true := by
 unfold Zdn
 rw [List.any_eq_true]
 exact ⟨i, List.mem_range.2 hi, h⟩
theorem Yn2 {n : Nat} (h : n * 168 ≤ 140737488351232) : n ≤ 837723144947 := by
 have := (Nat.le_div_iff_mul_le (by decide : 0 < 168)).2 h
 exact Nat.le_trans this (by decide)
theorem Zk1 {ps : List (List EV)} (h : Fits (.sl 1 24 (ps.map pdP))) : Znr ps := fun p hp => by
 have h1 : Fits (.sl 11 168 (p.map pdE)) := h.sl.2.2 (pdP p) (List.mem_map.2 ⟨p, hp, rfl⟩)
 have h2 := h1.sl.1
 rw [List.length_map] at h2
 exact Yn2 h2
theorem Yce {α : Type} {f : α → Bool} {a b : List α} (h : (a ++ b).all f = true) : a.all f = true ∧ b.all f = true := by
 rw [List.all_append, Bool.and_eq_true] at h
 exact h
theorem Zzc {n : Nat} (h : ¬ 2147483647 < n) : n ≤ 549755813888 := by omega
end Go.Proofs.YtgmahieoiifpfaaGreat
