/- Part 9 of what the proof rests on. -/
import Derived.Maps.AppendAt
import Derived.Deep.AppendLies
import Derived.Deep.Draws
import Derived.RegionTactic
import Derived.Deep.QuietTactic
import Derived.BigQuiet
import Derived.Lib.Overlaps
import Derived.Lib.AppendZerosOnto
import Derived.Shelf.Spec.SlicesInsert
import Derived.Test.YtgmahieoiifpfaaGreatSaR1
import Derived.Test.YtgmahieoiifpfaaGreatSaR4
import Derived.Test.YtgmahieoiifpfaaGreatSaR5
import Derived.Test.YtgmahieoiifpfaaGreatSaR6
import Derived.Test.YtgmahieoiifpfaaGreatSaR7
import Derived.Test.YtgmahieoiifpfaaGreatSaR8
set_option linter.unusedSimpArgs false
set_option linter.unusedVariables false
set_option maxHeartbeats 16000000
set_option maxRecDepth 100000
section
namespace Go.Proofs.YtgmahieoiifpfaaGreat
theorem Yip {α : Type} {ks : List ByteArray} {l : List α} {k : ByteArray} {x y : α} (h : y ∈ Zol ks l k x) : y = x ∨ y ∈ l := by
 unfold Zol at h
 simp only [List.mem_append, List.mem_cons, List.not_mem_nil, or_false] at h
 rcases h with (h | h) | h
 ·exact .inr (List.mem_of_mem_take h)
 ·exact .inl h
 ·exact .inr (List.mem_of_mem_drop h)
theorem Yg4 {m x y : GV} {k : ByteArray} (h : y ∈ (Zme m k x).l) : y = x ∨ y ∈ m.l := by
 unfold Zme at h
 exact Yip h
theorem Zp0 : ∀ (ks : List ByteArray) (l : List GV) (acc y : GV), y ∈ (Zbx ks l acc).l → (∃ z ∈ l, y = Zat z) ∨ y ∈ acc.l
 | [], l, acc, y, h => by simp only [Zbx] at h; exact .inr h
 | _ :: _, [], acc, y, h => by simp only [Zbx] at h; exact .inr h
 | k :: ks, x :: l, acc, y, h => by
  simp only [Zbx] at h
  rcases Zp0 ks l _ y h with ⟨z, hz, e⟩ | h
  ·exact .inl ⟨z, by simp [hz], e⟩
  ·rcases Yg4 h with e | h
   ·exact .inl ⟨x, by simp, e⟩
   ·exact .inr h
theorem Zn8 : ∀ (ks : List ByteArray) (l : List GV) (acc : GV), Zjf acc → ks.Nodup → ∀ k, Yg9 (Zbx ks l acc) k = ((Zc0 (ks.zip l) k).map Zat).or (Yg9 acc k)
 | [], l, acc, h, _, k => by simp [Zbx, Zc0]
 | _ :: _, [], acc, h, _, k => by simp [Zbx, Zc0]
 | a :: ks, x :: l, acc, h, hd, k => by
  simp only [List.nodup_cons] at hd
  simp only [Zbx]
  rw [Zn8 ks l _ (Zgp h _ _) hd.2, Zoa h]
  simp only [List.zip_cons_cons, Zc0]
  by_cases e : a = k
  ·have : Zc0 (ks.zip l) k = none := Zey fun y hy hyk => hd.1 (by rw [e, ← hyk]; exact (List.of_mem_zip (a := y.1) (b := y.2) hy).1)
   rw [if_pos e, if_pos e, this]; simp
  ·rw [if_neg e, if_neg e]
theorem Zyu {α : Type} {f : α → α} : ∀ (a : List (ByteArray × α)) (k : ByteArray), (∀ e ∈ a, f e.2 = e.2) → (Zc0 a k).map f = Zc0 a k
 | [], k, _ => rfl
 | e :: r, k, h => by
  simp only [Zc0]
  split
  ·simp [h e (by simp)]
  ·exact Zyu r k fun x hx => h x (by simp [hx])
theorem Yam {g : GV} (hg : Zjf g) (h : ∀ y ∈ g.l, Zat y = y) : Zbx g.keys g.l gMap = g := by
 refine Zpa (Zgs _ _ _ Zbg).1 hg fun k => ?_
 obtain ⟨ks, l, rfl, hi, hl⟩ := hg
 simp only [GV.keys, GV.l] at h ⊢
 rw [Zn8 _ _ _ Zbg (Zlw hi)]
 rw [Zyu _ _ (fun e he => h e.2 (List.of_mem_zip (a := e.1) (b := e.2) he).2)]
 rw [Zn9, Option.or_none]
 rfl
theorem Zpz : ∀ (l : List GV), (∀ y ∈ l, Zat (Zat y) = Zat y) → Zcp (Zcp l) = Zcp l
 | [], _ => by simp [Zcp]
 | x :: l, h => by
  simp only [Zcp]
  rw [h x (by simp), Zpz l fun y hy => h y (by simp [hy])]
theorem Zc1 : ∀ x : GV, Zat (Zat x) = Zat x
 | .mk k n f s ks l => by
  have ih : ∀ y ∈ l, Zat (Zat y) = Zat y := fun y hy => Zc1 y
  by_cases h1 : k = 1
  ·subst h1; by_cases hn : n = 0 <;> simp [Zat, hn]
  by_cases h2 : k = 2
  ·subst h2; simp [Zat]
  by_cases h3 : k = 3
  ·subst h3; simp [Zat]
  by_cases h4 : k = 4
  ·subst h4; simp [Zat]
  by_cases h5 : k = 5
  ·subst h5; simp [Zat, Zpz l ih]
  by_cases h6 : k = 6
  ·subst h6
   have e : Zat (.mk 6 n f s ks l) = Zbx ks l gMap := by simp [Zat, gMap]
   rw [e]
   have hp := (Zgs ks l gMap Zbg).1
   have hfix := Yam hp (fun y hy => by
    rcases Zp0 ks l gMap y hy with ⟨z, hz, rfl⟩ | hy
    ·exact ih z hz
    ·simp [gMap, GV.l] at hy)
   obtain ⟨ks', l', e', _, _⟩ := hp
   rw [e'] at hfix ⊢
   simpa [Zat, gMap, GV.keys, GV.l] using hfix
  ·simp [Zat, h1, h2, h3, h4, h5, h6, Zdi]
termination_by x => SizeOf.sizeOf x
decreasing_by
 have := List.sizeOf_lt_of_mem hy
 simp; omega
end Go.Proofs.YtgmahieoiifpfaaGreat
end
namespace Go.Proofs.YtgmahieoiifpfaaGreat
open Go.RowKit
theorem Yfk (l : List GV) : PCall Tryz.prog 94 [.sl 6 88 (Zb6 l)] (.val (.bool (Zmo l))) := by
 intro w F vs hF hv
 unfold Reps at hv
 obtain ⟨v, r', rfl, hx, hr⟩ := hv
 unfold Reps at hr
 subst hr
 unfold Rep at hx
 rw [Zbu] at hx
 obtain ⟨a, c, rfl, h1, h2, h3, h4⟩ := hx
 refine (Zw5 l w a c h2 ?_).mono ?_
 ·rcases h4 with h4 | ⟨b, o, hb, rfl, hr⟩
  ·left
   cases l with
   | nil => rfl
   | cons _ _ => unfold Zb6 at h4; cases h4
  ·exact .inr ⟨b, o, ⟨Nat.zero_le _, hF b hb⟩, rfl, IsVs.keep (fun _ _ => rfl) (fun b hb => ⟨Nat.zero_le _, hF b hb⟩) l b o hb (Zk8 l hr)⟩
 ·rintro e w' ⟨he, hb⟩
  exact ⟨_, he, hb, by unfold Rep; exact ⟨rfl, trivial⟩⟩
section
variable {P : Program} {X : Base} {N : Nat} {Q : Exit → Act → World → Prop} {ops : Array Oper} {rem : List Nat} {ks : List Itm} {s s' : Sta}
end
theorem Zi3 (x : EV) : PCall Tryz.prog 73 [pdE x] (.val (.int .i64 (rkE x))) := by
 obtain ⟨k, s, ks, l, v, n⟩ := x
 unfold pdE rkE
 simp only
 refine Zaa Tryz.func73 rfl Tryz.ntmps73 rfl (fun X => ?_)
 by_cases h1 : k = 1
 ·have g1 : decide (k = 1) = true := decide_eq_true h1
  rw [if_pos h1]
  subst h1
  exact wke
 have g1 : decide (k = 1) = false := decide_eq_false h1
 rw [if_neg h1]
 by_cases h2 : k = 2
 ·have g2 : decide (k = 2) = true := decide_eq_true h2
  rw [if_pos h2]
  subst h2
  exact wke
 have g2 : decide (k = 2) = false := decide_eq_false h2
 rw [if_neg h2]
 by_cases h3 : k = 3
 ·have g3 : decide (k = 3) = true := decide_eq_true h3
  rw [if_pos h3]
  subst h3
  exact wke
 have g3 : decide (k = 3) = false := decide_eq_false h3
 rw [if_neg h3]
 exact wke
theorem Zzb {x : EV} {i : Nat} {k : ByteArray} {v : GV} (h1 : x.keys[i]? = some k) (h2 : x.l[i]? = some v) : (kvE x)[i]? = some (k, v) := by
 unfold kvE
 rw [List.getElem?_zip_eq_some]
 exact ⟨h1, h2⟩
theorem Zr9 (x : EV) : (kvE x).length = min x.keys.length x.l.length := by unfold kvE; exact List.length_zip
theorem Yfq {ks : List ByteArray} {j : Nat} {x : ByteArray} (h : ks[j]? = some x) : (pdS ks)[((j : Nat) : Int).toNat]? = some (.val (.string x)) := Zfp h
theorem Zzw {l : List GV} {j : Nat} {x : GV} (h : l[j]? = some x) : (Zb6 l)[((j : Nat) : Int).toNat]? = some (qV x) := by
 rw [show qV x = pdV x from (Zfw x).symm]
 exact Zff h
theorem Ycr (x y : EV) : PCall Tryz.prog 229 [pdE x, pdE y] (.val (.int .i64 (Zb7 Zn1 (kvE x) (kvE y)))) := by
 refine Zay fun hfit => ?_
 have b1 := (Fits.aggAt (hfit (pdE x) (by simp)) 2 (d := .sl 1 16 (pdS x.keys)) rfl).sl.2.1
 rw [Zb3] at b1
 clear hfit
 have n1 := Zb3 x.keys
 have n2 := Zbu x.l
 have n3 := Zb3 y.keys
 have n4 := Zbu y.l
 have m1 := Zr9 x
 have m2 := Zr9 y
 have c0 := Ziz (((kvE x).length : Nat) : Int) (((kvE y).length : Nat) : Int)
 have ez1 : ((min (pdS x.keys).length (Zb6 x.l).length : Nat) : Int) = (((kvE x).length : Nat) : Int) := by omega
 have ez2 : ((min (pdS y.keys).length (Zb6 y.l).length : Nat) : Int) = (((kvE y).length : Nat) : Int) := by omega
 rw [← ez1, ← ez2] at c0
 refine Zaa Tryz.func229 rfl Tryz.ntmps229 rfl (fun X => ?_)
 (try unfold pdE at *)
 refine wk ?_
 refine Zap (ι := { j : Nat // (j ≤ (kvE x).length ∧ j ≤ (kvE y).length) ∧ ∀ i f g, i < j → (kvE x)[i]? = some f → (kvE y)[i]? = some g → Zn1 f g = 0 })
  (fun j => [(2, .ptr 2 0), (3, .ptr 3 0), (5, .dat (.val (.int .i64 (j.1 : Nat))))])
  (fun j => [(2, .box 29 (Zaq (pdE x))), (3, .box 29 (Zaq (pdE y)))]) (fun j => (kvE x).length - j.1) ⟨0, ⟨Nat.zero_le _, Nat.zero_le _⟩, fun i _ _ h => absurd h (Nat.not_lt_zero i)⟩ id ?_ ?_
 ·exact sb
 rintro ⟨j, ⟨hj, hj'⟩, hall⟩
 have hend : j = (kvE x).length ∨ j = (kvE y).length → Zb7 Zn1 (kvE x) (kvE y) = Zbv (((kvE x).length : Nat) : Int) (((kvE y).length : Nat) : Int) := fun h => Zth hj hj' hall h
 rw [← ez1, ← ez2] at hend
 by_cases h1 : j < x.keys.length
 rotate_left
 ·have g1 : decide ((j : Int) < (((pdS x.keys).length : Nat) : Int)) = false := decide_eq_false (by omega)
  rw [hend (by omega)]
  (try unfold pdE at *)
  exact wke
 have g1 : decide ((j : Int) < (((pdS x.keys).length : Nat) : Int)) = true := decide_eq_true (by omega)
 by_cases h2 : j < x.l.length
 rotate_left
 ·have g2 : decide ((j : Int) < (((Zb6 x.l).length : Nat) : Int)) = false := decide_eq_false (by omega)
  rw [hend (by omega)]
  (try unfold pdE at *)
  exact wke
 have g2 : decide ((j : Int) < (((Zb6 x.l).length : Nat) : Int)) = true := decide_eq_true (by omega)
 by_cases h3 : j < y.keys.length
 rotate_left
 ·have g3 : decide ((j : Int) < (((pdS y.keys).length : Nat) : Int)) = false := decide_eq_false (by omega)
  rw [hend (by omega)]
  (try unfold pdE at *)
  exact wke
 have g3 : decide ((j : Int) < (((pdS y.keys).length : Nat) : Int)) = true := decide_eq_true (by omega)
 by_cases h4 : j < y.l.length
 rotate_left
 ·have g4 : decide ((j : Int) < (((Zb6 y.l).length : Nat) : Int)) = false := decide_eq_false (by omega)
  rw [hend (by omega)]
  (try unfold pdE at *)
  exact wke
 have g4 : decide ((j : Int) < (((Zb6 y.l).length : Nat) : Int)) = true := decide_eq_true (by omega)
 obtain ⟨f1, hf1⟩ : ∃ u, x.keys[j]? = some u := ⟨_, List.getElem?_eq_getElem h1⟩
 obtain ⟨f2, hf2⟩ : ∃ u, x.l[j]? = some u := ⟨_, List.getElem?_eq_getElem h2⟩
 obtain ⟨u1, hu1⟩ : ∃ u, y.keys[j]? = some u := ⟨_, List.getElem?_eq_getElem h3⟩
 obtain ⟨u2, hu2⟩ : ∃ u, y.l[j]? = some u := ⟨_, List.getElem?_eq_getElem h4⟩
 have i1 := Yfq hf1
 have i2 := Zzw hf2
 have i3 := Yfq hu1
 have i4 := Zzw hu2
 have c1 := Zpi f1 u1
 have c2 := Zq0 f2 u2
 have hx := Zzb hf1 hf2
 have hy := Zzb hu1 hu2
 by_cases hs : Zda f1 u1 = 0
 ·have g5 : decide (Zda f1 u1 ≠ 0) = false := decide_eq_false (by simp [hs])
  by_cases hv : Zdo (Zat f2) (Zat u2) = 0
  ·have g6 : decide (Zdo (Zat f2) (Zat u2) ≠ 0) = false := decide_eq_false (by simp [hv])
   (try unfold pdE at *)
   refine wk ?_
   refine Zae ?_
   refine ⟨⟨j + 1, ⟨by omega, by omega⟩, fun i f g hi hf hg => ?_⟩, id, by simp only; omega, ?_⟩
   ·by_cases e : i = j
    ·subst e
     rw [hx] at hf; rw [hy] at hg
     cases hf; cases hg
     unfold Zn1
     rw [Zce hs, hv]
    ·exact hall i f g (by omega) hf hg
   exact sb
  ·have g6 : decide (Zdo (Zat f2) (Zat u2) ≠ 0) = true := decide_eq_true hv
   have e : Zn1 (f1, f2) (u1, u2) = Zdo (Zat f2) (Zat u2) := by unfold Zn1; rw [Zce hs]
   rw [Zm3 hall hx hy (by rw [e]; exact hv), e]
   (try unfold pdE at *)
   exact wke
 ·have g5 : decide (Zda f1 u1 ≠ 0) = true := decide_eq_true hs
  have e : Zn1 (f1, f2) (u1, u2) = Zda f1 u1 := by unfold Zn1; rw [Zee hs]
  rw [Zm3 hall hx hy (by rw [e]; exact hs), e]
  (try unfold pdE at *)
  exact wke
theorem Yh8 (x y : EV) : PCall Tryz.prog 74 [pdE x, pdE y] (.val (.bool (Ze7 Ykz (kvE x) (kvE y)))) := by
 refine Zay fun hfit => ?_
 have b1 := (Fits.aggAt (hfit (pdE x) (by simp)) 2 (d := .sl 1 16 (pdS x.keys)) rfl).sl.2.1
 rw [Zb3] at b1
 clear hfit
 have n1 := Zb3 x.keys
 have n2 := Zbu x.l
 have n3 := Zb3 y.keys
 have n4 := Zbu y.l
 have m1 := Zr9 x
 have m2 := Zr9 y
 obtain ⟨z1, ez1⟩ : ∃ z, z = ((min (pdS x.keys).length (Zb6 x.l).length : Nat) : Int) := ⟨_, rfl⟩
 obtain ⟨z2, ez2⟩ : ∃ z, z = ((min (pdS y.keys).length (Zb6 y.l).length : Nat) : Int) := ⟨_, rfl⟩
 have hz1 : z1 = (((kvE x).length : Nat) : Int) := by omega
 have hz2 : z2 = (((kvE y).length : Nat) : Int) := by omega
 refine Zaa Tryz.func74 rfl Tryz.ntmps74 rfl (fun X => ?_)
 by_cases hl : (kvE x).length = (kvE y).length
 rotate_left
 ·have g1 : decide (((min (pdS x.keys).length (Zb6 x.l).length : Nat) : Int) ≠ ((min (pdS y.keys).length (Zb6 y.l).length : Nat) : Int)) = true := decide_eq_true (by omega)
  rw [Znd hl]
  (try unfold pdE at *)
  exact wke
 have g1 : decide (((min (pdS x.keys).length (Zb6 x.l).length : Nat) : Int) ≠ ((min (pdS y.keys).length (Zb6 y.l).length : Nat) : Int)) = false := decide_eq_false (by omega)
 (try unfold pdE at *)
 refine wk ?_
 refine Zap (ι := { j : Nat // j ≤ (kvE x).length ∧ ∀ i f g, i < j → (kvE x)[i]? = some f → (kvE y)[i]? = some g → Ykz f g = true })
  (fun j => [(2, .ptr 2 0), (3, .ptr 3 0), (5, .dat (.val (.int .i64 z1))), (7, .dat (.val (.int .i64 (j.1 : Nat))))])
  (fun j => [(2, .box 29 (Zaq (pdE x))), (3, .box 29 (Zaq (pdE y)))]) (fun j => (kvE x).length - j.1) ⟨0, Nat.zero_le _, fun i _ _ h => absurd h (Nat.not_lt_zero i)⟩ id ?_ ?_
 ·exact sb
  all_goals first | rfl | (rw [ez1])
 rintro ⟨j, hj, hall⟩
 by_cases hlt : j < (kvE x).length
 rotate_left
 ·have g2 : decide ((j : Int) < z1) = false := decide_eq_false (by omega)
  rw [Znb hl fun i f g hf hg => hall i f g (by have := (List.getElem?_eq_some_iff.1 hf).1; omega) hf hg]
  (try unfold pdE at *)
  exact wke
 have g2 : decide ((j : Int) < z1) = true := decide_eq_true (by omega)
 obtain ⟨f1, hf1⟩ : ∃ u, x.keys[j]? = some u := ⟨_, List.getElem?_eq_getElem (by omega)⟩
 obtain ⟨f2, hf2⟩ : ∃ u, x.l[j]? = some u := ⟨_, List.getElem?_eq_getElem (by omega)⟩
 obtain ⟨u1, hu1⟩ : ∃ u, y.keys[j]? = some u := ⟨_, List.getElem?_eq_getElem (by omega)⟩
 obtain ⟨u2, hu2⟩ : ∃ u, y.l[j]? = some u := ⟨_, List.getElem?_eq_getElem (by omega)⟩
 have i1 := Yfq hf1
 have i2 := Zzw hf2
 have i3 := Yfq hu1
 have i4 := Zzw hu2
 have c2 := Zyp f2 u2
 have hx := Zzb hf1 hf2
 have hy := Zzb hu1 hu2
 by_cases hs : f1 = u1
 ·have g3 : (!decide (f1 = u1)) = false := by simp [hs]
  have g3' : decide (f1 ≠ u1) = false := by simp [hs]
  cases hv : eqP (Zat f2) (Zat u2) with
  | true =>
   rw [hv] at c2
   (try unfold pdE at *)
   refine wk ?_
   refine Zae ?_
   refine ⟨⟨j + 1, by omega, fun i f g hi hf hg => ?_⟩, id, by simp only; omega, ?_⟩
   ·by_cases e : i = j
    ·subst e
     rw [hx] at hf; rw [hy] at hg
     cases hf; cases hg
     unfold Ykz
     simp only
     rw [hv]; simp [hs]
    ·exact hall i f g (by omega) hf hg
   exact sb
  | false =>
   rw [hv] at c2
   rw [Zlo hx hy (by unfold Ykz; simp only; rw [hv]; simp)]
   (try unfold pdE at *)
   exact wke
 ·have g3 : (!decide (f1 = u1)) = true := by simp [hs]
  have g3' : decide (f1 ≠ u1) = true := by simp [hs]
  rw [Zlo hx hy (by unfold Ykz; simp [hs])]
  (try unfold pdE at *)
  exact wke
theorem Yan (x y : EV) : PCall Tryz.prog 201 [pdE x, pdE y] (.val (.int .i64 (Zcn x y))) := by
 have c1 := Zi3 x
 have c2 := Zi3 y
 have c3 := Ziz (rkE x) (rkE y)
 have c4 := Ycr x y
 have c5 := Zq0 x.v y.v
 have c6 := Ziz x.n y.n
 have c7 := Zpi x.s y.s
 unfold Zcn Yck
 unfold pdE at *
 unfold qV at c5
 by_cases h0 : rkE x = rkE y
 rotate_left
 ·have h0' : Zbv (rkE x) (rkE y) ≠ 0 := fun h => h0 (cmpI_zero.1 h)
  have g0 : decide (Zbv (rkE x) (rkE y) ≠ 0) = true := decide_eq_true h0'
  rw [Zee h0']
  refine Zaa Tryz.func201 rfl Tryz.ntmps201 rfl (fun X => ?_)
  exact wke
 have h0' : Zbv (rkE x) (rkE y) = 0 := cmpI_zero.2 h0
 have g0 : decide (Zbv (rkE x) (rkE y) ≠ 0) = false := decide_eq_false (by simp [h0'])
 rw [Zce h0']
 by_cases h1 : rkE x = 1
 ·have g1 : decide (rkE x = 1) = true := decide_eq_true h1
  rw [if_pos h1]
  refine Zaa Tryz.func201 rfl Tryz.ntmps201 rfl (fun X => ?_)
  exact wke
 have g1 : decide (rkE x = 1) = false := decide_eq_false h1
 rw [if_neg h1]
 by_cases h2 : rkE x = 2
 ·have g2 : decide (rkE x = 2) = true := decide_eq_true h2
  rw [if_pos h2]
  refine Zaa Tryz.func201 rfl Tryz.ntmps201 rfl (fun X => ?_)
  exact wke
 have g2 : decide (rkE x = 2) = false := decide_eq_false h2
 rw [if_neg h2]
 by_cases h3 : rkE x = 3
 ·have g3 : decide (rkE x = 3) = true := decide_eq_true h3
  rw [if_pos h3]
  refine Zaa Tryz.func201 rfl Tryz.ntmps201 rfl (fun X => ?_)
  exact wke
 have g3 : decide (rkE x = 3) = false := decide_eq_false h3
 rw [if_neg h3]
 refine Zaa Tryz.func201 rfl Tryz.ntmps201 rfl (fun X => ?_)
 exact wke
theorem Ydf (x y : EV) : PCall Tryz.prog 20 [pdE x, pdE y] (.val (.bool (eqE x y))) := by
 have c1 := Zi3 x
 have c2 := Zi3 y
 have c4 := Yh8 x y
 have c5 := Zyp x.v y.v
 unfold eqE
 unfold pdE at *
 unfold qV at c5
 by_cases h0 : rkE x = rkE y
 rotate_left
 ·have g0 : decide (rkE x ≠ rkE y) = true := decide_eq_true h0
  rw [if_pos h0]
  refine Zaa Tryz.func20 rfl Tryz.ntmps20 rfl (fun X => ?_)
  exact wke
 have g0 : decide (rkE x ≠ rkE y) = false := decide_eq_false (by simp [h0])
 rw [if_neg (by simp [h0])]
 by_cases h1 : rkE x = 1
 ·have g1 : decide (rkE x = 1) = true := decide_eq_true h1
  rw [if_pos h1]
  refine Zaa Tryz.func20 rfl Tryz.ntmps20 rfl (fun X => ?_)
  exact wke
 have g1 : decide (rkE x = 1) = false := decide_eq_false h1
 rw [if_neg h1]
 by_cases h2 : rkE x = 2
 ·have g2 : decide (rkE x = 2) = true := decide_eq_true h2
  rw [if_pos h2]
  refine Zaa Tryz.func20 rfl Tryz.ntmps20 rfl (fun X => ?_)
  exact wke
 have g2 : decide (rkE x = 2) = false := decide_eq_false h2
 rw [if_neg h2]
 by_cases h3 : rkE x = 3
 ·have g3 : decide (rkE x = 3) = true := decide_eq_true h3
  rw [if_pos h3]
  refine Zaa Tryz.func20 rfl Tryz.ntmps20 rfl (fun X => ?_)
  exact wke
 have g3 : decide (rkE x = 3) = false := decide_eq_false h3
 rw [if_neg h3]
 refine Zaa Tryz.func20 rfl Tryz.ntmps20 rfl (fun X => ?_)
 exact wke
theorem Ykh (x : EV) : PCall Tryz.prog 130 [pdE x] (Yb3 (flE x)) := by
 refine Zay fun hfit => ?_
 have b0 := (Fits.aggAt (hfit (pdE x) (by simp)) 3 (d := .sl 6 88 (Zb6 x.l)) rfl).sl
 have b1 := b0.1
 have b2 := (Fits.aggAt (hfit (pdE x) (by simp)) 2 (d := .sl 1 16 (pdS x.keys)) rfl).sl.2.1
 clear hfit b0
 have n1 := Zbu x.l
 have n2 := Zb3 x.keys
 rw [n1] at b1
 rw [n2] at b2
 have n3 := Zlr x
 refine Zaa Tryz.func130 rfl Tryz.ntmps130 rfl (fun X => ?_)
 unfold pdE
 refine wk ?_
 refine Zap (ι := { k : Nat // k ≤ x.keys.length })
  (fun k => [(1, .ptr 1 0), (3, .own 100), (8, .dat (.sl 1 16 (pdS x.keys))), (9, .dat (.val (.int .i64 ((pdS x.keys).length : Nat)))), (10, .dat (.val (.int .i64 (k.1 : Nat))))])
  (fun k => [(1, .box 29 (Zaq (pdE x))), (100, .row 213 2 32 (((flE x).take k.1).map Zea))]) (fun k => x.keys.length - k.1) ⟨0, Nat.zero_le _⟩ (fun j => if j = 100 then 6 else j) ?_ ?_
 ·exact sb
 rintro ⟨k, hk⟩
 by_cases hlt : k < x.keys.length
 ·have hc : decide ((k : Int) < (((pdS x.keys).length : Nat) : Int)) = true := decide_eq_true (by omega)
  obtain ⟨key, hkey⟩ : ∃ y, x.keys[k]? = some y := ⟨_, List.getElem?_eq_getElem hlt⟩
  have i1 : (pdS x.keys)[((k : Nat) : Int).toNat]? = some (.val (.string key)) := Zfp hkey
  by_cases hl : k < x.l.length
  ·have hc2 : decide ((k : Int) < (((Zb6 x.l).length : Nat) : Int)) = true := decide_eq_true (by omega)
   obtain ⟨y, hy⟩ : ∃ y, x.l[k]? = some y := ⟨_, List.getElem?_eq_getElem hl⟩
   have i2 : (Zb6 x.l)[((k : Nat) : Int).toNat]? = some (qV y) := (Zff hy).trans (by rw [Zsn])
   have c := Zvr y
   have hf := Yqs x hkey hy
   have e : ((flE x).take (k + 1)).map Zea = ((flE x).take k).map Zea ++ [.agg [.val (.string key), dvV (Za2 y)]] := by simp [List.take_add_one, hf, Zea]
   have hbt : ((((flE x).take k).map Zea).length + [PD.agg [.val (.string key), dvV (Za2 y)]].length) * 32 ≤ 140737488351232 := by simp; omega
   have hbl : (((flE x).take k).map Zea).length + [PD.agg [.val (.string key), dvV (Za2 y)]].length ≤ 140737488351232 := by simp; omega
   generalize ((flE x).take k).map Zea = da at *
   unfold qV at *
   unfold pdE
   refine wk ?_
   refine Zae ?_
   refine ⟨⟨k + 1, by omega⟩, (fun j => if j = 100 then 30 else j), by simp only; omega, ?_⟩
   rw [e]
   exact sb
  ·have hc2 : decide ((k : Int) < (((Zb6 x.l).length : Nat) : Int)) = false := decide_eq_false (by omega)
   have e : (flE x).take (k + 1) = (flE x).take k := by rw [List.take_of_length_le (by omega), List.take_of_length_le (by omega)]
   unfold pdE
   refine wk ?_
   refine Zae ?_
   refine ⟨⟨k + 1, by omega⟩, id, by simp only; omega, ?_⟩
   simp only [e]
   exact sb
 ·have hc : decide ((k : Int) < (((pdS x.keys).length : Nat) : Int)) = false := decide_eq_false (by omega)
  have hkk : (flE x).take k = flE x := List.take_of_length_le (by omega)
  simp only [hkk]
  unfold pdE
  refine Zba (fun _ => false) (fun k => k == 100) ?_
  unfold Yb3
  exact wke
theorem Ykf (x : EV) : PCall Tryz.prog 67 [pdE x] (Za3 (Zc2 x)) := by
 have c1 := Ykh x
 have c2 := Zvr x.v
 unfold Zc2
 unfold qV pdE at *
 unfold Yb3 at c1
 refine Zaa Tryz.func67 rfl Tryz.ntmps67 rfl (fun X => ?_)
 by_cases h1 : x.kind = 1
 ·have g1 : decide (x.kind = 1) = true := decide_eq_true h1
  rw [if_pos h1]
  refine wk ?_
  refine Zba (fun _ => false) (fun k => k == 3) ?_
  exact wke
 have g1 : decide (x.kind = 1) = false := decide_eq_false h1
 rw [if_neg h1]
 by_cases h2 : x.kind = 2
 ·have g2 : decide (x.kind = 2) = true := decide_eq_true h2
  rw [if_pos h2]
  refine wk ?_
  refine Zba (fun _ => false) (fun k => k == 4) ?_
  exact wke
 have g2 : decide (x.kind = 2) = false := decide_eq_false h2
 rw [if_neg h2]
 by_cases h3 : x.kind = 3
 ·have g3 : decide (x.kind = 3) = true := decide_eq_true h3
  rw [if_pos h3]
  refine wk ?_
  refine Zba (fun _ => false) (fun k => k == 5) ?_
  exact wke
 have g3 : decide (x.kind = 3) = false := decide_eq_false h3
 rw [if_neg h3]
 refine wk ?_
 refine Zba (fun _ => false) (fun k => k == 6) ?_
 exact wke
theorem Zxv (x : EV) : PCall Tryz.prog 92 [pdE x] (pdE (Za1 x)) := by
 have c1 := Zo7 (x.l.take (min x.keys.length x.l.length)) fun y _ => Zrh y
 have c2 := Zrh x.v
 refine Zay fun hfit => ?_
 have b0 := (Fits.aggAt (hfit (pdE x) (by simp)) 3 (d := .sl 6 88 (Zb6 x.l)) rfl).sl
 have b1 := b0.1
 have b2 := (Fits.aggAt (hfit (pdE x) (by simp)) 2 (d := .sl 1 16 (pdS x.keys)) rfl).sl.2.1
 clear hfit b0
 have n1 := Zbu x.l
 have n2 := Zb3 x.keys
 have e1 : Zb6 (x.l.take (min x.keys.length x.l.length)) = ((Zb6 x.l).take (min (pdS x.keys).length (Zb6 x.l).length)).drop 0 := by rw [n1, n2, Zg6, Zg6]; simp [List.map_take]
 have e2 : pdS (x.keys.take (min x.keys.length x.l.length)) = [] ++ ((pdS x.keys).take (min (pdS x.keys).length (Zb6 x.l).length)).drop 0 := by rw [n1, n2]; simp [pdS, List.map_take]
 have m1 : min (pdS x.keys).length (Zb6 x.l).length ≤ (pdS x.keys).length := Nat.min_le_left _ _
 have m2 : min (pdS x.keys).length (Zb6 x.l).length ≤ (Zb6 x.l).length := Nat.min_le_right _ _
 have m3 : (([] : List PD).length + (((pdS x.keys).take (min (pdS x.keys).length (Zb6 x.l).length)).drop 0).length) * 16 ≤ 140737488351232 := by simp; omega
 have m4 : ([] : List PD).length + (((pdS x.keys).take (min (pdS x.keys).length (Zb6 x.l).length)).drop 0).length ≤ 140737488351232 := by simp; omega
 rw [e1] at c1
 unfold Za1
 by_cases h1 : x.kind = 1
 ·have g1 : decide (x.kind = 1) = true := decide_eq_true h1
  rw [if_pos h1]
  unfold qV pdE at *
  simp only [e2, Zdi, GV.kind, GV.n, GV.f, GV.s, GV.keys, GV.l]
  generalize Zcp (x.l.take (min x.keys.length x.l.length)) = cl at *
  clear e1 e2
  refine Zaa Tryz.func92 rfl Tryz.ntmps92 rfl (fun X => ?_)
  refine wk ?_
  refine Zba (fun _ => false) (fun k => k == 20) ?_
  exact wke
 have g1 : decide (x.kind = 1) = false := decide_eq_false h1
 rw [if_neg h1]
 clear e1 e2 m1 m2 m3 m4 c1 b1 b2
 generalize Zat x.v = y at *
 unfold qV pdE at *
 refine Zaa Tryz.func92 rfl Tryz.ntmps92 rfl (fun X => ?_)
 by_cases h2 : x.kind = 2
 ·have g2 : decide (x.kind = 2) = true := decide_eq_true h2
  rw [if_pos h2]
  exact wke
 have g2 : decide (x.kind = 2) = false := decide_eq_false h2
 rw [if_neg h2]
 by_cases h3 : x.kind = 3
 ·have g3 : decide (x.kind = 3) = true := decide_eq_true h3
  rw [if_pos h3]
  exact wke
 have g3 : decide (x.kind = 3) = false := decide_eq_false h3
 rw [if_neg h3]
 exact wke
theorem Ykg (x : EV) : PCall Tryz.prog 67 [pdE x] (Za3 (Zc2 x)) := Ykf x
theorem Zxu (x : EV) : PCall Tryz.prog 92 [pdE x] (pdE (Za1 x)) := Zxv x
section
variable {P : Program} {X : Base} {N : Nat} {Q : Exit → Act → World → Prop} {s s' : Sta}
end
def Ykc : List ByteArray → Bool
 | a :: b :: r => decide (Zda a b < 0) && Ykc (b :: r)
 | _ => true
theorem Ygs : ∀ {ks : List ByteArray} {i : Nat} {a b : ByteArray}, ks[i]? = some a → ks[i + 1]? = some b → 0 ≤ Zda a b → Ykc ks = false
 | [], _, _, _, h, _, _ => by simp at h
 | [_], i, a, b, _, h, _ => by simp at h
 | x :: y :: r, 0, a, b, h, h', hc => by
  simp at h h'
  subst h h'
  unfold Ykc
  rw [decide_eq_false (by omega)]; rfl
 | x :: y :: r, i + 1, a, b, h, h', hc => by
  unfold Ykc
  rw [Ygs (ks := y :: r) (i := i) (by simpa using h) (by simpa using h') hc, Bool.and_false]
theorem Zz4 : ∀ {ks : List ByteArray}, (∀ (i : Nat) (a b : ByteArray), ks[i]? = some a → ks[i + 1]? = some b → Zda a b < 0) → Ykc ks = true
 | [], _ => rfl
 | [_], _ => rfl
 | x :: y :: r, h => by
  unfold Ykc
  rw [decide_eq_true (h 0 x y rfl rfl), Zz4 (ks := y :: r) (fun i a b ha hb => h (i + 1) a b (by simpa using ha) (by simpa using hb))]; rfl
theorem Zv8 (x : EV) : (Za1 x).keys.length ≤ x.keys.length := by
 unfold Za1
 split
 ·simp only [List.length_take]; omega
 ·split
  ·simp
  ·split <;> simp
theorem Zwy (x : EV) : PCall Tryz.prog 95 [pdE x] (.val (.bool (Ykc (Za1 x).keys))) := by
 refine Zay fun hfit => ?_
 have b1 := (Fits.aggAt (hfit (pdE x) (by simp)) 2 (d := .sl 1 16 (pdS x.keys)) rfl).sl.2.1
 rw [Zb3] at b1
 clear hfit
 have b2 := Zv8 x
 have c1 := Zxu x
 generalize Za1 x = y at *
 have n1 := Zb3 y.keys
 refine Zaa Tryz.func95 rfl Tryz.ntmps95 rfl (fun X => ?_)
 (try unfold pdE at *)
 refine wk ?_
 refine Zap (ι := { j : Nat // (j ≤ y.keys.length) ∧ ∀ (i : Nat) (a b : ByteArray), i < j → y.keys[i]? = some a → y.keys[i + 1]? = some b → Zda a b < 0 })
  (fun j => [(1, .ptr 1 0), (3, .dat (.val (.int .i64 ((j.1 + 1 : Nat) : Int))))])
  (fun j => [(1, .box 29 (Zaq (pdE y)))]) (fun j => y.keys.length - j.1) ⟨0, Nat.zero_le _, fun i _ _ h => absurd h (Nat.not_lt_zero i)⟩ id ?_ ?_
 ·exact sb
 rintro ⟨j, hj, hall⟩
 by_cases hlt : j + 1 < y.keys.length
 rotate_left
 ·have g1 : decide (((j + 1 : Nat) : Int) < (((pdS y.keys).length : Nat) : Int)) = false := decide_eq_false (by omega)
  rw [Zz4 fun i a b ha hb => hall i a b (by have := (List.getElem?_eq_some_iff.1 hb).1; omega) ha hb]
  (try unfold pdE at *)
  exact wke
 have g1 : decide (((j + 1 : Nat) : Int) < (((pdS y.keys).length : Nat) : Int)) = true := decide_eq_true (by omega)
 obtain ⟨a, ha⟩ : ∃ u, y.keys[j]? = some u := ⟨_, List.getElem?_eq_getElem (by omega)⟩
 obtain ⟨b, hb⟩ : ∃ u, y.keys[j + 1]? = some u := ⟨_, List.getElem?_eq_getElem hlt⟩
 have i1 : (pdS y.keys)[(((j + 1 : Nat) : Int) - 1).toNat]? = some (.val (.string a)) := by
  rw [show ((((j + 1 : Nat) : Int) - 1).toNat) = j by omega]; exact Zfp ha
 have i2 := Yfq hb
 have c2 := Zpi a b
 by_cases hs : Zda a b < 0
 ·have g2 : decide (0 ≤ Zda a b) = false := decide_eq_false (by omega)
  (try unfold pdE at *)
  refine wk ?_
  refine Zae ?_
  refine ⟨⟨j + 1, by omega, fun i a' b' hi ha' hb' => ?_⟩, id, by simp only; omega, ?_⟩
  ·by_cases e : i = j
   ·subst e
    rw [ha] at ha'; rw [hb] at hb'
    cases ha'; cases hb'
    exact hs
   ·exact hall i a' b' (by omega) ha' hb'
  exact sb
 ·have g2 : decide (0 ≤ Zda a b) = true := decide_eq_true (by omega)
  rw [Ygs ha hb (by omega)]
  (try unfold pdE at *)
  exact wke
def Zzt (x : EV) : Bool := Zjg (Za1 x).v && (Zmo (Za1 x).l && Ykc (Za1 (Za1 x)).keys)
theorem Yfj (x : EV) : PCall Tryz.prog 37 [pdE x] (.val (.bool (Zzt x))) := by
 unfold Zzt
 have c0 := Zxu x
 generalize Za1 x = y at *
 have c1 := Yrv y.v
 have c2 := Yfk y.l
 have c3 := Zwy y
 unfold pdE at *
 unfold qV at c1
 generalize Zjg y.v = b1 at *
 generalize Zmo y.l = b2 at *
 generalize Ykc (Za1 y).keys = b3 at *
 refine Zaa Tryz.func37 rfl Tryz.ntmps37 rfl (fun X => ?_)
 cases b1 <;> cases b2
 all_goals
  exact wke
theorem Ylt {x : EV} (h : JPE (Zc2 x)) (ho : Zzt x = true) : OPE (Zc2 x) := by
 unfold Zzt at ho
 simp only [Bool.and_eq_true] at ho
 exact Ypv h ho.1 ho.2.1
def pdP (l : List EV) : PD := .sl 11 168 (l.map pdE)
def dvP (l : List PEV) : PD := .sl 4 32 (l.map Za3)
theorem Zqs (ps : List (List EV)) : PCall Tryz.prog 21 [.sl 1 24 (ps.map pdP)] (.val (.bool (ps.all fun p => p.all Zzt))) := by
 refine Zay fun hfit => ?_
 have b1 := (hfit (.sl 1 24 (ps.map pdP)) (by simp)).sl.2.1
 have b3 : ∀ p ∈ ps, p.length ≤ 140737488351232 := fun p hp => by
  have h := (hfit (.sl 1 24 (ps.map pdP)) (by simp)).sl.2.2 (pdP p) (List.mem_map.2 ⟨p, hp, rfl⟩)
  unfold pdP at h
  simpa using h.sl.2.1
 clear hfit
 have n1 : (ps.map pdP).length = ps.length := by simp
 have ga : ∀ {i : Nat} {p : List EV}, ps[i]? = some p → (ps.map pdP)[((i : Nat) : Int).toNat]? = some (pdP p) := fun h => by simp [h]
 rw [n1] at b1
 generalize ps.map pdP = da at *
 refine Zaa Tryz.func21 rfl Tryz.ntmps21 rfl (fun X => ?_)
 refine wk ?_
 refine Zap (ι := { j : Nat // j ≤ ps.length ∧ ∀ i p, i < j → ps[i]? = some p → p.all Zzt = true })
  (fun j => [(7, .dat (.sl 1 24 da)), (8, .dat (.val (.int .i64 ((da.length : Nat) : Int)))), (9, .dat (.val (.int .i64 (j.1 : Nat))))])
  (fun _ => []) (fun j => ps.length - j.1) ⟨0, Nat.zero_le _, fun i _ h => absurd h (Nat.not_lt_zero i)⟩ id ?_ ?_
 ·exact sb
 rintro ⟨j, hj, hall⟩
 by_cases hlt : j < ps.length
 rotate_left
 ·have g1 : decide ((j : Int) < ((da.length : Nat) : Int)) = false := decide_eq_false (by omega)
  have e : (ps.all fun p => p.all Zzt) = true := List.all_eq_true.2 fun p hp => by
   obtain ⟨i, hi⟩ := List.getElem?_of_mem hp
   exact hall i p (by have := (List.getElem?_eq_some_iff.1 hi).1; omega) hi
  rw [e]
  exact wke
 have g1 : decide ((j : Int) < ((da.length : Nat) : Int)) = true := decide_eq_true (by omega)
 obtain ⟨p, hp⟩ : ∃ p, ps[j]? = some p := ⟨_, List.getElem?_eq_getElem hlt⟩
 have i1 := ga hp
 have b2 := b3 p (List.mem_of_getElem? hp)
 have n2 : (p.map pdE).length = p.length := by simp
 have gb : ∀ {i : Nat} {x : EV}, p[i]? = some x → (p.map pdE)[((i : Nat) : Int).toNat]? = some (pdE x) := fun h => by simp [h]
 unfold pdP at i1
 refine wk ?_
 refine Zap (ι := { q : Nat // q ≤ p.length ∧ ∀ i x, i < q → p[i]? = some x → Zzt x = true })
  (fun q => [(7, .dat (.sl 1 24 da)), (8, .dat (.val (.int .i64 ((da.length : Nat) : Int)))), (9, .dat (.val (.int .i64 (j : Nat)))), (13, .dat (.sl 11 168 (p.map pdE))), (14, .dat (.val (.int .i64 (((p.map pdE).length : Nat) : Int)))), (15, .dat (.val (.int .i64 (q.1 : Nat))))])
  (fun _ => []) (fun q => p.length - q.1) ⟨0, Nat.zero_le _, fun i _ h => absurd h (Nat.not_lt_zero i)⟩ id ?_ ?_
 ·exact sb
 rintro ⟨q, hq, hallq⟩
 by_cases hltq : q < p.length
 rotate_left
 ·have g2 : decide ((q : Int) < (((p.map pdE).length : Nat) : Int)) = false := decide_eq_false (by omega)
  have e : p.all Zzt = true := List.all_eq_true.2 fun x hx => by
   obtain ⟨i, hi⟩ := List.getElem?_of_mem hx
   exact hallq i x (by have := (List.getElem?_eq_some_iff.1 hi).1; omega) hi
  refine wk ?_
  refine Zae ?_
  refine ⟨⟨j + 1, by omega, fun i p' hi hp' => ?_⟩, id, by simp only; omega, ?_⟩
  ·by_cases e' : i = j
   ·subst e'
    rw [hp] at hp'; cases hp'
    exact e
   ·exact hall i p' (by omega) hp'
  exact sb
 have g2 : decide ((q : Int) < (((p.map pdE).length : Nat) : Int)) = true := decide_eq_true (by omega)
 obtain ⟨x, hx⟩ : ∃ x, p[q]? = some x := ⟨_, List.getElem?_eq_getElem hltq⟩
 have i2 := gb hx
 have c1 := Yfj x
 cases ho : Zzt x with
 | true =>
  rw [ho] at c1
  (try unfold pdE at *)
  refine wk ?_
  refine Zae ?_
  refine ⟨⟨q + 1, by omega, fun i x' hi hx' => ?_⟩, id, by simp only; omega, ?_⟩
  ·by_cases e' : i = q
   ·subst e'
    rw [hx] at hx'; cases hx'
    exact ho
   ·exact hallq i x' (by omega) hx'
  exact sb
 | false =>
  rw [ho] at c1
  have e : (ps.all fun p => p.all Zzt) = false := List.all_eq_false.2 ⟨p, List.mem_of_getElem? hp, by
   simp only [Bool.not_eq_true]
   exact List.all_eq_false.2 ⟨x, List.mem_of_getElem? hx, by simp [ho]⟩⟩
  rw [e]
  (try unfold pdE at *)
  exact wke
theorem Zc3 (p : PEV) : ∃ d0 d1 d2 d3, Za3 p = .agg [d0, d1, d2, d3] := by cases p <;> exact ⟨_, _, _, _, rfl⟩
theorem Yki (l : List EV) : PCall Tryz.prog 98 [pdP l] (dvP (l.map Zc2)) := by
 refine Zay fun hfit => ?_
 unfold pdP dvP at *
 have b0 := (hfit (.sl 11 168 (l.map pdE)) (by simp)).sl
 clear hfit
 have n1 : (l.map pdE).length = l.length := by simp
 have b1 := b0.1
 have b2 := b0.2.1
 rw [n1] at b1 b2
 clear b0
 have ga : ∀ {i : Nat} {x : EV}, l[i]? = some x → (l.map pdE)[((i : Nat) : Int).toNat]? = some (pdE x) := fun h => by simp [h]
 refine Zaa Tryz.func98 rfl Tryz.ntmps98 rfl (fun X => ?_)
 refine wk ?_
 refine Zap (ι := { k : Nat // k ≤ l.length })
  (fun k => [(3, .own 100), (7, .dat (.sl 11 168 (l.map pdE))), (8, .dat (.val (.int .i64 (((l.map pdE).length : Nat) : Int)))), (9, .dat (.val (.int .i64 (k.1 : Nat))))])
  (fun k => [(100, .row 99 4 32 ((l.take k.1).map fun x => Za3 (Zc2 x)))]) (fun k => l.length - k.1) ⟨0, Nat.zero_le _⟩ (fun j => if j = 100 then 6 else j) ?_ ?_
 ·exact sb
 rintro ⟨k, hk⟩
 by_cases hlt : k < l.length
 ·have hc : decide ((k : Int) < (((l.map pdE).length : Nat) : Int)) = true := decide_eq_true (by omega)
  obtain ⟨x, hx⟩ : ∃ x, l[k]? = some x := ⟨_, List.getElem?_eq_getElem hlt⟩
  have hi := ga hx
  have c1 := Ykg x
  obtain ⟨d0, d1, d2, d3, e⟩ := Zc3 (Zc2 x)
  rw [e] at c1
  have hbt : (((l.take k).map fun x => Za3 (Zc2 x)).length + [PD.agg [d0, d1, d2, d3]].length) * 32 ≤ 140737488351232 := by simp; omega
  have hbl : ((l.take k).map fun x => Za3 (Zc2 x)).length + [PD.agg [d0, d1, d2, d3]].length ≤ 140737488351232 := by simp; omega
  have e2 : ((l.take k).map fun x => Za3 (Zc2 x)) ++ [PD.agg [d0, d1, d2, d3]] = (l.take (k + 1)).map fun x => Za3 (Zc2 x) := by simp [List.take_add_one, hx, e]
  generalize ((l.take k).map fun x => Za3 (Zc2 x)) = r1 at *
  unfold pdE at hi c1
  refine wk ?_
  refine Zae ?_
  refine ⟨⟨k + 1, by omega⟩, (fun j => if j = 100 then 17 else j), by simp only; omega, ?_⟩
  exact sb
 ·have hc : decide ((k : Int) < (((l.map pdE).length : Nat) : Int)) = false := decide_eq_false (by omega)
  have hkk : l.take k = l := List.take_of_length_le (by omega)
  simp only [hkk]
  refine Zba (fun _ => false) (fun k => k == 100) ?_
  have e : PD.sl 4 32 (l.map fun x => Za3 (Zc2 x)) = .sl 4 32 ((l.map Zc2).map Za3) := by rw [List.map_map]; rfl
  exact wke
end Go.Proofs.YtgmahieoiifpfaaGreat
section
namespace Go.Proofs.YtgmahieoiifpfaaGreat
section
variable {α : Type} (c : α → α → Int)
def Zds : List α → α → List α
 | [], p => [p]
 | m :: r, p => if c m p < 0 then m :: Zds r p else if c m p = 0 then m :: r else p :: m :: r
def Zaw (l : List α) (p : α) : Bool := l.any fun m => decide (c m p = 0)
def Zbf : List α → α → Nat
 | [], _ => 0
 | m :: r, p => if c m p < 0 then Zbf r p + 1 else 0
def Zev : List α → α → Bool
 | [], _ => false
 | m :: r, p => if c m p < 0 then Zev r p else decide (c m p = 0)
def Ygp (l : List α) : List α := l.foldl (Zds c) []
variable {c}
theorem Zir : ∀ (l : List α) (p : α), Zbf c l p ≤ l.length
 | [], _ => Nat.le_refl _
 | m :: r, p => by
  unfold Zbf
  split
  ·simpa using Zir r p
  ·simp
theorem Zsz : ∀ (l : List α) (p : α), Zds c l p = if Zev c l p then l else l.take (Zbf c l p) ++ p :: l.drop (Zbf c l p)
 | [], p => by simp [Zds, Zev, Zbf]
 | m :: r, p => by
  unfold Zds Zev Zbf
  by_cases h : c m p < 0
  ·rw [if_pos h, if_pos h, if_pos h, Zsz r p]
   split <;> simp
  ·rw [if_neg h, if_neg h, if_neg h]
   by_cases h' : c m p = 0
   ·simp [h']
   ·simp [h']
theorem Zos : ∀ (l : List α) (p : α) (i : Nat) (x : α), i < Zbf c l p → l[i]? = some x → c x p < 0
 | [], _, _, _, h, _ => by simp [Zbf] at h
 | m :: r, p, i, x, h, hx => by
  unfold Zbf at h
  by_cases h' : c m p < 0
  ·rw [if_pos h'] at h
   cases i with
   | zero => simp at hx; subst hx; exact h'
   | succ i => exact Zos r p i x (by omega) (by simpa using hx)
  ·rw [if_neg h'] at h; omega
def Srt (c : α → α → Int) (l : List α) : Prop := l.Pairwise fun a b => c a b < 0
structure OrdL (c : α → α → Int) (P : α → Prop) : Prop where
 tri : ∀ x y z, P x → P y → P z → Tri (c x y) (c y z) (c x z)
 swp : ∀ x y, P x → P y → c y x = - c x y
theorem Zn5 : ∀ (l : List α) (p : α), Zev c l p = match l[Zbf c l p]? with | some x => decide (c x p = 0) | none => false
 | [], _ => rfl
 | m :: r, p => by
  unfold Zev Zbf
  by_cases h : c m p < 0
  ·rw [if_pos h, if_pos h, Zn5 r p]
   simp
  ·rw [if_neg h, if_neg h]
   rfl
theorem Zs0 : ∀ {l : List α} {p x : α}, x ∈ Zds c l p → x = p ∨ x ∈ l
 | [], p, x, h => by simp [Zds] at h; exact .inl h
 | m :: r, p, x, h => by
  unfold Zds at h
  split at h
  ·rcases List.mem_cons.1 h with h | h
   ·exact .inr (by simp [h])
   ·rcases Zs0 h with h | h
    ·exact .inl h
    ·exact .inr (by simp [h])
  ·split at h
   ·exact .inr h
   ·rcases List.mem_cons.1 h with h | h
    ·exact .inl h
    ·exact .inr h
variable {P : α → Prop}
theorem Ylj {l : List α} {p : α} (hl : ∀ x ∈ l, P x) (hp : P p) : ∀ x ∈ Zds c l p, P x := fun x hx => by
 rcases Zs0 hx with rfl | h
 ·exact hp
 ·exact hl x h
theorem OrdL.self (O : OrdL c P) {x : α} (hx : P x) : c x x = 0 := by
 have := O.swp x x hx hx
 omega
theorem OrdL.lt (O : OrdL c P) {x y z : α} (hx : P x) (hy : P y) (hz : P z) (h : c x y < 0) (h' : c y z < 0) : c x z < 0 := by
 obtain ⟨h1, h2, h3, h4, h5, h6, h7⟩ := O.tri x y z hx hy hz
 have := h6 (by omega) (by omega)
 omega
theorem Znm (O : OrdL c P) : ∀ {l : List α} {p : α}, (∀ x ∈ l, P x) → P p → Srt c l → Srt c (Zds c l p)
 | [], p, _, _, _ => by simp [Zds, Srt]
 | m :: r, p, hl, hp, hs => by
  have hm : P m := hl m (by simp)
  have hr : ∀ x ∈ r, P x := fun x hx => hl x (by simp [hx])
  unfold Srt at hs
  rw [List.pairwise_cons] at hs
  unfold Zds
  by_cases h : c m p < 0
  ·rw [if_pos h]
   unfold Srt
   rw [List.pairwise_cons]
   refine ⟨fun x hx => ?_, Znm O hr hp hs.2⟩
   rcases Zs0 hx with rfl | hx
   ·exact h
   ·exact hs.1 x hx
  ·rw [if_neg h]
   by_cases h' : c m p = 0
   ·rw [if_pos h']
    unfold Srt
    rw [List.pairwise_cons]
    exact hs
   ·rw [if_neg h']
    have hpm : c p m < 0 := by
     have := O.swp m p hm hp
     omega
    unfold Srt
    rw [List.pairwise_cons, List.pairwise_cons]
    refine ⟨fun x hx => ?_, hs⟩
    rcases List.mem_cons.1 hx with rfl | hx
    ·exact hpm
    ·exact O.lt hp hm (hr x hx) hpm (hs.1 x hx)
theorem Zcc (m : α) (r : List α) (q : α) : Zaw c (m :: r) q = (decide (c m q = 0) || Zaw c r q) := rfl
theorem Zwp (O : OrdL c P) : ∀ {l : List α} {p q : α}, (∀ x ∈ l, P x) → P p → P q → Zaw c (Zds c l p) q = (Zaw c l q || decide (c p q = 0))
 | [], p, q, _, _, _ => by simp [Zds, Zaw]
 | m :: r, p, q, hl, hp, hq => by
  have hm : P m := hl m (by simp)
  have hr : ∀ x ∈ r, P x := fun x hx => hl x (by simp [hx])
  unfold Zds
  by_cases h : c m p < 0
  ·rw [if_pos h, Zcc, Zcc, Zwp O hr hp hq, Bool.or_assoc]
  ·rw [if_neg h]
   by_cases h' : c m p = 0
   ·rw [if_pos h', Zcc]
    have e : c m q = c p q := (O.tri m p q hm hp hq).zp h'
    rw [e]
    cases decide (c p q = 0) <;> cases Zaw c r q <;> rfl
   ·rw [if_neg h', Zcc, Bool.or_comm]
theorem Zz5 (O : OrdL c P) {m : α} {r : List α} {p : α} (hm : P m) (hr : ∀ x ∈ r, P x) (hp : P p) (hs : Srt c (m :: r)) (h : ¬ c m p < 0) : ∀ x ∈ r, 0 < c x p := by
 intro x hx
 unfold Srt at hs
 rw [List.pairwise_cons] at hs
 have h1 := hs.1 x hx
 have hP := hr x hx
 obtain ⟨a1, a2, a3, a4, a5, a6, a7⟩ := O.tri x m p hP hm hp
 have := O.swp m x hm hP
 by_cases h0 : c m p = 0
 ·have := a5 h0; omega
 ·have := a7 (by omega) (by omega); omega
theorem Zwl (O : OrdL c P) : ∀ {l : List α} {p : α}, (∀ x ∈ l, P x) → P p → Srt c l → Zev c l p = Zaw c l p
 | [], _, _, _, _ => rfl
 | m :: r, p, hl, hp, hs => by
  have hm : P m := hl m (by simp)
  have hr : ∀ x ∈ r, P x := fun x hx => hl x (by simp [hx])
  unfold Zev
  rw [Zcc]
  by_cases h : c m p < 0
  ·rw [if_pos h, Zwl O hr hp (by unfold Srt at hs ⊢; exact (List.pairwise_cons.1 hs).2)]
   rw [decide_eq_false (by omega)]
   rfl
  ·rw [if_neg h]
   have hn : Zaw c r p = false := by
    unfold Zaw
    rw [List.any_eq_false]
    intro x hx
    have := Zz5 O hm hr hp hs h x hx
    simp; omega
   rw [hn, Bool.or_false]
theorem Zor (O : OrdL c P) : ∀ {l : List α} {p : α}, (∀ x ∈ l, P x) → P p → Srt c l → ∀ (i : Nat) (x : α), Zbf c l p ≤ i → l[i]? = some x → ¬ c x p < 0
 | [], _, _, _, _, _, _, _, hx => by simp at hx
 | m :: r, p, hl, hp, hs, i, x, hi, hx => by
  have hm : P m := hl m (by simp)
  have hr : ∀ x ∈ r, P x := fun x hx => hl x (by simp [hx])
  unfold Zbf at hi
  by_cases h : c m p < 0
  ·rw [if_pos h] at hi
   cases i with
   | zero => omega
   | succ i => exact Zor O hr hp (by unfold Srt at hs ⊢; exact (List.pairwise_cons.1 hs).2) i x (by omega) (by simpa using hx)
  ·cases i with
   | zero => simp at hx; subst hx; exact h
   | succ i =>
    have := Zz5 O hm hr hp hs h x (List.mem_of_getElem? (by simpa using hx))
    omega
theorem Zkk (O : OrdL c P) : ∀ (l acc : List α), (∀ x ∈ l, P x) → (∀ x ∈ acc, P x) → Srt c acc → (∀ x ∈ l.foldl (Zds c) acc, P x) ∧ Srt c (l.foldl (Zds c) acc) ∧ ∀ q, P q → Zaw c (l.foldl (Zds c) acc) q = (Zaw c acc q || Zaw c l q)
 | [], acc, _, h, hs => ⟨h, hs, fun q _ => by simp [Zaw]⟩
 | p :: r, acc, hl, h, hs => by
  have hp : P p := hl p (by simp)
  have hr : ∀ x ∈ r, P x := fun x hx => hl x (by simp [hx])
  obtain ⟨h1, h2, h3⟩ := Zkk O r (Zds c acc p) hr (Ylj h hp) (Znm O h hp hs)
  rw [List.foldl_cons]
  refine ⟨h1, h2, fun q hq => ?_⟩
  rw [h3 q hq, Zwp O h hp hq, Zcc, Bool.or_assoc]
theorem Yth (O : OrdL c P) {l : List α} (hl : ∀ x ∈ l, P x) : ∀ x ∈ Ygp c l, P x := (Zkk O l [] hl (by simp) (by simp [Srt])).1
theorem Yor (O : OrdL c P) {l : List α} (hl : ∀ x ∈ l, P x) : Srt c (Ygp c l) := (Zkk O l [] hl (by simp) (by simp [Srt])).2.1
theorem Ym9 (O : OrdL c P) {l : List α} (hl : ∀ x ∈ l, P x) {q : α} (hq : P q) : Zaw c (Ygp c l) q = Zaw c l q := by
 unfold Ygp
 rw [(Zkk O l [] hl (by simp) (by simp [Srt])).2.2 q hq]; rfl
end
theorem ordPE : OrdL Zag OPE := ⟨fun _ _ _ => Ysg, fun _ _ h h' => Yox h.j h'.j⟩
end Go.Proofs.YtgmahieoiifpfaaGreat
end
namespace Go.Proofs.YtgmahieoiifpfaaGreat
open Go.RowKit
theorem Tryz.infoPE : ∃ i, Tryz.prog.info? 99 = some i ∧ i.zero = some (.agg #[.pointer none, .pointer none, .pointer none, .pointer none]) ∧ i.size = 4 ∧ i.bytes = 32 := by
 have h : (Tryz.prog.info? 99).map (fun i => (i.zero, i.size, i.bytes)) = some (some (.agg #[.pointer none, .pointer none, .pointer none, .pointer none]), 4, 32) := by kernel_rfl
 cases hq : Tryz.prog.info? 99 with
 | none => rw [hq] at h; cases h
 | some i =>
  rw [hq] at h
  simp only [Option.map_some, Option.some.injEq, Prod.mk.injEq] at h
  exact ⟨i, rfl, h.1, h.2.1, h.2.2⟩
/-- At the end. -/
theorem Yd3 (w : World) (base : Nat) (v : Value) (g2 c2 len : Nat) (xs news : List Value) (hv : w.ownsRow base 99 4 v len xs) (hu : w.ownsRow base 99 4 (.slice (some ⟨g2, 0, none⟩) 1 c2) 1 news)
  (hb : (len + 1) * 32 ≤ 140737488351232) (hl : len + 1 ≤ 140737488351232) (hw : base ≤ w.heap.size) (h1 : ∀ c ∈ news, c.oneCell' = true) :
  Calls Tryz.prog 218 #[v, .int .i64 (len : Int), .slice (some ⟨g2, 0, none⟩) 1 c2] w fun e' w' => ∃ v', e' = .returned v' ∧ w'.ownsRow base 99 4 v' (len + 1) (xs ++ news) ∧ w.grownBy w' v.ownBlock ∧ (∀ b, Zdl v' = some b → w.heap.size ≤ b ∨ v.ownBlock = some b) := by
 obtain ⟨inf, hi, hz, hs, hy⟩ := Tryz.infoPE
 have hnews : news.length = 1 * 4 := hu.1
 have hlies : Lies w g2 0 news := fun j u hj => by
  have := hu.cells (g := g2) rfl j u hj
  rwa [Zb0] at this
 obtain ⟨v', w', hr, r1, r2, r3⟩ := Zfj (P := Tryz.prog) base 114 114 99 inf _ 4 32 Tryz.underlying114 hi hz hs hy rfl (by omega) hv (ad := some ⟨g2, 0, none⟩) (m := 1) (c := c2) hnews (.inr ⟨g2, 0, rfl, hlies⟩) h1 (by unfold maxLen; omega) (by omega) hw
 obtain ⟨a, c, rfl⟩ : ∃ a c, v = .slice a len c := by
  rcases hv.2 with ⟨rfl, rfl⟩ | ⟨g, cap, cur, rfl, _⟩
  ·exact ⟨_, _, rfl⟩
  ·exact ⟨_, _, rfl⟩
 have hc : len ≤ c := by
  rcases hv.2 with ⟨e, e2⟩ | ⟨g, cap, cur, e, _, _, h, _⟩
  ·omega
  ·injection e with _ _ e; omega
 rw [← Zmf Tryz.underlying114 Tryz.underlying113] at hr
 have HR := Lib.hid (And.intro r1 (And.intro r2 r3))
 clear r1 r2 r3 hv hu hlies
 generalize (Value.slice a len c).ownBlock = ob at *
 go_enter Tryz.func218, Tryz.ntmps218
 go_wp2_with (at_builtin; refine Lib.wpList_append_run _ rfl _ _ _ _ rfl _ _ rfl rfl _ _ hr ?_)
 all_goals
  go_ret
  obtain ⟨r1, r2, r3⟩ := HR.out
  exact ⟨_, rfl, r1, r2, r3⟩
theorem Zcv {w : World} {g b : Nat} {cs : Array Value} (h : b ≠ g) : (w.setRow g cs).heap[b]? = w.heap[b]? := by
 unfold World.setRow
 simp only
 rw [Array.getElem?_modify, if_neg (fun e => h e.symm)]
theorem Zdz {w : World} {g : Nat} {cs : Array Value} : (w.setRow g cs).heap.size = w.heap.size := by
 unfold World.setRow
 simp
theorem Zg0 {w : World} {g : Nat} {cur : Array Value} {t : TypeId} {fz : Nat × Nat} (h : w.heap[g]? = some (.cells cur t fz)) {j : Nat} {u : Value} (hu : cur.toList[j]? = some u) : w.cell? ⟨g, j, none⟩ = some u := by
 rw [Array.getElem?_toList] at hu
 simp [World.cell?, h, hu]
theorem ls1 {α : Type} (xs rest : List α) {p q r : Nat} (hp : p + 4 ≤ xs.length) (hq : p + 4 + r = xs.length + 4) (hq2 : q = p + 4 := by omega) : (xs ++ rest).take q ++ xs.drop p ++ (xs ++ rest).drop (q + r) = xs.take (p + 4) ++ xs.drop p ++ rest.drop 4 := by
 subst hq2
 have e : (xs ++ rest).drop (xs.length + 4) = rest.drop 4 := by
  rw [List.drop_append, List.drop_eq_nil_of_le (Nat.le_add_right _ _), List.nil_append, Nat.add_sub_cancel_left]
 rw [List.take_append_of_le_length hp, hq, e]
theorem ls2 {α : Type} (xs rest news : List α) {p : Nat} (hp : p + 4 ≤ xs.length) : (xs.take (p + 4) ++ xs.drop p ++ rest.drop 4).take p ++ news ++ (xs.take (p + 4) ++ xs.drop p ++ rest.drop 4).drop (p + 4) = xs.take p ++ news ++ xs.drop p ++ rest.drop 4 := by
 rw [List.append_assoc (xs.take (p + 4)), List.drop_left' (by simp; omega), List.take_append_of_le_length (by simp; omega), List.take_take, Nat.min_eq_left (by omega)]
 simp
/-- Ahead of others, where there is room. -/
theorem Ya3 (w : World) (base g cap g2 c2 len i : Nat) (cur : Array Value) (xs rest news : List Value) (hbg : base ≤ g) (hg : w.heap[g]? = some (.cells cur 99 (0, 0))) (hcm : cap ≤ maxLen) (hcs : cur.size = cap * 4) (hcur : cur.toList = xs ++ rest) (hxs : xs.length = len * 4)
  (hu : w.ownsRow base 99 4 (.slice (some ⟨g2, 0, none⟩) 1 c2) 1 news) (hne : g2 ≠ g) (hi : i < len) (hroom : len + 1 ≤ cap)
  (hl : len + 1 ≤ 140737488351232) (h1x : ∀ c ∈ xs, c.oneCell' = true) (h1 : ∀ c ∈ news, c.oneCell' = true) :
  Calls Tryz.prog 218 #[.slice (some ⟨g, 0, none⟩) len cap, .int .i64 (i : Int), .slice (some ⟨g2, 0, none⟩) 1 c2] w fun e' w' => ∃ v', e' = .returned v' ∧ w'.ownsRow base 99 4 v' (len + 1) (xs.take (i * 4) ++ news ++ xs.drop (i * 4)) ∧ w.grownBy w' (some g) ∧ (∀ b, Zdl v' = some b → w.heap.size ≤ b ∨ (some g) = some b) := by
 obtain ⟨inf, hinf, hz, hs, hy⟩ := Tryz.infoPE
 have hsz : (Tryz.prog.info? 99).map (·.size) = some 4 := by rw [hinf]; simp [hs]
 have hrl : rest.length = (cap - len) * 4 := by
  have := congrArg List.length hcur
  simp only [Array.length_toList, List.length_append] at this
  omega
 have hnews : news.length = 4 := by have := hu.1; omega
 obtain ⟨cur2, hg2, hc2⟩ : ∃ cur2, w.heap[g2]? = some (.cells cur2 99 (0, 0)) ∧ cur2.toList.take 4 = news ∧ cur2.size ≠ 0 := by
  rcases hu.2 with ⟨e, _⟩ | ⟨g', cap', cur', e, _, h1, h2, h3, h4, h5⟩
  ·cases e
  ·injection e with e1 _ _
   injection e1 with e1
   injection e1 with e1
   subst e1
   exact ⟨cur', h1, h5, by omega⟩
 have hlies : ∀ j u, news[j]? = some u → w.cell? ⟨g2, j, none⟩ = some u := fun j u hj => by
  refine Zg0 hg2 ?_
  rw [← hc2.1] at hj
  rw [List.getElem?_take] at hj
  split at hj
  ·exact hj
  ·cases hj
 have hov : ∀ o lb cb, (callFunc 239 #[.slice (some ⟨g2, 0, none⟩) 1 c2, .slice (some ⟨g, o, none⟩) lb cb]).run Tryz.prog w = .ok (.value (.bool false)) w := fun o lb cb => by
  rw [run_callFunc_extern (fn := Tryz.f239) Tryz.func239 (by kernel_rfl) (by kernel_rfl) (by kernel_rfl) (e := Extern.SlicesOverlaps.overlaps #[113, 113] #[4]) (by kernel_rfl),
   Lib.run_overlaps_apart w 113 4 99 Tryz.underlying113 4 (fun w => by simp [sizeOf, typeInfo, hinf, hs]) ⟨g2, 0, none⟩ ⟨g, o, none⟩ 1 c2 lb cb hne 99 99 cur2.size cur.size (by simp [World.shape?, hg2]) (by simp [World.shape?, hg]) (by omega) (by simp [World.frozen?, hg2]) (by simp [World.frozen?, hg2])]
  rfl
 obtain ⟨curA, hA⟩ : ∃ c : Array Value, c = (xs.take (i * 4 + 4) ++ xs.drop (i * 4) ++ rest.drop 4).toArray := ⟨_, rfl⟩
 obtain ⟨curB, hB⟩ : ∃ c : Array Value, c = (xs.take (i * 4) ++ news ++ xs.drop (i * 4) ++ rest.drop 4).toArray := ⟨_, rfl⟩
 have hdl : (xs.drop (i * 4)).length = (len - i) * 4 := by rw [List.length_drop, hxs]; omega
 have hmin1 : Nat.min (len + 1 - i) (len - i) = len - i := by simp only [Nat.min_def]; split <;> omega
 have hmin2 : Nat.min 1 (len + 1 - i) = 1 := by simp only [Nat.min_def]; split <;> omega
 have hcp1 : ∀ ty dc sc, (Builtin.copy_ #[114, 114] ty #[.slice (some ⟨g, (i + 1) * 4, none⟩) (len - i) dc, .slice (some ⟨g, i * 4, none⟩) (len + 1 - i) sc]).run Tryz.prog w.drew = .ok (goInt ((len - i : Nat) : Int)) (w.drew.setRow g curA) := fun ty dc sc => by
  have := Zck (P := Tryz.prog) (w := w.drew) 114 114 ty 99 4 g ((i + 1) * 4) (len - i) dc ⟨g, i * 4, none⟩ (len + 1 - i) sc cur 99 (xs.drop (i * 4)) Tryz.underlying114 hsz hg (by rw [hmin1, hdl])
   (fun j u hj => by
    rw [Zb0]
    refine Zg0 (w := w.drew) hg ?_
    rw [List.getElem?_drop] at hj
    rw [hcur, List.getElem?_append_left (List.getElem?_eq_some_iff.1 hj).1]
    exact hj) (by rw [hdl, hcs]; omega) (fun u hu => h1x u (List.mem_of_mem_drop hu))
  rw [hmin1] at this
  rw [this, hA, hcur, hdl]
  congr 3
  exact ls1 xs rest (p := i * 4) (r := (len - i) * 4) (by omega) (by omega) (by omega)
 have hgA : (w.drew.setRow g curA).heap[g]? = some (.cells curA 99 (0, 0)) := setRow_heap w.drew g cur curA 99 _ hg
 have hcp2 : ∀ (W : World), W.heap = (w.drew.setRow g curA).heap → ∀ ty dc, (Builtin.copy_ #[114, 113] ty #[.slice (some ⟨g, i * 4, none⟩) (len + 1 - i) dc, .slice (some ⟨g2, 0, none⟩) 1 c2]).run Tryz.prog W = .ok (goInt ((1 : Nat) : Int)) (W.setRow g curB) := fun W hW ty dc => by
  have := Zck (P := Tryz.prog) (w := W) 114 113 ty 99 4 g (i * 4) (len + 1 - i) dc ⟨g2, 0, none⟩ 1 c2 curA 99 news Tryz.underlying114 hsz (by rw [hW]; exact hgA) (by rw [hmin2, hnews])
   (fun j u hj => by
    rw [Zb0, Nat.zero_add]
    rw [World.cell?_of_block (w := w) (a := ⟨g2, j, none⟩) (by rw [hW]; exact Zcv hne)]
    exact hlies j u hj) (by rw [hA, hnews]; simp [hxs, hdl, hrl]; omega) h1
  rw [hmin2] at this
  rw [this, hA, hB, hnews]
  congr 3
  exact ls2 xs rest news (by omega)
 have FIN : ((w.drew.setRow g curA).setRow g curB).ownsRow base 99 4 (.slice (some ⟨g, 0, none⟩) (len + 1) cap) (len + 1) (xs.take (i * 4) ++ news ++ xs.drop (i * 4)) ∧ w.grownBy ((w.drew.setRow g curA).setRow g curB) (some g) ∧ (∀ b, Zdl (.slice (some ⟨g, 0, none⟩) (len + 1) cap) = some b → w.heap.size ≤ b ∨ (some g) = some b) := by
  have hlen : (xs.take (i * 4) ++ news ++ xs.drop (i * 4)).length = (len + 1) * 4 := by simp only [List.length_append, List.length_take, List.length_drop, hxs, hnews]; omega
  refine ⟨⟨hlen, .inr ⟨g, cap, curB, rfl, hbg, setRow_heap (w.drew.setRow g curA) g curA curB _ _ hgA, hroom, hcm, ?_, ?_⟩⟩, ⟨rfl, rfl, rfl, by rw [Zdz, Zdz]; exact Nat.le_refl _, fun k _ hk => ?_⟩, fun b hb => .inr (by simpa [Zdl] using hb)⟩
  ·rw [hB, List.size_toArray, List.length_append, hlen, List.length_drop, hrl]; omega
  ·rw [hB]; exact List.take_left' hlen
  ·rw [Zcv (fun e => hk (by rw [e])), Zcv (fun e => hk (by rw [e]))]; rfl
 clear hA hB
 have mixed : Tryz.prog.follows Departure.mixedOrders = true := by kernel_rfl
 have hb2 : ¬ (cap = i + 1) := by omega
 have hb4 : ¬ (cap = i) := by omega
 have hin : i ≤ len := by omega
 have hb3 : (i : Int) ≤ (len : Int) + 1 := by omega
 have hw1 : IntKind.i64.wrap ((i : Int) + 1) = (i : Int) + 1 := by rw [IntKind.wrap_i64]; omega
 have htn : ((i : Int) + 1).toNat = i + 1 := by omega
 have hb1 : (0 : Int) ≤ (i : Int) + 1 := by omega
 go_enter Tryz.func218, Tryz.ntmps218
 go_wp2_with (simp only [hov])
 go_region_law_o (refine step_copy_runI rfl _ _ 114 114 rfl _ _ (by simp [Act.eval, Act.put]) (by simp [Act.eval, Act.put]) (hcp1 _ _ _) ?_)
 go_wp2_with (at_builtin; refine wpList_copy_runI _ rfl _ _ 114 113 rfl _ _ rfl rfl (hcp2 _ rfl _ _) ?_)
 go_ret
 exact ⟨_, rfl, FIN⟩
theorem ls3 {α : Type} (A Z news : List α) {p : Nat} (hA : A.length = p) : (A ++ Z).take p ++ news ++ (A ++ Z).drop (p + 4) = A ++ news ++ Z.drop 4 := by
 rw [List.take_left' hA, List.drop_append, List.drop_eq_nil_of_le (by omega : A.length ≤ p + 4), hA, List.nil_append, Nat.add_sub_cancel_left]
theorem ls4 {α : Type} (A Y D news : List α) {p r q : Nat} (hA : A.length = p) (hn : news.length = 4) (hq : q = p + 4) : (A ++ news ++ Y).take q ++ D ++ (A ++ news ++ Y).drop (q + r) = A ++ news ++ D ++ Y.drop r := by
 have h : (A ++ news).length = q := by rw [List.length_append, hA, hn, hq]
 have e : (A ++ news ++ Y).drop (q + r) = Y.drop r := by
  rw [List.drop_append, List.drop_eq_nil_of_le (by omega), h, List.nil_append, Nat.add_sub_cancel_left]
 rw [List.take_left' h, e]
/-- Ahead of others, where there is no room. -/
theorem Ya2 (w : World) (base g cap g2 c2 len i : Nat) (cur : Array Value) (xs news : List Value) (hbw : base ≤ w.heap.size) (hg : w.heap[g]? = some (.cells cur 99 (0, 0))) (hcur : cur.toList.take (len * 4) = xs) (hxs : xs.length = len * 4)
  (hu : w.ownsRow base 99 4 (.slice (some ⟨g2, 0, none⟩) 1 c2) 1 news) (hi : i < len) (hle : len ≤ cap) (hroom : cap < len + 1)
  (hb : (len + 1) * 32 ≤ 140737488351232) (hl : len + 1 ≤ 140737488351232) (h1x : ∀ c ∈ xs, c.oneCell' = true) (h1 : ∀ c ∈ news, c.oneCell' = true) :
  Calls Tryz.prog 218 #[.slice (some ⟨g, 0, none⟩) len cap, .int .i64 (i : Int), .slice (some ⟨g2, 0, none⟩) 1 c2] w fun e' w' => ∃ v', e' = .returned v' ∧ w'.ownsRow base 99 4 v' (len + 1) (xs.take (i * 4) ++ news ++ xs.drop (i * 4)) ∧ w.grownBy w' (some g) ∧ (∀ b, Zdl v' = some b → w.heap.size ≤ b ∨ (some g) = some b) := by
 obtain ⟨inf, hinf, hz, hs, hy⟩ := Tryz.infoPE
 have hsz : (Tryz.prog.info? 99).map (·.size) = some 4 := by rw [hinf]; simp [hs]
 have hnews : news.length = 4 := by have := hu.1; omega
 obtain ⟨cur2, hg2, hc2⟩ : ∃ cur2, w.heap[g2]? = some (.cells cur2 99 (0, 0)) ∧ cur2.toList.take 4 = news := by
  rcases hu.2 with ⟨e, _⟩ | ⟨g', cap', cur', e, _, h1, h2, h3, h4, h5⟩
  ·cases e
  ·injection e with e1 _ _
   injection e1 with e1
   injection e1 with e1
   subst e1
   exact ⟨cur', h1, h5⟩
 have hlies : ∀ j u, news[j]? = some u → w.cell? ⟨g2, j, none⟩ = some u := fun j u hj => by
  refine Zg0 hg2 ?_
  rw [← hc2, List.getElem?_take] at hj
  split at hj
  ·exact hj
  ·cases hj
 have hliex : ∀ j u, xs[j]? = some u → w.cell? ⟨g, j, none⟩ = some u := fun j u hj => by
  refine Zg0 hg ?_
  rw [← hcur, List.getElem?_take] at hj
  split at hj
  ·exact hj
  ·cases hj
 have hgw : g < w.heap.size := (Array.getElem?_eq_some_iff.1 hg).1
 have hg2w : g2 < w.heap.size := (Array.getElem?_eq_some_iff.1 hg2).1
 obtain ⟨G, hG⟩ : ∃ G, G = grownCap w (len + 1) cap 99 := ⟨_, rfl⟩
 have hGn : len + 1 ≤ G := by rw [hG]; exact grownCap_ge w _ _ _
 have hGm : G ≤ maxLen := by rw [hG]; exact grownCap_le_maxLen w _ _ _ (by unfold maxLen; omega)
 obtain ⟨ROW, hROW⟩ : ∃ ROW : Array Value, ROW = (xs.take (i * 4)).toArray ++ Builtin.zeroCells (Value.agg #[.pointer none, .pointer none, .pointer none, .pointer none]).cells (len + 1 - i) ++ Builtin.zeroCells (Value.agg #[.pointer none, .pointer none, .pointer none, .pointer none]).cells (G - (len + 1)) := ⟨_, rfl⟩
 obtain ⟨Z, hZ, hZl⟩ : ∃ Z : List Value, ROW.toList = xs.take (i * 4) ++ Z ∧ Z.length = (G - i) * 4 := by
  refine ⟨(Builtin.zeroCells (Value.agg #[.pointer none, .pointer none, .pointer none, .pointer none]).cells (len + 1 - i)).toList ++ (Builtin.zeroCells (Value.agg #[.pointer none, .pointer none, .pointer none, .pointer none]).cells (G - (len + 1))).toList, by rw [hROW]; simp, ?_⟩
  rw [List.length_append, Array.length_toList, Array.length_toList, size_zeroCells, size_zeroCells]
  simp only [Value.cells, List.size_toArray, List.length_cons, List.length_nil]
  omega
 have htl : (xs.take (i * 4)).length = i * 4 := by rw [List.length_take, hxs]; omega
 have hdl : (xs.drop (i * 4)).length = (len - i) * 4 := by rw [List.length_drop, hxs]; omega
 have hRs : ROW.size = G * 4 := by rw [← Array.length_toList, hZ, List.length_append, htl, hZl]; omega
 have hold : (Builtin.firstCells inf.size i (.slice (some ⟨g, 0, none⟩) i cap)).run Tryz.prog w.drew = .ok (xs.take (i * 4)).toArray w.drew := by
  rw [hs]
  exact run_firstCells_some w.drew 4 i ⟨g, 0, none⟩ i cap (xs.take (i * 4)) htl (fun j v hj => by
   rw [Zb0, Nat.zero_add]
   rw [List.getElem?_take] at hj
   split at hj
   ·exact hliex j v hj
   ·cases hj)
 have hrz : ∀ ty, (Builtin.append_ #[114, 3] ty #[.slice (some ⟨g, 0, none⟩) i cap, .int .i64 ((len : Int) + 1 - (i : Int))]).run Tryz.prog w = .ok (.slice (some ⟨w.heap.size, 0, none⟩) (len + 1) G) (w.drew.alloc (.cells ROW 99)) := fun ty => by
  have h := Lib.run_append_grow_zeros (P := Tryz.prog) w 114 3 ty 99 inf _ .i64 .i64 Tryz.underlying114 Tryz.underlying3 hinf hz (some ⟨g, 0, none⟩) i cap (xs.take (i * 4)) hold (len + 1 - i) (by omega) (by omega) (by omega) (by omega) (by rw [hy]; omega) (by rw [hy, show i + (len + 1 - i) = len + 1 by omega]; exact growslice_fits hroom (by omega))
  rw [show i + (len + 1 - i) = len + 1 by omega, ← hG] at h
  rw [show ((len : Int) + 1 - (i : Int)) = ((len + 1 - i : Nat) : Int) by omega, h, hROW]
 obtain ⟨curB, hB⟩ : ∃ c : Array Value, c = (xs.take (i * 4) ++ news ++ Z.drop 4).toArray := ⟨_, rfl⟩
 obtain ⟨curC, hC⟩ : ∃ c : Array Value, c = (xs.take (i * 4) ++ news ++ xs.drop (i * 4) ++ (Z.drop 4).drop ((len - i) * 4)).toArray := ⟨_, rfl⟩
 have hN1 : (w.alloc (.cells ROW 99)).heap[w.heap.size]? = some (.cells ROW 99 (0, 0)) := heap_alloc_new w _
 have hNB : ((w.alloc (.cells ROW 99)).setRow w.heap.size curB).heap[w.heap.size]? = some (.cells curB 99 (0, 0)) := setRow_heap _ _ ROW curB 99 _ hN1
 have hNC : (((w.alloc (.cells ROW 99)).setRow w.heap.size curB).setRow w.heap.size curC).heap[w.heap.size]? = some (.cells curC 99 (0, 0)) := setRow_heap _ _ curB curC 99 _ hNB
 have hold1 : ∀ b, b < w.heap.size → (w.alloc (.cells ROW 99)).heap[b]? = w.heap[b]? := fun b h => Below.heap_alloc _ _ _ h
 have hmin1 : Nat.min (len - i) (len + 1 - (i + 1)) = len - i := by simp only [Nat.min_def]; split <;> omega
 have hmin2 : Nat.min 1 (len + 1 - i) = 1 := by simp only [Nat.min_def]; split <;> omega
 have hcpA : ∀ (W : World), W.heap = (w.alloc (.cells ROW 99)).heap → ∀ ty dc, (Builtin.copy_ #[114, 113] ty #[.slice (some ⟨w.heap.size, i * 4, none⟩) (len + 1 - i) dc, .slice (some ⟨g2, 0, none⟩) 1 c2]).run Tryz.prog W = .ok (goInt ((1 : Nat) : Int)) (W.setRow w.heap.size curB) := fun W hW ty dc => by
  have := Zck (P := Tryz.prog) (w := W) 114 113 ty 99 4 w.heap.size (i * 4) (len + 1 - i) dc ⟨g2, 0, none⟩ 1 c2 ROW 99 news Tryz.underlying114 hsz (by rw [hW]; exact hN1) (by rw [hmin2, hnews])
   (fun j u hj => by
    rw [Zb0, Nat.zero_add]
    rw [World.cell?_of_block (w := w) (a := ⟨g2, j, none⟩) (by rw [hW]; exact hold1 _ hg2w)]
    exact hlies j u hj) (by rw [hRs, hnews]; omega) h1
  rw [hmin2] at this
  rw [this, hB, hnews, hZ]
  congr 3
  exact ls3 _ _ _ htl
 have hcpB : ∀ (W : World), W.heap = ((w.alloc (.cells ROW 99)).setRow w.heap.size curB).heap → ∀ ty dc sc, (Builtin.copy_ #[114, 114] ty #[.slice (some ⟨w.heap.size, (i + 1) * 4, none⟩) (len - i) dc, .slice (some ⟨g, i * 4, none⟩) (len - i) sc]).run Tryz.prog W = .ok (goInt ((len - i : Nat) : Int)) (W.setRow w.heap.size curC) := fun W hW ty dc sc => by
  have hm : Nat.min (len - i) (len - i) = len - i := by simp only [Nat.min_def]; split <;> omega
  have := Zck (P := Tryz.prog) (w := W) 114 114 ty 99 4 w.heap.size ((i + 1) * 4) (len - i) dc ⟨g, i * 4, none⟩ (len - i) sc curB 99 (xs.drop (i * 4)) Tryz.underlying114 hsz (by rw [hW]; exact hNB) (by rw [hm, hdl])
   (fun j u hj => by
    rw [Zb0]
    rw [World.cell?_of_block (w := w) (a := ⟨g, i * 4 + j, none⟩) (by rw [hW]; exact (Zcv (show g ≠ w.heap.size from Nat.ne_of_lt hgw)).trans (hold1 _ hgw))]
    rw [List.getElem?_drop] at hj
    exact hliex _ u hj) (by rw [hB, List.size_toArray, hdl]; simp only [List.length_append, htl, hnews, List.length_drop, hZl]; omega) (fun u hu => h1x u (List.mem_of_mem_drop hu))
  rw [hm] at this
  rw [this, hC, hB, hdl]
  congr 3
  exact ls4 _ _ _ _ htl hnews (by omega)
 have FIN : ∀ W : World, W.os = w.os → W.tape = w.tape → W.output = w.output → W.heap = (((w.alloc (.cells ROW 99)).setRow w.heap.size curB).setRow w.heap.size curC).heap → W.ownsRow base 99 4 (.slice (some ⟨w.heap.size, 0, none⟩) (len + 1) G) (len + 1) (xs.take (i * 4) ++ news ++ xs.drop (i * 4)) ∧ w.grownBy W (some g) ∧ (∀ b, Zdl (.slice (some ⟨w.heap.size, 0, none⟩) (len + 1) G) = some b → w.heap.size ≤ b ∨ (some g) = some b) := by
  intro W e1 e2 e3 e4
  have hlen : (xs.take (i * 4) ++ news ++ xs.drop (i * 4)).length = (len + 1) * 4 := by simp only [List.length_append, htl, hdl, hnews]; omega
  refine ⟨⟨hlen, .inr ⟨w.heap.size, G, curC, rfl, hbw, by rw [e4]; exact hNC, hGn, hGm, ?_, ?_⟩⟩, ⟨e1, e2, e3, by rw [e4, Zdz, Zdz]; simp, fun k hk _ => ?_⟩, fun b hb => .inl (Nat.le_of_eq (by simpa [Zdl] using hb))⟩
  ·rw [hC, List.size_toArray, List.length_append, hlen, List.length_drop, List.length_drop, hZl]; omega
  ·rw [hC]; exact List.take_left' hlen
  ·rw [e4, Zcv (by omega), Zcv (by omega)]; exact hold1 _ hk
 clear hB hC hNB hNC hN1 hold1 hold hRs hZ hZl hROW hG hlies hliex hg hg2 hu hcur
 have mixed : Tryz.prog.follows Departure.mixedOrders = true := by kernel_rfl
 have hb2 : ¬ (cap = i + 1) ∨ cap = i + 1 := by omega
 have hb4 : ¬ (cap = i) := by omega
 have hb5 : ¬ (G = i) := by omega
 have hb6 : ¬ (G = i + 1) := by omega
 have hin : i ≤ len := by omega
 have hz3 : (cap : Int) < (len : Int) + 1 := by omega
 have hb3 : (i : Int) ≤ (len : Int) + 1 := by omega
 have hb7 : (i : Int) ≤ (len : Int) := by omega
 have hw1 : IntKind.i64.wrap ((i : Int) + 1) = (i : Int) + 1 := by rw [IntKind.wrap_i64]; omega
 have htn : ((i : Int) + 1).toNat = i + 1 := by omega
 have hb1 : (0 : Int) ≤ (i : Int) + 1 := by omega
 have hcpA' := hcpA (w.alloc (.cells ROW 99)).drew rfl
 have hcpB' := hcpB ((w.alloc (.cells ROW 99)).drew.setRow w.heap.size curB).drew rfl
 clear hb2 hcpA hcpB
 go_enter Tryz.func218, Tryz.ntmps218
 go_wp2_with (at_builtin; refine Lib.wpList_append_run _ rfl _ _ _ _ rfl _ _ rfl rfl _ _ (hrz _) ?_)
 go_region
 go_wp2
 go_ret
 exact ⟨_, rfl, FIN _ rfl rfl rfl rfl⟩
instance : Ysm Tryz.prog 218 99 4 32 := ⟨by kernel_rfl, fun w base v u len i xs news hv hu hap hi hb hl hw h1x h1 => by
 obtain ⟨g2, c2, rfl⟩ : ∃ g2 c2, u = .slice (some ⟨g2, 0, none⟩) 1 c2 := by
  rcases hu.2 with ⟨_, e⟩ | ⟨g', cap', cur', e, _⟩
  ·omega
  ·exact ⟨_, _, e⟩
 by_cases he : i = len
 ·subst he
  rw [List.take_of_length_le (by rw [hv.1]; exact Nat.le_refl _), List.drop_eq_nil_of_le (by rw [hv.1]; exact Nat.le_refl _), List.append_nil]
  exact Yd3 w base v g2 c2 i xs news hv hu hb hl hw h1
 ·rcases hv.2 with ⟨_, e⟩ | ⟨g, cap, cur, rfl, hbg, hg, hnc, hcm, hcs, hcur⟩
  ·omega
  ·have hne : g2 ≠ g := fun e => hap g rfl (by rw [e]; rfl)
   by_cases hroom : len + 1 ≤ cap
   ·exact Ya3 w base g cap g2 c2 len i cur xs (cur.toList.drop (len * 4)) news hbg hg hcm hcs (by rw [← hcur, List.take_append_drop]) hv.1 hu hne (by omega) hroom hl h1x h1
   ·exact Ya2 w base g cap g2 c2 len i cur xs news hw hg hcur hv.1 hu (by omega) hnc (by omega) hb hl h1x h1⟩
theorem Flat.tup2 {u v : Value} : Flat (.tup [.val u, .val v]) := fun w w' F F' x h => by
 unfold Rep at h ⊢
 obtain ⟨vs, e, h⟩ := h
 refine ⟨vs, e, ?_⟩
 simp only [Reps] at h ⊢
 unfold Rep at h ⊢
 exact h
theorem Zru (p : PEV) : Zkj true 4 (Za3 p) = true := by cases p <;> rfl
theorem Yqo (x p : PEV) : PCall Tryz.prog 221 [Za3 x, Za3 p] (.val (.int .i64 (Zag x p))) := by
 have c := Zh0 x p
 obtain ⟨d0, d1, d2, d3, e⟩ := Zc3 x
 obtain ⟨u0, u1, u2, u3, e'⟩ := Zc3 p
 rw [e, e'] at c ⊢
 refine Zaa Tryz.func221 rfl Tryz.ntmps221 rfl (fun X => ?_)
 exact wke
/-- slices.BinarySearchFunc over a set: how many elements stand before p, and whether the next one equals it. -/
theorem Yho (l : List PEV) (p : PEV) (hl : ∀ x ∈ l, OPE x) (hp : OPE p) (hs : Srt Zag l) :
  PCall Tryz.prog 216 [.sl 4 32 (l.map Za3), Za3 p, .val (.func (.func 221) #[] #[])] (.tup [.val (.int .i64 ((Zbf Zag l p : Nat) : Int)), .val (.bool (Zev Zag l p))]) := by
 refine Zay fun hfit => ?_
 have b1 := (hfit (.sl 4 32 (l.map Za3)) (by simp)).sl.2.1
 clear hfit
 have n1 : (l.map Za3).length = l.length := by simp
 have ga : ∀ {i : Nat} {x : PEV}, l[i]? = some x → (l.map Za3)[((i : Nat) : Int).toNat]? = some (Za3 x) := fun h => by simp [h]
 rw [n1] at b1
 generalize l.map Za3 = da at *
 have hF := fun x => Yqo x p
 obtain ⟨u0, u1, u2, u3, e'⟩ := Zc3 p
 rw [e'] at hF ⊢
 have hlo := fun (i : Nat) (x : PEV) (h : i < Zbf Zag l p) (hx : l[i]? = some x) => Zos l p i x h hx
 have hhi := fun (i : Nat) (x : PEV) (h : Zbf Zag l p ≤ i) (hx : l[i]? = some x) => Zor ordPE hl hp hs i x h hx
 have hle := Zir (c := Zag) l p
 rw [Zn5]
 generalize Zbf Zag l p = loc at *
 clear hs
 refine Zaa Tryz.func216 rfl Tryz.ntmps216 rfl (fun X => ?_)
 refine wk ?_
 refine Zap (ι := { j : Nat × Nat // j.1 ≤ loc ∧ loc ≤ j.2 ∧ j.2 ≤ l.length })
  (fun j => [(0, .dat (.sl 4 32 da)), (2, .dat (.val (.func (.func 221) #[] #[]))), (4, .ptr 4 0), (8, .dat (.val (.int .i64 ((da.length : Nat) : Int)))), (9, .dat (.val (.int .i64 (j.1.1 : Nat)))), (10, .dat (.val (.int .i64 (j.1.2 : Nat))))])
  (fun _ => [(4, .box 99 (Zaq (.agg [u0, u1, u2, u3])))]) (fun j => j.1.2 - j.1.1) ⟨(0, da.length), Nat.zero_le _, by rw [n1]; exact hle, by rw [n1]; exact Nat.le_refl _⟩ id ?_ ?_
 ·exact sb
 rintro ⟨⟨lo, hi⟩, h1, h2, h3⟩
 simp only at h1 h2 h3
 simp only
 by_cases hlt : lo < hi
 ·have g1 : decide ((lo : Int) < (hi : Int)) = true := decide_eq_true (by omega)
  obtain ⟨h, hh⟩ : ∃ h, h = (lo + hi) / 2 := ⟨_, rfl⟩
  have w1 : IntKind.u64.wrap ((lo : Int) + (hi : Int)) = (lo : Int) + (hi : Int) := by
   simp [IntKind.wrap, IntKind.signed, IntKind.bits]; omega
  have w2 : ((lo : Int) + (hi : Int)) / 2 = ((h : Nat) : Int) := by omega
  have w3 : IntKind.i64.wrap ((h : Nat) : Int) = ((h : Nat) : Int) := by rw [IntKind.wrap_i64]; omega
  have w4 : (Lit.int .u64 ((h : Nat) : Int)).wf = true := by
   simp [Lit.wf, IntKind.min, IntKind.max, IntKind.signed, IntKind.bits]; omega
  obtain ⟨x, hx⟩ : ∃ x, l[h]? = some x := ⟨_, List.getElem?_eq_getElem (by omega)⟩
  have i1 := ga hx
  have cF := hF x
  have f1 := Zru x
  by_cases hc : Zag x p < 0
  ·have g2 : decide (Zag x p < 0) = true := decide_eq_true hc
   have hb : h < loc := by
    refine Nat.lt_of_not_le fun hn => hhi h x hn hx hc
   refine wk ?_
   refine Zae ?_
   refine ⟨⟨(h + 1, hi), by simp only; omega, by simp only; omega, h3⟩, id, by simp only; omega, ?_⟩
   exact sb
  ·have g2 : decide (Zag x p < 0) = false := decide_eq_false hc
   have hb : loc ≤ h := by
    refine Nat.le_of_not_lt fun hn => hc (hlo h x hn hx)
   refine wk ?_
   refine Zae ?_
   refine ⟨⟨(lo, h), h1, hb, by simp only; omega⟩, id, by simp only; omega, ?_⟩
   exact sb
 ·have g1 : decide ((lo : Int) < (hi : Int)) = false := decide_eq_false (by omega)
  obtain rfl : lo = loc := by omega
  by_cases hin : lo < l.length
  ·have g2 : decide ((lo : Int) < ((da.length : Nat) : Int)) = true := decide_eq_true (by omega)
   obtain ⟨x, hx⟩ : ∃ x, l[lo]? = some x := ⟨_, List.getElem?_eq_getElem hin⟩
   have i1 := ga hx
   have cF := hF x
   have f1 := Zru x
   rw [hx]
   exact wke
  ·have g2 : decide ((lo : Int) < ((da.length : Nat) : Int)) = false := decide_eq_false (by omega)
   rw [List.getElem?_eq_none (by omega)]
   exact wke
theorem Ydk (x p : PEV) : PCall Tryz.prog 217 [Za3 x, Za3 p] (.val (.int .i64 (Zag x p))) := by
 have c := Zh0 x p
 obtain ⟨d0, d1, d2, d3, e⟩ := Zc3 x
 obtain ⟨u0, u1, u2, u3, e'⟩ := Zc3 p
 rw [e, e'] at c ⊢
 refine Zaa Tryz.func217 rfl Tryz.ntmps217 rfl (fun X => ?_)
 exact wke
/-- slices.BinarySearchFunc over a set: how many elements stand before p, and whether the next one equals it. -/
theorem Zv6 (l : List PEV) (p : PEV) (hl : ∀ x ∈ l, OPE x) (hp : OPE p) (hs : Srt Zag l) :
  PCall Tryz.prog 216 [.sl 4 32 (l.map Za3), Za3 p, .val (.func (.func 217) #[] #[])] (.tup [.val (.int .i64 ((Zbf Zag l p : Nat) : Int)), .val (.bool (Zev Zag l p))]) := by
 refine Zay fun hfit => ?_
 have b1 := (hfit (.sl 4 32 (l.map Za3)) (by simp)).sl.2.1
 clear hfit
 have n1 : (l.map Za3).length = l.length := by simp
 have ga : ∀ {i : Nat} {x : PEV}, l[i]? = some x → (l.map Za3)[((i : Nat) : Int).toNat]? = some (Za3 x) := fun h => by simp [h]
 rw [n1] at b1
 generalize l.map Za3 = da at *
 have hF := fun x => Ydk x p
 obtain ⟨u0, u1, u2, u3, e'⟩ := Zc3 p
 rw [e'] at hF ⊢
 have hlo := fun (i : Nat) (x : PEV) (h : i < Zbf Zag l p) (hx : l[i]? = some x) => Zos l p i x h hx
 have hhi := fun (i : Nat) (x : PEV) (h : Zbf Zag l p ≤ i) (hx : l[i]? = some x) => Zor ordPE hl hp hs i x h hx
 have hle := Zir (c := Zag) l p
 rw [Zn5]
 generalize Zbf Zag l p = loc at *
 clear hs
 refine Zaa Tryz.func216 rfl Tryz.ntmps216 rfl (fun X => ?_)
 refine wk ?_
 refine Zap (ι := { j : Nat × Nat // j.1 ≤ loc ∧ loc ≤ j.2 ∧ j.2 ≤ l.length })
  (fun j => [(0, .dat (.sl 4 32 da)), (2, .dat (.val (.func (.func 217) #[] #[]))), (4, .ptr 4 0), (8, .dat (.val (.int .i64 ((da.length : Nat) : Int)))), (9, .dat (.val (.int .i64 (j.1.1 : Nat)))), (10, .dat (.val (.int .i64 (j.1.2 : Nat))))])
  (fun _ => [(4, .box 99 (Zaq (.agg [u0, u1, u2, u3])))]) (fun j => j.1.2 - j.1.1) ⟨(0, da.length), Nat.zero_le _, by rw [n1]; exact hle, by rw [n1]; exact Nat.le_refl _⟩ id ?_ ?_
 ·exact sb
 rintro ⟨⟨lo, hi⟩, h1, h2, h3⟩
 simp only at h1 h2 h3
 simp only
 by_cases hlt : lo < hi
 ·have g1 : decide ((lo : Int) < (hi : Int)) = true := decide_eq_true (by omega)
  obtain ⟨h, hh⟩ : ∃ h, h = (lo + hi) / 2 := ⟨_, rfl⟩
  have w1 : IntKind.u64.wrap ((lo : Int) + (hi : Int)) = (lo : Int) + (hi : Int) := by
   simp [IntKind.wrap, IntKind.signed, IntKind.bits]; omega
  have w2 : ((lo : Int) + (hi : Int)) / 2 = ((h : Nat) : Int) := by omega
  have w3 : IntKind.i64.wrap ((h : Nat) : Int) = ((h : Nat) : Int) := by rw [IntKind.wrap_i64]; omega
  have w4 : (Lit.int .u64 ((h : Nat) : Int)).wf = true := by
   simp [Lit.wf, IntKind.min, IntKind.max, IntKind.signed, IntKind.bits]; omega
  obtain ⟨x, hx⟩ : ∃ x, l[h]? = some x := ⟨_, List.getElem?_eq_getElem (by omega)⟩
  have i1 := ga hx
  have cF := hF x
  have f1 := Zru x
  by_cases hc : Zag x p < 0
  ·have g2 : decide (Zag x p < 0) = true := decide_eq_true hc
   have hb : h < loc := by
    refine Nat.lt_of_not_le fun hn => hhi h x hn hx hc
   refine wk ?_
   refine Zae ?_
   refine ⟨⟨(h + 1, hi), by simp only; omega, by simp only; omega, h3⟩, id, by simp only; omega, ?_⟩
   exact sb
  ·have g2 : decide (Zag x p < 0) = false := decide_eq_false hc
   have hb : loc ≤ h := by
    refine Nat.le_of_not_lt fun hn => hc (hlo h x hn hx)
   refine wk ?_
   refine Zae ?_
   refine ⟨⟨(lo, h), h1, hb, by simp only; omega⟩, id, by simp only; omega, ?_⟩
   exact sb
 ·have g1 : decide ((lo : Int) < (hi : Int)) = false := decide_eq_false (by omega)
  obtain rfl : lo = loc := by omega
  by_cases hin : lo < l.length
  ·have g2 : decide ((lo : Int) < ((da.length : Nat) : Int)) = true := decide_eq_true (by omega)
   obtain ⟨x, hx⟩ : ∃ x, l[lo]? = some x := ⟨_, List.getElem?_eq_getElem hin⟩
   have i1 := ga hx
   have cF := hF x
   have f1 := Zru x
   rw [hx]
   exact wke
  ·have g2 : decide ((lo : Int) < ((da.length : Nat) : Int)) = false := decide_eq_false (by omega)
   rw [List.getElem?_eq_none (by omega)]
   exact wke
theorem Yka (l : List PEV) (p : PEV) (hl : ∀ x ∈ l, OPE x) (hp : OPE p) (hs : Srt Zag l) : PCall Tryz.prog 180 [.ptr (.agg [.sl 4 32 (l.map Za3)]), Za3 p] (.val (.bool (Zaw Zag l p))) := by
 have c := Yho l p hl hp hs
 rw [← Zwl ordPE hl hp hs]
 obtain ⟨u0, u1, u2, u3, e⟩ := Zc3 p
 rw [e] at c ⊢
 refine Zaa Tryz.func180 rfl Tryz.ntmps180 rfl (fun X => ?_)
 exact wke
theorem Ygq (l : List PEV) : PCall Tryz.prog 166 [.ptr (.agg [.sl 4 32 (l.map Za3)])] (.val (.int .i64 ((l.length : Nat) : Int))) := by
 have n1 : (l.map Za3).length = l.length := by simp
 rw [← n1]
 refine Zaa Tryz.func166 rfl Tryz.ntmps166 rfl (fun X => ?_)
 exact wke
end Go.Proofs.YtgmahieoiifpfaaGreat
section
namespace Go.Proofs.YtgmahieoiifpfaaGreat
section
variable {α β : Type} (c : α → α → Int)
def Zj5 : List (α × β) → α → β → List (α × β)
 | [], p, j => [(p, j)]
 | m :: r, p, j => if c m.1 p < 0 then m :: Zj5 r p j else if c m.1 p = 0 then (m.1, j) :: r else (p, j) :: m :: r
def Zem : List (α × β) → α → Option β
 | [], _ => none
 | m :: r, p => if c m.1 p < 0 then Zem r p else if c m.1 p = 0 then some m.2 else none
variable {c}
theorem Zuk : ∀ (m : List (α × β)) (p : α) (j : β), (Zj5 c m p j).map (·.1) = Zds c (m.map (·.1)) p
 | [], p, j => rfl
 | m :: r, p, j => by
  unfold Zj5
  rw [List.map_cons]
  unfold Zds
  by_cases h : c m.1 p < 0
  ·rw [if_pos h, if_pos h, List.map_cons, Zuk r p j]
  ·rw [if_neg h, if_neg h]
   by_cases h' : c m.1 p = 0
   ·rw [if_pos h', if_pos h']; rfl
   ·rw [if_neg h', if_neg h']; rfl
theorem Zr2 : ∀ (m : List (α × β)) (p : α) (j : β), Zev c (m.map (·.1)) p = true → ∃ x, m[Zbf c (m.map (·.1)) p]? = some x ∧ Zj5 c m p j = m.set (Zbf c (m.map (·.1)) p) (x.1, j) ∧ Zem c m p = some x.2
 | [], p, j, h => by cases h
 | m :: r, p, j, h => by
  rw [List.map_cons] at h ⊢
  unfold Zev at h
  unfold Zj5 Zbf Zem
  by_cases h1 : c m.1 p < 0
  ·rw [if_pos h1] at h
   rw [if_pos h1, if_pos h1, if_pos h1]
   obtain ⟨x, g1, g2, g3⟩ := Zr2 r p j h
   exact ⟨x, by simpa using g1, by rw [g2]; rfl, g3⟩
  ·rw [if_neg h1] at h
   have h2 : c m.1 p = 0 := by simpa using h
   rw [if_neg h1, if_neg h1, if_neg h1, if_pos h2, if_pos h2]
   exact ⟨m, rfl, rfl, rfl⟩
theorem Zr3 : ∀ (m : List (α × β)) (p : α) (j : β), Zev c (m.map (·.1)) p = false → Zj5 c m p j = m.take (Zbf c (m.map (·.1)) p) ++ (p, j) :: m.drop (Zbf c (m.map (·.1)) p) ∧ Zem c m p = none
 | [], p, j, h => ⟨rfl, rfl⟩
 | m :: r, p, j, h => by
  rw [List.map_cons] at h ⊢
  unfold Zev at h
  unfold Zj5 Zbf Zem
  by_cases h1 : c m.1 p < 0
  ·rw [if_pos h1] at h
   rw [if_pos h1, if_pos h1, if_pos h1]
   obtain ⟨g1, g2⟩ := Zr3 r p j h
   exact ⟨by rw [g1]; rfl, g2⟩
  ·rw [if_neg h1] at h
   have h2 : ¬ c m.1 p = 0 := by simpa using h
   rw [if_neg h1, if_neg h1, if_neg h1, if_neg h2, if_neg h2]
   exact ⟨rfl, rfl⟩
theorem Zy0 : ∀ (m : List (α × β)) (p : α) (j : β), (Zj5 c m p j).length ≤ m.length + 1
 | [], p, j => by simp [Zj5]
 | m :: r, p, j => by
  unfold Zj5
  have := Zy0 r p j
  split
  ·simp; omega
  ·split <;> simp
variable {P : α → Prop}
theorem Zyx (O : OrdL c P) : ∀ (m : List (α × β)) {p : α} (j : β), P p → Zem c (Zj5 c m p j) p = some j
 | [], p, j, hp => by
  have h := O.self hp
  simp [Zj5, Zem, h]
 | m :: r, p, j, hp => by
  unfold Zj5
  by_cases h1 : c m.1 p < 0
  ·rw [if_pos h1]
   unfold Zem
   rw [if_pos h1]
   exact Zyx O r j hp
  ·rw [if_neg h1]
   by_cases h2 : c m.1 p = 0
   ·rw [if_pos h2]
    unfold Zem
    simp only
    rw [if_neg h1, if_pos h2]
   ·rw [if_neg h2]
    have h := O.self hp
    unfold Zem
    simp only
    rw [if_neg (by omega), if_pos h]
theorem Zt7 (O : OrdL c P) : ∀ (m : List (α × β)) {p q : α} (j : β), (∀ x ∈ m, P x.1) → P p → P q → c p q ≠ 0 → Zem c (Zj5 c m p j) q = Zem c m q
 | [], p, q, j, _, hp, hq, h => by
  unfold Zj5 Zem
  simp only
  split
  ·rfl
  ·first | rfl | (rw [if_neg h]; rfl)
 | m :: r, p, q, j, hm, hp, hq, h => by
  have hm1 : P m.1 := hm m (by simp)
  have hr : ∀ x ∈ r, P x.1 := fun x hx => hm x (by simp [hx])
  unfold Zj5
  by_cases h1 : c m.1 p < 0
  ·rw [if_pos h1]
   unfold Zem
   rw [Zt7 O r j hr hp hq h]
  ·rw [if_neg h1]
   by_cases h2 : c m.1 p = 0
   ·rw [if_pos h2]
    have e : c m.1 q = c p q := (O.tri m.1 p q hm1 hp hq).zp h2
    unfold Zem
    simp only
    rw [e]
    split
    ·rfl
    ·first | rfl | rw [if_neg h, if_neg h]
   ·rw [if_neg h2]
    have hpm : c p m.1 < 0 := by
     have := O.swp m.1 p hm1 hp
     omega
    by_cases h3 : c p q < 0
    ·show (if c p q < 0 then Zem c (m :: r) q else if c p q = 0 then some j else none) = _
     rw [if_pos h3]
    ·show (if c p q < 0 then Zem c (m :: r) q else if c p q = 0 then some j else none) = _
     rw [if_neg h3, if_neg h]
     have hqp : c q p < 0 := by
      have := O.swp p q hp hq
      have := (O.tri p q q hp hq hq).rp
      omega
     have hqm := O.lt hq hp hm1 hqp hpm
     have := O.swp q m.1 hq hm1
     unfold Zem
     rw [if_neg (by omega), if_neg (by omega)]
end
end Go.Proofs.YtgmahieoiifpfaaGreat
end
section
namespace Go.Proofs.YtgmahieoiifpfaaGreat
inductive ST (α : Type) where
 | mk (m : List α) (c : List (α × ST α))
section
variable {α : Type}
def ST.m : ST α → List α | .mk m _ => m
def ST.c : ST α → List (α × ST α) | .mk _ c => c
mutual
/-- The paths of a set, in the order of a Zgo. -/
def Zgo : ST α → List (List α)
 | .mk m c => m.map (fun x => [x]) ++ Zb5 c
def Zb5 : List (α × ST α) → List (List α)
 | [] => []
 | y :: r => (Zgo y.2).map (y.1 :: ·) ++ Zb5 r
end
def en : List α → Int
 | [] => 0
 | _ :: _ => 1
variable (c : α → α → Int) (P : α → Prop)
def cw : List α → List α → Int
 | [], [] => 0
 | [], _ :: _ => -1
 | _ :: _, [] => 1
 | x :: a, y :: b => lx (Zbv (en a) (en b)) (lx (c x y) (cw a b))
def Zer : ST α → List α → Bool
 | _, [] => false
 | t, [p] => Zaw c t.m p
 | t, p :: q :: r => match Zem c t.c p with
  | some t' => Zer t' (q :: r)
  | none => false
def Zgu : List α → ST α → ST α
 | [], t => t
 | [p], t => .mk (Zds c t.m p) t.c
 | p :: q :: r, t => .mk t.m (Zj5 c t.c p (Zgu (q :: r) ((Zem c t.c p).getD (.mk [] []))))
def ofP (ps : List (List α)) : ST α := ps.foldl (fun t p => Zgu c p t) (.mk [] [])
mutual
def WFT : ST α → Prop
 | .mk m ch => (∀ x ∈ m, P x) ∧ Srt c m ∧ Srt c (ch.map (·.1)) ∧ WFC ch
def WFC : List (α × ST α) → Prop
 | [] => True
 | y :: r => P y.1 ∧ WFT y.2 ∧ WFC r
end
mutual
/-- No node is without a path. -/
def NET : ST α → Prop
 | .mk m ch => NEC ch
def NEC : List (α × ST α) → Prop
 | [] => True
 | y :: r => Zgo y.2 ≠ [] ∧ NET y.2 ∧ NEC r
end
def PP (p : List α) : Prop := p ≠ [] ∧ ∀ x ∈ p, P x
variable {c P}
theorem Ypf (t : ST α) : Zgo t = t.m.map (fun x => [x]) ++ Zb5 t.c := by cases t; unfold Zgo; rfl
theorem WFT_iff {t : ST α} : WFT c P t ↔ (∀ x ∈ t.m, P x) ∧ Srt c t.m ∧ Srt c (t.c.map (·.1)) ∧ WFC c P t.c := by cases t; rw [WFT]; rfl
theorem WFC_iff {l : List (α × ST α)} : WFC c P l ↔ ∀ y ∈ l, P y.1 ∧ WFT c P y.2 := by
 induction l with
 | nil => unfold WFC; simp
 | cons y r ih => unfold WFC; rw [ih]; simp [and_assoc]
theorem NET_iff {t : ST α} : NET t ↔ ∀ y ∈ t.c, Zgo y.2 ≠ [] ∧ NET y.2 := by
 have h : ∀ l : List (α × ST α), NEC l ↔ ∀ y ∈ l, Zgo y.2 ≠ [] ∧ NET y.2 := fun l => by
  induction l with
  | nil => unfold NEC; simp
  | cons y r ih => unfold NEC; rw [ih]; simp [and_assoc]
 cases t; rw [NET]; exact h _
theorem Zw9 (O : OrdL c P) : ∀ (a b : List α), (∀ x ∈ a, P x) → (∀ x ∈ b, P x) → rng (cw c a b)
 | [], [], _, _ => .inr (.inl rfl)
 | [], _ :: _, _, _ => .inl rfl
 | _ :: _, [], _, _ => .inr (.inr rfl)
 | x :: a, y :: b, ha, hb => Zgz (Zc5 _ _) (Zgz (O.tri x y y (ha x (by simp)) (hb y (by simp)) (hb y (by simp))).rp (Zw9 O a b (fun z hz => ha z (by simp [hz])) fun z hz => hb z (by simp [hz])))
theorem Ysh (O : OrdL c P) : ∀ (a b d : List α), en a = en b → en b = en d → (∀ x ∈ a, P x) → (∀ x ∈ b, P x) → (∀ x ∈ d, P x) → Tri (cw c a b) (cw c b d) (cw c a d)
 | [], [], [], _, _, _, _, _ => Zej 0 0 0
 | x :: a, y :: b, z :: d, _, _, ha, hb, hd => by
  have hx := ha x (by simp)
  have hy := hb y (by simp)
  have hz := hd z (by simp)
  have ha' : ∀ x ∈ a, P x := fun z hz => ha z (by simp [hz])
  have hb' : ∀ x ∈ b, P x := fun z hz => hb z (by simp [hz])
  have hd' : ∀ x ∈ d, P x := fun z hz => hd z (by simp [hz])
  have R : ∀ x y : α, P x → P y → rng (c x y) := fun x y hx hy => (O.tri x y y hx hy hy).rp
  refine Zjm (Zej _ _ _) (Zgz (R _ _ hx hy) (Zw9 O _ _ ha' hb')) (Zgz (R _ _ hy hz) (Zw9 O _ _ hb' hd')) (Zgz (R _ _ hx hz) (Zw9 O _ _ ha' hd')) fun h1 h2 => ?_
  exact Zjm (O.tri x y z hx hy hz) (Zw9 O _ _ ha' hb') (Zw9 O _ _ hb' hd') (Zw9 O _ _ ha' hd') fun _ _ => Ysh O a b d (cmpI_zero.1 h1) (cmpI_zero.1 h2) ha' hb' hd'
theorem Yr0 (O : OrdL c P) : ∀ (a b : List α), (∀ x ∈ a, P x) → (∀ x ∈ b, P x) → cw c b a = - cw c a b
 | [], [], _, _ => rfl
 | [], _ :: _, _, _ => rfl
 | _ :: _, [], _, _ => rfl
 | x :: a, y :: b, ha, hb => by
  unfold cw
  rw [O.swp x y (ha x (by simp)) (hb y (by simp)), Yr0 O a b (fun z hz => ha z (by simp [hz])) (fun z hz => hb z (by simp [hz])), show Zbv (en b) (en a) = - Zbv (en a) (en b) from by unfold Zbv; split <;> split <;> omega, Zkv, Zkv]
theorem Zln {a : List α} (h : a ≠ []) : en a = 1 := by cases a with | nil => exact absurd rfl h | cons _ _ => rfl
theorem Yle (O : OrdL c P) : OrdL (cw c) (PP P) := ⟨fun a b d ha hb hd => Ysh O a b d (by rw [Zln ha.1, Zln hb.1]) (by rw [Zln hb.1, Zln hd.1]) ha.2 hb.2 hd.2, fun a b ha hb => Yr0 O a b ha.2 hb.2⟩
theorem Zcs (x y : α) (a b : List α) : cw c (x :: a) (y :: b) = lx (Zbv (en a) (en b)) (lx (c x y) (cw c a b)) := rfl
theorem Zrm : ∀ (a b : List α), cw c a b = 0 ↔ Zb7 c a b = 0
 | [], [] => Iff.rfl
 | [], _ :: _ => Iff.rfl
 | _ :: _, [] => Iff.rfl
 | x :: a, y :: b => by
  rw [Zcs, Zbs, Zct, Zct, Zct, Zrm a b]
  refine ⟨fun h => h.2, fun h => ⟨?_, h⟩⟩
  have := (cmpLx_zero.1 h.2).1
  cases a <;> cases b <;> first | rfl | (simp at this)
theorem Ydt (a b : List α) (q : α) : Zaw c (a ++ b) q = (Zaw c a q || Zaw c b q) := by unfold Zaw; rw [List.any_append]
theorem Zei {x : α} {l : List α} : Srt c (x :: l) ↔ (∀ y ∈ l, c x y < 0) ∧ Srt c l := List.pairwise_cons
theorem Zqf (O : OrdL c P) {l : List α} {x : α} (h : x ∈ l) (hx : P x) : Zaw c l x = true := by
 unfold Zaw
 exact List.any_eq_true.2 ⟨x, h, by simp [O.self hx]⟩
theorem Zyy {l : List α} {q : α} (h : Zaw c l q = true) : ∃ x ∈ l, c x q = 0 := by
 unfold Zaw at h
 obtain ⟨x, hx, h⟩ := List.any_eq_true.1 h
 exact ⟨x, hx, by simpa using h⟩
theorem Zlu (O : OrdL c P) {l : List α} {p q : α} (hl : ∀ x ∈ l, P x) (hp : P p) (hq : P q) (h : c p q = 0) : Zaw c l p = Zaw c l q := by
 have e : ∀ x ∈ l, (c x p = 0 ↔ c x q = 0) := fun x hx => by
  obtain ⟨_, _, _, h4, h5, _, _⟩ := O.tri x p q (hl x hx) hp hq
  exact ⟨fun h' => by rw [h4 h']; exact h, fun h' => by rw [h5 h] at h'; exact h'⟩
 unfold Zaw
 rw [Bool.eq_iff_iff, List.any_eq_true, List.any_eq_true]
 exact ⟨fun ⟨x, hx, h⟩ => ⟨x, hx, by simpa using (e x hx).1 (by simpa using h)⟩, fun ⟨x, hx, h⟩ => ⟨x, hx, by simpa using (e x hx).2 (by simpa using h)⟩⟩
theorem Zmb (O : OrdL c P) : ∀ (l l' : List α), (∀ x ∈ l, P x) → (∀ x ∈ l', P x) → Srt c l → Srt c l' → (∀ q, P q → Zaw c l q = Zaw c l' q) → Zb7 c l l' = 0
 | [], [], _, _, _, _, _ => rfl
 | [], y :: r, _, hl, _, _, h => by
  have := h y (hl y (by simp))
  rw [Zqf O (l := y :: r) (by simp) (hl y (by simp))] at this
  exact Bool.noConfusion this
 | x :: r, [], hl, _, _, _, h => by
  have := h x (hl x (by simp))
  rw [Zqf O (l := x :: r) (by simp) (hl x (by simp))] at this
  exact Bool.noConfusion this
 | x :: r, y :: r', hl, hl', hs, hs', h => by
  have hx := hl x (by simp)
  have hy := hl' y (by simp)
  have hr : ∀ z ∈ r, P z := fun z hz => hl z (by simp [hz])
  have hr' : ∀ z ∈ r', P z := fun z hz => hl' z (by simp [hz])
  rw [Zei] at hs hs'
  have hxy : c x y = 0 := by
   have h1 := h x hx
   rw [Zqf O (l := x :: r) (by simp) hx] at h1
   obtain ⟨z, hz, e1⟩ := Zyy h1.symm
   have h2 := h y hy
   rw [Zqf O (l := y :: r') (by simp) hy] at h2
   obtain ⟨u, hu, e2⟩ := Zyy h2
   rcases List.mem_cons.1 hz with rfl | hz
   ·have := O.swp z x hy hx; omega
   ·rcases List.mem_cons.1 hu with rfl | hu
    ·exact e2
    ·have h3 := hs'.1 z hz
     have h4 := hs.1 u hu
     have k1 : c x y = c x u := (O.tri x u y hx (hr u hu) hy).zq e2
     have k2 : c y x = c y z := (O.tri y z x hy (hr' z hz) hx).zq e1
     have := O.swp x y hx hy
     omega
  rw [Zbs, Zce hxy]
  refine Zmb O r r' hr hr' hs.2 hs'.2 fun q hq => ?_
  have h1 := h q hq
  rw [Zcc, Zcc, (O.tri x y q hx hy hq).zp hxy] at h1
  by_cases e : c y q = 0
  ·have e' : c x q = 0 := by rw [(O.tri x y q hx hy hq).zp hxy]; exact e
   have n1 : Zaw c r q = false := by
    rw [Zlu O hr hq hx (by have := O.swp x q hx hq; omega)]
    refine Bool.eq_false_iff.2 fun hc => ?_
    obtain ⟨z, hz, e0⟩ := Zyy hc
    have := hs.1 z hz
    have := O.swp x z hx (hr z hz)
    omega
   have n2 : Zaw c r' q = false := by
    rw [Zlu O hr' hq hy (by have := O.swp y q hy hq; omega)]
    refine Bool.eq_false_iff.2 fun hc => ?_
    obtain ⟨z, hz, e0⟩ := Zyy hc
    have := hs'.1 z hz
    have := O.swp y z hy (hr' z hz)
    omega
   rw [n1, n2]
  ·simpa [e] using h1
theorem Yil (t : ST α) : Zer c t [] = false := by unfold Zer; rfl
theorem Ze0 (t : ST α) (p : α) : Zer c t [p] = Zaw c t.m p := by unfold Zer; rfl
theorem Zgt (t : ST α) (p : α) {q : List α} (hq : q ≠ []) : Zer c t (p :: q) = (match Zem c t.c p with | some t' => Zer c t' q | none => false) := by
 cases q with
 | nil => exact absurd rfl hq
 | cons z r => rw [Zer]
theorem Zt6 {β : Type} (y : α × β) (r : List (α × β)) (p : α) : Zem c (y :: r) p = if c y.1 p < 0 then Zem c r p else if c y.1 p = 0 then some y.2 else none := rfl
mutual
theorem Ze5 : ∀ (t : ST α), WFT c P t → ∀ p ∈ Zgo t, PP P p
 | .mk m ch, h, p, hp => by
  unfold WFT at h
  unfold Zgo at hp
  rcases List.mem_append.1 hp with hp | hp
  ·obtain ⟨x, hx, rfl⟩ := List.mem_map.1 hp
   exact ⟨by simp, fun z hz => by rw [List.mem_singleton] at hz; rw [hz]; exact h.1 x hx⟩
  ·obtain ⟨x, q, rfl, h1, h2⟩ := Zs3 ch h.2.2.2 p hp
   exact ⟨by simp, fun z hz => by
    rcases List.mem_cons.1 hz with rfl | hz
    ·exact h1
    ·exact h2.2 z hz⟩
theorem Zs3 : ∀ (l : List (α × ST α)), WFC c P l → ∀ p ∈ Zb5 l, ∃ x q, p = x :: q ∧ P x ∧ PP P q
 | [], _, p, hp => by unfold Zb5 at hp; cases hp
 | y :: r, h, p, hp => by
  unfold WFC at h
  unfold Zb5 at hp
  rcases List.mem_append.1 hp with hp | hp
  ·obtain ⟨q, hq, rfl⟩ := List.mem_map.1 hp
   exact ⟨_, _, rfl, h.1, Ze5 y.2 h.2.1 q hq⟩
  ·exact Zs3 r h.2.2 p hp
end
theorem Yii {β : Type} : ∀ {l : List (α × β)} {x : α}, (∀ y ∈ l, 0 < c y.1 x) → Zem c l x = none
 | [], _, _ => rfl
 | y :: r, x, h => by
  have := h y (by simp)
  unfold Zem
  rw [if_neg (by omega), if_neg (by omega)]
theorem Zwm {β : Type} (O : OrdL c P) : ∀ {l : List (α × β)} {x y : α}, (∀ z ∈ l, P z.1) → P x → P y → c x y = 0 → Zem c l x = Zem c l y
 | [], _, _, _, _, _, _ => rfl
 | z :: r, x, y, hl, hx, hy, h => by
  have e : c z.1 y = c z.1 x := (O.tri z.1 x y (hl z (by simp)) hx hy).zq h
  unfold Zem
  rw [e, Zwm O (fun z hz => hl z (by simp [hz])) hx hy h]
theorem Zoc {β : Type} : ∀ {l : List (α × β)} {x : α} {t : β}, Zem c l x = some t → ∃ k, (k, t) ∈ l ∧ c k x = 0
 | [], _, _, h => by cases h
 | y :: r, x, t, h => by
  unfold Zem at h
  split at h
  ·obtain ⟨k, h1, h2⟩ := Zoc h
   exact ⟨k, by simp [h1], h2⟩
  ·split at h
   ·rename_i e
    cases h
    exact ⟨y.1, by simp, e⟩
   ·cases h
theorem any_map {β γ : Type} (f : β → γ) (p : γ → Bool) (l : List β) : (l.map f).any p = l.any fun x => p (f x) := by simp [List.any_map, Function.comp_def]
theorem Yim (m : List α) (p : α) (q : List α) : Zaw (cw c) (m.map fun x => [x]) (p :: q) = (q.isEmpty && Zaw c m p) := by
 unfold Zaw
 rw [any_map]
 cases q with
 | nil =>
  simp only [List.isEmpty_nil, Bool.true_and]
  congr 1
  funext x
  rw [Zcs]
  simp [en, Zbv, lx, cw]
 | cons z r =>
  simp only [List.isEmpty_cons, Bool.false_and]
  rw [List.any_eq_false]
  intro x _
  rw [Zcs]
  simp [en, Zbv, lx]
theorem Ydv (l : List (List α)) (hl : ∀ a ∈ l, a ≠ []) (x p : α) (q : List α) : Zaw (cw c) (l.map (x :: ·)) (p :: q) = (!q.isEmpty && decide (c x p = 0) && Zaw (cw c) l q) := by
 unfold Zaw
 rw [any_map]
 cases q with
 | nil =>
  simp only [List.isEmpty_nil, Bool.not_true, Bool.false_and]
  rw [List.any_eq_false]
  intro a ha
  rw [Zcs, Zln (hl a ha)]
  simp [en, Zbv, lx]
 | cons z r =>
  simp only [List.isEmpty_cons, Bool.not_false, Bool.true_and]
  by_cases h : c x p = 0
  ·rw [decide_eq_true h, Bool.true_and, Bool.eq_iff_iff, List.any_eq_true, List.any_eq_true]
   have e : ∀ a ∈ l, cw c (x :: a) (p :: z :: r) = cw c a (z :: r) := fun a ha => by
    rw [Zcs, Zln (hl a ha), show Zbv 1 (en (z :: r)) = 0 from rfl, Zce rfl, Zce h]
   exact ⟨fun ⟨a, ha, h⟩ => ⟨a, ha, by rw [e a ha] at h; exact h⟩, fun ⟨a, ha, h⟩ => ⟨a, ha, by rw [e a ha]; exact h⟩⟩
  ·rw [decide_eq_false h, Bool.false_and, List.any_eq_false]
   intro a ha
   rw [Zcs, Zln (hl a ha), show Zbv 1 (en (z :: r)) = 0 from rfl, Zce rfl, Zee h]
   simp [h]
mutual
theorem Zkp (O : OrdL c P) : ∀ (t : ST α), WFT c P t → ∀ (p : α) (q : List α), P p → (∀ x ∈ q, P x) → Zaw (cw c) (Zgo t) (p :: q) = Zer c t (p :: q)
 | .mk m ch, h, p, q, hp, hq => by
  unfold WFT at h
  unfold Zgo
  rw [Ydt, Yim, Zub O ch h.2.2.2 h.2.2.1 p q hp hq]
  cases q with
  | nil => simp [Zer, ST.m]
  | cons z r =>
   rw [Zgt _ _ (by simp)]
   simp only [List.isEmpty_cons, Bool.false_and, Bool.false_or, Bool.not_false, Bool.true_and]
   rfl
theorem Zub (O : OrdL c P) : ∀ (l : List (α × ST α)), WFC c P l → Srt c (l.map (·.1)) → ∀ (p : α) (q : List α), P p → (∀ x ∈ q, P x) → Zaw (cw c) (Zb5 l) (p :: q) = (!q.isEmpty && (match Zem c l p with | some t => Zer c t q | none => false))
 | [], _, _, p, q, _, _ => by unfold Zb5; simp [Zaw, Zem]
 | y :: r, h, hs, p, q, hp, hq => by
  have hr := h
  unfold WFC at h
  have hk := WFC_iff.1 hr
  rw [List.map_cons, Zei] at hs
  unfold Zb5
  have hne : ∀ a ∈ Zgo y.2, a ≠ [] := fun a ha => (Ze5 y.2 h.2.1 a ha).1
  rw [Ydt, Ydv _ hne, Zub O r h.2.2 hs.2 p q hp hq]
  cases q with
  | nil => rfl
  | cons z w =>
  rw [Zkp O y.2 h.2.1 z w (hq z (by simp)) fun x hx => hq x (by simp [hx])]
  simp only [List.isEmpty_cons, Bool.not_false, Bool.true_and]
  have hgt : ¬ c y.1 p < 0 → ∀ u ∈ r, 0 < c u.1 p := fun hn u hu => by
   have h1 := hs.1 u.1 (List.mem_map.2 ⟨u, hu, rfl⟩)
   exact Zz5 O h.1 (fun x hx => by obtain ⟨v, hv, rfl⟩ := List.mem_map.1 hx; exact (hk v (by simp [hv])).1) hp (by rw [Zei]; exact hs) hn u.1 (List.mem_map.2 ⟨u, hu, rfl⟩)
  rw [Zt6]
  by_cases h1 : c y.1 p < 0
  ·rw [if_pos h1, decide_eq_false (by omega), Bool.false_and, Bool.false_or]
  ·rw [if_neg h1, Yii (hgt h1)]
   by_cases h2 : c y.1 p = 0
   ·rw [if_pos h2, decide_eq_true h2]; simp
   ·rw [if_neg h2, decide_eq_false h2]; simp
end
theorem srt_app {a b : List α} : Srt c (a ++ b) ↔ Srt c a ∧ Srt c b ∧ ∀ x ∈ a, ∀ y ∈ b, c x y < 0 := List.pairwise_append
mutual
theorem Znn (O : OrdL c P) : ∀ (t : ST α), WFT c P t → Srt (cw c) (Zgo t)
 | .mk m ch, h => by
  unfold WFT at h
  unfold Zgo
  refine srt_app.2 ⟨?_, Zvq O ch h.2.2.2 h.2.2.1, fun a ha b hb => ?_⟩
  ·unfold Srt
   rw [List.pairwise_map]
   refine List.Pairwise.imp (fun {x y} hxy => ?_) h.2.1
   rw [Zcs, Zce (show Zbv (en ([] : List α)) (en []) = 0 from rfl), Zee (by omega)]
   exact hxy
  ·obtain ⟨x, _, rfl⟩ := List.mem_map.1 ha
   obtain ⟨k, q, rfl, _, hq⟩ := Zs3 ch h.2.2.2 b hb
   rw [Zcs, Zln hq.1]
   show lx (-1) _ < 0
   rw [Zee (by decide)]
   decide
theorem Zvq (O : OrdL c P) : ∀ (l : List (α × ST α)), WFC c P l → Srt c (l.map (·.1)) → Srt (cw c) (Zb5 l)
 | [], _, _ => by unfold Zb5; exact List.Pairwise.nil
 | y :: r, h, hs => by
  unfold WFC at h
  rw [List.map_cons, Zei] at hs
  unfold Zb5
  refine srt_app.2 ⟨?_, Zvq O r h.2.2 hs.2, fun a ha b hb => ?_⟩
  ·unfold Srt
   rw [List.pairwise_map]
   refine List.Pairwise.imp_of_mem (fun {a b} ha hb hab => ?_) (Znn O y.2 h.2.1)
   rw [Zcs, Zln (Ze5 y.2 h.2.1 a ha).1, Zln (Ze5 y.2 h.2.1 b hb).1, Zce (show Zbv 1 1 = 0 from rfl), Zce (O.self h.1)]
   exact hab
  ·obtain ⟨q, hq, rfl⟩ := List.mem_map.1 ha
   have hb' : ∃ u ∈ r, ∃ q', b = u.1 :: q' ∧ q' ≠ [] := by
    clear hs ha
    induction r with
    | nil => unfold Zb5 at hb; cases hb
    | cons u r ih =>
     have hc := h.2.2
     unfold WFC at hc
     unfold Zb5 at hb
     rcases List.mem_append.1 hb with hb | hb
     ·obtain ⟨q', hq', rfl⟩ := List.mem_map.1 hb
      exact ⟨u, by simp, q', rfl, (Ze5 u.2 hc.2.1 q' hq').1⟩
     ·obtain ⟨v, hv, h'⟩ := ih ⟨h.1, h.2.1, hc.2.2⟩ hb
      exact ⟨v, by simp [hv], h'⟩
   obtain ⟨u, hu, q', rfl, hq'⟩ := hb'
   have := hs.1 u.1 (List.mem_map.2 ⟨u, hu, rfl⟩)
   rw [Zcs, Zln (Ze5 y.2 h.2.1 q hq).1, Zln hq', Zce (show Zbv 1 1 = 0 from rfl), Zee (by omega)]
   exact this
end
end
end Go.Proofs.YtgmahieoiifpfaaGreat
end
section
namespace Go.Proofs.YtgmahieoiifpfaaGreat
section
variable {α : Type} {c : α → α → Int} {P : α → Prop}
theorem Zhx : WFT c P (ST.mk [] []) := by unfold WFT WFC; simp [Srt]
theorem Zt9 (p : List α) : Zer c (ST.mk [] []) p = false := by
 match p with
 | [] => unfold Zer; rfl
 | [_] => unfold Zer; simp [Zaw, ST.m]
 | _ :: _ :: _ => unfold Zer; simp [Zem, ST.c]
theorem Zi5 {β : Type} : ∀ {l : List (α × β)} {p : α} {j : β} {y : α × β}, y ∈ Zj5 c l p j → y ∈ l ∨ (y.2 = j ∧ (y.1 = p ∨ ∃ z ∈ l, z.1 = y.1))
 | [], p, j, y, h => by
  unfold Zj5 at h
  rw [List.mem_singleton] at h
  subst h
  exact .inr ⟨rfl, .inl rfl⟩
 | m :: r, p, j, y, h => by
  unfold Zj5 at h
  split at h
  ·rcases List.mem_cons.1 h with rfl | h
   ·exact .inl (by simp)
   ·rcases Zi5 h with h | ⟨h1, h2⟩
    ·exact .inl (by simp [h])
    ·refine .inr ⟨h1, h2.imp id fun ⟨z, hz, e⟩ => ⟨z, by simp [hz], e⟩⟩
  ·split at h
   ·rcases List.mem_cons.1 h with rfl | h
    ·exact .inr ⟨rfl, .inr ⟨m, by simp, rfl⟩⟩
    ·exact .inl (by simp [h])
   ·rcases List.mem_cons.1 h with rfl | h
    ·exact .inr ⟨rfl, .inl rfl⟩
    ·exact .inl h
theorem Ym8 {β : Type} (O : OrdL c P) {l : List (α × β)} {p q : α} (j : β) (hl : ∀ x ∈ l, P x.1) (hp : P p) (hq : P q) : Zem c (Zj5 c l p j) q = if c p q = 0 then some j else Zem c l q := by
 split
 ·rename_i h
  rw [← Zwm O (fun z hz => ?_) hp hq h, Zyx O l j hp]
  rcases Zi5 hz with hz | ⟨_, h | ⟨u, hu, e⟩⟩
  ·exact hl z hz
  ·rw [h]; exact hp
  ·rw [← e]; exact hl u hu
 ·rename_i h
  exact Zt7 O l j hl hp hq h
theorem Zrw {l : List (α × ST α)} (h : WFC c P l) {x : α} {t : ST α} (hx : Zem c l x = some t) : WFT c P t := by
 obtain ⟨k, hk, _⟩ := Zoc hx
 exact (WFC_iff.1 h _ hk).2
theorem Zwr (O : OrdL c P) : ∀ (p : List α) (t : ST α), (∀ x ∈ p, P x) → WFT c P t → WFT c P (Zgu c p t)
 | [], t, _, h => by unfold Zgu; exact h
 | [p], t, hp, h => by
  unfold Zgu
  obtain ⟨h1, h2, h3, h4⟩ := WFT_iff.1 h
  have hP := hp p (by simp)
  exact WFT_iff.2 ⟨Ylj h1 hP, Znm O h1 hP h2, h3, h4⟩
 | p :: q :: r, t, hp, h => by
  unfold Zgu
  obtain ⟨h1, h2, h3, h4⟩ := WFT_iff.1 h
  have hP := hp p (by simp)
  have hk : ∀ x ∈ t.c.map (·.1), P x := fun x hx => by
   obtain ⟨y, hy, rfl⟩ := List.mem_map.1 hx
   exact (WFC_iff.1 h4 y hy).1
  have hs : WFT c P ((Zem c t.c p).getD (.mk [] [])) := by
   cases hg : Zem c t.c p with
   | none => exact Zhx
   | some t' => exact Zrw h4 hg
  have hi := Zwr O (q :: r) _ (fun x hx => hp x (by simp [hx])) hs
  refine WFT_iff.2 ⟨h1, h2, ?_, WFC_iff.2 fun y hy => ?_⟩
  ·show Srt c ((Zj5 c t.c p _).map (·.1))
   rw [Zuk]
   exact Znm O hk hP h3
  ·have hy : y ∈ Zj5 c t.c p (Zgu c (q :: r) ((Zem c t.c p).getD (.mk [] []))) := hy
   rcases Zi5 hy with hy | ⟨e, h | ⟨z, hz, e'⟩⟩
   ·exact WFC_iff.1 h4 y hy
   ·rw [e, h]; exact ⟨hP, hi⟩
   ·rw [e, ← e']; exact ⟨(WFC_iff.1 h4 z hz).1, hi⟩
theorem Yih (l : List (α × ST α)) (p : α) (q : List α) : Zer c ((Zem c l p).getD (.mk [] [])) q = (match Zem c l p with | some t' => Zer c t' q | none => false) := by
 cases Zem c l p with
 | none => exact Zt9 q
 | some t => rfl
theorem Zrz (O : OrdL c P) : ∀ (p : List α) (t : ST α) (q : List α), (∀ x ∈ p, P x) → p ≠ [] → WFT c P t → PP P q → Zer c (Zgu c p t) q = (Zer c t q || decide (cw c p q = 0))
 | [], _, _, _, h, _, _ => absurd rfl h
 | [p], t, [q], hp, _, h, hq => by
  obtain ⟨h1, h2, h3, h4⟩ := WFT_iff.1 h
  rw [Ze0, Ze0]
  unfold Zgu
  show Zaw c (Zds c t.m p) q = _
  rw [Zwp O h1 (hp p (by simp)) (hq.2 q (by simp)), Zcs, Zce (show Zbv (en ([] : List α)) (en []) = 0 from rfl), show cw c ([] : List α) [] = 0 from rfl]
  congr 1
  unfold lx
  split <;> simp_all
 | [p], t, q :: z :: r, hp, _, h, hq => by
  rw [Zgt _ _ (by simp), Zgt _ _ (by simp)]
  unfold Zgu
  show _ = (_ || decide (lx (-1) _ = 0))
  rw [Zee (show (-1 : Int) ≠ 0 by decide), decide_eq_false (show ¬ (-1 : Int) = 0 by decide), Bool.or_false]
  rfl
 | p :: z :: r, t, [q], hp, _, h, hq => by
  rw [Ze0, Ze0]
  unfold Zgu
  show _ = (_ || decide (lx 1 _ = 0))
  rw [Zee (show (1 : Int) ≠ 0 by decide), decide_eq_false (show ¬ (1 : Int) = 0 by decide), Bool.or_false]
  rfl
 | p :: z :: r, t, q :: y :: w, hp, _, h, hq => by
  obtain ⟨h1, h2, h3, h4⟩ := WFT_iff.1 h
  have hP := hp p (by simp)
  have hQ := hq.2 q (by simp)
  have hk : ∀ x ∈ t.c, P x.1 := fun x hx => (WFC_iff.1 h4 x hx).1
  rw [Zgt _ _ (by simp), Zgt _ _ (by simp)]
  unfold Zgu
  show (match Zem c (Zj5 c t.c p (Zgu c (z :: r) ((Zem c t.c p).getD (.mk [] [])))) q with | some t' => Zer c t' (y :: w) | none => false) = _
  rw [Ym8 O _ hk hP hQ, Zcs, Zce (show Zbv (en (z :: r)) (en (y :: w)) = 0 from rfl)]
  by_cases e : c p q = 0
  ·rw [if_pos e, Zce e]
   have hs : WFT c P ((Zem c t.c p).getD (.mk [] [])) := by
    cases hg : Zem c t.c p with
    | none => exact Zhx
    | some t' => exact Zrw h4 hg
   show Zer c (Zgu c (z :: r) ((Zem c t.c p).getD (.mk [] []))) (y :: w) = _
   rw [Zrz O (z :: r) _ (y :: w) (fun x hx => hp x (by simp [hx])) (by simp) hs ⟨by simp, fun x hx => hq.2 x (by simp [hx])⟩, Yih, Zwm O hk hP hQ e]
   first | done | rfl
  ·rw [if_neg e, Zee e, decide_eq_false e, Bool.or_false]
   first | done | rfl
theorem Zu0 (O : OrdL c P) {t : ST α} (h : WFT c P t) {p : List α} (hp : PP P p) (hh : Zer c t p = true) : Zgo t ≠ [] := by
 cases p with
 | nil => exact absurd rfl hp.1
 | cons x q =>
  rw [← Zkp O t h x q (hp.2 x (by simp)) fun z hz => hp.2 z (by simp [hz])] at hh
  intro e
  rw [e] at hh
  cases hh
theorem Yd5 (O : OrdL c P) : ∀ (p : List α) (t : ST α), (∀ x ∈ p, P x) → WFT c P t → NET t → NET (Zgu c p t)
 | [], t, _, _, h => by unfold Zgu; exact h
 | [p], t, _, _, h => by unfold Zgu; exact NET_iff.2 fun y hy => NET_iff.1 h y hy
 | p :: q :: r, t, hp, hw, h => by
  unfold Zgu
  obtain ⟨h1, h2, h3, h4⟩ := WFT_iff.1 hw
  have hs : WFT c P ((Zem c t.c p).getD (.mk [] [])) ∧ NET ((Zem c t.c p).getD (.mk [] [])) := by
   cases hg : Zem c t.c p with
   | none => exact ⟨Zhx, NET_iff.2 (by simp [ST.c])⟩
   | some t' =>
    obtain ⟨k, hk, _⟩ := Zoc hg
    exact ⟨Zrw h4 hg, (NET_iff.1 h _ hk).2⟩
  have hq : ∀ x ∈ q :: r, P x := fun x hx => hp x (by simp [hx])
  refine NET_iff.2 fun y hy => ?_
  have hy : y ∈ Zj5 c t.c p (Zgu c (q :: r) ((Zem c t.c p).getD (.mk [] []))) := hy
  rcases Zi5 hy with hy | ⟨e, _⟩
  ·exact NET_iff.1 h y hy
  ·rw [e]
   refine ⟨Zu0 O (Zwr O _ _ hq hs.1) ⟨by simp, hq⟩ ?_, Yd5 O _ _ hq hs.1 hs.2⟩
   rw [Zrz O _ _ _ hq (by simp) hs.1 ⟨by simp, hq⟩, (Yle O).self ⟨by simp, hq⟩]
   simp
theorem Zsi (O : OrdL c P) : ∀ (ps : List (List α)) (t : ST α), (∀ p ∈ ps, ∀ x ∈ p, P x) → WFT c P t → NET t → WFT c P (ps.foldl (fun t p => Zgu c p t) t) ∧ NET (ps.foldl (fun t p => Zgu c p t) t) ∧ ∀ q, PP P q → Zer c (ps.foldl (fun t p => Zgu c p t) t) q = (Zer c t q || Zaw (cw c) ps q)
 | [], t, _, h, hn => ⟨h, hn, fun q _ => by simp [Zaw]⟩
 | p :: r, t, hp, h, hn => by
  have h1 : ∀ x ∈ p, P x := hp p (by simp)
  obtain ⟨g1, g2, g3⟩ := Zsi O r (Zgu c p t) (fun q hq => hp q (by simp [hq])) (Zwr O p t h1 h) (Yd5 O p t h1 h hn)
  rw [List.foldl_cons]
  refine ⟨g1, g2, fun q hq => ?_⟩
  rw [g3 q hq, Zcc]
  by_cases e : p = []
  ·subst e
   have : cw c ([] : List α) q ≠ 0 := by
    cases q with
    | nil => exact absurd rfl hq.1
    | cons _ _ => exact (show (-1 : Int) ≠ 0 by decide)
   rw [decide_eq_false this]
   unfold Zgu
   simp
  ·rw [Zrz O p t q h1 e h hq, Bool.or_assoc]
variable {ps : List (List α)}
theorem Yeq (O : OrdL c P) (h : ∀ p ∈ ps, ∀ x ∈ p, P x) : WFT c P (ofP c ps) := (Zsi O ps _ h Zhx (NET_iff.2 (by simp [ST.c]))).1
theorem Yn6 (O : OrdL c P) (h : ∀ p ∈ ps, ∀ x ∈ p, P x) : NET (ofP c ps) := (Zsi O ps _ h Zhx (NET_iff.2 (by simp [ST.c]))).2.1
theorem Yn8 (O : OrdL c P) (h : ∀ p ∈ ps, ∀ x ∈ p, P x) {q : List α} (hq : PP P q) : Zer c (ofP c ps) q = Zaw (cw c) ps q := by
 unfold ofP
 rw [(Zsi O ps _ h Zhx (NET_iff.2 (by simp [ST.c]))).2.2 q hq, Zt9, Bool.false_or]
end
end Go.Proofs.YtgmahieoiifpfaaGreat
end
section
namespace Go.Proofs.YtgmahieoiifpfaaGreat
section
variable {α : Type} {c : α → α → Int}
mutual
/-- No list of the set is longer than n. -/
def SzT (n : Nat) : ST α → Prop
 | .mk m ch => m.length ≤ n ∧ ch.length ≤ n ∧ SzC n ch
def SzC (n : Nat) : List (α × ST α) → Prop
 | [] => True
 | y :: r => SzT n y.2 ∧ SzC n r
end
theorem Ylv {n : Nat} {l : List (α × ST α)} : SzC n l ↔ ∀ y ∈ l, SzT n y.2 := by
 induction l with
 | nil => unfold SzC; simp
 | cons y r ih => unfold SzC; rw [ih]; simp
theorem SzT_iff {n : Nat} {t : ST α} : SzT n t ↔ t.m.length ≤ n ∧ t.c.length ≤ n ∧ ∀ y ∈ t.c, SzT n y.2 := by
 cases t
 rw [SzT, Ylv]
 rfl
theorem Zzh {n : Nat} : SzT n (ST.mk [] [] : ST α) := by rw [SzT_iff]; simp [ST.m, ST.c]
theorem Ym7 {n : Nat} {l : List (α × ST α)} (h : ∀ y ∈ l, SzT n y.2) {x : α} {t : ST α} (hx : Zem c l x = some t) : SzT n t := by
 obtain ⟨k, h1, _⟩ := Zoc hx
 exact h _ h1
theorem Zyv {n : Nat} {l : List (α × ST α)} (h : ∀ y ∈ l, SzT n y.2) {x : α} : SzT n ((Zem c l x).getD (.mk [] [])) := by
 cases hx : Zem c l x with
 | none => exact Zzh
 | some t => exact Ym7 h hx
theorem Yd0 : ∀ (l : List α) (p : α), (Zds c l p).length ≤ l.length + 1
 | [], p => by simp [Zds]
 | x :: r, p => by
  unfold Zds
  have := Yd0 r p
  split
  ·simp; omega
  ·split <;> simp
mutual
theorem Zj8 {n k : Nat} (h : n ≤ k) : ∀ (t : ST α), SzT n t → SzT k t
 | .mk m ch, ht => by
  unfold SzT at ht ⊢
  exact ⟨by omega, by omega, Zxn h ch ht.2.2⟩
theorem Zxn {n k : Nat} (h : n ≤ k) : ∀ (l : List (α × ST α)), SzC n l → SzC k l
 | [], _ => by unfold SzC; trivial
 | y :: r, ht => by
  unfold SzC at ht ⊢
  exact ⟨Zj8 h y.2 ht.1, Zxn h r ht.2⟩
end
theorem Yd6 {n : Nat} : ∀ (p : List α) (t : ST α), SzT n t → SzT (n + 1) (Zgu c p t)
 | [], t, h => by unfold Zgu; exact Zj8 (by omega) t h
 | [p], t, h => by
  obtain ⟨h1, h2, h3⟩ := SzT_iff.1 h
  unfold Zgu
  rw [SzT_iff]
  have := Yd0 (c := c) t.m p
  exact ⟨by show (Zds c t.m p).length ≤ n + 1; omega, by show t.c.length ≤ n + 1; omega, fun y hy => Zj8 (by omega) _ (h3 y hy)⟩
 | p :: q :: r, t, h => by
  obtain ⟨h1, h2, h3⟩ := SzT_iff.1 h
  unfold Zgu
  rw [SzT_iff]
  have hl := Zy0 (c := c) t.c p (Zgu c (q :: r) ((Zem c t.c p).getD (.mk [] [])))
  refine ⟨by show t.m.length ≤ n + 1; omega, by show (Zj5 c t.c p _).length ≤ n + 1; omega, fun y hy => ?_⟩
  rcases Zi5 hy with h | ⟨h, _⟩
  ·exact Zj8 (by omega) _ (h3 y h)
  ·rw [h]
   exact Yd6 (q :: r) _ (Zyv h3)
end
end Go.Proofs.YtgmahieoiifpfaaGreat
end
section
namespace Go.Proofs.YtgmahieoiifpfaaGreat
section
variable {α γ : Type} (c : α → α → Int) (k : γ → α)
def Zb8 (l : List γ) (q : α) : Option γ := l.find? fun z => decide (c (k z) q = 0)
variable (fl fr : γ → Option γ) (fb : γ → γ → Option γ)
def mrg : List γ → List γ → List γ
 | [], b => b.filterMap fr
 | x :: a, [] => (x :: a).filterMap fl
 | x :: a, y :: b => if c (k x) (k y) < 0 then (fl x).toList ++ mrg a (y :: b) else if c (k y) (k x) < 0 then (fr y).toList ++ mrg (x :: a) b else (fb x y).toList ++ mrg a b
termination_by a b => a.length + b.length
def Yk9 (f g : Option γ) : Option γ := match f, g with
 | none, none => none
 | some x, none => fl x
 | none, some y => fr y
 | some x, some y => fb x y
variable {c k fl fr fb} {P : α → Prop}
theorem Zjy (b : List γ) : mrg c k fl fr fb [] b = b.filterMap fr := by rw [mrg]
theorem Zhw (a : List γ) : mrg c k fl fr fb a [] = a.filterMap fl := by
 cases a with
 | nil => rw [mrg]; rfl
 | cons x a => rw [mrg]
theorem Zhv (x y : γ) (a b : List γ) : mrg c k fl fr fb (x :: a) (y :: b) = if c (k x) (k y) < 0 then (fl x).toList ++ mrg c k fl fr fb a (y :: b) else if c (k y) (k x) < 0 then (fr y).toList ++ mrg c k fl fr fb (x :: a) b else (fb x y).toList ++ mrg c k fl fr fb a b := by rw [mrg]
theorem Zdj (x : γ) (l : List γ) (q : α) : Zb8 c k (x :: l) q = if c (k x) q = 0 then some x else Zb8 c k l q := by
 unfold Zb8
 rw [List.find?_cons]
 by_cases h : c (k x) q = 0
 ·rw [if_pos h, decide_eq_true h]
 ·rw [if_neg h, decide_eq_false h]
theorem Zt0 (q : α) : Zb8 c k [] q = none := rfl
theorem Zki {o : Option γ} {x : α} {l : List γ} {q : α} (h : ∀ z, o = some z → c (k z) q = c x q) : Zb8 c k (o.toList ++ l) q = if c x q = 0 then o.or (Zb8 c k l q) else Zb8 c k l q := by
 cases o with
 | none => simp
 | some z =>
  show Zb8 c k (z :: l) q = _
  rw [Zdj, h z rfl]
  rfl
theorem Zf5 {l : List γ} {q : α} (h : ∀ z ∈ l, c (k z) q ≠ 0) : Zb8 c k l q = none := by
 unfold Zb8
 rw [List.find?_eq_none]
 intro z hz
 simpa using h z hz
theorem Zhb {l : List γ} {q : α} {z : γ} (h : Zb8 c k l q = some z) : z ∈ l ∧ c (k z) q = 0 := by
 unfold Zb8 at h
 exact ⟨List.mem_of_find?_eq_some h, by simpa using List.find?_some h⟩
theorem Zrt {f : γ → Option γ} (hf : ∀ x z, f x = some z → k z = k x) : ∀ {l : List γ} (q : α), Srt c (l.map k) → OrdL c P → (∀ x ∈ l, P (k x)) → P q → Zb8 c k (l.filterMap f) q = (match Zb8 c k l q with | some x => f x | none => none)
 | [], q, _, _, _, _ => rfl
 | x :: l, q, hs, O, hP, hq => by
  rw [List.map_cons, Zei] at hs
  have hx := hP x (by simp)
  have hl : ∀ z ∈ l, P (k z) := fun z hz => hP z (by simp [hz])
  have ih := Zrt hf q hs.2 O hl hq
  have e : (x :: l).filterMap f = (f x).toList ++ l.filterMap f := by
   rw [List.filterMap_cons]
   cases f x <;> rfl
  rw [e, Zki (x := k x) fun z hz => by rw [hf x z hz], Zdj, ih]
  by_cases h : c (k x) q = 0
  ·rw [if_pos h, if_pos h]
   have hn : Zb8 c k l q = none := Zf5 fun z hz h0 => by
    have h1 := hs.1 (k z) (List.mem_map.2 ⟨z, hz, rfl⟩)
    have h2 := (O.tri (k x) (k z) q hx (hl z hz) hq)
    have h3 := O.swp (k z) q (hl z hz) hq
    have h4 := h2.zq h0
    omega
   rw [hn]
   simp only
   cases f x <;> rfl
  ·rw [if_neg h, if_neg h]
variable (hl : ∀ x z, fl x = some z → k z = k x) (hr : ∀ y z, fr y = some z → k z = k y) (hb : ∀ x y z, fb x y = some z → k z = k x ∨ k z = k y)
theorem Zl4 : ∀ (a b : List γ) {z : γ}, z ∈ mrg c k fl fr fb a b → (∃ x ∈ a, fl x = some z) ∨ (∃ y ∈ b, fr y = some z) ∨ ∃ x ∈ a, ∃ y ∈ b, fb x y = some z
 | [], b, z, h => by
  rw [Zjy, List.mem_filterMap] at h
  exact .inr (.inl h)
 | x :: a, [], z, h => by
  rw [Zhw, List.mem_filterMap] at h
  exact .inl h
 | x :: a, y :: b, z, h => by
  rw [Zhv] at h
  split at h
  ·rcases List.mem_append.1 h with h | h
   ·exact .inl ⟨x, by simp, by simpa using h⟩
   ·rcases Zl4 a (y :: b) h with ⟨u, h1, h2⟩ | h | ⟨u, h1, h2⟩
    ·exact .inl ⟨u, by simp [h1], h2⟩
    ·exact .inr (.inl h)
    ·exact .inr (.inr ⟨u, by simp [h1], h2⟩)
  ·split at h
   ·rcases List.mem_append.1 h with h | h
    ·exact .inr (.inl ⟨y, by simp, by simpa using h⟩)
    ·rcases Zl4 (x :: a) b h with h | ⟨u, h1, h2⟩ | ⟨u, h1, v, h2, h3⟩
     ·exact .inl h
     ·exact .inr (.inl ⟨u, by simp [h1], h2⟩)
     ·exact .inr (.inr ⟨u, h1, v, by simp [h2], h3⟩)
   ·rcases List.mem_append.1 h with h | h
    ·exact .inr (.inr ⟨x, by simp, y, by simp, by simpa using h⟩)
    ·rcases Zl4 a b h with ⟨u, h1, h2⟩ | ⟨u, h1, h2⟩ | ⟨u, h1, v, h2, h3⟩
     ·exact .inl ⟨u, by simp [h1], h2⟩
     ·exact .inr (.inl ⟨u, by simp [h1], h2⟩)
     ·exact .inr (.inr ⟨u, by simp [h1], v, by simp [h2], h3⟩)
termination_by a b => a.length + b.length
include hl hr hb
theorem Zsg {a b : List γ} {z : γ} (h : z ∈ mrg c k fl fr fb a b) : (∃ x ∈ a, k z = k x) ∨ ∃ y ∈ b, k z = k y := by
 rcases Zl4 a b h with ⟨x, h1, h2⟩ | ⟨x, h1, h2⟩ | ⟨x, h1, y, h2, h3⟩
 ·exact .inl ⟨x, h1, hl _ _ h2⟩
 ·exact .inr ⟨x, h1, hr _ _ h2⟩
 ·rcases hb _ _ _ h3 with h | h
  ·exact .inl ⟨x, h1, h⟩
  ·exact .inr ⟨y, h2, h⟩
omit hl hr hb in
theorem Ygt {f : γ → Option γ} (hf : ∀ x z, f x = some z → k z = k x) : ∀ {l : List γ}, Srt c (l.map k) → Srt c ((l.filterMap f).map k)
 | [], _ => List.Pairwise.nil
 | x :: l, hs => by
  rw [List.map_cons, Zei] at hs
  have ih := Ygt hf hs.2
  rw [List.filterMap_cons]
  cases hx : f x with
  | none => exact ih
  | some z =>
   show Srt c (k z :: (l.filterMap f).map k)
   rw [Zei, hf x z hx]
   refine ⟨fun y hy => ?_, ih⟩
   obtain ⟨u, hu, rfl⟩ := List.mem_map.1 hy
   obtain ⟨v, hv, e⟩ := List.mem_filterMap.1 hu
   rw [hf v u e]
   exact hs.1 _ (List.mem_map.2 ⟨v, hv, rfl⟩)
omit hl hr hb in
theorem Zxc {o : Option γ} {l : List γ} (h : ∀ z, o = some z → ∀ y ∈ l, c (k z) (k y) < 0) (hs : Srt c (l.map k)) : Srt c ((o.toList ++ l).map k) := by
 cases o with
 | none => exact hs
 | some z =>
  show Srt c (k z :: l.map k)
  rw [Zei]
  refine ⟨fun y hy => ?_, hs⟩
  obtain ⟨u, hu, rfl⟩ := List.mem_map.1 hy
  exact h z rfl u hu
theorem Zl5 (O : OrdL c P) : ∀ (a b : List γ), (∀ x ∈ a, P (k x)) → (∀ x ∈ b, P (k x)) → Srt c (a.map k) → Srt c (b.map k) → Srt c ((mrg c k fl fr fb a b).map k)
 | [], b, _, _, _, hs => by rw [Zjy]; exact Ygt hr hs
 | x :: a, [], _, _, hs, _ => by rw [Zhw]; exact Ygt hl hs
 | x :: a, y :: b, ha, hb', hs, ht => by
  have hs' := hs
  have ht' := ht
  rw [List.map_cons, Zei] at hs ht
  have hx := ha x (by simp)
  have hy := hb' y (by simp)
  have hra : ∀ z ∈ a, P (k z) := fun z hz => ha z (by simp [hz])
  have hrb : ∀ z ∈ b, P (k z) := fun z hz => hb' z (by simp [hz])
  have xa : ∀ z ∈ a, c (k x) (k z) < 0 := fun z hz => hs.1 _ (List.mem_map.2 ⟨z, hz, rfl⟩)
  have yb : ∀ z ∈ b, c (k y) (k z) < 0 := fun z hz => ht.1 _ (List.mem_map.2 ⟨z, hz, rfl⟩)
  rw [Zhv]
  split
  ·rename_i h
   refine Zxc (fun z hz u hu => ?_) (Zl5 O a (y :: b) hra hb' hs.2 ht')
   rw [hl x z hz]
   rcases Zsg hl hr hb hu with ⟨v, hv, e⟩ | ⟨v, hv, e⟩
   ·rw [e]; exact xa v hv
   ·rw [e]
    rcases List.mem_cons.1 hv with rfl | hv
    ·exact h
    ·exact O.lt hx hy (hrb v hv) h (yb v hv)
  ·split
   ·rename_i h0 h
    refine Zxc (fun z hz u hu => ?_) (Zl5 O (x :: a) b ha hrb hs' ht.2)
    rw [hr y z hz]
    rcases Zsg hl hr hb hu with ⟨v, hv, e⟩ | ⟨v, hv, e⟩
    ·rw [e]
     rcases List.mem_cons.1 hv with rfl | hv
     ·exact h
     ·exact O.lt hy hx (hra v hv) h (xa v hv)
    ·rw [e]; exact yb v hv
   ·rename_i h0 h
    have hxy : c (k x) (k y) = 0 := by have := O.swp (k x) (k y) hx hy; omega
    have xb : ∀ v ∈ b, c (k x) (k v) < 0 := fun v hv => by rw [(O.tri (k x) (k y) (k v) hx hy (hrb v hv)).zp hxy]; exact yb v hv
    have ya : ∀ v ∈ a, c (k y) (k v) < 0 := fun v hv => by rw [← (O.tri (k x) (k y) (k v) hx hy (hra v hv)).zp hxy]; exact xa v hv
    refine Zxc (fun z hz u hu => ?_) (Zl5 O a b hra hrb hs.2 ht.2)
    rcases Zsg hl hr hb hu with ⟨v, hv, e⟩ | ⟨v, hv, e⟩ <;> rcases hb x y z hz with e' | e' <;> rw [e, e']
    ·exact xa v hv
    ·exact ya v hv
    ·exact xb v hv
    ·exact yb v hv
termination_by a b => a.length + b.length
theorem Zi8 (O : OrdL c P) {q : α} (hq : P q) : ∀ (a b : List γ), (∀ x ∈ a, P (k x)) → (∀ x ∈ b, P (k x)) → Srt c (a.map k) → Srt c (b.map k) → Zb8 c k (mrg c k fl fr fb a b) q = Yk9 fl fr fb (Zb8 c k a q) (Zb8 c k b q)
 | [], b, _, hP, _, hs => by
  rw [Zjy, Zrt hr q hs O hP hq, Zt0]
  unfold Yk9
  cases Zb8 c k b q <;> rfl
 | x :: a, [], hP, _, hs, _ => by
  rw [Zhw, Zrt hl q hs O hP hq, Zt0]
  unfold Yk9
  cases Zb8 c k (x :: a) q <;> rfl
 | x :: a, y :: b, ha, hb', hs, ht => by
  have hs' := hs
  have ht' := ht
  rw [List.map_cons, Zei] at hs ht
  have hx := ha x (by simp)
  have hy := hb' y (by simp)
  have hra : ∀ z ∈ a, P (k z) := fun z hz => ha z (by simp [hz])
  have hrb : ∀ z ∈ b, P (k z) := fun z hz => hb' z (by simp [hz])
  have xa : ∀ z ∈ a, c (k x) (k z) < 0 := fun z hz => hs.1 _ (List.mem_map.2 ⟨z, hz, rfl⟩)
  have yb : ∀ z ∈ b, c (k y) (k z) < 0 := fun z hz => ht.1 _ (List.mem_map.2 ⟨z, hz, rfl⟩)
  have ne : ∀ {u v : α}, P u → P v → c u v < 0 → c u q = 0 → c v q ≠ 0 := fun {u v} hu hv h1 h2 h3 => by
   have h4 := (O.tri u v q hu hv hq).zq h3
   omega
  have na : c (k x) q = 0 → Zb8 c k a q = none := fun h => Zf5 fun z hz => ne hx (hra z hz) (xa z hz) h
  have nb : c (k y) q = 0 → Zb8 c k b q = none := fun h => Zf5 fun z hz => ne hy (hrb z hz) (yb z hz) h
  rw [Zhv]
  split
  ·rename_i h
   rw [Zki (x := k x) fun z hz => by rw [hl x z hz], Zi8 O hq a (y :: b) hra hb' hs.2 ht', Zdj x a]
   by_cases e : c (k x) q = 0
   ·have n2 : Zb8 c k (y :: b) q = none := Zf5 fun z hz => by
     rcases List.mem_cons.1 hz with rfl | hz
     ·exact ne hx hy h e
     ·exact ne hx (hrb z hz) (O.lt hx hy (hrb z hz) h (yb z hz)) e
    rw [if_pos e, if_pos e, na e, n2]
    show (fl x).or none = fl x
    cases fl x <;> rfl
   ·rw [if_neg e, if_neg e]
  ·split
   ·rename_i h0 h
    rw [Zki (x := k y) fun z hz => by rw [hr y z hz], Zi8 O hq (x :: a) b ha hrb hs' ht.2, Zdj y b]
    by_cases e : c (k y) q = 0
    ·have n2 : Zb8 c k (x :: a) q = none := Zf5 fun z hz => by
      rcases List.mem_cons.1 hz with rfl | hz
      ·exact ne hy hx h e
      ·exact ne hy (hra z hz) (O.lt hy hx (hra z hz) h (xa z hz)) e
     rw [if_pos e, if_pos e, nb e, n2]
     show (fr y).or none = fr y
     cases fr y <;> rfl
    ·rw [if_neg e, if_neg e]
   ·rename_i h0 h
    have hxy : c (k x) (k y) = 0 := by have := O.swp (k x) (k y) hx hy; omega
    have exy : c (k x) q = c (k y) q := (O.tri (k x) (k y) q hx hy hq).zp hxy
    rw [Zki (x := k x) fun z hz => by rcases hb x y z hz with e | e <;> rw [e]; exact exy.symm, Zi8 O hq a b hra hrb hs.2 ht.2, Zdj x a, Zdj y b, ← exy]
    by_cases e : c (k x) q = 0
    ·rw [if_pos e, if_pos e, if_pos e, na e, nb (by rw [← exy]; exact e)]
     show (fb x y).or none = fb x y
     cases fb x y <;> rfl
    ·rw [if_neg e, if_neg e, if_neg e]
termination_by a b => a.length + b.length
omit hl hr hb in
end
end Go.Proofs.YtgmahieoiifpfaaGreat
end
section
namespace Go.Proofs.YtgmahieoiifpfaaGreat
section
variable {α : Type}
mutual
/-- How deep a set goes. -/
def dpT : ST α → Nat
 | .mk m ch => dpC ch
def dpC : List (α × ST α) → Nat
 | [] => 0
 | y :: r => max (dpT y.2 + 1) (dpC r)
end
theorem Zrp : ∀ {l : List (α × ST α)} {y : α × ST α}, y ∈ l → dpT y.2 + 1 ≤ dpC l
 | z :: r, y, h => by
  unfold dpC
  rcases List.mem_cons.1 h with rfl | h
  ·omega
  ·have := Zrp h; omega
theorem Ydc {l : List (α × ST α)} {d : Nat} (h : ∀ y ∈ l, dpT y.2 + 1 ≤ d) : dpC l ≤ d := by
 induction l with
 | nil => unfold dpC; omega
 | cons y r ih =>
  unfold dpC
  have := h y (by simp)
  have := ih fun z hz => h z (by simp [hz])
  omega
theorem Zwf (t : ST α) : dpT t = dpC t.c := by cases t; unfold dpT; rfl
theorem Zel {t : ST α} {y : α × ST α} (h : y ∈ t.c) : dpT y.2 < dpT t := by
 have := Zrp h
 rw [Zwf t]; omega
mutual
/-- The set is empty. -/
def emT : ST α → Bool
 | .mk m ch => m.isEmpty && emC ch
def emC : List (α × ST α) → Bool
 | [] => true
 | y :: r => emT y.2 && emC r
end
mutual
theorem Zm9 : ∀ (t : ST α), emT t = true ↔ Zgo t = []
 | .mk m ch => by
  unfold emT Zgo
  rw [Bool.and_eq_true, Zyf ch, List.append_eq_nil_iff, List.map_eq_nil_iff, List.isEmpty_iff]
theorem Zyf : ∀ (l : List (α × ST α)), emC l = true ↔ Zb5 l = []
 | [] => by unfold emC Zb5; simp
 | y :: r => by
  unfold emC Zb5
  rw [Bool.and_eq_true, Zyf r, Zm9 y.2, List.append_eq_nil_iff, List.map_eq_nil_iff]
end
variable (c : α → α → Int) {P : α → Prop}
variable (kl kr kb : Bool)
def opM (a b : List α) : List α := mrg c id (fun x => if kl then some x else none) (fun y => if kr then some y else none) (fun x y => if kb then some (if kr then y else x) else none) a b
def opN : Nat → ST α → ST α → ST α
 | 0, s, _ => s
 | n + 1, s, t => .mk (opM c kl kr kb s.m t.m) (mrg c Prod.fst (fun x => if kl then some x else none) (fun y => if kr then some y else none) (fun x y => if kr || !emT (opN n x.2 y.2) then some (x.1, opN n x.2 y.2) else none) s.c t.c)
def opB (a b : Bool) : Bool := (kl && a && !b) || (kr && !a && b) || (kb && a && b)
def Yb2 : ST α → List α → Bool
 | _, [] => false
 | t, p :: q => Zaw c t.m p || (match Zem c t.c p with | some t' => Yb2 t' q | none => false)
def rdN : Nat → ST α → ST α → ST α
 | 0, s, _ => s
 | n + 1, s, t => .mk (opM c true false false s.m t.m) (mrg c Prod.fst (fun x => if Zaw c t.m x.1 then none else some x) (fun _ => none) (fun x y => if Zaw c t.m x.1 then none else if emT (rdN n x.2 y.2) then none else some (x.1, rdN n x.2 y.2)) s.c t.c)
variable {c kl kr kb}
theorem kA {γ : Type} (k : γ → α) (b : Bool) (x z : γ) (h : (if b then some x else none) = some z) : k z = k x := by
 cases b with
 | true => cases h; rfl
 | false => cases h
theorem mB (x y z : α) (h : (if kb then some (if kr then y else x) else none) = some z) : id z = id x ∨ id z = id y := by
 cases kb with
 | true =>
  cases kr with
  | true => cases h; exact .inr rfl
  | false => cases h; exact .inl rfl
 | false => cases h
theorem nB {n : Nat} (x y z : α × ST α) (h : (if kr || !emT (opN c kl kr kb n x.2 y.2) then some (x.1, opN c kl kr kb n x.2 y.2) else none) = some z) : z.1 = x.1 ∨ z.1 = y.1 := by
 split at h
 ·cases h; exact .inl rfl
 ·cases h
theorem rL {m : List α} (x z : α × ST α) (h : (if Zaw c m x.1 then none else some x) = some z) : z.1 = x.1 := by
 split at h
 ·cases h
 ·cases h; rfl
theorem rB {m : List α} {n : Nat} (x y z : α × ST α) (h : (if Zaw c m x.1 then none else if emT (rdN c n x.2 y.2) then none else some (x.1, rdN c n x.2 y.2)) = some z) : z.1 = x.1 ∨ z.1 = y.1 := by
 split at h
 ·cases h
 ·split at h
  ·cases h
  ·cases h; exact .inl rfl
theorem Zry (l : List α) (q : α) : Zaw c l q = (Zb8 c id l q).isSome := by
 induction l with
 | nil => rfl
 | cons x l ih =>
  rw [Zcc, Zdj, ih]
  show _ = (if c x q = 0 then some x else Zb8 c id l q).isSome
  by_cases h : c x q = 0
  ·rw [decide_eq_true h, if_pos h]; rfl
  ·rw [decide_eq_false h, if_neg h]; rfl
theorem Zob {β : Type} (O : OrdL c P) : ∀ {l : List (α × β)} {q : α}, Srt c (l.map Prod.fst) → (∀ x ∈ l, P x.1) → P q → Zem c l q = (Zb8 c Prod.fst l q).map Prod.snd
 | [], q, _, _, _ => rfl
 | x :: l, q, hs, hP, hq => by
  have hs' := hs
  rw [List.map_cons, Zei] at hs
  have ih := Zob O hs.2 (fun z hz => hP z (by simp [hz])) hq
  rw [Zt6, Zdj, ih]
  by_cases h1 : c x.1 q < 0
  ·rw [if_pos h1, if_neg (by omega)]
  ·rw [if_neg h1]
   by_cases h2 : c x.1 q = 0
   ·rw [if_pos h2, if_pos h2]; rfl
   ·rw [if_neg h2, if_neg h2, Zf5]
    ·rfl
    ·intro z hz h0
     have := Zz5 O (hP x (by simp)) (fun u hu => by obtain ⟨v, hv, rfl⟩ := List.mem_map.1 hu; exact hP v (by simp [hv])) hq hs' h1 z.1 (List.mem_map.2 ⟨z, hz, rfl⟩)
     omega
theorem Zez (O : OrdL c P) {t : ST α} (h : WFT c P t) {p : α} {q : List α} (hp : P p) (hq : q ≠ []) : Zer c t (p :: q) = (match Zb8 c Prod.fst t.c p with | some y => Zer c y.2 q | none => false) := by
 obtain ⟨h1, h2, h3, h4⟩ := WFT_iff.1 h
 rw [Zgt _ _ hq, Zob O h3 (fun x hx => (WFC_iff.1 h4 x hx).1) hp]
 cases Zb8 c Prod.fst t.c p <;> rfl
theorem Ztp (O : OrdL c P) {t : ST α} (h : WFT c P t) {p : α} {q : List α} (hp : P p) : Yb2 c t (p :: q) = (Zaw c t.m p || (match Zb8 c Prod.fst t.c p with | some y => Yb2 c y.2 q | none => false)) := by
 obtain ⟨h1, h2, h3, h4⟩ := WFT_iff.1 h
 conv => lhs; unfold Yb2
 rw [Zob O h3 (fun x hx => (WFC_iff.1 h4 x hx).1) hp]
 cases Zb8 c Prod.fst t.c p <;> rfl
theorem Zua (O : OrdL c P) {t : ST α} (h : WFT c P t) (he : emT t = true) {q : List α} (hq : ∀ x ∈ q, P x) : Zer c t q = false := by
 cases q with
 | nil => exact Yil t
 | cons p q =>
  rw [← Zkp O t h p q (hq p (by simp)) fun x hx => hq x (by simp [hx]), (Zm9 t).1 he]
  rfl
theorem Yet (O : OrdL c P) {a b : List α} (ha : ∀ x ∈ a, P x) (hb : ∀ x ∈ b, P x) (hs : Srt c a) (ht : Srt c b) {q : α} (hq : P q) : Zaw c (opM c kl kr kb a b) q = opB kl kr kb (Zaw c a q) (Zaw c b q) := by
 rw [Zry, Zry, Zry]
 unfold opM
 rw [Zi8 (P := P) (c := c) (k := id) (kA id kl) (kA id kr) mB O hq a b ha hb (by simpa using hs) (by simpa using ht)]
 unfold Yk9 opB
 cases Zb8 c id a q <;> cases Zb8 c id b q <;> cases kl <;> cases kr <;> cases kb <;> rfl
theorem Yeu {a b : List α} {z : α} (h : z ∈ opM c kl kr kb a b) : z ∈ a ∨ z ∈ b := by
 rcases Zsg (c := c) (k := id) (kA id kl) (kA id kr) mB h with ⟨x, h1, h2⟩ | ⟨x, h1, h2⟩
 ·have h2 : z = x := h2
  exact .inl (h2 ▸ h1)
 ·have h2 : z = x := h2
  exact .inr (h2 ▸ h1)
theorem Yev (O : OrdL c P) {a b : List α} (ha : ∀ x ∈ a, P x) (hb : ∀ x ∈ b, P x) (hs : Srt c a) (ht : Srt c b) : Srt c (opM c kl kr kb a b) := by
 have := Zl5 (P := P) (c := c) (k := id) (fl := fun x => if kl then some x else none) (fr := fun y => if kr then some y else none) (fb := fun x y => if kb then some (if kr then y else x) else none) (kA id kl) (kA id kr) mB O a b ha hb (by simpa using hs) (by simpa using ht)
 unfold opM
 simpa using this
section
variable {n : Nat} {s t : ST α}
theorem Zox : opN c kl kr kb (n + 1) s t = .mk (opM c kl kr kb s.m t.m) (mrg c Prod.fst (fun x => if kl then some x else none) (fun y => if kr then some y else none) (fun x y => if kr || !emT (opN c kl kr kb n x.2 y.2) then some (x.1, opN c kl kr kb n x.2 y.2) else none) s.c t.c) := by conv => lhs; unfold opN
theorem Zpb : rdN c (n + 1) s t = .mk (opM c true false false s.m t.m) (mrg c Prod.fst (fun x => if Zaw c t.m x.1 then none else some x) (fun _ => none) (fun x y => if Zaw c t.m x.1 then none else if emT (rdN c n x.2 y.2) then none else some (x.1, rdN c n x.2 y.2)) s.c t.c) := by conv => lhs; unfold rdN
theorem Zw2 {y : α × ST α} (h : y ∈ (opN c kl kr kb (n + 1) s t).c) : y ∈ s.c ∨ y ∈ t.c ∨ ∃ u ∈ s.c, ∃ v ∈ t.c, y = (u.1, opN c kl kr kb n u.2 v.2) ∧ (kr = true ∨ emT (opN c kl kr kb n u.2 v.2) = false) := by
 rw [Zox] at h
 rcases Zl4 (c := c) (k := Prod.fst) _ _ h with ⟨x, h1, h2⟩ | ⟨x, h1, h2⟩ | ⟨x, h1, u, h2, h3⟩
 ·left
  split at h2
  ·cases h2; exact h1
  ·cases h2
 ·right; left
  split at h2
  ·cases h2; exact h1
  ·cases h2
 ·right; right
  split at h3
  ·rename_i hk
   cases h3
   exact ⟨x, h1, u, h2, rfl, by simpa using hk⟩
  ·cases h3
theorem Zw8 {y : α × ST α} (h : y ∈ (rdN c (n + 1) s t).c) : y ∈ s.c ∨ ∃ u ∈ s.c, ∃ v ∈ t.c, y = (u.1, rdN c n u.2 v.2) ∧ emT (rdN c n u.2 v.2) = false := by
 rw [Zpb] at h
 rcases Zl4 (c := c) (k := Prod.fst) _ _ h with ⟨x, h1, h2⟩ | ⟨x, h1, h2⟩ | ⟨x, h1, u, h2, h3⟩
 ·left
  split at h2
  ·cases h2
  ·cases h2; exact h1
 ·cases h2
 ·right
  split at h3
  ·cases h3
  ·split at h3
   ·cases h3
   ·rename_i hk
    cases h3
    exact ⟨x, h1, u, h2, rfl, by simpa using hk⟩
theorem Zdt {x : α × ST α} (h : WFT c P t) (hx : x ∈ t.c) : P x.1 ∧ WFT c P x.2 := WFC_iff.1 (WFT_iff.1 h).2.2.2 x hx
end
theorem Zow (O : OrdL c P) : ∀ (n : Nat) (s t : ST α), WFT c P s → WFT c P t → WFT c P (opN c kl kr kb n s t)
 | 0, s, t, hs, _ => by unfold opN; exact hs
 | n + 1, s, t, hs, ht => by
  obtain ⟨a1, a2, a3, a4⟩ := WFT_iff.1 hs
  obtain ⟨b1, b2, b3, b4⟩ := WFT_iff.1 ht
  refine WFT_iff.2 ⟨?_, ?_, ?_, WFC_iff.2 fun y hy => ?_⟩
  ·rw [Zox]
   intro x hx
   rcases Yeu hx with h | h
   ·exact a1 x h
   ·exact b1 x h
  ·rw [Zox]
   exact Yev O a1 b1 a2 b2
  ·rw [Zox]
   exact Zl5 (kA Prod.fst kl) (kA Prod.fst kr) nB O s.c t.c (fun x hx => (Zdt hs hx).1) (fun x hx => (Zdt ht hx).1) a3 b3
  ·rcases Zw2 hy with h | h | ⟨u, hu, v, hv, e, _⟩
   ·exact Zdt hs h
   ·exact Zdt ht h
   ·rw [e]
    exact ⟨(Zdt hs hu).1, Zow O n u.2 v.2 (Zdt hs hu).2 (Zdt ht hv).2⟩
theorem Zsp (O : OrdL c P) : ∀ (n : Nat) (s t : ST α), WFT c P s → WFT c P t → WFT c P (rdN c n s t)
 | 0, s, t, hs, _ => by unfold rdN; exact hs
 | n + 1, s, t, hs, ht => by
  obtain ⟨a1, a2, a3, a4⟩ := WFT_iff.1 hs
  obtain ⟨b1, b2, b3, b4⟩ := WFT_iff.1 ht
  refine WFT_iff.2 ⟨?_, ?_, ?_, WFC_iff.2 fun y hy => ?_⟩
  ·rw [Zpb]
   intro x hx
   rcases Yeu hx with h | h
   ·exact a1 x h
   ·exact b1 x h
  ·rw [Zpb]
   exact Yev O a1 b1 a2 b2
  ·rw [Zpb]
   exact Zl5 rL (fun _ _ h => by cases h) rB O s.c t.c (fun x hx => (Zdt hs hx).1) (fun x hx => (Zdt ht hx).1) a3 b3
  ·rcases Zw8 hy with h | ⟨u, hu, v, hv, e, _⟩
   ·exact Zdt hs h
   ·rw [e]
    exact ⟨(Zdt hs hu).1, Zsp O n u.2 v.2 (Zdt hs hu).2 (Zdt ht hv).2⟩
theorem Zw1 (O : OrdL c P) : ∀ (n : Nat) (s t : ST α), dpT s < n → WFT c P s → WFT c P t → ∀ q, PP P q → Zer c (opN c kl kr kb n s t) q = opB kl kr kb (Zer c s q) (Zer c t q)
 | 0, _, _, h, _, _, _, _ => by omega
 | n + 1, s, t, hd, hs, ht, [], hq => absurd rfl hq.1
 | n + 1, s, t, hd, hs, ht, [p], hq => by
  obtain ⟨a1, a2, a3, a4⟩ := WFT_iff.1 hs
  obtain ⟨b1, b2, b3, b4⟩ := WFT_iff.1 ht
  rw [Ze0, Ze0, Ze0, Zox]
  exact Yet O a1 b1 a2 b2 (hq.2 p (by simp))
 | n + 1, s, t, hd, hs, ht, p :: z :: r, hq => by
  obtain ⟨a1, a2, a3, a4⟩ := WFT_iff.1 hs
  obtain ⟨b1, b2, b3, b4⟩ := WFT_iff.1 ht
  have hp := hq.2 p (by simp)
  have hz : PP P (z :: r) := ⟨by simp, fun x hx => hq.2 x (by simp [hx])⟩
  rw [Zez O (Zow O (n + 1) s t hs ht) hp hz.1, Zez O hs hp hz.1, Zez O ht hp hz.1]
  have e : Zb8 c Prod.fst (opN c kl kr kb (n + 1) s t).c p = Yk9 (fun x => if kl then some x else none) (fun y => if kr then some y else none) (fun x y => if kr || !emT (opN c kl kr kb n x.2 y.2) then some (x.1, opN c kl kr kb n x.2 y.2) else none) (Zb8 c Prod.fst s.c p) (Zb8 c Prod.fst t.c p) := by
   rw [Zox]
   exact Zi8 (kA Prod.fst kl) (kA Prod.fst kr) nB O hp s.c t.c (fun x hx => (Zdt hs hx).1) (fun x hx => (Zdt ht hx).1) a3 b3
  rw [e]
  unfold Yk9
  cases fs : Zb8 c Prod.fst s.c p with
  | none =>
   cases ft : Zb8 c Prod.fst t.c p with
   | none => unfold opB; cases kl <;> cases kr <;> cases kb <;> rfl
   | some y =>
    simp only
    unfold opB
    cases kl <;> cases kr <;> cases kb <;> simp
  | some x =>
   cases ft : Zb8 c Prod.fst t.c p with
   | none =>
    simp only
    unfold opB
    cases kl <;> cases kr <;> cases kb <;> simp
   | some y =>
    simp only
    have hx := (Zhb fs).1
    have hy := (Zhb ft).1
    have hdx : dpT x.2 < n := by have := Zel hx; omega
    have ih := Zw1 O n x.2 y.2 hdx (Zdt hs hx).2 (Zdt ht hy).2 (z :: r) hz
    by_cases hk : (kr || !emT (opN c kl kr kb n x.2 y.2)) = true
    ·rw [if_pos hk]
     exact ih
    ·rw [if_neg hk]
     simp only
     rw [← ih]
     symm
     refine Zua O (Zow O n x.2 y.2 (Zdt hs hx).2 (Zdt ht hy).2) ?_ hz.2
     simp at hk
     exact hk.2
theorem Yf0 (O : OrdL c P) : ∀ (n : Nat) (s t : ST α), dpT s < n → WFT c P s → WFT c P t → ∀ q, PP P q → Zer c (rdN c n s t) q = (Zer c s q && !Yb2 c t q)
 | 0, _, _, h, _, _, _, _ => by omega
 | n + 1, s, t, hd, hs, ht, [], hq => absurd rfl hq.1
 | n + 1, s, t, hd, hs, ht, [p], hq => by
  obtain ⟨a1, a2, a3, a4⟩ := WFT_iff.1 hs
  obtain ⟨b1, b2, b3, b4⟩ := WFT_iff.1 ht
  rw [Ze0, Ze0, Zpb]
  show Zaw c (opM c true false false s.m t.m) p = _
  rw [Yet O a1 b1 a2 b2 (hq.2 p (by simp)), Ztp O ht (hq.2 p (by simp))]
  have : (match Zb8 c Prod.fst t.c p with | some y => Yb2 c y.2 [] | none => false) = false := by
   cases Zb8 c Prod.fst t.c p with
   | none => rfl
   | some y => simp only; unfold Yb2; rfl
  rw [this]
  unfold opB
  cases Zaw c s.m p <;> cases Zaw c t.m p <;> rfl
 | n + 1, s, t, hd, hs, ht, p :: z :: r, hq => by
  obtain ⟨a1, a2, a3, a4⟩ := WFT_iff.1 hs
  obtain ⟨b1, b2, b3, b4⟩ := WFT_iff.1 ht
  have hp := hq.2 p (by simp)
  have hz : PP P (z :: r) := ⟨by simp, fun x hx => hq.2 x (by simp [hx])⟩
  rw [Zez O (Zsp O (n + 1) s t hs ht) hp hz.1, Zez O hs hp hz.1, Ztp O ht hp]
  have e : Zb8 c Prod.fst (rdN c (n + 1) s t).c p = Yk9 (fun x => if Zaw c t.m x.1 then none else some x) (fun _ => none) (fun x y => if Zaw c t.m x.1 then none else if emT (rdN c n x.2 y.2) then none else some (x.1, rdN c n x.2 y.2)) (Zb8 c Prod.fst s.c p) (Zb8 c Prod.fst t.c p) := by
   rw [Zpb]
   exact Zi8 rL (fun _ _ h => by cases h) rB O hp s.c t.c (fun x hx => (Zdt hs hx).1) (fun x hx => (Zdt ht hx).1) a3 b3
  rw [e]
  unfold Yk9
  cases fs : Zb8 c Prod.fst s.c p with
  | none =>
   cases ft : Zb8 c Prod.fst t.c p <;> rfl
  | some x =>
   have hx := Zhb fs
   have hm : Zaw c t.m x.1 = Zaw c t.m p := Zlu O b1 (Zdt hs hx.1).1 hp hx.2
   cases ft : Zb8 c Prod.fst t.c p with
   | none =>
    simp only
    rw [hm]
    cases Zaw c t.m p <;> simp
   | some y =>
    simp only
    rw [hm]
    have hy := (Zhb ft).1
    have hdx : dpT x.2 < n := by have := Zel hx.1; omega
    have ih := Yf0 O n x.2 y.2 hdx (Zdt hs hx.1).2 (Zdt ht hy).2 (z :: r) hz
    cases Zaw c t.m p with
    | true => simp
    | false =>
     simp only [Bool.false_or]
     rw [← ih]
     cases he : emT (rdN c n x.2 y.2) with
     | true =>
      simp only [if_true]
      symm
      exact Zua O (Zsp O n x.2 y.2 (Zdt hs hx.1).2 (Zdt ht hy).2) he hz.2
     | false => simp
theorem Yew (O : OrdL c P) (hk : kr = false ∨ (kl = true ∧ kb = true)) : ∀ (n : Nat) (s t : ST α), dpT s < n → WFT c P s → WFT c P t → NET s → NET t → NET (opN c kl kr kb n s t)
 | 0, s, t, h, _, _, _, _ => by omega
 | n + 1, s, t, hd, hs, ht, ns, nt => by
  refine NET_iff.2 fun y hy => ?_
  rcases Zw2 hy with h | h | ⟨u, hu, v, hv, e, he⟩
  ·exact NET_iff.1 ns y h
  ·exact NET_iff.1 nt y h
  ·have hdx : dpT u.2 < n := by have := Zel hu; omega
   have nu := NET_iff.1 ns u hu
   have nv := NET_iff.1 nt v hv
   have hw := Zow (kl := kl) (kr := kr) (kb := kb) O n u.2 v.2 (Zdt hs hu).2 (Zdt ht hv).2
   rw [e]
   refine ⟨?_, Yew O hk n u.2 v.2 hdx (Zdt hs hu).2 (Zdt ht hv).2 nu.2 nv.2⟩
   rcases he with he | he
   ·obtain ⟨k1, k2⟩ : kl = true ∧ kb = true := by
     rcases hk with h | h
     ·rw [h] at he; cases he
     ·exact h
    cases hq : Zgo u.2 with
    | nil => exact absurd hq nu.1
    | cons q r =>
     have hqm : q ∈ Zgo u.2 := by rw [hq]; simp
     have hqP := Ze5 u.2 (Zdt hs hu).2 q hqm
     have h1 : Zer c u.2 q = true := by
      cases q with
      | nil => exact absurd rfl hqP.1
      | cons a q =>
       rw [← Zkp O u.2 (Zdt hs hu).2 a q (hqP.2 a (by simp)) fun x hx => hqP.2 x (by simp [hx])]
       exact Zqf (Yle O) hqm hqP
     refine Zu0 O hw hqP ?_
     rw [Zw1 O n u.2 v.2 hdx (Zdt hs hu).2 (Zdt ht hv).2 q hqP, h1, k1, k2, he]
     cases Zer c v.2 q <;> rfl
   ·intro h0
    rw [(Zm9 _).2 h0] at he
    cases he
theorem Yfz (O : OrdL c P) : ∀ (n : Nat) (s t : ST α), dpT s < n → NET s → NET (rdN c n s t)
 | 0, s, t, h, _ => by omega
 | n + 1, s, t, hd, ns => by
  refine NET_iff.2 fun y hy => ?_
  rcases Zw8 hy with h | ⟨u, hu, v, hv, e, he⟩
  ·exact NET_iff.1 ns y h
  ·have hdx : dpT u.2 < n := by have := Zel hu; omega
   rw [e]
   exact ⟨fun h0 => (by rw [(Zm9 _).2 h0] at he; cases he), Yfz O n u.2 v.2 hdx (NET_iff.1 ns u hu).2⟩
theorem Yla : ∀ (n : Nat) (s t : ST α), dpT (opN c kl kr kb n s t) ≤ max (dpT s) (dpT t)
 | 0, s, t => by unfold opN; omega
 | n + 1, s, t => by
  rw [Zwf (opN c kl kr kb (n + 1) s t)]
  refine Ydc fun y hy => ?_
  rcases Zw2 hy with h | h | ⟨u, hu, v, hv, e, _⟩
  ·have := Zel h; omega
  ·have := Zel h; omega
  ·have := Yla n u.2 v.2
   have := Zel hu
   have := Zel hv
   rw [e]
   simp only
   omega
theorem Yli : ∀ (n : Nat) (s t : ST α), dpT (rdN c n s t) ≤ dpT s
 | 0, s, t => by unfold rdN; omega
 | n + 1, s, t => by
  rw [Zwf (rdN c (n + 1) s t)]
  refine Ydc fun y hy => ?_
  rcases Zw8 hy with h | ⟨u, hu, v, hv, e, _⟩
  ·have := Zel h; omega
  ·have := Yli n u.2 v.2
   have := Zel hu
   rw [e]
   simp only
   omega
theorem Ypk (O : OrdL c P) {t : ST α} (h : WFT c P t) {q : List α} (hq : PP P q) : Zaw (cw c) (Zgo t) q = Zer c t q := by
 cases q with
 | nil => exact absurd rfl hq.1
 | cons x q => exact Zkp O t h x q (hq.2 x (by simp)) fun z hz => hq.2 z (by simp [hz])
theorem Ykn (O : OrdL c P) {t : ST α} (h : WFT c P t) {l : List (List α)} (hl : ∀ x ∈ l, PP P x) (hs : Srt (cw c) l) (he : ∀ q, PP P q → Zer c t q = Zaw (cw c) l q) : Zb7 (cw c) (Zgo t) l = 0 :=
 Zmb (Yle O) _ _ (Ze5 t h) hl (Znn O t h) hs fun q hq => by rw [Ypk O h hq, he q hq]
theorem Zij {β : Type} {f : β → β → Int} : ∀ {a b : List β}, Zb7 f a b = 0 → a.length = b.length := fun h => (cmpLx_zero.1 h).1
theorem Zlv (O : OrdL c P) {l : List α} {f : α → Bool} (hl : ∀ x ∈ l, P x) (hf : ∀ x y, P x → P y → c x y = 0 → f x = f y) {q : α} (hq : P q) : Zaw c (l.filter f) q = (Zaw c l q && f q) := by
 induction l with
 | nil => rfl
 | cons x l ih =>
  have ih := ih fun z hz => hl z (by simp [hz])
  rw [List.filter_cons, Zcc]
  by_cases h : c x q = 0
  ·have := hf x q (hl x (by simp)) hq h
   rw [decide_eq_true h, Bool.true_or, Bool.true_and]
   cases hx : f x with
   | true => rw [if_pos rfl, Zcc, decide_eq_true h, Bool.true_or, ← this, hx]
   | false => rw [if_neg (by simp), ih, ← this, hx, Bool.and_false]
  ·rw [decide_eq_false h, Bool.false_or]
   split
   ·rw [Zcc, decide_eq_false h, Bool.false_or, ih]
   ·exact ih
theorem Zq1 {l : List α} {f : α → Bool} (h : Srt c l) : Srt c (l.filter f) := List.Pairwise.filter f h
theorem Yik (O : OrdL c P) {t : ST α} (h : WFT c P t) {p q : List α} (hp : PP P p) (hq : PP P q) (e : cw c p q = 0) : Zer c t p = Zer c t q := by
 rw [← Ypk O h hp, ← Ypk O h hq]
 exact Zlu (Yle O) (Ze5 t h) hp hq e
theorem Ygz (O : OrdL c P) {s t : ST α} (hs : WFT c P s) (ht : WFT c P t) (h : ∀ q, PP P q → Zer c s q = true → Zer c t q = true) : (Zgo s).length ≤ (Zgo t).length := by
 have e := Ykn O hs (l := (Zgo t).filter fun q => Zer c s q) (fun x hx => Ze5 t ht x ((List.mem_filter.1 hx).1)) (Zq1 (Znn O t ht)) fun q hq => by
  rw [Zlv (Yle O) (Ze5 t ht) (fun x y hx hy e => Yik O hs hx hy e) hq, Ypk O ht hq]
  cases h1 : Zer c s q with
  | true => rw [h q hq h1]; rfl
  | false => rw [Bool.and_false]
 rw [Zij e]
 exact List.length_filter_le _ _
end
end Go.Proofs.YtgmahieoiifpfaaGreat
end
namespace Go.Proofs.YtgmahieoiifpfaaGreat
open Go.RowKit
def peC : PEV → List PD
 | .name s => [.ptr (.val (.string s)), Zlg, Zlg, Zlg]
 | .key fl => [Zlg, .ptr (Yb3 fl), Zlg, Zlg]
 | .val j => [Zlg, Zlg, .ptr (dvV j), Zlg]
 | .idx n => [Zlg, Zlg, Zlg, .ptr (.val (.int .i64 n))]
theorem Ztu (p : PEV) : Za3 p = .agg (peC p) := by cases p <;> rfl
theorem Zf1 (p : PEV) : ∃ d0 d1 d2 d3, peC p = [d0, d1, d2, d3] := by cases p <;> exact ⟨_, _, _, _, rfl⟩
end Go.Proofs.YtgmahieoiifpfaaGreat
