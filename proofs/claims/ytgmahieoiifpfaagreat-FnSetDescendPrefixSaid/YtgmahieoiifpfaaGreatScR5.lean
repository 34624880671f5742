/- Part 5 of what the proof rests on. -/
import Derived.Maps.RangeRun
import Derived.Maps.RangeWalk
import Derived.Maps.AppendAt
import Derived.Deep.AppendLies
import Derived.Deep.Draws
import Derived.RegionTactic
import Derived.Deep.DeepCutAuto
import Derived.Deep.QuietTactic
import Derived.BigQuiet
import Derived.Deep.RegionWith
import Derived.Laws.CopyRow
import Derived.Test.YtgmahieoiifpfaaGreatScR1
import Derived.Test.YtgmahieoiifpfaaGreatScR3
import Derived.Test.YtgmahieoiifpfaaGreatScR4
set_option linter.unusedSimpArgs false
set_option linter.unusedVariables false
set_option maxRecDepth 100000
section
namespace Go.Proofs.YtgmahieoiifpfaaGreat
def Zcz {α : Type} : List (ByteArray × α) → ByteArray → Option α
 | [], _ => none
 | e :: r, k => if e.1 = k then some e.2 else Zcz r k
theorem Zhx {α : Type} (a b : List (ByteArray × α)) (k : ByteArray) : Zcz (a ++ b) k = (Zcz a k).or (Zcz b k) := by
 induction a with
 | nil => simp [Zcz]
 | cons e r ih =>
  simp only [List.cons_append, Zcz]
  split <;> simp [*]
theorem Zey {α : Type} {a : List (ByteArray × α)} {k : ByteArray} (h : ∀ e ∈ a, e.1 ≠ k) : Zcz a k = none := by
 induction a with
 | nil => rfl
 | cons e r ih =>
  simp only [Zcz]
  rw [if_neg (h e (by simp)), ih (fun x hx => h x (by simp [hx]))]
theorem Zdd {α : Type} {a : List (ByteArray × α)} {k : ByteArray} {x : α} (h : Zcz a k = some x) : (k, x) ∈ a := by
 induction a with
 | nil => simp [Zcz] at h
 | cons e r ih =>
  simp only [Zcz] at h
  split at h
  ·rename_i he
   cases h; subst he; simp
  ·exact List.mem_cons_of_mem _ (ih h)
theorem Zgk {α : Type} {a : List (ByteArray × α)} {k : ByteArray} {x : α} (hd : (a.map (·.1)).Nodup) (h : (k, x) ∈ a) : Zcz a k = some x := by
 induction a with
 | nil => simp at h
 | cons e r ih =>
  simp only [List.map_cons, List.nodup_cons] at hd
  simp only [Zcz]
  rcases List.mem_cons.1 h with rfl | h
  ·simp
  ·have : e.1 ≠ k := fun he => hd.1 (by rw [he]; exact List.mem_map_of_mem (f := (·.1)) h)
   rw [if_neg this, ih hd.2 h]
theorem Yd6 {α : Type} (m : List (ByteArray × α)) (k : ByteArray) (x : α) (k' : ByteArray) : Zcz (Zk7 m k x) k' = if k = k' then some x else Zcz m k' := by
 induction m with
 | nil => simp [Zk7, Zcz]
 | cons e r ih =>
  simp only [Zk7]
  split
  ·rename_i he
   simp only [Zcz, he]
   split <;> rfl
  ·rename_i he
   simp only [Zcz, ih]
   by_cases h : e.1 = k'
   ·rw [if_pos h, if_neg (fun e' => he (by rw [h, e'])), if_pos h]
   ·rw [if_neg h, if_neg h]
theorem Yf9 {α : Type} (m : List (ByteArray × α)) (k : ByteArray) (x : α) {y : ByteArray} (h : y ∈ (Zk7 m k x).map (·.1)) : y = k ∨ y ∈ m.map (·.1) := by
 induction m with
 | nil => simp [Zk7] at h; exact .inl h
 | cons e r ih =>
  simp only [Zk7] at h
  split at h
  ·rename_i he
   simp only [List.map_cons, List.mem_cons] at h
   rcases h with h | h
   ·exact .inl h
   ·exact .inr (by simp [h])
  ·simp only [List.map_cons, List.mem_cons] at h
   rcases h with h | h
   ·exact .inr (by simp [h])
   ·rcases ih h with h | h
    ·exact .inl h
    ·exact .inr (List.mem_cons_of_mem _ h)
theorem Zl3 {α : Type} {m : List (ByteArray × α)} (h : (m.map (·.1)).Nodup) (k : ByteArray) (x : α) : ((Zk7 m k x).map (·.1)).Nodup := by
 induction m with
 | nil => simp [Zk7]
 | cons e r ih =>
  simp only [List.map_cons, List.nodup_cons] at h
  simp only [Zk7]
  split
  ·rename_i he
   simp only [List.map_cons, List.nodup_cons]
   exact ⟨by rw [← he]; exact h.1, h.2⟩
  ·rename_i he
   simp only [List.map_cons, List.nodup_cons]
   refine ⟨fun hm => ?_, ih h.2⟩
   rcases Yf9 r k x hm with h' | h'
   ·exact he h'
   ·exact h.1 h'
theorem Zr7 {α : Type} : ∀ {a b : List (ByteArray × α)}, Zf2 (a.map (·.1)) → Zf2 (b.map (·.1)) → (∀ k, Zcz a k = Zcz b k) → a = b
 | [], [], _, _, _ => rfl
 | [], e :: r, _, _, h => by have := h e.1; simp [Zcz] at this
 | e :: r, [], _, _, h => by have := h e.1; simp [Zcz] at this
 | (k, x) :: r, (k', y) :: s, ha, hb, h => by
  unfold Zf2 at ha hb
  simp only [List.map_cons, List.pairwise_cons] at ha hb
  have hr : ∀ {z : ByteArray}, (z = k ∨ blt z k = true) → Zcz r z = none := fun {z} hz => Zey fun e he heq => by
   have h1 := ha.1 e.1 (List.mem_map_of_mem he)
   rw [heq] at h1
   rcases hz with rfl | hz
   ·rw [Zbb] at h1; cases h1
   ·have := Zb9 h1 hz; rw [Zbb] at this; cases this
  have hs : ∀ {z : ByteArray}, (z = k' ∨ blt z k' = true) → Zcz s z = none := fun {z} hz => Zey fun e he heq => by
   have h1 := hb.1 e.1 (List.mem_map_of_mem he)
   rw [heq] at h1
   rcases hz with rfl | hz
   ·rw [Zbb] at h1; cases h1
   ·have := Zb9 h1 hz; rw [Zbb] at this; cases this
  have hk : k = k' := by
   by_cases e : k = k'
   ·exact e
   ·exfalso
    have e' : ¬ k' = k := fun h => e h.symm
    have h1 := h k
    have h2 := h k'
    simp only [Zcz, if_true, if_neg e, if_neg e'] at h1 h2
    cases hb1 : blt k k' with
    | true => rw [hs (.inr hb1)] at h1; cases h1
    | false =>
     cases hb2 : blt k' k with
     | true => rw [hr (.inr hb2)] at h2; cases h2
     | false => exact e (Zgf hb1 hb2)
  subst hk
  have h1 := h k
  simp only [Zcz, if_true, Option.some.injEq] at h1
  subst h1
  have := Zr7 (a := r) (b := s) ha.2 hb.2 (fun z => by
   by_cases e : k = z
   ·subst e; rw [hr (.inl rfl), hs (.inl rfl)]
   ·have := h z
    simpa only [Zcz, if_neg e] using this)
  rw [this]
def Yhq (m : GV) (k : ByteArray) : Option GV := Zcz (m.keys.zip m.l) k
theorem Zj3 {α β : Type} : ∀ {a : List α} {b : List β}, a.length = b.length → (a.zip b).map (·.1) = a
 | [], [], _ => rfl
 | _ :: _, _ :: _, h => by simp [Zj3 (by simpa using h)]
theorem Zxw {α β : Type} : ∀ {a : List α} {b : List β}, a.length = b.length → (a.zip b).map (·.2) = b
 | [], [], _ => rfl
 | _ :: _, _ :: _, h => by simp [Zxw (by simpa using h)]
theorem Zph {a b : GV} (ha : Zjd a) (hb : Zjd b) (h : ∀ k, Yhq a k = Yhq b k) : a = b := by
 obtain ⟨ks, l, rfl, hi, hl⟩ := ha
 obtain ⟨ks', l', rfl, hi', hl'⟩ := hb
 have := Zr7 (a := ks.zip l) (b := ks'.zip l') (by rw [Zj3 hl]; exact hi) (by rw [Zj3 hl']; exact hi') h
 have e1 := congrArg (List.map (·.1)) this
 have e2 := congrArg (List.map (·.2)) this
 rw [Zj3 hl, Zj3 hl'] at e1
 rw [Zxw hl, Zxw hl'] at e2
 rw [e1, e2]
theorem Yi4 {α : Type} {ks : List ByteArray} {l : List α} (hl : ks.length = l.length) (k : ByteArray) (x : α) : (Zoh ks ks k k).zip (Zoh ks l k x) = Zoh ks (ks.zip l) k (k, x) := by
 unfold Zoh
 have h1 : (ks.take (lb ks k)).length = (l.take (lb ks k)).length := by simp [hl]
 rw [List.zip_append (by simp [hl]), List.zip_append h1]
 have ht : ∀ n, (ks.take n).zip (l.take n) = (ks.zip l).take n := fun n => by simp only [List.zip, List.take_zipWith]
 have hd : ∀ n, (ks.drop n).zip (l.drop n) = (ks.zip l).drop n := fun n => by simp only [List.zip, List.drop_zipWith]
 rw [ht, hd]
 rfl
theorem Zn7 {m : GV} (hm : Zjd m) (k : ByteArray) (x : GV) (k' : ByteArray) : Yhq (Zl9 m k x) k' = if k = k' then some x else Yhq m k' := by
 obtain ⟨ks, l, rfl, hi, hl⟩ := hm
 unfold Yhq Zl9
 simp only [GV.keys, GV.l]
 rw [Yi4 hl]
 unfold Zoh
 rw [Zhx, Zhx]
 have hP : (ks.zip l).map (·.1) = ks := Zj3 hl
 by_cases h : k = k'
 ·subst h
  rw [Zey (a := (ks.zip l).take (lb ks k)) (fun e he heq => by
   have h1 : e.1 ∈ ks.take (lb ks k) := by
    have := List.mem_map_of_mem (f := (·.1)) he
    rwa [List.map_take, hP] at this
   have := Yn8 h1
   rw [heq, Zbb] at this; cases this)]
  simp [Zcz]
 ·simp only [Zcz, if_neg h]
  have hsplit : ks.zip l = (ks.zip l).take (lb ks k) ++ ((ks.zip l).drop (lb ks k)).take (if Zf6 ks k then 1 else 0) ++ (ks.zip l).drop (lb ks k + if Zf6 ks k then 1 else 0) := by
   rw [List.append_assoc, ← List.drop_drop, List.take_append_drop, List.take_append_drop]
  conv => rhs; rw [hsplit]
  rw [Zhx, Zhx]
  have hmid : Zcz (((ks.zip l).drop (lb ks k)).take (if Zf6 ks k then 1 else 0)) k' = none := by
   refine Zey fun e he heq => ?_
   cases hh : Zf6 ks k with
   | false => rw [hh] at he; simp at he
   | true =>
    rw [hh] at he
    unfold Zf6 at hh
    simp only [decide_eq_true_eq] at hh
    have h2 := List.mem_map_of_mem (f := (·.1)) he
    rw [List.map_take, List.map_drop, hP] at h2
    simp only [if_true] at h2
    obtain ⟨i, hi'⟩ := List.getElem?_of_mem h2
    rw [List.getElem?_take] at hi'
    split at hi'
    ·rename_i hi1
     have : i = 0 := by omega
     subst this
     rw [List.getElem?_drop, Nat.add_zero, hh] at hi'
     cases hi'
     exact h heq
    ·cases hi'
  rw [hmid]
theorem Zn6 (k : ByteArray) : Yhq gMap k = none := rfl
mutual
/-- The value of a tree. -/
def unJ : JV → GV
 | .null => Zdi
 | .bool b => gv 1 (if b then 1 else 0) 0 ByteArray.empty
 | .int n => gv 2 n 0 ByteArray.empty
 | .flt f => gv 3 0 f ByteArray.empty
 | .str s => gv 4 0 0 s
 | .list l => .mk 5 0 0 ByteArray.empty [] (Zg1 l)
 | .map m => unM m gMap
def Zg1 : List JV → List GV
 | [] => []
 | x :: r => unJ x :: Zg1 r
def unM : List (ByteArray × JV) → GV → GV
 | [], acc => acc
 | x :: r, acc => unM r (Zl9 acc x.1 (unJ x.2))
end
theorem Zb6 : ∀ (m : List (ByteArray × JV)) (g : GV), Zjd g → Zjd (unM m g)
 | [], g, h => by simpa [unM] using h
 | x :: r, g, h => by
  simp only [unM]
  exact Zb6 r _ (Zgx h _ _)
theorem Zkk : ∀ (m : List (ByteArray × JV)) (g : GV), Zjd g → (m.map (·.1)).Nodup → ∀ k, Yhq (unM m g) k = ((Zcz m k).map unJ).or (Yhq g k)
 | [], g, h, _, k => by simp [unM, Zcz]
 | x :: r, g, h, hd, k => by
  simp only [List.map_cons, List.nodup_cons] at hd
  simp only [unM]
  rw [Zkk r _ (Zgx h _ _) hd.2, Zn7 h]
  simp only [Zcz]
  by_cases e : x.1 = k
  ·have : Zcz r k = none := Zey fun y hy hyk => hd.1 (by rw [e, ← hyk]; exact List.mem_map_of_mem (f := (·.1)) hy)
   rw [if_pos e, if_pos e, this]; simp
  ·rw [if_neg e, if_neg e]
theorem Ypk {m : List (ByteArray × JV)} (hd : (m.map (·.1)).Nodup) {g : GV} (hg : Zjd g) (k : ByteArray) (j : JV) : unM (Zk7 m k j) g = Zl9 (unM m g) k (unJ j) := by
 refine Zph (Zb6 _ _ hg) (Zgx (Zb6 _ _ hg) _ _) fun z => ?_
 rw [Zkk _ _ hg (Zl3 hd _ _), Zn7 (Zb6 _ _ hg), Zkk _ _ hg hd, Yd6]
 by_cases e : k = z
 ·rw [if_pos e, if_pos e]; simp
 ·rw [if_neg e, if_neg e]
theorem Zl7 : ∀ (ks : List ByteArray) (l : List GV) (acc : List (ByteArray × JV)), (∀ y ∈ l, unJ (Za1 y) = Zav y) → (acc.map (·.1)).Nodup → unM (Zcp ks l acc) gMap = Zbz ks l (unM acc gMap) ∧ ((Zcp ks l acc).map (·.1)).Nodup
 | [], l, acc, _, hd => by simp only [Zcp, Zbz]; exact ⟨trivial, hd⟩
 | _ :: _, [], acc, _, hd => by simp only [Zcp, Zbz]; exact ⟨trivial, hd⟩
 | k :: ks, x :: l, acc, ih, hd => by
  simp only [Zcp, Zbz]
  have := Zl7 ks l (Zk7 acc k (Za1 x)) (fun y hy => ih y (by simp [hy])) (Zl3 hd _ _)
  rw [Ypk hd Zbg, ih x (by simp)] at this
  exact this
theorem Zmq : ∀ (l : List GV), (∀ y ∈ l, unJ (Za1 y) = Zav y) → Zg1 (Zdy l) = Zco l
 | [], _ => by simp [Zg1, Zdy, Zco]
 | x :: l, ih => by
  simp only [Zg1, Zdy, Zco]
  rw [ih x (by simp), Zmq l (fun y hy => ih y (by simp [hy]))]
theorem Zd9 : ∀ x : GV, unJ (Za1 x) = Zav x
 | .mk k n f s ks l => by
  have ih : ∀ y ∈ l, unJ (Za1 y) = Zav y := fun y hy => Zd9 y
  unfold Za1 Zav
  by_cases h1 : k = 1
  ·simp only [h1, if_true, unJ, gv]
   by_cases hn : n = 0 <;> simp [hn]
  by_cases h2 : k = 2
  ·simp [h2, unJ, gv]
  by_cases h3 : k = 3
  ·simp [h3, unJ, gv]
  by_cases h4 : k = 4
  ·simp [h4, unJ, gv]
  by_cases h5 : k = 5
  ·simp [h5, unJ, Zmq l ih]
  by_cases h6 : k = 6
  ·have := (Zl7 ks l [] ih (by simp)).1
   simp only [unM] at this
   unfold gMap at this
   simp [h6, unJ, gMap, this]
  simp [h1, h2, h3, h4, h5, h6, unJ]
termination_by x => SizeOf.sizeOf x
decreasing_by
 have := List.sizeOf_lt_of_mem hy
 simp; omega
mutual
/-- In every map of the tree each key stands once, and nothing is beyond memory. -/
def JOk : JV → Prop
 | .list l => l.length * 88 ≤ 140737488351232 ∧ Znn l
 | .map m => (m.map (·.1)).Nodup ∧ m.length * 88 ≤ 140737488351232 ∧ Zv4 m
 | _ => True
def Znn : List JV → Prop
 | [] => True
 | x :: r => JOk x ∧ Znn r
def Zv4 : List (ByteArray × JV) → Prop
 | [] => True
 | x :: r => JOk x.2 ∧ Zv4 r
end
theorem Zrj : ∀ (m : List (ByteArray × JV)) (k : ByteArray) (j : JV), Zv4 m → JOk j → Zv4 (Zk7 m k j)
 | [], k, j, _, hj => by simp [Zk7, Zv4, hj]
 | e :: r, k, j, h, hj => by
  simp only [Zv4] at h
  simp only [Zk7]
  split
  ·simp only [Zv4]; exact ⟨hj, h.2⟩
  ·simp only [Zv4]; exact ⟨h.1, Zrj r k j h.2 hj⟩
theorem Zvk : ∀ (ks : List ByteArray) (l : List GV) (acc : List (ByteArray × JV)), (∀ y ∈ l, JOk (Za1 y)) → Zv4 acc → Zv4 (Zcp ks l acc)
 | [], l, acc, _, h => by simpa only [Zcp] using h
 | _ :: _, [], acc, _, h => by simpa only [Zcp] using h
 | k :: ks, x :: l, acc, ih, h => by
  simp only [Zcp]
  exact Zvk ks l _ (fun y hy => ih y (by simp [hy])) (Zrj acc k _ h (ih x (by simp)))
theorem Zq3 : ∀ (l : List GV), (∀ y ∈ l, JOk (Za1 y)) → Znn (Zdy l)
 | [], _ => by simp [Zdy, Znn]
 | x :: l, ih => by
  simp only [Zdy, Znn]
  exact ⟨ih x (by simp), Zq3 l (fun y hy => ih y (by simp [hy]))⟩
theorem Zq4 : ∀ (ks : List ByteArray) (l : List GV) (acc : List (ByteArray × JV)), (Zcp ks l acc).length ≤ acc.length + l.length
 | [], l, acc => by simp [Zcp]
 | _ :: _, [], acc => by simp [Zcp]
 | k :: ks, x :: l, acc => by
  simp only [Zcp]
  have := Zq4 ks l (Zk7 acc k (Za1 x))
  have := Zh5 acc k (Za1 x)
  simp only [List.length_cons]; omega
mutual
/-- Nothing in the value is beyond memory. -/
def GOk : GV → Prop
 | .mk _ _ _ _ _ l => l.length * 88 ≤ 140737488351232 ∧ Zrh l
def Zrh : List GV → Prop
 | [] => True
 | x :: r => GOk x ∧ Zrh r
end
theorem Zxy : ∀ {l : List GV}, Zrh l → ∀ y ∈ l, GOk y
 | x :: r, h, y, hy => by
  simp only [Zrh] at h
  rcases List.mem_cons.1 hy with rfl | hy
  ·exact h.1
  ·exact Zxy h.2 y hy
mutual
theorem IsV.gok {w : World} {S : Nat → Prop} : ∀ (x : GV) {v : Value}, IsV w S x v → GOk x
 | .mk k n f s ks l, v, h => by
  unfold IsV at h
  obtain ⟨vk, a, c, _, _, _, _, _, _, _, hz, hl⟩ := h
  unfold GOk
  refine ⟨hz, ?_⟩
  rcases hl with rfl | ⟨b, o, _, _, hv⟩
  ·simp [Zrh]
  ·exact IsVs.gok l hv
theorem IsVs.gok {w : World} {S : Nat → Prop} : ∀ (l : List GV) {b o : Nat}, IsVs w S l b o → Zrh l
 | [], _, _, _ => by simp [Zrh]
 | x :: r, b, o, h => by
  unfold IsVs at h
  obtain ⟨⟨c0, c1, c2, c3, c4, c5, _, _, _, _, _, _, hx⟩, hr⟩ := h
  unfold Zrh
  exact ⟨IsV.gok x hx, IsVs.gok r hr⟩
end
theorem Zk5 : ∀ x : GV, GOk x → JOk (Za1 x)
 | .mk k n f s ks l, hg => by
  unfold GOk at hg
  have ih : ∀ y ∈ l, JOk (Za1 y) := fun y hy => Zk5 y (Zxy hg.2 y hy)
  unfold Za1
  split
  ·simp [JOk]
  split
  ·simp [JOk]
  split
  ·simp [JOk]
  split
  ·simp [JOk]
  split
  ·simp only [JOk]; exact ⟨by rw [Zhf]; exact hg.1, Zq3 l ih⟩
  split
  ·simp only [JOk]; exact ⟨(Zl7 ks l [] (fun y _ => Zd9 y) (by simp)).2, by have := Zq4 ks l []; simp only [List.length_nil] at this; omega, Zvk ks l [] ih (by simp [Zv4])⟩
  ·simp [JOk]
termination_by x => SizeOf.sizeOf x
decreasing_by
 have := List.sizeOf_lt_of_mem hy
 simp; omega
end Go.Proofs.YtgmahieoiifpfaaGreat
end
section
namespace Go.Proofs.YtgmahieoiifpfaaGreat
open Go.RowKit
def pdS (ks : List ByteArray) : List PD := ks.map fun k => .val (.string k)
mutual
def pdV : GV → PD
 | .mk k n f s ks l => .agg [.val (.int .i64 k), .val (.int .i64 n), .val (.float .f64 f), .val (.string s), .sl 1 16 (pdS ks), .sl 6 88 (Zb8 l)]
def Zb8 : List GV → List PD
 | [] => []
 | x :: r => pdV x :: Zb8 r
end
theorem Zf1 (x : GV) : pdV x = .agg [.val (.int .i64 x.kind), .val (.int .i64 x.n), .val (.float .f64 x.f), .val (.string x.s), .sl 1 16 (pdS x.keys), .sl 6 88 (Zb8 x.l)] := by
 cases x; unfold pdV; rfl
theorem Zhe (l : List GV) : Zb8 l = l.map pdV := by
 induction l with
 | nil => unfold Zb8; rfl
 | cons x r ih => unfold Zb8; rw [ih]; rfl
theorem Zbu (l : List GV) : (Zb8 l).length = l.length := by rw [Zhe]; simp
theorem Zby (l : List ByteArray) : (pdS l).length = l.length := by simp [pdS]
theorem Zfi {l : List GV} {i : Nat} {x : GV} (h : l[i]? = some x) : (Zb8 l)[i]? = some (pdV x) := by rw [Zhe]; simp [h]
theorem Zfb {l : List ByteArray} {i : Nat} {x : ByteArray} (h : l[i]? = some x) : (pdS l)[i]? = some (.val (.string x)) := by simp [pdS, h]
section
variable {w : World} {F : Nat → Prop}
theorem repL_strs {b : Nat} : ∀ {ks : List ByteArray} {o : Nat}, RepL w F 1 (pdS ks) b o ↔ ((∀ s ∈ ks, s.size ≤ maxLen) ∧ ∀ i k, ks[i]? = some k → w.cell? ⟨b, o + i, none⟩ = some (.string k))
 | [], o => by simp [pdS, RepL]
 | k :: r, o => by
  have ih := repL_strs (b := b) (ks := r) (o := o + 1)
  simp only [pdS, List.map_cons] at ih ⊢
  unfold RepL
  rw [ih]
  constructor
  ·rintro ⟨⟨u, hu, hn, h1, hl⟩, h2, h3⟩
   unfold Rep at hu
   obtain ⟨rfl, hok⟩ := hu
   refine ⟨fun s hs => ?_, fun i k' hi => ?_⟩
   ·rcases List.mem_cons.1 hs with rfl | hs
    ·exact hok
    ·exact h2 s hs
   ·cases i with
    | zero => simp at hi; subst hi; exact hl 0 _ rfl
    | succ i =>
     have := h3 i k' (by simpa using hi)
     rwa [show o + 1 + i = o + (i + 1) by omega] at this
  ·rintro ⟨h2, h3⟩
   refine ⟨⟨.string k, ?_, rfl, by simp [Value.cells, Value.oneCell'], fun j u hj => ?_⟩, fun s hs => h2 s (List.mem_cons_of_mem _ hs), fun i k' hi => ?_⟩
   ·unfold Rep; exact ⟨rfl, h2 k List.mem_cons_self⟩
   ·cases j with
    | zero => simp [Value.cells] at hj; subst hj; exact h3 0 k rfl
    | succ j => simp [Value.cells] at hj
   ·have := h3 (i + 1) k' (by simpa using hi)
    rwa [show o + (i + 1) = o + 1 + i by omega] at this
theorem rep_strs {ks : List ByteArray} {v : Value} : Rep w F (.sl 1 16 (pdS ks)) v ↔ IsStrs w F v ks := by
 unfold Rep IsStrs
 rw [Zby]
 constructor
 ·rintro ⟨a, c, rfl, h1, h2, h3, h4⟩
  rcases h4 with h4 | ⟨b, o, hF, rfl, hr⟩
  ·have : ks = [] := by cases ks <;> simp_all [pdS]
   subst this
   exact ⟨a, c, rfl, h1, h2, by simp, fun h => by simp at h⟩
  ·have := repL_strs.1 hr
   exact ⟨_, c, rfl, h1, h2, this.1, fun _ => ⟨b, o, hF, rfl, fun i hi => this.2 i _ (by simp [List.getD, hi])⟩⟩
 ·rintro ⟨a, c, rfl, h1, h2, h3, h4⟩
  refine ⟨a, c, rfl, h1, h2, by omega, ?_⟩
  by_cases h : 0 < ks.length
  ·obtain ⟨b, o, hF, rfl, hc⟩ := h4 h
   refine .inr ⟨b, o, hF, rfl, repL_strs.2 ⟨h3, fun i k hi => ?_⟩⟩
   have hlt := (List.getElem?_eq_some_iff.1 hi).1
   rw [hc i hlt]
   simp [List.getD, hi]
  ·left; have : ks = [] := List.eq_nil_of_length_eq_zero (by omega)
   subst this; rfl
mutual
theorem Yet : ∀ (x : GV) {v : Value}, IsV w F x v → Rep w F (pdV x) v
 | .mk k n f s ks l, v, h => by
  unfold IsV at h
  obtain ⟨vk, a, c, rfl, h1, h2, h3, h4, h5, h6, h7, h8⟩ := h
  unfold pdV Rep
  refine ⟨[.int .i64 k, .int .i64 n, .float .f64 f, .string s, vk, .slice a l.length c], rfl, ?_, ?_⟩
  ·have e5 := rep_strs.2 h5
   have e6 : Rep w F (.sl 6 88 (Zb8 l)) (.slice a l.length c) := by
    unfold Rep
    rw [Zbu]
    refine ⟨a, c, rfl, h6, h7, by omega, ?_⟩
    rcases h8 with rfl | ⟨b, o, hF, rfl, hv⟩
    ·left; unfold Zb8; rfl
    ·exact .inr ⟨b, o, hF, rfl, Zko l hv⟩
   simp only [Reps]
   exact ⟨_, _, rfl, by unfold Rep; exact ⟨rfl, h1⟩, _, _, rfl, by unfold Rep; exact ⟨rfl, h2⟩, _, _, rfl, by unfold Rep; exact ⟨rfl, h3⟩, _, _, rfl, by unfold Rep; exact ⟨rfl, h4⟩, _, _, rfl, e5, _, _, rfl, e6, rfl⟩
  ·obtain ⟨a0, c0, rfl, _⟩ := h5
   simp [Value.oneCell']
theorem Zko : ∀ (l : List GV) {b o : Nat}, IsVs w F l b o → RepL w F 6 (Zb8 l) b o
 | [], b, o, _ => by unfold Zb8 RepL; trivial
 | x :: r, b, o, h => by
  unfold IsVs at h
  obtain ⟨⟨c0, c1, c2, c3, c4, c5, g0, g1, g2, g3, g4, g5, hx⟩, hr⟩ := h
  have hx' := Yet x hx
  unfold Zb8 RepL
  refine ⟨⟨_, hx', by simp [Value.cells], ?_, fun j u hj => ?_⟩, Zko r hr⟩
  ·obtain ⟨a0, d0, a1, d1, e⟩ := hx.form
   rw [e]; simp [Value.cells, Value.oneCell']
  ·simp only [Value.cells] at hj
   match j, hj with
   | 0, hj => simp at hj; subst hj; exact g0
   | 1, hj => simp at hj; subst hj; exact g1
   | 2, hj => simp at hj; subst hj; exact g2
   | 3, hj => simp at hj; subst hj; exact g3
   | 4, hj => simp at hj; subst hj; exact g4
   | 5, hj => simp at hj; subst hj; exact g5
   | j + 6, hj => simp at hj
end
mutual
theorem Zpj : ∀ (x : GV) {v : Value}, Rep w F (pdV x) v → IsV w F x v
 | .mk k n f s ks l, v, h => by
  unfold pdV Rep at h
  obtain ⟨vs, rfl, hr, h1⟩ := h
  simp only [Reps] at hr
  obtain ⟨v0, _, rfl, e0, v1, _, rfl, e1, v2, _, rfl, e2, v3, _, rfl, e3, v4, _, rfl, e4, v5, _, rfl, e5, rfl⟩ := hr
  unfold Rep at e0 e1 e2 e3
  obtain ⟨rfl, w0⟩ := e0
  obtain ⟨rfl, w1⟩ := e1
  obtain ⟨rfl, w2⟩ := e2
  obtain ⟨rfl, w3⟩ := e3
  have e4' := rep_strs.1 e4
  unfold Rep at e5
  rw [Zbu] at e5
  obtain ⟨a, c, rfl, h5, h6, _, h7⟩ := e5
  unfold IsV
  refine ⟨v4, a, c, rfl, w0, w1, w2, w3, e4', h5, h6, ?_⟩
  rcases h7 with h7 | ⟨b, o, hF, rfl, hv⟩
  ·left; cases l with | nil => rfl | cons _ _ => unfold Zb8 at h7; cases h7
  ·exact .inr ⟨b, o, hF, rfl, Zk9 l hv⟩
theorem Zk9 : ∀ (l : List GV) {b o : Nat}, RepL w F 6 (Zb8 l) b o → IsVs w F l b o
 | [], b, o, _ => by unfold IsVs; trivial
 | x :: r, b, o, h => by
  unfold Zb8 RepL at h
  obtain ⟨⟨u, hu, hn, h1, hl⟩, hr⟩ := h
  have hv := Zpj x hu
  obtain ⟨a0, d0, a1, d1, e⟩ := hv.form
  subst e
  unfold IsVs
  simp only [Value.cells] at hl
  exact ⟨⟨_, _, _, _, _, _, hl 0 _ rfl, hl 1 _ rfl, hl 2 _ rfl, hl 3 _ rfl, hl 4 _ rfl, hl 5 _ rfl, hv⟩, Zk9 r hr⟩
end
theorem Ynq {x : GV} {v : Value} (h : Rep w F (pdV x) v) (hF : ∀ b, F b → b < w.heap.size) : IsV w (Btw 0 w.heap.size) x v := (Zpj x h).keep (fun _ _ => rfl) (fun b hb => ⟨Nat.zero_le _, hF b hb⟩)
end
section
variable {P : Program} {f : FuncId}
theorem Yj9 {x : GV} {y : PD} {R : World → World → Value → Prop} (h : ∀ w v, IsV w (Btw 0 w.heap.size) x v → Calls P f #[v] w fun e w' => ∃ r, e = .returned r ∧ Below w.heap.size w w' ∧ R w w' r)
  (hR : ∀ (w w' : World) (r : Value) (F : Nat → Prop), R w w' r → Rep w' (fun b => F b ∨ (w.heap.size ≤ b ∧ b < w'.heap.size)) y r) : PCall P f [pdV x] y := by
 intro w F vs hF hv
 unfold Reps at hv
 obtain ⟨v, r', rfl, hx, hr⟩ := hv
 unfold Reps at hr
 subst hr
 refine (h w v (Ynq hx hF)).mono ?_
 rintro e w' ⟨r, he, hb, hRr⟩
 exact ⟨r, he, hb, hR w w' r F hRr⟩
theorem Zk3 {x : GV} {u : Value} (hu : okV u) (h : ∀ w v, IsV w (Btw 0 w.heap.size) x v → Calls P f #[v] w fun e w' => e = .returned u ∧ Below w.heap.size w w') : PCall P f [pdV x] (.val u) :=
 Yj9 (R := fun _ _ r => r = u) (fun w v hv => (h w v hv).mono fun e w' ⟨h1, h2⟩ => ⟨u, h1, h2, rfl⟩) (fun _ _ r _ e => by unfold Rep; exact ⟨e, hu⟩)
end
end Go.Proofs.YtgmahieoiifpfaaGreat
namespace Go.Proofs.YtgmahieoiifpfaaGreat
open Go.RowKit
def pdJ (j : JV) : PD := .opq { rel := fun w F v => IsJ w F j v ∧ JOk j, one := fun _ _ _ h => h.1.oneCell, keep := fun _ _ _ _ _ h hs hv => ⟨IsJ.keep h hs j hv.1, hv.2⟩ }
def Zlj : PD := .val (.pointer none)
end Go.Proofs.YtgmahieoiifpfaaGreat
namespace Go.Proofs.YtgmahieoiifpfaaGreat
open Go.RowKit
def PLs : List PD → List PD → Prop
 | [], [] => True
 | a :: l, b :: l' => PLe a b ∧ PLs l l'
 | _, _ => False
theorem PLs.spec : ∀ {l l' : List PD}, PLs l l' → l.length = l'.length ∧ ∀ (i : Nat) (d d' : PD), l[i]? = some d → l'[i]? = some d' → PLe d d'
 | [], [], _ => ⟨rfl, fun i d d' h => by simp at h⟩
 | a :: l, b :: l', h => by
  obtain ⟨h1, h2⟩ := h
  obtain ⟨e, h3⟩ := PLs.spec h2
  refine ⟨by simp [e], fun i d d' hd hd' => ?_⟩
  cases i with
  | zero => simp at hd hd'; subst hd; subst hd'; exact h1
  | succ i => exact h3 i d d' (by simpa using hd) (by simpa using hd')
 | [], _ :: _, h => h.elim
 | _ :: _, [], h => h.elim
theorem PLe.aggs {l l' : List PD} (h : PLs l l') : PLe (.agg l) (.agg l') := PLe.agg h.spec.1 h.spec.2
def qV (x : GV) : PD := .agg [.val (.int .i64 x.kind), .val (.int .i64 x.n), .val (.float .f64 x.f), .val (.string x.s), .sl 1 16 (pdS x.keys), .sl 6 88 (Zb8 x.l)]
end Go.Proofs.YtgmahieoiifpfaaGreat
end
section
namespace Go.Proofs.YtgmahieoiifpfaaGreat
open Go.RowKit
open Go.ChangeMaps (setBlock)
structure Rng (w : World) (bm r : Nat) (es : Array MapEntry) (cl : Nat) (done : List MapEntry) : Prop where
 map : w.heap[bm]? = some (.map es cl)
 iter : ∃ seen : Array Nat, seen.toList = done.map (·.born) ∧ w.heap[r]? = some (.mapIter (some bm) cl seen cl)
 ne : bm ≠ r
 sub : ∀ e ∈ done, e ∈ es.toList
 nodup : (done.map (·.born)).Nodup
 old : ∀ x ∈ es.toList, x.born < cl
 born : (es.toList.map (·.born)).Nodup
theorem Rng.of_eq {w w' : World} {bm r : Nat} {es : Array MapEntry} {cl : Nat} {done : List MapEntry} (h : Rng w bm r es cl done) (h1 : w'.heap[bm]? = w.heap[bm]?) (h2 : w'.heap[r]? = w.heap[r]?) : Rng w' bm r es cl done := by
 obtain ⟨a, b, c, d, e, f, g⟩ := h
 obtain ⟨s, hs, hr⟩ := b
 exact ⟨h1.trans a, ⟨s, hs, h2.trans hr⟩, c, d, e, f, g⟩
theorem Ze4 {α : Type} [DecidableEq α] : ∀ {a l : List α}, a.Nodup → (∀ x ∈ a, x ∈ l) → a.length ≤ l.length
 | [], _, _, _ => Nat.zero_le _
 | x :: a, l, hn, hs => by
  simp only [List.nodup_cons] at hn
  have hx := hs x (by simp)
  have := Ze4 (a := a) (l := l.erase x) hn.2 (fun y hy => by
   have hy' := hs y (by simp [hy])
   have hne : y ≠ x := fun e => hn.1 (e ▸ hy)
   exact (List.mem_erase_of_ne hne).2 hy')
  rw [List.length_erase_of_mem hx] at this
  have hp := List.length_pos_of_mem hx
  simp only [List.length_cons]; omega
theorem Rng.lt_ {w : World} {bm r : Nat} {es : Array MapEntry} {cl : Nat} {done : List MapEntry} (h : Rng w bm r es cl done) : bm < w.heap.size ∧ r < w.heap.size := by
 obtain ⟨s, _, hr⟩ := h.iter
 exact ⟨Zya h.map, Zya hr⟩
theorem Yh4 {l : List MapEntry} (h : (l.map (·.born)).Nodup) : ∀ {e e' : MapEntry}, e ∈ l → e' ∈ l → e.born = e'.born → e = e' := by
 induction l with
 | nil => intro _ _ h; cases h
 | cons a r ih =>
  simp only [List.map_cons, List.nodup_cons] at h
  intro e e' he he' hb
  rcases List.mem_cons.1 he with h1 | h1
  ·rcases List.mem_cons.1 he' with h2 | h2
   ·rw [h1, h2]
   ·exact absurd (by rw [← h1, hb]; exact List.mem_map_of_mem (f := (·.born)) h2) h.1
  ·rcases List.mem_cons.1 he' with h2 | h2
   ·exact absurd (by rw [← h2, ← hb]; exact List.mem_map_of_mem (f := (·.born)) h1) h.1
   ·exact ih h.2 h1 h2 hb
theorem Zs8 (w : World) (r : Nat) (o : Obj) (h : r < w.heap.size) : (setBlock w r o).heap[r]? = some o := by
 simp [setBlock, h]
end Go.Proofs.YtgmahieoiifpfaaGreat
end
namespace Go.Proofs.YtgmahieoiifpfaaGreat
open Go.RowKit
def Zft {α : Type} (l : List α) (p : Nat) (x : α) : List α := l.take p ++ x :: l.drop p
theorem Zus {α : Type} (l : List α) {p : Nat} (x : α) (hp : p ≤ l.length) : (Zft l p x).length = l.length + 1 := by
 simp [Zft]; omega
theorem Yej {α : Type} (l : List α) (x : α) : Zft l l.length x = l ++ [x] := by simp [Zft]
theorem Yi1 {α : Type} (l : List α) {p : Nat} (x : α) (hp : p ≤ l.length) : (Zft l p x)[p]? = some x := by
 unfold Zft
 rw [List.getElem?_append_right (by simp; omega)]
 simp [Nat.min_eq_left hp]
theorem Zur {α : Type} (l : List α) {p : Nat} (x : α) (hp : p < l.length) : (Zft l (p + 1) x)[p]? = l[p]? := by
 unfold Zft
 rw [List.getElem?_append_left (by simp; omega)]
 simp
theorem Ybg {α : Type} (l : List α) {p : Nat} (x y : α) (hp : p < l.length) (hy : l[p]? = some y) : ((Zft l (p + 1) x).set (p + 1) y).set p x = Zft l p x := by
 have hd : l.drop p = y :: l.drop (p + 1) := by
  rw [List.drop_eq_getElem_cons hp]
  rw [List.getElem?_eq_getElem hp] at hy
  cases hy
  rfl
 have ht : l.take (p + 1) = l.take p ++ [y] := by
  rw [List.take_add_one, hy]; rfl
 unfold Zft
 rw [hd, ht]
 have e1 : (l.take p).length = p := by simp; omega
 rw [List.append_assoc]
 rw [List.set_append_right _ _ (by omega), List.set_append_right _ _ (by omega)]
 rw [e1]
 simp
theorem Zqn {l : List ByteArray} (hl : Zf2 l) {p : Nat} {k : ByteArray} (hd : ∀ x ∈ l.drop p, blt k x = true) (ht : ∀ x ∈ l.take p, blt x k = true) : Zf2 (Zft l p k) := by
 unfold Zft Zf2
 rw [List.pairwise_append]
 refine ⟨List.Pairwise.sublist (List.take_sublist _ _) hl, ?_, fun a ha b hb => ?_⟩
 ·rw [List.pairwise_cons]
  exact ⟨hd, List.Pairwise.sublist (List.drop_sublist _ _) hl⟩
 ·rcases List.mem_cons.1 hb with rfl | hb
  ·exact ht a ha
  ·exact Zb9 (ht a ha) (hd b hb)
theorem Zut {α : Type} (l : List α) (p : Nat) (x : α) {y : α} : y ∈ Zft l p x ↔ y = x ∨ y ∈ l := by
 unfold Zft
 rw [List.mem_append, List.mem_cons]
 have : y ∈ l ↔ y ∈ l.take p ∨ y ∈ l.drop p := by rw [← List.mem_append, List.take_append_drop]
 rw [this]
 constructor
 ·rintro (h | h | h)
  ·exact .inr (.inl h)
  ·exact .inl h
  ·exact .inr (.inr h)
 ·rintro (h | h | h)
  ·exact .inr (.inl h)
  ·exact .inl h
  ·exact .inr (.inr h)
theorem Zx1 : ∀ {l : List JV}, Znn l → ∀ y ∈ l, JOk y
 | x :: r, h, y, hy => by
  simp only [Znn] at h
  rcases List.mem_cons.1 hy with rfl | hy
  ·exact h.1
  ·exact Zx1 h.2 y hy
theorem Zes : ∀ {m : List (ByteArray × JV)}, Zv4 m → ∀ x ∈ m, JOk x.2
 | x :: r, h, y, hy => by
  simp only [Zv4] at h
  rcases List.mem_cons.1 hy with rfl | hy
  ·exact h.1
  ·exact Zes h.2 y hy
def Zmr (m : List (ByteArray × JV)) (ks : List ByteArray) : List GV := ks.map fun k => unJ ((Zcz m k).getD .null)
theorem Zmc {f : ByteArray → GV} : ∀ (ks : List ByteArray) (k : ByteArray), k ∈ ks → Zcz (ks.zip (ks.map f)) k = some (f k)
 | [], k, h => by simp at h
 | a :: r, k, h => by
  simp only [List.map_cons, List.zip_cons_cons, Zcz]
  by_cases e : a = k
  ·rw [if_pos e, e]
  ·rw [if_neg e]
   rcases List.mem_cons.1 h with h | h
   ·exact absurd h.symm e
   ·exact Zmc r k h
theorem Zkj {f : ByteArray → GV} : ∀ (ks : List ByteArray) (k : ByteArray), k ∉ ks → Zcz (ks.zip (ks.map f)) k = none
 | [], k, _ => by simp [Zcz]
 | a :: r, k, h => by
  simp only [List.map_cons, List.zip_cons_cons, Zcz]
  simp only [List.mem_cons, not_or] at h
  rw [if_neg (fun e => h.1 e.symm), Zkj r k h.2]
theorem Ycf {m : List (ByteArray × JV)} (hd : (m.map (·.1)).Nodup) {ks : List ByteArray} (hi : Zf2 ks) (hm : ∀ k, k ∈ ks ↔ k ∈ m.map (·.1)) : unJ (.map m) = .mk 6 0 0 ByteArray.empty ks (Zmr m ks) := by
 unfold unJ
 refine Zph (Zb6 _ _ Zbg) ⟨ks, Zmr m ks, rfl, hi, by simp [Zmr]⟩ fun k => ?_
 rw [Zkk _ _ Zbg hd, Zn6, Option.or_none]
 show _ = Zcz (ks.zip (Zmr m ks)) k
 unfold Zmr
 by_cases h : k ∈ ks
 ·rw [Zmc _ _ h]
  obtain ⟨⟨k', j⟩, hx, e⟩ := List.mem_map.1 ((hm k).1 h)
  simp only at e
  subst e
  rw [Zgk hd hx]; rfl
 ·rw [Zkj _ _ h, Zey]
  ·rfl
  ·intro e he hek
   exact h ((hm k).2 (by rw [← hek]; exact List.mem_map_of_mem he))
def Zjc : JV → Value → Prop
 | .null, v => v = .nilIface
 | .bool b, v => v = .iface 4 (.bool b)
 | .int n, v => v = .iface 2 (.int .i64 n)
 | .flt f, v => v = .iface 25 (.float .f64 f)
 | .str s, v => v = .iface 9 (.string s)
 | .list l, v => ∃ a c, v = .iface 276 (.slice a l.length c)
 | .map _, v => ∃ b, v = .iface 277 (.map (some b))
theorem IsJ.shape {w : World} {S : Nat → Prop} {j : JV} {v : Value} (h : IsJ w S j v) : Zjc j v := by
 cases j <;> unfold IsJ at h <;> unfold Zjc
 ·exact h
 ·exact h
 ·exact h.1
 ·exact h.1
 ·exact h.1
 ·obtain ⟨a, c, e, _⟩ := h; exact ⟨a, c, e⟩
 ·obtain ⟨b, es, cl, e, _⟩ := h; exact ⟨b, e⟩
def JV.IsMap : JV → Bool | .map _ => true | _ => false
def JV.IsList : JV → Bool | .list _ => true | _ => false
def JV.IsBool : JV → Bool | .bool _ => true | _ => false
def JV.IsInt : JV → Bool | .int _ => true | _ => false
def JV.IsFloat : JV → Bool | .flt _ => true | _ => false
def JV.IsString : JV → Bool | .str _ => true | _ => false
def JV.IsNull : JV → Bool | .null => true | _ => false
theorem Yco (j : JV) (w : World) (r : Value) (hj : Zjc j r) : Calls Tryz.prog 303 #[.agg #[r]] w fun e w' => e = .returned (.bool (JV.IsMap j)) ∧ w' = w.alloc (.cells #[r] 315) := by
 cases j <;> unfold Zjc at hj
 case null => subst hj; go_enter Tryz.func303, Tryz.ntmps303; go_wp2_with fail; go_ret; exact ⟨rfl, rfl⟩
 case bool => subst hj; go_enter Tryz.func303, Tryz.ntmps303; go_wp2_with fail; go_ret; exact ⟨rfl, rfl⟩
 case int => subst hj; go_enter Tryz.func303, Tryz.ntmps303; go_wp2_with fail; go_ret; exact ⟨rfl, rfl⟩
 case flt => subst hj; go_enter Tryz.func303, Tryz.ntmps303; go_wp2_with fail; go_ret; exact ⟨rfl, rfl⟩
 case str => subst hj; go_enter Tryz.func303, Tryz.ntmps303; go_wp2_with fail; go_ret; exact ⟨rfl, rfl⟩
 case list => obtain ⟨a, c, rfl⟩ := hj; go_enter Tryz.func303, Tryz.ntmps303; go_wp2_with fail; go_ret; exact ⟨rfl, rfl⟩
 case map => obtain ⟨b, rfl⟩ := hj; go_enter Tryz.func303, Tryz.ntmps303; go_wp2_with fail; go_ret; exact ⟨rfl, rfl⟩
theorem Yay (j : JV) (w : World) (r : Value) (hj : Zjc j r) : Calls Tryz.prog 302 #[.agg #[r]] w fun e w' => e = .returned (.bool (JV.IsList j)) ∧ w' = w.alloc (.cells #[r] 315) := by
 cases j <;> unfold Zjc at hj
 case null => subst hj; go_enter Tryz.func302, Tryz.ntmps302; go_wp2_with fail; go_ret; exact ⟨rfl, rfl⟩
 case bool => subst hj; go_enter Tryz.func302, Tryz.ntmps302; go_wp2_with fail; go_ret; exact ⟨rfl, rfl⟩
 case int => subst hj; go_enter Tryz.func302, Tryz.ntmps302; go_wp2_with fail; go_ret; exact ⟨rfl, rfl⟩
 case flt => subst hj; go_enter Tryz.func302, Tryz.ntmps302; go_wp2_with fail; go_ret; exact ⟨rfl, rfl⟩
 case str => subst hj; go_enter Tryz.func302, Tryz.ntmps302; go_wp2_with fail; go_ret; exact ⟨rfl, rfl⟩
 case list => obtain ⟨a, c, rfl⟩ := hj; go_enter Tryz.func302, Tryz.ntmps302; go_wp2_with fail; go_ret; exact ⟨rfl, rfl⟩
 case map => obtain ⟨b, rfl⟩ := hj; go_enter Tryz.func302, Tryz.ntmps302; go_wp2_with fail; go_ret; exact ⟨rfl, rfl⟩
theorem Yax (j : JV) (w : World) (r : Value) (hj : Zjc j r) : Calls Tryz.prog 299 #[.agg #[r]] w fun e w' => e = .returned (.bool (JV.IsBool j)) ∧ w' = w.alloc (.cells #[r] 315) := by
 cases j <;> unfold Zjc at hj
 case null => subst hj; go_enter Tryz.func299, Tryz.ntmps299; go_wp2_with fail; go_ret; exact ⟨rfl, rfl⟩
 case bool => subst hj; go_enter Tryz.func299, Tryz.ntmps299; go_wp2_with fail; go_ret; exact ⟨rfl, rfl⟩
 case int => subst hj; go_enter Tryz.func299, Tryz.ntmps299; go_wp2_with fail; go_ret; exact ⟨rfl, rfl⟩
 case flt => subst hj; go_enter Tryz.func299, Tryz.ntmps299; go_wp2_with fail; go_ret; exact ⟨rfl, rfl⟩
 case str => subst hj; go_enter Tryz.func299, Tryz.ntmps299; go_wp2_with fail; go_ret; exact ⟨rfl, rfl⟩
 case list => obtain ⟨a, c, rfl⟩ := hj; go_enter Tryz.func299, Tryz.ntmps299; go_wp2_with fail; go_ret; exact ⟨rfl, rfl⟩
 case map => obtain ⟨b, rfl⟩ := hj; go_enter Tryz.func299, Tryz.ntmps299; go_wp2_with fail; go_ret; exact ⟨rfl, rfl⟩
theorem Ycn (j : JV) (w : World) (r : Value) (hj : Zjc j r) : Calls Tryz.prog 301 #[.agg #[r]] w fun e w' => e = .returned (.bool (JV.IsInt j)) ∧ w' = w.alloc (.cells #[r] 315) := by
 cases j <;> unfold Zjc at hj
 case null => subst hj; go_enter Tryz.func301, Tryz.ntmps301; go_wp2_with fail; go_ret; exact ⟨rfl, rfl⟩
 case bool => subst hj; go_enter Tryz.func301, Tryz.ntmps301; go_wp2_with fail; go_ret; exact ⟨rfl, rfl⟩
 case int => subst hj; go_enter Tryz.func301, Tryz.ntmps301; go_wp2_with fail; go_ret; exact ⟨rfl, rfl⟩
 case flt => subst hj; go_enter Tryz.func301, Tryz.ntmps301; go_wp2_with fail; go_ret; exact ⟨rfl, rfl⟩
 case str => subst hj; go_enter Tryz.func301, Tryz.ntmps301; go_wp2_with fail; go_ret; exact ⟨rfl, rfl⟩
 case list => obtain ⟨a, c, rfl⟩ := hj; go_enter Tryz.func301, Tryz.ntmps301; go_wp2_with fail; go_ret; exact ⟨rfl, rfl⟩
 case map => obtain ⟨b, rfl⟩ := hj; go_enter Tryz.func301, Tryz.ntmps301; go_wp2_with fail; go_ret; exact ⟨rfl, rfl⟩
theorem Zwa (j : JV) (w : World) (r : Value) (hj : Zjc j r) : Calls Tryz.prog 300 #[.agg #[r]] w fun e w' => e = .returned (.bool (JV.IsFloat j)) ∧ w' = w.alloc (.cells #[r] 315) := by
 cases j <;> unfold Zjc at hj
 case null => subst hj; go_enter Tryz.func300, Tryz.ntmps300; go_wp2_with fail; go_ret; exact ⟨rfl, rfl⟩
 case bool => subst hj; go_enter Tryz.func300, Tryz.ntmps300; go_wp2_with fail; go_ret; exact ⟨rfl, rfl⟩
 case int => subst hj; go_enter Tryz.func300, Tryz.ntmps300; go_wp2_with fail; go_ret; exact ⟨rfl, rfl⟩
 case flt => subst hj; go_enter Tryz.func300, Tryz.ntmps300; go_wp2_with fail; go_ret; exact ⟨rfl, rfl⟩
 case str => subst hj; go_enter Tryz.func300, Tryz.ntmps300; go_wp2_with fail; go_ret; exact ⟨rfl, rfl⟩
 case list => obtain ⟨a, c, rfl⟩ := hj; go_enter Tryz.func300, Tryz.ntmps300; go_wp2_with fail; go_ret; exact ⟨rfl, rfl⟩
 case map => obtain ⟨b, rfl⟩ := hj; go_enter Tryz.func300, Tryz.ntmps300; go_wp2_with fail; go_ret; exact ⟨rfl, rfl⟩
theorem Ztj (j : JV) (w : World) (r : Value) (hj : Zjc j r) : Calls Tryz.prog 305 #[.agg #[r]] w fun e w' => e = .returned (.bool (JV.IsString j)) ∧ w' = w.alloc (.cells #[r] 315) := by
 cases j <;> unfold Zjc at hj
 case null => subst hj; go_enter Tryz.func305, Tryz.ntmps305; go_wp2_with fail; go_ret; exact ⟨rfl, rfl⟩
 case bool => subst hj; go_enter Tryz.func305, Tryz.ntmps305; go_wp2_with fail; go_ret; exact ⟨rfl, rfl⟩
 case int => subst hj; go_enter Tryz.func305, Tryz.ntmps305; go_wp2_with fail; go_ret; exact ⟨rfl, rfl⟩
 case flt => subst hj; go_enter Tryz.func305, Tryz.ntmps305; go_wp2_with fail; go_ret; exact ⟨rfl, rfl⟩
 case str => subst hj; go_enter Tryz.func305, Tryz.ntmps305; go_wp2_with fail; go_ret; exact ⟨rfl, rfl⟩
 case list => obtain ⟨a, c, rfl⟩ := hj; go_enter Tryz.func305, Tryz.ntmps305; go_wp2_with fail; go_ret; exact ⟨rfl, rfl⟩
 case map => obtain ⟨b, rfl⟩ := hj; go_enter Tryz.func305, Tryz.ntmps305; go_wp2_with fail; go_ret; exact ⟨rfl, rfl⟩
theorem Yaz (j : JV) (w : World) (r : Value) (hj : Zjc j r) : Calls Tryz.prog 304 #[.agg #[r]] w fun e w' => e = .returned (.bool (JV.IsNull j)) ∧ w' = w.alloc (.cells #[r] 315) := by
 cases j <;> unfold Zjc at hj
 case null => subst hj; go_enter Tryz.func304, Tryz.ntmps304; go_wp2_with fail; go_ret; exact ⟨rfl, rfl⟩
 case bool => subst hj; go_enter Tryz.func304, Tryz.ntmps304; go_wp2_with fail; go_ret; exact ⟨rfl, rfl⟩
 case int => subst hj; go_enter Tryz.func304, Tryz.ntmps304; go_wp2_with fail; go_ret; exact ⟨rfl, rfl⟩
 case flt => subst hj; go_enter Tryz.func304, Tryz.ntmps304; go_wp2_with fail; go_ret; exact ⟨rfl, rfl⟩
 case str => subst hj; go_enter Tryz.func304, Tryz.ntmps304; go_wp2_with fail; go_ret; exact ⟨rfl, rfl⟩
 case list => obtain ⟨a, c, rfl⟩ := hj; go_enter Tryz.func304, Tryz.ntmps304; go_wp2_with fail; go_ret; exact ⟨rfl, rfl⟩
 case map => obtain ⟨b, rfl⟩ := hj; go_enter Tryz.func304, Tryz.ntmps304; go_wp2_with fail; go_ret; exact ⟨rfl, rfl⟩
theorem Yaw (x : Bool) (w : World) : Calls Tryz.prog 291 #[.agg #[.iface 4 (.bool x)]] w fun e w' => e = .returned (.bool x) ∧ w' = w.alloc (.cells #[.iface 4 (.bool x)] 315) := by
 go_enter Tryz.func291, Tryz.ntmps291
 go_wp2_with fail
 go_ret
 exact ⟨rfl, rfl⟩
theorem Ycl (x : Int) (w : World) : Calls Tryz.prog 293 #[.agg #[.iface 2 (.int .i64 x)]] w fun e w' => e = .returned (.int .i64 x) ∧ w' = w.alloc (.cells #[.iface 2 (.int .i64 x)] 315) := by
 go_enter Tryz.func293, Tryz.ntmps293
 go_wp2_with fail
 go_ret
 exact ⟨rfl, rfl⟩
theorem Zv8 (x : Nat) (w : World) : Calls Tryz.prog 292 #[.agg #[.iface 25 (.float .f64 x)]] w fun e w' => e = .returned (.float .f64 x) ∧ w' = w.alloc (.cells #[.iface 25 (.float .f64 x)] 315) := by
 go_enter Tryz.func292, Tryz.ntmps292
 go_wp2_with fail
 go_ret
 exact ⟨rfl, rfl⟩
theorem Zth (x : ByteArray) (w : World) : Calls Tryz.prog 298 #[.agg #[.iface 9 (.string x)]] w fun e w' => e = .returned (.string x) ∧ w' = w.alloc (.cells #[.iface 9 (.string x)] 315) := by
 go_enter Tryz.func298, Tryz.ntmps298
 go_wp2_with fail
 go_ret
 exact ⟨rfl, rfl⟩
end Go.Proofs.YtgmahieoiifpfaaGreat
section
namespace Go.Proofs.YtgmahieoiifpfaaGreat
open Go.RowKit
open Go.ChangeMaps (setBlock)
def Zj4 (l : List JV) : PD := .opq {
 rel := fun w F v => ∃ a c, v = .slice a l.length c ∧ l.length * 16 ≤ 140737488351232 ∧ (l = [] ∨ ∃ b o, F b ∧ a = some ⟨b, o, none⟩ ∧ IsJs w F l b o) ∧ ∀ x ∈ l, JOk x,
 one := fun _ _ _ ⟨_, _, e, _⟩ => by rw [e]; rfl,
 keep := fun _ _ _ _ _ h hs ⟨a, c, e, h1, h2, h3⟩ => ⟨a, c, e, h1, h2.imp id (fun ⟨b, o, hb, ha, hx⟩ => ⟨b, o, hs b hb, ha, IsJs.keep h hs l b o hb hx⟩), h3⟩ }
def Zio (m : List (ByteArray × JV)) : PD := .opq {
 rel := fun w F v => ∃ b es cl, v = .map (some b) ∧ F b ∧ w.heap[b]? = some (.map es cl) ∧ MapKept.Stamped es cl ∧ m.length < maxLen ∧ IsEs w F m es.toList ∧ JOk (.map m),
 one := fun _ _ _ ⟨_, _, _, e, _⟩ => by rw [e]; rfl,
 keep := fun _ _ _ _ _ h hs ⟨b, es, cl, e, hb, hh, h1, h2, h3, h4⟩ => ⟨b, es, cl, e, hs b hb, (h b hb).trans hh, h1, h2, IsEs.keep h hs m es.toList h3, h4⟩ }
def dvX : JV → PD
 | .null => .val .nilIface
 | .bool b => .iface 4 (.val (.bool b))
 | .int n => .iface 2 (.val (.int .i64 n))
 | .flt f => .iface 25 (.val (.float .f64 f))
 | .str s => .iface 9 (.val (.string s))
 | .list l => .iface 276 (Zj4 l)
 | .map m => .iface 277 (Zio m)
theorem Yld (j : JV) : PLe (pdJ j) (dvX j) := by
 intro w F v h
 unfold pdJ Rep at h
 obtain ⟨h, hok⟩ := h
 cases j with
 | null => unfold IsJ at h; unfold dvX Rep; exact ⟨h, trivial⟩
 | bool b => unfold IsJ at h; unfold dvX Rep; exact ⟨_, h, by unfold Rep; exact ⟨rfl, trivial⟩⟩
 | int n => unfold IsJ at h; unfold dvX Rep; exact ⟨_, h.1, by unfold Rep; exact ⟨rfl, h.2⟩⟩
 | flt n => unfold IsJ at h; unfold dvX Rep; exact ⟨_, h.1, by unfold Rep; exact ⟨rfl, h.2⟩⟩
 | str n => unfold IsJ at h; unfold dvX Rep; exact ⟨_, h.1, by unfold Rep; exact ⟨rfl, h.2⟩⟩
 | list l =>
  unfold IsJ at h
  obtain ⟨a, c, e, h1, h2⟩ := h
  unfold dvX Rep
  refine ⟨_, e, ?_⟩
  unfold Zj4 Rep
  exact ⟨a, c, rfl, h1, h2, Zx1 (by unfold JOk at hok; exact hok.2)⟩
 | map m =>
  unfold IsJ at h
  obtain ⟨b, es, cl, e, hb, hh, h1, h2, h3⟩ := h
  unfold dvX Rep
  refine ⟨_, e, ?_⟩
  unfold Zio Rep
  exact ⟨b, es, cl, rfl, hb, hh, h1, h2, h3, hok⟩
section
variable {P : Program}
theorem PCall.le {f : FuncId} {ds ds' : List PD} {r : PD} (h : ∀ w F vs, Reps w F ds vs → Reps w F ds' vs) (hp : PCall P f ds' r) : PCall P f ds r := fun w F vs hF hv => hp w F vs hF (h w F vs hv)
theorem PCall.ex {f : FuncId} {ds : List PD} {r : PD} (h : ∀ w F vs, Reps w F ds vs → PCall P f ds r) : PCall P f ds r := fun w F vs hF hv => h w F vs hv w F vs hF hv
theorem Reps.cons1 {w : World} {F : Nat → Prop} {d d' : PD} {ds : List PD} {vs : List Value} (h : PLe d d') (hv : Reps w F (d :: ds) vs) : Reps w F (d' :: ds) vs := by
 unfold Reps at hv ⊢
 obtain ⟨v, r, e, h1, h2⟩ := hv
 exact ⟨v, r, e, h _ _ _ h1, h2⟩
theorem PLe.agg1 {d d' : PD} (h : PLe d d') : PLe (.agg [d]) (.agg [d']) := by
 intro w F v hv
 unfold Rep at hv ⊢
 obtain ⟨vs, e, h1, h2⟩ := hv
 exact ⟨vs, e, Reps.cons1 h h1, h2⟩
theorem PCall.vu {f : FuncId} {j : JV} {ds : List PD} {r : PD} (h : PCall P f (.agg [dvX j] :: ds) r) : PCall P f (.agg [pdJ j] :: ds) r := h.le (fun _ _ _ hv => Reps.cons1 (PLe.agg1 (Yld j)) hv)
variable {X : Base} {N : Nat} {Q : Exit → Act → World → Prop} {ops : Array Oper} {rem : List Nat} {ks : List Itm} {s s' : Sta} {a : Act} {w w' : World} {ρ : Nat → RV}
theorem NilIs.ifc {T : Nat} {d : PD} : NilIs true (.iface T d) false := fun w F v h => by
 unfold Rep at h
 obtain ⟨u, rfl, _⟩ := h
 exact ⟨_, _, rfl⟩
theorem Yfs {o : Oper} (hd : Za7 X.N o.dst = true) {x : Operand} {t : TypeId} (ho : o.op = .call { callee := .builtin .len, args := #[x], argTypes := #[t] }) {e n y : Nat} (ht : Zp0 P t = some (e, n, y)) {l : List JV} (hx : s.ev x = .dat (Zj4 l)) :
  OpS P X o s (s.put o.dst (.dat (.val (.int .i64 l.length)))) := by
 refine Zat hd fun a w ρ hc => ?_
 have h2 := hc.ev x
 rw [hx] at h2
 unfold VR Zj4 Rep at h2
 obtain ⟨a', c, e1, hby, hcase, _⟩ := h2
 refine ⟨.int .i64 l.length, ?_, by unfold VR Rep; exact ⟨rfl, Znm (by omega)⟩⟩
 obtain ⟨_, hu, _⟩ := Zcd ht
 simp [execOp, ho, resolve, invoke, builtin, e1, Zs2 hu, goInt]
theorem Zzm {d : Nat} {x : Operand} {t e n y : Nat} {l : List JV} (hN : Nat.blt d N = true) (hx : s.ev x = .dat (Zj4 l)) [ht : SI P t e n y] (h : Run P X N Q (.ops ops rem :: ks) (s.put (some d) (.dat (.val (.int .i64 l.length))))) : Zbp P X N Q ops rem ks (some d) (.call { callee := .builtin .len, args := #[x], argTypes := #[t] }) s := Zdx hN (fun _ _ _ hd => Yfs hd rfl ht.out hx) h
theorem Ydm {ops : List Oper} {d : Nat} {x : Operand} {t e n y : Nat} {l : List JV} (hN : Nat.blt d N = true) (hx : s.ev x = .dat (Zj4 l)) [ht : SI P t e n y] : TrK P X N ops (some d) (.call { callee := .builtin .len, args := #[x], argTypes := #[t] }) (Eff.put (some d) (.dat (.val (.int .i64 l.length)))) s (s.put (some d) (.dat (.val (.int .i64 l.length)))) := Zbm hN fun s' _ _ _ _ hd hev htb => Yfs hd rfl ht.out ((hev _ (by simp [Op.operands, Call.operands])).trans hx)
theorem Zvb {o : Oper} (hd : Za7 X.N o.dst = true) {t : TypeId} {x ix : Operand} (ho : o.op = .indexAddr t x ix) {l : List JV} (hx : s.ev x = .dat (Zj4 l)) {k : IntKind} {i : Nat} (hi : s.ev ix = .dat (.val (.int k (i : Int))))
  {e y' : Nat} (ht : Zp0 P t = some (e, 1, y')) {j : JV} (hl : l[i]? = some j) : OpS P X o s (s.put o.dst (.dat (.ptr (pdJ j)))) := by
 refine Zat hd fun a w ρ hc => ?_
 have h2 := hc.ev x
 rw [hx] at h2
 unfold VR Zj4 Rep at h2
 have h3 := hc.ev ix
 rw [hi] at h3
 unfold VR Rep at h3
 obtain ⟨a', c, e1, hby, hcase, hok⟩ := h2
 obtain ⟨inf, hu, hinf, hsz, _⟩ := Zcd ht
 have hlt : i < l.length := (List.getElem?_eq_some_iff.1 hl).1
 rcases hcase with rfl | ⟨b, off, hF, ha, hr⟩
 ·simp at hl
 obtain ⟨u, hu1, hun⟩ := hr.at_ hl
 subst ha
 refine ⟨.pointer (some ⟨b, off + i, none⟩), ?_, ?_⟩
 ·simp [execOp, ho, e1, h3.1, Instr.indexAt, asIntOf, run_underlying hu, hlt, sizeOf, typeInfo, hinf, hsz, Zb2]
 ·unfold VR Rep
  refine ⟨b, off + i, u, rfl, hF, by unfold pdJ Rep; exact ⟨hun, hok j (List.mem_of_getElem? hl)⟩, ?_⟩
  rw [Za8 hun.oneCell]
  intro q v hq
  cases q with
  | zero => simp at hq; subst hq; exact hu1
  | succ q => simp at hq
theorem Yjd {d : Nat} {x ix : Operand} {t e y' : Nat} {l : List JV} {k : IntKind} {i : Nat} {j : JV} (hN : Nat.blt d N = true) (hx : s.ev x = .dat (Zj4 l)) (hi : s.ev ix = .dat (.val (.int k (i : Int)))) [ht : SI P t e 1 y'] (hl : l[i]? = some j) (h : Run P X N Q (.ops ops rem :: ks) (s.put (some d) (.dat (.ptr (pdJ j))))) : Zbp P X N Q ops rem ks (some d) (.indexAddr t x ix) s := Zdx hN (fun _ _ _ hd => Zvb hd rfl hx hi ht.out hl) h
theorem Zyo {ops : List Oper} {d : Nat} {x ix : Operand} {t e y' : Nat} {l : List JV} {k : IntKind} {i : Nat} {j : JV} (hN : Nat.blt d N = true) (hx : s.ev x = .dat (Zj4 l)) (hi : s.ev ix = .dat (.val (.int k (i : Int)))) [ht : SI P t e 1 y'] (hl : l[i]? = some j) : TrK P X N ops (some d) (.indexAddr t x ix) (Eff.put (some d) (.dat (.ptr (pdJ j)))) s (s.put (some d) (.dat (.ptr (pdJ j)))) := Zbm hN fun s' _ _ _ _ hd hev htb => Zvb hd rfl ((hev _ (by simp [Op.operands])).trans hx) ((hev _ (by simp [Op.operands])).trans hi) ht.out hl
def Ysu (P : Program) (t : TypeId) : Option (Nat × Nat) := match P.underlying t with
 | some (.map k e) => some (k, e)
 | _ => none
theorem Ziu {t k e : Nat} (h : Ysu P t = some (k, e)) : P.underlying t = some (.map k e) := by
 unfold Ysu at h
 split at h
 ·simp only [Option.some.injEq, Prod.mk.injEq] at h; obtain ⟨rfl, rfl⟩ := h; assumption
 ·cases h
class MTI (P : Program) (t : Nat) (k : outParam Nat) (e : outParam Nat) : Prop where
 out : Ysu P t = some (k, e)
 str : P.underlying k = some .string
 zer : Yl3 P e = some .nilIface
theorem Yol {o : Oper} (hd : Za7 X.N o.dst = true) {x : Operand} {t : TypeId} (ho : o.op = .call { callee := .builtin .len, args := #[x], argTypes := #[t] }) {k e : Nat} (ht : Ysu P t = some (k, e)) {m : List (ByteArray × JV)} (hx : s.ev x = .dat (Zio m)) :
  OpS P X o s (s.put o.dst (.dat (.val (.int .i64 m.length)))) := by
 refine Zat hd fun a w ρ hc => ?_
 have h2 := hc.ev x
 rw [hx] at h2
 unfold VR Zio Rep at h2
 obtain ⟨b, es, cl, e1, hb, hh, hs, hl, he, hok⟩ := h2
 have hlen : es.size = m.length := by have := he.length; simpa using this
 refine ⟨.int .i64 m.length, ?_, by unfold VR Rep; exact ⟨rfl, WalkArith.wf_i64 (by unfold maxLen at hl; omega)⟩⟩
 have hu := Ziu ht
 simp [execOp, ho, resolve, invoke, builtin, e1, Builtin.len_, run_underlying hu, MapKept.run_getObj_map hh, goInt, hlen, Result.andThen]
theorem Zme {d : Nat} {x : Operand} {t k e : Nat} {m : List (ByteArray × JV)} (hN : Nat.blt d N = true) (hx : s.ev x = .dat (Zio m)) [ht : MTI P t k e] (h : Run P X N Q (.ops ops rem :: ks) (s.put (some d) (.dat (.val (.int .i64 m.length))))) : Zbp P X N Q ops rem ks (some d) (.call { callee := .builtin .len, args := #[x], argTypes := #[t] }) s := Zdx hN (fun _ _ _ hd => Yol hd rfl ht.out hx) h
def lkJ : List (ByteArray × JV) → ByteArray → Option JV
 | [], _ => none
 | x :: r, k => if x.1 = k then some x.2 else lkJ r k
theorem IsEs.lk {F : Nat → Prop} {k : ByteArray} : ∀ {m : List (ByteArray × JV)} {es : List MapEntry}, IsEs w F m es → (∃ j e, lkJ m k = some j ∧ e ∈ es ∧ e.key = .string k ∧ IsJ w F j e.val ∧ (k, j) ∈ m) ∨ (lkJ m k = none ∧ ∀ e ∈ es, e.key ≠ .string k)
 | [], es, h => by unfold IsEs at h; subst h; exact .inr ⟨rfl, by simp⟩
 | x :: r, es, h => by
  unfold IsEs at h
  obtain ⟨e, r', rfl, hke, _, hx, hr⟩ := h
  unfold lkJ
  by_cases hk : x.1 = k
  ·rw [if_pos hk]; exact .inl ⟨x.2, e, rfl, by simp, by rw [hke, hk], hx, by rw [← hk]; simp⟩
  ·rw [if_neg hk]
   rcases IsEs.lk hr with ⟨j, e', h1, h2, h3, h4, h5⟩ | ⟨h1, h2⟩
   ·exact .inl ⟨j, e', h1, by simp [h2], h3, h4, by simp [h5]⟩
   ·refine .inr ⟨h1, fun e' he' => ?_⟩
    rcases List.mem_cons.1 he' with rfl | he'
    ·rw [hke]; intro e; injection e with e; exact hk e
    ·exact h2 e' he'
theorem Zvr {t kt et r cl : Nat} {es : Array MapEntry} {k : ByteArray} (hm : P.underlying t = some (.map kt et)) (hd : P.underlying kt = some .string)
  (hb : w.heap[r]? = some (.map es cl)) (hs : MapKept.Stamped es cl) (hks : ∀ x ∈ es.toList, MapKept.IsKey .string x.key) {e : MapEntry} (he : e ∈ es.toList) (hke : e.key = .string k) :
  (Instr.lookup t (.map (some r)) (.string k) true).run P w = .ok (.tuple #[e.val, .bool true]) w := by
 have hk : MapKept.IsKey .string (.string k) := trivial
 rcases MapKept.findNow_spec hk es.toList 0 hks with ⟨h1, h2⟩ | ⟨j, e', h1, h2, h3⟩
 ·exact absurd hke (h2 e he)
 ·have : e' = e := by
   have hkn : (es.toList.map (·.key)).Nodup := hs.2.2
   obtain ⟨i, hi⟩ := List.getElem?_of_mem he
   have hij : j = i := by
    have hi' : (es.toList.map (·.key))[j]? = some (.string k) := by rw [List.getElem?_map, h2, Option.map_some, h3]
    have hj' : (es.toList.map (·.key))[i]? = some (.string k) := by rw [List.getElem?_map, hi, Option.map_some, hke]
    exact (List.getElem?_inj (List.getElem?_eq_some_iff.1 hi').1 hkn).1 (hi'.trans hj'.symm)
   rw [hij, hi] at h2
   exact (Option.some.inj h2).symm
  subst this
  simp [Instr.lookup, run_underlying hm, MapKept.run_getObj_map hb, MapKept.run_checkKey hd hk, MapKept.run_findKey hd h1, Result.andThen]
theorem Zs3 {t kt et r cl : Nat} {es : Array MapEntry} {k : ByteArray} {z : Value} (hm : P.underlying t = some (.map kt et)) (hd : P.underlying kt = some .string) (hz : Yl3 P et = some z)
  (hb : w.heap[r]? = some (.map es cl)) (hks : ∀ x ∈ es.toList, MapKept.IsKey .string x.key) (he : ∀ e ∈ es.toList, e.key ≠ .string k) :
  (Instr.lookup t (.map (some r)) (.string k) true).run P w = .ok (.tuple #[z, .bool false]) w := by
 have hk : MapKept.IsKey .string (.string k) := trivial
 rcases MapKept.findNow_spec hk es.toList 0 hks with ⟨h1, h2⟩ | ⟨j, e', h1, h2, h3⟩
 ·simp [Instr.lookup, run_underlying hm, MapKept.run_getObj_map hb, MapKept.run_checkKey hd hk, MapKept.run_findKey hd h1, Zs4 hz, Result.andThen]
 ·exact absurd h3 (he e' (List.mem_of_getElem? h2))
def lkD (o : Option JV) : PD := match o with
 | some j => .tup [pdJ j, .val (.bool true)]
 | none => .tup [.val .nilIface, .val (.bool false)]
theorem Yj6 {o : Oper} (hd : Za7 X.N o.dst = true) {x y : Operand} {t : TypeId} (ho : o.op = .lookup t x y true) {kt et : Nat} (ht : MTI P t kt et) {m : List (ByteArray × JV)} {k : ByteArray} (hx : s.ev x = .dat (Zio m)) (hy : s.ev y = .dat (.val (.string k))) :
  OpS P X o s (s.put o.dst (.dat (lkD (lkJ m k)))) := by
 refine Zat hd fun a w ρ hc => ?_
 have h2 := hc.ev x
 rw [hx] at h2
 unfold VR Zio Rep at h2
 have h3 := hc.ev y
 rw [hy] at h3
 unfold VR Rep at h3
 obtain ⟨b, es, cl, e1, hb, hh, hs, hl, he, hok⟩ := h2
 have hm := Ziu ht.out
 have hks := he.keys
 rcases he.lk (k := k) with ⟨j, e, h4, h5, h6, h7, h8⟩ | ⟨h4, h5⟩
 ·rw [h4]
  refine ⟨.tuple #[e.val, .bool true], by simp [execOp, ho, e1, h3.1, Zvr hm ht.str hh hs hks h5 h6], ?_⟩
  unfold VR lkD Rep
  refine ⟨[e.val, .bool true], rfl, ?_⟩
  unfold Reps
  refine ⟨_, _, rfl, by unfold pdJ Rep; exact ⟨h7, Zes (by unfold JOk at hok; exact hok.2.2) _ h8⟩, ?_⟩
  unfold Reps
  exact ⟨_, [], rfl, by unfold Rep; exact ⟨rfl, trivial⟩, by unfold Reps; rfl⟩
 ·rw [h4]
  exact ⟨.tuple #[.nilIface, .bool false], by simp [execOp, ho, e1, h3.1, Zs3 hm ht.str ht.zer hh hks h5], by unfold VR lkD; exact Ygf rfl⟩
theorem Zjw {d : Nat} {x y : Operand} {t kt et : Nat} {m : List (ByteArray × JV)} {k : ByteArray} {o : Option JV} (hN : Nat.blt d N = true) (hx : s.ev x = .dat (Zio m)) (hy : s.ev y = .dat (.val (.string k))) [ht : MTI P t kt et] (ho : lkJ m k = o) (h : Run P X N Q (.ops ops rem :: ks) (s.put (some d) (.dat (lkD o)))) : Zbp P X N Q ops rem ks (some d) (.lookup t x y true) s := Zdx hN (fun _ _ _ hd => by subst ho; exact Yj6 hd rfl ht hx hy) h
def itR (m done : List (ByteArray × JV)) : Res where
 rel := fun w F O v => ∃ bm r es cl dn, v = .pointer (some ⟨r, 0, none⟩) ∧ F bm ∧ O r ∧ (∀ b, O b → b = r) ∧ Rng w bm r es cl dn ∧ MapKept.Stamped es cl ∧ IsEs w F m es.toList ∧ JOk (.map m) ∧ IsEs w F done dn ∧ (∀ y ∈ done, y ∈ m)
 d := .opq { rel := fun _ _ v => v.oneCell' = true, one := fun _ _ _ h => h, keep := fun _ _ _ _ _ _ _ h => h }
 one := fun _ _ _ _ ⟨_, _, _, _, _, e, _⟩ => by rw [e]; rfl
 keep := fun w w' F F' O v h hs hO ⟨bm, r, es, cl, dn, e, h1, h2, h3, h4, h5, h6, h7, h8, h9⟩ => ⟨bm, r, es, cl, dn, e, hs bm h1, h2, h3, h4.of_eq (h bm h1) (hO r h2), h5, IsEs.keep h hs _ _ h6, h7, IsEs.keep h hs _ _ h8, h9⟩
 frz := fun _ _ _ _ v _ _ ⟨_, _, _, _, _, e, _⟩ => by unfold Rep; show v.oneCell' = true; rw [e]; rfl
theorem ConcAt.setRes (h : ConcAt X s a w ρ) {k : Nat} {R R' : Res} (hk : s.tb k = some (.res R)) (hw : Below 0 w w') (hsz : w'.heap.size = w.heap.size) (hoth : ∀ b, ¬ (ρ k).fp b → w'.heap[b]? = w.heap[b]?)
  (hR : R'.rel w' (FF X w s.tb ρ) (ρ k).fp (ρ k).v) : ConcAt X (s.set k (.res R')) a w' ρ := by
 have hlk : Za6 (s.tb k) = true := by rw [hk]; rfl
 have hF : ∀ b', FF X w s.tb ρ b' → w'.heap[b']? = w.heap[b']? := fun b' hF => hoth b' (hF.2.2 k hlk)
 have hdom : ∀ k', Za6 ((s.set k (.res R')).tb k') = true → Za6 (s.tb k') = true := by
  intro k' hk'
  by_cases ek : k' = k
  ·subst ek; exact hlk
  ·simp only [Sta.set, Zaw _ _ ek] at hk'; exact hk'
 have hs : ∀ b', FF X w s.tb ρ b' → FF X w' (s.set k (.res R')).tb ρ b' := fun b' hF => ⟨hF.1, by rw [hsz]; exact hF.2.1, fun k' hk' => hF.2.2 k' (hdom k' hk')⟩
 have hkk : ∀ k' x, s.tb k' = some x → ∃ x', (s.set k (.res R')).tb k' = some x' ∧ ((x'.kind = x.kind ∧ (ρ k').v = (ρ k').v) ∨ (x' = .dead ∧ x.kind ≠ 0)) := by
  intro k' x hx
  by_cases ek : k' = k
  ·subst ek; rw [hk] at hx; cases hx; exact ⟨.res R', Zah _ _ _, .inl ⟨rfl, rfl⟩⟩
  ·exact ⟨x, by simp only [Sta.set, Zaw _ _ ek]; exact hx, .inl ⟨rfl, rfl⟩⟩
 have hblk := h.blks k _ hk
 refine ⟨h.size, h.defers, h.below.step hw.os hw.tape hw.output (by rw [hsz]; exact Nat.le_refl _) (fun j _ hj => hoth j (fun e => hj (hblk.2 j e).1)), fun t' => (h.tmps t').keep hF hs hkk, fun k' x hx => ?_, fun k1 k2 b h1 h2 e1 e2 => h.apart k1 k2 b (hdom k1 h1) (hdom k2 h2) e1 e2, fun k' hk' hl' => h.lent k' hk' (hdom k' hl')⟩
 by_cases ek : k' = k
 ·subst ek
  simp only [Sta.set, Zah, Option.some.injEq] at hx
  subst hx
  exact ⟨R'.keep _ _ _ _ _ _ (fun _ _ => rfl) hs (fun _ _ => rfl) hR, fun b hb => ⟨(hblk.2 b hb).1, by rw [hsz]; exact (hblk.2 b hb).2⟩⟩
 ·simp only [Sta.set, Zaw _ _ ek] at hx
  exact (h.blks k' x hx).keep hF hs hkk rfl (fun b' hl hf => hoth b' fun e => ek (h.apart k' k b' (by rw [hx]; exact hl) hlk hf e)) (by rw [hsz]; exact Nat.le_refl _)
theorem IsEs.mem {F : Nat → Prop} : ∀ {m : List (ByteArray × JV)} {es : List MapEntry}, IsEs w F m es → (∀ y ∈ m, ∃ e ∈ es, e.key = .string y.1 ∧ y.1.size ≤ maxLen ∧ IsJ w F y.2 e.val) ∧ ∀ e ∈ es, ∃ y ∈ m, e.key = .string y.1 ∧ y.1.size ≤ maxLen ∧ IsJ w F y.2 e.val
 | [], es, h => by unfold IsEs at h; subst h; exact ⟨by simp, by simp⟩
 | x :: r, es, h => by
  unfold IsEs at h
  obtain ⟨e, r', rfl, hke, hz, hx, hr⟩ := h
  obtain ⟨h1, h2⟩ := IsEs.mem hr
  refine ⟨fun y hy => ?_, fun e' he' => ?_⟩
  ·rcases List.mem_cons.1 hy with rfl | hy
   ·exact ⟨e, by simp, hke, hz, hx⟩
   ·obtain ⟨e', he', h'⟩ := h1 y hy
    exact ⟨e', by simp [he'], h'⟩
  ·rcases List.mem_cons.1 he' with rfl | he'
   ·exact ⟨x, by simp, hke, hz, hx⟩
   ·obtain ⟨y, hy, h'⟩ := h2 e' he'
    exact ⟨y, by simp [hy], h'⟩
theorem IsEs.snoc {F : Nat → Prop} {y : ByteArray × JV} {e : MapEntry} (hke : e.key = .string y.1) (hz : y.1.size ≤ maxLen) (hj : IsJ w F y.2 e.val) : ∀ {m : List (ByteArray × JV)} {es : List MapEntry}, IsEs w F m es → IsEs w F (m ++ [y]) (es ++ [e])
 | [], es, h => by
  unfold IsEs at h; subst h
  show IsEs w F [y] [e]
  unfold IsEs
  exact ⟨e, [], rfl, hke, hz, hj, by unfold IsEs; rfl⟩
 | x :: r, es, h => by
  unfold IsEs at h
  obtain ⟨e', r', rfl, h1, h2, h3, hr⟩ := h
  show IsEs w F (x :: (r ++ [y])) (e' :: (r' ++ [e]))
  unfold IsEs
  exact ⟨e', _, rfl, h1, h2, h3, IsEs.snoc hke hz hj hr⟩
theorem Ye6 {es : List MapEntry} (h : (es.map (·.key)).Nodup) : ∀ {e e' : MapEntry}, e ∈ es → e' ∈ es → e.key = e'.key → e = e' := by
 induction es with
 | nil => intro _ _ h; cases h
 | cons a r ih =>
  simp only [List.map_cons, List.nodup_cons] at h
  intro e e' he he' hb
  rcases List.mem_cons.1 he with h1 | h1 <;> rcases List.mem_cons.1 he' with h2 | h2
  ·rw [h1, h2]
  ·exact absurd (by rw [← h1, hb]; exact List.mem_map_of_mem (f := (·.key)) h2) h.1
  ·exact absurd (by rw [← h2, ← hb]; exact List.mem_map_of_mem (f := (·.key)) h1) h.1
  ·exact ih h.2 h1 h2 hb
theorem Ynk {m : List (ByteArray × JV)} (h : (m.map (·.1)).Nodup) : ∀ {e e' : ByteArray × JV}, e ∈ m → e' ∈ m → e.1 = e'.1 → e = e' := by
 induction m with
 | nil => intro _ _ h; cases h
 | cons a r ih =>
  simp only [List.map_cons, List.nodup_cons] at h
  intro e e' he he' hb
  rcases List.mem_cons.1 he with h1 | h1 <;> rcases List.mem_cons.1 he' with h2 | h2
  ·rw [h1, h2]
  ·exact absurd (by rw [← h1, hb]; exact List.mem_map_of_mem (f := (·.1)) h2) h.1
  ·exact absurd (by rw [← h2, ← hb]; exact List.mem_map_of_mem (f := (·.1)) h1) h.1
  ·exact ih h.2 h1 h2 hb
def itD (y : ByteArray × JV) : PD := .tup [.val (.string y.1), pdJ y.2]
theorem Yke {F : Nat → Prop} {p q r : PD} {x y z : Value} (h1 : Rep w F p x) (h2 : Rep w F q y) (h3 : Rep w F r z) : Rep w F (.tup [p, q, r]) (.tuple #[x, y, z]) := by
 unfold Rep
 refine ⟨[x, y, z], rfl, ?_⟩
 unfold Reps; refine ⟨x, _, rfl, h1, ?_⟩
 unfold Reps; refine ⟨y, _, rfl, h2, ?_⟩
 unfold Reps; exact ⟨z, _, rfl, h3, by unfold Reps; rfl⟩
theorem Ykd {F : Nat → Prop} {p q : PD} {x y : Value} (h1 : Rep w F p x) (h2 : Rep w F q y) : Rep w F (.tup [p, q]) (.tuple #[x, y]) := by
 unfold Rep
 refine ⟨[x, y], rfl, ?_⟩
 unfold Reps; refine ⟨x, _, rfl, h1, ?_⟩
 unfold Reps; exact ⟨y, _, rfl, h2, by unfold Reps; rfl⟩
theorem Yge {F : Nat → Prop} {k : ByteArray} (h : k.size ≤ maxLen) : Rep w F (.val (.string k)) (.string k) := by unfold Rep; exact ⟨rfl, h⟩
theorem Znb {d : Nat} {x : Operand} {t kt et : Nat} {m : List (ByteArray × JV)} (hN : Nat.blt d N = true) (hd0 : s.tb d = none) (hx : s.ev x = .dat (Zio m)) [ht : MTI P t kt et] (h : Run P X N Q (.ops ops rem :: ks) (s.new d (.res (itR m [])) (.own d))) : Zbp P X N Q ops rem ks (some d) (.range t x) s := ⟨fun ty pos aft => ⟨fun hX a w ⟨ρ, hc⟩ => by
 have hdN : d < X.N := by rw [hX.1]; simpa [Nat.blt_eq] using hN
 have h2 := hc.ev x
 rw [hx] at h2
 unfold VR Zio Rep at h2
 obtain ⟨bm, es, cl, e1, hb, hh, hs, hl, he, hok⟩ := h2
 have hm := Ziu ht.out
 have hlt : bm < w.heap.size := Zya hh
 have hr : (execOp a.eval ⟨some d, .range t x, ty, pos, aft, none⟩).run P w = .ok (.value (.pointer (some ⟨w.heap.size, 0, none⟩))) (w.alloc (.mapIter (some bm) cl #[] cl)) := by
  simp [execOp, e1, run_range_map w t kt et bm es cl hm hh, Result.andThen]
 refine Zdr hr ?_
 have hB : Below w.heap.size w (w.alloc (.mapIter (some bm) cl #[] cl)) := (Below.refl _ _).alloc (Nat.le_refl _) _
 have hc1 := hc.grow hB
 have hFF0 : ∀ b, FF X w s.tb ρ b → FF X (w.alloc (.mapIter (some bm) cl #[] cl)) s.tb ρ b := fun b hb => Zti hB hc b (.inl hb)
 refine h.out hX _ _ ⟨upd ρ d ⟨.pointer (some ⟨w.heap.size, 0, none⟩), fun b => b = w.heap.size⟩, ?_⟩
 have hnl : ∀ k, Za6 ((upd s.tb d (some (.res (itR m [])))) k) = true → k = d ∨ (k ≠ d ∧ Za6 (s.tb k) = true) := by
  intro k hk
  by_cases e : k = d
  ·exact .inl e
  ·rw [Zaw _ _ e] at hk; exact .inr ⟨e, hk⟩
 have hold : ∀ k b, Za6 (s.tb k) = true → (ρ k).fp b → b < w.heap.size := by
  intro k b hk hb
  obtain ⟨x, hx, hl⟩ := Zbd hk
  exact (hc.rowBlk hx hl hb).2
 have hFF : ∀ b, FF X w s.tb ρ b → FF X (w.alloc (.mapIter (some bm) cl #[] cl)) (upd s.tb d (some (.res (itR m [])))) (upd ρ d ⟨.pointer (some ⟨w.heap.size, 0, none⟩), fun b => b = w.heap.size⟩) b := by
  intro b hb
  refine ⟨hb.1, (hFF0 b hb).2.1, fun k hk e => ?_⟩
  rcases hnl k hk with rfl | ⟨hne, hk⟩
  ·rw [Zah] at e
   have e : b = w.heap.size := e
   have := hb.2.1; omega
  ·rw [Zaw _ _ hne] at e; exact hb.2.2 k hk e
 have hkk : ∀ k x, s.tb k = some x → ∃ x', (upd s.tb d (some (.res (itR m [])))) k = some x' ∧ ((x'.kind = x.kind ∧ ((upd ρ d ⟨.pointer (some ⟨w.heap.size, 0, none⟩), fun b => b = w.heap.size⟩) k).v = (ρ k).v) ∨ (x' = .dead ∧ x.kind ≠ 0)) := by
  intro k x hx
  have hne : k ≠ d := fun e => by rw [e, hd0] at hx; cases hx
  exact ⟨x, by rw [Zaw _ _ hne]; exact hx, .inl ⟨rfl, by rw [Zaw _ _ hne]⟩⟩
 have hsame : ∀ b, FF X w s.tb ρ b → (w.alloc (.mapIter (some bm) cl #[] cl)).heap[b]? = w.heap[b]? := fun b hb => hB.block b hb.2.1
 have hiter : (w.alloc (.mapIter (some bm) cl #[] cl)).heap[w.heap.size]? = some (.mapIter (some bm) cl #[] cl) := (MapKept.heap_alloc _ _).1
 have key : ConcAt X { s with tb := upd s.tb d (some (.res (itR m []))) } a (w.alloc (.mapIter (some bm) cl #[] cl)) (upd ρ d ⟨.pointer (some ⟨w.heap.size, 0, none⟩), fun b => b = w.heap.size⟩) := by
  refine ⟨hc.size, hc.defers, hc1.below, fun t => (hc.tmps t).keep hsame hFF hkk, fun k x hx => ?_, fun k k' b h1 h2 e1 e2 => ?_, fun k hk hl => ?_⟩
  ·by_cases e : k = d
   ·subst e
    rw [show ({ s with tb := upd s.tb k (some (.res (itR m []))) } : Sta).tb k = some (.res (itR m [])) from Zah _ _ _] at hx
    simp only [Option.some.injEq] at hx
    subst hx
    show (itR m []).rel _ _ _ _ ∧ _
    rw [Zah]
    refine ⟨⟨bm, w.heap.size, es, cl, [], rfl, hFF bm hb, rfl, fun b hb => hb, ⟨(hsame bm hb).trans hh, ⟨#[], rfl, hiter⟩, by omega, by simp, by simp, hs.1, hs.2.1⟩, hs, IsEs.keep hsame hFF _ _ he, hok, by unfold IsEs; rfl, by simp⟩, ?_⟩
    intro b hb
    have hb : b = w.heap.size := hb
    subst hb
    exact ⟨.inl hc.below.size, by simp⟩
   ·have hx' : s.tb k = some x := by rw [← hx]; exact (Zaw _ _ e).symm
    exact (hc.blks k x hx').keep hsame hFF hkk (Zaw _ _ e) (fun b hl hf => hB.block b (hc.rowBlk hx' hl hf).2) hB.size
  ·rcases hnl k h1 with rfl | ⟨n1, g1⟩ <;> rcases hnl k' h2 with h | ⟨n2, g2⟩
   ·exact h.symm
   ·rw [Zah] at e1; rw [Zaw _ _ n2] at e2
    have e1 : b = w.heap.size := e1
    have := hold k' b g2 e2; omega
   ·subst h
    rw [Zah] at e2; rw [Zaw _ _ n1] at e1
    have e2 : b = w.heap.size := e2
    have := hold k b g1 e1; omega
   ·rw [Zaw _ _ n1] at e1; rw [Zaw _ _ n2] at e2
    exact hc.apart k k' b g1 g2 e1 e2
  ·rcases hnl k hl with rfl | ⟨n1, h1⟩
   ·have := X.hN; omega
   ·rw [Zaw _ _ n1]; exact hc.lent k hk h1
 refine key.putNew hdN ?_
 unfold VR
 exact ⟨rfl, .inl ⟨_, Zah _ _ _, .inr rfl, by rw [Zah]⟩⟩⟩⟩
theorem Zsk {d : Nat} {x : Operand} {k : Nat} {m done : List (ByteArray × JV)} (hN : Nat.blt d N = true) (hx : s.ev x = .own k) (hk : s.tb k = some (.res (itR m done)))
  (h0 : (∀ y ∈ m, y ∈ done) → Run P X N Q (.ops ops rem :: ks) (s.put (some d) (.dat (.tup [.val (.bool false)]))))
  (h1 : ∀ y, y ∈ m → y.1 ∉ done.map (·.1) → Run P X N Q (.ops ops rem :: ks) ((s.set k (.res (itR m (done ++ [y])))).put (some d) (.dat (.tup [.val (.bool true), .val (.string y.1), pdJ y.2])))) :
  Zbp P X N Q ops rem ks (some d) (.next x false) s := ⟨fun ty pos aft => ⟨fun hX a w ⟨ρ, hc⟩ => by
 have h2 := hc.ev x
 rw [hx] at h2
 have e2 := Zhu h2 hk rfl
 have hblk := hc.blks k _ hk
 obtain ⟨⟨bm, r, es, cl, dn, e3, hbm, hr, hO, hrng, hst, hes, hok, hdn, hsub⟩, _⟩ := hblk
 rw [e3] at e2
 obtain ⟨seen, hseen, hit⟩ := hrng.iter
 have hkn : (m.map (·.1)).Nodup := by unfold JOk at hok; exact hok.1
 rcases run_next_at (P := P) w ty r bm cl cl seen es cl hit hrng.map hrng.old (Nat.le_refl _) with ⟨hl, hrun⟩ | ⟨e, he, w1, hw1, hrun⟩
 ·have hrun' : (execOp a.eval ⟨some d, .next x false, ty, pos, aft, none⟩).run P w = .ok (.value (.tuple #[.bool false])) w := by simp [execOp, e2, hrun, Result.andThen]
  refine Zdr hrun' ((h0 fun y hy => ?_).out hX _ _ ⟨ρ, hc.putO (Zoc hN hX) (by unfold VR Rep; exact ⟨[.bool false], rfl, by unfold Reps; exact ⟨_, [], rfl, by unfold Rep; exact ⟨rfl, trivial⟩, by unfold Reps; rfl⟩⟩)⟩)
  obtain ⟨e, he, hke, hz, hj⟩ := hes.mem.1 y hy
  have hl' : leftOf es seen = #[] := Array.eq_empty_of_size_eq_zero hl
  have hc' : seen.contains e.born = true := by
   cases hc' : seen.contains e.born with
   | true => rfl
   | false =>
    exfalso
    have : e ∈ (leftOf es seen) := by
     unfold leftOf
     simp only [Array.mem_filter]
     exact ⟨by simpa using he, by rw [hc']; rfl⟩
    rw [hl'] at this
    simp at this
  have hm : e.born ∈ dn.map (·.born) := by rw [← hseen]; simpa using hc'
  obtain ⟨q, hq, hqb⟩ := List.mem_map.1 hm
  have hqe : q = e := Yh4 hrng.born (hrng.sub q hq) he hqb
  subst hqe
  obtain ⟨z, hz1, hzk, _⟩ := hdn.mem.2 q hq
  have : z = y := Ynk hkn (hsub z hz1) hy (by rw [hke] at hzk; injection hzk with h; exact h.symm)
  subst this
  exact hz1
 ·have hes' : e ∈ es.toList := by
   unfold leftOf at he; simp at he; simpa using he.1
  have hnb : e.born ∉ dn.map (·.born) := by
   unfold leftOf at he
   simp at he
   intro hd
   apply he.2
   have : e.born ∈ seen.toList := by rw [hseen]; exact hd
   simpa using this
  have hh : w1.heap = w.heap := by rcases hw1 with rfl | rfl <;> rfl
  have hlt : r < w1.heap.size := by rw [hh]; exact hrng.lt_.2
  have hr' : Rng (setBlock w1 r (.mapIter (some bm) cl (seen.push e.born) cl)) bm r es cl (dn ++ [e]) := by
   refine ⟨?_, ⟨seen.push e.born, by simp [hseen], Zs8 _ _ _ hlt⟩, hrng.ne, ?_, ?_, hrng.old, hrng.born⟩
   ·rw [Zhh _ hrng.ne, hh]; exact hrng.map
   ·intro q hq
    rcases List.mem_append.1 hq with hq | hq
    ·exact hrng.sub q hq
    ·simp at hq; rw [hq]; exact hes'
   ·rw [List.map_append, List.nodup_append]
    refine ⟨hrng.nodup, by simp, fun a ha b hb => ?_⟩
    simp at hb; subst hb
    exact fun e' => hnb (e' ▸ ha)
  have hrun' : (execOp a.eval ⟨some d, .next x false, ty, pos, aft, none⟩).run P w = .ok (.value (.tuple #[.bool true, e.key, e.val])) (setBlock w1 r (.mapIter (some bm) cl (seen.push e.born) cl)) := by simp [execOp, e2, hrun, Result.andThen]
  obtain ⟨y, hy, hke, hz, hj⟩ := hes.mem.2 e hes'
  have hsz : (setBlock w1 r (.mapIter (some bm) cl (seen.push e.born) cl)).heap.size = w.heap.size := by
   show (Array.setIfInBounds _ _ _).size = _
   rw [Array.size_setIfInBounds, hh]
  have hB : Below 0 w (setBlock w1 r (.mapIter (some bm) cl (seen.push e.born) cl)) := by
   have hB1 : Below 0 w w1 := by
    rcases hw1 with rfl | rfl
    ·exact Below.refl _ _
    ·exact (Below.refl _ _).drew
   exact hB1.trans ⟨rfl, rfl, rfl, by rw [hsz, hh]; exact Nat.le_refl _, fun k hk => absurd hk (Nat.not_lt_zero _)⟩
  have hoth : ∀ b, ¬ (ρ k).fp b → (setBlock w1 r (.mapIter (some bm) cl (seen.push e.born) cl)).heap[b]? = w.heap[b]? := fun b hb => by
   rw [Zhh _ (fun e : b = r => hb (e ▸ hr)), hh]
  have hF : ∀ b, FF X w s.tb ρ b → (setBlock w1 r (.mapIter (some bm) cl (seen.push e.born) cl)).heap[b]? = w.heap[b]? := fun b hF => hoth b (hF.2.2 k (by rw [hk]; rfl))
  have hJ := Zes (m := m) (by unfold JOk at hok; exact hok.2.2) y hy
  have hset := hc.setRes (R' := itR m (done ++ [y])) hk hB hsz hoth ⟨bm, r, es, cl, dn ++ [e], e3, hbm, hr, hO, hr', hst, IsEs.keep hF (fun _ h => h) _ _ hes, hok,
   IsEs.snoc hke hz (IsJ.keep hF (fun _ h => h) _ hj) (IsEs.keep hF (fun _ h => h) _ _ hdn), fun z hz => by
    rcases List.mem_append.1 hz with hz | hz
    ·exact hsub z hz
    ·simp at hz; rw [hz]; exact hy⟩
  refine Zdr hrun' ((h1 y hy fun hmem => ?_).out hX _ _ ⟨ρ, hset.putO (Zoc hN hX) ?_⟩)
  ·obtain ⟨z, hz1, hz2⟩ := List.mem_map.1 hmem
   obtain ⟨q, hq, hqk, _⟩ := hdn.mem.1 z hz1
   have : q = e := Ye6 hst.2.2 (hrng.sub q hq) hes' (by rw [hqk, hke, hz2])
   subst this
   exact hnb (List.mem_map_of_mem (f := (·.born)) hq)
  ·unfold VR
   have hF2 : ∀ b, FF X w s.tb ρ b → FF X (setBlock w1 r (.mapIter (some bm) cl (seen.push e.born) cl)) (s.set k (.res (itR m (done ++ [y])))).tb ρ b := fun b' hF => ⟨hF.1, by rw [hsz]; exact hF.2.1, fun k' hk' => hF.2.2 k' (by
    by_cases ek : k' = k
    ·subst ek; rw [hk]; rfl
    ·simp only [Sta.set, Zaw _ _ ek] at hk'; exact hk')⟩
   rw [hke]
   exact Yke (by unfold Rep; exact ⟨rfl, trivial⟩) (Yge hz) (by unfold pdJ Rep; exact ⟨IsJ.keep hF hF2 _ hj, hJ⟩)⟩⟩
theorem Yfl {o : Oper} (hd : Za7 X.N o.dst = true) {x : Operand} (ho : o.op = .entry x) {k : Nat} {m done : List (ByteArray × JV)} {y : ByteArray × JV} (hx : s.ev x = .own k) (hk : s.tb k = some (.res (itR m (done ++ [y])))) : OpS P X o s (s.put o.dst (.dat (itD y))) := by
 refine Zat hd fun a w ρ hc => ?_
 have h2 := hc.ev x
 rw [hx] at h2
 have e2 := Zhu h2 hk rfl
 have hblk := hc.blks k _ hk
 obtain ⟨⟨bm, r, es, cl, dn, e3, hbm, hr, hO, hrng, hst, hes, hok, hdn, hsub⟩, _⟩ := hblk
 rw [e3] at e2
 have hsplit : ∀ {m : List (ByteArray × JV)} {dn : List MapEntry}, IsEs w (FF X w s.tb ρ) (m ++ [y]) dn → ∃ dn' e, dn = dn' ++ [e] ∧ e.key = .string y.1 ∧ y.1.size ≤ maxLen ∧ IsJ w (FF X w s.tb ρ) y.2 e.val := by
  intro m
  induction m with
  | nil =>
   intro dn h
   have h : IsEs w (FF X w s.tb ρ) [y] dn := h
   unfold IsEs at h
   obtain ⟨e, r', rfl, h1, h2, h3, h4⟩ := h
   unfold IsEs at h4
   subst h4
   exact ⟨[], e, rfl, h1, h2, h3⟩
  | cons z m ih =>
   intro dn h
   have h : IsEs w (FF X w s.tb ρ) (z :: (m ++ [y])) dn := h
   unfold IsEs at h
   obtain ⟨e, r', rfl, h1, h2, h3, h4⟩ := h
   obtain ⟨dn', e', rfl, h5⟩ := ih h4
   exact ⟨e :: dn', e', rfl, h5⟩
 obtain ⟨dn', e, rfl, hke, hz, hj⟩ := hsplit hdn
 obtain ⟨seen, hseen, hit⟩ := hrng.iter
 obtain ⟨seen', rfl⟩ : ∃ seen' : Array Nat, seen = seen'.push e.born := by
  refine ⟨(dn'.map (·.born)).toArray, ?_⟩
  apply Array.ext'
  rw [hseen]; simp
 have hent := run_entry_at (P := P) w r bm cl seen' es cl e hit hrng.map (hrng.sub e (by simp)) hrng.born
 refine ⟨.tuple #[e.key, e.val], by simp [execOp, ho, e2, hent, Result.andThen], ?_⟩
 unfold VR itD
 rw [hke]
 exact Ykd (Yge hz) (by unfold pdJ Rep; exact ⟨hj, Zes (by unfold JOk at hok; exact hok.2.2) y (hsub y (by simp))⟩)
theorem Zkp {d : Nat} {x : Operand} {k : Nat} {m done : List (ByteArray × JV)} {y : ByteArray × JV} (hN : Nat.blt d N = true) (hx : s.ev x = .own k) (hk : s.tb k = some (.res (itR m (done ++ [y])))) (h : Run P X N Q (.ops ops rem :: ks) (s.put (some d) (.dat (itD y)))) : Zbp P X N Q ops rem ks (some d) (.entry x) s := Zdx hN (fun _ _ _ hd => Yfl hd rfl hx hk) h
end
end Go.Proofs.YtgmahieoiifpfaaGreat
end
namespace Go.Proofs.YtgmahieoiifpfaaGreat
open Go.RowKit
def dvA : PD := .iface 272 (.ptr (.agg []))
def dvV (j : JV) : PD := .iface 271 (.ptr (.agg [pdJ j]))
def dvL (l : List JV) : PD := .iface 397 (Zj4 l)
def Ytt (l : List JV) : PD := .iface 423 (.ptr (Zj4 l))
def dvM (m : List (ByteArray × JV)) : PD := .iface 398 (Zio m)
def gV (t : Nat) : Bool := Nat.beq t 315 || (Nat.beq t 274 || Nat.beq t 425)
instance : MI Tryz.prog 271 "IsMap" 303 (some 315) := ⟨by kernel_rfl⟩
instance : MI Tryz.prog 271 "IsList" 302 (some 315) := ⟨by kernel_rfl⟩
instance : MI Tryz.prog 271 "IsBool" 299 (some 315) := ⟨by kernel_rfl⟩
instance : MI Tryz.prog 271 "IsInt" 301 (some 315) := ⟨by kernel_rfl⟩
instance : MI Tryz.prog 271 "IsFloat" 300 (some 315) := ⟨by kernel_rfl⟩
instance : MI Tryz.prog 271 "IsString" 305 (some 315) := ⟨by kernel_rfl⟩
instance : MI Tryz.prog 271 "IsNull" 304 (some 315) := ⟨by kernel_rfl⟩
instance : MI Tryz.prog 271 "AsBool" 291 (some 315) := ⟨by kernel_rfl⟩
instance : MI Tryz.prog 271 "AsInt" 293 (some 315) := ⟨by kernel_rfl⟩
instance : MI Tryz.prog 271 "AsFloat" 292 (some 315) := ⟨by kernel_rfl⟩
instance : MI Tryz.prog 271 "AsString" 298 (some 315) := ⟨by kernel_rfl⟩
instance : MI Tryz.prog 271 "AsListUsing" 295 (some 315) := ⟨by kernel_rfl⟩
instance : MI Tryz.prog 271 "AsMapUsing" 297 (some 315) := ⟨by kernel_rfl⟩
instance : MI Tryz.prog 272 "Free" 307 none := ⟨by kernel_rfl⟩
instance : MI Tryz.prog 272 "pub-coparcener/pub/structuredmerge/value.allocValueUnstructured" 193 none := ⟨by kernel_rfl⟩
instance : MI Tryz.prog 272 "pub-coparcener/pub/structuredmerge/value.allocListUnstructuredRange" 308 none := ⟨by kernel_rfl⟩
instance : MI Tryz.prog 397 "Length" 318 none := ⟨by kernel_rfl⟩
instance : MI Tryz.prog 423 "Length" 318 (some 397) := ⟨by kernel_rfl⟩
instance : MI Tryz.prog 397 "RangeUsing" 320 none := ⟨by kernel_rfl⟩
instance : MI Tryz.prog 423 "RangeUsing" 320 (some 397) := ⟨by kernel_rfl⟩
instance : MI Tryz.prog 397 "EqualsUsing" 317 none := ⟨by kernel_rfl⟩
instance : MI Tryz.prog 398 "Length" 331 none := ⟨by kernel_rfl⟩
instance : MI Tryz.prog 398 "EqualsUsing" 325 none := ⟨by kernel_rfl⟩
instance : MI Tryz.prog 398 "IterateUsing" 330 none := ⟨by kernel_rfl⟩
instance : MI Tryz.prog 398 "Has" 328 none := ⟨by kernel_rfl⟩
instance : MI Tryz.prog 398 "GetUsing" 327 none := ⟨by kernel_rfl⟩
instance : MI Tryz.prog 398 "ZipUsing" 334 none := ⟨by kernel_rfl⟩
instance : MI Tryz.prog 421 "Next" 344 none := ⟨by kernel_rfl⟩
instance : MI Tryz.prog 424 "Next" 346 none := ⟨by kernel_rfl⟩
instance : MI Tryz.prog 421 "Item" 343 none := ⟨by kernel_rfl⟩
instance : MTI Tryz.prog 398 9 20 := ⟨by kernel_rfl, by kernel_rfl, by kernel_rfl⟩
instance : ZI Tryz.prog 274 [] := ⟨by kernel_rfl, by rfl⟩
instance : PLI Tryz.prog 274 [] := ⟨by kernel_rfl⟩
instance : ZI Tryz.prog 425 [] := ⟨by kernel_rfl, by rfl⟩
instance : PLI Tryz.prog 425 [] := ⟨by kernel_rfl⟩
theorem Zcw : Ys0 Tryz.prog 307 2 := by
 refine ⟨by kernel_rfl, fun vs u w hl => ?_⟩
 refine (callsD_of_wp (R := fun e w' => (∃ v, e = .returned v) ∧ Below w.heap.size w w') Tryz.func307 rfl ?_)
 refine wp_skip ?_
 exact ⟨rfl, _, results_none rfl _ _ _, ⟨_, rfl⟩, Below.refl _ _⟩
theorem Zgw {w : World} {F : Nat → Prop} {j : JV} {vs : List Value} (h : Reps w F [.agg [pdJ j]] vs) : ∃ u, vs = [.agg #[u]] ∧ IsJ w F j u := by
 unfold Reps at h
 obtain ⟨v, r', rfl, hv, hr⟩ := h
 unfold Reps at hr
 subst hr
 unfold Rep at hv
 obtain ⟨us, rfl, hu, _⟩ := hv
 unfold Reps at hu
 obtain ⟨u, r'', rfl, hj, hr⟩ := hu
 unfold Reps at hr
 subst hr
 unfold pdJ Rep at hj
 exact ⟨u, rfl, hj.1⟩
theorem Zdn (j : JV) : PCall Tryz.prog 303 [.agg [pdJ j]] (.val (.bool (JV.IsMap j))) := by
 intro w F vs hF hvs
 obtain ⟨u, rfl, hj⟩ := Zgw hvs
 refine (Yco j w u hj.shape).mono ?_
 rintro e w' ⟨rfl, rfl⟩
 exact ⟨_, rfl, (Below.refl _ _).alloc (Nat.le_refl _) _, by unfold Rep; exact ⟨rfl, trivial⟩⟩
theorem Zb4 (j : JV) : PCall Tryz.prog 302 [.agg [pdJ j]] (.val (.bool (JV.IsList j))) := by
 intro w F vs hF hvs
 obtain ⟨u, rfl, hj⟩ := Zgw hvs
 refine (Yay j w u hj.shape).mono ?_
 rintro e w' ⟨rfl, rfl⟩
 exact ⟨_, rfl, (Below.refl _ _).alloc (Nat.le_refl _) _, by unfold Rep; exact ⟨rfl, trivial⟩⟩
theorem Zb3 (j : JV) : PCall Tryz.prog 299 [.agg [pdJ j]] (.val (.bool (JV.IsBool j))) := by
 intro w F vs hF hvs
 obtain ⟨u, rfl, hj⟩ := Zgw hvs
 refine (Yax j w u hj.shape).mono ?_
 rintro e w' ⟨rfl, rfl⟩
 exact ⟨_, rfl, (Below.refl _ _).alloc (Nat.le_refl _) _, by unfold Rep; exact ⟨rfl, trivial⟩⟩
theorem Zcc (j : JV) : PCall Tryz.prog 301 [.agg [pdJ j]] (.val (.bool (JV.IsInt j))) := by
 intro w F vs hF hvs
 obtain ⟨u, rfl, hj⟩ := Zgw hvs
 refine (Ycn j w u hj.shape).mono ?_
 rintro e w' ⟨rfl, rfl⟩
 exact ⟨_, rfl, (Below.refl _ _).alloc (Nat.le_refl _) _, by unfold Rep; exact ⟨rfl, trivial⟩⟩
theorem Zbh (j : JV) : PCall Tryz.prog 300 [.agg [pdJ j]] (.val (.bool (JV.IsFloat j))) := by
 intro w F vs hF hvs
 obtain ⟨u, rfl, hj⟩ := Zgw hvs
 refine (Zwa j w u hj.shape).mono ?_
 rintro e w' ⟨rfl, rfl⟩
 exact ⟨_, rfl, (Below.refl _ _).alloc (Nat.le_refl _) _, by unfold Rep; exact ⟨rfl, trivial⟩⟩
theorem Zbf (j : JV) : PCall Tryz.prog 305 [.agg [pdJ j]] (.val (.bool (JV.IsString j))) := by
 intro w F vs hF hvs
 obtain ⟨u, rfl, hj⟩ := Zgw hvs
 refine (Ztj j w u hj.shape).mono ?_
 rintro e w' ⟨rfl, rfl⟩
 exact ⟨_, rfl, (Below.refl _ _).alloc (Nat.le_refl _) _, by unfold Rep; exact ⟨rfl, trivial⟩⟩
theorem Zd3 (j : JV) : PCall Tryz.prog 304 [.agg [pdJ j]] (.val (.bool (JV.IsNull j))) := by
 intro w F vs hF hvs
 obtain ⟨u, rfl, hj⟩ := Zgw hvs
 refine (Yaz j w u hj.shape).mono ?_
 rintro e w' ⟨rfl, rfl⟩
 exact ⟨_, rfl, (Below.refl _ _).alloc (Nat.le_refl _) _, by unfold Rep; exact ⟨rfl, trivial⟩⟩
theorem Zd2 (x : Bool) : PCall Tryz.prog 291 [.agg [pdJ (.bool x)]] (.val (.bool x)) := by
 intro w F vs hF hvs
 obtain ⟨u, rfl, hj⟩ := Zgw hvs
 unfold IsJ at hj; subst hj
 refine (Yaw x w).mono ?_
 rintro e w' ⟨rfl, rfl⟩
 exact ⟨_, rfl, (Below.refl _ _).alloc (Nat.le_refl _) _, by unfold Rep; exact ⟨rfl, trivial⟩⟩
theorem Zem (x : Int) : PCall Tryz.prog 293 [.agg [pdJ (.int x)]] (.val (.int .i64 x)) := by
 intro w F vs hF hvs
 obtain ⟨u, rfl, hj⟩ := Zgw hvs
 unfold IsJ at hj; obtain ⟨rfl, hw⟩ := hj
 refine (Ycl x w).mono ?_
 rintro e w' ⟨rfl, rfl⟩
 exact ⟨_, rfl, (Below.refl _ _).alloc (Nat.le_refl _) _, by unfold Rep; exact ⟨rfl, hw⟩⟩
theorem Zcn (x : Nat) : PCall Tryz.prog 292 [.agg [pdJ (.flt x)]] (.val (.float .f64 x)) := by
 intro w F vs hF hvs
 obtain ⟨u, rfl, hj⟩ := Zgw hvs
 unfold IsJ at hj; obtain ⟨rfl, hw⟩ := hj
 refine (Zv8 x w).mono ?_
 rintro e w' ⟨rfl, rfl⟩
 exact ⟨_, rfl, (Below.refl _ _).alloc (Nat.le_refl _) _, by unfold Rep; exact ⟨rfl, hw⟩⟩
theorem Zcm (x : ByteArray) : PCall Tryz.prog 298 [.agg [pdJ (.str x)]] (.val (.string x)) := by
 intro w F vs hF hvs
 obtain ⟨u, rfl, hj⟩ := Zgw hvs
 unfold IsJ at hj; obtain ⟨rfl, hw⟩ := hj
 refine (Zth x w).mono ?_
 rintro e w' ⟨rfl, rfl⟩
 exact ⟨_, rfl, (Below.refl _ _).alloc (Nat.le_refl _) _, by unfold Rep; exact ⟨rfl, hw⟩⟩
theorem Zka (l : List JV) : PCall Tryz.prog 295 [.agg [pdJ (.list l)], dvA] (dvL l) := by
 refine PCall.vu ?_
 refine Zaa Tryz.func295 rfl Tryz.ntmps295 rfl (fun X => ?_)
 repeat' (first
  | refine Zae ?_
  | (refine Zao rfl ?_; first | refine Zad rfl rfl ?_ | refine Za9 rfl rfl rfl ?_ | refine Za5 rfl rfl rfl (by first | rfl | (simp only [Zap]; rfl)) ?_ | refine Zcq rfl rfl rfl (by first | rfl | (simp only [Zap]; rfl)) ?_ | refine Zsh rfl rfl (by kernel_rfl) ?_ | refine Yrg rfl rfl (by kernel_rfl) ?_)
  | refine Zac ?_
  | refine Zab ?_
  | refine Zag (Zaj rfl rfl ?_)
  | fail)
 all_goals exact PLe.refl _
theorem Znr (m : List (ByteArray × JV)) : PCall Tryz.prog 297 [.agg [pdJ (.map m)], dvA] (dvM m) := by
 refine PCall.vu ?_
 refine Zaa Tryz.func297 rfl Tryz.ntmps297 rfl (fun X => ?_)
 repeat' (first
  | refine Zae ?_
  | (refine Zao rfl ?_; first | refine Zad rfl rfl ?_ | refine Zal rfl rfl ?_ | refine Za9 rfl rfl rfl ?_ | refine Za5 rfl rfl rfl (by first | rfl | (simp only [Zap]; rfl)) ?_ | refine Zcq rfl rfl rfl (by first | rfl | (simp only [Zap]; rfl)) ?_ | refine Zcb rfl rfl rfl ?_ | refine Zsh rfl rfl (by kernel_rfl) ?_ | refine Yrh rfl rfl (by kernel_rfl) ?_ | refine Zcg rfl rfl rfl (by kernel_rfl) (by exact NilIs.ifc) rfl ?_)
  | refine Zac ?_
  | refine Zab ?_
  | refine Zam rfl (by first | rfl | assumption) ?_
  | refine Zak rfl (by first | rfl | assumption) ?_
  | refine Zau ?_
  | refine Zas ?_
  | refine Zag (Zaj rfl rfl ?_)
  | fail)
 all_goals exact PLe.refl _
theorem Zqr (l : List JV) : PCall Tryz.prog 318 [Zj4 l] (.val (.int .i64 l.length)) := by
 refine Zaa Tryz.func318 rfl Tryz.ntmps318 rfl (fun X => ?_)
 repeat' (first
  | refine Zae ?_
  | (refine Zao rfl ?_; first | refine Zad rfl rfl ?_ | refine Zal rfl rfl ?_ | refine Zzm rfl rfl ?_)
  | refine Zac ?_
  | refine Zab ?_
  | refine Zag (Zaj rfl rfl ?_)
  | fail)
 all_goals exact PLe.refl _
theorem Zjh (m : List (ByteArray × JV)) : PCall Tryz.prog 331 [Zio m] (.val (.int .i64 m.length)) := by
 refine Zaa Tryz.func331 rfl Tryz.ntmps331 rfl (fun X => ?_)
 repeat' (first
  | refine Zae ?_
  | (refine Zao rfl ?_; first | refine Zad rfl rfl ?_ | refine Zal rfl rfl ?_ | refine Zme rfl rfl ?_)
  | refine Zac ?_
  | refine Zab ?_
  | refine Zag (Zaj rfl rfl ?_)
  | fail)
 all_goals exact PLe.refl _
theorem Zfg : PCall Tryz.prog 346 [.ptr (.agg [])] (.val (.bool false)) := by
 refine Zaa Tryz.func346 rfl Tryz.ntmps346 rfl (fun X => ?_)
 repeat' (first
  | refine Zae ?_
  | (refine Zao rfl ?_; refine Zad rfl rfl ?_)
  | refine Zac ?_
  | refine Zab ?_
  | refine Zag (Zaj rfl rfl ?_)
  | fail)
 all_goals exact PLe.refl _
def dvE : PD := .iface 424 (.ptr (.agg []))
theorem Zhq : PCall Tryz.prog 320 [Zj4 [], dvA] dvE := by
 refine Zaa Tryz.func320 rfl Tryz.ntmps320 rfl (fun X => ?_)
 have hq : decide (((([] : List JV).length : Nat) : Int) = 0) = true := rfl
 repeat' (first
  | refine Zae ?_
  | (refine Zao rfl ?_; first | refine Zad rfl rfl ?_ | refine Zal rfl rfl ?_ | refine Zax rfl rfl rfl rfl ?_ | refine Zcq rfl rfl rfl (by first | rfl | (simp only [Zap]; rfl)) ?_ | refine Zlz rfl rfl rfl ?_ | refine Zc8 rfl rfl ?_ | refine Zfm rfl rfl (by kernel_rfl) ?_ | refine Zzm rfl rfl ?_)
  | refine Zac ?_
  | refine Zab ?_
  | refine Zam rfl (by first | rfl | assumption) ?_
  | fail)
 refine Zbj gV (fun _ => true) ?_
 refine Zag (Zaj rfl rfl ?_)
 exact PLe.refl _
theorem Znp : Zbv Tryz.prog 193 [.dat (.ptr (.agg []))] [] (.ptr 0 0) [(0, .box 315 [.dat (.val .nilIface)])] := by
 refine Zar Tryz.func193 rfl Tryz.ntmps193 rfl (fun X => ?_)
 repeat' (first
  | refine Zae ?_
  | (refine Zao rfl ?_; first | refine Zad rfl rfl ?_ | refine Zcq rfl rfl rfl (by first | rfl | (simp only [Zap]; rfl)) ?_ | refine Zgn rfl rfl ?_ | refine Zlz rfl rfl rfl ?_)
  | refine Zac ?_
  | refine Zab ?_
  | fail)
 refine Za3 () (thk [(0, 4)] 0) (tm := [(2, .ptr 0 0)]) ?_ (Zbc rfl rfl)
 (refine ⟨?_, ?_, by rfl⟩ <;> repeat' (first | exact trivial | exact ALe.ptr rfl | exact ALe.own rfl | exact ALe.elt rfl | exact BLe.boxD _ _ | exact BLe.row rfl | exact BLe.res | exact BLe.dead rfl | exact ALe.dat (PLe.refl _) | exact CLe.nil | refine And.intro ?_ ?_ | refine ALe.iface ?_ | refine ALe.clo ?_ | refine CLe.cons ?_ ?_ | refine BLe.box ?_ | refine BLe.row ?_ | exact ALe.any _ | refine ALe.dat (PLe.of_eq ?_)))
theorem Yh1 : Zbv Tryz.prog 308 [.dat (.ptr (.agg []))] [] (.ptr 0 0) [(0, .box 427 [.dat (.val (.slice none 0 0)), .ptr 1 0, .dat (.val (.int .i64 0))]), (1, .box 315 [.dat (.val .nilIface)])] := by
 refine Zar Tryz.func308 rfl Tryz.ntmps308 rfl (fun X => ?_)
 repeat' (first
  | refine Zae ?_
  | (refine Zao rfl ?_; first | refine Zad rfl rfl ?_ | refine Zcq rfl rfl rfl (by first | rfl | (simp only [Zap]; rfl)) ?_ | refine Zgn rfl rfl ?_ | refine Zlz rfl rfl rfl ?_ | refine Zzi rfl rfl rfl ?_ | refine Ynw rfl rfl rfl ?_)
  | refine Zac ?_
  | refine Zab ?_
  | fail)
 refine Za3 () (thk [(0, 6), (1, 4)] 0) (tm := [(2, .ptr 0 0)]) ?_ (Zbc rfl rfl)
 (refine ⟨?_, ?_, by rfl⟩ <;> repeat' (first | exact trivial | exact ALe.ptr rfl | exact ALe.own rfl | exact ALe.elt rfl | exact BLe.boxD _ _ | exact BLe.row rfl | exact BLe.res | exact BLe.dead rfl | exact ALe.dat (PLe.refl _) | exact CLe.nil | refine And.intro ?_ ?_ | refine ALe.iface ?_ | refine ALe.clo ?_ | refine CLe.cons ?_ ?_ | refine BLe.box ?_ | refine BLe.row ?_ | exact ALe.any _ | refine ALe.dat (PLe.of_eq ?_)))
theorem Zix (x : AV) (j : JV) : Zbv Tryz.prog 194 [.ptr 1000 0, .dat (pdJ j)] [(1000, .box 315 [x])] (.iface 271 (.ptr 1000 0)) [(1000, .box 315 [.dat (pdJ j)])] := by
 refine Zar Tryz.func194 rfl Tryz.ntmps194 rfl (fun X => ?_)
 repeat' (first
  | refine Zae ?_
  | (refine Zao rfl ?_; first | refine Zad rfl rfl ?_ | refine Zal rfl rfl ?_ | refine Za9 rfl rfl rfl ?_ | refine Zu4 rfl rfl ?_ | refine Zcx rfl rfl rfl rfl rfl ?_ | refine Zfy rfl rfl ?_ | refine Zc8 rfl rfl ?_ | refine Zfm rfl rfl (by kernel_rfl) ?_)
  | refine Zac ?_
  | refine Zab ?_
  | fail)
 refine Za3 () id (tm := [(4, .iface 271 (.ptr 1000 0))]) ?_ (Zbc rfl rfl)
 (refine ⟨?_, ?_, by rfl⟩ <;> repeat' (first | exact trivial | exact ALe.ptr rfl | exact ALe.own rfl | exact ALe.elt rfl | exact BLe.boxD _ _ | exact BLe.row rfl | exact BLe.res | exact BLe.dead rfl | exact ALe.dat (PLe.refl _) | exact CLe.nil | refine And.intro ?_ ?_ | refine ALe.iface ?_ | refine ALe.clo ?_ | refine CLe.cons ?_ ?_ | refine BLe.box ?_ | refine BLe.row ?_ | exact ALe.any _ | refine ALe.dat (PLe.of_eq ?_)))
end Go.Proofs.YtgmahieoiifpfaaGreat
section
namespace Go.Proofs.YtgmahieoiifpfaaGreat
open Go.RowKit
open Go.ChangeMaps (setBlock)
def Yjt (m : List (ByteArray × JV)) : Res where
 rel := fun w F O v => ∃ b es cl, v = .map (some b) ∧ O b ∧ (∀ b', O b' → b' = b) ∧ w.heap[b]? = some (.map es cl) ∧ MapKept.Stamped es cl ∧ m.length < maxLen ∧ IsEs w F m es.toList ∧ JOk (.map m)
 d := Zio m
 one := fun _ _ _ _ ⟨_, _, _, e, _⟩ => by rw [e]; rfl
 keep := fun w w' F F' O v h hs hO ⟨b, es, cl, e, h1, h2, h3, h4, h5, h6, h7⟩ => ⟨b, es, cl, e, h1, h2, (hO b h1).trans h3, h4, h5, IsEs.keep h hs _ _ h6, h7⟩
 frz := fun w F O F' v h1 h2 ⟨b, es, cl, e, g1, g2, g3, g4, g5, g6, g7⟩ => by
  unfold Zio Rep
  exact ⟨b, es, cl, e, h2 b g1, g3, g4, g5, IsEs.keep (fun _ _ => rfl) h1 _ _ g6, g7⟩
theorem Yl5 {k : ByteArray} {j : JV} {m : List (ByteArray × JV)} (h : JOk (.map m)) (hj : JOk j) (hl : (m.length + 1) * 88 ≤ 140737488351232) : JOk (.map (Zk7 m k j)) := by
 unfold JOk at h ⊢
 exact ⟨Zl3 h.1 k j, by have := Zh5 m k j; omega, Zrj m k j h.2.2 hj⟩
section
variable {P : Program} {X : Base} {N : Nat} {Q : Exit → Act → World → Prop} {ops : Array Oper} {rem : List Nat} {ks : List Itm} {s s' : Sta} {a : Act} {w w' : World} {ρ : Nat → RV}
theorem ConcAt.newRes (hc : ConcAt X s a w ρ) {d : Nat} (hd : d < X.N) (hd0 : s.tb d = none) {o : Obj} {R : Res} {v : Value}
  (hR : ∀ F : Nat → Prop, R.rel (w.alloc o) F (fun b => b = w.heap.size) v) :
  ConcAt X (s.new d (.res R) (.own d)) (a.put (some d) v) (w.alloc o) (upd ρ d ⟨v, fun b => b = w.heap.size⟩) := by
 have hB : Below w.heap.size w (w.alloc o) := (Below.refl _ _).alloc (Nat.le_refl _) _
 have hc1 := hc.grow hB
 have hFF0 : ∀ b, FF X w s.tb ρ b → FF X (w.alloc o) s.tb ρ b := fun b hb => Zti hB hc b (.inl hb)
 have hnl : ∀ k, Za6 ((upd s.tb d (some (.res R))) k) = true → k = d ∨ (k ≠ d ∧ Za6 (s.tb k) = true) := by
  intro k hk
  by_cases e : k = d
  ·exact .inl e
  ·rw [Zaw _ _ e] at hk; exact .inr ⟨e, hk⟩
 have hold : ∀ k b, Za6 (s.tb k) = true → (ρ k).fp b → b < w.heap.size := by
  intro k b hk hb
  obtain ⟨x, hx, hl⟩ := Zbd hk
  exact (hc.rowBlk hx hl hb).2
 have hFF : ∀ b, FF X w s.tb ρ b → FF X (w.alloc o) (upd s.tb d (some (.res R))) (upd ρ d ⟨v, fun b => b = w.heap.size⟩) b := by
  intro b hb
  refine ⟨hb.1, (hFF0 b hb).2.1, fun k hk e => ?_⟩
  rcases hnl k hk with rfl | ⟨hne, hk⟩
  ·rw [Zah] at e
   have e : b = w.heap.size := e
   have := hb.2.1; omega
  ·rw [Zaw _ _ hne] at e; exact hb.2.2 k hk e
 have hkk : ∀ k x, s.tb k = some x → ∃ x', (upd s.tb d (some (.res R))) k = some x' ∧ ((x'.kind = x.kind ∧ ((upd ρ d ⟨v, fun b => b = w.heap.size⟩) k).v = (ρ k).v) ∨ (x' = .dead ∧ x.kind ≠ 0)) := by
  intro k x hx
  have hne : k ≠ d := fun e => by rw [e, hd0] at hx; cases hx
  exact ⟨x, by rw [Zaw _ _ hne]; exact hx, .inl ⟨rfl, by rw [Zaw _ _ hne]⟩⟩
 have hsame : ∀ b, FF X w s.tb ρ b → (w.alloc o).heap[b]? = w.heap[b]? := fun b hb => hB.block b hb.2.1
 have key : ConcAt X { s with tb := upd s.tb d (some (.res R)) } a (w.alloc o) (upd ρ d ⟨v, fun b => b = w.heap.size⟩) := by
  refine ⟨hc.size, hc.defers, hc1.below, fun t => (hc.tmps t).keep hsame hFF hkk, fun k x hx => ?_, fun k k' b h1 h2 e1 e2 => ?_, fun k hk hl => ?_⟩
  ·by_cases e : k = d
   ·subst e
    rw [show ({ s with tb := upd s.tb k (some (.res R)) } : Sta).tb k = some (.res R) from Zah _ _ _] at hx
    simp only [Option.some.injEq] at hx
    subst hx
    show R.rel _ _ _ _ ∧ _
    rw [Zah]
    refine ⟨hR _, ?_⟩
    intro b hb
    have hb : b = w.heap.size := hb
    subst hb
    exact ⟨.inl hc.below.size, by simp⟩
   ·have hx' : s.tb k = some x := by rw [← hx]; exact (Zaw _ _ e).symm
    exact (hc.blks k x hx').keep hsame hFF hkk (Zaw _ _ e) (fun b hl hf => hB.block b (hc.rowBlk hx' hl hf).2) hB.size
  ·rcases hnl k h1 with rfl | ⟨n1, g1⟩ <;> rcases hnl k' h2 with h | ⟨n2, g2⟩
   ·exact h.symm
   ·rw [Zah] at e1; rw [Zaw _ _ n2] at e2
    have e1 : b = w.heap.size := e1
    have := hold k' b g2 e2; omega
   ·subst h
    rw [Zah] at e2; rw [Zaw _ _ n1] at e1
    have e2 : b = w.heap.size := e2
    have := hold k b g1 e1; omega
   ·rw [Zaw _ _ n1] at e1; rw [Zaw _ _ n2] at e2
    exact hc.apart k k' b g1 g2 e1 e2
  ·rcases hnl k hl with rfl | ⟨n1, h1⟩
   ·have := X.hN; omega
   ·rw [Zaw _ _ n1]; exact hc.lent k hk h1
 refine key.putNew hd ?_
 unfold VR
 exact ⟨R.one _ _ _ _ (hR (fun _ => True)), .inl ⟨_, Zah _ _ _, .inr rfl, by rw [Zah]⟩⟩
theorem Ybo {d t : Nat} (hN : Nat.blt d N = true) (hd0 : s.tb d = none) (h : Run P X N Q (.ops ops rem :: ks) (s.new d (.res (Yjt [])) (.own d))) : Zbp P X N Q ops rem ks (some d) (.makeMap t none) s := Zu3 hN (fun ty pos aft hd => by
 intro a w ⟨ρ, hc⟩ K Q hK
 have hr : (execOp a.eval ⟨some d, .makeMap t none, ty, pos, aft, none⟩).run P w = .ok (.value (.map (some w.heap.size))) (w.alloc (.map #[] 0)) := by
  simp [execOp, Instr.makeMap, Result.andThen]
 refine Zdr hr (hK _ _ ⟨_, hc.newRes hd hd0 (o := .map #[] 0) (R := Yjt []) (fun F => ?_)⟩)
 exact ⟨w.heap.size, #[], 0, rfl, rfl, fun b hb => hb, (MapKept.heap_alloc _ _).1, MapKept.stamped_empty 0, by unfold maxLen; decide, by unfold IsEs; rfl, by unfold JOk; exact ⟨by simp, by simp, by simp [Zv4]⟩⟩) h
theorem Ybu {o : Oper} (hd : o.dst = none) {t : TypeId} {x y z : Operand} (ho : o.op = .mapUpdate t x y z) {k0 kt et : Nat} (ht : MTI P t kt et) {m : List (ByteArray × JV)} {k : ByteArray} {j : JV} (hx : s.ev x = .own k0) (hk : s.tb k0 = some (.res (Yjt m))) (hy : s.ev y = .dat (.val (.string k))) (hz : s.ev z = .dat (pdJ j)) (hl : (m.length + 1) * 88 ≤ 140737488351232) :
  OpS P X o s (s.set k0 (.res (Yjt (Zk7 m k j)))) := by
 intro a w ⟨ρ, hc⟩ K Q hK
 have h2 := hc.ev x
 rw [hx] at h2
 have e2 := Zhu h2 hk rfl
 have h3 := hc.ev y
 rw [hy] at h3
 unfold VR Rep at h3
 have h4 := hc.ev z
 rw [hz] at h4
 unfold VR pdJ Rep at h4
 obtain ⟨⟨b, es, cl, e3, hO, hO', hh, hst, hlen, hes, hok⟩, _⟩ := hc.blks k0 _ hk
 rw [e3] at e2
 have hm := Ziu ht.out
 obtain ⟨es', cl', hrun, r1, r2⟩ := Zl5 (P := P) (w := w) (k := k) (v := a.eval z) hm ht.str hh hst hes.keys
 have hlt : b < w.heap.size := Zya hh
 have hsz : (setBlock w b (.map es' cl')).heap.size = w.heap.size := Zs9 _ _ _
 have hB : Below 0 w (setBlock w b (.map es' cl')) := ⟨rfl, rfl, rfl, by rw [hsz]; exact Nat.le_refl _, fun k hk => absurd hk (Nat.not_lt_zero _)⟩
 have hoth : ∀ b', ¬ (ρ k0).fp b' → (setBlock w b (.map es' cl')).heap[b']? = w.heap[b']? := fun b' hb' => Zhh _ (fun e : b' = b => hb' (e ▸ hO))
 have hF : ∀ b', FF X w s.tb ρ b' → (setBlock w b (.map es' cl')).heap[b']? = w.heap[b']? := fun b' hF => hoth b' (hF.2.2 k0 (by rw [hk]; rfl))
 refine Zjb (w' := setBlock w b (.map es' cl')) (by simp [execOp, ho, e2, h3.1, hrun, Result.andThen]) ?_
 rw [hd]
 refine hK _ _ ⟨ρ, (hc.setRes (R' := Yjt (Zk7 m k j)) hk hB hsz hoth ?_).put_none .any undef⟩
 refine ⟨b, es', cl', e3, hO, hO', Zs7 _ hlt, r2, by have := Zh5 m k j; unfold maxLen at *; omega, ?_, Yl5 hok h4.2 hl⟩
 rw [r1]
 exact IsEs.keep hF (fun _ h => h) _ _ (IsEs.put h3.2 h4.1 hes)
theorem Ye4 {t k0 kt et : Nat} {x y z : Operand} {m : List (ByteArray × JV)} {k : ByteArray} {j : JV} (hx : s.ev x = .own k0) (hk : s.tb k0 = some (.res (Yjt m))) [ht : MTI P t kt et] (hy : s.ev y = .dat (.val (.string k))) (hz : s.ev z = .dat (pdJ j)) (hl : (m.length + 1) * 88 ≤ 140737488351232)
  (h : Run P X N Q (.ops ops rem :: ks) (s.set k0 (.res (Yjt (Zk7 m k j))))) : Zbp P X N Q ops rem ks none (.mapUpdate t x y z) s := Yja (fun _ _ _ => Ybu rfl rfl ht hx hk hy hz hl) h
theorem Yjc {d : Nat} {x : Operand} {t k : Nat} (hN : Nat.blt d N = true) (hx : s.ev x = .own k) (ht : Zt2 P t = true) (h : Run P X N Q (.ops ops rem :: ks) (s.put (some d) (.iface t (.own k)))) : Zbp P X N Q ops rem ks (some d) (.makeInterface t x) s := Zdx hN (fun _ _ _ hd => Zo6 hd rfl hx ht) h
end
end Go.Proofs.YtgmahieoiifpfaaGreat
end
namespace Go.Proofs.YtgmahieoiifpfaaGreat
open Go.RowKit
section
variable {P : Program} {X : Base} {N : Nat} {Q : Exit → Act → World → Prop} {ops : Array Oper} {rem : List Nat} {ks : List Itm} {s s' : Sta} {a : Act} {w w' : World} {ρ : Nat → RV}
theorem Zql {F : Nat → Prop} {u : Value} : ∀ {l : List PD} {xs : List Value} {i : Nat}, Groups w F 1 l xs → l[i]? = some (.val u) → xs[i]? = some u ∧ okV u
 | [], _, _, _, h => by simp at h
 | d :: r, xs, i, hg, h => by
  obtain ⟨u', ys, rfl, hd, hn, h1, hr⟩ := hg
  cases i with
  | zero =>
   simp only [List.getElem?_cons_zero, Option.some.injEq] at h
   subst h
   unfold Rep at hd
   obtain ⟨rfl, hok⟩ := hd
   exact ⟨by rw [Za8 hok.one]; rfl, hok⟩
  | succ i =>
   have := Zql hr (i := i) (by simpa using h)
   refine ⟨?_, this.2⟩
   rw [List.getElem?_append_right (by omega), hn]
   simpa using this.1
theorem Zoa {F : Nat → Prop} {u : Value} (hu : okV u) : ∀ {l : List PD} {xs : List Value} {i : Nat}, Groups w F 1 l xs → i < l.length → Groups w F 1 (l.set i (.val u)) (xs.set i u)
 | [], _, _, _, h => by simp at h
 | d :: r, xs, i, hg, h => by
  obtain ⟨u', ys, rfl, hd, hn, h1, hr⟩ := hg
  obtain ⟨c, hc⟩ : ∃ c, u'.cells.toList = [c] := List.length_eq_one_iff.1 hn
  cases i with
  | zero =>
   rw [hc]
   show Groups w F 1 (.val u :: r) (u :: ys)
   exact ⟨u, ys, by rw [Za8 hu.one]; rfl, by unfold Rep; exact ⟨rfl, hu⟩, by rw [Za8 hu.one]; rfl, by rw [Za8 hu.one]; intro c hc; simp at hc; subst hc; exact hu.one, hr⟩
  | succ i =>
   rw [hc]
   show Groups w F 1 (d :: r.set i (.val u)) (c :: ys.set i u)
   exact ⟨u', ys.set i u, by rw [hc]; rfl, hd, hn, h1, Zoa hu hr (by simpa using h)⟩
theorem Zvc {o : Oper} (hd : Za7 X.N o.dst = true) {t : TypeId} {x ix : Operand} (ho : o.op = .indexAddr t x ix) {k e y : Nat} {l : List PD} (hx : s.ev x = .own k) (hk : s.tb k = some (.row e 1 y l)) {q : IntKind} {i : Nat} (hi : s.ev ix = .dat (.val (.int q (i : Int)))) {e' y' : Nat} (ht : Zp0 P t = some (e', 1, y')) (hl : i < l.length) :
  OpS P X o s (s.put o.dst (.elt k 1 i 0)) := by
 refine Zat hd fun a w ρ hc => ?_
 have h2 := hc.ev x
 rw [hx] at h2
 have e2 := Zjf h2 hk
 have h3 := hc.ev ix
 rw [hi] at h3
 unfold VR Rep at h3
 obtain ⟨xs, e0, hm, how, hgr, hby, hln⟩ := hc.blks k _ hk
 obtain ⟨inf, hu, hinf, hsz, _⟩ := Zcd ht
 rcases how.2 with ⟨_, e3⟩ | ⟨g, cap, cur, e1, hB, hg, hr⟩
 ·omega
 refine ⟨.pointer (some ⟨g, i, none⟩), ?_, ?_⟩
 ·simp [execOp, ho, e2.trans e1, h3.1, Instr.indexAt, asIntOf, run_underlying hu, hl, sizeOf, typeInfo, hinf, hsz, Zb2]
 ·unfold VR
  exact ⟨rfl, .inl ⟨_, hk, .inl rfl, g, _, cap, e1, by simp⟩⟩
theorem Zzz {o : Oper} (hd : Za7 X.N o.dst = true) {t : TypeId} {x : Operand} (ho : o.op = .load t x) {k e y i : Nat} {l : List PD} {u : Value} (hx : s.ev x = .elt k 1 i 0) (hk : s.tb k = some (.row e 1 y l)) (ht : Zp1 P t = some (1, false)) (hl : l[i]? = some (.val u)) :
  OpS P X o s (s.put o.dst (.dat (.val u))) := by
 refine Zat hd fun a w ρ hc => ?_
 have h2 := hc.ev x
 rw [hx] at h2
 unfold VR at h2
 obtain ⟨_, h2⟩ := h2
 obtain ⟨xs, e0, hm, how, hgr, hby, hln⟩ := hc.blks k _ hk
 rcases h2 with ⟨x', h5, h6, g, len, c, e3, e4⟩ | h5
 rotate_left
 ·rw [hk] at h5; cases h5
 obtain ⟨hx', hok⟩ := Zql hgr hl
 rcases how.2 with ⟨e5, _⟩ | ⟨g', cap, cur, e1, hB, hg, hc1, hc4, hc2, hc3⟩
 ·rw [e3] at e5; cases e5
 rw [e3] at e1
 injection e1 with e1 _ _
 injection e1 with e1
 injection e1 with e1
 subst e1
 have hcell : w.cell? ⟨g, i, none⟩ = some u := by
  rw [cell_of_row w g i _ _ _ hg]
  rw [← hc3, List.getElem?_take] at hx'
  split at hx'
  ·simpa using hx'
  ·cases hx'
 refine ⟨u, ?_, by unfold VR Rep; exact ⟨rfl, hok⟩⟩
 have e4' : a.eval x = .pointer (some ⟨g, i, none⟩) := by rw [e4]; simp
 simp [execOp, ho, e4', Instr.loadAt, Instr.sureAddr, Zct ht hcell]
theorem ConcAt.setK (h : ConcAt X s a w ρ) {k : Nat} {x x' : Blk} (hk : s.tb k = some x) (hxl : x.live = true) (hkind : x'.kind = x.kind) (hw : Below 0 w w') (hsz : w'.heap.size = w.heap.size) (hoth : ∀ b, ¬ (ρ k).fp b → w'.heap[b]? = w.heap[b]?)
  (hnew : (∀ b, FF X w s.tb ρ b → FF X w' (s.set k x').tb ρ b) → (∀ b, FF X w s.tb ρ b → w'.heap[b]? = w.heap[b]?) → BR X w' (s.set k x').tb ρ k x') : ConcAt X (s.set k x') a w' ρ := by
 have hlk : Za6 (s.tb k) = true := by rw [hk]; exact hxl
 have hF : ∀ b', FF X w s.tb ρ b' → w'.heap[b']? = w.heap[b']? := fun b' hF => hoth b' (hF.2.2 k hlk)
 have hdom : ∀ k', Za6 ((s.set k x').tb k') = true → Za6 (s.tb k') = true := by
  intro k' hk'
  by_cases ek : k' = k
  ·subst ek; exact hlk
  ·simp only [Sta.set, Zaw _ _ ek] at hk'; exact hk'
 have hs : ∀ b', FF X w s.tb ρ b' → FF X w' (s.set k x').tb ρ b' := fun b' hF => ⟨hF.1, by rw [hsz]; exact hF.2.1, fun k' hk' => hF.2.2 k' (hdom k' hk')⟩
 have hkk : ∀ k' z, s.tb k' = some z → ∃ z', (s.set k x').tb k' = some z' ∧ ((z'.kind = z.kind ∧ (ρ k').v = (ρ k').v) ∨ (z' = .dead ∧ z.kind ≠ 0)) := by
  intro k' z hz
  by_cases ek : k' = k
  ·subst ek; rw [hk] at hz; cases hz; exact ⟨x', Zah _ _ _, .inl ⟨hkind, rfl⟩⟩
  ·exact ⟨z, by simp only [Sta.set, Zaw _ _ ek]; exact hz, .inl ⟨rfl, rfl⟩⟩
 refine ⟨h.size, h.defers, h.below.step hw.os hw.tape hw.output (by rw [hsz]; exact Nat.le_refl _) (fun j _ hj => hoth j (fun e => hj (h.rowBlk hk hxl e).1)), fun t' => (h.tmps t').keep hF hs hkk, fun k' z hz => ?_, fun k1 k2 b h1 h2 e1 e2 => h.apart k1 k2 b (hdom k1 h1) (hdom k2 h2) e1 e2, fun k' hk' hl' => h.lent k' hk' (hdom k' hl')⟩
 by_cases ek : k' = k
 ·subst ek
  simp only [Sta.set, Zah, Option.some.injEq] at hz
  subst hz
  exact hnew hs hF
 ·simp only [Sta.set, Zaw _ _ ek] at hz
  exact (h.blks k' z hz).keep hF hs hkk rfl (fun b' hl hf => hoth b' fun e => ek (h.apart k' k b' (by rw [hz]; exact hl) hlk hf e)) (by rw [hsz]; exact Nat.le_refl _)
theorem Yf0 {o : Oper} (hd : o.dst = none) {t : TypeId} {x y : Operand} (ho : o.op = .store t x y) {k e z i : Nat} {l : List PD} {u : Value} (hx : s.ev x = .elt k 1 i 0) (hk : s.tb k = some (.row e 1 z l)) (ht : Zp1 P t = some (1, false)) (hl : i < l.length) (hy : s.ev y = .dat (.val u)) :
  OpS P X o s (s.set k (.row e 1 z (l.set i (.val u)))) := by
 intro a w ⟨ρ, hc⟩ K Q hK
 have h2 := hc.ev x
 rw [hx] at h2
 unfold VR at h2
 obtain ⟨_, h2⟩ := h2
 have h4 := hc.ev y
 rw [hy] at h4
 unfold VR Rep at h4
 obtain ⟨e6, hok⟩ := h4
 obtain ⟨xs, e0, hm, how, hgr, hby, hln⟩ := hc.blks k _ hk
 rcases h2 with ⟨x', h5, h6, g, len, c, e3, e4⟩ | h5
 rotate_left
 ·rw [hk] at h5; cases h5
 have how' := how
 rcases how.2 with ⟨e5, _⟩ | ⟨g', cap, cur, e1, hB, hg, hc1, hc4, hc2, hc3⟩
 ·rw [e3] at e5; cases e5
 have e1' := e1
 rw [e3] at e1
 injection e1 with e1 _ _
 injection e1 with e1
 injection e1 with e1
 subst e1
 have hlen : l.length ≤ cur.size := by omega
 have hrun := Zgt (P := P) (w := w) ht (b := g) (off := i) (old := cur.toList) (e := e) (by simpa using hg) (v := u) (by rw [Za8 hok.one]; rfl) (by simp; omega) (by rw [Za8 hok.one]; intro c hc; simp at hc; subst hc; exact hok.one)
 rw [Za8 hok.one] at hrun
 have hcur : (cur.toList.take i ++ [u] ++ cur.toList.drop (i + 1)) = cur.toList.set i u := by
  rw [List.set_eq_take_append_cons_drop, if_pos (by simp; omega)]; simp
 rw [hcur] at hrun
 have e4' : a.eval x = .pointer (some ⟨g, i, none⟩) := by rw [e4]; simp
 have hfp : (ρ k).fp g := by rw [e0, e1']; rfl
 have hoth : ∀ b', ¬ (ρ k).fp b' → (w.setRow g (cur.toList.set i u).toArray).heap[b']? = w.heap[b']? := fun b' hb' => setRow_other w g b' _ (fun e => hb' (e ▸ hfp))
 have hsz : (w.setRow g (cur.toList.set i u).toArray).heap.size = w.heap.size := by simp
 refine Zjb (w' := w.setRow g (cur.toList.set i u).toArray) (by simp [execOp, ho, e4', e6, Instr.storeAt, Instr.sureAddr, hrun, Result.andThen]) ?_
 rw [hd]
 have hB0 : Below 0 w (w.setRow g (cur.toList.set i u).toArray) := ⟨rfl, rfl, rfl, by rw [hsz]; exact Nat.le_refl _, fun k hk => absurd hk (Nat.not_lt_zero _)⟩
 refine hK _ _ ⟨ρ, (hc.setK (x' := .row e 1 z (l.set i (.val u))) hk rfl rfl hB0 hsz hoth (fun hs hF => ?_)).put_none .any undef⟩
 refine ⟨xs.set i u, e0, hm, ?_, (Zoa hok (hgr.keep hF hs) hl), by simpa using hby, by simpa using hln⟩
 rw [e1']
 refine ⟨by simpa using how.1, .inr ⟨g, cap, (cur.toList.set i u).toArray, by simp, hB, setRow_heap w g _ _ e _ (by simpa using hg), by simpa using hc1, hc4, by simpa using hc2, ?_⟩⟩
 simp only [List.length_set]
 rw [List.take_set, hc3]
theorem Yih {ops : List Oper} {d : Nat} {t : TypeId} {x ix : Operand} {k e y i : Nat} {l : List PD} {q : IntKind} {e' y' : Nat} (hN : Nat.blt d N = true) (hx : s.ev x = .own k) (hk : s.tb k = some (.row e 1 y l)) (hi : s.ev ix = .dat (.val (.int q (i : Int)))) [ht : SI P t e' 1 y'] (hl : i < l.length) : TrK P X N ops (some d) (.indexAddr t x ix) (Eff.put (some d) (.elt k 1 i 0)) s (s.put (some d) (.elt k 1 i 0)) :=
 Zbm hN fun s' _ _ _ _ hd hev htb => Zvc hd rfl ((hev _ (by simp [Op.operands])).trans hx) ((htb x (by simp [Op.operands]) k (by rw [hx]; simp [Zbq])).trans hk) ((hev _ (by simp [Op.operands])).trans hi) ht.out hl
theorem Zsi {d : Nat} {t : TypeId} {x ix : Operand} {k e y i : Nat} {z : Int} {l : List PD} {q : IntKind} {e' y' : Nat} (hN : Nat.blt d N = true) (hx : s.ev x = .own k) (hk : s.tb k = some (.row e 1 y l)) (hi : s.ev ix = .dat (.val (.int q z))) [ht : SI P t e' 1 y'] (hz : z = (i : Int)) (hl : i < l.length) (h : Run P X N Q (.ops ops rem :: ks) (s.put (some d) (.elt k 1 i 0))) : Zbp P X N Q ops rem ks (some d) (.indexAddr t x ix) s := Zdx hN (fun _ _ _ hd => Zvc hd rfl hx hk (by rw [hi, hz]) ht.out hl) h
theorem Zm1 {ops : List Oper} {d : Nat} {t : TypeId} {x ix : Operand} {k e y i : Nat} {z : Int} {l : List PD} {q : IntKind} {e' y' : Nat} (hN : Nat.blt d N = true) (hx : s.ev x = .own k) (hk : s.tb k = some (.row e 1 y l)) (hi : s.ev ix = .dat (.val (.int q z))) [ht : SI P t e' 1 y'] (hz : z = (i : Int)) (hl : i < l.length) : TrK P X N ops (some d) (.indexAddr t x ix) (Eff.put (some d) (.elt k 1 i 0)) s (s.put (some d) (.elt k 1 i 0)) :=
 Yih hN hx hk (by rw [hi, hz]) hl
theorem Zw7 {d : Nat} {t : TypeId} {x : Operand} {k e y i : Nat} {l : List PD} {u : Value} (hN : Nat.blt d N = true) (hx : s.ev x = .elt k 1 i 0) (hk : s.tb k = some (.row e 1 y l)) [ht : VI P t 1 false] (hl : l[i]? = some (.val u)) (h : Run P X N Q (.ops ops rem :: ks) (s.put (some d) (.dat (.val u)))) : Zbp P X N Q ops rem ks (some d) (.load t x) s := Zdx hN (fun _ _ _ hd => Zzz hd rfl hx hk ht.out hl) h
theorem Zrw {ops : List Oper} {d : Nat} {t : TypeId} {x : Operand} {k e y i : Nat} {l : List PD} {u : Value} (hN : Nat.blt d N = true) (hx : s.ev x = .elt k 1 i 0) (hk : s.tb k = some (.row e 1 y l)) [ht : VI P t 1 false] (hl : l[i]? = some (.val u)) : TrK P X N ops (some d) (.load t x) (Eff.put (some d) (.dat (.val u))) s (s.put (some d) (.dat (.val u))) :=
 Zbm hN fun s' _ _ _ _ hd hev htb => Zzz hd rfl ((hev _ (by simp [Op.operands])).trans hx) ((htb x (by simp [Op.operands]) k (by rw [hx]; simp [Zbq])).trans hk) ht.out hl
theorem Zyu {ops : List Oper} {t : TypeId} {x y : Operand} {k e z i : Nat} {l : List PD} {u : Value} (hx : s.ev x = .elt k 1 i 0) (hk : s.tb k = some (.row e 1 z l)) [ht : VI P t 1 false] (hl : i < l.length) (hy : s.ev y = .dat (.val u)) : TrK P X N ops none (.store t x y) (Eff.set k (.row e 1 z (l.set i (.val u)))) s (s.set k (.row e 1 z (l.set i (.val u)))) :=
 Zwg fun s' _ _ _ _ hev htb => Yf0 rfl rfl ((hev _ (by simp [Op.operands])).trans hx) ((htb x (by simp [Op.operands]) k (by rw [hx]; simp [Zbq])).trans hk) ht.out hl ((hev _ (by simp [Op.operands])).trans hy)
end
section
variable {P : Program} {w : World} {F : Nat → Prop}
theorem Groups.split {n : Nat} : ∀ {l : List PD} {xs : List Value} (i : Nat), i ≤ l.length → Groups w F n l xs → Groups w F n (l.take i) (xs.take (i * n)) ∧ Groups w F n (l.drop i) (xs.drop (i * n))
 | l, xs, 0, _, h => by simp [Groups, h]
 | [], _, i + 1, hi, _ => by simp at hi
 | d :: r, xs, i + 1, hi, h => by
  obtain ⟨u, ys, rfl, hd, hn, h1, hr⟩ := h
  obtain ⟨g1, g2⟩ := hr.split i (by simpa using hi)
  have e1 : (u.cells.toList ++ ys).take ((i + 1) * n) = u.cells.toList ++ ys.take (i * n) := by
   rw [List.take_append, List.take_of_length_le (by rw [hn, Nat.succ_mul]; omega), hn, Nat.succ_mul, Nat.add_sub_cancel]
  have e2 : (u.cells.toList ++ ys).drop ((i + 1) * n) = ys.drop (i * n) := by
   rw [List.drop_append, List.drop_eq_nil_of_le (by rw [hn, Nat.succ_mul]; omega), hn, Nat.succ_mul, Nat.add_sub_cancel]; rfl
  rw [e1, e2]
  exact ⟨⟨u, _, rfl, hd, hn, h1, g1⟩, g2⟩
theorem Zma {t t2 e e2 : TypeId} (ht : P.underlying t = some (.slice e)) (ht2 : P.underlying t2 = some (.slice e2)) (ty : TypeId) (b : Option Addr) (n c : Nat) (x : Value) : (Builtin.append_ #[t, t2] ty #[.slice b n c, x]).run P w = (Builtin.append_ #[t, t] ty #[.slice b n c, x]).run P w := by
 simp [Builtin.append_, run_underlying ht, run_underlying ht2]
theorem Zcj (dT dS ty elem : TypeId) (z g o dLen dCap : Nat) (a : Addr) (sLen sCap : Nat) (cur : Array Value) (t : TypeId) (cs : List Value)
  (hu : P.underlying dT = some (.slice elem)) (hs : (P.info? elem).map (·.size) = some z)
  (hg : w.heap[g]? = some (.cells cur t (0, 0))) (hn : cs.length = Nat.min sLen dLen * z)
  (hsrc : ∀ j v, cs[j]? = some v → w.cell? (a.add j) = some v) (hfit : o + cs.length ≤ cur.size) (h1 : ∀ v ∈ cs, v.oneCell' = true) :
  (Builtin.copy_ #[dT, dS] ty #[.slice (some ⟨g, o, none⟩) dLen dCap, .slice (some a) sLen sCap]).run P w =
   .ok (goInt (Nat.min sLen dLen)) (w.setRow g (cur.toList.take o ++ cs ++ cur.toList.drop (o + cs.length)).toArray) := by
 have hl := run_loadCells_list (P := P) w a cs hsrc
 have hst := run_storeCells_at P g o t cs 0 cur w hg (by simpa using hfit) h1
 cases hq : P.info? elem with
 | none => simp [hq] at hs
 | some i =>
  have hi : i.size = z := by simpa [hq] using hs
  simp [Builtin.copy_, run_underlying hu, Builtin.lenOf, Builtin.firstCells, sizeOf, typeInfo, hq, hi, ← hn, hl, hst]
end
class Ysr (P : Program) (f e n y : Nat) : Prop where
 ok : Zbo P f = true
 out : ∀ (w : World) (base : Nat) (v u : Value) (len i : Nat) (xs news : List Value), w.ownsRow base e n v len xs → w.ownsRow base e n u 1 news → (∀ b, v.ownBlock = some b → u.ownBlock ≠ some b) → i ≤ len → (len + 1) * y ≤ 140737488351232 → len + 1 ≤ 140737488351232 → base ≤ w.heap.size →
  (∀ c ∈ xs, c.oneCell' = true) → (∀ c ∈ news, c.oneCell' = true) →
  Calls P f #[v, .int .i64 (i : Int), u] w fun e' w' => ∃ v', e' = .returned v' ∧ w'.ownsRow base e n v' (len + 1) (xs.take (i * n) ++ news ++ xs.drop (i * n)) ∧ w.grownBy w' v.ownBlock ∧ (∀ b, Zdo v' = some b → w.heap.size ≤ b ∨ v.ownBlock = some b)
section
variable {P : Program} {X : Base} {N : Nat} {Q : Exit → Act → World → Prop} {ops : Array Oper} {rem : List Nat} {ks : List Itm} {s s' : Sta}
theorem Yfq {o : Oper} {d f : Nat} (hd : o.dst = some d) (hN : d < X.N) {k : Nat} (hd0 : s.tb d = none) {x ix x2 : Operand} {ts : Array TypeId} (ho : o.op = .call { callee := .value (.func f), args := #[x, ix, x2], argTypes := ts })
  {e n y k2 y2 i : Nat} {l : List PD} {p : PD} (hF : Ysr P f e n y) (hx : s.ev x = .own k) (hk : s.tb k = some (.row e n y l)) (hi : s.ev ix = .dat (.val (.int .i64 (i : Int)))) (hx2 : s.ev x2 = .own k2) (hk2 : s.tb k2 = some (.row e n y2 [p])) (hne : Nat.beq k k2 = false)
  (hil : i ≤ l.length) (hb1 : (l.length + 1) * y ≤ 140737488351232) (hb2 : l.length + 1 ≤ 140737488351232) : OpS P X o s (s.mv k d (.row e n y (l.take i ++ p :: l.drop i))) := by
 intro a w ⟨ρ, hc⟩ K Q hK
 obtain ⟨xs, hr1, _, g1, g2, g3, g4⟩ := hc.blks k _ hk
 obtain ⟨news, hr2, _, j1, j2, j3, j4⟩ := hc.blks k2 _ hk2
 have e1 := hc.ev x
 rw [hx] at e1
 have e1 := Zjf e1 hk
 have e3 := hc.ev x2
 rw [hx2] at e3
 have e3 := Zjf e3 hk2
 have e2 := hc.ev ix
 rw [hi] at e2
 unfold VR Rep at e2
 have e2 := e2.1
 have hap : ∀ b, (ρ k).v.ownBlock = some b → (ρ k2).v.ownBlock ≠ some b := fun b h1 h2 => by
  have hkk := hc.apart k k2 b (by rw [hk]; rfl) (by rw [hk2]; rfl) (by
    obtain ⟨⟨a1, c1, hρk⟩, _⟩ := hc.own_slice hk
    rw [hr1]; show Zdo (ρ k).v = some b; rw [Znt ⟨_, _, _, hρk⟩]; exact h1) (by
    obtain ⟨⟨a1, c1, hρk⟩, _⟩ := hc.own_slice hk2
    rw [hr2]; show Zdo (ρ k2).v = some b; rw [Znt ⟨_, _, _, hρk⟩]; exact h2)
  subst hkk
  simp at hne
 have hcall := hF.out w X.B (ρ k).v (ρ k2).v l.length i xs news g1 j1 hap hil hb1 hb2 hc.below.sizeB g2.one j2.one
 refine Ziz hF.ok (vs := [a.eval x, a.eval ix, a.eval x2]) (by simp [execOp, ho, resolve, Deferred.ofValue, Act.eval, invoke, Zck hF.ok]) (R := fun v w' => ∃ ρ', ConcAt X (s.mv k d (.row e n y (l.take i ++ p :: l.drop i))) (a.put (some d) v) w' ρ') ?_ ?_
 ·rw [e1, e2, e3]
  refine hcall.mono ?_
  rintro e' w' ⟨v', rfl, r1, r2, r3⟩
  have hv1 : v'.oneCell' = true := by
   rcases r1.2 with ⟨e, _⟩ | ⟨g, cap, cur, e, _⟩ <;> rw [e] <;> rfl
  have hlen : (l.take i ++ p :: l.drop i).length = l.length + 1 := by simp; omega
  obtain ⟨s1, s2⟩ := g2.split i hil
  have hmv := hc.moveRow (l' := l.take i ++ p :: l.drop i) hk hd0 hv1 r2 r3 (xs := xs.take (i * n) ++ news ++ xs.drop (i * n)) (by rw [hlen]; exact r1)
   (fun F' hF' hh => by
    rw [show l.take i ++ p :: l.drop i = (l.take i ++ [p]) ++ l.drop i by simp]
    exact ((s1.keep hh hF').append (j2.keep hh hF')).append (s2.keep hh hF')) (by rw [hlen]; exact hb1) (by rw [hlen]; exact hb2) hN
  exact ⟨v', rfl, _, hmv⟩
 ·rintro v' w' ⟨ρ', h⟩
  rw [hd]
  exact hK _ _ ⟨_, h⟩
theorem Zyp {ops : List Oper} {d f : Nat} {x ix x2 : Operand} {ts : Array TypeId} {k e n y k2 y2 i : Nat} {l : List PD} {p : PD} (hN : Nat.blt d N = true) (hd0 : s.tb d = none) [hF : Ysr P f e n y] (hx : s.ev x = .own k) (hk : s.tb k = some (.row e n y l)) (hi : s.ev ix = .dat (.val (.int .i64 (i : Int)))) (hx2 : s.ev x2 = .own k2) (hk2 : s.tb k2 = some (.row e n y2 [p])) (hne : Nat.beq k k2 = false)
  (hil : i ≤ l.length) (hb1 : (l.length + 1) * y ≤ 140737488351232) (hb2 : l.length + 1 ≤ 140737488351232) :
  TrK P X N ops (some d) (.call { callee := .value (.func f), args := #[x, ix, x2], argTypes := ts }) (Eff.mv k d (.row e n y (l.take i ++ p :: l.drop i))) s (s.mv k d (.row e n y (l.take i ++ p :: l.drop i))) :=
 Ycs hN fun s' _ _ _ _ hd hev htb hnew => Yfq rfl hd (hnew.trans hd0) rfl hF ((hev _ (by simp [Op.operands, Call.operands])).trans hx) ((htb x (by simp [Op.operands, Call.operands]) _ (by rw [hx]; simp [Zbq])).trans hk) ((hev _ (by simp [Op.operands, Call.operands])).trans hi) ((hev _ (by simp [Op.operands, Call.operands])).trans hx2) ((htb x2 (by simp [Op.operands, Call.operands]) _ (by rw [hx2]; simp [Zbq])).trans hk2) hne hil hb1 hb2
end
section
variable {P : Program} {X : Base} {N : Nat} {Q : Exit → Act → World → Prop} {ops : Array Oper} {rem : List Nat} {ks : List Itm} {s s' : Sta} {a : Act} {w w' : World} {ρ : Nat → RV}
theorem Yfp {o : Oper} (hd : Za7 X.N o.dst = true) {t : TypeId} {x ix : Operand} (ho : o.op = .indexAddr t x ix) {k e n y : Nat} {l : List PD} (hx : s.ev x = .own k) (hk : s.tb k = some (.row e n y l)) {q : IntKind} {i : Nat} (hi : s.ev ix = .dat (.val (.int q (i : Int)))) {e' y' : Nat} (ht : Zp0 P t = some (e', n, y')) (hl : i < l.length) :
  OpS P X o s (s.put o.dst (.elt k n i 0)) := by
 refine Zat hd fun a w ρ hc => ?_
 have h2 := hc.ev x
 rw [hx] at h2
 have e2 := Zjf h2 hk
 have h3 := hc.ev ix
 rw [hi] at h3
 unfold VR Rep at h3
 obtain ⟨xs, e0, hm, how, hgr, hby, hln⟩ := hc.blks k _ hk
 obtain ⟨inf, hu, hinf, hsz, _⟩ := Zcd ht
 rcases how.2 with ⟨_, e3⟩ | ⟨g, cap, cur, e1, hB, hg, hr⟩
 ·omega
 refine ⟨.pointer (some ⟨g, i * n, none⟩), ?_, ?_⟩
 ·simp [execOp, ho, e2.trans e1, h3.1, Instr.indexAt, asIntOf, run_underlying hu, hl, sizeOf, typeInfo, hinf, hsz, Zb2]
 ·unfold VR
  exact ⟨rfl, .inl ⟨_, hk, .inl rfl, g, _, cap, e1, by simp⟩⟩
theorem Yfm {o : Oper} (hd : Za7 X.N o.dst = true) {t f : Nat} {x : Operand} (ho : o.op = .fieldAddr t x f) {k n i off : Nat} (hx : s.ev x = .elt k n i off) {e y : Nat} {l : List PD} (hk : s.tb k = some (.row e n y l)) {fo m : Nat} {g : Bool} (ht : Yit P t f = some (fo, m, g)) (hn : 0 < m) :
  OpS P X o s (s.put o.dst (.elt k n i (off + fo))) := by
 refine Zat hd fun a w ρ hc => ?_
 have h2 := hc.ev x
 rw [hx] at h2
 unfold VR at h2
 obtain ⟨_, h2⟩ := h2
 rcases h2 with ⟨x', h5, h6, b, len, c, e3, e4⟩ | h5
 rotate_left
 ·rw [hk] at h5; cases h5
 exact ⟨.pointer (some ⟨b, i * n + off + fo, none⟩), by simp [execOp, ho, e4, Zh7 ht hn], by unfold VR; exact ⟨rfl, .inl ⟨x', h5, h6, b, len, c, e3, by rw [Nat.add_assoc]⟩⟩⟩
def Ys1 (d : PD) : Prop := ∀ (w : World) (F : Nat → Prop) (c : Value), Rep w F d c → c.oneCell' = true
theorem Yje {d : Nat} {t : TypeId} {x ix : Operand} {k e n y i : Nat} {l : List PD} {q : IntKind} {e' y' : Nat} (hN : Nat.blt d N = true) (hx : s.ev x = .own k) (hk : s.tb k = some (.row e n y l)) (hi : s.ev ix = .dat (.val (.int q (i : Int)))) [ht : SI P t e' n y'] (hl : i < l.length) (h : Run P X N Q (.ops ops rem :: ks) (s.put (some d) (.elt k n i 0))) : Zbp P X N Q ops rem ks (some d) (.indexAddr t x ix) s := Zdx hN (fun _ _ _ hd => Yfp hd rfl hx hk hi ht.out hl) h
theorem Yjb {d : Nat} {x : Operand} {t f k n i off e y fo m : Nat} {l : List PD} {g : Bool} (hN : Nat.blt d N = true) (hx : s.ev x = .elt k n i off) (hk : s.tb k = some (.row e n y l)) [ht : FI P t f fo m g] (hn : Nat.blt 0 m = true) (h : Run P X N Q (.ops ops rem :: ks) (s.put (some d) (.elt k n i (off + fo)))) : Zbp P X N Q ops rem ks (some d) (.fieldAddr t x f) s := Zdx hN (fun _ _ _ hd => Yfm hd rfl hx hk ht.out (by simpa [Nat.blt_eq] using hn)) h
end
section
variable {P : Program} {X : Base} {N : Nat} {Q : Exit → Act → World → Prop} {opa : Array Oper} {rem : List Nat} {ks : List Itm} {ops : List Oper} {s s' : Sta} {a : Act} {w w' : World} {ρ : Nat → RV}
theorem Yop {o : Oper} (hd : Za7 X.N o.dst = true) {x : Operand} (ho : o.op = .nilCheck x) {k n i off : Nat} (hx : s.ev x = .elt k n i off) (hl : Za6 (s.tb k) = true) : OpS P X o s (s.put o.dst (.elt k n i off)) := by
 refine Zat hd fun a w ρ hc => ?_
 have h2 := hc.ev x
 rw [hx] at h2
 have h3 := h2
 unfold VR at h2
 obtain ⟨_, h2⟩ := h2
 rcases h2 with ⟨x', h5, h6, b, len, c, e3, e4⟩ | h5
 rotate_left
 ·rw [h5] at hl; cases hl
 exact ⟨a.eval x, by simp [execOp, ho, e4, Instr.sureAddr], h3⟩
theorem Yfn {o : Oper} (hd : Za7 X.N o.dst = true) {t f : Nat} {x : Operand} (ho : o.op = .fieldAddr t x f) {k n i off : Nat} (hx : s.ev x = .elt k n i off) (hl : Za6 (s.tb k) = true) {fo m : Nat} {g : Bool} (ht : Yit P t f = some (fo, m, g)) (hn : 0 < m) :
  OpS P X o s (s.put o.dst (.elt k n i (off + fo))) := by
 refine Zat hd fun a w ρ hc => ?_
 have h2 := hc.ev x
 rw [hx] at h2
 unfold VR at h2
 obtain ⟨_, h2⟩ := h2
 rcases h2 with ⟨x', h5, h6, b, len, c, e3, e4⟩ | h5
 rotate_left
 ·rw [h5] at hl; cases hl
 exact ⟨.pointer (some ⟨b, i * n + off + fo, none⟩), by simp [execOp, ho, e4, Zh7 ht hn], by unfold VR; exact ⟨rfl, .inl ⟨x', h5, h6, b, len, c, e3, by rw [Nat.add_assoc]⟩⟩⟩
theorem Yab {F : Nat → Prop} : ∀ {ds : List PD} {vs : List Value} {off : Nat} {d : PD}, Reps w F ds vs → ds[off]? = some d → ∃ c, vs[off]? = some c ∧ Rep w F d c
 | [], vs, off, d, h, hd => by simp at hd
 | d0 :: r, vs, off, d, h, hd => by
  unfold Reps at h
  obtain ⟨v, r', rfl, h1, h2⟩ := h
  cases off with
  | zero => simp at hd; subst hd; exact ⟨v, rfl, h1⟩
  | succ off =>
   obtain ⟨c, h3, h4⟩ := Yab (off := off) h2 (by simpa using hd)
   exact ⟨c, by simpa using h3, h4⟩
theorem Zn8 {F : Nat → Prop} {n : Nat} {ds : List PD} {off : Nat} {d : PD} (hd : ds[off]? = some d) : ∀ {l : List PD} {xs : List Value} {i : Nat}, Groups w F n l xs → l[i]? = some (.agg ds) → ∃ c, xs[i * n + off]? = some c ∧ Rep w F d c ∧ c.oneCell' = true
 | [], xs, i, _, h => by simp at h
 | d0 :: r, xs, i, hg, h => by
  obtain ⟨u, ys, rfl, hu, hn, h1, hr⟩ := hg
  cases i with
  | zero =>
   simp only [List.getElem?_cons_zero, Option.some.injEq] at h
   subst h
   unfold Rep at hu
   obtain ⟨vs, rfl, hvs, ho⟩ := hu
   obtain ⟨c, hc, hr'⟩ := Yab hvs hd
   have e : (Value.agg vs.toArray).cells.toList = vs := by simp [Value.cells]
   rw [e] at hn h1 ⊢
   have hlt := (List.getElem?_eq_some_iff.1 hc).1
   exact ⟨c, by rw [Nat.zero_mul, Nat.zero_add, List.getElem?_append_left hlt]; exact hc, hr', h1 c (List.mem_of_getElem? hc)⟩
  | succ i =>
   obtain ⟨c, h2, h3⟩ := Zn8 hd hr (i := i) (by simpa using h)
   exact ⟨c, by rw [show (i + 1) * n + off = u.cells.toList.length + (i * n + off) by rw [hn, Nat.succ_mul]; omega, List.getElem?_append_right (Nat.le_add_right _ _), Nat.add_sub_cancel_left]; exact h2, h3⟩
theorem Yj5 {o : Oper} (hd : Za7 X.N o.dst = true) {t : TypeId} {x : Operand} (ho : o.op = .load t x) {k e n y i off : Nat} {l : List PD} {ds : List PD} {d : PD} (hx : s.ev x = .elt k n i off) (hk : s.tb k = some (.row e n y l)) (ht : Zp1 P t = some (1, false)) (hl : l[i]? = some (.agg ds)) (hds : ds[off]? = some d) :
  OpS P X o s (s.put o.dst (.dat d)) := by
 refine Zat hd fun a w ρ hc => ?_
 have h2 := hc.ev x
 rw [hx] at h2
 unfold VR at h2
 obtain ⟨_, h2⟩ := h2
 obtain ⟨xs, e0, hm, how, hgr, hby, hln⟩ := hc.blks k _ hk
 rcases h2 with ⟨x', h5, h6, g, len, c, e3, e4⟩ | h5
 rotate_left
 ·rw [hk] at h5; cases h5
 obtain ⟨u, hx', hok, hone⟩ := Zn8 hds hgr hl
 rcases how.2 with ⟨e5, _⟩ | ⟨g', cap, cur, e1, hB, hg, hc1, hc4, hc2, hc3⟩
 ·rw [e3] at e5; cases e5
 rw [e3] at e1
 injection e1 with e1 _ _
 injection e1 with e1
 injection e1 with e1
 subst e1
 have hcell : w.cell? ⟨g, i * n + off, none⟩ = some u := by
  rw [cell_of_row w g (i * n + off) _ _ _ hg]
  rw [← hc3, List.getElem?_take] at hx'
  split at hx'
  ·simpa using hx'
  ·cases hx'
 refine ⟨u, ?_, by unfold VR; exact hok⟩
 simp [execOp, ho, e4, Instr.loadAt, Instr.sureAddr, Zct ht hcell]
theorem Yn0 {d : Nat} {x : Operand} {k n i off : Nat} (hN : Nat.blt d N = true) (hx : s.ev x = .elt k n i off) (h : Run P X N Q (.ops opa rem :: ks) (s.put (some d) (.elt k n i off))) : Zbp P X N Q opa rem ks (some d) (.move x) s := Zdx hN (fun _ _ _ hd => Zhc hd rfl hx) h
theorem Yex {d : Nat} {x : Operand} {k n i off : Nat} (hN : Nat.blt d N = true) (hx : s.ev x = .elt k n i off) (h : Run P X N Q (.ops opa rem :: ks) (s.put (some d) (.elt k n i off))) : Zbp P X N Q opa rem ks (some d) (.assign x) s := Zdx hN (fun _ _ _ hd => Zhp hd rfl hx) h
theorem Ynz {d : Nat} {x : Operand} {t k e n y i off : Nat} {l : List PD} {ds : List PD} {v : PD} (hN : Nat.blt d N = true) (hx : s.ev x = .elt k n i off) (hk : s.tb k = some (.row e n y l)) [ht : VI P t 1 false] (hl : l[i]? = some (.agg ds)) (hds : ds[off]? = some v) (h : Run P X N Q (.ops opa rem :: ks) (s.put (some d) (.dat v))) : Zbp P X N Q opa rem ks (some d) (.load t x) s := Zdx hN (fun _ _ _ hd => Yj5 hd rfl hx hk ht.out hl hds) h
theorem Ymu {d : Nat} {x : Operand} {k n i off : Nat} (hN : Nat.blt d N = true) (hx : s.ev x = .elt k n i off) : TrK P X N ops (some d) (.move x) (Eff.put (some d) (.elt k n i off)) s (s.put (some d) (.elt k n i off)) := Zf4 hN fun s' _ _ _ _ hd hev _ => Zhc hd rfl ((hev _ (by simp [Op.operands, Call.operands])).trans hx)
theorem Yql {d : Nat} {x : Operand} {k n i off : Nat} (hN : Nat.blt d N = true) (hx : s.ev x = .elt k n i off) (hl : Za6 (s.tb k) = true) : TrK P X N ops (some d) (.nilCheck x) (Eff.put (some d) (.elt k n i off)) s (s.put (some d) (.elt k n i off)) := Zbm hN fun s' _ _ _ _ hd hev htb => Yop hd rfl ((hev _ (by simp [Op.operands, Call.operands])).trans hx) (by rw [htb x (by simp [Op.operands, Call.operands]) k (by rw [hx]; simp [Zbq])]; exact hl)
theorem Yig {d : Nat} {x : Operand} {t f k n i off fo m : Nat} {g : Bool} (hN : Nat.blt d N = true) (hx : s.ev x = .elt k n i off) (hl : Za6 (s.tb k) = true) [ht : FI P t f fo m g] (hn : Nat.blt 0 m = true) : TrK P X N ops (some d) (.fieldAddr t x f) (Eff.put (some d) (.elt k n i (off + fo))) s (s.put (some d) (.elt k n i (off + fo))) := Zbm hN fun s' _ _ _ _ hd hev htb => Yfn hd rfl ((hev _ (by simp [Op.operands, Call.operands])).trans hx) (by rw [htb x (by simp [Op.operands, Call.operands]) k (by rw [hx]; simp [Zbq])]; exact hl) ht.out (by simpa [Nat.blt_eq] using hn)
theorem Yjz {o : Oper} (hd : Za7 X.N o.dst = true) {t t' : TypeId} {x : Operand} (ho : o.op = .convert t t' x) {k k' : IntKind} {i b : Int} (hx : s.ev x = .dat (.val (.int k i))) (ht : Yno P t' = some k') (ht0 : Ys2 P t = true) (hw : k'.wrap i = b) :
  OpS P X o s (s.put o.dst (.dat (.val (.int k' b)))) := by
 rw [← hw]
 exact Yj1 hd ho hx ht ht0
theorem Ynx {d : Nat} {x : Operand} {t t' : Nat} {k k' : IntKind} {a b : Int} (hN : Nat.blt d N = true) (hx : s.ev x = .dat (.val (.int k a))) (ht : Yno P t' = some k') (ht0 : Ys2 P t = true) (hw : k'.wrap a = b) (h : Run P X N Q (.ops opa rem :: ks) (s.put (some d) (.dat (.val (.int k' b))))) : Zbp P X N Q opa rem ks (some d) (.convert t t' x) s := Zdx hN (fun _ _ _ hd => Yjz hd rfl hx ht ht0 hw) h
theorem Yoq {o : Oper} (hd : Za7 X.N o.dst = true) {t t' : TypeId} {x y : Operand} (ho : o.op = .binOp .shr t x y t') {k2 : IntKind} {a b : Int} (hx : s.ev x = .dat (.val (.int .u64 a))) (hy : s.ev y = .dat (.val (.int k2 1))) (hb : a / 2 = b) (hw : (Lit.int .u64 b).wf = true) :
  OpS P X o s (s.put o.dst (.dat (.val (.int .u64 b)))) := by
 refine Zo4 hd ho hx hy (fun w => ?_) hw
 have e : a.fdiv 2 = b := by rw [Int.fdiv_eq_ediv_of_nonneg _ (by omega)]; exact hb
 simp [eqGuard, binOp, Op.shift, IntKind.bits, e]
theorem Yrf {d : Nat} {x y : Operand} {t t' : Nat} {k2 : IntKind} {a b : Int} (hN : Nat.blt d N = true) (hx : s.ev x = .dat (.val (.int .u64 a))) (hy : s.ev y = .dat (.val (.int k2 1))) (hb : a / 2 = b) (hw : (Lit.int .u64 b).wf = true) (h : Run P X N Q (.ops opa rem :: ks) (s.put (some d) (.dat (.val (.int .u64 b))))) : Zbp P X N Q opa rem ks (some d) (.binOp .shr t x y t') s := Zdx hN (fun _ _ _ hd => Yoq hd rfl hx hy hb hw) h
end
end Go.Proofs.YtgmahieoiifpfaaGreat
