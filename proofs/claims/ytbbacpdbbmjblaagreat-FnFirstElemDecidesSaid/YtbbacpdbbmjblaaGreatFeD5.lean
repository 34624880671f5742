/- Part 5 of what the proof rests on. -/
import Derived.Deep.RegionWith
import Derived.Test.YtbbacpdbbmjblaaGreatFeD3
import Derived.Test.YtbbacpdbbmjblaaGreatFeD4
section
namespace Go.Proofs.YtbbacpdbbmjblaaGreat
/-- The value under a key in a list of pairs. -/
def getA {α : Type} : List (ByteArray × α) → ByteArray → Option α
  | [], _ => none
  | e :: r, k => if e.1 = k then some e.2 else getA r k
theorem getA_append {α : Type} (a b : List (ByteArray × α)) (k : ByteArray) : getA (a ++ b) k = (getA a k).or (getA b k) := by
  induction a with
  | nil => simp [getA]
  | cons e r ih =>
    simp only [List.cons_append, getA]
    split <;> simp [*]
theorem getA_none {α : Type} {a : List (ByteArray × α)} {k : ByteArray} (h : ∀ e ∈ a, e.1 ≠ k) : getA a k = none := by
  induction a with
  | nil => rfl
  | cons e r ih =>
    simp only [getA]
    rw [if_neg (h e (by simp)), ih (fun x hx => h x (by simp [hx]))]
theorem getA_mem {α : Type} {a : List (ByteArray × α)} {k : ByteArray} {x : α} (h : getA a k = some x) : (k, x) ∈ a := by
  induction a with
  | nil => simp [getA] at h
  | cons e r ih =>
    simp only [getA] at h
    split at h
    · rename_i he
      cases h; subst he; simp
    · exact List.mem_cons_of_mem _ (ih h)
theorem getA_of_mem {α : Type} {a : List (ByteArray × α)} {k : ByteArray} {x : α} (hd : (a.map (·.1)).Nodup) (h : (k, x) ∈ a) : getA a k = some x := by
  induction a with
  | nil => simp at h
  | cons e r ih =>
    simp only [List.map_cons, List.nodup_cons] at hd
    simp only [getA]
    rcases List.mem_cons.1 h with rfl | h
    · simp
    · have : e.1 ≠ k := fun he => hd.1 (by rw [he]; exact List.mem_map_of_mem (f := (·.1)) h)
      rw [if_neg this, ih hd.2 h]
theorem getA_putA {α : Type} (m : List (ByteArray × α)) (k : ByteArray) (x : α) (k' : ByteArray) : getA (putA m k x) k' = if k = k' then some x else getA m k' := by
  induction m with
  | nil => simp [putA, getA]
  | cons e r ih =>
    simp only [putA]
    split
    · rename_i he
      simp only [getA, he]
      split <;> rfl
    · rename_i he
      simp only [getA, ih]
      by_cases h : e.1 = k'
      · rw [if_pos h, if_neg (fun e' => he (by rw [h, e'])), if_pos h]
      · rw [if_neg h, if_neg h]
theorem putA_keys {α : Type} (m : List (ByteArray × α)) (k : ByteArray) (x : α) {y : ByteArray} (h : y ∈ (putA m k x).map (·.1)) : y = k ∨ y ∈ m.map (·.1) := by
  induction m with
  | nil => simp [putA] at h; exact .inl h
  | cons e r ih =>
    simp only [putA] at h
    split at h
    · rename_i he
      simp only [List.map_cons, List.mem_cons] at h
      rcases h with h | h
      · exact .inl h
      · exact .inr (by simp [h])
    · simp only [List.map_cons, List.mem_cons] at h
      rcases h with h | h
      · exact .inr (by simp [h])
      · rcases ih h with h | h
        · exact .inl h
        · exact .inr (List.mem_cons_of_mem _ h)
theorem putA_nodup {α : Type} {m : List (ByteArray × α)} (h : (m.map (·.1)).Nodup) (k : ByteArray) (x : α) : ((putA m k x).map (·.1)).Nodup := by
  induction m with
  | nil => simp [putA]
  | cons e r ih =>
    simp only [List.map_cons, List.nodup_cons] at h
    simp only [putA]
    split
    · rename_i he
      simp only [List.map_cons, List.nodup_cons]
      exact ⟨by rw [← he]; exact h.1, h.2⟩
    · rename_i he
      simp only [List.map_cons, List.nodup_cons]
      refine ⟨fun hm => ?_, ih h.2⟩
      rcases putA_keys r k x hm with h' | h'
      · exact he h'
      · exact h.1 h'
/-- Two tables in increasing order of the keys that say the same of every key are one. -/
theorem getA_ext {α : Type} : ∀ {a b : List (ByteArray × α)}, Incr (a.map (·.1)) → Incr (b.map (·.1)) → (∀ k, getA a k = getA b k) → a = b
  | [], [], _, _, _ => rfl
  | [], e :: r, _, _, h => by have := h e.1; simp [getA] at this
  | e :: r, [], _, _, h => by have := h e.1; simp [getA] at this
  | (k, x) :: r, (k', y) :: s, ha, hb, h => by
    unfold Incr at ha hb
    simp only [List.map_cons, List.pairwise_cons] at ha hb
    have hr : ∀ {z : ByteArray}, (z = k ∨ blt z k = true) → getA r z = none := fun {z} hz => getA_none fun e he heq => by
      have h1 := ha.1 e.1 (List.mem_map_of_mem he)
      rw [heq] at h1
      rcases hz with rfl | hz
      · rw [blt_irrefl] at h1; cases h1
      · have := blt_trans h1 hz; rw [blt_irrefl] at this; cases this
    have hs : ∀ {z : ByteArray}, (z = k' ∨ blt z k' = true) → getA s z = none := fun {z} hz => getA_none fun e he heq => by
      have h1 := hb.1 e.1 (List.mem_map_of_mem he)
      rw [heq] at h1
      rcases hz with rfl | hz
      · rw [blt_irrefl] at h1; cases h1
      · have := blt_trans h1 hz; rw [blt_irrefl] at this; cases this
    have hk : k = k' := by
      by_cases e : k = k'
      · exact e
      · exfalso
        have e' : ¬ k' = k := fun h => e h.symm
        have h1 := h k
        have h2 := h k'
        simp only [getA, if_true, if_neg e, if_neg e'] at h1 h2
        cases hb1 : blt k k' with
        | true => rw [hs (.inr hb1)] at h1; cases h1
        | false =>
          cases hb2 : blt k' k with
          | true => rw [hr (.inr hb2)] at h2; cases h2
          | false => exact e (blt_total hb1 hb2)
    subst hk
    have h1 := h k
    simp only [getA, if_true, Option.some.injEq] at h1
    subst h1
    have := getA_ext (a := r) (b := s) ha.2 hb.2 (fun z => by
      by_cases e : k = z
      · subst e; rw [hr (.inl rfl), hs (.inl rfl)]
      · have := h z
        simpa only [getA, if_neg e] using this)
    rw [this]
/-- A plain map's value under a key. -/
def getF (m : GV) (k : ByteArray) : Option GV := getA (m.keys.zip m.l) k
theorem zip_fst {α β : Type} : ∀ {a : List α} {b : List β}, a.length = b.length → (a.zip b).map (·.1) = a
  | [], [], _ => rfl
  | _ :: _, _ :: _, h => by simp [zip_fst (by simpa using h)]
theorem zip_snd {α β : Type} : ∀ {a : List α} {b : List β}, a.length = b.length → (a.zip b).map (·.2) = b
  | [], [], _ => rfl
  | _ :: _, _ :: _, h => by simp [zip_snd (by simpa using h)]
theorem plain_ext {a b : GV} (ha : Plain a) (hb : Plain b) (h : ∀ k, getF a k = getF b k) : a = b := by
  obtain ⟨ks, l, rfl, hi, hl⟩ := ha
  obtain ⟨ks', l', rfl, hi', hl'⟩ := hb
  have := getA_ext (a := ks.zip l) (b := ks'.zip l') (by rw [zip_fst hl]; exact hi) (by rw [zip_fst hl']; exact hi') h
  have e1 := congrArg (List.map (·.1)) this
  have e2 := congrArg (List.map (·.2)) this
  rw [zip_fst hl, zip_fst hl'] at e1
  rw [zip_snd hl, zip_snd hl'] at e2
  rw [e1, e2]
theorem insL_zip {α : Type} {ks : List ByteArray} {l : List α} (hl : ks.length = l.length) (k : ByteArray) (x : α) : (insL ks ks k k).zip (insL ks l k x) = insL ks (ks.zip l) k (k, x) := by
  unfold insL
  have h1 : (ks.take (lb ks k)).length = (l.take (lb ks k)).length := by simp [hl]
  rw [List.zip_append (by simp [hl]), List.zip_append h1]
  have ht : ∀ n, (ks.take n).zip (l.take n) = (ks.zip l).take n := fun n => by simp only [List.zip, List.take_zipWith]
  have hd : ∀ n, (ks.drop n).zip (l.drop n) = (ks.zip l).drop n := fun n => by simp only [List.zip, List.drop_zipWith]
  rw [ht, hd]
  rfl
theorem getF_with {m : GV} (hm : Plain m) (k : ByteArray) (x : GV) (k' : ByteArray) : getF (withF m k x) k' = if k = k' then some x else getF m k' := by
  obtain ⟨ks, l, rfl, hi, hl⟩ := hm
  unfold getF withF
  simp only [GV.keys, GV.l]
  rw [insL_zip hl]
  unfold insL
  rw [getA_append, getA_append]
  have hP : (ks.zip l).map (·.1) = ks := zip_fst hl
  by_cases h : k = k'
  · subst h
    rw [getA_none (a := (ks.zip l).take (lb ks k)) (fun e he heq => by
      have h1 : e.1 ∈ ks.take (lb ks k) := by
        have := List.mem_map_of_mem (f := (·.1)) he
        rwa [List.map_take, hP] at this
      have := lb_lt h1
      rw [heq, blt_irrefl] at this; cases this)]
    simp [getA]
  · simp only [getA, if_neg h]
    have hsplit : ks.zip l = (ks.zip l).take (lb ks k) ++ ((ks.zip l).drop (lb ks k)).take (if hasAt ks k then 1 else 0) ++ (ks.zip l).drop (lb ks k + if hasAt ks k then 1 else 0) := by
      rw [List.append_assoc, ← List.drop_drop, List.take_append_drop, List.take_append_drop]
    conv => rhs; rw [hsplit]
    rw [getA_append, getA_append]
    have hmid : getA (((ks.zip l).drop (lb ks k)).take (if hasAt ks k then 1 else 0)) k' = none := by
      refine getA_none fun e he heq => ?_
      cases hh : hasAt ks k with
      | false => rw [hh] at he; simp at he
      | true =>
        rw [hh] at he
        unfold hasAt at hh
        simp only [decide_eq_true_eq] at hh
        have h2 := List.mem_map_of_mem (f := (·.1)) he
        rw [List.map_take, List.map_drop, hP] at h2
        simp only [if_true] at h2
        obtain ⟨i, hi'⟩ := List.getElem?_of_mem h2
        rw [List.getElem?_take] at hi'
        split at hi'
        · rename_i hi1
          have : i = 0 := by omega
          subst this
          rw [List.getElem?_drop, Nat.add_zero, hh] at hi'
          cases hi'
          exact h heq
        · cases hi'
    rw [hmid]
theorem getF_gMap (k : ByteArray) : getF gMap k = none := rfl
mutual
/-- The value of a tree. -/
def unJ : JV → GV
  | .null => gNull
  | .bool b => gv 1 (if b then 1 else 0) 0 ByteArray.empty
  | .int n => gv 2 n 0 ByteArray.empty
  | .flt f => gv 3 0 f ByteArray.empty
  | .str s => gv 4 0 0 s
  | .list l => .mk 5 0 0 ByteArray.empty [] (unJs l)
  | .map m => unM m gMap
def unJs : List JV → List GV
  | [] => []
  | x :: r => unJ x :: unJs r
def unM : List (ByteArray × JV) → GV → GV
  | [], acc => acc
  | x :: r, acc => unM r (withF acc x.1 (unJ x.2))
end
theorem unM_plain : ∀ (m : List (ByteArray × JV)) (g : GV), Plain g → Plain (unM m g)
  | [], g, h => by simpa [unM] using h
  | x :: r, g, h => by
    simp only [unM]
    exact unM_plain r _ (withF_plain h _ _)
theorem getF_unM : ∀ (m : List (ByteArray × JV)) (g : GV), Plain g → (m.map (·.1)).Nodup → ∀ k, getF (unM m g) k = ((getA m k).map unJ).or (getF g k)
  | [], g, h, _, k => by simp [unM, getA]
  | x :: r, g, h, hd, k => by
    simp only [List.map_cons, List.nodup_cons] at hd
    simp only [unM]
    rw [getF_unM r _ (withF_plain h _ _) hd.2, getF_with h]
    simp only [getA]
    by_cases e : x.1 = k
    · have : getA r k = none := getA_none fun y hy hyk => hd.1 (by rw [e, ← hyk]; exact List.mem_map_of_mem (f := (·.1)) hy)
      rw [if_pos e, if_pos e, this]; simp
    · rw [if_neg e, if_neg e]
theorem unM_put {m : List (ByteArray × JV)} (hd : (m.map (·.1)).Nodup) {g : GV} (hg : Plain g) (k : ByteArray) (j : JV) : unM (putA m k j) g = withF (unM m g) k (unJ j) := by
  refine plain_ext (unM_plain _ _ hg) (withF_plain (unM_plain _ _ hg) _ _) fun z => ?_
  rw [getF_unM _ _ hg (putA_nodup hd _ _), getF_with (unM_plain _ _ hg), getF_unM _ _ hg hd, getA_putA]
  by_cases e : k = z
  · rw [if_pos e, if_pos e]; simp
  · rw [if_neg e, if_neg e]
theorem unM_plainM : ∀ (ks : List ByteArray) (l : List GV) (acc : List (ByteArray × JV)), (∀ y ∈ l, unJ (plainJ y) = cleanV y) → (acc.map (·.1)).Nodup → unM (plainM ks l acc) gMap = cleanM ks l (unM acc gMap) ∧ ((plainM ks l acc).map (·.1)).Nodup
  | [], l, acc, _, hd => by simp only [plainM, cleanM]; exact ⟨trivial, hd⟩
  | _ :: _, [], acc, _, hd => by simp only [plainM, cleanM]; exact ⟨trivial, hd⟩
  | k :: ks, x :: l, acc, ih, hd => by
    simp only [plainM, cleanM]
    have := unM_plainM ks l (putA acc k (plainJ x)) (fun y hy => ih y (by simp [hy])) (putA_nodup hd _ _)
    rw [unM_put hd gMap_plain, ih x (by simp)] at this
    exact this
theorem unJs_plainJs : ∀ (l : List GV), (∀ y ∈ l, unJ (plainJ y) = cleanV y) → unJs (plainJs l) = cleanL l
  | [], _ => by simp [unJs, plainJs, cleanL]
  | x :: l, ih => by
    simp only [unJs, plainJs, cleanL]
    rw [ih x (by simp), unJs_plainJs l (fun y hy => ih y (by simp [hy]))]
/-- A tree made of a value, taken apart: the value's plain form. -/
theorem un_plain : ∀ x : GV, unJ (plainJ x) = cleanV x
  | .mk k n f s ks l => by
    have ih : ∀ y ∈ l, unJ (plainJ y) = cleanV y := fun y hy => un_plain y
    unfold plainJ cleanV
    by_cases h1 : k = 1
    · simp only [h1, if_true, unJ, gv]
      by_cases hn : n = 0 <;> simp [hn]
    by_cases h2 : k = 2
    · simp [h2, unJ, gv]
    by_cases h3 : k = 3
    · simp [h3, unJ, gv]
    by_cases h4 : k = 4
    · simp [h4, unJ, gv]
    by_cases h5 : k = 5
    · simp [h5, unJ, unJs_plainJs l ih]
    by_cases h6 : k = 6
    · have := (unM_plainM ks l [] ih (by simp)).1
      simp only [unM] at this
      unfold gMap at this
      simp [h6, unJ, gMap, this]
    simp [h1, h2, h3, h4, h5, h6, unJ]
termination_by x => SizeOf.sizeOf x
decreasing_by
  have := List.sizeOf_lt_of_mem hy
  simp; omega
mutual
/-- In every map of the tree each key stands once, and nothing is beyond memory. -/
def JOk : JV → Prop
  | .list l => l.length * 88 ≤ 140737488351232 ∧ JOks l
  | .map m => (m.map (·.1)).Nodup ∧ m.length * 88 ≤ 140737488351232 ∧ JOkm m
  | _ => True
def JOks : List JV → Prop
  | [] => True
  | x :: r => JOk x ∧ JOks r
def JOkm : List (ByteArray × JV) → Prop
  | [] => True
  | x :: r => JOk x.2 ∧ JOkm r
end
theorem JOkm_put : ∀ (m : List (ByteArray × JV)) (k : ByteArray) (j : JV), JOkm m → JOk j → JOkm (putA m k j)
  | [], k, j, _, hj => by simp [putA, JOkm, hj]
  | e :: r, k, j, h, hj => by
    simp only [JOkm] at h
    simp only [putA]
    split
    · simp only [JOkm]; exact ⟨hj, h.2⟩
    · simp only [JOkm]; exact ⟨h.1, JOkm_put r k j h.2 hj⟩
theorem plainM_ok : ∀ (ks : List ByteArray) (l : List GV) (acc : List (ByteArray × JV)), (∀ y ∈ l, JOk (plainJ y)) → JOkm acc → JOkm (plainM ks l acc)
  | [], l, acc, _, h => by simpa only [plainM] using h
  | _ :: _, [], acc, _, h => by simpa only [plainM] using h
  | k :: ks, x :: l, acc, ih, h => by
    simp only [plainM]
    exact plainM_ok ks l _ (fun y hy => ih y (by simp [hy])) (JOkm_put acc k _ h (ih x (by simp)))
theorem plainJs_ok : ∀ (l : List GV), (∀ y ∈ l, JOk (plainJ y)) → JOks (plainJs l)
  | [], _ => by simp [plainJs, JOks]
  | x :: l, ih => by
    simp only [plainJs, JOks]
    exact ⟨ih x (by simp), plainJs_ok l (fun y hy => ih y (by simp [hy]))⟩
theorem plainM_len : ∀ (ks : List ByteArray) (l : List GV) (acc : List (ByteArray × JV)), (plainM ks l acc).length ≤ acc.length + l.length
  | [], l, acc => by simp [plainM]
  | _ :: _, [], acc => by simp [plainM]
  | k :: ks, x :: l, acc => by
    simp only [plainM]
    have := plainM_len ks l (putA acc k (plainJ x))
    have := putA_length acc k (plainJ x)
    simp only [List.length_cons]; omega
mutual
/-- Nothing in the value is beyond memory. -/
def GOk : GV → Prop
  | .mk _ _ _ _ _ l => l.length * 88 ≤ 140737488351232 ∧ GOks l
def GOks : List GV → Prop
  | [] => True
  | x :: r => GOk x ∧ GOks r
end
theorem GOks_mem : ∀ {l : List GV}, GOks l → ∀ y ∈ l, GOk y
  | x :: r, h, y, hy => by
    simp only [GOks] at h
    rcases List.mem_cons.1 hy with rfl | hy
    · exact h.1
    · exact GOks_mem h.2 y hy
mutual
theorem IsV.gok {w : World} {S : Nat → Prop} : ∀ (x : GV) {v : Value}, IsV w S x v → GOk x
  | .mk k n f s ks l, v, h => by
    unfold IsV at h
    obtain ⟨vk, a, c, _, _, _, _, _, _, _, hz, hl⟩ := h
    unfold GOk
    refine ⟨hz, ?_⟩
    rcases hl with rfl | ⟨b, o, _, _, hv⟩
    · simp [GOks]
    · exact IsVs.gok l hv
theorem IsVs.gok {w : World} {S : Nat → Prop} : ∀ (l : List GV) {b o : Nat}, IsVs w S l b o → GOks l
  | [], _, _, _ => by simp [GOks]
  | x :: r, b, o, h => by
    unfold IsVs at h
    obtain ⟨⟨c0, c1, c2, c3, c4, c5, _, _, _, _, _, _, hx⟩, hr⟩ := h
    unfold GOks
    exact ⟨IsV.gok x hx, IsVs.gok r hr⟩
end
theorem plain_ok : ∀ x : GV, GOk x → JOk (plainJ x)
  | .mk k n f s ks l, hg => by
    unfold GOk at hg
    have ih : ∀ y ∈ l, JOk (plainJ y) := fun y hy => plain_ok y (GOks_mem hg.2 y hy)
    unfold plainJ
    split
    · simp [JOk]
    split
    · simp [JOk]
    split
    · simp [JOk]
    split
    · simp [JOk]
    split
    · simp only [JOk]; exact ⟨by rw [plainJs_length]; exact hg.1, plainJs_ok l ih⟩
    split
    · simp only [JOk]; exact ⟨(unM_plainM ks l [] (fun y _ => un_plain y) (by simp)).2, by have := plainM_len ks l []; simp only [List.length_nil] at this; omega, plainM_ok ks l [] ih (by simp [JOkm])⟩
    · simp [JOk]
termination_by x => SizeOf.sizeOf x
decreasing_by
  have := List.sizeOf_lt_of_mem hy
  simp; omega
end Go.Proofs.YtbbacpdbbmjblaaGreat
end
section
namespace Go.Proofs.YtbbacpdbbmjblaaGreat
open Go.RowKit
set_option linter.unusedSimpArgs false
theorem JOks_mem : ∀ {l : List JV}, JOks l → ∀ y ∈ l, JOk y
  | x :: r, h, y, hy => by
    simp only [JOks] at h
    rcases List.mem_cons.1 hy with rfl | hy
    · exact h.1
    · exact JOks_mem h.2 y hy
end Go.Proofs.YtbbacpdbbmjblaaGreat
end
section
namespace Go.Proofs.YtbbacpdbbmjblaaGreat
open Go.RowKit
set_option linter.unusedSimpArgs false
theorem JOkm_mem : ∀ {m : List (ByteArray × JV)}, JOkm m → ∀ x ∈ m, JOk x.2
  | x :: r, h, y, hy => by
    simp only [JOkm] at h
    rcases List.mem_cons.1 hy with rfl | hy
    · exact h.1
    · exact JOkm_mem h.2 y hy
end Go.Proofs.YtbbacpdbbmjblaaGreat
end
section
set_option linter.unusedVariables false
namespace Go.Proofs.YtbbacpdbbmjblaaGreat
open Go.RowKit
def pdS (ks : List ByteArray) : List PD := ks.map fun k => .val (.string k)
mutual
def pdV : GV → PD
  | .mk k n f s ks l => .agg [.val (.int .i64 k), .val (.int .i64 n), .val (.float .f64 f), .val (.string s), .sl 1 16 (pdS ks), .sl 6 88 (pdVs l)]
def pdVs : List GV → List PD
  | [] => []
  | x :: r => pdV x :: pdVs r
end
theorem pdV_eq (x : GV) : pdV x = .agg [.val (.int .i64 x.kind), .val (.int .i64 x.n), .val (.float .f64 x.f), .val (.string x.s), .sl 1 16 (pdS x.keys), .sl 6 88 (pdVs x.l)] := by
  cases x; unfold pdV; rfl
theorem pdVs_eq (l : List GV) : pdVs l = l.map pdV := by
  induction l with
  | nil => unfold pdVs; rfl
  | cons x r ih => unfold pdVs; rw [ih]; rfl
theorem pdVs_len (l : List GV) : (pdVs l).length = l.length := by rw [pdVs_eq]; simp
theorem pdS_len (l : List ByteArray) : (pdS l).length = l.length := by simp [pdS]
theorem pdVs_at {l : List GV} {i : Nat} {x : GV} (h : l[i]? = some x) : (pdVs l)[i]? = some (pdV x) := by rw [pdVs_eq]; simp [h]
theorem pdS_at {l : List ByteArray} {i : Nat} {x : ByteArray} (h : l[i]? = some x) : (pdS l)[i]? = some (.val (.string x)) := by simp [pdS, h]
section
variable {w : World} {F : Nat → Prop}
theorem repL_strs {b : Nat} : ∀ {ks : List ByteArray} {o : Nat}, RepL w F 1 (pdS ks) b o ↔ ((∀ s ∈ ks, s.size ≤ maxLen) ∧ ∀ i k, ks[i]? = some k → w.cell? ⟨b, o + i, none⟩ = some (.string k))
  | [], o => by simp [pdS, RepL]
  | k :: r, o => by
    have ih := repL_strs (b := b) (ks := r) (o := o + 1)
    simp only [pdS, List.map_cons] at ih ⊢
    unfold RepL
    rw [ih]
    constructor
    · rintro ⟨⟨u, hu, hn, h1, hl⟩, h2, h3⟩
      unfold Rep at hu
      obtain ⟨rfl, hok⟩ := hu
      refine ⟨fun s hs => ?_, fun i k' hi => ?_⟩
      · rcases List.mem_cons.1 hs with rfl | hs
        · exact hok
        · exact h2 s hs
      · cases i with
        | zero => simp at hi; subst hi; exact hl 0 _ rfl
        | succ i =>
          have := h3 i k' (by simpa using hi)
          rwa [show o + 1 + i = o + (i + 1) by omega] at this
    · rintro ⟨h2, h3⟩
      refine ⟨⟨.string k, ?_, rfl, by simp [Value.cells, Value.oneCell'], fun j u hj => ?_⟩, fun s hs => h2 s (List.mem_cons_of_mem _ hs), fun i k' hi => ?_⟩
      · unfold Rep; exact ⟨rfl, h2 k List.mem_cons_self⟩
      · cases j with
        | zero => simp [Value.cells] at hj; subst hj; exact h3 0 k rfl
        | succ j => simp [Value.cells] at hj
      · have := h3 (i + 1) k' (by simpa using hi)
        rwa [show o + (i + 1) = o + 1 + i by omega] at this
theorem rep_strs {ks : List ByteArray} {v : Value} : Rep w F (.sl 1 16 (pdS ks)) v ↔ IsStrs w F v ks := by
  unfold Rep IsStrs
  rw [pdS_len]
  constructor
  · rintro ⟨a, c, rfl, h1, h2, h3, h4⟩
    rcases h4 with h4 | ⟨b, o, hF, rfl, hr⟩
    · have : ks = [] := by cases ks <;> simp_all [pdS]
      subst this
      exact ⟨a, c, rfl, h1, h2, by simp, fun h => by simp at h⟩
    · have := repL_strs.1 hr
      exact ⟨_, c, rfl, h1, h2, this.1, fun _ => ⟨b, o, hF, rfl, fun i hi => this.2 i _ (by simp [List.getD, hi])⟩⟩
  · rintro ⟨a, c, rfl, h1, h2, h3, h4⟩
    refine ⟨a, c, rfl, h1, h2, by omega, ?_⟩
    by_cases h : 0 < ks.length
    · obtain ⟨b, o, hF, rfl, hc⟩ := h4 h
      refine .inr ⟨b, o, hF, rfl, repL_strs.2 ⟨h3, fun i k hi => ?_⟩⟩
      have hlt := (List.getElem?_eq_some_iff.1 hi).1
      rw [hc i hlt]
      simp [List.getD, hi]
    · left; have : ks = [] := List.eq_nil_of_length_eq_zero (by omega)
      subst this; rfl
mutual
theorem isV_rep : ∀ (x : GV) {v : Value}, IsV w F x v → Rep w F (pdV x) v
  | .mk k n f s ks l, v, h => by
    unfold IsV at h
    obtain ⟨vk, a, c, rfl, h1, h2, h3, h4, h5, h6, h7, h8⟩ := h
    unfold pdV Rep
    refine ⟨[.int .i64 k, .int .i64 n, .float .f64 f, .string s, vk, .slice a l.length c], rfl, ?_, ?_⟩
    · have e5 := rep_strs.2 h5
      have e6 : Rep w F (.sl 6 88 (pdVs l)) (.slice a l.length c) := by
        unfold Rep
        rw [pdVs_len]
        refine ⟨a, c, rfl, h6, h7, by omega, ?_⟩
        rcases h8 with rfl | ⟨b, o, hF, rfl, hv⟩
        · left; unfold pdVs; rfl
        · exact .inr ⟨b, o, hF, rfl, isVs_repL l hv⟩
      simp only [Reps]
      exact ⟨_, _, rfl, by unfold Rep; exact ⟨rfl, h1⟩, _, _, rfl, by unfold Rep; exact ⟨rfl, h2⟩, _, _, rfl, by unfold Rep; exact ⟨rfl, h3⟩, _, _, rfl, by unfold Rep; exact ⟨rfl, h4⟩, _, _, rfl, e5, _, _, rfl, e6, rfl⟩
    · obtain ⟨a0, c0, rfl, _⟩ := h5
      simp [Value.oneCell']
theorem isVs_repL : ∀ (l : List GV) {b o : Nat}, IsVs w F l b o → RepL w F 6 (pdVs l) b o
  | [], b, o, _ => by unfold pdVs RepL; trivial
  | x :: r, b, o, h => by
    unfold IsVs at h
    obtain ⟨⟨c0, c1, c2, c3, c4, c5, g0, g1, g2, g3, g4, g5, hx⟩, hr⟩ := h
    have hx' := isV_rep x hx
    unfold pdVs RepL
    refine ⟨⟨_, hx', by simp [Value.cells], ?_, fun j u hj => ?_⟩, isVs_repL r hr⟩
    · obtain ⟨a0, d0, a1, d1, e⟩ := hx.form
      rw [e]; simp [Value.cells, Value.oneCell']
    · simp only [Value.cells] at hj
      match j, hj with
      | 0, hj => simp at hj; subst hj; exact g0
      | 1, hj => simp at hj; subst hj; exact g1
      | 2, hj => simp at hj; subst hj; exact g2
      | 3, hj => simp at hj; subst hj; exact g3
      | 4, hj => simp at hj; subst hj; exact g4
      | 5, hj => simp at hj; subst hj; exact g5
      | j + 6, hj => simp at hj
end
mutual
theorem rep_isV : ∀ (x : GV) {v : Value}, Rep w F (pdV x) v → IsV w F x v
  | .mk k n f s ks l, v, h => by
    unfold pdV Rep at h
    obtain ⟨vs, rfl, hr, h1⟩ := h
    simp only [Reps] at hr
    obtain ⟨v0, _, rfl, e0, v1, _, rfl, e1, v2, _, rfl, e2, v3, _, rfl, e3, v4, _, rfl, e4, v5, _, rfl, e5, rfl⟩ := hr
    unfold Rep at e0 e1 e2 e3
    obtain ⟨rfl, w0⟩ := e0
    obtain ⟨rfl, w1⟩ := e1
    obtain ⟨rfl, w2⟩ := e2
    obtain ⟨rfl, w3⟩ := e3
    have e4' := rep_strs.1 e4
    unfold Rep at e5
    rw [pdVs_len] at e5
    obtain ⟨a, c, rfl, h5, h6, _, h7⟩ := e5
    unfold IsV
    refine ⟨v4, a, c, rfl, w0, w1, w2, w3, e4', h5, h6, ?_⟩
    rcases h7 with h7 | ⟨b, o, hF, rfl, hv⟩
    · left; cases l with | nil => rfl | cons _ _ => unfold pdVs at h7; cases h7
    · exact .inr ⟨b, o, hF, rfl, repL_isVs l hv⟩
theorem repL_isVs : ∀ (l : List GV) {b o : Nat}, RepL w F 6 (pdVs l) b o → IsVs w F l b o
  | [], b, o, _ => by unfold IsVs; trivial
  | x :: r, b, o, h => by
    unfold pdVs RepL at h
    obtain ⟨⟨u, hu, hn, h1, hl⟩, hr⟩ := h
    have hv := rep_isV x hu
    obtain ⟨a0, d0, a1, d1, e⟩ := hv.form
    subst e
    unfold IsVs
    simp only [Value.cells] at hl
    exact ⟨⟨_, _, _, _, _, _, hl 0 _ rfl, hl 1 _ rfl, hl 2 _ rfl, hl 3 _ rfl, hl 4 _ rfl, hl 5 _ rfl, hv⟩, repL_isVs r hr⟩
end
theorem isV_arg {x : GV} {v : Value} (h : Rep w F (pdV x) v) (hF : ∀ b, F b → b < w.heap.size) : IsV w (Btw 0 w.heap.size) x v := (rep_isV x h).keep (fun _ _ => rfl) (fun b hb => ⟨Nat.zero_le _, hF b hb⟩)
end
section
variable {P : Program} {f : FuncId}
theorem pcall_V1 {x : GV} {y : PD} {R : World → World → Value → Prop} (h : ∀ w v, IsV w (Btw 0 w.heap.size) x v → Calls P f #[v] w fun e w' => ∃ r, e = .returned r ∧ Below w.heap.size w w' ∧ R w w' r)
    (hR : ∀ (w w' : World) (r : Value) (F : Nat → Prop), R w w' r → Rep w' (fun b => F b ∨ (w.heap.size ≤ b ∧ b < w'.heap.size)) y r) : PCall P f [pdV x] y := by
  intro w F vs hF hv
  unfold Reps at hv
  obtain ⟨v, r', rfl, hx, hr⟩ := hv
  unfold Reps at hr
  subst hr
  refine (h w v (isV_arg hx hF)).mono ?_
  rintro e w' ⟨r, he, hb, hRr⟩
  exact ⟨r, he, hb, hR w w' r F hRr⟩
theorem pcall_V1s {x : GV} {u : Value} (hu : okV u) (h : ∀ w v, IsV w (Btw 0 w.heap.size) x v → Calls P f #[v] w fun e w' => e = .returned u ∧ Below w.heap.size w w') : PCall P f [pdV x] (.val u) :=
  pcall_V1 (R := fun _ _ r => r = u) (fun w v hv => (h w v hv).mono fun e w' ⟨h1, h2⟩ => ⟨u, h1, h2, rfl⟩) (fun _ _ r _ e => by unfold Rep; exact ⟨e, hu⟩)
theorem pcall_V1V {x y : GV} (h : ∀ w v, IsV w (Btw 0 w.heap.size) x v → Calls P f #[v] w fun e w' => ∃ r, e = .returned r ∧ Below w.heap.size w w' ∧ IsV w' (Btw w.heap.size w'.heap.size) y r) : PCall P f [pdV x] (pdV y) :=
  pcall_V1 (R := fun w w' r => IsV w' (Btw w.heap.size w'.heap.size) y r) h (fun _ _ _ _ hr => (isV_rep y hr).keep (fun _ _ => rfl) (fun b hb => .inr hb))
end
end Go.Proofs.YtbbacpdbbmjblaaGreat
namespace Go.Proofs.YtbbacpdbbmjblaaGreat
open Go.RowKit
/-- A tree of the package. -/
def pdJ (j : JV) : PD := .opq { rel := fun w F v => IsJ w F j v ∧ JOk j, one := fun _ _ _ h => h.1.oneCell, keep := fun _ _ _ _ _ h hs hv => ⟨IsJ.keep h hs j hv.1, hv.2⟩ }
def nilP : PD := .val (.pointer none)
end Go.Proofs.YtbbacpdbbmjblaaGreat
namespace Go.Proofs.YtbbacpdbbmjblaaGreat
open Go.RowKit
set_option linter.unusedSimpArgs false
set_option maxRecDepth 10000
set_option maxHeartbeats 2000000
end Go.Proofs.YtbbacpdbbmjblaaGreat
namespace Go.Proofs.YtbbacpdbbmjblaaGreat
open Go.RowKit
end Go.Proofs.YtbbacpdbbmjblaaGreat
namespace Go.Proofs.YtbbacpdbbmjblaaGreat
open Go.RowKit
set_option linter.unusedSimpArgs false
set_option maxRecDepth 10000
set_option maxHeartbeats 2000000
def qV (x : GV) : PD := .agg [.val (.int .i64 x.kind), .val (.int .i64 x.n), .val (.float .f64 x.f), .val (.string x.s), .sl 1 16 (pdS x.keys), .sl 6 88 (pdVs x.l)]
end Go.Proofs.YtbbacpdbbmjblaaGreat
namespace Go.Proofs.YtbbacpdbbmjblaaGreat
open Go.RowKit
set_option linter.unusedSimpArgs false
set_option maxRecDepth 10000
set_option maxHeartbeats 2000000
end Go.Proofs.YtbbacpdbbmjblaaGreat
namespace Go.Proofs.YtbbacpdbbmjblaaGreat
open Go.RowKit
end Go.Proofs.YtbbacpdbbmjblaaGreat
namespace Go.Proofs.YtbbacpdbbmjblaaGreat
open Go.RowKit
set_option linter.unusedSimpArgs false
set_option maxRecDepth 10000
set_option maxHeartbeats 2000000
end Go.Proofs.YtbbacpdbbmjblaaGreat
end
section
namespace Go.Proofs.YtbbacpdbbmjblaaGreat
open Go.RowKit
/-- v is the package's value of the tree j: a pointer to a block that holds the tree's interface value. -/
def IsVal (w : World) (S : Nat → Prop) (j : JV) (v : Value) : Prop :=
  ∃ b r, v = .iface 149 (.pointer (some ⟨b, 0, none⟩)) ∧ S b ∧ w.heap[b]? = some (.cells #[r] 177 (0, 0)) ∧ IsJ w S j r
theorem IsVal.keep {w w' : World} {S S' : Nat → Prop} {j : JV} {v : Value} (h : ∀ b, S b → w'.heap[b]? = w.heap[b]?) (hs : ∀ b, S b → S' b) (hv : IsVal w S j v) : IsVal w' S' j v := by
  obtain ⟨b, r, e, hb, hh, hj⟩ := hv
  exact ⟨b, r, e, hs b hb, (h b hb).trans hh, hj.keep h hs⟩
set_option maxRecDepth 100000 in
theorem allocVU_any (p : Option Addr) (w : World) : Calls Tryz.prog 107 #[.pointer p] w fun e w' =>
    e = .returned (.pointer (some ⟨w.heap.size, 0, none⟩)) ∧ w' = w.alloc (.cells #[.nilIface] 177) := by
  go_enter Tryz.func107, Tryz.ntmps107
  go_wp2_with fail
  go_ret
  exact ⟨rfl, rfl⟩
set_option maxRecDepth 100000 in
theorem reuse_any (b : Nat) (u r : Value) (w : World) (hb : w.heap[b]? = some (.cells #[u] 177 (0, 0))) (hr : r.oneCell' = true) :
    Calls Tryz.prog 108 #[.pointer (some ⟨b, 0, none⟩), r] w fun e w' =>
      e = .returned (.iface 149 (.pointer (some ⟨b, 0, none⟩))) ∧ w' = w.setCell ⟨b, 0, none⟩ r := by
  have hcl : r.cells = #[r] := by cases r <;> first | rfl | (simp [Value.oneCell'] at hr)
  have hc : w.cell? ⟨b, 0, none⟩ = some u := by rw [cell_of_row w b 0 _ _ _ hb]; rfl
  have hf : w.frozen? ⟨b, 0, none⟩ = false := by simp [World.frozen?, hb]
  obtain ⟨i0, hi, hz0, hz1, hz2⟩ := info_parts Tryz.infoAny
  have HCL := Lib.hid hcl; have HR := Lib.hid hr
  clear hb hr hcl
  go_enter Tryz.func108, Tryz.ntmps108
  go_wp2_with (refine wpList_store_one rfl 20 _ _ rfl ⟨b, 0, none⟩ rfl r rfl i0 hi hz1 HR.out HCL.out _ hc hf ?_)
  go_ret
  exact ⟨rfl, rfl⟩
set_option maxRecDepth 100000 in
theorem newVI_any (r : Value) (w : World) (hr : r.oneCell' = true) : Calls Tryz.prog 77 #[r] w fun e w' =>
    e = .returned (.iface 149 (.pointer (some ⟨w.heap.size + 1, 0, none⟩))) ∧ w' = (w.alloc (.cells #[] 152)).alloc (.cells #[r] 177) := by
  go_enter Tryz.func77, Tryz.ntmps77
  go_wp2_with fail
  refine (allocVU_any _ _).mono ?_
  rintro e w1 ⟨rfl, rfl⟩
  go_wp2_with (go_at_call 108; refine (reuse_any (w.heap.size + 1) .nilIface r _ ?_ hr).mono ?_)
  · exact new_block (by simp)
  · rintro e w2 ⟨rfl, rfl⟩
    go_wp2_with fail
    go_ret
    exact ⟨rfl, rfl⟩
set_option maxRecDepth 100000 in
theorem toValue_any (x : GV) (w : World) (v : Value) (hv : IsV w (Btw 0 w.heap.size) x v) :
    Calls Tryz.prog 43 #[v] w fun e w' => ∃ r, e = .returned r ∧ Below w.heap.size w w' ∧ IsVal w' (Btw w.heap.size w'.heap.size) (plainJ x) r := by
  obtain ⟨a0, c0, a1, c1, rfl⟩ := hv.form
  have hv1 := IsV.keep (S := Btw 0 w.heap.size) (S' := Btw 0 (w.heap.size + 1)) (w' := w.alloc (.cells #[.int .i64 x.kind, .int .i64 x.n, .float .f64 x.f, .string x.s, .slice a0 x.keys.length c0, .slice a1 x.l.length c1] 27))
        (fun b hb => Below.heap_alloc _ _ _ hb.2) (Btw.mono (Nat.le_refl _) (by omega)) _ hv
  clear hv
  go_enter Tryz.func43, Tryz.ntmps43
  go_wp2_with (go_at_call 78; (with_reducible refine ((plain_any x).use _ _ (by simpa using hv1)).mono ?_))
  rintro e w2 ⟨r, rfl, hB2, hr⟩
  go_wp2_with (go_at_call 77; refine (newVI_any r w2 hr.oneCell).mono ?_)
  rintro e w3 ⟨rfl, rfl⟩
  have hs := hB2.size
  go_wp2_with fail
  go_ret
  have hB3 : Below w.heap.size w ((w2.alloc (.cells #[] 152)).alloc (.cells #[r] 177)) :=
    (((((Below.refl _ _).alloc (Nat.le_refl _) _).trans (hB2.mono (by simp))).alloc (by simp at hs; omega) _).alloc (by simp at hs ⊢; omega) _)
  refine ⟨_, rfl, hB3, w2.heap.size + 1, r, rfl, ⟨by simp at hs; omega, by simp⟩, new_block (by simp), ?_⟩
  refine IsJ.keep (fun b hb => ?_) (Btw.mono (by simp) (by simp; omega)) _ hr
  have := hb.2
  exact (Below.heap_alloc _ _ _ (by simp; omega)).trans (Below.heap_alloc _ _ _ (by omega))
end Go.Proofs.YtbbacpdbbmjblaaGreat
end
section
namespace Go.Proofs.YtbbacpdbbmjblaaGreat
open Go.RowKit
/-- An impl.Elem as data. -/
structure EV where
  kind : Int
  s : ByteArray
  keys : List ByteArray
  l : List GV
  v : GV
  n : Int
/-- The struct value u holds the impl.Elem x; all cells behind it lie in blocks of S. -/
def IsE (w : World) (S : Nat → Prop) (x : EV) (u : Value) : Prop :=
  ∃ ak ck a c c0 c1 c2 c3 c4 c5, u = .agg #[.int .i64 x.kind, .string x.s, .slice ak x.keys.length ck, .slice a x.l.length c, c0, c1, c2, c3, c4, c5, .int .i64 x.n] ∧
    (Lit.int .i64 x.kind).wf = true ∧ (Lit.int .i64 x.n).wf = true ∧ x.s.size ≤ maxLen ∧
    IsStrs w S (.slice ak x.keys.length ck) x.keys ∧ x.l.length ≤ c ∧ x.l.length * 88 ≤ 140737488351232 ∧ (x.l = [] ∨ ∃ b o, S b ∧ a = some ⟨b, o, none⟩ ∧ IsVs w S x.l b o) ∧
    IsV w S x.v (.agg #[c0, c1, c2, c3, c4, c5])
theorem IsE.keep {w w' : World} {S S' : Nat → Prop} (h : ∀ b, S b → w'.heap[b]? = w.heap[b]?) (hs : ∀ b, S b → S' b) {x : EV} {u : Value} (hx : IsE w S x u) : IsE w' S' x u := by
  obtain ⟨ak, ck, a, c, c0, c1, c2, c3, c4, c5, e, h1, h2, h3, hk, h5, h6, hl, hv⟩ := hx
  refine ⟨ak, ck, a, c, c0, c1, c2, c3, c4, c5, e, h1, h2, h3, hk.keep h hs, h5, h6, ?_, IsV.keep h hs _ hv⟩
  rcases hl with hl | ⟨b, o, hb, ha, hl⟩
  · exact .inl hl
  · exact .inr ⟨b, o, hs b hb, ha, IsVs.keep h hs _ b o hb hl⟩
theorem IsE.alloc_ {w : World} {lo : Nat} {x : EV} {u : Value} (h : IsE w (Btw lo w.heap.size) x u) (o : Obj) : IsE (w.alloc o) (Btw lo (w.alloc o).heap.size) x u :=
  h.keep (fun b hb => Below.heap_alloc _ _ _ hb.2) (Btw.mono (Nat.le_refl _) (by simp))
/-- The form of the value. -/
theorem IsE.form {w : World} {S : Nat → Prop} {x : EV} {u : Value} (h : IsE w S x u) : ∃ ak ck a c a0 d0 a1 d1, u = .agg #[.int .i64 x.kind, .string x.s, .slice ak x.keys.length ck, .slice a x.l.length c,
    .int .i64 x.v.kind, .int .i64 x.v.n, .float .f64 x.v.f, .string x.v.s, .slice a0 x.v.keys.length d0, .slice a1 x.v.l.length d1, .int .i64 x.n] := by
  obtain ⟨ak, ck, a, c, c0, c1, c2, c3, c4, c5, rfl, _, _, _, _, _, _, _, hv⟩ := h
  obtain ⟨a0, d0, a1, d1, e⟩ := hv.form
  injection e with e
  injection e with e
  simp only [List.cons.injEq, and_true] at e
  obtain ⟨rfl, rfl, rfl, rfl, rfl, rfl⟩ := e
  exact ⟨ak, ck, a, c, a0, d0, a1, d1, rfl⟩
/-- The value in it. -/
theorem IsE.val {w : World} {S : Nat → Prop} {x : EV} {a b c d c0 c1 c2 c3 c4 c5 n : Value} (h : IsE w S x (.agg #[a, b, c, d, c0, c1, c2, c3, c4, c5, n])) : IsV w S x.v (.agg #[c0, c1, c2, c3, c4, c5]) := by
  obtain ⟨ak, ck, a, c, c0, c1, c2, c3, c4, c5, e, _, _, _, _, _, _, _, hv⟩ := h
  injection e with e
  injection e with e
  simp only [List.cons.injEq, and_true] at e
  obtain ⟨_, _, _, _, rfl, rfl, rfl, rfl, rfl, rfl, _⟩ := e
  exact hv
end Go.Proofs.YtbbacpdbbmjblaaGreat
end
section
namespace Go.Proofs.YtbbacpdbbmjblaaGreat
open Go.RowKit
theorem IsV.vals {w : World} {S : Nat → Prop} {x : GV} {c0 c1 c2 c3 c4 : Value} {a : Option Addr} {n c : Nat} (h : IsV w S x (.agg #[c0, c1, c2, c3, c4, .slice a n c])) : x.l = [] ∨ ∃ b o, S b ∧ a = some ⟨b, o, none⟩ ∧ IsVs w S x.l b o := by
  obtain ⟨k, m, f, s, ks, l⟩ := x
  unfold IsV at h
  obtain ⟨vk, a', c', e, _, _, _, _, _, _, _, hl⟩ := h
  injection e with e
  injection e with e
  simp only [List.cons.injEq, and_true] at e
  obtain ⟨_, _, _, _, _, e⟩ := e
  injection e with e1 _ _
  rw [e1]; exact hl
theorem strs_at {w : World} {S : Nat → Prop} {a : Option Addr} {n c : Nat} {ks : List ByteArray} (h : IsStrs w S (.slice a n c) ks) {i : Nat} {k : ByteArray} (hk : ks[i]? = some k) : ∃ b o, S b ∧ a = some ⟨b, o, none⟩ ∧ w.cell? ⟨b, o + i, none⟩ = some (.string k) := by
  obtain ⟨a', c', e, _, _, _, hc⟩ := h
  injection e with e1 _ _
  subst e1
  have hi := (List.getElem?_eq_some_iff.1 hk).1
  obtain ⟨b, o, hb, ha, hcell⟩ := hc (by omega)
  refine ⟨b, o, hb, ha, ?_⟩
  rw [hcell i hi]; simp [List.getD, hk]
theorem IsV.len {w : World} {S : Nat → Prop} {x : GV} {v : Value} (h : IsV w S x v) : x.l.length * 88 ≤ 140737488351232 := by
  obtain ⟨k, m, f, s, ks, l⟩ := x
  unfold IsV at h
  obtain ⟨_, _, _, _, _, _, _, _, _, _, h, _⟩ := h
  exact h
theorem vals_at {w : World} {S : Nat → Prop} {l : List GV} {a : Option Addr} (h : l = [] ∨ ∃ b o, S b ∧ a = some ⟨b, o, none⟩ ∧ IsVs w S l b o) (hp : 0 < l.length) : ∃ b o, S b ∧ a = some ⟨b, o, none⟩ ∧ IsVs w S l b o :=
  h.resolve_left (fun e => by rw [e] at hp; simp at hp)
end Go.Proofs.YtbbacpdbbmjblaaGreat
end
section
namespace Go.Proofs.YtbbacpdbbmjblaaGreat
open Go.RowKit
set_option linter.unusedSimpArgs false
/-- The cells of a list of fields: a name and a value each. -/
def FCells (w : World) (S : Nat → Prop) : List (ByteArray × JV) → List Value → Prop
  | [], xs => xs = []
  | x :: r, xs => ∃ c r', xs = .string x.1 :: c :: r' ∧ x.1.size ≤ maxLen ∧ IsVal w S x.2 c ∧ FCells w S r r'
section
variable {w w' : World} {S S' : Nat → Prop}
theorem FCells.keep (h : ∀ b, S b → w'.heap[b]? = w.heap[b]?) (hs : ∀ b, S b → S' b) : ∀ {l : List (ByteArray × JV)} {xs : List Value}, FCells w S l xs → FCells w' S' l xs
  | [], _, hv => hv
  | x :: r, _, hv => by
    obtain ⟨c, r', e, hz, hx, hr⟩ := hv
    exact ⟨c, r', e, hz, hx.keep h hs, hr.keep h hs⟩
theorem FCells.app : ∀ {l : List (ByteArray × JV)} {xs : List Value} {l' : List (ByteArray × JV)} {xs' : List Value}, FCells w S l xs → FCells w S l' xs' → FCells w S (l ++ l') (xs ++ xs')
  | [], _, _, _, hv, hv' => by unfold FCells at hv; subst hv; exact hv'
  | x :: r, _, _, _, hv, hv' => by
    obtain ⟨c, r', rfl, hz, hx, hr⟩ := hv
    exact ⟨c, _, rfl, hz, hx, hr.app hv'⟩
theorem FCells.one {k : ByteArray} {j : JV} {c : Value} (hz : k.size ≤ maxLen) (hx : IsVal w S j c) : FCells w S [(k, j)] [.string k, c] := ⟨c, [], rfl, hz, hx, rfl⟩
end
/-- The fields of a key. -/
def flE (x : EV) : List (ByteArray × JV) := x.keys.zip (x.l.map plainJ)
theorem flE_length (x : EV) : (flE x).length = min x.keys.length x.l.length := by simp [flE]
theorem flE_at (x : EV) {i : Nat} {k : ByteArray} {y : GV} (h1 : x.keys[i]? = some k) (h2 : x.l[i]? = some y) : (flE x)[i]? = some (k, plainJ y) := by
  simp [flE, List.getElem?_zip_eq_some, h1, h2]
theorem Tryz.infoField : (Tryz.prog.info? 142).map (fun i => (i.zero, i.size, i.bytes)) = some (some (.agg #[.string ByteArray.empty, .nilIface]), 2, 32) := by kernel_rfl
set_option maxHeartbeats 1000000 in
set_option maxRecDepth 100000 in
theorem toKeys_any (x : EV) (w : World) (v : Value) (hv : IsE w (Btw 0 w.heap.size) x v) :
    Calls Tryz.prog 74 #[v] w fun e w' => ∃ A C xs, e = .returned (.slice A (flE x).length C) ∧ Below w.heap.size w w' ∧
      w'.ownsRow (w.heap.size + 1) 142 2 (.slice A (flE x).length C) (flE x).length xs ∧ FCells w' (fun b => Btw (w.heap.size + 1) w'.heap.size b ∧ (Value.slice A (flE x).length C).ownBlock ≠ some b) (flE x) xs := by
  obtain ⟨i0, hi, hz0, hz1, hz2⟩ := info_parts Tryz.infoField
  obtain ⟨kind, s, ks, l, y, n⟩ := x
  obtain ⟨ak, ck, a, c, c0, c1, c2, c3, c4, c5, rfl, _, _, _, hks, hlc, hl88, hl, hy⟩ := hv
  have hk16 : ks.length * 16 ≤ 140737488351232 := by obtain ⟨_, _, _, _, h, _⟩ := hks; exact h
  have hkz : ∀ k ∈ ks, k.size ≤ maxLen := by obtain ⟨_, _, _, _, _, h, _⟩ := hks; exact h
  obtain ⟨a0, d0, a1, d1, e⟩ := hy.form
  injection e with e
  injection e with e
  simp only [List.cons.injEq, and_true] at e
  obtain ⟨rfl, rfl, rfl, rfl, rfl, rfl⟩ := e
  simp only at hks hl hlc hl88 hk16 ⊢
  clear hy
  go_enter Tryz.func74, Tryz.ntmps74
  go_wp2_with fail
  have b0 := blk_alloc (new_block (w := w) (b := w.heap.size) (o := (.cells #[.int .i64 kind, .string s, .slice ak ks.length ck, .slice a l.length c, .int .i64 y.kind, .int .i64 y.n, .float .f64 y.f, .string y.s, .slice a0 y.keys.length d0, .slice a1 y.l.length d1, .int .i64 n] 29)) rfl) (.cells #[] 142)
  have hB0 := (((Below.refl w.heap.size w).alloc (Nat.le_refl _) (.cells #[.int .i64 kind, .string s, .slice ak ks.length ck, .slice a l.length c, .int .i64 y.kind, .int .i64 y.n, .float .f64 y.f, .string y.s, .slice a0 y.keys.length d0, .slice a1 y.l.length d1, .int .i64 n] 29)).alloc (by simp) (.cells #[] 142))
  have hown0 := World.ownsRow_made (w.alloc (.cells #[.int .i64 kind, .string s, .slice ak ks.length ck, .slice a l.length c, .int .i64 y.kind, .int .i64 y.n, .float .f64 y.f, .string y.s, .slice a0 y.keys.length d0, .slice a1 y.l.length d1, .int .i64 n] 29)) (base := w.heap.size + 1) (e := 142) (size := 2) #[] 0 (by simp) (by decide) rfl
  have hown0' : ((w.alloc (.cells #[.int .i64 kind, .string s, .slice ak ks.length ck, .slice a l.length c, .int .i64 y.kind, .int .i64 y.n, .float .f64 y.f, .string y.s, .slice a0 y.keys.length d0, .slice a1 y.l.length d1, .int .i64 n] 29)).alloc (.cells #[] 142)).ownsRow (w.heap.size + 1) 142 2 (.slice (some ⟨w.heap.size + 1, 0, none⟩) 0 0) 0 [] := by simpa using hown0
  clear hown0
  have hs0 : ((w.alloc (.cells #[.int .i64 kind, .string s, .slice ak ks.length ck, .slice a l.length c, .int .i64 y.kind, .int .i64 y.n, .float .f64 y.f, .string y.s, .slice a0 y.keys.length d0, .slice a1 y.l.length d1, .int .i64 n] 29)).alloc (.cells #[] 142)).heap.size = w.heap.size + 2 := by simp
  generalize (w.alloc (.cells #[.int .i64 kind, .string s, .slice ak ks.length ck, .slice a l.length c, .int .i64 y.kind, .int .i64 y.n, .float .f64 y.f, .string y.s, .slice a0 y.keys.length d0, .slice a1 y.l.length d1, .int .i64 n] 29)).alloc (.cells #[] 142) = w0 at *
  generalize hM : w.heap.size = M at *
  have HM := Lib.hid hM; clear hM
  go_loopw [3, 10] (fun out i wr => ∃ k m A C xs, k ≤ ks.length ∧ m = min k l.length ∧ i = .int .i64 (k : Nat) ∧ out = .slice A m C ∧ 
      wr.ownsRow (M + 1) 142 2 (.slice A m C) m xs ∧ FCells wr (fun b => Btw (M + 1) wr.heap.size b ∧ (Value.slice A m C).ownBlock ≠ some b) ((flE ⟨kind, s, ks, l, y, n⟩).take m) xs ∧ Below M w wr ∧ M + 2 ≤ wr.heap.size ∧
      wr.heap[M]? = some (.cells #[.int .i64 kind, .string s, .slice ak ks.length ck, .slice a l.length c, .int .i64 y.kind, .int .i64 y.n, .float .f64 y.f, .string y.s, .slice a0 y.keys.length d0, .slice a1 y.l.length d1, .int .i64 n] 29))
    (fun _ i _ => ks.length - (intOf i).toNat)
  case atStart => exact ⟨0, 0, _, _, [], Nat.zero_le _, by simp, rfl, rfl, hown0', by simp [FCells], hB0, by omega, b0⟩
  case round =>
    obtain ⟨k, m, A, C, xs, hk, hm, rfl, rfl, hown, hall, hB, hsz, hbox⟩ := hrel
    clear b0 hB0 hown0' hs0
    have s3 : wr.cell? ⟨M, 3, none⟩ = some (.slice a l.length c) := blk_c hbox 3 rfl
    by_cases hlt : k < ks.length
    · obtain ⟨key, hkey⟩ : ∃ key, ks[k]? = some key := ⟨ks[k], by simp [hlt]⟩
      obtain ⟨b0, o0, hb0, rfl, hck0⟩ := strs_at hks hkey
      have hck : wr.cell? ⟨b0, o0 + k, none⟩ = some (.string key) := (hB.cell (by exact hb0.2)).trans hck0
      have hksz : key.size ≤ maxLen := hkz key (List.mem_of_getElem? hkey)
      have HK := Lib.hid hkey
      have j0 : (0 : Int) ≤ (k : Int) := by omega
      have j1 : (k : Int) < (ks.length : Int) := by omega
      clear hkey hck0
      by_cases hll : k < l.length
      · obtain ⟨b, o, hb, rfl, hcells⟩ := vals_at hl (by omega)
        obtain ⟨x, hx⟩ : ∃ x, l[k]? = some x := ⟨l[k], by simp [hll]⟩
        obtain ⟨e0, f0, e1, f1, g0, g1, g2, g3, g4, g5, hxv⟩ := (IsVs.keep (S' := Btw 0 wr.heap.size) (Btw.kept hB) (Btw.mono (Nat.le_refl _) (by omega)) l b o hb hcells).cells hx
        obtain rfl : m = k := by omega
        have HX := Lib.hid hx
        have j2 : (m : Int) < (l.length : Int) := by omega
        clear hx hcells hl hm
        go_wp2_with (go_at_call 43; (with_reducible refine (toValue_any x _ _ hxv).mono ?_))
        rintro e w2 ⟨r, rfl, hB2, hr⟩
        obtain ⟨vb, vr, rfl, hvb, hvh, hvj⟩ := hr
        have hr : IsVal w2 (Btw wr.heap.size w2.heap.size) (plainJ x) (.iface 149 (.pointer (some ⟨vb, 0, none⟩))) := ⟨vb, vr, rfl, hvb, hvh, hvj⟩
        have hsz2 := hB2.size
        have hown2 := own_below hown hB2
        have hownL : ∀ b, (Value.slice A m C).ownBlock = some b → M + 1 ≤ b ∧ b < wr.heap.size := fun b e => hown.lt b e
        have hbox2 := blk_below hbox hB2
        have hall2 : FCells w2 (fun b => Btw (M + 1) w2.heap.size b ∧ (Value.slice A m C).ownBlock ≠ some b) ((flE ⟨kind, s, ks, l, y, n⟩).take m) xs :=
          hall.keep (fun b hb => hB2.block b hb.1.2) (fun b hb => ⟨⟨hb.1.1, by have := hb.1.2; omega⟩, hb.2⟩)
        have hBM : Below M w w2 := hB.trans (hB2.mono (by omega))
        have HH := Lib.hid (And.intro hall2 (And.intro hbox2 (And.intro hBM hr)))
        clear hr hvb hvh hvj hB2 hown hall hB hbox hall2 hbox2 hBM g0 g1 g2 g3 g4 g5 hxv s3 hck
        go_wp2_with (at_builtin; refine wpList_append_s _ rfl _ _ _ rfl (M + 1) 142 i0 _ 2 32 Tryz.underlying115 hi hz0 hz1 hz2 rfl (by decide) (.slice A m C) m xs rfl (hown2.alloc _) (w2.heap.size + 1) (some ⟨w2.heap.size, 0, none⟩) 1 1 [.string key, .iface 149 (.pointer (some ⟨vb, 0, none⟩))] rfl ?r1 ?r2 ?r3 ?r4 ?r5 ?_)
        case r1 => exact ⟨rfl, fun _ => ⟨_, rfl, Nat.lt_succ_self _, World.news_of_block (cs := #[.string key, .iface 149 (.pointer (some ⟨vb, 0, none⟩))]) (t := 142) (fr := (0, 0)) (heap_alloc_new w2 _)⟩⟩
        case r2 => intro u hu; simp at hu; rcases hu with rfl | rfl <;> rfl
        case r3 => unfold maxLen; omega
        case r4 => omega
        case r5 => simp; omega
        intro A3 C3 w3 hown3 hg3 hat3
        have hs3 : w2.heap.size + 1 ≤ w3.heap.size := by have := hg3.size; simpa using this
        obtain ⟨hall2, hbox2, hBM, hr⟩ := HH.out
        have hkeep : ∀ b, b < w2.heap.size → (Value.slice A m C).ownBlock ≠ some b → w3.heap[b]? = w2.heap[b]? := fun b h2 h3 =>
          (hg3.block b (by simp; omega) (fun e => h3 e.symm)).trans (Below.heap_alloc _ _ _ h2)
        have hnew : ∀ b, b < w2.heap.size → (Value.slice A m C).ownBlock ≠ some b → (Value.slice A3 (m + 1) C3).ownBlock ≠ some b := fun b h1 h2 h3 => by
          rcases hat3 with h | h
          · exact h2 (h.symm.trans h3)
          · rw [h3] at h
            simp at h
            omega
        have hall3 : FCells w3 (fun b => Btw (M + 1) w3.heap.size b ∧ (Value.slice A3 (m + 1) C3).ownBlock ≠ some b) ((flE ⟨kind, s, ks, l, y, n⟩).take (m + 1)) (xs ++ [.string key, .iface 149 (.pointer (some ⟨vb, 0, none⟩))]) := by
          rw [List.take_add_one, flE_at ⟨kind, s, ks, l, y, n⟩ HK.out HX.out]
          refine (hall2.keep (fun b hb => hkeep b hb.1.2 hb.2) (fun b hb => ⟨⟨hb.1.1, by have := hb.1.2; omega⟩, hnew b hb.1.2 hb.2⟩)).app (FCells.one hksz (hr.keep (fun b hb => hkeep b hb.2 (fun e => ?_)) (fun b hb => ⟨⟨by have := hb.1; omega, by have := hb.2; omega⟩, hnew b hb.2 (fun e => ?_)⟩)))
          · have h1 := hb.1
            have := (hownL b e).2
            omega
          · have h1 := hb.1
            have := (hownL b e).2
            omega
        have hB3 : Below M w w3 := (hBM.alloc (by omega) _).grown hg3 (by simp; omega) (own_ge hown2 (by omega))
        have hbox3 := blk_grown (blk_alloc hbox2 (.cells #[.string key, .iface 149 (.pointer (some ⟨vb, 0, none⟩))] 142)) hg3 (own_notin hown2 (by omega))
        clear hkeep hnew hat3 hg3 hown2 hall2 hbox2 hBM hr
        have HF := Lib.hid (And.intro hown3 (And.intro hall3 (And.intro hB3 hbox3)))
        clear hown3 hall3 hB3 hbox3
        go_wp2_with fail
        go_roundw
        case rel => exact ⟨m + 1, m + 1, A3, C3, _, hlt, by omega, by go_num, rfl, HF.out.1, HF.out.2.1, HF.out.2.2.1, by omega, HF.out.2.2.2⟩
        case measure => simp [intOf]; omega
      · have hge : l.length ≤ k := by omega
        have j2 : ¬ ((k : Int) < (l.length : Int)) := by omega
        go_wp2_with fail
        go_roundw
        case rel => exact ⟨k + 1, m, A, C, xs, hlt, by omega, by go_num, rfl, hown, hall, hB, hsz, hbox⟩
        case measure => simp [intOf]; omega
    · have hkl : k = ks.length := by omega
      subst hkl
      go_wp2_with fail
      go_ret
      have hml : (flE ⟨kind, s, ks, l, y, n⟩).length = m := by rw [flE_length]; exact hm.symm
      rw [HM.out, hml]
      rw [← hml, List.take_length, hml] at hall
      exact ⟨A, C, xs, rfl, hB, hown, hall⟩
end Go.Proofs.YtbbacpdbbmjblaaGreat
end
section
namespace Go.Proofs.YtbbacpdbbmjblaaGreat
open Go.RowKit
set_option linter.unusedSimpArgs false
/-- An element of a path as the package has it. -/
inductive PEV where
  | name (s : ByteArray)
  | key (fl : List (ByteArray × JV))
  | val (j : JV)
  | idx (n : Int)
/-- The list of fields lies in memory. -/
def IsFL (w : World) (S : Nat → Prop) (fl : List (ByteArray × JV)) (v : Value) : Prop :=
  ∃ A C, v = .slice A fl.length C ∧ fl.length ≤ C ∧ (fl = [] ∨ ∃ g o xs, S g ∧ A = some ⟨g, o, none⟩ ∧ FCells w S fl xs ∧ ∀ j u, xs[j]? = some u → w.cell? ⟨g, o + j, none⟩ = some u)
/-- The struct value v holds the package's path element p. -/
def IsPE (w : World) (S : Nat → Prop) (p : PEV) (v : Value) : Prop :=
  match p with
  | .name s => ∃ b, v = .agg #[.pointer (some ⟨b, 0, none⟩), .pointer none, .pointer none, .pointer none] ∧ S b ∧ w.heap[b]? = some (.cells #[.string s] 9 (0, 0)) ∧ s.size ≤ maxLen
  | .key fl => ∃ b u, v = .agg #[.pointer none, .pointer (some ⟨b, 0, none⟩), .pointer none, .pointer none] ∧ S b ∧ w.heap[b]? = some (.cells #[u] 115 (0, 0)) ∧ IsFL w S fl u
  | .val j => ∃ b u, v = .agg #[.pointer none, .pointer none, .pointer (some ⟨b, 0, none⟩), .pointer none] ∧ S b ∧ w.heap[b]? = some (.cells #[u] 75 (0, 0)) ∧ IsVal w S j u
  | .idx n => ∃ b, v = .agg #[.pointer none, .pointer none, .pointer none, .pointer (some ⟨b, 0, none⟩)] ∧ S b ∧ w.heap[b]? = some (.cells #[.int .i64 n] 3 (0, 0)) ∧ (Lit.int .i64 n).wf = true
section
variable {w w' : World} {S S' : Nat → Prop}
theorem IsFL.keep (h : ∀ b, S b → w'.heap[b]? = w.heap[b]?) (hs : ∀ b, S b → S' b) {fl : List (ByteArray × JV)} {v : Value} (hv : IsFL w S fl v) : IsFL w' S' fl v := by
  obtain ⟨A, C, e, hC, hr⟩ := hv
  refine ⟨A, C, e, hC, ?_⟩
  rcases hr with hr | ⟨g, o, xs, hg, ha, hx, hc⟩
  · exact .inl hr
  · exact .inr ⟨g, o, xs, hs g hg, ha, hx.keep h hs, fun j u hu => (World.cell?_of_block (a := ⟨g, o + j, none⟩) (h g hg)).trans (hc j u hu)⟩
theorem IsPE.keep (h : ∀ b, S b → w'.heap[b]? = w.heap[b]?) (hs : ∀ b, S b → S' b) {p : PEV} {v : Value} (hv : IsPE w S p v) : IsPE w' S' p v := by
  cases p with
  | name s => obtain ⟨b, e, hb, hh, hz⟩ := hv; exact ⟨b, e, hs b hb, (h b hb).trans hh, hz⟩
  | key fl => obtain ⟨b, u, e, hb, hh, hx⟩ := hv; exact ⟨b, u, e, hs b hb, (h b hb).trans hh, hx.keep h hs⟩
  | val j => obtain ⟨b, u, e, hb, hh, hx⟩ := hv; exact ⟨b, u, e, hs b hb, (h b hb).trans hh, hx.keep h hs⟩
  | idx n => obtain ⟨b, e, hb, hh, hz⟩ := hv; exact ⟨b, e, hs b hb, (h b hb).trans hh, hz⟩
theorem fl_of_own {base : Nat} {A : Option Addr} {C : Nat} {fl : List (ByteArray × JV)} {xs : List Value} (h : w.ownsRow base 142 2 (.slice A fl.length C) fl.length xs) (hx : FCells w (fun b => Btw base w.heap.size b ∧ (Value.slice A fl.length C).ownBlock ≠ some b) fl xs) :
    IsFL w (Btw base w.heap.size) fl (.slice A fl.length C) := by
  rcases h.2 with ⟨e, h0⟩ | ⟨g, cap, cur, e, hb, hg, hn, hm, hs, ht⟩
  · injection e with e1 _ e3
    subst e1 e3
    exact ⟨none, 0, rfl, by omega, .inl (List.length_eq_zero_iff.1 h0)⟩
  · injection e with e1 _ e3
    subst e1 e3
    have hlt := h.lt g rfl
    refine ⟨_, C, rfl, hn, .inr ⟨g, 0, xs, ⟨hb, hlt.2⟩, rfl, hx.keep (fun _ _ => rfl) (fun b hb => hb.1), fun j u hu => ?_⟩⟩
    have := h.cells (g := g) rfl j u hu
    rwa [Addr.add_lit] at this
end
/-- Four cells stored one after the other. -/
def st4 (w : World) (b : Nat) (c0 c1 c2 c3 : Value) : World :=
  (((w.setCell ⟨b, 0, none⟩ c0).setCell ⟨b, 1, none⟩ c1).setCell ⟨b, 2, none⟩ c2).setCell ⟨b, 3, none⟩ c3
section
variable {w : World} {b : Nat} {c0 c1 c2 c3 : Value}
theorem st4_below {B : Nat} {w0 : World} (h : Below B w0 w) (hb : B ≤ b) : Below B w0 (st4 w b c0 c1 c2 c3) := (((h.setCell hb _).setCell hb _).setCell hb _).setCell hb _
theorem st4_size : (st4 w b c0 c1 c2 c3).heap.size = w.heap.size := by simp [st4]
theorem st4_blk {d0 d1 d2 d3 : Value} {t : TypeId} (h : w.heap[b]? = some (.cells #[d0, d1, d2, d3] t (0, 0))) : (st4 w b c0 c1 c2 c3).heap[b]? = some (.cells #[c0, c1, c2, c3] t (0, 0)) :=
  blk_set (blk_set (blk_set (blk_set h 0 c0) 1 c1) 2 c2) 3 c3
theorem st4_eq {k : Nat} (hk : k ≠ b) : (st4 w b c0 c1 c2 c3).heap[k]? = w.heap[k]? := by
  unfold st4
  rw [Below.heap_setCell _ _ _ _ hk, Below.heap_setCell _ _ _ _ hk, Below.heap_setCell _ _ _ _ hk, Below.heap_setCell _ _ _ _ hk]
end
/-- The package's element of an element. -/
def toPE (x : EV) : PEV := if x.kind = 1 then .key (flE x) else if x.kind = 2 then .val (plainJ x.v) else if x.kind = 3 then .idx x.n else .name x.s
set_option maxHeartbeats 1000000 in
set_option maxRecDepth 100000 in
theorem toElem_key (x : EV) (hkind : x.kind = 1) (w : World) (v : Value) (hv : IsE w (Btw 0 w.heap.size) x v) :
    Calls Tryz.prog 39 #[v] w fun e w' => ∃ r, e = .returned r ∧ Below w.heap.size w w' ∧ IsPE w' (Btw w.heap.size w'.heap.size) (toPE x) r := by
  have ht : toPE x = .key (flE x) := by simp [toPE, hkind]
  rw [ht]
  obtain ⟨ak, ck, a, c, a0, d0, a1, d1, rfl⟩ := hv.form
  have hx := (hv.alloc_ (.cells #[.int .i64 x.kind, .string x.s, .slice ak x.keys.length ck, .slice a x.l.length c, .int .i64 x.v.kind, .int .i64 x.v.n, .float .f64 x.v.f, .string x.v.s, .slice a0 x.v.keys.length d0, .slice a1 x.v.l.length d1, .int .i64 x.n] 29)).alloc_ (.cells #[.pointer none, .pointer none, .pointer none, .pointer none] 63)
  clear hv
  rw [hkind] at hx ⊢
  go_enter Tryz.func39, Tryz.ntmps39
  go_wp2_with (go_at_call 74; (with_reducible refine (toKeys_any x _ _ ?_).mono ?_))
  · simpa using hx
  rintro e w2 ⟨A, C, xs, rfl, hB2, hown, hall⟩
  have hs2 : w.heap.size + 2 ≤ w2.heap.size := by have := hB2.size; simpa using this
  have hR := blk_below (new_block (w := w.alloc (.cells #[.int .i64 1, .string x.s, .slice ak x.keys.length ck, .slice a x.l.length c, .int .i64 x.v.kind, .int .i64 x.v.n, .float .f64 x.v.f, .string x.v.s, .slice a0 x.v.keys.length d0, .slice a1 x.v.l.length d1, .int .i64 x.n] 29)) (b := w.heap.size + 1) (o := (.cells #[.pointer none, .pointer none, .pointer none, .pointer none] 63)) (by simp)) hB2
  have hB : Below w.heap.size w w2 := (((Below.refl _ _).alloc (Nat.le_refl _) (.cells #[.int .i64 1, .string x.s, .slice ak x.keys.length ck, .slice a x.l.length c, .int .i64 x.v.kind, .int .i64 x.v.n, .float .f64 x.v.f, .string x.v.s, .slice a0 x.v.keys.length d0, .slice a1 x.v.l.length d1, .int .i64 x.n] 29)).alloc (by simp) (.cells #[.pointer none, .pointer none, .pointer none, .pointer none] 63)).trans (hB2.mono (by simp; omega))
  have HFL := Lib.hid ((fl_of_own hown hall).keep (w' := w2) (S' := Btw (w.heap.size + 3) w2.heap.size) (fun _ _ => rfl) (Btw.mono (by simp) (Nat.le_refl _)))
  clear hown hall hB2 hx
  have hR3 := blk_alloc hR (.cells #[.slice A (flE x).length C] 115)
  have hN3 : (w2.alloc (.cells #[.slice A (flE x).length C] 115)).heap[w2.heap.size]? = some (.cells #[.slice A (flE x).length C] 115) := new_block rfl
  have hne : w2.heap.size ≠ w.heap.size + 1 := by omega
  have f0 := blk_frozen hR3 0
  have f1 := blk_frozen hR3 1
  have f2 := blk_frozen hR3 2
  have f3 := blk_frozen hR3 3
  have q0 : (w2.alloc (.cells #[.slice A (flE x).length C] 115)).cell? ⟨w.heap.size + 1, 0, none⟩ = some (.pointer none) := blk_c hR3 0 rfl
  have q1 : (w2.alloc (.cells #[.slice A (flE x).length C] 115)).cell? ⟨w.heap.size + 1, 1, none⟩ = some (.pointer none) := blk_c hR3 1 rfl
  have q2 : (w2.alloc (.cells #[.slice A (flE x).length C] 115)).cell? ⟨w.heap.size + 1, 2, none⟩ = some (.pointer none) := blk_c hR3 2 rfl
  have q3 : (w2.alloc (.cells #[.slice A (flE x).length C] 115)).cell? ⟨w.heap.size + 1, 3, none⟩ = some (.pointer none) := blk_c hR3 3 rfl
  have HR := Lib.hid (And.intro hR (And.intro hR3 (And.intro hN3 hne)))
  clear hR hR3 hN3 hne
  go_wp2_with fail
  obtain ⟨hR, hR3, hN3, hne⟩ := HR.out
  have hblk := st4_blk (c0 := .pointer none) (c1 := .pointer (some ⟨w2.heap.size, 0, none⟩)) (c2 := .pointer none) (c3 := .pointer none) hR3
  have hfin : IsPE (st4 (w2.alloc (.cells #[.slice A (flE x).length C] 115)) (w.heap.size + 1) (.pointer none) (.pointer (some ⟨w2.heap.size, 0, none⟩)) (.pointer none) (.pointer none)) (Btw w.heap.size (st4 (w2.alloc (.cells #[.slice A (flE x).length C] 115)) (w.heap.size + 1) (.pointer none) (.pointer (some ⟨w2.heap.size, 0, none⟩)) (.pointer none) (.pointer none)).heap.size) (.key (flE x)) (.agg #[.pointer none, .pointer (some ⟨w2.heap.size, 0, none⟩), .pointer none, .pointer none]) := by
    have hsz : (st4 (w2.alloc (.cells #[.slice A (flE x).length C] 115)) (w.heap.size + 1) (.pointer none) (.pointer (some ⟨w2.heap.size, 0, none⟩)) (.pointer none) (.pointer none)).heap.size = w2.heap.size + 1 := by rw [st4_size]; simp
    refine ⟨w2.heap.size, _, rfl, ⟨by omega, by rw [hsz]; omega⟩, (st4_eq hne).trans hN3, HFL.out.keep (fun b hb => (st4_eq (by have := hb.1; omega)).trans (Below.heap_alloc _ _ _ hb.2)) (fun b hb => ⟨by have := hb.1; omega, by have := hb.2; rw [hsz]; omega⟩)⟩
  have hBf : Below w.heap.size w (st4 (w2.alloc (.cells #[.slice A (flE x).length C] 115)) (w.heap.size + 1) (.pointer none) (.pointer (some ⟨w2.heap.size, 0, none⟩)) (.pointer none) (.pointer none)) := st4_below (hB.alloc (by omega) _) (by omega)
  refine bodyPost_ret (v := .agg #[.pointer none, .pointer (some ⟨w2.heap.size, 0, none⟩), .pointer none, .pointer none]) ?_ rfl ?_
  · have e0 := blk_c hblk 0 (u := .pointer none) rfl
    have e1 := blk_c hblk 1 (u := .pointer (some ⟨w2.heap.size, 0, none⟩)) rfl
    have e2 := blk_c hblk 2 (u := .pointer none) rfl
    have e3 := blk_c hblk 3 (u := .pointer none) rfl
    unfold st4 at e0 e1 e2 e3
    simp [results, Tryz.results39, go_sem, e0, e1, e2, e3]
  · unfold st4 at hfin hBf
    exact ⟨_, rfl, hBf, hfin⟩
set_option maxHeartbeats 1000000 in
set_option maxRecDepth 100000 in
theorem toElem_val (x : EV) (hkind : x.kind = 2) (w : World) (v : Value) (hv : IsE w (Btw 0 w.heap.size) x v) :
    Calls Tryz.prog 39 #[v] w fun e w' => ∃ r, e = .returned r ∧ Below w.heap.size w w' ∧ IsPE w' (Btw w.heap.size w'.heap.size) (toPE x) r := by
  have ht : toPE x = .val (plainJ x.v) := by simp [toPE, hkind]
  rw [ht]
  obtain ⟨ak, ck, a, c, a0, d0, a1, d1, rfl⟩ := hv.form
  have hx := (hv.val.alloc_ (.cells #[.int .i64 x.kind, .string x.s, .slice ak x.keys.length ck, .slice a x.l.length c, .int .i64 x.v.kind, .int .i64 x.v.n, .float .f64 x.v.f, .string x.v.s, .slice a0 x.v.keys.length d0, .slice a1 x.v.l.length d1, .int .i64 x.n] 29)).alloc_ (.cells #[.pointer none, .pointer none, .pointer none, .pointer none] 63)
  clear hv
  rw [hkind] at hx ⊢
  go_enter Tryz.func39, Tryz.ntmps39
  go_wp2_with (go_at_call 43; (with_reducible refine (toValue_any x.v _ _ ?_).mono ?_))
  · simpa using hx
  rintro e w2 ⟨r, rfl, hB2, hr⟩
  have hs2 : w.heap.size + 2 ≤ w2.heap.size := by have := hB2.size; simpa using this
  have hR := blk_below (new_block (w := w.alloc (.cells #[.int .i64 2, .string x.s, .slice ak x.keys.length ck, .slice a x.l.length c, .int .i64 x.v.kind, .int .i64 x.v.n, .float .f64 x.v.f, .string x.v.s, .slice a0 x.v.keys.length d0, .slice a1 x.v.l.length d1, .int .i64 x.n] 29)) (b := w.heap.size + 1) (o := (.cells #[.pointer none, .pointer none, .pointer none, .pointer none] 63)) (by simp)) hB2
  have hB : Below w.heap.size w w2 := (((Below.refl _ _).alloc (Nat.le_refl _) (.cells #[.int .i64 2, .string x.s, .slice ak x.keys.length ck, .slice a x.l.length c, .int .i64 x.v.kind, .int .i64 x.v.n, .float .f64 x.v.f, .string x.v.s, .slice a0 x.v.keys.length d0, .slice a1 x.v.l.length d1, .int .i64 x.n] 29)).alloc (by simp) (.cells #[.pointer none, .pointer none, .pointer none, .pointer none] 63)).trans (hB2.mono (by simp; omega))
  obtain ⟨vb, vr, rfl, hvb, hvh, hvj⟩ := hr
  have HFL := Lib.hid (IsVal.keep (w := w2) (w' := w2) (S := Btw (w.heap.size + 2) w2.heap.size) (S' := Btw (w.heap.size + 2) w2.heap.size) (fun _ _ => rfl) (fun _ h => h) ⟨vb, vr, rfl, by simpa using hvb, hvh, by simpa using hvj⟩)
  clear hvb hvh hvj hB2 hx
  have hR3 := blk_alloc hR (.cells #[.iface 149 (.pointer (some ⟨vb, 0, none⟩))] 75)
  have hN3 : (w2.alloc (.cells #[.iface 149 (.pointer (some ⟨vb, 0, none⟩))] 75)).heap[w2.heap.size]? = some (.cells #[.iface 149 (.pointer (some ⟨vb, 0, none⟩))] 75) := new_block rfl
  have hne : w2.heap.size ≠ w.heap.size + 1 := by omega
  have f0 := blk_frozen hR3 0
  have f1 := blk_frozen hR3 1
  have f2 := blk_frozen hR3 2
  have f3 := blk_frozen hR3 3
  have q0 : (w2.alloc (.cells #[.iface 149 (.pointer (some ⟨vb, 0, none⟩))] 75)).cell? ⟨w.heap.size + 1, 0, none⟩ = some (.pointer none) := blk_c hR3 0 rfl
  have q1 : (w2.alloc (.cells #[.iface 149 (.pointer (some ⟨vb, 0, none⟩))] 75)).cell? ⟨w.heap.size + 1, 1, none⟩ = some (.pointer none) := blk_c hR3 1 rfl
  have q2 : (w2.alloc (.cells #[.iface 149 (.pointer (some ⟨vb, 0, none⟩))] 75)).cell? ⟨w.heap.size + 1, 2, none⟩ = some (.pointer none) := blk_c hR3 2 rfl
  have q3 : (w2.alloc (.cells #[.iface 149 (.pointer (some ⟨vb, 0, none⟩))] 75)).cell? ⟨w.heap.size + 1, 3, none⟩ = some (.pointer none) := blk_c hR3 3 rfl
  have HR := Lib.hid (And.intro hR (And.intro hR3 (And.intro hN3 hne)))
  clear hR hR3 hN3 hne
  go_wp2_with fail
  obtain ⟨hR, hR3, hN3, hne⟩ := HR.out
  have hblk := st4_blk (c0 := .pointer none) (c1 := .pointer none) (c2 := .pointer (some ⟨w2.heap.size, 0, none⟩)) (c3 := .pointer none) hR3
  have hfin : IsPE (st4 (w2.alloc (.cells #[.iface 149 (.pointer (some ⟨vb, 0, none⟩))] 75)) (w.heap.size + 1) (.pointer none) (.pointer none) (.pointer (some ⟨w2.heap.size, 0, none⟩)) (.pointer none)) (Btw w.heap.size (st4 (w2.alloc (.cells #[.iface 149 (.pointer (some ⟨vb, 0, none⟩))] 75)) (w.heap.size + 1) (.pointer none) (.pointer none) (.pointer (some ⟨w2.heap.size, 0, none⟩)) (.pointer none)).heap.size) (.val (plainJ x.v)) (.agg #[.pointer none, .pointer none, .pointer (some ⟨w2.heap.size, 0, none⟩), .pointer none]) := by
    have hsz : (st4 (w2.alloc (.cells #[.iface 149 (.pointer (some ⟨vb, 0, none⟩))] 75)) (w.heap.size + 1) (.pointer none) (.pointer none) (.pointer (some ⟨w2.heap.size, 0, none⟩)) (.pointer none)).heap.size = w2.heap.size + 1 := by rw [st4_size]; simp
    refine ⟨w2.heap.size, _, rfl, ⟨by omega, by rw [hsz]; omega⟩, (st4_eq hne).trans hN3, HFL.out.keep (fun b hb => (st4_eq (by have := hb.1; omega)).trans (Below.heap_alloc _ _ _ hb.2)) (fun b hb => ⟨by have := hb.1; omega, by have := hb.2; rw [hsz]; omega⟩)⟩
  have hBf : Below w.heap.size w (st4 (w2.alloc (.cells #[.iface 149 (.pointer (some ⟨vb, 0, none⟩))] 75)) (w.heap.size + 1) (.pointer none) (.pointer none) (.pointer (some ⟨w2.heap.size, 0, none⟩)) (.pointer none)) := st4_below (hB.alloc (by omega) _) (by omega)
  refine bodyPost_ret (v := .agg #[.pointer none, .pointer none, .pointer (some ⟨w2.heap.size, 0, none⟩), .pointer none]) ?_ rfl ?_
  · have e0 := blk_c hblk 0 (u := .pointer none) rfl
    have e1 := blk_c hblk 1 (u := .pointer none) rfl
    have e2 := blk_c hblk 2 (u := .pointer (some ⟨w2.heap.size, 0, none⟩)) rfl
    have e3 := blk_c hblk 3 (u := .pointer none) rfl
    unfold st4 at e0 e1 e2 e3
    simp [results, Tryz.results39, go_sem, e0, e1, e2, e3]
  · unfold st4 at hfin hBf
    exact ⟨_, rfl, hBf, hfin⟩
set_option maxHeartbeats 1000000 in
set_option maxRecDepth 100000 in
theorem toElem_idx (x : EV) (hkind : x.kind = 3) (w : World) (v : Value) (hv : IsE w (Btw 0 w.heap.size) x v) :
    Calls Tryz.prog 39 #[v] w fun e w' => ∃ r, e = .returned r ∧ Below w.heap.size w w' ∧ IsPE w' (Btw w.heap.size w'.heap.size) (toPE x) r := by
  have ht : toPE x = .idx x.n := by simp [toPE, hkind]
  rw [ht]
  obtain ⟨ak, ck, a, c, a0, d0, a1, d1, rfl⟩ := hv.form
  have hz : (Lit.int .i64 x.n).wf = true := by obtain ⟨_, _, _, _, _, _, _, _, _, _, _, _, h, _⟩ := hv; exact h
  have HZ := Lib.hid hz
  clear hz ht hv
  rw [hkind]
  clear hkind
  go_enter Tryz.func39, Tryz.ntmps39
  go_wp2_with fail
  have hB : Below w.heap.size w (((w.alloc (.cells #[.int .i64 3, .string x.s, .slice ak x.keys.length ck, .slice a x.l.length c, .int .i64 x.v.kind, .int .i64 x.v.n, .float .f64 x.v.f, .string x.v.s, .slice a0 x.v.keys.length d0, .slice a1 x.v.l.length d1, .int .i64 x.n] 29)).alloc (.cells #[.pointer none, .pointer none, .pointer none, .pointer (some ⟨w.heap.size + 1 + 1, 0, none⟩)] 63)).alloc (.cells #[.int .i64 x.n] 3)) := (((Below.refl _ _).alloc (Nat.le_refl _) (.cells #[.int .i64 3, .string x.s, .slice ak x.keys.length ck, .slice a x.l.length c, .int .i64 x.v.kind, .int .i64 x.v.n, .float .f64 x.v.f, .string x.v.s, .slice a0 x.v.keys.length d0, .slice a1 x.v.l.length d1, .int .i64 x.n] 29)).alloc (by simp) (.cells #[.pointer none, .pointer none, .pointer none, .pointer (some ⟨w.heap.size + 1 + 1, 0, none⟩)] 63)).alloc (by simp; omega) (.cells #[.int .i64 x.n] 3)
  have hN : (((w.alloc (.cells #[.int .i64 3, .string x.s, .slice ak x.keys.length ck, .slice a x.l.length c, .int .i64 x.v.kind, .int .i64 x.v.n, .float .f64 x.v.f, .string x.v.s, .slice a0 x.v.keys.length d0, .slice a1 x.v.l.length d1, .int .i64 x.n] 29)).alloc (.cells #[.pointer none, .pointer none, .pointer none, .pointer (some ⟨w.heap.size + 1 + 1, 0, none⟩)] 63)).alloc (.cells #[.int .i64 x.n] 3)).heap[w.heap.size + 1 + 1]? = some (.cells #[.int .i64 x.n] 3) := new_block (by simp)
  have hblk : (((w.alloc (.cells #[.int .i64 3, .string x.s, .slice ak x.keys.length ck, .slice a x.l.length c, .int .i64 x.v.kind, .int .i64 x.v.n, .float .f64 x.v.f, .string x.v.s, .slice a0 x.v.keys.length d0, .slice a1 x.v.l.length d1, .int .i64 x.n] 29)).alloc (.cells #[.pointer none, .pointer none, .pointer none, .pointer (some ⟨w.heap.size + 1 + 1, 0, none⟩)] 63)).alloc (.cells #[.int .i64 x.n] 3)).heap[w.heap.size + 1]? = some (.cells #[.pointer none, .pointer none, .pointer none, .pointer (some ⟨w.heap.size + 1 + 1, 0, none⟩)] 63) := blk_alloc (new_block (by simp)) _
  refine bodyPost_ret (v := .agg #[.pointer none, .pointer none, .pointer none, .pointer (some ⟨w.heap.size + 1 + 1, 0, none⟩)]) ?_ rfl ?_
  · have e0 := blk_c hblk 0 (u := .pointer none) rfl
    have e1 := blk_c hblk 1 (u := .pointer none) rfl
    have e2 := blk_c hblk 2 (u := .pointer none) rfl
    have e3 := blk_c hblk 3 (u := .pointer (some ⟨w.heap.size + 1 + 1, 0, none⟩)) rfl
    simp [results, Tryz.results39, go_sem, e0, e1, e2, e3]
  · exact ⟨_, rfl, hB, w.heap.size + 1 + 1, rfl, ⟨by omega, by simp⟩, hN, HZ.out⟩
set_option maxHeartbeats 1000000 in
set_option maxRecDepth 100000 in
theorem toElem_name (x : EV) (h1 : x.kind ≠ 1) (h2 : x.kind ≠ 2) (h3 : x.kind ≠ 3) (w : World) (v : Value) (hv : IsE w (Btw 0 w.heap.size) x v) :
    Calls Tryz.prog 39 #[v] w fun e w' => ∃ r, e = .returned r ∧ Below w.heap.size w w' ∧ IsPE w' (Btw w.heap.size w'.heap.size) (toPE x) r := by
  have ht : toPE x = .name x.s := by simp [toPE, h1, h2, h3]
  rw [ht]
  obtain ⟨ak, ck, a, c, a0, d0, a1, d1, rfl⟩ := hv.form
  have hz : x.s.size ≤ maxLen := by obtain ⟨_, _, _, _, _, _, _, _, _, _, _, _, _, h, _⟩ := hv; exact h
  have HZ := Lib.hid hz
  clear hz ht hv
  have k1 : (x.kind == 1) = false := by simp [h1]
  have k2 : (x.kind == 2) = false := by simp [h2]
  have k3 : (x.kind == 3) = false := by simp [h3]
  go_enter Tryz.func39, Tryz.ntmps39
  go_wp2_with fail
  have hB : Below w.heap.size w (((w.alloc (.cells #[.int .i64 x.kind, .string x.s, .slice ak x.keys.length ck, .slice a x.l.length c, .int .i64 x.v.kind, .int .i64 x.v.n, .float .f64 x.v.f, .string x.v.s, .slice a0 x.v.keys.length d0, .slice a1 x.v.l.length d1, .int .i64 x.n] 29)).alloc (.cells #[.pointer (some ⟨w.heap.size + 1 + 1, 0, none⟩), .pointer none, .pointer none, .pointer none] 63)).alloc (.cells #[.string x.s] 9)) := (((Below.refl _ _).alloc (Nat.le_refl _) (.cells #[.int .i64 x.kind, .string x.s, .slice ak x.keys.length ck, .slice a x.l.length c, .int .i64 x.v.kind, .int .i64 x.v.n, .float .f64 x.v.f, .string x.v.s, .slice a0 x.v.keys.length d0, .slice a1 x.v.l.length d1, .int .i64 x.n] 29)).alloc (by simp) (.cells #[.pointer (some ⟨w.heap.size + 1 + 1, 0, none⟩), .pointer none, .pointer none, .pointer none] 63)).alloc (by simp; omega) (.cells #[.string x.s] 9)
  have hN : (((w.alloc (.cells #[.int .i64 x.kind, .string x.s, .slice ak x.keys.length ck, .slice a x.l.length c, .int .i64 x.v.kind, .int .i64 x.v.n, .float .f64 x.v.f, .string x.v.s, .slice a0 x.v.keys.length d0, .slice a1 x.v.l.length d1, .int .i64 x.n] 29)).alloc (.cells #[.pointer (some ⟨w.heap.size + 1 + 1, 0, none⟩), .pointer none, .pointer none, .pointer none] 63)).alloc (.cells #[.string x.s] 9)).heap[w.heap.size + 1 + 1]? = some (.cells #[.string x.s] 9) := new_block (by simp)
  have hblk : (((w.alloc (.cells #[.int .i64 x.kind, .string x.s, .slice ak x.keys.length ck, .slice a x.l.length c, .int .i64 x.v.kind, .int .i64 x.v.n, .float .f64 x.v.f, .string x.v.s, .slice a0 x.v.keys.length d0, .slice a1 x.v.l.length d1, .int .i64 x.n] 29)).alloc (.cells #[.pointer (some ⟨w.heap.size + 1 + 1, 0, none⟩), .pointer none, .pointer none, .pointer none] 63)).alloc (.cells #[.string x.s] 9)).heap[w.heap.size + 1]? = some (.cells #[.pointer (some ⟨w.heap.size + 1 + 1, 0, none⟩), .pointer none, .pointer none, .pointer none] 63) := blk_alloc (new_block (by simp)) _
  refine bodyPost_ret (v := .agg #[.pointer (some ⟨w.heap.size + 1 + 1, 0, none⟩), .pointer none, .pointer none, .pointer none]) ?_ rfl ?_
  · have e0 := blk_c hblk 0 (u := .pointer (some ⟨w.heap.size + 1 + 1, 0, none⟩)) rfl
    have e1 := blk_c hblk 1 (u := .pointer none) rfl
    have e2 := blk_c hblk 2 (u := .pointer none) rfl
    have e3 := blk_c hblk 3 (u := .pointer none) rfl
    simp [results, Tryz.results39, go_sem, e0, e1, e2, e3]
  · exact ⟨_, rfl, hB, w.heap.size + 1 + 1, rfl, ⟨by omega, by simp⟩, hN, HZ.out⟩
/-- toElem makes the package's element. -/
theorem toElem_any (x : EV) (w : World) (v : Value) (hv : IsE w (Btw 0 w.heap.size) x v) :
    Calls Tryz.prog 39 #[v] w fun e w' => ∃ r, e = .returned r ∧ Below w.heap.size w w' ∧ IsPE w' (Btw w.heap.size w'.heap.size) (toPE x) r := by
  by_cases h1 : x.kind = 1
  · exact toElem_key x h1 w v hv
  by_cases h2 : x.kind = 2
  · exact toElem_val x h2 w v hv
  by_cases h3 : x.kind = 3
  · exact toElem_idx x h3 w v hv
  exact toElem_name x h1 h2 h3 w v hv
end Go.Proofs.YtbbacpdbbmjblaaGreat
end
section
namespace Go.Proofs.YtbbacpdbbmjblaaGreat
open Go.RowKit
/-- The form of a tree's value, whatever the memory. -/
def JForm : JV → Value → Prop
  | .null, v => v = .nilIface
  | .bool b, v => v = .iface 4 (.bool b)
  | .int n, v => v = .iface 2 (.int .i64 n)
  | .flt f, v => v = .iface 25 (.float .f64 f)
  | .str s, v => v = .iface 9 (.string s)
  | .list l, v => ∃ a c, v = .iface 154 (.slice a l.length c)
  | .map _, v => ∃ b, v = .iface 155 (.map (some b))
theorem IsJ.shape {w : World} {S : Nat → Prop} {j : JV} {v : Value} (h : IsJ w S j v) : JForm j v := by
  cases j <;> unfold IsJ at h <;> unfold JForm
  · exact h
  · exact h
  · exact h.1
  · exact h.1
  · exact h.1
  · obtain ⟨a, c, e, _⟩ := h; exact ⟨a, c, e⟩
  · obtain ⟨b, es, cl, e, _⟩ := h; exact ⟨b, e⟩
def JV.IsMap : JV → Bool | .map _ => true | _ => false
def JV.IsList : JV → Bool | .list _ => true | _ => false
def JV.IsBool : JV → Bool | .bool _ => true | _ => false
def JV.IsInt : JV → Bool | .int _ => true | _ => false
def JV.IsFloat : JV → Bool | .flt _ => true | _ => false
def JV.IsString : JV → Bool | .str _ => true | _ => false
def JV.IsNull : JV → Bool | .null => true | _ => false
set_option maxRecDepth 100000 in
theorem IsMap_any (j : JV) (w : World) (r : Value) (hj : JForm j r) : Calls Tryz.prog 190 #[.agg #[r]] w fun e w' => e = .returned (.bool (JV.IsMap j)) ∧ w' = w.alloc (.cells #[r] 177) := by
  cases j <;> unfold JForm at hj
  case null => subst hj; go_enter Tryz.func190, Tryz.ntmps190; go_wp2_with fail; go_ret; exact ⟨rfl, rfl⟩
  case bool => subst hj; go_enter Tryz.func190, Tryz.ntmps190; go_wp2_with fail; go_ret; exact ⟨rfl, rfl⟩
  case int => subst hj; go_enter Tryz.func190, Tryz.ntmps190; go_wp2_with fail; go_ret; exact ⟨rfl, rfl⟩
  case flt => subst hj; go_enter Tryz.func190, Tryz.ntmps190; go_wp2_with fail; go_ret; exact ⟨rfl, rfl⟩
  case str => subst hj; go_enter Tryz.func190, Tryz.ntmps190; go_wp2_with fail; go_ret; exact ⟨rfl, rfl⟩
  case list => obtain ⟨a, c, rfl⟩ := hj; go_enter Tryz.func190, Tryz.ntmps190; go_wp2_with fail; go_ret; exact ⟨rfl, rfl⟩
  case map => obtain ⟨b, rfl⟩ := hj; go_enter Tryz.func190, Tryz.ntmps190; go_wp2_with fail; go_ret; exact ⟨rfl, rfl⟩
set_option maxRecDepth 100000 in
theorem IsList_any (j : JV) (w : World) (r : Value) (hj : JForm j r) : Calls Tryz.prog 189 #[.agg #[r]] w fun e w' => e = .returned (.bool (JV.IsList j)) ∧ w' = w.alloc (.cells #[r] 177) := by
  cases j <;> unfold JForm at hj
  case null => subst hj; go_enter Tryz.func189, Tryz.ntmps189; go_wp2_with fail; go_ret; exact ⟨rfl, rfl⟩
  case bool => subst hj; go_enter Tryz.func189, Tryz.ntmps189; go_wp2_with fail; go_ret; exact ⟨rfl, rfl⟩
  case int => subst hj; go_enter Tryz.func189, Tryz.ntmps189; go_wp2_with fail; go_ret; exact ⟨rfl, rfl⟩
  case flt => subst hj; go_enter Tryz.func189, Tryz.ntmps189; go_wp2_with fail; go_ret; exact ⟨rfl, rfl⟩
  case str => subst hj; go_enter Tryz.func189, Tryz.ntmps189; go_wp2_with fail; go_ret; exact ⟨rfl, rfl⟩
  case list => obtain ⟨a, c, rfl⟩ := hj; go_enter Tryz.func189, Tryz.ntmps189; go_wp2_with fail; go_ret; exact ⟨rfl, rfl⟩
  case map => obtain ⟨b, rfl⟩ := hj; go_enter Tryz.func189, Tryz.ntmps189; go_wp2_with fail; go_ret; exact ⟨rfl, rfl⟩
set_option maxRecDepth 100000 in
theorem IsBool_any (j : JV) (w : World) (r : Value) (hj : JForm j r) : Calls Tryz.prog 186 #[.agg #[r]] w fun e w' => e = .returned (.bool (JV.IsBool j)) ∧ w' = w.alloc (.cells #[r] 177) := by
  cases j <;> unfold JForm at hj
  case null => subst hj; go_enter Tryz.func186, Tryz.ntmps186; go_wp2_with fail; go_ret; exact ⟨rfl, rfl⟩
  case bool => subst hj; go_enter Tryz.func186, Tryz.ntmps186; go_wp2_with fail; go_ret; exact ⟨rfl, rfl⟩
  case int => subst hj; go_enter Tryz.func186, Tryz.ntmps186; go_wp2_with fail; go_ret; exact ⟨rfl, rfl⟩
  case flt => subst hj; go_enter Tryz.func186, Tryz.ntmps186; go_wp2_with fail; go_ret; exact ⟨rfl, rfl⟩
  case str => subst hj; go_enter Tryz.func186, Tryz.ntmps186; go_wp2_with fail; go_ret; exact ⟨rfl, rfl⟩
  case list => obtain ⟨a, c, rfl⟩ := hj; go_enter Tryz.func186, Tryz.ntmps186; go_wp2_with fail; go_ret; exact ⟨rfl, rfl⟩
  case map => obtain ⟨b, rfl⟩ := hj; go_enter Tryz.func186, Tryz.ntmps186; go_wp2_with fail; go_ret; exact ⟨rfl, rfl⟩
set_option maxRecDepth 100000 in
theorem IsInt_any (j : JV) (w : World) (r : Value) (hj : JForm j r) : Calls Tryz.prog 188 #[.agg #[r]] w fun e w' => e = .returned (.bool (JV.IsInt j)) ∧ w' = w.alloc (.cells #[r] 177) := by
  cases j <;> unfold JForm at hj
  case null => subst hj; go_enter Tryz.func188, Tryz.ntmps188; go_wp2_with fail; go_ret; exact ⟨rfl, rfl⟩
  case bool => subst hj; go_enter Tryz.func188, Tryz.ntmps188; go_wp2_with fail; go_ret; exact ⟨rfl, rfl⟩
  case int => subst hj; go_enter Tryz.func188, Tryz.ntmps188; go_wp2_with fail; go_ret; exact ⟨rfl, rfl⟩
  case flt => subst hj; go_enter Tryz.func188, Tryz.ntmps188; go_wp2_with fail; go_ret; exact ⟨rfl, rfl⟩
  case str => subst hj; go_enter Tryz.func188, Tryz.ntmps188; go_wp2_with fail; go_ret; exact ⟨rfl, rfl⟩
  case list => obtain ⟨a, c, rfl⟩ := hj; go_enter Tryz.func188, Tryz.ntmps188; go_wp2_with fail; go_ret; exact ⟨rfl, rfl⟩
  case map => obtain ⟨b, rfl⟩ := hj; go_enter Tryz.func188, Tryz.ntmps188; go_wp2_with fail; go_ret; exact ⟨rfl, rfl⟩
set_option maxRecDepth 100000 in
theorem IsFloat_any (j : JV) (w : World) (r : Value) (hj : JForm j r) : Calls Tryz.prog 187 #[.agg #[r]] w fun e w' => e = .returned (.bool (JV.IsFloat j)) ∧ w' = w.alloc (.cells #[r] 177) := by
  cases j <;> unfold JForm at hj
  case null => subst hj; go_enter Tryz.func187, Tryz.ntmps187; go_wp2_with fail; go_ret; exact ⟨rfl, rfl⟩
  case bool => subst hj; go_enter Tryz.func187, Tryz.ntmps187; go_wp2_with fail; go_ret; exact ⟨rfl, rfl⟩
  case int => subst hj; go_enter Tryz.func187, Tryz.ntmps187; go_wp2_with fail; go_ret; exact ⟨rfl, rfl⟩
  case flt => subst hj; go_enter Tryz.func187, Tryz.ntmps187; go_wp2_with fail; go_ret; exact ⟨rfl, rfl⟩
  case str => subst hj; go_enter Tryz.func187, Tryz.ntmps187; go_wp2_with fail; go_ret; exact ⟨rfl, rfl⟩
  case list => obtain ⟨a, c, rfl⟩ := hj; go_enter Tryz.func187, Tryz.ntmps187; go_wp2_with fail; go_ret; exact ⟨rfl, rfl⟩
  case map => obtain ⟨b, rfl⟩ := hj; go_enter Tryz.func187, Tryz.ntmps187; go_wp2_with fail; go_ret; exact ⟨rfl, rfl⟩
set_option maxRecDepth 100000 in
theorem IsString_any (j : JV) (w : World) (r : Value) (hj : JForm j r) : Calls Tryz.prog 192 #[.agg #[r]] w fun e w' => e = .returned (.bool (JV.IsString j)) ∧ w' = w.alloc (.cells #[r] 177) := by
  cases j <;> unfold JForm at hj
  case null => subst hj; go_enter Tryz.func192, Tryz.ntmps192; go_wp2_with fail; go_ret; exact ⟨rfl, rfl⟩
  case bool => subst hj; go_enter Tryz.func192, Tryz.ntmps192; go_wp2_with fail; go_ret; exact ⟨rfl, rfl⟩
  case int => subst hj; go_enter Tryz.func192, Tryz.ntmps192; go_wp2_with fail; go_ret; exact ⟨rfl, rfl⟩
  case flt => subst hj; go_enter Tryz.func192, Tryz.ntmps192; go_wp2_with fail; go_ret; exact ⟨rfl, rfl⟩
  case str => subst hj; go_enter Tryz.func192, Tryz.ntmps192; go_wp2_with fail; go_ret; exact ⟨rfl, rfl⟩
  case list => obtain ⟨a, c, rfl⟩ := hj; go_enter Tryz.func192, Tryz.ntmps192; go_wp2_with fail; go_ret; exact ⟨rfl, rfl⟩
  case map => obtain ⟨b, rfl⟩ := hj; go_enter Tryz.func192, Tryz.ntmps192; go_wp2_with fail; go_ret; exact ⟨rfl, rfl⟩
set_option maxRecDepth 100000 in
theorem IsNull_any (j : JV) (w : World) (r : Value) (hj : JForm j r) : Calls Tryz.prog 191 #[.agg #[r]] w fun e w' => e = .returned (.bool (JV.IsNull j)) ∧ w' = w.alloc (.cells #[r] 177) := by
  cases j <;> unfold JForm at hj
  case null => subst hj; go_enter Tryz.func191, Tryz.ntmps191; go_wp2_with fail; go_ret; exact ⟨rfl, rfl⟩
  case bool => subst hj; go_enter Tryz.func191, Tryz.ntmps191; go_wp2_with fail; go_ret; exact ⟨rfl, rfl⟩
  case int => subst hj; go_enter Tryz.func191, Tryz.ntmps191; go_wp2_with fail; go_ret; exact ⟨rfl, rfl⟩
  case flt => subst hj; go_enter Tryz.func191, Tryz.ntmps191; go_wp2_with fail; go_ret; exact ⟨rfl, rfl⟩
  case str => subst hj; go_enter Tryz.func191, Tryz.ntmps191; go_wp2_with fail; go_ret; exact ⟨rfl, rfl⟩
  case list => obtain ⟨a, c, rfl⟩ := hj; go_enter Tryz.func191, Tryz.ntmps191; go_wp2_with fail; go_ret; exact ⟨rfl, rfl⟩
  case map => obtain ⟨b, rfl⟩ := hj; go_enter Tryz.func191, Tryz.ntmps191; go_wp2_with fail; go_ret; exact ⟨rfl, rfl⟩
end Go.Proofs.YtbbacpdbbmjblaaGreat
end
section
namespace Go.Proofs.YtbbacpdbbmjblaaGreat
open Go.RowKit
set_option linter.unusedSimpArgs false
def st11 (w : World) (b : Nat) (c0 c1 c2 c3 c4 c5 c6 c7 c8 c9 c10 : Value) : World := ((((((((((w.setCell ⟨b, 0, none⟩ c0).setCell ⟨b, 1, none⟩ c1).setCell ⟨b, 2, none⟩ c2).setCell ⟨b, 3, none⟩ c3).setCell ⟨b, 4, none⟩ c4).setCell ⟨b, 5, none⟩ c5).setCell ⟨b, 6, none⟩ c6).setCell ⟨b, 7, none⟩ c7).setCell ⟨b, 8, none⟩ c8).setCell ⟨b, 9, none⟩ c9).setCell ⟨b, 10, none⟩ c10
section
variable {w : World} {b : Nat} {c0 c1 c2 c3 c4 c5 c6 c7 c8 c9 c10 : Value}
theorem st11_below {B : Nat} {w0 : World} (h : Below B w0 w) (hb : B ≤ b) : Below B w0 (st11 w b c0 c1 c2 c3 c4 c5 c6 c7 c8 c9 c10) := ((((((((((h.setCell hb _).setCell hb _).setCell hb _).setCell hb _).setCell hb _).setCell hb _).setCell hb _).setCell hb _).setCell hb _).setCell hb _).setCell hb _
theorem st11_size : (st11 w b c0 c1 c2 c3 c4 c5 c6 c7 c8 c9 c10).heap.size = w.heap.size := by simp [st11]
theorem st11_blk {d0 d1 d2 d3 d4 d5 d6 d7 d8 d9 d10 : Value} {t : TypeId} (h : w.heap[b]? = some (.cells #[d0, d1, d2, d3, d4, d5, d6, d7, d8, d9, d10] t (0, 0))) : (st11 w b c0 c1 c2 c3 c4 c5 c6 c7 c8 c9 c10).heap[b]? = some (.cells #[c0, c1, c2, c3, c4, c5, c6, c7, c8, c9, c10] t (0, 0)) := by
  have h := blk_set h 0 c0
  rw [show (#[d0, d1, d2, d3, d4, d5, d6, d7, d8, d9, d10] : Array Value).setIfInBounds 0 c0 = #[c0, d1, d2, d3, d4, d5, d6, d7, d8, d9, d10] from rfl] at h
  have h := blk_set h 1 c1
  rw [show (#[c0, d1, d2, d3, d4, d5, d6, d7, d8, d9, d10] : Array Value).setIfInBounds 1 c1 = #[c0, c1, d2, d3, d4, d5, d6, d7, d8, d9, d10] from rfl] at h
  have h := blk_set h 2 c2
  rw [show (#[c0, c1, d2, d3, d4, d5, d6, d7, d8, d9, d10] : Array Value).setIfInBounds 2 c2 = #[c0, c1, c2, d3, d4, d5, d6, d7, d8, d9, d10] from rfl] at h
  have h := blk_set h 3 c3
  rw [show (#[c0, c1, c2, d3, d4, d5, d6, d7, d8, d9, d10] : Array Value).setIfInBounds 3 c3 = #[c0, c1, c2, c3, d4, d5, d6, d7, d8, d9, d10] from rfl] at h
  have h := blk_set h 4 c4
  rw [show (#[c0, c1, c2, c3, d4, d5, d6, d7, d8, d9, d10] : Array Value).setIfInBounds 4 c4 = #[c0, c1, c2, c3, c4, d5, d6, d7, d8, d9, d10] from rfl] at h
  have h := blk_set h 5 c5
  rw [show (#[c0, c1, c2, c3, c4, d5, d6, d7, d8, d9, d10] : Array Value).setIfInBounds 5 c5 = #[c0, c1, c2, c3, c4, c5, d6, d7, d8, d9, d10] from rfl] at h
  have h := blk_set h 6 c6
  rw [show (#[c0, c1, c2, c3, c4, c5, d6, d7, d8, d9, d10] : Array Value).setIfInBounds 6 c6 = #[c0, c1, c2, c3, c4, c5, c6, d7, d8, d9, d10] from rfl] at h
  have h := blk_set h 7 c7
  rw [show (#[c0, c1, c2, c3, c4, c5, c6, d7, d8, d9, d10] : Array Value).setIfInBounds 7 c7 = #[c0, c1, c2, c3, c4, c5, c6, c7, d8, d9, d10] from rfl] at h
  have h := blk_set h 8 c8
  rw [show (#[c0, c1, c2, c3, c4, c5, c6, c7, d8, d9, d10] : Array Value).setIfInBounds 8 c8 = #[c0, c1, c2, c3, c4, c5, c6, c7, c8, d9, d10] from rfl] at h
  have h := blk_set h 9 c9
  rw [show (#[c0, c1, c2, c3, c4, c5, c6, c7, c8, d9, d10] : Array Value).setIfInBounds 9 c9 = #[c0, c1, c2, c3, c4, c5, c6, c7, c8, c9, d10] from rfl] at h
  have h := blk_set h 10 c10
  rw [show (#[c0, c1, c2, c3, c4, c5, c6, c7, c8, c9, d10] : Array Value).setIfInBounds 10 c10 = #[c0, c1, c2, c3, c4, c5, c6, c7, c8, c9, c10] from rfl] at h
  exact h
theorem st11_eq {k : Nat} (hk : k ≠ b) : (st11 w b c0 c1 c2 c3 c4 c5 c6 c7 c8 c9 c10).heap[k]? = w.heap[k]? := by
  unfold st11
  rw [Below.heap_setCell _ _ _ _ hk, Below.heap_setCell _ _ _ _ hk, Below.heap_setCell _ _ _ _ hk, Below.heap_setCell _ _ _ _ hk, Below.heap_setCell _ _ _ _ hk, Below.heap_setCell _ _ _ _ hk, Below.heap_setCell _ _ _ _ hk, Below.heap_setCell _ _ _ _ hk, Below.heap_setCell _ _ _ _ hk, Below.heap_setCell _ _ _ _ hk, Below.heap_setCell _ _ _ _ hk]
end
theorem isE_mk {w : World} {S : Nat → Prop} {kd n : Int} {s : ByteArray} {ks : List ByteArray} {l : List GV} {y : GV} {vk vl c0 c1 c2 c3 c4 c5 : Value} (h1 : (Lit.int .i64 kd).wf = true) (h2 : (Lit.int .i64 n).wf = true) (h4 : s.size ≤ maxLen)
    (hk : IsStrs w S vk ks) (hl : l.length * 88 ≤ 140737488351232) (hv : ∃ a c, vl = .slice a l.length c ∧ l.length ≤ c ∧ (l = [] ∨ ∃ b o, S b ∧ a = some ⟨b, o, none⟩ ∧ IsVs w S l b o)) (hy : IsV w S y (.agg #[c0, c1, c2, c3, c4, c5])) :
    IsE w S ⟨kd, s, ks, l, y, n⟩ (.agg #[.int .i64 kd, .string s, vk, vl, c0, c1, c2, c3, c4, c5, .int .i64 n]) := by
  obtain ⟨a, c, rfl, hc, hv⟩ := hv
  obtain ⟨a', c', rfl, hr⟩ := hk
  exact ⟨a', c', a, c, c0, c1, c2, c3, c4, c5, rfl, h1, h2, h4, ⟨a', c', rfl, hr⟩, hc, hl, hv, hy⟩
theorem isStrs_nil {w : World} {S : Nat → Prop} : IsStrs w S (.slice none 0 0) [] := ⟨none, 0, rfl, Nat.le_refl _, by decide, by simp, fun h => by simp at h⟩
theorem isV_nil {w : World} {S : Nat → Prop} : IsV w S gNull (.agg #[.int .i64 0, .int .i64 0, .float .f64 0, .string ⟨#[]⟩, .slice none 0 0, .slice none 0 0]) :=
  IsV.mk_ (l := []) (by decide) (by decide) (by decide) (by decide) isStrs_nil (by decide) ⟨none, 0, rfl, Nat.le_refl _, .inl rfl⟩
end Go.Proofs.YtbbacpdbbmjblaaGreat
end
section
namespace Go.Proofs.YtbbacpdbbmjblaaGreat
open Go.RowKit
set_option linter.unusedSimpArgs false
def CleanMC (ks : List ByteArray) (l : List GV) : Prop := ∀ (k n : Int) (f : Nat) (s : ByteArray) (w : World) (v : Value), IsV w (Btw 0 w.heap.size) (.mk k n f s ks l) v →
    Calls Tryz.prog 82 #[v] w fun e w' => ∃ r, e = .returned r ∧ Below w.heap.size w w' ∧ IsV w' (Btw w.heap.size w'.heap.size) (cleanM ks l gMap) r
theorem CleanMC.use {ks : List ByteArray} {l : List GV} (h : CleanMC ks l) (k n : Int) (f : Nat) (s : ByteArray) (w : World) (v : Value) (hv : IsV w (Btw 0 w.heap.size) (.mk k n f s ks l) v) :
    Calls Tryz.prog 82 #[v] w fun e w' => ∃ r, e = .returned r ∧ Below w.heap.size w w' ∧ IsV w' (Btw w.heap.size w'.heap.size) (cleanM ks l gMap) r := h k n f s w v hv
theorem cleanMC (ks : List ByteArray) (l : List GV) (ih : ∀ y ∈ l, CleanC y) : CleanMC ks l := fun k n f s w v hv =>
  cleanMap_any (.mk k n f s ks l) ih w v hv
set_option maxHeartbeats 2000000 in
set_option maxRecDepth 100000 in
theorem clean_list (n : Int) (f : Nat) (s : ByteArray) (ks : List ByteArray) (l : List GV) (ih : ∀ y ∈ l, CleanC y) : CleanC (.mk 5 n f s ks l) := by
  intro w v hv
  unfold IsV at hv
  obtain ⟨vk, a, c, rfl, _, _, _, _, _, _, h6, h7⟩ := hv
  have h7' : l = [] ∨ ∃ b o, Btw 0 (w.heap.size + 2) b ∧ a = some ⟨b, o, none⟩ ∧ IsVs ((w.alloc (.cells #[.int .i64 5, .int .i64 n, .float .f64 f, .string s, vk, .slice a l.length c] 27)).alloc (.cells #[.int .i64 0, .int .i64 0, .float .f64 0, .string ⟨#[]⟩, .slice none 0 0, .slice none 0 0] 27)) (Btw 0 (w.heap.size + 2)) l b o := by
    rcases h7 with h | ⟨b, o, hb, ha, hx⟩
    · exact .inl h
    · refine .inr ⟨b, o, ⟨hb.1, by have := hb.2; omega⟩, ha, IsVs.keep (fun b hb => ?_) (Btw.mono (Nat.le_refl _) (by omega)) l b o hb hx⟩
      have := hb.2
      exact (Below.heap_alloc _ _ _ (by simp; omega)).trans (Below.heap_alloc _ _ _ this)
  clear h7
  go_enter Tryz.func47, Tryz.ntmps47
  go_wp2_with (go_at_call 69; (with_reducible refine (plainList_any l ih _ a c h6 ?_).mono ?_))
  · simpa using h7'
  rintro e w2 ⟨A, C, rfl, hC, hB2, hr⟩
  have hs2 := hB2.size
  simp at hs2
  have hB : Below w.heap.size w w2 := (((Below.refl _ _).alloc (Nat.le_refl _) _).alloc (by simp) _).trans (hB2.mono (by simp; omega))
  have hR := blk_below (new_block (w := w.alloc (.cells #[.int .i64 5, .int .i64 n, .float .f64 f, .string s, vk, .slice a l.length c] 27)) (b := w.heap.size + 1) (o := .cells #[.int .i64 0, .int .i64 0, .float .f64 0, .string ⟨#[]⟩, .slice none 0 0, .slice none 0 0] 27) (by simp)) hB2
  have hr' : l = [] ∨ ∃ b o, Btw (w.heap.size + 2) w2.heap.size b ∧ A = some ⟨b, o, none⟩ ∧ IsVs w2 (Btw (w.heap.size + 2) w2.heap.size) (cleanL l) b o := by simpa using hr
  clear hr hB2 h7' ih
  have q0 : w2.cell? ⟨w.heap.size + 1, 0, none⟩ = some (.int .i64 0) := blk_c hR 0 rfl
  have q1 : w2.cell? ⟨w.heap.size + 1, 1, none⟩ = some (.int .i64 0) := blk_c hR 1 rfl
  have q2 : w2.cell? ⟨w.heap.size + 1, 2, none⟩ = some (.float .f64 0) := blk_c hR 2 rfl
  have q3 : w2.cell? ⟨w.heap.size + 1, 3, none⟩ = some (.string ⟨#[]⟩) := blk_c hR 3 rfl
  have q4 : w2.cell? ⟨w.heap.size + 1, 4, none⟩ = some (.slice none 0 0) := blk_c hR 4 rfl
  have q5 : w2.cell? ⟨w.heap.size + 1, 5, none⟩ = some (.slice none 0 0) := blk_c hR 5 rfl
  have f0 := blk_frozen hR 0
  have f1 := blk_frozen hR 1
  have f2 := blk_frozen hR 2
  have f3 := blk_frozen hR 3
  have f4 := blk_frozen hR 4
  have f5 := blk_frozen hR 5
  go_wp2_with fail
  have hblk := st6_blk (c0 := .int .i64 5) (c1 := .int .i64 0) (c2 := .float .f64 0) (c3 := .string ⟨#[]⟩) (c4 := .slice none 0 0) (c5 := .slice A l.length C) hR
  have hfin : IsV (st6 w2 (w.heap.size + 1) (.int .i64 5) (.int .i64 0) (.float .f64 0) (.string ⟨#[]⟩) (.slice none 0 0) (.slice A l.length C)) (Btw w.heap.size (st6 w2 (w.heap.size + 1) (.int .i64 5) (.int .i64 0) (.float .f64 0) (.string ⟨#[]⟩) (.slice none 0 0) (.slice A l.length C)).heap.size) (cleanV (.mk 5 n f s ks l))
      (.agg #[.int .i64 5, .int .i64 0, .float .f64 0, .string ⟨#[]⟩, .slice none 0 0, .slice A l.length C]) := by
    rw [st6_size]
    have e : cleanV (.mk 5 n f s ks l) = .mk 5 0 0 ByteArray.empty [] (cleanL l) := by simp [cleanV]
    rw [e]
    refine IsV.mk_ (by decide) (by decide) (by decide) (by decide) ⟨none, 0, rfl, Nat.le_refl _, by decide, by simp, fun h => by simp at h⟩ (by rw [cleanL_length]; exact h6) ⟨A, C, by rw [cleanL_length], by rw [cleanL_length]; exact hC, ?_⟩
    rcases hr' with rfl | ⟨b, o, hb, ha, hx⟩
    · exact .inl (by simp [cleanL])
    · exact .inr ⟨b, o, ⟨by have := hb.1; omega, hb.2⟩, ha, IsVs.keep (S := Btw (w.heap.size + 2) w2.heap.size) (fun b hb => st6_eq (by have := hb.1; omega)) (Btw.mono (by omega) (Nat.le_refl _)) _ b o hb hx⟩
  have hBf : Below w.heap.size w (st6 w2 (w.heap.size + 1) (.int .i64 5) (.int .i64 0) (.float .f64 0) (.string ⟨#[]⟩) (.slice none 0 0) (.slice A l.length C)) := st6_below hB (by omega)
  refine bodyPost_ret (v := .agg #[.int .i64 5, .int .i64 0, .float .f64 0, .string ⟨#[]⟩, .slice none 0 0, .slice A l.length C]) ?_ rfl ?_
  · have e0 := blk_c hblk 0 (u := .int .i64 5) rfl
    have e1 := blk_c hblk 1 (u := .int .i64 0) rfl
    have e2 := blk_c hblk 2 (u := .float .f64 0) rfl
    have e3 := blk_c hblk 3 (u := .string ⟨#[]⟩) rfl
    have e4 := blk_c hblk 4 (u := .slice none 0 0) rfl
    have e5 := blk_c hblk 5 (u := .slice A l.length C) rfl
    unfold st6 at e0 e1 e2 e3 e4 e5
    simp [results, Tryz.results47, go_sem, e0, e1, e2, e3, e4, e5]
  · unfold st6 at hfin hBf
    exact ⟨_, rfl, hBf, hfin⟩
set_option maxHeartbeats 2000000 in
set_option maxRecDepth 100000 in
theorem clean_map (n : Int) (f : Nat) (s : ByteArray) (ks : List ByteArray) (l : List GV) (ih : ∀ y ∈ l, CleanC y) : CleanC (.mk 6 n f s ks l) := by
  intro w v hv
  have hv0 := hv
  obtain ⟨a0, c0, a1, c1, rfl⟩ := hv.form
  clear hv
  have hv1 := (hv0.alloc_ (.cells #[.int .i64 6, .int .i64 n, .float .f64 f, .string s, .slice a0 ks.length c0, .slice a1 l.length c1] 27)).alloc_ (.cells #[.int .i64 0, .int .i64 0, .float .f64 0, .string ⟨#[]⟩, .slice none 0 0, .slice none 0 0] 27)
  clear hv0
  simp only [GV.kind, GV.n, GV.f, GV.s, GV.keys, GV.l] at hv1 ⊢
  have hmc := cleanMC ks l ih
  clear ih
  go_enter Tryz.func47, Tryz.ntmps47
  go_wp2_with (go_at_call 82; (with_reducible refine (hmc.use 6 n f s _ _ ?_).mono ?_))
  · simpa using hv1
  rintro e w2 ⟨r, rfl, hB2, hr⟩
  have hs2 := hB2.size
  simp at hs2
  have hB : Below w.heap.size w w2 := (((Below.refl _ _).alloc (Nat.le_refl _) _).alloc (by simp) _).trans (hB2.mono (by simp; omega))
  have hR := blk_below (new_block (w := w.alloc (.cells #[.int .i64 6, .int .i64 n, .float .f64 f, .string s, .slice a0 ks.length c0, .slice a1 l.length c1] 27)) (b := w.heap.size + 1) (o := .cells #[.int .i64 0, .int .i64 0, .float .f64 0, .string ⟨#[]⟩, .slice none 0 0, .slice none 0 0] 27) (by simp)) hB2
  have hr' : IsV w2 (Btw (w.heap.size + 2) w2.heap.size) (cleanM ks l gMap) r := by simpa using hr
  clear hr hB2 hv1 hmc
  have hce : cleanV (.mk 6 n f s ks l) = cleanM ks l gMap := by simp [cleanV, gMap]
  generalize hacv : cleanM ks l gMap = acc at *
  have HCE := Lib.hid hce
  clear hacv hce
  obtain ⟨xa, xc, ya, yc, rfl⟩ := hr'.form
  have q0 : w2.cell? ⟨w.heap.size + 1, 0, none⟩ = some (.int .i64 0) := blk_c hR 0 rfl
  have q1 : w2.cell? ⟨w.heap.size + 1, 1, none⟩ = some (.int .i64 0) := blk_c hR 1 rfl
  have q2 : w2.cell? ⟨w.heap.size + 1, 2, none⟩ = some (.float .f64 0) := blk_c hR 2 rfl
  have q3 : w2.cell? ⟨w.heap.size + 1, 3, none⟩ = some (.string ⟨#[]⟩) := blk_c hR 3 rfl
  have q4 : w2.cell? ⟨w.heap.size + 1, 4, none⟩ = some (.slice none 0 0) := blk_c hR 4 rfl
  have q5 : w2.cell? ⟨w.heap.size + 1, 5, none⟩ = some (.slice none 0 0) := blk_c hR 5 rfl
  have f0 := blk_frozen hR 0
  have f1 := blk_frozen hR 1
  have f2 := blk_frozen hR 2
  have f3 := blk_frozen hR 3
  have f4 := blk_frozen hR 4
  have f5 := blk_frozen hR 5
  go_wp2_with fail
  have hblk := st6_blk (c0 := .int .i64 acc.kind) (c1 := .int .i64 acc.n) (c2 := .float .f64 acc.f) (c3 := .string acc.s) (c4 := .slice xa acc.keys.length xc) (c5 := .slice ya acc.l.length yc) hR
  have hfin : IsV (st6 w2 (w.heap.size + 1) (.int .i64 acc.kind) (.int .i64 acc.n) (.float .f64 acc.f) (.string acc.s) (.slice xa acc.keys.length xc) (.slice ya acc.l.length yc)) (Btw w.heap.size (st6 w2 (w.heap.size + 1) (.int .i64 acc.kind) (.int .i64 acc.n) (.float .f64 acc.f) (.string acc.s) (.slice xa acc.keys.length xc) (.slice ya acc.l.length yc)).heap.size) acc
      (.agg #[.int .i64 acc.kind, .int .i64 acc.n, .float .f64 acc.f, .string acc.s, .slice xa acc.keys.length xc, .slice ya acc.l.length yc]) := by
    rw [st6_size]
    exact IsV.keep (S := Btw (w.heap.size + 2) w2.heap.size) (fun b hb => st6_eq (by have := hb.1; omega)) (Btw.mono (by omega) (Nat.le_refl _)) _ hr'
  have hBf : Below w.heap.size w (st6 w2 (w.heap.size + 1) (.int .i64 acc.kind) (.int .i64 acc.n) (.float .f64 acc.f) (.string acc.s) (.slice xa acc.keys.length xc) (.slice ya acc.l.length yc)) := st6_below hB (by omega)
  refine bodyPost_ret (v := .agg #[.int .i64 acc.kind, .int .i64 acc.n, .float .f64 acc.f, .string acc.s, .slice xa acc.keys.length xc, .slice ya acc.l.length yc]) ?_ rfl ?_
  · have e0 := blk_c hblk 0 (u := .int .i64 acc.kind) rfl
    have e1 := blk_c hblk 1 (u := .int .i64 acc.n) rfl
    have e2 := blk_c hblk 2 (u := .float .f64 acc.f) rfl
    have e3 := blk_c hblk 3 (u := .string acc.s) rfl
    have e4 := blk_c hblk 4 (u := .slice xa acc.keys.length xc) rfl
    have e5 := blk_c hblk 5 (u := .slice ya acc.l.length yc) rfl
    unfold st6 at e0 e1 e2 e3 e4 e5
    simp [results, Tryz.results47, go_sem, e0, e1, e2, e3, e4, e5]
  · unfold st6 at hfin hBf
    rw [HCE.out]
    exact ⟨_, rfl, hBf, hfin⟩
/-- Clean makes the plain form. -/
theorem clean_any : ∀ (x : GV), CleanC x
  | .mk k n f s ks l => by
    have ih : ∀ y ∈ l, CleanC y := fun y hy => clean_any y
    by_cases h5 : k = 5
    · subst h5; exact clean_list n f s ks l ih
    by_cases h6 : k = 6
    · subst h6; exact clean_map n f s ks l ih
    exact clean_scalar k n f s ks l h5 h6
termination_by x => SizeOf.sizeOf x
decreasing_by
  have := List.sizeOf_lt_of_mem hy
  simp; omega
end Go.Proofs.YtbbacpdbbmjblaaGreat
end
