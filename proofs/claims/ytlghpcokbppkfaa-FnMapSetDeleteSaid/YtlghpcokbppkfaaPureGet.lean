/- Plain maps as tables: a key's value, and what setting a key does to it; a tree's value. -/
import Derived.Test.YtlghpcokbppkfaaClean
import Derived.Test.YtlghpcokbppkfaaCleanMap
import Derived.Test.YtlghpcokbppkfaaPlain
namespace Go.Proofs.Ytlghpcokbppkfaa

/-- The value under a key in a list of pairs. -/
def getA {α : Type} : List (ByteArray × α) → ByteArray → Option α
  | [], _ => none
  | e :: r, k => if e.1 = k then some e.2 else getA r k

theorem getA_append {α : Type} (a b : List (ByteArray × α)) (k : ByteArray) : getA (a ++ b) k = (getA a k).or (getA b k) := by
  induction a with
  | nil => simp [getA]
  | cons e r ih =>
    simp only [List.cons_append, getA]
    split <;> simp [*]
theorem getA_none {α : Type} {a : List (ByteArray × α)} {k : ByteArray} (h : ∀ e ∈ a, e.1 ≠ k) : getA a k = none := by
  induction a with
  | nil => rfl
  | cons e r ih =>
    simp only [getA]
    rw [if_neg (h e (by simp)), ih (fun x hx => h x (by simp [hx]))]
theorem getA_mem {α : Type} {a : List (ByteArray × α)} {k : ByteArray} {x : α} (h : getA a k = some x) : (k, x) ∈ a := by
  induction a with
  | nil => simp [getA] at h
  | cons e r ih =>
    simp only [getA] at h
    split at h
    · rename_i he
      cases h; subst he; simp
    · exact List.mem_cons_of_mem _ (ih h)
theorem getA_of_mem {α : Type} {a : List (ByteArray × α)} {k : ByteArray} {x : α} (hd : (a.map (·.1)).Nodup) (h : (k, x) ∈ a) : getA a k = some x := by
  induction a with
  | nil => simp at h
  | cons e r ih =>
    simp only [List.map_cons, List.nodup_cons] at hd
    simp only [getA]
    rcases List.mem_cons.1 h with rfl | h
    · simp
    · have : e.1 ≠ k := fun he => hd.1 (by rw [he]; exact List.mem_map_of_mem (f := (·.1)) h)
      rw [if_neg this, ih hd.2 h]
theorem getA_putA {α : Type} (m : List (ByteArray × α)) (k : ByteArray) (x : α) (k' : ByteArray) : getA (putA m k x) k' = if k = k' then some x else getA m k' := by
  induction m with
  | nil => simp [putA, getA]
  | cons e r ih =>
    simp only [putA]
    split
    · rename_i he
      simp only [getA, he]
      split <;> rfl
    · rename_i he
      simp only [getA, ih]
      by_cases h : e.1 = k'
      · rw [if_pos h, if_neg (fun e' => he (by rw [h, e'])), if_pos h]
      · rw [if_neg h, if_neg h]
theorem putA_keys {α : Type} (m : List (ByteArray × α)) (k : ByteArray) (x : α) {y : ByteArray} (h : y ∈ (putA m k x).map (·.1)) : y = k ∨ y ∈ m.map (·.1) := by
  induction m with
  | nil => simp [putA] at h; exact .inl h
  | cons e r ih =>
    simp only [putA] at h
    split at h
    · rename_i he
      simp only [List.map_cons, List.mem_cons] at h
      rcases h with h | h
      · exact .inl h
      · exact .inr (by simp [h])
    · simp only [List.map_cons, List.mem_cons] at h
      rcases h with h | h
      · exact .inr (by simp [h])
      · rcases ih h with h | h
        · exact .inl h
        · exact .inr (List.mem_cons_of_mem _ h)
theorem putA_nodup {α : Type} {m : List (ByteArray × α)} (h : (m.map (·.1)).Nodup) (k : ByteArray) (x : α) : ((putA m k x).map (·.1)).Nodup := by
  induction m with
  | nil => simp [putA]
  | cons e r ih =>
    simp only [List.map_cons, List.nodup_cons] at h
    simp only [putA]
    split
    · rename_i he
      simp only [List.map_cons, List.nodup_cons]
      exact ⟨by rw [← he]; exact h.1, h.2⟩
    · rename_i he
      simp only [List.map_cons, List.nodup_cons]
      refine ⟨fun hm => ?_, ih h.2⟩
      rcases putA_keys r k x hm with h' | h'
      · exact he h'
      · exact h.1 h'

/-- Two tables in increasing order of the keys that say the same of every key are one. -/
theorem getA_ext {α : Type} : ∀ {a b : List (ByteArray × α)}, Incr (a.map (·.1)) → Incr (b.map (·.1)) → (∀ k, getA a k = getA b k) → a = b
  | [], [], _, _, _ => rfl
  | [], e :: r, _, _, h => by have := h e.1; simp [getA] at this
  | e :: r, [], _, _, h => by have := h e.1; simp [getA] at this
  | (k, x) :: r, (k', y) :: s, ha, hb, h => by
    unfold Incr at ha hb
    simp only [List.map_cons, List.pairwise_cons] at ha hb
    have hr : ∀ {z : ByteArray}, (z = k ∨ blt z k = true) → getA r z = none := fun {z} hz => getA_none fun e he heq => by
      have h1 := ha.1 e.1 (List.mem_map_of_mem he)
      rw [heq] at h1
      rcases hz with rfl | hz
      · rw [blt_irrefl] at h1; cases h1
      · have := blt_trans h1 hz; rw [blt_irrefl] at this; cases this
    have hs : ∀ {z : ByteArray}, (z = k' ∨ blt z k' = true) → getA s z = none := fun {z} hz => getA_none fun e he heq => by
      have h1 := hb.1 e.1 (List.mem_map_of_mem he)
      rw [heq] at h1
      rcases hz with rfl | hz
      · rw [blt_irrefl] at h1; cases h1
      · have := blt_trans h1 hz; rw [blt_irrefl] at this; cases this
    have hk : k = k' := by
      by_cases e : k = k'
      · exact e
      · exfalso
        have e' : ¬ k' = k := fun h => e h.symm
        have h1 := h k
        have h2 := h k'
        simp only [getA, if_true, if_neg e, if_neg e'] at h1 h2
        cases hb1 : blt k k' with
        | true => rw [hs (.inr hb1)] at h1; cases h1
        | false =>
          cases hb2 : blt k' k with
          | true => rw [hr (.inr hb2)] at h2; cases h2
          | false => exact e (blt_total hb1 hb2)
    subst hk
    have h1 := h k
    simp only [getA, if_true, Option.some.injEq] at h1
    subst h1
    have := getA_ext (a := r) (b := s) ha.2 hb.2 (fun z => by
      by_cases e : k = z
      · subst e; rw [hr (.inl rfl), hs (.inl rfl)]
      · have := h z
        simpa only [getA, if_neg e] using this)
    rw [this]

/-- A plain map's value under a key. -/
def getF (m : GV) (k : ByteArray) : Option GV := getA (m.keys.zip m.l) k

theorem zip_fst {α β : Type} : ∀ {a : List α} {b : List β}, a.length = b.length → (a.zip b).map (·.1) = a
  | [], [], _ => rfl
  | _ :: _, _ :: _, h => by simp [zip_fst (by simpa using h)]
theorem zip_snd {α β : Type} : ∀ {a : List α} {b : List β}, a.length = b.length → (a.zip b).map (·.2) = b
  | [], [], _ => rfl
  | _ :: _, _ :: _, h => by simp [zip_snd (by simpa using h)]

theorem plain_ext {a b : GV} (ha : Plain a) (hb : Plain b) (h : ∀ k, getF a k = getF b k) : a = b := by
  obtain ⟨ks, l, rfl, hi, hl⟩ := ha
  obtain ⟨ks', l', rfl, hi', hl'⟩ := hb
  have := getA_ext (a := ks.zip l) (b := ks'.zip l') (by rw [zip_fst hl]; exact hi) (by rw [zip_fst hl']; exact hi') h
  have e1 := congrArg (List.map (·.1)) this
  have e2 := congrArg (List.map (·.2)) this
  rw [zip_fst hl, zip_fst hl'] at e1
  rw [zip_snd hl, zip_snd hl'] at e2
  rw [e1, e2]

theorem insL_zip {α : Type} {ks : List ByteArray} {l : List α} (hl : ks.length = l.length) (k : ByteArray) (x : α) : (insL ks ks k k).zip (insL ks l k x) = insL ks (ks.zip l) k (k, x) := by
  unfold insL
  have h1 : (ks.take (lb ks k)).length = (l.take (lb ks k)).length := by simp [hl]
  rw [List.zip_append (by simp [hl]), List.zip_append h1]
  have ht : ∀ n, (ks.take n).zip (l.take n) = (ks.zip l).take n := fun n => by simp only [List.zip, List.take_zipWith]
  have hd : ∀ n, (ks.drop n).zip (l.drop n) = (ks.zip l).drop n := fun n => by simp only [List.zip, List.drop_zipWith]
  rw [ht, hd]
  rfl

theorem getF_with {m : GV} (hm : Plain m) (k : ByteArray) (x : GV) (k' : ByteArray) : getF (withF m k x) k' = if k = k' then some x else getF m k' := by
  obtain ⟨ks, l, rfl, hi, hl⟩ := hm
  unfold getF withF
  simp only [GV.keys, GV.l]
  rw [insL_zip hl]
  unfold insL
  rw [getA_append, getA_append]
  have hP : (ks.zip l).map (·.1) = ks := zip_fst hl
  by_cases h : k = k'
  · subst h
    rw [getA_none (a := (ks.zip l).take (lb ks k)) (fun e he heq => by
      have h1 : e.1 ∈ ks.take (lb ks k) := by
        have := List.mem_map_of_mem (f := (·.1)) he
        rwa [List.map_take, hP] at this
      have := lb_lt h1
      rw [heq, blt_irrefl] at this; cases this)]
    simp [getA]
  · simp only [getA, if_neg h]
    have hsplit : ks.zip l = (ks.zip l).take (lb ks k) ++ ((ks.zip l).drop (lb ks k)).take (if hasAt ks k then 1 else 0) ++ (ks.zip l).drop (lb ks k + if hasAt ks k then 1 else 0) := by
      rw [List.append_assoc, ← List.drop_drop, List.take_append_drop, List.take_append_drop]
    conv => rhs; rw [hsplit]
    rw [getA_append, getA_append]
    have hmid : getA (((ks.zip l).drop (lb ks k)).take (if hasAt ks k then 1 else 0)) k' = none := by
      refine getA_none fun e he heq => ?_
      cases hh : hasAt ks k with
      | false => rw [hh] at he; simp at he
      | true =>
        rw [hh] at he
        unfold hasAt at hh
        simp only [decide_eq_true_eq] at hh
        have h2 := List.mem_map_of_mem (f := (·.1)) he
        rw [List.map_take, List.map_drop, hP] at h2
        simp only [if_true] at h2
        obtain ⟨i, hi'⟩ := List.getElem?_of_mem h2
        rw [List.getElem?_take] at hi'
        split at hi'
        · rename_i hi1
          have : i = 0 := by omega
          subst this
          rw [List.getElem?_drop, Nat.add_zero, hh] at hi'
          cases hi'
          exact h heq
        · cases hi'
    rw [hmid]

theorem getF_gMap (k : ByteArray) : getF gMap k = none := rfl

mutual
/-- The value of a tree. -/
def unJ : JV → GV
  | .null => gNull
  | .bool b => gv 1 (if b then 1 else 0) 0 ByteArray.empty
  | .int n => gv 2 n 0 ByteArray.empty
  | .flt f => gv 3 0 f ByteArray.empty
  | .str s => gv 4 0 0 s
  | .list l => .mk 5 0 0 ByteArray.empty [] (unJs l)
  | .map m => unM m gMap
def unJs : List JV → List GV
  | [] => []
  | x :: r => unJ x :: unJs r
def unM : List (ByteArray × JV) → GV → GV
  | [], acc => acc
  | x :: r, acc => unM r (withF acc x.1 (unJ x.2))
end

theorem unM_plain : ∀ (m : List (ByteArray × JV)) (g : GV), Plain g → Plain (unM m g)
  | [], g, h => by simpa [unM] using h
  | x :: r, g, h => by
    simp only [unM]
    exact unM_plain r _ (withF_plain h _ _)
theorem getF_unM : ∀ (m : List (ByteArray × JV)) (g : GV), Plain g → (m.map (·.1)).Nodup → ∀ k, getF (unM m g) k = ((getA m k).map unJ).or (getF g k)
  | [], g, h, _, k => by simp [unM, getA]
  | x :: r, g, h, hd, k => by
    simp only [List.map_cons, List.nodup_cons] at hd
    simp only [unM]
    rw [getF_unM r _ (withF_plain h _ _) hd.2, getF_with h]
    simp only [getA]
    by_cases e : x.1 = k
    · have : getA r k = none := getA_none fun y hy hyk => hd.1 (by rw [e, ← hyk]; exact List.mem_map_of_mem (f := (·.1)) hy)
      rw [if_pos e, if_pos e, this]; simp
    · rw [if_neg e, if_neg e]
theorem unM_put {m : List (ByteArray × JV)} (hd : (m.map (·.1)).Nodup) {g : GV} (hg : Plain g) (k : ByteArray) (j : JV) : unM (putA m k j) g = withF (unM m g) k (unJ j) := by
  refine plain_ext (unM_plain _ _ hg) (withF_plain (unM_plain _ _ hg) _ _) fun z => ?_
  rw [getF_unM _ _ hg (putA_nodup hd _ _), getF_with (unM_plain _ _ hg), getF_unM _ _ hg hd, getA_putA]
  by_cases e : k = z
  · rw [if_pos e, if_pos e]; simp
  · rw [if_neg e, if_neg e]

theorem unM_plainM : ∀ (ks : List ByteArray) (l : List GV) (acc : List (ByteArray × JV)), (∀ y ∈ l, unJ (plainJ y) = cleanV y) → (acc.map (·.1)).Nodup → unM (plainM ks l acc) gMap = cleanM ks l (unM acc gMap) ∧ ((plainM ks l acc).map (·.1)).Nodup
  | [], l, acc, _, hd => by simp only [plainM, cleanM]; exact ⟨trivial, hd⟩
  | _ :: _, [], acc, _, hd => by simp only [plainM, cleanM]; exact ⟨trivial, hd⟩
  | k :: ks, x :: l, acc, ih, hd => by
    simp only [plainM, cleanM]
    have := unM_plainM ks l (putA acc k (plainJ x)) (fun y hy => ih y (by simp [hy])) (putA_nodup hd _ _)
    rw [unM_put hd gMap_plain, ih x (by simp)] at this
    exact this
theorem unJs_plainJs : ∀ (l : List GV), (∀ y ∈ l, unJ (plainJ y) = cleanV y) → unJs (plainJs l) = cleanL l
  | [], _ => by simp [unJs, plainJs, cleanL]
  | x :: l, ih => by
    simp only [unJs, plainJs, cleanL]
    rw [ih x (by simp), unJs_plainJs l (fun y hy => ih y (by simp [hy]))]

/-- A tree made of a value, taken apart: the value's plain form. -/
theorem un_plain : ∀ x : GV, unJ (plainJ x) = cleanV x
  | .mk k n f s ks l => by
    have ih : ∀ y ∈ l, unJ (plainJ y) = cleanV y := fun y hy => un_plain y
    unfold plainJ cleanV
    by_cases h1 : k = 1
    · simp only [h1, if_true, unJ, gv]
      by_cases hn : n = 0 <;> simp [hn]
    by_cases h2 : k = 2
    · simp [h2, unJ, gv]
    by_cases h3 : k = 3
    · simp [h3, unJ, gv]
    by_cases h4 : k = 4
    · simp [h4, unJ, gv]
    by_cases h5 : k = 5
    · simp [h5, unJ, unJs_plainJs l ih]
    by_cases h6 : k = 6
    · have := (unM_plainM ks l [] ih (by simp)).1
      simp only [unM] at this
      unfold gMap at this
      simp [h6, unJ, gMap, this]
    simp [h1, h2, h3, h4, h5, h6, unJ]
termination_by x => SizeOf.sizeOf x
decreasing_by
  have := List.sizeOf_lt_of_mem hy
  simp; omega

mutual
/-- In every map of the tree each key stands once, and nothing is beyond memory. -/
def JOk : JV → Prop
  | .list l => l.length * 88 ≤ 140737488351232 ∧ JOks l
  | .map m => (m.map (·.1)).Nodup ∧ m.length * 88 ≤ 140737488351232 ∧ JOkm m
  | _ => True
def JOks : List JV → Prop
  | [] => True
  | x :: r => JOk x ∧ JOks r
def JOkm : List (ByteArray × JV) → Prop
  | [] => True
  | x :: r => JOk x.2 ∧ JOkm r
end
theorem JOkm_put : ∀ (m : List (ByteArray × JV)) (k : ByteArray) (j : JV), JOkm m → JOk j → JOkm (putA m k j)
  | [], k, j, _, hj => by simp [putA, JOkm, hj]
  | e :: r, k, j, h, hj => by
    simp only [JOkm] at h
    simp only [putA]
    split
    · simp only [JOkm]; exact ⟨hj, h.2⟩
    · simp only [JOkm]; exact ⟨h.1, JOkm_put r k j h.2 hj⟩
theorem plainM_ok : ∀ (ks : List ByteArray) (l : List GV) (acc : List (ByteArray × JV)), (∀ y ∈ l, JOk (plainJ y)) → JOkm acc → JOkm (plainM ks l acc)
  | [], l, acc, _, h => by simpa only [plainM] using h
  | _ :: _, [], acc, _, h => by simpa only [plainM] using h
  | k :: ks, x :: l, acc, ih, h => by
    simp only [plainM]
    exact plainM_ok ks l _ (fun y hy => ih y (by simp [hy])) (JOkm_put acc k _ h (ih x (by simp)))
theorem plainJs_ok : ∀ (l : List GV), (∀ y ∈ l, JOk (plainJ y)) → JOks (plainJs l)
  | [], _ => by simp [plainJs, JOks]
  | x :: l, ih => by
    simp only [plainJs, JOks]
    exact ⟨ih x (by simp), plainJs_ok l (fun y hy => ih y (by simp [hy]))⟩
theorem plainM_len : ∀ (ks : List ByteArray) (l : List GV) (acc : List (ByteArray × JV)), (plainM ks l acc).length ≤ acc.length + l.length
  | [], l, acc => by simp [plainM]
  | _ :: _, [], acc => by simp [plainM]
  | k :: ks, x :: l, acc => by
    simp only [plainM]
    have := plainM_len ks l (putA acc k (plainJ x))
    have := putA_length acc k (plainJ x)
    simp only [List.length_cons]; omega

mutual
/-- Nothing in the value is beyond memory. -/
def GOk : GV → Prop
  | .mk _ _ _ _ _ l => l.length * 88 ≤ 140737488351232 ∧ GOks l
def GOks : List GV → Prop
  | [] => True
  | x :: r => GOk x ∧ GOks r
end
theorem GOks_mem : ∀ {l : List GV}, GOks l → ∀ y ∈ l, GOk y
  | x :: r, h, y, hy => by
    simp only [GOks] at h
    rcases List.mem_cons.1 hy with rfl | hy
    · exact h.1
    · exact GOks_mem h.2 y hy
mutual
theorem IsV.gok {w : World} {S : Nat → Prop} : ∀ (x : GV) {v : Value}, IsV w S x v → GOk x
  | .mk k n f s ks l, v, h => by
    unfold IsV at h
    obtain ⟨vk, a, c, _, _, _, _, _, _, _, hz, hl⟩ := h
    unfold GOk
    refine ⟨hz, ?_⟩
    rcases hl with rfl | ⟨b, o, _, _, hv⟩
    · simp [GOks]
    · exact IsVs.gok l hv
theorem IsVs.gok {w : World} {S : Nat → Prop} : ∀ (l : List GV) {b o : Nat}, IsVs w S l b o → GOks l
  | [], _, _, _ => by simp [GOks]
  | x :: r, b, o, h => by
    unfold IsVs at h
    obtain ⟨⟨c0, c1, c2, c3, c4, c5, _, _, _, _, _, _, hx⟩, hr⟩ := h
    unfold GOks
    exact ⟨IsV.gok x hx, IsVs.gok r hr⟩
end
theorem plain_ok : ∀ x : GV, GOk x → JOk (plainJ x)
  | .mk k n f s ks l, hg => by
    unfold GOk at hg
    have ih : ∀ y ∈ l, JOk (plainJ y) := fun y hy => plain_ok y (GOks_mem hg.2 y hy)
    unfold plainJ
    split
    · simp [JOk]
    split
    · simp [JOk]
    split
    · simp [JOk]
    split
    · simp [JOk]
    split
    · simp only [JOk]; exact ⟨by rw [plainJs_length]; exact hg.1, plainJs_ok l ih⟩
    split
    · simp only [JOk]; exact ⟨(unM_plainM ks l [] (fun y _ => un_plain y) (by simp)).2, by have := plainM_len ks l []; simp only [List.length_nil] at this; omega, plainM_ok ks l [] ih (by simp [JOkm])⟩
    · simp [JOk]
termination_by x => SizeOf.sizeOf x
decreasing_by
  have := List.sizeOf_lt_of_mem hy
  simp; omega
end Go.Proofs.Ytlghpcokbppkfaa
