/- The plain form of a plain form is it. -/
import Derived.Test.YtlghpcokbppkfaaPureGet
import Derived.Test.YtlghpcokbppkfaaCleanElem
namespace Go.Proofs.Ytlghpcokbppkfaa

theorem insL_mem {α : Type} {ks : List ByteArray} {l : List α} {k : ByteArray} {x y : α} (h : y ∈ insL ks l k x) : y = x ∨ y ∈ l := by
  unfold insL at h
  simp only [List.mem_append, List.mem_cons, List.not_mem_nil, or_false] at h
  rcases h with (h | h) | h
  · exact .inr (List.mem_of_mem_take h)
  · exact .inl h
  · exact .inr (List.mem_of_mem_drop h)
theorem withF_mem {m x y : GV} {k : ByteArray} (h : y ∈ (withF m k x).l) : y = x ∨ y ∈ m.l := by
  unfold withF at h
  exact insL_mem h
theorem cleanM_mem : ∀ (ks : List ByteArray) (l : List GV) (acc y : GV), y ∈ (cleanM ks l acc).l → (∃ z ∈ l, y = cleanV z) ∨ y ∈ acc.l
  | [], l, acc, y, h => by simp only [cleanM] at h; exact .inr h
  | _ :: _, [], acc, y, h => by simp only [cleanM] at h; exact .inr h
  | k :: ks, x :: l, acc, y, h => by
    simp only [cleanM] at h
    rcases cleanM_mem ks l _ y h with ⟨z, hz, e⟩ | h
    · exact .inl ⟨z, by simp [hz], e⟩
    · rcases withF_mem h with e | h
      · exact .inl ⟨x, by simp, e⟩
      · exact .inr h
theorem getF_cleanM : ∀ (ks : List ByteArray) (l : List GV) (acc : GV), Plain acc → ks.Nodup → ∀ k, getF (cleanM ks l acc) k = ((getA (ks.zip l) k).map cleanV).or (getF acc k)
  | [], l, acc, h, _, k => by simp [cleanM, getA]
  | _ :: _, [], acc, h, _, k => by simp [cleanM, getA]
  | a :: ks, x :: l, acc, h, hd, k => by
    simp only [List.nodup_cons] at hd
    simp only [cleanM]
    rw [getF_cleanM ks l _ (withF_plain h _ _) hd.2, getF_with h]
    simp only [List.zip_cons_cons, getA]
    by_cases e : a = k
    · have : getA (ks.zip l) k = none := getA_none fun y hy hyk => hd.1 (by rw [e, ← hyk]; exact (List.of_mem_zip (a := y.1) (b := y.2) hy).1)
      rw [if_pos e, if_pos e, this]; simp
    · rw [if_neg e, if_neg e]
theorem getA_map {α : Type} {f : α → α} : ∀ (a : List (ByteArray × α)) (k : ByteArray), (∀ e ∈ a, f e.2 = e.2) → (getA a k).map f = getA a k
  | [], k, _ => rfl
  | e :: r, k, h => by
    simp only [getA]
    split
    · simp [h e (by simp)]
    · exact getA_map r k fun x hx => h x (by simp [hx])
theorem incr_nodup {ks : List ByteArray} (h : Incr ks) : ks.Nodup := List.Pairwise.imp (fun {a b} hab e => by rw [e, blt_irrefl] at hab; cases hab) h
theorem cleanM_fix {g : GV} (hg : Plain g) (h : ∀ y ∈ g.l, cleanV y = y) : cleanM g.keys g.l gMap = g := by
  refine plain_ext (cleanM_plain _ _ _ gMap_plain).1 hg fun k => ?_
  obtain ⟨ks, l, rfl, hi, hl⟩ := hg
  simp only [GV.keys, GV.l] at h ⊢
  rw [getF_cleanM _ _ _ gMap_plain (incr_nodup hi)]
  rw [getA_map _ _ (fun e he => h e.2 (List.of_mem_zip (a := e.1) (b := e.2) he).2)]
  rw [getF_gMap, Option.or_none]
  rfl

theorem cleanL_fix : ∀ (l : List GV), (∀ y ∈ l, cleanV (cleanV y) = cleanV y) → cleanL (cleanL l) = cleanL l
  | [], _ => by simp [cleanL]
  | x :: l, h => by
    simp only [cleanL]
    rw [h x (by simp), cleanL_fix l fun y hy => h y (by simp [hy])]

theorem cleanV_idem : ∀ x : GV, cleanV (cleanV x) = cleanV x
  | .mk k n f s ks l => by
    have ih : ∀ y ∈ l, cleanV (cleanV y) = cleanV y := fun y hy => cleanV_idem y
    by_cases h1 : k = 1
    · subst h1; by_cases hn : n = 0 <;> simp [cleanV, hn]
    by_cases h2 : k = 2
    · subst h2; simp [cleanV]
    by_cases h3 : k = 3
    · subst h3; simp [cleanV]
    by_cases h4 : k = 4
    · subst h4; simp [cleanV]
    by_cases h5 : k = 5
    · subst h5; simp [cleanV, cleanL_fix l ih]
    by_cases h6 : k = 6
    · subst h6
      have e : cleanV (.mk 6 n f s ks l) = cleanM ks l gMap := by simp [cleanV, gMap]
      rw [e]
      have hp := (cleanM_plain ks l gMap gMap_plain).1
      have hfix := cleanM_fix hp (fun y hy => by
        rcases cleanM_mem ks l gMap y hy with ⟨z, hz, rfl⟩ | hy
        · exact ih z hz
        · simp [gMap, GV.l] at hy)
      obtain ⟨ks', l', e', _, _⟩ := hp
      rw [e'] at hfix ⊢
      simpa [cleanV, gMap, GV.keys, GV.l] using hfix
    · simp [cleanV, h1, h2, h3, h4, h5, h6, gNull]
termination_by x => SizeOf.sizeOf x
decreasing_by
  have := List.sizeOf_lt_of_mem hy
  simp; omega

theorem cleanE_idem (x : EV) : cleanE (cleanE x) = cleanE x := by
  have hn : cleanV gNull = gNull := by simp [cleanV, gNull]
  unfold cleanE
  split
  · simp only [if_true]
    have hl : (x.keys.take (min x.keys.length x.l.length)).length = min x.keys.length x.l.length := by rw [List.length_take]; omega
    have hl' : (cleanL (x.l.take (min x.keys.length x.l.length))).length = min x.keys.length x.l.length := by rw [cleanL_length, List.length_take]; omega
    have e1 : (x.keys.take (min x.keys.length x.l.length)).take (min x.keys.length x.l.length) = x.keys.take (min x.keys.length x.l.length) := by rw [List.take_take, Nat.min_self]
    have e2 : (cleanL (x.l.take (min x.keys.length x.l.length))).take (min x.keys.length x.l.length) = cleanL (x.l.take (min x.keys.length x.l.length)) := List.take_of_length_le (by rw [hl']; omega)
    simp only [hl, hl', Nat.min_self, e1, e2, cleanL_fix _ (fun y _ => cleanV_idem y)]
  split
  · simp [cleanV_idem]
  split <;> simp
end Go.Proofs.Ytlghpcokbppkfaa
