/- A range over a map that is only read, whatever the round does with new memory; a cell of the call's own row written. -/
import Derived.Test.YtlghpcokbppkfaaCells
import Derived.Maps.RangeRun
import Derived.Maps.RangeWalk
namespace Go.Proofs.Ytlghpcokbppkfaa
open Go.RowKit
open Go.ChangeMaps (setBlock)

/-- The iterator in block r goes over the map in block bm, which holds es; the entries of 'done' have come out. -/
structure Rng (w : World) (bm r : Nat) (es : Array MapEntry) (cl : Nat) (done : List MapEntry) : Prop where
  map : w.heap[bm]? = some (.map es cl)
  iter : ∃ seen : Array Nat, seen.toList = done.map (·.born) ∧ w.heap[r]? = some (.mapIter (some bm) cl seen cl)
  ne : bm ≠ r
  sub : ∀ e ∈ done, e ∈ es.toList
  nodup : (done.map (·.born)).Nodup
  old : ∀ x ∈ es.toList, x.born < cl
  born : (es.toList.map (·.born)).Nodup

theorem Rng.of_eq {w w' : World} {bm r : Nat} {es : Array MapEntry} {cl : Nat} {done : List MapEntry} (h : Rng w bm r es cl done) (h1 : w'.heap[bm]? = w.heap[bm]?) (h2 : w'.heap[r]? = w.heap[r]?) : Rng w' bm r es cl done := by
  obtain ⟨a, b, c, d, e, f, g⟩ := h
  obtain ⟨s, hs, hr⟩ := b
  exact ⟨h1.trans a, ⟨s, hs, h2.trans hr⟩, c, d, e, f, g⟩
theorem nodup_len {α : Type} [DecidableEq α] : ∀ {a l : List α}, a.Nodup → (∀ x ∈ a, x ∈ l) → a.length ≤ l.length
  | [], _, _, _ => Nat.zero_le _
  | x :: a, l, hn, hs => by
    simp only [List.nodup_cons] at hn
    have hx := hs x (by simp)
    have := nodup_len (a := a) (l := l.erase x) hn.2 (fun y hy => by
      have hy' := hs y (by simp [hy])
      have hne : y ≠ x := fun e => hn.1 (e ▸ hy)
      exact (List.mem_erase_of_ne hne).2 hy')
    rw [List.length_erase_of_mem hx] at this
    have hp := List.length_pos_of_mem hx
    simp only [List.length_cons]; omega
theorem Rng.len {w : World} {bm r : Nat} {es : Array MapEntry} {cl : Nat} {done : List MapEntry} (h : Rng w bm r es cl done) : done.length ≤ es.size := by
  have h1 := nodup_len (a := done.map (·.born)) (l := es.toList.map (·.born)) h.nodup (fun x hx => by
    obtain ⟨d, hd, rfl⟩ := List.mem_map.1 hx
    exact List.mem_map_of_mem (h.sub d hd))
  simpa using h1
theorem Rng.lt_ {w : World} {bm r : Nat} {es : Array MapEntry} {cl : Nat} {done : List MapEntry} (h : Rng w bm r es cl done) : bm < w.heap.size ∧ r < w.heap.size := by
  obtain ⟨s, _, hr⟩ := h.iter
  exact ⟨blk_lt h.map, blk_lt hr⟩

theorem born_inj {l : List MapEntry} (h : (l.map (·.born)).Nodup) : ∀ {e e' : MapEntry}, e ∈ l → e' ∈ l → e.born = e'.born → e = e' := by
  induction l with
  | nil => intro _ _ h; cases h
  | cons a r ih =>
    simp only [List.map_cons, List.nodup_cons] at h
    intro e e' he he' hb
    rcases List.mem_cons.1 he with h1 | h1
    · rcases List.mem_cons.1 he' with h2 | h2
      · rw [h1, h2]
      · exact absurd (by rw [← h1, hb]; exact List.mem_map_of_mem (f := (·.born)) h2) h.1
    · rcases List.mem_cons.1 he' with h2 | h2
      · exact absurd (by rw [← h2, ← hb]; exact List.mem_map_of_mem (f := (·.born)) h1) h.1
      · exact ih h.2 h1 h2 hb

theorem setBlock_self (w : World) (r : Nat) (o : Obj) (h : r < w.heap.size) : (setBlock w r o).heap[r]? = some o := by
  simp [setBlock, h]

/-- 'next': all have come out, or one comes that has not. -/
theorem wpList_next_rng {P : Program} {ops : Array Oper} {rest : List Oper} {o : Oper} {a : Act} {Q : Exit → Act → World → Prop} {w : World} (hgd : o.guard = none) (x : Operand) (ty : TypeId) (hop : o.op = .next x false) (hty : o.type = ty)
    {bm r : Nat} {es : Array MapEntry} {cl : Nat} {done : List MapEntry} (hx : a.eval x = .pointer (some ⟨r, 0, none⟩)) (hr : Rng w bm r es cl done)
    (h0 : (∀ e ∈ es.toList, e ∈ done) → wpList P ops Q rest (a.put o.dst (.tuple #[.bool false])) w)
    (h1 : ∀ e ∈ es.toList, e ∉ done → ∀ w', Rng w' bm r es cl (done ++ [e]) → (∀ B, B ≤ r → Below B w w') → (∀ k, k ≠ r → w'.heap[k]? = w.heap[k]?) → w'.heap.size = w.heap.size →
      (Instr.entry (.pointer (some ⟨r, 0, none⟩))).run P w' = .ok (.tuple #[e.key, e.val]) w' →
      wpList P ops Q rest (a.put o.dst (.tuple #[.bool true, e.key, e.val])) w') : wpList P ops Q (o :: rest) a w := by
  refine wpList_plain hgd fun K' hK' => ?_
  obtain ⟨seen, hseen, hit⟩ := hr.iter
  rcases run_next_at (P := P) w ty r bm cl cl seen es cl hit hr.map hr.old (Nat.le_refl _) with ⟨hl, hrun⟩ | ⟨e, he, w1, hw1, hrun⟩
  · unfold Oper.wp
    simp [execOp, hop, hx, hty, hrun, Result.andThen]
    refine hK' _ _ (h0 fun e he => ?_)
    have hl' : leftOf es seen = #[] := Array.eq_empty_of_size_eq_zero hl
    have hc : seen.contains e.born = true := by
      cases hc : seen.contains e.born with
      | true => rfl
      | false =>
        exfalso
        have : e ∈ (leftOf es seen) := by
          unfold leftOf
          simp only [Array.mem_filter]
          exact ⟨by simpa using he, by rw [hc]; rfl⟩
        rw [hl'] at this
        simp at this
    have hm : e.born ∈ done.map (·.born) := by rw [← hseen]; simpa using hc
    obtain ⟨d, hd, hdb⟩ := List.mem_map.1 hm
    have : d = e := born_inj hr.born (hr.sub d hd) he hdb
    rwa [← this]
  · have hes : e ∈ es.toList := by
      unfold leftOf at he; simp at he; simpa using he.1
    have hnb : e.born ∉ done.map (·.born) := by
      unfold leftOf at he
      simp at he
      intro hd
      apply he.2
      have : e.born ∈ seen.toList := by rw [hseen]; exact hd
      simpa using this
    have hnd : e ∉ done := fun hd => hnb (List.mem_map_of_mem (f := (·.born)) hd)
    have hh : w1.heap = w.heap := by rcases hw1 with rfl | rfl <;> rfl
    have hos : w1.os = w.os := by rcases hw1 with rfl | rfl <;> rfl
    have hlt : r < w1.heap.size := by rw [hh]; exact hr.lt_.2
    have hr' : Rng (setBlock w1 r (.mapIter (some bm) cl (seen.push e.born) cl)) bm r es cl (done ++ [e]) := by
      refine ⟨?_, ⟨seen.push e.born, by simp [hseen], setBlock_self _ _ _ hlt⟩, hr.ne, ?_, ?_, hr.old, hr.born⟩
      · rw [setBlock_other _ hr.ne, hh]; exact hr.map
      · intro d hd
        rcases List.mem_append.1 hd with hd | hd
        · exact hr.sub d hd
        · simp at hd; rw [hd]; exact hes
      · rw [List.map_append, List.nodup_append]
        refine ⟨hr.nodup, by simp, fun a ha b hb => ?_⟩
        simp at hb; subst hb
        exact fun e' => hnb (e' ▸ ha)
    have hent := run_entry_at (P := P) (setBlock w1 r (.mapIter (some bm) cl (seen.push e.born) cl)) r bm cl seen es cl e (setBlock_self _ _ _ hlt) hr'.map hes hr.born
    unfold Oper.wp
    simp [execOp, hop, hx, hty, hrun, Result.andThen]
    refine hK' _ _ (h1 e hes hnd _ hr' (fun B hB => ?_) (fun k hk => ?_) ?_ hent)
    · have hB1 : Below B w w1 := by
        rcases hw1 with rfl | rfl
        · exact Below.refl _ _
        · exact (Below.refl _ _).drew
      refine hB1.trans ⟨rfl, rfl, rfl, ?_, fun k hk => setBlock_other _ (by omega)⟩
      show w1.heap.size ≤ (Array.setIfInBounds _ _ _).size
      rw [Array.size_setIfInBounds]; exact Nat.le_refl _
    · rw [setBlock_other _ hk, hh]
    · show (Array.setIfInBounds _ _ _).size = _
      rw [Array.size_setIfInBounds, hh]

/-- A cell of the call's own row written. -/
theorem own_set {w : World} {base : Nat} {e : TypeId} {g n c : Nat} {xs : List Value} (h : w.ownsRow base e 1 (.slice (some ⟨g, 0, none⟩) n c) n xs) {i : Nat} (u : Value) :
    (w.setCell ⟨g, i, none⟩ u).ownsRow base e 1 (.slice (some ⟨g, 0, none⟩) n c) n (xs.set i u) := by
  obtain ⟨h1, h2⟩ := h
  refine ⟨by simpa using h1, ?_⟩
  rcases h2 with ⟨h2, _⟩ | ⟨g', cap, cur, hv, hb, hg, hn, hm, hs, ht⟩
  · simp at h2
  · injection hv with e1 _ e3
    injection e1 with e1
    injection e1 with e1
    subst e1 e3
    refine .inr ⟨g, c, cur.setIfInBounds i u, rfl, hb, blk_set hg i u, hn, hm, by simpa using hs, ?_⟩
    rw [Array.toList_setIfInBounds, List.take_set, ht]
end Go.Proofs.Ytlghpcokbppkfaa
