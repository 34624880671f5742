/- Maps from strings: what a store into one does to the list of its fields. -/
import Derived.Test.YtlghpcokbppkfaaData
namespace Go.Proofs.Ytlghpcokbppkfaa
open Go.RowKit

/-- The list of fields in which the field k has the value x: in the place of the old one, or at the end. -/
def putA {α : Type} (m : List (ByteArray × α)) (k : ByteArray) (x : α) : List (ByteArray × α) :=
  match m with
  | [] => [(k, x)]
  | e :: r => if e.1 = k then (k, x) :: r else e :: putA r k x

theorem putA_length {α : Type} (m : List (ByteArray × α)) (k : ByteArray) (x : α) : (putA m k x).length ≤ m.length + 1 := by
  induction m with
  | nil => simp [putA]
  | cons e r ih => unfold putA; split <;> simp <;> omega

/-- The key is this string. -/
def keyIs (v : Value) (k : ByteArray) : Bool := match v with | .string s => decide (s = k) | _ => false
theorem keyIs_iff {v : Value} {k : ByteArray} : keyIs v k = true ↔ v = .string k := by
  cases v <;> simp [keyIs]

/-- What a store makes of the entries. -/
def putE (es : List MapEntry) (k : ByteArray) (v : Value) (cl : Nat) : List MapEntry :=
  match es with
  | [] => [{ key := .string k, val := v, born := cl }]
  | e :: r => if keyIs e.key k = true then { e with key := .string k, val := v } :: r else e :: putE r k v cl

theorem IsEs.keys {w : World} {S : Nat → Prop} : ∀ {m : List (ByteArray × JV)} {es : List MapEntry}, IsEs w S m es → ∀ x ∈ es, MapKept.IsKey .string x.key
  | [], es, h => by unfold IsEs at h; subst h; simp
  | x :: r, es, h => by
    unfold IsEs at h
    obtain ⟨e, r', rfl, hk, _, _, hr⟩ := h
    intro y hy
    rcases List.mem_cons.1 hy with rfl | hy
    · rw [hk]; trivial
    · exact hr.keys y hy

theorem IsEs.length {w : World} {S : Nat → Prop} : ∀ {m : List (ByteArray × JV)} {es : List MapEntry}, IsEs w S m es → es.length = m.length
  | [], es, h => by unfold IsEs at h; subst h; rfl
  | x :: r, es, h => by
    unfold IsEs at h
    obtain ⟨e, r', rfl, _, _, _, hr⟩ := h
    simp [hr.length]

theorem IsEs.put {w : World} {S : Nat → Prop} {k : ByteArray} {j : JV} {v : Value} {cl : Nat} (hk : k.size ≤ maxLen) (hj : IsJ w S j v) :
    ∀ {m : List (ByteArray × JV)} {es : List MapEntry}, IsEs w S m es → IsEs w S (putA m k j) (putE es k v cl)
  | [], es, h => by
    unfold IsEs at h; subst h
    unfold putA putE IsEs
    exact ⟨_, _, rfl, rfl, hk, hj, by unfold IsEs; rfl⟩
  | x :: r, es, h => by
    unfold IsEs at h
    obtain ⟨e, r', rfl, hke, hz, hx, hr⟩ := h
    unfold putA putE
    by_cases hq : x.1 = k
    · rw [if_pos hq, if_pos (keyIs_iff.2 (by rw [hke, hq]))]
      unfold IsEs
      exact ⟨_, _, rfl, rfl, hk, hj, hr⟩
    · rw [if_neg hq, if_neg (fun q => hq (by have := keyIs_iff.1 q; rw [hke] at this; injection this))]
      unfold IsEs
      exact ⟨_, _, rfl, hke, hz, hx, IsEs.put hk hj hr⟩

theorem putE_none {k : ByteArray} {v : Value} {cl : Nat} : ∀ {es : List MapEntry}, (∀ x ∈ es, x.key ≠ .string k) → putE es k v cl = es ++ [{ key := .string k, val := v, born := cl }]
  | [], _ => rfl
  | e :: r, h => by
    unfold putE
    rw [if_neg (fun q => h e (by simp) (keyIs_iff.1 q)), putE_none (fun x hx => h x (by simp [hx]))]
    rfl

theorem putE_some {k : ByteArray} {v : Value} {cl : Nat} : ∀ {es : List MapEntry} {j : Nat} {e : MapEntry}, (es.map (·.key)).Nodup → es[j]? = some e → e.key = .string k →
    putE es k v cl = es.modify j (fun e => { e with key := .string k, val := v })
  | [], j, e, _, h, _ => by simp at h
  | x :: r, j, e, hn, h, hk => by
    unfold putE
    cases j with
    | zero =>
      simp at h; subst h
      rw [if_pos (keyIs_iff.2 hk)]; rfl
    | succ j =>
      have h' : r[j]? = some e := by simpa using h
      have hne : x.key ≠ .string k := by
        intro q
        simp only [List.map_cons, List.nodup_cons] at hn
        exact hn.1 (by rw [q, ← hk]; exact List.mem_map.2 ⟨e, List.mem_of_getElem? h', rfl⟩)
      rw [if_neg (fun q => hne (keyIs_iff.1 q)), putE_some (List.nodup_cons.1 (by simpa using hn)).2 h' hk]
      rfl

section
variable {P : Program} {w : World}

/-- A store into a map whose keys are strings. -/
theorem run_mapUpdate_str {t kt et r cl : Nat} {es : Array MapEntry} {k : ByteArray} {v : Value} (hm : P.underlying t = some (.map kt et)) (hd : P.underlying kt = some .string)
    (hb : w.heap[r]? = some (.map es cl)) (hs : MapKept.Stamped es cl) (hks : ∀ x ∈ es.toList, MapKept.IsKey .string x.key) :
    ∃ es' cl', (Instr.mapUpdate t (.map (some r)) (.string k) v).run P w = .ok () (ChangeMaps.setBlock w r (.map es' cl')) ∧ es'.toList = putE es.toList k v cl ∧ MapKept.Stamped es' cl' := by
  have hk : MapKept.IsKey .string (.string k) := trivial
  rcases MapKept.findNow_spec hk es.toList 0 hks with ⟨h1, h2⟩ | ⟨j, e, h1, h2, h3⟩
  · refine ⟨es.push { key := .string k, val := v, born := cl }, cl + 1, ?_, ?_, MapKept.stamped_push hs h2⟩
    · simp [Instr.mapUpdate, run_underlying hm, MapKept.run_getObj_map hb, MapKept.run_checkKey hd hk, MapKept.run_findKey hd h1, MapKept.run_setObj_map _ hb, Result.andThen, ChangeMaps.setBlock]
    · rw [Array.toList_push, putE_none h2]
  · have hj : es[j]? = some e := by simpa using h2
    refine ⟨es.modify j (fun e => { e with key := .string k, val := v }), cl, ?_, ?_, ?_⟩
    · simp [Instr.mapUpdate, run_underlying hm, MapKept.run_getObj_map hb, MapKept.run_checkKey hd hk, MapKept.run_findKey hd h1, hj, h3, MapKept.run_keyThatStays hk, MapKept.run_setObj_map _ hb, Result.andThen, ChangeMaps.setBlock]
    · rw [putE_some hs.2.2 h2 h3, Array.toList_modify]
    · exact MapKept.stamped_modify hs _ _ (fun _ _ => rfl) (fun e' _ he' => by rw [hj] at he'; cases he'; exact h3.symm)

theorem wpList_mapUpdate_str {ops : Array Oper} {rest : List Oper} {o : Oper} {a : Act} {Q : Exit → Act → World → Prop}
    (hg : o.guard = none) (m x v : Operand) (t : TypeId) (hop : o.op = Op.mapUpdate t m x v)
    (kt et : TypeId) (hm : P.underlying t = some (.map kt et)) (hd : P.underlying kt = some .string) (r cl : Nat) (es : Array MapEntry) (k : ByteArray) (val : Value)
    (hma : a.eval m = .map (some r)) (hx : a.eval x = .string k) (hv : a.eval v = val) (hb : w.heap[r]? = some (.map es cl)) (hs : MapKept.Stamped es cl) (hks : ∀ x ∈ es.toList, MapKept.IsKey .string x.key)
    (hK : ∀ es' cl' w', w' = ChangeMaps.setBlock w r (.map es' cl') → es'.toList = putE es.toList k val cl → MapKept.Stamped es' cl' → wpList P ops Q rest (a.put o.dst undef) w') :
    wpList P ops Q (o :: rest) a w := by
  refine wpList_plain hg fun K' hK' => ?_
  obtain ⟨es', cl', hrun, r1, r2⟩ := run_mapUpdate_str (P := P) (w := w) (k := k) (v := val) hm hd hb hs hks
  unfold Oper.wp
  simp [execOp, hop, hma, hx, hv, hrun, Result.andThen]
  exact hK' _ _ (hK es' cl' _ rfl r1 r2)
end


theorem setBlock_size (w : World) (b : Nat) (o : Obj) : (ChangeMaps.setBlock w b o).heap.size = w.heap.size := by simp [ChangeMaps.setBlock]
theorem setBlock_below {B b : Nat} {w0 w : World} (h : Below B w0 w) (hb : B ≤ b) (o : Obj) : Below B w0 (ChangeMaps.setBlock w b o) :=
  h.trans ⟨rfl, rfl, rfl, by simp [ChangeMaps.setBlock], fun k hk => by simp [ChangeMaps.setBlock, show b ≠ k by omega]⟩
theorem setBlock_other {b k : Nat} {w : World} (o : Obj) (h : k ≠ b) : (ChangeMaps.setBlock w b o).heap[k]? = w.heap[k]? := by
  simp [ChangeMaps.setBlock, Ne.symm h]
theorem setBlock_same {b : Nat} {w : World} (o : Obj) (h : b < w.heap.size) : (ChangeMaps.setBlock w b o).heap[b]? = some o := by
  simp [ChangeMaps.setBlock, h]

end Go.Proofs.Ytlghpcokbppkfaa
