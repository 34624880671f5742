/- impl.fromTree of a map. -/
import Derived.Test.YtlghpcokbppkfaaFromList
namespace Go.Proofs.Ytlghpcokbppkfaa
open Go.RowKit
set_option linter.unusedSimpArgs false

theorem run_lookup_str {P : Program} {w : World} {t kt et r cl : Nat} {es : Array MapEntry} {k : ByteArray} (hm : P.underlying t = some (.map kt et)) (hd : P.underlying kt = some .string)
    (hb : w.heap[r]? = some (.map es cl)) (hs : MapKept.Stamped es cl) (hks : ∀ x ∈ es.toList, MapKept.IsKey .string x.key) {e : MapEntry} (he : e ∈ es.toList) (hke : e.key = .string k) :
    (Instr.lookup t (.map (some r)) (.string k) false).run P w = .ok e.val w := by
  have hk : MapKept.IsKey .string (.string k) := trivial
  rcases MapKept.findNow_spec hk es.toList 0 hks with ⟨h1, h2⟩ | ⟨j, e', h1, h2, h3⟩
  · exact absurd hke (h2 e he)
  · have : e' = e := by
      have hkn : (es.toList.map (·.key)).Nodup := hs.2.2
      obtain ⟨i, hi⟩ := List.getElem?_of_mem he
      have hij : j = i := by
        have hi' : (es.toList.map (·.key))[j]? = some (.string k) := by rw [List.getElem?_map, h2, Option.map_some, h3]
        have hj' : (es.toList.map (·.key))[i]? = some (.string k) := by rw [List.getElem?_map, hi, Option.map_some, hke]
        exact (List.getElem?_inj (List.getElem?_eq_some_iff.1 hi').1 hkn).1 (hi'.trans hj'.symm)
      rw [hij, hi] at h2
      exact (Option.some.inj h2).symm
    subst this
    simp [Instr.lookup, run_underlying hm, MapKept.run_getObj_map hb, MapKept.run_checkKey hd hk, MapKept.run_findKey hd h1, Result.andThen]

theorem IsEs.get {w : World} {S : Nat → Prop} {k : ByteArray} {j : JV} : ∀ {m : List (ByteArray × JV)} {es : List MapEntry}, IsEs w S m es → (k, j) ∈ m → ∃ e ∈ es, e.key = .string k ∧ IsJ w S j e.val
  | [], es, _, h => by simp at h
  | x :: r, es, h, hk => by
    unfold IsEs at h
    obtain ⟨e, r', rfl, hke, _, hx, hr⟩ := h
    rcases List.mem_cons.1 hk with rfl | hk
    · exact ⟨e, by simp, hke, hx⟩
    · obtain ⟨e', he', h'⟩ := hr.get hk
      exact ⟨e', by simp [he'], h'⟩
theorem JOkm_mem : ∀ {m : List (ByteArray × JV)}, JOkm m → ∀ x ∈ m, JOk x.2
  | x :: r, h, y, hy => by
    simp only [JOkm] at h
    rcases List.mem_cons.1 hy with rfl | hy
    · exact h.1
    · exact JOkm_mem h.2 y hy

/-- The values of the keys, in their order. -/
def valsOf (m : List (ByteArray × JV)) (ks : List ByteArray) : List GV := ks.map fun k => unJ ((getA m k).getD .null)

theorem getA_zip_mem {f : ByteArray → GV} : ∀ (ks : List ByteArray) (k : ByteArray), k ∈ ks → getA (ks.zip (ks.map f)) k = some (f k)
  | [], k, h => by simp at h
  | a :: r, k, h => by
    simp only [List.map_cons, List.zip_cons_cons, getA]
    by_cases e : a = k
    · rw [if_pos e, e]
    · rw [if_neg e]
      rcases List.mem_cons.1 h with h | h
      · exact absurd h.symm e
      · exact getA_zip_mem r k h
theorem getA_zip_none {f : ByteArray → GV} : ∀ (ks : List ByteArray) (k : ByteArray), k ∉ ks → getA (ks.zip (ks.map f)) k = none
  | [], k, _ => by simp [getA]
  | a :: r, k, h => by
    simp only [List.map_cons, List.zip_cons_cons, getA]
    simp only [List.mem_cons, not_or] at h
    rw [if_neg (fun e => h.1 e.symm), getA_zip_none r k h.2]

theorem unM_sorted {m : List (ByteArray × JV)} (hd : (m.map (·.1)).Nodup) {ks : List ByteArray} (hi : Incr ks) (hm : ∀ k, k ∈ ks ↔ k ∈ m.map (·.1)) : unJ (.map m) = .mk 6 0 0 ByteArray.empty ks (valsOf m ks) := by
  unfold unJ
  refine plain_ext (unM_plain _ _ gMap_plain) ⟨ks, valsOf m ks, rfl, hi, by simp [valsOf]⟩ fun k => ?_
  rw [getF_unM _ _ gMap_plain hd, getF_gMap, Option.or_none]
  show _ = getA (ks.zip (valsOf m ks)) k
  unfold valsOf
  by_cases h : k ∈ ks
  · rw [getA_zip_mem _ _ h]
    obtain ⟨⟨k', j⟩, hx, e⟩ := List.mem_map.1 ((hm k).1 h)
    simp only at e
    subst e
    rw [getA_of_mem hd hx]; rfl
  · rw [getA_zip_none _ _ h, getA_none]
    · rfl
    · intro e he hek
      exact h ((hm k).2 (by rw [← hek]; exact List.mem_map_of_mem he))
end Go.Proofs.Ytlghpcokbppkfaa
