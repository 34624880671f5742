/- A row's arguments of type impl.Elem, read as plain data. -/
import Derived.Test.YtlghpcokbppkfaaOpen
import Derived.Test.YtlghpcokbppkfaaElem
namespace Go.Proofs.Ytlghpcokbppkfaa
open Go.ChangeShapes Go.WideShapes Go.ChangeAt Go.RowKit

theorem Try.cellsElem : Try.prog.cellsOf 33 = 11 := by kernel_rfl

set_option maxHeartbeats 1000000 in
theorem isL_of_trod {H : Type} {enc : TypeId × Value → H} {w : World} (fuel : Nat) {cs : List Value} {d : DataW H} {ps : List MemPlace}
    (h5 : DataW.trod enc Try.prog w 0 (fun _ => true) true fuel 24 cs = some (d, ps)) (hw5 : ∀ n ∈ d.weights Try.prog 24, n ≤ reachBytes) :
    ∃ a c, ∃ l : List GV, cs = [.slice a l.length c] ∧ l.length ≤ c ∧ l.length * 88 ≤ 140737488351232 ∧ (l = [] ∨ ∃ b o, Btw 0 w.heap.size b ∧ a = some ⟨b, o, none⟩ ∧ IsVs w (Btw 0 w.heap.size) l b o) := by
  rcases DataW.trod_slice Try.underlying24 h5 with ⟨e5, -⟩ | ⟨a, len, cap, elems, rest, n', hn', e5, hx5, _, hlc, hm, hlen5, hel, _, _⟩
  · exact ⟨none, 0, [], e5, Nat.le_refl _, by decide, .inl rfl⟩
  · obtain ⟨rfl, _⟩ : d = _ ∧ ps = _ := by simpa only [Prod.mk.injEq] using hx5
    simp only [DataW.weights, Try.underlying24, Try.bytesVal, List.length_map] at hw5
    have hsz := hw5 ((elems.length + rest.length) * 88) (by simp)
    simp only [reachBytes] at hsz
    rw [Try.cellsVal] at hel
    have key : ∀ i, i < len → ∃ x c0 c1 c2 c3 c4 c5, w.cell? (a.add (i * 6)) = some c0 ∧ w.cell? ((a.add (i * 6)).add 1) = some c1 ∧ w.cell? ((a.add (i * 6)).add 2) = some c2 ∧
        w.cell? ((a.add (i * 6)).add 3) = some c3 ∧ w.cell? ((a.add (i * 6)).add 4) = some c4 ∧ w.cell? ((a.add (i * 6)).add 5) = some c5 ∧ IsV w (Btw 0 w.heap.size) x (.agg #[c0, c1, c2, c3, c4, c5]) := by
      intro i hi
      have hb := hel i hi
      obtain ⟨y, hy⟩ : ∃ y, elems[i]? = some y := ⟨elems[i], by simp [hlen5, hi]⟩
      rw [hy, Option.bind_eq_some_iff] at hb
      obtain ⟨cs', hcs, hb⟩ := hb
      obtain ⟨x, c0, c1, c2, c3, c4, c5, rfl, hv⟩ := isV_of_trod n' (d := y.1) (ps := y.2) hb (fun q hq => hw5 q (by
        simp only [List.mem_cons, List.mem_append]
        exact .inr (.inl (weights_mem_all (List.mem_map_of_mem (List.mem_of_getElem? hy)) q hq))))
      obtain ⟨d0, d1, d2, d3, d4, d5, e, g⟩ := cells_six hcs
      simp only [List.cons.injEq, and_true] at e
      obtain ⟨rfl, rfl, rfl, rfl, rfl, rfl⟩ := e
      exact ⟨x, _, _, _, _, _, _, g.1, g.2.1, g.2.2.1, g.2.2.2.1, g.2.2.2.2.1, g.2.2.2.2.2, hv⟩
    by_cases hl0 : len = 0
    · subst hl0
      exact ⟨some a, cap, [], e5, Nat.zero_le _, by decide, .inl rfl⟩
    · obtain ⟨_, _, _, _, _, _, _, g0, _⟩ := key 0 (by omega)
      have hspot : a.spot = none := by simpa [Addr.add] using World.cell?_spot g0
      have hlt := World.block_lt_of_cell? w _ g0
      obtain ⟨b, o, sp⟩ := a
      subst hspot
      simp only [add_plain] at key
      obtain ⟨l, hll, hvs⟩ := isVs_of (b := b) len o key
      exact ⟨_, cap, l, by rw [hll]; exact e5, by omega, by omega, .inr ⟨b, o, ⟨Nat.zero_le _, by simpa [Addr.add] using hlt⟩, rfl, hvs⟩⟩

set_option maxRecDepth 100000 in
set_option maxHeartbeats 1000000 in
theorem isE_of_trod {H : Type} {enc : TypeId × Value → H} {w : World} (fuel : Nat) {cs : List Value} {d : DataW H} {ps : List MemPlace}
    (h : DataW.trod enc Try.prog w 0 (fun _ => true) true fuel 33 cs = some (d, ps)) (hw : ∀ n ∈ d.weights Try.prog 33, n ≤ reachBytes) :
    ∃ x, IsE w (Btw 0 w.heap.size) x (.agg cs.toArray) := by
  obtain ⟨xs, n, rfl, hx, hl, hlen, hf⟩ := DataW.trod_struct Try.underlying33 h
  rw [Try.cellsElem] at hl
  match cs, hl with
  | [c0, c1, c2, c3, c4, c5, c6, c7, c8, c9, c10], _ =>
  match xs, hlen with
  | [y0, y1, y2, y3, y4, y5], _ =>
  have h0 : DataW.trod enc Try.prog w 0 (fun _ => true) true n 3 (([c0, c1, c2, c3, c4, c5, c6, c7, c8, c9, c10].drop 0).take (Try.prog.cellsOf 3)) = some y0 := (by have g := hf 0 _ rfl; exact g)
  have h1 : DataW.trod enc Try.prog w 0 (fun _ => true) true n 9 (([c0, c1, c2, c3, c4, c5, c6, c7, c8, c9, c10].drop 1).take (Try.prog.cellsOf 9)) = some y1 := (by have g := hf 1 _ rfl; exact g)
  have h2 : DataW.trod enc Try.prog w 0 (fun _ => true) true n 23 (([c0, c1, c2, c3, c4, c5, c6, c7, c8, c9, c10].drop 2).take (Try.prog.cellsOf 23)) = some y2 := (by have g := hf 2 _ rfl; exact g)
  have h3 : DataW.trod enc Try.prog w 0 (fun _ => true) true n 24 (([c0, c1, c2, c3, c4, c5, c6, c7, c8, c9, c10].drop 3).take (Try.prog.cellsOf 24)) = some y3 := (by have g := hf 3 _ rfl; exact g)
  have h4 : DataW.trod enc Try.prog w 0 (fun _ => true) true n 26 (([c0, c1, c2, c3, c4, c5, c6, c7, c8, c9, c10].drop 4).take (Try.prog.cellsOf 26)) = some y4 := (by have g := hf 4 _ rfl; exact g)
  have h5 : DataW.trod enc Try.prog w 0 (fun _ => true) true n 3 (([c0, c1, c2, c3, c4, c5, c6, c7, c8, c9, c10].drop 10).take (Try.prog.cellsOf 3)) = some y5 := (by have g := hf 5 _ rfl; exact g)
  clear hf h
  simp only [Try.cellsInt, Try.cellsStr, Try.cellsStrs, Try.cellsVals, Try.cellsVal, List.drop_zero, List.drop_succ_cons, List.take_succ_cons, List.take_zero] at h0 h1 h2 h3 h4 h5
  simp only [Prod.mk.injEq] at hx
  obtain ⟨rfl, rfl⟩ := hx
  obtain ⟨k, e0, -, w0⟩ := DataW.trod_int Try.underlying3 h0
  obtain ⟨s, e1, -, w1⟩ := DataW.trod_string Try.underlying9 h1
  obtain ⟨m, e5, -, w5⟩ := DataW.trod_int Try.underlying3 h5
  simp only [DataW.weights, Try.underlying33, List.map_cons, List.map_nil, DataW.weightsEach, List.mem_append, List.append_nil] at hw
  obtain ⟨v2, ks, e2, hks⟩ := isStrs_of_trod (d := y2.1) (ps := y2.2) h2 (fun n hn => hw n (by simp [hn]))
  obtain ⟨a, c, l, e3, hlc, hl88, hvs⟩ := isL_of_trod n (d := y3.1) (ps := y3.2) h3 (fun n hn => hw n (by simp [hn]))
  obtain ⟨y, d0, d1, d2, d3, d4, d5, e4, hy⟩ := isV_of_trod n (d := y4.1) (ps := y4.2) h4 (fun n hn => hw n (by simp [hn]))
  simp only [List.cons.injEq, and_true] at e0 e1 e2 e3 e4 e5
  obtain ⟨rfl, rfl, rfl, rfl, rfl, rfl⟩ := e4
  subst e0 e1 e2 e3 e5
  obtain ⟨ak, ck, rfl, hr⟩ := hks
  exact ⟨⟨k, s, ks, l, y, m⟩, ak, ck, a, c, _, _, _, _, _, _, rfl, w0, w5, w1, ⟨ak, ck, rfl, hr⟩, hlc, hl88, hvs, hy⟩

set_option maxRecDepth 100000 in
/-- An argument of type impl.Elem. -/
theorem isE_of_arg {H : Type} {enc : TypeId × Value → H} {w : World} {v : Value} {d : DataW H} {ps : List MemPlace} {base : Nat} (hv : Value.okWide Try.prog w .any base 33 v)
    (h : DataW.Trod enc Try.prog w 0 (fun _ => true) true 33 v d ps) (hw : ∀ n ∈ d.weights Try.prog 33, n ≤ reachBytes) : ∃ x, IsE w (Btw 0 w.heap.size) x v := by
  obtain ⟨cs, rfl, _⟩ := okWide_struct Try.underlying33 hv
  obtain ⟨fuel, hf⟩ := h
  obtain ⟨x, hx⟩ := isE_of_trod fuel hf hw
  refine ⟨x, ?_⟩
  have e : cs.toList.toArray = cs := Array.toArray_toList
  have hx' : IsE w (Btw 0 w.heap.size) x (.agg cs.toList.toArray) := hx
  rwa [e] at hx'
end Go.Proofs.Ytlghpcokbppkfaa
