/- A row's arguments of type impl.Value, read as plain data: what the row's own reading gives, said as IsV. -/
import Derived.Test.YtlghpcokbppkfaaData
import Derived.ProofKit
import Derived.SizedLaws
namespace Go.Proofs.Ytlghpcokbppkfaa
open Go.ChangeShapes Go.WideShapes Go.ChangeAt Go.RowKit

theorem trodFloat {H : Type} {enc : TypeId × Value → H} {P : Program} {w : World} {base : Nat} {spare : Nat → Bool} {held : Bool} {fuel : Nat} {t : TypeId} {cs : List Value} {x : DataW H × List MemPlace} {k : FloatKind}
    (ht : P.underlying t = some (.float k)) (h : DataW.trod enc P w base spare held fuel t cs = some x) : ∃ n, cs = [.float k n] ∧ (Lit.float k n).wf = true := by
  cases fuel with
  | zero => simp [DataW.trod] at h
  | succ n =>
    unfold DataW.trod at h
    rw [ht] at h
    split at h <;> simp_all

theorem weights_mem_all {H : Type} {P : Program} {e : TypeId} : ∀ {ds : List (DataW H)} {d : DataW H}, d ∈ ds → ∀ n ∈ d.weights P e, n ∈ DataW.weightsAll P e ds
  | d0 :: ds, d, hd, n, hn => by
    simp only [DataW.weightsAll, List.mem_append]
    rcases List.mem_cons.1 hd with rfl | hd
    · exact .inl hn
    · exact .inr (weights_mem_all hd n hn)

theorem Try.cellsVal : Try.prog.cellsOf 26 = 6 := by kernel_rfl
theorem Try.cellsStr : Try.prog.cellsOf 9 = 1 := by kernel_rfl
theorem Try.cellsInt : Try.prog.cellsOf 3 = 1 := by kernel_rfl
theorem Try.cellsInt64 : Try.prog.cellsOf 2 = 1 := by kernel_rfl
theorem Try.cellsFlt : Try.prog.cellsOf 22 = 1 := by kernel_rfl
theorem Try.cellsStrs : Try.prog.cellsOf 23 = 1 := by kernel_rfl
theorem Try.cellsVals : Try.prog.cellsOf 24 = 1 := by kernel_rfl
theorem Try.bytesVal : Try.prog.bytesOf 26 = 88 := by kernel_rfl
theorem Try.bytesStr : Try.prog.bytesOf 9 = 16 := by kernel_rfl

theorem cells_six {w : World} {base : Nat} {a : Addr} {cs : List Value} (h : w.cells? base a 6 = some cs) :
    ∃ c0 c1 c2 c3 c4 c5, cs = [c0, c1, c2, c3, c4, c5] ∧ w.cell? a = some c0 ∧ w.cell? (a.add 1) = some c1 ∧ w.cell? (a.add 2) = some c2 ∧ w.cell? (a.add 3) = some c3 ∧ w.cell? (a.add 4) = some c4 ∧ w.cell? (a.add 5) = some c5 := by
  unfold World.cells? at h
  split at h
  · simp only [List.range, List.range.loop, List.mapM_cons, List.mapM_nil] at h
    simp only [Option.bind_eq_bind, Option.bind_eq_some_iff, Option.pure_def, Option.some.injEq] at h
    obtain ⟨c0, h0, l1, ⟨c1, h1, l2, ⟨c2, h2, l3, ⟨c3, h3, l4, ⟨c4, h4, l5, ⟨c5, h5, l6, e6, e5⟩, e4⟩, e3⟩, e2⟩, e1⟩, e0⟩ := h
    subst e6 e5 e4 e3 e2 e1 e0
    exact ⟨c0, c1, c2, c3, c4, c5, rfl, by simpa [Addr.add] using h0, h1, h2, h3, h4, h5⟩
  · simp at h

theorem isVs_of {w : World} {S : Nat → Prop} {b : Nat} : ∀ (n o : Nat), (∀ i, i < n → ∃ x c0 c1 c2 c3 c4 c5, w.cell? ⟨b, o + i * 6, none⟩ = some c0 ∧ w.cell? ⟨b, o + i * 6 + 1, none⟩ = some c1 ∧ w.cell? ⟨b, o + i * 6 + 2, none⟩ = some c2 ∧
      w.cell? ⟨b, o + i * 6 + 3, none⟩ = some c3 ∧ w.cell? ⟨b, o + i * 6 + 4, none⟩ = some c4 ∧ w.cell? ⟨b, o + i * 6 + 5, none⟩ = some c5 ∧ IsV w S x (.agg #[c0, c1, c2, c3, c4, c5])) → ∃ l : List GV, l.length = n ∧ IsVs w S l b o
  | 0, _, _ => ⟨[], rfl, by simp [IsVs]⟩
  | n + 1, o, h => by
    obtain ⟨x, c0, c1, c2, c3, c4, c5, h0⟩ := h 0 (Nat.succ_pos _)
    obtain ⟨l, hl, hv⟩ := isVs_of (w := w) (S := S) (b := b) n (o + 6) (fun i hi => by
      have := h (i + 1) (by omega)
      rwa [show o + (i + 1) * 6 = o + 6 + i * 6 by omega] at this)
    refine ⟨x :: l, by simp [hl], ?_⟩
    unfold IsVs
    exact ⟨⟨c0, c1, c2, c3, c4, c5, by simpa using h0⟩, hv⟩

theorem isStrs_of_trod {H : Type} {enc : TypeId × Value → H} {w : World} {fuel : Nat} {cs : List Value} {d : DataW H} {ps : List MemPlace}
    (h : DataW.trod enc Try.prog w 0 (fun _ => true) true fuel 23 cs = some (d, ps)) (hw : ∀ n ∈ d.weights Try.prog 23, n ≤ reachBytes) :
    ∃ v ks, cs = [v] ∧ IsStrs w (Btw 0 w.heap.size) v ks := by
  rcases open_strings Try.underlying23 Try.underlying9 Try.cellsStr h with ⟨rfl, hx⟩ | ⟨a, len, cap, ss, rfl, _, hl, hm, hz, hx, hcell, hws⟩
  · exact ⟨_, [], rfl, none, 0, rfl, Nat.le_refl _, by decide, by simp, fun h => by simp at h⟩
  · simp only [if_true] at hz
    simp only [Prod.mk.injEq] at hx
    obtain ⟨rfl, rfl⟩ := hx
    have hlen : (ss.take len).length = len := by simp; omega
    have hsz := hw (((strs (H := H) (ss.take len)).length + (strs (H := H) (ss.drop len)).length) * Try.prog.bytesOf 9) (by simp [DataW.weights, Try.underlying23])
    rw [Try.bytesStr] at hsz
    simp only [strs, List.length_map, List.length_take, List.length_drop, reachBytes] at hsz
    refine ⟨_, ss.take len, rfl, some a, cap, by rw [hlen], by rw [hlen]; exact hl, by rw [hlen]; omega, fun s hs => hws s (List.mem_of_mem_take hs), fun hp => ?_⟩
    rw [hlen] at hp
    have h0 := hcell 0 (by omega)
    have hspot : a.spot = none := by simpa [Addr.add] using World.cell?_spot h0
    obtain ⟨b, o, sp⟩ := a
    subst hspot
    refine ⟨b, o, ⟨Nat.zero_le _, by have := World.block_lt_of_cell? w _ h0; simpa [Addr.add] using this⟩, rfl, fun i hi => ?_⟩
    rw [hlen] at hi
    have := hcell i (by omega)
    rw [add_plain] at this
    rw [this]
    simp [List.getD, hi]

set_option maxRecDepth 100000 in
set_option maxHeartbeats 1000000 in
theorem isV_of_trod {H : Type} {enc : TypeId × Value → H} {w : World} (fuel : Nat) {cs : List Value} {d : DataW H} {ps : List MemPlace}
    (h : DataW.trod enc Try.prog w 0 (fun _ => true) true fuel 26 cs = some (d, ps)) (hw : ∀ n ∈ d.weights Try.prog 26, n ≤ reachBytes) :
    ∃ x c0 c1 c2 c3 c4 c5, cs = [c0, c1, c2, c3, c4, c5] ∧ IsV w (Btw 0 w.heap.size) x (.agg #[c0, c1, c2, c3, c4, c5]) := by
  obtain ⟨xs, n, rfl, hx, hl, hlen, hf⟩ := DataW.trod_struct Try.underlying26 h
  rw [Try.cellsVal] at hl
  match cs, hl with
  | [c0, c1, c2, c3, c4, c5], _ =>
  match xs, hlen with
  | [y0, y1, y2, y3, y4, y5], _ =>
  have h0 : DataW.trod enc Try.prog w 0 (fun _ => true) true n 3 (([c0, c1, c2, c3, c4, c5].drop 0).take (Try.prog.cellsOf 3)) = some y0 := (by have g := hf 0 _ rfl; exact g)
  have h1 : DataW.trod enc Try.prog w 0 (fun _ => true) true n 2 (([c0, c1, c2, c3, c4, c5].drop 1).take (Try.prog.cellsOf 2)) = some y1 := (by have g := hf 1 _ rfl; exact g)
  have h2 : DataW.trod enc Try.prog w 0 (fun _ => true) true n 22 (([c0, c1, c2, c3, c4, c5].drop 2).take (Try.prog.cellsOf 22)) = some y2 := (by have g := hf 2 _ rfl; exact g)
  have h3 : DataW.trod enc Try.prog w 0 (fun _ => true) true n 9 (([c0, c1, c2, c3, c4, c5].drop 3).take (Try.prog.cellsOf 9)) = some y3 := (by have g := hf 3 _ rfl; exact g)
  have h4 : DataW.trod enc Try.prog w 0 (fun _ => true) true n 23 (([c0, c1, c2, c3, c4, c5].drop 4).take (Try.prog.cellsOf 23)) = some y4 := (by have g := hf 4 _ rfl; exact g)
  have h5 : DataW.trod enc Try.prog w 0 (fun _ => true) true n 24 (([c0, c1, c2, c3, c4, c5].drop 5).take (Try.prog.cellsOf 24)) = some y5 := (by have g := hf 5 _ rfl; exact g)
  clear hf h
  simp only [Try.cellsInt, Try.cellsInt64, Try.cellsFlt, Try.cellsStr, Try.cellsStrs, Try.cellsVals, List.drop_zero, List.drop_succ_cons, List.take_succ_cons, List.take_zero] at h0 h1 h2 h3 h4 h5
  simp only [Prod.mk.injEq] at hx
  obtain ⟨rfl, rfl⟩ := hx
  obtain ⟨k, e0, -, w0⟩ := DataW.trod_int Try.underlying3 h0
  obtain ⟨m, e1, -, w1⟩ := DataW.trod_int Try.underlying2 h1
  obtain ⟨f, e2, w2⟩ := trodFloat Try.underlying22 h2
  obtain ⟨s, e3, -, w3⟩ := DataW.trod_string Try.underlying9 h3
  simp only [DataW.weights, Try.underlying26, List.map_cons, List.map_nil, DataW.weightsEach, List.mem_append, List.append_nil] at hw
  obtain ⟨v4, ks, e4, hks⟩ := isStrs_of_trod (d := y4.1) (ps := y4.2) h4 (fun n hn => hw n (by simp [hn]))
  simp only [List.cons.injEq, and_true] at e0 e1 e2 e3 e4
  subst e0 e1 e2 e3 e4
  have hw5 : ∀ n ∈ y5.1.weights Try.prog 24, n ≤ reachBytes := fun n hn => hw n (by simp [hn])
  clear h0 h1 h2 h3 h4 hw
  rcases DataW.trod_slice Try.underlying24 h5 with ⟨e5, -⟩ | ⟨a, len, cap, elems, rest, n', hn', e5, hx5, _, hlc, hm, hlen5, hel, _, _⟩
  · simp only [List.cons.injEq, and_true] at e5
    subst e5
    refine ⟨.mk k m f s ks [], _, _, _, _, _, _, rfl, ?_⟩
    unfold IsV
    exact ⟨_, none, 0, rfl, w0, w1, w2, w3, hks, Nat.le_refl _, by decide, .inl rfl⟩
  · simp only [List.cons.injEq, and_true] at e5
    subst e5
    rw [hx5] at hw5
    simp only [DataW.weights, Try.underlying24, Try.bytesVal, List.length_map] at hw5
    have hsz := hw5 ((elems.length + rest.length) * 88) (by simp)
    simp only [reachBytes] at hsz
    rw [Try.cellsVal] at hel
    have key : ∀ i, i < len → ∃ x c0 c1 c2 c3 c4 c5, w.cell? (a.add (i * 6)) = some c0 ∧ w.cell? ((a.add (i * 6)).add 1) = some c1 ∧ w.cell? ((a.add (i * 6)).add 2) = some c2 ∧
        w.cell? ((a.add (i * 6)).add 3) = some c3 ∧ w.cell? ((a.add (i * 6)).add 4) = some c4 ∧ w.cell? ((a.add (i * 6)).add 5) = some c5 ∧ IsV w (Btw 0 w.heap.size) x (.agg #[c0, c1, c2, c3, c4, c5]) := by
      intro i hi
      have hb := hel i hi
      obtain ⟨y, hy⟩ : ∃ y, elems[i]? = some y := ⟨elems[i], by simp [hlen5, hi]⟩
      rw [hy, Option.bind_eq_some_iff] at hb
      obtain ⟨cs', hcs, hb⟩ := hb
      obtain ⟨x, c0, c1, c2, c3, c4, c5, rfl, hv⟩ := isV_of_trod n' (d := y.1) (ps := y.2) hb (fun q hq => hw5 q (by
        simp only [List.mem_cons, List.mem_append]
        exact .inr (.inl (weights_mem_all (List.mem_map_of_mem (List.mem_of_getElem? hy)) q hq))))
      obtain ⟨d0, d1, d2, d3, d4, d5, e, g⟩ := cells_six hcs
      simp only [List.cons.injEq, and_true] at e
      obtain ⟨rfl, rfl, rfl, rfl, rfl, rfl⟩ := e
      exact ⟨x, _, _, _, _, _, _, g.1, g.2.1, g.2.2.1, g.2.2.2.1, g.2.2.2.2.1, g.2.2.2.2.2, hv⟩
    by_cases hl0 : len = 0
    · subst hl0
      refine ⟨.mk k m f s ks [], _, _, _, _, _, _, rfl, ?_⟩
      unfold IsV
      exact ⟨_, some a, cap, rfl, w0, w1, w2, w3, hks, Nat.zero_le _, by decide, .inl rfl⟩
    · obtain ⟨_, _, _, _, _, _, _, g0, _⟩ := key 0 (by omega)
      have hspot : a.spot = none := by simpa [Addr.add] using World.cell?_spot g0
      have hlt := World.block_lt_of_cell? w _ g0
      obtain ⟨b, o, sp⟩ := a
      subst hspot
      simp only [add_plain] at key
      obtain ⟨l, hll, hvs⟩ := isVs_of (b := b) len o key
      refine ⟨.mk k m f s ks l, _, _, _, _, _, _, rfl, ?_⟩
      unfold IsV
      exact ⟨_, _, cap, by rw [hll], w0, w1, w2, w3, hks, by omega, by omega, .inr ⟨b, o, ⟨Nat.zero_le _, by simpa [Addr.add] using hlt⟩, rfl, hvs⟩⟩
termination_by fuel
decreasing_by omega

set_option maxRecDepth 100000 in
/-- An argument of type impl.Value. -/
theorem isV_of_arg {H : Type} {enc : TypeId × Value → H} {w : World} {v : Value} {d : DataW H} {ps : List MemPlace} {base : Nat} (hv : Value.okWide Try.prog w .any base 26 v)
    (h : DataW.Trod enc Try.prog w 0 (fun _ => true) true 26 v d ps) (hw : ∀ n ∈ d.weights Try.prog 26, n ≤ reachBytes) : ∃ x, IsV w (Btw 0 w.heap.size) x v := by
  obtain ⟨cs, rfl, _⟩ := okWide_struct Try.underlying26 hv
  obtain ⟨fuel, hf⟩ := h
  obtain ⟨x, c0, c1, c2, c3, c4, c5, e, hx⟩ := isV_of_trod fuel hf hw
  have : cs = #[c0, c1, c2, c3, c4, c5] := by
    have e' : cs.toList = [c0, c1, c2, c3, c4, c5] := e
    rw [← Array.toArray_toList (xs := cs), e']
  subst this
  exact ⟨x, hx⟩
end Go.Proofs.Ytlghpcokbppkfaa
