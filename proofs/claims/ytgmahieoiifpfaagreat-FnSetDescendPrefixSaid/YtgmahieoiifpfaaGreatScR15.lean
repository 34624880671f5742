/- Part 15 of what the proof rests on. -/
import Derived.ProofKit
import Derived.SizedLaws
import Derived.JoinedOf
import Derived.WalkKit
import Derived.Test.YtgmahieoiifpfaaGreatScR4
import Derived.Test.YtgmahieoiifpfaaGreatScR5
import Derived.Test.YtgmahieoiifpfaaGreatScR6
import Derived.Test.YtgmahieoiifpfaaGreatScR9
set_option linter.unusedSimpArgs false
set_option maxHeartbeats 2000000
set_option maxRecDepth 100000
section
namespace Go.Proofs.YtgmahieoiifpfaaGreat
open Go.ChangeShapes Go.WideShapes Go.ChangeAt Go.RowKit
theorem Yhe {H : Type} {enc : TypeId × Value → H} {P : Program} {w : World} {base : Nat} {spare : Nat → Bool} {held : Bool} {fuel : Nat} {t : TypeId} {cs : List Value} {x : DataW H × List MemPlace} {k : FloatKind}
  (ht : P.underlying t = some (.float k)) (h : DataW.trod enc P w base spare held fuel t cs = some x) : ∃ n, cs = [.float k n] ∧ (Lit.float k n).wf = true := by
 cases fuel with
 | zero => simp [DataW.trod] at h
 | succ n =>
  unfold DataW.trod at h
  rw [ht] at h
  split at h <;> simp_all
theorem Ze8 {H : Type} {P : Program} {e : TypeId} : ∀ {ds : List (DataW H)} {d : DataW H}, d ∈ ds → ∀ n ∈ d.weights P e, n ∈ DataW.weightsAll P e ds
 | d0 :: ds, d, hd, n, hn => by
  simp only [DataW.weightsAll, List.mem_append]
  rcases List.mem_cons.1 hd with rfl | hd
  ·exact .inl hn
  ·exact .inr (Ze8 hd n hn)
theorem Tryz.cellsVal : Tryz.prog.cellsOf 27 = 6 := by kernel_rfl
theorem Tryz.cellsStr : Tryz.prog.cellsOf 9 = 1 := by kernel_rfl
theorem Tryz.cellsInt : Tryz.prog.cellsOf 3 = 1 := by kernel_rfl
theorem Tryz.cellsInt64 : Tryz.prog.cellsOf 2 = 1 := by kernel_rfl
theorem Tryz.cellsFlt : Tryz.prog.cellsOf 25 = 1 := by kernel_rfl
theorem Tryz.cellsStrs : Tryz.prog.cellsOf 24 = 1 := by kernel_rfl
theorem Tryz.cellsVals : Tryz.prog.cellsOf 23 = 1 := by kernel_rfl
theorem Tryz.bytesVal : Tryz.prog.bytesOf 27 = 88 := by kernel_rfl
theorem Tryz.bytesStr : Tryz.prog.bytesOf 9 = 16 := by kernel_rfl
theorem Ztq {w : World} {base : Nat} {a : Addr} {cs : List Value} (h : w.cells? base a 6 = some cs) :
  ∃ c0 c1 c2 c3 c4 c5, cs = [c0, c1, c2, c3, c4, c5] ∧ w.cell? a = some c0 ∧ w.cell? (a.add 1) = some c1 ∧ w.cell? (a.add 2) = some c2 ∧ w.cell? (a.add 3) = some c3 ∧ w.cell? (a.add 4) = some c4 ∧ w.cell? (a.add 5) = some c5 := by
 unfold World.cells? at h
 split at h
 ·simp only [List.range, List.range.loop, List.mapM_cons, List.mapM_nil] at h
  simp only [Option.bind_eq_bind, Option.bind_eq_some_iff, Option.pure_def, Option.some.injEq] at h
  obtain ⟨c0, h0, l1, ⟨c1, h1, l2, ⟨c2, h2, l3, ⟨c3, h3, l4, ⟨c4, h4, l5, ⟨c5, h5, l6, e6, e5⟩, e4⟩, e3⟩, e2⟩, e1⟩, e0⟩ := h
  subst e6 e5 e4 e3 e2 e1 e0
  exact ⟨c0, c1, c2, c3, c4, c5, rfl, by simpa [Addr.add] using h0, h1, h2, h3, h4, h5⟩
 ·simp at h
theorem Zw5 {w : World} {S : Nat → Prop} {b : Nat} : ∀ (n o : Nat), (∀ i, i < n → ∃ x c0 c1 c2 c3 c4 c5, w.cell? ⟨b, o + i * 6, none⟩ = some c0 ∧ w.cell? ⟨b, o + i * 6 + 1, none⟩ = some c1 ∧ w.cell? ⟨b, o + i * 6 + 2, none⟩ = some c2 ∧
   w.cell? ⟨b, o + i * 6 + 3, none⟩ = some c3 ∧ w.cell? ⟨b, o + i * 6 + 4, none⟩ = some c4 ∧ w.cell? ⟨b, o + i * 6 + 5, none⟩ = some c5 ∧ IsV w S x (.agg #[c0, c1, c2, c3, c4, c5])) → ∃ l : List GV, l.length = n ∧ IsVs w S l b o
 | 0, _, _ => ⟨[], rfl, by simp [IsVs]⟩
 | n + 1, o, h => by
  obtain ⟨x, c0, c1, c2, c3, c4, c5, h0⟩ := h 0 (Nat.succ_pos _)
  obtain ⟨l, hl, hv⟩ := Zw5 (w := w) (S := S) (b := b) n (o + 6) (fun i hi => by
   have := h (i + 1) (by omega)
   rwa [show o + (i + 1) * 6 = o + 6 + i * 6 by omega] at this)
  refine ⟨x :: l, by simp [hl], ?_⟩
  unfold IsVs
  exact ⟨⟨c0, c1, c2, c3, c4, c5, by simpa using h0⟩, hv⟩
theorem Zjg {H : Type} {enc : TypeId × Value → H} {w : World} {fuel : Nat} {cs : List Value} {d : DataW H} {ps : List MemPlace}
  (h : DataW.trod enc Tryz.prog w 0 (fun _ => true) true fuel 24 cs = some (d, ps)) (hw : ∀ n ∈ d.weights Tryz.prog 24, n ≤ reachBytes) :
  ∃ v ks, cs = [v] ∧ IsStrs w (Btw 0 w.heap.size) v ks := by
 rcases open_strings Tryz.underlying24 Tryz.underlying9 Tryz.cellsStr h with ⟨rfl, hx⟩ | ⟨a, len, cap, ss, rfl, _, hl, hm, hz, hx, hcell, hws⟩
 ·exact ⟨_, [], rfl, none, 0, rfl, Nat.le_refl _, by decide, by simp, fun h => by simp at h⟩
 ·simp only [if_true] at hz
  simp only [Prod.mk.injEq] at hx
  obtain ⟨rfl, rfl⟩ := hx
  have hlen : (ss.take len).length = len := by simp; omega
  have hsz := hw (((strs (H := H) (ss.take len)).length + (strs (H := H) (ss.drop len)).length) * Tryz.prog.bytesOf 9) (by simp [DataW.weights, Tryz.underlying24])
  rw [Tryz.bytesStr] at hsz
  simp only [strs, List.length_map, List.length_take, List.length_drop, reachBytes] at hsz
  refine ⟨_, ss.take len, rfl, some a, cap, by rw [hlen], by rw [hlen]; exact hl, by rw [hlen]; omega, fun s hs => hws s (List.mem_of_mem_take hs), fun hp => ?_⟩
  rw [hlen] at hp
  have h0 := hcell 0 (by omega)
  have hspot : a.spot = none := by simpa [Addr.add] using World.cell?_spot h0
  obtain ⟨b, o, sp⟩ := a
  subst hspot
  refine ⟨b, o, ⟨Nat.zero_le _, by have := World.block_lt_of_cell? w _ h0; simpa [Addr.add] using this⟩, rfl, fun i hi => ?_⟩
  rw [hlen] at hi
  have := hcell i (by omega)
  rw [add_plain] at this
  rw [this]
  simp [List.getD, hi]
theorem Zjv {H : Type} {enc : TypeId × Value → H} {w : World} (fuel : Nat) {cs : List Value} {d : DataW H} {ps : List MemPlace}
  (h : DataW.trod enc Tryz.prog w 0 (fun _ => true) true fuel 27 cs = some (d, ps)) (hw : ∀ n ∈ d.weights Tryz.prog 27, n ≤ reachBytes) :
  ∃ x c0 c1 c2 c3 c4 c5, cs = [c0, c1, c2, c3, c4, c5] ∧ IsV w (Btw 0 w.heap.size) x (.agg #[c0, c1, c2, c3, c4, c5]) := by
 obtain ⟨xs, n, rfl, hx, hl, hlen, hf⟩ := DataW.trod_struct Tryz.underlying27 h
 rw [Tryz.cellsVal] at hl
 match cs, hl with
 | [c0, c1, c2, c3, c4, c5], _ =>
 match xs, hlen with
 | [y0, y1, y2, y3, y4, y5], _ =>
 have h0 : DataW.trod enc Tryz.prog w 0 (fun _ => true) true n 3 (([c0, c1, c2, c3, c4, c5].drop 0).take (Tryz.prog.cellsOf 3)) = some y0 := (by have g := hf 0 _ rfl; exact g)
 have h1 : DataW.trod enc Tryz.prog w 0 (fun _ => true) true n 2 (([c0, c1, c2, c3, c4, c5].drop 1).take (Tryz.prog.cellsOf 2)) = some y1 := (by have g := hf 1 _ rfl; exact g)
 have h2 : DataW.trod enc Tryz.prog w 0 (fun _ => true) true n 25 (([c0, c1, c2, c3, c4, c5].drop 2).take (Tryz.prog.cellsOf 25)) = some y2 := (by have g := hf 2 _ rfl; exact g)
 have h3 : DataW.trod enc Tryz.prog w 0 (fun _ => true) true n 9 (([c0, c1, c2, c3, c4, c5].drop 3).take (Tryz.prog.cellsOf 9)) = some y3 := (by have g := hf 3 _ rfl; exact g)
 have h4 : DataW.trod enc Tryz.prog w 0 (fun _ => true) true n 24 (([c0, c1, c2, c3, c4, c5].drop 4).take (Tryz.prog.cellsOf 24)) = some y4 := (by have g := hf 4 _ rfl; exact g)
 have h5 : DataW.trod enc Tryz.prog w 0 (fun _ => true) true n 23 (([c0, c1, c2, c3, c4, c5].drop 5).take (Tryz.prog.cellsOf 23)) = some y5 := (by have g := hf 5 _ rfl; exact g)
 clear hf h
 simp only [Tryz.cellsInt, Tryz.cellsInt64, Tryz.cellsFlt, Tryz.cellsStr, Tryz.cellsStrs, Tryz.cellsVals, List.drop_zero, List.drop_succ_cons, List.take_succ_cons, List.take_zero] at h0 h1 h2 h3 h4 h5
 simp only [Prod.mk.injEq] at hx
 obtain ⟨rfl, rfl⟩ := hx
 obtain ⟨k, e0, -, w0⟩ := DataW.trod_int Tryz.underlying3 h0
 obtain ⟨m, e1, -, w1⟩ := DataW.trod_int Tryz.underlying2 h1
 obtain ⟨f, e2, w2⟩ := Yhe Tryz.underlying25 h2
 obtain ⟨s, e3, -, w3⟩ := DataW.trod_string Tryz.underlying9 h3
 simp only [DataW.weights, Tryz.underlying27, List.map_cons, List.map_nil, DataW.weightsEach, List.mem_append, List.append_nil] at hw
 obtain ⟨v4, ks, e4, hks⟩ := Zjg (d := y4.1) (ps := y4.2) h4 (fun n hn => hw n (by simp [hn]))
 simp only [List.cons.injEq, and_true] at e0 e1 e2 e3 e4
 subst e0 e1 e2 e3 e4
 have hw5 : ∀ n ∈ y5.1.weights Tryz.prog 23, n ≤ reachBytes := fun n hn => hw n (by simp [hn])
 clear h0 h1 h2 h3 h4 hw
 rcases DataW.trod_slice Tryz.underlying23 h5 with ⟨e5, -⟩ | ⟨a, len, cap, elems, rest, n', hn', e5, hx5, _, hlc, hm, hlen5, hel, _, _⟩
 ·simp only [List.cons.injEq, and_true] at e5
  subst e5
  refine ⟨.mk k m f s ks [], _, _, _, _, _, _, rfl, ?_⟩
  unfold IsV
  exact ⟨_, none, 0, rfl, w0, w1, w2, w3, hks, Nat.le_refl _, by decide, .inl rfl⟩
 ·simp only [List.cons.injEq, and_true] at e5
  subst e5
  rw [hx5] at hw5
  simp only [DataW.weights, Tryz.underlying23, Tryz.bytesVal, List.length_map] at hw5
  have hsz := hw5 ((elems.length + rest.length) * 88) (by simp)
  simp only [reachBytes] at hsz
  rw [Tryz.cellsVal] at hel
  have key : ∀ i, i < len → ∃ x c0 c1 c2 c3 c4 c5, w.cell? (a.add (i * 6)) = some c0 ∧ w.cell? ((a.add (i * 6)).add 1) = some c1 ∧ w.cell? ((a.add (i * 6)).add 2) = some c2 ∧
    w.cell? ((a.add (i * 6)).add 3) = some c3 ∧ w.cell? ((a.add (i * 6)).add 4) = some c4 ∧ w.cell? ((a.add (i * 6)).add 5) = some c5 ∧ IsV w (Btw 0 w.heap.size) x (.agg #[c0, c1, c2, c3, c4, c5]) := by
   intro i hi
   have hb := hel i hi
   obtain ⟨y, hy⟩ : ∃ y, elems[i]? = some y := ⟨elems[i], by simp [hlen5, hi]⟩
   rw [hy, Option.bind_eq_some_iff] at hb
   obtain ⟨cs', hcs, hb⟩ := hb
   obtain ⟨x, c0, c1, c2, c3, c4, c5, rfl, hv⟩ := Zjv n' (d := y.1) (ps := y.2) hb (fun q hq => hw5 q (by
    simp only [List.mem_cons, List.mem_append]
    exact .inr (.inl (Ze8 (List.mem_map_of_mem (List.mem_of_getElem? hy)) q hq))))
   obtain ⟨d0, d1, d2, d3, d4, d5, e, g⟩ := Ztq hcs
   simp only [List.cons.injEq, and_true] at e
   obtain ⟨rfl, rfl, rfl, rfl, rfl, rfl⟩ := e
   exact ⟨x, _, _, _, _, _, _, g.1, g.2.1, g.2.2.1, g.2.2.2.1, g.2.2.2.2.1, g.2.2.2.2.2, hv⟩
  by_cases hl0 : len = 0
  ·subst hl0
   refine ⟨.mk k m f s ks [], _, _, _, _, _, _, rfl, ?_⟩
   unfold IsV
   exact ⟨_, some a, cap, rfl, w0, w1, w2, w3, hks, Nat.zero_le _, by decide, .inl rfl⟩
  ·obtain ⟨_, _, _, _, _, _, _, g0, _⟩ := key 0 (by omega)
   have hspot : a.spot = none := by simpa [Addr.add] using World.cell?_spot g0
   have hlt := World.block_lt_of_cell? w _ g0
   obtain ⟨b, o, sp⟩ := a
   subst hspot
   simp only [add_plain] at key
   obtain ⟨l, hll, hvs⟩ := Zw5 (b := b) len o key
   refine ⟨.mk k m f s ks l, _, _, _, _, _, _, rfl, ?_⟩
   unfold IsV
   exact ⟨_, _, cap, by rw [hll], w0, w1, w2, w3, hks, by omega, by omega, .inr ⟨b, o, ⟨Nat.zero_le _, by simpa [Addr.add] using hlt⟩, rfl, hvs⟩⟩
termination_by fuel
decreasing_by omega
end Go.Proofs.YtgmahieoiifpfaaGreat
end
section
namespace Go.Proofs.YtgmahieoiifpfaaGreat
open Go.ChangeShapes Go.WideShapes Go.ChangeAt Go.RowKit
theorem Tryz.cellsElem : Tryz.prog.cellsOf 29 = 11 := by kernel_rfl
theorem Zw4 {H : Type} {enc : TypeId × Value → H} {w : World} (fuel : Nat) {cs : List Value} {d : DataW H} {ps : List MemPlace}
  (h5 : DataW.trod enc Tryz.prog w 0 (fun _ => true) true fuel 23 cs = some (d, ps)) (hw5 : ∀ n ∈ d.weights Tryz.prog 23, n ≤ reachBytes) :
  ∃ a c, ∃ l : List GV, cs = [.slice a l.length c] ∧ l.length ≤ c ∧ l.length * 88 ≤ 140737488351232 ∧ (l = [] ∨ ∃ b o, Btw 0 w.heap.size b ∧ a = some ⟨b, o, none⟩ ∧ IsVs w (Btw 0 w.heap.size) l b o) := by
 rcases DataW.trod_slice Tryz.underlying23 h5 with ⟨e5, -⟩ | ⟨a, len, cap, elems, rest, n', hn', e5, hx5, _, hlc, hm, hlen5, hel, _, _⟩
 ·exact ⟨none, 0, [], e5, Nat.le_refl _, by decide, .inl rfl⟩
 ·obtain ⟨rfl, _⟩ : d = _ ∧ ps = _ := by simpa only [Prod.mk.injEq] using hx5
  simp only [DataW.weights, Tryz.underlying23, Tryz.bytesVal, List.length_map] at hw5
  have hsz := hw5 ((elems.length + rest.length) * 88) (by simp)
  simp only [reachBytes] at hsz
  rw [Tryz.cellsVal] at hel
  have key : ∀ i, i < len → ∃ x c0 c1 c2 c3 c4 c5, w.cell? (a.add (i * 6)) = some c0 ∧ w.cell? ((a.add (i * 6)).add 1) = some c1 ∧ w.cell? ((a.add (i * 6)).add 2) = some c2 ∧
    w.cell? ((a.add (i * 6)).add 3) = some c3 ∧ w.cell? ((a.add (i * 6)).add 4) = some c4 ∧ w.cell? ((a.add (i * 6)).add 5) = some c5 ∧ IsV w (Btw 0 w.heap.size) x (.agg #[c0, c1, c2, c3, c4, c5]) := by
   intro i hi
   have hb := hel i hi
   obtain ⟨y, hy⟩ : ∃ y, elems[i]? = some y := ⟨elems[i], by simp [hlen5, hi]⟩
   rw [hy, Option.bind_eq_some_iff] at hb
   obtain ⟨cs', hcs, hb⟩ := hb
   obtain ⟨x, c0, c1, c2, c3, c4, c5, rfl, hv⟩ := Zjv n' (d := y.1) (ps := y.2) hb (fun q hq => hw5 q (by
    simp only [List.mem_cons, List.mem_append]
    exact .inr (.inl (Ze8 (List.mem_map_of_mem (List.mem_of_getElem? hy)) q hq))))
   obtain ⟨d0, d1, d2, d3, d4, d5, e, g⟩ := Ztq hcs
   simp only [List.cons.injEq, and_true] at e
   obtain ⟨rfl, rfl, rfl, rfl, rfl, rfl⟩ := e
   exact ⟨x, _, _, _, _, _, _, g.1, g.2.1, g.2.2.1, g.2.2.2.1, g.2.2.2.2.1, g.2.2.2.2.2, hv⟩
  by_cases hl0 : len = 0
  ·subst hl0
   exact ⟨some a, cap, [], e5, Nat.zero_le _, by decide, .inl rfl⟩
  ·obtain ⟨_, _, _, _, _, _, _, g0, _⟩ := key 0 (by omega)
   have hspot : a.spot = none := by simpa [Addr.add] using World.cell?_spot g0
   have hlt := World.block_lt_of_cell? w _ g0
   obtain ⟨b, o, sp⟩ := a
   subst hspot
   simp only [add_plain] at key
   obtain ⟨l, hll, hvs⟩ := Zw5 (b := b) len o key
   exact ⟨_, cap, l, by rw [hll]; exact e5, by omega, by omega, .inr ⟨b, o, ⟨Nat.zero_le _, by simpa [Addr.add] using hlt⟩, rfl, hvs⟩⟩
theorem Zoj {H : Type} {enc : TypeId × Value → H} {w : World} (fuel : Nat) {cs : List Value} {d : DataW H} {ps : List MemPlace}
  (h : DataW.trod enc Tryz.prog w 0 (fun _ => true) true fuel 29 cs = some (d, ps)) (hw : ∀ n ∈ d.weights Tryz.prog 29, n ≤ reachBytes) :
  ∃ x, IsE w (Btw 0 w.heap.size) x (.agg cs.toArray) := by
 obtain ⟨xs, n, rfl, hx, hl, hlen, hf⟩ := DataW.trod_struct Tryz.underlying29 h
 rw [Tryz.cellsElem] at hl
 match cs, hl with
 | [c0, c1, c2, c3, c4, c5, c6, c7, c8, c9, c10], _ =>
 match xs, hlen with
 | [y0, y1, y2, y3, y4, y5], _ =>
 have h0 : DataW.trod enc Tryz.prog w 0 (fun _ => true) true n 3 (([c0, c1, c2, c3, c4, c5, c6, c7, c8, c9, c10].drop 0).take (Tryz.prog.cellsOf 3)) = some y0 := (by have g := hf 0 _ rfl; exact g)
 have h1 : DataW.trod enc Tryz.prog w 0 (fun _ => true) true n 9 (([c0, c1, c2, c3, c4, c5, c6, c7, c8, c9, c10].drop 1).take (Tryz.prog.cellsOf 9)) = some y1 := (by have g := hf 1 _ rfl; exact g)
 have h2 : DataW.trod enc Tryz.prog w 0 (fun _ => true) true n 24 (([c0, c1, c2, c3, c4, c5, c6, c7, c8, c9, c10].drop 2).take (Tryz.prog.cellsOf 24)) = some y2 := (by have g := hf 2 _ rfl; exact g)
 have h3 : DataW.trod enc Tryz.prog w 0 (fun _ => true) true n 23 (([c0, c1, c2, c3, c4, c5, c6, c7, c8, c9, c10].drop 3).take (Tryz.prog.cellsOf 23)) = some y3 := (by have g := hf 3 _ rfl; exact g)
 have h4 : DataW.trod enc Tryz.prog w 0 (fun _ => true) true n 27 (([c0, c1, c2, c3, c4, c5, c6, c7, c8, c9, c10].drop 4).take (Tryz.prog.cellsOf 27)) = some y4 := (by have g := hf 4 _ rfl; exact g)
 have h5 : DataW.trod enc Tryz.prog w 0 (fun _ => true) true n 3 (([c0, c1, c2, c3, c4, c5, c6, c7, c8, c9, c10].drop 10).take (Tryz.prog.cellsOf 3)) = some y5 := (by have g := hf 5 _ rfl; exact g)
 clear hf h
 simp only [Tryz.cellsInt, Tryz.cellsStr, Tryz.cellsStrs, Tryz.cellsVals, Tryz.cellsVal, List.drop_zero, List.drop_succ_cons, List.take_succ_cons, List.take_zero] at h0 h1 h2 h3 h4 h5
 simp only [Prod.mk.injEq] at hx
 obtain ⟨rfl, rfl⟩ := hx
 obtain ⟨k, e0, -, w0⟩ := DataW.trod_int Tryz.underlying3 h0
 obtain ⟨s, e1, -, w1⟩ := DataW.trod_string Tryz.underlying9 h1
 obtain ⟨m, e5, -, w5⟩ := DataW.trod_int Tryz.underlying3 h5
 simp only [DataW.weights, Tryz.underlying29, List.map_cons, List.map_nil, DataW.weightsEach, List.mem_append, List.append_nil] at hw
 obtain ⟨v2, ks, e2, hks⟩ := Zjg (d := y2.1) (ps := y2.2) h2 (fun n hn => hw n (by simp [hn]))
 obtain ⟨a, c, l, e3, hlc, hl88, hvs⟩ := Zw4 n (d := y3.1) (ps := y3.2) h3 (fun n hn => hw n (by simp [hn]))
 obtain ⟨y, d0, d1, d2, d3, d4, d5, e4, hy⟩ := Zjv n (d := y4.1) (ps := y4.2) h4 (fun n hn => hw n (by simp [hn]))
 simp only [List.cons.injEq, and_true] at e0 e1 e2 e3 e4 e5
 obtain ⟨rfl, rfl, rfl, rfl, rfl, rfl⟩ := e4
 subst e0 e1 e2 e3 e5
 obtain ⟨ak, ck, rfl, hr⟩ := hks
 exact ⟨⟨k, s, ks, l, y, m⟩, ak, ck, a, c, _, _, _, _, _, _, rfl, w0, w5, w1, ⟨ak, ck, rfl, hr⟩, hlc, hl88, hvs, hy⟩
/-- An argument of type impl.Elem. -/
theorem Zqo {H : Type} {enc : TypeId × Value → H} {w : World} {v : Value} {d : DataW H} {ps : List MemPlace} {base : Nat} (hv : Value.okWide Tryz.prog w .any base 29 v)
  (h : DataW.Trod enc Tryz.prog w 0 (fun _ => true) true 29 v d ps) (hw : ∀ n ∈ d.weights Tryz.prog 29, n ≤ reachBytes) : ∃ x, IsE w (Btw 0 w.heap.size) x v := by
 obtain ⟨cs, rfl, _⟩ := okWide_struct Tryz.underlying29 hv
 obtain ⟨fuel, hf⟩ := h
 obtain ⟨x, hx⟩ := Zoj fuel hf hw
 refine ⟨x, ?_⟩
 have e : cs.toList.toArray = cs := Array.toArray_toList
 have hx' : IsE w (Btw 0 w.heap.size) x (.agg cs.toList.toArray) := hx
 rwa [e] at hx'
end Go.Proofs.YtgmahieoiifpfaaGreat
end
section
namespace Go.Proofs.YtgmahieoiifpfaaGreat
open Go.ChangeShapes Go.WideShapes Go.ChangeAt Go.RowKit
section
variable {H : Type} {enc : TypeId × Value → H} {w : World} {F : Nat → Prop}
theorem repAgg {l : List PD} {cs : List Value} : Rep w F (.agg l) (.agg cs.toArray) ↔ Reps w F l cs ∧ ∀ u ∈ cs, u.oneCell' = true := by
 unfold Rep
 constructor
 ·rintro ⟨vs, e, h1, h2⟩
  simp only [Value.agg.injEq] at e
  have : cs = vs := by simpa using congrArg Array.toList e
  subst this
  exact ⟨h1, h2⟩
 ·rintro ⟨h1, h2⟩
  exact ⟨cs, rfl, h1, h2⟩
theorem Ygd {α : Type} {pd : α → PD} {n b : Nat} : ∀ (m o : Nat), (∀ i, i < m → ∃ x cs, cs.length = n ∧ (∀ u ∈ cs, u.oneCell' = true) ∧ Lies w b (o + i * n) cs ∧ Rep w F (pd x) (.agg cs.toArray)) → ∃ l : List α, l.length = m ∧ RepL w F n (l.map pd) b o
 | 0, _, _ => ⟨[], rfl, by simp [RepL]⟩
 | m + 1, o, h => by
  obtain ⟨x, cs, h1, h2, h3, h4⟩ := h 0 (Nat.succ_pos _)
  obtain ⟨l, hl, hr⟩ := Ygd (pd := pd) (n := n) (b := b) m (o + n) (fun i hi => by
   obtain ⟨x, cs, g1, g2, g3, g4⟩ := h (i + 1) (by omega)
   exact ⟨x, cs, g1, g2, by rwa [show o + (i + 1) * n = o + n + i * n by rw [Nat.succ_mul]; omega] at g3, g4⟩)
  refine ⟨x :: l, by simp [hl], ?_⟩
  rw [List.map_cons]
  unfold RepL
  exact ⟨⟨_, h4, by simpa [Value.cells] using h1, by simpa [Value.cells] using h2, by simpa [Value.cells] using h3⟩, hr⟩
theorem Zlf {α : Type} (pd : α → PD) (hpd : ∀ x, ∃ l, pd x = .agg l) {t e n y : Nat} (ht : Tryz.prog.underlying t = some (.slice e)) (hn : Tryz.prog.cellsOf e = n) (hn0 : 0 < n) (hy : Tryz.prog.bytesOf e = y) (hy0 : 0 < y) {fuel : Nat} {cs : List Value} {d : DataW H} {ps : List MemPlace}
  (h : DataW.trod enc Tryz.prog w 0 (fun _ => true) true fuel t cs = some (d, ps)) (hw : ∀ k ∈ d.weights Tryz.prog t, k ≤ reachBytes)
  (hi : ∀ fuel' cs' d' ps', fuel' < fuel → DataW.trod enc Tryz.prog w 0 (fun _ => true) true fuel' e cs' = some (d', ps') → (∀ k ∈ d'.weights Tryz.prog e, k ≤ reachBytes) → ∃ x, Rep w (Btw 0 w.heap.size) (pd x) (.agg cs'.toArray)) :
  ∃ (l : List α) (v : Value), cs = [v] ∧ Rep w (Btw 0 w.heap.size) (.sl n y (l.map pd)) v := by
 rcases DataW.trod_slice ht h with ⟨e5, -⟩ | ⟨a, len, cap, elems, rest, n', hn', e5, hx5, _, hlc, hm, hlen5, hel, _, _⟩
 ·refine ⟨[], _, e5, ?_⟩
  unfold Rep
  exact ⟨none, 0, rfl, Nat.le_refl _, by simp, by simp, .inl rfl⟩
 ·obtain ⟨rfl, _⟩ : d = _ ∧ ps = _ := by simpa only [Prod.mk.injEq] using hx5
  simp only [DataW.weights, ht, hy, List.length_map] at hw
  have hsz := hw ((elems.length + rest.length) * y) (by simp)
  simp only [reachBytes] at hsz
  rw [hn] at hel
  have key : ∀ i, i < len → ∃ (x : α) (cs' : List Value), cs'.length = n ∧ (∀ j, j < n → w.cell? ((a.add (i * n)).add j) = cs'[j]?) ∧ Rep w (Btw 0 w.heap.size) (pd x) (.agg cs'.toArray) := by
   intro i hi'
   have hb := hel i hi'
   obtain ⟨z, hz⟩ : ∃ z, elems[i]? = some z := ⟨elems[i], by simp [hlen5, hi']⟩
   rw [hz, Option.bind_eq_some_iff] at hb
   obtain ⟨cs', hcs, hb⟩ := hb
   obtain ⟨x, hx⟩ := hi n' cs' z.1 z.2 (by omega) hb (fun q hq => hw q (by
    simp only [List.mem_cons, List.mem_append]
    exact .inr (.inl (Ze8 (List.mem_map_of_mem (List.mem_of_getElem? hz)) q hq))))
   obtain ⟨_, h1, h2⟩ := World.cells?_some hcs
   exact ⟨x, cs', h1, h2, hx⟩
  have hlenB : len * y ≤ 140737488351232 := by
   have : len * y ≤ (elems.length + rest.length) * y := Nat.mul_le_mul_right _ (by omega)
   omega
  have hlenS : len ≤ 140737488351232 := Nat.le_trans (Nat.le_mul_of_pos_right _ hy0) hlenB
  by_cases hl0 : len = 0
  ·subst hl0
   refine ⟨[], _, e5, ?_⟩
   unfold Rep
   exact ⟨some a, cap, rfl, Nat.zero_le _, by simp, by simp, .inl rfl⟩
  ·obtain ⟨x0, cs0, g1, g2, g3⟩ := key 0 (by omega)
   have g0 : ∃ u, w.cell? ((a.add (0 * n)).add 0) = some u := ⟨cs0[0]'(by omega), by rw [g2 0 hn0]; simp⟩
   obtain ⟨u0, g0⟩ := g0
   have hspot : a.spot = none := by simpa [Addr.add] using World.cell?_spot g0
   have hlt := World.block_lt_of_cell? w _ g0
   obtain ⟨b, o, sp⟩ := a
   subst hspot
   simp only [add_plain] at key hlt
   obtain ⟨l, hll, hvs⟩ := Ygd (pd := pd) (n := n) (b := b) (F := Btw 0 w.heap.size) (w := w) len o (fun i hi' => by
    obtain ⟨x, cs', k1, k2, k3⟩ := key i hi'
    obtain ⟨q, hq⟩ := hpd x
    refine ⟨x, cs', k1, ?_, fun j u hj => ?_, k3⟩
    ·rw [hq] at k3
     exact (repAgg.1 k3).2
    ·rw [k2 j (by have := (List.getElem?_eq_some_iff.1 hj).1; omega)]
     exact hj)
   refine ⟨l, _, e5, ?_⟩
   unfold Rep
   rw [List.length_map]
   exact ⟨_, cap, by rw [hll], by omega, by rw [hll]; exact hlenB, by rw [hll]; exact hlenS, .inr ⟨b, o, ⟨Nat.zero_le _, by simpa using hlt⟩, rfl, hvs⟩⟩
end
section
variable {H : Type} {enc : TypeId × Value → H} {w : World}
end
end Go.Proofs.YtgmahieoiifpfaaGreat
end
section
namespace Go.Proofs.YtgmahieoiifpfaaGreat
open Go.ChangeShapes Go.WideShapes Go.ChangeAt Go.RowKit
theorem Tryz.bytesElem : Tryz.prog.bytesOf 29 = 168 := by kernel_rfl
section
variable {H : Type} {enc : TypeId × Value → H} {w : World}
theorem Yot (x : EV) : ∃ l, pdE x = .agg l := ⟨_, rfl⟩
theorem Yrx (fuel : Nat) {cs : List Value} {d : DataW H} {ps : List MemPlace} (h : DataW.trod enc Tryz.prog w 0 (fun _ => true) true fuel 22 cs = some (d, ps)) (hw : ∀ k ∈ d.weights Tryz.prog 22, k ≤ reachBytes) : ∃ (l : List EV) (v : Value), cs = [v] ∧ Rep w (Btw 0 w.heap.size) (.sl 11 168 (l.map pdE)) v :=
 Zlf pdE Yot Tryz.underlying22 Tryz.cellsElem (by omega) Tryz.bytesElem (by omega) h hw (fun f' cs' d' ps' hlt h' hw' => by
  obtain ⟨x, hx⟩ := Zoj f' h' hw'
  exact ⟨x, Zw3 hx⟩)
end
end Go.Proofs.YtgmahieoiifpfaaGreat
end
section
namespace Go.Proofs.YtgmahieoiifpfaaGreat
open Go.ChangeShapes Go.WideShapes Go.ChangeAt Go.RowKit
theorem Tryz.cellsPath : Tryz.prog.cellsOf 22 = 1 := by kernel_rfl
theorem Tryz.bytesPath : Tryz.prog.bytesOf 22 = 24 := by kernel_rfl
section
variable {H : Type} {enc : TypeId × Value → H} {w : World} {F : Nat → Prop}
theorem Yaa {α : Type} {pd : α → PD} : ∀ {l : List α} {b o : Nat}, RepL w F 1 (l.map fun x => .agg [pd x]) b o → RepL w F 1 (l.map pd) b o
 | [], b, o, h => by simp only [List.map_nil]; unfold RepL; trivial
 | x :: l, b, o, h => by
  simp only [List.map_cons] at h ⊢
  unfold RepL at h ⊢
  obtain ⟨⟨u, h1, h2, h3, h4⟩, h5⟩ := h
  refine ⟨?_, Yaa h5⟩
  unfold Rep at h1
  obtain ⟨vs, rfl, h6, h7⟩ := h1
  unfold Reps at h6
  obtain ⟨c, r, rfl, h8, h9⟩ := h6
  unfold Reps at h9
  subst h9
  have hc := h7 c (by simp)
  have e : (Value.agg [c].toArray).cells.toList = [c] := by simp [Value.cells]
  rw [e] at h4
  refine ⟨c, h8, by rw [Za8 hc]; rfl, fun y hy => ?_, by rw [Za8 hc]; exact h4⟩
  rw [Za8 hc, List.mem_singleton] at hy
  rw [hy]; exact hc
theorem Yr2 {α : Type} {pd : α → PD} {y : Nat} {l : List α} {v : Value} (h : Rep w F (.sl 1 y (l.map fun x => .agg [pd x])) v) : Rep w F (.sl 1 y (l.map pd)) v := by
 unfold Rep at h ⊢
 simp only [List.length_map] at h ⊢
 obtain ⟨a, c, h1, h2, h3, h4, h5⟩ := h
 refine ⟨a, c, h1, h2, h3, h4, ?_⟩
 rcases h5 with h5 | ⟨b, o, h5, h6, h7⟩
 ·left
  have : l = [] := List.map_eq_nil_iff.1 h5
  rw [this]; rfl
 ·exact .inr ⟨b, o, h5, h6, Yaa h7⟩
theorem Zxi (fuel : Nat) {cs : List Value} {d : DataW H} {ps : List MemPlace} (h : DataW.trod enc Tryz.prog w 0 (fun _ => true) true fuel 38 cs = some (d, ps)) (hw : ∀ k ∈ d.weights Tryz.prog 38, k ≤ reachBytes) : ∃ (l : List (List EV)) (v : Value), cs = [v] ∧ Rep w (Btw 0 w.heap.size) (.sl 1 24 (l.map pdP)) v := by
 obtain ⟨l, v, e, hr⟩ := Zlf (fun x => PD.agg [pdP x]) (fun x => ⟨_, rfl⟩) Tryz.underlying38 Tryz.cellsPath (by omega) Tryz.bytesPath (by omega) h hw (fun f' cs' d' ps' hlt h' hw' => by
  obtain ⟨x, v, e, hx⟩ := Yrx f' h' hw'
  subst e
  refine ⟨x, repAgg.2 ⟨?_, ?_⟩⟩
  ·unfold Reps
   exact ⟨v, [], rfl, hx, by unfold Reps; rfl⟩
  ·intro u hu
   rw [List.mem_singleton] at hu
   rw [hu]
   unfold Rep at hx
   obtain ⟨a, c, e, _⟩ := hx
   rw [e]; rfl)
 exact ⟨l, v, e, Yr2 hr⟩
end
end Go.Proofs.YtgmahieoiifpfaaGreat
end
section
namespace Go.Proofs.YtgmahieoiifpfaaGreat
open Go
theorem Zjo {a b : Bool} (h : a = true) (h' : b = true) : (a && b) = true := by rw [h, h']; rfl
theorem Zu0 {P : Program} {f : FuncId} {fn : Func} {s : ChangeSpec} {c : OpenClaim}
  (h0 : (c.wf (OpenSpec.ofChange s) : Bool) = true)
  (h1 : (laidOutB P : Bool) = true)
  (h2 : (mapsRowed P : Bool) = true)
  (h3 : (fn.params.all (P.readableRec ·) : Bool) = true)
  (h4 : (namedTie P c.named s.vars : Bool) = true)
  (h5 : ((c.stops == []) : Bool) = true)
  (h6 : ((P.stops == []) : Bool) = true)
  (h7 : ((c.knobs == []) : Bool) = true)
  (h8 : ((P.stopKnobs == []) : Bool) = true)
  (h9 : ((c.inPlace == P.inPlace f) : Bool) = true)
  (h10 : ((c.unfollowed == P.unfollowed f) : Bool) = true)
  (h11 : ((c.recurses == P.recurses f) : Bool) = true)
  (h12 : ((c.named == P.varsNamed f) : Bool) = true)
  (h13 : ((c.maps == (fn.params.toList ++ s.plain.varTypes P).any (P.mapsRec ·)) : Bool) = true)
  (h14 : ((c.ifaces == (fn.params.toList ++ s.plain.varTypes P).any (P.ifacesRec ·)) : Bool) = true)
  (h15 : ((c.mapsOut == P.mapsAmong fn.resultTypes.toList) : Bool) = true)
  (h16 : ((c.loops == (fn.params.toList ++ s.plain.varTypes P).any (P.loopsFrom ·)) : Bool) = true)
  (h17 : ((c.wideKeys == (fn.params.toList ++ s.plain.varTypes P ++ fn.resultTypes.toList).any (P.wideKeysFrom ·)) : Bool) = true)
  (h18 : (s.vars.all (P.varReadable ·) : Bool) = true)
  (h19 : (fn.resultTypes.all (fun t => P.readableRec t && decide (t < P.types.size)) : Bool) = true)
  (h20 : ((c.ifacesOut == fn.resultTypes.toList.any (P.ifacesRec ·)) : Bool) = true)
  (h21 : ((c.loopsOut == fn.resultTypes.toList.any (P.loopsFrom ·)) : Bool) = true)
  (h22 : ((c.plainKeys == P.plainKeys) : Bool) = true)
  (h23 : (c.shortTexts.isNone : Bool) = true)
  (h24 : (P.stopsHeard : Bool) = true)
  (h25 : (P.mayEnter : Bool) = true)
  (h26 : ((c.lifted == P.liftsFinal) : Bool) = true)
  (h27 : ((P.make == some c.make) : Bool) = true)
  (h28 : ((c.kinds == (if c.domain.isEmpty then [] else fn.params.toList.map fun t => match P.underlying t with | some (.int k) => some k | _ => none)) : Bool) = true)
  (h29 : ((c.pinned == c.pinnedBy) : Bool) = true)
  (h30 : ((c.veiled == (fn.params.toList ++ s.plain.varTypes P ++ fn.resultTypes.toList).any (P.veiledRec ·)) : Bool) = true)
  (h31 : (c.veiledFits P fn.params.toList (fn.params.toList ++ s.plain.varTypes P ++ fn.resultTypes.toList) : Bool) = true)
  : joinedFacts P f fn s c = true := by
 unfold joinedFacts
 exact Zjo (Zjo (Zjo (Zjo (Zjo (Zjo (Zjo (Zjo (Zjo (Zjo (Zjo (Zjo (Zjo (Zjo (Zjo (Zjo (Zjo (Zjo (Zjo (Zjo (Zjo (Zjo (Zjo (Zjo (Zjo (Zjo (Zjo (Zjo (Zjo (Zjo (Zjo h0 h1) h2) h3) h4) h5) h6) h7) h8) h9) h10) h11) h12) h13) h14) h15) h16) h17) h18) h19) h20) h21) h22) h23) h24) h25) h26) h27) h28) h29) h30) h31
end Go.Proofs.YtgmahieoiifpfaaGreat
end
