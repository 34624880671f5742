/- A row's arguments of the schema types, read as plain data. -/
import Derived.Test.YtlghpcokbppkfaaOpenE
import Derived.Test.YtlghpcokbppkfaaConv
namespace Go.Proofs.Ytlghpcokbppkfaa
open Go.ChangeShapes Go.WideShapes Go.ChangeAt Go.RowKit
set_option linter.unusedSimpArgs false

section
variable {H : Type} {enc : TypeId × Value → H} {w : World} {F : Nat → Prop}
theorem repAgg {l : List PD} {cs : List Value} : Rep w F (.agg l) (.agg cs.toArray) ↔ Reps w F l cs ∧ ∀ u ∈ cs, u.oneCell' = true := by
  unfold Rep
  constructor
  · rintro ⟨vs, e, h1, h2⟩
    simp only [Value.agg.injEq] at e
    have : cs = vs := by simpa using congrArg Array.toList e
    subst this
    exact ⟨h1, h2⟩
  · rintro ⟨h1, h2⟩
    exact ⟨cs, rfl, h1, h2⟩
theorem repL_of {α : Type} {pd : α → PD} {n b : Nat} : ∀ (m o : Nat), (∀ i, i < m → ∃ x cs, cs.length = n ∧ (∀ u ∈ cs, u.oneCell' = true) ∧ Lies w b (o + i * n) cs ∧ Rep w F (pd x) (.agg cs.toArray)) → ∃ l : List α, l.length = m ∧ RepL w F n (l.map pd) b o
  | 0, _, _ => ⟨[], rfl, by simp [RepL]⟩
  | m + 1, o, h => by
    obtain ⟨x, cs, h1, h2, h3, h4⟩ := h 0 (Nat.succ_pos _)
    obtain ⟨l, hl, hr⟩ := repL_of (pd := pd) (n := n) (b := b) m (o + n) (fun i hi => by
      obtain ⟨x, cs, g1, g2, g3, g4⟩ := h (i + 1) (by omega)
      exact ⟨x, cs, g1, g2, by rwa [show o + (i + 1) * n = o + n + i * n by rw [Nat.succ_mul]; omega] at g3, g4⟩)
    refine ⟨x :: l, by simp [hl], ?_⟩
    rw [List.map_cons]
    unfold RepL
    exact ⟨⟨_, h4, by simpa [Value.cells] using h1, by simpa [Value.cells] using h2, by simpa [Value.cells] using h3⟩, hr⟩
theorem slice_of_trod {α : Type} (pd : α → PD) (hpd : ∀ x, ∃ l, pd x = .agg l) {t e n y : Nat} (ht : Try.prog.underlying t = some (.slice e)) (hn : Try.prog.cellsOf e = n) (hn0 : 0 < n) (hy : Try.prog.bytesOf e = y) (hy0 : 0 < y) {fuel : Nat} {cs : List Value} {d : DataW H} {ps : List MemPlace}
    (h : DataW.trod enc Try.prog w 0 (fun _ => true) true fuel t cs = some (d, ps)) (hw : ∀ k ∈ d.weights Try.prog t, k ≤ reachBytes)
    (hi : ∀ fuel' cs' d' ps', fuel' < fuel → DataW.trod enc Try.prog w 0 (fun _ => true) true fuel' e cs' = some (d', ps') → (∀ k ∈ d'.weights Try.prog e, k ≤ reachBytes) → ∃ x, Rep w (Btw 0 w.heap.size) (pd x) (.agg cs'.toArray)) :
    ∃ (l : List α) (v : Value), cs = [v] ∧ Rep w (Btw 0 w.heap.size) (.sl n y (l.map pd)) v := by
  rcases DataW.trod_slice ht h with ⟨e5, -⟩ | ⟨a, len, cap, elems, rest, n', hn', e5, hx5, _, hlc, hm, hlen5, hel, _, _⟩
  · refine ⟨[], _, e5, ?_⟩
    unfold Rep
    exact ⟨none, 0, rfl, Nat.le_refl _, by simp, by simp, .inl rfl⟩
  · obtain ⟨rfl, _⟩ : d = _ ∧ ps = _ := by simpa only [Prod.mk.injEq] using hx5
    simp only [DataW.weights, ht, hy, List.length_map] at hw
    have hsz := hw ((elems.length + rest.length) * y) (by simp)
    simp only [reachBytes] at hsz
    rw [hn] at hel
    have key : ∀ i, i < len → ∃ (x : α) (cs' : List Value), cs'.length = n ∧ (∀ j, j < n → w.cell? ((a.add (i * n)).add j) = cs'[j]?) ∧ Rep w (Btw 0 w.heap.size) (pd x) (.agg cs'.toArray) := by
      intro i hi'
      have hb := hel i hi'
      obtain ⟨z, hz⟩ : ∃ z, elems[i]? = some z := ⟨elems[i], by simp [hlen5, hi']⟩
      rw [hz, Option.bind_eq_some_iff] at hb
      obtain ⟨cs', hcs, hb⟩ := hb
      obtain ⟨x, hx⟩ := hi n' cs' z.1 z.2 (by omega) hb (fun q hq => hw q (by
        simp only [List.mem_cons, List.mem_append]
        exact .inr (.inl (weights_mem_all (List.mem_map_of_mem (List.mem_of_getElem? hz)) q hq))))
      obtain ⟨_, h1, h2⟩ := World.cells?_some hcs
      exact ⟨x, cs', h1, h2, hx⟩
    have hlenB : len * y ≤ 140737488351232 := by
      have : len * y ≤ (elems.length + rest.length) * y := Nat.mul_le_mul_right _ (by omega)
      omega
    have hlenS : len ≤ 140737488351232 := Nat.le_trans (Nat.le_mul_of_pos_right _ hy0) hlenB
    by_cases hl0 : len = 0
    · subst hl0
      refine ⟨[], _, e5, ?_⟩
      unfold Rep
      exact ⟨some a, cap, rfl, Nat.zero_le _, by simp, by simp, .inl rfl⟩
    · obtain ⟨x0, cs0, g1, g2, g3⟩ := key 0 (by omega)
      have g0 : ∃ u, w.cell? ((a.add (0 * n)).add 0) = some u := ⟨cs0[0]'(by omega), by rw [g2 0 hn0]; simp⟩
      obtain ⟨u0, g0⟩ := g0
      have hspot : a.spot = none := by simpa [Addr.add] using World.cell?_spot g0
      have hlt := World.block_lt_of_cell? w _ g0
      obtain ⟨b, o, sp⟩ := a
      subst hspot
      simp only [add_plain] at key hlt
      obtain ⟨l, hll, hvs⟩ := repL_of (pd := pd) (n := n) (b := b) (F := Btw 0 w.heap.size) (w := w) len o (fun i hi' => by
        obtain ⟨x, cs', k1, k2, k3⟩ := key i hi'
        obtain ⟨q, hq⟩ := hpd x
        refine ⟨x, cs', k1, ?_, fun j u hj => ?_, k3⟩
        · rw [hq] at k3
          exact (repAgg.1 k3).2
        · rw [k2 j (by have := (List.getElem?_eq_some_iff.1 hj).1; omega)]
          exact hj)
      refine ⟨l, _, e5, ?_⟩
      unfold Rep
      rw [List.length_map]
      exact ⟨_, cap, by rw [hll], by omega, by rw [hll]; exact hlenB, by rw [hll]; exact hlenS, .inr ⟨b, o, ⟨Nat.zero_le _, by simpa using hlt⟩, rfl, hvs⟩⟩
end

theorem Try.cellsAtom : Try.prog.cellsOf 41 = 3 := by kernel_rfl
theorem Try.cellsRef : Try.prog.cellsOf 43 = 6 := by kernel_rfl
theorem Try.cellsLT : Try.prog.cellsOf 63 = 8 := by kernel_rfl
theorem Try.cellsMT : Try.prog.cellsOf 45 = 8 := by kernel_rfl
theorem Try.cellsFT : Try.prog.cellsOf 49 = 8 := by kernel_rfl
theorem Try.cellsBool : Try.prog.cellsOf 4 = 1 := by kernel_rfl
theorem Try.cellsLTs : Try.prog.cellsOf 38 = 1 := by kernel_rfl
theorem Try.cellsMTs : Try.prog.cellsOf 39 = 1 := by kernel_rfl
theorem Try.cellsFTs : Try.prog.cellsOf 37 = 1 := by kernel_rfl
theorem Try.bytesLT : Try.prog.bytesOf 63 = 144 := by kernel_rfl
theorem Try.bytesMT : Try.prog.bytesOf 45 = 144 := by kernel_rfl
theorem Try.bytesFT : Try.prog.bytesOf 49 = 144 := by kernel_rfl
def OkC (w : World) (l : List PD) (cs : List Value) : Prop := Reps w (Btw 0 w.heap.size) l cs ∧ ∀ u ∈ cs, u.oneCell' = true
theorem OkC.append {w : World} {l l' : List PD} {cs cs' : List Value} (h : OkC w l cs) (h' : OkC w l' cs') : OkC w (l ++ l') (cs ++ cs') :=
  ⟨h.1.append h'.1, fun u hu => (List.mem_append.1 hu).elim (h.2 u) (h'.2 u)⟩
theorem OkC.mk1 {w : World} {d : PD} {u : Value} (h : Rep w (Btw 0 w.heap.size) d u) (ho : u.oneCell' = true) : OkC w [d] [u] := by
  refine ⟨?_, fun v hv => by rw [List.mem_singleton] at hv; rw [hv]; exact ho⟩
  unfold Reps
  exact ⟨u, [], rfl, h, by unfold Reps; rfl⟩
theorem OkC.val {w : World} {u : Value} (h : okV u) : OkC w [.val u] [u] := OkC.mk1 (by unfold Rep; exact ⟨rfl, h⟩) h.one
theorem OkC.sl {w : World} {n y : Nat} {l : List PD} {u : Value} (h : Rep w (Btw 0 w.heap.size) (.sl n y l) u) : OkC w [.sl n y l] [u] := OkC.mk1 h (h.one (fun _ e => by cases e) (fun _ e => by cases e))
section
variable {H : Type} {enc : TypeId × Value → H} {w : World}
set_option maxRecDepth 100000
set_option maxHeartbeats 2000000
mutual
theorem openA (fuel : Nat) {cs : List Value} {d : DataW H} {ps : List MemPlace} (h : DataW.trod enc Try.prog w 0 (fun _ => true) true fuel 41 cs = some (d, ps)) (hw : ∀ k ∈ d.weights Try.prog 41, k ≤ reachBytes) : ∃ x : TA, Rep w (Btw 0 w.heap.size) (pdA x) (.agg cs.toArray) := by
  obtain ⟨xs, n, rfl, hx, hl, hlen, hf⟩ := DataW.trod_struct Try.underlying41 h
  rw [Try.cellsAtom] at hl
  match cs, hl with
  | [c0, c1, c2], _ =>
  match xs, hlen with
  | [y0, y1, y2], _ =>
  have h0 : DataW.trod enc Try.prog w 0 (fun _ => true) true n 9 (([c0, c1, c2].drop 0).take (Try.prog.cellsOf 9)) = some y0 := (by have g := hf 0 _ rfl; exact g)
  have h1 : DataW.trod enc Try.prog w 0 (fun _ => true) true n 38 (([c0, c1, c2].drop 1).take (Try.prog.cellsOf 38)) = some y1 := (by have g := hf 1 _ rfl; exact g)
  have h2 : DataW.trod enc Try.prog w 0 (fun _ => true) true n 39 (([c0, c1, c2].drop 2).take (Try.prog.cellsOf 39)) = some y2 := (by have g := hf 2 _ rfl; exact g)
  clear hf h
  simp only [Try.cellsBool, Try.cellsStr, Try.cellsStrs, Try.cellsVals, Try.cellsAtom, Try.cellsRef, Try.cellsLTs, Try.cellsMTs, Try.cellsFTs, List.drop_zero, List.drop_succ_cons, List.take_succ_cons, List.take_zero] at h0 h1 h2
  simp only [Prod.mk.injEq] at hx
  obtain ⟨rfl, rfl⟩ := hx
  simp only [DataW.weights, Try.underlying41, List.map_cons, List.map_nil, DataW.weightsEach, List.mem_append, List.append_nil] at hw
  obtain ⟨s0, e0, -, w0⟩ := DataW.trod_string Try.underlying9 h0
  have o0 : OkC w [.val (.string s0)] [c0] := by rw [e0]; exact OkC.val (show okV (.string s0) from w0)
  obtain ⟨s1, v1, e1, r1⟩ := slice_of_trod pdL (fun x => ⟨_, pdL_eq x⟩) Try.underlying38 Try.cellsLT (by omega) Try.bytesLT (by omega) (d := y1.1) (ps := y1.2) h1 (fun n hn => hw n (by simp [hn])) (fun f' cs' d' ps' hlt h' hw' => openL f' h' hw')
  have o1 : OkC w [.sl 8 144 (pdLs s1)] [c1] := by rw [e1, pdLs_eq]; exact OkC.sl r1
  obtain ⟨s2, v2, e2, r2⟩ := slice_of_trod pdM (fun x => ⟨_, pdM_eq x⟩) Try.underlying39 Try.cellsMT (by omega) Try.bytesMT (by omega) (d := y2.1) (ps := y2.2) h2 (fun n hn => hw n (by simp [hn])) (fun f' cs' d' ps' hlt h' hw' => openM f' h' hw')
  have o2 : OkC w [.sl 8 144 (pdMs s2)] [c2] := by rw [e2, pdMs_eq]; exact OkC.sl r2
  refine ⟨.mk s0 s1 s2, ?_⟩
  rw [pdA_eq]
  exact repAgg.2 (OkC.append (OkC.append o0 o1) o2)
termination_by fuel
decreasing_by all_goals omega
theorem openR (fuel : Nat) {cs : List Value} {d : DataW H} {ps : List MemPlace} (h : DataW.trod enc Try.prog w 0 (fun _ => true) true fuel 43 cs = some (d, ps)) (hw : ∀ k ∈ d.weights Try.prog 43, k ≤ reachBytes) : ∃ x : TR, Rep w (Btw 0 w.heap.size) (pdR x) (.agg cs.toArray) := by
  obtain ⟨xs, n, rfl, hx, hl, hlen, hf⟩ := DataW.trod_struct Try.underlying43 h
  rw [Try.cellsRef] at hl
  match cs, hl with
  | [c0, c1, c2, c3, c4, c5], _ =>
  match xs, hlen with
  | [y0, y1, y2, y3], _ =>
  have h0 : DataW.trod enc Try.prog w 0 (fun _ => true) true n 4 (([c0, c1, c2, c3, c4, c5].drop 0).take (Try.prog.cellsOf 4)) = some y0 := (by have g := hf 0 _ rfl; exact g)
  have h1 : DataW.trod enc Try.prog w 0 (fun _ => true) true n 9 (([c0, c1, c2, c3, c4, c5].drop 1).take (Try.prog.cellsOf 9)) = some y1 := (by have g := hf 1 _ rfl; exact g)
  have h2 : DataW.trod enc Try.prog w 0 (fun _ => true) true n 41 (([c0, c1, c2, c3, c4, c5].drop 2).take (Try.prog.cellsOf 41)) = some y2 := (by have g := hf 2 _ rfl; exact g)
  have h3 : DataW.trod enc Try.prog w 0 (fun _ => true) true n 9 (([c0, c1, c2, c3, c4, c5].drop 5).take (Try.prog.cellsOf 9)) = some y3 := (by have g := hf 3 _ rfl; exact g)
  clear hf h
  simp only [Try.cellsBool, Try.cellsStr, Try.cellsStrs, Try.cellsVals, Try.cellsAtom, Try.cellsRef, Try.cellsLTs, Try.cellsMTs, Try.cellsFTs, List.drop_zero, List.drop_succ_cons, List.take_succ_cons, List.take_zero] at h0 h1 h2 h3
  simp only [Prod.mk.injEq] at hx
  obtain ⟨rfl, rfl⟩ := hx
  simp only [DataW.weights, Try.underlying43, List.map_cons, List.map_nil, DataW.weightsEach, List.mem_append, List.append_nil] at hw
  obtain ⟨s0, e0, -⟩ := DataW.trod_bool Try.underlying4 h0
  have o0 : OkC w [.val (.bool s0)] [c0] := by rw [e0]; exact OkC.val trivial
  obtain ⟨s1, e1, -, w1⟩ := DataW.trod_string Try.underlying9 h1
  have o1 : OkC w [.val (.string s1)] [c1] := by rw [e1]; exact OkC.val (show okV (.string s1) from w1)
  obtain ⟨s2, r2⟩ := openA n (d := y2.1) (ps := y2.2) h2 (fun n hn => hw n (by simp [hn]))
  rw [pdA_eq] at r2
  have o2 := repAgg.1 r2
  obtain ⟨s3, e3, -, w3⟩ := DataW.trod_string Try.underlying9 h3
  have o3 : OkC w [.val (.string s3)] [c5] := by rw [e3]; exact OkC.val (show okV (.string s3) from w3)
  refine ⟨.mk s0 s1 s2 s3, ?_⟩
  rw [pdR_eq]
  exact repAgg.2 (OkC.append (OkC.append (OkC.append o0 o1) o2) o3)
termination_by fuel
decreasing_by all_goals omega
theorem openL (fuel : Nat) {cs : List Value} {d : DataW H} {ps : List MemPlace} (h : DataW.trod enc Try.prog w 0 (fun _ => true) true fuel 63 cs = some (d, ps)) (hw : ∀ k ∈ d.weights Try.prog 63, k ≤ reachBytes) : ∃ x : TL, Rep w (Btw 0 w.heap.size) (pdL x) (.agg cs.toArray) := by
  obtain ⟨xs, n, rfl, hx, hl, hlen, hf⟩ := DataW.trod_struct Try.underlying63 h
  rw [Try.cellsLT] at hl
  match cs, hl with
  | [c0, c1, c2, c3, c4, c5, c6, c7], _ =>
  match xs, hlen with
  | [y0, y1, y2], _ =>
  have h0 : DataW.trod enc Try.prog w 0 (fun _ => true) true n 43 (([c0, c1, c2, c3, c4, c5, c6, c7].drop 0).take (Try.prog.cellsOf 43)) = some y0 := (by have g := hf 0 _ rfl; exact g)
  have h1 : DataW.trod enc Try.prog w 0 (fun _ => true) true n 9 (([c0, c1, c2, c3, c4, c5, c6, c7].drop 6).take (Try.prog.cellsOf 9)) = some y1 := (by have g := hf 1 _ rfl; exact g)
  have h2 : DataW.trod enc Try.prog w 0 (fun _ => true) true n 23 (([c0, c1, c2, c3, c4, c5, c6, c7].drop 7).take (Try.prog.cellsOf 23)) = some y2 := (by have g := hf 2 _ rfl; exact g)
  clear hf h
  simp only [Try.cellsBool, Try.cellsStr, Try.cellsStrs, Try.cellsVals, Try.cellsAtom, Try.cellsRef, Try.cellsLTs, Try.cellsMTs, Try.cellsFTs, List.drop_zero, List.drop_succ_cons, List.take_succ_cons, List.take_zero] at h0 h1 h2
  simp only [Prod.mk.injEq] at hx
  obtain ⟨rfl, rfl⟩ := hx
  simp only [DataW.weights, Try.underlying63, List.map_cons, List.map_nil, DataW.weightsEach, List.mem_append, List.append_nil] at hw
  obtain ⟨s0, r0⟩ := openR n (d := y0.1) (ps := y0.2) h0 (fun n hn => hw n (by simp [hn]))
  rw [pdR_eq] at r0
  have o0 := repAgg.1 r0
  obtain ⟨s1, e1, -, w1⟩ := DataW.trod_string Try.underlying9 h1
  have o1 : OkC w [.val (.string s1)] [c6] := by rw [e1]; exact OkC.val (show okV (.string s1) from w1)
  obtain ⟨v2, s2, e2, r2⟩ := isStrs_of_trod (d := y2.1) (ps := y2.2) h2 (fun n hn => hw n (by simp [hn]))
  have o2 : OkC w [.sl 1 16 (pdS s2)] [c7] := by rw [e2]; exact OkC.sl (rep_strs.2 r2)
  refine ⟨.mk s0 s1 s2, ?_⟩
  rw [pdL_eq]
  exact repAgg.2 (OkC.append (OkC.append o0 o1) o2)
termination_by fuel
decreasing_by all_goals omega
theorem openM (fuel : Nat) {cs : List Value} {d : DataW H} {ps : List MemPlace} (h : DataW.trod enc Try.prog w 0 (fun _ => true) true fuel 45 cs = some (d, ps)) (hw : ∀ k ∈ d.weights Try.prog 45, k ≤ reachBytes) : ∃ x : TM, Rep w (Btw 0 w.heap.size) (pdM x) (.agg cs.toArray) := by
  obtain ⟨xs, n, rfl, hx, hl, hlen, hf⟩ := DataW.trod_struct Try.underlying45 h
  rw [Try.cellsMT] at hl
  match cs, hl with
  | [c0, c1, c2, c3, c4, c5, c6, c7], _ =>
  match xs, hlen with
  | [y0, y1, y2], _ =>
  have h0 : DataW.trod enc Try.prog w 0 (fun _ => true) true n 37 (([c0, c1, c2, c3, c4, c5, c6, c7].drop 0).take (Try.prog.cellsOf 37)) = some y0 := (by have g := hf 0 _ rfl; exact g)
  have h1 : DataW.trod enc Try.prog w 0 (fun _ => true) true n 43 (([c0, c1, c2, c3, c4, c5, c6, c7].drop 1).take (Try.prog.cellsOf 43)) = some y1 := (by have g := hf 1 _ rfl; exact g)
  have h2 : DataW.trod enc Try.prog w 0 (fun _ => true) true n 9 (([c0, c1, c2, c3, c4, c5, c6, c7].drop 7).take (Try.prog.cellsOf 9)) = some y2 := (by have g := hf 2 _ rfl; exact g)
  clear hf h
  simp only [Try.cellsBool, Try.cellsStr, Try.cellsStrs, Try.cellsVals, Try.cellsAtom, Try.cellsRef, Try.cellsLTs, Try.cellsMTs, Try.cellsFTs, List.drop_zero, List.drop_succ_cons, List.take_succ_cons, List.take_zero] at h0 h1 h2
  simp only [Prod.mk.injEq] at hx
  obtain ⟨rfl, rfl⟩ := hx
  simp only [DataW.weights, Try.underlying45, List.map_cons, List.map_nil, DataW.weightsEach, List.mem_append, List.append_nil] at hw
  obtain ⟨s0, v0, e0, r0⟩ := slice_of_trod pdF (fun x => ⟨_, pdF_eq x⟩) Try.underlying37 Try.cellsFT (by omega) Try.bytesFT (by omega) (d := y0.1) (ps := y0.2) h0 (fun n hn => hw n (by simp [hn])) (fun f' cs' d' ps' hlt h' hw' => openF f' h' hw')
  have o0 : OkC w [.sl 8 144 (pdFs s0)] [c0] := by rw [e0, pdFs_eq]; exact OkC.sl r0
  obtain ⟨s1, r1⟩ := openR n (d := y1.1) (ps := y1.2) h1 (fun n hn => hw n (by simp [hn]))
  rw [pdR_eq] at r1
  have o1 := repAgg.1 r1
  obtain ⟨s2, e2, -, w2⟩ := DataW.trod_string Try.underlying9 h2
  have o2 : OkC w [.val (.string s2)] [c7] := by rw [e2]; exact OkC.val (show okV (.string s2) from w2)
  refine ⟨.mk s0 s1 s2, ?_⟩
  rw [pdM_eq]
  exact repAgg.2 (OkC.append (OkC.append o0 o1) o2)
termination_by fuel
decreasing_by all_goals omega
theorem openF (fuel : Nat) {cs : List Value} {d : DataW H} {ps : List MemPlace} (h : DataW.trod enc Try.prog w 0 (fun _ => true) true fuel 49 cs = some (d, ps)) (hw : ∀ k ∈ d.weights Try.prog 49, k ≤ reachBytes) : ∃ x : TF, Rep w (Btw 0 w.heap.size) (pdF x) (.agg cs.toArray) := by
  obtain ⟨xs, n, rfl, hx, hl, hlen, hf⟩ := DataW.trod_struct Try.underlying49 h
  rw [Try.cellsFT] at hl
  match cs, hl with
  | [c0, c1, c2, c3, c4, c5, c6, c7], _ =>
  match xs, hlen with
  | [y0, y1, y2], _ =>
  have h0 : DataW.trod enc Try.prog w 0 (fun _ => true) true n 9 (([c0, c1, c2, c3, c4, c5, c6, c7].drop 0).take (Try.prog.cellsOf 9)) = some y0 := (by have g := hf 0 _ rfl; exact g)
  have h1 : DataW.trod enc Try.prog w 0 (fun _ => true) true n 43 (([c0, c1, c2, c3, c4, c5, c6, c7].drop 1).take (Try.prog.cellsOf 43)) = some y1 := (by have g := hf 1 _ rfl; exact g)
  have h2 : DataW.trod enc Try.prog w 0 (fun _ => true) true n 24 (([c0, c1, c2, c3, c4, c5, c6, c7].drop 7).take (Try.prog.cellsOf 24)) = some y2 := (by have g := hf 2 _ rfl; exact g)
  clear hf h
  simp only [Try.cellsBool, Try.cellsStr, Try.cellsStrs, Try.cellsVals, Try.cellsAtom, Try.cellsRef, Try.cellsLTs, Try.cellsMTs, Try.cellsFTs, List.drop_zero, List.drop_succ_cons, List.take_succ_cons, List.take_zero] at h0 h1 h2
  simp only [Prod.mk.injEq] at hx
  obtain ⟨rfl, rfl⟩ := hx
  simp only [DataW.weights, Try.underlying49, List.map_cons, List.map_nil, DataW.weightsEach, List.mem_append, List.append_nil] at hw
  obtain ⟨s0, e0, -, w0⟩ := DataW.trod_string Try.underlying9 h0
  have o0 : OkC w [.val (.string s0)] [c0] := by rw [e0]; exact OkC.val (show okV (.string s0) from w0)
  obtain ⟨s1, r1⟩ := openR n (d := y1.1) (ps := y1.2) h1 (fun n hn => hw n (by simp [hn]))
  rw [pdR_eq] at r1
  have o1 := repAgg.1 r1
  obtain ⟨s2, v2, e2, r2⟩ := slice_of_trod pdV (fun x => ⟨_, pdV_eq x⟩) Try.underlying24 Try.cellsVal (by omega) Try.bytesVal (by omega) (d := y2.1) (ps := y2.2) h2 (fun n hn => hw n (by simp [hn])) (fun f' cs' d' ps' hlt h' hw' => by
    obtain ⟨x, c0, c1, c2, c3, c4, c5, e, hx⟩ := isV_of_trod f' h' hw'
    subst e
    exact ⟨x, isV_rep x hx⟩)
  have o2 : OkC w [.sl 6 88 (pdVs s2)] [c7] := by rw [e2, pdVs_eq]; exact OkC.sl r2
  refine ⟨.mk s0 s1 s2, ?_⟩
  rw [pdF_eq]
  exact repAgg.2 (OkC.append (OkC.append o0 o1) o2)
termination_by fuel
decreasing_by all_goals omega
end
end
end Go.Proofs.Ytlghpcokbppkfaa
