/- A row's argument of the type impl.Schema, read as plain data. -/
import Derived.Test.YtlghpcokbppkfaaOpenT
import Derived.Test.YtlghpcokbppkfaaRes
namespace Go.Proofs.Ytlghpcokbppkfaa
open Go.ChangeShapes Go.WideShapes Go.ChangeAt Go.RowKit
set_option linter.unusedSimpArgs false
theorem Try.cellsTD : Try.prog.cellsOf 149 = 4 := by kernel_rfl
theorem Try.cellsTDs : Try.prog.cellsOf 59 = 1 := by kernel_rfl
theorem Try.cellsSch : Try.prog.cellsOf 61 = 1 := by kernel_rfl
theorem Try.bytesTD : Try.prog.bytesOf 149 = 80 := by kernel_rfl
section
variable {H : Type} {enc : TypeId × Value → H} {w : World}
set_option maxRecDepth 100000
set_option maxHeartbeats 2000000
theorem openTD (fuel : Nat) {cs : List Value} {d : DataW H} {ps : List MemPlace} (h : DataW.trod enc Try.prog w 0 (fun _ => true) true fuel 149 cs = some (d, ps)) (hw : ∀ k ∈ d.weights Try.prog 149, k ≤ reachBytes) : ∃ x : TD, Rep w (Btw 0 w.heap.size) (pdTD x) (.agg cs.toArray) := by
  obtain ⟨xs, n, rfl, hx, hl, hlen, hf⟩ := DataW.trod_struct Try.underlying149 h
  rw [Try.cellsTD] at hl
  match cs, hl with
  | [c0, c1, c2, c3], _ =>
  match xs, hlen with
  | [y0, y1], _ =>
  have h0 : DataW.trod enc Try.prog w 0 (fun _ => true) true n 9 (([c0, c1, c2, c3].drop 0).take (Try.prog.cellsOf 9)) = some y0 := (by have g := hf 0 _ rfl; exact g)
  have h1 : DataW.trod enc Try.prog w 0 (fun _ => true) true n 41 (([c0, c1, c2, c3].drop 1).take (Try.prog.cellsOf 41)) = some y1 := (by have g := hf 1 _ rfl; exact g)
  clear hf h
  simp only [Try.cellsStr, Try.cellsAtom, List.drop_zero, List.drop_succ_cons, List.take_succ_cons, List.take_zero] at h0 h1
  simp only [Prod.mk.injEq] at hx
  obtain ⟨rfl, rfl⟩ := hx
  simp only [DataW.weights, Try.underlying149, List.map_cons, List.map_nil, DataW.weightsEach, List.mem_append, List.append_nil] at hw
  obtain ⟨s0, e0, -, w0⟩ := DataW.trod_string Try.underlying9 h0
  have o0 : OkC w [.val (.string s0)] [c0] := by rw [e0]; exact OkC.val (show okV (.string s0) from w0)
  obtain ⟨s1, r1⟩ := openA n (d := y1.1) (ps := y1.2) h1 (fun n hn => hw n (by simp [hn]))
  rw [pdA_eq] at r1
  have o1 := repAgg.1 r1
  refine ⟨(s0, s1), ?_⟩
  rw [pdTD_eq]
  exact repAgg.2 (OkC.append o0 o1)
theorem openS (fuel : Nat) {cs : List Value} {d : DataW H} {ps : List MemPlace} (h : DataW.trod enc Try.prog w 0 (fun _ => true) true fuel 61 cs = some (d, ps)) (hw : ∀ k ∈ d.weights Try.prog 61, k ≤ reachBytes) : ∃ x : List TD, Rep w (Btw 0 w.heap.size) (pdSch x) (.agg cs.toArray) := by
  obtain ⟨xs, n, rfl, hx, hl, hlen, hf⟩ := DataW.trod_struct Try.underlying61 h
  rw [Try.cellsSch] at hl
  match cs, hl with
  | [c0], _ =>
  match xs, hlen with
  | [y0], _ =>
  have h0 : DataW.trod enc Try.prog w 0 (fun _ => true) true n 59 (([c0].drop 0).take (Try.prog.cellsOf 59)) = some y0 := (by have g := hf 0 _ rfl; exact g)
  clear hf h
  simp only [Try.cellsTDs, List.drop_zero, List.take_succ_cons, List.take_zero] at h0
  simp only [Prod.mk.injEq] at hx
  obtain ⟨rfl, rfl⟩ := hx
  simp only [DataW.weights, Try.underlying61, List.map_cons, List.map_nil, DataW.weightsEach, List.mem_append, List.append_nil] at hw
  obtain ⟨s0, v0, e0, r0⟩ := slice_of_trod pdTD (fun x => ⟨_, pdTD_eq x⟩) Try.underlying59 Try.cellsTD (by omega) Try.bytesTD (by omega) (d := y0.1) (ps := y0.2) h0 (fun n hn => hw n (by simp [hn])) (fun f' cs' d' ps' hlt h' hw' => openTD f' h' hw')
  exact ⟨s0, repAgg.2 (by rw [e0]; exact OkC.sl r0)⟩
end
end Go.Proofs.Ytlghpcokbppkfaa
