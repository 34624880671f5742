/- Eleven cells stored one after the other; impl.fromElem but for keys. -/
import Derived.Test.YtlghpcokbppkfaaToElem
import Derived.Test.YtlghpcokbppkfaaFromValue
namespace Go.Proofs.Ytlghpcokbppkfaa
open Go.RowKit
set_option linter.unusedSimpArgs false

def st11 (w : World) (b : Nat) (c0 c1 c2 c3 c4 c5 c6 c7 c8 c9 c10 : Value) : World := ((((((((((w.setCell ⟨b, 0, none⟩ c0).setCell ⟨b, 1, none⟩ c1).setCell ⟨b, 2, none⟩ c2).setCell ⟨b, 3, none⟩ c3).setCell ⟨b, 4, none⟩ c4).setCell ⟨b, 5, none⟩ c5).setCell ⟨b, 6, none⟩ c6).setCell ⟨b, 7, none⟩ c7).setCell ⟨b, 8, none⟩ c8).setCell ⟨b, 9, none⟩ c9).setCell ⟨b, 10, none⟩ c10
section
variable {w : World} {b : Nat} {c0 c1 c2 c3 c4 c5 c6 c7 c8 c9 c10 : Value}
theorem st11_below {B : Nat} {w0 : World} (h : Below B w0 w) (hb : B ≤ b) : Below B w0 (st11 w b c0 c1 c2 c3 c4 c5 c6 c7 c8 c9 c10) := ((((((((((h.setCell hb _).setCell hb _).setCell hb _).setCell hb _).setCell hb _).setCell hb _).setCell hb _).setCell hb _).setCell hb _).setCell hb _).setCell hb _
theorem st11_size : (st11 w b c0 c1 c2 c3 c4 c5 c6 c7 c8 c9 c10).heap.size = w.heap.size := by simp [st11]
theorem st11_blk {d0 d1 d2 d3 d4 d5 d6 d7 d8 d9 d10 : Value} {t : TypeId} (h : w.heap[b]? = some (.cells #[d0, d1, d2, d3, d4, d5, d6, d7, d8, d9, d10] t (0, 0))) : (st11 w b c0 c1 c2 c3 c4 c5 c6 c7 c8 c9 c10).heap[b]? = some (.cells #[c0, c1, c2, c3, c4, c5, c6, c7, c8, c9, c10] t (0, 0)) := by
  have h := blk_set h 0 c0
  rw [show (#[d0, d1, d2, d3, d4, d5, d6, d7, d8, d9, d10] : Array Value).setIfInBounds 0 c0 = #[c0, d1, d2, d3, d4, d5, d6, d7, d8, d9, d10] from rfl] at h
  have h := blk_set h 1 c1
  rw [show (#[c0, d1, d2, d3, d4, d5, d6, d7, d8, d9, d10] : Array Value).setIfInBounds 1 c1 = #[c0, c1, d2, d3, d4, d5, d6, d7, d8, d9, d10] from rfl] at h
  have h := blk_set h 2 c2
  rw [show (#[c0, c1, d2, d3, d4, d5, d6, d7, d8, d9, d10] : Array Value).setIfInBounds 2 c2 = #[c0, c1, c2, d3, d4, d5, d6, d7, d8, d9, d10] from rfl] at h
  have h := blk_set h 3 c3
  rw [show (#[c0, c1, c2, d3, d4, d5, d6, d7, d8, d9, d10] : Array Value).setIfInBounds 3 c3 = #[c0, c1, c2, c3, d4, d5, d6, d7, d8, d9, d10] from rfl] at h
  have h := blk_set h 4 c4
  rw [show (#[c0, c1, c2, c3, d4, d5, d6, d7, d8, d9, d10] : Array Value).setIfInBounds 4 c4 = #[c0, c1, c2, c3, c4, d5, d6, d7, d8, d9, d10] from rfl] at h
  have h := blk_set h 5 c5
  rw [show (#[c0, c1, c2, c3, c4, d5, d6, d7, d8, d9, d10] : Array Value).setIfInBounds 5 c5 = #[c0, c1, c2, c3, c4, c5, d6, d7, d8, d9, d10] from rfl] at h
  have h := blk_set h 6 c6
  rw [show (#[c0, c1, c2, c3, c4, c5, d6, d7, d8, d9, d10] : Array Value).setIfInBounds 6 c6 = #[c0, c1, c2, c3, c4, c5, c6, d7, d8, d9, d10] from rfl] at h
  have h := blk_set h 7 c7
  rw [show (#[c0, c1, c2, c3, c4, c5, c6, d7, d8, d9, d10] : Array Value).setIfInBounds 7 c7 = #[c0, c1, c2, c3, c4, c5, c6, c7, d8, d9, d10] from rfl] at h
  have h := blk_set h 8 c8
  rw [show (#[c0, c1, c2, c3, c4, c5, c6, c7, d8, d9, d10] : Array Value).setIfInBounds 8 c8 = #[c0, c1, c2, c3, c4, c5, c6, c7, c8, d9, d10] from rfl] at h
  have h := blk_set h 9 c9
  rw [show (#[c0, c1, c2, c3, c4, c5, c6, c7, c8, d9, d10] : Array Value).setIfInBounds 9 c9 = #[c0, c1, c2, c3, c4, c5, c6, c7, c8, c9, d10] from rfl] at h
  have h := blk_set h 10 c10
  rw [show (#[c0, c1, c2, c3, c4, c5, c6, c7, c8, c9, d10] : Array Value).setIfInBounds 10 c10 = #[c0, c1, c2, c3, c4, c5, c6, c7, c8, c9, c10] from rfl] at h
  exact h
theorem st11_eq {k : Nat} (hk : k ≠ b) : (st11 w b c0 c1 c2 c3 c4 c5 c6 c7 c8 c9 c10).heap[k]? = w.heap[k]? := by
  unfold st11
  rw [Below.heap_setCell _ _ _ _ hk, Below.heap_setCell _ _ _ _ hk, Below.heap_setCell _ _ _ _ hk, Below.heap_setCell _ _ _ _ hk, Below.heap_setCell _ _ _ _ hk, Below.heap_setCell _ _ _ _ hk, Below.heap_setCell _ _ _ _ hk, Below.heap_setCell _ _ _ _ hk, Below.heap_setCell _ _ _ _ hk, Below.heap_setCell _ _ _ _ hk, Below.heap_setCell _ _ _ _ hk]
end

/-- The element of a package's element. -/
def unPE : PEV → EV
  | .name s => ⟨0, s, [], [], gNull, 0⟩
  | .key fl => ⟨1, ByteArray.empty, fl.map (·.1), fl.map fun p => unJ p.2, gNull, 0⟩
  | .val j => ⟨2, ByteArray.empty, [], [], unJ j, 0⟩
  | .idx n => ⟨3, ByteArray.empty, [], [], gNull, n⟩

/-- Nothing in it is beyond memory. -/
def POk : PEV → Prop
  | .key fl => fl.length * 88 ≤ 140737488351232 ∧ ∀ p ∈ fl, JOk p.2
  | .val j => JOk j
  | _ => True

theorem isE_mk {w : World} {S : Nat → Prop} {kd n : Int} {s : ByteArray} {ks : List ByteArray} {l : List GV} {y : GV} {vk vl c0 c1 c2 c3 c4 c5 : Value} (h1 : (Lit.int .i64 kd).wf = true) (h2 : (Lit.int .i64 n).wf = true) (h4 : s.size ≤ maxLen)
    (hk : IsStrs w S vk ks) (hl : l.length * 88 ≤ 140737488351232) (hv : ∃ a c, vl = .slice a l.length c ∧ l.length ≤ c ∧ (l = [] ∨ ∃ b o, S b ∧ a = some ⟨b, o, none⟩ ∧ IsVs w S l b o)) (hy : IsV w S y (.agg #[c0, c1, c2, c3, c4, c5])) :
    IsE w S ⟨kd, s, ks, l, y, n⟩ (.agg #[.int .i64 kd, .string s, vk, vl, c0, c1, c2, c3, c4, c5, .int .i64 n]) := by
  obtain ⟨a, c, rfl, hc, hv⟩ := hv
  obtain ⟨a', c', rfl, hr⟩ := hk
  exact ⟨a', c', a, c, c0, c1, c2, c3, c4, c5, rfl, h1, h2, h4, ⟨a', c', rfl, hr⟩, hc, hl, hv, hy⟩
theorem isStrs_nil {w : World} {S : Nat → Prop} : IsStrs w S (.slice none 0 0) [] := ⟨none, 0, rfl, Nat.le_refl _, by decide, by simp, fun h => by simp at h⟩
theorem isV_nil {w : World} {S : Nat → Prop} : IsV w S gNull (.agg #[.int .i64 0, .int .i64 0, .float .f64 0, .string ⟨#[]⟩, .slice none 0 0, .slice none 0 0]) :=
  IsV.mk_ (l := []) (by decide) (by decide) (by decide) (by decide) isStrs_nil (by decide) ⟨none, 0, rfl, Nat.le_refl _, .inl rfl⟩

set_option maxHeartbeats 1000000 in
set_option maxRecDepth 100000 in
theorem fromElem_name (s : ByteArray) (w : World) (v : Value) (hv : IsPE w (Btw 0 w.heap.size) (.name s) v) :
    Calls Try.prog 71 #[v] w fun e w' => ∃ r, e = .returned r ∧ Below w.heap.size w w' ∧ IsE w' (Btw w.heap.size w'.heap.size) (unPE (.name s)) r := by
  obtain ⟨b, rfl, hb, hh, hz⟩ := hv
  have hc0 : w.cell? ⟨b, 0, none⟩ = some (.string s) := blk_c hh 0 rfl
  have HZ := Lib.hid hz
  have hblt := hb.2
  clear hb hz hh
  go_enter Try.func71, Try.ntmps71
  go_wp2_with fail
  have hB : Below w.heap.size w ((w.alloc (.cells #[.pointer (some ⟨b, 0, none⟩), .pointer none, .pointer none, .pointer none] 104)).alloc (.cells #[.int .i64 0, .string s, .slice none 0 0, .slice none 0 0, .int .i64 0, .int .i64 0, .float .f64 0, .string ⟨#[]⟩, .slice none 0 0, .slice none 0 0, .int .i64 0] 33)) := ((Below.refl _ _).alloc (Nat.le_refl _) (.cells #[.pointer (some ⟨b, 0, none⟩), .pointer none, .pointer none, .pointer none] 104)).alloc (by simp) (.cells #[.int .i64 0, .string s, .slice none 0 0, .slice none 0 0, .int .i64 0, .int .i64 0, .float .f64 0, .string ⟨#[]⟩, .slice none 0 0, .slice none 0 0, .int .i64 0] 33)
  have hblk : ((w.alloc (.cells #[.pointer (some ⟨b, 0, none⟩), .pointer none, .pointer none, .pointer none] 104)).alloc (.cells #[.int .i64 0, .string s, .slice none 0 0, .slice none 0 0, .int .i64 0, .int .i64 0, .float .f64 0, .string ⟨#[]⟩, .slice none 0 0, .slice none 0 0, .int .i64 0] 33)).heap[w.heap.size + 1]? = some (.cells #[.int .i64 0, .string s, .slice none 0 0, .slice none 0 0, .int .i64 0, .int .i64 0, .float .f64 0, .string ⟨#[]⟩, .slice none 0 0, .slice none 0 0, .int .i64 0] 33) := new_block (by simp)
  refine bodyPost_ret (v := .agg #[.int .i64 0, .string s, .slice none 0 0, .slice none 0 0, .int .i64 0, .int .i64 0, .float .f64 0, .string ⟨#[]⟩, .slice none 0 0, .slice none 0 0, .int .i64 0]) ?_ rfl ?_
  · have e0 := blk_c hblk 0 (u := .int .i64 0) rfl
    have e1 := blk_c hblk 1 (u := .string s) rfl
    have e2 := blk_c hblk 2 (u := .slice none 0 0) rfl
    have e3 := blk_c hblk 3 (u := .slice none 0 0) rfl
    have e4 := blk_c hblk 4 (u := .int .i64 0) rfl
    have e5 := blk_c hblk 5 (u := .int .i64 0) rfl
    have e6 := blk_c hblk 6 (u := .float .f64 0) rfl
    have e7 := blk_c hblk 7 (u := .string ⟨#[]⟩) rfl
    have e8 := blk_c hblk 8 (u := .slice none 0 0) rfl
    have e9 := blk_c hblk 9 (u := .slice none 0 0) rfl
    have e10 := blk_c hblk 10 (u := .int .i64 0) rfl
    simp [results, Try.results71, go_sem, e0, e1, e2, e3, e4, e5, e6, e7, e8, e9, e10]
  · exact ⟨_, rfl, hB, isE_mk (l := []) (by decide) (by decide) HZ.out isStrs_nil (by decide) ⟨none, 0, rfl, Nat.le_refl _, .inl rfl⟩ isV_nil⟩
set_option maxHeartbeats 1000000 in
set_option maxRecDepth 100000 in
theorem fromElem_idx (n : Int) (w : World) (v : Value) (hv : IsPE w (Btw 0 w.heap.size) (.idx n) v) :
    Calls Try.prog 71 #[v] w fun e w' => ∃ r, e = .returned r ∧ Below w.heap.size w w' ∧ IsE w' (Btw w.heap.size w'.heap.size) (unPE (.idx n)) r := by
  obtain ⟨b, rfl, hb, hh, hz⟩ := hv
  have hc0 : w.cell? ⟨b, 0, none⟩ = some (.int .i64 n) := blk_c hh 0 rfl
  have HZ := Lib.hid hz
  have hblt := hb.2
  clear hb hz hh
  go_enter Try.func71, Try.ntmps71
  go_wp2_with fail
  have hB : Below w.heap.size w ((w.alloc (.cells #[.pointer none, .pointer none, .pointer none, .pointer (some ⟨b, 0, none⟩)] 104)).alloc (.cells #[.int .i64 3, .string ⟨#[]⟩, .slice none 0 0, .slice none 0 0, .int .i64 0, .int .i64 0, .float .f64 0, .string ⟨#[]⟩, .slice none 0 0, .slice none 0 0, .int .i64 n] 33)) := ((Below.refl _ _).alloc (Nat.le_refl _) (.cells #[.pointer none, .pointer none, .pointer none, .pointer (some ⟨b, 0, none⟩)] 104)).alloc (by simp) (.cells #[.int .i64 3, .string ⟨#[]⟩, .slice none 0 0, .slice none 0 0, .int .i64 0, .int .i64 0, .float .f64 0, .string ⟨#[]⟩, .slice none 0 0, .slice none 0 0, .int .i64 n] 33)
  have hblk : ((w.alloc (.cells #[.pointer none, .pointer none, .pointer none, .pointer (some ⟨b, 0, none⟩)] 104)).alloc (.cells #[.int .i64 3, .string ⟨#[]⟩, .slice none 0 0, .slice none 0 0, .int .i64 0, .int .i64 0, .float .f64 0, .string ⟨#[]⟩, .slice none 0 0, .slice none 0 0, .int .i64 n] 33)).heap[w.heap.size + 1]? = some (.cells #[.int .i64 3, .string ⟨#[]⟩, .slice none 0 0, .slice none 0 0, .int .i64 0, .int .i64 0, .float .f64 0, .string ⟨#[]⟩, .slice none 0 0, .slice none 0 0, .int .i64 n] 33) := new_block (by simp)
  refine bodyPost_ret (v := .agg #[.int .i64 3, .string ⟨#[]⟩, .slice none 0 0, .slice none 0 0, .int .i64 0, .int .i64 0, .float .f64 0, .string ⟨#[]⟩, .slice none 0 0, .slice none 0 0, .int .i64 n]) ?_ rfl ?_
  · have e0 := blk_c hblk 0 (u := .int .i64 3) rfl
    have e1 := blk_c hblk 1 (u := .string ⟨#[]⟩) rfl
    have e2 := blk_c hblk 2 (u := .slice none 0 0) rfl
    have e3 := blk_c hblk 3 (u := .slice none 0 0) rfl
    have e4 := blk_c hblk 4 (u := .int .i64 0) rfl
    have e5 := blk_c hblk 5 (u := .int .i64 0) rfl
    have e6 := blk_c hblk 6 (u := .float .f64 0) rfl
    have e7 := blk_c hblk 7 (u := .string ⟨#[]⟩) rfl
    have e8 := blk_c hblk 8 (u := .slice none 0 0) rfl
    have e9 := blk_c hblk 9 (u := .slice none 0 0) rfl
    have e10 := blk_c hblk 10 (u := .int .i64 n) rfl
    simp [results, Try.results71, go_sem, e0, e1, e2, e3, e4, e5, e6, e7, e8, e9, e10]
  · exact ⟨_, rfl, hB, isE_mk (l := []) (by decide) HZ.out (by decide) isStrs_nil (by decide) ⟨none, 0, rfl, Nat.le_refl _, .inl rfl⟩ isV_nil⟩
set_option maxHeartbeats 1000000 in
set_option maxRecDepth 100000 in
theorem fromElem_val (j : JV) (w : World) (v : Value) (hv : IsPE w (Btw 0 w.heap.size) (.val j) v) (hok : JOk j) :
    Calls Try.prog 71 #[v] w fun e w' => ∃ r, e = .returned r ∧ Below w.heap.size w w' ∧ IsE w' (Btw w.heap.size w'.heap.size) (unPE (.val j)) r := by
  obtain ⟨b, u, rfl, hb, hh, hx⟩ := hv
  have hx2 := hx
  obtain ⟨vb, vr, rfl, hvb, hvh, hvj⟩ := hx2
  clear hvb hvh hvj
  have hB0 := ((Below.refl w.heap.size w).alloc (Nat.le_refl _) (.cells #[.pointer none, .pointer none, .pointer (some ⟨b, 0, none⟩), .pointer none] 104)).alloc (by simp) (.cells #[.int .i64 0, .string ⟨#[]⟩, .slice none 0 0, .slice none 0 0, .int .i64 0, .int .i64 0, .float .f64 0, .string ⟨#[]⟩, .slice none 0 0, .slice none 0 0, .int .i64 0] 33)
  have hx1 := hx.keep (w' := ((w.alloc (.cells #[.pointer none, .pointer none, .pointer (some ⟨b, 0, none⟩), .pointer none] 104)).alloc (.cells #[.int .i64 0, .string ⟨#[]⟩, .slice none 0 0, .slice none 0 0, .int .i64 0, .int .i64 0, .float .f64 0, .string ⟨#[]⟩, .slice none 0 0, .slice none 0 0, .int .i64 0] 33))) (Btw.kept hB0) (S' := Btw 0 ((w.alloc (.cells #[.pointer none, .pointer none, .pointer (some ⟨b, 0, none⟩), .pointer none] 104)).alloc (.cells #[.int .i64 0, .string ⟨#[]⟩, .slice none 0 0, .slice none 0 0, .int .i64 0, .int .i64 0, .float .f64 0, .string ⟨#[]⟩, .slice none 0 0, .slice none 0 0, .int .i64 0] 33)).heap.size) (Btw.mono (Nat.le_refl _) (by simp; omega))
  have hc0 : ((w.alloc (.cells #[.pointer none, .pointer none, .pointer (some ⟨b, 0, none⟩), .pointer none] 104)).alloc (.cells #[.int .i64 0, .string ⟨#[]⟩, .slice none 0 0, .slice none 0 0, .int .i64 0, .int .i64 0, .float .f64 0, .string ⟨#[]⟩, .slice none 0 0, .slice none 0 0, .int .i64 0] 33)).cell? ⟨b, 0, none⟩ = some (.iface 205 (.pointer (some ⟨vb, 0, none⟩))) := (hB0.cell (by exact hb.2)).trans (blk_c hh 0 rfl)
  have hR0 : ((w.alloc (.cells #[.pointer none, .pointer none, .pointer (some ⟨b, 0, none⟩), .pointer none] 104)).alloc (.cells #[.int .i64 0, .string ⟨#[]⟩, .slice none 0 0, .slice none 0 0, .int .i64 0, .int .i64 0, .float .f64 0, .string ⟨#[]⟩, .slice none 0 0, .slice none 0 0, .int .i64 0] 33)).heap[w.heap.size + 1]? = some (.cells #[.int .i64 0, .string ⟨#[]⟩, .slice none 0 0, .slice none 0 0, .int .i64 0, .int .i64 0, .float .f64 0, .string ⟨#[]⟩, .slice none 0 0, .slice none 0 0, .int .i64 0] 33) := new_block (by simp)
  have HX := Lib.hid (And.intro hx1 (And.intro hB0 hR0))
  clear hx hx1 hB0 hb hh hR0
  go_enter Try.func71, Try.ntmps71
  go_wp2_with (go_at_call 113; (with_reducible refine (fromValue_any j _ _ ?_ hok).mono ?_))
  · exact HX.out.1
  rintro e w2 ⟨r, rfl, hB2, hr⟩
  obtain ⟨_, hB0, hR0⟩ := HX.out
  obtain ⟨a0, d0, a1, d1, rfl⟩ := hr.form
  have hs2 : w.heap.size + 2 ≤ w2.heap.size := by have := hB2.size; simpa using this
  have hR := blk_below hR0 hB2
  have hB : Below w.heap.size w w2 := hB0.trans (hB2.mono (by simp; omega))
  have HR := Lib.hid (And.intro hR (hr.lo_ (lo' := w.heap.size + 2) (by simp)))
  have q0 : w2.cell? ⟨w.heap.size + 1, 0, none⟩ = some (.int .i64 0) := blk_c hR 0 rfl
  have q1 : w2.cell? ⟨w.heap.size + 1, 1, none⟩ = some (.string ⟨#[]⟩) := blk_c hR 1 rfl
  have q2 : w2.cell? ⟨w.heap.size + 1, 2, none⟩ = some (.slice none 0 0) := blk_c hR 2 rfl
  have q3 : w2.cell? ⟨w.heap.size + 1, 3, none⟩ = some (.slice none 0 0) := blk_c hR 3 rfl
  have q4 : w2.cell? ⟨w.heap.size + 1, 4, none⟩ = some (.int .i64 0) := blk_c hR 4 rfl
  have q5 : w2.cell? ⟨w.heap.size + 1, 5, none⟩ = some (.int .i64 0) := blk_c hR 5 rfl
  have q6 : w2.cell? ⟨w.heap.size + 1, 6, none⟩ = some (.float .f64 0) := blk_c hR 6 rfl
  have q7 : w2.cell? ⟨w.heap.size + 1, 7, none⟩ = some (.string ⟨#[]⟩) := blk_c hR 7 rfl
  have q8 : w2.cell? ⟨w.heap.size + 1, 8, none⟩ = some (.slice none 0 0) := blk_c hR 8 rfl
  have q9 : w2.cell? ⟨w.heap.size + 1, 9, none⟩ = some (.slice none 0 0) := blk_c hR 9 rfl
  have q10 : w2.cell? ⟨w.heap.size + 1, 10, none⟩ = some (.int .i64 0) := blk_c hR 10 rfl
  have f0 := blk_frozen hR 0
  have f1 := blk_frozen hR 1
  have f2 := blk_frozen hR 2
  have f3 := blk_frozen hR 3
  have f4 := blk_frozen hR 4
  have f5 := blk_frozen hR 5
  have f6 := blk_frozen hR 6
  have f7 := blk_frozen hR 7
  have f8 := blk_frozen hR 8
  have f9 := blk_frozen hR 9
  have f10 := blk_frozen hR 10
  clear hr hB2 hB0 hR0 hR hok hc0 HX
  go_wp2_with fail
  obtain ⟨hR, hr⟩ := HR.out
  have hblk := st11_blk (c0 := .int .i64 2) (c1 := .string ⟨#[]⟩) (c2 := .slice none 0 0) (c3 := .slice none 0 0) (c4 := .int .i64 (unJ j).kind) (c5 := .int .i64 (unJ j).n) (c6 := .float .f64 (unJ j).f) (c7 := .string (unJ j).s) (c8 := .slice a0 (unJ j).keys.length d0) (c9 := .slice a1 (unJ j).l.length d1) (c10 := .int .i64 0) hR
  have hsz : (st11 w2 (w.heap.size + 1) (.int .i64 2) (.string ⟨#[]⟩) (.slice none 0 0) (.slice none 0 0) (.int .i64 (unJ j).kind) (.int .i64 (unJ j).n) (.float .f64 (unJ j).f) (.string (unJ j).s) (.slice a0 (unJ j).keys.length d0) (.slice a1 (unJ j).l.length d1) (.int .i64 0)).heap.size = w2.heap.size := st11_size
  have hfin : IsE (st11 w2 (w.heap.size + 1) (.int .i64 2) (.string ⟨#[]⟩) (.slice none 0 0) (.slice none 0 0) (.int .i64 (unJ j).kind) (.int .i64 (unJ j).n) (.float .f64 (unJ j).f) (.string (unJ j).s) (.slice a0 (unJ j).keys.length d0) (.slice a1 (unJ j).l.length d1) (.int .i64 0)) (Btw w.heap.size (st11 w2 (w.heap.size + 1) (.int .i64 2) (.string ⟨#[]⟩) (.slice none 0 0) (.slice none 0 0) (.int .i64 (unJ j).kind) (.int .i64 (unJ j).n) (.float .f64 (unJ j).f) (.string (unJ j).s) (.slice a0 (unJ j).keys.length d0) (.slice a1 (unJ j).l.length d1) (.int .i64 0)).heap.size) (unPE (.val j)) (.agg #[.int .i64 2, .string ⟨#[]⟩, .slice none 0 0, .slice none 0 0, .int .i64 (unJ j).kind, .int .i64 (unJ j).n, .float .f64 (unJ j).f, .string (unJ j).s, .slice a0 (unJ j).keys.length d0, .slice a1 (unJ j).l.length d1, .int .i64 0]) := by
    rw [hsz]
    exact isE_mk (l := []) (by decide) (by decide) (by decide) isStrs_nil (by decide) ⟨none, 0, rfl, Nat.le_refl _, .inl rfl⟩ (IsV.keep (S := Btw (w.heap.size + 2) w2.heap.size) (fun b hb => st11_eq (by have := hb.1; omega)) (Btw.mono (by omega) (Nat.le_refl _)) _ hr)
  have hBf : Below w.heap.size w (st11 w2 (w.heap.size + 1) (.int .i64 2) (.string ⟨#[]⟩) (.slice none 0 0) (.slice none 0 0) (.int .i64 (unJ j).kind) (.int .i64 (unJ j).n) (.float .f64 (unJ j).f) (.string (unJ j).s) (.slice a0 (unJ j).keys.length d0) (.slice a1 (unJ j).l.length d1) (.int .i64 0)) := st11_below hB (by omega)
  refine bodyPost_ret (v := .agg #[.int .i64 2, .string ⟨#[]⟩, .slice none 0 0, .slice none 0 0, .int .i64 (unJ j).kind, .int .i64 (unJ j).n, .float .f64 (unJ j).f, .string (unJ j).s, .slice a0 (unJ j).keys.length d0, .slice a1 (unJ j).l.length d1, .int .i64 0]) ?_ rfl ?_
  · have e0 := blk_c hblk 0 (u := .int .i64 2) rfl
    have e1 := blk_c hblk 1 (u := .string ⟨#[]⟩) rfl
    have e2 := blk_c hblk 2 (u := .slice none 0 0) rfl
    have e3 := blk_c hblk 3 (u := .slice none 0 0) rfl
    have e4 := blk_c hblk 4 (u := .int .i64 (unJ j).kind) rfl
    have e5 := blk_c hblk 5 (u := .int .i64 (unJ j).n) rfl
    have e6 := blk_c hblk 6 (u := .float .f64 (unJ j).f) rfl
    have e7 := blk_c hblk 7 (u := .string (unJ j).s) rfl
    have e8 := blk_c hblk 8 (u := .slice a0 (unJ j).keys.length d0) rfl
    have e9 := blk_c hblk 9 (u := .slice a1 (unJ j).l.length d1) rfl
    have e10 := blk_c hblk 10 (u := .int .i64 0) rfl
    unfold st11 at e0 e1 e2 e3 e4 e5 e6 e7 e8 e9 e10
    simp [results, Try.results71, go_sem, e0, e1, e2, e3, e4, e5, e6, e7, e8, e9, e10]
  · unfold st11 at hfin hBf
    exact ⟨_, rfl, hBf, hfin⟩
end Go.Proofs.Ytlghpcokbppkfaa
