/- impl.fromValue: a value of the package taken apart. -/
import Derived.Test.YtlghpcokbppkfaaFromMapW
import Derived.Test.YtlghpcokbppkfaaIsX
namespace Go.Proofs.Ytlghpcokbppkfaa
open Go.RowKit
set_option linter.unusedSimpArgs false

set_option maxRecDepth 100000 in
theorem Unstructured_any (j : JV) (w : World) (r : Value) (hj : JForm j r) : Calls Try.prog 196 #[.agg #[r]] w fun e w' => e = .returned r ∧ w' = w.alloc (.cells #[r] 233) := by
  cases j <;> unfold JForm at hj
  case null => subst hj; go_enter Try.func196, Try.ntmps196; go_wp2_with fail; go_ret; exact ⟨rfl, rfl⟩
  case bool => subst hj; go_enter Try.func196, Try.ntmps196; go_wp2_with fail; go_ret; exact ⟨rfl, rfl⟩
  case int => subst hj; go_enter Try.func196, Try.ntmps196; go_wp2_with fail; go_ret; exact ⟨rfl, rfl⟩
  case flt => subst hj; go_enter Try.func196, Try.ntmps196; go_wp2_with fail; go_ret; exact ⟨rfl, rfl⟩
  case str => subst hj; go_enter Try.func196, Try.ntmps196; go_wp2_with fail; go_ret; exact ⟨rfl, rfl⟩
  case list => obtain ⟨a, c, rfl⟩ := hj; go_enter Try.func196, Try.ntmps196; go_wp2_with fail; go_ret; exact ⟨rfl, rfl⟩
  case map => obtain ⟨b, rfl⟩ := hj; go_enter Try.func196, Try.ntmps196; go_wp2_with fail; go_ret; exact ⟨rfl, rfl⟩

set_option maxHeartbeats 1000000 in
set_option maxRecDepth 100000 in
theorem fromValue_any (j : JV) (w : World) (v : Value) (hv : IsVal w (Btw 0 w.heap.size) j v) (hok : JOk j) :
    Calls Try.prog 113 #[v] w fun e w' => ∃ r, e = .returned r ∧ Below w.heap.size w w' ∧ IsV w' (Btw w.heap.size w'.heap.size) (unJ j) r := by
  obtain ⟨b, r, rfl, hb, hh, hj⟩ := hv
  have hc2 : w.cell? ⟨b, 0, none⟩ = some r := by rw [cell_of_row w b 0 _ _ _ hh]; rfl
  have hc3 : (w.alloc (.cells #[.int .i64 0, .int .i64 0, .float .f64 0, .string ⟨#[]⟩, .slice none 0 0, .slice none 0 0] 26)).cell? ⟨b, 0, none⟩ = some r := cell_below ((Below.refl _ _).alloc (Nat.le_refl _) _) hc2
  have m1 := fun n w hn hc => method_Unstructured b n r w hn hc
  have hf := hj.shape
  go_enter Try.func113, Try.ntmps113
  go_wp2_with fail
  have hjw := (hj.alloc_ (.cells #[.int .i64 0, .int .i64 0, .float .f64 0, .string ⟨#[]⟩, .slice none 0 0, .slice none 0 0] 26)).alloc_ (.cells #[r] 233)
  have hB0 := ((Below.refl w.heap.size w).alloc (Nat.le_refl _) (.cells #[.int .i64 0, .int .i64 0, .float .f64 0, .string ⟨#[]⟩, .slice none 0 0, .slice none 0 0] 26)).alloc (by simp) (.cells #[r] 233)
  have hr0 := blk_alloc (new_block (w := w) (b := w.heap.size) (o := (.cells #[.int .i64 0, .int .i64 0, .float .f64 0, .string ⟨#[]⟩, .slice none 0 0, .slice none 0 0] 26)) rfl) (.cells #[r] 233)
  have hs0 : ((w.alloc (.cells #[.int .i64 0, .int .i64 0, .float .f64 0, .string ⟨#[]⟩, .slice none 0 0, .slice none 0 0] 26)).alloc (.cells #[r] 233)).heap.size = w.heap.size + 2 := by simp
  have HJ := Lib.hid hjw
  have HOK := Lib.hid hok
  have hc := from_any j
  clear hjw hj hok hh hc2
  refine (Unstructured_any j _ r hf).mono ?_
  rintro e w1 ⟨rfl, rfl⟩
  go_wp2_with fail
  refine (hc.use _ _ HJ.out HOK.out).mono ?_
  rintro e w2 ⟨rr, rfl, hB2, hr⟩
  obtain ⟨a0, c0, a1, c1, rfl⟩ := hr.form
  have hB : Below w.heap.size w w2 := hB0.trans (hB2.mono (by omega))
  have hR := blk_below hr0 hB2
  have hs2 := hB2.size
  rw [hs0] at hr hs2
  have HR := Lib.hid hr
  clear hr HJ HOK hc hr0 hB0 hB2 m1 hc3 hs0
  have q0 : w2.cell? ⟨w.heap.size, 0, none⟩ = some (.int .i64 0) := blk_c hR 0 rfl
  have q1 : w2.cell? ⟨w.heap.size, 1, none⟩ = some (.int .i64 0) := blk_c hR 1 rfl
  have q2 : w2.cell? ⟨w.heap.size, 2, none⟩ = some (.float .f64 0) := blk_c hR 2 rfl
  have q3 : w2.cell? ⟨w.heap.size, 3, none⟩ = some (.string ⟨#[]⟩) := blk_c hR 3 rfl
  have q4 : w2.cell? ⟨w.heap.size, 4, none⟩ = some (.slice none 0 0) := blk_c hR 4 rfl
  have q5 : w2.cell? ⟨w.heap.size, 5, none⟩ = some (.slice none 0 0) := blk_c hR 5 rfl
  have f0 := blk_frozen hR 0
  have f1 := blk_frozen hR 1
  have f2 := blk_frozen hR 2
  have f3 := blk_frozen hR 3
  have f4 := blk_frozen hR 4
  have f5 := blk_frozen hR 5
  go_wp2_with fail
  have hblk := st6_blk (c0 := .int .i64 (unJ j).kind) (c1 := .int .i64 (unJ j).n) (c2 := .float .f64 (unJ j).f) (c3 := .string (unJ j).s) (c4 := .slice a0 (unJ j).keys.length c0) (c5 := .slice a1 (unJ j).l.length c1) hR
  have hfin : IsV (st6 w2 w.heap.size (.int .i64 (unJ j).kind) (.int .i64 (unJ j).n) (.float .f64 (unJ j).f) (.string (unJ j).s) (.slice a0 (unJ j).keys.length c0) (.slice a1 (unJ j).l.length c1)) (Btw w.heap.size (st6 w2 w.heap.size (.int .i64 (unJ j).kind) (.int .i64 (unJ j).n) (.float .f64 (unJ j).f) (.string (unJ j).s) (.slice a0 (unJ j).keys.length c0) (.slice a1 (unJ j).l.length c1)).heap.size) (unJ j) (.agg #[.int .i64 (unJ j).kind, .int .i64 (unJ j).n, .float .f64 (unJ j).f, .string (unJ j).s, .slice a0 (unJ j).keys.length c0, .slice a1 (unJ j).l.length c1]) := by
    rw [st6_size]
    exact IsV.keep (S := Btw (w.heap.size + 2) w2.heap.size) (fun b hb => st6_eq (by have := hb.1; omega)) (Btw.mono (by omega) (Nat.le_refl _)) _ HR.out
  have hBf : Below w.heap.size w (st6 w2 w.heap.size (.int .i64 (unJ j).kind) (.int .i64 (unJ j).n) (.float .f64 (unJ j).f) (.string (unJ j).s) (.slice a0 (unJ j).keys.length c0) (.slice a1 (unJ j).l.length c1)) := st6_below hB (by omega)
  refine bodyPost_ret (v := (.agg #[.int .i64 (unJ j).kind, .int .i64 (unJ j).n, .float .f64 (unJ j).f, .string (unJ j).s, .slice a0 (unJ j).keys.length c0, .slice a1 (unJ j).l.length c1])) ?_ rfl ?_
  · have e0 := blk_c hblk 0 (u := .int .i64 (unJ j).kind) rfl
    have e1 := blk_c hblk 1 (u := .int .i64 (unJ j).n) rfl
    have e2 := blk_c hblk 2 (u := .float .f64 (unJ j).f) rfl
    have e3 := blk_c hblk 3 (u := .string (unJ j).s) rfl
    have e4 := blk_c hblk 4 (u := .slice a0 (unJ j).keys.length c0) rfl
    have e5 := blk_c hblk 5 (u := .slice a1 (unJ j).l.length c1) rfl
    unfold st6 at e0 e1 e2 e3 e4 e5
    simp [results, Try.results113, go_sem, e0, e1, e2, e3, e4, e5]
  · unfold st6 at hfin hBf
    exact ⟨_, rfl, hBf, hfin⟩
end Go.Proofs.Ytlghpcokbppkfaa
