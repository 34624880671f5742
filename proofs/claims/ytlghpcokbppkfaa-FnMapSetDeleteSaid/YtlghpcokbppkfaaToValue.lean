/- impl.toValue: a value of the package; the methods that tell its kind. -/
import Derived.Test.YtlghpcokbppkfaaPlain
import Derived.Deep.RegionWith
namespace Go.Proofs.Ytlghpcokbppkfaa
open Go.RowKit

/-- v is the package's value of the tree j: a pointer to a block that holds the tree's interface value. -/
def IsVal (w : World) (S : Nat → Prop) (j : JV) (v : Value) : Prop :=
  ∃ b r, v = .iface 205 (.pointer (some ⟨b, 0, none⟩)) ∧ S b ∧ w.heap[b]? = some (.cells #[r] 233 (0, 0)) ∧ IsJ w S j r

theorem IsVal.keep {w w' : World} {S S' : Nat → Prop} {j : JV} {v : Value} (h : ∀ b, S b → w'.heap[b]? = w.heap[b]?) (hs : ∀ b, S b → S' b) (hv : IsVal w S j v) : IsVal w' S' j v := by
  obtain ⟨b, r, e, hb, hh, hj⟩ := hv
  exact ⟨b, r, e, hs b hb, (h b hb).trans hh, hj.keep h hs⟩

theorem IsVal.drew_ {w : World} {lo : Nat} {j : JV} {v : Value} (h : IsVal w (Btw lo w.heap.size) j v) : IsVal w.drew (Btw lo w.drew.heap.size) j v :=
  IsVal.keep (w := w) (w' := w.drew) (S := Btw lo w.heap.size) (S' := Btw lo w.heap.size) (fun _ _ => rfl) (fun _ h => h) h

set_option maxRecDepth 100000 in
theorem allocVU_any (p : Option Addr) (w : World) : Calls Try.prog 134 #[.pointer p] w fun e w' =>
    e = .returned (.pointer (some ⟨w.heap.size, 0, none⟩)) ∧ w' = w.alloc (.cells #[.nilIface] 233) := by
  go_enter Try.func134, Try.ntmps134
  go_wp2_with fail
  go_ret
  exact ⟨rfl, rfl⟩

set_option maxRecDepth 100000 in
theorem reuse_any (b : Nat) (u r : Value) (w : World) (hb : w.heap[b]? = some (.cells #[u] 233 (0, 0))) (hr : r.oneCell' = true) :
    Calls Try.prog 135 #[.pointer (some ⟨b, 0, none⟩), r] w fun e w' =>
      e = .returned (.iface 205 (.pointer (some ⟨b, 0, none⟩))) ∧ w' = w.setCell ⟨b, 0, none⟩ r := by
  have hcl : r.cells = #[r] := by cases r <;> first | rfl | (simp [Value.oneCell'] at hr)
  have hc : w.cell? ⟨b, 0, none⟩ = some u := by rw [cell_of_row w b 0 _ _ _ hb]; rfl
  have hf : w.frozen? ⟨b, 0, none⟩ = false := by simp [World.frozen?, hb]
  obtain ⟨i0, hi, hz0, hz1, hz2⟩ := info_parts Try.infoAny
  have HCL := Lib.hid hcl; have HR := Lib.hid hr
  clear hb hr hcl
  go_enter Try.func135, Try.ntmps135
  go_wp2_with (refine wpList_store_one rfl 20 _ _ rfl ⟨b, 0, none⟩ rfl r rfl i0 hi hz1 HR.out HCL.out _ hc hf ?_)
  go_ret
  exact ⟨rfl, rfl⟩

theorem setCell_new (w : World) (u r : Value) (t : TypeId) : (w.alloc (.cells #[u] t)).setCell ⟨w.heap.size, 0, none⟩ r = w.alloc (.cells #[r] t) := by
  rw [World.setCell_alloc_at _ _ _ _ _ rfl]; rfl


set_option maxRecDepth 100000 in
theorem newVI_any (r : Value) (w : World) (hr : r.oneCell' = true) : Calls Try.prog 105 #[r] w fun e w' =>
    e = .returned (.iface 205 (.pointer (some ⟨w.heap.size + 1, 0, none⟩))) ∧ w' = (w.alloc (.cells #[] 201)).alloc (.cells #[r] 233) := by
  go_enter Try.func105, Try.ntmps105
  go_wp2_with fail
  refine (allocVU_any _ _).mono ?_
  rintro e w1 ⟨rfl, rfl⟩
  go_wp2_with (go_at_call 135; refine (reuse_any (w.heap.size + 1) .nilIface r _ ?_ hr).mono ?_)
  · exact new_block (by simp)
  · rintro e w2 ⟨rfl, rfl⟩
    go_wp2_with fail
    go_ret
    exact ⟨rfl, rfl⟩

set_option maxRecDepth 100000 in
theorem toValue_any (x : GV) (w : World) (v : Value) (hv : IsV w (Btw 0 w.heap.size) x v) :
    Calls Try.prog 65 #[v] w fun e w' => ∃ r, e = .returned r ∧ Below w.heap.size w w' ∧ IsVal w' (Btw w.heap.size w'.heap.size) (plainJ x) r := by
  obtain ⟨a0, c0, a1, c1, rfl⟩ := hv.form
  have hv1 := IsV.keep (S := Btw 0 w.heap.size) (S' := Btw 0 (w.heap.size + 1)) (w' := w.alloc (.cells #[.int .i64 x.kind, .int .i64 x.n, .float .f64 x.f, .string x.s, .slice a0 x.keys.length c0, .slice a1 x.l.length c1] 26))
        (fun b hb => Below.heap_alloc _ _ _ hb.2) (Btw.mono (Nat.le_refl _) (by omega)) _ hv
  clear hv
  go_enter Try.func65, Try.ntmps65
  go_wp2_with (go_at_call 73; (with_reducible refine ((plain_any x).use _ _ (by simpa using hv1)).mono ?_))
  rintro e w2 ⟨r, rfl, hB2, hr⟩
  go_wp2_with (go_at_call 105; refine (newVI_any r w2 hr.oneCell).mono ?_)
  rintro e w3 ⟨rfl, rfl⟩
  have hs := hB2.size
  go_wp2_with fail
  go_ret
  have hB3 : Below w.heap.size w ((w2.alloc (.cells #[] 201)).alloc (.cells #[r] 233)) :=
    (((((Below.refl _ _).alloc (Nat.le_refl _) _).trans (hB2.mono (by simp))).alloc (by simp at hs; omega) _).alloc (by simp at hs ⊢; omega) _)
  refine ⟨_, rfl, hB3, w2.heap.size + 1, r, rfl, ⟨by simp at hs; omega, by simp⟩, new_block (by simp), ?_⟩
  refine IsJ.keep (fun b hb => ?_) (Btw.mono (by simp) (by simp; omega)) _ hr
  have := hb.2
  exact (Below.heap_alloc _ _ _ (by simp; omega)).trans (Below.heap_alloc _ _ _ (by omega))

end Go.Proofs.Ytlghpcokbppkfaa
