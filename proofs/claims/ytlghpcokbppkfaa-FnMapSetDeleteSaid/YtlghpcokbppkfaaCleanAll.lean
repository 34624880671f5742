/- spec.Clean, whole. -/
import Derived.Test.YtlghpcokbppkfaaCleanMap
namespace Go.Proofs.Ytlghpcokbppkfaa
open Go.RowKit
set_option linter.unusedSimpArgs false

def CleanMC (ks : List ByteArray) (l : List GV) : Prop := ∀ (k n : Int) (f : Nat) (s : ByteArray) (w : World) (v : Value), IsV w (Btw 0 w.heap.size) (.mk k n f s ks l) v →
    Calls Try.prog 67 #[v] w fun e w' => ∃ r, e = .returned r ∧ Below w.heap.size w w' ∧ IsV w' (Btw w.heap.size w'.heap.size) (cleanM ks l gMap) r
theorem CleanMC.use {ks : List ByteArray} {l : List GV} (h : CleanMC ks l) (k n : Int) (f : Nat) (s : ByteArray) (w : World) (v : Value) (hv : IsV w (Btw 0 w.heap.size) (.mk k n f s ks l) v) :
    Calls Try.prog 67 #[v] w fun e w' => ∃ r, e = .returned r ∧ Below w.heap.size w w' ∧ IsV w' (Btw w.heap.size w'.heap.size) (cleanM ks l gMap) r := h k n f s w v hv
theorem cleanMC (ks : List ByteArray) (l : List GV) (ih : ∀ y ∈ l, CleanC y) : CleanMC ks l := fun k n f s w v hv =>
  cleanMap_any (.mk k n f s ks l) ih w v hv

set_option maxHeartbeats 2000000 in
set_option maxRecDepth 100000 in
theorem clean_list (n : Int) (f : Nat) (s : ByteArray) (ks : List ByteArray) (l : List GV) (ih : ∀ y ∈ l, CleanC y) : CleanC (.mk 5 n f s ks l) := by
  intro w v hv
  unfold IsV at hv
  obtain ⟨vk, a, c, rfl, _, _, _, _, _, _, h6, h7⟩ := hv
  have h7' : l = [] ∨ ∃ b o, Btw 0 (w.heap.size + 2) b ∧ a = some ⟨b, o, none⟩ ∧ IsVs ((w.alloc (.cells #[.int .i64 5, .int .i64 n, .float .f64 f, .string s, vk, .slice a l.length c] 26)).alloc (.cells #[.int .i64 0, .int .i64 0, .float .f64 0, .string ⟨#[]⟩, .slice none 0 0, .slice none 0 0] 26)) (Btw 0 (w.heap.size + 2)) l b o := by
    rcases h7 with h | ⟨b, o, hb, ha, hx⟩
    · exact .inl h
    · refine .inr ⟨b, o, ⟨hb.1, by have := hb.2; omega⟩, ha, IsVs.keep (fun b hb => ?_) (Btw.mono (Nat.le_refl _) (by omega)) l b o hb hx⟩
      have := hb.2
      exact (Below.heap_alloc _ _ _ (by simp; omega)).trans (Below.heap_alloc _ _ _ this)
  clear h7
  go_enter Try.func17, Try.ntmps17
  go_wp2_with (go_at_call 66; (with_reducible refine (plainList_any l ih _ a c h6 ?_).mono ?_))
  · simpa using h7'
  rintro e w2 ⟨A, C, rfl, hC, hB2, hr⟩
  have hs2 := hB2.size
  simp at hs2
  have hB : Below w.heap.size w w2 := (((Below.refl _ _).alloc (Nat.le_refl _) _).alloc (by simp) _).trans (hB2.mono (by simp; omega))
  have hR := blk_below (new_block (w := w.alloc (.cells #[.int .i64 5, .int .i64 n, .float .f64 f, .string s, vk, .slice a l.length c] 26)) (b := w.heap.size + 1) (o := .cells #[.int .i64 0, .int .i64 0, .float .f64 0, .string ⟨#[]⟩, .slice none 0 0, .slice none 0 0] 26) (by simp)) hB2
  have hr' : l = [] ∨ ∃ b o, Btw (w.heap.size + 2) w2.heap.size b ∧ A = some ⟨b, o, none⟩ ∧ IsVs w2 (Btw (w.heap.size + 2) w2.heap.size) (cleanL l) b o := by simpa using hr
  clear hr hB2 h7' ih
  have q0 : w2.cell? ⟨w.heap.size + 1, 0, none⟩ = some (.int .i64 0) := blk_c hR 0 rfl
  have q1 : w2.cell? ⟨w.heap.size + 1, 1, none⟩ = some (.int .i64 0) := blk_c hR 1 rfl
  have q2 : w2.cell? ⟨w.heap.size + 1, 2, none⟩ = some (.float .f64 0) := blk_c hR 2 rfl
  have q3 : w2.cell? ⟨w.heap.size + 1, 3, none⟩ = some (.string ⟨#[]⟩) := blk_c hR 3 rfl
  have q4 : w2.cell? ⟨w.heap.size + 1, 4, none⟩ = some (.slice none 0 0) := blk_c hR 4 rfl
  have q5 : w2.cell? ⟨w.heap.size + 1, 5, none⟩ = some (.slice none 0 0) := blk_c hR 5 rfl
  have f0 := blk_frozen hR 0
  have f1 := blk_frozen hR 1
  have f2 := blk_frozen hR 2
  have f3 := blk_frozen hR 3
  have f4 := blk_frozen hR 4
  have f5 := blk_frozen hR 5
  go_wp2_with fail
  have hblk := st6_blk (c0 := .int .i64 5) (c1 := .int .i64 0) (c2 := .float .f64 0) (c3 := .string ⟨#[]⟩) (c4 := .slice none 0 0) (c5 := .slice A l.length C) hR
  have hfin : IsV (st6 w2 (w.heap.size + 1) (.int .i64 5) (.int .i64 0) (.float .f64 0) (.string ⟨#[]⟩) (.slice none 0 0) (.slice A l.length C)) (Btw w.heap.size (st6 w2 (w.heap.size + 1) (.int .i64 5) (.int .i64 0) (.float .f64 0) (.string ⟨#[]⟩) (.slice none 0 0) (.slice A l.length C)).heap.size) (cleanV (.mk 5 n f s ks l))
      (.agg #[.int .i64 5, .int .i64 0, .float .f64 0, .string ⟨#[]⟩, .slice none 0 0, .slice A l.length C]) := by
    rw [st6_size]
    have e : cleanV (.mk 5 n f s ks l) = .mk 5 0 0 ByteArray.empty [] (cleanL l) := by simp [cleanV]
    rw [e]
    refine IsV.mk_ (by decide) (by decide) (by decide) (by decide) ⟨none, 0, rfl, Nat.le_refl _, by decide, by simp, fun h => by simp at h⟩ (by rw [cleanL_length]; exact h6) ⟨A, C, by rw [cleanL_length], by rw [cleanL_length]; exact hC, ?_⟩
    rcases hr' with rfl | ⟨b, o, hb, ha, hx⟩
    · exact .inl (by simp [cleanL])
    · exact .inr ⟨b, o, ⟨by have := hb.1; omega, hb.2⟩, ha, IsVs.keep (S := Btw (w.heap.size + 2) w2.heap.size) (fun b hb => st6_eq (by have := hb.1; omega)) (Btw.mono (by omega) (Nat.le_refl _)) _ b o hb hx⟩
  have hBf : Below w.heap.size w (st6 w2 (w.heap.size + 1) (.int .i64 5) (.int .i64 0) (.float .f64 0) (.string ⟨#[]⟩) (.slice none 0 0) (.slice A l.length C)) := st6_below hB (by omega)
  refine bodyPost_ret (v := .agg #[.int .i64 5, .int .i64 0, .float .f64 0, .string ⟨#[]⟩, .slice none 0 0, .slice A l.length C]) ?_ rfl ?_
  · have e0 := blk_c hblk 0 (u := .int .i64 5) rfl
    have e1 := blk_c hblk 1 (u := .int .i64 0) rfl
    have e2 := blk_c hblk 2 (u := .float .f64 0) rfl
    have e3 := blk_c hblk 3 (u := .string ⟨#[]⟩) rfl
    have e4 := blk_c hblk 4 (u := .slice none 0 0) rfl
    have e5 := blk_c hblk 5 (u := .slice A l.length C) rfl
    unfold st6 at e0 e1 e2 e3 e4 e5
    simp [results, Try.results17, go_sem, e0, e1, e2, e3, e4, e5]
  · unfold st6 at hfin hBf
    exact ⟨_, rfl, hBf, hfin⟩

set_option maxHeartbeats 2000000 in
set_option maxRecDepth 100000 in
theorem clean_map (n : Int) (f : Nat) (s : ByteArray) (ks : List ByteArray) (l : List GV) (ih : ∀ y ∈ l, CleanC y) : CleanC (.mk 6 n f s ks l) := by
  intro w v hv
  have hv0 := hv
  obtain ⟨a0, c0, a1, c1, rfl⟩ := hv.form
  clear hv
  have hv1 := (hv0.alloc_ (.cells #[.int .i64 6, .int .i64 n, .float .f64 f, .string s, .slice a0 ks.length c0, .slice a1 l.length c1] 26)).alloc_ (.cells #[.int .i64 0, .int .i64 0, .float .f64 0, .string ⟨#[]⟩, .slice none 0 0, .slice none 0 0] 26)
  clear hv0
  simp only [GV.kind, GV.n, GV.f, GV.s, GV.keys, GV.l] at hv1 ⊢
  have hmc := cleanMC ks l ih
  clear ih
  go_enter Try.func17, Try.ntmps17
  go_wp2_with (go_at_call 67; (with_reducible refine (hmc.use 6 n f s _ _ ?_).mono ?_))
  · simpa using hv1
  rintro e w2 ⟨r, rfl, hB2, hr⟩
  have hs2 := hB2.size
  simp at hs2
  have hB : Below w.heap.size w w2 := (((Below.refl _ _).alloc (Nat.le_refl _) _).alloc (by simp) _).trans (hB2.mono (by simp; omega))
  have hR := blk_below (new_block (w := w.alloc (.cells #[.int .i64 6, .int .i64 n, .float .f64 f, .string s, .slice a0 ks.length c0, .slice a1 l.length c1] 26)) (b := w.heap.size + 1) (o := .cells #[.int .i64 0, .int .i64 0, .float .f64 0, .string ⟨#[]⟩, .slice none 0 0, .slice none 0 0] 26) (by simp)) hB2
  have hr' : IsV w2 (Btw (w.heap.size + 2) w2.heap.size) (cleanM ks l gMap) r := by simpa using hr
  clear hr hB2 hv1 hmc
  have hce : cleanV (.mk 6 n f s ks l) = cleanM ks l gMap := by simp [cleanV, gMap]
  generalize hacv : cleanM ks l gMap = acc at *
  have HCE := Lib.hid hce
  clear hacv hce
  obtain ⟨xa, xc, ya, yc, rfl⟩ := hr'.form
  have q0 : w2.cell? ⟨w.heap.size + 1, 0, none⟩ = some (.int .i64 0) := blk_c hR 0 rfl
  have q1 : w2.cell? ⟨w.heap.size + 1, 1, none⟩ = some (.int .i64 0) := blk_c hR 1 rfl
  have q2 : w2.cell? ⟨w.heap.size + 1, 2, none⟩ = some (.float .f64 0) := blk_c hR 2 rfl
  have q3 : w2.cell? ⟨w.heap.size + 1, 3, none⟩ = some (.string ⟨#[]⟩) := blk_c hR 3 rfl
  have q4 : w2.cell? ⟨w.heap.size + 1, 4, none⟩ = some (.slice none 0 0) := blk_c hR 4 rfl
  have q5 : w2.cell? ⟨w.heap.size + 1, 5, none⟩ = some (.slice none 0 0) := blk_c hR 5 rfl
  have f0 := blk_frozen hR 0
  have f1 := blk_frozen hR 1
  have f2 := blk_frozen hR 2
  have f3 := blk_frozen hR 3
  have f4 := blk_frozen hR 4
  have f5 := blk_frozen hR 5
  go_wp2_with fail
  have hblk := st6_blk (c0 := .int .i64 acc.kind) (c1 := .int .i64 acc.n) (c2 := .float .f64 acc.f) (c3 := .string acc.s) (c4 := .slice xa acc.keys.length xc) (c5 := .slice ya acc.l.length yc) hR
  have hfin : IsV (st6 w2 (w.heap.size + 1) (.int .i64 acc.kind) (.int .i64 acc.n) (.float .f64 acc.f) (.string acc.s) (.slice xa acc.keys.length xc) (.slice ya acc.l.length yc)) (Btw w.heap.size (st6 w2 (w.heap.size + 1) (.int .i64 acc.kind) (.int .i64 acc.n) (.float .f64 acc.f) (.string acc.s) (.slice xa acc.keys.length xc) (.slice ya acc.l.length yc)).heap.size) acc
      (.agg #[.int .i64 acc.kind, .int .i64 acc.n, .float .f64 acc.f, .string acc.s, .slice xa acc.keys.length xc, .slice ya acc.l.length yc]) := by
    rw [st6_size]
    exact IsV.keep (S := Btw (w.heap.size + 2) w2.heap.size) (fun b hb => st6_eq (by have := hb.1; omega)) (Btw.mono (by omega) (Nat.le_refl _)) _ hr'
  have hBf : Below w.heap.size w (st6 w2 (w.heap.size + 1) (.int .i64 acc.kind) (.int .i64 acc.n) (.float .f64 acc.f) (.string acc.s) (.slice xa acc.keys.length xc) (.slice ya acc.l.length yc)) := st6_below hB (by omega)
  refine bodyPost_ret (v := .agg #[.int .i64 acc.kind, .int .i64 acc.n, .float .f64 acc.f, .string acc.s, .slice xa acc.keys.length xc, .slice ya acc.l.length yc]) ?_ rfl ?_
  · have e0 := blk_c hblk 0 (u := .int .i64 acc.kind) rfl
    have e1 := blk_c hblk 1 (u := .int .i64 acc.n) rfl
    have e2 := blk_c hblk 2 (u := .float .f64 acc.f) rfl
    have e3 := blk_c hblk 3 (u := .string acc.s) rfl
    have e4 := blk_c hblk 4 (u := .slice xa acc.keys.length xc) rfl
    have e5 := blk_c hblk 5 (u := .slice ya acc.l.length yc) rfl
    unfold st6 at e0 e1 e2 e3 e4 e5
    simp [results, Try.results17, go_sem, e0, e1, e2, e3, e4, e5]
  · unfold st6 at hfin hBf
    rw [HCE.out]
    exact ⟨_, rfl, hBf, hfin⟩

/-- Clean makes the plain form. -/
theorem clean_any : ∀ (x : GV), CleanC x
  | .mk k n f s ks l => by
    have ih : ∀ y ∈ l, CleanC y := fun y hy => clean_any y
    by_cases h5 : k = 5
    · subst h5; exact clean_list n f s ks l ih
    by_cases h6 : k = 6
    · subst h6; exact clean_map n f s ks l ih
    exact clean_scalar k n f s ks l h5 h6
termination_by x => SizeOf.sizeOf x
decreasing_by
  have := List.sizeOf_lt_of_mem hy
  simp; omega

end Go.Proofs.Ytlghpcokbppkfaa
