/- value.FieldList.Sort: the fields in the call's own row are sorted by their names. -/
import Derived.Test.YtlghpcokbppkfaaSortPure
import Derived.Test.YtlghpcokbppkfaaToKeys
namespace Go.Proofs.Ytlghpcokbppkfaa
open Go.RowKit
set_option linter.unusedSimpArgs false

/-- A field's value in memory. -/
def fcell (b : Nat) : Value := .iface 205 (.pointer (some ⟨b, 0, none⟩))
/-- The cells of fields. -/
def flatF : List (ByteArray × Nat) → List Value
  | [] => []
  | p :: r => .string p.1 :: fcell p.2 :: flatF r
theorem flatF_length : ∀ l, (flatF l).length = l.length * 2
  | [] => rfl
  | p :: r => by simp [flatF, flatF_length r]; omega
theorem flatF_at : ∀ (l : List (ByteArray × Nat)) (i : Nat) (p : ByteArray × Nat), l[i]? = some p → (flatF l)[i * 2]? = some (.string p.1) ∧ (flatF l)[i * 2 + 1]? = some (fcell p.2)
  | [], i, p, h => by simp at h
  | x :: r, 0, p, h => by
    simp at h; subst h
    simp [flatF]
  | x :: r, i + 1, p, h => by
    have := flatF_at r i p (by simpa using h)
    rw [show (i + 1) * 2 = i * 2 + 1 + 1 by omega]
    simpa [flatF] using this
theorem flatF_set : ∀ (l : List (ByteArray × Nat)) (i : Nat) (p : ByteArray × Nat), flatF (l.set i p) = ((flatF l).set (i * 2) (.string p.1)).set (i * 2 + 1) (fcell p.2)
  | [], i, p => by simp [flatF]
  | x :: r, 0, p => by simp [flatF]
  | x :: r, i + 1, p => by
    have := flatF_set r i p
    rw [show (i + 1) * 2 = i * 2 + 1 + 1 by omega]
    simp [flatF, this]
theorem flatF_app (a b : List (ByteArray × Nat)) : flatF (a ++ b) = flatF a ++ flatF b := by
  induction a with
  | nil => rfl
  | cons x r ih => simp [flatF, ih]

/-- A cell of the call's own row written, whatever the size of its items. -/
theorem own_setN {w : World} {base size : Nat} {e : TypeId} {g n c : Nat} {xs : List Value} (h : w.ownsRow base e size (.slice (some ⟨g, 0, none⟩) n c) n xs) {i : Nat} (u : Value) :
    (w.setCell ⟨g, i, none⟩ u).ownsRow base e size (.slice (some ⟨g, 0, none⟩) n c) n (xs.set i u) := by
  obtain ⟨h1, h2⟩ := h
  refine ⟨by simpa using h1, ?_⟩
  rcases h2 with ⟨h2, _⟩ | ⟨g', cap, cur, hv, hb, hg, hn, hm, hs, ht⟩
  · simp at h2
  · injection hv with e1 _ e3
    injection e1 with e1
    injection e1 with e1
    subst e1 e3
    refine .inr ⟨g, c, cur.setIfInBounds i u, rfl, hb, blk_set hg i u, hn, hm, by simpa using hs, ?_⟩
    rw [Array.toList_setIfInBounds, List.take_set, ht]
theorem own_cellN {w : World} {base size : Nat} {e : TypeId} {n c g : Nat} {xs : List Value} (h : w.ownsRow base e size (.slice (some ⟨g, 0, none⟩) n c) n xs) {i : Nat} {u : Value} (hu : xs[i]? = some u) : w.cell? ⟨g, i, none⟩ = some u := by
  have := h.cells (g := g) rfl i u hu
  rwa [Addr.add_lit, Nat.zero_add] at this
/-- Only the block g is not as it was. -/
structure Only (g : Nat) (w w' : World) : Prop where
  os : w'.os = w.os
  tape : w'.tape = w.tape
  output : w'.output = w.output
  size : w'.heap.size = w.heap.size
  block : ∀ b, b ≠ g → w'.heap[b]? = w.heap[b]?
theorem Only.refl (g : Nat) (w : World) : Only g w w := ⟨rfl, rfl, rfl, rfl, fun _ _ => rfl⟩
theorem Only.trans {g : Nat} {w w1 w2 : World} (h : Only g w w1) (h' : Only g w1 w2) : Only g w w2 := ⟨h'.os.trans h.os, h'.tape.trans h.tape, h'.output.trans h.output, h'.size.trans h.size, fun b hb => (h'.block b hb).trans (h.block b hb)⟩
theorem Only.set {g : Nat} {w w1 : World} (h : Only g w w1) (i : Nat) (u : Value) : Only g w (w1.setCell ⟨g, i, none⟩ u) :=
  ⟨h.os, h.tape, h.output, by simp [h.size], fun b hb => (Below.heap_setCell _ _ _ _ hb).trans (h.block b hb)⟩
theorem Only.drawn {g : Nat} {w w1 : World} (h : Only g w w1) (n : Nat) : Only g w (w1.drewN n) := h.trans ⟨rfl, rfl, rfl, rfl, fun _ _ => rfl⟩
theorem Only.drew1 {g : Nat} {w w1 : World} (h : Only g w w1) : Only g w w1.drew := h.trans ⟨rfl, rfl, rfl, rfl, fun _ _ => rfl⟩
theorem Only.below {g : Nat} {w w1 : World} (h : Only g w w1) {B : Nat} (hB : B ≤ g) : Below B w w1 := ⟨h.os, h.tape, h.output, Nat.le_of_eq h.size.symm, fun b hb => h.block b (by omega)⟩

theorem two_cells {w : World} {base g n c : Nat} {l : List (ByteArray × Nat)} (h : w.ownsRow base 179 2 (.slice (some ⟨g, 0, none⟩) n c) n (flatF l)) {i : Nat} {p : ByteArray × Nat} (hi : l[i]? = some p) :
    w.cell? ⟨g, i * 2, none⟩ = some (.string p.1) ∧ w.cell? ⟨g, i * 2 + 1, none⟩ = some (.iface 205 (.pointer (some ⟨p.2, 0, none⟩))) :=
  ⟨own_cellN h (flatF_at l i p hi).1, own_cellN h (flatF_at l i p hi).2⟩
theorem two_free {w : World} {base g n c : Nat} {xs : List Value} (h : w.ownsRow base 179 2 (.slice (some ⟨g, 0, none⟩) n c) n xs) (i : Nat) : w.frozen? ⟨g, i, none⟩ = false := own_free h i
/-- Two fields of the row changed for one another. -/
theorem own_swap {w : World} {base g n c : Nat} {l : List (ByteArray × Nat)} (h : w.ownsRow base 179 2 (.slice (some ⟨g, 0, none⟩) n c) n (flatF l)) (i j : Nat) (x y : ByteArray × Nat) :
    ((((w.setCell ⟨g, i * 2, none⟩ (.string x.1)).setCell ⟨g, i * 2 + 1, none⟩ (.iface 205 (.pointer (some ⟨x.2, 0, none⟩)))).setCell ⟨g, j * 2, none⟩ (.string y.1)).setCell ⟨g, j * 2 + 1, none⟩ (.iface 205 (.pointer (some ⟨y.2, 0, none⟩)))).ownsRow base 179 2 (.slice (some ⟨g, 0, none⟩) n c) n (flatF ((l.set i x).set j y)) := by
  rw [flatF_set, flatF_set]
  exact own_setN (own_setN (own_setN (own_setN h _) _) _) _

set_option maxHeartbeats 1000000 in
set_option maxRecDepth 100000 in
theorem sort_two (x y : ByteArray × Nat) (w : World) (base g C : Nat) (hown : w.ownsRow base 179 2 (.slice (some ⟨g, 0, none⟩) 2 C) 2 (flatF [x, y])) :
    Calls Try.prog 115 #[.slice (some ⟨g, 0, none⟩) 2 C] w fun e w' => (∃ r, e = .returned r) ∧ Only g w w' ∧ w'.ownsRow base 179 2 (.slice (some ⟨g, 0, none⟩) 2 C) 2 (flatF (sortS [x, y])) := by
  have hs : sortS [x, y] = if blt y.1 x.1 = true then [y, x] else [x, y] := by
    simp only [sortS, List.foldl_cons, List.foldl_nil, insS, List.reverse_nil, insR, List.reverse_cons, List.nil_append]
    split <;> rfl
  obtain ⟨x1, x2⟩ := two_cells hown (i := 0) (p := x) rfl
  obtain ⟨y1, y2⟩ := two_cells hown (i := 1) (p := y) rfl
  have f0 := two_free hown 0
  have f1 := two_free hown 1
  have f2 := two_free hown 2
  have f3 := two_free hown 3
  simp only [Nat.zero_mul, Nat.one_mul, Nat.zero_add] at x1 x2 y1 y2
  have HO := Lib.hid hown
  have HS := Lib.hid hs
  clear hown hs
  go_enter Try.func115, Try.ntmps115
  go_wp2_with fail
  go_quiet (fail)
  go_wp2_with fail
  · have hlt : blt y.1 x.1 = true := by assumption
    have z1 : (w.drewN nq).cell? ⟨g, 0, none⟩ = some (.string x.1) := x1
    have z2 : (w.drewN nq).cell? ⟨g, 1, none⟩ = some (.iface 205 (.pointer (some ⟨x.2, 0, none⟩))) := x2
    have z3 : (w.drewN nq).cell? ⟨g, 2, none⟩ = some (.string y.1) := y1
    have z4 : (w.drewN nq).cell? ⟨g, 3, none⟩ = some (.iface 205 (.pointer (some ⟨y.2, 0, none⟩))) := y2
    have k0 : (w.drewN nq).frozen? ⟨g, 0, none⟩ = false := f0
    have k1 : (w.drewN nq).frozen? ⟨g, 1, none⟩ = false := f1
    have k2 : (w.drewN nq).frozen? ⟨g, 2, none⟩ = false := f2
    have k3 : (w.drewN nq).frozen? ⟨g, 3, none⟩ = false := f3
    have hh : (w.drewN nq).ownsRow base 179 2 (.slice (some ⟨g, 0, none⟩) 2 C) 2 (flatF [x, y]) := HO.out
    have HW := Lib.hid (And.intro hh ((Only.refl g w).drawn nq))
    clear x1 x2 y1 y2 f0 f1 f2 f3 HO hh
    generalize w.drewN nq = wx at *
    refine wp_region_P (by kernel_rfl) ?_
    refine wpP_take (i := 1) (v := ?_) rfl (by kernel_rfl) (by kernel_rfl) (by kernel_rfl) (.inl ⟨by rfl, ?_⟩) ?_
    rotate_left
    · (intro w hSw; clear hSw; go_simp; (try with_reducible rfl))
    try simp only [Act.put, List.setIfInBounds_toArray, List.set_cons_zero, List.set_cons_succ]
    refine wpP_take (i := 5) (v := ?_) rfl (by kernel_rfl) (by kernel_rfl) (by kernel_rfl) (.inl ⟨by rfl, ?_⟩) ?_
    rotate_left
    · (intro w hSw; clear hSw; go_simp; (try with_reducible rfl))
    try simp only [Act.put, List.setIfInBounds_toArray, List.set_cons_zero, List.set_cons_succ]
    refine wpP_take (i := 6) (v := ?_) rfl (by kernel_rfl) (by kernel_rfl) (by kernel_rfl) (.inl ⟨by rfl, ?_⟩) ?_
    rotate_left
    · (intro w hSw; clear hSw; go_simp; (try with_reducible rfl))
    try simp only [Act.put, List.setIfInBounds_toArray, List.set_cons_zero, List.set_cons_succ]
    refine wpP_then (fun w' => w'.cell? ⟨g, 0, none⟩ = some (.string x.1) ∧ w'.cell? ⟨g, 1, none⟩ = some (.iface 205 (.pointer (some ⟨x.2, 0, none⟩))) ∧ w'.cell? ⟨g, 2, none⟩ = some (.string y.1) ∧ w'.cell? ⟨g, 3, none⟩ = some (.iface 205 (.pointer (some ⟨y.2, 0, none⟩)))) [0, 2, 3, 4, 7, 8] ?_ (fun hHeld => ?_)
    · exact ⟨z1, z2, z3, z4⟩
    refine wpK_take (i := 0) (v := ?_) rfl (by kernel_rfl) (by kernel_rfl) (by kernel_rfl) (by kernel_rfl) (.inl ⟨by rfl, ?_⟩) hHeld ?_
    rotate_left
    · (intro w hSw; (try dsimp only at hSw); go_split_ands; go_simp; (try with_reducible rfl))
    try simp only [Act.put, List.setIfInBounds_toArray, List.set_cons_zero, List.set_cons_succ]
    refine wpK_take (i := 2) (v := ?_) rfl (by kernel_rfl) (by kernel_rfl) (by kernel_rfl) (by kernel_rfl) (.inl ⟨by rfl, ?_⟩) hHeld ?_
    rotate_left
    · (intro w hSw; (try dsimp only at hSw); go_split_ands; go_simp; (try with_reducible rfl))
    try simp only [Act.put, List.setIfInBounds_toArray, List.set_cons_zero, List.set_cons_succ]
    refine wpK_take (i := 3) (v := ?_) rfl (by kernel_rfl) (by kernel_rfl) (by kernel_rfl) (by kernel_rfl) (.inl ⟨by rfl, ?_⟩) hHeld ?_
    rotate_left
    · (intro w hSw; (try dsimp only at hSw); go_split_ands; go_simp; (try with_reducible rfl))
    try simp only [Act.put, List.setIfInBounds_toArray, List.set_cons_zero, List.set_cons_succ]
    refine wpK_take (i := 4) (v := ?_) rfl (by kernel_rfl) (by kernel_rfl) (by kernel_rfl) (by kernel_rfl) (.inl ⟨by rfl, ?_⟩) hHeld ?_
    rotate_left
    · (intro w hSw; (try dsimp only at hSw); go_split_ands; go_simp; (try with_reducible rfl))
    try simp only [Act.put, List.setIfInBounds_toArray, List.set_cons_zero, List.set_cons_succ]
    refine wpK_take (i := 7) (v := ?_) rfl (by kernel_rfl) (by kernel_rfl) (by kernel_rfl) (by kernel_rfl) (.inl ⟨by rfl, ?_⟩) hHeld ?_
    rotate_left
    · (intro w hSw; (try dsimp only at hSw); go_split_ands; go_simp; (try with_reducible rfl))
    try simp only [Act.put, List.setIfInBounds_toArray, List.set_cons_zero, List.set_cons_succ]
    refine wpK_take (i := 8) (v := ?_) rfl (by kernel_rfl) (by kernel_rfl) (by kernel_rfl) (by kernel_rfl) (.inl ⟨by rfl, ?_⟩) hHeld ?_
    rotate_left
    · (intro w hSw; (try dsimp only at hSw); go_split_ands; go_simp; (try with_reducible rfl))
    try simp only [Act.put, List.setIfInBounds_toArray, List.set_cons_zero, List.set_cons_succ]
    refine wpK_last (i := 9) (by kernel_rfl) (by kernel_rfl) rfl (fun K hK => ?_)
    go_simp
    refine hK.out _ _ ?_
    clear hK K
    try simp only [Act.put, List.setIfInBounds_toArray, List.set_cons_zero, List.set_cons_succ]
    refine wpK_last (i := 10) (by kernel_rfl) (by kernel_rfl) rfl (fun K hK => ?_)
    go_simp
    refine hK.out _ _ ?_
    clear hK K
    try simp only [Act.put, List.setIfInBounds_toArray, List.set_cons_zero, List.set_cons_succ]
    refine wpK_last (i := 11) (by kernel_rfl) (by kernel_rfl) rfl (fun K hK => ?_)
    go_simp
    refine hK.out _ _ ?_
    clear hK K
    try simp only [Act.put, List.setIfInBounds_toArray, List.set_cons_zero, List.set_cons_succ]
    refine wpK_done (by kernel_rfl) ?_ _
    go_wp2_with fail
    obtain ⟨hh, ho⟩ := HW.out
    refine bodyPost_ret (v := .tuple #[]) ?_ rfl ?_
    · simp [results, Try.results115, go_sem]
    · rw [HS.out, if_pos hlt]
      exact ⟨⟨_, rfl⟩, ((((ho.drew1.set _ _).set _ _).set _ _).set _ _), own_swap (l := [x, y]) hh.drew 0 1 y x⟩
  · have hlt : blt y.1 x.1 = false := by assumption
    refine bodyPost_ret (v := .tuple #[]) ?_ rfl ?_
    · simp [results, Try.results115, go_sem]
    · rw [HS.out, if_neg (by rw [hlt]; simp)]
      exact ⟨⟨_, rfl⟩, (Only.refl g w).drawn nq, HO.out⟩

theorem insAt_app_at {α : Type} (P R : List α) {p : Nat} (x : α) (hp : p ≤ P.length) : (insAt P p x ++ R)[p]? = some x := by
  rw [List.getElem?_append_left (by rw [insAt_length _ _ hp]; omega), insAt_at _ _ hp]
theorem insAt_app_before {α : Type} (P R : List α) {p : Nat} (x y : α) (hp : p < P.length) (hy : P[p]? = some y) : (insAt P (p + 1) x ++ R)[p]? = some y := by
  rw [List.getElem?_append_left (by rw [insAt_length _ _ (by omega)]; omega), insAt_before _ _ hp, hy]
theorem insAt_app_swap {α : Type} (P R : List α) {p : Nat} (x y : α) (hp : p < P.length) (hy : P[p]? = some y) : ((insAt P (p + 1) x ++ R).set (p + 1) y).set p x = insAt P p x ++ R := by
  rw [List.set_append_left _ _ (by rw [insAt_length _ _ (by omega)]; omega), List.set_append_left _ _ (by rw [List.length_set, insAt_length _ _ (by omega)]; omega), insAt_swap P x y hp hy]

set_option maxHeartbeats 1000000 in
set_option maxRecDepth 100000 in
theorem sort_many (ps : List (ByteArray × Nat)) (hn : 3 ≤ ps.length) (w : World) (base g C : Nat) (hl : ps.length * 32 ≤ 140737488355328) (hown : w.ownsRow base 179 2 (.slice (some ⟨g, 0, none⟩) ps.length C) ps.length (flatF ps)) :
    Calls Try.prog 115 #[.slice (some ⟨g, 0, none⟩) ps.length C] w fun e w' => (∃ r, e = .returned r) ∧ Only g w w' ∧ w'.ownsRow base 179 2 (.slice (some ⟨g, 0, none⟩) ps.length C) ps.length (flatF (sortS ps)) := by
  have n2 : ¬ ((ps.length : Int) < 2) := by omega
  have n3 : ((ps.length : Int) == 2) = false := by simp; omega
  have h0 : sortS (ps.take 1) ++ ps.drop 1 = ps := by
    match ps, hn with
    | x :: r, _ => simp [sortS, insS, insR]
  have HO := Lib.hid (And.intro hown h0)
  clear hown h0
  go_enter Try.func115, Try.ntmps115
  go_wp2_with fail
  clear n2 n3
  go_loopw [2] (fun s2 wr => ∃ k : Nat, s2 = .int .i64 (k : Nat) ∧ 1 ≤ k ∧ k ≤ ps.length ∧ Only g w wr ∧ wr.ownsRow base 179 2 (.slice (some ⟨g, 0, none⟩) ps.length C) ps.length (flatF (sortS (ps.take k) ++ ps.drop k)))
    (fun s2 _ => ps.length - (intOf s2).toNat)
  case atStart => exact ⟨1, rfl, Nat.le_refl _, by omega, Only.refl _ _, by rw [HO.out.2]; exact HO.out.1⟩
  case round =>
    obtain ⟨k, rfl, hk1, hkn, ho, hown⟩ := hrel
    by_cases hlt : k < ps.length
    · obtain ⟨x, hx⟩ : ∃ x, ps[k]? = some x := ⟨ps[k], by simp [hlt]⟩
      have hPl : (sortS (ps.take k)).length = k := by rw [sortS_length]; simp; omega
      have hd : ps.drop k = x :: ps.drop (k + 1) := by
        rw [List.drop_eq_getElem_cons hlt]
        rw [List.getElem?_eq_getElem hlt] at hx
        cases hx
        rfl
      have hnext : sortS (ps.take (k + 1)) = insS (sortS (ps.take k)) x := by rw [List.take_add_one, hx]; exact sortS_snoc _ _
      rw [hd] at hown
      have HN := Lib.hid hnext
      clear hnext hd hx
      generalize sortS (ps.take k) = P at *
      have hst : P ++ x :: ps.drop (k + 1) = insAt P k x ++ ps.drop (k + 1) := by rw [← hPl, insAt_end]; simp
      rw [hst] at hown
      clear hst
      have HR0 := Lib.hid (And.intro ho hown)
      clear ho hown
      go_wp2_with fail
      go_loopw [3] (fun s3 wx => ∃ p : Nat, s3 = .int .i64 (p : Nat) ∧ p ≤ k ∧ Only g w wx ∧ wx.ownsRow base 179 2 (.slice (some ⟨g, 0, none⟩) ps.length C) ps.length (flatF (insAt P p x ++ ps.drop (k + 1))) ∧ (∀ y ∈ P.drop p, blt x.1 y.1 = true))
        (fun s3 _ => (intOf s3).toNat)
      case atStart => exact ⟨k, rfl, Nat.le_refl _, HR0.out.1, HR0.out.2, by rw [← hPl]; simp⟩
      case round =>
        clear HR0
        obtain ⟨p, rfl, hp, ho, hown, hgt⟩ := hrel
        rcases Nat.eq_zero_or_pos p with rfl | hp0
        · have HA := Lib.hid (And.intro ho (And.intro hown hgt))
          clear ho hown hgt
          go_wp2_with fail
          go_quiet (fail)
          go_wp2_with fail
          obtain ⟨ho, hown, hgt⟩ := HA.out
          refine ⟨⟨k + 1, by push_cast; rfl, by omega, by omega, ho.drawn nq, ?_⟩, by simp only [intOf]; omega⟩
          rw [HN.out, insS_eq (Nat.zero_le _) hgt (fun q y h => by omega)]
          exact hown
        · obtain ⟨q, rfl⟩ : ∃ q, p = q + 1 := ⟨p - 1, by omega⟩
          obtain ⟨y, hy⟩ : ∃ y, P[q]? = some y := ⟨P[q]'(by omega), by simp⟩
          obtain ⟨x1, x2⟩ := two_cells hown (insAt_app_at P (ps.drop (k + 1)) x (show q + 1 ≤ P.length by omega))
          obtain ⟨y1, y2⟩ := two_cells hown (insAt_app_before P (ps.drop (k + 1)) x y (show q < P.length by omega) hy)
          have f0 := two_free hown (q * 2)
          have f1 := two_free hown (q * 2 + 1)
          have f2 := two_free hown ((q + 1) * 2)
          have f3 := two_free hown ((q + 1) * 2 + 1)
          have j0 : (0 : Int) ≤ (q : Int) := by omega
          have j1 : (q : Int) < (ps.length : Int) := by omega
          have j2 : (q : Int) + 1 < (ps.length : Int) := by omega
          have j3 : (0 : Int) ≤ (q : Int) + 1 := by omega
          have hd : decide ((0 : Int) < (q : Int) + 1) = true := by simp
          have HA := Lib.hid (And.intro ho (And.intro hown (And.intro hgt hy)))
          clear ho hown hgt hy
          go_wp2_with fail
          go_quiet (fail)
          go_wp2_with fail
          · have hlt : blt x.1 y.1 = true := by assumption
            have z1 : (wr.drewN nq).cell? ⟨g, (q + 1) * 2, none⟩ = some (.string x.1) := x1
            have z2 : (wr.drewN nq).cell? ⟨g, (q + 1) * 2 + 1, none⟩ = some (.iface 205 (.pointer (some ⟨x.2, 0, none⟩))) := x2
            have z3 : (wr.drewN nq).cell? ⟨g, q * 2, none⟩ = some (.string y.1) := y1
            have z4 : (wr.drewN nq).cell? ⟨g, q * 2 + 1, none⟩ = some (.iface 205 (.pointer (some ⟨y.2, 0, none⟩))) := y2
            have k0 : (wr.drewN nq).frozen? ⟨g, q * 2, none⟩ = false := f0
            have k1 : (wr.drewN nq).frozen? ⟨g, q * 2 + 1, none⟩ = false := f1
            have k2 : (wr.drewN nq).frozen? ⟨g, (q + 1) * 2, none⟩ = false := f2
            have k3 : (wr.drewN nq).frozen? ⟨g, (q + 1) * 2 + 1, none⟩ = false := f3
            have HW := Lib.hid (show Only g w (wr.drewN nq) ∧ (wr.drewN nq).ownsRow base 179 2 (.slice (some ⟨g, 0, none⟩) ps.length C) ps.length (flatF (insAt P (q + 1) x ++ ps.drop (k + 1))) ∧ (∀ y ∈ P.drop (q + 1), blt x.1 y.1 = true) ∧ P[q]? = some y from
              ⟨HA.out.1.drawn nq, HA.out.2.1, HA.out.2.2.1, HA.out.2.2.2⟩)
            have hwq : IntKind.i64.wrap (q : Int) = q := wrap_nat (by omega)
            clear x1 x2 y1 y2 f0 f1 f2 f3 HA
            generalize wr.drewN nq = wx at *
            refine wp_region_P (by kernel_rfl) ?_
            refine wpP_take (i := 2) (v := ?_) rfl (by kernel_rfl) (by kernel_rfl) (by kernel_rfl) (.inl ⟨by rfl, ?_⟩) ?_
            rotate_left
            · (intro w hSw; clear hSw; go_simp; (try with_reducible rfl))
            try simp only [Act.put, List.setIfInBounds_toArray, List.set_cons_zero, List.set_cons_succ]
            refine wpP_take (i := 3) (v := ?_) rfl (by kernel_rfl) (by kernel_rfl) (by kernel_rfl) (.inl ⟨by rfl, ?_⟩) ?_
            rotate_left
            · (intro w hSw; clear hSw; go_simp; (try with_reducible rfl))
            try simp only [Act.put, List.setIfInBounds_toArray, List.set_cons_zero, List.set_cons_succ]
            refine wpP_take (i := 4) (v := ?_) rfl (by kernel_rfl) (by kernel_rfl) (by kernel_rfl) (.inl ⟨by rfl, ?_⟩) ?_
            rotate_left
            · (intro w hSw; clear hSw; go_simp; (try with_reducible rfl))
            try simp only [Act.put, List.setIfInBounds_toArray, List.set_cons_zero, List.set_cons_succ]
            refine wpP_take (i := 10) (v := ?_) rfl (by kernel_rfl) (by kernel_rfl) (by kernel_rfl) (.inl ⟨by rfl, ?_⟩) ?_
            rotate_left
            · (intro w hSw; clear hSw; go_simp; (try with_reducible rfl))
            try simp only [Act.put, List.setIfInBounds_toArray, List.set_cons_zero, List.set_cons_succ]
            refine wpP_take (i := 11) (v := ?_) rfl (by kernel_rfl) (by kernel_rfl) (by kernel_rfl) (.inl ⟨by rfl, ?_⟩) ?_
            rotate_left
            · (intro w hSw; clear hSw; go_simp; (try with_reducible rfl))
            try simp only [Act.put, List.setIfInBounds_toArray, List.set_cons_zero, List.set_cons_succ]
            refine wpP_take (i := 12) (v := ?_) rfl (by kernel_rfl) (by kernel_rfl) (by kernel_rfl) (.inl ⟨by rfl, ?_⟩) ?_
            rotate_left
            · (intro w hSw; clear hSw; go_simp; (try with_reducible rfl))
            try simp only [Act.put, List.setIfInBounds_toArray, List.set_cons_zero, List.set_cons_succ]
            refine wpP_then (fun w' => w'.cell? ⟨g, (q + 1) * 2, none⟩ = some (.string x.1) ∧ w'.cell? ⟨g, (q + 1) * 2 + 1, none⟩ = some (.iface 205 (.pointer (some ⟨x.2, 0, none⟩))) ∧ w'.cell? ⟨g, q * 2, none⟩ = some (.string y.1) ∧ w'.cell? ⟨g, q * 2 + 1, none⟩ = some (.iface 205 (.pointer (some ⟨y.2, 0, none⟩)))) [0, 1, 5, 6, 7, 8, 9, 13, 14] ?_ (fun hHeld => ?_)
            · exact ⟨z1, z2, z3, z4⟩
            refine wpK_take (i := 0) (v := ?_) rfl (by kernel_rfl) (by kernel_rfl) (by kernel_rfl) (by kernel_rfl) (.inl ⟨by rfl, ?_⟩) hHeld ?_
            rotate_left
            · (intro w hSw; (try dsimp only at hSw); go_split_ands; go_simp; (try with_reducible rfl))
            try simp only [Act.put, List.setIfInBounds_toArray, List.set_cons_zero, List.set_cons_succ]
            refine wpK_take (i := 1) (v := ?_) rfl (by kernel_rfl) (by kernel_rfl) (by kernel_rfl) (by kernel_rfl) (.inl ⟨by rfl, ?_⟩) hHeld ?_
            rotate_left
            · (intro w hSw; (try dsimp only at hSw); go_split_ands; go_simp; (try with_reducible rfl))
            try simp only [Act.put, List.setIfInBounds_toArray, List.set_cons_zero, List.set_cons_succ]
            refine wpK_take (i := 5) (v := ?_) rfl (by kernel_rfl) (by kernel_rfl) (by kernel_rfl) (by kernel_rfl) (.inl ⟨by rfl, ?_⟩) hHeld ?_
            rotate_left
            · (intro w hSw; (try dsimp only at hSw); go_split_ands; go_simp; (try with_reducible rfl))
            try simp only [Act.put, List.setIfInBounds_toArray, List.set_cons_zero, List.set_cons_succ]
            refine wpK_take (i := 6) (v := ?_) rfl (by kernel_rfl) (by kernel_rfl) (by kernel_rfl) (by kernel_rfl) (.inl ⟨by rfl, ?_⟩) hHeld ?_
            rotate_left
            · (intro w hSw; (try dsimp only at hSw); go_split_ands; go_simp; (try with_reducible rfl))
            try simp only [Act.put, List.setIfInBounds_toArray, List.set_cons_zero, List.set_cons_succ]
            refine wpK_take (i := 7) (v := ?_) rfl (by kernel_rfl) (by kernel_rfl) (by kernel_rfl) (by kernel_rfl) (.inl ⟨by rfl, ?_⟩) hHeld ?_
            rotate_left
            · (intro w hSw; (try dsimp only at hSw); go_split_ands; go_simp; (try with_reducible rfl))
            try simp only [Act.put, List.setIfInBounds_toArray, List.set_cons_zero, List.set_cons_succ]
            refine wpK_take (i := 8) (v := ?_) rfl (by kernel_rfl) (by kernel_rfl) (by kernel_rfl) (by kernel_rfl) (.inl ⟨by rfl, ?_⟩) hHeld ?_
            rotate_left
            · (intro w hSw; (try dsimp only at hSw); go_split_ands; go_simp; (try with_reducible rfl))
            try simp only [Act.put, List.setIfInBounds_toArray, List.set_cons_zero, List.set_cons_succ]
            refine wpK_take (i := 9) (v := ?_) rfl (by kernel_rfl) (by kernel_rfl) (by kernel_rfl) (by kernel_rfl) (.inl ⟨by rfl, ?_⟩) hHeld ?_
            rotate_left
            · (intro w hSw; (try dsimp only at hSw); go_split_ands; go_simp; (try with_reducible rfl))
            try simp only [Act.put, List.setIfInBounds_toArray, List.set_cons_zero, List.set_cons_succ]
            refine wpK_take (i := 13) (v := ?_) rfl (by kernel_rfl) (by kernel_rfl) (by kernel_rfl) (by kernel_rfl) (.inl ⟨by rfl, ?_⟩) hHeld ?_
            rotate_left
            · (intro w hSw; (try dsimp only at hSw); go_split_ands; go_simp; (try with_reducible rfl))
            try simp only [Act.put, List.setIfInBounds_toArray, List.set_cons_zero, List.set_cons_succ]
            refine wpK_take (i := 14) (v := ?_) rfl (by kernel_rfl) (by kernel_rfl) (by kernel_rfl) (by kernel_rfl) (.inl ⟨by rfl, ?_⟩) hHeld ?_
            rotate_left
            · (intro w hSw; (try dsimp only at hSw); go_split_ands; go_simp; (try with_reducible rfl))
            try simp only [Act.put, List.setIfInBounds_toArray, List.set_cons_zero, List.set_cons_succ]
            refine wpK_last (i := 15) (by kernel_rfl) (by kernel_rfl) rfl (fun K hK => ?_)
            go_simp
            refine hK.out _ _ ?_
            clear hK K
            try simp only [Act.put, List.setIfInBounds_toArray, List.set_cons_zero, List.set_cons_succ]
            refine wpK_last (i := 16) (by kernel_rfl) (by kernel_rfl) rfl (fun K hK => ?_)
            go_simp
            refine hK.out _ _ ?_
            clear hK K
            try simp only [Act.put, List.setIfInBounds_toArray, List.set_cons_zero, List.set_cons_succ]
            refine wpK_last (i := 17) (by kernel_rfl) (by kernel_rfl) rfl (fun K hK => ?_)
            go_simp
            refine hK.out _ _ ?_
            clear hK K
            try simp only [Act.put, List.setIfInBounds_toArray, List.set_cons_zero, List.set_cons_succ]
            refine wpK_done (by kernel_rfl) ?_ _
            go_wp2_with fail
            obtain ⟨ho, hown, hgt, hy⟩ := HW.out
            refine ⟨⟨q, rfl, by omega, ((((ho.drew1.set _ _).set _ _).set _ _).set _ _), ?_, ?_⟩, by simp [intOf]⟩
            · have := own_swap hown.drew (q + 1) q y x
              rw [insAt_app_swap P (ps.drop (k + 1)) x y (by omega) hy] at this
              exact this
            · intro z hz
              have hdq : P.drop q = y :: P.drop (q + 1) := by
                have hq : q < P.length := by omega
                rw [List.drop_eq_getElem_cons hq]
                rw [List.getElem?_eq_getElem hq] at hy
                cases hy; rfl
              rw [hdq] at hz
              rcases List.mem_cons.1 hz with rfl | hz
              · exact hlt
              · exact hgt z hz
          · have hle : blt x.1 y.1 = false := by assumption
            obtain ⟨ho, hown, hgt, hy⟩ := HA.out
            refine ⟨⟨k + 1, by push_cast; rfl, by omega, by omega, ho.drawn nq, ?_⟩, by simp only [intOf]; omega⟩
            rw [HN.out, insS_eq (by omega) hgt (fun q' y' h h' => by
              have : q = q' := by omega
              subst this
              rw [hy] at h'
              cases h'
              exact hle)]
            exact hown
    · have hkl : k = ps.length := by omega
      subst hkl
      rw [List.take_length, List.drop_length, List.append_nil] at hown
      have HA := Lib.hid (And.intro ho hown)
      clear ho hown
      go_wp2_with fail
      refine bodyPost_end (v := .tuple #[]) ?_ rfl ?_
      · simp [results, Try.results115, go_sem]
      · exact ⟨⟨_, rfl⟩, HA.out.1, HA.out.2⟩

set_option maxHeartbeats 1000000 in
set_option maxRecDepth 100000 in
theorem sort_any (ps : List (ByteArray × Nat)) (w : World) (base g C : Nat) (hl : ps.length * 32 ≤ 140737488355328) (hown : w.ownsRow base 179 2 (.slice (some ⟨g, 0, none⟩) ps.length C) ps.length (flatF ps)) :
    Calls Try.prog 115 #[.slice (some ⟨g, 0, none⟩) ps.length C] w fun e w' => (∃ r, e = .returned r) ∧ Only g w w' ∧ w'.ownsRow base 179 2 (.slice (some ⟨g, 0, none⟩) ps.length C) ps.length (flatF (sortS ps)) := by
  by_cases h2 : ps.length < 2
  · have hs : sortS ps = ps := by
      match ps, h2 with
      | [], _ => rfl
      | [x], _ => rfl
    rw [hs]
    have n2 : (ps.length : Int) < 2 := by omega
    have HO := Lib.hid hown
    clear hown
    go_enter Try.func115, Try.ntmps115
    go_wp2_with fail
    refine bodyPost_ret (v := .tuple #[]) ?_ rfl ?_
    · simp [results, Try.results115, go_sem]
    · exact ⟨⟨_, rfl⟩, Only.refl _ _, HO.out⟩
  by_cases h3 : ps.length = 2
  · match ps, h3 with
    | [x, y], _ => exact sort_two x y w base g C hown
  · exact sort_many ps (by omega) w base g C hl hown
end Go.Proofs.Ytlghpcokbppkfaa
