/- fieldpath.KeyByFields: a key made of names and values. -/
import Derived.Test.YtlghpcokbppkfaaSortF
import Derived.Test.YtlghpcokbppkfaaToElem
import Derived.Test.YtlghpcokbppkfaaStrings
namespace Go.Proofs.Ytlghpcokbppkfaa
open Go.RowKit
set_option linter.unusedSimpArgs false

/-- Names and values, one behind the other. -/
def argsJ : List (ByteArray × JV) → List JV
  | [] => []
  | p :: r => .str p.1 :: p.2 :: argsJ r
theorem argsJ_length : ∀ l, (argsJ l).length = 2 * l.length
  | [] => rfl
  | p :: r => by simp [argsJ, argsJ_length r]; omega
theorem argsJ_at : ∀ (l : List (ByteArray × JV)) (i : Nat) (k : ByteArray) (j : JV), l[i]? = some (k, j) → (argsJ l)[2 * i]? = some (.str k) ∧ (argsJ l)[2 * i + 1]? = some j
  | [], i, k, j, h => by simp at h
  | x :: r, 0, k, j, h => by
    simp at h; subst h
    simp [argsJ]
  | x :: r, i + 1, k, j, h => by
    have := argsJ_at r i k j (by simpa using h)
    rw [show 2 * (i + 1) = 2 * i + 1 + 1 by omega]
    simpa [argsJ] using this
theorem argsJ_app (a b : List (ByteArray × JV)) : argsJ (a ++ b) = argsJ a ++ argsJ b := by
  induction a with
  | nil => rfl
  | cons x r ih => simp [argsJ, ih]

section
variable {w w' : World} {S S' : Nat → Prop}
/-- The cells of a list of fields, with the places of the values. -/
theorem FCells.flat : ∀ {fl : List (ByteArray × JV)} {xs : List Value}, FCells w S fl xs → ∃ ns : List (ByteArray × (JV × Nat)), fl = ns.map (fun t => (t.1, t.2.1)) ∧ xs = flatF (ns.map fun t => (t.1, t.2.2)) ∧ ∀ t ∈ ns, t.1.size ≤ maxLen ∧ IsVal w S t.2.1 (fcell t.2.2)
  | [], xs, h => by
    unfold FCells at h
    subst h
    exact ⟨[], rfl, rfl, by simp⟩
  | x :: r, xs, h => by
    obtain ⟨c, r', rfl, hz, hv, hr⟩ := h
    obtain ⟨ns, e1, e2, h3⟩ := hr.flat
    obtain ⟨b, u, rfl, hb⟩ := hv
    refine ⟨(x.1, (x.2, b)) :: ns, by simp [e1], by simp [flatF, e2, fcell], fun t ht => ?_⟩
    rcases List.mem_cons.1 ht with rfl | ht
    · exact ⟨hz, b, u, rfl, hb⟩
    · exact h3 t ht
theorem FCells.of_flat : ∀ {ns : List (ByteArray × (JV × Nat))}, (∀ t ∈ ns, t.1.size ≤ maxLen ∧ IsVal w S t.2.1 (fcell t.2.2)) → FCells w S (ns.map fun t => (t.1, t.2.1)) (flatF (ns.map fun t => (t.1, t.2.2)))
  | [], _ => rfl
  | t :: ns, h => ⟨fcell t.2.2, flatF (ns.map fun t => (t.1, t.2.2)), rfl, (h t (by simp)).1, (h t (by simp)).2, FCells.of_flat fun t ht => h t (by simp [ht])⟩
/-- A block of another type is not the row's. -/
theorem own_not_box {base B : Nat} {e t : TypeId} {size n : Nat} {v : Value} {xs : List Value} {cs : Array Value} {fr : Nat × Nat} (h : w.ownsRow base e size v n xs) (hB : w.heap[B]? = some (.cells cs t fr)) (ht : t ≠ e) : v.ownBlock ≠ some B := by
  rcases h.2 with ⟨rfl, _⟩ | ⟨g, cap, cur, rfl, _, hg, _⟩
  · intro h; cases h
  · intro h
    injection h with h
    have h : g = B := h
    subst h
    rw [hg] at hB
    injection hB with hB
    injection hB with _ hB
    exact ht hB.symm
theorem own_set_far {base : Nat} {e : TypeId} {size n : Nat} {v : Value} {xs : List Value} (h : w.ownsRow base e size v n xs) {p : Addr} (hp : v.ownBlock ≠ some p.block) (u : Value) : (w.setCell p u).ownsRow base e size v n xs :=
  h.kept (row := some p.block) ⟨rfl, rfl, rfl, by simp, fun k _ hk => Below.heap_setCell _ _ _ _ (fun e => hk (by rw [e]))⟩ (.inr hp)
end

/-- The value of a tree: a new pointer to it. -/
theorem newVI_val (j : JV) (r : Value) (w : World) (S : Nat → Prop) (hS : ∀ b, S b → b < w.heap.size) (hj : IsJ w S j r) : Calls Try.prog 105 #[r] w fun e w' =>
    ∃ b, e = .returned (.iface 205 (.pointer (some ⟨b, 0, none⟩))) ∧ Below w.heap.size w w' ∧ IsVal w' (fun c => S c ∨ (w.heap.size ≤ c ∧ c < w'.heap.size)) j (.iface 205 (.pointer (some ⟨b, 0, none⟩))) := by
  refine (newVI_any r w hj.oneCell).mono fun e w' => ?_
  rintro ⟨rfl, rfl⟩
  have hB : Below w.heap.size w ((w.alloc (.cells #[] 201)).alloc (.cells #[r] 233)) := ((Below.refl _ _).alloc (Nat.le_refl _) _).alloc (by simp) _
  refine ⟨_, rfl, hB, w.heap.size + 1, r, rfl, .inr ⟨by omega, by simp⟩, new_block (by simp), hj.keep (fun b hb => hB.block b (hS b hb)) (fun b hb => .inl hb)⟩

set_option maxHeartbeats 1000000 in
set_option maxRecDepth 100000 in
theorem keyBy_any (fl : List (ByteArray × JV)) (w : World) (a : Option Addr) (C n : Nat) (hn : n = 2 * fl.length) (hl : fl.length * 88 ≤ 140737488351232) (ha : fl = [] ∨ ∃ b o, Btw 0 w.heap.size b ∧ a = some ⟨b, o, none⟩ ∧ IsJs w (Btw 0 w.heap.size) (argsJ fl) b o) :
    Calls Try.prog 74 #[.slice a n C] w fun e w' => ∃ p u, e = .returned (.pointer (some ⟨p, 0, none⟩)) ∧ Below w.heap.size w w' ∧ Btw w.heap.size w'.heap.size p ∧ w'.heap[p]? = some (.cells #[u] 177 (0, 0)) ∧ IsFL w' (Btw 0 w'.heap.size) (sortS fl) u := by
  obtain ⟨i0, hi, hz0, hz1, hz2⟩ := info_parts Try.infoField
  have hwn : wrap64 ((n : Int) - 1) = (n : Int) - 1 := by unfold wrap64; omega
  have hrem : (n : Int).tmod 2 = 0 := by rw [hn, Int.natCast_mul]; exact Int.mul_tmod_right 2 _
  have HN := Lib.hid hn
  clear hn
  go_enter Try.func74, Try.ntmps74
  go_wp2_with fail
  have hB0 : Below w.heap.size w ((w.alloc (.cells #[] 179)).alloc (.cells #[.slice (some ⟨w.heap.size, 0, none⟩) 0 0] 177)) := ((Below.refl _ _).alloc (Nat.le_refl _) _).alloc (by simp) _
  have b1 : ((w.alloc (.cells #[] 179)).alloc (.cells #[.slice (some ⟨w.heap.size, 0, none⟩) 0 0] 177)).heap[w.heap.size + 1]? = some (.cells #[.slice (some ⟨w.heap.size, 0, none⟩) 0 0] 177) := new_block (by simp)
  have hown0 := (World.ownsRow_made w (base := w.heap.size) (e := 179) (size := 2) #[] 0 (Nat.le_refl _) (by decide) rfl).alloc (.cells #[.slice (some ⟨w.heap.size, 0, none⟩) 0 0] 177)
  have hs0 : ((w.alloc (.cells #[] 179)).alloc (.cells #[.slice (some ⟨w.heap.size, 0, none⟩) 0 0] 177)).heap.size = w.heap.size + 2 := by simp
  clear hrem
  generalize (w.alloc (.cells #[] 179)).alloc (.cells #[.slice (some ⟨w.heap.size, 0, none⟩) 0 0] 177) = w0 at *
  generalize hM : w.heap.size = M at *
  have HM := Lib.hid hM; clear hM
  have HWN := Lib.hid hwn
  clear hwn
  go_loopw [4] (fun s4 wr => ∃ i k g C' xs, s4 = .int .i64 (i : Nat) ∧ i = 2 * k ∧ k ≤ fl.length ∧ wr.heap[M + 1]? = some (.cells #[.slice (some ⟨g, 0, none⟩) k C'] 177 (0, 0)) ∧ wr.ownsRow M 179 2 (.slice (some ⟨g, 0, none⟩) k C') k xs ∧
      FCells wr (fun b => Btw 0 wr.heap.size b ∧ (Value.slice (some ⟨g, 0, none⟩) k C').ownBlock ≠ some b ∧ b ≠ M + 1) (fl.take k) xs ∧ Below M w wr ∧ M + 2 ≤ wr.heap.size)
    (fun s4 _ => n - (intOf s4).toNat)
  case atStart => exact ⟨0, 0, M, 0, [], rfl, rfl, Nat.zero_le _, b1, hown0, by simp [FCells], hB0, by omega⟩
  case round =>
    clear b1 hown0 hB0 hs0
    obtain ⟨i, k, g, C', xs, rfl, hik, hk, bb, hown, hall, hB, hsz⟩ := hrel
    by_cases hlt : k < fl.length
    · obtain ⟨b, o, hb, rfl, hcells⟩ := ha.resolve_left (fun e => by rw [e] at hlt; simp at hlt)
      obtain ⟨⟨key, j⟩, hx⟩ : ∃ x, fl[k]? = some x := ⟨fl[k], by simp [hlt]⟩
      obtain ⟨ha1, ha2⟩ := argsJ_at fl k key j hx
      rw [← hik] at ha1 ha2
      obtain ⟨c1, hc1, hj1⟩ := hcells.at_ ha1
      obtain ⟨c2, hc2, hj2⟩ := hcells.at_ ha2
      unfold IsJ at hj1
      obtain ⟨rfl, hkz⟩ := hj1
      obtain ⟨q, hq⟩ : ∃ q, q = i + 1 := ⟨_, rfl⟩
      rw [show o + (i + 1) = o + q by omega] at hc2
      have r1 : wr.cell? ⟨b, o + i, none⟩ = some (.iface 9 (.string key)) := (hB.cell (by exact hb.2)).trans hc1
      have r2 : wr.cell? ⟨b, o + q, none⟩ = some c2 := (hB.cell (by exact hb.2)).trans hc2
      have o1 : wr.cell? ⟨M + 1, 0, none⟩ = some (.slice (some ⟨g, 0, none⟩) k C') := blk_c bb 0 rfl
      have hn := HN.out
      have j0 : (0 : Int) ≤ (i : Int) := by omega
      have j1 : (i : Int) < (n : Int) - 1 := by omega
      have j2 : (i : Int) < (n : Int) := by omega
      have j3 : (0 : Int) ≤ (q : Int) := by omega
      have j4 : (q : Int) < (n : Int) := by omega
      have hi2 : wrap64 ((i : Int) + 2) = ((i + 2 : Nat) : Int) := by unfold wrap64; omega
      have hk1 : k + 1 ≤ maxLen := by unfold maxLen; omega
      have hk2 : (k + 1) * 32 ≤ 140737488355328 := by omega
      have hqi : (i : Int) + 1 = (q : Int) := by omega
      have hq0 : IntKind.i64.wrap (q : Int) = (q : Int) := wrap_small (q := q) (by omega)
      have hqw : IntKind.i64.wrap ((i : Int) + 1) = (q : Int) := by rw [hqi]; exact hq0
      have hjS : IsJ wr (Btw 0 M) j c2 := IsJ.keep (Btw.kept hB) (fun _ h => h) _ hj2
      have hjD : IsJ wr.drew (Btw 0 M) j c2 := IsJ.keep (w := wr) (w' := wr.drew) (fun _ _ => rfl) (fun _ h => h) _ hjS
      have hbx := own_not_box hown bb (by decide)
      have hgl : M ≤ g ∧ g < wr.heap.size := hown.lt g rfl
      have HX := Lib.hid (And.intro hx (And.intro hkz (And.intro hall (And.intro hB (And.intro bb (And.intro hown (And.intro hbx hik)))))))
      have hwn := HWN.out
      have hMd : ∀ c, Btw 0 M c → c < wr.drew.heap.size := fun c hc => by show c < wr.heap.size; have := hc.2; omega
      clear hx hkz hall hB ha1 ha2 hcells hc1 hc2 hj2 hjS hqi hq0 hik hbx bb hq hn
      go_wp2_with fail
      clear hwn
      have hbxM : g ≠ M + 1 := fun e => by
        obtain ⟨_, _, _, _, _, _, hbx, _⟩ := HX.out
        exact hbx (by rw [e]; rfl)
      have hbg : b ≠ g := by have := hb.2; omega
      have hownd := hown.drew
      have bbd := HX.out.2.2.2.2.1
      have HBB := Lib.hid bbd
      clear bbd
      refine wp_region_K (fun w' => w'.cell? ⟨b, o + i, none⟩ = some (.iface 9 (.string key)) ∧ w'.cell? ⟨b, o + q, none⟩ = some c2 ∧ w'.cell? ⟨M + 1, 0, none⟩ = some (.slice (some ⟨g, 0, none⟩) k C')) [0, 1, 2, 3, 4, 5, 6, 7, 8, 9, 10, 12] (by kernel_rfl) ?_ (fun hHeld => ?_)
      · exact ⟨r1, r2, o1⟩
      refine wpK_take (i := 0) (v := ?_) rfl (by kernel_rfl) (by kernel_rfl) (by kernel_rfl) (by kernel_rfl) (.inl ⟨by rfl, ?_⟩) hHeld ?_
      rotate_left
      · (intro w hSw; (try dsimp only at hSw); go_split_ands; go_simp; (try with_reducible rfl))
      try simp only [Act.put, List.setIfInBounds_toArray, List.set_cons_zero, List.set_cons_succ]
      refine wpK_take (i := 1) (v := ?_) rfl (by kernel_rfl) (by kernel_rfl) (by kernel_rfl) (by kernel_rfl) (.inl ⟨by rfl, ?_⟩) hHeld ?_
      rotate_left
      · (intro w hSw; (try dsimp only at hSw); go_split_ands; go_simp; (try with_reducible rfl))
      try simp only [Act.put, List.setIfInBounds_toArray, List.set_cons_zero, List.set_cons_succ]
      refine wpK_take (i := 2) (v := ?_) rfl (by kernel_rfl) (by kernel_rfl) (by kernel_rfl) (by kernel_rfl) (.inl ⟨by rfl, ?_⟩) hHeld ?_
      rotate_left
      · (intro w hSw; (try dsimp only at hSw); go_split_ands; go_simp; (try with_reducible rfl))
      try simp only [Act.put, List.setIfInBounds_toArray, List.set_cons_zero, List.set_cons_succ]
      refine wpK_take (i := 3) (v := ?_) rfl (by kernel_rfl) (by kernel_rfl) (by kernel_rfl) (by kernel_rfl) (.inl ⟨by rfl, ?_⟩) hHeld ?_
      rotate_left
      · (intro w hSw; (try dsimp only at hSw); go_split_ands; go_simp; (try with_reducible rfl))
      try simp only [Act.put, List.setIfInBounds_toArray, List.set_cons_zero, List.set_cons_succ]
      refine wpK_take (i := 4) (v := ?_) rfl (by kernel_rfl) (by kernel_rfl) (by kernel_rfl) (by kernel_rfl) (.inl ⟨by rfl, ?_⟩) hHeld ?_
      rotate_left
      · (intro w hSw; (try dsimp only at hSw); go_split_ands; go_simp; (try with_reducible rfl))
      try simp only [Act.put, List.setIfInBounds_toArray, List.set_cons_zero, List.set_cons_succ]
      refine wpK_take (i := 5) (v := ?_) rfl (by kernel_rfl) (by kernel_rfl) (by kernel_rfl) (by kernel_rfl) (.inl ⟨by rfl, ?_⟩) hHeld ?_
      rotate_left
      · (intro w hSw; (try dsimp only at hSw); go_split_ands; go_simp; (try with_reducible rfl))
      try simp only [Act.put, List.setIfInBounds_toArray, List.set_cons_zero, List.set_cons_succ]
      refine wpK_take (i := 6) (v := ?_) rfl (by kernel_rfl) (by kernel_rfl) (by kernel_rfl) (by kernel_rfl) (.inl ⟨by rfl, ?_⟩) hHeld ?_
      rotate_left
      · (intro w hSw; (try dsimp only at hSw); go_split_ands; go_simp; (try with_reducible rfl))
      try simp only [Act.put, List.setIfInBounds_toArray, List.set_cons_zero, List.set_cons_succ]
      refine wpK_take (i := 7) (v := ?_) rfl (by kernel_rfl) (by kernel_rfl) (by kernel_rfl) (by kernel_rfl) (.inl ⟨by rfl, ?_⟩) hHeld ?_
      rotate_left
      · (intro w hSw; (try dsimp only at hSw); go_split_ands; go_simp; (try with_reducible rfl))
      try simp only [Act.put, List.setIfInBounds_toArray, List.set_cons_zero, List.set_cons_succ]
      refine wpK_take (i := 8) (v := ?_) rfl (by kernel_rfl) (by kernel_rfl) (by kernel_rfl) (by kernel_rfl) (.inl ⟨by rfl, ?_⟩) hHeld ?_
      rotate_left
      · (intro w hSw; (try dsimp only at hSw); go_split_ands; go_simp; (try with_reducible rfl))
      try simp only [Act.put, List.setIfInBounds_toArray, List.set_cons_zero, List.set_cons_succ]
      refine wpK_take (i := 9) (v := ?_) rfl (by kernel_rfl) (by kernel_rfl) (by kernel_rfl) (by kernel_rfl) (.inl ⟨by rfl, ?_⟩) hHeld ?_
      rotate_left
      · (intro w hSw; (try dsimp only at hSw); go_split_ands; go_simp; (try with_reducible rfl))
      try simp only [Act.put, List.setIfInBounds_toArray, List.set_cons_zero, List.set_cons_succ]
      refine wpK_take (i := 10) (v := ?_) rfl (by kernel_rfl) (by kernel_rfl) (by kernel_rfl) (by kernel_rfl) (.inl ⟨by rfl, ?_⟩) hHeld ?_
      rotate_left
      · (intro w hSw; (try dsimp only at hSw); go_split_ands; go_simp; (try with_reducible rfl))
      try simp only [Act.put, List.setIfInBounds_toArray, List.set_cons_zero, List.set_cons_succ]
      refine wpK_one (i := 11) (by kernel_rfl) rfl (fun K hK => ?_)
      go_simp
      (with_reducible refine (newVI_val j c2 _ (Btw 0 M) hMd hjD).mono ?_)
      rintro e w2 ⟨vb, rfl, hB2, hv2⟩
      refine hK.out _ _ ?_ (fun hHeld => ?_)
      · exact ⟨cell_below hB2 hHeld.1, cell_below hB2 hHeld.2.1, cell_below hB2 hHeld.2.2⟩
      clear hK K
      try simp only [Act.put, List.setIfInBounds_toArray, List.set_cons_zero, List.set_cons_succ]
      refine wpK_take (i := 12) (v := ?_) rfl (by kernel_rfl) (by kernel_rfl) (by kernel_rfl) (by kernel_rfl) (.inl ⟨by rfl, ?_⟩) hHeld ?_
      rotate_left
      · (intro w hSw; (try dsimp only at hSw); go_split_ands; go_simp; (try with_reducible rfl))
      try simp only [Act.put, List.setIfInBounds_toArray, List.set_cons_zero, List.set_cons_succ]
      refine wpK_one (i := 13) (by kernel_rfl) rfl (fun K hK => ?_)
      go_simp
      refine hK.out _ _ ?_ (fun hHeld => ?_)
      · exact ⟨cell_below ((Below.refl _ _).alloc (Nat.le_refl _) _) hHeld.1, cell_below ((Below.refl _ _).alloc (Nat.le_refl _) _) hHeld.2.1, cell_below ((Below.refl _ _).alloc (Nat.le_refl _) _) hHeld.2.2⟩
      clear hK K
      try simp only [Act.put, List.setIfInBounds_toArray, List.set_cons_zero, List.set_cons_succ]
      refine wpK_one (i := 14) (by kernel_rfl) rfl (fun K hK => ?_)
      have q1 : ∀ u ∈ [Value.string key, .iface 205 (.pointer (some ⟨vb, 0, none⟩))], u.oneCell' = true := by intro u hu; simp at hu; rcases hu with rfl | rfl <;> rfl
      have q2 : Reads (w2.alloc (.cells #[.string key, .iface 205 (.pointer (some ⟨vb, 0, none⟩))] 179)) (w2.heap.size + 1) 2 (some ⟨w2.heap.size, 0, none⟩) 1 [.string key, .iface 205 (.pointer (some ⟨vb, 0, none⟩))] := ⟨rfl, fun _ => ⟨_, rfl, Nat.lt_succ_self _, World.news_of_block (cs := #[.string key, .iface 205 (.pointer (some ⟨vb, 0, none⟩))]) (t := 179) (fr := (0, 0)) (heap_alloc_new w2 _)⟩⟩
      have q3 : M ≤ (w2.alloc (.cells #[.string key, .iface 205 (.pointer (some ⟨vb, 0, none⟩))] 179)).heap.size := by have h1 := hB2.size; have h2 : wr.drew.heap.size = wr.heap.size := rfl; simp; omega
      have q4 := (own_below hownd hB2).alloc (.cells #[.string key, .iface 205 (.pointer (some ⟨vb, 0, none⟩))] 179)
      refine step_append_s _ (by rfl) _ _ _ (by rfl) M 179 i0 _ 2 32 Try.underlying177 hi hz0 hz1 hz2 rfl (by decide) (.slice (some ⟨g, 0, none⟩) k C') k xs (by rfl) q4 _ (some ⟨w2.heap.size, 0, none⟩) 1 1 _ (by rfl) q2 q1 hk1 hk2 q3 ?_
      intro A3 C3 w3 hown3 hg3 hat3
      have hne1 : some (M + 1) ≠ (Value.slice (some ⟨g, 0, none⟩) k C').ownBlock := fun e => by injection e with e; exact hbxM e.symm
      have hneb : some b ≠ (Value.slice (some ⟨g, 0, none⟩) k C').ownBlock := fun e => by injection e with e; exact hbg e
      have bb3 := blk_grown (blk_alloc (blk_below (w := wr.drew) HBB.out hB2) (.cells #[.string key, .iface 205 (.pointer (some ⟨vb, 0, none⟩))] 179)) hg3 hne1
      have c30 : w3.cell? ⟨M + 1, 0, none⟩ = some (.slice (some ⟨g, 0, none⟩) k C') := blk_c bb3 0 rfl
      have f30 := blk_frozen bb3 0
      refine hK.out _ _ ?_ (fun hHeld => ?_)
      · exact ⟨hg3.cell hHeld.1 hneb, hg3.cell hHeld.2.1 hneb, c30⟩
      clear hK K
      try simp only [Act.put, List.setIfInBounds_toArray, List.set_cons_zero, List.set_cons_succ]
      refine wpK_last (i := 15) (by kernel_rfl) (by kernel_rfl) rfl (fun K hK => ?_)
      go_simp
      refine hK.out _ _ ?_
      clear hK K
      try simp only [Act.put, List.setIfInBounds_toArray, List.set_cons_zero, List.set_cons_succ]
      refine wpK_done (by kernel_rfl) ?_ _
      obtain ⟨g3, rfl, hg30, hg31, hg32⟩ := own_some hown3
      obtain ⟨hx, hkz, hall, hB, bb, hown', hbx, hik⟩ := HX.out
      have hw2 : wr.heap.size ≤ w2.heap.size := hB2.size
      have hs3 : w2.heap.size + 1 ≤ w3.heap.size := by have := hg3.size; simpa using this
      have hs4 : (w3.setCell ⟨M + 1, 0, none⟩ (.slice (some ⟨g3, 0, none⟩) (k + 1) C3)).heap.size = w3.heap.size := by simp
      have bb4 : (w3.setCell ⟨M + 1, 0, none⟩ (.slice (some ⟨g3, 0, none⟩) (k + 1) C3)).heap[M + 1]? = some (.cells #[.slice (some ⟨g3, 0, none⟩) (k + 1) C3] 177 (0, 0)) := blk_set bb3 0 _
      have hown4 := own_set_far hown3 (p := ⟨M + 1, 0, none⟩) (own_not_box hown3 bb3 (by decide)) (.slice (some ⟨g3, 0, none⟩) (k + 1) C3)
      have hkeep : ∀ c, c < w2.heap.size → (Value.slice (some ⟨g, 0, none⟩) k C').ownBlock ≠ some c → c ≠ M + 1 → (w3.setCell ⟨M + 1, 0, none⟩ (.slice (some ⟨g3, 0, none⟩) (k + 1) C3)).heap[c]? = w2.heap[c]? := fun c h1 h2 h3 =>
        (Below.heap_setCell _ _ _ _ h3).trans ((hg3.block c (by simp; omega) (fun e => h2 e.symm)).trans (Below.heap_alloc _ _ _ h1))
      have hnew : ∀ c, c < w2.heap.size → (Value.slice (some ⟨g, 0, none⟩) k C').ownBlock ≠ some c → (Value.slice (some ⟨g3, 0, none⟩) (k + 1) C3).ownBlock ≠ some c := fun c h1 h2 h3 => by
        rcases hat3 with h | h
        · exact h2 (h.symm.trans h3)
        · rw [h3] at h
          simp at h
          omega
      have hgn : ∀ c, (c < M ∨ wr.heap.size ≤ c) → (Value.slice (some ⟨g, 0, none⟩) k C').ownBlock ≠ some c := fun c h e => by
        injection e with e
        have e : g = c := e
        omega
      have hall4 : FCells (w3.setCell ⟨M + 1, 0, none⟩ (.slice (some ⟨g3, 0, none⟩) (k + 1) C3)) (fun b => Btw 0 (w3.setCell ⟨M + 1, 0, none⟩ (.slice (some ⟨g3, 0, none⟩) (k + 1) C3)).heap.size b ∧ (Value.slice (some ⟨g3, 0, none⟩) (k + 1) C3).ownBlock ≠ some b ∧ b ≠ M + 1) (fl.take (k + 1)) (xs ++ [.string key, .iface 205 (.pointer (some ⟨vb, 0, none⟩))]) := by
        rw [List.take_add_one, hx]
        refine (hall.keep (fun c hc => ?_) (fun c hc => ?_)).app (FCells.one hkz (hv2.keep (fun c hc => ?_) (fun c hc => ?_)))
        · have h1 := hc.1.2
          exact (hkeep c (by omega) hc.2.1 hc.2.2).trans (hB2.block c h1)
        · have h1 := hc.1.2
          exact ⟨⟨Nat.zero_le _, by rw [hs4]; omega⟩, hnew c (by omega) hc.2.1, hc.2.2⟩
        · have h1 : c < M ∨ wr.heap.size ≤ c := hc.imp (fun h => h.2) (fun h => h.1)
          have h2 : c < w2.heap.size := by rcases hc with h | h; (have := h.2; omega); exact h.2
          exact hkeep c h2 (hgn c h1) (by omega)
        · have h1 : c < M ∨ wr.heap.size ≤ c := hc.imp (fun h => h.2) (fun h => h.1)
          have h2 : c < w2.heap.size := by rcases hc with h | h; (have := h.2; omega); exact h.2
          exact ⟨⟨Nat.zero_le _, by rw [hs4]; omega⟩, hnew c h2 (hgn c h1), by omega⟩
      have hB4 : Below M w (w3.setCell ⟨M + 1, 0, none⟩ (.slice (some ⟨g3, 0, none⟩) (k + 1) C3)) := (((hB.drew.trans (hB2.mono (by show M ≤ wr.heap.size; omega))).alloc (by omega) (.cells #[.string key, .iface 205 (.pointer (some ⟨vb, 0, none⟩))] 179)).grown hg3 (by simp; omega) (own_ge q4 (Nat.le_refl _))).setCell (by show M ≤ M + 1; omega) _
      have HF := Lib.hid (And.intro hik (And.intro bb4 (And.intro hown4 (And.intro hall4 hB4))))
      have HI2 := Lib.hid hi2
      clear hi2
      clear HX HBB hx hkz hall hB bb hown' hbx hik bb4 hown4 hall4 hB4 hkeep hnew hgn hat3 hg3 hown3 bb3 c30 f30 hv2 hB2 q1 q2 q3 q4 hownd hHeld r1 r2 o1 hjD hMd hown hqw
      generalize w3.setCell ⟨M + 1, 0, none⟩ (.slice (some ⟨g3, 0, none⟩) (k + 1) C3) = w4 at *
      go_wp2_with fail
      rw [HI2.out]
      have hn := HN.out
      have hik := HF.out.1
      refine ⟨⟨i + 2, k + 1, g3, C3, _, rfl, by omega, hlt, HF.out.2.1, HF.out.2.2.1, HF.out.2.2.2.1, HF.out.2.2.2.2, by omega⟩, by simp only [intOf]; omega⟩
    · have hkl : k = fl.length := by omega
      subst hkl
      rw [List.take_length] at hall
      obtain ⟨ns, e1, e2, h3⟩ := hall.flat
      have hlen : (ns.map fun t => (t.1, t.2.2)).length = fl.length := by rw [e1]; simp
      have hbx := own_not_box hown bb (by decide)
      have hgl : M ≤ g ∧ g < wr.heap.size := hown.lt g rfl
      rw [e2] at hown
      have hsort := sort_any (ns.map fun t => (t.1, t.2.2)) wr M g C' (by rw [hlen]; omega) (by rw [hlen]; exact hown)
      rw [hlen, sortS_map (f := fun t : ByteArray × (JV × Nat) => (t.1, t.2.2)) (fun _ => rfl)] at hsort
      have o1 : wr.cell? ⟨M + 1, 0, none⟩ = some (.slice (some ⟨g, 0, none⟩) fl.length C') := blk_c bb 0 rfl
      have hn := HN.out
      have hwn := HWN.out
      have n1 : ¬ ((i : Int) < (n : Int) - 1) := by omega
      have HX := Lib.hid (And.intro bb (And.intro hB (And.intro h3 (And.intro hbx e1))))
      clear hn bb hB h3 hbx e1 e2 hall hown
      go_wp2_with (go_at_call 115; (with_reducible refine hsort.mono ?_))
      rintro e w5 r rfl hO hown5
      obtain ⟨bb, hB, h3, hbx, e1⟩ := HX.out
      have hgM : g ≠ M + 1 := fun e => hbx (by rw [e]; rfl)
      have bb5 := (hO.block (M + 1) (fun e => hgM e.symm)).trans bb
      have hfl : IsFL w5 (Btw 0 w5.heap.size) (sortS fl) (.slice (some ⟨g, 0, none⟩) fl.length C') := by
        rcases hown5.2 with ⟨e, _⟩ | ⟨g', cap, cur, e, _, _, hcap, _⟩
        · cases e
        · injection e with e4 _ e6
          injection e4 with e4
          injection e4 with e4
          subst e4 e6
          refine ⟨some ⟨g, 0, none⟩, C', by rw [sortS_length], by rw [sortS_length]; exact hcap, .inr ⟨g, 0, flatF ((sortS ns).map fun t => (t.1, t.2.2)), ⟨Nat.zero_le _, by rw [hO.size]; exact hgl.2⟩, rfl, ?_, fun q u hu => ?_⟩⟩
          · rw [e1, sortS_map (f := fun t : ByteArray × (JV × Nat) => (t.1, t.2.1)) (fun _ => rfl)]
            refine FCells.of_flat fun t ht => ?_
            obtain ⟨hz, hv⟩ := h3 t ((sortS_mem ns t).1 ht)
            refine ⟨hz, hv.keep (fun c hc => hO.block c (fun e => hc.2.1 (by rw [e]; rfl))) (fun c hc => ⟨Nat.zero_le _, by rw [hO.size]; exact hc.1.2⟩)⟩
          · have := own_cellN hown5 hu
            rwa [Nat.zero_add]
      have HF := Lib.hid (And.intro bb5 (And.intro hfl (hB.trans (hO.below hgl.1))))
      have hs5 := hO.size
      clear bb hB h3 hbx e1 bb5 hfl hsort o1 hown5 HX
      go_wp2_with fail
      go_ret
      rw [HM.out]
      exact ⟨_, _, rfl, HF.out.2.2, ⟨by omega, by omega⟩, HF.out.1, HF.out.2.1⟩
end Go.Proofs.Ytlghpcokbppkfaa
