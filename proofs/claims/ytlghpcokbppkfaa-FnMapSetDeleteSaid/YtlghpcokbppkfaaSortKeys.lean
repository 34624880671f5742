/- impl.sortedKeys: the keys of a map, in increasing order, in whatever order the map gives them. -/
import Derived.Test.YtlghpcokbppkfaaRange
import Derived.Test.YtlghpcokbppkfaaRegionB
import Derived.Test.YtlghpcokbppkfaaPureWith
import Derived.Test.YtlghpcokbppkfaaWith
namespace Go.Proofs.Ytlghpcokbppkfaa
open Go.RowKit
set_option linter.unusedSimpArgs false

/-- The key put at the place p of a list. -/
def insAt {α : Type} (l : List α) (p : Nat) (x : α) : List α := l.take p ++ x :: l.drop p

theorem insAt_length {α : Type} (l : List α) {p : Nat} (x : α) (hp : p ≤ l.length) : (insAt l p x).length = l.length + 1 := by
  simp [insAt]; omega
theorem insAt_end {α : Type} (l : List α) (x : α) : insAt l l.length x = l ++ [x] := by simp [insAt]
theorem insAt_at {α : Type} (l : List α) {p : Nat} (x : α) (hp : p ≤ l.length) : (insAt l p x)[p]? = some x := by
  unfold insAt
  rw [List.getElem?_append_right (by simp; omega)]
  simp [Nat.min_eq_left hp]
theorem insAt_before {α : Type} (l : List α) {p : Nat} (x : α) (hp : p < l.length) : (insAt l (p + 1) x)[p]? = l[p]? := by
  unfold insAt
  rw [List.getElem?_append_left (by simp; omega)]
  simp
theorem insAt_swap {α : Type} (l : List α) {p : Nat} (x y : α) (hp : p < l.length) (hy : l[p]? = some y) : ((insAt l (p + 1) x).set (p + 1) y).set p x = insAt l p x := by
  have hd : l.drop p = y :: l.drop (p + 1) := by
    rw [List.drop_eq_getElem_cons hp]
    rw [List.getElem?_eq_getElem hp] at hy
    cases hy
    rfl
  have ht : l.take (p + 1) = l.take p ++ [y] := by
    rw [List.take_add_one, hy]; rfl
  unfold insAt
  rw [hd, ht]
  have e1 : (l.take p).length = p := by simp; omega
  rw [List.append_assoc]
  rw [List.set_append_right _ _ (by omega), List.set_append_right _ _ (by omega)]
  rw [e1]
  simp
theorem insAt_incr {l : List ByteArray} (hl : Incr l) {p : Nat} {k : ByteArray} (hd : ∀ x ∈ l.drop p, blt k x = true) (ht : ∀ x ∈ l.take p, blt x k = true) : Incr (insAt l p k) := by
  unfold insAt Incr
  rw [List.pairwise_append]
  refine ⟨List.Pairwise.sublist (List.take_sublist _ _) hl, ?_, fun a ha b hb => ?_⟩
  · rw [List.pairwise_cons]
    exact ⟨hd, List.Pairwise.sublist (List.drop_sublist _ _) hl⟩
  · rcases List.mem_cons.1 hb with rfl | hb
    · exact ht a ha
    · exact blt_trans (ht a ha) (hd b hb)
theorem insAt_mem {α : Type} (l : List α) (p : Nat) (x : α) {y : α} : y ∈ insAt l p x ↔ y = x ∨ y ∈ l := by
  unfold insAt
  rw [List.mem_append, List.mem_cons]
  have : y ∈ l ↔ y ∈ l.take p ∨ y ∈ l.drop p := by rw [← List.mem_append, List.take_append_drop]
  rw [this]
  constructor
  · rintro (h | h | h)
    · exact .inr (.inl h)
    · exact .inl h
    · exact .inr (.inr h)
  · rintro (h | h | h)
    · exact .inr (.inl h)
    · exact .inl h
    · exact .inr (.inr h)

theorem own_some {w : World} {base : Nat} {e : TypeId} {size n c : Nat} {A : Option Addr} {xs : List Value} (h : w.ownsRow base e size (.slice A (n + 1) c) (n + 1) xs) : ∃ g, A = some ⟨g, 0, none⟩ ∧ base ≤ g ∧ g < w.heap.size ∧ n + 1 ≤ c := by
  rcases h.2 with ⟨h2, h3⟩ | ⟨g, cap, cur, hv, hb, hg, hn, _⟩
  · omega
  · injection hv with e1 _ e3
    subst e3
    exact ⟨g, e1, hb, blk_lt hg, hn⟩
theorem own_free {w : World} {base : Nat} {e : TypeId} {size n c g : Nat} {xs : List Value} (h : w.ownsRow base e size (.slice (some ⟨g, 0, none⟩) n c) n xs) (i : Nat) : w.frozen? ⟨g, i, none⟩ = false := by
  rcases h.2 with ⟨h2, _⟩ | ⟨g', cap, cur, hv, hb, hg, _⟩
  · simp at h2
  · injection hv with e1
    injection e1 with e1
    injection e1 with e1
    subst e1
    exact blk_frozen hg i
theorem own_cell {w : World} {base : Nat} {e : TypeId} {n c g : Nat} {xs : List Value} (h : w.ownsRow base e 1 (.slice (some ⟨g, 0, none⟩) n c) n xs) {i : Nat} {u : Value} (hu : xs[i]? = some u) : w.cell? ⟨g, i, none⟩ = some u := by
  have := h.cells (g := g) rfl i u hu
  rwa [Addr.add_lit, Nat.zero_add] at this

theorem own_lo {w : World} {base base' : Nat} (hb : base' ≤ base) {e : TypeId} {size n : Nat} {v : Value} {xs : List Value} (h : w.ownsRow base e size v n xs) : w.ownsRow base' e size v n xs := by
  refine ⟨h.1, ?_⟩
  rcases h.2 with h2 | ⟨g, cap, cur, hv, hg, r⟩
  · exact .inl h2
  · exact .inr ⟨g, cap, cur, hv, Nat.le_trans hb hg, r⟩

theorem keys_of_es {w : World} {S : Nat → Prop} : ∀ {m : List (ByteArray × JV)} {es : List MapEntry}, IsEs w S m es → es.map (·.key) = m.map (fun x => Value.string x.1) ∧ ∀ x ∈ m, x.1.size ≤ maxLen
  | [], es, h => by simp [IsEs] at h; subst h; simp
  | x :: r, es, h => by
    unfold IsEs at h
    obtain ⟨e, r', rfl, hk, hs, _, hr⟩ := h
    have := keys_of_es hr
    refine ⟨by simp [hk, this.1], fun y hy => ?_⟩
    rcases List.mem_cons.1 hy with rfl | hy
    · exact hs
    · exact this.2 y hy

theorem wrap_nat {q : Nat} (h : q < 9223372036854775808) : IntKind.i64.wrap (q : Int) = q := by
  simp [IntKind.wrap, IntKind.bits, IntKind.signed]; omega

set_option maxHeartbeats 1000000 in
set_option maxRecDepth 100000 in
theorem sortedKeys_any (ks : List ByteArray) (hz : ∀ k ∈ ks, k.size ≤ maxLen) (hl : ks.length * 88 ≤ 140737488351232) (bm : Nat) (es : Array MapEntry) (cl : Nat) (hes : es.toList.map (·.key) = ks.map Value.string) (hst : MapKept.Stamped es cl) (w : World)
    (hm : w.heap[bm]? = some (.map es cl)) :
    Calls Try.prog 125 #[.map (some bm)] w fun e w' => ∃ A C out, e = .returned (.slice A ks.length C) ∧ Below w.heap.size w w' ∧ Incr out ∧ (∀ k, k ∈ out ↔ k ∈ ks) ∧ out.length = ks.length ∧
      w'.ownsRow w.heap.size 9 1 (.slice A ks.length C) ks.length (out.map Value.string) := by
  have hrun := run_range_map (P := Try.prog) w 164 9 20 bm es cl Try.underlying164 hm
  have hbm : bm < w.heap.size := blk_lt hm
  obtain ⟨i0, hi0, hz0, hz1, hz2⟩ := info_parts Try.infoStr
  have hn : es.toList.length = ks.length := by have := congrArg List.length hes; simpa using this
  go_enter Try.func125, Try.ntmps125
  go_wp2_with fail
  have hrg : Rng (w.alloc (.mapIter (some bm) cl #[] cl)) bm w.heap.size es cl [] := by
    refine ⟨?_, ⟨#[], rfl, new_block rfl⟩, by omega, by simp, by simp, hst.1, hst.2.1⟩
    rw [Below.heap_alloc _ _ _ hbm]; exact hm
  have hB0 : Below w.heap.size w (w.alloc (.mapIter (some bm) cl #[] cl)) := (Below.refl _ _).alloc (Nat.le_refl _) _
  have hs0 : (w.alloc (.mapIter (some bm) cl #[] cl)).heap.size = w.heap.size + 1 := by simp
  clear hrun hm
  generalize w.alloc (.mapIter (some bm) cl #[] cl) = w0 at *
  generalize hM : w.heap.size = M at *
  have HM := Lib.hid hM; clear hM
  go_loopw [3] (fun s3 wr => ∃ done out n A C, s3 = .slice A n C ∧ Rng wr bm M es cl done ∧ Below M w0 wr ∧ M + 1 ≤ wr.heap.size ∧ done.length = n ∧ out.length = n ∧ Incr out ∧ (∀ k, k ∈ out ↔ ∃ e ∈ done, e.key = .string k) ∧
      wr.ownsRow (M + 1) 9 1 (.slice A n C) n (out.map Value.string))
    (fun s3 _ => ks.length - (match s3 with | .slice _ n _ => n | _ => 0))
  case atStart => exact ⟨[], [], 0, none, 0, rfl, hrg, Below.refl _ _, by omega, rfl, rfl, List.Pairwise.nil, by simp, World.ownsRow_nil _ _ _ _⟩
  case round =>
    clear hrg
    obtain ⟨done, out, n, A, C, rfl, hrg, hB, hsz, hdn, hon, hinc, hmem, hown⟩ := hrel
    go_wp2_with (at_next; refine wpList_next_rng rfl _ _ rfl rfl rfl hrg ?_ ?_)
    · intro hall
      have hen : n = ks.length := by
        have h1 := nodup_len (a := es.toList.map (·.born)) (l := done.map (·.born)) hrg.born (fun x hx => by
          obtain ⟨d, hd', rfl⟩ := List.mem_map.1 hx
          exact List.mem_map_of_mem (hall d (by simpa using hd')))
        have h2 := hrg.len
        simp only [List.length_map] at h1
        have : es.size = ks.length := by simpa using hn
        omega
      have hmm : ∀ k, k ∈ out ↔ k ∈ ks := fun k => by
        rw [hmem]
        constructor
        · rintro ⟨e, he, hek⟩
          have : e.key ∈ es.toList.map (·.key) := List.mem_map_of_mem (hrg.sub e he)
          rw [hes, hek] at this
          obtain ⟨k', hk', e'⟩ := List.mem_map.1 this
          cases e'; exact hk'
        · intro hk
          have : Value.string k ∈ es.toList.map (·.key) := by rw [hes]; exact List.mem_map_of_mem hk
          obtain ⟨e, he, hek⟩ := List.mem_map.1 this
          exact ⟨e, hall e (by simpa using he), hek⟩
      clear hmem hall
      subst hen
      go_wp2_with fail
      go_ret
      rw [HM.out]
      exact ⟨_, _, out, rfl, hB0.trans hB, hinc, hmm, hon, own_lo (Nat.le_succ _) hown⟩
    · intro e he hnd w1 hrg1 hBl hkeep hs1 hent
      obtain ⟨key, hkm, hek⟩ : ∃ key, key ∈ ks ∧ e.key = .string key := by
        have : e.key ∈ es.toList.map (·.key) := List.mem_map_of_mem (by simpa using he)
        rw [hes] at this
        obtain ⟨k', hk', e'⟩ := List.mem_map.1 this
        exact ⟨k', hk', e'.symm⟩
      rw [hek] at hent ⊢
      have hlen : n + 1 ≤ ks.length := by
        have h2 := hrg1.len
        have : es.size = ks.length := by simpa using hn
        simp only [List.length_append, List.length_cons, List.length_nil] at h2
        omega
      have hkz := hz key hkm
      have hb0 := hBl 0 (Nat.zero_le _)
      have hown1 := hown.kept (w' := w1) (row := some M) ⟨hb0.os, hb0.tape, hb0.output, hb0.size, fun k hk hne => hkeep k (fun e => hne (by rw [e]))⟩ (.inr (fun e => by
        have := (hown.lt M e).1; omega))
      have hB1 : Below M w0 w1 := hB.trans (hBl M (Nat.le_refl _))
      clear hown hB hBl hrg hb0 hkeep
      go_wp2_with (first
        | (with_reducible refine wpList_buildSlice_one rfl _ _ 9 rfl Try.underlying23 i0 hi0 _ hz0 hz1 (.string key) rfl rfl rfl ?_)
        | (at_builtin; refine wpList_append_s _ rfl _ _ _ rfl (M + 1) 9 i0 _ 1 16 Try.underlying23 hi0 hz0 hz1 hz2 rfl Nat.one_pos (.slice A n C) n _ rfl (hown1.alloc _) (w1.heap.size + 1) (some ⟨w1.heap.size, 0, none⟩) 1 1 [.string key] rfl ?r1 ?r2 ?r3 ?r4 ?r5 ?_))
      case r1 => exact ⟨rfl, fun _ => ⟨_, rfl, Nat.lt_succ_self _, cell_one_new _ _ _⟩⟩
      case r2 => intro u hu; simp at hu; subst hu; rfl
      case r3 => unfold maxLen; omega
      case r4 => omega
      case r5 => simp; omega
      intro A2 C2 w2 hown2 hg2 _
      have hnk : key ∉ out := fun hk => by
        obtain ⟨e', he', hk'⟩ := (hmem key).1 hk
        have hes' : e' ∈ es.toList := hrg1.sub e' (by simp [he'])
        have : e' = e := by
          have hkn : (es.toList.map (·.key)).Nodup := hst.2.2
          obtain ⟨i, hi⟩ := List.getElem?_of_mem hes'
          obtain ⟨j, hj⟩ := List.getElem?_of_mem (show e ∈ es.toList by simpa using he)
          have hij : i = j := by
            have hi' : (es.toList.map (·.key))[i]? = some (.string key) := by rw [List.getElem?_map, hi, Option.map_some, hk']
            have hj' : (es.toList.map (·.key))[j]? = some (.string key) := by rw [List.getElem?_map, hj, Option.map_some, hek]
            have h1 := (List.getElem?_eq_some_iff.1 hi').1
            exact (List.getElem?_inj h1 hkn).1 (hi'.trans hj'.symm)
          rw [hij, hj] at hi
          exact (Option.some.inj hi).symm
        exact hnd (this ▸ he')
      have hmem2 : ∀ k, (k = key ∨ k ∈ out) ↔ ∃ d ∈ done ++ [e], d.key = .string k := fun k => by
        rw [hmem]
        constructor
        · rintro (rfl | ⟨d, hd', hk⟩)
          · exact ⟨e, by simp, hek⟩
          · exact ⟨d, by simp [hd'], hk⟩
        · rintro ⟨d, hd', hk⟩
          rcases List.mem_append.1 hd' with hd' | hd'
          · exact .inr ⟨d, hd', hk⟩
          · simp at hd'; subst hd'
            rw [hek] at hk
            cases hk; exact .inl rfl
      obtain ⟨g, rfl, hg0, hglt, hnc⟩ := own_some hown2
      have hlt1 := hrg1.lt_
      have hown1' := hown1.alloc (.cells #[.string key] 9)
      have hB2 : Below M w0 w2 := (hB1.alloc (by omega) (.cells #[.string key] 9)).grown hg2 (by simp; omega) (own_ge hown1' (Nat.le_succ _))
      have hrg2 : Rng w2 bm M es cl (done ++ [e]) := hrg1.of_eq
        ((hg2.block bm (by simp; omega) (own_notin hown1' (by omega))).trans (Below.heap_alloc _ _ _ hlt1.1))
        ((hg2.block M (by simp; omega) (own_notin hown1' (by omega))).trans (Below.heap_alloc _ _ _ hlt1.2))
      have hs2 : M + 1 ≤ w2.heap.size := by omega
      have hown2' : w2.ownsRow (M + 1) 9 1 (.slice (some ⟨g, 0, none⟩) (n + 1) C2) (n + 1) ((insAt out n key).map Value.string) := by
        rw [← hon, insAt_end, List.map_append, hon]; exact hown2
      clear hown2 hg2 hown1 hown1' hent hrg1 hB1 hmem hs1 hnd he hek hlt1
      go_wp2_with fail
      have hlt2 := hrg2.lt_
      go_loopw [5] (fun s5 wx => ∃ p : Nat, s5 = .int .i64 (p : Nat) ∧ p ≤ n ∧ wx.ownsRow (M + 1) 9 1 (.slice (some ⟨g, 0, none⟩) (n + 1) C2) (n + 1) ((insAt out p key).map Value.string) ∧ (∀ x ∈ out.drop p, blt key x = true) ∧
          Below M w0 wx ∧ Rng wx bm M es cl (done ++ [e]) ∧ M + 1 ≤ wx.heap.size)
        (fun s5 _ => (intOf s5).toNat)
      case atStart => exact ⟨n, rfl, Nat.le_refl _, hown2', by rw [← hon]; simp, hB2, hrg2, hs2⟩
      case round =>
        clear hown2' hB2 hrg2 hs2 hlt2
        obtain ⟨p, rfl, hp, hownp, hgt, hBp, hrgp, hsp⟩ := hrel
        rcases Nat.eq_zero_or_pos p with rfl | hp0
        · have HO := Lib.hid hownp
          have HG := Lib.hid hgt
          have HR := Lib.hid hrgp
          have HM2 := Lib.hid hmem2
          have HI := Lib.hid hinc
          clear hownp hgt hrgp hes hst hz hmem2 hinc
          go_wp2_with fail
          go_quiet (fail)
          go_wp2_with fail
          refine ⟨⟨done ++ [e], insAt out 0 key, n + 1, some ⟨g, 0, none⟩, C2, rfl, HR.out.of_eq rfl rfl, hBp.trans ⟨rfl, rfl, rfl, Nat.le_refl _, fun _ _ => rfl⟩, hsp, by simp [hdn], by rw [insAt_length _ _ (Nat.zero_le _), hon],
            insAt_incr HI.out HG.out (by simp), fun k => by rw [insAt_mem]; exact HM2.out k, HO.out⟩, ?_⟩
          show ks.length - (n + 1) < ks.length - n
          omega
        · obtain ⟨q, rfl⟩ : ∃ q, p = q + 1 := ⟨p - 1, by omega⟩
          obtain ⟨y, hy⟩ : ∃ y, out[q]? = some y := ⟨out[q]'(by omega), by simp⟩
          have x1 : wr.cell? ⟨g, q + 1, none⟩ = some (.string key) := own_cell hownp (by rw [List.getElem?_map, insAt_at _ _ (by omega)]; rfl)
          have x2 : wr.cell? ⟨g, q, none⟩ = some (.string y) := own_cell hownp (by rw [List.getElem?_map, insAt_before _ _ (by omega), hy]; rfl)
          have f1 := own_free hownp (q + 1)
          have f2 := own_free hownp q
          have j0 : (0 : Int) ≤ (q : Int) := by omega
          have j1 : (q : Int) < (n : Int) := by omega
          have hyz : y ∈ out := List.mem_of_getElem? hy
          have hd : decide ((0 : Int) < (q : Int) + 1) = true := by simp
          have HY := Lib.hid hy
          have HO := Lib.hid hownp
          have HG := Lib.hid hgt
          have HR := Lib.hid hrgp
          have HM2 := Lib.hid hmem2
          have HI := Lib.hid hinc
          clear hy hownp hgt hrgp hes hst hz hmem2 hinc
          go_wp2_with fail
          go_quiet (fail)
          go_wp2_with fail
          · have hlt : blt key y = true := by assumption
            have y1 : (wr.drewN nq).cell? ⟨g, q + 1, none⟩ = some (.string key) := x1
            have y2 : (wr.drewN nq).cell? ⟨g, q, none⟩ = some (.string y) := x2
            have k1 : (wr.drewN nq).frozen? ⟨g, q + 1, none⟩ = false := f1
            have k2 : (wr.drewN nq).frozen? ⟨g, q, none⟩ = false := f2
            have HW := Lib.hid (show (wr.drewN nq).ownsRow (M + 1) 9 1 (.slice (some ⟨g, 0, none⟩) (n + 1) C2) (n + 1) ((insAt out (q + 1) key).map Value.string) ∧ Rng (wr.drewN nq) bm M es cl (done ++ [e]) ∧ Below M w0 (wr.drewN nq) ∧ M + 1 ≤ (wr.drewN nq).heap.size from
              ⟨HO.out, HR.out.of_eq rfl rfl, hBp.trans ⟨rfl, rfl, rfl, Nat.le_refl _, fun _ _ => rfl⟩, hsp⟩)
            have hwq : IntKind.i64.wrap (q : Int) = q := wrap_nat (by omega)
            have j2 : (q : Int) < (n : Int) + 1 := by omega
            have j3 : (0 : Int) ≤ (q : Int) + 1 := by omega
            clear x1 x2 f1 f2 HO HR hBp hsp
            generalize wr.drewN nq = wx at *
            refine wp_region_P (by kernel_rfl) ?_
            refine wpP_take (i := 2) (v := ?_) rfl (by kernel_rfl) (by kernel_rfl) (by kernel_rfl) (.inl ⟨by rfl, ?_⟩) ?_
            rotate_left
            · (intro w hSw; clear hSw; go_simp; (try with_reducible rfl))
            try simp only [Act.put, List.setIfInBounds_toArray, List.set_cons_zero, List.set_cons_succ]
            refine wpP_take (i := 3) (v := ?_) rfl (by kernel_rfl) (by kernel_rfl) (by kernel_rfl) (.inl ⟨by rfl, ?_⟩) ?_
            rotate_left
            · (intro w hSw; clear hSw; go_simp; (try with_reducible rfl))
            try simp only [Act.put, List.setIfInBounds_toArray, List.set_cons_zero, List.set_cons_succ]
            refine wpP_take (i := 4) (v := ?_) rfl (by kernel_rfl) (by kernel_rfl) (by kernel_rfl) (.inl ⟨by rfl, ?_⟩) ?_
            rotate_left
            · (intro w hSw; clear hSw; go_simp; (try with_reducible rfl))
            try simp only [Act.put, List.setIfInBounds_toArray, List.set_cons_zero, List.set_cons_succ]
            refine wpP_take (i := 10) (v := ?_) rfl (by kernel_rfl) (by kernel_rfl) (by kernel_rfl) (.inl ⟨by rfl, ?_⟩) ?_
            rotate_left
            · (intro w hSw; clear hSw; go_simp; (try with_reducible rfl))
            try simp only [Act.put, List.setIfInBounds_toArray, List.set_cons_zero, List.set_cons_succ]
            refine wpP_take (i := 11) (v := ?_) rfl (by kernel_rfl) (by kernel_rfl) (by kernel_rfl) (.inl ⟨by rfl, ?_⟩) ?_
            rotate_left
            · (intro w hSw; clear hSw; go_simp; (try with_reducible rfl))
            try simp only [Act.put, List.setIfInBounds_toArray, List.set_cons_zero, List.set_cons_succ]
            refine wpP_take (i := 12) (v := ?_) rfl (by kernel_rfl) (by kernel_rfl) (by kernel_rfl) (.inl ⟨by rfl, ?_⟩) ?_
            rotate_left
            · (intro w hSw; clear hSw; go_simp; (try with_reducible rfl))
            try simp only [Act.put, List.setIfInBounds_toArray, List.set_cons_zero, List.set_cons_succ]
            refine wpP_then (fun w' => w'.cell? ⟨g, q + 1, none⟩ = some (.string key) ∧ w'.cell? ⟨g, q, none⟩ = some (.string y)) [0, 1, 5, 6, 7, 8, 9, 13, 14] ?_ (fun hHeld => ?_)
            · exact ⟨y1, y2⟩
            refine wpK_take (i := 0) (v := ?_) rfl (by kernel_rfl) (by kernel_rfl) (by kernel_rfl) (by kernel_rfl) (.inl ⟨by rfl, ?_⟩) hHeld ?_
            rotate_left
            · (intro w hSw; (try dsimp only at hSw); go_split_ands; go_simp; (try with_reducible rfl))
            try simp only [Act.put, List.setIfInBounds_toArray, List.set_cons_zero, List.set_cons_succ]
            refine wpK_take (i := 1) (v := ?_) rfl (by kernel_rfl) (by kernel_rfl) (by kernel_rfl) (by kernel_rfl) (.inl ⟨by rfl, ?_⟩) hHeld ?_
            rotate_left
            · (intro w hSw; (try dsimp only at hSw); go_split_ands; go_simp; (try with_reducible rfl))
            try simp only [Act.put, List.setIfInBounds_toArray, List.set_cons_zero, List.set_cons_succ]
            refine wpK_take (i := 5) (v := ?_) rfl (by kernel_rfl) (by kernel_rfl) (by kernel_rfl) (by kernel_rfl) (.inl ⟨by rfl, ?_⟩) hHeld ?_
            rotate_left
            · (intro w hSw; (try dsimp only at hSw); go_split_ands; go_simp; (try with_reducible rfl))
            try simp only [Act.put, List.setIfInBounds_toArray, List.set_cons_zero, List.set_cons_succ]
            refine wpK_take (i := 6) (v := ?_) rfl (by kernel_rfl) (by kernel_rfl) (by kernel_rfl) (by kernel_rfl) (.inl ⟨by rfl, ?_⟩) hHeld ?_
            rotate_left
            · (intro w hSw; (try dsimp only at hSw); go_split_ands; go_simp; (try with_reducible rfl))
            try simp only [Act.put, List.setIfInBounds_toArray, List.set_cons_zero, List.set_cons_succ]
            refine wpK_take (i := 7) (v := ?_) rfl (by kernel_rfl) (by kernel_rfl) (by kernel_rfl) (by kernel_rfl) (.inl ⟨by rfl, ?_⟩) hHeld ?_
            rotate_left
            · (intro w hSw; (try dsimp only at hSw); go_split_ands; go_simp; (try with_reducible rfl))
            try simp only [Act.put, List.setIfInBounds_toArray, List.set_cons_zero, List.set_cons_succ]
            refine wpK_take (i := 8) (v := ?_) rfl (by kernel_rfl) (by kernel_rfl) (by kernel_rfl) (by kernel_rfl) (.inl ⟨by rfl, ?_⟩) hHeld ?_
            rotate_left
            · (intro w hSw; (try dsimp only at hSw); go_split_ands; go_simp; (try with_reducible rfl))
            try simp only [Act.put, List.setIfInBounds_toArray, List.set_cons_zero, List.set_cons_succ]
            refine wpK_take (i := 9) (v := ?_) rfl (by kernel_rfl) (by kernel_rfl) (by kernel_rfl) (by kernel_rfl) (.inl ⟨by rfl, ?_⟩) hHeld ?_
            rotate_left
            · (intro w hSw; (try dsimp only at hSw); go_split_ands; go_simp; (try with_reducible rfl))
            try simp only [Act.put, List.setIfInBounds_toArray, List.set_cons_zero, List.set_cons_succ]
            refine wpK_take (i := 13) (v := ?_) rfl (by kernel_rfl) (by kernel_rfl) (by kernel_rfl) (by kernel_rfl) (.inl ⟨by rfl, ?_⟩) hHeld ?_
            rotate_left
            · (intro w hSw; (try dsimp only at hSw); go_split_ands; go_simp; (try with_reducible rfl))
            try simp only [Act.put, List.setIfInBounds_toArray, List.set_cons_zero, List.set_cons_succ]
            refine wpK_take (i := 14) (v := ?_) rfl (by kernel_rfl) (by kernel_rfl) (by kernel_rfl) (by kernel_rfl) (.inl ⟨by rfl, ?_⟩) hHeld ?_
            rotate_left
            · (intro w hSw; (try dsimp only at hSw); go_split_ands; go_simp; (try with_reducible rfl))
            try simp only [Act.put, List.setIfInBounds_toArray, List.set_cons_zero, List.set_cons_succ]
            refine wpK_last (i := 15) (by kernel_rfl) (by kernel_rfl) rfl (fun K hK => ?_)
            go_simp
            refine hK.out _ _ ?_
            clear hK K
            try simp only [Act.put, List.setIfInBounds_toArray, List.set_cons_zero, List.set_cons_succ]
            refine wpK_last (i := 16) (by kernel_rfl) (by kernel_rfl) rfl (fun K hK => ?_)
            go_simp
            refine hK.out _ _ ?_
            clear hK K
            try simp only [Act.put, List.setIfInBounds_toArray, List.set_cons_zero, List.set_cons_succ]
            refine wpK_last (i := 17) (by kernel_rfl) (by kernel_rfl) rfl (fun K hK => ?_)
            go_simp
            refine hK.out _ _ ?_
            clear hK K
            try simp only [Act.put, List.setIfInBounds_toArray, List.set_cons_zero, List.set_cons_succ]
            refine wpK_done (by kernel_rfl) ?_ _
            go_wp2_with fail
            obtain ⟨ho, hr, hb, hs⟩ := HW.out
            have hlt3 := hr.lt_
            refine ⟨⟨q, rfl, by omega, ?_, ?_, ?_, ?_, ?_⟩, ?_⟩
            · have := own_set (own_set ho (i := q + 1) (.string y)) (i := q) (.string key)
              rw [← insAt_swap out key y (by omega) HY.out, List.map_set, List.map_set]
              exact this
            · intro x hx
              have hdq : out.drop q = y :: out.drop (q + 1) := by
                have hq : q < out.length := by omega
                rw [List.drop_eq_getElem_cons hq]
                have hy' := HY.out
                rw [List.getElem?_eq_getElem hq] at hy'
                cases hy'; rfl
              rw [hdq] at hx
              rcases List.mem_cons.1 hx with rfl | hx
              · exact hlt
              · exact HG.out x hx
            · exact ((hb.setCell (p := ⟨g, q + 1, none⟩) (by show M ≤ g; omega) _).setCell (p := ⟨g, q, none⟩) (by show M ≤ g; omega) _).drew
            · exact hr.of_eq ((Below.heap_setCell _ _ _ _ (by show bm ≠ g; omega)).trans (Below.heap_setCell _ _ _ _ (by show bm ≠ g; omega))) ((Below.heap_setCell _ _ _ _ (by show M ≠ g; omega)).trans (Below.heap_setCell _ _ _ _ (by show M ≠ g; omega)))
            · show M + 1 ≤ ((wx.setCell _ _).setCell _ _).heap.size
              simpa using hs
            · simp [intOf]
          · have hle : blt key y = false := by assumption
            have hne : y ≠ key := fun e => hnk (e ▸ hyz)
            have hyk : blt y key = true := by
              cases hb : blt y key with
              | true => rfl
              | false => exact absurd (blt_total hb hle) hne
            refine ⟨⟨done ++ [e], insAt out (q + 1) key, n + 1, some ⟨g, 0, none⟩, C2, rfl, HR.out.of_eq rfl rfl, hBp.trans ⟨rfl, rfl, rfl, Nat.le_refl _, fun _ _ => rfl⟩, hsp, by simp [hdn], by rw [insAt_length _ _ (by omega), hon],
              insAt_incr HI.out HG.out (fun x hx => ?_), fun k => by rw [insAt_mem]; exact HM2.out k, HO.out⟩, ?_⟩
            · obtain ⟨i, hi⟩ := List.getElem?_of_mem hx
              rw [List.getElem?_take] at hi
              split at hi
              · rename_i hiq
                rcases incr_le HI.out (show i ≤ q by omega) hi HY.out with rfl | h
                · exact hyk
                · exact blt_trans h hyk
              · cases hi
            · show ks.length - (n + 1) < ks.length - n
              omega
end Go.Proofs.Ytlghpcokbppkfaa
