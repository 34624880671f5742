/- impl.KeyByFields. -/
import Derived.Test.YtlghpcokbppkfaaKeyBy
import Derived.Test.YtlghpcokbppkfaaCleanElem
namespace Go.Proofs.Ytlghpcokbppkfaa
open Go.RowKit
set_option linter.unusedSimpArgs false

section
variable {P : Program} {w : World} {ops : Array Oper} {rest : List Oper} {o : Oper} {a : Act} {Q : Exit → Act → World → Prop}
/-- A slice literal of two elements of one cell each. -/
theorem wpList_buildSlice_two (hg : o.guard = none) (x y : Operand) (t e : TypeId) (hop : o.op = Op.buildSlice t 2 #[(0, x), (1, y)]) (ht : P.underlying t = some (.slice e)) (i : TypeInfo) (hi : P.info? e = some i)
    (z : Value) (hz : i.zero = some z) (hs : i.size = 1) (v u : Value) (hx : a.eval x = v) (hy : a.eval y = u) (hcl : v.cells = #[v]) (hcu : u.cells = #[u]) (hzc : z.cells = #[z])
    (hK : wpList P ops Q rest (a.put o.dst (.slice (some ⟨w.heap.size, 0, none⟩) 2 2)) (w.alloc (.cells #[v, u] e))) : wpList P ops Q (o :: rest) a w := by
  refine wpList_plain hg fun K hK' => ?_
  unfold Oper.wp
  have h0 : (zeroValue e).run P w = .ok z w := by simp [zeroValue, typeInfo, hi, hz]
  simp [execOp, hop, hx, hy, Instr.buildSlice, run_underlying ht, sizeOf, typeInfo, hi, hs, Result.andThen, h0, hzc, Instr.fill, hcl, hcu, newRow, newObj, Array.range]
  refine hK' _ _ (Eq.mpr (congrArg (fun c => wpList P ops Q rest (a.put o.dst (.slice (some ⟨w.heap.size, 0, none⟩) 2 2)) (w.alloc (.cells c e))) (Array.ext ?_ ?_)) hK)
  · simp [hs]
  · intro i h1 h2
    have h3 : i = 0 ∨ i = 1 := by simp at h2; omega
    rcases h3 with rfl | rfl
    · rw [Array.getElem_setIfInBounds]
      · simp only [Nat.one_ne_zero, if_false]
        rw [Array.getElem_setIfInBounds]
        · simp
        · simp [hs]
      · simp [hs]
    · simp
end

theorem AllJ.app {w : World} {S : Nat → Prop} {m : List JV} {us : List Value} (hm : AllJ w S m us) : ∀ {l : List JV} {vs : List Value}, AllJ w S l vs → AllJ w S (l ++ m) (vs ++ us)
  | [], vs, h => by unfold AllJ at h; subst h; exact hm
  | x :: r, vs, h => by
    unfold AllJ at h
    obtain ⟨v, r', rfl, hx, hr⟩ := h
    show AllJ w S (x :: (r ++ m)) (v :: (r' ++ us))
    unfold AllJ
    exact ⟨v, r' ++ us, rfl, hx, AllJ.app hm hr⟩
theorem AllJ.two {w : World} {S : Nat → Prop} {j j' : JV} {v v' : Value} (h : IsJ w S j v) (h' : IsJ w S j' v') : AllJ w S [j, j'] [v, v'] := by
  unfold AllJ
  refine ⟨v, [v'], rfl, h, ?_⟩
  unfold AllJ
  exact ⟨v', [], rfl, h', by unfold AllJ; rfl⟩

set_option maxHeartbeats 2000000 in
set_option maxRecDepth 100000 in
theorem implKeyBy_any (x : EV) (w : World) (v : Value) (hv : IsE w (Btw 0 w.heap.size) x v) :
    Calls Try.prog 23 #[v] w fun e w' => ∃ r, e = .returned r ∧ Below w.heap.size w w' ∧ IsE w' (Btw w.heap.size w'.heap.size) (unPE (.key (sortS (flE x)))) r := by
  obtain ⟨i0, hi, hz0, hz1, hz2⟩ := info_parts Try.infoAny
  have hpok : ∀ p ∈ flE x, JOk p.2 := by
    obtain ⟨ak, ck, a, c, c0, c1, c2, c3, c4, c5, _, _, _, _, _, _, _, hl, _⟩ := hv
    have hg : ∀ y ∈ x.l, JOk (plainJ y) := by
      rcases hl with hl | ⟨b, o, _, _, hl⟩
      · rw [hl]; simp
      · exact fun y hy => plain_ok y (GOks_mem (IsVs.gok _ hl) y hy)
    intro p hp
    have := List.of_mem_zip (a := p.1) (b := p.2) (by exact hp)
    obtain ⟨y, hy, he⟩ := List.mem_map.1 this.2
    rw [← he]
    exact hg y hy
  obtain ⟨ak, ck, a, c, a0, d0, a1, d1, rfl⟩ := hv.form
  have hks : IsStrs w (Btw 0 w.heap.size) (.slice ak x.keys.length ck) x.keys := by
    obtain ⟨ak', ck', a', c', e0, e1, e2, e3, e4, e5, e, _, _, _, hk, _⟩ := hv
    injection e with e
    injection e with e
    simp only [List.cons.injEq, and_true] at e
    obtain ⟨_, _, e, _⟩ := e
    rw [← e] at hk
    exact hk
  obtain ⟨_, hlc, hl88, hl⟩ := hv.rowL
  have hk16 : x.keys.length * 16 ≤ 140737488351232 := by obtain ⟨_, _, _, _, h, _⟩ := hks; exact h
  have hkz : ∀ k ∈ x.keys, k.size ≤ maxLen := by obtain ⟨_, _, _, _, _, h, _⟩ := hks; exact h
  have HPOK := Lib.hid hpok
  clear hv hpok
  go_enter Try.func23, Try.ntmps23
  go_wp2_with fail
  have hB0 : Below w.heap.size w ((w.alloc (.cells #[.int .i64 x.kind, .string x.s, .slice ak x.keys.length ck, .slice a x.l.length c, .int .i64 x.v.kind, .int .i64 x.v.n, .float .f64 x.v.f, .string x.v.s, .slice a0 x.v.keys.length d0, .slice a1 x.v.l.length d1, .int .i64 x.n] 33)).alloc (.cells #[.int .i64 0, .string ⟨#[]⟩, .slice none 0 0, .slice none 0 0, .int .i64 0, .int .i64 0, .float .f64 0, .string ⟨#[]⟩, .slice none 0 0, .slice none 0 0, .int .i64 0] 33)) := ((Below.refl w.heap.size w).alloc (Nat.le_refl _) (.cells #[.int .i64 x.kind, .string x.s, .slice ak x.keys.length ck, .slice a x.l.length c, .int .i64 x.v.kind, .int .i64 x.v.n, .float .f64 x.v.f, .string x.v.s, .slice a0 x.v.keys.length d0, .slice a1 x.v.l.length d1, .int .i64 x.n] 33)).alloc (by simp) (.cells #[.int .i64 0, .string ⟨#[]⟩, .slice none 0 0, .slice none 0 0, .int .i64 0, .int .i64 0, .float .f64 0, .string ⟨#[]⟩, .slice none 0 0, .slice none 0 0, .int .i64 0] 33)
  have b0 : ((w.alloc (.cells #[.int .i64 x.kind, .string x.s, .slice ak x.keys.length ck, .slice a x.l.length c, .int .i64 x.v.kind, .int .i64 x.v.n, .float .f64 x.v.f, .string x.v.s, .slice a0 x.v.keys.length d0, .slice a1 x.v.l.length d1, .int .i64 x.n] 33)).alloc (.cells #[.int .i64 0, .string ⟨#[]⟩, .slice none 0 0, .slice none 0 0, .int .i64 0, .int .i64 0, .float .f64 0, .string ⟨#[]⟩, .slice none 0 0, .slice none 0 0, .int .i64 0] 33)).heap[w.heap.size]? = some (.cells #[.int .i64 x.kind, .string x.s, .slice ak x.keys.length ck, .slice a x.l.length c, .int .i64 x.v.kind, .int .i64 x.v.n, .float .f64 x.v.f, .string x.v.s, .slice a0 x.v.keys.length d0, .slice a1 x.v.l.length d1, .int .i64 x.n] 33) := blk_alloc (new_block rfl) _
  have b1 : ((w.alloc (.cells #[.int .i64 x.kind, .string x.s, .slice ak x.keys.length ck, .slice a x.l.length c, .int .i64 x.v.kind, .int .i64 x.v.n, .float .f64 x.v.f, .string x.v.s, .slice a0 x.v.keys.length d0, .slice a1 x.v.l.length d1, .int .i64 x.n] 33)).alloc (.cells #[.int .i64 0, .string ⟨#[]⟩, .slice none 0 0, .slice none 0 0, .int .i64 0, .int .i64 0, .float .f64 0, .string ⟨#[]⟩, .slice none 0 0, .slice none 0 0, .int .i64 0] 33)).heap[w.heap.size + 1]? = some (.cells #[.int .i64 0, .string ⟨#[]⟩, .slice none 0 0, .slice none 0 0, .int .i64 0, .int .i64 0, .float .f64 0, .string ⟨#[]⟩, .slice none 0 0, .slice none 0 0, .int .i64 0] 33) := new_block (by simp)
  have hs0 : ((w.alloc (.cells #[.int .i64 x.kind, .string x.s, .slice ak x.keys.length ck, .slice a x.l.length c, .int .i64 x.v.kind, .int .i64 x.v.n, .float .f64 x.v.f, .string x.v.s, .slice a0 x.v.keys.length d0, .slice a1 x.v.l.length d1, .int .i64 x.n] 33)).alloc (.cells #[.int .i64 0, .string ⟨#[]⟩, .slice none 0 0, .slice none 0 0, .int .i64 0, .int .i64 0, .float .f64 0, .string ⟨#[]⟩, .slice none 0 0, .slice none 0 0, .int .i64 0] 33)).heap.size = w.heap.size + 2 := by simp
  generalize ((w.alloc (.cells #[.int .i64 x.kind, .string x.s, .slice ak x.keys.length ck, .slice a x.l.length c, .int .i64 x.v.kind, .int .i64 x.v.n, .float .f64 x.v.f, .string x.v.s, .slice a0 x.v.keys.length d0, .slice a1 x.v.l.length d1, .int .i64 x.n] 33)).alloc (.cells #[.int .i64 0, .string ⟨#[]⟩, .slice none 0 0, .slice none 0 0, .int .i64 0, .int .i64 0, .float .f64 0, .string ⟨#[]⟩, .slice none 0 0, .slice none 0 0, .int .i64 0] 33)) = w0 at *
  generalize hM : w.heap.size = M at *
  have HM := Lib.hid hM; clear hM
  go_loopw [3, 9] (fun out i wr => ∃ k m n A C vs, k ≤ x.keys.length ∧ m = min k x.l.length ∧ n = 2 * m ∧ i = .int .i64 (k : Nat) ∧ out = .slice A n C ∧
      wr.ownsRow (M + 2) 20 1 (.slice A n C) n vs ∧ AllJ wr (fun b => Btw (M + 2) wr.heap.size b ∧ (Value.slice A n C).ownBlock ≠ some b) (argsJ ((flE x).take m)) vs ∧ Below M w wr ∧ M + 2 ≤ wr.heap.size ∧
      wr.heap[M]? = some (.cells #[.int .i64 x.kind, .string x.s, .slice ak x.keys.length ck, .slice a x.l.length c, .int .i64 x.v.kind, .int .i64 x.v.n, .float .f64 x.v.f, .string x.v.s, .slice a0 x.v.keys.length d0, .slice a1 x.v.l.length d1, .int .i64 x.n] 33) ∧ wr.heap[M + 1]? = some (.cells #[.int .i64 0, .string ⟨#[]⟩, .slice none 0 0, .slice none 0 0, .int .i64 0, .int .i64 0, .float .f64 0, .string ⟨#[]⟩, .slice none 0 0, .slice none 0 0, .int .i64 0] 33))
    (fun _ i _ => x.keys.length - (intOf i).toNat)
  case atStart => exact ⟨0, 0, 0, none, 0, [], Nat.zero_le _, by simp, rfl, rfl, rfl, World.ownsRow_nil _ _ _ _, by simp [argsJ, AllJ], hB0, by omega, b0, b1⟩
  case round =>
    obtain ⟨k, m, n, A, C, vs, hk, hm, hn, rfl, rfl, hown, hall, hB, hsz, hbox, hres⟩ := hrel
    clear b0 b1 hB0 hs0
    have s3 : wr.cell? ⟨M, 3, none⟩ = some (.slice a x.l.length c) := blk_c hbox 3 rfl
    by_cases hlt : k < x.keys.length
    · obtain ⟨key, hkey⟩ : ∃ key, x.keys[k]? = some key := ⟨x.keys[k], by simp [hlt]⟩
      obtain ⟨b0, o0, hb0, rfl, hck0⟩ := strs_at hks hkey
      have hck : wr.cell? ⟨b0, o0 + k, none⟩ = some (.string key) := (hB.cell (by exact hb0.2)).trans hck0
      have hksz : key.size ≤ maxLen := hkz key (List.mem_of_getElem? hkey)
      have HK := Lib.hid hkey
      have j0 : (0 : Int) ≤ (k : Int) := by omega
      have j1 : (k : Int) < (x.keys.length : Int) := by omega
      clear hkey hck0
      by_cases hll : k < x.l.length
      · obtain ⟨b, o, hb, rfl, hcells⟩ := vals_at hl (by omega)
        obtain ⟨y, hy⟩ : ∃ y, x.l[k]? = some y := ⟨x.l[k], by simp [hll]⟩
        obtain ⟨e0, f0, e1, f1, g0, g1, g2, g3, g4, g5, hyv⟩ := (IsVs.keep (S' := Btw 0 wr.heap.size) (Btw.kept hB) (Btw.mono (Nat.le_refl _) (by omega)) x.l b o hb hcells).cells hy
        obtain rfl : m = k := by omega
        have HX := Lib.hid (And.intro hy hn)
        have j2 : (m : Int) < (x.l.length : Int) := by omega
        have hn63 : n + 2 ≤ maxLen := by unfold maxLen; omega
        have hn16 : (n + 2) * 16 ≤ 140737488355328 := by omega
        have hc := plain_any y
        clear hy hcells hl hm hn
        go_wp2_with (go_at_call 73; (with_reducible refine (hc.use _ _ hyv).mono ?_))
        rintro e w2 ⟨r, rfl, hB2, hr⟩
        have hsz2 := hB2.size
        have hcl := hr.cells
        have hone := hr.oneCell
        have hown2 := own_below hown hB2
        have hownL : ∀ b, (Value.slice A n C).ownBlock = some b → M + 2 ≤ b ∧ b < wr.heap.size := fun b e => hown.lt b e
        have hall2 : AllJ w2 (fun b => Btw (M + 2) w2.heap.size b ∧ (Value.slice A n C).ownBlock ≠ some b) (argsJ ((flE x).take m)) vs :=
          hall.keep (fun b hb => hB2.block b hb.1.2) (fun b hb => ⟨⟨hb.1.1, by have := hb.1.2; omega⟩, hb.2⟩)
        have HH := Lib.hid (And.intro hall2 (And.intro (blk_below hbox hB2) (And.intro (blk_below hres hB2) (And.intro (hB.trans (hB2.mono (by omega))) hr))))
        clear hr hB2 hown hall hB hbox hres hall2 g0 g1 g2 g3 g4 g5 hyv s3 hck hc
        go_wp2_with (first
          | (with_reducible refine wpList_buildSlice_two rfl _ _ _ 20 rfl Try.underlying106 i0 hi _ hz0 hz1 (.iface 9 (.string key)) r rfl rfl rfl hcl rfl ?_)
          | (at_builtin; refine wpList_append_s _ rfl _ _ _ rfl (M + 2) 20 i0 _ 1 16 Try.underlying106 hi hz0 hz1 hz2 rfl Nat.one_pos (.slice A n C) n vs rfl (hown2.alloc _) (w2.heap.size + 1) (some ⟨w2.heap.size, 0, none⟩) 2 2 [.iface 9 (.string key), r] rfl ?r1 ?r2 ?r3 ?r4 ?r5 ?_))
        case r1 => exact ⟨rfl, fun _ => ⟨_, rfl, Nat.lt_succ_self _, World.news_of_block (cs := #[.iface 9 (.string key), r]) (t := 20) (fr := (0, 0)) (heap_alloc_new w2 _)⟩⟩
        case r2 => intro u hu; simp at hu; rcases hu with rfl | rfl; rfl; exact hone
        case r3 => exact hn63
        case r4 => exact hn16
        case r5 => simp; omega
        intro A3 C3 w3 hown3 hg3 hat3
        obtain ⟨hall2, hbox2, hres2, hBM, hr⟩ := HH.out
        obtain ⟨hy, hn⟩ := HX.out
        have hs3 : w2.heap.size + 1 ≤ w3.heap.size := by have := hg3.size; simpa using this
        have hkeep : ∀ b, b < w2.heap.size → (Value.slice A n C).ownBlock ≠ some b → w3.heap[b]? = w2.heap[b]? := fun b h2 h3 =>
          (hg3.block b (by simp; omega) (fun e => h3 e.symm)).trans (Below.heap_alloc _ _ _ h2)
        have hnew : ∀ b, b < w2.heap.size → (Value.slice A n C).ownBlock ≠ some b → (Value.slice A3 (n + 2) C3).ownBlock ≠ some b := fun b h1 h2 h3 => by
          rcases hat3 with h | h
          · exact h2 (h.symm.trans h3)
          · rw [h3] at h
            simp at h
            omega
        have hall3 : AllJ w3 (fun b => Btw (M + 2) w3.heap.size b ∧ (Value.slice A3 (n + 2) C3).ownBlock ≠ some b) (argsJ ((flE x).take (m + 1))) (vs ++ [.iface 9 (.string key), r]) := by
          rw [List.take_add_one, flE_at x HK.out hy]
          show AllJ w3 _ (argsJ ((flE x).take m ++ [(key, plainJ y)])) _
          rw [argsJ_app]
          refine AllJ.app (AllJ.two (by unfold IsJ; exact ⟨rfl, hksz⟩) (hr.keep (fun b hb => hkeep b hb.2 (fun e => ?_)) (fun b hb => ⟨⟨by have := hb.1; omega, by have := hb.2; omega⟩, hnew b hb.2 (fun e => ?_)⟩))) (hall2.keep (fun b hb => hkeep b hb.1.2 hb.2) (fun b hb => ⟨⟨hb.1.1, by have := hb.1.2; omega⟩, hnew b hb.1.2 hb.2⟩))
          · have h1 := hb.1
            have := (hownL b e).2
            omega
          · have h1 := hb.1
            have := (hownL b e).2
            omega
        have hB3 : Below M w w3 := (hBM.alloc (by omega) _).grown hg3 (by simp; omega) (own_ge hown2 (by omega))
        have hbox3 := blk_grown (blk_alloc hbox2 (.cells #[.iface 9 (.string key), r] 20)) hg3 (own_notin hown2 (by omega))
        have hres3 := blk_grown (blk_alloc hres2 (.cells #[.iface 9 (.string key), r] 20)) hg3 (own_notin hown2 (by omega))
        have HF := Lib.hid (And.intro hn (And.intro hown3 (And.intro hall3 (And.intro hB3 (And.intro hbox3 hres3)))))
        clear hkeep hnew hat3 hg3 hown2 hall2 hbox2 hres2 hBM hr hn hown3 hall3 hB3 hbox3 hres3 HX HH hy
        go_wp2_with fail
        go_roundw
        case rel => exact ⟨m + 1, m + 1, n + 2, A3, C3, _, hlt, by omega, by have := HF.out.1; omega, by go_num, rfl, HF.out.2.1, HF.out.2.2.1, HF.out.2.2.2.1, by omega, HF.out.2.2.2.2.1, HF.out.2.2.2.2.2⟩
        case measure => simp [intOf]; omega
      · have hge : x.l.length ≤ k := by omega
        have j2 : ¬ ((k : Int) < (x.l.length : Int)) := by omega
        go_wp2_with fail
        go_roundw
        case rel => exact ⟨k + 1, m, n, A, C, vs, hlt, by omega, hn, by go_num, rfl, hown, hall, hB, hsz, hbox, hres⟩
        case measure => simp [intOf]; omega
    · have hkl : k = x.keys.length := by omega
      subst hkl
      have hfm : (flE x).length = m := by rw [flE_length]; exact hm.symm
      rw [List.take_of_length_le (by omega)] at hall
      have ha : flE x = [] ∨ ∃ b o, Btw 0 wr.heap.size b ∧ A = some ⟨b, o, none⟩ ∧ IsJs wr (Btw 0 wr.heap.size) (argsJ (flE x)) b o := by
        rcases hown.2 with ⟨_, h0⟩ | ⟨g, cap, cur, e, hb, hg, _⟩
        · exact .inl (List.length_eq_zero_iff.1 (by omega))
        · injection e with e1 _ _
          have hgl := hown.lt g (by rw [e1]; rfl)
          refine .inr ⟨g, 0, ⟨Nat.zero_le _, hgl.2⟩, e1, AllJ.row (hall.keep (fun _ _ => rfl) (fun b hb => ⟨Nat.zero_le _, hb.1.2⟩)) (fun j u hu => ?_)⟩
          have := hown.cells (g := g) (by rw [e1]; rfl) j u hu
          rwa [Addr.add_lit] at this
      have hf88 : (flE x).length * 88 ≤ 140737488351232 := by rw [hfm]; omega
      have hn' : n = 2 * (flE x).length := by omega
      have HX := Lib.hid (And.intro hB (And.intro hbox hres))
      have HA := Lib.hid (And.intro ha (And.intro hf88 hn'))
      clear ha hf88 hn' hB hbox hres hall hown hfm hm hn s3 hl hks
      go_wp2_with (go_at_call 74; (with_reducible refine (keyBy_any (flE x) wr A C n HA.out.2.2 HA.out.2.1 HA.out.1).mono ?_))
      rintro e w4 ⟨p, u, rfl, hB4, hp, hh, hfl⟩
      obtain ⟨hB, hbox, hres⟩ := HX.out
      have hs4 : wr.heap.size ≤ w4.heap.size := hB4.size
      have hpe : IsPE w4 (Btw 0 w4.heap.size) (.key (sortS (flE x))) (.agg #[.pointer none, .pointer (some ⟨p, 0, none⟩), .pointer none, .pointer none]) := ⟨p, u, rfl, ⟨Nat.zero_le _, hp.2⟩, hh, hfl⟩
      have hpk : POk (.key (sortS (flE x))) := ⟨by rw [sortS_length]; exact HA.out.2.1, fun q hq => HPOK.out q ((sortS_mem _ _).1 hq)⟩
      have HY := Lib.hid (And.intro hpe (And.intro hpk (And.intro (hB.trans (hB4.mono (by omega))) (blk_below hres hB4))))
      clear hpe hpk hB hbox hres HX HA hB4 hp hh hfl
      go_wp2_with (go_at_call 71; (with_reducible refine (fromElem_any (.key (sortS (flE x))) _ _ HY.out.1 HY.out.2.1).mono ?_))
      rintro e w5 ⟨r5, rfl, hB5, hr5⟩
      obtain ⟨z, hz⟩ : ∃ z, z = unPE (.key (sortS (flE x))) := ⟨_, rfl⟩
      rw [← hz] at hr5
      have HZ := Lib.hid hz
      clear hz
      obtain ⟨_, _, hB4', hR4⟩ := HY.out
      have hs5 : w4.heap.size ≤ w5.heap.size := hB5.size
      have hR := blk_below hR4 hB5
      have hB := hB4'.trans (hB5.mono (by omega))
      obtain ⟨pk, pk0, pl, pl0, pa, pa0, pb, pb0, rfl⟩ := hr5.form
      have HR := Lib.hid (And.intro hR (And.intro hr5 hB))
      have q0 : w5.cell? ⟨M + 1, 0, none⟩ = some (.int .i64 0) := blk_c hR 0 rfl
      have q1 : w5.cell? ⟨M + 1, 1, none⟩ = some (.string ⟨#[]⟩) := blk_c hR 1 rfl
      have q2 : w5.cell? ⟨M + 1, 2, none⟩ = some (.slice none 0 0) := blk_c hR 2 rfl
      have q3 : w5.cell? ⟨M + 1, 3, none⟩ = some (.slice none 0 0) := blk_c hR 3 rfl
      have q4 : w5.cell? ⟨M + 1, 4, none⟩ = some (.int .i64 0) := blk_c hR 4 rfl
      have q5 : w5.cell? ⟨M + 1, 5, none⟩ = some (.int .i64 0) := blk_c hR 5 rfl
      have q6 : w5.cell? ⟨M + 1, 6, none⟩ = some (.float .f64 0) := blk_c hR 6 rfl
      have q7 : w5.cell? ⟨M + 1, 7, none⟩ = some (.string ⟨#[]⟩) := blk_c hR 7 rfl
      have q8 : w5.cell? ⟨M + 1, 8, none⟩ = some (.slice none 0 0) := blk_c hR 8 rfl
      have q9 : w5.cell? ⟨M + 1, 9, none⟩ = some (.slice none 0 0) := blk_c hR 9 rfl
      have q10 : w5.cell? ⟨M + 1, 10, none⟩ = some (.int .i64 0) := blk_c hR 10 rfl
      have f0 := blk_frozen hR 0
      have f1 := blk_frozen hR 1
      have f2 := blk_frozen hR 2
      have f3 := blk_frozen hR 3
      have f4 := blk_frozen hR 4
      have f5 := blk_frozen hR 5
      have f6 := blk_frozen hR 6
      have f7 := blk_frozen hR 7
      have f8 := blk_frozen hR 8
      have f9 := blk_frozen hR 9
      have f10 := blk_frozen hR 10
      clear HY hr5 hB5 hB4' hR4 hR hB
      go_wp2_with fail
      obtain ⟨hR, hr5, hB⟩ := HR.out
      rw [HM.out]
      have hblk := st11_blk (c0 := .int .i64 z.kind) (c1 := .string z.s) (c2 := .slice pk z.keys.length pk0) (c3 := .slice pl z.l.length pl0) (c4 := .int .i64 z.v.kind) (c5 := .int .i64 z.v.n) (c6 := .float .f64 z.v.f) (c7 := .string z.v.s) (c8 := .slice pa z.v.keys.length pa0) (c9 := .slice pb z.v.l.length pb0) (c10 := .int .i64 z.n) hR
      have hsz : (st11 w5 (M + 1) (.int .i64 z.kind) (.string z.s) (.slice pk z.keys.length pk0) (.slice pl z.l.length pl0) (.int .i64 z.v.kind) (.int .i64 z.v.n) (.float .f64 z.v.f) (.string z.v.s) (.slice pa z.v.keys.length pa0) (.slice pb z.v.l.length pb0) (.int .i64 z.n)).heap.size = w5.heap.size := st11_size
      have hfin : IsE (st11 w5 (M + 1) (.int .i64 z.kind) (.string z.s) (.slice pk z.keys.length pk0) (.slice pl z.l.length pl0) (.int .i64 z.v.kind) (.int .i64 z.v.n) (.float .f64 z.v.f) (.string z.v.s) (.slice pa z.v.keys.length pa0) (.slice pb z.v.l.length pb0) (.int .i64 z.n)) (Btw M (st11 w5 (M + 1) (.int .i64 z.kind) (.string z.s) (.slice pk z.keys.length pk0) (.slice pl z.l.length pl0) (.int .i64 z.v.kind) (.int .i64 z.v.n) (.float .f64 z.v.f) (.string z.v.s) (.slice pa z.v.keys.length pa0) (.slice pb z.v.l.length pb0) (.int .i64 z.n)).heap.size) z (.agg #[.int .i64 z.kind, .string z.s, .slice pk z.keys.length pk0, .slice pl z.l.length pl0, .int .i64 z.v.kind, .int .i64 z.v.n, .float .f64 z.v.f, .string z.v.s, .slice pa z.v.keys.length pa0, .slice pb z.v.l.length pb0, .int .i64 z.n]) := by
        rw [hsz]
        exact hr5.keep (S := Btw w4.heap.size w5.heap.size) (fun b hb => st11_eq (by have := hb.1; omega)) (Btw.mono (by omega) (Nat.le_refl _))
      have hBf : Below M w (st11 w5 (M + 1) (.int .i64 z.kind) (.string z.s) (.slice pk z.keys.length pk0) (.slice pl z.l.length pl0) (.int .i64 z.v.kind) (.int .i64 z.v.n) (.float .f64 z.v.f) (.string z.v.s) (.slice pa z.v.keys.length pa0) (.slice pb z.v.l.length pb0) (.int .i64 z.n)) := st11_below hB (by omega)
      refine bodyPost_ret (v := .agg #[.int .i64 z.kind, .string z.s, .slice pk z.keys.length pk0, .slice pl z.l.length pl0, .int .i64 z.v.kind, .int .i64 z.v.n, .float .f64 z.v.f, .string z.v.s, .slice pa z.v.keys.length pa0, .slice pb z.v.l.length pb0, .int .i64 z.n]) ?_ rfl ?_
      · have e0 := blk_c hblk 0 (u := .int .i64 z.kind) rfl
        have e1 := blk_c hblk 1 (u := .string z.s) rfl
        have e2 := blk_c hblk 2 (u := .slice pk z.keys.length pk0) rfl
        have e3 := blk_c hblk 3 (u := .slice pl z.l.length pl0) rfl
        have e4 := blk_c hblk 4 (u := .int .i64 z.v.kind) rfl
        have e5 := blk_c hblk 5 (u := .int .i64 z.v.n) rfl
        have e6 := blk_c hblk 6 (u := .float .f64 z.v.f) rfl
        have e7 := blk_c hblk 7 (u := .string z.v.s) rfl
        have e8 := blk_c hblk 8 (u := .slice pa z.v.keys.length pa0) rfl
        have e9 := blk_c hblk 9 (u := .slice pb z.v.l.length pb0) rfl
        have e10 := blk_c hblk 10 (u := .int .i64 z.n) rfl
        unfold st11 at e0 e1 e2 e3 e4 e5 e6 e7 e8 e9 e10
        simp [results, Try.results23, go_sem, e0, e1, e2, e3, e4, e5, e6, e7, e8, e9, e10]
      · unfold st11 at hfin hBf
        exact ⟨_, rfl, hBf, HZ.out ▸ hfin⟩
end Go.Proofs.Ytlghpcokbppkfaa
