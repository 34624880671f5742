/- impl.toKeys: the fields of a key, as the package's list. -/
import Derived.Test.YtlghpcokbppkfaaToValue
import Derived.Test.YtlghpcokbppkfaaElem
import Derived.Test.YtlghpcokbppkfaaParts
import Derived.Test.YtlghpcokbppkfaaCells
namespace Go.Proofs.Ytlghpcokbppkfaa
open Go.RowKit
set_option linter.unusedSimpArgs false

/-- The cells of a list of fields: a name and a value each. -/
def FCells (w : World) (S : Nat → Prop) : List (ByteArray × JV) → List Value → Prop
  | [], xs => xs = []
  | x :: r, xs => ∃ c r', xs = .string x.1 :: c :: r' ∧ x.1.size ≤ maxLen ∧ IsVal w S x.2 c ∧ FCells w S r r'

section
variable {w w' : World} {S S' : Nat → Prop}
theorem FCells.keep (h : ∀ b, S b → w'.heap[b]? = w.heap[b]?) (hs : ∀ b, S b → S' b) : ∀ {l : List (ByteArray × JV)} {xs : List Value}, FCells w S l xs → FCells w' S' l xs
  | [], _, hv => hv
  | x :: r, _, hv => by
    obtain ⟨c, r', e, hz, hx, hr⟩ := hv
    exact ⟨c, r', e, hz, hx.keep h hs, hr.keep h hs⟩
theorem FCells.length : ∀ {l : List (ByteArray × JV)} {xs : List Value}, FCells w S l xs → xs.length = l.length * 2
  | [], _, hv => by unfold FCells at hv; subst hv; rfl
  | x :: r, _, hv => by
    obtain ⟨c, r', rfl, _, _, hr⟩ := hv
    simp [hr.length]; omega
theorem FCells.app : ∀ {l : List (ByteArray × JV)} {xs : List Value} {l' : List (ByteArray × JV)} {xs' : List Value}, FCells w S l xs → FCells w S l' xs' → FCells w S (l ++ l') (xs ++ xs')
  | [], _, _, _, hv, hv' => by unfold FCells at hv; subst hv; exact hv'
  | x :: r, _, _, _, hv, hv' => by
    obtain ⟨c, r', rfl, hz, hx, hr⟩ := hv
    exact ⟨c, _, rfl, hz, hx, hr.app hv'⟩
theorem FCells.one {k : ByteArray} {j : JV} {c : Value} (hz : k.size ≤ maxLen) (hx : IsVal w S j c) : FCells w S [(k, j)] [.string k, c] := ⟨c, [], rfl, hz, hx, rfl⟩
theorem FCells.at_ : ∀ {l : List (ByteArray × JV)} {xs : List Value}, FCells w S l xs → ∀ {i : Nat} {k : ByteArray} {j : JV}, l[i]? = some (k, j) →
    ∃ c, xs[i * 2]? = some (.string k) ∧ xs[i * 2 + 1]? = some c ∧ k.size ≤ maxLen ∧ IsVal w S j c
  | [], _, _, i, _, _, h => by simp at h
  | x :: r, _, hv, i, k, j, h => by
    obtain ⟨c, r', rfl, hz, hx, hr⟩ := hv
    cases i with
    | zero =>
      simp at h; subst h
      exact ⟨c, by simp, by simp, hz, hx⟩
    | succ i =>
      obtain ⟨c', h1, h2, h3, h4⟩ := hr.at_ (i := i) (by simpa using h)
      refine ⟨c', ?_, ?_, h3, h4⟩
      · rw [show (i + 1) * 2 = i * 2 + 1 + 1 by omega]; simpa using h1
      · rw [show (i + 1) * 2 + 1 = i * 2 + 1 + 1 + 1 by omega]; simpa using h2
end

/-- The fields of a key. -/
def flE (x : EV) : List (ByteArray × JV) := x.keys.zip (x.l.map plainJ)
theorem flE_length (x : EV) : (flE x).length = min x.keys.length x.l.length := by simp [flE]
theorem flE_at (x : EV) {i : Nat} {k : ByteArray} {y : GV} (h1 : x.keys[i]? = some k) (h2 : x.l[i]? = some y) : (flE x)[i]? = some (k, plainJ y) := by
  simp [flE, List.getElem?_zip_eq_some, h1, h2]

theorem Try.infoField : (Try.prog.info? 179).map (fun i => (i.zero, i.size, i.bytes)) = some (some (.agg #[.string ByteArray.empty, .nilIface]), 2, 32) := by kernel_rfl

set_option maxHeartbeats 1000000 in
set_option maxRecDepth 100000 in
theorem toKeys_any (x : EV) (w : World) (v : Value) (hv : IsE w (Btw 0 w.heap.size) x v) :
    Calls Try.prog 114 #[v] w fun e w' => ∃ A C xs, e = .returned (.slice A (flE x).length C) ∧ Below w.heap.size w w' ∧
      w'.ownsRow (w.heap.size + 1) 179 2 (.slice A (flE x).length C) (flE x).length xs ∧ FCells w' (fun b => Btw (w.heap.size + 1) w'.heap.size b ∧ (Value.slice A (flE x).length C).ownBlock ≠ some b) (flE x) xs := by
  obtain ⟨i0, hi, hz0, hz1, hz2⟩ := info_parts Try.infoField
  obtain ⟨kind, s, ks, l, y, n⟩ := x
  obtain ⟨ak, ck, a, c, c0, c1, c2, c3, c4, c5, rfl, _, _, _, hks, hlc, hl88, hl, hy⟩ := hv
  have hk16 : ks.length * 16 ≤ 140737488351232 := by obtain ⟨_, _, _, _, h, _⟩ := hks; exact h
  have hkz : ∀ k ∈ ks, k.size ≤ maxLen := by obtain ⟨_, _, _, _, _, h, _⟩ := hks; exact h
  obtain ⟨a0, d0, a1, d1, e⟩ := hy.form
  injection e with e
  injection e with e
  simp only [List.cons.injEq, and_true] at e
  obtain ⟨rfl, rfl, rfl, rfl, rfl, rfl⟩ := e
  simp only at hks hl hlc hl88 hk16 ⊢
  clear hy
  go_enter Try.func114, Try.ntmps114
  go_wp2_with fail
  have b0 := blk_alloc (new_block (w := w) (b := w.heap.size) (o := (.cells #[.int .i64 kind, .string s, .slice ak ks.length ck, .slice a l.length c, .int .i64 y.kind, .int .i64 y.n, .float .f64 y.f, .string y.s, .slice a0 y.keys.length d0, .slice a1 y.l.length d1, .int .i64 n] 33)) rfl) (.cells #[] 179)
  have hB0 := (((Below.refl w.heap.size w).alloc (Nat.le_refl _) (.cells #[.int .i64 kind, .string s, .slice ak ks.length ck, .slice a l.length c, .int .i64 y.kind, .int .i64 y.n, .float .f64 y.f, .string y.s, .slice a0 y.keys.length d0, .slice a1 y.l.length d1, .int .i64 n] 33)).alloc (by simp) (.cells #[] 179))
  have hown0 := World.ownsRow_made (w.alloc (.cells #[.int .i64 kind, .string s, .slice ak ks.length ck, .slice a l.length c, .int .i64 y.kind, .int .i64 y.n, .float .f64 y.f, .string y.s, .slice a0 y.keys.length d0, .slice a1 y.l.length d1, .int .i64 n] 33)) (base := w.heap.size + 1) (e := 179) (size := 2) #[] 0 (by simp) (by decide) rfl
  have hown0' : ((w.alloc (.cells #[.int .i64 kind, .string s, .slice ak ks.length ck, .slice a l.length c, .int .i64 y.kind, .int .i64 y.n, .float .f64 y.f, .string y.s, .slice a0 y.keys.length d0, .slice a1 y.l.length d1, .int .i64 n] 33)).alloc (.cells #[] 179)).ownsRow (w.heap.size + 1) 179 2 (.slice (some ⟨w.heap.size + 1, 0, none⟩) 0 0) 0 [] := by simpa using hown0
  clear hown0
  have hs0 : ((w.alloc (.cells #[.int .i64 kind, .string s, .slice ak ks.length ck, .slice a l.length c, .int .i64 y.kind, .int .i64 y.n, .float .f64 y.f, .string y.s, .slice a0 y.keys.length d0, .slice a1 y.l.length d1, .int .i64 n] 33)).alloc (.cells #[] 179)).heap.size = w.heap.size + 2 := by simp
  generalize (w.alloc (.cells #[.int .i64 kind, .string s, .slice ak ks.length ck, .slice a l.length c, .int .i64 y.kind, .int .i64 y.n, .float .f64 y.f, .string y.s, .slice a0 y.keys.length d0, .slice a1 y.l.length d1, .int .i64 n] 33)).alloc (.cells #[] 179) = w0 at *
  generalize hM : w.heap.size = M at *
  have HM := Lib.hid hM; clear hM
  go_loopw [3, 10] (fun out i wr => ∃ k m A C xs, k ≤ ks.length ∧ m = min k l.length ∧ i = .int .i64 (k : Nat) ∧ out = .slice A m C ∧ 
      wr.ownsRow (M + 1) 179 2 (.slice A m C) m xs ∧ FCells wr (fun b => Btw (M + 1) wr.heap.size b ∧ (Value.slice A m C).ownBlock ≠ some b) ((flE ⟨kind, s, ks, l, y, n⟩).take m) xs ∧ Below M w wr ∧ M + 2 ≤ wr.heap.size ∧
      wr.heap[M]? = some (.cells #[.int .i64 kind, .string s, .slice ak ks.length ck, .slice a l.length c, .int .i64 y.kind, .int .i64 y.n, .float .f64 y.f, .string y.s, .slice a0 y.keys.length d0, .slice a1 y.l.length d1, .int .i64 n] 33))
    (fun _ i _ => ks.length - (intOf i).toNat)
  case atStart => exact ⟨0, 0, _, _, [], Nat.zero_le _, by simp, rfl, rfl, hown0', by simp [FCells], hB0, by omega, b0⟩
  case round =>
    obtain ⟨k, m, A, C, xs, hk, hm, rfl, rfl, hown, hall, hB, hsz, hbox⟩ := hrel
    clear b0 hB0 hown0' hs0
    have s3 : wr.cell? ⟨M, 3, none⟩ = some (.slice a l.length c) := blk_c hbox 3 rfl
    by_cases hlt : k < ks.length
    · obtain ⟨key, hkey⟩ : ∃ key, ks[k]? = some key := ⟨ks[k], by simp [hlt]⟩
      obtain ⟨b0, o0, hb0, rfl, hck0⟩ := strs_at hks hkey
      have hck : wr.cell? ⟨b0, o0 + k, none⟩ = some (.string key) := (hB.cell (by exact hb0.2)).trans hck0
      have hksz : key.size ≤ maxLen := hkz key (List.mem_of_getElem? hkey)
      have HK := Lib.hid hkey
      have j0 : (0 : Int) ≤ (k : Int) := by omega
      have j1 : (k : Int) < (ks.length : Int) := by omega
      clear hkey hck0
      by_cases hll : k < l.length
      · obtain ⟨b, o, hb, rfl, hcells⟩ := vals_at hl (by omega)
        obtain ⟨x, hx⟩ : ∃ x, l[k]? = some x := ⟨l[k], by simp [hll]⟩
        obtain ⟨e0, f0, e1, f1, g0, g1, g2, g3, g4, g5, hxv⟩ := (IsVs.keep (S' := Btw 0 wr.heap.size) (Btw.kept hB) (Btw.mono (Nat.le_refl _) (by omega)) l b o hb hcells).cells hx
        obtain rfl : m = k := by omega
        have HX := Lib.hid hx
        have j2 : (m : Int) < (l.length : Int) := by omega
        clear hx hcells hl hm
        go_wp2_with (go_at_call 65; (with_reducible refine (toValue_any x _ _ hxv).mono ?_))
        rintro e w2 ⟨r, rfl, hB2, hr⟩
        obtain ⟨vb, vr, rfl, hvb, hvh, hvj⟩ := hr
        have hr : IsVal w2 (Btw wr.heap.size w2.heap.size) (plainJ x) (.iface 205 (.pointer (some ⟨vb, 0, none⟩))) := ⟨vb, vr, rfl, hvb, hvh, hvj⟩
        have hsz2 := hB2.size
        have hown2 := own_below hown hB2
        have hownL : ∀ b, (Value.slice A m C).ownBlock = some b → M + 1 ≤ b ∧ b < wr.heap.size := fun b e => hown.lt b e
        have hbox2 := blk_below hbox hB2
        have hall2 : FCells w2 (fun b => Btw (M + 1) w2.heap.size b ∧ (Value.slice A m C).ownBlock ≠ some b) ((flE ⟨kind, s, ks, l, y, n⟩).take m) xs :=
          hall.keep (fun b hb => hB2.block b hb.1.2) (fun b hb => ⟨⟨hb.1.1, by have := hb.1.2; omega⟩, hb.2⟩)
        have hBM : Below M w w2 := hB.trans (hB2.mono (by omega))
        have HH := Lib.hid (And.intro hall2 (And.intro hbox2 (And.intro hBM hr)))
        clear hr hvb hvh hvj hB2 hown hall hB hbox hall2 hbox2 hBM g0 g1 g2 g3 g4 g5 hxv s3 hck
        go_wp2_with (at_builtin; refine wpList_append_s _ rfl _ _ _ rfl (M + 1) 179 i0 _ 2 32 Try.underlying177 hi hz0 hz1 hz2 rfl (by decide) (.slice A m C) m xs rfl (hown2.alloc _) (w2.heap.size + 1) (some ⟨w2.heap.size, 0, none⟩) 1 1 [.string key, .iface 205 (.pointer (some ⟨vb, 0, none⟩))] rfl ?r1 ?r2 ?r3 ?r4 ?r5 ?_)
        case r1 => exact ⟨rfl, fun _ => ⟨_, rfl, Nat.lt_succ_self _, World.news_of_block (cs := #[.string key, .iface 205 (.pointer (some ⟨vb, 0, none⟩))]) (t := 179) (fr := (0, 0)) (heap_alloc_new w2 _)⟩⟩
        case r2 => intro u hu; simp at hu; rcases hu with rfl | rfl <;> rfl
        case r3 => unfold maxLen; omega
        case r4 => omega
        case r5 => simp; omega
        intro A3 C3 w3 hown3 hg3 hat3
        have hs3 : w2.heap.size + 1 ≤ w3.heap.size := by have := hg3.size; simpa using this
        obtain ⟨hall2, hbox2, hBM, hr⟩ := HH.out
        have hkeep : ∀ b, b < w2.heap.size → (Value.slice A m C).ownBlock ≠ some b → w3.heap[b]? = w2.heap[b]? := fun b h2 h3 =>
          (hg3.block b (by simp; omega) (fun e => h3 e.symm)).trans (Below.heap_alloc _ _ _ h2)
        have hnew : ∀ b, b < w2.heap.size → (Value.slice A m C).ownBlock ≠ some b → (Value.slice A3 (m + 1) C3).ownBlock ≠ some b := fun b h1 h2 h3 => by
          rcases hat3 with h | h
          · exact h2 (h.symm.trans h3)
          · rw [h3] at h
            simp at h
            omega
        have hall3 : FCells w3 (fun b => Btw (M + 1) w3.heap.size b ∧ (Value.slice A3 (m + 1) C3).ownBlock ≠ some b) ((flE ⟨kind, s, ks, l, y, n⟩).take (m + 1)) (xs ++ [.string key, .iface 205 (.pointer (some ⟨vb, 0, none⟩))]) := by
          rw [List.take_add_one, flE_at ⟨kind, s, ks, l, y, n⟩ HK.out HX.out]
          refine (hall2.keep (fun b hb => hkeep b hb.1.2 hb.2) (fun b hb => ⟨⟨hb.1.1, by have := hb.1.2; omega⟩, hnew b hb.1.2 hb.2⟩)).app (FCells.one hksz (hr.keep (fun b hb => hkeep b hb.2 (fun e => ?_)) (fun b hb => ⟨⟨by have := hb.1; omega, by have := hb.2; omega⟩, hnew b hb.2 (fun e => ?_)⟩)))
          · have h1 := hb.1
            have := (hownL b e).2
            omega
          · have h1 := hb.1
            have := (hownL b e).2
            omega
        have hB3 : Below M w w3 := (hBM.alloc (by omega) _).grown hg3 (by simp; omega) (own_ge hown2 (by omega))
        have hbox3 := blk_grown (blk_alloc hbox2 (.cells #[.string key, .iface 205 (.pointer (some ⟨vb, 0, none⟩))] 179)) hg3 (own_notin hown2 (by omega))
        clear hkeep hnew hat3 hg3 hown2 hall2 hbox2 hBM hr
        have HF := Lib.hid (And.intro hown3 (And.intro hall3 (And.intro hB3 hbox3)))
        clear hown3 hall3 hB3 hbox3
        go_wp2_with fail
        go_roundw
        case rel => exact ⟨m + 1, m + 1, A3, C3, _, hlt, by omega, by go_num, rfl, HF.out.1, HF.out.2.1, HF.out.2.2.1, by omega, HF.out.2.2.2⟩
        case measure => simp [intOf]; omega
      · have hge : l.length ≤ k := by omega
        have j2 : ¬ ((k : Int) < (l.length : Int)) := by omega
        go_wp2_with fail
        go_roundw
        case rel => exact ⟨k + 1, m, A, C, xs, hlt, by omega, by go_num, rfl, hown, hall, hB, hsz, hbox⟩
        case measure => simp [intOf]; omega
    · have hkl : k = ks.length := by omega
      subst hkl
      go_wp2_with fail
      go_ret
      have hml : (flE ⟨kind, s, ks, l, y, n⟩).length = m := by rw [flE_length]; exact hm.symm
      rw [HM.out, hml]
      rw [← hml, List.take_length, hml] at hall
      exact ⟨A, C, xs, rfl, hB, hown, hall⟩
end Go.Proofs.Ytlghpcokbppkfaa
