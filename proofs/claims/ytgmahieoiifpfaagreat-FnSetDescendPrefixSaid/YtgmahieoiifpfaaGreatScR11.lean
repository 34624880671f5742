/- Part 11 of what the proof rests on. -/
import Derived.Lib.Overlaps
import Derived.Lib.AppendZerosOnto
import Derived.Shelf.Spec.SlicesInsert
import Derived.Maps.AppendAt
import Derived.Deep.AppendLies
import Derived.Deep.Draws
import Derived.RegionTactic
import Derived.Deep.QuietTactic
import Derived.BigQuiet
import Derived.Test.YtgmahieoiifpfaaGreatScR1
import Derived.Test.YtgmahieoiifpfaaGreatScR4
import Derived.Test.YtgmahieoiifpfaaGreatScR5
import Derived.Test.YtgmahieoiifpfaaGreatScR6
import Derived.Test.YtgmahieoiifpfaaGreatScR8
import Derived.Test.YtgmahieoiifpfaaGreatScR9
import Derived.Test.YtgmahieoiifpfaaGreatScR10
set_option linter.unusedSimpArgs false
set_option linter.unusedVariables false
set_option maxHeartbeats 8000000
set_option maxRecDepth 100000
namespace Go.Proofs.YtgmahieoiifpfaaGreat
open Go.RowKit
theorem Tryz.infoPN : ∃ i, Tryz.prog.info? 224 = some i ∧ i.zero = some (.agg #[.pointer none, .pointer none, .pointer none, .pointer none, .pointer none]) ∧ i.size = 5 ∧ i.bytes = 40 := by
 have h : (Tryz.prog.info? 224).map (fun i => (i.zero, i.size, i.bytes)) = some (some (.agg #[.pointer none, .pointer none, .pointer none, .pointer none, .pointer none]), 5, 40) := by kernel_rfl
 cases hq : Tryz.prog.info? 224 with
 | none => rw [hq] at h; cases h
 | some i =>
  rw [hq] at h
  simp only [Option.map_some, Option.some.injEq, Prod.mk.injEq] at h
  exact ⟨i, rfl, h.1, h.2.1, h.2.2⟩
/-- At the end. -/
theorem Yen (w : World) (base : Nat) (v : Value) (g2 c2 len : Nat) (xs news : List Value) (hv : w.ownsRow base 224 5 v len xs) (hu : w.ownsRow base 224 5 (.slice (some ⟨g2, 0, none⟩) 1 c2) 1 news)
  (hb : (len + 1) * 40 ≤ 140737488351232) (hl : len + 1 ≤ 140737488351232) (hw : base ≤ w.heap.size) (h1 : ∀ c ∈ news, c.oneCell' = true) :
  Calls Tryz.prog 161 #[v, .int .i64 (len : Int), .slice (some ⟨g2, 0, none⟩) 1 c2] w fun e' w' => ∃ v', e' = .returned v' ∧ w'.ownsRow base 224 5 v' (len + 1) (xs ++ news) ∧ w.grownBy w' v.ownBlock ∧ (∀ b, Zdo v' = some b → w.heap.size ≤ b ∨ v.ownBlock = some b) := by
 obtain ⟨inf, hi, hz, hs, hy⟩ := Tryz.infoPN
 have hnews : news.length = 1 * 5 := hu.1
 have hlies : Lies w g2 0 news := fun j u hj => by
  have := hu.cells (g := g2) rfl j u hj
  rwa [Zb2] at this
 obtain ⟨v', w', hr, r1, r2, r3⟩ := Zfn (P := Tryz.prog) base 118 118 224 inf _ 5 40 Tryz.underlying118 hi hz hs hy rfl (by omega) hv (ad := some ⟨g2, 0, none⟩) (m := 1) (c := c2) hnews (.inr ⟨g2, 0, rfl, hlies⟩) h1 (by unfold maxLen; omega) (by omega) hw
 obtain ⟨a, c, rfl⟩ : ∃ a c, v = .slice a len c := by
  rcases hv.2 with ⟨rfl, rfl⟩ | ⟨g, cap, cur, rfl, _⟩
  ·exact ⟨_, _, rfl⟩
  ·exact ⟨_, _, rfl⟩
 have hc : len ≤ c := by
  rcases hv.2 with ⟨e, e2⟩ | ⟨g, cap, cur, e, _, _, h, _⟩
  ·omega
  ·injection e with _ _ e; omega
 rw [← Zma Tryz.underlying118 Tryz.underlying117] at hr
 have HR := Lib.hid (And.intro r1 (And.intro r2 r3))
 clear r1 r2 r3 hv hu hlies
 generalize (Value.slice a len c).ownBlock = ob at *
 go_enter Tryz.func161, Tryz.ntmps161
 go_wp2_with (at_builtin; refine Lib.wpList_append_run _ rfl _ _ _ _ rfl _ _ rfl rfl _ _ hr ?_)
 all_goals
  go_ret
  obtain ⟨r1, r2, r3⟩ := HR.out
  exact ⟨_, rfl, r1, r2, r3⟩
theorem ln1 {α : Type} (xs rest : List α) {p q r : Nat} (hp : p + 5 ≤ xs.length) (hq : p + 5 + r = xs.length + 5) (hq2 : q = p + 5 := by omega) : (xs ++ rest).take q ++ xs.drop p ++ (xs ++ rest).drop (q + r) = xs.take (p + 5) ++ xs.drop p ++ rest.drop 5 := by
 subst hq2
 have e : (xs ++ rest).drop (xs.length + 5) = rest.drop 5 := by
  rw [List.drop_append, List.drop_eq_nil_of_le (Nat.le_add_right _ _), List.nil_append, Nat.add_sub_cancel_left]
 rw [List.take_append_of_le_length hp, hq, e]
theorem ln2 {α : Type} (xs rest news : List α) {p : Nat} (hp : p + 5 ≤ xs.length) : (xs.take (p + 5) ++ xs.drop p ++ rest.drop 5).take p ++ news ++ (xs.take (p + 5) ++ xs.drop p ++ rest.drop 5).drop (p + 5) = xs.take p ++ news ++ xs.drop p ++ rest.drop 5 := by
 rw [List.append_assoc (xs.take (p + 5)), List.drop_left' (by simp; omega), List.take_append_of_le_length (by simp; omega), List.take_take, Nat.min_eq_left (by omega)]
 simp
/-- Ahead of others, where there is room. -/
theorem Ybl (w : World) (base g cap g2 c2 len i : Nat) (cur : Array Value) (xs rest news : List Value) (hbg : base ≤ g) (hg : w.heap[g]? = some (.cells cur 224 (0, 0))) (hcm : cap ≤ maxLen) (hcs : cur.size = cap * 5) (hcur : cur.toList = xs ++ rest) (hxs : xs.length = len * 5)
  (hu : w.ownsRow base 224 5 (.slice (some ⟨g2, 0, none⟩) 1 c2) 1 news) (hne : g2 ≠ g) (hi : i < len) (hroom : len + 1 ≤ cap)
  (hl : len + 1 ≤ 140737488351232) (h1x : ∀ c ∈ xs, c.oneCell' = true) (h1 : ∀ c ∈ news, c.oneCell' = true) :
  Calls Tryz.prog 161 #[.slice (some ⟨g, 0, none⟩) len cap, .int .i64 (i : Int), .slice (some ⟨g2, 0, none⟩) 1 c2] w fun e' w' => ∃ v', e' = .returned v' ∧ w'.ownsRow base 224 5 v' (len + 1) (xs.take (i * 5) ++ news ++ xs.drop (i * 5)) ∧ w.grownBy w' (some g) ∧ (∀ b, Zdo v' = some b → w.heap.size ≤ b ∨ (some g) = some b) := by
 obtain ⟨inf, hinf, hz, hs, hy⟩ := Tryz.infoPN
 have hsz : (Tryz.prog.info? 224).map (·.size) = some 5 := by rw [hinf]; simp [hs]
 have hrl : rest.length = (cap - len) * 5 := by
  have := congrArg List.length hcur
  simp only [Array.length_toList, List.length_append] at this
  omega
 have hnews : news.length = 5 := by have := hu.1; omega
 obtain ⟨cur2, hg2, hc2⟩ : ∃ cur2, w.heap[g2]? = some (.cells cur2 224 (0, 0)) ∧ cur2.toList.take 5 = news ∧ cur2.size ≠ 0 := by
  rcases hu.2 with ⟨e, _⟩ | ⟨g', cap', cur', e, _, h1, h2, h3, h4, h5⟩
  ·cases e
  ·injection e with e1 _ _
   injection e1 with e1
   injection e1 with e1
   subst e1
   exact ⟨cur', h1, h5, by omega⟩
 have hlies : ∀ j u, news[j]? = some u → w.cell? ⟨g2, j, none⟩ = some u := fun j u hj => by
  refine Zg8 hg2 ?_
  rw [← hc2.1] at hj
  rw [List.getElem?_take] at hj
  split at hj
  ·exact hj
  ·cases hj
 have hov : ∀ o lb cb, (callFunc 214 #[.slice (some ⟨g2, 0, none⟩) 1 c2, .slice (some ⟨g, o, none⟩) lb cb]).run Tryz.prog w = .ok (.value (.bool false)) w := fun o lb cb => by
  rw [run_callFunc_extern (fn := Tryz.f214) Tryz.func214 (by kernel_rfl) (by kernel_rfl) (by kernel_rfl) (e := Extern.SlicesOverlaps.overlaps #[117, 117] #[4]) (by kernel_rfl),
   Lib.run_overlaps_apart w 117 4 224 Tryz.underlying117 5 (fun w => by simp [sizeOf, typeInfo, hinf, hs]) ⟨g2, 0, none⟩ ⟨g, o, none⟩ 1 c2 lb cb hne 224 224 cur2.size cur.size (by simp [World.shape?, hg2]) (by simp [World.shape?, hg]) (by omega) (by simp [World.frozen?, hg2]) (by simp [World.frozen?, hg2])]
  rfl
 obtain ⟨curA, hA⟩ : ∃ c : Array Value, c = (xs.take (i * 5 + 5) ++ xs.drop (i * 5) ++ rest.drop 5).toArray := ⟨_, rfl⟩
 obtain ⟨curB, hB⟩ : ∃ c : Array Value, c = (xs.take (i * 5) ++ news ++ xs.drop (i * 5) ++ rest.drop 5).toArray := ⟨_, rfl⟩
 have hdl : (xs.drop (i * 5)).length = (len - i) * 5 := by rw [List.length_drop, hxs]; omega
 have hmin1 : Nat.min (len + 1 - i) (len - i) = len - i := by simp only [Nat.min_def]; split <;> omega
 have hmin2 : Nat.min 1 (len + 1 - i) = 1 := by simp only [Nat.min_def]; split <;> omega
 have hcp1 : ∀ ty dc sc, (Builtin.copy_ #[118, 118] ty #[.slice (some ⟨g, (i + 1) * 5, none⟩) (len - i) dc, .slice (some ⟨g, i * 5, none⟩) (len + 1 - i) sc]).run Tryz.prog w.drew = .ok (goInt ((len - i : Nat) : Int)) (w.drew.setRow g curA) := fun ty dc sc => by
  have := Zcj (P := Tryz.prog) (w := w.drew) 118 118 ty 224 5 g ((i + 1) * 5) (len - i) dc ⟨g, i * 5, none⟩ (len + 1 - i) sc cur 224 (xs.drop (i * 5)) Tryz.underlying118 hsz hg (by rw [hmin1, hdl])
   (fun j u hj => by
    rw [Zb2]
    refine Zg8 (w := w.drew) hg ?_
    rw [List.getElem?_drop] at hj
    rw [hcur, List.getElem?_append_left (List.getElem?_eq_some_iff.1 hj).1]
    exact hj) (by rw [hdl, hcs]; omega) (fun u hu => h1x u (List.mem_of_mem_drop hu))
  rw [hmin1] at this
  rw [this, hA, hcur, hdl]
  congr 3
  exact ln1 xs rest (p := i * 5) (r := (len - i) * 5) (by omega) (by omega) (by omega)
 have hgA : (w.drew.setRow g curA).heap[g]? = some (.cells curA 224 (0, 0)) := setRow_heap w.drew g cur curA 224 _ hg
 have hcp2 : ∀ (W : World), W.heap = (w.drew.setRow g curA).heap → ∀ ty dc, (Builtin.copy_ #[118, 117] ty #[.slice (some ⟨g, i * 5, none⟩) (len + 1 - i) dc, .slice (some ⟨g2, 0, none⟩) 1 c2]).run Tryz.prog W = .ok (goInt ((1 : Nat) : Int)) (W.setRow g curB) := fun W hW ty dc => by
  have := Zcj (P := Tryz.prog) (w := W) 118 117 ty 224 5 g (i * 5) (len + 1 - i) dc ⟨g2, 0, none⟩ 1 c2 curA 224 news Tryz.underlying118 hsz (by rw [hW]; exact hgA) (by rw [hmin2, hnews])
   (fun j u hj => by
    rw [Zb2, Nat.zero_add]
    rw [World.cell?_of_block (w := w) (a := ⟨g2, j, none⟩) (by rw [hW]; exact Zcu hne)]
    exact hlies j u hj) (by rw [hA, hnews]; simp [hxs, hdl, hrl]; omega) h1
  rw [hmin2] at this
  rw [this, hA, hB, hnews]
  congr 3
  exact ln2 xs rest news (by omega)
 have FIN : ((w.drew.setRow g curA).setRow g curB).ownsRow base 224 5 (.slice (some ⟨g, 0, none⟩) (len + 1) cap) (len + 1) (xs.take (i * 5) ++ news ++ xs.drop (i * 5)) ∧ w.grownBy ((w.drew.setRow g curA).setRow g curB) (some g) ∧ (∀ b, Zdo (.slice (some ⟨g, 0, none⟩) (len + 1) cap) = some b → w.heap.size ≤ b ∨ (some g) = some b) := by
  have hlen : (xs.take (i * 5) ++ news ++ xs.drop (i * 5)).length = (len + 1) * 5 := by simp only [List.length_append, List.length_take, List.length_drop, hxs, hnews]; omega
  refine ⟨⟨hlen, .inr ⟨g, cap, curB, rfl, hbg, setRow_heap (w.drew.setRow g curA) g curA curB _ _ hgA, hroom, hcm, ?_, ?_⟩⟩, ⟨rfl, rfl, rfl, by rw [Zd0, Zd0]; exact Nat.le_refl _, fun k _ hk => ?_⟩, fun b hb => .inr (by simpa [Zdo] using hb)⟩
  ·rw [hB, List.size_toArray, List.length_append, hlen, List.length_drop, hrl]; omega
  ·rw [hB]; exact List.take_left' hlen
  ·rw [Zcu (fun e => hk (by rw [e])), Zcu (fun e => hk (by rw [e]))]; rfl
 clear hA hB
 have mixed : Tryz.prog.follows Departure.mixedOrders = true := by kernel_rfl
 have hb2 : ¬ (cap = i + 1) := by omega
 have hb4 : ¬ (cap = i) := by omega
 have hin : i ≤ len := by omega
 have hb3 : (i : Int) ≤ (len : Int) + 1 := by omega
 have hw1 : IntKind.i64.wrap ((i : Int) + 1) = (i : Int) + 1 := by rw [IntKind.wrap_i64]; omega
 have htn : ((i : Int) + 1).toNat = i + 1 := by omega
 have hb1 : (0 : Int) ≤ (i : Int) + 1 := by omega
 go_enter Tryz.func161, Tryz.ntmps161
 go_wp2_with (simp only [hov])
 go_region_law_o (refine step_copy_runI rfl _ _ 118 118 rfl _ _ (by simp [Act.eval, Act.put]) (by simp [Act.eval, Act.put]) (hcp1 _ _ _) ?_)
 go_wp2_with (at_builtin; refine wpList_copy_runI _ rfl _ _ 118 117 rfl _ _ rfl rfl (hcp2 _ rfl _ _) ?_)
 go_ret
 exact ⟨_, rfl, FIN⟩
theorem ln3 {α : Type} (A Z news : List α) {p : Nat} (hA : A.length = p) : (A ++ Z).take p ++ news ++ (A ++ Z).drop (p + 5) = A ++ news ++ Z.drop 5 := by
 rw [List.take_left' hA, List.drop_append, List.drop_eq_nil_of_le (by omega : A.length ≤ p + 5), hA, List.nil_append, Nat.add_sub_cancel_left]
theorem ln4 {α : Type} (A Y D news : List α) {p r q : Nat} (hA : A.length = p) (hn : news.length = 5) (hq : q = p + 5) : (A ++ news ++ Y).take q ++ D ++ (A ++ news ++ Y).drop (q + r) = A ++ news ++ D ++ Y.drop r := by
 have h : (A ++ news).length = q := by rw [List.length_append, hA, hn, hq]
 have e : (A ++ news ++ Y).drop (q + r) = Y.drop r := by
  rw [List.drop_append, List.drop_eq_nil_of_le (by omega), h, List.nil_append, Nat.add_sub_cancel_left]
 rw [List.take_left' h, e]
/-- Ahead of others, where there is no room. -/
theorem Ybk (w : World) (base g cap g2 c2 len i : Nat) (cur : Array Value) (xs news : List Value) (hbw : base ≤ w.heap.size) (hg : w.heap[g]? = some (.cells cur 224 (0, 0))) (hcur : cur.toList.take (len * 5) = xs) (hxs : xs.length = len * 5)
  (hu : w.ownsRow base 224 5 (.slice (some ⟨g2, 0, none⟩) 1 c2) 1 news) (hi : i < len) (hle : len ≤ cap) (hroom : cap < len + 1)
  (hb : (len + 1) * 40 ≤ 140737488351232) (hl : len + 1 ≤ 140737488351232) (h1x : ∀ c ∈ xs, c.oneCell' = true) (h1 : ∀ c ∈ news, c.oneCell' = true) :
  Calls Tryz.prog 161 #[.slice (some ⟨g, 0, none⟩) len cap, .int .i64 (i : Int), .slice (some ⟨g2, 0, none⟩) 1 c2] w fun e' w' => ∃ v', e' = .returned v' ∧ w'.ownsRow base 224 5 v' (len + 1) (xs.take (i * 5) ++ news ++ xs.drop (i * 5)) ∧ w.grownBy w' (some g) ∧ (∀ b, Zdo v' = some b → w.heap.size ≤ b ∨ (some g) = some b) := by
 obtain ⟨inf, hinf, hz, hs, hy⟩ := Tryz.infoPN
 have hsz : (Tryz.prog.info? 224).map (·.size) = some 5 := by rw [hinf]; simp [hs]
 have hnews : news.length = 5 := by have := hu.1; omega
 obtain ⟨cur2, hg2, hc2⟩ : ∃ cur2, w.heap[g2]? = some (.cells cur2 224 (0, 0)) ∧ cur2.toList.take 5 = news := by
  rcases hu.2 with ⟨e, _⟩ | ⟨g', cap', cur', e, _, h1, h2, h3, h4, h5⟩
  ·cases e
  ·injection e with e1 _ _
   injection e1 with e1
   injection e1 with e1
   subst e1
   exact ⟨cur', h1, h5⟩
 have hlies : ∀ j u, news[j]? = some u → w.cell? ⟨g2, j, none⟩ = some u := fun j u hj => by
  refine Zg8 hg2 ?_
  rw [← hc2, List.getElem?_take] at hj
  split at hj
  ·exact hj
  ·cases hj
 have hliex : ∀ j u, xs[j]? = some u → w.cell? ⟨g, j, none⟩ = some u := fun j u hj => by
  refine Zg8 hg ?_
  rw [← hcur, List.getElem?_take] at hj
  split at hj
  ·exact hj
  ·cases hj
 have hgw : g < w.heap.size := (Array.getElem?_eq_some_iff.1 hg).1
 have hg2w : g2 < w.heap.size := (Array.getElem?_eq_some_iff.1 hg2).1
 obtain ⟨G, hG⟩ : ∃ G, G = grownCap w (len + 1) cap 224 := ⟨_, rfl⟩
 have hGn : len + 1 ≤ G := by rw [hG]; exact grownCap_ge w _ _ _
 have hGm : G ≤ maxLen := by rw [hG]; exact grownCap_le_maxLen w _ _ _ (by unfold maxLen; omega)
 obtain ⟨ROW, hROW⟩ : ∃ ROW : Array Value, ROW = (xs.take (i * 5)).toArray ++ Builtin.zeroCells (Value.agg #[.pointer none, .pointer none, .pointer none, .pointer none, .pointer none]).cells (len + 1 - i) ++ Builtin.zeroCells (Value.agg #[.pointer none, .pointer none, .pointer none, .pointer none, .pointer none]).cells (G - (len + 1)) := ⟨_, rfl⟩
 obtain ⟨Z, hZ, hZl⟩ : ∃ Z : List Value, ROW.toList = xs.take (i * 5) ++ Z ∧ Z.length = (G - i) * 5 := by
  refine ⟨(Builtin.zeroCells (Value.agg #[.pointer none, .pointer none, .pointer none, .pointer none, .pointer none]).cells (len + 1 - i)).toList ++ (Builtin.zeroCells (Value.agg #[.pointer none, .pointer none, .pointer none, .pointer none, .pointer none]).cells (G - (len + 1))).toList, by rw [hROW]; simp, ?_⟩
  rw [List.length_append, Array.length_toList, Array.length_toList, size_zeroCells, size_zeroCells]
  simp only [Value.cells, List.size_toArray, List.length_cons, List.length_nil]
  omega
 have htl : (xs.take (i * 5)).length = i * 5 := by rw [List.length_take, hxs]; omega
 have hdl : (xs.drop (i * 5)).length = (len - i) * 5 := by rw [List.length_drop, hxs]; omega
 have hRs : ROW.size = G * 5 := by rw [← Array.length_toList, hZ, List.length_append, htl, hZl]; omega
 have hold : (Builtin.firstCells inf.size i (.slice (some ⟨g, 0, none⟩) i cap)).run Tryz.prog w.drew = .ok (xs.take (i * 5)).toArray w.drew := by
  rw [hs]
  exact run_firstCells_some w.drew 5 i ⟨g, 0, none⟩ i cap (xs.take (i * 5)) htl (fun j v hj => by
   rw [Zb2, Nat.zero_add]
   rw [List.getElem?_take] at hj
   split at hj
   ·exact hliex j v hj
   ·cases hj)
 have hrz : ∀ ty, (Builtin.append_ #[118, 3] ty #[.slice (some ⟨g, 0, none⟩) i cap, .int .i64 ((len : Int) + 1 - (i : Int))]).run Tryz.prog w = .ok (.slice (some ⟨w.heap.size, 0, none⟩) (len + 1) G) (w.drew.alloc (.cells ROW 224)) := fun ty => by
  have h := Lib.run_append_grow_zeros (P := Tryz.prog) w 118 3 ty 224 inf _ .i64 .i64 Tryz.underlying118 Tryz.underlying3 hinf hz (some ⟨g, 0, none⟩) i cap (xs.take (i * 5)) hold (len + 1 - i) (by omega) (by omega) (by omega) (by omega) (by rw [hy]; omega) (by rw [hy, show i + (len + 1 - i) = len + 1 by omega]; exact growslice_fits hroom (by omega))
  rw [show i + (len + 1 - i) = len + 1 by omega, ← hG] at h
  rw [show ((len : Int) + 1 - (i : Int)) = ((len + 1 - i : Nat) : Int) by omega, h, hROW]
 obtain ⟨curB, hB⟩ : ∃ c : Array Value, c = (xs.take (i * 5) ++ news ++ Z.drop 5).toArray := ⟨_, rfl⟩
 obtain ⟨curC, hC⟩ : ∃ c : Array Value, c = (xs.take (i * 5) ++ news ++ xs.drop (i * 5) ++ (Z.drop 5).drop ((len - i) * 5)).toArray := ⟨_, rfl⟩
 have hN1 : (w.alloc (.cells ROW 224)).heap[w.heap.size]? = some (.cells ROW 224 (0, 0)) := heap_alloc_new w _
 have hNB : ((w.alloc (.cells ROW 224)).setRow w.heap.size curB).heap[w.heap.size]? = some (.cells curB 224 (0, 0)) := setRow_heap _ _ ROW curB 224 _ hN1
 have hNC : (((w.alloc (.cells ROW 224)).setRow w.heap.size curB).setRow w.heap.size curC).heap[w.heap.size]? = some (.cells curC 224 (0, 0)) := setRow_heap _ _ curB curC 224 _ hNB
 have hold1 : ∀ b, b < w.heap.size → (w.alloc (.cells ROW 224)).heap[b]? = w.heap[b]? := fun b h => Below.heap_alloc _ _ _ h
 have hmin1 : Nat.min (len - i) (len + 1 - (i + 1)) = len - i := by simp only [Nat.min_def]; split <;> omega
 have hmin2 : Nat.min 1 (len + 1 - i) = 1 := by simp only [Nat.min_def]; split <;> omega
 have hcpA : ∀ (W : World), W.heap = (w.alloc (.cells ROW 224)).heap → ∀ ty dc, (Builtin.copy_ #[118, 117] ty #[.slice (some ⟨w.heap.size, i * 5, none⟩) (len + 1 - i) dc, .slice (some ⟨g2, 0, none⟩) 1 c2]).run Tryz.prog W = .ok (goInt ((1 : Nat) : Int)) (W.setRow w.heap.size curB) := fun W hW ty dc => by
  have := Zcj (P := Tryz.prog) (w := W) 118 117 ty 224 5 w.heap.size (i * 5) (len + 1 - i) dc ⟨g2, 0, none⟩ 1 c2 ROW 224 news Tryz.underlying118 hsz (by rw [hW]; exact hN1) (by rw [hmin2, hnews])
   (fun j u hj => by
    rw [Zb2, Nat.zero_add]
    rw [World.cell?_of_block (w := w) (a := ⟨g2, j, none⟩) (by rw [hW]; exact hold1 _ hg2w)]
    exact hlies j u hj) (by rw [hRs, hnews]; omega) h1
  rw [hmin2] at this
  rw [this, hB, hnews, hZ]
  congr 3
  exact ln3 _ _ _ htl
 have hcpB : ∀ (W : World), W.heap = ((w.alloc (.cells ROW 224)).setRow w.heap.size curB).heap → ∀ ty dc sc, (Builtin.copy_ #[118, 118] ty #[.slice (some ⟨w.heap.size, (i + 1) * 5, none⟩) (len - i) dc, .slice (some ⟨g, i * 5, none⟩) (len - i) sc]).run Tryz.prog W = .ok (goInt ((len - i : Nat) : Int)) (W.setRow w.heap.size curC) := fun W hW ty dc sc => by
  have hm : Nat.min (len - i) (len - i) = len - i := by simp only [Nat.min_def]; split <;> omega
  have := Zcj (P := Tryz.prog) (w := W) 118 118 ty 224 5 w.heap.size ((i + 1) * 5) (len - i) dc ⟨g, i * 5, none⟩ (len - i) sc curB 224 (xs.drop (i * 5)) Tryz.underlying118 hsz (by rw [hW]; exact hNB) (by rw [hm, hdl])
   (fun j u hj => by
    rw [Zb2]
    rw [World.cell?_of_block (w := w) (a := ⟨g, i * 5 + j, none⟩) (by rw [hW]; exact (Zcu (show g ≠ w.heap.size from Nat.ne_of_lt hgw)).trans (hold1 _ hgw))]
    rw [List.getElem?_drop] at hj
    exact hliex _ u hj) (by rw [hB, List.size_toArray, hdl]; simp only [List.length_append, htl, hnews, List.length_drop, hZl]; omega) (fun u hu => h1x u (List.mem_of_mem_drop hu))
  rw [hm] at this
  rw [this, hC, hB, hdl]
  congr 3
  exact ln4 _ _ _ _ htl hnews (by omega)
 have FIN : ∀ W : World, W.os = w.os → W.tape = w.tape → W.output = w.output → W.heap = (((w.alloc (.cells ROW 224)).setRow w.heap.size curB).setRow w.heap.size curC).heap → W.ownsRow base 224 5 (.slice (some ⟨w.heap.size, 0, none⟩) (len + 1) G) (len + 1) (xs.take (i * 5) ++ news ++ xs.drop (i * 5)) ∧ w.grownBy W (some g) ∧ (∀ b, Zdo (.slice (some ⟨w.heap.size, 0, none⟩) (len + 1) G) = some b → w.heap.size ≤ b ∨ (some g) = some b) := by
  intro W e1 e2 e3 e4
  have hlen : (xs.take (i * 5) ++ news ++ xs.drop (i * 5)).length = (len + 1) * 5 := by simp only [List.length_append, htl, hdl, hnews]; omega
  refine ⟨⟨hlen, .inr ⟨w.heap.size, G, curC, rfl, hbw, by rw [e4]; exact hNC, hGn, hGm, ?_, ?_⟩⟩, ⟨e1, e2, e3, by rw [e4, Zd0, Zd0]; simp, fun k hk _ => ?_⟩, fun b hb => .inl (Nat.le_of_eq (by simpa [Zdo] using hb))⟩
  ·rw [hC, List.size_toArray, List.length_append, hlen, List.length_drop, List.length_drop, hZl]; omega
  ·rw [hC]; exact List.take_left' hlen
  ·rw [e4, Zcu (by omega), Zcu (by omega)]; exact hold1 _ hk
 clear hB hC hNB hNC hN1 hold1 hold hRs hZ hZl hROW hG hlies hliex hg hg2 hu hcur
 have mixed : Tryz.prog.follows Departure.mixedOrders = true := by kernel_rfl
 have hb2 : ¬ (cap = i + 1) ∨ cap = i + 1 := by omega
 have hb4 : ¬ (cap = i) := by omega
 have hb5 : ¬ (G = i) := by omega
 have hb6 : ¬ (G = i + 1) := by omega
 have hin : i ≤ len := by omega
 have hz3 : (cap : Int) < (len : Int) + 1 := by omega
 have hb3 : (i : Int) ≤ (len : Int) + 1 := by omega
 have hb7 : (i : Int) ≤ (len : Int) := by omega
 have hw1 : IntKind.i64.wrap ((i : Int) + 1) = (i : Int) + 1 := by rw [IntKind.wrap_i64]; omega
 have htn : ((i : Int) + 1).toNat = i + 1 := by omega
 have hb1 : (0 : Int) ≤ (i : Int) + 1 := by omega
 have hcpA' := hcpA (w.alloc (.cells ROW 224)).drew rfl
 have hcpB' := hcpB ((w.alloc (.cells ROW 224)).drew.setRow w.heap.size curB).drew rfl
 clear hb2 hcpA hcpB
 go_enter Tryz.func161, Tryz.ntmps161
 go_wp2_with (at_builtin; refine Lib.wpList_append_run _ rfl _ _ _ _ rfl _ _ rfl rfl _ _ (hrz _) ?_)
 go_region
 go_wp2
 go_ret
 exact ⟨_, rfl, FIN _ rfl rfl rfl rfl⟩
instance : Ysr Tryz.prog 161 224 5 40 := ⟨by kernel_rfl, fun w base v u len i xs news hv hu hap hi hb hl hw h1x h1 => by
 obtain ⟨g2, c2, rfl⟩ : ∃ g2 c2, u = .slice (some ⟨g2, 0, none⟩) 1 c2 := by
  rcases hu.2 with ⟨_, e⟩ | ⟨g', cap', cur', e, _⟩
  ·omega
  ·exact ⟨_, _, e⟩
 by_cases he : i = len
 ·subst he
  rw [List.take_of_length_le (by rw [hv.1]; exact Nat.le_refl _), List.drop_eq_nil_of_le (by rw [hv.1]; exact Nat.le_refl _), List.append_nil]
  exact Yen w base v g2 c2 i xs news hv hu hb hl hw h1
 ·rcases hv.2 with ⟨_, e⟩ | ⟨g, cap, cur, rfl, hbg, hg, hnc, hcm, hcs, hcur⟩
  ·omega
  ·have hne : g2 ≠ g := fun e => hap g rfl (by rw [e]; rfl)
   by_cases hroom : len + 1 ≤ cap
   ·exact Ybl w base g cap g2 c2 len i cur xs (cur.toList.drop (len * 5)) news hbg hg hcm hcs (by rw [← hcur, List.take_append_drop]) hv.1 hu hne (by omega) hroom hl h1x h1
   ·exact Ybk w base g cap g2 c2 len i cur xs news hw hg hcur hv.1 hu (by omega) hnc (by omega) hb hl h1x h1⟩
theorem Yeq (v : Value) (l : List PEV) (p : PEV) (hl : ∀ x ∈ l, OPE x) (hp : OPE p) (hs : Srt Zaf l) (hb : (l.length + 1) * 32 ≤ 140737488351232) :
  Zbv Tryz.prog 162 [.ptr 1000 0, .dat (Za4 p)] [(1000, .box 122 [.own 1001, .dat (.val v)]), (1001, .row 99 4 32 (l.map Za4))] (.dat (.tup []))
   [(1000, .box 122 [.own 0, .dat (.val v)]), (0, .row 99 4 32 ((Zdj Zaf l p).map Za4)), (1001, .dead)] := by
 have c := Zwi l p hl hp hs
 have n1 : (l.map Za4).length = l.length := by simp
 have hle := Zit (c := Zaf) l p
 rw [Zta]
 obtain ⟨u0, u1, u2, u3, e⟩ := Zc2 p
 cases hf : Ze9 Zaf l p with
 | true =>
  rw [hf] at c
  rw [e] at c ⊢
  rw [if_pos rfl]
  generalize l.map Za4 = da at *
  refine Zar Tryz.func162 rfl Tryz.ntmps162 rfl (fun X => ?_)
  refine wk ?_
  refine Zcl (Zlo gV rfl (by kernel_rfl) rfl c Flat.tup2) ?_
  refine wk ?_
  refine Za3 () (fun j => if j = 0 then 1001 else j) (tm := []) ?_ (Zda rfl)
  exact sb
 | false =>
  rw [hf] at c
  rw [if_neg (by simp), List.map_append, List.map_cons, List.map_take, List.map_drop]
  rw [e] at c ⊢
  generalize l.map Za4 = da at *
  generalize Zbe Zaf l p = loc at *
  have q0 : loc ≤ da.length := by omega
  have q1 : (da.length + 1) * 32 ≤ 140737488351232 := by omega
  have q2 : da.length + 1 ≤ 140737488351232 := by omega
  refine Zar Tryz.func162 rfl Tryz.ntmps162 rfl (fun X => ?_)
  refine wk ?_
  refine Zcl (Zlo gV rfl (by kernel_rfl) rfl c Flat.tup2) ?_
  refine wk ?_
  refine Zcl (Zyp rfl rfl rfl rfl rfl rfl rfl rfl (by assumption) (by assumption) (by assumption)) ?_
  refine wk ?_
  refine Zfo () (fun j => if j = 0 then 24 else j) (tm := []) ?_ (Zda rfl)
  exact sb
theorem Ymw (v : Value) (m : List (PEV × PD)) (p : PEV) (hl : ∀ x ∈ m.map (·.1), OPE x) (hp : OPE p) (hs : Srt Zaf (m.map (·.1))) {b : Nat} {k : PEV} (hf : Ze9 Zaf (m.map (·.1)) p = true) (hx : m[Zbe Zaf (m.map (·.1)) p]? = some (k, .val (adr b))) :
  Zbv Tryz.prog 96 [.ptr 1000 1, .dat (Za4 p)] [(1000, .box 122 [.dat (.val v), .own 1001]), (1001, .row 224 5 40 (m.map dN))] (.dat (.val (adr b)))
   [(1000, .box 122 [.dat (.val v), .own 1001]), (1001, .row 224 5 40 (m.map dN))] := by
 have c := Zmb m p hl hp hs
 obtain ⟨u0, u1, u2, u3, e⟩ := Zc2 p
 obtain ⟨d0, d1, d2, d3, e1⟩ := Ze5 k
 have i1 : (m.map dN)[Zbe Zaf (m.map (·.1)) p]? = some (.agg [d0, d1, d2, d3, .val (adr b)]) := by
  rw [List.getElem?_map, hx]; show some (dN _) = _; unfold dN; rw [e1]; rfl
 have i2 : Zbe Zaf (m.map (·.1)) p < (m.map dN).length := (List.getElem?_eq_some_iff.1 i1).1
 rw [hf] at c
 rw [e] at c ⊢
 clear hx
 generalize m.map dN = da at *
 generalize Zbe Zaf (m.map (·.1)) p = loc at *
 refine Zar Tryz.func96 rfl Tryz.ntmps96 rfl (fun X => ?_)
 refine wk ?_
 refine Zcl (Zlo gV rfl (by kernel_rfl) rfl c Flat.tup2) ?_
 refine wk ?_
 refine Za3 () id (tm := [(4, .dat (.val (adr b)))]) ?_ (Zbc rfl rfl)
 exact sb
theorem Ymy (v : Value) (m : List (PEV × PD)) (p : PEV) (hl : ∀ x ∈ m.map (·.1), OPE x) (hp : OPE p) (hs : Srt Zaf (m.map (·.1))) (hb : (m.length + 1) * 40 ≤ 140737488351232) (hf : Ze9 Zaf (m.map (·.1)) p = false) :
  Zif Tryz.prog 96 [.ptr 1000 1, .dat (Za4 p)] [(1000, .box 122 [.dat (.val v), .own 1001]), (1001, .row 224 5 40 (m.map dN))] (ι := Nat) (fun b => .dat (.val (adr b)))
   (fun b => [(1000, .box 122 [.dat (.val v), .own 0]), (0, .row 224 5 40 ((m.take (Zbe Zaf (m.map (·.1)) p) ++ (p, .val (adr b)) :: m.drop (Zbe Zaf (m.map (·.1)) p)).map dN)), (1001, .dead), (1, .res (Zbr b (.mk [] [])))]) := by
 have c := Zmb m p hl hp hs
 have n1 : (m.map dN).length = m.length := by simp
 have hle := Zit (c := Zaf) (m.map (·.1)) p
 rw [List.length_map] at hle
 obtain ⟨u0, u1, u2, u3, e⟩ := Ze5 p
 have hd : ∀ b, (m.take (Zbe Zaf (m.map (·.1)) p) ++ (p, PD.val (adr b)) :: m.drop (Zbe Zaf (m.map (·.1)) p)).map dN = (m.map dN).take (Zbe Zaf (m.map (·.1)) p) ++ .agg [u0, u1, u2, u3, .val (adr b)] :: (m.map dN).drop (Zbe Zaf (m.map (·.1)) p) := fun b => by
  rw [List.map_append, List.map_cons, List.map_take, List.map_drop]
  congr 2
  unfold dN
  simp only [e]
  rfl
 simp only [hd]
 rw [hf] at c
 rw [Zqd, e] at c ⊢
 clear hd
 generalize m.map dN = da at *
 generalize Zbe Zaf (m.map (·.1)) p = loc at *
 have q0 : loc ≤ da.length := by omega
 have q1 : (da.length + 1) * 40 ≤ 140737488351232 := by omega
 have q2 : da.length + 1 ≤ 140737488351232 := by omega
 refine Zar Tryz.func96 rfl Tryz.ntmps96 rfl (fun X => ?_)
 refine wk ?_
 refine Zcl (Zlo gV rfl (by kernel_rfl) rfl c Flat.tup2) ?_
 have nd : Zia := ⟨trivial⟩
 refine wk ?_
 clear nd
 refine Ygn 8 [none, none, none, some (Eff.put (some 37) (.ptr 1000 1)), some (Eff.put (some 38) (.ptr 1000 1)), none] 0 (fun b : Nat => Eff.new 33 (.res (Zbr b (.mk [] []))) (.dat (.val (adr b)))) (by kernel_rfl) rfl ?_
 simp only [List.take_succ_cons, List.take_zero, List.drop_succ_cons, List.drop_zero, Nat.reduceAdd]
 refine wk ?_
 refine Zmu ⟨Ylm (fun b => .dat (.val (adr b))) (fun b w F tb ρ _ _ => by unfold VR Rep; exact ⟨rfl, trivial⟩) rfl rfl rfl, fun b => ?_⟩
 refine wk ?_
 refine Zcl (Zyp rfl rfl rfl rfl rfl rfl rfl rfl (by assumption) (by assumption) (by assumption)) ?_
 refine wk ?_
 refine ⟨⟨by kernel_rfl, by kernel_rfl, by kernel_rfl, rfl, rfl, by kernel_rfl, rfl⟩, ?_⟩
 have i1 : (da.take loc ++ .agg [u0, u1, u2, u3, .val (adr b)] :: da.drop loc)[loc]? = some (.agg [u0, u1, u2, u3, .val (adr b)]) := by
  have h0 : (da.take loc).length = loc := by rw [List.length_take]; omega
  rw [List.getElem?_append_right (by omega), h0, Nat.sub_self]; rfl
 have i2 := (List.getElem?_eq_some_iff.1 i1).1
 refine wk ?_
 refine Za3 b (thk [(0, 36), (1, 33)] 0) (tm := [(4, .dat (.val (adr b)))]) ?_ (Zbc rfl rfl)
 exact sb
section
variable {X : Base} {ρ ρ1 ρ' : Nat → RV} {tbl tbl1 tbl' : List (Nat × Blk)} {w' : World} {L1 : Nat → Prop} {rv : Nat → Value}
def Base.part (X : Base) (L1 : Nat → Prop) (h : ∀ b, L1 b → X.L b) (rv : Nat → Value) : Base := { X with L := L1, rv := rv, hLB := fun b hb => X.hLB b (h b hb) }
theorem Zr4 (hL : ∀ b, X.L b ↔ ∃ k, Za6 (lkB tbl k) = true ∧ (ρ k).fp b) (hFL : ∀ b, X.F0 b → ¬ X.L b) (h : ∀ b, L1 b → X.L b) (hfp : ∀ k b, Za6 (lkB tbl1 k) = true → (ρ1 k).fp b → L1 b) : ∀ b, FF X X.w0 (lkB tbl) ρ b → FF (X.part L1 h rv) X.w0 (lkB tbl1) ρ1 b := fun b hb => by
 have h0 : X.F0 b := by
  rcases hb.1 with h | h | h
  ·exact h
  ·have := hb.2.1; omega
  ·obtain ⟨k, h1, h2⟩ := (hL b).1 h
   exact absurd h2 (hb.2.2 k h1)
 exact ⟨.inl h0, hb.2.1, fun k hk e => hFL b h0 (h b (hfp k b hk e))⟩
theorem Zy7 (hFL : ∀ b, X.F0 b → ¬ X.L b) (hLs : ∀ b, X.L b → b < X.w0.heap.size) (h : ∀ b, L1 b → X.L b) (hfp : ∀ k x, Za6 (lkB tbl' k) = true → (ρ' k).fp x → (∃ j, Za6 (lkB tbl1 j) = true ∧ (ρ1 j).fp x) ∨ (X.L x ∧ ¬ L1 x)) : ∀ b, FF (X.part L1 h rv) w' (lkB tbl1) ρ1 b → FF X w' (lkB tbl') ρ' b := fun b hb => by
 refine ⟨hb.1.imp id fun h0 => h0.imp id (h b), hb.2.1, fun k hk e => ?_⟩
 rcases hfp k b hk e with ⟨j, h1, h2⟩ | ⟨h1, h2⟩
 ·exact hb.2.2 j h1 h2
 ·rcases hb.1 with h3 | h3 | h3
  ·exact hFL b h3 h1
  ·have := hLs b h1
   have h3 : X.w0.heap.size ≤ b := h3
   omega
  ·exact h2 h3
theorem Zmy {h : ∀ b, L1 b → X.L b} (hb : Bel (X.part L1 h rv) w') : Bel X w' := ⟨hb.os, hb.tape, hb.output, hb.size, fun b h1 h2 => hb.block b h1 fun h3 => h2 (h b h3)⟩
end
theorem Zk2 {w : World} {base base' e n : Nat} {v : Value} {len : Nat} {xs : List Value} (h : w.ownsRow base e n v len xs) (hb : ∀ b, v.ownBlock = some b → base' ≤ b) : w.ownsRow base' e n v len xs := by
 refine ⟨h.1, h.2.imp id ?_⟩
 rintro ⟨g, cap, cur, e1, _, r⟩
 exact ⟨g, cap, cur, e1, hb g (by rw [e1]; rfl), r⟩
theorem Zet {w : World} {base e n : Nat} {v : Value} {len : Nat} {xs : List Value} (h : w.ownsRow base e n v len xs) {b : Nat} : Zdo v = some b ↔ v.ownBlock = some b := by
 rcases h.2 with ⟨e1, e2⟩ | ⟨g, cap, cur, e1, _⟩ <;> rw [e1] <;> exact Iff.rfl
theorem Ylv {w : World} {base e n : Nat} {v : Value} {len : Nat} {xs : List Value} (h : w.ownsRow base e n v len xs) {b : Nat} (hb : v.ownBlock = some b) : b < w.heap.size := by
 rcases h.2 with ⟨e1, e2⟩ | ⟨g, cap, cur, e1, _, hg, _⟩
 ·rw [e1] at hb; cases hb
 ·rw [e1] at hb
  have : g = b := by simpa [Value.ownBlock] using hb
  subst this
  exact (Array.getElem?_eq_some_iff.1 hg).1
theorem Zch {l : List (Nat × Blk)} {k : Nat} (h : Za6 (lkB l k) = true) : ∃ x, (k, x) ∈ l ∧ x.live = true := by
 obtain ⟨x, h1, h2⟩ := Zbd h
 exact ⟨x, Zfh h1, h2⟩
theorem Zjn {w : World} {F : Nat → Prop} {tb : Nat → Option Blk} {ρ : Nat → RV} {x y : AV} {vs : List Value} (h : VRs w F tb ρ [x, y] vs) : ∃ v u, vs = [v, u] ∧ VR w F tb ρ x v ∧ VR w F tb ρ y u := by
 unfold VRs at h
 obtain ⟨v, r, rfl, h1, h⟩ := h
 unfold VRs at h
 obtain ⟨u, r, rfl, h2, h⟩ := h
 unfold VRs at h
 subst h
 exact ⟨v, u, rfl, h1, h2⟩
/-- (*PathElementSet).Insert at the members of a set. -/
theorem Yju (b : Nat) (m : List PEV) (ch : List (PEV × ST PEV)) (p : PEV) (hl : ∀ x ∈ m, OPE x) (hp : OPE p) (hs : Srt Zaf m) (hb : (m.length + 1) * 32 ≤ 140737488351232) :
  Zbv Tryz.prog 162 [.elt 1000 2 0 0, .dat (Za4 p)] [(1000, .res (Zbr b (.mk m ch)))] (.dat (.tup [])) [(1000, .res (Zbr b (.mk (Zdj Zaf m p) ch)))] := by
 intro X ρ vs hP hL hFL hlie hvs
 have hk : lkB [(1000, Blk.res (Zbr b (.mk m ch)))] 1000 = some (.res (Zbr b (.mk m ch))) := rfl
 obtain ⟨⟨hv0, ht⟩, hmay⟩ := hlie.blks 1000 _ hk
 obtain ⟨v1, v2, rfl, g1, g2⟩ := Zjn hvs
 unfold TreeAt at ht
 obtain ⟨sm, sc, bs, Ok, t1, ⟨xs, a1, a2, a3, a4⟩, ⟨ys, c1, c2, c3, c4⟩, t4, t5, t6, t7, t8, t9, t10, t11⟩ := ht
 have hLO : ∀ x, (ρ 1000).fp x → X.L x := fun x hx => (hL x).2 ⟨1000, rfl, hx⟩
 have hLs : ∀ x, X.L x → x < X.w0.heap.size := fun x hx => by
  obtain ⟨k, h1, h2⟩ := (hL x).1 hx
  obtain ⟨y, hy, hyl⟩ := Zbd h1
  have : k = 1000 := by
   unfold lkB at hy
   split at hy
   ·assumption
   ·simp [lkB] at hy
  subst this
  exact (hmay x h2).2
 have hv1 : v1 = .pointer (some ⟨b, 0, none⟩) := by
  unfold VR at g1
  obtain ⟨_, ⟨x, _, _, g, len, c, e1, e2⟩ | h⟩ := g1
  ·rw [hv0] at e1
   unfold slS at e1
   injection e1 with e1 _ _
   injection e1 with e1
   injection e1 with e1
   rw [e2, ← e1]
  ·cases h
 let L1 : Nat → Prop := fun x => x = b ∨ sm.ownBlock = some x
 have hL1 : ∀ x, L1 x → X.L x := fun x hx => hLO x ((t5 x).2 (hx.imp id .inl))
 let ρ1 : Nat → RV := fun k => if k = 1000 then RV.of (.pointer (some ⟨b, 0, none⟩)) else RV.of sm
 let rv1 : Nat → Value := fun k => (ρ1 k).v
 have c := Yeq sc m p hl hp hs hb
 have hfp1 : ∀ k x, Za6 (lkB [(1000, .box 122 [.own 1001, .dat (.val sc)]), (1001, .row 99 4 32 (m.map Za4))] k) = true → (ρ1 k).fp x → L1 x := by
  intro k x h1 h2
  simp only [ρ1] at h2
  split at h2
  ·left
   have h2 : some b = some x := h2
   exact (Option.some.inj h2).symm
  ·right
   exact (Zet a1).1 h2
 have hFs := Zr4 (rv := rv1) hL hFL hL1 hfp1
 refine (c (X.part L1 hL1 rv1) ρ1 [v1, v2] hP (fun x => ⟨fun hx => ?_, fun ⟨k, h1, h2⟩ => hfp1 k x h1 h2⟩) (fun x h1 h2 => hFL x h1 (hL1 x h2)) ⟨fun k x hx => ?_, fun k k' x h1 h2 e1 e2 => ?_, fun k _ _ => rfl⟩ ?_).mono ?_
 ·rcases hx with rfl | hx
  ·exact ⟨1000, rfl, rfl⟩
  ·exact ⟨1001, rfl, (Zet a1).2 hx⟩
 ·unfold lkB at hx
  split at hx
  ·rename_i e
   subst e
   simp only [Option.some.injEq] at hx
   subst hx
   refine ⟨b, [sm, sc], rfl, .inr (.inl rfl), t1, ?_, ?_⟩
   ·unfold VRs
    refine ⟨sm, [sc], rfl, ?_, ?_⟩
    ·unfold VR
     exact ⟨Zhd a1, .inl ⟨_, rfl, .inl rfl, rfl⟩⟩
    ·unfold VRs
     refine ⟨sc, [], rfl, ?_, by unfold VRs; rfl⟩
     unfold VR Rep
     refine ⟨rfl, ?_⟩
     rcases c1.2 with ⟨e1, _⟩ | ⟨g, cap, cur, e1, _⟩ <;> rw [e1] <;> trivial
   ·intro u hu
    rcases List.mem_cons.1 hu with rfl | hu
    ·exact Zhd a1
    ·rw [List.mem_singleton] at hu; rw [hu]; exact Zhd c1
  ·unfold lkB at hx
   split at hx
   ·rename_i e
    subst e
    simp only [Option.some.injEq] at hx
    subst hx
    refine ⟨xs, rfl, fun x hx => .inr (.inr hx), Zk2 a1 fun x hx => X.hLB x (hL1 x (.inr hx)), a2.keep (fun _ _ => rfl) hFs, by simpa using a3, by simpa using a4⟩
   ·simp [lkB] at hx
 ·obtain ⟨x1, m1, _⟩ := Zch h1
  obtain ⟨x2, m2, _⟩ := Zch h2
  simp only [List.mem_cons, Prod.mk.injEq, List.not_mem_nil, or_false] at m1 m2
  rcases m1 with ⟨rfl, _⟩ | ⟨rfl, _⟩ <;> rcases m2 with ⟨rfl, _⟩ | ⟨rfl, _⟩
  ·rfl
  ·have e1 : some b = some x := e1
   exact absurd ((Zet a1).1 e2) (by rw [← e1]; exact t6)
  ·have e2 : some b = some x := e2
   exact absurd ((Zet a1).1 e1) (by rw [← e2]; exact t6)
  ·rfl
 ·unfold VRs
  refine ⟨v1, [v2], rfl, ?_, ?_⟩
  ·unfold VR
   exact ⟨_, _, b, rfl, rfl, hv1⟩
  ·unfold VRs
   refine ⟨v2, [], rfl, ?_, by unfold VRs; rfl⟩
   unfold VR at g2 ⊢
   exact g2.keep (fun _ _ => rfl) hFs
 ·rintro e' w' ⟨v, i, ρ2, he, hbel, hl2, hvr⟩
  obtain ⟨b', vs', e1, _, k1, k2, k3⟩ := hl2.blks 1000 _ rfl
  have e2 := hl2.lent 1000 (Nat.le_refl _) rfl
  rw [e1] at e2
  have e2 : Value.pointer (some ⟨b', 0, none⟩) = .pointer (some ⟨b, 0, none⟩) := e2
  simp only [Value.pointer.injEq, Option.some.injEq, Addr.mk.injEq, and_true] at e2
  subst e2
  obtain ⟨v0, u0, rfl, k4, k5⟩ := Zjn k2
  obtain ⟨ys0, q0, qm, q1, q2, q3, q4⟩ := hl2.blks 0 _ rfl
  have k4 := Zhu k4 (x := .row 99 4 32 ((Zdj Zaf m p).map Za4)) rfl rfl
  have k5 : u0 = sc := by unfold VR Rep at k5; exact k5.1
  subst k4 k5
  have hb0 : X.L b' := hL1 b' (.inl rfl)
  have hsz := hbel.size
  have hsz : X.w0.heap.size ≤ w'.heap.size := hsz
  let O' : Nat → Prop := fun x => x = b' ∨ (ρ2 0).v.ownBlock = some x ∨ u0.ownBlock = some x ∨ Ok x
  have hscL : ∀ x, u0.ownBlock = some x → X.L x ∧ ¬ L1 x := fun x hx => ⟨hLO x ((t5 x).2 (.inr (.inr (.inl hx)))), fun h => by
   rcases h with rfl | h
   ·exact t7 hx
   ·exact t8 x h hx⟩
  have hOkL : ∀ x, Ok x → X.L x ∧ ¬ L1 x := fun x hx => ⟨hLO x ((t5 x).2 (.inr (.inr (.inr hx)))), fun h => by
   rcases h with rfl | h
   ·exact t9 hx
   ·exact t10 x h hx⟩
  have hsame : ∀ x, X.L x ∧ ¬ L1 x → w'.heap[x]? = X.w0.heap[x]? := fun x hx => hbel.block x (hLs x hx.1) hx.2
  have hnew : ∀ x, (ρ2 0).v.ownBlock = some x → ¬ (X.L x ∧ ¬ L1 x) := fun x hx h => by
   rcases qm x hx with h1 | h1
   ·have := hLs x h.1
    have h1 : X.w0.heap.size ≤ x := h1
    omega
   ·exact h.2 h1
  let ρf : Nat → RV := fun _ => ⟨slS b', O'⟩
  have hF0 : ∀ x, FF X X.w0 (lkB [(1000, .res (Zbr b' (.mk m ch)))]) ρ x → w'.heap[x]? = X.w0.heap[x]? := fun x hx => hbel.block x hx.2.1 fun h => by
   have h3 := hL1 x h
   obtain ⟨k, h1, h2⟩ := (hL x).1 h3
   exact hx.2.2 k h1 h2
  have hFe : ∀ x, FF (X.part L1 hL1 rv1) w' (lkB [(1000, .box 122 [.own 0, .dat (.val u0)]), (0, .row 99 4 32 ((Zdj Zaf m p).map Za4)), (1001, .dead)]) ρ2 x → FF X w' (lkB [(1000, .res (Zbr b' (.mk (Zdj Zaf m p) ch)))]) ρf x := Zy7 hFL hLs hL1 fun k x h1 h2 => by
   have h2 : O' x := h2
   rcases h2 with rfl | h2 | h2 | h2
   ·exact .inl ⟨1000, rfl, by rw [e1]; rfl⟩
   ·exact .inl ⟨0, rfl, by rw [q0]; exact (Zet q1).2 h2⟩
   ·exact .inr (hscL x h2)
   ·exact .inr (hOkL x h2)
  have hFs2 : ∀ x, FF X X.w0 (lkB [(1000, .res (Zbr b' (.mk m ch)))]) ρ x → FF X w' (lkB [(1000, .res (Zbr b' (.mk (Zdj Zaf m p) ch)))]) ρf x := fun x hx => by
   have hnL : ¬ X.L x := fun h => by
    obtain ⟨k, h1, h2⟩ := (hL x).1 h
    exact hx.2.2 k h1 h2
   refine ⟨hx.1, Nat.lt_of_lt_of_le hx.2.1 hsz, fun k h1 h2 => ?_⟩
   have h2 : O' x := h2
   rcases h2 with rfl | h2 | h2 | h2
   ·exact hnL hb0
   ·rcases qm x h2 with h3 | h3
    ·have := hx.2.1
     have h3 : X.w0.heap.size ≤ x := h3
     omega
    ·exact hnL (hL1 x h3)
   ·exact hnL (hscL x h2).1
   ·exact hnL (hOkL x h2).1
  refine ⟨v, (), ρf, he, Zmy hbel, ⟨fun k x hx => ?_, fun k k' x h1 h2 _ _ => ?_, fun k h1 h2 => ?_⟩, ?_⟩
  ·have hm := Zfh hx
   simp only [List.mem_cons, Prod.mk.injEq, List.not_mem_nil, or_false] at hm
   obtain ⟨rfl, rfl⟩ := hm
   refine ⟨⟨rfl, ?_⟩, fun x hx => ?_⟩
   ·unfold TreeAt
    refine ⟨(ρ2 0).v, u0, bs, Ok, by simpa using k1, ⟨ys0, Zk2 q1 (fun _ _ => Nat.zero_le _), q2.keep (fun _ _ => rfl) hFe, q3, q4⟩, RowAt.keep hF0 hFs2 (fun x hx => hsame x (hscL x hx)) ⟨ys, c1, c2, c3, c4⟩, KidsAt.keep hF0 hFs2 ch (fun x hx => hsame x (hOkL x hx)) t4, fun x => Iff.rfl, fun h => ?_, t7, fun x h1 h2 => hnew x h1 (hscL x h2), t9, fun x h1 h2 => hnew x h1 (hOkL x h2), t11⟩
    have := hl2.apart 1000 0 b' rfl rfl (by rw [e1]; rfl) (by rw [q0]; exact (Zet q1).2 h)
    cases this
   ·have hx : O' x := hx
    rcases hx with rfl | h2 | h2 | h2
    ·exact ⟨.inr hb0, Nat.lt_of_lt_of_le (hLs _ hb0) hsz⟩
    ·exact ⟨(qm x h2).imp id (hL1 x), Ylv q1 h2⟩
    ·exact ⟨.inr (hscL x h2).1, Nat.lt_of_lt_of_le (hLs _ (hscL x h2).1) hsz⟩
    ·exact ⟨.inr (hOkL x h2).1, Nat.lt_of_lt_of_le (hLs _ (hOkL x h2).1) hsz⟩
  ·obtain ⟨x1, m1, _⟩ := Zch h1
   obtain ⟨x2, m2, _⟩ := Zch h2
   simp only [List.mem_cons, Prod.mk.injEq, List.not_mem_nil, or_false] at m1 m2
   rw [m1.1, m2.1]
  ·obtain ⟨x1, m1, _⟩ := Zch h2
   simp only [List.mem_cons, Prod.mk.injEq, List.not_mem_nil, or_false] at m1
   rw [m1.1, ← hlie.lent 1000 (Nat.le_refl _) rfl, hv0]
  ·unfold VR Rep at hvr ⊢
   obtain ⟨vs, e, h⟩ := hvr
   unfold Reps at h
   exact ⟨vs, e, by unfold Reps; exact h⟩
section
variable {w : World} {F : Nat → Prop}
theorem KidsAt.take : ∀ {ch : List (PEV × ST PEV)} {bs : List Nat} {O : Nat → Prop} {i : Nat} {k : PEV} {t : ST PEV}, KidsAt w F ch bs O → ch[i]? = some (k, t) → ∃ (b' : Nat) (O1 O2 : Nat → Prop), bs[i]? = some b' ∧ TreeAt w F t b' O1 ∧ (∀ x, O x ↔ O1 x ∨ O2 x) ∧ (∀ x, O1 x → ¬ O2 x) ∧
  ∀ (w' : World) (F' : Nat → Prop) (t' : ST PEV) (O' : Nat → Prop), (∀ x, F x → w'.heap[x]? = w.heap[x]?) → (∀ x, F x → F' x) → (∀ x, O2 x → w'.heap[x]? = w.heap[x]?) → TreeAt w' F' t' b' O' → (∀ x, O2 x → ¬ O' x) → KidsAt w' F' (ch.set i (k, t')) bs (fun x => O2 x ∨ O' x)
 | [], _, _, _, _, _, _, h => by simp at h
 | y :: r, bs, O, i, k, t, hv, h => by
  unfold KidsAt at hv
  obtain ⟨b, bs', O1, O2, rfl, h2, h3, h4, h5⟩ := hv
  cases i with
  | zero =>
   simp only [List.getElem?_cons_zero, Option.some.injEq] at h
   subst h
   refine ⟨b, O1, O2, rfl, h2, h4, h5, fun w' F' t' O' g1 g2 g3 g4 g5 => ?_⟩
   simp only [List.set_cons_zero]
   unfold KidsAt
   exact ⟨b, bs', O', O2, rfl, g4, KidsAt.keep g1 g2 r g3 h3, fun x => or_comm, fun x hx hx' => g5 x hx' hx⟩
  | succ i =>
   obtain ⟨b', P1, P2, q1, q2, q3, q4, q5⟩ := KidsAt.take h3 (i := i) (by simpa using h)
   refine ⟨b', P1, fun x => O1 x ∨ P2 x, by simpa using q1, q2, fun x => ?_, fun x hx hx' => ?_, fun w' F' t' O' g1 g2 g3 g4 g5 => ?_⟩
   ·rw [h4, q3]
    constructor
    ·rintro (h | h | h)
     ·exact .inr (.inl h)
     ·exact .inl h
     ·exact .inr (.inr h)
    ·rintro (h | h | h)
     ·exact .inr (.inl h)
     ·exact .inl h
     ·exact .inr (.inr h)
   ·rcases hx' with h | h
    ·exact h5 x h ((q3 x).2 (.inl hx))
    ·exact q4 x hx h
   ·simp only [List.set_cons_succ]
    unfold KidsAt
    refine ⟨b, bs', O1, fun x => P2 x ∨ O' x, rfl, TreeAt.keep g1 g2 y.2 (fun x hx => g3 x (.inl hx)) h2, q5 w' F' t' O' g1 g2 (fun x hx => g3 x (.inr hx)) g4 (fun x hx => g5 x (.inr hx)), fun x => or_assoc, fun x hx hx' => ?_⟩
    rcases hx' with h | h
    ·exact h5 x hx ((q3 x).2 (.inr h))
    ·exact g5 x (.inl hx) h
theorem KidsAt.put {k : PEV} {t : ST PEV} {b' : Nat} {O' : Nat → Prop} (ht : TreeAt w F t b' O') : ∀ {ch : List (PEV × ST PEV)} {bs : List Nat} {O : Nat → Prop} (i : Nat), KidsAt w F ch bs O → (∀ x, O x → ¬ O' x) → KidsAt w F (ch.take i ++ (k, t) :: ch.drop i) (bs.take i ++ b' :: bs.drop i) (fun x => O x ∨ O' x)
 | ch, bs, O, 0, hv, hd => by
  simp only [List.take_zero, List.drop_zero, List.nil_append]
  unfold KidsAt
  exact ⟨b', bs, O', O, rfl, ht, hv, fun x => or_comm, fun x hx hx' => hd x hx' hx⟩
 | [], bs, O, i + 1, hv, hd => by
  have hv0 := hv
  unfold KidsAt at hv
  obtain ⟨rfl, _⟩ := hv
  simp only [List.take_nil, List.drop_nil, List.nil_append]
  conv in KidsAt w F _ _ _ => unfold KidsAt
  exact ⟨b', [], O', O, rfl, ht, hv0, fun x => or_comm, fun x hx hx' => hd x hx' hx⟩
 | y :: r, bs, O, i + 1, hv, hd => by
  unfold KidsAt at hv
  obtain ⟨b, bs', O1, O2, rfl, h2, h3, h4, h5⟩ := hv
  simp only [List.take_succ_cons, List.drop_succ_cons, List.cons_append]
  have ih := KidsAt.put (k := k) ht i h3 (fun x hx => hd x ((h4 x).2 (.inr hx)))
  conv in KidsAt w F _ _ _ => unfold KidsAt
  refine ⟨b, _, O1, fun x => O2 x ∨ O' x, rfl, h2, ih, fun x => by show (O x ∨ O' x) ↔ _; rw [h4]; exact or_assoc, fun x hx hx' => ?_⟩
  rcases hx' with h | h
  ·exact h5 x hx h
  ·exact hd x ((h4 x).2 (.inl hx)) h
theorem Yhh {b b' : Nat} {sm sc : Value} {m : List PEV} {g : ST PEV → List (PEV × ST PEV)} {bs : List Nat} {Or : Nat → Prop} (t1 : w.heap[b]? = some (.cells #[sm, sc] 122 (0, 0))) (h2 : RowAt w F 99 4 32 (m.map Za4) sm)
  (h3 : ∀ t', RowAt w F 224 5 40 ((((g t').map (·.1)).zip bs).map Zss) sc)
  (h4 : ∀ (w' : World) (F' : Nat → Prop) (t' : ST PEV) (O' : Nat → Prop), (∀ x, F x → w'.heap[x]? = w.heap[x]?) → (∀ x, F x → F' x) → (∀ x, Or x → w'.heap[x]? = w.heap[x]?) → TreeAt w' F' t' b' O' → (∀ x, Or x → ¬ O' x) → KidsAt w' F' (g t') bs (fun x => Or x ∨ O' x))
  (d1 : sm.ownBlock ≠ some b) (d2 : sc.ownBlock ≠ some b) (d3 : ∀ x, sm.ownBlock = some x → sc.ownBlock ≠ some x) (d4 : ¬ Or b) (d5 : ∀ x, sm.ownBlock = some x → ¬ Or x) (d6 : ∀ x, sc.ownBlock = some x → ¬ Or x) :
  Yp7 w F (fun x => x = b ∨ sm.ownBlock = some x ∨ sc.ownBlock = some x ∨ Or x) b' (fun t' => .mk m (g t')) b := by
 intro w' F' t' O' g1 g2 g3 g4 g5
 unfold TreeAt
 refine ⟨sm, sc, bs, fun x => Or x ∨ O' x, (g3 b (.inl rfl)).trans t1, h2.keep g1 g2 fun x hx => g3 x (.inr (.inl hx)), (h3 t').keep g1 g2 fun x hx => g3 x (.inr (.inr (.inl hx))), h4 w' F' t' O' g1 g2 (fun x hx => g3 x (.inr (.inr (.inr hx)))) g4 fun x hx => g5 x (.inr (.inr (.inr hx))), fun x => ?_, d1, d2, d3, ?_, fun x hx h => ?_, fun x hx h => ?_⟩
 ·simp only [or_assoc]
 ·rintro (h | h)
  ·exact d4 h
  ·exact g5 b (.inl rfl) h
 ·rcases h with h | h
  ·exact d5 x hx h
  ·exact g5 x (.inr (.inl hx)) h
 ·rcases h with h | h
  ·exact d6 x hx h
  ·exact g5 x (.inr (.inr (.inl hx))) h
end
theorem Zga : ∀ {l : List PEV} {bs : List Nat}, bs.length = l.length → ((l.zip bs).map fun y => (y.1, PD.val (adr y.2))).map (·.1) = l
 | [], bs, _ => by simp
 | x :: l, [], h => by simp at h
 | x :: l, b :: bs, h => by simp only [List.zip_cons_cons, List.map_cons]; rw [Zga (by simpa using h)]
theorem Yhm (l : List PEV) (bs : List Nat) : ((l.zip bs).map fun y => (y.1, PD.val (adr y.2))).map dN = (l.zip bs).map Zss := by
 rw [List.map_map]; rfl
theorem Ykq {ch : List (PEV × ST PEV)} {i : Nat} {k : PEV} {t t' : ST PEV} (h : ch[i]? = some (k, t)) : (ch.set i (k, t')).map (·.1) = ch.map (·.1) := by
 rw [List.map_set]
 refine List.ext_getElem? fun j => ?_
 rw [List.getElem?_set]
 split
 ·rename_i e
  subst e
  have hl : i < (ch.map (·.1)).length := by simpa using (List.getElem?_eq_some_iff.1 h).1
  simp [h]
  exact (List.getElem?_eq_some_iff.1 h).1
 ·rfl
theorem Zsu {X : Base} {ρ : Nat → RV} {b : Nat} {m : List PEV} {ch : List (PEV × ST PEV)} (hL : ∀ x, X.L x ↔ ∃ k, Za6 (lkB [(1000, Blk.res (Zbr b (.mk m ch)))] k) = true ∧ (ρ k).fp x) (hlie : Ya0 X (lkB [(1000, Blk.res (Zbr b (.mk m ch)))]) X.w0 ρ) :
  (∀ x, X.L x ↔ (ρ 1000).fp x) ∧ (∀ x, X.L x → x < X.w0.heap.size) ∧ X.rv 1000 = slS b ∧ (∀ {i : Nat} {v : Value}, VR X.w0 (FF X X.w0 (lkB [(1000, Blk.res (Zbr b (.mk m ch)))]) ρ) (lkB [(1000, Blk.res (Zbr b (.mk m ch)))]) ρ (.elt 1000 2 0 i) v → v = .pointer (some ⟨b, i, none⟩)) ∧
  TreeAt X.w0 (FF X X.w0 (lkB [(1000, Blk.res (Zbr b (.mk m ch)))]) ρ) (.mk m ch) b (ρ 1000).fp := by
 obtain ⟨⟨hv0, ht⟩, hmay⟩ := hlie.blks 1000 _ rfl
 have hk : ∀ k, Za6 (lkB [(1000, Blk.res (Zbr b (.mk m ch)))] k) = true → k = 1000 := fun k h => by
  obtain ⟨x1, m1, _⟩ := Zch h
  simp only [List.mem_cons, Prod.mk.injEq, List.not_mem_nil, or_false] at m1
  exact m1.1
 refine ⟨fun x => ⟨fun h => ?_, fun h => (hL x).2 ⟨1000, rfl, h⟩⟩, fun x h => ?_, ?_, fun {i v} g1 => ?_, ht⟩
 ·obtain ⟨k, h1, h2⟩ := (hL x).1 h
  rw [hk k h1] at h2; exact h2
 ·obtain ⟨k, h1, h2⟩ := (hL x).1 h
  rw [hk k h1] at h2
  exact (hmay x h2).2
 ·rw [← hlie.lent 1000 (Nat.le_refl _) rfl, hv0]
 ·unfold VR at g1
  obtain ⟨_, ⟨x, _, _, g, len, c, e1, e2⟩ | h⟩ := g1
  ·rw [hv0] at e1
   unfold slS at e1
   injection e1 with e1 _ _
   injection e1 with e1
   injection e1 with e1
   rw [e2, ← e1]
   simp
  ·cases h
def lvS (b : Nat) (v : Value) : Nat → Prop := fun x => x = b ∨ v.ownBlock = some x
def rvS (b : Nat) (v : Value) : Nat → RV := fun k => if k = 1000 then RV.of (.pointer (some ⟨b, 0, none⟩)) else RV.of v
theorem Zqb {P : Program} {f : FuncId} {ι : Type} {out : ι → AV} {tbl' : ι → List (Nat × Blk)} {X : Base} {ρ : Nat → RV} {b : Nat} {m : List PEV} {ch : List (PEV × ST PEV)} {sm sc v1 v2 : Value} {nl : List PD} {d : PD} {base : Nat} {zs : List Value} {n : Nat}
  (hP : X.P = P) (hL : ∀ x, X.L x ↔ ∃ k, Za6 (lkB [(1000, Blk.res (Zbr b (.mk m ch)))] k) = true ∧ (ρ k).fp x) (hFL : ∀ b, X.F0 b → ¬ X.L b) (hL1 : ∀ x, lvS b sc x → X.L x)
  (t1 : X.w0.heap[b]? = some (.cells #[sm, sc] 122 (0, 0))) (c0 : X.w0.ownsRow base 99 4 sm n zs) (hr : RowAt X.w0 (FF X X.w0 (lkB [(1000, Blk.res (Zbr b (.mk m ch)))]) ρ) 224 5 40 nl sc) (hne : sc.ownBlock ≠ some b) (hv1 : v1 = .pointer (some ⟨b, 1, none⟩))
  (g2 : VR X.w0 (FF X X.w0 (lkB [(1000, Blk.res (Zbr b (.mk m ch)))]) ρ) (lkB [(1000, Blk.res (Zbr b (.mk m ch)))]) ρ (.dat d) v2)
  (c : Zif P f [.ptr 1000 1, .dat d] [(1000, .box 122 [.dat (.val sm), .own 1001]), (1001, .row 224 5 40 nl)] out tbl') :
  Calls P f #[v1, v2] X.w0 fun e w' => ∃ v i ρ', e = .returned v ∧ Bel (X.part (lvS b sc) hL1 fun k => (rvS b sc k).v) w' ∧ Ya0 (X.part (lvS b sc) hL1 fun k => (rvS b sc k).v) (lkB (tbl' i)) w' ρ' ∧ VR w' (FF (X.part (lvS b sc) hL1 fun k => (rvS b sc k).v) w' (lkB (tbl' i)) ρ') (lkB (tbl' i)) ρ' (out i) v := by
 obtain ⟨ys, c1, c2, c3, c4⟩ := hr
 have hfp1 : ∀ k x, Za6 (lkB [(1000, .box 122 [.dat (.val sm), .own 1001]), (1001, .row 224 5 40 nl)] k) = true → (rvS b sc k).fp x → lvS b sc x := by
  intro k x h1 h2
  unfold rvS at h2
  split at h2
  ·left
   have h2 : some b = some x := h2
   exact (Option.some.inj h2).symm
  ·right
   exact (Zet c1).1 h2
 have hFs := Zr4 (rv := fun k => (rvS b sc k).v) hL hFL hL1 hfp1
 refine c (X.part (lvS b sc) hL1 fun k => (rvS b sc k).v) (rvS b sc) [v1, v2] hP (fun x => ⟨fun hx => ?_, fun ⟨k, h1, h2⟩ => hfp1 k x h1 h2⟩) (fun x h1 h2 => hFL x h1 (hL1 x h2)) ⟨fun k x hx => ?_, fun k k' x h1 h2 e1 e2 => ?_, fun k _ _ => rfl⟩ ?_
 ·rcases hx with rfl | hx
  ·exact ⟨1000, rfl, rfl⟩
  ·exact ⟨1001, rfl, (Zet c1).2 hx⟩
 ·have hm := Zfh hx
  simp only [List.mem_cons, Prod.mk.injEq, List.not_mem_nil, or_false] at hm
  rcases hm with ⟨rfl, rfl⟩ | ⟨rfl, rfl⟩
  ·refine ⟨b, [sm, sc], rfl, .inr (.inl rfl), t1, ?_, ?_⟩
   ·unfold VRs
    refine ⟨sm, [sc], rfl, ?_, ?_⟩
    ·unfold VR Rep
     refine ⟨rfl, ?_⟩
     rcases c0.2 with ⟨e1, _⟩ | ⟨g, cap, cur, e1, _⟩ <;> rw [e1] <;> trivial
    ·unfold VRs
     refine ⟨sc, [], rfl, ?_, by unfold VRs; rfl⟩
     unfold VR
     exact ⟨Zhd c1, .inl ⟨_, rfl, .inl rfl, rfl⟩⟩
   ·intro u hu
    rcases List.mem_cons.1 hu with rfl | hu
    ·exact Zhd c0
    ·rw [List.mem_singleton] at hu; rw [hu]; exact Zhd c1
  ·exact ⟨ys, rfl, fun x hx => .inr (.inr hx), Zk2 c1 fun x hx => X.hLB x (hL1 x (.inr hx)), c2.keep (fun _ _ => rfl) hFs, c3, c4⟩
 ·obtain ⟨x1, m1, _⟩ := Zch h1
  obtain ⟨x2, m2, _⟩ := Zch h2
  simp only [List.mem_cons, Prod.mk.injEq, List.not_mem_nil, or_false] at m1 m2
  rcases m1 with ⟨rfl, _⟩ | ⟨rfl, _⟩ <;> rcases m2 with ⟨rfl, _⟩ | ⟨rfl, _⟩
  ·rfl
  ·have e1 : some b = some x := e1
   exact absurd ((Zet c1).1 e2) (by rw [← e1]; exact hne)
  ·have e2 : some b = some x := e2
   exact absurd ((Zet c1).1 e1) (by rw [← e2]; exact hne)
  ·rfl
 ·unfold VRs
  refine ⟨v1, [v2], rfl, ?_, ?_⟩
  ·unfold VR
   exact ⟨_, _, b, rfl, rfl, hv1⟩
  ·unfold VRs
   refine ⟨v2, [], rfl, ?_, by unfold VRs; rfl⟩
   unfold VR at g2 ⊢
   exact g2.keep (fun _ _ => rfl) hFs
theorem Yav (p : PEV) (t' : ST PEV) (b' : Nat) : ∀ (loc : Nat) (ch : List (PEV × ST PEV)) (bs : List Nat), bs.length = ch.length → (((ch.take loc ++ (p, t') :: ch.drop loc).map (·.1)).zip (bs.take loc ++ b' :: bs.drop loc)).map Zss = ((((ch.map (·.1)).zip bs).map fun y => (y.1, PD.val (adr y.2))).take loc ++ (p, PD.val (adr b')) :: (((ch.map (·.1)).zip bs).map fun y => (y.1, PD.val (adr y.2))).drop loc).map dN
 | 0, ch, bs, h => by
  simp only [List.take_zero, List.drop_zero, List.nil_append, List.map_cons, List.zip_cons_cons]
  rw [Yhm]; rfl
 | loc + 1, [], bs, h => by
  have : bs = [] := List.eq_nil_of_length_eq_zero (by simpa using h)
  subst this
  rfl
 | loc + 1, y :: ch, [], h => by simp at h
 | loc + 1, y :: ch, b :: bs, h => by
  simp only [List.take_succ_cons, List.drop_succ_cons, List.cons_append, List.map_cons, List.zip_cons_cons]
  rw [Yav p t' b' loc ch bs (by simpa using h)]
  rfl
theorem Ymx (b : Nat) (m : List PEV) (ch : List (PEV × ST PEV)) (p : PEV) (hl : ∀ x ∈ ch.map (·.1), OPE x) (hp : OPE p) (hs : Srt Zaf (ch.map (·.1))) {k : PEV} {t : ST PEV} (hf : Ze9 Zaf (ch.map (·.1)) p = true) (hx : ch[Zbe Zaf (ch.map (·.1)) p]? = some (k, t)) :
  Zif Tryz.prog 96 [.elt 1000 2 0 1, .dat (Za4 p)] [(1000, .res (Zbr b (.mk m ch)))] (ι := Nat) (fun _ => .elt 0 2 0 0)
   (fun b' => [(1000, .res (Zd1 b' (fun t' => .mk m (ch.set (Zbe Zaf (ch.map (·.1)) p) (k, t'))) b)), (0, .res (Zbr b' t))]) := by
 intro X ρ vs hP hL hFL hlie hvs
 obtain ⟨hLO, hLs, hrv, helt, ht⟩ := Zsu hL hlie
 obtain ⟨v1, v2, rfl, g1, g2⟩ := Zjn hvs
 have hv1 := helt g1
 have hcx := hx
 unfold TreeAt at ht
 obtain ⟨sm, sc, bs, Ok, t1, ⟨xs, a1, a2, a3, a4⟩, hrow, t4, t5, t6, t7, t8, t9, t10, t11⟩ := ht
 obtain ⟨b', O1, O2, j1, j2, j3, j4, j5⟩ := t4.take hx
 have hlen := t4.len
 have hL1 : ∀ x, lvS b sc x → X.L x := fun x hx => (hLO x).2 ((t5 x).2 (hx.imp id fun h => .inr (.inl h)))
 have hmx : (((ch.map (·.1)).zip bs).map fun y => (y.1, PD.val (adr y.2)))[Zbe Zaf (ch.map (·.1)) p]? = some (k, PD.val (adr b')) := by
  rw [List.getElem?_map, (List.getElem?_zip_eq_some (z := (k, b'))).2 ⟨by rw [List.getElem?_map, hx]; rfl, j1⟩]; rfl
 have c := Ymw sm (((ch.map (·.1)).zip bs).map fun y => (y.1, PD.val (adr y.2))) p (by rw [Zga (by simpa using hlen)]; exact hl) hp (by rw [Zga (by simpa using hlen)]; exact hs) (b := b') (k := k) (by rw [Zga (by simpa using hlen)]; exact hf) (by rw [Zga (by simpa using hlen)]; exact hmx)
 rw [Yhm] at c
 refine (Zqb hP hL hFL hL1 t1 a1 hrow t7 hv1 g2 c).mono ?_
 rintro e' w' ⟨v, i, ρ2, he, hbel, hl2, hvr⟩
 obtain ⟨b2, vs', e1, _, k1, k2, k3⟩ := hl2.blks 1000 _ rfl
 have e2 := hl2.lent 1000 (Nat.le_refl _) rfl
 rw [e1] at e2
 have e2 : Value.pointer (some ⟨b2, 0, none⟩) = .pointer (some ⟨b, 0, none⟩) := e2
 simp only [Value.pointer.injEq, Option.some.injEq, Addr.mk.injEq, and_true] at e2
 subst e2
 obtain ⟨v0, u0, rfl, k4, k5⟩ := Zjn k2
 obtain ⟨ys0, q0, qm, q1, q2, q3, q4⟩ := hl2.blks 1001 _ rfl
 have e3 : (ρ2 1001).v = sc := hl2.lent 1001 (by omega) rfl
 have m5 := Zhu k5 (x := .row 224 5 40 (((ch.map (·.1)).zip bs).map Zss)) rfl rfl
 have m4 : v0 = sm := by unfold VR Rep at k4; exact k4.1
 rw [e3] at m5 q0 q1
 clear k4 k5
 subst m4 m5
 have hb0 : X.L b2 := hL1 b2 (.inl rfl)
 have hsz : X.w0.heap.size ≤ w'.heap.size := hbel.size
 have hfr : ∀ x, v0.ownBlock = some x ∨ Ok x → X.L x ∧ ¬ lvS b2 u0 x := fun x hx => by
  rcases hx with h | h
  ·refine ⟨(hLO x).2 ((t5 x).2 (.inr (.inl h))), fun h2 => ?_⟩
   rcases h2 with rfl | h2
   ·exact t6 h
   ·exact t8 x h h2
  ·refine ⟨(hLO x).2 ((t5 x).2 (.inr (.inr (.inr h)))), fun h2 => ?_⟩
   rcases h2 with rfl | h2
   ·exact t9 h
   ·exact t11 x h2 h
 have hsame : ∀ x, X.L x ∧ ¬ lvS b2 u0 x → w'.heap[x]? = X.w0.heap[x]? := fun x hx => hbel.block x (hLs x hx.1) hx.2
 let Or : Nat → Prop := fun x => x = b2 ∨ v0.ownBlock = some x ∨ u0.ownBlock = some x ∨ O2 x
 let ρf : Nat → RV := fun k => if k = 1000 then ⟨slS b2, Or⟩ else ⟨slS b', O1⟩
 have hnL : ∀ x, FF X X.w0 (lkB [(1000, .res (Zbr b2 (.mk m ch)))]) ρ x → ¬ X.L x := fun x hx h => by
  obtain ⟨k, h1, h2⟩ := (hL x).1 h
  exact hx.2.2 k h1 h2
 have hF0 : ∀ x, FF X X.w0 (lkB [(1000, .res (Zbr b2 (.mk m ch)))]) ρ x → w'.heap[x]? = X.w0.heap[x]? := fun x hx => hbel.block x hx.2.1 fun h => hnL x hx (hL1 x h)
 have hall : ∀ q x, Za6 (lkB [(1000, .res (Zd1 b' (fun t' => .mk m (ch.set (Zbe Zaf (ch.map (·.1)) p) (k, t'))) b2)), (0, .res (Zbr b' t))] q) = true → (ρf q).fp x → x = b2 ∨ u0.ownBlock = some x ∨ (v0.ownBlock = some x ∨ Ok x) := fun k x h1 h2 => by
  simp only [ρf] at h2
  split at h2
  ·rcases h2 with h | h | h | h
   ·exact .inl h
   ·exact .inr (.inr (.inl h))
   ·exact .inr (.inl h)
   ·exact .inr (.inr (.inr ((j3 x).2 (.inr h))))
  ·exact .inr (.inr (.inr ((j3 x).2 (.inl h2))))
 have hFe : ∀ x, FF (X.part (lvS b2 u0) hL1 fun k => (rvS b2 u0 k).v) w' (lkB [(1000, .box 122 [.dat (.val v0), .own 1001]), (1001, .row 224 5 40 (((ch.map (·.1)).zip bs).map Zss))]) ρ2 x → FF X w' (lkB [(1000, .res (Zd1 b' (fun t' => .mk m (ch.set (Zbe Zaf (ch.map (·.1)) p) (k, t'))) b2)), (0, .res (Zbr b' t))]) ρf x := Zy7 hFL hLs hL1 fun k x h1 h2 => by
  rcases hall k x h1 h2 with rfl | h | h
  ·exact .inl ⟨1000, rfl, by rw [e1]; rfl⟩
  ·exact .inl ⟨1001, rfl, by rw [q0]; exact (Zet q1).2 h⟩
  ·exact .inr (hfr x h)
 have hLall : ∀ x, x = b2 ∨ u0.ownBlock = some x ∨ (v0.ownBlock = some x ∨ Ok x) → X.L x := fun x h => by
  rcases h with h | h | h
  ·exact hL1 x (.inl h)
  ·exact hL1 x (.inr h)
  ·exact (hfr x h).1
 have hFs2 : ∀ x, FF X X.w0 (lkB [(1000, .res (Zbr b2 (.mk m ch)))]) ρ x → FF X w' (lkB [(1000, .res (Zd1 b' (fun t' => .mk m (ch.set (Zbe Zaf (ch.map (·.1)) p) (k, t'))) b2)), (0, .res (Zbr b' t))]) ρf x := fun x hx =>
  ⟨hx.1, Nat.lt_of_lt_of_le hx.2.1 hsz, fun k h1 h2 => hnL x hx (hLall x (hall k x h1 h2))⟩
 have hdj : ∀ x, Or x → ¬ O1 x := fun x h h1 => by
  have hk : Ok x := (j3 x).2 (.inl h1)
  rcases h with rfl | h | h | h
  ·exact t9 hk
  ·exact t10 x h hk
  ·exact t11 x h hk
  ·exact j4 x h1 h
 refine ⟨v, b', ρf, he, Zmy hbel, ⟨fun k x hx => ?_, fun k k' x h1 h2 f1 f2 => ?_, fun k h1 h2 => ?_⟩, ?_⟩
 ·have hm := Zfh hx
  simp only [List.mem_cons, Prod.mk.injEq, List.not_mem_nil, or_false] at hm
  rcases hm with ⟨rfl, rfl⟩ | ⟨rfl, rfl⟩
  ·refine ⟨⟨rfl, ?_⟩, fun x hx => ⟨.inr (hLall x (hall 1000 x rfl hx)), Nat.lt_of_lt_of_le (hLs _ (hLall x (hall 1000 x rfl hx))) hsz⟩⟩
   refine Yhh (by simpa using k1) (RowAt.keep hF0 hFs2 (fun x hx => hsame x (hfr x (.inl hx))) ⟨xs, a1, a2, a3, a4⟩) (fun t' => ?_) (fun w2 F2 t' O' f1 f2 f3 f4 f5 => j5 w2 F2 t' O' (fun x hx => (f1 x (hFs2 x hx)).trans (hF0 x hx)) (fun x hx => f2 x (hFs2 x hx)) (fun x hx => (f3 x hx).trans (hsame x (hfr x (.inr ((j3 x).2 (.inr hx)))))) f4 f5) t6 t7 t8 (fun h => t9 ((j3 _).2 (.inr h))) (fun x h h' => t10 x h ((j3 _).2 (.inr h'))) (fun x h h' => t11 x h ((j3 _).2 (.inr h')))
   rw [Ykq hcx]
   exact ⟨ys0, Zk2 q1 (fun _ _ => Nat.zero_le _), q2.keep (fun _ _ => rfl) hFe, q3, q4⟩
  ·exact ⟨⟨rfl, TreeAt.keep hF0 hFs2 t (fun x hx => hsame x (hfr x (.inr ((j3 x).2 (.inl hx))))) j2⟩, fun x hx => ⟨.inr (hLall x (hall 0 x rfl hx)), Nat.lt_of_lt_of_le (hLs _ (hLall x (hall 0 x rfl hx))) hsz⟩⟩
 ·obtain ⟨x1, m1, _⟩ := Zch h1
  obtain ⟨x2, m2, _⟩ := Zch h2
  simp only [List.mem_cons, Prod.mk.injEq, List.not_mem_nil, or_false] at m1 m2
  rcases m1 with ⟨rfl, _⟩ | ⟨rfl, _⟩ <;> rcases m2 with ⟨rfl, _⟩ | ⟨rfl, _⟩
  ·rfl
  ·exact absurd f2 (hdj x f1)
  ·exact absurd f1 (hdj x f2)
  ·rfl
 ·obtain ⟨x1, m1, _⟩ := Zch h2
  simp only [List.mem_cons, Prod.mk.injEq, List.not_mem_nil, or_false] at m1
  rcases m1 with ⟨rfl, _⟩ | ⟨rfl, _⟩
  ·exact hrv.symm
  ·omega
 ·unfold VR Rep at hvr
  unfold VR
  rw [hvr.1]
  exact ⟨rfl, .inl ⟨_, rfl, .inr rfl, b', 1, 1, rfl, by simp [adr]⟩⟩
theorem Ymz (b : Nat) (m : List PEV) (ch : List (PEV × ST PEV)) (p : PEV) (hl : ∀ x ∈ ch.map (·.1), OPE x) (hp : OPE p) (hs : Srt Zaf (ch.map (·.1))) (hb : (ch.length + 1) * 40 ≤ 140737488351232) (hf : Ze9 Zaf (ch.map (·.1)) p = false) :
  Zif Tryz.prog 96 [.elt 1000 2 0 1, .dat (Za4 p)] [(1000, .res (Zbr b (.mk m ch)))] (ι := Nat) (fun _ => .elt 0 2 0 0)
   (fun b' => [(1000, .res (Zd1 b' (fun t' => .mk m (ch.take (Zbe Zaf (ch.map (·.1)) p) ++ (p, t') :: ch.drop (Zbe Zaf (ch.map (·.1)) p))) b)), (0, .res (Zbr b' (.mk [] [])))]) := by
 intro X ρ vs hP hL hFL hlie hvs
 obtain ⟨hLO, hLs, hrv, helt, ht⟩ := Zsu hL hlie
 obtain ⟨v1, v2, rfl, g1, g2⟩ := Zjn hvs
 have hv1 := helt g1
 unfold TreeAt at ht
 obtain ⟨sm, sc, bs, Ok, t1, ⟨xs, a1, a2, a3, a4⟩, hrow, t4, t5, t6, t7, t8, t9, t10, t11⟩ := ht
 have hlen := t4.len
 have hL1 : ∀ x, lvS b sc x → X.L x := fun x hx => (hLO x).2 ((t5 x).2 (hx.imp id fun h => .inr (.inl h)))
 have hzl : ((((ch.map (·.1)).zip bs).map fun y => (y.1, PD.val (adr y.2))).length) = ch.length := by simp [hlen]
 have c := Ymy sm (((ch.map (·.1)).zip bs).map fun y => (y.1, PD.val (adr y.2))) p (by rw [Zga (by simpa using hlen)]; exact hl) hp (by rw [Zga (by simpa using hlen)]; exact hs) (by rw [hzl]; exact hb) (by rw [Zga (by simpa using hlen)]; exact hf)
 rw [Yhm, Zga (by simpa using hlen)] at c
 refine (Zqb hP hL hFL hL1 t1 a1 hrow t7 hv1 g2 c).mono ?_
 rintro e' w' ⟨v, b', ρ2, he, hbel, hl2, hvr⟩
 obtain ⟨b2, vs', e1, _, k1, k2, k3⟩ := hl2.blks 1000 _ rfl
 have e2 := hl2.lent 1000 (Nat.le_refl _) rfl
 rw [e1] at e2
 have e2 : Value.pointer (some ⟨b2, 0, none⟩) = .pointer (some ⟨b, 0, none⟩) := e2
 simp only [Value.pointer.injEq, Option.some.injEq, Addr.mk.injEq, and_true] at e2
 subst e2
 obtain ⟨v0, u0, rfl, k4, k5⟩ := Zjn k2
 obtain ⟨ys0, q0, qm, q1, q2, q3, q4⟩ := hl2.blks 0 _ rfl
 obtain ⟨⟨s0, s1⟩, s2⟩ := hl2.blks 1 _ rfl
 have m5 := Zhu k5 (x := .row 224 5 40 (((((ch.map (·.1)).zip bs).map fun y => (y.1, PD.val (adr y.2))).take (Zbe Zaf (ch.map (·.1)) p) ++ (p, PD.val (adr b')) :: (((ch.map (·.1)).zip bs).map fun y => (y.1, PD.val (adr y.2))).drop (Zbe Zaf (ch.map (·.1)) p)).map dN)) rfl rfl
 have m4 : v0 = sm := by unfold VR Rep at k4; exact k4.1
 clear k4 k5
 subst m4
 generalize hu : (ρ2 0).v = u1 at *
 subst m5
 have hb0 : X.L b2 := hL1 b2 (.inl rfl)
 have hsz : X.w0.heap.size ≤ w'.heap.size := hbel.size
 have hfr : ∀ x, v0.ownBlock = some x ∨ Ok x → X.L x ∧ ¬ lvS b2 sc x := fun x hx => by
  rcases hx with h | h
  ·refine ⟨(hLO x).2 ((t5 x).2 (.inr (.inl h))), fun h2 => ?_⟩
   rcases h2 with rfl | h2
   ·exact t6 h
   ·exact t8 x h h2
  ·refine ⟨(hLO x).2 ((t5 x).2 (.inr (.inr (.inr h)))), fun h2 => ?_⟩
   rcases h2 with rfl | h2
   ·exact t9 h
   ·exact t11 x h2 h
 have hsame : ∀ x, X.L x ∧ ¬ lvS b2 sc x → w'.heap[x]? = X.w0.heap[x]? := fun x hx => hbel.block x (hLs x hx.1) hx.2
 let Or : Nat → Prop := fun x => x = b2 ∨ v0.ownBlock = some x ∨ u0.ownBlock = some x ∨ Ok x
 let ρf : Nat → RV := fun k => if k = 1000 then ⟨slS b2, Or⟩ else ⟨slS b', (ρ2 1).fp⟩
 have hnL : ∀ x, FF X X.w0 (lkB [(1000, .res (Zbr b2 (.mk m ch)))]) ρ x → ¬ X.L x := fun x hx h => by
  obtain ⟨k, h1, h2⟩ := (hL x).1 h
  exact hx.2.2 k h1 h2
 have hF0 : ∀ x, FF X X.w0 (lkB [(1000, .res (Zbr b2 (.mk m ch)))]) ρ x → w'.heap[x]? = X.w0.heap[x]? := fun x hx => hbel.block x hx.2.1 fun h => hnL x hx (hL1 x h)
 have hall : ∀ q x, Za6 (lkB [(1000, .res (Zd1 b' (fun t' => .mk m (ch.take (Zbe Zaf (ch.map (·.1)) p) ++ (p, t') :: ch.drop (Zbe Zaf (ch.map (·.1)) p))) b2)), (0, .res (Zbr b' (.mk [] [])))] q) = true → (ρf q).fp x → x = b2 ∨ u0.ownBlock = some x ∨ (ρ2 1).fp x ∨ (v0.ownBlock = some x ∨ Ok x) := fun k x h1 h2 => by
  simp only [ρf] at h2
  split at h2
  ·rcases h2 with h | h | h | h
   ·exact .inl h
   ·exact .inr (.inr (.inr (.inl h)))
   ·exact .inr (.inl h)
   ·exact .inr (.inr (.inr (.inr h)))
  ·exact .inr (.inr (.inl h2))
 have hm1 : ∀ x, (X.part (lvS b2 sc) hL1 fun k => (rvS b2 sc k).v).may x → X.may x ∧ ¬ (X.L x ∧ ¬ lvS b2 sc x) := fun x hx => by
  rcases hx with h | h
  ·have h : X.w0.heap.size ≤ x := h
   exact ⟨.inl h, fun h2 => by have := hLs x h2.1; omega⟩
  ·exact ⟨.inr (hL1 x h), fun h2 => h2.2 h⟩
 have hFe : ∀ x, FF (X.part (lvS b2 sc) hL1 fun k => (rvS b2 sc k).v) w' (lkB [(1000, .box 122 [.dat (.val v0), .own 0]), (0, .row 224 5 40 (((((ch.map (·.1)).zip bs).map fun y => (y.1, PD.val (adr y.2))).take (Zbe Zaf (ch.map (·.1)) p) ++ (p, PD.val (adr b')) :: (((ch.map (·.1)).zip bs).map fun y => (y.1, PD.val (adr y.2))).drop (Zbe Zaf (ch.map (·.1)) p)).map dN)), (1001, .dead), (1, .res (Zbr b' (.mk [] [])))]) ρ2 x → FF X w' (lkB [(1000, .res (Zd1 b' (fun t' => .mk m (ch.take (Zbe Zaf (ch.map (·.1)) p) ++ (p, t') :: ch.drop (Zbe Zaf (ch.map (·.1)) p))) b2)), (0, .res (Zbr b' (.mk [] [])))]) ρf x := Zy7 hFL hLs hL1 fun k x h1 h2 => by
  rcases hall k x h1 h2 with rfl | h | h | h
  ·exact .inl ⟨1000, rfl, by rw [e1]; rfl⟩
  ·exact .inl ⟨0, rfl, by rw [q0]; exact (Zet q1).2 h⟩
  ·exact .inl ⟨1, rfl, h⟩
  ·exact .inr (hfr x h)
 have hcl : ∀ q x, Za6 (lkB [(1000, .res (Zd1 b' (fun t' => .mk m (ch.take (Zbe Zaf (ch.map (·.1)) p) ++ (p, t') :: ch.drop (Zbe Zaf (ch.map (·.1)) p))) b2)), (0, .res (Zbr b' (.mk [] [])))] q) = true → (ρf q).fp x → X.may x ∧ x < w'.heap.size := fun q x h1 h2 => by
  rcases hall q x h1 h2 with rfl | h | h | h
  ·exact ⟨.inr hb0, Nat.lt_of_lt_of_le (hLs _ hb0) hsz⟩
  ·exact ⟨(hm1 x (qm x h)).1, Ylv q1 h⟩
  ·exact ⟨(hm1 x (s2 x h).1).1, (s2 x h).2⟩
  ·exact ⟨.inr (hfr x h).1, Nat.lt_of_lt_of_le (hLs _ (hfr x h).1) hsz⟩
 have hFs2 : ∀ x, FF X X.w0 (lkB [(1000, .res (Zbr b2 (.mk m ch)))]) ρ x → FF X w' (lkB [(1000, .res (Zd1 b' (fun t' => .mk m (ch.take (Zbe Zaf (ch.map (·.1)) p) ++ (p, t') :: ch.drop (Zbe Zaf (ch.map (·.1)) p))) b2)), (0, .res (Zbr b' (.mk [] [])))]) ρf x := fun x hx =>
  ⟨hx.1, Nat.lt_of_lt_of_le hx.2.1 hsz, fun k h1 h2 => by
   rcases (hcl k x h1 h2).1 with h | h
   ·have := hx.2.1; omega
   ·exact hnL x hx h⟩
 have hdj : ∀ x, Or x → ¬ (ρ2 1).fp x := fun x h h1 => by
  have hk := (hm1 x (s2 x h1).1).2
  rcases h with rfl | h | h | h
  ·have := hl2.apart 1000 1 x rfl rfl (by rw [e1]; rfl) h1
   cases this
  ·exact hk (hfr x (.inl h))
  ·have := hl2.apart 0 1 x rfl rfl (by rw [q0]; exact (Zet q1).2 h) h1
   cases this
  ·exact hk (hfr x (.inr h))
 have hd2 : u0.ownBlock ≠ some b2 := fun h => by
  have := hl2.apart 1000 0 b2 rfl rfl (by rw [e1]; rfl) (by rw [q0]; exact (Zet q1).2 h)
  cases this
 refine ⟨v, b', ρf, he, Zmy hbel, ⟨fun k x hx => ?_, fun k k' x h1 h2 f1 f2 => ?_, fun k h1 h2 => ?_⟩, ?_⟩
 ·have hm := Zfh hx
  simp only [List.mem_cons, Prod.mk.injEq, List.not_mem_nil, or_false] at hm
  rcases hm with ⟨rfl, rfl⟩ | ⟨rfl, rfl⟩
  ·refine ⟨⟨rfl, ?_⟩, fun x hx => hcl 1000 x rfl hx⟩
   refine Yhh (by simpa using k1) (RowAt.keep hF0 hFs2 (fun x hx => hsame x (hfr x (.inl hx))) ⟨xs, a1, a2, a3, a4⟩) (bs := bs.take (Zbe Zaf (ch.map (·.1)) p) ++ b' :: bs.drop (Zbe Zaf (ch.map (·.1)) p)) (fun t' => ?_) (fun w2 F2 t' O' f1 f2 f3 f4 f5 => KidsAt.put f4 _ (KidsAt.keep (fun x hx => (f1 x (hFs2 x hx)).trans (hF0 x hx)) (fun x hx => f2 x (hFs2 x hx)) ch (fun x hx => (f3 x hx).trans (hsame x (hfr x (.inr hx)))) t4) f5) t6 hd2 (fun x h h' => (hm1 x (qm x h')).2 (hfr x (.inl h))) t9 t10 (fun x h h' => (hm1 x (qm x h)).2 (hfr x (.inr h')))
   rw [Yav p t' b' _ ch bs hlen]
   exact ⟨ys0, Zk2 q1 (fun _ _ => Nat.zero_le _), q2.keep (fun _ _ => rfl) hFe, q3, q4⟩
  ·exact ⟨⟨rfl, TreeAt.keep (fun _ _ => rfl) hFe _ (fun _ _ => rfl) s1⟩, fun x hx => hcl 0 x rfl hx⟩
 ·obtain ⟨x1, m1, _⟩ := Zch h1
  obtain ⟨x2, m2, _⟩ := Zch h2
  simp only [List.mem_cons, Prod.mk.injEq, List.not_mem_nil, or_false] at m1 m2
  rcases m1 with ⟨rfl, _⟩ | ⟨rfl, _⟩ <;> rcases m2 with ⟨rfl, _⟩ | ⟨rfl, _⟩
  ·rfl
  ·exact absurd f2 (hdj x f1)
  ·exact absurd f1 (hdj x f2)
  ·rfl
 ·obtain ⟨x1, m1, _⟩ := Zch h2
  simp only [List.mem_cons, Prod.mk.injEq, List.not_mem_nil, or_false] at m1
  rcases m1 with ⟨rfl, _⟩ | ⟨rfl, _⟩
  ·exact hrv.symm
  ·omega
 ·unfold VR Rep at hvr
  unfold VR
  rw [hvr.1]
  exact ⟨rfl, .inl ⟨_, rfl, .inr rfl, b', 1, 1, rfl, by simp [adr]⟩⟩
theorem Ylc (b : Nat) (m : List PEV) (ch : List (PEV × ST PEV)) (p : PEV) (hl : ∀ x ∈ ch.map (·.1), OPE x) (hp : OPE p) (hs : Srt Zaf (ch.map (·.1))) (hb : (ch.length + 1) * 40 ≤ 140737488351232) :
  Zif Tryz.prog 96 [.elt 1000 2 0 1, .dat (Za4 p)] [(1000, .res (Zbr b (.mk m ch)))] (ι := Nat) (fun _ => .elt 0 2 0 0)
   (fun b' => [(1000, .res (Zd1 b' (fun t' => .mk m (Zgz Zaf ch p t')) b)), (0, .res (Zbr b' ((Zea Zaf ch p).getD (.mk [] []))))]) := by
 cases hf : Ze9 Zaf (ch.map (·.1)) p with
 | true =>
  obtain ⟨x, g1, _, g3⟩ := Zm9 ch p (.mk [] []) hf
  have e : (fun t' => ST.mk m (Zgz Zaf ch p t')) = fun t' => ST.mk m (ch.set (Zbe Zaf (ch.map (·.1)) p) (x.1, t')) := by
   funext t'
   obtain ⟨y, h1, h2, _⟩ := Zm9 ch p t' hf
   rw [g1] at h1
   cases h1
   rw [h2]
  rw [e, g3]
  exact Ymx b m ch p hl hp hs hf g1
 | false =>
  have e : (fun t' => ST.mk m (Zgz Zaf ch p t')) = fun t' => ST.mk m (ch.take (Zbe Zaf (ch.map (·.1)) p) ++ (p, t') :: ch.drop (Zbe Zaf (ch.map (·.1)) p)) := by
   funext t'
   rw [(Zna ch p t' hf).1]
  rw [e, (Zna ch p (.mk [] []) hf).2]
  exact Ymz b m ch p hl hp hs hb hf
theorem Yhg {w : World} {F O1 O2 : Nat → Prop} {b b1 b2 : Nat} {g g' : ST PEV → ST PEV} (h1 : Yp7 w F O1 b1 g b) (h2 : Yp7 w F O2 b2 g' b1) (hd : ∀ x, O1 x → ¬ O2 x) : Yp7 w F (fun x => O1 x ∨ O2 x) b2 (fun t => g (g' t)) b := by
 intro w' F' t' O' f1 f2 f3 f4 f5
 have t2 := h2 w' F' t' O' f1 f2 (fun x hx => f3 x (.inr hx)) f4 (fun x hx => f5 x (.inr hx))
 refine (h1 w' F' _ _ f1 f2 (fun x hx => f3 x (.inl hx)) t2 fun x hx h => ?_).congr fun x => or_assoc
 rcases h with h | h
 ·exact hd x hx h
 ·exact f5 x (.inl hx) h
section
variable {P : Program} {X : Base} {N : Nat} {Q : Exit → Act → World → Prop} {ks : List Itm} {s : Sta}
theorem Ygu {k1 k2 : Nat} {b b1 b2 : Nat} {g g' : ST PEV → ST PEV} (hk1 : s.tb k1 = some (.res (Zd1 b1 g b))) (hk2 : s.tb k2 = some (.res (Zd1 b2 g' b1))) (hne : k1 ≠ k2)
  (h : Run P X N Q ks ((s.set k2 .dead).set k1 (.res (Zd1 b2 (fun t => g (g' t)) b)))) : Run P X N Q ks s := Zdm (fun a w ⟨ρ, hc⟩ => by
 obtain ⟨⟨v1, w1⟩, m1⟩ := hc.blks k1 _ hk1
 obtain ⟨⟨v2, w2⟩, m2⟩ := hc.blks k2 _ hk2
 have hap : ∀ x, (ρ k1).fp x → ¬ (ρ k2).fp x := fun x h1 h2 => hne (hc.apart k1 k2 x (by rw [hk1]; rfl) (by rw [hk2]; rfl) h1 h2)
 have hj := hc.join (js := [k1, k2]) (d := k1) (R := Zd1 b2 (fun t => g (g' t)) b) (v := (ρ k1).v) (O := fun x => (ρ k1).fp x ∨ (ρ k2).fp x) (w' := w) (fun k hk => by
   rcases List.mem_cons.1 hk with rfl | hk
   ·rw [hk1]; rfl
   ·rw [List.mem_singleton] at hk; subst hk; rw [hk2]; rfl) (.inr ⟨by simp, rfl, _, hk1⟩) (fun k hk t cs hcs => by
   rcases List.mem_cons.1 hk with rfl | hk
   ·rw [hk1] at hcs; cases hcs
   ·rw [List.mem_singleton] at hk; subst hk; rw [hk2] at hcs; cases hcs) rfl rfl rfl (Nat.le_refl _) (fun _ _ _ => rfl) (fun x hx => by
   rcases hx with hx | hx
   ·exact .inr ⟨k1, by simp, hx⟩
   ·exact .inr ⟨k2, by simp, hx⟩) (fun F' hF' => ⟨v1, Yhg (fun w' F2 t' O' f1 f2 f3 f4 f5 => w1 w' F2 t' O' (fun x hx => f1 x (hF' x hx)) (fun x hx => f2 x (hF' x hx)) f3 f4 f5) (fun w' F2 t' O' f1 f2 f3 f4 f5 => w2 w' F2 t' O' (fun x hx => f1 x (hF' x hx)) (fun x hx => f2 x (hF' x hx)) f3 f4 f5) hap⟩)
 have e : Zgm [k1, k2] k1 (Zd1 b2 (fun t => g (g' t)) b) s.tb = ((s.set k2 .dead).set k1 (.res (Zd1 b2 (fun t => g (g' t)) b))).tb := by
  funext j
  show _ = upd (upd s.tb k2 (some .dead)) k1 (some _) j
  unfold Zgm upd
  by_cases h1 : j = k1
  ·rw [if_pos h1, if_pos h1]
  ·rw [if_neg h1, if_neg h1]
   by_cases h2 : j = k2
   ·rw [if_pos h2, if_pos (by simp [h2])]
   ·rw [if_neg h2, if_neg (by simp [h1, h2])]
 rw [e] at hj
 exact ⟨_, hj⟩) h
end
structure Ytq (n : Nat) (T : ST PEV) where
 b : Nat
 t : ST PEV
 g : ST PEV → ST PEV
 q : List PEV
 eq : g (Zgy Zaf q t) = T
 ne : q ≠ []
 O : ∀ x ∈ q, OPE x
 W : WFT Zaf OPE t
 Z : SzT n t
theorem Yq6 (b b1 : Nat) (g : ST PEV → ST PEV) (t : ST PEV) (q : List PEV) (hq : q ≠ []) (hO : ∀ x ∈ q, OPE x) (hw : WFT Zaf OPE t) (n : Nat) (hz : SzT n t) (hn : n ≤ 549755813888) :
  Zif Tryz.prog 97 [.elt 1001 2 0 0, .dat (.sl 4 32 (q.map Za4))] [(1000, .res (Zd1 b1 g b)), (1001, .res (Zbr b1 t))] (ι := { x : Nat × ST PEV × (ST PEV → ST PEV) // x.2.2 x.2.1 = g (Zgy Zaf q t) }) (fun _ => .dat (.tup []))
   (fun x => [(1000, .res (Zd1 x.1.1 x.1.2.2 b)), (0, .res (Zbr x.1.1 x.1.2.1)), (1001, .dead)]) := by
 have g0 : decide ((((q.map Za4).length : Nat) : Int) = 0) = false := decide_eq_false (by
  have : q.length ≠ 0 := fun h => hq (List.eq_nil_of_length_eq_zero h)
  simp only [List.length_map]; omega)
 refine Zar Tryz.func97 rfl Tryz.ntmps97 rfl (fun X => ?_)
 refine wk ?_
 refine Zaq (ι := Ytq n (g (Zgy Zaf q t)))
  (fun j => [(0, .elt 100 2 0 0), (1, .dat (.sl 4 32 (j.q.map Za4)))])
  (fun j => [(1000, .res (Zd1 j.b j.g b)), (100, .res (Zbr j.b j.t)), (1001, .dead)]) (fun j => j.q.length) ⟨b1, t, g, q, rfl, hq, hO, hw, hz⟩ (fun k => if k = 100 then 1001 else k) ?_ ?_
 ·exact sb
 clear hO hw hz hq g0
 generalize g (Zgy Zaf q t) = T
 clear g t q b1
 rintro ⟨b1, ⟨m, ch⟩, g, q, he, hq, hO, hw, hz⟩
 obtain ⟨w1, w2, w3, w4⟩ := WFT_iff.1 hw
 obtain ⟨z1, z2, z3⟩ := SzT_iff.1 hz
 simp only [ST.m, ST.c] at w1 w2 w3 w4 z1 z2 z3
 have w4' : ∀ x ∈ ch.map (·.1), OPE x := fun x hx => by
  obtain ⟨y, hy, rfl⟩ := List.mem_map.1 hx
  exact (WFC_iff.1 w4 y hy).1
 cases q with
 | nil => exact absurd rfl hq
 | cons x q =>
  have hx := hO x (by simp)
  obtain ⟨u0, u1, u2, u3, e⟩ := Zc2 x
  cases q with
  | nil =>
   have c := Yju b1 m ch x w1 hx w2 (by omega)
   have i0 : ([x].map Za4)[(0 : Int).toNat]? = some (.agg [u0, u1, u2, u3]) := by rw [← e]; rfl
   have g1 : decide (((([x].map Za4).length : Nat) : Int) = 1) = true := rfl
   rw [e] at c
   have nd : Zia := ⟨trivial⟩
   refine wk ?_
   clear nd
   refine Zlc 6 (by kernel_rfl) ?_
   simp only [List.take_succ_cons, List.take_zero]
   refine wk ?_
   refine Zb5 (thk [(1000, 100)] 200) rfl (by kernel_rfl) c rfl ⟨rfl, trivial⟩ rfl (Zai rfl) rfl ?_
   refine wk ?_
   refine Za3 ⟨(b1, .mk (Zdj Zaf m x) ch, g), he⟩ (thk [(0, 100), (1000, 1000), (1001, 1001)] 0) (tm := []) ?_ (Zda rfl)
   exact sb
  | cons y r =>
   have c := Ylc b1 m ch x w4' hx w3 (by omega)
   have i0 : ((x :: y :: r).map Za4)[(0 : Int).toNat]? = some (.agg [u0, u1, u2, u3]) := by rw [← e]; rfl
   have g1 : decide (((((x :: y :: r).map Za4).length : Nat) : Int) = 1) = false := decide_eq_false (by simp only [List.length_map, List.length_cons]; omega)
   rw [e] at c
   have ln : 1 ≤ ((x :: y :: r).map Za4).length := by simp
   have l1 : PD.sl 4 32 (((((x :: y :: r).map Za4)).take ((x :: y :: r).map Za4).length).drop 1) = PD.sl 4 32 ((y :: r).map Za4) := by
    rw [List.take_length]; rfl
   have nd : Zia := ⟨trivial⟩
   refine wk ?_
   clear nd
   refine Zlc 6 (by kernel_rfl) ?_
   simp only [List.take_succ_cons, List.take_zero]
   refine wk ?_
   refine Zol (thk [(1000, 100)] 200) rfl (by kernel_rfl) c rfl ⟨rfl, trivial⟩ rfl (fun _ => Zai rfl) (fun _ => rfl) (fun b' => ?_)
   refine wk ?_
   refine Ygu (k1 := 1000) (k2 := 100) rfl rfl (by decide) ?_
   refine Zan ?_
   refine ⟨⟨b', (Zea Zaf ch x).getD (.mk [] []), fun t' => g (.mk m (Zgz Zaf ch x t')), y :: r, he, by simp, fun z hz => hO z (List.mem_cons_of_mem _ hz), ?_, Zza z3⟩, thk [(100, 200), (1000, 1000), (1001, 1001)] 0, by simp, ?_⟩
   ·cases hg : Zea Zaf ch x with
    | none => exact Zg6
    | some t' => exact Zr8 w4 hg
   ·exact sb
theorem Yi5 (b : Nat) (t : ST PEV) : Zbv Tryz.prog 97 [.elt 1000 2 0 0, .dat (.sl 4 32 [])] [(1000, .res (Zbr b t))] (.dat (.tup [])) [(1000, .res (Zbr b t))] := by
 refine Zar Tryz.func97 rfl Tryz.ntmps97 rfl (fun X => ?_)
 have g0 : decide (((([] : List PD).length : Nat) : Int) = 0) = true := rfl
 refine wk ?_
 refine Za3 () id (tm := []) ?_ (Zda rfl)
 exact sb
theorem Yq7 (b : Nat) (t : ST PEV) (q : List PEV) (hO : ∀ x ∈ q, OPE x) (hw : WFT Zaf OPE t) {n : Nat} (hz : SzT n t) (hn : n ≤ 549755813888) :
  Zbv Tryz.prog 97 [.elt 1000 2 0 0, .dat (.sl 4 32 (q.map Za4))] [(1000, .res (Zbr b t))] (.dat (.tup [])) [(1000, .res (Zbr b (Zgy Zaf q t)))] := by
 by_cases hq : q = []
 ·subst hq
  have e : Zgy Zaf [] t = t := by unfold Zgy; rfl
  rw [e]
  exact Yi5 b t
 have c := Yq6 b b id t q hq hO hw n hz hn
 intro X ρ vs hP hL hFL hlie hvs
 obtain ⟨m, ch⟩ := t
 obtain ⟨hLO, hLs, hrv, helt, ht⟩ := Zsu hL hlie
 obtain ⟨v1, v2, rfl, g1, g2⟩ := Zjn hvs
 have hv1 := helt g1
 let ρ1 : Nat → RV := fun k => if k = 1000 then ⟨slS b, fun _ => False⟩ else ⟨slS b, (ρ 1000).fp⟩
 have hfp1 : ∀ k x, Za6 (lkB [(1000, .res (Zd1 b id b)), (1001, .res (Zbr b (.mk m ch)))] k) = true → (ρ1 k).fp x → X.L x := fun k x h1 h2 => by
  simp only [ρ1] at h2
  split at h2
  ·exact h2.elim
  ·exact (hLO x).2 h2
 have hFs := Zr4 (rv := fun _ => slS b) hL hFL (fun _ h => h) hfp1
 refine (c (X.part X.L (fun _ h => h) fun _ => slS b) ρ1 [v1, v2] hP (fun x => ⟨fun hx => ⟨1001, rfl, (hLO x).1 hx⟩, fun ⟨k, h1, h2⟩ => hfp1 k x h1 h2⟩) hFL ⟨fun k x hx => ?_, fun k k' x h1 h2 e1 e2 => ?_, fun k _ _ => ?_⟩ ?_).mono ?_
 ·have hm := Zfh hx
  simp only [List.mem_cons, Prod.mk.injEq, List.not_mem_nil, or_false] at hm
  rcases hm with ⟨rfl, rfl⟩ | ⟨rfl, rfl⟩
  ·exact ⟨⟨rfl, fun w' F' t' O' f1 f2 f3 f4 f5 => f4.congr fun x => by show (False ∨ O' x) ↔ O' x; simp⟩, fun x h => False.elim h⟩
  ·exact ⟨⟨rfl, TreeAt.keep (fun _ _ => rfl) hFs _ (fun _ _ => rfl) ht⟩, fun x h => ⟨.inr ((hLO x).2 h), hLs x ((hLO x).2 h)⟩⟩
 ·obtain ⟨x1, m1, _⟩ := Zch h1
  obtain ⟨x2, m2, _⟩ := Zch h2
  simp only [List.mem_cons, Prod.mk.injEq, List.not_mem_nil, or_false] at m1 m2
  rcases m1 with ⟨rfl, _⟩ | ⟨rfl, _⟩ <;> rcases m2 with ⟨rfl, _⟩ | ⟨rfl, _⟩
  ·rfl
  ·exact False.elim e1
  ·exact False.elim e2
  ·rfl
 ·show (if k = 1000 then RV.mk (slS b) fun _ => False else ⟨slS b, (ρ 1000).fp⟩).v = slS b
  split <;> rfl
 ·unfold VRs
  refine ⟨v1, [v2], rfl, ?_, ?_⟩
  ·unfold VR
   exact ⟨by rw [hv1]; rfl, .inl ⟨_, rfl, .inr rfl, b, 1, 1, rfl, hv1⟩⟩
  ·unfold VRs
   refine ⟨v2, [], rfl, ?_, by unfold VRs; rfl⟩
   unfold VR at g2 ⊢
   exact g2.keep (fun _ _ => rfl) hFs
 ·rintro e' w' ⟨v, ⟨⟨b2, t2, g2'⟩, hi⟩, ρ2, he, hbel, hl2, hvr⟩
  obtain ⟨⟨s1, s2⟩, s3⟩ := hl2.blks 1000 _ rfl
  obtain ⟨⟨r1, r2⟩, r3⟩ := hl2.blks 0 _ rfl
  simp only at hi
  let ρf : Nat → RV := fun _ => ⟨slS b, fun x => (ρ2 1000).fp x ∨ (ρ2 0).fp x⟩
  have hFe : ∀ x, FF (X.part X.L (fun _ h => h) fun _ => slS b) w' (lkB [(1000, .res (Zd1 b2 g2' b)), (0, .res (Zbr b2 t2)), (1001, .dead)]) ρ2 x → FF X w' (lkB [(1000, .res (Zbr b (Zgy Zaf q (.mk m ch))))]) ρf x := Zy7 hFL hLs (fun _ h => h) fun k x h1 h2 => by
   rcases h2 with h | h
   ·exact .inl ⟨1000, rfl, h⟩
   ·exact .inl ⟨0, rfl, h⟩
  have hap : ∀ x, (ρ2 1000).fp x → ¬ (ρ2 0).fp x := fun x h1 h2 => by
   have := hl2.apart 1000 0 x rfl rfl h1 h2
   cases this
  refine ⟨v, (), ρf, he, Zmy hbel, ⟨fun k x hx => ?_, fun k k' x h1 h2 _ _ => ?_, fun k h1 h2 => ?_⟩, ?_⟩
  ·have hm := Zfh hx
   simp only [List.mem_cons, Prod.mk.injEq, List.not_mem_nil, or_false] at hm
   obtain ⟨rfl, rfl⟩ := hm
   refine ⟨⟨rfl, ?_⟩, fun x hx => ?_⟩
   ·have := s2 w' _ t2 _ (fun _ _ => rfl) hFe (fun _ _ => rfl) (TreeAt.keep (fun _ _ => rfl) hFe t2 (fun _ _ => rfl) r2) hap
    have this : TreeAt w' _ (g2' t2) b _ := this
    rw [hi] at this
    exact this
   ·rcases hx with h | h
    ·exact s3 x h
    ·exact r3 x h
  ·obtain ⟨x1, m1, _⟩ := Zch h1
   obtain ⟨x2, m2, _⟩ := Zch h2
   simp only [List.mem_cons, Prod.mk.injEq, List.not_mem_nil, or_false] at m1 m2
   rw [m1.1, m2.1]
  ·obtain ⟨x1, m1, _⟩ := Zch h2
   simp only [List.mem_cons, Prod.mk.injEq, List.not_mem_nil, or_false] at m1
   rw [m1.1]; exact hrv.symm
  ·unfold VR Rep at hvr ⊢
   obtain ⟨vs, e, h⟩ := hvr
   unfold Reps at h
   exact ⟨vs, e, by unfold Reps; exact h⟩
theorem Zmk {P : Program} {f : FuncId} {az : List PD} {t : ST PEV} (h : Zif P f (az.map .dat) [] (ι := Nat) (fun _ => .elt 0 2 0 0) (fun b => [(0, .res (Zbr b t))])) : PCall P f az (.ptr (Zbs t)) := by
 intro w F vs hF hv
 let X : Base := { w0 := w, F0 := F, L := fun _ => False, B := w.heap.size, N := 0, P := P, rv := fun _ => undef, hF0 := hF, hB := Nat.le_refl _, hN := by omega, hLB := fun _ h => h.elim }
 have hlk : ∀ k, lkB [] k = none := fun k => rfl
 have hFF : ∀ b, F b → FF X w (lkB []) (fun _ => RV.of undef) b := fun b hb => ⟨.inl hb, hF b hb, fun k hk => by rw [hlk] at hk; cases hk⟩
 refine (h X (fun _ => RV.of undef) vs rfl (fun b => ⟨fun h => h.elim, fun ⟨k, h, _⟩ => by rw [hlk] at h; cases h⟩) (fun _ _ h => h) ⟨fun k x h => (by rw [hlk] at h; cases h), fun k k' b h => (by rw [hlk] at h; cases h), fun k _ h => (by rw [hlk] at h; cases h)⟩ (VRs.of_dat (hv.keep (fun _ _ => rfl) hFF))).mono ?_
 rintro e w' ⟨v, b, ρ, he, hbel, hl, hvr⟩
 obtain ⟨⟨e1, ht⟩, hm⟩ := hl.blks 0 _ rfl
 refine ⟨v, he, ⟨hbel.os, hbel.tape, hbel.output, hbel.size, fun b hb => hbel.block b hb fun h => h⟩, ?_⟩
 have hO : ∀ x, (ρ 0).fp x → F x ∨ (w.heap.size ≤ x ∧ x < w'.heap.size) := fun x hx => by
  rcases hm x hx with ⟨h1 | h1, h2⟩
  ·exact .inr ⟨h1, h2⟩
  ·exact h1.elim
 obtain ⟨sm, sc, t1, t2, t3, t4, t5⟩ := ht.rep (F' := fun b => F b ∨ (w.heap.size ≤ b ∧ b < w'.heap.size)) (fun x hx => by
  rcases hx.1 with h1 | h1 | h1
  ·exact .inl h1
  ·exact .inr ⟨h1, hx.2.1⟩
  ·exact h1.elim) t hO
 unfold VR at hvr
 obtain ⟨_, ⟨x, _, _, g, len, c, e2, e3⟩ | h0⟩ := hvr
 ·rw [e1] at e2
  unfold slS at e2
  injection e2 with e2 _ _
  injection e2 with e2
  injection e2 with e2
  subst e2
  unfold Rep
  refine ⟨b, 0, .agg #[sm, sc], by rw [e3], hO b t5, t2, ?_⟩
  have hl := Zer (vs := [sm, sc]) t1 0
  simpa [Value.cells] using hl
 ·cases h0
theorem Yq9 {P : Program} {X : Base} {N : Nat} {Q : Exit → Act → World → Prop} {opa : Array Oper} {rem : List Nat} {ks : List Itm} {s : Sta} {d : Nat} {x : Operand} (hN : Nat.blt d N = true) (hd0 : s.tb d = none) (hx : s.ev x = .dat (.agg [.val (.slice none 0 0), .val (.slice none 0 0)]))
  (h : ∀ b, Run P X N Q (.ops opa rem :: ks) (s.new d (.res (Zbr b (.mk [] []))) (.elt d 2 0 0))) : Zbp P X N Q opa rem ks (some d) (.box 122 x) s := ⟨fun ty pos aft => ⟨fun hX a w hc => by
 have hi := Ylm (P := P) (X := X) (N := N) (ops := []) (s := s) (fun _ => .elt d 2 0 0) (fun b w F tb ρ h1 h2 => by unfold VR; exact ⟨rfl, .inl ⟨_, h1, .inr rfl, b, 1, 1, h2, by simp [adr]⟩⟩) hN hd0 hx
 exact hi.act hX ty pos aft s (fun i => ⟨fun _ _ => rfl, fun _ _ => rfl⟩) a w hc _ _ fun a' w' b hc' => (h b).out hX a' w' hc'⟩⟩
theorem Zzu : Zif Tryz.prog 140 [.dat (.val (.slice none 0 0))] [] (ι := Nat) (fun _ => .elt 0 2 0 0) (fun b => [(0, .res (Zbr b (.mk [] [])))]) := by
 have g0 : decide ((0 : Int) < 0) = false := rfl
 refine Zar Tryz.func140 rfl Tryz.ntmps140 rfl (fun X => ?_)
 have nd : Zia := ⟨trivial⟩
 refine wk ?_
 clear nd
 refine Yq9 rfl rfl rfl fun b => ?_
 refine wk ?_
 refine Zaq (ι := Unit) (fun _ => [(3, .elt 100 2 0 0), (9, .dat (.val (.int .i64 0))), (10, .dat (.val (.int .i64 0)))]) (fun _ => [(100, .res (Zbr b (.mk [] [])))]) (fun _ => 0) () (fun k => if k = 100 then 7 else k) ?_ fun _ => ?_
 ·exact sb
 refine wk ?_
 refine Za3 b (thk [(0, 100)] 0) (tm := [(2, .elt 0 2 0 0)]) ?_ (Zbc rfl rfl)
 exact sb
theorem Yfc {c : PEV → PEV → Int} (ps : List (List PEV)) (p : List PEV) : ofP c (ps ++ [p]) = Zgy c p (ofP c ps) := by
 unfold ofP
 rw [List.foldl_append]
 rfl
theorem Yfb {c : PEV → PEV → Int} (ps : List (List PEV)) : SzT ps.length (ofP c ps) := by
 have : ∀ n, n ≤ ps.length → SzT n (ofP c (ps.take n)) := by
  intro n
  induction n with
  | zero => intro _; rw [List.take_zero]; exact Zzv
  | succ n ih =>
   intro h
   rw [List.take_add_one, List.getElem?_eq_getElem h]
   simp only [Option.toList_some]
   rw [Yfc]
   exact Zw2 _ _ (ih (by omega))
 have h := this ps.length (Nat.le_refl _)
 rwa [List.take_length] at h
theorem Yhc (ps : List (List EV)) (hO : ∀ p ∈ ps, ∀ x ∈ p, OPE (Zaz x)) (hn : ps.length ≤ 549755813888) : Zif Tryz.prog 77 ([.sl 1 24 (ps.map pdP)].map .dat) [] (ι := Nat) (fun _ => .elt 0 2 0 0) (fun b => [(0, .res (Zbr b (ofP Zaf (ps.map (·.map Zaz)))))]) := by
 have c0 := Zzu
 have n1 : (ps.map pdP).length = ps.length := by simp
 have hO' : ∀ k, ∀ p ∈ (ps.map (·.map Zaz)).take k, ∀ x ∈ p, OPE x := fun k p hp x hx => by
  obtain ⟨q, hq, rfl⟩ := List.mem_map.1 (List.mem_of_mem_take hp)
  obtain ⟨y, hy, rfl⟩ := List.mem_map.1 hx
  exact hO q hq y hy
 refine Zar Tryz.func77 rfl Tryz.ntmps77 rfl (fun X => ?_)
 refine wk ?_
 refine Zol (thk [] 200) rfl (by kernel_rfl) c0 rfl trivial rfl (fun _ => Zai rfl) (fun _ => rfl) (fun b => ?_)
 refine wk ?_
 refine Zaq (ι := { k : Nat // k ≤ ps.length }) (fun k => [(3, .elt 100 2 0 0), (7, .dat (.sl 1 24 (ps.map pdP))), (8, .dat (.val (.int .i64 (((ps.map pdP).length : Nat) : Int)))), (9, .dat (.val (.int .i64 (k.1 : Nat))))]) (fun k => [(100, .res (Zbr b (ofP Zaf ((ps.map (·.map Zaz)).take k.1))))]) (fun k => ps.length - k.1) ⟨0, Nat.zero_le _⟩ (fun k => if k = 100 then 200 else k) ?_ ?_
 ·exact sb
 rintro ⟨k, hk⟩
 by_cases hlt : k < ps.length
 ·have g1 : decide ((k : Int) < (((ps.map pdP).length : Nat) : Int)) = true := decide_eq_true (by omega)
  obtain ⟨p, hp⟩ : ∃ p, ps[k]? = some p := ⟨_, List.getElem?_eq_getElem hlt⟩
  have i1 : (ps.map pdP)[((k : Nat) : Int).toNat]? = some (pdP p) := by simp [hp]
  have c1 := Yan p
  have hpm := List.mem_of_getElem? hp
  have c2 := Yq7 b (ofP Zaf ((ps.map (·.map Zaz)).take k)) (p.map Zaz) (fun x hx => by
   obtain ⟨y, hy, rfl⟩ := List.mem_map.1 hx
   exact hO p hpm y hy) (Zxd ordPE (hO' k)) (Yfb _) (by rw [List.length_take, List.length_map]; omega)
  have e : Zgy Zaf (p.map Zaz) (ofP Zaf ((ps.map (·.map Zaz)).take k)) = ofP Zaf ((ps.map (·.map Zaz)).take (k + 1)) := by
   rw [List.take_add_one, List.getElem?_map, hp]
   exact (Yfc _ _).symm
  rw [e] at c2
  unfold dvP at c1
  refine wk ?_
  refine Zb5 (thk [(1000, 100)] 300) rfl (by kernel_rfl) c2 rfl ⟨rfl, trivial⟩ rfl (Zai rfl) rfl ?_
  refine wk ?_
  refine Zan ?_
  refine ⟨⟨k + 1, by omega⟩, id, by simp only; omega, ?_⟩
  exact sb
 ·have g1 : decide ((k : Int) < (((ps.map pdP).length : Nat) : Int)) = false := decide_eq_false (by omega)
  have e : (ps.map (·.map Zaz)).take k = ps.map (·.map Zaz) := List.take_of_length_le (by rw [List.length_map]; omega)
  simp only [e]
  refine wk ?_
  refine Za3 b (thk [(0, 100)] 0) (tm := [(2, .elt 0 2 0 0)]) ?_ (Zbc rfl rfl)
  exact sb
theorem Yhd (ps : List (List EV)) (hO : ∀ p ∈ ps, ∀ x ∈ p, OPE (Zaz x)) (hn : ps.length ≤ 549755813888) : PCall Tryz.prog 77 [.sl 1 24 (ps.map pdP)] (.ptr (Zbs (ofP Zaf (ps.map (·.map Zaz))))) := Zmk (Yhc ps hO hn)
theorem Zn4 (j : JV) : PCall Tryz.prog 70 [dvV j] (qV (unJ j)) := by
 have c1 := Ypm j
 have c2 := Zlv j
 unfold dvV qV at *
 refine Zaa Tryz.func70 rfl Tryz.ntmps70 rfl (fun X => ?_)
 exact wke
def KL (p : PEV) : Prop := ∀ fl, p = .key fl → fl.length * 88 ≤ 140737488351232
theorem Zqj (p : PEV) (hk : KL p) : PCall Tryz.prog 85 [Za4 p] (pdE (Zei p)) := by
 cases p with
 | name s =>
  simp only [Za4, Zei, pdE, Zlj, Zdi]
  refine Zaa Tryz.func85 rfl Tryz.ntmps85 rfl (fun X => ?_)
  exact wke
 | val j =>
  have c := Zn4 j
  simp only [Za4, Zei, pdE, Zlj]
  generalize unJ j = y at *
  unfold dvV qV at *
  refine Zaa Tryz.func85 rfl Tryz.ntmps85 rfl (fun X => ?_)
  exact wke
 | idx n =>
  simp only [Za4, Zei, pdE, Zlj, Zdi]
  refine Zaa Tryz.func85 rfl Tryz.ntmps85 rfl (fun X => ?_)
  exact wke
 | key fl =>
  have hl := hk fl rfl
  clear hk
  simp only [Za4, Zei, Ycj, Zlj]
  have n1 : (fl.map Zeb).length = fl.length := by simp
  refine Zaa Tryz.func85 rfl Tryz.ntmps85 rfl (fun X => ?_)
  refine wk ?_
  refine Zde 3 2 100 9 1 16 rfl rfl rfl ?_
  refine Zde 3 3 101 27 6 88 rfl rfl rfl ?_
  refine Zaq (ι := { k : Nat // k ≤ fl.length })
   (fun k => [(2, .ptr 2 0), (3, .ptr 3 0), (23, .dat (.sl 2 32 (fl.map Zeb))), (24, .dat (.val (.int .i64 ((fl.map Zeb).length : Nat)))), (25, .dat (.val (.int .i64 (k.1 : Nat))))])
   (fun k => [(2, .box 29 (Zap (pdE ⟨0, ByteArray.empty, [], [], Zdi, 0⟩))), (3, .box 29 [.dat (.val (.int .i64 1)), .dat (.val (.string ⟨#[]⟩)), .own 100, .own 101, .dat (.val (.int .i64 0)), .dat (.val (.int .i64 0)), .dat (.val (.float .f64 0)), .dat (.val (.string ⟨#[]⟩)), .dat (.val (.slice none 0 0)), .dat (.val (.slice none 0 0)), .dat (.val (.int .i64 0))]), (100, .row 9 1 16 ((fl.take k.1).map fun x => .val (.string x.1))), (101, .row 27 6 88 ((fl.take k.1).map fun x => qV (unJ x.2)))]) (fun k => fl.length - k.1) ⟨0, Nat.zero_le _⟩ id ?_ ?_
  ·exact sb
  rintro ⟨k, hk⟩
  by_cases hlt : k < fl.length
  ·have hc : decide ((k : Int) < (((fl.map Zeb).length : Nat) : Int)) = true := decide_eq_true (by omega)
   obtain ⟨x, hx⟩ : ∃ x, fl[k]? = some x := ⟨_, List.getElem?_eq_getElem hlt⟩
   have i1 : (fl.map Zeb)[((k : Nat) : Int).toNat]? = some (.agg [.val (.string x.1), dvV x.2]) := by simp [hx, Zeb]
   have c := Zn4 x.2
   have e1 : ((fl.take (k + 1)).map fun x => PD.val (.string x.1)) = ((fl.take k).map fun x => PD.val (.string x.1)) ++ [.val (.string x.1)] := by simp [List.take_add_one, hx]
   have e2 : ((fl.take (k + 1)).map fun x => qV (unJ x.2)) = ((fl.take k).map fun x => qV (unJ x.2)) ++ [qV (unJ x.2)] := by simp [List.take_add_one, hx]
   have l1 : ((fl.take k).map fun x => PD.val (.string x.1)).length + 1 ≤ fl.length := by simp; omega
   have l2 : ((fl.take k).map fun x => qV (unJ x.2)).length + 1 ≤ fl.length := by simp; omega
   generalize ((fl.take k).map fun x => PD.val (.string x.1)) = da at *
   generalize ((fl.take k).map fun x => qV (unJ x.2)) = db at *
   generalize unJ x.2 = y at *
   unfold qV at *
   have q1 : (da.length + [PD.val (.string x.1)].length) * 16 ≤ 140737488351232 := by simp; omega
   have q2 : da.length + [PD.val (.string x.1)].length ≤ 140737488351232 := by simp; omega
   refine wk ?_
   refine Zan ?_
   refine ⟨⟨k + 1, by omega⟩, (fun j => if j = 100 then 34 else if j = 101 then 42 else j), by simp only; omega, ?_⟩
   rw [e1, e2]
   exact sb
  ·have hc : decide ((k : Int) < (((fl.map Zeb).length : Nat) : Int)) = false := decide_eq_false (by omega)
   have hkk : fl.take k = fl := List.take_of_length_le (by omega)
   simp only [hkk]
   have e1 : pdS (fl.map (·.1)) = fl.map fun x => PD.val (.string x.1) := by simp [pdS]
   have e2 : Zb8 (fl.map fun p => unJ p.2) = fl.map fun x => qV (unJ x.2) := by rw [Zhe, List.map_map]; exact List.map_congr_left fun x _ => Zsx _
   simp only [pdE, e1, e2, Zdi]
   refine wk ?_
   refine Zbj (fun _ => false) (fun k => k == 100 || k == 101) ?_
   exact wke
theorem Ye2 {P : Program} {X : Base} {N : Nat} {Q : Exit → Act → World → Prop} {opa : Array Oper} {rem : List Nat} {ks : List Itm} {s s2 : Sta} {d : Option Tmp} {op : Op} (hl : ∀ (Q : Exit → Act → World → Prop) (ks : List Itm), Run P X N Q ks s2 → Run P X N Q ks s) (h : Zbp P X N Q opa rem ks d op s2) : Zbp P X N Q opa rem ks d op s :=
 ⟨fun ty pos aft => ⟨fun hX a w hc => (h.out ty pos aft).out hX a w ((hl (fun _ a w => Conc X s2 a w) [] (Zs0 fun a w hc => hc)).out hX a w hc)⟩⟩
theorem Yct (p : PEV) (hk : KL p) (acc : List PD) (hb : (acc.length + 1) * 168 ≤ 140737488351232) :
  Zbv Tryz.prog 142 [.dat (Za4 p), .ptr 1000 0] [(1000, .box 22 [.own 1001]), (1001, .row 29 11 168 acc)] (.dat (.tup [])) [(1000, .box 22 [.own 0]), (0, .row 29 11 168 (acc ++ [pdE (Zei p)])), (1001, .dead)] := by
 have c1 := Zqj p hk
 obtain ⟨u0, u1, u2, u3, e⟩ := Zc2 p
 rw [e] at c1 ⊢
 have hbt : (acc.length + [pdE (Zei p)].length) * 168 ≤ 140737488351232 := by simpa using hb
 have hbl : acc.length + [pdE (Zei p)].length ≤ 140737488351232 := by simp only [List.length_cons, List.length_nil]; omega
 unfold pdE at c1 hbt hbl ⊢
 refine Zar Tryz.func142 rfl Tryz.ntmps142 rfl (fun X => ?_)
 refine wk ?_
 refine Zfo () (fun j => if j = 0 then 7 else j) (tm := []) ?_ (Zda rfl)
 exact sb
theorem Yq8 (l : List PEV) (hk : ∀ p ∈ l, KL p) (hn : l.length ≤ 549755813888) :
  Zbv Tryz.prog 141 [.dat (.ptr (.agg [.sl 4 32 (l.map Za4)])), .clo 142 [.ptr 1000 0]] [(1000, .box 22 [.own 1001]), (1001, .row 29 11 168 [])] (.dat (.tup [])) [(1000, .box 22 [.own 0]), (0, .row 29 11 168 (l.map fun p => pdE (Zei p))), (1001, .dead)] := by
 have n1 : (l.map Za4).length = l.length := by simp
 have ga : ∀ {i : Nat} {x : PEV}, l[i]? = some x → (l.map Za4)[((i : Nat) : Int).toNat]? = some (Za4 x) := fun h => by simp [h]
 generalize l.map Za4 = da at *
 refine Zar Tryz.func141 rfl Tryz.ntmps141 rfl (fun X => ?_)
 refine wk ?_
 refine Zaq (ι := { k : Nat // k ≤ l.length })
  (fun k => [(1, .clo 142 [.ptr 1000 0]), (9, .dat (.sl 4 32 da)), (10, .dat (.val (.int .i64 ((da.length : Nat) : Int)))), (11, .dat (.val (.int .i64 (k.1 : Nat))))])
  (fun k => [(1000, .box 22 [.own 100]), (100, .row 29 11 168 ((l.take k.1).map fun p => pdE (Zei p))), (1001, .dead)]) (fun k => l.length - k.1) ⟨0, Nat.zero_le _⟩ (fun j => if j = 100 then 1001 else j) ?_ ?_
 ·exact sb
 rintro ⟨k, hkl⟩
 by_cases hlt : k < l.length
 ·have hc : decide ((k : Int) < ((da.length : Nat) : Int)) = true := decide_eq_true (by omega)
  obtain ⟨p, hp⟩ : ∃ p, l[k]? = some p := ⟨_, List.getElem?_eq_getElem hlt⟩
  have hi := ga hp
  have c1 := Yct p (hk p (List.mem_of_getElem? hp)) ((l.take k).map fun p => pdE (Zei p)) (by simp; omega)
  have e2 : ((l.take k).map fun p => pdE (Zei p)) ++ [pdE (Zei p)] = (l.take (k + 1)).map fun p => pdE (Zei p) := by simp [List.take_add_one, hp]
  rw [e2] at c1
  obtain ⟨u0, u1, u2, u3, e⟩ := Zc2 p
  rw [e] at hi c1
  refine wk ?_
  refine Zhz (thk [(1000, 1000), (1001, 100)] 200) rfl rfl (by kernel_rfl) c1 rfl ⟨rfl, rfl, trivial⟩ rfl (Zai rfl) rfl ?_
  refine wk ?_
  refine Zan ?_
  refine ⟨⟨k + 1, by omega⟩, (fun j => if j = 100 then 200 else j), by simp only; omega, ?_⟩
  exact sb
 ·have hc : decide ((k : Int) < ((da.length : Nat) : Int)) = false := decide_eq_false (by omega)
  have hkk : l.take k = l := List.take_of_length_le (by omega)
  simp only [hkk]
  refine wk ?_
  refine Zfo () (fun j => if j = 0 then 100 else j) (tm := []) ?_ (Zda rfl)
  exact sb
theorem Zr6 (l : List PEV) (hk : ∀ p ∈ l, KL p) (hn : l.length ≤ 549755813888) : PCall Tryz.prog 78 [.ptr (.agg [.sl 4 32 (l.map Za4)])] (.sl 11 168 (l.map fun p => pdE (Zei p))) := by
 have c1 := Yq8 l hk hn
 generalize l.map Za4 = da at *
 generalize (l.map fun p => pdE (Zei p)) = db at *
 refine Zaa Tryz.func78 rfl Tryz.ntmps78 rfl (fun X => ?_)
 refine wk ?_
 refine Ye2 (fun _ _ => Zde 3 0 100 29 11 168 rfl rfl rfl) ?_
 refine Zb5 (thk [(1000, 3), (1001, 100)] 200) rfl (by kernel_rfl) c1 rfl ⟨rfl, rfl, trivial⟩ rfl (Zai rfl) rfl ?_
 refine wk ?_
 refine Zbj (fun _ => false) (fun k => k == 200) ?_
 exact wke
theorem Zmn (ps : List (List EV)) (hO : ∀ p ∈ ps, ∀ x ∈ p, OPE (Zaz x) ∧ KL (Zaz x)) (hn : ps.length ≤ 549755813888) : PCall Tryz.prog 23 [.sl 1 24 (ps.map pdP)] (.sl 11 168 ((ofP Zaf (ps.map (·.map Zaz))).m.map fun p => pdE (Zei p))) := by
 have c1 := Yhd ps (fun p hp x hx => (hO p hp x hx).1) hn
 have hW : WFT Zaf (fun p => OPE p ∧ KL p) (ofP Zaf (ps.map (·.map Zaz))) := Zxd (P := fun p => OPE p ∧ KL p) ⟨fun a b d ha hb hd => ordPE.1 a b d ha.1 hb.1 hd.1, fun a b ha hb => ordPE.2 a b ha.1 hb.1⟩ (fun p hp x hx => by
  obtain ⟨q, hq, rfl⟩ := List.mem_map.1 hp
  obtain ⟨y, hy, rfl⟩ := List.mem_map.1 hx
  exact hO q hq y hy)
 have hZ := Yfb (c := Zaf) (ps.map (·.map Zaz))
 rw [List.length_map] at hZ
 generalize ofP Zaf (ps.map (·.map Zaz)) = t at *
 obtain ⟨m, ch⟩ := t
 have hw := (WFT_iff.1 hW).1
 have hz := (SzT_iff.1 hZ).1
 simp only [ST.m] at hw hz ⊢
 have c2 := Zr6 m (fun p hp => (hw p hp).2) (by omega)
 unfold Zbs at c1
 generalize m.map Za4 = da at *
 generalize Zbi ch = dc at *
 generalize (m.map fun p => pdE (Zei p)) = db at *
 refine Zaa Tryz.func23 rfl Tryz.ntmps23 rfl (fun X => ?_)
 exact wke
theorem Ybe (v : Value) (q : List PEV) (hk : ∀ p ∈ q, KL p) (hb : q.length * 168 ≤ 140737488351232) :
  Zbv Tryz.prog 154 [.own 1000] [(1000, .res (Zhg v 99 4 32 (q.map Za4)))] (.dat (.sl 11 168 (q.map fun p => pdE (Zei p)))) [(1000, .res (Zhg v 99 4 32 (q.map Za4)))] := by
 have n1 : (q.map Za4).length = q.length := by simp
 have ga : ∀ {i : Nat} {x : PEV}, q[i]? = some x → (q.map Za4)[i]? = some (Za4 x) := fun h => by simp [h]
 generalize q.map Za4 = da at *
 refine Zar Tryz.func154 rfl Tryz.ntmps154 rfl (fun X => ?_)
 refine Ykl (k := 1000) rfl (by decide) fun hv => ?_
 refine Yb4 (k := 1000) rfl ?_
 refine wk ?_
 refine Zaq (ι := { k : Nat // k ≤ q.length })
  (fun k => [(3, .own 100), (7, .own 1000), (8, .dat (.val (.int .i64 ((da.length : Nat) : Int)))), (9, .dat (.val (.int .i64 (k.1 : Nat))))])
  (fun k => [(1000, .row 99 4 32 da), (100, .row 29 11 168 ((q.take k.1).map fun p => pdE (Zei p)))]) (fun k => q.length - k.1) ⟨0, Nat.zero_le _⟩ (fun j => if j = 100 then 6 else j) ?_ ?_
 ·exact sb
 rintro ⟨k, hkl⟩
 by_cases hlt : k < q.length
 ·have hc : decide ((k : Int) < ((da.length : Nat) : Int)) = true := decide_eq_true (by omega)
  obtain ⟨p, hp⟩ : ∃ p, q[k]? = some p := ⟨_, List.getElem?_eq_getElem hlt⟩
  have hi := ga hp
  have hil : k < da.length := by omega
  have c1 := Zqj p (hk p (List.mem_of_getElem? hp))
  have hbt : (((q.take k).map fun p => pdE (Zei p)).length + [pdE (Zei p)].length) * 168 ≤ 140737488351232 := by simp; omega
  have hbl : ((q.take k).map fun p => pdE (Zei p)).length + [pdE (Zei p)].length ≤ 140737488351232 := by simp; omega
  have e : ((q.take k).map fun p => pdE (Zei p)) ++ [pdE (Zei p)] = ((q.take (k + 1)).map fun p => pdE (Zei p)) := by simp [List.take_add_one, hp]
  generalize ((q.take k).map fun p => pdE (Zei p)) = r1 at *
  obtain ⟨u0, u1, u2, u3, e1⟩ := Zc2 p
  rw [e1] at hi c1
  unfold pdE at c1 hbt hbl
  refine wk ?_
  refine Yny rfl rfl rfl hi ?_
  refine wk ?_
  refine Zan ?_
  refine ⟨⟨k + 1, by omega⟩, (fun j => if j = 100 then 17 else j), by simp only; omega, ?_⟩
  exact sb
 ·have hc : decide ((k : Int) < ((da.length : Nat) : Int)) = false := decide_eq_false (by omega)
  have hkk : q.take k = q := List.take_of_length_le (by omega)
  simp only [hkk]
  refine Zbj (fun _ => false) (fun k => k == 100) ?_
  refine wk ?_
  refine Ygq (k := 1000) rfl (by decide) hv ?_
  refine Za3 () id (tm := [(2, .dat (.sl 11 168 (q.map fun p => pdE (Zei p))))]) ?_ (Zbc rfl rfl)
  exact sb
theorem Ycu (v : Value) (q : List PEV) (hk : ∀ p ∈ q, KL p) (hb : q.length * 168 ≤ 140737488351232) (acc : List PD) (ha : (acc.length + 1) * 24 ≤ 140737488351232) :
  Zbv Tryz.prog 153 [.own 1000, .ptr 1001 0] [(1000, .res (Zhg v 99 4 32 (q.map Za4))), (1001, .box 38 [.own 1002]), (1002, .row 22 1 24 acc)] (.dat (.tup []))
   [(1000, .res (Zhg v 99 4 32 (q.map Za4))), (1001, .box 38 [.own 0]), (0, .row 22 1 24 (acc ++ [.sl 11 168 (q.map fun p => pdE (Zei p))])), (1002, .dead)] := by
 have c1 := Ybe v q hk hb
 have hbt : (acc.length + [PD.sl 11 168 (q.map fun p => pdE (Zei p))].length) * 24 ≤ 140737488351232 := by simpa using ha
 have hbl : acc.length + [PD.sl 11 168 (q.map fun p => pdE (Zei p))].length ≤ 140737488351232 := by simp only [List.length_cons, List.length_nil]; omega
 generalize q.map Za4 = da at *
 generalize (q.map fun p => pdE (Zei p)) = db at *
 refine Zar Tryz.func153 rfl Tryz.ntmps153 rfl (fun X => ?_)
 refine wk ?_
 refine Zcl (Zrv (thk [(1000, 1000)] 200) rfl (by kernel_rfl) c1 rfl rfl rfl rfl rfl) ?_
 refine wk ?_
 refine Zfo () (fun j => if j = 0 then 7 else j) (tm := []) ?_ (Zda rfl)
 exact sb
theorem Zyq {P : Program} {X : Base} {N : Nat} {ops : List Oper} {s : Sta} {d : Nat} {x : Operand} {t k off T n : Nat} {cs : List AV} {g : Bool} {f : Nat} {l : List AV} (hN : Nat.blt d N = true) (hx : s.ev x = .ptr k off) (hk : s.tb k = some (.box T cs)) [ht : VI P t n g] (hf : Zrb g n off cs = some (.clo f l)) : TrK P X N ops (some d) (.load t x) (Eff.put (some d) (.clo f l)) s (s.put (some d) (.clo f l)) := Zbm hN fun s' _ _ _ _ hd hev htb => Zh2 hd rfl ((hev _ (by simp [Op.operands, Call.operands])).trans hx) ((htb x (by simp [Op.operands, Call.operands]) _ (by rw [hx]; simp [Zbq])).trans hk) ht.out hf
def ipP (q : List PEV) : PD := .sl 11 168 (q.map fun p => pdE (Zei p))
theorem Ybb (v : Value) (q : List PEV) (p : PEV) (hk : ∀ x ∈ q ++ [p], KL x) (hb : (q ++ [p]).length * 168 ≤ 140737488351232) (acc : List PD) (ha : (acc.length + 1) * 24 ≤ 140737488351232) :
  Zbv Tryz.prog 234 [.dat (Za4 p), .ptr 1000 0, .ptr 1001 0] [(1000, .box 152 [.clo 153 [.ptr 1003 0]]), (1001, .box 153 [.own 1002]), (1002, .res (Zhg v 99 4 32 (q.map Za4))), (1003, .box 38 [.own 1004]), (1004, .row 22 1 24 acc)] (.dat (.tup []))
   [(1000, .box 152 [.clo 153 [.ptr 1003 0]]), (1001, .box 153 [.own 1002]), (1002, .res (Zhg v 99 4 32 (q.map Za4))), (1003, .box 38 [.own 0]), (0, .row 22 1 24 (acc ++ [ipP (q ++ [p])])), (1004, .dead)] := by
 have c := fun v' => Ycu v' (q ++ [p]) hk hb acc ha
 rw [List.map_append, List.map_cons, List.map_nil] at c
 have hb1 : ((q.map Za4).length + [Za4 p].length) * 32 ≤ 140737488351232 := by simp at hb ⊢; omega
 have hb2 : (q.map Za4).length + [Za4 p].length ≤ 140737488351232 := by simp at hb ⊢; omega
 obtain ⟨u0, u1, u2, u3, e⟩ := Zc2 p
 rw [e] at c hb1 hb2 ⊢
 unfold ipP
 generalize q.map Za4 = da at *
 generalize ((q ++ [p]).map fun p => pdE (Zei p)) = db at *
 refine Zar Tryz.func234 rfl Tryz.ntmps234 rfl (fun X => ?_)
 have nd : Zia := ⟨trivial⟩
 refine wk ?_
 refine Zcq rfl rfl rfl rfl ?_
 refine wk ?_
 clear nd
 refine Zvq 4 5 [] (.slice none 0 0) (fun v' : Value => Eff.bk 1002 8 (.res (Zmt v v' 99 4 32 da)) (.res (Zhg v' 99 4 32 (da ++ [.agg [u0, u1, u2, u3]])))) (by kernel_rfl) rfl (by decide) (by decide) ?_
 simp only [List.take_succ_cons, List.take_zero, List.drop_succ_cons, List.drop_zero, Nat.reduceAdd]
 refine wk ?_
 refine Zcl (Zyq rfl rfl rfl rfl) ?_
 refine wk ?_
 refine Zmu ⟨Zuo rfl rfl rfl rfl rfl rfl (by kernel_rfl) rfl rfl (by simp) hb1 hb2, fun v' => ?_⟩
 refine wk ?_
 refine ⟨rfl, ?_⟩
 refine wk ?_
 refine Zhz (thk [(1000, 8), (1001, 1003), (1002, 1004)] 200) rfl rfl (by kernel_rfl) (c v') rfl ⟨rfl, rfl, rfl, trivial⟩ rfl (Zai rfl) rfl ?_
 refine wk ?_
 refine Zvo (k := 1002) (d := 8) rfl rfl (by decide) ?_
 refine Zfo () (fun j => if j = 0 then 200 else j) (tm := []) ?_ (Zda rfl)
 exact sb
theorem Ynt (v : Value) (q : List PEV) (l : List PEV) (hk : ∀ x ∈ q, KL x) (hkl : ∀ x ∈ l, KL x) (hb : (q.length + 1) * 168 ≤ 140737488351232) (acc : List PD) (ha : (acc.length + l.length) * 24 ≤ 140737488351232) :
  Zbv Tryz.prog 141 [.dat (.ptr (.agg [.sl 4 32 (l.map Za4)])), .clo 234 [.ptr 1000 0, .ptr 1001 0]] [(1000, .box 152 [.clo 153 [.ptr 1003 0]]), (1001, .box 153 [.own 1002]), (1002, .res (Zhg v 99 4 32 (q.map Za4))), (1003, .box 38 [.own 1004]), (1004, .row 22 1 24 acc)] (.dat (.tup []))
   [(1000, .box 152 [.clo 153 [.ptr 1003 0]]), (1001, .box 153 [.own 1002]), (1002, .res (Zhg v 99 4 32 (q.map Za4))), (1003, .box 38 [.own 0]), (0, .row 22 1 24 (acc ++ l.map fun p => ipP (q ++ [p]))), (1004, .dead)] := by
 have n1 : (l.map Za4).length = l.length := by simp
 have ga : ∀ {i : Nat} {x : PEV}, l[i]? = some x → (l.map Za4)[((i : Nat) : Int).toNat]? = some (Za4 x) := fun h => by simp [h]
 have hbn : l.length ≤ 140737488351232 := by omega
 generalize l.map Za4 = da at *
 refine Zar Tryz.func141 rfl Tryz.ntmps141 rfl (fun X => ?_)
 refine wk ?_
 refine Zaq (ι := { k : Nat // k ≤ l.length })
  (fun k => [(1, .clo 234 [.ptr 1000 0, .ptr 1001 0]), (9, .dat (.sl 4 32 da)), (10, .dat (.val (.int .i64 ((da.length : Nat) : Int)))), (11, .dat (.val (.int .i64 (k.1 : Nat))))])
  (fun k => [(1000, .box 152 [.clo 153 [.ptr 1003 0]]), (1001, .box 153 [.own 1002]), (1002, .res (Zhg v 99 4 32 (q.map Za4))), (1003, .box 38 [.own 100]), (100, .row 22 1 24 (acc ++ (l.take k.1).map fun p => ipP (q ++ [p]))), (1004, .dead)]) (fun k => l.length - k.1) ⟨0, Nat.zero_le _⟩ (fun j => if j = 100 then 1004 else j) ?_ ?_
 ·have e0 : acc = acc ++ ([] : List PEV).map fun p => ipP (q ++ [p]) := by simp
  exact sb
 rintro ⟨k, hkl2⟩
 by_cases hlt : k < l.length
 ·have hc : decide ((k : Int) < ((da.length : Nat) : Int)) = true := decide_eq_true (by omega)
  obtain ⟨p, hp⟩ : ∃ p, l[k]? = some p := ⟨_, List.getElem?_eq_getElem hlt⟩
  have hi := ga hp
  have hq1 : (q ++ [p]).length * 168 ≤ 140737488351232 := by rw [List.length_append]; exact hb
  have hq2 : (acc ++ (l.take k).map fun p => ipP (q ++ [p])).length + 1 ≤ acc.length + l.length := by
   rw [List.length_append, List.length_map, List.length_take]
   omega
  have hq3 := Nat.le_trans (Nat.mul_le_mul_right 24 hq2) ha
  have c1 := Ybb v q p (fun x hx => by
   rcases List.mem_append.1 hx with h | h
   ·exact hk x h
   ·rw [List.mem_singleton] at h; rw [h]; exact hkl p (List.mem_of_getElem? hp)) hq1 (acc ++ (l.take k).map fun p => ipP (q ++ [p])) hq3
  have e2 : acc ++ ((l.take k).map fun p => ipP (q ++ [p])) ++ [ipP (q ++ [p])] = acc ++ (l.take (k + 1)).map fun p => ipP (q ++ [p]) := by simp [List.take_add_one, hp]
  rw [e2] at c1
  obtain ⟨u0, u1, u2, u3, e⟩ := Zc2 p
  rw [e] at hi c1
  refine wk ?_
  refine Zhz (thk [(1000, 1000), (1001, 1001), (1002, 1002), (1003, 1003), (1004, 100)] 200) rfl rfl (by kernel_rfl) c1 rfl ⟨rfl, rfl, rfl, rfl, rfl, trivial⟩ rfl (Zai rfl) rfl ?_
  refine wk ?_
  refine Zan ?_
  refine ⟨⟨k + 1, by omega⟩, (fun j => if j = 100 then 200 else j), by simp only; omega, ?_⟩
  exact sb
 ·have hc : decide ((k : Int) < ((da.length : Nat) : Int)) = false := decide_eq_false (by omega)
  have hkk : l.take k = l := List.take_of_length_le (by omega)
  simp only [hkk]
  refine wk ?_
  refine Zfo () (fun j => if j = 0 then 100 else j) (tm := []) ?_ (Zda rfl)
  exact sb
mutual
/-- A set below a prefix of the length d whose paths all fit in memory. -/
def DpT (d : Nat) : ST PEV → Prop
 | .mk m ch => (∀ x ∈ m, KL x) ∧ (d + 1) * 168 ≤ 140737488351232 ∧ DpC d ch
def DpC (d : Nat) : List (PEV × ST PEV) → Prop
 | [] => True
 | y :: r => (KL y.1 ∧ DpT (d + 1) y.2) ∧ DpC d r
end
theorem DpC_iff {d : Nat} {l : List (PEV × ST PEV)} : DpC d l ↔ ∀ y ∈ l, KL y.1 ∧ DpT (d + 1) y.2 := by
 induction l with
 | nil => unfold DpC; simp
 | cons y r ih => unfold DpC; rw [ih]; simp
def Ycp (t : ST PEV) : Prop := ∀ (v : Value) (q : List PEV) (acc : List PD), SzT 1099511627776 t → (∀ x ∈ q, KL x) → DpT q.length t → (acc.length + (Zc0 t).length) * 24 ≤ 140737488351232 →
 Zbv Tryz.prog 209 [.dat (.ptr (Zbs t)), .own 1000, .clo 153 [.ptr 1001 0]] [(1000, .res (Zhg v 99 4 32 (q.map Za4))), (1001, .box 38 [.own 1002]), (1002, .row 22 1 24 acc)] (.dat (.tup []))
  [(1000, .res (Zhg v 99 4 32 (q.map Za4))), (1001, .box 38 [.own 0]), (0, .row 22 1 24 (acc ++ (Zc0 t).map fun r => ipP (q ++ r))), (1002, .dead)]
def Yp1 (l : List (PEV × ST PEV)) : Prop := ∀ (v : Value) (q : List PEV) (acc : List PD), l.length ≤ 1099511627776 → (∀ y ∈ l, SzT 1099511627776 y.2) → (∀ x ∈ q, KL x) → DpC q.length l → (q.length + 1) * 168 ≤ 140737488351232 → (acc.length + (Zba l).length) * 24 ≤ 140737488351232 →
 Zbv Tryz.prog 235 [.dat (.ptr (.agg [.sl 5 40 (Zbi l)])), .own 1000, .clo 153 [.ptr 1001 0]] [(1000, .res (Zhg v 99 4 32 (q.map Za4))), (1001, .box 38 [.own 1002]), (1002, .row 22 1 24 acc)] (.dat (.tup []))
  [(1000, .res (Zhg v 99 4 32 (q.map Za4))), (1001, .box 38 [.own 0]), (0, .row 22 1 24 (acc ++ (Zba l).map fun r => ipP (q ++ r))), (1002, .dead)]
theorem Yi7 (m : List PEV) (ch : List (PEV × ST PEV)) (hN : Yp1 ch) : Ycp (.mk m ch) := by
 intro v q acc hz hq hd hb
 obtain ⟨_, z1, z2⟩ := SzT_iff.1 hz
 unfold DpT at hd
 obtain ⟨d1, d2, d3⟩ := hd
 have hw : Zc0 (ST.mk m ch) = m.map (fun x => [x]) ++ Zba ch := Zj2 _
 have hl : (Zc0 (ST.mk m ch)).length = m.length + (Zba ch).length := by rw [hw]; simp
 rw [hl] at hb
 have hb1 : (acc.length + m.length) * 24 ≤ 140737488351232 := by omega
 have c1 := Ynt v q m hq d1 d2 acc hb1
 have hb2 : ((acc ++ m.map fun p => ipP (q ++ [p])).length + (Zba ch).length) * 24 ≤ 140737488351232 := by
  rw [List.length_append, List.length_map]; omega
 have c2 := hN v q (acc ++ m.map fun p => ipP (q ++ [p])) z1 z2 hq d3 d2 hb2
 have e : acc ++ (Zc0 (ST.mk m ch)).map (fun r => ipP (q ++ r)) = (acc ++ m.map fun p => ipP (q ++ [p])) ++ (Zba ch).map fun r => ipP (q ++ r) := by
  rw [hw, List.map_append, List.map_map, List.append_assoc]; rfl
 rw [e]
 clear e hb hb1 hb2 hl hw hN hq d1 d2 d3 z1 z2 hz
 unfold Zbs
 generalize (acc ++ m.map fun p => ipP (q ++ [p])) = acc1 at *
 generalize acc1 ++ (Zba ch).map (fun r => ipP (q ++ r)) = acc2 at *
 generalize q.map Za4 = dq at *
 generalize m.map Za4 = dm at *
 generalize Zbi ch = dc at *
 refine Zar Tryz.func209 rfl Tryz.ntmps209 rfl (fun X => ?_)
 refine wk ?_
 refine Zb5 (thk [(1000, 5), (1001, 4), (1002, 1000), (1003, 1001), (1004, 1002)] 200) rfl (by kernel_rfl) c1 rfl ⟨rfl, rfl, rfl, rfl, rfl, trivial⟩ rfl (Zai rfl) rfl ?_
 have nd : Zia := ⟨trivial⟩
 refine wk ?_
 clear nd
 refine Zlc 5 (by kernel_rfl) ?_
 simp only [List.take_succ_cons, List.take_zero]
 refine wk ?_
 refine Zcl (Zyq rfl rfl rfl rfl) ?_
 refine wk ?_
 refine Zb5 (thk [(1000, 1000), (1001, 1001), (1002, 200)] 300) rfl (by kernel_rfl) c2 rfl ⟨rfl, rfl, rfl, trivial⟩ rfl (Zai rfl) rfl ?_
 refine wk ?_
 refine Zfo () (fun j => if j = 0 then 300 else j) (tm := []) ?_ (Zda rfl)
 exact sb
theorem Zqc : ∀ {l : List (PEV × ST PEV)} {k : Nat} {y : PEV × ST PEV}, l[k]? = some y → (Zbi l)[((k : Nat) : Int).toNat]? = some (.agg (peC y.1 ++ [.ptr (Zbs y.2)]))
 | [], k, y, h => by simp at h
 | z :: r, 0, y, h => by
  simp at h; subst h
  unfold Zbi
  rfl
 | z :: r, k + 1, y, h => by
  have := Zqc (l := r) (k := k) (by simpa using h)
  unfold Zbi
  simpa using this
theorem Zl8 (y : PEV × ST PEV) (r : List (PEV × ST PEV)) : Zba (y :: r) = (Zc0 y.2).map (y.1 :: ·) ++ Zba r := by
 conv => lhs; unfold Zba
theorem Zpu : Zba ([] : List (PEV × ST PEV)) = [] := by unfold Zba; rfl
theorem Zps : ∀ (a b : List (PEV × ST PEV)), Zba (a ++ b) = Zba a ++ Zba b
 | [], b => by rw [Zpu]; rfl
 | y :: a, b => by rw [List.cons_append, Zl8, Zl8, Zps a b, List.append_assoc]
theorem Ynu {a w x y z : Nat} (h : w = x + y + z) (hb : (a + w) * 24 ≤ 140737488351232) : (a + x + y) * 24 ≤ 140737488351232 := by omega
theorem Ynv {n k : Nat} (h : n = k) (hb : (k + 1) * 168 ≤ 140737488351232) : (n + 1) * 32 ≤ 140737488351232 ∧ n + 1 ≤ 140737488351232 := by omega
theorem Yaq {l : List (PEV × ST PEV)} {k : Nat} {y : PEV × ST PEV} (hy : l[k]? = some y) : Zba (l.take (k + 1)) = Zba (l.take k) ++ (Zc0 y.2).map (y.1 :: ·) := by
 rw [List.take_add_one, hy]
 show Zba (l.take k ++ [y]) = _
 rw [Zps, Zl8, Zpu, List.append_nil]
theorem Zv0 {l : List (PEV × ST PEV)} {k : Nat} {y : PEV × ST PEV} (hy : l[k]? = some y) : (Zba l).length = (Zba (l.take k)).length + (Zc0 y.2).length + (Zba (l.drop (k + 1))).length := by
 have e4 : Zba l = Zba (l.take (k + 1)) ++ Zba (l.drop (k + 1)) := by rw [← Zps, List.take_append_drop]
 have e5 := congrArg List.length e4
 rw [Yaq hy, List.length_append, List.length_append, List.length_map] at e5
 exact e5
theorem Yi8 {q : List PEV} {acc : List PD} {l : List (PEV × ST PEV)} {k : Nat} {y : PEV × ST PEV} (hy : l[k]? = some y) : (acc ++ (Zba (l.take k)).map fun r => ipP (q ++ r)) ++ (Zc0 y.2).map (fun r => ipP (q ++ [y.1] ++ r)) = acc ++ (Zba (l.take (k + 1))).map fun r => ipP (q ++ r) := by
 rw [Yaq hy, List.map_append, List.map_map, List.append_assoc]
 congr 2
 refine List.map_congr_left fun r _ => ?_
 show ipP (q ++ [y.1] ++ r) = ipP (q ++ (y.1 :: r))
 rw [List.append_assoc]; rfl
theorem Yeu {l : List (PEV × ST PEV)} (h : ∀ y ∈ l, Ycp y.2) (hz : ∀ y ∈ l, SzT 1099511627776 y.2) {q : List PEV} {acc : List PD} (hq : ∀ x ∈ q, KL x) (hd : DpC q.length l) (hb : (acc.length + (Zba l).length) * 24 ≤ 140737488351232) {k : Nat} {y : PEV × ST PEV} (hy : l[k]? = some y) (v' : Value) :
  Zbv Tryz.prog 209 [.dat (.ptr (Zbs y.2)), .own 1000, .clo 153 [.ptr 1001 0]] [(1000, .res (Zhg v' 99 4 32 (q.map Za4 ++ [Za4 y.1]))), (1001, .box 38 [.own 1002]), (1002, .row 22 1 24 (acc ++ (Zba (l.take k)).map fun r => ipP (q ++ r)))] (.dat (.tup []))
   [(1000, .res (Zhg v' 99 4 32 (q.map Za4 ++ [Za4 y.1]))), (1001, .box 38 [.own 0]), (0, .row 22 1 24 (acc ++ (Zba (l.take (k + 1))).map fun r => ipP (q ++ r))), (1002, .dead)] := by
 have hym := List.mem_of_getElem? hy
 have hd := DpC_iff.1 hd y hym
 have hq1 : (q ++ [y.1]).length = q.length + 1 := by rw [List.length_append]; rfl
 have c := h y hym v' (q ++ [y.1]) (acc ++ (Zba (l.take k)).map fun r => ipP (q ++ r)) (hz y hym) (fun x hx => by
  rcases List.mem_append.1 hx with g | g
  ·exact hq x g
  ·rw [List.mem_singleton] at g; rw [g]; exact hd.1) (by rw [hq1]; exact hd.2) (by
  rw [List.length_append, List.length_map]
  exact Ynu (Zv0 hy) hb)
 rw [Yi8 hy, List.map_append, List.map_cons, List.map_nil] at c
 exact c
theorem Yi6 (l : List (PEV × ST PEV)) (h : ∀ y ∈ l, Ycp y.2) : Yp1 l := by
 intro v q acc hn hz hq hd hb0 hb
 have cN := fun {k : Nat} {y : PEV × ST PEV} (hy : l[k]? = some y) (v' : Value) => Yeu h hz hq hd hb hy v'
 have n1 : (Zbi l).length = l.length := Zjs l
 have ga : ∀ {k : Nat} {y : PEV × ST PEV}, l[k]? = some y → (Zbi l)[((k : Nat) : Int).toNat]? = some (.agg (peC y.1 ++ [.ptr (Zbs y.2)])) := Zqc
 obtain ⟨acD, hac⟩ : ∃ f : Nat → List PD, ∀ k, acc ++ (Zba (l.take k)).map (fun r => ipP (q ++ r)) = f k := ⟨_, fun _ => rfl⟩
 have e0 : acc = acD 0 := by rw [← hac, List.take_zero, Zpu]; simp
 have e1 : acc ++ (Zba l).map (fun r => ipP (q ++ r)) = acD l.length := by rw [← hac, List.take_of_length_le (Nat.le_refl _)]
 rw [e1]
 simp only [hac] at cN
 have hb1 := Ynv (n := (q.map Za4).length) (k := q.length) (by rw [List.length_map]) hb0
 generalize q.map Za4 = dq at *
 generalize Zbi l = da at *
 generalize ht : l.length = n at *
 clear hac e1 hb hd hq h hb0 hz
 refine Zar Tryz.func235 rfl Tryz.ntmps235 rfl (fun X => ?_)
 refine wk ?_
 refine Zaq (ι := { k : Nat // k ≤ n })
  (fun k => [(1, .own 1000), (2, .clo 153 [.ptr 1001 0]), (12, .dat (.sl 5 40 da)), (13, .dat (.val (.int .i64 ((da.length : Nat) : Int)))), (14, .dat (.val (.int .i64 (k.1 : Nat))))])
  (fun k => [(1000, .res (Zhg v 99 4 32 dq)), (1001, .box 38 [.own 100]), (100, .row 22 1 24 (acD k.1)), (1002, .dead)]) (fun k => n - k.1) ⟨0, Nat.zero_le _⟩ (fun j => if j = 100 then 1002 else j) ?_ ?_
 ·exact sb
 rintro ⟨k, hk⟩
 by_cases hlt : k < n
 ·have hc : decide ((k : Int) < ((da.length : Nat) : Int)) = true := decide_eq_true (by omega)
  obtain ⟨y, hy⟩ : ∃ y, l[k]? = some y := ⟨_, List.getElem?_eq_getElem (by omega)⟩
  have hi := ga hy
  have c1 := cN hy
  obtain ⟨u0, u1, u2, u3, e⟩ := Ze5 y.1
  rw [Zqd, e] at c1
  rw [e] at hi
  clear cN ga
  have nd : Zia := ⟨trivial⟩
  refine wk ?_
  clear nd
  refine Zvq 5 7 [some (Eff.put (some 26) (.clo 153 [.ptr 1001 0]))] (.slice none 0 0) (fun v' : Value => Eff.bk 1000 25 (.res (Zmt v v' 99 4 32 dq)) (.res (Zhg v' 99 4 32 (dq ++ [.agg [u0, u1, u2, u3]])))) (by kernel_rfl) rfl (by decide) (by decide) ?_
  simp only [List.take_succ_cons, List.take_zero, List.drop_succ_cons, List.drop_zero, Nat.reduceAdd]
  refine wk ?_
  refine Zmu ⟨Zuo rfl rfl rfl rfl rfl rfl (by kernel_rfl) rfl rfl (by simp) hb1.1 hb1.2, fun v' => ?_⟩
  refine wk ?_
  refine ⟨⟨rfl, rfl⟩, ?_⟩
  refine wk ?_
  refine Zb5 (thk [(1000, 25), (1001, 1001), (1002, 100)] 200) rfl (by kernel_rfl) (c1 v') rfl ⟨rfl, rfl, rfl, trivial⟩ rfl (Zai rfl) rfl ?_
  refine Zvo (k := 1000) (d := 25) rfl rfl (by decide) ?_
  refine wk ?_
  refine Zan ?_
  refine ⟨⟨k + 1, by omega⟩, (fun j => if j = 100 then 200 else j), by simp only; omega, ?_⟩
  exact sb
 ·have hc : decide ((k : Int) < ((da.length : Nat) : Int)) = false := decide_eq_false (by omega)
  obtain rfl : k = n := by omega
  refine wk ?_
  refine Zfo () (fun j => if j = 0 then 100 else j) (tm := []) ?_ (Zda rfl)
  exact sb
theorem Zvj {l : List EV} {i : Nat} {x : EV} (h : l[i]? = some x) : (l.map pdE)[((i : Nat) : Int).toNat]? = some (pdE x) := by simp [h]
theorem Zwl (l : List EV) : PCall Tryz.prog 80 [pdP l] (pdP (l.map Za0)) := by
 refine Zay fun hfit => ?_
 unfold pdP at *
 have b0 := (hfit (.sl 11 168 (l.map pdE)) (by simp)).sl
 clear hfit
 have n1 : (l.map pdE).length = l.length := by simp
 have b1 := b0.1
 have b2 := b0.2.1
 rw [n1] at b1 b2
 clear b0
 have m1 : (l.map pdE).length * 168 ≤ 140737488351232 := by rw [n1]; exact b1
 have m2 : (l.map pdE).length ≤ 140737488351232 := by rw [n1]; exact b2
 refine Zaa Tryz.func80 rfl Tryz.ntmps80 rfl (fun X => ?_)
 refine wk ?_
 refine Zaq (ι := { k : Nat // k ≤ l.length })
  (fun k => [(3, .own 100), (9, .dat (.sl 11 168 (l.map pdE))), (10, .dat (.val (.int .i64 (((l.map pdE).length : Nat) : Int)))), (11, .dat (.val (.int .i64 (k.1 : Nat))))])
  (fun k => [(100, .row 29 11 168 ((l.take k.1).map fun x => pdE (Za0 x)))]) (fun k => l.length - k.1) ⟨0, Nat.zero_le _⟩ (fun j => if j = 100 then 8 else j) ?_ ?_
 ·exact sb
 rintro ⟨k, hk⟩
 by_cases hlt : k < l.length
 ·have hc : decide ((k : Int) < (((l.map pdE).length : Nat) : Int)) = true := decide_eq_true (by omega)
  obtain ⟨x, hx⟩ : ∃ x, l[k]? = some x := ⟨_, List.getElem?_eq_getElem hlt⟩
  have hi := Zvj hx
  have c1 := Zyc x
  have hbt : (((l.take k).map fun x => pdE (Za0 x)).length + [pdE (Za0 x)].length) * 168 ≤ 140737488351232 := by simp; omega
  have hbl : ((l.take k).map fun x => pdE (Za0 x)).length + [pdE (Za0 x)].length ≤ 140737488351232 := by simp; omega
  have e : ((l.take (k + 1)).map fun x => pdE (Za0 x)) = ((l.take k).map fun x => pdE (Za0 x)) ++ [pdE (Za0 x)] := by simp [List.take_add_one, hx]
  have e := e.symm
  generalize ((l.take k).map fun x => pdE (Za0 x)) = r1 at *
  unfold pdE at hi c1 hbt hbl
  refine wk ?_
  refine Zan ?_
  refine ⟨⟨k + 1, by omega⟩, (fun j => if j = 100 then 19 else j), by simp only; omega, ?_⟩
  exact sb
 ·have hc : decide ((k : Int) < (((l.map pdE).length : Nat) : Int)) = false := decide_eq_false (by omega)
  have hkk : l.take k = l := List.take_of_length_le (by omega)
  simp only [hkk]
  refine Zbj (fun _ => false) (fun k => k == 100) ?_
  have e : PD.sl 11 168 (l.map fun x => pdE (Za0 x)) = .sl 11 168 ((l.map Za0).map pdE) := by rw [List.map_map]; rfl
  exact wke
theorem Ymp {α : Type} {c : α → α → Int} {x y : α} (h : c x y = 0) (a b : List α) : cw c (x :: a) (y :: b) = cw c a b := by
 rw [Zcr, h]
 cases a with
 | nil => cases b with
  | nil => rfl
  | cons _ _ => rfl
 | cons x' a => cases b with
  | nil => rfl
  | cons y' b => rfl
theorem Yk9 {α : Type} {c : α → α → Int} : ∀ {a b : List α}, (a = [] ∨ b = []) → cw c a b = Zbw a.length b.length
 | [], [], _ => rfl
 | [], y :: b, _ => by
  unfold cw Zbw
  simp only [List.length_nil, List.length_cons]
  rw [if_pos (by omega)]
 | x :: a, [], _ => by
  unfold cw Zbw
  simp only [List.length_nil, List.length_cons]
  rw [if_neg (by omega), if_pos (by omega)]
 | x :: a, y :: b, h => by rcases h with h | h <;> cases h
theorem Zrz {α : Type} {l : List α} {i : Nat} {x : α} (h : l[i]? = some x) : l.drop i = x :: l.drop (i + 1) := by
 obtain ⟨h1, h2⟩ := List.getElem?_eq_some_iff.1 h
 rw [List.drop_eq_getElem_cons h1, h2]
theorem Ztf (a b : List EV) : PCall Tryz.prog 143 [pdP a, pdP b] (.val (.int .i64 (cw Zdu a b))) := by
 refine Zay fun hfit => ?_
 unfold pdP at *
 have b1 := (hfit (.sl 11 168 (a.map pdE)) (by simp)).sl.2.1
 have b2 := (hfit (.sl 11 168 (b.map pdE)) (by simp)).sl.2.1
 clear hfit
 have n1 : (a.map pdE).length = a.length := by simp
 have n2 : (b.map pdE).length = b.length := by simp
 have ga : ∀ {i : Nat} {x : EV}, a[i]? = some x → (a.map pdE)[((i : Nat) : Int).toNat]? = some (pdE x) := Zvj
 have gb : ∀ {i : Nat} {x : EV}, b[i]? = some x → (b.map pdE)[((i : Nat) : Int).toNat]? = some (pdE x) := Zvj
 have c0 := Zi0 ((a.map pdE).length : Nat) ((b.map pdE).length : Nat)
 generalize a.map pdE = da at *
 generalize b.map pdE = db at *
 generalize hr : cw Zdu a b = r
 refine Zaa Tryz.func143 rfl Tryz.ntmps143 rfl (fun X => ?_)
 refine wk ?_
 refine Zaq (ι := { i : Nat // i ≤ a.length ∧ i ≤ b.length ∧ cw Zdu (a.drop i) (b.drop i) = r })
  (fun i => [(0, .dat (.sl 11 168 da)), (1, .dat (.sl 11 168 db)), (5, .dat (.val (.int .i64 (i.1 : Nat))))]) (fun _ => []) (fun i => a.length - i.1) ⟨0, Nat.zero_le _, Nat.zero_le _, hr⟩ id ?_ ?_
 ·exact sb
 rintro ⟨i, hi1, hi2, hi3⟩
 by_cases h1 : i < a.length
 ·have g1 : decide ((i : Int) < ((da.length : Nat) : Int)) = true := decide_eq_true (by omega)
  obtain ⟨x, hx⟩ : ∃ x, a[i]? = some x := ⟨_, List.getElem?_eq_getElem h1⟩
  by_cases h2 : i < b.length
  ·have g2 : decide ((i : Int) < ((db.length : Nat) : Int)) = true := decide_eq_true (by omega)
   obtain ⟨y, hy⟩ : ∃ y, b[i]? = some y := ⟨_, List.getElem?_eq_getElem h2⟩
   have i1 := ga hx
   have i2 := gb hy
   have c1 := Ya5 x y
   rw [Zrz hx, Zrz hy] at hi3
   unfold pdE at i1 i2 c1
   by_cases h3 : Zdu x y = 0
   ·rw [Ymp h3] at hi3
    have g3 : decide (Zdu x y = 0) = true := decide_eq_true h3
    refine wk ?_
    refine Zan ?_
    refine ⟨⟨i + 1, by omega, by omega, hi3⟩, id, by simp only; omega, ?_⟩
    exact sb
   ·have g3 : decide (Zdu x y = 0) = false := decide_eq_false h3
    have en0 : ∀ {l : List EV} {k : Nat}, k + 1 = l.length → en (l.drop (k + 1)) = 0 := fun h => by rw [List.drop_eq_nil_of_le (by omega)]; rfl
    have en1 : ∀ {l : List EV} {k : Nat}, k + 1 < l.length → en (l.drop (k + 1)) = 1 := fun h => Zlp fun e => by
     have := congrArg List.length e
     rw [List.length_drop] at this
     simp at this
     omega
    rw [Zcr] at hi3
    by_cases ea : i + 1 = a.length <;> by_cases eb : i + 1 = b.length
    ·have g4 : decide ((i : Int) = ((da.length : Nat) : Int) - 1) = true := decide_eq_true (by omega)
     have g5 : decide ((i : Int) = ((db.length : Nat) : Int) - 1) = true := decide_eq_true (by omega)
     have g6 : (!(decide ((i : Int) = ((da.length : Nat) : Int) - 1) == decide ((i : Int) = ((db.length : Nat) : Int) - 1))) = false := by rw [g4, g5]; rfl
     rw [en0 ea, en0 eb, Zci (show Zbw 0 0 = 0 from rfl), Zeh h3] at hi3
     subst hi3
     exact wke
    ·have g4 : decide ((i : Int) = ((da.length : Nat) : Int) - 1) = true := decide_eq_true (by omega)
     have g5 : decide ((i : Int) = ((db.length : Nat) : Int) - 1) = false := decide_eq_false (by omega)
     have g6 : (!(decide ((i : Int) = ((da.length : Nat) : Int) - 1) == decide ((i : Int) = ((db.length : Nat) : Int) - 1))) = true := by rw [g4, g5]; rfl
     rw [en0 ea, en1 (by omega), Zeh (by decide)] at hi3
     have hi3 : r = -1 := hi3.symm
     subst hi3
     exact wke
    ·have g4 : decide ((i : Int) = ((da.length : Nat) : Int) - 1) = false := decide_eq_false (by omega)
     have g5 : decide ((i : Int) = ((db.length : Nat) : Int) - 1) = true := decide_eq_true (by omega)
     have g6 : (!(decide ((i : Int) = ((da.length : Nat) : Int) - 1) == decide ((i : Int) = ((db.length : Nat) : Int) - 1))) = true := by rw [g4, g5]; rfl
     rw [en1 (by omega), en0 eb, Zeh (by decide)] at hi3
     have hi3 : r = 1 := hi3.symm
     subst hi3
     exact wke
    ·have g4 : decide ((i : Int) = ((da.length : Nat) : Int) - 1) = false := decide_eq_false (by omega)
     have g5 : decide ((i : Int) = ((db.length : Nat) : Int) - 1) = false := decide_eq_false (by omega)
     have g6 : (!(decide ((i : Int) = ((da.length : Nat) : Int) - 1) == decide ((i : Int) = ((db.length : Nat) : Int) - 1))) = false := by rw [g4, g5]; rfl
     rw [en1 (by omega), en1 (by omega), Zci (show Zbw 1 1 = 0 from rfl), Zeh h3] at hi3
     subst hi3
     exact wke
  ·have g2 : decide ((i : Int) < ((db.length : Nat) : Int)) = false := decide_eq_false (by omega)
   have e : Zbw ((da.length : Nat) : Int) ((db.length : Nat) : Int) = r := by
    rw [← hi3, Yk9 (.inr (List.drop_eq_nil_of_le (by omega)))]
    unfold Zbw
    simp only [List.length_drop]
    repeat' split
    all_goals omega
   rw [e] at c0
   exact wke
 ·have g1 : decide ((i : Int) < ((da.length : Nat) : Int)) = false := decide_eq_false (by omega)
  have e : Zbw ((da.length : Nat) : Int) ((db.length : Nat) : Int) = r := by
   rw [← hi3, Yk9 (.inl (List.drop_eq_nil_of_le (by omega)))]
   unfold Zbw
   simp only [List.length_drop]
   repeat' split
   all_goals omega
  rw [e] at c0
  exact wke
def Yka {α : Type} (f : α → α → Bool) : List α → List α → Bool
 | _, [] => true
 | [], _ :: _ => false
 | x :: a, y :: b => f x y && Yka f a b
theorem Zww (a b : List EV) : PCall Tryz.prog 139 [pdP a, pdP b] (.val (.bool (Yka eqE a b))) := by
 refine Zay fun hfit => ?_
 unfold pdP at *
 have b1 := (hfit (.sl 11 168 (a.map pdE)) (by simp)).sl.2.1
 have b2 := (hfit (.sl 11 168 (b.map pdE)) (by simp)).sl.2.1
 clear hfit
 have n1 : (a.map pdE).length = a.length := by simp
 have n2 : (b.map pdE).length = b.length := by simp
 have ga : ∀ {i : Nat} {x : EV}, a[i]? = some x → (a.map pdE)[((i : Nat) : Int).toNat]? = some (pdE x) := Zvj
 have gb : ∀ {i : Nat} {x : EV}, b[i]? = some x → (b.map pdE)[((i : Nat) : Int).toNat]? = some (pdE x) := Zvj
 generalize a.map pdE = da at *
 generalize b.map pdE = db at *
 generalize hr : Yka eqE a b = r
 have hlen : ∀ {a b : List EV}, a.length < b.length → Yka eqE a b = false := by
  intro a
  induction a with
  | nil => intro b h; cases b with
   | nil => simp at h
   | cons _ _ => rfl
  | cons x a ih => intro b h; cases b with
   | nil => simp at h
   | cons y b => unfold Yka; rw [ih (by simpa using h), Bool.and_false]
 by_cases hl : a.length < b.length
 ·rw [hlen hl] at hr
  subst hr
  have g1 : decide (((da.length : Nat) : Int) < ((db.length : Nat) : Int)) = true := decide_eq_true (by omega)
  refine Zaa Tryz.func139 rfl Tryz.ntmps139 rfl (fun X => ?_)
  exact wke
 have g1 : decide (((da.length : Nat) : Int) < ((db.length : Nat) : Int)) = false := decide_eq_false (by omega)
 refine Zaa Tryz.func139 rfl Tryz.ntmps139 rfl (fun X => ?_)
 refine wk ?_
 refine Zaq (ι := { i : Nat // i ≤ b.length ∧ Yka eqE (a.drop i) (b.drop i) = r })
  (fun i => [(0, .dat (.sl 11 168 da)), (1, .dat (.sl 11 168 db)), (12, .dat (.val (.int .i64 ((db.length : Nat) : Int)))), (13, .dat (.val (.int .i64 (i.1 : Nat))))]) (fun _ => []) (fun i => b.length - i.1) ⟨0, Nat.zero_le _, hr⟩ id ?_ ?_
 ·exact sb
 rintro ⟨i, hi1, hi3⟩
 by_cases h1 : i < b.length
 ·have g2 : decide ((i : Int) < ((db.length : Nat) : Int)) = true := decide_eq_true (by omega)
  obtain ⟨x, hx⟩ : ∃ x, a[i]? = some x := ⟨_, List.getElem?_eq_getElem (by omega)⟩
  obtain ⟨y, hy⟩ : ∃ y, b[i]? = some y := ⟨_, List.getElem?_eq_getElem h1⟩
  have i1 := ga hx
  have i2 := gb hy
  have c1 := Zt7 x y
  rw [Zrz hx, Zrz hy] at hi3
  unfold Yka at hi3
  unfold pdE at i1 i2 c1
  cases h3 : eqE x y with
  | true =>
   rw [h3] at hi3 c1
   refine wk ?_
   refine Zan ?_
   refine ⟨⟨i + 1, by omega, hi3⟩, id, by simp only; omega, ?_⟩
   exact sb
  | false =>
   rw [h3] at hi3 c1
   have hi3 : false = r := hi3
   subst hi3
   exact wke
 ·have g2 : decide ((i : Int) < ((db.length : Nat) : Int)) = false := decide_eq_false (by omega)
  rw [show b.drop i = [] from List.drop_eq_nil_of_le (by omega)] at hi3
  have hi3 : true = r := by rw [← hi3]; cases a.drop i <;> rfl
  subst hi3
  exact wke
theorem Zy0 {α : Type} (f : α → α → Bool) : ∀ (a b : List α), Zfa f a b = (decide (a.length = b.length) && Yka f a b)
 | [], [] => rfl
 | [], y :: b => by simp [Zfa]
 | x :: a, [] => by simp [Zfa]
 | x :: a, y :: b => by
  unfold Zfa Yka
  rw [Zy0 f a b]
  simp only [List.length_cons, Nat.add_right_cancel_iff]
  cases f x y <;> simp
theorem Zlg (a b : List EV) : PCall Tryz.prog 76 [pdP a, pdP b] (.val (.bool (Zfa eqE a b))) := by
 have c1 := Zww a b
 rw [Zy0]
 unfold pdP at *
 have n1 : (a.map pdE).length = a.length := by simp
 have n2 : (b.map pdE).length = b.length := by simp
 generalize a.map pdE = da at *
 generalize b.map pdE = db at *
 by_cases h : a.length = b.length
 ·have g1 : decide (((da.length : Nat) : Int) = ((db.length : Nat) : Int)) = true := decide_eq_true (by omega)
  rw [decide_eq_true h, Bool.true_and]
  refine Zaa Tryz.func76 rfl Tryz.ntmps76 rfl (fun X => ?_)
  exact wke
 ·have g1 : decide (((da.length : Nat) : Int) = ((db.length : Nat) : Int)) = false := decide_eq_false (by omega)
  rw [decide_eq_false h, Bool.false_and]
  refine Zaa Tryz.func76 rfl Tryz.ntmps76 rfl (fun X => ?_)
  exact wke
theorem Zr2 (a b : List EV) : PCall Tryz.prog 22 [pdP a, pdP b] (.val (.bool (Zfa eqE a b))) := by
 have c1 := Zlg a b
 unfold pdP at *
 refine Zaa Tryz.func22 rfl Tryz.ntmps22 rfl (fun X => ?_)
 exact wke
structure LikeE (x z : EV) : Prop where
 l : ∀ y, Zdu x y = Zdu z y
 r : ∀ y, Zdu y x = Zdu y z
 el : ∀ y, eqE x y = eqE z y
 er : ∀ y, eqE y x = eqE y z
theorem LikeE.refl (x : EV) : LikeE x x := ⟨fun _ => rfl, fun _ => rfl, fun _ => rfl, fun _ => rfl⟩
def OE (x : EV) : Prop := ∃ z, OPE (Zaz z) ∧ LikeE x z
theorem OE.raw {x : EV} (h : OPE (Zaz x)) : OE x := ⟨x, h, LikeE.refl x⟩
theorem ordEr : OrdL Zdu (fun x => OPE (Zaz x)) := ⟨fun a b d ha hb hd => by
 rw [← Zg4 ha.j hb.j, ← Zg4 hb.j hd.j, ← Zg4 ha.j hd.j]
 exact ordPE.1 _ _ _ ha hb hd, fun a b ha hb => by
 rw [← Zg4 ha.j hb.j, ← Zg4 hb.j ha.j]
 exact ordPE.2 _ _ ha hb⟩
theorem Yti : OrdL Zdu OE := ⟨fun a b d ⟨za, ha, la⟩ ⟨zb, hb, lb⟩ ⟨zd, hd, ld⟩ => by
 rw [la.l, lb.l, la.l, lb.r, ld.r, ld.r]
 exact ordEr.1 _ _ _ ha hb hd, fun a b ⟨za, ha, la⟩ ⟨zb, hb, lb⟩ => by
 rw [la.l, lb.l, la.r, lb.r]
 exact ordEr.2 _ _ ha hb⟩
theorem Ydv {x y : EV} (hx : OE x) (hy : OE y) : eqE x y = true ↔ Zdu x y = 0 := by
 obtain ⟨zx, hx, lx⟩ := hx
 obtain ⟨zy, hy, ly⟩ := hy
 rw [lx.el, ly.er, lx.l, ly.r, ← Ym4 hx.j hy.j, ← Zg4 hx.j hy.j]
 exact Zy1 hx hy
theorem Ybx : OrdL (cw Zdu) (PP OE) := Yht Yti
theorem Yov (s : List (List EV)) (p : List EV) (hs : ∀ a ∈ s, PP OE a) (hp : PP OE p) (hsrt : Srt (cw Zdu) s) :
  PCall Tryz.prog 79 [.sl 1 24 (s.map pdP), pdP p] (.tup [.val (.int .i64 ((Zbe (cw Zdu) s p : Nat) : Int)), .val (.bool (Ze9 (cw Zdu) s p))]) := by
 refine Zay fun hfit => ?_
 have b1 := (hfit (.sl 1 24 (s.map pdP)) (by simp)).sl.2.1
 clear hfit
 have n1 : (s.map pdP).length = s.length := by simp
 have ga : ∀ {z : Int} {i : Nat} {x : List EV}, z = (i : Int) → s[i]? = some x → (s.map pdP)[z.toNat]? = some (pdP x) := fun hz h => by subst hz; simp [h]
 have hlo := fun (i : Nat) (x : List EV) (h : i < Zbe (cw Zdu) s p) (hx : s[i]? = some x) => Zot s p i x h hx
 have hhi := fun (i : Nat) (x : List EV) (h : Zbe (cw Zdu) s p ≤ i) (hx : s[i]? = some x) => Zos Ybx hs hp hsrt i x h hx
 have hle := Zit (c := cw Zdu) s p
 rw [Zn2]
 generalize hloc : Zbe (cw Zdu) s p = loc at *
 generalize s.map pdP = da at *
 have hW := fun x => Ztf x p
 unfold pdP at hW ⊢
 generalize p.map pdE = dp at *
 refine Zaa Tryz.func79 rfl Tryz.ntmps79 rfl (fun X => ?_)
 refine wk ?_
 refine Zaq (ι := { j : Nat × Nat // j.1 ≤ loc ∧ loc ≤ j.2 ∧ j.2 ≤ s.length })
  (fun j => [(0, .dat (.sl 1 24 da)), (1, .dat (.sl 11 168 dp)), (6, .dat (.val (.int .i64 (j.1.1 : Nat)))), (7, .dat (.val (.int .i64 (j.1.2 : Nat))))]) (fun _ => []) (fun j => j.1.2 - j.1.1) ⟨(0, da.length), Nat.zero_le _, by rw [n1]; exact hle, by rw [n1]; exact Nat.le_refl _⟩ id ?_ ?_
 ·exact sb
 rintro ⟨⟨lo, hi⟩, h1, h2, h3⟩
 simp only at h1 h2 h3
 simp only
 by_cases hlt : lo < hi
 ·have g1 : decide ((lo : Int) < (hi : Int)) = true := decide_eq_true (by omega)
  obtain ⟨d, hd⟩ : ∃ d : Nat, d = (hi - lo) / 2 := ⟨_, rfl⟩
  have w2 : ((hi : Int) - (lo : Int)) / 2 = ((d : Nat) : Int) := by omega
  obtain ⟨x, hx⟩ : ∃ x, s[lo + d]? = some x := ⟨_, List.getElem?_eq_getElem (by omega)⟩
  have i1 := ga (z := (lo : Int) + (d : Int)) (by omega) hx
  have c1 := hW x
  unfold pdP at i1
  by_cases hc : cw Zdu x p < 0
  ·have g2 : decide (cw Zdu x p < 0) = true := decide_eq_true hc
   have hb : lo + d < loc := by
    refine Nat.lt_of_not_le fun hn => hhi _ x hn hx hc
   refine wk ?_
   refine Zzl rfl rfl rfl w2 (by omega) (by omega) ?_
   refine wk ?_
   refine Zan ?_
   refine ⟨⟨(lo + d + 1, hi), by simp only; omega, by simp only; omega, h3⟩, id, by simp only; omega, ?_⟩
   have ez : (lo : Int) + (d : Int) + 1 = ((lo + d + 1 : Nat) : Int) := by omega
   exact sb
  ·have g2 : decide (cw Zdu x p < 0) = false := decide_eq_false hc
   have hb : loc ≤ lo + d := by
    refine Nat.le_of_not_lt fun hn => hc (hlo _ x hn hx)
   refine wk ?_
   refine Zzl rfl rfl rfl w2 (by omega) (by omega) ?_
   refine wk ?_
   refine Zan ?_
   refine ⟨⟨(lo, lo + d), h1, hb, by simp only; omega⟩, id, by simp only; omega, ?_⟩
   have ez : (lo : Int) + (d : Int) = ((lo + d : Nat) : Int) := by omega
   exact sb
 ·have g1 : decide ((lo : Int) < (hi : Int)) = false := decide_eq_false (by omega)
  obtain rfl : lo = loc := by omega
  by_cases hin : lo < s.length
  ·have g2 : decide ((lo : Int) < ((da.length : Nat) : Int)) = true := decide_eq_true (by omega)
   obtain ⟨x, hx⟩ : ∃ x, s[lo]? = some x := ⟨_, List.getElem?_eq_getElem hin⟩
   have i1 := ga (z := (lo : Int)) rfl hx
   have c1 := hW x
   unfold pdP at i1
   rw [hx]
   simp only
   exact wke
  ·have g2 : decide ((lo : Int) < ((da.length : Nat) : Int)) = false := decide_eq_false (by omega)
   rw [List.getElem?_eq_none (by omega)]
   simp only
   exact wke
end Go.Proofs.YtgmahieoiifpfaaGreat
