/- Part 13 of what the proof rests on. -/
import Derived.Test.YtgmahieoiifpfaaGreatScR12
set_option linter.unusedSimpArgs false
set_option linter.unusedVariables false
set_option maxHeartbeats 2000000
namespace Go.Proofs.YtgmahieoiifpfaaGreat
open Go.RowKit
section
variable {P : Program} {X : Base} {N : Nat} {Q : Exit → Act → World → Prop} {ops : Array Oper} {rem : List Nat} {ks : List Itm} {s : Sta}
theorem Yrs {o : Oper} (hd : Za7 X.N o.dst = true) {t t' : TypeId} {x y : Operand} (ho : o.op = .binOp .rem t x y t') {a b c : Int} (hx : s.ev x = .dat (.val (.int .i64 a))) (hy : s.ev y = .dat (.val (.int .i64 b))) (hb : b ≠ 0) (hc : a.tmod b = c) (hr : -9223372036854775808 ≤ c ∧ c ≤ 9223372036854775807) :
  OpS P X o s (s.put o.dst (.dat (.val (.int .i64 c)))) := by
 refine Zo4 hd ho hx hy (fun w => ?_) (WalkArith.wf_i64 (by omega))
 simp [eqGuard, binOp, Op.intDiv, hb, hc]
theorem Yn2 {d : Nat} {x y : Operand} {t t' : Nat} {a b c : Int} (hN : Nat.blt d N = true) (hx : s.ev x = .dat (.val (.int .i64 a))) (hy : s.ev y = .dat (.val (.int .i64 b))) (hb : b ≠ 0) (hc : a.tmod b = c) (hr : -9223372036854775808 ≤ c ∧ c ≤ 9223372036854775807) (h : Run P X N Q (.ops ops rem :: ks) (s.put (some d) (.dat (.val (.int .i64 c))))) : Zbp P X N Q ops rem ks (some d) (.binOp .rem t x y t') s := Zdx hN (fun _ _ _ hd => Yrs hd rfl hx hy hb hc hr) h
end
theorem Yhb (a : Int) {n : Nat} (hn : 0 < n) : -(n : Int) < a.tmod n ∧ a.tmod n < n := by
 have hp : (0 : Int) < (n : Int) := by omega
 by_cases h : 0 ≤ a
 ·have h1 := Int.tmod_nonneg (n : Int) h
  have h2 := Int.tmod_lt_of_pos a hp
  omega
 ·have h3 : a.tmod n = -((-a).tmod n) := by rw [Int.neg_tmod, Int.neg_neg]
  have h1 := Int.tmod_nonneg (n : Int) (a := -a) (by omega)
  have h2 := Int.tmod_lt_of_pos (-a) hp
  omega
theorem Yam (a n : Nat) : ((a : Int)).tmod (n : Int) = ((a % n : Nat) : Int) := by
 rw [Int.tmod_eq_emod_of_nonneg (by omega)]
 exact (Int.natCast_emod a n).symm
theorem Ysm (turn : Int) {n : Nat} (hn : 0 < n) : ∃ r : Nat, r < n ∧ (turn.tmod n + n).tmod n = (r : Int) := by
 obtain ⟨h1, h2⟩ := Yhb turn hn
 obtain ⟨m, hm⟩ := Int.eq_ofNat_of_zero_le (show 0 ≤ turn.tmod n + n by omega)
 rw [hm]
 exact ⟨m % n, Nat.mod_lt _ hn, Yam m n⟩
def Zmw {α : Type} (l : List α) (r k : Nat) : List α := (List.range k).filterMap fun i => l[(i + r) % l.length]?
theorem Ygm {α : Type} {l : List α} {r k : Nat} {x : α} (h : l[(k + r) % l.length]? = some x) : Zmw l r (k + 1) = Zmw l r k ++ [x] := by
 unfold Zmw
 rw [List.range_succ, List.filterMap_append]
 congr 1
 simp [h]
theorem Ykh {α : Type} {l : List α} {r : Nat} (hr : r < l.length) (x : α) : x ∈ Zmw l r l.length ↔ x ∈ l := by
 unfold Zmw
 rw [List.mem_filterMap]
 constructor
 ·rintro ⟨i, _, h⟩
  exact List.mem_of_getElem? h
 ·intro h
  obtain ⟨j, hj, rfl⟩ := List.getElem_of_mem h
  refine ⟨(j + l.length - r) % l.length, List.mem_range.2 (Nat.mod_lt _ (by omega)), ?_⟩
  rw [Nat.mod_add_mod, show j + l.length - r + r = j + l.length by omega, Nat.add_mod_right, Nat.mod_eq_of_lt hj]
  exact List.getElem?_eq_getElem hj
theorem Yac {α : Type} (l : List α) (r k : Nat) : (Zmw l r k).length ≤ k := by
 unfold Zmw
 have := List.length_filterMap_le (fun i => l[(i + r) % l.length]?) (List.range k)
 rwa [List.length_range] at this
theorem Yi0 {α : Type} {c : α → α → Int} {A B : List α} (h : ∀ x, x ∈ A ↔ x ∈ B) (q : α) : Zbn c A q = Zbn c B q := by
 unfold Zbn
 rw [Bool.eq_iff_iff, List.any_eq_true, List.any_eq_true]
 exact ⟨fun ⟨x, hx, h1⟩ => ⟨x, (h x).1 hx, h1⟩, fun ⟨x, hx, h1⟩ => ⟨x, (h x).2 hx, h1⟩⟩
theorem Zwb {a : List (List EV)} (ha : LOk a) : PCall Tryz.prog 42 [.sl 1 24 (a.map pdP)] (.val (.int .i64 (((Zc0 (inT a)).length : Nat) : Int))) := by
 have c1 := Zj1 a ha.ok ha.n
 have hk := ha.t.k
 have hn := ha.n
 have c3 := Ygz _ (inT a) (Nat.lt_succ_self _) (Zg2 (by omega) _ ha.t.sz) (by omega)
 clear ha hk hn
 generalize ((Zc0 (inT a)).length : Nat) = r at *
 generalize Zbs (inT a) = d3 at *
 generalize a.map pdP = d5 at *
 refine Zaa Tryz.func42 rfl Tryz.ntmps42 rfl (fun X => ?_)
 exact wke
theorem Ycm {a : List (List EV)} (ha : LOk a) : PCall Tryz.prog 44 [.sl 1 24 (a.map pdP)] (.sl 1 24 ((Zef (inT a)).map pdP)) := by
 have c1 := Zj1 a ha.ok ha.n
 have hn := ha.n
 have c3 := Zn3 ha.t (by omega)
 clear ha hn
 generalize (Zef (inT a)).map pdP = d1 at *
 generalize Zbs (inT a) = d3 at *
 generalize a.map pdP = d5 at *
 refine Zaa Tryz.func44 rfl Tryz.ntmps44 rfl (fun X => ?_)
 exact wke
theorem LOk.sub {a b : List (List EV)} (ha : LOk a) (h : ∀ x ∈ b, x ∈ a) (hn : b.length ≤ 549755813888) : LOk b := ⟨fun p hp => ha.ok p (h p hp), fun p hp => ha.ln p (h p hp), hn⟩
theorem Zs6 {a b : List (List EV)} (ha : LOk a) (hb : LOk b) (h : ∀ x, x ∈ a ↔ x ∈ b) : ∀ q q', Br q q' → q ≠ [] → Zdl Zaf (inT a) q' = Zdl Zaf (inT b) q' := fun q q' hq hn => by
 rw [Zoe ha.ok hq hn, Zoe hb.ok hq hn]
 exact Yi0 h q
theorem Ygy {a b : List (List EV)} (ha : LOk a) (hb : LOk b) (h : ∀ x, x ∈ a ↔ x ∈ b) : (Zc0 (inT a)).length = (Zc0 (inT b)).length := by
 rw [← Zfx ha.t.w, ← Zfx hb.t.w]
 refine Zfs (Zpo (Ze0 ha.t.w) (Ze0 hb.t.w) fun q hq => ?_)
 obtain ⟨q', hbr⟩ := Ztp q hq.2
 rw [Zez ha.t.w hbr hq.1, Zez hb.t.w hbr hq.1]
 exact Zs6 ha hb h q q' hbr hq.1
theorem Yca {a b : List (List EV)} (ha : LOk a) (hb : LOk b) (h : ∀ x, x ∈ a ↔ x ∈ b) : (Zef (inT a)).length = (Zef (inT b)).length ∧ Zfa (Zfa eqE) (Zb1 (Zef (inT a))) (Zb1 (Zef (inT b))) = true := by
 refine Yjp (Ze0 ha.t.w) (Ze0 hb.t.w) fun q hq => ?_
 obtain ⟨q', hbr⟩ := Ztp q hq.2
 rw [Zez ha.t.w hbr hq.1, Zez hb.t.w hbr hq.1]
 exact Zs6 ha hb h q q' hbr hq.1
theorem Ytv {n k : Nat} (h : n ≤ 2147483647) (hk : k ≤ n) : (n + k + 1) * 24 ≤ 140737488351232 ∧ n + k + 1 ≤ 140737488351232 := ⟨Nat.le_trans (Nat.mul_le_mul_right 24 (show n + k + 1 ≤ 4294967296 by omega)) (by decide), by omega⟩
end Go.Proofs.YtgmahieoiifpfaaGreat
