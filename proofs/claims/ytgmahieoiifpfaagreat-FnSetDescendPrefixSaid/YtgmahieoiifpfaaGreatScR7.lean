/- Part 7 of what the proof rests on. -/
import Derived.Test.YtgmahieoiifpfaaGreatScR4
import Derived.Test.YtgmahieoiifpfaaGreatScR5
import Derived.Test.YtgmahieoiifpfaaGreatScR6
set_option linter.unusedSimpArgs false
set_option linter.unusedVariables false
set_option maxHeartbeats 40000000
set_option maxRecDepth 100000
namespace Go.Proofs.YtgmahieoiifpfaaGreat
open Go.RowKit
def Zfk (f : JV → JV → Int) (p q : List (ByteArray × JV)) (i : Nat) (k : ByteArray) : Int :=
 if i = p.length then -1 else if i = q.length then 1 else match lkJ p k, lkJ q k with
  | none, _ => 1
  | some _, none => -1
  | some x, some y => f x y
def Zjp (f : JV → JV → Int) (p q : List (ByteArray × JV)) : Nat → List ByteArray → Int
 | _, [] => 0
 | i, k :: r => if Zfk f p q i k = 0 then Zjp f p q (i + 1) r else Zfk f p q i k
theorem Yqe (f : JV → JV → Int) (p q : List (ByteArray × JV)) (i : Nat) (k : ByteArray) (hi : i ≤ 140737488351232) (hE : ∀ x y, lkJ p k = some x → lkJ q k = some y → PCall Tryz.prog 237 [dvA, dvV x, dvV y] (.val (.int .i64 (f x y)))) :
  Zbv Tryz.prog 262 [.dat (.val (.string k)), .dat (Ysn (lkJ p k)), .dat (Ysn (lkJ q k)), .ptr 1000 0, .ptr 1001 0, .ptr 1002 0, .ptr 1003 0, .ptr 1004 0]
  [(1000, .box 3 [.dat (.val (.int .i64 (i : Int)))]), (1001, .box 3 [.dat (.val (.int .i64 (p.length : Int)))]), (1002, .box 3 [.dat (.val (.int .i64 0))]), (1003, .box 3 [.dat (.val (.int .i64 (q.length : Int)))]), (1004, .box 204 [.dat dvA])]
  (.dat (.val (.bool (decide (Zfk f p q i k = 0)))))
  [(1000, .box 3 [.dat (.val (.int .i64 ((i : Int) + 1)))]), (1001, .box 3 [.dat (.val (.int .i64 (p.length : Int)))]), (1002, .box 3 [.dat (.val (.int .i64 (Zfk f p q i k)))]), (1003, .box 3 [.dat (.val (.int .i64 (q.length : Int)))]), (1004, .box 204 [.dat dvA])] := by
 refine Zar Tryz.func262 rfl Tryz.ntmps262 rfl (fun X => ?_)
 by_cases h1 : i = p.length
 ·have q1 : decide ((i : Int) = (p.length : Int)) = true := by simp; omega
  have e : Zfk f p q i k = -1 := by unfold Zfk; rw [if_pos h1]
  rw [e]
  repeat' (first
  | refine Zae ?_
  | (refine Zao rfl ?_; first | refine Zad rfl rfl ?_ | refine Za5 rfl rfl rfl (by first | rfl | (simp only [Zap]; rfl)) ?_ | refine Zax rfl rfl rfl rfl ?_ | refine Zcx rfl rfl rfl rfl rfl ?_ | refine Zid rfl rfl rfl rfl (by first | omega | (dsimp only; omega)) ?_)
  | refine Zac ?_
  | refine Zab ?_
  | refine Zam rfl (by first | rfl | assumption) ?_
  | refine Zau ?_
  | refine Zbx ?_
  | fail)
  refine Za3 () id (tm := [(11, .dat (.val (.bool (decide ((-1 : Int) = 0)))))]) ?_ (Zbc rfl rfl)
  (refine ⟨?_, ?_, by rfl⟩ <;> repeat' (first | exact trivial | exact ALe.ptr rfl | exact ALe.own rfl | exact ALe.elt rfl | exact BLe.boxD _ _ | exact BLe.row rfl | exact BLe.res | exact BLe.dead rfl | exact ALe.dat (PLe.refl _) | exact CLe.nil | refine And.intro ?_ ?_ | refine ALe.iface ?_ | refine ALe.clo ?_ | refine CLe.cons ?_ ?_ | refine BLe.box ?_ | refine BLe.row ?_ | exact ALe.any _ | refine ALe.dat (PLe.of_eq ?_)))
 have q1 : decide ((i : Int) = (p.length : Int)) = false := by simp; omega
 by_cases h2 : i = q.length
 ·have q2 : decide ((i : Int) = (q.length : Int)) = true := by simp; omega
  have e : Zfk f p q i k = 1 := by unfold Zfk; rw [if_neg h1, if_pos h2]
  rw [e]
  repeat' (first
  | refine Zae ?_
  | (refine Zao rfl ?_; first | refine Zad rfl rfl ?_ | refine Za5 rfl rfl rfl (by first | rfl | (simp only [Zap]; rfl)) ?_ | refine Zax rfl rfl rfl rfl ?_ | refine Zcx rfl rfl rfl rfl rfl ?_ | refine Zid rfl rfl rfl rfl (by first | omega | (dsimp only; omega)) ?_)
  | refine Zac ?_
  | refine Zab ?_
  | refine Zam rfl (by first | rfl | assumption) ?_
  | refine Zak rfl (by first | rfl | assumption) ?_
  | refine Zau ?_
  | refine Zbx ?_
  | fail)
  refine Za3 () id (tm := [(11, .dat (.val (.bool (decide ((1 : Int) = 0)))))]) ?_ (Zbc rfl rfl)
  (refine ⟨?_, ?_, by rfl⟩ <;> repeat' (first | exact trivial | exact ALe.ptr rfl | exact ALe.own rfl | exact ALe.elt rfl | exact BLe.boxD _ _ | exact BLe.row rfl | exact BLe.res | exact BLe.dead rfl | exact ALe.dat (PLe.refl _) | exact CLe.nil | refine And.intro ?_ ?_ | refine ALe.iface ?_ | refine ALe.clo ?_ | refine CLe.cons ?_ ?_ | refine BLe.box ?_ | refine BLe.row ?_ | exact ALe.any _ | refine ALe.dat (PLe.of_eq ?_)))
 have q2 : decide ((i : Int) = (q.length : Int)) = false := by simp; omega
 cases hp : lkJ p k with
 | none =>
  have e : Zfk f p q i k = 1 := by unfold Zfk; rw [if_neg h1, if_neg h2, hp]
  rw [e]
  generalize Ysn (lkJ q k) = R
  repeat' (first
  | refine Zae ?_
  | (refine Zao rfl ?_; first | refine Zad rfl rfl ?_ | refine Zal rfl rfl ?_ | refine Za5 rfl rfl rfl (by first | rfl | (simp only [Zap]; rfl)) ?_ | refine Zax rfl rfl rfl rfl ?_ | refine Zcg rfl rfl rfl (by kernel_rfl) (by first | exact NilIs.ptr | exact NilIs.none | exact NilIs.nilI | assumption) rfl ?_ | refine Zcx rfl rfl rfl rfl rfl ?_ | refine Zid rfl rfl rfl rfl (by first | omega | (dsimp only; omega)) ?_)
  | refine Zac ?_
  | refine Zab ?_
  | refine Zam rfl (by first | rfl | assumption) ?_
  | refine Zak rfl (by first | rfl | assumption) ?_
  | refine Zau ?_
  | refine Zbx ?_
  | fail)
  refine Za3 () id (tm := [(11, .dat (.val (.bool (decide ((1 : Int) = 0)))))]) ?_ (Zbc rfl rfl)
  (refine ⟨?_, ?_, by rfl⟩ <;> repeat' (first | exact trivial | exact ALe.ptr rfl | exact ALe.own rfl | exact ALe.elt rfl | exact BLe.boxD _ _ | exact BLe.row rfl | exact BLe.res | exact BLe.dead rfl | exact ALe.dat (PLe.refl _) | exact CLe.nil | refine And.intro ?_ ?_ | refine ALe.iface ?_ | refine ALe.clo ?_ | refine CLe.cons ?_ ?_ | refine BLe.box ?_ | refine BLe.row ?_ | exact ALe.any _ | refine ALe.dat (PLe.of_eq ?_)))
 | some x =>
  cases hq : lkJ q k with
  | none =>
   have e : Zfk f p q i k = -1 := by unfold Zfk; rw [if_neg h1, if_neg h2, hp, hq]
   rw [e]
   repeat' (first
  | refine Zae ?_
  | (refine Zao rfl ?_; first | refine Zad rfl rfl ?_ | refine Zal rfl rfl ?_ | refine Za5 rfl rfl rfl (by first | rfl | (simp only [Zap]; rfl)) ?_ | refine Zax rfl rfl rfl rfl ?_ | refine Zcg rfl rfl rfl (by kernel_rfl) (by first | exact NilIs.ptr | exact NilIs.none | exact NilIs.nilI | assumption) rfl ?_ | refine Zcx rfl rfl rfl rfl rfl ?_ | refine Zid rfl rfl rfl rfl (by first | omega | (dsimp only; omega)) ?_ | refine Zcg rfl rfl rfl (by kernel_rfl) (by exact NilIs.ifc) rfl ?_)
  | refine Zac ?_
  | refine Zab ?_
  | refine Zam rfl (by first | rfl | assumption) ?_
  | refine Zak rfl (by first | rfl | assumption) ?_
  | refine Zau ?_
  | refine Zbx ?_
  | fail)
   refine Za3 () id (tm := [(11, .dat (.val (.bool (decide ((-1 : Int) = 0)))))]) ?_ (Zbc rfl rfl)
   (refine ⟨?_, ?_, by rfl⟩ <;> repeat' (first | exact trivial | exact ALe.ptr rfl | exact ALe.own rfl | exact ALe.elt rfl | exact BLe.boxD _ _ | exact BLe.row rfl | exact BLe.res | exact BLe.dead rfl | exact ALe.dat (PLe.refl _) | exact CLe.nil | refine And.intro ?_ ?_ | refine ALe.iface ?_ | refine ALe.clo ?_ | refine CLe.cons ?_ ?_ | refine BLe.box ?_ | refine BLe.row ?_ | exact ALe.any _ | refine ALe.dat (PLe.of_eq ?_)))
  | some y =>
   have hC := hE x y hp hq
   have e : Zfk f p q i k = f x y := by unfold Zfk; rw [if_neg h1, if_neg h2, hp, hq]
   rw [e]
   generalize f x y = c at *
   repeat' (first
  | refine Zae ?_
  | (refine Zao rfl ?_; first | refine Zad rfl rfl ?_ | refine Zal rfl rfl ?_ | refine Za5 rfl rfl rfl (by first | rfl | (simp only [Zap]; rfl)) ?_ | refine Zax rfl rfl rfl rfl ?_ | refine Zgo rfl (by kernel_rfl) rfl (by first | exact hC) ?_ | refine Zcx rfl rfl rfl rfl rfl ?_ | refine Zid rfl rfl rfl rfl (by first | omega | (dsimp only; omega)) ?_ | refine Zcg rfl rfl rfl (by kernel_rfl) (by exact NilIs.ifc) rfl ?_)
  | refine Zac ?_
  | refine Zab ?_
  | refine Zak rfl (by first | rfl | assumption) ?_
  | refine Zau ?_
  | refine Zbx ?_
  | fail)
   refine Za3 () id (tm := [(11, .dat (.val (.bool (decide (c = 0)))))]) ?_ (Zbc rfl rfl)
   (refine ⟨?_, ?_, by rfl⟩ <;> repeat' (first | exact trivial | exact ALe.ptr rfl | exact ALe.own rfl | exact ALe.elt rfl | exact BLe.boxD _ _ | exact BLe.row rfl | exact BLe.res | exact BLe.dead rfl | exact ALe.dat (PLe.refl _) | exact CLe.nil | refine And.intro ?_ ?_ | refine ALe.iface ?_ | refine ALe.clo ?_ | refine CLe.cons ?_ ?_ | refine BLe.box ?_ | refine BLe.row ?_ | exact ALe.any _ | refine ALe.dat (PLe.of_eq ?_)))
theorem Yo8 {A : List ByteArray} {x y : ByteArray} {R : List ByteArray} : ((pdS (A ++ y :: x :: R)).set (A.length + 1) (.val (.string y))).set A.length (.val (.string x)) = pdS (A ++ x :: y :: R) := by
 unfold pdS
 simp only [List.map_append, List.map_cons]
 have e : (A.map fun k => PD.val (.string k)).length = A.length := by simp
 rw [List.set_append_right _ _ (by rw [e]; omega), List.set_append_right _ _ (by rw [e]; omega), e]
 simp
theorem Zzg {A B : List ByteArray} {x : ByteArray} (h : Zf2 (A ++ B)) (hB : ∀ b ∈ B, blt x b = true) (hA : ∀ y, A.getLast? = some y → blt y x = true) : Zf2 (A ++ x :: B) := by
 unfold Zf2 at *
 rw [List.pairwise_append] at h ⊢
 obtain ⟨h1, h2, h3⟩ := h
 have hAx : ∀ a ∈ A, blt a x = true := by
  intro a ha
  rcases List.eq_nil_or_concat A with rfl | ⟨A', y, rfl⟩
  ·cases ha
  ·have hy := hA y (by simp)
   simp only [List.concat_eq_append] at ha h1
   rcases List.mem_append.1 ha with ha | ha
   ·rw [List.pairwise_append] at h1
    exact Zb9 (h1.2.2 a ha y (by simp)) hy
   ·simp at ha; subst ha; exact hy
 refine ⟨h1, List.pairwise_cons.2 ⟨hB, h2⟩, fun a ha b hb => ?_⟩
 rcases List.mem_cons.1 hb with rfl | hb
 ·exact hAx a ha
 ·exact h3 a ha b hb
def cTb (p q : List (ByteArray × JV)) (i : AV) (c : AV) : List (Nat × Blk) :=
 [(1000, .box 3 [i]), (1001, .box 3 [.dat (.val (.int .i64 (p.length : Int)))]), (1002, .box 3 [c]), (1003, .box 3 [.dat (.val (.int .i64 (q.length : Int)))]), (1004, .box 204 [.dat dvA])]
def Yci : AV := .clo 262 [.ptr 1000 0, .ptr 1001 0, .ptr 1002 0, .ptr 1003 0, .ptr 1004 0]
theorem Yal {A B R : List ByteArray} {x : ByteArray} {i : Nat} (h : A.length + B.length = i) : (A ++ x :: (B ++ R)).take (i + 1) = A ++ x :: B := by
 rw [show A ++ x :: (B ++ R) = (A ++ x :: B) ++ R by simp]
 rw [List.take_left' (by simp; omega)]
theorem Yap (o : Option JV) : NilIs true (Ysn o) (!o.isSome) := by
 cases o with
 | none => exact NilIs.nilI
 | some j => exact NilIs.ifc
theorem Ytg (f : JV → JV → Int) (p q : List (ByteArray × JV)) (K : List ByteArray) (hpq : p ≠ [] ∨ q ≠ []) (hp : (p.map (·.1)).Nodup) (hq : (q.map (·.1)).Nodup) (hl : (p.length + q.length) * 16 ≤ 140737488351232) (hK : Zf2 K) (hKm : ∀ k, k ∈ K ↔ k ∈ p.map (·.1) ∨ k ∈ q.map (·.1))
  (hE : ∀ k x y, lkJ p k = some x → lkJ q k = some y → PCall Tryz.prog 237 [dvA, dvV x, dvV y] (.val (.int .i64 (f x y)))) :
  Zbv Tryz.prog 338 [.dat dvA, .dat (dvM p), .dat (dvM q), Yci] (cTb p q (.dat (.val (.int .i64 0))) (.dat (.val (.int .i64 0)))) (.dat (.val (.bool (decide (Zjp f p q 0 K = 0))))) (cTb p q .any (.dat (.val (.int .i64 (Zjp f p q 0 K))))) := by
 have hI1 := Ynr p [] hp (by simp; omega)
 refine Zar Tryz.func338 rfl Tryz.ntmps338 rfl (fun X => ?_)
 obtain ⟨cap, hcap⟩ : ∃ cap, cap = if p.length < q.length then q.length else p.length := ⟨_, rfl⟩
 have hc1 : cap * 16 ≤ 140737488351232 := by rw [hcap]; split <;> omega
 have hc2 : cap ≤ 140737488351232 := by omega
 repeat' (first
  | (show Run _ _ _ _ (Itm.code (Code.cond (Operand.tmp 31) _ _) :: _) _; refine Yae ?_)
  | refine Zae ?_
  | (refine Zao rfl ?_; first | refine Zad rfl rfl ?_ | refine Zal rfl rfl ?_ | refine Za5 rfl rfl rfl (by first | rfl | (simp only [Zap]; rfl)) ?_ | refine Zax rfl rfl rfl rfl ?_ | refine Zcq rfl rfl rfl (by first | rfl | (simp only [Zap]; rfl)) ?_ | refine Zdq rfl rfl (by kernel_rfl) rfl (by first | exact Zjh _) ?_ | refine Zcg rfl rfl rfl (by kernel_rfl) (by exact NilIs.ifc) rfl ?_)
  | refine Zac ?_
  | refine Zab ?_
  | refine Zam rfl (by first | rfl | assumption) ?_
  | fail)
 refine ⟨?_⟩
 refine Zvs (Zl1 [(0, .dat dvA), (2, .dat (dvM q)), (3, Yci), (5, .ptr 5 0), (9, .dat (.val (.int .i64 (p.length : Int)))), (10, .dat (.val (.int .i64 (q.length : Int)))), (11, .dat (.val (.int .i64 (cap : Int))))]
  ((5, .box 321 [.dat (dvM p)]) :: cTb p q (.dat (.val (.int .i64 0))) (.dat (.val (.int .i64 0))))) ?_ ?_
 ·by_cases hgt : p.length < q.length
  ·have g : decide ((p.length : Int) < (q.length : Int)) = true := decide_eq_true (by omega)
   rw [if_pos hgt] at hcap
   subst hcap
   repeat' (first
  | (refine Zao rfl ?_; first | refine Zad rfl rfl ?_ | refine Zal rfl rfl ?_)
  | refine Zac ?_
  | refine Zab ?_
  | refine Zam rfl (by first | rfl | assumption) ?_
  | fail)
   refine Zg9 id ?_
   (refine ⟨?_, ?_, by rfl⟩ <;> repeat' (first | exact trivial | exact ALe.ptr rfl | exact ALe.own rfl | exact ALe.elt rfl | exact BLe.boxD _ _ | exact BLe.row rfl | exact BLe.res | exact BLe.dead rfl | exact ALe.dat (PLe.refl _) | exact CLe.nil | refine And.intro ?_ ?_ | refine ALe.iface ?_ | refine ALe.clo ?_ | refine CLe.cons ?_ ?_ | refine BLe.box ?_ | refine BLe.row ?_ | exact ALe.any _ | refine ALe.dat (PLe.of_eq ?_)))
  ·have g : decide ((p.length : Int) < (q.length : Int)) = false := decide_eq_false (by omega)
   rw [if_neg hgt] at hcap
   subst hcap
   repeat' (first
  | refine Zak rfl (by first | rfl | assumption) ?_
  | refine Zas ?_
  | fail)
   refine Zg9 id ?_
   (refine ⟨?_, ?_, by rfl⟩ <;> repeat' (first | exact trivial | exact ALe.ptr rfl | exact ALe.own rfl | exact ALe.elt rfl | exact BLe.boxD _ _ | exact BLe.row rfl | exact BLe.res | exact BLe.dead rfl | exact ALe.dat (PLe.refl _) | exact CLe.nil | refine And.intro ?_ ?_ | refine ALe.iface ?_ | refine ALe.clo ?_ | refine CLe.cons ?_ ?_ | refine BLe.box ?_ | refine BLe.row ?_ | exact ALe.any _ | refine ALe.dat (PLe.of_eq ?_)))
 clear hcap
 repeat' (first
  | (show Run _ _ _ _ (Itm.code (Code.region 10 _ _) :: _) _; refine Yae ?_)
  | refine Zae ?_
  | fail)
 refine ⟨?_⟩
 refine Zvs (Zl1 [(0, .dat dvA), (2, .dat (dvM q)), (3, Yci), (5, .ptr 5 0), (11, .dat (.val (.int .i64 (cap : Int)))), (38, .dat (.val (.bool false)))]
  ((5, .box 321 [.dat (dvM p)]) :: cTb p q (.dat (.val (.int .i64 0))) (.dat (.val (.int .i64 0))))) ?_ ?_
 ·by_cases h1 : p.length = 0
  ·have g1 : decide ((p.length : Int) = 0) = true := decide_eq_true (by omega)
   have h2 : q.length ≠ 0 := fun h2 => hpq.elim (fun h => h (List.eq_nil_of_length_eq_zero h1)) (fun h => h (List.eq_nil_of_length_eq_zero h2))
   have g2 : decide ((q.length : Int) = 0) = false := decide_eq_false (by omega)
   repeat' (first
  | (refine Zao rfl ?_; first | refine Zal rfl rfl ?_ | refine Zax rfl rfl rfl rfl ?_ | refine Zfz rfl rfl (by first | rfl | assumption) rfl ?_)
  | refine Zac ?_
  | refine Zab ?_
  | (refine Zc3 rfl rfl (by first | rfl | assumption) ?_; first | refine Zal rfl rfl ?_ | refine Zax rfl rfl rfl rfl ?_)
  | fail)
   refine Zg9 id ?_
   (refine ⟨?_, ?_, by rfl⟩ <;> repeat' (first | exact trivial | exact ALe.ptr rfl | exact ALe.own rfl | exact ALe.elt rfl | exact BLe.boxD _ _ | exact BLe.row rfl | exact BLe.res | exact BLe.dead rfl | exact ALe.dat (PLe.refl _) | exact CLe.nil | refine And.intro ?_ ?_ | refine ALe.iface ?_ | refine ALe.clo ?_ | refine CLe.cons ?_ ?_ | refine BLe.box ?_ | refine BLe.row ?_ | exact ALe.any _ | refine ALe.dat (PLe.of_eq ?_)))
   all_goals (rw [g2])
  ·have g1 : decide ((p.length : Int) = 0) = false := decide_eq_false (by omega)
   repeat' (first
  | (refine Zao rfl ?_; first | refine Zal rfl rfl ?_ | refine Zax rfl rfl rfl rfl ?_ | refine Zen rfl rfl (by first | rfl | assumption) rfl ?_)
  | refine Zac ?_
  | refine Zab ?_
  | refine Ze3 rfl rfl (by first | rfl | assumption) rfl ?_
  | fail)
   refine Zg9 id ?_
   (refine ⟨?_, ?_, by rfl⟩ <;> repeat' (first | exact trivial | exact ALe.ptr rfl | exact ALe.own rfl | exact ALe.elt rfl | exact BLe.boxD _ _ | exact BLe.row rfl | exact BLe.res | exact BLe.dead rfl | exact ALe.dat (PLe.refl _) | exact CLe.nil | refine And.intro ?_ ?_ | refine ALe.iface ?_ | refine ALe.clo ?_ | refine CLe.cons ?_ ?_ | refine BLe.box ?_ | refine BLe.row ?_ | exact ALe.any _ | refine ALe.dat (PLe.of_eq ?_)))
 repeat' (first
  | refine Zae ?_
  | (refine Zao rfl ?_; first | refine Zop rfl rfl rfl rfl (by kernel_rfl) hc1 hc2 ?_ | refine Zal rfl rfl ?_ | refine Za5 rfl rfl rfl (by first | rfl | (simp only [Zap]; rfl)) ?_ | refine Zcx rfl rfl rfl rfl rfl ?_ | refine Zlx rfl rfl ?_ | refine Zgd rfl ?_ | refine Zcg rfl rfl rfl (by kernel_rfl) (by exact NilIs.ifc) rfl ?_)
  | refine Zac ?_
  | refine Zab ?_
  | refine Zam rfl (by first | rfl | assumption) ?_
  | refine Zak rfl (by first | rfl | assumption) ?_
  | refine Zas ?_
  | fail)
 refine Zao rfl (Ye0 (thk [(1000, _), (1001, _)] 200) rfl rfl (by kernel_rfl) hI1 rfl ⟨rfl, rfl, trivial⟩ rfl (fun _ => Zai rfl) (fun _ => rfl) (fun q1 => ?_))
 have hq1l : q1.1.length = p.length := by have := q1.2.length_eq; simpa using this
 have hI2 := Yns p q ([] ++ q1.1) hq (by simp [hq1l]; omega)
 repeat' (first
  | refine Zae ?_
  | (refine Zao rfl ?_; first | refine Zal rfl rfl ?_ | refine Zgd rfl ?_ | refine Zcg rfl rfl rfl (by kernel_rfl) (by exact NilIs.ifc) rfl ?_)
  | refine Zac ?_
  | refine Zab ?_
  | refine Zam rfl (by first | rfl | assumption) ?_
  | fail)
 refine Zao rfl (Ye0 (thk [(1000, _), (1001, _), (1002, _)] 350) rfl rfl (by kernel_rfl) hI2 rfl ⟨rfl, rfl, rfl, trivial⟩ rfl (fun _ => Zai rfl) (fun _ => rfl) (fun q2 => ?_))
 obtain ⟨L0, hL0⟩ : ∃ L0, L0 = [] ++ q1.1 ++ q2.1 := ⟨_, rfl⟩
 have hmem : ∀ k, k ∈ L0 ↔ k ∈ K := by
  intro k
  rw [hL0, hKm, List.nil_append, List.mem_append, q1.2.mem_iff, q2.2.mem_iff, List.mem_filter]
  constructor
  ·rintro (h | h)
   ·exact .inl h
   ·exact .inr h.1
  ·rintro (h | h)
   ·exact .inl h
   ·by_cases hk : k ∈ p.map (·.1)
    ·exact .inl hk
    ·refine .inr ⟨h, ?_⟩
     rw [Zh1, Zey (fun e he hek => hk (by rw [← hek]; exact List.mem_map_of_mem (f := (·.1)) he))]
     rfl
 have hnd0 : L0.Nodup := by
  rw [hL0, List.nil_append, List.nodup_append]
  refine ⟨q1.2.nodup_iff.2 hp, q2.2.nodup_iff.2 (hq.filter _), fun a ha b hb e => ?_⟩
  subst e
  have h1 := q1.2.mem_iff.1 ha
  have h2 := (List.mem_filter.1 (q2.2.mem_iff.1 hb)).2
  obtain ⟨y, hy, rfl⟩ := List.mem_map.1 h1
  rw [Zh1, Zgk hp (show (y.1, y.2) ∈ p from hy)] at h2
  cases h2
 have hne0 : 1 ≤ L0.length := by
  have : ∃ k, k ∈ K := by
   rcases hpq with h | h
   ·cases p with
    | nil => exact absurd rfl h
    | cons y r => exact ⟨y.1, (hKm _).2 (.inl (by simp))⟩
   ·cases q with
    | nil => exact absurd rfl h
    | cons y r => exact ⟨y.1, (hKm _).2 (.inr (by simp))⟩
  obtain ⟨k, hk⟩ := this
  exact List.length_pos_of_mem ((hmem k).2 hk)
 have hlen0 : L0.length ≤ 140737488351232 := by
  have h2 := q2.2.length_eq
  have h3 := List.length_filter_le (fun k => !(lkJ p k).isSome) (q.map (·.1))
  simp at h2 h3
  rw [hL0]; simp [hq1l]; omega
 repeat' (first
  | refine Zae ?_
  | (refine Zao rfl ?_; refine Zad rfl rfl ?_)
  | refine Zac ?_
  | refine Zab ?_
  | refine Zau ?_
  | fail)
 refine Zaq (ι := { x : List ByteArray × Nat // x.1.Perm L0 ∧ 1 ≤ x.2 ∧ x.2 ≤ x.1.length ∧ Zf2 (x.1.take x.2) })
  (fun x => [(0, .dat dvA), (2, .dat (dvM q)), (3, Yci), (5, .ptr 5 0), (12, .ptr 12 0), (13, .dat (.val (.int .i64 (x.1.2 : Nat))))])
  (fun x => [(5, .box 321 [.dat (dvM p)]), (12, .box 24 [.own 350]), (350, .row 9 1 16 (pdS x.1.1))] ++ cTb p q (.dat (.val (.int .i64 0))) (.dat (.val (.int .i64 0))))
  (fun x => L0.length - x.1.2) ⟨(L0, 1), .refl _, Nat.le_refl _, hne0, by
   cases L0 with
   | nil => simp at hne0
   | cons x r => simp [Zf2]⟩ id ?_ ?_
 ·(refine ⟨?_, ?_, by rfl⟩ <;> repeat' (first | exact trivial | exact ALe.ptr rfl | exact ALe.own rfl | exact ALe.elt rfl | exact BLe.boxD _ _ | exact BLe.row rfl | exact BLe.res | exact BLe.dead rfl | exact ALe.dat (PLe.refl _) | exact CLe.nil | refine And.intro ?_ ?_ | refine ALe.iface ?_ | refine ALe.clo ?_ | refine CLe.cons ?_ ?_ | refine BLe.box ?_ | refine BLe.row ?_ | exact ALe.any _ | refine ALe.dat (PLe.of_eq ?_)))
  all_goals (first | (show pdS ([] ++ q1.1 ++ q2.1) = pdS L0; rw [hL0]) | rfl)
 rintro ⟨⟨L, i⟩, hperm, hi1, hi2, hinc⟩
 have hperm : L.Perm L0 := hperm
 have hi1 : 1 ≤ i := hi1
 have hi2 : i ≤ L.length := hi2
 have hinc : Zf2 (L.take i) := hinc
 have hLl : L.length = L0.length := hperm.length_eq
 have hps := Zby L
 by_cases hlt : i < L.length
 ·have g : decide ((i : Int) < (((pdS L).length : Nat) : Int)) = true := by rw [hps]; simpa using hlt
  repeat' (first
  | refine Zae ?_
  | (refine Zao rfl ?_; first | refine Zad rfl rfl ?_ | refine Zal rfl rfl ?_ | refine Zax rfl rfl rfl rfl ?_ | refine Zkq rfl rfl rfl rfl ?_ | refine Ye1 rfl rfl rfl ?_)
  | refine Zac ?_
  | refine Zab ?_
  | refine Zam rfl (by first | rfl | assumption) ?_
  | refine Zau ?_
  | refine Zas ?_
  | fail)
  refine Zaq (ι := { x : List ByteArray × ByteArray × List ByteArray // (x.1 ++ x.2.1 :: (x.2.2 ++ L.drop (i + 1))).Perm L0 ∧ x.1.length + x.2.2.length = i ∧ Zf2 (x.1 ++ x.2.2) ∧ ∀ b ∈ x.2.2, blt x.2.1 b = true })
   (fun x => [(0, .dat dvA), (2, .dat (dvM q)), (3, Yci), (5, .ptr 5 0), (12, .ptr 12 0), (13, .dat (.val (.int .i64 (i : Nat)))), (14, .dat (.val (.int .i64 (x.1.1.length : Nat))))])
   (fun x => [(5, .box 321 [.dat (dvM p)]), (12, .box 24 [.own 350]), (350, .row 9 1 16 (pdS (x.1.1 ++ x.1.2.1 :: (x.1.2.2 ++ L.drop (i + 1)))))] ++ cTb p q (.dat (.val (.int .i64 0))) (.dat (.val (.int .i64 0))))
   (fun x => x.1.1.length) ⟨(L.take i, L[i], []), by simpa [List.take_append_drop] using hperm, by simp; omega, by simpa using hinc, by simp⟩ id ?_ ?_
  ·(refine ⟨?_, ?_, by rfl⟩ <;> repeat' (first | exact trivial | exact ALe.ptr rfl | exact ALe.own rfl | exact ALe.elt rfl | exact BLe.boxD _ _ | exact BLe.row rfl | exact BLe.res | exact BLe.dead rfl | exact ALe.dat (PLe.refl _) | exact CLe.nil | refine And.intro ?_ ?_ | refine ALe.iface ?_ | refine ALe.clo ?_ | refine CLe.cons ?_ ?_ | refine BLe.box ?_ | refine BLe.row ?_ | exact ALe.any _ | refine ALe.dat (PLe.of_eq ?_)))
   all_goals (first | rfl | (simp [List.length_take]; done) | (simp [List.length_take]; omega))
  rintro ⟨⟨A, x, B⟩, hperm2, hab, hinc2, hB⟩
  have hperm2 : (A ++ x :: (B ++ L.drop (i + 1))).Perm L0 := hperm2
  have hab : A.length + B.length = i := hab
  have hinc2 : Zf2 (A ++ B) := hinc2
  have hB : ∀ b ∈ B, blt x b = true := hB
  have hll : (A ++ x :: (B ++ L.drop (i + 1))).length = L0.length := hperm2.length_eq
  generalize L.drop (i + 1) = R at *
  rcases List.eq_nil_or_concat A with rfl | ⟨A', y, rfl⟩
  ·have g1 : decide ((0 : Int) < ((([] : List ByteArray).length : Nat) : Int)) = false := rfl
   repeat' (first
  | refine Zae ?_
  | (refine Zao rfl ?_; first | refine Zad rfl rfl ?_ | refine Zal rfl rfl ?_ | refine Zid rfl rfl rfl rfl (by first | omega | (dsimp only; omega)) ?_)
  | refine Zac ?_
  | refine Zab ?_
  | refine Zak rfl (by first | rfl | assumption) ?_
  | refine Zbx ?_
  | refine Ze7 rfl ?_
  | refine Ze6 (by kernel_rfl) ?_
  | refine Zmu (And.intro (by kernel_rfl) ?_)
  | refine Zbl (Zjr rfl rfl) ?_
  | refine Zbl (Zim rfl rfl rfl rfl) ?_
  | refine Zbl (Ydq rfl rfl (by first | rfl | assumption) rfl) ?_
  | refine Yc3 rfl (by first | rfl | assumption) rfl ?_
  | fail)
   refine Zan ?_
   refine ⟨⟨([] ++ x :: (B ++ R), i + 1), hperm2, by omega, by rw [hll, ← hLl]; omega, ?_⟩, id, by show L0.length - (i + 1) < L0.length - i; omega, ?_⟩
   ·show Zf2 (([] ++ x :: (B ++ R)).take (i + 1))
    rw [Yal hab]
    exact Zzg hinc2 hB (fun y h => by simp at h)
   (refine ⟨?_, ?_, by rfl⟩ <;> repeat' (first | exact trivial | exact ALe.ptr rfl | exact ALe.own rfl | exact ALe.elt rfl | exact BLe.boxD _ _ | exact BLe.row rfl | exact BLe.res | exact BLe.dead rfl | exact ALe.dat (PLe.refl _) | exact CLe.nil | refine And.intro ?_ ?_ | refine ALe.iface ?_ | refine ALe.clo ?_ | refine CLe.cons ?_ ?_ | refine BLe.box ?_ | refine BLe.row ?_ | exact ALe.any _ | refine ALe.dat (PLe.of_eq ?_)))
  ·simp only [List.concat_eq_append] at *
   have hal : (A' ++ [y]).length = A'.length + 1 := by simp
   have g1 : decide ((0 : Int) < (((A' ++ [y]).length : Nat) : Int)) = true := decide_eq_true (by omega)
   have z0 : (((A' ++ [y]).length : Nat) : Int) = (((A' ++ [y]).length : Nat) : Int) := rfl
   have z1 : (((A' ++ [y]).length : Nat) : Int) - 1 = ((A'.length : Nat) : Int) := by rw [hal]; omega
   have hx : (pdS (A' ++ [y] ++ x :: (B ++ R)))[(A' ++ [y]).length]? = some (.val (.string x)) := Zfb (by rw [List.getElem?_append_right (Nat.le_refl _)]; simp)
   have hy : (pdS (A' ++ [y] ++ x :: (B ++ R)))[A'.length]? = some (.val (.string y)) := Zfb (by simp)
   have l0 : (A' ++ [y]).length < (pdS (A' ++ [y] ++ x :: (B ++ R))).length := (List.getElem?_eq_some_iff.1 hx).1
   have l1 : A'.length < (pdS (A' ++ [y] ++ x :: (B ++ R))).length := (List.getElem?_eq_some_iff.1 hy).1
   cases hb : blt x y with
   | true =>
    have l2 : A'.length < ((pdS (A' ++ [y] ++ x :: (B ++ R))).set (A' ++ [y]).length (.val (.string y))).length := by rw [List.length_set]; exact l1
    have hsw : ((pdS (A' ++ [y] ++ x :: (B ++ R))).set (A' ++ [y]).length (.val (.string y))).set A'.length (.val (.string x)) = pdS (A' ++ x :: (y :: B ++ R)) := by
     rw [hal, show A' ++ [y] ++ x :: (B ++ R) = A' ++ y :: x :: (B ++ R) by simp, Yo8]
     simp
    repeat' (first
  | refine Zae ?_
  | (refine Zao rfl ?_; first | refine Zad rfl rfl ?_ | refine Zal rfl rfl ?_ | refine Zid rfl rfl rfl rfl (by first | omega | (dsimp only; omega)) ?_)
  | refine Zac ?_
  | refine Zab ?_
  | refine Zam rfl (by first | rfl | assumption) ?_
  | refine Zau ?_
  | refine Zbx ?_
  | refine Zas ?_
  | refine Ze6 (by kernel_rfl) ?_
  | refine Zmu (And.intro (by kernel_rfl) ?_)
  | refine Zbl (Zm1 rfl rfl rfl rfl (by assumption) (by assumption)) ?_
  | refine Zbl (Zrw rfl rfl rfl (by assumption)) ?_
  | refine Zbl (Zyu rfl rfl (by assumption) rfl) ?_
  | refine Zbl (Zjr rfl rfl) ?_
  | refine Zbl (Zim rfl rfl rfl rfl) ?_
  | refine Zbl (Zwq rfl rfl (by first | rfl | assumption) rfl) ?_
  | refine Zbl (Zym rfl rfl rfl rfl (by first | omega | (dsimp only; omega))) ?_
  | refine Zbl (Zm3 rfl rfl rfl rfl) ?_
  | refine Zfd rfl (by first | rfl | assumption) (Zm1 rfl rfl rfl rfl (by assumption) (by assumption)) ?_
  | refine Zfd rfl (by first | rfl | assumption) (Zrw rfl rfl rfl (by assumption)) ?_
  | refine Zfd rfl (by first | rfl | assumption) (Zjr rfl rfl) ?_
  | refine Zfd rfl (by first | rfl | assumption) (Zim rfl rfl rfl rfl) ?_
  | refine Zfd rfl (by first | rfl | assumption) (Zym rfl rfl rfl rfl (by first | omega | (dsimp only; omega))) ?_
  | refine Zfd rfl (by first | rfl | assumption) (Zm3 rfl rfl rfl rfl) ?_
  | fail)
    refine Zan ?_
    refine ⟨⟨(A', x, y :: B), ?_, by simp at hab ⊢; omega, by simpa using hinc2, ?_⟩, id, by show A'.length < (A' ++ [y]).length; omega, ?_⟩
    ·refine List.Perm.trans ?_ hperm2
     show (A' ++ x :: (y :: B ++ R)).Perm (A' ++ [y] ++ x :: (B ++ R))
     rw [show A' ++ [y] ++ x :: (B ++ R) = A' ++ (y :: x :: (B ++ R)) by simp, show A' ++ x :: (y :: B ++ R) = A' ++ (x :: y :: (B ++ R)) by simp]
     exact (List.Perm.swap y x _).append_left A'
    ·intro b hb'
     rcases List.mem_cons.1 hb' with rfl | hb'
     ·exact hb
     ·exact hB b hb'
    (refine ⟨?_, ?_, by rfl⟩ <;> repeat' (first | exact trivial | exact ALe.ptr rfl | exact ALe.own rfl | exact ALe.elt rfl | exact BLe.boxD _ _ | exact BLe.row rfl | exact BLe.res | exact BLe.dead rfl | exact ALe.dat (PLe.refl _) | exact CLe.nil | refine And.intro ?_ ?_ | refine ALe.iface ?_ | refine ALe.clo ?_ | refine CLe.cons ?_ ?_ | refine BLe.box ?_ | refine BLe.row ?_ | exact ALe.any _ | refine ALe.dat (PLe.of_eq ?_)))
    all_goals first | exact congrArg _ (congrArg _ z1) | exact hsw | rw [z1] | rw [hsw]
   | false =>
    repeat' (first
  | refine Zae ?_
  | (refine Zao rfl ?_; first | refine Zad rfl rfl ?_ | refine Zal rfl rfl ?_ | refine Zid rfl rfl rfl rfl (by first | omega | (dsimp only; omega)) ?_)
  | refine Zac ?_
  | refine Zab ?_
  | refine Zak rfl (by first | rfl | assumption) ?_
  | refine Zbx ?_
  | refine Ze7 rfl ?_
  | refine Ze6 (by kernel_rfl) ?_
  | refine Zmu (And.intro (by kernel_rfl) ?_)
  | refine Zbl (Zjr rfl rfl) ?_
  | refine Zbl (Zim rfl rfl rfl rfl) ?_
  | refine Zbl (Zwq rfl rfl (by first | rfl | assumption) rfl) ?_
  | refine Zfd rfl (by first | rfl | assumption) (Zm1 rfl rfl rfl rfl (by assumption) (by assumption)) ?_
  | refine Zfd rfl (by first | rfl | assumption) (Zrw rfl rfl rfl (by assumption)) ?_
  | refine Zfd rfl (by first | rfl | assumption) (Zjr rfl rfl) ?_
  | refine Zfd rfl (by first | rfl | assumption) (Zim rfl rfl rfl rfl) ?_
  | refine Zfd rfl (by first | rfl | assumption) (Zym rfl rfl rfl rfl (by first | omega | (dsimp only; omega))) ?_
  | refine Zfd rfl (by first | rfl | assumption) (Zm3 rfl rfl rfl rfl) ?_
  | fail)
    refine Zan ?_
    refine ⟨⟨(A' ++ [y] ++ x :: (B ++ R), i + 1), hperm2, by omega, by rw [hll, ← hLl]; omega, ?_⟩, id, by show L0.length - (i + 1) < L0.length - i; omega, ?_⟩
    ·show Zf2 ((A' ++ [y] ++ x :: (B ++ R)).take (i + 1))
     rw [Yal hab]
     refine Zzg hinc2 hB (fun z hz => ?_)
     simp at hz
     subst hz
     cases hbb : blt y x with
     | true => rfl
     | false =>
      have := Zgf hb hbb
      subst this
      have hnd2 : (A' ++ [x] ++ x :: (B ++ R)).Nodup := hperm2.nodup_iff.2 hnd0
      simp [List.nodup_append] at hnd2
    (refine ⟨?_, ?_, by rfl⟩ <;> repeat' (first | exact trivial | exact ALe.ptr rfl | exact ALe.own rfl | exact ALe.elt rfl | exact BLe.boxD _ _ | exact BLe.row rfl | exact BLe.res | exact BLe.dead rfl | exact ALe.dat (PLe.refl _) | exact CLe.nil | refine And.intro ?_ ?_ | refine ALe.iface ?_ | refine ALe.clo ?_ | refine CLe.cons ?_ ?_ | refine BLe.box ?_ | refine BLe.row ?_ | exact ALe.any _ | refine ALe.dat (PLe.of_eq ?_)))
 have g : decide ((i : Int) < (((pdS L).length : Nat) : Int)) = false := by rw [hps]; simpa using hlt
 have hLK : L = K := Zsc (by rw [List.take_of_length_le (by omega)] at hinc; exact hinc) hK (fun k => (hperm.mem_iff).trans (hmem k))
 subst hLK
 obtain ⟨C, hC0⟩ : ∃ C, C = Zjp f p q 0 L := ⟨_, rfl⟩
 rw [← hC0]
 repeat' (first
  | refine Zae ?_
  | (refine Zao rfl ?_; first | refine Zal rfl rfl ?_ | refine Zax rfl rfl rfl rfl ?_ | refine Zkq rfl rfl rfl rfl ?_ | refine Ye1 rfl rfl rfl ?_)
  | refine Zac ?_
  | refine Zab ?_
  | refine Zak rfl (by first | rfl | assumption) ?_
  | refine Zau ?_
  | refine Ze7 rfl ?_
  | fail)
 refine Zaq (ι := { j : Nat // j ≤ L.length ∧ C = Zjp f p q j (L.drop j) })
  (fun j => [(0, .dat dvA), (2, .dat (dvM q)), (3, Yci), (5, .ptr 5 0), (92, .own 350), (93, .dat (.val (.int .i64 ((pdS L).length : Nat)))), (94, .dat (.val (.int .i64 (j.1 : Nat))))])
  (fun j => [(5, .box 321 [.dat (dvM p)]), (350, .row 9 1 16 (pdS L))] ++ cTb p q (.dat (.val (.int .i64 (j.1 : Nat)))) (.dat (.val (.int .i64 0))))
  (fun j => L.length - j.1) ⟨0, Nat.zero_le _, hC0⟩ id ?_ ?_
 ·(refine ⟨?_, ?_, by rfl⟩ <;> repeat' (first | exact trivial | exact ALe.ptr rfl | exact ALe.own rfl | exact ALe.elt rfl | exact BLe.boxD _ _ | exact BLe.row rfl | exact BLe.res | exact BLe.dead rfl | exact ALe.dat (PLe.refl _) | exact CLe.nil | refine And.intro ?_ ?_ | refine ALe.iface ?_ | refine ALe.clo ?_ | refine CLe.cons ?_ ?_ | refine BLe.box ?_ | refine BLe.row ?_ | exact ALe.any _ | refine ALe.dat (PLe.of_eq ?_)))
 rintro ⟨j, hj, hcj⟩
 by_cases hjl : j < L.length
 ·have g2 : decide ((j : Int) < (((pdS L).length : Nat) : Int)) = true := by rw [hps]; simpa using hjl
  obtain ⟨k, hk⟩ : ∃ k, L[j]? = some k := ⟨_, List.getElem?_eq_getElem hjl⟩
  have i1 : (pdS L)[j]? = some (.val (.string k)) := Zfb hk
  have i2 : j < (pdS L).length := by rw [hps]; exact hjl
  have z0 : ((j : Nat) : Int) = ((j : Nat) : Int) := rfl
  have hC := Yqe f p q j k (by omega) (hE k)
  have hg1 := Yq3 p k
  have hg2 := Yq3 q k
  have hd : L.drop j = k :: L.drop (j + 1) := by
   rw [List.drop_eq_getElem_cons hjl]
   rw [List.getElem?_eq_getElem hjl] at hk
   rw [Option.some.inj hk]
  rw [hd] at hcj
  simp only [Zjp] at hcj
  generalize Zfk f p q j k = c at *
  have hn1 := Yap (lkJ p k)
  have hn2 := Yap (lkJ q k)
  generalize lkJ p k = o1 at *
  generalize lkJ q k = o2 at *
  by_cases hc : c = 0
  ·have g3 : (!decide (c = 0)) = false := by simp [hc]
   rw [if_pos hc] at hcj
   repeat' (first
  | refine Zae ?_
  | (refine Zao rfl ?_; first | refine Zsi rfl rfl rfl rfl (by assumption) (by assumption) ?_ | refine Zw7 rfl rfl rfl (by assumption) ?_ | refine Zad rfl rfl ?_ | refine Zal rfl rfl ?_ | refine Za5 rfl rfl rfl (by first | rfl | (simp only [Zap]; rfl)) ?_ | refine Zax rfl rfl rfl rfl ?_ | refine Zcb rfl rfl rfl ?_ | refine Zcg rfl rfl rfl (by kernel_rfl) (by first | exact NilIs.ptr | exact NilIs.none | exact NilIs.nilI | assumption) rfl ?_ | refine Zdc rfl rfl ?_ | refine Zid rfl rfl rfl rfl (by first | omega | (dsimp only; omega)) ?_ | refine Zhz (thk [(1000, _), (1001, _), (1002, _), (1003, _), (1004, _)] 200) rfl rfl (by kernel_rfl) (hC) rfl ⟨rfl, ⟨rfl, ⟨rfl, ⟨rfl, ⟨rfl, trivial⟩⟩⟩⟩⟩ rfl (Zai rfl) rfl ?_ | refine Zdq rfl rfl (by kernel_rfl) rfl (by first | exact hg1 | exact hg2 | exact Ylj _) ?_ | refine Zh0 rfl rfl ?_ | refine Zcg rfl rfl rfl (by kernel_rfl) (by exact NilIs.ifc) rfl ?_)
  | refine Zac ?_
  | refine Zab ?_
  | refine Zam rfl (by first | rfl | assumption) ?_
  | refine Zak rfl (by first | rfl | assumption) ?_
  | refine Znj rfl (fun h => ?_) (fun h => ?_)
  | refine Zau ?_
  | refine Zbx ?_
  | refine Zas ?_
  | fail)
   all_goals
    refine Zan ?_
    refine ⟨⟨j + 1, by omega, hcj⟩, id, by simp only; omega, ?_⟩
    (refine ⟨?_, ?_, by rfl⟩ <;> repeat' (first | exact trivial | exact ALe.ptr rfl | exact ALe.own rfl | exact ALe.elt rfl | exact BLe.boxD _ _ | exact BLe.row rfl | exact BLe.res | exact BLe.dead rfl | exact ALe.dat (PLe.refl _) | exact CLe.nil | refine And.intro ?_ ?_ | refine ALe.iface ?_ | refine ALe.clo ?_ | refine CLe.cons ?_ ?_ | refine BLe.box ?_ | refine BLe.row ?_ | exact ALe.any _ | refine ALe.dat (PLe.of_eq ?_)))
    all_goals (first | rfl | (rw [hc]) | simp)
  ·have g3 : (!decide (c = 0)) = true := by simp [hc]
   rw [if_neg hc] at hcj
   subst hcj
   repeat' (first
  | refine Zae ?_
  | (refine Zao rfl ?_; first | refine Zsi rfl rfl rfl rfl (by assumption) (by assumption) ?_ | refine Zw7 rfl rfl rfl (by assumption) ?_ | refine Zad rfl rfl ?_ | refine Zal rfl rfl ?_ | refine Za5 rfl rfl rfl (by first | rfl | (simp only [Zap]; rfl)) ?_ | refine Zax rfl rfl rfl rfl ?_ | refine Zcb rfl rfl rfl ?_ | refine Zcg rfl rfl rfl (by kernel_rfl) (by first | exact NilIs.ptr | exact NilIs.none | exact NilIs.nilI | assumption) rfl ?_ | refine Zdc rfl rfl ?_ | refine Zhz (thk [(1000, _), (1001, _), (1002, _), (1003, _), (1004, _)] 200) rfl rfl (by kernel_rfl) (hC) rfl ⟨rfl, ⟨rfl, ⟨rfl, ⟨rfl, ⟨rfl, trivial⟩⟩⟩⟩⟩ rfl (Zai rfl) rfl ?_ | refine Zdq rfl rfl (by kernel_rfl) rfl (by first | exact hg1 | exact hg2 | exact Ylj _) ?_ | refine Zh0 rfl rfl ?_ | refine Zcg rfl rfl rfl (by kernel_rfl) (by exact NilIs.ifc) rfl ?_)
  | refine Zac ?_
  | refine Zab ?_
  | refine Zam rfl (by first | rfl | assumption) ?_
  | refine Znj rfl (fun h => ?_) (fun h => ?_)
  | refine Zau ?_
  | refine Zas ?_
  | fail)
   all_goals
    refine Za3 () id (tm := [(8, .dat (.val (.bool (decide (C = 0)))))]) ?_ (Zbc rfl rfl)
    (refine ⟨?_, ?_, by rfl⟩ <;> repeat' (first | exact trivial | exact ALe.ptr rfl | exact ALe.own rfl | exact ALe.elt rfl | exact BLe.boxD _ _ | exact BLe.row rfl | exact BLe.res | exact BLe.dead rfl | exact ALe.dat (PLe.refl _) | exact CLe.nil | refine And.intro ?_ ?_ | refine ALe.iface ?_ | refine ALe.clo ?_ | refine CLe.cons ?_ ?_ | refine BLe.box ?_ | refine BLe.row ?_ | exact ALe.any _ | refine ALe.dat (PLe.of_eq ?_)))
    all_goals (rw [show decide (C = 0) = false from decide_eq_false hc])
 ·have g2 : decide ((j : Int) < (((pdS L).length : Nat) : Int)) = false := by rw [hps]; simpa using hjl
  have e : C = 0 := by rw [hcj, List.drop_eq_nil_of_le (by omega)]; rfl
  subst e
  repeat' (first
  | refine Zae ?_
  | (refine Zao rfl ?_; first | refine Zad rfl rfl ?_ | refine Zax rfl rfl rfl rfl ?_)
  | refine Zac ?_
  | refine Zab ?_
  | refine Zak rfl (by first | rfl | assumption) ?_
  | refine Ze7 rfl ?_
  | fail)
  refine Za3 () id (tm := [(8, .dat (.val (.bool true)))]) ?_ (Zbc rfl rfl)
  (refine ⟨?_, ?_, by rfl⟩ <;> repeat' (first | exact trivial | exact ALe.ptr rfl | exact ALe.own rfl | exact ALe.elt rfl | exact BLe.boxD _ _ | exact BLe.row rfl | exact BLe.res | exact BLe.dead rfl | exact ALe.dat (PLe.refl _) | exact CLe.nil | refine And.intro ?_ ?_ | refine ALe.iface ?_ | refine ALe.clo ?_ | refine CLe.cons ?_ ?_ | refine BLe.box ?_ | refine BLe.row ?_ | exact ALe.any _ | refine ALe.dat (PLe.of_eq ?_)))
theorem Ym2 {w : World} {F : Nat → Prop} {l1 l2 : List JV} {vs : List Value} (hvs : Reps w F [dvA, dvL l1, dvL l2] vs) : l1.length * 16 ≤ 140737488351232 ∧ l2.length * 16 ≤ 140737488351232 := by
 unfold Reps at hvs; obtain ⟨_, _, _, _, hvs⟩ := hvs
 unfold Reps at hvs; obtain ⟨_, _, _, hv1, hvs⟩ := hvs
 unfold Reps at hvs; obtain ⟨_, _, _, hv2, _⟩ := hvs
 unfold dvL Rep at hv1 hv2
 obtain ⟨_, _, hv1⟩ := hv1
 obtain ⟨_, _, hv2⟩ := hv2
 exact ⟨Zr0 hv1, Zr0 hv2⟩
theorem Yjr (f : JV → JV → Int) (l1 l2 : List JV) (hE : ∀ x ∈ l1, ∀ y ∈ l2, PCall Tryz.prog 237 [dvA, dvV x, dvV y] (.val (.int .i64 (f x y)))) : PCall Tryz.prog 251 [dvA, dvL l1, dvL l2] (.val (.int .i64 (Zgh f l1 l2))) := by
 refine PCall.ex fun w F vs hvs => ?_
 obtain ⟨hlen1, hlen2⟩ := Ym2 hvs
 clear hvs vs F w
 refine Zaa Tryz.func251 rfl Tryz.ntmps251 rfl (fun X => ?_)
 by_cases hn : l1 = []
 ·subst hn
  by_cases hn2 : l2 = []
  ·subst hn2
   repeat' (first
  | refine Zae ?_
  | (refine Zao rfl ?_; first | refine Zad rfl rfl ?_ | refine Zal rfl rfl ?_ | refine Zdq rfl rfl (by kernel_rfl) rfl (by first | exact Zhq) ?_ | refine Zg5 rfl rfl ?_ | refine Zd7 rfl Zcw ?_)
  | refine Zac ?_
  | refine Zab ?_
  | refine Zau ?_
  | fail)
   refine Zaq (ι := Unit) (fun _ => [(7, .dat dvE), (8, .dat dvE)]) (fun _ => []) (fun _ => 0) () id ?_ (fun _ => ?_)
   ·(refine ⟨?_, ?_, by rfl⟩ <;> repeat' (first | exact trivial | exact ALe.ptr rfl | exact ALe.own rfl | exact ALe.elt rfl | exact BLe.boxD _ _ | exact BLe.row rfl | exact BLe.res | exact BLe.dead rfl | exact ALe.dat (PLe.refl _) | exact CLe.nil | refine And.intro ?_ ?_ | refine ALe.iface ?_ | refine ALe.clo ?_ | refine CLe.cons ?_ ?_ | refine BLe.box ?_ | refine BLe.row ?_ | exact ALe.any _ | refine ALe.dat (PLe.of_eq ?_)))
   repeat' (first
  | refine Zae ?_
  | (refine Zao rfl ?_; first | refine Zad rfl rfl ?_ | refine Zal rfl rfl ?_ | refine Zfz rfl rfl (by first | rfl | assumption) rfl ?_ | refine Zdc rfl rfl ?_ | refine Zdq rfl rfl (by kernel_rfl) rfl (by first | exact Zfg) ?_)
  | refine Zac ?_
  | refine Zab ?_
  | refine Zam rfl (by first | rfl | assumption) ?_
  | (refine Zc3 rfl rfl (by first | rfl | assumption) ?_; first | refine Zal rfl rfl ?_ | refine Zdc rfl rfl ?_)
  | refine Zau ?_
  | refine Zag (Zaj rfl rfl ?_)
  | fail)
   all_goals exact PLe.refl _
  ·have e : Zgh f [] l2 = -1 := by
    cases l2 with
    | nil => exact absurd rfl hn2
    | cons y q => rfl
   have hq2 : decide (((0 : Nat) : Int) < (l2.length : Int)) = true := by
    cases l2 with
    | nil => exact absurd rfl hn2
    | cons y q => first | (simp; done) | (simp; omega)
   have hq2n : (!decide (((0 : Nat) : Int) < (l2.length : Int))) = false := by rw [hq2]; rfl
   rw [e]
   repeat' (first
  | refine Zae ?_
  | (refine Zao rfl ?_; first | refine Zad rfl rfl ?_ | refine Zal rfl rfl ?_ | refine Za2 (thk [] 200) rfl rfl (by kernel_rfl) (Zfj _ hn2) rfl trivial rfl (Zai rfl) rfl ?_ | refine Zdq rfl rfl (by kernel_rfl) rfl (by first | exact Zhq) ?_ | refine Zg5 rfl rfl ?_ | refine Zc8 rfl rfl ?_ | refine Zdw rfl rfl ?_ | refine Zd7 rfl Zcw ?_)
  | refine Zac ?_
  | refine Zab ?_
  | refine Zau ?_
  | fail)
   refine Zaq (ι := Unit) (fun _ => [(7, .dat dvE), (8, .iface 421 (.ptr 350 0))])
    (fun _ => [(350, .box 427 [.dat (Zj4 l2), .ptr 351 0, .dat (.val (.int .i64 (((0 : Nat) : Int) - 1)))]), (351, .box 315 [.any])]) (fun _ => 0) () (thk [(350, 200), (351, 201)] 0) ?_ (fun _ => ?_)
   ·(refine ⟨?_, ?_, by rfl⟩ <;> repeat' (first | exact trivial | exact ALe.ptr rfl | exact ALe.own rfl | exact ALe.elt rfl | exact BLe.boxD _ _ | exact BLe.row rfl | exact BLe.res | exact BLe.dead rfl | exact ALe.dat (PLe.refl _) | exact CLe.nil | refine And.intro ?_ ?_ | refine ALe.iface ?_ | refine ALe.clo ?_ | refine CLe.cons ?_ ?_ | refine BLe.box ?_ | refine BLe.row ?_ | exact ALe.any _ | refine ALe.dat (PLe.of_eq ?_)))
   repeat' (first
  | refine Zae ?_
  | (refine Zao rfl ?_; first | refine Zad rfl rfl ?_ | refine Zal rfl rfl ?_ | refine Zfz rfl rfl (by first | rfl | assumption) rfl ?_ | refine Zdc rfl rfl ?_ | refine Za2 (thk [(1000, _), (1001, _)] 200) rfl rfl (by kernel_rfl) (Zfu l2 0 (by omega)) rfl ⟨rfl, ⟨rfl, trivial⟩⟩ rfl (Zai rfl) rfl ?_ | refine Zdq rfl rfl (by kernel_rfl) rfl (by first | exact Zfg) ?_ | refine Zdw rfl rfl ?_)
  | refine Zac ?_
  | refine Zab ?_
  | refine Zam rfl (by first | rfl | assumption) ?_
  | refine Zak rfl (by first | rfl | assumption) ?_
  | (refine Zc3 rfl rfl (by first | rfl | assumption) ?_; first | refine Zal rfl rfl ?_ | refine Zdc rfl rfl ?_)
  | refine Zau ?_
  | refine Zas ?_
  | refine Zag (Zaj rfl rfl ?_)
  | fail)
   all_goals exact PLe.refl _
 ·by_cases hn2 : l2 = []
  ·subst hn2
   have e : Zgh f l1 [] = 1 := by
    cases l1 with
    | nil => exact absurd rfl hn
    | cons y q => rfl
   have hq1 : decide (((0 : Nat) : Int) < (l1.length : Int)) = true := by
    cases l1 with
    | nil => exact absurd rfl hn
    | cons y q => first | (simp; done) | (simp; omega)
   have hq1n : (!decide (((0 : Nat) : Int) < (l1.length : Int))) = false := by rw [hq1]; rfl
   rw [e]
   repeat' (first
  | refine Zae ?_
  | (refine Zao rfl ?_; first | refine Zad rfl rfl ?_ | refine Zal rfl rfl ?_ | refine Za2 (thk [] 200) rfl rfl (by kernel_rfl) (Zfj _ hn) rfl trivial rfl (Zai rfl) rfl ?_ | refine Zdq rfl rfl (by kernel_rfl) rfl (by first | exact Zhq) ?_ | refine Zg5 rfl rfl ?_ | refine Zc8 rfl rfl ?_ | refine Zdw rfl rfl ?_ | refine Zd7 rfl Zcw ?_)
  | refine Zac ?_
  | refine Zab ?_
  | refine Zau ?_
  | fail)
   refine Zaq (ι := Unit) (fun _ => [(7, .iface 421 (.ptr 200 0)), (8, .dat dvE)])
    (fun _ => [(200, .box 427 [.dat (Zj4 l1), .ptr 201 0, .dat (.val (.int .i64 (((0 : Nat) : Int) - 1)))]), (201, .box 315 [.any])]) (fun _ => 0) () id ?_ (fun _ => ?_)
   ·(refine ⟨?_, ?_, by rfl⟩ <;> repeat' (first | exact trivial | exact ALe.ptr rfl | exact ALe.own rfl | exact ALe.elt rfl | exact BLe.boxD _ _ | exact BLe.row rfl | exact BLe.res | exact BLe.dead rfl | exact ALe.dat (PLe.refl _) | exact CLe.nil | refine And.intro ?_ ?_ | refine ALe.iface ?_ | refine ALe.clo ?_ | refine CLe.cons ?_ ?_ | refine BLe.box ?_ | refine BLe.row ?_ | exact ALe.any _ | refine ALe.dat (PLe.of_eq ?_)))
   repeat' (first
  | refine Zae ?_
  | (refine Zao rfl ?_; first | refine Zad rfl rfl ?_ | refine Zal rfl rfl ?_ | refine Zen rfl rfl (by first | rfl | assumption) rfl ?_ | refine Zdc rfl rfl ?_ | refine Za2 (thk [(1000, _), (1001, _)] 200) rfl rfl (by kernel_rfl) (Zfu l1 0 (by omega)) rfl ⟨rfl, ⟨rfl, trivial⟩⟩ rfl (Zai rfl) rfl ?_ | refine Zdq rfl rfl (by kernel_rfl) rfl (by first | exact Zfg) ?_ | refine Zdw rfl rfl ?_)
  | refine Zac ?_
  | refine Zab ?_
  | refine Zam rfl (by first | rfl | assumption) ?_
  | refine Zak rfl (by first | rfl | assumption) ?_
  | refine Ze3 rfl rfl (by first | rfl | assumption) rfl ?_
  | refine Zau ?_
  | refine Zas ?_
  | refine Zag (Zaj rfl rfl ?_)
  | fail)
   all_goals exact PLe.refl _
  ·repeat' (first
  | refine Zae ?_
  | (refine Zao rfl ?_; first | refine Zad rfl rfl ?_ | refine Zal rfl rfl ?_ | refine Za2 (thk [] 200) rfl rfl (by kernel_rfl) (Zfj _ hn) rfl trivial rfl (Zai rfl) rfl ?_ | refine Za2 (thk [] 350) rfl rfl (by kernel_rfl) (Zfj _ hn2) rfl trivial rfl (Zai rfl) rfl ?_ | refine Zg5 rfl rfl ?_ | refine Zc8 rfl rfl ?_ | refine Zdw rfl rfl ?_ | refine Zd7 rfl Zcw ?_)
  | refine Zac ?_
  | refine Zab ?_
  | refine Zau ?_
  | fail)
   refine Zaq (ι := { k : Nat // (k ≤ l1.length ∧ k ≤ l2.length) ∧ ∀ i x y, i < k → l1[i]? = some x → l2[i]? = some y → f x y = 0 })
    (fun k => [(0, .dat dvA), (7, .iface 421 (.ptr 200 0)), (8, .iface 421 (.ptr 350 0))])
    (fun k => [(200, .box 427 [.dat (Zj4 l1), .ptr 201 0, .dat (.val (.int .i64 ((k.1 : Nat) - 1 : Int)))]), (201, .box 315 [.any]),
     (350, .box 427 [.dat (Zj4 l2), .ptr 351 0, .dat (.val (.int .i64 ((k.1 : Nat) - 1 : Int)))]), (351, .box 315 [.any])])
    (fun k => l1.length - k.1) ⟨0, ⟨Nat.zero_le _, Nat.zero_le _⟩, fun i _ _ h => absurd h (Nat.not_lt_zero i)⟩ id ?_ ?_
   ·(refine ⟨?_, ?_, by rfl⟩ <;> repeat' (first | exact trivial | exact ALe.ptr rfl | exact ALe.own rfl | exact ALe.elt rfl | exact BLe.boxD _ _ | exact BLe.row rfl | exact BLe.res | exact BLe.dead rfl | exact ALe.dat (PLe.refl _) | exact CLe.nil | refine And.intro ?_ ?_ | refine ALe.iface ?_ | refine ALe.clo ?_ | refine CLe.cons ?_ ?_ | refine BLe.box ?_ | refine BLe.row ?_ | exact ALe.any _ | refine ALe.dat (PLe.of_eq ?_)))
   rintro ⟨k, ⟨hk, hk2⟩, hall⟩
   have hend : k = l1.length ∨ k = l2.length → Zgh f l1 l2 = if l1.length < l2.length then -1 else if l2.length < l1.length then 1 else 0 := fun h => Ztu (fun j u v hu hv => hall j u v (by
    have := (List.getElem?_eq_some_iff.1 hu).1
    have := (List.getElem?_eq_some_iff.1 hv).1
    omega) hu hv)
   by_cases hlt : k < l1.length
   ·have hq1 : decide ((k : Int) < (l1.length : Int)) = true := by simpa using hlt
    have hq1n : (!decide ((k : Int) < (l1.length : Int))) = false := by rw [hq1]; rfl
    by_cases hlt2 : k < l2.length
    ·have hq2 : decide ((k : Int) < (l2.length : Int)) = true := by simpa using hlt2
     have hq2n : (!decide ((k : Int) < (l2.length : Int))) = false := by rw [hq2]; rfl
     obtain ⟨x, hx⟩ : ∃ x, l1[k]? = some x := ⟨_, List.getElem?_eq_getElem hlt⟩
     obtain ⟨y, hy⟩ : ∃ y, l2[k]? = some y := ⟨_, List.getElem?_eq_getElem hlt2⟩
     have hC := hE x (List.mem_of_getElem? hx) y (List.mem_of_getElem? hy)
     by_cases hr : f x y = 0
     ·have hq3 : decide (f x y ≠ 0) = false := by simpa using hr
      repeat' (first
  | refine Zae ?_
  | (refine Zao rfl ?_; first | refine Zad rfl rfl ?_ | refine Zal rfl rfl ?_ | refine Zax rfl rfl rfl rfl ?_ | refine Zen rfl rfl (by first | rfl | assumption) rfl ?_ | refine Zdc rfl rfl ?_ | refine Za2 (thk [(1000, _), (1001, _)] 200) rfl rfl (by kernel_rfl) (Zfu l1 k (by omega)) rfl ⟨rfl, ⟨rfl, trivial⟩⟩ rfl (Zai rfl) rfl ?_ | refine Za2 (thk [(1000, _), (1001, _)] 200) rfl rfl (by kernel_rfl) (Zfu l2 k (by omega)) rfl ⟨rfl, ⟨rfl, trivial⟩⟩ rfl (Zai rfl) rfl ?_ | refine Za2 (thk [(1000, _), (1001, _)] 200) rfl rfl (by kernel_rfl) (Zmd l1 k x hx) rfl ⟨rfl, ⟨rfl, trivial⟩⟩ rfl (Zai rfl) rfl ?_ | refine Za2 (thk [(1000, _), (1001, _)] 200) rfl rfl (by kernel_rfl) (Zmd l2 k y hy) rfl ⟨rfl, ⟨rfl, trivial⟩⟩ rfl (Zai rfl) rfl ?_ | refine Zc8 rfl rfl ?_ | refine Zdw rfl rfl ?_ | refine Zoq rfl rfl ?_ | refine Zhm rfl rfl rfl ?_ | refine Zhl rfl rfl rfl ?_ | refine Zhb gV rfl (by kernel_rfl) rfl (by first | exact hC) Flat.val ?_)
  | refine Zac ?_
  | refine Zab ?_
  | refine Zak rfl (by first | rfl | assumption) ?_
  | refine Ze3 rfl rfl (by first | rfl | assumption) rfl ?_
  | refine Zau ?_
  | refine Zbx ?_
  | refine Zas ?_
  | fail)
      refine Zan ?_
      refine ⟨⟨k + 1, ⟨by omega, by omega⟩, ?_⟩, id, by simp only; omega, ?_⟩
      ·intro i x' y' hi hx' hy'
       by_cases e : i = k
       ·subst e
        rw [hx] at hx'; rw [hy] at hy'
        cases hx'; cases hy'
        exact hr
       ·exact hall i x' y' (by omega) hx' hy'
      (refine ⟨?_, ?_, by rfl⟩ <;> repeat' (first | exact trivial | exact ALe.ptr rfl | exact ALe.own rfl | exact ALe.elt rfl | exact BLe.boxD _ _ | exact BLe.row rfl | exact BLe.res | exact BLe.dead rfl | exact ALe.dat (PLe.refl _) | exact CLe.nil | refine And.intro ?_ ?_ | refine ALe.iface ?_ | refine ALe.clo ?_ | refine CLe.cons ?_ ?_ | refine BLe.box ?_ | refine BLe.row ?_ | exact ALe.any _ | refine ALe.dat (PLe.of_eq ?_)))
      all_goals (rw [show (((k + 1 : Nat) : Int) - 1) = k by omega])
     ·have hq3 : decide (f x y ≠ 0) = true := by simpa using hr
      rw [Zyh (fun j u v hj hu hv => hall j u v hj hu hv) hx hy hr]
      repeat' (first
  | refine Zae ?_
  | (refine Zao rfl ?_; first | refine Zad rfl rfl ?_ | refine Zal rfl rfl ?_ | refine Zax rfl rfl rfl rfl ?_ | refine Zen rfl rfl (by first | rfl | assumption) rfl ?_ | refine Zdc rfl rfl ?_ | refine Za2 (thk [(1000, _), (1001, _)] 200) rfl rfl (by kernel_rfl) (Zfu l1 k (by omega)) rfl ⟨rfl, ⟨rfl, trivial⟩⟩ rfl (Zai rfl) rfl ?_ | refine Za2 (thk [(1000, _), (1001, _)] 200) rfl rfl (by kernel_rfl) (Zfu l2 k (by omega)) rfl ⟨rfl, ⟨rfl, trivial⟩⟩ rfl (Zai rfl) rfl ?_ | refine Za2 (thk [(1000, _), (1001, _)] 200) rfl rfl (by kernel_rfl) (Zmd l1 k x hx) rfl ⟨rfl, ⟨rfl, trivial⟩⟩ rfl (Zai rfl) rfl ?_ | refine Za2 (thk [(1000, _), (1001, _)] 200) rfl rfl (by kernel_rfl) (Zmd l2 k y hy) rfl ⟨rfl, ⟨rfl, trivial⟩⟩ rfl (Zai rfl) rfl ?_ | refine Zc8 rfl rfl ?_ | refine Zdw rfl rfl ?_ | refine Zoq rfl rfl ?_ | refine Zhm rfl rfl rfl ?_ | refine Zhl rfl rfl rfl ?_ | refine Zhb gV rfl (by kernel_rfl) rfl (by first | exact hC) Flat.val ?_)
  | refine Zac ?_
  | refine Zab ?_
  | refine Zam rfl (by first | rfl | assumption) ?_
  | refine Zak rfl (by first | rfl | assumption) ?_
  | refine Ze3 rfl rfl (by first | rfl | assumption) rfl ?_
  | refine Zau ?_
  | refine Zas ?_
  | refine Zag (Zaj rfl rfl ?_)
  | fail)
      all_goals exact PLe.refl _
    ·have hq2 : decide ((k : Int) < (l2.length : Int)) = false := by simpa using hlt2
     have hq2n : (!decide ((k : Int) < (l2.length : Int))) = true := by rw [hq2]; rfl
     rw [hend (.inr (by omega)), if_neg (by omega), if_pos (by omega)]
     repeat' (first
  | refine Zae ?_
  | (refine Zao rfl ?_; first | refine Zad rfl rfl ?_ | refine Zal rfl rfl ?_ | refine Zen rfl rfl (by first | rfl | assumption) rfl ?_ | refine Zdc rfl rfl ?_ | refine Za2 (thk [(1000, _), (1001, _)] 200) rfl rfl (by kernel_rfl) (Zfu l1 k (by omega)) rfl ⟨rfl, ⟨rfl, trivial⟩⟩ rfl (Zai rfl) rfl ?_ | refine Za2 (thk [(1000, _), (1001, _)] 200) rfl rfl (by kernel_rfl) (Zfu l2 k (by omega)) rfl ⟨rfl, ⟨rfl, trivial⟩⟩ rfl (Zai rfl) rfl ?_ | refine Zdw rfl rfl ?_)
  | refine Zac ?_
  | refine Zab ?_
  | refine Zam rfl (by first | rfl | assumption) ?_
  | refine Zak rfl (by first | rfl | assumption) ?_
  | refine Ze3 rfl rfl (by first | rfl | assumption) rfl ?_
  | refine Zau ?_
  | refine Zas ?_
  | refine Zag (Zaj rfl rfl ?_)
  | fail)
     all_goals exact PLe.refl _
   ·have hq1 : decide ((k : Int) < (l1.length : Int)) = false := by simpa using hlt
    have hq1n : (!decide ((k : Int) < (l1.length : Int))) = true := by rw [hq1]; rfl
    by_cases hlt2 : k < l2.length
    ·have hq2 : decide ((k : Int) < (l2.length : Int)) = true := by simpa using hlt2
     have hq2n : (!decide ((k : Int) < (l2.length : Int))) = false := by rw [hq2]; rfl
     rw [hend (.inl (by omega)), if_pos (by omega)]
     repeat' (first
  | refine Zae ?_
  | (refine Zao rfl ?_; first | refine Zad rfl rfl ?_ | refine Zal rfl rfl ?_ | refine Zfz rfl rfl (by first | rfl | assumption) rfl ?_ | refine Zdc rfl rfl ?_ | refine Za2 (thk [(1000, _), (1001, _)] 200) rfl rfl (by kernel_rfl) (Zfu l1 k (by omega)) rfl ⟨rfl, ⟨rfl, trivial⟩⟩ rfl (Zai rfl) rfl ?_ | refine Za2 (thk [(1000, _), (1001, _)] 200) rfl rfl (by kernel_rfl) (Zfu l2 k (by omega)) rfl ⟨rfl, ⟨rfl, trivial⟩⟩ rfl (Zai rfl) rfl ?_ | refine Zdw rfl rfl ?_)
  | refine Zac ?_
  | refine Zab ?_
  | refine Zam rfl (by first | rfl | assumption) ?_
  | refine Zak rfl (by first | rfl | assumption) ?_
  | (refine Zc3 rfl rfl (by first | rfl | assumption) ?_; first | refine Zal rfl rfl ?_ | refine Zdc rfl rfl ?_)
  | refine Zau ?_
  | refine Zas ?_
  | refine Zag (Zaj rfl rfl ?_)
  | fail)
     all_goals exact PLe.refl _
    ·have hq2 : decide ((k : Int) < (l2.length : Int)) = false := by simpa using hlt2
     have hq2n : (!decide ((k : Int) < (l2.length : Int))) = true := by rw [hq2]; rfl
     rw [hend (.inl (by omega)), if_neg (by omega), if_neg (by omega)]
     repeat' (first
  | refine Zae ?_
  | (refine Zao rfl ?_; first | refine Zad rfl rfl ?_ | refine Zal rfl rfl ?_ | refine Zfz rfl rfl (by first | rfl | assumption) rfl ?_ | refine Zdc rfl rfl ?_ | refine Za2 (thk [(1000, _), (1001, _)] 200) rfl rfl (by kernel_rfl) (Zfu l1 k (by omega)) rfl ⟨rfl, ⟨rfl, trivial⟩⟩ rfl (Zai rfl) rfl ?_ | refine Za2 (thk [(1000, _), (1001, _)] 200) rfl rfl (by kernel_rfl) (Zfu l2 k (by omega)) rfl ⟨rfl, ⟨rfl, trivial⟩⟩ rfl (Zai rfl) rfl ?_ | refine Zdw rfl rfl ?_)
  | refine Zac ?_
  | refine Zab ?_
  | refine Zam rfl (by first | rfl | assumption) ?_
  | (refine Zc3 rfl rfl (by first | rfl | assumption) ?_; first | refine Zal rfl rfl ?_ | refine Zdc rfl rfl ?_)
  | refine Zau ?_
  | refine Zag (Zaj rfl rfl ?_)
  | fail)
     all_goals exact PLe.refl _
def Yln (k : ByteArray) : List ByteArray → List ByteArray
 | [] => [k]
 | x :: r => if blt k x = true then k :: x :: r else if blt x k = true then x :: Yln k r else x :: r
theorem mem_insK {k z : ByteArray} : ∀ {l : List ByteArray}, z ∈ Yln k l ↔ z = k ∨ z ∈ l
 | [] => by simp [Yln]
 | x :: r => by
  unfold Yln
  split
  ·simp
  ·rename_i h1
   split
   ·simp only [List.mem_cons, mem_insK (l := r)]
    constructor
    ·rintro (h | h | h) <;> simp [h]
    ·rintro (h | h | h) <;> simp [h]
   ·rename_i h2
    have : k = x := Zgf (by simpa using h1) (by simpa using h2)
    subst this
    simp
theorem Zuq {k : ByteArray} : ∀ {l : List ByteArray}, Zf2 l → Zf2 (Yln k l)
 | [], _ => by simp [Yln, Zf2]
 | x :: r, h => by
  unfold Zf2 at h
  rw [List.pairwise_cons] at h
  unfold Yln
  split
  ·rename_i h1
   exact List.pairwise_cons.2 ⟨fun b hb => by
    rcases List.mem_cons.1 hb with rfl | hb
    ·exact h1
    ·exact Zb9 h1 (h.1 b hb), List.pairwise_cons.2 h⟩
  ·split
   ·rename_i h2
    refine List.pairwise_cons.2 ⟨fun b hb => ?_, Zuq h.2⟩
    rcases mem_insK.1 hb with rfl | hb
    ·exact h2
    ·exact h.1 b hb
   ·exact List.pairwise_cons.2 h
def Zlh (p q : List (ByteArray × JV)) : List ByteArray := (p.map (·.1) ++ q.map (·.1)).foldr Yln []
theorem Zpq (p q : List (ByteArray × JV)) : Zf2 (Zlh p q) := by
 unfold Zlh
 induction p.map (·.1) ++ q.map (·.1) with
 | nil => simp [Zf2]
 | cons x r ih => exact Zuq ih
theorem Zrd (p q : List (ByteArray × JV)) (k : ByteArray) : k ∈ Zlh p q ↔ k ∈ p.map (·.1) ∨ k ∈ q.map (·.1) := by
 unfold Zlh
 rw [← List.mem_append]
 induction p.map (·.1) ++ q.map (·.1) with
 | nil => simp
 | cons x r ih => rw [List.foldr_cons, mem_insK, ih, List.mem_cons]
def Yda (f : JV → JV → Int) (p q : List (ByteArray × JV)) : Int := if p.length = 0 ∧ q.length = 0 then 0 else Zjp f p q 0 (Zlh p q)
def Zk8 : JV → Nat
 | .int _ => 0 | .flt _ => 0 | .str _ => 1 | .bool _ => 2 | .list _ => 3 | .map _ => 4 | .null => 5
def Ykt (a : List (ByteArray × JV)) (n : Nat) (T : List (ByteArray × (JV → Int))) (i : Nat) (k : ByteArray) : Int :=
 if i = a.length then -1 else if i = n then 1 else match lkJ a k, Zcz T k with
  | none, _ => 1
  | some _, none => -1
  | some x, some g => g x
def Zyg (a : List (ByteArray × JV)) (n : Nat) (T : List (ByteArray × (JV → Int))) : Nat → List ByteArray → Int
 | _, [] => 0
 | i, k :: r => if Ykt a n T i k = 0 then Zyg a n T (i + 1) r else Ykt a n T i k
mutual
/-- How two trees compare: as value.Compare has it. -/
def Zdg : JV → JV → Int
 | .flt a, .flt b => Ymi a b
 | .flt a, .int n => Ymi a (floatOfInt .f64 n)
 | .int n, .flt b => Ymi (floatOfInt .f64 n) b
 | .int a, .int b => Zbw a b
 | .str a, .str b => Zdb a b
 | .bool a, .bool b => Yqf a b
 | .list a, .list b => Zwm a b
 | .map a, .map b => if a.length = 0 ∧ b.length = 0 then 0 else Zyg a b.length (Ymn b) 0 (Zlh a b)
 | .null, .null => 0
 | j, k => if Zk8 j < Zk8 k then -1 else 1
termination_by _ k => SizeOf.sizeOf k
def Zwm : List JV → List JV → Int
 | [], [] => 0
 | [], _ :: _ => -1
 | _ :: _, [] => 1
 | x :: r, y :: q => if Zdg x y = 0 then Zwm r q else Zdg x y
termination_by _ k => SizeOf.sizeOf k
def Ymn : List (ByteArray × JV) → List (ByteArray × (JV → Int))
 | [] => []
 | y :: q => (y.1, fun x => Zdg x y.2) :: Ymn q
termination_by k => SizeOf.sizeOf k
decreasing_by
 all_goals simp_wf
 ·obtain ⟨y1, y2⟩ := y; simp; omega
 ·omega
end
theorem Zyf : ∀ a b : List JV, Zwm a b = Zgh Zdg a b
 | [], [] => by simp only [Zwm, Zgh]
 | [], _ :: _ => by simp only [Zwm, Zgh]
 | _ :: _, [] => by simp only [Zwm, Zgh]
 | x :: r, y :: q => by simp only [Zwm, Zgh]; rw [Zyf r q]
theorem Zyk : ∀ (b : List (ByteArray × JV)) (k : ByteArray), Zcz (Ymn b) k = (lkJ b k).map fun y x => Zdg x y
 | [], k => by simp [Ymn, Zcz, lkJ]
 | y :: q, k => by
  unfold Ymn
  simp only [Zcz, lkJ]
  by_cases e : y.1 = k
  ·rw [if_pos e, if_pos e]; rfl
  ·rw [if_neg e, if_neg e, Zyk q k]
theorem Yku (a b : List (ByteArray × JV)) (i : Nat) (k : ByteArray) : Ykt a b.length (Ymn b) i k = Zfk Zdg a b i k := by
 unfold Ykt Zfk
 rw [Zyk]
 split
 ·rfl
 ·split
  ·rfl
  ·cases lkJ a k <;> cases lkJ b k <;> rfl
theorem Ztt (a b : List (ByteArray × JV)) : ∀ (K : List ByteArray) (i : Nat), Zyg a b.length (Ymn b) i K = Zjp Zdg a b i K
 | [], i => rfl
 | k :: r, i => by simp only [Zyg, Zjp]; rw [Yku, Ztt a b r]
theorem Zye (a b : List (ByteArray × JV)) : Zdg (.map a) (.map b) = Yda Zdg a b := by
 unfold Zdg Yda
 rw [Ztt]
theorem Zts (a b : List JV) : Zdg (.list a) (.list b) = Zgh Zdg a b := by
 unfold Zdg
 exact Zyf a b
section
variable {f : JV → JV → Int} {p q : List (ByteArray × JV)} {C : Int}
theorem Ys8 (h : Zbv Tryz.prog 338 [.dat dvA, .dat (dvM p), .dat (dvM q), Yci] (cTb p q (.dat (.val (.int .i64 0))) (.dat (.val (.int .i64 0)))) (.dat (.val (.bool (decide (C = 0))))) (cTb p q .any (.dat (.val (.int .i64 C))))) :
  Zbv Tryz.prog 336 [.dat dvA, .dat (dvM p), .dat (dvM q), .dat (.val (.int .i64 1)), Yci] (cTb p q (.dat (.val (.int .i64 0))) (.dat (.val (.int .i64 0)))) (.dat (.val (.bool (decide (C = 0))))) (cTb p q .any (.dat (.val (.int .i64 C)))) := by
 refine Zar Tryz.func336 rfl Tryz.ntmps336 rfl (fun X => ?_)
 have g1 : decide ((1 : Int) = 0) = false := rfl
 have g2 : decide ((1 : Int) = 1) = true := rfl
 unfold cTb at h
 repeat' (first
  | refine Zae ?_
  | (refine Zao rfl ?_; first | refine Zad rfl rfl ?_ | refine Zal rfl rfl ?_ | refine Zax rfl rfl rfl rfl ?_ | refine Zb5 (thk [(1000, _), (1001, _), (1002, _), (1003, _), (1004, _)] 200) rfl (by kernel_rfl) (h) rfl ⟨rfl, ⟨rfl, ⟨rfl, ⟨rfl, ⟨rfl, trivial⟩⟩⟩⟩⟩ rfl (Zai rfl) rfl ?_ | refine Zh0 rfl rfl ?_)
  | refine Zac ?_
  | refine Zab ?_
  | refine Zam rfl (by first | rfl | assumption) ?_
  | refine Zak rfl (by first | rfl | assumption) ?_
  | refine Zau ?_
  | fail)
 refine Za3 () id (tm := [(10, .dat (.val (.bool (decide (C = 0)))))]) ?_ (Zbc rfl rfl)
 (refine ⟨?_, ?_, by rfl⟩ <;> repeat' (first | exact trivial | exact ALe.ptr rfl | exact ALe.own rfl | exact ALe.elt rfl | exact BLe.boxD _ _ | exact BLe.row rfl | exact BLe.res | exact BLe.dead rfl | exact ALe.dat (PLe.refl _) | exact CLe.nil | refine And.intro ?_ ?_ | refine ALe.iface ?_ | refine ALe.clo ?_ | refine CLe.cons ?_ ?_ | refine BLe.box ?_ | refine BLe.row ?_ | exact ALe.any _ | refine ALe.dat (PLe.of_eq ?_)))
theorem Ysq (h : Zbv Tryz.prog 336 [.dat dvA, .dat (dvM p), .dat (dvM q), .dat (.val (.int .i64 1)), Yci] (cTb p q (.dat (.val (.int .i64 0))) (.dat (.val (.int .i64 0)))) (.dat (.val (.bool (decide (C = 0))))) (cTb p q .any (.dat (.val (.int .i64 C))))) :
  Zbv Tryz.prog 334 [.dat (Zio p), .dat dvA, .dat (dvM q), .dat (.val (.int .i64 1)), Yci] (cTb p q (.dat (.val (.int .i64 0))) (.dat (.val (.int .i64 0)))) (.dat (.val (.bool (decide (C = 0))))) (cTb p q .any (.dat (.val (.int .i64 C)))) := by
 refine Zar Tryz.func334 rfl Tryz.ntmps334 rfl (fun X => ?_)
 unfold cTb at h
 repeat' (first
  | refine Zae ?_
  | (refine Zao rfl ?_; first | refine Zad rfl rfl ?_ | refine Zal rfl rfl ?_ | refine Zb5 (thk [(1000, _), (1001, _), (1002, _), (1003, _), (1004, _)] 200) rfl (by kernel_rfl) (h) rfl ⟨rfl, ⟨rfl, ⟨rfl, ⟨rfl, ⟨rfl, trivial⟩⟩⟩⟩⟩ rfl (Zai rfl) rfl ?_ | refine Zh0 rfl rfl ?_ | refine Zsh rfl rfl (by kernel_rfl) ?_)
  | refine Zac ?_
  | refine Zab ?_
  | fail)
 refine Za3 () id (tm := [(10, .dat (.val (.bool (decide (C = 0)))))]) ?_ (Zbc rfl rfl)
 (refine ⟨?_, ?_, by rfl⟩ <;> repeat' (first | exact trivial | exact ALe.ptr rfl | exact ALe.own rfl | exact ALe.elt rfl | exact BLe.boxD _ _ | exact BLe.row rfl | exact BLe.res | exact BLe.dead rfl | exact ALe.dat (PLe.refl _) | exact CLe.nil | refine And.intro ?_ ?_ | refine ALe.iface ?_ | refine ALe.clo ?_ | refine CLe.cons ?_ ?_ | refine BLe.box ?_ | refine BLe.row ?_ | exact ALe.any _ | refine ALe.dat (PLe.of_eq ?_)))
theorem Yth (h : Zbv Tryz.prog 334 [.dat (Zio p), .dat dvA, .dat (dvM q), .dat (.val (.int .i64 1)), Yci] (cTb p q (.dat (.val (.int .i64 0))) (.dat (.val (.int .i64 0)))) (.dat (.val (.bool (decide (C = 0))))) (cTb p q .any (.dat (.val (.int .i64 C))))) :
  Zbv Tryz.prog 261 [.dat dvA, .dat (dvM p), .dat (dvM q), .dat (.val (.int .i64 1)), Yci] (cTb p q (.dat (.val (.int .i64 0))) (.dat (.val (.int .i64 0)))) (.dat (.val (.bool (decide (C = 0))))) (cTb p q .any (.dat (.val (.int .i64 C)))) := by
 refine Zar Tryz.func261 rfl Tryz.ntmps261 rfl (fun X => ?_)
 unfold cTb at h
 repeat' (first
  | refine Zae ?_
  | (refine Zao rfl ?_; first | refine Zad rfl rfl ?_ | refine Zal rfl rfl ?_ | refine Ynw rfl rfl rfl ?_ | refine Za2 (thk [(1000, _), (1001, _), (1002, _), (1003, _), (1004, _)] 200) rfl rfl (by kernel_rfl) (h) rfl ⟨rfl, ⟨rfl, ⟨rfl, ⟨rfl, ⟨rfl, trivial⟩⟩⟩⟩⟩ rfl (Zai rfl) rfl ?_ | refine Zzn rfl rfl rfl rfl ?_ | refine Zcg rfl rfl rfl (by kernel_rfl) (by exact NilIs.ifc) rfl ?_)
  | refine Zac ?_
  | refine Zab ?_
  | refine Zam rfl (by first | rfl | assumption) ?_
  | fail)
 refine Za3 () id (tm := [(10, .dat (.val (.bool (decide (C = 0)))))]) ?_ (Zbc rfl rfl)
 (refine ⟨?_, ?_, by rfl⟩ <;> repeat' (first | exact trivial | exact ALe.ptr rfl | exact ALe.own rfl | exact ALe.elt rfl | exact BLe.boxD _ _ | exact BLe.row rfl | exact BLe.res | exact BLe.dead rfl | exact ALe.dat (PLe.refl _) | exact CLe.nil | refine And.intro ?_ ?_ | refine ALe.iface ?_ | refine ALe.clo ?_ | refine CLe.cons ?_ ?_ | refine BLe.box ?_ | refine BLe.row ?_ | exact ALe.any _ | refine ALe.dat (PLe.of_eq ?_)))
end
theorem Yjs (f : JV → JV → Int) (p q : List (ByteArray × JV)) (hp : (p.map (·.1)).Nodup) (hq : (q.map (·.1)).Nodup) (hl : (p.length + q.length) * 16 ≤ 140737488351232) (hE : ∀ k x y, lkJ p k = some x → lkJ q k = some y → PCall Tryz.prog 237 [dvA, dvV x, dvV y] (.val (.int .i64 (f x y)))) :
  PCall Tryz.prog 252 [dvA, dvM p, dvM q] (.val (.int .i64 (Yda f p q))) := by
 refine Zaa Tryz.func252 rfl Tryz.ntmps252 rfl (fun X => ?_)
 unfold Yda
 by_cases h0 : p.length = 0 ∧ q.length = 0
 ·rw [if_pos h0]
  have g1 : decide ((p.length : Int) = 0) = true := decide_eq_true (by omega)
  have g2 : decide ((q.length : Int) = 0) = true := decide_eq_true (by omega)
  repeat' (first
  | refine Zae ?_
  | (refine Zao rfl ?_; first | refine Zad rfl rfl ?_ | refine Zal rfl rfl ?_ | refine Za5 rfl rfl rfl (by first | rfl | (simp only [Zap]; rfl)) ?_ | refine Zax rfl rfl rfl rfl ?_ | refine Zfz rfl rfl (by first | rfl | assumption) rfl ?_ | refine Zcq rfl rfl rfl (by first | rfl | (simp only [Zap]; rfl)) ?_ | refine Zcx rfl rfl rfl rfl rfl ?_ | refine Zlx rfl rfl ?_ | refine Zdq rfl rfl (by kernel_rfl) rfl (by first | exact Zjh _) ?_ | refine Zcg rfl rfl rfl (by kernel_rfl) (by exact NilIs.ifc) rfl ?_)
  | refine Zac ?_
  | refine Zab ?_
  | refine Zam rfl (by first | rfl | assumption) ?_
  | (refine Zc3 rfl rfl (by first | rfl | assumption) ?_; first | refine Za5 rfl rfl rfl (by first | rfl | (simp only [Zap]; rfl)) ?_ | refine Zax rfl rfl rfl rfl ?_)
  | refine Zag (Zaj rfl rfl ?_)
  | fail)
  all_goals exact PLe.refl _
 ·rw [if_neg h0]
  have hpq : p ≠ [] ∨ q ≠ [] := by
   by_cases h1 : p = []
   ·exact .inr fun h2 => h0 ⟨by rw [h1]; rfl, by rw [h2]; rfl⟩
   ·exact .inl h1
  have hM := Yth (Ysq (Ys8 (Ytg f p q (Zlh p q) hpq hp hq hl (Zpq p q) (Zrd p q) hE)))
  generalize Zjp f p q 0 (Zlh p q) = C at *
  unfold cTb at hM
  by_cases h1 : p.length = 0
  ·have g1 : decide ((p.length : Int) = 0) = true := decide_eq_true (by omega)
   have g2 : decide ((q.length : Int) = 0) = false := decide_eq_false (by omega)
   repeat' (first
  | refine Zae ?_
  | (refine Zao rfl ?_; first | refine Zad rfl rfl ?_ | refine Zal rfl rfl ?_ | refine Za5 rfl rfl rfl (by first | rfl | (simp only [Zap]; rfl)) ?_ | refine Zax rfl rfl rfl rfl ?_ | refine Zfz rfl rfl (by first | rfl | assumption) rfl ?_ | refine Zcq rfl rfl rfl (by first | rfl | (simp only [Zap]; rfl)) ?_ | refine Zcx rfl rfl rfl rfl rfl ?_ | refine Zlx rfl rfl ?_ | refine Zb5 (thk [(1000, _), (1001, _), (1002, _), (1003, _), (1004, _)] 200) rfl (by kernel_rfl) (hM) rfl ⟨rfl, ⟨rfl, ⟨rfl, ⟨rfl, ⟨rfl, trivial⟩⟩⟩⟩⟩ rfl (Zai rfl) rfl ?_ | refine Zdq rfl rfl (by kernel_rfl) rfl (by first | exact Zjh _) ?_ | refine Zgd rfl ?_ | refine Zcg rfl rfl rfl (by kernel_rfl) (by exact NilIs.ifc) rfl ?_)
  | refine Zac ?_
  | refine Zab ?_
  | refine Zam rfl (by first | rfl | assumption) ?_
  | refine Zak rfl (by first | rfl | assumption) ?_
  | (refine Zc3 rfl rfl (by first | rfl | assumption) ?_; first | refine Za5 rfl rfl rfl (by first | rfl | (simp only [Zap]; rfl)) ?_ | refine Zax rfl rfl rfl rfl ?_)
  | refine Zas ?_
  | refine Zag (Zaj rfl rfl ?_)
  | fail)
   all_goals exact PLe.refl _
  ·have g1 : decide ((p.length : Int) = 0) = false := decide_eq_false (by omega)
   repeat' (first
  | refine Zae ?_
  | (refine Zao rfl ?_; first | refine Zad rfl rfl ?_ | refine Zal rfl rfl ?_ | refine Za5 rfl rfl rfl (by first | rfl | (simp only [Zap]; rfl)) ?_ | refine Zax rfl rfl rfl rfl ?_ | refine Zen rfl rfl (by first | rfl | assumption) rfl ?_ | refine Zcq rfl rfl rfl (by first | rfl | (simp only [Zap]; rfl)) ?_ | refine Zcx rfl rfl rfl rfl rfl ?_ | refine Zlx rfl rfl ?_ | refine Zb5 (thk [(1000, _), (1001, _), (1002, _), (1003, _), (1004, _)] 200) rfl (by kernel_rfl) (hM) rfl ⟨rfl, ⟨rfl, ⟨rfl, ⟨rfl, ⟨rfl, trivial⟩⟩⟩⟩⟩ rfl (Zai rfl) rfl ?_ | refine Zdq rfl rfl (by kernel_rfl) rfl (by first | exact Zjh _) ?_ | refine Zgd rfl ?_ | refine Zcg rfl rfl rfl (by kernel_rfl) (by exact NilIs.ifc) rfl ?_)
  | refine Zac ?_
  | refine Zab ?_
  | refine Zam rfl (by first | rfl | assumption) ?_
  | refine Zak rfl (by first | rfl | assumption) ?_
  | refine Ze3 rfl rfl (by first | rfl | assumption) rfl ?_
  | refine Zas ?_
  | refine Zag (Zaj rfl rfl ?_)
  | fail)
   all_goals exact PLe.refl _
theorem Ydd (k : JV) (hl : (JV.IsList .null && k.IsList) = false) (hm : (JV.IsMap .null && k.IsMap) = false) : PCall Tryz.prog 237 [dvA, dvV .null, dvV k] (.val (.int .i64 (Zdg .null k))) := by
 refine Zaa Tryz.func237 rfl Tryz.ntmps237 rfl (fun X => ?_)
 cases k
 all_goals first
  | exact absurd hl (fun h => Bool.noConfusion h)
  | exact absurd hm (fun h => Bool.noConfusion h)
  | skip
 all_goals clear hl hm
 all_goals
  repeat' (first
  | refine Zae ?_
  | (refine Zao rfl ?_; first | refine Zad rfl rfl ?_ | refine Zal rfl rfl ?_ | refine Zdc rfl rfl ?_ | refine Zeg rfl rfl rfl (by kernel_rfl) rfl (by first | exact Zbh _ | exact Zcc _ | exact Zbf _ | exact Zb3 _ | exact Zb4 _ | exact Zdn _ | exact Zd3 _ | exact Zcm _ | exact Zd2 _ | exact Zcn _ | exact Zem _ | exact Zev _ _ | exact Ze2 _ _ | exact Zdt _ _ | exact Zd8 _ _) ?_)
  | refine Zac ?_
  | refine Zab ?_
  | refine Zam rfl (by first | rfl | assumption) ?_
  | refine Zak rfl (by first | rfl | assumption) ?_
  | refine Zas ?_
  | refine Zag (Zaj rfl rfl ?_)
  | fail)
 all_goals exact PLe.of_eq (by unfold Zdg; rfl)
theorem Ydb (b : Bool) (k : JV) (hl : (JV.IsList (.bool b) && k.IsList) = false) (hm : (JV.IsMap (.bool b) && k.IsMap) = false) : PCall Tryz.prog 237 [dvA, dvV (.bool b), dvV k] (.val (.int .i64 (Zdg (.bool b) k))) := by
 refine Zaa Tryz.func237 rfl Tryz.ntmps237 rfl (fun X => ?_)
 cases k
 all_goals first
  | exact absurd hl (fun h => Bool.noConfusion h)
  | exact absurd hm (fun h => Bool.noConfusion h)
  | skip
 all_goals clear hl hm
 all_goals
  repeat' (first
  | refine Zae ?_
  | (refine Zao rfl ?_; first | refine Zad rfl rfl ?_ | refine Zal rfl rfl ?_ | refine Zgo rfl (by kernel_rfl) rfl (by first | exact Zbh _ | exact Zcc _ | exact Zbf _ | exact Zb3 _ | exact Zb4 _ | exact Zdn _ | exact Zd3 _ | exact Zcm _ | exact Zd2 _ | exact Zcn _ | exact Zem _ | exact Zev _ _ | exact Ze2 _ _ | exact Zdt _ _ | exact Zd8 _ _) ?_ | refine Zdc rfl rfl ?_ | refine Zeg rfl rfl rfl (by kernel_rfl) rfl (by first | exact Zbh _ | exact Zcc _ | exact Zbf _ | exact Zb3 _ | exact Zb4 _ | exact Zdn _ | exact Zd3 _ | exact Zcm _ | exact Zd2 _ | exact Zcn _ | exact Zem _ | exact Zev _ _ | exact Ze2 _ _ | exact Zdt _ _ | exact Zd8 _ _) ?_)
  | refine Zac ?_
  | refine Zab ?_
  | refine Zam rfl (by first | rfl | assumption) ?_
  | refine Zak rfl (by first | rfl | assumption) ?_
  | refine Zas ?_
  | refine Zag (Zaj rfl rfl ?_)
  | fail)
 all_goals exact PLe.of_eq (by unfold Zdg; rfl)
theorem Yh9 (b : Int) (k : JV) (hl : (JV.IsList (.int b) && k.IsList) = false) (hm : (JV.IsMap (.int b) && k.IsMap) = false) : PCall Tryz.prog 237 [dvA, dvV (.int b), dvV k] (.val (.int .i64 (Zdg (.int b) k))) := by
 refine Zaa Tryz.func237 rfl Tryz.ntmps237 rfl (fun X => ?_)
 cases k
 all_goals first
  | exact absurd hl (fun h => Bool.noConfusion h)
  | exact absurd hm (fun h => Bool.noConfusion h)
  | skip
 all_goals clear hl hm
 all_goals
  repeat' (first
  | refine Zae ?_
  | (refine Zao rfl ?_; first | refine Zad rfl rfl ?_ | refine Zal rfl rfl ?_ | refine Zgo rfl (by kernel_rfl) rfl (by first | exact Zbh _ | exact Zcc _ | exact Zbf _ | exact Zb3 _ | exact Zb4 _ | exact Zdn _ | exact Zd3 _ | exact Zcm _ | exact Zd2 _ | exact Zcn _ | exact Zem _ | exact Zev _ _ | exact Ze2 _ _ | exact Zdt _ _ | exact Zd8 _ _) ?_ | refine Zdc rfl rfl ?_ | refine Zeg rfl rfl rfl (by kernel_rfl) rfl (by first | exact Zbh _ | exact Zcc _ | exact Zbf _ | exact Zb3 _ | exact Zb4 _ | exact Zdn _ | exact Zd3 _ | exact Zcm _ | exact Zd2 _ | exact Zcn _ | exact Zem _ | exact Zev _ _ | exact Ze2 _ _ | exact Zdt _ _ | exact Zd8 _ _) ?_ | refine Zsg (q := .f64) rfl rfl (by kernel_rfl) (by kernel_rfl) ?_)
  | refine Zac ?_
  | refine Zab ?_
  | refine Zam rfl (by first | rfl | assumption) ?_
  | refine Zak rfl (by first | rfl | assumption) ?_
  | refine Zas ?_
  | refine Zag (Zaj rfl rfl ?_)
  | fail)
 all_goals exact PLe.of_eq (by unfold Zdg; rfl)
theorem Yh8 (b : Nat) (k : JV) (hl : (JV.IsList (.flt b) && k.IsList) = false) (hm : (JV.IsMap (.flt b) && k.IsMap) = false) : PCall Tryz.prog 237 [dvA, dvV (.flt b), dvV k] (.val (.int .i64 (Zdg (.flt b) k))) := by
 refine Zaa Tryz.func237 rfl Tryz.ntmps237 rfl (fun X => ?_)
 cases k
 all_goals first
  | exact absurd hl (fun h => Bool.noConfusion h)
  | exact absurd hm (fun h => Bool.noConfusion h)
  | skip
 all_goals clear hl hm
 all_goals
  repeat' (first
  | refine Zae ?_
  | (refine Zao rfl ?_; first | refine Zad rfl rfl ?_ | refine Zal rfl rfl ?_ | refine Zgo rfl (by kernel_rfl) rfl (by first | exact Zbh _ | exact Zcc _ | exact Zbf _ | exact Zb3 _ | exact Zb4 _ | exact Zdn _ | exact Zd3 _ | exact Zcm _ | exact Zd2 _ | exact Zcn _ | exact Zem _ | exact Zev _ _ | exact Ze2 _ _ | exact Zdt _ _ | exact Zd8 _ _) ?_ | refine Zdc rfl rfl ?_ | refine Zeg rfl rfl rfl (by kernel_rfl) rfl (by first | exact Zbh _ | exact Zcc _ | exact Zbf _ | exact Zb3 _ | exact Zb4 _ | exact Zdn _ | exact Zd3 _ | exact Zcm _ | exact Zd2 _ | exact Zcn _ | exact Zem _ | exact Zev _ _ | exact Ze2 _ _ | exact Zdt _ _ | exact Zd8 _ _) ?_ | refine Zsg (q := .f64) rfl rfl (by kernel_rfl) (by kernel_rfl) ?_)
  | refine Zac ?_
  | refine Zab ?_
  | refine Zam rfl (by first | rfl | assumption) ?_
  | refine Zak rfl (by first | rfl | assumption) ?_
  | refine Zas ?_
  | refine Zag (Zaj rfl rfl ?_)
  | fail)
 all_goals exact PLe.of_eq (by unfold Zdg; rfl)
theorem Yib (b : ByteArray) (k : JV) (hl : (JV.IsList (.str b) && k.IsList) = false) (hm : (JV.IsMap (.str b) && k.IsMap) = false) : PCall Tryz.prog 237 [dvA, dvV (.str b), dvV k] (.val (.int .i64 (Zdg (.str b) k))) := by
 refine Zaa Tryz.func237 rfl Tryz.ntmps237 rfl (fun X => ?_)
 cases k
 all_goals first
  | exact absurd hl (fun h => Bool.noConfusion h)
  | exact absurd hm (fun h => Bool.noConfusion h)
  | skip
 all_goals clear hl hm
 all_goals
  repeat' (first
  | refine Zae ?_
  | (refine Zao rfl ?_; first | refine Zad rfl rfl ?_ | refine Zal rfl rfl ?_ | refine Zgo rfl (by kernel_rfl) rfl (by first | exact Zbh _ | exact Zcc _ | exact Zbf _ | exact Zb3 _ | exact Zb4 _ | exact Zdn _ | exact Zd3 _ | exact Zcm _ | exact Zd2 _ | exact Zcn _ | exact Zem _ | exact Zev _ _ | exact Ze2 _ _ | exact Zdt _ _ | exact Zd8 _ _) ?_ | refine Zdc rfl rfl ?_ | refine Zeg rfl rfl rfl (by kernel_rfl) rfl (by first | exact Zbh _ | exact Zcc _ | exact Zbf _ | exact Zb3 _ | exact Zb4 _ | exact Zdn _ | exact Zd3 _ | exact Zcm _ | exact Zd2 _ | exact Zcn _ | exact Zem _ | exact Zev _ _ | exact Ze2 _ _ | exact Zdt _ _ | exact Zd8 _ _) ?_)
  | refine Zac ?_
  | refine Zab ?_
  | refine Zam rfl (by first | rfl | assumption) ?_
  | refine Zak rfl (by first | rfl | assumption) ?_
  | refine Zas ?_
  | refine Zag (Zaj rfl rfl ?_)
  | fail)
 all_goals exact PLe.of_eq (by unfold Zdg; rfl)
theorem Ydc (b : List JV) (k : JV) (hl : (JV.IsList (.list b) && k.IsList) = false) (hm : (JV.IsMap (.list b) && k.IsMap) = false) : PCall Tryz.prog 237 [dvA, dvV (.list b), dvV k] (.val (.int .i64 (Zdg (.list b) k))) := by
 refine Zaa Tryz.func237 rfl Tryz.ntmps237 rfl (fun X => ?_)
 cases k
 all_goals first
  | exact absurd hl (fun h => Bool.noConfusion h)
  | exact absurd hm (fun h => Bool.noConfusion h)
  | skip
 all_goals clear hl hm
 all_goals
  repeat' (first
  | refine Zae ?_
  | (refine Zao rfl ?_; first | refine Zad rfl rfl ?_ | refine Zal rfl rfl ?_ | refine Zdc rfl rfl ?_ | refine Zeg rfl rfl rfl (by kernel_rfl) rfl (by first | exact Zbh _ | exact Zcc _ | exact Zbf _ | exact Zb3 _ | exact Zb4 _ | exact Zdn _ | exact Zd3 _ | exact Zcm _ | exact Zd2 _ | exact Zcn _ | exact Zem _ | exact Zev _ _ | exact Ze2 _ _ | exact Zdt _ _ | exact Zd8 _ _) ?_)
  | refine Zac ?_
  | refine Zab ?_
  | refine Zam rfl (by first | rfl | assumption) ?_
  | refine Zak rfl (by first | rfl | assumption) ?_
  | refine Zas ?_
  | refine Zag (Zaj rfl rfl ?_)
  | fail)
 all_goals exact PLe.of_eq (by unfold Zdg; rfl)
theorem Yia (b : List (ByteArray × JV)) (k : JV) (hl : (JV.IsList (.map b) && k.IsList) = false) (hm : (JV.IsMap (.map b) && k.IsMap) = false) : PCall Tryz.prog 237 [dvA, dvV (.map b), dvV k] (.val (.int .i64 (Zdg (.map b) k))) := by
 refine Zaa Tryz.func237 rfl Tryz.ntmps237 rfl (fun X => ?_)
 cases k
 all_goals first
  | exact absurd hl (fun h => Bool.noConfusion h)
  | exact absurd hm (fun h => Bool.noConfusion h)
  | skip
 all_goals clear hl hm
 all_goals
  repeat' (first
  | refine Zae ?_
  | (refine Zao rfl ?_; first | refine Zad rfl rfl ?_ | refine Zal rfl rfl ?_ | refine Zdc rfl rfl ?_ | refine Zeg rfl rfl rfl (by kernel_rfl) rfl (by first | exact Zbh _ | exact Zcc _ | exact Zbf _ | exact Zb3 _ | exact Zb4 _ | exact Zdn _ | exact Zd3 _ | exact Zcm _ | exact Zd2 _ | exact Zcn _ | exact Zem _ | exact Zev _ _ | exact Ze2 _ _ | exact Zdt _ _ | exact Zd8 _ _) ?_)
  | refine Zac ?_
  | refine Zab ?_
  | refine Zam rfl (by first | rfl | assumption) ?_
  | refine Zak rfl (by first | rfl | assumption) ?_
  | refine Zas ?_
  | refine Zag (Zaj rfl rfl ?_)
  | fail)
 all_goals exact PLe.of_eq (by unfold Zdg; rfl)
theorem Yc9 (l q : List JV) (hE : ∀ x ∈ l, ∀ y ∈ q, PCall Tryz.prog 237 [dvA, dvV x, dvV y] (.val (.int .i64 (Zdg x y)))) : PCall Tryz.prog 237 [dvA, dvV (.list l), dvV (.list q)] (.val (.int .i64 (Zdg (.list l) (.list q)))) := by
 have hC := Yjr Zdg l q hE
 rw [Zts]
 refine Zaa Tryz.func237 rfl Tryz.ntmps237 rfl (fun X => ?_)
 repeat' (first
  | refine Zae ?_
  | (refine Zao rfl ?_; first | refine Zad rfl rfl ?_ | refine Zal rfl rfl ?_ | refine Zgo rfl (by kernel_rfl) rfl (by first | exact Zbh _ | exact Zcc _ | exact Zbf _ | exact Zb3 _ | exact Zb4 _ | exact Zka _ | exact hC) ?_ | refine Zdc rfl rfl ?_ | refine Zeg rfl rfl rfl (by kernel_rfl) rfl (by first | exact Zbh _ | exact Zcc _ | exact Zbf _ | exact Zb3 _ | exact Zb4 _ | exact Zka _ | exact hC) ?_ | refine Zg5 rfl rfl ?_ | refine Zd7 rfl Zcw ?_)
  | refine Zac ?_
  | refine Zab ?_
  | refine Zam rfl (by first | rfl | assumption) ?_
  | refine Zak rfl (by first | rfl | assumption) ?_
  | refine Zas ?_
  | refine Zag (Zaj rfl rfl ?_)
  | fail)
 all_goals exact PLe.refl _
theorem Yh7 (m q : List (ByteArray × JV)) (hE : ∀ k x y, lkJ m k = some x → lkJ q k = some y → PCall Tryz.prog 237 [dvA, dvV x, dvV y] (.val (.int .i64 (Zdg x y)))) : PCall Tryz.prog 237 [dvA, dvV (.map m), dvV (.map q)] (.val (.int .i64 (Zdg (.map m) (.map q)))) := by
 refine PCall.ex fun w F vs hvs => ?_
 have hj : JOk (.map m) ∧ JOk (.map q) := by
  unfold Reps at hvs; obtain ⟨_, _, _, _, hvs⟩ := hvs
  unfold Reps at hvs; obtain ⟨_, _, _, hv1, hvs⟩ := hvs
  unfold Reps at hvs; obtain ⟨_, _, _, hv2, _⟩ := hvs
  have key : ∀ {j : JV} {v : Value}, Rep w F (dvV j) v → JOk j := by
   intro j v h
   unfold dvV Rep at h
   obtain ⟨_, _, h⟩ := h
   unfold Rep at h
   obtain ⟨_, _, _, _, _, h, _⟩ := h
   unfold Rep at h
   obtain ⟨_, _, h, _⟩ := h
   unfold Reps at h
   obtain ⟨_, _, _, h, _⟩ := h
   unfold pdJ Rep at h
   exact h.2
  exact ⟨key hv1, key hv2⟩
 clear hvs vs F w
 unfold JOk at hj
 have hC := Yjs Zdg m q hj.1.1 hj.2.1 (by omega) hE
 rw [Zye]
 clear hj
 refine Zaa Tryz.func237 rfl Tryz.ntmps237 rfl (fun X => ?_)
 repeat' (first
  | refine Zae ?_
  | (refine Zao rfl ?_; first | refine Zad rfl rfl ?_ | refine Zal rfl rfl ?_ | refine Zgo rfl (by kernel_rfl) rfl (by first | exact Zbh _ | exact Zcc _ | exact Zbf _ | exact Zb3 _ | exact Zb4 _ | exact Zdn _ | exact Znr _ | exact hC) ?_ | refine Zdc rfl rfl ?_ | refine Zeg rfl rfl rfl (by kernel_rfl) rfl (by first | exact Zbh _ | exact Zcc _ | exact Zbf _ | exact Zb3 _ | exact Zb4 _ | exact Zdn _ | exact Znr _ | exact hC) ?_ | refine Zg5 rfl rfl ?_ | refine Zd7 rfl Zcw ?_)
  | refine Zac ?_
  | refine Zab ?_
  | refine Zam rfl (by first | rfl | assumption) ?_
  | refine Zak rfl (by first | rfl | assumption) ?_
  | refine Zas ?_
  | refine Zag (Zaj rfl rfl ?_)
  | fail)
 all_goals exact PLe.refl _
theorem Yjq : ∀ {m : List (ByteArray × JV)} {k : ByteArray} {j : JV}, lkJ m k = some j → ∃ y ∈ m, y.2 = j := fun {m k j} h => by
 rw [Zh1] at h
 exact ⟨(k, j), Zdd h, rfl⟩
theorem Zcv (j k : JV) (hl : (j.IsList && k.IsList) = false) (hm : (j.IsMap && k.IsMap) = false) : PCall Tryz.prog 237 [dvA, dvV j, dvV k] (.val (.int .i64 (Zdg j k))) := by
 cases j
 ·exact Ydd k hl hm
 ·exact Ydb _ k hl hm
 ·exact Yh9 _ k hl hm
 ·exact Yh8 _ k hl hm
 ·exact Yib _ k hl hm
 ·exact Ydc _ k hl hm
 ·exact Yia _ k hl hm
theorem Ymo : ∀ (k j : JV), PCall Tryz.prog 237 [dvA, dvV j, dvV k] (.val (.int .i64 (Zdg j k)))
 | .list q, .list l => Yc9 l q (fun x _ y hy => Ymo y x)
 | .map q, .map m => Yh7 m q (fun k x y _ hy => by
   obtain ⟨z, hz, e⟩ := Yjq hy
   rw [← e]
   exact Ymo z.2 x)
 | .list q, .null => Zcv _ _ rfl rfl
 | .list q, .bool _ => Zcv _ _ rfl rfl
 | .list q, .int _ => Zcv _ _ rfl rfl
 | .list q, .flt _ => Zcv _ _ rfl rfl
 | .list q, .str _ => Zcv _ _ rfl rfl
 | .list q, .map _ => Zcv _ _ rfl rfl
 | .map q, .null => Zcv _ _ rfl rfl
 | .map q, .bool _ => Zcv _ _ rfl rfl
 | .map q, .int _ => Zcv _ _ rfl rfl
 | .map q, .flt _ => Zcv _ _ rfl rfl
 | .map q, .str _ => Zcv _ _ rfl rfl
 | .map q, .list _ => Zcv _ _ rfl rfl
 | .null, j => Zcv _ _ (by cases j <;> rfl) (by cases j <;> rfl)
 | .bool _, j => Zcv _ _ (by cases j <;> rfl) (by cases j <;> rfl)
 | .int _, j => Zcv _ _ (by cases j <;> rfl) (by cases j <;> rfl)
 | .flt _, j => Zcv _ _ (by cases j <;> rfl) (by cases j <;> rfl)
 | .str _, j => Zcv _ _ (by cases j <;> rfl) (by cases j <;> rfl)
termination_by k => SizeOf.sizeOf k
decreasing_by
 all_goals simp_wf
 ·have := List.sizeOf_lt_of_mem hy; omega
 ·have := List.sizeOf_lt_of_mem hz
  obtain ⟨y1, y2⟩ := z
  simp at this ⊢
  omega
theorem Zt1 (j k : JV) : PCall Tryz.prog 213 [dvV j, dvV k] (.val (.int .i64 (Zdg j k))) := by
 have hC := Ymo k j
 refine Zaa Tryz.func213 rfl Tryz.ntmps213 rfl (fun X => ?_)
 repeat' (first
  | refine Zae ?_
  | (refine Zao rfl ?_; first | refine Zad rfl rfl ?_ | refine Zal rfl rfl ?_ | refine Zcq rfl rfl rfl (by first | rfl | (simp only [Zap]; rfl)) ?_ | refine Zlz rfl rfl rfl ?_ | refine Zfm rfl rfl (by kernel_rfl) ?_ | refine Zhb gV rfl (by kernel_rfl) rfl (by first | exact hC) Flat.val ?_)
  | refine Zac ?_
  | refine Zab ?_
  | refine Zag (Zaj rfl rfl ?_)
  | fail)
 all_goals exact PLe.refl _
theorem Zxa (l1 l2 : List JV) (hE : ∀ x ∈ l1, ∀ y ∈ l2, PCall Tryz.prog 255 [dvA, dvV x, dvV y] (.val (.bool (eqJ x y)))) : PCall Tryz.prog 321 [dvA, Ytt l1, dvL l2] (.val (.bool (Zm5 l1 l2))) := by
 refine PCall.ex fun w F vs hvs => ?_
 have hlen : l2.length * 16 ≤ 140737488351232 := by
  unfold Reps at hvs; obtain ⟨_, _, _, _, hvs⟩ := hvs
  unfold Reps at hvs; obtain ⟨_, _, _, _, hvs⟩ := hvs
  unfold Reps at hvs; obtain ⟨_, _, _, hv, _⟩ := hvs
  unfold dvL Rep at hv; obtain ⟨_, _, hv⟩ := hv
  exact Zr0 hv
 clear hvs vs F w
 refine Zaa Tryz.func321 rfl Tryz.ntmps321 rfl (fun X => ?_)
 by_cases hl : l1.length = l2.length
 ·have hq0 : decide (((l1.length : Nat) : Int) ≠ ((l2.length : Nat) : Int)) = false := by simp; omega
  by_cases hn : l1 = []
  ·subst hn
   have hn2 : l2 = [] := List.eq_nil_of_length_eq_zero hl.symm
   subst hn2
   repeat' (first
  | refine Zae ?_
  | (refine Zao rfl ?_; first | refine Zad rfl rfl ?_ | refine Zal rfl rfl ?_ | refine Zax rfl rfl rfl rfl ?_ | refine Zeg rfl rfl rfl (by kernel_rfl) rfl (by first | exact Zqr _ | exact Zhq | exact Zfg) ?_ | refine Zdq rfl rfl (by kernel_rfl) rfl (by first | exact Zqr _ | exact Zhq | exact Zfg) ?_ | refine Zg5 rfl rfl ?_ | refine Zd7 rfl Zcw ?_)
  | refine Zac ?_
  | refine Zab ?_
  | refine Zak rfl (by first | rfl | assumption) ?_
  | refine Zau ?_
  | refine Zas ?_
  | fail)
   refine Zaq (ι := Unit) (fun _ => [(7, .dat dvE), (8, .dat dvE)]) (fun _ => []) (fun _ => 0) () id ?_ (fun _ => ?_)
   ·(refine ⟨?_, ?_, by rfl⟩ <;> repeat' (first | exact trivial | exact ALe.ptr rfl | exact ALe.own rfl | exact ALe.elt rfl | exact BLe.boxD _ _ | exact BLe.row rfl | exact BLe.res | exact BLe.dead rfl | exact ALe.dat (PLe.refl _) | exact CLe.nil | refine And.intro ?_ ?_ | refine ALe.iface ?_ | refine ALe.clo ?_ | refine CLe.cons ?_ ?_ | refine BLe.box ?_ | refine BLe.row ?_ | exact ALe.any _ | refine ALe.dat (PLe.of_eq ?_)))
   repeat' (first
  | refine Zae ?_
  | (refine Zao rfl ?_; first | refine Zad rfl rfl ?_ | refine Zal rfl rfl ?_ | refine Zen rfl rfl (by first | rfl | assumption) rfl ?_ | refine Zdq rfl rfl (by kernel_rfl) rfl (by first | exact Zfg) ?_)
  | refine Zac ?_
  | refine Zab ?_
  | refine Zak rfl (by first | rfl | assumption) ?_
  | refine Ze3 rfl rfl (by first | rfl | assumption) rfl ?_
  | refine Ze7 rfl ?_
  | refine Zag (Zaj rfl rfl ?_)
  | fail)
   all_goals exact PLe.of_eq (by unfold Zm5; rfl)
  ·have hn2 : l2 ≠ [] := fun e => hn (List.eq_nil_of_length_eq_zero (by rw [hl, e]; rfl))
   repeat' (first
  | refine Zae ?_
  | (refine Zao rfl ?_; first | refine Zad rfl rfl ?_ | refine Zal rfl rfl ?_ | refine Zax rfl rfl rfl rfl ?_ | refine Yjf (thk [] 200) rfl rfl rfl (by kernel_rfl) (Zfj _ hn) rfl trivial rfl (Zai rfl) rfl ?_ | refine Za2 (thk [] 350) rfl rfl (by kernel_rfl) (Zfj _ hn2) rfl trivial rfl (Zai rfl) rfl ?_ | refine Zeg rfl rfl rfl (by kernel_rfl) rfl (by first | exact Zqr _) ?_ | refine Zdq rfl rfl (by kernel_rfl) rfl (by first | exact Zqr _) ?_ | refine Zg5 rfl rfl ?_ | refine Zc8 rfl rfl ?_ | refine Zdw rfl rfl ?_ | refine Zd7 rfl Zcw ?_)
  | refine Zac ?_
  | refine Zab ?_
  | refine Zak rfl (by first | rfl | assumption) ?_
  | refine Zau ?_
  | refine Zas ?_
  | fail)
   refine Zaq (ι := { k : Nat // k ≤ l1.length ∧ ∀ i x y, i < k → l1[i]? = some x → l2[i]? = some y → eqJ x y = true })
    (fun k => [(0, .dat dvA), (7, .iface 421 (.ptr 200 0)), (8, .iface 421 (.ptr 350 0))])
    (fun k => [(200, .box 427 [.dat (Zj4 l1), .ptr 201 0, .dat (.val (.int .i64 ((k.1 : Nat) - 1 : Int)))]), (201, .box 315 [.any]),
     (350, .box 427 [.dat (Zj4 l2), .ptr 351 0, .dat (.val (.int .i64 ((k.1 : Nat) - 1 : Int)))]), (351, .box 315 [.any])])
    (fun k => l1.length - k.1) ⟨0, Nat.zero_le _, fun i _ _ h => absurd h (Nat.not_lt_zero i)⟩ id ?_ ?_
   ·(refine ⟨?_, ?_, by rfl⟩ <;> repeat' (first | exact trivial | exact ALe.ptr rfl | exact ALe.own rfl | exact ALe.elt rfl | exact BLe.boxD _ _ | exact BLe.row rfl | exact BLe.res | exact BLe.dead rfl | exact ALe.dat (PLe.refl _) | exact CLe.nil | refine And.intro ?_ ?_ | refine ALe.iface ?_ | refine ALe.clo ?_ | refine CLe.cons ?_ ?_ | refine BLe.box ?_ | refine BLe.row ?_ | exact ALe.any _ | refine ALe.dat (PLe.of_eq ?_)))
   rintro ⟨k, hk, hall⟩
   by_cases hlt : k < l1.length
   ·have hq1 : decide ((k : Int) < (l1.length : Int)) = true := by simpa using hlt
    have hq2 : decide ((k : Int) < (l2.length : Int)) = true := by rw [hl] at hlt; simpa using hlt
    obtain ⟨x, hx⟩ : ∃ x, l1[k]? = some x := ⟨_, List.getElem?_eq_getElem hlt⟩
    obtain ⟨y, hy⟩ : ∃ y, l2[k]? = some y := ⟨_, List.getElem?_eq_getElem (hl ▸ hlt)⟩
    have hC := hE x (List.mem_of_getElem? hx) y (List.mem_of_getElem? hy)
    cases hr : eqJ x y with
    | true =>
     rw [hr] at hC
     repeat' (first
  | refine Zae ?_
  | (refine Zao rfl ?_; first | refine Zad rfl rfl ?_ | refine Zal rfl rfl ?_ | refine Zfz rfl rfl (by first | rfl | assumption) rfl ?_ | refine Zdc rfl rfl ?_ | refine Za2 (thk [(1000, _), (1001, _)] 200) rfl rfl (by kernel_rfl) (Zfu l1 k (by omega)) rfl ⟨rfl, ⟨rfl, trivial⟩⟩ rfl (Zai rfl) rfl ?_ | refine Za2 (thk [(1000, _), (1001, _)] 200) rfl rfl (by kernel_rfl) (Zmd l1 k x hx) rfl ⟨rfl, ⟨rfl, trivial⟩⟩ rfl (Zai rfl) rfl ?_ | refine Za2 (thk [(1000, _), (1001, _)] 200) rfl rfl (by kernel_rfl) (Zmd l2 k y hy) rfl ⟨rfl, ⟨rfl, trivial⟩⟩ rfl (Zai rfl) rfl ?_ | refine Zc8 rfl rfl ?_ | refine Zdw rfl rfl ?_ | refine Zoq rfl rfl ?_ | refine Zhm rfl rfl rfl ?_ | refine Zhl rfl rfl rfl ?_ | refine Zhb gV rfl (by kernel_rfl) rfl (by first | exact hC) Flat.val ?_)
  | refine Zac ?_
  | refine Zab ?_
  | refine Zam rfl (by first | rfl | assumption) ?_
  | refine Zak rfl (by first | rfl | assumption) ?_
  | (refine Zc3 rfl rfl (by first | rfl | assumption) ?_; first | refine Za2 (thk [(1000, _), (1001, _)] 200) rfl rfl (by kernel_rfl) (Zfu l2 k (by omega)) rfl ⟨rfl, ⟨rfl, trivial⟩⟩ rfl (Zai rfl) rfl ?_ | refine Zdw rfl rfl ?_)
  | refine Zau ?_
  | refine Zbx ?_
  | refine Zas ?_
  | fail)
     refine Zan ?_
     refine ⟨⟨k + 1, by omega, ?_⟩, id, by simp only; omega, ?_⟩
     ·intro i x' y' hi hx' hy'
      by_cases e : i = k
      ·subst e
       rw [hx] at hx'; rw [hy] at hy'
       cases hx'; cases hy'
       exact hr
      ·exact hall i x' y' (by omega) hx' hy'
     (refine ⟨?_, ?_, by rfl⟩ <;> repeat' (first | exact trivial | exact ALe.ptr rfl | exact ALe.own rfl | exact ALe.elt rfl | exact BLe.boxD _ _ | exact BLe.row rfl | exact BLe.res | exact BLe.dead rfl | exact ALe.dat (PLe.refl _) | exact CLe.nil | refine And.intro ?_ ?_ | refine ALe.iface ?_ | refine ALe.clo ?_ | refine CLe.cons ?_ ?_ | refine BLe.box ?_ | refine BLe.row ?_ | exact ALe.any _ | refine ALe.dat (PLe.of_eq ?_)))
     all_goals (rw [show (((k + 1 : Nat) : Int) - 1) = k by omega])
    | false =>
     rw [hr] at hC
     rw [Zqe hx hy hr]
     repeat' (first
  | refine Zae ?_
  | (refine Zao rfl ?_; first | refine Zad rfl rfl ?_ | refine Zal rfl rfl ?_ | refine Zfz rfl rfl (by first | rfl | assumption) rfl ?_ | refine Zdc rfl rfl ?_ | refine Za2 (thk [(1000, _), (1001, _)] 200) rfl rfl (by kernel_rfl) (Zfu l1 k (by omega)) rfl ⟨rfl, ⟨rfl, trivial⟩⟩ rfl (Zai rfl) rfl ?_ | refine Za2 (thk [(1000, _), (1001, _)] 200) rfl rfl (by kernel_rfl) (Zmd l1 k x hx) rfl ⟨rfl, ⟨rfl, trivial⟩⟩ rfl (Zai rfl) rfl ?_ | refine Za2 (thk [(1000, _), (1001, _)] 200) rfl rfl (by kernel_rfl) (Zmd l2 k y hy) rfl ⟨rfl, ⟨rfl, trivial⟩⟩ rfl (Zai rfl) rfl ?_ | refine Zc8 rfl rfl ?_ | refine Zdw rfl rfl ?_ | refine Zoq rfl rfl ?_ | refine Zhm rfl rfl rfl ?_ | refine Zhl rfl rfl rfl ?_ | refine Zhb gV rfl (by kernel_rfl) rfl (by first | exact hC) Flat.val ?_)
  | refine Zac ?_
  | refine Zab ?_
  | refine Zam rfl (by first | rfl | assumption) ?_
  | (refine Zc3 rfl rfl (by first | rfl | assumption) ?_; first | refine Za2 (thk [(1000, _), (1001, _)] 200) rfl rfl (by kernel_rfl) (Zfu l2 k (by omega)) rfl ⟨rfl, ⟨rfl, trivial⟩⟩ rfl (Zai rfl) rfl ?_ | refine Zdw rfl rfl ?_)
  | refine Zau ?_
  | refine Zas ?_
  | refine Zag (Zaj rfl rfl ?_)
  | fail)
     all_goals exact PLe.refl _
   ·have hq1 : decide ((k : Int) < (l1.length : Int)) = false := by simpa using hlt
    rw [Zt8 hl (fun i x y hx hy => hall i x y (by have := (List.getElem?_eq_some_iff.1 hx).1; omega) hx hy)]
    repeat' (first
  | refine Zae ?_
  | (refine Zao rfl ?_; first | refine Zad rfl rfl ?_ | refine Zal rfl rfl ?_ | refine Zen rfl rfl (by first | rfl | assumption) rfl ?_ | refine Za2 (thk [(1000, _), (1001, _)] 200) rfl rfl (by kernel_rfl) (Zfu l1 k (by omega)) rfl ⟨rfl, ⟨rfl, trivial⟩⟩ rfl (Zai rfl) rfl ?_ | refine Zdw rfl rfl ?_)
  | refine Zac ?_
  | refine Zab ?_
  | refine Zak rfl (by first | rfl | assumption) ?_
  | refine Ze3 rfl rfl (by first | rfl | assumption) rfl ?_
  | refine Ze7 rfl ?_
  | refine Zag (Zaj rfl rfl ?_)
  | fail)
    all_goals exact PLe.refl _
 ·have hq0 : decide (((l1.length : Nat) : Int) ≠ ((l2.length : Nat) : Int)) = true := by simp; omega
  have e : Zm5 l1 l2 = false := by
   cases h : Zm5 l1 l2 with
   | false => rfl
   | true => exact absurd (Zyy h) hl
  rw [e]
  repeat' (first
  | refine Zae ?_
  | (refine Zao rfl ?_; first | refine Zad rfl rfl ?_ | refine Zal rfl rfl ?_ | refine Zax rfl rfl rfl rfl ?_ | refine Zeg rfl rfl rfl (by kernel_rfl) rfl (by first | exact Zqr _) ?_ | refine Zdq rfl rfl (by kernel_rfl) rfl (by first | exact Zqr _) ?_)
  | refine Zac ?_
  | refine Zab ?_
  | refine Zam rfl (by first | rfl | assumption) ?_
  | refine Zag (Zaj rfl rfl ?_)
  | fail)
  all_goals exact PLe.refl _
theorem Yoc (l1 l2 : List JV) (hE : ∀ x ∈ l1, ∀ y ∈ l2, PCall Tryz.prog 255 [dvA, dvV x, dvV y] (.val (.bool (eqJ x y)))) : PCall Tryz.prog 317 [Zj4 l1, dvA, dvL l2] (.val (.bool (Zm5 l1 l2))) := by
 have hC := Zxa l1 l2 hE
 refine Zaa Tryz.func317 rfl Tryz.ntmps317 rfl (fun X => ?_)
 repeat' (first
  | refine Zae ?_
  | (refine Zao rfl ?_; first | refine Zad rfl rfl ?_ | refine Zal rfl rfl ?_ | refine Zcq rfl rfl rfl (by first | rfl | (simp only [Zap]; rfl)) ?_ | refine Zfm rfl rfl (by kernel_rfl) ?_ | refine Zhb gV rfl (by kernel_rfl) rfl (by first | exact hC) Flat.val ?_)
  | refine Zac ?_
  | refine Zab ?_
  | refine Zag (Zaj rfl rfl ?_)
  | fail)
 all_goals exact PLe.refl _
def eqG (m : List (ByteArray × JV)) (y : ByteArray × JV) : Bool := match lkJ m y.1 with | some x => eqJ x y.2 | none => false
theorem Zyw (m : List (ByteArray × JV)) : ∀ q : List (ByteArray × JV), Ydx m q = q.all (eqG m)
 | [] => by unfold Ydx; rfl
 | y :: q => by unfold Ydx; rw [Zyw m q, List.all_cons]; rfl
theorem Ym3 (m : List (ByteArray × JV)) (y : ByteArray × JV) (hE : ∀ x, lkJ m y.1 = some x → PCall Tryz.prog 255 [dvA, dvV x, dvV y.2] (.val (.bool (eqJ x y.2)))) :
  Zbv Tryz.prog 335 [.dat (.val (.string y.1)), .iface 271 (.ptr 1004 0), .ptr 1000 0, .ptr 1001 0, .ptr 1002 0]
  [(1000, .box 398 [.dat (Zio m)]), (1001, .box 204 [.dat dvA]), (1002, .box 271 [.ptr 1003 0]), (1003, .box 315 [.any]), (1004, .box 315 [.dat (pdJ y.2)])]
  (.dat (.val (.bool (eqG m y))))
  [(1000, .box 398 [.dat (Zio m)]), (1001, .box 204 [.dat dvA]), (1002, .box 271 [.ptr 1003 0]), (1003, .box 315 [.any]), (1004, .box 315 [.dat (pdJ y.2)])] := by
 refine Zar Tryz.func335 rfl Tryz.ntmps335 rfl (fun X => ?_)
 cases hlk : lkJ m y.1 with
 | none =>
  have e : eqG m y = false := by unfold eqG; rw [hlk]
  rw [e]
  have hq : (!false) = true := rfl
  repeat' (first
  | refine Zae ?_
  | (refine Zao rfl ?_; first | refine Zad rfl rfl ?_ | refine Zal rfl rfl ?_ | refine Za5 rfl rfl rfl (by first | rfl | (simp only [Zap]; rfl)) ?_ | refine Zcb rfl rfl rfl ?_ | refine Zdc rfl rfl ?_ | refine Zjw rfl rfl rfl (by assumption) ?_)
  | refine Zac ?_
  | refine Zab ?_
  | refine Zam rfl (by first | rfl | assumption) ?_
  | fail)
  refine Za3 () id (tm := [(7, .dat (.val (.bool false)))]) ?_ (Zbc rfl rfl)
  (refine ⟨?_, ?_, by rfl⟩ <;> repeat' (first | exact trivial | exact ALe.ptr rfl | exact ALe.own rfl | exact ALe.elt rfl | exact BLe.boxD _ _ | exact BLe.row rfl | exact BLe.res | exact BLe.dead rfl | exact ALe.dat (PLe.refl _) | exact CLe.nil | refine And.intro ?_ ?_ | refine ALe.iface ?_ | refine ALe.clo ?_ | refine CLe.cons ?_ ?_ | refine BLe.box ?_ | refine BLe.row ?_ | exact ALe.any _ | refine ALe.dat (PLe.of_eq ?_)))
 | some x =>
  have hC := hE x hlk
  have e : eqG m y = eqJ x y.2 := by unfold eqG; rw [hlk]
  rw [e]
  repeat' (first
  | refine Zae ?_
  | (refine Zao rfl ?_; first | refine Zad rfl rfl ?_ | refine Zal rfl rfl ?_ | refine Za5 rfl rfl rfl (by first | rfl | (simp only [Zap]; rfl)) ?_ | refine Zcb rfl rfl rfl ?_ | refine Zdc rfl rfl ?_ | refine Zjw rfl rfl rfl (by assumption) ?_)
  | refine Zac ?_
  | refine Zab ?_
  | refine Zak rfl (by first | rfl | assumption) ?_
  | refine Zas ?_
  | refine Ze6 (by kernel_rfl) ?_
  | refine Zmu (And.intro (by kernel_rfl) ?_)
  | refine Zbl (Zil rfl rfl) ?_
  | refine Zbl (Zjr rfl rfl) ?_
  | refine Zbl (Zm2 rfl rfl rfl (by first | rfl | (simp only [Zap]; rfl))) ?_
  | refine Zbl (Zm4 rfl rfl rfl rfl) ?_
  | refine Zbl (Zrv (thk [(1000, _)] 200) rfl (by kernel_rfl) ((Zix .any _)) rfl rfl rfl rfl rfl) ?_
  | refine Zbl (Ydo rfl rfl) ?_
  | refine Zbl (Zlo gV rfl (by kernel_rfl) rfl (by first | exact hC) Flat.val) ?_
  | fail)
  refine Za3 () id (tm := [(7, .dat (.val (.bool (eqJ x y.2))))]) ?_ (Zbc rfl rfl)
  (refine ⟨?_, ?_, by rfl⟩ <;> repeat' (first | exact trivial | exact ALe.ptr rfl | exact ALe.own rfl | exact ALe.elt rfl | exact BLe.boxD _ _ | exact BLe.row rfl | exact BLe.res | exact BLe.dead rfl | exact ALe.dat (PLe.refl _) | exact CLe.nil | refine And.intro ?_ ?_ | refine ALe.iface ?_ | refine ALe.clo ?_ | refine CLe.cons ?_ ?_ | refine BLe.box ?_ | refine BLe.row ?_ | exact ALe.any _ | refine ALe.dat (PLe.of_eq ?_)))
theorem Yin (m q : List (ByteArray × JV)) (hE : ∀ y ∈ q, ∀ x, lkJ m y.1 = some x → PCall Tryz.prog 255 [dvA, dvV x, dvV y.2] (.val (.bool (eqJ x y.2)))) :
  Zbv Tryz.prog 330 [.dat (Zio q), .dat dvA, .clo 335 [.ptr 1000 0, .ptr 1001 0, .ptr 1002 0]]
  [(1000, .box 398 [.dat (Zio m)]), (1001, .box 204 [.dat dvA]), (1002, .box 271 [.ptr 1003 0]), (1003, .box 315 [.dat (.val .nilIface)])]
  (.dat (.val (.bool (q.all (eqG m)))))
  [(1000, .box 398 [.dat (Zio m)]), (1001, .box 204 [.dat dvA]), (1002, .box 271 [.ptr 1003 0]), (1003, .box 315 [.any])] := by
 refine Zar Tryz.func330 rfl Tryz.ntmps330 rfl (fun X => ?_)
 by_cases hn : q = []
 ·subst hn
  have hq : decide (((([] : List (ByteArray × JV)).length : Nat) : Int) = 0) = true := rfl
  repeat' (first
  | refine Zae ?_
  | (refine Zao rfl ?_; first | refine Zad rfl rfl ?_ | refine Zal rfl rfl ?_ | refine Zax rfl rfl rfl rfl ?_ | refine Zme rfl rfl ?_)
  | refine Zac ?_
  | refine Zab ?_
  | refine Zam rfl (by first | rfl | assumption) ?_
  | fail)
  refine Za3 () id (tm := [(6, .dat (.val (.bool true)))]) ?_ (Zbc rfl rfl)
  (refine ⟨?_, ?_, by rfl⟩ <;> repeat' (first | exact trivial | exact ALe.ptr rfl | exact ALe.own rfl | exact ALe.elt rfl | exact BLe.boxD _ _ | exact BLe.row rfl | exact BLe.res | exact BLe.dead rfl | exact ALe.dat (PLe.refl _) | exact CLe.nil | refine And.intro ?_ ?_ | refine ALe.iface ?_ | refine ALe.clo ?_ | refine CLe.cons ?_ ?_ | refine BLe.box ?_ | refine BLe.row ?_ | exact ALe.any _ | refine ALe.dat (PLe.of_eq ?_)))
 ·have hq : decide (((q.length : Nat) : Int) = 0) = false := by
   cases q with
   | nil => exact absurd rfl hn
   | cons x r => simp; omega
  repeat' (first
  | refine Zae ?_
  | (refine Zao rfl ?_; first | refine Znb rfl rfl rfl ?_ | refine Zad rfl rfl ?_ | refine Zal rfl rfl ?_ | refine Zax rfl rfl rfl rfl ?_ | refine Zgn rfl rfl ?_ | refine Zfy rfl rfl ?_ | refine Za2 (thk [] 200) rfl rfl (by kernel_rfl) (Znp) rfl trivial rfl (Zai rfl) rfl ?_ | refine Zg5 rfl rfl ?_ | refine Zfm rfl rfl (by kernel_rfl) ?_ | refine Zme rfl rfl ?_ | refine Zd7 rfl Zcw ?_)
  | refine Zac ?_
  | refine Zab ?_
  | refine Zak rfl (by first | rfl | assumption) ?_
  | refine Zau ?_
  | refine Zas ?_
  | fail)
  refine Zaq (ι := { done : List (ByteArray × JV) // (done.map (·.1)).Nodup ∧ (∀ y ∈ done, y ∈ q) ∧ ∀ y ∈ done, eqG m y = true })
   (fun k => [(2, .clo 335 [.ptr 1000 0, .ptr 1001 0, .ptr 1002 0]), (7, .ptr 200 0), (20, .own 20)])
   (fun k => [(20, .res (itR q k.1)), (200, .box 315 [.any]), (1000, .box 398 [.dat (Zio m)]), (1001, .box 204 [.dat dvA]), (1002, .box 271 [.ptr 1003 0]), (1003, .box 315 [.any])])
   (fun k => q.length - k.1.length) ⟨[], by simp, by simp, by simp⟩ id ?_ ?_
  ·(refine ⟨?_, ?_, by rfl⟩ <;> repeat' (first | exact trivial | exact ALe.ptr rfl | exact ALe.own rfl | exact ALe.elt rfl | exact BLe.boxD _ _ | exact BLe.row rfl | exact BLe.res | exact BLe.dead rfl | exact ALe.dat (PLe.refl _) | exact CLe.nil | refine And.intro ?_ ?_ | refine ALe.iface ?_ | refine ALe.clo ?_ | refine CLe.cons ?_ ?_ | refine BLe.box ?_ | refine BLe.row ?_ | exact ALe.any _ | refine ALe.dat (PLe.of_eq ?_)))
  rintro ⟨done, hnd, hsub, hall⟩
  repeat' (first
  | refine Zae ?_
  | refine Zab ?_
  | fail)
  refine Zao rfl (Zsk rfl rfl rfl (fun hev => ?_) (fun y hy hny => ?_))
  ·have e : q.all (eqG m) = true := List.all_eq_true.2 fun y hy => hall y (hev y hy)
   rw [e]
   repeat' (first
  | refine Zae ?_
  | (refine Zao rfl ?_; first | refine Zad rfl rfl ?_ | refine Zcb rfl rfl rfl ?_)
  | refine Zac ?_
  | refine Zab ?_
  | refine Zak rfl (by first | rfl | assumption) ?_
  | refine Ze7 rfl ?_
  | fail)
   refine Za3 () id (tm := [(6, .dat (.val (.bool true)))]) ?_ (Zbc rfl rfl)
   (refine ⟨?_, ?_, by rfl⟩ <;> repeat' (first | exact trivial | exact ALe.ptr rfl | exact ALe.own rfl | exact ALe.elt rfl | exact BLe.boxD _ _ | exact BLe.row rfl | exact BLe.res | exact BLe.dead rfl | exact ALe.dat (PLe.refl _) | exact CLe.nil | refine And.intro ?_ ?_ | refine ALe.iface ?_ | refine ALe.clo ?_ | refine CLe.cons ?_ ?_ | refine BLe.box ?_ | refine BLe.row ?_ | exact ALe.any _ | refine ALe.dat (PLe.of_eq ?_)))
  ·have hC := Ym3 m y (hE y hy)
   cases hr : eqG m y with
   | true =>
    rw [hr] at hC
    repeat' (first
  | refine Zae ?_
  | (refine Zao rfl ?_; first | refine Zkp rfl rfl rfl ?_ | refine Zad rfl rfl ?_ | refine Zal rfl rfl ?_ | refine Zcb rfl rfl rfl ?_ | refine Zdc rfl rfl ?_ | refine Zfy rfl rfl ?_ | refine Zb5 (thk [(1000, _)] 200) rfl (by kernel_rfl) (Zix .any _) rfl ⟨rfl, trivial⟩ rfl (Zai rfl) rfl ?_ | refine Zhz (thk [(1000, _), (1001, _), (1002, _), (1003, _), (1004, _)] 200) rfl rfl (by kernel_rfl) (hC) rfl ⟨rfl, ⟨rfl, ⟨rfl, ⟨rfl, ⟨rfl, trivial⟩⟩⟩⟩⟩ rfl (Zai rfl) rfl ?_ | refine Zh0 rfl rfl ?_)
  | refine Zac ?_
  | refine Zab ?_
  | refine Zam rfl (by first | rfl | assumption) ?_
  | refine Zak rfl (by first | rfl | assumption) ?_
  | refine Zau ?_
  | refine Zbx ?_
  | refine Zas ?_
  | fail)
    refine Zan ?_
    refine ⟨⟨done ++ [y], ?_, ?_, ?_⟩, id, ?_, ?_⟩
    ·rw [List.map_append, List.nodup_append]
     exact ⟨hnd, by simp, fun a ha b hb => by simp at hb; subst hb; exact fun e => hny (e ▸ ha)⟩
    ·intro z hz
     rcases List.mem_append.1 hz with hz | hz
     ·exact hsub z hz
     ·simp at hz; rw [hz]; exact hy
    ·intro z hz
     rcases List.mem_append.1 hz with hz | hz
     ·exact hall z hz
     ·simp at hz; rw [hz]; exact hr
    ·have h1 : (done ++ [y]).length ≤ q.length := by
      have := Ze4 (a := (done ++ [y]).map (·.1)) (l := q.map (·.1)) (by
       rw [List.map_append, List.nodup_append]
       exact ⟨hnd, by simp, fun a ha b hb => by simp at hb; subst hb; exact fun e => hny (e ▸ ha)⟩) (fun x hx => by
       obtain ⟨z, hz, rfl⟩ := List.mem_map.1 hx
       rcases List.mem_append.1 hz with hz | hz
       ·exact List.mem_map_of_mem (hsub z hz)
       ·simp at hz; rw [hz]; exact List.mem_map_of_mem hy)
      simpa using this
     simp only [List.length_append, List.length_cons, List.length_nil] at h1 ⊢
     omega
    (refine ⟨?_, ?_, by rfl⟩ <;> repeat' (first | exact trivial | exact ALe.ptr rfl | exact ALe.own rfl | exact ALe.elt rfl | exact BLe.boxD _ _ | exact BLe.row rfl | exact BLe.res | exact BLe.dead rfl | exact ALe.dat (PLe.refl _) | exact CLe.nil | refine And.intro ?_ ?_ | refine ALe.iface ?_ | refine ALe.clo ?_ | refine CLe.cons ?_ ?_ | refine BLe.box ?_ | refine BLe.row ?_ | exact ALe.any _ | refine ALe.dat (PLe.of_eq ?_)))
   | false =>
    rw [hr] at hC
    have e : q.all (eqG m) = false := by
     cases h : q.all (eqG m) with
     | false => rfl
     | true => rw [List.all_eq_true.1 h y hy] at hr; cases hr
    rw [e]
    repeat' (first
  | refine Zae ?_
  | (refine Zao rfl ?_; first | refine Zkp rfl rfl rfl ?_ | refine Zad rfl rfl ?_ | refine Zal rfl rfl ?_ | refine Zcb rfl rfl rfl ?_ | refine Zdc rfl rfl ?_ | refine Zfy rfl rfl ?_ | refine Zb5 (thk [(1000, _)] 200) rfl (by kernel_rfl) (Zix .any _) rfl ⟨rfl, trivial⟩ rfl (Zai rfl) rfl ?_ | refine Zhz (thk [(1000, _), (1001, _), (1002, _), (1003, _), (1004, _)] 200) rfl rfl (by kernel_rfl) (hC) rfl ⟨rfl, ⟨rfl, ⟨rfl, ⟨rfl, ⟨rfl, trivial⟩⟩⟩⟩⟩ rfl (Zai rfl) rfl ?_ | refine Zh0 rfl rfl ?_)
  | refine Zac ?_
  | refine Zab ?_
  | refine Zam rfl (by first | rfl | assumption) ?_
  | refine Zau ?_
  | refine Zas ?_
  | fail)
    refine Za3 () id (tm := [(6, .dat (.val (.bool false)))]) ?_ (Zbc rfl rfl)
    (refine ⟨?_, ?_, by rfl⟩ <;> repeat' (first | exact trivial | exact ALe.ptr rfl | exact ALe.own rfl | exact ALe.elt rfl | exact BLe.boxD _ _ | exact BLe.row rfl | exact BLe.res | exact BLe.dead rfl | exact ALe.dat (PLe.refl _) | exact CLe.nil | refine And.intro ?_ ?_ | refine ALe.iface ?_ | refine ALe.clo ?_ | refine CLe.cons ?_ ?_ | refine BLe.box ?_ | refine BLe.row ?_ | exact ALe.any _ | refine ALe.dat (PLe.of_eq ?_)))
theorem Yod (m q : List (ByteArray × JV)) (hE : ∀ y ∈ q, ∀ x, lkJ m y.1 = some x → PCall Tryz.prog 255 [dvA, dvV x, dvV y.2] (.val (.bool (eqJ x y.2)))) :
  PCall Tryz.prog 325 [Zio m, dvA, dvM q] (.val (.bool (Nat.beq m.length q.length && Ydx m q))) := by
 have hC := Yin m q hE
 rw [Zyw]
 refine Zaa Tryz.func325 rfl Tryz.ntmps325 rfl (fun X => ?_)
 by_cases hl : m.length = q.length
 ·have hq0 : decide (((m.length : Nat) : Int) ≠ ((q.length : Nat) : Int)) = false := by simp; omega
  have e1 : Nat.beq m.length q.length = true := by rw [hl]; simp
  rw [e1, Bool.true_and]
  by_cases hn : q = []
  ·subst hn
   have hn2 : m = [] := List.eq_nil_of_length_eq_zero hl
   subst hn2
   have hq1 : decide (((([] : List (ByteArray × JV)).length : Nat) : Int) = 0) = true := rfl
   repeat' (first
  | refine Zae ?_
  | (refine Zao rfl ?_; first | refine Zad rfl rfl ?_ | refine Zal rfl rfl ?_ | refine Zsj rfl rfl rfl (by first | rfl | (simp only [Zap]; rfl)) ?_ | refine Zax rfl rfl rfl rfl ?_ | refine Zcq rfl rfl rfl (by first | rfl | (simp only [Zap]; rfl)) ?_ | refine Zgo rfl (by kernel_rfl) rfl (by first | exact Zjh _) ?_ | refine Zdq rfl rfl (by kernel_rfl) rfl (by first | exact Zjh _) ?_)
  | refine Zac ?_
  | refine Zab ?_
  | refine Zam rfl (by first | rfl | assumption) ?_
  | refine Zak rfl (by first | rfl | assumption) ?_
  | refine Zas ?_
  | refine Zag (Zaj rfl rfl ?_)
  | fail)
   all_goals exact PLe.refl _
  ·have hq1 : decide (((m.length : Nat) : Int) = 0) = false := by
    rw [hl]
    cases q with
    | nil => exact absurd rfl hn
    | cons x r => simp; omega
   repeat' (first
  | refine Zae ?_
  | (refine Zao rfl ?_; first | refine Zad rfl rfl ?_ | refine Zal rfl rfl ?_ | refine Zsj rfl rfl rfl (by first | rfl | (simp only [Zap]; rfl)) ?_ | refine Zax rfl rfl rfl rfl ?_ | refine Zcq rfl rfl rfl (by first | rfl | (simp only [Zap]; rfl)) ?_ | refine Zgo rfl (by kernel_rfl) rfl (by first | exact Zjh _) ?_ | refine Zcx rfl rfl rfl rfl rfl ?_ | refine Zlx rfl rfl ?_ | refine Za2 (thk [] 200) rfl rfl (by kernel_rfl) (Znp) rfl trivial rfl (Zai rfl) rfl ?_ | refine Za2 (thk [(1000, _), (1001, _), (1002, _), (1003, _)] 200) rfl rfl (by kernel_rfl) (hC) rfl ⟨rfl, ⟨rfl, ⟨rfl, ⟨rfl, trivial⟩⟩⟩⟩ rfl (Zai rfl) rfl ?_ | refine Zdq rfl rfl (by kernel_rfl) rfl (by first | exact Zjh _) ?_ | refine Zgd rfl ?_)
  | refine Zac ?_
  | refine Zab ?_
  | refine Zak rfl (by first | rfl | assumption) ?_
  | refine Zas ?_
  | refine Zag (Zaj rfl rfl ?_)
  | refine Ze6 (by kernel_rfl) ?_
  | refine Zmu (And.intro (by kernel_rfl) ?_)
  | refine Zbl (Zwo rfl rfl rfl (by first | rfl | (simp only [Zap]; rfl))) ?_
  | refine Zbl (Zm4 rfl rfl rfl rfl) ?_
  | refine Zbl (Ylb rfl rfl) ?_
  | refine Zbl (Zyn rfl rfl (by kernel_rfl)) ?_
  | refine Zbl (Yif rfl Zcw) ?_
  | fail)
   all_goals exact PLe.refl _
 ·have hq0 : decide (((m.length : Nat) : Int) ≠ ((q.length : Nat) : Int)) = true := by simp; omega
  have e1 : Nat.beq m.length q.length = false := by
   cases h : Nat.beq m.length q.length with
   | false => rfl
   | true => exact absurd (Nat.eq_of_beq_eq_true h) hl
  rw [e1, Bool.false_and]
  repeat' (first
  | refine Zae ?_
  | (refine Zao rfl ?_; first | refine Zad rfl rfl ?_ | refine Zal rfl rfl ?_ | refine Zsj rfl rfl rfl (by first | rfl | (simp only [Zap]; rfl)) ?_ | refine Zax rfl rfl rfl rfl ?_ | refine Zcq rfl rfl rfl (by first | rfl | (simp only [Zap]; rfl)) ?_ | refine Zgo rfl (by kernel_rfl) rfl (by first | exact Zjh _) ?_ | refine Zdq rfl rfl (by kernel_rfl) rfl (by first | exact Zjh _) ?_)
  | refine Zac ?_
  | refine Zab ?_
  | refine Zam rfl (by first | rfl | assumption) ?_
  | refine Zag (Zaj rfl rfl ?_)
  | fail)
  all_goals exact PLe.refl _
theorem Ym6 : ∀ (j k : JV), (j.IsInt || j.IsFloat) = true → (k.IsInt || k.IsFloat) = true → PCall Tryz.prog 255 [dvA, dvV j, dvV k] (.val (.bool (eqJ j k))) := by
 intro j k hj hk
 refine Zaa Tryz.func255 rfl Tryz.ntmps255 rfl (fun X => ?_)
 cases j <;> simp only [JV.IsInt, JV.IsFloat, Bool.or_self, Bool.false_eq_true, Bool.or_false, Bool.or_true] at hj <;> cases k <;> simp only [JV.IsInt, JV.IsFloat, Bool.or_self, Bool.false_eq_true, Bool.or_false, Bool.or_true] at hk
 all_goals
  repeat' (first
  | refine Zae ?_
  | (refine Zao rfl ?_; first | refine Zad rfl rfl ?_ | refine Zal rfl rfl ?_ | refine Zax rfl rfl rfl rfl ?_ | refine Zfz rfl rfl (by first | rfl | assumption) rfl ?_ | refine Zen rfl rfl (by first | rfl | assumption) rfl ?_ | refine Zeg rfl rfl rfl (by kernel_rfl) rfl (by first | exact Zbh _ | exact Zcc _ | exact Zcn _ | exact Zem _) ?_ | refine Zzj rfl rfl rfl rfl ?_ | refine Zsg (q := .f64) rfl rfl (by kernel_rfl) (by kernel_rfl) ?_)
  | refine Zac ?_
  | refine Zab ?_
  | refine Zam rfl (by first | rfl | assumption) ?_
  | refine Zak rfl (by first | rfl | assumption) ?_
  | (refine Zc3 rfl rfl (by first | rfl | assumption) ?_; first | refine Zal rfl rfl ?_ | refine Zeg rfl rfl rfl (by kernel_rfl) rfl (by first | exact Zbh _ | exact Zcc _ | exact Zcn _ | exact Zem _) ?_)
  | refine Zon rfl rfl (by first | rfl | assumption) rfl ?_
  | refine Zas ?_
  | refine Zag (Zaj rfl rfl ?_)
  | fail)
 all_goals exact PLe.of_eq (by unfold eqJ; rfl)
theorem Zdv (j k : JV) (hl : (j.IsList && k.IsList) = false) (hm : (j.IsMap && k.IsMap) = false) : PCall Tryz.prog 255 [dvA, dvV j, dvV k] (.val (.bool (eqJ j k))) := by
 by_cases hnum : (j.IsInt || j.IsFloat) = true ∧ (k.IsInt || k.IsFloat) = true
 ·exact Ym6 j k hnum.1 hnum.2
 refine Zaa Tryz.func255 rfl Tryz.ntmps255 rfl (fun X => ?_)
 cases j <;> cases k
 all_goals first
  | exact absurd hl (fun h => Bool.noConfusion h)
  | exact absurd hm (fun h => Bool.noConfusion h)
  | exact absurd ⟨rfl, rfl⟩ hnum
  | skip
 all_goals clear hl hm hnum
 all_goals
  repeat' (first
  | refine Zae ?_
  | (refine Zao rfl ?_; first | refine Zad rfl rfl ?_ | refine Zal rfl rfl ?_ | refine Zax rfl rfl rfl rfl ?_ | refine Zfz rfl rfl (by first | rfl | assumption) rfl ?_ | refine Zen rfl rfl (by first | rfl | assumption) rfl ?_ | refine Zom rfl rfl rfl (by kernel_rfl) rfl ?_ | refine Zeg rfl rfl rfl (by kernel_rfl) rfl (by first | exact Zbh _ | exact Zcc _ | exact Zbf _ | exact Zb3 _ | exact Zb4 _ | exact Zdn _ | exact Zd3 _ | exact Zcm _ | exact Zd2 _ | exact Zcn _ | exact Zem _) ?_)
  | refine Zac ?_
  | refine Zab ?_
  | refine Zam rfl (by first | rfl | assumption) ?_
  | refine Zak rfl (by first | rfl | assumption) ?_
  | (refine Zc3 rfl rfl (by first | rfl | assumption) ?_; first | refine Zal rfl rfl ?_ | refine Zeg rfl rfl rfl (by kernel_rfl) rfl (by first | exact Zbh _ | exact Zcc _ | exact Zbf _ | exact Zb3 _ | exact Zb4 _ | exact Zdn _ | exact Zd3 _ | exact Zcm _ | exact Zd2 _ | exact Zcn _ | exact Zem _) ?_)
  | refine Zon rfl rfl (by first | rfl | assumption) rfl ?_
  | refine Zas ?_
  | refine Zag (Zaj rfl rfl ?_)
  | fail)
 all_goals exact PLe.of_eq (by unfold eqJ; rfl)
theorem Yip (l q : List JV) (hE : ∀ x ∈ l, ∀ y ∈ q, PCall Tryz.prog 255 [dvA, dvV x, dvV y] (.val (.bool (eqJ x y)))) : PCall Tryz.prog 255 [dvA, dvV (.list l), dvV (.list q)] (.val (.bool (eqJ (.list l) (.list q)))) := by
 have hC := Yoc l q hE
 rw [show eqJ (.list l) (.list q) = Zm5 l q by unfold eqJ; rfl]
 refine Zaa Tryz.func255 rfl Tryz.ntmps255 rfl (fun X => ?_)
 repeat' (first
  | refine Zae ?_
  | (refine Zao rfl ?_; first | refine Zad rfl rfl ?_ | refine Zal rfl rfl ?_ | refine Zen rfl rfl (by first | rfl | assumption) rfl ?_ | refine Zeg rfl rfl rfl (by kernel_rfl) rfl (by first | exact Zbh _ | exact Zcc _ | exact Zbf _ | exact Zb3 _ | exact Zb4 _ | exact Zka _ | exact hC) ?_ | refine Zdq rfl rfl (by kernel_rfl) rfl (by first | exact Zbh _ | exact Zcc _ | exact Zbf _ | exact Zb3 _ | exact Zb4 _ | exact Zka _ | exact hC) ?_ | refine Zg5 rfl rfl ?_ | refine Zd7 rfl Zcw ?_)
  | refine Zac ?_
  | refine Zab ?_
  | refine Zam rfl (by first | rfl | assumption) ?_
  | refine Zak rfl (by first | rfl | assumption) ?_
  | (refine Zc3 rfl rfl (by first | rfl | assumption) ?_; first | refine Zal rfl rfl ?_ | refine Zeg rfl rfl rfl (by kernel_rfl) rfl (by first | exact Zbh _ | exact Zcc _ | exact Zbf _ | exact Zb3 _ | exact Zb4 _ | exact Zka _ | exact hC) ?_)
  | refine Zas ?_
  | refine Zag (Zaj rfl rfl ?_)
  | fail)
 all_goals exact PLe.refl _
theorem Ym5 (m q : List (ByteArray × JV)) (hE : ∀ y ∈ q, ∀ x, lkJ m y.1 = some x → PCall Tryz.prog 255 [dvA, dvV x, dvV y.2] (.val (.bool (eqJ x y.2)))) : PCall Tryz.prog 255 [dvA, dvV (.map m), dvV (.map q)] (.val (.bool (eqJ (.map m) (.map q)))) := by
 have hC := Yod m q hE
 rw [show eqJ (.map m) (.map q) = (Nat.beq m.length q.length && Ydx m q) by unfold eqJ; rfl]
 refine Zaa Tryz.func255 rfl Tryz.ntmps255 rfl (fun X => ?_)
 repeat' (first
  | refine Zae ?_
  | (refine Zao rfl ?_; first | refine Zad rfl rfl ?_ | refine Zal rfl rfl ?_ | refine Zen rfl rfl (by first | rfl | assumption) rfl ?_ | refine Zeg rfl rfl rfl (by kernel_rfl) rfl (by first | exact Zbh _ | exact Zcc _ | exact Zbf _ | exact Zb3 _ | exact Zb4 _ | exact Zdn _ | exact Znr _ | exact hC) ?_ | refine Zdq rfl rfl (by kernel_rfl) rfl (by first | exact Zbh _ | exact Zcc _ | exact Zbf _ | exact Zb3 _ | exact Zb4 _ | exact Zdn _ | exact Znr _ | exact hC) ?_ | refine Zg5 rfl rfl ?_ | refine Zd7 rfl Zcw ?_)
  | refine Zac ?_
  | refine Zab ?_
  | refine Zam rfl (by first | rfl | assumption) ?_
  | refine Zak rfl (by first | rfl | assumption) ?_
  | (refine Zc3 rfl rfl (by first | rfl | assumption) ?_; first | refine Zal rfl rfl ?_ | refine Zeg rfl rfl rfl (by kernel_rfl) rfl (by first | exact Zbh _ | exact Zcc _ | exact Zbf _ | exact Zb3 _ | exact Zb4 _ | exact Zdn _ | exact Znr _ | exact hC) ?_)
  | refine Zas ?_
  | refine Zag (Zaj rfl rfl ?_)
  | fail)
 all_goals exact PLe.refl _
theorem Ync : ∀ (k j : JV), PCall Tryz.prog 255 [dvA, dvV j, dvV k] (.val (.bool (eqJ j k)))
 | .list q, .list l => Yip l q (fun x _ y hy => Ync y x)
 | .map q, .map m => Ym5 m q (fun y hy x _ => Ync y.2 x)
 | .list q, .null => Zdv _ _ rfl rfl
 | .list q, .bool _ => Zdv _ _ rfl rfl
 | .list q, .int _ => Zdv _ _ rfl rfl
 | .list q, .flt _ => Zdv _ _ rfl rfl
 | .list q, .str _ => Zdv _ _ rfl rfl
 | .list q, .map _ => Zdv _ _ rfl rfl
 | .map q, .null => Zdv _ _ rfl rfl
 | .map q, .bool _ => Zdv _ _ rfl rfl
 | .map q, .int _ => Zdv _ _ rfl rfl
 | .map q, .flt _ => Zdv _ _ rfl rfl
 | .map q, .str _ => Zdv _ _ rfl rfl
 | .map q, .list _ => Zdv _ _ rfl rfl
 | .null, j => Zdv _ _ (by cases j <;> rfl) (by cases j <;> rfl)
 | .bool _, j => Zdv _ _ (by cases j <;> rfl) (by cases j <;> rfl)
 | .int _, j => Zdv _ _ (by cases j <;> rfl) (by cases j <;> rfl)
 | .flt _, j => Zdv _ _ (by cases j <;> rfl) (by cases j <;> rfl)
 | .str _, j => Zdv _ _ (by cases j <;> rfl) (by cases j <;> rfl)
termination_by k => SizeOf.sizeOf k
decreasing_by
 all_goals simp_wf
 ·have := List.sizeOf_lt_of_mem hy; omega
 ·have := List.sizeOf_lt_of_mem hy
  obtain ⟨y1, y2⟩ := y
  simp at this ⊢
  omega
theorem Zy6 (j k : JV) : PCall Tryz.prog 242 [dvV j, dvV k] (.val (.bool (eqJ j k))) := by
 have hC := Ync k j
 refine Zaa Tryz.func242 rfl Tryz.ntmps242 rfl (fun X => ?_)
 repeat' (first
  | refine Zae ?_
  | (refine Zao rfl ?_; first | refine Zad rfl rfl ?_ | refine Zal rfl rfl ?_ | refine Zcq rfl rfl rfl (by first | rfl | (simp only [Zap]; rfl)) ?_ | refine Zlz rfl rfl rfl ?_ | refine Zfm rfl rfl (by kernel_rfl) ?_ | refine Zhb gV rfl (by kernel_rfl) rfl (by first | exact hC) Flat.val ?_)
  | refine Zac ?_
  | refine Zab ?_
  | refine Zag (Zaj rfl rfl ?_)
  | fail)
 all_goals exact PLe.refl _
def Zb0 (x : GV) : Bool := decide (x.kind = 2) || decide (x.kind = 3)
theorem Ybq (x : GV) (w : World) (v : Value) (hv : IsV w (Btw 0 w.heap.size) x v) :
  Calls Tryz.prog 199 #[v] w fun e w' => e = .returned (.bool (Zb0 x)) ∧ Below w.heap.size w w' := by
 obtain ⟨a0, c0, a1, c1, rfl⟩ := hv.form
 clear hv
 by_cases h2 : x.kind = 2
 ·have e : Zb0 x = true := by simp [Zb0, h2]
  rw [e, h2]
  clear h2 e
  go_enter Tryz.func199, Tryz.ntmps199
  go_wp2_with fail
  go_ret
  exact ⟨rfl, (Below.refl _ _).alloc (Nat.le_refl _) _⟩
 by_cases h3 : x.kind = 3
 ·have e : Zb0 x = true := by simp [Zb0, h3]
  rw [e, h3]
  clear h2 h3 e
  go_enter Tryz.func199, Tryz.ntmps199
  go_wp2_with fail
  go_ret
  exact ⟨rfl, (Below.refl _ _).alloc (Nat.le_refl _) _⟩
 ·have e : Zb0 x = false := by simp [Zb0, h2, h3]
  rw [e]
  have k2 : (x.kind == 2) = false := by simp [h2]
  have k3 : (x.kind == 3) = false := by simp [h3]
  clear h2 h3 e
  go_enter Tryz.func199, Tryz.ntmps199
  go_wp2_with fail
  go_ret
  exact ⟨rfl, (Below.refl _ _).alloc (Nat.le_refl _) _⟩
def asF (x : GV) : Nat := if x.kind = 2 then floatOfInt FloatKind.f64 x.n else x.f
theorem Znq (x : GV) (w : World) (v : Value) (hv : IsV w (Btw 0 w.heap.size) x v) :
  Calls Tryz.prog 200 #[v] w fun e w' => e = .returned (.float .f64 (asF x)) ∧ Below w.heap.size w w' := by
 obtain ⟨a0, c0, a1, c1, rfl⟩ := hv.form
 clear hv
 by_cases h2 : x.kind = 2
 ·have e : asF x = floatOfInt FloatKind.f64 x.n := by simp [asF, h2]
  rw [e, h2]
  clear h2 e
  go_enter Tryz.func200, Tryz.ntmps200
  go_wp2_with fail
  go_ret
  exact ⟨rfl, (Below.refl _ _).alloc (Nat.le_refl _) _⟩
 ·have e : asF x = x.f := by simp [asF, h2]
  rw [e]
  have k2 : (x.kind == 2) = false := by simp [h2]
  clear h2 e
  go_enter Tryz.func200, Tryz.ntmps200
  go_wp2_with fail
  go_ret
  exact ⟨rfl, (Below.refl _ _).alloc (Nat.le_refl _) _⟩
def Zkc (a b : Nat) : Int := if FloatKind.f64.format.order a b == some .lt then -1 else if FloatKind.f64.format.order a b == some .gt then 1 else 0
theorem Zi0 (a b : Int) : PCall Tryz.prog 202 [.val (.int .i64 a), .val (.int .i64 b)] (.val (.int .i64 (Zbw a b))) := by
 refine Zaa Tryz.func202 rfl Tryz.ntmps202 rfl (fun X => ?_)
 unfold Zbw
 by_cases h1 : a < b
 ·have q1 : decide (a < b) = true := by simpa using h1
  rw [if_pos h1]
  repeat' (first
  | refine Zae ?_
  | (refine Zao rfl ?_; first | refine Zad rfl rfl ?_ | refine Zal rfl rfl ?_ | refine Zax rfl rfl rfl rfl ?_)
  | refine Zac ?_
  | refine Zab ?_
  | refine Zam rfl (by first | rfl | assumption) ?_
  | refine Zag (Zaj rfl rfl ?_)
  | fail)
  all_goals exact PLe.refl _
 ·have q1 : decide (a < b) = false := by simpa using h1
  rw [if_neg h1]
  by_cases h2 : b < a
  ·have q2 : decide (b < a) = true := by simpa using h2
   rw [if_pos h2]
   repeat' (first
  | refine Zae ?_
  | (refine Zao rfl ?_; first | refine Zad rfl rfl ?_ | refine Zal rfl rfl ?_ | refine Zax rfl rfl rfl rfl ?_)
  | refine Zac ?_
  | refine Zab ?_
  | refine Zam rfl (by first | rfl | assumption) ?_
  | refine Zak rfl (by first | rfl | assumption) ?_
  | refine Zas ?_
  | refine Zag (Zaj rfl rfl ?_)
  | fail)
   all_goals exact PLe.refl _
  ·have q2 : decide (b < a) = false := by simpa using h2
   rw [if_neg h2]
   repeat' (first
  | refine Zae ?_
  | (refine Zao rfl ?_; first | refine Zad rfl rfl ?_ | refine Zal rfl rfl ?_ | refine Zax rfl rfl rfl rfl ?_)
  | refine Zac ?_
  | refine Zab ?_
  | refine Zak rfl (by first | rfl | assumption) ?_
  | refine Zas ?_
  | refine Zag (Zaj rfl rfl ?_)
  | fail)
   all_goals exact PLe.refl _
theorem Ygv (a b : Nat) : PCall Tryz.prog 258 [.val (.float .f64 a), .val (.float .f64 b)] (.val (.int .i64 (Zkc a b))) := by
 refine Zaa Tryz.func258 rfl Tryz.ntmps258 rfl (fun X => ?_)
 unfold Zkc
 cases h1 : (FloatKind.f64.format.order a b == some .lt) <;> cases h2 : (FloatKind.f64.format.order a b == some .gt)
 all_goals
  repeat' (first
  | refine Zae ?_
  | (refine Zao rfl ?_; first | refine Zad rfl rfl ?_ | refine Zal rfl rfl ?_ | refine Zzj rfl rfl rfl rfl ?_)
  | refine Zac ?_
  | refine Zab ?_
  | refine Zam rfl (by first | rfl | assumption) ?_
  | refine Zak rfl (by first | rfl | assumption) ?_
  | refine Zas ?_
  | refine Zag (Zaj rfl rfl ?_)
  | fail)
 all_goals exact PLe.refl _
theorem Zpn (a b : ByteArray) : PCall Tryz.prog 157 [.val (.string a), .val (.string b)] (.val (.int .i64 (Zdb a b))) := by
 intro w F vs hF hv
 unfold Reps at hv; obtain ⟨v, r, rfl, h1, hv⟩ := hv
 unfold Reps at hv; obtain ⟨v', r', rfl, h2, hv⟩ := hv
 unfold Reps at hv; subst hv
 unfold Rep at h1 h2
 obtain ⟨rfl, ha⟩ := h1
 obtain ⟨rfl, hb⟩ := h2
 refine (Zj5 a b w ha hb).mono ?_
 rintro e w' ⟨rfl, hB⟩
 refine ⟨_, rfl, hB, ?_⟩
 unfold Rep
 refine ⟨rfl, ?_⟩
 show (Lit.int .i64 _).wf = true
 unfold Zdb
 split
 ·rfl
 ·split <;> rfl
def Zbt (x : GV) : Int := if x.kind = 2 then 0 else if x.kind = 3 then 0 else if x.kind = 4 then 1 else if x.kind = 1 then 2 else if x.kind = 5 then 3 else if x.kind = 6 then 4 else 5
theorem Ygx (x : GV) : PCall Tryz.prog 257 [qV x] (.val (.int .i64 (Zbt x))) := by
 obtain ⟨k, n, f, s, ks, l⟩ := x
 rw [show Zbt (.mk k n f s ks l) = if k = 2 then 0 else if k = 3 then 0 else if k = 4 then 1 else if k = 1 then 2 else if k = 5 then 3 else if k = 6 then 4 else 5 from rfl]
 refine Zaa Tryz.func257 rfl Tryz.ntmps257 rfl (fun X => ?_)
 by_cases h2 : k = 2
 ·subst h2
  repeat' (first
  | refine Zae ?_
  | (refine Zao rfl ?_; first | refine Zad rfl rfl ?_ | refine Za9 rfl rfl rfl ?_ | refine Za5 rfl rfl rfl (by first | rfl | (simp only [Zap]; rfl)) ?_ | refine Zax rfl rfl rfl rfl ?_ | refine Zcq rfl rfl rfl (by first | rfl | (simp only [Zap]; rfl)) ?_)
  | refine Zac ?_
  | refine Zab ?_
  | refine Zam rfl (by first | rfl | assumption) ?_
  | refine Zau ?_
  | refine Zas ?_
  | refine Zag (Zaj rfl rfl ?_)
  | fail)
  all_goals exact PLe.refl _
 have q2 : decide (k = 2) = false := decide_eq_false h2
 rw [if_neg h2]
 by_cases h3 : k = 3
 ·subst h3
  repeat' (first
  | refine Zae ?_
  | (refine Zao rfl ?_; first | refine Zad rfl rfl ?_ | refine Za9 rfl rfl rfl ?_ | refine Za5 rfl rfl rfl (by first | rfl | (simp only [Zap]; rfl)) ?_ | refine Zax rfl rfl rfl rfl ?_ | refine Zcq rfl rfl rfl (by first | rfl | (simp only [Zap]; rfl)) ?_)
  | refine Zac ?_
  | refine Zab ?_
  | refine Zam rfl (by first | rfl | assumption) ?_
  | refine Zak rfl (by first | rfl | assumption) ?_
  | refine Zau ?_
  | refine Zag (Zaj rfl rfl ?_)
  | fail)
  all_goals exact PLe.refl _
 have q3 : decide (k = 3) = false := decide_eq_false h3
 rw [if_neg h3]
 by_cases h4 : k = 4
 ·subst h4
  repeat' (first
  | refine Zae ?_
  | (refine Zao rfl ?_; first | refine Zad rfl rfl ?_ | refine Za9 rfl rfl rfl ?_ | refine Za5 rfl rfl rfl (by first | rfl | (simp only [Zap]; rfl)) ?_ | refine Zax rfl rfl rfl rfl ?_ | refine Zcq rfl rfl rfl (by first | rfl | (simp only [Zap]; rfl)) ?_)
  | refine Zac ?_
  | refine Zab ?_
  | refine Zam rfl (by first | rfl | assumption) ?_
  | refine Zak rfl (by first | rfl | assumption) ?_
  | refine Zau ?_
  | refine Zag (Zaj rfl rfl ?_)
  | fail)
  all_goals exact PLe.refl _
 have q4 : decide (k = 4) = false := decide_eq_false h4
 rw [if_neg h4]
 by_cases h1 : k = 1
 ·subst h1
  repeat' (first
  | refine Zae ?_
  | (refine Zao rfl ?_; first | refine Zad rfl rfl ?_ | refine Za9 rfl rfl rfl ?_ | refine Za5 rfl rfl rfl (by first | rfl | (simp only [Zap]; rfl)) ?_ | refine Zax rfl rfl rfl rfl ?_ | refine Zcq rfl rfl rfl (by first | rfl | (simp only [Zap]; rfl)) ?_)
  | refine Zac ?_
  | refine Zab ?_
  | refine Zam rfl (by first | rfl | assumption) ?_
  | refine Zak rfl (by first | rfl | assumption) ?_
  | refine Zau ?_
  | refine Zag (Zaj rfl rfl ?_)
  | fail)
  all_goals exact PLe.refl _
 have q1 : decide (k = 1) = false := decide_eq_false h1
 rw [if_neg h1]
 by_cases h5 : k = 5
 ·subst h5
  repeat' (first
  | refine Zae ?_
  | (refine Zao rfl ?_; first | refine Zad rfl rfl ?_ | refine Za9 rfl rfl rfl ?_ | refine Za5 rfl rfl rfl (by first | rfl | (simp only [Zap]; rfl)) ?_ | refine Zax rfl rfl rfl rfl ?_ | refine Zcq rfl rfl rfl (by first | rfl | (simp only [Zap]; rfl)) ?_)
  | refine Zac ?_
  | refine Zab ?_
  | refine Zam rfl (by first | rfl | assumption) ?_
  | refine Zak rfl (by first | rfl | assumption) ?_
  | refine Zau ?_
  | refine Zag (Zaj rfl rfl ?_)
  | fail)
  all_goals exact PLe.refl _
 have q5 : decide (k = 5) = false := decide_eq_false h5
 rw [if_neg h5]
 by_cases h6 : k = 6
 ·subst h6
  repeat' (first
  | refine Zae ?_
  | (refine Zao rfl ?_; first | refine Zad rfl rfl ?_ | refine Za9 rfl rfl rfl ?_ | refine Za5 rfl rfl rfl (by first | rfl | (simp only [Zap]; rfl)) ?_ | refine Zax rfl rfl rfl rfl ?_ | refine Zcq rfl rfl rfl (by first | rfl | (simp only [Zap]; rfl)) ?_)
  | refine Zac ?_
  | refine Zab ?_
  | refine Zam rfl (by first | rfl | assumption) ?_
  | refine Zak rfl (by first | rfl | assumption) ?_
  | refine Zau ?_
  | refine Zag (Zaj rfl rfl ?_)
  | fail)
  all_goals exact PLe.refl _
 have q6 : decide (k = 6) = false := decide_eq_false h6
 rw [if_neg h6]
 repeat' (first
  | refine Zae ?_
  | (refine Zao rfl ?_; first | refine Zad rfl rfl ?_ | refine Za9 rfl rfl rfl ?_ | refine Za5 rfl rfl rfl (by first | rfl | (simp only [Zap]; rfl)) ?_ | refine Zax rfl rfl rfl rfl ?_ | refine Zcq rfl rfl rfl (by first | rfl | (simp only [Zap]; rfl)) ?_)
  | refine Zac ?_
  | refine Zab ?_
  | refine Zak rfl (by first | rfl | assumption) ?_
  | refine Zau ?_
  | refine Zbx ?_
  | refine Zas ?_
  | refine Zag (Zaj rfl rfl ?_)
  | fail)
 all_goals exact PLe.refl _
end Go.Proofs.YtgmahieoiifpfaaGreat
