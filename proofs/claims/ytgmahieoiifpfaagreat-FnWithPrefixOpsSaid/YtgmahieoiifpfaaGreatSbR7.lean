/- Part 7 of what the proof rests on. -/
import Derived.Test.YtgmahieoiifpfaaGreatSbR4
import Derived.Test.YtgmahieoiifpfaaGreatSbR5
import Derived.Test.YtgmahieoiifpfaaGreatSbR6
set_option linter.unusedSimpArgs false
set_option linter.unusedVariables false
set_option maxHeartbeats 40000000
namespace Go.Proofs.YtgmahieoiifpfaaGreat
open Go.RowKit
def Zfd (f : JV → JV → Int) (p q : List (ByteArray × JV)) (i : Nat) (k : ByteArray) : Int :=
 if i = p.length then -1 else if i = q.length then 1 else match lkJ p k, lkJ q k with
  | none, _ => 1
  | some _, none => -1
  | some x, some y => f x y
def Zjp (f : JV → JV → Int) (p q : List (ByteArray × JV)) : Nat → List ByteArray → Int
 | _, [] => 0
 | i, k :: r => if Zfd f p q i k = 0 then Zjp f p q (i + 1) r else Zfd f p q i k
theorem Yo1 (f : JV → JV → Int) (p q : List (ByteArray × JV)) (i : Nat) (k : ByteArray) (hi : i ≤ 140737488351232) (hE : ∀ x y, lkJ p k = some x → lkJ q k = some y → PCall Tryz.prog 237 [dvA, dvV x, dvV y] (.val (.int .i64 (f x y)))) :
  Zb0 Tryz.prog 262 [.dat (.val (.string k)), .dat (Yq4 (lkJ p k)), .dat (Yq4 (lkJ q k)), .ptr 1000 0, .ptr 1001 0, .ptr 1002 0, .ptr 1003 0, .ptr 1004 0]
  [(1000, .box 3 [.dat (.val (.int .i64 (i : Int)))]), (1001, .box 3 [.dat (.val (.int .i64 (p.length : Int)))]), (1002, .box 3 [.dat (.val (.int .i64 0))]), (1003, .box 3 [.dat (.val (.int .i64 (q.length : Int)))]), (1004, .box 204 [.dat dvA])]
  (.dat (.val (.bool (decide (Zfd f p q i k = 0)))))
  [(1000, .box 3 [.dat (.val (.int .i64 ((i : Int) + 1)))]), (1001, .box 3 [.dat (.val (.int .i64 (p.length : Int)))]), (1002, .box 3 [.dat (.val (.int .i64 (Zfd f p q i k)))]), (1003, .box 3 [.dat (.val (.int .i64 (q.length : Int)))]), (1004, .box 204 [.dat dvA])] := by
 refine Zar Tryz.func262 rfl Tryz.ntmps262 rfl (fun X => ?_)
 by_cases h1 : i = p.length
 ·have q1 : decide ((i : Int) = (p.length : Int)) = true := by simp; omega
  have e : Zfd f p q i k = -1 := by unfold Zfd; rw [if_pos h1]
  rw [e]
  repeat' (first
  | refine Zag ?_
  | (refine Zao rfl ?_; first | refine Zad rfl rfl ?_ | refine Zbj rfl rfl rfl (by first | rfl | (simp only [Zap]; rfl)) ?_ | refine Za1 rfl rfl rfl rfl ?_ | refine Zcs rfl rfl rfl rfl rfl ?_ | refine Zh5 rfl rfl rfl rfl (by first | omega | (dsimp only; omega)) ?_)
  | refine Zac ?_
  | refine Zab ?_
  | refine Zam rfl (by first | rfl | assumption) ?_
  | refine Zax ?_
  | refine Zbr ?_
  | fail)
  refine Za4 () id (tm := [(11, .dat (.val (.bool (decide ((-1 : Int) = 0)))))]) ?_ (Za9 rfl rfl)
  (refine ⟨?_, ?_, by rfl⟩ <;> repeat' (first | exact trivial | exact ALe.ptr rfl | exact ALe.own rfl | exact ALe.elt rfl | exact BLe.boxD _ _ | exact BLe.row rfl | exact BLe.res | exact BLe.dead rfl | exact ALe.dat (PLe.refl _) | exact CLe.nil | refine And.intro ?_ ?_ | refine ALe.iface ?_ | refine ALe.clo ?_ | refine CLe.cons ?_ ?_ | refine BLe.box ?_ | refine BLe.row ?_ | exact ALe.any _ | refine ALe.dat (PLe.of_eq ?_)))
 have q1 : decide ((i : Int) = (p.length : Int)) = false := by simp; omega
 by_cases h2 : i = q.length
 ·have q2 : decide ((i : Int) = (q.length : Int)) = true := by simp; omega
  have e : Zfd f p q i k = 1 := by unfold Zfd; rw [if_neg h1, if_pos h2]
  rw [e]
  repeat' (first
  | refine Zag ?_
  | (refine Zao rfl ?_; first | refine Zad rfl rfl ?_ | refine Zbj rfl rfl rfl (by first | rfl | (simp only [Zap]; rfl)) ?_ | refine Za1 rfl rfl rfl rfl ?_ | refine Zcs rfl rfl rfl rfl rfl ?_ | refine Zh5 rfl rfl rfl rfl (by first | omega | (dsimp only; omega)) ?_)
  | refine Zac ?_
  | refine Zab ?_
  | refine Zam rfl (by first | rfl | assumption) ?_
  | refine Zal rfl (by first | rfl | assumption) ?_
  | refine Zax ?_
  | refine Zbr ?_
  | fail)
  refine Za4 () id (tm := [(11, .dat (.val (.bool (decide ((1 : Int) = 0)))))]) ?_ (Za9 rfl rfl)
  (refine ⟨?_, ?_, by rfl⟩ <;> repeat' (first | exact trivial | exact ALe.ptr rfl | exact ALe.own rfl | exact ALe.elt rfl | exact BLe.boxD _ _ | exact BLe.row rfl | exact BLe.res | exact BLe.dead rfl | exact ALe.dat (PLe.refl _) | exact CLe.nil | refine And.intro ?_ ?_ | refine ALe.iface ?_ | refine ALe.clo ?_ | refine CLe.cons ?_ ?_ | refine BLe.box ?_ | refine BLe.row ?_ | exact ALe.any _ | refine ALe.dat (PLe.of_eq ?_)))
 have q2 : decide ((i : Int) = (q.length : Int)) = false := by simp; omega
 cases hp : lkJ p k with
 | none =>
  have e : Zfd f p q i k = 1 := by unfold Zfd; rw [if_neg h1, if_neg h2, hp]
  rw [e]
  generalize Yq4 (lkJ q k) = R
  repeat' (first
  | refine Zag ?_
  | (refine Zao rfl ?_; first | refine Zad rfl rfl ?_ | refine Zai rfl rfl ?_ | refine Zbj rfl rfl rfl (by first | rfl | (simp only [Zap]; rfl)) ?_ | refine Za1 rfl rfl rfl rfl ?_ | refine Zcc rfl rfl rfl (by kernel_rfl) (by first | exact NilIs.ptr | exact NilIs.none | exact NilIs.nilI | assumption) rfl ?_ | refine Zcs rfl rfl rfl rfl rfl ?_ | refine Zh5 rfl rfl rfl rfl (by first | omega | (dsimp only; omega)) ?_)
  | refine Zac ?_
  | refine Zab ?_
  | refine Zam rfl (by first | rfl | assumption) ?_
  | refine Zal rfl (by first | rfl | assumption) ?_
  | refine Zax ?_
  | refine Zbr ?_
  | fail)
  refine Za4 () id (tm := [(11, .dat (.val (.bool (decide ((1 : Int) = 0)))))]) ?_ (Za9 rfl rfl)
  (refine ⟨?_, ?_, by rfl⟩ <;> repeat' (first | exact trivial | exact ALe.ptr rfl | exact ALe.own rfl | exact ALe.elt rfl | exact BLe.boxD _ _ | exact BLe.row rfl | exact BLe.res | exact BLe.dead rfl | exact ALe.dat (PLe.refl _) | exact CLe.nil | refine And.intro ?_ ?_ | refine ALe.iface ?_ | refine ALe.clo ?_ | refine CLe.cons ?_ ?_ | refine BLe.box ?_ | refine BLe.row ?_ | exact ALe.any _ | refine ALe.dat (PLe.of_eq ?_)))
 | some x =>
  cases hq : lkJ q k with
  | none =>
   have e : Zfd f p q i k = -1 := by unfold Zfd; rw [if_neg h1, if_neg h2, hp, hq]
   rw [e]
   repeat' (first
  | refine Zag ?_
  | (refine Zao rfl ?_; first | refine Zad rfl rfl ?_ | refine Zai rfl rfl ?_ | refine Zbj rfl rfl rfl (by first | rfl | (simp only [Zap]; rfl)) ?_ | refine Za1 rfl rfl rfl rfl ?_ | refine Zcc rfl rfl rfl (by kernel_rfl) (by first | exact NilIs.ptr | exact NilIs.none | exact NilIs.nilI | assumption) rfl ?_ | refine Zcs rfl rfl rfl rfl rfl ?_ | refine Zh5 rfl rfl rfl rfl (by first | omega | (dsimp only; omega)) ?_ | refine Zcc rfl rfl rfl (by kernel_rfl) (by exact NilIs.ifc) rfl ?_)
  | refine Zac ?_
  | refine Zab ?_
  | refine Zam rfl (by first | rfl | assumption) ?_
  | refine Zal rfl (by first | rfl | assumption) ?_
  | refine Zax ?_
  | refine Zbr ?_
  | fail)
   refine Za4 () id (tm := [(11, .dat (.val (.bool (decide ((-1 : Int) = 0)))))]) ?_ (Za9 rfl rfl)
   (refine ⟨?_, ?_, by rfl⟩ <;> repeat' (first | exact trivial | exact ALe.ptr rfl | exact ALe.own rfl | exact ALe.elt rfl | exact BLe.boxD _ _ | exact BLe.row rfl | exact BLe.res | exact BLe.dead rfl | exact ALe.dat (PLe.refl _) | exact CLe.nil | refine And.intro ?_ ?_ | refine ALe.iface ?_ | refine ALe.clo ?_ | refine CLe.cons ?_ ?_ | refine BLe.box ?_ | refine BLe.row ?_ | exact ALe.any _ | refine ALe.dat (PLe.of_eq ?_)))
  | some y =>
   have hC := hE x y hp hq
   have e : Zfd f p q i k = f x y := by unfold Zfd; rw [if_neg h1, if_neg h2, hp, hq]
   rw [e]
   generalize f x y = c at *
   repeat' (first
  | refine Zag ?_
  | (refine Zao rfl ?_; first | refine Zad rfl rfl ?_ | refine Zai rfl rfl ?_ | refine Zbj rfl rfl rfl (by first | rfl | (simp only [Zap]; rfl)) ?_ | refine Za1 rfl rfl rfl rfl ?_ | refine Zgi rfl (by kernel_rfl) rfl (by first | exact hC) ?_ | refine Zcs rfl rfl rfl rfl rfl ?_ | refine Zh5 rfl rfl rfl rfl (by first | omega | (dsimp only; omega)) ?_ | refine Zcc rfl rfl rfl (by kernel_rfl) (by exact NilIs.ifc) rfl ?_)
  | refine Zac ?_
  | refine Zab ?_
  | refine Zal rfl (by first | rfl | assumption) ?_
  | refine Zax ?_
  | refine Zbr ?_
  | fail)
   refine Za4 () id (tm := [(11, .dat (.val (.bool (decide (c = 0)))))]) ?_ (Za9 rfl rfl)
   (refine ⟨?_, ?_, by rfl⟩ <;> repeat' (first | exact trivial | exact ALe.ptr rfl | exact ALe.own rfl | exact ALe.elt rfl | exact BLe.boxD _ _ | exact BLe.row rfl | exact BLe.res | exact BLe.dead rfl | exact ALe.dat (PLe.refl _) | exact CLe.nil | refine And.intro ?_ ?_ | refine ALe.iface ?_ | refine ALe.clo ?_ | refine CLe.cons ?_ ?_ | refine BLe.box ?_ | refine BLe.row ?_ | exact ALe.any _ | refine ALe.dat (PLe.of_eq ?_)))
theorem Ynp {A : List ByteArray} {x y : ByteArray} {R : List ByteArray} : ((pdS (A ++ y :: x :: R)).set (A.length + 1) (.val (.string y))).set A.length (.val (.string x)) = pdS (A ++ x :: y :: R) := by
 unfold pdS
 simp only [List.map_append, List.map_cons]
 have e : (A.map fun k => PD.val (.string k)).length = A.length := by simp
 rw [List.set_append_right _ _ (by rw [e]; omega), List.set_append_right _ _ (by rw [e]; omega), e]
 simp
theorem Zyl {A B : List ByteArray} {x : ByteArray} (h : Zf0 (A ++ B)) (hB : ∀ b ∈ B, blt x b = true) (hA : ∀ y, A.getLast? = some y → blt y x = true) : Zf0 (A ++ x :: B) := by
 unfold Zf0 at *
 rw [List.pairwise_append] at h ⊢
 obtain ⟨h1, h2, h3⟩ := h
 have hAx : ∀ a ∈ A, blt a x = true := by
  intro a ha
  rcases List.eq_nil_or_concat A with rfl | ⟨A', y, rfl⟩
  ·cases ha
  ·have hy := hA y (by simp)
   simp only [List.concat_eq_append] at ha h1
   rcases List.mem_append.1 ha with ha | ha
   ·rw [List.pairwise_append] at h1
    exact Zb6 (h1.2.2 a ha y (by simp)) hy
   ·simp at ha; subst ha; exact hy
 refine ⟨h1, List.pairwise_cons.2 ⟨hB, h2⟩, fun a ha b hb => ?_⟩
 rcases List.mem_cons.1 hb with rfl | hb
 ·exact hAx a ha
 ·exact h3 a ha b hb
def cTb (p q : List (ByteArray × JV)) (i : AV) (c : AV) : List (Nat × Blk) :=
 [(1000, .box 3 [i]), (1001, .box 3 [.dat (.val (.int .i64 (p.length : Int)))]), (1002, .box 3 [c]), (1003, .box 3 [.dat (.val (.int .i64 (q.length : Int)))]), (1004, .box 204 [.dat dvA])]
def Ybm : AV := .clo 262 [.ptr 1000 0, .ptr 1001 0, .ptr 1002 0, .ptr 1003 0, .ptr 1004 0]
theorem Zzn {A B R : List ByteArray} {x : ByteArray} {i : Nat} (h : A.length + B.length = i) : (A ++ x :: (B ++ R)).take (i + 1) = A ++ x :: B := by
 rw [show A ++ x :: (B ++ R) = (A ++ x :: B) ++ R by simp]
 rw [List.take_left' (by simp; omega)]
theorem Zzr (o : Option JV) : NilIs true (Yq4 o) (!o.isSome) := by
 cases o with
 | none => exact NilIs.nilI
 | some j => exact NilIs.ifc
theorem Yrz (f : JV → JV → Int) (p q : List (ByteArray × JV)) (K : List ByteArray) (hpq : p ≠ [] ∨ q ≠ []) (hp : (p.map (·.1)).Nodup) (hq : (q.map (·.1)).Nodup) (hl : (p.length + q.length) * 16 ≤ 140737488351232) (hK : Zf0 K) (hKm : ∀ k, k ∈ K ↔ k ∈ p.map (·.1) ∨ k ∈ q.map (·.1))
  (hE : ∀ k x y, lkJ p k = some x → lkJ q k = some y → PCall Tryz.prog 237 [dvA, dvV x, dvV y] (.val (.int .i64 (f x y)))) :
  Zb0 Tryz.prog 338 [.dat dvA, .dat (dvM p), .dat (dvM q), Ybm] (cTb p q (.dat (.val (.int .i64 0))) (.dat (.val (.int .i64 0)))) (.dat (.val (.bool (decide (Zjp f p q 0 K = 0))))) (cTb p q .any (.dat (.val (.int .i64 (Zjp f p q 0 K))))) := by
 have hI1 := Yl8 p [] hp (by simp; omega)
 refine Zar Tryz.func338 rfl Tryz.ntmps338 rfl (fun X => ?_)
 obtain ⟨cap, hcap⟩ : ∃ cap, cap = if p.length < q.length then q.length else p.length := ⟨_, rfl⟩
 have hc1 : cap * 16 ≤ 140737488351232 := by rw [hcap]; split <;> omega
 have hc2 : cap ≤ 140737488351232 := by omega
 repeat' (first
  | (show Run _ _ _ _ (Itm.code (Code.cond (Operand.tmp 31) _ _) :: _) _; refine Zzh ?_)
  | refine Zag ?_
  | (refine Zao rfl ?_; first | refine Zad rfl rfl ?_ | refine Zai rfl rfl ?_ | refine Zbj rfl rfl rfl (by first | rfl | (simp only [Zap]; rfl)) ?_ | refine Za1 rfl rfl rfl rfl ?_ | refine Zeb rfl rfl rfl (by first | rfl | (simp only [Zap]; rfl)) ?_ | refine Zdl rfl rfl (by kernel_rfl) rfl (by first | exact Zji _) ?_ | refine Zcc rfl rfl rfl (by kernel_rfl) (by exact NilIs.ifc) rfl ?_)
  | refine Zac ?_
  | refine Zab ?_
  | refine Zam rfl (by first | rfl | assumption) ?_
  | fail)
 refine ⟨?_⟩
 refine Zvb (Zlw [(0, .dat dvA), (2, .dat (dvM q)), (3, Ybm), (5, .ptr 5 0), (9, .dat (.val (.int .i64 (p.length : Int)))), (10, .dat (.val (.int .i64 (q.length : Int)))), (11, .dat (.val (.int .i64 (cap : Int))))]
  ((5, .box 321 [.dat (dvM p)]) :: cTb p q (.dat (.val (.int .i64 0))) (.dat (.val (.int .i64 0))))) ?_ ?_
 ·by_cases hgt : p.length < q.length
  ·have g : decide ((p.length : Int) < (q.length : Int)) = true := decide_eq_true (by omega)
   rw [if_pos hgt] at hcap
   subst hcap
   repeat' (first
  | (refine Zao rfl ?_; first | refine Zad rfl rfl ?_ | refine Zai rfl rfl ?_)
  | refine Zac ?_
  | refine Zab ?_
  | refine Zam rfl (by first | rfl | assumption) ?_
  | fail)
   refine Zg2 id ?_
   (refine ⟨?_, ?_, by rfl⟩ <;> repeat' (first | exact trivial | exact ALe.ptr rfl | exact ALe.own rfl | exact ALe.elt rfl | exact BLe.boxD _ _ | exact BLe.row rfl | exact BLe.res | exact BLe.dead rfl | exact ALe.dat (PLe.refl _) | exact CLe.nil | refine And.intro ?_ ?_ | refine ALe.iface ?_ | refine ALe.clo ?_ | refine CLe.cons ?_ ?_ | refine BLe.box ?_ | refine BLe.row ?_ | exact ALe.any _ | refine ALe.dat (PLe.of_eq ?_)))
  ·have g : decide ((p.length : Int) < (q.length : Int)) = false := decide_eq_false (by omega)
   rw [if_neg hgt] at hcap
   subst hcap
   repeat' (first
  | refine Zal rfl (by first | rfl | assumption) ?_
  | refine Zat ?_
  | fail)
   refine Zg2 id ?_
   (refine ⟨?_, ?_, by rfl⟩ <;> repeat' (first | exact trivial | exact ALe.ptr rfl | exact ALe.own rfl | exact ALe.elt rfl | exact BLe.boxD _ _ | exact BLe.row rfl | exact BLe.res | exact BLe.dead rfl | exact ALe.dat (PLe.refl _) | exact CLe.nil | refine And.intro ?_ ?_ | refine ALe.iface ?_ | refine ALe.clo ?_ | refine CLe.cons ?_ ?_ | refine BLe.box ?_ | refine BLe.row ?_ | exact ALe.any _ | refine ALe.dat (PLe.of_eq ?_)))
 clear hcap
 repeat' (first
  | (show Run _ _ _ _ (Itm.code (Code.region 10 _ _) :: _) _; refine Zzh ?_)
  | refine Zag ?_
  | fail)
 refine ⟨?_⟩
 refine Zvb (Zlw [(0, .dat dvA), (2, .dat (dvM q)), (3, Ybm), (5, .ptr 5 0), (11, .dat (.val (.int .i64 (cap : Int)))), (38, .dat (.val (.bool false)))]
  ((5, .box 321 [.dat (dvM p)]) :: cTb p q (.dat (.val (.int .i64 0))) (.dat (.val (.int .i64 0))))) ?_ ?_
 ·by_cases h1 : p.length = 0
  ·have g1 : decide ((p.length : Int) = 0) = true := decide_eq_true (by omega)
   have h2 : q.length ≠ 0 := fun h2 => hpq.elim (fun h => h (List.eq_nil_of_length_eq_zero h1)) (fun h => h (List.eq_nil_of_length_eq_zero h2))
   have g2 : decide ((q.length : Int) = 0) = false := decide_eq_false (by omega)
   repeat' (first
  | (refine Zao rfl ?_; first | refine Zai rfl rfl ?_ | refine Za1 rfl rfl rfl rfl ?_ | refine Zfv rfl rfl (by first | rfl | assumption) rfl ?_)
  | refine Zac ?_
  | refine Zab ?_
  | (refine Zc0 rfl rfl (by first | rfl | assumption) ?_; first | refine Zai rfl rfl ?_ | refine Za1 rfl rfl rfl rfl ?_)
  | fail)
   refine Zg2 id ?_
   (refine ⟨?_, ?_, by rfl⟩ <;> repeat' (first | exact trivial | exact ALe.ptr rfl | exact ALe.own rfl | exact ALe.elt rfl | exact BLe.boxD _ _ | exact BLe.row rfl | exact BLe.res | exact BLe.dead rfl | exact ALe.dat (PLe.refl _) | exact CLe.nil | refine And.intro ?_ ?_ | refine ALe.iface ?_ | refine ALe.clo ?_ | refine CLe.cons ?_ ?_ | refine BLe.box ?_ | refine BLe.row ?_ | exact ALe.any _ | refine ALe.dat (PLe.of_eq ?_)))
   all_goals (rw [g2])
  ·have g1 : decide ((p.length : Int) = 0) = false := decide_eq_false (by omega)
   repeat' (first
  | (refine Zao rfl ?_; first | refine Zai rfl rfl ?_ | refine Za1 rfl rfl rfl rfl ?_ | refine Zen rfl rfl (by first | rfl | assumption) rfl ?_)
  | refine Zac ?_
  | refine Zab ?_
  | refine Zez rfl rfl (by first | rfl | assumption) rfl ?_
  | fail)
   refine Zg2 id ?_
   (refine ⟨?_, ?_, by rfl⟩ <;> repeat' (first | exact trivial | exact ALe.ptr rfl | exact ALe.own rfl | exact ALe.elt rfl | exact BLe.boxD _ _ | exact BLe.row rfl | exact BLe.res | exact BLe.dead rfl | exact ALe.dat (PLe.refl _) | exact CLe.nil | refine And.intro ?_ ?_ | refine ALe.iface ?_ | refine ALe.clo ?_ | refine CLe.cons ?_ ?_ | refine BLe.box ?_ | refine BLe.row ?_ | exact ALe.any _ | refine ALe.dat (PLe.of_eq ?_)))
 repeat' (first
  | refine Zag ?_
  | (refine Zao rfl ?_; first | refine Zoc rfl rfl rfl rfl (by kernel_rfl) hc1 hc2 ?_ | refine Zai rfl rfl ?_ | refine Zbj rfl rfl rfl (by first | rfl | (simp only [Zap]; rfl)) ?_ | refine Zcs rfl rfl rfl rfl rfl ?_ | refine Zlr rfl rfl ?_ | refine Zf9 rfl ?_ | refine Zcc rfl rfl rfl (by kernel_rfl) (by exact NilIs.ifc) rfl ?_)
  | refine Zac ?_
  | refine Zab ?_
  | refine Zam rfl (by first | rfl | assumption) ?_
  | refine Zal rfl (by first | rfl | assumption) ?_
  | refine Zat ?_
  | fail)
 refine Zao rfl (Ydy (thk [(1000, _), (1001, _)] 200) rfl rfl (by kernel_rfl) hI1 rfl ⟨rfl, rfl, trivial⟩ rfl (fun _ => Zaj rfl) (fun _ => rfl) (fun q1 => ?_))
 have hq1l : q1.1.length = p.length := by have := q1.2.length_eq; simpa using this
 have hI2 := Yl9 p q ([] ++ q1.1) hq (by simp [hq1l]; omega)
 repeat' (first
  | refine Zag ?_
  | (refine Zao rfl ?_; first | refine Zai rfl rfl ?_ | refine Zf9 rfl ?_ | refine Zcc rfl rfl rfl (by kernel_rfl) (by exact NilIs.ifc) rfl ?_)
  | refine Zac ?_
  | refine Zab ?_
  | refine Zam rfl (by first | rfl | assumption) ?_
  | fail)
 refine Zao rfl (Ydy (thk [(1000, _), (1001, _), (1002, _)] 350) rfl rfl (by kernel_rfl) hI2 rfl ⟨rfl, rfl, rfl, trivial⟩ rfl (fun _ => Zaj rfl) (fun _ => rfl) (fun q2 => ?_))
 obtain ⟨L0, hL0⟩ : ∃ L0, L0 = [] ++ q1.1 ++ q2.1 := ⟨_, rfl⟩
 have hmem : ∀ k, k ∈ L0 ↔ k ∈ K := by
  intro k
  rw [hL0, hKm, List.nil_append, List.mem_append, q1.2.mem_iff, q2.2.mem_iff, List.mem_filter]
  constructor
  ·rintro (h | h)
   ·exact .inl h
   ·exact .inr h.1
  ·rintro (h | h)
   ·exact .inl h
   ·by_cases hk : k ∈ p.map (·.1)
    ·exact .inl hk
    ·refine .inr ⟨h, ?_⟩
     rw [Zhu, Zew (fun e he hek => hk (by rw [← hek]; exact List.mem_map_of_mem (f := (·.1)) he))]
     rfl
 have hnd0 : L0.Nodup := by
  rw [hL0, List.nil_append, List.nodup_append]
  refine ⟨q1.2.nodup_iff.2 hp, q2.2.nodup_iff.2 (hq.filter _), fun a ha b hb e => ?_⟩
  subst e
  have h1 := q1.2.mem_iff.1 ha
  have h2 := (List.mem_filter.1 (q2.2.mem_iff.1 hb)).2
  obtain ⟨y, hy, rfl⟩ := List.mem_map.1 h1
  rw [Zhu, Zgg hp (show (y.1, y.2) ∈ p from hy)] at h2
  cases h2
 have hne0 : 1 ≤ L0.length := by
  have : ∃ k, k ∈ K := by
   rcases hpq with h | h
   ·cases p with
    | nil => exact absurd rfl h
    | cons y r => exact ⟨y.1, (hKm _).2 (.inl (by simp))⟩
   ·cases q with
    | nil => exact absurd rfl h
    | cons y r => exact ⟨y.1, (hKm _).2 (.inr (by simp))⟩
  obtain ⟨k, hk⟩ := this
  exact List.length_pos_of_mem ((hmem k).2 hk)
 have hlen0 : L0.length ≤ 140737488351232 := by
  have h2 := q2.2.length_eq
  have h3 := List.length_filter_le (fun k => !(lkJ p k).isSome) (q.map (·.1))
  simp at h2 h3
  rw [hL0]; simp [hq1l]; omega
 repeat' (first
  | refine Zag ?_
  | (refine Zao rfl ?_; refine Zad rfl rfl ?_)
  | refine Zac ?_
  | refine Zab ?_
  | refine Zax ?_
  | fail)
 refine Zaq (ι := { x : List ByteArray × Nat // x.1.Perm L0 ∧ 1 ≤ x.2 ∧ x.2 ≤ x.1.length ∧ Zf0 (x.1.take x.2) })
  (fun x => [(0, .dat dvA), (2, .dat (dvM q)), (3, Ybm), (5, .ptr 5 0), (12, .ptr 12 0), (13, .dat (.val (.int .i64 (x.1.2 : Nat))))])
  (fun x => [(5, .box 321 [.dat (dvM p)]), (12, .box 24 [.own 350]), (350, .row 9 1 16 (pdS x.1.1))] ++ cTb p q (.dat (.val (.int .i64 0))) (.dat (.val (.int .i64 0))))
  (fun x => L0.length - x.1.2) ⟨(L0, 1), .refl _, Nat.le_refl _, hne0, by
   cases L0 with
   | nil => simp at hne0
   | cons x r => simp [Zf0]⟩ id ?_ ?_
 ·(refine ⟨?_, ?_, by rfl⟩ <;> repeat' (first | exact trivial | exact ALe.ptr rfl | exact ALe.own rfl | exact ALe.elt rfl | exact BLe.boxD _ _ | exact BLe.row rfl | exact BLe.res | exact BLe.dead rfl | exact ALe.dat (PLe.refl _) | exact CLe.nil | refine And.intro ?_ ?_ | refine ALe.iface ?_ | refine ALe.clo ?_ | refine CLe.cons ?_ ?_ | refine BLe.box ?_ | refine BLe.row ?_ | exact ALe.any _ | refine ALe.dat (PLe.of_eq ?_)))
  all_goals (first | (show pdS ([] ++ q1.1 ++ q2.1) = pdS L0; rw [hL0]) | rfl)
 rintro ⟨⟨L, i⟩, hperm, hi1, hi2, hinc⟩
 have hperm : L.Perm L0 := hperm
 have hi1 : 1 ≤ i := hi1
 have hi2 : i ≤ L.length := hi2
 have hinc : Zf0 (L.take i) := hinc
 have hLl : L.length = L0.length := hperm.length_eq
 have hps := Zdj L
 by_cases hlt : i < L.length
 ·have g : decide ((i : Int) < (((pdS L).length : Nat) : Int)) = true := by rw [hps]; simpa using hlt
  repeat' (first
  | refine Zag ?_
  | (refine Zao rfl ?_; first | refine Zad rfl rfl ?_ | refine Zai rfl rfl ?_ | refine Za1 rfl rfl rfl rfl ?_ | refine Zkv rfl rfl rfl rfl ?_ | refine Ydz rfl rfl rfl ?_)
  | refine Zac ?_
  | refine Zab ?_
  | refine Zam rfl (by first | rfl | assumption) ?_
  | refine Zax ?_
  | refine Zat ?_
  | fail)
  refine Zaq (ι := { x : List ByteArray × ByteArray × List ByteArray // (x.1 ++ x.2.1 :: (x.2.2 ++ L.drop (i + 1))).Perm L0 ∧ x.1.length + x.2.2.length = i ∧ Zf0 (x.1 ++ x.2.2) ∧ ∀ b ∈ x.2.2, blt x.2.1 b = true })
   (fun x => [(0, .dat dvA), (2, .dat (dvM q)), (3, Ybm), (5, .ptr 5 0), (12, .ptr 12 0), (13, .dat (.val (.int .i64 (i : Nat)))), (14, .dat (.val (.int .i64 (x.1.1.length : Nat))))])
   (fun x => [(5, .box 321 [.dat (dvM p)]), (12, .box 24 [.own 350]), (350, .row 9 1 16 (pdS (x.1.1 ++ x.1.2.1 :: (x.1.2.2 ++ L.drop (i + 1)))))] ++ cTb p q (.dat (.val (.int .i64 0))) (.dat (.val (.int .i64 0))))
   (fun x => x.1.1.length) ⟨(L.take i, L[i], []), by simpa [List.take_append_drop] using hperm, by simp; omega, by simpa using hinc, by simp⟩ id ?_ ?_
  ·(refine ⟨?_, ?_, by rfl⟩ <;> repeat' (first | exact trivial | exact ALe.ptr rfl | exact ALe.own rfl | exact ALe.elt rfl | exact BLe.boxD _ _ | exact BLe.row rfl | exact BLe.res | exact BLe.dead rfl | exact ALe.dat (PLe.refl _) | exact CLe.nil | refine And.intro ?_ ?_ | refine ALe.iface ?_ | refine ALe.clo ?_ | refine CLe.cons ?_ ?_ | refine BLe.box ?_ | refine BLe.row ?_ | exact ALe.any _ | refine ALe.dat (PLe.of_eq ?_)))
   all_goals (first | rfl | (simp [List.length_take]; done) | (simp [List.length_take]; omega))
  rintro ⟨⟨A, x, B⟩, hperm2, hab, hinc2, hB⟩
  have hperm2 : (A ++ x :: (B ++ L.drop (i + 1))).Perm L0 := hperm2
  have hab : A.length + B.length = i := hab
  have hinc2 : Zf0 (A ++ B) := hinc2
  have hB : ∀ b ∈ B, blt x b = true := hB
  have hll : (A ++ x :: (B ++ L.drop (i + 1))).length = L0.length := hperm2.length_eq
  generalize L.drop (i + 1) = R at *
  rcases List.eq_nil_or_concat A with rfl | ⟨A', y, rfl⟩
  ·have g1 : decide ((0 : Int) < ((([] : List ByteArray).length : Nat) : Int)) = false := rfl
   repeat' (first
  | refine Zag ?_
  | (refine Zao rfl ?_; first | refine Zad rfl rfl ?_ | refine Zai rfl rfl ?_ | refine Zh5 rfl rfl rfl rfl (by first | omega | (dsimp only; omega)) ?_)
  | refine Zac ?_
  | refine Zab ?_
  | refine Zal rfl (by first | rfl | assumption) ?_
  | refine Zbr ?_
  | refine Ze2 rfl ?_
  | refine Zfr (by kernel_rfl) ?_
  | refine Znm (And.intro (by kernel_rfl) ?_)
  | refine Zbm (Zjr rfl rfl) ?_
  | refine Zbm (Zif rfl rfl rfl rfl) ?_
  | refine Zbm (Ycs rfl rfl (by first | rfl | assumption) rfl) ?_
  | refine Yb4 rfl (by first | rfl | assumption) rfl ?_
  | fail)
   refine Zah ?_
   refine ⟨⟨([] ++ x :: (B ++ R), i + 1), hperm2, by omega, by rw [hll, ← hLl]; omega, ?_⟩, id, by show L0.length - (i + 1) < L0.length - i; omega, ?_⟩
   ·show Zf0 (([] ++ x :: (B ++ R)).take (i + 1))
    rw [Zzn hab]
    exact Zyl hinc2 hB (fun y h => by simp at h)
   (refine ⟨?_, ?_, by rfl⟩ <;> repeat' (first | exact trivial | exact ALe.ptr rfl | exact ALe.own rfl | exact ALe.elt rfl | exact BLe.boxD _ _ | exact BLe.row rfl | exact BLe.res | exact BLe.dead rfl | exact ALe.dat (PLe.refl _) | exact CLe.nil | refine And.intro ?_ ?_ | refine ALe.iface ?_ | refine ALe.clo ?_ | refine CLe.cons ?_ ?_ | refine BLe.box ?_ | refine BLe.row ?_ | exact ALe.any _ | refine ALe.dat (PLe.of_eq ?_)))
  ·simp only [List.concat_eq_append] at *
   have hal : (A' ++ [y]).length = A'.length + 1 := by simp
   have g1 : decide ((0 : Int) < (((A' ++ [y]).length : Nat) : Int)) = true := decide_eq_true (by omega)
   have z0 : (((A' ++ [y]).length : Nat) : Int) = (((A' ++ [y]).length : Nat) : Int) := rfl
   have z1 : (((A' ++ [y]).length : Nat) : Int) - 1 = ((A'.length : Nat) : Int) := by rw [hal]; omega
   have hx : (pdS (A' ++ [y] ++ x :: (B ++ R)))[(A' ++ [y]).length]? = some (.val (.string x)) := Zgz (by rw [List.getElem?_append_right (Nat.le_refl _)]; simp)
   have hy : (pdS (A' ++ [y] ++ x :: (B ++ R)))[A'.length]? = some (.val (.string y)) := Zgz (by simp)
   have l0 : (A' ++ [y]).length < (pdS (A' ++ [y] ++ x :: (B ++ R))).length := (List.getElem?_eq_some_iff.1 hx).1
   have l1 : A'.length < (pdS (A' ++ [y] ++ x :: (B ++ R))).length := (List.getElem?_eq_some_iff.1 hy).1
   cases hb : blt x y with
   | true =>
    have l2 : A'.length < ((pdS (A' ++ [y] ++ x :: (B ++ R))).set (A' ++ [y]).length (.val (.string y))).length := by rw [List.length_set]; exact l1
    have hsw : ((pdS (A' ++ [y] ++ x :: (B ++ R))).set (A' ++ [y]).length (.val (.string y))).set A'.length (.val (.string x)) = pdS (A' ++ x :: (y :: B ++ R)) := by
     rw [hal, show A' ++ [y] ++ x :: (B ++ R) = A' ++ y :: x :: (B ++ R) by simp, Ynp]
     simp
    repeat' (first
  | refine Zag ?_
  | (refine Zao rfl ?_; first | refine Zad rfl rfl ?_ | refine Zai rfl rfl ?_ | refine Zh5 rfl rfl rfl rfl (by first | omega | (dsimp only; omega)) ?_)
  | refine Zac ?_
  | refine Zab ?_
  | refine Zam rfl (by first | rfl | assumption) ?_
  | refine Zax ?_
  | refine Zbr ?_
  | refine Zat ?_
  | refine Zfr (by kernel_rfl) ?_
  | refine Znm (And.intro (by kernel_rfl) ?_)
  | refine Zbm (Zmy rfl rfl rfl rfl (by assumption) (by assumption)) ?_
  | refine Zbm (Zrh rfl rfl rfl (by assumption)) ?_
  | refine Zbm (Zx1 rfl rfl (by assumption) rfl) ?_
  | refine Zbm (Zjr rfl rfl) ?_
  | refine Zbm (Zif rfl rfl rfl rfl) ?_
  | refine Zbm (Zv5 rfl rfl (by first | rfl | assumption) rfl) ?_
  | refine Zbm (Zxu rfl rfl rfl rfl (by first | omega | (dsimp only; omega))) ?_
  | refine Zbm (Zm0 rfl rfl rfl rfl) ?_
  | refine Ze4 rfl (by first | rfl | assumption) (Zmy rfl rfl rfl rfl (by assumption) (by assumption)) ?_
  | refine Ze4 rfl (by first | rfl | assumption) (Zrh rfl rfl rfl (by assumption)) ?_
  | refine Ze4 rfl (by first | rfl | assumption) (Zjr rfl rfl) ?_
  | refine Ze4 rfl (by first | rfl | assumption) (Zif rfl rfl rfl rfl) ?_
  | refine Ze4 rfl (by first | rfl | assumption) (Zxu rfl rfl rfl rfl (by first | omega | (dsimp only; omega))) ?_
  | refine Ze4 rfl (by first | rfl | assumption) (Zm0 rfl rfl rfl rfl) ?_
  | fail)
    refine Zah ?_
    refine ⟨⟨(A', x, y :: B), ?_, by simp at hab ⊢; omega, by simpa using hinc2, ?_⟩, id, by show A'.length < (A' ++ [y]).length; omega, ?_⟩
    ·refine List.Perm.trans ?_ hperm2
     show (A' ++ x :: (y :: B ++ R)).Perm (A' ++ [y] ++ x :: (B ++ R))
     rw [show A' ++ [y] ++ x :: (B ++ R) = A' ++ (y :: x :: (B ++ R)) by simp, show A' ++ x :: (y :: B ++ R) = A' ++ (x :: y :: (B ++ R)) by simp]
     exact (List.Perm.swap y x _).append_left A'
    ·intro b hb'
     rcases List.mem_cons.1 hb' with rfl | hb'
     ·exact hb
     ·exact hB b hb'
    (refine ⟨?_, ?_, by rfl⟩ <;> repeat' (first | exact trivial | exact ALe.ptr rfl | exact ALe.own rfl | exact ALe.elt rfl | exact BLe.boxD _ _ | exact BLe.row rfl | exact BLe.res | exact BLe.dead rfl | exact ALe.dat (PLe.refl _) | exact CLe.nil | refine And.intro ?_ ?_ | refine ALe.iface ?_ | refine ALe.clo ?_ | refine CLe.cons ?_ ?_ | refine BLe.box ?_ | refine BLe.row ?_ | exact ALe.any _ | refine ALe.dat (PLe.of_eq ?_)))
    all_goals first | exact congrArg _ (congrArg _ z1) | exact hsw | rw [z1] | rw [hsw]
   | false =>
    repeat' (first
  | refine Zag ?_
  | (refine Zao rfl ?_; first | refine Zad rfl rfl ?_ | refine Zai rfl rfl ?_ | refine Zh5 rfl rfl rfl rfl (by first | omega | (dsimp only; omega)) ?_)
  | refine Zac ?_
  | refine Zab ?_
  | refine Zal rfl (by first | rfl | assumption) ?_
  | refine Zbr ?_
  | refine Ze2 rfl ?_
  | refine Zfr (by kernel_rfl) ?_
  | refine Znm (And.intro (by kernel_rfl) ?_)
  | refine Zbm (Zjr rfl rfl) ?_
  | refine Zbm (Zif rfl rfl rfl rfl) ?_
  | refine Zbm (Zv5 rfl rfl (by first | rfl | assumption) rfl) ?_
  | refine Ze4 rfl (by first | rfl | assumption) (Zmy rfl rfl rfl rfl (by assumption) (by assumption)) ?_
  | refine Ze4 rfl (by first | rfl | assumption) (Zrh rfl rfl rfl (by assumption)) ?_
  | refine Ze4 rfl (by first | rfl | assumption) (Zjr rfl rfl) ?_
  | refine Ze4 rfl (by first | rfl | assumption) (Zif rfl rfl rfl rfl) ?_
  | refine Ze4 rfl (by first | rfl | assumption) (Zxu rfl rfl rfl rfl (by first | omega | (dsimp only; omega))) ?_
  | refine Ze4 rfl (by first | rfl | assumption) (Zm0 rfl rfl rfl rfl) ?_
  | fail)
    refine Zah ?_
    refine ⟨⟨(A' ++ [y] ++ x :: (B ++ R), i + 1), hperm2, by omega, by rw [hll, ← hLl]; omega, ?_⟩, id, by show L0.length - (i + 1) < L0.length - i; omega, ?_⟩
    ·show Zf0 ((A' ++ [y] ++ x :: (B ++ R)).take (i + 1))
     rw [Zzn hab]
     refine Zyl hinc2 hB (fun z hz => ?_)
     simp at hz
     subst hz
     cases hbb : blt y x with
     | true => rfl
     | false =>
      have := Zgb hb hbb
      subst this
      have hnd2 : (A' ++ [x] ++ x :: (B ++ R)).Nodup := hperm2.nodup_iff.2 hnd0
      simp [List.nodup_append] at hnd2
    (refine ⟨?_, ?_, by rfl⟩ <;> repeat' (first | exact trivial | exact ALe.ptr rfl | exact ALe.own rfl | exact ALe.elt rfl | exact BLe.boxD _ _ | exact BLe.row rfl | exact BLe.res | exact BLe.dead rfl | exact ALe.dat (PLe.refl _) | exact CLe.nil | refine And.intro ?_ ?_ | refine ALe.iface ?_ | refine ALe.clo ?_ | refine CLe.cons ?_ ?_ | refine BLe.box ?_ | refine BLe.row ?_ | exact ALe.any _ | refine ALe.dat (PLe.of_eq ?_)))
 have g : decide ((i : Int) < (((pdS L).length : Nat) : Int)) = false := by rw [hps]; simpa using hlt
 have hLK : L = K := Zrv (by rw [List.take_of_length_le (by omega)] at hinc; exact hinc) hK (fun k => (hperm.mem_iff).trans (hmem k))
 subst hLK
 obtain ⟨C, hC0⟩ : ∃ C, C = Zjp f p q 0 L := ⟨_, rfl⟩
 rw [← hC0]
 repeat' (first
  | refine Zag ?_
  | (refine Zao rfl ?_; first | refine Zai rfl rfl ?_ | refine Za1 rfl rfl rfl rfl ?_ | refine Zkv rfl rfl rfl rfl ?_ | refine Ydz rfl rfl rfl ?_)
  | refine Zac ?_
  | refine Zab ?_
  | refine Zal rfl (by first | rfl | assumption) ?_
  | refine Zax ?_
  | refine Ze2 rfl ?_
  | fail)
 refine Zaq (ι := { j : Nat // j ≤ L.length ∧ C = Zjp f p q j (L.drop j) })
  (fun j => [(0, .dat dvA), (2, .dat (dvM q)), (3, Ybm), (5, .ptr 5 0), (92, .own 350), (93, .dat (.val (.int .i64 ((pdS L).length : Nat)))), (94, .dat (.val (.int .i64 (j.1 : Nat))))])
  (fun j => [(5, .box 321 [.dat (dvM p)]), (350, .row 9 1 16 (pdS L))] ++ cTb p q (.dat (.val (.int .i64 (j.1 : Nat)))) (.dat (.val (.int .i64 0))))
  (fun j => L.length - j.1) ⟨0, Nat.zero_le _, hC0⟩ id ?_ ?_
 ·(refine ⟨?_, ?_, by rfl⟩ <;> repeat' (first | exact trivial | exact ALe.ptr rfl | exact ALe.own rfl | exact ALe.elt rfl | exact BLe.boxD _ _ | exact BLe.row rfl | exact BLe.res | exact BLe.dead rfl | exact ALe.dat (PLe.refl _) | exact CLe.nil | refine And.intro ?_ ?_ | refine ALe.iface ?_ | refine ALe.clo ?_ | refine CLe.cons ?_ ?_ | refine BLe.box ?_ | refine BLe.row ?_ | exact ALe.any _ | refine ALe.dat (PLe.of_eq ?_)))
 rintro ⟨j, hj, hcj⟩
 by_cases hjl : j < L.length
 ·have g2 : decide ((j : Int) < (((pdS L).length : Nat) : Int)) = true := by rw [hps]; simpa using hjl
  obtain ⟨k, hk⟩ : ∃ k, L[j]? = some k := ⟨_, List.getElem?_eq_getElem hjl⟩
  have i1 : (pdS L)[j]? = some (.val (.string k)) := Zgz hk
  have i2 : j < (pdS L).length := by rw [hps]; exact hjl
  have z0 : ((j : Nat) : Int) = ((j : Nat) : Int) := rfl
  have hC := Yo1 f p q j k (by omega) (hE k)
  have hg1 := Ypn p k
  have hg2 := Ypn q k
  have hd : L.drop j = k :: L.drop (j + 1) := by
   rw [List.drop_eq_getElem_cons hjl]
   rw [List.getElem?_eq_getElem hjl] at hk
   rw [Option.some.inj hk]
  rw [hd] at hcj
  simp only [Zjp] at hcj
  generalize Zfd f p q j k = c at *
  have hn1 := Zzr (lkJ p k)
  have hn2 := Zzr (lkJ q k)
  generalize lkJ p k = o1 at *
  generalize lkJ q k = o2 at *
  by_cases hc : c = 0
  ·have g3 : (!decide (c = 0)) = false := by simp [hc]
   rw [if_pos hc] at hcj
   repeat' (first
  | refine Zag ?_
  | (refine Zao rfl ?_; first | refine Zrz rfl rfl rfl rfl (by assumption) (by assumption) ?_ | refine Zwl rfl rfl rfl (by assumption) ?_ | refine Zad rfl rfl ?_ | refine Zai rfl rfl ?_ | refine Zbj rfl rfl rfl (by first | rfl | (simp only [Zap]; rfl)) ?_ | refine Za1 rfl rfl rfl rfl ?_ | refine Zb7 rfl rfl rfl ?_ | refine Zcc rfl rfl rfl (by kernel_rfl) (by first | exact NilIs.ptr | exact NilIs.none | exact NilIs.nilI | assumption) rfl ?_ | refine Zc6 rfl rfl ?_ | refine Zh5 rfl rfl rfl rfl (by first | omega | (dsimp only; omega)) ?_ | refine Zik (thk [(1000, _), (1001, _), (1002, _), (1003, _), (1004, _)] 200) rfl rfl (by kernel_rfl) (hC) rfl ⟨rfl, ⟨rfl, ⟨rfl, ⟨rfl, ⟨rfl, trivial⟩⟩⟩⟩⟩ rfl (Zaj rfl) rfl ?_ | refine Zdl rfl rfl (by kernel_rfl) rfl (by first | exact hg1 | exact hg2 | exact Yj3 _) ?_ | refine Zht rfl rfl ?_ | refine Zcc rfl rfl rfl (by kernel_rfl) (by exact NilIs.ifc) rfl ?_)
  | refine Zac ?_
  | refine Zab ?_
  | refine Zam rfl (by first | rfl | assumption) ?_
  | refine Zal rfl (by first | rfl | assumption) ?_
  | refine Znb rfl (fun h => ?_) (fun h => ?_)
  | refine Zax ?_
  | refine Zbr ?_
  | refine Zat ?_
  | fail)
   all_goals
    refine Zah ?_
    refine ⟨⟨j + 1, by omega, hcj⟩, id, by simp only; omega, ?_⟩
    (refine ⟨?_, ?_, by rfl⟩ <;> repeat' (first | exact trivial | exact ALe.ptr rfl | exact ALe.own rfl | exact ALe.elt rfl | exact BLe.boxD _ _ | exact BLe.row rfl | exact BLe.res | exact BLe.dead rfl | exact ALe.dat (PLe.refl _) | exact CLe.nil | refine And.intro ?_ ?_ | refine ALe.iface ?_ | refine ALe.clo ?_ | refine CLe.cons ?_ ?_ | refine BLe.box ?_ | refine BLe.row ?_ | exact ALe.any _ | refine ALe.dat (PLe.of_eq ?_)))
    all_goals (first | rfl | (rw [hc]) | simp)
  ·have g3 : (!decide (c = 0)) = true := by simp [hc]
   rw [if_neg hc] at hcj
   subst hcj
   repeat' (first
  | refine Zag ?_
  | (refine Zao rfl ?_; first | refine Zrz rfl rfl rfl rfl (by assumption) (by assumption) ?_ | refine Zwl rfl rfl rfl (by assumption) ?_ | refine Zad rfl rfl ?_ | refine Zai rfl rfl ?_ | refine Zbj rfl rfl rfl (by first | rfl | (simp only [Zap]; rfl)) ?_ | refine Za1 rfl rfl rfl rfl ?_ | refine Zb7 rfl rfl rfl ?_ | refine Zcc rfl rfl rfl (by kernel_rfl) (by first | exact NilIs.ptr | exact NilIs.none | exact NilIs.nilI | assumption) rfl ?_ | refine Zc6 rfl rfl ?_ | refine Zik (thk [(1000, _), (1001, _), (1002, _), (1003, _), (1004, _)] 200) rfl rfl (by kernel_rfl) (hC) rfl ⟨rfl, ⟨rfl, ⟨rfl, ⟨rfl, ⟨rfl, trivial⟩⟩⟩⟩⟩ rfl (Zaj rfl) rfl ?_ | refine Zdl rfl rfl (by kernel_rfl) rfl (by first | exact hg1 | exact hg2 | exact Yj3 _) ?_ | refine Zht rfl rfl ?_ | refine Zcc rfl rfl rfl (by kernel_rfl) (by exact NilIs.ifc) rfl ?_)
  | refine Zac ?_
  | refine Zab ?_
  | refine Zam rfl (by first | rfl | assumption) ?_
  | refine Znb rfl (fun h => ?_) (fun h => ?_)
  | refine Zax ?_
  | refine Zat ?_
  | fail)
   all_goals
    refine Za4 () id (tm := [(8, .dat (.val (.bool (decide (C = 0)))))]) ?_ (Za9 rfl rfl)
    (refine ⟨?_, ?_, by rfl⟩ <;> repeat' (first | exact trivial | exact ALe.ptr rfl | exact ALe.own rfl | exact ALe.elt rfl | exact BLe.boxD _ _ | exact BLe.row rfl | exact BLe.res | exact BLe.dead rfl | exact ALe.dat (PLe.refl _) | exact CLe.nil | refine And.intro ?_ ?_ | refine ALe.iface ?_ | refine ALe.clo ?_ | refine CLe.cons ?_ ?_ | refine BLe.box ?_ | refine BLe.row ?_ | exact ALe.any _ | refine ALe.dat (PLe.of_eq ?_)))
    all_goals (rw [show decide (C = 0) = false from decide_eq_false hc])
 ·have g2 : decide ((j : Int) < (((pdS L).length : Nat) : Int)) = false := by rw [hps]; simpa using hjl
  have e : C = 0 := by rw [hcj, List.drop_eq_nil_of_le (by omega)]; rfl
  subst e
  repeat' (first
  | refine Zag ?_
  | (refine Zao rfl ?_; first | refine Zad rfl rfl ?_ | refine Za1 rfl rfl rfl rfl ?_)
  | refine Zac ?_
  | refine Zab ?_
  | refine Zal rfl (by first | rfl | assumption) ?_
  | refine Ze2 rfl ?_
  | fail)
  refine Za4 () id (tm := [(8, .dat (.val (.bool true)))]) ?_ (Za9 rfl rfl)
  (refine ⟨?_, ?_, by rfl⟩ <;> repeat' (first | exact trivial | exact ALe.ptr rfl | exact ALe.own rfl | exact ALe.elt rfl | exact BLe.boxD _ _ | exact BLe.row rfl | exact BLe.res | exact BLe.dead rfl | exact ALe.dat (PLe.refl _) | exact CLe.nil | refine And.intro ?_ ?_ | refine ALe.iface ?_ | refine ALe.clo ?_ | refine CLe.cons ?_ ?_ | refine BLe.box ?_ | refine BLe.row ?_ | exact ALe.any _ | refine ALe.dat (PLe.of_eq ?_)))
theorem Ylm {w : World} {F : Nat → Prop} {l1 l2 : List JV} {vs : List Value} (hvs : Reps w F [dvA, dvL l1, dvL l2] vs) : l1.length * 16 ≤ 140737488351232 ∧ l2.length * 16 ≤ 140737488351232 := by
 unfold Reps at hvs; obtain ⟨_, _, _, _, hvs⟩ := hvs
 unfold Reps at hvs; obtain ⟨_, _, _, hv1, hvs⟩ := hvs
 unfold Reps at hvs; obtain ⟨_, _, _, hv2, _⟩ := hvs
 unfold dvL Rep at hv1 hv2
 obtain ⟨_, _, hv1⟩ := hv1
 obtain ⟨_, _, hv2⟩ := hv2
 exact ⟨Zrj hv1, Zrj hv2⟩
theorem Yih (f : JV → JV → Int) (l1 l2 : List JV) (hE : ∀ x ∈ l1, ∀ y ∈ l2, PCall Tryz.prog 237 [dvA, dvV x, dvV y] (.val (.int .i64 (f x y)))) : PCall Tryz.prog 251 [dvA, dvL l1, dvL l2] (.val (.int .i64 (Zgd f l1 l2))) := by
 refine PCall.ex fun w F vs hvs => ?_
 obtain ⟨hlen1, hlen2⟩ := Ylm hvs
 clear hvs vs F w
 refine Zaa Tryz.func251 rfl Tryz.ntmps251 rfl (fun X => ?_)
 by_cases hn : l1 = []
 ·subst hn
  by_cases hn2 : l2 = []
  ·subst hn2
   repeat' (first
  | refine Zag ?_
  | (refine Zao rfl ?_; first | refine Zad rfl rfl ?_ | refine Zai rfl rfl ?_ | refine Zdl rfl rfl (by kernel_rfl) rfl (by first | exact Zhj) ?_ | refine Zgx rfl rfl ?_ | refine Zd8 rfl Zcr ?_)
  | refine Zac ?_
  | refine Zab ?_
  | refine Zax ?_
  | fail)
   refine Zaq (ι := Unit) (fun _ => [(7, .dat dvE), (8, .dat dvE)]) (fun _ => []) (fun _ => 0) () id ?_ (fun _ => ?_)
   ·(refine ⟨?_, ?_, by rfl⟩ <;> repeat' (first | exact trivial | exact ALe.ptr rfl | exact ALe.own rfl | exact ALe.elt rfl | exact BLe.boxD _ _ | exact BLe.row rfl | exact BLe.res | exact BLe.dead rfl | exact ALe.dat (PLe.refl _) | exact CLe.nil | refine And.intro ?_ ?_ | refine ALe.iface ?_ | refine ALe.clo ?_ | refine CLe.cons ?_ ?_ | refine BLe.box ?_ | refine BLe.row ?_ | exact ALe.any _ | refine ALe.dat (PLe.of_eq ?_)))
   repeat' (first
  | refine Zag ?_
  | (refine Zao rfl ?_; first | refine Zad rfl rfl ?_ | refine Zai rfl rfl ?_ | refine Zfv rfl rfl (by first | rfl | assumption) rfl ?_ | refine Zc6 rfl rfl ?_ | refine Zdl rfl rfl (by kernel_rfl) rfl (by first | exact Ze7) ?_)
  | refine Zac ?_
  | refine Zab ?_
  | refine Zam rfl (by first | rfl | assumption) ?_
  | (refine Zc0 rfl rfl (by first | rfl | assumption) ?_; first | refine Zai rfl rfl ?_ | refine Zc6 rfl rfl ?_)
  | refine Zax ?_
  | refine Zak (Zan rfl rfl ?_)
  | fail)
   all_goals exact PLe.refl _
  ·have e : Zgd f [] l2 = -1 := by
    cases l2 with
    | nil => exact absurd rfl hn2
    | cons y q => rfl
   have hq2 : decide (((0 : Nat) : Int) < (l2.length : Int)) = true := by
    cases l2 with
    | nil => exact absurd rfl hn2
    | cons y q => first | (simp; done) | (simp; omega)
   have hq2n : (!decide (((0 : Nat) : Int) < (l2.length : Int))) = false := by rw [hq2]; rfl
   rw [e]
   repeat' (first
  | refine Zag ?_
  | (refine Zao rfl ?_; first | refine Zad rfl rfl ?_ | refine Zai rfl rfl ?_ | refine Za3 (thk [] 200) rfl rfl (by kernel_rfl) (Zfb _ hn2) rfl trivial rfl (Zaj rfl) rfl ?_ | refine Zdl rfl rfl (by kernel_rfl) rfl (by first | exact Zhj) ?_ | refine Zgx rfl rfl ?_ | refine Zc5 rfl rfl ?_ | refine Zdv rfl rfl ?_ | refine Zd8 rfl Zcr ?_)
  | refine Zac ?_
  | refine Zab ?_
  | refine Zax ?_
  | fail)
   refine Zaq (ι := Unit) (fun _ => [(7, .dat dvE), (8, .iface 421 (.ptr 350 0))])
    (fun _ => [(350, .box 427 [.dat (Zj4 l2), .ptr 351 0, .dat (.val (.int .i64 (((0 : Nat) : Int) - 1)))]), (351, .box 315 [.any])]) (fun _ => 0) () (thk [(350, 200), (351, 201)] 0) ?_ (fun _ => ?_)
   ·(refine ⟨?_, ?_, by rfl⟩ <;> repeat' (first | exact trivial | exact ALe.ptr rfl | exact ALe.own rfl | exact ALe.elt rfl | exact BLe.boxD _ _ | exact BLe.row rfl | exact BLe.res | exact BLe.dead rfl | exact ALe.dat (PLe.refl _) | exact CLe.nil | refine And.intro ?_ ?_ | refine ALe.iface ?_ | refine ALe.clo ?_ | refine CLe.cons ?_ ?_ | refine BLe.box ?_ | refine BLe.row ?_ | exact ALe.any _ | refine ALe.dat (PLe.of_eq ?_)))
   repeat' (first
  | refine Zag ?_
  | (refine Zao rfl ?_; first | refine Zad rfl rfl ?_ | refine Zai rfl rfl ?_ | refine Zfv rfl rfl (by first | rfl | assumption) rfl ?_ | refine Zc6 rfl rfl ?_ | refine Za3 (thk [(1000, _), (1001, _)] 200) rfl rfl (by kernel_rfl) (Zfq l2 0 (by omega)) rfl ⟨rfl, ⟨rfl, trivial⟩⟩ rfl (Zaj rfl) rfl ?_ | refine Zdl rfl rfl (by kernel_rfl) rfl (by first | exact Ze7) ?_ | refine Zdv rfl rfl ?_)
  | refine Zac ?_
  | refine Zab ?_
  | refine Zam rfl (by first | rfl | assumption) ?_
  | refine Zal rfl (by first | rfl | assumption) ?_
  | (refine Zc0 rfl rfl (by first | rfl | assumption) ?_; first | refine Zai rfl rfl ?_ | refine Zc6 rfl rfl ?_)
  | refine Zax ?_
  | refine Zat ?_
  | refine Zak (Zan rfl rfl ?_)
  | fail)
   all_goals exact PLe.refl _
 ·by_cases hn2 : l2 = []
  ·subst hn2
   have e : Zgd f l1 [] = 1 := by
    cases l1 with
    | nil => exact absurd rfl hn
    | cons y q => rfl
   have hq1 : decide (((0 : Nat) : Int) < (l1.length : Int)) = true := by
    cases l1 with
    | nil => exact absurd rfl hn
    | cons y q => first | (simp; done) | (simp; omega)
   have hq1n : (!decide (((0 : Nat) : Int) < (l1.length : Int))) = false := by rw [hq1]; rfl
   rw [e]
   repeat' (first
  | refine Zag ?_
  | (refine Zao rfl ?_; first | refine Zad rfl rfl ?_ | refine Zai rfl rfl ?_ | refine Za3 (thk [] 200) rfl rfl (by kernel_rfl) (Zfb _ hn) rfl trivial rfl (Zaj rfl) rfl ?_ | refine Zdl rfl rfl (by kernel_rfl) rfl (by first | exact Zhj) ?_ | refine Zgx rfl rfl ?_ | refine Zc5 rfl rfl ?_ | refine Zdv rfl rfl ?_ | refine Zd8 rfl Zcr ?_)
  | refine Zac ?_
  | refine Zab ?_
  | refine Zax ?_
  | fail)
   refine Zaq (ι := Unit) (fun _ => [(7, .iface 421 (.ptr 200 0)), (8, .dat dvE)])
    (fun _ => [(200, .box 427 [.dat (Zj4 l1), .ptr 201 0, .dat (.val (.int .i64 (((0 : Nat) : Int) - 1)))]), (201, .box 315 [.any])]) (fun _ => 0) () id ?_ (fun _ => ?_)
   ·(refine ⟨?_, ?_, by rfl⟩ <;> repeat' (first | exact trivial | exact ALe.ptr rfl | exact ALe.own rfl | exact ALe.elt rfl | exact BLe.boxD _ _ | exact BLe.row rfl | exact BLe.res | exact BLe.dead rfl | exact ALe.dat (PLe.refl _) | exact CLe.nil | refine And.intro ?_ ?_ | refine ALe.iface ?_ | refine ALe.clo ?_ | refine CLe.cons ?_ ?_ | refine BLe.box ?_ | refine BLe.row ?_ | exact ALe.any _ | refine ALe.dat (PLe.of_eq ?_)))
   repeat' (first
  | refine Zag ?_
  | (refine Zao rfl ?_; first | refine Zad rfl rfl ?_ | refine Zai rfl rfl ?_ | refine Zen rfl rfl (by first | rfl | assumption) rfl ?_ | refine Zc6 rfl rfl ?_ | refine Za3 (thk [(1000, _), (1001, _)] 200) rfl rfl (by kernel_rfl) (Zfq l1 0 (by omega)) rfl ⟨rfl, ⟨rfl, trivial⟩⟩ rfl (Zaj rfl) rfl ?_ | refine Zdl rfl rfl (by kernel_rfl) rfl (by first | exact Ze7) ?_ | refine Zdv rfl rfl ?_)
  | refine Zac ?_
  | refine Zab ?_
  | refine Zam rfl (by first | rfl | assumption) ?_
  | refine Zal rfl (by first | rfl | assumption) ?_
  | refine Zez rfl rfl (by first | rfl | assumption) rfl ?_
  | refine Zax ?_
  | refine Zat ?_
  | refine Zak (Zan rfl rfl ?_)
  | fail)
   all_goals exact PLe.refl _
  ·repeat' (first
  | refine Zag ?_
  | (refine Zao rfl ?_; first | refine Zad rfl rfl ?_ | refine Zai rfl rfl ?_ | refine Za3 (thk [] 200) rfl rfl (by kernel_rfl) (Zfb _ hn) rfl trivial rfl (Zaj rfl) rfl ?_ | refine Za3 (thk [] 350) rfl rfl (by kernel_rfl) (Zfb _ hn2) rfl trivial rfl (Zaj rfl) rfl ?_ | refine Zgx rfl rfl ?_ | refine Zc5 rfl rfl ?_ | refine Zdv rfl rfl ?_ | refine Zd8 rfl Zcr ?_)
  | refine Zac ?_
  | refine Zab ?_
  | refine Zax ?_
  | fail)
   refine Zaq (ι := { k : Nat // (k ≤ l1.length ∧ k ≤ l2.length) ∧ ∀ i x y, i < k → l1[i]? = some x → l2[i]? = some y → f x y = 0 })
    (fun k => [(0, .dat dvA), (7, .iface 421 (.ptr 200 0)), (8, .iface 421 (.ptr 350 0))])
    (fun k => [(200, .box 427 [.dat (Zj4 l1), .ptr 201 0, .dat (.val (.int .i64 ((k.1 : Nat) - 1 : Int)))]), (201, .box 315 [.any]),
     (350, .box 427 [.dat (Zj4 l2), .ptr 351 0, .dat (.val (.int .i64 ((k.1 : Nat) - 1 : Int)))]), (351, .box 315 [.any])])
    (fun k => l1.length - k.1) ⟨0, ⟨Nat.zero_le _, Nat.zero_le _⟩, fun i _ _ h => absurd h (Nat.not_lt_zero i)⟩ id ?_ ?_
   ·(refine ⟨?_, ?_, by rfl⟩ <;> repeat' (first | exact trivial | exact ALe.ptr rfl | exact ALe.own rfl | exact ALe.elt rfl | exact BLe.boxD _ _ | exact BLe.row rfl | exact BLe.res | exact BLe.dead rfl | exact ALe.dat (PLe.refl _) | exact CLe.nil | refine And.intro ?_ ?_ | refine ALe.iface ?_ | refine ALe.clo ?_ | refine CLe.cons ?_ ?_ | refine BLe.box ?_ | refine BLe.row ?_ | exact ALe.any _ | refine ALe.dat (PLe.of_eq ?_)))
   rintro ⟨k, ⟨hk, hk2⟩, hall⟩
   have hend : k = l1.length ∨ k = l2.length → Zgd f l1 l2 = if l1.length < l2.length then -1 else if l2.length < l1.length then 1 else 0 := fun h => Ztd (fun j u v hu hv => hall j u v (by
    have := (List.getElem?_eq_some_iff.1 hu).1
    have := (List.getElem?_eq_some_iff.1 hv).1
    omega) hu hv)
   by_cases hlt : k < l1.length
   ·have hq1 : decide ((k : Int) < (l1.length : Int)) = true := by simpa using hlt
    have hq1n : (!decide ((k : Int) < (l1.length : Int))) = false := by rw [hq1]; rfl
    by_cases hlt2 : k < l2.length
    ·have hq2 : decide ((k : Int) < (l2.length : Int)) = true := by simpa using hlt2
     have hq2n : (!decide ((k : Int) < (l2.length : Int))) = false := by rw [hq2]; rfl
     obtain ⟨x, hx⟩ : ∃ x, l1[k]? = some x := ⟨_, List.getElem?_eq_getElem hlt⟩
     obtain ⟨y, hy⟩ : ∃ y, l2[k]? = some y := ⟨_, List.getElem?_eq_getElem hlt2⟩
     have hC := hE x (List.mem_of_getElem? hx) y (List.mem_of_getElem? hy)
     by_cases hr : f x y = 0
     ·have hq3 : decide (f x y ≠ 0) = false := by simpa using hr
      repeat' (first
  | refine Zag ?_
  | (refine Zao rfl ?_; first | refine Zad rfl rfl ?_ | refine Zai rfl rfl ?_ | refine Za1 rfl rfl rfl rfl ?_ | refine Zen rfl rfl (by first | rfl | assumption) rfl ?_ | refine Zc6 rfl rfl ?_ | refine Za3 (thk [(1000, _), (1001, _)] 200) rfl rfl (by kernel_rfl) (Zfq l1 k (by omega)) rfl ⟨rfl, ⟨rfl, trivial⟩⟩ rfl (Zaj rfl) rfl ?_ | refine Za3 (thk [(1000, _), (1001, _)] 200) rfl rfl (by kernel_rfl) (Zfq l2 k (by omega)) rfl ⟨rfl, ⟨rfl, trivial⟩⟩ rfl (Zaj rfl) rfl ?_ | refine Za3 (thk [(1000, _), (1001, _)] 200) rfl rfl (by kernel_rfl) (Zmb l1 k x hx) rfl ⟨rfl, ⟨rfl, trivial⟩⟩ rfl (Zaj rfl) rfl ?_ | refine Za3 (thk [(1000, _), (1001, _)] 200) rfl rfl (by kernel_rfl) (Zmb l2 k y hy) rfl ⟨rfl, ⟨rfl, trivial⟩⟩ rfl (Zaj rfl) rfl ?_ | refine Zc5 rfl rfl ?_ | refine Zdv rfl rfl ?_ | refine Zod rfl rfl ?_ | refine Zhf rfl rfl rfl ?_ | refine Zhe rfl rfl rfl ?_ | refine Zij gV rfl (by kernel_rfl) rfl (by first | exact hC) Flat.val ?_)
  | refine Zac ?_
  | refine Zab ?_
  | refine Zal rfl (by first | rfl | assumption) ?_
  | refine Zez rfl rfl (by first | rfl | assumption) rfl ?_
  | refine Zax ?_
  | refine Zbr ?_
  | refine Zat ?_
  | fail)
      refine Zah ?_
      refine ⟨⟨k + 1, ⟨by omega, by omega⟩, ?_⟩, id, by simp only; omega, ?_⟩
      ·intro i x' y' hi hx' hy'
       by_cases e : i = k
       ·subst e
        rw [hx] at hx'; rw [hy] at hy'
        cases hx'; cases hy'
        exact hr
       ·exact hall i x' y' (by omega) hx' hy'
      (refine ⟨?_, ?_, by rfl⟩ <;> repeat' (first | exact trivial | exact ALe.ptr rfl | exact ALe.own rfl | exact ALe.elt rfl | exact BLe.boxD _ _ | exact BLe.row rfl | exact BLe.res | exact BLe.dead rfl | exact ALe.dat (PLe.refl _) | exact CLe.nil | refine And.intro ?_ ?_ | refine ALe.iface ?_ | refine ALe.clo ?_ | refine CLe.cons ?_ ?_ | refine BLe.box ?_ | refine BLe.row ?_ | exact ALe.any _ | refine ALe.dat (PLe.of_eq ?_)))
      all_goals (rw [show (((k + 1 : Nat) : Int) - 1) = k by omega])
     ·have hq3 : decide (f x y ≠ 0) = true := by simpa using hr
      rw [Zxp (fun j u v hj hu hv => hall j u v hj hu hv) hx hy hr]
      repeat' (first
  | refine Zag ?_
  | (refine Zao rfl ?_; first | refine Zad rfl rfl ?_ | refine Zai rfl rfl ?_ | refine Za1 rfl rfl rfl rfl ?_ | refine Zen rfl rfl (by first | rfl | assumption) rfl ?_ | refine Zc6 rfl rfl ?_ | refine Za3 (thk [(1000, _), (1001, _)] 200) rfl rfl (by kernel_rfl) (Zfq l1 k (by omega)) rfl ⟨rfl, ⟨rfl, trivial⟩⟩ rfl (Zaj rfl) rfl ?_ | refine Za3 (thk [(1000, _), (1001, _)] 200) rfl rfl (by kernel_rfl) (Zfq l2 k (by omega)) rfl ⟨rfl, ⟨rfl, trivial⟩⟩ rfl (Zaj rfl) rfl ?_ | refine Za3 (thk [(1000, _), (1001, _)] 200) rfl rfl (by kernel_rfl) (Zmb l1 k x hx) rfl ⟨rfl, ⟨rfl, trivial⟩⟩ rfl (Zaj rfl) rfl ?_ | refine Za3 (thk [(1000, _), (1001, _)] 200) rfl rfl (by kernel_rfl) (Zmb l2 k y hy) rfl ⟨rfl, ⟨rfl, trivial⟩⟩ rfl (Zaj rfl) rfl ?_ | refine Zc5 rfl rfl ?_ | refine Zdv rfl rfl ?_ | refine Zod rfl rfl ?_ | refine Zhf rfl rfl rfl ?_ | refine Zhe rfl rfl rfl ?_ | refine Zij gV rfl (by kernel_rfl) rfl (by first | exact hC) Flat.val ?_)
  | refine Zac ?_
  | refine Zab ?_
  | refine Zam rfl (by first | rfl | assumption) ?_
  | refine Zal rfl (by first | rfl | assumption) ?_
  | refine Zez rfl rfl (by first | rfl | assumption) rfl ?_
  | refine Zax ?_
  | refine Zat ?_
  | refine Zak (Zan rfl rfl ?_)
  | fail)
      all_goals exact PLe.refl _
    ·have hq2 : decide ((k : Int) < (l2.length : Int)) = false := by simpa using hlt2
     have hq2n : (!decide ((k : Int) < (l2.length : Int))) = true := by rw [hq2]; rfl
     rw [hend (.inr (by omega)), if_neg (by omega), if_pos (by omega)]
     repeat' (first
  | refine Zag ?_
  | (refine Zao rfl ?_; first | refine Zad rfl rfl ?_ | refine Zai rfl rfl ?_ | refine Zen rfl rfl (by first | rfl | assumption) rfl ?_ | refine Zc6 rfl rfl ?_ | refine Za3 (thk [(1000, _), (1001, _)] 200) rfl rfl (by kernel_rfl) (Zfq l1 k (by omega)) rfl ⟨rfl, ⟨rfl, trivial⟩⟩ rfl (Zaj rfl) rfl ?_ | refine Za3 (thk [(1000, _), (1001, _)] 200) rfl rfl (by kernel_rfl) (Zfq l2 k (by omega)) rfl ⟨rfl, ⟨rfl, trivial⟩⟩ rfl (Zaj rfl) rfl ?_ | refine Zdv rfl rfl ?_)
  | refine Zac ?_
  | refine Zab ?_
  | refine Zam rfl (by first | rfl | assumption) ?_
  | refine Zal rfl (by first | rfl | assumption) ?_
  | refine Zez rfl rfl (by first | rfl | assumption) rfl ?_
  | refine Zax ?_
  | refine Zat ?_
  | refine Zak (Zan rfl rfl ?_)
  | fail)
     all_goals exact PLe.refl _
   ·have hq1 : decide ((k : Int) < (l1.length : Int)) = false := by simpa using hlt
    have hq1n : (!decide ((k : Int) < (l1.length : Int))) = true := by rw [hq1]; rfl
    by_cases hlt2 : k < l2.length
    ·have hq2 : decide ((k : Int) < (l2.length : Int)) = true := by simpa using hlt2
     have hq2n : (!decide ((k : Int) < (l2.length : Int))) = false := by rw [hq2]; rfl
     rw [hend (.inl (by omega)), if_pos (by omega)]
     repeat' (first
  | refine Zag ?_
  | (refine Zao rfl ?_; first | refine Zad rfl rfl ?_ | refine Zai rfl rfl ?_ | refine Zfv rfl rfl (by first | rfl | assumption) rfl ?_ | refine Zc6 rfl rfl ?_ | refine Za3 (thk [(1000, _), (1001, _)] 200) rfl rfl (by kernel_rfl) (Zfq l1 k (by omega)) rfl ⟨rfl, ⟨rfl, trivial⟩⟩ rfl (Zaj rfl) rfl ?_ | refine Za3 (thk [(1000, _), (1001, _)] 200) rfl rfl (by kernel_rfl) (Zfq l2 k (by omega)) rfl ⟨rfl, ⟨rfl, trivial⟩⟩ rfl (Zaj rfl) rfl ?_ | refine Zdv rfl rfl ?_)
  | refine Zac ?_
  | refine Zab ?_
  | refine Zam rfl (by first | rfl | assumption) ?_
  | refine Zal rfl (by first | rfl | assumption) ?_
  | (refine Zc0 rfl rfl (by first | rfl | assumption) ?_; first | refine Zai rfl rfl ?_ | refine Zc6 rfl rfl ?_)
  | refine Zax ?_
  | refine Zat ?_
  | refine Zak (Zan rfl rfl ?_)
  | fail)
     all_goals exact PLe.refl _
    ·have hq2 : decide ((k : Int) < (l2.length : Int)) = false := by simpa using hlt2
     have hq2n : (!decide ((k : Int) < (l2.length : Int))) = true := by rw [hq2]; rfl
     rw [hend (.inl (by omega)), if_neg (by omega), if_neg (by omega)]
     repeat' (first
  | refine Zag ?_
  | (refine Zao rfl ?_; first | refine Zad rfl rfl ?_ | refine Zai rfl rfl ?_ | refine Zfv rfl rfl (by first | rfl | assumption) rfl ?_ | refine Zc6 rfl rfl ?_ | refine Za3 (thk [(1000, _), (1001, _)] 200) rfl rfl (by kernel_rfl) (Zfq l1 k (by omega)) rfl ⟨rfl, ⟨rfl, trivial⟩⟩ rfl (Zaj rfl) rfl ?_ | refine Za3 (thk [(1000, _), (1001, _)] 200) rfl rfl (by kernel_rfl) (Zfq l2 k (by omega)) rfl ⟨rfl, ⟨rfl, trivial⟩⟩ rfl (Zaj rfl) rfl ?_ | refine Zdv rfl rfl ?_)
  | refine Zac ?_
  | refine Zab ?_
  | refine Zam rfl (by first | rfl | assumption) ?_
  | (refine Zc0 rfl rfl (by first | rfl | assumption) ?_; first | refine Zai rfl rfl ?_ | refine Zc6 rfl rfl ?_)
  | refine Zax ?_
  | refine Zak (Zan rfl rfl ?_)
  | fail)
     all_goals exact PLe.refl _
def Yj6 (k : ByteArray) : List ByteArray → List ByteArray
 | [] => [k]
 | x :: r => if blt k x = true then k :: x :: r else if blt x k = true then x :: Yj6 k r else x :: r
theorem mem_insK {k z : ByteArray} : ∀ {l : List ByteArray}, z ∈ Yj6 k l ↔ z = k ∨ z ∈ l
 | [] => by simp [Yj6]
 | x :: r => by
  unfold Yj6
  split
  ·simp
  ·rename_i h1
   split
   ·simp only [List.mem_cons, mem_insK (l := r)]
    constructor
    ·rintro (h | h | h) <;> simp [h]
    ·rintro (h | h | h) <;> simp [h]
   ·rename_i h2
    have : k = x := Zgb (by simpa using h1) (by simpa using h2)
    subst this
    simp
theorem Zt6 {k : ByteArray} : ∀ {l : List ByteArray}, Zf0 l → Zf0 (Yj6 k l)
 | [], _ => by simp [Yj6, Zf0]
 | x :: r, h => by
  unfold Zf0 at h
  rw [List.pairwise_cons] at h
  unfold Yj6
  split
  ·rename_i h1
   exact List.pairwise_cons.2 ⟨fun b hb => by
    rcases List.mem_cons.1 hb with rfl | hb
    ·exact h1
    ·exact Zb6 h1 (h.1 b hb), List.pairwise_cons.2 h⟩
  ·split
   ·rename_i h2
    refine List.pairwise_cons.2 ⟨fun b hb => ?_, Zt6 h.2⟩
    rcases mem_insK.1 hb with rfl | hb
    ·exact h2
    ·exact h.1 b hb
   ·exact List.pairwise_cons.2 h
def Zld (p q : List (ByteArray × JV)) : List ByteArray := (p.map (·.1) ++ q.map (·.1)).foldr Yj6 []
theorem Zpa (p q : List (ByteArray × JV)) : Zf0 (Zld p q) := by
 unfold Zld
 induction p.map (·.1) ++ q.map (·.1) with
 | nil => simp [Zf0]
 | cons x r ih => exact Zt6 ih
theorem Zqx (p q : List (ByteArray × JV)) (k : ByteArray) : k ∈ Zld p q ↔ k ∈ p.map (·.1) ∨ k ∈ q.map (·.1) := by
 unfold Zld
 rw [← List.mem_append]
 induction p.map (·.1) ++ q.map (·.1) with
 | nil => simp
 | cons x r ih => rw [List.foldr_cons, mem_insK, ih, List.mem_cons]
def Ycb (f : JV → JV → Int) (p q : List (ByteArray × JV)) : Int := if p.length = 0 ∧ q.length = 0 then 0 else Zjp f p q 0 (Zld p q)
def Zk9 : JV → Nat
 | .int _ => 0 | .flt _ => 0 | .str _ => 1 | .bool _ => 2 | .list _ => 3 | .map _ => 4 | .null => 5
def Yje (a : List (ByteArray × JV)) (n : Nat) (T : List (ByteArray × (JV → Int))) (i : Nat) (k : ByteArray) : Int :=
 if i = a.length then -1 else if i = n then 1 else match lkJ a k, Zcw T k with
  | none, _ => 1
  | some _, none => -1
  | some x, some g => g x
def Zxo (a : List (ByteArray × JV)) (n : Nat) (T : List (ByteArray × (JV → Int))) : Nat → List ByteArray → Int
 | _, [] => 0
 | i, k :: r => if Yje a n T i k = 0 then Zxo a n T (i + 1) r else Yje a n T i k
mutual
/-- How two trees compare: as value.Compare has it. -/
def Zdb : JV → JV → Int
 | .flt a, .flt b => Yk3 a b
 | .flt a, .int n => Yk3 a (floatOfInt .f64 n)
 | .int n, .flt b => Yk3 (floatOfInt .f64 n) b
 | .int a, .int b => Zcg a b
 | .str a, .str b => Zed a b
 | .bool a, .bool b => Yo2 a b
 | .list a, .list b => Zv2 a b
 | .map a, .map b => if a.length = 0 ∧ b.length = 0 then 0 else Zxo a b.length (Yk9 b) 0 (Zld a b)
 | .null, .null => 0
 | j, k => if Zk9 j < Zk9 k then -1 else 1
termination_by _ k => SizeOf.sizeOf k
def Zv2 : List JV → List JV → Int
 | [], [] => 0
 | [], _ :: _ => -1
 | _ :: _, [] => 1
 | x :: r, y :: q => if Zdb x y = 0 then Zv2 r q else Zdb x y
termination_by _ k => SizeOf.sizeOf k
def Yk9 : List (ByteArray × JV) → List (ByteArray × (JV → Int))
 | [] => []
 | y :: q => (y.1, fun x => Zdb x y.2) :: Yk9 q
termination_by k => SizeOf.sizeOf k
decreasing_by
 all_goals simp_wf
 ·obtain ⟨y1, y2⟩ := y; simp; omega
 ·omega
end
theorem Zxn : ∀ a b : List JV, Zv2 a b = Zgd Zdb a b
 | [], [] => by simp only [Zv2, Zgd]
 | [], _ :: _ => by simp only [Zv2, Zgd]
 | _ :: _, [] => by simp only [Zv2, Zgd]
 | x :: r, y :: q => by simp only [Zv2, Zgd]; rw [Zxn r q]
theorem Zxs : ∀ (b : List (ByteArray × JV)) (k : ByteArray), Zcw (Yk9 b) k = (lkJ b k).map fun y x => Zdb x y
 | [], k => by simp [Yk9, Zcw, lkJ]
 | y :: q, k => by
  unfold Yk9
  simp only [Zcw, lkJ]
  by_cases e : y.1 = k
  ·rw [if_pos e, if_pos e]; rfl
  ·rw [if_neg e, if_neg e, Zxs q k]
theorem Yjf (a b : List (ByteArray × JV)) (i : Nat) (k : ByteArray) : Yje a b.length (Yk9 b) i k = Zfd Zdb a b i k := by
 unfold Yje Zfd
 rw [Zxs]
 split
 ·rfl
 ·split
  ·rfl
  ·cases lkJ a k <;> cases lkJ b k <;> rfl
theorem Ztc (a b : List (ByteArray × JV)) : ∀ (K : List ByteArray) (i : Nat), Zxo a b.length (Yk9 b) i K = Zjp Zdb a b i K
 | [], i => rfl
 | k :: r, i => by simp only [Zxo, Zjp]; rw [Yjf, Ztc a b r]
theorem Zxm (a b : List (ByteArray × JV)) : Zdb (.map a) (.map b) = Ycb Zdb a b := by
 unfold Zdb Ycb
 rw [Ztc]
theorem Ztb (a b : List JV) : Zdb (.list a) (.list b) = Zgd Zdb a b := by
 unfold Zdb
 exact Zxn a b
section
variable {f : JV → JV → Int} {p q : List (ByteArray × JV)} {C : Int}
theorem Yrp (h : Zb0 Tryz.prog 338 [.dat dvA, .dat (dvM p), .dat (dvM q), Ybm] (cTb p q (.dat (.val (.int .i64 0))) (.dat (.val (.int .i64 0)))) (.dat (.val (.bool (decide (C = 0))))) (cTb p q .any (.dat (.val (.int .i64 C))))) :
  Zb0 Tryz.prog 336 [.dat dvA, .dat (dvM p), .dat (dvM q), .dat (.val (.int .i64 1)), Ybm] (cTb p q (.dat (.val (.int .i64 0))) (.dat (.val (.int .i64 0)))) (.dat (.val (.bool (decide (C = 0))))) (cTb p q .any (.dat (.val (.int .i64 C)))) := by
 refine Zar Tryz.func336 rfl Tryz.ntmps336 rfl (fun X => ?_)
 have g1 : decide ((1 : Int) = 0) = false := rfl
 have g2 : decide ((1 : Int) = 1) = true := rfl
 unfold cTb at h
 repeat' (first
  | refine Zag ?_
  | (refine Zao rfl ?_; first | refine Zad rfl rfl ?_ | refine Zai rfl rfl ?_ | refine Za1 rfl rfl rfl rfl ?_ | refine Zcb (thk [(1000, _), (1001, _), (1002, _), (1003, _), (1004, _)] 200) rfl (by kernel_rfl) (h) rfl ⟨rfl, ⟨rfl, ⟨rfl, ⟨rfl, ⟨rfl, trivial⟩⟩⟩⟩⟩ rfl (Zaj rfl) rfl ?_ | refine Zht rfl rfl ?_)
  | refine Zac ?_
  | refine Zab ?_
  | refine Zam rfl (by first | rfl | assumption) ?_
  | refine Zal rfl (by first | rfl | assumption) ?_
  | refine Zax ?_
  | fail)
 refine Za4 () id (tm := [(10, .dat (.val (.bool (decide (C = 0)))))]) ?_ (Za9 rfl rfl)
 (refine ⟨?_, ?_, by rfl⟩ <;> repeat' (first | exact trivial | exact ALe.ptr rfl | exact ALe.own rfl | exact ALe.elt rfl | exact BLe.boxD _ _ | exact BLe.row rfl | exact BLe.res | exact BLe.dead rfl | exact ALe.dat (PLe.refl _) | exact CLe.nil | refine And.intro ?_ ?_ | refine ALe.iface ?_ | refine ALe.clo ?_ | refine CLe.cons ?_ ?_ | refine BLe.box ?_ | refine BLe.row ?_ | exact ALe.any _ | refine ALe.dat (PLe.of_eq ?_)))
theorem Yq7 (h : Zb0 Tryz.prog 336 [.dat dvA, .dat (dvM p), .dat (dvM q), .dat (.val (.int .i64 1)), Ybm] (cTb p q (.dat (.val (.int .i64 0))) (.dat (.val (.int .i64 0)))) (.dat (.val (.bool (decide (C = 0))))) (cTb p q .any (.dat (.val (.int .i64 C))))) :
  Zb0 Tryz.prog 334 [.dat (Zih p), .dat dvA, .dat (dvM q), .dat (.val (.int .i64 1)), Ybm] (cTb p q (.dat (.val (.int .i64 0))) (.dat (.val (.int .i64 0)))) (.dat (.val (.bool (decide (C = 0))))) (cTb p q .any (.dat (.val (.int .i64 C)))) := by
 refine Zar Tryz.func334 rfl Tryz.ntmps334 rfl (fun X => ?_)
 unfold cTb at h
 repeat' (first
  | refine Zag ?_
  | (refine Zao rfl ?_; first | refine Zad rfl rfl ?_ | refine Zai rfl rfl ?_ | refine Zcb (thk [(1000, _), (1001, _), (1002, _), (1003, _), (1004, _)] 200) rfl (by kernel_rfl) (h) rfl ⟨rfl, ⟨rfl, ⟨rfl, ⟨rfl, ⟨rfl, trivial⟩⟩⟩⟩⟩ rfl (Zaj rfl) rfl ?_ | refine Zht rfl rfl ?_ | refine Zry rfl rfl (by kernel_rfl) ?_)
  | refine Zac ?_
  | refine Zab ?_
  | fail)
 refine Za4 () id (tm := [(10, .dat (.val (.bool (decide (C = 0)))))]) ?_ (Za9 rfl rfl)
 (refine ⟨?_, ?_, by rfl⟩ <;> repeat' (first | exact trivial | exact ALe.ptr rfl | exact ALe.own rfl | exact ALe.elt rfl | exact BLe.boxD _ _ | exact BLe.row rfl | exact BLe.res | exact BLe.dead rfl | exact ALe.dat (PLe.refl _) | exact CLe.nil | refine And.intro ?_ ?_ | refine ALe.iface ?_ | refine ALe.clo ?_ | refine CLe.cons ?_ ?_ | refine BLe.box ?_ | refine BLe.row ?_ | exact ALe.any _ | refine ALe.dat (PLe.of_eq ?_)))
theorem Yr0 (h : Zb0 Tryz.prog 334 [.dat (Zih p), .dat dvA, .dat (dvM q), .dat (.val (.int .i64 1)), Ybm] (cTb p q (.dat (.val (.int .i64 0))) (.dat (.val (.int .i64 0)))) (.dat (.val (.bool (decide (C = 0))))) (cTb p q .any (.dat (.val (.int .i64 C))))) :
  Zb0 Tryz.prog 261 [.dat dvA, .dat (dvM p), .dat (dvM q), .dat (.val (.int .i64 1)), Ybm] (cTb p q (.dat (.val (.int .i64 0))) (.dat (.val (.int .i64 0)))) (.dat (.val (.bool (decide (C = 0))))) (cTb p q .any (.dat (.val (.int .i64 C)))) := by
 refine Zar Tryz.func261 rfl Tryz.ntmps261 rfl (fun X => ?_)
 unfold cTb at h
 repeat' (first
  | refine Zag ?_
  | (refine Zao rfl ?_; first | refine Zad rfl rfl ?_ | refine Zai rfl rfl ?_ | refine Ymd rfl rfl rfl ?_ | refine Za3 (thk [(1000, _), (1001, _), (1002, _), (1003, _), (1004, _)] 200) rfl rfl (by kernel_rfl) (h) rfl ⟨rfl, ⟨rfl, ⟨rfl, ⟨rfl, ⟨rfl, trivial⟩⟩⟩⟩⟩ rfl (Zaj rfl) rfl ?_ | refine Zyr rfl rfl rfl rfl ?_ | refine Zcc rfl rfl rfl (by kernel_rfl) (by exact NilIs.ifc) rfl ?_)
  | refine Zac ?_
  | refine Zab ?_
  | refine Zam rfl (by first | rfl | assumption) ?_
  | fail)
 refine Za4 () id (tm := [(10, .dat (.val (.bool (decide (C = 0)))))]) ?_ (Za9 rfl rfl)
 (refine ⟨?_, ?_, by rfl⟩ <;> repeat' (first | exact trivial | exact ALe.ptr rfl | exact ALe.own rfl | exact ALe.elt rfl | exact BLe.boxD _ _ | exact BLe.row rfl | exact BLe.res | exact BLe.dead rfl | exact ALe.dat (PLe.refl _) | exact CLe.nil | refine And.intro ?_ ?_ | refine ALe.iface ?_ | refine ALe.clo ?_ | refine CLe.cons ?_ ?_ | refine BLe.box ?_ | refine BLe.row ?_ | exact ALe.any _ | refine ALe.dat (PLe.of_eq ?_)))
end
theorem Yii (f : JV → JV → Int) (p q : List (ByteArray × JV)) (hp : (p.map (·.1)).Nodup) (hq : (q.map (·.1)).Nodup) (hl : (p.length + q.length) * 16 ≤ 140737488351232) (hE : ∀ k x y, lkJ p k = some x → lkJ q k = some y → PCall Tryz.prog 237 [dvA, dvV x, dvV y] (.val (.int .i64 (f x y)))) :
  PCall Tryz.prog 252 [dvA, dvM p, dvM q] (.val (.int .i64 (Ycb f p q))) := by
 refine Zaa Tryz.func252 rfl Tryz.ntmps252 rfl (fun X => ?_)
 unfold Ycb
 by_cases h0 : p.length = 0 ∧ q.length = 0
 ·rw [if_pos h0]
  have g1 : decide ((p.length : Int) = 0) = true := decide_eq_true (by omega)
  have g2 : decide ((q.length : Int) = 0) = true := decide_eq_true (by omega)
  repeat' (first
  | refine Zag ?_
  | (refine Zao rfl ?_; first | refine Zad rfl rfl ?_ | refine Zai rfl rfl ?_ | refine Zbj rfl rfl rfl (by first | rfl | (simp only [Zap]; rfl)) ?_ | refine Za1 rfl rfl rfl rfl ?_ | refine Zfv rfl rfl (by first | rfl | assumption) rfl ?_ | refine Zeb rfl rfl rfl (by first | rfl | (simp only [Zap]; rfl)) ?_ | refine Zcs rfl rfl rfl rfl rfl ?_ | refine Zlr rfl rfl ?_ | refine Zdl rfl rfl (by kernel_rfl) rfl (by first | exact Zji _) ?_ | refine Zcc rfl rfl rfl (by kernel_rfl) (by exact NilIs.ifc) rfl ?_)
  | refine Zac ?_
  | refine Zab ?_
  | refine Zam rfl (by first | rfl | assumption) ?_
  | (refine Zc0 rfl rfl (by first | rfl | assumption) ?_; first | refine Zbj rfl rfl rfl (by first | rfl | (simp only [Zap]; rfl)) ?_ | refine Za1 rfl rfl rfl rfl ?_)
  | refine Zak (Zan rfl rfl ?_)
  | fail)
  all_goals exact PLe.refl _
 ·rw [if_neg h0]
  have hpq : p ≠ [] ∨ q ≠ [] := by
   by_cases h1 : p = []
   ·exact .inr fun h2 => h0 ⟨by rw [h1]; rfl, by rw [h2]; rfl⟩
   ·exact .inl h1
  have hM := Yr0 (Yq7 (Yrp (Yrz f p q (Zld p q) hpq hp hq hl (Zpa p q) (Zqx p q) hE)))
  generalize Zjp f p q 0 (Zld p q) = C at *
  unfold cTb at hM
  by_cases h1 : p.length = 0
  ·have g1 : decide ((p.length : Int) = 0) = true := decide_eq_true (by omega)
   have g2 : decide ((q.length : Int) = 0) = false := decide_eq_false (by omega)
   repeat' (first
  | refine Zag ?_
  | (refine Zao rfl ?_; first | refine Zad rfl rfl ?_ | refine Zai rfl rfl ?_ | refine Zbj rfl rfl rfl (by first | rfl | (simp only [Zap]; rfl)) ?_ | refine Za1 rfl rfl rfl rfl ?_ | refine Zfv rfl rfl (by first | rfl | assumption) rfl ?_ | refine Zeb rfl rfl rfl (by first | rfl | (simp only [Zap]; rfl)) ?_ | refine Zcs rfl rfl rfl rfl rfl ?_ | refine Zlr rfl rfl ?_ | refine Zcb (thk [(1000, _), (1001, _), (1002, _), (1003, _), (1004, _)] 200) rfl (by kernel_rfl) (hM) rfl ⟨rfl, ⟨rfl, ⟨rfl, ⟨rfl, ⟨rfl, trivial⟩⟩⟩⟩⟩ rfl (Zaj rfl) rfl ?_ | refine Zdl rfl rfl (by kernel_rfl) rfl (by first | exact Zji _) ?_ | refine Zf9 rfl ?_ | refine Zcc rfl rfl rfl (by kernel_rfl) (by exact NilIs.ifc) rfl ?_)
  | refine Zac ?_
  | refine Zab ?_
  | refine Zam rfl (by first | rfl | assumption) ?_
  | refine Zal rfl (by first | rfl | assumption) ?_
  | (refine Zc0 rfl rfl (by first | rfl | assumption) ?_; first | refine Zbj rfl rfl rfl (by first | rfl | (simp only [Zap]; rfl)) ?_ | refine Za1 rfl rfl rfl rfl ?_)
  | refine Zat ?_
  | refine Zak (Zan rfl rfl ?_)
  | fail)
   all_goals exact PLe.refl _
  ·have g1 : decide ((p.length : Int) = 0) = false := decide_eq_false (by omega)
   repeat' (first
  | refine Zag ?_
  | (refine Zao rfl ?_; first | refine Zad rfl rfl ?_ | refine Zai rfl rfl ?_ | refine Zbj rfl rfl rfl (by first | rfl | (simp only [Zap]; rfl)) ?_ | refine Za1 rfl rfl rfl rfl ?_ | refine Zen rfl rfl (by first | rfl | assumption) rfl ?_ | refine Zeb rfl rfl rfl (by first | rfl | (simp only [Zap]; rfl)) ?_ | refine Zcs rfl rfl rfl rfl rfl ?_ | refine Zlr rfl rfl ?_ | refine Zcb (thk [(1000, _), (1001, _), (1002, _), (1003, _), (1004, _)] 200) rfl (by kernel_rfl) (hM) rfl ⟨rfl, ⟨rfl, ⟨rfl, ⟨rfl, ⟨rfl, trivial⟩⟩⟩⟩⟩ rfl (Zaj rfl) rfl ?_ | refine Zdl rfl rfl (by kernel_rfl) rfl (by first | exact Zji _) ?_ | refine Zf9 rfl ?_ | refine Zcc rfl rfl rfl (by kernel_rfl) (by exact NilIs.ifc) rfl ?_)
  | refine Zac ?_
  | refine Zab ?_
  | refine Zam rfl (by first | rfl | assumption) ?_
  | refine Zal rfl (by first | rfl | assumption) ?_
  | refine Zez rfl rfl (by first | rfl | assumption) rfl ?_
  | refine Zat ?_
  | refine Zak (Zan rfl rfl ?_)
  | fail)
   all_goals exact PLe.refl _
theorem Yce (k : JV) (hl : (JV.IsList .null && k.IsList) = false) (hm : (JV.IsMap .null && k.IsMap) = false) : PCall Tryz.prog 237 [dvA, dvV .null, dvV k] (.val (.int .i64 (Zdb .null k))) := by
 refine Zaa Tryz.func237 rfl Tryz.ntmps237 rfl (fun X => ?_)
 cases k
 all_goals first
  | exact absurd hl (fun h => Bool.noConfusion h)
  | exact absurd hm (fun h => Bool.noConfusion h)
  | skip
 all_goals clear hl hm
 all_goals
  repeat' (first
  | refine Zag ?_
  | (refine Zao rfl ?_; first | refine Zad rfl rfl ?_ | refine Zai rfl rfl ?_ | refine Zc6 rfl rfl ?_ | refine Zeg rfl rfl rfl (by kernel_rfl) rfl (by first | exact Zbh _ | exact Zb9 _ | exact Zbb _ | exact Zbu _ | exact Zbv _ | exact Zdg _ | exact Zd2 _ | exact Zcf _ | exact Zd1 _ | exact Zch _ | exact Zem _ | exact Zet _ _ | exact Zey _ _ | exact Zdt _ _ | exact Zd9 _ _) ?_)
  | refine Zac ?_
  | refine Zab ?_
  | refine Zam rfl (by first | rfl | assumption) ?_
  | refine Zal rfl (by first | rfl | assumption) ?_
  | refine Zat ?_
  | refine Zak (Zan rfl rfl ?_)
  | fail)
 all_goals exact PLe.of_eq (by unfold Zdb; rfl)
theorem Ycc (b : Bool) (k : JV) (hl : (JV.IsList (.bool b) && k.IsList) = false) (hm : (JV.IsMap (.bool b) && k.IsMap) = false) : PCall Tryz.prog 237 [dvA, dvV (.bool b), dvV k] (.val (.int .i64 (Zdb (.bool b) k))) := by
 refine Zaa Tryz.func237 rfl Tryz.ntmps237 rfl (fun X => ?_)
 cases k
 all_goals first
  | exact absurd hl (fun h => Bool.noConfusion h)
  | exact absurd hm (fun h => Bool.noConfusion h)
  | skip
 all_goals clear hl hm
 all_goals
  repeat' (first
  | refine Zag ?_
  | (refine Zao rfl ?_; first | refine Zad rfl rfl ?_ | refine Zai rfl rfl ?_ | refine Zgi rfl (by kernel_rfl) rfl (by first | exact Zbh _ | exact Zb9 _ | exact Zbb _ | exact Zbu _ | exact Zbv _ | exact Zdg _ | exact Zd2 _ | exact Zcf _ | exact Zd1 _ | exact Zch _ | exact Zem _ | exact Zet _ _ | exact Zey _ _ | exact Zdt _ _ | exact Zd9 _ _) ?_ | refine Zc6 rfl rfl ?_ | refine Zeg rfl rfl rfl (by kernel_rfl) rfl (by first | exact Zbh _ | exact Zb9 _ | exact Zbb _ | exact Zbu _ | exact Zbv _ | exact Zdg _ | exact Zd2 _ | exact Zcf _ | exact Zd1 _ | exact Zch _ | exact Zem _ | exact Zet _ _ | exact Zey _ _ | exact Zdt _ _ | exact Zd9 _ _) ?_)
  | refine Zac ?_
  | refine Zab ?_
  | refine Zam rfl (by first | rfl | assumption) ?_
  | refine Zal rfl (by first | rfl | assumption) ?_
  | refine Zat ?_
  | refine Zak (Zan rfl rfl ?_)
  | fail)
 all_goals exact PLe.of_eq (by unfold Zdb; rfl)
theorem Ygw (b : Int) (k : JV) (hl : (JV.IsList (.int b) && k.IsList) = false) (hm : (JV.IsMap (.int b) && k.IsMap) = false) : PCall Tryz.prog 237 [dvA, dvV (.int b), dvV k] (.val (.int .i64 (Zdb (.int b) k))) := by
 refine Zaa Tryz.func237 rfl Tryz.ntmps237 rfl (fun X => ?_)
 cases k
 all_goals first
  | exact absurd hl (fun h => Bool.noConfusion h)
  | exact absurd hm (fun h => Bool.noConfusion h)
  | skip
 all_goals clear hl hm
 all_goals
  repeat' (first
  | refine Zag ?_
  | (refine Zao rfl ?_; first | refine Zad rfl rfl ?_ | refine Zai rfl rfl ?_ | refine Zgi rfl (by kernel_rfl) rfl (by first | exact Zbh _ | exact Zb9 _ | exact Zbb _ | exact Zbu _ | exact Zbv _ | exact Zdg _ | exact Zd2 _ | exact Zcf _ | exact Zd1 _ | exact Zch _ | exact Zem _ | exact Zet _ _ | exact Zey _ _ | exact Zdt _ _ | exact Zd9 _ _) ?_ | refine Zc6 rfl rfl ?_ | refine Zeg rfl rfl rfl (by kernel_rfl) rfl (by first | exact Zbh _ | exact Zb9 _ | exact Zbb _ | exact Zbu _ | exact Zbv _ | exact Zdg _ | exact Zd2 _ | exact Zcf _ | exact Zd1 _ | exact Zch _ | exact Zem _ | exact Zet _ _ | exact Zey _ _ | exact Zdt _ _ | exact Zd9 _ _) ?_ | refine Zrx (q := .f64) rfl rfl (by kernel_rfl) (by kernel_rfl) ?_)
  | refine Zac ?_
  | refine Zab ?_
  | refine Zam rfl (by first | rfl | assumption) ?_
  | refine Zal rfl (by first | rfl | assumption) ?_
  | refine Zat ?_
  | refine Zak (Zan rfl rfl ?_)
  | fail)
 all_goals exact PLe.of_eq (by unfold Zdb; rfl)
theorem Ygv (b : Nat) (k : JV) (hl : (JV.IsList (.flt b) && k.IsList) = false) (hm : (JV.IsMap (.flt b) && k.IsMap) = false) : PCall Tryz.prog 237 [dvA, dvV (.flt b), dvV k] (.val (.int .i64 (Zdb (.flt b) k))) := by
 refine Zaa Tryz.func237 rfl Tryz.ntmps237 rfl (fun X => ?_)
 cases k
 all_goals first
  | exact absurd hl (fun h => Bool.noConfusion h)
  | exact absurd hm (fun h => Bool.noConfusion h)
  | skip
 all_goals clear hl hm
 all_goals
  repeat' (first
  | refine Zag ?_
  | (refine Zao rfl ?_; first | refine Zad rfl rfl ?_ | refine Zai rfl rfl ?_ | refine Zgi rfl (by kernel_rfl) rfl (by first | exact Zbh _ | exact Zb9 _ | exact Zbb _ | exact Zbu _ | exact Zbv _ | exact Zdg _ | exact Zd2 _ | exact Zcf _ | exact Zd1 _ | exact Zch _ | exact Zem _ | exact Zet _ _ | exact Zey _ _ | exact Zdt _ _ | exact Zd9 _ _) ?_ | refine Zc6 rfl rfl ?_ | refine Zeg rfl rfl rfl (by kernel_rfl) rfl (by first | exact Zbh _ | exact Zb9 _ | exact Zbb _ | exact Zbu _ | exact Zbv _ | exact Zdg _ | exact Zd2 _ | exact Zcf _ | exact Zd1 _ | exact Zch _ | exact Zem _ | exact Zet _ _ | exact Zey _ _ | exact Zdt _ _ | exact Zd9 _ _) ?_ | refine Zrx (q := .f64) rfl rfl (by kernel_rfl) (by kernel_rfl) ?_)
  | refine Zac ?_
  | refine Zab ?_
  | refine Zam rfl (by first | rfl | assumption) ?_
  | refine Zal rfl (by first | rfl | assumption) ?_
  | refine Zat ?_
  | refine Zak (Zan rfl rfl ?_)
  | fail)
 all_goals exact PLe.of_eq (by unfold Zdb; rfl)
theorem Ygy (b : ByteArray) (k : JV) (hl : (JV.IsList (.str b) && k.IsList) = false) (hm : (JV.IsMap (.str b) && k.IsMap) = false) : PCall Tryz.prog 237 [dvA, dvV (.str b), dvV k] (.val (.int .i64 (Zdb (.str b) k))) := by
 refine Zaa Tryz.func237 rfl Tryz.ntmps237 rfl (fun X => ?_)
 cases k
 all_goals first
  | exact absurd hl (fun h => Bool.noConfusion h)
  | exact absurd hm (fun h => Bool.noConfusion h)
  | skip
 all_goals clear hl hm
 all_goals
  repeat' (first
  | refine Zag ?_
  | (refine Zao rfl ?_; first | refine Zad rfl rfl ?_ | refine Zai rfl rfl ?_ | refine Zgi rfl (by kernel_rfl) rfl (by first | exact Zbh _ | exact Zb9 _ | exact Zbb _ | exact Zbu _ | exact Zbv _ | exact Zdg _ | exact Zd2 _ | exact Zcf _ | exact Zd1 _ | exact Zch _ | exact Zem _ | exact Zet _ _ | exact Zey _ _ | exact Zdt _ _ | exact Zd9 _ _) ?_ | refine Zc6 rfl rfl ?_ | refine Zeg rfl rfl rfl (by kernel_rfl) rfl (by first | exact Zbh _ | exact Zb9 _ | exact Zbb _ | exact Zbu _ | exact Zbv _ | exact Zdg _ | exact Zd2 _ | exact Zcf _ | exact Zd1 _ | exact Zch _ | exact Zem _ | exact Zet _ _ | exact Zey _ _ | exact Zdt _ _ | exact Zd9 _ _) ?_)
  | refine Zac ?_
  | refine Zab ?_
  | refine Zam rfl (by first | rfl | assumption) ?_
  | refine Zal rfl (by first | rfl | assumption) ?_
  | refine Zat ?_
  | refine Zak (Zan rfl rfl ?_)
  | fail)
 all_goals exact PLe.of_eq (by unfold Zdb; rfl)
theorem Ycd (b : List JV) (k : JV) (hl : (JV.IsList (.list b) && k.IsList) = false) (hm : (JV.IsMap (.list b) && k.IsMap) = false) : PCall Tryz.prog 237 [dvA, dvV (.list b), dvV k] (.val (.int .i64 (Zdb (.list b) k))) := by
 refine Zaa Tryz.func237 rfl Tryz.ntmps237 rfl (fun X => ?_)
 cases k
 all_goals first
  | exact absurd hl (fun h => Bool.noConfusion h)
  | exact absurd hm (fun h => Bool.noConfusion h)
  | skip
 all_goals clear hl hm
 all_goals
  repeat' (first
  | refine Zag ?_
  | (refine Zao rfl ?_; first | refine Zad rfl rfl ?_ | refine Zai rfl rfl ?_ | refine Zc6 rfl rfl ?_ | refine Zeg rfl rfl rfl (by kernel_rfl) rfl (by first | exact Zbh _ | exact Zb9 _ | exact Zbb _ | exact Zbu _ | exact Zbv _ | exact Zdg _ | exact Zd2 _ | exact Zcf _ | exact Zd1 _ | exact Zch _ | exact Zem _ | exact Zet _ _ | exact Zey _ _ | exact Zdt _ _ | exact Zd9 _ _) ?_)
  | refine Zac ?_
  | refine Zab ?_
  | refine Zam rfl (by first | rfl | assumption) ?_
  | refine Zal rfl (by first | rfl | assumption) ?_
  | refine Zat ?_
  | refine Zak (Zan rfl rfl ?_)
  | fail)
 all_goals exact PLe.of_eq (by unfold Zdb; rfl)
theorem Ygx (b : List (ByteArray × JV)) (k : JV) (hl : (JV.IsList (.map b) && k.IsList) = false) (hm : (JV.IsMap (.map b) && k.IsMap) = false) : PCall Tryz.prog 237 [dvA, dvV (.map b), dvV k] (.val (.int .i64 (Zdb (.map b) k))) := by
 refine Zaa Tryz.func237 rfl Tryz.ntmps237 rfl (fun X => ?_)
 cases k
 all_goals first
  | exact absurd hl (fun h => Bool.noConfusion h)
  | exact absurd hm (fun h => Bool.noConfusion h)
  | skip
 all_goals clear hl hm
 all_goals
  repeat' (first
  | refine Zag ?_
  | (refine Zao rfl ?_; first | refine Zad rfl rfl ?_ | refine Zai rfl rfl ?_ | refine Zc6 rfl rfl ?_ | refine Zeg rfl rfl rfl (by kernel_rfl) rfl (by first | exact Zbh _ | exact Zb9 _ | exact Zbb _ | exact Zbu _ | exact Zbv _ | exact Zdg _ | exact Zd2 _ | exact Zcf _ | exact Zd1 _ | exact Zch _ | exact Zem _ | exact Zet _ _ | exact Zey _ _ | exact Zdt _ _ | exact Zd9 _ _) ?_)
  | refine Zac ?_
  | refine Zab ?_
  | refine Zam rfl (by first | rfl | assumption) ?_
  | refine Zal rfl (by first | rfl | assumption) ?_
  | refine Zat ?_
  | refine Zak (Zan rfl rfl ?_)
  | fail)
 all_goals exact PLe.of_eq (by unfold Zdb; rfl)
theorem Yb9 (l q : List JV) (hE : ∀ x ∈ l, ∀ y ∈ q, PCall Tryz.prog 237 [dvA, dvV x, dvV y] (.val (.int .i64 (Zdb x y)))) : PCall Tryz.prog 237 [dvA, dvV (.list l), dvV (.list q)] (.val (.int .i64 (Zdb (.list l) (.list q)))) := by
 have hC := Yih Zdb l q hE
 rw [Ztb]
 refine Zaa Tryz.func237 rfl Tryz.ntmps237 rfl (fun X => ?_)
 repeat' (first
  | refine Zag ?_
  | (refine Zao rfl ?_; first | refine Zad rfl rfl ?_ | refine Zai rfl rfl ?_ | refine Zgi rfl (by kernel_rfl) rfl (by first | exact Zbh _ | exact Zb9 _ | exact Zbb _ | exact Zbu _ | exact Zbv _ | exact Zke _ | exact hC) ?_ | refine Zc6 rfl rfl ?_ | refine Zeg rfl rfl rfl (by kernel_rfl) rfl (by first | exact Zbh _ | exact Zb9 _ | exact Zbb _ | exact Zbu _ | exact Zbv _ | exact Zke _ | exact hC) ?_ | refine Zgx rfl rfl ?_ | refine Zd8 rfl Zcr ?_)
  | refine Zac ?_
  | refine Zab ?_
  | refine Zam rfl (by first | rfl | assumption) ?_
  | refine Zal rfl (by first | rfl | assumption) ?_
  | refine Zat ?_
  | refine Zak (Zan rfl rfl ?_)
  | fail)
 all_goals exact PLe.refl _
theorem Ygu (m q : List (ByteArray × JV)) (hE : ∀ k x y, lkJ m k = some x → lkJ q k = some y → PCall Tryz.prog 237 [dvA, dvV x, dvV y] (.val (.int .i64 (Zdb x y)))) : PCall Tryz.prog 237 [dvA, dvV (.map m), dvV (.map q)] (.val (.int .i64 (Zdb (.map m) (.map q)))) := by
 refine PCall.ex fun w F vs hvs => ?_
 have hj : JOk (.map m) ∧ JOk (.map q) := by
  unfold Reps at hvs; obtain ⟨_, _, _, _, hvs⟩ := hvs
  unfold Reps at hvs; obtain ⟨_, _, _, hv1, hvs⟩ := hvs
  unfold Reps at hvs; obtain ⟨_, _, _, hv2, _⟩ := hvs
  have key : ∀ {j : JV} {v : Value}, Rep w F (dvV j) v → JOk j := by
   intro j v h
   unfold dvV Rep at h
   obtain ⟨_, _, h⟩ := h
   unfold Rep at h
   obtain ⟨_, _, _, _, _, h, _⟩ := h
   unfold Rep at h
   obtain ⟨_, _, h, _⟩ := h
   unfold Reps at h
   obtain ⟨_, _, _, h, _⟩ := h
   unfold pdJ Rep at h
   exact h.2
  exact ⟨key hv1, key hv2⟩
 clear hvs vs F w
 unfold JOk at hj
 have hC := Yii Zdb m q hj.1.1 hj.2.1 (by omega) hE
 rw [Zxm]
 clear hj
 refine Zaa Tryz.func237 rfl Tryz.ntmps237 rfl (fun X => ?_)
 repeat' (first
  | refine Zag ?_
  | (refine Zao rfl ?_; first | refine Zad rfl rfl ?_ | refine Zai rfl rfl ?_ | refine Zgi rfl (by kernel_rfl) rfl (by first | exact Zbh _ | exact Zb9 _ | exact Zbb _ | exact Zbu _ | exact Zbv _ | exact Zdg _ | exact Zni _ | exact hC) ?_ | refine Zc6 rfl rfl ?_ | refine Zeg rfl rfl rfl (by kernel_rfl) rfl (by first | exact Zbh _ | exact Zb9 _ | exact Zbb _ | exact Zbu _ | exact Zbv _ | exact Zdg _ | exact Zni _ | exact hC) ?_ | refine Zgx rfl rfl ?_ | refine Zd8 rfl Zcr ?_)
  | refine Zac ?_
  | refine Zab ?_
  | refine Zam rfl (by first | rfl | assumption) ?_
  | refine Zal rfl (by first | rfl | assumption) ?_
  | refine Zat ?_
  | refine Zak (Zan rfl rfl ?_)
  | fail)
 all_goals exact PLe.refl _
theorem Yig : ∀ {m : List (ByteArray × JV)} {k : ByteArray} {j : JV}, lkJ m k = some j → ∃ y ∈ m, y.2 = j := fun {m k j} h => by
 rw [Zhu] at h
 exact ⟨(k, j), Zdk h, rfl⟩
theorem Zcq (j k : JV) (hl : (j.IsList && k.IsList) = false) (hm : (j.IsMap && k.IsMap) = false) : PCall Tryz.prog 237 [dvA, dvV j, dvV k] (.val (.int .i64 (Zdb j k))) := by
 cases j
 ·exact Yce k hl hm
 ·exact Ycc _ k hl hm
 ·exact Ygw _ k hl hm
 ·exact Ygv _ k hl hm
 ·exact Ygy _ k hl hm
 ·exact Ycd _ k hl hm
 ·exact Ygx _ k hl hm
theorem Yla : ∀ (k j : JV), PCall Tryz.prog 237 [dvA, dvV j, dvV k] (.val (.int .i64 (Zdb j k)))
 | .list q, .list l => Yb9 l q (fun x _ y hy => Yla y x)
 | .map q, .map m => Ygu m q (fun k x y _ hy => by
   obtain ⟨z, hz, e⟩ := Yig hy
   rw [← e]
   exact Yla z.2 x)
 | .list q, .null => Zcq _ _ rfl rfl
 | .list q, .bool _ => Zcq _ _ rfl rfl
 | .list q, .int _ => Zcq _ _ rfl rfl
 | .list q, .flt _ => Zcq _ _ rfl rfl
 | .list q, .str _ => Zcq _ _ rfl rfl
 | .list q, .map _ => Zcq _ _ rfl rfl
 | .map q, .null => Zcq _ _ rfl rfl
 | .map q, .bool _ => Zcq _ _ rfl rfl
 | .map q, .int _ => Zcq _ _ rfl rfl
 | .map q, .flt _ => Zcq _ _ rfl rfl
 | .map q, .str _ => Zcq _ _ rfl rfl
 | .map q, .list _ => Zcq _ _ rfl rfl
 | .null, j => Zcq _ _ (by cases j <;> rfl) (by cases j <;> rfl)
 | .bool _, j => Zcq _ _ (by cases j <;> rfl) (by cases j <;> rfl)
 | .int _, j => Zcq _ _ (by cases j <;> rfl) (by cases j <;> rfl)
 | .flt _, j => Zcq _ _ (by cases j <;> rfl) (by cases j <;> rfl)
 | .str _, j => Zcq _ _ (by cases j <;> rfl) (by cases j <;> rfl)
termination_by k => SizeOf.sizeOf k
decreasing_by
 all_goals simp_wf
 ·have := List.sizeOf_lt_of_mem hy; omega
 ·have := List.sizeOf_lt_of_mem hz
  obtain ⟨y1, y2⟩ := z
  simp at this ⊢
  omega
theorem Ztf (j k : JV) : PCall Tryz.prog 213 [dvV j, dvV k] (.val (.int .i64 (Zdb j k))) := by
 have hC := Yla k j
 refine Zaa Tryz.func213 rfl Tryz.ntmps213 rfl (fun X => ?_)
 repeat' (first
  | refine Zag ?_
  | (refine Zao rfl ?_; first | refine Zad rfl rfl ?_ | refine Zai rfl rfl ?_ | refine Zeb rfl rfl rfl (by first | rfl | (simp only [Zap]; rfl)) ?_ | refine Zlu rfl rfl rfl ?_ | refine Zfh rfl rfl (by kernel_rfl) ?_ | refine Zij gV rfl (by kernel_rfl) rfl (by first | exact hC) Flat.val ?_)
  | refine Zac ?_
  | refine Zab ?_
  | refine Zak (Zan rfl rfl ?_)
  | fail)
 all_goals exact PLe.refl _
theorem Zwo (l1 l2 : List JV) (hE : ∀ x ∈ l1, ∀ y ∈ l2, PCall Tryz.prog 255 [dvA, dvV x, dvV y] (.val (.bool (eqJ x y)))) : PCall Tryz.prog 321 [dvA, Ysd l1, dvL l2] (.val (.bool (Zm2 l1 l2))) := by
 refine PCall.ex fun w F vs hvs => ?_
 have hlen : l2.length * 16 ≤ 140737488351232 := by
  unfold Reps at hvs; obtain ⟨_, _, _, _, hvs⟩ := hvs
  unfold Reps at hvs; obtain ⟨_, _, _, _, hvs⟩ := hvs
  unfold Reps at hvs; obtain ⟨_, _, _, hv, _⟩ := hvs
  unfold dvL Rep at hv; obtain ⟨_, _, hv⟩ := hv
  exact Zrj hv
 clear hvs vs F w
 refine Zaa Tryz.func321 rfl Tryz.ntmps321 rfl (fun X => ?_)
 by_cases hl : l1.length = l2.length
 ·have hq0 : decide (((l1.length : Nat) : Int) ≠ ((l2.length : Nat) : Int)) = false := by simp; omega
  by_cases hn : l1 = []
  ·subst hn
   have hn2 : l2 = [] := List.eq_nil_of_length_eq_zero hl.symm
   subst hn2
   repeat' (first
  | refine Zag ?_
  | (refine Zao rfl ?_; first | refine Zad rfl rfl ?_ | refine Zai rfl rfl ?_ | refine Za1 rfl rfl rfl rfl ?_ | refine Zeg rfl rfl rfl (by kernel_rfl) rfl (by first | exact Zqd _ | exact Zhj | exact Ze7) ?_ | refine Zdl rfl rfl (by kernel_rfl) rfl (by first | exact Zqd _ | exact Zhj | exact Ze7) ?_ | refine Zgx rfl rfl ?_ | refine Zd8 rfl Zcr ?_)
  | refine Zac ?_
  | refine Zab ?_
  | refine Zal rfl (by first | rfl | assumption) ?_
  | refine Zax ?_
  | refine Zat ?_
  | fail)
   refine Zaq (ι := Unit) (fun _ => [(7, .dat dvE), (8, .dat dvE)]) (fun _ => []) (fun _ => 0) () id ?_ (fun _ => ?_)
   ·(refine ⟨?_, ?_, by rfl⟩ <;> repeat' (first | exact trivial | exact ALe.ptr rfl | exact ALe.own rfl | exact ALe.elt rfl | exact BLe.boxD _ _ | exact BLe.row rfl | exact BLe.res | exact BLe.dead rfl | exact ALe.dat (PLe.refl _) | exact CLe.nil | refine And.intro ?_ ?_ | refine ALe.iface ?_ | refine ALe.clo ?_ | refine CLe.cons ?_ ?_ | refine BLe.box ?_ | refine BLe.row ?_ | exact ALe.any _ | refine ALe.dat (PLe.of_eq ?_)))
   repeat' (first
  | refine Zag ?_
  | (refine Zao rfl ?_; first | refine Zad rfl rfl ?_ | refine Zai rfl rfl ?_ | refine Zen rfl rfl (by first | rfl | assumption) rfl ?_ | refine Zdl rfl rfl (by kernel_rfl) rfl (by first | exact Ze7) ?_)
  | refine Zac ?_
  | refine Zab ?_
  | refine Zal rfl (by first | rfl | assumption) ?_
  | refine Zez rfl rfl (by first | rfl | assumption) rfl ?_
  | refine Ze2 rfl ?_
  | refine Zak (Zan rfl rfl ?_)
  | fail)
   all_goals exact PLe.of_eq (by unfold Zm2; rfl)
  ·have hn2 : l2 ≠ [] := fun e => hn (List.eq_nil_of_length_eq_zero (by rw [hl, e]; rfl))
   repeat' (first
  | refine Zag ?_
  | (refine Zao rfl ?_; first | refine Zad rfl rfl ?_ | refine Zai rfl rfl ?_ | refine Za1 rfl rfl rfl rfl ?_ | refine Yh7 (thk [] 200) rfl rfl rfl (by kernel_rfl) (Zfb _ hn) rfl trivial rfl (Zaj rfl) rfl ?_ | refine Za3 (thk [] 350) rfl rfl (by kernel_rfl) (Zfb _ hn2) rfl trivial rfl (Zaj rfl) rfl ?_ | refine Zeg rfl rfl rfl (by kernel_rfl) rfl (by first | exact Zqd _) ?_ | refine Zdl rfl rfl (by kernel_rfl) rfl (by first | exact Zqd _) ?_ | refine Zgx rfl rfl ?_ | refine Zc5 rfl rfl ?_ | refine Zdv rfl rfl ?_ | refine Zd8 rfl Zcr ?_)
  | refine Zac ?_
  | refine Zab ?_
  | refine Zal rfl (by first | rfl | assumption) ?_
  | refine Zax ?_
  | refine Zat ?_
  | fail)
   refine Zaq (ι := { k : Nat // k ≤ l1.length ∧ ∀ i x y, i < k → l1[i]? = some x → l2[i]? = some y → eqJ x y = true })
    (fun k => [(0, .dat dvA), (7, .iface 421 (.ptr 200 0)), (8, .iface 421 (.ptr 350 0))])
    (fun k => [(200, .box 427 [.dat (Zj4 l1), .ptr 201 0, .dat (.val (.int .i64 ((k.1 : Nat) - 1 : Int)))]), (201, .box 315 [.any]),
     (350, .box 427 [.dat (Zj4 l2), .ptr 351 0, .dat (.val (.int .i64 ((k.1 : Nat) - 1 : Int)))]), (351, .box 315 [.any])])
    (fun k => l1.length - k.1) ⟨0, Nat.zero_le _, fun i _ _ h => absurd h (Nat.not_lt_zero i)⟩ id ?_ ?_
   ·(refine ⟨?_, ?_, by rfl⟩ <;> repeat' (first | exact trivial | exact ALe.ptr rfl | exact ALe.own rfl | exact ALe.elt rfl | exact BLe.boxD _ _ | exact BLe.row rfl | exact BLe.res | exact BLe.dead rfl | exact ALe.dat (PLe.refl _) | exact CLe.nil | refine And.intro ?_ ?_ | refine ALe.iface ?_ | refine ALe.clo ?_ | refine CLe.cons ?_ ?_ | refine BLe.box ?_ | refine BLe.row ?_ | exact ALe.any _ | refine ALe.dat (PLe.of_eq ?_)))
   rintro ⟨k, hk, hall⟩
   by_cases hlt : k < l1.length
   ·have hq1 : decide ((k : Int) < (l1.length : Int)) = true := by simpa using hlt
    have hq2 : decide ((k : Int) < (l2.length : Int)) = true := by rw [hl] at hlt; simpa using hlt
    obtain ⟨x, hx⟩ : ∃ x, l1[k]? = some x := ⟨_, List.getElem?_eq_getElem hlt⟩
    obtain ⟨y, hy⟩ : ∃ y, l2[k]? = some y := ⟨_, List.getElem?_eq_getElem (hl ▸ hlt)⟩
    have hC := hE x (List.mem_of_getElem? hx) y (List.mem_of_getElem? hy)
    cases hr : eqJ x y with
    | true =>
     rw [hr] at hC
     repeat' (first
  | refine Zag ?_
  | (refine Zao rfl ?_; first | refine Zad rfl rfl ?_ | refine Zai rfl rfl ?_ | refine Zfv rfl rfl (by first | rfl | assumption) rfl ?_ | refine Zc6 rfl rfl ?_ | refine Za3 (thk [(1000, _), (1001, _)] 200) rfl rfl (by kernel_rfl) (Zfq l1 k (by omega)) rfl ⟨rfl, ⟨rfl, trivial⟩⟩ rfl (Zaj rfl) rfl ?_ | refine Za3 (thk [(1000, _), (1001, _)] 200) rfl rfl (by kernel_rfl) (Zmb l1 k x hx) rfl ⟨rfl, ⟨rfl, trivial⟩⟩ rfl (Zaj rfl) rfl ?_ | refine Za3 (thk [(1000, _), (1001, _)] 200) rfl rfl (by kernel_rfl) (Zmb l2 k y hy) rfl ⟨rfl, ⟨rfl, trivial⟩⟩ rfl (Zaj rfl) rfl ?_ | refine Zc5 rfl rfl ?_ | refine Zdv rfl rfl ?_ | refine Zod rfl rfl ?_ | refine Zhf rfl rfl rfl ?_ | refine Zhe rfl rfl rfl ?_ | refine Zij gV rfl (by kernel_rfl) rfl (by first | exact hC) Flat.val ?_)
  | refine Zac ?_
  | refine Zab ?_
  | refine Zam rfl (by first | rfl | assumption) ?_
  | refine Zal rfl (by first | rfl | assumption) ?_
  | (refine Zc0 rfl rfl (by first | rfl | assumption) ?_; first | refine Za3 (thk [(1000, _), (1001, _)] 200) rfl rfl (by kernel_rfl) (Zfq l2 k (by omega)) rfl ⟨rfl, ⟨rfl, trivial⟩⟩ rfl (Zaj rfl) rfl ?_ | refine Zdv rfl rfl ?_)
  | refine Zax ?_
  | refine Zbr ?_
  | refine Zat ?_
  | fail)
     refine Zah ?_
     refine ⟨⟨k + 1, by omega, ?_⟩, id, by simp only; omega, ?_⟩
     ·intro i x' y' hi hx' hy'
      by_cases e : i = k
      ·subst e
       rw [hx] at hx'; rw [hy] at hy'
       cases hx'; cases hy'
       exact hr
      ·exact hall i x' y' (by omega) hx' hy'
     (refine ⟨?_, ?_, by rfl⟩ <;> repeat' (first | exact trivial | exact ALe.ptr rfl | exact ALe.own rfl | exact ALe.elt rfl | exact BLe.boxD _ _ | exact BLe.row rfl | exact BLe.res | exact BLe.dead rfl | exact ALe.dat (PLe.refl _) | exact CLe.nil | refine And.intro ?_ ?_ | refine ALe.iface ?_ | refine ALe.clo ?_ | refine CLe.cons ?_ ?_ | refine BLe.box ?_ | refine BLe.row ?_ | exact ALe.any _ | refine ALe.dat (PLe.of_eq ?_)))
     all_goals (rw [show (((k + 1 : Nat) : Int) - 1) = k by omega])
    | false =>
     rw [hr] at hC
     rw [Zp2 hx hy hr]
     repeat' (first
  | refine Zag ?_
  | (refine Zao rfl ?_; first | refine Zad rfl rfl ?_ | refine Zai rfl rfl ?_ | refine Zfv rfl rfl (by first | rfl | assumption) rfl ?_ | refine Zc6 rfl rfl ?_ | refine Za3 (thk [(1000, _), (1001, _)] 200) rfl rfl (by kernel_rfl) (Zfq l1 k (by omega)) rfl ⟨rfl, ⟨rfl, trivial⟩⟩ rfl (Zaj rfl) rfl ?_ | refine Za3 (thk [(1000, _), (1001, _)] 200) rfl rfl (by kernel_rfl) (Zmb l1 k x hx) rfl ⟨rfl, ⟨rfl, trivial⟩⟩ rfl (Zaj rfl) rfl ?_ | refine Za3 (thk [(1000, _), (1001, _)] 200) rfl rfl (by kernel_rfl) (Zmb l2 k y hy) rfl ⟨rfl, ⟨rfl, trivial⟩⟩ rfl (Zaj rfl) rfl ?_ | refine Zc5 rfl rfl ?_ | refine Zdv rfl rfl ?_ | refine Zod rfl rfl ?_ | refine Zhf rfl rfl rfl ?_ | refine Zhe rfl rfl rfl ?_ | refine Zij gV rfl (by kernel_rfl) rfl (by first | exact hC) Flat.val ?_)
  | refine Zac ?_
  | refine Zab ?_
  | refine Zam rfl (by first | rfl | assumption) ?_
  | (refine Zc0 rfl rfl (by first | rfl | assumption) ?_; first | refine Za3 (thk [(1000, _), (1001, _)] 200) rfl rfl (by kernel_rfl) (Zfq l2 k (by omega)) rfl ⟨rfl, ⟨rfl, trivial⟩⟩ rfl (Zaj rfl) rfl ?_ | refine Zdv rfl rfl ?_)
  | refine Zax ?_
  | refine Zat ?_
  | refine Zak (Zan rfl rfl ?_)
  | fail)
     all_goals exact PLe.refl _
   ·have hq1 : decide ((k : Int) < (l1.length : Int)) = false := by simpa using hlt
    rw [Ztn hl (fun i x y hx hy => hall i x y (by have := (List.getElem?_eq_some_iff.1 hx).1; omega) hx hy)]
    repeat' (first
  | refine Zag ?_
  | (refine Zao rfl ?_; first | refine Zad rfl rfl ?_ | refine Zai rfl rfl ?_ | refine Zen rfl rfl (by first | rfl | assumption) rfl ?_ | refine Za3 (thk [(1000, _), (1001, _)] 200) rfl rfl (by kernel_rfl) (Zfq l1 k (by omega)) rfl ⟨rfl, ⟨rfl, trivial⟩⟩ rfl (Zaj rfl) rfl ?_ | refine Zdv rfl rfl ?_)
  | refine Zac ?_
  | refine Zab ?_
  | refine Zal rfl (by first | rfl | assumption) ?_
  | refine Zez rfl rfl (by first | rfl | assumption) rfl ?_
  | refine Ze2 rfl ?_
  | refine Zak (Zan rfl rfl ?_)
  | fail)
    all_goals exact PLe.refl _
 ·have hq0 : decide (((l1.length : Nat) : Int) ≠ ((l2.length : Nat) : Int)) = true := by simp; omega
  have e : Zm2 l1 l2 = false := by
   cases h : Zm2 l1 l2 with
   | false => rfl
   | true => exact absurd (Zx6 h) hl
  rw [e]
  repeat' (first
  | refine Zag ?_
  | (refine Zao rfl ?_; first | refine Zad rfl rfl ?_ | refine Zai rfl rfl ?_ | refine Za1 rfl rfl rfl rfl ?_ | refine Zeg rfl rfl rfl (by kernel_rfl) rfl (by first | exact Zqd _) ?_ | refine Zdl rfl rfl (by kernel_rfl) rfl (by first | exact Zqd _) ?_)
  | refine Zac ?_
  | refine Zab ?_
  | refine Zam rfl (by first | rfl | assumption) ?_
  | refine Zak (Zan rfl rfl ?_)
  | fail)
  all_goals exact PLe.refl _
theorem Ymt (l1 l2 : List JV) (hE : ∀ x ∈ l1, ∀ y ∈ l2, PCall Tryz.prog 255 [dvA, dvV x, dvV y] (.val (.bool (eqJ x y)))) : PCall Tryz.prog 317 [Zj4 l1, dvA, dvL l2] (.val (.bool (Zm2 l1 l2))) := by
 have hC := Zwo l1 l2 hE
 refine Zaa Tryz.func317 rfl Tryz.ntmps317 rfl (fun X => ?_)
 repeat' (first
  | refine Zag ?_
  | (refine Zao rfl ?_; first | refine Zad rfl rfl ?_ | refine Zai rfl rfl ?_ | refine Zeb rfl rfl rfl (by first | rfl | (simp only [Zap]; rfl)) ?_ | refine Zfh rfl rfl (by kernel_rfl) ?_ | refine Zij gV rfl (by kernel_rfl) rfl (by first | exact hC) Flat.val ?_)
  | refine Zac ?_
  | refine Zab ?_
  | refine Zak (Zan rfl rfl ?_)
  | fail)
 all_goals exact PLe.refl _
def eqG (m : List (ByteArray × JV)) (y : ByteArray × JV) : Bool := match lkJ m y.1 with | some x => eqJ x y.2 | none => false
theorem Zx4 (m : List (ByteArray × JV)) : ∀ q : List (ByteArray × JV), Ycx m q = q.all (eqG m)
 | [] => by unfold Ycx; rfl
 | y :: q => by unfold Ycx; rw [Zx4 m q, List.all_cons]; rfl
theorem Ylo (m : List (ByteArray × JV)) (y : ByteArray × JV) (hE : ∀ x, lkJ m y.1 = some x → PCall Tryz.prog 255 [dvA, dvV x, dvV y.2] (.val (.bool (eqJ x y.2)))) :
  Zb0 Tryz.prog 335 [.dat (.val (.string y.1)), .iface 271 (.ptr 1004 0), .ptr 1000 0, .ptr 1001 0, .ptr 1002 0]
  [(1000, .box 398 [.dat (Zih m)]), (1001, .box 204 [.dat dvA]), (1002, .box 271 [.ptr 1003 0]), (1003, .box 315 [.any]), (1004, .box 315 [.dat (pdJ y.2)])]
  (.dat (.val (.bool (eqG m y))))
  [(1000, .box 398 [.dat (Zih m)]), (1001, .box 204 [.dat dvA]), (1002, .box 271 [.ptr 1003 0]), (1003, .box 315 [.any]), (1004, .box 315 [.dat (pdJ y.2)])] := by
 refine Zar Tryz.func335 rfl Tryz.ntmps335 rfl (fun X => ?_)
 cases hlk : lkJ m y.1 with
 | none =>
  have e : eqG m y = false := by unfold eqG; rw [hlk]
  rw [e]
  have hq : (!false) = true := rfl
  repeat' (first
  | refine Zag ?_
  | (refine Zao rfl ?_; first | refine Zad rfl rfl ?_ | refine Zai rfl rfl ?_ | refine Zbj rfl rfl rfl (by first | rfl | (simp only [Zap]; rfl)) ?_ | refine Zb7 rfl rfl rfl ?_ | refine Zc6 rfl rfl ?_ | refine Zjx rfl rfl rfl (by assumption) ?_)
  | refine Zac ?_
  | refine Zab ?_
  | refine Zam rfl (by first | rfl | assumption) ?_
  | fail)
  refine Za4 () id (tm := [(7, .dat (.val (.bool false)))]) ?_ (Za9 rfl rfl)
  (refine ⟨?_, ?_, by rfl⟩ <;> repeat' (first | exact trivial | exact ALe.ptr rfl | exact ALe.own rfl | exact ALe.elt rfl | exact BLe.boxD _ _ | exact BLe.row rfl | exact BLe.res | exact BLe.dead rfl | exact ALe.dat (PLe.refl _) | exact CLe.nil | refine And.intro ?_ ?_ | refine ALe.iface ?_ | refine ALe.clo ?_ | refine CLe.cons ?_ ?_ | refine BLe.box ?_ | refine BLe.row ?_ | exact ALe.any _ | refine ALe.dat (PLe.of_eq ?_)))
 | some x =>
  have hC := hE x hlk
  have e : eqG m y = eqJ x y.2 := by unfold eqG; rw [hlk]
  rw [e]
  repeat' (first
  | refine Zag ?_
  | (refine Zao rfl ?_; first | refine Zad rfl rfl ?_ | refine Zai rfl rfl ?_ | refine Zbj rfl rfl rfl (by first | rfl | (simp only [Zap]; rfl)) ?_ | refine Zb7 rfl rfl rfl ?_ | refine Zc6 rfl rfl ?_ | refine Zjx rfl rfl rfl (by assumption) ?_)
  | refine Zac ?_
  | refine Zab ?_
  | refine Zal rfl (by first | rfl | assumption) ?_
  | refine Zat ?_
  | refine Zfr (by kernel_rfl) ?_
  | refine Znm (And.intro (by kernel_rfl) ?_)
  | refine Zbm (Zki rfl rfl) ?_
  | refine Zbm (Zjr rfl rfl) ?_
  | refine Zbm (Zmz rfl rfl rfl (by first | rfl | (simp only [Zap]; rfl))) ?_
  | refine Zbm (Zm1 rfl rfl rfl rfl) ?_
  | refine Zbm (Zrg (thk [(1000, _)] 200) rfl (by kernel_rfl) ((Ziq .any _)) rfl rfl rfl rfl rfl) ?_
  | refine Zbm (Ycq rfl rfl) ?_
  | refine Zbm (Zlk gV rfl (by kernel_rfl) rfl (by first | exact hC) Flat.val) ?_
  | fail)
  refine Za4 () id (tm := [(7, .dat (.val (.bool (eqJ x y.2))))]) ?_ (Za9 rfl rfl)
  (refine ⟨?_, ?_, by rfl⟩ <;> repeat' (first | exact trivial | exact ALe.ptr rfl | exact ALe.own rfl | exact ALe.elt rfl | exact BLe.boxD _ _ | exact BLe.row rfl | exact BLe.res | exact BLe.dead rfl | exact ALe.dat (PLe.refl _) | exact CLe.nil | refine And.intro ?_ ?_ | refine ALe.iface ?_ | refine ALe.clo ?_ | refine CLe.cons ?_ ?_ | refine BLe.box ?_ | refine BLe.row ?_ | exact ALe.any _ | refine ALe.dat (PLe.of_eq ?_)))
theorem Yhf (m q : List (ByteArray × JV)) (hE : ∀ y ∈ q, ∀ x, lkJ m y.1 = some x → PCall Tryz.prog 255 [dvA, dvV x, dvV y.2] (.val (.bool (eqJ x y.2)))) :
  Zb0 Tryz.prog 330 [.dat (Zih q), .dat dvA, .clo 335 [.ptr 1000 0, .ptr 1001 0, .ptr 1002 0]]
  [(1000, .box 398 [.dat (Zih m)]), (1001, .box 204 [.dat dvA]), (1002, .box 271 [.ptr 1003 0]), (1003, .box 315 [.dat (.val .nilIface)])]
  (.dat (.val (.bool (q.all (eqG m)))))
  [(1000, .box 398 [.dat (Zih m)]), (1001, .box 204 [.dat dvA]), (1002, .box 271 [.ptr 1003 0]), (1003, .box 315 [.any])] := by
 refine Zar Tryz.func330 rfl Tryz.ntmps330 rfl (fun X => ?_)
 by_cases hn : q = []
 ·subst hn
  have hq : decide (((([] : List (ByteArray × JV)).length : Nat) : Int) = 0) = true := rfl
  repeat' (first
  | refine Zag ?_
  | (refine Zao rfl ?_; first | refine Zad rfl rfl ?_ | refine Zai rfl rfl ?_ | refine Za1 rfl rfl rfl rfl ?_ | refine Zmc rfl rfl ?_)
  | refine Zac ?_
  | refine Zab ?_
  | refine Zam rfl (by first | rfl | assumption) ?_
  | fail)
  refine Za4 () id (tm := [(6, .dat (.val (.bool true)))]) ?_ (Za9 rfl rfl)
  (refine ⟨?_, ?_, by rfl⟩ <;> repeat' (first | exact trivial | exact ALe.ptr rfl | exact ALe.own rfl | exact ALe.elt rfl | exact BLe.boxD _ _ | exact BLe.row rfl | exact BLe.res | exact BLe.dead rfl | exact ALe.dat (PLe.refl _) | exact CLe.nil | refine And.intro ?_ ?_ | refine ALe.iface ?_ | refine ALe.clo ?_ | refine CLe.cons ?_ ?_ | refine BLe.box ?_ | refine BLe.row ?_ | exact ALe.any _ | refine ALe.dat (PLe.of_eq ?_)))
 ·have hq : decide (((q.length : Nat) : Int) = 0) = false := by
   cases q with
   | nil => exact absurd rfl hn
   | cons x r => simp; omega
  repeat' (first
  | refine Zag ?_
  | (refine Zao rfl ?_; first | refine Zm5 rfl rfl rfl ?_ | refine Zad rfl rfl ?_ | refine Zai rfl rfl ?_ | refine Za1 rfl rfl rfl rfl ?_ | refine Zgh rfl rfl ?_ | refine Zfu rfl rfl ?_ | refine Za3 (thk [] 200) rfl rfl (by kernel_rfl) (Zng) rfl trivial rfl (Zaj rfl) rfl ?_ | refine Zgx rfl rfl ?_ | refine Zfh rfl rfl (by kernel_rfl) ?_ | refine Zmc rfl rfl ?_ | refine Zd8 rfl Zcr ?_)
  | refine Zac ?_
  | refine Zab ?_
  | refine Zal rfl (by first | rfl | assumption) ?_
  | refine Zax ?_
  | refine Zat ?_
  | fail)
  refine Zaq (ι := { done : List (ByteArray × JV) // (done.map (·.1)).Nodup ∧ (∀ y ∈ done, y ∈ q) ∧ ∀ y ∈ done, eqG m y = true })
   (fun k => [(2, .clo 335 [.ptr 1000 0, .ptr 1001 0, .ptr 1002 0]), (7, .ptr 200 0), (20, .own 20)])
   (fun k => [(20, .res (itR q k.1)), (200, .box 315 [.any]), (1000, .box 398 [.dat (Zih m)]), (1001, .box 204 [.dat dvA]), (1002, .box 271 [.ptr 1003 0]), (1003, .box 315 [.any])])
   (fun k => q.length - k.1.length) ⟨[], by simp, by simp, by simp⟩ id ?_ ?_
  ·(refine ⟨?_, ?_, by rfl⟩ <;> repeat' (first | exact trivial | exact ALe.ptr rfl | exact ALe.own rfl | exact ALe.elt rfl | exact BLe.boxD _ _ | exact BLe.row rfl | exact BLe.res | exact BLe.dead rfl | exact ALe.dat (PLe.refl _) | exact CLe.nil | refine And.intro ?_ ?_ | refine ALe.iface ?_ | refine ALe.clo ?_ | refine CLe.cons ?_ ?_ | refine BLe.box ?_ | refine BLe.row ?_ | exact ALe.any _ | refine ALe.dat (PLe.of_eq ?_)))
  rintro ⟨done, hnd, hsub, hall⟩
  repeat' (first
  | refine Zag ?_
  | refine Zab ?_
  | fail)
  refine Zao rfl (Zr1 rfl rfl rfl (fun hev => ?_) (fun y hy hny => ?_))
  ·have e : q.all (eqG m) = true := List.all_eq_true.2 fun y hy => hall y (hev y hy)
   rw [e]
   repeat' (first
  | refine Zag ?_
  | (refine Zao rfl ?_; first | refine Zad rfl rfl ?_ | refine Zb7 rfl rfl rfl ?_)
  | refine Zac ?_
  | refine Zab ?_
  | refine Zal rfl (by first | rfl | assumption) ?_
  | refine Ze2 rfl ?_
  | fail)
   refine Za4 () id (tm := [(6, .dat (.val (.bool true)))]) ?_ (Za9 rfl rfl)
   (refine ⟨?_, ?_, by rfl⟩ <;> repeat' (first | exact trivial | exact ALe.ptr rfl | exact ALe.own rfl | exact ALe.elt rfl | exact BLe.boxD _ _ | exact BLe.row rfl | exact BLe.res | exact BLe.dead rfl | exact ALe.dat (PLe.refl _) | exact CLe.nil | refine And.intro ?_ ?_ | refine ALe.iface ?_ | refine ALe.clo ?_ | refine CLe.cons ?_ ?_ | refine BLe.box ?_ | refine BLe.row ?_ | exact ALe.any _ | refine ALe.dat (PLe.of_eq ?_)))
  ·have hC := Ylo m y (hE y hy)
   cases hr : eqG m y with
   | true =>
    rw [hr] at hC
    repeat' (first
  | refine Zag ?_
  | (refine Zao rfl ?_; first | refine Zku rfl rfl rfl ?_ | refine Zad rfl rfl ?_ | refine Zai rfl rfl ?_ | refine Zb7 rfl rfl rfl ?_ | refine Zc6 rfl rfl ?_ | refine Zfu rfl rfl ?_ | refine Zcb (thk [(1000, _)] 200) rfl (by kernel_rfl) (Ziq .any _) rfl ⟨rfl, trivial⟩ rfl (Zaj rfl) rfl ?_ | refine Zik (thk [(1000, _), (1001, _), (1002, _), (1003, _), (1004, _)] 200) rfl rfl (by kernel_rfl) (hC) rfl ⟨rfl, ⟨rfl, ⟨rfl, ⟨rfl, ⟨rfl, trivial⟩⟩⟩⟩⟩ rfl (Zaj rfl) rfl ?_ | refine Zht rfl rfl ?_)
  | refine Zac ?_
  | refine Zab ?_
  | refine Zam rfl (by first | rfl | assumption) ?_
  | refine Zal rfl (by first | rfl | assumption) ?_
  | refine Zax ?_
  | refine Zbr ?_
  | refine Zat ?_
  | fail)
    refine Zah ?_
    refine ⟨⟨done ++ [y], ?_, ?_, ?_⟩, id, ?_, ?_⟩
    ·rw [List.map_append, List.nodup_append]
     exact ⟨hnd, by simp, fun a ha b hb => by simp at hb; subst hb; exact fun e => hny (e ▸ ha)⟩
    ·intro z hz
     rcases List.mem_append.1 hz with hz | hz
     ·exact hsub z hz
     ·simp at hz; rw [hz]; exact hy
    ·intro z hz
     rcases List.mem_append.1 hz with hz | hz
     ·exact hall z hz
     ·simp at hz; rw [hz]; exact hr
    ·have h1 : (done ++ [y]).length ≤ q.length := by
      have := Ze1 (a := (done ++ [y]).map (·.1)) (l := q.map (·.1)) (by
       rw [List.map_append, List.nodup_append]
       exact ⟨hnd, by simp, fun a ha b hb => by simp at hb; subst hb; exact fun e => hny (e ▸ ha)⟩) (fun x hx => by
       obtain ⟨z, hz, rfl⟩ := List.mem_map.1 hx
       rcases List.mem_append.1 hz with hz | hz
       ·exact List.mem_map_of_mem (hsub z hz)
       ·simp at hz; rw [hz]; exact List.mem_map_of_mem hy)
      simpa using this
     simp only [List.length_append, List.length_cons, List.length_nil] at h1 ⊢
     omega
    (refine ⟨?_, ?_, by rfl⟩ <;> repeat' (first | exact trivial | exact ALe.ptr rfl | exact ALe.own rfl | exact ALe.elt rfl | exact BLe.boxD _ _ | exact BLe.row rfl | exact BLe.res | exact BLe.dead rfl | exact ALe.dat (PLe.refl _) | exact CLe.nil | refine And.intro ?_ ?_ | refine ALe.iface ?_ | refine ALe.clo ?_ | refine CLe.cons ?_ ?_ | refine BLe.box ?_ | refine BLe.row ?_ | exact ALe.any _ | refine ALe.dat (PLe.of_eq ?_)))
   | false =>
    rw [hr] at hC
    have e : q.all (eqG m) = false := by
     cases h : q.all (eqG m) with
     | false => rfl
     | true => rw [List.all_eq_true.1 h y hy] at hr; cases hr
    rw [e]
    repeat' (first
  | refine Zag ?_
  | (refine Zao rfl ?_; first | refine Zku rfl rfl rfl ?_ | refine Zad rfl rfl ?_ | refine Zai rfl rfl ?_ | refine Zb7 rfl rfl rfl ?_ | refine Zc6 rfl rfl ?_ | refine Zfu rfl rfl ?_ | refine Zcb (thk [(1000, _)] 200) rfl (by kernel_rfl) (Ziq .any _) rfl ⟨rfl, trivial⟩ rfl (Zaj rfl) rfl ?_ | refine Zik (thk [(1000, _), (1001, _), (1002, _), (1003, _), (1004, _)] 200) rfl rfl (by kernel_rfl) (hC) rfl ⟨rfl, ⟨rfl, ⟨rfl, ⟨rfl, ⟨rfl, trivial⟩⟩⟩⟩⟩ rfl (Zaj rfl) rfl ?_ | refine Zht rfl rfl ?_)
  | refine Zac ?_
  | refine Zab ?_
  | refine Zam rfl (by first | rfl | assumption) ?_
  | refine Zax ?_
  | refine Zat ?_
  | fail)
    refine Za4 () id (tm := [(6, .dat (.val (.bool false)))]) ?_ (Za9 rfl rfl)
    (refine ⟨?_, ?_, by rfl⟩ <;> repeat' (first | exact trivial | exact ALe.ptr rfl | exact ALe.own rfl | exact ALe.elt rfl | exact BLe.boxD _ _ | exact BLe.row rfl | exact BLe.res | exact BLe.dead rfl | exact ALe.dat (PLe.refl _) | exact CLe.nil | refine And.intro ?_ ?_ | refine ALe.iface ?_ | refine ALe.clo ?_ | refine CLe.cons ?_ ?_ | refine BLe.box ?_ | refine BLe.row ?_ | exact ALe.any _ | refine ALe.dat (PLe.of_eq ?_)))
theorem Ymu (m q : List (ByteArray × JV)) (hE : ∀ y ∈ q, ∀ x, lkJ m y.1 = some x → PCall Tryz.prog 255 [dvA, dvV x, dvV y.2] (.val (.bool (eqJ x y.2)))) :
  PCall Tryz.prog 325 [Zih m, dvA, dvM q] (.val (.bool (Nat.beq m.length q.length && Ycx m q))) := by
 have hC := Yhf m q hE
 rw [Zx4]
 refine Zaa Tryz.func325 rfl Tryz.ntmps325 rfl (fun X => ?_)
 by_cases hl : m.length = q.length
 ·have hq0 : decide (((m.length : Nat) : Int) ≠ ((q.length : Nat) : Int)) = false := by simp; omega
  have e1 : Nat.beq m.length q.length = true := by rw [hl]; simp
  rw [e1, Bool.true_and]
  by_cases hn : q = []
  ·subst hn
   have hn2 : m = [] := List.eq_nil_of_length_eq_zero hl
   subst hn2
   have hq1 : decide (((([] : List (ByteArray × JV)).length : Nat) : Int) = 0) = true := rfl
   repeat' (first
  | refine Zag ?_
  | (refine Zao rfl ?_; first | refine Zad rfl rfl ?_ | refine Zai rfl rfl ?_ | refine Zr0 rfl rfl rfl (by first | rfl | (simp only [Zap]; rfl)) ?_ | refine Za1 rfl rfl rfl rfl ?_ | refine Zeb rfl rfl rfl (by first | rfl | (simp only [Zap]; rfl)) ?_ | refine Zgi rfl (by kernel_rfl) rfl (by first | exact Zji _) ?_ | refine Zdl rfl rfl (by kernel_rfl) rfl (by first | exact Zji _) ?_)
  | refine Zac ?_
  | refine Zab ?_
  | refine Zam rfl (by first | rfl | assumption) ?_
  | refine Zal rfl (by first | rfl | assumption) ?_
  | refine Zat ?_
  | refine Zak (Zan rfl rfl ?_)
  | fail)
   all_goals exact PLe.refl _
  ·have hq1 : decide (((m.length : Nat) : Int) = 0) = false := by
    rw [hl]
    cases q with
    | nil => exact absurd rfl hn
    | cons x r => simp; omega
   repeat' (first
  | refine Zag ?_
  | (refine Zao rfl ?_; first | refine Zad rfl rfl ?_ | refine Zai rfl rfl ?_ | refine Zr0 rfl rfl rfl (by first | rfl | (simp only [Zap]; rfl)) ?_ | refine Za1 rfl rfl rfl rfl ?_ | refine Zeb rfl rfl rfl (by first | rfl | (simp only [Zap]; rfl)) ?_ | refine Zgi rfl (by kernel_rfl) rfl (by first | exact Zji _) ?_ | refine Zcs rfl rfl rfl rfl rfl ?_ | refine Zlr rfl rfl ?_ | refine Za3 (thk [] 200) rfl rfl (by kernel_rfl) (Zng) rfl trivial rfl (Zaj rfl) rfl ?_ | refine Za3 (thk [(1000, _), (1001, _), (1002, _), (1003, _)] 200) rfl rfl (by kernel_rfl) (hC) rfl ⟨rfl, ⟨rfl, ⟨rfl, ⟨rfl, trivial⟩⟩⟩⟩ rfl (Zaj rfl) rfl ?_ | refine Zdl rfl rfl (by kernel_rfl) rfl (by first | exact Zji _) ?_ | refine Zf9 rfl ?_)
  | refine Zac ?_
  | refine Zab ?_
  | refine Zal rfl (by first | rfl | assumption) ?_
  | refine Zat ?_
  | refine Zak (Zan rfl rfl ?_)
  | refine Zfr (by kernel_rfl) ?_
  | refine Znm (And.intro (by kernel_rfl) ?_)
  | refine Zbm (Ycp rfl rfl rfl (by first | rfl | (simp only [Zap]; rfl))) ?_
  | refine Zbm (Zm1 rfl rfl rfl rfl) ?_
  | refine Zbm (Yjy rfl rfl) ?_
  | refine Zbm (Zxv rfl rfl (by kernel_rfl)) ?_
  | refine Zbm (Yg3 rfl Zcr) ?_
  | fail)
   all_goals exact PLe.refl _
 ·have hq0 : decide (((m.length : Nat) : Int) ≠ ((q.length : Nat) : Int)) = true := by simp; omega
  have e1 : Nat.beq m.length q.length = false := by
   cases h : Nat.beq m.length q.length with
   | false => rfl
   | true => exact absurd (Nat.eq_of_beq_eq_true h) hl
  rw [e1, Bool.false_and]
  repeat' (first
  | refine Zag ?_
  | (refine Zao rfl ?_; first | refine Zad rfl rfl ?_ | refine Zai rfl rfl ?_ | refine Zr0 rfl rfl rfl (by first | rfl | (simp only [Zap]; rfl)) ?_ | refine Za1 rfl rfl rfl rfl ?_ | refine Zeb rfl rfl rfl (by first | rfl | (simp only [Zap]; rfl)) ?_ | refine Zgi rfl (by kernel_rfl) rfl (by first | exact Zji _) ?_ | refine Zdl rfl rfl (by kernel_rfl) rfl (by first | exact Zji _) ?_)
  | refine Zac ?_
  | refine Zab ?_
  | refine Zam rfl (by first | rfl | assumption) ?_
  | refine Zak (Zan rfl rfl ?_)
  | fail)
  all_goals exact PLe.refl _
theorem Ylq : ∀ (j k : JV), (j.IsInt || j.IsFloat) = true → (k.IsInt || k.IsFloat) = true → PCall Tryz.prog 255 [dvA, dvV j, dvV k] (.val (.bool (eqJ j k))) := by
 intro j k hj hk
 refine Zaa Tryz.func255 rfl Tryz.ntmps255 rfl (fun X => ?_)
 cases j <;> simp only [JV.IsInt, JV.IsFloat, Bool.or_self, Bool.false_eq_true, Bool.or_false, Bool.or_true] at hj <;> cases k <;> simp only [JV.IsInt, JV.IsFloat, Bool.or_self, Bool.false_eq_true, Bool.or_false, Bool.or_true] at hk
 all_goals
  repeat' (first
  | refine Zag ?_
  | (refine Zao rfl ?_; first | refine Zad rfl rfl ?_ | refine Zai rfl rfl ?_ | refine Za1 rfl rfl rfl rfl ?_ | refine Zfv rfl rfl (by first | rfl | assumption) rfl ?_ | refine Zen rfl rfl (by first | rfl | assumption) rfl ?_ | refine Zeg rfl rfl rfl (by kernel_rfl) rfl (by first | exact Zbh _ | exact Zb9 _ | exact Zch _ | exact Zem _) ?_ | refine Ydw rfl rfl rfl rfl ?_ | refine Zrx (q := .f64) rfl rfl (by kernel_rfl) (by kernel_rfl) ?_)
  | refine Zac ?_
  | refine Zab ?_
  | refine Zam rfl (by first | rfl | assumption) ?_
  | refine Zal rfl (by first | rfl | assumption) ?_
  | (refine Zc0 rfl rfl (by first | rfl | assumption) ?_; first | refine Zai rfl rfl ?_ | refine Zeg rfl rfl rfl (by kernel_rfl) rfl (by first | exact Zbh _ | exact Zb9 _ | exact Zch _ | exact Zem _) ?_)
  | refine Zoa rfl rfl (by first | rfl | assumption) rfl ?_
  | refine Zat ?_
  | refine Zak (Zan rfl rfl ?_)
  | fail)
 all_goals exact PLe.of_eq (by unfold eqJ; rfl)
theorem Zdu (j k : JV) (hl : (j.IsList && k.IsList) = false) (hm : (j.IsMap && k.IsMap) = false) : PCall Tryz.prog 255 [dvA, dvV j, dvV k] (.val (.bool (eqJ j k))) := by
 by_cases hnum : (j.IsInt || j.IsFloat) = true ∧ (k.IsInt || k.IsFloat) = true
 ·exact Ylq j k hnum.1 hnum.2
 refine Zaa Tryz.func255 rfl Tryz.ntmps255 rfl (fun X => ?_)
 cases j <;> cases k
 all_goals first
  | exact absurd hl (fun h => Bool.noConfusion h)
  | exact absurd hm (fun h => Bool.noConfusion h)
  | exact absurd ⟨rfl, rfl⟩ hnum
  | skip
 all_goals clear hl hm hnum
 all_goals
  repeat' (first
  | refine Zag ?_
  | (refine Zao rfl ?_; first | refine Zad rfl rfl ?_ | refine Zai rfl rfl ?_ | refine Za1 rfl rfl rfl rfl ?_ | refine Zfv rfl rfl (by first | rfl | assumption) rfl ?_ | refine Zen rfl rfl (by first | rfl | assumption) rfl ?_ | refine Zn9 rfl rfl rfl (by kernel_rfl) rfl ?_ | refine Zeg rfl rfl rfl (by kernel_rfl) rfl (by first | exact Zbh _ | exact Zb9 _ | exact Zbb _ | exact Zbu _ | exact Zbv _ | exact Zdg _ | exact Zd2 _ | exact Zcf _ | exact Zd1 _ | exact Zch _ | exact Zem _) ?_)
  | refine Zac ?_
  | refine Zab ?_
  | refine Zam rfl (by first | rfl | assumption) ?_
  | refine Zal rfl (by first | rfl | assumption) ?_
  | (refine Zc0 rfl rfl (by first | rfl | assumption) ?_; first | refine Zai rfl rfl ?_ | refine Zeg rfl rfl rfl (by kernel_rfl) rfl (by first | exact Zbh _ | exact Zb9 _ | exact Zbb _ | exact Zbu _ | exact Zbv _ | exact Zdg _ | exact Zd2 _ | exact Zcf _ | exact Zd1 _ | exact Zch _ | exact Zem _) ?_)
  | refine Zoa rfl rfl (by first | rfl | assumption) rfl ?_
  | refine Zat ?_
  | refine Zak (Zan rfl rfl ?_)
  | fail)
 all_goals exact PLe.of_eq (by unfold eqJ; rfl)
theorem Yhg (l q : List JV) (hE : ∀ x ∈ l, ∀ y ∈ q, PCall Tryz.prog 255 [dvA, dvV x, dvV y] (.val (.bool (eqJ x y)))) : PCall Tryz.prog 255 [dvA, dvV (.list l), dvV (.list q)] (.val (.bool (eqJ (.list l) (.list q)))) := by
 have hC := Ymt l q hE
 rw [show eqJ (.list l) (.list q) = Zm2 l q by unfold eqJ; rfl]
 refine Zaa Tryz.func255 rfl Tryz.ntmps255 rfl (fun X => ?_)
 repeat' (first
  | refine Zag ?_
  | (refine Zao rfl ?_; first | refine Zad rfl rfl ?_ | refine Zai rfl rfl ?_ | refine Zen rfl rfl (by first | rfl | assumption) rfl ?_ | refine Zeg rfl rfl rfl (by kernel_rfl) rfl (by first | exact Zbh _ | exact Zb9 _ | exact Zbb _ | exact Zbu _ | exact Zbv _ | exact Zke _ | exact hC) ?_ | refine Zdl rfl rfl (by kernel_rfl) rfl (by first | exact Zbh _ | exact Zb9 _ | exact Zbb _ | exact Zbu _ | exact Zbv _ | exact Zke _ | exact hC) ?_ | refine Zgx rfl rfl ?_ | refine Zd8 rfl Zcr ?_)
  | refine Zac ?_
  | refine Zab ?_
  | refine Zam rfl (by first | rfl | assumption) ?_
  | refine Zal rfl (by first | rfl | assumption) ?_
  | (refine Zc0 rfl rfl (by first | rfl | assumption) ?_; first | refine Zai rfl rfl ?_ | refine Zeg rfl rfl rfl (by kernel_rfl) rfl (by first | exact Zbh _ | exact Zb9 _ | exact Zbb _ | exact Zbu _ | exact Zbv _ | exact Zke _ | exact hC) ?_)
  | refine Zat ?_
  | refine Zak (Zan rfl rfl ?_)
  | fail)
 all_goals exact PLe.refl _
theorem Ylp (m q : List (ByteArray × JV)) (hE : ∀ y ∈ q, ∀ x, lkJ m y.1 = some x → PCall Tryz.prog 255 [dvA, dvV x, dvV y.2] (.val (.bool (eqJ x y.2)))) : PCall Tryz.prog 255 [dvA, dvV (.map m), dvV (.map q)] (.val (.bool (eqJ (.map m) (.map q)))) := by
 have hC := Ymu m q hE
 rw [show eqJ (.map m) (.map q) = (Nat.beq m.length q.length && Ycx m q) by unfold eqJ; rfl]
 refine Zaa Tryz.func255 rfl Tryz.ntmps255 rfl (fun X => ?_)
 repeat' (first
  | refine Zag ?_
  | (refine Zao rfl ?_; first | refine Zad rfl rfl ?_ | refine Zai rfl rfl ?_ | refine Zen rfl rfl (by first | rfl | assumption) rfl ?_ | refine Zeg rfl rfl rfl (by kernel_rfl) rfl (by first | exact Zbh _ | exact Zb9 _ | exact Zbb _ | exact Zbu _ | exact Zbv _ | exact Zdg _ | exact Zni _ | exact hC) ?_ | refine Zdl rfl rfl (by kernel_rfl) rfl (by first | exact Zbh _ | exact Zb9 _ | exact Zbb _ | exact Zbu _ | exact Zbv _ | exact Zdg _ | exact Zni _ | exact hC) ?_ | refine Zgx rfl rfl ?_ | refine Zd8 rfl Zcr ?_)
  | refine Zac ?_
  | refine Zab ?_
  | refine Zam rfl (by first | rfl | assumption) ?_
  | refine Zal rfl (by first | rfl | assumption) ?_
  | (refine Zc0 rfl rfl (by first | rfl | assumption) ?_; first | refine Zai rfl rfl ?_ | refine Zeg rfl rfl rfl (by kernel_rfl) rfl (by first | exact Zbh _ | exact Zb9 _ | exact Zbb _ | exact Zbu _ | exact Zbv _ | exact Zdg _ | exact Zni _ | exact hC) ?_)
  | refine Zat ?_
  | refine Zak (Zan rfl rfl ?_)
  | fail)
 all_goals exact PLe.refl _
theorem Ylt : ∀ (k j : JV), PCall Tryz.prog 255 [dvA, dvV j, dvV k] (.val (.bool (eqJ j k)))
 | .list q, .list l => Yhg l q (fun x _ y hy => Ylt y x)
 | .map q, .map m => Ylp m q (fun y hy x _ => Ylt y.2 x)
 | .list q, .null => Zdu _ _ rfl rfl
 | .list q, .bool _ => Zdu _ _ rfl rfl
 | .list q, .int _ => Zdu _ _ rfl rfl
 | .list q, .flt _ => Zdu _ _ rfl rfl
 | .list q, .str _ => Zdu _ _ rfl rfl
 | .list q, .map _ => Zdu _ _ rfl rfl
 | .map q, .null => Zdu _ _ rfl rfl
 | .map q, .bool _ => Zdu _ _ rfl rfl
 | .map q, .int _ => Zdu _ _ rfl rfl
 | .map q, .flt _ => Zdu _ _ rfl rfl
 | .map q, .str _ => Zdu _ _ rfl rfl
 | .map q, .list _ => Zdu _ _ rfl rfl
 | .null, j => Zdu _ _ (by cases j <;> rfl) (by cases j <;> rfl)
 | .bool _, j => Zdu _ _ (by cases j <;> rfl) (by cases j <;> rfl)
 | .int _, j => Zdu _ _ (by cases j <;> rfl) (by cases j <;> rfl)
 | .flt _, j => Zdu _ _ (by cases j <;> rfl) (by cases j <;> rfl)
 | .str _, j => Zdu _ _ (by cases j <;> rfl) (by cases j <;> rfl)
termination_by k => SizeOf.sizeOf k
decreasing_by
 all_goals simp_wf
 ·have := List.sizeOf_lt_of_mem hy; omega
 ·have := List.sizeOf_lt_of_mem hy
  obtain ⟨y1, y2⟩ := y
  simp at this ⊢
  omega
theorem Zyb (j k : JV) : PCall Tryz.prog 242 [dvV j, dvV k] (.val (.bool (eqJ j k))) := by
 have hC := Ylt k j
 refine Zaa Tryz.func242 rfl Tryz.ntmps242 rfl (fun X => ?_)
 repeat' (first
  | refine Zag ?_
  | (refine Zao rfl ?_; first | refine Zad rfl rfl ?_ | refine Zai rfl rfl ?_ | refine Zeb rfl rfl rfl (by first | rfl | (simp only [Zap]; rfl)) ?_ | refine Zlu rfl rfl rfl ?_ | refine Zfh rfl rfl (by kernel_rfl) ?_ | refine Zij gV rfl (by kernel_rfl) rfl (by first | exact hC) Flat.val ?_)
  | refine Zac ?_
  | refine Zab ?_
  | refine Zak (Zan rfl rfl ?_)
  | fail)
 all_goals exact PLe.refl _
def Zcy (x : GV) : Bool := decide (x.kind = 2) || decide (x.kind = 3)
def asF (x : GV) : Nat := if x.kind = 2 then floatOfInt FloatKind.f64 x.n else x.f
def Znp (a b : Nat) : Int := if FloatKind.f64.format.order a b == some .lt then -1 else if FloatKind.f64.format.order a b == some .gt then 1 else 0
theorem Yng (a b : ByteArray) : PCall Tryz.prog 157 [.val (.string a), .val (.string b)] (.val (.int .i64 (Zed a b))) := by
 intro w F vs hF hv
 unfold Reps at hv; obtain ⟨v, r, rfl, h1, hv⟩ := hv
 unfold Reps at hv; obtain ⟨v', r', rfl, h2, hv⟩ := hv
 unfold Reps at hv; subst hv
 unfold Rep at h1 h2
 obtain ⟨rfl, ha⟩ := h1
 obtain ⟨rfl, hb⟩ := h2
 refine (Zj6 a b w ha hb).mono ?_
 rintro e w' ⟨rfl, hB⟩
 refine ⟨_, rfl, hB, ?_⟩
 unfold Rep
 refine ⟨rfl, ?_⟩
 show (Lit.int .i64 _).wf = true
 unfold Zed
 split
 ·rfl
 ·split <;> rfl
def Zcz (x : GV) : Int := if x.kind = 2 then 0 else if x.kind = 3 then 0 else if x.kind = 4 then 1 else if x.kind = 1 then 2 else if x.kind = 5 then 3 else if x.kind = 6 then 4 else 5
mutual
/-- How two plain values compare. -/
def Zgs : GV → GV → Int
 | .mk k n f s ks l, .mk k' n' f' s' ks' l' =>
  if Zcg (Zcz (.mk k n f s ks l)) (Zcz (.mk k' n' f' s' ks' l')) ≠ 0 then Zcg (Zcz (.mk k n f s ks l)) (Zcz (.mk k' n' f' s' ks' l'))
  else if Zcz (.mk k n f s ks l) = 0 then (if k = 2 ∧ k' = 2 then Zcg n n' else Znp (asF (.mk k n f s ks l)) (asF (.mk k' n' f' s' ks' l')))
  else if Zcz (.mk k n f s ks l) = 1 then Zed s s'
  else if Zcz (.mk k n f s ks l) = 2 then Zcg n n'
  else if Zcz (.mk k n f s ks l) = 3 then Zfo l l'
  else if Zcz (.mk k n f s ks l) = 4 then Zdr ks l ks' l'
  else 0
def Zfo : List GV → List GV → Int
 | x :: r, y :: q => if Zgs x y ≠ 0 then Zgs x y else Zfo r q
 | [], b => Zcg 0 b.length
 | a, [] => Zcg a.length 0
def Zdr : List ByteArray → List GV → List ByteArray → List GV → Int
 | k :: ks, x :: l, k' :: ks', y :: l' => if Zed k k' ≠ 0 then Zed k k' else if Zgs x y ≠ 0 then Zgs x y else Zdr ks l ks' l'
 | ks, _, ks', _ => Zcg ks.length ks'.length
end
theorem Yqe (x : GV) : PCall Tryz.prog 93 [qV x] (.val (.bool (Zje x))) := by
 have := Ye4 (P := Tryz.prog) (f := 93) (x := x) (u := .bool (Zje x)) trivial (fun w v hv => (Zww x).use w v hv)
 rw [Zu1] at this
 exact this
mutual
/-- Two plain values are equal. -/
def eqP : GV → GV → Bool
 | .mk k n f s ks l, .mk k' n' f' s' ks' l' =>
  if (Zcy (.mk k n f s ks l) && Zcy (.mk k' n' f' s' ks' l')) = true then
   (if k = 2 ∧ k' = 2 then decide (n = n') else feq (asF (.mk k n f s ks l)) (asF (.mk k' n' f' s' ks' l')))
  else decide (k = k') && (decide (n = n') && (decide (s = s') && (decide (ks = ks') && Zjt l l')))
def Zjt : List GV → List GV → Bool
 | [], [] => true
 | x :: r, y :: q => eqP x y && Zjt r q
 | _, _ => false
end
theorem Ztq : ∀ {a b : List GV}, a.length = b.length → (∀ (i : Nat) (x y : GV), a[i]? = some x → b[i]? = some y → eqP x y = true) → Zjt a b = true
 | [], [], _, _ => by unfold Zjt; rfl
 | x :: r, y :: q, hl, h => by
  unfold Zjt
  rw [h 0 x y rfl rfl, Ztq (by simpa using hl) (fun i x y hx hy => h (i + 1) x y (by simpa using hx) (by simpa using hy))]
  rfl
 | [], _ :: _, hl, _ => by simp at hl
 | _ :: _, [], hl, _ => by simp at hl
theorem Zp3 : ∀ {a b : List GV} {i : Nat} {x y : GV}, a[i]? = some x → b[i]? = some y → eqP x y = false → Zjt a b = false
 | x' :: r, y' :: q, 0, x, y, hx, hy, h => by
  simp only [List.getElem?_cons_zero, Option.some.injEq] at hx hy
  subst hx hy
  unfold Zjt
  rw [h]; rfl
 | x' :: r, y' :: q, i + 1, x, y, hx, hy, h => by
  unfold Zjt
  rw [Zp3 (by simpa using hx) (by simpa using hy) h]
  simp
 | [], _, _, _, _, hx, _, _ => by simp at hx
 | _ :: _, [], _, _, _, _, hy, _ => by simp at hy
theorem Yhj {a b : List GV} (h : Zjt a b = true) (i : Nat) (x y : GV) (hx : a[i]? = some x) (hy : b[i]? = some y) : eqP x y = true := by
 cases e : eqP x y with
 | true => rfl
 | false => rw [Zp3 hx hy e] at h; cases h
end Go.Proofs.YtgmahieoiifpfaaGreat
