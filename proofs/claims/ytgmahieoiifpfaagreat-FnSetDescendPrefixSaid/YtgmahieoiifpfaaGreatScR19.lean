/- Part 19 of what the proof rests on. -/
import Derived.Test.YtgmahieoiifpfaaGreatScR17
import Derived.Test.YtgmahieoiifpfaaGreatScR18
set_option linter.unusedSimpArgs false
set_option linter.unusedVariables false
namespace Go.Proofs.YtgmahieoiifpfaaGreat
open Go.RowKit
theorem Yd0 {t : ST PEV} {ps : List (List PEV)} {P : PEV → Prop} (O : OrdL Zaf P) (ht : WFT Zaf P t) (hn : NET t) (h : ∀ p ∈ ps, ∀ x ∈ p, P x) : WFT Zaf P (fdT t ps) ∧ NET (fdT t ps) ∧ ∀ q, PP P q → Zdl Zaf (fdT t ps) q = (Zdl Zaf t q || Zbn (cw Zaf) ps q) := Zoz O ps t h ht hn
theorem Yqq {d : Nat} {ps : List (List PEV)} {t : ST PEV} (h : ∀ p ∈ ps, p.length ≤ d + 1) (ht : dpT t ≤ d) : dpT (fdT t ps) ≤ d := by
 unfold fdT
 induction ps generalizing t with
 | nil => exact ht
 | cons p ps ih => exact ih (fun q hq => h q (by simp [hq])) (Yep p t (h p (by simp)) ht)
theorem Zv1 {p : PEV} {j : ST PEV} : ∀ (l : List (PEV × ST PEV)), (Zba (Zgz Zaf l p j)).length ≤ (Zba l).length + (Zc0 j).length
 | [] => by
  unfold Zgz Zba
  rw [List.length_append, List.length_map]
  unfold Zba
  simp
 | y :: r => by
  have ih := Zv1 (p := p) (j := j) r
  unfold Zgz
  split
  ·unfold Zba
   rw [List.length_append, List.length_append]
   omega
  ·split
   ·unfold Zba
    rw [List.length_append, List.length_append, List.length_map, List.length_map]
    show (Zc0 j).length + _ ≤ _
    omega
   ·have e : Zba ((p, j) :: y :: r) = (Zc0 j).map (p :: ·) ++ Zba (y :: r) := by conv => lhs; unfold Zba
    rw [e, List.length_append, List.length_map]
    omega
section
variable {a m : List (List EV)} (ha : LOk a) (hm : LOk m) {e : EV} (he : PR (Zaz e))
include ha hm he
theorem Yc1 : WFT Zaf PR (fdT (wpT (inT a) (Zaz e)) (m.map (·.map Zaz))) ∧ NET (fdT (wpT (inT a) (Zaz e)) (m.map (·.map Zaz))) ∧ ∀ q q', Br q q' → q ≠ [] → Zdl Zaf (fdT (wpT (inT a) (Zaz e)) (m.map (·.map Zaz))) q' = (Zdl Zaf (wpT (inT a) (Zaz e)) q' || Zdl Zaf (inT m) q') := by
 have _ := he
 have tw := Ztg ha.t (Zaz e)
 obtain ⟨h1, h2, h3⟩ := Yd0 (ps := m.map (·.map Zaz)) Zvi tw.w tw.e (PsOk.el hm.ok)
 obtain ⟨_, _, h4⟩ := Yd0 (ps := m.map (·.map Zaz)) ordPE tw.o tw.e (fun p hp x hx => (PsOk.el hm.ok p hp x hx).1)
 refine ⟨h1, h2, fun q q' hq hn => ?_⟩
 rw [h4 q' (hq.pp hn), Zoe hm.ok hq hn, Yk7 hm.ok.raw hq]
theorem Yts : WFT Zaf PR (bwT (inT a) (Zaz e) (m.map (·.map Zaz))) := by
 obtain ⟨h1, h2, h3, h4⟩ := WFT_iff.1 ha.t.w
 have h4' := WFC_iff.1 h4
 refine WFT_iff.2 ⟨h1, h2, ?_, WFC_iff.2 fun y hy => ?_⟩
 ·show Srt Zaf ((Zgz Zaf _ _ _).map (·.1))
  rw [Zoi]
  exact Zle Zvi (fun x hx => by obtain ⟨y, hy, rfl⟩ := List.mem_map.1 hx; exact (h4' y hy).1) he h3
 ·have hy : y ∈ Zgz Zaf (inT a).c (Zaz e) (fdT (wpT (inT a) (Zaz e)) (m.map (·.map Zaz))) := hy
  rcases Zf7 hy with hy | ⟨e1, h | ⟨z, hz, e'⟩⟩
  ·exact h4' y hy
  ·rw [e1, h]; exact ⟨he, (Yc1 ha hm he).1⟩
  ·rw [e1, ← e']; exact ⟨(h4' z hz).1, (Yc1 ha hm he).1⟩
theorem Ys3 {q : List EV} {q' : List PEV} (hq : Br q q') (hn : q ≠ []) {x : PEV} (hx : PR x) (hc : Zaf (Zaz e) x = 0) : Zdl Zaf (bwT (inT a) (Zaz e) (m.map (·.map Zaz))) (x :: q') = (Zdl Zaf (wpT (inT a) (Zaz e)) q' || Zdl Zaf (inT m) q') := by
 rw [Zfl _ _ (hq.ne hn)]
 rw [show (bwT (inT a) (Zaz e) (m.map (·.map Zaz))).c = Zgz Zaf (inT a).c (Zaz e) (fdT (wpT (inT a) (Zaz e)) (m.map (·.map Zaz))) from rfl, Zr9 Zvi _ (fun y hy => (Zfp ha.t.w hy).1) he hx, if_pos hc]
 exact (Yc1 ha hm he).2.2 q q' hq hn
theorem Yqb {q' : List PEV} (hn : q' ≠ []) {x : PEV} (hx : PR x) (hc : Zaf (Zaz e) x ≠ 0) : Zdl Zaf (bwT (inT a) (Zaz e) (m.map (·.map Zaz))) (x :: q') = Zdl Zaf (inT a) (x :: q') := by
 have _ := hm
 rw [Zfl _ _ hn, Zfl _ _ hn]
 rw [show (bwT (inT a) (Zaz e) (m.map (·.map Zaz))).c = Zgz Zaf (inT a).c (Zaz e) (fdT (wpT (inT a) (Zaz e)) (m.map (·.map Zaz))) from rfl, Zr9 Zvi _ (fun y hy => (Zfp ha.t.w hy).1) he hx, if_neg hc]
theorem Ytr (la : a.length ≤ 60) (lm : m.length ≤ 60) (pa : ∀ p ∈ a, p.length ≤ 8) (pm : ∀ p ∈ m, p.length ≤ 8) : TWf (bwT (inT a) (Zaz e) (m.map (·.map Zaz))) := by
 have tw := Ztg ha.t (Zaz e)
 have hfd := Yc1 ha hm he
 have da : dpT (inT a) ≤ 7 := Ylq fun p hp => by
  obtain ⟨q, hq, rfl⟩ := List.mem_map.1 hp
  rw [List.length_map]
  exact pa q hq
 have dw : dpT (wpT (inT a) (Zaz e)) ≤ 7 := by
  unfold wpT
  cases hg : Zea Zaf (inT a).c (Zaz e) with
  | none =>
   show dpT (ST.mk [] []) ≤ 7
   rw [Zry]; show dpC [] ≤ 7; unfold dpC; omega
  | some t' =>
   obtain ⟨k, hk, _⟩ := Ziq hg
   have := Zeu hk
   show dpT t' ≤ 7
   simp only at this
   omega
 have dm := Yqq (d := 7) (ps := m.map (·.map Zaz)) (t := wpT (inT a) (Zaz e)) (fun p hp => by
  obtain ⟨q, hq, rfl⟩ := List.mem_map.1 hp
  rw [List.length_map]
  exact pm q hq) dw
 have kf : (Zc0 (fdT (wpT (inT a) (Zaz e)) (m.map (·.map Zaz)))).length ≤ a.length + m.length := by
  have h1 := Yau Yj8 (Zf3 (fun _ h => h.z) _ hfd.1) (Zf3 (fun _ h => h.z) _ tw.w) (Zf3 (fun _ h => h.z) _ hm.t.w) fun q' hq' => by
   obtain ⟨q, hb, hl⟩ := Yhy q' hq'.2
   exact hfd.2.2 q q' hb fun e => hq'.1 (List.eq_nil_of_length_eq_zero (by rw [← hl, e]; rfl))
  have := tw.k
  have := hm.t.k
  omega
 have ka := ha.t.k
 rw [Zj2, List.length_append, List.length_map] at ka
 refine ⟨Yts ha hm he, ?_, ?_, ?_⟩
 ·rw [Zry]
  refine Yds fun y hy => ?_
  have hy : y ∈ Zgz Zaf (inT a).c (Zaz e) (fdT (wpT (inT a) (Zaz e)) (m.map (·.map Zaz))) := hy
  rcases Zf7 hy with hy | ⟨e1, _⟩
  ·have := Zeu hy; omega
  ·rw [e1]; omega
 ·rw [Zj2, List.length_append, List.length_map]
  have h1 := Zv1 (p := Zaz e) (j := fdT (wpT (inT a) (Zaz e)) (m.map (·.map Zaz))) (inT a).c
  show (inT a).m.length + (Zba (Zgz Zaf _ _ _)).length ≤ _
  omega
 ·obtain ⟨z1, z2, z3⟩ := SzT_iff.1 ha.t.sz
  have zf := Yli (ps := m.map (·.map Zaz)) tw.sz
  rw [List.length_map] at zf
  refine SzT_iff.2 ⟨by show (inT a).m.length ≤ _; omega, Nat.le_trans (Zse _ _ _) (by omega), fun y hy => ?_⟩
  have hy : y ∈ Zgz Zaf (inT a).c (Zaz e) (fdT (wpT (inT a) (Zaz e)) (m.map (·.map Zaz))) := hy
  rcases Zf7 hy with hy | ⟨e1, _⟩
  ·exact Zg2 (by omega) _ (z3 y hy)
  ·rw [e1]; exact Zg2 (by omega) _ zf
end
theorem Ylk {t : ST PEV} (h : TWf t) : LOk (Zef t) := ⟨Zze h.w, fun p hp => by
 obtain ⟨r, hr, rfl⟩ := List.mem_map.1 hp
 have := Zxu t r hr
 have := h.d
 rw [List.length_map]
 omega, by rw [Zfx h.w]; exact h.k⟩
theorem Zsz {t : ST PEV} (h : TWf t) {q : List EV} {q' : List PEV} (hb : Br q q') (hq : q ≠ []) : Zdl Zaf (inT (Zef t)) q' = Zdl Zaf t q' := by
 rw [Zoe (Zze h.w) hb hq, Zez h.w hb hq]
theorem Ykc {t : ST PEV} (h : TWf t) : (Zc0 (inT (Zef t))).length = (Zc0 t).length := by
 have hL := Ylk h
 rw [← Zfx hL.t.w, ← Zfx h.w]
 refine Zfs (Zpo (Ze0 hL.t.w) (Ze0 h.w) fun q hq => ?_)
 obtain ⟨q', hbr⟩ := Ztp q hq.2
 rw [Zez hL.t.w hbr hq.1, Zez h.w hbr hq.1, Zsz h hbr hq.1]
theorem Ycb {m : List (List EV)} (hm : LOk m) : (Zb1 m).length = (Zc0 (inT m)).length := by
 rw [← Zfx hm.t.w]
 refine (Zfs (Zpo (Ze0 hm.t.w) (Zha (PsOk.oe hm.ok)) fun q hq => ?_)).symm
 obtain ⟨q', hbr⟩ := Ztp q hq.2
 rw [Zez hm.t.w hbr hq.1, Zoe hm.ok hbr hq.1, Zld (PsOk.oe hm.ok) hq]
theorem Yqm {p q : PEV} (hp : PR p) (hq : PR q) (h : Zaf p q = 0) : eqE (Zei p) (Zei q) = true := by
 rw [Ydv (Yl6 hp) (Yl6 hq), (Yk6 hq).cmp2 hp]
 exact h
theorem Yrk {A B : List PEV} (hA : ∀ x ∈ A, PR x) (hB : ∀ x ∈ B, PR x) (h : Zca Zaf A B = 0) : Zfa eqE (A.map Zei) (B.map Zei) = true := by
 obtain ⟨hl, hz⟩ := cmpLx_zero.1 h
 refine eqLx_iff.2 ⟨by simp [hl], fun i x y hx hy => ?_⟩
 rw [List.getElem?_map, Option.map_eq_some_iff] at hx hy
 obtain ⟨p, hp, rfl⟩ := hx
 obtain ⟨q, hq, rfl⟩ := hy
 exact Yqm (hA p (List.mem_of_getElem? hp)) (hB q (List.mem_of_getElem? hq)) (hz i p q hp hq)
end Go.Proofs.YtgmahieoiifpfaaGreat
