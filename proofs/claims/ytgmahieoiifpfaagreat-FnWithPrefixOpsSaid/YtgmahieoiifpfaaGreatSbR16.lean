/- Part 16 of what the proof rests on. -/
import Derived.Test.YtgmahieoiifpfaaGreatSbR10
import Derived.Test.YtgmahieoiifpfaaGreatSbR12
set_option linter.unusedSimpArgs false
set_option linter.unusedVariables false
set_option maxHeartbeats 2000000
namespace Go.Proofs.YtgmahieoiifpfaaGreat
open Go.RowKit
theorem Yjc (l : List (PEV × ST PEV)) (p : PEV) (hl : ∀ y ∈ l, OPE y.1) (hp : OPE p) (hs : Srt Zae (l.map (·.1))) :
  PCall Tryz.prog 163 [.ptr (.agg [.sl 5 40 (Zau l)]), Zav p] (.tup [(match Zd6 Zae l p with | some t => .ptr (Zaz t) | none => .val (.pointer none)), .val (.bool (Zd6 Zae l p).isSome)]) := by
 rw [Zbz]
 have ek : (l.map fun y => (y.1, PD.ptr (Zaz y.2))).map (·.1) = l.map (·.1) := by rw [List.map_map]; rfl
 have e : (l.map fun y => (y.1, PD.ptr (Zaz y.2))).map dN = l.map nd := by rw [List.map_map]; rfl
 have c1 := Ygr (l.map fun y => (y.1, PD.ptr (Zaz y.2))) p (by
  rw [ek]
  intro x hx
  obtain ⟨y, hy, rfl⟩ := List.mem_map.1 hx
  exact hl y hy) hp (by rw [ek]; exact hs)
 rw [e, ek] at c1
 obtain ⟨u0, u1, u2, u3, ep⟩ := Zft p
 rw [ep] at c1 ⊢
 cases hf : Ze8 Zae (l.map (·.1)) p with
 | true =>
  obtain ⟨x, hx, _, hg⟩ := Zm3 l p (ST.mk [] []) hf
  have i1 := Ze0 nd hx
  obtain ⟨v0, v1, v2, v3, ex, _⟩ := Zfx x
  rw [show nd x = nd (x.1, x.2) from rfl, ex] at i1
  rw [hf] at c1
  rw [hg]
  simp only [Option.isSome_some]
  have hb : (0 : Int) ≤ ((Zbc Zae (l.map (·.1)) p : Nat) : Int) := Int.natCast_nonneg _
  clear hx ex hg hf ek e hs hl
  generalize ((Zbc Zae (l.map (·.1)) p : Nat) : Int) = loc at *
  generalize l.map nd = da at *
  generalize Zaz x.2 = dx at *
  refine Zaa Tryz.func163 rfl Tryz.ntmps163 rfl (fun X => ?_)
  exact wke
 | false =>
  obtain ⟨_, hg⟩ := Zm4 l p (ST.mk [] []) hf
  rw [hf] at c1
  rw [hg]
  simp only [Option.isSome_none]
  clear hg hf ek e hs hl
  generalize ((Zbc Zae (l.map (·.1)) p : Nat) : Int) = loc at *
  generalize l.map nd = da at *
  refine Zaa Tryz.func163 rfl Tryz.ntmps163 rfl (fun X => ?_)
  exact wke
def wpT (t : ST PEV) (p : PEV) : ST PEV := (Zd6 Zae t.c p).getD (.mk [] [])
theorem Zh7 (t : ST PEV) (p : PEV) {q : List PEV} (hq : q ≠ []) : Zcn Zae (wpT t p) q = Zcn Zae t (p :: q) := by
 unfold wpT
 rw [Zyf, Zf3 _ _ hq]
 all_goals rfl
theorem Ymw (n : Nat) : TOk (.mk [] []) n := ⟨Zgy, NET_iff.2 (by simp [ST.c]), by rw [Ztm]; show dpC [] ≤ _; unfold dpC; omega, by rw [Zw4]; simp only [ST.m, ST.c]; unfold Zby; simp⟩
theorem Zvj : ∀ {l : List (PEV × ST PEV)} {y : PEV × ST PEV}, y ∈ l → (Zer y.2).length ≤ (Zby l).length
 | z :: r, y, h => by
  unfold Zby
  rw [List.length_append, List.length_map]
  rcases List.mem_cons.1 h with rfl | h
  ·omega
  ·have := Zvj h; omega
theorem Zfy {t : ST PEV} {n : Nat} (h : TOk t n) (p : PEV) : TOk (wpT t p) n := by
 unfold wpT
 cases hg : Zd6 Zae t.c p with
 | none => exact Ymw n
 | some t' =>
  obtain ⟨k, hk, _⟩ := Zlp hg
  have hd := Zdi hk
  have hw := Zvj hk
  have hn := h.k
  rw [Zw4, List.length_append] at hn
  exact ⟨(Zdq h.w hk).2, (NET_iff.1 h.e _ hk).2, by have := h.d; simp only at hd; show dpT t' ≤ _; omega, by simp only at hw; show (Zer t').length ≤ _; omega⟩
theorem Yil : PCall Tryz.prog 140 [.val (.slice none 0 0)] (.ptr (Zaz (.mk [] []))) := Zmi (az := [.val (.slice none 0 0)]) Zyx
theorem Zvk {t : ST PEV} {n : Nat} (h : TOk t n) (p : PEV) (hp : OPE p) : PCall Tryz.prog 100 [.ptr (Zaz t), Zav p] (.ptr (Zaz (wpT t p))) := by
 obtain ⟨m, ch⟩ := t
 obtain ⟨_, _, h3, h4⟩ := WFT_iff.1 h.o
 have h4 := WFC_iff.1 h4
 simp only [ST.c] at h3 h4
 have c1 := Yjc ch p (fun y hy => (h4 y hy).1) hp h3
 have c2 := Yil
 unfold wpT
 simp only [ST.c]
 obtain ⟨u0, u1, u2, u3, ep⟩ := Zft p
 rw [ep] at c1 ⊢
 clear h3 h4 h ep
 cases hg : Zd6 Zae ch p with
 | none =>
  rw [hg] at c1
  simp only [Option.isSome_none] at c1
  simp only [Option.getD_none]
  generalize hd : Zaz (.mk [] []) = d0 at *
  unfold Zaz
  generalize Zau ch = dc at *
  generalize m.map Zav = dm at *
  refine Zaa Tryz.func100 rfl Tryz.ntmps100 rfl (fun X => ?_)
  exact wke
 | some t' =>
  rw [hg] at c1
  simp only [Option.isSome_some] at c1
  simp only [Option.getD_some]
  generalize Zaz t' = d0 at *
  clear c2
  unfold Zaz
  generalize Zau ch = dc at *
  generalize m.map Zav = dm at *
  refine Zaa Tryz.func100 rfl Tryz.ntmps100 rfl (fun X => ?_)
  exact wke
theorem Ypo {t : ST PEV} {n : Nat} (h : TOk t n) (p : PEV) (hp : OPE p) : PCall Tryz.prog 122 [.ptr (Zaz t), .sl 4 32 [Zav p]] (.val (.bool (Zcn Zae t [p]))) := by
 obtain ⟨m, ch⟩ := t
 obtain ⟨h1, h2, _, _⟩ := WFT_iff.1 h.o
 simp only [ST.m] at h1 h2
 have c1 := Zzi m p h1 hp h2
 rw [Zd7]
 show PCall _ _ _ (.val (.bool (Za2 Zae m p)))
 obtain ⟨u0, u1, u2, u3, ep⟩ := Zft p
 rw [ep] at c1 ⊢
 obtain ⟨dl, hdl⟩ : ∃ dl, dl = [PD.agg [u0, u1, u2, u3]] := ⟨_, rfl⟩
 have i1 : dl[(0 : Int).toNat]? = some (.agg [u0, u1, u2, u3]) := by rw [hdl]; rfl
 have n1 : dl.length = 1 := by rw [hdl]; rfl
 rw [← hdl]
 unfold Zaz
 clear h1 h2 h ep hdl
 generalize Za2 Zae m p = r at *
 generalize Zau ch = dc at *
 generalize m.map Zav = dm at *
 have g1 : decide (((dl.length : Nat) : Int) = 0) = false := decide_eq_false (by omega)
 have g2 : decide (((dl.length : Nat) : Int) = 1) = true := decide_eq_true (by omega)
 refine Zaa Tryz.func122 rfl Tryz.ntmps122 rfl (fun X => ?_)
 refine wk ?_
 refine Zaq (ι := Unit) (fun _ => [(0, .dat (.ptr (.agg [.sl 4 32 dm, .sl 5 40 dc]))), (1, .dat (.sl 4 32 dl))]) (fun _ => []) (fun _ => 0) () id ?_ (fun _ => ?_)
 ·exact sb
 exact wke
structure LOk (l : List (List EV)) : Prop where
 ok : PsOk l
 ln : Zq9 l
 n : l.length ≤ 549755813888
theorem Zkp {t : ST PEV} {n : Nat} (h : TOk t n) (hn : n ≤ 549755813888) : LOk (Zbw t) := ⟨Zh3 h.w, Zyi h, by rw [Zrq h.w]; have := h.k; omega⟩
theorem LOk.t {l : List (List EV)} (h : LOk l) : TOk (inT l) l.length := Zh4 h.ok h.ln (Nat.le_refl _)
theorem Zz1 {a : List (List EV)} (ha : LOk a) (e : EV) (he : OPE (Zbg e)) : PCall Tryz.prog 40 [.sl 1 24 (a.map pdP), pdE e] (.sl 1 24 ((Zbw (wpT (inT a) (Zbg e))).map pdP)) := by
 have c1 := Zfe a ha.ok ha.n
 have c2 := Zzo e
 have c3 := Zvk ha.t (Zbg e) he
 have c4 := Zii (Zfy ha.t (Zbg e)) (by have := ha.n; omega)
 obtain ⟨u0, u1, u2, u3, ep⟩ := Zft (Zbg e)
 rw [ep] at c2 c3
 clear ha he ep
 generalize (Zbw _).map pdP = d1 at *
 generalize Zaz (wpT _ _) = d2 at *
 generalize Zaz (inT a) = d3 at *
 generalize a.map pdP = d5 at *
 unfold pdE at c2 ⊢
 refine Zaa Tryz.func40 rfl Tryz.ntmps40 rfl (fun X => ?_)
 exact wke
theorem Yko {a : List (List EV)} (ha : LOk a) (e : EV) (he : OPE (Zbg e)) : PCall Tryz.prog 59 [.sl 1 24 (a.map pdP), .sl 11 168 [pdE e]] (.val (.bool (Zcn Zae (inT a) [Zbg e]))) := by
 have c1 := Zfe a ha.ok ha.n
 have c2 : PCall Tryz.prog 98 [.sl 11 168 [pdE e]] (.sl 4 32 [Zav (Zbg e)]) := Zzp [e]
 have c3 := Ypo ha.t (Zbg e) he
 clear ha he
 generalize [Zav (Zbg e)] = d4 at *
 generalize Zcn Zae (inT a) [Zbg e] = r at *
 generalize Zaz (inT a) = d3 at *
 generalize a.map pdP = d5 at *
 generalize [pdE e] = d6 at *
 refine Zaa Tryz.func59 rfl Tryz.ntmps59 rfl (fun X => ?_)
 exact wke
end Go.Proofs.YtgmahieoiifpfaaGreat
