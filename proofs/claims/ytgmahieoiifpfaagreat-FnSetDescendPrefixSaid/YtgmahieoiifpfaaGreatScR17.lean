/- Part 17 of what the proof rests on. -/
import Derived.Test.YtgmahieoiifpfaaGreatScR13
set_option linter.unusedSimpArgs false
set_option linter.unusedVariables false
set_option maxHeartbeats 4000000
set_option maxRecDepth 100000
namespace Go.Proofs.YtgmahieoiifpfaaGreat
open Go.RowKit
structure TWf (t : ST PEV) : Prop where
 w : WFT Zaf PR t
 d : dpT t ≤ 837723144946
 k : (Zc0 t).length ≤ 549755813888
 z : SzT 1099511627776 t
theorem Yew {t : ST PEV} (h : TWf t) :
  Zbv Tryz.prog 152 [.dat (.ptr (Zbs t)), .clo 153 [.ptr 1001 0]] [(1001, .box 38 [.own 1002]), (1002, .row 22 1 24 [])] (.dat (.tup []))
   [(1001, .box 38 [.own 0]), (0, .row 22 1 24 ((Zef t).map pdP)), (1002, .dead)] := by
 have c := fun v => Zok t v [] [] h.z (by simp) (Yk2 _ t 0 (Nat.lt_succ_self _) h.w (B168.le (by have := h.d; omega) Zxx)) (by have := h.k; simp only [List.length_nil]; omega)
 rw [List.nil_append, Yes] at c
 generalize Zbs t = dt at *
 generalize (Zef t).map pdP = r at *
 rw [List.map_nil] at c
 refine Zar Tryz.func152 rfl Tryz.ntmps152 rfl (fun X => ?_)
 refine wk ?_
 refine Ye3 (fun _ _ => Zq7 (k := 5) (t := 5) (d := 600) rfl rfl rfl (by decide)) fun v => ?_
 refine Zb5 (thk [(1000, 600), (1001, 1001), (1002, 1002)] 200) rfl (by kernel_rfl) (c v) rfl ⟨rfl, rfl, rfl, trivial⟩ rfl (Zai rfl) rfl ?_
 refine wk ?_
 refine Zfo () (fun j => if j = 0 then 200 else j) (tm := []) ?_ (Zda rfl)
 exact sb
theorem Yd5 {t : ST PEV} (h : TWf t) : PCall Tryz.prog 87 [.ptr (Zbs t)] (.sl 1 24 ((Zef t).map pdP)) := by
 have c1 := Yew h
 generalize Zbs t = dt at *
 generalize (Zef t).map pdP = r at *
 refine Zaa Tryz.func87 rfl Tryz.ntmps87 rfl (fun X => ?_)
 refine wk ?_
 refine Ye2 (fun _ _ => Zde 3 0 100 22 1 24 rfl rfl rfl) ?_
 refine Zb5 (thk [(1001, 3), (1002, 100)] 200) rfl (by kernel_rfl) c1 rfl ⟨rfl, rfl, trivial⟩ rfl (Zai rfl) rfl ?_
 refine wk ?_
 refine Zbj (fun _ => false) (fun k => k == 200) ?_
 exact wke
section
variable {P : Program} {X : Base} {N : Nat} {Q : Exit → Act → World → Prop} {ks : List Itm} {s : Sta}
theorem Zxo {k1 k2 : Nat} {b b1 : Nat} {g : ST PEV → ST PEV} {t : ST PEV} (hk1 : s.tb k1 = some (.res (Zd1 b1 g b))) (hk2 : s.tb k2 = some (.res (Zbr b1 t))) (hne : k1 ≠ k2)
  (h : Run P X N Q ks ((s.set k2 .dead).set k1 (.res (Zbr b (g t))))) : Run P X N Q ks s := Zdm (fun a w ⟨ρ, hc⟩ => by
 obtain ⟨⟨v1, w1⟩, m1⟩ := hc.blks k1 _ hk1
 obtain ⟨⟨v2, w2⟩, m2⟩ := hc.blks k2 _ hk2
 have hap : ∀ x, (ρ k1).fp x → ¬ (ρ k2).fp x := fun x h1 h2 => hne (hc.apart k1 k2 x (by rw [hk1]; rfl) (by rw [hk2]; rfl) h1 h2)
 have hj := hc.join (js := [k1, k2]) (d := k1) (R := Zbr b (g t)) (v := (ρ k1).v) (O := fun x => (ρ k1).fp x ∨ (ρ k2).fp x) (w' := w) (fun k hk => by
   rcases List.mem_cons.1 hk with rfl | hk
   ·rw [hk1]; rfl
   ·rw [List.mem_singleton] at hk; subst hk; rw [hk2]; rfl) (.inr ⟨by simp, rfl, _, hk1⟩) (fun k hk t cs hcs => by
   rcases List.mem_cons.1 hk with rfl | hk
   ·rw [hk1] at hcs; cases hcs
   ·rw [List.mem_singleton] at hk; subst hk; rw [hk2] at hcs; cases hcs) rfl rfl rfl (Nat.le_refl _) (fun _ _ _ => rfl) (fun x hx => by
   rcases hx with hx | hx
   ·exact .inr ⟨k1, by simp, hx⟩
   ·exact .inr ⟨k2, by simp, hx⟩) (fun F' hF' => ⟨v1, w1 w F' t _ (fun _ _ => rfl) hF' (fun _ _ => rfl) (TreeAt.keep (fun _ _ => rfl) hF' t (fun _ _ => rfl) w2) hap⟩)
 have e : Zgm [k1, k2] k1 (Zbr b (g t)) s.tb = ((s.set k2 .dead).set k1 (.res (Zbr b (g t)))).tb := by
  funext j
  show _ = upd (upd s.tb k2 (some .dead)) k1 (some _) j
  unfold Zgm upd
  by_cases h1 : j = k1
  ·rw [if_pos h1, if_pos h1]
  ·rw [if_neg h1, if_neg h1]
   by_cases h2 : j = k2
   ·rw [if_pos h2, if_pos (by simp [h2])]
   ·rw [if_neg h2, if_neg (by simp [h1, h2])]
 rw [e] at hj
 exact ⟨_, hj⟩) h
theorem Yb5 {k t b : Nat} {T : ST PEV} (hk : s.tb k = some (.res (Zbr b T))) (ht : s.tm t = .elt k 2 0 0)
  (h : Run P X N Q ks { tm := upd (s.frz (fun _ => false) (fun j => j == k)).tm t (.dat (.ptr (Zbs T))), tb := (s.frz (fun _ => false) (fun j => j == k)).tb }) : Run P X N Q ks s := Zdm (fun a w ⟨ρ, hc⟩ => by
 have hf := hc.frz (fun _ => false) (fun j => j == k)
 refine ⟨ρ, hf.size, hf.defers, hf.below, fun t' => ?_, hf.blks, hf.apart, hf.lent⟩
 by_cases e : t' = t
 ·subst e
  show VR w _ _ ρ (upd _ t' _ t') _
  rw [Zah]
  have hlv : ∀ j, Za6 ((s.frz (fun _ => false) (fun j => j == k)).tb j) = true → Za6 (s.tb j) = true ∧ j ≠ k := by
   intro j hj
   simp only [Sta.frz] at hj
   split at hj
   ·cases hj
   ·rename_i hn
    refine ⟨?_, fun e => hn (by simp [e])⟩
    cases hx : s.tb j with
    | none => rw [hx] at hj; cases hj
    | some x => rw [hx] at hj; cases x <;> first | rfl | cases hj
  have hs : ∀ x, FF X w s.tb ρ x → FF X w (s.frz (fun _ => false) (fun j => j == k)).tb ρ x := fun x hx => ⟨hx.1, hx.2.1, fun j hj => hx.2.2 j (hlv j hj).1⟩
  have hnew : ∀ x, (ρ k).fp x → FF X w (s.frz (fun _ => false) (fun j => j == k)).tb ρ x := fun x hx => by
   obtain ⟨h1, h2⟩ := hc.rowBlk hk rfl hx
   exact ⟨.inr h1, h2, fun j hj e' => (hlv j hj).2 (hc.apart j k x (hlv j hj).1 (by rw [hk]; rfl) e' hx)⟩
  obtain ⟨⟨e1, htree⟩, _⟩ := hc.blks k _ hk
  obtain ⟨sm, sc, t1, t2, t3, t4, t5⟩ := htree.rep hs T hnew
  have hvr := hc.tmps t'
  rw [ht] at hvr
  unfold VR at hvr ⊢
  obtain ⟨_, ⟨x, _, _, g, len, c, e2, e3⟩ | h0⟩ := hvr
  ·rw [e1] at e2
   unfold slS at e2
   injection e2 with e2 _ _
   injection e2 with e2
   injection e2 with e2
   subst e2
   unfold Rep
   refine ⟨b, 0, .agg #[sm, sc], by rw [e3], hnew b t5, t2, ?_⟩
   have hl := Zer (vs := [sm, sc]) t1 0
   simpa [Value.cells] using hl
  ·rw [hk] at h0; cases h0
 ·show VR w _ _ ρ (upd _ t _ t') _
  rw [Zaw _ _ e]
  exact hf.tmps t') h
end
def fdT (t : ST PEV) (ps : List (List PEV)) : ST PEV := ps.foldl (fun t p => Zgy Zaf p t) t
def bwT (t : ST PEV) (p : PEV) (ps : List (List PEV)) : ST PEV := .mk t.m (Zgz Zaf t.c p (fdT (wpT t p) ps))
theorem Yne (t : ST PEV) (ps : List (List PEV)) (p : List PEV) : fdT t (ps ++ [p]) = Zgy Zaf p (fdT t ps) := by
 unfold fdT
 rw [List.foldl_append]
 rfl
theorem Ynd {t : ST PEV} {ps : List (List PEV)} (ht : WFT Zaf OPE t) (h : ∀ p ∈ ps, ∀ x ∈ p, OPE x) : WFT Zaf OPE (fdT t ps) := by
 unfold fdT
 induction ps generalizing t with
 | nil => exact ht
 | cons p ps ih => exact ih (Zsf ordPE p t (h p (by simp)) ht) fun q hq => h q (by simp [hq])
theorem Yli {t : ST PEV} {ps : List (List PEV)} {n : Nat} (ht : SzT n t) : SzT (n + ps.length) (fdT t ps) := by
 unfold fdT
 induction ps generalizing t n with
 | nil => exact ht
 | cons p ps ih =>
  have := ih (Zw2 (c := Zaf) p t ht)
  rw [List.length_cons, show n + (ps.length + 1) = n + 1 + ps.length by omega]
  exact this
theorem Yhu {a m : List (List EV)} (ha : LOk a) (hm : LOk m) (e : EV) (he : OPE (Zaz e)) (la : a.length ≤ 60) (lm : m.length ≤ 60) (hT : TWf (bwT (inT a) (Zaz e) (m.map (·.map Zaz)))) : PCall Tryz.prog 38 [.sl 1 24 (a.map pdP), pdE e, .sl 1 24 (m.map pdP)] (.sl 1 24 ((Zef (bwT (inT a) (Zaz e) (m.map (·.map Zaz)))).map pdP)) := by
 have c1 := Yhc a ha.ok.raw ha.n
 have c2 := Ztd e
 have c3 := Yd5 hT
 have hW := (Ztg ha.t (Zaz e)).o
 have hZ := (Ztg ha.t (Zaz e)).sz
 obtain ⟨t, ht⟩ : ∃ t, t = inT a := ⟨_, rfl⟩
 have wt := ha.t.o
 have zt := ha.t.sz
 rw [← ht] at c3 hW hZ wt zt ⊢
 rw [show ofP Zaf (a.map (·.map Zaz)) = t from ht.symm] at c1
 obtain ⟨mm, ch⟩ := t
 obtain ⟨_, _, s3, s4⟩ := WFT_iff.1 wt
 have s4 := WFC_iff.1 s4
 obtain ⟨_, z2, _⟩ := SzT_iff.1 zt
 simp only [ST.c] at s3 s4 z2
 have c4 := fun b => Ylc b mm ch (Zaz e) (fun x hx => by obtain ⟨y, hy, rfl⟩ := List.mem_map.1 hx; exact (s4 y hy).1) he s3 (by omega)
 have hO' : ∀ k, ∀ p ∈ (m.map (·.map Zaz)).take k, ∀ x ∈ p, OPE x := fun k p hp x hx => by
  obtain ⟨q, hq, rfl⟩ := List.mem_map.1 (List.mem_of_mem_take hp)
  obtain ⟨y, hy, rfl⟩ := List.mem_map.1 hx
  exact (hm.ok q hq y hy).1
 have c5 : ∀ (b : Nat) {k : Nat} {p : List EV}, m[k]? = some p → Zbv Tryz.prog 97 [.elt 1000 2 0 0, .dat (.sl 4 32 ((p.map Zaz).map Za4))] [(1000, .res (Zbr b (fdT (wpT (.mk mm ch) (Zaz e)) ((m.map (·.map Zaz)).take k))))] (.dat (.tup [])) [(1000, .res (Zbr b (fdT (wpT (.mk mm ch) (Zaz e)) ((m.map (·.map Zaz)).take (k + 1)))))] := fun b {k p} hp => by
  have c := Yq7 b (fdT (wpT (.mk mm ch) (Zaz e)) ((m.map (·.map Zaz)).take k)) (p.map Zaz) (fun x hx => by
   obtain ⟨y, hy, rfl⟩ := List.mem_map.1 hx
   exact (hm.ok p (List.mem_of_getElem? hp) y hy).1) (Ynd hW (hO' k)) (Yli hZ) (by rw [List.length_take, List.length_map]; omega)
  rw [← Yne] at c
  rw [List.take_add_one, List.getElem?_map, hp]
  exact c
 have n1 : (m.map pdP).length = m.length := by simp
 have ga : ∀ {k : Nat} {p : List EV}, m[k]? = some p → (m.map pdP)[((k : Nat) : Int).toNat]? = some (pdP p) := fun h => by simp [h]
 have e0 : (Zea Zaf ch (Zaz e)).getD (.mk [] []) = fdT (wpT (.mk mm ch) (Zaz e)) ((m.map (·.map Zaz)).take 0) := rfl
 have eE : bwT (.mk mm ch) (Zaz e) (m.map (·.map Zaz)) = .mk mm (Zgz Zaf ch (Zaz e) (fdT (wpT (.mk mm ch) (Zaz e)) ((m.map (·.map Zaz)).take m.length))) := by
  rw [List.take_of_length_le (by rw [List.length_map]; omega)]
  rfl
 rw [eE] at c3 ⊢
 rw [e0] at c4
 obtain ⟨u0, u1, u2, u3, ep⟩ := Zip (Zaz e)
 rw [ep] at c2 c4
 clear e0 eE hO' hW hZ wt zt s3 s4 z2 ha hT ht ep he la
 generalize hG : (fun t' => ST.mk mm (Zgz Zaf ch (Zaz e) t')) = g at *
 have hg : ∀ t', ST.mk mm (Zgz Zaf ch (Zaz e) t') = g t' := fun t' => by rw [← hG]
 rw [hg] at c3 ⊢
 generalize hF : (fun k => fdT (wpT (.mk mm ch) (Zaz e)) ((m.map (·.map Zaz)).take k)) = fd at *
 have hf : ∀ k, fdT (wpT (.mk mm ch) (Zaz e)) ((m.map (·.map Zaz)).take k) = fd k := fun k => by rw [← hF]
 simp only [hf] at c3 c4 c5 ⊢
 clear hG hF hg hf
 generalize (Zef (g (fd m.length))).map pdP = dr at *
 have ct := fun p => Yan p
 unfold dvP at ct
 generalize a.map pdP = da at *
 generalize m.map pdP = dm at *
 unfold pdE at c2 ⊢
 refine Zaa Tryz.func38 rfl Tryz.ntmps38 rfl (fun X => ?_)
 refine wk ?_
 refine Zol (thk [] 200) rfl (by kernel_rfl) c1 rfl trivial rfl (fun _ => Zai rfl) (fun _ => rfl) (fun b => ?_)
 have nd : Zia := ⟨trivial⟩
 refine wk ?_
 clear nd
 refine Zlc 5 (by kernel_rfl) ?_
 simp only [List.take_succ_cons, List.take_zero]
 refine wk ?_
 refine Zol (thk [(1000, 200)] 300) rfl (by kernel_rfl) (c4 b) rfl ⟨rfl, trivial⟩ rfl (fun _ => Zai rfl) (fun _ => rfl) (fun b' => ?_)
 refine wk ?_
 refine Zaq (ι := { k : Nat // k ≤ m.length })
  (fun k => [(7, .elt 200 2 0 0), (8, .elt 300 2 0 0), (19, .dat (.sl 1 24 dm)), (20, .dat (.val (.int .i64 ((dm.length : Nat) : Int)))), (21, .dat (.val (.int .i64 (k.1 : Nat))))])
  (fun k => [(200, .res (Zd1 b' g b)), (300, .res (Zbr b' (fd k.1)))]) (fun k => m.length - k.1) ⟨0, Nat.zero_le _⟩ id ?_ ?_
 ·exact sb
 rintro ⟨k, hk⟩
 by_cases hlt : k < m.length
 ·have g1 : decide ((k : Int) < ((dm.length : Nat) : Int)) = true := decide_eq_true (by omega)
  obtain ⟨p, hp⟩ : ∃ p, m[k]? = some p := ⟨_, List.getElem?_eq_getElem hlt⟩
  have i1 := ga hp
  have c6 := ct p
  have c7 := c5 b' hp
  unfold pdP at i1 c6
  clear c1 c2 c3 c4 c5 ct ga
  refine wk ?_
  refine Zb5 (thk [(1000, 300)] 400) rfl (by kernel_rfl) c7 rfl ⟨rfl, trivial⟩ rfl (Zai rfl) rfl ?_
  refine wk ?_
  refine Zan ?_
  refine ⟨⟨k + 1, by omega⟩, id, by simp only; omega, ?_⟩
  exact sb
 ·have g1 : decide ((k : Int) < ((dm.length : Nat) : Int)) = false := decide_eq_false (by omega)
  obtain rfl : k = m.length := by omega
  refine Zxo (k1 := 200) (k2 := 300) rfl rfl (by decide) ?_
  refine Yb5 (k := 200) (t := 7) rfl rfl ?_
  clear c1 c2 c4 c5 ct ga
  exact wke
end Go.Proofs.YtgmahieoiifpfaaGreat
