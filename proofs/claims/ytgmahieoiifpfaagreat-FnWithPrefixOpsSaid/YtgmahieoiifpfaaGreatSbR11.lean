/- Part 11 of what the proof rests on. -/
import Derived.Maps.AppendAt
import Derived.Deep.AppendLies
import Derived.Deep.Draws
import Derived.RegionTactic
import Derived.Deep.QuietTactic
import Derived.BigQuiet
import Derived.Test.YtgmahieoiifpfaaGreatSbR1
import Derived.Test.YtgmahieoiifpfaaGreatSbR4
import Derived.Test.YtgmahieoiifpfaaGreatSbR5
import Derived.Test.YtgmahieoiifpfaaGreatSbR6
import Derived.Test.YtgmahieoiifpfaaGreatSbR8
import Derived.Test.YtgmahieoiifpfaaGreatSbR9
import Derived.Test.YtgmahieoiifpfaaGreatSbR10
set_option linter.unusedSimpArgs false
set_option linter.unusedVariables false
set_option maxHeartbeats 8000000
namespace Go.Proofs.YtgmahieoiifpfaaGreat
open Go.RowKit
theorem Ylg (v : Value) (m : List (PEV × PD)) (p : PEV) (hl : ∀ x ∈ m.map (·.1), OPE x) (hp : OPE p) (hs : Srt Zae (m.map (·.1))) {b : Nat} {k : PEV} (hf : Ze8 Zae (m.map (·.1)) p = true) (hx : m[Zbc Zae (m.map (·.1)) p]? = some (k, .val (adr b))) :
  Zb0 Tryz.prog 96 [.ptr 1000 1, .dat (Zav p)] [(1000, .box 122 [.dat (.val v), .own 1001]), (1001, .row 224 5 40 (m.map dN))] (.dat (.val (adr b)))
   [(1000, .box 122 [.dat (.val v), .own 1001]), (1001, .row 224 5 40 (m.map dN))] := by
 have c := Zl9 m p hl hp hs
 obtain ⟨u0, u1, u2, u3, e⟩ := Zcm p
 obtain ⟨d0, d1, d2, d3, e1⟩ := Zej k
 have i1 : (m.map dN)[Zbc Zae (m.map (·.1)) p]? = some (.agg [d0, d1, d2, d3, .val (adr b)]) := by
  rw [List.getElem?_map, hx]; show some (dN _) = _; unfold dN; rw [e1]; rfl
 have i2 : Zbc Zae (m.map (·.1)) p < (m.map dN).length := (List.getElem?_eq_some_iff.1 i1).1
 rw [hf] at c
 rw [e] at c ⊢
 clear hx
 generalize m.map dN = da at *
 generalize Zbc Zae (m.map (·.1)) p = loc at *
 refine Zar Tryz.func96 rfl Tryz.ntmps96 rfl (fun X => ?_)
 refine wk ?_
 refine Zcl (Zlk gV rfl (by kernel_rfl) rfl c Flat.tup2) ?_
 refine wk ?_
 refine Za4 () id (tm := [(4, .dat (.val (adr b)))]) ?_ (Za9 rfl rfl)
 exact sb
theorem Yli (v : Value) (m : List (PEV × PD)) (p : PEV) (hl : ∀ x ∈ m.map (·.1), OPE x) (hp : OPE p) (hs : Srt Zae (m.map (·.1))) (hb : (m.length + 1) * 40 ≤ 140737488351232) (hf : Ze8 Zae (m.map (·.1)) p = false) :
  Zh8 Tryz.prog 96 [.ptr 1000 1, .dat (Zav p)] [(1000, .box 122 [.dat (.val v), .own 1001]), (1001, .row 224 5 40 (m.map dN))] (ι := Nat) (fun b => .dat (.val (adr b)))
   (fun b => [(1000, .box 122 [.dat (.val v), .own 0]), (0, .row 224 5 40 ((m.take (Zbc Zae (m.map (·.1)) p) ++ (p, .val (adr b)) :: m.drop (Zbc Zae (m.map (·.1)) p)).map dN)), (1001, .dead), (1, .res (Zbt b (.mk [] [])))]) := by
 have c := Zl9 m p hl hp hs
 have n1 : (m.map dN).length = m.length := by simp
 have hle := Zjy (c := Zae) (m.map (·.1)) p
 rw [List.length_map] at hle
 obtain ⟨u0, u1, u2, u3, e⟩ := Zej p
 have hd : ∀ b, (m.take (Zbc Zae (m.map (·.1)) p) ++ (p, PD.val (adr b)) :: m.drop (Zbc Zae (m.map (·.1)) p)).map dN = (m.map dN).take (Zbc Zae (m.map (·.1)) p) ++ .agg [u0, u1, u2, u3, .val (adr b)] :: (m.map dN).drop (Zbc Zae (m.map (·.1)) p) := fun b => by
  rw [List.map_append, List.map_cons, List.map_take, List.map_drop]
  congr 2
  unfold dN
  simp only [e]
  rfl
 simp only [hd]
 rw [hf] at c
 rw [Zp1, e] at c ⊢
 clear hd
 generalize m.map dN = da at *
 generalize Zbc Zae (m.map (·.1)) p = loc at *
 have q0 : loc ≤ da.length := by omega
 have q1 : (da.length + 1) * 40 ≤ 140737488351232 := by omega
 have q2 : da.length + 1 ≤ 140737488351232 := by omega
 refine Zar Tryz.func96 rfl Tryz.ntmps96 rfl (fun X => ?_)
 refine wk ?_
 refine Zcl (Zlk gV rfl (by kernel_rfl) rfl c Flat.tup2) ?_
 have nd : Zjf := ⟨trivial⟩
 refine wk ?_
 clear nd
 refine Yfl 8 [none, none, none, some (Eff.put (some 37) (.ptr 1000 1)), some (Eff.put (some 38) (.ptr 1000 1)), none] 0 (fun b : Nat => Eff.new 33 (.res (Zbt b (.mk [] []))) (.dat (.val (adr b)))) (by kernel_rfl) rfl ?_
 simp only [List.take_succ_cons, List.take_zero, List.drop_succ_cons, List.drop_zero, Nat.reduceAdd]
 refine wk ?_
 refine Znm ⟨Yj5 (fun b => .dat (.val (adr b))) (fun b w F tb ρ _ _ => by unfold VR Rep; exact ⟨rfl, trivial⟩) rfl rfl rfl, fun b => ?_⟩
 refine wk ?_
 refine Zcl (Zxx rfl rfl rfl rfl rfl rfl rfl rfl (by assumption) (by assumption) (by assumption)) ?_
 refine wk ?_
 refine ⟨⟨by kernel_rfl, by kernel_rfl, by kernel_rfl, rfl, rfl, by kernel_rfl, rfl⟩, ?_⟩
 have i1 : (da.take loc ++ .agg [u0, u1, u2, u3, .val (adr b)] :: da.drop loc)[loc]? = some (.agg [u0, u1, u2, u3, .val (adr b)]) := by
  have h0 : (da.take loc).length = loc := by rw [List.length_take]; omega
  rw [List.getElem?_append_right (by omega), h0, Nat.sub_self]; rfl
 have i2 := (List.getElem?_eq_some_iff.1 i1).1
 refine wk ?_
 refine Za4 b (thk [(0, 36), (1, 33)] 0) (tm := [(4, .dat (.val (adr b)))]) ?_ (Za9 rfl rfl)
 exact sb
section
variable {X : Base} {ρ ρ1 ρ' : Nat → RV} {tbl tbl1 tbl' : List (Nat × Blk)} {w' : World} {L1 : Nat → Prop} {rv : Nat → Value}
def Base.part (X : Base) (L1 : Nat → Prop) (h : ∀ b, L1 b → X.L b) (rv : Nat → Value) : Base := { X with L := L1, rv := rv, hLB := fun b hb => X.hLB b (h b hb) }
theorem Zrk (hL : ∀ b, X.L b ↔ ∃ k, Za6 (lkB tbl k) = true ∧ (ρ k).fp b) (hFL : ∀ b, X.F0 b → ¬ X.L b) (h : ∀ b, L1 b → X.L b) (hfp : ∀ k b, Za6 (lkB tbl1 k) = true → (ρ1 k).fp b → L1 b) : ∀ b, FF X X.w0 (lkB tbl) ρ b → FF (X.part L1 h rv) X.w0 (lkB tbl1) ρ1 b := fun b hb => by
 have h0 : X.F0 b := by
  rcases hb.1 with h | h | h
  ·exact h
  ·have := hb.2.1; omega
  ·obtain ⟨k, h1, h2⟩ := (hL b).1 h
   exact absurd h2 (hb.2.2 k h1)
 exact ⟨.inl h0, hb.2.1, fun k hk e => hFL b h0 (h b (hfp k b hk e))⟩
theorem Zyc (hFL : ∀ b, X.F0 b → ¬ X.L b) (hLs : ∀ b, X.L b → b < X.w0.heap.size) (h : ∀ b, L1 b → X.L b) (hfp : ∀ k x, Za6 (lkB tbl' k) = true → (ρ' k).fp x → (∃ j, Za6 (lkB tbl1 j) = true ∧ (ρ1 j).fp x) ∨ (X.L x ∧ ¬ L1 x)) : ∀ b, FF (X.part L1 h rv) w' (lkB tbl1) ρ1 b → FF X w' (lkB tbl') ρ' b := fun b hb => by
 refine ⟨hb.1.imp id fun h0 => h0.imp id (h b), hb.2.1, fun k hk e => ?_⟩
 rcases hfp k b hk e with ⟨j, h1, h2⟩ | ⟨h1, h2⟩
 ·exact hb.2.2 j h1 h2
 ·rcases hb.1 with h3 | h3 | h3
  ·exact hFL b h3 h1
  ·have := hLs b h1
   have h3 : X.w0.heap.size ≤ b := h3
   omega
  ·exact h2 h3
theorem Zmw {h : ∀ b, L1 b → X.L b} (hb : Bel (X.part L1 h rv) w') : Bel X w' := ⟨hb.os, hb.tape, hb.output, hb.size, fun b h1 h2 => hb.block b h1 fun h3 => h2 (h b h3)⟩
end
theorem Zk5 {w : World} {base base' e n : Nat} {v : Value} {len : Nat} {xs : List Value} (h : w.ownsRow base e n v len xs) (hb : ∀ b, v.ownBlock = some b → base' ≤ b) : w.ownsRow base' e n v len xs := by
 refine ⟨h.1, h.2.imp id ?_⟩
 rintro ⟨g, cap, cur, e1, _, r⟩
 exact ⟨g, cap, cur, e1, hb g (by rw [e1]; rfl), r⟩
theorem Zes {w : World} {base e n : Nat} {v : Value} {len : Nat} {xs : List Value} (h : w.ownsRow base e n v len xs) {b : Nat} : Zdh v = some b ↔ v.ownBlock = some b := by
 rcases h.2 with ⟨e1, e2⟩ | ⟨g, cap, cur, e1, _⟩ <;> rw [e1] <;> exact Iff.rfl
theorem Ykf {w : World} {base e n : Nat} {v : Value} {len : Nat} {xs : List Value} (h : w.ownsRow base e n v len xs) {b : Nat} (hb : v.ownBlock = some b) : b < w.heap.size := by
 rcases h.2 with ⟨e1, e2⟩ | ⟨g, cap, cur, e1, _, hg, _⟩
 ·rw [e1] at hb; cases hb
 ·rw [e1] at hb
  have : g = b := by simpa [Value.ownBlock] using hb
  subst this
  exact (Array.getElem?_eq_some_iff.1 hg).1
theorem Zcd {l : List (Nat × Blk)} {k : Nat} (h : Za6 (lkB l k) = true) : ∃ x, (k, x) ∈ l ∧ x.live = true := by
 obtain ⟨x, h1, h2⟩ := Zba h
 exact ⟨x, Zfa h1, h2⟩
theorem Zjm {w : World} {F : Nat → Prop} {tb : Nat → Option Blk} {ρ : Nat → RV} {x y : AV} {vs : List Value} (h : VRs w F tb ρ [x, y] vs) : ∃ v u, vs = [v, u] ∧ VR w F tb ρ x v ∧ VR w F tb ρ y u := by
 unfold VRs at h
 obtain ⟨v, r, rfl, h1, h⟩ := h
 unfold VRs at h
 obtain ⟨u, r, rfl, h2, h⟩ := h
 unfold VRs at h
 subst h
 exact ⟨v, u, rfl, h1, h2⟩
/-- (*PathElementSet).Insert at the members of a set. -/
theorem Yik (b : Nat) (m : List PEV) (ch : List (PEV × ST PEV)) (p : PEV) (hl : ∀ x ∈ m, OPE x) (hp : OPE p) (hs : Srt Zae m) (hb : (m.length + 1) * 32 ≤ 140737488351232) :
  Zb0 Tryz.prog 162 [.elt 1000 2 0 0, .dat (Zav p)] [(1000, .res (Zbt b (.mk m ch)))] (.dat (.tup [])) [(1000, .res (Zbt b (.mk (Zde Zae m p) ch)))] := by
 intro X ρ vs hP hL hFL hlie hvs
 have hk : lkB [(1000, Blk.res (Zbt b (.mk m ch)))] 1000 = some (.res (Zbt b (.mk m ch))) := rfl
 obtain ⟨⟨hv0, ht⟩, hmay⟩ := hlie.blks 1000 _ hk
 obtain ⟨v1, v2, rfl, g1, g2⟩ := Zjm hvs
 unfold TreeAt at ht
 obtain ⟨sm, sc, bs, Ok, t1, ⟨xs, a1, a2, a3, a4⟩, ⟨ys, c1, c2, c3, c4⟩, t4, t5, t6, t7, t8, t9, t10, t11⟩ := ht
 have hLO : ∀ x, (ρ 1000).fp x → X.L x := fun x hx => (hL x).2 ⟨1000, rfl, hx⟩
 have hLs : ∀ x, X.L x → x < X.w0.heap.size := fun x hx => by
  obtain ⟨k, h1, h2⟩ := (hL x).1 hx
  obtain ⟨y, hy, hyl⟩ := Zba h1
  have : k = 1000 := by
   unfold lkB at hy
   split at hy
   ·assumption
   ·simp [lkB] at hy
  subst this
  exact (hmay x h2).2
 have hv1 : v1 = .pointer (some ⟨b, 0, none⟩) := by
  unfold VR at g1
  obtain ⟨_, ⟨x, _, _, g, len, c, e1, e2⟩ | h⟩ := g1
  ·rw [hv0] at e1
   unfold slS at e1
   injection e1 with e1 _ _
   injection e1 with e1
   injection e1 with e1
   rw [e2, ← e1]
  ·cases h
 let L1 : Nat → Prop := fun x => x = b ∨ sm.ownBlock = some x
 have hL1 : ∀ x, L1 x → X.L x := fun x hx => hLO x ((t5 x).2 (hx.imp id .inl))
 let ρ1 : Nat → RV := fun k => if k = 1000 then RV.of (.pointer (some ⟨b, 0, none⟩)) else RV.of sm
 let rv1 : Nat → Value := fun k => (ρ1 k).v
 have c := Ydo sc m p hl hp hs hb
 have hfp1 : ∀ k x, Za6 (lkB [(1000, .box 122 [.own 1001, .dat (.val sc)]), (1001, .row 99 4 32 (m.map Zav))] k) = true → (ρ1 k).fp x → L1 x := by
  intro k x h1 h2
  simp only [ρ1] at h2
  split at h2
  ·left
   have h2 : some b = some x := h2
   exact (Option.some.inj h2).symm
  ·right
   exact (Zes a1).1 h2
 have hFs := Zrk (rv := rv1) hL hFL hL1 hfp1
 refine (c (X.part L1 hL1 rv1) ρ1 [v1, v2] hP (fun x => ⟨fun hx => ?_, fun ⟨k, h1, h2⟩ => hfp1 k x h1 h2⟩) (fun x h1 h2 => hFL x h1 (hL1 x h2)) ⟨fun k x hx => ?_, fun k k' x h1 h2 e1 e2 => ?_, fun k _ _ => rfl⟩ ?_).mono ?_
 ·rcases hx with rfl | hx
  ·exact ⟨1000, rfl, rfl⟩
  ·exact ⟨1001, rfl, (Zes a1).2 hx⟩
 ·unfold lkB at hx
  split at hx
  ·rename_i e
   subst e
   simp only [Option.some.injEq] at hx
   subst hx
   refine ⟨b, [sm, sc], rfl, .inr (.inl rfl), t1, ?_, ?_⟩
   ·unfold VRs
    refine ⟨sm, [sc], rfl, ?_, ?_⟩
    ·unfold VR
     exact ⟨Zg5 a1, .inl ⟨_, rfl, .inl rfl, rfl⟩⟩
    ·unfold VRs
     refine ⟨sc, [], rfl, ?_, by unfold VRs; rfl⟩
     unfold VR Rep
     refine ⟨rfl, ?_⟩
     rcases c1.2 with ⟨e1, _⟩ | ⟨g, cap, cur, e1, _⟩ <;> rw [e1] <;> trivial
   ·intro u hu
    rcases List.mem_cons.1 hu with rfl | hu
    ·exact Zg5 a1
    ·rw [List.mem_singleton] at hu; rw [hu]; exact Zg5 c1
  ·unfold lkB at hx
   split at hx
   ·rename_i e
    subst e
    simp only [Option.some.injEq] at hx
    subst hx
    refine ⟨xs, rfl, fun x hx => .inr (.inr hx), Zk5 a1 fun x hx => X.hLB x (hL1 x (.inr hx)), a2.keep (fun _ _ => rfl) hFs, by simpa using a3, by simpa using a4⟩
   ·simp [lkB] at hx
 ·obtain ⟨x1, m1, _⟩ := Zcd h1
  obtain ⟨x2, m2, _⟩ := Zcd h2
  simp only [List.mem_cons, Prod.mk.injEq, List.not_mem_nil, or_false] at m1 m2
  rcases m1 with ⟨rfl, _⟩ | ⟨rfl, _⟩ <;> rcases m2 with ⟨rfl, _⟩ | ⟨rfl, _⟩
  ·rfl
  ·have e1 : some b = some x := e1
   exact absurd ((Zes a1).1 e2) (by rw [← e1]; exact t6)
  ·have e2 : some b = some x := e2
   exact absurd ((Zes a1).1 e1) (by rw [← e2]; exact t6)
  ·rfl
 ·unfold VRs
  refine ⟨v1, [v2], rfl, ?_, ?_⟩
  ·unfold VR
   exact ⟨_, _, b, rfl, rfl, hv1⟩
  ·unfold VRs
   refine ⟨v2, [], rfl, ?_, by unfold VRs; rfl⟩
   unfold VR at g2 ⊢
   exact g2.keep (fun _ _ => rfl) hFs
 ·rintro e' w' ⟨v, i, ρ2, he, hbel, hl2, hvr⟩
  obtain ⟨b', vs', e1, _, k1, k2, k3⟩ := hl2.blks 1000 _ rfl
  have e2 := hl2.lent 1000 (Nat.le_refl _) rfl
  rw [e1] at e2
  have e2 : Value.pointer (some ⟨b', 0, none⟩) = .pointer (some ⟨b, 0, none⟩) := e2
  simp only [Value.pointer.injEq, Option.some.injEq, Addr.mk.injEq, and_true] at e2
  subst e2
  obtain ⟨v0, u0, rfl, k4, k5⟩ := Zjm k2
  obtain ⟨ys0, q0, qm, q1, q2, q3, q4⟩ := hl2.blks 0 _ rfl
  have k4 := Zib k4 (x := .row 99 4 32 ((Zde Zae m p).map Zav)) rfl rfl
  have k5 : u0 = sc := by unfold VR Rep at k5; exact k5.1
  subst k4 k5
  have hb0 : X.L b' := hL1 b' (.inl rfl)
  have hsz := hbel.size
  have hsz : X.w0.heap.size ≤ w'.heap.size := hsz
  let O' : Nat → Prop := fun x => x = b' ∨ (ρ2 0).v.ownBlock = some x ∨ u0.ownBlock = some x ∨ Ok x
  have hscL : ∀ x, u0.ownBlock = some x → X.L x ∧ ¬ L1 x := fun x hx => ⟨hLO x ((t5 x).2 (.inr (.inr (.inl hx)))), fun h => by
   rcases h with rfl | h
   ·exact t7 hx
   ·exact t8 x h hx⟩
  have hOkL : ∀ x, Ok x → X.L x ∧ ¬ L1 x := fun x hx => ⟨hLO x ((t5 x).2 (.inr (.inr (.inr hx)))), fun h => by
   rcases h with rfl | h
   ·exact t9 hx
   ·exact t10 x h hx⟩
  have hsame : ∀ x, X.L x ∧ ¬ L1 x → w'.heap[x]? = X.w0.heap[x]? := fun x hx => hbel.block x (hLs x hx.1) hx.2
  have hnew : ∀ x, (ρ2 0).v.ownBlock = some x → ¬ (X.L x ∧ ¬ L1 x) := fun x hx h => by
   rcases qm x hx with h1 | h1
   ·have := hLs x h.1
    have h1 : X.w0.heap.size ≤ x := h1
    omega
   ·exact h.2 h1
  let ρf : Nat → RV := fun _ => ⟨slS b', O'⟩
  have hF0 : ∀ x, FF X X.w0 (lkB [(1000, .res (Zbt b' (.mk m ch)))]) ρ x → w'.heap[x]? = X.w0.heap[x]? := fun x hx => hbel.block x hx.2.1 fun h => by
   have h3 := hL1 x h
   obtain ⟨k, h1, h2⟩ := (hL x).1 h3
   exact hx.2.2 k h1 h2
  have hFe : ∀ x, FF (X.part L1 hL1 rv1) w' (lkB [(1000, .box 122 [.own 0, .dat (.val u0)]), (0, .row 99 4 32 ((Zde Zae m p).map Zav)), (1001, .dead)]) ρ2 x → FF X w' (lkB [(1000, .res (Zbt b' (.mk (Zde Zae m p) ch)))]) ρf x := Zyc hFL hLs hL1 fun k x h1 h2 => by
   have h2 : O' x := h2
   rcases h2 with rfl | h2 | h2 | h2
   ·exact .inl ⟨1000, rfl, by rw [e1]; rfl⟩
   ·exact .inl ⟨0, rfl, by rw [q0]; exact (Zes q1).2 h2⟩
   ·exact .inr (hscL x h2)
   ·exact .inr (hOkL x h2)
  have hFs2 : ∀ x, FF X X.w0 (lkB [(1000, .res (Zbt b' (.mk m ch)))]) ρ x → FF X w' (lkB [(1000, .res (Zbt b' (.mk (Zde Zae m p) ch)))]) ρf x := fun x hx => by
   have hnL : ¬ X.L x := fun h => by
    obtain ⟨k, h1, h2⟩ := (hL x).1 h
    exact hx.2.2 k h1 h2
   refine ⟨hx.1, Nat.lt_of_lt_of_le hx.2.1 hsz, fun k h1 h2 => ?_⟩
   have h2 : O' x := h2
   rcases h2 with rfl | h2 | h2 | h2
   ·exact hnL hb0
   ·rcases qm x h2 with h3 | h3
    ·have := hx.2.1
     have h3 : X.w0.heap.size ≤ x := h3
     omega
    ·exact hnL (hL1 x h3)
   ·exact hnL (hscL x h2).1
   ·exact hnL (hOkL x h2).1
  refine ⟨v, (), ρf, he, Zmw hbel, ⟨fun k x hx => ?_, fun k k' x h1 h2 _ _ => ?_, fun k h1 h2 => ?_⟩, ?_⟩
  ·have hm := Zfa hx
   simp only [List.mem_cons, Prod.mk.injEq, List.not_mem_nil, or_false] at hm
   obtain ⟨rfl, rfl⟩ := hm
   refine ⟨⟨rfl, ?_⟩, fun x hx => ?_⟩
   ·unfold TreeAt
    refine ⟨(ρ2 0).v, u0, bs, Ok, by simpa using k1, ⟨ys0, Zk5 q1 (fun _ _ => Nat.zero_le _), q2.keep (fun _ _ => rfl) hFe, q3, q4⟩, RowAt.keep hF0 hFs2 (fun x hx => hsame x (hscL x hx)) ⟨ys, c1, c2, c3, c4⟩, KidsAt.keep hF0 hFs2 ch (fun x hx => hsame x (hOkL x hx)) t4, fun x => Iff.rfl, fun h => ?_, t7, fun x h1 h2 => hnew x h1 (hscL x h2), t9, fun x h1 h2 => hnew x h1 (hOkL x h2), t11⟩
    have := hl2.apart 1000 0 b' rfl rfl (by rw [e1]; rfl) (by rw [q0]; exact (Zes q1).2 h)
    cases this
   ·have hx : O' x := hx
    rcases hx with rfl | h2 | h2 | h2
    ·exact ⟨.inr hb0, Nat.lt_of_lt_of_le (hLs _ hb0) hsz⟩
    ·exact ⟨(qm x h2).imp id (hL1 x), Ykf q1 h2⟩
    ·exact ⟨.inr (hscL x h2).1, Nat.lt_of_lt_of_le (hLs _ (hscL x h2).1) hsz⟩
    ·exact ⟨.inr (hOkL x h2).1, Nat.lt_of_lt_of_le (hLs _ (hOkL x h2).1) hsz⟩
  ·obtain ⟨x1, m1, _⟩ := Zcd h1
   obtain ⟨x2, m2, _⟩ := Zcd h2
   simp only [List.mem_cons, Prod.mk.injEq, List.not_mem_nil, or_false] at m1 m2
   rw [m1.1, m2.1]
  ·obtain ⟨x1, m1, _⟩ := Zcd h2
   simp only [List.mem_cons, Prod.mk.injEq, List.not_mem_nil, or_false] at m1
   rw [m1.1, ← hlie.lent 1000 (Nat.le_refl _) rfl, hv0]
  ·unfold VR Rep at hvr ⊢
   obtain ⟨vs, e, h⟩ := hvr
   unfold Reps at h
   exact ⟨vs, e, by unfold Reps; exact h⟩
section
variable {w : World} {F : Nat → Prop}
theorem KidsAt.take : ∀ {ch : List (PEV × ST PEV)} {bs : List Nat} {O : Nat → Prop} {i : Nat} {k : PEV} {t : ST PEV}, KidsAt w F ch bs O → ch[i]? = some (k, t) → ∃ (b' : Nat) (O1 O2 : Nat → Prop), bs[i]? = some b' ∧ TreeAt w F t b' O1 ∧ (∀ x, O x ↔ O1 x ∨ O2 x) ∧ (∀ x, O1 x → ¬ O2 x) ∧
  ∀ (w' : World) (F' : Nat → Prop) (t' : ST PEV) (O' : Nat → Prop), (∀ x, F x → w'.heap[x]? = w.heap[x]?) → (∀ x, F x → F' x) → (∀ x, O2 x → w'.heap[x]? = w.heap[x]?) → TreeAt w' F' t' b' O' → (∀ x, O2 x → ¬ O' x) → KidsAt w' F' (ch.set i (k, t')) bs (fun x => O2 x ∨ O' x)
 | [], _, _, _, _, _, _, h => by simp at h
 | y :: r, bs, O, i, k, t, hv, h => by
  unfold KidsAt at hv
  obtain ⟨b, bs', O1, O2, rfl, h2, h3, h4, h5⟩ := hv
  cases i with
  | zero =>
   simp only [List.getElem?_cons_zero, Option.some.injEq] at h
   subst h
   refine ⟨b, O1, O2, rfl, h2, h4, h5, fun w' F' t' O' g1 g2 g3 g4 g5 => ?_⟩
   simp only [List.set_cons_zero]
   unfold KidsAt
   exact ⟨b, bs', O', O2, rfl, g4, KidsAt.keep g1 g2 r g3 h3, fun x => or_comm, fun x hx hx' => g5 x hx' hx⟩
  | succ i =>
   obtain ⟨b', P1, P2, q1, q2, q3, q4, q5⟩ := KidsAt.take h3 (i := i) (by simpa using h)
   refine ⟨b', P1, fun x => O1 x ∨ P2 x, by simpa using q1, q2, fun x => ?_, fun x hx hx' => ?_, fun w' F' t' O' g1 g2 g3 g4 g5 => ?_⟩
   ·rw [h4, q3]
    constructor
    ·rintro (h | h | h)
     ·exact .inr (.inl h)
     ·exact .inl h
     ·exact .inr (.inr h)
    ·rintro (h | h | h)
     ·exact .inr (.inl h)
     ·exact .inl h
     ·exact .inr (.inr h)
   ·rcases hx' with h | h
    ·exact h5 x h ((q3 x).2 (.inl hx))
    ·exact q4 x hx h
   ·simp only [List.set_cons_succ]
    unfold KidsAt
    refine ⟨b, bs', O1, fun x => P2 x ∨ O' x, rfl, TreeAt.keep g1 g2 y.2 (fun x hx => g3 x (.inl hx)) h2, q5 w' F' t' O' g1 g2 (fun x hx => g3 x (.inr hx)) g4 (fun x hx => g5 x (.inr hx)), fun x => or_assoc, fun x hx hx' => ?_⟩
    rcases hx' with h | h
    ·exact h5 x hx ((q3 x).2 (.inr h))
    ·exact g5 x (.inl hx) h
theorem KidsAt.put {k : PEV} {t : ST PEV} {b' : Nat} {O' : Nat → Prop} (ht : TreeAt w F t b' O') : ∀ {ch : List (PEV × ST PEV)} {bs : List Nat} {O : Nat → Prop} (i : Nat), KidsAt w F ch bs O → (∀ x, O x → ¬ O' x) → KidsAt w F (ch.take i ++ (k, t) :: ch.drop i) (bs.take i ++ b' :: bs.drop i) (fun x => O x ∨ O' x)
 | ch, bs, O, 0, hv, hd => by
  simp only [List.take_zero, List.drop_zero, List.nil_append]
  unfold KidsAt
  exact ⟨b', bs, O', O, rfl, ht, hv, fun x => or_comm, fun x hx hx' => hd x hx' hx⟩
 | [], bs, O, i + 1, hv, hd => by
  have hv0 := hv
  unfold KidsAt at hv
  obtain ⟨rfl, _⟩ := hv
  simp only [List.take_nil, List.drop_nil, List.nil_append]
  conv in KidsAt w F _ _ _ => unfold KidsAt
  exact ⟨b', [], O', O, rfl, ht, hv0, fun x => or_comm, fun x hx hx' => hd x hx' hx⟩
 | y :: r, bs, O, i + 1, hv, hd => by
  unfold KidsAt at hv
  obtain ⟨b, bs', O1, O2, rfl, h2, h3, h4, h5⟩ := hv
  simp only [List.take_succ_cons, List.drop_succ_cons, List.cons_append]
  have ih := KidsAt.put (k := k) ht i h3 (fun x hx => hd x ((h4 x).2 (.inr hx)))
  conv in KidsAt w F _ _ _ => unfold KidsAt
  refine ⟨b, _, O1, fun x => O2 x ∨ O' x, rfl, h2, ih, fun x => by show (O x ∨ O' x) ↔ _; rw [h4]; exact or_assoc, fun x hx hx' => ?_⟩
  rcases hx' with h | h
  ·exact h5 x hx h
  ·exact hd x ((h4 x).2 (.inl hx)) h
theorem Yf8 {b b' : Nat} {sm sc : Value} {m : List PEV} {g : ST PEV → List (PEV × ST PEV)} {bs : List Nat} {Or : Nat → Prop} (t1 : w.heap[b]? = some (.cells #[sm, sc] 122 (0, 0))) (h2 : RowAt w F 99 4 32 (m.map Zav) sm)
  (h3 : ∀ t', RowAt w F 224 5 40 ((((g t').map (·.1)).zip bs).map Zr8) sc)
  (h4 : ∀ (w' : World) (F' : Nat → Prop) (t' : ST PEV) (O' : Nat → Prop), (∀ x, F x → w'.heap[x]? = w.heap[x]?) → (∀ x, F x → F' x) → (∀ x, Or x → w'.heap[x]? = w.heap[x]?) → TreeAt w' F' t' b' O' → (∀ x, Or x → ¬ O' x) → KidsAt w' F' (g t') bs (fun x => Or x ∨ O' x))
  (d1 : sm.ownBlock ≠ some b) (d2 : sc.ownBlock ≠ some b) (d3 : ∀ x, sm.ownBlock = some x → sc.ownBlock ≠ some x) (d4 : ¬ Or b) (d5 : ∀ x, sm.ownBlock = some x → ¬ Or x) (d6 : ∀ x, sc.ownBlock = some x → ¬ Or x) :
  Yor w F (fun x => x = b ∨ sm.ownBlock = some x ∨ sc.ownBlock = some x ∨ Or x) b' (fun t' => .mk m (g t')) b := by
 intro w' F' t' O' g1 g2 g3 g4 g5
 unfold TreeAt
 refine ⟨sm, sc, bs, fun x => Or x ∨ O' x, (g3 b (.inl rfl)).trans t1, h2.keep g1 g2 fun x hx => g3 x (.inr (.inl hx)), (h3 t').keep g1 g2 fun x hx => g3 x (.inr (.inr (.inl hx))), h4 w' F' t' O' g1 g2 (fun x hx => g3 x (.inr (.inr (.inr hx)))) g4 fun x hx => g5 x (.inr (.inr (.inr hx))), fun x => ?_, d1, d2, d3, ?_, fun x hx h => ?_, fun x hx h => ?_⟩
 ·simp only [or_assoc]
 ·rintro (h | h)
  ·exact d4 h
  ·exact g5 b (.inl rfl) h
 ·rcases h with h | h
  ·exact d5 x hx h
  ·exact g5 x (.inr (.inl hx)) h
 ·rcases h with h | h
  ·exact d6 x hx h
  ·exact g5 x (.inr (.inr (.inl hx))) h
end
theorem Zf6 : ∀ {l : List PEV} {bs : List Nat}, bs.length = l.length → ((l.zip bs).map fun y => (y.1, PD.val (adr y.2))).map (·.1) = l
 | [], bs, _ => by simp
 | x :: l, [], h => by simp at h
 | x :: l, b :: bs, h => by simp only [List.zip_cons_cons, List.map_cons]; rw [Zf6 (by simpa using h)]
theorem Ygc (l : List PEV) (bs : List Nat) : ((l.zip bs).map fun y => (y.1, PD.val (adr y.2))).map dN = (l.zip bs).map Zr8 := by
 rw [List.map_map]; rfl
theorem Yjb {ch : List (PEV × ST PEV)} {i : Nat} {k : PEV} {t t' : ST PEV} (h : ch[i]? = some (k, t)) : (ch.set i (k, t')).map (·.1) = ch.map (·.1) := by
 rw [List.map_set]
 refine List.ext_getElem? fun j => ?_
 rw [List.getElem?_set]
 split
 ·rename_i e
  subst e
  have hl : i < (ch.map (·.1)).length := by simpa using (List.getElem?_eq_some_iff.1 h).1
  simp [h]
  exact (List.getElem?_eq_some_iff.1 h).1
 ·rfl
theorem Zsd {X : Base} {ρ : Nat → RV} {b : Nat} {m : List PEV} {ch : List (PEV × ST PEV)} (hL : ∀ x, X.L x ↔ ∃ k, Za6 (lkB [(1000, Blk.res (Zbt b (.mk m ch)))] k) = true ∧ (ρ k).fp x) (hlie : Zz2 X (lkB [(1000, Blk.res (Zbt b (.mk m ch)))]) X.w0 ρ) :
  (∀ x, X.L x ↔ (ρ 1000).fp x) ∧ (∀ x, X.L x → x < X.w0.heap.size) ∧ X.rv 1000 = slS b ∧ (∀ {i : Nat} {v : Value}, VR X.w0 (FF X X.w0 (lkB [(1000, Blk.res (Zbt b (.mk m ch)))]) ρ) (lkB [(1000, Blk.res (Zbt b (.mk m ch)))]) ρ (.elt 1000 2 0 i) v → v = .pointer (some ⟨b, i, none⟩)) ∧
  TreeAt X.w0 (FF X X.w0 (lkB [(1000, Blk.res (Zbt b (.mk m ch)))]) ρ) (.mk m ch) b (ρ 1000).fp := by
 obtain ⟨⟨hv0, ht⟩, hmay⟩ := hlie.blks 1000 _ rfl
 have hk : ∀ k, Za6 (lkB [(1000, Blk.res (Zbt b (.mk m ch)))] k) = true → k = 1000 := fun k h => by
  obtain ⟨x1, m1, _⟩ := Zcd h
  simp only [List.mem_cons, Prod.mk.injEq, List.not_mem_nil, or_false] at m1
  exact m1.1
 refine ⟨fun x => ⟨fun h => ?_, fun h => (hL x).2 ⟨1000, rfl, h⟩⟩, fun x h => ?_, ?_, fun {i v} g1 => ?_, ht⟩
 ·obtain ⟨k, h1, h2⟩ := (hL x).1 h
  rw [hk k h1] at h2; exact h2
 ·obtain ⟨k, h1, h2⟩ := (hL x).1 h
  rw [hk k h1] at h2
  exact (hmay x h2).2
 ·rw [← hlie.lent 1000 (Nat.le_refl _) rfl, hv0]
 ·unfold VR at g1
  obtain ⟨_, ⟨x, _, _, g, len, c, e1, e2⟩ | h⟩ := g1
  ·rw [hv0] at e1
   unfold slS at e1
   injection e1 with e1 _ _
   injection e1 with e1
   injection e1 with e1
   rw [e2, ← e1]
   simp
  ·cases h
def lvS (b : Nat) (v : Value) : Nat → Prop := fun x => x = b ∨ v.ownBlock = some x
def rvS (b : Nat) (v : Value) : Nat → RV := fun k => if k = 1000 then RV.of (.pointer (some ⟨b, 0, none⟩)) else RV.of v
theorem Zpz {P : Program} {f : FuncId} {ι : Type} {out : ι → AV} {tbl' : ι → List (Nat × Blk)} {X : Base} {ρ : Nat → RV} {b : Nat} {m : List PEV} {ch : List (PEV × ST PEV)} {sm sc v1 v2 : Value} {nl : List PD} {d : PD} {base : Nat} {zs : List Value} {n : Nat}
  (hP : X.P = P) (hL : ∀ x, X.L x ↔ ∃ k, Za6 (lkB [(1000, Blk.res (Zbt b (.mk m ch)))] k) = true ∧ (ρ k).fp x) (hFL : ∀ b, X.F0 b → ¬ X.L b) (hL1 : ∀ x, lvS b sc x → X.L x)
  (t1 : X.w0.heap[b]? = some (.cells #[sm, sc] 122 (0, 0))) (c0 : X.w0.ownsRow base 99 4 sm n zs) (hr : RowAt X.w0 (FF X X.w0 (lkB [(1000, Blk.res (Zbt b (.mk m ch)))]) ρ) 224 5 40 nl sc) (hne : sc.ownBlock ≠ some b) (hv1 : v1 = .pointer (some ⟨b, 1, none⟩))
  (g2 : VR X.w0 (FF X X.w0 (lkB [(1000, Blk.res (Zbt b (.mk m ch)))]) ρ) (lkB [(1000, Blk.res (Zbt b (.mk m ch)))]) ρ (.dat d) v2)
  (c : Zh8 P f [.ptr 1000 1, .dat d] [(1000, .box 122 [.dat (.val sm), .own 1001]), (1001, .row 224 5 40 nl)] out tbl') :
  Calls P f #[v1, v2] X.w0 fun e w' => ∃ v i ρ', e = .returned v ∧ Bel (X.part (lvS b sc) hL1 fun k => (rvS b sc k).v) w' ∧ Zz2 (X.part (lvS b sc) hL1 fun k => (rvS b sc k).v) (lkB (tbl' i)) w' ρ' ∧ VR w' (FF (X.part (lvS b sc) hL1 fun k => (rvS b sc k).v) w' (lkB (tbl' i)) ρ') (lkB (tbl' i)) ρ' (out i) v := by
 obtain ⟨ys, c1, c2, c3, c4⟩ := hr
 have hfp1 : ∀ k x, Za6 (lkB [(1000, .box 122 [.dat (.val sm), .own 1001]), (1001, .row 224 5 40 nl)] k) = true → (rvS b sc k).fp x → lvS b sc x := by
  intro k x h1 h2
  unfold rvS at h2
  split at h2
  ·left
   have h2 : some b = some x := h2
   exact (Option.some.inj h2).symm
  ·right
   exact (Zes c1).1 h2
 have hFs := Zrk (rv := fun k => (rvS b sc k).v) hL hFL hL1 hfp1
 refine c (X.part (lvS b sc) hL1 fun k => (rvS b sc k).v) (rvS b sc) [v1, v2] hP (fun x => ⟨fun hx => ?_, fun ⟨k, h1, h2⟩ => hfp1 k x h1 h2⟩) (fun x h1 h2 => hFL x h1 (hL1 x h2)) ⟨fun k x hx => ?_, fun k k' x h1 h2 e1 e2 => ?_, fun k _ _ => rfl⟩ ?_
 ·rcases hx with rfl | hx
  ·exact ⟨1000, rfl, rfl⟩
  ·exact ⟨1001, rfl, (Zes c1).2 hx⟩
 ·have hm := Zfa hx
  simp only [List.mem_cons, Prod.mk.injEq, List.not_mem_nil, or_false] at hm
  rcases hm with ⟨rfl, rfl⟩ | ⟨rfl, rfl⟩
  ·refine ⟨b, [sm, sc], rfl, .inr (.inl rfl), t1, ?_, ?_⟩
   ·unfold VRs
    refine ⟨sm, [sc], rfl, ?_, ?_⟩
    ·unfold VR Rep
     refine ⟨rfl, ?_⟩
     rcases c0.2 with ⟨e1, _⟩ | ⟨g, cap, cur, e1, _⟩ <;> rw [e1] <;> trivial
    ·unfold VRs
     refine ⟨sc, [], rfl, ?_, by unfold VRs; rfl⟩
     unfold VR
     exact ⟨Zg5 c1, .inl ⟨_, rfl, .inl rfl, rfl⟩⟩
   ·intro u hu
    rcases List.mem_cons.1 hu with rfl | hu
    ·exact Zg5 c0
    ·rw [List.mem_singleton] at hu; rw [hu]; exact Zg5 c1
  ·exact ⟨ys, rfl, fun x hx => .inr (.inr hx), Zk5 c1 fun x hx => X.hLB x (hL1 x (.inr hx)), c2.keep (fun _ _ => rfl) hFs, c3, c4⟩
 ·obtain ⟨x1, m1, _⟩ := Zcd h1
  obtain ⟨x2, m2, _⟩ := Zcd h2
  simp only [List.mem_cons, Prod.mk.injEq, List.not_mem_nil, or_false] at m1 m2
  rcases m1 with ⟨rfl, _⟩ | ⟨rfl, _⟩ <;> rcases m2 with ⟨rfl, _⟩ | ⟨rfl, _⟩
  ·rfl
  ·have e1 : some b = some x := e1
   exact absurd ((Zes c1).1 e2) (by rw [← e1]; exact hne)
  ·have e2 : some b = some x := e2
   exact absurd ((Zes c1).1 e1) (by rw [← e2]; exact hne)
  ·rfl
 ·unfold VRs
  refine ⟨v1, [v2], rfl, ?_, ?_⟩
  ·unfold VR
   exact ⟨_, _, b, rfl, rfl, hv1⟩
  ·unfold VRs
   refine ⟨v2, [], rfl, ?_, by unfold VRs; rfl⟩
   unfold VR at g2 ⊢
   exact g2.keep (fun _ _ => rfl) hFs
theorem Zzw (p : PEV) (t' : ST PEV) (b' : Nat) : ∀ (loc : Nat) (ch : List (PEV × ST PEV)) (bs : List Nat), bs.length = ch.length → (((ch.take loc ++ (p, t') :: ch.drop loc).map (·.1)).zip (bs.take loc ++ b' :: bs.drop loc)).map Zr8 = ((((ch.map (·.1)).zip bs).map fun y => (y.1, PD.val (adr y.2))).take loc ++ (p, PD.val (adr b')) :: (((ch.map (·.1)).zip bs).map fun y => (y.1, PD.val (adr y.2))).drop loc).map dN
 | 0, ch, bs, h => by
  simp only [List.take_zero, List.drop_zero, List.nil_append, List.map_cons, List.zip_cons_cons]
  rw [Ygc]; rfl
 | loc + 1, [], bs, h => by
  have : bs = [] := List.eq_nil_of_length_eq_zero (by simpa using h)
  subst this
  rfl
 | loc + 1, y :: ch, [], h => by simp at h
 | loc + 1, y :: ch, b :: bs, h => by
  simp only [List.take_succ_cons, List.drop_succ_cons, List.cons_append, List.map_cons, List.zip_cons_cons]
  rw [Zzw p t' b' loc ch bs (by simpa using h)]
  rfl
theorem Ylh (b : Nat) (m : List PEV) (ch : List (PEV × ST PEV)) (p : PEV) (hl : ∀ x ∈ ch.map (·.1), OPE x) (hp : OPE p) (hs : Srt Zae (ch.map (·.1))) {k : PEV} {t : ST PEV} (hf : Ze8 Zae (ch.map (·.1)) p = true) (hx : ch[Zbc Zae (ch.map (·.1)) p]? = some (k, t)) :
  Zh8 Tryz.prog 96 [.elt 1000 2 0 1, .dat (Zav p)] [(1000, .res (Zbt b (.mk m ch)))] (ι := Nat) (fun _ => .elt 0 2 0 0)
   (fun b' => [(1000, .res (Zei b' (fun t' => .mk m (ch.set (Zbc Zae (ch.map (·.1)) p) (k, t'))) b)), (0, .res (Zbt b' t))]) := by
 intro X ρ vs hP hL hFL hlie hvs
 obtain ⟨hLO, hLs, hrv, helt, ht⟩ := Zsd hL hlie
 obtain ⟨v1, v2, rfl, g1, g2⟩ := Zjm hvs
 have hv1 := helt g1
 have hcx := hx
 unfold TreeAt at ht
 obtain ⟨sm, sc, bs, Ok, t1, ⟨xs, a1, a2, a3, a4⟩, hrow, t4, t5, t6, t7, t8, t9, t10, t11⟩ := ht
 obtain ⟨b', O1, O2, j1, j2, j3, j4, j5⟩ := t4.take hx
 have hlen := t4.len
 have hL1 : ∀ x, lvS b sc x → X.L x := fun x hx => (hLO x).2 ((t5 x).2 (hx.imp id fun h => .inr (.inl h)))
 have hmx : (((ch.map (·.1)).zip bs).map fun y => (y.1, PD.val (adr y.2)))[Zbc Zae (ch.map (·.1)) p]? = some (k, PD.val (adr b')) := by
  rw [List.getElem?_map, (List.getElem?_zip_eq_some (z := (k, b'))).2 ⟨by rw [List.getElem?_map, hx]; rfl, j1⟩]; rfl
 have c := Ylg sm (((ch.map (·.1)).zip bs).map fun y => (y.1, PD.val (adr y.2))) p (by rw [Zf6 (by simpa using hlen)]; exact hl) hp (by rw [Zf6 (by simpa using hlen)]; exact hs) (b := b') (k := k) (by rw [Zf6 (by simpa using hlen)]; exact hf) (by rw [Zf6 (by simpa using hlen)]; exact hmx)
 rw [Ygc] at c
 refine (Zpz hP hL hFL hL1 t1 a1 hrow t7 hv1 g2 c).mono ?_
 rintro e' w' ⟨v, i, ρ2, he, hbel, hl2, hvr⟩
 obtain ⟨b2, vs', e1, _, k1, k2, k3⟩ := hl2.blks 1000 _ rfl
 have e2 := hl2.lent 1000 (Nat.le_refl _) rfl
 rw [e1] at e2
 have e2 : Value.pointer (some ⟨b2, 0, none⟩) = .pointer (some ⟨b, 0, none⟩) := e2
 simp only [Value.pointer.injEq, Option.some.injEq, Addr.mk.injEq, and_true] at e2
 subst e2
 obtain ⟨v0, u0, rfl, k4, k5⟩ := Zjm k2
 obtain ⟨ys0, q0, qm, q1, q2, q3, q4⟩ := hl2.blks 1001 _ rfl
 have e3 : (ρ2 1001).v = sc := hl2.lent 1001 (by omega) rfl
 have m5 := Zib k5 (x := .row 224 5 40 (((ch.map (·.1)).zip bs).map Zr8)) rfl rfl
 have m4 : v0 = sm := by unfold VR Rep at k4; exact k4.1
 rw [e3] at m5 q0 q1
 clear k4 k5
 subst m4 m5
 have hb0 : X.L b2 := hL1 b2 (.inl rfl)
 have hsz : X.w0.heap.size ≤ w'.heap.size := hbel.size
 have hfr : ∀ x, v0.ownBlock = some x ∨ Ok x → X.L x ∧ ¬ lvS b2 u0 x := fun x hx => by
  rcases hx with h | h
  ·refine ⟨(hLO x).2 ((t5 x).2 (.inr (.inl h))), fun h2 => ?_⟩
   rcases h2 with rfl | h2
   ·exact t6 h
   ·exact t8 x h h2
  ·refine ⟨(hLO x).2 ((t5 x).2 (.inr (.inr (.inr h)))), fun h2 => ?_⟩
   rcases h2 with rfl | h2
   ·exact t9 h
   ·exact t11 x h2 h
 have hsame : ∀ x, X.L x ∧ ¬ lvS b2 u0 x → w'.heap[x]? = X.w0.heap[x]? := fun x hx => hbel.block x (hLs x hx.1) hx.2
 let Or : Nat → Prop := fun x => x = b2 ∨ v0.ownBlock = some x ∨ u0.ownBlock = some x ∨ O2 x
 let ρf : Nat → RV := fun k => if k = 1000 then ⟨slS b2, Or⟩ else ⟨slS b', O1⟩
 have hnL : ∀ x, FF X X.w0 (lkB [(1000, .res (Zbt b2 (.mk m ch)))]) ρ x → ¬ X.L x := fun x hx h => by
  obtain ⟨k, h1, h2⟩ := (hL x).1 h
  exact hx.2.2 k h1 h2
 have hF0 : ∀ x, FF X X.w0 (lkB [(1000, .res (Zbt b2 (.mk m ch)))]) ρ x → w'.heap[x]? = X.w0.heap[x]? := fun x hx => hbel.block x hx.2.1 fun h => hnL x hx (hL1 x h)
 have hall : ∀ q x, Za6 (lkB [(1000, .res (Zei b' (fun t' => .mk m (ch.set (Zbc Zae (ch.map (·.1)) p) (k, t'))) b2)), (0, .res (Zbt b' t))] q) = true → (ρf q).fp x → x = b2 ∨ u0.ownBlock = some x ∨ (v0.ownBlock = some x ∨ Ok x) := fun k x h1 h2 => by
  simp only [ρf] at h2
  split at h2
  ·rcases h2 with h | h | h | h
   ·exact .inl h
   ·exact .inr (.inr (.inl h))
   ·exact .inr (.inl h)
   ·exact .inr (.inr (.inr ((j3 x).2 (.inr h))))
  ·exact .inr (.inr (.inr ((j3 x).2 (.inl h2))))
 have hFe : ∀ x, FF (X.part (lvS b2 u0) hL1 fun k => (rvS b2 u0 k).v) w' (lkB [(1000, .box 122 [.dat (.val v0), .own 1001]), (1001, .row 224 5 40 (((ch.map (·.1)).zip bs).map Zr8))]) ρ2 x → FF X w' (lkB [(1000, .res (Zei b' (fun t' => .mk m (ch.set (Zbc Zae (ch.map (·.1)) p) (k, t'))) b2)), (0, .res (Zbt b' t))]) ρf x := Zyc hFL hLs hL1 fun k x h1 h2 => by
  rcases hall k x h1 h2 with rfl | h | h
  ·exact .inl ⟨1000, rfl, by rw [e1]; rfl⟩
  ·exact .inl ⟨1001, rfl, by rw [q0]; exact (Zes q1).2 h⟩
  ·exact .inr (hfr x h)
 have hLall : ∀ x, x = b2 ∨ u0.ownBlock = some x ∨ (v0.ownBlock = some x ∨ Ok x) → X.L x := fun x h => by
  rcases h with h | h | h
  ·exact hL1 x (.inl h)
  ·exact hL1 x (.inr h)
  ·exact (hfr x h).1
 have hFs2 : ∀ x, FF X X.w0 (lkB [(1000, .res (Zbt b2 (.mk m ch)))]) ρ x → FF X w' (lkB [(1000, .res (Zei b' (fun t' => .mk m (ch.set (Zbc Zae (ch.map (·.1)) p) (k, t'))) b2)), (0, .res (Zbt b' t))]) ρf x := fun x hx =>
  ⟨hx.1, Nat.lt_of_lt_of_le hx.2.1 hsz, fun k h1 h2 => hnL x hx (hLall x (hall k x h1 h2))⟩
 have hdj : ∀ x, Or x → ¬ O1 x := fun x h h1 => by
  have hk : Ok x := (j3 x).2 (.inl h1)
  rcases h with rfl | h | h | h
  ·exact t9 hk
  ·exact t10 x h hk
  ·exact t11 x h hk
  ·exact j4 x h1 h
 refine ⟨v, b', ρf, he, Zmw hbel, ⟨fun k x hx => ?_, fun k k' x h1 h2 f1 f2 => ?_, fun k h1 h2 => ?_⟩, ?_⟩
 ·have hm := Zfa hx
  simp only [List.mem_cons, Prod.mk.injEq, List.not_mem_nil, or_false] at hm
  rcases hm with ⟨rfl, rfl⟩ | ⟨rfl, rfl⟩
  ·refine ⟨⟨rfl, ?_⟩, fun x hx => ⟨.inr (hLall x (hall 1000 x rfl hx)), Nat.lt_of_lt_of_le (hLs _ (hLall x (hall 1000 x rfl hx))) hsz⟩⟩
   refine Yf8 (by simpa using k1) (RowAt.keep hF0 hFs2 (fun x hx => hsame x (hfr x (.inl hx))) ⟨xs, a1, a2, a3, a4⟩) (fun t' => ?_) (fun w2 F2 t' O' f1 f2 f3 f4 f5 => j5 w2 F2 t' O' (fun x hx => (f1 x (hFs2 x hx)).trans (hF0 x hx)) (fun x hx => f2 x (hFs2 x hx)) (fun x hx => (f3 x hx).trans (hsame x (hfr x (.inr ((j3 x).2 (.inr hx)))))) f4 f5) t6 t7 t8 (fun h => t9 ((j3 _).2 (.inr h))) (fun x h h' => t10 x h ((j3 _).2 (.inr h'))) (fun x h h' => t11 x h ((j3 _).2 (.inr h')))
   rw [Yjb hcx]
   exact ⟨ys0, Zk5 q1 (fun _ _ => Nat.zero_le _), q2.keep (fun _ _ => rfl) hFe, q3, q4⟩
  ·exact ⟨⟨rfl, TreeAt.keep hF0 hFs2 t (fun x hx => hsame x (hfr x (.inr ((j3 x).2 (.inl hx))))) j2⟩, fun x hx => ⟨.inr (hLall x (hall 0 x rfl hx)), Nat.lt_of_lt_of_le (hLs _ (hLall x (hall 0 x rfl hx))) hsz⟩⟩
 ·obtain ⟨x1, m1, _⟩ := Zcd h1
  obtain ⟨x2, m2, _⟩ := Zcd h2
  simp only [List.mem_cons, Prod.mk.injEq, List.not_mem_nil, or_false] at m1 m2
  rcases m1 with ⟨rfl, _⟩ | ⟨rfl, _⟩ <;> rcases m2 with ⟨rfl, _⟩ | ⟨rfl, _⟩
  ·rfl
  ·exact absurd f2 (hdj x f1)
  ·exact absurd f1 (hdj x f2)
  ·rfl
 ·obtain ⟨x1, m1, _⟩ := Zcd h2
  simp only [List.mem_cons, Prod.mk.injEq, List.not_mem_nil, or_false] at m1
  rcases m1 with ⟨rfl, _⟩ | ⟨rfl, _⟩
  ·exact hrv.symm
  ·omega
 ·unfold VR Rep at hvr
  unfold VR
  rw [hvr.1]
  exact ⟨rfl, .inl ⟨_, rfl, .inr rfl, b', 1, 1, rfl, by simp [adr]⟩⟩
theorem Ylj (b : Nat) (m : List PEV) (ch : List (PEV × ST PEV)) (p : PEV) (hl : ∀ x ∈ ch.map (·.1), OPE x) (hp : OPE p) (hs : Srt Zae (ch.map (·.1))) (hb : (ch.length + 1) * 40 ≤ 140737488351232) (hf : Ze8 Zae (ch.map (·.1)) p = false) :
  Zh8 Tryz.prog 96 [.elt 1000 2 0 1, .dat (Zav p)] [(1000, .res (Zbt b (.mk m ch)))] (ι := Nat) (fun _ => .elt 0 2 0 0)
   (fun b' => [(1000, .res (Zei b' (fun t' => .mk m (ch.take (Zbc Zae (ch.map (·.1)) p) ++ (p, t') :: ch.drop (Zbc Zae (ch.map (·.1)) p))) b)), (0, .res (Zbt b' (.mk [] [])))]) := by
 intro X ρ vs hP hL hFL hlie hvs
 obtain ⟨hLO, hLs, hrv, helt, ht⟩ := Zsd hL hlie
 obtain ⟨v1, v2, rfl, g1, g2⟩ := Zjm hvs
 have hv1 := helt g1
 unfold TreeAt at ht
 obtain ⟨sm, sc, bs, Ok, t1, ⟨xs, a1, a2, a3, a4⟩, hrow, t4, t5, t6, t7, t8, t9, t10, t11⟩ := ht
 have hlen := t4.len
 have hL1 : ∀ x, lvS b sc x → X.L x := fun x hx => (hLO x).2 ((t5 x).2 (hx.imp id fun h => .inr (.inl h)))
 have hzl : ((((ch.map (·.1)).zip bs).map fun y => (y.1, PD.val (adr y.2))).length) = ch.length := by simp [hlen]
 have c := Yli sm (((ch.map (·.1)).zip bs).map fun y => (y.1, PD.val (adr y.2))) p (by rw [Zf6 (by simpa using hlen)]; exact hl) hp (by rw [Zf6 (by simpa using hlen)]; exact hs) (by rw [hzl]; exact hb) (by rw [Zf6 (by simpa using hlen)]; exact hf)
 rw [Ygc, Zf6 (by simpa using hlen)] at c
 refine (Zpz hP hL hFL hL1 t1 a1 hrow t7 hv1 g2 c).mono ?_
 rintro e' w' ⟨v, b', ρ2, he, hbel, hl2, hvr⟩
 obtain ⟨b2, vs', e1, _, k1, k2, k3⟩ := hl2.blks 1000 _ rfl
 have e2 := hl2.lent 1000 (Nat.le_refl _) rfl
 rw [e1] at e2
 have e2 : Value.pointer (some ⟨b2, 0, none⟩) = .pointer (some ⟨b, 0, none⟩) := e2
 simp only [Value.pointer.injEq, Option.some.injEq, Addr.mk.injEq, and_true] at e2
 subst e2
 obtain ⟨v0, u0, rfl, k4, k5⟩ := Zjm k2
 obtain ⟨ys0, q0, qm, q1, q2, q3, q4⟩ := hl2.blks 0 _ rfl
 obtain ⟨⟨s0, s1⟩, s2⟩ := hl2.blks 1 _ rfl
 have m5 := Zib k5 (x := .row 224 5 40 (((((ch.map (·.1)).zip bs).map fun y => (y.1, PD.val (adr y.2))).take (Zbc Zae (ch.map (·.1)) p) ++ (p, PD.val (adr b')) :: (((ch.map (·.1)).zip bs).map fun y => (y.1, PD.val (adr y.2))).drop (Zbc Zae (ch.map (·.1)) p)).map dN)) rfl rfl
 have m4 : v0 = sm := by unfold VR Rep at k4; exact k4.1
 clear k4 k5
 subst m4
 generalize hu : (ρ2 0).v = u1 at *
 subst m5
 have hb0 : X.L b2 := hL1 b2 (.inl rfl)
 have hsz : X.w0.heap.size ≤ w'.heap.size := hbel.size
 have hfr : ∀ x, v0.ownBlock = some x ∨ Ok x → X.L x ∧ ¬ lvS b2 sc x := fun x hx => by
  rcases hx with h | h
  ·refine ⟨(hLO x).2 ((t5 x).2 (.inr (.inl h))), fun h2 => ?_⟩
   rcases h2 with rfl | h2
   ·exact t6 h
   ·exact t8 x h h2
  ·refine ⟨(hLO x).2 ((t5 x).2 (.inr (.inr (.inr h)))), fun h2 => ?_⟩
   rcases h2 with rfl | h2
   ·exact t9 h
   ·exact t11 x h2 h
 have hsame : ∀ x, X.L x ∧ ¬ lvS b2 sc x → w'.heap[x]? = X.w0.heap[x]? := fun x hx => hbel.block x (hLs x hx.1) hx.2
 let Or : Nat → Prop := fun x => x = b2 ∨ v0.ownBlock = some x ∨ u0.ownBlock = some x ∨ Ok x
 let ρf : Nat → RV := fun k => if k = 1000 then ⟨slS b2, Or⟩ else ⟨slS b', (ρ2 1).fp⟩
 have hnL : ∀ x, FF X X.w0 (lkB [(1000, .res (Zbt b2 (.mk m ch)))]) ρ x → ¬ X.L x := fun x hx h => by
  obtain ⟨k, h1, h2⟩ := (hL x).1 h
  exact hx.2.2 k h1 h2
 have hF0 : ∀ x, FF X X.w0 (lkB [(1000, .res (Zbt b2 (.mk m ch)))]) ρ x → w'.heap[x]? = X.w0.heap[x]? := fun x hx => hbel.block x hx.2.1 fun h => hnL x hx (hL1 x h)
 have hall : ∀ q x, Za6 (lkB [(1000, .res (Zei b' (fun t' => .mk m (ch.take (Zbc Zae (ch.map (·.1)) p) ++ (p, t') :: ch.drop (Zbc Zae (ch.map (·.1)) p))) b2)), (0, .res (Zbt b' (.mk [] [])))] q) = true → (ρf q).fp x → x = b2 ∨ u0.ownBlock = some x ∨ (ρ2 1).fp x ∨ (v0.ownBlock = some x ∨ Ok x) := fun k x h1 h2 => by
  simp only [ρf] at h2
  split at h2
  ·rcases h2 with h | h | h | h
   ·exact .inl h
   ·exact .inr (.inr (.inr (.inl h)))
   ·exact .inr (.inl h)
   ·exact .inr (.inr (.inr (.inr h)))
  ·exact .inr (.inr (.inl h2))
 have hm1 : ∀ x, (X.part (lvS b2 sc) hL1 fun k => (rvS b2 sc k).v).may x → X.may x ∧ ¬ (X.L x ∧ ¬ lvS b2 sc x) := fun x hx => by
  rcases hx with h | h
  ·have h : X.w0.heap.size ≤ x := h
   exact ⟨.inl h, fun h2 => by have := hLs x h2.1; omega⟩
  ·exact ⟨.inr (hL1 x h), fun h2 => h2.2 h⟩
 have hFe : ∀ x, FF (X.part (lvS b2 sc) hL1 fun k => (rvS b2 sc k).v) w' (lkB [(1000, .box 122 [.dat (.val v0), .own 0]), (0, .row 224 5 40 (((((ch.map (·.1)).zip bs).map fun y => (y.1, PD.val (adr y.2))).take (Zbc Zae (ch.map (·.1)) p) ++ (p, PD.val (adr b')) :: (((ch.map (·.1)).zip bs).map fun y => (y.1, PD.val (adr y.2))).drop (Zbc Zae (ch.map (·.1)) p)).map dN)), (1001, .dead), (1, .res (Zbt b' (.mk [] [])))]) ρ2 x → FF X w' (lkB [(1000, .res (Zei b' (fun t' => .mk m (ch.take (Zbc Zae (ch.map (·.1)) p) ++ (p, t') :: ch.drop (Zbc Zae (ch.map (·.1)) p))) b2)), (0, .res (Zbt b' (.mk [] [])))]) ρf x := Zyc hFL hLs hL1 fun k x h1 h2 => by
  rcases hall k x h1 h2 with rfl | h | h | h
  ·exact .inl ⟨1000, rfl, by rw [e1]; rfl⟩
  ·exact .inl ⟨0, rfl, by rw [q0]; exact (Zes q1).2 h⟩
  ·exact .inl ⟨1, rfl, h⟩
  ·exact .inr (hfr x h)
 have hcl : ∀ q x, Za6 (lkB [(1000, .res (Zei b' (fun t' => .mk m (ch.take (Zbc Zae (ch.map (·.1)) p) ++ (p, t') :: ch.drop (Zbc Zae (ch.map (·.1)) p))) b2)), (0, .res (Zbt b' (.mk [] [])))] q) = true → (ρf q).fp x → X.may x ∧ x < w'.heap.size := fun q x h1 h2 => by
  rcases hall q x h1 h2 with rfl | h | h | h
  ·exact ⟨.inr hb0, Nat.lt_of_lt_of_le (hLs _ hb0) hsz⟩
  ·exact ⟨(hm1 x (qm x h)).1, Ykf q1 h⟩
  ·exact ⟨(hm1 x (s2 x h).1).1, (s2 x h).2⟩
  ·exact ⟨.inr (hfr x h).1, Nat.lt_of_lt_of_le (hLs _ (hfr x h).1) hsz⟩
 have hFs2 : ∀ x, FF X X.w0 (lkB [(1000, .res (Zbt b2 (.mk m ch)))]) ρ x → FF X w' (lkB [(1000, .res (Zei b' (fun t' => .mk m (ch.take (Zbc Zae (ch.map (·.1)) p) ++ (p, t') :: ch.drop (Zbc Zae (ch.map (·.1)) p))) b2)), (0, .res (Zbt b' (.mk [] [])))]) ρf x := fun x hx =>
  ⟨hx.1, Nat.lt_of_lt_of_le hx.2.1 hsz, fun k h1 h2 => by
   rcases (hcl k x h1 h2).1 with h | h
   ·have := hx.2.1; omega
   ·exact hnL x hx h⟩
 have hdj : ∀ x, Or x → ¬ (ρ2 1).fp x := fun x h h1 => by
  have hk := (hm1 x (s2 x h1).1).2
  rcases h with rfl | h | h | h
  ·have := hl2.apart 1000 1 x rfl rfl (by rw [e1]; rfl) h1
   cases this
  ·exact hk (hfr x (.inl h))
  ·have := hl2.apart 0 1 x rfl rfl (by rw [q0]; exact (Zes q1).2 h) h1
   cases this
  ·exact hk (hfr x (.inr h))
 have hd2 : u0.ownBlock ≠ some b2 := fun h => by
  have := hl2.apart 1000 0 b2 rfl rfl (by rw [e1]; rfl) (by rw [q0]; exact (Zes q1).2 h)
  cases this
 refine ⟨v, b', ρf, he, Zmw hbel, ⟨fun k x hx => ?_, fun k k' x h1 h2 f1 f2 => ?_, fun k h1 h2 => ?_⟩, ?_⟩
 ·have hm := Zfa hx
  simp only [List.mem_cons, Prod.mk.injEq, List.not_mem_nil, or_false] at hm
  rcases hm with ⟨rfl, rfl⟩ | ⟨rfl, rfl⟩
  ·refine ⟨⟨rfl, ?_⟩, fun x hx => hcl 1000 x rfl hx⟩
   refine Yf8 (by simpa using k1) (RowAt.keep hF0 hFs2 (fun x hx => hsame x (hfr x (.inl hx))) ⟨xs, a1, a2, a3, a4⟩) (bs := bs.take (Zbc Zae (ch.map (·.1)) p) ++ b' :: bs.drop (Zbc Zae (ch.map (·.1)) p)) (fun t' => ?_) (fun w2 F2 t' O' f1 f2 f3 f4 f5 => KidsAt.put f4 _ (KidsAt.keep (fun x hx => (f1 x (hFs2 x hx)).trans (hF0 x hx)) (fun x hx => f2 x (hFs2 x hx)) ch (fun x hx => (f3 x hx).trans (hsame x (hfr x (.inr hx)))) t4) f5) t6 hd2 (fun x h h' => (hm1 x (qm x h')).2 (hfr x (.inl h))) t9 t10 (fun x h h' => (hm1 x (qm x h)).2 (hfr x (.inr h')))
   rw [Zzw p t' b' _ ch bs hlen]
   exact ⟨ys0, Zk5 q1 (fun _ _ => Nat.zero_le _), q2.keep (fun _ _ => rfl) hFe, q3, q4⟩
  ·exact ⟨⟨rfl, TreeAt.keep (fun _ _ => rfl) hFe _ (fun _ _ => rfl) s1⟩, fun x hx => hcl 0 x rfl hx⟩
 ·obtain ⟨x1, m1, _⟩ := Zcd h1
  obtain ⟨x2, m2, _⟩ := Zcd h2
  simp only [List.mem_cons, Prod.mk.injEq, List.not_mem_nil, or_false] at m1 m2
  rcases m1 with ⟨rfl, _⟩ | ⟨rfl, _⟩ <;> rcases m2 with ⟨rfl, _⟩ | ⟨rfl, _⟩
  ·rfl
  ·exact absurd f2 (hdj x f1)
  ·exact absurd f1 (hdj x f2)
  ·rfl
 ·obtain ⟨x1, m1, _⟩ := Zcd h2
  simp only [List.mem_cons, Prod.mk.injEq, List.not_mem_nil, or_false] at m1
  rcases m1 with ⟨rfl, _⟩ | ⟨rfl, _⟩
  ·exact hrv.symm
  ·omega
 ·unfold VR Rep at hvr
  unfold VR
  rw [hvr.1]
  exact ⟨rfl, .inl ⟨_, rfl, .inr rfl, b', 1, 1, rfl, by simp [adr]⟩⟩
theorem Yo8 (b : Nat) (m : List PEV) (ch : List (PEV × ST PEV)) (p : PEV) (hl : ∀ x ∈ ch.map (·.1), OPE x) (hp : OPE p) (hs : Srt Zae (ch.map (·.1))) (hb : (ch.length + 1) * 40 ≤ 140737488351232) :
  Zh8 Tryz.prog 96 [.elt 1000 2 0 1, .dat (Zav p)] [(1000, .res (Zbt b (.mk m ch)))] (ι := Nat) (fun _ => .elt 0 2 0 0)
   (fun b' => [(1000, .res (Zei b' (fun t' => .mk m (Zj5 Zae ch p t')) b)), (0, .res (Zbt b' ((Zd6 Zae ch p).getD (.mk [] []))))]) := by
 cases hf : Ze8 Zae (ch.map (·.1)) p with
 | true =>
  obtain ⟨x, g1, _, g3⟩ := Zm3 ch p (.mk [] []) hf
  have e : (fun t' => ST.mk m (Zj5 Zae ch p t')) = fun t' => ST.mk m (ch.set (Zbc Zae (ch.map (·.1)) p) (x.1, t')) := by
   funext t'
   obtain ⟨y, h1, h2, _⟩ := Zm3 ch p t' hf
   rw [g1] at h1
   cases h1
   rw [h2]
  rw [e, g3]
  exact Ylh b m ch p hl hp hs hf g1
 | false =>
  have e : (fun t' => ST.mk m (Zj5 Zae ch p t')) = fun t' => ST.mk m (ch.take (Zbc Zae (ch.map (·.1)) p) ++ (p, t') :: ch.drop (Zbc Zae (ch.map (·.1)) p)) := by
   funext t'
   rw [(Zm4 ch p t' hf).1]
  rw [e, (Zm4 ch p (.mk [] []) hf).2]
  exact Ylj b m ch p hl hp hs hb hf
theorem Yf7 {w : World} {F O1 O2 : Nat → Prop} {b b1 b2 : Nat} {g g' : ST PEV → ST PEV} (h1 : Yor w F O1 b1 g b) (h2 : Yor w F O2 b2 g' b1) (hd : ∀ x, O1 x → ¬ O2 x) : Yor w F (fun x => O1 x ∨ O2 x) b2 (fun t => g (g' t)) b := by
 intro w' F' t' O' f1 f2 f3 f4 f5
 have t2 := h2 w' F' t' O' f1 f2 (fun x hx => f3 x (.inr hx)) f4 (fun x hx => f5 x (.inr hx))
 refine (h1 w' F' _ _ f1 f2 (fun x hx => f3 x (.inl hx)) t2 fun x hx h => ?_).congr fun x => or_assoc
 rcases h with h | h
 ·exact hd x hx h
 ·exact f5 x (.inl hx) h
section
variable {P : Program} {X : Base} {N : Nat} {Q : Exit → Act → World → Prop} {ks : List Itm} {s : Sta}
theorem Yfs {k1 k2 : Nat} {b b1 b2 : Nat} {g g' : ST PEV → ST PEV} (hk1 : s.tb k1 = some (.res (Zei b1 g b))) (hk2 : s.tb k2 = some (.res (Zei b2 g' b1))) (hne : k1 ≠ k2)
  (h : Run P X N Q ks ((s.set k2 .dead).set k1 (.res (Zei b2 (fun t => g (g' t)) b)))) : Run P X N Q ks s := Zfc (fun a w ⟨ρ, hc⟩ => by
 obtain ⟨⟨v1, w1⟩, m1⟩ := hc.blks k1 _ hk1
 obtain ⟨⟨v2, w2⟩, m2⟩ := hc.blks k2 _ hk2
 have hap : ∀ x, (ρ k1).fp x → ¬ (ρ k2).fp x := fun x h1 h2 => hne (hc.apart k1 k2 x (by rw [hk1]; rfl) (by rw [hk2]; rfl) h1 h2)
 have hj := hc.join (js := [k1, k2]) (d := k1) (R := Zei b2 (fun t => g (g' t)) b) (v := (ρ k1).v) (O := fun x => (ρ k1).fp x ∨ (ρ k2).fp x) (w' := w) (fun k hk => by
   rcases List.mem_cons.1 hk with rfl | hk
   ·rw [hk1]; rfl
   ·rw [List.mem_singleton] at hk; subst hk; rw [hk2]; rfl) (.inr ⟨by simp, rfl, _, hk1⟩) (fun k hk t cs hcs => by
   rcases List.mem_cons.1 hk with rfl | hk
   ·rw [hk1] at hcs; cases hcs
   ·rw [List.mem_singleton] at hk; subst hk; rw [hk2] at hcs; cases hcs) rfl rfl rfl (Nat.le_refl _) (fun _ _ _ => rfl) (fun x hx => by
   rcases hx with hx | hx
   ·exact .inr ⟨k1, by simp, hx⟩
   ·exact .inr ⟨k2, by simp, hx⟩) (fun F' hF' => ⟨v1, Yf7 (fun w' F2 t' O' f1 f2 f3 f4 f5 => w1 w' F2 t' O' (fun x hx => f1 x (hF' x hx)) (fun x hx => f2 x (hF' x hx)) f3 f4 f5) (fun w' F2 t' O' f1 f2 f3 f4 f5 => w2 w' F2 t' O' (fun x hx => f1 x (hF' x hx)) (fun x hx => f2 x (hF' x hx)) f3 f4 f5) hap⟩)
 have e : Zhs [k1, k2] k1 (Zei b2 (fun t => g (g' t)) b) s.tb = ((s.set k2 .dead).set k1 (.res (Zei b2 (fun t => g (g' t)) b))).tb := by
  funext j
  show _ = upd (upd s.tb k2 (some .dead)) k1 (some _) j
  unfold Zhs upd
  by_cases h1 : j = k1
  ·rw [if_pos h1, if_pos h1]
  ·rw [if_neg h1, if_neg h1]
   by_cases h2 : j = k2
   ·rw [if_pos h2, if_pos (by simp [h2])]
   ·rw [if_neg h2, if_neg (by simp [h1, h2])]
 rw [e] at hj
 exact ⟨_, hj⟩) h
end
structure Ysc (n : Nat) (T : ST PEV) where
 b : Nat
 t : ST PEV
 g : ST PEV → ST PEV
 q : List PEV
 eq : g (Zgv Zae q t) = T
 ne : q ≠ []
 O : ∀ x ∈ q, OPE x
 W : WFT Zae OPE t
 Z : SzT n t
theorem Ypr (b b1 : Nat) (g : ST PEV → ST PEV) (t : ST PEV) (q : List PEV) (hq : q ≠ []) (hO : ∀ x ∈ q, OPE x) (hw : WFT Zae OPE t) (n : Nat) (hz : SzT n t) (hn : n ≤ 549755813888) :
  Zh8 Tryz.prog 97 [.elt 1001 2 0 0, .dat (.sl 4 32 (q.map Zav))] [(1000, .res (Zei b1 g b)), (1001, .res (Zbt b1 t))] (ι := { x : Nat × ST PEV × (ST PEV → ST PEV) // x.2.2 x.2.1 = g (Zgv Zae q t) }) (fun _ => .dat (.tup []))
   (fun x => [(1000, .res (Zei x.1.1 x.1.2.2 b)), (0, .res (Zbt x.1.1 x.1.2.1)), (1001, .dead)]) := by
 have g0 : decide ((((q.map Zav).length : Nat) : Int) = 0) = false := decide_eq_false (by
  have : q.length ≠ 0 := fun h => hq (List.eq_nil_of_length_eq_zero h)
  simp only [List.length_map]; omega)
 refine Zar Tryz.func97 rfl Tryz.ntmps97 rfl (fun X => ?_)
 refine wk ?_
 refine Zaq (ι := Ysc n (g (Zgv Zae q t)))
  (fun j => [(0, .elt 100 2 0 0), (1, .dat (.sl 4 32 (j.q.map Zav)))])
  (fun j => [(1000, .res (Zei j.b j.g b)), (100, .res (Zbt j.b j.t)), (1001, .dead)]) (fun j => j.q.length) ⟨b1, t, g, q, rfl, hq, hO, hw, hz⟩ (fun k => if k = 100 then 1001 else k) ?_ ?_
 ·exact sb
 clear hO hw hz hq g0
 generalize g (Zgv Zae q t) = T
 clear g t q b1
 rintro ⟨b1, ⟨m, ch⟩, g, q, he, hq, hO, hw, hz⟩
 obtain ⟨w1, w2, w3, w4⟩ := WFT_iff.1 hw
 obtain ⟨z1, z2, z3⟩ := SzT_iff.1 hz
 simp only [ST.m, ST.c] at w1 w2 w3 w4 z1 z2 z3
 have w4' : ∀ x ∈ ch.map (·.1), OPE x := fun x hx => by
  obtain ⟨y, hy, rfl⟩ := List.mem_map.1 hx
  exact (WFC_iff.1 w4 y hy).1
 cases q with
 | nil => exact absurd rfl hq
 | cons x q =>
  have hx := hO x (by simp)
  obtain ⟨u0, u1, u2, u3, e⟩ := Zcm x
  cases q with
  | nil =>
   have c := Yik b1 m ch x w1 hx w2 (by omega)
   have i0 : ([x].map Zav)[(0 : Int).toNat]? = some (.agg [u0, u1, u2, u3]) := by rw [← e]; rfl
   have g1 : decide (((([x].map Zav).length : Nat) : Int) = 1) = true := rfl
   rw [e] at c
   have nd : Zjf := ⟨trivial⟩
   refine wk ?_
   clear nd
   refine Zo5 6 (by kernel_rfl) ?_
   simp only [List.take_succ_cons, List.take_zero]
   refine wk ?_
   refine Zcb (thk [(1000, 100)] 200) rfl (by kernel_rfl) c rfl ⟨rfl, trivial⟩ rfl (Zaj rfl) rfl ?_
   refine wk ?_
   refine Za4 ⟨(b1, .mk (Zde Zae m x) ch, g), he⟩ (thk [(0, 100), (1000, 1000), (1001, 1001)] 0) (tm := []) ?_ (Zeh rfl)
   exact sb
  | cons y r =>
   have c := Yo8 b1 m ch x w4' hx w3 (by omega)
   have i0 : ((x :: y :: r).map Zav)[(0 : Int).toNat]? = some (.agg [u0, u1, u2, u3]) := by rw [← e]; rfl
   have g1 : decide (((((x :: y :: r).map Zav).length : Nat) : Int) = 1) = false := decide_eq_false (by simp only [List.length_map, List.length_cons]; omega)
   rw [e] at c
   have ln : 1 ≤ ((x :: y :: r).map Zav).length := by simp
   have l1 : PD.sl 4 32 (((((x :: y :: r).map Zav)).take ((x :: y :: r).map Zav).length).drop 1) = PD.sl 4 32 ((y :: r).map Zav) := by
    rw [List.take_length]; rfl
   have nd : Zjf := ⟨trivial⟩
   refine wk ?_
   clear nd
   refine Zo5 6 (by kernel_rfl) ?_
   simp only [List.take_succ_cons, List.take_zero]
   refine wk ?_
   refine Zwj (thk [(1000, 100)] 200) rfl (by kernel_rfl) c rfl ⟨rfl, trivial⟩ rfl (fun _ => Zaj rfl) (fun _ => rfl) (fun b' => ?_)
   refine wk ?_
   refine Yfs (k1 := 1000) (k2 := 100) rfl rfl (by decide) ?_
   refine Zah ?_
   refine ⟨⟨b', (Zd6 Zae ch x).getD (.mk [] []), fun t' => g (.mk m (Zj5 Zae ch x t')), y :: r, he, by simp, fun z hz => hO z (List.mem_cons_of_mem _ hz), ?_, Zye z3⟩, thk [(100, 200), (1000, 1000), (1001, 1001)] 0, by simp, ?_⟩
   ·cases hg : Zd6 Zae ch x with
    | none => exact Zgy
    | some t' => exact Zrp w4 hg
   ·exact sb
theorem Yhy (b : Nat) (t : ST PEV) : Zb0 Tryz.prog 97 [.elt 1000 2 0 0, .dat (.sl 4 32 [])] [(1000, .res (Zbt b t))] (.dat (.tup [])) [(1000, .res (Zbt b t))] := by
 refine Zar Tryz.func97 rfl Tryz.ntmps97 rfl (fun X => ?_)
 have g0 : decide (((([] : List PD).length : Nat) : Int) = 0) = true := rfl
 refine wk ?_
 refine Za4 () id (tm := []) ?_ (Zeh rfl)
 exact sb
theorem Yru (b : Nat) (t : ST PEV) (q : List PEV) (hO : ∀ x ∈ q, OPE x) (hw : WFT Zae OPE t) {n : Nat} (hz : SzT n t) (hn : n ≤ 549755813888) :
  Zb0 Tryz.prog 97 [.elt 1000 2 0 0, .dat (.sl 4 32 (q.map Zav))] [(1000, .res (Zbt b t))] (.dat (.tup [])) [(1000, .res (Zbt b (Zgv Zae q t)))] := by
 by_cases hq : q = []
 ·subst hq
  have e : Zgv Zae [] t = t := by unfold Zgv; rfl
  rw [e]
  exact Yhy b t
 have c := Ypr b b id t q hq hO hw n hz hn
 intro X ρ vs hP hL hFL hlie hvs
 obtain ⟨m, ch⟩ := t
 obtain ⟨hLO, hLs, hrv, helt, ht⟩ := Zsd hL hlie
 obtain ⟨v1, v2, rfl, g1, g2⟩ := Zjm hvs
 have hv1 := helt g1
 let ρ1 : Nat → RV := fun k => if k = 1000 then ⟨slS b, fun _ => False⟩ else ⟨slS b, (ρ 1000).fp⟩
 have hfp1 : ∀ k x, Za6 (lkB [(1000, .res (Zei b id b)), (1001, .res (Zbt b (.mk m ch)))] k) = true → (ρ1 k).fp x → X.L x := fun k x h1 h2 => by
  simp only [ρ1] at h2
  split at h2
  ·exact h2.elim
  ·exact (hLO x).2 h2
 have hFs := Zrk (rv := fun _ => slS b) hL hFL (fun _ h => h) hfp1
 refine (c (X.part X.L (fun _ h => h) fun _ => slS b) ρ1 [v1, v2] hP (fun x => ⟨fun hx => ⟨1001, rfl, (hLO x).1 hx⟩, fun ⟨k, h1, h2⟩ => hfp1 k x h1 h2⟩) hFL ⟨fun k x hx => ?_, fun k k' x h1 h2 e1 e2 => ?_, fun k _ _ => ?_⟩ ?_).mono ?_
 ·have hm := Zfa hx
  simp only [List.mem_cons, Prod.mk.injEq, List.not_mem_nil, or_false] at hm
  rcases hm with ⟨rfl, rfl⟩ | ⟨rfl, rfl⟩
  ·exact ⟨⟨rfl, fun w' F' t' O' f1 f2 f3 f4 f5 => f4.congr fun x => by show (False ∨ O' x) ↔ O' x; simp⟩, fun x h => False.elim h⟩
  ·exact ⟨⟨rfl, TreeAt.keep (fun _ _ => rfl) hFs _ (fun _ _ => rfl) ht⟩, fun x h => ⟨.inr ((hLO x).2 h), hLs x ((hLO x).2 h)⟩⟩
 ·obtain ⟨x1, m1, _⟩ := Zcd h1
  obtain ⟨x2, m2, _⟩ := Zcd h2
  simp only [List.mem_cons, Prod.mk.injEq, List.not_mem_nil, or_false] at m1 m2
  rcases m1 with ⟨rfl, _⟩ | ⟨rfl, _⟩ <;> rcases m2 with ⟨rfl, _⟩ | ⟨rfl, _⟩
  ·rfl
  ·exact False.elim e1
  ·exact False.elim e2
  ·rfl
 ·show (if k = 1000 then RV.mk (slS b) fun _ => False else ⟨slS b, (ρ 1000).fp⟩).v = slS b
  split <;> rfl
 ·unfold VRs
  refine ⟨v1, [v2], rfl, ?_, ?_⟩
  ·unfold VR
   exact ⟨by rw [hv1]; rfl, .inl ⟨_, rfl, .inr rfl, b, 1, 1, rfl, hv1⟩⟩
  ·unfold VRs
   refine ⟨v2, [], rfl, ?_, by unfold VRs; rfl⟩
   unfold VR at g2 ⊢
   exact g2.keep (fun _ _ => rfl) hFs
 ·rintro e' w' ⟨v, ⟨⟨b2, t2, g2'⟩, hi⟩, ρ2, he, hbel, hl2, hvr⟩
  obtain ⟨⟨s1, s2⟩, s3⟩ := hl2.blks 1000 _ rfl
  obtain ⟨⟨r1, r2⟩, r3⟩ := hl2.blks 0 _ rfl
  simp only at hi
  let ρf : Nat → RV := fun _ => ⟨slS b, fun x => (ρ2 1000).fp x ∨ (ρ2 0).fp x⟩
  have hFe : ∀ x, FF (X.part X.L (fun _ h => h) fun _ => slS b) w' (lkB [(1000, .res (Zei b2 g2' b)), (0, .res (Zbt b2 t2)), (1001, .dead)]) ρ2 x → FF X w' (lkB [(1000, .res (Zbt b (Zgv Zae q (.mk m ch))))]) ρf x := Zyc hFL hLs (fun _ h => h) fun k x h1 h2 => by
   rcases h2 with h | h
   ·exact .inl ⟨1000, rfl, h⟩
   ·exact .inl ⟨0, rfl, h⟩
  have hap : ∀ x, (ρ2 1000).fp x → ¬ (ρ2 0).fp x := fun x h1 h2 => by
   have := hl2.apart 1000 0 x rfl rfl h1 h2
   cases this
  refine ⟨v, (), ρf, he, Zmw hbel, ⟨fun k x hx => ?_, fun k k' x h1 h2 _ _ => ?_, fun k h1 h2 => ?_⟩, ?_⟩
  ·have hm := Zfa hx
   simp only [List.mem_cons, Prod.mk.injEq, List.not_mem_nil, or_false] at hm
   obtain ⟨rfl, rfl⟩ := hm
   refine ⟨⟨rfl, ?_⟩, fun x hx => ?_⟩
   ·have := s2 w' _ t2 _ (fun _ _ => rfl) hFe (fun _ _ => rfl) (TreeAt.keep (fun _ _ => rfl) hFe t2 (fun _ _ => rfl) r2) hap
    have this : TreeAt w' _ (g2' t2) b _ := this
    rw [hi] at this
    exact this
   ·rcases hx with h | h
    ·exact s3 x h
    ·exact r3 x h
  ·obtain ⟨x1, m1, _⟩ := Zcd h1
   obtain ⟨x2, m2, _⟩ := Zcd h2
   simp only [List.mem_cons, Prod.mk.injEq, List.not_mem_nil, or_false] at m1 m2
   rw [m1.1, m2.1]
  ·obtain ⟨x1, m1, _⟩ := Zcd h2
   simp only [List.mem_cons, Prod.mk.injEq, List.not_mem_nil, or_false] at m1
   rw [m1.1]; exact hrv.symm
  ·unfold VR Rep at hvr ⊢
   obtain ⟨vs, e, h⟩ := hvr
   unfold Reps at h
   exact ⟨vs, e, by unfold Reps; exact h⟩
theorem Zmi {P : Program} {f : FuncId} {az : List PD} {t : ST PEV} (h : Zh8 P f (az.map .dat) [] (ι := Nat) (fun _ => .elt 0 2 0 0) (fun b => [(0, .res (Zbt b t))])) : PCall P f az (.ptr (Zaz t)) := by
 intro w F vs hF hv
 let X : Base := { w0 := w, F0 := F, L := fun _ => False, B := w.heap.size, N := 0, P := P, rv := fun _ => undef, hF0 := hF, hB := Nat.le_refl _, hN := by omega, hLB := fun _ h => h.elim }
 have hlk : ∀ k, lkB [] k = none := fun k => rfl
 have hFF : ∀ b, F b → FF X w (lkB []) (fun _ => RV.of undef) b := fun b hb => ⟨.inl hb, hF b hb, fun k hk => by rw [hlk] at hk; cases hk⟩
 refine (h X (fun _ => RV.of undef) vs rfl (fun b => ⟨fun h => h.elim, fun ⟨k, h, _⟩ => by rw [hlk] at h; cases h⟩) (fun _ _ h => h) ⟨fun k x h => (by rw [hlk] at h; cases h), fun k k' b h => (by rw [hlk] at h; cases h), fun k _ h => (by rw [hlk] at h; cases h)⟩ (VRs.of_dat (hv.keep (fun _ _ => rfl) hFF))).mono ?_
 rintro e w' ⟨v, b, ρ, he, hbel, hl, hvr⟩
 obtain ⟨⟨e1, ht⟩, hm⟩ := hl.blks 0 _ rfl
 refine ⟨v, he, ⟨hbel.os, hbel.tape, hbel.output, hbel.size, fun b hb => hbel.block b hb fun h => h⟩, ?_⟩
 have hO : ∀ x, (ρ 0).fp x → F x ∨ (w.heap.size ≤ x ∧ x < w'.heap.size) := fun x hx => by
  rcases hm x hx with ⟨h1 | h1, h2⟩
  ·exact .inr ⟨h1, h2⟩
  ·exact h1.elim
 obtain ⟨sm, sc, t1, t2, t3, t4, t5⟩ := ht.rep (F' := fun b => F b ∨ (w.heap.size ≤ b ∧ b < w'.heap.size)) (fun x hx => by
  rcases hx.1 with h1 | h1 | h1
  ·exact .inl h1
  ·exact .inr ⟨h1, hx.2.1⟩
  ·exact h1.elim) t hO
 unfold VR at hvr
 obtain ⟨_, ⟨x, _, _, g, len, c, e2, e3⟩ | h0⟩ := hvr
 ·rw [e1] at e2
  unfold slS at e2
  injection e2 with e2 _ _
  injection e2 with e2
  injection e2 with e2
  subst e2
  unfold Rep
  refine ⟨b, 0, .agg #[sm, sc], by rw [e3], hO b t5, t2, ?_⟩
  have hl := Ze9 (vs := [sm, sc]) t1 0
  simpa [Value.cells] using hl
 ·cases h0
theorem Yps {P : Program} {X : Base} {N : Nat} {Q : Exit → Act → World → Prop} {opa : Array Oper} {rem : List Nat} {ks : List Itm} {s : Sta} {d : Nat} {x : Operand} (hN : Nat.blt d N = true) (hd0 : s.tb d = none) (hx : s.ev x = .dat (.agg [.val (.slice none 0 0), .val (.slice none 0 0)]))
  (h : ∀ b, Run P X N Q (.ops opa rem :: ks) (s.new d (.res (Zbt b (.mk [] []))) (.elt d 2 0 0))) : Zbo P X N Q opa rem ks (some d) (.box 122 x) s := ⟨fun ty pos aft => ⟨fun hX a w hc => by
 have hi := Yj5 (P := P) (X := X) (N := N) (ops := []) (s := s) (fun _ => .elt d 2 0 0) (fun b w F tb ρ h1 h2 => by unfold VR; exact ⟨rfl, .inl ⟨_, h1, .inr rfl, b, 1, 1, h2, by simp [adr]⟩⟩) hN hd0 hx
 exact hi.act hX ty pos aft s (fun i => ⟨fun _ _ => rfl, fun _ _ => rfl⟩) a w hc _ _ fun a' w' b hc' => (h b).out hX a' w' hc'⟩⟩
theorem Zyx : Zh8 Tryz.prog 140 [.dat (.val (.slice none 0 0))] [] (ι := Nat) (fun _ => .elt 0 2 0 0) (fun b => [(0, .res (Zbt b (.mk [] [])))]) := by
 have g0 : decide ((0 : Int) < 0) = false := rfl
 refine Zar Tryz.func140 rfl Tryz.ntmps140 rfl (fun X => ?_)
 have nd : Zjf := ⟨trivial⟩
 refine wk ?_
 clear nd
 refine Yps rfl rfl rfl fun b => ?_
 refine wk ?_
 refine Zaq (ι := Unit) (fun _ => [(3, .elt 100 2 0 0), (9, .dat (.val (.int .i64 0))), (10, .dat (.val (.int .i64 0)))]) (fun _ => [(100, .res (Zbt b (.mk [] [])))]) (fun _ => 0) () (fun k => if k = 100 then 7 else k) ?_ fun _ => ?_
 ·exact sb
 refine wk ?_
 refine Za4 b (thk [(0, 100)] 0) (tm := [(2, .elt 0 2 0 0)]) ?_ (Za9 rfl rfl)
 exact sb
theorem Yd8 {c : PEV → PEV → Int} (ps : List (List PEV)) (p : List PEV) : ofP c (ps ++ [p]) = Zgv c p (ofP c ps) := by
 unfold ofP
 rw [List.foldl_append]
 rfl
theorem Ymy {c : PEV → PEV → Int} (ps : List (List PEV)) : SzT ps.length (ofP c ps) := by
 have : ∀ n, n ≤ ps.length → SzT n (ofP c (ps.take n)) := by
  intro n
  induction n with
  | zero => intro _; rw [List.take_zero]; exact Zyz
  | succ n ih =>
   intro h
   rw [List.take_add_one, List.getElem?_eq_getElem h]
   simp only [Option.toList_some]
   rw [Yd8]
   exact Ydn _ _ (ih (by omega))
 have h := this ps.length (Nat.le_refl _)
 rwa [List.take_length] at h
theorem Yn0 (ps : List (List EV)) (hO : ∀ p ∈ ps, ∀ x ∈ p, OPE (Zbg x)) (hn : ps.length ≤ 549755813888) : Zh8 Tryz.prog 77 ([.sl 1 24 (ps.map pdP)].map .dat) [] (ι := Nat) (fun _ => .elt 0 2 0 0) (fun b => [(0, .res (Zbt b (ofP Zae (ps.map (·.map Zbg)))))]) := by
 have c0 := Zyx
 have n1 : (ps.map pdP).length = ps.length := by simp
 have hO' : ∀ k, ∀ p ∈ (ps.map (·.map Zbg)).take k, ∀ x ∈ p, OPE x := fun k p hp x hx => by
  obtain ⟨q, hq, rfl⟩ := List.mem_map.1 (List.mem_of_mem_take hp)
  obtain ⟨y, hy, rfl⟩ := List.mem_map.1 hx
  exact hO q hq y hy
 refine Zar Tryz.func77 rfl Tryz.ntmps77 rfl (fun X => ?_)
 refine wk ?_
 refine Zwj (thk [] 200) rfl (by kernel_rfl) c0 rfl trivial rfl (fun _ => Zaj rfl) (fun _ => rfl) (fun b => ?_)
 refine wk ?_
 refine Zaq (ι := { k : Nat // k ≤ ps.length }) (fun k => [(3, .elt 100 2 0 0), (7, .dat (.sl 1 24 (ps.map pdP))), (8, .dat (.val (.int .i64 (((ps.map pdP).length : Nat) : Int)))), (9, .dat (.val (.int .i64 (k.1 : Nat))))]) (fun k => [(100, .res (Zbt b (ofP Zae ((ps.map (·.map Zbg)).take k.1))))]) (fun k => ps.length - k.1) ⟨0, Nat.zero_le _⟩ (fun k => if k = 100 then 200 else k) ?_ ?_
 ·exact sb
 rintro ⟨k, hk⟩
 by_cases hlt : k < ps.length
 ·have g1 : decide ((k : Int) < (((ps.map pdP).length : Nat) : Int)) = true := decide_eq_true (by omega)
  obtain ⟨p, hp⟩ : ∃ p, ps[k]? = some p := ⟨_, List.getElem?_eq_getElem hlt⟩
  have i1 : (ps.map pdP)[((k : Nat) : Int).toNat]? = some (pdP p) := by simp [hp]
  have c1 := Zzp p
  have hpm := List.mem_of_getElem? hp
  have c2 := Yru b (ofP Zae ((ps.map (·.map Zbg)).take k)) (p.map Zbg) (fun x hx => by
   obtain ⟨y, hy, rfl⟩ := List.mem_map.1 hx
   exact hO p hpm y hy) (Yd7 ordPE (hO' k)) (Ymy _) (by rw [List.length_take, List.length_map]; omega)
  have e : Zgv Zae (p.map Zbg) (ofP Zae ((ps.map (·.map Zbg)).take k)) = ofP Zae ((ps.map (·.map Zbg)).take (k + 1)) := by
   rw [List.take_add_one, List.getElem?_map, hp]
   exact (Yd8 _ _).symm
  rw [e] at c2
  unfold dvP at c1
  refine wk ?_
  refine Zcb (thk [(1000, 100)] 300) rfl (by kernel_rfl) c2 rfl ⟨rfl, trivial⟩ rfl (Zaj rfl) rfl ?_
  refine wk ?_
  refine Zah ?_
  refine ⟨⟨k + 1, by omega⟩, id, by simp only; omega, ?_⟩
  exact sb
 ·have g1 : decide ((k : Int) < (((ps.map pdP).length : Nat) : Int)) = false := decide_eq_false (by omega)
  have e : (ps.map (·.map Zbg)).take k = ps.map (·.map Zbg) := List.take_of_length_le (by rw [List.length_map]; omega)
  simp only [e]
  refine wk ?_
  refine Za4 b (thk [(0, 100)] 0) (tm := [(2, .elt 0 2 0 0)]) ?_ (Za9 rfl rfl)
  exact sb
theorem Yn1 (ps : List (List EV)) (hO : ∀ p ∈ ps, ∀ x ∈ p, OPE (Zbg x)) (hn : ps.length ≤ 549755813888) : PCall Tryz.prog 77 [.sl 1 24 (ps.map pdP)] (.ptr (Zaz (ofP Zae (ps.map (·.map Zbg))))) := Zmi (Yn0 ps hO hn)
theorem Znu (j : JV) : PCall Tryz.prog 70 [dvV j] (qV (unJ j)) := by
 have c1 := Yn4 j
 have c2 := Zlo j
 unfold dvV qV at *
 refine Zaa Tryz.func70 rfl Tryz.ntmps70 rfl (fun X => ?_)
 exact wke
def KL (p : PEV) : Prop := ∀ fl, p = .key fl → fl.length * 88 ≤ 140737488351232
theorem Yag (p : PEV) (hk : KL p) : PCall Tryz.prog 85 [Zav p] (pdE (Zh1 p)) := by
 cases p with
 | name s =>
  simp only [Zav, Zh1, pdE, Zlf, Zdd]
  refine Zaa Tryz.func85 rfl Tryz.ntmps85 rfl (fun X => ?_)
  exact wke
 | val j =>
  have c := Znu j
  simp only [Zav, Zh1, pdE, Zlf]
  generalize unJ j = y at *
  unfold dvV qV at *
  refine Zaa Tryz.func85 rfl Tryz.ntmps85 rfl (fun X => ?_)
  exact wke
 | idx n =>
  simp only [Zav, Zh1, pdE, Zlf, Zdd]
  refine Zaa Tryz.func85 rfl Tryz.ntmps85 rfl (fun X => ?_)
  exact wke
 | key fl =>
  have hl := hk fl rfl
  clear hk
  simp only [Zav, Zh1, Ybn, Zlf]
  have n1 : (fl.map Zec).length = fl.length := by simp
  refine Zaa Tryz.func85 rfl Tryz.ntmps85 rfl (fun X => ?_)
  refine wk ?_
  refine Zca 3 2 100 9 1 16 rfl rfl rfl ?_
  refine Zca 3 3 101 27 6 88 rfl rfl rfl ?_
  refine Zaq (ι := { k : Nat // k ≤ fl.length })
   (fun k => [(2, .ptr 2 0), (3, .ptr 3 0), (23, .dat (.sl 2 32 (fl.map Zec))), (24, .dat (.val (.int .i64 ((fl.map Zec).length : Nat)))), (25, .dat (.val (.int .i64 (k.1 : Nat))))])
   (fun k => [(2, .box 29 (Zap (pdE ⟨0, ByteArray.empty, [], [], Zdd, 0⟩))), (3, .box 29 [.dat (.val (.int .i64 1)), .dat (.val (.string ⟨#[]⟩)), .own 100, .own 101, .dat (.val (.int .i64 0)), .dat (.val (.int .i64 0)), .dat (.val (.float .f64 0)), .dat (.val (.string ⟨#[]⟩)), .dat (.val (.slice none 0 0)), .dat (.val (.slice none 0 0)), .dat (.val (.int .i64 0))]), (100, .row 9 1 16 ((fl.take k.1).map fun x => .val (.string x.1))), (101, .row 27 6 88 ((fl.take k.1).map fun x => qV (unJ x.2)))]) (fun k => fl.length - k.1) ⟨0, Nat.zero_le _⟩ id ?_ ?_
  ·exact sb
  rintro ⟨k, hk⟩
  by_cases hlt : k < fl.length
  ·have hc : decide ((k : Int) < (((fl.map Zec).length : Nat) : Int)) = true := decide_eq_true (by omega)
   obtain ⟨x, hx⟩ : ∃ x, fl[k]? = some x := ⟨_, List.getElem?_eq_getElem hlt⟩
   have i1 : (fl.map Zec)[((k : Nat) : Int).toNat]? = some (.agg [.val (.string x.1), dvV x.2]) := by simp [hx, Zec]
   have c := Znu x.2
   have e1 : ((fl.take (k + 1)).map fun x => PD.val (.string x.1)) = ((fl.take k).map fun x => PD.val (.string x.1)) ++ [.val (.string x.1)] := by simp [List.take_add_one, hx]
   have e2 : ((fl.take (k + 1)).map fun x => qV (unJ x.2)) = ((fl.take k).map fun x => qV (unJ x.2)) ++ [qV (unJ x.2)] := by simp [List.take_add_one, hx]
   have l1 : ((fl.take k).map fun x => PD.val (.string x.1)).length + 1 ≤ fl.length := by simp; omega
   have l2 : ((fl.take k).map fun x => qV (unJ x.2)).length + 1 ≤ fl.length := by simp; omega
   generalize ((fl.take k).map fun x => PD.val (.string x.1)) = da at *
   generalize ((fl.take k).map fun x => qV (unJ x.2)) = db at *
   generalize unJ x.2 = y at *
   unfold qV at *
   have q1 : (da.length + [PD.val (.string x.1)].length) * 16 ≤ 140737488351232 := by simp; omega
   have q2 : da.length + [PD.val (.string x.1)].length ≤ 140737488351232 := by simp; omega
   refine wk ?_
   refine Zah ?_
   refine ⟨⟨k + 1, by omega⟩, (fun j => if j = 100 then 34 else if j = 101 then 42 else j), by simp only; omega, ?_⟩
   rw [e1, e2]
   exact sb
  ·have hc : decide ((k : Int) < (((fl.map Zec).length : Nat) : Int)) = false := decide_eq_false (by omega)
   have hkk : fl.take k = fl := List.take_of_length_le (by omega)
   simp only [hkk]
   have e1 : pdS (fl.map (·.1)) = fl.map fun x => PD.val (.string x.1) := by simp [pdS]
   have e2 : Zds (fl.map fun p => unJ p.2) = fl.map fun x => qV (unJ x.2) := by rw [Zg6, List.map_map]; exact List.map_congr_left fun x _ => Zsg _
   simp only [pdE, e1, e2, Zdd]
   refine wk ?_
   refine Zay (fun _ => false) (fun k => k == 100 || k == 101) ?_
   exact wke
theorem Ypw {P : Program} {X : Base} {N : Nat} {Q : Exit → Act → World → Prop} {opa : Array Oper} {rem : List Nat} {ks : List Itm} {s s2 : Sta} {d : Option Tmp} {op : Op} (hl : ∀ (Q : Exit → Act → World → Prop) (ks : List Itm), Run P X N Q ks s2 → Run P X N Q ks s) (h : Zbo P X N Q opa rem ks d op s2) : Zbo P X N Q opa rem ks d op s :=
 ⟨fun ty pos aft => ⟨fun hX a w hc => (h.out ty pos aft).out hX a w ((hl (fun _ a w => Conc X s2 a w) [] (Zsk fun a w hc => hc)).out hX a w hc)⟩⟩
theorem Yah (v : Value) (q : List PEV) (hk : ∀ p ∈ q, KL p) (hb : q.length * 168 ≤ 140737488351232) :
  Zb0 Tryz.prog 154 [.own 1000] [(1000, .res (Zg8 v 99 4 32 (q.map Zav)))] (.dat (.sl 11 168 (q.map fun p => pdE (Zh1 p)))) [(1000, .res (Zg8 v 99 4 32 (q.map Zav)))] := by
 have n1 : (q.map Zav).length = q.length := by simp
 have ga : ∀ {i : Nat} {x : PEV}, q[i]? = some x → (q.map Zav)[i]? = some (Zav x) := fun h => by simp [h]
 generalize q.map Zav = da at *
 refine Zar Tryz.func154 rfl Tryz.ntmps154 rfl (fun X => ?_)
 refine Yi7 (k := 1000) rfl (by decide) fun hv => ?_
 refine Ya4 (k := 1000) rfl ?_
 refine wk ?_
 refine Zaq (ι := { k : Nat // k ≤ q.length })
  (fun k => [(3, .own 100), (7, .own 1000), (8, .dat (.val (.int .i64 ((da.length : Nat) : Int)))), (9, .dat (.val (.int .i64 (k.1 : Nat))))])
  (fun k => [(1000, .row 99 4 32 da), (100, .row 29 11 168 ((q.take k.1).map fun p => pdE (Zh1 p)))]) (fun k => q.length - k.1) ⟨0, Nat.zero_le _⟩ (fun j => if j = 100 then 6 else j) ?_ ?_
 ·exact sb
 rintro ⟨k, hkl⟩
 by_cases hlt : k < q.length
 ·have hc : decide ((k : Int) < ((da.length : Nat) : Int)) = true := decide_eq_true (by omega)
  obtain ⟨p, hp⟩ : ∃ p, q[k]? = some p := ⟨_, List.getElem?_eq_getElem hlt⟩
  have hi := ga hp
  have hil : k < da.length := by omega
  have c1 := Yag p (hk p (List.mem_of_getElem? hp))
  have hbt : (((q.take k).map fun p => pdE (Zh1 p)).length + [pdE (Zh1 p)].length) * 168 ≤ 140737488351232 := by simp; omega
  have hbl : ((q.take k).map fun p => pdE (Zh1 p)).length + [pdE (Zh1 p)].length ≤ 140737488351232 := by simp; omega
  have e : ((q.take k).map fun p => pdE (Zh1 p)) ++ [pdE (Zh1 p)] = ((q.take (k + 1)).map fun p => pdE (Zh1 p)) := by simp [List.take_add_one, hp]
  generalize ((q.take k).map fun p => pdE (Zh1 p)) = r1 at *
  obtain ⟨u0, u1, u2, u3, e1⟩ := Zcm p
  rw [e1] at hi c1
  unfold pdE at c1 hbt hbl
  refine wk ?_
  refine Ymh rfl rfl rfl hi ?_
  refine wk ?_
  refine Zah ?_
  refine ⟨⟨k + 1, by omega⟩, (fun j => if j = 100 then 17 else j), by simp only; omega, ?_⟩
  exact sb
 ·have hc : decide ((k : Int) < ((da.length : Nat) : Int)) = false := decide_eq_false (by omega)
  have hkk : q.take k = q := List.take_of_length_le (by omega)
  simp only [hkk]
  refine Zay (fun _ => false) (fun k => k == 100) ?_
  refine wk ?_
  refine Yfo (k := 1000) rfl (by decide) hv ?_
  refine Za4 () id (tm := [(2, .dat (.sl 11 168 (q.map fun p => pdE (Zh1 p))))]) ?_ (Za9 rfl rfl)
  exact sb
theorem Ybx (v : Value) (q : List PEV) (hk : ∀ p ∈ q, KL p) (hb : q.length * 168 ≤ 140737488351232) (acc : List PD) (ha : (acc.length + 1) * 24 ≤ 140737488351232) :
  Zb0 Tryz.prog 153 [.own 1000, .ptr 1001 0] [(1000, .res (Zg8 v 99 4 32 (q.map Zav))), (1001, .box 38 [.own 1002]), (1002, .row 22 1 24 acc)] (.dat (.tup []))
   [(1000, .res (Zg8 v 99 4 32 (q.map Zav))), (1001, .box 38 [.own 0]), (0, .row 22 1 24 (acc ++ [.sl 11 168 (q.map fun p => pdE (Zh1 p))])), (1002, .dead)] := by
 have c1 := Yah v q hk hb
 have hbt : (acc.length + [PD.sl 11 168 (q.map fun p => pdE (Zh1 p))].length) * 24 ≤ 140737488351232 := by simpa using ha
 have hbl : acc.length + [PD.sl 11 168 (q.map fun p => pdE (Zh1 p))].length ≤ 140737488351232 := by simp only [List.length_cons, List.length_nil]; omega
 generalize q.map Zav = da at *
 generalize (q.map fun p => pdE (Zh1 p)) = db at *
 refine Zar Tryz.func153 rfl Tryz.ntmps153 rfl (fun X => ?_)
 refine wk ?_
 refine Zcl (Zrg (thk [(1000, 1000)] 200) rfl (by kernel_rfl) c1 rfl rfl rfl rfl rfl) ?_
 refine wk ?_
 refine Zhz () (fun j => if j = 0 then 7 else j) (tm := []) ?_ (Zeh rfl)
 exact sb
theorem Zxy {P : Program} {X : Base} {N : Nat} {ops : List Oper} {s : Sta} {d : Nat} {x : Operand} {t k off T n : Nat} {cs : List AV} {g : Bool} {f : Nat} {l : List AV} (hN : Nat.blt d N = true) (hx : s.ev x = .ptr k off) (hk : s.tb k = some (.box T cs)) [ht : VI P t n g] (hf : Zqv g n off cs = some (.clo f l)) : TrK P X N ops (some d) (.load t x) (Eff.put (some d) (.clo f l)) s (s.put (some d) (.clo f l)) := Zbq hN fun s' _ _ _ _ hd hev htb => Zhv hd rfl ((hev _ (by simp [Op.operands, Call.operands])).trans hx) ((htb x (by simp [Op.operands, Call.operands]) _ (by rw [hx]; simp [Zbp])).trans hk) ht.out hf
def ipP (q : List PEV) : PD := .sl 11 168 (q.map fun p => pdE (Zh1 p))
theorem Yad (v : Value) (q : List PEV) (p : PEV) (hk : ∀ x ∈ q ++ [p], KL x) (hb : (q ++ [p]).length * 168 ≤ 140737488351232) (acc : List PD) (ha : (acc.length + 1) * 24 ≤ 140737488351232) :
  Zb0 Tryz.prog 234 [.dat (Zav p), .ptr 1000 0, .ptr 1001 0] [(1000, .box 152 [.clo 153 [.ptr 1003 0]]), (1001, .box 153 [.own 1002]), (1002, .res (Zg8 v 99 4 32 (q.map Zav))), (1003, .box 38 [.own 1004]), (1004, .row 22 1 24 acc)] (.dat (.tup []))
   [(1000, .box 152 [.clo 153 [.ptr 1003 0]]), (1001, .box 153 [.own 1002]), (1002, .res (Zg8 v 99 4 32 (q.map Zav))), (1003, .box 38 [.own 0]), (0, .row 22 1 24 (acc ++ [ipP (q ++ [p])])), (1004, .dead)] := by
 have c := fun v' => Ybx v' (q ++ [p]) hk hb acc ha
 rw [List.map_append, List.map_cons, List.map_nil] at c
 have hb1 : ((q.map Zav).length + [Zav p].length) * 32 ≤ 140737488351232 := by simp at hb ⊢; omega
 have hb2 : (q.map Zav).length + [Zav p].length ≤ 140737488351232 := by simp at hb ⊢; omega
 obtain ⟨u0, u1, u2, u3, e⟩ := Zcm p
 rw [e] at c hb1 hb2 ⊢
 unfold ipP
 generalize q.map Zav = da at *
 generalize ((q ++ [p]).map fun p => pdE (Zh1 p)) = db at *
 refine Zar Tryz.func234 rfl Tryz.ntmps234 rfl (fun X => ?_)
 have nd : Zjf := ⟨trivial⟩
 refine wk ?_
 refine Zeb rfl rfl rfl rfl ?_
 refine wk ?_
 clear nd
 refine Zu9 4 5 [] (.slice none 0 0) (fun v' : Value => Eff.bk 1002 8 (.res (Zmq v v' 99 4 32 da)) (.res (Zg8 v' 99 4 32 (da ++ [.agg [u0, u1, u2, u3]])))) (by kernel_rfl) rfl (by decide) (by decide) ?_
 simp only [List.take_succ_cons, List.take_zero, List.drop_succ_cons, List.drop_zero, Nat.reduceAdd]
 refine wk ?_
 refine Zcl (Zxy rfl rfl rfl rfl) ?_
 refine wk ?_
 refine Znm ⟨Zt4 rfl rfl rfl rfl rfl rfl (by kernel_rfl) rfl rfl (by simp) hb1 hb2, fun v' => ?_⟩
 refine wk ?_
 refine ⟨rfl, ?_⟩
 refine wk ?_
 refine Zik (thk [(1000, 8), (1001, 1003), (1002, 1004)] 200) rfl rfl (by kernel_rfl) (c v') rfl ⟨rfl, rfl, rfl, trivial⟩ rfl (Zaj rfl) rfl ?_
 refine wk ?_
 refine Zu7 (k := 1002) (d := 8) rfl rfl (by decide) ?_
 refine Zhz () (fun j => if j = 0 then 200 else j) (tm := []) ?_ (Zeh rfl)
 exact sb
theorem Yma (v : Value) (q : List PEV) (l : List PEV) (hk : ∀ x ∈ q, KL x) (hkl : ∀ x ∈ l, KL x) (hb : (q.length + 1) * 168 ≤ 140737488351232) (acc : List PD) (ha : (acc.length + l.length) * 24 ≤ 140737488351232) :
  Zb0 Tryz.prog 141 [.dat (.ptr (.agg [.sl 4 32 (l.map Zav)])), .clo 234 [.ptr 1000 0, .ptr 1001 0]] [(1000, .box 152 [.clo 153 [.ptr 1003 0]]), (1001, .box 153 [.own 1002]), (1002, .res (Zg8 v 99 4 32 (q.map Zav))), (1003, .box 38 [.own 1004]), (1004, .row 22 1 24 acc)] (.dat (.tup []))
   [(1000, .box 152 [.clo 153 [.ptr 1003 0]]), (1001, .box 153 [.own 1002]), (1002, .res (Zg8 v 99 4 32 (q.map Zav))), (1003, .box 38 [.own 0]), (0, .row 22 1 24 (acc ++ l.map fun p => ipP (q ++ [p]))), (1004, .dead)] := by
 have n1 : (l.map Zav).length = l.length := by simp
 have ga : ∀ {i : Nat} {x : PEV}, l[i]? = some x → (l.map Zav)[((i : Nat) : Int).toNat]? = some (Zav x) := fun h => by simp [h]
 have hbn : l.length ≤ 140737488351232 := by omega
 generalize l.map Zav = da at *
 refine Zar Tryz.func141 rfl Tryz.ntmps141 rfl (fun X => ?_)
 refine wk ?_
 refine Zaq (ι := { k : Nat // k ≤ l.length })
  (fun k => [(1, .clo 234 [.ptr 1000 0, .ptr 1001 0]), (9, .dat (.sl 4 32 da)), (10, .dat (.val (.int .i64 ((da.length : Nat) : Int)))), (11, .dat (.val (.int .i64 (k.1 : Nat))))])
  (fun k => [(1000, .box 152 [.clo 153 [.ptr 1003 0]]), (1001, .box 153 [.own 1002]), (1002, .res (Zg8 v 99 4 32 (q.map Zav))), (1003, .box 38 [.own 100]), (100, .row 22 1 24 (acc ++ (l.take k.1).map fun p => ipP (q ++ [p]))), (1004, .dead)]) (fun k => l.length - k.1) ⟨0, Nat.zero_le _⟩ (fun j => if j = 100 then 1004 else j) ?_ ?_
 ·have e0 : acc = acc ++ ([] : List PEV).map fun p => ipP (q ++ [p]) := by simp
  exact sb
 rintro ⟨k, hkl2⟩
 by_cases hlt : k < l.length
 ·have hc : decide ((k : Int) < ((da.length : Nat) : Int)) = true := decide_eq_true (by omega)
  obtain ⟨p, hp⟩ : ∃ p, l[k]? = some p := ⟨_, List.getElem?_eq_getElem hlt⟩
  have hi := ga hp
  have hq1 : (q ++ [p]).length * 168 ≤ 140737488351232 := by rw [List.length_append]; exact hb
  have hq2 : (acc ++ (l.take k).map fun p => ipP (q ++ [p])).length + 1 ≤ acc.length + l.length := by
   rw [List.length_append, List.length_map, List.length_take]
   omega
  have hq3 := Nat.le_trans (Nat.mul_le_mul_right 24 hq2) ha
  have c1 := Yad v q p (fun x hx => by
   rcases List.mem_append.1 hx with h | h
   ·exact hk x h
   ·rw [List.mem_singleton] at h; rw [h]; exact hkl p (List.mem_of_getElem? hp)) hq1 (acc ++ (l.take k).map fun p => ipP (q ++ [p])) hq3
  have e2 : acc ++ ((l.take k).map fun p => ipP (q ++ [p])) ++ [ipP (q ++ [p])] = acc ++ (l.take (k + 1)).map fun p => ipP (q ++ [p]) := by simp [List.take_add_one, hp]
  rw [e2] at c1
  obtain ⟨u0, u1, u2, u3, e⟩ := Zcm p
  rw [e] at hi c1
  refine wk ?_
  refine Zik (thk [(1000, 1000), (1001, 1001), (1002, 1002), (1003, 1003), (1004, 100)] 200) rfl rfl (by kernel_rfl) c1 rfl ⟨rfl, rfl, rfl, rfl, rfl, trivial⟩ rfl (Zaj rfl) rfl ?_
  refine wk ?_
  refine Zah ?_
  refine ⟨⟨k + 1, by omega⟩, (fun j => if j = 100 then 200 else j), by simp only; omega, ?_⟩
  exact sb
 ·have hc : decide ((k : Int) < ((da.length : Nat) : Int)) = false := decide_eq_false (by omega)
  have hkk : l.take k = l := List.take_of_length_le (by omega)
  simp only [hkk]
  refine wk ?_
  refine Zhz () (fun j => if j = 0 then 100 else j) (tm := []) ?_ (Zeh rfl)
  exact sb
mutual
/-- A set below a prefix of the length d whose paths all fit in memory. -/
def DpT (d : Nat) : ST PEV → Prop
 | .mk m ch => (∀ x ∈ m, KL x) ∧ (d + 1) * 168 ≤ 140737488351232 ∧ DpC d ch
def DpC (d : Nat) : List (PEV × ST PEV) → Prop
 | [] => True
 | y :: r => (KL y.1 ∧ DpT (d + 1) y.2) ∧ DpC d r
end
theorem DpC_iff {d : Nat} {l : List (PEV × ST PEV)} : DpC d l ↔ ∀ y ∈ l, KL y.1 ∧ DpT (d + 1) y.2 := by
 induction l with
 | nil => unfold DpC; simp
 | cons y r ih => unfold DpC; rw [ih]; simp
def Ybs (t : ST PEV) : Prop := ∀ (v : Value) (q : List PEV) (acc : List PD), SzT 1099511627776 t → (∀ x ∈ q, KL x) → DpT q.length t → (acc.length + (Zer t).length) * 24 ≤ 140737488351232 →
 Zb0 Tryz.prog 209 [.dat (.ptr (Zaz t)), .own 1000, .clo 153 [.ptr 1001 0]] [(1000, .res (Zg8 v 99 4 32 (q.map Zav))), (1001, .box 38 [.own 1002]), (1002, .row 22 1 24 acc)] (.dat (.tup []))
  [(1000, .res (Zg8 v 99 4 32 (q.map Zav))), (1001, .box 38 [.own 0]), (0, .row 22 1 24 (acc ++ (Zer t).map fun r => ipP (q ++ r))), (1002, .dead)]
def Yok (l : List (PEV × ST PEV)) : Prop := ∀ (v : Value) (q : List PEV) (acc : List PD), l.length ≤ 1099511627776 → (∀ y ∈ l, SzT 1099511627776 y.2) → (∀ x ∈ q, KL x) → DpC q.length l → (q.length + 1) * 168 ≤ 140737488351232 → (acc.length + (Zby l).length) * 24 ≤ 140737488351232 →
 Zb0 Tryz.prog 235 [.dat (.ptr (.agg [.sl 5 40 (Zau l)])), .own 1000, .clo 153 [.ptr 1001 0]] [(1000, .res (Zg8 v 99 4 32 (q.map Zav))), (1001, .box 38 [.own 1002]), (1002, .row 22 1 24 acc)] (.dat (.tup []))
  [(1000, .res (Zg8 v 99 4 32 (q.map Zav))), (1001, .box 38 [.own 0]), (0, .row 22 1 24 (acc ++ (Zby l).map fun r => ipP (q ++ r))), (1002, .dead)]
theorem Yh0 (m : List PEV) (ch : List (PEV × ST PEV)) (hN : Yok ch) : Ybs (.mk m ch) := by
 intro v q acc hz hq hd hb
 obtain ⟨_, z1, z2⟩ := SzT_iff.1 hz
 unfold DpT at hd
 obtain ⟨d1, d2, d3⟩ := hd
 have hw : Zer (ST.mk m ch) = m.map (fun x => [x]) ++ Zby ch := Zw4 _
 have hl : (Zer (ST.mk m ch)).length = m.length + (Zby ch).length := by rw [hw]; simp
 rw [hl] at hb
 have hb1 : (acc.length + m.length) * 24 ≤ 140737488351232 := by omega
 have c1 := Yma v q m hq d1 d2 acc hb1
 have hb2 : ((acc ++ m.map fun p => ipP (q ++ [p])).length + (Zby ch).length) * 24 ≤ 140737488351232 := by
  rw [List.length_append, List.length_map]; omega
 have c2 := hN v q (acc ++ m.map fun p => ipP (q ++ [p])) z1 z2 hq d3 d2 hb2
 have e : acc ++ (Zer (ST.mk m ch)).map (fun r => ipP (q ++ r)) = (acc ++ m.map fun p => ipP (q ++ [p])) ++ (Zby ch).map fun r => ipP (q ++ r) := by
  rw [hw, List.map_append, List.map_map, List.append_assoc]; rfl
 rw [e]
 clear e hb hb1 hb2 hl hw hN hq d1 d2 d3 z1 z2 hz
 unfold Zaz
 generalize (acc ++ m.map fun p => ipP (q ++ [p])) = acc1 at *
 generalize acc1 ++ (Zby ch).map (fun r => ipP (q ++ r)) = acc2 at *
 generalize q.map Zav = dq at *
 generalize m.map Zav = dm at *
 generalize Zau ch = dc at *
 refine Zar Tryz.func209 rfl Tryz.ntmps209 rfl (fun X => ?_)
 refine wk ?_
 refine Zcb (thk [(1000, 5), (1001, 4), (1002, 1000), (1003, 1001), (1004, 1002)] 200) rfl (by kernel_rfl) c1 rfl ⟨rfl, rfl, rfl, rfl, rfl, trivial⟩ rfl (Zaj rfl) rfl ?_
 have nd : Zjf := ⟨trivial⟩
 refine wk ?_
 clear nd
 refine Zo5 5 (by kernel_rfl) ?_
 simp only [List.take_succ_cons, List.take_zero]
 refine wk ?_
 refine Zcl (Zxy rfl rfl rfl rfl) ?_
 refine wk ?_
 refine Zcb (thk [(1000, 1000), (1001, 1001), (1002, 200)] 300) rfl (by kernel_rfl) c2 rfl ⟨rfl, rfl, rfl, trivial⟩ rfl (Zaj rfl) rfl ?_
 refine wk ?_
 refine Zhz () (fun j => if j = 0 then 300 else j) (tm := []) ?_ (Zeh rfl)
 exact sb
theorem Zp0 : ∀ {l : List (PEV × ST PEV)} {k : Nat} {y : PEV × ST PEV}, l[k]? = some y → (Zau l)[((k : Nat) : Int).toNat]? = some (.agg (peC y.1 ++ [.ptr (Zaz y.2)]))
 | [], k, y, h => by simp at h
 | z :: r, 0, y, h => by
  simp at h; subst h
  unfold Zau
  rfl
 | z :: r, k + 1, y, h => by
  have := Zp0 (l := r) (k := k) (by simpa using h)
  unfold Zau
  simpa using this
theorem Zl5 (y : PEV × ST PEV) (r : List (PEV × ST PEV)) : Zby (y :: r) = (Zer y.2).map (y.1 :: ·) ++ Zby r := by
 conv => lhs; unfold Zby
theorem Zpd : Zby ([] : List (PEV × ST PEV)) = [] := by unfold Zby; rfl
theorem Zpc : ∀ (a b : List (PEV × ST PEV)), Zby (a ++ b) = Zby a ++ Zby b
 | [], b => by rw [Zpd]; rfl
 | y :: a, b => by rw [List.cons_append, Zl5, Zl5, Zpc a b, List.append_assoc]
theorem Ymb {a w x y z : Nat} (h : w = x + y + z) (hb : (a + w) * 24 ≤ 140737488351232) : (a + x + y) * 24 ≤ 140737488351232 := by omega
theorem Ymc {n k : Nat} (h : n = k) (hb : (k + 1) * 168 ≤ 140737488351232) : (n + 1) * 32 ≤ 140737488351232 ∧ n + 1 ≤ 140737488351232 := by omega
theorem Zzs {l : List (PEV × ST PEV)} {k : Nat} {y : PEV × ST PEV} (hy : l[k]? = some y) : Zby (l.take (k + 1)) = Zby (l.take k) ++ (Zer y.2).map (y.1 :: ·) := by
 rw [List.take_add_one, hy]
 show Zby (l.take k ++ [y]) = _
 rw [Zpc, Zl5, Zpd, List.append_nil]
theorem Zvi {l : List (PEV × ST PEV)} {k : Nat} {y : PEV × ST PEV} (hy : l[k]? = some y) : (Zby l).length = (Zby (l.take k)).length + (Zer y.2).length + (Zby (l.drop (k + 1))).length := by
 have e4 : Zby l = Zby (l.take (k + 1)) ++ Zby (l.drop (k + 1)) := by rw [← Zpc, List.take_append_drop]
 have e5 := congrArg List.length e4
 rw [Zzs hy, List.length_append, List.length_append, List.length_map] at e5
 exact e5
theorem Yh1 {q : List PEV} {acc : List PD} {l : List (PEV × ST PEV)} {k : Nat} {y : PEV × ST PEV} (hy : l[k]? = some y) : (acc ++ (Zby (l.take k)).map fun r => ipP (q ++ r)) ++ (Zer y.2).map (fun r => ipP (q ++ [y.1] ++ r)) = acc ++ (Zby (l.take (k + 1))).map fun r => ipP (q ++ r) := by
 rw [Zzs hy, List.map_append, List.map_map, List.append_assoc]
 congr 2
 refine List.map_congr_left fun r _ => ?_
 show ipP (q ++ [y.1] ++ r) = ipP (q ++ (y.1 :: r))
 rw [List.append_assoc]; rfl
theorem Yds {l : List (PEV × ST PEV)} (h : ∀ y ∈ l, Ybs y.2) (hz : ∀ y ∈ l, SzT 1099511627776 y.2) {q : List PEV} {acc : List PD} (hq : ∀ x ∈ q, KL x) (hd : DpC q.length l) (hb : (acc.length + (Zby l).length) * 24 ≤ 140737488351232) {k : Nat} {y : PEV × ST PEV} (hy : l[k]? = some y) (v' : Value) :
  Zb0 Tryz.prog 209 [.dat (.ptr (Zaz y.2)), .own 1000, .clo 153 [.ptr 1001 0]] [(1000, .res (Zg8 v' 99 4 32 (q.map Zav ++ [Zav y.1]))), (1001, .box 38 [.own 1002]), (1002, .row 22 1 24 (acc ++ (Zby (l.take k)).map fun r => ipP (q ++ r)))] (.dat (.tup []))
   [(1000, .res (Zg8 v' 99 4 32 (q.map Zav ++ [Zav y.1]))), (1001, .box 38 [.own 0]), (0, .row 22 1 24 (acc ++ (Zby (l.take (k + 1))).map fun r => ipP (q ++ r))), (1002, .dead)] := by
 have hym := List.mem_of_getElem? hy
 have hd := DpC_iff.1 hd y hym
 have hq1 : (q ++ [y.1]).length = q.length + 1 := by rw [List.length_append]; rfl
 have c := h y hym v' (q ++ [y.1]) (acc ++ (Zby (l.take k)).map fun r => ipP (q ++ r)) (hz y hym) (fun x hx => by
  rcases List.mem_append.1 hx with g | g
  ·exact hq x g
  ·rw [List.mem_singleton] at g; rw [g]; exact hd.1) (by rw [hq1]; exact hd.2) (by
  rw [List.length_append, List.length_map]
  exact Ymb (Zvi hy) hb)
 rw [Yh1 hy, List.map_append, List.map_cons, List.map_nil] at c
 exact c
theorem Yhz (l : List (PEV × ST PEV)) (h : ∀ y ∈ l, Ybs y.2) : Yok l := by
 intro v q acc hn hz hq hd hb0 hb
 have cN := fun {k : Nat} {y : PEV × ST PEV} (hy : l[k]? = some y) (v' : Value) => Yds h hz hq hd hb hy v'
 have n1 : (Zau l).length = l.length := Zjs l
 have ga : ∀ {k : Nat} {y : PEV × ST PEV}, l[k]? = some y → (Zau l)[((k : Nat) : Int).toNat]? = some (.agg (peC y.1 ++ [.ptr (Zaz y.2)])) := Zp0
 obtain ⟨acD, hac⟩ : ∃ f : Nat → List PD, ∀ k, acc ++ (Zby (l.take k)).map (fun r => ipP (q ++ r)) = f k := ⟨_, fun _ => rfl⟩
 have e0 : acc = acD 0 := by rw [← hac, List.take_zero, Zpd]; simp
 have e1 : acc ++ (Zby l).map (fun r => ipP (q ++ r)) = acD l.length := by rw [← hac, List.take_of_length_le (Nat.le_refl _)]
 rw [e1]
 simp only [hac] at cN
 have hb1 := Ymc (n := (q.map Zav).length) (k := q.length) (by rw [List.length_map]) hb0
 generalize q.map Zav = dq at *
 generalize Zau l = da at *
 generalize ht : l.length = n at *
 clear hac e1 hb hd hq h hb0 hz
 refine Zar Tryz.func235 rfl Tryz.ntmps235 rfl (fun X => ?_)
 refine wk ?_
 refine Zaq (ι := { k : Nat // k ≤ n })
  (fun k => [(1, .own 1000), (2, .clo 153 [.ptr 1001 0]), (12, .dat (.sl 5 40 da)), (13, .dat (.val (.int .i64 ((da.length : Nat) : Int)))), (14, .dat (.val (.int .i64 (k.1 : Nat))))])
  (fun k => [(1000, .res (Zg8 v 99 4 32 dq)), (1001, .box 38 [.own 100]), (100, .row 22 1 24 (acD k.1)), (1002, .dead)]) (fun k => n - k.1) ⟨0, Nat.zero_le _⟩ (fun j => if j = 100 then 1002 else j) ?_ ?_
 ·exact sb
 rintro ⟨k, hk⟩
 by_cases hlt : k < n
 ·have hc : decide ((k : Int) < ((da.length : Nat) : Int)) = true := decide_eq_true (by omega)
  obtain ⟨y, hy⟩ : ∃ y, l[k]? = some y := ⟨_, List.getElem?_eq_getElem (by omega)⟩
  have hi := ga hy
  have c1 := cN hy
  obtain ⟨u0, u1, u2, u3, e⟩ := Zej y.1
  rw [Zp1, e] at c1
  rw [e] at hi
  clear cN ga
  have nd : Zjf := ⟨trivial⟩
  refine wk ?_
  clear nd
  refine Zu9 5 7 [some (Eff.put (some 26) (.clo 153 [.ptr 1001 0]))] (.slice none 0 0) (fun v' : Value => Eff.bk 1000 25 (.res (Zmq v v' 99 4 32 dq)) (.res (Zg8 v' 99 4 32 (dq ++ [.agg [u0, u1, u2, u3]])))) (by kernel_rfl) rfl (by decide) (by decide) ?_
  simp only [List.take_succ_cons, List.take_zero, List.drop_succ_cons, List.drop_zero, Nat.reduceAdd]
  refine wk ?_
  refine Znm ⟨Zt4 rfl rfl rfl rfl rfl rfl (by kernel_rfl) rfl rfl (by simp) hb1.1 hb1.2, fun v' => ?_⟩
  refine wk ?_
  refine ⟨⟨rfl, rfl⟩, ?_⟩
  refine wk ?_
  refine Zcb (thk [(1000, 25), (1001, 1001), (1002, 100)] 200) rfl (by kernel_rfl) (c1 v') rfl ⟨rfl, rfl, rfl, trivial⟩ rfl (Zaj rfl) rfl ?_
  refine Zu7 (k := 1000) (d := 25) rfl rfl (by decide) ?_
  refine wk ?_
  refine Zah ?_
  refine ⟨⟨k + 1, by omega⟩, (fun j => if j = 100 then 200 else j), by simp only; omega, ?_⟩
  exact sb
 ·have hc : decide ((k : Int) < ((da.length : Nat) : Int)) = false := decide_eq_false (by omega)
  obtain rfl : k = n := by omega
  refine wk ?_
  refine Zhz () (fun j => if j = 0 then 100 else j) (tm := []) ?_ (Zeh rfl)
  exact sb
structure LikeE (x z : EV) : Prop where
 l : ∀ y, Zh9 x y = Zh9 z y
 r : ∀ y, Zh9 y x = Zh9 y z
 el : ∀ y, eqE x y = eqE z y
 er : ∀ y, eqE y x = eqE y z
theorem LikeE.refl (x : EV) : LikeE x x := ⟨fun _ => rfl, fun _ => rfl, fun _ => rfl, fun _ => rfl⟩
def OE (x : EV) : Prop := ∃ z, OPE (Zbg z) ∧ LikeE x z
theorem OE.raw {x : EV} (h : OPE (Zbg x)) : OE x := ⟨x, h, LikeE.refl x⟩
theorem ordEr : OrdL Zh9 (fun x => OPE (Zbg x)) := ⟨fun a b d ha hb hd => by
 rw [← Ziy ha.j hb.j, ← Ziy hb.j hd.j, ← Ziy ha.j hd.j]
 exact ordPE.1 _ _ _ ha hb hd, fun a b ha hb => by
 rw [← Ziy ha.j hb.j, ← Ziy hb.j ha.j]
 exact ordPE.2 _ _ ha hb⟩
theorem Yr2 : OrdL Zh9 OE := ⟨fun a b d ⟨za, ha, la⟩ ⟨zb, hb, lb⟩ ⟨zd, hd, ld⟩ => by
 rw [la.l, lb.l, la.l, lb.r, ld.r, ld.r]
 exact ordEr.1 _ _ _ ha hb hd, fun a b ⟨za, ha, la⟩ ⟨zb, hb, lb⟩ => by
 rw [la.l, lb.l, la.r, lb.r]
 exact ordEr.2 _ _ ha hb⟩
theorem Yix : OrdL (cw Zh9) (PP OE) := Yey Yr2
def Yhu (s : List (List EV)) (p : List EV) : List (List EV) := if p = [] then s else if Ze8 (cw Zh9) s p then s else s.take (Zbc (cw Zh9) s p) ++ p.map Zbd :: s.drop (Zbc (cw Zh9) s p)
def Zpn (ps : List (List EV)) : List (List EV) := ps.foldl Yhu []
theorem Yfu (ps : List (List EV)) (p : List EV) : Zpn (ps ++ [p]) = Yhu (Zpn ps) p := by
 unfold Zpn
 rw [List.foldl_append]
 rfl
structure Yoq (s : List (List EV)) : Prop where
 P : ∀ a ∈ s, PP OE a
 S : Srt (cw Zh9) s
theorem Yhv (s : List (List EV)) (p : List EV) : (Yhu s p).length ≤ s.length + 1 := by
 unfold Yhu
 split
 ·omega
 ·split
  ·omega
  ·simp; omega
theorem Yfw (ps : List (List EV)) : ∀ k, (Zpn (ps.take k)).length ≤ k := by
 intro k
 induction k with
 | zero => simp [Zpn]
 | succ k ih =>
  by_cases hk : k < ps.length
  ·rw [List.take_add_one, List.getElem?_eq_getElem hk]
   simp only [Option.toList_some]
   rw [Yfu]
   have := Yhv (Zpn (ps.take k)) ps[k]
   omega
  ·rw [List.take_of_length_le (by omega)] at ih ⊢
   omega
theorem Zlb (x : EV) : rkE (Zbd x) = rkE x := by
 unfold rkE Zbd
 by_cases k1 : x.kind = 1
 ·rw [if_pos k1, if_pos k1]; rfl
 rw [if_neg k1, if_neg k1]
 by_cases k2 : x.kind = 2
 ·rw [if_pos k2, if_pos k2]; rfl
 rw [if_neg k2, if_neg k2]
 by_cases k3 : x.kind = 3
 ·rw [if_pos k3, if_pos k3]; rfl
 rw [if_neg k3, if_neg k3]; rfl
theorem Zpf : ∀ (ks : List ByteArray) (l : List GV), (ks.take (min ks.length l.length)).zip (Zci (l.take (min ks.length l.length))) = (ks.zip l).map fun f => (f.1, Za0 f.2)
 | [], l => by simp
 | k :: ks, [] => by simp
 | k :: ks, v :: l => by
  simp only [List.length_cons, Nat.succ_min_succ, List.take_succ_cons, Zci, List.zip_cons_cons, List.map_cons]
  rw [Zpf ks l]
theorem Zkw {x : EV} (h : rkE x = 1) : kvE (Zbd x) = (kvE x).map fun f => (f.1, Za0 f.2) := by
 have k1 : x.kind = 1 := by
  unfold rkE at h
  by_cases k1 : x.kind = 1
  ·exact k1
  ·rw [if_neg k1] at h
   split at h
   ·cases h
   ·split at h <;> cases h
 unfold kvE Zbd
 rw [if_pos k1]
 exact Zpf x.keys x.l
theorem Zpt {α : Type} {c : α → α → Int} {f : α → α} (h : ∀ x y, c (f x) y = c x y) : ∀ (a b : List α), Zcj c (a.map f) b = Zcj c a b
 | [], b => rfl
 | x :: a, [] => rfl
 | x :: a, y :: b => by rw [List.map_cons, Zb3, Zb3, h, Zpt h a b]
theorem Zpu {α : Type} {c : α → α → Int} {f : α → α} (h : ∀ x y, c x (f y) = c x y) : ∀ (a b : List α), Zcj c a (b.map f) = Zcj c a b
 | [], [] => rfl
 | [], y :: b => rfl
 | x :: a, [] => rfl
 | x :: a, y :: b => by rw [List.map_cons, Zb3, Zb3, h, Zpu h a b]
theorem Zto {α : Type} {c : α → α → Bool} {f : α → α} (h : ∀ x y, c (f x) y = c x y) : ∀ (a b : List α), Zll c (a.map f) b = Zll c a b
 | [], [] => rfl
 | [], y :: b => rfl
 | x :: a, [] => rfl
 | x :: a, y :: b => by rw [List.map_cons]; unfold Zll; rw [h, Zto h a b]
theorem Ztp {α : Type} {c : α → α → Bool} {f : α → α} (h : ∀ x y, c x (f y) = c x y) : ∀ (a b : List α), Zll c a (b.map f) = Zll c a b
 | [], [] => rfl
 | [], y :: b => rfl
 | x :: a, [] => rfl
 | x :: a, y :: b => by rw [List.map_cons]; unfold Zll; rw [h, Ztp h a b]
theorem Zre {x : EV} (h : rkE x = 2) : (Zbd x).v = Za0 x.v := by
 unfold rkE at h
 unfold Zbd
 by_cases k1 : x.kind = 1
 ·rw [if_pos k1] at h; cases h
 rw [if_neg k1] at h ⊢
 by_cases k2 : x.kind = 2
 ·rw [if_pos k2]
 rw [if_neg k2] at h
 split at h <;> cases h
theorem Zrc {x : EV} (h : rkE x = 3) : (Zbd x).n = x.n := by
 unfold rkE at h
 unfold Zbd
 by_cases k1 : x.kind = 1
 ·rw [if_pos k1] at h; cases h
 rw [if_neg k1] at h ⊢
 by_cases k2 : x.kind = 2
 ·rw [if_pos k2] at h; cases h
 rw [if_neg k2] at h ⊢
 by_cases k3 : x.kind = 3
 ·rw [if_pos k3]
 rw [if_neg k3] at h; cases h
theorem Zrd {x : EV} (h1 : ¬ rkE x = 1) (h2 : ¬ rkE x = 2) (h3 : ¬ rkE x = 3) : (Zbd x).s = x.s := by
 unfold rkE at h1 h2 h3
 unfold Zbd
 by_cases k1 : x.kind = 1
 ·rw [if_pos k1] at h1; exact absurd rfl h1
 rw [if_neg k1] at h2 h3 ⊢
 by_cases k2 : x.kind = 2
 ·rw [if_pos k2] at h2; exact absurd rfl h2
 rw [if_neg k2] at h3 ⊢
 by_cases k3 : x.kind = 3
 ·rw [if_pos k3] at h3; exact absurd rfl h3
 rw [if_neg k3]
theorem Zhg (x : EV) : LikeE (Zbd x) x := by
 refine ⟨fun y => ?_, fun y => ?_, fun y => ?_, fun y => ?_⟩
 ·unfold Zh9 Ygo
  rw [Zlb]
  congr 1
  by_cases h1 : rkE x = 1
  ·rw [if_pos h1, if_pos h1, Zkw h1]
   exact Zpt (fun f g => by unfold Yk5; simp only; rw [Zcx]) _ _
  rw [if_neg h1, if_neg h1]
  by_cases h2 : rkE x = 2
  ·rw [if_pos h2, if_pos h2, Zre h2, Zcx]
  rw [if_neg h2, if_neg h2]
  by_cases h3 : rkE x = 3
  ·rw [if_pos h3, if_pos h3, Zrc h3]
  rw [if_neg h3, if_neg h3, Zrd h1 h2 h3]
 ·unfold Zh9
  rw [Zlb]
  by_cases hr : Zcg (rkE y) (rkE x) = 0
  ·rw [Zc8 hr, Zc8 hr]
   have hr : rkE y = rkE x := by
    unfold Zcg at hr
    split at hr
    ·cases hr
    ·split at hr
     ·cases hr
     ·omega
   unfold Ygo
   by_cases h1 : rkE y = 1
   ·rw [if_pos h1, if_pos h1, Zkw (by rw [← hr]; exact h1)]
    exact Zpu (fun f g => by unfold Yk5; simp only; rw [Zcx]) _ _
   rw [if_neg h1, if_neg h1]
   by_cases h2 : rkE y = 2
   ·rw [if_pos h2, if_pos h2, Zre (by rw [← hr]; exact h2), Zcx]
   rw [if_neg h2, if_neg h2]
   by_cases h3 : rkE y = 3
   ·rw [if_pos h3, if_pos h3, Zrc (by rw [← hr]; exact h3)]
   rw [if_neg h3, if_neg h3, Zrd (by rw [← hr]; exact h1) (by rw [← hr]; exact h2) (by rw [← hr]; exact h3)]
  ·rw [Zgm hr, Zgm hr]
 ·unfold eqE
  rw [Zlb]
  by_cases hr : rkE x = rkE y
  ·rw [if_neg (show ¬ (rkE x ≠ rkE y) from fun h => h hr), if_neg (show ¬ (rkE x ≠ rkE y) from fun h => h hr)]
   by_cases h1 : rkE x = 1
   ·rw [if_pos h1, if_pos h1, Zkw h1]
    exact Zto (fun f g => by unfold Yrq; simp only; rw [Zcx]) _ _
   rw [if_neg h1, if_neg h1]
   by_cases h2 : rkE x = 2
   ·rw [if_pos h2, if_pos h2, Zre h2, Zcx]
   rw [if_neg h2, if_neg h2]
   by_cases h3 : rkE x = 3
   ·rw [if_pos h3, if_pos h3, Zrc h3]
   rw [if_neg h3, if_neg h3, Zrd h1 h2 h3]
  ·rw [if_pos hr, if_pos hr]
 ·unfold eqE
  rw [Zlb]
  by_cases hr : rkE y = rkE x
  ·rw [if_neg (show ¬ (rkE y ≠ rkE x) from fun h => h hr), if_neg (show ¬ (rkE y ≠ rkE x) from fun h => h hr)]
   by_cases h1 : rkE y = 1
   ·rw [if_pos h1, if_pos h1, Zkw (by rw [← hr]; exact h1)]
    exact Ztp (fun f g => by unfold Yrq; simp only; rw [Zcx]) _ _
   rw [if_neg h1, if_neg h1]
   by_cases h2 : rkE y = 2
   ·rw [if_pos h2, if_pos h2, Zre (by rw [← hr]; exact h2), Zcx]
   rw [if_neg h2, if_neg h2]
   by_cases h3 : rkE y = 3
   ·rw [if_pos h3, if_pos h3, Zrc (by rw [← hr]; exact h3)]
   rw [if_neg h3, if_neg h3, Zrd (by rw [← hr]; exact h1) (by rw [← hr]; exact h2) (by rw [← hr]; exact h3)]
  ·rw [if_pos hr, if_pos hr]
theorem OE.clean {x : EV} (h : OE x) : OE (Zbd x) := by
 obtain ⟨z, hz, l⟩ := h
 have c := Zhg x
 exact ⟨z, hz, ⟨fun y => (c.l y).trans (l.l y), fun y => (c.r y).trans (l.r y), fun y => (c.el y).trans (l.el y), fun y => (c.er y).trans (l.er y)⟩⟩
theorem Ycj {α : Type} {c : α → α → Int} {f : α → α} (h : ∀ x y, c (f x) y = c x y) : ∀ (a b : List α), cw c (a.map f) b = cw c a b
 | [], b => rfl
 | x :: a, [] => rfl
 | x :: a, y :: b => by
  rw [List.map_cons, Zc7, Zc7, h, Ycj h a b]
  cases a <;> rfl
theorem Yck {α : Type} {c : α → α → Int} {f : α → α} (h : ∀ x y, c x (f y) = c x y) : ∀ (a b : List α), cw c a (b.map f) = cw c a b
 | [], [] => rfl
 | [], y :: b => rfl
 | x :: a, [] => rfl
 | x :: a, y :: b => by
  rw [List.map_cons, Zc7, Zc7, h, Yck h a b]
  cases b <;> rfl
theorem Yrm (a b : List EV) : cw Zh9 a (b.map Zbd) = cw Zh9 a b := Yck (fun x y => (Zhg y).r x) a b
theorem Yrn (a b : List EV) : cw Zh9 (a.map Zbd) b = cw Zh9 a b := Ycj (fun x y => (Zhg x).l y) a b
theorem Zoh {α : Type} {c : α → α → Int} {p q : α} (h : ∀ x, c x p = c x q) : ∀ l : List α, Zbc c l p = Zbc c l q ∧ Ze8 c l p = Ze8 c l q
 | [] => ⟨rfl, rfl⟩
 | x :: r => by
  unfold Zbc Ze8
  rw [h x, (Zoh h r).1, (Zoh h r).2]
  exact ⟨rfl, rfl⟩
def clP (ps : List (List EV)) : List (List EV) := (ps.filter fun p => !p.isEmpty).map (·.map Zbd)
theorem Yl2 {s : List (List EV)} {p : List EV} (h : p ≠ []) : Yhu s p = Zde (cw Zh9) s (p.map Zbd) := by
 unfold Yhu
 rw [if_neg h, Zst]
 obtain ⟨h1, h2⟩ := Zoh (c := cw Zh9) (p := p.map Zbd) (q := p) (fun x => Yrm x p) s
 rw [h1, h2]
theorem Zzj (ps : List (List EV)) : Zpn ps = Zvc (cw Zh9) (clP ps) := by
 have : ∀ (ps : List (List EV)) (s : List (List EV)), ps.foldl Yhu s = (clP ps).foldl (Zde (cw Zh9)) s := by
  intro ps
  induction ps with
  | nil => intro s; rfl
  | cons p ps ih =>
   intro s
   rw [List.foldl_cons, ih]
   unfold clP
   rw [List.filter_cons]
   cases p with
   | nil => rw [show Yhu s [] = s from by unfold Yhu; rw [if_pos rfl]]; rfl
   | cons x p =>
    rw [Yl2 (by simp)]
    rfl
 exact this ps []
theorem Yk2 {ps : List (List EV)} (h : ∀ p ∈ ps, ∀ x ∈ p, OE x) : ∀ a ∈ clP ps, PP OE a := fun a ha => by
 unfold clP at ha
 obtain ⟨p, hp, rfl⟩ := List.mem_map.1 ha
 obtain ⟨hp, hne⟩ := List.mem_filter.1 hp
 refine ⟨fun e => ?_, fun x hx => ?_⟩
 ·have : p = [] := List.map_eq_nil_iff.1 e
  subst this
  simp at hne
 ·obtain ⟨y, hy, rfl⟩ := List.mem_map.1 hx
  exact (h p hp y hy).clean
theorem Zzk {ps : List (List EV)} (h : ∀ p ∈ ps, ∀ x ∈ p, OE x) : Yoq (Zpn ps) := by
 rw [Zzj]
 exact ⟨Yqj Yix (Yk2 h), Yfy Yix (Yk2 h)⟩
theorem Ydb (q : List EV) (hq : q ≠ []) : ∀ ps : List (List EV), Za2 (cw Zh9) (clP ps) q = Za2 (cw Zh9) ps q
 | [] => rfl
 | p :: ps => by
  have ih := Ydb q hq ps
  unfold clP at ih ⊢
  rw [List.filter_cons, Zb8]
  cases p with
  | nil =>
   have : decide (cw Zh9 [] q = 0) = false := by
    cases q with
    | nil => exact absurd rfl hq
    | cons y q => rfl
   rw [this, Bool.false_or]
   exact ih
  | cons x p =>
   simp only [List.isEmpty_cons, Bool.not_false, if_true, List.map_cons]
   rw [Zb8, ih]
   have := Yrn (x :: p) q
   rw [List.map_cons] at this
   rw [this]
theorem Yfv {ps : List (List EV)} (h : ∀ p ∈ ps, ∀ x ∈ p, OE x) {q : List EV} (hq : PP OE q) : Za2 (cw Zh9) (Zpn ps) q = Za2 (cw Zh9) ps q := by
 rw [Zzj, Ydc Yix (Yk2 h) hq, Ydb q hq.1]
theorem Zmp {α β : Type} : ∀ (a : List α) (b : List β), (a.zip b).map (·.1) = a.take (min a.length b.length)
 | [], b => by simp
 | x :: a, [] => by simp
 | x :: a, y :: b => by simp [Zmp a b, Nat.succ_min_succ]
theorem Ykn : ∀ (a : List ByteArray) (b : List GV), ((a.zip (b.map Za5)).map fun p => unJ p.2) = Zci (b.take (min a.length b.length))
 | [], b => by simp [Zci]
 | x :: a, [] => by simp [Zci]
 | x :: a, y :: b => by
  have := Ykn a b
  simp only [List.map_cons, List.zip_cons_cons, List.length_cons, Nat.succ_min_succ, List.take_succ_cons, Zci]
  rw [this, Zfl]
theorem Zvh (x : EV) : Zh1 (Zbg x) = Zbd x := by
 unfold Zbg Zbd
 split
 ·simp only [Zh1, flE]
  rw [Zmp, Ykn, List.length_map]
 split
 ·simp [Zh1, Zfl]
 split
 ·simp [Zh1]
 ·simp [Zh1]
def PR (p : PEV) : Prop := OPE p ∧ KL p ∧ ∃ x, p = Zbg x
def BrE (y : EV) (p : PEV) : Prop := ∃ z, OPE (Zbg z) ∧ LikeE y z ∧ p = Zbg z
theorem Yov {y : EV} (h : OE y) : ∃ p, BrE y p := by
 obtain ⟨z, h1, h2⟩ := h
 exact ⟨_, z, h1, h2, rfl⟩
theorem BrE.o {y : EV} {p : PEV} (h : BrE y p) : OPE p := by
 obtain ⟨z, h1, h2, rfl⟩ := h
 exact h1
theorem BrE.cmp {y : EV} {p : PEV} (h : BrE y p) {x : EV} (hx : OPE (Zbg x)) : Zh9 x y = Zae (Zbg x) p := by
 obtain ⟨z, h1, h2, rfl⟩ := h
 rw [h2.r x, Ziy hx.j h1.j]
theorem Zw2 {p : PEV} (h : PR p) : ∃ x, OPE (Zbg x) ∧ p = Zbg x ∧ Zh1 p = Zbd x := by
 obtain ⟨h1, h2, x, rfl⟩ := h
 exact ⟨x, h1, rfl, Zvh x⟩
theorem BrE.cmp2 {y : EV} {p q : PEV} (h : BrE y p) (hx : PR q) : Zh9 (Zh1 q) y = Zae q p := by
 obtain ⟨x, h1, rfl, h3⟩ := Zw2 hx
 rw [h3, (Zhg x).l y, h.cmp h1]
theorem You {p : PEV} (h : PR p) : BrE (Zh1 p) p := by
 obtain ⟨x, h1, rfl, h3⟩ := Zw2 h
 exact ⟨x, h1, by rw [h3]; exact Zhg x, rfl⟩
theorem Yrj {p : PEV} (h : PR p) : OE (Zh1 p) := by
 obtain ⟨x, h1, rfl, h3⟩ := Zw2 h
 rw [h3]
 exact (OE.raw h1).clean
theorem Zzq : ∀ l : List JV, (Zhn l).length = l.length
 | [] => by simp [Zhn]
 | x :: r => by simp [Zhn, Zzq r]
theorem Zw9 : ∀ {l : List GV}, (∀ y ∈ l, GOk y) → Zq2 l
 | [], _ => by unfold Zq2; trivial
 | x :: r, h => by unfold Zq2; exact ⟨h x (by simp), Zw9 fun y hy => h y (by simp [hy])⟩
mutual
theorem Yc7 : ∀ j : JV, JOk j → GOk (unJ j)
 | .null, _ => by simp [unJ, GOk, Zq2, Zdd, gv]
 | .bool b, _ => by simp [unJ, GOk, Zq2, gv]
 | .int n, _ => by simp [unJ, GOk, Zq2, gv]
 | .flt f, _ => by simp [unJ, GOk, Zq2, gv]
 | .str s, _ => by simp [unJ, GOk, Zq2, gv]
 | .list l, h => by
  unfold JOk at h
  unfold unJ GOk
  exact ⟨by rw [Zzq]; exact h.1, Yc9 l h.2⟩
 | .map m, h => by
  unfold JOk at h
  unfold unJ
  obtain ⟨ks, l, e, hi, hl, hk, hg⟩ := Zjb h.1
  have hm := h.2.1
  rw [e]
  unfold GOk
  have hn := Ze1 (Zwe hi) (l := m.map (·.1)) (fun x hx => (hk x).1 hx)
  rw [List.length_map] at hn
  refine ⟨by omega, Zw9 fun y hy => ?_⟩
  obtain ⟨i, h1, rfl⟩ := List.getElem_of_mem hy
  obtain ⟨j, hj, e2⟩ := (hg (ks[i]'(by omega)) l[i]).1 ⟨i, List.getElem?_eq_getElem _, List.getElem?_eq_getElem _⟩
  rw [← e2]
  exact Yc8 m h.2.2 _ (Zdk hj)
theorem Yc9 : ∀ l : List JV, Zpg l → Zq2 (Zhn l)
 | [], _ => by unfold Zhn Zq2; trivial
 | x :: r, h => by
  unfold Zpg at h
  unfold Zhn Zq2
  exact ⟨Yc7 x h.1, Yc9 r h.2⟩
theorem Yc8 : ∀ m : List (ByteArray × JV), Zvm m → ∀ x ∈ m, GOk (unJ x.2)
 | [], _, x, hx => by cases hx
 | y :: r, h, x, hx => by
  unfold Zvm at h
  rcases List.mem_cons.1 hx with e | hx
  ·rw [e]; exact Yc7 y.2 h.1
  ·exact Yc8 r h.2 x hx
end
theorem Zxc {v : GV} (h : OJ (Za5 v)) : OJ (Za5 (Za0 v)) := by
 have e : unJ (Za5 v) = Za0 v := Zfl v
 refine ⟨Zm9 _ (by rw [← e]; exact Yc7 _ h.1), ?_⟩
 rw [Zfl, Zcx, ← e]
 exact h.2
theorem Ygt {x : EV} (h : OPE (Zbg x)) (k : KL (Zbg x)) : OPE (Zbg (Zbd x)) ∧ KL (Zbg (Zbd x)) := by
 rcases Ziu x with q | q | q | q
 ·rw [q.2.2] at h k
  have e1 : Zbd x = ⟨1, ByteArray.empty, x.keys.take (min x.keys.length x.l.length), Zci (x.l.take (min x.keys.length x.l.length)), Zdd, 0⟩ := by unfold Zbd; rw [if_pos q.1]
  have e : Zbg (Zbd x) = .key (flE (Zbd x)) := by rw [e1]; rfl
  have e2 : flE (Zbd x) = (x.keys.zip x.l).map fun f => (f.1, Za5 (Za0 f.2)) := by
   rw [e1]
   show (x.keys.take (min x.keys.length x.l.length)).zip ((Zci (x.l.take (min x.keys.length x.l.length))).map Za5) = _
   rw [List.zip_map_right, Zpf, List.map_map]
   rfl
  rw [e]
  refine ⟨fun f hf => ?_, fun fl hfl => ?_⟩
  ·rw [e2] at hf
   obtain ⟨g, hg, rfl⟩ := List.mem_map.1 hf
   refine Zxc (h (g.1, Za5 g.2) ?_)
   unfold flE
   rw [List.zip_map_right]
   exact List.mem_map.2 ⟨g, hg, rfl⟩
  ·injection hfl with hfl
   have := k _ rfl
   rw [← hfl, e2, List.length_map, List.length_zip]
   rw [Zln] at this
   exact this
 ·rw [q.2.2] at h k
  have e : Zbg (Zbd x) = .val (Za5 (Za0 x.v)) := by
   unfold Zbd
   rw [if_neg (by rw [q.1]; decide), if_pos q.1]
   rfl
  rw [e]
  exact ⟨Zxc h, fun fl hfl => by cases hfl⟩
 ·have e : Zbg (Zbd x) = .idx x.n := by
   unfold Zbd
   rw [if_neg (by rw [q.1]; decide), if_neg (by rw [q.1]; decide), if_pos q.1]
   rfl
  rw [e]
  exact ⟨trivial, fun fl hfl => by cases hfl⟩
 ·have e : Zbg (Zbd x) = .name x.s := by
   unfold Zbd
   rw [if_neg q.1, if_neg q.2.1, if_neg q.2.2.1]
   rfl
  rw [e]
  exact ⟨trivial, fun fl hfl => by cases hfl⟩
theorem Ygj {p : PEV} (h : PR p) : OPE (Zbg (Zh1 p)) ∧ KL (Zbg (Zh1 p)) := by
 obtain ⟨h1, h2, x, rfl⟩ := h
 rw [Zvh]
 exact Ygt h1 h2
def Br : List EV → List PEV → Prop
 | [], [] => True
 | y :: q, p :: r => BrE y p ∧ Br q r
 | _, _ => False
theorem Yox : ∀ (q : List EV), (∀ x ∈ q, OE x) → ∃ q', Br q q'
 | [], _ => ⟨[], trivial⟩
 | y :: q, h => by
  obtain ⟨p, hp⟩ := Yov (h y (by simp))
  obtain ⟨r, hr⟩ := Yox q fun x hx => h x (by simp [hx])
  exact ⟨p :: r, hp, hr⟩
theorem Br.o : ∀ {q : List EV} {q' : List PEV}, Br q q' → ∀ x ∈ q', OPE x
 | [], [], _ => by simp
 | y :: q, p :: r, h => fun x hx => by
  rcases List.mem_cons.1 hx with rfl | hx
  ·exact h.1.o
  ·exact Br.o h.2 x hx
theorem Br.ne : ∀ {q : List EV} {q' : List PEV}, Br q q' → q ≠ [] → q' ≠ []
 | [], [], _, h => absurd rfl h
 | y :: q, p :: r, h, _ => by simp
theorem Br.pp {q : List EV} {q' : List PEV} (h : Br q q') (hq : q ≠ []) : PP OPE q' := ⟨h.ne hq, h.o⟩
theorem Br.len : ∀ {q : List EV} {q' : List PEV}, Br q q' → q'.length = q.length
 | [], [], _ => rfl
 | y :: q, p :: r, h => by simp [Br.len h.2]
theorem Yj0 {α β : Type} (f : α → β) (l : List α) : en (l.map f) = en l := by cases l <;> rfl
theorem Br.en : ∀ {q : List EV} {q' : List PEV}, Br q q' → en q = en q'
 | [], [], _ => rfl
 | y :: q, p :: r, h => rfl
theorem Br.cw : ∀ {a q : List EV} {q' : List PEV}, (∀ x ∈ a, OPE (Zbg x)) → Br q q' → cw Zh9 a q = cw Zae (a.map Zbg) q'
 | [], [], [], _, _ => rfl
 | [], y :: q, p :: r, _, _ => rfl
 | x :: a, [], [], _, _ => rfl
 | x :: a, y :: q, p :: r, ha, h => by
  rw [List.map_cons, Zc7, Zc7, h.1.cmp (ha x (by simp)), Br.cw (fun z hz => ha z (by simp [hz])) h.2, Yj0, h.2.en]
theorem Br.cw2 : ∀ {a : List PEV} {q : List EV} {q' : List PEV}, (∀ x ∈ a, PR x) → Br q q' → Go.Proofs.YtgmahieoiifpfaaGreat.cw Zh9 (a.map Zh1) q = Go.Proofs.YtgmahieoiifpfaaGreat.cw Zae a q'
 | [], [], [], _, _ => rfl
 | [], y :: q, p :: r, _, _ => rfl
 | x :: a, [], [], _, _ => rfl
 | x :: a, y :: q, p :: r, ha, h => by
  rw [List.map_cons, Zc7, Zc7, h.1.cmp2 (ha x (by simp)), Br.cw2 (fun z hz => ha z (by simp [hz])) h.2, Yj0, h.2.en]
theorem Yk0 : ∀ {r : List PEV}, (∀ x ∈ r, PR x) → Br (r.map Zh1) r
 | [], _ => trivial
 | p :: r, h => ⟨You (h p (by simp)), Yk0 fun x hx => h x (by simp [hx])⟩
theorem Yoy {ps : List (List EV)} (h : ∀ p ∈ ps, ∀ x ∈ p, OPE (Zbg x)) {q : List EV} {q' : List PEV} (hb : Br q q') : Za2 (cw Zh9) ps q = Za2 (cw Zae) (ps.map (·.map Zbg)) q' := by
 induction ps with
 | nil => rfl
 | cons p ps ih =>
  rw [List.map_cons, Zb8, Zb8, ih fun p hp => h p (by simp [hp]), hb.cw (h p (by simp))]
theorem Yk1 {l : List (List PEV)} (h : ∀ p ∈ l, ∀ x ∈ p, PR x) {q : List EV} {q' : List PEV} (hb : Br q q') : Za2 (cw Zh9) (l.map (·.map Zh1)) q = Za2 (cw Zae) l q' := by
 induction l with
 | nil => rfl
 | cons p ps ih =>
  rw [List.map_cons, Zb8, Zb8, ih fun p hp => h p (by simp [hp]), hb.cw2 (h p (by simp))]
def PsOk (ps : List (List EV)) : Prop := ∀ p ∈ ps, ∀ x ∈ p, OPE (Zbg x) ∧ KL (Zbg x)
def Zbw (t : ST PEV) : List (List EV) := (Zer t).map (·.map Zh1)
section
variable {t : ST PEV} (h : WFT Zae PR t)
include h
theorem WFT.o : WFT Zae OPE t := Zmv (fun _ h => h.1) t h
theorem Zt0 : ∀ r ∈ Zer t, ∀ x ∈ r, PR x := fun r hr => (Zdz t h r hr).2
theorem Yj4 : Yoq (Zbw t) := by
 refine ⟨fun a ha => ?_, ?_⟩
 ·obtain ⟨r, hr, rfl⟩ := List.mem_map.1 ha
  refine ⟨fun e => (Zdz t h r hr).1 (List.map_eq_nil_iff.1 e), fun x hx => ?_⟩
  obtain ⟨p, hp, rfl⟩ := List.mem_map.1 hx
  exact Yrj (Zt0 h r hr p hp)
 ·unfold Zbw Srt
  rw [List.pairwise_map]
  refine List.Pairwise.imp_of_mem (fun {a b} ha hb hab => ?_) (Znd ordPE t (WFT.o h))
  rw [(Yk0 (Zt0 h b hb)).cw2 (Zt0 h a ha)]
  exact hab
theorem Yda {q : List EV} {q' : List PEV} (hb : Br q q') (hq : q ≠ []) : Za2 (cw Zh9) (Zbw t) q = Zcn Zae t q' := by
 unfold Zbw
 rw [Yk1 (Zt0 h) hb, Yhr ordPE (WFT.o h) (hb.pp hq)]
theorem Zh3 : PsOk (Zbw t) := fun p hp x hx => by
 obtain ⟨r, hr, rfl⟩ := List.mem_map.1 hp
 obtain ⟨y, hy, rfl⟩ := List.mem_map.1 hx
 exact Ygj (Zt0 h r hr y hy)
theorem Zrq : (Zbw t).length = (Zer t).length := (fun (_ : WFT Zae PR t) => by unfold Zbw; rw [List.length_map]) h
end
def inT (ps : List (List EV)) : ST PEV := ofP Zae (ps.map (·.map Zbg))
theorem Yaw : OrdL Zae PR := ⟨fun a b d ha hb hd => ordPE.1 a b d ha.1 hb.1 hd.1, fun a b ha hb => ordPE.2 a b ha.1 hb.1⟩
section
variable {ps : List (List EV)} (h : PsOk ps)
include h
theorem PsOk.el : ∀ p ∈ ps.map (·.map Zbg), ∀ x ∈ p, PR x := fun p hp x hx => by
 obtain ⟨q, hq, rfl⟩ := List.mem_map.1 hp
 obtain ⟨y, hy, rfl⟩ := List.mem_map.1 hx
 exact ⟨(h q hq y hy).1, (h q hq y hy).2, y, rfl⟩
theorem PsOk.raw : ∀ p ∈ ps, ∀ x ∈ p, OPE (Zbg x) := fun p hp x hx => (h p hp x hx).1
theorem PsOk.oe : ∀ p ∈ ps, ∀ x ∈ p, OE x := fun p hp x hx => OE.raw (h p hp x hx).1
theorem Zt5 : WFT Zae PR (inT ps) := Yd7 Yaw (PsOk.el h)
theorem Ypq : NET (inT ps) := Ymx Yaw (PsOk.el h)
theorem Zyk {q : List EV} {q' : List PEV} (hb : Br q q') (hq : q ≠ []) : Zcn Zae (inT ps) q' = Za2 (cw Zh9) ps q := by
 unfold inT
 rw [Ymz ordPE (fun p hp x hx => (PsOk.el h p hp x hx).1) (hb.pp hq), Yoy (PsOk.raw h) hb]
theorem Yl1 : (Zer (inT ps)).length ≤ ps.length := by
 have e := Zo9 Yix (Zbw (inT ps)) (Zpn ps) (Yj4 (Zt5 h)).P (Zzk (PsOk.oe h)).P (Yj4 (Zt5 h)).S (Zzk (PsOk.oe h)).S fun q hq => by
  obtain ⟨q', hb⟩ := Yox q hq.2
  rw [Yda (Zt5 h) hb hq.1, Zyk h hb hq.1, Yfv (PsOk.oe h) hq]
 have e := Zkg e
 rw [Zrq (Zt5 h)] at e
 rw [e]
 have := Yfw ps ps.length
 rwa [List.take_length] at this
end
structure TOk (t : ST PEV) (n : Nat) : Prop where
 w : WFT Zae PR t
 e : NET t
 d : dpT t ≤ 837723144946
 k : (Zer t).length ≤ n
theorem TOk.sz {t : ST PEV} {n : Nat} (h : TOk t n) : SzT n t := Yjv t h.e h.k
theorem TOk.o {t : ST PEV} {n : Nat} (h : TOk t n) : WFT Zae OPE t := WFT.o h.w
def Zq9 (ps : List (List EV)) : Prop := ∀ p ∈ ps, p.length ≤ 837723144947
theorem Zh4 {ps : List (List EV)} (h : PsOk ps) (hl : Zq9 ps) {n : Nat} (hn : ps.length ≤ n) : TOk (inT ps) n := ⟨Zt5 h, Ypq h, Yp6 fun p hp => by
 obtain ⟨q, hq, rfl⟩ := List.mem_map.1 hp
 rw [List.length_map]
 exact hl q hq, Nat.le_trans (Yl1 h) hn⟩
def uT (s t : ST PEV) : ST PEV := opN Zae true true true (dpT s + 1) s t
def iT (s t : ST PEV) : ST PEV := opN Zae false false true (dpT s + 1) s t
def dT (s t : ST PEV) : ST PEV := opN Zae true false false (dpT s + 1) s t
def rT (s t : ST PEV) : ST PEV := rdN Zae (dpT s + 1) s t
section
variable {s t : ST PEV} {a b : Nat} (hs : TOk s a) (ht : TOk t b)
include hs ht
theorem Zvg {q : List PEV} (hq : PP OPE q) : Zcn Zae (uT s t) q = (Zcn Zae s q || Zcn Zae t q) := by
 unfold uT
 rw [Zom ordPE _ s t (Nat.lt_succ_self _) hs.o ht.o q hq]
 unfold opB
 cases Zcn Zae s q <;> cases Zcn Zae t q <;> rfl
theorem Zt3 {q : List PEV} (hq : PP OPE q) : Zcn Zae (iT s t) q = (Zcn Zae s q && Zcn Zae t q) := by
 unfold iT
 rw [Zom ordPE _ s t (Nat.lt_succ_self _) hs.o ht.o q hq]
 unfold opB
 cases Zcn Zae s q <;> cases Zcn Zae t q <;> rfl
theorem Zpy {q : List PEV} (hq : PP OPE q) : Zcn Zae (dT s t) q = (Zcn Zae s q && !Zcn Zae t q) := by
 unfold dT
 rw [Zom ordPE _ s t (Nat.lt_succ_self _) hs.o ht.o q hq]
 unfold opB
 cases Zcn Zae s q <;> cases Zcn Zae t q <;> rfl
theorem Zqs {q : List PEV} (hq : PP OPE q) : Zcn Zae (rT s t) q = (Zcn Zae s q && !Zpx Zae t q) := Yfa ordPE _ s t (Nat.lt_succ_self _) hs.o ht.o q hq
theorem Zsz : TOk (uT s t) (a + b) := by
 have w : WFT Zae PR (uT s t) := Zj0 Yaw _ s t hs.w ht.w
 refine ⟨w, Zsb ordPE (.inr ⟨rfl, rfl⟩) _ s t (Nat.lt_succ_self _) hs.o ht.o hs.e ht.e, Nat.le_trans (Zy1 _ s t) (by have := hs.d; have := ht.d; omega), ?_⟩
 have := Yjm ordPE (WFT.o w) hs.o ht.o fun q hq => Zvg hs ht hq
 have := hs.k
 have := ht.k
 omega
theorem Zru : TOk (iT s t) a := by
 have w : WFT Zae PR (iT s t) := Zj0 Yaw _ s t hs.w ht.w
 refine ⟨w, Zsb ordPE (.inl rfl) _ s t (Nat.lt_succ_self _) hs.o ht.o hs.e ht.e, Nat.le_trans (Zy1 _ s t) (by have := hs.d; have := ht.d; omega), ?_⟩
 refine Nat.le_trans (Zw5 ordPE (WFT.o w) hs.o fun q hq h => ?_) hs.k
 rw [Zt3 hs ht hq] at h
 exact (Bool.and_eq_true_iff.1 h).1
theorem Zph : TOk (dT s t) a := by
 have w : WFT Zae PR (dT s t) := Zj0 Yaw _ s t hs.w ht.w
 refine ⟨w, Zsb ordPE (.inl rfl) _ s t (Nat.lt_succ_self _) hs.o ht.o hs.e ht.e, Nat.le_trans (Zy1 _ s t) (by have := hs.d; have := ht.d; omega), ?_⟩
 refine Nat.le_trans (Zw5 ordPE (WFT.o w) hs.o fun q hq h => ?_) hs.k
 rw [Zpy hs ht hq] at h
 exact (Bool.and_eq_true_iff.1 h).1
theorem Zpm : TOk (rT s t) a := by
 have w : WFT Zae PR (rT s t) := Zsi Yaw _ s t hs.w ht.w
 refine ⟨w, Ye9 ordPE _ s t (Nat.lt_succ_self _) hs.e, Nat.le_trans (Ykg _ s t) hs.d, ?_⟩
 refine Nat.le_trans (Zw5 ordPE (WFT.o w) hs.o fun q hq h => ?_) hs.k
 rw [Zqs hs ht hq] at h
 exact (Bool.and_eq_true_iff.1 h).1
end
mutual
theorem Yf6 : ∀ (t : ST PEV), ∀ q ∈ Zer t, q.length ≤ dpT t + 1
 | .mk m ch, q, hq => by
  unfold Zer at hq
  unfold dpT
  rcases List.mem_append.1 hq with hq | hq
  ·obtain ⟨x, _, rfl⟩ := List.mem_map.1 hq
   simp
  ·exact Zzt ch q hq
theorem Zzt : ∀ (l : List (PEV × ST PEV)), ∀ q ∈ Zby l, q.length ≤ dpC l + 1
 | [], q, hq => by unfold Zby at hq; cases hq
 | y :: r, q, hq => by
  unfold Zby at hq
  unfold dpC
  rcases List.mem_append.1 hq with hq | hq
  ·obtain ⟨x, hx, rfl⟩ := List.mem_map.1 hq
   have := Yf6 y.2 x hx
   simp only [List.length_cons]
   omega
  ·have := Zzt r q hq
   omega
end
theorem Zyi {t : ST PEV} {n : Nat} (h : TOk t n) : Zq9 (Zbw t) := fun p hp => by
 obtain ⟨r, hr, rfl⟩ := List.mem_map.1 hp
 have := Yf6 t r hr
 have := h.d
 rw [List.length_map]
 omega
theorem Zb2 {t : ST PEV} {n : Nat} (h : TOk t n) : TOk (inT (Zbw t)) n := Zh4 (Zh3 h.w) (Zyi h) (by rw [Zrq h.w]; exact h.k)
def PZ (p : PEV) : Prop := ∃ z, OPE (Zbg z) ∧ p = Zbg z
theorem Yr3 : OrdL Zae PZ := by
 have o : ∀ p, PZ p → OPE p := fun p h => by
  obtain ⟨z, h1, rfl⟩ := h
  exact h1
 exact ⟨fun a b d ha hb hd => ordPE.1 a b d (o a ha) (o b hb) (o d hd), fun a b ha hb => ordPE.2 a b (o a ha) (o b hb)⟩
theorem PZ.o {p : PEV} (h : PZ p) : OPE p := by
 obtain ⟨z, h1, rfl⟩ := h
 exact h1
theorem PR.z {p : PEV} (h : PR p) : PZ p := by
 obtain ⟨h1, h2, x, rfl⟩ := h
 exact ⟨x, h1, rfl⟩
theorem Yoo : ∀ (q' : List PEV), (∀ x ∈ q', PZ x) → ∃ q, Br q q' ∧ q.length = q'.length
 | [], _ => ⟨[], trivial, rfl⟩
 | p :: r, h => by
  obtain ⟨z, h1, h2⟩ := h p (by simp)
  obtain ⟨q, hq, hl⟩ := Yoo r fun x hx => h x (by simp [hx])
  exact ⟨z :: q, ⟨⟨z, h1, LikeE.refl z, h2⟩, hq⟩, by simp [hl]⟩
theorem Br.take : ∀ {q : List EV} {q' : List PEV} (n : Nat), Br q q' → Br (q.take n) (q'.take n)
 | [], [], n, _ => by simp; trivial
 | y :: q, p :: r, 0, h => trivial
 | y :: q, p :: r, n + 1, h => ⟨h.1, Br.take n h.2⟩
theorem Zi8 {s t : ST PEV} {a b : Nat} (hs : TOk s a) (ht : TOk t b) (h : ∀ q q', Br q q' → q ≠ [] → Zcn Zae s q' = Zcn Zae t q') : eqT Zi1 s t = true :=
 Yj2 (P := PZ) Yr3 (fun x y hx hy => Yhh hx.o hy.o) _ s t (Nat.lt_succ_self _) (Zmv (fun _ h => h.z) s hs.w) (Zmv (fun _ h => h.z) t ht.w) hs.e ht.e fun q' hq' => by
  obtain ⟨q, hb, hl⟩ := Yoo q' hq'.2
  exact h q q' hb fun e => hq'.1 (List.eq_nil_of_length_eq_zero (by rw [← hl, e]; rfl))
theorem Zdp {t : ST PEV} {n : Nat} (h : TOk t n) {q : List EV} {q' : List PEV} (hb : Br q q') (hq : q ≠ []) : Zcn Zae (inT (Zbw t)) q' = Zcn Zae t q' := by
 rw [Zyk (Zh3 h.w) hb hq, Yda h.w hb hq]
theorem Yhd {t : ST PEV} {n : Nat} (h : TOk t n) (hh : ∀ q q', Br q q' → q ≠ [] → Zcn Zae t q' = false) : emT t = true := by
 rw [Zkj]
 cases hw : Zer t with
 | nil => rfl
 | cons r l =>
  have hm : r ∈ Zer t := by rw [hw]; simp
  have hp := Zdz t h.w r hm
  have h1 := hh (r.map Zh1) r (Yk0 hp.2) fun e => hp.1 (List.map_eq_nil_iff.1 e)
  have hP : PP OPE r := ⟨hp.1, fun x hx => (hp.2 x hx).1⟩
  rw [← Yhr ordPE h.o hP, Zn3 (Yey ordPE) hm hP] at h1
  cases h1
theorem Yow {ps : List (List EV)} (h : PsOk ps) {q : List EV} {q' : List PEV} (hb : Br q q') (hq : q ≠ []) : Zpx Zae (inT ps) q' = Zjg (Za2 (cw Zh9) ps) q := by
 rw [Zi0]
 unfold Zjg
 rw [hb.len]
 refine Znh fun n hn => ?_
 exact Zyk h (hb.take _) (Zsy (List.mem_range.1 hn))
mutual
theorem Zuh : ∀ t : ST PEV, Ybs t
 | .mk m ch => Yh0 m ch (Yhz ch (Zug ch))
theorem Zug : ∀ (l : List (PEV × ST PEV)), ∀ y ∈ l, Ybs y.2
 | z :: r, y, h => by
  rcases List.mem_cons.1 h with e | h
  ·rw [e]; exact Zuh z.2
  ·exact Zug r y h
end
def B168 (k : Nat) : Prop := k * 168 ≤ 140737488351232
theorem B168.le {a b : Nat} (h : a ≤ b) (hb : B168 b) : B168 a := Nat.le_trans (Nat.mul_le_mul_right 168 h) hb
theorem Yoj (n : Nat) : ∀ (t : ST PEV) (d : Nat), dpT t < n → WFT Zae PR t → B168 (d + dpT t + 1) → DpT d t := by
 induction n with
 | zero => exact fun t d h => absurd h (Nat.not_lt_zero _)
 | succ n ih =>
  intro t d h0 h hb
  obtain ⟨m, ch⟩ := t
  obtain ⟨h1, h2, h3, h4⟩ := WFT_iff.1 h
  have h4 := WFC_iff.1 h4
  unfold DpT
  refine ⟨fun x hx => (h1 x hx).2.1, B168.le (by omega) hb, DpC_iff.2 fun y hy => ?_⟩
  have hm : dpT y.2 < dpT (ST.mk m ch) := Zdi (t := ST.mk m ch) hy
  exact ⟨(h4 y hy).1.2.1, ih y.2 (d + 1) (by omega) (h4 y hy).2 (B168.le (by omega) hb)⟩
theorem Ygi : B168 837723144947 := by unfold B168; decide
theorem Ymg {P : Program} {X : Base} {N : Nat} {Q : Exit → Act → World → Prop} {opa : Array Oper} {rem : List Nat} {ks : List Itm} {s : Sta} {ι : Type} {s2 : ι → Sta} {d : Option Tmp} {op : Op} (hl : ∀ (Q : Exit → Act → World → Prop) (ks : List Itm), (∀ v, Run P X N Q ks (s2 v)) → Run P X N Q ks s) (h : ∀ v, Zbo P X N Q opa rem ks d op (s2 v)) : Zbo P X N Q opa rem ks d op s :=
 ⟨fun ty pos aft => ⟨fun hX a w hc => by
  have hx := (hl (fun _ a w => ∃ v, Conc X (s2 v) a w) [] (fun v => Zsk fun a w hc => ⟨v, hc⟩)).out hX a w hc
  obtain ⟨v, hv⟩ := hx
  exact ((h v).out ty pos aft).out hX a w hv⟩⟩
theorem Yl6 (t : ST PEV) : (Zer t).map (fun r => ipP ([] ++ r)) = (Zbw t).map pdP := by
 unfold Zbw
 rw [List.map_map]
 refine List.map_congr_left fun r _ => ?_
 show ipP r = pdP (r.map Zh1)
 unfold ipP pdP
 rw [List.map_map]
 rfl
theorem Ydt {t : ST PEV} {n : Nat} (h : TOk t n) (hn : n ≤ 1099511627776) :
  Zb0 Tryz.prog 152 [.dat (.ptr (Zaz t)), .clo 153 [.ptr 1001 0]] [(1001, .box 38 [.own 1002]), (1002, .row 22 1 24 [])] (.dat (.tup []))
   [(1001, .box 38 [.own 0]), (0, .row 22 1 24 ((Zbw t).map pdP)), (1002, .dead)] := by
 have c := fun v => Zuh t v [] [] (Zj8 hn t h.sz) (by simp) (Yoj _ t 0 (Nat.lt_succ_self _) h.w (B168.le (by have := h.d; omega) Ygi)) (by have := h.k; simp only [List.length_nil]; omega)
 rw [List.nil_append, Yl6] at c
 generalize Zaz t = dt at *
 generalize (Zbw t).map pdP = r at *
 rw [List.map_nil] at c
 refine Zar Tryz.func152 rfl Tryz.ntmps152 rfl (fun X => ?_)
 refine wk ?_
 refine Ymg (fun _ _ => Yba (k := 5) (t := 5) (d := 600) rfl rfl rfl (by decide)) fun v => ?_
 refine Zcb (thk [(1000, 600), (1001, 1001), (1002, 1002)] 200) rfl (by kernel_rfl) (c v) rfl ⟨rfl, rfl, rfl, trivial⟩ rfl (Zaj rfl) rfl ?_
 refine wk ?_
 refine Zhz () (fun j => if j = 0 then 200 else j) (tm := []) ?_ (Zeh rfl)
 exact sb
theorem Zii {t : ST PEV} {n : Nat} (h : TOk t n) (hn : n ≤ 1099511627776) : PCall Tryz.prog 87 [.ptr (Zaz t)] (.sl 1 24 ((Zbw t).map pdP)) := by
 have c1 := Ydt h hn
 generalize Zaz t = dt at *
 generalize (Zbw t).map pdP = r at *
 refine Zaa Tryz.func87 rfl Tryz.ntmps87 rfl (fun X => ?_)
 refine wk ?_
 refine Ypw (fun _ _ => Zca 3 0 100 22 1 24 rfl rfl rfl) ?_
 refine Zcb (thk [(1001, 3), (1002, 100)] 200) rfl (by kernel_rfl) c1 rfl ⟨rfl, rfl, trivial⟩ rfl (Zaj rfl) rfl ?_
 refine wk ?_
 refine Zay (fun _ => false) (fun k => k == 200) ?_
 exact wke
theorem Zfe (ps : List (List EV)) (h : PsOk ps) (hn : ps.length ≤ 549755813888) : PCall Tryz.prog 77 [.sl 1 24 (ps.map pdP)] (.ptr (Zaz (inT ps))) := Yn1 ps h.raw hn
section
variable {s t : ST PEV} {a b : Nat} (hs : TOk s a) (ht : TOk t b) (hn : a + b ≤ 1099511627776)
include hs ht hn
theorem Yn3 : PCall Tryz.prog 101 [.ptr (Zaz s), .ptr (Zaz t)] (.ptr (Zaz (uT s t))) := Ybd _ s t a b (Nat.lt_succ_self _) hs.sz ht.sz hn
theorem Yl5 : PCall Tryz.prog 88 [.ptr (Zaz s), .ptr (Zaz t)] (.ptr (Zaz (iT s t))) := Ybb _ s t a b (Nat.lt_succ_self _) hs.sz ht.sz hn
theorem Yo9 : PCall Tryz.prog 121 [.ptr (Zaz s), .ptr (Zaz t)] (.ptr (Zaz (dT s t))) := Yft _ s t a b (Nat.lt_succ_self _) hs.sz ht.sz hn
theorem Ynd : PCall Tryz.prog 107 [.ptr (Zaz s), .ptr (Zaz t)] (.ptr (Zaz (rT s t))) := Ybc _ s t a b (Nat.lt_succ_self _) hs.o ht.o hs.sz ht.sz hn
end
section
variable {a b : List (List EV)} (ha : PsOk a) (hb : PsOk b) (la : Zq9 a) (lb : Zq9 b) (na : a.length ≤ 549755813888) (nb : b.length ≤ 549755813888)
include ha hb la lb na nb
theorem Zq7 : PCall Tryz.prog 41 [.sl 1 24 (a.map pdP), .sl 1 24 (b.map pdP)] (.sl 1 24 ((Zbw (uT (inT a) (inT b))).map pdP)) := by
 have ta := Zh4 ha la (Nat.le_refl _)
 have tb := Zh4 hb lb (Nat.le_refl _)
 have c1 := Zfe a ha na
 have c2 := Zfe b hb nb
 have c3 := Yn3 ta tb (by omega)
 have c4 := Zii (Zsz ta tb) (by omega)
 clear ta tb ha hb la lb na nb
 generalize (Zbw _).map pdP = d1 at *
 generalize Zaz (uT _ _) = d2 at *
 generalize Zaz (inT a) = d3 at *
 generalize Zaz (inT b) = d4 at *
 generalize a.map pdP = d5 at *
 generalize b.map pdP = d6 at *
 refine Zaa Tryz.func41 rfl Tryz.ntmps41 rfl (fun X => ?_)
 exact wke
theorem Zq5 : PCall Tryz.prog 34 [.sl 1 24 (a.map pdP), .sl 1 24 (b.map pdP)] (.sl 1 24 ((Zbw (iT (inT a) (inT b))).map pdP)) := by
 have ta := Zh4 ha la (Nat.le_refl _)
 have tb := Zh4 hb lb (Nat.le_refl _)
 have c1 := Zfe a ha na
 have c2 := Zfe b hb nb
 have c3 := Yl5 ta tb (by omega)
 have c4 := Zii (Zru ta tb) (by omega)
 clear ta tb ha hb la lb na nb
 generalize (Zbw _).map pdP = d1 at *
 generalize Zaz (iT _ _) = d2 at *
 generalize Zaz (inT a) = d3 at *
 generalize Zaz (inT b) = d4 at *
 generalize a.map pdP = d5 at *
 generalize b.map pdP = d6 at *
 refine Zaa Tryz.func34 rfl Tryz.ntmps34 rfl (fun X => ?_)
 exact wke
theorem Zq4 : PCall Tryz.prog 58 [.sl 1 24 (a.map pdP), .sl 1 24 (b.map pdP)] (.sl 1 24 ((Zbw (dT (inT a) (inT b))).map pdP)) := by
 have ta := Zh4 ha la (Nat.le_refl _)
 have tb := Zh4 hb lb (Nat.le_refl _)
 have c1 := Zfe a ha na
 have c2 := Zfe b hb nb
 have c3 := Yo9 ta tb (by omega)
 have c4 := Zii (Zph ta tb) (by omega)
 clear ta tb ha hb la lb na nb
 generalize (Zbw _).map pdP = d1 at *
 generalize Zaz (dT _ _) = d2 at *
 generalize Zaz (inT a) = d3 at *
 generalize Zaz (inT b) = d4 at *
 generalize a.map pdP = d5 at *
 generalize b.map pdP = d6 at *
 refine Zaa Tryz.func58 rfl Tryz.ntmps58 rfl (fun X => ?_)
 exact wke
theorem Zq6 : PCall Tryz.prog 47 [.sl 1 24 (a.map pdP), .sl 1 24 (b.map pdP)] (.sl 1 24 ((Zbw (rT (inT a) (inT b))).map pdP)) := by
 have ta := Zh4 ha la (Nat.le_refl _)
 have tb := Zh4 hb lb (Nat.le_refl _)
 have c1 := Zfe a ha na
 have c2 := Zfe b hb nb
 have c3 := Ynd ta tb (by omega)
 have c4 := Zii (Zpm ta tb) (by omega)
 clear ta tb ha hb la lb na nb
 generalize (Zbw _).map pdP = d1 at *
 generalize Zaz (rT _ _) = d2 at *
 generalize Zaz (inT a) = d3 at *
 generalize Zaz (inT b) = d4 at *
 generalize a.map pdP = d5 at *
 generalize b.map pdP = d6 at *
 refine Zaa Tryz.func47 rfl Tryz.ntmps47 rfl (fun X => ?_)
 exact wke
end
theorem Yot (A B : List (List EV)) (la : A.length ≤ 549755813888) (lb : B.length ≤ 549755813888) : PCall Tryz.prog 32 [.sl 1 24 (A.map pdP), .sl 1 24 (B.map pdP)] (.sl 1 24 ((A ++ B).map pdP)) := by
 have n1 : (A.map pdP).length = A.length := by simp
 have n2 : (B.map pdP).length = B.length := by simp
 rw [List.map_append]
 generalize A.map pdP = d3 at *
 generalize B.map pdP = d4 at *
 have b1 : (([] : List PD).length + d3.length) * 24 ≤ 140737488351232 := Nat.le_trans (Nat.mul_le_mul_right 24 (show ([] : List PD).length + d3.length ≤ 1099511627776 by rw [n1]; simp only [List.length_nil]; omega)) (by decide)
 have b3 : ((([] : List PD) ++ d3).length + d4.length) * 24 ≤ 140737488351232 := Nat.le_trans (Nat.mul_le_mul_right 24 (show (([] : List PD) ++ d3).length + d4.length ≤ 1099511627776 by rw [List.nil_append]; omega)) (by decide)
 have b2 : ([] : List PD).length + d3.length ≤ 140737488351232 := by rw [n1]; simp only [List.length_nil]; omega
 have b4 : (([] : List PD) ++ d3).length + d4.length ≤ 140737488351232 := by rw [List.nil_append]; omega
 clear n1 n2 la lb
 refine Zaa Tryz.func32 rfl Tryz.ntmps32 rfl (fun X => ?_)
 repeat (first | (show Zbo _ _ _ _ _ _ _ _ (.assign _) _; refine Zad rfl rfl ?_) | (show Zbo _ _ _ _ _ _ _ _ (.move _) _; refine Zai rfl rfl ?_) | (show Zbo _ _ _ _ _ _ _ _ (.buildSlice _ _ _) _; refine Zgw rfl rfl (by kernel_rfl) rfl rfl rfl rfl rfl ?_) | refine Zao rfl ?_ | refine Zag ?_ | refine Zab ?_ | refine Zac ?_ | refine Zbr ?_)
 refine Zls rfl rfl rfl rfl rfl (by kernel_rfl) rfl rfl b1 b2 ?_
 refine Zao rfl ?_
 refine Zai rfl rfl ?_
 refine Zao rfl ?_
 refine Zls rfl rfl rfl rfl rfl (by kernel_rfl) rfl rfl b3 b4 ?_
 clear b1 b2 b3 b4
 refine wk ?_
 refine Zay (fun _ => false) (fun k => k == 9) ?_
 exact wke
theorem Ykq {x : EV} (h : Fits (pdE x)) : KL (Zbg x) := by
 intro fl hfl
 have h1 : Fits (.sl 6 88 (Zds x.l)) := Fits.aggAt h 3 rfl
 have h2 := h1.sl.1
 rw [Zc9] at h2
 unfold Zbg at hfl
 split at hfl
 ·injection hfl with hfl
  subst hfl
  rw [Zln]
  omega
 ·split at hfl
  ·cases hfl
  ·split at hfl <;> cases hfl
theorem Zsf {ps : List (List EV)} (h : Fits (.sl 1 24 (ps.map pdP))) (ho : (ps.all fun p => p.all Zvo) = true) : ∀ p ∈ ps, ∀ x ∈ p, OPE (Zbg x) ∧ KL (Zbg x) := fun p hp x hx => by
 have h1 : Fits (.sl 11 168 (p.map pdE)) := h.sl.2.2 (pdP p) (List.mem_map.2 ⟨p, hp, rfl⟩)
 have h2 : Fits (pdE x) := h1.sl.2.2 (pdE x) (List.mem_map.2 ⟨x, hx, rfl⟩)
 exact ⟨Ybv (Zxb h2) (List.all_eq_true.1 (List.all_eq_true.1 ho p hp) x hx), Ykq h2⟩
theorem Zs6 {β : Type} {f : List β → Bool} {q : List β} (h : ∀ i, i < q.length → f (q.take (i + 1)) = false) : Zjg f q = false := by
 unfold Zjg
 rw [List.any_eq_false]
 intro n hn
 rw [h n (List.mem_range.1 hn)]
 simp
theorem Zz4 {β : Type} {f : List β → Bool} {q : List β} {i : Nat} (hi : i < q.length) (h : f (q.take (i + 1)) = true) : Zjg f q = true := by
 unfold Zjg
 rw [List.any_eq_true]
 exact ⟨i, List.mem_range.2 hi, h⟩
theorem Yms {n : Nat} (h : n * 168 ≤ 140737488351232) : n ≤ 837723144947 := by
 have := (Nat.le_div_iff_mul_le (by decide : 0 < 168)).2 h
 exact Nat.le_trans this (by decide)
theorem Zov {ps : List (List EV)} (h : Fits (.sl 1 24 (ps.map pdP))) : Zq9 ps := fun p hp => by
 have h1 : Fits (.sl 11 168 (p.map pdE)) := h.sl.2.2 (pdP p) (List.mem_map.2 ⟨p, hp, rfl⟩)
 have h2 := h1.sl.1
 rw [List.length_map] at h2
 exact Yms h2
theorem Ykt {α : Type} {f : α → Bool} {a b : List α} (h : (a ++ b).all f = true) : a.all f = true ∧ b.all f = true := by
 rw [List.all_append, Bool.and_eq_true] at h
 exact h
theorem Yd4 {n : Nat} (h : ¬ 2147483647 < n) : n ≤ 549755813888 := by omega
theorem Ync (a b : List PEV) : PCall Tryz.prog 168 [.ptr (.agg [.sl 4 32 (a.map Zav)]), .ptr (.agg [.sl 4 32 (b.map Zav)])] (.val (.bool (Zll Zi1 a b))) := by
 refine Zbf fun hfit => ?_
 have b1 := ((Fits.aggAt (hfit (.ptr (.agg [.sl 4 32 (a.map Zav)])) (by simp)).ptr 0 (d := .sl 4 32 (a.map Zav)) rfl).sl).2.1
 clear hfit
 have n1 : (a.map Zav).length = a.length := by simp
 have n2 : (b.map Zav).length = b.length := by simp
 have ga : ∀ {i : Nat} {x : PEV}, a[i]? = some x → (a.map Zav)[((i : Nat) : Int).toNat]? = some (Zav x) := Ze0 Zav
 have gb : ∀ {i : Nat} {x : PEV}, b[i]? = some x → (b.map Zav)[((i : Nat) : Int).toNat]? = some (Zav x) := Ze0 Zav
 generalize a.map Zav = da at *
 generalize b.map Zav = db at *
 by_cases hl : a.length = b.length
 rotate_left
 ·have g1 : decide (((da.length : Nat) : Int) ≠ ((db.length : Nat) : Int)) = true := decide_eq_true (by omega)
  rw [Zx9 hl]
  refine Zaa Tryz.func168 rfl Tryz.ntmps168 rfl (fun X => ?_)
  exact wke
 have g1 : decide (((da.length : Nat) : Int) ≠ ((db.length : Nat) : Int)) = false := decide_eq_false (by omega)
 refine Zaa Tryz.func168 rfl Tryz.ntmps168 rfl (fun X => ?_)
 refine wk ?_
 refine Zaq (ι := { k : Nat // k ≤ a.length ∧ ∀ (i : Nat) (x y : PEV), i < k → a[i]? = some x → b[i]? = some y → Zi1 x y = true })
  (fun k => [(0, .dat (.ptr (.agg [.sl 4 32 da]))), (1, .dat (.ptr (.agg [.sl 4 32 db]))), (21, .dat (.val (.int .i64 ((da.length : Nat) : Int)))), (22, .dat (.val (.int .i64 (k.1 : Nat))))]) (fun _ => []) (fun k => a.length - k.1) ⟨0, Nat.zero_le _, fun i _ _ h => absurd h (Nat.not_lt_zero i)⟩ id ?_ ?_
 ·exact sb
 rintro ⟨k, hk, hall⟩
 by_cases hlt : k < a.length
 ·have hc : decide ((k : Int) < ((da.length : Nat) : Int)) = true := decide_eq_true (by omega)
  obtain ⟨x, hx⟩ : ∃ p, a[k]? = some p := ⟨_, List.getElem?_eq_getElem hlt⟩
  obtain ⟨y, hy⟩ : ∃ p, b[k]? = some p := ⟨_, List.getElem?_eq_getElem (by omega)⟩
  have i1 := ga hx
  have i2 := gb hy
  have c1 := Zqp x y
  obtain ⟨u0, u1, u2, u3, ex⟩ := Zft x
  obtain ⟨v0, v1, v2, v3, ey⟩ := Zft y
  rw [ex] at i1 c1
  rw [ey] at i2 c1
  cases he : Zi1 x y with
  | true =>
   rw [he] at c1
   refine wk ?_
   refine Zah ?_
   refine ⟨⟨k + 1, by omega, fun i u v hi hu hv => ?_⟩, id, by simp only; omega, ?_⟩
   ·by_cases e : i = k
    ·subst e
     rw [hx] at hu; rw [hy] at hv
     cases hu; cases hv
     exact he
    ·exact hall i u v (by omega) hu hv
   exact sb
  | false =>
   rw [he] at c1
   rw [Zv6 hx hy he]
   exact wke
 ·have hc : decide ((k : Int) < ((da.length : Nat) : Int)) = false := decide_eq_false (by omega)
  rw [Zx7 hl fun i x y hx hy => hall i x y (by have := (List.getElem?_eq_some_iff.1 hx).1; omega) hx hy]
  exact wke
theorem Ynj (a b : List (PEV × ST PEV)) (ih : ∀ x ∈ a, ∀ y ∈ b, PCall Tryz.prog 103 [.ptr (Zaz x.2), .ptr (Zaz y.2)] (.val (.bool (eqT Zi1 x.2 y.2)))) : PCall Tryz.prog 169 [.ptr (.agg [.sl 5 40 (Zau a)]), .ptr (.agg [.sl 5 40 (Zau b)])] (.val (.bool (decide (a.length = b.length) && eqC Zi1 a b))) := by
 refine Zbf fun hfit => ?_
 have b1 := ((Fits.aggAt (hfit (.ptr (.agg [.sl 5 40 (Zau a)])) (by simp)).ptr 0 (d := .sl 5 40 (Zau a)) rfl).sl).2.1
 clear hfit
 rw [Zbz, Zbz] at *
 have n1 : (a.map nd).length = a.length := by simp
 have n2 : (b.map nd).length = b.length := by simp
 have ga : ∀ {i : Nat} {x : PEV × ST PEV}, a[i]? = some x → (a.map nd)[((i : Nat) : Int).toNat]? = some (nd x) := Ze0 nd
 have gb : ∀ {i : Nat} {x : PEV × ST PEV}, b[i]? = some x → (b.map nd)[((i : Nat) : Int).toNat]? = some (nd x) := Ze0 nd
 generalize a.map nd = da at *
 generalize b.map nd = db at *
 by_cases hl : a.length = b.length
 rotate_left
 ·have g1 : decide (((da.length : Nat) : Int) ≠ ((db.length : Nat) : Int)) = true := decide_eq_true (by omega)
  rw [decide_eq_false hl, Bool.false_and]
  refine Zaa Tryz.func169 rfl Tryz.ntmps169 rfl (fun X => ?_)
  exact wke
 have g1 : decide (((da.length : Nat) : Int) ≠ ((db.length : Nat) : Int)) = false := decide_eq_false (by omega)
 rw [decide_eq_true hl, Bool.true_and]
 refine Zaa Tryz.func169 rfl Tryz.ntmps169 rfl (fun X => ?_)
 refine wk ?_
 refine Zaq (ι := { k : Nat // k ≤ a.length ∧ ∀ (i : Nat) (x y : PEV × ST PEV), i < k → a[i]? = some x → b[i]? = some y → Zi1 x.1 y.1 = true ∧ eqT Zi1 x.2 y.2 = true })
  (fun k => [(0, .dat (.ptr (.agg [.sl 5 40 da]))), (1, .dat (.ptr (.agg [.sl 5 40 db]))), (21, .dat (.val (.int .i64 ((da.length : Nat) : Int)))), (22, .dat (.val (.int .i64 (k.1 : Nat))))]) (fun _ => []) (fun k => a.length - k.1) ⟨0, Nat.zero_le _, fun i _ _ h => absurd h (Nat.not_lt_zero i)⟩ id ?_ ?_
 ·exact sb
 rintro ⟨k, hk, hall⟩
 by_cases hlt : k < a.length
 ·have hc : decide ((k : Int) < ((da.length : Nat) : Int)) = true := decide_eq_true (by omega)
  obtain ⟨x, hx⟩ : ∃ p, a[k]? = some p := ⟨_, List.getElem?_eq_getElem hlt⟩
  obtain ⟨y, hy⟩ : ∃ p, b[k]? = some p := ⟨_, List.getElem?_eq_getElem (by omega)⟩
  have i1 := ga hx
  have i2 := gb hy
  have c1 := Zqp x.1 y.1
  have c2 := ih x (List.mem_of_getElem? hx) y (List.mem_of_getElem? hy)
  obtain ⟨u0, u1, u2, u3, ex, ex1⟩ := Zfx x
  obtain ⟨v0, v1, v2, v3, ey, ey1⟩ := Zfx y
  rw [show nd x = nd (x.1, x.2) from rfl, ex] at i1
  rw [show nd y = nd (y.1, y.2) from rfl, ey] at i2
  rw [ex1, ey1] at c1
  clear ex ey ga gb ih
  cases he : Zi1 x.1 y.1 with
  | true =>
   rw [he] at c1
   cases h2 : eqT Zi1 x.2 y.2 with
   | true =>
    rw [h2] at c2
    refine wk ?_
    refine Zah ?_
    refine ⟨⟨k + 1, by omega, fun i u v hi hu hv => ?_⟩, id, by simp only; omega, ?_⟩
    ·by_cases e : i = k
     ·subst e
      rw [hx] at hu; rw [hy] at hv
      cases hu; cases hv
      exact ⟨he, h2⟩
     ·exact hall i u v (by omega) hu hv
    exact sb
   | false =>
    rw [h2] at c2
    rw [Ycu a b k x y hx hy (.inr h2)]
    exact wke
  | false =>
   rw [he] at c1
   rw [Ycu a b k x y hx hy (.inl he)]
   exact wke
 ·have hc : decide ((k : Int) < ((da.length : Nat) : Int)) = false := decide_eq_false (by omega)
  rw [Ycv a b hl fun i x y hx hy => hall i x y (by have := (List.getElem?_eq_some_iff.1 hx).1; omega) hx hy]
  exact wke
theorem Ynh (n : Nat) : ∀ (s t : ST PEV), dpT s < n → PCall Tryz.prog 103 [.ptr (Zaz s), .ptr (Zaz t)] (.val (.bool (eqT Zi1 s t))) := by
 induction n with
 | zero => exact fun s t h => absurd h (Nat.not_lt_zero _)
 | succ n ih =>
  intro s t hd
  obtain ⟨m, ch⟩ := s
  obtain ⟨m2, ch2⟩ := t
  have c1 := Ync m m2
  have c2 := Ynj ch ch2 (fun x hx y hy => ih x.2 y.2 (by have := Zdi (t := ST.mk m ch) hx; omega))
  rw [Yj1]
  show PCall _ _ _ (.val (.bool (Zll Zi1 m m2 && (decide (ch.length = ch2.length) && eqC Zi1 ch ch2))))
  unfold Zaz
  clear ih hd
  generalize m.map Zav = d3 at *
  generalize m2.map Zav = d4 at *
  generalize Zau ch = d5 at *
  generalize Zau ch2 = d6 at *
  generalize (decide (ch.length = ch2.length) && eqC Zi1 ch ch2) = r at *
  cases he : Zll Zi1 m m2 with
  | true =>
   rw [he] at c1
   refine Zaa Tryz.func103 rfl Tryz.ntmps103 rfl (fun X => ?_)
   exact wke
  | false =>
   rw [he] at c1
   refine Zaa Tryz.func103 rfl Tryz.ntmps103 rfl (fun X => ?_)
   exact wke
theorem Yni (s t : ST PEV) : PCall Tryz.prog 103 [.ptr (Zaz s), .ptr (Zaz t)] (.val (.bool (eqT Zi1 s t))) := Ynh _ s t (Nat.lt_succ_self _)
end Go.Proofs.YtgmahieoiifpfaaGreat
