/- Part 12 of what the proof rests on. -/
import Derived.Test.YtgmahieoiifpfaaGreatSbR5
import Derived.Test.YtgmahieoiifpfaaGreatSbR11
set_option linter.unusedSimpArgs false
set_option linter.unusedVariables false
set_option maxHeartbeats 2000000
namespace Go.Proofs.YtgmahieoiifpfaaGreat
open Go.RowKit
section
variable {P : Program} {X : Base} {N : Nat} {s : Sta}
end
section
variable {a b : List (List EV)} (ha : PsOk a) (hb : PsOk b) (la : Zq9 a) (lb : Zq9 b) (na : a.length ≤ 549755813888) (nb : b.length ≤ 549755813888)
include ha hb
theorem Ziw (na : a.length ≤ 549755813888) (nb : b.length ≤ 549755813888) : PCall Tryz.prog 43 [.sl 1 24 (a.map pdP), .sl 1 24 (b.map pdP)] (.val (.bool (eqT Zi1 (inT a) (inT b)))) := by
 have c1 := Zfe a ha na
 have c2 := Zfe b hb nb
 have c3 := Yni (inT a) (inT b)
 clear ha hb na nb
 generalize eqT Zi1 (inT a) (inT b) = r at *
 generalize Zaz (inT a) = d3 at *
 generalize Zaz (inT b) = d4 at *
 generalize a.map pdP = d5 at *
 generalize b.map pdP = d6 at *
 refine Zaa Tryz.func43 rfl Tryz.ntmps43 rfl (fun X => ?_)
 exact wke
include la lb na nb
end
theorem Zhi {P : Program} {f : FuncId} {d r : PD} (h : PCall P f [d, .sl 1 24 []] r) : PCall P f [d, .val (.slice none 0 0)] r := h.le fun w F vs hv => by
 unfold Reps at hv ⊢
 obtain ⟨v, vs', rfl, h1, h2⟩ := hv
 refine ⟨v, vs', rfl, h1, ?_⟩
 unfold Reps at h2 ⊢
 obtain ⟨v2, vs2, rfl, h3, h4⟩ := h2
 exact ⟨v2, vs2, rfl, PLe.nil 1 24 w F v2 h3, h4⟩
theorem Yay {P : Program} {f : FuncId} {d r : PD} (h : PCall P f [.sl 1 24 [], d] r) : PCall P f [.val (.slice none 0 0), d] r := h.le fun w F vs hv => by
 unfold Reps at hv ⊢
 obtain ⟨v, vs', rfl, h1, h2⟩ := hv
 exact ⟨v, vs', rfl, PLe.nil 1 24 w F v h1, h2⟩
theorem Zmt {a : List (List EV)} (ha : PsOk a) (na : a.length ≤ 549755813888) : PCall Tryz.prog 57 [.sl 1 24 (a.map pdP)] (.val (.bool (emT (inT a)))) := by
 have c1 := Zfe a ha na
 have c3 := Znr (inT a)
 clear ha na
 generalize emT (inT a) = r at *
 generalize Zaz (inT a) = d3 at *
 generalize a.map pdP = d5 at *
 refine Zaa Tryz.func57 rfl Tryz.ntmps57 rfl (fun X => ?_)
 exact wke
theorem Zk0 : PsOk [] := fun p hp => by cases hp
theorem Zjz : Zq9 [] := fun p hp => by cases hp
theorem Zoj : TOk (inT []) 0 := Zh4 Zk0 Zjz (Nat.le_refl _)
theorem Zok {q : List EV} {q' : List PEV} (hb : Br q q') (hq : q ≠ []) : Zcn Zae (inT []) q' = false := by
 rw [Zyk Zk0 hb hq]
 rfl
theorem Ymv {q : List EV} {q' : List PEV} (hb : Br q q') (hq : q ≠ []) : Zpx Zae (inT []) q' = false := by
 rw [Yow Zk0 hb hq]
 exact Zs6 fun i _ => rfl
theorem Yg0 {c : PEV → PEV → Int} {t : ST PEV} {q : List PEV} (hq : q ≠ []) (h : Zcn c t q = true) : Zpx c t q = true := by
 rw [Zi0]
 have hl : 0 < q.length := List.length_pos_iff.2 hq
 exact Zz4 (i := q.length - 1) (by omega) (by rw [List.take_of_length_le (by omega)]; exact h)
section
variable {s t : ST PEV} {a b : Nat} (hs : TOk s a) (ht : TOk t b)
include hs ht
theorem Yc0 (h : ∀ q q', Br q q' → q ≠ [] → Zcn Zae s q' = Zcn Zae t q') : eqT Zi1 (inT (Zbw s)) t = true := Zi8 (Zb2 hs) ht fun q q' hb hq => by rw [Zdp hs hb hq]; exact h q q' hb hq
end
theorem Yhb {s : ST PEV} {a : Nat} (hs : TOk s a) (h : ∀ q q', Br q q' → q ≠ [] → Zcn Zae s q' = false) : emT (inT (Zbw s)) = true := Yhd (Zb2 hs) fun q q' hb hq => by rw [Zdp hs hb hq]; exact h q q' hb hq
end Go.Proofs.YtgmahieoiifpfaaGreat
