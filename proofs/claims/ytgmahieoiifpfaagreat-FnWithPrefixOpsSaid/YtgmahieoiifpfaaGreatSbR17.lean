/- Part 17 of what the proof rests on. -/
import Derived.Test.YtgmahieoiifpfaaGreatSbR8
import Derived.Test.YtgmahieoiifpfaaGreatSbR16
set_option linter.unusedSimpArgs false
set_option linter.unusedVariables false
namespace Go.Proofs.YtgmahieoiifpfaaGreat
open Go.RowKit
section
variable {a b : List (List EV)} (ha : LOk a) (hb : LOk b)
include ha hb
theorem Yjt : PCall Tryz.prog 41 [.sl 1 24 (a.map pdP), .sl 1 24 (b.map pdP)] (.sl 1 24 ((Zbw (uT (inT a) (inT b))).map pdP)) := Zq7 ha.ok hb.ok ha.ln hb.ln ha.n hb.n
theorem Yjr : PCall Tryz.prog 34 [.sl 1 24 (a.map pdP), .sl 1 24 (b.map pdP)] (.sl 1 24 ((Zbw (iT (inT a) (inT b))).map pdP)) := Zq5 ha.ok hb.ok ha.ln hb.ln ha.n hb.n
theorem Yol : PCall Tryz.prog 58 [.sl 1 24 (a.map pdP), .sl 1 24 (b.map pdP)] (.sl 1 24 ((Zbw (dT (inT a) (inT b))).map pdP)) := Zq4 ha.ok hb.ok ha.ln hb.ln ha.n hb.n
theorem Yjs : PCall Tryz.prog 47 [.sl 1 24 (a.map pdP), .sl 1 24 (b.map pdP)] (.sl 1 24 ((Zbw (rT (inT a) (inT b))).map pdP)) := Zq6 ha.ok hb.ok ha.ln hb.ln ha.n hb.n
theorem Zs5 : PCall Tryz.prog 43 [.sl 1 24 (a.map pdP), .sl 1 24 (b.map pdP)] (.val (.bool (eqT Zi1 (inT a) (inT b)))) := Ziw ha.ok hb.ok ha.n hb.n
end
theorem Yci {t : ST PEV} {p : PEV} {q : List PEV} (hq : q ≠ []) : Zpx Zae t (p :: q) = (Zcn Zae t [p] || Zpx Zae (wpT t p) q) := by
 rw [Zd7]
 conv => lhs; unfold Zpx
 congr 1
 unfold wpT
 cases Zd6 Zae t.c p with
 | none =>
  show false = Zpx Zae (.mk [] []) q
  rw [Zi0]
  exact (Zs6 fun i _ => Zn2 _).symm
 | some t' => rfl
theorem Yqg {t : ST PEV} {n : Nat} (h : TOk t n) {q : List EV} {q' : List PEV} (hb : Br q q') (hq : q ≠ []) : Zpx Zae (inT (Zbw t)) q' = Zpx Zae t q' := by
 rw [Zi0, Zi0]
 unfold Zjg
 refine Znh fun n hn => ?_
 refine Zdp h (hb.take (n + 1)) ?_
 rw [hb.len] at hn
 exact Zsy (List.mem_range.1 hn)
section
variable {a b : List (List EV)} (ha : LOk a) (hb : LOk b) {e : EV} (he : OPE (Zbg e))
include ha hb he
theorem Yjq : eqT Zi1 (inT (Zbw (wpT (inT (Zbw (uT (inT a) (inT b)))) (Zbg e)))) (inT (Zbw (uT (inT (Zbw (wpT (inT a) (Zbg e)))) (inT (Zbw (wpT (inT b) (Zbg e))))))) = true := by
 have ta := ha.t
 have tb := hb.t
 have tu := Zsz ta tb
 have tx := Zfy ta (Zbg e)
 have ty := Zfy tb (Zbg e)
 refine Zi8 (Zb2 (Zfy (Zb2 tu) _)) (Zb2 (Zsz (Zb2 tx) (Zb2 ty))) fun q q' hq hn => ?_
 have hp : Br (e :: q) (Zbg e :: q') := ⟨⟨e, he, LikeE.refl e, rfl⟩, hq⟩
 have hn' := hq.ne hn
 rw [Zdp (Zfy (Zb2 tu) _) hq hn, Zh7 _ _ hn', Zdp tu hp (by simp), Zvg ta tb (hp.pp (by simp)), Zdp (Zsz (Zb2 tx) (Zb2 ty)) hq hn, Zvg (Zb2 tx) (Zb2 ty) (hq.pp hn), Zdp tx hq hn, Zdp ty hq hn, Zh7 _ _ hn', Zh7 _ _ hn']
theorem Yjo : eqT Zi1 (inT (Zbw (wpT (inT (Zbw (iT (inT a) (inT b)))) (Zbg e)))) (inT (Zbw (iT (inT (Zbw (wpT (inT a) (Zbg e)))) (inT (Zbw (wpT (inT b) (Zbg e))))))) = true := by
 have ta := ha.t
 have tb := hb.t
 have tu := Zru ta tb
 have tx := Zfy ta (Zbg e)
 have ty := Zfy tb (Zbg e)
 refine Zi8 (Zb2 (Zfy (Zb2 tu) _)) (Zb2 (Zru (Zb2 tx) (Zb2 ty))) fun q q' hq hn => ?_
 have hp : Br (e :: q) (Zbg e :: q') := ⟨⟨e, he, LikeE.refl e, rfl⟩, hq⟩
 have hn' := hq.ne hn
 rw [Zdp (Zfy (Zb2 tu) _) hq hn, Zh7 _ _ hn', Zdp tu hp (by simp), Zt3 ta tb (hp.pp (by simp)), Zdp (Zru (Zb2 tx) (Zb2 ty)) hq hn, Zt3 (Zb2 tx) (Zb2 ty) (hq.pp hn), Zdp tx hq hn, Zdp ty hq hn, Zh7 _ _ hn', Zh7 _ _ hn']
theorem Yn7 : eqT Zi1 (inT (Zbw (wpT (inT (Zbw (dT (inT a) (inT b)))) (Zbg e)))) (inT (Zbw (dT (inT (Zbw (wpT (inT a) (Zbg e)))) (inT (Zbw (wpT (inT b) (Zbg e))))))) = true := by
 have ta := ha.t
 have tb := hb.t
 have tu := Zph ta tb
 have tx := Zfy ta (Zbg e)
 have ty := Zfy tb (Zbg e)
 refine Zi8 (Zb2 (Zfy (Zb2 tu) _)) (Zb2 (Zph (Zb2 tx) (Zb2 ty))) fun q q' hq hn => ?_
 have hp : Br (e :: q) (Zbg e :: q') := ⟨⟨e, he, LikeE.refl e, rfl⟩, hq⟩
 have hn' := hq.ne hn
 rw [Zdp (Zfy (Zb2 tu) _) hq hn, Zh7 _ _ hn', Zdp tu hp (by simp), Zpy ta tb (hp.pp (by simp)), Zdp (Zph (Zb2 tx) (Zb2 ty)) hq hn, Zpy (Zb2 tx) (Zb2 ty) (hq.pp hn), Zdp tx hq hn, Zdp ty hq hn, Zh7 _ _ hn', Zh7 _ _ hn']
theorem Yjp (hh : Zcn Zae (inT b) [Zbg e] = false) : eqT Zi1 (inT (Zbw (wpT (inT (Zbw (rT (inT a) (inT b)))) (Zbg e)))) (inT (Zbw (rT (inT (Zbw (wpT (inT a) (Zbg e)))) (inT (Zbw (wpT (inT b) (Zbg e))))))) = true := by
 have ta := ha.t
 have tb := hb.t
 have tu := Zpm ta tb
 have tx := Zfy ta (Zbg e)
 have ty := Zfy tb (Zbg e)
 refine Zi8 (Zb2 (Zfy (Zb2 tu) _)) (Zb2 (Zpm (Zb2 tx) (Zb2 ty))) fun q q' hq hn => ?_
 have hp : Br (e :: q) (Zbg e :: q') := ⟨⟨e, he, LikeE.refl e, rfl⟩, hq⟩
 have hn' := hq.ne hn
 rw [Zdp (Zfy (Zb2 tu) _) hq hn, Zh7 _ _ hn', Zdp tu hp (by simp), Zqs ta tb (hp.pp (by simp)), Zdp (Zpm (Zb2 tx) (Zb2 ty)) hq hn, Zqs (Zb2 tx) (Zb2 ty) (hq.pp hn), Zdp tx hq hn, Yqg ty hq hn, Zh7 _ _ hn', Yci hn', hh, Bool.false_or]
theorem Yn8 (hh : Zcn Zae (inT b) [Zbg e] = true) : eqT Zi1 (inT (Zbw (wpT (inT (Zbw (rT (inT a) (inT b)))) (Zbg e)))) (inT []) = true := by
 have ta := ha.t
 have tb := hb.t
 have tu := Zpm ta tb
 refine Zi8 (Zb2 (Zfy (Zb2 tu) _)) Zoj fun q q' hq hn => ?_
 have hp : Br (e :: q) (Zbg e :: q') := ⟨⟨e, he, LikeE.refl e, rfl⟩, hq⟩
 have hn' := hq.ne hn
 rw [Zdp (Zfy (Zb2 tu) _) hq hn, Zh7 _ _ hn', Zdp tu hp (by simp), Zqs ta tb (hp.pp (by simp)), Yci hn', hh, Bool.true_or, Bool.not_true, Bool.and_false, Zok hq hn]
end
theorem Yr1 : LOk [] := ⟨Zk0, Zjz, Nat.zero_le _⟩
end Go.Proofs.YtgmahieoiifpfaaGreat
