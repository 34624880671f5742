/- Part 8 of what the proof rests on. -/
import Derived.Maps.AppendAt
import Derived.Deep.AppendLies
import Derived.Deep.Draws
import Derived.RegionTactic
import Derived.Deep.QuietTactic
import Derived.BigQuiet
import Derived.Test.YtgmahieoiifpfaaGreatSbR1
import Derived.Test.YtgmahieoiifpfaaGreatSbR4
import Derived.Test.YtgmahieoiifpfaaGreatSbR5
import Derived.Test.YtgmahieoiifpfaaGreatSbR6
import Derived.Test.YtgmahieoiifpfaaGreatSbR7
set_option linter.unusedSimpArgs false
set_option linter.unusedVariables false
set_option maxHeartbeats 8000000
set_option maxRecDepth 100000
section
namespace Go.Proofs.YtgmahieoiifpfaaGreat
open Ieee
structure Tri (p q r : Int) : Prop where
 rp : p = -1 ∨ p = 0 ∨ p = 1
 rq : q = -1 ∨ q = 0 ∨ q = 1
 rr : r = -1 ∨ r = 0 ∨ r = 1
 zp : p = 0 → r = q
 zq : q = 0 → r = p
 lt : p = -1 → q = -1 → r = -1
 gt : p = 1 → q = 1 → r = 1
def rng (p : Int) : Prop := p = -1 ∨ p = 0 ∨ p = 1
def lx (a r : Int) : Int := if a ≠ 0 then a else r
theorem Zg0 {a r : Int} (h : rng a) (h' : rng r) : rng (lx a r) := by
 unfold rng lx at *
 split <;> assumption
theorem Zjk {a b c p q r : Int} (h : Tri a b c) (hp : rng p) (hq : rng q) (hr : rng r) (h' : a = 0 → b = 0 → Tri p q r) : Tri (lx a p) (lx b q) (lx c r) := by
 obtain ⟨h1, h2, h3, h4, h5, h6, h7⟩ := h
 unfold rng at *
 unfold lx
 by_cases ha : a = 0
 ·by_cases hb : b = 0
  ·have hc : c = 0 := by rw [h4 ha, hb]
   rw [if_neg (by simp [ha]), if_neg (by simp [hb]), if_neg (by simp [hc])]
   exact h' ha hb
  ·have hc := h4 ha
   rw [if_neg (by simp [ha]), if_pos hb, if_pos (by rw [hc]; exact hb), hc]
   constructor <;> omega
 ·by_cases hb : b = 0
  ·have hc := h5 hb
   rw [if_pos ha, if_neg (by simp [hb]), if_pos (by rw [hc]; exact ha), hc]
   constructor <;> omega
  ·rw [if_pos ha, if_pos hb]
   by_cases hc : c = 0
   ·rw [if_neg (by simp [hc])]
    constructor <;> omega
   ·rw [if_pos hc]
    constructor <;> omega
theorem Zc1 (a b : Int) : rng (Zcg a b) := by
 unfold Zcg rng
 split
 ·exact .inl rfl
 ·split
  ·exact .inr (.inr rfl)
  ·exact .inr (.inl rfl)
theorem Zel (a b c : Int) : Tri (Zcg a b) (Zcg b c) (Zcg a c) := by
 have e : ∀ x y : Int, (Zcg x y = -1 ∧ x < y) ∨ (Zcg x y = 0 ∧ x = y) ∨ (Zcg x y = 1 ∧ y < x) := fun x y => by
  unfold Zcg
  by_cases h : x < y
  ·rw [if_pos h]; exact .inl ⟨rfl, h⟩
  ·rw [if_neg h]
   by_cases h' : y < x
   ·rw [if_pos h']; exact .inr (.inr ⟨rfl, h'⟩)
   ·rw [if_neg h']; exact .inr (.inl ⟨rfl, by omega⟩)
 have e1 := e a b
 have e2 := e b c
 have e3 := e a c
 constructor <;> omega
theorem Zda (a b : Int) : Zcg b a = - Zcg a b := by
 unfold Zcg
 by_cases h : a < b
 ·rw [if_pos h, if_neg (by omega), if_pos h]; rfl
 ·by_cases h' : b < a
  ·rw [if_pos h', if_neg h, if_pos h']
  ·rw [if_neg h', if_neg h, if_neg h, if_neg h']; rfl
theorem cmpI_zero {a b : Int} : Zcg a b = 0 ↔ a = b := by
 unfold Zcg
 by_cases h : a < b
 ·rw [if_pos h]; constructor <;> intro h' <;> omega
 ·rw [if_neg h]
  by_cases h' : b < a
  ·rw [if_pos h']; constructor <;> intro h' <;> omega
  ·rw [if_neg h']; constructor <;> intro h' <;> omega
theorem Zhy (a b : ByteArray) : rng (Zed a b) := by
 unfold Zed rng
 split
 ·exact .inl rfl
 ·split
  ·exact .inr (.inr rfl)
  ·exact .inr (.inl rfl)
theorem Ziz (a b : ByteArray) : (Zed a b = -1 ∧ blt a b = true) ∨ (Zed a b = 0 ∧ a = b) ∨ (Zed a b = 1 ∧ blt b a = true) := by
 unfold Zed
 cases h : blt a b with
 | true => exact .inl ⟨rfl, rfl⟩
 | false =>
  cases h' : blt b a with
  | true => exact .inr (.inr ⟨rfl, rfl⟩)
  | false => exact .inr (.inl ⟨rfl, Zgb h h'⟩)
theorem cmpS_zero {a b : ByteArray} : Zed a b = 0 ↔ a = b := by
 constructor
 ·intro h
  rcases Ziz a b with h' | h' | h'
  ·omega
  ·exact h'.2
  ·omega
 ·rintro rfl
  rcases Ziz a a with h' | h' | h'
  ·rw [Za8] at h'; cases h'.2
  ·exact h'.1
  ·rw [Za8] at h'; cases h'.2
theorem Zge (a b : ByteArray) : Zed b a = - Zed a b := by
 rcases Ziz a b with h | h | h
 ·rw [h.1]; unfold Zed; rw [if_neg (by rw [Zfn h.2]; simp), if_pos h.2]; rfl
 ·rw [h.1, h.2]; rw [cmpS_zero.2 rfl]; rfl
 ·rw [h.1]; unfold Zed; rw [if_pos h.2]
theorem Zmx {a b : ByteArray} (h : Zed a b = -1) : blt a b = true := by
 rcases Ziz a b with h' | h' | h'
 ·exact h'.2
 ·omega
 ·omega
theorem Zne (a b c : ByteArray) : Tri (Zed a b) (Zed b c) (Zed a c) := by
 refine ⟨Zhy _ _, Zhy _ _, Zhy _ _, fun h => ?_, fun h => ?_, fun h h' => ?_, fun h h' => ?_⟩
 ·rw [cmpS_zero.1 h]
 ·rw [cmpS_zero.1 h]
 ·unfold Zed; rw [if_pos (Zb6 (Zmx h) (Zmx h'))]
 ·have h1 := Zge a b
  have h2 := Zge b c
  have h3 := Zge a c
  have : Zed c a = -1 := by
   unfold Zed; rw [if_pos (Zb6 (Zmx (a := c) (b := b) (by omega)) (Zmx (a := b) (b := a) (by omega)))]
  omega
theorem Zml (s : Bool) (m u k : Nat) : signed s m (u + k) = signed s m u * (2 ^ k : Nat) := by
 unfold signed
 have : m <<< (u + k) = (m <<< u) * 2 ^ k := by rw [Nat.shiftLeft_eq, Nat.shiftLeft_eq, Nat.pow_add, Nat.mul_assoc]
 rw [this]
 cases s
 ·simp only [Bool.false_eq_true, if_false]; push_cast; rfl
 ·simp only [if_true]; push_cast; rw [Int.neg_mul]
def Yrx : Datum → Int × Int
 | .infinity s => (if s then -1 else 1, 0)
 | .number s m p => (0, signed s m (p + 1074).toNat)
 | .nan _ _ => (0, 0)
def Yk4 (a b : Int × Int) : Int := lx (Zcg a.1 b.1) (Zcg a.2 b.2)
theorem Yjj (a b c : Int × Int) : Tri (Yk4 a b) (Yk4 b c) (Yk4 a c) := Zjk (Zel _ _ _) (Zc1 _ _) (Zc1 _ _) (Zc1 _ _) (fun _ _ => Zel _ _ _)
theorem Zxl {a b : Int} (k : Nat) (hk : 0 < k) : Zcg (a * (k : Int)) (b * (k : Int)) = Zcg a b := by
 unfold Zcg
 have hk : (0 : Int) < k := by omega
 have e : ∀ x y : Int, x * (k : Int) < y * (k : Int) ↔ x < y := fun x y => ⟨fun h => Int.lt_of_mul_lt_mul_right h (Int.le_of_lt hk), fun h => Int.mul_lt_mul_of_pos_right h hk⟩
 simp only [e]
def Yiw : Option Ordering → Int
 | some .lt => -1
 | some .gt => 1
 | _ => 0
theorem Zio (a b : Int) : Yiw (some (compare a b)) = Zcg a b := by
 unfold Zcg
 by_cases h : a < b
 ·rw [if_pos h, show compare a b = .lt from Int.compare_eq_lt.2 h]; rfl
 ·rw [if_neg h]
  by_cases h' : b < a
  ·rw [if_pos h', show compare a b = .gt from Int.compare_eq_gt.2 h']; rfl
  ·rw [if_neg h', show compare a b = .eq from Int.compare_eq_eq.2 (by omega)]; rfl
def okD : Datum → Prop
 | .number _ _ p => -1074 ≤ p
 | .infinity _ => True
 | .nan _ _ => False
theorem Ye2 {d e : Datum} (hd : okD d) (he : okD e) : Yiw (d.order e) = Yk4 (Yrx d) (Yrx e) := by
 cases d with
 | nan _ _ => exact hd.elim
 | infinity s =>
  cases e with
  | nan _ _ => exact he.elim
  | infinity t => cases s <;> cases t <;> rfl
  | number t n j => cases s <;> rfl
 | number s m i =>
  cases e with
  | nan _ _ => exact he.elim
  | infinity t => cases t <;> rfl
  | number t n j =>
   have hd : -1074 ≤ i := hd
   have he : -1074 ≤ j := he
   show Yiw (some (compare (signed s m (i - min i j).toNat) (signed t n (j - min i j).toNat))) = lx (Zcg 0 0) (Zcg (signed s m (i + 1074).toNat) (signed t n (j + 1074).toNat))
   rw [Zio]
   have e1 : (i + 1074).toNat = (i - min i j).toNat + (min i j + 1074).toNat := by omega
   have e2 : (j + 1074).toNat = (j - min i j).toNat + (min i j + 1074).toNat := by omega
   rw [e1, e2, Zml, Zml, Zxl _ (Nat.two_pow_pos _)]
   rw [cmpI_zero.2 rfl]
   rfl
theorem Yim {f : Nat} (h : ∀ s r, FloatKind.f64.format.read f ≠ .nan s r) : okD (FloatKind.f64.format.read f) := by
 have hp : FloatKind.f64.format.leastPlace = -1074 := by decide
 have : ∀ d, d = FloatKind.f64.format.read f → okD d := by
  intro d h0
  have hd := h0
  unfold Format.read at hd
  simp only at hd
  split at hd
  ·subst hd; show -1074 ≤ FloatKind.f64.format.leastPlace; omega
  ·split at hd
   ·subst hd; show -1074 ≤ FloatKind.f64.format.leastPlace + _; omega
   ·split at hd
    ·subst hd; trivial
    ·exact absurd (h0.symm.trans hd) (h _ _)
 exact this _ rfl
def Ygh (f : Nat) : Int × Int := Yrx (FloatKind.f64.format.read f)
theorem Ype {f : Nat} (h : feq f f = true) : okD (FloatKind.f64.format.read f) := by
 refine Yim fun s r e => ?_
 unfold feq Format.order at h
 rw [e] at h
 cases h
theorem Yav (f g : Nat) (hf : okD (FloatKind.f64.format.read f)) (hg : okD (FloatKind.f64.format.read g)) : Yiw (FloatKind.f64.format.order f g) = Yk4 (Ygh f) (Ygh g) := Ye2 hf hg
theorem Zic (a b : Nat) : Znp a b = Yiw (FloatKind.f64.format.order a b) := by
 unfold Znp
 cases FloatKind.f64.format.order a b with
 | none => rfl
 | some o => cases o <;> rfl
theorem Yax (d e : Datum) : Yiw (e.order d) = - Yiw (d.order e) := by
 cases d with
 | nan _ _ => cases e <;> rfl
 | infinity s =>
  cases e with
  | nan _ _ => rfl
  | infinity t => cases s <;> cases t <;> rfl
  | number t n j => cases s <;> rfl
 | number s m i =>
  cases e with
  | nan _ _ => rfl
  | infinity t => cases t <;> rfl
  | number t n j =>
   show Yiw (some (compare (signed t n (j - min j i).toNat) (signed s m (i - min j i).toNat))) = - Yiw (some (compare (signed s m (i - min i j).toNat) (signed t n (j - min i j).toNat)))
   rw [Zio, Zio, show min j i = min i j by omega, Zda]
theorem Zz8 (a b : Nat) : Znp b a = - Znp a b := by rw [Zic, Zic]; exact Yax _ _
theorem Yfj (a b : Nat) : rng (Znp a b) := by
 rw [Zic]
 unfold rng
 cases FloatKind.f64.format.order a b with
 | none => exact .inr (.inl rfl)
 | some o => cases o <;> decide
theorem Yhk {f g : Nat} (hf : okD (FloatKind.f64.format.read f)) (hg : okD (FloatKind.f64.format.read g)) : feq f g = true ↔ Znp f g = 0 := by
 rw [Zic]
 unfold feq
 cases h : FloatKind.f64.format.order f g with
 | none =>
  exfalso
  unfold Format.order at h
  revert h
  generalize FloatKind.f64.format.read f = d at *
  generalize FloatKind.f64.format.read g = e at *
  cases d <;> cases e <;> intro h <;> first | exact hf | exact hg | cases h
 | some o => cases o <;> decide
theorem Yfb {s : Bool} {r : Nat} (h1 : 2 ^ 52 ≤ r) (h2 : r < 2047 * 2 ^ 52) : FloatKind.f64.format.read (FloatKind.f64.format.word s r) = .number s (2 ^ 52 + r % 2 ^ 52) (-1074 + (r / 2 ^ 52 - 1 : Nat)) := by
 have e1 : FloatKind.f64.format.signWeight = 2 ^ 63 := by decide
 have e2 : FloatKind.f64.format.binade = 2 ^ 52 := by decide
 have e3 : FloatKind.f64.format.infRung = 2047 * 2 ^ 52 := by decide
 have e4 : FloatKind.f64.format.leastPlace = -1074 := by decide
 unfold Format.read Format.word
 rw [e1, e2, e3, e4]
 have hr : (if s then 2 ^ 63 + r else r) % 2 ^ 63 = r := by cases s <;> simp <;> omega
 have hn : ((if s then 2 ^ 63 + r else r) / 2 ^ 63 % 2 == 1) = s := by
  cases s
  ·have : r / 2 ^ 63 = 0 := by omega
   simp only [Bool.false_eq_true, if_false, this]; rfl
  ·have : (2 ^ 63 + r) / 2 ^ 63 = 1 := by omega
   simp only [if_true, this]; rfl
 simp only [hr, hn]
 rw [if_neg (by omega), if_pos h2]
theorem Yg1 (s : Bool) (n : Nat) : Toward.even.cut s n 0 = n := by
 unfold Toward.cut
 simp [Nat.mod_one]
theorem Ymn {n : Int} (h1 : -9007199254740992 ≤ n) (h2 : n ≤ 9007199254740992) : Ygh (floatOfInt .f64 n) = (0, n * (2 ^ 1074 : Nat)) ∧ okD (FloatKind.f64.format.read (floatOfInt .f64 n)) := by
 by_cases h0 : n = 0
 ·subst h0
  have e : FloatKind.f64.format.read (floatOfInt .f64 0) = .number false 0 (-1074) := by decide +kernel
  unfold Ygh
  rw [e]
  exact ⟨by decide +kernel, Int.le_refl _⟩
 by_cases h3 : n = 9007199254740992
 ·subst h3
  have e : FloatKind.f64.format.read (floatOfInt .f64 9007199254740992) = .number false (2 ^ 52) 1 := by decide +kernel
  unfold Ygh
  rw [e]
  exact ⟨by decide +kernel, by unfold okD; omega⟩
 by_cases h4 : n = -9007199254740992
 ·subst h4
  have e : FloatKind.f64.format.read (floatOfInt .f64 (-9007199254740992)) = .number true (2 ^ 52) 1 := by decide +kernel
  unfold Ygh
  rw [e]
  exact ⟨by decide +kernel, by unfold okD; omega⟩
 obtain ⟨m, hm⟩ : ∃ m, m = n.natAbs := ⟨_, rfl⟩
 have hm0 : m ≠ 0 := by omega
 have hm1 : m < 2 ^ 53 := by omega
 obtain ⟨L, hL⟩ : ∃ L, L = m.log2 := ⟨_, rfl⟩
 have hL1 : 2 ^ L ≤ m := by rw [hL]; exact Nat.log2_self_le hm0
 have hL2 : m < 2 ^ (L + 1) := by rw [hL]; exact Nat.lt_log2_self
 have hL3 : L ≤ 52 := by
  have : 2 ^ L < 2 ^ 53 := by omega
  have := (Nat.pow_lt_pow_iff_right (by decide : 1 < 2)).1 this
  omega
 obtain ⟨E, hE⟩ : ∃ E, E = 1074 := ⟨_, rfl⟩
 have e5 : 52 - L + (L + 1022) = E := by omega
 obtain ⟨s, hs⟩ : ∃ s : Bool, s = decide (n < 0) := ⟨_, rfl⟩
 have e1 : FloatKind.f64.format.leastPlace = -1074 := by decide
 have e2 : FloatKind.f64.format.binade = 2 ^ 52 := by decide
 have e3 : FloatKind.f64.format.infRung = 2047 * 2 ^ 52 := by decide
 have e4 : FloatKind.f64.format.fractionBits = 52 := by decide
 obtain ⟨K, hK⟩ : ∃ K, K = m * 2 ^ (52 - L) := ⟨_, rfl⟩
 have hp : 2 ^ 52 = 2 ^ L * 2 ^ (52 - L) := by rw [← Nat.pow_add]; congr 1; omega
 have hp' : 2 ^ 53 = 2 ^ (L + 1) * 2 ^ (52 - L) := by rw [← Nat.pow_add]; congr 1; omega
 have hK1 : 2 ^ 52 ≤ K := by rw [hK, hp]; exact Nat.mul_le_mul_right _ hL1
 have hK2 : K < 2 ^ 53 := by rw [hK, hp']; exact Nat.mul_lt_mul_of_pos_right hL2 (Nat.two_pow_pos _)
 have hw : floatOfInt .f64 n = FloatKind.f64.format.word s ((L + 1022) * 2 ^ 52 + K) := by
  show FloatKind.f64.format.nearest (decide (n < 0)) n.natAbs 0 = _
  rw [← hs, ← hm]
  unfold Format.nearest
  rw [if_neg hm0, e1, e2, e3, e4, ← hL]
  have hl : max (0 + (L : Int) - (52 : Nat)) (-1074) = (L : Int) - 52 := by omega
  simp only [hl]
  rw [show ((0 : Int) - ((L : Int) - 52)).toNat = 52 - L by omega, show ((L : Int) - 52 - 0).toNat = 0 by omega, show ((L : Int) - 52 - -1074).toNat = L + 1022 by omega, Yg1, Nat.shiftLeft_eq, ← hK, Nat.min_eq_left (by omega)]
 have hr := Yfb (s := s) (r := (L + 1022) * 2 ^ 52 + K) (by omega) (by omega)
 rw [show 2 ^ 52 + ((L + 1022) * 2 ^ 52 + K) % 2 ^ 52 = K by omega, show ((L + 1022) * 2 ^ 52 + K) / 2 ^ 52 - 1 = L + 1022 by omega] at hr
 unfold Ygh
 rw [hw, hr]
 refine ⟨?_, by show (-1074 : Int) ≤ _; omega⟩
 show ((0 : Int), signed s K (-1074 + ((L + 1022 : Nat) : Int) + 1074).toNat) = _
 rw [show (-1074 + ((L + 1022 : Nat) : Int) + 1074).toNat = L + 1022 by omega]
 rw [← hE]
 have hsh : K <<< (L + 1022) = m * 2 ^ E := by
  rw [Nat.shiftLeft_eq, hK, Nat.mul_assoc, ← Nat.pow_add]
  rw [e5]
 unfold signed
 rw [hsh]
 subst hs
 generalize 2 ^ E = B
 by_cases hn : n < 0
 ·have hmn : -(m : Int) = n := by clear hsh; omega
  rw [decide_eq_true hn, if_pos rfl, Int.natCast_mul, ← Int.neg_mul, hmn]
 ·have hmn : (m : Int) = n := by clear hsh; omega
  rw [decide_eq_false hn, if_neg (by simp), Int.natCast_mul, hmn]
end Go.Proofs.YtgmahieoiifpfaaGreat
end
section
namespace Go.Proofs.YtgmahieoiifpfaaGreat
theorem Zky (a r : Int) : lx (-a) (-r) = - lx a r := by
 unfold lx
 by_cases h : a = 0
 ·rw [if_neg (by simp [h]), if_neg (by simp [h])]
 ·rw [if_pos (by omega), if_pos h]
theorem Zgm {a r : Int} (h : a ≠ 0) : lx a r = a := if_pos h
theorem Zc8 {a r : Int} (h : a = 0) : lx a r = r := if_neg (by simp [h])
theorem Zeq {a r : Int} : lx a r = 0 ↔ a = 0 ∧ r = 0 := by
 unfold lx
 by_cases h : a = 0
 ·rw [if_neg (by simp [h])]; simp [h]
 ·rw [if_pos h]; simp [h]
def Zv3 (x y : GV) : Int := if x.kind = 2 ∧ y.kind = 2 then Zcg x.n y.n else Znp (asF x) (asF y)
def Zrb (r : Int) (x y : GV) : Int := if r = 0 then Zv3 x y else if r = 1 then Zed x.s y.s else if r = 2 then Zcg x.n y.n else if r = 3 then Zfo x.l y.l else if r = 4 then Zdr x.keys x.l y.keys y.l else 0
theorem Zjq (x y : GV) : Zgs x y = lx (Zcg (Zcz x) (Zcz y)) (Zrb (Zcz x) x y) := by
 cases x; cases y
 simp only [Zgs]
 rfl
theorem Zep (x y : GV) (r q : List GV) : Zfo (x :: r) (y :: q) = lx (Zgs x y) (Zfo r q) := by simp only [Zfo]; rfl
theorem Ze6 (k k' : ByteArray) (ks ks' : List ByteArray) (x y : GV) (r q : List GV) : Zdr (k :: ks) (x :: r) (k' :: ks') (y :: q) = lx (Zed k k') (lx (Zgs x y) (Zdr ks r ks' q)) := by simp only [Zdr]; rfl
theorem Zc3 (b : List GV) : Zfo [] b = Zcg 0 b.length := by simp only [Zfo]
theorem Zd3 (a : List GV) : Zfo a [] = Zcg a.length 0 := by cases a <;> simp only [Zfo] <;> rfl
theorem Zgc {a b : Int} (h : a < b) : Zcg a b = -1 := if_pos h
theorem Ze5 {a b : Int} (h : b < a) : Zcg a b = 1 := by unfold Zcg; rw [if_neg (by omega), if_pos h]
theorem Yb7 (a : Int) : Zcg a a = 0 := cmpI_zero.2 rfl
theorem Zmk : ∀ {a b : List GV}, (∀ x ∈ a, ∀ y, rng (Zgs x y)) → rng (Zfo a b)
 | [], b, _ => by rw [Zc3]; exact Zc1 _ _
 | a :: r, [], _ => by rw [Zd3]; exact Zc1 _ _
 | x :: r, y :: q, h => by rw [Zep]; exact Zg0 (h x (by simp) y) (Zmk fun z hz => h z (by simp [hz]))
theorem Zqt : ∀ {ks : List ByteArray} {a : List GV} {ks' : List ByteArray} {b : List GV}, (∀ x ∈ a, ∀ y, rng (Zgs x y)) → rng (Zdr ks a ks' b)
 | [], _, _, _, _ => by simp only [Zdr]; exact Zc1 _ _
 | _ :: _, [], _, _, _ => by simp only [Zdr]; exact Zc1 _ _
 | _ :: _, _ :: _, [], _, _ => by simp only [Zdr]; exact Zc1 _ _
 | _ :: _, _ :: _, _ :: _, [], _ => by simp only [Zdr]; exact Zc1 _ _
 | k :: ks, x :: r, k' :: ks', y :: q, h => by
  rw [Ze6]
  exact Zg0 (Zhy _ _) (Zg0 (h x (by simp) y) (Zqt fun z hz => h z (by simp [hz])))
theorem Yfk (x y : GV) : rng (Zv3 x y) := by
 unfold Zv3
 split
 ·exact Zc1 _ _
 ·exact Yfj _ _
theorem Zna (r : Int) {x y : GV} (h : ∀ z ∈ x.l, ∀ u, rng (Zgs z u)) : rng (Zrb r x y) := by
 unfold Zrb
 split
 ·exact Yfk _ _
 ·split
  ·exact Zhy _ _
  ·split
   ·exact Zc1 _ _
   ·split
    ·exact Zmk h
    ·split
     ·exact Zqt h
     ·exact .inr (.inl rfl)
theorem Yqn {x z : GV} (h : z ∈ x.l) : SizeOf.sizeOf z < SizeOf.sizeOf x := by
 cases x
 have := List.sizeOf_lt_of_mem h
 simp only [GV.mk.sizeOf_spec]
 have e : ∀ (k n : Int) (f : Nat) (s : ByteArray) (ks : List ByteArray) (l : List GV), (GV.mk k n f s ks l).l = l := fun _ _ _ _ _ _ => rfl
 rw [e] at this
 omega
theorem Zir (x y : GV) : rng (Zgs x y) := by
 induction hk : SizeOf.sizeOf x using Nat.strongRecOn generalizing x y with
 | _ n IH =>
 subst hk
 rw [Zjq]
 exact Zg0 (Zc1 _ _) (Zna _ fun z hz u => IH _ (Yqn hz) z u rfl)
theorem Yf3 : ∀ {a b : List GV}, (∀ x ∈ a, ∀ y, Zgs y x = - Zgs x y) → Zfo b a = - Zfo a b
 | [], b, _ => by rw [Zc3, Zd3, Zda]
 | a :: r, [], _ => by rw [Zc3, Zd3, Zda]
 | x :: r, y :: q, h => by rw [Zep, Zep, h x (by simp), Yf3 fun z hz => h z (by simp [hz]), Zky]
theorem Yf4 : ∀ {ks : List ByteArray} {a : List GV} {ks' : List ByteArray} {b : List GV}, (∀ x ∈ a, ∀ y, Zgs y x = - Zgs x y) → Zdr ks' b ks a = - Zdr ks a ks' b
 | [], a, ks', b, _ => by cases ks' <;> cases b <;> cases a <;> simp only [Zdr] <;> exact Zda _ _
 | k :: ks, [], ks', b, _ => by cases ks' <;> cases b <;> simp only [Zdr] <;> exact Zda _ _
 | _ :: _, _ :: _, [], b, _ => by cases b <;> simp only [Zdr] <;> exact Zda _ _
 | _ :: _, _ :: _, _ :: _, [], _ => by simp only [Zdr]; exact Zda _ _
 | k :: ks, x :: r, k' :: ks', y :: q, h => by
  rw [Ze6, Ze6, Zge k k', h x (by simp), Yf4 fun z hz => h z (by simp [hz]), Zky, Zky]
theorem Yql (x y : GV) : Zgs y x = - Zgs x y := by
 induction hk : SizeOf.sizeOf x using Nat.strongRecOn generalizing x y with
 | _ n IH =>
 subst hk
 rw [Zjq, Zjq, Zda (Zcz x)]
 by_cases hr : Zcz x = Zcz y
 ·have hb : Zrb (Zcz y) y x = - Zrb (Zcz x) x y := by
   rw [← hr]
   unfold Zrb
   split
   ·unfold Zv3
    by_cases h : x.kind = 2 ∧ y.kind = 2
    ·rw [if_pos h, if_pos ⟨h.2, h.1⟩, Zda]
    ·rw [if_neg h, if_neg (fun h' => h ⟨h'.2, h'.1⟩), Zz8]
   ·split
    ·exact Zge _ _
    ·split
     ·exact Zda _ _
     ·split
      ·exact Yf3 fun z hz u => IH _ (Yqn hz) z u rfl
      ·split
       ·exact Yf4 fun z hz u => IH _ (Yqn hz) z u rfl
       ·rfl
  rw [hb, Zky]
 ·have h1 : Zcg (Zcz x) (Zcz y) ≠ 0 := fun h => hr (cmpI_zero.1 h)
  rw [Zgm (by omega), Zgm h1]
mutual
/-- A plain value without NaN and whole numbers beyond 2^53. -/
def OG : GV → Prop
 | .mk k n f s ks l => OGs l ∧ ((k = 0 ∧ n = 0 ∧ s = ByteArray.empty ∧ ks = [] ∧ l = []) ∨ (k = 1 ∧ s = ByteArray.empty ∧ ks = [] ∧ l = []) ∨ (k = 2 ∧ -9007199254740992 ≤ n ∧ n ≤ 9007199254740992) ∨ (k = 3 ∧ feq f f = true)
  ∨ (k = 4 ∧ n = 0 ∧ ks = [] ∧ l = []) ∨ (k = 5 ∧ n = 0 ∧ s = ByteArray.empty ∧ ks = []) ∨ (k = 6 ∧ n = 0 ∧ s = ByteArray.empty ∧ Zf0 ks ∧ ks.length = l.length))
def OGs : List GV → Prop
 | [] => True
 | x :: r => OG x ∧ OGs r
end
theorem Ybu : ∀ {l : List GV}, OGs l → ∀ y ∈ l, OG y
 | x :: r, h, y, hy => by
  simp only [OGs] at h
  rcases List.mem_cons.1 hy with rfl | hy
  ·exact h.1
  ·exact Ybu h.2 y hy
theorem Yjw : ∀ {l : List GV}, (∀ y ∈ l, OG y) → OGs l
 | [], _ => by simp only [OGs]
 | x :: r, h => by simp only [OGs]; exact ⟨h x (by simp), Yjw fun y hy => h y (by simp [hy])⟩
theorem OG.subs {x : GV} (h : OG x) : ∀ y ∈ x.l, OG y := by
 cases x
 unfold OG at h
 exact Ybu h.1
def Yp5 (x : GV) : Int × Int := if x.kind = 2 then (0, x.n * (2 ^ 1074 : Nat)) else Ygh x.f
theorem Zsh (k n : Int) (f : Nat) (s : ByteArray) (ks : List ByteArray) (l : List GV) : Zcz (.mk k n f s ks l) = if k = 2 then 0 else if k = 3 then 0 else if k = 4 then 1 else if k = 1 then 2 else if k = 5 then 3 else if k = 6 then 4 else 5 := rfl
theorem OG.num {x : GV} (h : OG x) (hr : Zcz x = 0) : Ygh (asF x) = Yp5 x ∧ Ieee.Datum.order (FloatKind.f64.format.read (asF x)) = Ieee.Datum.order (FloatKind.f64.format.read (asF x)) ∧ okD (FloatKind.f64.format.read (asF x)) ∧ (x.kind = 2 ∨ x.kind = 3) := by
 obtain ⟨k, n, f, s, ks, l⟩ := x
 unfold OG at h
 have e : asF (.mk k n f s ks l) = if k = 2 then floatOfInt .f64 n else f := rfl
 have e2 : Yp5 (.mk k n f s ks l) = if k = 2 then (0, n * (2 ^ 1074 : Nat)) else Ygh f := rfl
 rw [e, e2]
 rw [Zsh] at hr
 obtain ⟨_, h⟩ := h
 rcases h with h | h | h | h | h | h | h <;> obtain ⟨rfl, h⟩ := h
 ·exact absurd hr (by decide)
 ·exact absurd hr (by decide)
 ·obtain ⟨h1, h2⟩ := Ymn h.1 h.2
  rw [if_pos rfl, if_pos rfl]
  exact ⟨h1, rfl, h2, .inl rfl⟩
 ·rw [if_neg (by decide), if_neg (by decide)]
  exact ⟨rfl, rfl, Ype h, .inr rfl⟩
 ·exact absurd hr (by decide)
 ·exact absurd hr (by decide)
 ·exact absurd hr (by decide)
theorem Znq {x y : GV} (hx : OG x) (hy : OG y) (h1 : Zcz x = 0) (h2 : Zcz y = 0) : Zv3 x y = Yk4 (Yp5 x) (Yp5 y) := by
 obtain ⟨a1, _, a2, _⟩ := hx.num h1
 obtain ⟨b1, _, b2, _⟩ := hy.num h2
 unfold Zv3
 by_cases h : x.kind = 2 ∧ y.kind = 2
 ·rw [if_pos h]
  unfold Yp5 Yk4
  rw [if_pos h.1, if_pos h.2]
  have hB := Nat.two_pow_pos 1074
  generalize 2 ^ 1074 = B at *
  show _ = lx (Zcg 0 0) (Zcg (x.n * (B : Int)) (y.n * (B : Int)))
  rw [Zc8 (Yb7 0)]
  exact (Zxl _ hB).symm
 ·rw [if_neg h, Zic, Yav _ _ a2 b2, a1, b1]
theorem Ykk : ∀ {a b c : List GV}, (∀ x ∈ a, ∀ y ∈ b, ∀ z ∈ c, Tri (Zgs x y) (Zgs y z) (Zgs x z)) → Tri (Zfo a b) (Zfo b c) (Zfo a c)
 | [], b, [], _ => by
  rw [Zc3, Zc3, Zd3]
  exact Zel 0 b.length 0
 | [], [], z :: c, _ => by
  rw [Zc3, Zc3]
  exact Zel 0 0 _
 | [], y :: b, z :: c, _ => by
  rw [Zc3, Zc3, Zgc (by first | (simp; done) | (simp; omega)), Zgc (by first | (simp; done) | (simp; omega))]
  have := Zmk (a := y :: b) (b := z :: c) (fun x _ y => Zir x y)
  unfold rng at this
  constructor <;> omega
 | x :: a, [], c, _ => by
  rw [Zd3, Zc3, Ze5 (by first | (simp; done) | (simp; omega))]
  have h1 := Zmk (a := x :: a) (b := c) (fun x _ y => Zir x y)
  have h2 := Zc1 0 c.length
  unfold rng at h1 h2
  cases c with
  | nil => rw [show Zcg 0 ((([] : List GV).length : Nat) : Int) = 0 from rfl, Zd3, Ze5 (by first | (simp; done) | (simp; omega))]; constructor <;> omega
  | cons z c => rw [Zgc (by first | (simp; done) | (simp; omega))]; constructor <;> omega
 | x :: a, y :: b, [], _ => by
  rw [Zd3, Zd3, Ze5 (by first | (simp; done) | (simp; omega)), Ze5 (by first | (simp; done) | (simp; omega))]
  have h1 := Zmk (a := x :: a) (b := y :: b) (fun x _ y => Zir x y)
  unfold rng at h1
  constructor <;> omega
 | x :: a, y :: b, z :: c, h => by
  rw [Zep, Zep, Zep]
  exact Zjk (h x (by simp) y (by simp) z (by simp)) (Zmk fun x _ y => Zir x y) (Zmk fun x _ y => Zir x y) (Zmk fun x _ y => Zir x y) (fun _ _ => Ykk fun x hx y hy z hz => h x (by simp [hx]) y (by simp [hy]) z (by simp [hz]))
theorem Zee {ks : List ByteArray} {b : List GV} (a : List GV) : Zdr [] a ks b = Zcg 0 ks.length := by simp only [Zdr]; rfl
theorem Zf7 {ks : List ByteArray} {a : List GV} (b : List GV) : Zdr ks a [] b = Zcg ks.length 0 := by cases ks <;> cases a <;> simp only [Zdr] <;> rfl
theorem Ykl : ∀ {k1 : List ByteArray} {a : List GV} {k2 : List ByteArray} {b : List GV} {k3 : List ByteArray} {c : List GV}, k1.length = a.length → k2.length = b.length → k3.length = c.length → (∀ x ∈ a, ∀ y ∈ b, ∀ z ∈ c, Tri (Zgs x y) (Zgs y z) (Zgs x z)) → Tri (Zdr k1 a k2 b) (Zdr k2 b k3 c) (Zdr k1 a k3 c)
 | [], a, k2, b, [], c, _, _, _, _ => by
  rw [Zee, Zee, Zf7]
  exact Zel 0 k2.length 0
 | [], a, [], b, z :: k3, c, _, _, _, _ => by
  rw [Zee, Zee, Zee]
  exact Zel 0 0 _
 | [], a, y :: k2, b, z :: k3, c, _, _, _, _ => by
  rw [Zee, Zee, Zgc (by first | (simp; done) | (simp; omega)), Zgc (by first | (simp; done) | (simp; omega))]
  have := Zqt (ks := y :: k2) (a := b) (ks' := z :: k3) (b := c) (fun x _ y => Zir x y)
  unfold rng at this
  constructor <;> omega
 | x :: k1, a, [], b, k3, c, _, _, _, _ => by
  rw [Zf7, Zee, Ze5 (by first | (simp; done) | (simp; omega))]
  have h1 := Zqt (ks := x :: k1) (a := a) (ks' := k3) (b := c) (fun x _ y => Zir x y)
  have h2 := Zc1 0 k3.length
  unfold rng at h1 h2
  cases k3 with
  | nil => rw [show Zcg 0 ((([] : List ByteArray).length : Nat) : Int) = 0 from rfl, Zf7, Ze5 (by first | (simp; done) | (simp; omega))]; constructor <;> omega
  | cons z c => rw [Zgc (by first | (simp; done) | (simp; omega))]; constructor <;> omega
 | x :: k1, a, y :: k2, b, [], c, _, _, _, _ => by
  rw [Zf7, Zf7, Ze5 (by first | (simp; done) | (simp; omega)), Ze5 (by first | (simp; done) | (simp; omega))]
  have h1 := Zqt (ks := x :: k1) (a := a) (ks' := y :: k2) (b := b) (fun x _ y => Zir x y)
  unfold rng at h1
  constructor <;> omega
 | u :: k1, x :: a, v :: k2, y :: b, w :: k3, z :: c, h1, h2, h3, h => by
  rw [Ze6, Ze6, Ze6]
  have R : ∀ (ks : List ByteArray) (a : List GV) (ks' : List ByteArray) (b : List GV), rng (Zdr ks a ks' b) := fun _ _ _ _ => Zqt fun x _ y => Zir x y
  exact Zjk (Zne u v w) (Zg0 (Zir _ _) (R _ _ _ _)) (Zg0 (Zir _ _) (R _ _ _ _)) (Zg0 (Zir _ _) (R _ _ _ _)) (fun _ _ =>
   Zjk (h x (by simp) y (by simp) z (by simp)) (R _ _ _ _) (R _ _ _ _) (R _ _ _ _) (fun _ _ => Ykl (by simpa using h1) (by simpa using h2) (by simpa using h3) fun x hx y hy z hz => h x (by simp [hx]) y (by simp [hy]) z (by simp [hz])))
 | u :: k1, [], _, _, _, _, h1, _, _, _ => by simp at h1
 | _ :: _, _ :: _, v :: k2, [], _, _, _, h2, _, _ => by simp at h2
 | _ :: _, _ :: _, _ :: _, _ :: _, w :: k3, [], _, _, h3, _ => by simp at h3
theorem OG.keys {x : GV} (h : OG x) (hr : Zcz x = 4) : x.keys.length = x.l.length ∧ Zf0 x.keys := by
 obtain ⟨k, n, f, s, ks, l⟩ := x
 unfold OG at h
 rw [Zsh] at hr
 obtain ⟨_, h⟩ := h
 rcases h with h | h | h | h | h | h | h <;> obtain ⟨rfl, h⟩ := h
 ·exact absurd hr (by decide)
 ·exact absurd hr (by decide)
 ·exact absurd hr (by decide)
 ·exact absurd hr (by decide)
 ·exact absurd hr (by decide)
 ·exact absurd hr (by decide)
 ·exact ⟨h.2.2.2, h.2.2.1⟩
theorem Yr8 (x y z : GV) (hx : OG x) (hy : OG y) (hz : OG z) : Tri (Zgs x y) (Zgs y z) (Zgs x z) := by
 induction hk : SizeOf.sizeOf x using Nat.strongRecOn generalizing x y z with
 | _ n IH =>
 subst hk
 rw [Zjq, Zjq, Zjq]
 refine Zjk (Zel _ _ _) (Zna _ fun z _ u => Zir z u) (Zna _ fun z _ u => Zir z u) (Zna _ fun z _ u => Zir z u) fun h1 h2 => ?_
 have h1 := cmpI_zero.1 h1
 have h2 := cmpI_zero.1 h2
 have ih : ∀ a ∈ x.l, ∀ b ∈ y.l, ∀ c ∈ z.l, Tri (Zgs a b) (Zgs b c) (Zgs a c) := fun a ha b hb c hc => IH _ (Yqn ha) a b c (hx.subs a ha) (hy.subs b hb) (hz.subs c hc) rfl
 unfold Zrb
 rw [← h1]
 split
 ·rename_i h0
  rw [Znq hx hy h0 (by omega), Znq hy hz (by omega) (by omega), Znq hx hz h0 (by omega)]
  exact Yjj _ _ _
 ·split
  ·exact Zne _ _ _
  ·split
   ·exact Zel _ _ _
   ·split
    ·exact Ykk ih
    ·split
     ·rename_i h4
      exact Ykl (hx.keys h4).1 (hy.keys (by omega)).1 (hz.keys (by omega)).1 ih
     ·constructor <;> omega
end Go.Proofs.YtgmahieoiifpfaaGreat
end
section
namespace Go.Proofs.YtgmahieoiifpfaaGreat
theorem Zya : ∀ {a b : List GV}, (∀ x ∈ a, ∀ y ∈ b, eqP x y = true ↔ Zgs x y = 0) → (Zjt a b = true ↔ Zfo a b = 0)
 | [], [], _ => by rw [Zc3]; unfold Zjt; simp [Zcg]
 | [], y :: b, _ => by rw [Zc3, Zgc (by first | (simp; done) | (simp; omega))]; unfold Zjt; simp
 | x :: a, [], _ => by rw [Zd3, Ze5 (by first | (simp; done) | (simp; omega))]; unfold Zjt; simp
 | x :: a, y :: b, h => by
  rw [Zep, Zeq, ← Zya (a := a) (b := b) (fun x hx y hy => h x (by simp [hx]) y (by simp [hy])), ← h x (by simp) y (by simp)]
  simp only [Zjt, Bool.and_eq_true]
theorem Zpv : ∀ {ks : List ByteArray} {a : List GV} {ks' : List ByteArray} {b : List GV}, ks.length = a.length → ks'.length = b.length → (Zdr ks a ks' b = 0 ↔ ks = ks' ∧ Zfo a b = 0)
 | [], a, [], b, h, h' => by
  have e1 : a = [] := List.eq_nil_of_length_eq_zero h.symm
  have e2 : b = [] := List.eq_nil_of_length_eq_zero h'.symm
  subst e1 e2
  rw [Zee, Zc3]
  simp [Zcg]
 | [], a, k' :: ks', b, h, h' => by
  rw [Zee, Zgc (by first | (simp; done) | (simp; omega))]
  simp
 | k :: ks, a, [], b, h, h' => by
  rw [Zf7, Ze5 (by first | (simp; done) | (simp; omega))]
  simp
 | k :: ks, x :: a, k' :: ks', y :: b, h, h' => by
  rw [Ze6, Zep, Zeq, Zeq, Zeq, cmpS_zero, Zpv (by simpa using h) (by simpa using h')]
  simp only [List.cons.injEq]
  constructor
  ·rintro ⟨h1, h2, h3, h4⟩; exact ⟨⟨h1, h3⟩, h2, h4⟩
  ·rintro ⟨⟨h1, h3⟩, h2, h4⟩; exact ⟨h1, h2, h3, h4⟩
 | _ :: _, [], _, _, h, _ => by simp at h
 | _ :: _, _ :: _, _ :: _, [], _, h' => by simp at h'
theorem Zyn (k n : Int) (f : Nat) (s : ByteArray) (ks : List ByteArray) (l : List GV) : Zcy (.mk k n f s ks l) = (decide (k = 2) || decide (k = 3)) := rfl
theorem Yhi {x y : GV} (h : (Zcy x && Zcy y) = true) : eqP x y = (if x.kind = 2 ∧ y.kind = 2 then decide (x.n = y.n) else feq (asF x) (asF y)) := by
 cases x; cases y
 simp only [eqP]
 rw [if_pos h]
 rfl
theorem Yls {x y : GV} (h : (Zcy x && Zcy y) = false) : eqP x y = (decide (x.kind = y.kind) && (decide (x.n = y.n) && (decide (x.s = y.s) && (decide (x.keys = y.keys) && Zjt x.l y.l)))) := by
 cases x; cases y
 simp only [eqP]
 rw [if_neg (by rw [h]; simp)]
 rfl
theorem OG.kind_of {x : GV} (h : OG x) : (Zcz x = 0 ∧ Zcy x = true) ∨ (Zcz x = 1 ∧ x.kind = 4 ∧ x.n = 0 ∧ x.keys = [] ∧ x.l = []) ∨ (Zcz x = 2 ∧ x.kind = 1 ∧ x.s = ByteArray.empty ∧ x.keys = [] ∧ x.l = [])
  ∨ (Zcz x = 3 ∧ x.kind = 5 ∧ x.n = 0 ∧ x.s = ByteArray.empty ∧ x.keys = []) ∨ (Zcz x = 4 ∧ x.kind = 6 ∧ x.n = 0 ∧ x.s = ByteArray.empty) ∨ (Zcz x = 5 ∧ x.kind = 0 ∧ x.n = 0 ∧ x.s = ByteArray.empty ∧ x.keys = [] ∧ x.l = []) := by
 obtain ⟨k, n, f, s, ks, l⟩ := x
 unfold OG at h
 obtain ⟨_, h⟩ := h
 rw [Zsh, Zyn]
 rcases h with h | h | h | h | h | h | h <;> obtain ⟨rfl, h⟩ := h
 ·exact .inr (.inr (.inr (.inr (.inr ⟨rfl, rfl, h⟩))))
 ·exact .inr (.inr (.inl ⟨rfl, rfl, h⟩))
 ·exact .inl ⟨rfl, rfl⟩
 ·exact .inl ⟨rfl, rfl⟩
 ·exact .inr (.inl ⟨rfl, rfl, h⟩)
 ·exact .inr (.inr (.inr (.inl ⟨rfl, rfl, h⟩)))
 ·exact .inr (.inr (.inr (.inr (.inl ⟨rfl, rfl, h.1, h.2.1⟩))))
theorem Zzd {x : GV} (h : Zcy x = true) : Zcz x = 0 := by
 cases x
 rw [Zyn] at h
 rw [Zsh]
 simp at h
 rcases h with h | h <;> simp [h]
theorem Ylr (x y : GV) (hx : OG x) (hy : OG y) : eqP x y = true ↔ Zgs x y = 0 := by
 induction hk : SizeOf.sizeOf x using Nat.strongRecOn generalizing x y with
 | _ n IH =>
 subst hk
 rw [Zjq, Zeq, cmpI_zero]
 have ih : Zjt x.l y.l = true ↔ Zfo x.l y.l = 0 := Zya fun a ha b hb => IH _ (Yqn ha) a b (hx.subs a ha) (hy.subs b hb) rfl
 cases hn : Zcy x && Zcy y with
 | true =>
  have hn' := hn
  simp only [Bool.and_eq_true] at hn'
  have r1 := Zzd hn'.1
  have r2 := Zzd hn'.2
  rw [Yhi hn, r1, r2]
  unfold Zrb
  rw [if_pos rfl]
  obtain ⟨_, _, a2, _⟩ := hx.num r1
  obtain ⟨_, _, b2, _⟩ := hy.num r2
  unfold Zv3
  by_cases h : x.kind = 2 ∧ y.kind = 2
  ·rw [if_pos h, if_pos h, cmpI_zero]
   simp
  ·rw [if_neg h, if_neg h, Yhk a2 b2]
   simp
 | false =>
  rw [Yls hn]
  simp only [Bool.and_eq_true, decide_eq_true_eq]
  by_cases hr : Zcz x = Zcz y
  ·have key := hx.kind_of
   have key' := hy.kind_of
   rw [← hr] at key'
   rw [← hr]
   rcases key with ⟨h, h1⟩ | ⟨h, h1⟩ | ⟨h, h1⟩ | ⟨h, h1⟩ | ⟨h, h1⟩ | ⟨h, h1⟩
   ·rw [h1] at hn
    have : Zcy y = true := by
     rcases key' with ⟨h', h2⟩ | ⟨h', h2⟩ | ⟨h', h2⟩ | ⟨h', h2⟩ | ⟨h', h2⟩ | ⟨h', h2⟩
     ·exact h2
     all_goals omega
    rw [this] at hn; cases hn
   all_goals
    rw [h] at key' ⊢
    unfold Zrb
    simp (config := { decide := true }) only [if_false, if_true]
   ·obtain ⟨a1, a2, a3, a4⟩ := h1
    obtain ⟨b1, b2, b3, b4⟩ : y.kind = 4 ∧ y.n = 0 ∧ y.keys = [] ∧ y.l = [] := by
     rcases key' with ⟨h', h2⟩ | ⟨h', h2⟩ | ⟨h', h2⟩ | ⟨h', h2⟩ | ⟨h', h2⟩ | ⟨h', h2⟩ <;> first | exact h2 | omega
    rw [a1, a2, a3, a4, b1, b2, b3, b4, cmpS_zero]
    simp [Zjt]
   ·obtain ⟨a1, a2, a3, a4⟩ := h1
    obtain ⟨b1, b2, b3, b4⟩ : y.kind = 1 ∧ y.s = ByteArray.empty ∧ y.keys = [] ∧ y.l = [] := by
     rcases key' with ⟨h', h2⟩ | ⟨h', h2⟩ | ⟨h', h2⟩ | ⟨h', h2⟩ | ⟨h', h2⟩ | ⟨h', h2⟩ <;> first | exact h2 | omega
    rw [a1, a2, a3, a4, b1, b2, b3, b4, cmpI_zero]
    simp [Zjt]
   ·obtain ⟨a1, a2, a3, a4⟩ := h1
    obtain ⟨b1, b2, b3, b4⟩ : y.kind = 5 ∧ y.n = 0 ∧ y.s = ByteArray.empty ∧ y.keys = [] := by
     rcases key' with ⟨h', h2⟩ | ⟨h', h2⟩ | ⟨h', h2⟩ | ⟨h', h2⟩ | ⟨h', h2⟩ | ⟨h', h2⟩ <;> first | exact h2 | omega
    rw [a1, a2, a3, a4, b1, b2, b3, b4, ih]
    simp
   ·obtain ⟨a1, a2, a3⟩ := h1
    obtain ⟨b1, b2, b3⟩ : y.kind = 6 ∧ y.n = 0 ∧ y.s = ByteArray.empty := by
     rcases key' with ⟨h', h2⟩ | ⟨h', h2⟩ | ⟨h', h2⟩ | ⟨h', h2⟩ | ⟨h', h2⟩ | ⟨h', h2⟩ <;> first | exact h2 | omega
    rw [a1, a2, a3, b1, b2, b3, ih, Zpv (hx.keys h).1 (hy.keys (hr ▸ h)).1]
    simp
   ·obtain ⟨a1, a2, a3, a4, a5⟩ := h1
    obtain ⟨b1, b2, b3, b4, b5⟩ : y.kind = 0 ∧ y.n = 0 ∧ y.s = ByteArray.empty ∧ y.keys = [] ∧ y.l = [] := by
     rcases key' with ⟨h', h2⟩ | ⟨h', h2⟩ | ⟨h', h2⟩ | ⟨h', h2⟩ | ⟨h', h2⟩ | ⟨h', h2⟩ <;> first | exact h2 | omega
    rw [a1, a2, a3, a4, a5, b1, b2, b3, b4, b5]
    simp [Zjt]
  ·constructor
   ·rintro ⟨h, _⟩
    exfalso
    apply hr
    unfold Zcz
    rw [h]
   ·rintro ⟨h, _⟩; exact absurd h hr
theorem Yom : ∀ j : JV, JOk j → Zje (unJ j) = true → OG (unJ j) := by
 intro j
 induction hk : SizeOf.sizeOf j using Nat.strongRecOn generalizing j with
 | _ n IH =>
 subst hk
 intro hj ho
 cases j with
 | list l =>
  unfold JOk at hj
  rw [show unJ (.list l) = .mk 5 0 0 ByteArray.empty [] (Zhn l) by unfold unJ; rfl] at ho ⊢
  unfold OG
  have ho : Zmh (Zhn l) = true := by unfold Zje at ho; exact ho
  refine ⟨?_, .inr (.inr (.inr (.inr (.inr (.inl ⟨rfl, rfl, rfl, rfl⟩)))))⟩
  have : ∀ (r : List JV), (∀ y ∈ r, y ∈ l) → Zpg r → Zmh (Zhn r) = true → OGs (Zhn r) := by
   intro r
   induction r with
   | nil => intro _ _ _; simp only [Zhn, OGs]
   | cons x r ih =>
    intro h hr hor
    simp only [Zpg] at hr
    simp only [Zhn, Zmh, Bool.and_eq_true] at hor
    simp only [Zhn, OGs]
    exact ⟨IH (SizeOf.sizeOf x) (by have := List.sizeOf_lt_of_mem (h x (by simp)); simp; omega) x rfl hr.1 hor.1, ih (fun y hy => h y (by simp [hy])) hr.2 hor.2⟩
  exact this l (fun _ h => h) hj.2 ho
 | map m =>
  unfold JOk at hj
  obtain ⟨ks, l, e, hi, hl, hk, hg⟩ := Zjb hj.1
  rw [show unJ (.map m) = unM m gMap by unfold unJ; rfl, e] at ho ⊢
  unfold OG
  have ho : Zmh l = true := by unfold Zje at ho; exact ho
  refine ⟨?_, .inr (.inr (.inr (.inr (.inr (.inr ⟨rfl, rfl, rfl, hi, hl⟩)))))⟩
  refine Yjw fun x hx => ?_
  have hox := ordL_iff.1 ho x hx
  obtain ⟨i, hi⟩ := List.getElem?_of_mem hx
  have hil := (List.getElem?_eq_some_iff.1 hi).1
  obtain ⟨k, hkk⟩ : ∃ k, ks[i]? = some k := ⟨_, List.getElem?_eq_getElem (by omega)⟩
  obtain ⟨j, hj1, hj2⟩ := (hg k x).1 ⟨i, hkk, hi⟩
  rw [← hj2] at hox ⊢
  have hm := Zdk hj1
  refine IH (SizeOf.sizeOf j) ?_ j rfl (Zff hj.2.2 _ hm) hox
  have := List.sizeOf_lt_of_mem hm
  simp at this ⊢
  omega
 | null => rw [show unJ .null = .mk 0 0 0 ByteArray.empty [] [] by unfold unJ; rfl]; unfold OG; exact ⟨by simp only [OGs], .inl ⟨rfl, rfl, rfl, rfl, rfl⟩⟩
 | bool b => rw [show unJ (.bool b) = .mk 1 (if b then 1 else 0) 0 ByteArray.empty [] [] by unfold unJ; rfl]; unfold OG; exact ⟨by simp only [OGs], .inr (.inl ⟨rfl, rfl, rfl, rfl⟩)⟩
 | int b =>
  rw [show unJ (.int b) = .mk 2 b 0 ByteArray.empty [] [] by unfold unJ; rfl] at ho ⊢
  unfold OG
  have ho : (decide (-9007199254740992 ≤ b) && decide (b ≤ 9007199254740992)) = true := by unfold Zje at ho; exact ho
  simp only [Bool.and_eq_true, decide_eq_true_eq] at ho
  exact ⟨by simp only [OGs], .inr (.inr (.inl ⟨rfl, ho.1, ho.2⟩))⟩
 | flt b =>
  rw [show unJ (.flt b) = .mk 3 0 b ByteArray.empty [] [] by unfold unJ; rfl] at ho ⊢
  unfold OG
  have ho : feq b b = true := by unfold Zje at ho; exact ho
  exact ⟨by simp only [OGs], .inr (.inr (.inr (.inl ⟨rfl, ho⟩)))⟩
 | str b => rw [show unJ (.str b) = .mk 4 0 0 b [] [] by unfold unJ; rfl]; unfold OG; exact ⟨by simp only [OGs], .inr (.inr (.inr (.inr (.inl ⟨rfl, rfl, rfl, rfl⟩))))⟩
end Go.Proofs.YtgmahieoiifpfaaGreat
end
section
namespace Go.Proofs.YtgmahieoiifpfaaGreat
theorem Zrf (a b : Nat) : Znp a b = Yk3 a b := by
 unfold Znp Yk3
 cases FloatKind.f64.format.order a b with
 | none => rfl
 | some o => cases o <;> rfl
theorem Yk7 {a b : ByteArray} (h : blt a b = true) : Zed a b = -1 := by unfold Zed; rw [if_pos h]
theorem Yk6 {a b : ByteArray} (h : blt b a = true) : Zed a b = 1 := by unfold Zed; rw [if_neg (by rw [Zfn h]; simp), if_pos h]
theorem Ycg (a : ByteArray) : Zed a a = 0 := by unfold Zed; rw [if_neg (by rw [Za8]; simp), if_neg (by rw [Za8]; simp)]
theorem Zn5 {u : ByteArray} {U : List ByteArray} (h : Zf0 (u :: U)) : (∀ b ∈ U, blt u b = true) ∧ Zf0 U := List.pairwise_cons.1 h
theorem Ych : ∀ (ks : List ByteArray) (l : List GV) (ks' : List ByteArray) (l' : List GV) (U : List ByteArray) (i : Nat) (m q : List (ByteArray × JV)), Zf0 ks → Zf0 ks' → Zf0 U → (∀ k, k ∈ U ↔ k ∈ ks ∨ k ∈ ks') → ks.length = l.length → ks'.length = l'.length → i + ks.length = m.length → i + ks'.length = q.length →
  (∀ k ∈ U, ∀ z, Zcw (ks.zip l) k = some z ↔ ∃ x, lkJ m k = some x ∧ unJ x = z) → (∀ k ∈ U, ∀ z, Zcw (ks'.zip l') k = some z ↔ ∃ x, lkJ q k = some x ∧ unJ x = z) →
  (∀ k x y, lkJ m k = some x → lkJ q k = some y → Zgs (unJ x) (unJ y) = Zdb x y) → Zdr ks l ks' l' = Zjp Zdb m q i U
 | [], l, [], l', U, i, m, q, _, _, _, hU, _, _, _, _, _, _, _ => by
  have : U = [] := List.eq_nil_iff_forall_not_mem.2 fun k hk => by simpa using (hU k).1 hk
  subst this
  simp only [Zdr, Zjp]; rfl
 | [], l, b :: r', l', U, i, m, q, _, _, _, hU, _, _, hm, hq, _, _, _ => by
  cases U with
  | nil => have := (hU b).2 (by simp); simp at this
  | cons u U =>
   simp only [Zdr, Zjp]
   have e : Zfd Zdb m q i u = -1 := by unfold Zfd; rw [if_pos (by simpa using hm)]
   rw [e, if_neg (by decide)]
   unfold Zcg
   first | (simp; done) | (simp; omega)
 | a :: r, l, [], l', U, i, m, q, _, _, _, hU, hl, _, hm, hq, _, _, _ => by
  cases U with
  | nil => have := (hU a).2 (by simp); simp at this
  | cons u U =>
   have e : Zfd Zdb m q i u = 1 := by
    unfold Zfd
    simp at hm hq
    rw [if_neg (by omega), if_pos (by omega)]
   cases l <;> simp only [Zdr, Zjp] <;> rw [e, if_neg (by decide)] <;> unfold Zcg <;> first | (simp; done) | (simp; omega)
 | a :: r, [], b :: r', l', U, i, m, q, _, _, _, _, hl, _, _, _, _, _, _ => by simp at hl
 | a :: r, _ :: _, b :: r', [], U, i, m, q, _, _, _, _, _, hl', _, _, _, _, _ => by simp at hl'
 | a :: r, z :: l, b :: r', z' :: l', U, i, m, q, h1, h2, h3, hU, hl, hl', hm, hq, hv, hv', ih => by
  obtain ⟨h1a, h1b⟩ := Zn5 h1
  obtain ⟨h2a, h2b⟩ := Zn5 h2
  cases U with
  | nil => have := (hU a).2 (by simp); simp at this
  | cons u U =>
   obtain ⟨h3a, h3b⟩ := Zn5 h3
   have him : i ≠ m.length := by simp at hm; omega
   have hiq : i ≠ q.length := by simp at hq; omega
   have hua : u = a ∨ blt u a = true := by
    rcases List.mem_cons.1 ((hU a).2 (by simp)) with h | h
    ·exact .inl h.symm
    ·exact .inr (h3a a h)
   have hub : u = b ∨ blt u b = true := by
    rcases List.mem_cons.1 ((hU b).2 (by simp)) with h | h
    ·exact .inl h.symm
    ·exact .inr (h3a b h)
   have hu := (hU u).1 (by simp)
   have none_m : ∀ k, k ∉ a :: r → k ∈ u :: U → lkJ m k = none := by
    intro k hk hkU
    cases h : lkJ m k with
    | none => rfl
    | some x =>
     have := (hv k hkU (unJ x)).2 ⟨x, h, rfl⟩
     exact absurd (List.of_mem_zip (a := k) (b := unJ x) (Zdk this)).1 hk
   have none_q : ∀ k, k ∉ b :: r' → k ∈ u :: U → lkJ q k = none := by
    intro k hk hkU
    cases h : lkJ q k with
    | none => rfl
    | some x =>
     have := (hv' k hkU (unJ x)).2 ⟨x, h, rfl⟩
     exact absurd (List.of_mem_zip (a := k) (b := unJ x) (Zdk this)).1 hk
   have hcmp : Zdr (a :: r) (z :: l) (b :: r') (z' :: l') = if Zed a b ≠ 0 then Zed a b else if Zgs z z' ≠ 0 then Zgs z z' else Zdr r l r' l' := by simp only [Zdr]
   rw [hcmp]
   simp only [Zjp]
   cases hab : blt a b with
   | true =>
    have e : u = a := by
     rcases hu with h | h
     ·rcases List.mem_cons.1 h with h | h
      ·exact h
      ·rcases hua with e | e
       ·exact e
       ·have := h1a u h; rw [Zfn this] at e; cases e
     ·exfalso
      have hbu : blt a u = true := by
       rcases List.mem_cons.1 h with h | h
       ·rw [h]; exact hab
       ·exact Zb6 hab (h2a u h)
      rcases hua with e | e
      ·rw [e, Za8] at hbu; cases hbu
      ·rw [Zfn hbu] at e; cases e
    subst e
    obtain ⟨x, hx, _⟩ := (hv u (by simp) z).1 (by simp [Zcw])
    have hn := none_q u (fun h => by
     rcases List.mem_cons.1 h with h | h
     ·rw [h, Za8] at hab; cases hab
     ·have := Zb6 hab (h2a u h); rw [Za8] at this; cases this) (by simp)
    have e : Zfd Zdb m q i u = -1 := by unfold Zfd; rw [if_neg him, if_neg hiq, hx, hn]
    rw [Yk7 hab, if_pos (by decide), e, if_neg (by decide)]
   | false =>
    cases hba : blt b a with
    | true =>
     have e : u = b := by
      rcases hu with h | h
      ·exfalso
       have hbu : blt b u = true := by
        rcases List.mem_cons.1 h with h | h
        ·rw [h]; exact hba
        ·exact Zb6 hba (h1a u h)
       rcases hub with e | e
       ·rw [e, Za8] at hbu; cases hbu
       ·rw [Zfn hbu] at e; cases e
      ·rcases List.mem_cons.1 h with h | h
       ·exact h
       ·rcases hub with e | e
        ·exact e
        ·have := h2a u h; rw [Zfn this] at e; cases e
     subst e
     have hn := none_m u (fun h => by
      rcases List.mem_cons.1 h with h | h
      ·rw [h, Za8] at hba; cases hba
      ·have := Zb6 hba (h1a u h); rw [Za8] at this; cases this) (by simp)
     have e : Zfd Zdb m q i u = 1 := by unfold Zfd; rw [if_neg him, if_neg hiq, hn]
     rw [Yk6 hba, if_pos (by decide), e, if_neg (by decide)]
    | false =>
     have e0 : a = b := Zgb hab hba
     subst e0
     have e : u = a := by
      rcases hua with e | e
      ·exact e
      ·exfalso
       rcases hu with h | h
       ·rcases List.mem_cons.1 h with h | h
        ·rw [h, Za8] at e; cases e
        ·have := h1a u h; rw [Zfn this] at e; cases e
       ·rcases List.mem_cons.1 h with h | h
        ·rw [h, Za8] at e; cases e
        ·have := h2a u h; rw [Zfn this] at e; cases e
     subst e
     obtain ⟨x, hx, ex⟩ := (hv u (by simp) z).1 (by simp [Zcw])
     obtain ⟨y, hy, ey⟩ := (hv' u (by simp) z').1 (by simp [Zcw])
     have e : Zfd Zdb m q i u = Zdb x y := by unfold Zfd; rw [if_neg him, if_neg hiq, hx, hy]
     have e2 : Zgs z z' = Zdb x y := by rw [← ex, ← ey]; exact ih u x y hx hy
     rw [Ycg, if_neg (by simp), e, e2]
     by_cases hc : Zdb x y = 0
     ·rw [if_neg (by simp [hc]), if_pos hc]
      have hne : ∀ k ∈ U, u ≠ k := fun k hk e => by have := h3a k hk; rw [← e, Za8] at this; cases this
      refine Ych r l r' l' U (i + 1) m q h1b h2b h3b (fun k => ⟨fun hk => ?_, fun hk => ?_⟩) (by simpa using hl) (by simpa using hl') (by simp at hm; omega) (by simp at hq; omega) (fun k hk w => ?_) (fun k hk w => ?_) ih
      ·rcases (hU k).1 (by simp [hk]) with h | h
       ·rcases List.mem_cons.1 h with h | h
        ·exact absurd h.symm (hne k hk)
        ·exact .inl h
       ·rcases List.mem_cons.1 h with h | h
        ·exact absurd h.symm (hne k hk)
        ·exact .inr h
      ·have hmem : k ∈ u :: U := (hU k).2 (hk.imp (by simp_all) (by simp_all))
       rcases List.mem_cons.1 hmem with h | h
       ·exfalso
        subst h
        rcases hk with hk | hk
        ·have := h1a k hk; rw [Za8] at this; cases this
        ·have := h2a k hk; rw [Za8] at this; cases this
       ·exact h
      ·have := hv k (by simp [hk]) w
       simp only [List.zip_cons_cons, Zcw, if_neg (hne k hk)] at this
       exact this
      ·have := hv' k (by simp [hk]) w
       simp only [List.zip_cons_cons, Zcw, if_neg (hne k hk)] at this
       exact this
     ·rw [if_pos hc, if_neg hc]
theorem Zxt : ∀ (b a : List JV), (∀ y ∈ b, ∀ x, JOk x → JOk y → Zgs (unJ x) (unJ y) = Zdb x y) → Zpg a → Zpg b → Zfo (Zhn a) (Zhn b) = Zgd Zdb a b
 | [], [], _, _, _ => by simp only [Zhn, Zfo, Zgd]; rfl
 | [], x :: a, _, _, _ => by
  simp only [Zhn, Zfo, Zgd]
  unfold Zcg
  first | (simp; done) | (simp; omega)
 | y :: b, [], _, _, _ => by
  simp only [Zhn, Zfo, Zgd]
  unfold Zcg
  first | (simp; done) | (simp; omega)
 | y :: b, x :: a, ih, ha, hb => by
  simp only [Zpg] at ha hb
  simp only [Zhn, Zfo, Zgd]
  rw [ih y (by simp) x ha.1 hb.1, Zxt b a (fun z hz => ih z (by simp [hz])) ha.2 hb.2]
  by_cases h : Zdb x y = 0
  ·rw [if_neg (by simp [h]), if_pos h]
  ·rw [if_pos h, if_neg h]
theorem Ye8 (j : JV) : Zcz (unJ j) = (Zk9 j : Int) := by
 cases j
 case map m =>
  obtain ⟨ks, l, e, _⟩ := Zbx m gMap Zbe
  rw [show unJ (.map m) = unM m gMap by unfold unJ; rfl, e]; rfl
 all_goals (unfold unJ; rfl)
theorem Ycf {x y : GV} (h : Zcg (Zcz x) (Zcz y) ≠ 0) : Zgs x y = Zcg (Zcz x) (Zcz y) := by
 cases x; cases y
 simp only [Zgs]
 rw [if_pos h]
theorem Yb8 {j k : JV} (h : Zk9 j ≠ Zk9 k) : Zdb j k = if Zk9 j < Zk9 k then -1 else 1 := by
 cases j <;> cases k <;> first | exact absurd rfl h | (unfold Zdb; rfl) | (simp only [Zdb])
theorem Zkh {k n : Int} {f : Nat} {s : ByteArray} {ks : List ByteArray} {l : List GV} {k' n' : Int} {f' : Nat} {s' : ByteArray} {ks' : List ByteArray} {l' : List GV} (r : Int) (h : Zcz (.mk k n f s ks l) = r) (h' : Zcz (.mk k' n' f' s' ks' l') = r) :
  Zgs (.mk k n f s ks l) (.mk k' n' f' s' ks' l') = if r = 0 then (if k = 2 ∧ k' = 2 then Zcg n n' else Znp (asF (.mk k n f s ks l)) (asF (.mk k' n' f' s' ks' l'))) else if r = 1 then Zed s s' else if r = 2 then Zcg n n' else if r = 3 then Zfo l l' else if r = 4 then Zdr ks l ks' l' else 0 := by
 simp only [Zgs]
 rw [h, h', if_neg (by unfold Zcg; simp)]
theorem Zid : ∀ (k j : JV), JOk j → JOk k → Zgs (unJ j) (unJ k) = Zdb j k := by
 intro k
 induction hk : SizeOf.sizeOf k using Nat.strongRecOn generalizing k with
 | _ n IH =>
 subst hk
 intro j hj hok
 by_cases hr : Zk9 j = Zk9 k
 rotate_left
 ·have h1 := Ye8 j
  have h2 := Ye8 k
  have h3 : Zcg (Zcz (unJ j)) (Zcz (unJ k)) = if Zk9 j < Zk9 k then -1 else 1 := by
   rw [h1, h2]
   unfold Zcg
   by_cases h : Zk9 j < Zk9 k
   ·rw [if_pos (by omega), if_pos h]
   ·rw [if_neg (by omega), if_pos (by omega), if_neg h]
  rw [Yb8 hr, ← h3]
  exact Ycf (by rw [h3]; split <;> decide)
 cases j <;> cases k <;> first | (exfalso; simp [Zk9] at hr; done) | skip
 case null.null => rw [show unJ .null = .mk 0 0 0 ByteArray.empty [] [] by unfold unJ; rfl, Zkh 5 rfl rfl]; unfold Zdb; rfl
 case bool.bool a b => rw [show unJ (.bool a) = .mk 1 (if a then 1 else 0) 0 ByteArray.empty [] [] by unfold unJ; rfl, show unJ (.bool b) = .mk 1 (if b then 1 else 0) 0 ByteArray.empty [] [] by unfold unJ; rfl, Zkh 2 rfl rfl]; unfold Zdb; cases a <;> cases b <;> rfl
 case int.int a b => rw [show unJ (.int a) = .mk 2 a 0 ByteArray.empty [] [] by unfold unJ; rfl, show unJ (.int b) = .mk 2 b 0 ByteArray.empty [] [] by unfold unJ; rfl, Zkh 0 rfl rfl, if_pos rfl, if_pos ⟨rfl, rfl⟩]; unfold Zdb; rfl
 case int.flt a b => rw [show unJ (.int a) = .mk 2 a 0 ByteArray.empty [] [] by unfold unJ; rfl, show unJ (.flt b) = .mk 3 0 b ByteArray.empty [] [] by unfold unJ; rfl, Zkh 0 rfl rfl, if_pos rfl, if_neg (by decide), Zrf]; unfold Zdb; rfl
 case flt.int a b => rw [show unJ (.int b) = .mk 2 b 0 ByteArray.empty [] [] by unfold unJ; rfl, show unJ (.flt a) = .mk 3 0 a ByteArray.empty [] [] by unfold unJ; rfl, Zkh 0 rfl rfl, if_pos rfl, if_neg (by decide), Zrf]; unfold Zdb; rfl
 case flt.flt a b => rw [show unJ (.flt a) = .mk 3 0 a ByteArray.empty [] [] by unfold unJ; rfl, show unJ (.flt b) = .mk 3 0 b ByteArray.empty [] [] by unfold unJ; rfl, Zkh 0 rfl rfl, if_pos rfl, if_neg (by decide), Zrf]; unfold Zdb; rfl
 case str.str a b => rw [show unJ (.str a) = .mk 4 0 0 a [] [] by unfold unJ; rfl, show unJ (.str b) = .mk 4 0 0 b [] [] by unfold unJ; rfl, Zkh 1 rfl rfl]; unfold Zdb; rfl
 case list.list a b =>
  unfold JOk at hj hok
  rw [show unJ (.list a) = .mk 5 0 0 ByteArray.empty [] (Zhn a) by unfold unJ; rfl, show unJ (.list b) = .mk 5 0 0 ByteArray.empty [] (Zhn b) by unfold unJ; rfl, Zkh 3 rfl rfl, Ztb]
  show Zfo (Zhn a) (Zhn b) = _
  exact Zxt b a (fun y hy x hx hy' => IH (SizeOf.sizeOf y) (by have := List.sizeOf_lt_of_mem hy; simp; omega) y rfl x hx hy') hj.2 hok.2
 case map.map m q =>
  unfold JOk at hj hok
  obtain ⟨ks, l, e1, hi, hl, hk, hg⟩ := Zjb hj.1
  obtain ⟨ks', l', e2, hi', hl', hk', hg'⟩ := Zjb hok.1
  rw [show unJ (.map m) = unM m gMap by unfold unJ; rfl, show unJ (.map q) = unM q gMap by unfold unJ; rfl, e1, e2, Zkh 4 rfl rfl, Zxm]
  show Zdr ks l ks' l' = _
  have len : ∀ {m : List (ByteArray × JV)} {ks : List ByteArray}, (m.map (·.1)).Nodup → Zf0 ks → (∀ k, k ∈ ks ↔ k ∈ m.map (·.1)) → ks.length = m.length := by
   intro m ks hm hi hk
   have h1 := Ze1 (Zwe hi) (fun x hx => (hk x).1 hx)
   have h2 := Ze1 hm (fun x hx => (hk x).2 hx)
   simp only [List.length_map] at h1 h2
   omega
  have n1 := len hj.1 hi hk
  have n2 := len hok.1 hi' hk'
  have hz : ∀ {m : List (ByteArray × JV)} {ks : List ByteArray} {l : List GV}, ks.length = l.length → Zf0 ks → (∀ k x, (∃ i : Nat, ks[i]? = some k ∧ l[i]? = some x) ↔ ∃ j, Zcw m k = some j ∧ unJ j = x) → ∀ k z, Zcw (ks.zip l) k = some z ↔ ∃ x, lkJ m k = some x ∧ unJ x = z := fun hl hi hg k z => by
   rw [Ygd hl hi, hg, Zhu]
  have main := Ych ks l ks' l' (Zld m q) 0 m q hi hi' (Zpa m q) (fun k => by rw [Zqx, hk, hk']) hl hl' (by omega) (by omega) (fun k _ z => hz hl hi hg k z) (fun k _ z => hz hl' hi' hg' k z) (fun k x y hx hy => by
   rw [Zhu] at hx hy
   have hy' := Zdk hy
   refine IH (SizeOf.sizeOf y) ?_ y rfl x (Zff hj.2.2 _ (Zdk hx)) (Zff hok.2.2 _ hy')
   have := List.sizeOf_lt_of_mem hy'
   simp at this ⊢
   omega)
  unfold Ycb
  by_cases h0 : m.length = 0 ∧ q.length = 0
  ·rw [if_pos h0]
   have e3 : ks = [] := List.eq_nil_of_length_eq_zero (by omega)
   have e4 : ks' = [] := List.eq_nil_of_length_eq_zero (by omega)
   subst e3 e4
   simp only [Zdr]; rfl
  ·rw [if_neg h0]; exact main
end Go.Proofs.YtgmahieoiifpfaaGreat
end
section
namespace Go.Proofs.YtgmahieoiifpfaaGreat
theorem Zdc {k n : Int} {f : Nat} {s : ByteArray} {ks : List ByteArray} {l : List GV} {k' n' : Int} {f' : Nat} {s' : ByteArray} {ks' : List ByteArray} {l' : List GV} (h : (Zcy (.mk k n f s ks l) && Zcy (.mk k' n' f' s' ks' l')) = false) :
  eqP (.mk k n f s ks l) (.mk k' n' f' s' ks' l') = (decide (k = k') && (decide (n = n') && (decide (s = s') && (decide (ks = ks') && Zjt l l')))) := by
 unfold eqP; rw [if_neg (by rw [h]; simp)]
theorem Ycz : ∀ (b a : List JV), (∀ y ∈ b, ∀ x, JOk x → JOk y → eqP (unJ x) (unJ y) = eqJ x y) → Zpg a → Zpg b → Zjt (Zhn a) (Zhn b) = Zm2 a b
 | [], [], _, _, _ => by simp only [Zhn, Zjt, Zm2]
 | [], _ :: _, _, _, _ => by simp only [Zhn, Zjt, Zm2]
 | _ :: _, [], _, _, _ => by simp only [Zhn, Zjt, Zm2]
 | y :: b, x :: a, ih, ha, hb => by
  simp only [Zpg] at ha hb
  simp only [Zhn, Zjt, Zm2]
  rw [ih y (by simp) x ha.1 hb.1, Ycz b a (fun z hz => ih z (by simp [hz])) ha.2 hb.2]
theorem Zx5 (m : List (ByteArray × JV)) : ∀ q : List (ByteArray × JV), Ycx m q = true ↔ ∀ y ∈ q, ∃ x, Zcw m y.1 = some x ∧ eqJ x y.2 = true
 | [] => by simp [Ycx]
 | y :: q => by
  unfold Ycx
  rw [Bool.and_eq_true, Zx5 m q, Zhu]
  constructor
  ·rintro ⟨h1, h2⟩ z hz
   rcases List.mem_cons.1 hz with rfl | hz
   ·cases hg : Zcw m z.1 with
    | none => rw [hg] at h1; cases h1
    | some x => rw [hg] at h1; exact ⟨x, rfl, h1⟩
   ·exact h2 z hz
  ·intro h
   obtain ⟨x, hx, he⟩ := h y (by simp)
   exact ⟨by rw [hx]; exact he, fun z hz => h z (by simp [hz])⟩
theorem Ypb (m q : List (ByteArray × JV)) (ih : ∀ y ∈ q, ∀ x, JOk x → JOk y.2 → eqP (unJ x) (unJ y.2) = eqJ x y.2) (hm : JOk (.map m)) (hq : JOk (.map q)) : eqP (unJ (.map m)) (unJ (.map q)) = eqJ (.map m) (.map q) := by
 unfold JOk at hm hq
 obtain ⟨ks, l, e1, hi, hl, hk, hg⟩ := Zjb hm.1
 obtain ⟨ks', l', e2, hi', hl', hk', hg'⟩ := Zjb hq.1
 have hJm : ∀ {k j}, Zcw m k = some j → JOk j := fun h => Zff hm.2.2 _ (Zdk h)
 have hJq : ∀ {k j}, Zcw q k = some j → JOk j := fun h => Zff hq.2.2 _ (Zdk h)
 rw [show unJ (.map m) = unM m gMap by unfold unJ; rfl, show unJ (.map q) = unM q gMap by unfold unJ; rfl, e1, e2, Zdc (by simp [Zcy, GV.kind]), show eqJ (.map m) (.map q) = (Nat.beq m.length q.length && Ycx m q) by unfold eqJ; rfl]
 simp only [decide_true, Bool.true_and]
 rw [Bool.eq_iff_iff]
 simp only [Bool.and_eq_true, decide_eq_true_eq, Zx5]
 constructor
 ·rintro ⟨rfl, h2⟩
  have hmm : ∀ k, k ∈ m.map (·.1) ↔ k ∈ q.map (·.1) := fun k => (hk k).symm.trans (hk' k)
  have l1 := Ze1 hm.1 (fun x hx => (hmm x).1 hx)
  have l2 := Ze1 hq.1 (fun x hx => (hmm x).2 hx)
  simp only [List.length_map] at l1 l2
  refine ⟨by rw [show m.length = q.length by omega]; simp, fun y hy => ?_⟩
  have hgy := Zgg hq.1 (show (y.1, y.2) ∈ q from hy)
  obtain ⟨i, h3, h4⟩ := (hg' y.1 (unJ y.2)).2 ⟨y.2, hgy, rfl⟩
  have hlt := (List.getElem?_eq_some_iff.1 h3).1
  have h5 : l[i]? = some l[i] := List.getElem?_eq_getElem (hl ▸ hlt)
  obtain ⟨x, h6, h7⟩ := (hg y.1 l[i]).1 ⟨i, h3, h5⟩
  refine ⟨x, h6, ?_⟩
  rw [← ih y hy x (hJm h6) (hJq hgy), h7]
  exact Yhj h2 i _ _ h5 h4
 ·rintro ⟨h1, h2⟩
  have hlen := Nat.eq_of_beq_eq_true h1
  have hsub : ∀ k ∈ q.map (·.1), k ∈ m.map (·.1) := fun k hk => by
   obtain ⟨y, hy, rfl⟩ := List.mem_map.1 hk
   obtain ⟨x, hx, _⟩ := h2 y hy
   exact List.mem_map_of_mem (f := (·.1)) (Zdk hx)
  have hsub' := Yd6 hq.1 hsub (by simp [hlen])
  have ek : ks = ks' := Zrv hi hi' fun k => (hk k).trans ⟨fun h => (hk' k).2 (hsub' k h), fun h => hsub k ((hk' k).1 h)⟩
  subst ek
  refine ⟨rfl, Ztq (by omega) fun i x y hx hy => ?_⟩
  have hlt : i < ks.length := by rw [hl]; exact (List.getElem?_eq_some_iff.1 hx).1
  have hki : ks[i]? = some ks[i] := List.getElem?_eq_getElem hlt
  obtain ⟨x0, h3, rfl⟩ := (hg ks[i] x).1 ⟨i, hki, hx⟩
  obtain ⟨y0, h4, rfl⟩ := (hg' ks[i] y).1 ⟨i, hki, hy⟩
  obtain ⟨x1, h5, h6⟩ := h2 (ks[i], y0) (Zdk h4)
  have h5 : Zcw m ks[i] = some x1 := h5
  rw [h3] at h5
  cases h5
  rw [ih (ks[i], y0) (Zdk h4) x0 (hJm h3) (hJq h4)]
  exact h6
theorem Ycy : ∀ (k j : JV), JOk j → JOk k → eqP (unJ j) (unJ k) = eqJ j k
 | .list b, .list a, ha, hb => by
  unfold JOk at ha hb
  rw [show unJ (.list a) = .mk 5 0 0 ByteArray.empty [] (Zhn a) by unfold unJ; rfl, show unJ (.list b) = .mk 5 0 0 ByteArray.empty [] (Zhn b) by unfold unJ; rfl, Zdc (by simp [Zcy, GV.kind]), show eqJ (.list a) (.list b) = Zm2 a b by unfold eqJ; rfl]
  simp only [decide_true, Bool.true_and]
  exact Ycz b a (fun y hy x hx hy' => Ycy y x hx hy') ha.2 hb.2
 | .map q, .map m, ha, hb => Ypb m q (fun y hy x hx hy' => Ycy y.2 x hx hy') ha hb
 | .null, j, _, _ => by
  cases j <;> simp only [unJ, Zdd, gv, eqJ]
  case map => rename_i m _h; obtain ⟨ks, l, e, _⟩ := Zbx m gMap Zbe; rw [e, Zdc (by simp [Zcy, GV.kind])]; simp
  all_goals (rw [Zdc (by simp [Zcy, GV.kind])]; simp [Zjt])
 | .bool b, j, _, _ => by
  cases j <;> simp only [unJ, Zdd, gv, eqJ]
  case map => rename_i m _h; obtain ⟨ks, l, e, _⟩ := Zbx m gMap Zbe; rw [e, Zdc (by simp [Zcy, GV.kind])]; simp
  case bool => rename_i a _h; rw [Zdc (by simp [Zcy, GV.kind])]; cases a <;> cases b <;> simp [Zjt]
  all_goals (rw [Zdc (by simp [Zcy, GV.kind])]; simp [Zjt])
 | .int n, j, _, _ => by
  cases j <;> simp only [unJ, Zdd, gv, eqJ]
  case map => rename_i m _h; obtain ⟨ks, l, e, _⟩ := Zbx m gMap Zbe; rw [e, Zdc (by simp [Zcy, GV.kind])]; simp
  case int => simp [eqP, Zcy, GV.kind]
  case flt => simp [eqP, Zcy, GV.kind, asF, GV.n, GV.f]
  all_goals (rw [Zdc (by simp [Zcy, GV.kind])]; simp [Zjt])
 | .flt n, j, _, _ => by
  cases j <;> simp only [unJ, Zdd, gv, eqJ]
  case map => rename_i m _h; obtain ⟨ks, l, e, _⟩ := Zbx m gMap Zbe; rw [e, Zdc (by simp [Zcy, GV.kind])]; simp
  case int => simp [eqP, Zcy, GV.kind, asF, GV.n, GV.f]
  case flt => simp [eqP, Zcy, GV.kind, asF, GV.n, GV.f]
  all_goals (rw [Zdc (by simp [Zcy, GV.kind])]; simp [Zjt])
 | .str n, j, _, _ => by
  cases j <;> simp only [unJ, Zdd, gv, eqJ]
  case map => rename_i m _h; obtain ⟨ks, l, e, _⟩ := Zbx m gMap Zbe; rw [e, Zdc (by simp [Zcy, GV.kind])]; simp
  all_goals (rw [Zdc (by simp [Zcy, GV.kind])]; simp [Zjt])
 | .list b, .null, _, _ => by simp only [unJ, Zdd, gv, eqJ]; rw [Zdc (by simp [Zcy, GV.kind])]; simp
 | .list b, .bool _, _, _ => by simp only [unJ, Zdd, gv, eqJ]; rw [Zdc (by simp [Zcy, GV.kind])]; simp
 | .list b, .int _, _, _ => by simp only [unJ, Zdd, gv, eqJ]; rw [Zdc (by simp [Zcy, GV.kind])]; simp
 | .list b, .flt _, _, _ => by simp only [unJ, Zdd, gv, eqJ]; rw [Zdc (by simp [Zcy, GV.kind])]; simp
 | .list b, .str _, _, _ => by simp only [unJ, Zdd, gv, eqJ]; rw [Zdc (by simp [Zcy, GV.kind])]; simp
 | .list b, .map m, _, _ => by simp only [unJ, Zdd, gv, eqJ]; obtain ⟨ks, l, e, _⟩ := Zbx m gMap Zbe; rw [e, Zdc (by simp [Zcy, GV.kind])]; simp
 | .map q, .null, _, _ => by simp only [unJ, Zdd, gv, eqJ]; obtain ⟨ks, l, e, _⟩ := Zbx q gMap Zbe; rw [e, Zdc (by simp [Zcy, GV.kind])]; simp
 | .map q, .bool _, _, _ => by simp only [unJ, Zdd, gv, eqJ]; obtain ⟨ks, l, e, _⟩ := Zbx q gMap Zbe; rw [e, Zdc (by simp [Zcy, GV.kind])]; simp
 | .map q, .int _, _, _ => by simp only [unJ, Zdd, gv, eqJ]; obtain ⟨ks, l, e, _⟩ := Zbx q gMap Zbe; rw [e, Zdc (by simp [Zcy, GV.kind])]; simp
 | .map q, .flt _, _, _ => by simp only [unJ, Zdd, gv, eqJ]; obtain ⟨ks, l, e, _⟩ := Zbx q gMap Zbe; rw [e, Zdc (by simp [Zcy, GV.kind])]; simp
 | .map q, .str _, _, _ => by simp only [unJ, Zdd, gv, eqJ]; obtain ⟨ks, l, e, _⟩ := Zbx q gMap Zbe; rw [e, Zdc (by simp [Zcy, GV.kind])]; simp
 | .map q, .list _, _, _ => by simp only [unJ, Zdd, gv, eqJ]; obtain ⟨ks, l, e, _⟩ := Zbx q gMap Zbe; rw [e, Zdc (by simp [Zcy, GV.kind])]; simp
termination_by k => SizeOf.sizeOf k
decreasing_by
 all_goals simp_wf
 ·have := List.sizeOf_lt_of_mem hy; omega
 ·have := List.sizeOf_lt_of_mem hy
  obtain ⟨y1, y2⟩ := y
  simp at this ⊢
  omega
end Go.Proofs.YtgmahieoiifpfaaGreat
end
section
namespace Go.Proofs.YtgmahieoiifpfaaGreat
section
variable {α β : Type}
def Zcj (c : α → α → Int) : List α → List α → Int
 | [], [] => 0
 | [], _ :: _ => -1
 | _ :: _, [] => 1
 | x :: r, y :: q => lx (c x y) (Zcj c r q)
theorem Zb3 (c : α → α → Int) (x y : α) (r q : List α) : Zcj c (x :: r) (y :: q) = lx (c x y) (Zcj c r q) := rfl
theorem Yfi {c : α → α → Int} : ∀ {a b : List α}, (∀ x ∈ a, ∀ y ∈ b, rng (c x y)) → rng (Zcj c a b)
 | [], [], _ => .inr (.inl rfl)
 | [], _ :: _, _ => .inl rfl
 | _ :: _, [], _ => .inr (.inr rfl)
 | x :: r, y :: q, h => Zg0 (h x (by simp) y (by simp)) (Yfi fun u hu v hv => h u (by simp [hu]) v (by simp [hv]))
theorem Yf2 {c : α → α → Int} : ∀ {a b : List α}, (∀ x ∈ a, ∀ y ∈ b, c y x = - c x y) → Zcj c b a = - Zcj c a b
 | [], [], _ => rfl
 | [], _ :: _, _ => rfl
 | _ :: _, [], _ => rfl
 | x :: r, y :: q, h => by
  rw [Zb3, Zb3, h x (by simp) y (by simp), Yf2 (a := r) (b := q) fun u hu v hv => h u (by simp [hu]) v (by simp [hv]), Zky]
theorem Yq1 {c : α → α → Int} {P : α → Prop} (T : ∀ x y z, P x → P y → P z → Tri (c x y) (c y z) (c x z)) : ∀ (a b d : List α), (∀ x ∈ a, P x) → (∀ x ∈ b, P x) → (∀ x ∈ d, P x) → Tri (Zcj c a b) (Zcj c b d) (Zcj c a d) := by
 have R : ∀ (a b : List α), (∀ x ∈ a, P x) → (∀ x ∈ b, P x) → rng (Zcj c a b) := fun a b ha hb => Yfi fun x hx y hy => (T x y y (ha x hx) (hb y hy) (hb y hy)).rp
 intro a
 induction a with
 | nil =>
  intro b d ha hb hd
  have h2 := R b d hb hd
  cases b with
  | nil =>
   have e : Zcj c [] ([] : List α) = 0 := rfl
   have h3 := R [] d ha hd
   unfold rng at h2 h3
   rw [e]
   exact ⟨by omega, h3, h3, by omega, by omega, by omega, by omega⟩
  | cons y q =>
   have e : Zcj c [] (y :: q) = -1 := rfl
   unfold rng at h2
   cases d with
   | nil =>
    have e2 : Zcj c [] ([] : List α) = 0 := rfl
    have e3 : Zcj c (y :: q) ([] : List α) = 1 := rfl
    rw [e, e2, e3]
    exact ⟨by omega, by omega, by omega, by omega, by omega, by omega, by omega⟩
   | cons z t =>
    have e2 : Zcj c [] (z :: t) = -1 := rfl
    rw [e, e2]
    exact ⟨by omega, h2, by omega, by omega, by omega, by omega, by omega⟩
 | cons x r ih =>
  intro b d ha hb hd
  cases b with
  | nil =>
   have e : Zcj c (x :: r) ([] : List α) = 1 := rfl
   have h2 := R [] d hb hd
   have h3 := R (x :: r) d ha hd
   unfold rng at h2 h3
   rw [e]
   cases d with
   | nil =>
    have e2 : Zcj c ([] : List α) [] = 0 := rfl
    rw [e, e2]
    exact ⟨by omega, by omega, by omega, by omega, by omega, by omega, by omega⟩
   | cons z t =>
    have e2 : Zcj c [] (z :: t) = -1 := rfl
    rw [e2]
    exact ⟨by omega, by omega, h3, by omega, by omega, by omega, by omega⟩
  | cons y q =>
   cases d with
   | nil =>
    have e2 : Zcj c (x :: r) ([] : List α) = 1 := rfl
    have e3 : Zcj c (y :: q) ([] : List α) = 1 := rfl
    have h1 := R (x :: r) (y :: q) ha hb
    unfold rng at h1
    rw [e2, e3]
    exact ⟨h1, by omega, by omega, by omega, by omega, by omega, by omega⟩
   | cons z t =>
    have ha' : ∀ u ∈ r, P u := fun u hu => ha u (by simp [hu])
    have hb' : ∀ u ∈ q, P u := fun u hu => hb u (by simp [hu])
    have hd' : ∀ u ∈ t, P u := fun u hu => hd u (by simp [hu])
    rw [Zb3, Zb3, Zb3]
    exact Zjk (T x y z (ha x (by simp)) (hb y (by simp)) (hd z (by simp))) (R r q ha' hb') (R q t hb' hd') (R r t ha' hd') (fun _ _ => ih q t ha' hb' hd')
theorem cmpLx_zero {c : α → α → Int} : ∀ {a b : List α}, Zcj c a b = 0 ↔ a.length = b.length ∧ ∀ (i : Nat) (x y : α), a[i]? = some x → b[i]? = some y → c x y = 0
 | [], [] => by simp [Zcj]
 | [], _ :: _ => by simp [Zcj]
 | _ :: _, [] => by simp [Zcj]
 | x :: r, y :: q => by
  rw [Zb3, Zeq, cmpLx_zero (a := r) (b := q)]
  constructor
  ·rintro ⟨h, h2, h3⟩
   refine ⟨by simp [h2], fun i u v hu hv => ?_⟩
   cases i with
   | zero => simp at hu hv; subst hu hv; exact h
   | succ i => exact h3 i u v (by simpa using hu) (by simpa using hv)
  ·rintro ⟨h2, h3⟩
   exact ⟨h3 0 x y rfl rfl, by simpa using h2, fun i u v hu hv => h3 (i + 1) u v (by simpa using hu) (by simpa using hv)⟩
theorem Zte {c : α → α → Int} {c' : β → β → Int} (f : β → α) : ∀ {a b : List β}, (∀ x ∈ a, ∀ y ∈ b, c (f x) (f y) = c' x y) → Zcj c (a.map f) (b.map f) = Zcj c' a b
 | [], [], _ => rfl
 | [], _ :: _, _ => rfl
 | _ :: _, [], _ => rfl
 | x :: r, y :: q, h => by
  rw [List.map_cons, List.map_cons, Zb3, Zb3, h x (by simp) y (by simp), Zte f fun u hu v hv => h u (by simp [hu]) v (by simp [hv])]
theorem Zlj {c : α → α → Int} : ∀ (k : Nat) {a b : List α}, k ≤ a.length → k ≤ b.length → (∀ (i : Nat) (x y : α), i < k → a[i]? = some x → b[i]? = some y → c x y = 0) → Zcj c a b = Zcj c (a.drop k) (b.drop k)
 | 0, a, b, _, _, _ => by simp
 | k + 1, [], _, h, _, _ => by simp at h
 | k + 1, _ :: _, [], _, h, _ => by simp at h
 | k + 1, x :: r, y :: q, h1, h2, h => by
  rw [Zb3, Zc8 (h 0 x y (by omega) rfl rfl), Zlj k (by simpa using h1) (by simpa using h2) (fun i u v hi hu hv => h (i + 1) u v (by omega) (by simpa using hu) (by simpa using hv))]
  rfl
theorem Zxq {c : α → α → Int} {k : Nat} {a b : List α} {x y : α} (h : ∀ (i : Nat) (x y : α), i < k → a[i]? = some x → b[i]? = some y → c x y = 0) (hx : a[k]? = some x) (hy : b[k]? = some y) (hn : c x y ≠ 0) : Zcj c a b = c x y := by
 have h1 := (List.getElem?_eq_some_iff.1 hx).1
 have h2 := (List.getElem?_eq_some_iff.1 hy).1
 rw [Zlj k (by omega) (by omega) h, List.drop_eq_getElem_cons h1, List.drop_eq_getElem_cons h2, Zb3]
 have e1 := (List.getElem?_eq_some_iff.1 hx).2
 have e2 := (List.getElem?_eq_some_iff.1 hy).2
 rw [e1, e2, Zgm hn]
theorem Yca {c : α → α → Int} {k : Nat} {a b : List α} (h1 : k ≤ a.length) (h2 : k ≤ b.length) (h : ∀ (i : Nat) (x y : α), i < k → a[i]? = some x → b[i]? = some y → c x y = 0) (hk : k = a.length ∨ k = b.length) : Zcj c a b = Zcg a.length b.length := by
 rw [Zlj k h1 h2 h]
 rcases hk with hk | hk
 ·rw [hk, List.drop_length]
  cases hb : b.drop a.length with
  | nil =>
   have := congrArg List.length hb
   simp at this
   rw [cmpI_zero.2 (by omega)]; rfl
  | cons y q =>
   have := congrArg List.length hb
   simp at this
   rw [Zgc (by omega)]; rfl
 ·rw [hk, List.drop_length]
  cases ha : a.drop b.length with
  | nil =>
   have := congrArg List.length ha
   simp at this
   rw [cmpI_zero.2 (by omega)]; rfl
  | cons y q =>
   have := congrArg List.length ha
   simp at this
   rw [Ze5 (by omega)]; rfl
def Zll (e : α → α → Bool) : List α → List α → Bool
 | [], [] => true
 | x :: r, y :: q => e x y && Zll e r q
 | _, _ => false
theorem eqLx_iff {e : α → α → Bool} : ∀ {a b : List α}, Zll e a b = true ↔ a.length = b.length ∧ ∀ (i : Nat) (x y : α), a[i]? = some x → b[i]? = some y → e x y = true
 | [], [] => by simp [Zll]
 | [], _ :: _ => by simp [Zll]
 | _ :: _, [] => by simp [Zll]
 | x :: r, y :: q => by
  rw [show Zll e (x :: r) (y :: q) = (e x y && Zll e r q) from rfl, Bool.and_eq_true, eqLx_iff (a := r) (b := q)]
  constructor
  ·rintro ⟨h, h2, h3⟩
   refine ⟨by simp [h2], fun i u v hu hv => ?_⟩
   cases i with
   | zero => simp at hu hv; subst hu hv; exact h
   | succ i => exact h3 i u v (by simpa using hu) (by simpa using hv)
  ·rintro ⟨h2, h3⟩
   exact ⟨h3 0 x y rfl rfl, by simpa using h2, fun i u v hu hv => h3 (i + 1) u v (by simpa using hu) (by simpa using hv)⟩
theorem Zx9 {e : α → α → Bool} {a b : List α} (h : a.length ≠ b.length) : Zll e a b = false := Bool.eq_false_iff.2 fun h' => h (eqLx_iff.1 h').1
theorem Zv6 {e : α → α → Bool} {a b : List α} {i : Nat} {x y : α} (hx : a[i]? = some x) (hy : b[i]? = some y) (h : e x y = false) : Zll e a b = false := Bool.eq_false_iff.2 fun h' => by rw [(eqLx_iff.1 h').2 i x y hx hy] at h; cases h
theorem Zx7 {e : α → α → Bool} {a b : List α} (hl : a.length = b.length) (h : ∀ (i : Nat) (x y : α), a[i]? = some x → b[i]? = some y → e x y = true) : Zll e a b = true := eqLx_iff.2 ⟨hl, h⟩
theorem Zx8 {e : α → α → Bool} {c : α → α → Int} {a b : List α} (h : ∀ x ∈ a, ∀ y ∈ b, e x y = true ↔ c x y = 0) : Zll e a b = true ↔ Zcj c a b = 0 := by
 rw [eqLx_iff, cmpLx_zero]
 constructor
 ·rintro ⟨h1, h2⟩
  exact ⟨h1, fun i x y hx hy => (h x (List.mem_of_getElem? hx) y (List.mem_of_getElem? hy)).1 (h2 i x y hx hy)⟩
 ·rintro ⟨h1, h2⟩
  exact ⟨h1, fun i x y hx hy => (h x (List.mem_of_getElem? hx) y (List.mem_of_getElem? hy)).2 (h2 i x y hx hy)⟩
end
def OJ (j : JV) : Prop := JOk j ∧ OG (unJ j)
theorem Yq0 {x y z : JV} (hx : OJ x) (hy : OJ y) (hz : OJ z) : Tri (Zdb x y) (Zdb y z) (Zdb x z) := by
 rw [← Zid _ _ hx.1 hy.1, ← Zid _ _ hy.1 hz.1, ← Zid _ _ hx.1 hz.1]
 exact Yr8 _ _ _ hx.2 hy.2 hz.2
theorem Yfh {x y : JV} (hx : JOk x) (hy : JOk y) : rng (Zdb x y) := by
 rw [← Zid _ _ hx hy]
 exact Zir _ _
theorem Ykj {x y : JV} (hx : JOk x) (hy : JOk y) : Zdb y x = - Zdb x y := by
 rw [← Zid _ _ hx hy, ← Zid _ _ hy hx]
 exact Yql _ _
theorem Ycw {x y : JV} (hx : OJ x) (hy : OJ y) : eqJ x y = true ↔ Zdb x y = 0 := by
 rw [← Zid _ _ hx.1 hy.1, ← Ycy _ _ hx.1 hy.1]
 exact Ylr _ _ hx.2 hy.2
def Zhp (f g : ByteArray × JV) : Int := lx (Zed f.1 g.1) (Zdb f.2 g.2)
def Yhe (f g : ByteArray × JV) : Bool := decide (f.1 = g.1) && eqJ f.2 g.2
def Yi3 : PEV → Int
 | .name _ => 0
 | .key _ => 1
 | .val _ => 2
 | .idx _ => 3
def Znl : PEV → PEV → Int
 | .name a, .name b => Zed a b
 | .key a, .key b => Zcj Zhp a b
 | .val a, .val b => Zdb a b
 | .idx a, .idx b => Zcg a b
 | _, _ => 0
def Zae (p q : PEV) : Int := lx (Zcg (Yi3 p) (Yi3 q)) (Znl p q)
def Zi1 : PEV → PEV → Bool
 | .name a, .name b => decide (a = b)
 | .key a, .key b => Zll Yhe a b
 | .val a, .val b => eqJ a b
 | .idx a, .idx b => decide (a = b)
 | _, _ => false
def JPE : PEV → Prop
 | .key fl => ∀ f ∈ fl, JOk f.2
 | .val j => JOk j
 | _ => True
def OPE : PEV → Prop
 | .key fl => ∀ f ∈ fl, OJ f.2
 | .val j => OJ j
 | _ => True
theorem OPE.j {p : PEV} (h : OPE p) : JPE p := by
 cases p with
 | key fl => exact fun f hf => (h f hf).1
 | val j => exact h.1
 | _ => trivial
theorem Yqi {f g : ByteArray × JV} (h : JOk f.2) (h' : JOk g.2) : rng (Zhp f g) := Zg0 (Zhy _ _) (Yfh h h')
theorem Yqz {f g k : ByteArray × JV} (hf : OJ f.2) (hg : OJ g.2) (hk : OJ k.2) : Tri (Zhp f g) (Zhp g k) (Zhp f k) :=
 Zjk (Zne _ _ _) (Yfh hf.1 hg.1) (Yfh hg.1 hk.1) (Yfh hf.1 hk.1) (fun _ _ => Yq0 hf hg hk)
theorem Zj2 {p q : PEV} (hp : JPE p) (hq : JPE q) : rng (Znl p q) := by
 cases p <;> cases q <;> first
  | exact .inr (.inl rfl)
  | exact Zhy _ _
  | exact Zc1 _ _
  | exact Yfh hp hq
  | exact Yfi fun x hx y hy => Yqi (hp x hx) (hq y hy)
theorem Yq2 {p q r : PEV} (hp : OPE p) (hq : OPE q) (hr : OPE r) : Tri (Zae p q) (Zae q r) (Zae p r) := by
 refine Zjk (Zel _ _ _) (Zj2 hp.j hq.j) (Zj2 hq.j hr.j) (Zj2 hp.j hr.j) (fun h1 h2 => ?_)
 rw [cmpI_zero] at h1 h2
 cases p <;> cases q <;> first | (exfalso; revert h1; simp [Yi3]; done) | skip
 all_goals cases r <;> first | (exfalso; revert h2; simp [Yi3]; done) | skip
 ·exact Zne _ _ _
 ·exact Yq1 (P := fun f : ByteArray × JV => OJ f.2) (fun x y z => Yqz) _ _ _ hp hq hr
 ·exact Yq0 hp hq hr
 ·exact Zel _ _ _
theorem Yno {p q : PEV} (hp : JPE p) (hq : JPE q) : Zae q p = - Zae p q := by
 unfold Zae
 have h : Znl q p = - Znl p q := by
  cases p <;> cases q <;> first
   | rfl
   | exact Zge _ _
   | exact Zda _ _
   | exact Ykj hp hq
   | exact Yf2 fun x hx y hy => by unfold Zhp; rw [Zge x.1, Ykj (hp x hx) (hq y hy), Zky]
 rw [h, Zda (Yi3 p), Zky]
theorem Yhh {p q : PEV} (hp : OPE p) (hq : OPE q) : Zi1 p q = true ↔ Zae p q = 0 := by
 unfold Zae
 rw [Zeq, cmpI_zero]
 cases p <;> cases q <;> first
  | (simp [Zi1, Yi3, Znl]; done)
  | skip
 ·simp [Zi1, Yi3, Znl, cmpS_zero]
 ·show Zll Yhe _ _ = true ↔ _ ∧ Zcj Zhp _ _ = 0
  rw [Zx8 (c := Zhp) fun x hx y hy => ?_]
  ·exact ⟨fun h => ⟨rfl, h⟩, fun h => h.2⟩
  ·unfold Yhe Zhp
   rw [Zeq, Bool.and_eq_true, decide_eq_true_eq, cmpS_zero, Ycw (hp x hx) (hq y hy)]
 ·show eqJ _ _ = true ↔ _ ∧ Zdb _ _ = 0
  rw [Ycw hp hq]
  exact ⟨fun h => ⟨rfl, h⟩, fun h => h.2⟩
 ·simp [Zi1, Yi3, Znl, cmpI_zero]
end Go.Proofs.YtgmahieoiifpfaaGreat
end
namespace Go.Proofs.YtgmahieoiifpfaaGreat
open Go.RowKit
def Zec (f : ByteArray × JV) : PD := .agg [.val (.string f.1), dvV f.2]
def Ybn (fl : List (ByteArray × JV)) : PD := .sl 2 32 (fl.map Zec)
def Zav : PEV → PD
 | .name s => .agg [.ptr (.val (.string s)), Zlf, Zlf, Zlf]
 | .key fl => .agg [Zlf, .ptr (Ybn fl), Zlf, Zlf]
 | .val j => .agg [Zlf, Zlf, .ptr (dvV j), Zlf]
 | .idx n => .agg [Zlf, Zlf, Zlf, .ptr (.val (.int .i64 n))]
theorem Zxb {x : EV} (h : Fits (pdE x)) : JPE (Zbg x) := by
 obtain ⟨w0, F0, v0, h0⟩ := h
 obtain ⟨ak, ck, a, c, c0, c1, c2, c3, c4, c5, e, h1, h2, h3, hk, h5, h6, hl, hv⟩ := Yne h0
 unfold Zbg
 by_cases k1 : x.kind = 1
 ·rw [if_pos k1]
  intro f hf
  unfold flE at hf
  have hm := (List.of_mem_zip hf).2
  obtain ⟨y, hy, ey⟩ := List.mem_map.1 hm
  rw [← ey]
  refine Zm9 y ?_
  rcases hl with hl | ⟨b, o, hb, ha, hvs⟩
  ·rw [hl] at hy; cases hy
  ·obtain ⟨i, hi⟩ := List.getElem?_of_mem hy
   obtain ⟨u, hu, _⟩ := (Zkt _ hvs).at_ (Zlz hi)
   exact IsV.gok y (Zsj y hu)
 ·rw [if_neg k1]
  by_cases k2 : x.kind = 2
  ·rw [if_pos k2]; exact Zm9 x.v (IsV.gok x.v hv)
  ·rw [if_neg k2]
   by_cases k3 : x.kind = 3
   ·rw [if_pos k3]; trivial
   ·rw [if_neg k3]; trivial
theorem Zv9 (a b : List (ByteArray × JV)) : PCall Tryz.prog 212 [Ybn a, Ybn b] (.val (.int .i64 (Zcj Zhp a b))) := by
 refine Zbf fun hfit => ?_
 unfold Ybn at hfit ⊢
 have b1 := (hfit (.sl 2 32 (a.map Zec)) (by simp)).sl.2.1
 clear hfit
 have la : (a.map Zec).length = a.length := by simp
 have lb : (b.map Zec).length = b.length := by simp
 have ga : ∀ {i : Nat} {f : ByteArray × JV}, a[i]? = some f → (a.map Zec)[((i : Nat) : Int).toNat]? = some (Zec f) := fun h => by simp [h]
 have gb : ∀ {i : Nat} {f : ByteArray × JV}, b[i]? = some f → (b.map Zec)[((i : Nat) : Int).toNat]? = some (Zec f) := fun h => by simp [h]
 rw [la] at b1
 generalize a.map Zec = da at *
 generalize b.map Zec = db at *
 refine Zaa Tryz.func212 rfl Tryz.ntmps212 rfl (fun X => ?_)
 refine wk ?_
 refine Zaq (ι := { j : Nat // (j ≤ a.length ∧ j ≤ b.length) ∧ ∀ i x y, i < j → a[i]? = some x → b[i]? = some y → Zhp x y = 0 })
  (fun j => [(0, .dat (.sl 2 32 da)), (1, .dat (.sl 2 32 db)), (5, .dat (.val (.int .i64 (j.1 : Nat))))])
  (fun _ => []) (fun j => a.length - j.1) ⟨0, ⟨Nat.zero_le _, Nat.zero_le _⟩, fun i _ _ h => absurd h (Nat.not_lt_zero i)⟩ id ?_ ?_
 ·exact sb
 rintro ⟨j, ⟨hj, hj'⟩, hall⟩
 have hend : j = a.length ∨ j = b.length → Zcj Zhp a b = Zcg a.length b.length := fun h => Yca hj hj' hall h
 by_cases hlt : j < a.length
 ·have g1 : decide (((da.length : Nat) : Int) ≤ (j : Int)) = false := decide_eq_false (by omega)
  by_cases hlt' : j < b.length
  ·have g2 : decide (((db.length : Nat) : Int) ≤ (j : Int)) = false := decide_eq_false (by omega)
   obtain ⟨x, hx⟩ : ∃ x, a[j]? = some x := ⟨_, List.getElem?_eq_getElem hlt⟩
   obtain ⟨y, hy⟩ : ∃ y, b[j]? = some y := ⟨_, List.getElem?_eq_getElem hlt'⟩
   have i1 := ga hx
   have i2 := gb hy
   have c1 := Zd9 x.1 y.1
   have c2 := Ztf x.2 y.2
   by_cases hs : Zed x.1 y.1 = 0
   ·have g3 : decide (Zed x.1 y.1 ≠ 0) = false := decide_eq_false (by simp [hs])
    by_cases hv : Zdb x.2 y.2 = 0
    ·have g4 : decide (Zdb x.2 y.2 ≠ 0) = false := decide_eq_false (by simp [hv])
     refine wk ?_
     refine Zah ?_
     refine ⟨⟨j + 1, ⟨by omega, by omega⟩, fun i x' y' hi hx' hy' => ?_⟩, id, by simp only; omega, ?_⟩
     ·by_cases e : i = j
      ·subst e
       rw [hx] at hx'; rw [hy] at hy'
       cases hx'; cases hy'
       unfold Zhp
       rw [Zc8 hs, hv]
      ·exact hall i x' y' (by omega) hx' hy'
     exact sb
    ·have g4 : decide (Zdb x.2 y.2 ≠ 0) = true := decide_eq_true hv
     have e : Zhp x y = Zdb x.2 y.2 := by unfold Zhp; rw [Zc8 hs]
     rw [Zxq hall hx hy (by rw [e]; exact hv), e]
     exact wke
   ·have g3 : decide (Zed x.1 y.1 ≠ 0) = true := decide_eq_true hs
    have e : Zhp x y = Zed x.1 y.1 := by unfold Zhp; rw [Zgm hs]
    rw [Zxq hall hx hy (by rw [e]; exact hs), e]
    exact wke
  ·have g2 : decide (((db.length : Nat) : Int) ≤ (j : Int)) = true := decide_eq_true (by omega)
   rw [hend (.inr (by omega)), Ze5 (by omega)]
   exact wke
 ·have g1 : decide (((da.length : Nat) : Int) ≤ (j : Int)) = true := decide_eq_true (by omega)
  by_cases hlt' : j < b.length
  ·have g2 : decide (((db.length : Nat) : Int) ≤ (j : Int)) = false := decide_eq_false (by omega)
   rw [hend (.inl (by omega)), Zgc (by omega)]
   exact wke
  ·have g2 : decide (((db.length : Nat) : Int) ≤ (j : Int)) = true := decide_eq_true (by omega)
   rw [hend (.inl (by omega)), cmpI_zero.2 (by omega)]
   exact wke
theorem Yaf (a b : List (ByteArray × JV)) : PCall Tryz.prog 241 [Ybn a, Ybn b] (.val (.bool (Zll Yhe a b))) := by
 refine Zbf fun hfit => ?_
 unfold Ybn at hfit ⊢
 have b1 := (hfit (.sl 2 32 (a.map Zec)) (by simp)).sl.2.1
 clear hfit
 have la : (a.map Zec).length = a.length := by simp
 have lb : (b.map Zec).length = b.length := by simp
 have ga : ∀ {i : Nat} {f : ByteArray × JV}, a[i]? = some f → (a.map Zec)[((i : Nat) : Int).toNat]? = some (Zec f) := fun h => by simp [h]
 have gb : ∀ {i : Nat} {f : ByteArray × JV}, b[i]? = some f → (b.map Zec)[((i : Nat) : Int).toNat]? = some (Zec f) := fun h => by simp [h]
 rw [la] at b1
 generalize a.map Zec = da at *
 generalize b.map Zec = db at *
 refine Zaa Tryz.func241 rfl Tryz.ntmps241 rfl (fun X => ?_)
 by_cases hl : a.length = b.length
 rotate_left
 ·have g1 : decide (((da.length : Nat) : Int) ≠ ((db.length : Nat) : Int)) = true := decide_eq_true (by omega)
  rw [Zx9 hl]
  exact wke
 have g1 : decide (((da.length : Nat) : Int) ≠ ((db.length : Nat) : Int)) = false := decide_eq_false (by omega)
 refine wk ?_
 refine Zaq (ι := { j : Nat // j ≤ a.length ∧ ∀ i x y, i < j → a[i]? = some x → b[i]? = some y → Yhe x y = true })
  (fun j => [(0, .dat (.sl 2 32 da)), (1, .dat (.sl 2 32 db)), (12, .dat (.val (.int .i64 ((da.length : Nat) : Int)))), (13, .dat (.val (.int .i64 (j.1 : Nat))))])
  (fun _ => []) (fun j => a.length - j.1) ⟨0, Nat.zero_le _, fun i _ _ h => absurd h (Nat.not_lt_zero i)⟩ id ?_ ?_
 ·exact sb
 rintro ⟨j, hj, hall⟩
 by_cases hlt : j < a.length
 ·have g2 : decide ((j : Int) < ((da.length : Nat) : Int)) = true := decide_eq_true (by omega)
  obtain ⟨x, hx⟩ : ∃ x, a[j]? = some x := ⟨_, List.getElem?_eq_getElem hlt⟩
  obtain ⟨y, hy⟩ : ∃ y, b[j]? = some y := ⟨_, List.getElem?_eq_getElem (by omega)⟩
  have i1 := ga hx
  have i2 := gb hy
  have c2 := Zyb x.2 y.2
  by_cases hs : x.1 = y.1
  ·have g3 : decide (x.1 ≠ y.1) = false := decide_eq_false (by simp [hs])
   have g3' : (!decide (x.1 = y.1)) = false := by simp [hs]
   cases hv : eqJ x.2 y.2 with
   | true =>
    rw [hv] at c2
    refine wk ?_
    refine Zah ?_
    refine ⟨⟨j + 1, by omega, fun i x' y' hi hx' hy' => ?_⟩, id, by simp only; omega, ?_⟩
    ·by_cases e : i = j
     ·subst e
      rw [hx] at hx'; rw [hy] at hy'
      cases hx'; cases hy'
      unfold Yhe
      rw [hv]; simp [hs]
     ·exact hall i x' y' (by omega) hx' hy'
    exact sb
   | false =>
    rw [hv] at c2
    rw [Zv6 hx hy (by unfold Yhe; rw [hv]; simp)]
    exact wke
  ·have g3 : decide (x.1 ≠ y.1) = true := decide_eq_true hs
   have g3' : (!decide (x.1 = y.1)) = true := by simp [hs]
   rw [Zv6 hx hy (by unfold Yhe; simp [hs])]
   exact wke
 ·have g2 : decide ((j : Int) < ((da.length : Nat) : Int)) = false := decide_eq_false (by omega)
  rw [Zx7 hl (fun i x y hx hy => hall i x y (by have := (List.getElem?_eq_some_iff.1 hx).1; omega) hx hy)]
  exact wke
theorem Zgn (p q : PEV) : PCall Tryz.prog 160 [Zav p, Zav q] (.val (.int .i64 (Zae p q))) := by
 cases p with
 | name a =>
  cases q with
  | name b =>
   have c1 := Zd9 a b
   have e : Zae (.name a) (.name b) = Zed a b := rfl
   rw [e]
   unfold Zav
   refine Zaa Tryz.func160 rfl Tryz.ntmps160 rfl (fun X => ?_)
   exact wke
  | _ =>
   refine Zaa Tryz.func160 rfl Tryz.ntmps160 rfl (fun X => ?_)
   unfold Zav
   exact wke
 | key a =>
  cases q with
  | key b =>
   have c1 := Zv9 a b
   have e : Zae (.key a) (.key b) = Zcj Zhp a b := rfl
   rw [e]
   unfold Zav
   refine Zaa Tryz.func160 rfl Tryz.ntmps160 rfl (fun X => ?_)
   exact wke
  | _ =>
   refine Zaa Tryz.func160 rfl Tryz.ntmps160 rfl (fun X => ?_)
   unfold Zav
   exact wke
 | val a =>
  cases q with
  | val b =>
   have c1 := Ztf a b
   have e : Zae (.val a) (.val b) = Zdb a b := rfl
   rw [e]
   unfold Zav
   refine Zaa Tryz.func160 rfl Tryz.ntmps160 rfl (fun X => ?_)
   exact wke
  | _ =>
   refine Zaa Tryz.func160 rfl Tryz.ntmps160 rfl (fun X => ?_)
   unfold Zav
   exact wke
 | idx a =>
  cases q with
  | idx b =>
   have e : Zae (.idx a) (.idx b) = Zcg a b := rfl
   rw [e]
   unfold Zav
   refine Zaa Tryz.func160 rfl Tryz.ntmps160 rfl (fun X => ?_)
   by_cases h1 : a < b
   ·have g1 : decide (a < b) = true := decide_eq_true h1
    rw [Zgc h1]
    exact wke
   ·have g1 : decide (a < b) = false := decide_eq_false h1
    by_cases h2 : a = b
    ·have g2 : decide (a = b) = true := decide_eq_true h2
     rw [cmpI_zero.2 h2]
     exact wke
    ·have g2 : decide (a = b) = false := decide_eq_false h2
     rw [Ze5 (by omega)]
     exact wke
  | _ =>
   refine Zaa Tryz.func160 rfl Tryz.ntmps160 rfl (fun X => ?_)
   unfold Zav
   exact wke
theorem Zqp (p q : PEV) : PCall Tryz.prog 220 [Zav p, Zav q] (.val (.bool (Zi1 p q))) := by
 cases p with
 | name a =>
  cases q with
  | name b =>
   have e : Zi1 (.name a) (.name b) = decide (a = b) := rfl
   rw [e]
   unfold Zav
   refine Zaa Tryz.func220 rfl Tryz.ntmps220 rfl (fun X => ?_)
   exact wke
  | _ =>
   refine Zaa Tryz.func220 rfl Tryz.ntmps220 rfl (fun X => ?_)
   unfold Zav
   exact wke
 | key a =>
  cases q with
  | key b =>
   have c1 := Yaf a b
   have e : Zi1 (.key a) (.key b) = Zll Yhe a b := rfl
   rw [e]
   unfold Zav
   refine Zaa Tryz.func220 rfl Tryz.ntmps220 rfl (fun X => ?_)
   exact wke
  | _ =>
   refine Zaa Tryz.func220 rfl Tryz.ntmps220 rfl (fun X => ?_)
   unfold Zav
   exact wke
 | val a =>
  cases q with
  | val b =>
   have c1 := Zyb a b
   have e : Zi1 (.val a) (.val b) = eqJ a b := rfl
   rw [e]
   unfold Zav
   refine Zaa Tryz.func220 rfl Tryz.ntmps220 rfl (fun X => ?_)
   exact wke
  | _ =>
   refine Zaa Tryz.func220 rfl Tryz.ntmps220 rfl (fun X => ?_)
   unfold Zav
   exact wke
 | idx a =>
  cases q with
  | idx b =>
   have e : Zi1 (.idx a) (.idx b) = decide (a = b) := rfl
   rw [e]
   unfold Zav
   refine Zaa Tryz.func220 rfl Tryz.ntmps220 rfl (fun X => ?_)
   exact wke
  | _ =>
   refine Zaa Tryz.func220 rfl Tryz.ntmps220 rfl (fun X => ?_)
   unfold Zav
   exact wke
theorem Zdo (p q : PEV) : PCall Tryz.prog 210 [Zav p, Zav q] (.val (.bool (decide (Zae p q < 0)))) := by
 have c1 := Zgn p q
 generalize Zae p q = c at *
 refine Zaa Tryz.func210 rfl Tryz.ntmps210 rfl (fun X => ?_)
 cases p <;> cases q
 all_goals
  unfold Zav at *
  exact wke
theorem Zwv (l : List GV) (w : World) (a1 : Option Addr) (c1 : Nat) (hl88 : l.length * 88 ≤ 140737488351232) (hl : l = [] ∨ ∃ b o, Btw 0 w.heap.size b ∧ a1 = some ⟨b, o, none⟩ ∧ IsVs w (Btw 0 w.heap.size) l b o) :
  Calls Tryz.prog 94 #[.slice a1 l.length c1] w fun e w' => e = .returned (.bool (Zmh l)) ∧ Below w.heap.size w w' := by
 go_enter Tryz.func94, Tryz.ntmps94
 go_wp2_with fail
 go_loopw [7] (fun i wr => ∃ k : Nat, k ≤ l.length ∧ i = .int .i64 (k : Nat) ∧ Below w.heap.size w wr ∧ ∀ y ∈ l.take k, Zje y = true) (fun i _ => l.length - (intOf i).toNat)
 case atStart => exact ⟨0, Nat.zero_le _, rfl, Below.refl _ _, by simp⟩
 case round =>
  obtain ⟨k, hk, rfl, hB, hall⟩ := hrel
  by_cases hlt : k < l.length
  ·obtain ⟨b, o, hb, rfl, hcells⟩ := Zw3 hl (by omega)
   obtain ⟨y, hy⟩ : ∃ y, l[k]? = some y := ⟨l[k], by simp [hlt]⟩
   obtain ⟨e0, f0, e1, f1, g0, g1, g2, g3, g4, g5, hyv⟩ := (IsVs.keep (S' := Btw 0 wr.heap.size) (Btw.kept hB) (Btw.mono (Nat.le_refl _) hB.size) l b o hb hcells).cells hy
   have hc := Zww y
   have hyA := hyv.alloc_ (.cells #[.int .i64 y.kind, .int .i64 y.n, .float .f64 y.f, .string y.s, .slice e0 y.keys.length f0, .slice e1 y.l.length f1] 27)
   have HY := Lib.hid (And.intro hy (And.intro hall hB))
   have j0 : (0 : Int) ≤ (k : Int) := by omega
   have j1 : (k : Int) < (l.length : Int) := by omega
   have hs := hB.size
   clear hy hall hB hcells hyv
   go_wp2_with (go_at_call 93; (with_reducible refine (hc.use _ _ ?_).mono ?_))
   ·simpa using hyA
   rintro e w2 ⟨rfl, hB2'⟩
   obtain ⟨hy, hall, hB⟩ := HY.out
   have hB2 : Below w.heap.size w w2 := (hB.alloc hs (.cells #[.int .i64 y.kind, .int .i64 y.n, .float .f64 y.f, .string y.s, .slice e0 y.keys.length f0, .slice e1 y.l.length f1] 27)).trans (hB2'.mono (by simp; omega))
   clear g0 g1 g2 g3 g4 g5 hyA hc HY hB2'
   cases ho : Zje y with
   | false =>
    have hf : Zmh l = false := by
     cases h : Zmh l with
     | false => rfl
     | true => rw [ordL_iff.1 h y (List.mem_of_getElem? hy)] at ho; cases ho
    go_wp2_with fail
    go_ret
    rw [hf]
    exact ⟨rfl, hB2⟩
   | true =>
    have HF := Lib.hid (show ∀ z ∈ l.take (k + 1), Zje z = true from fun z hz => by
     rw [List.take_add_one, hy] at hz
     rcases List.mem_append.1 hz with hz | hz
     ·exact hall z hz
     ·simp at hz; subst hz; exact ho)
    clear hall hy hB
    go_wp2_with fail
    go_roundw
    case rel => exact ⟨k + 1, hlt, by go_num, hB2, HF.out⟩
    case measure => simp [intOf]; omega
  ·have hkl : k = l.length := by omega
   subst hkl
   have ht : Zmh l = true := ordL_iff.2 (by rw [List.take_length] at hall; exact hall)
   have HT := Lib.hid ht
   clear ht hall
   go_wp2_with fail
   go_ret
   rw [HT.out]
   exact ⟨rfl, hB⟩
def rkE (x : EV) : Int := if x.kind = 1 then 1 else if x.kind = 2 then 2 else if x.kind = 3 then 3 else 0
def kvE (x : EV) : List (ByteArray × GV) := x.keys.zip x.l
def Yk5 (f g : ByteArray × GV) : Int := lx (Zed f.1 g.1) (Zgs (Za0 f.2) (Za0 g.2))
def Yrq (f g : ByteArray × GV) : Bool := decide (f.1 = g.1) && eqP (Za0 f.2) (Za0 g.2)
def Ygo (x y : EV) : Int := if rkE x = 1 then Zcj Yk5 (kvE x) (kvE y) else if rkE x = 2 then Zgs (Za0 x.v) (Za0 y.v) else if rkE x = 3 then Zcg x.n y.n else Zed x.s y.s
def Zh9 (x y : EV) : Int := lx (Zcg (rkE x) (rkE y)) (Ygo x y)
def eqE (x y : EV) : Bool := if rkE x ≠ rkE y then false else if rkE x = 1 then Zll Yrq (kvE x) (kvE y) else if rkE x = 2 then eqP (Za0 x.v) (Za0 y.v) else if rkE x = 3 then decide (x.n = y.n) else decide (x.s = y.s)
theorem Ziu (x : EV) : (x.kind = 1 ∧ rkE x = 1 ∧ Zbg x = .key (flE x)) ∨ (x.kind = 2 ∧ rkE x = 2 ∧ Zbg x = .val (Za5 x.v)) ∨ (x.kind = 3 ∧ rkE x = 3 ∧ Zbg x = .idx x.n) ∨ (x.kind ≠ 1 ∧ x.kind ≠ 2 ∧ x.kind ≠ 3 ∧ rkE x = 0 ∧ Zbg x = .name x.s) := by
 unfold rkE Zbg
 by_cases h1 : x.kind = 1
 ·simp [h1]
 ·by_cases h2 : x.kind = 2
  ·simp [h2]
  ·by_cases h3 : x.kind = 3
   ·simp [h3]
   ·simp [h1, h2, h3]
theorem Yqh (x : EV) : Yi3 (Zbg x) = rkE x := by
 rcases Ziu x with h | h | h | h
 ·rw [h.2.2, h.2.1]; rfl
 ·rw [h.2.2, h.2.1]; rfl
 ·rw [h.2.2, h.2.1]; rfl
 ·rw [h.2.2.2.2, h.2.2.2.1]; rfl
theorem Zrn (x : EV) : flE x = (kvE x).map fun f => (f.1, Za5 f.2) := by
 unfold flE kvE
 rw [List.zip_map_right]
 rfl
theorem Yd2 {x : EV} (h : JPE (Zbg x)) (hk : Zbg x = .key (flE x)) : ∀ f ∈ kvE x, JOk (Za5 f.2) := by
 rw [hk] at h
 intro f hf
 exact h (f.1, Za5 f.2) (by rw [Zrn]; exact List.mem_map.2 ⟨f, hf, rfl⟩)
theorem Yjx {a b : GV} (h1 : JOk (Za5 a)) (h2 : JOk (Za5 b)) : Zdb (Za5 a) (Za5 b) = Zgs (Za0 a) (Za0 b) := by
 rw [← Zid _ _ h1 h2, Zfl, Zfl]
theorem Ziy {x y : EV} (hx : JPE (Zbg x)) (hy : JPE (Zbg y)) : Zae (Zbg x) (Zbg y) = Zh9 x y := by
 unfold Zae Zh9
 rw [Yqh, Yqh]
 by_cases hr : rkE x = rkE y
 ·rw [Zc8 (cmpI_zero.2 hr), Zc8 (cmpI_zero.2 hr)]
  unfold Ygo
  rcases Ziu x with h | h | h | h <;> rcases Ziu y with h' | h' | h' | h' <;> first
   | (exfalso; omega)
   | skip
  ·rw [h.2.2, h'.2.2, if_pos h.2.1]
   show Zcj Zhp _ _ = _
   rw [Zrn, Zrn]
   exact Zte _ fun f hf g hg => by
    show lx _ (Zdb (Za5 f.2) (Za5 g.2)) = lx _ _
    rw [Yjx (Yd2 hx h.2.2 f hf) (Yd2 hy h'.2.2 g hg)]
  ·rw [h.2.2, h'.2.2, if_neg (by omega), if_pos h.2.1]
   rw [h.2.2] at hx
   rw [h'.2.2] at hy
   exact Yjx hx hy
  ·rw [h.2.2, h'.2.2, if_neg (by omega), if_neg (by omega), if_pos h.2.1]
   rfl
  ·rw [h.2.2.2.2, h'.2.2.2.2, if_neg (by omega), if_neg (by omega), if_neg (by omega)]
   rfl
 ·rw [Zgm (fun h => hr (cmpI_zero.1 h)), Zgm (fun h => hr (cmpI_zero.1 h))]
theorem Yon {x : EV} (h : JPE (Zbg x)) (h1 : Zje (Zbd x).v = true) (h2 : Zmh (Zbd x).l = true) : OPE (Zbg x) := by
 rcases Ziu x with k | k | k | k
 ·rw [k.2.2] at h ⊢
  intro f hf
  rw [Zrn] at hf
  obtain ⟨g, hg, rfl⟩ := List.mem_map.1 hf
  have hj : JOk (Za5 g.2) := Yd2 (by rw [k.2.2]; exact h) k.2.2 g hg
  refine ⟨hj, Yom _ hj ?_⟩
  rw [Zfl]
  rw [show (Zbd x).l = Zci (x.l.take (min x.keys.length x.l.length)) by unfold Zbd; rw [if_pos k.1]] at h2
  refine ordL_iff.1 h2 _ ?_
  unfold kvE at hg
  obtain ⟨i, hi⟩ := List.getElem?_of_mem hg
  rw [List.getElem?_zip_eq_some] at hi
  have b1 := (List.getElem?_eq_some_iff.1 hi.1).1
  have b2 := (List.getElem?_eq_some_iff.1 hi.2).1
  refine List.mem_of_getElem? (i := i) ?_
  rw [Zta, List.getElem?_take_of_lt (by omega), hi.2]
  rfl
 ·rw [k.2.2] at h ⊢
  refine ⟨h, Yom _ h ?_⟩
  rw [Zfl]
  rwa [show (Zbd x).v = Za0 x.v by unfold Zbd; rw [if_neg (by omega), if_pos k.1]] at h1
 ·rw [k.2.2]; trivial
 ·rw [k.2.2.2.2]; trivial
def Ynk (ks : List ByteArray) : List ByteArray := ks.foldr (fun k l => Zn7 l l k k) []
theorem Zo8 : ∀ ks : List ByteArray, Zf0 (Ynk ks)
 | [] => List.Pairwise.nil
 | k :: r => Zua (Zo8 r) k
theorem Ydi {α : Type} {ks : List ByteArray} {l : List α} {k : ByteArray} {x y : α} (h : y ∈ Zn7 ks l k x) : y = x ∨ y ∈ l := by
 unfold Zn7 at h
 simp only [List.mem_append, List.mem_cons, List.not_mem_nil, or_false] at h
 rcases h with (h | h) | h
 ·exact .inr (List.mem_of_mem_take h)
 ·exact .inl h
 ·exact .inr (List.mem_of_mem_drop h)
theorem Ydj {l : List ByteArray} {k x : ByteArray} : x ∈ Zn7 l l k k ↔ x = k ∨ x ∈ l := by
 constructor
 ·exact Ydi
 ·intro h
  unfold Zn7
  rcases h with rfl | h
  ·simp
  ·by_cases e : x = k
   ·subst e; simp
   ·rw [List.mem_append, List.mem_append]
    rw [← List.take_append_drop (lb l k) l, List.mem_append] at h
    rcases h with h | h
    ·exact .inl (.inl h)
    ·cases hh : Zf2 l k with
     | false => exact .inr (by simpa using h)
     | true =>
      unfold Zf2 at hh
      simp only [decide_eq_true_eq] at hh
      obtain ⟨h1, h2⟩ := List.getElem?_eq_some_iff.1 hh
      rw [List.drop_eq_getElem_cons h1, h2, List.mem_cons] at h
      rcases h with h | h
      ·exact absurd h e
      ·exact .inr h
theorem Zsx : ∀ (ks : List ByteArray) (x : ByteArray), x ∈ Ynk ks ↔ x ∈ ks
 | [], x => Iff.rfl
 | k :: r, x => by
  show x ∈ Zn7 (Ynk r) (Ynk r) k k ↔ _
  rw [Ydj, Zsx r x, List.mem_cons]
theorem Zlq {l : List ByteArray} (h : Zf0 l) : l.Nodup := List.Pairwise.imp (fun h e => by subst e; rw [Za8] at h; cases h) h
theorem Zvd (m : List (ByteArray × JV)) : PCall Tryz.prog 197 [Zih m] (.sl 1 16 (pdS (Ynk (m.map (·.1))))) := by
 refine PCall.ex fun w F vs hv => ?_
 obtain ⟨hm, hl⟩ : (m.map (·.1)).Nodup ∧ m.length * 88 ≤ 140737488351232 := by
  unfold Reps at hv
  obtain ⟨v, r, _, h, _⟩ := hv
  unfold Zih Rep at h
  obtain ⟨_, _, _, _, _, _, _, _, _, h⟩ := h
  unfold JOk at h
  exact ⟨h.1, h.2.1⟩
 clear hv
 refine Zaa Tryz.func197 rfl Tryz.ntmps197 rfl (fun X => ?_)
 refine wk ?_
 refine Ya5 3 100 9 1 16 rfl rfl ?_
 refine Zaq (ι := { q : List (ByteArray × JV) × List ByteArray // (q.1.map (·.1)).Nodup ∧ (∀ y ∈ q.1, y ∈ m) ∧ Zf0 q.2 ∧ (∀ k, k ∈ q.2 ↔ k ∈ q.1.map (·.1)) })
  (fun q => [(3, .own 100), (7, .own 7)])
  (fun q => [(7, .res (itR m q.1.1)), (100, .row 9 1 16 (pdS q.1.2))])
  (fun q => m.length - q.1.1.length) ⟨([], []), by simp, by simp, List.Pairwise.nil, by simp⟩ id ?_ ?_
 ·exact sb
 rintro ⟨⟨done, l⟩, hnd, hsub, hi, hmem⟩
 simp only at hnd hsub hi hmem ⊢
 have hlen : l.length = done.length := by
  have := ((List.perm_ext_iff_of_nodup (Zlq hi) hnd).2 hmem).length_eq
  simpa using this
 refine wk ?_
 refine Zr1 rfl rfl rfl (fun hev => ?_) (fun y hy hny => ?_)
 ·have e : l = Ynk (m.map (·.1)) := Zrv hi (Zo8 _) fun k => by
   rw [Zsx, hmem]
   exact (Zra hm hnd hsub hev).mem_iff
  rw [← e]
  refine Zay (fun _ => false) (fun k => k == 100) ?_
  exact wke
 ·have hml := Zr5 hnd hsub hy hny
  have hnk : y.1 ∉ l := fun h => hny ((hmem _).1 h)
  have n1 := Zdj l
  have hL : (pdS l ++ [PD.val (.string y.1)]).length = l.length + 1 := by simp [n1]
  have hz : ((l.length + 1 : Nat) : Int) - 1 = ((l.length : Nat) : Int) := by omega
  have hA : pdS l ++ [PD.val (.string y.1)] = pdS (Zfp l l.length y.1) := by rw [Ydh]; simp [pdS]
  refine wk ?_
  refine Zaq (ι := { i : Nat // i ≤ l.length ∧ ∀ x ∈ l.drop i, blt y.1 x = true })
   (fun i => [(3, .own 100), (5, .dat (.val (.int .i64 (i.1 : Nat)))), (7, .own 7)])
   (fun i => [(7, .res (itR m (done ++ [y]))), (100, .row 9 1 16 (pdS (Zfp l i.1 y.1)))])
   (fun i => i.1) ⟨l.length, Nat.le_refl _, by simp⟩ (fun j => if j = 100 then 15 else j) ?_ ?_
  ·rw [hL, hA]
   simp only [hz]
   exact sb
  rintro ⟨i, hil, hd⟩
  have hins := Zt8 l y.1 hil
  have n2 := Zdj (Zfp l i y.1)
  by_cases h0 : 0 < i
  ·have g1 : decide ((0 : Int) < (i : Int)) = true := decide_eq_true (by omega)
   obtain ⟨a, ha⟩ : ∃ a, l[i - 1]? = some a := ⟨_, List.getElem?_eq_getElem (by omega)⟩
   have q1 : (pdS (Zfp l i y.1))[i]? = some (.val (.string y.1)) := Zgz (Yht l y.1 hil)
   have q2 : (pdS (Zfp l i y.1))[i - 1]? = some (.val (.string a)) := Zgz (by
    have := Zt7 l y.1 (p := i - 1) (by omega)
    rw [show i - 1 + 1 = i by omega] at this
    rw [this, ha])
   have l1 : i < (pdS (Zfp l i y.1)).length := by omega
   have l2 : i - 1 < (pdS (Zfp l i y.1)).length := by omega
   have z1 : (i : Int) = ((i : Nat) : Int) := rfl
   have z2 : (i : Int) - 1 = ((i - 1 : Nat) : Int) := by omega
   cases hb : blt y.1 a with
   | true =>
    have e : ((pdS (Zfp l i y.1)).set i (.val (.string a))).set (i - 1) (.val (.string y.1)) = pdS (Zfp l (i - 1) y.1) := by
     have h1 := Yaj l y.1 a (p := i - 1) (by omega) ha
     rw [show i - 1 + 1 = i by omega] at h1
     rw [← h1]
     simp [pdS, List.map_set]
    refine wk ?_
    refine Zah ?_
    refine ⟨⟨i - 1, by omega, fun x hx => ?_⟩, id, by simp only; omega, ?_⟩
    ·have hdd : l.drop (i - 1) = a :: l.drop i := by
      rw [List.drop_eq_getElem_cons (by omega), show i - 1 + 1 = i by omega]
      congr 1
      exact (List.getElem?_eq_some_iff.1 ha).2
     rw [hdd] at hx
     rcases List.mem_cons.1 hx with rfl | hx
     ·exact hb
     ·exact hd x hx
    simp only [← e, ← z2]
    exact sb
   | false =>
    refine wk ?_
    refine Zah ?_
    refine ⟨⟨(done ++ [y], Zfp l i y.1), Zr6 hnd hny, Zm7 hsub hy, Zqa hi hd fun x hx => ?_, fun k => ?_⟩, id, by simp only [List.length_append, List.length_cons, List.length_nil]; omega, ?_⟩
    ·obtain ⟨j, hj⟩ := List.getElem?_of_mem hx
     have hji : j < i := by have := (List.getElem?_eq_some_iff.1 hj).1; simp at this; omega
     rw [List.getElem?_take, if_pos hji] at hj
     have hxl := List.mem_of_getElem? hj
     have h1 : blt x a = true ∨ x = a := by
      rcases Zn6 hi (show j ≤ i - 1 by omega) hj ha with h | h
      ·exact .inr h
      ·exact .inl h
     have h2 : blt a y.1 = true := by
      cases h3 : blt a y.1 with
      | true => rfl
      | false => exact absurd (Zgb h3 hb) fun e => hnk (e ▸ List.mem_of_getElem? ha)
     rcases h1 with h1 | rfl
     ·exact Zb6 h1 h2
     ·exact h2
    ·rw [Zt9, hmem, List.map_append, List.mem_append]
     simp [or_comm]
    exact sb
  ·obtain rfl : i = 0 := by omega
   have g1 : decide ((0 : Int) < ((0 : Nat) : Int)) = false := decide_eq_false (by omega)
   refine wk ?_
   refine Zah ?_
   refine ⟨⟨(done ++ [y], Zfp l 0 y.1), Zr6 hnd hny, Zm7 hsub hy, Zqa hi hd (by simp), fun k => ?_⟩, id, by simp only [List.length_append, List.length_cons, List.length_nil]; omega, ?_⟩
   ·rw [Zt9, hmem, List.map_append, List.mem_append]
    simp [or_comm]
   exact sb
section
variable {P : Program} {X : Base} {N : Nat} {Q : Exit → Act → World → Prop} {s s' : Sta} {w : World}
theorem Yfn {t kt et r cl : Nat} {es : Array MapEntry} {k : ByteArray} (hm : P.underlying t = some (.map kt et)) (hd : P.underlying kt = some .string)
  (hb : w.heap[r]? = some (.map es cl)) (hs : MapKept.Stamped es cl) (hks : ∀ x ∈ es.toList, MapKept.IsKey .string x.key) {e : MapEntry} (he : e ∈ es.toList) (hke : e.key = .string k) :
  (Instr.lookup t (.map (some r)) (.string k) false).run P w = .ok e.val w := by
 have hk : MapKept.IsKey .string (.string k) := trivial
 rcases MapKept.findNow_spec hk es.toList 0 hks with ⟨h1, h2⟩ | ⟨j, e', h1, h2, h3⟩
 ·exact absurd hke (h2 e he)
 ·obtain rfl : e' = e := Yd1 hs.2.2 (List.mem_of_getElem? h2) he (h3.trans hke.symm)
  simp [Instr.lookup, run_underlying hm, MapKept.run_getObj_map hb, MapKept.run_checkKey hd hk, MapKept.run_findKey hd h1, Result.andThen]
theorem Yet {o : Oper} (hd : Za7 X.N o.dst = true) {x y : Operand} {t : TypeId} (ho : o.op = .lookup t x y false) {kt et : Nat} (ht : MTI P t kt et) {m : List (ByteArray × JV)} {k : ByteArray} {j : JV} (hx : s.ev x = .dat (Zih m)) (hy : s.ev y = .dat (.val (.string k))) (hj : lkJ m k = some j) :
  OpS P X o s (s.put o.dst (.dat (pdJ j))) := by
 refine Zas hd fun a w ρ hc => ?_
 have h2 := hc.ev x
 rw [hx] at h2
 unfold VR Zih Rep at h2
 have h3 := hc.ev y
 rw [hy] at h3
 unfold VR Rep at h3
 obtain ⟨b, es, cl, e1, hb, hh, hs, hl, he, hok⟩ := h2
 rcases he.lk (k := k) with ⟨j', e, h4, h5, h6, h7, h8⟩ | ⟨h4, h5⟩
 ·rw [hj] at h4
  cases h4
  refine ⟨e.val, by simp [execOp, ho, e1, h3.1, Yfn (Zim ht.out) ht.str hh hs he.keys h5 h6], ?_⟩
  unfold VR pdJ Rep
  exact ⟨h7, Zff (by unfold JOk at hok; exact hok.2.2) _ h8⟩
 ·rw [hj] at h4; cases h4
theorem Yg6 {ops : List Oper} {d : Nat} {x y : Operand} {t kt et : Nat} {m : List (ByteArray × JV)} {k : ByteArray} {j : JV} (hN : Nat.blt d N = true) (hx : s.ev x = .dat (Zih m)) (hy : s.ev y = .dat (.val (.string k))) [ht : MTI P t kt et] (hj : lkJ m k = some j) :
  TrK P X N ops (some d) (.lookup t x y false) (Eff.put (some d) (.dat (pdJ j))) s (s.put (some d) (.dat (pdJ j))) := Zbq hN fun s' _ _ _ _ hd hev htb => Yet hd rfl ht ((hev _ (by simp [Op.operands])).trans hx) ((hev _ (by simp [Op.operands])).trans hy) hj
end
theorem Yj9 : ∀ {m : List (ByteArray × JV)} {k : ByteArray}, k ∈ m.map (·.1) → ∃ j, lkJ m k = some j ∧ Zcw m k = some j ∧ (k, j) ∈ m
 | [], k, h => by cases h
 | x :: r, k, h => by
  unfold lkJ Zcw
  by_cases e : x.1 = k
  ·rw [if_pos e, if_pos e]; exact ⟨_, rfl, rfl, by rw [← e]; simp⟩
  ·rw [if_neg e, if_neg e]
   rw [List.map_cons, List.mem_cons] at h
   obtain ⟨j, h1, h2, h3⟩ := Yj9 (h.resolve_left fun h => e h.symm)
   exact ⟨j, h1, h2, by simp [h3]⟩
theorem Yjk (l : List JV) : Zhn l = l.map unJ := by
 induction l with
 | nil => unfold Zhn; rfl
 | cons x r ih => unfold Zhn; rw [ih]; rfl
theorem Zj1 {f : FuncId} {j : JV} {r : PD} (h : PCall Tryz.prog f [dvX j] r) : PCall Tryz.prog f [pdJ j] r := h.le fun _ _ _ hv => Reps.cons1 (Yjz j) hv
theorem Ypg (b : Bool) : PCall Tryz.prog 134 [pdJ (.bool b)] (qV (unJ (.bool b))) := by
 refine Zj1 ?_
 unfold dvX unJ gv qV
 cases b
 all_goals
  refine Zaa Tryz.func134 rfl Tryz.ntmps134 rfl (fun X => ?_)
  exact wke
theorem Ypl : PCall Tryz.prog 134 [pdJ .null] (qV (unJ .null)) := by
 refine Zj1 ?_
 unfold dvX unJ Zdd qV
 refine Zaa Tryz.func134 rfl Tryz.ntmps134 rfl (fun X => ?_)
 exact wke
theorem Ypi (n : Int) : PCall Tryz.prog 134 [pdJ (.int n)] (qV (unJ (.int n))) := by
 refine Zj1 ?_
 unfold dvX unJ gv qV
 refine Zaa Tryz.func134 rfl Tryz.ntmps134 rfl (fun X => ?_)
 exact wke
theorem Yph (n : Nat) : PCall Tryz.prog 134 [pdJ (.flt n)] (qV (unJ (.flt n))) := by
 refine Zj1 ?_
 unfold dvX unJ gv qV
 refine Zaa Tryz.func134 rfl Tryz.ntmps134 rfl (fun X => ?_)
 exact wke
theorem Ypm (n : ByteArray) : PCall Tryz.prog 134 [pdJ (.str n)] (qV (unJ (.str n))) := by
 refine Zj1 ?_
 unfold dvX unJ gv qV
 refine Zaa Tryz.func134 rfl Tryz.ntmps134 rfl (fun X => ?_)
 exact wke
theorem Ypj (l : List JV) (ih : ∀ y ∈ l, PCall Tryz.prog 134 [pdJ y] (qV (unJ y))) : PCall Tryz.prog 134 [pdJ (.list l)] (qV (unJ (.list l))) := by
 refine PCall.ex fun w F vs hv => ?_
 have hl : l.length * 88 ≤ 140737488351232 := by
  unfold Reps at hv
  obtain ⟨v, r, _, h, _⟩ := hv
  unfold pdJ Rep at h
  have h := h.2
  unfold JOk at h
  exact h.1
 clear hv
 refine Zj1 ?_
 have e : unJ (.list l) = .mk 5 0 0 ByteArray.empty [] (Zhn l) := by unfold unJ; rfl
 rw [e]
 unfold dvX
 refine Zaa Tryz.func134 rfl Tryz.ntmps134 rfl (fun X => ?_)
 refine wk ?_
 refine Zca 8 5 100 27 6 88 rfl rfl rfl ?_
 refine Zaq (ι := { k : Nat // k ≤ l.length })
  (fun k => [(2, .ptr 2 0), (8, .ptr 8 0), (41, .dat (Zj4 l)), (42, .dat (.val (.int .i64 (l.length : Nat)))), (43, .dat (.val (.int .i64 (k.1 : Nat))))])
  (fun k => [(2, .box 27 (Zap (qV Zdd))), (8, .box 27 [.dat (.val (.int .i64 5)), .dat (.val (.int .i64 0)), .dat (.val (.float .f64 0)), .dat (.val (.string ⟨#[]⟩)), .dat (.val (.slice none 0 0)), .own 100]), (100, .row 27 6 88 ((l.take k.1).map fun x => qV (unJ x)))]) (fun k => l.length - k.1) ⟨0, Nat.zero_le _⟩ id ?_ ?_
 ·exact sb
 rintro ⟨k, hk⟩
 by_cases hlt : k < l.length
 ·have hc : decide ((k : Int) < ((l.length : Nat) : Int)) = true := decide_eq_true (by omega)
  obtain ⟨x, hx⟩ : ∃ x, l[k]? = some x := ⟨_, List.getElem?_eq_getElem hlt⟩
  have c := ih x (List.mem_of_getElem? hx)
  have hbt : (((l.take k).map fun x => qV (unJ x)).length + [qV (unJ x)].length) * 88 ≤ 140737488351232 := by simp; omega
  have hbl : ((l.take k).map fun x => qV (unJ x)).length + [qV (unJ x)].length ≤ 140737488351232 := by simp; omega
  have e : ((l.take (k + 1)).map fun x => qV (unJ x)) = ((l.take k).map fun x => qV (unJ x)) ++ [qV (unJ x)] := by simp [List.take_add_one, hx]
  generalize ((l.take k).map fun x => qV (unJ x)) = da at *
  unfold qV at *
  refine wk ?_
  refine Zah ?_
  refine ⟨⟨k + 1, by omega⟩, (fun j => if j = 100 then 52 else j), by simp only; omega, ?_⟩
  rw [e]
  exact sb
 ·have hc : decide ((k : Int) < ((l.length : Nat) : Int)) = false := decide_eq_false (by omega)
  have hkk : l.take k = l := List.take_of_length_le (by omega)
  simp only [hkk]
  refine wk ?_
  refine Zay (fun _ => false) (fun k => k == 100) ?_
  have e : Zds (Zhn l) = l.map fun x => qV (unJ x) := by rw [Zg6, Yjk, List.map_map]; exact List.map_congr_left fun x _ => Zsg _
  unfold qV
  simp only [GV.kind, GV.n, GV.f, GV.s, GV.keys, GV.l]
  rw [e]
  exact wke
theorem Ypk (m : List (ByteArray × JV)) (ih : ∀ y ∈ m, PCall Tryz.prog 134 [pdJ y.2] (qV (unJ y.2))) : PCall Tryz.prog 134 [pdJ (.map m)] (qV (unJ (.map m))) := by
 refine PCall.ex fun w F vs hv => ?_
 obtain ⟨hd, hl⟩ : (m.map (·.1)).Nodup ∧ m.length * 88 ≤ 140737488351232 := by
  unfold Reps at hv
  obtain ⟨v, r, _, h, _⟩ := hv
  unfold pdJ Rep at h
  have h := h.2
  unfold JOk at h
  exact ⟨h.1, h.2.1⟩
 clear hv
 refine Zj1 ?_
 have c0 := Zvd m
 have hi := Zo8 (m.map (·.1))
 have hm := Zsx (m.map (·.1))
 rw [Ybj hd hi hm]
 generalize hks : Ynk (m.map (·.1)) = ks at *
 have hkl : ks.length = m.length := by
  have := ((List.perm_ext_iff_of_nodup (Zlq hi) hd).2 hm).length_eq
  simpa using this
 have n1 := Zdj ks
 have e0 : ∀ k, (Zmo m (ks.take k)) = (ks.take k).map fun k => unJ ((Zcw m k).getD .null) := fun _ => rfl
 unfold dvX
 refine Zaa Tryz.func134 rfl Tryz.ntmps134 rfl (fun X => ?_)
 refine wk ?_
 refine Zca 12 5 100 27 6 88 rfl rfl rfl ?_
 refine Zaq (ι := { k : Nat // k ≤ ks.length })
  (fun k => [(2, .ptr 2 0), (11, .dat (Zih m)), (12, .ptr 12 0), (64, .dat (.sl 1 16 (pdS ks))), (65, .dat (.val (.int .i64 ((pdS ks).length : Nat)))), (66, .dat (.val (.int .i64 (k.1 : Nat))))])
  (fun k => [(2, .box 27 (Zap (qV Zdd))), (12, .box 27 [.dat (.val (.int .i64 6)), .dat (.val (.int .i64 0)), .dat (.val (.float .f64 0)), .dat (.val (.string ⟨#[]⟩)), .dat (.sl 1 16 (pdS ks)), .own 100]), (100, .row 27 6 88 ((ks.take k.1).map fun k => qV (unJ ((Zcw m k).getD .null))))]) (fun k => ks.length - k.1) ⟨0, Nat.zero_le _⟩ id ?_ ?_
 ·exact sb
 rintro ⟨k, hk⟩
 by_cases hlt : k < ks.length
 ·have hc : decide ((k : Int) < (((pdS ks).length : Nat) : Int)) = true := decide_eq_true (by omega)
  obtain ⟨key, hx⟩ : ∃ x, ks[k]? = some x := ⟨_, List.getElem?_eq_getElem hlt⟩
  have i1 : (pdS ks)[((k : Nat) : Int).toNat]? = some (.val (.string key)) := Zgz hx
  obtain ⟨j, hj1, hj2, hj3⟩ := Yj9 ((hm key).1 (List.mem_of_getElem? hx))
  have c := ih (key, j) hj3
  have e : ((ks.take (k + 1)).map fun k => qV (unJ ((Zcw m k).getD .null))) = ((ks.take k).map fun k => qV (unJ ((Zcw m k).getD .null))) ++ [qV (unJ j)] := by simp [List.take_add_one, hx, hj2]
  have hbt : (((ks.take k).map fun k => qV (unJ ((Zcw m k).getD .null))).length + [qV (unJ j)].length) * 88 ≤ 140737488351232 := by simp; omega
  have hbl : ((ks.take k).map fun k => qV (unJ ((Zcw m k).getD .null))).length + [qV (unJ j)].length ≤ 140737488351232 := by simp; omega
  generalize ((ks.take k).map fun k => qV (unJ ((Zcw m k).getD .null))) = da at *
  unfold qV at *
  refine wk ?_
  refine Zcl (Yg6 rfl rfl rfl hj1) ?_
  refine wk ?_
  refine Zah ?_
  refine ⟨⟨k + 1, by omega⟩, (fun j => if j = 100 then 77 else j), by simp only; omega, ?_⟩
  rw [e]
  exact sb
 ·have hc : decide ((k : Int) < (((pdS ks).length : Nat) : Int)) = false := decide_eq_false (by omega)
  have hkk : ks.take k = ks := List.take_of_length_le (by omega)
  simp only [hkk]
  refine wk ?_
  refine Zay (fun _ => false) (fun k => k == 100) ?_
  have e : Zds (Zmo m ks) = ks.map fun k => qV (unJ ((Zcw m k).getD .null)) := by rw [Zg6]; unfold Zmo; rw [List.map_map]; exact List.map_congr_left fun x _ => Zsg _
  unfold qV
  simp only [GV.kind, GV.n, GV.f, GV.s, GV.keys, GV.l]
  rw [e]
  exact wke
theorem Zlo : ∀ (j : JV), PCall Tryz.prog 134 [pdJ j] (qV (unJ j))
 | .null => Ypl
 | .bool b => Ypg b
 | .int n => Ypi n
 | .flt n => Yph n
 | .str s => Ypm s
 | .list l => Ypj l fun y _ => Zlo y
 | .map m => Ypk m fun y hy => by
  have : SizeOf.sizeOf y.2 < 1 + SizeOf.sizeOf m := by
   have h1 := List.sizeOf_lt_of_mem hy
   have h2 : SizeOf.sizeOf y.2 < SizeOf.sizeOf y := by obtain ⟨a, b⟩ := y; simp; omega
   omega
  exact Zlo y.2
end Go.Proofs.YtgmahieoiifpfaaGreat
section
namespace Go.Proofs.YtgmahieoiifpfaaGreat
theorem Yhw {α : Type} {ks : List ByteArray} {l : List α} {k : ByteArray} {x y : α} (h : y ∈ Zn7 ks l k x) : y = x ∨ y ∈ l := by
 unfold Zn7 at h
 simp only [List.mem_append, List.mem_cons, List.not_mem_nil, or_false] at h
 rcases h with (h | h) | h
 ·exact .inr (List.mem_of_mem_take h)
 ·exact .inl h
 ·exact .inr (List.mem_of_mem_drop h)
theorem Ygb {m x y : GV} {k : ByteArray} (h : y ∈ (Zl6 m k x).l) : y = x ∨ y ∈ m.l := by
 unfold Zl6 at h
 exact Yhw h
theorem Zps : ∀ (ks : List ByteArray) (l : List GV) (acc y : GV), y ∈ (Zbs ks l acc).l → (∃ z ∈ l, y = Za0 z) ∨ y ∈ acc.l
 | [], l, acc, y, h => by simp only [Zbs] at h; exact .inr h
 | _ :: _, [], acc, y, h => by simp only [Zbs] at h; exact .inr h
 | k :: ks, x :: l, acc, y, h => by
  simp only [Zbs] at h
  rcases Zps ks l _ y h with ⟨z, hz, e⟩ | h
  ·exact .inl ⟨z, by simp [hz], e⟩
  ·rcases Ygb h with e | h
   ·exact .inl ⟨x, by simp, e⟩
   ·exact .inr h
theorem Znv : ∀ (ks : List ByteArray) (l : List GV) (acc : GV), Zjd acc → ks.Nodup → ∀ k, Ygf (Zbs ks l acc) k = ((Zcw (ks.zip l) k).map Za0).or (Ygf acc k)
 | [], l, acc, h, _, k => by simp [Zbs, Zcw]
 | _ :: _, [], acc, h, _, k => by simp [Zbs, Zcw]
 | a :: ks, x :: l, acc, h, hd, k => by
  simp only [List.nodup_cons] at hd
  simp only [Zbs]
  rw [Znv ks l _ (Zgr h _ _) hd.2, Znx h]
  simp only [List.zip_cons_cons, Zcw]
  by_cases e : a = k
  ·have : Zcw (ks.zip l) k = none := Zew fun y hy hyk => hd.1 (by rw [e, ← hyk]; exact (List.of_mem_zip (a := y.1) (b := y.2) hy).1)
   rw [if_pos e, if_pos e, this]; simp
  ·rw [if_neg e, if_neg e]
theorem Zyd {α : Type} {f : α → α} : ∀ (a : List (ByteArray × α)) (k : ByteArray), (∀ e ∈ a, f e.2 = e.2) → (Zcw a k).map f = Zcw a k
 | [], k, _ => rfl
 | e :: r, k, h => by
  simp only [Zcw]
  split
  ·simp [h e (by simp)]
  ·exact Zyd r k fun x hx => h x (by simp [hx])
theorem Zz7 {g : GV} (hg : Zjd g) (h : ∀ y ∈ g.l, Za0 y = y) : Zbs g.keys g.l gMap = g := by
 refine Zo0 (Zgu _ _ _ Zbe).1 hg fun k => ?_
 obtain ⟨ks, l, rfl, hi, hl⟩ := hg
 simp only [GV.keys, GV.l] at h ⊢
 rw [Znv _ _ _ Zbe (Zlq hi)]
 rw [Zyd _ _ (fun e he => h e.2 (List.of_mem_zip (a := e.1) (b := e.2) he).2)]
 rw [Znw, Option.or_none]
 rfl
theorem Zpr : ∀ (l : List GV), (∀ y ∈ l, Za0 (Za0 y) = Za0 y) → Zci (Zci l) = Zci l
 | [], _ => by simp [Zci]
 | x :: l, h => by
  simp only [Zci]
  rw [h x (by simp), Zpr l fun y hy => h y (by simp [hy])]
theorem Zcx : ∀ x : GV, Za0 (Za0 x) = Za0 x
 | .mk k n f s ks l => by
  have ih : ∀ y ∈ l, Za0 (Za0 y) = Za0 y := fun y hy => Zcx y
  by_cases h1 : k = 1
  ·subst h1; by_cases hn : n = 0 <;> simp [Za0, hn]
  by_cases h2 : k = 2
  ·subst h2; simp [Za0]
  by_cases h3 : k = 3
  ·subst h3; simp [Za0]
  by_cases h4 : k = 4
  ·subst h4; simp [Za0]
  by_cases h5 : k = 5
  ·subst h5; simp [Za0, Zpr l ih]
  by_cases h6 : k = 6
  ·subst h6
   have e : Za0 (.mk 6 n f s ks l) = Zbs ks l gMap := by simp [Za0, gMap]
   rw [e]
   have hp := (Zgu ks l gMap Zbe).1
   have hfix := Zz7 hp (fun y hy => by
    rcases Zps ks l gMap y hy with ⟨z, hz, rfl⟩ | hy
    ·exact ih z hz
    ·simp [gMap, GV.l] at hy)
   obtain ⟨ks', l', e', _, _⟩ := hp
   rw [e'] at hfix ⊢
   simpa [Za0, gMap, GV.keys, GV.l] using hfix
  ·simp [Za0, h1, h2, h3, h4, h5, h6, Zdd]
termination_by x => SizeOf.sizeOf x
decreasing_by
 have := List.sizeOf_lt_of_mem hy
 simp; omega
end Go.Proofs.YtgmahieoiifpfaaGreat
end
namespace Go.Proofs.YtgmahieoiifpfaaGreat
open Go.RowKit
theorem Yex (l : List GV) : PCall Tryz.prog 94 [.sl 6 88 (Zds l)] (.val (.bool (Zmh l))) := by
 intro w F vs hF hv
 unfold Reps at hv
 obtain ⟨v, r', rfl, hx, hr⟩ := hv
 unfold Reps at hr
 subst hr
 unfold Rep at hx
 rw [Zc9] at hx
 obtain ⟨a, c, rfl, h1, h2, h3, h4⟩ := hx
 refine (Zwv l w a c h2 ?_).mono ?_
 ·rcases h4 with h4 | ⟨b, o, hb, rfl, hr⟩
  ·left
   cases l with
   | nil => rfl
   | cons _ _ => unfold Zds at h4; cases h4
  ·exact .inr ⟨b, o, ⟨Nat.zero_le _, hF b hb⟩, rfl, IsVs.keep (fun _ _ => rfl) (fun b hb => ⟨Nat.zero_le _, hF b hb⟩) l b o hb (Zla l hr)⟩
 ·rintro e w' ⟨he, hb⟩
  exact ⟨_, he, hb, by unfold Rep; exact ⟨rfl, trivial⟩⟩
section
variable {P : Program} {X : Base} {N : Nat} {Q : Exit → Act → World → Prop} {ops : Array Oper} {rem : List Nat} {ks : List Itm} {s s' : Sta}
end
theorem Yr4 {ks : List ByteArray} {j : Nat} {x : ByteArray} (h : ks[j]? = some x) : (pdS ks)[((j : Nat) : Int).toNat]? = some (.val (.string x)) := Zgz h
theorem Yjh (x : EV) : PCall Tryz.prog 130 [pdE x] (Ybn (flE x)) := by
 refine Zbf fun hfit => ?_
 have b0 := (Fits.aggAt (hfit (pdE x) (by simp)) 3 (d := .sl 6 88 (Zds x.l)) rfl).sl
 have b1 := b0.1
 have b2 := (Fits.aggAt (hfit (pdE x) (by simp)) 2 (d := .sl 1 16 (pdS x.keys)) rfl).sl.2.1
 clear hfit b0
 have n1 := Zc9 x.l
 have n2 := Zdj x.keys
 rw [n1] at b1
 rw [n2] at b2
 have n3 := Zln x
 refine Zaa Tryz.func130 rfl Tryz.ntmps130 rfl (fun X => ?_)
 unfold pdE
 refine wk ?_
 refine Zaq (ι := { k : Nat // k ≤ x.keys.length })
  (fun k => [(1, .ptr 1 0), (3, .own 100), (8, .dat (.sl 1 16 (pdS x.keys))), (9, .dat (.val (.int .i64 ((pdS x.keys).length : Nat)))), (10, .dat (.val (.int .i64 (k.1 : Nat))))])
  (fun k => [(1, .box 29 (Zap (pdE x))), (100, .row 213 2 32 (((flE x).take k.1).map Zec))]) (fun k => x.keys.length - k.1) ⟨0, Nat.zero_le _⟩ (fun j => if j = 100 then 6 else j) ?_ ?_
 ·exact sb
 rintro ⟨k, hk⟩
 by_cases hlt : k < x.keys.length
 ·have hc : decide ((k : Int) < (((pdS x.keys).length : Nat) : Int)) = true := decide_eq_true (by omega)
  obtain ⟨key, hkey⟩ : ∃ y, x.keys[k]? = some y := ⟨_, List.getElem?_eq_getElem hlt⟩
  have i1 : (pdS x.keys)[((k : Nat) : Int).toNat]? = some (.val (.string key)) := Zgz hkey
  by_cases hl : k < x.l.length
  ·have hc2 : decide ((k : Int) < (((Zds x.l).length : Nat) : Int)) = true := decide_eq_true (by omega)
   obtain ⟨y, hy⟩ : ∃ y, x.l[k]? = some y := ⟨_, List.getElem?_eq_getElem hl⟩
   have i2 : (Zds x.l)[((k : Nat) : Int).toNat]? = some (qV y) := (Zlz hy).trans (by rw [Zsg])
   have c := Zvf y
   have hf := Ypf x hkey hy
   have e : ((flE x).take (k + 1)).map Zec = ((flE x).take k).map Zec ++ [.agg [.val (.string key), dvV (Za5 y)]] := by simp [List.take_add_one, hf, Zec]
   have hbt : ((((flE x).take k).map Zec).length + [PD.agg [.val (.string key), dvV (Za5 y)]].length) * 32 ≤ 140737488351232 := by simp; omega
   have hbl : (((flE x).take k).map Zec).length + [PD.agg [.val (.string key), dvV (Za5 y)]].length ≤ 140737488351232 := by simp; omega
   generalize ((flE x).take k).map Zec = da at *
   unfold qV at *
   unfold pdE
   refine wk ?_
   refine Zah ?_
   refine ⟨⟨k + 1, by omega⟩, (fun j => if j = 100 then 30 else j), by simp only; omega, ?_⟩
   rw [e]
   exact sb
  ·have hc2 : decide ((k : Int) < (((Zds x.l).length : Nat) : Int)) = false := decide_eq_false (by omega)
   have e : (flE x).take (k + 1) = (flE x).take k := by rw [List.take_of_length_le (by omega), List.take_of_length_le (by omega)]
   unfold pdE
   refine wk ?_
   refine Zah ?_
   refine ⟨⟨k + 1, by omega⟩, id, by simp only; omega, ?_⟩
   simp only [e]
   exact sb
 ·have hc : decide ((k : Int) < (((pdS x.keys).length : Nat) : Int)) = false := decide_eq_false (by omega)
  have hkk : (flE x).take k = flE x := List.take_of_length_le (by omega)
  simp only [hkk]
  unfold pdE
  refine Zay (fun _ => false) (fun k => k == 100) ?_
  unfold Ybn
  exact wke
theorem Yjg (x : EV) : PCall Tryz.prog 67 [pdE x] (Zav (Zbg x)) := by
 have c1 := Yjh x
 have c2 := Zvf x.v
 unfold Zbg
 unfold qV pdE at *
 unfold Ybn at c1
 refine Zaa Tryz.func67 rfl Tryz.ntmps67 rfl (fun X => ?_)
 by_cases h1 : x.kind = 1
 ·have g1 : decide (x.kind = 1) = true := decide_eq_true h1
  rw [if_pos h1]
  refine wk ?_
  refine Zay (fun _ => false) (fun k => k == 3) ?_
  exact wke
 have g1 : decide (x.kind = 1) = false := decide_eq_false h1
 rw [if_neg h1]
 by_cases h2 : x.kind = 2
 ·have g2 : decide (x.kind = 2) = true := decide_eq_true h2
  rw [if_pos h2]
  refine wk ?_
  refine Zay (fun _ => false) (fun k => k == 4) ?_
  exact wke
 have g2 : decide (x.kind = 2) = false := decide_eq_false h2
 rw [if_neg h2]
 by_cases h3 : x.kind = 3
 ·have g3 : decide (x.kind = 3) = true := decide_eq_true h3
  rw [if_pos h3]
  refine wk ?_
  refine Zay (fun _ => false) (fun k => k == 5) ?_
  exact wke
 have g3 : decide (x.kind = 3) = false := decide_eq_false h3
 rw [if_neg h3]
 refine wk ?_
 refine Zay (fun _ => false) (fun k => k == 6) ?_
 exact wke
theorem Ygs (x : EV) : PCall Tryz.prog 92 [pdE x] (pdE (Zbd x)) := by
 have c1 := Zox (x.l.take (min x.keys.length x.l.length)) fun y _ => Zv1 y
 have c2 := Zv1 x.v
 refine Zbf fun hfit => ?_
 have b0 := (Fits.aggAt (hfit (pdE x) (by simp)) 3 (d := .sl 6 88 (Zds x.l)) rfl).sl
 have b1 := b0.1
 have b2 := (Fits.aggAt (hfit (pdE x) (by simp)) 2 (d := .sl 1 16 (pdS x.keys)) rfl).sl.2.1
 clear hfit b0
 have n1 := Zc9 x.l
 have n2 := Zdj x.keys
 have e1 : Zds (x.l.take (min x.keys.length x.l.length)) = ((Zds x.l).take (min (pdS x.keys).length (Zds x.l).length)).drop 0 := by rw [n1, n2, Zg6, Zg6]; simp [List.map_take]
 have e2 : pdS (x.keys.take (min x.keys.length x.l.length)) = [] ++ ((pdS x.keys).take (min (pdS x.keys).length (Zds x.l).length)).drop 0 := by rw [n1, n2]; simp [pdS, List.map_take]
 have m1 : min (pdS x.keys).length (Zds x.l).length ≤ (pdS x.keys).length := Nat.min_le_left _ _
 have m2 : min (pdS x.keys).length (Zds x.l).length ≤ (Zds x.l).length := Nat.min_le_right _ _
 have m3 : (([] : List PD).length + (((pdS x.keys).take (min (pdS x.keys).length (Zds x.l).length)).drop 0).length) * 16 ≤ 140737488351232 := by simp; omega
 have m4 : ([] : List PD).length + (((pdS x.keys).take (min (pdS x.keys).length (Zds x.l).length)).drop 0).length ≤ 140737488351232 := by simp; omega
 rw [e1] at c1
 unfold Zbd
 by_cases h1 : x.kind = 1
 ·have g1 : decide (x.kind = 1) = true := decide_eq_true h1
  rw [if_pos h1]
  unfold qV pdE at *
  simp only [e2, Zdd, GV.kind, GV.n, GV.f, GV.s, GV.keys, GV.l]
  generalize Zci (x.l.take (min x.keys.length x.l.length)) = cl at *
  clear e1 e2
  refine Zaa Tryz.func92 rfl Tryz.ntmps92 rfl (fun X => ?_)
  refine wk ?_
  refine Zay (fun _ => false) (fun k => k == 20) ?_
  exact wke
 have g1 : decide (x.kind = 1) = false := decide_eq_false h1
 rw [if_neg h1]
 clear e1 e2 m1 m2 m3 m4 c1 b1 b2
 generalize Za0 x.v = y at *
 unfold qV pdE at *
 refine Zaa Tryz.func92 rfl Tryz.ntmps92 rfl (fun X => ?_)
 by_cases h2 : x.kind = 2
 ·have g2 : decide (x.kind = 2) = true := decide_eq_true h2
  rw [if_pos h2]
  exact wke
 have g2 : decide (x.kind = 2) = false := decide_eq_false h2
 rw [if_neg h2]
 by_cases h3 : x.kind = 3
 ·have g3 : decide (x.kind = 3) = true := decide_eq_true h3
  rw [if_pos h3]
  exact wke
 have g3 : decide (x.kind = 3) = false := decide_eq_false h3
 rw [if_neg h3]
 exact wke
theorem Zzo (x : EV) : PCall Tryz.prog 67 [pdE x] (Zav (Zbg x)) := Yjg x
theorem Zxk (x : EV) : PCall Tryz.prog 92 [pdE x] (pdE (Zbd x)) := Ygs x
theorem Yhl (x : EV) : ∃ b, PCall Tryz.prog 15 [pdE x] (.val (.bool b)) := by
 have c := Ylu x.keys
 unfold pdE
 cases h1 : decide ((2147483647 : Int) < (x.s.size : Int)) with
 | true =>
  refine ⟨false, ?_⟩
  refine Zaa Tryz.func15 rfl Tryz.ntmps15 rfl (fun X => ?_)
  repeat' (first
  | refine Zag ?_
  | (refine Zao rfl ?_; first | refine Zad rfl rfl ?_ | refine Zb1 rfl rfl rfl ?_ | refine Zbj rfl rfl rfl (by first | rfl | (simp only [Zap]; rfl)) ?_ | refine Za1 rfl rfl rfl rfl ?_ | refine Zeb rfl rfl rfl (by first | rfl | (simp only [Zap]; rfl)) ?_ | refine Zob rfl rfl (by kernel_rfl) ?_)
  | refine Zac ?_
  | refine Zab ?_
  | refine Zam rfl (by first | rfl | assumption) ?_
  | refine Zak (Zan rfl rfl ?_)
  | fail)
  all_goals exact PLe.refl _
 | false =>
  cases h2 : Yrr x.keys with
  | false =>
   rw [h2] at c
   refine ⟨false, ?_⟩
   refine Zaa Tryz.func15 rfl Tryz.ntmps15 rfl (fun X => ?_)
   repeat' (first
  | refine Zag ?_
  | (refine Zao rfl ?_; first | refine Zad rfl rfl ?_ | refine Zb1 rfl rfl rfl ?_ | refine Zbj rfl rfl rfl (by first | rfl | (simp only [Zap]; rfl)) ?_ | refine Za1 rfl rfl rfl rfl ?_ | refine Zeb rfl rfl rfl (by first | rfl | (simp only [Zap]; rfl)) ?_ | refine Zgi rfl (by kernel_rfl) rfl (by first | exact c) ?_ | refine Zob rfl rfl (by kernel_rfl) ?_ | refine Zc6 rfl rfl ?_)
  | refine Zac ?_
  | refine Zab ?_
  | refine Zam rfl (by first | rfl | assumption) ?_
  | refine Zal rfl (by first | rfl | assumption) ?_
  | refine Zat ?_
  | refine Zak (Zan rfl rfl ?_)
  | fail)
   all_goals exact PLe.refl _
  | true =>
   rw [h2] at c
   cases h3 : decide ((2147483647 : Int) < (((Zds x.l).length : Nat) : Int)) with
   | true =>
    refine ⟨false, ?_⟩
    refine Zaa Tryz.func15 rfl Tryz.ntmps15 rfl (fun X => ?_)
    repeat' (first
  | refine Zag ?_
  | (refine Zao rfl ?_; first | refine Zad rfl rfl ?_ | refine Zb1 rfl rfl rfl ?_ | refine Zbj rfl rfl rfl (by first | rfl | (simp only [Zap]; rfl)) ?_ | refine Za1 rfl rfl rfl rfl ?_ | refine Zeb rfl rfl rfl (by first | rfl | (simp only [Zap]; rfl)) ?_ | refine Zgi rfl (by kernel_rfl) rfl (by first | exact c) ?_ | refine Zob rfl rfl (by kernel_rfl) ?_ | refine Zuk rfl rfl ?_ | refine Zc6 rfl rfl ?_)
  | refine Zac ?_
  | refine Zab ?_
  | refine Zam rfl (by first | rfl | assumption) ?_
  | refine Zal rfl (by first | rfl | assumption) ?_
  | refine Zat ?_
  | refine Zak (Zan rfl rfl ?_)
  | fail)
    all_goals exact PLe.refl _
   | false =>
    refine ⟨true, ?_⟩
    refine Zaa Tryz.func15 rfl Tryz.ntmps15 rfl (fun X => ?_)
    repeat' (first
  | refine Zag ?_
  | (refine Zao rfl ?_; first | refine Zad rfl rfl ?_ | refine Zb1 rfl rfl rfl ?_ | refine Zbj rfl rfl rfl (by first | rfl | (simp only [Zap]; rfl)) ?_ | refine Za1 rfl rfl rfl rfl ?_ | refine Zeb rfl rfl rfl (by first | rfl | (simp only [Zap]; rfl)) ?_ | refine Zgi rfl (by kernel_rfl) rfl (by first | exact c) ?_ | refine Zob rfl rfl (by kernel_rfl) ?_ | refine Zuk rfl rfl ?_ | refine Zc6 rfl rfl ?_)
  | refine Zac ?_
  | refine Zab ?_
  | refine Zal rfl (by first | rfl | assumption) ?_
  | refine Zat ?_
  | refine Zak (Zan rfl rfl ?_)
  | fail)
    all_goals exact PLe.refl _
section
variable {P : Program} {X : Base} {N : Nat} {Q : Exit → Act → World → Prop} {s s' : Sta}
end
def Yjd : List ByteArray → Bool
 | a :: b :: r => decide (Zed a b < 0) && Yjd (b :: r)
 | _ => true
theorem Yf0 : ∀ {ks : List ByteArray} {i : Nat} {a b : ByteArray}, ks[i]? = some a → ks[i + 1]? = some b → 0 ≤ Zed a b → Yjd ks = false
 | [], _, _, _, h, _, _ => by simp at h
 | [_], i, a, b, _, h, _ => by simp at h
 | x :: y :: r, 0, a, b, h, h', hc => by
  simp at h h'
  subst h h'
  unfold Yjd
  rw [decide_eq_false (by omega)]; rfl
 | x :: y :: r, i + 1, a, b, h, h', hc => by
  unfold Yjd
  rw [Yf0 (ks := y :: r) (i := i) (by simpa using h) (by simpa using h') hc, Bool.and_false]
theorem Zzl : ∀ {ks : List ByteArray}, (∀ (i : Nat) (a b : ByteArray), ks[i]? = some a → ks[i + 1]? = some b → Zed a b < 0) → Yjd ks = true
 | [], _ => rfl
 | [_], _ => rfl
 | x :: y :: r, h => by
  unfold Yjd
  rw [decide_eq_true (h 0 x y rfl rfl), Zzl (ks := y :: r) (fun i a b ha hb => h (i + 1) a b (by simpa using ha) (by simpa using hb))]; rfl
theorem Zv0 (x : EV) : (Zbd x).keys.length ≤ x.keys.length := by
 unfold Zbd
 split
 ·simp only [List.length_take]; omega
 ·split
  ·simp
  ·split <;> simp
theorem Zwn (x : EV) : PCall Tryz.prog 95 [pdE x] (.val (.bool (Yjd (Zbd x).keys))) := by
 refine Zbf fun hfit => ?_
 have b1 := (Fits.aggAt (hfit (pdE x) (by simp)) 2 (d := .sl 1 16 (pdS x.keys)) rfl).sl.2.1
 rw [Zdj] at b1
 clear hfit
 have b2 := Zv0 x
 have c1 := Zxk x
 generalize Zbd x = y at *
 have n1 := Zdj y.keys
 refine Zaa Tryz.func95 rfl Tryz.ntmps95 rfl (fun X => ?_)
 (try unfold pdE at *)
 refine wk ?_
 refine Zaq (ι := { j : Nat // (j ≤ y.keys.length) ∧ ∀ (i : Nat) (a b : ByteArray), i < j → y.keys[i]? = some a → y.keys[i + 1]? = some b → Zed a b < 0 })
  (fun j => [(1, .ptr 1 0), (3, .dat (.val (.int .i64 ((j.1 + 1 : Nat) : Int))))])
  (fun j => [(1, .box 29 (Zap (pdE y)))]) (fun j => y.keys.length - j.1) ⟨0, Nat.zero_le _, fun i _ _ h => absurd h (Nat.not_lt_zero i)⟩ id ?_ ?_
 ·exact sb
 rintro ⟨j, hj, hall⟩
 by_cases hlt : j + 1 < y.keys.length
 rotate_left
 ·have g1 : decide (((j + 1 : Nat) : Int) < (((pdS y.keys).length : Nat) : Int)) = false := decide_eq_false (by omega)
  rw [Zzl fun i a b ha hb => hall i a b (by have := (List.getElem?_eq_some_iff.1 hb).1; omega) ha hb]
  (try unfold pdE at *)
  exact wke
 have g1 : decide (((j + 1 : Nat) : Int) < (((pdS y.keys).length : Nat) : Int)) = true := decide_eq_true (by omega)
 obtain ⟨a, ha⟩ : ∃ u, y.keys[j]? = some u := ⟨_, List.getElem?_eq_getElem (by omega)⟩
 obtain ⟨b, hb⟩ : ∃ u, y.keys[j + 1]? = some u := ⟨_, List.getElem?_eq_getElem hlt⟩
 have i1 : (pdS y.keys)[(((j + 1 : Nat) : Int) - 1).toNat]? = some (.val (.string a)) := by
  rw [show ((((j + 1 : Nat) : Int) - 1).toNat) = j by omega]; exact Zgz ha
 have i2 := Yr4 hb
 have c2 := Yng a b
 by_cases hs : Zed a b < 0
 ·have g2 : decide (0 ≤ Zed a b) = false := decide_eq_false (by omega)
  (try unfold pdE at *)
  refine wk ?_
  refine Zah ?_
  refine ⟨⟨j + 1, by omega, fun i a' b' hi ha' hb' => ?_⟩, id, by simp only; omega, ?_⟩
  ·by_cases e : i = j
   ·subst e
    rw [ha] at ha'; rw [hb] at hb'
    cases ha'; cases hb'
    exact hs
   ·exact hall i a' b' (by omega) ha' hb'
  exact sb
 ·have g2 : decide (0 ≤ Zed a b) = true := decide_eq_true (by omega)
  rw [Yf0 ha hb (by omega)]
  (try unfold pdE at *)
  exact wke
def Zvo (x : EV) : Bool := Zje (Zbd x).v && (Zmh (Zbd x).l && Yjd (Zbd (Zbd x)).keys)
theorem Zu0 (x : EV) : PCall Tryz.prog 37 [pdE x] (.val (.bool (Zvo x))) := by
 unfold Zvo
 have c0 := Zxk x
 generalize Zbd x = y at *
 have c1 := Yqe y.v
 have c2 := Yex y.l
 have c3 := Zwn y
 unfold pdE at *
 unfold qV at c1
 generalize Zje y.v = b1 at *
 generalize Zmh y.l = b2 at *
 generalize Yjd (Zbd y).keys = b3 at *
 refine Zaa Tryz.func37 rfl Tryz.ntmps37 rfl (fun X => ?_)
 cases b1 <;> cases b2
 all_goals
  exact wke
theorem Ybv {x : EV} (h : JPE (Zbg x)) (ho : Zvo x = true) : OPE (Zbg x) := by
 unfold Zvo at ho
 simp only [Bool.and_eq_true] at ho
 exact Yon h ho.1 ho.2.1
def pdP (l : List EV) : PD := .sl 11 168 (l.map pdE)
def dvP (l : List PEV) : PD := .sl 4 32 (l.map Zav)
theorem Zqn (ps : List (List EV)) : PCall Tryz.prog 21 [.sl 1 24 (ps.map pdP)] (.val (.bool (ps.all fun p => p.all Zvo))) := by
 refine Zbf fun hfit => ?_
 have b1 := (hfit (.sl 1 24 (ps.map pdP)) (by simp)).sl.2.1
 have b3 : ∀ p ∈ ps, p.length ≤ 140737488351232 := fun p hp => by
  have h := (hfit (.sl 1 24 (ps.map pdP)) (by simp)).sl.2.2 (pdP p) (List.mem_map.2 ⟨p, hp, rfl⟩)
  unfold pdP at h
  simpa using h.sl.2.1
 clear hfit
 have n1 : (ps.map pdP).length = ps.length := by simp
 have ga : ∀ {i : Nat} {p : List EV}, ps[i]? = some p → (ps.map pdP)[((i : Nat) : Int).toNat]? = some (pdP p) := fun h => by simp [h]
 rw [n1] at b1
 generalize ps.map pdP = da at *
 refine Zaa Tryz.func21 rfl Tryz.ntmps21 rfl (fun X => ?_)
 refine wk ?_
 refine Zaq (ι := { j : Nat // j ≤ ps.length ∧ ∀ i p, i < j → ps[i]? = some p → p.all Zvo = true })
  (fun j => [(7, .dat (.sl 1 24 da)), (8, .dat (.val (.int .i64 ((da.length : Nat) : Int)))), (9, .dat (.val (.int .i64 (j.1 : Nat))))])
  (fun _ => []) (fun j => ps.length - j.1) ⟨0, Nat.zero_le _, fun i _ h => absurd h (Nat.not_lt_zero i)⟩ id ?_ ?_
 ·exact sb
 rintro ⟨j, hj, hall⟩
 by_cases hlt : j < ps.length
 rotate_left
 ·have g1 : decide ((j : Int) < ((da.length : Nat) : Int)) = false := decide_eq_false (by omega)
  have e : (ps.all fun p => p.all Zvo) = true := List.all_eq_true.2 fun p hp => by
   obtain ⟨i, hi⟩ := List.getElem?_of_mem hp
   exact hall i p (by have := (List.getElem?_eq_some_iff.1 hi).1; omega) hi
  rw [e]
  exact wke
 have g1 : decide ((j : Int) < ((da.length : Nat) : Int)) = true := decide_eq_true (by omega)
 obtain ⟨p, hp⟩ : ∃ p, ps[j]? = some p := ⟨_, List.getElem?_eq_getElem hlt⟩
 have i1 := ga hp
 have b2 := b3 p (List.mem_of_getElem? hp)
 have n2 : (p.map pdE).length = p.length := by simp
 have gb : ∀ {i : Nat} {x : EV}, p[i]? = some x → (p.map pdE)[((i : Nat) : Int).toNat]? = some (pdE x) := fun h => by simp [h]
 unfold pdP at i1
 refine wk ?_
 refine Zaq (ι := { q : Nat // q ≤ p.length ∧ ∀ i x, i < q → p[i]? = some x → Zvo x = true })
  (fun q => [(7, .dat (.sl 1 24 da)), (8, .dat (.val (.int .i64 ((da.length : Nat) : Int)))), (9, .dat (.val (.int .i64 (j : Nat)))), (13, .dat (.sl 11 168 (p.map pdE))), (14, .dat (.val (.int .i64 (((p.map pdE).length : Nat) : Int)))), (15, .dat (.val (.int .i64 (q.1 : Nat))))])
  (fun _ => []) (fun q => p.length - q.1) ⟨0, Nat.zero_le _, fun i _ h => absurd h (Nat.not_lt_zero i)⟩ id ?_ ?_
 ·exact sb
 rintro ⟨q, hq, hallq⟩
 by_cases hltq : q < p.length
 rotate_left
 ·have g2 : decide ((q : Int) < (((p.map pdE).length : Nat) : Int)) = false := decide_eq_false (by omega)
  have e : p.all Zvo = true := List.all_eq_true.2 fun x hx => by
   obtain ⟨i, hi⟩ := List.getElem?_of_mem hx
   exact hallq i x (by have := (List.getElem?_eq_some_iff.1 hi).1; omega) hi
  refine wk ?_
  refine Zah ?_
  refine ⟨⟨j + 1, by omega, fun i p' hi hp' => ?_⟩, id, by simp only; omega, ?_⟩
  ·by_cases e' : i = j
   ·subst e'
    rw [hp] at hp'; cases hp'
    exact e
   ·exact hall i p' (by omega) hp'
  exact sb
 have g2 : decide ((q : Int) < (((p.map pdE).length : Nat) : Int)) = true := decide_eq_true (by omega)
 obtain ⟨x, hx⟩ : ∃ x, p[q]? = some x := ⟨_, List.getElem?_eq_getElem hltq⟩
 have i2 := gb hx
 have c1 := Zu0 x
 cases ho : Zvo x with
 | true =>
  rw [ho] at c1
  (try unfold pdE at *)
  refine wk ?_
  refine Zah ?_
  refine ⟨⟨q + 1, by omega, fun i x' hi hx' => ?_⟩, id, by simp only; omega, ?_⟩
  ·by_cases e' : i = q
   ·subst e'
    rw [hx] at hx'; cases hx'
    exact ho
   ·exact hallq i x' (by omega) hx'
  exact sb
 | false =>
  rw [ho] at c1
  have e : (ps.all fun p => p.all Zvo) = false := List.all_eq_false.2 ⟨p, List.mem_of_getElem? hp, by
   simp only [Bool.not_eq_true]
   exact List.all_eq_false.2 ⟨x, List.mem_of_getElem? hx, by simp [ho]⟩⟩
  rw [e]
  (try unfold pdE at *)
  exact wke
theorem Zcm (p : PEV) : ∃ d0 d1 d2 d3, Zav p = .agg [d0, d1, d2, d3] := by cases p <;> exact ⟨_, _, _, _, rfl⟩
theorem Zzp (l : List EV) : PCall Tryz.prog 98 [pdP l] (dvP (l.map Zbg)) := by
 refine Zbf fun hfit => ?_
 unfold pdP dvP at *
 have b0 := (hfit (.sl 11 168 (l.map pdE)) (by simp)).sl
 clear hfit
 have n1 : (l.map pdE).length = l.length := by simp
 have b1 := b0.1
 have b2 := b0.2.1
 rw [n1] at b1 b2
 clear b0
 have ga : ∀ {i : Nat} {x : EV}, l[i]? = some x → (l.map pdE)[((i : Nat) : Int).toNat]? = some (pdE x) := fun h => by simp [h]
 refine Zaa Tryz.func98 rfl Tryz.ntmps98 rfl (fun X => ?_)
 refine wk ?_
 refine Zaq (ι := { k : Nat // k ≤ l.length })
  (fun k => [(3, .own 100), (7, .dat (.sl 11 168 (l.map pdE))), (8, .dat (.val (.int .i64 (((l.map pdE).length : Nat) : Int)))), (9, .dat (.val (.int .i64 (k.1 : Nat))))])
  (fun k => [(100, .row 99 4 32 ((l.take k.1).map fun x => Zav (Zbg x)))]) (fun k => l.length - k.1) ⟨0, Nat.zero_le _⟩ (fun j => if j = 100 then 6 else j) ?_ ?_
 ·exact sb
 rintro ⟨k, hk⟩
 by_cases hlt : k < l.length
 ·have hc : decide ((k : Int) < (((l.map pdE).length : Nat) : Int)) = true := decide_eq_true (by omega)
  obtain ⟨x, hx⟩ : ∃ x, l[k]? = some x := ⟨_, List.getElem?_eq_getElem hlt⟩
  have hi := ga hx
  have c1 := Zzo x
  obtain ⟨d0, d1, d2, d3, e⟩ := Zcm (Zbg x)
  rw [e] at c1
  have hbt : (((l.take k).map fun x => Zav (Zbg x)).length + [PD.agg [d0, d1, d2, d3]].length) * 32 ≤ 140737488351232 := by simp; omega
  have hbl : ((l.take k).map fun x => Zav (Zbg x)).length + [PD.agg [d0, d1, d2, d3]].length ≤ 140737488351232 := by simp; omega
  have e2 : ((l.take k).map fun x => Zav (Zbg x)) ++ [PD.agg [d0, d1, d2, d3]] = (l.take (k + 1)).map fun x => Zav (Zbg x) := by simp [List.take_add_one, hx, e]
  generalize ((l.take k).map fun x => Zav (Zbg x)) = r1 at *
  unfold pdE at hi c1
  refine wk ?_
  refine Zah ?_
  refine ⟨⟨k + 1, by omega⟩, (fun j => if j = 100 then 17 else j), by simp only; omega, ?_⟩
  exact sb
 ·have hc : decide ((k : Int) < (((l.map pdE).length : Nat) : Int)) = false := decide_eq_false (by omega)
  have hkk : l.take k = l := List.take_of_length_le (by omega)
  simp only [hkk]
  refine Zay (fun _ => false) (fun k => k == 100) ?_
  have e : PD.sl 4 32 (l.map fun x => Zav (Zbg x)) = .sl 4 32 ((l.map Zbg).map Zav) := by rw [List.map_map]; rfl
  exact wke
end Go.Proofs.YtgmahieoiifpfaaGreat
