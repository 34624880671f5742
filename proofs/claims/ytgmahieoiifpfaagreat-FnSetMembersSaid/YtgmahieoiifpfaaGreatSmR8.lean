/- Part 8 of what the proof rests on. -/
import Derived.Test.YtgmahieoiifpfaaGreatSmR5
import Derived.Test.YtgmahieoiifpfaaGreatSmR6
import Derived.Test.YtgmahieoiifpfaaGreatSmR7
section
set_option linter.unusedVariables false
namespace Go.Proofs.YtgmahieoiifpfaaGreat
set_option linter.unusedSimpArgs false
open Ieee
structure Tri (p q r : Int) : Prop where
  rp : p = -1 ∨ p = 0 ∨ p = 1
  rq : q = -1 ∨ q = 0 ∨ q = 1
  rr : r = -1 ∨ r = 0 ∨ r = 1
  zp : p = 0 → r = q
  zq : q = 0 → r = p
  lt : p = -1 → q = -1 → r = -1
  gt : p = 1 → q = 1 → r = 1
def rng (p : Int) : Prop := p = -1 ∨ p = 0 ∨ p = 1
def lx (a r : Int) : Int := if a ≠ 0 then a else r
theorem rng_lx {a r : Int} (h : rng a) (h' : rng r) : rng (lx a r) := by
  unfold rng lx at *
  split <;> assumption
theorem tri_lx {a b c p q r : Int} (h : Tri a b c) (hp : rng p) (hq : rng q) (hr : rng r) (h' : a = 0 → b = 0 → Tri p q r) : Tri (lx a p) (lx b q) (lx c r) := by
  obtain ⟨h1, h2, h3, h4, h5, h6, h7⟩ := h
  unfold rng at *
  unfold lx
  by_cases ha : a = 0
  · by_cases hb : b = 0
    · have hc : c = 0 := by rw [h4 ha, hb]
      rw [if_neg (by simp [ha]), if_neg (by simp [hb]), if_neg (by simp [hc])]
      exact h' ha hb
    · have hc := h4 ha
      rw [if_neg (by simp [ha]), if_pos hb, if_pos (by rw [hc]; exact hb), hc]
      constructor <;> omega
  · by_cases hb : b = 0
    · have hc := h5 hb
      rw [if_pos ha, if_neg (by simp [hb]), if_pos (by rw [hc]; exact ha), hc]
      constructor <;> omega
    · rw [if_pos ha, if_pos hb]
      by_cases hc : c = 0
      · rw [if_neg (by simp [hc])]
        constructor <;> omega
      · rw [if_pos hc]
        constructor <;> omega
theorem rng_cmpI (a b : Int) : rng (cmpI a b) := by
  unfold cmpI rng
  split
  · exact .inl rfl
  · split
    · exact .inr (.inr rfl)
    · exact .inr (.inl rfl)
theorem tri_cmpI (a b c : Int) : Tri (cmpI a b) (cmpI b c) (cmpI a c) := by
  have e : ∀ x y : Int, (cmpI x y = -1 ∧ x < y) ∨ (cmpI x y = 0 ∧ x = y) ∨ (cmpI x y = 1 ∧ y < x) := fun x y => by
    unfold cmpI
    by_cases h : x < y
    · rw [if_pos h]; exact .inl ⟨rfl, h⟩
    · rw [if_neg h]
      by_cases h' : y < x
      · rw [if_pos h']; exact .inr (.inr ⟨rfl, h'⟩)
      · rw [if_neg h']; exact .inr (.inl ⟨rfl, by omega⟩)
  have e1 := e a b
  have e2 := e b c
  have e3 := e a c
  constructor <;> omega
theorem cmpI_swap (a b : Int) : cmpI b a = - cmpI a b := by
  unfold cmpI
  by_cases h : a < b
  · rw [if_pos h, if_neg (by omega), if_pos h]; rfl
  · by_cases h' : b < a
    · rw [if_pos h', if_neg h, if_pos h']
    · rw [if_neg h', if_neg h, if_neg h, if_neg h']; rfl
theorem cmpI_zero {a b : Int} : cmpI a b = 0 ↔ a = b := by
  unfold cmpI
  by_cases h : a < b
  · rw [if_pos h]; constructor <;> intro h' <;> omega
  · rw [if_neg h]
    by_cases h' : b < a
    · rw [if_pos h']; constructor <;> intro h' <;> omega
    · rw [if_neg h']; constructor <;> intro h' <;> omega
theorem rng_cmpS (a b : ByteArray) : rng (cmpS a b) := by
  unfold cmpS rng
  split
  · exact .inl rfl
  · split
    · exact .inr (.inr rfl)
    · exact .inr (.inl rfl)
theorem cmpS_cases (a b : ByteArray) : (cmpS a b = -1 ∧ blt a b = true) ∨ (cmpS a b = 0 ∧ a = b) ∨ (cmpS a b = 1 ∧ blt b a = true) := by
  unfold cmpS
  cases h : blt a b with
  | true => exact .inl ⟨rfl, rfl⟩
  | false =>
    cases h' : blt b a with
    | true => exact .inr (.inr ⟨rfl, rfl⟩)
    | false => exact .inr (.inl ⟨rfl, blt_total h h'⟩)
theorem cmpS_zero {a b : ByteArray} : cmpS a b = 0 ↔ a = b := by
  constructor
  · intro h
    rcases cmpS_cases a b with h' | h' | h'
    · omega
    · exact h'.2
    · omega
  · rintro rfl
    rcases cmpS_cases a a with h' | h' | h'
    · rw [blt_irrefl] at h'; cases h'.2
    · exact h'.1
    · rw [blt_irrefl] at h'; cases h'.2
theorem cmpS_swap (a b : ByteArray) : cmpS b a = - cmpS a b := by
  rcases cmpS_cases a b with h | h | h
  · rw [h.1]; unfold cmpS; rw [if_neg (by rw [blt_asymm h.2]; simp), if_pos h.2]; rfl
  · rw [h.1, h.2]; rw [cmpS_zero.2 rfl]; rfl
  · rw [h.1]; unfold cmpS; rw [if_pos h.2]
theorem cmpS_neg {a b : ByteArray} (h : cmpS a b = -1) : blt a b = true := by
  rcases cmpS_cases a b with h' | h' | h'
  · exact h'.2
  · omega
  · omega
theorem tri_cmpS (a b c : ByteArray) : Tri (cmpS a b) (cmpS b c) (cmpS a c) := by
  refine ⟨rng_cmpS _ _, rng_cmpS _ _, rng_cmpS _ _, fun h => ?_, fun h => ?_, fun h h' => ?_, fun h h' => ?_⟩
  · rw [cmpS_zero.1 h]
  · rw [cmpS_zero.1 h]
  · unfold cmpS; rw [if_pos (blt_trans (cmpS_neg h) (cmpS_neg h'))]
  · have h1 := cmpS_swap a b
    have h2 := cmpS_swap b c
    have h3 := cmpS_swap a c
    have : cmpS c a = -1 := by
      unfold cmpS; rw [if_pos (blt_trans (cmpS_neg (a := c) (b := b) (by omega)) (cmpS_neg (a := b) (b := a) (by omega)))]
    omega
theorem signed_shift (s : Bool) (m u k : Nat) : signed s m (u + k) = signed s m u * (2 ^ k : Nat) := by
  unfold signed
  have : m <<< (u + k) = (m <<< u) * 2 ^ k := by rw [Nat.shiftLeft_eq, Nat.shiftLeft_eq, Nat.pow_add, Nat.mul_assoc]
  rw [this]
  cases s
  · simp only [Bool.false_eq_true, if_false]; push_cast; rfl
  · simp only [if_true]; push_cast; rw [Int.neg_mul]
/-- The key of a datum. -/
def keyD : Datum → Int × Int
  | .infinity s => (if s then -1 else 1, 0)
  | .number s m p => (0, signed s m (p + 1074).toNat)
  | .nan _ _ => (0, 0)
def cmpK (a b : Int × Int) : Int := lx (cmpI a.1 b.1) (cmpI a.2 b.2)
theorem tri_cmpK (a b c : Int × Int) : Tri (cmpK a b) (cmpK b c) (cmpK a c) := tri_lx (tri_cmpI _ _ _) (rng_cmpI _ _) (rng_cmpI _ _) (rng_cmpI _ _) (fun _ _ => tri_cmpI _ _ _)
theorem cmpI_mul {a b : Int} (k : Nat) (hk : 0 < k) : cmpI (a * (k : Int)) (b * (k : Int)) = cmpI a b := by
  unfold cmpI
  have hk : (0 : Int) < k := by omega
  have e : ∀ x y : Int, x * (k : Int) < y * (k : Int) ↔ x < y := fun x y => ⟨fun h => Int.lt_of_mul_lt_mul_right h (Int.le_of_lt hk), fun h => Int.mul_lt_mul_of_pos_right h hk⟩
  simp only [e]
def ordI : Option Ordering → Int
  | some .lt => -1
  | some .gt => 1
  | _ => 0
theorem ordI_compare (a b : Int) : ordI (some (compare a b)) = cmpI a b := by
  unfold cmpI
  by_cases h : a < b
  · rw [if_pos h, show compare a b = .lt from Int.compare_eq_lt.2 h]; rfl
  · rw [if_neg h]
    by_cases h' : b < a
    · rw [if_pos h', show compare a b = .gt from Int.compare_eq_gt.2 h']; rfl
    · rw [if_neg h', show compare a b = .eq from Int.compare_eq_eq.2 (by omega)]; rfl
def okD : Datum → Prop
  | .number _ _ p => -1074 ≤ p
  | .infinity _ => True
  | .nan _ _ => False
theorem order_key {d e : Datum} (hd : okD d) (he : okD e) : ordI (d.order e) = cmpK (keyD d) (keyD e) := by
  cases d with
  | nan _ _ => exact hd.elim
  | infinity s =>
    cases e with
    | nan _ _ => exact he.elim
    | infinity t => cases s <;> cases t <;> rfl
    | number t n j => cases s <;> rfl
  | number s m i =>
    cases e with
    | nan _ _ => exact he.elim
    | infinity t => cases t <;> rfl
    | number t n j =>
      have hd : -1074 ≤ i := hd
      have he : -1074 ≤ j := he
      show ordI (some (compare (signed s m (i - min i j).toNat) (signed t n (j - min i j).toNat))) = lx (cmpI 0 0) (cmpI (signed s m (i + 1074).toNat) (signed t n (j + 1074).toNat))
      rw [ordI_compare]
      have e1 : (i + 1074).toNat = (i - min i j).toNat + (min i j + 1074).toNat := by omega
      have e2 : (j + 1074).toNat = (j - min i j).toNat + (min i j + 1074).toNat := by omega
      rw [e1, e2, signed_shift, signed_shift, cmpI_mul _ (Nat.two_pow_pos _)]
      rw [cmpI_zero.2 rfl]
      rfl
theorem okD_read {f : Nat} (h : ∀ s r, FloatKind.f64.format.read f ≠ .nan s r) : okD (FloatKind.f64.format.read f) := by
  have hp : FloatKind.f64.format.leastPlace = -1074 := by decide
  have : ∀ d, d = FloatKind.f64.format.read f → okD d := by
    intro d h0
    have hd := h0
    unfold Format.read at hd
    simp only at hd
    split at hd
    · subst hd; show -1074 ≤ FloatKind.f64.format.leastPlace; omega
    · split at hd
      · subst hd; show -1074 ≤ FloatKind.f64.format.leastPlace + _; omega
      · split at hd
        · subst hd; trivial
        · exact absurd (h0.symm.trans hd) (h _ _)
  exact this _ rfl
/-- The key of a floating-point number. -/
def keyF (f : Nat) : Int × Int := keyD (FloatKind.f64.format.read f)
theorem feq_ok {f : Nat} (h : feq f f = true) : okD (FloatKind.f64.format.read f) := by
  refine okD_read fun s r e => ?_
  unfold feq Format.order at h
  rw [e] at h
  cases h
theorem ordI_order (f g : Nat) (hf : okD (FloatKind.f64.format.read f)) (hg : okD (FloatKind.f64.format.read g)) : ordI (FloatKind.f64.format.order f g) = cmpK (keyF f) (keyF g) := order_key hf hg
theorem cmpFs_ord (a b : Nat) : cmpFs a b = ordI (FloatKind.f64.format.order a b) := by
  unfold cmpFs
  cases FloatKind.f64.format.order a b with
  | none => rfl
  | some o => cases o <;> rfl
theorem order_swap (d e : Datum) : ordI (e.order d) = - ordI (d.order e) := by
  cases d with
  | nan _ _ => cases e <;> rfl
  | infinity s =>
    cases e with
    | nan _ _ => rfl
    | infinity t => cases s <;> cases t <;> rfl
    | number t n j => cases s <;> rfl
  | number s m i =>
    cases e with
    | nan _ _ => rfl
    | infinity t => cases t <;> rfl
    | number t n j =>
      show ordI (some (compare (signed t n (j - min j i).toNat) (signed s m (i - min j i).toNat))) = - ordI (some (compare (signed s m (i - min i j).toNat) (signed t n (j - min i j).toNat)))
      rw [ordI_compare, ordI_compare, show min j i = min i j by omega, cmpI_swap]
theorem cmpFs_swap (a b : Nat) : cmpFs b a = - cmpFs a b := by rw [cmpFs_ord, cmpFs_ord]; exact order_swap _ _
theorem rng_cmpFs (a b : Nat) : rng (cmpFs a b) := by
  rw [cmpFs_ord]
  unfold rng
  cases FloatKind.f64.format.order a b with
  | none => exact .inr (.inl rfl)
  | some o => cases o <;> decide
theorem feq_zero {f g : Nat} (hf : okD (FloatKind.f64.format.read f)) (hg : okD (FloatKind.f64.format.read g)) : feq f g = true ↔ cmpFs f g = 0 := by
  rw [cmpFs_ord]
  unfold feq
  cases h : FloatKind.f64.format.order f g with
  | none =>
    exfalso
    unfold Format.order at h
    revert h
    generalize FloatKind.f64.format.read f = d at *
    generalize FloatKind.f64.format.read g = e at *
    cases d <;> cases e <;> intro h <;> first | exact hf | exact hg | cases h
  | some o => cases o <;> decide
theorem read_word {s : Bool} {r : Nat} (h1 : 2 ^ 52 ≤ r) (h2 : r < 2047 * 2 ^ 52) : FloatKind.f64.format.read (FloatKind.f64.format.word s r) = .number s (2 ^ 52 + r % 2 ^ 52) (-1074 + (r / 2 ^ 52 - 1 : Nat)) := by
  have e1 : FloatKind.f64.format.signWeight = 2 ^ 63 := by decide
  have e2 : FloatKind.f64.format.binade = 2 ^ 52 := by decide
  have e3 : FloatKind.f64.format.infRung = 2047 * 2 ^ 52 := by decide
  have e4 : FloatKind.f64.format.leastPlace = -1074 := by decide
  unfold Format.read Format.word
  rw [e1, e2, e3, e4]
  have hr : (if s then 2 ^ 63 + r else r) % 2 ^ 63 = r := by cases s <;> simp <;> omega
  have hn : ((if s then 2 ^ 63 + r else r) / 2 ^ 63 % 2 == 1) = s := by
    cases s
    · have : r / 2 ^ 63 = 0 := by omega
      simp only [Bool.false_eq_true, if_false, this]; rfl
    · have : (2 ^ 63 + r) / 2 ^ 63 = 1 := by omega
      simp only [if_true, this]; rfl
  simp only [hr, hn]
  rw [if_neg (by omega), if_pos h2]
theorem cut_zero (s : Bool) (n : Nat) : Toward.even.cut s n 0 = n := by
  unfold Toward.cut
  simp [Nat.mod_one]
set_option maxHeartbeats 4000000 in
theorem key_int {n : Int} (h1 : -9007199254740992 ≤ n) (h2 : n ≤ 9007199254740992) : keyF (floatOfInt .f64 n) = (0, n * (2 ^ 1074 : Nat)) ∧ okD (FloatKind.f64.format.read (floatOfInt .f64 n)) := by
  by_cases h0 : n = 0
  · subst h0
    have e : FloatKind.f64.format.read (floatOfInt .f64 0) = .number false 0 (-1074) := by decide +kernel
    unfold keyF
    rw [e]
    exact ⟨by decide +kernel, Int.le_refl _⟩
  by_cases h3 : n = 9007199254740992
  · subst h3
    have e : FloatKind.f64.format.read (floatOfInt .f64 9007199254740992) = .number false (2 ^ 52) 1 := by decide +kernel
    unfold keyF
    rw [e]
    exact ⟨by decide +kernel, by unfold okD; omega⟩
  by_cases h4 : n = -9007199254740992
  · subst h4
    have e : FloatKind.f64.format.read (floatOfInt .f64 (-9007199254740992)) = .number true (2 ^ 52) 1 := by decide +kernel
    unfold keyF
    rw [e]
    exact ⟨by decide +kernel, by unfold okD; omega⟩
  obtain ⟨m, hm⟩ : ∃ m, m = n.natAbs := ⟨_, rfl⟩
  have hm0 : m ≠ 0 := by omega
  have hm1 : m < 2 ^ 53 := by omega
  obtain ⟨L, hL⟩ : ∃ L, L = m.log2 := ⟨_, rfl⟩
  have hL1 : 2 ^ L ≤ m := by rw [hL]; exact Nat.log2_self_le hm0
  have hL2 : m < 2 ^ (L + 1) := by rw [hL]; exact Nat.lt_log2_self
  have hL3 : L ≤ 52 := by
    have : 2 ^ L < 2 ^ 53 := by omega
    have := (Nat.pow_lt_pow_iff_right (by decide : 1 < 2)).1 this
    omega
  obtain ⟨E, hE⟩ : ∃ E, E = 1074 := ⟨_, rfl⟩
  have e5 : 52 - L + (L + 1022) = E := by omega
  obtain ⟨s, hs⟩ : ∃ s : Bool, s = decide (n < 0) := ⟨_, rfl⟩
  have e1 : FloatKind.f64.format.leastPlace = -1074 := by decide
  have e2 : FloatKind.f64.format.binade = 2 ^ 52 := by decide
  have e3 : FloatKind.f64.format.infRung = 2047 * 2 ^ 52 := by decide
  have e4 : FloatKind.f64.format.fractionBits = 52 := by decide
  obtain ⟨K, hK⟩ : ∃ K, K = m * 2 ^ (52 - L) := ⟨_, rfl⟩
  have hp : 2 ^ 52 = 2 ^ L * 2 ^ (52 - L) := by rw [← Nat.pow_add]; congr 1; omega
  have hp' : 2 ^ 53 = 2 ^ (L + 1) * 2 ^ (52 - L) := by rw [← Nat.pow_add]; congr 1; omega
  have hK1 : 2 ^ 52 ≤ K := by rw [hK, hp]; exact Nat.mul_le_mul_right _ hL1
  have hK2 : K < 2 ^ 53 := by rw [hK, hp']; exact Nat.mul_lt_mul_of_pos_right hL2 (Nat.two_pow_pos _)
  have hw : floatOfInt .f64 n = FloatKind.f64.format.word s ((L + 1022) * 2 ^ 52 + K) := by
    show FloatKind.f64.format.nearest (decide (n < 0)) n.natAbs 0 = _
    rw [← hs, ← hm]
    unfold Format.nearest
    rw [if_neg hm0, e1, e2, e3, e4, ← hL]
    have hl : max (0 + (L : Int) - (52 : Nat)) (-1074) = (L : Int) - 52 := by omega
    simp only [hl]
    rw [show ((0 : Int) - ((L : Int) - 52)).toNat = 52 - L by omega, show ((L : Int) - 52 - 0).toNat = 0 by omega, show ((L : Int) - 52 - -1074).toNat = L + 1022 by omega, cut_zero, Nat.shiftLeft_eq, ← hK, Nat.min_eq_left (by omega)]
  have hr := read_word (s := s) (r := (L + 1022) * 2 ^ 52 + K) (by omega) (by omega)
  rw [show 2 ^ 52 + ((L + 1022) * 2 ^ 52 + K) % 2 ^ 52 = K by omega, show ((L + 1022) * 2 ^ 52 + K) / 2 ^ 52 - 1 = L + 1022 by omega] at hr
  unfold keyF
  rw [hw, hr]
  refine ⟨?_, by show (-1074 : Int) ≤ _; omega⟩
  show ((0 : Int), signed s K (-1074 + ((L + 1022 : Nat) : Int) + 1074).toNat) = _
  rw [show (-1074 + ((L + 1022 : Nat) : Int) + 1074).toNat = L + 1022 by omega]
  rw [← hE]
  have hsh : K <<< (L + 1022) = m * 2 ^ E := by
    rw [Nat.shiftLeft_eq, hK, Nat.mul_assoc, ← Nat.pow_add]
    rw [e5]
  unfold signed
  rw [hsh]
  subst hs
  generalize 2 ^ E = B
  by_cases hn : n < 0
  · have hmn : -(m : Int) = n := by clear hsh; omega
    rw [decide_eq_true hn, if_pos rfl, Int.natCast_mul, ← Int.neg_mul, hmn]
  · have hmn : (m : Int) = n := by clear hsh; omega
    rw [decide_eq_false hn, if_neg (by simp), Int.natCast_mul, hmn]
end Go.Proofs.YtgmahieoiifpfaaGreat
end
section
set_option linter.unusedVariables false
namespace Go.Proofs.YtgmahieoiifpfaaGreat
set_option linter.unusedSimpArgs false
theorem lx_neg (a r : Int) : lx (-a) (-r) = - lx a r := by
  unfold lx
  by_cases h : a = 0
  · rw [if_neg (by simp [h]), if_neg (by simp [h])]
  · rw [if_pos (by omega), if_pos h]
theorem lx_pos {a r : Int} (h : a ≠ 0) : lx a r = a := if_pos h
theorem lx_zero {a r : Int} (h : a = 0) : lx a r = r := if_neg (by simp [h])
theorem lx_is_zero {a r : Int} : lx a r = 0 ↔ a = 0 ∧ r = 0 := by
  unfold lx
  by_cases h : a = 0
  · rw [if_neg (by simp [h])]; simp [h]
  · rw [if_pos h]; simp [h]
/-- Numbers compared. -/
def cmpNu (x y : GV) : Int := if x.kind = 2 ∧ y.kind = 2 then cmpI x.n y.n else cmpFs (asF x) (asF y)
def bodyP (r : Int) (x y : GV) : Int := if r = 0 then cmpNu x y else if r = 1 then cmpS x.s y.s else if r = 2 then cmpI x.n y.n else if r = 3 then cmpPl x.l y.l else if r = 4 then cmpPm x.keys x.l y.keys y.l else 0
theorem cmpP_lx (x y : GV) : cmpP x y = lx (cmpI (rankV x) (rankV y)) (bodyP (rankV x) x y) := by
  cases x; cases y
  simp only [cmpP]
  rfl
theorem cmpPl_cons (x y : GV) (r q : List GV) : cmpPl (x :: r) (y :: q) = lx (cmpP x y) (cmpPl r q) := by simp only [cmpPl]; rfl
theorem cmpPm_cons (k k' : ByteArray) (ks ks' : List ByteArray) (x y : GV) (r q : List GV) : cmpPm (k :: ks) (x :: r) (k' :: ks') (y :: q) = lx (cmpS k k') (lx (cmpP x y) (cmpPm ks r ks' q)) := by simp only [cmpPm]; rfl
theorem cmpPl_nil (b : List GV) : cmpPl [] b = cmpI 0 b.length := by simp only [cmpPl]
theorem cmpPl_nil' (a : List GV) : cmpPl a [] = cmpI a.length 0 := by cases a <;> simp only [cmpPl] <;> rfl
theorem cmpI_lt {a b : Int} (h : a < b) : cmpI a b = -1 := if_pos h
theorem cmpI_gt {a b : Int} (h : b < a) : cmpI a b = 1 := by unfold cmpI; rw [if_neg (by omega), if_pos h]
theorem cmpI_self (a : Int) : cmpI a a = 0 := cmpI_zero.2 rfl
theorem rng_Pl : ∀ {a b : List GV}, (∀ x ∈ a, ∀ y, rng (cmpP x y)) → rng (cmpPl a b)
  | [], b, _ => by rw [cmpPl_nil]; exact rng_cmpI _ _
  | a :: r, [], _ => by rw [cmpPl_nil']; exact rng_cmpI _ _
  | x :: r, y :: q, h => by rw [cmpPl_cons]; exact rng_lx (h x (by simp) y) (rng_Pl fun z hz => h z (by simp [hz]))
theorem rng_Pm : ∀ {ks : List ByteArray} {a : List GV} {ks' : List ByteArray} {b : List GV}, (∀ x ∈ a, ∀ y, rng (cmpP x y)) → rng (cmpPm ks a ks' b)
  | [], _, _, _, _ => by simp only [cmpPm]; exact rng_cmpI _ _
  | _ :: _, [], _, _, _ => by simp only [cmpPm]; exact rng_cmpI _ _
  | _ :: _, _ :: _, [], _, _ => by simp only [cmpPm]; exact rng_cmpI _ _
  | _ :: _, _ :: _, _ :: _, [], _ => by simp only [cmpPm]; exact rng_cmpI _ _
  | k :: ks, x :: r, k' :: ks', y :: q, h => by
    rw [cmpPm_cons]
    exact rng_lx (rng_cmpS _ _) (rng_lx (h x (by simp) y) (rng_Pm fun z hz => h z (by simp [hz])))
theorem rng_cmpNu (x y : GV) : rng (cmpNu x y) := by
  unfold cmpNu
  split
  · exact rng_cmpI _ _
  · exact rng_cmpFs _ _
theorem rng_body (r : Int) {x y : GV} (h : ∀ z ∈ x.l, ∀ u, rng (cmpP z u)) : rng (bodyP r x y) := by
  unfold bodyP
  split
  · exact rng_cmpNu _ _
  · split
    · exact rng_cmpS _ _
    · split
      · exact rng_cmpI _ _
      · split
        · exact rng_Pl h
        · split
          · exact rng_Pm h
          · exact .inr (.inl rfl)
theorem sz_l {x z : GV} (h : z ∈ x.l) : SizeOf.sizeOf z < SizeOf.sizeOf x := by
  cases x
  have := List.sizeOf_lt_of_mem h
  simp only [GV.mk.sizeOf_spec]
  have e : ∀ (k n : Int) (f : Nat) (s : ByteArray) (ks : List ByteArray) (l : List GV), (GV.mk k n f s ks l).l = l := fun _ _ _ _ _ _ => rfl
  rw [e] at this
  omega
theorem rng_P (x y : GV) : rng (cmpP x y) := by
  induction hk : SizeOf.sizeOf x using Nat.strongRecOn generalizing x y with
  | _ n IH =>
  subst hk
  rw [cmpP_lx]
  exact rng_lx (rng_cmpI _ _) (rng_body _ fun z hz u => IH _ (sz_l hz) z u rfl)
theorem swap_Pl : ∀ {a b : List GV}, (∀ x ∈ a, ∀ y, cmpP y x = - cmpP x y) → cmpPl b a = - cmpPl a b
  | [], b, _ => by rw [cmpPl_nil, cmpPl_nil', cmpI_swap]
  | a :: r, [], _ => by rw [cmpPl_nil, cmpPl_nil', cmpI_swap]
  | x :: r, y :: q, h => by rw [cmpPl_cons, cmpPl_cons, h x (by simp), swap_Pl fun z hz => h z (by simp [hz]), lx_neg]
theorem swap_Pm : ∀ {ks : List ByteArray} {a : List GV} {ks' : List ByteArray} {b : List GV}, (∀ x ∈ a, ∀ y, cmpP y x = - cmpP x y) → cmpPm ks' b ks a = - cmpPm ks a ks' b
  | [], a, ks', b, _ => by cases ks' <;> cases b <;> cases a <;> simp only [cmpPm] <;> exact cmpI_swap _ _
  | k :: ks, [], ks', b, _ => by cases ks' <;> cases b <;> simp only [cmpPm] <;> exact cmpI_swap _ _
  | _ :: _, _ :: _, [], b, _ => by cases b <;> simp only [cmpPm] <;> exact cmpI_swap _ _
  | _ :: _, _ :: _, _ :: _, [], _ => by simp only [cmpPm]; exact cmpI_swap _ _
  | k :: ks, x :: r, k' :: ks', y :: q, h => by
    rw [cmpPm_cons, cmpPm_cons, cmpS_swap k k', h x (by simp), swap_Pm fun z hz => h z (by simp [hz]), lx_neg, lx_neg]
theorem swap_P (x y : GV) : cmpP y x = - cmpP x y := by
  induction hk : SizeOf.sizeOf x using Nat.strongRecOn generalizing x y with
  | _ n IH =>
  subst hk
  rw [cmpP_lx, cmpP_lx, cmpI_swap (rankV x)]
  by_cases hr : rankV x = rankV y
  · have hb : bodyP (rankV y) y x = - bodyP (rankV x) x y := by
      rw [← hr]
      unfold bodyP
      split
      · unfold cmpNu
        by_cases h : x.kind = 2 ∧ y.kind = 2
        · rw [if_pos h, if_pos ⟨h.2, h.1⟩, cmpI_swap]
        · rw [if_neg h, if_neg (fun h' => h ⟨h'.2, h'.1⟩), cmpFs_swap]
      · split
        · exact cmpS_swap _ _
        · split
          · exact cmpI_swap _ _
          · split
            · exact swap_Pl fun z hz u => IH _ (sz_l hz) z u rfl
            · split
              · exact swap_Pm fun z hz u => IH _ (sz_l hz) z u rfl
              · rfl
    rw [hb, lx_neg]
  · have h1 : cmpI (rankV x) (rankV y) ≠ 0 := fun h => hr (cmpI_zero.1 h)
    rw [lx_pos (by omega), lx_pos h1]
mutual
/-- A plain value without NaN and whole numbers beyond 2^53. -/
def OG : GV → Prop
  | .mk k n f s ks l => OGs l ∧ ((k = 0 ∧ n = 0 ∧ s = ByteArray.empty ∧ ks = [] ∧ l = []) ∨ (k = 1 ∧ s = ByteArray.empty ∧ ks = [] ∧ l = []) ∨ (k = 2 ∧ -9007199254740992 ≤ n ∧ n ≤ 9007199254740992) ∨ (k = 3 ∧ feq f f = true)
    ∨ (k = 4 ∧ n = 0 ∧ ks = [] ∧ l = []) ∨ (k = 5 ∧ n = 0 ∧ s = ByteArray.empty ∧ ks = []) ∨ (k = 6 ∧ n = 0 ∧ s = ByteArray.empty ∧ Incr ks ∧ ks.length = l.length))
def OGs : List GV → Prop
  | [] => True
  | x :: r => OG x ∧ OGs r
end
theorem OGs_mem : ∀ {l : List GV}, OGs l → ∀ y ∈ l, OG y
  | x :: r, h, y, hy => by
    simp only [OGs] at h
    rcases List.mem_cons.1 hy with rfl | hy
    · exact h.1
    · exact OGs_mem h.2 y hy
theorem OGs_of : ∀ {l : List GV}, (∀ y ∈ l, OG y) → OGs l
  | [], _ => by simp only [OGs]
  | x :: r, h => by simp only [OGs]; exact ⟨h x (by simp), OGs_of fun y hy => h y (by simp [hy])⟩
theorem OG.subs {x : GV} (h : OG x) : ∀ y ∈ x.l, OG y := by
  cases x
  unfold OG at h
  exact OGs_mem h.1
/-- The key of a number. -/
def numK (x : GV) : Int × Int := if x.kind = 2 then (0, x.n * (2 ^ 1074 : Nat)) else keyF x.f
theorem rank_mk (k n : Int) (f : Nat) (s : ByteArray) (ks : List ByteArray) (l : List GV) : rankV (.mk k n f s ks l) = if k = 2 then 0 else if k = 3 then 0 else if k = 4 then 1 else if k = 1 then 2 else if k = 5 then 3 else if k = 6 then 4 else 5 := rfl
theorem OG.num {x : GV} (h : OG x) (hr : rankV x = 0) : keyF (asF x) = numK x ∧ Ieee.Datum.order (FloatKind.f64.format.read (asF x)) = Ieee.Datum.order (FloatKind.f64.format.read (asF x)) ∧ okD (FloatKind.f64.format.read (asF x)) ∧ (x.kind = 2 ∨ x.kind = 3) := by
  obtain ⟨k, n, f, s, ks, l⟩ := x
  unfold OG at h
  have e : asF (.mk k n f s ks l) = if k = 2 then floatOfInt .f64 n else f := rfl
  have e2 : numK (.mk k n f s ks l) = if k = 2 then (0, n * (2 ^ 1074 : Nat)) else keyF f := rfl
  rw [e, e2]
  rw [rank_mk] at hr
  obtain ⟨_, h⟩ := h
  rcases h with h | h | h | h | h | h | h <;> obtain ⟨rfl, h⟩ := h
  · exact absurd hr (by decide)
  · exact absurd hr (by decide)
  · obtain ⟨h1, h2⟩ := key_int h.1 h.2
    rw [if_pos rfl, if_pos rfl]
    exact ⟨h1, rfl, h2, .inl rfl⟩
  · rw [if_neg (by decide), if_neg (by decide)]
    exact ⟨rfl, rfl, feq_ok h, .inr rfl⟩
  · exact absurd hr (by decide)
  · exact absurd hr (by decide)
  · exact absurd hr (by decide)
theorem cmpNu_key {x y : GV} (hx : OG x) (hy : OG y) (h1 : rankV x = 0) (h2 : rankV y = 0) : cmpNu x y = cmpK (numK x) (numK y) := by
  obtain ⟨a1, _, a2, _⟩ := hx.num h1
  obtain ⟨b1, _, b2, _⟩ := hy.num h2
  unfold cmpNu
  by_cases h : x.kind = 2 ∧ y.kind = 2
  · rw [if_pos h]
    unfold numK cmpK
    rw [if_pos h.1, if_pos h.2]
    have hB := Nat.two_pow_pos 1074
    generalize 2 ^ 1074 = B at *
    show _ = lx (cmpI 0 0) (cmpI (x.n * (B : Int)) (y.n * (B : Int)))
    rw [lx_zero (cmpI_self 0)]
    exact (cmpI_mul _ hB).symm
  · rw [if_neg h, cmpFs_ord, ordI_order _ _ a2 b2, a1, b1]
theorem tri_Pl : ∀ {a b c : List GV}, (∀ x ∈ a, ∀ y ∈ b, ∀ z ∈ c, Tri (cmpP x y) (cmpP y z) (cmpP x z)) → Tri (cmpPl a b) (cmpPl b c) (cmpPl a c)
  | [], b, [], _ => by
    rw [cmpPl_nil, cmpPl_nil, cmpPl_nil']
    exact tri_cmpI 0 b.length 0
  | [], [], z :: c, _ => by
    rw [cmpPl_nil, cmpPl_nil]
    exact tri_cmpI 0 0 _
  | [], y :: b, z :: c, _ => by
    rw [cmpPl_nil, cmpPl_nil, cmpI_lt (by first | (simp; done) | (simp; omega)), cmpI_lt (by first | (simp; done) | (simp; omega))]
    have := rng_Pl (a := y :: b) (b := z :: c) (fun x _ y => rng_P x y)
    unfold rng at this
    constructor <;> omega
  | x :: a, [], c, _ => by
    rw [cmpPl_nil', cmpPl_nil, cmpI_gt (by first | (simp; done) | (simp; omega))]
    have h1 := rng_Pl (a := x :: a) (b := c) (fun x _ y => rng_P x y)
    have h2 := rng_cmpI 0 c.length
    unfold rng at h1 h2
    cases c with
    | nil => rw [show cmpI 0 ((([] : List GV).length : Nat) : Int) = 0 from rfl, cmpPl_nil', cmpI_gt (by first | (simp; done) | (simp; omega))]; constructor <;> omega
    | cons z c => rw [cmpI_lt (by first | (simp; done) | (simp; omega))]; constructor <;> omega
  | x :: a, y :: b, [], _ => by
    rw [cmpPl_nil', cmpPl_nil', cmpI_gt (by first | (simp; done) | (simp; omega)), cmpI_gt (by first | (simp; done) | (simp; omega))]
    have h1 := rng_Pl (a := x :: a) (b := y :: b) (fun x _ y => rng_P x y)
    unfold rng at h1
    constructor <;> omega
  | x :: a, y :: b, z :: c, h => by
    rw [cmpPl_cons, cmpPl_cons, cmpPl_cons]
    exact tri_lx (h x (by simp) y (by simp) z (by simp)) (rng_Pl fun x _ y => rng_P x y) (rng_Pl fun x _ y => rng_P x y) (rng_Pl fun x _ y => rng_P x y) (fun _ _ => tri_Pl fun x hx y hy z hz => h x (by simp [hx]) y (by simp [hy]) z (by simp [hz]))
theorem cmpPm_nil {ks : List ByteArray} {b : List GV} (a : List GV) : cmpPm [] a ks b = cmpI 0 ks.length := by simp only [cmpPm]; rfl
theorem cmpPm_nil' {ks : List ByteArray} {a : List GV} (b : List GV) : cmpPm ks a [] b = cmpI ks.length 0 := by cases ks <;> cases a <;> simp only [cmpPm] <;> rfl
theorem tri_Pm : ∀ {k1 : List ByteArray} {a : List GV} {k2 : List ByteArray} {b : List GV} {k3 : List ByteArray} {c : List GV}, k1.length = a.length → k2.length = b.length → k3.length = c.length → (∀ x ∈ a, ∀ y ∈ b, ∀ z ∈ c, Tri (cmpP x y) (cmpP y z) (cmpP x z)) → Tri (cmpPm k1 a k2 b) (cmpPm k2 b k3 c) (cmpPm k1 a k3 c)
  | [], a, k2, b, [], c, _, _, _, _ => by
    rw [cmpPm_nil, cmpPm_nil, cmpPm_nil']
    exact tri_cmpI 0 k2.length 0
  | [], a, [], b, z :: k3, c, _, _, _, _ => by
    rw [cmpPm_nil, cmpPm_nil, cmpPm_nil]
    exact tri_cmpI 0 0 _
  | [], a, y :: k2, b, z :: k3, c, _, _, _, _ => by
    rw [cmpPm_nil, cmpPm_nil, cmpI_lt (by first | (simp; done) | (simp; omega)), cmpI_lt (by first | (simp; done) | (simp; omega))]
    have := rng_Pm (ks := y :: k2) (a := b) (ks' := z :: k3) (b := c) (fun x _ y => rng_P x y)
    unfold rng at this
    constructor <;> omega
  | x :: k1, a, [], b, k3, c, _, _, _, _ => by
    rw [cmpPm_nil', cmpPm_nil, cmpI_gt (by first | (simp; done) | (simp; omega))]
    have h1 := rng_Pm (ks := x :: k1) (a := a) (ks' := k3) (b := c) (fun x _ y => rng_P x y)
    have h2 := rng_cmpI 0 k3.length
    unfold rng at h1 h2
    cases k3 with
    | nil => rw [show cmpI 0 ((([] : List ByteArray).length : Nat) : Int) = 0 from rfl, cmpPm_nil', cmpI_gt (by first | (simp; done) | (simp; omega))]; constructor <;> omega
    | cons z c => rw [cmpI_lt (by first | (simp; done) | (simp; omega))]; constructor <;> omega
  | x :: k1, a, y :: k2, b, [], c, _, _, _, _ => by
    rw [cmpPm_nil', cmpPm_nil', cmpI_gt (by first | (simp; done) | (simp; omega)), cmpI_gt (by first | (simp; done) | (simp; omega))]
    have h1 := rng_Pm (ks := x :: k1) (a := a) (ks' := y :: k2) (b := b) (fun x _ y => rng_P x y)
    unfold rng at h1
    constructor <;> omega
  | u :: k1, x :: a, v :: k2, y :: b, w :: k3, z :: c, h1, h2, h3, h => by
    rw [cmpPm_cons, cmpPm_cons, cmpPm_cons]
    have R : ∀ (ks : List ByteArray) (a : List GV) (ks' : List ByteArray) (b : List GV), rng (cmpPm ks a ks' b) := fun _ _ _ _ => rng_Pm fun x _ y => rng_P x y
    exact tri_lx (tri_cmpS u v w) (rng_lx (rng_P _ _) (R _ _ _ _)) (rng_lx (rng_P _ _) (R _ _ _ _)) (rng_lx (rng_P _ _) (R _ _ _ _)) (fun _ _ =>
      tri_lx (h x (by simp) y (by simp) z (by simp)) (R _ _ _ _) (R _ _ _ _) (R _ _ _ _) (fun _ _ => tri_Pm (by simpa using h1) (by simpa using h2) (by simpa using h3) fun x hx y hy z hz => h x (by simp [hx]) y (by simp [hy]) z (by simp [hz])))
  | u :: k1, [], _, _, _, _, h1, _, _, _ => by simp at h1
  | _ :: _, _ :: _, v :: k2, [], _, _, _, h2, _, _ => by simp at h2
  | _ :: _, _ :: _, _ :: _, _ :: _, w :: k3, [], _, _, h3, _ => by simp at h3
theorem OG.keys {x : GV} (h : OG x) (hr : rankV x = 4) : x.keys.length = x.l.length ∧ Incr x.keys := by
  obtain ⟨k, n, f, s, ks, l⟩ := x
  unfold OG at h
  rw [rank_mk] at hr
  obtain ⟨_, h⟩ := h
  rcases h with h | h | h | h | h | h | h <;> obtain ⟨rfl, h⟩ := h
  · exact absurd hr (by decide)
  · exact absurd hr (by decide)
  · exact absurd hr (by decide)
  · exact absurd hr (by decide)
  · exact absurd hr (by decide)
  · exact absurd hr (by decide)
  · exact ⟨h.2.2.2, h.2.2.1⟩
/-- Comparing orderly values: a total order. -/
theorem tri_P (x y z : GV) (hx : OG x) (hy : OG y) (hz : OG z) : Tri (cmpP x y) (cmpP y z) (cmpP x z) := by
  induction hk : SizeOf.sizeOf x using Nat.strongRecOn generalizing x y z with
  | _ n IH =>
  subst hk
  rw [cmpP_lx, cmpP_lx, cmpP_lx]
  refine tri_lx (tri_cmpI _ _ _) (rng_body _ fun z _ u => rng_P z u) (rng_body _ fun z _ u => rng_P z u) (rng_body _ fun z _ u => rng_P z u) fun h1 h2 => ?_
  have h1 := cmpI_zero.1 h1
  have h2 := cmpI_zero.1 h2
  have ih : ∀ a ∈ x.l, ∀ b ∈ y.l, ∀ c ∈ z.l, Tri (cmpP a b) (cmpP b c) (cmpP a c) := fun a ha b hb c hc => IH _ (sz_l ha) a b c (hx.subs a ha) (hy.subs b hb) (hz.subs c hc) rfl
  unfold bodyP
  rw [← h1]
  split
  · rename_i h0
    rw [cmpNu_key hx hy h0 (by omega), cmpNu_key hy hz (by omega) (by omega), cmpNu_key hx hz h0 (by omega)]
    exact tri_cmpK _ _ _
  · split
    · exact tri_cmpS _ _ _
    · split
      · exact tri_cmpI _ _ _
      · split
        · exact tri_Pl ih
        · split
          · rename_i h4
            exact tri_Pm (hx.keys h4).1 (hy.keys (by omega)).1 (hz.keys (by omega)).1 ih
          · constructor <;> omega
end Go.Proofs.YtgmahieoiifpfaaGreat
end
section
set_option linter.unusedVariables false
namespace Go.Proofs.YtgmahieoiifpfaaGreat
open Go.RowKit
set_option linter.unusedSimpArgs false
set_option maxHeartbeats 4000000 in
theorem sMaps_p (k n : Int) (f : Nat) (s : ByteArray) (ks : List ByteArray) (l : List GV) (k' n' : Int) (f' : Nat) (s' : ByteArray) (ks' : List ByteArray) (l' : List GV) (hL : ks.length ≤ l.length) (hL' : ks'.length ≤ l'.length) (ih : ∀ a ∈ l, ∀ b ∈ l', PCall Tryz.prog 246 [qV a, qV b] (.val (.int .i64 (cmpP a b)))) :
    PCall Tryz.prog 260 [qV (.mk k n f s ks l), qV (.mk k' n' f' s' ks' l')] (.val (.int .i64 (cmpPm ks l ks' l'))) := by
  refine pcall_fits fun hfit => ?_
  have b1 := (Fits.aggAt (hfit (qV (.mk k n f s ks l)) (by simp)) 4 (d := .sl 1 16 (pdS ks)) rfl).sl.2.1
  rw [pdS_len] at b1
  clear hfit
  have hlk := pdS_len ks
  have hlk' := pdS_len ks'
  have cI := sInts_p (((pdS ks).length : Nat) : Int) (((pdS ks').length : Nat) : Int)
  refine pcall_of_run Tryz.func260 rfl Tryz.ntmps260 rfl (fun X => ?_)
  repeat' (first
    | refine run_seq ?_
    | (refine k_pick rfl ?_; first | refine k_assignD rfl rfl ?_ | refine k_boxW rfl rfl rfl (by first | rfl | (simp only [cellsD]; rfl)) ?_)
    | refine run_opsEnd ?_
    | refine run_region ?_
    | refine run_block ?_
    | fail)
  refine run_loopS (ι := { j : Nat // (j ≤ ks.length ∧ j ≤ ks'.length) ∧ ∀ i u v x y, i < j → ks[i]? = some u → ks'[i]? = some v → l[i]? = some x → l'[i]? = some y → cmpS u v = 0 ∧ cmpP x y = 0 })
    (fun j => [(2, .ptr 2 0), (3, .ptr 3 0), (5, .dat (.val (.int .i64 (j.1 : Nat))))])
    (fun _ => [(2, .box 27 (cellsD (qV (.mk k n f s ks l)))), (3, .box 27 (cellsD (qV (.mk k' n' f' s' ks' l'))))]) (fun j => ks.length - j.1) ⟨0, ⟨Nat.zero_le _, Nat.zero_le _⟩, fun i _ _ _ _ h => absurd h (Nat.not_lt_zero i)⟩ id ?_ ?_
  · (refine ⟨?_, ?_, by rfl⟩ <;> repeat' (first | exact trivial | exact ALe.ptr rfl | exact ALe.own rfl | exact ALe.elt rfl | exact BLe.boxD _ _ | exact BLe.row rfl | exact BLe.res | exact BLe.dead rfl | exact ALe.dat (PLe.refl _) | exact CLe.nil | refine And.intro ?_ ?_ | refine ALe.iface ?_ | refine ALe.clo ?_ | refine CLe.cons ?_ ?_ | refine BLe.box ?_ | refine BLe.row ?_ | exact ALe.any _ | refine ALe.dat (PLe.of_eq ?_)))
  rintro ⟨j, ⟨hj, hj'⟩, hall⟩
  have hend : j = ks.length ∨ j = ks'.length → cmpPm ks l ks' l' = cmpI (((pdS ks).length : Nat) : Int) (((pdS ks').length : Nat) : Int) := fun h => by
    rw [hlk, hlk']
    exact cmpPm_end hL hL' (fun i u v x y hu hv => hall i u v x y (by
      have := (List.getElem?_eq_some_iff.1 hu).1
      have := (List.getElem?_eq_some_iff.1 hv).1
      omega) hu hv)
  by_cases hlt : j < ks.length
  · have g1 : decide ((j : Int) < (((pdS ks).length : Nat) : Int)) = true := decide_eq_true (by omega)
    by_cases hlt' : j < ks'.length
    · have g2 : decide ((j : Int) < (((pdS ks').length : Nat) : Int)) = true := decide_eq_true (by omega)
      obtain ⟨u, hu⟩ : ∃ u, ks[j]? = some u := ⟨_, List.getElem?_eq_getElem hlt⟩
      obtain ⟨v, hv⟩ : ∃ v, ks'[j]? = some v := ⟨_, List.getElem?_eq_getElem hlt'⟩
      obtain ⟨x, hx⟩ : ∃ x, l[j]? = some x := ⟨_, List.getElem?_eq_getElem (by omega)⟩
      obtain ⟨y, hy⟩ : ∃ y, l'[j]? = some y := ⟨_, List.getElem?_eq_getElem (by omega)⟩
      have k1 : (pdS ks)[((j : Nat) : Int).toNat]? = some (.val (.string u)) := pdS_at hu
      have k2 : (pdS ks')[((j : Nat) : Int).toNat]? = some (.val (.string v)) := pdS_at hv
      have i1 : (pdVs l)[((j : Nat) : Int).toNat]? = some (qV x) := by rw [show qV x = pdV x from (pdV_eq x).symm]; exact pdVs_at hx
      have i2 : (pdVs l')[((j : Nat) : Int).toNat]? = some (qV y) := by rw [show qV y = pdV y from (pdV_eq y).symm]; exact pdVs_at hy
      have hC := ih x (List.mem_of_getElem? hx) y (List.mem_of_getElem? hy)
      have hS := sStrs_p u v
      by_cases hs : cmpS u v = 0
      · have g3 : decide (cmpS u v ≠ 0) = false := decide_eq_false (by simp [hs])
        by_cases hr : cmpP x y = 0
        · have g4 : decide (cmpP x y ≠ 0) = false := decide_eq_false (by simp [hr])
          repeat' (first
    | refine run_seq ?_
    | (refine k_pick rfl ?_; first | refine k_assignD rfl rfl ?_ | refine k_moveD rfl rfl ?_ | refine k_fieldAddrB rfl rfl rfl ?_ | refine k_loadBD rfl rfl rfl (by first | rfl | (simp only [cellsD]; rfl)) ?_ | refine k_bin2B rfl rfl rfl rfl ?_ | refine k_pickT rfl rfl (by first | rfl | assumption) rfl ?_ | refine k_lenD rfl rfl ?_ | refine k_ariI rfl rfl rfl rfl (by first | omega | (dsimp only; omega)) ?_)
    | refine run_opsEnd ?_
    | refine run_region ?_
    | refine run_condT rfl (by first | rfl | assumption) ?_
    | refine run_condF rfl (by first | rfl | assumption) ?_
    | (refine k_guardY rfl rfl (by first | rfl | assumption) ?_; first | refine k_moveD rfl rfl ?_ | refine k_fieldAddrB rfl rfl rfl ?_ | refine k_loadBD rfl rfl rfl (by first | rfl | (simp only [cellsD]; rfl)) ?_ | refine k_bin2B rfl rfl rfl rfl ?_ | refine k_lenD rfl rfl ?_)
    | refine run_block ?_
    | refine run_blkEnd ?_
    | refine run_skip ?_
    | refine run_drawC (by kernel_rfl) ?_
    | refine c_nil (And.intro (by kernel_rfl) ?_)
    | refine c_pick (d_indexAddrD rfl rfl rfl (by first | omega | (dsimp only; omega)) (by assumption)) ?_
    | refine c_pick (d_assignD rfl rfl) ?_
    | refine c_pick (d_moveD rfl rfl) ?_
    | refine c_pick (d_fieldAddrB rfl rfl rfl) ?_
    | refine c_pick (d_loadBD rfl rfl rfl (by first | rfl | (simp only [cellsD]; rfl))) ?_
    | refine c_pick (d_call rfl (by kernel_rfl) rfl (by first | exact hC | exact hS)) ?_
    | refine c_pick (d_loadD rfl rfl (by first | rfl | (simp only [cellsD]; rfl))) ?_
    | fail)
          refine run_again ?_
          refine ⟨⟨j + 1, ⟨by omega, by omega⟩, fun i u' v' x' y' hi hu' hv' hx' hy' => ?_⟩, id, by simp only; omega, ?_⟩
          · by_cases e : i = j
            · subst e
              rw [hu] at hu'; rw [hv] at hv'
              rw [hx] at hx'; rw [hy] at hy'
              cases hu'; cases hv'
              cases hx'; cases hy'
              exact ⟨hs, hr⟩
            · exact hall i u' v' x' y' (by omega) hu' hv' hx' hy'
          (refine ⟨?_, ?_, by rfl⟩ <;> repeat' (first | exact trivial | exact ALe.ptr rfl | exact ALe.own rfl | exact ALe.elt rfl | exact BLe.boxD _ _ | exact BLe.row rfl | exact BLe.res | exact BLe.dead rfl | exact ALe.dat (PLe.refl _) | exact CLe.nil | refine And.intro ?_ ?_ | refine ALe.iface ?_ | refine ALe.clo ?_ | refine CLe.cons ?_ ?_ | refine BLe.box ?_ | refine BLe.row ?_ | exact ALe.any _ | refine ALe.dat (PLe.of_eq ?_)))
        · have g4 : decide (cmpP x y ≠ 0) = true := decide_eq_true hr
          rw [cmpPm_ne2 hL hL' (fun i u v x y hi => hall i u v x y hi) hu hv hx hy hs hr]
          repeat' (first
    | refine run_seq ?_
    | (refine k_pick rfl ?_; first | refine k_assignD rfl rfl ?_ | refine k_moveD rfl rfl ?_ | refine k_fieldAddrB rfl rfl rfl ?_ | refine k_loadBD rfl rfl rfl (by first | rfl | (simp only [cellsD]; rfl)) ?_ | refine k_bin2B rfl rfl rfl rfl ?_ | refine k_pickT rfl rfl (by first | rfl | assumption) rfl ?_ | refine k_lenD rfl rfl ?_)
    | refine run_opsEnd ?_
    | refine run_region ?_
    | refine run_condT rfl (by first | rfl | assumption) ?_
    | refine run_condF rfl (by first | rfl | assumption) ?_
    | (refine k_guardY rfl rfl (by first | rfl | assumption) ?_; first | refine k_moveD rfl rfl ?_ | refine k_fieldAddrB rfl rfl rfl ?_ | refine k_loadBD rfl rfl rfl (by first | rfl | (simp only [cellsD]; rfl)) ?_ | refine k_bin2B rfl rfl rfl rfl ?_ | refine k_lenD rfl rfl ?_)
    | refine run_block ?_
    | refine run_skip ?_
    | refine run_retOk (resOk_tmp rfl rfl ?_)
    | refine run_drawC (by kernel_rfl) ?_
    | refine c_nil (And.intro (by kernel_rfl) ?_)
    | refine c_pick (d_indexAddrD rfl rfl rfl (by first | omega | (dsimp only; omega)) (by assumption)) ?_
    | refine c_pick (d_assignD rfl rfl) ?_
    | refine c_pick (d_moveD rfl rfl) ?_
    | refine c_pick (d_fieldAddrB rfl rfl rfl) ?_
    | refine c_pick (d_loadBD rfl rfl rfl (by first | rfl | (simp only [cellsD]; rfl))) ?_
    | refine c_pick (d_call rfl (by kernel_rfl) rfl (by first | exact hC | exact hS)) ?_
    | refine c_pick (d_loadD rfl rfl (by first | rfl | (simp only [cellsD]; rfl))) ?_
    | fail)
          all_goals exact PLe.refl _
      · have g3 : decide (cmpS u v ≠ 0) = true := decide_eq_true hs
        rw [cmpPm_ne1 hL hL' (fun i u v x y hi => hall i u v x y hi) hu hv hs]
        repeat' (first
    | refine run_seq ?_
    | (refine k_pick rfl ?_; first | refine k_assignD rfl rfl ?_ | refine k_moveD rfl rfl ?_ | refine k_fieldAddrB rfl rfl rfl ?_ | refine k_loadBD rfl rfl rfl (by first | rfl | (simp only [cellsD]; rfl)) ?_ | refine k_bin2B rfl rfl rfl rfl ?_ | refine k_pickT rfl rfl (by first | rfl | assumption) rfl ?_ | refine k_lenD rfl rfl ?_)
    | refine run_opsEnd ?_
    | refine run_region ?_
    | refine run_condT rfl (by first | rfl | assumption) ?_
    | (refine k_guardY rfl rfl (by first | rfl | assumption) ?_; first | refine k_moveD rfl rfl ?_ | refine k_fieldAddrB rfl rfl rfl ?_ | refine k_loadBD rfl rfl rfl (by first | rfl | (simp only [cellsD]; rfl)) ?_ | refine k_bin2B rfl rfl rfl rfl ?_ | refine k_lenD rfl rfl ?_)
    | refine run_block ?_
    | refine run_skip ?_
    | refine run_retOk (resOk_tmp rfl rfl ?_)
    | refine run_drawC (by kernel_rfl) ?_
    | refine c_nil (And.intro (by kernel_rfl) ?_)
    | refine c_pick (d_indexAddrD rfl rfl rfl (by first | omega | (dsimp only; omega)) (by assumption)) ?_
    | refine c_pick (d_assignD rfl rfl) ?_
    | refine c_pick (d_moveD rfl rfl) ?_
    | refine c_pick (d_fieldAddrB rfl rfl rfl) ?_
    | refine c_pick (d_loadBD rfl rfl rfl (by first | rfl | (simp only [cellsD]; rfl))) ?_
    | refine c_pick (d_call rfl (by kernel_rfl) rfl (by first | exact hC | exact hS)) ?_
    | refine c_pick (d_loadD rfl rfl (by first | rfl | (simp only [cellsD]; rfl))) ?_
    | fail)
        all_goals exact PLe.refl _
    · have g2 : decide ((j : Int) < (((pdS ks').length : Nat) : Int)) = false := decide_eq_false (by omega)
      rw [hend (.inr (by omega))]
      repeat' (first
    | refine run_seq ?_
    | (refine k_pick rfl ?_; first | refine k_assignD rfl rfl ?_ | refine k_moveD rfl rfl ?_ | refine k_fieldAddrB rfl rfl rfl ?_ | refine k_loadBD rfl rfl rfl (by first | rfl | (simp only [cellsD]; rfl)) ?_ | refine k_bin2B rfl rfl rfl rfl ?_ | refine k_pickT rfl rfl (by first | rfl | assumption) rfl ?_ | refine k_call rfl (by kernel_rfl) rfl (by first | exact cI) ?_ | refine k_lenD rfl rfl ?_)
    | refine run_opsEnd ?_
    | refine run_region ?_
    | refine run_condF rfl (by first | rfl | assumption) ?_
    | (refine k_guardY rfl rfl (by first | rfl | assumption) ?_; first | refine k_moveD rfl rfl ?_ | refine k_fieldAddrB rfl rfl rfl ?_ | refine k_loadBD rfl rfl rfl (by first | rfl | (simp only [cellsD]; rfl)) ?_ | refine k_bin2B rfl rfl rfl rfl ?_ | refine k_lenD rfl rfl ?_)
    | refine run_exit rfl ?_
    | refine run_retOk (resOk_tmp rfl rfl ?_)
    | fail)
      all_goals exact PLe.refl _
  · have g1 : decide ((j : Int) < (((pdS ks).length : Nat) : Int)) = false := decide_eq_false (by omega)
    rw [hend (.inl (by omega))]
    repeat' (first
    | refine run_seq ?_
    | (refine k_pick rfl ?_; first | refine k_assignD rfl rfl ?_ | refine k_moveD rfl rfl ?_ | refine k_fieldAddrB rfl rfl rfl ?_ | refine k_loadBD rfl rfl rfl (by first | rfl | (simp only [cellsD]; rfl)) ?_ | refine k_bin2B rfl rfl rfl rfl ?_ | refine k_pickF rfl rfl (by first | rfl | assumption) rfl ?_ | refine k_call rfl (by kernel_rfl) rfl (by first | exact cI) ?_ | refine k_lenD rfl rfl ?_)
    | refine run_opsEnd ?_
    | refine run_region ?_
    | refine run_condF rfl (by first | rfl | assumption) ?_
    | refine k_guardNT rfl rfl (by first | rfl | assumption) rfl ?_
    | refine run_exit rfl ?_
    | refine run_retOk (resOk_tmp rfl rfl ?_)
    | fail)
    all_goals exact PLe.refl _
theorem fits_fl {x : GV} (h : Fits (qV x)) : (Lit.float .f64 x.f).wf = true := by
  obtain ⟨w, F, v, hv⟩ := h.aggAt 2 (d := .val (.float .f64 x.f)) rfl
  unfold Rep at hv
  exact hv.2
theorem sAsFloat_p (x : GV) : PCall Tryz.prog 200 [qV x] (.val (.float .f64 (asF x))) := by
  refine pcall_fits fun hf => ?_
  have hx := fits_fl (hf _ (List.mem_singleton.2 rfl))
  have := pcall_V1s (P := Tryz.prog) (f := 200) (x := x) (u := .float .f64 (asF x)) (by
    show (Lit.float .f64 (asF x)).wf = true
    unfold asF
    split
    · exact floatOfInt_wf _ _
    · exact hx) (fun w v hv => asFloat_any x w v hv)
  rw [pdV_eq] at this
  exact this
theorem rank_cases (x : GV) : rankV x = 0 ∨ rankV x = 1 ∨ rankV x = 2 ∨ rankV x = 3 ∨ rankV x = 4 ∨ rankV x = 5 := by
  unfold rankV
  repeat' split
  all_goals simp
set_option maxHeartbeats 8000000 in
theorem sPlain_p1 (x y : GV) (hx : PlG x) (hy : PlG y) (ih : ∀ a ∈ x.l, ∀ b ∈ y.l, PCall Tryz.prog 246 [qV a, qV b] (.val (.int .i64 (cmpP a b)))) : PCall Tryz.prog 246 [qV x, qV y] (.val (.int .i64 (cmpP x y))) := by
  obtain ⟨k, n, f, s, ks, l⟩ := x
  obtain ⟨k', n', f', s', ks', l'⟩ := y
  simp only [PlG] at hx hy
  have c1 := sRank_p (.mk k n f s ks l)
  have c2 := sRank_p (.mk k' n' f' s' ks' l')
  have c3 := sInts_p (rankV (.mk k n f s ks l)) (rankV (.mk k' n' f' s' ks' l'))
  have c4 := sAsFloat_p (.mk k n f s ks l)
  have c5 := sAsFloat_p (.mk k' n' f' s' ks' l')
  have c6 := sFloats_p (asF (.mk k n f s ks l)) (asF (.mk k' n' f' s' ks' l'))
  have c7 := sStrs_p s s'
  have c8 := sInts_p n n'
  have c9 := sLists_p l l' ih
  have c10 := sMaps_p k n f s ks l k' n' f' s' ks' l' hx.1 hy.1 ih
  have hr := rank_cases (.mk k n f s ks l)
  rw [show cmpP (.mk k n f s ks l) (.mk k' n' f' s' ks' l') = if cmpI (rankV (.mk k n f s ks l)) (rankV (.mk k' n' f' s' ks' l')) ≠ 0 then cmpI (rankV (.mk k n f s ks l)) (rankV (.mk k' n' f' s' ks' l'))
    else if rankV (.mk k n f s ks l) = 0 then (if k = 2 ∧ k' = 2 then cmpI n n' else cmpFs (asF (.mk k n f s ks l)) (asF (.mk k' n' f' s' ks' l')))
    else if rankV (.mk k n f s ks l) = 1 then cmpS s s'
    else if rankV (.mk k n f s ks l) = 2 then cmpI n n'
    else if rankV (.mk k n f s ks l) = 3 then cmpPl l l'
    else if rankV (.mk k n f s ks l) = 4 then cmpPm ks l ks' l'
    else 0 by simp only [cmpP]]
  clear ih hx hy
  generalize rankV (.mk k n f s ks l) = r at *
  generalize rankV (.mk k' n' f' s' ks' l') = r' at *
  generalize asF (.mk k n f s ks l) = A at *
  generalize asF (.mk k' n' f' s' ks' l') = B at *
  generalize cmpI r r' = R at *
  generalize cmpI n n' = R2 at *
  refine pcall_of_run Tryz.func246 rfl Tryz.ntmps246 rfl (fun X => ?_)
  by_cases h0 : R = 0
  rotate_left
  · have g0 : decide (R ≠ 0) = true := decide_eq_true h0
    rw [if_pos h0]
    repeat' (first
    | refine run_seq ?_
    | (refine k_pick rfl ?_; first | refine k_assignD rfl rfl ?_ | refine k_moveD rfl rfl ?_ | refine k_bin2B rfl rfl rfl rfl ?_ | refine k_boxW rfl rfl rfl (by first | rfl | (simp only [cellsD]; rfl)) ?_)
    | refine run_opsEnd ?_
    | refine run_region ?_
    | refine run_condT rfl (by first | rfl | assumption) ?_
    | refine run_retOk (resOk_tmp rfl rfl ?_)
    | refine run_drawC (by kernel_rfl) ?_
    | refine c_nil (And.intro (by kernel_rfl) ?_)
    | refine c_pick (d_assignD rfl rfl) ?_
    | refine c_pick (d_loadW rfl rfl rfl (by first | rfl | (simp only [cellsD]; rfl))) ?_
    | refine c_pick (d_call rfl (by kernel_rfl) rfl (by first | exact c1 | exact c2 | exact c3)) ?_
    | fail)
    all_goals exact PLe.refl _
  have g0 : decide (R ≠ 0) = false := decide_eq_false (by simp [h0])
  rw [if_neg (by simp [h0])]
  rcases hr with hr | hr | hr | hr | hr | hr <;> subst hr
  · rw [if_pos rfl]
    by_cases e1 : k = 2
    · have q1 : decide (k = 2) = true := decide_eq_true e1
      by_cases e2 : k' = 2
      · have q2 : decide (k' = 2) = true := decide_eq_true e2
        rw [if_pos ⟨e1, e2⟩]
        repeat' (first
    | refine run_seq ?_
    | (refine k_pick rfl ?_; first | refine k_assignD rfl rfl ?_ | refine k_moveD rfl rfl ?_ | refine k_fieldAddrB rfl rfl rfl ?_ | refine k_loadW rfl rfl rfl (by first | rfl | (simp only [cellsD]; rfl)) ?_ | refine k_loadBD rfl rfl rfl (by first | rfl | (simp only [cellsD]; rfl)) ?_ | refine k_bin2B rfl rfl rfl rfl ?_ | refine k_pickT rfl rfl (by first | rfl | assumption) rfl ?_ | refine k_boxW rfl rfl rfl (by first | rfl | (simp only [cellsD]; rfl)) ?_ | refine k_call rfl (by kernel_rfl) rfl (by first | exact c1 | exact c2 | exact c3 | exact c8) ?_)
    | refine run_opsEnd ?_
    | refine run_region ?_
    | refine run_condT rfl (by first | rfl | assumption) ?_
    | refine run_condF rfl (by first | rfl | assumption) ?_
    | (refine k_guardY rfl rfl (by first | rfl | assumption) ?_; first | refine k_fieldAddrB rfl rfl rfl ?_ | refine k_loadBD rfl rfl rfl (by first | rfl | (simp only [cellsD]; rfl)) ?_ | refine k_bin2B rfl rfl rfl rfl ?_)
    | refine run_block ?_
    | refine run_skip ?_
    | refine run_retOk (resOk_tmp rfl rfl ?_)
    | refine run_drawC (by kernel_rfl) ?_
    | refine c_nil (And.intro (by kernel_rfl) ?_)
    | refine c_pick (d_assignD rfl rfl) ?_
    | refine c_pick (d_loadW rfl rfl rfl (by first | rfl | (simp only [cellsD]; rfl))) ?_
    | refine c_pick (d_call rfl (by kernel_rfl) rfl (by first | exact c1 | exact c2 | exact c3 | exact c8)) ?_
    | fail)
        all_goals exact PLe.refl _
      · have q2 : decide (k' = 2) = false := decide_eq_false e2
        rw [if_neg (fun h => e2 h.2)]
        repeat' (first
    | refine run_seq ?_
    | (refine k_pick rfl ?_; first | refine k_assignD rfl rfl ?_ | refine k_moveD rfl rfl ?_ | refine k_fieldAddrB rfl rfl rfl ?_ | refine k_loadW rfl rfl rfl (by first | rfl | (simp only [cellsD]; rfl)) ?_ | refine k_loadBD rfl rfl rfl (by first | rfl | (simp only [cellsD]; rfl)) ?_ | refine k_bin2B rfl rfl rfl rfl ?_ | refine k_pickT rfl rfl (by first | rfl | assumption) rfl ?_ | refine k_boxW rfl rfl rfl (by first | rfl | (simp only [cellsD]; rfl)) ?_ | refine k_call rfl (by kernel_rfl) rfl (by first | exact c1 | exact c2 | exact c3 | exact c4 | exact c5 | exact c6) ?_)
    | refine run_opsEnd ?_
    | refine run_region ?_
    | refine run_condT rfl (by first | rfl | assumption) ?_
    | refine run_condF rfl (by first | rfl | assumption) ?_
    | (refine k_guardY rfl rfl (by first | rfl | assumption) ?_; first | refine k_fieldAddrB rfl rfl rfl ?_ | refine k_loadBD rfl rfl rfl (by first | rfl | (simp only [cellsD]; rfl)) ?_ | refine k_bin2B rfl rfl rfl rfl ?_)
    | refine run_block ?_
    | refine run_skip ?_
    | refine run_retOk (resOk_tmp rfl rfl ?_)
    | refine run_drawC (by kernel_rfl) ?_
    | refine c_nil (And.intro (by kernel_rfl) ?_)
    | refine c_pick (d_assignD rfl rfl) ?_
    | refine c_pick (d_loadW rfl rfl rfl (by first | rfl | (simp only [cellsD]; rfl))) ?_
    | refine c_pick (d_call rfl (by kernel_rfl) rfl (by first | exact c1 | exact c2 | exact c3 | exact c4 | exact c5 | exact c6)) ?_
    | fail)
        all_goals exact PLe.refl _
    · have q1 : decide (k = 2) = false := decide_eq_false e1
      rw [if_neg (fun h => e1 h.1)]
      repeat' (first
    | refine run_seq ?_
    | (refine k_pick rfl ?_; first | refine k_assignD rfl rfl ?_ | refine k_moveD rfl rfl ?_ | refine k_fieldAddrB rfl rfl rfl ?_ | refine k_loadW rfl rfl rfl (by first | rfl | (simp only [cellsD]; rfl)) ?_ | refine k_loadBD rfl rfl rfl (by first | rfl | (simp only [cellsD]; rfl)) ?_ | refine k_bin2B rfl rfl rfl rfl ?_ | refine k_pickF rfl rfl (by first | rfl | assumption) rfl ?_ | refine k_boxW rfl rfl rfl (by first | rfl | (simp only [cellsD]; rfl)) ?_ | refine k_call rfl (by kernel_rfl) rfl (by first | exact c1 | exact c2 | exact c3 | exact c4 | exact c5 | exact c6) ?_)
    | refine run_opsEnd ?_
    | refine run_region ?_
    | refine run_condT rfl (by first | rfl | assumption) ?_
    | refine run_condF rfl (by first | rfl | assumption) ?_
    | refine k_guardNT rfl rfl (by first | rfl | assumption) rfl ?_
    | refine run_block ?_
    | refine run_skip ?_
    | refine run_retOk (resOk_tmp rfl rfl ?_)
    | refine run_drawC (by kernel_rfl) ?_
    | refine c_nil (And.intro (by kernel_rfl) ?_)
    | refine c_pick (d_assignD rfl rfl) ?_
    | refine c_pick (d_loadW rfl rfl rfl (by first | rfl | (simp only [cellsD]; rfl))) ?_
    | refine c_pick (d_call rfl (by kernel_rfl) rfl (by first | exact c1 | exact c2 | exact c3 | exact c4 | exact c5 | exact c6)) ?_
    | fail)
      all_goals exact PLe.refl _
  · rw [if_neg (by decide), if_pos rfl]
    repeat' (first
    | refine run_seq ?_
    | (refine k_pick rfl ?_; first | refine k_assignD rfl rfl ?_ | refine k_moveD rfl rfl ?_ | refine k_fieldAddrB rfl rfl rfl ?_ | refine k_loadW rfl rfl rfl (by first | rfl | (simp only [cellsD]; rfl)) ?_ | refine k_loadBD rfl rfl rfl (by first | rfl | (simp only [cellsD]; rfl)) ?_ | refine k_bin2B rfl rfl rfl rfl ?_ | refine k_boxW rfl rfl rfl (by first | rfl | (simp only [cellsD]; rfl)) ?_ | refine k_call rfl (by kernel_rfl) rfl (by first | exact c1 | exact c2 | exact c3 | exact c7) ?_)
    | refine run_opsEnd ?_
    | refine run_region ?_
    | refine run_condT rfl (by first | rfl | assumption) ?_
    | refine run_condF rfl (by first | rfl | assumption) ?_
    | refine run_block ?_
    | refine run_skip ?_
    | refine run_retOk (resOk_tmp rfl rfl ?_)
    | refine run_drawC (by kernel_rfl) ?_
    | refine c_nil (And.intro (by kernel_rfl) ?_)
    | refine c_pick (d_assignD rfl rfl) ?_
    | refine c_pick (d_loadW rfl rfl rfl (by first | rfl | (simp only [cellsD]; rfl))) ?_
    | refine c_pick (d_call rfl (by kernel_rfl) rfl (by first | exact c1 | exact c2 | exact c3 | exact c7)) ?_
    | fail)
    all_goals exact PLe.refl _
  · rw [if_neg (by decide), if_neg (by decide), if_pos rfl]
    repeat' (first
    | refine run_seq ?_
    | (refine k_pick rfl ?_; first | refine k_assignD rfl rfl ?_ | refine k_moveD rfl rfl ?_ | refine k_fieldAddrB rfl rfl rfl ?_ | refine k_loadW rfl rfl rfl (by first | rfl | (simp only [cellsD]; rfl)) ?_ | refine k_loadBD rfl rfl rfl (by first | rfl | (simp only [cellsD]; rfl)) ?_ | refine k_bin2B rfl rfl rfl rfl ?_ | refine k_boxW rfl rfl rfl (by first | rfl | (simp only [cellsD]; rfl)) ?_ | refine k_call rfl (by kernel_rfl) rfl (by first | exact c1 | exact c2 | exact c3 | exact c8) ?_)
    | refine run_opsEnd ?_
    | refine run_region ?_
    | refine run_condT rfl (by first | rfl | assumption) ?_
    | refine run_condF rfl (by first | rfl | assumption) ?_
    | refine run_block ?_
    | refine run_skip ?_
    | refine run_retOk (resOk_tmp rfl rfl ?_)
    | refine run_drawC (by kernel_rfl) ?_
    | refine c_nil (And.intro (by kernel_rfl) ?_)
    | refine c_pick (d_assignD rfl rfl) ?_
    | refine c_pick (d_loadW rfl rfl rfl (by first | rfl | (simp only [cellsD]; rfl))) ?_
    | refine c_pick (d_call rfl (by kernel_rfl) rfl (by first | exact c1 | exact c2 | exact c3 | exact c8)) ?_
    | fail)
    all_goals exact PLe.refl _
  · rw [if_neg (by decide), if_neg (by decide), if_neg (by decide), if_pos rfl]
    repeat' (first
    | refine run_seq ?_
    | (refine k_pick rfl ?_; first | refine k_assignD rfl rfl ?_ | refine k_moveD rfl rfl ?_ | refine k_fieldAddrB rfl rfl rfl ?_ | refine k_loadW rfl rfl rfl (by first | rfl | (simp only [cellsD]; rfl)) ?_ | refine k_loadBD rfl rfl rfl (by first | rfl | (simp only [cellsD]; rfl)) ?_ | refine k_bin2B rfl rfl rfl rfl ?_ | refine k_boxW rfl rfl rfl (by first | rfl | (simp only [cellsD]; rfl)) ?_ | refine k_call rfl (by kernel_rfl) rfl (by first | exact c1 | exact c2 | exact c3 | exact c9) ?_)
    | refine run_opsEnd ?_
    | refine run_region ?_
    | refine run_condT rfl (by first | rfl | assumption) ?_
    | refine run_condF rfl (by first | rfl | assumption) ?_
    | refine run_block ?_
    | refine run_skip ?_
    | refine run_retOk (resOk_tmp rfl rfl ?_)
    | refine run_drawC (by kernel_rfl) ?_
    | refine c_nil (And.intro (by kernel_rfl) ?_)
    | refine c_pick (d_assignD rfl rfl) ?_
    | refine c_pick (d_loadW rfl rfl rfl (by first | rfl | (simp only [cellsD]; rfl))) ?_
    | refine c_pick (d_call rfl (by kernel_rfl) rfl (by first | exact c1 | exact c2 | exact c3 | exact c9)) ?_
    | fail)
    all_goals exact PLe.refl _
  · rw [if_neg (by decide), if_neg (by decide), if_neg (by decide), if_neg (by decide), if_pos rfl]
    repeat' (first
    | refine run_seq ?_
    | (refine k_pick rfl ?_; first | refine k_assignD rfl rfl ?_ | refine k_moveD rfl rfl ?_ | refine k_loadW rfl rfl rfl (by first | rfl | (simp only [cellsD]; rfl)) ?_ | refine k_bin2B rfl rfl rfl rfl ?_ | refine k_boxW rfl rfl rfl (by first | rfl | (simp only [cellsD]; rfl)) ?_ | refine k_call rfl (by kernel_rfl) rfl (by first | exact c1 | exact c2 | exact c3 | exact c10) ?_)
    | refine run_opsEnd ?_
    | refine run_region ?_
    | refine run_condT rfl (by first | rfl | assumption) ?_
    | refine run_condF rfl (by first | rfl | assumption) ?_
    | refine run_block ?_
    | refine run_skip ?_
    | refine run_retOk (resOk_tmp rfl rfl ?_)
    | refine run_drawC (by kernel_rfl) ?_
    | refine c_nil (And.intro (by kernel_rfl) ?_)
    | refine c_pick (d_assignD rfl rfl) ?_
    | refine c_pick (d_loadW rfl rfl rfl (by first | rfl | (simp only [cellsD]; rfl))) ?_
    | refine c_pick (d_call rfl (by kernel_rfl) rfl (by first | exact c1 | exact c2 | exact c3 | exact c10)) ?_
    | fail)
    all_goals exact PLe.refl _
  · rw [if_neg (by decide), if_neg (by decide), if_neg (by decide), if_neg (by decide), if_neg (by decide)]
    repeat' (first
    | refine run_seq ?_
    | (refine k_pick rfl ?_; first | refine k_assignD rfl rfl ?_ | refine k_moveD rfl rfl ?_ | refine k_loadW rfl rfl rfl (by first | rfl | (simp only [cellsD]; rfl)) ?_ | refine k_bin2B rfl rfl rfl rfl ?_ | refine k_boxW rfl rfl rfl (by first | rfl | (simp only [cellsD]; rfl)) ?_ | refine k_call rfl (by kernel_rfl) rfl (by first | exact c1 | exact c2 | exact c3) ?_)
    | refine run_opsEnd ?_
    | refine run_region ?_
    | refine run_condF rfl (by first | rfl | assumption) ?_
    | refine run_block ?_
    | refine run_blkEnd ?_
    | refine run_skip ?_
    | refine run_retOk (resOk_tmp rfl rfl ?_)
    | refine run_drawC (by kernel_rfl) ?_
    | refine c_nil (And.intro (by kernel_rfl) ?_)
    | refine c_pick (d_assignD rfl rfl) ?_
    | refine c_pick (d_loadW rfl rfl rfl (by first | rfl | (simp only [cellsD]; rfl))) ?_
    | refine c_pick (d_call rfl (by kernel_rfl) rfl (by first | exact c1 | exact c2 | exact c3)) ?_
    | fail)
    all_goals exact PLe.refl _
theorem sPlain_p : ∀ (x y : GV), PlG x → PlG y → PCall Tryz.prog 246 [qV x, qV y] (.val (.int .i64 (cmpP x y)))
  | .mk k n f s ks l, .mk k' n' f' s' ks' l', hx, hy => sPlain_p1 _ _ hx hy (fun a ha b hb => sPlain_p a b (PlGs_mem (by simp only [PlG] at hx; exact hx.2) a ha) (PlGs_mem (by simp only [PlG] at hy; exact hy.2) b hb))
termination_by x => SizeOf.sizeOf x
decreasing_by
  simp_wf
  have ha : a ∈ l := ha
  have := List.sizeOf_lt_of_mem ha
  omega
end Go.Proofs.YtgmahieoiifpfaaGreat
end
section
set_option linter.unusedVariables false
namespace Go.Proofs.YtgmahieoiifpfaaGreat
open Go.RowKit
set_option linter.unusedSimpArgs false
theorem PlG_un : ∀ j : JV, JOk j → PlG (unJ j) := by
  intro j
  induction hk : SizeOf.sizeOf j using Nat.strongRecOn generalizing j with
  | _ n IH =>
  subst hk
  intro hj
  cases j with
  | list l =>
    unfold JOk at hj
    rw [show unJ (.list l) = .mk 5 0 0 ByteArray.empty [] (unJs l) by unfold unJ; rfl]
    unfold PlG
    refine ⟨by simp, ?_⟩
    have : ∀ (r : List JV), (∀ y ∈ r, y ∈ l) → JOks r → PlGs (unJs r) := by
      intro r
      induction r with
      | nil => intro _ _; simp only [unJs, PlGs]
      | cons x r ih =>
        intro h hr
        simp only [JOks] at hr
        simp only [unJs, PlGs]
        exact ⟨IH (SizeOf.sizeOf x) (by have := List.sizeOf_lt_of_mem (h x (by simp)); simp; omega) x rfl hr.1, ih (fun y hy => h y (by simp [hy])) hr.2⟩
    exact this l (fun _ h => h) hj.2
  | map m =>
    unfold JOk at hj
    obtain ⟨ks, l, e, hi, hl, hk, hg⟩ := unM_form hj.1
    rw [show unJ (.map m) = unM m gMap by unfold unJ; rfl, e]
    unfold PlG
    refine ⟨by omega, ?_⟩
    have key : ∀ x ∈ l, PlG x := by
      intro x hx
      obtain ⟨i, hi⟩ := List.getElem?_of_mem hx
      have hil := (List.getElem?_eq_some_iff.1 hi).1
      obtain ⟨k, hkk⟩ : ∃ k, ks[i]? = some k := ⟨_, List.getElem?_eq_getElem (by omega)⟩
      obtain ⟨j, hj1, hj2⟩ := (hg k x).1 ⟨i, hkk, hi⟩
      rw [← hj2]
      have hm := getA_mem hj1
      refine IH (SizeOf.sizeOf j) ?_ j rfl (JOkm_mem hj.2.2 _ hm)
      have := List.sizeOf_lt_of_mem hm
      simp at this ⊢
      omega
    clear hg hl e
    induction l with
    | nil => simp only [PlGs]
    | cons x r ih => simp only [PlGs]; exact ⟨key x (by simp), ih (fun y hy => key y (by simp [hy]))⟩
  | null => rw [show unJ .null = .mk 0 0 0 ByteArray.empty [] [] by unfold unJ; rfl]; unfold PlG; exact ⟨by simp, by simp only [PlGs]⟩
  | bool b => rw [show unJ (.bool b) = .mk 1 (if b then 1 else 0) 0 ByteArray.empty [] [] by unfold unJ; rfl]; unfold PlG; exact ⟨by simp, by simp only [PlGs]⟩
  | int b => rw [show unJ (.int b) = .mk 2 b 0 ByteArray.empty [] [] by unfold unJ; rfl]; unfold PlG; exact ⟨by simp, by simp only [PlGs]⟩
  | flt b => rw [show unJ (.flt b) = .mk 3 0 b ByteArray.empty [] [] by unfold unJ; rfl]; unfold PlG; exact ⟨by simp, by simp only [PlGs]⟩
  | str b => rw [show unJ (.str b) = .mk 4 0 0 b [] [] by unfold unJ; rfl]; unfold PlG; exact ⟨by simp, by simp only [PlGs]⟩
theorem PlG_clean {x : GV} (h : Fits (qV x)) : PlG (cleanV x) := by
  obtain ⟨w0, F0, v0, h0⟩ := h
  rw [← un_plain]
  exact PlG_un _ (plain_ok x (IsV.gok x (rep_isV x (by rw [pdV_eq]; exact h0))))
theorem sCmpVals_p (x y : GV) : PCall Tryz.prog 230 [qV x, qV y] (.val (.int .i64 (cmpP (cleanV x) (cleanV y)))) := by
  refine pcall_fits fun hf => ?_
  have c3 := sPlain_p (cleanV x) (cleanV y) (PlG_clean (hf (qV x) (by simp))) (PlG_clean (hf (qV y) (by simp)))
  clear hf
  have c1 := clean_p x
  have c2 := clean_p y
  generalize cleanV x = x' at *
  generalize cleanV y = y' at *
  refine pcall_of_run Tryz.func230 rfl Tryz.ntmps230 rfl (fun X => ?_)
  repeat' (first
    | refine run_seq ?_
    | (refine k_pick rfl ?_; first | refine k_assignD rfl rfl ?_ | refine k_boxW rfl rfl rfl (by first | rfl | (simp only [cellsD]; rfl)) ?_)
    | refine run_opsEnd ?_
    | refine run_region ?_
    | refine run_retOk (resOk_tmp rfl rfl ?_)
    | refine run_drawC (by kernel_rfl) ?_
    | refine c_nil (And.intro (by kernel_rfl) ?_)
    | refine c_pick (d_assignD rfl rfl) ?_
    | refine c_pick (d_loadW rfl rfl rfl (by first | rfl | (simp only [cellsD]; rfl))) ?_
    | refine c_pick (d_call rfl (by kernel_rfl) rfl (by first | exact c1 | exact c2 | exact c3)) ?_
    | fail)
  all_goals exact PLe.refl _
end Go.Proofs.YtgmahieoiifpfaaGreat
end
section
set_option linter.unusedVariables false
namespace Go.Proofs.YtgmahieoiifpfaaGreat
set_option linter.unusedSimpArgs false
theorem eqPs_iff : ∀ {a b : List GV}, (∀ x ∈ a, ∀ y ∈ b, eqP x y = true ↔ cmpP x y = 0) → (eqPs a b = true ↔ cmpPl a b = 0)
  | [], [], _ => by rw [cmpPl_nil]; unfold eqPs; simp [cmpI]
  | [], y :: b, _ => by rw [cmpPl_nil, cmpI_lt (by first | (simp; done) | (simp; omega))]; unfold eqPs; simp
  | x :: a, [], _ => by rw [cmpPl_nil', cmpI_gt (by first | (simp; done) | (simp; omega))]; unfold eqPs; simp
  | x :: a, y :: b, h => by
    rw [cmpPl_cons, lx_is_zero, ← eqPs_iff (a := a) (b := b) (fun x hx y hy => h x (by simp [hx]) y (by simp [hy])), ← h x (by simp) y (by simp)]
    simp only [eqPs, Bool.and_eq_true]
theorem cmpPm_zero : ∀ {ks : List ByteArray} {a : List GV} {ks' : List ByteArray} {b : List GV}, ks.length = a.length → ks'.length = b.length → (cmpPm ks a ks' b = 0 ↔ ks = ks' ∧ cmpPl a b = 0)
  | [], a, [], b, h, h' => by
    have e1 : a = [] := List.eq_nil_of_length_eq_zero h.symm
    have e2 : b = [] := List.eq_nil_of_length_eq_zero h'.symm
    subst e1 e2
    rw [cmpPm_nil, cmpPl_nil]
    simp [cmpI]
  | [], a, k' :: ks', b, h, h' => by
    rw [cmpPm_nil, cmpI_lt (by first | (simp; done) | (simp; omega))]
    simp
  | k :: ks, a, [], b, h, h' => by
    rw [cmpPm_nil', cmpI_gt (by first | (simp; done) | (simp; omega))]
    simp
  | k :: ks, x :: a, k' :: ks', y :: b, h, h' => by
    rw [cmpPm_cons, cmpPl_cons, lx_is_zero, lx_is_zero, lx_is_zero, cmpS_zero, cmpPm_zero (by simpa using h) (by simpa using h')]
    simp only [List.cons.injEq]
    constructor
    · rintro ⟨h1, h2, h3, h4⟩; exact ⟨⟨h1, h3⟩, h2, h4⟩
    · rintro ⟨⟨h1, h3⟩, h2, h4⟩; exact ⟨h1, h2, h3, h4⟩
  | _ :: _, [], _, _, h, _ => by simp at h
  | _ :: _, _ :: _, _ :: _, [], _, h' => by simp at h'
theorem isNum_mk (k n : Int) (f : Nat) (s : ByteArray) (ks : List ByteArray) (l : List GV) : isNum (.mk k n f s ks l) = (decide (k = 2) || decide (k = 3)) := rfl
theorem eqP_nums {x y : GV} (h : (isNum x && isNum y) = true) : eqP x y = (if x.kind = 2 ∧ y.kind = 2 then decide (x.n = y.n) else feq (asF x) (asF y)) := by
  cases x; cases y
  simp only [eqP]
  rw [if_pos h]
  rfl
theorem eqP_not {x y : GV} (h : (isNum x && isNum y) = false) : eqP x y = (decide (x.kind = y.kind) && (decide (x.n = y.n) && (decide (x.s = y.s) && (decide (x.keys = y.keys) && eqPs x.l y.l)))) := by
  cases x; cases y
  simp only [eqP]
  rw [if_neg (by rw [h]; simp)]
  rfl
theorem OG.kind_of {x : GV} (h : OG x) : (rankV x = 0 ∧ isNum x = true) ∨ (rankV x = 1 ∧ x.kind = 4 ∧ x.n = 0 ∧ x.keys = [] ∧ x.l = []) ∨ (rankV x = 2 ∧ x.kind = 1 ∧ x.s = ByteArray.empty ∧ x.keys = [] ∧ x.l = [])
    ∨ (rankV x = 3 ∧ x.kind = 5 ∧ x.n = 0 ∧ x.s = ByteArray.empty ∧ x.keys = []) ∨ (rankV x = 4 ∧ x.kind = 6 ∧ x.n = 0 ∧ x.s = ByteArray.empty) ∨ (rankV x = 5 ∧ x.kind = 0 ∧ x.n = 0 ∧ x.s = ByteArray.empty ∧ x.keys = [] ∧ x.l = []) := by
  obtain ⟨k, n, f, s, ks, l⟩ := x
  unfold OG at h
  obtain ⟨_, h⟩ := h
  rw [rank_mk, isNum_mk]
  rcases h with h | h | h | h | h | h | h <;> obtain ⟨rfl, h⟩ := h
  · exact .inr (.inr (.inr (.inr (.inr ⟨rfl, rfl, h⟩))))
  · exact .inr (.inr (.inl ⟨rfl, rfl, h⟩))
  · exact .inl ⟨rfl, rfl⟩
  · exact .inl ⟨rfl, rfl⟩
  · exact .inr (.inl ⟨rfl, rfl, h⟩)
  · exact .inr (.inr (.inr (.inl ⟨rfl, rfl, h⟩)))
  · exact .inr (.inr (.inr (.inr (.inl ⟨rfl, rfl, h.1, h.2.1⟩))))
theorem rank_num {x : GV} (h : isNum x = true) : rankV x = 0 := by
  cases x
  rw [isNum_mk] at h
  rw [rank_mk]
  simp at h
  rcases h with h | h <;> simp [h]
theorem eqP_iff (x y : GV) (hx : OG x) (hy : OG y) : eqP x y = true ↔ cmpP x y = 0 := by
  induction hk : SizeOf.sizeOf x using Nat.strongRecOn generalizing x y with
  | _ n IH =>
  subst hk
  rw [cmpP_lx, lx_is_zero, cmpI_zero]
  have ih : eqPs x.l y.l = true ↔ cmpPl x.l y.l = 0 := eqPs_iff fun a ha b hb => IH _ (sz_l ha) a b (hx.subs a ha) (hy.subs b hb) rfl
  cases hn : isNum x && isNum y with
  | true =>
    have hn' := hn
    simp only [Bool.and_eq_true] at hn'
    have r1 := rank_num hn'.1
    have r2 := rank_num hn'.2
    rw [eqP_nums hn, r1, r2]
    unfold bodyP
    rw [if_pos rfl]
    obtain ⟨_, _, a2, _⟩ := hx.num r1
    obtain ⟨_, _, b2, _⟩ := hy.num r2
    unfold cmpNu
    by_cases h : x.kind = 2 ∧ y.kind = 2
    · rw [if_pos h, if_pos h, cmpI_zero]
      simp
    · rw [if_neg h, if_neg h, feq_zero a2 b2]
      simp
  | false =>
    rw [eqP_not hn]
    simp only [Bool.and_eq_true, decide_eq_true_eq]
    by_cases hr : rankV x = rankV y
    · have key := hx.kind_of
      have key' := hy.kind_of
      rw [← hr] at key'
      rw [← hr]
      rcases key with ⟨h, h1⟩ | ⟨h, h1⟩ | ⟨h, h1⟩ | ⟨h, h1⟩ | ⟨h, h1⟩ | ⟨h, h1⟩
      · rw [h1] at hn
        have : isNum y = true := by
          rcases key' with ⟨h', h2⟩ | ⟨h', h2⟩ | ⟨h', h2⟩ | ⟨h', h2⟩ | ⟨h', h2⟩ | ⟨h', h2⟩
          · exact h2
          all_goals omega
        rw [this] at hn; cases hn
      all_goals
        rw [h] at key' ⊢
        unfold bodyP
        simp (config := { decide := true }) only [if_false, if_true]
      · obtain ⟨a1, a2, a3, a4⟩ := h1
        obtain ⟨b1, b2, b3, b4⟩ : y.kind = 4 ∧ y.n = 0 ∧ y.keys = [] ∧ y.l = [] := by
          rcases key' with ⟨h', h2⟩ | ⟨h', h2⟩ | ⟨h', h2⟩ | ⟨h', h2⟩ | ⟨h', h2⟩ | ⟨h', h2⟩ <;> first | exact h2 | omega
        rw [a1, a2, a3, a4, b1, b2, b3, b4, cmpS_zero]
        simp [eqPs]
      · obtain ⟨a1, a2, a3, a4⟩ := h1
        obtain ⟨b1, b2, b3, b4⟩ : y.kind = 1 ∧ y.s = ByteArray.empty ∧ y.keys = [] ∧ y.l = [] := by
          rcases key' with ⟨h', h2⟩ | ⟨h', h2⟩ | ⟨h', h2⟩ | ⟨h', h2⟩ | ⟨h', h2⟩ | ⟨h', h2⟩ <;> first | exact h2 | omega
        rw [a1, a2, a3, a4, b1, b2, b3, b4, cmpI_zero]
        simp [eqPs]
      · obtain ⟨a1, a2, a3, a4⟩ := h1
        obtain ⟨b1, b2, b3, b4⟩ : y.kind = 5 ∧ y.n = 0 ∧ y.s = ByteArray.empty ∧ y.keys = [] := by
          rcases key' with ⟨h', h2⟩ | ⟨h', h2⟩ | ⟨h', h2⟩ | ⟨h', h2⟩ | ⟨h', h2⟩ | ⟨h', h2⟩ <;> first | exact h2 | omega
        rw [a1, a2, a3, a4, b1, b2, b3, b4, ih]
        simp
      · obtain ⟨a1, a2, a3⟩ := h1
        obtain ⟨b1, b2, b3⟩ : y.kind = 6 ∧ y.n = 0 ∧ y.s = ByteArray.empty := by
          rcases key' with ⟨h', h2⟩ | ⟨h', h2⟩ | ⟨h', h2⟩ | ⟨h', h2⟩ | ⟨h', h2⟩ | ⟨h', h2⟩ <;> first | exact h2 | omega
        rw [a1, a2, a3, b1, b2, b3, ih, cmpPm_zero (hx.keys h).1 (hy.keys (hr ▸ h)).1]
        simp
      · obtain ⟨a1, a2, a3, a4, a5⟩ := h1
        obtain ⟨b1, b2, b3, b4, b5⟩ : y.kind = 0 ∧ y.n = 0 ∧ y.s = ByteArray.empty ∧ y.keys = [] ∧ y.l = [] := by
          rcases key' with ⟨h', h2⟩ | ⟨h', h2⟩ | ⟨h', h2⟩ | ⟨h', h2⟩ | ⟨h', h2⟩ | ⟨h', h2⟩ <;> first | exact h2 | omega
        rw [a1, a2, a3, a4, a5, b1, b2, b3, b4, b5]
        simp [eqPs]
    · constructor
      · rintro ⟨h, _⟩
        exfalso
        apply hr
        unfold rankV
        rw [h]
      · rintro ⟨h, _⟩; exact absurd h hr
theorem OG_un : ∀ j : JV, JOk j → ordV (unJ j) = true → OG (unJ j) := by
  intro j
  induction hk : SizeOf.sizeOf j using Nat.strongRecOn generalizing j with
  | _ n IH =>
  subst hk
  intro hj ho
  cases j with
  | list l =>
    unfold JOk at hj
    rw [show unJ (.list l) = .mk 5 0 0 ByteArray.empty [] (unJs l) by unfold unJ; rfl] at ho ⊢
    unfold OG
    have ho : ordL (unJs l) = true := by unfold ordV at ho; exact ho
    refine ⟨?_, .inr (.inr (.inr (.inr (.inr (.inl ⟨rfl, rfl, rfl, rfl⟩)))))⟩
    have : ∀ (r : List JV), (∀ y ∈ r, y ∈ l) → JOks r → ordL (unJs r) = true → OGs (unJs r) := by
      intro r
      induction r with
      | nil => intro _ _ _; simp only [unJs, OGs]
      | cons x r ih =>
        intro h hr hor
        simp only [JOks] at hr
        simp only [unJs, ordL, Bool.and_eq_true] at hor
        simp only [unJs, OGs]
        exact ⟨IH (SizeOf.sizeOf x) (by have := List.sizeOf_lt_of_mem (h x (by simp)); simp; omega) x rfl hr.1 hor.1, ih (fun y hy => h y (by simp [hy])) hr.2 hor.2⟩
    exact this l (fun _ h => h) hj.2 ho
  | map m =>
    unfold JOk at hj
    obtain ⟨ks, l, e, hi, hl, hk, hg⟩ := unM_form hj.1
    rw [show unJ (.map m) = unM m gMap by unfold unJ; rfl, e] at ho ⊢
    unfold OG
    have ho : ordL l = true := by unfold ordV at ho; exact ho
    refine ⟨?_, .inr (.inr (.inr (.inr (.inr (.inr ⟨rfl, rfl, rfl, hi, hl⟩)))))⟩
    refine OGs_of fun x hx => ?_
    have hox := ordL_iff.1 ho x hx
    obtain ⟨i, hi⟩ := List.getElem?_of_mem hx
    have hil := (List.getElem?_eq_some_iff.1 hi).1
    obtain ⟨k, hkk⟩ : ∃ k, ks[i]? = some k := ⟨_, List.getElem?_eq_getElem (by omega)⟩
    obtain ⟨j, hj1, hj2⟩ := (hg k x).1 ⟨i, hkk, hi⟩
    rw [← hj2] at hox ⊢
    have hm := getA_mem hj1
    refine IH (SizeOf.sizeOf j) ?_ j rfl (JOkm_mem hj.2.2 _ hm) hox
    have := List.sizeOf_lt_of_mem hm
    simp at this ⊢
    omega
  | null => rw [show unJ .null = .mk 0 0 0 ByteArray.empty [] [] by unfold unJ; rfl]; unfold OG; exact ⟨by simp only [OGs], .inl ⟨rfl, rfl, rfl, rfl, rfl⟩⟩
  | bool b => rw [show unJ (.bool b) = .mk 1 (if b then 1 else 0) 0 ByteArray.empty [] [] by unfold unJ; rfl]; unfold OG; exact ⟨by simp only [OGs], .inr (.inl ⟨rfl, rfl, rfl, rfl⟩)⟩
  | int b =>
    rw [show unJ (.int b) = .mk 2 b 0 ByteArray.empty [] [] by unfold unJ; rfl] at ho ⊢
    unfold OG
    have ho : (decide (-9007199254740992 ≤ b) && decide (b ≤ 9007199254740992)) = true := by unfold ordV at ho; exact ho
    simp only [Bool.and_eq_true, decide_eq_true_eq] at ho
    exact ⟨by simp only [OGs], .inr (.inr (.inl ⟨rfl, ho.1, ho.2⟩))⟩
  | flt b =>
    rw [show unJ (.flt b) = .mk 3 0 b ByteArray.empty [] [] by unfold unJ; rfl] at ho ⊢
    unfold OG
    have ho : feq b b = true := by unfold ordV at ho; exact ho
    exact ⟨by simp only [OGs], .inr (.inr (.inr (.inl ⟨rfl, ho⟩)))⟩
  | str b => rw [show unJ (.str b) = .mk 4 0 0 b [] [] by unfold unJ; rfl]; unfold OG; exact ⟨by simp only [OGs], .inr (.inr (.inr (.inr (.inl ⟨rfl, rfl, rfl, rfl⟩))))⟩
end Go.Proofs.YtgmahieoiifpfaaGreat
end
section
set_option linter.unusedVariables false
namespace Go.Proofs.YtgmahieoiifpfaaGreat
set_option linter.unusedSimpArgs false
theorem cmpFs_eq (a b : Nat) : cmpFs a b = cmpF a b := by
  unfold cmpFs cmpF
  cases FloatKind.f64.format.order a b with
  | none => rfl
  | some o => cases o <;> rfl
theorem cmpS_lt {a b : ByteArray} (h : blt a b = true) : cmpS a b = -1 := by unfold cmpS; rw [if_pos h]
theorem cmpS_gt {a b : ByteArray} (h : blt b a = true) : cmpS a b = 1 := by unfold cmpS; rw [if_neg (by rw [blt_asymm h]; simp), if_pos h]
theorem cmpS_self (a : ByteArray) : cmpS a a = 0 := by unfold cmpS; rw [if_neg (by rw [blt_irrefl]; simp), if_neg (by rw [blt_irrefl]; simp)]
theorem incr_head {u : ByteArray} {U : List ByteArray} (h : Incr (u :: U)) : (∀ b ∈ U, blt u b = true) ∧ Incr U := List.pairwise_cons.1 h
theorem cmp_map : ∀ (ks : List ByteArray) (l : List GV) (ks' : List ByteArray) (l' : List GV) (U : List ByteArray) (i : Nat) (m q : List (ByteArray × JV)), Incr ks → Incr ks' → Incr U → (∀ k, k ∈ U ↔ k ∈ ks ∨ k ∈ ks') → ks.length = l.length → ks'.length = l'.length → i + ks.length = m.length → i + ks'.length = q.length →
    (∀ k ∈ U, ∀ z, getA (ks.zip l) k = some z ↔ ∃ x, lkJ m k = some x ∧ unJ x = z) → (∀ k ∈ U, ∀ z, getA (ks'.zip l') k = some z ↔ ∃ x, lkJ q k = some x ∧ unJ x = z) →
    (∀ k x y, lkJ m k = some x → lkJ q k = some y → cmpP (unJ x) (unJ y) = cmpJ x y) → cmpPm ks l ks' l' = cmpKs cmpJ m q i U
  | [], l, [], l', U, i, m, q, _, _, _, hU, _, _, _, _, _, _, _ => by
    have : U = [] := List.eq_nil_iff_forall_not_mem.2 fun k hk => by simpa using (hU k).1 hk
    subst this
    simp only [cmpPm, cmpKs]; rfl
  | [], l, b :: r', l', U, i, m, q, _, _, _, hU, _, _, hm, hq, _, _, _ => by
    cases U with
    | nil => have := (hU b).2 (by simp); simp at this
    | cons u U =>
      simp only [cmpPm, cmpKs]
      have e : stepC cmpJ m q i u = -1 := by unfold stepC; rw [if_pos (by simpa using hm)]
      rw [e, if_neg (by decide)]
      unfold cmpI
      first | (simp; done) | (simp; omega)
  | a :: r, l, [], l', U, i, m, q, _, _, _, hU, hl, _, hm, hq, _, _, _ => by
    cases U with
    | nil => have := (hU a).2 (by simp); simp at this
    | cons u U =>
      have e : stepC cmpJ m q i u = 1 := by
        unfold stepC
        simp at hm hq
        rw [if_neg (by omega), if_pos (by omega)]
      cases l <;> simp only [cmpPm, cmpKs] <;> rw [e, if_neg (by decide)] <;> unfold cmpI <;> first | (simp; done) | (simp; omega)
  | a :: r, [], b :: r', l', U, i, m, q, _, _, _, _, hl, _, _, _, _, _, _ => by simp at hl
  | a :: r, _ :: _, b :: r', [], U, i, m, q, _, _, _, _, _, hl', _, _, _, _, _ => by simp at hl'
  | a :: r, z :: l, b :: r', z' :: l', U, i, m, q, h1, h2, h3, hU, hl, hl', hm, hq, hv, hv', ih => by
    obtain ⟨h1a, h1b⟩ := incr_head h1
    obtain ⟨h2a, h2b⟩ := incr_head h2
    cases U with
    | nil => have := (hU a).2 (by simp); simp at this
    | cons u U =>
      obtain ⟨h3a, h3b⟩ := incr_head h3
      have him : i ≠ m.length := by simp at hm; omega
      have hiq : i ≠ q.length := by simp at hq; omega
      have hua : u = a ∨ blt u a = true := by
        rcases List.mem_cons.1 ((hU a).2 (by simp)) with h | h
        · exact .inl h.symm
        · exact .inr (h3a a h)
      have hub : u = b ∨ blt u b = true := by
        rcases List.mem_cons.1 ((hU b).2 (by simp)) with h | h
        · exact .inl h.symm
        · exact .inr (h3a b h)
      have hu := (hU u).1 (by simp)
      have none_m : ∀ k, k ∉ a :: r → k ∈ u :: U → lkJ m k = none := by
        intro k hk hkU
        cases h : lkJ m k with
        | none => rfl
        | some x =>
          have := (hv k hkU (unJ x)).2 ⟨x, h, rfl⟩
          exact absurd (List.of_mem_zip (a := k) (b := unJ x) (getA_mem this)).1 hk
      have none_q : ∀ k, k ∉ b :: r' → k ∈ u :: U → lkJ q k = none := by
        intro k hk hkU
        cases h : lkJ q k with
        | none => rfl
        | some x =>
          have := (hv' k hkU (unJ x)).2 ⟨x, h, rfl⟩
          exact absurd (List.of_mem_zip (a := k) (b := unJ x) (getA_mem this)).1 hk
      have hcmp : cmpPm (a :: r) (z :: l) (b :: r') (z' :: l') = if cmpS a b ≠ 0 then cmpS a b else if cmpP z z' ≠ 0 then cmpP z z' else cmpPm r l r' l' := by simp only [cmpPm]
      rw [hcmp]
      simp only [cmpKs]
      cases hab : blt a b with
      | true =>
        have e : u = a := by
          rcases hu with h | h
          · rcases List.mem_cons.1 h with h | h
            · exact h
            · rcases hua with e | e
              · exact e
              · have := h1a u h; rw [blt_asymm this] at e; cases e
          · exfalso
            have hbu : blt a u = true := by
              rcases List.mem_cons.1 h with h | h
              · rw [h]; exact hab
              · exact blt_trans hab (h2a u h)
            rcases hua with e | e
            · rw [e, blt_irrefl] at hbu; cases hbu
            · rw [blt_asymm hbu] at e; cases e
        subst e
        obtain ⟨x, hx, _⟩ := (hv u (by simp) z).1 (by simp [getA])
        have hn := none_q u (fun h => by
          rcases List.mem_cons.1 h with h | h
          · rw [h, blt_irrefl] at hab; cases hab
          · have := blt_trans hab (h2a u h); rw [blt_irrefl] at this; cases this) (by simp)
        have e : stepC cmpJ m q i u = -1 := by unfold stepC; rw [if_neg him, if_neg hiq, hx, hn]
        rw [cmpS_lt hab, if_pos (by decide), e, if_neg (by decide)]
      | false =>
        cases hba : blt b a with
        | true =>
          have e : u = b := by
            rcases hu with h | h
            · exfalso
              have hbu : blt b u = true := by
                rcases List.mem_cons.1 h with h | h
                · rw [h]; exact hba
                · exact blt_trans hba (h1a u h)
              rcases hub with e | e
              · rw [e, blt_irrefl] at hbu; cases hbu
              · rw [blt_asymm hbu] at e; cases e
            · rcases List.mem_cons.1 h with h | h
              · exact h
              · rcases hub with e | e
                · exact e
                · have := h2a u h; rw [blt_asymm this] at e; cases e
          subst e
          have hn := none_m u (fun h => by
            rcases List.mem_cons.1 h with h | h
            · rw [h, blt_irrefl] at hba; cases hba
            · have := blt_trans hba (h1a u h); rw [blt_irrefl] at this; cases this) (by simp)
          have e : stepC cmpJ m q i u = 1 := by unfold stepC; rw [if_neg him, if_neg hiq, hn]
          rw [cmpS_gt hba, if_pos (by decide), e, if_neg (by decide)]
        | false =>
          have e0 : a = b := blt_total hab hba
          subst e0
          have e : u = a := by
            rcases hua with e | e
            · exact e
            · exfalso
              rcases hu with h | h
              · rcases List.mem_cons.1 h with h | h
                · rw [h, blt_irrefl] at e; cases e
                · have := h1a u h; rw [blt_asymm this] at e; cases e
              · rcases List.mem_cons.1 h with h | h
                · rw [h, blt_irrefl] at e; cases e
                · have := h2a u h; rw [blt_asymm this] at e; cases e
          subst e
          obtain ⟨x, hx, ex⟩ := (hv u (by simp) z).1 (by simp [getA])
          obtain ⟨y, hy, ey⟩ := (hv' u (by simp) z').1 (by simp [getA])
          have e : stepC cmpJ m q i u = cmpJ x y := by unfold stepC; rw [if_neg him, if_neg hiq, hx, hy]
          have e2 : cmpP z z' = cmpJ x y := by rw [← ex, ← ey]; exact ih u x y hx hy
          rw [cmpS_self, if_neg (by simp), e, e2]
          by_cases hc : cmpJ x y = 0
          · rw [if_neg (by simp [hc]), if_pos hc]
            have hne : ∀ k ∈ U, u ≠ k := fun k hk e => by have := h3a k hk; rw [← e, blt_irrefl] at this; cases this
            refine cmp_map r l r' l' U (i + 1) m q h1b h2b h3b (fun k => ⟨fun hk => ?_, fun hk => ?_⟩) (by simpa using hl) (by simpa using hl') (by simp at hm; omega) (by simp at hq; omega) (fun k hk w => ?_) (fun k hk w => ?_) ih
            · rcases (hU k).1 (by simp [hk]) with h | h
              · rcases List.mem_cons.1 h with h | h
                · exact absurd h.symm (hne k hk)
                · exact .inl h
              · rcases List.mem_cons.1 h with h | h
                · exact absurd h.symm (hne k hk)
                · exact .inr h
            · have hmem : k ∈ u :: U := (hU k).2 (hk.imp (by simp_all) (by simp_all))
              rcases List.mem_cons.1 hmem with h | h
              · exfalso
                subst h
                rcases hk with hk | hk
                · have := h1a k hk; rw [blt_irrefl] at this; cases this
                · have := h2a k hk; rw [blt_irrefl] at this; cases this
              · exact h
            · have := hv k (by simp [hk]) w
              simp only [List.zip_cons_cons, getA, if_neg (hne k hk)] at this
              exact this
            · have := hv' k (by simp [hk]) w
              simp only [List.zip_cons_cons, getA, if_neg (hne k hk)] at this
              exact this
          · rw [if_pos hc, if_neg hc]
theorem cmp_list : ∀ (b a : List JV), (∀ y ∈ b, ∀ x, JOk x → JOk y → cmpP (unJ x) (unJ y) = cmpJ x y) → JOks a → JOks b → cmpPl (unJs a) (unJs b) = cmpLs cmpJ a b
  | [], [], _, _, _ => by simp only [unJs, cmpPl, cmpLs]; rfl
  | [], x :: a, _, _, _ => by
    simp only [unJs, cmpPl, cmpLs]
    unfold cmpI
    first | (simp; done) | (simp; omega)
  | y :: b, [], _, _, _ => by
    simp only [unJs, cmpPl, cmpLs]
    unfold cmpI
    first | (simp; done) | (simp; omega)
  | y :: b, x :: a, ih, ha, hb => by
    simp only [JOks] at ha hb
    simp only [unJs, cmpPl, cmpLs]
    rw [ih y (by simp) x ha.1 hb.1, cmp_list b a (fun z hz => ih z (by simp [hz])) ha.2 hb.2]
    by_cases h : cmpJ x y = 0
    · rw [if_neg (by simp [h]), if_pos h]
    · rw [if_pos h, if_neg h]
theorem rank_un (j : JV) : rankV (unJ j) = (rankJ j : Int) := by
  cases j
  case map m =>
    obtain ⟨ks, l, e, _⟩ := unM_plain m gMap gMap_plain
    rw [show unJ (.map m) = unM m gMap by unfold unJ; rfl, e]; rfl
  all_goals (unfold unJ; rfl)
theorem cmpP_diff {x y : GV} (h : cmpI (rankV x) (rankV y) ≠ 0) : cmpP x y = cmpI (rankV x) (rankV y) := by
  cases x; cases y
  simp only [cmpP]
  rw [if_pos h]
theorem cmpJ_diff {j k : JV} (h : rankJ j ≠ rankJ k) : cmpJ j k = if rankJ j < rankJ k then -1 else 1 := by
  cases j <;> cases k <;> first | exact absurd rfl h | (unfold cmpJ; rfl) | (simp only [cmpJ])
theorem cmpP_0 {k n : Int} {f : Nat} {s : ByteArray} {ks : List ByteArray} {l : List GV} {k' n' : Int} {f' : Nat} {s' : ByteArray} {ks' : List ByteArray} {l' : List GV} (r : Int) (h : rankV (.mk k n f s ks l) = r) (h' : rankV (.mk k' n' f' s' ks' l') = r) :
    cmpP (.mk k n f s ks l) (.mk k' n' f' s' ks' l') = if r = 0 then (if k = 2 ∧ k' = 2 then cmpI n n' else cmpFs (asF (.mk k n f s ks l)) (asF (.mk k' n' f' s' ks' l'))) else if r = 1 then cmpS s s' else if r = 2 then cmpI n n' else if r = 3 then cmpPl l l' else if r = 4 then cmpPm ks l ks' l' else 0 := by
  simp only [cmpP]
  rw [h, h', if_neg (by unfold cmpI; simp)]
theorem cmp_law : ∀ (k j : JV), JOk j → JOk k → cmpP (unJ j) (unJ k) = cmpJ j k := by
  intro k
  induction hk : SizeOf.sizeOf k using Nat.strongRecOn generalizing k with
  | _ n IH =>
  subst hk
  intro j hj hok
  by_cases hr : rankJ j = rankJ k
  rotate_left
  · have h1 := rank_un j
    have h2 := rank_un k
    have h3 : cmpI (rankV (unJ j)) (rankV (unJ k)) = if rankJ j < rankJ k then -1 else 1 := by
      rw [h1, h2]
      unfold cmpI
      by_cases h : rankJ j < rankJ k
      · rw [if_pos (by omega), if_pos h]
      · rw [if_neg (by omega), if_pos (by omega), if_neg h]
    rw [cmpJ_diff hr, ← h3]
    exact cmpP_diff (by rw [h3]; split <;> decide)
  cases j <;> cases k <;> first | (exfalso; simp [rankJ] at hr; done) | skip
  case null.null => rw [show unJ .null = .mk 0 0 0 ByteArray.empty [] [] by unfold unJ; rfl, cmpP_0 5 rfl rfl]; unfold cmpJ; rfl
  case bool.bool a b => rw [show unJ (.bool a) = .mk 1 (if a then 1 else 0) 0 ByteArray.empty [] [] by unfold unJ; rfl, show unJ (.bool b) = .mk 1 (if b then 1 else 0) 0 ByteArray.empty [] [] by unfold unJ; rfl, cmpP_0 2 rfl rfl]; unfold cmpJ; cases a <;> cases b <;> rfl
  case int.int a b => rw [show unJ (.int a) = .mk 2 a 0 ByteArray.empty [] [] by unfold unJ; rfl, show unJ (.int b) = .mk 2 b 0 ByteArray.empty [] [] by unfold unJ; rfl, cmpP_0 0 rfl rfl, if_pos rfl, if_pos ⟨rfl, rfl⟩]; unfold cmpJ; rfl
  case int.flt a b => rw [show unJ (.int a) = .mk 2 a 0 ByteArray.empty [] [] by unfold unJ; rfl, show unJ (.flt b) = .mk 3 0 b ByteArray.empty [] [] by unfold unJ; rfl, cmpP_0 0 rfl rfl, if_pos rfl, if_neg (by decide), cmpFs_eq]; unfold cmpJ; rfl
  case flt.int a b => rw [show unJ (.int b) = .mk 2 b 0 ByteArray.empty [] [] by unfold unJ; rfl, show unJ (.flt a) = .mk 3 0 a ByteArray.empty [] [] by unfold unJ; rfl, cmpP_0 0 rfl rfl, if_pos rfl, if_neg (by decide), cmpFs_eq]; unfold cmpJ; rfl
  case flt.flt a b => rw [show unJ (.flt a) = .mk 3 0 a ByteArray.empty [] [] by unfold unJ; rfl, show unJ (.flt b) = .mk 3 0 b ByteArray.empty [] [] by unfold unJ; rfl, cmpP_0 0 rfl rfl, if_pos rfl, if_neg (by decide), cmpFs_eq]; unfold cmpJ; rfl
  case str.str a b => rw [show unJ (.str a) = .mk 4 0 0 a [] [] by unfold unJ; rfl, show unJ (.str b) = .mk 4 0 0 b [] [] by unfold unJ; rfl, cmpP_0 1 rfl rfl]; unfold cmpJ; rfl
  case list.list a b =>
    unfold JOk at hj hok
    rw [show unJ (.list a) = .mk 5 0 0 ByteArray.empty [] (unJs a) by unfold unJ; rfl, show unJ (.list b) = .mk 5 0 0 ByteArray.empty [] (unJs b) by unfold unJ; rfl, cmpP_0 3 rfl rfl, cmpJ_list]
    show cmpPl (unJs a) (unJs b) = _
    exact cmp_list b a (fun y hy x hx hy' => IH (SizeOf.sizeOf y) (by have := List.sizeOf_lt_of_mem hy; simp; omega) y rfl x hx hy') hj.2 hok.2
  case map.map m q =>
    unfold JOk at hj hok
    obtain ⟨ks, l, e1, hi, hl, hk, hg⟩ := unM_form hj.1
    obtain ⟨ks', l', e2, hi', hl', hk', hg'⟩ := unM_form hok.1
    rw [show unJ (.map m) = unM m gMap by unfold unJ; rfl, show unJ (.map q) = unM q gMap by unfold unJ; rfl, e1, e2, cmpP_0 4 rfl rfl, cmpJ_map]
    show cmpPm ks l ks' l' = _
    have len : ∀ {m : List (ByteArray × JV)} {ks : List ByteArray}, (m.map (·.1)).Nodup → Incr ks → (∀ k, k ∈ ks ↔ k ∈ m.map (·.1)) → ks.length = m.length := by
      intro m ks hm hi hk
      have h1 := nodup_len (incr_nd hi) (fun x hx => (hk x).1 hx)
      have h2 := nodup_len hm (fun x hx => (hk x).2 hx)
      simp only [List.length_map] at h1 h2
      omega
    have n1 := len hj.1 hi hk
    have n2 := len hok.1 hi' hk'
    have hz : ∀ {m : List (ByteArray × JV)} {ks : List ByteArray} {l : List GV}, ks.length = l.length → Incr ks → (∀ k x, (∃ i : Nat, ks[i]? = some k ∧ l[i]? = some x) ↔ ∃ j, getA m k = some j ∧ unJ j = x) → ∀ k z, getA (ks.zip l) k = some z ↔ ∃ x, lkJ m k = some x ∧ unJ x = z := fun hl hi hg k z => by
      rw [zip_idx hl hi, hg, lkJ_getA]
    have main := cmp_map ks l ks' l' (unionK m q) 0 m q hi hi' (unionK_incr m q) (fun k => by rw [unionK_mem, hk, hk']) hl hl' (by omega) (by omega) (fun k _ z => hz hl hi hg k z) (fun k _ z => hz hl' hi' hg' k z) (fun k x y hx hy => by
      rw [lkJ_getA] at hx hy
      have hy' := getA_mem hy
      refine IH (SizeOf.sizeOf y) ?_ y rfl x (JOkm_mem hj.2.2 _ (getA_mem hx)) (JOkm_mem hok.2.2 _ hy')
      have := List.sizeOf_lt_of_mem hy'
      simp at this ⊢
      omega)
    unfold cmpMs
    by_cases h0 : m.length = 0 ∧ q.length = 0
    · rw [if_pos h0]
      have e3 : ks = [] := List.eq_nil_of_length_eq_zero (by omega)
      have e4 : ks' = [] := List.eq_nil_of_length_eq_zero (by omega)
      subst e3 e4
      simp only [cmpPm]; rfl
    · rw [if_neg h0]; exact main
end Go.Proofs.YtgmahieoiifpfaaGreat
end
section
set_option linter.unusedVariables false
namespace Go.Proofs.YtgmahieoiifpfaaGreat
set_option linter.unusedSimpArgs false
theorem eqP_mk {k n : Int} {f : Nat} {s : ByteArray} {ks : List ByteArray} {l : List GV} {k' n' : Int} {f' : Nat} {s' : ByteArray} {ks' : List ByteArray} {l' : List GV} (h : (isNum (.mk k n f s ks l) && isNum (.mk k' n' f' s' ks' l')) = false) :
    eqP (.mk k n f s ks l) (.mk k' n' f' s' ks' l') = (decide (k = k') && (decide (n = n') && (decide (s = s') && (decide (ks = ks') && eqPs l l')))) := by
  unfold eqP; rw [if_neg (by rw [h]; simp)]
theorem eq_list : ∀ (b a : List JV), (∀ y ∈ b, ∀ x, JOk x → JOk y → eqP (unJ x) (unJ y) = eqJ x y) → JOks a → JOks b → eqPs (unJs a) (unJs b) = eqJs a b
  | [], [], _, _, _ => by simp only [unJs, eqPs, eqJs]
  | [], _ :: _, _, _, _ => by simp only [unJs, eqPs, eqJs]
  | _ :: _, [], _, _, _ => by simp only [unJs, eqPs, eqJs]
  | y :: b, x :: a, ih, ha, hb => by
    simp only [JOks] at ha hb
    simp only [unJs, eqPs, eqJs]
    rw [ih y (by simp) x ha.1 hb.1, eq_list b a (fun z hz => ih z (by simp [hz])) ha.2 hb.2]
theorem eqJm_iff (m : List (ByteArray × JV)) : ∀ q : List (ByteArray × JV), eqJm m q = true ↔ ∀ y ∈ q, ∃ x, getA m y.1 = some x ∧ eqJ x y.2 = true
  | [] => by simp [eqJm]
  | y :: q => by
    unfold eqJm
    rw [Bool.and_eq_true, eqJm_iff m q, lkJ_getA]
    constructor
    · rintro ⟨h1, h2⟩ z hz
      rcases List.mem_cons.1 hz with rfl | hz
      · cases hg : getA m z.1 with
        | none => rw [hg] at h1; cases h1
        | some x => rw [hg] at h1; exact ⟨x, rfl, h1⟩
      · exact h2 z hz
    · intro h
      obtain ⟨x, hx, he⟩ := h y (by simp)
      exact ⟨by rw [hx]; exact he, fun z hz => h z (by simp [hz])⟩
theorem eq_map (m q : List (ByteArray × JV)) (ih : ∀ y ∈ q, ∀ x, JOk x → JOk y.2 → eqP (unJ x) (unJ y.2) = eqJ x y.2) (hm : JOk (.map m)) (hq : JOk (.map q)) : eqP (unJ (.map m)) (unJ (.map q)) = eqJ (.map m) (.map q) := by
  unfold JOk at hm hq
  obtain ⟨ks, l, e1, hi, hl, hk, hg⟩ := unM_form hm.1
  obtain ⟨ks', l', e2, hi', hl', hk', hg'⟩ := unM_form hq.1
  have hJm : ∀ {k j}, getA m k = some j → JOk j := fun h => JOkm_mem hm.2.2 _ (getA_mem h)
  have hJq : ∀ {k j}, getA q k = some j → JOk j := fun h => JOkm_mem hq.2.2 _ (getA_mem h)
  rw [show unJ (.map m) = unM m gMap by unfold unJ; rfl, show unJ (.map q) = unM q gMap by unfold unJ; rfl, e1, e2, eqP_mk (by simp [isNum, GV.kind]), show eqJ (.map m) (.map q) = (Nat.beq m.length q.length && eqJm m q) by unfold eqJ; rfl]
  simp only [decide_true, Bool.true_and]
  rw [Bool.eq_iff_iff]
  simp only [Bool.and_eq_true, decide_eq_true_eq, eqJm_iff]
  constructor
  · rintro ⟨rfl, h2⟩
    have hmm : ∀ k, k ∈ m.map (·.1) ↔ k ∈ q.map (·.1) := fun k => (hk k).symm.trans (hk' k)
    have l1 := nodup_len hm.1 (fun x hx => (hmm x).1 hx)
    have l2 := nodup_len hq.1 (fun x hx => (hmm x).2 hx)
    simp only [List.length_map] at l1 l2
    refine ⟨by rw [show m.length = q.length by omega]; simp, fun y hy => ?_⟩
    have hgy := getA_of_mem hq.1 (show (y.1, y.2) ∈ q from hy)
    obtain ⟨i, h3, h4⟩ := (hg' y.1 (unJ y.2)).2 ⟨y.2, hgy, rfl⟩
    have hlt := (List.getElem?_eq_some_iff.1 h3).1
    have h5 : l[i]? = some l[i] := List.getElem?_eq_getElem (hl ▸ hlt)
    obtain ⟨x, h6, h7⟩ := (hg y.1 l[i]).1 ⟨i, h3, h5⟩
    refine ⟨x, h6, ?_⟩
    rw [← ih y hy x (hJm h6) (hJq hgy), h7]
    exact eqPs_all h2 i _ _ h5 h4
  · rintro ⟨h1, h2⟩
    have hlen := Nat.eq_of_beq_eq_true h1
    have hsub : ∀ k ∈ q.map (·.1), k ∈ m.map (·.1) := fun k hk => by
      obtain ⟨y, hy, rfl⟩ := List.mem_map.1 hk
      obtain ⟨x, hx, _⟩ := h2 y hy
      exact List.mem_map_of_mem (f := (·.1)) (getA_mem hx)
    have hsub' := nodup_sub hq.1 hsub (by simp [hlen])
    have ek : ks = ks' := incr_ext hi hi' fun k => (hk k).trans ⟨fun h => (hk' k).2 (hsub' k h), fun h => hsub k ((hk' k).1 h)⟩
    subst ek
    refine ⟨rfl, eqPs_true (by omega) fun i x y hx hy => ?_⟩
    have hlt : i < ks.length := by rw [hl]; exact (List.getElem?_eq_some_iff.1 hx).1
    have hki : ks[i]? = some ks[i] := List.getElem?_eq_getElem hlt
    obtain ⟨x0, h3, rfl⟩ := (hg ks[i] x).1 ⟨i, hki, hx⟩
    obtain ⟨y0, h4, rfl⟩ := (hg' ks[i] y).1 ⟨i, hki, hy⟩
    obtain ⟨x1, h5, h6⟩ := h2 (ks[i], y0) (getA_mem h4)
    have h5 : getA m ks[i] = some x1 := h5
    rw [h3] at h5
    cases h5
    rw [ih (ks[i], y0) (getA_mem h4) x0 (hJm h3) (hJq h4)]
    exact h6
theorem eq_law : ∀ (k j : JV), JOk j → JOk k → eqP (unJ j) (unJ k) = eqJ j k
  | .list b, .list a, ha, hb => by
    unfold JOk at ha hb
    rw [show unJ (.list a) = .mk 5 0 0 ByteArray.empty [] (unJs a) by unfold unJ; rfl, show unJ (.list b) = .mk 5 0 0 ByteArray.empty [] (unJs b) by unfold unJ; rfl, eqP_mk (by simp [isNum, GV.kind]), show eqJ (.list a) (.list b) = eqJs a b by unfold eqJ; rfl]
    simp only [decide_true, Bool.true_and]
    exact eq_list b a (fun y hy x hx hy' => eq_law y x hx hy') ha.2 hb.2
  | .map q, .map m, ha, hb => eq_map m q (fun y hy x hx hy' => eq_law y.2 x hx hy') ha hb
  | .null, j, _, _ => by
    cases j <;> simp only [unJ, gNull, gv, eqJ]
    case map => rename_i m _h; obtain ⟨ks, l, e, _⟩ := unM_plain m gMap gMap_plain; rw [e, eqP_mk (by simp [isNum, GV.kind])]; simp
    all_goals (rw [eqP_mk (by simp [isNum, GV.kind])]; simp [eqPs])
  | .bool b, j, _, _ => by
    cases j <;> simp only [unJ, gNull, gv, eqJ]
    case map => rename_i m _h; obtain ⟨ks, l, e, _⟩ := unM_plain m gMap gMap_plain; rw [e, eqP_mk (by simp [isNum, GV.kind])]; simp
    case bool => rename_i a _h; rw [eqP_mk (by simp [isNum, GV.kind])]; cases a <;> cases b <;> simp [eqPs]
    all_goals (rw [eqP_mk (by simp [isNum, GV.kind])]; simp [eqPs])
  | .int n, j, _, _ => by
    cases j <;> simp only [unJ, gNull, gv, eqJ]
    case map => rename_i m _h; obtain ⟨ks, l, e, _⟩ := unM_plain m gMap gMap_plain; rw [e, eqP_mk (by simp [isNum, GV.kind])]; simp
    case int => simp [eqP, isNum, GV.kind]
    case flt => simp [eqP, isNum, GV.kind, asF, GV.n, GV.f]
    all_goals (rw [eqP_mk (by simp [isNum, GV.kind])]; simp [eqPs])
  | .flt n, j, _, _ => by
    cases j <;> simp only [unJ, gNull, gv, eqJ]
    case map => rename_i m _h; obtain ⟨ks, l, e, _⟩ := unM_plain m gMap gMap_plain; rw [e, eqP_mk (by simp [isNum, GV.kind])]; simp
    case int => simp [eqP, isNum, GV.kind, asF, GV.n, GV.f]
    case flt => simp [eqP, isNum, GV.kind, asF, GV.n, GV.f]
    all_goals (rw [eqP_mk (by simp [isNum, GV.kind])]; simp [eqPs])
  | .str n, j, _, _ => by
    cases j <;> simp only [unJ, gNull, gv, eqJ]
    case map => rename_i m _h; obtain ⟨ks, l, e, _⟩ := unM_plain m gMap gMap_plain; rw [e, eqP_mk (by simp [isNum, GV.kind])]; simp
    all_goals (rw [eqP_mk (by simp [isNum, GV.kind])]; simp [eqPs])
  | .list b, .null, _, _ => by simp only [unJ, gNull, gv, eqJ]; rw [eqP_mk (by simp [isNum, GV.kind])]; simp
  | .list b, .bool _, _, _ => by simp only [unJ, gNull, gv, eqJ]; rw [eqP_mk (by simp [isNum, GV.kind])]; simp
  | .list b, .int _, _, _ => by simp only [unJ, gNull, gv, eqJ]; rw [eqP_mk (by simp [isNum, GV.kind])]; simp
  | .list b, .flt _, _, _ => by simp only [unJ, gNull, gv, eqJ]; rw [eqP_mk (by simp [isNum, GV.kind])]; simp
  | .list b, .str _, _, _ => by simp only [unJ, gNull, gv, eqJ]; rw [eqP_mk (by simp [isNum, GV.kind])]; simp
  | .list b, .map m, _, _ => by simp only [unJ, gNull, gv, eqJ]; obtain ⟨ks, l, e, _⟩ := unM_plain m gMap gMap_plain; rw [e, eqP_mk (by simp [isNum, GV.kind])]; simp
  | .map q, .null, _, _ => by simp only [unJ, gNull, gv, eqJ]; obtain ⟨ks, l, e, _⟩ := unM_plain q gMap gMap_plain; rw [e, eqP_mk (by simp [isNum, GV.kind])]; simp
  | .map q, .bool _, _, _ => by simp only [unJ, gNull, gv, eqJ]; obtain ⟨ks, l, e, _⟩ := unM_plain q gMap gMap_plain; rw [e, eqP_mk (by simp [isNum, GV.kind])]; simp
  | .map q, .int _, _, _ => by simp only [unJ, gNull, gv, eqJ]; obtain ⟨ks, l, e, _⟩ := unM_plain q gMap gMap_plain; rw [e, eqP_mk (by simp [isNum, GV.kind])]; simp
  | .map q, .flt _, _, _ => by simp only [unJ, gNull, gv, eqJ]; obtain ⟨ks, l, e, _⟩ := unM_plain q gMap gMap_plain; rw [e, eqP_mk (by simp [isNum, GV.kind])]; simp
  | .map q, .str _, _, _ => by simp only [unJ, gNull, gv, eqJ]; obtain ⟨ks, l, e, _⟩ := unM_plain q gMap gMap_plain; rw [e, eqP_mk (by simp [isNum, GV.kind])]; simp
  | .map q, .list _, _, _ => by simp only [unJ, gNull, gv, eqJ]; obtain ⟨ks, l, e, _⟩ := unM_plain q gMap gMap_plain; rw [e, eqP_mk (by simp [isNum, GV.kind])]; simp
termination_by k => SizeOf.sizeOf k
decreasing_by
  all_goals simp_wf
  · have := List.sizeOf_lt_of_mem hy; omega
  · have := List.sizeOf_lt_of_mem hy
    obtain ⟨y1, y2⟩ := y
    simp at this ⊢
    omega
end Go.Proofs.YtgmahieoiifpfaaGreat
end
section
set_option linter.unusedVariables false
namespace Go.Proofs.YtgmahieoiifpfaaGreat
set_option linter.unusedSimpArgs false
section
variable {α β : Type}
def cmpLx (c : α → α → Int) : List α → List α → Int
  | [], [] => 0
  | [], _ :: _ => -1
  | _ :: _, [] => 1
  | x :: r, y :: q => lx (c x y) (cmpLx c r q)
theorem cmpLx_cons (c : α → α → Int) (x y : α) (r q : List α) : cmpLx c (x :: r) (y :: q) = lx (c x y) (cmpLx c r q) := rfl
theorem rng_Lx {c : α → α → Int} : ∀ {a b : List α}, (∀ x ∈ a, ∀ y ∈ b, rng (c x y)) → rng (cmpLx c a b)
  | [], [], _ => .inr (.inl rfl)
  | [], _ :: _, _ => .inl rfl
  | _ :: _, [], _ => .inr (.inr rfl)
  | x :: r, y :: q, h => rng_lx (h x (by simp) y (by simp)) (rng_Lx fun u hu v hv => h u (by simp [hu]) v (by simp [hv]))
theorem swap_Lx {c : α → α → Int} : ∀ {a b : List α}, (∀ x ∈ a, ∀ y ∈ b, c y x = - c x y) → cmpLx c b a = - cmpLx c a b
  | [], [], _ => rfl
  | [], _ :: _, _ => rfl
  | _ :: _, [], _ => rfl
  | x :: r, y :: q, h => by
    rw [cmpLx_cons, cmpLx_cons, h x (by simp) y (by simp), swap_Lx (a := r) (b := q) fun u hu v hv => h u (by simp [hu]) v (by simp [hv]), lx_neg]
theorem tri_Lx {c : α → α → Int} {P : α → Prop} (T : ∀ x y z, P x → P y → P z → Tri (c x y) (c y z) (c x z)) : ∀ (a b d : List α), (∀ x ∈ a, P x) → (∀ x ∈ b, P x) → (∀ x ∈ d, P x) → Tri (cmpLx c a b) (cmpLx c b d) (cmpLx c a d) := by
  have R : ∀ (a b : List α), (∀ x ∈ a, P x) → (∀ x ∈ b, P x) → rng (cmpLx c a b) := fun a b ha hb => rng_Lx fun x hx y hy => (T x y y (ha x hx) (hb y hy) (hb y hy)).rp
  intro a
  induction a with
  | nil =>
    intro b d ha hb hd
    have h2 := R b d hb hd
    cases b with
    | nil =>
      have e : cmpLx c [] ([] : List α) = 0 := rfl
      have h3 := R [] d ha hd
      unfold rng at h2 h3
      rw [e]
      exact ⟨by omega, h3, h3, by omega, by omega, by omega, by omega⟩
    | cons y q =>
      have e : cmpLx c [] (y :: q) = -1 := rfl
      unfold rng at h2
      cases d with
      | nil =>
        have e2 : cmpLx c [] ([] : List α) = 0 := rfl
        have e3 : cmpLx c (y :: q) ([] : List α) = 1 := rfl
        rw [e, e2, e3]
        exact ⟨by omega, by omega, by omega, by omega, by omega, by omega, by omega⟩
      | cons z t =>
        have e2 : cmpLx c [] (z :: t) = -1 := rfl
        rw [e, e2]
        exact ⟨by omega, h2, by omega, by omega, by omega, by omega, by omega⟩
  | cons x r ih =>
    intro b d ha hb hd
    cases b with
    | nil =>
      have e : cmpLx c (x :: r) ([] : List α) = 1 := rfl
      have h2 := R [] d hb hd
      have h3 := R (x :: r) d ha hd
      unfold rng at h2 h3
      rw [e]
      cases d with
      | nil =>
        have e2 : cmpLx c ([] : List α) [] = 0 := rfl
        rw [e, e2]
        exact ⟨by omega, by omega, by omega, by omega, by omega, by omega, by omega⟩
      | cons z t =>
        have e2 : cmpLx c [] (z :: t) = -1 := rfl
        rw [e2]
        exact ⟨by omega, by omega, h3, by omega, by omega, by omega, by omega⟩
    | cons y q =>
      cases d with
      | nil =>
        have e2 : cmpLx c (x :: r) ([] : List α) = 1 := rfl
        have e3 : cmpLx c (y :: q) ([] : List α) = 1 := rfl
        have h1 := R (x :: r) (y :: q) ha hb
        unfold rng at h1
        rw [e2, e3]
        exact ⟨h1, by omega, by omega, by omega, by omega, by omega, by omega⟩
      | cons z t =>
        have ha' : ∀ u ∈ r, P u := fun u hu => ha u (by simp [hu])
        have hb' : ∀ u ∈ q, P u := fun u hu => hb u (by simp [hu])
        have hd' : ∀ u ∈ t, P u := fun u hu => hd u (by simp [hu])
        rw [cmpLx_cons, cmpLx_cons, cmpLx_cons]
        exact tri_lx (T x y z (ha x (by simp)) (hb y (by simp)) (hd z (by simp))) (R r q ha' hb') (R q t hb' hd') (R r t ha' hd') (fun _ _ => ih q t ha' hb' hd')
theorem cmpLx_zero {c : α → α → Int} : ∀ {a b : List α}, cmpLx c a b = 0 ↔ a.length = b.length ∧ ∀ (i : Nat) (x y : α), a[i]? = some x → b[i]? = some y → c x y = 0
  | [], [] => by simp [cmpLx]
  | [], _ :: _ => by simp [cmpLx]
  | _ :: _, [] => by simp [cmpLx]
  | x :: r, y :: q => by
    rw [cmpLx_cons, lx_is_zero, cmpLx_zero (a := r) (b := q)]
    constructor
    · rintro ⟨h, h2, h3⟩
      refine ⟨by simp [h2], fun i u v hu hv => ?_⟩
      cases i with
      | zero => simp at hu hv; subst hu hv; exact h
      | succ i => exact h3 i u v (by simpa using hu) (by simpa using hv)
    · rintro ⟨h2, h3⟩
      exact ⟨h3 0 x y rfl rfl, by simpa using h2, fun i u v hu hv => h3 (i + 1) u v (by simpa using hu) (by simpa using hv)⟩
theorem cmpLx_map {c : α → α → Int} {c' : β → β → Int} (f : β → α) : ∀ {a b : List β}, (∀ x ∈ a, ∀ y ∈ b, c (f x) (f y) = c' x y) → cmpLx c (a.map f) (b.map f) = cmpLx c' a b
  | [], [], _ => rfl
  | [], _ :: _, _ => rfl
  | _ :: _, [], _ => rfl
  | x :: r, y :: q, h => by
    rw [List.map_cons, List.map_cons, cmpLx_cons, cmpLx_cons, h x (by simp) y (by simp), cmpLx_map f fun u hu v hv => h u (by simp [hu]) v (by simp [hv])]
/-- Behind k equal pairs. -/
theorem cmpLx_drop {c : α → α → Int} : ∀ (k : Nat) {a b : List α}, k ≤ a.length → k ≤ b.length → (∀ (i : Nat) (x y : α), i < k → a[i]? = some x → b[i]? = some y → c x y = 0) → cmpLx c a b = cmpLx c (a.drop k) (b.drop k)
  | 0, a, b, _, _, _ => by simp
  | k + 1, [], _, h, _, _ => by simp at h
  | k + 1, _ :: _, [], _, h, _ => by simp at h
  | k + 1, x :: r, y :: q, h1, h2, h => by
    rw [cmpLx_cons, lx_zero (h 0 x y (by omega) rfl rfl), cmpLx_drop k (by simpa using h1) (by simpa using h2) (fun i u v hi hu hv => h (i + 1) u v (by omega) (by simpa using hu) (by simpa using hv))]
    rfl
theorem cmpLx_at {c : α → α → Int} {k : Nat} {a b : List α} {x y : α} (h : ∀ (i : Nat) (x y : α), i < k → a[i]? = some x → b[i]? = some y → c x y = 0) (hx : a[k]? = some x) (hy : b[k]? = some y) (hn : c x y ≠ 0) : cmpLx c a b = c x y := by
  have h1 := (List.getElem?_eq_some_iff.1 hx).1
  have h2 := (List.getElem?_eq_some_iff.1 hy).1
  rw [cmpLx_drop k (by omega) (by omega) h, List.drop_eq_getElem_cons h1, List.drop_eq_getElem_cons h2, cmpLx_cons]
  have e1 := (List.getElem?_eq_some_iff.1 hx).2
  have e2 := (List.getElem?_eq_some_iff.1 hy).2
  rw [e1, e2, lx_pos hn]
theorem cmpLx_end {c : α → α → Int} {k : Nat} {a b : List α} (h1 : k ≤ a.length) (h2 : k ≤ b.length) (h : ∀ (i : Nat) (x y : α), i < k → a[i]? = some x → b[i]? = some y → c x y = 0) (hk : k = a.length ∨ k = b.length) : cmpLx c a b = cmpI a.length b.length := by
  rw [cmpLx_drop k h1 h2 h]
  rcases hk with hk | hk
  · rw [hk, List.drop_length]
    cases hb : b.drop a.length with
    | nil =>
      have := congrArg List.length hb
      simp at this
      rw [cmpI_zero.2 (by omega)]; rfl
    | cons y q =>
      have := congrArg List.length hb
      simp at this
      rw [cmpI_lt (by omega)]; rfl
  · rw [hk, List.drop_length]
    cases ha : a.drop b.length with
    | nil =>
      have := congrArg List.length ha
      simp at this
      rw [cmpI_zero.2 (by omega)]; rfl
    | cons y q =>
      have := congrArg List.length ha
      simp at this
      rw [cmpI_gt (by omega)]; rfl
/-- Equal, pair by pair. -/
def eqLx (e : α → α → Bool) : List α → List α → Bool
  | [], [] => true
  | x :: r, y :: q => e x y && eqLx e r q
  | _, _ => false
theorem eqLx_iff {e : α → α → Bool} : ∀ {a b : List α}, eqLx e a b = true ↔ a.length = b.length ∧ ∀ (i : Nat) (x y : α), a[i]? = some x → b[i]? = some y → e x y = true
  | [], [] => by simp [eqLx]
  | [], _ :: _ => by simp [eqLx]
  | _ :: _, [] => by simp [eqLx]
  | x :: r, y :: q => by
    rw [show eqLx e (x :: r) (y :: q) = (e x y && eqLx e r q) from rfl, Bool.and_eq_true, eqLx_iff (a := r) (b := q)]
    constructor
    · rintro ⟨h, h2, h3⟩
      refine ⟨by simp [h2], fun i u v hu hv => ?_⟩
      cases i with
      | zero => simp at hu hv; subst hu hv; exact h
      | succ i => exact h3 i u v (by simpa using hu) (by simpa using hv)
    · rintro ⟨h2, h3⟩
      exact ⟨h3 0 x y rfl rfl, by simpa using h2, fun i u v hu hv => h3 (i + 1) u v (by simpa using hu) (by simpa using hv)⟩
theorem eqLx_len {e : α → α → Bool} {a b : List α} (h : a.length ≠ b.length) : eqLx e a b = false := Bool.eq_false_iff.2 fun h' => h (eqLx_iff.1 h').1
theorem eqLx_no {e : α → α → Bool} {a b : List α} {i : Nat} {x y : α} (hx : a[i]? = some x) (hy : b[i]? = some y) (h : e x y = false) : eqLx e a b = false := Bool.eq_false_iff.2 fun h' => by rw [(eqLx_iff.1 h').2 i x y hx hy] at h; cases h
theorem eqLx_all {e : α → α → Bool} {a b : List α} (hl : a.length = b.length) (h : ∀ (i : Nat) (x y : α), a[i]? = some x → b[i]? = some y → e x y = true) : eqLx e a b = true := eqLx_iff.2 ⟨hl, h⟩
theorem eqLx_map {e : α → α → Bool} {e' : β → β → Bool} (f : β → α) : ∀ {a b : List β}, (∀ x ∈ a, ∀ y ∈ b, e (f x) (f y) = e' x y) → eqLx e (a.map f) (b.map f) = eqLx e' a b
  | [], [], _ => rfl
  | [], _ :: _, _ => rfl
  | _ :: _, [], _ => rfl
  | x :: r, y :: q, h => by
    show (e (f x) (f y) && eqLx e (r.map f) (q.map f)) = (e' x y && eqLx e' r q)
    rw [h x (by simp) y (by simp), eqLx_map f fun u hu v hv => h u (by simp [hu]) v (by simp [hv])]
theorem eqLx_cmp {e : α → α → Bool} {c : α → α → Int} {a b : List α} (h : ∀ x ∈ a, ∀ y ∈ b, e x y = true ↔ c x y = 0) : eqLx e a b = true ↔ cmpLx c a b = 0 := by
  rw [eqLx_iff, cmpLx_zero]
  constructor
  · rintro ⟨h1, h2⟩
    exact ⟨h1, fun i x y hx hy => (h x (List.mem_of_getElem? hx) y (List.mem_of_getElem? hy)).1 (h2 i x y hx hy)⟩
  · rintro ⟨h1, h2⟩
    exact ⟨h1, fun i x y hx hy => (h x (List.mem_of_getElem? hx) y (List.mem_of_getElem? hy)).2 (h2 i x y hx hy)⟩
end
def OJ (j : JV) : Prop := JOk j ∧ OG (unJ j)
theorem tri_J {x y z : JV} (hx : OJ x) (hy : OJ y) (hz : OJ z) : Tri (cmpJ x y) (cmpJ y z) (cmpJ x z) := by
  rw [← cmp_law _ _ hx.1 hy.1, ← cmp_law _ _ hy.1 hz.1, ← cmp_law _ _ hx.1 hz.1]
  exact tri_P _ _ _ hx.2 hy.2 hz.2
theorem rng_J {x y : JV} (hx : JOk x) (hy : JOk y) : rng (cmpJ x y) := by
  rw [← cmp_law _ _ hx hy]
  exact rng_P _ _
theorem swap_J {x y : JV} (hx : JOk x) (hy : JOk y) : cmpJ y x = - cmpJ x y := by
  rw [← cmp_law _ _ hx hy, ← cmp_law _ _ hy hx]
  exact swap_P _ _
theorem eqJ_iff {x y : JV} (hx : OJ x) (hy : OJ y) : eqJ x y = true ↔ cmpJ x y = 0 := by
  rw [← cmp_law _ _ hx.1 hy.1, ← eq_law _ _ hx.1 hy.1]
  exact eqP_iff _ _ hx.2 hy.2
def cmpFd (f g : ByteArray × JV) : Int := lx (cmpS f.1 g.1) (cmpJ f.2 g.2)
def eqFd (f g : ByteArray × JV) : Bool := decide (f.1 = g.1) && eqJ f.2 g.2
def rkPE : PEV → Int
  | .name _ => 0
  | .key _ => 1
  | .val _ => 2
  | .idx _ => 3
def bodyPE : PEV → PEV → Int
  | .name a, .name b => cmpS a b
  | .key a, .key b => cmpLx cmpFd a b
  | .val a, .val b => cmpJ a b
  | .idx a, .idx b => cmpI a b
  | _, _ => 0
def cmpPE (p q : PEV) : Int := lx (cmpI (rkPE p) (rkPE q)) (bodyPE p q)
def eqPE : PEV → PEV → Bool
  | .name a, .name b => decide (a = b)
  | .key a, .key b => eqLx eqFd a b
  | .val a, .val b => eqJ a b
  | .idx a, .idx b => decide (a = b)
  | _, _ => false
/-- The element is in memory; its values are orderly. -/
def JPE : PEV → Prop
  | .key fl => ∀ f ∈ fl, JOk f.2
  | .val j => JOk j
  | _ => True
def OPE : PEV → Prop
  | .key fl => ∀ f ∈ fl, OJ f.2
  | .val j => OJ j
  | _ => True
theorem OPE.j {p : PEV} (h : OPE p) : JPE p := by
  cases p with
  | key fl => exact fun f hf => (h f hf).1
  | val j => exact h.1
  | _ => trivial
theorem rng_Fd {f g : ByteArray × JV} (h : JOk f.2) (h' : JOk g.2) : rng (cmpFd f g) := rng_lx (rng_cmpS _ _) (rng_J h h')
theorem tri_Fd {f g k : ByteArray × JV} (hf : OJ f.2) (hg : OJ g.2) (hk : OJ k.2) : Tri (cmpFd f g) (cmpFd g k) (cmpFd f k) :=
  tri_lx (tri_cmpS _ _ _) (rng_J hf.1 hg.1) (rng_J hg.1 hk.1) (rng_J hf.1 hk.1) (fun _ _ => tri_J hf hg hk)
theorem rng_body_PE {p q : PEV} (hp : JPE p) (hq : JPE q) : rng (bodyPE p q) := by
  cases p <;> cases q <;> first
    | exact .inr (.inl rfl)
    | exact rng_cmpS _ _
    | exact rng_cmpI _ _
    | exact rng_J hp hq
    | exact rng_Lx fun x hx y hy => rng_Fd (hp x hx) (hq y hy)
theorem tri_PE {p q r : PEV} (hp : OPE p) (hq : OPE q) (hr : OPE r) : Tri (cmpPE p q) (cmpPE q r) (cmpPE p r) := by
  refine tri_lx (tri_cmpI _ _ _) (rng_body_PE hp.j hq.j) (rng_body_PE hq.j hr.j) (rng_body_PE hp.j hr.j) (fun h1 h2 => ?_)
  rw [cmpI_zero] at h1 h2
  cases p <;> cases q <;> first | (exfalso; revert h1; simp [rkPE]; done) | skip
  all_goals cases r <;> first | (exfalso; revert h2; simp [rkPE]; done) | skip
  · exact tri_cmpS _ _ _
  · exact tri_Lx (P := fun f : ByteArray × JV => OJ f.2) (fun x y z => tri_Fd) _ _ _ hp hq hr
  · exact tri_J hp hq hr
  · exact tri_cmpI _ _ _
theorem swap_PE {p q : PEV} (hp : JPE p) (hq : JPE q) : cmpPE q p = - cmpPE p q := by
  unfold cmpPE
  have h : bodyPE q p = - bodyPE p q := by
    cases p <;> cases q <;> first
      | rfl
      | exact cmpS_swap _ _
      | exact cmpI_swap _ _
      | exact swap_J hp hq
      | exact swap_Lx fun x hx y hy => by unfold cmpFd; rw [cmpS_swap x.1, swap_J (hp x hx) (hq y hy), lx_neg]
  rw [h, cmpI_swap (rkPE p), lx_neg]
theorem eqPE_iff {p q : PEV} (hp : OPE p) (hq : OPE q) : eqPE p q = true ↔ cmpPE p q = 0 := by
  unfold cmpPE
  rw [lx_is_zero, cmpI_zero]
  cases p <;> cases q <;> first
    | (simp [eqPE, rkPE, bodyPE]; done)
    | skip
  · simp [eqPE, rkPE, bodyPE, cmpS_zero]
  · show eqLx eqFd _ _ = true ↔ _ ∧ cmpLx cmpFd _ _ = 0
    rw [eqLx_cmp (c := cmpFd) fun x hx y hy => ?_]
    · exact ⟨fun h => ⟨rfl, h⟩, fun h => h.2⟩
    · unfold eqFd cmpFd
      rw [lx_is_zero, Bool.and_eq_true, decide_eq_true_eq, cmpS_zero, eqJ_iff (hp x hx) (hq y hy)]
  · show eqJ _ _ = true ↔ _ ∧ cmpJ _ _ = 0
    rw [eqJ_iff hp hq]
    exact ⟨fun h => ⟨rfl, h⟩, fun h => h.2⟩
  · simp [eqPE, rkPE, bodyPE, cmpI_zero]
end Go.Proofs.YtgmahieoiifpfaaGreat
end
section
set_option linter.unusedVariables false
namespace Go.Proofs.YtgmahieoiifpfaaGreat
open Go.RowKit
set_option linter.unusedSimpArgs false
def dvFld (f : ByteArray × JV) : PD := .agg [.val (.string f.1), dvV f.2]
def dvFl (fl : List (ByteArray × JV)) : PD := .sl 2 32 (fl.map dvFld)
def dvPE : PEV → PD
  | .name s => .agg [.ptr (.val (.string s)), nilP, nilP, nilP]
  | .key fl => .agg [nilP, .ptr (dvFl fl), nilP, nilP]
  | .val j => .agg [nilP, nilP, .ptr (dvV j), nilP]
  | .idx n => .agg [nilP, nilP, nilP, .ptr (.val (.int .i64 n))]
theorem JPE_fits {x : EV} (h : Fits (pdE x)) : JPE (toPE x) := by
  obtain ⟨w0, F0, v0, h0⟩ := h
  obtain ⟨ak, ck, a, c, c0, c1, c2, c3, c4, c5, e, h1, h2, h3, hk, h5, h6, hl, hv⟩ := rep_isE h0
  unfold toPE
  by_cases k1 : x.kind = 1
  · rw [if_pos k1]
    intro f hf
    unfold flE at hf
    have hm := (List.of_mem_zip hf).2
    obtain ⟨y, hy, ey⟩ := List.mem_map.1 hm
    rw [← ey]
    refine plain_ok y ?_
    rcases hl with hl | ⟨b, o, hb, ha, hvs⟩
    · rw [hl] at hy; cases hy
    · obtain ⟨i, hi⟩ := List.getElem?_of_mem hy
      obtain ⟨u, hu, _⟩ := (isVs_repL _ hvs).at_ (pdVs_at hi)
      exact IsV.gok y (rep_isV y hu)
  · rw [if_neg k1]
    by_cases k2 : x.kind = 2
    · rw [if_pos k2]; exact plain_ok x.v (IsV.gok x.v hv)
    · rw [if_neg k2]
      by_cases k3 : x.kind = 3
      · rw [if_pos k3]; trivial
      · rw [if_neg k3]; trivial
set_option maxHeartbeats 8000000 in
theorem flCompare_p (a b : List (ByteArray × JV)) : PCall Tryz.prog 212 [dvFl a, dvFl b] (.val (.int .i64 (cmpLx cmpFd a b))) := by
  refine pcall_fits fun hfit => ?_
  unfold dvFl at hfit ⊢
  have b1 := (hfit (.sl 2 32 (a.map dvFld)) (by simp)).sl.2.1
  clear hfit
  have la : (a.map dvFld).length = a.length := by simp
  have lb : (b.map dvFld).length = b.length := by simp
  have ga : ∀ {i : Nat} {f : ByteArray × JV}, a[i]? = some f → (a.map dvFld)[((i : Nat) : Int).toNat]? = some (dvFld f) := fun h => by simp [h]
  have gb : ∀ {i : Nat} {f : ByteArray × JV}, b[i]? = some f → (b.map dvFld)[((i : Nat) : Int).toNat]? = some (dvFld f) := fun h => by simp [h]
  rw [la] at b1
  generalize a.map dvFld = da at *
  generalize b.map dvFld = db at *
  refine pcall_of_run Tryz.func212 rfl Tryz.ntmps212 rfl (fun X => ?_)
  repeat' (first
    | refine run_seq ?_
    | (refine k_pick rfl ?_; refine k_assignD rfl rfl ?_)
    | refine run_opsEnd ?_
    | refine run_region ?_
    | refine run_block ?_
    | fail)
  refine run_loopS (ι := { j : Nat // (j ≤ a.length ∧ j ≤ b.length) ∧ ∀ i x y, i < j → a[i]? = some x → b[i]? = some y → cmpFd x y = 0 })
    (fun j => [(0, .dat (.sl 2 32 da)), (1, .dat (.sl 2 32 db)), (5, .dat (.val (.int .i64 (j.1 : Nat))))])
    (fun _ => []) (fun j => a.length - j.1) ⟨0, ⟨Nat.zero_le _, Nat.zero_le _⟩, fun i _ _ h => absurd h (Nat.not_lt_zero i)⟩ id ?_ ?_
  · (refine ⟨?_, ?_, by rfl⟩ <;> repeat' (first | exact trivial | exact ALe.ptr rfl | exact ALe.own rfl | exact ALe.elt rfl | exact BLe.boxD _ _ | exact BLe.row rfl | exact BLe.res | exact BLe.dead rfl | exact ALe.dat (PLe.refl _) | exact CLe.nil | refine And.intro ?_ ?_ | refine ALe.iface ?_ | refine ALe.clo ?_ | refine CLe.cons ?_ ?_ | refine BLe.box ?_ | refine BLe.row ?_ | exact ALe.any _ | refine ALe.dat (PLe.of_eq ?_)))
  rintro ⟨j, ⟨hj, hj'⟩, hall⟩
  have hend : j = a.length ∨ j = b.length → cmpLx cmpFd a b = cmpI a.length b.length := fun h => cmpLx_end hj hj' hall h
  by_cases hlt : j < a.length
  · have g1 : decide (((da.length : Nat) : Int) ≤ (j : Int)) = false := decide_eq_false (by omega)
    by_cases hlt' : j < b.length
    · have g2 : decide (((db.length : Nat) : Int) ≤ (j : Int)) = false := decide_eq_false (by omega)
      obtain ⟨x, hx⟩ : ∃ x, a[j]? = some x := ⟨_, List.getElem?_eq_getElem hlt⟩
      obtain ⟨y, hy⟩ : ∃ y, b[j]? = some y := ⟨_, List.getElem?_eq_getElem hlt'⟩
      have i1 := ga hx
      have i2 := gb hy
      have c1 := strcmp_p x.1 y.1
      have c2 := compare_p x.2 y.2
      by_cases hs : cmpS x.1 y.1 = 0
      · have g3 : decide (cmpS x.1 y.1 ≠ 0) = false := decide_eq_false (by simp [hs])
        by_cases hv : cmpJ x.2 y.2 = 0
        · have g4 : decide (cmpJ x.2 y.2 ≠ 0) = false := decide_eq_false (by simp [hv])
          repeat' (first
    | refine run_seq ?_
    | (refine k_pick rfl ?_; first | refine k_assignD rfl rfl ?_ | refine k_moveD rfl rfl ?_ | refine k_bin2B rfl rfl rfl rfl ?_ | refine k_pickF rfl rfl (by first | rfl | assumption) rfl ?_ | refine k_lenD rfl rfl ?_ | refine k_ariI rfl rfl rfl rfl (by first | omega | (dsimp only; omega)) ?_)
    | refine run_opsEnd ?_
    | refine run_region ?_
    | refine run_condF rfl (by first | rfl | assumption) ?_
    | refine k_guardNT rfl rfl (by first | rfl | assumption) rfl ?_
    | refine run_block ?_
    | refine run_blkEnd ?_
    | refine run_skip ?_
    | refine run_drawC (by kernel_rfl) ?_
    | refine c_nil (And.intro (by kernel_rfl) ?_)
    | refine c_pick (d_indexAddrD rfl rfl rfl (by first | omega | (dsimp only; omega)) (by assumption)) ?_
    | refine c_pick (d_assignD rfl rfl) ?_
    | refine c_pick (d_moveD rfl rfl) ?_
    | refine c_pick (d_call rfl (by kernel_rfl) rfl (by first | exact c1 | exact c2)) ?_
    | refine c_pick (d_fieldAddrD rfl rfl rfl rfl (by first | rfl | (simp only [cellsD]; rfl))) ?_
    | refine c_pick (d_loadD rfl rfl (by first | rfl | (simp only [cellsD]; rfl))) ?_
    | fail)
          refine run_again ?_
          refine ⟨⟨j + 1, ⟨by omega, by omega⟩, fun i x' y' hi hx' hy' => ?_⟩, id, by simp only; omega, ?_⟩
          · by_cases e : i = j
            · subst e
              rw [hx] at hx'; rw [hy] at hy'
              cases hx'; cases hy'
              unfold cmpFd
              rw [lx_zero hs, hv]
            · exact hall i x' y' (by omega) hx' hy'
          (refine ⟨?_, ?_, by rfl⟩ <;> repeat' (first | exact trivial | exact ALe.ptr rfl | exact ALe.own rfl | exact ALe.elt rfl | exact BLe.boxD _ _ | exact BLe.row rfl | exact BLe.res | exact BLe.dead rfl | exact ALe.dat (PLe.refl _) | exact CLe.nil | refine And.intro ?_ ?_ | refine ALe.iface ?_ | refine ALe.clo ?_ | refine CLe.cons ?_ ?_ | refine BLe.box ?_ | refine BLe.row ?_ | exact ALe.any _ | refine ALe.dat (PLe.of_eq ?_)))
        · have g4 : decide (cmpJ x.2 y.2 ≠ 0) = true := decide_eq_true hv
          have e : cmpFd x y = cmpJ x.2 y.2 := by unfold cmpFd; rw [lx_zero hs]
          rw [cmpLx_at hall hx hy (by rw [e]; exact hv), e]
          repeat' (first
    | refine run_seq ?_
    | (refine k_pick rfl ?_; first | refine k_assignD rfl rfl ?_ | refine k_moveD rfl rfl ?_ | refine k_bin2B rfl rfl rfl rfl ?_ | refine k_pickF rfl rfl (by first | rfl | assumption) rfl ?_ | refine k_lenD rfl rfl ?_)
    | refine run_opsEnd ?_
    | refine run_region ?_
    | refine run_condT rfl (by first | rfl | assumption) ?_
    | refine run_condF rfl (by first | rfl | assumption) ?_
    | refine k_guardNT rfl rfl (by first | rfl | assumption) rfl ?_
    | refine run_block ?_
    | refine run_skip ?_
    | refine run_retOk (resOk_tmp rfl rfl ?_)
    | refine run_drawC (by kernel_rfl) ?_
    | refine c_nil (And.intro (by kernel_rfl) ?_)
    | refine c_pick (d_indexAddrD rfl rfl rfl (by first | omega | (dsimp only; omega)) (by assumption)) ?_
    | refine c_pick (d_assignD rfl rfl) ?_
    | refine c_pick (d_moveD rfl rfl) ?_
    | refine c_pick (d_call rfl (by kernel_rfl) rfl (by first | exact c1 | exact c2)) ?_
    | refine c_pick (d_fieldAddrD rfl rfl rfl rfl (by first | rfl | (simp only [cellsD]; rfl))) ?_
    | refine c_pick (d_loadD rfl rfl (by first | rfl | (simp only [cellsD]; rfl))) ?_
    | fail)
          all_goals exact PLe.refl _
      · have g3 : decide (cmpS x.1 y.1 ≠ 0) = true := decide_eq_true hs
        have e : cmpFd x y = cmpS x.1 y.1 := by unfold cmpFd; rw [lx_pos hs]
        rw [cmpLx_at hall hx hy (by rw [e]; exact hs), e]
        repeat' (first
    | refine run_seq ?_
    | (refine k_pick rfl ?_; first | refine k_assignD rfl rfl ?_ | refine k_moveD rfl rfl ?_ | refine k_bin2B rfl rfl rfl rfl ?_ | refine k_pickF rfl rfl (by first | rfl | assumption) rfl ?_ | refine k_lenD rfl rfl ?_)
    | refine run_opsEnd ?_
    | refine run_region ?_
    | refine run_condT rfl (by first | rfl | assumption) ?_
    | refine run_condF rfl (by first | rfl | assumption) ?_
    | refine k_guardNT rfl rfl (by first | rfl | assumption) rfl ?_
    | refine run_block ?_
    | refine run_skip ?_
    | refine run_retOk (resOk_tmp rfl rfl ?_)
    | refine run_drawC (by kernel_rfl) ?_
    | refine c_nil (And.intro (by kernel_rfl) ?_)
    | refine c_pick (d_indexAddrD rfl rfl rfl (by first | omega | (dsimp only; omega)) (by assumption)) ?_
    | refine c_pick (d_assignD rfl rfl) ?_
    | refine c_pick (d_moveD rfl rfl) ?_
    | refine c_pick (d_call rfl (by kernel_rfl) rfl (by first | exact c1 | exact c2)) ?_
    | refine c_pick (d_fieldAddrD rfl rfl rfl rfl (by first | rfl | (simp only [cellsD]; rfl))) ?_
    | refine c_pick (d_loadD rfl rfl (by first | rfl | (simp only [cellsD]; rfl))) ?_
    | fail)
        all_goals exact PLe.refl _
    · have g2 : decide (((db.length : Nat) : Int) ≤ (j : Int)) = true := decide_eq_true (by omega)
      rw [hend (.inr (by omega)), cmpI_gt (by omega)]
      repeat' (first
    | refine run_seq ?_
    | (refine k_pick rfl ?_; first | refine k_assignD rfl rfl ?_ | refine k_moveD rfl rfl ?_ | refine k_bin2B rfl rfl rfl rfl ?_ | refine k_pickF rfl rfl (by first | rfl | assumption) rfl ?_ | refine k_lenD rfl rfl ?_)
    | refine run_opsEnd ?_
    | refine run_region ?_
    | refine run_condT rfl (by first | rfl | assumption) ?_
    | refine run_condF rfl (by first | rfl | assumption) ?_
    | refine k_guardNT rfl rfl (by first | rfl | assumption) rfl ?_
    | refine run_block ?_
    | refine run_skip ?_
    | refine run_retOk (resOk_tmp rfl rfl ?_)
    | fail)
      all_goals exact PLe.refl _
  · have g1 : decide (((da.length : Nat) : Int) ≤ (j : Int)) = true := decide_eq_true (by omega)
    by_cases hlt' : j < b.length
    · have g2 : decide (((db.length : Nat) : Int) ≤ (j : Int)) = false := decide_eq_false (by omega)
      rw [hend (.inl (by omega)), cmpI_lt (by omega)]
      repeat' (first
    | refine run_seq ?_
    | (refine k_pick rfl ?_; first | refine k_assignD rfl rfl ?_ | refine k_moveD rfl rfl ?_ | refine k_bin2B rfl rfl rfl rfl ?_ | refine k_pickT rfl rfl (by first | rfl | assumption) rfl ?_ | refine k_lenD rfl rfl ?_)
    | refine run_opsEnd ?_
    | refine run_region ?_
    | refine run_condT rfl (by first | rfl | assumption) ?_
    | refine run_condF rfl (by first | rfl | assumption) ?_
    | (refine k_guardY rfl rfl (by first | rfl | assumption) ?_; first | refine k_moveD rfl rfl ?_ | refine k_bin2B rfl rfl rfl rfl ?_ | refine k_lenD rfl rfl ?_)
    | refine run_block ?_
    | refine run_skip ?_
    | refine run_retOk (resOk_tmp rfl rfl ?_)
    | fail)
      all_goals exact PLe.refl _
    · have g2 : decide (((db.length : Nat) : Int) ≤ (j : Int)) = true := decide_eq_true (by omega)
      rw [hend (.inl (by omega)), cmpI_zero.2 (by omega)]
      repeat' (first
    | refine run_seq ?_
    | (refine k_pick rfl ?_; first | refine k_assignD rfl rfl ?_ | refine k_moveD rfl rfl ?_ | refine k_bin2B rfl rfl rfl rfl ?_ | refine k_pickT rfl rfl (by first | rfl | assumption) rfl ?_ | refine k_lenD rfl rfl ?_)
    | refine run_opsEnd ?_
    | refine run_region ?_
    | refine run_condT rfl (by first | rfl | assumption) ?_
    | (refine k_guardY rfl rfl (by first | rfl | assumption) ?_; first | refine k_moveD rfl rfl ?_ | refine k_bin2B rfl rfl rfl rfl ?_ | refine k_lenD rfl rfl ?_)
    | refine run_block ?_
    | refine run_retOk (resOk_tmp rfl rfl ?_)
    | fail)
      all_goals exact PLe.refl _
set_option maxHeartbeats 8000000 in
theorem peCompare_p (p q : PEV) : PCall Tryz.prog 160 [dvPE p, dvPE q] (.val (.int .i64 (cmpPE p q))) := by
  cases p with
  | name a =>
    cases q with
    | name b =>
      have c1 := strcmp_p a b
      have e : cmpPE (.name a) (.name b) = cmpS a b := rfl
      rw [e]
      unfold dvPE
      refine pcall_of_run Tryz.func160 rfl Tryz.ntmps160 rfl (fun X => ?_)
      repeat' (first
    | refine run_seq ?_
    | (refine k_pick rfl ?_; first | refine k_assignD rfl rfl ?_ | refine k_fieldAddrB rfl rfl rfl ?_ | refine k_loadBD rfl rfl rfl (by first | rfl | (simp only [cellsD]; rfl)) ?_ | refine k_boxW rfl rfl rfl (by first | rfl | (simp only [cellsD]; rfl)) ?_ | refine k_cmpNil rfl rfl rfl (by kernel_rfl) (by first | exact NilIs.ptr | exact NilIs.none | exact NilIs.nilI | assumption) rfl ?_)
    | refine run_opsEnd ?_
    | refine run_region ?_
    | refine run_condT rfl (by first | rfl | assumption) ?_
    | refine run_condF rfl (by first | rfl | assumption) ?_
    | refine run_skip ?_
    | refine run_retOk (resOk_tmp rfl rfl ?_)
    | refine run_drawC (by kernel_rfl) ?_
    | refine c_nil (And.intro (by kernel_rfl) ?_)
    | refine c_pick (d_assignD rfl rfl) ?_
    | refine c_pick (d_fieldAddrB rfl rfl rfl) ?_
    | refine c_pick (d_loadBD rfl rfl rfl (by first | rfl | (simp only [cellsD]; rfl))) ?_
    | refine c_pick (d_call rfl (by kernel_rfl) rfl (by first | exact c1)) ?_
    | refine c_pick (d_nilD rfl rfl) ?_
    | refine c_pick (d_loadD rfl rfl (by first | rfl | (simp only [cellsD]; rfl))) ?_
    | fail)
      all_goals exact PLe.refl _
    | _ =>
      refine pcall_of_run Tryz.func160 rfl Tryz.ntmps160 rfl (fun X => ?_)
      unfold dvPE
      repeat' (first
    | refine run_seq ?_
    | (refine k_pick rfl ?_; first | refine k_assignD rfl rfl ?_ | refine k_fieldAddrB rfl rfl rfl ?_ | refine k_loadBD rfl rfl rfl (by first | rfl | (simp only [cellsD]; rfl)) ?_ | refine k_boxW rfl rfl rfl (by first | rfl | (simp only [cellsD]; rfl)) ?_ | refine k_cmpNil rfl rfl rfl (by kernel_rfl) (by first | exact NilIs.ptr | exact NilIs.none | exact NilIs.nilI | assumption) rfl ?_)
    | refine run_opsEnd ?_
    | refine run_region ?_
    | refine run_condT rfl (by first | rfl | assumption) ?_
    | refine run_retOk (resOk_tmp rfl rfl ?_)
    | fail)
      all_goals exact PLe.refl _
  | key a =>
    cases q with
    | key b =>
      have c1 := flCompare_p a b
      have e : cmpPE (.key a) (.key b) = cmpLx cmpFd a b := rfl
      rw [e]
      unfold dvPE
      refine pcall_of_run Tryz.func160 rfl Tryz.ntmps160 rfl (fun X => ?_)
      repeat' (first
    | refine run_seq ?_
    | (refine k_pick rfl ?_; first | refine k_assignD rfl rfl ?_ | refine k_fieldAddrB rfl rfl rfl ?_ | refine k_loadBD rfl rfl rfl (by first | rfl | (simp only [cellsD]; rfl)) ?_ | refine k_boxW rfl rfl rfl (by first | rfl | (simp only [cellsD]; rfl)) ?_ | refine k_cmpNil rfl rfl rfl (by kernel_rfl) (by first | exact NilIs.ptr | exact NilIs.none | exact NilIs.nilI | assumption) rfl ?_)
    | refine run_opsEnd ?_
    | refine run_region ?_
    | refine run_condT rfl (by first | rfl | assumption) ?_
    | refine run_condF rfl (by first | rfl | assumption) ?_
    | refine run_skip ?_
    | refine run_retOk (resOk_tmp rfl rfl ?_)
    | refine run_drawC (by kernel_rfl) ?_
    | refine c_nil (And.intro (by kernel_rfl) ?_)
    | refine c_pick (d_assignD rfl rfl) ?_
    | refine c_pick (d_fieldAddrB rfl rfl rfl) ?_
    | refine c_pick (d_loadBD rfl rfl rfl (by first | rfl | (simp only [cellsD]; rfl))) ?_
    | refine c_pick (d_call rfl (by kernel_rfl) rfl (by first | exact c1)) ?_
    | refine c_pick (d_nilD rfl rfl) ?_
    | refine c_pick (d_loadD rfl rfl (by first | rfl | (simp only [cellsD]; rfl))) ?_
    | fail)
      all_goals exact PLe.refl _
    | _ =>
      refine pcall_of_run Tryz.func160 rfl Tryz.ntmps160 rfl (fun X => ?_)
      unfold dvPE
      repeat' (first
    | refine run_seq ?_
    | (refine k_pick rfl ?_; first | refine k_assignD rfl rfl ?_ | refine k_fieldAddrB rfl rfl rfl ?_ | refine k_loadBD rfl rfl rfl (by first | rfl | (simp only [cellsD]; rfl)) ?_ | refine k_boxW rfl rfl rfl (by first | rfl | (simp only [cellsD]; rfl)) ?_ | refine k_cmpNil rfl rfl rfl (by kernel_rfl) (by first | exact NilIs.ptr | exact NilIs.none | exact NilIs.nilI | assumption) rfl ?_)
    | refine run_opsEnd ?_
    | refine run_region ?_
    | refine run_condT rfl (by first | rfl | assumption) ?_
    | refine run_condF rfl (by first | rfl | assumption) ?_
    | refine run_skip ?_
    | refine run_retOk (resOk_tmp rfl rfl ?_)
    | fail)
      all_goals exact PLe.refl _
  | val a =>
    cases q with
    | val b =>
      have c1 := compare_p a b
      have e : cmpPE (.val a) (.val b) = cmpJ a b := rfl
      rw [e]
      unfold dvPE
      refine pcall_of_run Tryz.func160 rfl Tryz.ntmps160 rfl (fun X => ?_)
      repeat' (first
    | refine run_seq ?_
    | (refine k_pick rfl ?_; first | refine k_assignD rfl rfl ?_ | refine k_fieldAddrB rfl rfl rfl ?_ | refine k_loadBD rfl rfl rfl (by first | rfl | (simp only [cellsD]; rfl)) ?_ | refine k_boxW rfl rfl rfl (by first | rfl | (simp only [cellsD]; rfl)) ?_ | refine k_cmpNil rfl rfl rfl (by kernel_rfl) (by first | exact NilIs.ptr | exact NilIs.none | exact NilIs.nilI | assumption) rfl ?_)
    | refine run_opsEnd ?_
    | refine run_region ?_
    | refine run_condT rfl (by first | rfl | assumption) ?_
    | refine run_condF rfl (by first | rfl | assumption) ?_
    | refine run_skip ?_
    | refine run_retOk (resOk_tmp rfl rfl ?_)
    | refine run_drawC (by kernel_rfl) ?_
    | refine c_nil (And.intro (by kernel_rfl) ?_)
    | refine c_pick (d_assignD rfl rfl) ?_
    | refine c_pick (d_fieldAddrB rfl rfl rfl) ?_
    | refine c_pick (d_loadBD rfl rfl rfl (by first | rfl | (simp only [cellsD]; rfl))) ?_
    | refine c_pick (d_call rfl (by kernel_rfl) rfl (by first | exact c1)) ?_
    | refine c_pick (d_nilD rfl rfl) ?_
    | refine c_pick (d_loadD rfl rfl (by first | rfl | (simp only [cellsD]; rfl))) ?_
    | fail)
      all_goals exact PLe.refl _
    | _ =>
      refine pcall_of_run Tryz.func160 rfl Tryz.ntmps160 rfl (fun X => ?_)
      unfold dvPE
      repeat' (first
    | refine run_seq ?_
    | (refine k_pick rfl ?_; first | refine k_assignD rfl rfl ?_ | refine k_fieldAddrB rfl rfl rfl ?_ | refine k_loadBD rfl rfl rfl (by first | rfl | (simp only [cellsD]; rfl)) ?_ | refine k_boxW rfl rfl rfl (by first | rfl | (simp only [cellsD]; rfl)) ?_ | refine k_cmpNil rfl rfl rfl (by kernel_rfl) (by first | exact NilIs.ptr | exact NilIs.none | exact NilIs.nilI | assumption) rfl ?_)
    | refine run_opsEnd ?_
    | refine run_region ?_
    | refine run_condT rfl (by first | rfl | assumption) ?_
    | refine run_condF rfl (by first | rfl | assumption) ?_
    | refine run_skip ?_
    | refine run_retOk (resOk_tmp rfl rfl ?_)
    | fail)
      all_goals exact PLe.refl _
  | idx a =>
    cases q with
    | idx b =>
      have e : cmpPE (.idx a) (.idx b) = cmpI a b := rfl
      rw [e]
      unfold dvPE
      refine pcall_of_run Tryz.func160 rfl Tryz.ntmps160 rfl (fun X => ?_)
      by_cases h1 : a < b
      · have g1 : decide (a < b) = true := decide_eq_true h1
        rw [cmpI_lt h1]
        repeat' (first
    | refine run_seq ?_
    | (refine k_pick rfl ?_; first | refine k_assignD rfl rfl ?_ | refine k_fieldAddrB rfl rfl rfl ?_ | refine k_loadBD rfl rfl rfl (by first | rfl | (simp only [cellsD]; rfl)) ?_ | refine k_boxW rfl rfl rfl (by first | rfl | (simp only [cellsD]; rfl)) ?_ | refine k_cmpNil rfl rfl rfl (by kernel_rfl) (by first | exact NilIs.ptr | exact NilIs.none | exact NilIs.nilI | assumption) rfl ?_)
    | refine run_opsEnd ?_
    | refine run_region ?_
    | refine run_condT rfl (by first | rfl | assumption) ?_
    | refine run_condF rfl (by first | rfl | assumption) ?_
    | refine run_skip ?_
    | refine run_retOk (resOk_tmp rfl rfl ?_)
    | refine run_drawC (by kernel_rfl) ?_
    | refine c_nil (And.intro (by kernel_rfl) ?_)
    | refine c_pick (d_fieldAddrB rfl rfl rfl) ?_
    | refine c_pick (d_loadBD rfl rfl rfl (by first | rfl | (simp only [cellsD]; rfl))) ?_
    | refine c_pick (d_bin2B rfl rfl rfl rfl) ?_
    | refine c_pick (d_nilD rfl rfl) ?_
    | refine c_pick (d_loadD rfl rfl (by first | rfl | (simp only [cellsD]; rfl))) ?_
    | fail)
        all_goals exact PLe.refl _
      · have g1 : decide (a < b) = false := decide_eq_false h1
        by_cases h2 : a = b
        · have g2 : decide (a = b) = true := decide_eq_true h2
          rw [cmpI_zero.2 h2]
          repeat' (first
    | refine run_seq ?_
    | (refine k_pick rfl ?_; first | refine k_assignD rfl rfl ?_ | refine k_fieldAddrB rfl rfl rfl ?_ | refine k_loadBD rfl rfl rfl (by first | rfl | (simp only [cellsD]; rfl)) ?_ | refine k_boxW rfl rfl rfl (by first | rfl | (simp only [cellsD]; rfl)) ?_ | refine k_cmpNil rfl rfl rfl (by kernel_rfl) (by first | exact NilIs.ptr | exact NilIs.none | exact NilIs.nilI | assumption) rfl ?_)
    | refine run_opsEnd ?_
    | refine run_region ?_
    | refine run_condT rfl (by first | rfl | assumption) ?_
    | refine run_condF rfl (by first | rfl | assumption) ?_
    | refine run_skip ?_
    | refine run_retOk (resOk_tmp rfl rfl ?_)
    | refine run_drawC (by kernel_rfl) ?_
    | refine c_nil (And.intro (by kernel_rfl) ?_)
    | refine c_pick (d_fieldAddrB rfl rfl rfl) ?_
    | refine c_pick (d_loadBD rfl rfl rfl (by first | rfl | (simp only [cellsD]; rfl))) ?_
    | refine c_pick (d_bin2B rfl rfl rfl rfl) ?_
    | refine c_pick (d_nilD rfl rfl) ?_
    | refine c_pick (d_loadD rfl rfl (by first | rfl | (simp only [cellsD]; rfl))) ?_
    | fail)
          all_goals exact PLe.refl _
        · have g2 : decide (a = b) = false := decide_eq_false h2
          rw [cmpI_gt (by omega)]
          repeat' (first
    | refine run_seq ?_
    | (refine k_pick rfl ?_; first | refine k_assignD rfl rfl ?_ | refine k_fieldAddrB rfl rfl rfl ?_ | refine k_loadBD rfl rfl rfl (by first | rfl | (simp only [cellsD]; rfl)) ?_ | refine k_boxW rfl rfl rfl (by first | rfl | (simp only [cellsD]; rfl)) ?_ | refine k_cmpNil rfl rfl rfl (by kernel_rfl) (by first | exact NilIs.ptr | exact NilIs.none | exact NilIs.nilI | assumption) rfl ?_)
    | refine run_opsEnd ?_
    | refine run_region ?_
    | refine run_condT rfl (by first | rfl | assumption) ?_
    | refine run_condF rfl (by first | rfl | assumption) ?_
    | refine run_skip ?_
    | refine run_retOk (resOk_tmp rfl rfl ?_)
    | refine run_drawC (by kernel_rfl) ?_
    | refine c_nil (And.intro (by kernel_rfl) ?_)
    | refine c_pick (d_fieldAddrB rfl rfl rfl) ?_
    | refine c_pick (d_loadBD rfl rfl rfl (by first | rfl | (simp only [cellsD]; rfl))) ?_
    | refine c_pick (d_bin2B rfl rfl rfl rfl) ?_
    | refine c_pick (d_nilD rfl rfl) ?_
    | refine c_pick (d_loadD rfl rfl (by first | rfl | (simp only [cellsD]; rfl))) ?_
    | fail)
          all_goals exact PLe.refl _
    | _ =>
      refine pcall_of_run Tryz.func160 rfl Tryz.ntmps160 rfl (fun X => ?_)
      unfold dvPE
      repeat' (first
    | refine run_seq ?_
    | (refine k_pick rfl ?_; first | refine k_assignD rfl rfl ?_ | refine k_fieldAddrB rfl rfl rfl ?_ | refine k_loadBD rfl rfl rfl (by first | rfl | (simp only [cellsD]; rfl)) ?_ | refine k_boxW rfl rfl rfl (by first | rfl | (simp only [cellsD]; rfl)) ?_ | refine k_cmpNil rfl rfl rfl (by kernel_rfl) (by first | exact NilIs.ptr | exact NilIs.none | exact NilIs.nilI | assumption) rfl ?_)
    | refine run_opsEnd ?_
    | refine run_region ?_
    | refine run_condT rfl (by first | rfl | assumption) ?_
    | refine run_condF rfl (by first | rfl | assumption) ?_
    | refine run_skip ?_
    | refine run_retOk (resOk_tmp rfl rfl ?_)
    | fail)
      all_goals exact PLe.refl _
end Go.Proofs.YtgmahieoiifpfaaGreat
end
section
namespace Go.Proofs.YtgmahieoiifpfaaGreat
open Go.RowKit
set_option linter.unusedSimpArgs false
set_option maxHeartbeats 1000000 in
set_option maxRecDepth 100000 in
theorem ordVals_any (l : List GV) (w : World) (a1 : Option Addr) (c1 : Nat) (hl88 : l.length * 88 ≤ 140737488351232) (hl : l = [] ∨ ∃ b o, Btw 0 w.heap.size b ∧ a1 = some ⟨b, o, none⟩ ∧ IsVs w (Btw 0 w.heap.size) l b o) :
    Calls Tryz.prog 94 #[.slice a1 l.length c1] w fun e w' => e = .returned (.bool (ordL l)) ∧ Below w.heap.size w w' := by
  go_enter Tryz.func94, Tryz.ntmps94
  go_wp2_with fail
  go_loopw [7] (fun i wr => ∃ k : Nat, k ≤ l.length ∧ i = .int .i64 (k : Nat) ∧ Below w.heap.size w wr ∧ ∀ y ∈ l.take k, ordV y = true) (fun i _ => l.length - (intOf i).toNat)
  case atStart => exact ⟨0, Nat.zero_le _, rfl, Below.refl _ _, by simp⟩
  case round =>
    obtain ⟨k, hk, rfl, hB, hall⟩ := hrel
    by_cases hlt : k < l.length
    · obtain ⟨b, o, hb, rfl, hcells⟩ := vals_at hl (by omega)
      obtain ⟨y, hy⟩ : ∃ y, l[k]? = some y := ⟨l[k], by simp [hlt]⟩
      obtain ⟨e0, f0, e1, f1, g0, g1, g2, g3, g4, g5, hyv⟩ := (IsVs.keep (S' := Btw 0 wr.heap.size) (Btw.kept hB) (Btw.mono (Nat.le_refl _) hB.size) l b o hb hcells).cells hy
      have hc := ord_any y
      have hyA := hyv.alloc_ (.cells #[.int .i64 y.kind, .int .i64 y.n, .float .f64 y.f, .string y.s, .slice e0 y.keys.length f0, .slice e1 y.l.length f1] 27)
      have HY := Lib.hid (And.intro hy (And.intro hall hB))
      have j0 : (0 : Int) ≤ (k : Int) := by omega
      have j1 : (k : Int) < (l.length : Int) := by omega
      have hs := hB.size
      clear hy hall hB hcells hyv
      go_wp2_with (go_at_call 93; (with_reducible refine (hc.use _ _ ?_).mono ?_))
      · simpa using hyA
      rintro e w2 ⟨rfl, hB2'⟩
      obtain ⟨hy, hall, hB⟩ := HY.out
      have hB2 : Below w.heap.size w w2 := (hB.alloc hs (.cells #[.int .i64 y.kind, .int .i64 y.n, .float .f64 y.f, .string y.s, .slice e0 y.keys.length f0, .slice e1 y.l.length f1] 27)).trans (hB2'.mono (by simp; omega))
      clear g0 g1 g2 g3 g4 g5 hyA hc HY hB2'
      cases ho : ordV y with
      | false =>
        have hf : ordL l = false := by
          cases h : ordL l with
          | false => rfl
          | true => rw [ordL_iff.1 h y (List.mem_of_getElem? hy)] at ho; cases ho
        go_wp2_with fail
        go_ret
        rw [hf]
        exact ⟨rfl, hB2⟩
      | true =>
        have HF := Lib.hid (show ∀ z ∈ l.take (k + 1), ordV z = true from fun z hz => by
          rw [List.take_add_one, hy] at hz
          rcases List.mem_append.1 hz with hz | hz
          · exact hall z hz
          · simp at hz; subst hz; exact ho)
        clear hall hy hB
        go_wp2_with fail
        go_roundw
        case rel => exact ⟨k + 1, hlt, by go_num, hB2, HF.out⟩
        case measure => simp [intOf]; omega
    · have hkl : k = l.length := by omega
      subst hkl
      have ht : ordL l = true := ordL_iff.2 (by rw [List.take_length] at hall; exact hall)
      have HT := Lib.hid ht
      clear ht hall
      go_wp2_with fail
      go_ret
      rw [HT.out]
      exact ⟨rfl, hB⟩
end Go.Proofs.YtgmahieoiifpfaaGreat
end
section
set_option linter.unusedVariables false
namespace Go.Proofs.YtgmahieoiifpfaaGreat
open Go.RowKit
set_option linter.unusedSimpArgs false
def rkE (x : EV) : Int := if x.kind = 1 then 1 else if x.kind = 2 then 2 else if x.kind = 3 then 3 else 0
def kvE (x : EV) : List (ByteArray × GV) := x.keys.zip x.l
def cmpKv (f g : ByteArray × GV) : Int := lx (cmpS f.1 g.1) (cmpP (cleanV f.2) (cleanV g.2))
def eqKv (f g : ByteArray × GV) : Bool := decide (f.1 = g.1) && eqP (cleanV f.2) (cleanV g.2)
def bodyE (x y : EV) : Int := if rkE x = 1 then cmpLx cmpKv (kvE x) (kvE y) else if rkE x = 2 then cmpP (cleanV x.v) (cleanV y.v) else if rkE x = 3 then cmpI x.n y.n else cmpS x.s y.s
def cmpE (x y : EV) : Int := lx (cmpI (rkE x) (rkE y)) (bodyE x y)
def eqE (x y : EV) : Bool := if rkE x ≠ rkE y then false else if rkE x = 1 then eqLx eqKv (kvE x) (kvE y) else if rkE x = 2 then eqP (cleanV x.v) (cleanV y.v) else if rkE x = 3 then decide (x.n = y.n) else decide (x.s = y.s)
theorem toPE_kind (x : EV) : (x.kind = 1 ∧ rkE x = 1 ∧ toPE x = .key (flE x)) ∨ (x.kind = 2 ∧ rkE x = 2 ∧ toPE x = .val (plainJ x.v)) ∨ (x.kind = 3 ∧ rkE x = 3 ∧ toPE x = .idx x.n) ∨ (x.kind ≠ 1 ∧ x.kind ≠ 2 ∧ x.kind ≠ 3 ∧ rkE x = 0 ∧ toPE x = .name x.s) := by
  unfold rkE toPE
  by_cases h1 : x.kind = 1
  · simp [h1]
  · by_cases h2 : x.kind = 2
    · simp [h2]
    · by_cases h3 : x.kind = 3
      · simp [h3]
      · simp [h1, h2, h3]
theorem rk_to (x : EV) : rkPE (toPE x) = rkE x := by
  rcases toPE_kind x with h | h | h | h
  · rw [h.2.2, h.2.1]; rfl
  · rw [h.2.2, h.2.1]; rfl
  · rw [h.2.2, h.2.1]; rfl
  · rw [h.2.2.2.2, h.2.2.2.1]; rfl
theorem flE_map (x : EV) : flE x = (kvE x).map fun f => (f.1, plainJ f.2) := by
  unfold flE kvE
  rw [List.zip_map_right]
  rfl
theorem kv_jok {x : EV} (h : JPE (toPE x)) (hk : toPE x = .key (flE x)) : ∀ f ∈ kvE x, JOk (plainJ f.2) := by
  rw [hk] at h
  intro f hf
  exact h (f.1, plainJ f.2) (by rw [flE_map]; exact List.mem_map.2 ⟨f, hf, rfl⟩)
theorem cmp_pl {a b : GV} (h1 : JOk (plainJ a)) (h2 : JOk (plainJ b)) : cmpJ (plainJ a) (plainJ b) = cmpP (cleanV a) (cleanV b) := by
  rw [← cmp_law _ _ h1 h2, un_plain, un_plain]
theorem eq_pl {a b : GV} (h1 : JOk (plainJ a)) (h2 : JOk (plainJ b)) : eqJ (plainJ a) (plainJ b) = eqP (cleanV a) (cleanV b) := by
  rw [← eq_law _ _ h1 h2, un_plain, un_plain]
theorem cmpE_law {x y : EV} (hx : JPE (toPE x)) (hy : JPE (toPE y)) : cmpPE (toPE x) (toPE y) = cmpE x y := by
  unfold cmpPE cmpE
  rw [rk_to, rk_to]
  by_cases hr : rkE x = rkE y
  · rw [lx_zero (cmpI_zero.2 hr), lx_zero (cmpI_zero.2 hr)]
    unfold bodyE
    rcases toPE_kind x with h | h | h | h <;> rcases toPE_kind y with h' | h' | h' | h' <;> first
      | (exfalso; omega)
      | skip
    · rw [h.2.2, h'.2.2, if_pos h.2.1]
      show cmpLx cmpFd _ _ = _
      rw [flE_map, flE_map]
      exact cmpLx_map _ fun f hf g hg => by
        show lx _ (cmpJ (plainJ f.2) (plainJ g.2)) = lx _ _
        rw [cmp_pl (kv_jok hx h.2.2 f hf) (kv_jok hy h'.2.2 g hg)]
    · rw [h.2.2, h'.2.2, if_neg (by omega), if_pos h.2.1]
      rw [h.2.2] at hx
      rw [h'.2.2] at hy
      exact cmp_pl hx hy
    · rw [h.2.2, h'.2.2, if_neg (by omega), if_neg (by omega), if_pos h.2.1]
      rfl
    · rw [h.2.2.2.2, h'.2.2.2.2, if_neg (by omega), if_neg (by omega), if_neg (by omega)]
      rfl
  · rw [lx_pos (fun h => hr (cmpI_zero.1 h)), lx_pos (fun h => hr (cmpI_zero.1 h))]
theorem eqPE_rk {p q : PEV} (h : rkPE p ≠ rkPE q) : eqPE p q = false := by
  cases p <;> cases q <;> first | rfl | exact absurd rfl h
theorem eqE_law {x y : EV} (hx : JPE (toPE x)) (hy : JPE (toPE y)) : eqPE (toPE x) (toPE y) = eqE x y := by
  unfold eqE
  by_cases hr : rkE x = rkE y
  · rw [if_neg (by simpa using hr)]
    rcases toPE_kind x with h | h | h | h <;> rcases toPE_kind y with h' | h' | h' | h' <;> first
      | (exfalso; omega)
      | skip
    · rw [h.2.2, h'.2.2, if_pos h.2.1]
      show eqLx eqFd _ _ = _
      rw [flE_map, flE_map]
      exact eqLx_map _ fun f hf g hg => by
        show (decide _ && eqJ (plainJ f.2) (plainJ g.2)) = (decide _ && _)
        rw [eq_pl (kv_jok hx h.2.2 f hf) (kv_jok hy h'.2.2 g hg)]
    · rw [h.2.2, h'.2.2, if_neg (by omega), if_pos h.2.1]
      rw [h.2.2] at hx
      rw [h'.2.2] at hy
      exact eq_pl hx hy
    · rw [h.2.2, h'.2.2, if_neg (by omega), if_neg (by omega), if_pos h.2.1]
      rfl
    · rw [h.2.2.2.2, h'.2.2.2.2, if_neg (by omega), if_neg (by omega), if_neg (by omega)]
      rfl
  · rw [if_pos hr]
    exact eqPE_rk (by rw [rk_to, rk_to]; exact hr)
/-- spec.OrderlyElem, without the order of names. -/
theorem OPE_of {x : EV} (h : JPE (toPE x)) (h1 : ordV (cleanE x).v = true) (h2 : ordL (cleanE x).l = true) : OPE (toPE x) := by
  rcases toPE_kind x with k | k | k | k
  · rw [k.2.2] at h ⊢
    intro f hf
    rw [flE_map] at hf
    obtain ⟨g, hg, rfl⟩ := List.mem_map.1 hf
    have hj : JOk (plainJ g.2) := kv_jok (by rw [k.2.2]; exact h) k.2.2 g hg
    refine ⟨hj, OG_un _ hj ?_⟩
    rw [un_plain]
    rw [show (cleanE x).l = cleanL (x.l.take (min x.keys.length x.l.length)) by unfold cleanE; rw [if_pos k.1]] at h2
    refine ordL_iff.1 h2 _ ?_
    unfold kvE at hg
    obtain ⟨i, hi⟩ := List.getElem?_of_mem hg
    rw [List.getElem?_zip_eq_some] at hi
    have b1 := (List.getElem?_eq_some_iff.1 hi.1).1
    have b2 := (List.getElem?_eq_some_iff.1 hi.2).1
    refine List.mem_of_getElem? (i := i) ?_
    rw [cleanL_at, List.getElem?_take_of_lt (by omega), hi.2]
    rfl
  · rw [k.2.2] at h ⊢
    refine ⟨h, OG_un _ h ?_⟩
    rw [un_plain]
    rwa [show (cleanE x).v = cleanV x.v by unfold cleanE; rw [if_neg (by omega), if_pos k.1]] at h1
  · rw [k.2.2]; trivial
  · rw [k.2.2.2.2]; trivial
end Go.Proofs.YtgmahieoiifpfaaGreat
end
