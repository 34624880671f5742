/- Part 1 of what the proof rests on. -/
import Derived.WalkKit
section
namespace Go.Proofs.YtgmahieoiifpfaaGreat
def blt (a b : ByteArray) : Bool := Op.bytesLess a.toList b.toList
theorem Ztn : ∀ x : List UInt8, Op.bytesLess x x = false
 | [] => rfl
 | a :: x => by
  have h : ¬ a < a := by exact UInt8.lt_irrefl a
  simp [Op.bytesLess, Ztn x, h]
theorem Zx9 : ∀ x y z : List UInt8, Op.bytesLess x y = true → Op.bytesLess y z = true → Op.bytesLess x z = true
 | _, [], _, h, _ => by cases ‹List UInt8› <;> simp [Op.bytesLess] at h
 | _, _ :: _, [], _, h => by simp [Op.bytesLess] at h
 | [], _ :: _, _ :: _, _, _ => rfl
 | a :: x, b :: y, c :: z, h1, h2 => by
  simp only [Op.bytesLess, Bool.or_eq_true, decide_eq_true_eq, Bool.and_eq_true, beq_iff_eq] at h1 h2 ⊢
  rcases h1 with h1 | ⟨rfl, h1⟩
  ·rcases h2 with h2 | ⟨rfl, h2⟩
   ·exact .inl (UInt8.lt_trans h1 h2)
   ·exact .inl h1
  ·rcases h2 with h2 | ⟨rfl, h2⟩
   ·exact .inl h2
   ·exact .inr ⟨rfl, Zx9 x y z h1 h2⟩
theorem Zx8 : ∀ x y : List UInt8, Op.bytesLess x y = false → Op.bytesLess y x = false → x = y
 | [], [], _, _ => rfl
 | [], _ :: _, h, _ => by simp [Op.bytesLess] at h
 | _ :: _, [], _, h => by simp [Op.bytesLess] at h
 | a :: x, b :: y, h1, h2 => by
  simp only [Op.bytesLess, Bool.or_eq_false_iff, decide_eq_false_iff_not, Bool.and_eq_false_iff, beq_eq_false_iff_ne] at h1 h2
  have hab : a = b := by
   have h3 := h1.1; have h4 := h2.1
   rw [UInt8.lt_iff_toNat_lt] at h3 h4
   exact UInt8.toNat_inj.1 (by omega)
  subst hab
  rw [Zx8 x y (h1.2.resolve_left (by simp)) (h2.2.resolve_left (by simp))]
theorem Zrc {a b : ByteArray} (h : a.toList = b.toList) : a = b := by
 rw [ByteArray.toList_eq, ByteArray.toList_eq] at h
 cases a; cases b; simp at h; rw [h]
theorem Zbb (a : ByteArray) : blt a a = false := Ztn _
theorem Zb9 {a b c : ByteArray} (h : blt a b = true) (h' : blt b c = true) : blt a c = true := Zx9 _ _ _ h h'
theorem Zgf {a b : ByteArray} (h : blt a b = false) (h' : blt b a = false) : a = b := Zrc (Zx8 _ _ h h')
theorem Zfr {a b : ByteArray} (h : blt a b = true) : blt b a = false := by
 cases hb : blt b a with
 | false => rfl
 | true => have := Zb9 h hb; rw [Zbb] at this; cases this
theorem Yh3 (a b : ByteArray) : (a.toList == b.toList) = decide (a = b) := by
 by_cases h : a = b
 ·subst h; simp
 ·simp [h]; exact fun e => h (Zrc e)
def Zf2 (ks : List ByteArray) : Prop := ks.Pairwise fun a b => blt a b = true
def lb (ks : List ByteArray) (k : ByteArray) : Nat := (ks.takeWhile fun x => blt x k).length
def Zf6 (ks : List ByteArray) (k : ByteArray) : Bool := decide (ks[lb ks k]? = some k)
theorem Ye7 (ks : List ByteArray) (k : ByteArray) : lb ks k ≤ ks.length := (List.takeWhile_sublist _).length_le
theorem Yri : ∀ {ks : List ByteArray} {k : ByteArray} {i : Nat}, i ≤ ks.length → (∀ j x, j < i → ks[j]? = some x → blt x k = true) → (∀ x, ks[i]? = some x → blt x k = false) → lb ks k = i
 | [], _, i, h, _, _ => by simp at h; subst h; rfl
 | y :: ks, k, 0, _, _, h => by
  have := h y (by simp)
  simp [lb, this]
 | y :: ks, k, i + 1, hi, hl, hg => by
  have h0 := hl 0 y (by omega) (by simp)
  have := Yri (ks := ks) (k := k) (i := i) (by simpa using hi) (fun j x hj hx => hl (j + 1) x (by omega) (by simpa using hx)) (fun x hx => hg x (by simpa using hx))
  unfold lb at this ⊢
  simp [h0, this]
theorem Zog {ks : List ByteArray} (h : Zf2 ks) {i j : Nat} {x y : ByteArray} (hij : i ≤ j) (hx : ks[i]? = some x) (hy : ks[j]? = some y) : x = y ∨ blt x y = true := by
 rcases Nat.lt_or_eq_of_le hij with hlt | rfl
 ·right
  obtain ⟨hi, rfl⟩ := List.getElem?_eq_some_iff.1 hx
  obtain ⟨hj, rfl⟩ := List.getElem?_eq_some_iff.1 hy
  exact List.pairwise_iff_getElem.1 h i j hi hj hlt
 ·rw [hx] at hy; injection hy with e; exact .inl e
end Go.Proofs.YtgmahieoiifpfaaGreat
end
