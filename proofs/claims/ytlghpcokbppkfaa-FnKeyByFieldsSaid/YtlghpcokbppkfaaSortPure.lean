/- Sorting by insertion from the right: plain lists. -/
import Derived.Test.YtlghpcokbppkfaaSortKeys
namespace Go.Proofs.Ytlghpcokbppkfaa

section
variable {α β : Type}
/-- x put into a list that is read from its end. -/
def insR (x : ByteArray × α) : List (ByteArray × α) → List (ByteArray × α)
  | [] => [x]
  | y :: r => if blt x.1 y.1 = true then y :: insR x r else x :: y :: r
/-- x put into a sorted list, behind all that do not come after it. -/
def insS (l : List (ByteArray × α)) (x : ByteArray × α) : List (ByteArray × α) := (insR x l.reverse).reverse
/-- The list sorted by its names; those of one name stay in their order. -/
def sortS (l : List (ByteArray × α)) : List (ByteArray × α) := l.foldl insS []

theorem insR_skip (x : ByteArray × α) : ∀ (d t : List (ByteArray × α)), (∀ y ∈ d, blt x.1 y.1 = true) → insR x (d ++ t) = d ++ insR x t
  | [], t, _ => rfl
  | y :: d, t, h => by
    simp only [List.cons_append, insR]
    rw [if_pos (h y (by simp)), insR_skip x d t fun z hz => h z (by simp [hz])]
theorem insR_stop (x : ByteArray × α) (t : List (ByteArray × α)) (h : ∀ y, t[0]? = some y → blt x.1 y.1 = false) : insR x t = x :: t := by
  cases t with
  | nil => rfl
  | cons y r =>
    simp only [insR]
    rw [if_neg (by rw [h y rfl]; simp)]
theorem insS_eq {P : List (ByteArray × α)} {x : ByteArray × α} {j : Nat} (hj : j ≤ P.length) (hd : ∀ y ∈ P.drop j, blt x.1 y.1 = true) (ht : ∀ q y, j = q + 1 → P[q]? = some y → blt x.1 y.1 = false) : insS P x = insAt P j x := by
  unfold insS insAt
  have e : P.reverse = (P.drop j).reverse ++ (P.take j).reverse := by rw [← List.reverse_append, List.take_append_drop]
  rw [e, insR_skip x _ _ (fun y hy => hd y (by simpa using hy)), insR_stop x]
  · simp
  · intro y hy
    cases j with
    | zero => simp at hy
    | succ q =>
      refine ht q y rfl ?_
      have h1 : (P.take (q + 1)).length = q + 1 := by simp; omega
      rw [List.getElem?_reverse (by omega), h1] at hy
      simpa [List.getElem?_take] using hy
theorem insR_length (x : ByteArray × α) : ∀ l : List (ByteArray × α), (insR x l).length = l.length + 1
  | [] => rfl
  | y :: r => by
    simp only [insR]
    split
    · simp [insR_length x r]
    · simp
theorem insS_length (l : List (ByteArray × α)) (x : ByteArray × α) : (insS l x).length = l.length + 1 := by simp [insS, insR_length]
theorem insR_mem (x y : ByteArray × α) : ∀ l : List (ByteArray × α), y ∈ insR x l ↔ y = x ∨ y ∈ l
  | [] => by simp [insR]
  | z :: r => by
    simp only [insR]
    split
    · simp only [List.mem_cons, insR_mem x y r]
      constructor
      · rintro (h | h | h) <;> simp [h]
      · rintro (h | h | h) <;> simp [h]
    · simp
theorem insS_mem (l : List (ByteArray × α)) (x y : ByteArray × α) : y ∈ insS l x ↔ y = x ∨ y ∈ l := by simp [insS, insR_mem]
theorem sortS_snoc (l : List (ByteArray × α)) (x : ByteArray × α) : sortS (l ++ [x]) = insS (sortS l) x := by simp [sortS, List.foldl_append]
theorem foldS_length : ∀ (l a : List (ByteArray × α)), (l.foldl insS a).length = a.length + l.length
  | [], a => by simp
  | x :: l, a => by
    simp only [List.foldl_cons]
    rw [foldS_length l, insS_length]; simp; omega
theorem sortS_length (l : List (ByteArray × α)) : (sortS l).length = l.length := by simp [sortS, foldS_length]
theorem foldS_mem : ∀ (l a : List (ByteArray × α)) (y : ByteArray × α), y ∈ l.foldl insS a ↔ y ∈ l ∨ y ∈ a
  | [], a, y => by simp
  | x :: l, a, y => by
    simp only [List.foldl_cons]
    rw [foldS_mem l, insS_mem]
    simp only [List.mem_cons]
    constructor
    · rintro (h | h | h) <;> simp [h]
    · rintro ((h | h) | h) <;> simp [h]
theorem sortS_mem (l : List (ByteArray × α)) (y : ByteArray × α) : y ∈ sortS l ↔ y ∈ l := by simp [sortS, foldS_mem]

theorem insR_map (f : ByteArray × α → ByteArray × β) (hf : ∀ p, (f p).1 = p.1) (x : ByteArray × α) : ∀ l, insR (f x) (l.map f) = (insR x l).map f
  | [] => rfl
  | y :: r => by
    simp only [List.map_cons, insR, hf]
    split
    · simp only [List.map_cons]; rw [insR_map f hf x r]
    · simp
theorem insS_map (f : ByteArray × α → ByteArray × β) (hf : ∀ p, (f p).1 = p.1) (x : ByteArray × α) (l : List (ByteArray × α)) : insS (l.map f) (f x) = (insS l x).map f := by
  unfold insS
  rw [← List.map_reverse, insR_map f hf, List.map_reverse]
theorem foldS_map (f : ByteArray × α → ByteArray × β) (hf : ∀ p, (f p).1 = p.1) : ∀ (l a : List (ByteArray × α)), (l.map f).foldl insS (a.map f) = (l.foldl insS a).map f
  | [], a => rfl
  | x :: l, a => by
    simp only [List.map_cons, List.foldl_cons]
    rw [insS_map f hf, foldS_map f hf l]
theorem sortS_map (f : ByteArray × α → ByteArray × β) (hf : ∀ p, (f p).1 = p.1) (l : List (ByteArray × α)) : sortS (l.map f) = (sortS l).map f := by
  have := foldS_map f hf l []
  simpa [sortS] using this
end
end Go.Proofs.Ytlghpcokbppkfaa
