/- laws.zzFits13: whether the lengths of a path element fit; it answers, whatever it says. -/
import Derived.Test.YtlghpcokbppkfaaFits
import Derived.Test.YtlghpcokbppkfaaElem
namespace Go.Proofs.Ytlghpcokbppkfaa
open Go.RowKit

set_option maxHeartbeats 1000000 in
set_option maxRecDepth 100000 in
theorem fits13_any (x : EV) (w : World) (v : Value) (hv : IsE w (Btw 0 w.heap.size) x v) :
    Calls Try.prog 18 #[v] w fun e w' => ∃ r, e = .returned r ∧ AnyBool r ∧ Below w.heap.size w w' := by
  obtain ⟨kind, s, ks, l, y, n⟩ := x
  obtain ⟨ak, ck, a, c, c0, c1, c2, c3, c4, c5, rfl, _, _, _, hks, _, _, _, hy⟩ := hv
  obtain ⟨a0, d0, a1, d1, e⟩ := hy.form
  injection e with e
  injection e with e
  simp only [List.cons.injEq, and_true] at e
  obtain ⟨rfl, rfl, rfl, rfl, rfl, rfl⟩ := e
  clear hy
  simp only at hks ⊢
  have hks' := hks.alloc_ (.cells #[.int .i64 kind, .string s, .slice ak ks.length ck, .slice a l.length c, .int .i64 y.kind, .int .i64 y.n, .float .f64 y.f, .string y.s, .slice a0 y.keys.length d0, .slice a1 y.l.length d1, .int .i64 n] 33)
  have hB : Below w.heap.size w (w.alloc (.cells #[.int .i64 kind, .string s, .slice ak ks.length ck, .slice a l.length c, .int .i64 y.kind, .int .i64 y.n, .float .f64 y.f, .string y.s, .slice a0 y.keys.length d0, .slice a1 y.l.length d1, .int .i64 n] 33)) := (Below.refl _ _).alloc (Nat.le_refl _) _
  clear hks
  by_cases hbig : (2147483647 : Int) < (s.size : Int)
  · have hb' : ¬ ((s.size : Int) ≤ 2147483647) := by omega
    go_enter Try.func18, Try.ntmps18
    go_wp2_with fail
    go_ret
    exact ⟨_, rfl, ⟨_, rfl⟩, hB⟩
  have hb' : (s.size : Int) ≤ 2147483647 := by omega
  by_cases hbl : (2147483647 : Int) < (l.length : Int)
  · have hbl' : ¬ ((l.length : Int) ≤ 2147483647) := by omega
    go_enter Try.func18, Try.ntmps18
    go_wp2_with (go_at_call 64; (with_reducible refine (fits2_any ks _ _ ?_).mono ?_))
    · simpa using hks'
    rintro e w2 _ rfl ⟨b, rfl⟩ rfl
    cases b
    · go_wp2_with fail
      go_ret
      exact ⟨_, rfl, ⟨_, rfl⟩, hB⟩
    · go_wp2_with fail
      go_ret
      exact ⟨_, rfl, ⟨_, rfl⟩, hB⟩
  have hbl' : (l.length : Int) ≤ 2147483647 := by omega
  go_enter Try.func18, Try.ntmps18
  go_wp2_with (go_at_call 64; (with_reducible refine (fits2_any ks _ _ ?_).mono ?_))
  · simpa using hks'
  rintro e w2 _ rfl ⟨b, rfl⟩ rfl
  cases b
  · go_wp2_with fail
    go_ret
    exact ⟨_, rfl, ⟨_, rfl⟩, hB⟩
  · go_wp2_with fail
    go_ret
    exact ⟨_, rfl, ⟨_, rfl⟩, hB⟩
end Go.Proofs.Ytlghpcokbppkfaa
