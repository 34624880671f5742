/- laws.zzFits2, zzFits5: whether the lengths fit; they answer, whatever they say. -/
import Derived.Test.YtlghpcokbppkfaaKinds
namespace Go.Proofs.Ytlghpcokbppkfaa
open Go.RowKit

/-- A bool, whichever. -/
def AnyBool (r : Value) : Prop := ∃ b, r = .bool b

set_option maxHeartbeats 1000000 in
set_option maxRecDepth 100000 in
theorem fits2_any (ks : List ByteArray) (w : World) (v : Value) (hv : IsStrs w (Btw 0 w.heap.size) v ks) :
    Calls Try.prog 64 #[v] w fun e w' => ∃ r, e = .returned r ∧ AnyBool r ∧ w' = w := by
  obtain ⟨a, c, rfl, _, _, _, hc⟩ := hv
  by_cases hbig : (2147483647 : Int) < (ks.length : Int)
  · have hb' : ¬ ((ks.length : Int) ≤ 2147483647) := by omega
    go_enter Try.func64, Try.ntmps64
    go_wp2_with fail
    go_ret
    exact ⟨_, rfl, ⟨_, rfl⟩, rfl⟩
  have hb' : (ks.length : Int) ≤ 2147483647 := by omega
  go_enter Try.func64, Try.ntmps64
  go_wp2_with fail
  go_loopw [10] (fun i wr => ∃ k, k ≤ ks.length ∧ i = .int .i64 (k : Nat) ∧ wr = w) (fun i _ => ks.length - (intOf i).toNat)
  case atStart => exact ⟨0, Nat.zero_le _, rfl, rfl⟩
  case round =>
    obtain ⟨k, hk, rfl, rfl⟩ := hrel
    by_cases hlt : k < ks.length
    · obtain ⟨b1, o1, hb1, rfl, hkeys⟩ := hc (by omega)
      have hck := hkeys k hlt
      have i1 : (k : Int) < (ks.length : Int) := by omega
      clear hkeys hc
      generalize ks.getD k ByteArray.empty = key at *
      by_cases hbk : (2147483647 : Int) < (key.size : Int)
      · have hb2 : ¬ ((key.size : Int) ≤ 2147483647) := by omega
        go_wp2_with fail
        go_ret
        exact ⟨_, rfl, ⟨_, rfl⟩, rfl⟩
      have hb2 : (key.size : Int) ≤ 2147483647 := by omega
      go_wp2_with fail
      go_roundw
      case rel => exact ⟨k + 1, hlt, by go_num, trivial⟩
      case measure => simp [intOf]; omega
    · have hkl : k = ks.length := by omega
      subst hkl
      go_wp2_with fail
      go_ret
      exact ⟨_, rfl, ⟨_, rfl⟩, rfl⟩

set_option maxHeartbeats 1000000 in
set_option maxRecDepth 100000 in
theorem fits5_any (x : GV) (w : World) (v : Value) (hv : IsV w (Btw 0 w.heap.size) x v) :
    Calls Try.prog 15 #[v] w fun e w' => ∃ r, e = .returned r ∧ AnyBool r ∧ Below w.heap.size w w' := by
  obtain ⟨k, n, f, s, ks, l⟩ := x
  unfold IsV at hv
  obtain ⟨vk, a, c, rfl, _, _, _, _, hks, _, _, _⟩ := hv
  have hks' := hks.alloc_ (.cells #[.int .i64 k, .int .i64 n, .float .f64 f, .string s, vk, .slice a l.length c] 26)
  have hB : Below w.heap.size w (w.alloc (.cells #[.int .i64 k, .int .i64 n, .float .f64 f, .string s, vk, .slice a l.length c] 26)) := (Below.refl _ _).alloc (Nat.le_refl _) _
  obtain ⟨ak, ck, rfl, _⟩ := hks
  by_cases hbig : (2147483647 : Int) < (s.size : Int)
  · have hb' : ¬ ((s.size : Int) ≤ 2147483647) := by omega
    go_enter Try.func15, Try.ntmps15
    go_wp2_with fail
    go_ret
    exact ⟨_, rfl, ⟨_, rfl⟩, hB⟩
  have hb' : (s.size : Int) ≤ 2147483647 := by omega
  by_cases hbl : (2147483647 : Int) < (l.length : Int)
  · have hbl' : ¬ ((l.length : Int) ≤ 2147483647) := by omega
    go_enter Try.func15, Try.ntmps15
    go_wp2_with (go_at_call 64; (with_reducible refine (fits2_any ks _ _ ?_).mono ?_))
    · simpa using hks'
    rintro e w2 _ rfl ⟨b, rfl⟩ rfl
    cases b
    · go_wp2_with fail
      go_ret
      exact ⟨_, rfl, ⟨_, rfl⟩, hB⟩
    · go_wp2_with fail
      go_ret
      exact ⟨_, rfl, ⟨_, rfl⟩, hB⟩
  have hbl' : (l.length : Int) ≤ 2147483647 := by omega
  go_enter Try.func15, Try.ntmps15
  go_wp2_with (go_at_call 64; (with_reducible refine (fits2_any ks _ _ ?_).mono ?_))
  · simpa using hks'
  rintro e w2 _ rfl ⟨b, rfl⟩ rfl
  cases b
  · go_wp2_with fail
    go_ret
    exact ⟨_, rfl, ⟨_, rfl⟩, hB⟩
  · go_wp2_with fail
    go_ret
    exact ⟨_, rfl, ⟨_, rfl⟩, hB⟩
end Go.Proofs.Ytlghpcokbppkfaa
