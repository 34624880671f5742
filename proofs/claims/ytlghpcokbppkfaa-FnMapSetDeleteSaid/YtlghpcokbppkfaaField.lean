/- spec.fieldIndex: the place of a key among sorted keys. -/
import Derived.Test.YtlghpcokbppkfaaOps
import Derived.Test.YtlghpcokbppkfaaPure
import Derived.Deep.QuietTactic
import Derived.BigQuiet
namespace Go.Proofs.Ytlghpcokbppkfaa
open Go.RowKit

set_option maxHeartbeats 1000000 in
set_option maxRecDepth 100000 in
theorem fieldIndex_any (m : GV) (key : ByteArray) (w : World) (v : Value) (hv : IsV w (Btw 0 w.heap.size) m v) (hinc : Incr m.keys) :
    Calls Try.prog 141 #[v, .string key] w fun e w' => e = .returned (.tuple #[.int .i64 (lb m.keys key), .bool (hasAt m.keys key)]) ∧ Below w.heap.size w w' := by
  obtain ⟨kd, n, f, s, ks, l⟩ := m
  unfold IsV at hv
  obtain ⟨vk, a, c, rfl, _, _, _, _, ⟨ak, ck, rfl, _, hkl, hkz, hkc⟩, _, h6, h7⟩ := hv
  simp only [GV.keys] at hinc ⊢
  go_enter Try.func141, Try.ntmps141
  go_wp2_with fail
  go_quiet (fail)
  go_wp2_with fail
  have hc4 : ((w.alloc (.cells #[.int .i64 kd, .int .i64 n, .float .f64 f, .string s, .slice ak ks.length ck, .slice a l.length c] 26)).drewN nq).cell? ⟨w.heap.size, 4, none⟩ = some (.slice ak ks.length ck) := by go_simp
  have hB : Below w.heap.size w ((w.alloc (.cells #[.int .i64 kd, .int .i64 n, .float .f64 f, .string s, .slice ak ks.length ck, .slice a l.length c] 26)).drewN nq) :=
    ((Below.refl _ _).alloc (Nat.le_refl _) _).trans ⟨rfl, rfl, rfl, Nat.le_refl _, fun _ _ => rfl⟩
  generalize (w.alloc (.cells #[.int .i64 kd, .int .i64 n, .float .f64 f, .string s, .slice ak ks.length ck, .slice a l.length c] 26)).drewN nq = W at *
  go_loop [6, 7] (fun lo hi => ∃ i j : Nat, i ≤ j ∧ j ≤ ks.length ∧ lo = .int .i64 i ∧ hi = .int .i64 j ∧ (∀ q x, q < i → ks[q]? = some x → blt x key = true) ∧ (∀ q x, j ≤ q → ks[q]? = some x → blt x key = false))
    (fun lo hi => (intOf hi - intOf lo).toNat)
  case atStart => exact ⟨0, ks.length, Nat.zero_le _, Nat.le_refl _, rfl, rfl, fun q x h => by omega, fun q x h h' => by rw [List.getElem?_eq_none h] at h'; cases h'⟩
  case round =>
    obtain ⟨i, j, hij, hj, rfl, rfl, hlo, hhi⟩ := hrel
    by_cases hlt : i < j
    · obtain ⟨b0, o0, hb0, rfl, hkeys⟩ := hkc (by omega)
      obtain ⟨x, hx⟩ : ∃ x, ks[i + (j - i) / 2]? = some x := ⟨ks[i + (j - i) / 2]'(by omega), by simp⟩
      have hcx : W.cell? ⟨b0, o0 + (i + (j - i) / 2), none⟩ = some (.string x) := by
        rw [hB.cell (by exact hb0.2), hkeys _ (by omega)]; simp [List.getD, hx]
      have HX := Lib.hid hx
      clear hkeys hx
      have HL := Lib.hid hlo; have HH := Lib.hid hhi
      clear hlo hhi hkz hkc h7
      go_wp2_with fail
      · have ht : blt x key = true := by assumption
        go_round
        case rel =>
          refine ⟨i + (j - i) / 2 + 1, j, by omega, hj, by go_num, rfl, fun q y hq hy => ?_, HH.out⟩
          rcases incr_le hinc (show q ≤ i + (j - i) / 2 by omega) hy HX.out with rfl | h
          · exact ht
          · exact blt_trans h ht
        case measure => simp [intOf]; omega
      · have ht : blt x key = false := by assumption
        go_round
        case rel =>
          refine ⟨i, i + (j - i) / 2, by omega, by omega, rfl, by go_num, HL.out, fun q y hq hy => ?_⟩
          rcases incr_le hinc hq HX.out hy with rfl | h
          · exact ht
          · cases hyk : blt y key with
            | false => rfl
            | true => have := blt_trans h hyk; rw [ht] at this; cases this
        case measure => simp [intOf]; omega
    · have hij' : i = j := by omega
      subst hij'
      have hlb : lb ks key = i := lb_eq hj (fun q x hq hx => hlo q x hq hx) (fun x hx => hhi i x (Nat.le_refl _) hx)
      have HLB := Lib.hid hlb
      by_cases hin : i < ks.length
      · obtain ⟨b0, o0, hb0, rfl, hkeys⟩ := hkc (by omega)
        obtain ⟨x, hx⟩ : ∃ x, ks[i]? = some x := ⟨ks[i], by simp [hin]⟩
        have hcx : W.cell? ⟨b0, o0 + i, none⟩ = some (.string x) := by
          rw [hB.cell (by exact hb0.2), hkeys _ (by omega)]; simp [List.getD, hx]
        have hfin : (x.toList == key.toList) = hasAt ks key := by unfold hasAt; rw [beq_list, hlb, hx]; simp
        have HF := Lib.hid hfin
        have hi0 : (0 : Int) ≤ (i : Int) := by omega
        have hi1 : (i : Int) < (ks.length : Int) := by omega
        have hd : decide ((i : Int) < (ks.length : Int)) = true := by simp; omega
        clear hkeys hx hlb hlo hhi hkz hkc h7 hfin hinc
        go_wp2_with fail
        go_quiet (fail)
        go_wp2_with fail
        go_ret2
        exact ⟨by rw [HLB.out, ← HF.out]; rfl, hB.trans ⟨rfl, rfl, rfl, Nat.le_refl _, fun _ _ => rfl⟩⟩
      · have hfin : hasAt ks key = false := by unfold hasAt; rw [hlb, List.getElem?_eq_none (by omega)]; simp
        have HF := Lib.hid hfin
        have hd : decide ((i : Int) < (ks.length : Int)) = false := by simp; omega
        clear hlb hlo hhi hkz hkc h7 hfin hinc
        go_wp2_with fail
        go_quiet (fail)
        go_wp2_with fail
        go_ret2
        exact ⟨by rw [HLB.out, HF.out]; rfl, hB.trans ⟨rfl, rfl, rfl, Nat.le_refl _, fun _ _ => rfl⟩⟩

end Go.Proofs.Ytlghpcokbppkfaa
