/- spec.Clean, plainList, plainMap: the plain form of a value. -/
import Derived.Test.YtlghpcokbppkfaaWith
import Derived.Test.YtlghpcokbppkfaaPureWith
namespace Go.Proofs.Ytlghpcokbppkfaa
open Go.RowKit
set_option linter.unusedSimpArgs false

/-- A value with nothing but what its kind uses. -/
def gv (k n : Int) (f : Nat) (s : ByteArray) : GV := .mk k n f s [] []
def gNull : GV := .mk 0 0 0 ByteArray.empty [] []

mutual
/-- The plain form. -/
def cleanV : GV → GV
  | .mk k n f s ks l => if k = 1 then .mk 1 (if n = 0 then 0 else 1) 0 ByteArray.empty [] [] else if k = 2 then .mk 2 n 0 ByteArray.empty [] [] else if k = 3 then .mk 3 0 f ByteArray.empty [] []
    else if k = 4 then .mk 4 0 0 s [] [] else if k = 5 then .mk 5 0 0 ByteArray.empty [] (cleanL l) else if k = 6 then cleanM ks l (.mk 6 0 0 ByteArray.empty [] []) else gNull
def cleanL : List GV → List GV
  | [] => []
  | x :: r => cleanV x :: cleanL r
def cleanM : List ByteArray → List GV → GV → GV
  | k :: ks, x :: r, acc => cleanM ks r (withF acc k (cleanV x))
  | _, _, acc => acc
end

theorem cleanL_length : ∀ l, (cleanL l).length = l.length
  | [] => by simp [cleanL]
  | x :: r => by simp [cleanL, cleanL_length r]
theorem cleanL_at : ∀ (l : List GV) (i : Nat), (cleanL l)[i]? = (l[i]?).map cleanV
  | [], i => by simp [cleanL]
  | x :: r, 0 => by simp [cleanL]
  | x :: r, i + 1 => by simp [cleanL, cleanL_at r i]

def CleanC (x : GV) : Prop := ∀ (w : World) (v : Value), IsV w (Btw 0 w.heap.size) x v →
    Calls Try.prog 17 #[v] w fun e w' => ∃ r, e = .returned r ∧ Below w.heap.size w w' ∧ IsV w' (Btw w.heap.size w'.heap.size) (cleanV x) r
theorem CleanC.use {x : GV} (h : CleanC x) (w : World) (v : Value) (hv : IsV w (Btw 0 w.heap.size) x v) :
    Calls Try.prog 17 #[v] w fun e w' => ∃ r, e = .returned r ∧ Below w.heap.size w w' ∧ IsV w' (Btw w.heap.size w'.heap.size) (cleanV x) r := h w v hv

set_option maxHeartbeats 2000000 in
set_option maxRecDepth 100000 in
theorem plainList_any (l : List GV) (ih : ∀ y ∈ l, CleanC y) (w : World) (a : Option Addr) (c : Nat) (h6 : l.length * 88 ≤ 140737488351232) (h7 : l = [] ∨ ∃ b o, Btw 0 w.heap.size b ∧ a = some ⟨b, o, none⟩ ∧ IsVs w (Btw 0 w.heap.size) l b o) :
    Calls Try.prog 66 #[.slice a l.length c] w fun e w' => ∃ A C, e = .returned (.slice A l.length C) ∧ l.length ≤ C ∧ Below w.heap.size w w' ∧
      (l = [] ∨ ∃ b o, Btw w.heap.size w'.heap.size b ∧ A = some ⟨b, o, none⟩ ∧ IsVs w' (Btw w.heap.size w'.heap.size) (cleanL l) b o) := by
  obtain ⟨i6, hi6, hz60, hz61, hz62⟩ := info_parts Try.infoVal
  go_enter Try.func66, Try.ntmps66
  go_wp2_with (first
      | (at_make; refine wpList_make_own _ rfl _ _ 24 rfl 0 26 i6 _ 6 Try.underlying24 hi6 hz60 hz61 _ _ _ l.length rfl rfl rfl (by rw [hz62]; omega) (by unfold maxLen; omega) (Nat.zero_le _) ?_))
  intro w1 hown1 hg1
  have hB1 : Below w.heap.size w w1 := (Below.refl _ _).grown hg1 (Nat.le_refl _) (fun k hk => by cases hk)
  have hsz1 : w.heap.size + 1 ≤ w1.heap.size := by have := (hown1.lt w.heap.size rfl).2; omega
  clear hg1
  generalize hM : w.heap.size = M at *
  have HM := Lib.hid hM; clear hM
  go_wp2_with fail
  go_loopw [3, 11] (fun out i wr => ∃ k vs, k ≤ l.length ∧ i = .int .i64 (k : Nat) ∧ out = .slice (some ⟨M, 0, none⟩) k l.length ∧
      wr.ownsRow 0 26 6 (.slice (some ⟨M, 0, none⟩) k l.length) k vs ∧ VCells wr (Btw (M + 1) wr.heap.size) ((cleanL l).take k) vs ∧ Below M w wr ∧ M + 1 ≤ wr.heap.size)
    (fun _ i _ => l.length - (intOf i).toNat)
  case atStart => exact ⟨0, [], Nat.zero_le _, rfl, rfl, hown1, by simp [VCells], hB1, hsz1⟩
  case round =>
    clear hown1 hB1 hsz1
    obtain ⟨k, vs, hk, rfl, rfl, hown, hall, hB, hsz⟩ := hrel
    by_cases hlt : k < l.length
    · obtain ⟨b, o, hb, rfl, hcells⟩ : ∃ b o, Btw 0 M b ∧ a = some ⟨b, o, none⟩ ∧ IsVs w (Btw 0 M) l b o := by
        rcases h7 with rfl | h7
        · simp at hlt
        · exact h7
      obtain ⟨x, hx⟩ : ∃ x, l[k]? = some x := ⟨l[k], by simp [hlt]⟩
      obtain ⟨a0, d0, a1, d1, g0, g1, g2, g3, g4, g5, hxv⟩ := (IsVs.keep (S' := Btw 0 wr.heap.size) (Btw.kept hB) (Btw.mono (Nat.le_refl _) (by omega)) l b o hb hcells).cells hx
      have hc := ih x (List.mem_of_getElem? hx)
      have HX := Lib.hid hx; clear hx h7 hcells
      have hxv' := hxv.alloc_ (.cells #[.int .i64 x.kind, .int .i64 x.n, .float .f64 x.f, .string x.s, .slice a0 x.keys.length d0, .slice a1 x.l.length d1] 26)
      go_wp2_with (go_at_call 17; (with_reducible refine (hc.use _ _ ?_).mono ?_))
      · simpa using hxv'
      rintro e w2 ⟨r, rfl, hB2, hr⟩
      have hsz2 := hB2.size
      have hB3 : Below wr.heap.size wr w2 := ((Below.refl _ _).alloc (Nat.le_refl _) _).trans (hB2.mono (by simp))
      have hown2 := own_below hown hB3
      have hall2 : VCells w2 (Btw (M + 1) w2.heap.size) ((cleanL l).take k) vs := hall.keep (Btw.kept hB3) (Btw.mono (Nat.le_refl _) hB3.size)
      have hr2 : IsV w2 (Btw (M + 1) w2.heap.size) (cleanV x) r := hr.lo_ (by simp; omega)
      have hBM : Below M w w2 := hB.trans (hB3.mono (by omega))
      simp at hsz2
      clear hB2 hr hown hall hB g0 g1 g2 g3 g4 g5 hxv hxv' hc
      obtain ⟨ra0, rd0, ra1, rd1, rfl⟩ := hr2.form
      go_wp2_with (first
        | (at_builtin; refine wpList_append_fits _ rfl _ _ 24 rfl 0 26 i6 6 Try.underlying24 hi6 hz61 M k l.length vs rfl (hown2.alloc _) ⟨w2.heap.size, 0, none⟩ 1 1 [.int .i64 (cleanV x).kind, .int .i64 (cleanV x).n, .float .f64 (cleanV x).f, .string (cleanV x).s, .slice ra0 (cleanV x).keys.length rd0, .slice ra1 (cleanV x).l.length rd1] rfl rfl ?c1 ?c2 (by omega) ?_))
      case c1 => exact World.news_of_block (cs := #[.int .i64 (cleanV x).kind, .int .i64 (cleanV x).n, .float .f64 (cleanV x).f, .string (cleanV x).s, .slice ra0 (cleanV x).keys.length rd0, .slice ra1 (cleanV x).l.length rd1]) (t := 26) (fr := (0, 0)) (heap_alloc_new w2 _)
      case c2 => intro u hu; simp at hu; rcases hu with rfl | rfl | rfl | rfl | rfl | rfl <;> rfl
      intro w3 hown3 hg3
      have hs3 : w2.heap.size + 1 ≤ w3.heap.size := by have := hg3.size; simp at this; exact this
      have hk3 : ∀ b, Btw (M + 1) w2.heap.size b → w3.heap[b]? = w2.heap[b]? := fun b hb => by
        have h1 := hb.1; have h2 := hb.2
        exact (hg3.block b (by simp; omega) (by simp; omega)).trans (Below.heap_alloc _ _ _ h2)
      have hall3 : VCells w3 (Btw (M + 1) w3.heap.size) ((cleanL l).take (k + 1)) (vs ++ [.int .i64 (cleanV x).kind, .int .i64 (cleanV x).n, .float .f64 (cleanV x).f, .string (cleanV x).s, .slice ra0 (cleanV x).keys.length rd0, .slice ra1 (cleanV x).l.length rd1]) := by
        rw [List.take_add_one, cleanL_at, HX.out]
        exact (hall2.keep hk3 (Btw.mono (Nat.le_refl _) (by omega))).app (VCells.one (IsV.keep hk3 (Btw.mono (Nat.le_refl _) (by omega)) _ hr2))
      have hB4 : Below M w w3 := (hBM.alloc (by omega) _).grown hg3 (by simp; omega) (fun q hq => by cases hq; omega)
      clear hg3 hk3 hall2 hBM hown2 hr2 hB3
      go_wp2_with fail
      go_roundw
      case rel => exact ⟨k + 1, _, hlt, by go_num, rfl, hown3, hall3, hB4, by omega⟩
      case measure => simp [intOf]; omega
    · have hkl : k = l.length := by omega
      subst hkl
      go_wp2_with fail
      go_ret
      rw [HM.out]
      rw [List.take_of_length_le (by rw [cleanL_length]; omega)] at hall
      refine ⟨_, _, rfl, Nat.le_refl _, hB, .inr ⟨M, 0, ⟨by omega, by omega⟩, rfl, ?_⟩⟩
      refine VCells.row (hall.keep (fun _ _ => rfl) (Btw.mono (by omega) (Nat.le_refl _))) (fun j u hu => ?_)
      have := hown.cells (g := M) rfl j u hu
      rwa [Addr.add_lit] at this

end Go.Proofs.Ytlghpcokbppkfaa
