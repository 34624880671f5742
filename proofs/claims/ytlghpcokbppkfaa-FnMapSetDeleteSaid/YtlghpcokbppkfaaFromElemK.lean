/- impl.fromElem of a key. -/
import Derived.Test.YtlghpcokbppkfaaFromElem
namespace Go.Proofs.Ytlghpcokbppkfaa
open Go.RowKit
set_option linter.unusedSimpArgs false

/-- What holds at the beginning of a round: the element that grows (block M + 2), its two rows, and that old memory is as it was. -/
def KeyInv (M : Nat) (w wr : World) (fl : List (ByteArray × JV)) (k : Nat) (A : Option Addr) (C : Nat) (B : Option Addr) (D : Nat) : Prop :=
  ∃ xs, wr.heap[M + 2]? = some (.cells #[.int .i64 1, .string ⟨#[]⟩, .slice A k C, .slice B k D, .int .i64 0, .int .i64 0, .float .f64 0, .string ⟨#[]⟩, .slice none 0 0, .slice none 0 0, .int .i64 0] 33) ∧
    wr.ownsRow (M + 3) 9 1 (.slice A k C) k ((fl.take k).map fun p => .string p.1) ∧ wr.ownsRow (M + 3) 26 6 (.slice B k D) k xs ∧
    VCells wr (fun b => Btw (M + 3) wr.heap.size b ∧ (Value.slice A k C).ownBlock ≠ some b ∧ (Value.slice B k D).ownBlock ≠ some b) ((fl.take k).map fun p => unJ p.2) xs ∧ Below M w wr ∧ M + 3 ≤ wr.heap.size ∧ wr.heap[M + 1]? = some (.cells #[.int .i64 0, .string ⟨#[]⟩, .slice none 0 0, .slice none 0 0, .int .i64 0, .int .i64 0, .float .f64 0, .string ⟨#[]⟩, .slice none 0 0, .slice none 0 0, .int .i64 0] 33)

theorem FCells.sizes {w : World} {S : Nat → Prop} : ∀ {l : List (ByteArray × JV)} {xs : List Value}, FCells w S l xs → ∀ p ∈ l, p.1.size ≤ maxLen
  | [], _, _, p, h => by simp at h
  | x :: r, _, hv, p, h => by
    obtain ⟨c, r', _, hz, _, hr⟩ := hv
    rcases List.mem_cons.1 h with rfl | h
    · exact hz
    · exact hr.sizes p h

set_option maxHeartbeats 2000000 in
set_option maxRecDepth 100000 in
theorem fromElem_key (fl : List (ByteArray × JV)) (w : World) (v : Value) (hv : IsPE w (Btw 0 w.heap.size) (.key fl) v) (hok : POk (.key fl)) :
    Calls Try.prog 71 #[v] w fun e w' => ∃ r, e = .returned r ∧ Below w.heap.size w w' ∧ IsE w' (Btw w.heap.size w'.heap.size) (unPE (.key fl)) r := by
  obtain ⟨pb, u, rfl, hpb, hh, A0, C0, rfl, hC0, hrow⟩ := hv
  obtain ⟨h88, hoks⟩ := hok
  have hkeys : ∀ p ∈ fl, p.1.size ≤ maxLen := by
    rcases hrow with rfl | ⟨_, _, xs, _, _, hf, _⟩
    · simp
    · exact hf.sizes
  obtain ⟨i0, hi0, hz0, hz1, hz2⟩ := info_parts Try.infoStr
  obtain ⟨i6, hi6, hz60, hz61, hz62⟩ := info_parts Try.infoVal
  have hc0 : w.cell? ⟨pb, 0, none⟩ = some (.slice A0 fl.length C0) := blk_c hh 0 rfl
  have hpl := hpb.2
  have hB0 : Below w.heap.size w (((w.alloc (.cells #[.pointer none, .pointer (some ⟨pb, 0, none⟩), .pointer none, .pointer none] 104)).alloc (.cells #[.int .i64 0, .string ⟨#[]⟩, .slice none 0 0, .slice none 0 0, .int .i64 0, .int .i64 0, .float .f64 0, .string ⟨#[]⟩, .slice none 0 0, .slice none 0 0, .int .i64 0] 33)).alloc (.cells #[.int .i64 1, .string ⟨#[]⟩, .slice none 0 0, .slice none 0 0, .int .i64 0, .int .i64 0, .float .f64 0, .string ⟨#[]⟩, .slice none 0 0, .slice none 0 0, .int .i64 0] 33)) := (((Below.refl w.heap.size w).alloc (Nat.le_refl _) (.cells #[.pointer none, .pointer (some ⟨pb, 0, none⟩), .pointer none, .pointer none] 104)).alloc (by simp) (.cells #[.int .i64 0, .string ⟨#[]⟩, .slice none 0 0, .slice none 0 0, .int .i64 0, .int .i64 0, .float .f64 0, .string ⟨#[]⟩, .slice none 0 0, .slice none 0 0, .int .i64 0] 33)).alloc (by simp; omega) (.cells #[.int .i64 1, .string ⟨#[]⟩, .slice none 0 0, .slice none 0 0, .int .i64 0, .int .i64 0, .float .f64 0, .string ⟨#[]⟩, .slice none 0 0, .slice none 0 0, .int .i64 0] 33)
  have b2 : (((w.alloc (.cells #[.pointer none, .pointer (some ⟨pb, 0, none⟩), .pointer none, .pointer none] 104)).alloc (.cells #[.int .i64 0, .string ⟨#[]⟩, .slice none 0 0, .slice none 0 0, .int .i64 0, .int .i64 0, .float .f64 0, .string ⟨#[]⟩, .slice none 0 0, .slice none 0 0, .int .i64 0] 33)).alloc (.cells #[.int .i64 1, .string ⟨#[]⟩, .slice none 0 0, .slice none 0 0, .int .i64 0, .int .i64 0, .float .f64 0, .string ⟨#[]⟩, .slice none 0 0, .slice none 0 0, .int .i64 0] 33)).heap[w.heap.size + 2]? = some (.cells #[.int .i64 1, .string ⟨#[]⟩, .slice none 0 0, .slice none 0 0, .int .i64 0, .int .i64 0, .float .f64 0, .string ⟨#[]⟩, .slice none 0 0, .slice none 0 0, .int .i64 0] 33) := new_block (by simp)
  have b1 : (((w.alloc (.cells #[.pointer none, .pointer (some ⟨pb, 0, none⟩), .pointer none, .pointer none] 104)).alloc (.cells #[.int .i64 0, .string ⟨#[]⟩, .slice none 0 0, .slice none 0 0, .int .i64 0, .int .i64 0, .float .f64 0, .string ⟨#[]⟩, .slice none 0 0, .slice none 0 0, .int .i64 0] 33)).alloc (.cells #[.int .i64 1, .string ⟨#[]⟩, .slice none 0 0, .slice none 0 0, .int .i64 0, .int .i64 0, .float .f64 0, .string ⟨#[]⟩, .slice none 0 0, .slice none 0 0, .int .i64 0] 33)).heap[w.heap.size + 1]? = some (.cells #[.int .i64 0, .string ⟨#[]⟩, .slice none 0 0, .slice none 0 0, .int .i64 0, .int .i64 0, .float .f64 0, .string ⟨#[]⟩, .slice none 0 0, .slice none 0 0, .int .i64 0] 33) := blk_alloc (new_block (by simp)) _
  have hs0 : (((w.alloc (.cells #[.pointer none, .pointer (some ⟨pb, 0, none⟩), .pointer none, .pointer none] 104)).alloc (.cells #[.int .i64 0, .string ⟨#[]⟩, .slice none 0 0, .slice none 0 0, .int .i64 0, .int .i64 0, .float .f64 0, .string ⟨#[]⟩, .slice none 0 0, .slice none 0 0, .int .i64 0] 33)).alloc (.cells #[.int .i64 1, .string ⟨#[]⟩, .slice none 0 0, .slice none 0 0, .int .i64 0, .int .i64 0, .float .f64 0, .string ⟨#[]⟩, .slice none 0 0, .slice none 0 0, .int .i64 0] 33)).heap.size = w.heap.size + 3 := by simp
  have hc3 : (((w.alloc (.cells #[.pointer none, .pointer (some ⟨pb, 0, none⟩), .pointer none, .pointer none] 104)).alloc (.cells #[.int .i64 0, .string ⟨#[]⟩, .slice none 0 0, .slice none 0 0, .int .i64 0, .int .i64 0, .float .f64 0, .string ⟨#[]⟩, .slice none 0 0, .slice none 0 0, .int .i64 0] 33)).alloc (.cells #[.int .i64 1, .string ⟨#[]⟩, .slice none 0 0, .slice none 0 0, .int .i64 0, .int .i64 0, .float .f64 0, .string ⟨#[]⟩, .slice none 0 0, .slice none 0 0, .int .i64 0] 33)).cell? ⟨pb, 0, none⟩ = some (.slice A0 fl.length C0) := (hB0.cell (by exact hpl)).trans hc0
  have HW := Lib.hid (And.intro hB0 (And.intro b2 (And.intro b1 hs0)))
  clear hpb hh hB0 b2 b1 hs0
  go_enter Try.func71, Try.ntmps71
  go_wp2_with fail
  clear hc0 hc3
  obtain ⟨hB0, b2, b1, hs0⟩ := HW.out
  clear HW
  generalize (((w.alloc (.cells #[.pointer none, .pointer (some ⟨pb, 0, none⟩), .pointer none, .pointer none] 104)).alloc (.cells #[.int .i64 0, .string ⟨#[]⟩, .slice none 0 0, .slice none 0 0, .int .i64 0, .int .i64 0, .float .f64 0, .string ⟨#[]⟩, .slice none 0 0, .slice none 0 0, .int .i64 0] 33)).alloc (.cells #[.int .i64 1, .string ⟨#[]⟩, .slice none 0 0, .slice none 0 0, .int .i64 0, .int .i64 0, .float .f64 0, .string ⟨#[]⟩, .slice none 0 0, .slice none 0 0, .int .i64 0] 33)) = w0 at *
  generalize hM : w.heap.size = M at *
  have HM := Lib.hid hM; clear hM
  go_loopw [25] (fun i wr => ∃ k A C B D, k ≤ fl.length ∧ i = .int .i64 (k : Nat) ∧ KeyInv M w wr fl k A C B D) (fun i _ => fl.length - (intOf i).toNat)
  case atStart => exact ⟨0, none, 0, none, 0, Nat.zero_le _, rfl, [], b2, World.ownsRow_nil _ _ _ _, World.ownsRow_nil _ _ _ _, by simp [VCells], hB0, by omega, b1⟩
  case round =>
    clear b2 b1 hB0 hs0
    obtain ⟨k, A, C, B, D, hk, rfl, hinv⟩ := hrel
    by_cases hlt : k < fl.length
    · obtain ⟨xs, b2, hownK, hownL, hall, hB, hsz, b1⟩ := hinv
      obtain ⟨g, o, ys, hg, rfl, hfc, hyc⟩ := hrow.resolve_left (fun e => by rw [e] at hlt; simp at hlt)
      obtain ⟨⟨key, j⟩, hx⟩ : ∃ x, fl[k]? = some x := ⟨fl[k], by simp [hlt]⟩
      obtain ⟨cv, hy0, hy1, hkz, hcv⟩ := hfc.at_ hx
      have r0 : wr.cell? ⟨g, o + k * 2, none⟩ = some (.string key) := (hB.cell (by exact hg.2)).trans (hyc _ _ hy0)
      have r1 : wr.cell? ⟨g, o + k * 2 + 1, none⟩ = some cv := (hB.cell (by exact hg.2)).trans (hyc _ _ hy1)
      obtain ⟨vb, vr, rfl, hvb, hvh, hvj⟩ := hcv
      have hcv : IsVal w (Btw 0 M) j (.iface 205 (.pointer (some ⟨vb, 0, none⟩))) := ⟨vb, vr, rfl, hvb, hvh, hvj⟩
      have hjo : JOk j := hoks (key, j) (List.mem_of_getElem? hx)
      have HX := Lib.hid (And.intro hx (And.intro hkz (And.intro hcv hjo)))
      have j0 : (0 : Int) ≤ (k : Int) := by omega
      have j1 : (k : Int) < (fl.length : Int) := by omega
      clear hx hkz hfc hyc hy0 hy1 hvb hvh hvj hcv hjo hoks hrow
      have hb2a := blk_alloc b2 (.cells #[.string key, .iface 205 (.pointer (some ⟨vb, 0, none⟩))] 179)
      have p2 : (wr.alloc (.cells #[.string key, .iface 205 (.pointer (some ⟨vb, 0, none⟩))] 179)).cell? ⟨M + 1 + 1, 2, none⟩ = some (.slice A k C) := blk_c hb2a 2 rfl
      have HI := Lib.hid (And.intro b2 (And.intro hb2a (And.intro hall (And.intro hB b1))))
      clear b2 hb2a hall hB b1
      go_wp2_with (first
        | (with_reducible refine wpList_buildSlice_one rfl _ _ 9 rfl Try.underlying23 i0 hi0 _ hz0 hz1 (.string key) rfl rfl rfl ?_)
        | (at_builtin; refine wpList_append_s _ rfl _ _ _ rfl (M + 3) 9 i0 _ 1 16 Try.underlying23 hi0 hz0 hz1 hz2 rfl Nat.one_pos (.slice A k C) k _ rfl ((hownK.alloc (.cells #[.string key, .iface 205 (.pointer (some ⟨vb, 0, none⟩))] 179)).alloc (.cells #[.string key] 9)) ((wr.alloc (.cells #[.string key, .iface 205 (.pointer (some ⟨vb, 0, none⟩))] 179)).heap.size + 1) (some ⟨(wr.alloc (.cells #[.string key, .iface 205 (.pointer (some ⟨vb, 0, none⟩))] 179)).heap.size, 0, none⟩) 1 1 [.string key] rfl ?r1 ?r2 ?r3 ?r4 ?r5 ?_))
      case r1 => exact ⟨rfl, fun _ => ⟨_, rfl, Nat.lt_succ_self _, cell_one_new _ _ _⟩⟩
      case r2 => intro u hu; simp at hu; subst hu; rfl
      case r3 => unfold maxLen; omega
      case r4 => omega
      case r5 => simp; omega
      intro A2 C2 w4 hownK4 hg4 hat4
      obtain ⟨b2, hb2a, hall, hB, b1⟩ := HI.out
      have hKlt : ∀ b, (Value.slice A k C).ownBlock = some b → M + 3 ≤ b ∧ b < wr.heap.size := fun b e => hownK.lt b e
      have hLlt : ∀ b, (Value.slice B k D).ownBlock = some b → M + 3 ≤ b ∧ b < wr.heap.size := fun b e => hownL.lt b e
      have hownL4 := own_keep_ne ((hownL.alloc (.cells #[.string key, .iface 205 (.pointer (some ⟨vb, 0, none⟩))] 179)).alloc (.cells #[.string key] 9)) ((hownK.alloc (.cells #[.string key, .iface 205 (.pointer (some ⟨vb, 0, none⟩))] 179)).alloc (.cells #[.string key] 9)) (by decide) hg4
      have b24 := blk_grown (blk_alloc hb2a (.cells #[.string key] 9)) hg4 (own_notin ((hownK.alloc (.cells #[.string key, .iface 205 (.pointer (some ⟨vb, 0, none⟩))] 179)).alloc (.cells #[.string key] 9)) (by omega))
      have b14 := blk_grown (blk_alloc (blk_alloc b1 (.cells #[.string key, .iface 205 (.pointer (some ⟨vb, 0, none⟩))] 179)) (.cells #[.string key] 9)) hg4 (own_notin ((hownK.alloc (.cells #[.string key, .iface 205 (.pointer (some ⟨vb, 0, none⟩))] 179)).alloc (.cells #[.string key] 9)) (by omega))
      have bf4 : w4.heap[wr.heap.size]? = some (.cells #[.string key, .iface 205 (.pointer (some ⟨vb, 0, none⟩))] 179) := blk_grown (blk_alloc (new_block rfl) (.cells #[.string key] 9)) hg4 (fun e => by have := (hKlt _ e.symm).2; omega)
      have hs4 : wr.heap.size + 2 ≤ w4.heap.size := by have := hg4.size; simp at this; omega
      have hB4 : Below M w w4 := ((hB.alloc (by omega) (.cells #[.string key, .iface 205 (.pointer (some ⟨vb, 0, none⟩))] 179)).alloc (by simp; omega) (.cells #[.string key] 9)).grown hg4 (by simp; omega) (own_ge ((hownK.alloc (.cells #[.string key, .iface 205 (.pointer (some ⟨vb, 0, none⟩))] 179)).alloc (.cells #[.string key] 9)) (by omega))
      have hk4 : ∀ b, b < wr.heap.size → (Value.slice A k C).ownBlock ≠ some b → w4.heap[b]? = wr.heap[b]? := fun b h1 h2 =>
        (hg4.block b (by simp; omega) (fun e => h2 e.symm)).trans ((Below.heap_alloc _ _ _ (by simp; omega)).trans (Below.heap_alloc _ _ _ h1))
      have hn4 : ∀ b, b < wr.heap.size → (Value.slice A k C).ownBlock ≠ some b → (Value.slice A2 (k + 1) C2).ownBlock ≠ some b := fun b h1 h2 h3 => by
        rcases hat4 with h | h
        · exact h2 (h.symm.trans h3)
        · rw [h3] at h
          simp at h
          omega
      have c42 : w4.cell? ⟨M + 1 + 1, 2, none⟩ = some (.slice A k C) := blk_c b24 2 rfl
      have f42 := blk_frozen b24 2
      have b25 : (w4.setCell ⟨M + 1 + 1, 2, none⟩ (.slice A2 (k + 1) C2)).heap[M + 2]? = some (.cells #[.int .i64 1, .string ⟨#[]⟩, .slice A2 (k + 1) C2, .slice B k D, .int .i64 0, .int .i64 0, .float .f64 0, .string ⟨#[]⟩, .slice none 0 0, .slice none 0 0, .int .i64 0] 33) := blk_set b24 2 _
      have b15 := blk_far b14 (p := ⟨M + 1 + 1, 2, none⟩) (by show M + 1 ≠ M + 2; omega) (.slice A2 (k + 1) C2)
      have bf5 := blk_far bf4 (p := ⟨M + 1 + 1, 2, none⟩) (by show wr.heap.size ≠ M + 2; omega) (.slice A2 (k + 1) C2)
      have hownK5 := ownsRow_setCell_below hownK4 (a := ⟨M + 1 + 1, 2, none⟩) (by show M + 2 < M + 3; omega) (.slice A2 (k + 1) C2)
      have hownL5 := ownsRow_setCell_below hownL4 (a := ⟨M + 1 + 1, 2, none⟩) (by show M + 2 < M + 3; omega) (.slice A2 (k + 1) C2)
      have hB5 := hB4.setCell (p := ⟨M + 1 + 1, 2, none⟩) (by show M ≤ M + 2; omega) (.slice A2 (k + 1) C2)
      have hs5 : (w4.setCell ⟨M + 1 + 1, 2, none⟩ (.slice A2 (k + 1) C2)).heap.size = w4.heap.size := by simp
      have hk5 : ∀ b, b < wr.heap.size → b ≠ M + 2 → (Value.slice A k C).ownBlock ≠ some b → (w4.setCell ⟨M + 1 + 1, 2, none⟩ (.slice A2 (k + 1) C2)).heap[b]? = wr.heap[b]? := fun b h1 h0 h2 =>
        (Below.heap_setCell _ _ _ _ (by show b ≠ M + 2; omega)).trans (hk4 b h1 h2)
      have hn5 : ∀ b, (Value.slice A2 (k + 1) C2).ownBlock = some b → b < w4.heap.size := fun b e => (hownK4.lt b e).2
      have HP := Lib.hid (And.intro b25 (And.intro b15 (And.intro bf5 (And.intro hownK5 (And.intro hownL5 (And.intro hB5 (And.intro hk5 (And.intro hn4 (And.intro hn5 (And.intro hall (And.intro hKlt hLlt)))))))))))
      clear b24 b14 bf4 hownK4 hownL4 hB4 hg4 hat4 hk4 hn4 hownK hownL hall hB b1 b2 hb2a hKlt hLlt b25 b15 bf5 hownK5 hownL5 hB5 hk5 hn5 p2 HI r0 r1
      go_wp2_with fail
      obtain ⟨b25, b15, bf5, hownK5, hownL5, hB5, hk5, hn4, hn5, hall, hKlt, hLlt⟩ := HP.out
      clear HP
      generalize w4.setCell ⟨M + 1 + 1, 2, none⟩ (.slice A2 (k + 1) C2) = w5 at *
      obtain ⟨hx, hkz, hcv, hjo⟩ := HX.out
      have HXD := Lib.hid ((hcv.keep (w' := w5) (Btw.kept hB5) (S' := Btw 0 w5.heap.size) (Btw.mono (Nat.le_refl _) (by omega))).drew_)
      have o5 : w5.cell? ⟨M + 1 + 1, 3, none⟩ = some (.slice B k D) := blk_c b25 3 rfl
      have o6 : w5.cell? ⟨wr.heap.size, 1, none⟩ = some (.iface 205 (.pointer (some ⟨vb, 0, none⟩))) := blk_c bf5 1 rfl
      have hk1 : k + 1 ≤ maxLen := by unfold maxLen; omega
      have hk2 : (k + 1) * 88 ≤ 140737488355328 := by omega
      have hownd := hownL5.drew
      have hsz5 : M + 3 ≤ w5.heap.size := by omega
      refine wp_region_K (fun w' => w'.cell? ⟨M + 1 + 1, 3, none⟩ = some (.slice B k D) ∧ w'.cell? ⟨wr.heap.size, 1, none⟩ = some (.iface 205 (.pointer (some ⟨vb, 0, none⟩)))) [0, 1, 2, 3, 7] (by kernel_rfl) ?_ (fun hHeld => ?_)
      · exact ⟨o5, o6⟩
      refine wpK_take (i := 0) (v := ?_) rfl (by kernel_rfl) (by kernel_rfl) (by kernel_rfl) (by kernel_rfl) (.inl ⟨by rfl, ?_⟩) hHeld ?_
      rotate_left
      · (intro w hSw; (try dsimp only at hSw); go_split_ands; go_simp; (try with_reducible rfl))
      try simp only [Act.put, List.setIfInBounds_toArray, List.set_cons_zero, List.set_cons_succ]
      refine wpK_take (i := 1) (v := ?_) rfl (by kernel_rfl) (by kernel_rfl) (by kernel_rfl) (by kernel_rfl) (.inl ⟨by rfl, ?_⟩) hHeld ?_
      rotate_left
      · (intro w hSw; (try dsimp only at hSw); go_split_ands; go_simp; (try with_reducible rfl))
      try simp only [Act.put, List.setIfInBounds_toArray, List.set_cons_zero, List.set_cons_succ]
      refine wpK_take (i := 2) (v := ?_) rfl (by kernel_rfl) (by kernel_rfl) (by kernel_rfl) (by kernel_rfl) (.inl ⟨by rfl, ?_⟩) hHeld ?_
      rotate_left
      · (intro w hSw; (try dsimp only at hSw); go_split_ands; go_simp; (try with_reducible rfl))
      try simp only [Act.put, List.setIfInBounds_toArray, List.set_cons_zero, List.set_cons_succ]
      refine wpK_take (i := 3) (v := ?_) rfl (by kernel_rfl) (by kernel_rfl) (by kernel_rfl) (by kernel_rfl) (.inl ⟨by rfl, ?_⟩) hHeld ?_
      rotate_left
      · (intro w hSw; (try dsimp only at hSw); go_split_ands; go_simp; (try with_reducible rfl))
      try simp only [Act.put, List.setIfInBounds_toArray, List.set_cons_zero, List.set_cons_succ]
      refine wpK_one (i := 4) (by kernel_rfl) rfl (fun K hK => ?_)
      go_simp
      (with_reducible refine (fromValue_any j _ _ HXD.out hjo).mono ?_)
      rintro e w6 ⟨r, rfl, hB6, hr⟩
      obtain ⟨a0, d0, a1, d1, rfl⟩ := hr.form
      refine hK.out _ _ ?_ (fun hHeld => ?_)
      · exact ⟨cell_below hB6 hHeld.1, cell_below hB6 hHeld.2⟩
      clear hK K
      try simp only [Act.put, List.setIfInBounds_toArray, List.set_cons_zero, List.set_cons_succ]
      refine wpK_one (i := 5) (by kernel_rfl) rfl (fun K hK => ?_)
      go_simp
      refine hK.out _ _ ?_ (fun hHeld => ?_)
      · exact ⟨cell_below ((Below.refl _ _).alloc (Nat.le_refl _) _) hHeld.1, cell_below ((Below.refl _ _).alloc (Nat.le_refl _) _) hHeld.2⟩
      clear hK K
      try simp only [Act.put, List.setIfInBounds_toArray, List.set_cons_zero, List.set_cons_succ]
      refine wpK_one (i := 6) (by kernel_rfl) rfl (fun K hK => ?_)
      have q1 := ones_val (unJ j).kind (unJ j).n (unJ j).f (unJ j).s a0 a1 (unJ j).keys.length d0 (unJ j).l.length d1
      have q2 := reads_new w6 (.int .i64 (unJ j).kind) (.int .i64 (unJ j).n) (.float .f64 (unJ j).f) (.string (unJ j).s) (.slice a0 (unJ j).keys.length d0) (.slice a1 (unJ j).l.length d1) 26
      have q3 := le_alloc hsz5 hB6 (.cells #[.int .i64 (unJ j).kind, .int .i64 (unJ j).n, .float .f64 (unJ j).f, .string (unJ j).s, .slice a0 (unJ j).keys.length d0, .slice a1 (unJ j).l.length d1] 26)
      have q4 := (own_below hownd hB6).alloc (.cells #[.int .i64 (unJ j).kind, .int .i64 (unJ j).n, .float .f64 (unJ j).f, .string (unJ j).s, .slice a0 (unJ j).keys.length d0, .slice a1 (unJ j).l.length d1] 26)
      refine step_append_s _ (by rfl) _ _ _ (by rfl) (M + 3) 26 i6 _ 6 88 Try.underlying24 hi6 hz60 hz61 hz62 rfl (by decide) (.slice B k D) k xs (by rfl) q4 _ (some ⟨w6.heap.size, 0, none⟩) 1 1 _ (by rfl) q2 q1 hk1 hk2 q3 ?_
      intro B2 D2 w7 hownL7 hg7 hat7
      have b27 := blk_grown (blk_alloc (blk_below (w := w5.drew) b25 hB6) (.cells #[.int .i64 (unJ j).kind, .int .i64 (unJ j).n, .float .f64 (unJ j).f, .string (unJ j).s, .slice a0 (unJ j).keys.length d0, .slice a1 (unJ j).l.length d1] 26)) hg7 (own_notin q4 (by omega))
      have c73 : w7.cell? ⟨M + 1 + 1, 3, none⟩ = some (.slice B k D) := blk_c b27 3 rfl
      have f73 := blk_frozen b27 3
      have bf7 := blk_grown (blk_alloc (blk_below (w := w5.drew) bf5 hB6) (.cells #[.int .i64 (unJ j).kind, .int .i64 (unJ j).n, .float .f64 (unJ j).f, .string (unJ j).s, .slice a0 (unJ j).keys.length d0, .slice a1 (unJ j).l.length d1] 26)) hg7 (fun e => absurd (hLlt _ e.symm).2 (Nat.lt_irrefl _))
      have c71 : w7.cell? ⟨wr.heap.size, 1, none⟩ = some (.iface 205 (.pointer (some ⟨vb, 0, none⟩))) := blk_c bf7 1 rfl
      refine hK.out _ _ ?_ (fun hHeld => ?_)
      · exact ⟨c73, c71⟩
      clear hK K
      try simp only [Act.put, List.setIfInBounds_toArray, List.set_cons_zero, List.set_cons_succ]
      refine wpK_take (i := 7) (v := ?_) rfl (by kernel_rfl) (by kernel_rfl) (by kernel_rfl) (by kernel_rfl) (.inl ⟨by rfl, ?_⟩) hHeld ?_
      rotate_left
      · (intro w hSw; (try dsimp only at hSw); go_split_ands; go_simp; (try with_reducible rfl))
      try simp only [Act.put, List.setIfInBounds_toArray, List.set_cons_zero, List.set_cons_succ]
      refine wpK_last (i := 8) (by kernel_rfl) (by kernel_rfl) rfl (fun K hK => ?_)
      go_simp
      refine hK.out _ _ ?_
      clear hK K
      try simp only [Act.put, List.setIfInBounds_toArray, List.set_cons_zero, List.set_cons_succ]
      refine wpK_done (by kernel_rfl) ?_ _
      have hsz6 : w5.heap.size ≤ w6.heap.size := hB6.size
      have hs7 : w6.heap.size + 1 ≤ w7.heap.size := by have := hg7.size; simpa using this
      have hinv : KeyInv M w (w7.setCell ⟨M + 1 + 1, 3, none⟩ (.slice B2 (k + 1) D2)) fl (k + 1) A2 C2 B2 D2 := by
        have hs8 : (w7.setCell ⟨M + 1 + 1, 3, none⟩ (.slice B2 (k + 1) D2)).heap.size = w7.heap.size := by simp
        have hownK6 := own_keep_ne ((own_below hownK5.drew hB6).alloc (.cells #[.int .i64 (unJ j).kind, .int .i64 (unJ j).n, .float .f64 (unJ j).f, .string (unJ j).s, .slice a0 (unJ j).keys.length d0, .slice a1 (unJ j).l.length d1] 26)) q4 (by decide) hg7
        have hkeep : ∀ b, b < w6.heap.size → b ≠ M + 2 → (Value.slice B k D).ownBlock ≠ some b → (w7.setCell ⟨M + 1 + 1, 3, none⟩ (.slice B2 (k + 1) D2)).heap[b]? = w6.heap[b]? := fun b h1 h0 h2 =>
          (Below.heap_setCell _ _ _ _ (by show b ≠ M + 1 + 1; omega)).trans ((hg7.block b (by simp; omega) (fun e => h2 e.symm)).trans (Below.heap_alloc _ _ _ h1))
        have hn7 : ∀ b, b < w6.heap.size → (Value.slice B k D).ownBlock ≠ some b → (Value.slice B2 (k + 1) D2).ownBlock ≠ some b := fun b h1 h2 h3 => by
          rcases hat7 with h | h
          · exact h2 (h.symm.trans h3)
          · rw [h3] at h
            simp at h
            omega
        refine ⟨xs ++ [.int .i64 (unJ j).kind, .int .i64 (unJ j).n, .float .f64 (unJ j).f, .string (unJ j).s, .slice a0 (unJ j).keys.length d0, .slice a1 (unJ j).l.length d1], blk_set b27 3 _, ?_, ownsRow_setCell_below hownL7 (a := ⟨M + 1 + 1, 3, none⟩) (by show M + 1 + 1 < M + 3; omega) _, ?_, ?_, by rw [hs8]; omega, ?_⟩
        · have := ownsRow_setCell_below hownK6 (a := ⟨M + 1 + 1, 3, none⟩) (by show M + 1 + 1 < M + 3; omega) (.slice B2 (k + 1) D2)
          rw [List.take_add_one, hx]
          simpa using this
        · rw [List.take_add_one, hx, List.map_append]
          refine (hall.keep (fun b hb => ?_) (fun b hb => ?_)).app (VCells.one (hr.keep (fun b hb => ?_) (fun b hb => ?_)))
          · have h1 := hb.1.1; have h2 := hb.1.2
            exact (hkeep b (by omega) (by omega) hb.2.2).trans ((hB6.block b (by show b < w5.heap.size; omega)).trans (hk5 b h2 (by omega) hb.2.1))
          · have h1 := hb.1.1; have h2 := hb.1.2
            exact ⟨⟨h1, by rw [hs8]; omega⟩, hn4 b h2 hb.2.1, hn7 b (by omega) hb.2.2⟩
          · have h1 : w5.heap.size ≤ b := hb.1
            exact hkeep b hb.2 (by omega) (fun e => by have := (hLlt b e).2; omega)
          · have h1 : w5.heap.size ≤ b := hb.1
            have h2 := hb.2
            exact ⟨⟨by omega, by rw [hs8]; omega⟩, fun e => by have := hn5 b e; omega, hn7 b h2 (fun e => by have := (hLlt b e).2; omega)⟩
        · exact (((hB5.drew.trans (hB6.mono (by show M ≤ w5.heap.size; omega))).alloc (by omega) (.cells #[.int .i64 (unJ j).kind, .int .i64 (unJ j).n, .float .f64 (unJ j).f, .string (unJ j).s, .slice a0 (unJ j).keys.length d0, .slice a1 (unJ j).l.length d1] 26)).grown hg7 (by simp; omega) (fun b e => by have := (hLlt b e).1; omega)).setCell (by show M ≤ M + 1 + 1; omega) _
        · exact blk_far (blk_grown (blk_alloc (blk_below (w := w5.drew) b15 hB6) (.cells #[.int .i64 (unJ j).kind, .int .i64 (unJ j).n, .float .f64 (unJ j).f, .string (unJ j).s, .slice a0 (unJ j).keys.length d0, .slice a1 (unJ j).l.length d1] 26)) hg7 (own_notin q4 (by omega))) (by show M + 1 ≠ M + 1 + 1; omega) _
      have HF := Lib.hid hinv
      clear hinv b25 b15 bf5 hownK5 hownL5 hB5 hk5 hn4 hn5 hall hKlt hLlt hx hkz hcv hjo HX HXD o5 o6 hownd hr hB6 q1 q2 q3 q4 hownL7 hg7 hat7 b27 c73 f73 bf7 c71
      generalize w7.setCell ⟨M + 1 + 1, 3, none⟩ (.slice B2 (k + 1) D2) = w8 at *
      go_wp2_with fail
      go_roundw
      case rel => exact ⟨k + 1, A2, C2, B2, D2, hlt, by go_num, HF.out⟩
      case measure => simp [intOf]; omega
    · have hkl : k = fl.length := by omega
      subst hkl
      obtain ⟨xs, b2, hownK, hownL, hall, hB, hsz, b1⟩ := hinv
      rw [List.take_length] at hownK hall
      have HI := Lib.hid (And.intro hownK (And.intro hownL (And.intro hall (And.intro hB b1))))
      have p0 : wr.cell? ⟨M + 1 + 1, 0, none⟩ = some (.int .i64 1) := blk_c b2 0 rfl
      have p1 : wr.cell? ⟨M + 1 + 1, 1, none⟩ = some (.string ⟨#[]⟩) := blk_c b2 1 rfl
      have p2 : wr.cell? ⟨M + 1 + 1, 2, none⟩ = some (.slice A fl.length C) := blk_c b2 2 rfl
      have p3 : wr.cell? ⟨M + 1 + 1, 3, none⟩ = some (.slice B fl.length D) := blk_c b2 3 rfl
      have p4 : wr.cell? ⟨M + 1 + 1, 4, none⟩ = some (.int .i64 0) := blk_c b2 4 rfl
      have p5 : wr.cell? ⟨M + 1 + 1, 5, none⟩ = some (.int .i64 0) := blk_c b2 5 rfl
      have p6 : wr.cell? ⟨M + 1 + 1, 6, none⟩ = some (.float .f64 0) := blk_c b2 6 rfl
      have p7 : wr.cell? ⟨M + 1 + 1, 7, none⟩ = some (.string ⟨#[]⟩) := blk_c b2 7 rfl
      have p8 : wr.cell? ⟨M + 1 + 1, 8, none⟩ = some (.slice none 0 0) := blk_c b2 8 rfl
      have p9 : wr.cell? ⟨M + 1 + 1, 9, none⟩ = some (.slice none 0 0) := blk_c b2 9 rfl
      have p10 : wr.cell? ⟨M + 1 + 1, 10, none⟩ = some (.int .i64 0) := blk_c b2 10 rfl
      have q0 : wr.cell? ⟨M + 1, 0, none⟩ = some (.int .i64 0) := blk_c b1 0 rfl
      have q1 : wr.cell? ⟨M + 1, 1, none⟩ = some (.string ⟨#[]⟩) := blk_c b1 1 rfl
      have q2 : wr.cell? ⟨M + 1, 2, none⟩ = some (.slice none 0 0) := blk_c b1 2 rfl
      have q3 : wr.cell? ⟨M + 1, 3, none⟩ = some (.slice none 0 0) := blk_c b1 3 rfl
      have q4 : wr.cell? ⟨M + 1, 4, none⟩ = some (.int .i64 0) := blk_c b1 4 rfl
      have q5 : wr.cell? ⟨M + 1, 5, none⟩ = some (.int .i64 0) := blk_c b1 5 rfl
      have q6 : wr.cell? ⟨M + 1, 6, none⟩ = some (.float .f64 0) := blk_c b1 6 rfl
      have q7 : wr.cell? ⟨M + 1, 7, none⟩ = some (.string ⟨#[]⟩) := blk_c b1 7 rfl
      have q8 : wr.cell? ⟨M + 1, 8, none⟩ = some (.slice none 0 0) := blk_c b1 8 rfl
      have q9 : wr.cell? ⟨M + 1, 9, none⟩ = some (.slice none 0 0) := blk_c b1 9 rfl
      have q10 : wr.cell? ⟨M + 1, 10, none⟩ = some (.int .i64 0) := blk_c b1 10 rfl
      have f0 := blk_frozen b1 0
      have f1 := blk_frozen b1 1
      have f2 := blk_frozen b1 2
      have f3 := blk_frozen b1 3
      have f4 := blk_frozen b1 4
      have f5 := blk_frozen b1 5
      have f6 := blk_frozen b1 6
      have f7 := blk_frozen b1 7
      have f8 := blk_frozen b1 8
      have f9 := blk_frozen b1 9
      have f10 := blk_frozen b1 10
      clear hownK hownL hall hB b1 hrow hoks
      go_wp2_with fail
      obtain ⟨hownK, hownL, hall, hB, b1⟩ := HI.out
      rw [HM.out]
      have hKlt : ∀ b, (Value.slice A fl.length C).ownBlock = some b → M + 3 ≤ b ∧ b < wr.heap.size := fun b e => hownK.lt b e
      have hLlt : ∀ b, (Value.slice B fl.length D).ownBlock = some b → M + 3 ≤ b ∧ b < wr.heap.size := fun b e => hownL.lt b e
      have hks := IsStrs.of_own (S := Btw (M + 3) wr.heap.size) (ks := fl.map (·.1)) (base := M + 3) (v := .slice A fl.length C) (by simpa [List.map_map, Function.comp_def] using hownK) (fun b hb => hKlt b hb) (by simp; omega) (fun s hs => by
        obtain ⟨p, hp, rfl⟩ := List.mem_map.1 hs
        exact hkeys p hp)
      have hrows := rows_of_own (S := Btw (M + 3) wr.heap.size) (l := fl.map fun p => unJ p.2) (v := .slice B fl.length D) (base := M + 3) (by simpa using hownL) (fun b hb => hLlt b hb) (hall.keep (fun _ _ => rfl) (fun b hb => hb.1))
      have HE : IsE (st11 wr (M + 1) (.int .i64 1) (.string ⟨#[]⟩) (.slice A fl.length C) (.slice B fl.length D) (.int .i64 0) (.int .i64 0) (.float .f64 0) (.string ⟨#[]⟩) (.slice none 0 0) (.slice none 0 0) (.int .i64 0)) (Btw M wr.heap.size) (unPE (.key fl)) (.agg #[.int .i64 1, .string ⟨#[]⟩, .slice A fl.length C, .slice B fl.length D, .int .i64 0, .int .i64 0, .float .f64 0, .string ⟨#[]⟩, .slice none 0 0, .slice none 0 0, .int .i64 0]) := by
        have hkp : ∀ b, Btw (M + 3) wr.heap.size b → (st11 wr (M + 1) (.int .i64 1) (.string ⟨#[]⟩) (.slice A fl.length C) (.slice B fl.length D) (.int .i64 0) (.int .i64 0) (.float .f64 0) (.string ⟨#[]⟩) (.slice none 0 0) (.slice none 0 0) (.int .i64 0)).heap[b]? = wr.heap[b]? := fun b hb => st11_eq (by have := hb.1; omega)
        have hS : ∀ b, Btw (M + 3) wr.heap.size b → Btw M wr.heap.size b := Btw.mono (by omega) (Nat.le_refl _)
        refine isE_mk (by decide) (by decide) (by decide) (hks.keep hkp hS) (by simp; omega) ?_ isV_nil
        obtain ⟨A', C', e', hC, hx⟩ := hrows
        refine ⟨A', C', e', hC, ?_⟩
        rcases hx with hx | ⟨b, o, hb, ha, hx⟩
        · exact .inl hx
        · exact .inr ⟨b, o, hS b hb, ha, IsVs.keep hkp hS _ b o hb hx⟩
      have hblk := st11_blk (c0 := .int .i64 1) (c1 := .string ⟨#[]⟩) (c2 := .slice A fl.length C) (c3 := .slice B fl.length D) (c4 := .int .i64 0) (c5 := .int .i64 0) (c6 := .float .f64 0) (c7 := .string ⟨#[]⟩) (c8 := .slice none 0 0) (c9 := .slice none 0 0) (c10 := .int .i64 0) b1
      have hsz : (st11 wr (M + 1) (.int .i64 1) (.string ⟨#[]⟩) (.slice A fl.length C) (.slice B fl.length D) (.int .i64 0) (.int .i64 0) (.float .f64 0) (.string ⟨#[]⟩) (.slice none 0 0) (.slice none 0 0) (.int .i64 0)).heap.size = wr.heap.size := st11_size
      have hfin : IsE (st11 wr (M + 1) (.int .i64 1) (.string ⟨#[]⟩) (.slice A fl.length C) (.slice B fl.length D) (.int .i64 0) (.int .i64 0) (.float .f64 0) (.string ⟨#[]⟩) (.slice none 0 0) (.slice none 0 0) (.int .i64 0)) (Btw M (st11 wr (M + 1) (.int .i64 1) (.string ⟨#[]⟩) (.slice A fl.length C) (.slice B fl.length D) (.int .i64 0) (.int .i64 0) (.float .f64 0) (.string ⟨#[]⟩) (.slice none 0 0) (.slice none 0 0) (.int .i64 0)).heap.size) (unPE (.key fl)) (.agg #[.int .i64 1, .string ⟨#[]⟩, .slice A fl.length C, .slice B fl.length D, .int .i64 0, .int .i64 0, .float .f64 0, .string ⟨#[]⟩, .slice none 0 0, .slice none 0 0, .int .i64 0]) := by
        rw [hsz]
        exact HE
      have hBf : Below M w (st11 wr (M + 1) (.int .i64 1) (.string ⟨#[]⟩) (.slice A fl.length C) (.slice B fl.length D) (.int .i64 0) (.int .i64 0) (.float .f64 0) (.string ⟨#[]⟩) (.slice none 0 0) (.slice none 0 0) (.int .i64 0)) := st11_below hB (by omega)
      refine bodyPost_ret (v := .agg #[.int .i64 1, .string ⟨#[]⟩, .slice A fl.length C, .slice B fl.length D, .int .i64 0, .int .i64 0, .float .f64 0, .string ⟨#[]⟩, .slice none 0 0, .slice none 0 0, .int .i64 0]) ?_ rfl ?_
      · have e0 := blk_c hblk 0 (u := .int .i64 1) rfl
        have e1 := blk_c hblk 1 (u := .string ⟨#[]⟩) rfl
        have e2 := blk_c hblk 2 (u := .slice A fl.length C) rfl
        have e3 := blk_c hblk 3 (u := .slice B fl.length D) rfl
        have e4 := blk_c hblk 4 (u := .int .i64 0) rfl
        have e5 := blk_c hblk 5 (u := .int .i64 0) rfl
        have e6 := blk_c hblk 6 (u := .float .f64 0) rfl
        have e7 := blk_c hblk 7 (u := .string ⟨#[]⟩) rfl
        have e8 := blk_c hblk 8 (u := .slice none 0 0) rfl
        have e9 := blk_c hblk 9 (u := .slice none 0 0) rfl
        have e10 := blk_c hblk 10 (u := .int .i64 0) rfl
        unfold st11 at e0 e1 e2 e3 e4 e5 e6 e7 e8 e9 e10
        simp [results, Try.results71, go_sem, e0, e1, e2, e3, e4, e5, e6, e7, e8, e9, e10]
      · unfold st11 at hfin hBf
        exact ⟨_, rfl, hBf, hfin⟩

/-- fromElem takes an element apart. -/
theorem fromElem_any (p : PEV) (w : World) (v : Value) (hv : IsPE w (Btw 0 w.heap.size) p v) (hok : POk p) :
    Calls Try.prog 71 #[v] w fun e w' => ∃ r, e = .returned r ∧ Below w.heap.size w w' ∧ IsE w' (Btw w.heap.size w'.heap.size) (unPE p) r := by
  cases p with
  | name s => exact fromElem_name s w v hv
  | key fl => exact fromElem_key fl w v hv hok
  | val j => exact fromElem_val j w v hv hok
  | idx n => exact fromElem_idx n w v hv
end Go.Proofs.Ytlghpcokbppkfaa
