/- impl.plain, plainMap: a value's tree. -/
import Derived.Test.YtlghpcokbppkfaaOps
import Derived.Deep.DeepFit
namespace Go.Proofs.Ytlghpcokbppkfaa
open Go.RowKit

mutual
/-- The tree of a value. -/
def plainJ : GV → JV
  | .mk k n f s ks l => if k = 1 then .bool (n != 0) else if k = 2 then .int n else if k = 3 then .flt f else if k = 4 then .str s
    else if k = 5 then .list (plainJs l) else if k = 6 then .map (plainM ks l []) else .null
def plainJs : List GV → List JV
  | [] => []
  | x :: r => plainJ x :: plainJs r
def plainM : List ByteArray → List GV → List (ByteArray × JV) → List (ByteArray × JV)
  | k :: ks, x :: r, acc => plainM ks r (putA acc k (plainJ x))
  | _, _, acc => acc
end

theorem plainJs_length : ∀ l, (plainJs l).length = l.length
  | [] => by simp [plainJs]
  | x :: r => by simp [plainJs, plainJs_length r]
theorem plainJs_at : ∀ (l : List GV) (i : Nat), (plainJs l)[i]? = (l[i]?).map plainJ
  | [], i => by simp [plainJs]
  | x :: r, 0 => by simp [plainJs]
  | x :: r, i + 1 => by simp [plainJs, plainJs_at r i]

theorem Try.infoAny : (Try.prog.info? 20).map (fun i => (i.zero, i.size, i.bytes)) = some (some .nilIface, 1, 16) := by kernel_rfl

/-- What plain does at x. -/
def PlainC (x : GV) : Prop := ∀ (w : World) (v : Value), IsV w (Btw 0 w.heap.size) x v →
    Calls Try.prog 73 #[v] w fun e w' => ∃ r, e = .returned r ∧ Below w.heap.size w w' ∧ IsJ w' (Btw w.heap.size w'.heap.size) (plainJ x) r

theorem PlainC.use {x : GV} (h : PlainC x) (w : World) (v : Value) (hv : IsV w (Btw 0 w.heap.size) x v) :
    Calls Try.prog 73 #[v] w fun e w' => ∃ r, e = .returned r ∧ Below w.heap.size w w' ∧ IsJ w' (Btw w.heap.size w'.heap.size) (plainJ x) r := h w v hv

set_option maxRecDepth 100000 in
theorem plain_list (n : Int) (f : Nat) (s : ByteArray) (ks : List ByteArray) (l : List GV) (ih : ∀ x ∈ l, PlainC x) : PlainC (.mk 5 n f s ks l) := by
  intro w v hv
  unfold IsV at hv
  obtain ⟨vk, a, c, rfl, _, _, _, _, _, _, h6, h7⟩ := hv
  obtain ⟨i0, hi, hz0, hz1, hz2⟩ := info_parts Try.infoAny
  go_enter Try.func73, Try.ntmps73
  go_wp2_with (first
      | (at_make; refine wpList_make_own _ rfl _ _ 106 rfl 0 20 i0 .nilIface 1 Try.underlying106 hi hz0 hz1 _ _ _ l.length rfl rfl rfl (by rw [hz2]; omega) (by unfold maxLen; omega) (Nat.zero_le _) ?_))
  intro w1 hown1 hg1
  have hB1 : Below w.heap.size w w1 := ((Below.refl _ _).alloc (Nat.le_refl _) _).grown hg1 (by simp) (fun k hk => by cases hk)
  have hsz1 : w.heap.size + 2 ≤ w1.heap.size := by have := (hown1.lt (w.heap.size + 1) rfl).2; omega
  have hbox : w1.cell? ⟨w.heap.size, 5, none⟩ = some (.slice a l.length c) := hg1.cell (by go_simp) (by simp)
  clear hg1
  generalize hM : w.heap.size = M at *
  have HM := Lib.hid hM; clear hM
  go_wp2_with fail
  go_loopw [3, 38] (fun out i wr => ∃ k vs, k ≤ l.length ∧ i = .int .i64 (k : Nat) ∧ out = .slice (some ⟨M + 1, 0, none⟩) k l.length ∧
      wr.ownsRow 0 20 1 (.slice (some ⟨M + 1, 0, none⟩) k l.length) k vs ∧ AllJ wr (Btw (M + 2) wr.heap.size) ((plainJs l).take k) vs ∧ Below M w wr ∧ M + 2 ≤ wr.heap.size)
    (fun _ i _ => l.length - (intOf i).toNat)
  case atStart => exact ⟨0, [], Nat.zero_le _, rfl, rfl, hown1, by simp [AllJ], hB1, hsz1⟩
  case round =>
    clear hown1 hB1 hsz1 hbox
    obtain ⟨k, vs, hk, rfl, rfl, hown, hall, hB, hsz⟩ := hrel
    by_cases hlt : k < l.length
    · obtain ⟨b, o, hb, rfl, hcells⟩ : ∃ b o, Btw 0 M b ∧ a = some ⟨b, o, none⟩ ∧ IsVs w (Btw 0 M) l b o := by
        rcases h7 with rfl | h7
        · simp at hlt
        · exact h7
      obtain ⟨x, hx⟩ : ∃ x, l[k]? = some x := ⟨l[k], by simp [hlt]⟩
      obtain ⟨a0, d0, a1, d1, g0, g1, g2, g3, g4, g5, hxv⟩ := (IsVs.keep (Btw.kept hB) (Btw.mono (Nat.le_refl _) (Nat.le_refl _)) l b o hb hcells).cells hx
      have hc := ih x (List.mem_of_getElem? hx)
      have HX := Lib.hid hx; clear hx h7 hcells
      have hxv' := IsV.keep (S := Btw 0 M) (S' := Btw 0 (wr.heap.size + 1)) (w' := wr.alloc (.cells #[.int .i64 x.kind, .int .i64 x.n, .float .f64 x.f, .string x.s, .slice a0 x.keys.length d0, .slice a1 x.l.length d1] 26))
        (fun b hb => Below.heap_alloc _ _ _ (by have := hb.2; omega)) (Btw.mono (Nat.le_refl _) (by omega)) x hxv
      go_wp2_with (go_at_call 73; (with_reducible refine (hc.use _ _ (by simpa using hxv')).mono ?_))
      rintro e w2 ⟨r, rfl, hB2, hr⟩
      have hsz2 := hB2.size
      have hcl := hr.cells
      have hB3 : Below wr.heap.size wr w2 := ((Below.refl _ _).alloc (Nat.le_refl _) _).trans (hB2.mono (by simp))
      have hown2 := own_below hown hB3
      have hall2 : AllJ w2 (Btw (M + 2) w2.heap.size) ((plainJs l).take k) vs := hall.keep (Btw.kept hB3) (Btw.mono (Nat.le_refl _) hB3.size)
      have hr2 : IsJ w2 (Btw (M + 2) w2.heap.size) (plainJ x) r := IsJ.keep (fun _ _ => rfl) (Btw.mono (by simp; omega) (Nat.le_refl _)) _ hr
      have hBM : Below M w w2 := hB.trans (hB3.mono (by omega))
      simp at hsz2
      clear hB2 hr hown hall hB g0 g1 g2 g3 g4 g5 hxv hxv' hc
      go_wp2_with (first
        | (with_reducible refine wpList_buildSlice_one rfl _ _ 20 rfl Try.underlying106 i0 hi .nilIface hz0 hz1 r rfl hcl rfl ?_)
        | (at_builtin; refine wpList_append_fits _ rfl _ _ 106 rfl 0 20 i0 1 Try.underlying106 hi hz1 (M + 1) k l.length vs rfl (hown2.alloc _) ⟨w2.heap.size, 0, none⟩ 1 1 [r] rfl rfl ?c1 ?c2 (by omega) ?_))
      case c1 => exact cell_one_new _ _ _
      case c2 => intro u hu; simp at hu; subst hu; exact hr2.oneCell
      intro w3 hown3 hg3
      have hs3 : w2.heap.size + 1 ≤ w3.heap.size := by have := hg3.size; simp at this; exact this
      have hk3 : ∀ b, Btw (M + 2) w2.heap.size b → w3.heap[b]? = w2.heap[b]? := fun b hb => by
        have h1 := hb.1; have h2 := hb.2
        exact (hg3.block b (by simp; omega) (by simp; omega)).trans (Below.heap_alloc _ _ _ h2)
      have hall3 : AllJ w3 (Btw (M + 2) w3.heap.size) ((plainJs l).take (k + 1)) (vs ++ [r]) := by
        rw [List.take_add_one, plainJs_at, HX.out]
        exact AllJ.snoc (IsJ.keep hk3 (Btw.mono (Nat.le_refl _) (by omega)) _ hr2) (hall2.keep hk3 (Btw.mono (Nat.le_refl _) (by omega)))
      have hB4 : Below M w w3 := (hBM.alloc (by omega) _).grown hg3 (by simp; omega) (fun q hq => by cases hq; omega)
      clear hg3 hk3 hall2 hBM hown2 hr2 hB3 hcl
      go_wp2_with fail
      go_roundw
      case rel => exact ⟨k + 1, vs ++ [r], hlt, by go_num, rfl, hown3, hall3, hB4, by omega⟩
      case measure => simp [intOf]; omega
    · have hkl : k = l.length := by omega
      subst hkl
      go_wp2_with fail
      go_ret
      rw [HM.out]
      refine ⟨_, rfl, hB, ?_⟩
      rw [List.take_of_length_le (by rw [plainJs_length]; omega)] at hall
      have hj : plainJ (.mk 5 n f s ks l) = .list (plainJs l) := by simp [plainJ]
      rw [hj]
      unfold IsJ
      refine ⟨some ⟨M + 1, 0, none⟩, l.length, by rw [plainJs_length]; rfl, by rw [plainJs_length]; omega, .inr ⟨M + 1, 0, ⟨by omega, by omega⟩, rfl, ?_⟩⟩
      refine AllJ.row (hall.keep (fun _ _ => rfl) (Btw.mono (by omega) (Nat.le_refl _))) (fun j u hu => ?_)
      have := hown.cells (g := M + 1) rfl j u hu
      rwa [Addr.add_lit] at this

theorem plainM_step : ∀ (ks : List ByteArray) (l : List GV) (acc : List (ByteArray × JV)) (k : Nat) (key : ByteArray) (x : GV), ks[k]? = some key → l[k]? = some x →
    plainM (ks.take (k + 1)) l acc = putA (plainM (ks.take k) l acc) key (plainJ x)
  | [], _, _, _, _, _, h, _ => by simp at h
  | _ :: _, [], _, _, _, _, _, h => by simp at h
  | y :: ks, z :: l, acc, 0, key, x, h, h' => by
    simp at h h'; subst h h'
    simp [plainM]
  | y :: ks, z :: l, acc, k + 1, key, x, h, h' => by
    simp only [List.take_succ_cons, plainM]
    exact plainM_step ks l _ k key x (by simpa using h) (by simpa using h')
theorem plainM_over : ∀ (ks : List ByteArray) (l : List GV) (acc : List (ByteArray × JV)) (k : Nat), l.length ≤ k → plainM (ks.take (k + 1)) l acc = plainM (ks.take k) l acc
  | [], _, _, _, _ => by simp
  | _ :: _, [], _, k, _ => by cases k <;> simp [plainM]
  | y :: ks, z :: l, acc, 0, h => by simp at h
  | y :: ks, z :: l, acc, k + 1, h => by
    simp only [List.take_succ_cons, plainM]
    exact plainM_over ks l _ k (by simpa using h)
theorem plainM_length : ∀ (ks : List ByteArray) (l : List GV) (acc : List (ByteArray × JV)), (plainM ks l acc).length ≤ acc.length + ks.length
  | [], _, _ => by simp [plainM]
  | _ :: _, [], _ => by simp [plainM]
  | y :: ks, z :: l, acc => by
    simp only [plainM]
    have h1 := plainM_length ks l (putA acc y (plainJ z))
    have h2 := putA_length acc y (plainJ z)
    simp only [List.length_cons]; omega

/-- Block b is a map from strings whose fields are m. -/
def IsM (w : World) (S : Nat → Prop) (m : List (ByteArray × JV)) (b : Nat) : Prop :=
  ∃ es cl, w.heap[b]? = some (.map es cl) ∧ MapKept.Stamped es cl ∧ IsEs w S m es.toList

/-- What plainMap does at x. -/
def PlainMC (x : GV) : Prop := ∀ (w : World) (v : Value), IsV w (Btw 0 w.heap.size) x v →
    Calls Try.prog 104 #[v] w fun e w' => ∃ b, e = .returned (.map (some b)) ∧ Below w.heap.size w w' ∧ Btw w.heap.size w'.heap.size b ∧
      IsM w' (Btw w.heap.size w'.heap.size) (plainM x.keys x.l []) b

set_option maxRecDepth 100000 in
theorem plainMap_any (x : GV) (ih : ∀ y ∈ x.l, PlainC y) : PlainMC x := by
  intro w v hv
  obtain ⟨kd, n, f, s, ks, l⟩ := x
  unfold IsV at hv
  obtain ⟨vk, a, c, rfl, _, _, _, _, ⟨ak, ck, rfl, _, hkl, hkz, hkc⟩, _, h6, h7⟩ := hv
  have hmm := @run_makeMap Try.prog
  go_enter Try.func104, Try.ntmps104
  go_wp2_with fail
  go_loopw [10] (fun i wr => ∃ k, k ≤ ks.length ∧ i = .int .i64 (k : Nat) ∧ IsM wr (fun b => Btw (w.heap.size + 2) wr.heap.size b) (plainM (ks.take k) l []) (w.heap.size + 1) ∧
      wr.cell? ⟨w.heap.size, 5, none⟩ = some (.slice a l.length c) ∧ Below w.heap.size w wr ∧ w.heap.size + 2 ≤ wr.heap.size)
    (fun i _ => ks.length - (intOf i).toNat)
  case atStart =>
    refine ⟨0, Nat.zero_le _, rfl, ⟨#[], 0, ?_, MapKept.stamped_empty _, ?_⟩, by go_simp, ((Below.refl _ _).alloc (Nat.le_refl _) _).alloc (by simp) _, by simp⟩
    · exact new_block (by simp)
    · simp [plainM, IsEs]
  case round =>
    obtain ⟨k, hk, rfl, ⟨es, cl, hes, hst, hm⟩, hbox, hB, hsz⟩ := hrel
    by_cases hlt : k < ks.length
    · obtain ⟨b0, o0, hb0, rfl, hkeys⟩ := hkc (by omega)
      have hck : wr.cell? ⟨b0, o0 + k, none⟩ = some (.string (ks.getD k ByteArray.empty)) := (hB.cell (by exact hb0.2)).trans (hkeys k hlt)
      obtain ⟨key, hkey⟩ : ∃ key, ks[k]? = some key := ⟨ks[k], by simp [hlt]⟩
      have hkd : ks.getD k ByteArray.empty = key := by simp [List.getD, hkey]
      rw [hkd] at hck
      have hksz : key.size ≤ maxLen := hkz key (List.mem_of_getElem? hkey)
      have HK := Lib.hid hkey
      clear hkd hkeys hkey hkc
      by_cases hl : k < l.length
      · obtain ⟨b, o, hb, rfl, hcells⟩ : ∃ b o, Btw 0 w.heap.size b ∧ a = some ⟨b, o, none⟩ ∧ IsVs w (Btw 0 w.heap.size) l b o := by
          rcases h7 with rfl | h7
          · simp at hl
          · exact h7
        obtain ⟨x, hx⟩ : ∃ x, l[k]? = some x := ⟨l[k], by simp [hl]⟩
        obtain ⟨a0, d0, a1, d1, g0, g1, g2, g3, g4, g5, hxv⟩ := (IsVs.keep (S' := Btw 0 wr.heap.size) (Btw.kept hB) (Btw.mono (Nat.le_refl _) hB.size) l b o hb hcells).cells hx
        have hc := ih x (List.mem_of_getElem? hx)
        have HX := Lib.hid hx; clear hx h7 hcells
        go_wp2_with (go_at_call 73; (with_reducible refine (hc.use _ _ hxv).mono ?_))
        rintro e w2 ⟨r, rfl, hB2, hr⟩
        have hsz2 := hB2.size
        have hr2 : IsJ w2 (Btw (w.heap.size + 2) w2.heap.size) (plainJ x) r := IsJ.keep (fun _ _ => rfl) (Btw.mono (by omega) (Nat.le_refl _)) _ hr
        have hes2 : w2.heap[w.heap.size + 1]? = some (.map es cl) := (hB2.block _ (by omega)).trans hes
        have hm2 := hm.keep (Btw.kept hB2) (S' := Btw (w.heap.size + 2) w2.heap.size) (Btw.mono (Nat.le_refl _) hsz2)
        have hbox2 : w2.cell? ⟨w.heap.size, 5, none⟩ = some (.slice (some ⟨b, o, none⟩) l.length c) := (hB2.cell (by show w.heap.size < _; omega)).trans hbox
        have hB3 : Below w.heap.size w w2 := hB.trans (hB2.mono (by omega))
        clear hB2 hB hbox hes hm hxv g0 g1 g2 g3 g4 g5 hc hr hck
        go_wp2_with (at_mapUpdate; refine wpList_mapUpdate_str rfl _ _ _ 164 rfl 9 20 Try.underlying164 Try.underlying9 (w.heap.size + 1) cl es key r rfl rfl rfl hes2 hst hm2.keys ?_)
        intro es' cl' hes' hst'
        have hm3 : IsEs (ChangeMaps.setBlock w2 (w.heap.size + 1) (.map es' cl')) (Btw (w.heap.size + 2) w2.heap.size) (plainM (ks.take (k + 1)) l []) es'.toList := by
          rw [plainM_step ks l [] k key x HK.out HX.out, hes']
          exact (hm2.put hksz hr2).keep (fun b hb => setBlock_other _ (by have := hb.1; omega)) (fun _ h => h)
        have hb3 := setBlock_same (w := w2) (b := w.heap.size + 1) (.map es' cl') (by omega)
        have hB4 := setBlock_below (b := w.heap.size + 1) hB3 (by omega) (.map es' cl')
        have hbox3 : (ChangeMaps.setBlock w2 (w.heap.size + 1) (.map es' cl')).cell? ⟨w.heap.size, 5, none⟩ = some (.slice (some ⟨b, o, none⟩) l.length c) :=
          (World.cell?_of_block (setBlock_other _ (by show w.heap.size ≠ _; omega))).trans hbox2
        have hs3 := setBlock_size w2 (w.heap.size + 1) (.map es' cl')
        generalize ChangeMaps.setBlock w2 (w.heap.size + 1) (.map es' cl') = w3 at *
        have HS := Lib.hid hs3
        clear hs3 hbox2 hes2 hm2 hes' hr2 hB3
        go_wp2_with fail
        go_roundw
        case rel => exact ⟨k + 1, hlt, by go_num, ⟨es', cl', hb3, hst', by rw [HS.out]; exact hm3⟩, hbox3, hB4, by rw [HS.out]; omega⟩
        case measure => simp [intOf]; omega
      · go_wp2_with fail
        go_roundw
        case rel => exact ⟨k + 1, hlt, by go_num, ⟨es, cl, hes, hst, by rw [plainM_over _ _ _ _ (by omega)]; exact hm⟩, hbox, hB, hsz⟩
        case measure => simp [intOf]; omega
    · have hkl : k = ks.length := by omega
      subst hkl
      go_wp2_with fail
      go_ret
      rw [List.take_length] at hm
      exact ⟨_, rfl, hB, ⟨by omega, by omega⟩, es, cl, hes, hst, hm.keep (fun _ _ => rfl) (Btw.mono (by omega) (Nat.le_refl _))⟩


theorem PlainMC.use {x : GV} (h : PlainMC x) (w : World) (v : Value) (hv : IsV w (Btw 0 w.heap.size) x v) :
    Calls Try.prog 104 #[v] w fun e w' => ∃ b, e = .returned (.map (some b)) ∧ Below w.heap.size w w' ∧ Btw w.heap.size w'.heap.size b ∧
      IsM w' (Btw w.heap.size w'.heap.size) (plainM x.keys x.l []) b := h w v hv

set_option maxRecDepth 100000 in
theorem plain_scalar (k n : Int) (f : Nat) (s : ByteArray) (ks : List ByteArray) (l : List GV) (hk : k ≠ 5) (hk' : k ≠ 6) : PlainC (.mk k n f s ks l) := by
  intro w v hv
  unfold IsV at hv
  obtain ⟨vk, a, c, rfl, _, hn, hf, hs, _, _, _, _⟩ := hv
  have e5 : (k == 5) = false := by simpa using hk
  have e6 : (k == 6) = false := by simpa using hk'
  by_cases k1 : k = 1
  · subst k1
    go_enter Try.func73, Try.ntmps73
    go_wp2_with fail
    go_ret
    exact ⟨_, rfl, (Below.refl _ _).alloc (Nat.le_refl _) _, by simp [plainJ, IsJ]⟩
  have e1 : (k == 1) = false := by simpa using k1
  by_cases k2 : k = 2
  · subst k2
    go_enter Try.func73, Try.ntmps73
    go_wp2_with fail
    go_ret
    exact ⟨_, rfl, (Below.refl _ _).alloc (Nat.le_refl _) _, by simp [plainJ, IsJ, hn]⟩
  have e2 : (k == 2) = false := by simpa using k2
  by_cases k3 : k = 3
  · subst k3
    go_enter Try.func73, Try.ntmps73
    go_wp2_with fail
    go_ret
    exact ⟨_, rfl, (Below.refl _ _).alloc (Nat.le_refl _) _, by simp [plainJ, IsJ, hf]⟩
  have e3 : (k == 3) = false := by simpa using k3
  by_cases k4 : k = 4
  · subst k4
    go_enter Try.func73, Try.ntmps73
    go_wp2_with fail
    go_ret
    exact ⟨_, rfl, (Below.refl _ _).alloc (Nat.le_refl _) _, by simp [plainJ, IsJ, hs]⟩
  have e4 : (k == 4) = false := by simpa using k4
  have hj : plainJ (.mk k n f s ks l) = .null := by simp [plainJ, k1, k2, k3, k4, hk, hk']
  rw [hj]
  have HJ := Lib.hid hj
  clear hj k1 k2 k3 k4 hk hk'
  go_enter Try.func73, Try.ntmps73
  go_wp2_with fail
  go_ret
  exact ⟨_, rfl, (Below.refl _ _).alloc (Nat.le_refl _) _, by simp [IsJ]⟩

set_option maxRecDepth 100000 in
theorem plain_map (n : Int) (f : Nat) (s : ByteArray) (ks : List ByteArray) (l : List GV) (ih : PlainMC (.mk 6 n f s ks l)) : PlainC (.mk 6 n f s ks l) := by
  intro w v hv
  have hv0 := hv
  unfold IsV at hv
  obtain ⟨vk, a, c, rfl, _, _, _, _, ⟨ak, ck, rfl, _, hkl, _, _⟩, _, _, _⟩ := hv
  have hv1 := IsV.keep (S := Btw 0 w.heap.size) (S' := Btw 0 (w.heap.size + 1)) (w' := w.alloc (.cells #[.int .i64 6, .int .i64 n, .float .f64 f, .string s, .slice ak ks.length ck, .slice a l.length c] 26))
        (fun b hb => Below.heap_alloc _ _ _ hb.2) (Btw.mono (Nat.le_refl _) (by omega)) _ hv0
  clear hv0
  go_enter Try.func73, Try.ntmps73
  go_wp2_with (go_at_call 104; (with_reducible refine (ih.use _ _ (by simpa using hv1)).mono ?_))
  rintro e w2 ⟨b, rfl, hB2, hb, es, cl, hes, hst, hm⟩
  go_wp2_with fail
  go_ret
  refine ⟨_, rfl, ((Below.refl _ _).alloc (Nat.le_refl _) _).trans (hB2.mono (by simp)), ?_⟩
  have hj : plainJ (.mk 6 n f s ks l) = .map (plainM ks l []) := by simp [plainJ]
  rw [hj]
  unfold IsJ
  have hl := plainM_length ks l []
  refine ⟨b, es, cl, rfl, ⟨by have := hb.1; simp at this; omega, hb.2⟩, hes, hst, by simp only [List.length_nil] at hl; unfold maxLen; omega, hm.keep (fun _ _ => rfl) (Btw.mono (by simp) (Nat.le_refl _))⟩

/-- plain makes the value's tree. -/
theorem plain_any : ∀ (x : GV), PlainC x
  | .mk k n f s ks l => by
    have ih : ∀ y ∈ l, PlainC y := fun y hy => plain_any y
    by_cases h5 : k = 5
    · subst h5; exact plain_list n f s ks l ih
    by_cases h6 : k = 6
    · subst h6; exact plain_map n f s ks l (plainMap_any _ ih)
    exact plain_scalar k n f s ks l h5 h6
termination_by x => SizeOf.sizeOf x
decreasing_by
  have := List.sizeOf_lt_of_mem hy
  simp; omega

theorem plainMap_all (x : GV) : PlainMC x := plainMap_any x (fun y _ => plain_any y)

end Go.Proofs.Ytlghpcokbppkfaa
