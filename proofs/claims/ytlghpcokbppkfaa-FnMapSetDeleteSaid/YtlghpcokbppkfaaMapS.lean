import Derived.Test.YtlghpcokbppkfaaMapO
import Derived.Test.YtlghpcokbppkfaaSameB
import Derived.Test.YtlghpcokbppkfaaIdem
import Derived.Test.YtlghpcokbppkfaaPlainL
set_option linter.unusedVariables false
/- impl.MapSet, MapDelete, MapHas; what they come to. -/
namespace Go.Proofs.Ytlghpcokbppkfaa
open Go.RowKit
set_option linter.unusedSimpArgs false

section
variable {P : Program} {X : Base} {N : Nat} {Q : Exit → Act → World → Prop} {s s' : Sta}
/-- In a drawn region: one block lent, and one that is new. -/
theorem d_acallN (θ : Nat → Nat) {ops : List Oper} {d f k kn : Nat} {xs : List Operand} {ts : Array TypeId} {az : List AV} {b b2 : Blk} {out : AV} (hN : Nat.blt d N = true) (hf : callable P f = true) (hr : ACall1 P f az [(1000, b)] out [(1000, b), (0, b2)]) (hx : xs.map s.ev = renAs θ az) (hk : θ 1000 = k) (hkn : θ 0 = kn) (hne : Nat.beq k kn = false) (hlt : Nat.blt kn 1000 = true)
    (htb : s.tb k = some (renB θ b)) (hn : s.tb kn = none) (hin : (keysAs (renAs θ az)).contains k = true) (hok1 : lendOk1 θ az [(1000, b)] = true) (hok : lendOk2 θ [(1000, b)] [(1000, b), (0, b2)] = true) :
    TrK P X N ops (some d) (.call { callee := .value (.func f), args := xs.toArray, argTypes := ts }) ⟨none, some (kn, renB θ b2), some (d, renA θ out)⟩ s ((s.set kn (renB θ b2)).put (some d) (renA θ out)) := ⟨fun hX ty pos aft g s' hA => by
  have hev : xs.map s'.ev = renAs θ az := by rw [map_alike (fun x hx => ev_alike hA (by simp [Op.operands, Call.operands, hx]))]; exact hx
  have hkk : ∃ x ∈ xs, k ∈ keysA (s.ev x) := by
    rw [← hx] at hin
    exact keysAs_map (by simpa using hin)
  obtain ⟨x, hxm, hkx⟩ := hkk
  have htb' : s'.tb k = some (renB θ b) := (tb_alike hA (by simp [Op.operands, Call.operands, hxm]) hkx).trans htb
  have hn' : s'.tb kn = none := (new_alike hA rfl).trans hn
  have hne' : k ≠ kn := fun e => by rw [e] at hne; simp at hne
  intro a w ⟨ρ, hc⟩ K Q hK
  have hcall := hc.acall hX.2 θ hr (by refine ⟨?_, trivial⟩; rw [hk]; exact htb') (fun _ => ⟨.inl rfl, .inr ⟨by rw [hkn]; exact hn', by rw [hkn]; exact hlt⟩, trivial⟩) hok1 (fun _ => hok) (vs := xs.map a.eval) (by rw [← hev]; exact VRs_args hc rfl)
  refine run_enter hf (vs := xs.map a.eval) (by simp [execOp, resolve, Deferred.ofValue, Act.eval, invoke, run_callFunc hf]) (R := fun v w' => ∃ ρ', ConcAt X (s'.lend θ [(1000, b), (0, b2)]) a w' ρ' ∧ VR w' (FF X w' (s'.lend θ [(1000, b), (0, b2)]).tb ρ') (s'.lend θ [(1000, b), (0, b2)]).tb ρ' (renA θ out) v) (hcall.mono ?_) ?_
  · rintro e w' ⟨v, i, ρ', he, h1, h2⟩
    exact ⟨v, he, ρ', h1, h2⟩
  · rintro v w' ⟨ρ', h1, h2⟩
    have e : s'.lend θ [(1000, b), (0, b2)] = s'.set kn (renB θ b2) := by
      unfold Sta.lend Sta.set
      congr 1
      funext i
      simp only [mergeT, hk, hkn]
      by_cases h1 : i = k
      · subst h1; rw [upd_same, upd_ne _ _ hne', htb']
      · rw [upd_ne _ _ h1]
    rw [e] at h1 h2
    exact hK _ _ ⟨ρ', h1.putO (d := some d) (hN_ok hN hX) h2⟩, rfl⟩
/-- In a drawn region: a method to which one block is lent. -/
theorem d_invSB (θ : Nat → Nat) {ops : List Oper} {d k : Nat} {T : TypeId} {name : String} {f : FuncId} {c : Operand} {x : AV} {xs : List Operand} {ts : Array TypeId} {az : List AV} {b b' : Blk} {out : AV} (hN : Nat.blt d N = true) (hi : ifcA (s.ev c) = some (T, x)) [hm : MI P T name f none] (hf : callable P f = true) (hr : ACall1 P f az [(1000, b)] out [(1000, b')]) (hx : x :: xs.map s.ev = renAs θ az) (hk : θ 1000 = k)
    (htb : s.tb k = some (renB θ b)) (hok1 : lendOk1 θ az [(1000, b)] = true) (hok : lendOk2 θ [(1000, b)] [(1000, b')] = true) :
    TrK P X N ops (some d) (.call { callee := .invoke c name, args := xs.toArray, argTypes := ts }) ⟨none, some (k, renB θ b'), some (d, renA θ out)⟩ s ((s.set k (renB θ b')).put (some d) (renA θ out)) := ⟨fun hX ty pos aft g s' hA => by
  have hev : x :: xs.map s'.ev = renAs θ az := by rw [map_alike (fun x hx => ev_alike hA (by simp [Op.operands, Call.operands, hx]))]; exact hx
  have htb' : s'.tb k = some (renB θ b) := (new_alike hA rfl).trans htb
  have hi' : ifcA (s'.ev c) = some (T, x) := by rw [ev_alike hA (by simp [Op.operands, Call.operands])]; exact hi
  intro a w ⟨ρ, hc⟩ K Q hK
  obtain ⟨vs, hv, he⟩ := inv_enter (o := ⟨some d, .call { callee := .invoke c name, args := xs.toArray, argTypes := ts }, ty, pos, aft, g⟩) rfl hi' (Recv.same hm.out) hf hc
  have hcall := hc.acall hX.2 θ hr (by refine ⟨?_, trivial⟩; rw [hk]; exact htb') (fun _ => ⟨.inl rfl, trivial⟩) hok1 (fun _ => hok) (vs := vs) (by rw [← hev]; exact hv)
  refine run_enter hf he (R := fun v w' => ∃ ρ', ConcAt X (s'.lend θ [(1000, b')]) a w' ρ' ∧ VR w' (FF X w' (s'.lend θ [(1000, b')]).tb ρ') (s'.lend θ [(1000, b')]).tb ρ' (renA θ out) v) (hcall.mono ?_) ?_
  · rintro e w' ⟨v, i, ρ', he, h1, h2⟩
    exact ⟨v, he, ρ', h1, h2⟩
  · rintro v w' ⟨ρ', h1, h2⟩
    have e : s'.lend θ [(1000, b')] = s'.set k (renB θ b') := by subst hk; rfl
    rw [e] at h1 h2
    exact hK _ _ ⟨ρ', h1.putO (d := some d) (hN_ok hN hX) h2⟩, rfl⟩
/-- The same, the receiver being loaded out of a variable of the call's own. -/
theorem d_invAB (θ : Nat → Nat) {ops : List Oper} {d k kb off T' : Nat} {T e : Nat} {name : String} {f : FuncId} {c : Operand} {cs : List AV} {y : AV} {n : Nat} {g : Bool} {xs : List Operand} {ts : Array TypeId} {az : List AV} {b b' : Blk} {out : AV} (hN : Nat.blt d N = true) (hi : s.ev c = .iface T (.ptr kb off)) [hm : MI P T name f (some e)] [ht : VI P e n g] (hkb : s.tb kb = some (.box T' cs)) (hfit : subA g n off cs = some y) (hf : callable P f = true) (hr : ACall1 P f az [(1000, b)] out [(1000, b')]) (hx : y :: xs.map s.ev = renAs θ az) (hk : θ 1000 = k)
    (htb : s.tb k = some (renB θ b)) (hok1 : lendOk1 θ az [(1000, b)] = true) (hok : lendOk2 θ [(1000, b)] [(1000, b')] = true) :
    TrK P X N ops (some d) (.call { callee := .invoke c name, args := xs.toArray, argTypes := ts }) ⟨none, some (k, renB θ b'), some (d, renA θ out)⟩ s ((s.set k (renB θ b')).put (some d) (renA θ out)) := ⟨fun hX ty pos aft g s' hA => by
  have hev : y :: xs.map s'.ev = renAs θ az := by rw [map_alike (fun x hx => ev_alike hA (by simp [Op.operands, Call.operands, hx]))]; exact hx
  have htb' : s'.tb k = some (renB θ b) := (new_alike hA rfl).trans htb
  have hi0 : s'.ev c = .iface T (.ptr kb off) := by rw [ev_alike hA (by simp [Op.operands, Call.operands])]; exact hi
  have hkb' : s'.tb kb = some (.box T' cs) := (tb_alike hA (x := c) (by simp [Op.operands, Call.operands]) (by rw [hi]; simp [keysA])).trans hkb
  intro a w ⟨ρ, hc⟩ K Q hK
  obtain ⟨vs, hv, he⟩ := inv_enter (o := ⟨some d, .call { callee := .invoke c name, args := xs.toArray, argTypes := ts }, ty, pos, aft, g⟩) rfl (x := .ptr kb off) (by rw [hi0]; rfl) (Recv.loadB hm.out hkb' hfit) hf hc
  have hcall := hc.acall hX.2 θ hr (by refine ⟨?_, trivial⟩; rw [hk]; exact htb') (fun _ => ⟨.inl rfl, trivial⟩) hok1 (fun _ => hok) (vs := vs) (by rw [← hev]; exact hv)
  refine run_enter hf he (R := fun v w' => ∃ ρ', ConcAt X (s'.lend θ [(1000, b')]) a w' ρ' ∧ VR w' (FF X w' (s'.lend θ [(1000, b')]).tb ρ') (s'.lend θ [(1000, b')]).tb ρ' (renA θ out) v) (hcall.mono ?_) ?_
  · rintro e w' ⟨v, i, ρ', he, h1, h2⟩
    exact ⟨v, he, ρ', h1, h2⟩
  · rintro v w' ⟨ρ', h1, h2⟩
    have e : s'.lend θ [(1000, b')] = s'.set k (renB θ b') := by subst hk; rfl
    rw [e] at h1 h2
    exact hK _ _ ⟨ρ', h1.putO (d := some d) (hN_ok hN hX) h2⟩, rfl⟩
end

theorem fromTreeM_p (m : List (ByteArray × JV)) : PCall Try.prog 90 [.iface 164 (dvMm m)] (qV (unJ (.map m))) := by
  refine (fromTree_p (.map m)).le (fun w F vs hv => Reps.cons1 ?_ hv)
  intro w F v h
  unfold Rep at h
  obtain ⟨u, rfl, h⟩ := h
  unfold dvMm Rep at h
  obtain ⟨b, es, cl, rfl, h1, h2, h3, h4, h5, h6⟩ := h
  unfold pdJ Rep
  refine ⟨?_, h6⟩
  unfold IsJ
  exact ⟨b, es, cl, rfl, h1, h2, h3, h4, h5⟩
theorem mapHas_p (x : GV) (k : ByteArray) (hl : x.l.length * 88 ≤ 140737488351232) (hk : x.keys.length ≤ 140737488351232) : PCall Try.prog 56 [qV x, .val (.string k)] (.val (.bool (lkJ (plainM x.keys x.l []) k).isSome)) := by
  have c1 := toMapping_c x hl hk
  have c2 := has_p (plainM x.keys x.l []) k
  generalize plainM x.keys x.l [] = m at *
  refine pcall_of_run Try.func56 rfl Try.ntmps56 rfl (fun X => ?_)
  repeat' (first
    | refine run_seq ?_
    | (refine k_pick rfl ?_; first | refine k_invZ gV rfl rfl (Recv.same (MI.out)) (by kernel_rfl) rfl c2 Flat.val ?_ | refine k_assignD rfl rfl ?_ | refine k_moveD rfl rfl ?_ | refine k_loadW rfl rfl rfl (by first | rfl | (simp only [cellsD]; rfl)) ?_ | refine k_boxW rfl rfl rfl (by first | rfl | (simp only [cellsD]; rfl)) ?_ | refine k_acall1 (thk [] 200) rfl (by kernel_rfl) (c1) rfl trivial rfl (freshB_ok rfl) rfl ?_)
    | refine run_opsEnd ?_
    | refine run_region ?_
    | refine run_retOk (resOk_tmp rfl rfl ?_)
    | fail)
  all_goals exact PLe.refl _
theorem mapDel_p (x : GV) (k : ByteArray) (hl : x.l.length * 88 ≤ 140737488351232) (hk : x.keys.length ≤ 140737488351232) : PCall Try.prog 55 [qV x, .val (.string k)] (qV (unJ (.map (delA k (plainM x.keys x.l []))))) := by
  have c1 := plainMap_c x hl hk
  have c2 := newVI_c 164 (mapR (plainM x.keys x.l []))
  have c3 := asMapO_c (plainM x.keys x.l [])
  have c4 := delete_c (plainM x.keys x.l []) k
  have c5 := fromTreeM_p (delA k (plainM x.keys x.l []))
  generalize delA k (plainM x.keys x.l []) = m' at *
  generalize plainM x.keys x.l [] = m at *
  refine pcall_of_run Try.func55 rfl Try.ntmps55 rfl (fun X => ?_)
  repeat' (first
    | (show Run _ _ _ _ (Itm.code (Code.region 3 _ _) :: _) _; refine run_hold ?_)
    | refine run_seq ?_
    | (refine k_pick rfl ?_; first | refine k_ifaceO rfl rfl (by kernel_rfl) ?_ | refine k_invAB1 (thk [(1000, _)] 200) rfl rfl rfl rfl (by kernel_rfl) c3 rfl ⟨rfl, trivial⟩ rfl (freshB_ok rfl) rfl ?_ | refine k_moveD rfl rfl ?_ | refine k_loadW rfl rfl rfl (by first | rfl | (simp only [cellsD]; rfl)) ?_ | refine k_boxW rfl rfl rfl (by first | rfl | (simp only [cellsD]; rfl)) ?_ | refine k_alloc rfl rfl ?_ | refine k_assignO rfl rfl ?_ | refine k_moveO rfl rfl ?_ | refine k_acall1 (thk [] 200) rfl (by kernel_rfl) (c1) rfl trivial rfl (freshB_ok rfl) rfl ?_ | refine k_acall1 (thk [(1000, _)] 350) rfl (by kernel_rfl) (c2) rfl ⟨rfl, trivial⟩ rfl (freshB_ok rfl) rfl ?_ | refine k_invAS1 (thk [(1000, _)] 200) rfl rfl (by kernel_rfl) (c4) rfl ⟨rfl, trivial⟩ rfl (freshB_ok rfl) rfl ?_)
    | refine run_opsEnd ?_
    | refine run_region ?_
    | fail)
  refine ⟨?_⟩
  refine run_frz (fun _ => false) (fun k => Nat.beq k 200) ?_
  generalize unJ (.map m') = R at *
  repeat' (first
    | (refine k_pick rfl ?_; first | refine k_moveD rfl rfl ?_ | refine k_call rfl (by kernel_rfl) rfl (by first | exact c5) ?_ | refine k_storeW rfl rfl rfl (by first | rfl | (simp only [cellsD]; rfl)) (by first | rfl | (simp only [cellsD]; rfl)) rfl ?_ | refine k_iface rfl rfl (by kernel_rfl) ?_)
    | refine run_opsEnd ?_
    | refine run_region ?_
    | refine run_retOk (resOk_cell rfl rfl rfl (by first | rfl | (simp only [cellsD]; rfl)) ?_)
    | fail)
  all_goals exact PLe.refl _
theorem mapSet_p (x : GV) (k : ByteArray) (v : GV) (hl : x.l.length * 88 ≤ 140737488351232) (hk : x.keys.length ≤ 140737488351232) (hb : ((plainM x.keys x.l []).length + 1) * 88 ≤ 140737488351232) : PCall Try.prog 54 [qV x, .val (.string k), qV v] (qV (unJ (.map (putA (plainM x.keys x.l []) k (plainJ v))))) := by
  have c1 := plainMap_c x hl hk
  have c2 := newVI_c 164 (mapR (plainM x.keys x.l []))
  have c3 := asMapO_c (plainM x.keys x.l [])
  have c4 := set_c (plainM x.keys x.l []) k (plainJ v) hb
  have c5 := fromTreeM_p (putA (plainM x.keys x.l []) k (plainJ v))
  have c6 := toValue_p v
  generalize putA (plainM x.keys x.l []) k (plainJ v) = m' at *
  generalize plainM x.keys x.l [] = m at *
  refine pcall_of_run Try.func54 rfl Try.ntmps54 rfl (fun X => ?_)
  repeat' (first
    | (show Run _ _ _ _ (Itm.code (Code.region 3 _ _) :: _) _; refine run_hold ?_)
    | refine run_seq ?_
    | (refine k_pick rfl ?_; first | refine k_loadW rfl rfl rfl (by first | rfl | (simp only [cellsD]; rfl)) ?_ | refine k_boxW rfl rfl rfl (by first | rfl | (simp only [cellsD]; rfl)) ?_ | refine k_alloc rfl rfl ?_ | refine k_assignO rfl rfl ?_ | refine k_acall1 (thk [] 200) rfl (by kernel_rfl) (c1) rfl trivial rfl (freshB_ok rfl) rfl ?_)
    | refine run_opsEnd ?_
    | refine run_region ?_
    | refine run_drawC (by kernel_rfl) ?_
    | refine c_nil (And.intro (by kernel_rfl) ?_)
    | refine c_pick (d_ifaceO rfl rfl (by kernel_rfl)) ?_
    | refine c_pick (d_acallN (thk [(1000, _)] 300) rfl (by kernel_rfl) c2 rfl rfl rfl rfl rfl rfl rfl rfl rfl rfl) ?_
    | refine c_pick (d_invAB (thk [(1000, _)] 300) rfl rfl rfl rfl (by kernel_rfl) c3 rfl rfl rfl rfl rfl) ?_
    | refine c_pick (d_invSB (thk [(1000, _)] 300) rfl rfl (by kernel_rfl) c4 rfl rfl rfl rfl rfl) ?_
    | refine c_pick (d_methV rfl rfl rfl) ?_
    | refine c_pick (d_nilM rfl rfl) ?_
    | refine c_pick (d_moveD rfl rfl) ?_
    | refine c_pick (d_loadW rfl rfl rfl (by first | rfl | (simp only [cellsD]; rfl))) ?_
    | refine c_pick (d_call rfl (by kernel_rfl) rfl (by first | exact c6)) ?_
    | refine c_pick (d_moveO rfl rfl) ?_
    | refine c_pick (d_moveI rfl rfl) ?_
    | fail)
  refine ⟨?_⟩
  refine run_frz (fun _ => false) (fun k => Nat.beq k 200) ?_
  generalize unJ (.map m') = R at *
  repeat' (first
    | (refine k_pick rfl ?_; first | refine k_moveD rfl rfl ?_ | refine k_call rfl (by kernel_rfl) rfl (by first | exact c5) ?_ | refine k_storeW rfl rfl rfl (by first | rfl | (simp only [cellsD]; rfl)) (by first | rfl | (simp only [cellsD]; rfl)) rfl ?_ | refine k_iface rfl rfl (by kernel_rfl) ?_)
    | refine run_opsEnd ?_
    | refine run_region ?_
    | refine run_retOk (resOk_cell rfl rfl rfl (by first | rfl | (simp only [cellsD]; rfl)) ?_)
    | fail)
  all_goals exact PLe.refl _
end Go.Proofs.Ytlghpcokbppkfaa
