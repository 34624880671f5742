import Derived.Test.YtlghpcokbppkfaaEngF
import Derived.Test.YtlghpcokbppkfaaFitsP
set_option linter.unusedVariables false
/- Maps of the call's own: plainMap, NewValueInterface, AsMap, Set, Delete, Has. -/
namespace Go.Proofs.Ytlghpcokbppkfaa
open Go.RowKit
set_option linter.unusedSimpArgs false

instance : MTI Try.prog 164 9 20 := ⟨by kernel_rfl, by kernel_rfl, by kernel_rfl⟩
instance : MI Try.prog 205 "AsMap" 186 (some 233) := ⟨by kernel_rfl⟩
instance : MI Try.prog 205 "Unstructured" 196 (some 233) := ⟨by kernel_rfl⟩
instance : MI Try.prog 294 "Set" 216 none := ⟨by kernel_rfl⟩
instance : MI Try.prog 294 "Delete" 206 none := ⟨by kernel_rfl⟩
section
variable {P : Program} {X : Base} {N : Nat} {Q : Exit → Act → World → Prop} {ops : Array Oper} {rem : List Nat} {ks : List Itm} {s s' : Sta}
theorem k_loadBI {d : Nat} {x : Operand} {t k off T n : Nat} {cs : List AV} {g : Bool} {u : TypeId} {y : AV} (hN : Nat.blt d N = true) (hx : s.ev x = .ptr k off) (hk : s.tb k = some (.box T cs)) [ht : VI P t n g] (hf : subA g n off cs = some (.iface u y)) (h : Run P X N Q (.ops ops rem :: ks) (s.put (some d) (.iface u y))) : RunK P X N Q ops rem ks (some d) (.load t x) s := k_of hN (fun _ _ _ hd => op_loadB hd rfl hx hk ht.out hf) h
theorem k_invAB1 (θ : Nat → Nat) {d : Nat} {T e k off T' : Nat} {name : String} {f : FuncId} {c : Operand} {cs : List AV} {y : AV} {n : Nat} {g : Bool} {xs : List Operand} {ts : Array TypeId} {az : List AV} {tbl : List (Nat × Blk)} {out : AV} {tbl' : List (Nat × Blk)} (hN : Nat.blt d N = true) (hi : s.ev c = .iface T (.ptr k off)) [hm : MI P T name f (some e)] [ht : VI P e n g] (hk : s.tb k = some (.box T' cs)) (hfit : subA g n off cs = some y) (hf : callable P f = true)
    (hr : ACall1 P f az tbl out tbl') (hx : y :: xs.map s.ev = renAs θ az) (htb : TbOk s θ tbl) (hok1 : lendOk1 θ az tbl = true) (hfr : FreshOk s θ tbl') (hok : lendOk2 θ tbl tbl' = true) (h : Run P X N Q (.ops ops rem :: ks) ((s.lend θ tbl').put (some d) (renA θ out))) :
    RunK P X N Q ops rem ks (some d) (.call { callee := .invoke c name, args := xs.toArray, argTypes := ts }) s := k_invA θ hN (x := .ptr k off) (by rw [hi]; rfl) (Recv.loadB hm.out hk hfit) hf hr hx htb hok1 (fun _ => hfr) (fun _ => hok) (fun _ => h)
end
theorem unstr_p (j : JV) : PCall Try.prog 196 [.agg [pdJ j]] (pdJ j) := by
  refine pcall_of_run Try.func196 rfl Try.ntmps196 rfl (fun X => ?_)
  repeat' (first
    | refine run_seq ?_
    | (refine k_pick rfl ?_; first | refine k_assignD rfl rfl ?_ | refine k_fieldAddrB rfl rfl rfl ?_ | refine k_loadBD rfl rfl rfl (by first | rfl | (simp only [cellsD]; rfl)) ?_ | refine k_boxW rfl rfl rfl (by first | rfl | (simp only [cellsD]; rfl)) ?_)
    | refine run_opsEnd ?_
    | refine run_region ?_
    | refine run_retOk (resOk_tmp rfl rfl ?_)
    | fail)
  all_goals exact PLe.refl _
theorem set_c (m : List (ByteArray × JV)) (k : ByteArray) (j : JV) (hl : (m.length + 1) * 88 ≤ 140737488351232) : ACall1 Try.prog 216 [.own 1000, .dat (.val (.string k)), .dat (dvV j)] [(1000, .res (mapR m))] (.dat (.tup [])) [(1000, .res (mapR (putA m k j)))] := by
  refine acall_of_run Try.func216 rfl Try.ntmps216 rfl (fun X => ?_)
  repeat' (first
    | (refine k_pick rfl ?_; first | refine k_mapUpdR rfl rfl rfl rfl hl ?_ | refine k_moveD rfl rfl ?_ | refine k_moveO rfl rfl ?_ | refine k_invD rfl rfl rfl (by kernel_rfl) rfl (by first | exact unstr_p _) ?_)
    | refine run_opsEnd ?_
    | refine run_region ?_
    | fail)
  refine run_endA () id (tm := []) ?_ (resA_none rfl)
  (refine ⟨?_, ?_, by rfl⟩ <;> repeat' (first | exact trivial | exact ALe.ptr rfl | exact ALe.own rfl | exact ALe.elt rfl | exact BLe.boxD _ _ | exact BLe.row rfl | exact BLe.res | exact ALe.dat (PLe.refl _) | exact CLe.nil | refine And.intro ?_ ?_ | refine ALe.iface ?_ | refine ALe.clo ?_ | refine CLe.cons ?_ ?_ | refine BLe.box ?_ | refine BLe.row ?_ | exact ALe.any _ | refine ALe.dat (PLe.of_eq ?_)))
theorem delete_c (m : List (ByteArray × JV)) (k : ByteArray) : ACall1 Try.prog 206 [.own 1000, .dat (.val (.string k))] [(1000, .res (mapR m))] (.dat (.tup [])) [(1000, .res (mapR (delA k m)))] := by
  refine acall_of_run Try.func206 rfl Try.ntmps206 rfl (fun X => ?_)
  repeat' (first
    | (refine k_pick rfl ?_; first | refine k_delR rfl rfl rfl ?_ | refine k_moveD rfl rfl ?_ | refine k_moveO rfl rfl ?_)
    | refine run_opsEnd ?_
    | refine run_region ?_
    | fail)
  refine run_endA () id (tm := []) ?_ (resA_none rfl)
  (refine ⟨?_, ?_, by rfl⟩ <;> repeat' (first | exact trivial | exact ALe.ptr rfl | exact ALe.own rfl | exact ALe.elt rfl | exact BLe.boxD _ _ | exact BLe.row rfl | exact BLe.res | exact ALe.dat (PLe.refl _) | exact CLe.nil | refine And.intro ?_ ?_ | refine ALe.iface ?_ | refine ALe.clo ?_ | refine CLe.cons ?_ ?_ | refine BLe.box ?_ | refine BLe.row ?_ | exact ALe.any _ | refine ALe.dat (PLe.of_eq ?_)))
theorem has_p (m : List (ByteArray × JV)) (k : ByteArray) : PCall Try.prog 212 [dvMm m, .val (.string k)] (.val (.bool (lkJ m k).isSome)) := by
  refine pcall_of_run Try.func212 rfl Try.ntmps212 rfl (fun X => ?_)
  cases h : lkJ m k with
  | none =>
    repeat' (first
    | refine run_seq ?_
    | (refine k_pick rfl ?_; first | refine k_assignD rfl rfl ?_ | refine k_moveD rfl rfl ?_ | refine k_extract rfl rfl rfl ?_ | refine k_lookM rfl rfl rfl (by assumption) ?_)
    | refine run_opsEnd ?_
    | refine run_region ?_
    | refine run_retOk (resOk_tmp rfl rfl ?_)
    | fail)
    all_goals exact PLe.refl _
  | some x =>
    repeat' (first
    | refine run_seq ?_
    | (refine k_pick rfl ?_; first | refine k_assignD rfl rfl ?_ | refine k_moveD rfl rfl ?_ | refine k_extract rfl rfl rfl ?_ | refine k_lookM rfl rfl rfl (by assumption) ?_)
    | refine run_opsEnd ?_
    | refine run_region ?_
    | refine run_retOk (resOk_tmp rfl rfl ?_)
    | fail)
    all_goals exact PLe.refl _
theorem allocO_c : ACall1 Try.prog 134 [.ptr 1000 0] [(1000, .box 201 [])] (.ptr 0 0) [(1000, .box 201 []), (0, .box 233 [.dat (.val .nilIface)])] := by
  refine acall_of_run Try.func134 rfl Try.ntmps134 rfl (fun X => ?_)
  repeat' (first
    | refine run_seq ?_
    | (refine k_pick rfl ?_; first | refine k_assignD rfl rfl ?_ | refine k_boxW rfl rfl rfl (by first | rfl | (simp only [cellsD]; rfl)) ?_ | refine k_assignP rfl rfl ?_ | refine k_build rfl rfl rfl ?_)
    | refine run_opsEnd ?_
    | refine run_region ?_
    | fail)
  refine run_retA () (thk [(0, 4)] 0) (tm := [(2, .ptr 0 0)]) ?_ (resA_tmp rfl rfl)
  (refine ⟨?_, ?_, by rfl⟩ <;> repeat' (first | exact trivial | exact ALe.ptr rfl | exact ALe.own rfl | exact ALe.elt rfl | exact BLe.boxD _ _ | exact BLe.row rfl | exact BLe.res | exact ALe.dat (PLe.refl _) | exact CLe.nil | refine And.intro ?_ ?_ | refine ALe.iface ?_ | refine ALe.clo ?_ | refine CLe.cons ?_ ?_ | refine BLe.box ?_ | refine BLe.row ?_ | exact ALe.any _ | refine ALe.dat (PLe.of_eq ?_)))
theorem reuseO_c (T : Nat) (R : Res) : ACall1 Try.prog 135 [.ptr 1000 0, .iface T (.own 1001)] [(1000, .box 233 [.dat (.val .nilIface)]), (1001, .res R)] (.iface 205 (.ptr 1000 0)) [(1000, .box 233 [.iface T (.own 1001)]), (1001, .res R)] := by
  refine acall_of_run Try.func135 rfl Try.ntmps135 rfl (fun X => ?_)
  repeat' (first
    | refine run_seq ?_
    | (refine k_pick rfl ?_; first | refine k_assignD rfl rfl ?_ | refine k_fieldAddrB rfl rfl rfl ?_ | refine k_nilB rfl rfl ?_ | refine k_storeB rfl rfl rfl rfl rfl ?_ | refine k_moveP rfl rfl ?_ | refine k_assignI rfl rfl ?_ | refine k_moveI rfl rfl ?_ | refine k_ifaceP rfl rfl (by kernel_rfl) ?_)
    | refine run_opsEnd ?_
    | refine run_region ?_
    | fail)
  refine run_retA () id (tm := [(4, .iface 205 (.ptr 1000 0))]) ?_ (resA_tmp rfl rfl)
  (refine ⟨?_, ?_, by rfl⟩ <;> repeat' (first | exact trivial | exact ALe.ptr rfl | exact ALe.own rfl | exact ALe.elt rfl | exact BLe.boxD _ _ | exact BLe.row rfl | exact BLe.res | exact ALe.dat (PLe.refl _) | exact CLe.nil | refine And.intro ?_ ?_ | refine ALe.iface ?_ | refine ALe.clo ?_ | refine CLe.cons ?_ ?_ | refine BLe.box ?_ | refine BLe.row ?_ | exact ALe.any _ | refine ALe.dat (PLe.of_eq ?_)))
theorem newVI_c (T : Nat) (R : Res) : ACall1 Try.prog 105 [.iface T (.own 1000)] [(1000, .res R)] (.iface 205 (.ptr 0 0)) [(1000, .res R), (0, .box 233 [.iface T (.own 1000)])] := by
  refine acall_of_run Try.func105 rfl Try.ntmps105 rfl (fun X => ?_)
  repeat' (first
    | refine run_seq ?_
    | (refine k_pick rfl ?_; first | refine k_assignD rfl rfl ?_ | refine k_boxW rfl rfl rfl (by first | rfl | (simp only [cellsD]; rfl)) ?_ | refine k_build rfl rfl rfl ?_ | refine k_acall1 (thk [(1000, _)] 200) rfl (by kernel_rfl) (allocO_c) rfl ⟨rfl, trivial⟩ rfl (freshB_ok rfl) rfl ?_ | refine k_acall1 (thk [(1000, _), (1001, _)] 200) rfl (by kernel_rfl) (reuseO_c T R) rfl ⟨rfl, ⟨rfl, trivial⟩⟩ rfl (freshB_ok rfl) rfl ?_ | refine k_assignI rfl rfl ?_ | refine k_moveI rfl rfl ?_)
    | refine run_opsEnd ?_
    | refine run_region ?_
    | fail)
  refine run_retA () (thk [(0, 200)] 0) (tm := [(2, .iface 205 (.ptr 0 0))]) ?_ (resA_tmp rfl rfl)
  (refine ⟨?_, ?_, by rfl⟩ <;> repeat' (first | exact trivial | exact ALe.ptr rfl | exact ALe.own rfl | exact ALe.elt rfl | exact BLe.boxD _ _ | exact BLe.row rfl | exact BLe.res | exact ALe.dat (PLe.refl _) | exact CLe.nil | refine And.intro ?_ ?_ | refine ALe.iface ?_ | refine ALe.clo ?_ | refine CLe.cons ?_ ?_ | refine BLe.box ?_ | refine BLe.row ?_ | exact ALe.any _ | refine ALe.dat (PLe.of_eq ?_)))
theorem asMapU_c (m : List (ByteArray × JV)) : ACall1 Try.prog 187 [.agg [.iface 164 (.own 1000)], .iface 199 (.ptr 1001 0)] [(1000, .res (mapR m)), (1001, .box 201 [])] (.iface 294 (.own 1000)) [(1000, .res (mapR m)), (1001, .box 201 [])] := by
  refine acall_of_run Try.func187 rfl Try.ntmps187 rfl (fun X => ?_)
  repeat' (first
    | refine run_seq ?_
    | (refine k_pick rfl ?_; first | refine k_loadBI rfl rfl rfl rfl ?_ | refine k_taA rfl rfl (by kernel_rfl) ?_ | refine k_extractO rfl rfl rfl ?_ | refine k_ifaceO rfl rfl (by kernel_rfl) ?_ | refine k_assignD rfl rfl ?_ | refine k_fieldAddrB rfl rfl rfl ?_ | refine k_cmpNilA rfl rfl rfl (by kernel_rfl) (by first | exact NilA.ptr | exact NilA.iface) rfl ?_ | refine k_assignO rfl rfl ?_ | refine k_moveO rfl rfl ?_ | refine k_box rfl rfl rfl ?_ | refine k_assignI rfl rfl ?_ | refine k_extractD rfl rfl rfl ?_)
    | refine run_opsEnd ?_
    | refine run_region ?_
    | refine run_condT rfl (by first | rfl | assumption) ?_
    | refine run_condF rfl (by first | rfl | assumption) ?_
    | refine run_block ?_
    | refine run_skip ?_
    | fail)
  refine run_retA () id (tm := [(4, .iface 294 (.own 1000))]) ?_ (resA_tmp rfl rfl)
  (refine ⟨?_, ?_, by rfl⟩ <;> repeat' (first | exact trivial | exact ALe.ptr rfl | exact ALe.own rfl | exact ALe.elt rfl | exact BLe.boxD _ _ | exact BLe.row rfl | exact BLe.res | exact ALe.dat (PLe.refl _) | exact CLe.nil | refine And.intro ?_ ?_ | refine ALe.iface ?_ | refine ALe.clo ?_ | refine CLe.cons ?_ ?_ | refine BLe.box ?_ | refine BLe.row ?_ | exact ALe.any _ | refine ALe.dat (PLe.of_eq ?_)))
theorem asMapO_c (m : List (ByteArray × JV)) : ACall1 Try.prog 186 [.agg [.iface 164 (.own 1000)]] [(1000, .res (mapR m))] (.iface 294 (.own 1000)) [(1000, .res (mapR m))] := by
  refine acall_of_run Try.func186 rfl Try.ntmps186 rfl (fun X => ?_)
  repeat' (first
    | refine run_seq ?_
    | (refine k_pick rfl ?_; first | refine k_assignD rfl rfl ?_ | refine k_boxW rfl rfl rfl (by first | rfl | (simp only [cellsD]; rfl)) ?_ | refine k_loadBG rfl rfl rfl rfl ?_ | refine k_build rfl rfl rfl ?_ | refine k_box rfl rfl rfl ?_ | refine k_acall1 (thk [(1000, _), (1001, _)] 200) rfl (by kernel_rfl) (asMapU_c m) rfl ⟨rfl, ⟨rfl, trivial⟩⟩ rfl (freshB_ok rfl) rfl ?_ | refine k_assignI rfl rfl ?_ | refine k_ifaceP rfl rfl (by kernel_rfl) ?_)
    | refine run_opsEnd ?_
    | refine run_region ?_
    | fail)
  refine run_retA () id (tm := [(2, .iface 294 (.own 1000))]) ?_ (resA_tmp rfl rfl)
  (refine ⟨?_, ?_, by rfl⟩ <;> repeat' (first | exact trivial | exact ALe.ptr rfl | exact ALe.own rfl | exact ALe.elt rfl | exact BLe.boxD _ _ | exact BLe.row rfl | exact BLe.res | exact ALe.dat (PLe.refl _) | exact CLe.nil | refine And.intro ?_ ?_ | refine ALe.iface ?_ | refine ALe.clo ?_ | refine CLe.cons ?_ ?_ | refine BLe.box ?_ | refine BLe.row ?_ | exact ALe.any _ | refine ALe.dat (PLe.of_eq ?_)))
theorem plainMap_c (x : GV) (hl : x.l.length * 88 ≤ 140737488351232) (hk : x.keys.length ≤ 140737488351232) : ACall1 Try.prog 104 [.dat (qV x)] [] (.own 0) [(0, .res (mapR (plainM x.keys x.l [])))] := by
  have hks := pdS_len x.keys
  have hls := pdVs_len x.l
  refine acall_of_run Try.func104 rfl Try.ntmps104 rfl (fun X => ?_)
  repeat' (first
    | refine run_seq ?_
    | (refine k_pick rfl ?_; first | refine k_makeMapR rfl rfl ?_ | refine k_assignD rfl rfl ?_ | refine k_moveD rfl rfl ?_ | refine k_fieldAddrB rfl rfl rfl ?_ | refine k_loadBD rfl rfl rfl (by first | rfl | (simp only [cellsD]; rfl)) ?_ | refine k_boxW rfl rfl rfl (by first | rfl | (simp only [cellsD]; rfl)) ?_ | refine k_lenD rfl rfl ?_ | refine k_assignO rfl rfl ?_)
    | refine run_opsEnd ?_
    | refine run_region ?_
    | refine run_block ?_
    | fail)
  refine run_loopS (ι := { j : Nat // j ≤ x.keys.length })
    (fun j => [(1, .ptr 1 0), (3, .own 6), (8, .dat (.sl 1 16 (pdS x.keys))), (9, .dat (.val (.int .i64 ((pdS x.keys).length : Nat)))), (10, .dat (.val (.int .i64 (j.1 : Nat))))])
    (fun j => [(1, .box 26 (cellsD (qV x))), (6, .res (mapR (plainM (x.keys.take j.1) x.l [])))]) (fun j => x.keys.length - j.1) ⟨0, Nat.zero_le _⟩ id ?_ ?_
  · (refine ⟨?_, ?_, by rfl⟩ <;> repeat' (first | exact trivial | exact ALe.ptr rfl | exact ALe.own rfl | exact ALe.elt rfl | exact BLe.boxD _ _ | exact BLe.row rfl | exact BLe.res | exact ALe.dat (PLe.refl _) | exact CLe.nil | refine And.intro ?_ ?_ | refine ALe.iface ?_ | refine ALe.clo ?_ | refine CLe.cons ?_ ?_ | refine BLe.box ?_ | refine BLe.row ?_ | exact ALe.any _ | refine ALe.dat (PLe.of_eq ?_)))
    all_goals (simp only [List.take_zero, plainM]; exact BLe.res)
  rintro ⟨j, hj⟩
  by_cases hlt : j < x.keys.length
  · have hc : decide ((j : Int) < (((pdS x.keys).length : Nat) : Int)) = true := by rw [hks]; simpa using hlt
    obtain ⟨k, hkk⟩ : ∃ k, x.keys[j]? = some k := ⟨_, List.getElem?_eq_getElem hlt⟩
    have i1 : (pdS x.keys)[((j : Nat) : Int).toNat]? = some (.val (.string k)) := pdS_at hkk
    by_cases hjl : j < x.l.length
    · have hc2 : decide ((j : Int) < (((pdVs x.l).length : Nat) : Int)) = true := by rw [hls]; simpa using hjl
      obtain ⟨y, hy⟩ : ∃ y, x.l[j]? = some y := ⟨_, List.getElem?_eq_getElem hjl⟩
      have i2 : (pdVs x.l)[((j : Nat) : Int).toNat]? = some (qV y) := by rw [show qV y = pdV y from (pdV_eq y).symm]; exact pdVs_at hy
      have hC := plain_p y
      rw [pdV_eq] at hC
      have hC : PCall Try.prog 73 [qV y] (pdJ (plainJ y)) := hC
      have hm := plainM_length (x.keys.take j) x.l []
      have e := plainM_step x.keys x.l [] j k y hkk hy
      have hb : ((plainM (x.keys.take j) x.l []).length + 1) * 88 ≤ 140737488351232 := by
        have : (x.keys.take j).length ≤ j := by simp; omega
        simp only [List.length_nil] at hm
        omega
      repeat' (first
    | refine run_seq ?_
    | (refine k_pick rfl ?_; first | refine k_indexAddrD rfl rfl rfl (by first | omega | (dsimp only; omega)) (by assumption) ?_ | refine k_mapUpdR rfl rfl rfl rfl hb ?_ | refine k_assignD rfl rfl ?_ | refine k_moveD rfl rfl ?_ | refine k_fieldAddrB rfl rfl rfl ?_ | refine k_loadBD rfl rfl rfl (by first | rfl | (simp only [cellsD]; rfl)) ?_ | refine k_bin2B rfl rfl rfl rfl ?_ | refine k_call rfl (by kernel_rfl) rfl (by first | exact hC) ?_ | refine k_lenD rfl rfl ?_ | refine k_ariI rfl rfl rfl rfl (by first | omega | (dsimp only; omega)) ?_ | refine k_loadD rfl rfl (by first | rfl | (simp only [cellsD]; rfl)) ?_ | refine k_moveO rfl rfl ?_)
    | refine run_opsEnd ?_
    | refine run_region ?_
    | refine run_condT rfl (by first | rfl | assumption) ?_
    | refine run_block ?_
    | refine run_blkEnd ?_
    | refine run_skip ?_
    | fail)
      refine run_again ?_
      refine ⟨⟨j + 1, by omega⟩, id, by simp only; omega, ?_⟩
      (refine ⟨?_, ?_, by rfl⟩ <;> repeat' (first | exact trivial | exact ALe.ptr rfl | exact ALe.own rfl | exact ALe.elt rfl | exact BLe.boxD _ _ | exact BLe.row rfl | exact BLe.res | exact ALe.dat (PLe.refl _) | exact CLe.nil | refine And.intro ?_ ?_ | refine ALe.iface ?_ | refine ALe.clo ?_ | refine CLe.cons ?_ ?_ | refine BLe.box ?_ | refine BLe.row ?_ | exact ALe.any _ | refine ALe.dat (PLe.of_eq ?_)))
      all_goals (simp only [e]; exact BLe.res)
    · have hc2 : decide ((j : Int) < (((pdVs x.l).length : Nat) : Int)) = false := by rw [hls]; simpa using hjl
      have e := plainM_over x.keys x.l [] j (by omega)
      repeat' (first
    | refine run_seq ?_
    | (refine k_pick rfl ?_; first | refine k_indexAddrD rfl rfl rfl (by first | omega | (dsimp only; omega)) (by assumption) ?_ | refine k_assignD rfl rfl ?_ | refine k_moveD rfl rfl ?_ | refine k_fieldAddrB rfl rfl rfl ?_ | refine k_loadBD rfl rfl rfl (by first | rfl | (simp only [cellsD]; rfl)) ?_ | refine k_bin2B rfl rfl rfl rfl ?_ | refine k_lenD rfl rfl ?_ | refine k_ariI rfl rfl rfl rfl (by first | omega | (dsimp only; omega)) ?_ | refine k_loadD rfl rfl (by first | rfl | (simp only [cellsD]; rfl)) ?_)
    | refine run_opsEnd ?_
    | refine run_region ?_
    | refine run_condT rfl (by first | rfl | assumption) ?_
    | refine run_condF rfl (by first | rfl | assumption) ?_
    | refine run_block ?_
    | refine run_blkEnd ?_
    | refine run_skip ?_
    | fail)
      refine run_again ?_
      refine ⟨⟨j + 1, by omega⟩, id, by simp only; omega, ?_⟩
      (refine ⟨?_, ?_, by rfl⟩ <;> repeat' (first | exact trivial | exact ALe.ptr rfl | exact ALe.own rfl | exact ALe.elt rfl | exact BLe.boxD _ _ | exact BLe.row rfl | exact BLe.res | exact ALe.dat (PLe.refl _) | exact CLe.nil | refine And.intro ?_ ?_ | refine ALe.iface ?_ | refine ALe.clo ?_ | refine CLe.cons ?_ ?_ | refine BLe.box ?_ | refine BLe.row ?_ | exact ALe.any _ | refine ALe.dat (PLe.of_eq ?_)))
      all_goals (simp only [e]; exact BLe.res)
  · have hc : decide ((j : Int) < (((pdS x.keys).length : Nat) : Int)) = false := by rw [hks]; simpa using hlt
    have e : x.keys.take j = x.keys := List.take_of_length_le (by omega)
    repeat' (first
    | refine run_seq ?_
    | (refine k_pick rfl ?_; first | refine k_bin2B rfl rfl rfl rfl ?_ | refine k_assignO rfl rfl ?_ | refine k_moveO rfl rfl ?_)
    | refine run_opsEnd ?_
    | refine run_region ?_
    | refine run_condF rfl (by first | rfl | assumption) ?_
    | refine run_exit rfl ?_
    | fail)
    refine run_retA () (thk [(0, 6)] 0) (tm := [(2, .own 0)]) ?_ (resA_tmp rfl rfl)
    (refine ⟨?_, ?_, by rfl⟩ <;> repeat' (first | exact trivial | exact ALe.ptr rfl | exact ALe.own rfl | exact ALe.elt rfl | exact BLe.boxD _ _ | exact BLe.row rfl | exact BLe.res | exact ALe.dat (PLe.refl _) | exact CLe.nil | refine And.intro ?_ ?_ | refine ALe.iface ?_ | refine ALe.clo ?_ | refine CLe.cons ?_ ?_ | refine BLe.box ?_ | refine BLe.row ?_ | exact ALe.any _ | refine ALe.dat (PLe.of_eq ?_)))
    all_goals (simp only [e]; exact BLe.res)
theorem toMapping_c (x : GV) (hl : x.l.length * 88 ≤ 140737488351232) (hk : x.keys.length ≤ 140737488351232) : ACall1 Try.prog 103 [.dat (qV x)] [] (.iface 294 (.own 0)) [(0, .res (mapR (plainM x.keys x.l [])))] := by
  have c1 := plainMap_c x hl hk
  have c2 := newVI_c 164 (mapR (plainM x.keys x.l []))
  have c3 := asMapO_c (plainM x.keys x.l [])
  generalize plainM x.keys x.l [] = m at *
  refine acall_of_run Try.func103 rfl Try.ntmps103 rfl (fun X => ?_)
  repeat' (first
    | refine run_seq ?_
    | (refine k_pick rfl ?_; first | refine k_ifaceO rfl rfl (by kernel_rfl) ?_ | refine k_invAB1 (thk [(1000, _)] 200) rfl rfl rfl rfl (by kernel_rfl) c3 rfl ⟨rfl, trivial⟩ rfl (freshB_ok rfl) rfl ?_ | refine k_assignD rfl rfl ?_ | refine k_loadW rfl rfl rfl (by first | rfl | (simp only [cellsD]; rfl)) ?_ | refine k_boxW rfl rfl rfl (by first | rfl | (simp only [cellsD]; rfl)) ?_ | refine k_acall1 (thk [] 200) rfl (by kernel_rfl) (c1) rfl trivial rfl (freshB_ok rfl) rfl ?_ | refine k_acall1 (thk [(1000, _)] 350) rfl (by kernel_rfl) (c2) rfl ⟨rfl, trivial⟩ rfl (freshB_ok rfl) rfl ?_ | refine k_assignI rfl rfl ?_)
    | refine run_opsEnd ?_
    | refine run_region ?_
    | fail)
  refine run_retA () (thk [(0, 200)] 0) (tm := [(2, .iface 294 (.own 0))]) ?_ (resA_tmp rfl rfl)
  (refine ⟨?_, ?_, by rfl⟩ <;> repeat' (first | exact trivial | exact ALe.ptr rfl | exact ALe.own rfl | exact ALe.elt rfl | exact BLe.boxD _ _ | exact BLe.row rfl | exact BLe.res | exact ALe.dat (PLe.refl _) | exact CLe.nil | refine And.intro ?_ ?_ | refine ALe.iface ?_ | refine ALe.clo ?_ | refine CLe.cons ?_ ?_ | refine BLe.box ?_ | refine BLe.row ?_ | exact ALe.any _ | refine ALe.dat (PLe.of_eq ?_)))
end Go.Proofs.Ytlghpcokbppkfaa
