/- Part 6 of what the proof rests on. -/
import Derived.Deep.QuietTactic
import Derived.BigQuiet
import Derived.Maps.AppendAt
import Derived.Deep.AppendLies
import Derived.Deep.Draws
import Derived.RegionTactic
import Derived.Lib.Bytealg
import Derived.Test.YtgmahieoiifpfaaGreatSmR1
import Derived.Test.YtgmahieoiifpfaaGreatSmR4
import Derived.Test.YtgmahieoiifpfaaGreatSmR5
section
set_option linter.unusedVariables false
namespace Go.Proofs.YtgmahieoiifpfaaGreat
open Go.RowKit
section
variable {P : Program} {X : Base} {N : Nat} {ops r : List Oper} {s s1 : Sta} {K : List Eff → Sta → Prop}
structure TrX (P : Program) (X : Base) (N : Nat) (ops : List Oper) (d : Option Tmp) (op : Op) (r : List Oper) (s : Sta) (K : List Eff → Sta → Prop) : Prop where
  out : ∃ e s1, TrK P X N ops d op e s s1 ∧ TrC P X N ops r s1 (fun es s' => K (e :: es) s')
theorem x_of {d : Option Tmp} {op : Op} {e : Eff} (hk : TrK P X N ops d op e s s1) (h : TrC P X N ops r s1 (fun es s' => K (e :: es) s')) : TrX P X N ops d op r s K := ⟨e, s1, hk, h⟩
theorem x_pick {d : Option Tmp} {op : Op} {ty : TypeId} {pos : String} {aft : Array Edge} (h : TrX P X N ops d op r s K) : TrC P X N ops (⟨d, op, ty, pos, aft, none⟩ :: r) s K := by
  obtain ⟨e, s1, h1, h2⟩ := h.out
  exact c_pick h1 h2
theorem x_pickY {d : Option Tmp} {op : Op} {ty : TypeId} {pos : String} {aft : Array Edge} {g : Nat} {want b : Bool} (hb : gA ops s g = .dat (.val (.bool b))) (hw : b = want) (h : TrX P X N ops d op r s K) : TrC P X N ops (⟨d, op, ty, pos, aft, some (g, want)⟩ :: r) s K := by
  obtain ⟨e, s1, h1, h2⟩ := h.out
  exact c_pickY hb hw h1 h2
theorem d_sliceZ {d : Nat} {x : Operand} {lo hi : Option Operand} {t e n y y' : Nat} {l : List PD} {a b : Int} (hN : Nat.blt d N = true) (hx : s.ev x = .dat (.sl n y l)) [ht : SI P t e n y'] (hlo : bndA s lo 0 = some a) (hhi : bndA s hi l.length = some b) (h0 : 0 ≤ a) (hab : a ≤ b) (hbl : b ≤ l.length) : TrK P X N ops (some d) (.slice t x lo hi none) (Eff.put (some d) (.dat (.sl n y ((l.take b.toNat).drop a.toNat)))) s (s.put (some d) (.dat (.sl n y ((l.take b.toNat).drop a.toNat)))) := by
  obtain ⟨a, rfl⟩ := Int.eq_ofNat_of_zero_le h0
  obtain ⟨b, rfl⟩ := Int.eq_ofNat_of_zero_le (by omega : 0 ≤ b)
  exact d_sliceD hN hx hlo hhi (by omega) (by omega)
structure Box (G : Prop) : Prop where
  out : G
/-- A mark: the walk stops ahead of regions that draw their order, and of new variables. -/
structure NoDraw : Prop where
  out : True
end
section
variable {P : Program} {X : Base} {N : Nat} {Q : Exit → Act → World → Prop} {ops : Array Oper} {rem : List Nat} {ks : List Itm} {opl : List Oper} {s s' : Sta} {t k off T : Nat} {x y : Operand} {cs cs' : List AV} {g : Bool} {v : AV}
theorem op_minW {o : Oper} (hd : dstOk X.N o.dst = true) {x y : Operand} {ts : Array TypeId} (ho : o.op = .call { callee := .builtin .min, args := #[x, y], argTypes := ts }) {p q : Nat} (hx : s.ev x = .dat (.val (.int .i64 ((p : Nat) : Int)))) (hy : s.ev y = .dat (.val (.int .i64 ((q : Nat) : Int)))) :
    OpS P X o s (s.put o.dst (.dat (.val (.int .i64 ((min p q : Nat) : Int))))) := by
  refine opS_value hd fun a w ρ hc => ⟨.int .i64 ((min p q : Nat) : Int), ?_, ?_⟩
  · have h1 := hc.ev x
    have h2 := hc.ev y
    rw [hx] at h1
    rw [hy] at h2
    unfold VR Rep at h1 h2
    have e : (if (q : Int) < (p : Int) then (q : Int) else (p : Int)) = ((min p q : Nat) : Int) := by split <;> omega
    simp only [execOp, ho, resolve, invoke, builtin, h1.1, h2.1, List.map_toArray, List.map_cons, List.map_nil, Sem.run_bind, Sem.run_pure, Result.andThen_ok, run_min_int2, e]
  · unfold VR Rep
    refine ⟨rfl, ?_⟩
    have h1 := hc.ev x
    have h2 := hc.ev y
    rw [hx] at h1
    rw [hy] at h2
    unfold VR Rep at h1 h2
    have : min p q = p ∨ min p q = q := by omega
    rcases this with h | h <;> rw [h]
    · exact h1.2
    · exact h2.2
theorem k_minW {d p q : Nat} {x y : Operand} {ts : Array TypeId} (hN : Nat.blt d N = true) (hx : s.ev x = .dat (.val (.int .i64 ((p : Nat) : Int)))) (hy : s.ev y = .dat (.val (.int .i64 ((q : Nat) : Int)))) (h : Run P X N Q (.ops ops rem :: ks) (s.put (some d) (.dat (.val (.int .i64 ((min p q : Nat) : Int)))))) :
    RunK P X N Q ops rem ks (some d) (.call { callee := .builtin .min, args := #[x, y], argTypes := ts }) s := k_of hN (fun _ _ _ hd => op_minW hd rfl hx hy) h
theorem set_mid {α : Type} : ∀ (cs : List α) (off : Nat) (v : α), off + 1 ≤ cs.length → cs.take off ++ [v] ++ cs.drop (off + 1) = cs.set off v
  | [], _, _, h => by simp at h
  | a :: r, 0, v, h => by simp
  | a :: r, o + 1, v, h => by
    have := set_mid r o v (by simpa using h)
    simpa using this
/-- A store of one cell; the box stands written out behind it. -/
theorem k_store1 (hx : s.ev x = .ptr k off) (hk : s.tb k = some (.box T cs)) [ht : VI P t 1 g] (hy : s.ev y = v) (hv : cellsA v = some [v]) (hle : Nat.ble (off + 1) cs.length = true) (hc : cs.set off v = cs')
    (h : Run P X N Q (.ops ops rem :: ks) (s.set k (.box T cs'))) : RunK P X N Q ops rem ks none (.store t x y) s := by
  subst hc
  rw [← set_mid cs off v (Nat.le_of_ble_eq_true hle)] at h
  exact k_storeB (ys := [v]) hx hk (by rw [hy]; exact hv) rfl hle h
theorem d_store1 (hx : s.ev x = .ptr k off) (hk : s.tb k = some (.box T cs)) [ht : VI P t 1 g] (hy : s.ev y = v) (hv : cellsA v = some [v]) (hle : Nat.ble (off + 1) cs.length = true) (hc : cs.set off v = cs') :
    TrK P X N opl none (.store t x y) (Eff.set k (.box T cs')) s (s.set k (.box T cs')) := by
  subst hc
  rw [← set_mid cs off v (Nat.le_of_ble_eq_true hle)]
  exact d_storeB (ys := [v]) hx hk (by rw [hy]; exact hv) rfl hle
theorem k_storeO {k' : Nat} (hx : s.ev x = .ptr k off) (hk : s.tb k = some (.box T cs)) [ht : VI P t 1 g] (hy : s.ev y = .own k') (hle : Nat.ble (off + 1) cs.length = true) (hc : cs.set off (.own k') = cs') (h : Run P X N Q (.ops ops rem :: ks) (s.set k (.box T cs'))) : RunK P X N Q ops rem ks none (.store t x y) s := k_store1 hx hk hy rfl hle hc h
theorem d_storeO {k' : Nat} (hx : s.ev x = .ptr k off) (hk : s.tb k = some (.box T cs)) [ht : VI P t 1 g] (hy : s.ev y = .own k') (hle : Nat.ble (off + 1) cs.length = true) (hc : cs.set off (.own k') = cs') : TrK P X N opl none (.store t x y) (Eff.set k (.box T cs')) s (s.set k (.box T cs')) := d_store1 hx hk hy rfl hle hc
theorem k_storeD {d : PD} (hx : s.ev x = .ptr k off) (hk : s.tb k = some (.box T cs)) [ht : VI P t 1 g] (hy : s.ev y = .dat d) (hv : cellsA (.dat d) = some [.dat d]) (hle : Nat.ble (off + 1) cs.length = true) (hc : cs.set off (.dat d) = cs') (h : Run P X N Q (.ops ops rem :: ks) (s.set k (.box T cs'))) : RunK P X N Q ops rem ks none (.store t x y) s := k_store1 hx hk hy hv hle hc h
set_option maxRecDepth 100000 in
/-- Walks on as far as the rules go. -/
theorem wk {G p : Prop} (g : G) (h : Box G → p := by
  intro g
  repeat
    (first
      | (show RunK _ _ _ _ _ _ _ _ _ _; first
        | (show RunK _ _ _ _ _ _ _ _ (.move _) _; first 
          | refine k_moveD rfl rfl ?_
          | refine k_moveP rfl rfl ?_
          | refine k_moveO rfl rfl ?_
          | refine k_moveG rfl rfl ?_
          | refine k_moveI rfl rfl ?_
          | refine k_moveC rfl rfl ?_
          | refine k_moveT rfl rfl ?_
          | refine k_moveE rfl rfl ?_
          | fail)
        | (show RunK _ _ _ _ _ _ _ _ (.assign _) _; first 
          | refine k_assignD rfl rfl ?_
          | refine k_assignP rfl rfl ?_
          | refine k_assignO rfl rfl ?_
          | refine k_assignG rfl rfl ?_
          | refine k_assignI rfl rfl ?_
          | refine k_assignE rfl rfl ?_
          | fail)
        | (show RunK _ _ _ _ _ _ _ _ (.fieldAddr _ _ _) _; first 
          | refine k_fieldAddrB rfl rfl rfl ?_
          | refine k_fieldAddrD rfl rfl rfl rfl rfl ?_
          | refine k_fieldE rfl rfl rfl rfl ?_
          | refine k_fieldR rfl rfl rfl rfl ?_
          | fail)
        | (show RunK _ _ _ _ _ _ _ _ (.load _ _) _; first 
          | refine k_loadW rfl rfl rfl (by first | rfl | (simp only [cellsD]; rfl)) ?_
          | refine k_loadBD rfl rfl rfl rfl ?_
          | refine k_loadD rfl rfl (by first | rfl | assumption) ?_
          | refine k_loadBO rfl rfl rfl rfl ?_
          | refine k_loadBP rfl rfl rfl rfl ?_
          | refine k_loadBG rfl rfl rfl rfl ?_
          | refine k_loadBC rfl rfl rfl rfl ?_
          | refine k_loadE rfl rfl rfl (by assumption) ?_
          | refine k_loadN rfl rfl rfl (by assumption) rfl ?_
          | fail)
        | (show RunK _ _ _ _ _ _ _ _ (.field _ _ _) _; first 
          | refine k_fieldD rfl rfl rfl rfl ?_
          | fail)
        | (show RunK _ _ _ _ _ _ _ _ (.binOp _ _ _ _ _) _; first 
          | refine k_shr1 rfl rfl rfl (by assumption) (by assumption) ?_
          | refine k_bin2B rfl rfl rfl rfl ?_
          | refine k_cmpNil rfl rfl rfl (by kernel_rfl) (by first | exact NilIs.ptr | exact NilIs.none | exact NilIs.nilI | exact NilIs.ifc | assumption) rfl ?_
          | refine k_cmpNilA rfl rfl rfl (by kernel_rfl) (by first | exact NilA.ptr | exact NilA.iface) rfl ?_
          | refine k_cmpBool rfl rfl rfl (by kernel_rfl) rfl ?_
          | refine k_ariI rfl rfl rfl rfl (by first | omega | (dsimp only; omega)) ?_
          | refine k_fltC rfl rfl rfl rfl ?_
          | fail)
        | (show RunK _ _ _ _ _ _ _ _ (.unOp _ _ _) _; first 
          | refine k_not rfl rfl ?_
          | fail)
        | (show RunK _ _ _ _ _ _ _ _ (.pick _ _ _) _; first 
          | refine k_pickT rfl rfl (by first | rfl | assumption) rfl ?_
          | refine k_pickF rfl rfl (by first | rfl | assumption) rfl ?_
          | fail)
        | (show RunK _ _ _ _ _ _ _ _ (.indexAddr _ _ _) _; first 
          | refine k_indexAddrD rfl rfl rfl (by first | omega | (dsimp only; omega)) (by assumption) ?_
          | refine k_indexJ rfl rfl rfl (by assumption) ?_
          | refine k_indexZ rfl rfl rfl rfl (by assumption) (by first | assumption | (simp only [List.length_set]; assumption)) ?_
          | refine k_indexN rfl rfl rfl rfl (by assumption) ?_
          | fail)
        | (show RunK _ _ _ _ _ _ _ _ (.extract _ _) _; first 
          | refine k_extract rfl rfl rfl ?_
          | refine k_extractD rfl rfl rfl ?_
          | refine k_extractI rfl rfl rfl ?_
          | fail)
        | (show RunK _ _ _ _ _ _ _ _ (.nilCheck _) _; first 
          | refine k_nilB rfl rfl ?_
          | refine k_nilD rfl rfl ?_
          | refine k_nilI rfl rfl ?_
          | refine k_nilE rfl rfl rfl ?_
          | fail)
        | (show RunK _ _ _ _ _ _ _ _ (.slice _ _ _ _ _) _; first 
          | refine k_sliceD rfl rfl rfl rfl (by omega) (by first | omega | (dsimp only; omega)) ?_
          | refine k_sliceZ rfl rfl rfl rfl (by omega) (by omega) (by first | omega | (dsimp only; omega)) ?_
          | fail)
        | (show RunK _ _ _ _ _ _ _ _ (.convert _ _ _) _; first 
          | refine k_convE rfl rfl (by kernel_rfl) (by kernel_rfl) (by assumption) ?_
          | refine k_convI rfl rfl (by kernel_rfl) (by kernel_rfl) ?_
          | refine k_convF (q := .f64) rfl rfl (by kernel_rfl) (by kernel_rfl) ?_
          | fail)
        | (show RunK _ _ _ _ _ _ _ _ (.build _ _) _; first 
          | refine k_build rfl rfl rfl ?_
          | refine k_buildG rfl rfl rfl ?_
          | fail)
        | (show RunK _ _ _ _ _ _ _ _ (.makeInterface _ _) _; first 
          | refine k_iface rfl rfl (by kernel_rfl) ?_
          | refine k_ifaceP rfl rfl (by kernel_rfl) ?_
          | refine k_ifaceO rfl rfl (by kernel_rfl) ?_
          | fail)
        | (show RunK _ _ _ _ _ _ _ _ (.box _ _) _; (fail_if_success (have nd : NoDraw := by assumption)); first 
          | refine k_boxW rfl rfl rfl (by first | rfl | (simp only [cellsD]; rfl)) ?_
          | refine k_box rfl rfl rfl ?_
          | fail)
        | (show RunK _ _ _ _ _ _ _ _ (.alloc _) _; first 
          | refine k_alloc rfl rfl ?_
          | fail)
        | (show RunK _ _ _ _ _ _ _ _ (.store _ _ _) _; first 
          | refine k_storeW rfl rfl rfl rfl rfl rfl ?_
          | refine k_storeO rfl rfl rfl rfl (by (try simp only [cellsD, List.map_cons, List.map_nil, List.set_cons_zero, List.set_cons_succ, Nat.zero_add]); rfl) ?_
          | refine k_storeP rfl rfl rfl rfl (by (try simp only [cellsD, List.map_cons, List.map_nil, List.set_cons_zero, List.set_cons_succ, Nat.zero_add]); rfl) ?_
          | refine k_storeD rfl rfl rfl rfl rfl (by (try simp only [cellsD, List.map_cons, List.map_nil, List.set_cons_zero, List.set_cons_succ, Nat.zero_add]); rfl) ?_
          | refine k_storeB rfl rfl rfl rfl rfl ?_
          | refine k_storeE rfl rfl (by first | assumption | (simp only [List.length_set]; assumption)) rfl ?_
          | fail)
        | (show RunK _ _ _ _ _ _ _ _ (.makeSlice _ _ _) _; first 
          | refine k_makeSlice rfl rfl rfl rfl (by kernel_rfl) (by first | assumption | omega | (simp only [List.length_append, List.length_cons, List.length_nil, List.length_drop, List.length_take, List.length_map]; omega)) (by first | assumption | omega | (simp only [List.length_append, List.length_cons, List.length_nil, List.length_drop, List.length_take, List.length_map]; omega)) ?_
          | fail)
        | (show RunK _ _ _ _ _ _ _ _ (.buildSlice _ _ _) _; first 
          | refine k_bsl rfl rfl (by kernel_rfl) rfl (by (try dsimp only); rfl) rfl rfl rfl rfl ?_
          | refine k_buildSlice rfl rfl (by kernel_rfl) rfl rfl rfl rfl rfl ?_
          | refine k_buildSliceF rfl (by kernel_rfl) rfl rfl rfl rfl rfl ?_
          | fail)
        | (show RunK _ _ _ _ _ _ _ _ (.makeFunc _ _ _) _; first 
          | refine k_makeFunc rfl ?_
          | fail)
        | (show RunK _ _ _ _ _ _ _ _ (.lookup _ _ _ _) _; first 
          | refine k_lookM rfl rfl rfl (by assumption) ?_
          | fail)
        | (show RunK _ _ _ _ _ _ _ _ (.range _ _) _; first 
          | refine k_rangeM rfl rfl rfl ?_
          | fail)
        | (show RunK _ _ _ _ _ _ _ _ (.entry _) _; first 
          | refine k_entryM rfl rfl rfl ?_
          | fail)
        | (show RunK _ _ _ _ _ _ _ _ (.makeMap _ _) _; first 
          | refine k_makeMapR rfl rfl ?_
          | fail)
        | (show RunK _ _ _ _ _ _ _ _ (.typeAssert _ _ _ _) _; first 
          | refine k_taS rfl rfl (by kernel_rfl) ?_
          | refine k_ta1 rfl rfl (by kernel_rfl) ?_
          | refine k_taN rfl rfl (by kernel_rfl) rfl rfl ?_
          | refine k_taO rfl rfl (by kernel_rfl) (by kernel_rfl) rfl rfl ?_
          | fail)
        | (show RunK _ _ _ _ _ _ _ _ (.call _) _; first 
          | refine k_lenD rfl rfl ?_
          | refine k_lenO rfl rfl rfl ?_
          | refine k_lenS rfl rfl (by kernel_rfl) ?_
          | refine k_lenN rfl rfl ?_
          | refine k_lenJ rfl rfl ?_
          | refine k_lenM rfl rfl ?_
          | refine k_minW rfl rfl rfl ?_
          | refine k_call rfl (by kernel_rfl) rfl (by assumption) ?_
          | refine k_callZ gV rfl (by kernel_rfl) rfl (by assumption) Flat.val ?_
          | refine k_appendOO rfl rfl rfl rfl rfl rfl (by kernel_rfl) rfl rfl (by first | assumption | omega | (simp only [List.length_append, List.length_cons, List.length_nil, List.length_drop, List.length_take, List.length_map]; omega)) (by first | assumption | omega | (simp only [List.length_append, List.length_cons, List.length_nil, List.length_drop, List.length_take, List.length_map]; omega)) ?_
          | refine k_appendOD rfl rfl rfl rfl rfl (by kernel_rfl) rfl rfl (by first | assumption | omega | (simp only [List.length_append, List.length_cons, List.length_nil, List.length_drop, List.length_take, List.length_map]; omega)) (by first | assumption | omega | (simp only [List.length_append, List.length_cons, List.length_nil, List.length_drop, List.length_take, List.length_map]; omega)) ?_
          | refine k_appendND rfl rfl rfl rfl (by kernel_rfl) rfl rfl (by first | assumption | omega | (simp only [List.length_append, List.length_cons, List.length_nil, List.length_drop, List.length_take, List.length_map]; omega)) (by first | assumption | omega | (simp only [List.length_append, List.length_cons, List.length_nil, List.length_drop, List.length_take, List.length_map]; omega)) ?_
          | refine k_appendNO rfl rfl rfl rfl rfl (by kernel_rfl) rfl rfl (by first | assumption | omega | (simp only [List.length_append, List.length_cons, List.length_nil, List.length_drop, List.length_take, List.length_map]; omega)) (by first | assumption | omega | (simp only [List.length_append, List.length_cons, List.length_nil, List.length_drop, List.length_take, List.length_map]; omega)) ?_
          | refine k_callV rfl rfl (by kernel_rfl) rfl (by assumption) ?_
          | refine k_invS rfl rfl (by kernel_rfl) rfl (by assumption) ?_
          | refine k_invD rfl rfl rfl (by kernel_rfl) rfl (by assumption) ?_
          | fail))
      | (show Run _ _ _ _ (Itm.ops _ (_ :: _) :: _) _; first
        | refine k_pick rfl ?_
        | refine k_guardY rfl rfl (by first | rfl | assumption) ?_
        | refine k_guardU rfl rfl rfl ?_
        | refine k_guardNT rfl rfl (by first | rfl | assumption) rfl ?_
        | refine k_guardNF rfl rfl (by first | rfl | assumption) rfl ?_)
      | (show Run _ _ _ _ (Itm.code _ :: _) _; first
        | refine run_seq ?_
        | refine run_region ?_
        | refine run_block ?_
        | refine run_skip ?_
        | refine run_exit rfl ?_
        | refine run_condT rfl (by first | rfl | assumption) ?_
        | refine run_condF rfl (by first | rfl | assumption) ?_
        | ((fail_if_success (have nd : NoDraw := by assumption)); refine run_drawC (by kernel_rfl) ?_)
        | exact run_retOk (resOk_tmp rfl rfl (PLe.refl _))
        | exact run_retOk (resOk_tmp2 rfl rfl rfl (PLe.refl _) (PLe.refl _))
        | exact run_retOk (resOk_cell rfl rfl rfl (by first | rfl | (simp only [cellsD]; rfl)) (PLe.refl _))
        | (refine run_retOk (resOk_tmp rfl rfl ?_); (repeat' (first | exact PLe.refl _ | exact PLe.nil _ _ | exact trivial | refine And.intro ?_ ?_ | refine PLe.aggs ?_ | (refine PLe.of_eq ?_; first | rfl | assumption | (symm; assumption)) | fail)); done)
        | (refine run_retOk (resOk_tmp2 rfl rfl rfl ?_ ?_) <;> ((repeat' (first | exact PLe.refl _ | exact PLe.nil _ _ | exact trivial | refine And.intro ?_ ?_ | refine PLe.aggs ?_ | (refine PLe.of_eq ?_; first | rfl | assumption | (symm; assumption)) | fail)); done))
        | (refine run_retOk (resOk_cell rfl rfl rfl (by first | rfl | (simp only [cellsD]; rfl)) ?_); (repeat' (first | exact PLe.refl _ | exact PLe.nil _ _ | exact trivial | refine And.intro ?_ ?_ | refine PLe.aggs ?_ | (refine PLe.of_eq ?_; first | rfl | assumption | (symm; assumption)) | fail)); done)
        | fail)
      | refine run_opsEnd ?_
      | refine run_blkEnd ?_
      | (show TrX _ _ _ _ _ _ _ _ _; first
        | (show TrX _ _ _ _ _ (.move _) _ _ _; first 
          | refine x_of (d_moveD rfl rfl) ?_
          | refine x_of (d_moveP rfl rfl) ?_
          | refine x_of (d_moveO rfl rfl) ?_
          | refine x_of (d_moveG rfl rfl) ?_
          | refine x_of (d_moveI rfl rfl) ?_
          | refine x_of (d_moveC rfl rfl) ?_
          | refine x_of (d_moveE rfl rfl) ?_
          | fail)
        | (show TrX _ _ _ _ _ (.assign _) _ _ _; first 
          | refine x_of (d_assignD rfl rfl) ?_
          | refine x_of (d_assignP rfl rfl) ?_
          | refine x_of (d_assignO rfl rfl) ?_
          | refine x_of (d_assignG rfl rfl) ?_
          | refine x_of (d_assignI rfl rfl) ?_
          | refine x_of (d_assignE rfl rfl) ?_
          | fail)
        | (show TrX _ _ _ _ _ (.fieldAddr _ _ _) _ _ _; first 
          | refine x_of (d_fieldAddrB rfl rfl rfl) ?_
          | refine x_of (d_fieldAddrD rfl rfl rfl rfl rfl) ?_
          | refine x_of (d_fieldE rfl rfl rfl rfl) ?_
          | refine x_of (d_fieldR rfl rfl rfl rfl) ?_
          | fail)
        | (show TrX _ _ _ _ _ (.load _ _) _ _ _; first 
          | refine x_of (d_loadW rfl rfl rfl (by first | rfl | (simp only [cellsD]; rfl))) ?_
          | refine x_of (d_loadBD rfl rfl rfl rfl) ?_
          | refine x_of (d_loadD rfl rfl (by first | rfl | assumption)) ?_
          | refine x_of (d_loadBO rfl rfl rfl rfl) ?_
          | refine x_of (d_loadBP rfl rfl rfl rfl) ?_
          | refine x_of (d_loadBG rfl rfl rfl rfl) ?_
          | refine x_of (d_loadE rfl rfl rfl (by assumption)) ?_
          | fail)
        | (show TrX _ _ _ _ _ (.field _ _ _) _ _ _; first 
          | refine x_of (d_fieldD rfl rfl rfl rfl) ?_
          | fail)
        | (show TrX _ _ _ _ _ (.binOp _ _ _ _ _) _ _ _; first 
          | refine x_of (d_bin2B rfl rfl rfl rfl) ?_
          | refine x_of (d_cmpNil rfl rfl rfl (by kernel_rfl) (by first | exact NilIs.ptr | exact NilIs.none | exact NilIs.nilI | exact NilIs.ifc | assumption) rfl) ?_
          | refine x_of (d_cmpNilA rfl rfl rfl (by kernel_rfl) (by first | exact NilA.ptr | exact NilA.iface) rfl) ?_
          | refine x_of (d_cmpBool rfl rfl rfl (by kernel_rfl) rfl) ?_
          | refine x_of (d_ariI rfl rfl rfl rfl (by first | omega | (dsimp only; omega))) ?_
          | refine x_of (d_fltC rfl rfl rfl rfl) ?_
          | fail)
        | (show TrX _ _ _ _ _ (.unOp _ _ _) _ _ _; first 
          | refine x_of (d_not rfl rfl) ?_
          | fail)
        | (show TrX _ _ _ _ _ (.pick _ _ _) _ _ _; first 
          | refine x_of (d_pickT rfl rfl (by first | rfl | assumption) rfl) ?_
          | refine x_of (d_pickF rfl rfl (by first | rfl | assumption) rfl) ?_
          | fail)
        | (show TrX _ _ _ _ _ (.indexAddr _ _ _) _ _ _; first 
          | refine x_of (d_indexAddrD rfl rfl rfl (by first | omega | (dsimp only; omega)) (by assumption)) ?_
          | refine x_of (d_indexJ rfl rfl rfl (by assumption)) ?_
          | refine x_of (d_indexZ rfl rfl rfl rfl (by assumption) (by first | assumption | (simp only [List.length_set]; assumption))) ?_
          | refine x_of (d_indexN rfl rfl rfl rfl (by assumption)) ?_
          | fail)
        | (show TrX _ _ _ _ _ (.extract _ _) _ _ _; first 
          | refine x_of (d_extract rfl rfl rfl) ?_
          | fail)
        | (show TrX _ _ _ _ _ (.nilCheck _) _ _ _; first 
          | refine x_of (d_nilB rfl rfl) ?_
          | refine x_of (d_nilD rfl rfl) ?_
          | refine x_of (d_nilI rfl rfl) ?_
          | refine x_of (d_nilE rfl rfl rfl) ?_
          | fail)
        | (show TrX _ _ _ _ _ (.slice _ _ _ _ _) _ _ _; first 
          | refine x_of (d_sliceD rfl rfl rfl rfl (by omega) (by first | omega | (dsimp only; omega))) ?_
          | refine x_of (d_sliceZ rfl rfl rfl rfl (by omega) (by omega) (by first | omega | (dsimp only; omega))) ?_
          | fail)
        | (show TrX _ _ _ _ _ (.convert _ _ _) _ _ _; first 
          | refine x_of (d_convI rfl rfl (by kernel_rfl) (by kernel_rfl)) ?_
          | refine x_of (d_convF (q := .f64) rfl rfl (by kernel_rfl) (by kernel_rfl)) ?_
          | fail)
        | (show TrX _ _ _ _ _ (.build _ _) _ _ _; first 
          | refine x_of (d_build rfl rfl rfl) ?_
          | refine x_of (d_buildG rfl rfl rfl) ?_
          | fail)
        | (show TrX _ _ _ _ _ (.makeInterface _ _) _ _ _; first 
          | refine x_of (d_iface rfl rfl (by kernel_rfl)) ?_
          | refine x_of (d_ifaceP rfl rfl (by kernel_rfl)) ?_
          | refine x_of (d_ifaceO rfl rfl (by kernel_rfl)) ?_
          | fail)
        | (show TrX _ _ _ _ _ (.box _ _) _ _ _; (fail_if_success (have nd : NoDraw := by assumption)); first 
          | refine x_of (d_boxW rfl rfl rfl (by first | rfl | (simp only [cellsD]; rfl))) ?_
          | refine x_of (d_box rfl rfl rfl) ?_
          | fail)
        | (show TrX _ _ _ _ _ (.alloc _) _ _ _; first 
          | refine x_of (d_alloc rfl rfl) ?_
          | fail)
        | (show TrX _ _ _ _ _ (.store _ _ _) _ _ _; first 
          | refine x_of (d_storeW rfl rfl rfl rfl rfl rfl) ?_
          | refine x_of (d_storeO rfl rfl rfl rfl (by (try simp only [cellsD, List.map_cons, List.map_nil, List.set_cons_zero, List.set_cons_succ, Nat.zero_add]); rfl)) ?_
          | refine x_of (d_storeP rfl rfl rfl rfl (by (try simp only [cellsD, List.map_cons, List.map_nil, List.set_cons_zero, List.set_cons_succ, Nat.zero_add]); rfl)) ?_
          | refine x_of (d_storeD rfl rfl rfl rfl rfl (by (try simp only [cellsD, List.map_cons, List.map_nil, List.set_cons_zero, List.set_cons_succ, Nat.zero_add]); rfl)) ?_
          | refine x_of (d_storeB rfl rfl rfl rfl rfl) ?_
          | refine x_of (d_storeE rfl rfl (by first | assumption | (simp only [List.length_set]; assumption)) rfl) ?_
          | fail)
        | (show TrX _ _ _ _ _ (.makeSlice _ _ _) _ _ _; first 
          | refine x_of (d_makeSlice rfl rfl rfl rfl (by kernel_rfl) (by first | assumption | omega | (simp only [List.length_append, List.length_cons, List.length_nil, List.length_drop, List.length_take, List.length_map]; omega)) (by first | assumption | omega | (simp only [List.length_append, List.length_cons, List.length_nil, List.length_drop, List.length_take, List.length_map]; omega))) ?_
          | fail)
        | (show TrX _ _ _ _ _ (.buildSlice _ _ _) _ _ _; first 
          | refine x_of (d_bsl rfl rfl (by kernel_rfl) rfl (by (try dsimp only); rfl) rfl rfl rfl rfl) ?_
          | refine x_of (d_buildSlice rfl rfl (by kernel_rfl) rfl rfl rfl rfl rfl) ?_
          | refine x_of (d_buildSliceF rfl (by kernel_rfl) rfl rfl rfl rfl rfl) ?_
          | fail)
        | (show TrX _ _ _ _ _ (.makeFunc _ _ _) _ _ _; first 
          | refine x_of (d_makeFunc rfl) ?_
          | fail)
        | (show TrX _ _ _ _ _ (.lookup _ _ _ _) _ _ _; first 
          | fail)
        | (show TrX _ _ _ _ _ (.range _ _) _ _ _; first 
          | fail)
        | (show TrX _ _ _ _ _ (.entry _) _ _ _; first 
          | fail)
        | (show TrX _ _ _ _ _ (.makeMap _ _) _ _ _; first 
          | fail)
        | (show TrX _ _ _ _ _ (.typeAssert _ _ _ _) _ _ _; first 
          | refine x_of (d_taS rfl rfl (by kernel_rfl)) ?_
          | refine x_of (d_ta1 rfl rfl (by kernel_rfl)) ?_
          | refine x_of (d_taN rfl rfl (by kernel_rfl) rfl rfl) ?_
          | refine x_of (d_taO rfl rfl (by kernel_rfl) (by kernel_rfl) rfl rfl) ?_
          | fail)
        | (show TrX _ _ _ _ _ (.call _) _ _ _; first 
          | refine x_of (d_lenD rfl rfl) ?_
          | refine x_of (d_lenO rfl rfl rfl) ?_
          | refine x_of (d_lenS rfl rfl (by kernel_rfl)) ?_
          | refine x_of (d_lenN rfl rfl) ?_
          | refine x_of (d_lenJ rfl rfl) ?_
          | refine x_of (d_minW rfl rfl rfl) ?_
          | refine x_of (d_call rfl (by kernel_rfl) rfl (by assumption)) ?_
          | refine x_of (d_callZ gV rfl (by kernel_rfl) rfl (by assumption) Flat.val) ?_
          | refine x_of (d_appendOO rfl rfl rfl rfl rfl rfl (by kernel_rfl) rfl rfl (by first | assumption | omega | (simp only [List.length_append, List.length_cons, List.length_nil, List.length_drop, List.length_take, List.length_map]; omega)) (by first | assumption | omega | (simp only [List.length_append, List.length_cons, List.length_nil, List.length_drop, List.length_take, List.length_map]; omega))) ?_
          | refine x_of (d_appendOD rfl rfl rfl rfl rfl (by kernel_rfl) rfl rfl (by first | assumption | omega | (simp only [List.length_append, List.length_cons, List.length_nil, List.length_drop, List.length_take, List.length_map]; omega)) (by first | assumption | omega | (simp only [List.length_append, List.length_cons, List.length_nil, List.length_drop, List.length_take, List.length_map]; omega))) ?_
          | refine x_of (d_appendND rfl rfl rfl rfl (by kernel_rfl) rfl rfl (by first | assumption | omega | (simp only [List.length_append, List.length_cons, List.length_nil, List.length_drop, List.length_take, List.length_map]; omega)) (by first | assumption | omega | (simp only [List.length_append, List.length_cons, List.length_nil, List.length_drop, List.length_take, List.length_map]; omega))) ?_
          | refine x_of (d_appendNO rfl rfl rfl rfl rfl (by kernel_rfl) rfl rfl (by first | assumption | omega | (simp only [List.length_append, List.length_cons, List.length_nil, List.length_drop, List.length_take, List.length_map]; omega)) (by first | assumption | omega | (simp only [List.length_append, List.length_cons, List.length_nil, List.length_drop, List.length_take, List.length_map]; omega))) ?_
          | refine x_of (d_callV rfl rfl (by kernel_rfl) rfl (by assumption)) ?_
          | refine x_of (d_invS rfl rfl (by kernel_rfl) rfl (by assumption)) ?_
          | refine x_of (d_invD rfl rfl rfl (by kernel_rfl) rfl (by assumption)) ?_
          | fail))
      | (show TrC _ _ _ _ (_ :: _) _ _; first
        | refine x_pick ?_
        | refine x_pickY rfl (by first | rfl | assumption) ?_
        | refine c_passU rfl rfl ?_
        | refine c_passT rfl (by first | rfl | assumption) rfl ?_
        | refine c_passF rfl (by first | rfl | assumption) rfl ?_)
      | refine c_nil (And.intro (by kernel_rfl) ?_)
      | fail)
  all_goals exact g.out) : p := h ⟨g⟩
/-- A state is one of those that are wanted. -/
theorem sb {p : Prop} (h : p := by
  refine ⟨?_, ?_, by rfl⟩ <;> repeat' (first | exact trivial | exact ALe.ptr rfl | exact ALe.own rfl | exact ALe.elt rfl | exact BLe.boxD _ _ | exact BLe.row rfl | exact BLe.res | exact BLe.dead rfl | exact ALe.dat (PLe.refl _) | exact ALe.dat (PLe.nil _ _) | exact CLe.nil | refine And.intro ?_ ?_ | refine ALe.iface ?_ | refine ALe.clo ?_ | refine CLe.cons ?_ ?_ | refine BLe.box ?_ | refine BLe.row ?_ | exact ALe.any _ | refine ALe.dat (PLe.of_eq ?_))
  all_goals first | rfl | assumption | (symm; assumption) | (congr 4; omega) | fail) : p := h
/-- Walks to the end. -/
theorem wke {p : Prop} (h : p := by exact wk trivial) : p := h
end
end Go.Proofs.YtgmahieoiifpfaaGreat
end
section
set_option linter.unusedVariables false
namespace Go.Proofs.YtgmahieoiifpfaaGreat
open Go.RowKit
set_option linter.unusedSimpArgs false
section
variable {P : Program} {X : Base} {N : Nat} {Q : Exit → Act → World → Prop} {ops : Array Oper} {rem : List Nat} {ks : List Itm} {s s' : Sta}
/-- Half of a whole number that is not negative. -/
theorem op_half {o : Oper} (hd : dstOk X.N o.dst = true) {t t' : TypeId} {x y : Operand} (ho : o.op = .binOp .quo t x y t') {a b : Int} (hx : s.ev x = .dat (.val (.int .i64 a))) (hy : s.ev y = .dat (.val (.int .i64 2))) (hb : a / 2 = b) (h0 : 0 ≤ a) (ha : a ≤ 9223372036854775807) :
    OpS P X o s (s.put o.dst (.dat (.val (.int .i64 b)))) := by
  refine op_bin hd ho hx hy (fun w => ?_) (WalkArith.wf_i64 (by omega))
  have e : IntKind.i64.wrap (a.tdiv 2) = b := by
    rw [Int.tdiv_eq_ediv_of_nonneg h0, IntKind.wrap_i64]; omega
  simp [eqGuard, binOp, Op.intDiv, e]
theorem k_half {d : Nat} {x y : Operand} {t t' : Nat} {a b : Int} (hN : Nat.blt d N = true) (hx : s.ev x = .dat (.val (.int .i64 a))) (hy : s.ev y = .dat (.val (.int .i64 2))) (hb : a / 2 = b) (h0 : 0 ≤ a) (ha : a ≤ 9223372036854775807) (h : Run P X N Q (.ops ops rem :: ks) (s.put (some d) (.dat (.val (.int .i64 b))))) : RunK P X N Q ops rem ks (some d) (.binOp .quo t x y t') s := k_of hN (fun _ _ _ hd => op_half hd rfl hx hy hb h0 ha) h
end
theorem fieldIdx_p (m : GV) (key : ByteArray) (hinc : Incr m.keys) : PCall Tryz.prog 207 [qV m, .val (.string key)] (.tup [.val (.int .i64 (lb m.keys key : Nat)), .val (.bool (hasAt m.keys key))]) := by
  refine pcall_fits fun hfit => ?_
  have b1 := (Fits.aggAt (hfit (qV m) (by simp)) 4 (d := .sl 1 16 (pdS m.keys)) rfl).sl.2.1
  rw [pdS_len] at b1
  clear hfit
  have n1 := pdS_len m.keys
  refine pcall_of_run Tryz.func207 rfl Tryz.ntmps207 rfl (fun X => ?_)
  unfold qV
  refine wk ?_
  refine run_loopS (ι := { j : Nat × Nat // j.1 ≤ j.2 ∧ j.2 ≤ m.keys.length ∧ (∀ q x, q < j.1 → m.keys[q]? = some x → blt x key = true) ∧ (∀ q x, j.2 ≤ q → m.keys[q]? = some x → blt x key = false) })
    (fun j => [(1, .dat (.val (.string key))), (2, .ptr 2 0), (6, .dat (.val (.int .i64 (j.1.1 : Nat)))), (7, .dat (.val (.int .i64 (j.1.2 : Nat))))])
    (fun j => [(2, .box 27 (cellsD (qV m)))]) (fun j => j.1.2 - j.1.1) ⟨(0, m.keys.length), Nat.zero_le _, Nat.le_refl _, fun q x h => by simp at h, fun q x h h' => by rw [List.getElem?_eq_none h] at h'; cases h'⟩ id ?_ ?_
  · rw [n1]; exact sb
  rintro ⟨⟨i, j⟩, hij, hj, hlo, hhi⟩
  simp only at hij hj hlo hhi ⊢
  by_cases hlt : i < j
  · have g1 : decide ((i : Int) < (j : Int)) = true := decide_eq_true (by omega)
    unfold qV
    obtain ⟨h, hh⟩ : ∃ h, h = (j - i) / 2 := ⟨_, rfl⟩
    obtain ⟨x, hx⟩ : ∃ x, m.keys[i + h]? = some x := ⟨_, List.getElem?_eq_getElem (by omega)⟩
    have i1 : (pdS m.keys)[((i : Int) + (h : Int)).toNat]? = some (.val (.string x)) := by
      rw [show ((i : Int) + (h : Int)).toNat = i + h by omega]; exact pdS_at hx
    cases ht : blt x key with
    | true =>
      refine wk ?_
      refine k_half rfl rfl rfl (b := (h : Int)) (by omega) (by omega) (by omega) ?_
      refine wk ?_
      refine run_again ?_
      refine ⟨⟨(i + h + 1, j), by simp only; omega, hj, fun q y hq hy => ?_, hhi⟩, id, by simp only; omega, ?_⟩
      · rcases incr_le hinc (show q ≤ i + h by simp only at hq; omega) hy hx with rfl | h
        · exact ht
        · exact blt_trans h ht
      exact sb
    | false =>
      refine wk ?_
      refine k_half rfl rfl rfl (b := (h : Int)) (by omega) (by omega) (by omega) ?_
      refine wk ?_
      refine run_again ?_
      refine ⟨⟨(i, i + h), by simp only; omega, by simp only; omega, hlo, fun q y hq hy => ?_⟩, id, by simp only; omega, ?_⟩
      · rcases incr_le hinc (show i + h ≤ q from hq) hx hy with rfl | h
        · exact ht
        · cases hyk : blt y key with
          | false => rfl
          | true => have := blt_trans h hyk; rw [ht] at this; cases this
      exact sb
  obtain rfl : i = j := by omega
  have hlb : lb m.keys key = i := lb_eq hj (fun q x hq hx => hlo q x hq hx) (fun x hx => hhi i x (Nat.le_refl _) hx)
  rw [hlb]
  have g1 : decide ((i : Int) < (i : Int)) = false := decide_eq_false (by omega)
  unfold qV
  by_cases hin : i < m.keys.length
  · obtain ⟨x, hx⟩ : ∃ x, m.keys[i]? = some x := ⟨_, List.getElem?_eq_getElem hin⟩
    have i1 : (pdS m.keys)[((i : Nat) : Int).toNat]? = some (.val (.string x)) := pdS_at hx
    have g2 : decide ((i : Int) < (((pdS m.keys).length : Nat) : Int)) = true := decide_eq_true (by omega)
    have e : hasAt m.keys key = decide (x = key) := by unfold hasAt; rw [hlb, hx]; simp
    rw [e]
    exact wke
  · have g2 : decide ((i : Int) < (((pdS m.keys).length : Nat) : Int)) = false := decide_eq_false (by omega)
    have e : hasAt m.keys key = false := by unfold hasAt; rw [hlb, List.getElem?_eq_none (by omega)]; simp
    rw [e]
    exact wke
set_option maxHeartbeats 8000000 in
theorem with_p (m : GV) (key : ByteArray) (x : GV) (hm : Plain m) (hb : (m.l.length + 1) * 88 ≤ 140737488351232) : PCall Tryz.prog 198 [qV m, .val (.string key), qV x] (qV (withF m key x)) := by
  obtain ⟨ks, l, rfl, hi, hl⟩ := hm
  obtain ⟨xk, xn, xf, xs, xks, xl⟩ := x
  have c := fieldIdx_p (.mk 6 0 0 ByteArray.empty ks l) key hi
  have h1 := lb_le ks key
  have h2 := hasAt_le (ks := ks) (k := key)
  have n1 := pdS_len ks
  have n2 := pdVs_len l
  simp only [GV.l, GV.keys] at c hb
  unfold withF
  simp only [GV.l, GV.keys]
  have e1 : pdS (insL ks ks key key) = (((pdS ks).take (lb ks key)).drop 0 ++ [.val (.string key)]) ++ ((pdS ks).take (pdS ks).length).drop (lb ks key + if hasAt ks key then 1 else 0) := by rw [List.take_length]; simp [insL, pdS, List.map_take, List.map_drop]
  have e2 : pdVs (insL ks l key (.mk xk xn xf xs xks xl)) = (((pdVs l).take (lb ks key)).drop 0 ++ [qV (.mk xk xn xf xs xks xl)]) ++ ((pdVs l).take (pdVs l).length).drop (lb ks key + if hasAt ks key then 1 else 0) := by
    rw [List.take_length, pdVs_eq, pdVs_eq]; simp [insL, List.map_take, List.map_drop]; exact pdV_eq _
  unfold qV at *
  simp only [GV.l, GV.keys, GV.kind, GV.n, GV.f, GV.s] at *
  rw [e1, e2]
  clear e1 e2
  generalize pdS ks = da at *
  generalize pdVs l = db at *
  generalize lb ks key = i at *
  generalize hasAt ks key = b at *
  cases b
  all_goals
    simp only [Bool.false_eq_true, if_false, if_true] at h2 ⊢
    refine pcall_of_run Tryz.func198 rfl Tryz.ntmps198 rfl (fun X => ?_)
    refine wk ?_
    refine run_frz (fun _ => false) (fun k => k == 54 || k == 62) ?_
    refine run_retOk (resOk_cell rfl rfl rfl rfl ?_)
    first | exact PLe.refl _ | (refine PLe.of_eq ?_; rw [show ((i : Int) + 1).toNat = i + 1 by omega]; simp [Int.toNat_natCast]; done)
theorem cleanL_map (l : List GV) : cleanL l = l.map cleanV := by
  induction l with
  | nil => unfold cleanL; rfl
  | cons x r ih => unfold cleanL; rw [ih]; rfl
theorem pdV_q (x : GV) : pdV x = qV x := pdV_eq x
set_option maxHeartbeats 8000000 in
theorem plainList_q (l : List GV) (ih : ∀ x ∈ l, PCall Tryz.prog 72 [qV x] (qV (cleanV x))) : PCall Tryz.prog 136 [.sl 6 88 (pdVs l)] (.sl 6 88 (pdVs (cleanL l))) := by
  refine pcall_fits fun hfit => ?_
  have b0 := (hfit (.sl 6 88 (pdVs l)) (by simp)).sl
  have b1 := b0.1
  have b2 := b0.2.1
  clear hfit b0
  have n1 := pdVs_len l
  rw [n1] at b1 b2
  refine pcall_of_run Tryz.func136 rfl Tryz.ntmps136 rfl (fun X => ?_)
  refine wk ?_
  refine run_loopS (ι := { k : Nat // k ≤ l.length })
    (fun k => [(3, .own 100), (9, .dat (.sl 6 88 (pdVs l))), (10, .dat (.val (.int .i64 ((pdVs l).length : Nat)))), (11, .dat (.val (.int .i64 (k.1 : Nat))))])
    (fun k => [(100, .row 27 6 88 ((l.take k.1).map fun x => qV (cleanV x)))]) (fun k => l.length - k.1) ⟨0, Nat.zero_le _⟩ (fun j => if j = 100 then 8 else j) ?_ ?_
  · exact sb
  rintro ⟨k, hk⟩
  by_cases hlt : k < l.length
  · have hc : decide ((k : Int) < (((pdVs l).length : Nat) : Int)) = true := decide_eq_true (by omega)
    obtain ⟨x, hx⟩ : ∃ x, l[k]? = some x := ⟨_, List.getElem?_eq_getElem hlt⟩
    have hi : (pdVs l)[((k : Nat) : Int).toNat]? = some (qV x) := (pdVs_at hx).trans (by rw [pdV_q])
    have c := ih x (List.mem_of_getElem? hx)
    have hbt : (((l.take k).map fun x => qV (cleanV x)).length + [qV (cleanV x)].length) * 88 ≤ 140737488351232 := by simp; omega
    have hbl : ((l.take k).map fun x => qV (cleanV x)).length + [qV (cleanV x)].length ≤ 140737488351232 := by simp; omega
    have e : ((l.take (k + 1)).map fun x => qV (cleanV x)) = ((l.take k).map fun x => qV (cleanV x)) ++ [qV (cleanV x)] := by simp [List.take_add_one, hx]
    generalize ((l.take k).map fun x => qV (cleanV x)) = da at *
    unfold qV at *
    refine wk ?_
    refine run_again ?_
    refine ⟨⟨k + 1, by omega⟩, (fun j => if j = 100 then 19 else j), by simp only; omega, ?_⟩
    rw [e]
    exact sb
  · have hc : decide ((k : Int) < (((pdVs l).length : Nat) : Int)) = false := decide_eq_false (by omega)
    have hkk : l.take k = l := List.take_of_length_le (by omega)
    simp only [hkk]
    refine run_frz (fun _ => false) (fun k => k == 100) ?_
    have e : pdVs (cleanL l) = l.map fun x => qV (cleanV x) := by rw [pdVs_eq, cleanL_map, List.map_map]; exact List.map_congr_left fun x _ => pdV_q _
    rw [e]
    exact wke
set_option maxHeartbeats 8000000 in
theorem plainMap_q (v : GV) (ih : ∀ x ∈ v.l, PCall Tryz.prog 72 [qV x] (qV (cleanV x))) : PCall Tryz.prog 137 [qV v] (qV (cleanM v.keys v.l gMap)) := by
  refine pcall_fits fun hfit => ?_
  have b0 := (Fits.aggAt (hfit (qV v) (by simp)) 5 (d := .sl 6 88 (pdVs v.l)) rfl).sl
  have b1 := b0.1
  have b2 := b0.2.1
  clear hfit b0
  have n1 := pdVs_len v.l
  have n2 := pdS_len v.keys
  rw [n1] at b1 b2
  refine pcall_of_run Tryz.func137 rfl Tryz.ntmps137 rfl (fun X => ?_)
  generalize hr : cleanM v.keys v.l gMap = R
  unfold qV
  refine wk ?_
  refine run_loopS (ι := { k : Nat // k ≤ v.keys.length ∧ k ≤ v.l.length })
    (fun k => [(1, .ptr 1 0), (2, .ptr 2 0), (3, .ptr 3 0), (4, .dat (.val (.int .i64 (k.1 : Nat))))])
    (fun k => [(1, .box 27 (cellsD (qV v))), (2, .box 27 (cellsD (qV gNull))), (3, .box 27 (cellsD (qV (cleanM (v.keys.take k.1) v.l gMap))))]) (fun k => v.keys.length - k.1) ⟨0, Nat.zero_le _, Nat.zero_le _⟩ id ?_ ?_
  · simp only [List.take_zero, show cleanM [] v.l gMap = gMap from by simp [cleanM]]
    exact sb
  rintro ⟨k, hk, hk'⟩
  by_cases hlt : k < v.keys.length
  · have g1 : decide ((k : Int) < (((pdS v.keys).length : Nat) : Int)) = true := decide_eq_true (by omega)
    by_cases hlt' : k < v.l.length
    · have g2 : decide ((k : Int) < (((pdVs v.l).length : Nat) : Int)) = true := decide_eq_true (by omega)
      obtain ⟨key, hkey⟩ : ∃ x, v.keys[k]? = some x := ⟨_, List.getElem?_eq_getElem hlt⟩
      obtain ⟨x, hx⟩ : ∃ x, v.l[k]? = some x := ⟨_, List.getElem?_eq_getElem hlt'⟩
      have i1 : (pdS v.keys)[((k : Nat) : Int).toNat]? = some (.val (.string key)) := pdS_at hkey
      have i2 : (pdVs v.l)[((k : Nat) : Int).toNat]? = some (qV x) := (pdVs_at hx).trans (by rw [pdV_q])
      have c1 := ih x (List.mem_of_getElem? hx)
      have hp := cleanM_plain (v.keys.take k) v.l gMap gMap_plain
      have c2 := with_p (cleanM (v.keys.take k) v.l gMap) key (cleanV x) hp.1 (by
        have := hp.2; have := List.length_take_le k v.keys; have e : gMap.l.length = 0 := rfl; omega)
      rw [← cleanM_step v.keys v.l gMap k key x hkey hx] at c2
      simp only
      generalize cleanM (v.keys.take k) v.l gMap = A at *
      generalize hB : cleanM (v.keys.take (k + 1)) v.l gMap = B at *
      generalize cleanV x = y at *
      unfold qV at *
      refine wk ?_
      refine run_again ?_
      refine ⟨⟨k + 1, by omega, by omega⟩, id, by simp only; omega, ?_⟩
      simp only [hB]
      exact sb
    · have g2 : decide ((k : Int) < (((pdVs v.l).length : Nat) : Int)) = false := decide_eq_false (by omega)
      simp only [cleanM_all v.keys v.l gMap k (.inr (by omega)), hr]
      unfold qV at *
      exact wke
  · have g1 : decide ((k : Int) < (((pdS v.keys).length : Nat) : Int)) = false := decide_eq_false (by omega)
    simp only [cleanM_all v.keys v.l gMap k (.inl (by omega)), hr]
    unfold qV at *
    exact wke
set_option maxHeartbeats 8000000 in
theorem clean_q : ∀ (x : GV), PCall Tryz.prog 72 [qV x] (qV (cleanV x))
  | .mk k n f s ks l => by
    have ih : ∀ x ∈ l, PCall Tryz.prog 72 [qV x] (qV (cleanV x)) := fun x _ => clean_q x
    have c1 := plainList_q l ih
    have c2 := plainMap_q (.mk k n f s ks l) ih
    clear ih
    simp only [GV.keys, GV.l] at c2
    unfold cleanV
    have e5 : cleanM ks l (GV.mk 6 0 0 ByteArray.empty [] []) = cleanM ks l gMap := rfl
    rw [e5]
    generalize cleanL l = cl at *
    generalize cleanM ks l gMap = cm at *
    obtain ⟨k', n', f', s', ks', l'⟩ := cm
    refine pcall_of_run Tryz.func72 rfl Tryz.ntmps72 rfl (fun X => ?_)
    simp only [qV, GV.keys, GV.l, GV.kind, GV.n, GV.f, GV.s, gNull] at c1 c2 ⊢
    by_cases h1 : k = 1
    · have g1 : decide (k = 1) = true := decide_eq_true h1
      by_cases hn : n = 0
      · have g : decide (n ≠ 0) = false := decide_eq_false (by simp [hn])
        simp only [h1, hn, if_true]
        exact wke
      · have g : decide (n ≠ 0) = true := decide_eq_true hn
        simp only [h1, hn, if_true, if_false]
        exact wke
    have g1 : decide (k = 1) = false := decide_eq_false h1
    rw [if_neg h1]
    by_cases h2 : k = 2
    · have g2 : decide (k = 2) = true := decide_eq_true h2
      rw [if_pos h2]
      exact wke
    have g2 : decide (k = 2) = false := decide_eq_false h2
    rw [if_neg h2]
    by_cases h3 : k = 3
    · have g3 : decide (k = 3) = true := decide_eq_true h3
      rw [if_pos h3]
      exact wke
    have g3 : decide (k = 3) = false := decide_eq_false h3
    rw [if_neg h3]
    by_cases h4 : k = 4
    · have g4 : decide (k = 4) = true := decide_eq_true h4
      rw [if_pos h4]
      exact wke
    have g4 : decide (k = 4) = false := decide_eq_false h4
    rw [if_neg h4]
    by_cases h5 : k = 5
    · have g5 : decide (k = 5) = true := decide_eq_true h5
      rw [if_pos h5]
      exact wke
    have g5 : decide (k = 5) = false := decide_eq_false h5
    rw [if_neg h5]
    by_cases h6 : k = 6
    · have g6 : decide (k = 6) = true := decide_eq_true h6
      rw [if_pos h6]
      exact wke
    have g6 : decide (k = 6) = false := decide_eq_false h6
    rw [if_neg h6]
    exact wke
end Go.Proofs.YtgmahieoiifpfaaGreat
end
section
set_option linter.unusedVariables false
namespace Go.Proofs.YtgmahieoiifpfaaGreat
open Go.RowKit
set_option linter.unusedSimpArgs false
theorem JOks_of : ∀ {l : List JV}, (∀ y ∈ l, JOk y) → JOks l
  | [], _ => by unfold JOks; trivial
  | x :: r, h => by unfold JOks; exact ⟨h x (by simp), JOks_of fun y hy => h y (by simp [hy])⟩
theorem repJ_js {w : World} {F : Nat → Prop} {b : Nat} : ∀ {l : List JV} {o : Nat}, RepL w F 1 (l.map pdJ) b o → IsJs w F l b o ∧ ∀ y ∈ l, JOk y
  | [], o, _ => ⟨by unfold IsJs; trivial, by simp⟩
  | x :: r, o, h => by
    rw [List.map_cons] at h
    unfold RepL at h
    obtain ⟨⟨u, hu, hn, h1, hl⟩, hr⟩ := h
    unfold pdJ Rep at hu
    obtain ⟨e1, e2⟩ := repJ_js hr
    unfold IsJs
    refine ⟨⟨⟨u, ?_, hu.1⟩, e1⟩, fun y hy => ?_⟩
    · have := hl 0 u (by rw [one_toList hu.1.oneCell]; rfl)
      simpa using this
    · rcases List.mem_cons.1 hy with rfl | hy
      · exact hu.2
      · exact e2 y hy
theorem le_jlist {l : List JV} (hl : l.length * 88 ≤ 140737488351232) : PLe (.iface 276 (.sl 1 16 (l.map pdJ))) (pdJ (.list l)) := by
  intro w F v h
  unfold Rep at h
  obtain ⟨u, rfl, h⟩ := h
  unfold Rep at h
  rw [List.length_map] at h
  obtain ⟨a, c, rfl, h1, h2, h3, h4⟩ := h
  unfold pdJ Rep
  show IsJ _ _ _ _ ∧ JOk _
  unfold IsJ JOk
  rcases h4 with h4 | ⟨b, o, hb, ha, hr⟩
  · have : l = [] := by simpa using h4
    subst this
    exact ⟨⟨a, c, rfl, h2, .inl rfl⟩, hl, by unfold JOks; trivial⟩
  · obtain ⟨e1, e2⟩ := repJ_js hr
    exact ⟨⟨a, c, rfl, h2, .inr ⟨b, o, hb, ha, e1⟩⟩, hl, JOks_of e2⟩
theorem le_jmap {m : List (ByteArray × JV)} : PLe (.iface 277 (dvMm m)) (pdJ (.map m)) := by
  intro w F v h
  unfold Rep at h
  obtain ⟨u, rfl, h⟩ := h
  unfold dvMm Rep at h
  obtain ⟨b, es, cl, rfl, hb, hh, h1, h2, h3, h4⟩ := h
  unfold pdJ Rep
  refine ⟨?_, h4⟩
  unfold IsJ
  exact ⟨b, es, cl, rfl, hb, hh, h1, h2, h3⟩
theorem le_jx {j : JV} (h : (∀ l, j ≠ .list l) ∧ ∀ m, j ≠ .map m) : PLe (dvX j) (pdJ j) := by
  intro w F v hv
  unfold pdJ Rep
  have e : ∀ {T : TypeId} {u : Value}, Rep w F (.iface T (.val u)) v → v = .iface T u ∧ okV u := fun h => by
    unfold Rep at h
    obtain ⟨y, rfl, h⟩ := h
    unfold Rep at h
    exact ⟨by rw [h.1], h.2⟩
  cases j with
  | null => unfold dvX Rep at hv; exact ⟨by unfold IsJ; exact hv.1, by unfold JOk; trivial⟩
  | bool b => unfold dvX at hv; exact ⟨by unfold IsJ; exact (e hv).1, by unfold JOk; trivial⟩
  | int n => unfold dvX at hv; exact ⟨by unfold IsJ; exact e hv, by unfold JOk; trivial⟩
  | flt n => unfold dvX at hv; exact ⟨by unfold IsJ; exact e hv, by unfold JOk; trivial⟩
  | str n => unfold dvX at hv; exact ⟨by unfold IsJ; exact e hv, by unfold JOk; trivial⟩
  | list l => exact absurd rfl (h.1 l)
  | map m => exact absurd rfl (h.2 m)
instance : MTI Tryz.prog 277 9 20 := ⟨by kernel_rfl, by kernel_rfl, by kernel_rfl⟩
theorem plainJs_map (l : List GV) : plainJs l = l.map plainJ := by
  induction l with
  | nil => unfold plainJs; rfl
  | cons x r ih => unfold plainJs; rw [ih]; rfl
set_option maxHeartbeats 8000000 in
theorem plainMap_r (x : GV) (ih : ∀ y ∈ x.l, PCall Tryz.prog 132 [qV y] (pdJ (plainJ y))) (hl : x.l.length * 88 ≤ 140737488351232) (hk : x.keys.length ≤ 140737488351232) : ACall1 Tryz.prog 195 [.dat (qV x)] [] (.own 0) [(0, .res (mapR (plainM x.keys x.l [])))] := by
  have hks := pdS_len x.keys
  have hls := pdVs_len x.l
  unfold qV
  refine acall_of_run Tryz.func195 rfl Tryz.ntmps195 rfl (fun X => ?_)
  refine wk ?_
  refine run_loopS (ι := { j : Nat // j ≤ x.keys.length })
    (fun j => [(1, .ptr 1 0), (3, .own 6), (8, .dat (.sl 1 16 (pdS x.keys))), (9, .dat (.val (.int .i64 ((pdS x.keys).length : Nat)))), (10, .dat (.val (.int .i64 (j.1 : Nat))))])
    (fun j => [(1, .box 27 (cellsD (qV x))), (6, .res (mapR (plainM (x.keys.take j.1) x.l [])))]) (fun j => x.keys.length - j.1) ⟨0, Nat.zero_le _⟩ id ?_ ?_
  · simp only [List.take_zero, plainM]
    exact sb
  rintro ⟨j, hj⟩
  by_cases hlt : j < x.keys.length
  · have hc : decide ((j : Int) < (((pdS x.keys).length : Nat) : Int)) = true := by rw [hks]; simpa using hlt
    obtain ⟨k, hkk⟩ : ∃ k, x.keys[j]? = some k := ⟨_, List.getElem?_eq_getElem hlt⟩
    have i1 : (pdS x.keys)[((j : Nat) : Int).toNat]? = some (.val (.string k)) := pdS_at hkk
    by_cases hjl : j < x.l.length
    · have hc2 : decide ((j : Int) < (((pdVs x.l).length : Nat) : Int)) = true := by rw [hls]; simpa using hjl
      obtain ⟨y, hy⟩ : ∃ y, x.l[j]? = some y := ⟨_, List.getElem?_eq_getElem hjl⟩
      have i2 : (pdVs x.l)[((j : Nat) : Int).toNat]? = some (qV y) := (pdVs_at hy).trans (by rw [pdV_q])
      have hC := ih y (List.mem_of_getElem? hy)
      have hm := plainM_length (x.keys.take j) x.l []
      have e := plainM_step x.keys x.l [] j k y hkk hy
      have hb : ((plainM (x.keys.take j) x.l []).length + 1) * 88 ≤ 140737488351232 := by
        have : (x.keys.take j).length ≤ j := by simp; omega
        simp only [List.length_nil] at hm
        omega
      unfold qV at *
      refine wk ?_
      refine k_mapUpdR rfl rfl rfl rfl hb ?_
      refine wk ?_
      refine run_again ?_
      refine ⟨⟨j + 1, by omega⟩, id, by simp only; omega, ?_⟩
      simp only [e]
      exact sb
    · have hc2 : decide ((j : Int) < (((pdVs x.l).length : Nat) : Int)) = false := by rw [hls]; simpa using hjl
      have e := plainM_over x.keys x.l [] j (by omega)
      unfold qV at *
      refine wk ?_
      refine run_again ?_
      refine ⟨⟨j + 1, by omega⟩, id, by simp only; omega, ?_⟩
      simp only [e]
      exact sb
  · have hc : decide ((j : Int) < (((pdS x.keys).length : Nat) : Int)) = false := by rw [hks]; simpa using hlt
    have e : x.keys.take j = x.keys := List.take_of_length_le (by omega)
    simp only [e]
    unfold qV at *
    refine wk ?_
    refine run_retA () (thk [(0, 6)] 0) (tm := [(2, .own 0)]) ?_ (resA_tmp rfl rfl)
    exact sb
set_option maxHeartbeats 8000000 in
theorem plainList_r (l : List GV) (ih : ∀ y ∈ l, PCall Tryz.prog 132 [qV y] (pdJ (plainJ y))) (k n : Int) (f : Nat) (s : ByteArray) (ks : List ByteArray) (hk : k = 5) : PCall Tryz.prog 132 [qV (.mk k n f s ks l)] (pdJ (.list (plainJs l))) := by
  refine pcall_fits fun hfit => ?_
  have b0 := (Fits.aggAt (hfit (qV (.mk k n f s ks l)) (by simp)) 5 (d := .sl 6 88 (pdVs l)) rfl).sl
  have b1 := b0.1
  have b2 := b0.2.1
  clear hfit b0
  have n1 := pdVs_len l
  rw [n1] at b1 b2
  refine pcall_of_run Tryz.func132 rfl Tryz.ntmps132 rfl (fun X => ?_)
  subst hk
  simp only [qV, GV.kind, GV.n, GV.f, GV.s, GV.keys, GV.l]
  have q0 : (pdVs l).length * 16 ≤ 140737488351232 := by omega
  refine wk ?_
  refine run_loopS (ι := { k : Nat // k ≤ l.length })
    (fun k => [(3, .own 100), (36, .dat (.sl 6 88 (pdVs l))), (37, .dat (.val (.int .i64 ((pdVs l).length : Nat)))), (38, .dat (.val (.int .i64 (k.1 : Nat))))])
    (fun k => [(100, .row 20 1 16 ((l.take k.1).map fun x => pdJ (plainJ x)))]) (fun k => l.length - k.1) ⟨0, Nat.zero_le _⟩ (fun j => if j = 100 then 34 else j) ?_ ?_
  · exact sb
  rintro ⟨k, hk⟩
  by_cases hlt : k < l.length
  · have hc : decide ((k : Int) < (((pdVs l).length : Nat) : Int)) = true := decide_eq_true (by omega)
    obtain ⟨x, hx⟩ : ∃ x, l[k]? = some x := ⟨_, List.getElem?_eq_getElem hlt⟩
    have hi : (pdVs l)[((k : Nat) : Int).toNat]? = some (qV x) := (pdVs_at hx).trans (by rw [pdV_q])
    have c := ih x (List.mem_of_getElem? hx)
    have hbt : (((l.take k).map fun x => pdJ (plainJ x)).length + [pdJ (plainJ x)].length) * 16 ≤ 140737488351232 := by simp; omega
    have hbl : ((l.take k).map fun x => pdJ (plainJ x)).length + [pdJ (plainJ x)].length ≤ 140737488351232 := by simp; omega
    have e : ((l.take (k + 1)).map fun x => pdJ (plainJ x)) = ((l.take k).map fun x => pdJ (plainJ x)) ++ [pdJ (plainJ x)] := by simp [List.take_add_one, hx]
    generalize ((l.take k).map fun x => pdJ (plainJ x)) = da at *
    unfold qV at *
    refine wk ?_
    refine run_again ?_
    refine ⟨⟨k + 1, by omega⟩, (fun j => if j = 100 then 46 else j), by simp only; omega, ?_⟩
    rw [e]
    exact sb
  · have hc : decide ((k : Int) < (((pdVs l).length : Nat) : Int)) = false := decide_eq_false (by omega)
    have hkk : l.take k = l := List.take_of_length_le (by omega)
    simp only [hkk]
    refine run_frz (fun _ => false) (fun k => k == 100) ?_
    refine wk ?_
    refine run_retOk (resOk_tmp rfl rfl ?_)
    have := le_jlist (l := plainJs l) (by rw [plainJs_length]; exact b1)
    rw [plainJs_map, List.map_map] at this
    rw [plainJs_map]
    exact this
set_option maxHeartbeats 8000000 in
theorem plain_q : ∀ (x : GV), PCall Tryz.prog 132 [qV x] (pdJ (plainJ x))
  | .mk k n f s ks l => by
    have ih : ∀ x ∈ l, PCall Tryz.prog 132 [qV x] (pdJ (plainJ x)) := fun x _ => plain_q x
    by_cases h5 : k = 5
    · have e : plainJ (.mk k n f s ks l) = .list (plainJs l) := by unfold plainJ; subst h5; rfl
      rw [e]
      exact plainList_r l ih k n f s ks h5
    refine pcall_fits fun hfit => ?_
    have b0 := (Fits.aggAt (hfit (qV (.mk k n f s ks l)) (by simp)) 5 (d := .sl 6 88 (pdVs l)) rfl).sl
    have b1 := (Fits.aggAt (hfit (qV (.mk k n f s ks l)) (by simp)) 4 (d := .sl 1 16 (pdS ks)) rfl).sl.2.1
    rw [pdVs_len] at b0
    rw [pdS_len] at b1
    have c := plainMap_r (.mk k n f s ks l) ih b0.1 b1
    clear ih hfit b0 b1
    have g5 : decide (k = 5) = false := decide_eq_false h5
    unfold plainJ
    simp only [qV, GV.kind, GV.n, GV.f, GV.s, GV.keys, GV.l] at c ⊢
    refine pcall_of_run Tryz.func132 rfl Tryz.ntmps132 rfl (fun X => ?_)
    rw [if_neg h5]
    by_cases h1 : k = 1
    · have g1 : decide (k = 1) = true := decide_eq_true h1
      rw [if_pos h1]
      refine wk ?_
      rw [show (n != 0) = decide (n ≠ 0) from by simp [bne, int_beq]]
      exact run_retOk (resOk_tmp rfl rfl (le_jx (j := .bool (decide (n ≠ 0))) (by simp)))
    have g1 : decide (k = 1) = false := decide_eq_false h1
    rw [if_neg h1]
    by_cases h2 : k = 2
    · have g2 : decide (k = 2) = true := decide_eq_true h2
      rw [if_pos h2]
      refine wk ?_
      exact run_retOk (resOk_tmp rfl rfl (le_jx (j := .int n) (by simp)))
    have g2 : decide (k = 2) = false := decide_eq_false h2
    rw [if_neg h2]
    by_cases h3 : k = 3
    · have g3 : decide (k = 3) = true := decide_eq_true h3
      rw [if_pos h3]
      refine wk ?_
      exact run_retOk (resOk_tmp rfl rfl (le_jx (j := .flt f) (by simp)))
    have g3 : decide (k = 3) = false := decide_eq_false h3
    rw [if_neg h3]
    by_cases h4 : k = 4
    · have g4 : decide (k = 4) = true := decide_eq_true h4
      rw [if_pos h4]
      refine wk ?_
      exact run_retOk (resOk_tmp rfl rfl (le_jx (j := .str s) (by simp)))
    have g4 : decide (k = 4) = false := decide_eq_false h4
    rw [if_neg h4]
    by_cases h6 : k = 6
    · have g6 : decide (k = 6) = true := decide_eq_true h6
      rw [if_pos h6]
      refine wk ?_
      refine k_acall1 (thk [] 200) rfl (by kernel_rfl) c rfl trivial rfl (freshB_ok rfl) rfl ?_
      refine wk ?_
      refine run_frz (fun _ => false) (fun k => k == 200) ?_
      exact run_retOk (resOk_tmp rfl rfl le_jmap)
    have g6 : decide (k = 6) = false := decide_eq_false h6
    rw [if_neg h6]
    exact wke
theorem allocO_c : ACall1 Tryz.prog 193 [.ptr 1000 0] [(1000, .box 274 [])] (.ptr 0 0) [(1000, .box 274 []), (0, .box 315 [.dat (.val .nilIface)])] := by
  refine acall_of_run Tryz.func193 rfl Tryz.ntmps193 rfl (fun X => ?_)
  refine wk ?_
  refine run_retA () (thk [(0, 4)] 0) (tm := [(2, .ptr 0 0)]) ?_ (resA_tmp rfl rfl)
  exact sb
theorem newV_q (j : JV) : PCall Tryz.prog 131 [pdJ j] (dvV j) := by
  refine pcall_of_run Tryz.func131 rfl Tryz.ntmps131 rfl (fun X => ?_)
  refine wk ?_
  refine k_acall1 (thk [(1000, 4)] 200) rfl (by kernel_rfl) allocO_c rfl ⟨rfl, trivial⟩ rfl (freshB_ok rfl) rfl ?_
  refine wk ?_
  refine k_acall1 (thk [(1000, 200)] 350) rfl (by kernel_rfl) (reuse_c (.dat (.val .nilIface)) j) rfl ⟨rfl, trivial⟩ rfl (freshB_ok rfl) rfl ?_
  refine wk ?_
  refine run_frz gV (fun k => k == 200) ?_
  exact wke
theorem toValue_q (x : GV) : PCall Tryz.prog 68 [qV x] (dvV (plainJ x)) := by
  have c1 := plain_q x
  have c2 := newV_q (plainJ x)
  unfold qV at *
  refine pcall_of_run Tryz.func68 rfl Tryz.ntmps68 rfl (fun X => ?_)
  exact wke
end Go.Proofs.YtgmahieoiifpfaaGreat
end
section
set_option linter.unusedVariables false
namespace Go.Proofs.YtgmahieoiifpfaaGreat
open Go.RowKit
set_option linter.unusedSimpArgs false
instance : MI Tryz.prog 271 "Unstructured" 306 (some 315) := ⟨by kernel_rfl⟩
section
variable {P : Program} {X : Base} {N : Nat} {Q : Exit → Act → World → Prop} {ops : Array Oper} {rem : List Nat} {ks : List Itm} {s s' : Sta}
end
theorem unstr_p (j : JV) : PCall Tryz.prog 306 [.agg [pdJ j]] (pdJ j) := by
  refine pcall_of_run Tryz.func306 rfl Tryz.ntmps306 rfl (fun X => ?_)
  repeat' (first
    | refine run_seq ?_
    | (refine k_pick rfl ?_; first | refine k_assignD rfl rfl ?_ | refine k_fieldAddrB rfl rfl rfl ?_ | refine k_loadBD rfl rfl rfl (by first | rfl | (simp only [cellsD]; rfl)) ?_ | refine k_boxW rfl rfl rfl (by first | rfl | (simp only [cellsD]; rfl)) ?_)
    | refine run_opsEnd ?_
    | refine run_region ?_
    | refine run_retOk (resOk_tmp rfl rfl ?_)
    | fail)
  all_goals exact PLe.refl _
theorem has_p (m : List (ByteArray × JV)) (k : ByteArray) : PCall Tryz.prog 328 [dvMm m, .val (.string k)] (.val (.bool (lkJ m k).isSome)) := by
  refine pcall_of_run Tryz.func328 rfl Tryz.ntmps328 rfl (fun X => ?_)
  cases h : lkJ m k with
  | none =>
    repeat' (first
    | refine run_seq ?_
    | (refine k_pick rfl ?_; first | refine k_assignD rfl rfl ?_ | refine k_moveD rfl rfl ?_ | refine k_extract rfl rfl rfl ?_ | refine k_lookM rfl rfl rfl (by assumption) ?_)
    | refine run_opsEnd ?_
    | refine run_region ?_
    | refine run_retOk (resOk_tmp rfl rfl ?_)
    | fail)
    all_goals exact PLe.refl _
  | some x =>
    repeat' (first
    | refine run_seq ?_
    | (refine k_pick rfl ?_; first | refine k_assignD rfl rfl ?_ | refine k_moveD rfl rfl ?_ | refine k_extract rfl rfl rfl ?_ | refine k_lookM rfl rfl rfl (by assumption) ?_)
    | refine run_opsEnd ?_
    | refine run_region ?_
    | refine run_retOk (resOk_tmp rfl rfl ?_)
    | fail)
    all_goals exact PLe.refl _
end Go.Proofs.YtgmahieoiifpfaaGreat
end
section
set_option linter.unusedVariables false
namespace Go.Proofs.YtgmahieoiifpfaaGreat
set_option linter.unusedSimpArgs false
theorem lkJ_getA : ∀ (m : List (ByteArray × JV)) (k : ByteArray), lkJ m k = getA m k
  | [], _ => rfl
  | x :: r, k => by unfold lkJ getA; rw [lkJ_getA r k]
theorem nodup_sub {α : Type} [DecidableEq α] : ∀ {a l : List α}, a.Nodup → (∀ x ∈ a, x ∈ l) → l.length ≤ a.length → ∀ x ∈ l, x ∈ a
  | a, l, hn, hs, hl, x, hx => by
    by_cases h : x ∈ a
    · exact h
    · have := nodup_len (a := x :: a) (l := l) (List.nodup_cons.2 ⟨h, hn⟩) (fun y hy => by
        rcases List.mem_cons.1 hy with rfl | hy
        · exact hx
        · exact hs y hy)
      simp at this; omega
theorem incr_ext {a b : List ByteArray} (ha : Incr a) (hb : Incr b) (h : ∀ k, k ∈ a ↔ k ∈ b) : a = b := by
  have hg1 : ∀ (l : List ByteArray) (k : ByteArray), k ∈ l → getA (l.map fun k => (k, ())) k = some () := by
    intro l k hk
    induction l with
    | nil => simp at hk
    | cons x r ih =>
      simp only [List.map_cons, getA]
      by_cases e : x = k
      · rw [if_pos e]
      · rw [if_neg e]
        rcases List.mem_cons.1 hk with h | h
        · exact absurd h.symm e
        · exact ih h
  have hg2 : ∀ (l : List ByteArray) (k : ByteArray), k ∉ l → getA (l.map fun k => (k, ())) k = none := by
    intro l k hk
    exact getA_none fun e he => by
      obtain ⟨x, hx, rfl⟩ := List.mem_map.1 he
      exact fun e => hk (e ▸ hx)
  have e1 : ∀ l : List ByteArray, (l.map fun k => (k, ())).map (·.1) = l := fun l => by
    induction l with
    | nil => rfl
    | cons x r ih => simp only [List.map_cons, ih]
  have := getA_ext (a := a.map fun k => (k, ())) (b := b.map fun k => (k, ())) (by rw [e1]; exact ha) (by rw [e1]; exact hb) (fun k => by
    by_cases hk : k ∈ a
    · rw [hg1 _ _ hk, hg1 _ _ ((h k).1 hk)]
    · rw [hg2 _ _ hk, hg2 _ _ (fun hb => hk ((h k).2 hb))])
  have := congrArg (List.map (·.1)) this
  rwa [e1, e1] at this
theorem incr_nd {ks : List ByteArray} (h : Incr ks) : ks.Nodup := List.Pairwise.imp (fun {a b} hab e => by subst e; rw [blt_irrefl] at hab; cases hab) h
theorem zip_idx {α : Type} {ks : List ByteArray} {l : List α} (hl : ks.length = l.length) (hi : Incr ks) {k : ByteArray} {x : α} : getA (ks.zip l) k = some x ↔ ∃ i : Nat, ks[i]? = some k ∧ l[i]? = some x := by
  constructor
  · intro h
    obtain ⟨i, hi'⟩ := List.getElem?_of_mem (getA_mem h)
    rw [List.getElem?_zip_eq_some] at hi'
    exact ⟨i, hi'⟩
  · rintro ⟨i, h1, h2⟩
    refine getA_of_mem (by rw [zip_fst hl]; exact incr_nd hi) ?_
    exact List.mem_of_getElem? (i := i) (List.getElem?_zip_eq_some.2 ⟨h1, h2⟩)
/-- A map's plain value: its keys and values. -/
theorem unM_form {m : List (ByteArray × JV)} (hd : (m.map (·.1)).Nodup) : ∃ ks l, unM m gMap = .mk 6 0 0 ByteArray.empty ks l ∧ Incr ks ∧ ks.length = l.length ∧ (∀ k, k ∈ ks ↔ k ∈ m.map (·.1)) ∧ ∀ k x, (∃ i : Nat, ks[i]? = some k ∧ l[i]? = some x) ↔ ∃ j, getA m k = some j ∧ unJ j = x := by
  obtain ⟨ks, l, e, hi, hl⟩ := unM_plain m gMap gMap_plain
  have hg : ∀ k, getA (ks.zip l) k = (getA m k).map unJ := fun k => by
    have := getF_unM m gMap gMap_plain hd k
    rw [getF_gMap, Option.or_none, e] at this
    exact this
  have key : ∀ k x, (∃ i : Nat, ks[i]? = some k ∧ l[i]? = some x) ↔ ∃ j, getA m k = some j ∧ unJ j = x := fun k x => by
    rw [← zip_idx hl hi, hg, Option.map_eq_some_iff]
  refine ⟨ks, l, e, hi, hl, fun k => ?_, key⟩
  constructor
  · intro hk
    obtain ⟨i, hi'⟩ := List.getElem?_of_mem hk
    have hlt := (List.getElem?_eq_some_iff.1 hi').1
    obtain ⟨j, hj, _⟩ := (key k l[i]).1 ⟨i, hi', List.getElem?_eq_getElem (hl ▸ hlt)⟩
    exact List.mem_map_of_mem (f := (·.1)) (getA_mem hj)
  · intro hk
    obtain ⟨y, hy, rfl⟩ := List.mem_map.1 hk
    obtain ⟨i, h1, _⟩ := (key y.1 (unJ y.2)).2 ⟨y.2, getA_of_mem hd hy, rfl⟩
    exact List.mem_of_getElem? h1
end Go.Proofs.YtgmahieoiifpfaaGreat
end
section
set_option linter.unusedVariables false
namespace Go.Proofs.YtgmahieoiifpfaaGreat
open Go.RowKit
set_option linter.unusedSimpArgs false
/-- A value that may be there. -/
def valD : Option JV → PD
  | some j => dvV j
  | none => .val .nilIface
theorem get_p (m : List (ByteArray × JV)) (k : ByteArray) : PCall Tryz.prog 327 [dvMm m, dvA, .val (.string k)] (.tup [valD (lkJ m k), .val (.bool (lkJ m k).isSome)]) := by
  refine pcall_of_run Tryz.func327 rfl Tryz.ntmps327 rfl (fun X => ?_)
  cases h : lkJ m k with
  | none =>
    have hq : (!false) = true := rfl
    repeat' (first
    | refine run_seq ?_
    | (refine k_pick rfl ?_; first | refine k_assignD rfl rfl ?_ | refine k_moveD rfl rfl ?_ | refine k_extract rfl rfl rfl ?_ | refine k_not rfl rfl ?_ | refine k_lookM rfl rfl rfl (by assumption) ?_)
    | refine run_opsEnd ?_
    | refine run_region ?_
    | refine run_condT rfl (by first | rfl | assumption) ?_
    | refine run_retOk (resOk_tmp2 rfl rfl rfl ?_ ?_)
    | fail)
    all_goals exact PLe.refl _
  | some x =>
    repeat' (first
    | refine run_seq ?_
    | (refine k_pick rfl ?_; first | refine k_assignD rfl rfl ?_ | refine k_moveD rfl rfl ?_ | refine k_extract rfl rfl rfl ?_ | refine k_not rfl rfl ?_ | refine k_invAS1 (thk [] 200) rfl rfl (by kernel_rfl) (alloc_c) rfl trivial rfl (freshB_ok rfl) rfl ?_ | refine k_acall1 (thk [(1000, _)] 200) rfl (by kernel_rfl) (reuse_c (.dat (.val .nilIface)) x) rfl ⟨rfl, trivial⟩ rfl (freshB_ok rfl) rfl ?_ | refine k_assignI rfl rfl ?_ | refine k_lookM rfl rfl rfl (by assumption) ?_)
    | refine run_opsEnd ?_
    | refine run_region ?_
    | refine run_condF rfl (by first | rfl | assumption) ?_
    | fail)
    refine run_frz gV (fun _ => true) ?_
    refine run_retOk (resOk_tmp2 rfl rfl rfl ?_ ?_)
    all_goals exact PLe.refl _
theorem free_p (d : PD) : PCall Tryz.prog 307 [.ptr (.agg []), d] (.tup []) := by
  intro w F vs hF hvs
  have hl := hvs.length
  refine (calls_of_wp (R := fun e w' => ∃ v, e = .returned v ∧ Below w.heap.size w w' ∧ Rep w' (fun b => F b ∨ (w.heap.size ≤ b ∧ b < w'.heap.size)) (.tup []) v) Tryz.func307 rfl ?_)
  refine wp_skip ?_
  exact ⟨rfl, _, results_none rfl _ _ _, _, rfl, Below.refl _ _, by unfold Rep; exact ⟨[], rfl, by unfold Reps; rfl⟩⟩
theorem pdS_snoc (l : List ByteArray) (k : ByteArray) : pdS l ++ [.val (.string k)] = pdS (l ++ [k]) := by simp [pdS]
/-- The keys of one map. -/
theorem clo1_c (l : List ByteArray) (k : ByteArray) (j : JV) (hl : (l.length + 1) * 16 ≤ 140737488351232) :
    ACall1 Tryz.prog 341 [.dat (.val (.string k)), .iface 271 (.ptr 1002 0), .ptr 1000 0]
    [(1000, .box 24 [.own 1001]), (1001, .row 9 1 16 (pdS l)), (1002, .box 315 [.dat (pdJ j)])]
    (.dat (.val (.bool true)))
    [(1000, .box 24 [.own 0]), (1001, .dead), (1002, .box 315 [.dat (pdJ j)]), (0, .row 9 1 16 (pdS (l ++ [k])))] := by
  refine acall_of_run Tryz.func341 rfl Tryz.ntmps341 rfl (fun X => ?_)
  have hlen := pdS_len l
  have hb1 : ((pdS l).length + ([.val (.string k)] : List PD).length) * 16 ≤ 140737488351232 := by rw [hlen]; simpa using hl
  have hb2 : (pdS l).length + ([.val (.string k)] : List PD).length ≤ 140737488351232 := by rw [hlen]; simp; omega
  repeat' (first
    | refine run_seq ?_
    | (refine k_pick rfl ?_; first | refine k_appendOO rfl rfl rfl rfl rfl rfl (by kernel_rfl) rfl rfl hb1 hb2 ?_ | refine k_assignD rfl rfl ?_ | refine k_moveD rfl rfl ?_ | refine k_storeB rfl rfl rfl rfl rfl ?_ | refine k_loadBO rfl rfl rfl rfl ?_ | refine k_buildSlice rfl rfl (by kernel_rfl) rfl rfl rfl rfl rfl ?_)
    | refine run_opsEnd ?_
    | refine run_region ?_
    | fail)
  refine run_retA () (thk [(0, 9)] 0) (tm := [(5, .dat (.val (.bool true)))]) ?_ (resA_tmp rfl rfl)
  (refine ⟨?_, ?_, by rfl⟩ <;> repeat' (first | exact trivial | exact ALe.ptr rfl | exact ALe.own rfl | exact ALe.elt rfl | exact BLe.boxD _ _ | exact BLe.row rfl | exact BLe.res | exact BLe.dead rfl | exact ALe.dat (PLe.refl _) | exact CLe.nil | refine And.intro ?_ ?_ | refine ALe.iface ?_ | refine ALe.clo ?_ | refine CLe.cons ?_ ?_ | refine BLe.box ?_ | refine BLe.row ?_ | exact ALe.any _ | refine ALe.dat (PLe.of_eq ?_)))
  all_goals exact pdS_snoc l k
/-- The keys of the other, that the first has not. -/
theorem clo2_c (m : List (ByteArray × JV)) (l : List ByteArray) (k : ByteArray) (j : JV) (hl : (l.length + 1) * 16 ≤ 140737488351232) :
    ACall1 Tryz.prog 342 [.dat (.val (.string k)), .iface 271 (.ptr 1003 0), .ptr 1000 0, .ptr 1001 0]
    [(1000, .box 321 [.dat (dvM m)]), (1001, .box 24 [.own 1002]), (1002, .row 9 1 16 (pdS l)), (1003, .box 315 [.dat (pdJ j)])]
    (.dat (.val (.bool true)))
    [(1000, .box 321 [.dat (dvM m)]), (1001, .box 24 [.own 0]), (1002, .dead), (1003, .box 315 [.dat (pdJ j)]), (0, .row 9 1 16 (pdS (l ++ if (lkJ m k).isSome then [] else [k])))] := by
  have hH := has_p m k
  refine acall_of_run Tryz.func342 rfl Tryz.ntmps342 rfl (fun X => ?_)
  have hlen := pdS_len l
  have hb1 : ((pdS l).length + ([.val (.string k)] : List PD).length) * 16 ≤ 140737488351232 := by rw [hlen]; simpa using hl
  have hb2 : (pdS l).length + ([.val (.string k)] : List PD).length ≤ 140737488351232 := by rw [hlen]; simp; omega
  cases h : (lkJ m k).isSome with
  | true =>
    rw [h] at hH
    repeat' (first
    | refine run_seq ?_
    | (refine k_pick rfl ?_; first | refine k_assignD rfl rfl ?_ | refine k_moveD rfl rfl ?_ | refine k_loadBD rfl rfl rfl (by first | rfl | (simp only [cellsD]; rfl)) ?_ | refine k_pickF rfl rfl (by first | rfl | assumption) rfl ?_ | refine k_cmpNil rfl rfl rfl (by kernel_rfl) (by exact NilIs.ifc) rfl ?_)
    | refine run_opsEnd ?_
    | refine run_region ?_
    | refine run_condF rfl (by first | rfl | assumption) ?_
    | (refine k_guardY rfl rfl (by first | rfl | assumption) ?_; first | refine k_moveD rfl rfl ?_ | refine k_loadBD rfl rfl rfl (by first | rfl | (simp only [cellsD]; rfl)) ?_ | refine k_not rfl rfl ?_ | refine k_invS rfl rfl (by kernel_rfl) rfl (by first | exact hH) ?_)
    | refine run_skip ?_
    | fail)
    refine run_retA () (thk [(0, 1002)] 0) (tm := [(6, .dat (.val (.bool true)))]) ?_ (resA_tmp rfl rfl)
    (refine ⟨?_, ?_, by rfl⟩ <;> repeat' (first | exact trivial | exact ALe.ptr rfl | exact ALe.own rfl | exact ALe.elt rfl | exact BLe.boxD _ _ | exact BLe.row rfl | exact BLe.res | exact BLe.dead rfl | exact ALe.dat (PLe.refl _) | exact CLe.nil | refine And.intro ?_ ?_ | refine ALe.iface ?_ | refine ALe.clo ?_ | refine CLe.cons ?_ ?_ | refine BLe.box ?_ | refine BLe.row ?_ | exact ALe.any _ | refine ALe.dat (PLe.of_eq ?_)))
    all_goals simp
  | false =>
    rw [h] at hH
    repeat' (first
    | refine run_seq ?_
    | (refine k_pick rfl ?_; first | refine k_appendOO rfl rfl rfl rfl rfl rfl (by kernel_rfl) rfl rfl hb1 hb2 ?_ | refine k_assignD rfl rfl ?_ | refine k_moveD rfl rfl ?_ | refine k_loadBD rfl rfl rfl (by first | rfl | (simp only [cellsD]; rfl)) ?_ | refine k_pickF rfl rfl (by first | rfl | assumption) rfl ?_ | refine k_storeB rfl rfl rfl rfl rfl ?_ | refine k_loadBO rfl rfl rfl rfl ?_ | refine k_buildSlice rfl rfl (by kernel_rfl) rfl rfl rfl rfl rfl ?_ | refine k_cmpNil rfl rfl rfl (by kernel_rfl) (by exact NilIs.ifc) rfl ?_)
    | refine run_opsEnd ?_
    | refine run_region ?_
    | refine run_condT rfl (by first | rfl | assumption) ?_
    | (refine k_guardY rfl rfl (by first | rfl | assumption) ?_; first | refine k_moveD rfl rfl ?_ | refine k_loadBD rfl rfl rfl (by first | rfl | (simp only [cellsD]; rfl)) ?_ | refine k_not rfl rfl ?_ | refine k_invS rfl rfl (by kernel_rfl) rfl (by first | exact hH) ?_)
    | fail)
    refine run_retA () (thk [(0, 18)] 0) (tm := [(6, .dat (.val (.bool true)))]) ?_ (resA_tmp rfl rfl)
    (refine ⟨?_, ?_, by rfl⟩ <;> repeat' (first | exact trivial | exact ALe.ptr rfl | exact ALe.own rfl | exact ALe.elt rfl | exact BLe.boxD _ _ | exact BLe.row rfl | exact BLe.res | exact BLe.dead rfl | exact ALe.dat (PLe.refl _) | exact CLe.nil | refine And.intro ?_ ?_ | refine ALe.iface ?_ | refine ALe.clo ?_ | refine CLe.cons ?_ ?_ | refine BLe.box ?_ | refine BLe.row ?_ | exact ALe.any _ | refine ALe.dat (PLe.of_eq ?_)))
    all_goals (simp only [Bool.false_eq_true, if_false]; exact pdS_snoc l k)
end Go.Proofs.YtgmahieoiifpfaaGreat
end
section
set_option linter.unusedVariables false
namespace Go.Proofs.YtgmahieoiifpfaaGreat
open Go.RowKit
set_option linter.unusedSimpArgs false
theorem more_len {m done : List (ByteArray × JV)} {y : ByteArray × JV} (hnd : (done.map (·.1)).Nodup) (hsub : ∀ z ∈ done, z ∈ m) (hy : y ∈ m) (hny : y.1 ∉ done.map (·.1)) : done.length + 1 ≤ m.length := by
  have := nodup_len (a := (done ++ [y]).map (·.1)) (l := m.map (·.1)) (by
    rw [List.map_append, List.nodup_append]
    exact ⟨hnd, by simp, fun a ha b hb => by simp at hb; subst hb; exact fun e => hny (e ▸ ha)⟩) (fun x hx => by
    obtain ⟨z, hz, rfl⟩ := List.mem_map.1 hx
    rcases List.mem_append.1 hz with hz | hz
    · exact List.mem_map_of_mem (hsub z hz)
    · simp at hz; rw [hz]; exact List.mem_map_of_mem hy)
  simpa using this
theorem more_nd {done : List (ByteArray × JV)} {y : ByteArray × JV} (hnd : (done.map (·.1)).Nodup) (hny : y.1 ∉ done.map (·.1)) : ((done ++ [y]).map (·.1)).Nodup := by
  rw [List.map_append, List.nodup_append]
  exact ⟨hnd, by simp, fun a ha b hb => by simp at hb; subst hb; exact fun e => hny (e ▸ ha)⟩
theorem more_sub {m done : List (ByteArray × JV)} {y : ByteArray × JV} (hsub : ∀ z ∈ done, z ∈ m) (hy : y ∈ m) : ∀ z ∈ done ++ [y], z ∈ m := by
  intro z hz
  rcases List.mem_append.1 hz with hz | hz
  · exact hsub z hz
  · simp at hz; rw [hz]; exact hy
theorem all_perm {m done : List (ByteArray × JV)} (hm : (m.map (·.1)).Nodup) (hnd : (done.map (·.1)).Nodup) (hsub : ∀ z ∈ done, z ∈ m) (hev : ∀ y ∈ m, y ∈ done) : (done.map (·.1)).Perm (m.map (·.1)) :=
  (List.perm_ext_iff_of_nodup hnd hm).2 fun k => ⟨fun h => by
    obtain ⟨z, hz, rfl⟩ := List.mem_map.1 h
    exact List.mem_map_of_mem (hsub z hz), fun h => by
    obtain ⟨z, hz, rfl⟩ := List.mem_map.1 h
    exact List.mem_map_of_mem (hev z hz)⟩
set_option maxHeartbeats 4000000 in
theorem iter1_c (m : List (ByteArray × JV)) (l : List ByteArray) (hm : (m.map (·.1)).Nodup) (hl : (l.length + m.length) * 16 ≤ 140737488351232) :
    ACall Tryz.prog 330 [.dat (dvMm m), .dat dvA, .clo 341 [.ptr 1000 0]]
    [(1000, .box 24 [.own 1001]), (1001, .row 9 1 16 (pdS l))] (ι := { q : List ByteArray // q.Perm (m.map (·.1)) })
    (fun _ => .dat (.val (.bool true))) (fun q => [(1000, .box 24 [.own 0]), (1001, .dead), (0, .row 9 1 16 (pdS (l ++ q.1)))]) := by
  refine acall_of_run Tryz.func330 rfl Tryz.ntmps330 rfl (fun X => ?_)
  by_cases hn : m = []
  · subst hn
    have hq : decide (((([] : List (ByteArray × JV)).length : Nat) : Int) = 0) = true := rfl
    repeat' (first
    | refine run_seq ?_
    | (refine k_pick rfl ?_; first | refine k_assignD rfl rfl ?_ | refine k_moveD rfl rfl ?_ | refine k_bin2B rfl rfl rfl rfl ?_ | refine k_lenM rfl rfl ?_)
    | refine run_opsEnd ?_
    | refine run_region ?_
    | refine run_condT rfl (by first | rfl | assumption) ?_
    | fail)
    refine run_retA ⟨[], .refl _⟩ (thk [(0, 1001)] 0) (tm := [(6, .dat (.val (.bool true)))]) ?_ (resA_tmp rfl rfl)
    (refine ⟨?_, ?_, by rfl⟩ <;> repeat' (first | exact trivial | exact ALe.ptr rfl | exact ALe.own rfl | exact ALe.elt rfl | exact BLe.boxD _ _ | exact BLe.row rfl | exact BLe.res | exact BLe.dead rfl | exact ALe.dat (PLe.refl _) | exact CLe.nil | refine And.intro ?_ ?_ | refine ALe.iface ?_ | refine ALe.clo ?_ | refine CLe.cons ?_ ?_ | refine BLe.box ?_ | refine BLe.row ?_ | exact ALe.any _ | refine ALe.dat (PLe.of_eq ?_)))
    all_goals simp
  · have hq : decide (((m.length : Nat) : Int) = 0) = false := by
      cases m with
      | nil => exact absurd rfl hn
      | cons x r => simp; omega
    repeat' (first
    | refine run_seq ?_
    | (refine k_pick rfl ?_; first | refine k_rangeM rfl rfl rfl ?_ | refine k_assignD rfl rfl ?_ | refine k_moveD rfl rfl ?_ | refine k_bin2B rfl rfl rfl rfl ?_ | refine k_assignP rfl rfl ?_ | refine k_moveP rfl rfl ?_ | refine k_invAS1 (thk [] 200) rfl rfl (by kernel_rfl) (alloc_c) rfl trivial rfl (freshB_ok rfl) rfl ?_ | refine k_nilI rfl rfl ?_ | refine k_ifaceP rfl rfl (by kernel_rfl) ?_ | refine k_lenM rfl rfl ?_ | refine k_deferA rfl free_idle ?_)
    | refine run_opsEnd ?_
    | refine run_region ?_
    | refine run_condF rfl (by first | rfl | assumption) ?_
    | refine run_block ?_
    | refine run_skip ?_
    | fail)
    refine run_loopS (ι := { done : List (ByteArray × JV) // (done.map (·.1)).Nodup ∧ (∀ y ∈ done, y ∈ m) })
      (fun k => [(2, .clo 341 [.ptr 1000 0]), (7, .ptr 200 0), (20, .own 20)])
      (fun k => [(20, .res (itR m k.1)), (200, .box 315 [.any]), (1000, .box 24 [.own 300]), (1001, .dead), (300, .row 9 1 16 (pdS (l ++ k.1.map (·.1))))])
      (fun k => m.length - k.1.length) ⟨[], by simp, by simp⟩ (thk [(300, 1001)] 0) ?_ ?_
    · (refine ⟨?_, ?_, by rfl⟩ <;> repeat' (first | exact trivial | exact ALe.ptr rfl | exact ALe.own rfl | exact ALe.elt rfl | exact BLe.boxD _ _ | exact BLe.row rfl | exact BLe.res | exact BLe.dead rfl | exact ALe.dat (PLe.refl _) | exact CLe.nil | refine And.intro ?_ ?_ | refine ALe.iface ?_ | refine ALe.clo ?_ | refine CLe.cons ?_ ?_ | refine BLe.box ?_ | refine BLe.row ?_ | exact ALe.any _ | refine ALe.dat (PLe.of_eq ?_)))
      all_goals simp
    rintro ⟨done, hnd, hsub⟩
    repeat' (first
    | refine run_seq ?_
    | refine run_region ?_
    | fail)
    refine k_pick rfl (k_nextM rfl rfl rfl (fun hev => ?_) (fun y hy hny => ?_))
    · repeat' (first
    | refine run_seq ?_
    | (refine k_pick rfl ?_; first | refine k_assignD rfl rfl ?_ | refine k_extract rfl rfl rfl ?_)
    | refine run_opsEnd ?_
    | refine run_region ?_
    | refine run_condF rfl (by first | rfl | assumption) ?_
    | refine run_exit rfl ?_
    | fail)
      refine run_retA ⟨done.map (·.1), all_perm hm hnd hsub hev⟩ (thk [(0, 300)] 0) (tm := [(6, .dat (.val (.bool true)))]) ?_ (resA_tmp rfl rfl)
      (refine ⟨?_, ?_, by rfl⟩ <;> repeat' (first | exact trivial | exact ALe.ptr rfl | exact ALe.own rfl | exact ALe.elt rfl | exact BLe.boxD _ _ | exact BLe.row rfl | exact BLe.res | exact BLe.dead rfl | exact ALe.dat (PLe.refl _) | exact CLe.nil | refine And.intro ?_ ?_ | refine ALe.iface ?_ | refine ALe.clo ?_ | refine CLe.cons ?_ ?_ | refine BLe.box ?_ | refine BLe.row ?_ | exact ALe.any _ | refine ALe.dat (PLe.of_eq ?_)))
    · have hml := more_len hnd hsub hy hny
      have hC := clo1_c (l ++ done.map (·.1)) y.1 y.2 (by simp; omega)
      have hq1 : (!true) = false := rfl
      repeat' (first
    | refine run_seq ?_
    | (refine k_pick rfl ?_; first | refine k_entryM rfl rfl rfl ?_ | refine k_assignD rfl rfl ?_ | refine k_moveD rfl rfl ?_ | refine k_extract rfl rfl rfl ?_ | refine k_not rfl rfl ?_ | refine k_moveP rfl rfl ?_ | refine k_acall1 (thk [(1000, _)] 200) rfl (by kernel_rfl) (reuse_c .any _) rfl ⟨rfl, trivial⟩ rfl (freshB_ok rfl) rfl ?_ | refine k_cloA1 (thk [(1000, _), (1001, _), (1002, _)] 350) rfl rfl (by kernel_rfl) (hC) rfl ⟨rfl, ⟨rfl, ⟨rfl, trivial⟩⟩⟩ rfl (freshB_ok rfl) rfl ?_ | refine k_moveC rfl rfl ?_)
    | refine run_opsEnd ?_
    | refine run_region ?_
    | refine run_condT rfl (by first | rfl | assumption) ?_
    | refine run_condF rfl (by first | rfl | assumption) ?_
    | refine run_block ?_
    | refine run_blkEnd ?_
    | refine run_skip ?_
    | fail)
      refine run_again ?_
      refine ⟨⟨done ++ [y], more_nd hnd hny, more_sub hsub hy⟩, thk [(300, 350)] 0, by simp only [List.length_append, List.length_cons, List.length_nil]; omega, ?_⟩
      (refine ⟨?_, ?_, by rfl⟩ <;> repeat' (first | exact trivial | exact ALe.ptr rfl | exact ALe.own rfl | exact ALe.elt rfl | exact BLe.boxD _ _ | exact BLe.row rfl | exact BLe.res | exact BLe.dead rfl | exact ALe.dat (PLe.refl _) | exact CLe.nil | refine And.intro ?_ ?_ | refine ALe.iface ?_ | refine ALe.clo ?_ | refine CLe.cons ?_ ?_ | refine BLe.box ?_ | refine BLe.row ?_ | exact ALe.any _ | refine ALe.dat (PLe.of_eq ?_)))
      all_goals simp
set_option maxHeartbeats 4000000 in
theorem iter2_c (p m : List (ByteArray × JV)) (l : List ByteArray) (hm : (m.map (·.1)).Nodup) (hl : (l.length + m.length) * 16 ≤ 140737488351232) :
    ACall Tryz.prog 330 [.dat (dvMm m), .dat dvA, .clo 342 [.ptr 1000 0, .ptr 1001 0]]
    [(1000, .box 321 [.dat (dvM p)]), (1001, .box 24 [.own 1002]), (1002, .row 9 1 16 (pdS l))] (ι := { q : List ByteArray // q.Perm ((m.map (·.1)).filter fun k => !(lkJ p k).isSome) })
    (fun _ => .dat (.val (.bool true))) (fun q => [(1000, .box 321 [.dat (dvM p)]), (1001, .box 24 [.own 0]), (1002, .dead), (0, .row 9 1 16 (pdS (l ++ q.1)))]) := by
  refine acall_of_run Tryz.func330 rfl Tryz.ntmps330 rfl (fun X => ?_)
  by_cases hn : m = []
  · subst hn
    have hq : decide (((([] : List (ByteArray × JV)).length : Nat) : Int) = 0) = true := rfl
    repeat' (first
    | refine run_seq ?_
    | (refine k_pick rfl ?_; first | refine k_assignD rfl rfl ?_ | refine k_moveD rfl rfl ?_ | refine k_bin2B rfl rfl rfl rfl ?_ | refine k_lenM rfl rfl ?_)
    | refine run_opsEnd ?_
    | refine run_region ?_
    | refine run_condT rfl (by first | rfl | assumption) ?_
    | fail)
    refine run_retA ⟨[], .refl _⟩ (thk [(0, 1002)] 0) (tm := [(6, .dat (.val (.bool true)))]) ?_ (resA_tmp rfl rfl)
    (refine ⟨?_, ?_, by rfl⟩ <;> repeat' (first | exact trivial | exact ALe.ptr rfl | exact ALe.own rfl | exact ALe.elt rfl | exact BLe.boxD _ _ | exact BLe.row rfl | exact BLe.res | exact BLe.dead rfl | exact ALe.dat (PLe.refl _) | exact CLe.nil | refine And.intro ?_ ?_ | refine ALe.iface ?_ | refine ALe.clo ?_ | refine CLe.cons ?_ ?_ | refine BLe.box ?_ | refine BLe.row ?_ | exact ALe.any _ | refine ALe.dat (PLe.of_eq ?_)))
    all_goals simp
  · have hq : decide (((m.length : Nat) : Int) = 0) = false := by
      cases m with
      | nil => exact absurd rfl hn
      | cons x r => simp; omega
    repeat' (first
    | refine run_seq ?_
    | (refine k_pick rfl ?_; first | refine k_rangeM rfl rfl rfl ?_ | refine k_assignD rfl rfl ?_ | refine k_moveD rfl rfl ?_ | refine k_bin2B rfl rfl rfl rfl ?_ | refine k_assignP rfl rfl ?_ | refine k_moveP rfl rfl ?_ | refine k_invAS1 (thk [] 200) rfl rfl (by kernel_rfl) (alloc_c) rfl trivial rfl (freshB_ok rfl) rfl ?_ | refine k_nilI rfl rfl ?_ | refine k_ifaceP rfl rfl (by kernel_rfl) ?_ | refine k_lenM rfl rfl ?_ | refine k_deferA rfl free_idle ?_)
    | refine run_opsEnd ?_
    | refine run_region ?_
    | refine run_condF rfl (by first | rfl | assumption) ?_
    | refine run_block ?_
    | refine run_skip ?_
    | fail)
    refine run_loopS (ι := { done : List (ByteArray × JV) // (done.map (·.1)).Nodup ∧ (∀ y ∈ done, y ∈ m) })
      (fun k => [(2, .clo 342 [.ptr 1000 0, .ptr 1001 0]), (7, .ptr 200 0), (20, .own 20)])
      (fun k => [(20, .res (itR m k.1)), (200, .box 315 [.any]), (1000, .box 321 [.dat (dvM p)]), (1001, .box 24 [.own 300]), (1002, .dead), (300, .row 9 1 16 (pdS (l ++ (k.1.map (·.1)).filter fun k => !(lkJ p k).isSome)))])
      (fun k => m.length - k.1.length) ⟨[], by simp, by simp⟩ (thk [(300, 1002)] 0) ?_ ?_
    · (refine ⟨?_, ?_, by rfl⟩ <;> repeat' (first | exact trivial | exact ALe.ptr rfl | exact ALe.own rfl | exact ALe.elt rfl | exact BLe.boxD _ _ | exact BLe.row rfl | exact BLe.res | exact BLe.dead rfl | exact ALe.dat (PLe.refl _) | exact CLe.nil | refine And.intro ?_ ?_ | refine ALe.iface ?_ | refine ALe.clo ?_ | refine CLe.cons ?_ ?_ | refine BLe.box ?_ | refine BLe.row ?_ | exact ALe.any _ | refine ALe.dat (PLe.of_eq ?_)))
      all_goals simp
    rintro ⟨done, hnd, hsub⟩
    repeat' (first
    | refine run_seq ?_
    | refine run_region ?_
    | fail)
    refine k_pick rfl (k_nextM rfl rfl rfl (fun hev => ?_) (fun y hy hny => ?_))
    · repeat' (first
    | refine run_seq ?_
    | (refine k_pick rfl ?_; first | refine k_assignD rfl rfl ?_ | refine k_extract rfl rfl rfl ?_)
    | refine run_opsEnd ?_
    | refine run_region ?_
    | refine run_condF rfl (by first | rfl | assumption) ?_
    | refine run_exit rfl ?_
    | fail)
      refine run_retA ⟨(done.map (·.1)).filter fun k => !(lkJ p k).isSome, (all_perm hm hnd hsub hev).filter _⟩ (thk [(0, 300)] 0) (tm := [(6, .dat (.val (.bool true)))]) ?_ (resA_tmp rfl rfl)
      (refine ⟨?_, ?_, by rfl⟩ <;> repeat' (first | exact trivial | exact ALe.ptr rfl | exact ALe.own rfl | exact ALe.elt rfl | exact BLe.boxD _ _ | exact BLe.row rfl | exact BLe.res | exact BLe.dead rfl | exact ALe.dat (PLe.refl _) | exact CLe.nil | refine And.intro ?_ ?_ | refine ALe.iface ?_ | refine ALe.clo ?_ | refine CLe.cons ?_ ?_ | refine BLe.box ?_ | refine BLe.row ?_ | exact ALe.any _ | refine ALe.dat (PLe.of_eq ?_)))
    · have hml := more_len hnd hsub hy hny
      have hfl := List.length_filter_le (fun k => !(lkJ p k).isSome) (done.map (·.1))
      have hC := clo2_c p (l ++ (done.map (·.1)).filter fun k => !(lkJ p k).isSome) y.1 y.2 (by simp at hfl ⊢; omega)
      have hq1 : (!true) = false := rfl
      repeat' (first
    | refine run_seq ?_
    | (refine k_pick rfl ?_; first | refine k_entryM rfl rfl rfl ?_ | refine k_assignD rfl rfl ?_ | refine k_moveD rfl rfl ?_ | refine k_extract rfl rfl rfl ?_ | refine k_not rfl rfl ?_ | refine k_moveP rfl rfl ?_ | refine k_acall1 (thk [(1000, _)] 200) rfl (by kernel_rfl) (reuse_c .any _) rfl ⟨rfl, trivial⟩ rfl (freshB_ok rfl) rfl ?_ | refine k_cloA1 (thk [(1000, _), (1001, _), (1002, _), (1003, _)] 350) rfl rfl (by kernel_rfl) (hC) rfl ⟨rfl, ⟨rfl, ⟨rfl, ⟨rfl, trivial⟩⟩⟩⟩ rfl (freshB_ok rfl) rfl ?_ | refine k_moveC rfl rfl ?_)
    | refine run_opsEnd ?_
    | refine run_region ?_
    | refine run_condT rfl (by first | rfl | assumption) ?_
    | refine run_condF rfl (by first | rfl | assumption) ?_
    | refine run_block ?_
    | refine run_blkEnd ?_
    | refine run_skip ?_
    | fail)
      refine run_again ?_
      refine ⟨⟨done ++ [y], more_nd hnd hny, more_sub hsub hy⟩, thk [(300, 350)] 0, by simp only [List.length_append, List.length_cons, List.length_nil]; omega, ?_⟩
      (refine ⟨?_, ?_, by rfl⟩ <;> repeat' (first | exact trivial | exact ALe.ptr rfl | exact ALe.own rfl | exact ALe.elt rfl | exact BLe.boxD _ _ | exact BLe.row rfl | exact BLe.res | exact BLe.dead rfl | exact ALe.dat (PLe.refl _) | exact CLe.nil | refine And.intro ?_ ?_ | refine ALe.iface ?_ | refine ALe.clo ?_ | refine CLe.cons ?_ ?_ | refine BLe.box ?_ | refine BLe.row ?_ | exact ALe.any _ | refine ALe.dat (PLe.of_eq ?_)))
      all_goals
        rw [List.map_append, List.filter_append, show List.filter (fun k => !(lkJ p k).isSome) ([y].map (·.1)) = (if (lkJ p y.1).isSome then [] else [y.1]) by
          simp only [List.map_cons, List.map_nil, List.filter_cons, List.filter_nil]
          cases hs : (lkJ p y.1).isSome <;> rfl, List.append_assoc]
end Go.Proofs.YtgmahieoiifpfaaGreat
end
section
namespace Go.Proofs.YtgmahieoiifpfaaGreat
open Go.RowKit
set_option linter.unusedSimpArgs false
/-- Whether two floating-point numbers are equal. -/
def feq (f g : Nat) : Bool := FloatKind.f64.format.order f g == some Ordering.eq
mutual
/-- No NaN, no whole number beyond 2^53. -/
def ordV : GV → Bool
  | .mk k n f _ _ l => if k = 2 then decide (-9007199254740992 ≤ n) && decide (n ≤ 9007199254740992) else if k = 3 then feq f f else if k = 5 then ordL l else if k = 6 then ordL l else true
def ordL : List GV → Bool
  | [] => true
  | x :: r => ordV x && ordL r
end
theorem ordL_iff : ∀ {l : List GV}, ordL l = true ↔ ∀ y ∈ l, ordV y = true
  | [] => by simp [ordL]
  | x :: r => by simp [ordL, ordL_iff (l := r)]
def OrdC (x : GV) : Prop := ∀ (w : World) (v : Value), IsV w (Btw 0 w.heap.size) x v → Calls Tryz.prog 93 #[v] w fun e w' => e = .returned (.bool (ordV x)) ∧ Below w.heap.size w w'
theorem OrdC.use {x : GV} (h : OrdC x) (w : World) (v : Value) (hv : IsV w (Btw 0 w.heap.size) x v) : Calls Tryz.prog 93 #[v] w fun e w' => e = .returned (.bool (ordV x)) ∧ Below w.heap.size w w' := h w v hv
set_option maxHeartbeats 1000000 in
set_option maxRecDepth 100000 in
theorem ord_flt (n : Int) (f : Nat) (s : ByteArray) (ks : List ByteArray) (l : List GV) : OrdC (.mk 3 n f s ks l) := by
  intro w v hv
  obtain ⟨a0, c0, a1, c1, rfl⟩ := hv.form
  simp only [GV.kind, GV.n, GV.f, GV.s, GV.keys, GV.l]
  clear hv
  have e : ordV (.mk 3 n f s ks l) = feq f f := by simp [ordV]
  rw [e]
  go_enter Tryz.func93, Tryz.ntmps93
  go_wp2_with fail
  go_ret
  exact ⟨rfl, (Below.refl _ _).alloc (Nat.le_refl _) _⟩
set_option maxHeartbeats 1000000 in
set_option maxRecDepth 100000 in
theorem ord_int (n : Int) (f : Nat) (s : ByteArray) (ks : List ByteArray) (l : List GV) : OrdC (.mk 2 n f s ks l) := by
  intro w v hv
  obtain ⟨a0, c0, a1, c1, rfl⟩ := hv.form
  simp only [GV.kind, GV.n, GV.f, GV.s, GV.keys, GV.l]
  clear hv
  have e : ordV (.mk 2 n f s ks l) = (decide (-9007199254740992 ≤ n) && decide (n ≤ 9007199254740992)) := by simp [ordV]
  rw [e]
  by_cases h1 : -9007199254740992 ≤ n
  · have e1 : decide (-9007199254740992 ≤ n) = true := by simpa using h1
    rw [e1, Bool.true_and]
    go_enter Tryz.func93, Tryz.ntmps93
    go_wp2_with fail
    go_ret
    exact ⟨rfl, (Below.refl _ _).alloc (Nat.le_refl _) _⟩
  · have e1 : decide (-9007199254740992 ≤ n) = false := by simpa using h1
    rw [e1, Bool.false_and]
    go_enter Tryz.func93, Tryz.ntmps93
    go_wp2_with fail
    go_ret
    exact ⟨rfl, (Below.refl _ _).alloc (Nat.le_refl _) _⟩
set_option maxHeartbeats 1000000 in
set_option maxRecDepth 100000 in
theorem ord_other (k n : Int) (f : Nat) (s : ByteArray) (ks : List ByteArray) (l : List GV) (h2 : k ≠ 2) (h3 : k ≠ 3) (h5 : k ≠ 5) (h6 : k ≠ 6) : OrdC (.mk k n f s ks l) := by
  intro w v hv
  obtain ⟨a0, c0, a1, c1, rfl⟩ := hv.form
  simp only [GV.kind, GV.n, GV.f, GV.s, GV.keys, GV.l]
  clear hv
  have e : ordV (.mk k n f s ks l) = true := by simp [ordV, h2, h3, h5, h6]
  rw [e]
  have k2 : (k == 2) = false := by simp [h2]
  have k3 : (k == 3) = false := by simp [h3]
  have k5 : (k == 5) = false := by simp [h5]
  have k6 : (k == 6) = false := by simp [h6]
  go_enter Tryz.func93, Tryz.ntmps93
  go_wp2_with fail
  go_ret
  exact ⟨rfl, (Below.refl _ _).alloc (Nat.le_refl _) _⟩
set_option maxHeartbeats 1000000 in
set_option maxRecDepth 100000 in
theorem ord_list5 (n : Int) (f : Nat) (s : ByteArray) (ks : List ByteArray) (l : List GV) (ih : ∀ y ∈ l, OrdC y) : OrdC (.mk 5 n f s ks l) := by
  intro w v hv
  have hl88 := hv.len
  have hv0 := hv
  obtain ⟨a0, c0, a1, c1, rfl⟩ := hv.form
  have hl := hv0.vals
  simp only [GV.kind, GV.n, GV.f, GV.s, GV.keys, GV.l] at hl hl88 ⊢
  clear hv hv0
  have e : ordV (.mk 5 n f s ks l) = ordL l := by simp [ordV]
  rw [e]
  go_enter Tryz.func93, Tryz.ntmps93
  go_wp2_with fail
  have hB0 : Below w.heap.size w (w.alloc (.cells #[.int .i64 5, .int .i64 n, .float .f64 f, .string s, .slice a0 ks.length c0, .slice a1 l.length c1] 27)) := (Below.refl _ _).alloc (Nat.le_refl _) _
  generalize w.alloc (.cells #[.int .i64 5, .int .i64 n, .float .f64 f, .string s, .slice a0 ks.length c0, .slice a1 l.length c1] 27) = w0 at *
  go_loopw [30] (fun i wr => ∃ k : Nat, k ≤ l.length ∧ i = .int .i64 (k : Nat) ∧ Below w.heap.size w wr ∧ ∀ y ∈ l.take k, ordV y = true) (fun i _ => l.length - (intOf i).toNat)
  case atStart => exact ⟨0, Nat.zero_le _, rfl, hB0, by simp⟩
  case round =>
    clear hB0
    obtain ⟨k, hk, rfl, hB, hall⟩ := hrel
    by_cases hlt : k < l.length
    · obtain ⟨b, o, hb, rfl, hcells⟩ := vals_at hl (by omega)
      obtain ⟨y, hy⟩ : ∃ y, l[k]? = some y := ⟨l[k], by simp [hlt]⟩
      obtain ⟨e0, f0, e1, f1, g0, g1, g2, g3, g4, g5, hyv⟩ := (IsVs.keep (S' := Btw 0 wr.heap.size) (Btw.kept hB) (Btw.mono (Nat.le_refl _) hB.size) l b o hb hcells).cells hy
      have hc := ih y (List.mem_of_getElem? hy)
      have hyA := hyv.alloc_ (.cells #[.int .i64 y.kind, .int .i64 y.n, .float .f64 y.f, .string y.s, .slice e0 y.keys.length f0, .slice e1 y.l.length f1] 27)
      have HY := Lib.hid (And.intro hy (And.intro hall hB))
      have j0 : (0 : Int) ≤ (k : Int) := by omega
      have j1 : (k : Int) < (l.length : Int) := by omega
      have hs := hB.size
      clear hy hall hB hcells hyv
      go_wp2_with (go_at_call 93; (with_reducible refine (hc.use _ _ ?_).mono ?_))
      · simpa using hyA
      rintro e w2 ⟨rfl, hB2'⟩
      obtain ⟨hy, hall, hB⟩ := HY.out
      have hB2 : Below w.heap.size w w2 := (hB.alloc hs (.cells #[.int .i64 y.kind, .int .i64 y.n, .float .f64 y.f, .string y.s, .slice e0 y.keys.length f0, .slice e1 y.l.length f1] 27)).trans (hB2'.mono (by simp; omega))
      clear g0 g1 g2 g3 g4 g5 hyA hc HY hB2'
      cases ho : ordV y with
      | false =>
        have hf : ordL l = false := by
          cases h : ordL l with
          | false => rfl
          | true => rw [ordL_iff.1 h y (List.mem_of_getElem? hy)] at ho; cases ho
        go_wp2_with fail
        go_ret
        rw [hf]
        exact ⟨rfl, hB2⟩
      | true =>
        have HF := Lib.hid (show ∀ z ∈ l.take (k + 1), ordV z = true from fun z hz => by
          rw [List.take_add_one, hy] at hz
          rcases List.mem_append.1 hz with hz | hz
          · exact hall z hz
          · simp at hz; subst hz; exact ho)
        clear hall hy hB
        go_wp2_with fail
        go_roundw
        case rel => exact ⟨k + 1, hlt, by go_num, hB2, HF.out⟩
        case measure => simp [intOf]; omega
    · have hkl : k = l.length := by omega
      subst hkl
      have ht : ordL l = true := ordL_iff.2 (by rw [List.take_length] at hall; exact hall)
      have HT := Lib.hid ht
      clear ht hall
      go_wp2_with fail
      go_ret
      rw [HT.out]
      exact ⟨rfl, hB⟩
set_option maxHeartbeats 1000000 in
set_option maxRecDepth 100000 in
theorem ord_list6 (n : Int) (f : Nat) (s : ByteArray) (ks : List ByteArray) (l : List GV) (ih : ∀ y ∈ l, OrdC y) : OrdC (.mk 6 n f s ks l) := by
  intro w v hv
  have hl88 := hv.len
  have hv0 := hv
  obtain ⟨a0, c0, a1, c1, rfl⟩ := hv.form
  have hl := hv0.vals
  simp only [GV.kind, GV.n, GV.f, GV.s, GV.keys, GV.l] at hl hl88 ⊢
  clear hv hv0
  have e : ordV (.mk 6 n f s ks l) = ordL l := by simp [ordV]
  rw [e]
  go_enter Tryz.func93, Tryz.ntmps93
  go_wp2_with fail
  have hB0 : Below w.heap.size w (w.alloc (.cells #[.int .i64 6, .int .i64 n, .float .f64 f, .string s, .slice a0 ks.length c0, .slice a1 l.length c1] 27)) := (Below.refl _ _).alloc (Nat.le_refl _) _
  generalize w.alloc (.cells #[.int .i64 6, .int .i64 n, .float .f64 f, .string s, .slice a0 ks.length c0, .slice a1 l.length c1] 27) = w0 at *
  go_loopw [30] (fun i wr => ∃ k : Nat, k ≤ l.length ∧ i = .int .i64 (k : Nat) ∧ Below w.heap.size w wr ∧ ∀ y ∈ l.take k, ordV y = true) (fun i _ => l.length - (intOf i).toNat)
  case atStart => exact ⟨0, Nat.zero_le _, rfl, hB0, by simp⟩
  case round =>
    clear hB0
    obtain ⟨k, hk, rfl, hB, hall⟩ := hrel
    by_cases hlt : k < l.length
    · obtain ⟨b, o, hb, rfl, hcells⟩ := vals_at hl (by omega)
      obtain ⟨y, hy⟩ : ∃ y, l[k]? = some y := ⟨l[k], by simp [hlt]⟩
      obtain ⟨e0, f0, e1, f1, g0, g1, g2, g3, g4, g5, hyv⟩ := (IsVs.keep (S' := Btw 0 wr.heap.size) (Btw.kept hB) (Btw.mono (Nat.le_refl _) hB.size) l b o hb hcells).cells hy
      have hc := ih y (List.mem_of_getElem? hy)
      have hyA := hyv.alloc_ (.cells #[.int .i64 y.kind, .int .i64 y.n, .float .f64 y.f, .string y.s, .slice e0 y.keys.length f0, .slice e1 y.l.length f1] 27)
      have HY := Lib.hid (And.intro hy (And.intro hall hB))
      have j0 : (0 : Int) ≤ (k : Int) := by omega
      have j1 : (k : Int) < (l.length : Int) := by omega
      have hs := hB.size
      clear hy hall hB hcells hyv
      go_wp2_with (go_at_call 93; (with_reducible refine (hc.use _ _ ?_).mono ?_))
      · simpa using hyA
      rintro e w2 ⟨rfl, hB2'⟩
      obtain ⟨hy, hall, hB⟩ := HY.out
      have hB2 : Below w.heap.size w w2 := (hB.alloc hs (.cells #[.int .i64 y.kind, .int .i64 y.n, .float .f64 y.f, .string y.s, .slice e0 y.keys.length f0, .slice e1 y.l.length f1] 27)).trans (hB2'.mono (by simp; omega))
      clear g0 g1 g2 g3 g4 g5 hyA hc HY hB2'
      cases ho : ordV y with
      | false =>
        have hf : ordL l = false := by
          cases h : ordL l with
          | false => rfl
          | true => rw [ordL_iff.1 h y (List.mem_of_getElem? hy)] at ho; cases ho
        go_wp2_with fail
        go_ret
        rw [hf]
        exact ⟨rfl, hB2⟩
      | true =>
        have HF := Lib.hid (show ∀ z ∈ l.take (k + 1), ordV z = true from fun z hz => by
          rw [List.take_add_one, hy] at hz
          rcases List.mem_append.1 hz with hz | hz
          · exact hall z hz
          · simp at hz; subst hz; exact ho)
        clear hall hy hB
        go_wp2_with fail
        go_roundw
        case rel => exact ⟨k + 1, hlt, by go_num, hB2, HF.out⟩
        case measure => simp [intOf]; omega
    · have hkl : k = l.length := by omega
      subst hkl
      have ht : ordL l = true := ordL_iff.2 (by rw [List.take_length] at hall; exact hall)
      have HT := Lib.hid ht
      clear ht hall
      go_wp2_with fail
      go_ret
      rw [HT.out]
      exact ⟨rfl, hB⟩
/-- Orderly tells whether a value is orderly. -/
theorem ord_any : ∀ x : GV, OrdC x
  | .mk k n f s ks l => by
    have ih : ∀ y ∈ l, OrdC y := fun y hy => ord_any y
    by_cases h2 : k = 2
    · subst h2; exact ord_int n f s ks l
    by_cases h3 : k = 3
    · subst h3; exact ord_flt n f s ks l
    by_cases h5 : k = 5
    · subst h5; exact ord_list5 n f s ks l ih
    by_cases h6 : k = 6
    · subst h6; exact ord_list6 n f s ks l ih
    exact ord_other k n f s ks l h2 h3 h5 h6
termination_by x => SizeOf.sizeOf x
decreasing_by
  have := List.sizeOf_lt_of_mem hy
  simp; omega
end Go.Proofs.YtgmahieoiifpfaaGreat
end
section
set_option linter.unusedVariables false
namespace Go.Proofs.YtgmahieoiifpfaaGreat
open Go.RowKit
set_option linter.unusedSimpArgs false
mutual
/-- Two trees are equal: as value.Equals has it. -/
def eqJ : JV → JV → Bool
  | .flt a, .flt b => feq a b
  | .flt a, .int n => feq a (floatOfInt .f64 n)
  | .int n, .flt b => feq (floatOfInt .f64 n) b
  | .int a, .int b => decide (a = b)
  | .str a, .str b => decide (a = b)
  | .bool a, .bool b => a == b
  | .list a, .list b => eqJs a b
  | .map a, .map b => Nat.beq a.length b.length && eqJm a b
  | .null, .null => true
  | _, _ => false
termination_by _ k => SizeOf.sizeOf k
def eqJs : List JV → List JV → Bool
  | [], [] => true
  | x :: r, y :: q => eqJ x y && eqJs r q
  | _, _ => false
termination_by _ k => SizeOf.sizeOf k
def eqJm : List (ByteArray × JV) → List (ByteArray × JV) → Bool
  | _, [] => true
  | a, y :: q => (match lkJ a y.1 with | some x => eqJ x y.2 | none => false) && eqJm a q
termination_by _ k => SizeOf.sizeOf k
decreasing_by
  all_goals simp_wf
  · obtain ⟨y1, y2⟩ := y; simp; omega
  · omega
end
theorem dvLs_len {w : World} {F : Nat → Prop} {l : List JV} {v : Value} (h : Rep w F (dvLs l) v) : l.length * 16 ≤ 140737488351232 := by
  unfold dvLs Rep at h
  obtain ⟨_, _, _, h, _⟩ := h
  exact h
theorem rangeCons_c (l : List JV) (h : l ≠ []) : ACall1 Tryz.prog 320 [.dat (dvLs l), .dat dvA] [] (.iface 421 (.ptr 0 0))
    [(0, .box 427 [.dat (dvLs l), .ptr 1 0, .dat (.val (.int .i64 (-1)))]), (1, .box 315 [.dat (.val .nilIface)])] := by
  refine acall_of_run Tryz.func320 rfl Tryz.ntmps320 rfl (fun X => ?_)
  have hq : decide (((l.length : Nat) : Int) = 0) = false := by
    cases l with
    | nil => exact absurd rfl h
    | cons x r => simp; omega
  repeat' (first
    | refine run_seq ?_
    | (refine k_pick rfl ?_; first | refine k_assignD rfl rfl ?_ | refine k_moveD rfl rfl ?_ | refine k_fieldAddrB rfl rfl rfl ?_ | refine k_bin2B rfl rfl rfl rfl ?_ | refine k_nilB rfl rfl ?_ | refine k_storeB rfl rfl rfl rfl rfl ?_ | refine k_assignP rfl rfl ?_ | refine k_moveP rfl rfl ?_ | refine k_invAS1 (thk [] 200) rfl rfl (by kernel_rfl) (allocR_c) rfl trivial rfl (freshB_ok rfl) rfl ?_ | refine k_assignI rfl rfl ?_ | refine k_ifaceP rfl rfl (by kernel_rfl) ?_ | refine k_lenJ rfl rfl ?_)
    | refine run_opsEnd ?_
    | refine run_region ?_
    | refine run_condF rfl (by first | rfl | assumption) ?_
    | refine run_skip ?_
    | fail)
  refine run_retA () (thk [(0, 200), (1, 201)] 0) (tm := [(4, .iface 421 (.ptr 0 0))]) ?_ (resA_tmp rfl rfl)
  (refine ⟨?_, ?_, by rfl⟩ <;> repeat' (first | exact trivial | exact ALe.ptr rfl | exact ALe.own rfl | exact ALe.elt rfl | exact BLe.boxD _ _ | exact BLe.row rfl | exact BLe.res | exact BLe.dead rfl | exact ALe.dat (PLe.refl _) | exact CLe.nil | refine And.intro ?_ ?_ | refine ALe.iface ?_ | refine ALe.clo ?_ | refine CLe.cons ?_ ?_ | refine BLe.box ?_ | refine BLe.row ?_ | exact ALe.any _ | refine ALe.dat (PLe.of_eq ?_)))
theorem next_c (l : List JV) (k : Nat) (hk : k ≤ 140737488351232) : ACall1 Tryz.prog 344 [.ptr 1000 0] [(1000, .box 427 [.dat (dvLs l), .ptr 1001 0, .dat (.val (.int .i64 ((k : Int) - 1)))]), (1001, .box 315 [.any])]
    (.dat (.val (.bool (decide ((k : Int) < (l.length : Int)))))) [(1000, .box 427 [.dat (dvLs l), .ptr 1001 0, .dat (.val (.int .i64 (k : Int)))]), (1001, .box 315 [.any])] := by
  refine acall_of_run Tryz.func344 rfl Tryz.ntmps344 rfl (fun X => ?_)
  repeat' (first
    | refine run_seq ?_
    | (refine k_pick rfl ?_; first | refine k_assignD rfl rfl ?_ | refine k_fieldAddrB rfl rfl rfl ?_ | refine k_loadBD rfl rfl rfl (by first | rfl | (simp only [cellsD]; rfl)) ?_ | refine k_nilB rfl rfl ?_ | refine k_storeB rfl rfl rfl rfl rfl ?_ | refine k_ariI rfl rfl rfl rfl (by first | omega | (dsimp only; omega)) ?_ | refine k_moveP rfl rfl ?_)
    | refine run_opsEnd ?_
    | refine run_region ?_
    | refine run_drawC (by kernel_rfl) ?_
    | refine c_nil (And.intro (by kernel_rfl) ?_)
    | refine c_pick (d_assignD rfl rfl) ?_
    | refine c_pick (d_fieldAddrB rfl rfl rfl) ?_
    | refine c_pick (d_loadBD rfl rfl rfl (by first | rfl | (simp only [cellsD]; rfl))) ?_
    | refine c_pick (d_bin2B rfl rfl rfl rfl) ?_
    | refine c_pick (d_nilB rfl rfl) ?_
    | refine c_pick (d_moveP rfl rfl) ?_
    | refine c_pick (d_lenJ rfl rfl) ?_
    | fail)
  refine run_retA () id (tm := [(2, .dat (.val (.bool (decide ((k : Int) < (l.length : Int))))))]) ?_ (resA_tmp rfl rfl)
  (refine ⟨?_, ?_, by rfl⟩ <;> repeat' (first | exact trivial | exact ALe.ptr rfl | exact ALe.own rfl | exact ALe.elt rfl | exact BLe.boxD _ _ | exact BLe.row rfl | exact BLe.res | exact BLe.dead rfl | exact ALe.dat (PLe.refl _) | exact CLe.nil | refine And.intro ?_ ?_ | refine ALe.iface ?_ | refine ALe.clo ?_ | refine CLe.cons ?_ ?_ | refine BLe.box ?_ | refine BLe.row ?_ | exact ALe.any _ | refine ALe.dat (PLe.of_eq ?_)))
  all_goals (rw [show (k : Int) - 1 + 1 = k by omega])
set_option maxHeartbeats 4000000 in
theorem item_c (l : List JV) (k : Nat) (j : JV) (hj : l[k]? = some j) : ACall1 Tryz.prog 343 [.ptr 1000 0] [(1000, .box 427 [.dat (dvLs l), .ptr 1001 0, .dat (.val (.int .i64 (k : Int)))]), (1001, .box 315 [.any])]
    (.tup [.dat (.val (.int .i64 (k : Int))), .iface 271 (.ptr 1001 0)]) [(1000, .box 427 [.dat (dvLs l), .ptr 1001 0, .dat (.val (.int .i64 (k : Int)))]), (1001, .box 315 [.dat (pdJ j)])] := by
  refine acall_of_run Tryz.func343 rfl Tryz.ntmps343 rfl (fun X => ?_)
  have hlt : k < l.length := (List.getElem?_eq_some_iff.1 hj).1
  have hq1 : decide (((k : Nat) : Int) < 0) = false := by simp
  have hq2 : decide (((l.length : Nat) : Int) ≤ (k : Int)) = false := by simp; omega
  repeat' (first
    | refine run_seq ?_
    | (refine k_pick rfl ?_; first | refine k_assignD rfl rfl ?_ | refine k_fieldAddrB rfl rfl rfl ?_ | refine k_loadBD rfl rfl rfl (by first | rfl | (simp only [cellsD]; rfl)) ?_ | refine k_bin2B rfl rfl rfl rfl ?_ | refine k_nilB rfl rfl ?_ | refine k_moveP rfl rfl ?_)
    | refine run_opsEnd ?_
    | refine run_region ?_
    | refine run_condF rfl (by first | rfl | assumption) ?_
    | refine run_skip ?_
    | refine run_drawC (by kernel_rfl) ?_
    | refine c_nil (And.intro (by kernel_rfl) ?_)
    | refine c_pick (d_assignD rfl rfl) ?_
    | refine c_pick (d_fieldAddrB rfl rfl rfl) ?_
    | refine c_pick (d_loadBD rfl rfl rfl (by first | rfl | (simp only [cellsD]; rfl))) ?_
    | refine c_pick (d_bin2B rfl rfl rfl rfl) ?_
    | refine c_pick (d_nilB rfl rfl) ?_
    | refine c_pick (d_loadD rfl rfl (by first | rfl | (simp only [cellsD]; rfl))) ?_
    | refine c_pick (d_moveP rfl rfl) ?_
    | refine c_pick (d_loadBP rfl rfl rfl rfl) ?_
    | refine c_pick (d_acallB (thk [(1000, _)] 200) rfl (by kernel_rfl) ((reuse_c .any _)) rfl rfl rfl rfl rfl) ?_
    | refine c_pick (d_assignI rfl rfl) ?_
    | refine c_pick (d_lenJ rfl rfl) ?_
    | refine c_pick (d_indexJ rfl rfl rfl (by assumption)) ?_
    | fail)
  refine run_retA () id (tm := [(2, .dat (.val (.int .i64 (k : Int)))), (3, .iface 271 (.ptr 1001 0))]) ?_ ?_
  rotate_left
  · show resA _ _ (mkTup [.dat (.val (.int .i64 (k : Int))), .iface 271 (.ptr 1001 0)]) _
    exact resA_tmp2 rfl rfl rfl
  (refine ⟨?_, ?_, by rfl⟩ <;> repeat' (first | exact trivial | exact ALe.ptr rfl | exact ALe.own rfl | exact ALe.elt rfl | exact BLe.boxD _ _ | exact BLe.row rfl | exact BLe.res | exact BLe.dead rfl | exact ALe.dat (PLe.refl _) | exact CLe.nil | refine And.intro ?_ ?_ | refine ALe.iface ?_ | refine ALe.clo ?_ | refine CLe.cons ?_ ?_ | refine BLe.box ?_ | refine BLe.row ?_ | exact ALe.any _ | refine ALe.dat (PLe.of_eq ?_)))
end Go.Proofs.YtgmahieoiifpfaaGreat
end
section
namespace Go.Proofs.YtgmahieoiifpfaaGreat
open Go.RowKit
set_option linter.unusedSimpArgs false
def cmpI (a b : Int) : Int := if a < b then -1 else if b < a then 1 else 0
def cmpS (a b : ByteArray) : Int := if blt a b then -1 else if blt b a then 1 else 0
theorem bl_pre : ∀ (x y : List UInt8) (n : Nat) (p q : UInt8), x.take n = y.take n → x[n]? = some p → y[n]? = some q → p ≠ q → Op.bytesLess x y = decide (p < q)
  | [], _, n, p, q, _, h, _, _ => by simp at h
  | _ :: _, [], n, p, q, _, _, h, _ => by simp at h
  | a :: x, b :: y, 0, p, q, _, h1, h2, hne => by
    simp at h1 h2
    subst h1 h2
    have : (a == b) = false := by simp [hne]
    simp [Op.bytesLess, this]
  | a :: x, b :: y, n + 1, p, q, h, h1, h2, hne => by
    simp only [List.take_succ_cons, List.cons.injEq] at h
    obtain ⟨rfl, h⟩ := h
    have := bl_pre x y n p q h (by simpa using h1) (by simpa using h2) hne
    simp [Op.bytesLess, this, UInt8.lt_irrefl]
theorem bl_end : ∀ (x y : List UInt8) (n : Nat), x.take n = y.take n → n = min x.length y.length → Op.bytesLess x y = decide (x.length < y.length)
  | [], [], n, _, _ => by simp [Op.bytesLess]
  | [], _ :: _, n, _, _ => by simp [Op.bytesLess]
  | _ :: _, [], n, _, _ => by simp [Op.bytesLess]
  | a :: x, b :: y, n, h, hn => by
    obtain ⟨n, rfl⟩ : ∃ k, n = k + 1 := ⟨n - 1, by simp at hn; omega⟩
    simp only [List.take_succ_cons, List.cons.injEq] at h
    obtain ⟨rfl, h⟩ := h
    have := bl_end x y n h (by simp at hn; omega)
    simp [Op.bytesLess, this, UInt8.lt_irrefl]
theorem size_list (a : ByteArray) : a.toList.length = a.size := by rw [ByteArray.toList_eq]; rfl
theorem byte_at (a : ByteArray) (k : Nat) (h : k < a.size) : a.toList[k]? = some a[k] := by
  rw [ByteArray.toList_eq]
  rw [List.getElem?_eq_getElem (by exact h)]
  rfl
theorem cmpS_pre {a b : ByteArray} {k : Nat} (h : a.toList.take k = b.toList.take k) (h1 : k < a.size) (h2 : k < b.size) (hne : a[k] ≠ b[k]) : cmpS a b = cmpI (a[k].toNat : Int) (b[k].toNat : Int) := by
  have e1 := bl_pre _ _ k _ _ h (byte_at a k h1) (byte_at b k h2) hne
  have e2 := bl_pre _ _ k _ _ h.symm (byte_at b k h2) (byte_at a k h1) (Ne.symm hne)
  unfold cmpS cmpI blt
  rw [e1, e2]
  simp only [decide_eq_true_eq, UInt8.lt_iff_toNat_lt, Int.ofNat_lt]
theorem cmpS_end {a b : ByteArray} {k : Nat} (h : a.toList.take k = b.toList.take k) (hk : k = min a.size b.size) : cmpS a b = cmpI (a.size : Int) (b.size : Int) := by
  have e1 := bl_end _ _ k h (by rw [size_list, size_list]; exact hk)
  have e2 := bl_end _ _ k h.symm (by rw [size_list, size_list]; omega)
  rw [size_list, size_list] at e1 e2
  unfold cmpS cmpI blt
  rw [e1, e2]
  simp only [decide_eq_true_eq, Int.ofNat_lt]
theorem wrap_small {q : Nat} (h : q < 9223372036854775808) : IntKind.i64.wrap (q : Int) = q := by
  simp [IntKind.wrap, IntKind.bits, IntKind.signed]; omega
set_option maxRecDepth 100000 in
theorem CompareInts_any (a b : Int) (w : World) : Calls Tryz.prog 202 #[.int .i64 a, .int .i64 b] w fun e w' => e = .returned (.int .i64 (cmpI a b)) ∧ w' = w := by
  by_cases h1 : a < b
  · have hc : cmpI a b = -1 := by simp [cmpI, h1]
    rw [hc]
    go_enter Tryz.func202, Tryz.ntmps202
    go_wp2_with fail
    go_ret
    exact ⟨rfl, rfl⟩
  by_cases h2 : b < a
  · have hc : cmpI a b = 1 := by simp [cmpI, h1, h2]
    rw [hc]
    go_enter Tryz.func202, Tryz.ntmps202
    go_wp2_with fail
    go_ret
    exact ⟨rfl, rfl⟩
  · have hc : cmpI a b = 0 := by simp [cmpI, h1, h2]
    rw [hc]
    go_enter Tryz.func202, Tryz.ntmps202
    go_wp2_with fail
    go_ret
    exact ⟨rfl, rfl⟩
set_option maxHeartbeats 1000000 in
set_option maxRecDepth 100000 in
theorem CompareStrings_any (a b : ByteArray) (w : World) (ha : a.size ≤ maxLen) (_hb : b.size ≤ maxLen) : Calls Tryz.prog 157 #[.string a, .string b] w fun e w' => e = .returned (.int .i64 (cmpS a b)) ∧ Below w.heap.size w w' := by
  unfold maxLen at ha
  go_enter Tryz.func157, Tryz.ntmps157
  go_wp2_with fail
  go_loopw [5] (fun i wr => ∃ k : Nat, k ≤ a.size ∧ k ≤ b.size ∧ i = .int .i64 (k : Nat) ∧ Below w.heap.size w wr ∧ a.toList.take k = b.toList.take k) (fun i _ => a.size - (intOf i).toNat)
  case atStart => exact ⟨0, Nat.zero_le _, Nat.zero_le _, rfl, Below.refl _ _, by simp⟩
  case round =>
    obtain ⟨k, hka, hkb, rfl, hB, hpre⟩ := hrel
    by_cases h1 : k < a.size
    · by_cases h2 : k < b.size
      · have j0 : (0 : Int) ≤ (k : Int) := by omega
        have j1 : (k : Int) < (a.size : Int) := by omega
        have j2 : (k : Int) < (b.size : Int) := by omega
        have l1 : a[k].toNat < 256 := a[k].toNat_lt
        have l2 : b[k].toNat < 256 := b[k].toNat_lt
        have HP := Lib.hid hpre
        clear hpre
        by_cases hxy : a[k] = b[k]
        · have e7 : ((a[k].toNat : Int) != (b[k].toNat : Int)) = false := by rw [hxy]; simp
          have HXY := Lib.hid hxy
          clear hxy
          go_wp2_with fail
          go_quiet (fail)
          go_wp2_with fail
          have hwk : wrap64 ((k : Int) + 1) = ((k + 1 : Nat) : Int) := by unfold wrap64; omega
          try rw [hwk]
          refine ⟨⟨k + 1, h1, h2, rfl, hB.trans ⟨rfl, rfl, rfl, Nat.le_refl _, fun _ _ => rfl⟩, ?_⟩, by simp only [intOf]; omega⟩
          rw [List.take_add_one, List.take_add_one, HP.out, byte_at a k h1, byte_at b k h2, HXY.out]
        · have e7 : ((a[k].toNat : Int) != (b[k].toNat : Int)) = true := by
            have : a[k].toNat ≠ b[k].toNat := fun e => hxy (UInt8.toNat_inj.1 e)
            simp; omega
          have HXY := Lib.hid hxy
          clear hxy
          go_wp2_with fail
          go_quiet (fail)
          go_wp2_with fail
          refine wp_region_K (fun _ => True) [0, 1, 2, 3, 4, 5, 6, 7, 9] (by kernel_rfl) ?_ (fun hHeld => ?_)
          · trivial
          refine wpK_take (i := 0) (v := ?_) rfl (by kernel_rfl) (by kernel_rfl) (by kernel_rfl) (by kernel_rfl) (.inl ⟨by rfl, ?_⟩) hHeld ?_
          rotate_left
          · (intro w hSw; (try dsimp only at hSw); go_split_ands; go_simp; (try with_reducible rfl))
          try simp only [Act.put, List.setIfInBounds_toArray, List.set_cons_zero, List.set_cons_succ]
          refine wpK_take (i := 1) (v := ?_) rfl (by kernel_rfl) (by kernel_rfl) (by kernel_rfl) (by kernel_rfl) (.inl ⟨by rfl, ?_⟩) hHeld ?_
          rotate_left
          · (intro w hSw; (try dsimp only at hSw); go_split_ands; go_simp; (try with_reducible rfl))
          try simp only [Act.put, List.setIfInBounds_toArray, List.set_cons_zero, List.set_cons_succ]
          refine wpK_take (i := 2) (v := ?_) rfl (by kernel_rfl) (by kernel_rfl) (by kernel_rfl) (by kernel_rfl) (.inl ⟨by rfl, ?_⟩) hHeld ?_
          rotate_left
          · (intro w hSw; (try dsimp only at hSw); go_split_ands; go_simp; (try with_reducible rfl))
          try simp only [Act.put, List.setIfInBounds_toArray, List.set_cons_zero, List.set_cons_succ]
          refine wpK_take (i := 3) (v := ?_) rfl (by kernel_rfl) (by kernel_rfl) (by kernel_rfl) (by kernel_rfl) (.inl ⟨by rfl, ?_⟩) hHeld ?_
          rotate_left
          · (intro w hSw; (try dsimp only at hSw); go_split_ands; go_simp; (try with_reducible rfl))
          try simp only [Act.put, List.setIfInBounds_toArray, List.set_cons_zero, List.set_cons_succ]
          refine wpK_take (i := 4) (v := ?_) rfl (by kernel_rfl) (by kernel_rfl) (by kernel_rfl) (by kernel_rfl) (.inl ⟨by rfl, ?_⟩) hHeld ?_
          rotate_left
          · (intro w hSw; (try dsimp only at hSw); go_split_ands; go_simp; (try with_reducible rfl))
          try simp only [Act.put, List.setIfInBounds_toArray, List.set_cons_zero, List.set_cons_succ]
          refine wpK_take (i := 5) (v := ?_) rfl (by kernel_rfl) (by kernel_rfl) (by kernel_rfl) (by kernel_rfl) (.inl ⟨by rfl, ?_⟩) hHeld ?_
          rotate_left
          · (intro w hSw; (try dsimp only at hSw); go_split_ands; go_simp; (try with_reducible rfl))
          try simp only [Act.put, List.setIfInBounds_toArray, List.set_cons_zero, List.set_cons_succ]
          refine wpK_take (i := 6) (v := ?_) rfl (by kernel_rfl) (by kernel_rfl) (by kernel_rfl) (by kernel_rfl) (.inl ⟨by rfl, ?_⟩) hHeld ?_
          rotate_left
          · (intro w hSw; (try dsimp only at hSw); go_split_ands; go_simp; (try with_reducible rfl))
          try simp only [Act.put, List.setIfInBounds_toArray, List.set_cons_zero, List.set_cons_succ]
          refine wpK_take (i := 7) (v := ?_) rfl (by kernel_rfl) (by kernel_rfl) (by kernel_rfl) (by kernel_rfl) (.inl ⟨by rfl, ?_⟩) hHeld ?_
          rotate_left
          · (intro w hSw; (try dsimp only at hSw); go_split_ands; go_simp; (try with_reducible rfl))
          try simp only [Act.put, List.setIfInBounds_toArray, List.set_cons_zero, List.set_cons_succ]
          refine wpK_one (i := 8) (by kernel_rfl) rfl (fun K hK => ?_)
          go_simp
          refine (CompareInts_any _ _ _).mono ?_
          rintro e w2 ⟨rfl, rfl⟩
          refine hK.out _ _ ?_ (fun hHeld => ?_)
          · trivial
          clear hK K
          try simp only [Act.put, List.setIfInBounds_toArray, List.set_cons_zero, List.set_cons_succ]
          refine wpK_take (i := 9) (v := ?_) rfl (by kernel_rfl) (by kernel_rfl) (by kernel_rfl) (by kernel_rfl) (.inl ⟨by rfl, ?_⟩) hHeld ?_
          rotate_left
          · (intro w hSw; (try dsimp only at hSw); go_split_ands; go_simp; (try with_reducible rfl))
          try simp only [Act.put, List.setIfInBounds_toArray, List.set_cons_zero, List.set_cons_succ]
          refine wpK_done (by kernel_rfl) ?_ _
          simp only [List.getElem_toArray, List.getElem_cons_succ, List.getElem_cons_zero, List.set_cons_succ, List.set_cons_zero]
          go_wp2_with fail
          go_ret
          rw [cmpS_pre HP.out h1 h2 HXY.out]
          have wa := wrap_small (q := a[k].toNat) (by omega)
          have wb := wrap_small (q := b[k].toNat) (by omega)
          simp only [wa, wb]
          exact ⟨rfl, hB.trans ⟨rfl, rfl, rfl, Nat.le_refl _, fun _ _ => rfl⟩⟩
      · have hend := cmpS_end hpre (by omega)
        have HE := Lib.hid hend
        have n2 : ¬ ((k : Int) < (b.size : Int)) := by omega
        have n1 : (k : Int) < (a.size : Int) := by omega
        clear hpre hend
        go_wp2_with (go_at_call 202; refine (CompareInts_any _ _ _).mono ?_)
        go_ret
        rw [HE.out]
        exact ⟨rfl, hB⟩
    · have hend := cmpS_end hpre (by omega)
      have HE := Lib.hid hend
      have n1 : ¬ ((k : Int) < (a.size : Int)) := by omega
      clear hpre hend
      go_wp2_with (go_at_call 202; refine (CompareInts_any _ _ _).mono ?_)
      go_ret
      rw [HE.out]
      exact ⟨rfl, hB⟩
end Go.Proofs.YtgmahieoiifpfaaGreat
end
section
set_option linter.unusedVariables false
namespace Go.Proofs.YtgmahieoiifpfaaGreat
open Go.RowKit
set_option linter.unusedSimpArgs false
/-- How two floating-point numbers, and two bools, compare. -/
def cmpF (a b : Nat) : Int := if FloatKind.f64.format.order a b == some .gt then 1 else if FloatKind.f64.format.order a b == some .lt then -1 else 0
def cmpBo (a b : Bool) : Int := if a == b then 0 else if !a then -1 else 1
theorem compareBytes_eq : ∀ (x y : List UInt8), Lib.compareBytes x y = if Op.bytesLess x y then -1 else if Op.bytesLess y x then 1 else 0
  | [], [] => rfl
  | [], _ :: _ => rfl
  | _ :: _, [] => rfl
  | a :: x, b :: y => by
    unfold Lib.compareBytes
    rw [compareBytes_eq x y]
    simp only [Op.bytesLess]
    by_cases h : a < b
    · simp [h]
    · rw [if_neg h]
      by_cases h' : b < a
      · have hne : (a == b) = false := by
          simp only [beq_eq_false_iff_ne]
          intro e; subst e; exact absurd h' (UInt8.lt_irrefl _)
        have hne' : (b == a) = false := by
          simp only [beq_eq_false_iff_ne]
          intro e; subst e; exact absurd h' (UInt8.lt_irrefl _)
        simp [h, h', hne]
      · have e : a = b := by
          rw [UInt8.lt_iff_toNat_lt] at h h'
          exact UInt8.toNat_inj.1 (by omega)
        subst e
        simp [UInt8.lt_irrefl]
theorem cmpS_bytes (a b : ByteArray) : Lib.compareBytes a.data.toList b.data.toList = cmpS a b := by
  rw [compareBytes_eq]
  unfold cmpS blt
  rw [ByteArray.toList_eq, ByteArray.toList_eq]
theorem cmpS_wf (a b : ByteArray) : (Lit.int .i64 (cmpS a b)).wf = true := by
  unfold cmpS
  split
  · rfl
  · split <;> rfl
/-- A function without a body that compares two strings. -/
class CmpStrF (P : Program) (f : Nat) : Prop where
  out : ∀ (a b : ByteArray) (w : World), (callFunc f #[.string a, .string b]).run P w = .ok (.value (.int .i64 (cmpS a b))) w
set_option maxRecDepth 100000 in
instance : CmpStrF Tryz.prog 247 := ⟨fun a b w => by
  rw [run_callFunc_extern (fn := Tryz.f247) (e := Extern.BytealgCompare.compare) Tryz.func247 (by kernel_rfl) (by kernel_rfl) (by kernel_rfl) (by kernel_rfl)]
  simp only [Lib.run_compareString, Result.andThen_ok, cmpS_bytes]⟩
section
variable {P : Program} {X : Base} {N : Nat} {Q : Exit → Act → World → Prop} {ops : Array Oper} {rem : List Nat} {ks : List Itm} {s s' : Sta}
theorem op_cmpStr {o : Oper} (hd : dstOk X.N o.dst = true) {f : FuncId} {x y : Operand} {ts : Array TypeId} (ho : o.op = .call { callee := .value (.func f), args := #[x, y], argTypes := ts }) (hf : CmpStrF P f) {a b : ByteArray} (hx : s.ev x = .dat (.val (.string a))) (hy : s.ev y = .dat (.val (.string b))) :
    OpS P X o s (s.put o.dst (.dat (.val (.int .i64 (cmpS a b))))) := by
  refine opS_value hd fun a' w ρ hc => ⟨.int .i64 (cmpS a b), ?_, by unfold VR Rep; exact ⟨rfl, cmpS_wf a b⟩⟩
  have h1 := hc.ev x
  rw [hx] at h1
  have h2 := hc.ev y
  rw [hy] at h2
  unfold VR Rep at h1 h2
  have hrun := hf.out a b w
  rw [← h1.1, ← h2.1] at hrun
  have ef : a'.eval (.func f) = .func (.func f) #[] #[] := rfl
  simp [execOp, ho, resolve, Deferred.ofValue, ef, invoke, Result.andThen, hrun]
theorem k_cmpStr {d f : Nat} {x y : Operand} {ts : Array TypeId} {a b : ByteArray} (hN : Nat.blt d N = true) [hf : CmpStrF P f] (hx : s.ev x = .dat (.val (.string a))) (hy : s.ev y = .dat (.val (.string b))) (h : Run P X N Q (.ops ops rem :: ks) (s.put (some d) (.dat (.val (.int .i64 (cmpS a b)))))) :
    RunK P X N Q ops rem ks (some d) (.call { callee := .value (.func f), args := #[x, y], argTypes := ts }) s := k_of hN (fun _ _ _ hd => op_cmpStr hd rfl hf hx hy) h
end
theorem bytealg_p (a b : ByteArray) : PCall Tryz.prog 236 [.val (.string a), .val (.string b)] (.val (.int .i64 (cmpS a b))) := by
  refine pcall_of_run Tryz.func236 rfl Tryz.ntmps236 rfl (fun X => ?_)
  repeat' (first
    | refine run_seq ?_
    | (refine k_pick rfl ?_; first | refine k_cmpStr rfl rfl rfl ?_ | refine k_assignD rfl rfl ?_ | refine k_moveD rfl rfl ?_)
    | refine run_opsEnd ?_
    | refine run_region ?_
    | refine run_retOk (resOk_tmp rfl rfl ?_)
    | fail)
  all_goals exact PLe.refl _
theorem strcmp_p (a b : ByteArray) : PCall Tryz.prog 211 [.val (.string a), .val (.string b)] (.val (.int .i64 (cmpS a b))) := by
  have c := bytealg_p a b
  refine pcall_of_run Tryz.func211 rfl Tryz.ntmps211 rfl (fun X => ?_)
  repeat' (first
    | refine run_seq ?_
    | (refine k_pick rfl ?_; first | refine k_assignD rfl rfl ?_ | refine k_moveD rfl rfl ?_ | refine k_call rfl (by kernel_rfl) rfl (by first | exact c) ?_)
    | refine run_opsEnd ?_
    | refine run_region ?_
    | refine run_retOk (resOk_tmp rfl rfl ?_)
    | fail)
  all_goals exact PLe.refl _
theorem fltcmp_p (a b : Nat) : PCall Tryz.prog 248 [.val (.float .f64 a), .val (.float .f64 b)] (.val (.int .i64 (cmpF a b))) := by
  refine pcall_of_run Tryz.func248 rfl Tryz.ntmps248 rfl (fun X => ?_)
  unfold cmpF
  cases h1 : (FloatKind.f64.format.order a b == some .gt) <;> cases h2 : (FloatKind.f64.format.order a b == some .lt)
  all_goals
    repeat' (first
    | refine run_seq ?_
    | (refine k_pick rfl ?_; first | refine k_assignD rfl rfl ?_ | refine k_moveD rfl rfl ?_ | refine k_fltC rfl rfl rfl rfl ?_)
    | refine run_opsEnd ?_
    | refine run_region ?_
    | refine run_condT rfl (by first | rfl | assumption) ?_
    | refine run_condF rfl (by first | rfl | assumption) ?_
    | refine run_skip ?_
    | refine run_retOk (resOk_tmp rfl rfl ?_)
    | fail)
  all_goals exact PLe.refl _
theorem intcmp_p (a b : Int) : PCall Tryz.prog 249 [.val (.int .i64 a), .val (.int .i64 b)] (.val (.int .i64 (cmpI a b))) := by
  refine pcall_of_run Tryz.func249 rfl Tryz.ntmps249 rfl (fun X => ?_)
  unfold cmpI
  by_cases h1 : b < a
  · have q1 : decide (b < a) = true := by simpa using h1
    rw [if_neg (by omega), if_pos h1]
    repeat' (first
    | refine run_seq ?_
    | (refine k_pick rfl ?_; first | refine k_assignD rfl rfl ?_ | refine k_moveD rfl rfl ?_ | refine k_bin2B rfl rfl rfl rfl ?_)
    | refine run_opsEnd ?_
    | refine run_region ?_
    | refine run_condT rfl (by first | rfl | assumption) ?_
    | refine run_retOk (resOk_tmp rfl rfl ?_)
    | fail)
    all_goals exact PLe.refl _
  · have q1 : decide (b < a) = false := by simpa using h1
    by_cases h2 : a < b
    · have q2 : decide (a < b) = true := by simpa using h2
      rw [if_pos h2]
      repeat' (first
    | refine run_seq ?_
    | (refine k_pick rfl ?_; first | refine k_assignD rfl rfl ?_ | refine k_moveD rfl rfl ?_ | refine k_bin2B rfl rfl rfl rfl ?_)
    | refine run_opsEnd ?_
    | refine run_region ?_
    | refine run_condT rfl (by first | rfl | assumption) ?_
    | refine run_condF rfl (by first | rfl | assumption) ?_
    | refine run_retOk (resOk_tmp rfl rfl ?_)
    | fail)
      all_goals exact PLe.refl _
    · have q2 : decide (a < b) = false := by simpa using h2
      rw [if_neg h2, if_neg h1]
      repeat' (first
    | refine run_seq ?_
    | (refine k_pick rfl ?_; first | refine k_assignD rfl rfl ?_ | refine k_moveD rfl rfl ?_ | refine k_bin2B rfl rfl rfl rfl ?_)
    | refine run_opsEnd ?_
    | refine run_region ?_
    | refine run_condF rfl (by first | rfl | assumption) ?_
    | refine run_skip ?_
    | refine run_retOk (resOk_tmp rfl rfl ?_)
    | fail)
      all_goals exact PLe.refl _
theorem boolcmp_p (a b : Bool) : PCall Tryz.prog 250 [.val (.bool a), .val (.bool b)] (.val (.int .i64 (cmpBo a b))) := by
  refine pcall_of_run Tryz.func250 rfl Tryz.ntmps250 rfl (fun X => ?_)
  cases a <;> cases b
  all_goals
    repeat' (first
    | refine run_seq ?_
    | (refine k_pick rfl ?_; first | refine k_assignD rfl rfl ?_ | refine k_moveD rfl rfl ?_ | refine k_cmpBool rfl rfl rfl (by kernel_rfl) rfl ?_ | refine k_not rfl rfl ?_)
    | refine run_opsEnd ?_
    | refine run_region ?_
    | refine run_condT rfl (by first | rfl | assumption) ?_
    | refine run_condF rfl (by first | rfl | assumption) ?_
    | refine run_skip ?_
    | refine run_retOk (resOk_tmp rfl rfl ?_)
    | fail)
  all_goals exact PLe.refl _
/-- Lists compare lexically. -/
def cmpLs (f : JV → JV → Int) : List JV → List JV → Int
  | [], [] => 0
  | [], _ :: _ => -1
  | _ :: _, [] => 1
  | x :: r, y :: q => if f x y = 0 then cmpLs f r q else f x y
theorem cmpLs_ne {f : JV → JV → Int} : ∀ {a b : List JV} {i : Nat} {x y : JV}, (∀ j u v, j < i → a[j]? = some u → b[j]? = some v → f u v = 0) → a[i]? = some x → b[i]? = some y → f x y ≠ 0 → cmpLs f a b = f x y
  | x' :: r, y' :: q, 0, x, y, _, hx, hy, h => by
    simp only [List.getElem?_cons_zero, Option.some.injEq] at hx hy
    subst hx hy
    simp only [cmpLs, if_neg h]
  | x' :: r, y' :: q, i + 1, x, y, hall, hx, hy, h => by
    simp only [cmpLs]
    rw [if_pos (hall 0 x' y' (by omega) rfl rfl)]
    exact cmpLs_ne (i := i) (fun j u v hj hu hv => hall (j + 1) u v (by omega) (by simpa using hu) (by simpa using hv)) (by simpa using hx) (by simpa using hy) h
  | [], _, _, _, _, _, hx, _, _ => by simp at hx
  | _ :: _, [], _, _, _, _, _, hy, _ => by simp at hy
theorem cmpLs_end {f : JV → JV → Int} : ∀ {a b : List JV}, (∀ (j : Nat) (u v : JV), a[j]? = some u → b[j]? = some v → f u v = 0) → cmpLs f a b = if a.length < b.length then -1 else if b.length < a.length then 1 else 0
  | [], [], _ => rfl
  | [], _ :: _, _ => by simp [cmpLs]
  | _ :: _, [], _ => by simp [cmpLs]
  | x :: r, y :: q, h => by
    simp only [cmpLs]
    rw [if_pos (h 0 x y rfl rfl), cmpLs_end (fun j u v hu hv => h (j + 1) u v (by simpa using hu) (by simpa using hv))]
    simp
end Go.Proofs.YtgmahieoiifpfaaGreat
end
section
set_option linter.unusedVariables false
namespace Go.Proofs.YtgmahieoiifpfaaGreat
open Go.RowKit
set_option linter.unusedSimpArgs false
/-- What the round over a key comes to. -/
def stepC (f : JV → JV → Int) (p q : List (ByteArray × JV)) (i : Nat) (k : ByteArray) : Int :=
  if i = p.length then -1 else if i = q.length then 1 else match lkJ p k, lkJ q k with
    | none, _ => 1
    | some _, none => -1
    | some x, some y => f x y
/-- The rounds over the keys, till one that is not 0. -/
def cmpKs (f : JV → JV → Int) (p q : List (ByteArray × JV)) : Nat → List ByteArray → Int
  | _, [] => 0
  | i, k :: r => if stepC f p q i k = 0 then cmpKs f p q (i + 1) r else stepC f p q i k
theorem cloC_c (f : JV → JV → Int) (p q : List (ByteArray × JV)) (i : Nat) (k : ByteArray) (hi : i ≤ 140737488351232) (hE : ∀ x y, lkJ p k = some x → lkJ q k = some y → PCall Tryz.prog 237 [dvA, dvV x, dvV y] (.val (.int .i64 (f x y)))) :
    ACall1 Tryz.prog 262 [.dat (.val (.string k)), .dat (valD (lkJ p k)), .dat (valD (lkJ q k)), .ptr 1000 0, .ptr 1001 0, .ptr 1002 0, .ptr 1003 0, .ptr 1004 0]
    [(1000, .box 3 [.dat (.val (.int .i64 (i : Int)))]), (1001, .box 3 [.dat (.val (.int .i64 (p.length : Int)))]), (1002, .box 3 [.dat (.val (.int .i64 0))]), (1003, .box 3 [.dat (.val (.int .i64 (q.length : Int)))]), (1004, .box 204 [.dat dvA])]
    (.dat (.val (.bool (decide (stepC f p q i k = 0)))))
    [(1000, .box 3 [.dat (.val (.int .i64 ((i : Int) + 1)))]), (1001, .box 3 [.dat (.val (.int .i64 (p.length : Int)))]), (1002, .box 3 [.dat (.val (.int .i64 (stepC f p q i k)))]), (1003, .box 3 [.dat (.val (.int .i64 (q.length : Int)))]), (1004, .box 204 [.dat dvA])] := by
  refine acall_of_run Tryz.func262 rfl Tryz.ntmps262 rfl (fun X => ?_)
  by_cases h1 : i = p.length
  · have q1 : decide ((i : Int) = (p.length : Int)) = true := by simp; omega
    have e : stepC f p q i k = -1 := by unfold stepC; rw [if_pos h1]
    rw [e]
    repeat' (first
    | refine run_seq ?_
    | (refine k_pick rfl ?_; first | refine k_assignD rfl rfl ?_ | refine k_loadBD rfl rfl rfl (by first | rfl | (simp only [cellsD]; rfl)) ?_ | refine k_bin2B rfl rfl rfl rfl ?_ | refine k_storeB rfl rfl rfl rfl rfl ?_ | refine k_ariI rfl rfl rfl rfl (by first | omega | (dsimp only; omega)) ?_)
    | refine run_opsEnd ?_
    | refine run_region ?_
    | refine run_condT rfl (by first | rfl | assumption) ?_
    | refine run_block ?_
    | refine run_blkEnd ?_
    | fail)
    refine run_retA () id (tm := [(11, .dat (.val (.bool (decide ((-1 : Int) = 0)))))]) ?_ (resA_tmp rfl rfl)
    (refine ⟨?_, ?_, by rfl⟩ <;> repeat' (first | exact trivial | exact ALe.ptr rfl | exact ALe.own rfl | exact ALe.elt rfl | exact BLe.boxD _ _ | exact BLe.row rfl | exact BLe.res | exact BLe.dead rfl | exact ALe.dat (PLe.refl _) | exact CLe.nil | refine And.intro ?_ ?_ | refine ALe.iface ?_ | refine ALe.clo ?_ | refine CLe.cons ?_ ?_ | refine BLe.box ?_ | refine BLe.row ?_ | exact ALe.any _ | refine ALe.dat (PLe.of_eq ?_)))
  have q1 : decide ((i : Int) = (p.length : Int)) = false := by simp; omega
  by_cases h2 : i = q.length
  · have q2 : decide ((i : Int) = (q.length : Int)) = true := by simp; omega
    have e : stepC f p q i k = 1 := by unfold stepC; rw [if_neg h1, if_pos h2]
    rw [e]
    repeat' (first
    | refine run_seq ?_
    | (refine k_pick rfl ?_; first | refine k_assignD rfl rfl ?_ | refine k_loadBD rfl rfl rfl (by first | rfl | (simp only [cellsD]; rfl)) ?_ | refine k_bin2B rfl rfl rfl rfl ?_ | refine k_storeB rfl rfl rfl rfl rfl ?_ | refine k_ariI rfl rfl rfl rfl (by first | omega | (dsimp only; omega)) ?_)
    | refine run_opsEnd ?_
    | refine run_region ?_
    | refine run_condT rfl (by first | rfl | assumption) ?_
    | refine run_condF rfl (by first | rfl | assumption) ?_
    | refine run_block ?_
    | refine run_blkEnd ?_
    | fail)
    refine run_retA () id (tm := [(11, .dat (.val (.bool (decide ((1 : Int) = 0)))))]) ?_ (resA_tmp rfl rfl)
    (refine ⟨?_, ?_, by rfl⟩ <;> repeat' (first | exact trivial | exact ALe.ptr rfl | exact ALe.own rfl | exact ALe.elt rfl | exact BLe.boxD _ _ | exact BLe.row rfl | exact BLe.res | exact BLe.dead rfl | exact ALe.dat (PLe.refl _) | exact CLe.nil | refine And.intro ?_ ?_ | refine ALe.iface ?_ | refine ALe.clo ?_ | refine CLe.cons ?_ ?_ | refine BLe.box ?_ | refine BLe.row ?_ | exact ALe.any _ | refine ALe.dat (PLe.of_eq ?_)))
  have q2 : decide ((i : Int) = (q.length : Int)) = false := by simp; omega
  cases hp : lkJ p k with
  | none =>
    have e : stepC f p q i k = 1 := by unfold stepC; rw [if_neg h1, if_neg h2, hp]
    rw [e]
    generalize valD (lkJ q k) = R
    repeat' (first
    | refine run_seq ?_
    | (refine k_pick rfl ?_; first | refine k_assignD rfl rfl ?_ | refine k_moveD rfl rfl ?_ | refine k_loadBD rfl rfl rfl (by first | rfl | (simp only [cellsD]; rfl)) ?_ | refine k_bin2B rfl rfl rfl rfl ?_ | refine k_cmpNil rfl rfl rfl (by kernel_rfl) (by first | exact NilIs.ptr | exact NilIs.none | exact NilIs.nilI | assumption) rfl ?_ | refine k_storeB rfl rfl rfl rfl rfl ?_ | refine k_ariI rfl rfl rfl rfl (by first | omega | (dsimp only; omega)) ?_)
    | refine run_opsEnd ?_
    | refine run_region ?_
    | refine run_condT rfl (by first | rfl | assumption) ?_
    | refine run_condF rfl (by first | rfl | assumption) ?_
    | refine run_block ?_
    | refine run_blkEnd ?_
    | fail)
    refine run_retA () id (tm := [(11, .dat (.val (.bool (decide ((1 : Int) = 0)))))]) ?_ (resA_tmp rfl rfl)
    (refine ⟨?_, ?_, by rfl⟩ <;> repeat' (first | exact trivial | exact ALe.ptr rfl | exact ALe.own rfl | exact ALe.elt rfl | exact BLe.boxD _ _ | exact BLe.row rfl | exact BLe.res | exact BLe.dead rfl | exact ALe.dat (PLe.refl _) | exact CLe.nil | refine And.intro ?_ ?_ | refine ALe.iface ?_ | refine ALe.clo ?_ | refine CLe.cons ?_ ?_ | refine BLe.box ?_ | refine BLe.row ?_ | exact ALe.any _ | refine ALe.dat (PLe.of_eq ?_)))
  | some x =>
    cases hq : lkJ q k with
    | none =>
      have e : stepC f p q i k = -1 := by unfold stepC; rw [if_neg h1, if_neg h2, hp, hq]
      rw [e]
      repeat' (first
    | refine run_seq ?_
    | (refine k_pick rfl ?_; first | refine k_assignD rfl rfl ?_ | refine k_moveD rfl rfl ?_ | refine k_loadBD rfl rfl rfl (by first | rfl | (simp only [cellsD]; rfl)) ?_ | refine k_bin2B rfl rfl rfl rfl ?_ | refine k_cmpNil rfl rfl rfl (by kernel_rfl) (by first | exact NilIs.ptr | exact NilIs.none | exact NilIs.nilI | assumption) rfl ?_ | refine k_storeB rfl rfl rfl rfl rfl ?_ | refine k_ariI rfl rfl rfl rfl (by first | omega | (dsimp only; omega)) ?_ | refine k_cmpNil rfl rfl rfl (by kernel_rfl) (by exact NilIs.ifc) rfl ?_)
    | refine run_opsEnd ?_
    | refine run_region ?_
    | refine run_condT rfl (by first | rfl | assumption) ?_
    | refine run_condF rfl (by first | rfl | assumption) ?_
    | refine run_block ?_
    | refine run_blkEnd ?_
    | fail)
      refine run_retA () id (tm := [(11, .dat (.val (.bool (decide ((-1 : Int) = 0)))))]) ?_ (resA_tmp rfl rfl)
      (refine ⟨?_, ?_, by rfl⟩ <;> repeat' (first | exact trivial | exact ALe.ptr rfl | exact ALe.own rfl | exact ALe.elt rfl | exact BLe.boxD _ _ | exact BLe.row rfl | exact BLe.res | exact BLe.dead rfl | exact ALe.dat (PLe.refl _) | exact CLe.nil | refine And.intro ?_ ?_ | refine ALe.iface ?_ | refine ALe.clo ?_ | refine CLe.cons ?_ ?_ | refine BLe.box ?_ | refine BLe.row ?_ | exact ALe.any _ | refine ALe.dat (PLe.of_eq ?_)))
    | some y =>
      have hC := hE x y hp hq
      have e : stepC f p q i k = f x y := by unfold stepC; rw [if_neg h1, if_neg h2, hp, hq]
      rw [e]
      generalize f x y = c at *
      repeat' (first
    | refine run_seq ?_
    | (refine k_pick rfl ?_; first | refine k_assignD rfl rfl ?_ | refine k_moveD rfl rfl ?_ | refine k_loadBD rfl rfl rfl (by first | rfl | (simp only [cellsD]; rfl)) ?_ | refine k_bin2B rfl rfl rfl rfl ?_ | refine k_call rfl (by kernel_rfl) rfl (by first | exact hC) ?_ | refine k_storeB rfl rfl rfl rfl rfl ?_ | refine k_ariI rfl rfl rfl rfl (by first | omega | (dsimp only; omega)) ?_ | refine k_cmpNil rfl rfl rfl (by kernel_rfl) (by exact NilIs.ifc) rfl ?_)
    | refine run_opsEnd ?_
    | refine run_region ?_
    | refine run_condF rfl (by first | rfl | assumption) ?_
    | refine run_block ?_
    | refine run_blkEnd ?_
    | fail)
      refine run_retA () id (tm := [(11, .dat (.val (.bool (decide (c = 0)))))]) ?_ (resA_tmp rfl rfl)
      (refine ⟨?_, ?_, by rfl⟩ <;> repeat' (first | exact trivial | exact ALe.ptr rfl | exact ALe.own rfl | exact ALe.elt rfl | exact BLe.boxD _ _ | exact BLe.row rfl | exact BLe.res | exact BLe.dead rfl | exact ALe.dat (PLe.refl _) | exact CLe.nil | refine And.intro ?_ ?_ | refine ALe.iface ?_ | refine ALe.clo ?_ | refine CLe.cons ?_ ?_ | refine BLe.box ?_ | refine BLe.row ?_ | exact ALe.any _ | refine ALe.dat (PLe.of_eq ?_)))
theorem swap_eq {A : List ByteArray} {x y : ByteArray} {R : List ByteArray} : ((pdS (A ++ y :: x :: R)).set (A.length + 1) (.val (.string y))).set A.length (.val (.string x)) = pdS (A ++ x :: y :: R) := by
  unfold pdS
  simp only [List.map_append, List.map_cons]
  have e : (A.map fun k => PD.val (.string k)).length = A.length := by simp
  rw [List.set_append_right _ _ (by rw [e]; omega), List.set_append_right _ _ (by rw [e]; omega), e]
  simp
/-- x stands where it belongs. -/
theorem incr_put {A B : List ByteArray} {x : ByteArray} (h : Incr (A ++ B)) (hB : ∀ b ∈ B, blt x b = true) (hA : ∀ y, A.getLast? = some y → blt y x = true) : Incr (A ++ x :: B) := by
  unfold Incr at *
  rw [List.pairwise_append] at h ⊢
  obtain ⟨h1, h2, h3⟩ := h
  have hAx : ∀ a ∈ A, blt a x = true := by
    intro a ha
    rcases List.eq_nil_or_concat A with rfl | ⟨A', y, rfl⟩
    · cases ha
    · have hy := hA y (by simp)
      simp only [List.concat_eq_append] at ha h1
      rcases List.mem_append.1 ha with ha | ha
      · rw [List.pairwise_append] at h1
        exact blt_trans (h1.2.2 a ha y (by simp)) hy
      · simp at ha; subst ha; exact hy
  refine ⟨h1, List.pairwise_cons.2 ⟨hB, h2⟩, fun a ha b hb => ?_⟩
  rcases List.mem_cons.1 hb with rfl | hb
  · exact hAx a ha
  · exact h3 a ha b hb
end Go.Proofs.YtgmahieoiifpfaaGreat
end
