/- Part 6 of what the proof rests on. -/
import Derived.Maps.AppendAt
import Derived.Deep.AppendLies
import Derived.Deep.Draws
import Derived.RegionTactic
import Derived.Deep.RegionWith
import Derived.Deep.QuietTactic
import Derived.BigQuiet
import Derived.Lib.Bytealg
import Derived.Test.YtgmahieoiifpfaaGreatScR1
import Derived.Test.YtgmahieoiifpfaaGreatScR4
import Derived.Test.YtgmahieoiifpfaaGreatScR5
set_option linter.unusedSimpArgs false
set_option linter.unusedVariables false
set_option maxHeartbeats 8000000
set_option maxRecDepth 100000
namespace Go.Proofs.YtgmahieoiifpfaaGreat
open Go.RowKit
section
variable {P : Program} {X : Base} {N : Nat} {ops r : List Oper} {s s1 : Sta} {K : List Eff → Sta → Prop}
structure TrX (P : Program) (X : Base) (N : Nat) (ops : List Oper) (d : Option Tmp) (op : Op) (r : List Oper) (s : Sta) (K : List Eff → Sta → Prop) : Prop where
 out : ∃ e s1, TrK P X N ops d op e s s1 ∧ TrC P X N ops r s1 (fun es s' => K (e :: es) s')
theorem Zcl {d : Option Tmp} {op : Op} {e : Eff} (hk : TrK P X N ops d op e s s1) (h : TrC P X N ops r s1 (fun es s' => K (e :: es) s')) : TrX P X N ops d op r s K := ⟨e, s1, hk, h⟩
theorem Ysp {d : Option Tmp} {op : Op} {ty : TypeId} {pos : String} {aft : Array Edge} (h : TrX P X N ops d op r s K) : TrC P X N ops (⟨d, op, ty, pos, aft, none⟩ :: r) s K := by
 obtain ⟨e, s1, h1, h2⟩ := h.out
 exact Zbl h1 h2
theorem Ypq {d : Option Tmp} {op : Op} {ty : TypeId} {pos : String} {aft : Array Edge} {g : Nat} {want b : Bool} (hb : gA ops s g = .dat (.val (.bool b))) (hw : b = want) (h : TrX P X N ops d op r s K) : TrC P X N ops (⟨d, op, ty, pos, aft, some (g, want)⟩ :: r) s K := by
 obtain ⟨e, s1, h1, h2⟩ := h.out
 exact Zfd hb hw h1 h2
theorem Yij {d : Nat} {x : Operand} {lo hi : Option Operand} {t e n y y' : Nat} {l : List PD} {a b : Int} (hN : Nat.blt d N = true) (hx : s.ev x = .dat (.sl n y l)) [ht : SI P t e n y'] (hlo : Zv5 s lo 0 = some a) (hhi : Zv5 s hi l.length = some b) (h0 : 0 ≤ a) (hab : a ≤ b) (hbl : b ≤ l.length) : TrK P X N ops (some d) (.slice t x lo hi none) (Eff.put (some d) (.dat (.sl n y ((l.take b.toNat).drop a.toNat)))) s (s.put (some d) (.dat (.sl n y ((l.take b.toNat).drop a.toNat)))) := by
 obtain ⟨a, rfl⟩ := Int.eq_ofNat_of_zero_le h0
 obtain ⟨b, rfl⟩ := Int.eq_ofNat_of_zero_le (by omega : 0 ≤ b)
 exact Zyr hN hx hlo hhi (by omega) (by omega)
structure Box (G : Prop) : Prop where
 out : G
structure Zia : Prop where
 out : True
end
section
variable {P : Program} {X : Base} {N : Nat} {Q : Exit → Act → World → Prop} {ops : Array Oper} {rem : List Nat} {ks : List Itm} {opl : List Oper} {s s' : Sta} {t k off T : Nat} {x y : Operand} {cs cs' : List AV} {g : Bool} {v : AV}
theorem Yfw {o : Oper} (hd : Za7 X.N o.dst = true) {x y : Operand} {ts : Array TypeId} (ho : o.op = .call { callee := .builtin .min, args := #[x, y], argTypes := ts }) {p q : Nat} (hx : s.ev x = .dat (.val (.int .i64 ((p : Nat) : Int)))) (hy : s.ev y = .dat (.val (.int .i64 ((q : Nat) : Int)))) :
  OpS P X o s (s.put o.dst (.dat (.val (.int .i64 ((min p q : Nat) : Int))))) := by
 refine Zat hd fun a w ρ hc => ⟨.int .i64 ((min p q : Nat) : Int), ?_, ?_⟩
 ·have h1 := hc.ev x
  have h2 := hc.ev y
  rw [hx] at h1
  rw [hy] at h2
  unfold VR Rep at h1 h2
  have e : (if (q : Int) < (p : Int) then (q : Int) else (p : Int)) = ((min p q : Nat) : Int) := by split <;> omega
  simp only [execOp, ho, resolve, invoke, builtin, h1.1, h2.1, List.map_toArray, List.map_cons, List.map_nil, Sem.run_bind, Sem.run_pure, Result.andThen_ok, run_min_int2, e]
 ·unfold VR Rep
  refine ⟨rfl, ?_⟩
  have h1 := hc.ev x
  have h2 := hc.ev y
  rw [hx] at h1
  rw [hy] at h2
  unfold VR Rep at h1 h2
  have : min p q = p ∨ min p q = q := by omega
  rcases this with h | h <;> rw [h]
  ·exact h1.2
  ·exact h2.2
theorem Yrd {d p q : Nat} {x y : Operand} {ts : Array TypeId} (hN : Nat.blt d N = true) (hx : s.ev x = .dat (.val (.int .i64 ((p : Nat) : Int)))) (hy : s.ev y = .dat (.val (.int .i64 ((q : Nat) : Int)))) (h : Run P X N Q (.ops ops rem :: ks) (s.put (some d) (.dat (.val (.int .i64 ((min p q : Nat) : Int)))))) :
  Zbp P X N Q ops rem ks (some d) (.call { callee := .builtin .min, args := #[x, y], argTypes := ts }) s := Zdx hN (fun _ _ _ hd => Yfw hd rfl hx hy) h
theorem Yqj {ops : List Oper} {d p q : Nat} {x y : Operand} {ts : Array TypeId} (hN : Nat.blt d N = true) (hx : s.ev x = .dat (.val (.int .i64 ((p : Nat) : Int)))) (hy : s.ev y = .dat (.val (.int .i64 ((q : Nat) : Int)))) :
  TrK P X N ops (some d) (.call { callee := .builtin .min, args := #[x, y], argTypes := ts }) (Eff.put (some d) (.dat (.val (.int .i64 ((min p q : Nat) : Int))))) s (s.put (some d) (.dat (.val (.int .i64 ((min p q : Nat) : Int))))) := Zbm hN fun s' _ _ _ _ hd hev htb => Yfw hd rfl ((hev x (by simp [Op.operands, Call.operands])).trans hx) ((hev y (by simp [Op.operands, Call.operands])).trans hy)
theorem Zxq {α : Type} : ∀ (cs : List α) (off : Nat) (v : α), off + 1 ≤ cs.length → cs.take off ++ [v] ++ cs.drop (off + 1) = cs.set off v
 | [], _, _, h => by simp at h
 | a :: r, 0, v, h => by simp
 | a :: r, o + 1, v, h => by
  have := Zxq r o v (by simpa using h)
  simpa using this
theorem Zzo (hx : s.ev x = .ptr k off) (hk : s.tb k = some (.box T cs)) [ht : VI P t 1 g] (hy : s.ev y = v) (hv : Zc5 v = some [v]) (hle : Nat.ble (off + 1) cs.length = true) (hc : cs.set off v = cs')
  (h : Run P X N Q (.ops ops rem :: ks) (s.set k (.box T cs'))) : Zbp P X N Q ops rem ks none (.store t x y) s := by
 subst hc
 rw [← Zxq cs off v (Nat.le_of_ble_eq_true hle)] at h
 exact Zcx (ys := [v]) hx hk (by rw [hy]; exact hv) rfl hle h
theorem Yik (hx : s.ev x = .ptr k off) (hk : s.tb k = some (.box T cs)) [ht : VI P t 1 g] (hy : s.ev y = v) (hv : Zc5 v = some [v]) (hle : Nat.ble (off + 1) cs.length = true) (hc : cs.set off v = cs') :
  TrK P X N opl none (.store t x y) (Eff.set k (.box T cs')) s (s.set k (.box T cs')) := by
 subst hc
 rw [← Zxq cs off v (Nat.le_of_ble_eq_true hle)]
 exact Zyt (ys := [v]) hx hk (by rw [hy]; exact hv) rfl hle
theorem Yjj {k' : Nat} (hx : s.ev x = .ptr k off) (hk : s.tb k = some (.box T cs)) [ht : VI P t 1 g] (hy : s.ev y = .own k') (hle : Nat.ble (off + 1) cs.length = true) (hc : cs.set off (.own k') = cs') (h : Run P X N Q (.ops ops rem :: ks) (s.set k (.box T cs'))) : Zbp P X N Q ops rem ks none (.store t x y) s := Zzo hx hk hy rfl hle hc h
theorem Yil {k' : Nat} (hx : s.ev x = .ptr k off) (hk : s.tb k = some (.box T cs)) [ht : VI P t 1 g] (hy : s.ev y = .own k') (hle : Nat.ble (off + 1) cs.length = true) (hc : cs.set off (.own k') = cs') : TrK P X N opl none (.store t x y) (Eff.set k (.box T cs')) s (s.set k (.box T cs')) := Yik hx hk hy rfl hle hc
theorem Yji {d : PD} (hx : s.ev x = .ptr k off) (hk : s.tb k = some (.box T cs)) [ht : VI P t 1 g] (hy : s.ev y = .dat d) (hv : Zc5 (.dat d) = some [.dat d]) (hle : Nat.ble (off + 1) cs.length = true) (hc : cs.set off (.dat d) = cs') (h : Run P X N Q (.ops ops rem :: ks) (s.set k (.box T cs'))) : Zbp P X N Q ops rem ks none (.store t x y) s := Zzo hx hk hy hv hle hc h
/-- Walks on as far as the rules go. -/
theorem wk {G p : Prop} (g : G) (h : Box G → p := by
 intro g
 repeat
  (first
   | (show Zbp _ _ _ _ _ _ _ _ _ _; first
    | (show Zbp _ _ _ _ _ _ _ _ (.move _) _; first 
     | refine Zal rfl rfl ?_
     | refine Zfy rfl rfl ?_
     | refine Yn1 rfl rfl ?_
     | refine k_moveG rfl rfl ?_
     | refine Zdw rfl rfl ?_
     | refine Zh0 rfl rfl ?_
     | refine Zoq rfl rfl ?_
     | refine Yn0 rfl rfl ?_
     | fail)
    | (show Zbp _ _ _ _ _ _ _ _ (.assign _) _; first 
     | refine Zad rfl rfl ?_
     | refine Zgn rfl rfl ?_
     | refine Yey rfl rfl ?_
     | refine k_assignG rfl rfl ?_
     | refine Zc8 rfl rfl ?_
     | refine Yex rfl rfl ?_
     | fail)
    | (show Zbp _ _ _ _ _ _ _ _ (.fieldAddr _ _ _) _; first 
     | refine Za9 rfl rfl rfl ?_
     | refine Zu1 rfl rfl rfl rfl rfl ?_
     | refine Yjb rfl rfl rfl rfl ?_
     | refine k_fieldR rfl rfl rfl rfl ?_
     | fail)
    | (show Zbp _ _ _ _ _ _ _ _ (.load _ _) _; first 
     | refine Zsj rfl rfl rfl (by first | rfl | (simp only [Zap]; rfl)) ?_
     | refine Za5 rfl rfl rfl rfl ?_
     | refine Zw6 rfl rfl (by first | rfl | assumption) ?_
     | refine Zkq rfl rfl rfl rfl ?_
     | refine k_loadBP rfl rfl rfl rfl ?_
     | refine Yjg rfl rfl rfl rfl ?_
     | refine Zzn rfl rfl rfl rfl ?_
     | refine Zw7 rfl rfl rfl (by assumption) ?_
     | refine Ynz rfl rfl rfl (by assumption) rfl ?_
     | fail)
    | (show Zbp _ _ _ _ _ _ _ _ (.field _ _ _) _; first 
     | refine k_fieldD rfl rfl rfl rfl ?_
     | fail)
    | (show Zbp _ _ _ _ _ _ _ _ (.binOp _ _ _ _ _) _; first 
     | refine Yrf rfl rfl rfl (by assumption) (by assumption) ?_
     | refine Zax rfl rfl rfl rfl ?_
     | refine Zcg rfl rfl rfl (by kernel_rfl) (by first | exact NilIs.ptr | exact NilIs.none | exact NilIs.nilI | exact NilIs.ifc | assumption) rfl ?_
     | refine k_cmpNilA rfl rfl rfl (by kernel_rfl) (by first | exact NilA.ptr | exact NilA.iface) rfl ?_
     | refine Zom rfl rfl rfl (by kernel_rfl) rfl ?_
     | refine Zid rfl rfl rfl rfl (by first | omega | (dsimp only; omega)) ?_
     | refine Zzj rfl rfl rfl rfl ?_
     | fail)
    | (show Zbp _ _ _ _ _ _ _ _ (.unOp _ _ _) _; first 
     | refine Zdc rfl rfl ?_
     | fail)
    | (show Zbp _ _ _ _ _ _ _ _ (.pick _ _ _) _; first 
     | refine Zfz rfl rfl (by first | rfl | assumption) rfl ?_
     | refine Zen rfl rfl (by first | rfl | assumption) rfl ?_
     | fail)
    | (show Zbp _ _ _ _ _ _ _ _ (.indexAddr _ _ _) _; first 
     | refine Zis rfl rfl rfl (by first | omega | (dsimp only; omega)) (by assumption) ?_
     | refine Yjd rfl rfl rfl (by assumption) ?_
     | refine Zsi rfl rfl rfl rfl (by assumption) (by first | assumption | (simp only [List.length_set]; assumption)) ?_
     | refine Yje rfl rfl rfl rfl (by assumption) ?_
     | fail)
    | (show Zbp _ _ _ _ _ _ _ _ (.extract _ _) _; first 
     | refine Zcb rfl rfl rfl ?_
     | refine Zhl rfl rfl rfl ?_
     | refine Zhm rfl rfl rfl ?_
     | fail)
    | (show Zbp _ _ _ _ _ _ _ _ (.nilCheck _) _; first 
     | refine Zu4 rfl rfl ?_
     | refine Yre rfl rfl ?_
     | refine Zg5 rfl rfl ?_
     | refine k_nilE rfl rfl rfl ?_
     | fail)
    | (show Zbp _ _ _ _ _ _ _ _ (.slice _ _ _ _ _) _; first 
     | refine Yjh rfl rfl rfl rfl (by omega) (by first | omega | (dsimp only; omega)) ?_
     | refine k_sliceZ rfl rfl rfl rfl (by omega) (by omega) (by first | omega | (dsimp only; omega)) ?_
     | fail)
    | (show Zbp _ _ _ _ _ _ _ _ (.convert _ _ _) _; first 
     | refine Ynx rfl rfl (by kernel_rfl) (by kernel_rfl) (by assumption) ?_
     | refine k_convI rfl rfl (by kernel_rfl) (by kernel_rfl) ?_
     | refine Zsg (q := .f64) rfl rfl (by kernel_rfl) (by kernel_rfl) ?_
     | fail)
    | (show Zbp _ _ _ _ _ _ _ _ (.build _ _) _; first 
     | refine Zlz rfl rfl rfl ?_
     | refine Zzi rfl rfl rfl ?_
     | fail)
    | (show Zbp _ _ _ _ _ _ _ _ (.makeInterface _ _) _; first 
     | refine Zsh rfl rfl (by kernel_rfl) ?_
     | refine Zfm rfl rfl (by kernel_rfl) ?_
     | refine Yjc rfl rfl (by kernel_rfl) ?_
     | fail)
    | (show Zbp _ _ _ _ _ _ _ _ (.box _ _) _; (fail_if_success (have nd : Zia := by assumption)); first 
     | refine Zcq rfl rfl rfl (by first | rfl | (simp only [Zap]; rfl)) ?_
     | refine Ynw rfl rfl rfl ?_
     | fail)
    | (show Zbp _ _ _ _ _ _ _ _ (.alloc _) _; first 
     | refine Zlx rfl rfl ?_
     | fail)
    | (show Zbp _ _ _ _ _ _ _ _ (.store _ _ _) _; first 
     | refine Yjk rfl rfl rfl rfl rfl rfl ?_
     | refine Yjj rfl rfl rfl rfl (by (try simp only [Zap, List.map_cons, List.map_nil, List.set_cons_zero, List.set_cons_succ, Nat.zero_add]); rfl) ?_
     | refine k_storeP rfl rfl rfl rfl (by (try simp only [Zap, List.map_cons, List.map_nil, List.set_cons_zero, List.set_cons_succ, Nat.zero_add]); rfl) ?_
     | refine Yji rfl rfl rfl rfl rfl (by (try simp only [Zap, List.map_cons, List.map_nil, List.set_cons_zero, List.set_cons_succ, Nat.zero_add]); rfl) ?_
     | refine Zcx rfl rfl rfl rfl rfl ?_
     | refine k_storeE rfl rfl (by first | assumption | (simp only [List.length_set]; assumption)) rfl ?_
     | fail)
    | (show Zbp _ _ _ _ _ _ _ _ (.makeSlice _ _ _) _; first 
     | refine Zop rfl rfl rfl rfl (by kernel_rfl) (by first | assumption | omega | (simp only [List.length_append, List.length_cons, List.length_nil, List.length_drop, List.length_take, List.length_map]; omega)) (by first | assumption | omega | (simp only [List.length_append, List.length_cons, List.length_nil, List.length_drop, List.length_take, List.length_map]; omega)) ?_
     | fail)
    | (show Zbp _ _ _ _ _ _ _ _ (.buildSlice _ _ _) _; first 
     | refine k_bsl rfl rfl (by kernel_rfl) rfl (by (try dsimp only); rfl) rfl rfl rfl rfl ?_
     | refine Zir rfl rfl (by kernel_rfl) rfl rfl rfl rfl rfl ?_
     | refine k_buildSliceF rfl (by kernel_rfl) rfl rfl rfl rfl rfl ?_
     | fail)
    | (show Zbp _ _ _ _ _ _ _ _ (.makeFunc _ _ _) _; first 
     | refine Zgd rfl ?_
     | fail)
    | (show Zbp _ _ _ _ _ _ _ _ (.lookup _ _ _ _) _; first 
     | refine Zjw rfl rfl rfl (by assumption) ?_
     | fail)
    | (show Zbp _ _ _ _ _ _ _ _ (.range _ _) _; first 
     | refine Znb rfl rfl rfl ?_
     | fail)
    | (show Zbp _ _ _ _ _ _ _ _ (.entry _) _; first 
     | refine Zkp rfl rfl rfl ?_
     | fail)
    | (show Zbp _ _ _ _ _ _ _ _ (.makeMap _ _) _; first 
     | refine Ybo rfl rfl ?_
     | fail)
    | (show Zbp _ _ _ _ _ _ _ _ (.typeAssert _ _ _ _) _; first 
     | refine Yrh rfl rfl (by kernel_rfl) ?_
     | refine Yrg rfl rfl (by kernel_rfl) ?_
     | refine Ytc rfl rfl (by kernel_rfl) rfl rfl ?_
     | refine Ytd rfl rfl (by kernel_rfl) (by kernel_rfl) rfl rfl ?_
     | fail)
    | (show Zbp _ _ _ _ _ _ _ _ (.call _) _; first 
     | refine Zu2 rfl rfl ?_
     | refine Ye1 rfl rfl rfl ?_
     | refine Zoo rfl rfl (by kernel_rfl) ?_
     | refine Yrc rfl rfl ?_
     | refine Zzm rfl rfl ?_
     | refine Zme rfl rfl ?_
     | refine Yrd rfl rfl rfl ?_
     | refine Zgo rfl (by kernel_rfl) rfl (by assumption) ?_
     | refine Zhb gV rfl (by kernel_rfl) rfl (by assumption) Flat.val ?_
     | refine Zly rfl rfl rfl rfl rfl rfl (by kernel_rfl) rfl rfl (by first | assumption | omega | (simp only [List.length_append, List.length_cons, List.length_nil, List.length_drop, List.length_take, List.length_map]; omega)) (by first | assumption | omega | (simp only [List.length_append, List.length_cons, List.length_nil, List.length_drop, List.length_take, List.length_map]; omega)) ?_
     | refine Ybm rfl rfl rfl rfl rfl (by kernel_rfl) rfl rfl (by first | assumption | omega | (simp only [List.length_append, List.length_cons, List.length_nil, List.length_drop, List.length_take, List.length_map]; omega)) (by first | assumption | omega | (simp only [List.length_append, List.length_cons, List.length_nil, List.length_drop, List.length_take, List.length_map]; omega)) ?_
     | refine k_appendND rfl rfl rfl rfl (by kernel_rfl) rfl rfl (by first | assumption | omega | (simp only [List.length_append, List.length_cons, List.length_nil, List.length_drop, List.length_take, List.length_map]; omega)) (by first | assumption | omega | (simp only [List.length_append, List.length_cons, List.length_nil, List.length_drop, List.length_take, List.length_map]; omega)) ?_
     | refine k_appendNO rfl rfl rfl rfl rfl (by kernel_rfl) rfl rfl (by first | assumption | omega | (simp only [List.length_append, List.length_cons, List.length_nil, List.length_drop, List.length_take, List.length_map]; omega)) (by first | assumption | omega | (simp only [List.length_append, List.length_cons, List.length_nil, List.length_drop, List.length_take, List.length_map]; omega)) ?_
     | refine k_callV rfl rfl (by kernel_rfl) rfl (by assumption) ?_
     | refine Zdq rfl rfl (by kernel_rfl) rfl (by assumption) ?_
     | refine Zeg rfl rfl rfl (by kernel_rfl) rfl (by assumption) ?_
     | fail))
   | (show Run _ _ _ _ (Itm.ops _ (_ :: _) :: _) _; first
    | refine Zao rfl ?_
    | refine Zc3 rfl rfl (by first | rfl | assumption) ?_
    | refine k_guardU rfl rfl rfl ?_
    | refine Ze3 rfl rfl (by first | rfl | assumption) rfl ?_
    | refine Zon rfl rfl (by first | rfl | assumption) rfl ?_)
   | (show Run _ _ _ _ (Itm.code _ :: _) _; first
    | refine Zae ?_
    | refine Zab ?_
    | refine Zau ?_
    | refine Zas ?_
    | refine Ze7 rfl ?_
    | refine Zam rfl (by first | rfl | assumption) ?_
    | refine Zak rfl (by first | rfl | assumption) ?_
    | ((fail_if_success (have nd : Zia := by assumption)); refine Ze6 (by kernel_rfl) ?_)
    | exact Zag (Zaj rfl rfl (PLe.refl _))
    | exact Zag (Zi8 rfl rfl rfl (PLe.refl _) (PLe.refl _))
    | exact Zag (Zl4 rfl rfl rfl (by first | rfl | (simp only [Zap]; rfl)) (PLe.refl _))
    | (refine Zag (Zaj rfl rfl ?_); (repeat' (first | exact PLe.refl _ | exact PLe.nil _ _ | exact trivial | refine And.intro ?_ ?_ | refine PLe.aggs ?_ | (refine PLe.of_eq ?_; first | rfl | assumption | (symm; assumption)) | fail)); done)
    | (refine Zag (Zi8 rfl rfl rfl ?_ ?_) <;> ((repeat' (first | exact PLe.refl _ | exact PLe.nil _ _ | exact trivial | refine And.intro ?_ ?_ | refine PLe.aggs ?_ | (refine PLe.of_eq ?_; first | rfl | assumption | (symm; assumption)) | fail)); done))
    | (refine Zag (Zl4 rfl rfl rfl (by first | rfl | (simp only [Zap]; rfl)) ?_); (repeat' (first | exact PLe.refl _ | exact PLe.nil _ _ | exact trivial | refine And.intro ?_ ?_ | refine PLe.aggs ?_ | (refine PLe.of_eq ?_; first | rfl | assumption | (symm; assumption)) | fail)); done)
    | fail)
   | refine Zac ?_
   | refine Zbx ?_
   | (show TrX _ _ _ _ _ _ _ _ _; first
    | (show TrX _ _ _ _ _ (.move _) _ _ _; first 
     | refine Zcl (Zjr rfl rfl) ?_
     | refine Zcl (Zwp rfl rfl) ?_
     | refine Zcl (Ymv rfl rfl) ?_
     | refine Zcl (d_moveG rfl rfl) ?_
     | refine Zcl (Ydo rfl rfl) ?_
     | refine Zcl (Ymt rfl rfl) ?_
     | refine Zcl (Ymu rfl rfl) ?_
     | fail)
    | (show TrX _ _ _ _ _ (.assign _) _ _ _; first 
     | refine Zcl (Zil rfl rfl) ?_
     | refine Zcl (Ydk rfl rfl) ?_
     | refine Zcl (d_assignO rfl rfl) ?_
     | refine Zcl (d_assignG rfl rfl) ?_
     | refine Zcl (Zt3 rfl rfl) ?_
     | refine Zcl (d_assignE rfl rfl) ?_
     | fail)
    | (show TrX _ _ _ _ _ (.fieldAddr _ _ _) _ _ _; first 
     | refine Zcl (Zin rfl rfl rfl) ?_
     | refine Zcl (Zt5 rfl rfl rfl rfl rfl) ?_
     | refine Zcl (d_fieldE rfl rfl rfl rfl) ?_
     | refine Zcl (Yig rfl rfl rfl rfl) ?_
     | fail)
    | (show TrX _ _ _ _ _ (.load _ _) _ _ _; first 
     | refine Zcl (Zwo rfl rfl rfl (by first | rfl | (simp only [Zap]; rfl))) ?_
     | refine Zcl (Zm2 rfl rfl rfl rfl) ?_
     | refine Zcl (Ydn rfl rfl (by first | rfl | assumption)) ?_
     | refine Zcl (Zm3 rfl rfl rfl rfl) ?_
     | refine Zcl (Zm4 rfl rfl rfl rfl) ?_
     | refine Zcl (d_loadBG rfl rfl rfl rfl) ?_
     | refine Zcl (Zrw rfl rfl rfl (by assumption)) ?_
     | fail)
    | (show TrX _ _ _ _ _ (.field _ _ _) _ _ _; first 
     | refine Zcl (d_fieldD rfl rfl rfl rfl) ?_
     | fail)
    | (show TrX _ _ _ _ _ (.binOp _ _ _ _ _) _ _ _; first 
     | refine Zcl (Zim rfl rfl rfl rfl) ?_
     | refine Zcl (d_cmpNil rfl rfl rfl (by kernel_rfl) (by first | exact NilIs.ptr | exact NilIs.none | exact NilIs.nilI | exact NilIs.ifc | assumption) rfl) ?_
     | refine Zcl (d_cmpNilA rfl rfl rfl (by kernel_rfl) (by first | exact NilA.ptr | exact NilA.iface) rfl) ?_
     | refine Zcl (d_cmpBool rfl rfl rfl (by kernel_rfl) rfl) ?_
     | refine Zcl (Zym rfl rfl rfl rfl (by first | omega | (dsimp only; omega))) ?_
     | refine Zcl (Yqh rfl rfl rfl rfl) ?_
     | fail)
    | (show TrX _ _ _ _ _ (.unOp _ _ _) _ _ _; first 
     | refine Zcl (Ys7 rfl rfl) ?_
     | fail)
    | (show TrX _ _ _ _ _ (.pick _ _ _) _ _ _; first 
     | refine Zcl (Zwq rfl rfl (by first | rfl | assumption) rfl) ?_
     | refine Zcl (Ydq rfl rfl (by first | rfl | assumption) rfl) ?_
     | fail)
    | (show TrX _ _ _ _ _ (.indexAddr _ _ _) _ _ _; first 
     | refine Zcl (Zt6 rfl rfl rfl (by first | omega | (dsimp only; omega)) (by assumption)) ?_
     | refine Zcl (Zyo rfl rfl rfl (by assumption)) ?_
     | refine Zcl (Zm1 rfl rfl rfl rfl (by assumption) (by first | assumption | (simp only [List.length_set]; assumption))) ?_
     | refine Zcl (d_indexN rfl rfl rfl rfl (by assumption)) ?_
     | fail)
    | (show TrX _ _ _ _ _ (.extract _ _) _ _ _; first 
     | refine Zcl (Ydl rfl rfl rfl) ?_
     | fail)
    | (show TrX _ _ _ _ _ (.nilCheck _) _ _ _; first 
     | refine Zcl (Ydp rfl rfl) ?_
     | refine Zcl (Yqk rfl rfl) ?_
     | refine Zcl (Ylb rfl rfl) ?_
     | refine Zcl (Yql rfl rfl rfl) ?_
     | fail)
    | (show TrX _ _ _ _ _ (.slice _ _ _ _ _) _ _ _; first 
     | refine Zcl (Zyr rfl rfl rfl rfl (by omega) (by first | omega | (dsimp only; omega))) ?_
     | refine Zcl (Yij rfl rfl rfl rfl (by omega) (by omega) (by first | omega | (dsimp only; omega))) ?_
     | fail)
    | (show TrX _ _ _ _ _ (.convert _ _ _) _ _ _; first 
     | refine Zcl (d_convI rfl rfl (by kernel_rfl) (by kernel_rfl)) ?_
     | refine Zcl (d_convF (q := .f64) rfl rfl (by kernel_rfl) (by kernel_rfl)) ?_
     | fail)
    | (show TrX _ _ _ _ _ (.build _ _) _ _ _; first 
     | refine Zcl (Ymq rfl rfl rfl) ?_
     | refine Zcl (Yie rfl rfl rfl) ?_
     | fail)
    | (show TrX _ _ _ _ _ (.makeInterface _ _) _ _ _; first 
     | refine Zcl (d_iface rfl rfl (by kernel_rfl)) ?_
     | refine Zcl (Zyn rfl rfl (by kernel_rfl)) ?_
     | refine Zcl (d_ifaceO rfl rfl (by kernel_rfl)) ?_
     | fail)
    | (show TrX _ _ _ _ _ (.box _ _) _ _ _; (fail_if_success (have nd : Zia := by assumption)); first 
     | refine Zcl (Yqg rfl rfl rfl (by first | rfl | (simp only [Zap]; rfl))) ?_
     | refine Zcl (d_box rfl rfl rfl) ?_
     | fail)
    | (show TrX _ _ _ _ _ (.alloc _) _ _ _; first 
     | refine Zcl (d_alloc rfl rfl) ?_
     | fail)
    | (show TrX _ _ _ _ _ (.store _ _ _) _ _ _; first 
     | refine Zcl (Yim rfl rfl rfl rfl rfl rfl) ?_
     | refine Zcl (Yil rfl rfl rfl rfl (by (try simp only [Zap, List.map_cons, List.map_nil, List.set_cons_zero, List.set_cons_succ, Nat.zero_add]); rfl)) ?_
     | refine Zcl (d_storeP rfl rfl rfl rfl (by (try simp only [Zap, List.map_cons, List.map_nil, List.set_cons_zero, List.set_cons_succ, Nat.zero_add]); rfl)) ?_
     | refine Zcl (d_storeD rfl rfl rfl rfl rfl (by (try simp only [Zap, List.map_cons, List.map_nil, List.set_cons_zero, List.set_cons_succ, Nat.zero_add]); rfl)) ?_
     | refine Zcl (Zyt rfl rfl rfl rfl rfl) ?_
     | refine Zcl (Zyu rfl rfl (by first | assumption | (simp only [List.length_set]; assumption)) rfl) ?_
     | fail)
    | (show TrX _ _ _ _ _ (.makeSlice _ _ _) _ _ _; first 
     | refine Zcl (d_makeSlice rfl rfl rfl rfl (by kernel_rfl) (by first | assumption | omega | (simp only [List.length_append, List.length_cons, List.length_nil, List.length_drop, List.length_take, List.length_map]; omega)) (by first | assumption | omega | (simp only [List.length_append, List.length_cons, List.length_nil, List.length_drop, List.length_take, List.length_map]; omega))) ?_
     | fail)
    | (show TrX _ _ _ _ _ (.buildSlice _ _ _) _ _ _; first 
     | refine Zcl (d_bsl rfl rfl (by kernel_rfl) rfl (by (try dsimp only); rfl) rfl rfl rfl rfl) ?_
     | refine Zcl (Zt4 rfl rfl (by kernel_rfl) rfl rfl rfl rfl rfl) ?_
     | refine Zcl (d_buildSliceF rfl (by kernel_rfl) rfl rfl rfl rfl rfl) ?_
     | fail)
    | (show TrX _ _ _ _ _ (.makeFunc _ _ _) _ _ _; first 
     | refine Zcl (d_makeFunc rfl) ?_
     | fail)
    | (show TrX _ _ _ _ _ (.lookup _ _ _ _) _ _ _; first 
     | fail)
    | (show TrX _ _ _ _ _ (.range _ _) _ _ _; first 
     | fail)
    | (show TrX _ _ _ _ _ (.entry _) _ _ _; first 
     | fail)
    | (show TrX _ _ _ _ _ (.makeMap _ _) _ _ _; first 
     | fail)
    | (show TrX _ _ _ _ _ (.typeAssert _ _ _ _) _ _ _; first 
     | refine Zcl (d_taS rfl rfl (by kernel_rfl)) ?_
     | refine Zcl (d_ta1 rfl rfl (by kernel_rfl)) ?_
     | refine Zcl (d_taN rfl rfl (by kernel_rfl) rfl rfl) ?_
     | refine Zcl (d_taO rfl rfl (by kernel_rfl) (by kernel_rfl) rfl rfl) ?_
     | fail)
    | (show TrX _ _ _ _ _ (.call _) _ _ _; first 
     | refine Zcl (Yqi rfl rfl) ?_
     | refine Zcl (d_lenO rfl rfl rfl) ?_
     | refine Zcl (d_lenS rfl rfl (by kernel_rfl)) ?_
     | refine Zcl (d_lenN rfl rfl) ?_
     | refine Zcl (Ydm rfl rfl) ?_
     | refine Zcl (Yqj rfl rfl rfl) ?_
     | refine Zcl (Yla rfl (by kernel_rfl) rfl (by assumption)) ?_
     | refine Zcl (Zlo gV rfl (by kernel_rfl) rfl (by assumption) Flat.val) ?_
     | refine Zcl (Yba rfl rfl rfl rfl rfl rfl (by kernel_rfl) rfl rfl (by first | assumption | omega | (simp only [List.length_append, List.length_cons, List.length_nil, List.length_drop, List.length_take, List.length_map]; omega)) (by first | assumption | omega | (simp only [List.length_append, List.length_cons, List.length_nil, List.length_drop, List.length_take, List.length_map]; omega))) ?_
     | refine Zcl (Ya9 rfl rfl rfl rfl rfl (by kernel_rfl) rfl rfl (by first | assumption | omega | (simp only [List.length_append, List.length_cons, List.length_nil, List.length_drop, List.length_take, List.length_map]; omega)) (by first | assumption | omega | (simp only [List.length_append, List.length_cons, List.length_nil, List.length_drop, List.length_take, List.length_map]; omega))) ?_
     | refine Zcl (Ya8 rfl rfl rfl rfl (by kernel_rfl) rfl rfl (by first | assumption | omega | (simp only [List.length_append, List.length_cons, List.length_nil, List.length_drop, List.length_take, List.length_map]; omega)) (by first | assumption | omega | (simp only [List.length_append, List.length_cons, List.length_nil, List.length_drop, List.length_take, List.length_map]; omega))) ?_
     | refine Zcl (d_appendNO rfl rfl rfl rfl rfl (by kernel_rfl) rfl rfl (by first | assumption | omega | (simp only [List.length_append, List.length_cons, List.length_nil, List.length_drop, List.length_take, List.length_map]; omega)) (by first | assumption | omega | (simp only [List.length_append, List.length_cons, List.length_nil, List.length_drop, List.length_take, List.length_map]; omega))) ?_
     | refine Zcl (Ymr rfl rfl (by kernel_rfl) rfl (by assumption)) ?_
     | refine Zcl (d_invS rfl rfl (by kernel_rfl) rfl (by assumption)) ?_
     | refine Zcl (d_invD rfl rfl rfl (by kernel_rfl) rfl (by assumption)) ?_
     | fail))
   | (show TrC _ _ _ _ (_ :: _) _ _; first
    | refine Ysp ?_
    | refine Ypq rfl (by first | rfl | assumption) ?_
    | refine c_passU rfl rfl ?_
    | refine Yc3 rfl (by first | rfl | assumption) rfl ?_
    | refine Ymg rfl (by first | rfl | assumption) rfl ?_)
   | refine Zmu (And.intro (by kernel_rfl) ?_)
   | fail)
 all_goals exact g.out) : p := h ⟨g⟩
theorem sb {p : Prop} (h : p := by
 refine ⟨?_, ?_, by rfl⟩ <;> repeat' (first | exact trivial | exact ALe.ptr rfl | exact ALe.own rfl | exact ALe.elt rfl | exact BLe.boxD _ _ | exact BLe.row rfl | exact BLe.res | exact BLe.dead rfl | exact ALe.dat (PLe.refl _) | exact ALe.dat (PLe.nil _ _) | exact CLe.nil | refine And.intro ?_ ?_ | refine ALe.iface ?_ | refine ALe.clo ?_ | refine CLe.cons ?_ ?_ | refine BLe.box ?_ | refine BLe.row ?_ | exact ALe.any _ | refine ALe.dat (PLe.of_eq ?_))
 all_goals first | rfl | assumption | (symm; assumption) | (congr 4; omega) | fail) : p := h
theorem wke {p : Prop} (h : p := by exact wk trivial) : p := h
end
structure EV where
 kind : Int
 s : ByteArray
 keys : List ByteArray
 l : List GV
 v : GV
 n : Int
def IsE (w : World) (S : Nat → Prop) (x : EV) (u : Value) : Prop :=
 ∃ ak ck a c c0 c1 c2 c3 c4 c5, u = .agg #[.int .i64 x.kind, .string x.s, .slice ak x.keys.length ck, .slice a x.l.length c, c0, c1, c2, c3, c4, c5, .int .i64 x.n] ∧
  (Lit.int .i64 x.kind).wf = true ∧ (Lit.int .i64 x.n).wf = true ∧ x.s.size ≤ maxLen ∧
  IsStrs w S (.slice ak x.keys.length ck) x.keys ∧ x.l.length ≤ c ∧ x.l.length * 88 ≤ 140737488351232 ∧ (x.l = [] ∨ ∃ b o, S b ∧ a = some ⟨b, o, none⟩ ∧ IsVs w S x.l b o) ∧
  IsV w S x.v (.agg #[c0, c1, c2, c3, c4, c5])
theorem IsV.vals {w : World} {S : Nat → Prop} {x : GV} {c0 c1 c2 c3 c4 : Value} {a : Option Addr} {n c : Nat} (h : IsV w S x (.agg #[c0, c1, c2, c3, c4, .slice a n c])) : x.l = [] ∨ ∃ b o, S b ∧ a = some ⟨b, o, none⟩ ∧ IsVs w S x.l b o := by
 obtain ⟨k, m, f, s, ks, l⟩ := x
 unfold IsV at h
 obtain ⟨vk, a', c', e, _, _, _, _, _, _, _, hl⟩ := h
 injection e with e
 injection e with e
 simp only [List.cons.injEq, and_true] at e
 obtain ⟨_, _, _, _, _, e⟩ := e
 injection e with e1 _ _
 rw [e1]; exact hl
theorem IsV.len {w : World} {S : Nat → Prop} {x : GV} {v : Value} (h : IsV w S x v) : x.l.length * 88 ≤ 140737488351232 := by
 obtain ⟨k, m, f, s, ks, l⟩ := x
 unfold IsV at h
 obtain ⟨_, _, _, _, _, _, _, _, _, _, h, _⟩ := h
 exact h
theorem Zxt {w : World} {S : Nat → Prop} {l : List GV} {a : Option Addr} (h : l = [] ∨ ∃ b o, S b ∧ a = some ⟨b, o, none⟩ ∧ IsVs w S l b o) (hp : 0 < l.length) : ∃ b o, S b ∧ a = some ⟨b, o, none⟩ ∧ IsVs w S l b o :=
 h.resolve_left (fun e => by rw [e] at hp; simp at hp)
section
variable {w w' : World} {S S' : Nat → Prop}
end
def flE (x : EV) : List (ByteArray × JV) := x.keys.zip (x.l.map Za1)
theorem Zlt (x : EV) : (flE x).length = min x.keys.length x.l.length := by simp [flE]
theorem Yqu (x : EV) {i : Nat} {k : ByteArray} {y : GV} (h1 : x.keys[i]? = some k) (h2 : x.l[i]? = some y) : (flE x)[i]? = some (k, Za1 y) := by
 simp [flE, List.getElem?_zip_eq_some, h1, h2]
inductive PEV where
 | name (s : ByteArray)
 | key (fl : List (ByteArray × JV))
 | val (j : JV)
 | idx (n : Int)
section
variable {w w' : World} {S S' : Nat → Prop}
end
section
variable {w : World} {b : Nat} {c0 c1 c2 c3 : Value}
end
def Zaz (x : EV) : PEV := if x.kind = 1 then .key (flE x) else if x.kind = 2 then .val (Za1 x.v) else if x.kind = 3 then .idx x.n else .name x.s
section
variable {w : World} {b : Nat} {c0 c1 c2 c3 c4 c5 c6 c7 c8 c9 c10 : Value}
end
def Zei : PEV → EV
 | .name s => ⟨0, s, [], [], Zdi, 0⟩
 | .key fl => ⟨1, ByteArray.empty, fl.map (·.1), fl.map fun p => unJ p.2, Zdi, 0⟩
 | .val j => ⟨2, ByteArray.empty, [], [], unJ j, 0⟩
 | .idx n => ⟨3, ByteArray.empty, [], [], Zdi, n⟩
def Za0 (x : EV) : EV :=
 if x.kind = 1 then ⟨1, ByteArray.empty, x.keys.take (min x.keys.length x.l.length), Zco (x.l.take (min x.keys.length x.l.length)), Zdi, 0⟩
 else if x.kind = 2 then ⟨2, ByteArray.empty, [], [], Zav x.v, 0⟩ else if x.kind = 3 then ⟨3, ByteArray.empty, [], [], Zdi, x.n⟩ else ⟨0, x.s, [], [], Zdi, 0⟩
def pdE (x : EV) : PD := .agg [.val (.int .i64 x.kind), .val (.string x.s), .sl 1 16 (pdS x.keys), .sl 6 88 (Zb8 x.l), .val (.int .i64 x.v.kind), .val (.int .i64 x.v.n), .val (.float .f64 x.v.f), .val (.string x.v.s), .sl 1 16 (pdS x.v.keys), .sl 6 88 (Zb8 x.v.l), .val (.int .i64 x.n)]
section
variable {w : World} {F : Nat → Prop}
theorem Ykf {l : List GV} {a : Option Addr} {n c : Nat} (h : Rep w F (.sl 6 88 (Zb8 l)) (.slice a n c)) : n = l.length ∧ l.length ≤ c ∧ l.length * 88 ≤ 140737488351232 ∧ (l = [] ∨ ∃ b o, F b ∧ a = some ⟨b, o, none⟩ ∧ IsVs w F l b o) := by
 unfold Rep at h
 rw [Zbu] at h
 obtain ⟨a', c', e, h5, h6, _, h7⟩ := h
 injection e with e1 e2 e3
 subst e1 e2 e3
 refine ⟨rfl, h5, h6, ?_⟩
 rcases h7 with h7 | ⟨b, o, hF, rfl, hv⟩
 ·left; cases l with | nil => rfl | cons _ _ => unfold Zb8 at h7; cases h7
 ·exact .inr ⟨b, o, hF, rfl, Zk9 l hv⟩
theorem Yk0 {l : List GV} {a : Option Addr} {c : Nat} (h5 : l.length ≤ c) (h6 : l.length * 88 ≤ 140737488351232) (h : l = [] ∨ ∃ b o, F b ∧ a = some ⟨b, o, none⟩ ∧ IsVs w F l b o) : Rep w F (.sl 6 88 (Zb8 l)) (.slice a l.length c) := by
 unfold Rep
 rw [Zbu]
 refine ⟨a, c, rfl, h5, h6, by omega, ?_⟩
 rcases h with rfl | ⟨b, o, hF, rfl, hv⟩
 ·left; unfold Zb8; rfl
 ·exact .inr ⟨b, o, hF, rfl, Zko l hv⟩
theorem Yow {x : EV} {u : Value} (h : Rep w F (pdE x) u) : IsE w F x u := by
 unfold pdE Rep at h
 obtain ⟨vs, rfl, hr, h1⟩ := h
 simp only [Reps] at hr
 obtain ⟨v0, _, rfl, e0, v1, _, rfl, e1, v2, _, rfl, e2, v3, _, rfl, e3, v4, _, rfl, e4, v5, _, rfl, e5, v6, _, rfl, e6, v7, _, rfl, e7, v8, _, rfl, e8, v9, _, rfl, e9, v10, _, rfl, e10, rfl⟩ := hr
 have hV : Rep w F (pdV x.v) (.agg #[v4, v5, v6, v7, v8, v9]) := by
  rw [Zf1]; unfold Rep
  refine ⟨[v4, v5, v6, v7, v8, v9], rfl, ?_, fun u hu => h1 u ?_⟩
  rotate_left
  ·simp only [List.mem_cons, List.not_mem_nil, or_false] at hu ⊢
   rcases hu with h | h | h | h | h | h <;> simp [h]
  simp only [Reps]
  exact ⟨_, _, rfl, e4, _, _, rfl, e5, _, _, rfl, e6, _, _, rfl, e7, _, _, rfl, e8, _, _, rfl, e9, rfl⟩
 have hE2 := rep_strs.1 e2
 obtain ⟨ak, ck, rfl, _⟩ := id hE2
 obtain ⟨a, c, rfl, _⟩ : ∃ a c, v3 = .slice a x.l.length c ∧ True := by
  have := e3
  unfold Rep at this
  rw [Zbu] at this
  obtain ⟨a, c, e, _⟩ := this
  exact ⟨a, c, e, trivial⟩
 obtain ⟨_, g1, g2, g3⟩ := Ykf e3
 unfold Rep at e0 e1 e10
 obtain ⟨rfl, w0⟩ := e0
 obtain ⟨rfl, w1⟩ := e1
 obtain ⟨rfl, w10⟩ := e10
 exact ⟨ak, ck, a, c, v4, v5, v6, v7, v8, v9, rfl, w0, w10, w1, hE2, g1, g2, g3, Zpj _ hV⟩
theorem Zw3 {x : EV} {u : Value} (h : IsE w F x u) : Rep w F (pdE x) u := by
 obtain ⟨ak, ck, a, c, c0, c1, c2, c3, c4, c5, rfl, h1, h2, h3, hk, h5, h6, hl, hv⟩ := h
 have hV := Yet _ hv
 rw [Zf1] at hV
 unfold Rep at hV
 obtain ⟨vs, e, hr, ho⟩ := hV
 simp only [Value.agg.injEq] at e
 have : vs = [c0, c1, c2, c3, c4, c5] := by simpa using (congrArg Array.toList e).symm
 subst this
 simp only [Reps] at hr
 obtain ⟨v4, _, e4', e4, v5, _, e5', e5, v6, _, e6', e6, v7, _, e7', e7, v8, _, e8', e8, v9, _, e9', e9, _⟩ := hr
 simp only [List.cons.injEq] at e4'
 obtain ⟨rfl, rfl⟩ := e4'
 simp only [List.cons.injEq] at e5'
 obtain ⟨rfl, rfl⟩ := e5'
 simp only [List.cons.injEq] at e6'
 obtain ⟨rfl, rfl⟩ := e6'
 simp only [List.cons.injEq] at e7'
 obtain ⟨rfl, rfl⟩ := e7'
 simp only [List.cons.injEq] at e8'
 obtain ⟨rfl, rfl⟩ := e8'
 simp only [List.cons.injEq] at e9'
 obtain ⟨rfl, _⟩ := e9'
 unfold pdE Rep
 refine ⟨_, rfl, ?_, ?_⟩
 ·simp only [Reps]
  exact ⟨_, _, rfl, by unfold Rep; exact ⟨rfl, h1⟩, _, _, rfl, by unfold Rep; exact ⟨rfl, h3⟩, _, _, rfl, rep_strs.2 hk, _, _, rfl, Yk0 h5 h6 hl, _, _, rfl, e4, _, _, rfl, e5, _, _, rfl, e6, _, _, rfl, e7, _, _, rfl, e8, _, _, rfl, e9, _, _, rfl, by unfold Rep; exact ⟨rfl, h2⟩, rfl⟩
 ·intro u hu
  simp only [List.mem_cons, List.not_mem_nil, or_false] at hu
  rcases hu with rfl | rfl | rfl | rfl | rfl | rfl | rfl | rfl | rfl | rfl | rfl
  all_goals first
   | rfl
   | exact ho _ (by simp)
end
section
variable {P : Program} {f : FuncId}
end
section
variable {w : World} {F : Nat → Prop}
end
section
variable {P : Program} {X : Base} {N : Nat} {Q : Exit → Act → World → Prop} {ops : Array Oper} {rem : List Nat} {ks : List Itm} {s s' : Sta}
theorem Yok {o : Oper} (hd : Za7 X.N o.dst = true) {t t' : TypeId} {x y : Operand} (ho : o.op = .binOp .quo t x y t') {a b : Int} (hx : s.ev x = .dat (.val (.int .i64 a))) (hy : s.ev y = .dat (.val (.int .i64 2))) (hb : a / 2 = b) (h0 : 0 ≤ a) (ha : a ≤ 9223372036854775807) :
  OpS P X o s (s.put o.dst (.dat (.val (.int .i64 b)))) := by
 refine Zo4 hd ho hx hy (fun w => ?_) (WalkArith.wf_i64 (by omega))
 have e : IntKind.i64.wrap (a.tdiv 2) = b := by
  rw [Int.tdiv_eq_ediv_of_nonneg h0, IntKind.wrap_i64]; omega
 simp [eqGuard, binOp, Op.intDiv, e]
theorem Zzl {d : Nat} {x y : Operand} {t t' : Nat} {a b : Int} (hN : Nat.blt d N = true) (hx : s.ev x = .dat (.val (.int .i64 a))) (hy : s.ev y = .dat (.val (.int .i64 2))) (hb : a / 2 = b) (h0 : 0 ≤ a) (ha : a ≤ 9223372036854775807) (h : Run P X N Q (.ops ops rem :: ks) (s.put (some d) (.dat (.val (.int .i64 b))))) : Zbp P X N Q ops rem ks (some d) (.binOp .quo t x y t') s := Zdx hN (fun _ _ _ hd => Yok hd rfl hx hy hb h0 ha) h
end
theorem Ybc (m : GV) (key : ByteArray) (hinc : Zf2 m.keys) : PCall Tryz.prog 207 [qV m, .val (.string key)] (.tup [.val (.int .i64 (lb m.keys key : Nat)), .val (.bool (Zf6 m.keys key))]) := by
 refine Zay fun hfit => ?_
 have b1 := (Fits.aggAt (hfit (qV m) (by simp)) 4 (d := .sl 1 16 (pdS m.keys)) rfl).sl.2.1
 rw [Zby] at b1
 clear hfit
 have n1 := Zby m.keys
 refine Zaa Tryz.func207 rfl Tryz.ntmps207 rfl (fun X => ?_)
 unfold qV
 refine wk ?_
 refine Zaq (ι := { j : Nat × Nat // j.1 ≤ j.2 ∧ j.2 ≤ m.keys.length ∧ (∀ q x, q < j.1 → m.keys[q]? = some x → blt x key = true) ∧ (∀ q x, j.2 ≤ q → m.keys[q]? = some x → blt x key = false) })
  (fun j => [(1, .dat (.val (.string key))), (2, .ptr 2 0), (6, .dat (.val (.int .i64 (j.1.1 : Nat)))), (7, .dat (.val (.int .i64 (j.1.2 : Nat))))])
  (fun j => [(2, .box 27 (Zap (qV m)))]) (fun j => j.1.2 - j.1.1) ⟨(0, m.keys.length), Nat.zero_le _, Nat.le_refl _, fun q x h => by simp at h, fun q x h h' => by rw [List.getElem?_eq_none h] at h'; cases h'⟩ id ?_ ?_
 ·rw [n1]; exact sb
 rintro ⟨⟨i, j⟩, hij, hj, hlo, hhi⟩
 simp only at hij hj hlo hhi ⊢
 by_cases hlt : i < j
 ·have g1 : decide ((i : Int) < (j : Int)) = true := decide_eq_true (by omega)
  unfold qV
  obtain ⟨h, hh⟩ : ∃ h, h = (j - i) / 2 := ⟨_, rfl⟩
  obtain ⟨x, hx⟩ : ∃ x, m.keys[i + h]? = some x := ⟨_, List.getElem?_eq_getElem (by omega)⟩
  have i1 : (pdS m.keys)[((i : Int) + (h : Int)).toNat]? = some (.val (.string x)) := by
   rw [show ((i : Int) + (h : Int)).toNat = i + h by omega]; exact Zfb hx
  cases ht : blt x key with
  | true =>
   refine wk ?_
   refine Zzl rfl rfl rfl (b := (h : Int)) (by omega) (by omega) (by omega) ?_
   refine wk ?_
   refine Zan ?_
   refine ⟨⟨(i + h + 1, j), by simp only; omega, hj, fun q y hq hy => ?_, hhi⟩, id, by simp only; omega, ?_⟩
   ·rcases Zog hinc (show q ≤ i + h by simp only at hq; omega) hy hx with rfl | h
    ·exact ht
    ·exact Zb9 h ht
   exact sb
  | false =>
   refine wk ?_
   refine Zzl rfl rfl rfl (b := (h : Int)) (by omega) (by omega) (by omega) ?_
   refine wk ?_
   refine Zan ?_
   refine ⟨⟨(i, i + h), by simp only; omega, by simp only; omega, hlo, fun q y hq hy => ?_⟩, id, by simp only; omega, ?_⟩
   ·rcases Zog hinc (show i + h ≤ q from hq) hx hy with rfl | h
    ·exact ht
    ·cases hyk : blt y key with
     | false => rfl
     | true => have := Zb9 h hyk; rw [ht] at this; cases this
   exact sb
 obtain rfl : i = j := by omega
 have hlb : lb m.keys key = i := Yri hj (fun q x hq hx => hlo q x hq hx) (fun x hx => hhi i x (Nat.le_refl _) hx)
 rw [hlb]
 have g1 : decide ((i : Int) < (i : Int)) = false := decide_eq_false (by omega)
 unfold qV
 by_cases hin : i < m.keys.length
 ·obtain ⟨x, hx⟩ : ∃ x, m.keys[i]? = some x := ⟨_, List.getElem?_eq_getElem hin⟩
  have i1 : (pdS m.keys)[((i : Nat) : Int).toNat]? = some (.val (.string x)) := Zfb hx
  have g2 : decide ((i : Int) < (((pdS m.keys).length : Nat) : Int)) = true := decide_eq_true (by omega)
  have e : Zf6 m.keys key = decide (x = key) := by unfold Zf6; rw [hlb, hx]; simp
  rw [e]
  exact wke
 ·have g2 : decide ((i : Int) < (((pdS m.keys).length : Nat) : Int)) = false := decide_eq_false (by omega)
  have e : Zf6 m.keys key = false := by unfold Zf6; rw [hlb, List.getElem?_eq_none (by omega)]; simp
  rw [e]
  exact wke
theorem Yso (m : GV) (key : ByteArray) (x : GV) (hm : Zjd m) (hb : (m.l.length + 1) * 88 ≤ 140737488351232) : PCall Tryz.prog 198 [qV m, .val (.string key), qV x] (qV (Zl9 m key x)) := by
 obtain ⟨ks, l, rfl, hi, hl⟩ := hm
 obtain ⟨xk, xn, xf, xs, xks, xl⟩ := x
 have c := Ybc (.mk 6 0 0 ByteArray.empty ks l) key hi
 have h1 := Ye7 ks key
 have h2 := Zkm (ks := ks) (k := key)
 have n1 := Zby ks
 have n2 := Zbu l
 simp only [GV.l, GV.keys] at c hb
 unfold Zl9
 simp only [GV.l, GV.keys]
 have e1 : pdS (Zoh ks ks key key) = (((pdS ks).take (lb ks key)).drop 0 ++ [.val (.string key)]) ++ ((pdS ks).take (pdS ks).length).drop (lb ks key + if Zf6 ks key then 1 else 0) := by rw [List.take_length]; simp [Zoh, pdS, List.map_take, List.map_drop]
 have e2 : Zb8 (Zoh ks l key (.mk xk xn xf xs xks xl)) = (((Zb8 l).take (lb ks key)).drop 0 ++ [qV (.mk xk xn xf xs xks xl)]) ++ ((Zb8 l).take (Zb8 l).length).drop (lb ks key + if Zf6 ks key then 1 else 0) := by
  rw [List.take_length, Zhe, Zhe]; simp [Zoh, List.map_take, List.map_drop]; exact Zf1 _
 unfold qV at *
 simp only [GV.l, GV.keys, GV.kind, GV.n, GV.f, GV.s] at *
 rw [e1, e2]
 clear e1 e2
 generalize pdS ks = da at *
 generalize Zb8 l = db at *
 generalize lb ks key = i at *
 generalize Zf6 ks key = b at *
 cases b
 all_goals
  simp only [Bool.false_eq_true, if_false, if_true] at h2 ⊢
  refine Zaa Tryz.func198 rfl Tryz.ntmps198 rfl (fun X => ?_)
  refine wk ?_
  refine Zbj (fun _ => false) (fun k => k == 54 || k == 62) ?_
  refine Zag (Zl4 rfl rfl rfl rfl ?_)
  first | exact PLe.refl _ | (refine PLe.of_eq ?_; rw [show ((i : Int) + 1).toNat = i + 1 by omega]; simp [Int.toNat_natCast]; done)
theorem Ya3 (l : List GV) : Zco l = l.map Zav := by
 induction l with
 | nil => unfold Zco; rfl
 | cons x r ih => unfold Zco; rw [ih]; rfl
theorem Zsx (x : GV) : pdV x = qV x := Zf1 x
theorem Zpe (l : List GV) (ih : ∀ x ∈ l, PCall Tryz.prog 72 [qV x] (qV (Zav x))) : PCall Tryz.prog 136 [.sl 6 88 (Zb8 l)] (.sl 6 88 (Zb8 (Zco l))) := by
 refine Zay fun hfit => ?_
 have b0 := (hfit (.sl 6 88 (Zb8 l)) (by simp)).sl
 have b1 := b0.1
 have b2 := b0.2.1
 clear hfit b0
 have n1 := Zbu l
 rw [n1] at b1 b2
 refine Zaa Tryz.func136 rfl Tryz.ntmps136 rfl (fun X => ?_)
 refine wk ?_
 refine Zaq (ι := { k : Nat // k ≤ l.length })
  (fun k => [(3, .own 100), (9, .dat (.sl 6 88 (Zb8 l))), (10, .dat (.val (.int .i64 ((Zb8 l).length : Nat)))), (11, .dat (.val (.int .i64 (k.1 : Nat))))])
  (fun k => [(100, .row 27 6 88 ((l.take k.1).map fun x => qV (Zav x)))]) (fun k => l.length - k.1) ⟨0, Nat.zero_le _⟩ (fun j => if j = 100 then 8 else j) ?_ ?_
 ·exact sb
 rintro ⟨k, hk⟩
 by_cases hlt : k < l.length
 ·have hc : decide ((k : Int) < (((Zb8 l).length : Nat) : Int)) = true := decide_eq_true (by omega)
  obtain ⟨x, hx⟩ : ∃ x, l[k]? = some x := ⟨_, List.getElem?_eq_getElem hlt⟩
  have hi : (Zb8 l)[((k : Nat) : Int).toNat]? = some (qV x) := (Zfi hx).trans (by rw [Zsx])
  have c := ih x (List.mem_of_getElem? hx)
  have hbt : (((l.take k).map fun x => qV (Zav x)).length + [qV (Zav x)].length) * 88 ≤ 140737488351232 := by simp; omega
  have hbl : ((l.take k).map fun x => qV (Zav x)).length + [qV (Zav x)].length ≤ 140737488351232 := by simp; omega
  have e : ((l.take (k + 1)).map fun x => qV (Zav x)) = ((l.take k).map fun x => qV (Zav x)) ++ [qV (Zav x)] := by simp [List.take_add_one, hx]
  generalize ((l.take k).map fun x => qV (Zav x)) = da at *
  unfold qV at *
  refine wk ?_
  refine Zan ?_
  refine ⟨⟨k + 1, by omega⟩, (fun j => if j = 100 then 19 else j), by simp only; omega, ?_⟩
  rw [e]
  exact sb
 ·have hc : decide ((k : Int) < (((Zb8 l).length : Nat) : Int)) = false := decide_eq_false (by omega)
  have hkk : l.take k = l := List.take_of_length_le (by omega)
  simp only [hkk]
  refine Zbj (fun _ => false) (fun k => k == 100) ?_
  have e : Zb8 (Zco l) = l.map fun x => qV (Zav x) := by rw [Zhe, Ya3, List.map_map]; exact List.map_congr_left fun x _ => Zsx _
  rw [e]
  exact wke
theorem Yb0 (v : GV) (ih : ∀ x ∈ v.l, PCall Tryz.prog 72 [qV x] (qV (Zav x))) : PCall Tryz.prog 137 [qV v] (qV (Zbz v.keys v.l gMap)) := by
 refine Zay fun hfit => ?_
 have b0 := (Fits.aggAt (hfit (qV v) (by simp)) 5 (d := .sl 6 88 (Zb8 v.l)) rfl).sl
 have b1 := b0.1
 have b2 := b0.2.1
 clear hfit b0
 have n1 := Zbu v.l
 have n2 := Zby v.keys
 rw [n1] at b1 b2
 refine Zaa Tryz.func137 rfl Tryz.ntmps137 rfl (fun X => ?_)
 generalize hr : Zbz v.keys v.l gMap = R
 unfold qV
 refine wk ?_
 refine Zaq (ι := { k : Nat // k ≤ v.keys.length ∧ k ≤ v.l.length })
  (fun k => [(1, .ptr 1 0), (2, .ptr 2 0), (3, .ptr 3 0), (4, .dat (.val (.int .i64 (k.1 : Nat))))])
  (fun k => [(1, .box 27 (Zap (qV v))), (2, .box 27 (Zap (qV Zdi))), (3, .box 27 (Zap (qV (Zbz (v.keys.take k.1) v.l gMap))))]) (fun k => v.keys.length - k.1) ⟨0, Nat.zero_le _, Nat.zero_le _⟩ id ?_ ?_
 ·simp only [List.take_zero, show Zbz [] v.l gMap = gMap from by simp [Zbz]]
  exact sb
 rintro ⟨k, hk, hk'⟩
 by_cases hlt : k < v.keys.length
 ·have g1 : decide ((k : Int) < (((pdS v.keys).length : Nat) : Int)) = true := decide_eq_true (by omega)
  by_cases hlt' : k < v.l.length
  ·have g2 : decide ((k : Int) < (((Zb8 v.l).length : Nat) : Int)) = true := decide_eq_true (by omega)
   obtain ⟨key, hkey⟩ : ∃ x, v.keys[k]? = some x := ⟨_, List.getElem?_eq_getElem hlt⟩
   obtain ⟨x, hx⟩ : ∃ x, v.l[k]? = some x := ⟨_, List.getElem?_eq_getElem hlt'⟩
   have i1 : (pdS v.keys)[((k : Nat) : Int).toNat]? = some (.val (.string key)) := Zfb hkey
   have i2 : (Zb8 v.l)[((k : Nat) : Int).toNat]? = some (qV x) := (Zfi hx).trans (by rw [Zsx])
   have c1 := ih x (List.mem_of_getElem? hx)
   have hp := Zg3 (v.keys.take k) v.l gMap Zbg
   have c2 := Yso (Zbz (v.keys.take k) v.l gMap) key (Zav x) hp.1 (by
    have := hp.2; have := List.length_take_le k v.keys; have e : gMap.l.length = 0 := rfl; omega)
   rw [← Znv v.keys v.l gMap k key x hkey hx] at c2
   simp only
   generalize Zbz (v.keys.take k) v.l gMap = A at *
   generalize hB : Zbz (v.keys.take (k + 1)) v.l gMap = B at *
   generalize Zav x = y at *
   unfold qV at *
   refine wk ?_
   refine Zan ?_
   refine ⟨⟨k + 1, by omega, by omega⟩, id, by simp only; omega, ?_⟩
   simp only [hB]
   exact sb
  ·have g2 : decide ((k : Int) < (((Zb8 v.l).length : Nat) : Int)) = false := decide_eq_false (by omega)
   simp only [Zlm v.keys v.l gMap k (.inr (by omega)), hr]
   unfold qV at *
   exact wke
 ·have g1 : decide ((k : Int) < (((pdS v.keys).length : Nat) : Int)) = false := decide_eq_false (by omega)
  simp only [Zlm v.keys v.l gMap k (.inl (by omega)), hr]
  unfold qV at *
  exact wke
theorem Zrq : ∀ (x : GV), PCall Tryz.prog 72 [qV x] (qV (Zav x))
 | .mk k n f s ks l => by
  have ih : ∀ x ∈ l, PCall Tryz.prog 72 [qV x] (qV (Zav x)) := fun x _ => Zrq x
  have c1 := Zpe l ih
  have c2 := Yb0 (.mk k n f s ks l) ih
  clear ih
  simp only [GV.keys, GV.l] at c2
  unfold Zav
  have e5 : Zbz ks l (GV.mk 6 0 0 ByteArray.empty [] []) = Zbz ks l gMap := rfl
  rw [e5]
  generalize Zco l = cl at *
  generalize Zbz ks l gMap = cm at *
  obtain ⟨k', n', f', s', ks', l'⟩ := cm
  refine Zaa Tryz.func72 rfl Tryz.ntmps72 rfl (fun X => ?_)
  simp only [qV, GV.keys, GV.l, GV.kind, GV.n, GV.f, GV.s, Zdi] at c1 c2 ⊢
  by_cases h1 : k = 1
  ·have g1 : decide (k = 1) = true := decide_eq_true h1
   by_cases hn : n = 0
   ·have g : decide (n ≠ 0) = false := decide_eq_false (by simp [hn])
    simp only [h1, hn, if_true]
    exact wke
   ·have g : decide (n ≠ 0) = true := decide_eq_true hn
    simp only [h1, hn, if_true, if_false]
    exact wke
  have g1 : decide (k = 1) = false := decide_eq_false h1
  rw [if_neg h1]
  by_cases h2 : k = 2
  ·have g2 : decide (k = 2) = true := decide_eq_true h2
   rw [if_pos h2]
   exact wke
  have g2 : decide (k = 2) = false := decide_eq_false h2
  rw [if_neg h2]
  by_cases h3 : k = 3
  ·have g3 : decide (k = 3) = true := decide_eq_true h3
   rw [if_pos h3]
   exact wke
  have g3 : decide (k = 3) = false := decide_eq_false h3
  rw [if_neg h3]
  by_cases h4 : k = 4
  ·have g4 : decide (k = 4) = true := decide_eq_true h4
   rw [if_pos h4]
   exact wke
  have g4 : decide (k = 4) = false := decide_eq_false h4
  rw [if_neg h4]
  by_cases h5 : k = 5
  ·have g5 : decide (k = 5) = true := decide_eq_true h5
   rw [if_pos h5]
   exact wke
  have g5 : decide (k = 5) = false := decide_eq_false h5
  rw [if_neg h5]
  by_cases h6 : k = 6
  ·have g6 : decide (k = 6) = true := decide_eq_true h6
   rw [if_pos h6]
   exact wke
  have g6 : decide (k = 6) = false := decide_eq_false h6
  rw [if_neg h6]
  exact wke
theorem Ycq : ∀ {l : List JV}, (∀ y ∈ l, JOk y) → Znn l
 | [], _ => by unfold Znn; trivial
 | x :: r, h => by unfold Znn; exact ⟨h x (by simp), Ycq fun y hy => h y (by simp [hy])⟩
theorem Ygc {w : World} {F : Nat → Prop} {b : Nat} : ∀ {l : List JV} {o : Nat}, RepL w F 1 (l.map pdJ) b o → IsJs w F l b o ∧ ∀ y ∈ l, JOk y
 | [], o, _ => ⟨by unfold IsJs; trivial, by simp⟩
 | x :: r, o, h => by
  rw [List.map_cons] at h
  unfold RepL at h
  obtain ⟨⟨u, hu, hn, h1, hl⟩, hr⟩ := h
  unfold pdJ Rep at hu
  obtain ⟨e1, e2⟩ := Ygc hr
  unfold IsJs
  refine ⟨⟨⟨u, ?_, hu.1⟩, e1⟩, fun y hy => ?_⟩
  ·have := hl 0 u (by rw [Za8 hu.1.oneCell]; rfl)
   simpa using this
  ·rcases List.mem_cons.1 hy with rfl | hy
   ·exact hu.2
   ·exact e2 y hy
theorem Yjl {l : List JV} (hl : l.length * 88 ≤ 140737488351232) : PLe (.iface 276 (.sl 1 16 (l.map pdJ))) (pdJ (.list l)) := by
 intro w F v h
 unfold Rep at h
 obtain ⟨u, rfl, h⟩ := h
 unfold Rep at h
 rw [List.length_map] at h
 obtain ⟨a, c, rfl, h1, h2, h3, h4⟩ := h
 unfold pdJ Rep
 show IsJ _ _ _ _ ∧ JOk _
 unfold IsJ JOk
 rcases h4 with h4 | ⟨b, o, hb, ha, hr⟩
 ·have : l = [] := by simpa using h4
  subst this
  exact ⟨⟨a, c, rfl, h2, .inl rfl⟩, hl, by unfold Znn; trivial⟩
 ·obtain ⟨e1, e2⟩ := Ygc hr
  exact ⟨⟨a, c, rfl, h2, .inr ⟨b, o, hb, ha, e1⟩⟩, hl, Ycq e2⟩
theorem Yn9 {m : List (ByteArray × JV)} : PLe (.iface 277 (Zio m)) (pdJ (.map m)) := by
 intro w F v h
 unfold Rep at h
 obtain ⟨u, rfl, h⟩ := h
 unfold Zio Rep at h
 obtain ⟨b, es, cl, rfl, hb, hh, h1, h2, h3, h4⟩ := h
 unfold pdJ Rep
 refine ⟨?_, h4⟩
 unfold IsJ
 exact ⟨b, es, cl, rfl, hb, hh, h1, h2, h3⟩
theorem Yjm {j : JV} (h : (∀ l, j ≠ .list l) ∧ ∀ m, j ≠ .map m) : PLe (dvX j) (pdJ j) := by
 intro w F v hv
 unfold pdJ Rep
 have e : ∀ {T : TypeId} {u : Value}, Rep w F (.iface T (.val u)) v → v = .iface T u ∧ okV u := fun h => by
  unfold Rep at h
  obtain ⟨y, rfl, h⟩ := h
  unfold Rep at h
  exact ⟨by rw [h.1], h.2⟩
 cases j with
 | null => unfold dvX Rep at hv; exact ⟨by unfold IsJ; exact hv.1, by unfold JOk; trivial⟩
 | bool b => unfold dvX at hv; exact ⟨by unfold IsJ; exact (e hv).1, by unfold JOk; trivial⟩
 | int n => unfold dvX at hv; exact ⟨by unfold IsJ; exact e hv, by unfold JOk; trivial⟩
 | flt n => unfold dvX at hv; exact ⟨by unfold IsJ; exact e hv, by unfold JOk; trivial⟩
 | str n => unfold dvX at hv; exact ⟨by unfold IsJ; exact e hv, by unfold JOk; trivial⟩
 | list l => exact absurd rfl (h.1 l)
 | map m => exact absurd rfl (h.2 m)
instance : MTI Tryz.prog 277 9 20 := ⟨by kernel_rfl, by kernel_rfl, by kernel_rfl⟩
theorem Zpd (l : List GV) : Zdy l = l.map Za1 := by
 induction l with
 | nil => unfold Zdy; rfl
 | cons x r ih => unfold Zdy; rw [ih]; rfl
theorem Yb1 (x : GV) (ih : ∀ y ∈ x.l, PCall Tryz.prog 132 [qV y] (pdJ (Za1 y))) (hl : x.l.length * 88 ≤ 140737488351232) (hk : x.keys.length ≤ 140737488351232) : Zbv Tryz.prog 195 [.dat (qV x)] [] (.own 0) [(0, .res (Yjt (Zcp x.keys x.l [])))] := by
 have hks := Zby x.keys
 have hls := Zbu x.l
 unfold qV
 refine Zar Tryz.func195 rfl Tryz.ntmps195 rfl (fun X => ?_)
 refine wk ?_
 refine Zaq (ι := { j : Nat // j ≤ x.keys.length })
  (fun j => [(1, .ptr 1 0), (3, .own 6), (8, .dat (.sl 1 16 (pdS x.keys))), (9, .dat (.val (.int .i64 ((pdS x.keys).length : Nat)))), (10, .dat (.val (.int .i64 (j.1 : Nat))))])
  (fun j => [(1, .box 27 (Zap (qV x))), (6, .res (Yjt (Zcp (x.keys.take j.1) x.l [])))]) (fun j => x.keys.length - j.1) ⟨0, Nat.zero_le _⟩ id ?_ ?_
 ·simp only [List.take_zero, Zcp]
  exact sb
 rintro ⟨j, hj⟩
 by_cases hlt : j < x.keys.length
 ·have hc : decide ((j : Int) < (((pdS x.keys).length : Nat) : Int)) = true := by rw [hks]; simpa using hlt
  obtain ⟨k, hkk⟩ : ∃ k, x.keys[j]? = some k := ⟨_, List.getElem?_eq_getElem hlt⟩
  have i1 : (pdS x.keys)[((j : Nat) : Int).toNat]? = some (.val (.string k)) := Zfb hkk
  by_cases hjl : j < x.l.length
  ·have hc2 : decide ((j : Int) < (((Zb8 x.l).length : Nat) : Int)) = true := by rw [hls]; simpa using hjl
   obtain ⟨y, hy⟩ : ∃ y, x.l[j]? = some y := ⟨_, List.getElem?_eq_getElem hjl⟩
   have i2 : (Zb8 x.l)[((j : Nat) : Int).toNat]? = some (qV y) := (Zfi hy).trans (by rw [Zsx])
   have hC := ih y (List.mem_of_getElem? hy)
   have hm := Zk4 (x.keys.take j) x.l []
   have e := Zpg x.keys x.l [] j k y hkk hy
   have hb : ((Zcp (x.keys.take j) x.l []).length + 1) * 88 ≤ 140737488351232 := by
    have : (x.keys.take j).length ≤ j := by simp; omega
    simp only [List.length_nil] at hm
    omega
   unfold qV at *
   refine wk ?_
   refine Ye4 rfl rfl rfl rfl hb ?_
   refine wk ?_
   refine Zan ?_
   refine ⟨⟨j + 1, by omega⟩, id, by simp only; omega, ?_⟩
   simp only [e]
   exact sb
  ·have hc2 : decide ((j : Int) < (((Zb8 x.l).length : Nat) : Int)) = false := by rw [hls]; simpa using hjl
   have e := Zpf x.keys x.l [] j (by omega)
   unfold qV at *
   refine wk ?_
   refine Zan ?_
   refine ⟨⟨j + 1, by omega⟩, id, by simp only; omega, ?_⟩
   simp only [e]
   exact sb
 ·have hc : decide ((j : Int) < (((pdS x.keys).length : Nat) : Int)) = false := by rw [hks]; simpa using hlt
  have e : x.keys.take j = x.keys := List.take_of_length_le (by omega)
  simp only [e]
  unfold qV at *
  refine wk ?_
  refine Za3 () (thk [(0, 6)] 0) (tm := [(2, .own 0)]) ?_ (Zbc rfl rfl)
  exact sb
theorem Zxl (l : List GV) (ih : ∀ y ∈ l, PCall Tryz.prog 132 [qV y] (pdJ (Za1 y))) (k n : Int) (f : Nat) (s : ByteArray) (ks : List ByteArray) (hk : k = 5) : PCall Tryz.prog 132 [qV (.mk k n f s ks l)] (pdJ (.list (Zdy l))) := by
 refine Zay fun hfit => ?_
 have b0 := (Fits.aggAt (hfit (qV (.mk k n f s ks l)) (by simp)) 5 (d := .sl 6 88 (Zb8 l)) rfl).sl
 have b1 := b0.1
 have b2 := b0.2.1
 clear hfit b0
 have n1 := Zbu l
 rw [n1] at b1 b2
 refine Zaa Tryz.func132 rfl Tryz.ntmps132 rfl (fun X => ?_)
 subst hk
 simp only [qV, GV.kind, GV.n, GV.f, GV.s, GV.keys, GV.l]
 have q0 : (Zb8 l).length * 16 ≤ 140737488351232 := by omega
 refine wk ?_
 refine Zaq (ι := { k : Nat // k ≤ l.length })
  (fun k => [(3, .own 100), (36, .dat (.sl 6 88 (Zb8 l))), (37, .dat (.val (.int .i64 ((Zb8 l).length : Nat)))), (38, .dat (.val (.int .i64 (k.1 : Nat))))])
  (fun k => [(100, .row 20 1 16 ((l.take k.1).map fun x => pdJ (Za1 x)))]) (fun k => l.length - k.1) ⟨0, Nat.zero_le _⟩ (fun j => if j = 100 then 34 else j) ?_ ?_
 ·exact sb
 rintro ⟨k, hk⟩
 by_cases hlt : k < l.length
 ·have hc : decide ((k : Int) < (((Zb8 l).length : Nat) : Int)) = true := decide_eq_true (by omega)
  obtain ⟨x, hx⟩ : ∃ x, l[k]? = some x := ⟨_, List.getElem?_eq_getElem hlt⟩
  have hi : (Zb8 l)[((k : Nat) : Int).toNat]? = some (qV x) := (Zfi hx).trans (by rw [Zsx])
  have c := ih x (List.mem_of_getElem? hx)
  have hbt : (((l.take k).map fun x => pdJ (Za1 x)).length + [pdJ (Za1 x)].length) * 16 ≤ 140737488351232 := by simp; omega
  have hbl : ((l.take k).map fun x => pdJ (Za1 x)).length + [pdJ (Za1 x)].length ≤ 140737488351232 := by simp; omega
  have e : ((l.take (k + 1)).map fun x => pdJ (Za1 x)) = ((l.take k).map fun x => pdJ (Za1 x)) ++ [pdJ (Za1 x)] := by simp [List.take_add_one, hx]
  generalize ((l.take k).map fun x => pdJ (Za1 x)) = da at *
  unfold qV at *
  refine wk ?_
  refine Zan ?_
  refine ⟨⟨k + 1, by omega⟩, (fun j => if j = 100 then 46 else j), by simp only; omega, ?_⟩
  rw [e]
  exact sb
 ·have hc : decide ((k : Int) < (((Zb8 l).length : Nat) : Int)) = false := decide_eq_false (by omega)
  have hkk : l.take k = l := List.take_of_length_le (by omega)
  simp only [hkk]
  refine Zbj (fun _ => false) (fun k => k == 100) ?_
  refine wk ?_
  refine Zag (Zaj rfl rfl ?_)
  have := Yjl (l := Zdy l) (by rw [Zhf]; exact b1)
  rw [Zpd, List.map_map] at this
  rw [Zpd]
  exact this
theorem Yf8 : ∀ (x : GV), PCall Tryz.prog 132 [qV x] (pdJ (Za1 x))
 | .mk k n f s ks l => by
  have ih : ∀ x ∈ l, PCall Tryz.prog 132 [qV x] (pdJ (Za1 x)) := fun x _ => Yf8 x
  by_cases h5 : k = 5
  ·have e : Za1 (.mk k n f s ks l) = .list (Zdy l) := by unfold Za1; subst h5; rfl
   rw [e]
   exact Zxl l ih k n f s ks h5
  refine Zay fun hfit => ?_
  have b0 := (Fits.aggAt (hfit (qV (.mk k n f s ks l)) (by simp)) 5 (d := .sl 6 88 (Zb8 l)) rfl).sl
  have b1 := (Fits.aggAt (hfit (qV (.mk k n f s ks l)) (by simp)) 4 (d := .sl 1 16 (pdS ks)) rfl).sl.2.1
  rw [Zbu] at b0
  rw [Zby] at b1
  have c := Yb1 (.mk k n f s ks l) ih b0.1 b1
  clear ih hfit b0 b1
  have g5 : decide (k = 5) = false := decide_eq_false h5
  unfold Za1
  simp only [qV, GV.kind, GV.n, GV.f, GV.s, GV.keys, GV.l] at c ⊢
  refine Zaa Tryz.func132 rfl Tryz.ntmps132 rfl (fun X => ?_)
  rw [if_neg h5]
  by_cases h1 : k = 1
  ·have g1 : decide (k = 1) = true := decide_eq_true h1
   rw [if_pos h1]
   refine wk ?_
   rw [show (n != 0) = decide (n ≠ 0) from by simp [bne, Yer]]
   exact Zag (Zaj rfl rfl (Yjm (j := .bool (decide (n ≠ 0))) (by simp)))
  have g1 : decide (k = 1) = false := decide_eq_false h1
  rw [if_neg h1]
  by_cases h2 : k = 2
  ·have g2 : decide (k = 2) = true := decide_eq_true h2
   rw [if_pos h2]
   refine wk ?_
   exact Zag (Zaj rfl rfl (Yjm (j := .int n) (by simp)))
  have g2 : decide (k = 2) = false := decide_eq_false h2
  rw [if_neg h2]
  by_cases h3 : k = 3
  ·have g3 : decide (k = 3) = true := decide_eq_true h3
   rw [if_pos h3]
   refine wk ?_
   exact Zag (Zaj rfl rfl (Yjm (j := .flt f) (by simp)))
  have g3 : decide (k = 3) = false := decide_eq_false h3
  rw [if_neg h3]
  by_cases h4 : k = 4
  ·have g4 : decide (k = 4) = true := decide_eq_true h4
   rw [if_pos h4]
   refine wk ?_
   exact Zag (Zaj rfl rfl (Yjm (j := .str s) (by simp)))
  have g4 : decide (k = 4) = false := decide_eq_false h4
  rw [if_neg h4]
  by_cases h6 : k = 6
  ·have g6 : decide (k = 6) = true := decide_eq_true h6
   rw [if_pos h6]
   refine wk ?_
   refine Zb5 (thk [] 200) rfl (by kernel_rfl) c rfl trivial rfl (Zai rfl) rfl ?_
   refine wk ?_
   refine Zbj (fun _ => false) (fun k => k == 200) ?_
   exact Zag (Zaj rfl rfl Yn9)
  have g6 : decide (k = 6) = false := decide_eq_false h6
  rw [if_neg h6]
  exact wke
theorem Yh0 : Zbv Tryz.prog 193 [.ptr 1000 0] [(1000, .box 274 [])] (.ptr 0 0) [(1000, .box 274 []), (0, .box 315 [.dat (.val .nilIface)])] := by
 refine Zar Tryz.func193 rfl Tryz.ntmps193 rfl (fun X => ?_)
 refine wk ?_
 refine Za3 () (thk [(0, 4)] 0) (tm := [(2, .ptr 0 0)]) ?_ (Zbc rfl rfl)
 exact sb
theorem Yrm (j : JV) : PCall Tryz.prog 131 [pdJ j] (dvV j) := by
 refine Zaa Tryz.func131 rfl Tryz.ntmps131 rfl (fun X => ?_)
 refine wk ?_
 refine Zb5 (thk [(1000, 4)] 200) rfl (by kernel_rfl) Yh0 rfl ⟨rfl, trivial⟩ rfl (Zai rfl) rfl ?_
 refine wk ?_
 refine Zb5 (thk [(1000, 200)] 350) rfl (by kernel_rfl) (Zix (.dat (.val .nilIface)) j) rfl ⟨rfl, trivial⟩ rfl (Zai rfl) rfl ?_
 refine wk ?_
 refine Zbj gV (fun k => k == 200) ?_
 exact wke
theorem Zvy (x : GV) : PCall Tryz.prog 68 [qV x] (dvV (Za1 x)) := by
 have c1 := Yf8 x
 have c2 := Yrm (Za1 x)
 unfold qV at *
 refine Zaa Tryz.func68 rfl Tryz.ntmps68 rfl (fun X => ?_)
 exact wke
def Ys9 (ks : List ByteArray) : Bool := !decide ((2147483647 : Int) < (ks.length : Int)) && ks.all (fun k => !decide ((2147483647 : Int) < (k.size : Int)))
theorem Ynf (ks : List ByteArray) : PCall Tryz.prog 64 [.sl 1 16 (pdS ks)] (.val (.bool (Ys9 ks))) := by
 refine Zay fun hfit => ?_
 have b1 := (hfit (.sl 1 16 (pdS ks)) (by simp)).sl.2.1
 have hlen := Zby ks
 rw [hlen] at b1
 clear hfit
 refine Zaa Tryz.func64 rfl Tryz.ntmps64 rfl (fun X => ?_)
 unfold Ys9
 cases h0 : decide ((2147483647 : Int) < (ks.length : Int)) with
 | true =>
  have q0 : decide ((2147483647 : Int) < (((pdS ks).length : Nat) : Int)) = true := by rw [hlen]; exact h0
  repeat' (first
  | refine Zae ?_
  | (refine Zao rfl ?_; first | refine Zad rfl rfl ?_ | refine Zal rfl rfl ?_ | refine Zax rfl rfl rfl rfl ?_ | refine Zu2 rfl rfl ?_)
  | refine Zac ?_
  | refine Zab ?_
  | refine Zam rfl (by first | rfl | assumption) ?_
  | refine Zag (Zaj rfl rfl ?_)
  | fail)
  all_goals exact PLe.refl _
 | false =>
  have q0 : decide ((2147483647 : Int) < (((pdS ks).length : Nat) : Int)) = false := by rw [hlen]; exact h0
  repeat' (first
  | refine Zae ?_
  | (refine Zao rfl ?_; first | refine Zad rfl rfl ?_ | refine Zal rfl rfl ?_ | refine Zax rfl rfl rfl rfl ?_ | refine Zu2 rfl rfl ?_)
  | refine Zac ?_
  | refine Zab ?_
  | refine Zak rfl (by first | rfl | assumption) ?_
  | refine Zau ?_
  | refine Zas ?_
  | fail)
  refine Zaq (ι := { j : Nat // j ≤ ks.length ∧ ∀ i x, i < j → ks[i]? = some x → decide ((2147483647 : Int) < (x.size : Int)) = false })
   (fun j => [(8, .dat (.sl 1 16 (pdS ks))), (9, .dat (.val (.int .i64 ((pdS ks).length : Nat)))), (10, .dat (.val (.int .i64 (j.1 : Nat))))])
   (fun _ => []) (fun j => ks.length - j.1) ⟨0, Nat.zero_le _, fun i _ h => absurd h (Nat.not_lt_zero i)⟩ id ?_ ?_
  ·(refine ⟨?_, ?_, by rfl⟩ <;> repeat' (first | exact trivial | exact ALe.ptr rfl | exact ALe.own rfl | exact ALe.elt rfl | exact BLe.boxD _ _ | exact BLe.row rfl | exact BLe.res | exact BLe.dead rfl | exact ALe.dat (PLe.refl _) | exact CLe.nil | refine And.intro ?_ ?_ | refine ALe.iface ?_ | refine ALe.clo ?_ | refine CLe.cons ?_ ?_ | refine BLe.box ?_ | refine BLe.row ?_ | exact ALe.any _ | refine ALe.dat (PLe.of_eq ?_)))
  rintro ⟨j, hj, hall⟩
  by_cases hlt : j < ks.length
  ·have hc : decide ((j : Int) < (((pdS ks).length : Nat) : Int)) = true := by rw [hlen]; simpa using hlt
   obtain ⟨x, hx⟩ : ∃ x, ks[j]? = some x := ⟨_, List.getElem?_eq_getElem hlt⟩
   have i1 : (pdS ks)[((j : Nat) : Int).toNat]? = some (.val (.string x)) := Zfb hx
   cases h1 : decide ((2147483647 : Int) < (x.size : Int)) with
   | false =>
    repeat' (first
  | refine Zae ?_
  | (refine Zao rfl ?_; first | refine Zis rfl rfl rfl (by first | omega | (dsimp only; omega)) (by assumption) ?_ | refine Zad rfl rfl ?_ | refine Zal rfl rfl ?_ | refine Zax rfl rfl rfl rfl ?_ | refine Zoo rfl rfl (by kernel_rfl) ?_ | refine Zid rfl rfl rfl rfl (by first | omega | (dsimp only; omega)) ?_ | refine Zw6 rfl rfl (by first | rfl | (simp only [Zap]; rfl)) ?_)
  | refine Zac ?_
  | refine Zab ?_
  | refine Zam rfl (by first | rfl | assumption) ?_
  | refine Zak rfl (by first | rfl | assumption) ?_
  | refine Zau ?_
  | refine Zbx ?_
  | refine Zas ?_
  | fail)
    refine Zan ?_
    refine ⟨⟨j + 1, by omega, fun i y hi hy => ?_⟩, id, by simp only; omega, ?_⟩
    ·by_cases e : i = j
     ·subst e; rw [hx] at hy; cases hy; exact h1
     ·exact hall i y (by omega) hy
    (refine ⟨?_, ?_, by rfl⟩ <;> repeat' (first | exact trivial | exact ALe.ptr rfl | exact ALe.own rfl | exact ALe.elt rfl | exact BLe.boxD _ _ | exact BLe.row rfl | exact BLe.res | exact BLe.dead rfl | exact ALe.dat (PLe.refl _) | exact CLe.nil | refine And.intro ?_ ?_ | refine ALe.iface ?_ | refine ALe.clo ?_ | refine CLe.cons ?_ ?_ | refine BLe.box ?_ | refine BLe.row ?_ | exact ALe.any _ | refine ALe.dat (PLe.of_eq ?_)))
   | true =>
    have e : ks.all (fun k => !decide ((2147483647 : Int) < (k.size : Int))) = false := by
     cases h : ks.all (fun k => !decide ((2147483647 : Int) < (k.size : Int))) with
     | false => rfl
     | true => have := List.all_eq_true.1 h x (List.mem_of_getElem? hx); rw [h1] at this; cases this
    rw [e]
    repeat' (first
  | refine Zae ?_
  | (refine Zao rfl ?_; first | refine Zis rfl rfl rfl (by first | omega | (dsimp only; omega)) (by assumption) ?_ | refine Zad rfl rfl ?_ | refine Zal rfl rfl ?_ | refine Zax rfl rfl rfl rfl ?_ | refine Zoo rfl rfl (by kernel_rfl) ?_ | refine Zw6 rfl rfl (by first | rfl | (simp only [Zap]; rfl)) ?_)
  | refine Zac ?_
  | refine Zab ?_
  | refine Zam rfl (by first | rfl | assumption) ?_
  | refine Zau ?_
  | refine Zas ?_
  | refine Zag (Zaj rfl rfl ?_)
  | fail)
    all_goals exact PLe.refl _
  ·have hc : decide ((j : Int) < (((pdS ks).length : Nat) : Int)) = false := by rw [hlen]; simpa using hlt
   have e : ks.all (fun k => !decide ((2147483647 : Int) < (k.size : Int))) = true := List.all_eq_true.2 fun x hx => by
    obtain ⟨i, hi⟩ := List.getElem?_of_mem hx
    rw [hall i x (by have := (List.getElem?_eq_some_iff.1 hi).1; omega) hi]; rfl
   rw [e]
   repeat' (first
  | refine Zae ?_
  | (refine Zao rfl ?_; first | refine Zad rfl rfl ?_ | refine Zax rfl rfl rfl rfl ?_)
  | refine Zac ?_
  | refine Zab ?_
  | refine Zak rfl (by first | rfl | assumption) ?_
  | refine Ze7 rfl ?_
  | refine Zag (Zaj rfl rfl ?_)
  | fail)
   all_goals exact PLe.refl _
instance : MI Tryz.prog 271 "Unstructured" 306 (some 315) := ⟨by kernel_rfl⟩
section
variable {P : Program} {X : Base} {N : Nat} {Q : Exit → Act → World → Prop} {ops : Array Oper} {rem : List Nat} {ks : List Itm} {s s' : Sta}
end
theorem Ypm (j : JV) : PCall Tryz.prog 306 [.agg [pdJ j]] (pdJ j) := by
 refine Zaa Tryz.func306 rfl Tryz.ntmps306 rfl (fun X => ?_)
 repeat' (first
  | refine Zae ?_
  | (refine Zao rfl ?_; first | refine Zad rfl rfl ?_ | refine Za9 rfl rfl rfl ?_ | refine Za5 rfl rfl rfl (by first | rfl | (simp only [Zap]; rfl)) ?_ | refine Zcq rfl rfl rfl (by first | rfl | (simp only [Zap]; rfl)) ?_)
  | refine Zac ?_
  | refine Zab ?_
  | refine Zag (Zaj rfl rfl ?_)
  | fail)
 all_goals exact PLe.refl _
theorem Ytb (m : List (ByteArray × JV)) (k : ByteArray) : PCall Tryz.prog 328 [Zio m, .val (.string k)] (.val (.bool (lkJ m k).isSome)) := by
 refine Zaa Tryz.func328 rfl Tryz.ntmps328 rfl (fun X => ?_)
 cases h : lkJ m k with
 | none =>
  repeat' (first
  | refine Zae ?_
  | (refine Zao rfl ?_; first | refine Zad rfl rfl ?_ | refine Zal rfl rfl ?_ | refine Zcb rfl rfl rfl ?_ | refine Zjw rfl rfl rfl (by assumption) ?_)
  | refine Zac ?_
  | refine Zab ?_
  | refine Zag (Zaj rfl rfl ?_)
  | fail)
  all_goals exact PLe.refl _
 | some x =>
  repeat' (first
  | refine Zae ?_
  | (refine Zao rfl ?_; first | refine Zad rfl rfl ?_ | refine Zal rfl rfl ?_ | refine Zcb rfl rfl rfl ?_ | refine Zjw rfl rfl rfl (by assumption) ?_)
  | refine Zac ?_
  | refine Zab ?_
  | refine Zag (Zaj rfl rfl ?_)
  | fail)
  all_goals exact PLe.refl _
end Go.Proofs.YtgmahieoiifpfaaGreat
section
namespace Go.Proofs.YtgmahieoiifpfaaGreat
theorem Zh1 : ∀ (m : List (ByteArray × JV)) (k : ByteArray), lkJ m k = Zcz m k
 | [], _ => rfl
 | x :: r, k => by unfold lkJ Zcz; rw [Zh1 r k]
theorem Yfa {α : Type} [DecidableEq α] : ∀ {a l : List α}, a.Nodup → (∀ x ∈ a, x ∈ l) → l.length ≤ a.length → ∀ x ∈ l, x ∈ a
 | a, l, hn, hs, hl, x, hx => by
  by_cases h : x ∈ a
  ·exact h
  ·have := Ze4 (a := x :: a) (l := l) (List.nodup_cons.2 ⟨h, hn⟩) (fun y hy => by
    rcases List.mem_cons.1 hy with rfl | hy
    ·exact hx
    ·exact hs y hy)
   simp at this; omega
theorem Zsc {a b : List ByteArray} (ha : Zf2 a) (hb : Zf2 b) (h : ∀ k, k ∈ a ↔ k ∈ b) : a = b := by
 have hg1 : ∀ (l : List ByteArray) (k : ByteArray), k ∈ l → Zcz (l.map fun k => (k, ())) k = some () := by
  intro l k hk
  induction l with
  | nil => simp at hk
  | cons x r ih =>
   simp only [List.map_cons, Zcz]
   by_cases e : x = k
   ·rw [if_pos e]
   ·rw [if_neg e]
    rcases List.mem_cons.1 hk with h | h
    ·exact absurd h.symm e
    ·exact ih h
 have hg2 : ∀ (l : List ByteArray) (k : ByteArray), k ∉ l → Zcz (l.map fun k => (k, ())) k = none := by
  intro l k hk
  exact Zey fun e he => by
   obtain ⟨x, hx, rfl⟩ := List.mem_map.1 he
   exact fun e => hk (e ▸ hx)
 have e1 : ∀ l : List ByteArray, (l.map fun k => (k, ())).map (·.1) = l := fun l => by
  induction l with
  | nil => rfl
  | cons x r ih => simp only [List.map_cons, ih]
 have := Zr7 (a := a.map fun k => (k, ())) (b := b.map fun k => (k, ())) (by rw [e1]; exact ha) (by rw [e1]; exact hb) (fun k => by
  by_cases hk : k ∈ a
  ·rw [hg1 _ _ hk, hg1 _ _ ((h k).1 hk)]
  ·rw [hg2 _ _ hk, hg2 _ _ (fun hb => hk ((h k).2 hb))])
 have := congrArg (List.map (·.1)) this
 rwa [e1, e1] at this
theorem Zw0 {ks : List ByteArray} (h : Zf2 ks) : ks.Nodup := List.Pairwise.imp (fun {a b} hab e => by subst e; rw [Zbb] at hab; cases hab) h
theorem Yhn {α : Type} {ks : List ByteArray} {l : List α} (hl : ks.length = l.length) (hi : Zf2 ks) {k : ByteArray} {x : α} : Zcz (ks.zip l) k = some x ↔ ∃ i : Nat, ks[i]? = some k ∧ l[i]? = some x := by
 constructor
 ·intro h
  obtain ⟨i, hi'⟩ := List.getElem?_of_mem (Zdd h)
  rw [List.getElem?_zip_eq_some] at hi'
  exact ⟨i, hi'⟩
 ·rintro ⟨i, h1, h2⟩
  refine Zgk (by rw [Zj3 hl]; exact Zw0 hi) ?_
  exact List.mem_of_getElem? (i := i) (List.getElem?_zip_eq_some.2 ⟨h1, h2⟩)
theorem Zh9 {m : List (ByteArray × JV)} (hd : (m.map (·.1)).Nodup) : ∃ ks l, unM m gMap = .mk 6 0 0 ByteArray.empty ks l ∧ Zf2 ks ∧ ks.length = l.length ∧ (∀ k, k ∈ ks ↔ k ∈ m.map (·.1)) ∧ ∀ k x, (∃ i : Nat, ks[i]? = some k ∧ l[i]? = some x) ↔ ∃ j, Zcz m k = some j ∧ unJ j = x := by
 obtain ⟨ks, l, e, hi, hl⟩ := Zb6 m gMap Zbg
 have hg : ∀ k, Zcz (ks.zip l) k = (Zcz m k).map unJ := fun k => by
  have := Zkk m gMap Zbg hd k
  rw [Zn6, Option.or_none, e] at this
  exact this
 have key : ∀ k x, (∃ i : Nat, ks[i]? = some k ∧ l[i]? = some x) ↔ ∃ j, Zcz m k = some j ∧ unJ j = x := fun k x => by
  rw [← Yhn hl hi, hg, Option.map_eq_some_iff]
 refine ⟨ks, l, e, hi, hl, fun k => ?_, key⟩
 constructor
 ·intro hk
  obtain ⟨i, hi'⟩ := List.getElem?_of_mem hk
  have hlt := (List.getElem?_eq_some_iff.1 hi').1
  obtain ⟨j, hj, _⟩ := (key k l[i]).1 ⟨i, hi', List.getElem?_eq_getElem (hl ▸ hlt)⟩
  exact List.mem_map_of_mem (f := (·.1)) (Zdd hj)
 ·intro hk
  obtain ⟨y, hy, rfl⟩ := List.mem_map.1 hk
  obtain ⟨i, h1, _⟩ := (key y.1 (unJ y.2)).2 ⟨y.2, Zgk hd hy, rfl⟩
  exact List.mem_of_getElem? h1
end Go.Proofs.YtgmahieoiifpfaaGreat
end
namespace Go.Proofs.YtgmahieoiifpfaaGreat
open Go.RowKit
def Ysn : Option JV → PD
 | some j => dvV j
 | none => .val .nilIface
theorem Yq3 (m : List (ByteArray × JV)) (k : ByteArray) : PCall Tryz.prog 327 [Zio m, dvA, .val (.string k)] (.tup [Ysn (lkJ m k), .val (.bool (lkJ m k).isSome)]) := by
 refine Zaa Tryz.func327 rfl Tryz.ntmps327 rfl (fun X => ?_)
 cases h : lkJ m k with
 | none =>
  have hq : (!false) = true := rfl
  repeat' (first
  | refine Zae ?_
  | (refine Zao rfl ?_; first | refine Zad rfl rfl ?_ | refine Zal rfl rfl ?_ | refine Zcb rfl rfl rfl ?_ | refine Zdc rfl rfl ?_ | refine Zjw rfl rfl rfl (by assumption) ?_)
  | refine Zac ?_
  | refine Zab ?_
  | refine Zam rfl (by first | rfl | assumption) ?_
  | refine Zag (Zi8 rfl rfl rfl ?_ ?_)
  | fail)
  all_goals exact PLe.refl _
 | some x =>
  repeat' (first
  | refine Zae ?_
  | (refine Zao rfl ?_; first | refine Zad rfl rfl ?_ | refine Zal rfl rfl ?_ | refine Zcb rfl rfl rfl ?_ | refine Zdc rfl rfl ?_ | refine Za2 (thk [] 200) rfl rfl (by kernel_rfl) (Znp) rfl trivial rfl (Zai rfl) rfl ?_ | refine Zb5 (thk [(1000, _)] 200) rfl (by kernel_rfl) (Zix (.dat (.val .nilIface)) x) rfl ⟨rfl, trivial⟩ rfl (Zai rfl) rfl ?_ | refine Zc8 rfl rfl ?_ | refine Zjw rfl rfl rfl (by assumption) ?_)
  | refine Zac ?_
  | refine Zab ?_
  | refine Zak rfl (by first | rfl | assumption) ?_
  | fail)
  refine Zbj gV (fun _ => true) ?_
  refine Zag (Zi8 rfl rfl rfl ?_ ?_)
  all_goals exact PLe.refl _
theorem Ylj (d : PD) : PCall Tryz.prog 307 [.ptr (.agg []), d] (.tup []) := by
 intro w F vs hF hvs
 have hl := hvs.length
 refine (calls_of_wp (R := fun e w' => ∃ v, e = .returned v ∧ Below w.heap.size w w' ∧ Rep w' (fun b => F b ∨ (w.heap.size ≤ b ∧ b < w'.heap.size)) (.tup []) v) Tryz.func307 rfl ?_)
 refine wp_skip ?_
 exact ⟨rfl, _, results_none rfl _ _ _, _, rfl, Below.refl _ _, by unfold Rep; exact ⟨[], rfl, by unfold Reps; rfl⟩⟩
theorem Zz7 (l : List ByteArray) (k : ByteArray) : pdS l ++ [.val (.string k)] = pdS (l ++ [k]) := by simp [pdS]
theorem Yqc (l : List ByteArray) (k : ByteArray) (j : JV) (hl : (l.length + 1) * 16 ≤ 140737488351232) :
  Zbv Tryz.prog 341 [.dat (.val (.string k)), .iface 271 (.ptr 1002 0), .ptr 1000 0]
  [(1000, .box 24 [.own 1001]), (1001, .row 9 1 16 (pdS l)), (1002, .box 315 [.dat (pdJ j)])]
  (.dat (.val (.bool true)))
  [(1000, .box 24 [.own 0]), (1001, .dead), (1002, .box 315 [.dat (pdJ j)]), (0, .row 9 1 16 (pdS (l ++ [k])))] := by
 refine Zar Tryz.func341 rfl Tryz.ntmps341 rfl (fun X => ?_)
 have hlen := Zby l
 have hb1 : ((pdS l).length + ([.val (.string k)] : List PD).length) * 16 ≤ 140737488351232 := by rw [hlen]; simpa using hl
 have hb2 : (pdS l).length + ([.val (.string k)] : List PD).length ≤ 140737488351232 := by rw [hlen]; simp; omega
 repeat' (first
  | refine Zae ?_
  | (refine Zao rfl ?_; first | refine Zly rfl rfl rfl rfl rfl rfl (by kernel_rfl) rfl rfl hb1 hb2 ?_ | refine Zad rfl rfl ?_ | refine Zal rfl rfl ?_ | refine Zcx rfl rfl rfl rfl rfl ?_ | refine Zkq rfl rfl rfl rfl ?_ | refine Zir rfl rfl (by kernel_rfl) rfl rfl rfl rfl rfl ?_)
  | refine Zac ?_
  | refine Zab ?_
  | fail)
 refine Za3 () (thk [(0, 9)] 0) (tm := [(5, .dat (.val (.bool true)))]) ?_ (Zbc rfl rfl)
 (refine ⟨?_, ?_, by rfl⟩ <;> repeat' (first | exact trivial | exact ALe.ptr rfl | exact ALe.own rfl | exact ALe.elt rfl | exact BLe.boxD _ _ | exact BLe.row rfl | exact BLe.res | exact BLe.dead rfl | exact ALe.dat (PLe.refl _) | exact CLe.nil | refine And.intro ?_ ?_ | refine ALe.iface ?_ | refine ALe.clo ?_ | refine CLe.cons ?_ ?_ | refine BLe.box ?_ | refine BLe.row ?_ | exact ALe.any _ | refine ALe.dat (PLe.of_eq ?_)))
 all_goals exact Zz7 l k
theorem Yqd (m : List (ByteArray × JV)) (l : List ByteArray) (k : ByteArray) (j : JV) (hl : (l.length + 1) * 16 ≤ 140737488351232) :
  Zbv Tryz.prog 342 [.dat (.val (.string k)), .iface 271 (.ptr 1003 0), .ptr 1000 0, .ptr 1001 0]
  [(1000, .box 321 [.dat (dvM m)]), (1001, .box 24 [.own 1002]), (1002, .row 9 1 16 (pdS l)), (1003, .box 315 [.dat (pdJ j)])]
  (.dat (.val (.bool true)))
  [(1000, .box 321 [.dat (dvM m)]), (1001, .box 24 [.own 0]), (1002, .dead), (1003, .box 315 [.dat (pdJ j)]), (0, .row 9 1 16 (pdS (l ++ if (lkJ m k).isSome then [] else [k])))] := by
 have hH := Ytb m k
 refine Zar Tryz.func342 rfl Tryz.ntmps342 rfl (fun X => ?_)
 have hlen := Zby l
 have hb1 : ((pdS l).length + ([.val (.string k)] : List PD).length) * 16 ≤ 140737488351232 := by rw [hlen]; simpa using hl
 have hb2 : (pdS l).length + ([.val (.string k)] : List PD).length ≤ 140737488351232 := by rw [hlen]; simp; omega
 cases h : (lkJ m k).isSome with
 | true =>
  rw [h] at hH
  repeat' (first
  | refine Zae ?_
  | (refine Zao rfl ?_; first | refine Zad rfl rfl ?_ | refine Zal rfl rfl ?_ | refine Za5 rfl rfl rfl (by first | rfl | (simp only [Zap]; rfl)) ?_ | refine Zen rfl rfl (by first | rfl | assumption) rfl ?_ | refine Zcg rfl rfl rfl (by kernel_rfl) (by exact NilIs.ifc) rfl ?_)
  | refine Zac ?_
  | refine Zab ?_
  | refine Zak rfl (by first | rfl | assumption) ?_
  | (refine Zc3 rfl rfl (by first | rfl | assumption) ?_; first | refine Zal rfl rfl ?_ | refine Za5 rfl rfl rfl (by first | rfl | (simp only [Zap]; rfl)) ?_ | refine Zdc rfl rfl ?_ | refine Zdq rfl rfl (by kernel_rfl) rfl (by first | exact hH) ?_)
  | refine Zas ?_
  | fail)
  refine Za3 () (thk [(0, 1002)] 0) (tm := [(6, .dat (.val (.bool true)))]) ?_ (Zbc rfl rfl)
  (refine ⟨?_, ?_, by rfl⟩ <;> repeat' (first | exact trivial | exact ALe.ptr rfl | exact ALe.own rfl | exact ALe.elt rfl | exact BLe.boxD _ _ | exact BLe.row rfl | exact BLe.res | exact BLe.dead rfl | exact ALe.dat (PLe.refl _) | exact CLe.nil | refine And.intro ?_ ?_ | refine ALe.iface ?_ | refine ALe.clo ?_ | refine CLe.cons ?_ ?_ | refine BLe.box ?_ | refine BLe.row ?_ | exact ALe.any _ | refine ALe.dat (PLe.of_eq ?_)))
  all_goals simp
 | false =>
  rw [h] at hH
  repeat' (first
  | refine Zae ?_
  | (refine Zao rfl ?_; first | refine Zly rfl rfl rfl rfl rfl rfl (by kernel_rfl) rfl rfl hb1 hb2 ?_ | refine Zad rfl rfl ?_ | refine Zal rfl rfl ?_ | refine Za5 rfl rfl rfl (by first | rfl | (simp only [Zap]; rfl)) ?_ | refine Zen rfl rfl (by first | rfl | assumption) rfl ?_ | refine Zcx rfl rfl rfl rfl rfl ?_ | refine Zkq rfl rfl rfl rfl ?_ | refine Zir rfl rfl (by kernel_rfl) rfl rfl rfl rfl rfl ?_ | refine Zcg rfl rfl rfl (by kernel_rfl) (by exact NilIs.ifc) rfl ?_)
  | refine Zac ?_
  | refine Zab ?_
  | refine Zam rfl (by first | rfl | assumption) ?_
  | (refine Zc3 rfl rfl (by first | rfl | assumption) ?_; first | refine Zal rfl rfl ?_ | refine Za5 rfl rfl rfl (by first | rfl | (simp only [Zap]; rfl)) ?_ | refine Zdc rfl rfl ?_ | refine Zdq rfl rfl (by kernel_rfl) rfl (by first | exact hH) ?_)
  | fail)
  refine Za3 () (thk [(0, 18)] 0) (tm := [(6, .dat (.val (.bool true)))]) ?_ (Zbc rfl rfl)
  (refine ⟨?_, ?_, by rfl⟩ <;> repeat' (first | exact trivial | exact ALe.ptr rfl | exact ALe.own rfl | exact ALe.elt rfl | exact BLe.boxD _ _ | exact BLe.row rfl | exact BLe.res | exact BLe.dead rfl | exact ALe.dat (PLe.refl _) | exact CLe.nil | refine And.intro ?_ ?_ | refine ALe.iface ?_ | refine ALe.clo ?_ | refine CLe.cons ?_ ?_ | refine BLe.box ?_ | refine BLe.row ?_ | exact ALe.any _ | refine ALe.dat (PLe.of_eq ?_)))
  all_goals (simp only [Bool.false_eq_true, if_false]; exact Zz7 l k)
theorem Zsp {m done : List (ByteArray × JV)} {y : ByteArray × JV} (hnd : (done.map (·.1)).Nodup) (hsub : ∀ z ∈ done, z ∈ m) (hy : y ∈ m) (hny : y.1 ∉ done.map (·.1)) : done.length + 1 ≤ m.length := by
 have := Ze4 (a := (done ++ [y]).map (·.1)) (l := m.map (·.1)) (by
  rw [List.map_append, List.nodup_append]
  exact ⟨hnd, by simp, fun a ha b hb => by simp at hb; subst hb; exact fun e => hny (e ▸ ha)⟩) (fun x hx => by
  obtain ⟨z, hz, rfl⟩ := List.mem_map.1 hx
  rcases List.mem_append.1 hz with hz | hz
  ·exact List.mem_map_of_mem (hsub z hz)
  ·simp at hz; rw [hz]; exact List.mem_map_of_mem hy)
 simpa using this
theorem Zsq {done : List (ByteArray × JV)} {y : ByteArray × JV} (hnd : (done.map (·.1)).Nodup) (hny : y.1 ∉ done.map (·.1)) : ((done ++ [y]).map (·.1)).Nodup := by
 rw [List.map_append, List.nodup_append]
 exact ⟨hnd, by simp, fun a ha b hb => by simp at hb; subst hb; exact fun e => hny (e ▸ ha)⟩
theorem Zne {m done : List (ByteArray × JV)} {y : ByteArray × JV} (hsub : ∀ z ∈ done, z ∈ m) (hy : y ∈ m) : ∀ z ∈ done ++ [y], z ∈ m := by
 intro z hz
 rcases List.mem_append.1 hz with hz | hz
 ·exact hsub z hz
 ·simp at hz; rw [hz]; exact hy
theorem Zrm {m done : List (ByteArray × JV)} (hm : (m.map (·.1)).Nodup) (hnd : (done.map (·.1)).Nodup) (hsub : ∀ z ∈ done, z ∈ m) (hev : ∀ y ∈ m, y ∈ done) : (done.map (·.1)).Perm (m.map (·.1)) :=
 (List.perm_ext_iff_of_nodup hnd hm).2 fun k => ⟨fun h => by
  obtain ⟨z, hz, rfl⟩ := List.mem_map.1 h
  exact List.mem_map_of_mem (hsub z hz), fun h => by
  obtain ⟨z, hz, rfl⟩ := List.mem_map.1 h
  exact List.mem_map_of_mem (hev z hz)⟩
theorem Ynr (m : List (ByteArray × JV)) (l : List ByteArray) (hm : (m.map (·.1)).Nodup) (hl : (l.length + m.length) * 16 ≤ 140737488351232) :
  Zif Tryz.prog 330 [.dat (Zio m), .dat dvA, .clo 341 [.ptr 1000 0]]
  [(1000, .box 24 [.own 1001]), (1001, .row 9 1 16 (pdS l))] (ι := { q : List ByteArray // q.Perm (m.map (·.1)) })
  (fun _ => .dat (.val (.bool true))) (fun q => [(1000, .box 24 [.own 0]), (1001, .dead), (0, .row 9 1 16 (pdS (l ++ q.1)))]) := by
 refine Zar Tryz.func330 rfl Tryz.ntmps330 rfl (fun X => ?_)
 by_cases hn : m = []
 ·subst hn
  have hq : decide (((([] : List (ByteArray × JV)).length : Nat) : Int) = 0) = true := rfl
  repeat' (first
  | refine Zae ?_
  | (refine Zao rfl ?_; first | refine Zad rfl rfl ?_ | refine Zal rfl rfl ?_ | refine Zax rfl rfl rfl rfl ?_ | refine Zme rfl rfl ?_)
  | refine Zac ?_
  | refine Zab ?_
  | refine Zam rfl (by first | rfl | assumption) ?_
  | fail)
  refine Za3 ⟨[], .refl _⟩ (thk [(0, 1001)] 0) (tm := [(6, .dat (.val (.bool true)))]) ?_ (Zbc rfl rfl)
  (refine ⟨?_, ?_, by rfl⟩ <;> repeat' (first | exact trivial | exact ALe.ptr rfl | exact ALe.own rfl | exact ALe.elt rfl | exact BLe.boxD _ _ | exact BLe.row rfl | exact BLe.res | exact BLe.dead rfl | exact ALe.dat (PLe.refl _) | exact CLe.nil | refine And.intro ?_ ?_ | refine ALe.iface ?_ | refine ALe.clo ?_ | refine CLe.cons ?_ ?_ | refine BLe.box ?_ | refine BLe.row ?_ | exact ALe.any _ | refine ALe.dat (PLe.of_eq ?_)))
  all_goals simp
 ·have hq : decide (((m.length : Nat) : Int) = 0) = false := by
   cases m with
   | nil => exact absurd rfl hn
   | cons x r => simp; omega
  repeat' (first
  | refine Zae ?_
  | (refine Zao rfl ?_; first | refine Znb rfl rfl rfl ?_ | refine Zad rfl rfl ?_ | refine Zal rfl rfl ?_ | refine Zax rfl rfl rfl rfl ?_ | refine Zgn rfl rfl ?_ | refine Zfy rfl rfl ?_ | refine Za2 (thk [] 200) rfl rfl (by kernel_rfl) (Znp) rfl trivial rfl (Zai rfl) rfl ?_ | refine Zg5 rfl rfl ?_ | refine Zfm rfl rfl (by kernel_rfl) ?_ | refine Zme rfl rfl ?_ | refine Zd7 rfl Zcw ?_)
  | refine Zac ?_
  | refine Zab ?_
  | refine Zak rfl (by first | rfl | assumption) ?_
  | refine Zau ?_
  | refine Zas ?_
  | fail)
  refine Zaq (ι := { done : List (ByteArray × JV) // (done.map (·.1)).Nodup ∧ (∀ y ∈ done, y ∈ m) })
   (fun k => [(2, .clo 341 [.ptr 1000 0]), (7, .ptr 200 0), (20, .own 20)])
   (fun k => [(20, .res (itR m k.1)), (200, .box 315 [.any]), (1000, .box 24 [.own 300]), (1001, .dead), (300, .row 9 1 16 (pdS (l ++ k.1.map (·.1))))])
   (fun k => m.length - k.1.length) ⟨[], by simp, by simp⟩ (thk [(300, 1001)] 0) ?_ ?_
  ·(refine ⟨?_, ?_, by rfl⟩ <;> repeat' (first | exact trivial | exact ALe.ptr rfl | exact ALe.own rfl | exact ALe.elt rfl | exact BLe.boxD _ _ | exact BLe.row rfl | exact BLe.res | exact BLe.dead rfl | exact ALe.dat (PLe.refl _) | exact CLe.nil | refine And.intro ?_ ?_ | refine ALe.iface ?_ | refine ALe.clo ?_ | refine CLe.cons ?_ ?_ | refine BLe.box ?_ | refine BLe.row ?_ | exact ALe.any _ | refine ALe.dat (PLe.of_eq ?_)))
   all_goals simp
  rintro ⟨done, hnd, hsub⟩
  repeat' (first
  | refine Zae ?_
  | refine Zab ?_
  | fail)
  refine Zao rfl (Zsk rfl rfl rfl (fun hev => ?_) (fun y hy hny => ?_))
  ·repeat' (first
  | refine Zae ?_
  | (refine Zao rfl ?_; first | refine Zad rfl rfl ?_ | refine Zcb rfl rfl rfl ?_)
  | refine Zac ?_
  | refine Zab ?_
  | refine Zak rfl (by first | rfl | assumption) ?_
  | refine Ze7 rfl ?_
  | fail)
   refine Za3 ⟨done.map (·.1), Zrm hm hnd hsub hev⟩ (thk [(0, 300)] 0) (tm := [(6, .dat (.val (.bool true)))]) ?_ (Zbc rfl rfl)
   (refine ⟨?_, ?_, by rfl⟩ <;> repeat' (first | exact trivial | exact ALe.ptr rfl | exact ALe.own rfl | exact ALe.elt rfl | exact BLe.boxD _ _ | exact BLe.row rfl | exact BLe.res | exact BLe.dead rfl | exact ALe.dat (PLe.refl _) | exact CLe.nil | refine And.intro ?_ ?_ | refine ALe.iface ?_ | refine ALe.clo ?_ | refine CLe.cons ?_ ?_ | refine BLe.box ?_ | refine BLe.row ?_ | exact ALe.any _ | refine ALe.dat (PLe.of_eq ?_)))
  ·have hml := Zsp hnd hsub hy hny
   have hC := Yqc (l ++ done.map (·.1)) y.1 y.2 (by simp; omega)
   have hq1 : (!true) = false := rfl
   repeat' (first
  | refine Zae ?_
  | (refine Zao rfl ?_; first | refine Zkp rfl rfl rfl ?_ | refine Zad rfl rfl ?_ | refine Zal rfl rfl ?_ | refine Zcb rfl rfl rfl ?_ | refine Zdc rfl rfl ?_ | refine Zfy rfl rfl ?_ | refine Zb5 (thk [(1000, _)] 200) rfl (by kernel_rfl) (Zix .any _) rfl ⟨rfl, trivial⟩ rfl (Zai rfl) rfl ?_ | refine Zhz (thk [(1000, _), (1001, _), (1002, _)] 350) rfl rfl (by kernel_rfl) (hC) rfl ⟨rfl, ⟨rfl, ⟨rfl, trivial⟩⟩⟩ rfl (Zai rfl) rfl ?_ | refine Zh0 rfl rfl ?_)
  | refine Zac ?_
  | refine Zab ?_
  | refine Zam rfl (by first | rfl | assumption) ?_
  | refine Zak rfl (by first | rfl | assumption) ?_
  | refine Zau ?_
  | refine Zbx ?_
  | refine Zas ?_
  | fail)
   refine Zan ?_
   refine ⟨⟨done ++ [y], Zsq hnd hny, Zne hsub hy⟩, thk [(300, 350)] 0, by simp only [List.length_append, List.length_cons, List.length_nil]; omega, ?_⟩
   (refine ⟨?_, ?_, by rfl⟩ <;> repeat' (first | exact trivial | exact ALe.ptr rfl | exact ALe.own rfl | exact ALe.elt rfl | exact BLe.boxD _ _ | exact BLe.row rfl | exact BLe.res | exact BLe.dead rfl | exact ALe.dat (PLe.refl _) | exact CLe.nil | refine And.intro ?_ ?_ | refine ALe.iface ?_ | refine ALe.clo ?_ | refine CLe.cons ?_ ?_ | refine BLe.box ?_ | refine BLe.row ?_ | exact ALe.any _ | refine ALe.dat (PLe.of_eq ?_)))
   all_goals simp
theorem Yns (p m : List (ByteArray × JV)) (l : List ByteArray) (hm : (m.map (·.1)).Nodup) (hl : (l.length + m.length) * 16 ≤ 140737488351232) :
  Zif Tryz.prog 330 [.dat (Zio m), .dat dvA, .clo 342 [.ptr 1000 0, .ptr 1001 0]]
  [(1000, .box 321 [.dat (dvM p)]), (1001, .box 24 [.own 1002]), (1002, .row 9 1 16 (pdS l))] (ι := { q : List ByteArray // q.Perm ((m.map (·.1)).filter fun k => !(lkJ p k).isSome) })
  (fun _ => .dat (.val (.bool true))) (fun q => [(1000, .box 321 [.dat (dvM p)]), (1001, .box 24 [.own 0]), (1002, .dead), (0, .row 9 1 16 (pdS (l ++ q.1)))]) := by
 refine Zar Tryz.func330 rfl Tryz.ntmps330 rfl (fun X => ?_)
 by_cases hn : m = []
 ·subst hn
  have hq : decide (((([] : List (ByteArray × JV)).length : Nat) : Int) = 0) = true := rfl
  repeat' (first
  | refine Zae ?_
  | (refine Zao rfl ?_; first | refine Zad rfl rfl ?_ | refine Zal rfl rfl ?_ | refine Zax rfl rfl rfl rfl ?_ | refine Zme rfl rfl ?_)
  | refine Zac ?_
  | refine Zab ?_
  | refine Zam rfl (by first | rfl | assumption) ?_
  | fail)
  refine Za3 ⟨[], .refl _⟩ (thk [(0, 1002)] 0) (tm := [(6, .dat (.val (.bool true)))]) ?_ (Zbc rfl rfl)
  (refine ⟨?_, ?_, by rfl⟩ <;> repeat' (first | exact trivial | exact ALe.ptr rfl | exact ALe.own rfl | exact ALe.elt rfl | exact BLe.boxD _ _ | exact BLe.row rfl | exact BLe.res | exact BLe.dead rfl | exact ALe.dat (PLe.refl _) | exact CLe.nil | refine And.intro ?_ ?_ | refine ALe.iface ?_ | refine ALe.clo ?_ | refine CLe.cons ?_ ?_ | refine BLe.box ?_ | refine BLe.row ?_ | exact ALe.any _ | refine ALe.dat (PLe.of_eq ?_)))
  all_goals simp
 ·have hq : decide (((m.length : Nat) : Int) = 0) = false := by
   cases m with
   | nil => exact absurd rfl hn
   | cons x r => simp; omega
  repeat' (first
  | refine Zae ?_
  | (refine Zao rfl ?_; first | refine Znb rfl rfl rfl ?_ | refine Zad rfl rfl ?_ | refine Zal rfl rfl ?_ | refine Zax rfl rfl rfl rfl ?_ | refine Zgn rfl rfl ?_ | refine Zfy rfl rfl ?_ | refine Za2 (thk [] 200) rfl rfl (by kernel_rfl) (Znp) rfl trivial rfl (Zai rfl) rfl ?_ | refine Zg5 rfl rfl ?_ | refine Zfm rfl rfl (by kernel_rfl) ?_ | refine Zme rfl rfl ?_ | refine Zd7 rfl Zcw ?_)
  | refine Zac ?_
  | refine Zab ?_
  | refine Zak rfl (by first | rfl | assumption) ?_
  | refine Zau ?_
  | refine Zas ?_
  | fail)
  refine Zaq (ι := { done : List (ByteArray × JV) // (done.map (·.1)).Nodup ∧ (∀ y ∈ done, y ∈ m) })
   (fun k => [(2, .clo 342 [.ptr 1000 0, .ptr 1001 0]), (7, .ptr 200 0), (20, .own 20)])
   (fun k => [(20, .res (itR m k.1)), (200, .box 315 [.any]), (1000, .box 321 [.dat (dvM p)]), (1001, .box 24 [.own 300]), (1002, .dead), (300, .row 9 1 16 (pdS (l ++ (k.1.map (·.1)).filter fun k => !(lkJ p k).isSome)))])
   (fun k => m.length - k.1.length) ⟨[], by simp, by simp⟩ (thk [(300, 1002)] 0) ?_ ?_
  ·(refine ⟨?_, ?_, by rfl⟩ <;> repeat' (first | exact trivial | exact ALe.ptr rfl | exact ALe.own rfl | exact ALe.elt rfl | exact BLe.boxD _ _ | exact BLe.row rfl | exact BLe.res | exact BLe.dead rfl | exact ALe.dat (PLe.refl _) | exact CLe.nil | refine And.intro ?_ ?_ | refine ALe.iface ?_ | refine ALe.clo ?_ | refine CLe.cons ?_ ?_ | refine BLe.box ?_ | refine BLe.row ?_ | exact ALe.any _ | refine ALe.dat (PLe.of_eq ?_)))
   all_goals simp
  rintro ⟨done, hnd, hsub⟩
  repeat' (first
  | refine Zae ?_
  | refine Zab ?_
  | fail)
  refine Zao rfl (Zsk rfl rfl rfl (fun hev => ?_) (fun y hy hny => ?_))
  ·repeat' (first
  | refine Zae ?_
  | (refine Zao rfl ?_; first | refine Zad rfl rfl ?_ | refine Zcb rfl rfl rfl ?_)
  | refine Zac ?_
  | refine Zab ?_
  | refine Zak rfl (by first | rfl | assumption) ?_
  | refine Ze7 rfl ?_
  | fail)
   refine Za3 ⟨(done.map (·.1)).filter fun k => !(lkJ p k).isSome, (Zrm hm hnd hsub hev).filter _⟩ (thk [(0, 300)] 0) (tm := [(6, .dat (.val (.bool true)))]) ?_ (Zbc rfl rfl)
   (refine ⟨?_, ?_, by rfl⟩ <;> repeat' (first | exact trivial | exact ALe.ptr rfl | exact ALe.own rfl | exact ALe.elt rfl | exact BLe.boxD _ _ | exact BLe.row rfl | exact BLe.res | exact BLe.dead rfl | exact ALe.dat (PLe.refl _) | exact CLe.nil | refine And.intro ?_ ?_ | refine ALe.iface ?_ | refine ALe.clo ?_ | refine CLe.cons ?_ ?_ | refine BLe.box ?_ | refine BLe.row ?_ | exact ALe.any _ | refine ALe.dat (PLe.of_eq ?_)))
  ·have hml := Zsp hnd hsub hy hny
   have hfl := List.length_filter_le (fun k => !(lkJ p k).isSome) (done.map (·.1))
   have hC := Yqd p (l ++ (done.map (·.1)).filter fun k => !(lkJ p k).isSome) y.1 y.2 (by simp at hfl ⊢; omega)
   have hq1 : (!true) = false := rfl
   repeat' (first
  | refine Zae ?_
  | (refine Zao rfl ?_; first | refine Zkp rfl rfl rfl ?_ | refine Zad rfl rfl ?_ | refine Zal rfl rfl ?_ | refine Zcb rfl rfl rfl ?_ | refine Zdc rfl rfl ?_ | refine Zfy rfl rfl ?_ | refine Zb5 (thk [(1000, _)] 200) rfl (by kernel_rfl) (Zix .any _) rfl ⟨rfl, trivial⟩ rfl (Zai rfl) rfl ?_ | refine Zhz (thk [(1000, _), (1001, _), (1002, _), (1003, _)] 350) rfl rfl (by kernel_rfl) (hC) rfl ⟨rfl, ⟨rfl, ⟨rfl, ⟨rfl, trivial⟩⟩⟩⟩ rfl (Zai rfl) rfl ?_ | refine Zh0 rfl rfl ?_)
  | refine Zac ?_
  | refine Zab ?_
  | refine Zam rfl (by first | rfl | assumption) ?_
  | refine Zak rfl (by first | rfl | assumption) ?_
  | refine Zau ?_
  | refine Zbx ?_
  | refine Zas ?_
  | fail)
   refine Zan ?_
   refine ⟨⟨done ++ [y], Zsq hnd hny, Zne hsub hy⟩, thk [(300, 350)] 0, by simp only [List.length_append, List.length_cons, List.length_nil]; omega, ?_⟩
   (refine ⟨?_, ?_, by rfl⟩ <;> repeat' (first | exact trivial | exact ALe.ptr rfl | exact ALe.own rfl | exact ALe.elt rfl | exact BLe.boxD _ _ | exact BLe.row rfl | exact BLe.res | exact BLe.dead rfl | exact ALe.dat (PLe.refl _) | exact CLe.nil | refine And.intro ?_ ?_ | refine ALe.iface ?_ | refine ALe.clo ?_ | refine CLe.cons ?_ ?_ | refine BLe.box ?_ | refine BLe.row ?_ | exact ALe.any _ | refine ALe.dat (PLe.of_eq ?_)))
   all_goals
    rw [List.map_append, List.filter_append, show List.filter (fun k => !(lkJ p k).isSome) ([y].map (·.1)) = (if (lkJ p y.1).isSome then [] else [y.1]) by
     simp only [List.map_cons, List.map_nil, List.filter_cons, List.filter_nil]
     cases hs : (lkJ p y.1).isSome <;> rfl, List.append_assoc]
def feq (f g : Nat) : Bool := FloatKind.f64.format.order f g == some Ordering.eq
mutual
/-- No NaN, no whole number beyond 2^53. -/
def Zje : GV → Bool
 | .mk k n f _ _ l => if k = 2 then decide (-9007199254740992 ≤ n) && decide (n ≤ 9007199254740992) else if k = 3 then feq f f else if k = 5 then Zmj l else if k = 6 then Zmj l else true
def Zmj : List GV → Bool
 | [] => true
 | x :: r => Zje x && Zmj r
end
theorem ordL_iff : ∀ {l : List GV}, Zmj l = true ↔ ∀ y ∈ l, Zje y = true
 | [] => by simp [Zmj]
 | x :: r => by simp [Zmj, ordL_iff (l := r)]
def OrdC (x : GV) : Prop := ∀ (w : World) (v : Value), IsV w (Btw 0 w.heap.size) x v → Calls Tryz.prog 93 #[v] w fun e w' => e = .returned (.bool (Zje x)) ∧ Below w.heap.size w w'
theorem OrdC.use {x : GV} (h : OrdC x) (w : World) (v : Value) (hv : IsV w (Btw 0 w.heap.size) x v) : Calls Tryz.prog 93 #[v] w fun e w' => e = .returned (.bool (Zje x)) ∧ Below w.heap.size w w' := h w v hv
theorem Yor (n : Int) (f : Nat) (s : ByteArray) (ks : List ByteArray) (l : List GV) : OrdC (.mk 3 n f s ks l) := by
 intro w v hv
 obtain ⟨a0, c0, a1, c1, rfl⟩ := hv.form
 simp only [GV.kind, GV.n, GV.f, GV.s, GV.keys, GV.l]
 clear hv
 have e : Zje (.mk 3 n f s ks l) = feq f f := by simp [Zje]
 rw [e]
 go_enter Tryz.func93, Tryz.ntmps93
 go_wp2_with fail
 go_ret
 exact ⟨rfl, (Below.refl _ _).alloc (Nat.le_refl _) _⟩
theorem Yos (n : Int) (f : Nat) (s : ByteArray) (ks : List ByteArray) (l : List GV) : OrdC (.mk 2 n f s ks l) := by
 intro w v hv
 obtain ⟨a0, c0, a1, c1, rfl⟩ := hv.form
 simp only [GV.kind, GV.n, GV.f, GV.s, GV.keys, GV.l]
 clear hv
 have e : Zje (.mk 2 n f s ks l) = (decide (-9007199254740992 ≤ n) && decide (n ≤ 9007199254740992)) := by simp [Zje]
 rw [e]
 by_cases h1 : -9007199254740992 ≤ n
 ·have e1 : decide (-9007199254740992 ≤ n) = true := by simpa using h1
  rw [e1, Bool.true_and]
  go_enter Tryz.func93, Tryz.ntmps93
  go_wp2_with fail
  go_ret
  exact ⟨rfl, (Below.refl _ _).alloc (Nat.le_refl _) _⟩
 ·have e1 : decide (-9007199254740992 ≤ n) = false := by simpa using h1
  rw [e1, Bool.false_and]
  go_enter Tryz.func93, Tryz.ntmps93
  go_wp2_with fail
  go_ret
  exact ⟨rfl, (Below.refl _ _).alloc (Nat.le_refl _) _⟩
theorem Yf4 (k n : Int) (f : Nat) (s : ByteArray) (ks : List ByteArray) (l : List GV) (h2 : k ≠ 2) (h3 : k ≠ 3) (h5 : k ≠ 5) (h6 : k ≠ 6) : OrdC (.mk k n f s ks l) := by
 intro w v hv
 obtain ⟨a0, c0, a1, c1, rfl⟩ := hv.form
 simp only [GV.kind, GV.n, GV.f, GV.s, GV.keys, GV.l]
 clear hv
 have e : Zje (.mk k n f s ks l) = true := by simp [Zje, h2, h3, h5, h6]
 rw [e]
 have k2 : (k == 2) = false := by simp [h2]
 have k3 : (k == 3) = false := by simp [h3]
 have k5 : (k == 5) = false := by simp [h5]
 have k6 : (k == 6) = false := by simp [h6]
 go_enter Tryz.func93, Tryz.ntmps93
 go_wp2_with fail
 go_ret
 exact ⟨rfl, (Below.refl _ _).alloc (Nat.le_refl _) _⟩
theorem Yf2 (n : Int) (f : Nat) (s : ByteArray) (ks : List ByteArray) (l : List GV) (ih : ∀ y ∈ l, OrdC y) : OrdC (.mk 5 n f s ks l) := by
 intro w v hv
 have hl88 := hv.len
 have hv0 := hv
 obtain ⟨a0, c0, a1, c1, rfl⟩ := hv.form
 have hl := hv0.vals
 simp only [GV.kind, GV.n, GV.f, GV.s, GV.keys, GV.l] at hl hl88 ⊢
 clear hv hv0
 have e : Zje (.mk 5 n f s ks l) = Zmj l := by simp [Zje]
 rw [e]
 go_enter Tryz.func93, Tryz.ntmps93
 go_wp2_with fail
 have hB0 : Below w.heap.size w (w.alloc (.cells #[.int .i64 5, .int .i64 n, .float .f64 f, .string s, .slice a0 ks.length c0, .slice a1 l.length c1] 27)) := (Below.refl _ _).alloc (Nat.le_refl _) _
 generalize w.alloc (.cells #[.int .i64 5, .int .i64 n, .float .f64 f, .string s, .slice a0 ks.length c0, .slice a1 l.length c1] 27) = w0 at *
 go_loopw [30] (fun i wr => ∃ k : Nat, k ≤ l.length ∧ i = .int .i64 (k : Nat) ∧ Below w.heap.size w wr ∧ ∀ y ∈ l.take k, Zje y = true) (fun i _ => l.length - (intOf i).toNat)
 case atStart => exact ⟨0, Nat.zero_le _, rfl, hB0, by simp⟩
 case round =>
  clear hB0
  obtain ⟨k, hk, rfl, hB, hall⟩ := hrel
  by_cases hlt : k < l.length
  ·obtain ⟨b, o, hb, rfl, hcells⟩ := Zxt hl (by omega)
   obtain ⟨y, hy⟩ : ∃ y, l[k]? = some y := ⟨l[k], by simp [hlt]⟩
   obtain ⟨e0, f0, e1, f1, g0, g1, g2, g3, g4, g5, hyv⟩ := (IsVs.keep (S' := Btw 0 wr.heap.size) (Btw.kept hB) (Btw.mono (Nat.le_refl _) hB.size) l b o hb hcells).cells hy
   have hc := ih y (List.mem_of_getElem? hy)
   have hyA := hyv.alloc_ (.cells #[.int .i64 y.kind, .int .i64 y.n, .float .f64 y.f, .string y.s, .slice e0 y.keys.length f0, .slice e1 y.l.length f1] 27)
   have HY := Lib.hid (And.intro hy (And.intro hall hB))
   have j0 : (0 : Int) ≤ (k : Int) := by omega
   have j1 : (k : Int) < (l.length : Int) := by omega
   have hs := hB.size
   clear hy hall hB hcells hyv
   go_wp2_with (go_at_call 93; (with_reducible refine (hc.use _ _ ?_).mono ?_))
   ·simpa using hyA
   rintro e w2 ⟨rfl, hB2'⟩
   obtain ⟨hy, hall, hB⟩ := HY.out
   have hB2 : Below w.heap.size w w2 := (hB.alloc hs (.cells #[.int .i64 y.kind, .int .i64 y.n, .float .f64 y.f, .string y.s, .slice e0 y.keys.length f0, .slice e1 y.l.length f1] 27)).trans (hB2'.mono (by simp; omega))
   clear g0 g1 g2 g3 g4 g5 hyA hc HY hB2'
   cases ho : Zje y with
   | false =>
    have hf : Zmj l = false := by
     cases h : Zmj l with
     | false => rfl
     | true => rw [ordL_iff.1 h y (List.mem_of_getElem? hy)] at ho; cases ho
    go_wp2_with fail
    go_ret
    rw [hf]
    exact ⟨rfl, hB2⟩
   | true =>
    have HF := Lib.hid (show ∀ z ∈ l.take (k + 1), Zje z = true from fun z hz => by
     rw [List.take_add_one, hy] at hz
     rcases List.mem_append.1 hz with hz | hz
     ·exact hall z hz
     ·simp at hz; subst hz; exact ho)
    clear hall hy hB
    go_wp2_with fail
    go_roundw
    case rel => exact ⟨k + 1, hlt, by go_num, hB2, HF.out⟩
    case measure => simp [intOf]; omega
  ·have hkl : k = l.length := by omega
   subst hkl
   have ht : Zmj l = true := ordL_iff.2 (by rw [List.take_length] at hall; exact hall)
   have HT := Lib.hid ht
   clear ht hall
   go_wp2_with fail
   go_ret
   rw [HT.out]
   exact ⟨rfl, hB⟩
theorem Yf3 (n : Int) (f : Nat) (s : ByteArray) (ks : List ByteArray) (l : List GV) (ih : ∀ y ∈ l, OrdC y) : OrdC (.mk 6 n f s ks l) := by
 intro w v hv
 have hl88 := hv.len
 have hv0 := hv
 obtain ⟨a0, c0, a1, c1, rfl⟩ := hv.form
 have hl := hv0.vals
 simp only [GV.kind, GV.n, GV.f, GV.s, GV.keys, GV.l] at hl hl88 ⊢
 clear hv hv0
 have e : Zje (.mk 6 n f s ks l) = Zmj l := by simp [Zje]
 rw [e]
 go_enter Tryz.func93, Tryz.ntmps93
 go_wp2_with fail
 have hB0 : Below w.heap.size w (w.alloc (.cells #[.int .i64 6, .int .i64 n, .float .f64 f, .string s, .slice a0 ks.length c0, .slice a1 l.length c1] 27)) := (Below.refl _ _).alloc (Nat.le_refl _) _
 generalize w.alloc (.cells #[.int .i64 6, .int .i64 n, .float .f64 f, .string s, .slice a0 ks.length c0, .slice a1 l.length c1] 27) = w0 at *
 go_loopw [30] (fun i wr => ∃ k : Nat, k ≤ l.length ∧ i = .int .i64 (k : Nat) ∧ Below w.heap.size w wr ∧ ∀ y ∈ l.take k, Zje y = true) (fun i _ => l.length - (intOf i).toNat)
 case atStart => exact ⟨0, Nat.zero_le _, rfl, hB0, by simp⟩
 case round =>
  clear hB0
  obtain ⟨k, hk, rfl, hB, hall⟩ := hrel
  by_cases hlt : k < l.length
  ·obtain ⟨b, o, hb, rfl, hcells⟩ := Zxt hl (by omega)
   obtain ⟨y, hy⟩ : ∃ y, l[k]? = some y := ⟨l[k], by simp [hlt]⟩
   obtain ⟨e0, f0, e1, f1, g0, g1, g2, g3, g4, g5, hyv⟩ := (IsVs.keep (S' := Btw 0 wr.heap.size) (Btw.kept hB) (Btw.mono (Nat.le_refl _) hB.size) l b o hb hcells).cells hy
   have hc := ih y (List.mem_of_getElem? hy)
   have hyA := hyv.alloc_ (.cells #[.int .i64 y.kind, .int .i64 y.n, .float .f64 y.f, .string y.s, .slice e0 y.keys.length f0, .slice e1 y.l.length f1] 27)
   have HY := Lib.hid (And.intro hy (And.intro hall hB))
   have j0 : (0 : Int) ≤ (k : Int) := by omega
   have j1 : (k : Int) < (l.length : Int) := by omega
   have hs := hB.size
   clear hy hall hB hcells hyv
   go_wp2_with (go_at_call 93; (with_reducible refine (hc.use _ _ ?_).mono ?_))
   ·simpa using hyA
   rintro e w2 ⟨rfl, hB2'⟩
   obtain ⟨hy, hall, hB⟩ := HY.out
   have hB2 : Below w.heap.size w w2 := (hB.alloc hs (.cells #[.int .i64 y.kind, .int .i64 y.n, .float .f64 y.f, .string y.s, .slice e0 y.keys.length f0, .slice e1 y.l.length f1] 27)).trans (hB2'.mono (by simp; omega))
   clear g0 g1 g2 g3 g4 g5 hyA hc HY hB2'
   cases ho : Zje y with
   | false =>
    have hf : Zmj l = false := by
     cases h : Zmj l with
     | false => rfl
     | true => rw [ordL_iff.1 h y (List.mem_of_getElem? hy)] at ho; cases ho
    go_wp2_with fail
    go_ret
    rw [hf]
    exact ⟨rfl, hB2⟩
   | true =>
    have HF := Lib.hid (show ∀ z ∈ l.take (k + 1), Zje z = true from fun z hz => by
     rw [List.take_add_one, hy] at hz
     rcases List.mem_append.1 hz with hz | hz
     ·exact hall z hz
     ·simp at hz; subst hz; exact ho)
    clear hall hy hB
    go_wp2_with fail
    go_roundw
    case rel => exact ⟨k + 1, hlt, by go_num, hB2, HF.out⟩
    case measure => simp [intOf]; omega
  ·have hkl : k = l.length := by omega
   subst hkl
   have ht : Zmj l = true := ordL_iff.2 (by rw [List.take_length] at hall; exact hall)
   have HT := Lib.hid ht
   clear ht hall
   go_wp2_with fail
   go_ret
   rw [HT.out]
   exact ⟨rfl, hB⟩
theorem Zxk : ∀ x : GV, OrdC x
 | .mk k n f s ks l => by
  have ih : ∀ y ∈ l, OrdC y := fun y hy => Zxk y
  by_cases h2 : k = 2
  ·subst h2; exact Yos n f s ks l
  by_cases h3 : k = 3
  ·subst h3; exact Yor n f s ks l
  by_cases h5 : k = 5
  ·subst h5; exact Yf2 n f s ks l ih
  by_cases h6 : k = 6
  ·subst h6; exact Yf3 n f s ks l ih
  exact Yf4 k n f s ks l h2 h3 h5 h6
termination_by x => SizeOf.sizeOf x
decreasing_by
 have := List.sizeOf_lt_of_mem hy
 simp; omega
mutual
/-- Two trees are equal: as value.Equals has it. -/
def eqJ : JV → JV → Bool
 | .flt a, .flt b => feq a b
 | .flt a, .int n => feq a (floatOfInt .f64 n)
 | .int n, .flt b => feq (floatOfInt .f64 n) b
 | .int a, .int b => decide (a = b)
 | .str a, .str b => decide (a = b)
 | .bool a, .bool b => a == b
 | .list a, .list b => Zm5 a b
 | .map a, .map b => Nat.beq a.length b.length && Ydx a b
 | .null, .null => true
 | _, _ => false
termination_by _ k => SizeOf.sizeOf k
def Zm5 : List JV → List JV → Bool
 | [], [] => true
 | x :: r, y :: q => eqJ x y && Zm5 r q
 | _, _ => false
termination_by _ k => SizeOf.sizeOf k
def Ydx : List (ByteArray × JV) → List (ByteArray × JV) → Bool
 | _, [] => true
 | a, y :: q => (match lkJ a y.1 with | some x => eqJ x y.2 | none => false) && Ydx a q
termination_by _ k => SizeOf.sizeOf k
decreasing_by
 all_goals simp_wf
 ·obtain ⟨y1, y2⟩ := y; simp; omega
 ·omega
end
theorem Zyy : ∀ {a b : List JV}, Zm5 a b = true → a.length = b.length
 | [], [], _ => rfl
 | x :: r, y :: q, h => by
  unfold Zm5 at h
  simp only [Bool.and_eq_true] at h
  simp [Zyy h.2]
 | [], _ :: _, h => by simp [Zm5] at h
 | _ :: _, [], h => by simp [Zm5] at h
theorem Zt8 : ∀ {a b : List JV}, a.length = b.length → (∀ (i : Nat) (x y : JV), a[i]? = some x → b[i]? = some y → eqJ x y = true) → Zm5 a b = true
 | [], [], _, _ => by unfold Zm5; rfl
 | x :: r, y :: q, hl, h => by
  unfold Zm5
  rw [h 0 x y rfl rfl, Zt8 (by simpa using hl) (fun i x y hx hy => h (i + 1) x y (by simpa using hx) (by simpa using hy))]
  rfl
 | [], _ :: _, hl, _ => by simp at hl
 | _ :: _, [], hl, _ => by simp at hl
theorem Zqe : ∀ {a b : List JV} {i : Nat} {x y : JV}, a[i]? = some x → b[i]? = some y → eqJ x y = false → Zm5 a b = false
 | x' :: r, y' :: q, 0, x, y, hx, hy, h => by
  simp only [List.getElem?_cons_zero, Option.some.injEq] at hx hy
  subst hx hy
  unfold Zm5
  rw [h]; rfl
 | x' :: r, y' :: q, i + 1, x, y, hx, hy, h => by
  unfold Zm5
  rw [Zqe (by simpa using hx) (by simpa using hy) h]
  simp
 | [], _, _, _, _, hx, _, _ => by simp at hx
 | _ :: _, [], _, _, _, _, hy, _ => by simp at hy
theorem Zr0 {w : World} {F : Nat → Prop} {l : List JV} {v : Value} (h : Rep w F (Zj4 l) v) : l.length * 16 ≤ 140737488351232 := by
 unfold Zj4 Rep at h
 obtain ⟨_, _, _, h, _⟩ := h
 exact h
theorem Zfj (l : List JV) (h : l ≠ []) : Zbv Tryz.prog 320 [.dat (Zj4 l), .dat dvA] [] (.iface 421 (.ptr 0 0))
  [(0, .box 427 [.dat (Zj4 l), .ptr 1 0, .dat (.val (.int .i64 (-1)))]), (1, .box 315 [.dat (.val .nilIface)])] := by
 refine Zar Tryz.func320 rfl Tryz.ntmps320 rfl (fun X => ?_)
 have hq : decide (((l.length : Nat) : Int) = 0) = false := by
  cases l with
  | nil => exact absurd rfl h
  | cons x r => simp; omega
 repeat' (first
  | refine Zae ?_
  | (refine Zao rfl ?_; first | refine Zad rfl rfl ?_ | refine Zal rfl rfl ?_ | refine Za9 rfl rfl rfl ?_ | refine Zax rfl rfl rfl rfl ?_ | refine Zu4 rfl rfl ?_ | refine Zcx rfl rfl rfl rfl rfl ?_ | refine Zgn rfl rfl ?_ | refine Zfy rfl rfl ?_ | refine Za2 (thk [] 200) rfl rfl (by kernel_rfl) (Yh1) rfl trivial rfl (Zai rfl) rfl ?_ | refine Zc8 rfl rfl ?_ | refine Zfm rfl rfl (by kernel_rfl) ?_ | refine Zzm rfl rfl ?_)
  | refine Zac ?_
  | refine Zab ?_
  | refine Zak rfl (by first | rfl | assumption) ?_
  | refine Zas ?_
  | fail)
 refine Za3 () (thk [(0, 200), (1, 201)] 0) (tm := [(4, .iface 421 (.ptr 0 0))]) ?_ (Zbc rfl rfl)
 (refine ⟨?_, ?_, by rfl⟩ <;> repeat' (first | exact trivial | exact ALe.ptr rfl | exact ALe.own rfl | exact ALe.elt rfl | exact BLe.boxD _ _ | exact BLe.row rfl | exact BLe.res | exact BLe.dead rfl | exact ALe.dat (PLe.refl _) | exact CLe.nil | refine And.intro ?_ ?_ | refine ALe.iface ?_ | refine ALe.clo ?_ | refine CLe.cons ?_ ?_ | refine BLe.box ?_ | refine BLe.row ?_ | exact ALe.any _ | refine ALe.dat (PLe.of_eq ?_)))
theorem Zfu (l : List JV) (k : Nat) (hk : k ≤ 140737488351232) : Zbv Tryz.prog 344 [.ptr 1000 0] [(1000, .box 427 [.dat (Zj4 l), .ptr 1001 0, .dat (.val (.int .i64 ((k : Int) - 1)))]), (1001, .box 315 [.any])]
  (.dat (.val (.bool (decide ((k : Int) < (l.length : Int)))))) [(1000, .box 427 [.dat (Zj4 l), .ptr 1001 0, .dat (.val (.int .i64 (k : Int)))]), (1001, .box 315 [.any])] := by
 refine Zar Tryz.func344 rfl Tryz.ntmps344 rfl (fun X => ?_)
 repeat' (first
  | refine Zae ?_
  | (refine Zao rfl ?_; first | refine Zad rfl rfl ?_ | refine Za9 rfl rfl rfl ?_ | refine Za5 rfl rfl rfl (by first | rfl | (simp only [Zap]; rfl)) ?_ | refine Zu4 rfl rfl ?_ | refine Zcx rfl rfl rfl rfl rfl ?_ | refine Zid rfl rfl rfl rfl (by first | omega | (dsimp only; omega)) ?_ | refine Zfy rfl rfl ?_)
  | refine Zac ?_
  | refine Zab ?_
  | refine Ze6 (by kernel_rfl) ?_
  | refine Zmu (And.intro (by kernel_rfl) ?_)
  | refine Zbl (Zil rfl rfl) ?_
  | refine Zbl (Zin rfl rfl rfl) ?_
  | refine Zbl (Zm2 rfl rfl rfl (by first | rfl | (simp only [Zap]; rfl))) ?_
  | refine Zbl (Zim rfl rfl rfl rfl) ?_
  | refine Zbl (Ydp rfl rfl) ?_
  | refine Zbl (Zwp rfl rfl) ?_
  | refine Zbl (Ydm rfl rfl) ?_
  | fail)
 refine Za3 () id (tm := [(2, .dat (.val (.bool (decide ((k : Int) < (l.length : Int))))))]) ?_ (Zbc rfl rfl)
 (refine ⟨?_, ?_, by rfl⟩ <;> repeat' (first | exact trivial | exact ALe.ptr rfl | exact ALe.own rfl | exact ALe.elt rfl | exact BLe.boxD _ _ | exact BLe.row rfl | exact BLe.res | exact BLe.dead rfl | exact ALe.dat (PLe.refl _) | exact CLe.nil | refine And.intro ?_ ?_ | refine ALe.iface ?_ | refine ALe.clo ?_ | refine CLe.cons ?_ ?_ | refine BLe.box ?_ | refine BLe.row ?_ | exact ALe.any _ | refine ALe.dat (PLe.of_eq ?_)))
 all_goals (rw [show (k : Int) - 1 + 1 = k by omega])
theorem Zmd (l : List JV) (k : Nat) (j : JV) (hj : l[k]? = some j) : Zbv Tryz.prog 343 [.ptr 1000 0] [(1000, .box 427 [.dat (Zj4 l), .ptr 1001 0, .dat (.val (.int .i64 (k : Int)))]), (1001, .box 315 [.any])]
  (.tup [.dat (.val (.int .i64 (k : Int))), .iface 271 (.ptr 1001 0)]) [(1000, .box 427 [.dat (Zj4 l), .ptr 1001 0, .dat (.val (.int .i64 (k : Int)))]), (1001, .box 315 [.dat (pdJ j)])] := by
 refine Zar Tryz.func343 rfl Tryz.ntmps343 rfl (fun X => ?_)
 have hlt : k < l.length := (List.getElem?_eq_some_iff.1 hj).1
 have hq1 : decide (((k : Nat) : Int) < 0) = false := by simp
 have hq2 : decide (((l.length : Nat) : Int) ≤ (k : Int)) = false := by simp; omega
 repeat' (first
  | refine Zae ?_
  | (refine Zao rfl ?_; first | refine Zad rfl rfl ?_ | refine Za9 rfl rfl rfl ?_ | refine Za5 rfl rfl rfl (by first | rfl | (simp only [Zap]; rfl)) ?_ | refine Zax rfl rfl rfl rfl ?_ | refine Zu4 rfl rfl ?_ | refine Zfy rfl rfl ?_)
  | refine Zac ?_
  | refine Zab ?_
  | refine Zak rfl (by first | rfl | assumption) ?_
  | refine Zas ?_
  | refine Ze6 (by kernel_rfl) ?_
  | refine Zmu (And.intro (by kernel_rfl) ?_)
  | refine Zbl (Zil rfl rfl) ?_
  | refine Zbl (Zin rfl rfl rfl) ?_
  | refine Zbl (Zm2 rfl rfl rfl (by first | rfl | (simp only [Zap]; rfl))) ?_
  | refine Zbl (Zim rfl rfl rfl rfl) ?_
  | refine Zbl (Ydp rfl rfl) ?_
  | refine Zbl (Ydn rfl rfl (by first | rfl | (simp only [Zap]; rfl))) ?_
  | refine Zbl (Zwp rfl rfl) ?_
  | refine Zbl (Zm4 rfl rfl rfl rfl) ?_
  | refine Zbl (Zrv (thk [(1000, _)] 200) rfl (by kernel_rfl) ((Zix .any _)) rfl rfl rfl rfl rfl) ?_
  | refine Zbl (Zt3 rfl rfl) ?_
  | refine Zbl (Ydm rfl rfl) ?_
  | refine Zbl (Zyo rfl rfl rfl (by assumption)) ?_
  | fail)
 refine Za3 () id (tm := [(2, .dat (.val (.int .i64 (k : Int)))), (3, .iface 271 (.ptr 1001 0))]) ?_ ?_
 rotate_left
 ·show Yox _ _ (Ye9 [.dat (.val (.int .i64 (k : Int))), .iface 271 (.ptr 1001 0)]) _
  exact Ygg rfl rfl rfl
 (refine ⟨?_, ?_, by rfl⟩ <;> repeat' (first | exact trivial | exact ALe.ptr rfl | exact ALe.own rfl | exact ALe.elt rfl | exact BLe.boxD _ _ | exact BLe.row rfl | exact BLe.res | exact BLe.dead rfl | exact ALe.dat (PLe.refl _) | exact CLe.nil | refine And.intro ?_ ?_ | refine ALe.iface ?_ | refine ALe.clo ?_ | refine CLe.cons ?_ ?_ | refine BLe.box ?_ | refine BLe.row ?_ | exact ALe.any _ | refine ALe.dat (PLe.of_eq ?_)))
def Zbw (a b : Int) : Int := if a < b then -1 else if b < a then 1 else 0
def Zdb (a b : ByteArray) : Int := if blt a b then -1 else if blt b a then 1 else 0
theorem Ycy : ∀ (x y : List UInt8) (n : Nat) (p q : UInt8), x.take n = y.take n → x[n]? = some p → y[n]? = some q → p ≠ q → Op.bytesLess x y = decide (p < q)
 | [], _, n, p, q, _, h, _, _ => by simp at h
 | _ :: _, [], n, p, q, _, _, h, _ => by simp at h
 | a :: x, b :: y, 0, p, q, _, h1, h2, hne => by
  simp at h1 h2
  subst h1 h2
  have : (a == b) = false := by simp [hne]
  simp [Op.bytesLess, this]
 | a :: x, b :: y, n + 1, p, q, h, h1, h2, hne => by
  simp only [List.take_succ_cons, List.cons.injEq] at h
  obtain ⟨rfl, h⟩ := h
  have := Ycy x y n p q h (by simpa using h1) (by simpa using h2) hne
  simp [Op.bytesLess, this, UInt8.lt_irrefl]
theorem Ycx : ∀ (x y : List UInt8) (n : Nat), x.take n = y.take n → n = min x.length y.length → Op.bytesLess x y = decide (x.length < y.length)
 | [], [], n, _, _ => by simp [Op.bytesLess]
 | [], _ :: _, n, _, _ => by simp [Op.bytesLess]
 | _ :: _, [], n, _, _ => by simp [Op.bytesLess]
 | a :: x, b :: y, n, h, hn => by
  obtain ⟨n, rfl⟩ : ∃ k, n = k + 1 := ⟨n - 1, by simp at hn; omega⟩
  simp only [List.take_succ_cons, List.cons.injEq] at h
  obtain ⟨rfl, h⟩ := h
  have := Ycx x y n h (by simp at hn; omega)
  simp [Op.bytesLess, this, UInt8.lt_irrefl]
theorem Zht (a : ByteArray) : a.toList.length = a.size := by rw [ByteArray.toList_eq]; rfl
theorem Zlk (a : ByteArray) (k : Nat) (h : k < a.size) : a.toList[k]? = some a[k] := by
 rw [ByteArray.toList_eq]
 rw [List.getElem?_eq_getElem (by exact h)]
 rfl
theorem Yic {a b : ByteArray} {k : Nat} (h : a.toList.take k = b.toList.take k) (h1 : k < a.size) (h2 : k < b.size) (hne : a[k] ≠ b[k]) : Zdb a b = Zbw (a[k].toNat : Int) (b[k].toNat : Int) := by
 have e1 := Ycy _ _ k _ _ h (Zlk a k h1) (Zlk b k h2) hne
 have e2 := Ycy _ _ k _ _ h.symm (Zlk b k h2) (Zlk a k h1) (Ne.symm hne)
 unfold Zdb Zbw blt
 rw [e1, e2]
 simp only [decide_eq_true_eq, UInt8.lt_iff_toNat_lt, Int.ofNat_lt]
theorem Zyj {a b : ByteArray} {k : Nat} (h : a.toList.take k = b.toList.take k) (hk : k = min a.size b.size) : Zdb a b = Zbw (a.size : Int) (b.size : Int) := by
 have e1 := Ycx _ _ k h (by rw [Zht, Zht]; exact hk)
 have e2 := Ycx _ _ k h.symm (by rw [Zht, Zht]; omega)
 rw [Zht, Zht] at e1 e2
 unfold Zdb Zbw blt
 rw [e1, e2]
 simp only [decide_eq_true_eq, Int.ofNat_lt]
theorem Zrg {q : Nat} (h : q < 9223372036854775808) : IntKind.i64.wrap (q : Int) = q := by
 simp [IntKind.wrap, IntKind.bits, IntKind.signed]; omega
theorem Zge (a b : Int) (w : World) : Calls Tryz.prog 202 #[.int .i64 a, .int .i64 b] w fun e w' => e = .returned (.int .i64 (Zbw a b)) ∧ w' = w := by
 by_cases h1 : a < b
 ·have hc : Zbw a b = -1 := by simp [Zbw, h1]
  rw [hc]
  go_enter Tryz.func202, Tryz.ntmps202
  go_wp2_with fail
  go_ret
  exact ⟨rfl, rfl⟩
 by_cases h2 : b < a
 ·have hc : Zbw a b = 1 := by simp [Zbw, h1, h2]
  rw [hc]
  go_enter Tryz.func202, Tryz.ntmps202
  go_wp2_with fail
  go_ret
  exact ⟨rfl, rfl⟩
 ·have hc : Zbw a b = 0 := by simp [Zbw, h1, h2]
  rw [hc]
  go_enter Tryz.func202, Tryz.ntmps202
  go_wp2_with fail
  go_ret
  exact ⟨rfl, rfl⟩
theorem Zj5 (a b : ByteArray) (w : World) (ha : a.size ≤ maxLen) (_hb : b.size ≤ maxLen) : Calls Tryz.prog 157 #[.string a, .string b] w fun e w' => e = .returned (.int .i64 (Zdb a b)) ∧ Below w.heap.size w w' := by
 unfold maxLen at ha
 go_enter Tryz.func157, Tryz.ntmps157
 go_wp2_with fail
 go_loopw [5] (fun i wr => ∃ k : Nat, k ≤ a.size ∧ k ≤ b.size ∧ i = .int .i64 (k : Nat) ∧ Below w.heap.size w wr ∧ a.toList.take k = b.toList.take k) (fun i _ => a.size - (intOf i).toNat)
 case atStart => exact ⟨0, Nat.zero_le _, Nat.zero_le _, rfl, Below.refl _ _, by simp⟩
 case round =>
  obtain ⟨k, hka, hkb, rfl, hB, hpre⟩ := hrel
  by_cases h1 : k < a.size
  ·by_cases h2 : k < b.size
   ·have j0 : (0 : Int) ≤ (k : Int) := by omega
    have j1 : (k : Int) < (a.size : Int) := by omega
    have j2 : (k : Int) < (b.size : Int) := by omega
    have l1 : a[k].toNat < 256 := a[k].toNat_lt
    have l2 : b[k].toNat < 256 := b[k].toNat_lt
    have HP := Lib.hid hpre
    clear hpre
    by_cases hxy : a[k] = b[k]
    ·have e7 : ((a[k].toNat : Int) != (b[k].toNat : Int)) = false := by rw [hxy]; simp
     have HXY := Lib.hid hxy
     clear hxy
     go_wp2_with fail
     go_quiet (fail)
     go_wp2_with fail
     have hwk : wrap64 ((k : Int) + 1) = ((k + 1 : Nat) : Int) := by unfold wrap64; omega
     try rw [hwk]
     refine ⟨⟨k + 1, h1, h2, rfl, hB.trans ⟨rfl, rfl, rfl, Nat.le_refl _, fun _ _ => rfl⟩, ?_⟩, by simp only [intOf]; omega⟩
     rw [List.take_add_one, List.take_add_one, HP.out, Zlk a k h1, Zlk b k h2, HXY.out]
    ·have e7 : ((a[k].toNat : Int) != (b[k].toNat : Int)) = true := by
      have : a[k].toNat ≠ b[k].toNat := fun e => hxy (UInt8.toNat_inj.1 e)
      simp; omega
     have HXY := Lib.hid hxy
     clear hxy
     go_wp2_with fail
     go_quiet (fail)
     go_wp2_with fail
     refine Zxv (fun _ => True) [0, 1, 2, 3, 4, 5, 6, 7, 9] (by kernel_rfl) ?_ (fun hHeld => ?_)
     ·trivial
     refine Zf9 (i := 0) (v := ?_) rfl (by kernel_rfl) (by kernel_rfl) (by kernel_rfl) (by kernel_rfl) (.inl ⟨by rfl, ?_⟩) hHeld ?_
     rotate_left
     ·(intro w hSw; (try dsimp only at hSw); go_split_ands; go_simp; (try with_reducible rfl))
     try simp only [Act.put, List.setIfInBounds_toArray, List.set_cons_zero, List.set_cons_succ]
     refine Zf9 (i := 1) (v := ?_) rfl (by kernel_rfl) (by kernel_rfl) (by kernel_rfl) (by kernel_rfl) (.inl ⟨by rfl, ?_⟩) hHeld ?_
     rotate_left
     ·(intro w hSw; (try dsimp only at hSw); go_split_ands; go_simp; (try with_reducible rfl))
     try simp only [Act.put, List.setIfInBounds_toArray, List.set_cons_zero, List.set_cons_succ]
     refine Zf9 (i := 2) (v := ?_) rfl (by kernel_rfl) (by kernel_rfl) (by kernel_rfl) (by kernel_rfl) (.inl ⟨by rfl, ?_⟩) hHeld ?_
     rotate_left
     ·(intro w hSw; (try dsimp only at hSw); go_split_ands; go_simp; (try with_reducible rfl))
     try simp only [Act.put, List.setIfInBounds_toArray, List.set_cons_zero, List.set_cons_succ]
     refine Zf9 (i := 3) (v := ?_) rfl (by kernel_rfl) (by kernel_rfl) (by kernel_rfl) (by kernel_rfl) (.inl ⟨by rfl, ?_⟩) hHeld ?_
     rotate_left
     ·(intro w hSw; (try dsimp only at hSw); go_split_ands; go_simp; (try with_reducible rfl))
     try simp only [Act.put, List.setIfInBounds_toArray, List.set_cons_zero, List.set_cons_succ]
     refine Zf9 (i := 4) (v := ?_) rfl (by kernel_rfl) (by kernel_rfl) (by kernel_rfl) (by kernel_rfl) (.inl ⟨by rfl, ?_⟩) hHeld ?_
     rotate_left
     ·(intro w hSw; (try dsimp only at hSw); go_split_ands; go_simp; (try with_reducible rfl))
     try simp only [Act.put, List.setIfInBounds_toArray, List.set_cons_zero, List.set_cons_succ]
     refine Zf9 (i := 5) (v := ?_) rfl (by kernel_rfl) (by kernel_rfl) (by kernel_rfl) (by kernel_rfl) (.inl ⟨by rfl, ?_⟩) hHeld ?_
     rotate_left
     ·(intro w hSw; (try dsimp only at hSw); go_split_ands; go_simp; (try with_reducible rfl))
     try simp only [Act.put, List.setIfInBounds_toArray, List.set_cons_zero, List.set_cons_succ]
     refine Zf9 (i := 6) (v := ?_) rfl (by kernel_rfl) (by kernel_rfl) (by kernel_rfl) (by kernel_rfl) (.inl ⟨by rfl, ?_⟩) hHeld ?_
     rotate_left
     ·(intro w hSw; (try dsimp only at hSw); go_split_ands; go_simp; (try with_reducible rfl))
     try simp only [Act.put, List.setIfInBounds_toArray, List.set_cons_zero, List.set_cons_succ]
     refine Zf9 (i := 7) (v := ?_) rfl (by kernel_rfl) (by kernel_rfl) (by kernel_rfl) (by kernel_rfl) (.inl ⟨by rfl, ?_⟩) hHeld ?_
     rotate_left
     ·(intro w hSw; (try dsimp only at hSw); go_split_ands; go_simp; (try with_reducible rfl))
     try simp only [Act.put, List.setIfInBounds_toArray, List.set_cons_zero, List.set_cons_succ]
     refine Ypp (i := 8) (by kernel_rfl) rfl (fun K hK => ?_)
     go_simp
     refine (Zge _ _ _).mono ?_
     rintro e w2 ⟨rfl, rfl⟩
     refine hK.out _ _ ?_ (fun hHeld => ?_)
     ·trivial
     clear hK K
     try simp only [Act.put, List.setIfInBounds_toArray, List.set_cons_zero, List.set_cons_succ]
     refine Zf9 (i := 9) (v := ?_) rfl (by kernel_rfl) (by kernel_rfl) (by kernel_rfl) (by kernel_rfl) (.inl ⟨by rfl, ?_⟩) hHeld ?_
     rotate_left
     ·(intro w hSw; (try dsimp only at hSw); go_split_ands; go_simp; (try with_reducible rfl))
     try simp only [Act.put, List.setIfInBounds_toArray, List.set_cons_zero, List.set_cons_succ]
     refine Yk1 (by kernel_rfl) ?_ _
     simp only [List.getElem_toArray, List.getElem_cons_succ, List.getElem_cons_zero, List.set_cons_succ, List.set_cons_zero]
     go_wp2_with fail
     go_ret
     rw [Yic HP.out h1 h2 HXY.out]
     have wa := Zrg (q := a[k].toNat) (by omega)
     have wb := Zrg (q := b[k].toNat) (by omega)
     simp only [wa, wb]
     exact ⟨rfl, hB.trans ⟨rfl, rfl, rfl, Nat.le_refl _, fun _ _ => rfl⟩⟩
   ·have hend := Zyj hpre (by omega)
    have HE := Lib.hid hend
    have n2 : ¬ ((k : Int) < (b.size : Int)) := by omega
    have n1 : (k : Int) < (a.size : Int) := by omega
    clear hpre hend
    go_wp2_with (go_at_call 202; refine (Zge _ _ _).mono ?_)
    go_ret
    rw [HE.out]
    exact ⟨rfl, hB⟩
  ·have hend := Zyj hpre (by omega)
   have HE := Lib.hid hend
   have n1 : ¬ ((k : Int) < (a.size : Int)) := by omega
   clear hpre hend
   go_wp2_with (go_at_call 202; refine (Zge _ _ _).mono ?_)
   go_ret
   rw [HE.out]
   exact ⟨rfl, hB⟩
def Ymi (a b : Nat) : Int := if FloatKind.f64.format.order a b == some .gt then 1 else if FloatKind.f64.format.order a b == some .lt then -1 else 0
def Yqf (a b : Bool) : Int := if a == b then 0 else if !a then -1 else 1
theorem Zik : ∀ (x y : List UInt8), Lib.compareBytes x y = if Op.bytesLess x y then -1 else if Op.bytesLess y x then 1 else 0
 | [], [] => rfl
 | [], _ :: _ => rfl
 | _ :: _, [] => rfl
 | a :: x, b :: y => by
  unfold Lib.compareBytes
  rw [Zik x y]
  simp only [Op.bytesLess]
  by_cases h : a < b
  ·simp [h]
  ·rw [if_neg h]
   by_cases h' : b < a
   ·have hne : (a == b) = false := by
     simp only [beq_eq_false_iff_ne]
     intro e; subst e; exact absurd h' (UInt8.lt_irrefl _)
    have hne' : (b == a) = false := by
     simp only [beq_eq_false_iff_ne]
     intro e; subst e; exact absurd h' (UInt8.lt_irrefl _)
    simp [h, h', hne]
   ·have e : a = b := by
     rw [UInt8.lt_iff_toNat_lt] at h h'
     exact UInt8.toNat_inj.1 (by omega)
    subst e
    simp [UInt8.lt_irrefl]
theorem Ya7 (a b : ByteArray) : Lib.compareBytes a.data.toList b.data.toList = Zdb a b := by
 rw [Zik]
 unfold Zdb blt
 rw [ByteArray.toList_eq, ByteArray.toList_eq]
theorem Ymm (a b : ByteArray) : (Lit.int .i64 (Zdb a b)).wf = true := by
 unfold Zdb
 split
 ·rfl
 ·split <;> rfl
class Zv9 (P : Program) (f : Nat) : Prop where
 out : ∀ (a b : ByteArray) (w : World), (callFunc f #[.string a, .string b]).run P w = .ok (.value (.int .i64 (Zdb a b))) w
instance : Zv9 Tryz.prog 247 := ⟨fun a b w => by
 rw [run_callFunc_extern (fn := Tryz.f247) (e := Extern.BytealgCompare.compare) Tryz.func247 (by kernel_rfl) (by kernel_rfl) (by kernel_rfl) (by kernel_rfl)]
 simp only [Lib.run_compareString, Result.andThen_ok, Ya7]⟩
section
variable {P : Program} {X : Base} {N : Nat} {Q : Exit → Act → World → Prop} {ops : Array Oper} {rem : List Nat} {ks : List Itm} {s s' : Sta}
theorem Yfk {o : Oper} (hd : Za7 X.N o.dst = true) {f : FuncId} {x y : Operand} {ts : Array TypeId} (ho : o.op = .call { callee := .value (.func f), args := #[x, y], argTypes := ts }) (hf : Zv9 P f) {a b : ByteArray} (hx : s.ev x = .dat (.val (.string a))) (hy : s.ev y = .dat (.val (.string b))) :
  OpS P X o s (s.put o.dst (.dat (.val (.int .i64 (Zdb a b))))) := by
 refine Zat hd fun a' w ρ hc => ⟨.int .i64 (Zdb a b), ?_, by unfold VR Rep; exact ⟨rfl, Ymm a b⟩⟩
 have h1 := hc.ev x
 rw [hx] at h1
 have h2 := hc.ev y
 rw [hy] at h2
 unfold VR Rep at h1 h2
 have hrun := hf.out a b w
 rw [← h1.1, ← h2.1] at hrun
 have ef : a'.eval (.func f) = .func (.func f) #[] #[] := rfl
 simp [execOp, ho, resolve, Deferred.ofValue, ef, invoke, Result.andThen, hrun]
theorem Yi9 {d f : Nat} {x y : Operand} {ts : Array TypeId} {a b : ByteArray} (hN : Nat.blt d N = true) [hf : Zv9 P f] (hx : s.ev x = .dat (.val (.string a))) (hy : s.ev y = .dat (.val (.string b))) (h : Run P X N Q (.ops ops rem :: ks) (s.put (some d) (.dat (.val (.int .i64 (Zdb a b)))))) :
  Zbp P X N Q ops rem ks (some d) (.call { callee := .value (.func f), args := #[x, y], argTypes := ts }) s := Zdx hN (fun _ _ _ hd => Yfk hd rfl hf hx hy) h
end
theorem Yc2 (a b : ByteArray) : PCall Tryz.prog 236 [.val (.string a), .val (.string b)] (.val (.int .i64 (Zdb a b))) := by
 refine Zaa Tryz.func236 rfl Tryz.ntmps236 rfl (fun X => ?_)
 repeat' (first
  | refine Zae ?_
  | (refine Zao rfl ?_; first | refine Yi9 rfl rfl rfl ?_ | refine Zad rfl rfl ?_ | refine Zal rfl rfl ?_)
  | refine Zac ?_
  | refine Zab ?_
  | refine Zag (Zaj rfl rfl ?_)
  | fail)
 all_goals exact PLe.refl _
theorem Zd8 (a b : ByteArray) : PCall Tryz.prog 211 [.val (.string a), .val (.string b)] (.val (.int .i64 (Zdb a b))) := by
 have c := Yc2 a b
 refine Zaa Tryz.func211 rfl Tryz.ntmps211 rfl (fun X => ?_)
 repeat' (first
  | refine Zae ?_
  | (refine Zao rfl ?_; first | refine Zad rfl rfl ?_ | refine Zal rfl rfl ?_ | refine Zgo rfl (by kernel_rfl) rfl (by first | exact c) ?_)
  | refine Zac ?_
  | refine Zab ?_
  | refine Zag (Zaj rfl rfl ?_)
  | fail)
 all_goals exact PLe.refl _
theorem Zev (a b : Nat) : PCall Tryz.prog 248 [.val (.float .f64 a), .val (.float .f64 b)] (.val (.int .i64 (Ymi a b))) := by
 refine Zaa Tryz.func248 rfl Tryz.ntmps248 rfl (fun X => ?_)
 unfold Ymi
 cases h1 : (FloatKind.f64.format.order a b == some .gt) <;> cases h2 : (FloatKind.f64.format.order a b == some .lt)
 all_goals
  repeat' (first
  | refine Zae ?_
  | (refine Zao rfl ?_; first | refine Zad rfl rfl ?_ | refine Zal rfl rfl ?_ | refine Zzj rfl rfl rfl rfl ?_)
  | refine Zac ?_
  | refine Zab ?_
  | refine Zam rfl (by first | rfl | assumption) ?_
  | refine Zak rfl (by first | rfl | assumption) ?_
  | refine Zas ?_
  | refine Zag (Zaj rfl rfl ?_)
  | fail)
 all_goals exact PLe.refl _
theorem Ze2 (a b : Int) : PCall Tryz.prog 249 [.val (.int .i64 a), .val (.int .i64 b)] (.val (.int .i64 (Zbw a b))) := by
 refine Zaa Tryz.func249 rfl Tryz.ntmps249 rfl (fun X => ?_)
 unfold Zbw
 by_cases h1 : b < a
 ·have q1 : decide (b < a) = true := by simpa using h1
  rw [if_neg (by omega), if_pos h1]
  repeat' (first
  | refine Zae ?_
  | (refine Zao rfl ?_; first | refine Zad rfl rfl ?_ | refine Zal rfl rfl ?_ | refine Zax rfl rfl rfl rfl ?_)
  | refine Zac ?_
  | refine Zab ?_
  | refine Zam rfl (by first | rfl | assumption) ?_
  | refine Zag (Zaj rfl rfl ?_)
  | fail)
  all_goals exact PLe.refl _
 ·have q1 : decide (b < a) = false := by simpa using h1
  by_cases h2 : a < b
  ·have q2 : decide (a < b) = true := by simpa using h2
   rw [if_pos h2]
   repeat' (first
  | refine Zae ?_
  | (refine Zao rfl ?_; first | refine Zad rfl rfl ?_ | refine Zal rfl rfl ?_ | refine Zax rfl rfl rfl rfl ?_)
  | refine Zac ?_
  | refine Zab ?_
  | refine Zam rfl (by first | rfl | assumption) ?_
  | refine Zak rfl (by first | rfl | assumption) ?_
  | refine Zag (Zaj rfl rfl ?_)
  | fail)
   all_goals exact PLe.refl _
  ·have q2 : decide (a < b) = false := by simpa using h2
   rw [if_neg h2, if_neg h1]
   repeat' (first
  | refine Zae ?_
  | (refine Zao rfl ?_; first | refine Zad rfl rfl ?_ | refine Zal rfl rfl ?_ | refine Zax rfl rfl rfl rfl ?_)
  | refine Zac ?_
  | refine Zab ?_
  | refine Zak rfl (by first | rfl | assumption) ?_
  | refine Zas ?_
  | refine Zag (Zaj rfl rfl ?_)
  | fail)
   all_goals exact PLe.refl _
theorem Zdt (a b : Bool) : PCall Tryz.prog 250 [.val (.bool a), .val (.bool b)] (.val (.int .i64 (Yqf a b))) := by
 refine Zaa Tryz.func250 rfl Tryz.ntmps250 rfl (fun X => ?_)
 cases a <;> cases b
 all_goals
  repeat' (first
  | refine Zae ?_
  | (refine Zao rfl ?_; first | refine Zad rfl rfl ?_ | refine Zal rfl rfl ?_ | refine Zom rfl rfl rfl (by kernel_rfl) rfl ?_ | refine Zdc rfl rfl ?_)
  | refine Zac ?_
  | refine Zab ?_
  | refine Zam rfl (by first | rfl | assumption) ?_
  | refine Zak rfl (by first | rfl | assumption) ?_
  | refine Zas ?_
  | refine Zag (Zaj rfl rfl ?_)
  | fail)
 all_goals exact PLe.refl _
def Zgh (f : JV → JV → Int) : List JV → List JV → Int
 | [], [] => 0
 | [], _ :: _ => -1
 | _ :: _, [] => 1
 | x :: r, y :: q => if f x y = 0 then Zgh f r q else f x y
theorem Zyh {f : JV → JV → Int} : ∀ {a b : List JV} {i : Nat} {x y : JV}, (∀ j u v, j < i → a[j]? = some u → b[j]? = some v → f u v = 0) → a[i]? = some x → b[i]? = some y → f x y ≠ 0 → Zgh f a b = f x y
 | x' :: r, y' :: q, 0, x, y, _, hx, hy, h => by
  simp only [List.getElem?_cons_zero, Option.some.injEq] at hx hy
  subst hx hy
  simp only [Zgh, if_neg h]
 | x' :: r, y' :: q, i + 1, x, y, hall, hx, hy, h => by
  simp only [Zgh]
  rw [if_pos (hall 0 x' y' (by omega) rfl rfl)]
  exact Zyh (i := i) (fun j u v hj hu hv => hall (j + 1) u v (by omega) (by simpa using hu) (by simpa using hv)) (by simpa using hx) (by simpa using hy) h
 | [], _, _, _, _, _, hx, _, _ => by simp at hx
 | _ :: _, [], _, _, _, _, _, hy, _ => by simp at hy
theorem Ztu {f : JV → JV → Int} : ∀ {a b : List JV}, (∀ (j : Nat) (u v : JV), a[j]? = some u → b[j]? = some v → f u v = 0) → Zgh f a b = if a.length < b.length then -1 else if b.length < a.length then 1 else 0
 | [], [], _ => rfl
 | [], _ :: _, _ => by simp [Zgh]
 | _ :: _, [], _ => by simp [Zgh]
 | x :: r, y :: q, h => by
  simp only [Zgh]
  rw [if_pos (h 0 x y rfl rfl), Ztu (fun j u v hu hv => h (j + 1) u v (by simpa using hu) (by simpa using hv))]
  simp
end Go.Proofs.YtgmahieoiifpfaaGreat
