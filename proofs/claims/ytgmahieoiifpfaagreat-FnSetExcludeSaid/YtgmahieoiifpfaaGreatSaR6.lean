/- Part 6 of what the proof rests on. -/
import Derived.Maps.AppendAt
import Derived.Deep.AppendLies
import Derived.Deep.Draws
import Derived.RegionTactic
import Derived.Deep.RegionWith
import Derived.Deep.QuietTactic
import Derived.BigQuiet
import Derived.Lib.Bytealg
import Derived.Test.YtgmahieoiifpfaaGreatSaR1
import Derived.Test.YtgmahieoiifpfaaGreatSaR4
import Derived.Test.YtgmahieoiifpfaaGreatSaR5
set_option linter.unusedSimpArgs false
set_option linter.unusedVariables false
set_option maxHeartbeats 8000000
set_option maxRecDepth 100000
namespace Go.Proofs.YtgmahieoiifpfaaGreat
open Go.RowKit
section
variable {P : Program} {X : Base} {N : Nat} {ops r : List Oper} {s s1 : Sta} {K : List Eff → Sta → Prop}
structure TrX (P : Program) (X : Base) (N : Nat) (ops : List Oper) (d : Option Tmp) (op : Op) (r : List Oper) (s : Sta) (K : List Eff → Sta → Prop) : Prop where
 out : ∃ e s1, TrK P X N ops d op e s s1 ∧ TrC P X N ops r s1 (fun es s' => K (e :: es) s')
theorem Zcg {d : Option Tmp} {op : Op} {e : Eff} (hk : TrK P X N ops d op e s s1) (h : TrC P X N ops r s1 (fun es s' => K (e :: es) s')) : TrX P X N ops d op r s K := ⟨e, s1, hk, h⟩
theorem Ysk {d : Option Tmp} {op : Op} {ty : TypeId} {pos : String} {aft : Array Edge} (h : TrX P X N ops d op r s K) : TrC P X N ops (⟨d, op, ty, pos, aft, none⟩ :: r) s K := by
 obtain ⟨e, s1, h1, h2⟩ := h.out
 exact Zbl h1 h2
theorem Yph {d : Option Tmp} {op : Op} {ty : TypeId} {pos : String} {aft : Array Edge} {g : Nat} {want b : Bool} (hb : gA ops s g = .dat (.val (.bool b))) (hw : b = want) (h : TrX P X N ops d op r s K) : TrC P X N ops (⟨d, op, ty, pos, aft, some (g, want)⟩ :: r) s K := by
 obtain ⟨e, s1, h1, h2⟩ := h.out
 exact Ze9 hb hw h1 h2
theorem Yh2 {d : Nat} {x : Operand} {lo hi : Option Operand} {t e n y y' : Nat} {l : List PD} {a b : Int} (hN : Nat.blt d N = true) (hx : s.ev x = .dat (.sl n y l)) [ht : SI P t e n y'] (hlo : Zvw s lo 0 = some a) (hhi : Zvw s hi l.length = some b) (h0 : 0 ≤ a) (hab : a ≤ b) (hbl : b ≤ l.length) : TrK P X N ops (some d) (.slice t x lo hi none) (Eff.put (some d) (.dat (.sl n y ((l.take b.toNat).drop a.toNat)))) s (s.put (some d) (.dat (.sl n y ((l.take b.toNat).drop a.toNat)))) := by
 obtain ⟨a, rfl⟩ := Int.eq_ofNat_of_zero_le h0
 obtain ⟨b, rfl⟩ := Int.eq_ofNat_of_zero_le (by omega : 0 ≤ b)
 exact Zyb hN hx hlo hhi (by omega) (by omega)
structure Box (G : Prop) : Prop where
 out : G
structure Zif : Prop where
 out : True
end
section
variable {P : Program} {X : Base} {N : Nat} {Q : Exit → Act → World → Prop} {ops : Array Oper} {rem : List Nat} {ks : List Itm} {opl : List Oper} {s s' : Sta} {t k off T : Nat} {x y : Operand} {cs cs' : List AV} {g : Bool} {v : AV}
theorem Yfe {o : Oper} (hd : Za8 X.N o.dst = true) {x y : Operand} {ts : Array TypeId} (ho : o.op = .call { callee := .builtin .min, args := #[x, y], argTypes := ts }) {p q : Nat} (hx : s.ev x = .dat (.val (.int .i64 ((p : Nat) : Int)))) (hy : s.ev y = .dat (.val (.int .i64 ((q : Nat) : Int)))) :
  OpS P X o s (s.put o.dst (.dat (.val (.int .i64 ((min p q : Nat) : Int))))) := by
 refine Zas hd fun a w ρ hc => ⟨.int .i64 ((min p q : Nat) : Int), ?_, ?_⟩
 ·have h1 := hc.ev x
  have h2 := hc.ev y
  rw [hx] at h1
  rw [hy] at h2
  unfold VR Rep at h1 h2
  have e : (if (q : Int) < (p : Int) then (q : Int) else (p : Int)) = ((min p q : Nat) : Int) := by split <;> omega
  simp only [execOp, ho, resolve, invoke, builtin, h1.1, h2.1, List.map_toArray, List.map_cons, List.map_nil, Sem.run_bind, Sem.run_pure, Result.andThen_ok, run_min_int2, e]
 ·unfold VR Rep
  refine ⟨rfl, ?_⟩
  have h1 := hc.ev x
  have h2 := hc.ev y
  rw [hx] at h1
  rw [hy] at h2
  unfold VR Rep at h1 h2
  have : min p q = p ∨ min p q = q := by omega
  rcases this with h | h <;> rw [h]
  ·exact h1.2
  ·exact h2.2
theorem Yrb {d p q : Nat} {x y : Operand} {ts : Array TypeId} (hN : Nat.blt d N = true) (hx : s.ev x = .dat (.val (.int .i64 ((p : Nat) : Int)))) (hy : s.ev y = .dat (.val (.int .i64 ((q : Nat) : Int)))) (h : Run P X N Q (.ops ops rem :: ks) (s.put (some d) (.dat (.val (.int .i64 ((min p q : Nat) : Int)))))) :
  Zbp P X N Q ops rem ks (some d) (.call { callee := .builtin .min, args := #[x, y], argTypes := ts }) s := Zd7 hN (fun _ _ _ hd => Yfe hd rfl hx hy) h
theorem Yqe {ops : List Oper} {d p q : Nat} {x y : Operand} {ts : Array TypeId} (hN : Nat.blt d N = true) (hx : s.ev x = .dat (.val (.int .i64 ((p : Nat) : Int)))) (hy : s.ev y = .dat (.val (.int .i64 ((q : Nat) : Int)))) :
  TrK P X N ops (some d) (.call { callee := .builtin .min, args := #[x, y], argTypes := ts }) (Eff.put (some d) (.dat (.val (.int .i64 ((min p q : Nat) : Int))))) s (s.put (some d) (.dat (.val (.int .i64 ((min p q : Nat) : Int))))) := Zbh hN fun s' _ _ _ _ hd hev htb => Yfe hd rfl ((hev x (by simp [Op.operands, Call.operands])).trans hx) ((hev y (by simp [Op.operands, Call.operands])).trans hy)
theorem Zxb {α : Type} : ∀ (cs : List α) (off : Nat) (v : α), off + 1 ≤ cs.length → cs.take off ++ [v] ++ cs.drop (off + 1) = cs.set off v
 | [], _, _, h => by simp at h
 | a :: r, 0, v, h => by simp
 | a :: r, o + 1, v, h => by
  have := Zxb r o v (by simpa using h)
  simpa using this
theorem Zy8 (hx : s.ev x = .ptr k off) (hk : s.tb k = some (.box T cs)) [ht : VI P t 1 g] (hy : s.ev y = v) (hv : Zc6 v = some [v]) (hle : Nat.ble (off + 1) cs.length = true) (hc : cs.set off v = cs')
  (h : Run P X N Q (.ops ops rem :: ks) (s.set k (.box T cs'))) : Zbp P X N Q ops rem ks none (.store t x y) s := by
 subst hc
 rw [← Zxb cs off v (Nat.le_of_ble_eq_true hle)] at h
 exact Zcy (ys := [v]) hx hk (by rw [hy]; exact hv) rfl hle h
theorem Yh3 (hx : s.ev x = .ptr k off) (hk : s.tb k = some (.box T cs)) [ht : VI P t 1 g] (hy : s.ev y = v) (hv : Zc6 v = some [v]) (hle : Nat.ble (off + 1) cs.length = true) (hc : cs.set off v = cs') :
  TrK P X N opl none (.store t x y) (Eff.set k (.box T cs')) s (s.set k (.box T cs')) := by
 subst hc
 rw [← Zxb cs off v (Nat.le_of_ble_eq_true hle)]
 exact Zyd (ys := [v]) hx hk (by rw [hy]; exact hv) rfl hle
theorem Yi5 {k' : Nat} (hx : s.ev x = .ptr k off) (hk : s.tb k = some (.box T cs)) [ht : VI P t 1 g] (hy : s.ev y = .own k') (hle : Nat.ble (off + 1) cs.length = true) (hc : cs.set off (.own k') = cs') (h : Run P X N Q (.ops ops rem :: ks) (s.set k (.box T cs'))) : Zbp P X N Q ops rem ks none (.store t x y) s := Zy8 hx hk hy rfl hle hc h
theorem Yh4 {k' : Nat} (hx : s.ev x = .ptr k off) (hk : s.tb k = some (.box T cs)) [ht : VI P t 1 g] (hy : s.ev y = .own k') (hle : Nat.ble (off + 1) cs.length = true) (hc : cs.set off (.own k') = cs') : TrK P X N opl none (.store t x y) (Eff.set k (.box T cs')) s (s.set k (.box T cs')) := Yh3 hx hk hy rfl hle hc
theorem Yi4 {d : PD} (hx : s.ev x = .ptr k off) (hk : s.tb k = some (.box T cs)) [ht : VI P t 1 g] (hy : s.ev y = .dat d) (hv : Zc6 (.dat d) = some [.dat d]) (hle : Nat.ble (off + 1) cs.length = true) (hc : cs.set off (.dat d) = cs') (h : Run P X N Q (.ops ops rem :: ks) (s.set k (.box T cs'))) : Zbp P X N Q ops rem ks none (.store t x y) s := Zy8 hx hk hy hv hle hc h
/-- Walks on as far as the rules go. -/
theorem wk {G p : Prop} (g : G) (h : Box G → p := by
 intro g
 repeat
  (first
   | (show Zbp _ _ _ _ _ _ _ _ _ _; first
    | (show Zbp _ _ _ _ _ _ _ _ (.move _) _; first 
     | refine Zak rfl rfl ?_
     | refine Zft rfl rfl ?_
     | refine Ynu rfl rfl ?_
     | refine k_moveG rfl rfl ?_
     | refine Zdw rfl rfl ?_
     | refine Zht rfl rfl ?_
     | refine Zop rfl rfl ?_
     | refine Ynt rfl rfl ?_
     | fail)
    | (show Zbp _ _ _ _ _ _ _ _ (.assign _) _; first 
     | refine Zad rfl rfl ?_
     | refine Zgf rfl rfl ?_
     | refine Yee rfl rfl ?_
     | refine k_assignG rfl rfl ?_
     | refine Zc9 rfl rfl ?_
     | refine Yed rfl rfl ?_
     | fail)
    | (show Zbp _ _ _ _ _ _ _ _ (.fieldAddr _ _ _) _; first 
     | refine Zbo rfl rfl rfl ?_
     | refine Zus rfl rfl rfl rfl rfl ?_
     | refine Yix rfl rfl rfl rfl ?_
     | refine k_fieldR rfl rfl rfl rfl ?_
     | fail)
    | (show Zbp _ _ _ _ _ _ _ _ (.load _ _) _; first 
     | refine Zr7 rfl rfl rfl (by first | rfl | (simp only [Zaq]; rfl)) ?_
     | refine Zbd rfl rfl rfl rfl ?_
     | refine Ynr rfl rfl (by first | rfl | assumption) ?_
     | refine Zks rfl rfl rfl rfl ?_
     | refine k_loadBP rfl rfl rfl rfl ?_
     | refine Yi2 rfl rfl rfl rfl ?_
     | refine Zy7 rfl rfl rfl rfl ?_
     | refine Zww rfl rfl rfl (by assumption) ?_
     | refine Yns rfl rfl rfl (by assumption) rfl ?_
     | fail)
    | (show Zbp _ _ _ _ _ _ _ _ (.field _ _ _) _; first 
     | refine k_fieldD rfl rfl rfl rfl ?_
     | fail)
    | (show Zbp _ _ _ _ _ _ _ _ (.binOp _ _ _ _ _) _; first 
     | refine Yrd rfl rfl rfl (by assumption) (by assumption) ?_
     | refine Zaz rfl rfl rfl rfl ?_
     | refine Zci rfl rfl rfl (by kernel_rfl) (by first | exact NilIs.ptr | exact NilIs.none | exact NilIs.nilI | exact NilIs.ifc | assumption) rfl ?_
     | refine k_cmpNilA rfl rfl rfl (by kernel_rfl) (by first | exact NilA.ptr | exact NilA.iface) rfl ?_
     | refine Zom rfl rfl rfl (by kernel_rfl) rfl ?_
     | refine Ziq rfl rfl rfl rfl (by first | omega | (dsimp only; omega)) ?_
     | refine Zy3 rfl rfl rfl rfl ?_
     | fail)
    | (show Zbp _ _ _ _ _ _ _ _ (.unOp _ _ _) _; first 
     | refine Zdm rfl rfl ?_
     | fail)
    | (show Zbp _ _ _ _ _ _ _ _ (.pick _ _ _) _; first 
     | refine Zfu rfl rfl (by first | rfl | assumption) rfl ?_
     | refine Zen rfl rfl (by first | rfl | assumption) rfl ?_
     | fail)
    | (show Zbp _ _ _ _ _ _ _ _ (.indexAddr _ _ _) _; first 
     | refine Zut rfl rfl rfl (by first | omega | (dsimp only; omega)) (by assumption) ?_
     | refine Yiz rfl rfl rfl (by assumption) ?_
     | refine Zr6 rfl rfl rfl rfl (by assumption) (by first | assumption | (simp only [List.length_set]; assumption)) ?_
     | refine Yi0 rfl rfl rfl rfl (by assumption) ?_
     | fail)
    | (show Zbp _ _ _ _ _ _ _ _ (.extract _ _) _; first 
     | refine Zcb rfl rfl rfl ?_
     | refine Zhe rfl rfl rfl ?_
     | refine Zhf rfl rfl rfl ?_
     | fail)
    | (show Zbp _ _ _ _ _ _ _ _ (.nilCheck _) _; first 
     | refine Zuv rfl rfl ?_
     | refine Yrc rfl rfl ?_
     | refine Zgw rfl rfl ?_
     | refine k_nilE rfl rfl rfl ?_
     | fail)
    | (show Zbp _ _ _ _ _ _ _ _ (.slice _ _ _ _ _) _; first 
     | refine Yi3 rfl rfl rfl rfl (by omega) (by first | omega | (dsimp only; omega)) ?_
     | refine k_sliceZ rfl rfl rfl rfl (by omega) (by omega) (by first | omega | (dsimp only; omega)) ?_
     | fail)
    | (show Zbp _ _ _ _ _ _ _ _ (.convert _ _ _) _; first 
     | refine Yno rfl rfl (by kernel_rfl) (by kernel_rfl) (by assumption) ?_
     | refine k_convI rfl rfl (by kernel_rfl) (by kernel_rfl) ?_
     | refine Zr4 (q := .f64) rfl rfl (by kernel_rfl) (by kernel_rfl) ?_
     | fail)
    | (show Zbp _ _ _ _ _ _ _ _ (.build _ _) _; first 
     | refine Zl0 rfl rfl rfl ?_
     | refine Zy2 rfl rfl rfl ?_
     | fail)
    | (show Zbp _ _ _ _ _ _ _ _ (.makeInterface _ _) _; first 
     | refine Zr5 rfl rfl (by kernel_rfl) ?_
     | refine Zfi rfl rfl (by kernel_rfl) ?_
     | refine Yiy rfl rfl (by kernel_rfl) ?_
     | fail)
    | (show Zbp _ _ _ _ _ _ _ _ (.box _ _) _; (fail_if_success (have nd : Zif := by assumption)); first 
     | refine Zdb rfl rfl rfl (by first | rfl | (simp only [Zaq]; rfl)) ?_
     | refine Ynn rfl rfl rfl ?_
     | fail)
    | (show Zbp _ _ _ _ _ _ _ _ (.alloc _) _; first 
     | refine Zlx rfl rfl ?_
     | fail)
    | (show Zbp _ _ _ _ _ _ _ _ (.store _ _ _) _; first 
     | refine Yi6 rfl rfl rfl rfl rfl rfl ?_
     | refine Yi5 rfl rfl rfl rfl (by (try simp only [Zaq, List.map_cons, List.map_nil, List.set_cons_zero, List.set_cons_succ, Nat.zero_add]); rfl) ?_
     | refine k_storeP rfl rfl rfl rfl (by (try simp only [Zaq, List.map_cons, List.map_nil, List.set_cons_zero, List.set_cons_succ, Nat.zero_add]); rfl) ?_
     | refine Yi4 rfl rfl rfl rfl rfl (by (try simp only [Zaq, List.map_cons, List.map_nil, List.set_cons_zero, List.set_cons_succ, Nat.zero_add]); rfl) ?_
     | refine Zcy rfl rfl rfl rfl rfl ?_
     | refine k_storeE rfl rfl (by first | assumption | (simp only [List.length_set]; assumption)) rfl ?_
     | fail)
    | (show Zbp _ _ _ _ _ _ _ _ (.makeSlice _ _ _) _; first 
     | refine Zoo rfl rfl rfl rfl (by kernel_rfl) (by first | assumption | omega | (simp only [List.length_append, List.length_cons, List.length_nil, List.length_drop, List.length_take, List.length_map]; omega)) (by first | assumption | omega | (simp only [List.length_append, List.length_cons, List.length_nil, List.length_drop, List.length_take, List.length_map]; omega)) ?_
     | fail)
    | (show Zbp _ _ _ _ _ _ _ _ (.buildSlice _ _ _) _; first 
     | refine k_bsl rfl rfl (by kernel_rfl) rfl (by (try dsimp only); rfl) rfl rfl rfl rfl ?_
     | refine Zgv rfl rfl (by kernel_rfl) rfl rfl rfl rfl rfl ?_
     | refine k_buildSliceF rfl (by kernel_rfl) rfl rfl rfl rfl rfl ?_
     | fail)
    | (show Zbp _ _ _ _ _ _ _ _ (.makeFunc _ _ _) _; first 
     | refine Zf6 rfl ?_
     | fail)
    | (show Zbp _ _ _ _ _ _ _ _ (.lookup _ _ _ _) _; first 
     | refine Zjx rfl rfl rfl (by assumption) ?_
     | fail)
    | (show Zbp _ _ _ _ _ _ _ _ (.range _ _) _; first 
     | refine Zne rfl rfl rfl ?_
     | fail)
    | (show Zbp _ _ _ _ _ _ _ _ (.entry _) _; first 
     | refine Zkr rfl rfl rfl ?_
     | fail)
    | (show Zbp _ _ _ _ _ _ _ _ (.makeMap _ _) _; first 
     | refine Ya7 rfl rfl ?_
     | fail)
    | (show Zbp _ _ _ _ _ _ _ _ (.typeAssert _ _ _ _) _; first 
     | refine Yrf rfl rfl (by kernel_rfl) ?_
     | refine Yre rfl rfl (by kernel_rfl) ?_
     | refine Ys8 rfl rfl (by kernel_rfl) rfl rfl ?_
     | refine Ys9 rfl rfl (by kernel_rfl) (by kernel_rfl) rfl rfl ?_
     | fail)
    | (show Zbp _ _ _ _ _ _ _ _ (.call _) _; first 
     | refine Yq8 rfl rfl ?_
     | refine Yeh rfl rfl rfl ?_
     | refine k_lenS rfl rfl (by kernel_rfl) ?_
     | refine Yq9 rfl rfl ?_
     | refine Zy6 rfl rfl ?_
     | refine Zmj rfl rfl ?_
     | refine Yrb rfl rfl rfl ?_
     | refine Zh9 rfl (by kernel_rfl) rfl (by assumption) ?_
     | refine Zg3 gV rfl (by kernel_rfl) rfl (by assumption) Flat.val ?_
     | refine Zlz rfl rfl rfl rfl rfl rfl (by kernel_rfl) rfl rfl (by first | assumption | omega | (simp only [List.length_append, List.length_cons, List.length_nil, List.length_drop, List.length_take, List.length_map]; omega)) (by first | assumption | omega | (simp only [List.length_append, List.length_cons, List.length_nil, List.length_drop, List.length_take, List.length_map]; omega)) ?_
     | refine Zly rfl rfl rfl rfl rfl (by kernel_rfl) rfl rfl (by first | assumption | omega | (simp only [List.length_append, List.length_cons, List.length_nil, List.length_drop, List.length_take, List.length_map]; omega)) (by first | assumption | omega | (simp only [List.length_append, List.length_cons, List.length_nil, List.length_drop, List.length_take, List.length_map]; omega)) ?_
     | refine k_appendND rfl rfl rfl rfl (by kernel_rfl) rfl rfl (by first | assumption | omega | (simp only [List.length_append, List.length_cons, List.length_nil, List.length_drop, List.length_take, List.length_map]; omega)) (by first | assumption | omega | (simp only [List.length_append, List.length_cons, List.length_nil, List.length_drop, List.length_take, List.length_map]; omega)) ?_
     | refine k_appendNO rfl rfl rfl rfl rfl (by kernel_rfl) rfl rfl (by first | assumption | omega | (simp only [List.length_append, List.length_cons, List.length_nil, List.length_drop, List.length_take, List.length_map]; omega)) (by first | assumption | omega | (simp only [List.length_append, List.length_cons, List.length_nil, List.length_drop, List.length_take, List.length_map]; omega)) ?_
     | refine k_callV rfl rfl (by kernel_rfl) rfl (by assumption) ?_
     | refine Zdp rfl rfl (by kernel_rfl) rfl (by assumption) ?_
     | refine Zed rfl rfl rfl (by kernel_rfl) rfl (by assumption) ?_
     | fail))
   | (show Run _ _ _ _ (Itm.ops _ (_ :: _) :: _) _; first
    | refine Zao rfl ?_
    | refine Zc4 rfl rfl (by first | rfl | assumption) ?_
    | refine k_guardU rfl rfl rfl ?_
    | refine Ze2 rfl rfl (by first | rfl | assumption) rfl ?_
    | refine Zon rfl rfl (by first | rfl | assumption) rfl ?_)
   | (show Run _ _ _ _ (Itm.code _ :: _) _; first
    | refine Zah ?_
    | refine Zab ?_
    | refine Zav ?_
    | refine Zau ?_
    | refine Zfk rfl ?_
    | refine Zan rfl (by first | rfl | assumption) ?_
    | refine Zam rfl (by first | rfl | assumption) ?_
    | ((fail_if_success (have nd : Zif := by assumption)); refine Ze4 (by kernel_rfl) ?_)
    | exact Zaj (Zal rfl rfl (PLe.refl _))
    | exact Zaj (Zi9 rfl rfl rfl (PLe.refl _) (PLe.refl _))
    | exact Zaj (Zl7 rfl rfl rfl (by first | rfl | (simp only [Zaq]; rfl)) (PLe.refl _))
    | (refine Zaj (Zal rfl rfl ?_); (repeat' (first | exact PLe.refl _ | exact PLe.nil _ _ | exact trivial | refine And.intro ?_ ?_ | refine PLe.aggs ?_ | (refine PLe.of_eq ?_; first | rfl | assumption | (symm; assumption)) | fail)); done)
    | (refine Zaj (Zi9 rfl rfl rfl ?_ ?_) <;> ((repeat' (first | exact PLe.refl _ | exact PLe.nil _ _ | exact trivial | refine And.intro ?_ ?_ | refine PLe.aggs ?_ | (refine PLe.of_eq ?_; first | rfl | assumption | (symm; assumption)) | fail)); done))
    | (refine Zaj (Zl7 rfl rfl rfl (by first | rfl | (simp only [Zaq]; rfl)) ?_); (repeat' (first | exact PLe.refl _ | exact PLe.nil _ _ | exact trivial | refine And.intro ?_ ?_ | refine PLe.aggs ?_ | (refine PLe.of_eq ?_; first | rfl | assumption | (symm; assumption)) | fail)); done)
    | fail)
   | refine Zac ?_
   | refine Zbw ?_
   | (show TrX _ _ _ _ _ _ _ _ _; first
    | (show TrX _ _ _ _ _ (.move _) _ _ _; first 
     | refine Zcg (Zjs rfl rfl) ?_
     | refine Zcg (Zwd rfl rfl) ?_
     | refine Zcg (Ymj rfl rfl) ?_
     | refine Zcg (d_moveG rfl rfl) ?_
     | refine Zcg (Yc8 rfl rfl) ?_
     | refine Zcg (Ymh rfl rfl) ?_
     | refine Zcg (Ymi rfl rfl) ?_
     | fail)
    | (show TrX _ _ _ _ _ (.assign _) _ _ _; first 
     | refine Zcg (Zim rfl rfl) ?_
     | refine Zcg (Yc4 rfl rfl) ?_
     | refine Zcg (d_assignO rfl rfl) ?_
     | refine Zcg (d_assignG rfl rfl) ?_
     | refine Zcg (Ztq rfl rfl) ?_
     | refine Zcg (d_assignE rfl rfl) ?_
     | fail)
    | (show TrX _ _ _ _ _ (.fieldAddr _ _ _) _ _ _; first 
     | refine Zcg (Zio rfl rfl rfl) ?_
     | refine Zcg (Zts rfl rfl rfl rfl rfl) ?_
     | refine Zcg (d_fieldE rfl rfl rfl rfl) ?_
     | refine Zcg (Yhz rfl rfl rfl rfl) ?_
     | fail)
    | (show TrX _ _ _ _ _ (.load _ _) _ _ _; first 
     | refine Zcg (Zwc rfl rfl rfl (by first | rfl | (simp only [Zaq]; rfl))) ?_
     | refine Zcg (Zm6 rfl rfl rfl rfl) ?_
     | refine Zcg (Yc7 rfl rfl (by first | rfl | assumption)) ?_
     | refine Zcg (Zm7 rfl rfl rfl rfl) ?_
     | refine Zcg (Zm8 rfl rfl rfl rfl) ?_
     | refine Zcg (d_loadBG rfl rfl rfl rfl) ?_
     | refine Zcg (Zro rfl rfl rfl (by assumption)) ?_
     | fail)
    | (show TrX _ _ _ _ _ (.field _ _ _) _ _ _; first 
     | refine Zcg (d_fieldD rfl rfl rfl rfl) ?_
     | fail)
    | (show TrX _ _ _ _ _ (.binOp _ _ _ _ _) _ _ _; first 
     | refine Zcg (Zin rfl rfl rfl rfl) ?_
     | refine Zcg (d_cmpNil rfl rfl rfl (by kernel_rfl) (by first | exact NilIs.ptr | exact NilIs.none | exact NilIs.nilI | exact NilIs.ifc | assumption) rfl) ?_
     | refine Zcg (d_cmpNilA rfl rfl rfl (by kernel_rfl) (by first | exact NilA.ptr | exact NilA.iface) rfl) ?_
     | refine Zcg (d_cmpBool rfl rfl rfl (by kernel_rfl) rfl) ?_
     | refine Zcg (Zx6 rfl rfl rfl rfl (by first | omega | (dsimp only; omega))) ?_
     | refine Zcg (Yqb rfl rfl rfl rfl) ?_
     | fail)
    | (show TrX _ _ _ _ _ (.unOp _ _ _) _ _ _; first 
     | refine Zcg (Ys3 rfl rfl) ?_
     | fail)
    | (show TrX _ _ _ _ _ (.pick _ _ _) _ _ _; first 
     | refine Zcg (Zwe rfl rfl (by first | rfl | assumption) rfl) ?_
     | refine Zcg (Yda rfl rfl (by first | rfl | assumption) rfl) ?_
     | fail)
    | (show TrX _ _ _ _ _ (.indexAddr _ _ _) _ _ _; first 
     | refine Zcg (Ztt rfl rfl rfl (by first | omega | (dsimp only; omega)) (by assumption)) ?_
     | refine Zcg (Zx8 rfl rfl rfl (by assumption)) ?_
     | refine Zcg (Zm5 rfl rfl rfl rfl (by assumption) (by first | assumption | (simp only [List.length_set]; assumption))) ?_
     | refine Zcg (d_indexN rfl rfl rfl rfl (by assumption)) ?_
     | fail)
    | (show TrX _ _ _ _ _ (.extract _ _) _ _ _; first 
     | refine Zcg (Yc5 rfl rfl rfl) ?_
     | fail)
    | (show TrX _ _ _ _ _ (.nilCheck _) _ _ _; first 
     | refine Zcg (Yc9 rfl rfl) ?_
     | refine Zcg (Yqf rfl rfl) ?_
     | refine Zcg (Ykw rfl rfl) ?_
     | refine Zcg (Yqg rfl rfl rfl) ?_
     | fail)
    | (show TrX _ _ _ _ _ (.slice _ _ _ _ _) _ _ _; first 
     | refine Zcg (Zyb rfl rfl rfl rfl (by omega) (by first | omega | (dsimp only; omega))) ?_
     | refine Zcg (Yh2 rfl rfl rfl rfl (by omega) (by omega) (by first | omega | (dsimp only; omega))) ?_
     | fail)
    | (show TrX _ _ _ _ _ (.convert _ _ _) _ _ _; first 
     | refine Zcg (d_convI rfl rfl (by kernel_rfl) (by kernel_rfl)) ?_
     | refine Zcg (d_convF (q := .f64) rfl rfl (by kernel_rfl) (by kernel_rfl)) ?_
     | fail)
    | (show TrX _ _ _ _ _ (.build _ _) _ _ _; first 
     | refine Zcg (Ymd rfl rfl rfl) ?_
     | refine Zcg (Yhx rfl rfl rfl) ?_
     | fail)
    | (show TrX _ _ _ _ _ (.makeInterface _ _) _ _ _; first 
     | refine Zcg (d_iface rfl rfl (by kernel_rfl)) ?_
     | refine Zcg (Zx7 rfl rfl (by kernel_rfl)) ?_
     | refine Zcg (d_ifaceO rfl rfl (by kernel_rfl)) ?_
     | fail)
    | (show TrX _ _ _ _ _ (.box _ _) _ _ _; (fail_if_success (have nd : Zif := by assumption)); first 
     | refine Zcg (Yqa rfl rfl rfl (by first | rfl | (simp only [Zaq]; rfl))) ?_
     | refine Zcg (d_box rfl rfl rfl) ?_
     | fail)
    | (show TrX _ _ _ _ _ (.alloc _) _ _ _; first 
     | refine Zcg (d_alloc rfl rfl) ?_
     | fail)
    | (show TrX _ _ _ _ _ (.store _ _ _) _ _ _; first 
     | refine Zcg (Yh5 rfl rfl rfl rfl rfl rfl) ?_
     | refine Zcg (Yh4 rfl rfl rfl rfl (by (try simp only [Zaq, List.map_cons, List.map_nil, List.set_cons_zero, List.set_cons_succ, Nat.zero_add]); rfl)) ?_
     | refine Zcg (d_storeP rfl rfl rfl rfl (by (try simp only [Zaq, List.map_cons, List.map_nil, List.set_cons_zero, List.set_cons_succ, Nat.zero_add]); rfl)) ?_
     | refine Zcg (d_storeD rfl rfl rfl rfl rfl (by (try simp only [Zaq, List.map_cons, List.map_nil, List.set_cons_zero, List.set_cons_succ, Nat.zero_add]); rfl)) ?_
     | refine Zcg (Zyd rfl rfl rfl rfl rfl) ?_
     | refine Zcg (Zye rfl rfl (by first | assumption | (simp only [List.length_set]; assumption)) rfl) ?_
     | fail)
    | (show TrX _ _ _ _ _ (.makeSlice _ _ _) _ _ _; first 
     | refine Zcg (d_makeSlice rfl rfl rfl rfl (by kernel_rfl) (by first | assumption | omega | (simp only [List.length_append, List.length_cons, List.length_nil, List.length_drop, List.length_take, List.length_map]; omega)) (by first | assumption | omega | (simp only [List.length_append, List.length_cons, List.length_nil, List.length_drop, List.length_take, List.length_map]; omega))) ?_
     | fail)
    | (show TrX _ _ _ _ _ (.buildSlice _ _ _) _ _ _; first 
     | refine Zcg (d_bsl rfl rfl (by kernel_rfl) rfl (by (try dsimp only); rfl) rfl rfl rfl rfl) ?_
     | refine Zcg (Ztr rfl rfl (by kernel_rfl) rfl rfl rfl rfl rfl) ?_
     | refine Zcg (d_buildSliceF rfl (by kernel_rfl) rfl rfl rfl rfl rfl) ?_
     | fail)
    | (show TrX _ _ _ _ _ (.makeFunc _ _ _) _ _ _; first 
     | refine Zcg (d_makeFunc rfl) ?_
     | fail)
    | (show TrX _ _ _ _ _ (.lookup _ _ _ _) _ _ _; first 
     | fail)
    | (show TrX _ _ _ _ _ (.range _ _) _ _ _; first 
     | fail)
    | (show TrX _ _ _ _ _ (.entry _) _ _ _; first 
     | fail)
    | (show TrX _ _ _ _ _ (.makeMap _ _) _ _ _; first 
     | fail)
    | (show TrX _ _ _ _ _ (.typeAssert _ _ _ _) _ _ _; first 
     | refine Zcg (d_taS rfl rfl (by kernel_rfl)) ?_
     | refine Zcg (d_ta1 rfl rfl (by kernel_rfl)) ?_
     | refine Zcg (d_taN rfl rfl (by kernel_rfl) rfl rfl) ?_
     | refine Zcg (d_taO rfl rfl (by kernel_rfl) (by kernel_rfl) rfl rfl) ?_
     | fail)
    | (show TrX _ _ _ _ _ (.call _) _ _ _; first 
     | refine Zcg (Yqd rfl rfl) ?_
     | refine Zcg (d_lenO rfl rfl rfl) ?_
     | refine Zcg (d_lenS rfl rfl (by kernel_rfl)) ?_
     | refine Zcg (d_lenN rfl rfl) ?_
     | refine Zcg (Yc6 rfl rfl) ?_
     | refine Zcg (Yqe rfl rfl rfl) ?_
     | refine Zcg (Ykv rfl (by kernel_rfl) rfl (by assumption)) ?_
     | refine Zcg (Zll gV rfl (by kernel_rfl) rfl (by assumption) Flat.val) ?_
     | refine Zcg (Yas rfl rfl rfl rfl rfl rfl (by kernel_rfl) rfl rfl (by first | assumption | omega | (simp only [List.length_append, List.length_cons, List.length_nil, List.length_drop, List.length_take, List.length_map]; omega)) (by first | assumption | omega | (simp only [List.length_append, List.length_cons, List.length_nil, List.length_drop, List.length_take, List.length_map]; omega))) ?_
     | refine Zcg (Yar rfl rfl rfl rfl rfl (by kernel_rfl) rfl rfl (by first | assumption | omega | (simp only [List.length_append, List.length_cons, List.length_nil, List.length_drop, List.length_take, List.length_map]; omega)) (by first | assumption | omega | (simp only [List.length_append, List.length_cons, List.length_nil, List.length_drop, List.length_take, List.length_map]; omega))) ?_
     | refine Zcg (Yaq rfl rfl rfl rfl (by kernel_rfl) rfl rfl (by first | assumption | omega | (simp only [List.length_append, List.length_cons, List.length_nil, List.length_drop, List.length_take, List.length_map]; omega)) (by first | assumption | omega | (simp only [List.length_append, List.length_cons, List.length_nil, List.length_drop, List.length_take, List.length_map]; omega))) ?_
     | refine Zcg (d_appendNO rfl rfl rfl rfl rfl (by kernel_rfl) rfl rfl (by first | assumption | omega | (simp only [List.length_append, List.length_cons, List.length_nil, List.length_drop, List.length_take, List.length_map]; omega)) (by first | assumption | omega | (simp only [List.length_append, List.length_cons, List.length_nil, List.length_drop, List.length_take, List.length_map]; omega))) ?_
     | refine Zcg (Yme rfl rfl (by kernel_rfl) rfl (by assumption)) ?_
     | refine Zcg (Yqc rfl rfl (by kernel_rfl) rfl (by assumption)) ?_
     | refine Zcg (d_invD rfl rfl rfl (by kernel_rfl) rfl (by assumption)) ?_
     | fail))
   | (show TrC _ _ _ _ (_ :: _) _ _; first
    | refine Ysk ?_
    | refine Yph rfl (by first | rfl | assumption) ?_
    | refine c_passU rfl rfl ?_
    | refine Ycm rfl (by first | rfl | assumption) rfl ?_
    | refine Yl3 rfl (by first | rfl | assumption) rfl ?_)
   | refine Zmx (And.intro (by kernel_rfl) ?_)
   | fail)
 all_goals exact g.out) : p := h ⟨g⟩
theorem sb {p : Prop} (h : p := by
 refine ⟨?_, ?_, by rfl⟩ <;> repeat' (first | exact trivial | exact ALe.ptr rfl | exact ALe.own rfl | exact ALe.elt rfl | exact BLe.boxD _ _ | exact BLe.row rfl | exact BLe.res | exact BLe.dead rfl | exact ALe.dat (PLe.refl _) | exact ALe.dat (PLe.nil _ _) | exact CLe.nil | refine And.intro ?_ ?_ | refine ALe.iface ?_ | refine ALe.clo ?_ | refine CLe.cons ?_ ?_ | refine BLe.box ?_ | refine BLe.row ?_ | exact ALe.any _ | refine ALe.dat (PLe.of_eq ?_))
 all_goals first | rfl | assumption | (symm; assumption) | (congr 4; omega) | fail) : p := h
theorem wke {p : Prop} (h : p := by exact wk trivial) : p := h
end
structure EV where
 kind : Int
 s : ByteArray
 keys : List ByteArray
 l : List GV
 v : GV
 n : Int
def IsE (w : World) (S : Nat → Prop) (x : EV) (u : Value) : Prop :=
 ∃ ak ck a c c0 c1 c2 c3 c4 c5, u = .agg #[.int .i64 x.kind, .string x.s, .slice ak x.keys.length ck, .slice a x.l.length c, c0, c1, c2, c3, c4, c5, .int .i64 x.n] ∧
  (Lit.int .i64 x.kind).wf = true ∧ (Lit.int .i64 x.n).wf = true ∧ x.s.size ≤ maxLen ∧
  IsStrs w S (.slice ak x.keys.length ck) x.keys ∧ x.l.length ≤ c ∧ x.l.length * 88 ≤ 140737488351232 ∧ (x.l = [] ∨ ∃ b o, S b ∧ a = some ⟨b, o, none⟩ ∧ IsVs w S x.l b o) ∧
  IsV w S x.v (.agg #[c0, c1, c2, c3, c4, c5])
theorem IsV.vals {w : World} {S : Nat → Prop} {x : GV} {c0 c1 c2 c3 c4 : Value} {a : Option Addr} {n c : Nat} (h : IsV w S x (.agg #[c0, c1, c2, c3, c4, .slice a n c])) : x.l = [] ∨ ∃ b o, S b ∧ a = some ⟨b, o, none⟩ ∧ IsVs w S x.l b o := by
 obtain ⟨k, m, f, s, ks, l⟩ := x
 unfold IsV at h
 obtain ⟨vk, a', c', e, _, _, _, _, _, _, _, hl⟩ := h
 injection e with e
 injection e with e
 simp only [List.cons.injEq, and_true] at e
 obtain ⟨_, _, _, _, _, e⟩ := e
 injection e with e1 _ _
 rw [e1]; exact hl
theorem IsV.len {w : World} {S : Nat → Prop} {x : GV} {v : Value} (h : IsV w S x v) : x.l.length * 88 ≤ 140737488351232 := by
 obtain ⟨k, m, f, s, ks, l⟩ := x
 unfold IsV at h
 obtain ⟨_, _, _, _, _, _, _, _, _, _, h, _⟩ := h
 exact h
theorem Zxf {w : World} {S : Nat → Prop} {l : List GV} {a : Option Addr} (h : l = [] ∨ ∃ b o, S b ∧ a = some ⟨b, o, none⟩ ∧ IsVs w S l b o) (hp : 0 < l.length) : ∃ b o, S b ∧ a = some ⟨b, o, none⟩ ∧ IsVs w S l b o :=
 h.resolve_left (fun e => by rw [e] at hp; simp at hp)
section
variable {w w' : World} {S S' : Nat → Prop}
end
def flE (x : EV) : List (ByteArray × JV) := x.keys.zip (x.l.map Za2)
theorem Zlr (x : EV) : (flE x).length = min x.keys.length x.l.length := by simp [flE]
theorem Yqs (x : EV) {i : Nat} {k : ByteArray} {y : GV} (h1 : x.keys[i]? = some k) (h2 : x.l[i]? = some y) : (flE x)[i]? = some (k, Za2 y) := by
 simp [flE, List.getElem?_zip_eq_some, h1, h2]
inductive PEV where
 | name (s : ByteArray)
 | key (fl : List (ByteArray × JV))
 | val (j : JV)
 | idx (n : Int)
section
variable {w w' : World} {S S' : Nat → Prop}
end
section
variable {w : World} {b : Nat} {c0 c1 c2 c3 : Value}
end
def Zc2 (x : EV) : PEV := if x.kind = 1 then .key (flE x) else if x.kind = 2 then .val (Za2 x.v) else if x.kind = 3 then .idx x.n else .name x.s
section
variable {w : World} {b : Nat} {c0 c1 c2 c3 c4 c5 c6 c7 c8 c9 c10 : Value}
end
def Zic : PEV → EV
 | .name s => ⟨0, s, [], [], Zdi, 0⟩
 | .key fl => ⟨1, ByteArray.empty, fl.map (·.1), fl.map fun p => unJ p.2, Zdi, 0⟩
 | .val j => ⟨2, ByteArray.empty, [], [], unJ j, 0⟩
 | .idx n => ⟨3, ByteArray.empty, [], [], Zdi, n⟩
def Za1 (x : EV) : EV :=
 if x.kind = 1 then ⟨1, ByteArray.empty, x.keys.take (min x.keys.length x.l.length), Zcp (x.l.take (min x.keys.length x.l.length)), Zdi, 0⟩
 else if x.kind = 2 then ⟨2, ByteArray.empty, [], [], Zat x.v, 0⟩ else if x.kind = 3 then ⟨3, ByteArray.empty, [], [], Zdi, x.n⟩ else ⟨0, x.s, [], [], Zdi, 0⟩
def pdE (x : EV) : PD := .agg [.val (.int .i64 x.kind), .val (.string x.s), .sl 1 16 (pdS x.keys), .sl 6 88 (Zb6 x.l), .val (.int .i64 x.v.kind), .val (.int .i64 x.v.n), .val (.float .f64 x.v.f), .val (.string x.v.s), .sl 1 16 (pdS x.v.keys), .sl 6 88 (Zb6 x.v.l), .val (.int .i64 x.n)]
section
variable {w : World} {F : Nat → Prop}
theorem Yj0 {l : List GV} {a : Option Addr} {n c : Nat} (h : Rep w F (.sl 6 88 (Zb6 l)) (.slice a n c)) : n = l.length ∧ l.length ≤ c ∧ l.length * 88 ≤ 140737488351232 ∧ (l = [] ∨ ∃ b o, F b ∧ a = some ⟨b, o, none⟩ ∧ IsVs w F l b o) := by
 unfold Rep at h
 rw [Zbu] at h
 obtain ⟨a', c', e, h5, h6, _, h7⟩ := h
 injection e with e1 e2 e3
 subst e1 e2 e3
 refine ⟨rfl, h5, h6, ?_⟩
 rcases h7 with h7 | ⟨b, o, hF, rfl, hv⟩
 ·left; cases l with | nil => rfl | cons _ _ => unfold Zb6 at h7; cases h7
 ·exact .inr ⟨b, o, hF, rfl, Zk8 l hv⟩
theorem Ykm {l : List GV} {a : Option Addr} {c : Nat} (h5 : l.length ≤ c) (h6 : l.length * 88 ≤ 140737488351232) (h : l = [] ∨ ∃ b o, F b ∧ a = some ⟨b, o, none⟩ ∧ IsVs w F l b o) : Rep w F (.sl 6 88 (Zb6 l)) (.slice a l.length c) := by
 unfold Rep
 rw [Zbu]
 refine ⟨a, c, rfl, h5, h6, by omega, ?_⟩
 rcases h with rfl | ⟨b, o, hF, rfl, hv⟩
 ·left; unfold Zb6; rfl
 ·exact .inr ⟨b, o, hF, rfl, Zkq l hv⟩
theorem Yol {x : EV} {u : Value} (h : Rep w F (pdE x) u) : IsE w F x u := by
 unfold pdE Rep at h
 obtain ⟨vs, rfl, hr, h1⟩ := h
 simp only [Reps] at hr
 obtain ⟨v0, _, rfl, e0, v1, _, rfl, e1, v2, _, rfl, e2, v3, _, rfl, e3, v4, _, rfl, e4, v5, _, rfl, e5, v6, _, rfl, e6, v7, _, rfl, e7, v8, _, rfl, e8, v9, _, rfl, e9, v10, _, rfl, e10, rfl⟩ := hr
 have hV : Rep w F (pdV x.v) (.agg #[v4, v5, v6, v7, v8, v9]) := by
  rw [Zfw]; unfold Rep
  refine ⟨[v4, v5, v6, v7, v8, v9], rfl, ?_, fun u hu => h1 u ?_⟩
  rotate_left
  ·simp only [List.mem_cons, List.not_mem_nil, or_false] at hu ⊢
   rcases hu with h | h | h | h | h | h <;> simp [h]
  simp only [Reps]
  exact ⟨_, _, rfl, e4, _, _, rfl, e5, _, _, rfl, e6, _, _, rfl, e7, _, _, rfl, e8, _, _, rfl, e9, rfl⟩
 have hE2 := rep_strs.1 e2
 obtain ⟨ak, ck, rfl, _⟩ := id hE2
 obtain ⟨a, c, rfl, _⟩ : ∃ a c, v3 = .slice a x.l.length c ∧ True := by
  have := e3
  unfold Rep at this
  rw [Zbu] at this
  obtain ⟨a, c, e, _⟩ := this
  exact ⟨a, c, e, trivial⟩
 obtain ⟨_, g1, g2, g3⟩ := Yj0 e3
 unfold Rep at e0 e1 e10
 obtain ⟨rfl, w0⟩ := e0
 obtain ⟨rfl, w1⟩ := e1
 obtain ⟨rfl, w10⟩ := e10
 exact ⟨ak, ck, a, c, v4, v5, v6, v7, v8, v9, rfl, w0, w10, w1, hE2, g1, g2, g3, Zpd _ hV⟩
theorem Yng {x : EV} {u : Value} (h : IsE w F x u) : Rep w F (pdE x) u := by
 obtain ⟨ak, ck, a, c, c0, c1, c2, c3, c4, c5, rfl, h1, h2, h3, hk, h5, h6, hl, hv⟩ := h
 have hV := Yea _ hv
 rw [Zfw] at hV
 unfold Rep at hV
 obtain ⟨vs, e, hr, ho⟩ := hV
 simp only [Value.agg.injEq] at e
 have : vs = [c0, c1, c2, c3, c4, c5] := by simpa using (congrArg Array.toList e).symm
 subst this
 simp only [Reps] at hr
 obtain ⟨v4, _, e4', e4, v5, _, e5', e5, v6, _, e6', e6, v7, _, e7', e7, v8, _, e8', e8, v9, _, e9', e9, _⟩ := hr
 simp only [List.cons.injEq] at e4'
 obtain ⟨rfl, rfl⟩ := e4'
 simp only [List.cons.injEq] at e5'
 obtain ⟨rfl, rfl⟩ := e5'
 simp only [List.cons.injEq] at e6'
 obtain ⟨rfl, rfl⟩ := e6'
 simp only [List.cons.injEq] at e7'
 obtain ⟨rfl, rfl⟩ := e7'
 simp only [List.cons.injEq] at e8'
 obtain ⟨rfl, rfl⟩ := e8'
 simp only [List.cons.injEq] at e9'
 obtain ⟨rfl, _⟩ := e9'
 unfold pdE Rep
 refine ⟨_, rfl, ?_, ?_⟩
 ·simp only [Reps]
  exact ⟨_, _, rfl, by unfold Rep; exact ⟨rfl, h1⟩, _, _, rfl, by unfold Rep; exact ⟨rfl, h3⟩, _, _, rfl, rep_strs.2 hk, _, _, rfl, Ykm h5 h6 hl, _, _, rfl, e4, _, _, rfl, e5, _, _, rfl, e6, _, _, rfl, e7, _, _, rfl, e8, _, _, rfl, e9, _, _, rfl, by unfold Rep; exact ⟨rfl, h2⟩, rfl⟩
 ·intro u hu
  simp only [List.mem_cons, List.not_mem_nil, or_false] at hu
  rcases hu with rfl | rfl | rfl | rfl | rfl | rfl | rfl | rfl | rfl | rfl | rfl
  all_goals first
   | rfl
   | exact ho _ (by simp)
end
section
variable {P : Program} {f : FuncId}
end
section
variable {w : World} {F : Nat → Prop}
end
section
variable {P : Program} {X : Base} {N : Nat} {Q : Exit → Act → World → Prop} {ops : Array Oper} {rem : List Nat} {ks : List Itm} {s s' : Sta}
theorem Yn9 {o : Oper} (hd : Za8 X.N o.dst = true) {t t' : TypeId} {x y : Operand} (ho : o.op = .binOp .quo t x y t') {a b : Int} (hx : s.ev x = .dat (.val (.int .i64 a))) (hy : s.ev y = .dat (.val (.int .i64 2))) (hb : a / 2 = b) (h0 : 0 ≤ a) (ha : a ≤ 9223372036854775807) :
  OpS P X o s (s.put o.dst (.dat (.val (.int .i64 b)))) := by
 refine Zqq hd ho hx hy (fun w => ?_) (WalkArith.wf_i64 (by omega))
 have e : IntKind.i64.wrap (a.tdiv 2) = b := by
  rw [Int.tdiv_eq_ediv_of_nonneg h0, IntKind.wrap_i64]; omega
 simp [eqGuard, binOp, Op.intDiv, e]
theorem Zy5 {d : Nat} {x y : Operand} {t t' : Nat} {a b : Int} (hN : Nat.blt d N = true) (hx : s.ev x = .dat (.val (.int .i64 a))) (hy : s.ev y = .dat (.val (.int .i64 2))) (hb : a / 2 = b) (h0 : 0 ≤ a) (ha : a ≤ 9223372036854775807) (h : Run P X N Q (.ops ops rem :: ks) (s.put (some d) (.dat (.val (.int .i64 b))))) : Zbp P X N Q ops rem ks (some d) (.binOp .quo t x y t') s := Zd7 hN (fun _ _ _ hd => Yn9 hd rfl hx hy hb h0 ha) h
end
theorem Yau (m : GV) (key : ByteArray) (hinc : Zfx m.keys) : PCall Tryz.prog 207 [qV m, .val (.string key)] (.tup [.val (.int .i64 (lb m.keys key : Nat)), .val (.bool (Zfz m.keys key))]) := by
 refine Zay fun hfit => ?_
 have b1 := (Fits.aggAt (hfit (qV m) (by simp)) 4 (d := .sl 1 16 (pdS m.keys)) rfl).sl.2.1
 rw [Zb3] at b1
 clear hfit
 have n1 := Zb3 m.keys
 refine Zaa Tryz.func207 rfl Tryz.ntmps207 rfl (fun X => ?_)
 unfold qV
 refine wk ?_
 refine Zap (ι := { j : Nat × Nat // j.1 ≤ j.2 ∧ j.2 ≤ m.keys.length ∧ (∀ q x, q < j.1 → m.keys[q]? = some x → blt x key = true) ∧ (∀ q x, j.2 ≤ q → m.keys[q]? = some x → blt x key = false) })
  (fun j => [(1, .dat (.val (.string key))), (2, .ptr 2 0), (6, .dat (.val (.int .i64 (j.1.1 : Nat)))), (7, .dat (.val (.int .i64 (j.1.2 : Nat))))])
  (fun j => [(2, .box 27 (Zaq (qV m)))]) (fun j => j.1.2 - j.1.1) ⟨(0, m.keys.length), Nat.zero_le _, Nat.le_refl _, fun q x h => by simp at h, fun q x h h' => by rw [List.getElem?_eq_none h] at h'; cases h'⟩ id ?_ ?_
 ·rw [n1]; exact sb
 rintro ⟨⟨i, j⟩, hij, hj, hlo, hhi⟩
 simp only at hij hj hlo hhi ⊢
 by_cases hlt : i < j
 ·have g1 : decide ((i : Int) < (j : Int)) = true := decide_eq_true (by omega)
  unfold qV
  obtain ⟨h, hh⟩ : ∃ h, h = (j - i) / 2 := ⟨_, rfl⟩
  obtain ⟨x, hx⟩ : ∃ x, m.keys[i + h]? = some x := ⟨_, List.getElem?_eq_getElem (by omega)⟩
  have i1 : (pdS m.keys)[((i : Int) + (h : Int)).toNat]? = some (.val (.string x)) := by
   rw [show ((i : Int) + (h : Int)).toNat = i + h by omega]; exact Zfp hx
  cases ht : blt x key with
  | true =>
   refine wk ?_
   refine Zy5 rfl rfl rfl (b := (h : Int)) (by omega) (by omega) (by omega) ?_
   refine wk ?_
   refine Zae ?_
   refine ⟨⟨(i + h + 1, j), by simp only; omega, hj, fun q y hq hy => ?_, hhi⟩, id, by simp only; omega, ?_⟩
   ·rcases Zok hinc (show q ≤ i + h by simp only at hq; omega) hy hx with rfl | h
    ·exact ht
    ·exact Zca h ht
   exact sb
  | false =>
   refine wk ?_
   refine Zy5 rfl rfl rfl (b := (h : Int)) (by omega) (by omega) (by omega) ?_
   refine wk ?_
   refine Zae ?_
   refine ⟨⟨(i, i + h), by simp only; omega, by simp only; omega, hlo, fun q y hq hy => ?_⟩, id, by simp only; omega, ?_⟩
   ·rcases Zok hinc (show i + h ≤ q from hq) hx hy with rfl | h
    ·exact ht
    ·cases hyk : blt y key with
     | false => rfl
     | true => have := Zca h hyk; rw [ht] at this; cases this
   exact sb
 obtain rfl : i = j := by omega
 have hlb : lb m.keys key = i := Yrg hj (fun q x hq hx => hlo q x hq hx) (fun x hx => hhi i x (Nat.le_refl _) hx)
 rw [hlb]
 have g1 : decide ((i : Int) < (i : Int)) = false := decide_eq_false (by omega)
 unfold qV
 by_cases hin : i < m.keys.length
 ·obtain ⟨x, hx⟩ : ∃ x, m.keys[i]? = some x := ⟨_, List.getElem?_eq_getElem hin⟩
  have i1 : (pdS m.keys)[((i : Nat) : Int).toNat]? = some (.val (.string x)) := Zfp hx
  have g2 : decide ((i : Int) < (((pdS m.keys).length : Nat) : Int)) = true := decide_eq_true (by omega)
  have e : Zfz m.keys key = decide (x = key) := by unfold Zfz; rw [hlb, hx]; simp
  rw [e]
  exact wke
 ·have g2 : decide ((i : Int) < (((pdS m.keys).length : Nat) : Int)) = false := decide_eq_false (by omega)
  have e : Zfz m.keys key = false := by unfold Zfz; rw [hlb, List.getElem?_eq_none (by omega)]; simp
  rw [e]
  exact wke
theorem Ysj (m : GV) (key : ByteArray) (x : GV) (hm : Zjf m) (hb : (m.l.length + 1) * 88 ≤ 140737488351232) : PCall Tryz.prog 198 [qV m, .val (.string key), qV x] (qV (Zme m key x)) := by
 obtain ⟨ks, l, rfl, hi, hl⟩ := hm
 obtain ⟨xk, xn, xf, xs, xks, xl⟩ := x
 have c := Yau (.mk 6 0 0 ByteArray.empty ks l) key hi
 have h1 := Yel ks key
 have h2 := Zko (ks := ks) (k := key)
 have n1 := Zb3 ks
 have n2 := Zbu l
 simp only [GV.l, GV.keys] at c hb
 unfold Zme
 simp only [GV.l, GV.keys]
 have e1 : pdS (Zol ks ks key key) = (((pdS ks).take (lb ks key)).drop 0 ++ [.val (.string key)]) ++ ((pdS ks).take (pdS ks).length).drop (lb ks key + if Zfz ks key then 1 else 0) := by rw [List.take_length]; simp [Zol, pdS, List.map_take, List.map_drop]
 have e2 : Zb6 (Zol ks l key (.mk xk xn xf xs xks xl)) = (((Zb6 l).take (lb ks key)).drop 0 ++ [qV (.mk xk xn xf xs xks xl)]) ++ ((Zb6 l).take (Zb6 l).length).drop (lb ks key + if Zfz ks key then 1 else 0) := by
  rw [List.take_length, Zg6, Zg6]; simp [Zol, List.map_take, List.map_drop]; exact Zfw _
 unfold qV at *
 simp only [GV.l, GV.keys, GV.kind, GV.n, GV.f, GV.s] at *
 rw [e1, e2]
 clear e1 e2
 generalize pdS ks = da at *
 generalize Zb6 l = db at *
 generalize lb ks key = i at *
 generalize Zfz ks key = b at *
 cases b
 all_goals
  simp only [Bool.false_eq_true, if_false, if_true] at h2 ⊢
  refine Zaa Tryz.func198 rfl Tryz.ntmps198 rfl (fun X => ?_)
  refine wk ?_
  refine Zba (fun _ => false) (fun k => k == 54 || k == 62) ?_
  refine Zaj (Zl7 rfl rfl rfl rfl ?_)
  first | exact PLe.refl _ | (refine PLe.of_eq ?_; rw [show ((i : Int) + 1).toNat = i + 1 by omega]; simp [Int.toNat_natCast]; done)
theorem Yal (l : List GV) : Zcp l = l.map Zat := by
 induction l with
 | nil => unfold Zcp; rfl
 | cons x r ih => unfold Zcp; rw [ih]; rfl
theorem Zsn (x : GV) : pdV x = qV x := Zfw x
theorem Zo7 (l : List GV) (ih : ∀ x ∈ l, PCall Tryz.prog 72 [qV x] (qV (Zat x))) : PCall Tryz.prog 136 [.sl 6 88 (Zb6 l)] (.sl 6 88 (Zb6 (Zcp l))) := by
 refine Zay fun hfit => ?_
 have b0 := (hfit (.sl 6 88 (Zb6 l)) (by simp)).sl
 have b1 := b0.1
 have b2 := b0.2.1
 clear hfit b0
 have n1 := Zbu l
 rw [n1] at b1 b2
 refine Zaa Tryz.func136 rfl Tryz.ntmps136 rfl (fun X => ?_)
 refine wk ?_
 refine Zap (ι := { k : Nat // k ≤ l.length })
  (fun k => [(3, .own 100), (9, .dat (.sl 6 88 (Zb6 l))), (10, .dat (.val (.int .i64 ((Zb6 l).length : Nat)))), (11, .dat (.val (.int .i64 (k.1 : Nat))))])
  (fun k => [(100, .row 27 6 88 ((l.take k.1).map fun x => qV (Zat x)))]) (fun k => l.length - k.1) ⟨0, Nat.zero_le _⟩ (fun j => if j = 100 then 8 else j) ?_ ?_
 ·exact sb
 rintro ⟨k, hk⟩
 by_cases hlt : k < l.length
 ·have hc : decide ((k : Int) < (((Zb6 l).length : Nat) : Int)) = true := decide_eq_true (by omega)
  obtain ⟨x, hx⟩ : ∃ x, l[k]? = some x := ⟨_, List.getElem?_eq_getElem hlt⟩
  have hi : (Zb6 l)[((k : Nat) : Int).toNat]? = some (qV x) := (Zff hx).trans (by rw [Zsn])
  have c := ih x (List.mem_of_getElem? hx)
  have hbt : (((l.take k).map fun x => qV (Zat x)).length + [qV (Zat x)].length) * 88 ≤ 140737488351232 := by simp; omega
  have hbl : ((l.take k).map fun x => qV (Zat x)).length + [qV (Zat x)].length ≤ 140737488351232 := by simp; omega
  have e : ((l.take (k + 1)).map fun x => qV (Zat x)) = ((l.take k).map fun x => qV (Zat x)) ++ [qV (Zat x)] := by simp [List.take_add_one, hx]
  generalize ((l.take k).map fun x => qV (Zat x)) = da at *
  unfold qV at *
  refine wk ?_
  refine Zae ?_
  refine ⟨⟨k + 1, by omega⟩, (fun j => if j = 100 then 19 else j), by simp only; omega, ?_⟩
  rw [e]
  exact sb
 ·have hc : decide ((k : Int) < (((Zb6 l).length : Nat) : Int)) = false := decide_eq_false (by omega)
  have hkk : l.take k = l := List.take_of_length_le (by omega)
  simp only [hkk]
  refine Zba (fun _ => false) (fun k => k == 100) ?_
  have e : Zb6 (Zcp l) = l.map fun x => qV (Zat x) := by rw [Zg6, Yal, List.map_map]; exact List.map_congr_left fun x _ => Zsn _
  rw [e]
  exact wke
theorem Ybj (v : GV) (ih : ∀ x ∈ v.l, PCall Tryz.prog 72 [qV x] (qV (Zat x))) : PCall Tryz.prog 137 [qV v] (qV (Zbx v.keys v.l gMap)) := by
 refine Zay fun hfit => ?_
 have b0 := (Fits.aggAt (hfit (qV v) (by simp)) 5 (d := .sl 6 88 (Zb6 v.l)) rfl).sl
 have b1 := b0.1
 have b2 := b0.2.1
 clear hfit b0
 have n1 := Zbu v.l
 have n2 := Zb3 v.keys
 rw [n1] at b1 b2
 refine Zaa Tryz.func137 rfl Tryz.ntmps137 rfl (fun X => ?_)
 generalize hr : Zbx v.keys v.l gMap = R
 unfold qV
 refine wk ?_
 refine Zap (ι := { k : Nat // k ≤ v.keys.length ∧ k ≤ v.l.length })
  (fun k => [(1, .ptr 1 0), (2, .ptr 2 0), (3, .ptr 3 0), (4, .dat (.val (.int .i64 (k.1 : Nat))))])
  (fun k => [(1, .box 27 (Zaq (qV v))), (2, .box 27 (Zaq (qV Zdi))), (3, .box 27 (Zaq (qV (Zbx (v.keys.take k.1) v.l gMap))))]) (fun k => v.keys.length - k.1) ⟨0, Nat.zero_le _, Nat.zero_le _⟩ id ?_ ?_
 ·simp only [List.take_zero, show Zbx [] v.l gMap = gMap from by simp [Zbx]]
  exact sb
 rintro ⟨k, hk, hk'⟩
 by_cases hlt : k < v.keys.length
 ·have g1 : decide ((k : Int) < (((pdS v.keys).length : Nat) : Int)) = true := decide_eq_true (by omega)
  by_cases hlt' : k < v.l.length
  ·have g2 : decide ((k : Int) < (((Zb6 v.l).length : Nat) : Int)) = true := decide_eq_true (by omega)
   obtain ⟨key, hkey⟩ : ∃ x, v.keys[k]? = some x := ⟨_, List.getElem?_eq_getElem hlt⟩
   obtain ⟨x, hx⟩ : ∃ x, v.l[k]? = some x := ⟨_, List.getElem?_eq_getElem hlt'⟩
   have i1 : (pdS v.keys)[((k : Nat) : Int).toNat]? = some (.val (.string key)) := Zfp hkey
   have i2 : (Zb6 v.l)[((k : Nat) : Int).toNat]? = some (qV x) := (Zff hx).trans (by rw [Zsn])
   have c1 := ih x (List.mem_of_getElem? hx)
   have hp := Zgs (v.keys.take k) v.l gMap Zbg
   have c2 := Ysj (Zbx (v.keys.take k) v.l gMap) key (Zat x) hp.1 (by
    have := hp.2; have := List.length_take_le k v.keys; have e : gMap.l.length = 0 := rfl; omega)
   rw [← Znz v.keys v.l gMap k key x hkey hx] at c2
   simp only
   generalize Zbx (v.keys.take k) v.l gMap = A at *
   generalize hB : Zbx (v.keys.take (k + 1)) v.l gMap = B at *
   generalize Zat x = y at *
   unfold qV at *
   refine wk ?_
   refine Zae ?_
   refine ⟨⟨k + 1, by omega, by omega⟩, id, by simp only; omega, ?_⟩
   simp only [hB]
   exact sb
  ·have g2 : decide ((k : Int) < (((Zb6 v.l).length : Nat) : Int)) = false := decide_eq_false (by omega)
   simp only [Zlj v.keys v.l gMap k (.inr (by omega)), hr]
   unfold qV at *
   exact wke
 ·have g1 : decide ((k : Int) < (((pdS v.keys).length : Nat) : Int)) = false := decide_eq_false (by omega)
  simp only [Zlj v.keys v.l gMap k (.inl (by omega)), hr]
  unfold qV at *
  exact wke
theorem Zrh : ∀ (x : GV), PCall Tryz.prog 72 [qV x] (qV (Zat x))
 | .mk k n f s ks l => by
  have ih : ∀ x ∈ l, PCall Tryz.prog 72 [qV x] (qV (Zat x)) := fun x _ => Zrh x
  have c1 := Zo7 l ih
  have c2 := Ybj (.mk k n f s ks l) ih
  clear ih
  simp only [GV.keys, GV.l] at c2
  unfold Zat
  have e5 : Zbx ks l (GV.mk 6 0 0 ByteArray.empty [] []) = Zbx ks l gMap := rfl
  rw [e5]
  generalize Zcp l = cl at *
  generalize Zbx ks l gMap = cm at *
  obtain ⟨k', n', f', s', ks', l'⟩ := cm
  refine Zaa Tryz.func72 rfl Tryz.ntmps72 rfl (fun X => ?_)
  simp only [qV, GV.keys, GV.l, GV.kind, GV.n, GV.f, GV.s, Zdi] at c1 c2 ⊢
  by_cases h1 : k = 1
  ·have g1 : decide (k = 1) = true := decide_eq_true h1
   by_cases hn : n = 0
   ·have g : decide (n ≠ 0) = false := decide_eq_false (by simp [hn])
    simp only [h1, hn, if_true]
    exact wke
   ·have g : decide (n ≠ 0) = true := decide_eq_true hn
    simp only [h1, hn, if_true, if_false]
    exact wke
  have g1 : decide (k = 1) = false := decide_eq_false h1
  rw [if_neg h1]
  by_cases h2 : k = 2
  ·have g2 : decide (k = 2) = true := decide_eq_true h2
   rw [if_pos h2]
   exact wke
  have g2 : decide (k = 2) = false := decide_eq_false h2
  rw [if_neg h2]
  by_cases h3 : k = 3
  ·have g3 : decide (k = 3) = true := decide_eq_true h3
   rw [if_pos h3]
   exact wke
  have g3 : decide (k = 3) = false := decide_eq_false h3
  rw [if_neg h3]
  by_cases h4 : k = 4
  ·have g4 : decide (k = 4) = true := decide_eq_true h4
   rw [if_pos h4]
   exact wke
  have g4 : decide (k = 4) = false := decide_eq_false h4
  rw [if_neg h4]
  by_cases h5 : k = 5
  ·have g5 : decide (k = 5) = true := decide_eq_true h5
   rw [if_pos h5]
   exact wke
  have g5 : decide (k = 5) = false := decide_eq_false h5
  rw [if_neg h5]
  by_cases h6 : k = 6
  ·have g6 : decide (k = 6) = true := decide_eq_true h6
   rw [if_pos h6]
   exact wke
  have g6 : decide (k = 6) = false := decide_eq_false h6
  rw [if_neg h6]
  exact wke
theorem Yb9 : ∀ {l : List JV}, (∀ y ∈ l, JOk y) → Znq l
 | [], _ => by unfold Znq; trivial
 | x :: r, h => by unfold Znq; exact ⟨h x (by simp), Yb9 fun y hy => h y (by simp [hy])⟩
theorem Yf3 {w : World} {F : Nat → Prop} {b : Nat} : ∀ {l : List JV} {o : Nat}, RepL w F 1 (l.map pdJ) b o → IsJs w F l b o ∧ ∀ y ∈ l, JOk y
 | [], o, _ => ⟨by unfold IsJs; trivial, by simp⟩
 | x :: r, o, h => by
  rw [List.map_cons] at h
  unfold RepL at h
  obtain ⟨⟨u, hu, hn, h1, hl⟩, hr⟩ := h
  unfold pdJ Rep at hu
  obtain ⟨e1, e2⟩ := Yf3 hr
  unfold IsJs
  refine ⟨⟨⟨u, ?_, hu.1⟩, e1⟩, fun y hy => ?_⟩
  ·have := hl 0 u (by rw [Za9 hu.1.oneCell]; rfl)
   simpa using this
  ·rcases List.mem_cons.1 hy with rfl | hy
   ·exact hu.2
   ·exact e2 y hy
theorem Yi7 {l : List JV} (hl : l.length * 88 ≤ 140737488351232) : PLe (.iface 276 (.sl 1 16 (l.map pdJ))) (pdJ (.list l)) := by
 intro w F v h
 unfold Rep at h
 obtain ⟨u, rfl, h⟩ := h
 unfold Rep at h
 rw [List.length_map] at h
 obtain ⟨a, c, rfl, h1, h2, h3, h4⟩ := h
 unfold pdJ Rep
 show IsJ _ _ _ _ ∧ JOk _
 unfold IsJ JOk
 rcases h4 with h4 | ⟨b, o, hb, ha, hr⟩
 ·have : l = [] := by simpa using h4
  subst this
  exact ⟨⟨a, c, rfl, h2, .inl rfl⟩, hl, by unfold Znq; trivial⟩
 ·obtain ⟨e1, e2⟩ := Yf3 hr
  exact ⟨⟨a, c, rfl, h2, .inr ⟨b, o, hb, ha, e1⟩⟩, hl, Yb9 e2⟩
theorem Yn1 {m : List (ByteArray × JV)} : PLe (.iface 277 (Zip m)) (pdJ (.map m)) := by
 intro w F v h
 unfold Rep at h
 obtain ⟨u, rfl, h⟩ := h
 unfold Zip Rep at h
 obtain ⟨b, es, cl, rfl, hb, hh, h1, h2, h3, h4⟩ := h
 unfold pdJ Rep
 refine ⟨?_, h4⟩
 unfold IsJ
 exact ⟨b, es, cl, rfl, hb, hh, h1, h2, h3⟩
theorem Yi8 {j : JV} (h : (∀ l, j ≠ .list l) ∧ ∀ m, j ≠ .map m) : PLe (dvX j) (pdJ j) := by
 intro w F v hv
 unfold pdJ Rep
 have e : ∀ {T : TypeId} {u : Value}, Rep w F (.iface T (.val u)) v → v = .iface T u ∧ okV u := fun h => by
  unfold Rep at h
  obtain ⟨y, rfl, h⟩ := h
  unfold Rep at h
  exact ⟨by rw [h.1], h.2⟩
 cases j with
 | null => unfold dvX Rep at hv; exact ⟨by unfold IsJ; exact hv.1, by unfold JOk; trivial⟩
 | bool b => unfold dvX at hv; exact ⟨by unfold IsJ; exact (e hv).1, by unfold JOk; trivial⟩
 | int n => unfold dvX at hv; exact ⟨by unfold IsJ; exact e hv, by unfold JOk; trivial⟩
 | flt n => unfold dvX at hv; exact ⟨by unfold IsJ; exact e hv, by unfold JOk; trivial⟩
 | str n => unfold dvX at hv; exact ⟨by unfold IsJ; exact e hv, by unfold JOk; trivial⟩
 | list l => exact absurd rfl (h.1 l)
 | map m => exact absurd rfl (h.2 m)
instance : MTI Tryz.prog 277 9 20 := ⟨by kernel_rfl, by kernel_rfl, by kernel_rfl⟩
theorem Zo6 (l : List GV) : Zdx l = l.map Za2 := by
 induction l with
 | nil => unfold Zdx; rfl
 | cons x r ih => unfold Zdx; rw [ih]; rfl
theorem Ybk (x : GV) (ih : ∀ y ∈ x.l, PCall Tryz.prog 132 [qV y] (pdJ (Za2 y))) (hl : x.l.length * 88 ≤ 140737488351232) (hk : x.keys.length ≤ 140737488351232) : Zbr Tryz.prog 195 [.dat (qV x)] [] (.own 0) [(0, .res (Yje (Zcq x.keys x.l [])))] := by
 have hks := Zb3 x.keys
 have hls := Zbu x.l
 unfold qV
 refine Zar Tryz.func195 rfl Tryz.ntmps195 rfl (fun X => ?_)
 refine wk ?_
 refine Zap (ι := { j : Nat // j ≤ x.keys.length })
  (fun j => [(1, .ptr 1 0), (3, .own 6), (8, .dat (.sl 1 16 (pdS x.keys))), (9, .dat (.val (.int .i64 ((pdS x.keys).length : Nat)))), (10, .dat (.val (.int .i64 (j.1 : Nat))))])
  (fun j => [(1, .box 27 (Zaq (qV x))), (6, .res (Yje (Zcq (x.keys.take j.1) x.l [])))]) (fun j => x.keys.length - j.1) ⟨0, Nat.zero_le _⟩ id ?_ ?_
 ·simp only [List.take_zero, Zcq]
  exact sb
 rintro ⟨j, hj⟩
 by_cases hlt : j < x.keys.length
 ·have hc : decide ((j : Int) < (((pdS x.keys).length : Nat) : Int)) = true := by rw [hks]; simpa using hlt
  obtain ⟨k, hkk⟩ : ∃ k, x.keys[j]? = some k := ⟨_, List.getElem?_eq_getElem hlt⟩
  have i1 : (pdS x.keys)[((j : Nat) : Int).toNat]? = some (.val (.string k)) := Zfp hkk
  by_cases hjl : j < x.l.length
  ·have hc2 : decide ((j : Int) < (((Zb6 x.l).length : Nat) : Int)) = true := by rw [hls]; simpa using hjl
   obtain ⟨y, hy⟩ : ∃ y, x.l[j]? = some y := ⟨_, List.getElem?_eq_getElem hjl⟩
   have i2 : (Zb6 x.l)[((j : Nat) : Int).toNat]? = some (qV y) := (Zff hy).trans (by rw [Zsn])
   have hC := ih y (List.mem_of_getElem? hy)
   have hm := Zk3 (x.keys.take j) x.l []
   have e := Zo9 x.keys x.l [] j k y hkk hy
   have hb : ((Zcq (x.keys.take j) x.l []).length + 1) * 88 ≤ 140737488351232 := by
    have : (x.keys.take j).length ≤ j := by simp; omega
    simp only [List.length_nil] at hm
    omega
   unfold qV at *
   refine wk ?_
   refine Yei rfl rfl rfl rfl hb ?_
   refine wk ?_
   refine Zae ?_
   refine ⟨⟨j + 1, by omega⟩, id, by simp only; omega, ?_⟩
   simp only [e]
   exact sb
  ·have hc2 : decide ((j : Int) < (((Zb6 x.l).length : Nat) : Int)) = false := by rw [hls]; simpa using hjl
   have e := Zo8 x.keys x.l [] j (by omega)
   unfold qV at *
   refine wk ?_
   refine Zae ?_
   refine ⟨⟨j + 1, by omega⟩, id, by simp only; omega, ?_⟩
   simp only [e]
   exact sb
 ·have hc : decide ((j : Int) < (((pdS x.keys).length : Nat) : Int)) = false := by rw [hks]; simpa using hlt
  have e : x.keys.take j = x.keys := List.take_of_length_le (by omega)
  simp only [e]
  unfold qV at *
  refine wk ?_
  refine Za0 () (thk [(0, 6)] 0) (tm := [(2, .own 0)]) ?_ (Za6 rfl rfl)
  exact sb
theorem Zw7 (l : List GV) (ih : ∀ y ∈ l, PCall Tryz.prog 132 [qV y] (pdJ (Za2 y))) (k n : Int) (f : Nat) (s : ByteArray) (ks : List ByteArray) (hk : k = 5) : PCall Tryz.prog 132 [qV (.mk k n f s ks l)] (pdJ (.list (Zdx l))) := by
 refine Zay fun hfit => ?_
 have b0 := (Fits.aggAt (hfit (qV (.mk k n f s ks l)) (by simp)) 5 (d := .sl 6 88 (Zb6 l)) rfl).sl
 have b1 := b0.1
 have b2 := b0.2.1
 clear hfit b0
 have n1 := Zbu l
 rw [n1] at b1 b2
 refine Zaa Tryz.func132 rfl Tryz.ntmps132 rfl (fun X => ?_)
 subst hk
 simp only [qV, GV.kind, GV.n, GV.f, GV.s, GV.keys, GV.l]
 have q0 : (Zb6 l).length * 16 ≤ 140737488351232 := by omega
 refine wk ?_
 refine Zap (ι := { k : Nat // k ≤ l.length })
  (fun k => [(3, .own 100), (36, .dat (.sl 6 88 (Zb6 l))), (37, .dat (.val (.int .i64 ((Zb6 l).length : Nat)))), (38, .dat (.val (.int .i64 (k.1 : Nat))))])
  (fun k => [(100, .row 20 1 16 ((l.take k.1).map fun x => pdJ (Za2 x)))]) (fun k => l.length - k.1) ⟨0, Nat.zero_le _⟩ (fun j => if j = 100 then 34 else j) ?_ ?_
 ·exact sb
 rintro ⟨k, hk⟩
 by_cases hlt : k < l.length
 ·have hc : decide ((k : Int) < (((Zb6 l).length : Nat) : Int)) = true := decide_eq_true (by omega)
  obtain ⟨x, hx⟩ : ∃ x, l[k]? = some x := ⟨_, List.getElem?_eq_getElem hlt⟩
  have hi : (Zb6 l)[((k : Nat) : Int).toNat]? = some (qV x) := (Zff hx).trans (by rw [Zsn])
  have c := ih x (List.mem_of_getElem? hx)
  have hbt : (((l.take k).map fun x => pdJ (Za2 x)).length + [pdJ (Za2 x)].length) * 16 ≤ 140737488351232 := by simp; omega
  have hbl : ((l.take k).map fun x => pdJ (Za2 x)).length + [pdJ (Za2 x)].length ≤ 140737488351232 := by simp; omega
  have e : ((l.take (k + 1)).map fun x => pdJ (Za2 x)) = ((l.take k).map fun x => pdJ (Za2 x)) ++ [pdJ (Za2 x)] := by simp [List.take_add_one, hx]
  generalize ((l.take k).map fun x => pdJ (Za2 x)) = da at *
  unfold qV at *
  refine wk ?_
  refine Zae ?_
  refine ⟨⟨k + 1, by omega⟩, (fun j => if j = 100 then 46 else j), by simp only; omega, ?_⟩
  rw [e]
  exact sb
 ·have hc : decide ((k : Int) < (((Zb6 l).length : Nat) : Int)) = false := decide_eq_false (by omega)
  have hkk : l.take k = l := List.take_of_length_le (by omega)
  simp only [hkk]
  refine Zba (fun _ => false) (fun k => k == 100) ?_
  refine wk ?_
  refine Zaj (Zal rfl rfl ?_)
  have := Yi7 (l := Zdx l) (by rw [Zg7]; exact b1)
  rw [Zo6, List.map_map] at this
  rw [Zo6]
  exact this
theorem Yft : ∀ (x : GV), PCall Tryz.prog 132 [qV x] (pdJ (Za2 x))
 | .mk k n f s ks l => by
  have ih : ∀ x ∈ l, PCall Tryz.prog 132 [qV x] (pdJ (Za2 x)) := fun x _ => Yft x
  by_cases h5 : k = 5
  ·have e : Za2 (.mk k n f s ks l) = .list (Zdx l) := by unfold Za2; subst h5; rfl
   rw [e]
   exact Zw7 l ih k n f s ks h5
  refine Zay fun hfit => ?_
  have b0 := (Fits.aggAt (hfit (qV (.mk k n f s ks l)) (by simp)) 5 (d := .sl 6 88 (Zb6 l)) rfl).sl
  have b1 := (Fits.aggAt (hfit (qV (.mk k n f s ks l)) (by simp)) 4 (d := .sl 1 16 (pdS ks)) rfl).sl.2.1
  rw [Zbu] at b0
  rw [Zb3] at b1
  have c := Ybk (.mk k n f s ks l) ih b0.1 b1
  clear ih hfit b0 b1
  have g5 : decide (k = 5) = false := decide_eq_false h5
  unfold Za2
  simp only [qV, GV.kind, GV.n, GV.f, GV.s, GV.keys, GV.l] at c ⊢
  refine Zaa Tryz.func132 rfl Tryz.ntmps132 rfl (fun X => ?_)
  rw [if_neg h5]
  by_cases h1 : k = 1
  ·have g1 : decide (k = 1) = true := decide_eq_true h1
   rw [if_pos h1]
   refine wk ?_
   rw [show (n != 0) = decide (n ≠ 0) from by simp [bne, Yd8]]
   exact Zaj (Zal rfl rfl (Yi8 (j := .bool (decide (n ≠ 0))) (by simp)))
  have g1 : decide (k = 1) = false := decide_eq_false h1
  rw [if_neg h1]
  by_cases h2 : k = 2
  ·have g2 : decide (k = 2) = true := decide_eq_true h2
   rw [if_pos h2]
   refine wk ?_
   exact Zaj (Zal rfl rfl (Yi8 (j := .int n) (by simp)))
  have g2 : decide (k = 2) = false := decide_eq_false h2
  rw [if_neg h2]
  by_cases h3 : k = 3
  ·have g3 : decide (k = 3) = true := decide_eq_true h3
   rw [if_pos h3]
   refine wk ?_
   exact Zaj (Zal rfl rfl (Yi8 (j := .flt f) (by simp)))
  have g3 : decide (k = 3) = false := decide_eq_false h3
  rw [if_neg h3]
  by_cases h4 : k = 4
  ·have g4 : decide (k = 4) = true := decide_eq_true h4
   rw [if_pos h4]
   refine wk ?_
   exact Zaj (Zal rfl rfl (Yi8 (j := .str s) (by simp)))
  have g4 : decide (k = 4) = false := decide_eq_false h4
  rw [if_neg h4]
  by_cases h6 : k = 6
  ·have g6 : decide (k = 6) = true := decide_eq_true h6
   rw [if_pos h6]
   refine wk ?_
   refine Zb9 (thk [] 200) rfl (by kernel_rfl) c rfl trivial rfl (Zai rfl) rfl ?_
   refine wk ?_
   refine Zba (fun _ => false) (fun k => k == 200) ?_
   exact Zaj (Zal rfl rfl Yn1)
  have g6 : decide (k = 6) = false := decide_eq_false h6
  rw [if_neg h6]
  exact wke
theorem Yhj : Zbr Tryz.prog 193 [.ptr 1000 0] [(1000, .box 274 [])] (.ptr 0 0) [(1000, .box 274 []), (0, .box 315 [.dat (.val .nilIface)])] := by
 refine Zar Tryz.func193 rfl Tryz.ntmps193 rfl (fun X => ?_)
 refine wk ?_
 refine Za0 () (thk [(0, 4)] 0) (tm := [(2, .ptr 0 0)]) ?_ (Za6 rfl rfl)
 exact sb
theorem Yrj (j : JV) : PCall Tryz.prog 131 [pdJ j] (dvV j) := by
 refine Zaa Tryz.func131 rfl Tryz.ntmps131 rfl (fun X => ?_)
 refine wk ?_
 refine Zb9 (thk [(1000, 4)] 200) rfl (by kernel_rfl) Yhj rfl ⟨rfl, trivial⟩ rfl (Zai rfl) rfl ?_
 refine wk ?_
 refine Zb9 (thk [(1000, 200)] 350) rfl (by kernel_rfl) (Ziw (.dat (.val .nilIface)) j) rfl ⟨rfl, trivial⟩ rfl (Zai rfl) rfl ?_
 refine wk ?_
 refine Zba gV (fun k => k == 200) ?_
 exact wke
theorem Zvr (x : GV) : PCall Tryz.prog 68 [qV x] (dvV (Za2 x)) := by
 have c1 := Yft x
 have c2 := Yrj (Za2 x)
 unfold qV at *
 refine Zaa Tryz.func68 rfl Tryz.ntmps68 rfl (fun X => ?_)
 exact wke
instance : MI Tryz.prog 271 "Unstructured" 306 (some 315) := ⟨by kernel_rfl⟩
section
variable {P : Program} {X : Base} {N : Nat} {Q : Exit → Act → World → Prop} {ops : Array Oper} {rem : List Nat} {ks : List Itm} {s s' : Sta}
end
theorem Ypd (j : JV) : PCall Tryz.prog 306 [.agg [pdJ j]] (pdJ j) := by
 refine Zaa Tryz.func306 rfl Tryz.ntmps306 rfl (fun X => ?_)
 repeat' (first
  | refine Zah ?_
  | (refine Zao rfl ?_; first | refine Zad rfl rfl ?_ | refine Zbo rfl rfl rfl ?_ | refine Zbd rfl rfl rfl (by first | rfl | (simp only [Zaq]; rfl)) ?_ | refine Zdb rfl rfl rfl (by first | rfl | (simp only [Zaq]; rfl)) ?_)
  | refine Zac ?_
  | refine Zab ?_
  | refine Zaj (Zal rfl rfl ?_)
  | fail)
 all_goals exact PLe.refl _
theorem Ys6 (m : List (ByteArray × JV)) (k : ByteArray) : PCall Tryz.prog 328 [Zip m, .val (.string k)] (.val (.bool (lkJ m k).isSome)) := by
 refine Zaa Tryz.func328 rfl Tryz.ntmps328 rfl (fun X => ?_)
 cases h : lkJ m k with
 | none =>
  repeat' (first
  | refine Zah ?_
  | (refine Zao rfl ?_; first | refine Zad rfl rfl ?_ | refine Zak rfl rfl ?_ | refine Zcb rfl rfl rfl ?_ | refine Zjx rfl rfl rfl (by assumption) ?_)
  | refine Zac ?_
  | refine Zab ?_
  | refine Zaj (Zal rfl rfl ?_)
  | fail)
  all_goals exact PLe.refl _
 | some x =>
  repeat' (first
  | refine Zah ?_
  | (refine Zao rfl ?_; first | refine Zad rfl rfl ?_ | refine Zak rfl rfl ?_ | refine Zcb rfl rfl rfl ?_ | refine Zjx rfl rfl rfl (by assumption) ?_)
  | refine Zac ?_
  | refine Zab ?_
  | refine Zaj (Zal rfl rfl ?_)
  | fail)
  all_goals exact PLe.refl _
end Go.Proofs.YtgmahieoiifpfaaGreat
section
namespace Go.Proofs.YtgmahieoiifpfaaGreat
theorem Zhu : ∀ (m : List (ByteArray × JV)) (k : ByteArray), lkJ m k = Zc0 m k
 | [], _ => rfl
 | x :: r, k => by unfold lkJ Zc0; rw [Zhu r k]
theorem Yep {α : Type} [DecidableEq α] : ∀ {a l : List α}, a.Nodup → (∀ x ∈ a, x ∈ l) → l.length ≤ a.length → ∀ x ∈ l, x ∈ a
 | a, l, hn, hs, hl, x, hx => by
  by_cases h : x ∈ a
  ·exact h
  ·have := Ze3 (a := x :: a) (l := l) (List.nodup_cons.2 ⟨h, hn⟩) (fun y hy => by
    rcases List.mem_cons.1 hy with rfl | hy
    ·exact hx
    ·exact hs y hy)
   simp at this; omega
theorem Zr0 {a b : List ByteArray} (ha : Zfx a) (hb : Zfx b) (h : ∀ k, k ∈ a ↔ k ∈ b) : a = b := by
 have hg1 : ∀ (l : List ByteArray) (k : ByteArray), k ∈ l → Zc0 (l.map fun k => (k, ())) k = some () := by
  intro l k hk
  induction l with
  | nil => simp at hk
  | cons x r ih =>
   simp only [List.map_cons, Zc0]
   by_cases e : x = k
   ·rw [if_pos e]
   ·rw [if_neg e]
    rcases List.mem_cons.1 hk with h | h
    ·exact absurd h.symm e
    ·exact ih h
 have hg2 : ∀ (l : List ByteArray) (k : ByteArray), k ∉ l → Zc0 (l.map fun k => (k, ())) k = none := by
  intro l k hk
  exact Zey fun e he => by
   obtain ⟨x, hx, rfl⟩ := List.mem_map.1 he
   exact fun e => hk (e ▸ hx)
 have e1 : ∀ l : List ByteArray, (l.map fun k => (k, ())).map (·.1) = l := fun l => by
  induction l with
  | nil => rfl
  | cons x r ih => simp only [List.map_cons, ih]
 have := Zrv (a := a.map fun k => (k, ())) (b := b.map fun k => (k, ())) (by rw [e1]; exact ha) (by rw [e1]; exact hb) (fun k => by
  by_cases hk : k ∈ a
  ·rw [hg1 _ _ hk, hg1 _ _ ((h k).1 hk)]
  ·rw [hg2 _ _ hk, hg2 _ _ (fun hb => hk ((h k).2 hb))])
 have := congrArg (List.map (·.1)) this
 rwa [e1, e1] at this
theorem Zwq {ks : List ByteArray} (h : Zfx ks) : ks.Nodup := List.Pairwise.imp (fun {a b} hab e => by subst e; rw [Zbb] at hab; cases hab) h
theorem Yg6 {α : Type} {ks : List ByteArray} {l : List α} (hl : ks.length = l.length) (hi : Zfx ks) {k : ByteArray} {x : α} : Zc0 (ks.zip l) k = some x ↔ ∃ i : Nat, ks[i]? = some k ∧ l[i]? = some x := by
 constructor
 ·intro h
  obtain ⟨i, hi'⟩ := List.getElem?_of_mem (Zdc h)
  rw [List.getElem?_zip_eq_some] at hi'
  exact ⟨i, hi'⟩
 ·rintro ⟨i, h1, h2⟩
  refine Zgd (by rw [Zj2 hl]; exact Zwq hi) ?_
  exact List.mem_of_getElem? (i := i) (List.getElem?_zip_eq_some.2 ⟨h1, h2⟩)
theorem Zh6 {m : List (ByteArray × JV)} (hd : (m.map (·.1)).Nodup) : ∃ ks l, unM m gMap = .mk 6 0 0 ByteArray.empty ks l ∧ Zfx ks ∧ ks.length = l.length ∧ (∀ k, k ∈ ks ↔ k ∈ m.map (·.1)) ∧ ∀ k x, (∃ i : Nat, ks[i]? = some k ∧ l[i]? = some x) ↔ ∃ j, Zc0 m k = some j ∧ unJ j = x := by
 obtain ⟨ks, l, e, hi, hl⟩ := Zb4 m gMap Zbg
 have hg : ∀ k, Zc0 (ks.zip l) k = (Zc0 m k).map unJ := fun k => by
  have := Zkm m gMap Zbg hd k
  rw [Zn9, Option.or_none, e] at this
  exact this
 have key : ∀ k x, (∃ i : Nat, ks[i]? = some k ∧ l[i]? = some x) ↔ ∃ j, Zc0 m k = some j ∧ unJ j = x := fun k x => by
  rw [← Yg6 hl hi, hg, Option.map_eq_some_iff]
 refine ⟨ks, l, e, hi, hl, fun k => ?_, key⟩
 constructor
 ·intro hk
  obtain ⟨i, hi'⟩ := List.getElem?_of_mem hk
  have hlt := (List.getElem?_eq_some_iff.1 hi').1
  obtain ⟨j, hj, _⟩ := (key k l[i]).1 ⟨i, hi', List.getElem?_eq_getElem (hl ▸ hlt)⟩
  exact List.mem_map_of_mem (f := (·.1)) (Zdc hj)
 ·intro hk
  obtain ⟨y, hy, rfl⟩ := List.mem_map.1 hk
  obtain ⟨i, h1, _⟩ := (key y.1 (unJ y.2)).2 ⟨y.2, Zgd hd hy, rfl⟩
  exact List.mem_of_getElem? h1
end Go.Proofs.YtgmahieoiifpfaaGreat
end
namespace Go.Proofs.YtgmahieoiifpfaaGreat
open Go.RowKit
def Ysi : Option JV → PD
 | some j => dvV j
 | none => .val .nilIface
theorem Yq1 (m : List (ByteArray × JV)) (k : ByteArray) : PCall Tryz.prog 327 [Zip m, dvA, .val (.string k)] (.tup [Ysi (lkJ m k), .val (.bool (lkJ m k).isSome)]) := by
 refine Zaa Tryz.func327 rfl Tryz.ntmps327 rfl (fun X => ?_)
 cases h : lkJ m k with
 | none =>
  have hq : (!false) = true := rfl
  repeat' (first
  | refine Zah ?_
  | (refine Zao rfl ?_; first | refine Zad rfl rfl ?_ | refine Zak rfl rfl ?_ | refine Zcb rfl rfl rfl ?_ | refine Zdm rfl rfl ?_ | refine Zjx rfl rfl rfl (by assumption) ?_)
  | refine Zac ?_
  | refine Zab ?_
  | refine Zan rfl (by first | rfl | assumption) ?_
  | refine Zaj (Zi9 rfl rfl rfl ?_ ?_)
  | fail)
  all_goals exact PLe.refl _
 | some x =>
  repeat' (first
  | refine Zah ?_
  | (refine Zao rfl ?_; first | refine Zad rfl rfl ?_ | refine Zak rfl rfl ?_ | refine Zcb rfl rfl rfl ?_ | refine Zdm rfl rfl ?_ | refine Za5 (thk [] 200) rfl rfl (by kernel_rfl) (Znt) rfl trivial rfl (Zai rfl) rfl ?_ | refine Zb9 (thk [(1000, _)] 200) rfl (by kernel_rfl) (Ziw (.dat (.val .nilIface)) x) rfl ⟨rfl, trivial⟩ rfl (Zai rfl) rfl ?_ | refine Zc9 rfl rfl ?_ | refine Zjx rfl rfl rfl (by assumption) ?_)
  | refine Zac ?_
  | refine Zab ?_
  | refine Zam rfl (by first | rfl | assumption) ?_
  | fail)
  refine Zba gV (fun _ => true) ?_
  refine Zaj (Zi9 rfl rfl rfl ?_ ?_)
  all_goals exact PLe.refl _
theorem Yk2 (d : PD) : PCall Tryz.prog 307 [.ptr (.agg []), d] (.tup []) := by
 intro w F vs hF hvs
 have hl := hvs.length
 refine (calls_of_wp (R := fun e w' => ∃ v, e = .returned v ∧ Below w.heap.size w w' ∧ Rep w' (fun b => F b ∨ (w.heap.size ≤ b ∧ b < w'.heap.size)) (.tup []) v) Tryz.func307 rfl ?_)
 refine wp_skip ?_
 exact ⟨rfl, _, results_none rfl _ _ _, _, rfl, Below.refl _ _, by unfold Rep; exact ⟨[], rfl, by unfold Reps; rfl⟩⟩
theorem Zzv (l : List ByteArray) (k : ByteArray) : pdS l ++ [.val (.string k)] = pdS (l ++ [k]) := by simp [pdS]
theorem Yp6 (l : List ByteArray) (k : ByteArray) (j : JV) (hl : (l.length + 1) * 16 ≤ 140737488351232) :
  Zbr Tryz.prog 341 [.dat (.val (.string k)), .iface 271 (.ptr 1002 0), .ptr 1000 0]
  [(1000, .box 24 [.own 1001]), (1001, .row 9 1 16 (pdS l)), (1002, .box 315 [.dat (pdJ j)])]
  (.dat (.val (.bool true)))
  [(1000, .box 24 [.own 0]), (1001, .dead), (1002, .box 315 [.dat (pdJ j)]), (0, .row 9 1 16 (pdS (l ++ [k])))] := by
 refine Zar Tryz.func341 rfl Tryz.ntmps341 rfl (fun X => ?_)
 have hlen := Zb3 l
 have hb1 : ((pdS l).length + ([.val (.string k)] : List PD).length) * 16 ≤ 140737488351232 := by rw [hlen]; simpa using hl
 have hb2 : (pdS l).length + ([.val (.string k)] : List PD).length ≤ 140737488351232 := by rw [hlen]; simp; omega
 repeat' (first
  | refine Zah ?_
  | (refine Zao rfl ?_; first | refine Zlz rfl rfl rfl rfl rfl rfl (by kernel_rfl) rfl rfl hb1 hb2 ?_ | refine Zad rfl rfl ?_ | refine Zak rfl rfl ?_ | refine Zcy rfl rfl rfl rfl rfl ?_ | refine Zks rfl rfl rfl rfl ?_ | refine Zgv rfl rfl (by kernel_rfl) rfl rfl rfl rfl rfl ?_)
  | refine Zac ?_
  | refine Zab ?_
  | fail)
 refine Za0 () (thk [(0, 9)] 0) (tm := [(5, .dat (.val (.bool true)))]) ?_ (Za6 rfl rfl)
 (refine ⟨?_, ?_, by rfl⟩ <;> repeat' (first | exact trivial | exact ALe.ptr rfl | exact ALe.own rfl | exact ALe.elt rfl | exact BLe.boxD _ _ | exact BLe.row rfl | exact BLe.res | exact BLe.dead rfl | exact ALe.dat (PLe.refl _) | exact CLe.nil | refine And.intro ?_ ?_ | refine ALe.iface ?_ | refine ALe.clo ?_ | refine CLe.cons ?_ ?_ | refine BLe.box ?_ | refine BLe.row ?_ | exact ALe.any _ | refine ALe.dat (PLe.of_eq ?_)))
 all_goals exact Zzv l k
theorem Yp7 (m : List (ByteArray × JV)) (l : List ByteArray) (k : ByteArray) (j : JV) (hl : (l.length + 1) * 16 ≤ 140737488351232) :
  Zbr Tryz.prog 342 [.dat (.val (.string k)), .iface 271 (.ptr 1003 0), .ptr 1000 0, .ptr 1001 0]
  [(1000, .box 321 [.dat (dvM m)]), (1001, .box 24 [.own 1002]), (1002, .row 9 1 16 (pdS l)), (1003, .box 315 [.dat (pdJ j)])]
  (.dat (.val (.bool true)))
  [(1000, .box 321 [.dat (dvM m)]), (1001, .box 24 [.own 0]), (1002, .dead), (1003, .box 315 [.dat (pdJ j)]), (0, .row 9 1 16 (pdS (l ++ if (lkJ m k).isSome then [] else [k])))] := by
 have hH := Ys6 m k
 refine Zar Tryz.func342 rfl Tryz.ntmps342 rfl (fun X => ?_)
 have hlen := Zb3 l
 have hb1 : ((pdS l).length + ([.val (.string k)] : List PD).length) * 16 ≤ 140737488351232 := by rw [hlen]; simpa using hl
 have hb2 : (pdS l).length + ([.val (.string k)] : List PD).length ≤ 140737488351232 := by rw [hlen]; simp; omega
 cases h : (lkJ m k).isSome with
 | true =>
  rw [h] at hH
  repeat' (first
  | refine Zah ?_
  | (refine Zao rfl ?_; first | refine Zad rfl rfl ?_ | refine Zak rfl rfl ?_ | refine Zbd rfl rfl rfl (by first | rfl | (simp only [Zaq]; rfl)) ?_ | refine Zen rfl rfl (by first | rfl | assumption) rfl ?_ | refine Zci rfl rfl rfl (by kernel_rfl) (by exact NilIs.ifc) rfl ?_)
  | refine Zac ?_
  | refine Zab ?_
  | refine Zam rfl (by first | rfl | assumption) ?_
  | (refine Zc4 rfl rfl (by first | rfl | assumption) ?_; first | refine Zak rfl rfl ?_ | refine Zbd rfl rfl rfl (by first | rfl | (simp only [Zaq]; rfl)) ?_ | refine Zdm rfl rfl ?_ | refine Zdp rfl rfl (by kernel_rfl) rfl (by first | exact hH) ?_)
  | refine Zau ?_
  | fail)
  refine Za0 () (thk [(0, 1002)] 0) (tm := [(6, .dat (.val (.bool true)))]) ?_ (Za6 rfl rfl)
  (refine ⟨?_, ?_, by rfl⟩ <;> repeat' (first | exact trivial | exact ALe.ptr rfl | exact ALe.own rfl | exact ALe.elt rfl | exact BLe.boxD _ _ | exact BLe.row rfl | exact BLe.res | exact BLe.dead rfl | exact ALe.dat (PLe.refl _) | exact CLe.nil | refine And.intro ?_ ?_ | refine ALe.iface ?_ | refine ALe.clo ?_ | refine CLe.cons ?_ ?_ | refine BLe.box ?_ | refine BLe.row ?_ | exact ALe.any _ | refine ALe.dat (PLe.of_eq ?_)))
  all_goals simp
 | false =>
  rw [h] at hH
  repeat' (first
  | refine Zah ?_
  | (refine Zao rfl ?_; first | refine Zlz rfl rfl rfl rfl rfl rfl (by kernel_rfl) rfl rfl hb1 hb2 ?_ | refine Zad rfl rfl ?_ | refine Zak rfl rfl ?_ | refine Zbd rfl rfl rfl (by first | rfl | (simp only [Zaq]; rfl)) ?_ | refine Zen rfl rfl (by first | rfl | assumption) rfl ?_ | refine Zcy rfl rfl rfl rfl rfl ?_ | refine Zks rfl rfl rfl rfl ?_ | refine Zgv rfl rfl (by kernel_rfl) rfl rfl rfl rfl rfl ?_ | refine Zci rfl rfl rfl (by kernel_rfl) (by exact NilIs.ifc) rfl ?_)
  | refine Zac ?_
  | refine Zab ?_
  | refine Zan rfl (by first | rfl | assumption) ?_
  | (refine Zc4 rfl rfl (by first | rfl | assumption) ?_; first | refine Zak rfl rfl ?_ | refine Zbd rfl rfl rfl (by first | rfl | (simp only [Zaq]; rfl)) ?_ | refine Zdm rfl rfl ?_ | refine Zdp rfl rfl (by kernel_rfl) rfl (by first | exact hH) ?_)
  | fail)
  refine Za0 () (thk [(0, 18)] 0) (tm := [(6, .dat (.val (.bool true)))]) ?_ (Za6 rfl rfl)
  (refine ⟨?_, ?_, by rfl⟩ <;> repeat' (first | exact trivial | exact ALe.ptr rfl | exact ALe.own rfl | exact ALe.elt rfl | exact BLe.boxD _ _ | exact BLe.row rfl | exact BLe.res | exact BLe.dead rfl | exact ALe.dat (PLe.refl _) | exact CLe.nil | refine And.intro ?_ ?_ | refine ALe.iface ?_ | refine ALe.clo ?_ | refine CLe.cons ?_ ?_ | refine BLe.box ?_ | refine BLe.row ?_ | exact ALe.any _ | refine ALe.dat (PLe.of_eq ?_)))
  all_goals (simp only [Bool.false_eq_true, if_false]; exact Zzv l k)
theorem Zse {m done : List (ByteArray × JV)} {y : ByteArray × JV} (hnd : (done.map (·.1)).Nodup) (hsub : ∀ z ∈ done, z ∈ m) (hy : y ∈ m) (hny : y.1 ∉ done.map (·.1)) : done.length + 1 ≤ m.length := by
 have := Ze3 (a := (done ++ [y]).map (·.1)) (l := m.map (·.1)) (by
  rw [List.map_append, List.nodup_append]
  exact ⟨hnd, by simp, fun a ha b hb => by simp at hb; subst hb; exact fun e => hny (e ▸ ha)⟩) (fun x hx => by
  obtain ⟨z, hz, rfl⟩ := List.mem_map.1 hx
  rcases List.mem_append.1 hz with hz | hz
  ·exact List.mem_map_of_mem (hsub z hz)
  ·simp at hz; rw [hz]; exact List.mem_map_of_mem hy)
 simpa using this
theorem Zsf {done : List (ByteArray × JV)} {y : ByteArray × JV} (hnd : (done.map (·.1)).Nodup) (hny : y.1 ∉ done.map (·.1)) : ((done ++ [y]).map (·.1)).Nodup := by
 rw [List.map_append, List.nodup_append]
 exact ⟨hnd, by simp, fun a ha b hb => by simp at hb; subst hb; exact fun e => hny (e ▸ ha)⟩
theorem Zng {m done : List (ByteArray × JV)} {y : ByteArray × JV} (hsub : ∀ z ∈ done, z ∈ m) (hy : y ∈ m) : ∀ z ∈ done ++ [y], z ∈ m := by
 intro z hz
 rcases List.mem_append.1 hz with hz | hz
 ·exact hsub z hz
 ·simp at hz; rw [hz]; exact hy
theorem Zrd {m done : List (ByteArray × JV)} (hm : (m.map (·.1)).Nodup) (hnd : (done.map (·.1)).Nodup) (hsub : ∀ z ∈ done, z ∈ m) (hev : ∀ y ∈ m, y ∈ done) : (done.map (·.1)).Perm (m.map (·.1)) :=
 (List.perm_ext_iff_of_nodup hnd hm).2 fun k => ⟨fun h => by
  obtain ⟨z, hz, rfl⟩ := List.mem_map.1 h
  exact List.mem_map_of_mem (hsub z hz), fun h => by
  obtain ⟨z, hz, rfl⟩ := List.mem_map.1 h
  exact List.mem_map_of_mem (hev z hz)⟩
theorem Yni (m : List (ByteArray × JV)) (l : List ByteArray) (hm : (m.map (·.1)).Nodup) (hl : (l.length + m.length) * 16 ≤ 140737488351232) :
  Zid Tryz.prog 330 [.dat (Zip m), .dat dvA, .clo 341 [.ptr 1000 0]]
  [(1000, .box 24 [.own 1001]), (1001, .row 9 1 16 (pdS l))] (ι := { q : List ByteArray // q.Perm (m.map (·.1)) })
  (fun _ => .dat (.val (.bool true))) (fun q => [(1000, .box 24 [.own 0]), (1001, .dead), (0, .row 9 1 16 (pdS (l ++ q.1)))]) := by
 refine Zar Tryz.func330 rfl Tryz.ntmps330 rfl (fun X => ?_)
 by_cases hn : m = []
 ·subst hn
  have hq : decide (((([] : List (ByteArray × JV)).length : Nat) : Int) = 0) = true := rfl
  repeat' (first
  | refine Zah ?_
  | (refine Zao rfl ?_; first | refine Zad rfl rfl ?_ | refine Zak rfl rfl ?_ | refine Zaz rfl rfl rfl rfl ?_ | refine Zmj rfl rfl ?_)
  | refine Zac ?_
  | refine Zab ?_
  | refine Zan rfl (by first | rfl | assumption) ?_
  | fail)
  refine Za0 ⟨[], .refl _⟩ (thk [(0, 1001)] 0) (tm := [(6, .dat (.val (.bool true)))]) ?_ (Za6 rfl rfl)
  (refine ⟨?_, ?_, by rfl⟩ <;> repeat' (first | exact trivial | exact ALe.ptr rfl | exact ALe.own rfl | exact ALe.elt rfl | exact BLe.boxD _ _ | exact BLe.row rfl | exact BLe.res | exact BLe.dead rfl | exact ALe.dat (PLe.refl _) | exact CLe.nil | refine And.intro ?_ ?_ | refine ALe.iface ?_ | refine ALe.clo ?_ | refine CLe.cons ?_ ?_ | refine BLe.box ?_ | refine BLe.row ?_ | exact ALe.any _ | refine ALe.dat (PLe.of_eq ?_)))
  all_goals simp
 ·have hq : decide (((m.length : Nat) : Int) = 0) = false := by
   cases m with
   | nil => exact absurd rfl hn
   | cons x r => simp; omega
  repeat' (first
  | refine Zah ?_
  | (refine Zao rfl ?_; first | refine Zne rfl rfl rfl ?_ | refine Zad rfl rfl ?_ | refine Zak rfl rfl ?_ | refine Zaz rfl rfl rfl rfl ?_ | refine Zgf rfl rfl ?_ | refine Zft rfl rfl ?_ | refine Za5 (thk [] 200) rfl rfl (by kernel_rfl) (Znt) rfl trivial rfl (Zai rfl) rfl ?_ | refine Zgw rfl rfl ?_ | refine Zfi rfl rfl (by kernel_rfl) ?_ | refine Zmj rfl rfl ?_ | refine Zd6 rfl Zcx ?_)
  | refine Zac ?_
  | refine Zab ?_
  | refine Zam rfl (by first | rfl | assumption) ?_
  | refine Zav ?_
  | refine Zau ?_
  | fail)
  refine Zap (ι := { done : List (ByteArray × JV) // (done.map (·.1)).Nodup ∧ (∀ y ∈ done, y ∈ m) })
   (fun k => [(2, .clo 341 [.ptr 1000 0]), (7, .ptr 200 0), (20, .own 20)])
   (fun k => [(20, .res (itR m k.1)), (200, .box 315 [.any]), (1000, .box 24 [.own 300]), (1001, .dead), (300, .row 9 1 16 (pdS (l ++ k.1.map (·.1))))])
   (fun k => m.length - k.1.length) ⟨[], by simp, by simp⟩ (thk [(300, 1001)] 0) ?_ ?_
  ·(refine ⟨?_, ?_, by rfl⟩ <;> repeat' (first | exact trivial | exact ALe.ptr rfl | exact ALe.own rfl | exact ALe.elt rfl | exact BLe.boxD _ _ | exact BLe.row rfl | exact BLe.res | exact BLe.dead rfl | exact ALe.dat (PLe.refl _) | exact CLe.nil | refine And.intro ?_ ?_ | refine ALe.iface ?_ | refine ALe.clo ?_ | refine CLe.cons ?_ ?_ | refine BLe.box ?_ | refine BLe.row ?_ | exact ALe.any _ | refine ALe.dat (PLe.of_eq ?_)))
   all_goals simp
  rintro ⟨done, hnd, hsub⟩
  repeat' (first
  | refine Zah ?_
  | refine Zab ?_
  | fail)
  refine Zao rfl (Zr8 rfl rfl rfl (fun hev => ?_) (fun y hy hny => ?_))
  ·repeat' (first
  | refine Zah ?_
  | (refine Zao rfl ?_; first | refine Zad rfl rfl ?_ | refine Zcb rfl rfl rfl ?_)
  | refine Zac ?_
  | refine Zab ?_
  | refine Zam rfl (by first | rfl | assumption) ?_
  | refine Zfk rfl ?_
  | fail)
   refine Za0 ⟨done.map (·.1), Zrd hm hnd hsub hev⟩ (thk [(0, 300)] 0) (tm := [(6, .dat (.val (.bool true)))]) ?_ (Za6 rfl rfl)
   (refine ⟨?_, ?_, by rfl⟩ <;> repeat' (first | exact trivial | exact ALe.ptr rfl | exact ALe.own rfl | exact ALe.elt rfl | exact BLe.boxD _ _ | exact BLe.row rfl | exact BLe.res | exact BLe.dead rfl | exact ALe.dat (PLe.refl _) | exact CLe.nil | refine And.intro ?_ ?_ | refine ALe.iface ?_ | refine ALe.clo ?_ | refine CLe.cons ?_ ?_ | refine BLe.box ?_ | refine BLe.row ?_ | exact ALe.any _ | refine ALe.dat (PLe.of_eq ?_)))
  ·have hml := Zse hnd hsub hy hny
   have hC := Yp6 (l ++ done.map (·.1)) y.1 y.2 (by simp; omega)
   have hq1 : (!true) = false := rfl
   repeat' (first
  | refine Zah ?_
  | (refine Zao rfl ?_; first | refine Zkr rfl rfl rfl ?_ | refine Zad rfl rfl ?_ | refine Zak rfl rfl ?_ | refine Zcb rfl rfl rfl ?_ | refine Zdm rfl rfl ?_ | refine Zft rfl rfl ?_ | refine Zb9 (thk [(1000, _)] 200) rfl (by kernel_rfl) (Ziw .any _) rfl ⟨rfl, trivial⟩ rfl (Zai rfl) rfl ?_ | refine Zfs (thk [(1000, _), (1001, _), (1002, _)] 350) rfl rfl (by kernel_rfl) (hC) rfl ⟨rfl, ⟨rfl, ⟨rfl, trivial⟩⟩⟩ rfl (Zai rfl) rfl ?_ | refine Zht rfl rfl ?_)
  | refine Zac ?_
  | refine Zab ?_
  | refine Zan rfl (by first | rfl | assumption) ?_
  | refine Zam rfl (by first | rfl | assumption) ?_
  | refine Zav ?_
  | refine Zbw ?_
  | refine Zau ?_
  | fail)
   refine Zae ?_
   refine ⟨⟨done ++ [y], Zsf hnd hny, Zng hsub hy⟩, thk [(300, 350)] 0, by simp only [List.length_append, List.length_cons, List.length_nil]; omega, ?_⟩
   (refine ⟨?_, ?_, by rfl⟩ <;> repeat' (first | exact trivial | exact ALe.ptr rfl | exact ALe.own rfl | exact ALe.elt rfl | exact BLe.boxD _ _ | exact BLe.row rfl | exact BLe.res | exact BLe.dead rfl | exact ALe.dat (PLe.refl _) | exact CLe.nil | refine And.intro ?_ ?_ | refine ALe.iface ?_ | refine ALe.clo ?_ | refine CLe.cons ?_ ?_ | refine BLe.box ?_ | refine BLe.row ?_ | exact ALe.any _ | refine ALe.dat (PLe.of_eq ?_)))
   all_goals simp
theorem Ynj (p m : List (ByteArray × JV)) (l : List ByteArray) (hm : (m.map (·.1)).Nodup) (hl : (l.length + m.length) * 16 ≤ 140737488351232) :
  Zid Tryz.prog 330 [.dat (Zip m), .dat dvA, .clo 342 [.ptr 1000 0, .ptr 1001 0]]
  [(1000, .box 321 [.dat (dvM p)]), (1001, .box 24 [.own 1002]), (1002, .row 9 1 16 (pdS l))] (ι := { q : List ByteArray // q.Perm ((m.map (·.1)).filter fun k => !(lkJ p k).isSome) })
  (fun _ => .dat (.val (.bool true))) (fun q => [(1000, .box 321 [.dat (dvM p)]), (1001, .box 24 [.own 0]), (1002, .dead), (0, .row 9 1 16 (pdS (l ++ q.1)))]) := by
 refine Zar Tryz.func330 rfl Tryz.ntmps330 rfl (fun X => ?_)
 by_cases hn : m = []
 ·subst hn
  have hq : decide (((([] : List (ByteArray × JV)).length : Nat) : Int) = 0) = true := rfl
  repeat' (first
  | refine Zah ?_
  | (refine Zao rfl ?_; first | refine Zad rfl rfl ?_ | refine Zak rfl rfl ?_ | refine Zaz rfl rfl rfl rfl ?_ | refine Zmj rfl rfl ?_)
  | refine Zac ?_
  | refine Zab ?_
  | refine Zan rfl (by first | rfl | assumption) ?_
  | fail)
  refine Za0 ⟨[], .refl _⟩ (thk [(0, 1002)] 0) (tm := [(6, .dat (.val (.bool true)))]) ?_ (Za6 rfl rfl)
  (refine ⟨?_, ?_, by rfl⟩ <;> repeat' (first | exact trivial | exact ALe.ptr rfl | exact ALe.own rfl | exact ALe.elt rfl | exact BLe.boxD _ _ | exact BLe.row rfl | exact BLe.res | exact BLe.dead rfl | exact ALe.dat (PLe.refl _) | exact CLe.nil | refine And.intro ?_ ?_ | refine ALe.iface ?_ | refine ALe.clo ?_ | refine CLe.cons ?_ ?_ | refine BLe.box ?_ | refine BLe.row ?_ | exact ALe.any _ | refine ALe.dat (PLe.of_eq ?_)))
  all_goals simp
 ·have hq : decide (((m.length : Nat) : Int) = 0) = false := by
   cases m with
   | nil => exact absurd rfl hn
   | cons x r => simp; omega
  repeat' (first
  | refine Zah ?_
  | (refine Zao rfl ?_; first | refine Zne rfl rfl rfl ?_ | refine Zad rfl rfl ?_ | refine Zak rfl rfl ?_ | refine Zaz rfl rfl rfl rfl ?_ | refine Zgf rfl rfl ?_ | refine Zft rfl rfl ?_ | refine Za5 (thk [] 200) rfl rfl (by kernel_rfl) (Znt) rfl trivial rfl (Zai rfl) rfl ?_ | refine Zgw rfl rfl ?_ | refine Zfi rfl rfl (by kernel_rfl) ?_ | refine Zmj rfl rfl ?_ | refine Zd6 rfl Zcx ?_)
  | refine Zac ?_
  | refine Zab ?_
  | refine Zam rfl (by first | rfl | assumption) ?_
  | refine Zav ?_
  | refine Zau ?_
  | fail)
  refine Zap (ι := { done : List (ByteArray × JV) // (done.map (·.1)).Nodup ∧ (∀ y ∈ done, y ∈ m) })
   (fun k => [(2, .clo 342 [.ptr 1000 0, .ptr 1001 0]), (7, .ptr 200 0), (20, .own 20)])
   (fun k => [(20, .res (itR m k.1)), (200, .box 315 [.any]), (1000, .box 321 [.dat (dvM p)]), (1001, .box 24 [.own 300]), (1002, .dead), (300, .row 9 1 16 (pdS (l ++ (k.1.map (·.1)).filter fun k => !(lkJ p k).isSome)))])
   (fun k => m.length - k.1.length) ⟨[], by simp, by simp⟩ (thk [(300, 1002)] 0) ?_ ?_
  ·(refine ⟨?_, ?_, by rfl⟩ <;> repeat' (first | exact trivial | exact ALe.ptr rfl | exact ALe.own rfl | exact ALe.elt rfl | exact BLe.boxD _ _ | exact BLe.row rfl | exact BLe.res | exact BLe.dead rfl | exact ALe.dat (PLe.refl _) | exact CLe.nil | refine And.intro ?_ ?_ | refine ALe.iface ?_ | refine ALe.clo ?_ | refine CLe.cons ?_ ?_ | refine BLe.box ?_ | refine BLe.row ?_ | exact ALe.any _ | refine ALe.dat (PLe.of_eq ?_)))
   all_goals simp
  rintro ⟨done, hnd, hsub⟩
  repeat' (first
  | refine Zah ?_
  | refine Zab ?_
  | fail)
  refine Zao rfl (Zr8 rfl rfl rfl (fun hev => ?_) (fun y hy hny => ?_))
  ·repeat' (first
  | refine Zah ?_
  | (refine Zao rfl ?_; first | refine Zad rfl rfl ?_ | refine Zcb rfl rfl rfl ?_)
  | refine Zac ?_
  | refine Zab ?_
  | refine Zam rfl (by first | rfl | assumption) ?_
  | refine Zfk rfl ?_
  | fail)
   refine Za0 ⟨(done.map (·.1)).filter fun k => !(lkJ p k).isSome, (Zrd hm hnd hsub hev).filter _⟩ (thk [(0, 300)] 0) (tm := [(6, .dat (.val (.bool true)))]) ?_ (Za6 rfl rfl)
   (refine ⟨?_, ?_, by rfl⟩ <;> repeat' (first | exact trivial | exact ALe.ptr rfl | exact ALe.own rfl | exact ALe.elt rfl | exact BLe.boxD _ _ | exact BLe.row rfl | exact BLe.res | exact BLe.dead rfl | exact ALe.dat (PLe.refl _) | exact CLe.nil | refine And.intro ?_ ?_ | refine ALe.iface ?_ | refine ALe.clo ?_ | refine CLe.cons ?_ ?_ | refine BLe.box ?_ | refine BLe.row ?_ | exact ALe.any _ | refine ALe.dat (PLe.of_eq ?_)))
  ·have hml := Zse hnd hsub hy hny
   have hfl := List.length_filter_le (fun k => !(lkJ p k).isSome) (done.map (·.1))
   have hC := Yp7 p (l ++ (done.map (·.1)).filter fun k => !(lkJ p k).isSome) y.1 y.2 (by simp at hfl ⊢; omega)
   have hq1 : (!true) = false := rfl
   repeat' (first
  | refine Zah ?_
  | (refine Zao rfl ?_; first | refine Zkr rfl rfl rfl ?_ | refine Zad rfl rfl ?_ | refine Zak rfl rfl ?_ | refine Zcb rfl rfl rfl ?_ | refine Zdm rfl rfl ?_ | refine Zft rfl rfl ?_ | refine Zb9 (thk [(1000, _)] 200) rfl (by kernel_rfl) (Ziw .any _) rfl ⟨rfl, trivial⟩ rfl (Zai rfl) rfl ?_ | refine Zfs (thk [(1000, _), (1001, _), (1002, _), (1003, _)] 350) rfl rfl (by kernel_rfl) (hC) rfl ⟨rfl, ⟨rfl, ⟨rfl, ⟨rfl, trivial⟩⟩⟩⟩ rfl (Zai rfl) rfl ?_ | refine Zht rfl rfl ?_)
  | refine Zac ?_
  | refine Zab ?_
  | refine Zan rfl (by first | rfl | assumption) ?_
  | refine Zam rfl (by first | rfl | assumption) ?_
  | refine Zav ?_
  | refine Zbw ?_
  | refine Zau ?_
  | fail)
   refine Zae ?_
   refine ⟨⟨done ++ [y], Zsf hnd hny, Zng hsub hy⟩, thk [(300, 350)] 0, by simp only [List.length_append, List.length_cons, List.length_nil]; omega, ?_⟩
   (refine ⟨?_, ?_, by rfl⟩ <;> repeat' (first | exact trivial | exact ALe.ptr rfl | exact ALe.own rfl | exact ALe.elt rfl | exact BLe.boxD _ _ | exact BLe.row rfl | exact BLe.res | exact BLe.dead rfl | exact ALe.dat (PLe.refl _) | exact CLe.nil | refine And.intro ?_ ?_ | refine ALe.iface ?_ | refine ALe.clo ?_ | refine CLe.cons ?_ ?_ | refine BLe.box ?_ | refine BLe.row ?_ | exact ALe.any _ | refine ALe.dat (PLe.of_eq ?_)))
   all_goals
    rw [List.map_append, List.filter_append, show List.filter (fun k => !(lkJ p k).isSome) ([y].map (·.1)) = (if (lkJ p y.1).isSome then [] else [y.1]) by
     simp only [List.map_cons, List.map_nil, List.filter_cons, List.filter_nil]
     cases hs : (lkJ p y.1).isSome <;> rfl, List.append_assoc]
def feq (f g : Nat) : Bool := FloatKind.f64.format.order f g == some Ordering.eq
mutual
/-- No NaN, no whole number beyond 2^53. -/
def Zjg : GV → Bool
 | .mk k n f _ _ l => if k = 2 then decide (-9007199254740992 ≤ n) && decide (n ≤ 9007199254740992) else if k = 3 then feq f f else if k = 5 then Zmo l else if k = 6 then Zmo l else true
def Zmo : List GV → Bool
 | [] => true
 | x :: r => Zjg x && Zmo r
end
theorem ordL_iff : ∀ {l : List GV}, Zmo l = true ↔ ∀ y ∈ l, Zjg y = true
 | [] => by simp [Zmo]
 | x :: r => by simp [Zmo, ordL_iff (l := r)]
def OrdC (x : GV) : Prop := ∀ (w : World) (v : Value), IsV w (Btw 0 w.heap.size) x v → Calls Tryz.prog 93 #[v] w fun e w' => e = .returned (.bool (Zjg x)) ∧ Below w.heap.size w w'
theorem OrdC.use {x : GV} (h : OrdC x) (w : World) (v : Value) (hv : IsV w (Btw 0 w.heap.size) x v) : Calls Tryz.prog 93 #[v] w fun e w' => e = .returned (.bool (Zjg x)) ∧ Below w.heap.size w w' := h w v hv
theorem Yog (n : Int) (f : Nat) (s : ByteArray) (ks : List ByteArray) (l : List GV) : OrdC (.mk 3 n f s ks l) := by
 intro w v hv
 obtain ⟨a0, c0, a1, c1, rfl⟩ := hv.form
 simp only [GV.kind, GV.n, GV.f, GV.s, GV.keys, GV.l]
 clear hv
 have e : Zjg (.mk 3 n f s ks l) = feq f f := by simp [Zjg]
 rw [e]
 go_enter Tryz.func93, Tryz.ntmps93
 go_wp2_with fail
 go_ret
 exact ⟨rfl, (Below.refl _ _).alloc (Nat.le_refl _) _⟩
theorem Yoh (n : Int) (f : Nat) (s : ByteArray) (ks : List ByteArray) (l : List GV) : OrdC (.mk 2 n f s ks l) := by
 intro w v hv
 obtain ⟨a0, c0, a1, c1, rfl⟩ := hv.form
 simp only [GV.kind, GV.n, GV.f, GV.s, GV.keys, GV.l]
 clear hv
 have e : Zjg (.mk 2 n f s ks l) = (decide (-9007199254740992 ≤ n) && decide (n ≤ 9007199254740992)) := by simp [Zjg]
 rw [e]
 by_cases h1 : -9007199254740992 ≤ n
 ·have e1 : decide (-9007199254740992 ≤ n) = true := by simpa using h1
  rw [e1, Bool.true_and]
  go_enter Tryz.func93, Tryz.ntmps93
  go_wp2_with fail
  go_ret
  exact ⟨rfl, (Below.refl _ _).alloc (Nat.le_refl _) _⟩
 ·have e1 : decide (-9007199254740992 ≤ n) = false := by simpa using h1
  rw [e1, Bool.false_and]
  go_enter Tryz.func93, Tryz.ntmps93
  go_wp2_with fail
  go_ret
  exact ⟨rfl, (Below.refl _ _).alloc (Nat.le_refl _) _⟩
theorem Yfn (k n : Int) (f : Nat) (s : ByteArray) (ks : List ByteArray) (l : List GV) (h2 : k ≠ 2) (h3 : k ≠ 3) (h5 : k ≠ 5) (h6 : k ≠ 6) : OrdC (.mk k n f s ks l) := by
 intro w v hv
 obtain ⟨a0, c0, a1, c1, rfl⟩ := hv.form
 simp only [GV.kind, GV.n, GV.f, GV.s, GV.keys, GV.l]
 clear hv
 have e : Zjg (.mk k n f s ks l) = true := by simp [Zjg, h2, h3, h5, h6]
 rw [e]
 have k2 : (k == 2) = false := by simp [h2]
 have k3 : (k == 3) = false := by simp [h3]
 have k5 : (k == 5) = false := by simp [h5]
 have k6 : (k == 6) = false := by simp [h6]
 go_enter Tryz.func93, Tryz.ntmps93
 go_wp2_with fail
 go_ret
 exact ⟨rfl, (Below.refl _ _).alloc (Nat.le_refl _) _⟩
theorem Yfl (n : Int) (f : Nat) (s : ByteArray) (ks : List ByteArray) (l : List GV) (ih : ∀ y ∈ l, OrdC y) : OrdC (.mk 5 n f s ks l) := by
 intro w v hv
 have hl88 := hv.len
 have hv0 := hv
 obtain ⟨a0, c0, a1, c1, rfl⟩ := hv.form
 have hl := hv0.vals
 simp only [GV.kind, GV.n, GV.f, GV.s, GV.keys, GV.l] at hl hl88 ⊢
 clear hv hv0
 have e : Zjg (.mk 5 n f s ks l) = Zmo l := by simp [Zjg]
 rw [e]
 go_enter Tryz.func93, Tryz.ntmps93
 go_wp2_with fail
 have hB0 : Below w.heap.size w (w.alloc (.cells #[.int .i64 5, .int .i64 n, .float .f64 f, .string s, .slice a0 ks.length c0, .slice a1 l.length c1] 27)) := (Below.refl _ _).alloc (Nat.le_refl _) _
 generalize w.alloc (.cells #[.int .i64 5, .int .i64 n, .float .f64 f, .string s, .slice a0 ks.length c0, .slice a1 l.length c1] 27) = w0 at *
 go_loopw [30] (fun i wr => ∃ k : Nat, k ≤ l.length ∧ i = .int .i64 (k : Nat) ∧ Below w.heap.size w wr ∧ ∀ y ∈ l.take k, Zjg y = true) (fun i _ => l.length - (intOf i).toNat)
 case atStart => exact ⟨0, Nat.zero_le _, rfl, hB0, by simp⟩
 case round =>
  clear hB0
  obtain ⟨k, hk, rfl, hB, hall⟩ := hrel
  by_cases hlt : k < l.length
  ·obtain ⟨b, o, hb, rfl, hcells⟩ := Zxf hl (by omega)
   obtain ⟨y, hy⟩ : ∃ y, l[k]? = some y := ⟨l[k], by simp [hlt]⟩
   obtain ⟨e0, f0, e1, f1, g0, g1, g2, g3, g4, g5, hyv⟩ := (IsVs.keep (S' := Btw 0 wr.heap.size) (Btw.kept hB) (Btw.mono (Nat.le_refl _) hB.size) l b o hb hcells).cells hy
   have hc := ih y (List.mem_of_getElem? hy)
   have hyA := hyv.alloc_ (.cells #[.int .i64 y.kind, .int .i64 y.n, .float .f64 y.f, .string y.s, .slice e0 y.keys.length f0, .slice e1 y.l.length f1] 27)
   have HY := Lib.hid (And.intro hy (And.intro hall hB))
   have j0 : (0 : Int) ≤ (k : Int) := by omega
   have j1 : (k : Int) < (l.length : Int) := by omega
   have hs := hB.size
   clear hy hall hB hcells hyv
   go_wp2_with (go_at_call 93; (with_reducible refine (hc.use _ _ ?_).mono ?_))
   ·simpa using hyA
   rintro e w2 ⟨rfl, hB2'⟩
   obtain ⟨hy, hall, hB⟩ := HY.out
   have hB2 : Below w.heap.size w w2 := (hB.alloc hs (.cells #[.int .i64 y.kind, .int .i64 y.n, .float .f64 y.f, .string y.s, .slice e0 y.keys.length f0, .slice e1 y.l.length f1] 27)).trans (hB2'.mono (by simp; omega))
   clear g0 g1 g2 g3 g4 g5 hyA hc HY hB2'
   cases ho : Zjg y with
   | false =>
    have hf : Zmo l = false := by
     cases h : Zmo l with
     | false => rfl
     | true => rw [ordL_iff.1 h y (List.mem_of_getElem? hy)] at ho; cases ho
    go_wp2_with fail
    go_ret
    rw [hf]
    exact ⟨rfl, hB2⟩
   | true =>
    have HF := Lib.hid (show ∀ z ∈ l.take (k + 1), Zjg z = true from fun z hz => by
     rw [List.take_add_one, hy] at hz
     rcases List.mem_append.1 hz with hz | hz
     ·exact hall z hz
     ·simp at hz; subst hz; exact ho)
    clear hall hy hB
    go_wp2_with fail
    go_roundw
    case rel => exact ⟨k + 1, hlt, by go_num, hB2, HF.out⟩
    case measure => simp [intOf]; omega
  ·have hkl : k = l.length := by omega
   subst hkl
   have ht : Zmo l = true := ordL_iff.2 (by rw [List.take_length] at hall; exact hall)
   have HT := Lib.hid ht
   clear ht hall
   go_wp2_with fail
   go_ret
   rw [HT.out]
   exact ⟨rfl, hB⟩
theorem Yfm (n : Int) (f : Nat) (s : ByteArray) (ks : List ByteArray) (l : List GV) (ih : ∀ y ∈ l, OrdC y) : OrdC (.mk 6 n f s ks l) := by
 intro w v hv
 have hl88 := hv.len
 have hv0 := hv
 obtain ⟨a0, c0, a1, c1, rfl⟩ := hv.form
 have hl := hv0.vals
 simp only [GV.kind, GV.n, GV.f, GV.s, GV.keys, GV.l] at hl hl88 ⊢
 clear hv hv0
 have e : Zjg (.mk 6 n f s ks l) = Zmo l := by simp [Zjg]
 rw [e]
 go_enter Tryz.func93, Tryz.ntmps93
 go_wp2_with fail
 have hB0 : Below w.heap.size w (w.alloc (.cells #[.int .i64 6, .int .i64 n, .float .f64 f, .string s, .slice a0 ks.length c0, .slice a1 l.length c1] 27)) := (Below.refl _ _).alloc (Nat.le_refl _) _
 generalize w.alloc (.cells #[.int .i64 6, .int .i64 n, .float .f64 f, .string s, .slice a0 ks.length c0, .slice a1 l.length c1] 27) = w0 at *
 go_loopw [30] (fun i wr => ∃ k : Nat, k ≤ l.length ∧ i = .int .i64 (k : Nat) ∧ Below w.heap.size w wr ∧ ∀ y ∈ l.take k, Zjg y = true) (fun i _ => l.length - (intOf i).toNat)
 case atStart => exact ⟨0, Nat.zero_le _, rfl, hB0, by simp⟩
 case round =>
  clear hB0
  obtain ⟨k, hk, rfl, hB, hall⟩ := hrel
  by_cases hlt : k < l.length
  ·obtain ⟨b, o, hb, rfl, hcells⟩ := Zxf hl (by omega)
   obtain ⟨y, hy⟩ : ∃ y, l[k]? = some y := ⟨l[k], by simp [hlt]⟩
   obtain ⟨e0, f0, e1, f1, g0, g1, g2, g3, g4, g5, hyv⟩ := (IsVs.keep (S' := Btw 0 wr.heap.size) (Btw.kept hB) (Btw.mono (Nat.le_refl _) hB.size) l b o hb hcells).cells hy
   have hc := ih y (List.mem_of_getElem? hy)
   have hyA := hyv.alloc_ (.cells #[.int .i64 y.kind, .int .i64 y.n, .float .f64 y.f, .string y.s, .slice e0 y.keys.length f0, .slice e1 y.l.length f1] 27)
   have HY := Lib.hid (And.intro hy (And.intro hall hB))
   have j0 : (0 : Int) ≤ (k : Int) := by omega
   have j1 : (k : Int) < (l.length : Int) := by omega
   have hs := hB.size
   clear hy hall hB hcells hyv
   go_wp2_with (go_at_call 93; (with_reducible refine (hc.use _ _ ?_).mono ?_))
   ·simpa using hyA
   rintro e w2 ⟨rfl, hB2'⟩
   obtain ⟨hy, hall, hB⟩ := HY.out
   have hB2 : Below w.heap.size w w2 := (hB.alloc hs (.cells #[.int .i64 y.kind, .int .i64 y.n, .float .f64 y.f, .string y.s, .slice e0 y.keys.length f0, .slice e1 y.l.length f1] 27)).trans (hB2'.mono (by simp; omega))
   clear g0 g1 g2 g3 g4 g5 hyA hc HY hB2'
   cases ho : Zjg y with
   | false =>
    have hf : Zmo l = false := by
     cases h : Zmo l with
     | false => rfl
     | true => rw [ordL_iff.1 h y (List.mem_of_getElem? hy)] at ho; cases ho
    go_wp2_with fail
    go_ret
    rw [hf]
    exact ⟨rfl, hB2⟩
   | true =>
    have HF := Lib.hid (show ∀ z ∈ l.take (k + 1), Zjg z = true from fun z hz => by
     rw [List.take_add_one, hy] at hz
     rcases List.mem_append.1 hz with hz | hz
     ·exact hall z hz
     ·simp at hz; subst hz; exact ho)
    clear hall hy hB
    go_wp2_with fail
    go_roundw
    case rel => exact ⟨k + 1, hlt, by go_num, hB2, HF.out⟩
    case measure => simp [intOf]; omega
  ·have hkl : k = l.length := by omega
   subst hkl
   have ht : Zmo l = true := ordL_iff.2 (by rw [List.take_length] at hall; exact hall)
   have HT := Lib.hid ht
   clear ht hall
   go_wp2_with fail
   go_ret
   rw [HT.out]
   exact ⟨rfl, hB⟩
theorem Zw6 : ∀ x : GV, OrdC x
 | .mk k n f s ks l => by
  have ih : ∀ y ∈ l, OrdC y := fun y hy => Zw6 y
  by_cases h2 : k = 2
  ·subst h2; exact Yoh n f s ks l
  by_cases h3 : k = 3
  ·subst h3; exact Yog n f s ks l
  by_cases h5 : k = 5
  ·subst h5; exact Yfl n f s ks l ih
  by_cases h6 : k = 6
  ·subst h6; exact Yfm n f s ks l ih
  exact Yfn k n f s ks l h2 h3 h5 h6
termination_by x => SizeOf.sizeOf x
decreasing_by
 have := List.sizeOf_lt_of_mem hy
 simp; omega
mutual
/-- Two trees are equal: as value.Equals has it. -/
def eqJ : JV → JV → Bool
 | .flt a, .flt b => feq a b
 | .flt a, .int n => feq a (floatOfInt .f64 n)
 | .int n, .flt b => feq (floatOfInt .f64 n) b
 | .int a, .int b => decide (a = b)
 | .str a, .str b => decide (a = b)
 | .bool a, .bool b => a == b
 | .list a, .list b => Zna a b
 | .map a, .map b => Nat.beq a.length b.length && Ydh a b
 | .null, .null => true
 | _, _ => false
termination_by _ k => SizeOf.sizeOf k
def Zna : List JV → List JV → Bool
 | [], [] => true
 | x :: r, y :: q => eqJ x y && Zna r q
 | _, _ => false
termination_by _ k => SizeOf.sizeOf k
def Ydh : List (ByteArray × JV) → List (ByteArray × JV) → Bool
 | _, [] => true
 | a, y :: q => (match lkJ a y.1 with | some x => eqJ x y.2 | none => false) && Ydh a q
termination_by _ k => SizeOf.sizeOf k
decreasing_by
 all_goals simp_wf
 ·obtain ⟨y1, y2⟩ := y; simp; omega
 ·omega
end
theorem Zyj : ∀ {a b : List JV}, Zna a b = true → a.length = b.length
 | [], [], _ => rfl
 | x :: r, y :: q, h => by
  unfold Zna at h
  simp only [Bool.and_eq_true] at h
  simp [Zyj h.2]
 | [], _ :: _, h => by simp [Zna] at h
 | _ :: _, [], h => by simp [Zna] at h
theorem Ztv : ∀ {a b : List JV}, a.length = b.length → (∀ (i : Nat) (x y : JV), a[i]? = some x → b[i]? = some y → eqJ x y = true) → Zna a b = true
 | [], [], _, _ => by unfold Zna; rfl
 | x :: r, y :: q, hl, h => by
  unfold Zna
  rw [h 0 x y rfl rfl, Ztv (by simpa using hl) (fun i x y hx hy => h (i + 1) x y (by simpa using hx) (by simpa using hy))]
  rfl
 | [], _ :: _, hl, _ => by simp at hl
 | _ :: _, [], hl, _ => by simp at hl
theorem Zp7 : ∀ {a b : List JV} {i : Nat} {x y : JV}, a[i]? = some x → b[i]? = some y → eqJ x y = false → Zna a b = false
 | x' :: r, y' :: q, 0, x, y, hx, hy, h => by
  simp only [List.getElem?_cons_zero, Option.some.injEq] at hx hy
  subst hx hy
  unfold Zna
  rw [h]; rfl
 | x' :: r, y' :: q, i + 1, x, y, hx, hy, h => by
  unfold Zna
  rw [Zp7 (by simpa using hx) (by simpa using hy) h]
  simp
 | [], _, _, _, _, hx, _, _ => by simp at hx
 | _ :: _, [], _, _, _, _, hy, _ => by simp at hy
theorem Zrr {w : World} {F : Nat → Prop} {l : List JV} {v : Value} (h : Rep w F (Zj3 l) v) : l.length * 16 ≤ 140737488351232 := by
 unfold Zj3 Rep at h
 obtain ⟨_, _, _, h, _⟩ := h
 exact h
theorem Zfg (l : List JV) (h : l ≠ []) : Zbr Tryz.prog 320 [.dat (Zj3 l), .dat dvA] [] (.iface 421 (.ptr 0 0))
  [(0, .box 427 [.dat (Zj3 l), .ptr 1 0, .dat (.val (.int .i64 (-1)))]), (1, .box 315 [.dat (.val .nilIface)])] := by
 refine Zar Tryz.func320 rfl Tryz.ntmps320 rfl (fun X => ?_)
 have hq : decide (((l.length : Nat) : Int) = 0) = false := by
  cases l with
  | nil => exact absurd rfl h
  | cons x r => simp; omega
 repeat' (first
  | refine Zah ?_
  | (refine Zao rfl ?_; first | refine Zad rfl rfl ?_ | refine Zak rfl rfl ?_ | refine Zbo rfl rfl rfl ?_ | refine Zaz rfl rfl rfl rfl ?_ | refine Zuv rfl rfl ?_ | refine Zcy rfl rfl rfl rfl rfl ?_ | refine Zgf rfl rfl ?_ | refine Zft rfl rfl ?_ | refine Za5 (thk [] 200) rfl rfl (by kernel_rfl) (Yhk) rfl trivial rfl (Zai rfl) rfl ?_ | refine Zc9 rfl rfl ?_ | refine Zfi rfl rfl (by kernel_rfl) ?_ | refine Zy6 rfl rfl ?_)
  | refine Zac ?_
  | refine Zab ?_
  | refine Zam rfl (by first | rfl | assumption) ?_
  | refine Zau ?_
  | fail)
 refine Za0 () (thk [(0, 200), (1, 201)] 0) (tm := [(4, .iface 421 (.ptr 0 0))]) ?_ (Za6 rfl rfl)
 (refine ⟨?_, ?_, by rfl⟩ <;> repeat' (first | exact trivial | exact ALe.ptr rfl | exact ALe.own rfl | exact ALe.elt rfl | exact BLe.boxD _ _ | exact BLe.row rfl | exact BLe.res | exact BLe.dead rfl | exact ALe.dat (PLe.refl _) | exact CLe.nil | refine And.intro ?_ ?_ | refine ALe.iface ?_ | refine ALe.clo ?_ | refine CLe.cons ?_ ?_ | refine BLe.box ?_ | refine BLe.row ?_ | exact ALe.any _ | refine ALe.dat (PLe.of_eq ?_)))
theorem Zfo (l : List JV) (k : Nat) (hk : k ≤ 140737488351232) : Zbr Tryz.prog 344 [.ptr 1000 0] [(1000, .box 427 [.dat (Zj3 l), .ptr 1001 0, .dat (.val (.int .i64 ((k : Int) - 1)))]), (1001, .box 315 [.any])]
  (.dat (.val (.bool (decide ((k : Int) < (l.length : Int)))))) [(1000, .box 427 [.dat (Zj3 l), .ptr 1001 0, .dat (.val (.int .i64 (k : Int)))]), (1001, .box 315 [.any])] := by
 refine Zar Tryz.func344 rfl Tryz.ntmps344 rfl (fun X => ?_)
 repeat' (first
  | refine Zah ?_
  | (refine Zao rfl ?_; first | refine Zad rfl rfl ?_ | refine Zbo rfl rfl rfl ?_ | refine Zbd rfl rfl rfl (by first | rfl | (simp only [Zaq]; rfl)) ?_ | refine Zuv rfl rfl ?_ | refine Zcy rfl rfl rfl rfl rfl ?_ | refine Ziq rfl rfl rfl rfl (by first | omega | (dsimp only; omega)) ?_ | refine Zft rfl rfl ?_)
  | refine Zac ?_
  | refine Zab ?_
  | refine Ze4 (by kernel_rfl) ?_
  | refine Zmx (And.intro (by kernel_rfl) ?_)
  | refine Zbl (Zim rfl rfl) ?_
  | refine Zbl (Zio rfl rfl rfl) ?_
  | refine Zbl (Zm6 rfl rfl rfl (by first | rfl | (simp only [Zaq]; rfl))) ?_
  | refine Zbl (Zin rfl rfl rfl rfl) ?_
  | refine Zbl (Yc9 rfl rfl) ?_
  | refine Zbl (Zwd rfl rfl) ?_
  | refine Zbl (Yc6 rfl rfl) ?_
  | fail)
 refine Za0 () id (tm := [(2, .dat (.val (.bool (decide ((k : Int) < (l.length : Int))))))]) ?_ (Za6 rfl rfl)
 (refine ⟨?_, ?_, by rfl⟩ <;> repeat' (first | exact trivial | exact ALe.ptr rfl | exact ALe.own rfl | exact ALe.elt rfl | exact BLe.boxD _ _ | exact BLe.row rfl | exact BLe.res | exact BLe.dead rfl | exact ALe.dat (PLe.refl _) | exact CLe.nil | refine And.intro ?_ ?_ | refine ALe.iface ?_ | refine ALe.clo ?_ | refine CLe.cons ?_ ?_ | refine BLe.box ?_ | refine BLe.row ?_ | exact ALe.any _ | refine ALe.dat (PLe.of_eq ?_)))
 all_goals (rw [show (k : Int) - 1 + 1 = k by omega])
theorem Zmi (l : List JV) (k : Nat) (j : JV) (hj : l[k]? = some j) : Zbr Tryz.prog 343 [.ptr 1000 0] [(1000, .box 427 [.dat (Zj3 l), .ptr 1001 0, .dat (.val (.int .i64 (k : Int)))]), (1001, .box 315 [.any])]
  (.tup [.dat (.val (.int .i64 (k : Int))), .iface 271 (.ptr 1001 0)]) [(1000, .box 427 [.dat (Zj3 l), .ptr 1001 0, .dat (.val (.int .i64 (k : Int)))]), (1001, .box 315 [.dat (pdJ j)])] := by
 refine Zar Tryz.func343 rfl Tryz.ntmps343 rfl (fun X => ?_)
 have hlt : k < l.length := (List.getElem?_eq_some_iff.1 hj).1
 have hq1 : decide (((k : Nat) : Int) < 0) = false := by simp
 have hq2 : decide (((l.length : Nat) : Int) ≤ (k : Int)) = false := by simp; omega
 repeat' (first
  | refine Zah ?_
  | (refine Zao rfl ?_; first | refine Zad rfl rfl ?_ | refine Zbo rfl rfl rfl ?_ | refine Zbd rfl rfl rfl (by first | rfl | (simp only [Zaq]; rfl)) ?_ | refine Zaz rfl rfl rfl rfl ?_ | refine Zuv rfl rfl ?_ | refine Zft rfl rfl ?_)
  | refine Zac ?_
  | refine Zab ?_
  | refine Zam rfl (by first | rfl | assumption) ?_
  | refine Zau ?_
  | refine Ze4 (by kernel_rfl) ?_
  | refine Zmx (And.intro (by kernel_rfl) ?_)
  | refine Zbl (Zim rfl rfl) ?_
  | refine Zbl (Zio rfl rfl rfl) ?_
  | refine Zbl (Zm6 rfl rfl rfl (by first | rfl | (simp only [Zaq]; rfl))) ?_
  | refine Zbl (Zin rfl rfl rfl rfl) ?_
  | refine Zbl (Yc9 rfl rfl) ?_
  | refine Zbl (Yc7 rfl rfl (by first | rfl | (simp only [Zaq]; rfl))) ?_
  | refine Zbl (Zwd rfl rfl) ?_
  | refine Zbl (Zm8 rfl rfl rfl rfl) ?_
  | refine Zbl (Zrn (thk [(1000, _)] 200) rfl (by kernel_rfl) ((Ziw .any _)) rfl rfl rfl rfl rfl) ?_
  | refine Zbl (Ztq rfl rfl) ?_
  | refine Zbl (Yc6 rfl rfl) ?_
  | refine Zbl (Zx8 rfl rfl rfl (by assumption)) ?_
  | fail)
 refine Za0 () id (tm := [(2, .dat (.val (.int .i64 (k : Int)))), (3, .iface 271 (.ptr 1001 0))]) ?_ ?_
 rotate_left
 ·show Yom _ _ (Yeo [.dat (.val (.int .i64 (k : Int))), .iface 271 (.ptr 1001 0)]) _
  exact Yf7 rfl rfl rfl
 (refine ⟨?_, ?_, by rfl⟩ <;> repeat' (first | exact trivial | exact ALe.ptr rfl | exact ALe.own rfl | exact ALe.elt rfl | exact BLe.boxD _ _ | exact BLe.row rfl | exact BLe.res | exact BLe.dead rfl | exact ALe.dat (PLe.refl _) | exact CLe.nil | refine And.intro ?_ ?_ | refine ALe.iface ?_ | refine ALe.clo ?_ | refine CLe.cons ?_ ?_ | refine BLe.box ?_ | refine BLe.row ?_ | exact ALe.any _ | refine ALe.dat (PLe.of_eq ?_)))
def Zbv (a b : Int) : Int := if a < b then -1 else if b < a then 1 else 0
def Zda (a b : ByteArray) : Int := if blt a b then -1 else if blt b a then 1 else 0
theorem Yci : ∀ (x y : List UInt8) (n : Nat) (p q : UInt8), x.take n = y.take n → x[n]? = some p → y[n]? = some q → p ≠ q → Op.bytesLess x y = decide (p < q)
 | [], _, n, p, q, _, h, _, _ => by simp at h
 | _ :: _, [], n, p, q, _, _, h, _ => by simp at h
 | a :: x, b :: y, 0, p, q, _, h1, h2, hne => by
  simp at h1 h2
  subst h1 h2
  have : (a == b) = false := by simp [hne]
  simp [Op.bytesLess, this]
 | a :: x, b :: y, n + 1, p, q, h, h1, h2, hne => by
  simp only [List.take_succ_cons, List.cons.injEq] at h
  obtain ⟨rfl, h⟩ := h
  have := Yci x y n p q h (by simpa using h1) (by simpa using h2) hne
  simp [Op.bytesLess, this, UInt8.lt_irrefl]
theorem Ych : ∀ (x y : List UInt8) (n : Nat), x.take n = y.take n → n = min x.length y.length → Op.bytesLess x y = decide (x.length < y.length)
 | [], [], n, _, _ => by simp [Op.bytesLess]
 | [], _ :: _, n, _, _ => by simp [Op.bytesLess]
 | _ :: _, [], n, _, _ => by simp [Op.bytesLess]
 | a :: x, b :: y, n, h, hn => by
  obtain ⟨n, rfl⟩ : ∃ k, n = k + 1 := ⟨n - 1, by simp at hn; omega⟩
  simp only [List.take_succ_cons, List.cons.injEq] at h
  obtain ⟨rfl, h⟩ := h
  have := Ych x y n h (by simp at hn; omega)
  simp [Op.bytesLess, this, UInt8.lt_irrefl]
theorem Zhm (a : ByteArray) : a.toList.length = a.size := by rw [ByteArray.toList_eq]; rfl
theorem Zlh (a : ByteArray) (k : Nat) (h : k < a.size) : a.toList[k]? = some a[k] := by
 rw [ByteArray.toList_eq]
 rw [List.getElem?_eq_getElem (by exact h)]
 rfl
theorem Yhv {a b : ByteArray} {k : Nat} (h : a.toList.take k = b.toList.take k) (h1 : k < a.size) (h2 : k < b.size) (hne : a[k] ≠ b[k]) : Zda a b = Zbv (a[k].toNat : Int) (b[k].toNat : Int) := by
 have e1 := Yci _ _ k _ _ h (Zlh a k h1) (Zlh b k h2) hne
 have e2 := Yci _ _ k _ _ h.symm (Zlh b k h2) (Zlh a k h1) (Ne.symm hne)
 unfold Zda Zbv blt
 rw [e1, e2]
 simp only [decide_eq_true_eq, UInt8.lt_iff_toNat_lt, Int.ofNat_lt]
theorem Zx2 {a b : ByteArray} {k : Nat} (h : a.toList.take k = b.toList.take k) (hk : k = min a.size b.size) : Zda a b = Zbv (a.size : Int) (b.size : Int) := by
 have e1 := Ych _ _ k h (by rw [Zhm, Zhm]; exact hk)
 have e2 := Ych _ _ k h.symm (by rw [Zhm, Zhm]; omega)
 rw [Zhm, Zhm] at e1 e2
 unfold Zda Zbv blt
 rw [e1, e2]
 simp only [decide_eq_true_eq, Int.ofNat_lt]
theorem Zq7 {q : Nat} (h : q < 9223372036854775808) : IntKind.i64.wrap (q : Int) = q := by
 simp [IntKind.wrap, IntKind.bits, IntKind.signed]; omega
theorem Zf7 (a b : Int) (w : World) : Calls Tryz.prog 202 #[.int .i64 a, .int .i64 b] w fun e w' => e = .returned (.int .i64 (Zbv a b)) ∧ w' = w := by
 by_cases h1 : a < b
 ·have hc : Zbv a b = -1 := by simp [Zbv, h1]
  rw [hc]
  go_enter Tryz.func202, Tryz.ntmps202
  go_wp2_with fail
  go_ret
  exact ⟨rfl, rfl⟩
 by_cases h2 : b < a
 ·have hc : Zbv a b = 1 := by simp [Zbv, h1, h2]
  rw [hc]
  go_enter Tryz.func202, Tryz.ntmps202
  go_wp2_with fail
  go_ret
  exact ⟨rfl, rfl⟩
 ·have hc : Zbv a b = 0 := by simp [Zbv, h1, h2]
  rw [hc]
  go_enter Tryz.func202, Tryz.ntmps202
  go_wp2_with fail
  go_ret
  exact ⟨rfl, rfl⟩
theorem Zj6 (a b : ByteArray) (w : World) (ha : a.size ≤ maxLen) (_hb : b.size ≤ maxLen) : Calls Tryz.prog 157 #[.string a, .string b] w fun e w' => e = .returned (.int .i64 (Zda a b)) ∧ Below w.heap.size w w' := by
 unfold maxLen at ha
 go_enter Tryz.func157, Tryz.ntmps157
 go_wp2_with fail
 go_loopw [5] (fun i wr => ∃ k : Nat, k ≤ a.size ∧ k ≤ b.size ∧ i = .int .i64 (k : Nat) ∧ Below w.heap.size w wr ∧ a.toList.take k = b.toList.take k) (fun i _ => a.size - (intOf i).toNat)
 case atStart => exact ⟨0, Nat.zero_le _, Nat.zero_le _, rfl, Below.refl _ _, by simp⟩
 case round =>
  obtain ⟨k, hka, hkb, rfl, hB, hpre⟩ := hrel
  by_cases h1 : k < a.size
  ·by_cases h2 : k < b.size
   ·have j0 : (0 : Int) ≤ (k : Int) := by omega
    have j1 : (k : Int) < (a.size : Int) := by omega
    have j2 : (k : Int) < (b.size : Int) := by omega
    have l1 : a[k].toNat < 256 := a[k].toNat_lt
    have l2 : b[k].toNat < 256 := b[k].toNat_lt
    have HP := Lib.hid hpre
    clear hpre
    by_cases hxy : a[k] = b[k]
    ·have e7 : ((a[k].toNat : Int) != (b[k].toNat : Int)) = false := by rw [hxy]; simp
     have HXY := Lib.hid hxy
     clear hxy
     go_wp2_with fail
     go_quiet (fail)
     go_wp2_with fail
     have hwk : wrap64 ((k : Int) + 1) = ((k + 1 : Nat) : Int) := by unfold wrap64; omega
     try rw [hwk]
     refine ⟨⟨k + 1, h1, h2, rfl, hB.trans ⟨rfl, rfl, rfl, Nat.le_refl _, fun _ _ => rfl⟩, ?_⟩, by simp only [intOf]; omega⟩
     rw [List.take_add_one, List.take_add_one, HP.out, Zlh a k h1, Zlh b k h2, HXY.out]
    ·have e7 : ((a[k].toNat : Int) != (b[k].toNat : Int)) = true := by
      have : a[k].toNat ≠ b[k].toNat := fun e => hxy (UInt8.toNat_inj.1 e)
      simp; omega
     have HXY := Lib.hid hxy
     clear hxy
     go_wp2_with fail
     go_quiet (fail)
     go_wp2_with fail
     refine Zxg (fun _ => True) [0, 1, 2, 3, 4, 5, 6, 7, 9] (by kernel_rfl) ?_ (fun hHeld => ?_)
     ·trivial
     refine Zf2 (i := 0) (v := ?_) rfl (by kernel_rfl) (by kernel_rfl) (by kernel_rfl) (by kernel_rfl) (.inl ⟨by rfl, ?_⟩) hHeld ?_
     rotate_left
     ·(intro w hSw; (try dsimp only at hSw); go_split_ands; go_simp; (try with_reducible rfl))
     try simp only [Act.put, List.setIfInBounds_toArray, List.set_cons_zero, List.set_cons_succ]
     refine Zf2 (i := 1) (v := ?_) rfl (by kernel_rfl) (by kernel_rfl) (by kernel_rfl) (by kernel_rfl) (.inl ⟨by rfl, ?_⟩) hHeld ?_
     rotate_left
     ·(intro w hSw; (try dsimp only at hSw); go_split_ands; go_simp; (try with_reducible rfl))
     try simp only [Act.put, List.setIfInBounds_toArray, List.set_cons_zero, List.set_cons_succ]
     refine Zf2 (i := 2) (v := ?_) rfl (by kernel_rfl) (by kernel_rfl) (by kernel_rfl) (by kernel_rfl) (.inl ⟨by rfl, ?_⟩) hHeld ?_
     rotate_left
     ·(intro w hSw; (try dsimp only at hSw); go_split_ands; go_simp; (try with_reducible rfl))
     try simp only [Act.put, List.setIfInBounds_toArray, List.set_cons_zero, List.set_cons_succ]
     refine Zf2 (i := 3) (v := ?_) rfl (by kernel_rfl) (by kernel_rfl) (by kernel_rfl) (by kernel_rfl) (.inl ⟨by rfl, ?_⟩) hHeld ?_
     rotate_left
     ·(intro w hSw; (try dsimp only at hSw); go_split_ands; go_simp; (try with_reducible rfl))
     try simp only [Act.put, List.setIfInBounds_toArray, List.set_cons_zero, List.set_cons_succ]
     refine Zf2 (i := 4) (v := ?_) rfl (by kernel_rfl) (by kernel_rfl) (by kernel_rfl) (by kernel_rfl) (.inl ⟨by rfl, ?_⟩) hHeld ?_
     rotate_left
     ·(intro w hSw; (try dsimp only at hSw); go_split_ands; go_simp; (try with_reducible rfl))
     try simp only [Act.put, List.setIfInBounds_toArray, List.set_cons_zero, List.set_cons_succ]
     refine Zf2 (i := 5) (v := ?_) rfl (by kernel_rfl) (by kernel_rfl) (by kernel_rfl) (by kernel_rfl) (.inl ⟨by rfl, ?_⟩) hHeld ?_
     rotate_left
     ·(intro w hSw; (try dsimp only at hSw); go_split_ands; go_simp; (try with_reducible rfl))
     try simp only [Act.put, List.setIfInBounds_toArray, List.set_cons_zero, List.set_cons_succ]
     refine Zf2 (i := 6) (v := ?_) rfl (by kernel_rfl) (by kernel_rfl) (by kernel_rfl) (by kernel_rfl) (.inl ⟨by rfl, ?_⟩) hHeld ?_
     rotate_left
     ·(intro w hSw; (try dsimp only at hSw); go_split_ands; go_simp; (try with_reducible rfl))
     try simp only [Act.put, List.setIfInBounds_toArray, List.set_cons_zero, List.set_cons_succ]
     refine Zf2 (i := 7) (v := ?_) rfl (by kernel_rfl) (by kernel_rfl) (by kernel_rfl) (by kernel_rfl) (.inl ⟨by rfl, ?_⟩) hHeld ?_
     rotate_left
     ·(intro w hSw; (try dsimp only at hSw); go_split_ands; go_simp; (try with_reducible rfl))
     try simp only [Act.put, List.setIfInBounds_toArray, List.set_cons_zero, List.set_cons_succ]
     refine Ypg (i := 8) (by kernel_rfl) rfl (fun K hK => ?_)
     go_simp
     refine (Zf7 _ _ _).mono ?_
     rintro e w2 ⟨rfl, rfl⟩
     refine hK.out _ _ ?_ (fun hHeld => ?_)
     ·trivial
     clear hK K
     try simp only [Act.put, List.setIfInBounds_toArray, List.set_cons_zero, List.set_cons_succ]
     refine Zf2 (i := 9) (v := ?_) rfl (by kernel_rfl) (by kernel_rfl) (by kernel_rfl) (by kernel_rfl) (.inl ⟨by rfl, ?_⟩) hHeld ?_
     rotate_left
     ·(intro w hSw; (try dsimp only at hSw); go_split_ands; go_simp; (try with_reducible rfl))
     try simp only [Act.put, List.setIfInBounds_toArray, List.set_cons_zero, List.set_cons_succ]
     refine Yko (by kernel_rfl) ?_ _
     simp only [List.getElem_toArray, List.getElem_cons_succ, List.getElem_cons_zero, List.set_cons_succ, List.set_cons_zero]
     go_wp2_with fail
     go_ret
     rw [Yhv HP.out h1 h2 HXY.out]
     have wa := Zq7 (q := a[k].toNat) (by omega)
     have wb := Zq7 (q := b[k].toNat) (by omega)
     simp only [wa, wb]
     exact ⟨rfl, hB.trans ⟨rfl, rfl, rfl, Nat.le_refl _, fun _ _ => rfl⟩⟩
   ·have hend := Zx2 hpre (by omega)
    have HE := Lib.hid hend
    have n2 : ¬ ((k : Int) < (b.size : Int)) := by omega
    have n1 : (k : Int) < (a.size : Int) := by omega
    clear hpre hend
    go_wp2_with (go_at_call 202; refine (Zf7 _ _ _).mono ?_)
    go_ret
    rw [HE.out]
    exact ⟨rfl, hB⟩
  ·have hend := Zx2 hpre (by omega)
   have HE := Lib.hid hend
   have n1 : ¬ ((k : Int) < (a.size : Int)) := by omega
   clear hpre hend
   go_wp2_with (go_at_call 202; refine (Zf7 _ _ _).mono ?_)
   go_ret
   rw [HE.out]
   exact ⟨rfl, hB⟩
def Yl5 (a b : Nat) : Int := if FloatKind.f64.format.order a b == some .gt then 1 else if FloatKind.f64.format.order a b == some .lt then -1 else 0
def Yp9 (a b : Bool) : Int := if a == b then 0 else if !a then -1 else 1
theorem Zil : ∀ (x y : List UInt8), Lib.compareBytes x y = if Op.bytesLess x y then -1 else if Op.bytesLess y x then 1 else 0
 | [], [] => rfl
 | [], _ :: _ => rfl
 | _ :: _, [] => rfl
 | a :: x, b :: y => by
  unfold Lib.compareBytes
  rw [Zil x y]
  simp only [Op.bytesLess]
  by_cases h : a < b
  ·simp [h]
  ·rw [if_neg h]
   by_cases h' : b < a
   ·have hne : (a == b) = false := by
     simp only [beq_eq_false_iff_ne]
     intro e; subst e; exact absurd h' (UInt8.lt_irrefl _)
    have hne' : (b == a) = false := by
     simp only [beq_eq_false_iff_ne]
     intro e; subst e; exact absurd h' (UInt8.lt_irrefl _)
    simp [h, h', hne]
   ·have e : a = b := by
     rw [UInt8.lt_iff_toNat_lt] at h h'
     exact UInt8.toNat_inj.1 (by omega)
    subst e
    simp [UInt8.lt_irrefl]
theorem Yap (a b : ByteArray) : Lib.compareBytes a.data.toList b.data.toList = Zda a b := by
 rw [Zil]
 unfold Zda blt
 rw [ByteArray.toList_eq, ByteArray.toList_eq]
theorem Yl9 (a b : ByteArray) : (Lit.int .i64 (Zda a b)).wf = true := by
 unfold Zda
 split
 ·rfl
 ·split <;> rfl
class Zv0 (P : Program) (f : Nat) : Prop where
 out : ∀ (a b : ByteArray) (w : World), (callFunc f #[.string a, .string b]).run P w = .ok (.value (.int .i64 (Zda a b))) w
instance : Zv0 Tryz.prog 247 := ⟨fun a b w => by
 rw [run_callFunc_extern (fn := Tryz.f247) (e := Extern.BytealgCompare.compare) Tryz.func247 (by kernel_rfl) (by kernel_rfl) (by kernel_rfl) (by kernel_rfl)]
 simp only [Lib.run_compareString, Result.andThen_ok, Yap]⟩
section
variable {P : Program} {X : Base} {N : Nat} {Q : Exit → Act → World → Prop} {ops : Array Oper} {rem : List Nat} {ks : List Itm} {s s' : Sta}
theorem Ye2 {o : Oper} (hd : Za8 X.N o.dst = true) {f : FuncId} {x y : Operand} {ts : Array TypeId} (ho : o.op = .call { callee := .value (.func f), args := #[x, y], argTypes := ts }) (hf : Zv0 P f) {a b : ByteArray} (hx : s.ev x = .dat (.val (.string a))) (hy : s.ev y = .dat (.val (.string b))) :
  OpS P X o s (s.put o.dst (.dat (.val (.int .i64 (Zda a b))))) := by
 refine Zas hd fun a' w ρ hc => ⟨.int .i64 (Zda a b), ?_, by unfold VR Rep; exact ⟨rfl, Yl9 a b⟩⟩
 have h1 := hc.ev x
 rw [hx] at h1
 have h2 := hc.ev y
 rw [hy] at h2
 unfold VR Rep at h1 h2
 have hrun := hf.out a b w
 rw [← h1.1, ← h2.1] at hrun
 have ef : a'.eval (.func f) = .func (.func f) #[] #[] := rfl
 simp [execOp, ho, resolve, Deferred.ofValue, ef, invoke, Result.andThen, hrun]
theorem Yiv {d f : Nat} {x y : Operand} {ts : Array TypeId} {a b : ByteArray} (hN : Nat.blt d N = true) [hf : Zv0 P f] (hx : s.ev x = .dat (.val (.string a))) (hy : s.ev y = .dat (.val (.string b))) (h : Run P X N Q (.ops ops rem :: ks) (s.put (some d) (.dat (.val (.int .i64 (Zda a b)))))) :
  Zbp P X N Q ops rem ks (some d) (.call { callee := .value (.func f), args := #[x, y], argTypes := ts }) s := Zd7 hN (fun _ _ _ hd => Ye2 hd rfl hf hx hy) h
end
theorem Ycl (a b : ByteArray) : PCall Tryz.prog 236 [.val (.string a), .val (.string b)] (.val (.int .i64 (Zda a b))) := by
 refine Zaa Tryz.func236 rfl Tryz.ntmps236 rfl (fun X => ?_)
 repeat' (first
  | refine Zah ?_
  | (refine Zao rfl ?_; first | refine Yiv rfl rfl rfl ?_ | refine Zad rfl rfl ?_ | refine Zak rfl rfl ?_)
  | refine Zac ?_
  | refine Zab ?_
  | refine Zaj (Zal rfl rfl ?_)
  | fail)
 all_goals exact PLe.refl _
theorem Zd8 (a b : ByteArray) : PCall Tryz.prog 211 [.val (.string a), .val (.string b)] (.val (.int .i64 (Zda a b))) := by
 have c := Ycl a b
 refine Zaa Tryz.func211 rfl Tryz.ntmps211 rfl (fun X => ?_)
 repeat' (first
  | refine Zah ?_
  | (refine Zao rfl ?_; first | refine Zad rfl rfl ?_ | refine Zak rfl rfl ?_ | refine Zh9 rfl (by kernel_rfl) rfl (by first | exact c) ?_)
  | refine Zac ?_
  | refine Zab ?_
  | refine Zaj (Zal rfl rfl ?_)
  | fail)
 all_goals exact PLe.refl _
theorem Zeu (a b : Nat) : PCall Tryz.prog 248 [.val (.float .f64 a), .val (.float .f64 b)] (.val (.int .i64 (Yl5 a b))) := by
 refine Zaa Tryz.func248 rfl Tryz.ntmps248 rfl (fun X => ?_)
 unfold Yl5
 cases h1 : (FloatKind.f64.format.order a b == some .gt) <;> cases h2 : (FloatKind.f64.format.order a b == some .lt)
 all_goals
  repeat' (first
  | refine Zah ?_
  | (refine Zao rfl ?_; first | refine Zad rfl rfl ?_ | refine Zak rfl rfl ?_ | refine Zy3 rfl rfl rfl rfl ?_)
  | refine Zac ?_
  | refine Zab ?_
  | refine Zan rfl (by first | rfl | assumption) ?_
  | refine Zam rfl (by first | rfl | assumption) ?_
  | refine Zau ?_
  | refine Zaj (Zal rfl rfl ?_)
  | fail)
 all_goals exact PLe.refl _
theorem Ze1 (a b : Int) : PCall Tryz.prog 249 [.val (.int .i64 a), .val (.int .i64 b)] (.val (.int .i64 (Zbv a b))) := by
 refine Zaa Tryz.func249 rfl Tryz.ntmps249 rfl (fun X => ?_)
 unfold Zbv
 by_cases h1 : b < a
 ·have q1 : decide (b < a) = true := by simpa using h1
  rw [if_neg (by omega), if_pos h1]
  repeat' (first
  | refine Zah ?_
  | (refine Zao rfl ?_; first | refine Zad rfl rfl ?_ | refine Zak rfl rfl ?_ | refine Zaz rfl rfl rfl rfl ?_)
  | refine Zac ?_
  | refine Zab ?_
  | refine Zan rfl (by first | rfl | assumption) ?_
  | refine Zaj (Zal rfl rfl ?_)
  | fail)
  all_goals exact PLe.refl _
 ·have q1 : decide (b < a) = false := by simpa using h1
  by_cases h2 : a < b
  ·have q2 : decide (a < b) = true := by simpa using h2
   rw [if_pos h2]
   repeat' (first
  | refine Zah ?_
  | (refine Zao rfl ?_; first | refine Zad rfl rfl ?_ | refine Zak rfl rfl ?_ | refine Zaz rfl rfl rfl rfl ?_)
  | refine Zac ?_
  | refine Zab ?_
  | refine Zan rfl (by first | rfl | assumption) ?_
  | refine Zam rfl (by first | rfl | assumption) ?_
  | refine Zaj (Zal rfl rfl ?_)
  | fail)
   all_goals exact PLe.refl _
  ·have q2 : decide (a < b) = false := by simpa using h2
   rw [if_neg h2, if_neg h1]
   repeat' (first
  | refine Zah ?_
  | (refine Zao rfl ?_; first | refine Zad rfl rfl ?_ | refine Zak rfl rfl ?_ | refine Zaz rfl rfl rfl rfl ?_)
  | refine Zac ?_
  | refine Zab ?_
  | refine Zam rfl (by first | rfl | assumption) ?_
  | refine Zau ?_
  | refine Zaj (Zal rfl rfl ?_)
  | fail)
   all_goals exact PLe.refl _
theorem Zdu (a b : Bool) : PCall Tryz.prog 250 [.val (.bool a), .val (.bool b)] (.val (.int .i64 (Yp9 a b))) := by
 refine Zaa Tryz.func250 rfl Tryz.ntmps250 rfl (fun X => ?_)
 cases a <;> cases b
 all_goals
  repeat' (first
  | refine Zah ?_
  | (refine Zao rfl ?_; first | refine Zad rfl rfl ?_ | refine Zak rfl rfl ?_ | refine Zom rfl rfl rfl (by kernel_rfl) rfl ?_ | refine Zdm rfl rfl ?_)
  | refine Zac ?_
  | refine Zab ?_
  | refine Zan rfl (by first | rfl | assumption) ?_
  | refine Zam rfl (by first | rfl | assumption) ?_
  | refine Zau ?_
  | refine Zaj (Zal rfl rfl ?_)
  | fail)
 all_goals exact PLe.refl _
def Zga (f : JV → JV → Int) : List JV → List JV → Int
 | [], [] => 0
 | [], _ :: _ => -1
 | _ :: _, [] => 1
 | x :: r, y :: q => if f x y = 0 then Zga f r q else f x y
theorem Zx0 {f : JV → JV → Int} : ∀ {a b : List JV} {i : Nat} {x y : JV}, (∀ j u v, j < i → a[j]? = some u → b[j]? = some v → f u v = 0) → a[i]? = some x → b[i]? = some y → f x y ≠ 0 → Zga f a b = f x y
 | x' :: r, y' :: q, 0, x, y, _, hx, hy, h => by
  simp only [List.getElem?_cons_zero, Option.some.injEq] at hx hy
  subst hx hy
  simp only [Zga, if_neg h]
 | x' :: r, y' :: q, i + 1, x, y, hall, hx, hy, h => by
  simp only [Zga]
  rw [if_pos (hall 0 x' y' (by omega) rfl rfl)]
  exact Zx0 (i := i) (fun j u v hj hu hv => hall (j + 1) u v (by omega) (by simpa using hu) (by simpa using hv)) (by simpa using hx) (by simpa using hy) h
 | [], _, _, _, _, _, hx, _, _ => by simp at hx
 | _ :: _, [], _, _, _, _, _, hy, _ => by simp at hy
theorem Ztg {f : JV → JV → Int} : ∀ {a b : List JV}, (∀ (j : Nat) (u v : JV), a[j]? = some u → b[j]? = some v → f u v = 0) → Zga f a b = if a.length < b.length then -1 else if b.length < a.length then 1 else 0
 | [], [], _ => rfl
 | [], _ :: _, _ => by simp [Zga]
 | _ :: _, [], _ => by simp [Zga]
 | x :: r, y :: q, h => by
  simp only [Zga]
  rw [if_pos (h 0 x y rfl rfl), Ztg (fun j u v hu hv => h (j + 1) u v (by simpa using hu) (by simpa using hv))]
  simp
def Zfh (f : JV → JV → Int) (p q : List (ByteArray × JV)) (i : Nat) (k : ByteArray) : Int :=
 if i = p.length then -1 else if i = q.length then 1 else match lkJ p k, lkJ q k with
  | none, _ => 1
  | some _, none => -1
  | some x, some y => f x y
def Zjq (f : JV → JV → Int) (p q : List (ByteArray × JV)) : Nat → List ByteArray → Int
 | _, [] => 0
 | i, k :: r => if Zfh f p q i k = 0 then Zjq f p q (i + 1) r else Zfh f p q i k
theorem Yp8 (f : JV → JV → Int) (p q : List (ByteArray × JV)) (i : Nat) (k : ByteArray) (hi : i ≤ 140737488351232) (hE : ∀ x y, lkJ p k = some x → lkJ q k = some y → PCall Tryz.prog 237 [dvA, dvV x, dvV y] (.val (.int .i64 (f x y)))) :
  Zbr Tryz.prog 262 [.dat (.val (.string k)), .dat (Ysi (lkJ p k)), .dat (Ysi (lkJ q k)), .ptr 1000 0, .ptr 1001 0, .ptr 1002 0, .ptr 1003 0, .ptr 1004 0]
  [(1000, .box 3 [.dat (.val (.int .i64 (i : Int)))]), (1001, .box 3 [.dat (.val (.int .i64 (p.length : Int)))]), (1002, .box 3 [.dat (.val (.int .i64 0))]), (1003, .box 3 [.dat (.val (.int .i64 (q.length : Int)))]), (1004, .box 204 [.dat dvA])]
  (.dat (.val (.bool (decide (Zfh f p q i k = 0)))))
  [(1000, .box 3 [.dat (.val (.int .i64 ((i : Int) + 1)))]), (1001, .box 3 [.dat (.val (.int .i64 (p.length : Int)))]), (1002, .box 3 [.dat (.val (.int .i64 (Zfh f p q i k)))]), (1003, .box 3 [.dat (.val (.int .i64 (q.length : Int)))]), (1004, .box 204 [.dat dvA])] := by
 refine Zar Tryz.func262 rfl Tryz.ntmps262 rfl (fun X => ?_)
 by_cases h1 : i = p.length
 ·have q1 : decide ((i : Int) = (p.length : Int)) = true := by simp; omega
  have e : Zfh f p q i k = -1 := by unfold Zfh; rw [if_pos h1]
  rw [e]
  repeat' (first
  | refine Zah ?_
  | (refine Zao rfl ?_; first | refine Zad rfl rfl ?_ | refine Zbd rfl rfl rfl (by first | rfl | (simp only [Zaq]; rfl)) ?_ | refine Zaz rfl rfl rfl rfl ?_ | refine Zcy rfl rfl rfl rfl rfl ?_ | refine Ziq rfl rfl rfl rfl (by first | omega | (dsimp only; omega)) ?_)
  | refine Zac ?_
  | refine Zab ?_
  | refine Zan rfl (by first | rfl | assumption) ?_
  | refine Zav ?_
  | refine Zbw ?_
  | fail)
  refine Za0 () id (tm := [(11, .dat (.val (.bool (decide ((-1 : Int) = 0)))))]) ?_ (Za6 rfl rfl)
  (refine ⟨?_, ?_, by rfl⟩ <;> repeat' (first | exact trivial | exact ALe.ptr rfl | exact ALe.own rfl | exact ALe.elt rfl | exact BLe.boxD _ _ | exact BLe.row rfl | exact BLe.res | exact BLe.dead rfl | exact ALe.dat (PLe.refl _) | exact CLe.nil | refine And.intro ?_ ?_ | refine ALe.iface ?_ | refine ALe.clo ?_ | refine CLe.cons ?_ ?_ | refine BLe.box ?_ | refine BLe.row ?_ | exact ALe.any _ | refine ALe.dat (PLe.of_eq ?_)))
 have q1 : decide ((i : Int) = (p.length : Int)) = false := by simp; omega
 by_cases h2 : i = q.length
 ·have q2 : decide ((i : Int) = (q.length : Int)) = true := by simp; omega
  have e : Zfh f p q i k = 1 := by unfold Zfh; rw [if_neg h1, if_pos h2]
  rw [e]
  repeat' (first
  | refine Zah ?_
  | (refine Zao rfl ?_; first | refine Zad rfl rfl ?_ | refine Zbd rfl rfl rfl (by first | rfl | (simp only [Zaq]; rfl)) ?_ | refine Zaz rfl rfl rfl rfl ?_ | refine Zcy rfl rfl rfl rfl rfl ?_ | refine Ziq rfl rfl rfl rfl (by first | omega | (dsimp only; omega)) ?_)
  | refine Zac ?_
  | refine Zab ?_
  | refine Zan rfl (by first | rfl | assumption) ?_
  | refine Zam rfl (by first | rfl | assumption) ?_
  | refine Zav ?_
  | refine Zbw ?_
  | fail)
  refine Za0 () id (tm := [(11, .dat (.val (.bool (decide ((1 : Int) = 0)))))]) ?_ (Za6 rfl rfl)
  (refine ⟨?_, ?_, by rfl⟩ <;> repeat' (first | exact trivial | exact ALe.ptr rfl | exact ALe.own rfl | exact ALe.elt rfl | exact BLe.boxD _ _ | exact BLe.row rfl | exact BLe.res | exact BLe.dead rfl | exact ALe.dat (PLe.refl _) | exact CLe.nil | refine And.intro ?_ ?_ | refine ALe.iface ?_ | refine ALe.clo ?_ | refine CLe.cons ?_ ?_ | refine BLe.box ?_ | refine BLe.row ?_ | exact ALe.any _ | refine ALe.dat (PLe.of_eq ?_)))
 have q2 : decide ((i : Int) = (q.length : Int)) = false := by simp; omega
 cases hp : lkJ p k with
 | none =>
  have e : Zfh f p q i k = 1 := by unfold Zfh; rw [if_neg h1, if_neg h2, hp]
  rw [e]
  generalize Ysi (lkJ q k) = R
  repeat' (first
  | refine Zah ?_
  | (refine Zao rfl ?_; first | refine Zad rfl rfl ?_ | refine Zak rfl rfl ?_ | refine Zbd rfl rfl rfl (by first | rfl | (simp only [Zaq]; rfl)) ?_ | refine Zaz rfl rfl rfl rfl ?_ | refine Zci rfl rfl rfl (by kernel_rfl) (by first | exact NilIs.ptr | exact NilIs.none | exact NilIs.nilI | assumption) rfl ?_ | refine Zcy rfl rfl rfl rfl rfl ?_ | refine Ziq rfl rfl rfl rfl (by first | omega | (dsimp only; omega)) ?_)
  | refine Zac ?_
  | refine Zab ?_
  | refine Zan rfl (by first | rfl | assumption) ?_
  | refine Zam rfl (by first | rfl | assumption) ?_
  | refine Zav ?_
  | refine Zbw ?_
  | fail)
  refine Za0 () id (tm := [(11, .dat (.val (.bool (decide ((1 : Int) = 0)))))]) ?_ (Za6 rfl rfl)
  (refine ⟨?_, ?_, by rfl⟩ <;> repeat' (first | exact trivial | exact ALe.ptr rfl | exact ALe.own rfl | exact ALe.elt rfl | exact BLe.boxD _ _ | exact BLe.row rfl | exact BLe.res | exact BLe.dead rfl | exact ALe.dat (PLe.refl _) | exact CLe.nil | refine And.intro ?_ ?_ | refine ALe.iface ?_ | refine ALe.clo ?_ | refine CLe.cons ?_ ?_ | refine BLe.box ?_ | refine BLe.row ?_ | exact ALe.any _ | refine ALe.dat (PLe.of_eq ?_)))
 | some x =>
  cases hq : lkJ q k with
  | none =>
   have e : Zfh f p q i k = -1 := by unfold Zfh; rw [if_neg h1, if_neg h2, hp, hq]
   rw [e]
   repeat' (first
  | refine Zah ?_
  | (refine Zao rfl ?_; first | refine Zad rfl rfl ?_ | refine Zak rfl rfl ?_ | refine Zbd rfl rfl rfl (by first | rfl | (simp only [Zaq]; rfl)) ?_ | refine Zaz rfl rfl rfl rfl ?_ | refine Zci rfl rfl rfl (by kernel_rfl) (by first | exact NilIs.ptr | exact NilIs.none | exact NilIs.nilI | assumption) rfl ?_ | refine Zcy rfl rfl rfl rfl rfl ?_ | refine Ziq rfl rfl rfl rfl (by first | omega | (dsimp only; omega)) ?_ | refine Zci rfl rfl rfl (by kernel_rfl) (by exact NilIs.ifc) rfl ?_)
  | refine Zac ?_
  | refine Zab ?_
  | refine Zan rfl (by first | rfl | assumption) ?_
  | refine Zam rfl (by first | rfl | assumption) ?_
  | refine Zav ?_
  | refine Zbw ?_
  | fail)
   refine Za0 () id (tm := [(11, .dat (.val (.bool (decide ((-1 : Int) = 0)))))]) ?_ (Za6 rfl rfl)
   (refine ⟨?_, ?_, by rfl⟩ <;> repeat' (first | exact trivial | exact ALe.ptr rfl | exact ALe.own rfl | exact ALe.elt rfl | exact BLe.boxD _ _ | exact BLe.row rfl | exact BLe.res | exact BLe.dead rfl | exact ALe.dat (PLe.refl _) | exact CLe.nil | refine And.intro ?_ ?_ | refine ALe.iface ?_ | refine ALe.clo ?_ | refine CLe.cons ?_ ?_ | refine BLe.box ?_ | refine BLe.row ?_ | exact ALe.any _ | refine ALe.dat (PLe.of_eq ?_)))
  | some y =>
   have hC := hE x y hp hq
   have e : Zfh f p q i k = f x y := by unfold Zfh; rw [if_neg h1, if_neg h2, hp, hq]
   rw [e]
   generalize f x y = c at *
   repeat' (first
  | refine Zah ?_
  | (refine Zao rfl ?_; first | refine Zad rfl rfl ?_ | refine Zak rfl rfl ?_ | refine Zbd rfl rfl rfl (by first | rfl | (simp only [Zaq]; rfl)) ?_ | refine Zaz rfl rfl rfl rfl ?_ | refine Zh9 rfl (by kernel_rfl) rfl (by first | exact hC) ?_ | refine Zcy rfl rfl rfl rfl rfl ?_ | refine Ziq rfl rfl rfl rfl (by first | omega | (dsimp only; omega)) ?_ | refine Zci rfl rfl rfl (by kernel_rfl) (by exact NilIs.ifc) rfl ?_)
  | refine Zac ?_
  | refine Zab ?_
  | refine Zam rfl (by first | rfl | assumption) ?_
  | refine Zav ?_
  | refine Zbw ?_
  | fail)
   refine Za0 () id (tm := [(11, .dat (.val (.bool (decide (c = 0)))))]) ?_ (Za6 rfl rfl)
   (refine ⟨?_, ?_, by rfl⟩ <;> repeat' (first | exact trivial | exact ALe.ptr rfl | exact ALe.own rfl | exact ALe.elt rfl | exact BLe.boxD _ _ | exact BLe.row rfl | exact BLe.res | exact BLe.dead rfl | exact ALe.dat (PLe.refl _) | exact CLe.nil | refine And.intro ?_ ?_ | refine ALe.iface ?_ | refine ALe.clo ?_ | refine CLe.cons ?_ ?_ | refine BLe.box ?_ | refine BLe.row ?_ | exact ALe.any _ | refine ALe.dat (PLe.of_eq ?_)))
theorem Yoy {A : List ByteArray} {x y : ByteArray} {R : List ByteArray} : ((pdS (A ++ y :: x :: R)).set (A.length + 1) (.val (.string y))).set A.length (.val (.string x)) = pdS (A ++ x :: y :: R) := by
 unfold pdS
 simp only [List.map_append, List.map_cons]
 have e : (A.map fun k => PD.val (.string k)).length = A.length := by simp
 rw [List.set_append_right _ _ (by rw [e]; omega), List.set_append_right _ _ (by rw [e]; omega), e]
 simp
theorem Zyz {A B : List ByteArray} {x : ByteArray} (h : Zfx (A ++ B)) (hB : ∀ b ∈ B, blt x b = true) (hA : ∀ y, A.getLast? = some y → blt y x = true) : Zfx (A ++ x :: B) := by
 unfold Zfx at *
 rw [List.pairwise_append] at h ⊢
 obtain ⟨h1, h2, h3⟩ := h
 have hAx : ∀ a ∈ A, blt a x = true := by
  intro a ha
  rcases List.eq_nil_or_concat A with rfl | ⟨A', y, rfl⟩
  ·cases ha
  ·have hy := hA y (by simp)
   simp only [List.concat_eq_append] at ha h1
   rcases List.mem_append.1 ha with ha | ha
   ·rw [List.pairwise_append] at h1
    exact Zca (h1.2.2 a ha y (by simp)) hy
   ·simp at ha; subst ha; exact hy
 refine ⟨h1, List.pairwise_cons.2 ⟨hB, h2⟩, fun a ha b hb => ?_⟩
 rcases List.mem_cons.1 hb with rfl | hb
 ·exact hAx a ha
 ·exact h3 a ha b hb
end Go.Proofs.YtgmahieoiifpfaaGreat
