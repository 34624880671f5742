/- Part 16 of what the proof rests on. -/
import Derived.Test.YtgmahieoiifpfaaGreatSaR5
import Derived.Test.YtgmahieoiifpfaaGreatSaR10
import Derived.Test.YtgmahieoiifpfaaGreatSaR12
set_option linter.unusedSimpArgs false
set_option linter.unusedVariables false
set_option maxHeartbeats 2000000
namespace Go.Proofs.YtgmahieoiifpfaaGreat
open Go.RowKit
theorem Yoj (a b : List PEV) : PCall Tryz.prog 168 [.ptr (.agg [.sl 4 32 (a.map Za3)]), .ptr (.agg [.sl 4 32 (b.map Za3)])] (.val (.bool (Ze7 Zj4 a b))) := by
 refine Zay fun hfit => ?_
 have b1 := ((Fits.aggAt (hfit (.ptr (.agg [.sl 4 32 (a.map Za3)])) (by simp)).ptr 0 (d := .sl 4 32 (a.map Za3)) rfl).sl).2.1
 clear hfit
 have n1 : (a.map Za3).length = a.length := by simp
 have n2 : (b.map Za3).length = b.length := by simp
 have ga : ∀ {i : Nat} {x : PEV}, a[i]? = some x → (a.map Za3)[((i : Nat) : Int).toNat]? = some (Za3 x) := Zia Za3
 have gb : ∀ {i : Nat} {x : PEV}, b[i]? = some x → (b.map Za3)[((i : Nat) : Int).toNat]? = some (Za3 x) := Zia Za3
 generalize a.map Za3 = da at *
 generalize b.map Za3 = db at *
 by_cases hl : a.length = b.length
 rotate_left
 ·have g1 : decide (((da.length : Nat) : Int) ≠ ((db.length : Nat) : Int)) = true := decide_eq_true (by omega)
  rw [Znd hl]
  refine Zaa Tryz.func168 rfl Tryz.ntmps168 rfl (fun X => ?_)
  exact wke
 have g1 : decide (((da.length : Nat) : Int) ≠ ((db.length : Nat) : Int)) = false := decide_eq_false (by omega)
 refine Zaa Tryz.func168 rfl Tryz.ntmps168 rfl (fun X => ?_)
 refine wk ?_
 refine Zap (ι := { k : Nat // k ≤ a.length ∧ ∀ (i : Nat) (x y : PEV), i < k → a[i]? = some x → b[i]? = some y → Zj4 x y = true })
  (fun k => [(0, .dat (.ptr (.agg [.sl 4 32 da]))), (1, .dat (.ptr (.agg [.sl 4 32 db]))), (21, .dat (.val (.int .i64 ((da.length : Nat) : Int)))), (22, .dat (.val (.int .i64 (k.1 : Nat))))]) (fun _ => []) (fun k => a.length - k.1) ⟨0, Nat.zero_le _, fun i _ _ h => absurd h (Nat.not_lt_zero i)⟩ id ?_ ?_
 ·exact sb
 rintro ⟨k, hk, hall⟩
 by_cases hlt : k < a.length
 ·have hc : decide ((k : Int) < ((da.length : Nat) : Int)) = true := decide_eq_true (by omega)
  obtain ⟨x, hx⟩ : ∃ p, a[k]? = some p := ⟨_, List.getElem?_eq_getElem hlt⟩
  obtain ⟨y, hy⟩ : ∃ p, b[k]? = some p := ⟨_, List.getElem?_eq_getElem (by omega)⟩
  have i1 := ga hx
  have i2 := gb hy
  have c1 := Zqu x y
  obtain ⟨u0, u1, u2, u3, ex⟩ := Zlm x
  obtain ⟨v0, v1, v2, v3, ey⟩ := Zlm y
  rw [ex] at i1 c1
  rw [ey] at i2 c1
  cases he : Zj4 x y with
  | true =>
   rw [he] at c1
   refine wk ?_
   refine Zae ?_
   refine ⟨⟨k + 1, by omega, fun i u v hi hu hv => ?_⟩, id, by simp only; omega, ?_⟩
   ·by_cases e : i = k
    ·subst e
     rw [hx] at hu; rw [hy] at hv
     cases hu; cases hv
     exact he
    ·exact hall i u v (by omega) hu hv
   exact sb
  | false =>
   rw [he] at c1
   rw [Zlo hx hy he]
   exact wke
 ·have hc : decide ((k : Int) < ((da.length : Nat) : Int)) = false := decide_eq_false (by omega)
  rw [Znb hl fun i x y hx hy => hall i x y (by have := (List.getElem?_eq_some_iff.1 hx).1; omega) hx hy]
  exact wke
theorem Yos (a b : List (PEV × ST PEV)) (ih : ∀ x ∈ a, ∀ y ∈ b, PCall Tryz.prog 103 [.ptr (Zbn x.2), .ptr (Zbn y.2)] (.val (.bool (eqT Zj4 x.2 y.2)))) : PCall Tryz.prog 169 [.ptr (.agg [.sl 5 40 (Za4 a)]), .ptr (.agg [.sl 5 40 (Za4 b)])] (.val (.bool (decide (a.length = b.length) && eqC Zj4 a b))) := by
 refine Zay fun hfit => ?_
 have b1 := ((Fits.aggAt (hfit (.ptr (.agg [.sl 5 40 (Za4 a)])) (by simp)).ptr 0 (d := .sl 5 40 (Za4 a)) rfl).sl).2.1
 clear hfit
 rw [Zd3, Zd3] at *
 have n1 : (a.map nd).length = a.length := by simp
 have n2 : (b.map nd).length = b.length := by simp
 have ga : ∀ {i : Nat} {x : PEV × ST PEV}, a[i]? = some x → (a.map nd)[((i : Nat) : Int).toNat]? = some (nd x) := Zia nd
 have gb : ∀ {i : Nat} {x : PEV × ST PEV}, b[i]? = some x → (b.map nd)[((i : Nat) : Int).toNat]? = some (nd x) := Zia nd
 generalize a.map nd = da at *
 generalize b.map nd = db at *
 by_cases hl : a.length = b.length
 rotate_left
 ·have g1 : decide (((da.length : Nat) : Int) ≠ ((db.length : Nat) : Int)) = true := decide_eq_true (by omega)
  rw [decide_eq_false hl, Bool.false_and]
  refine Zaa Tryz.func169 rfl Tryz.ntmps169 rfl (fun X => ?_)
  exact wke
 have g1 : decide (((da.length : Nat) : Int) ≠ ((db.length : Nat) : Int)) = false := decide_eq_false (by omega)
 rw [decide_eq_true hl, Bool.true_and]
 refine Zaa Tryz.func169 rfl Tryz.ntmps169 rfl (fun X => ?_)
 refine wk ?_
 refine Zap (ι := { k : Nat // k ≤ a.length ∧ ∀ (i : Nat) (x y : PEV × ST PEV), i < k → a[i]? = some x → b[i]? = some y → Zj4 x.1 y.1 = true ∧ eqT Zj4 x.2 y.2 = true })
  (fun k => [(0, .dat (.ptr (.agg [.sl 5 40 da]))), (1, .dat (.ptr (.agg [.sl 5 40 db]))), (21, .dat (.val (.int .i64 ((da.length : Nat) : Int)))), (22, .dat (.val (.int .i64 (k.1 : Nat))))]) (fun _ => []) (fun k => a.length - k.1) ⟨0, Nat.zero_le _, fun i _ _ h => absurd h (Nat.not_lt_zero i)⟩ id ?_ ?_
 ·exact sb
 rintro ⟨k, hk, hall⟩
 by_cases hlt : k < a.length
 ·have hc : decide ((k : Int) < ((da.length : Nat) : Int)) = true := decide_eq_true (by omega)
  obtain ⟨x, hx⟩ : ∃ p, a[k]? = some p := ⟨_, List.getElem?_eq_getElem hlt⟩
  obtain ⟨y, hy⟩ : ∃ p, b[k]? = some p := ⟨_, List.getElem?_eq_getElem (by omega)⟩
  have i1 := ga hx
  have i2 := gb hy
  have c1 := Zqu x.1 y.1
  have c2 := ih x (List.mem_of_getElem? hx) y (List.mem_of_getElem? hy)
  obtain ⟨u0, u1, u2, u3, ex, ex1⟩ := Zjz x
  obtain ⟨v0, v1, v2, v3, ey, ey1⟩ := Zjz y
  rw [show nd x = nd (x.1, x.2) from rfl, ex] at i1
  rw [show nd y = nd (y.1, y.2) from rfl, ey] at i2
  rw [ex1, ey1] at c1
  clear ex ey ga gb ih
  cases he : Zj4 x.1 y.1 with
  | true =>
   rw [he] at c1
   cases h2 : eqT Zj4 x.2 y.2 with
   | true =>
    rw [h2] at c2
    refine wk ?_
    refine Zae ?_
    refine ⟨⟨k + 1, by omega, fun i u v hi hu hv => ?_⟩, id, by simp only; omega, ?_⟩
    ·by_cases e : i = k
     ·subst e
      rw [hx] at hu; rw [hy] at hv
      cases hu; cases hv
      exact ⟨he, h2⟩
     ·exact hall i u v (by omega) hu hv
    exact sb
   | false =>
    rw [h2] at c2
    rw [Ydd a b k x y hx hy (.inr h2)]
    exact wke
  | false =>
   rw [he] at c1
   rw [Ydd a b k x y hx hy (.inl he)]
   exact wke
 ·have hc : decide ((k : Int) < ((da.length : Nat) : Int)) = false := decide_eq_false (by omega)
  rw [Yde a b hl fun i x y hx hy => hall i x y (by have := (List.getElem?_eq_some_iff.1 hx).1; omega) hx hy]
  exact wke
theorem Yoo (n : Nat) : ∀ (s t : ST PEV), dpT s < n → PCall Tryz.prog 103 [.ptr (Zbn s), .ptr (Zbn t)] (.val (.bool (eqT Zj4 s t))) := by
 induction n with
 | zero => exact fun s t h => absurd h (Nat.not_lt_zero _)
 | succ n ih =>
  intro s t hd
  obtain ⟨m, ch⟩ := s
  obtain ⟨m2, ch2⟩ := t
  have c1 := Yoj m m2
  have c2 := Yos ch ch2 (fun x hx y hy => ih x.2 y.2 (by have := Zel (t := ST.mk m ch) hx; omega))
  rw [Yk0]
  show PCall _ _ _ (.val (.bool (Ze7 Zj4 m m2 && (decide (ch.length = ch2.length) && eqC Zj4 ch ch2))))
  unfold Zbn
  clear ih hd
  generalize m.map Za3 = d3 at *
  generalize m2.map Za3 = d4 at *
  generalize Za4 ch = d5 at *
  generalize Za4 ch2 = d6 at *
  generalize (decide (ch.length = ch2.length) && eqC Zj4 ch ch2) = r at *
  cases he : Ze7 Zj4 m m2 with
  | true =>
   rw [he] at c1
   refine Zaa Tryz.func103 rfl Tryz.ntmps103 rfl (fun X => ?_)
   exact wke
  | false =>
   rw [he] at c1
   refine Zaa Tryz.func103 rfl Tryz.ntmps103 rfl (fun X => ?_)
   exact wke
theorem Yop (s t : ST PEV) : PCall Tryz.prog 103 [.ptr (Zbn s), .ptr (Zbn t)] (.val (.bool (eqT Zj4 s t))) := Yoo _ s t (Nat.lt_succ_self _)
section
variable {P : Program} {X : Base} {N : Nat} {s : Sta}
def Zov (T : TypeId) (name : String) : PD := .opq { rel := fun _ _ v => ∃ u, v = .func (.method name) #[.iface T u] #[], one := fun _ _ _ ⟨_, e⟩ => by rw [e]; rfl, keep := fun _ _ _ _ _ _ _ h => h }
theorem Yjs {o : Oper} (hd : Za8 X.N o.dst = true) {x : Operand} {name : String} (ho : o.op = .makeFunc (.method name) #[x] #[]) {T : Nat} {p : PD} (hx : s.ev x = .dat (.iface T p)) : OpS P X o s (s.put o.dst (.dat (Zov T name))) := by
 refine Zas hd fun a w ρ hc => ?_
 have h1 := hc.ev x
 rw [hx] at h1
 unfold VR Rep at h1
 obtain ⟨u, e, hu⟩ := h1
 exact ⟨.func (.method name) #[.iface T u] #[], by simp [execOp, ho, Instr.makeFunc, e], by unfold VR Zov Rep; exact ⟨u, rfl⟩⟩
theorem Yoe {o : Oper} (hd : Za8 X.N o.dst = true) {x : Operand} (ho : o.op = .nilCheck x) {T : TypeId} {name : String} {f : FuncId} (hm : Zsd P T name = some (f, none)) (hx : s.ev x = .dat (Zov T name)) : OpS P X o s (s.put o.dst (.dat (Zov T name))) := by
 refine Zas hd fun a w ρ hc => ?_
 have h1 := hc.ev x
 rw [hx] at h1
 unfold VR Zov Rep at h1
 obtain ⟨b, e⟩ := h1
 refine ⟨_, ?_, by unfold VR Zov Rep; exact ⟨b, rfl⟩⟩
 simp [execOp, ho, e, Zvl hm (show 0 < P.types.size + Made.depth by unfold Made.depth; omega), Result.andThen]
theorem Ymg {ops : List Oper} {d : Nat} {x : Operand} {name : String} {T : Nat} {p : PD} (hN : Nat.blt d N = true) (hx : s.ev x = .dat (.iface T p)) : TrK P X N ops (some d) (.makeFunc (.method name) #[x] #[]) (Eff.put (some d) (.dat (Zov T name))) s (s.put (some d) (.dat (Zov T name))) :=
 Zbh hN fun s' _ _ _ _ hd hev htb => Yjs hd rfl ((hev _ (by simp [Op.operands])).trans hx)
theorem Yqh {ops : List Oper} {d : Nat} {x : Operand} {T : Nat} {name : String} {f : Nat} (hN : Nat.blt d N = true) (hx : s.ev x = .dat (Zov T name)) [hm : MI P T name f none] : TrK P X N ops (some d) (.nilCheck x) (Eff.put (some d) (.dat (Zov T name))) s (s.put (some d) (.dat (Zov T name))) :=
 Zbh hN fun s' _ _ _ _ hd hev htb => Yoe hd rfl hm.out ((hev _ (by simp [Op.operands])).trans hx)
end
instance : MI Tryz.prog 233 "Filter" 289 none := ⟨by kernel_rfl⟩
theorem Yn5 (d : PD) : PCall Tryz.prog 104 [.ptr d] (.iface 233 (.agg [.ptr d])) := by
 refine Zaa Tryz.func104 rfl Tryz.ntmps104 rfl (fun X => ?_)
 exact wke
theorem Yav {s t : ST PEV} {a b : Nat} (hs : TOk s a) (ht : TOk t b) (hn : a + b ≤ 1099511627776) : PCall Tryz.prog 289 [.agg [.ptr (Zbn t)], .ptr (Zbn s)] (.ptr (Zbn (rT s t))) := by
 have c1 := Yf1 hs ht hn
 clear hs ht hn
 generalize Zbn (rT s t) = d1 at *
 generalize Zbn s = d2 at *
 generalize Zbn t = d3 at *
 refine Zaa Tryz.func289 rfl Tryz.ntmps289 rfl (fun X => ?_)
 exact wke
section
variable {a b : List (List EV)} (ha : PsOk a) (hb : PsOk b) (la : Znr a) (lb : Znr b) (na : a.length ≤ 549755813888) (nb : b.length ≤ 549755813888)
include ha hb
theorem Yhd (na : a.length ≤ 549755813888) (nb : b.length ≤ 549755813888) : PCall Tryz.prog 43 [.sl 1 24 (a.map pdP), .sl 1 24 (b.map pdP)] (.val (.bool (eqT Zj4 (inT a) (inT b)))) := by
 have c1 := Zi0 a ha na
 have c2 := Zi0 b hb nb
 have c3 := Yop (inT a) (inT b)
 clear ha hb na nb
 generalize eqT Zj4 (inT a) (inT b) = r at *
 generalize Zbn (inT a) = d3 at *
 generalize Zbn (inT b) = d4 at *
 generalize a.map pdP = d5 at *
 generalize b.map pdP = d6 at *
 refine Zaa Tryz.func43 rfl Tryz.ntmps43 rfl (fun X => ?_)
 exact wke
include la lb na nb
theorem Ylq : PCall Tryz.prog 45 [.sl 1 24 (a.map pdP), .sl 1 24 (b.map pdP)] (.sl 1 24 ((Zlf (rT (inT a) (inT b))).map pdP)) := by
 have ta := Zge ha la (Nat.le_refl _)
 have tb := Zge hb lb (Nat.le_refl _)
 have c1 := Zi0 a ha na
 have c2 := Zi0 b hb nb
 have c3 := Yav ta tb (by omega)
 have c4 := Zn6 (Yfw ta tb) (by omega)
 have c5 := Yn5 (Zbn (inT b))
 clear ta tb ha hb la lb na nb
 generalize (Zlf _).map pdP = d1 at *
 generalize Zbn (rT _ _) = d2 at *
 generalize Zbn (inT a) = d3 at *
 generalize Zbn (inT b) = d4 at *
 generalize a.map pdP = d5 at *
 generalize b.map pdP = d6 at *
 refine Zaa Tryz.func45 rfl Tryz.ntmps45 rfl (fun X => ?_)
 refine wk ?_
 refine Zcg (Ymg rfl rfl) ?_
 refine wk ?_
 refine Zcg (Yqh rfl rfl) ?_
 exact wke
end
theorem Ym1 {s : ST PEV} {n : Nat} (h : TOk s n) : eqT Zj4 s s = true := Yj9 h h fun _ _ _ _ => rfl
end Go.Proofs.YtgmahieoiifpfaaGreat
