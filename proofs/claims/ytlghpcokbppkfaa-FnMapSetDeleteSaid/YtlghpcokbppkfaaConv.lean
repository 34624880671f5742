import Derived.Test.YtlghpcokbppkfaaEngB
import Derived.Test.YtlghpcokbppkfaaTy
import Derived.Test.YtlghpcokbppkfaaData
import Derived.Test.YtlghpcokbppkfaaFromMapW
import Derived.Test.YtlghpcokbppkfaaPureGet
set_option linter.unusedVariables false
/- The package's plain values as data of the general kind; old contracts as contracts on data. -/
namespace Go.Proofs.Ytlghpcokbppkfaa
open Go.RowKit

def pdS (ks : List ByteArray) : List PD := ks.map fun k => .val (.string k)
mutual
def pdV : GV → PD
  | .mk k n f s ks l => .agg [.val (.int .i64 k), .val (.int .i64 n), .val (.float .f64 f), .val (.string s), .sl 1 16 (pdS ks), .sl 6 88 (pdVs l)]
def pdVs : List GV → List PD
  | [] => []
  | x :: r => pdV x :: pdVs r
end
theorem pdV_eq (x : GV) : pdV x = .agg [.val (.int .i64 x.kind), .val (.int .i64 x.n), .val (.float .f64 x.f), .val (.string x.s), .sl 1 16 (pdS x.keys), .sl 6 88 (pdVs x.l)] := by
  cases x; unfold pdV; rfl
theorem pdVs_eq (l : List GV) : pdVs l = l.map pdV := by
  induction l with
  | nil => unfold pdVs; rfl
  | cons x r ih => unfold pdVs; rw [ih]; rfl
theorem pdVs_len (l : List GV) : (pdVs l).length = l.length := by rw [pdVs_eq]; simp
theorem pdS_len (l : List ByteArray) : (pdS l).length = l.length := by simp [pdS]
theorem pdVs_at {l : List GV} {i : Nat} {x : GV} (h : l[i]? = some x) : (pdVs l)[i]? = some (pdV x) := by rw [pdVs_eq]; simp [h]
theorem pdS_at {l : List ByteArray} {i : Nat} {x : ByteArray} (h : l[i]? = some x) : (pdS l)[i]? = some (.val (.string x)) := by simp [pdS, h]

section
variable {w : World} {F : Nat → Prop}
theorem repL_strs {b : Nat} : ∀ {ks : List ByteArray} {o : Nat}, RepL w F 1 (pdS ks) b o ↔ ((∀ s ∈ ks, s.size ≤ maxLen) ∧ ∀ i k, ks[i]? = some k → w.cell? ⟨b, o + i, none⟩ = some (.string k))
  | [], o => by simp [pdS, RepL]
  | k :: r, o => by
    have ih := repL_strs (b := b) (ks := r) (o := o + 1)
    simp only [pdS, List.map_cons] at ih ⊢
    unfold RepL
    rw [ih]
    constructor
    · rintro ⟨⟨u, hu, hn, h1, hl⟩, h2, h3⟩
      unfold Rep at hu
      obtain ⟨rfl, hok⟩ := hu
      refine ⟨fun s hs => ?_, fun i k' hi => ?_⟩
      · rcases List.mem_cons.1 hs with rfl | hs
        · exact hok
        · exact h2 s hs
      · cases i with
        | zero => simp at hi; subst hi; exact hl 0 _ rfl
        | succ i =>
          have := h3 i k' (by simpa using hi)
          rwa [show o + 1 + i = o + (i + 1) by omega] at this
    · rintro ⟨h2, h3⟩
      refine ⟨⟨.string k, ?_, rfl, by simp [Value.cells, Value.oneCell'], fun j u hj => ?_⟩, fun s hs => h2 s (List.mem_cons_of_mem _ hs), fun i k' hi => ?_⟩
      · unfold Rep; exact ⟨rfl, h2 k List.mem_cons_self⟩
      · cases j with
        | zero => simp [Value.cells] at hj; subst hj; exact h3 0 k rfl
        | succ j => simp [Value.cells] at hj
      · have := h3 (i + 1) k' (by simpa using hi)
        rwa [show o + (i + 1) = o + 1 + i by omega] at this
theorem rep_strs {ks : List ByteArray} {v : Value} : Rep w F (.sl 1 16 (pdS ks)) v ↔ IsStrs w F v ks := by
  unfold Rep IsStrs
  rw [pdS_len]
  constructor
  · rintro ⟨a, c, rfl, h1, h2, h3, h4⟩
    rcases h4 with h4 | ⟨b, o, hF, rfl, hr⟩
    · have : ks = [] := by cases ks <;> simp_all [pdS]
      subst this
      exact ⟨a, c, rfl, h1, h2, by simp, fun h => by simp at h⟩
    · have := repL_strs.1 hr
      exact ⟨_, c, rfl, h1, h2, this.1, fun _ => ⟨b, o, hF, rfl, fun i hi => this.2 i _ (by simp [List.getD, hi])⟩⟩
  · rintro ⟨a, c, rfl, h1, h2, h3, h4⟩
    refine ⟨a, c, rfl, h1, h2, by omega, ?_⟩
    by_cases h : 0 < ks.length
    · obtain ⟨b, o, hF, rfl, hc⟩ := h4 h
      refine .inr ⟨b, o, hF, rfl, repL_strs.2 ⟨h3, fun i k hi => ?_⟩⟩
      have hlt := (List.getElem?_eq_some_iff.1 hi).1
      rw [hc i hlt]
      simp [List.getD, hi]
    · left; have : ks = [] := List.eq_nil_of_length_eq_zero (by omega)
      subst this; rfl
mutual
theorem isV_rep : ∀ (x : GV) {v : Value}, IsV w F x v → Rep w F (pdV x) v
  | .mk k n f s ks l, v, h => by
    unfold IsV at h
    obtain ⟨vk, a, c, rfl, h1, h2, h3, h4, h5, h6, h7, h8⟩ := h
    unfold pdV Rep
    refine ⟨[.int .i64 k, .int .i64 n, .float .f64 f, .string s, vk, .slice a l.length c], rfl, ?_, ?_⟩
    · have e5 := rep_strs.2 h5
      have e6 : Rep w F (.sl 6 88 (pdVs l)) (.slice a l.length c) := by
        unfold Rep
        rw [pdVs_len]
        refine ⟨a, c, rfl, h6, h7, by omega, ?_⟩
        rcases h8 with rfl | ⟨b, o, hF, rfl, hv⟩
        · left; unfold pdVs; rfl
        · exact .inr ⟨b, o, hF, rfl, isVs_repL l hv⟩
      simp only [Reps]
      exact ⟨_, _, rfl, by unfold Rep; exact ⟨rfl, h1⟩, _, _, rfl, by unfold Rep; exact ⟨rfl, h2⟩, _, _, rfl, by unfold Rep; exact ⟨rfl, h3⟩, _, _, rfl, by unfold Rep; exact ⟨rfl, h4⟩, _, _, rfl, e5, _, _, rfl, e6, rfl⟩
    · obtain ⟨a0, c0, rfl, _⟩ := h5
      simp [Value.oneCell']
theorem isVs_repL : ∀ (l : List GV) {b o : Nat}, IsVs w F l b o → RepL w F 6 (pdVs l) b o
  | [], b, o, _ => by unfold pdVs RepL; trivial
  | x :: r, b, o, h => by
    unfold IsVs at h
    obtain ⟨⟨c0, c1, c2, c3, c4, c5, g0, g1, g2, g3, g4, g5, hx⟩, hr⟩ := h
    have hx' := isV_rep x hx
    unfold pdVs RepL
    refine ⟨⟨_, hx', by simp [Value.cells], ?_, fun j u hj => ?_⟩, isVs_repL r hr⟩
    · obtain ⟨a0, d0, a1, d1, e⟩ := hx.form
      rw [e]; simp [Value.cells, Value.oneCell']
    · simp only [Value.cells] at hj
      match j, hj with
      | 0, hj => simp at hj; subst hj; exact g0
      | 1, hj => simp at hj; subst hj; exact g1
      | 2, hj => simp at hj; subst hj; exact g2
      | 3, hj => simp at hj; subst hj; exact g3
      | 4, hj => simp at hj; subst hj; exact g4
      | 5, hj => simp at hj; subst hj; exact g5
      | j + 6, hj => simp at hj
end
mutual
theorem rep_isV : ∀ (x : GV) {v : Value}, Rep w F (pdV x) v → IsV w F x v
  | .mk k n f s ks l, v, h => by
    unfold pdV Rep at h
    obtain ⟨vs, rfl, hr, h1⟩ := h
    simp only [Reps] at hr
    obtain ⟨v0, _, rfl, e0, v1, _, rfl, e1, v2, _, rfl, e2, v3, _, rfl, e3, v4, _, rfl, e4, v5, _, rfl, e5, rfl⟩ := hr
    unfold Rep at e0 e1 e2 e3
    obtain ⟨rfl, w0⟩ := e0
    obtain ⟨rfl, w1⟩ := e1
    obtain ⟨rfl, w2⟩ := e2
    obtain ⟨rfl, w3⟩ := e3
    have e4' := rep_strs.1 e4
    unfold Rep at e5
    rw [pdVs_len] at e5
    obtain ⟨a, c, rfl, h5, h6, _, h7⟩ := e5
    unfold IsV
    refine ⟨v4, a, c, rfl, w0, w1, w2, w3, e4', h5, h6, ?_⟩
    rcases h7 with h7 | ⟨b, o, hF, rfl, hv⟩
    · left; cases l with | nil => rfl | cons _ _ => unfold pdVs at h7; cases h7
    · exact .inr ⟨b, o, hF, rfl, repL_isVs l hv⟩
theorem repL_isVs : ∀ (l : List GV) {b o : Nat}, RepL w F 6 (pdVs l) b o → IsVs w F l b o
  | [], b, o, _ => by unfold IsVs; trivial
  | x :: r, b, o, h => by
    unfold pdVs RepL at h
    obtain ⟨⟨u, hu, hn, h1, hl⟩, hr⟩ := h
    have hv := rep_isV x hu
    obtain ⟨a0, d0, a1, d1, e⟩ := hv.form
    subst e
    unfold IsVs
    simp only [Value.cells] at hl
    exact ⟨⟨_, _, _, _, _, _, hl 0 _ rfl, hl 1 _ rfl, hl 2 _ rfl, hl 3 _ rfl, hl 4 _ rfl, hl 5 _ rfl, hv⟩, repL_isVs r hr⟩
end
theorem isV_arg {x : GV} {v : Value} (h : Rep w F (pdV x) v) (hF : ∀ b, F b → b < w.heap.size) : IsV w (Btw 0 w.heap.size) x v := (rep_isV x h).keep (fun _ _ => rfl) (fun b hb => ⟨Nat.zero_le _, hF b hb⟩)
end

/-! ### Old contracts -/
section
variable {P : Program} {f : FuncId}
theorem pcall_V1 {x : GV} {y : PD} {R : World → World → Value → Prop} (h : ∀ w v, IsV w (Btw 0 w.heap.size) x v → Calls P f #[v] w fun e w' => ∃ r, e = .returned r ∧ Below w.heap.size w w' ∧ R w w' r)
    (hR : ∀ (w w' : World) (r : Value) (F : Nat → Prop), R w w' r → Rep w' (fun b => F b ∨ (w.heap.size ≤ b ∧ b < w'.heap.size)) y r) : PCall P f [pdV x] y := by
  intro w F vs hF hv
  unfold Reps at hv
  obtain ⟨v, r', rfl, hx, hr⟩ := hv
  unfold Reps at hr
  subst hr
  refine (h w v (isV_arg hx hF)).mono ?_
  rintro e w' ⟨r, he, hb, hRr⟩
  exact ⟨r, he, hb, hR w w' r F hRr⟩
theorem pcall_V1s {x : GV} {u : Value} (hu : okV u) (h : ∀ w v, IsV w (Btw 0 w.heap.size) x v → Calls P f #[v] w fun e w' => e = .returned u ∧ Below w.heap.size w w') : PCall P f [pdV x] (.val u) :=
  pcall_V1 (R := fun _ _ r => r = u) (fun w v hv => (h w v hv).mono fun e w' ⟨h1, h2⟩ => ⟨u, h1, h2, rfl⟩) (fun _ _ r _ e => by unfold Rep; exact ⟨e, hu⟩)
theorem pcall_V1V {x y : GV} (h : ∀ w v, IsV w (Btw 0 w.heap.size) x v → Calls P f #[v] w fun e w' => ∃ r, e = .returned r ∧ Below w.heap.size w w' ∧ IsV w' (Btw w.heap.size w'.heap.size) y r) : PCall P f [pdV x] (pdV y) :=
  pcall_V1 (R := fun w w' r => IsV w' (Btw w.heap.size w'.heap.size) y r) h (fun _ _ _ _ hr => (isV_rep y hr).keep (fun _ _ => rfl) (fun b hb => .inr hb))
theorem pcall_V2s {x y : GV} {u : Value} (hu : okV u) (h : ∀ w v v', IsV w (Btw 0 w.heap.size) x v → IsV w (Btw 0 w.heap.size) y v' → Calls P f #[v, v'] w fun e w' => e = .returned u ∧ Below w.heap.size w w') : PCall P f [pdV x, pdV y] (.val u) := by
  intro w F vs hF hv
  simp only [Reps] at hv
  obtain ⟨v, _, rfl, hx, v', _, rfl, hy, rfl⟩ := hv
  refine (h w v v' (isV_arg hx hF) (isV_arg hy hF)).mono ?_
  rintro e w' ⟨he, hb⟩
  exact ⟨u, he, hb, by unfold Rep; exact ⟨rfl, hu⟩⟩
end
end Go.Proofs.Ytlghpcokbppkfaa

/- The types of a schema as data: impl's Atom, Ref, ListType, MapType, FieldType, and the package's own forms of them. -/
namespace Go.Proofs.Ytlghpcokbppkfaa
open Go.RowKit

mutual
inductive TA where
  | mk (scalar : ByteArray) (lists : List TL) (maps : List TM)
inductive TR where
  | mk (named : Bool) (name : ByteArray) (atom : TA) (rel : ByteArray)
inductive TL where
  | mk (elem : TR) (rel : ByteArray) (keys : List ByteArray)
inductive TM where
  | mk (fields : List TF) (elem : TR) (rel : ByteArray)
inductive TF where
  | mk (name : ByteArray) (type : TR) (dflt : List GV)
end
def TA.scalar : TA → ByteArray | .mk s _ _ => s
def TA.lists : TA → List TL | .mk _ l _ => l
def TA.maps : TA → List TM | .mk _ _ m => m
def TR.named : TR → Bool | .mk b _ _ _ => b
def TR.name : TR → ByteArray | .mk _ s _ _ => s
def TR.atom : TR → TA | .mk _ _ a _ => a
def TR.rel : TR → ByteArray | .mk _ _ _ r => r
def TL.elem : TL → TR | .mk e _ _ => e
def TL.rel : TL → ByteArray | .mk _ r _ => r
def TL.keys : TL → List ByteArray | .mk _ _ k => k
def TM.fields : TM → List TF | .mk f _ _ => f
def TM.elem : TM → TR | .mk _ e _ => e
def TM.rel : TM → ByteArray | .mk _ _ r => r
def TF.name : TF → ByteArray | .mk n _ _ => n
def TF.type : TF → TR | .mk _ t _ => t
def TF.dflt : TF → List GV | .mk _ _ d => d

mutual
def cA : TA → List PD
  | .mk s ls ms => [.val (.string s), .sl 8 144 (pdLs ls), .sl 8 144 (pdMs ms)]
def cR : TR → List PD
  | .mk b n a r => [.val (.bool b), .val (.string n)] ++ cA a ++ [.val (.string r)]
def pdL : TL → PD
  | .mk e r ks => .agg (cR e ++ [.val (.string r), .sl 1 16 (pdS ks)])
def pdM : TM → PD
  | .mk fs e r => .agg ([.sl 8 144 (pdFs fs)] ++ cR e ++ [.val (.string r)])
def pdF : TF → PD
  | .mk n t d => .agg ([.val (.string n)] ++ cR t ++ [.sl 6 88 (pdVs d)])
def pdLs : List TL → List PD
  | [] => []
  | x :: r => pdL x :: pdLs r
def pdMs : List TM → List PD
  | [] => []
  | x :: r => pdM x :: pdMs r
def pdFs : List TF → List PD
  | [] => []
  | x :: r => pdF x :: pdFs r
end
def pdA (a : TA) : PD := .agg (cA a)
def pdR (r : TR) : PD := .agg (cR r)
theorem cA_eq (a : TA) : cA a = [.val (.string a.scalar), .sl 8 144 (pdLs a.lists), .sl 8 144 (pdMs a.maps)] := by cases a; unfold cA; rfl
theorem cR_eq (r : TR) : cR r = [.val (.bool r.named), .val (.string r.name), .val (.string r.atom.scalar), .sl 8 144 (pdLs r.atom.lists), .sl 8 144 (pdMs r.atom.maps), .val (.string r.rel)] := by
  obtain ⟨b, n, a, r⟩ := r; unfold cR; rw [cA_eq]; rfl
theorem pdA_eq (a : TA) : pdA a = .agg [.val (.string a.scalar), .sl 8 144 (pdLs a.lists), .sl 8 144 (pdMs a.maps)] := by unfold pdA; rw [cA_eq]
theorem pdR_eq (r : TR) : pdR r = .agg [.val (.bool r.named), .val (.string r.name), .val (.string r.atom.scalar), .sl 8 144 (pdLs r.atom.lists), .sl 8 144 (pdMs r.atom.maps), .val (.string r.rel)] := by unfold pdR; rw [cR_eq]
theorem pdL_eq (x : TL) : pdL x = .agg [.val (.bool x.elem.named), .val (.string x.elem.name), .val (.string x.elem.atom.scalar), .sl 8 144 (pdLs x.elem.atom.lists), .sl 8 144 (pdMs x.elem.atom.maps), .val (.string x.elem.rel), .val (.string x.rel), .sl 1 16 (pdS x.keys)] := by
  cases x; unfold pdL; rw [cR_eq]; rfl
theorem pdM_eq (x : TM) : pdM x = .agg [.sl 8 144 (pdFs x.fields), .val (.bool x.elem.named), .val (.string x.elem.name), .val (.string x.elem.atom.scalar), .sl 8 144 (pdLs x.elem.atom.lists), .sl 8 144 (pdMs x.elem.atom.maps), .val (.string x.elem.rel), .val (.string x.rel)] := by
  cases x; unfold pdM; rw [cR_eq]; rfl
theorem pdF_eq (x : TF) : pdF x = .agg [.val (.string x.name), .val (.bool x.type.named), .val (.string x.type.name), .val (.string x.type.atom.scalar), .sl 8 144 (pdLs x.type.atom.lists), .sl 8 144 (pdMs x.type.atom.maps), .val (.string x.type.rel), .sl 6 88 (pdVs x.dflt)] := by
  cases x; unfold pdF; rw [cR_eq]; rfl
theorem pdLs_eq (l : List TL) : pdLs l = l.map pdL := by
  induction l with
  | nil => unfold pdLs; rfl
  | cons x r ih => unfold pdLs; rw [ih]; rfl
theorem pdMs_eq (l : List TM) : pdMs l = l.map pdM := by
  induction l with
  | nil => unfold pdMs; rfl
  | cons x r ih => unfold pdMs; rw [ih]; rfl
theorem pdFs_eq (l : List TF) : pdFs l = l.map pdF := by
  induction l with
  | nil => unfold pdFs; rfl
  | cons x r ih => unfold pdFs; rw [ih]; rfl

/-- A tree of the package. -/
def pdJ (j : JV) : PD := .opq { rel := fun w F v => IsJ w F j v ∧ JOk j, one := fun _ _ _ h => h.1.oneCell, keep := fun _ _ _ _ _ h hs hv => ⟨IsJ.keep h hs j hv.1, hv.2⟩ }
theorem pdJ_nil {j : JV} (h : j = .null) : NilIs true (pdJ j) true := fun w F v hr => by
  subst h; unfold pdJ Rep at hr; unfold IsJ at hr; exact hr.1
theorem pdJ_some {j : JV} (h : j ≠ .null) : NilIs true (pdJ j) false := fun w F v hr => by
  unfold pdJ Rep at hr
  cases j <;> simp only [IsJ] at hr
  · exact absurd rfl h
  · exact ⟨_, _, hr.1⟩
  · exact ⟨_, _, hr.1.1⟩
  · exact ⟨_, _, hr.1.1⟩
  · exact ⟨_, _, hr.1.1⟩
  · obtain ⟨⟨a, c, e, _⟩, _⟩ := hr; exact ⟨_, _, e⟩
  · obtain ⟨⟨b, es, cl, e, _⟩, _⟩ := hr; exact ⟨_, _, e⟩

/-! ### The package's own forms -/
def nilP : PD := .val (.pointer none)
def optS (s : ByteArray) : PD := if s = ⟨#[]⟩ then nilP else .ptr (.val (.string s))
mutual
/-- schema.Atom: pointers to a scalar, a list, a map. -/
def tA : TA → List PD
  | .mk s ls ms => [optS s, hdL ls, hdM ms]
def hdL : List TL → PD
  | [] => nilP
  | x :: _ => .ptr (tL x)
def hdM : List TM → PD
  | [] => nilP
  | x :: _ => .ptr (tM x)
/-- schema.TypeRef -/
def tR : TR → List PD
  | .mk true n _ r => [.ptr (.val (.string n)), nilP, nilP, nilP, optS r, .val (.bool false)]
  | .mk false _ a r => [nilP] ++ tA a ++ [optS r, .val (.bool false)]
/-- schema.List -/
def tL : TL → PD
  | .mk e r ks => .agg (tR e ++ [.val (.string r), .sl 1 16 (pdS ks)])
/-- schema.Map -/
def tM : TM → PD
  | .mk fs e r => .agg ([.sl 8 80 (tFs fs), .val (.slice none 0 0)] ++ tR e ++ [.val (.string r)])
/-- schema.StructField -/
def tF : TF → PD
  | .mk n t d => .agg ([.val (.string n)] ++ tR t ++ [dfJ d])
def tFs : List TF → List PD
  | [] => []
  | x :: r => tF x :: tFs r
def dfJ : List GV → PD
  | [] => .val .nilIface
  | x :: _ => pdJ (plainJ x)
end
theorem tA_eq (a : TA) : tA a = [optS a.scalar, hdL a.lists, hdM a.maps] := by cases a; unfold tA; rfl
def r1 (r : TR) : PD := if r.named then .ptr (.val (.string r.name)) else nilP
def r2 (r : TR) : PD := if r.named then nilP else optS r.atom.scalar
def r3 (r : TR) : PD := if r.named then nilP else hdL r.atom.lists
def r4 (r : TR) : PD := if r.named then nilP else hdM r.atom.maps
theorem tR_eq (r : TR) : tR r = [r1 r, r2 r, r3 r, r4 r, optS r.rel, .val (.bool false)] := by
  obtain ⟨b, n, a, rl⟩ := r
  cases b
  · unfold tR; rw [tA_eq]; rfl
  · unfold tR; rfl
theorem tL_eq (x : TL) : tL x = .agg [r1 x.elem, r2 x.elem, r3 x.elem, r4 x.elem, optS x.elem.rel, .val (.bool false), .val (.string x.rel), .sl 1 16 (pdS x.keys)] := by cases x; unfold tL; rw [tR_eq]; rfl
theorem tM_eq (x : TM) : tM x = .agg [.sl 8 80 (tFs x.fields), .val (.slice none 0 0), r1 x.elem, r2 x.elem, r3 x.elem, r4 x.elem, optS x.elem.rel, .val (.bool false), .val (.string x.rel)] := by cases x; unfold tM; rw [tR_eq]; rfl
theorem tF_eq (x : TF) : tF x = .agg [.val (.string x.name), r1 x.type, r2 x.type, r3 x.type, r4 x.type, optS x.type.rel, .val (.bool false), dfJ x.dflt] := by cases x; unfold tF; rw [tR_eq]; rfl
theorem tFs_eq (l : List TF) : tFs l = l.map tF := by
  induction l with
  | nil => unfold tFs; rfl
  | cons x r ih => unfold tFs; rw [ih]; rfl
def pTA (a : TA) : PD := .agg [optS a.scalar, hdL a.lists, hdM a.maps]
def pTL (x : TL) : PD := .agg [r1 x.elem, r2 x.elem, r3 x.elem, r4 x.elem, optS x.elem.rel, .val (.bool false), .val (.string x.rel), .sl 1 16 (pdS x.keys)]
def pTM (x : TM) : PD := .agg [.sl 8 80 (tFs x.fields), .val (.slice none 0 0), r1 x.elem, r2 x.elem, r3 x.elem, r4 x.elem, optS x.elem.rel, .val (.bool false), .val (.string x.rel)]
def pTF (x : TF) : PD := .agg [.val (.string x.name), r1 x.type, r2 x.type, r3 x.type, r4 x.type, optS x.type.rel, .val (.bool false), dfJ x.dflt]
def pTR (r : TR) : PD := .agg [r1 r, r2 r, r3 r, r4 r, optS r.rel, .val (.bool false)]

/-! ### What is left of a type that went there and back -/
def isNull : JV → Bool
  | .null => true
  | _ => false
theorem isNull_iff {j : JV} : isNull j = true ↔ j = .null := by cases j <;> simp [isNull]
def emptyA : TA := .mk ⟨#[]⟩ [] []
mutual
def nA : TA → TA
  | .mk s l m => .mk s (nL1 l) (nM1 m)
def nL1 : List TL → List TL
  | [] => []
  | x :: _ => [nL x]
def nM1 : List TM → List TM
  | [] => []
  | x :: _ => [nM x]
def nR : TR → TR
  | .mk true n _ r => .mk true n emptyA r
  | .mk false _ a r => .mk false ⟨#[]⟩ (nA a) r
def nL : TL → TL
  | .mk e r k => .mk (nR e) r k
def nM : TM → TM
  | .mk f e r => .mk (nFs f) (nR e) r
def nFs : List TF → List TF
  | [] => []
  | x :: r => nF x :: nFs r
def nF : TF → TF
  | .mk n t d => .mk n (nR t) (nD d)
def nD : List GV → List GV
  | [] => []
  | x :: _ => if isNull (plainJ x) then [] else [cleanV x]
end
theorem nFs_eq (l : List TF) : nFs l = l.map nF := by
  induction l with
  | nil => unfold nFs; rfl
  | cons x r ih => unfold nFs; rw [ih]; rfl
end Go.Proofs.Ytlghpcokbppkfaa

/- impl's schema types into the package's own: toAtom, toRef, toListType, toMap, toField. -/
namespace Go.Proofs.Ytlghpcokbppkfaa
open Go.RowKit
set_option linter.unusedSimpArgs false
set_option maxRecDepth 10000
set_option maxHeartbeats 2000000

theorem plain_p (x : GV) : PCall Try.prog 73 [pdV x] (pdJ (plainJ x)) := by
  refine pcall_fits fun hf => ?_
  obtain ⟨w0, F0, v0, h0⟩ := hf (pdV x) (by simp)
  have hok := plain_ok x (IsV.gok x (rep_isV x h0))
  exact pcall_V1 (R := fun w w' r => IsJ w' (Btw w.heap.size w'.heap.size) (plainJ x) r) (fun w v hv => (plain_any x).use w v hv) fun w w' r F h => by
    unfold pdJ Rep
    exact ⟨IsJ.keep (fun _ _ => rfl) (fun b hb => .inr hb) _ h, hok⟩
theorem head0V {l : List GV} {y : GV} {r : List GV} (h : l = y :: r) : (pdVs l)[(0 : Int).toNat]? = some (pdV y) := by subst h; unfold pdVs; rfl
theorem head0L {l : List TL} {y : TL} {r : List TL} (h : l = y :: r) : (pdLs l)[(0 : Int).toNat]? = some (pdL y) := by subst h; unfold pdLs; rfl
theorem head0M {l : List TM} {y : TM} {r : List TM} (h : l = y :: r) : (pdMs l)[(0 : Int).toNat]? = some (pdM y) := by subst h; unfold pdMs; rfl
theorem gt0 {l : List PD} {y : PD} {r : List PD} (h : l = y :: r) : decide ((0 : Int) < (l.length : Int)) = true := by subst h; simp
theorem gt0n {l : List PD} (h : l = []) : decide ((0 : Int) < (l.length : Int)) = false := by subst h; rfl

theorem toRef_p (x : TR) (ih : PCall Try.prog 124 [pdA x.atom] (pTA x.atom)) : PCall Try.prog 93 [pdR x] (pTR x) := by
  refine pcall_of_run Try.func93 rfl Try.ntmps93 rfl (fun X => ?_)
  repeat' (first
    | refine run_seq ?_
    | (refine k_pick rfl ?_; first | refine k_fieldAddrB rfl rfl rfl ?_ | refine k_loadBD rfl rfl rfl (by first | rfl | (simp only [pdR_eq, pdA_eq, cellsD]; rfl)) ?_ | refine k_bin2B rfl rfl rfl rfl ?_ | refine k_boxW rfl rfl rfl (by first | rfl | (simp only [pdR_eq, pdA_eq, cellsD]; rfl)) ?_ | refine k_call rfl (by kernel_rfl) rfl (by first | exact ih | (simp only [← pdR_eq, ← pdA_eq]; exact ih)) ?_ | refine k_storeB rfl rfl rfl rfl rfl ?_ | refine k_alloc rfl rfl ?_ | refine k_loadBG rfl rfl rfl rfl ?_ | refine k_build rfl rfl rfl ?_)
    | refine run_opsEnd ?_
    | refine run_region ?_
    | refine run_cond rfl (fun h => ?_) (fun h => ?_)
    | refine run_skip ?_
    | refine run_retOk (resOk_cell rfl rfl rfl (by first | rfl | (simp only [pdR_eq, pdA_eq, cellsD]; rfl)) ?_)
    | fail)
  all_goals first
    | (refine PLe.of_eq ?_; simp_all [pTR, r1, r2, r3, r4, optS, nilP]; done)
    | (refine run_frz (fun _ => false) (fun k => k == 4 || k == 5) ?_
       refine run_retOk (resOk_cell rfl rfl rfl rfl ?_)
       refine PLe.of_eq ?_; simp_all [pTR, r1, r2, r3, r4, optS, nilP])
theorem toField_p (x : TF) (ih : PCall Try.prog 93 [pdR x.type] (pTR x.type)) : PCall Try.prog 117 [pdF x] (pTF x) := by
  cases hd : x.dflt with
  | nil =>
    refine pcall_of_run Try.func117 rfl Try.ntmps117 rfl (fun X => ?_)
    have hl := gt0n (l := pdVs x.dflt) (by rw [hd]; unfold pdVs; rfl)
    repeat' (first
    | refine run_seq ?_
    | (refine k_pick rfl ?_; first | refine k_fieldAddrB rfl rfl rfl ?_ | refine k_loadBD rfl rfl rfl (by first | rfl | (simp only [pdF_eq, pdR_eq, cellsD]; rfl)) ?_ | refine k_bin2B rfl rfl rfl rfl ?_ | refine k_boxW rfl rfl rfl (by first | rfl | (simp only [pdF_eq, pdR_eq, cellsD]; rfl)) ?_ | refine k_lenD rfl rfl ?_ | refine k_storeB rfl rfl rfl rfl rfl ?_ | refine k_alloc rfl rfl ?_)
    | refine run_opsEnd ?_
    | refine run_region ?_
    | refine run_condF rfl (by first | rfl | assumption) ?_
    | refine run_skip ?_
    | refine run_retOk (resOk_cell rfl rfl rfl (by first | rfl | (simp only [pdF_eq, pdR_eq, cellsD]; rfl)) ?_)
    | refine run_drawC (by kernel_rfl) ?_
    | refine c_nil (And.intro (by kernel_rfl) ?_)
    | refine c_pick (d_fieldAddrB rfl rfl rfl) ?_
    | refine c_pick (d_loadBD rfl rfl rfl (by first | rfl | (simp only [pdF_eq, pdR_eq, cellsD]; rfl))) ?_
    | refine c_pick (d_call rfl (by kernel_rfl) rfl (by first | exact ih | (simp only [← pdF_eq, ← pdR_eq]; exact ih))) ?_
    | refine c_pick (d_storeB rfl rfl rfl rfl rfl) ?_
    | refine c_pick (d_alloc rfl rfl) ?_
    | refine c_pick (d_build rfl rfl rfl) ?_
    | fail)
    all_goals (refine PLe.of_eq ?_; simp_all [pTF, dfJ])
  | cons y r =>
    refine pcall_of_run Try.func117 rfl Try.ntmps117 rfl (fun X => ?_)
    have hl := gt0 (l := pdVs x.dflt) (by rw [hd]; unfold pdVs; rfl)
    have h0 := head0V hd
    repeat' (first
    | refine run_seq ?_
    | (refine k_pick rfl ?_; first | refine k_indexAddrD rfl rfl rfl (by omega) (by assumption) ?_ | refine k_fieldAddrB rfl rfl rfl ?_ | refine k_loadBD rfl rfl rfl (by first | rfl | (simp only [pdF_eq, pdR_eq, pdV_eq, cellsD]; rfl)) ?_ | refine k_bin2B rfl rfl rfl rfl ?_ | refine k_boxW rfl rfl rfl (by first | rfl | (simp only [pdF_eq, pdR_eq, pdV_eq, cellsD]; rfl)) ?_ | refine k_call rfl (by kernel_rfl) rfl (by first | exact ih | (simp only [← pdF_eq, ← pdR_eq, ← pdV_eq]; exact ih) | exact plain_p y | (simp only [← pdF_eq, ← pdR_eq, ← pdV_eq]; exact plain_p y)) ?_ | refine k_lenD rfl rfl ?_ | refine k_storeB rfl rfl rfl rfl rfl ?_ | refine k_loadD rfl rfl (by first | rfl | (simp only [pdF_eq, pdR_eq, pdV_eq, cellsD]; rfl)) ?_ | refine k_alloc rfl rfl ?_)
    | refine run_opsEnd ?_
    | refine run_region ?_
    | refine run_condT rfl (by first | rfl | assumption) ?_
    | refine run_retOk (resOk_cell rfl rfl rfl (by first | rfl | (simp only [pdF_eq, pdR_eq, pdV_eq, cellsD]; rfl)) ?_)
    | refine run_drawC (by kernel_rfl) ?_
    | refine c_nil (And.intro (by kernel_rfl) ?_)
    | refine c_pick (d_fieldAddrB rfl rfl rfl) ?_
    | refine c_pick (d_loadBD rfl rfl rfl (by first | rfl | (simp only [pdF_eq, pdR_eq, pdV_eq, cellsD]; rfl))) ?_
    | refine c_pick (d_call rfl (by kernel_rfl) rfl (by first | exact ih | (simp only [← pdF_eq, ← pdR_eq, ← pdV_eq]; exact ih) | exact plain_p y | (simp only [← pdF_eq, ← pdR_eq, ← pdV_eq]; exact plain_p y))) ?_
    | refine c_pick (d_storeB rfl rfl rfl rfl rfl) ?_
    | refine c_pick (d_alloc rfl rfl) ?_
    | refine c_pick (d_build rfl rfl rfl) ?_
    | fail)
    all_goals (refine PLe.of_eq ?_; simp_all [pTF, dfJ])
theorem toListType_p (x : TL) (ih : PCall Try.prog 93 [pdR x.elem] (pTR x.elem)) : PCall Try.prog 87 [pdL x] (pTL x) := by
  refine pcall_fits fun hfit => ?_
  have hk := (show Fits (pdL x) from hfit _ (by simp))
  rw [pdL_eq] at hk
  have hb := (hk.aggAt 7 rfl).sl
  refine pcall_of_run Try.func87 rfl Try.ntmps87 rfl (fun X => ?_)
  repeat' (first
    | refine run_seq ?_
    | (refine k_pick rfl ?_; first | refine k_boxW rfl rfl rfl (by first | rfl | (simp only [pdL_eq, pdR_eq, cellsD]; rfl)) ?_ | refine k_alloc rfl rfl ?_)
    | refine run_opsEnd ?_
    | refine run_region ?_
    | refine run_drawC (by kernel_rfl) ?_
    | refine c_nil (And.intro (by kernel_rfl) ?_)
    | refine c_pick (d_appendND rfl rfl rfl rfl (by kernel_rfl) rfl rfl (by first | exact hb.1 | omega) (by first | exact hb.2.1 | omega)) ?_
    | refine c_pick (d_fieldAddrB rfl rfl rfl) ?_
    | refine c_pick (d_loadBD rfl rfl rfl (by first | rfl | (simp only [pdL_eq, pdR_eq, cellsD]; rfl))) ?_
    | refine c_pick (d_call rfl (by kernel_rfl) rfl (by first | exact ih | (simp only [← pdL_eq, ← pdR_eq]; exact ih))) ?_
    | refine c_pick (d_storeB rfl rfl rfl rfl rfl) ?_
    | refine c_pick (d_buildG rfl rfl rfl) ?_
    | fail)
  all_goals
    refine run_frz (fun _ => false) (fun k => k == 10) ?_
    refine run_retOk (resOk_cell rfl rfl rfl rfl ?_)
    exact PLe.of_eq rfl
theorem toAtom_p (a : TA) (hL : ∀ l r, a.lists = l :: r → PCall Try.prog 87 [pdL l] (pTL l)) (hM : ∀ m r, a.maps = m :: r → PCall Try.prog 78 [pdM m] (pTM m)) : PCall Try.prog 124 [pdA a] (pTA a) := by
  have hL' : (a.lists = [] ∧ decide ((0 : Int) < ((pdLs a.lists).length : Int)) = false) ∨ ∃ l r, a.lists = l :: r ∧ decide ((0 : Int) < ((pdLs a.lists).length : Int)) = true ∧ (pdLs a.lists)[(0 : Int).toNat]? = some (pdL l) ∧ PCall Try.prog 87 [pdL l] (pTL l) := by
    cases h : a.lists with
    | nil => exact .inl ⟨rfl, gt0n (by unfold pdLs; rfl)⟩
    | cons l r => exact .inr ⟨l, r, rfl, gt0 (by unfold pdLs; rfl), head0L rfl, hL l r h⟩
  have hM' : (a.maps = [] ∧ decide ((0 : Int) < ((pdMs a.maps).length : Int)) = false) ∨ ∃ l r, a.maps = l :: r ∧ decide ((0 : Int) < ((pdMs a.maps).length : Int)) = true ∧ (pdMs a.maps)[(0 : Int).toNat]? = some (pdM l) ∧ PCall Try.prog 78 [pdM l] (pTM l) := by
    cases h : a.maps with
    | nil => exact .inl ⟨rfl, gt0n (by unfold pdMs; rfl)⟩
    | cons l r => exact .inr ⟨l, r, rfl, gt0 (by unfold pdMs; rfl), head0M rfl, hM l r h⟩
  refine pcall_of_run Try.func124 rfl Try.ntmps124 rfl (fun X => ?_)
  rcases hL' with ⟨eL, gL⟩ | ⟨l, rl, eL, gL, iL, cL⟩ <;> rcases hM' with ⟨eM, gM⟩ | ⟨m, rm, eM, gM, iM, cM⟩
  · repeat' (first
    | refine run_seq ?_
    | (refine k_pick rfl ?_; first | refine k_fieldAddrB rfl rfl rfl ?_ | refine k_loadBD rfl rfl rfl (by first | rfl | (simp only [pdA_eq, pdL_eq, pdM_eq, cellsD]; rfl)) ?_ | refine k_bin2B rfl rfl rfl rfl ?_ | refine k_boxW rfl rfl rfl (by first | rfl | (simp only [pdA_eq, pdL_eq, pdM_eq, cellsD]; rfl)) ?_ | refine k_lenD rfl rfl ?_ | refine k_storeB rfl rfl rfl rfl rfl ?_ | refine k_alloc rfl rfl ?_ | refine k_loadBG rfl rfl rfl rfl ?_ | refine k_build rfl rfl rfl ?_)
    | refine run_opsEnd ?_
    | refine run_region ?_
    | refine run_condF rfl (by first | rfl | assumption) ?_
    | refine run_cond rfl (fun h => ?_) (fun h => ?_)
    | refine run_skip ?_
    | refine run_retOk (resOk_cell rfl rfl rfl (by first | rfl | (simp only [pdA_eq, pdL_eq, pdM_eq, cellsD]; rfl)) ?_)
    | fail)
    all_goals first
      | (refine PLe.of_eq ?_; simp_all [pTA, optS, nilP, hdL, hdM, tL_eq, pTL, tM_eq, pTM]; done)
      | (refine run_frz (fun t => t == 138 || t == 123) (fun k => k == 4 || k == 5 || k == 6) ?_
         refine run_retOk (resOk_cell rfl rfl rfl rfl ?_)
         refine PLe.of_eq ?_; simp_all [pTA, optS, nilP, hdL, hdM, tL_eq, pTL, tM_eq, pTM])
  · repeat' (first
    | refine run_seq ?_
    | (refine k_pick rfl ?_; first | refine k_indexAddrD rfl rfl rfl (by omega) (by assumption) ?_ | refine k_fieldAddrB rfl rfl rfl ?_ | refine k_loadBD rfl rfl rfl (by first | rfl | (simp only [pdA_eq, pdL_eq, pdM_eq, cellsD]; rfl)) ?_ | refine k_bin2B rfl rfl rfl rfl ?_ | refine k_boxW rfl rfl rfl (by first | rfl | (simp only [pdA_eq, pdL_eq, pdM_eq, cellsD]; rfl)) ?_ | refine k_call rfl (by kernel_rfl) rfl (by first | exact cM | (simp only [← pdA_eq, ← pdL_eq, ← pdM_eq]; exact cM)) ?_ | refine k_lenD rfl rfl ?_ | refine k_storeB rfl rfl rfl rfl rfl ?_ | refine k_loadD rfl rfl (by first | rfl | (simp only [pdA_eq, pdL_eq, pdM_eq, cellsD]; rfl)) ?_ | refine k_alloc rfl rfl ?_ | refine k_loadBG rfl rfl rfl rfl ?_ | refine k_build rfl rfl rfl ?_)
    | refine run_opsEnd ?_
    | refine run_region ?_
    | refine run_condT rfl (by first | rfl | assumption) ?_
    | refine run_condF rfl (by first | rfl | assumption) ?_
    | refine run_cond rfl (fun h => ?_) (fun h => ?_)
    | refine run_skip ?_
    | fail)
    all_goals first
      | (refine PLe.of_eq ?_; simp_all [pTA, optS, nilP, hdL, hdM, tL_eq, pTL, tM_eq, pTM]; done)
      | (refine run_frz (fun t => t == 138 || t == 123) (fun k => k == 4 || k == 5 || k == 6) ?_
         refine run_retOk (resOk_cell rfl rfl rfl rfl ?_)
         refine PLe.of_eq ?_; simp_all [pTA, optS, nilP, hdL, hdM, tL_eq, pTL, tM_eq, pTM])
  · repeat' (first
    | refine run_seq ?_
    | (refine k_pick rfl ?_; first | refine k_indexAddrD rfl rfl rfl (by omega) (by assumption) ?_ | refine k_fieldAddrB rfl rfl rfl ?_ | refine k_loadBD rfl rfl rfl (by first | rfl | (simp only [pdA_eq, pdL_eq, pdM_eq, cellsD]; rfl)) ?_ | refine k_bin2B rfl rfl rfl rfl ?_ | refine k_boxW rfl rfl rfl (by first | rfl | (simp only [pdA_eq, pdL_eq, pdM_eq, cellsD]; rfl)) ?_ | refine k_call rfl (by kernel_rfl) rfl (by first | exact cL | (simp only [← pdA_eq, ← pdL_eq, ← pdM_eq]; exact cL)) ?_ | refine k_lenD rfl rfl ?_ | refine k_storeB rfl rfl rfl rfl rfl ?_ | refine k_loadD rfl rfl (by first | rfl | (simp only [pdA_eq, pdL_eq, pdM_eq, cellsD]; rfl)) ?_ | refine k_alloc rfl rfl ?_ | refine k_loadBG rfl rfl rfl rfl ?_ | refine k_build rfl rfl rfl ?_)
    | refine run_opsEnd ?_
    | refine run_region ?_
    | refine run_condT rfl (by first | rfl | assumption) ?_
    | refine run_condF rfl (by first | rfl | assumption) ?_
    | refine run_cond rfl (fun h => ?_) (fun h => ?_)
    | refine run_skip ?_
    | fail)
    all_goals first
      | (refine PLe.of_eq ?_; simp_all [pTA, optS, nilP, hdL, hdM, tL_eq, pTL, tM_eq, pTM]; done)
      | (refine run_frz (fun t => t == 138 || t == 123) (fun k => k == 4 || k == 5 || k == 6) ?_
         refine run_retOk (resOk_cell rfl rfl rfl rfl ?_)
         refine PLe.of_eq ?_; simp_all [pTA, optS, nilP, hdL, hdM, tL_eq, pTL, tM_eq, pTM])
  · repeat' (first
    | refine run_seq ?_
    | (refine k_pick rfl ?_; first | refine k_indexAddrD rfl rfl rfl (by omega) (by assumption) ?_ | refine k_fieldAddrB rfl rfl rfl ?_ | refine k_loadBD rfl rfl rfl (by first | rfl | (simp only [pdA_eq, pdL_eq, pdM_eq, cellsD]; rfl)) ?_ | refine k_bin2B rfl rfl rfl rfl ?_ | refine k_boxW rfl rfl rfl (by first | rfl | (simp only [pdA_eq, pdL_eq, pdM_eq, cellsD]; rfl)) ?_ | refine k_call rfl (by kernel_rfl) rfl (by first | exact cL | (simp only [← pdA_eq, ← pdL_eq, ← pdM_eq]; exact cL) | exact cM | (simp only [← pdA_eq, ← pdL_eq, ← pdM_eq]; exact cM)) ?_ | refine k_lenD rfl rfl ?_ | refine k_storeB rfl rfl rfl rfl rfl ?_ | refine k_loadD rfl rfl (by first | rfl | (simp only [pdA_eq, pdL_eq, pdM_eq, cellsD]; rfl)) ?_ | refine k_alloc rfl rfl ?_ | refine k_loadBG rfl rfl rfl rfl ?_ | refine k_build rfl rfl rfl ?_)
    | refine run_opsEnd ?_
    | refine run_region ?_
    | refine run_condT rfl (by first | rfl | assumption) ?_
    | refine run_cond rfl (fun h => ?_) (fun h => ?_)
    | refine run_skip ?_
    | fail)
    all_goals first
      | (refine PLe.of_eq ?_; simp_all [pTA, optS, nilP, hdL, hdM, tL_eq, pTL, tM_eq, pTM]; done)
      | (refine run_frz (fun t => t == 138 || t == 123) (fun k => k == 4 || k == 5 || k == 6) ?_
         refine run_retOk (resOk_cell rfl rfl rfl rfl ?_)
         refine PLe.of_eq ?_; simp_all [pTA, optS, nilP, hdL, hdM, tL_eq, pTL, tM_eq, pTM])

/-- toMap, where toRef and toField do as they should. -/
theorem toMap_p (x : TM) (ih : PCall Try.prog 93 [pdR x.elem] (pTR x.elem)) (ihF : ∀ f ∈ x.fields, PCall Try.prog 117 [pdF f] (pTF f)) : PCall Try.prog 78 [pdM x] (pTM x) := by
  refine pcall_fits fun hfit => ?_
  have hk := (show Fits (pdM x) from hfit _ (by simp))
  rw [pdM_eq] at hk
  have hb := (hk.aggAt 0 rfl).sl
  have hlen : (pdFs x.fields).length = x.fields.length := by rw [pdFs_eq]; simp
  refine pcall_of_run Try.func78 rfl Try.ntmps78 rfl (fun X => ?_)
  repeat' (first
    | refine run_seq ?_
    | (refine k_pick rfl ?_; first | refine k_moveD rfl rfl ?_ | refine k_fieldAddrB rfl rfl rfl ?_ | refine k_loadBD rfl rfl rfl (by first | rfl | (simp only [pdM_eq, pdR_eq, cellsD]; rfl)) ?_ | refine k_boxW rfl rfl rfl (by first | rfl | (simp only [pdM_eq, pdR_eq, cellsD]; rfl)) ?_ | refine k_lenD rfl rfl ?_ | refine k_alloc rfl rfl ?_)
    | refine run_opsEnd ?_
    | refine run_region ?_
    | refine run_block ?_
    | refine run_drawC (by kernel_rfl) ?_
    | refine c_nil (And.intro (by kernel_rfl) ?_)
    | refine c_pick (d_fieldAddrB rfl rfl rfl) ?_
    | refine c_pick (d_loadBD rfl rfl rfl (by first | rfl | (simp only [pdM_eq, pdR_eq, cellsD]; rfl))) ?_
    | refine c_pick (d_call rfl (by kernel_rfl) rfl (by first | exact ih | (simp only [← pdM_eq, ← pdR_eq]; exact ih))) ?_
    | refine c_pick (d_storeB rfl rfl rfl rfl rfl) ?_
    | refine c_pick (d_alloc rfl rfl) ?_
    | refine c_pick (d_build rfl rfl rfl) ?_
    | fail)
  refine run_nilOwnB 3 0 100 126 8 80 rfl rfl rfl ?_
  refine run_loopS (ι := { k : Nat // k ≤ x.fields.length })
    (fun k => [(2, .ptr 2 0), (3, .ptr 3 0), (13, .dat (.sl 8 144 (pdFs x.fields))), (14, .dat (.val (.int .i64 ((pdFs x.fields).length : Nat)))), (15, .dat (.val (.int .i64 (k.1 : Nat))))])
    (fun k => [(2, .box 123 ([.val (.slice none 0 0), .val (.slice none 0 0), nilP, nilP, nilP, nilP, nilP, .val (.bool false), .val (.string ⟨#[]⟩)].map .dat)),
      (3, .box 123 [.own 100, .dat (.val (.slice none 0 0)), .dat (r1 x.elem), .dat (r2 x.elem), .dat (r3 x.elem), .dat (r4 x.elem), .dat (optS x.elem.rel), .dat (.val (.bool false)), .dat (.val (.string x.rel))]),
      (100, .row 126 8 80 ((x.fields.take k.1).map pTF))])
    (fun k => x.fields.length - k.1) ⟨0, Nat.zero_le _⟩ id ?_ ?_
  · (refine ⟨?_, ?_, by rfl⟩ <;> repeat' (first | exact trivial | exact ALe.ptr rfl | exact ALe.own rfl | exact ALe.elt rfl | exact BLe.boxD _ _ | exact BLe.row rfl | exact BLe.res | exact ALe.dat (PLe.refl _) | exact CLe.nil | refine And.intro ?_ ?_ | refine ALe.iface ?_ | refine ALe.clo ?_ | refine CLe.cons ?_ ?_ | refine BLe.box ?_ | refine BLe.row ?_ | refine ALe.dat (PLe.of_eq ?_)))
  · rintro ⟨k, hk⟩
    by_cases hlt : k < x.fields.length
    · have hc : decide ((k : Int) < (((pdFs x.fields).length : Nat) : Int)) = true := by rw [hlen]; simpa using hlt
      obtain ⟨f, hf⟩ : ∃ f, x.fields[k]? = some f := ⟨x.fields[k], by simp [hlt]⟩
      have hi : (pdFs x.fields)[((k : Nat) : Int).toNat]? = some (pdF f) := by rw [pdFs_eq]; simp [hf]
      have hcf := ihF f (List.mem_of_getElem? hf)
      have hbt : (((x.fields.take k).map pTF).length + [pTF f].length) * 80 ≤ 140737488351232 := by simp; rw [hlen] at hb; omega
      have hbl : ((x.fields.take k).map pTF).length + [pTF f].length ≤ 140737488351232 := by simp; rw [hlen] at hb; omega
      repeat' (first
    | refine run_seq ?_
    | (refine k_pick rfl ?_; first | refine k_indexAddrD rfl rfl rfl (by omega) (by assumption) ?_ | refine k_moveD rfl rfl ?_ | refine k_bin2B rfl rfl rfl rfl ?_ | refine k_storeW rfl rfl rfl (by first | rfl | (simp only [pdM_eq, pdF_eq, cellsD]; rfl)) (by first | rfl | (simp only [pdM_eq, pdF_eq, cellsD]; rfl)) rfl ?_ | refine k_ariI rfl rfl rfl rfl (by first | omega | (dsimp only; omega)) ?_ | refine k_loadD rfl rfl (by first | rfl | (simp only [pdM_eq, pdF_eq, cellsD]; rfl)) ?_ | refine k_alloc rfl rfl ?_)
    | refine run_opsEnd ?_
    | refine run_region ?_
    | refine run_condT rfl (by first | rfl | assumption) ?_
    | refine run_block ?_
    | refine run_blkEnd ?_
    | refine run_skip ?_
    | refine run_drawC (by kernel_rfl) ?_
    | refine c_nil (And.intro (by kernel_rfl) ?_)
    | refine c_pick (d_appendOO rfl rfl rfl rfl rfl rfl (by kernel_rfl) rfl rfl hbt hbl) ?_
    | refine c_pick (d_fieldAddrB rfl rfl rfl) ?_
    | refine c_pick (d_loadW rfl rfl rfl (by first | rfl | (simp only [pdM_eq, pdF_eq, cellsD]; rfl))) ?_
    | refine c_pick (d_call rfl (by kernel_rfl) rfl (by first | exact hcf | (simp only [← pdM_eq, ← pdF_eq]; exact hcf))) ?_
    | refine c_pick (d_storeB rfl rfl rfl rfl rfl) ?_
    | refine c_pick (d_loadBO rfl rfl rfl rfl) ?_
    | refine c_pick (d_buildSlice rfl rfl (by kernel_rfl) rfl rfl rfl rfl rfl) ?_
    | fail)
      refine run_again ?_
      refine ⟨⟨k + 1, by omega⟩, (fun j => if j = 100 then 24 else j), by simp only; omega, ?_⟩
      (refine ⟨?_, ?_, by rfl⟩ <;> repeat' (first | exact trivial | exact ALe.ptr rfl | exact ALe.own rfl | exact ALe.elt rfl | exact BLe.boxD _ _ | exact BLe.row rfl | exact BLe.res | exact ALe.dat (PLe.refl _) | exact CLe.nil | refine And.intro ?_ ?_ | refine ALe.iface ?_ | refine ALe.clo ?_ | refine CLe.cons ?_ ?_ | refine BLe.box ?_ | refine BLe.row ?_ | refine ALe.dat (PLe.of_eq ?_)))
      all_goals (simp [List.take_add_one, hf])
    · have hc : decide ((k : Int) < (((pdFs x.fields).length : Nat) : Int)) = false := by rw [hlen]; simpa using hlt
      have hkk : k = x.fields.length := by omega
      repeat' (first
    | refine run_seq ?_
    | (refine k_pick rfl ?_; first | refine k_bin2B rfl rfl rfl rfl ?_ | refine k_storeB rfl rfl rfl rfl rfl ?_ | refine k_loadBG rfl rfl rfl rfl ?_)
    | refine run_opsEnd ?_
    | refine run_region ?_
    | refine run_condF rfl (by first | rfl | assumption) ?_
    | refine run_exit rfl ?_
    | fail)
      refine run_frz (fun _ => false) (fun k => k == 100) ?_
      refine run_retOk (resOk_cell rfl rfl rfl rfl ?_)
      refine PLe.of_eq ?_
      have e1 : x.fields.map pTF = tFs x.fields := by rw [tFs_eq]; exact List.map_congr_left fun f _ => (tF_eq f).symm
      simp [pTM, hkk, e1]
end Go.Proofs.Ytlghpcokbppkfaa

/- toAtom and its kin, whole. -/
namespace Go.Proofs.Ytlghpcokbppkfaa
open Go.RowKit
mutual
theorem toAtom_c : ∀ a : TA, PCall Try.prog 124 [pdA a] (pTA a)
  | .mk s l m => toAtom_p _ (fun x r h => by
      cases l with
      | nil => cases h
      | cons y r' => cases h; exact toListType_c _) (fun x r h => by
      cases m with
      | nil => cases h
      | cons y r' => cases h; exact toMap_c _)
theorem toRef_c : ∀ x : TR, PCall Try.prog 93 [pdR x] (pTR x)
  | .mk _ _ a _ => toRef_p _ (toAtom_c a)
theorem toListType_c : ∀ x : TL, PCall Try.prog 87 [pdL x] (pTL x)
  | .mk e _ _ => toListType_p _ (toRef_c e)
theorem toMap_c : ∀ x : TM, PCall Try.prog 78 [pdM x] (pTM x)
  | .mk f e _ => toMap_p _ (toRef_c e) (toFields_c f)
theorem toFields_c : ∀ (l : List TF), ∀ f ∈ l, PCall Try.prog 117 [pdF f] (pTF f)
  | [], _, h => by cases h
  | x :: r, f, h => by
    rcases List.mem_cons.1 h with h | h
    · rw [h]; exact toField_c x
    · exact toFields_c r f h
theorem toField_c : ∀ x : TF, PCall Try.prog 117 [pdF x] (pTF x)
  | .mk _ t _ => toField_p _ (toRef_c t)
end
end Go.Proofs.Ytlghpcokbppkfaa

/- The package's schema types taken apart: fromAtom, fromRef, fromField, fromMapType. -/
namespace Go.Proofs.Ytlghpcokbppkfaa
open Go.RowKit
set_option linter.unusedSimpArgs false
set_option maxRecDepth 10000
set_option maxHeartbeats 2000000

def PLs : List PD → List PD → Prop
  | [], [] => True
  | a :: l, b :: l' => PLe a b ∧ PLs l l'
  | _, _ => False
theorem PLs.spec : ∀ {l l' : List PD}, PLs l l' → l.length = l'.length ∧ ∀ (i : Nat) (d d' : PD), l[i]? = some d → l'[i]? = some d' → PLe d d'
  | [], [], _ => ⟨rfl, fun i d d' h => by simp at h⟩
  | a :: l, b :: l', h => by
    obtain ⟨h1, h2⟩ := h
    obtain ⟨e, h3⟩ := PLs.spec h2
    refine ⟨by simp [e], fun i d d' hd hd' => ?_⟩
    cases i with
    | zero => simp at hd hd'; subst hd; subst hd'; exact h1
    | succ i => exact h3 i d d' (by simpa using hd) (by simpa using hd')
  | [], _ :: _, h => h.elim
  | _ :: _, [], h => h.elim
theorem PLe.aggs {l l' : List PD} (h : PLs l l') : PLe (.agg l) (.agg l') := PLe.agg h.spec.1 h.spec.2

def qV (x : GV) : PD := .agg [.val (.int .i64 x.kind), .val (.int .i64 x.n), .val (.float .f64 x.f), .val (.string x.s), .sl 1 16 (pdS x.keys), .sl 6 88 (pdVs x.l)]
theorem fromTree_p (j : JV) : PCall Try.prog 90 [pdJ j] (qV (unJ j)) := by
  rw [show qV (unJ j) = pdV (unJ j) from (pdV_eq _).symm]
  intro w F vs hF hv
  unfold Reps at hv
  obtain ⟨v, r', rfl, hx, hr⟩ := hv
  unfold Reps at hr
  subst hr
  unfold pdJ Rep at hx
  refine ((from_any j).use w v (IsJ.keep (fun _ _ => rfl) (fun b hb => ⟨Nat.zero_le _, hF b hb⟩) _ hx.1) hx.2).mono ?_
  rintro e w' ⟨r, he, hb, hRr⟩
  exact ⟨r, he, hb, (isV_rep _ hRr).keep (fun _ _ => rfl) (fun b hb => .inr hb)⟩

/-! ### impl's forms, laid open -/
def qA (a : TA) : PD := .agg [.val (.string a.scalar), .sl 8 144 (pdLs a.lists), .sl 8 144 (pdMs a.maps)]
def qR (r : TR) : PD := .agg [.val (.bool r.named), .val (.string r.name), .val (.string r.atom.scalar), .sl 8 144 (pdLs r.atom.lists), .sl 8 144 (pdMs r.atom.maps), .val (.string r.rel)]
def qM (x : TM) : PD := .agg [.sl 8 144 (pdFs x.fields), .val (.bool x.elem.named), .val (.string x.elem.name), .val (.string x.elem.atom.scalar), .sl 8 144 (pdLs x.elem.atom.lists), .sl 8 144 (pdMs x.elem.atom.maps), .val (.string x.elem.rel), .val (.string x.rel)]
def qF (x : TF) : PD := .agg [.val (.string x.name), .val (.bool x.type.named), .val (.string x.type.name), .val (.string x.type.atom.scalar), .sl 8 144 (pdLs x.type.atom.lists), .sl 8 144 (pdMs x.type.atom.maps), .val (.string x.type.rel), .sl 6 88 (pdVs x.dflt)]
theorem optS_no {s : ByteArray} (h : s = ⟨#[]⟩) : optS s = nilP := by unfold optS; rw [if_pos h]
theorem optS_some {s : ByteArray} (h : s ≠ ⟨#[]⟩) : optS s = .ptr (.val (.string s)) := by unfold optS; rw [if_neg h]
theorem pTA_empty : pTA emptyA = .agg [nilP, nilP, nilP] := by show PD.agg [optS ⟨#[]⟩, nilP, nilP] = _; rw [optS_no rfl]


theorem pTA_form (a : TA) : ∃ d0 d1 d2, pTA a = .agg [d0, d1, d2] ∧ ((a.scalar = ⟨#[]⟩ ∧ d0 = .val (.pointer none)) ∨ d0 = .ptr (.val (.string a.scalar))) ∧ ((a.lists = [] ∧ d1 = .val (.pointer none)) ∨ ∃ l r, a.lists = l :: r ∧ d1 = .ptr (tL l)) ∧ ((a.maps = [] ∧ d2 = .val (.pointer none)) ∨ ∃ l r, a.maps = l :: r ∧ d2 = .ptr (tM l)) := by
  obtain ⟨s, l, m⟩ := a
  refine ⟨_, _, _, rfl, ?_, ?_, ?_⟩
  · by_cases h : s = ⟨#[]⟩
    · exact .inl ⟨h, optS_no h⟩
    · exact .inr (optS_some h)
  · cases l with
    | nil => exact .inl ⟨rfl, rfl⟩
    | cons x r => exact .inr ⟨x, r, rfl, rfl⟩
  · cases m with
    | nil => exact .inl ⟨rfl, rfl⟩
    | cons x r => exact .inr ⟨x, r, rfl, rfl⟩
theorem nL_elem (l : TL) : (nL l).elem = nR l.elem := by cases l; unfold nL; rfl
theorem nL_rel (l : TL) : (nL l).rel = l.rel := by cases l; unfold nL; rfl
theorem nL_keys (l : TL) : (nL l).keys = l.keys := by cases l; unfold nL; rfl
theorem nM_fields (m : TM) : (nM m).fields = nFs m.fields := by cases m; unfold nM; rfl
theorem nM_elem (m : TM) : (nM m).elem = nR m.elem := by cases m; unfold nM; rfl
theorem nM_rel (m : TM) : (nM m).rel = m.rel := by cases m; unfold nM; rfl
theorem nF_name (f : TF) : (nF f).name = f.name := by cases f; unfold nF; rfl
theorem nF_type (f : TF) : (nF f).type = nR f.type := by cases f; unfold nF; rfl
theorem nF_dflt (f : TF) : (nF f).dflt = nD f.dflt := by cases f; unfold nF; rfl
theorem fromAtom_p (a : TA) (hL : ∀ l r, a.lists = l :: r → PCall Try.prog 83 [pTR l.elem] (qR (nR l.elem))) (hM : ∀ m r, a.maps = m :: r → PCall Try.prog 128 [.ptr (tM m)] (qM (nM m))) : PCall Try.prog 94 [pTA a] (qA (nA a)) := by
  refine pcall_fits fun hfit => ?_
  have hk := (show Fits (pTA a) from hfit _ (by simp))
  obtain ⟨d0, d1, d2, e, h0, h1, h2⟩ := pTA_form a
  rw [e] at hk ⊢
  have hn : qA (nA a) = .agg [.val (.string a.scalar), .sl 8 144 (pdLs (nL1 a.lists)), .sl 8 144 (pdMs (nM1 a.maps))] := by cases a; rfl
  rw [hn]
  refine pcall_of_run Try.func94 rfl Try.ntmps94 rfl (fun X => ?_)
  rcases h1 with ⟨e1, rfl⟩ | ⟨l, rl, e1, rfl⟩ <;> rcases h2 with ⟨e2, rfl⟩ | ⟨m, rm, e2, rfl⟩
  · have w1 : PLe (.val (.slice none 0 0)) (.sl 8 144 (pdLs (nL1 a.lists))) := by rw [e1]; simp only [nL1, pdLs]; exact PLe.nil _ _
    have w2 : PLe (.val (.slice none 0 0)) (.sl 8 144 (pdMs (nM1 a.maps))) := by rw [e2]; simp only [nM1, pdMs]; exact PLe.nil _ _
    rcases h0 with ⟨e0, rfl⟩ | rfl
    · have w0 : PLe (.val (.string ⟨#[]⟩)) (.val (.string a.scalar)) := by rw [e0]; exact PLe.refl _
      repeat' (first
    | refine run_seq ?_
    | (refine k_pick rfl ?_; first | refine k_fieldAddrB rfl rfl rfl ?_ | refine k_loadBD rfl rfl rfl (by first | rfl | (simp only [tL_eq, cellsD]; rfl)) ?_ | refine k_boxW rfl rfl rfl (by first | rfl | (simp only [tL_eq, cellsD]; rfl)) ?_ | refine k_cmpNil rfl rfl rfl (by kernel_rfl) (by first | exact NilIs.ptr | exact NilIs.none | exact NilIs.nilI | assumption) rfl ?_ | refine k_storeB rfl rfl rfl rfl rfl ?_ | refine k_alloc rfl rfl ?_ | refine k_build rfl rfl rfl ?_)
    | refine run_opsEnd ?_
    | refine run_region ?_
    | refine run_condF rfl (by first | rfl | assumption) ?_
    | refine run_skip ?_
    | refine run_retOk (resOk_cell rfl rfl rfl (by first | rfl | (simp only [tL_eq, cellsD]; rfl)) ?_)
    | fail)
      all_goals exact PLe.aggs ⟨w0, w1, w2, trivial⟩
    · have w0 := PLe.refl (.val (.string a.scalar))
      repeat' (first
    | refine run_seq ?_
    | (refine k_pick rfl ?_; first | refine k_fieldAddrB rfl rfl rfl ?_ | refine k_loadBD rfl rfl rfl (by first | rfl | (simp only [tL_eq, cellsD]; rfl)) ?_ | refine k_boxW rfl rfl rfl (by first | rfl | (simp only [tL_eq, cellsD]; rfl)) ?_ | refine k_nilD rfl rfl ?_ | refine k_cmpNil rfl rfl rfl (by kernel_rfl) (by first | exact NilIs.ptr | exact NilIs.none | exact NilIs.nilI | assumption) rfl ?_ | refine k_storeB rfl rfl rfl rfl rfl ?_ | refine k_loadD rfl rfl (by first | rfl | (simp only [tL_eq, cellsD]; rfl)) ?_ | refine k_alloc rfl rfl ?_ | refine k_build rfl rfl rfl ?_)
    | refine run_opsEnd ?_
    | refine run_region ?_
    | refine run_condT rfl (by first | rfl | assumption) ?_
    | refine run_condF rfl (by first | rfl | assumption) ?_
    | refine run_skip ?_
    | refine run_retOk (resOk_cell rfl rfl rfl (by first | rfl | (simp only [tL_eq, cellsD]; rfl)) ?_)
    | fail)
      all_goals exact PLe.aggs ⟨w0, w1, w2, trivial⟩
  · have w1 : PLe (.val (.slice none 0 0)) (.sl 8 144 (pdLs (nL1 a.lists))) := by rw [e1]; simp only [nL1, pdLs]; exact PLe.nil _ _
    have cM := hM m rm e2
    have w2 : PLe (.sl 8 144 [qM (nM m)]) (.sl 8 144 (pdMs (nM1 a.maps))) := PLe.of_eq (by rw [e2]; simp only [nM1, pdMs, pdM_eq]; rfl)
    rcases h0 with ⟨e0, rfl⟩ | rfl
    · have w0 : PLe (.val (.string ⟨#[]⟩)) (.val (.string a.scalar)) := by rw [e0]; exact PLe.refl _
      repeat' (first
    | refine run_seq ?_
    | (refine k_pick rfl ?_; first | refine k_fieldAddrB rfl rfl rfl ?_ | refine k_loadBD rfl rfl rfl (by first | rfl | (simp only [tL_eq, cellsD]; rfl)) ?_ | refine k_boxW rfl rfl rfl (by first | rfl | (simp only [tL_eq, cellsD]; rfl)) ?_ | refine k_call rfl (by kernel_rfl) rfl (by first | exact cM | (simp only [← tL_eq]; exact cM)) ?_ | refine k_cmpNil rfl rfl rfl (by kernel_rfl) (by first | exact NilIs.ptr | exact NilIs.none | exact NilIs.nilI | assumption) rfl ?_ | refine k_storeB rfl rfl rfl rfl rfl ?_ | refine k_alloc rfl rfl ?_ | refine k_loadBG rfl rfl rfl rfl ?_ | refine k_buildSlice rfl rfl (by kernel_rfl) rfl rfl rfl rfl rfl ?_ | refine k_build rfl rfl rfl ?_)
    | refine run_opsEnd ?_
    | refine run_region ?_
    | refine run_condT rfl (by first | rfl | assumption) ?_
    | refine run_condF rfl (by first | rfl | assumption) ?_
    | refine run_skip ?_
    | fail)
      all_goals
        refine run_frz (fun _ => false) (fun k => k == 42) ?_
        refine run_retOk (resOk_cell rfl rfl rfl rfl ?_)
        exact PLe.aggs ⟨w0, w1, w2, trivial⟩
    · have w0 := PLe.refl (.val (.string a.scalar))
      repeat' (first
    | refine run_seq ?_
    | (refine k_pick rfl ?_; first | refine k_fieldAddrB rfl rfl rfl ?_ | refine k_loadBD rfl rfl rfl (by first | rfl | (simp only [tL_eq, cellsD]; rfl)) ?_ | refine k_boxW rfl rfl rfl (by first | rfl | (simp only [tL_eq, cellsD]; rfl)) ?_ | refine k_call rfl (by kernel_rfl) rfl (by first | exact cM | (simp only [← tL_eq]; exact cM)) ?_ | refine k_nilD rfl rfl ?_ | refine k_cmpNil rfl rfl rfl (by kernel_rfl) (by first | exact NilIs.ptr | exact NilIs.none | exact NilIs.nilI | assumption) rfl ?_ | refine k_storeB rfl rfl rfl rfl rfl ?_ | refine k_loadD rfl rfl (by first | rfl | (simp only [tL_eq, cellsD]; rfl)) ?_ | refine k_alloc rfl rfl ?_ | refine k_loadBG rfl rfl rfl rfl ?_ | refine k_buildSlice rfl rfl (by kernel_rfl) rfl rfl rfl rfl rfl ?_ | refine k_build rfl rfl rfl ?_)
    | refine run_opsEnd ?_
    | refine run_region ?_
    | refine run_condT rfl (by first | rfl | assumption) ?_
    | refine run_condF rfl (by first | rfl | assumption) ?_
    | refine run_skip ?_
    | fail)
      all_goals
        refine run_frz (fun _ => false) (fun k => k == 42) ?_
        refine run_retOk (resOk_cell rfl rfl rfl rfl ?_)
        exact PLe.aggs ⟨w0, w1, w2, trivial⟩
  · have cL := hL l rl e1
    have hb := ((show Fits (tL l) from (hk.aggAt 1 rfl).ptr))
    rw [tL_eq] at hb
    have hb := (hb.aggAt 7 rfl).sl
    have w1 : PLe (.sl 8 144 [.agg [.val (.bool (nR l.elem).named), .val (.string (nR l.elem).name), .val (.string (nR l.elem).atom.scalar), .sl 8 144 (pdLs (nR l.elem).atom.lists), .sl 8 144 (pdMs (nR l.elem).atom.maps), .val (.string (nR l.elem).rel), .val (.string l.rel), .sl 1 16 (pdS l.keys)]]) (.sl 8 144 (pdLs (nL1 a.lists))) := PLe.of_eq (by rw [e1]; simp only [nL1, pdLs, pdL_eq, nL_elem, nL_rel, nL_keys])
    have w2 : PLe (.val (.slice none 0 0)) (.sl 8 144 (pdMs (nM1 a.maps))) := by rw [e2]; simp only [nM1, pdMs]; exact PLe.nil _ _
    rcases h0 with ⟨e0, rfl⟩ | rfl
    · have w0 : PLe (.val (.string ⟨#[]⟩)) (.val (.string a.scalar)) := by rw [e0]; exact PLe.refl _
      repeat' (first
    | refine run_seq ?_
    | (refine k_pick rfl ?_; first | refine k_fieldAddrB rfl rfl rfl ?_ | refine k_loadBD rfl rfl rfl (by first | rfl | (simp only [tL_eq, cellsD]; rfl)) ?_ | refine k_boxW rfl rfl rfl (by first | rfl | (simp only [tL_eq, cellsD]; rfl)) ?_ | refine k_cmpNil rfl rfl rfl (by kernel_rfl) (by first | exact NilIs.ptr | exact NilIs.none | exact NilIs.nilI | assumption) rfl ?_ | refine k_storeB rfl rfl rfl rfl rfl ?_ | refine k_alloc rfl rfl ?_ | refine k_loadBG rfl rfl rfl rfl ?_ | refine k_build rfl rfl rfl ?_)
    | refine run_opsEnd ?_
    | refine run_region ?_
    | refine run_condT rfl (by first | rfl | assumption) ?_
    | refine run_condF rfl (by first | rfl | assumption) ?_
    | refine run_skip ?_
    | refine run_drawC (by kernel_rfl) ?_
    | refine c_nil (And.intro (by kernel_rfl) ?_)
    | refine c_pick (d_appendNDf rfl rfl rfl (by kernel_rfl) rfl rfl (by first | exact hb.1 | omega) (by first | exact hb.2.1 | omega)) ?_
    | refine c_pick (d_fieldAddrB rfl rfl rfl) ?_
    | refine c_pick (d_loadBD rfl rfl rfl (by first | rfl | (simp only [tL_eq, cellsD]; rfl))) ?_
    | refine c_pick (d_call rfl (by kernel_rfl) rfl (by first | exact cL | (simp only [← tL_eq]; exact cL))) ?_
    | refine c_pick (d_nilD rfl rfl) ?_
    | refine c_pick (d_storeB rfl rfl rfl rfl rfl) ?_
    | refine c_pick (d_fieldAddrD rfl rfl (by first | rfl | exact tL_eq _) rfl (by first | rfl | (simp only [tL_eq, cellsD]; rfl))) ?_
    | refine c_pick (d_loadD rfl rfl (by first | rfl | (simp only [tL_eq, cellsD]; rfl))) ?_
    | refine c_pick (d_buildSlice rfl rfl (by kernel_rfl) rfl rfl rfl rfl rfl) ?_
    | refine c_pick (d_build rfl rfl rfl) ?_
    | fail)
      all_goals
        refine run_frz (fun _ => false) (fun k => k == 34) ?_
        refine run_retOk (resOk_cell rfl rfl rfl rfl ?_)
        exact PLe.aggs ⟨w0, w1, w2, trivial⟩
    · have w0 := PLe.refl (.val (.string a.scalar))
      repeat' (first
    | refine run_seq ?_
    | (refine k_pick rfl ?_; first | refine k_fieldAddrB rfl rfl rfl ?_ | refine k_loadBD rfl rfl rfl (by first | rfl | (simp only [tL_eq, cellsD]; rfl)) ?_ | refine k_boxW rfl rfl rfl (by first | rfl | (simp only [tL_eq, cellsD]; rfl)) ?_ | refine k_nilD rfl rfl ?_ | refine k_cmpNil rfl rfl rfl (by kernel_rfl) (by first | exact NilIs.ptr | exact NilIs.none | exact NilIs.nilI | assumption) rfl ?_ | refine k_storeB rfl rfl rfl rfl rfl ?_ | refine k_loadD rfl rfl (by first | rfl | (simp only [tL_eq, cellsD]; rfl)) ?_ | refine k_alloc rfl rfl ?_ | refine k_loadBG rfl rfl rfl rfl ?_ | refine k_build rfl rfl rfl ?_)
    | refine run_opsEnd ?_
    | refine run_region ?_
    | refine run_condT rfl (by first | rfl | assumption) ?_
    | refine run_condF rfl (by first | rfl | assumption) ?_
    | refine run_skip ?_
    | refine run_drawC (by kernel_rfl) ?_
    | refine c_nil (And.intro (by kernel_rfl) ?_)
    | refine c_pick (d_appendNDf rfl rfl rfl (by kernel_rfl) rfl rfl (by first | exact hb.1 | omega) (by first | exact hb.2.1 | omega)) ?_
    | refine c_pick (d_fieldAddrB rfl rfl rfl) ?_
    | refine c_pick (d_loadBD rfl rfl rfl (by first | rfl | (simp only [tL_eq, cellsD]; rfl))) ?_
    | refine c_pick (d_call rfl (by kernel_rfl) rfl (by first | exact cL | (simp only [← tL_eq]; exact cL))) ?_
    | refine c_pick (d_nilD rfl rfl) ?_
    | refine c_pick (d_storeB rfl rfl rfl rfl rfl) ?_
    | refine c_pick (d_fieldAddrD rfl rfl (by first | rfl | exact tL_eq _) rfl (by first | rfl | (simp only [tL_eq, cellsD]; rfl))) ?_
    | refine c_pick (d_loadD rfl rfl (by first | rfl | (simp only [tL_eq, cellsD]; rfl))) ?_
    | refine c_pick (d_buildSlice rfl rfl (by kernel_rfl) rfl rfl rfl rfl rfl) ?_
    | refine c_pick (d_build rfl rfl rfl) ?_
    | fail)
      all_goals
        refine run_frz (fun _ => false) (fun k => k == 34) ?_
        refine run_retOk (resOk_cell rfl rfl rfl rfl ?_)
        exact PLe.aggs ⟨w0, w1, w2, trivial⟩
  · have cL := hL l rl e1
    have hb := ((show Fits (tL l) from (hk.aggAt 1 rfl).ptr))
    rw [tL_eq] at hb
    have hb := (hb.aggAt 7 rfl).sl
    have w1 : PLe (.sl 8 144 [.agg [.val (.bool (nR l.elem).named), .val (.string (nR l.elem).name), .val (.string (nR l.elem).atom.scalar), .sl 8 144 (pdLs (nR l.elem).atom.lists), .sl 8 144 (pdMs (nR l.elem).atom.maps), .val (.string (nR l.elem).rel), .val (.string l.rel), .sl 1 16 (pdS l.keys)]]) (.sl 8 144 (pdLs (nL1 a.lists))) := PLe.of_eq (by rw [e1]; simp only [nL1, pdLs, pdL_eq, nL_elem, nL_rel, nL_keys])
    have cM := hM m rm e2
    have w2 : PLe (.sl 8 144 [qM (nM m)]) (.sl 8 144 (pdMs (nM1 a.maps))) := PLe.of_eq (by rw [e2]; simp only [nM1, pdMs, pdM_eq]; rfl)
    rcases h0 with ⟨e0, rfl⟩ | rfl
    · have w0 : PLe (.val (.string ⟨#[]⟩)) (.val (.string a.scalar)) := by rw [e0]; exact PLe.refl _
      repeat' (first
    | refine run_seq ?_
    | (refine k_pick rfl ?_; first | refine k_fieldAddrB rfl rfl rfl ?_ | refine k_loadBD rfl rfl rfl (by first | rfl | (simp only [tL_eq, cellsD]; rfl)) ?_ | refine k_boxW rfl rfl rfl (by first | rfl | (simp only [tL_eq, cellsD]; rfl)) ?_ | refine k_call rfl (by kernel_rfl) rfl (by first | exact cL | (simp only [← tL_eq]; exact cL) | exact cM | (simp only [← tL_eq]; exact cM)) ?_ | refine k_cmpNil rfl rfl rfl (by kernel_rfl) (by first | exact NilIs.ptr | exact NilIs.none | exact NilIs.nilI | assumption) rfl ?_ | refine k_storeB rfl rfl rfl rfl rfl ?_ | refine k_alloc rfl rfl ?_ | refine k_loadBG rfl rfl rfl rfl ?_ | refine k_buildSlice rfl rfl (by kernel_rfl) rfl rfl rfl rfl rfl ?_ | refine k_build rfl rfl rfl ?_)
    | refine run_opsEnd ?_
    | refine run_region ?_
    | refine run_condT rfl (by first | rfl | assumption) ?_
    | refine run_condF rfl (by first | rfl | assumption) ?_
    | refine run_skip ?_
    | refine run_drawC (by kernel_rfl) ?_
    | refine c_nil (And.intro (by kernel_rfl) ?_)
    | refine c_pick (d_appendNDf rfl rfl rfl (by kernel_rfl) rfl rfl (by first | exact hb.1 | omega) (by first | exact hb.2.1 | omega)) ?_
    | refine c_pick (d_fieldAddrB rfl rfl rfl) ?_
    | refine c_pick (d_loadBD rfl rfl rfl (by first | rfl | (simp only [tL_eq, cellsD]; rfl))) ?_
    | refine c_pick (d_call rfl (by kernel_rfl) rfl (by first | exact cL | (simp only [← tL_eq]; exact cL) | exact cM | (simp only [← tL_eq]; exact cM))) ?_
    | refine c_pick (d_nilD rfl rfl) ?_
    | refine c_pick (d_storeB rfl rfl rfl rfl rfl) ?_
    | refine c_pick (d_fieldAddrD rfl rfl (by first | rfl | exact tL_eq _) rfl (by first | rfl | (simp only [tL_eq, cellsD]; rfl))) ?_
    | refine c_pick (d_loadD rfl rfl (by first | rfl | (simp only [tL_eq, cellsD]; rfl))) ?_
    | refine c_pick (d_buildSlice rfl rfl (by kernel_rfl) rfl rfl rfl rfl rfl) ?_
    | refine c_pick (d_build rfl rfl rfl) ?_
    | fail)
      all_goals
        refine run_frz (fun _ => false) (fun k => k == 34 || k == 42) ?_
        refine run_retOk (resOk_cell rfl rfl rfl rfl ?_)
        exact PLe.aggs ⟨w0, w1, w2, trivial⟩
    · have w0 := PLe.refl (.val (.string a.scalar))
      repeat' (first
    | refine run_seq ?_
    | (refine k_pick rfl ?_; first | refine k_fieldAddrB rfl rfl rfl ?_ | refine k_loadBD rfl rfl rfl (by first | rfl | (simp only [tL_eq, cellsD]; rfl)) ?_ | refine k_boxW rfl rfl rfl (by first | rfl | (simp only [tL_eq, cellsD]; rfl)) ?_ | refine k_call rfl (by kernel_rfl) rfl (by first | exact cL | (simp only [← tL_eq]; exact cL) | exact cM | (simp only [← tL_eq]; exact cM)) ?_ | refine k_nilD rfl rfl ?_ | refine k_cmpNil rfl rfl rfl (by kernel_rfl) (by first | exact NilIs.ptr | exact NilIs.none | exact NilIs.nilI | assumption) rfl ?_ | refine k_storeB rfl rfl rfl rfl rfl ?_ | refine k_loadD rfl rfl (by first | rfl | (simp only [tL_eq, cellsD]; rfl)) ?_ | refine k_alloc rfl rfl ?_ | refine k_loadBG rfl rfl rfl rfl ?_ | refine k_buildSlice rfl rfl (by kernel_rfl) rfl rfl rfl rfl rfl ?_ | refine k_build rfl rfl rfl ?_)
    | refine run_opsEnd ?_
    | refine run_region ?_
    | refine run_condT rfl (by first | rfl | assumption) ?_
    | refine run_drawC (by kernel_rfl) ?_
    | refine c_nil (And.intro (by kernel_rfl) ?_)
    | refine c_pick (d_appendNDf rfl rfl rfl (by kernel_rfl) rfl rfl (by first | exact hb.1 | omega) (by first | exact hb.2.1 | omega)) ?_
    | refine c_pick (d_fieldAddrB rfl rfl rfl) ?_
    | refine c_pick (d_loadBD rfl rfl rfl (by first | rfl | (simp only [tL_eq, cellsD]; rfl))) ?_
    | refine c_pick (d_call rfl (by kernel_rfl) rfl (by first | exact cL | (simp only [← tL_eq]; exact cL) | exact cM | (simp only [← tL_eq]; exact cM))) ?_
    | refine c_pick (d_nilD rfl rfl) ?_
    | refine c_pick (d_storeB rfl rfl rfl rfl rfl) ?_
    | refine c_pick (d_fieldAddrD rfl rfl (by first | rfl | exact tL_eq _) rfl (by first | rfl | (simp only [tL_eq, cellsD]; rfl))) ?_
    | refine c_pick (d_loadD rfl rfl (by first | rfl | (simp only [tL_eq, cellsD]; rfl))) ?_
    | refine c_pick (d_buildSlice rfl rfl (by kernel_rfl) rfl rfl rfl rfl rfl) ?_
    | refine c_pick (d_build rfl rfl rfl) ?_
    | fail)
      all_goals
        refine run_frz (fun _ => false) (fun k => k == 34 || k == 42) ?_
        refine run_retOk (resOk_cell rfl rfl rfl rfl ?_)
        exact PLe.aggs ⟨w0, w1, w2, trivial⟩
end Go.Proofs.Ytlghpcokbppkfaa

/- fromRef, fromField, fromMapType. -/
namespace Go.Proofs.Ytlghpcokbppkfaa
open Go.RowKit
set_option linter.unusedSimpArgs false
set_option maxRecDepth 10000
set_option maxHeartbeats 2000000

theorem pTR_named {n : ByteArray} {a : TA} {r : ByteArray} : pTR (.mk true n a r) = .agg [.ptr (.val (.string n)), nilP, nilP, nilP, optS r, .val (.bool false)] := rfl
theorem pTR_inline {n : ByteArray} {a : TA} {r : ByteArray} : pTR (.mk false n a r) = .agg [nilP, optS a.scalar, hdL a.lists, hdM a.maps, optS r, .val (.bool false)] := rfl
theorem optS_form (s : ByteArray) : ∃ d, optS s = d ∧ ((s = ⟨#[]⟩ ∧ d = .val (.pointer none)) ∨ d = .ptr (.val (.string s))) := by
  by_cases h : s = ⟨#[]⟩
  · exact ⟨_, rfl, .inl ⟨h, optS_no h⟩⟩
  · exact ⟨_, rfl, .inr (optS_some h)⟩
theorem nA_empty : nA emptyA = emptyA := by unfold emptyA nA nL1 nM1; rfl
theorem fromRef_p (x : TR) (ih : x.named = false → PCall Try.prog 94 [pTA x.atom] (qA (nA x.atom))) : PCall Try.prog 83 [pTR x] (qR (nR x)) := by
  obtain ⟨b, n, a, r⟩ := x
  obtain ⟨d, e, hd⟩ := optS_form r
  cases b
  · have cA := ih rfl
    rw [pTR_inline, e]
    refine pcall_of_run Try.func83 rfl Try.ntmps83 rfl (fun X => ?_)
    rcases hd with ⟨e0, rfl⟩ | rfl
    · repeat' (first
    | refine run_seq ?_
    | (refine k_pick rfl ?_; first | refine k_fieldAddrB rfl rfl rfl ?_ | refine k_loadBD rfl rfl rfl (by first | rfl | (simp only [cellsD]; rfl)) ?_ | refine k_boxW rfl rfl rfl (by first | rfl | (simp only [cellsD]; rfl)) ?_ | refine k_call rfl (by kernel_rfl) rfl (by first | exact cA) ?_ | refine k_cmpNil rfl rfl rfl (by kernel_rfl) (by first | exact NilIs.ptr | exact NilIs.none | exact NilIs.nilI | assumption) rfl ?_ | refine k_storeB rfl rfl rfl rfl rfl ?_ | refine k_alloc rfl rfl ?_ | refine k_build rfl rfl rfl ?_)
    | refine run_opsEnd ?_
    | refine run_region ?_
    | refine run_condF rfl (by first | rfl | assumption) ?_
    | refine run_skip ?_
    | refine run_retOk (resOk_cell rfl rfl rfl (by first | rfl | (simp only [cellsD]; rfl)) ?_)
    | fail)
      all_goals (refine PLe.of_eq ?_; simp [qR, nR, TR.named, TR.name, TR.atom, TR.rel, nA_empty, e0])
    · repeat' (first
    | refine run_seq ?_
    | (refine k_pick rfl ?_; first | refine k_fieldAddrB rfl rfl rfl ?_ | refine k_loadBD rfl rfl rfl (by first | rfl | (simp only [cellsD]; rfl)) ?_ | refine k_boxW rfl rfl rfl (by first | rfl | (simp only [cellsD]; rfl)) ?_ | refine k_call rfl (by kernel_rfl) rfl (by first | exact cA) ?_ | refine k_nilD rfl rfl ?_ | refine k_cmpNil rfl rfl rfl (by kernel_rfl) (by first | exact NilIs.ptr | exact NilIs.none | exact NilIs.nilI | assumption) rfl ?_ | refine k_storeB rfl rfl rfl rfl rfl ?_ | refine k_loadD rfl rfl (by first | rfl | (simp only [cellsD]; rfl)) ?_ | refine k_alloc rfl rfl ?_ | refine k_build rfl rfl rfl ?_)
    | refine run_opsEnd ?_
    | refine run_region ?_
    | refine run_condT rfl (by first | rfl | assumption) ?_
    | refine run_condF rfl (by first | rfl | assumption) ?_
    | refine run_skip ?_
    | refine run_retOk (resOk_cell rfl rfl rfl (by first | rfl | (simp only [cellsD]; rfl)) ?_)
    | fail)
      all_goals (refine PLe.of_eq ?_; simp [qR, nR, TR.named, TR.name, TR.atom, TR.rel, nA_empty])
  · have cA := fromAtom_p emptyA (fun _ _ h => by cases h) (fun _ _ h => by cases h)
    rw [pTA_empty] at cA
    rw [pTR_named, e]
    refine pcall_of_run Try.func83 rfl Try.ntmps83 rfl (fun X => ?_)
    rcases hd with ⟨e0, rfl⟩ | rfl
    · repeat' (first
    | refine run_seq ?_
    | (refine k_pick rfl ?_; first | refine k_fieldAddrB rfl rfl rfl ?_ | refine k_loadBD rfl rfl rfl (by first | rfl | (simp only [cellsD]; rfl)) ?_ | refine k_boxW rfl rfl rfl (by first | rfl | (simp only [cellsD]; rfl)) ?_ | refine k_call rfl (by kernel_rfl) rfl (by first | exact cA) ?_ | refine k_cmpNil rfl rfl rfl (by kernel_rfl) (by first | exact NilIs.ptr | exact NilIs.none | exact NilIs.nilI | assumption) rfl ?_ | refine k_storeB rfl rfl rfl rfl rfl ?_ | refine k_alloc rfl rfl ?_ | refine k_build rfl rfl rfl ?_)
    | refine run_opsEnd ?_
    | refine run_region ?_
    | refine run_condT rfl (by first | rfl | assumption) ?_
    | refine run_condF rfl (by first | rfl | assumption) ?_
    | refine run_skip ?_
    | refine run_retOk (resOk_cell rfl rfl rfl (by first | rfl | (simp only [cellsD]; rfl)) ?_)
    | refine run_drawC (by kernel_rfl) ?_
    | refine c_nil (And.intro (by kernel_rfl) ?_)
    | refine c_pick (d_fieldAddrB rfl rfl rfl) ?_
    | refine c_pick (d_loadBD rfl rfl rfl (by first | rfl | (simp only [cellsD]; rfl))) ?_
    | refine c_pick (d_nilD rfl rfl) ?_
    | refine c_pick (d_storeB rfl rfl rfl rfl rfl) ?_
    | refine c_pick (d_loadD rfl rfl (by first | rfl | (simp only [cellsD]; rfl))) ?_
    | fail)
      all_goals (refine PLe.of_eq ?_; simp [qR, nR, TR.named, TR.name, TR.atom, TR.rel, nA_empty, e0])
    · repeat' (first
    | refine run_seq ?_
    | (refine k_pick rfl ?_; first | refine k_fieldAddrB rfl rfl rfl ?_ | refine k_loadBD rfl rfl rfl (by first | rfl | (simp only [cellsD]; rfl)) ?_ | refine k_boxW rfl rfl rfl (by first | rfl | (simp only [cellsD]; rfl)) ?_ | refine k_call rfl (by kernel_rfl) rfl (by first | exact cA) ?_ | refine k_nilD rfl rfl ?_ | refine k_cmpNil rfl rfl rfl (by kernel_rfl) (by first | exact NilIs.ptr | exact NilIs.none | exact NilIs.nilI | assumption) rfl ?_ | refine k_storeB rfl rfl rfl rfl rfl ?_ | refine k_loadD rfl rfl (by first | rfl | (simp only [cellsD]; rfl)) ?_ | refine k_alloc rfl rfl ?_ | refine k_build rfl rfl rfl ?_)
    | refine run_opsEnd ?_
    | refine run_region ?_
    | refine run_condT rfl (by first | rfl | assumption) ?_
    | refine run_retOk (resOk_cell rfl rfl rfl (by first | rfl | (simp only [cellsD]; rfl)) ?_)
    | refine run_drawC (by kernel_rfl) ?_
    | refine c_nil (And.intro (by kernel_rfl) ?_)
    | refine c_pick (d_fieldAddrB rfl rfl rfl) ?_
    | refine c_pick (d_loadBD rfl rfl rfl (by first | rfl | (simp only [cellsD]; rfl))) ?_
    | refine c_pick (d_nilD rfl rfl) ?_
    | refine c_pick (d_storeB rfl rfl rfl rfl rfl) ?_
    | refine c_pick (d_loadD rfl rfl (by first | rfl | (simp only [cellsD]; rfl))) ?_
    | fail)
      all_goals (refine PLe.of_eq ?_; simp [qR, nR, TR.named, TR.name, TR.atom, TR.rel, nA_empty])
theorem dfJ_form (l : List GV) : ∃ d, dfJ l = d ∧ ((nD l = [] ∧ d = .val .nilIface) ∨ ∃ x, d = pdJ (plainJ x) ∧ ((nD l = [] ∧ NilIs true (pdJ (plainJ x)) true) ∨ (nD l = [cleanV x] ∧ NilIs true (pdJ (plainJ x)) false))) := by
  cases l with
  | nil => exact ⟨_, rfl, .inl ⟨by unfold nD; rfl, by unfold dfJ; rfl⟩⟩
  | cons x r =>
    refine ⟨_, rfl, .inr ⟨x, by unfold dfJ; rfl, ?_⟩⟩
    by_cases h : isNull (plainJ x) = true
    · exact .inl ⟨by unfold nD; exact if_pos h, pdJ_nil (isNull_iff.1 h)⟩
    · exact .inr ⟨by unfold nD; exact if_neg h, pdJ_some (fun e => h (isNull_iff.2 e))⟩
theorem fromField_p (x : TF) (cR : PCall Try.prog 83 [pTR x.type] (qR (nR x.type))) : PCall Try.prog 80 [tF x] (qF (nF x)) := by
  obtain ⟨d, e, hd⟩ := dfJ_form x.dflt
  have hq : qF (nF x) = .agg [.val (.string x.name), .val (.bool (nR x.type).named), .val (.string (nR x.type).name), .val (.string (nR x.type).atom.scalar), .sl 8 144 (pdLs (nR x.type).atom.lists), .sl 8 144 (pdMs (nR x.type).atom.maps), .val (.string (nR x.type).rel), .sl 6 88 (pdVs (nD x.dflt))] := by unfold qF; rw [nF_name, nF_type, nF_dflt]
  rw [tF_eq, e, hq]
  refine pcall_of_run Try.func80 rfl Try.ntmps80 rfl (fun X => ?_)
  rcases hd with ⟨en, rfl⟩ | ⟨y, rfl, ⟨en, hn⟩ | ⟨en, hn⟩⟩
  · have w : PLe (.val (.slice none 0 0)) (.sl 6 88 (pdVs (nD x.dflt))) := by rw [en]; simp only [pdVs]; exact PLe.nil _ _
    repeat' (first
    | refine run_seq ?_
    | (refine k_pick rfl ?_; first | refine k_fieldAddrB rfl rfl rfl ?_ | refine k_loadBD rfl rfl rfl (by first | rfl | (simp only [cellsD]; rfl)) ?_ | refine k_boxW rfl rfl rfl (by first | rfl | (simp only [cellsD]; rfl)) ?_ | refine k_cmpNil rfl rfl rfl (by kernel_rfl) (by first | exact NilIs.ptr | exact NilIs.none | exact NilIs.nilI | assumption) rfl ?_ | refine k_storeB rfl rfl rfl rfl rfl ?_ | refine k_alloc rfl rfl ?_)
    | refine run_opsEnd ?_
    | refine run_region ?_
    | refine run_condF rfl (by first | rfl | assumption) ?_
    | refine run_skip ?_
    | refine run_retOk (resOk_cell rfl rfl rfl (by first | rfl | (simp only [cellsD]; rfl)) ?_)
    | refine run_drawC (by kernel_rfl) ?_
    | refine c_nil (And.intro (by kernel_rfl) ?_)
    | refine c_pick (d_fieldAddrB rfl rfl rfl) ?_
    | refine c_pick (d_loadBD rfl rfl rfl (by first | rfl | (simp only [cellsD]; rfl))) ?_
    | refine c_pick (d_call rfl (by kernel_rfl) rfl (by first | exact cR)) ?_
    | refine c_pick (d_storeB rfl rfl rfl rfl rfl) ?_
    | refine c_pick (d_alloc rfl rfl) ?_
    | refine c_pick (d_build rfl rfl rfl) ?_
    | fail)
    all_goals exact PLe.aggs ⟨PLe.refl _, PLe.refl _, PLe.refl _, PLe.refl _, PLe.refl _, PLe.refl _, PLe.refl _, w, trivial⟩
  · have w : PLe (.val (.slice none 0 0)) (.sl 6 88 (pdVs (nD x.dflt))) := by rw [en]; simp only [pdVs]; exact PLe.nil _ _
    repeat' (first
    | refine run_seq ?_
    | (refine k_pick rfl ?_; first | refine k_fieldAddrB rfl rfl rfl ?_ | refine k_loadBD rfl rfl rfl (by first | rfl | (simp only [cellsD]; rfl)) ?_ | refine k_boxW rfl rfl rfl (by first | rfl | (simp only [cellsD]; rfl)) ?_ | refine k_cmpNil rfl rfl rfl (by kernel_rfl) (by first | exact NilIs.ptr | exact NilIs.none | exact NilIs.nilI | assumption) rfl ?_ | refine k_storeB rfl rfl rfl rfl rfl ?_ | refine k_alloc rfl rfl ?_)
    | refine run_opsEnd ?_
    | refine run_region ?_
    | refine run_condF rfl (by first | rfl | assumption) ?_
    | refine run_skip ?_
    | refine run_retOk (resOk_cell rfl rfl rfl (by first | rfl | (simp only [cellsD]; rfl)) ?_)
    | refine run_drawC (by kernel_rfl) ?_
    | refine c_nil (And.intro (by kernel_rfl) ?_)
    | refine c_pick (d_fieldAddrB rfl rfl rfl) ?_
    | refine c_pick (d_loadBD rfl rfl rfl (by first | rfl | (simp only [cellsD]; rfl))) ?_
    | refine c_pick (d_call rfl (by kernel_rfl) rfl (by first | exact cR)) ?_
    | refine c_pick (d_storeB rfl rfl rfl rfl rfl) ?_
    | refine c_pick (d_alloc rfl rfl) ?_
    | refine c_pick (d_build rfl rfl rfl) ?_
    | fail)
    all_goals exact PLe.aggs ⟨PLe.refl _, PLe.refl _, PLe.refl _, PLe.refl _, PLe.refl _, PLe.refl _, PLe.refl _, w, trivial⟩
  · have cT := fromTree_p (plainJ y)
    rw [un_plain] at cT
    have w : PLe (.sl 6 88 [qV (cleanV y)]) (.sl 6 88 (pdVs (nD x.dflt))) := PLe.of_eq (by rw [en]; simp only [pdVs, pdV_eq]; rfl)
    repeat' (first
    | refine run_seq ?_
    | (refine k_pick rfl ?_; first | refine k_fieldAddrB rfl rfl rfl ?_ | refine k_loadBD rfl rfl rfl (by first | rfl | (simp only [cellsD]; rfl)) ?_ | refine k_boxW rfl rfl rfl (by first | rfl | (simp only [cellsD]; rfl)) ?_ | refine k_call rfl (by kernel_rfl) rfl (by first | exact cR | exact cT) ?_ | refine k_cmpNil rfl rfl rfl (by kernel_rfl) (by first | exact NilIs.ptr | exact NilIs.none | exact NilIs.nilI | assumption) rfl ?_ | refine k_storeB rfl rfl rfl rfl rfl ?_ | refine k_alloc rfl rfl ?_ | refine k_loadBG rfl rfl rfl rfl ?_ | refine k_buildSlice rfl rfl (by kernel_rfl) rfl rfl rfl rfl rfl ?_)
    | refine run_opsEnd ?_
    | refine run_region ?_
    | refine run_condT rfl (by first | rfl | assumption) ?_
    | refine run_drawC (by kernel_rfl) ?_
    | refine c_nil (And.intro (by kernel_rfl) ?_)
    | refine c_pick (d_fieldAddrB rfl rfl rfl) ?_
    | refine c_pick (d_loadBD rfl rfl rfl (by first | rfl | (simp only [cellsD]; rfl))) ?_
    | refine c_pick (d_call rfl (by kernel_rfl) rfl (by first | exact cR | exact cT)) ?_
    | refine c_pick (d_storeB rfl rfl rfl rfl rfl) ?_
    | refine c_pick (d_alloc rfl rfl) ?_
    | refine c_pick (d_build rfl rfl rfl) ?_
    | fail)
    all_goals
      refine run_frz (fun _ => false) (fun k => k == 16) ?_
      refine run_retOk (resOk_cell rfl rfl rfl rfl ?_)
      exact PLe.aggs ⟨PLe.refl _, PLe.refl _, PLe.refl _, PLe.refl _, PLe.refl _, PLe.refl _, PLe.refl _, w, trivial⟩
theorem tFs_len (l : List TF) : (tFs l).length = l.length := by rw [tFs_eq]; simp
theorem pdFs_len (l : List TF) : (pdFs l).length = l.length := by rw [pdFs_eq]; simp
theorem fromMapType_p (x : TM) (hb : x.fields.length * 144 ≤ 140737488351232) (cR : PCall Try.prog 83 [pTR x.elem] (qR (nR x.elem))) (ihF : ∀ f ∈ x.fields, PCall Try.prog 80 [tF f] (qF (nF f))) : PCall Try.prog 128 [.ptr (tM x)] (qM (nM x)) := by
  have hlen := tFs_len x.fields
  refine pcall_of_run Try.func128 rfl Try.ntmps128 rfl (fun X => ?_)
  repeat' (first
    | refine run_seq ?_
    | (refine k_pick rfl ?_; first | refine k_moveD rfl rfl ?_ | refine k_nilD rfl rfl ?_ | refine k_lenD rfl rfl ?_ | refine k_fieldAddrD rfl rfl (by first | rfl | exact tM_eq _) rfl (by first | rfl | (simp only [tM_eq, cellsD]; rfl)) ?_ | refine k_loadD rfl rfl (by first | rfl | (simp only [tM_eq, cellsD]; rfl)) ?_ | refine k_alloc rfl rfl ?_)
    | refine run_opsEnd ?_
    | refine run_region ?_
    | refine run_block ?_
    | refine run_drawC (by kernel_rfl) ?_
    | refine c_nil (And.intro (by kernel_rfl) ?_)
    | refine c_pick (d_moveD rfl rfl) ?_
    | refine c_pick (d_call rfl (by kernel_rfl) rfl (by first | exact cR | (simp only [← tM_eq]; exact cR))) ?_
    | refine c_pick (d_nilD rfl rfl) ?_
    | refine c_pick (d_storeB rfl rfl rfl rfl rfl) ?_
    | refine c_pick (d_fieldAddrD rfl rfl (by first | rfl | exact tM_eq _) rfl (by first | rfl | (simp only [tM_eq, cellsD]; rfl))) ?_
    | refine c_pick (d_loadD rfl rfl (by first | rfl | (simp only [tM_eq, cellsD]; rfl))) ?_
    | refine c_pick (d_alloc rfl rfl) ?_
    | refine c_pick (d_build rfl rfl rfl) ?_
    | fail)
  refine run_nilOwnB 3 0 100 49 8 144 rfl rfl rfl ?_
  refine run_loopS (ι := { k : Nat // k ≤ x.fields.length })
    (fun k => [(2, .ptr 2 0), (3, .ptr 3 0), (19, .dat (.sl 8 80 (tFs x.fields))), (20, .dat (.val (.int .i64 ((tFs x.fields).length : Nat)))), (21, .dat (.val (.int .i64 (k.1 : Nat))))])
    (fun k => [(2, .box 45 ([.val (.slice none 0 0), .val (.bool false), .val (.string ⟨#[]⟩), .val (.string ⟨#[]⟩), .val (.slice none 0 0), .val (.slice none 0 0), .val (.string ⟨#[]⟩), .val (.string ⟨#[]⟩)].map .dat)),
      (3, .box 45 [.own 100, .dat (.val (.bool (nR x.elem).named)), .dat (.val (.string (nR x.elem).name)), .dat (.val (.string (nR x.elem).atom.scalar)), .dat (.sl 8 144 (pdLs (nR x.elem).atom.lists)), .dat (.sl 8 144 (pdMs (nR x.elem).atom.maps)), .dat (.val (.string (nR x.elem).rel)), .dat (.val (.string x.rel))]),
      (100, .row 49 8 144 ((x.fields.take k.1).map fun f => qF (nF f)))])
    (fun k => x.fields.length - k.1) ⟨0, Nat.zero_le _⟩ id ?_ ?_
  · (refine ⟨?_, ?_, by rfl⟩ <;> repeat' (first | exact trivial | exact ALe.ptr rfl | exact ALe.own rfl | exact ALe.elt rfl | exact BLe.boxD _ _ | exact BLe.row rfl | exact BLe.res | exact ALe.dat (PLe.refl _) | exact CLe.nil | refine And.intro ?_ ?_ | refine ALe.iface ?_ | refine ALe.clo ?_ | refine CLe.cons ?_ ?_ | refine BLe.box ?_ | refine BLe.row ?_ | refine ALe.dat (PLe.of_eq ?_)))
    all_goals trace_state
  · rintro ⟨k, hk⟩
    by_cases hlt : k < x.fields.length
    · have hc : decide ((k : Int) < (((tFs x.fields).length : Nat) : Int)) = true := by rw [hlen]; simpa using hlt
      obtain ⟨f, hf⟩ : ∃ f, x.fields[k]? = some f := ⟨x.fields[k], by simp [hlt]⟩
      have hi : (tFs x.fields)[((k : Nat) : Int).toNat]? = some (tF f) := by rw [tFs_eq]; simp [hf]
      have hcf := ihF f (List.mem_of_getElem? hf)
      have hbt : (((x.fields.take k).map fun f => qF (nF f)).length + [qF (nF f)].length) * 144 ≤ 140737488351232 := by simp; omega
      have hbl : ((x.fields.take k).map fun f => qF (nF f)).length + [qF (nF f)].length ≤ 140737488351232 := by simp; omega
      repeat' (first
    | refine run_seq ?_
    | (refine k_pick rfl ?_; first | refine k_indexAddrD rfl rfl rfl (by omega) (by assumption) ?_ | refine k_moveD rfl rfl ?_ | refine k_bin2B rfl rfl rfl rfl ?_ | refine k_storeW rfl rfl rfl (by first | rfl | (simp only [tM_eq, tF_eq, cellsD]; rfl)) (by first | rfl | (simp only [tM_eq, tF_eq, cellsD]; rfl)) rfl ?_ | refine k_ariI rfl rfl rfl rfl (by first | omega | (dsimp only; omega)) ?_ | refine k_loadD rfl rfl (by first | rfl | (simp only [tM_eq, tF_eq, cellsD]; rfl)) ?_ | refine k_alloc rfl rfl ?_)
    | refine run_opsEnd ?_
    | refine run_region ?_
    | refine run_condT rfl (by first | rfl | assumption) ?_
    | refine run_block ?_
    | refine run_blkEnd ?_
    | refine run_skip ?_
    | refine run_drawC (by kernel_rfl) ?_
    | refine c_nil (And.intro (by kernel_rfl) ?_)
    | refine c_pick (d_appendOO rfl rfl rfl rfl rfl rfl (by kernel_rfl) rfl rfl hbt hbl) ?_
    | refine c_pick (d_fieldAddrB rfl rfl rfl) ?_
    | refine c_pick (d_loadW rfl rfl rfl (by first | rfl | (simp only [tM_eq, tF_eq, cellsD]; rfl))) ?_
    | refine c_pick (d_call rfl (by kernel_rfl) rfl (by first | exact hcf | (simp only [← tM_eq, ← tF_eq]; exact hcf))) ?_
    | refine c_pick (d_storeB rfl rfl rfl rfl rfl) ?_
    | refine c_pick (d_loadBO rfl rfl rfl rfl) ?_
    | refine c_pick (d_buildSlice rfl rfl (by kernel_rfl) rfl rfl rfl rfl rfl) ?_
    | fail)
      refine run_again ?_
      refine ⟨⟨k + 1, by omega⟩, (fun j => if j = 100 then 30 else j), by simp only; omega, ?_⟩
      (refine ⟨?_, ?_, by rfl⟩ <;> repeat' (first | exact trivial | exact ALe.ptr rfl | exact ALe.own rfl | exact ALe.elt rfl | exact BLe.boxD _ _ | exact BLe.row rfl | exact BLe.res | exact ALe.dat (PLe.refl _) | exact CLe.nil | refine And.intro ?_ ?_ | refine ALe.iface ?_ | refine ALe.clo ?_ | refine CLe.cons ?_ ?_ | refine BLe.box ?_ | refine BLe.row ?_ | refine ALe.dat (PLe.of_eq ?_)))
      all_goals (simp [List.take_add_one, hf])
    · have hc : decide ((k : Int) < (((tFs x.fields).length : Nat) : Int)) = false := by rw [hlen]; simpa using hlt
      have hkk : k = x.fields.length := by omega
      repeat' (first
    | refine run_seq ?_
    | (refine k_pick rfl ?_; first | refine k_bin2B rfl rfl rfl rfl ?_ | refine k_storeB rfl rfl rfl rfl rfl ?_ | refine k_loadBG rfl rfl rfl rfl ?_)
    | refine run_opsEnd ?_
    | refine run_region ?_
    | refine run_condF rfl (by first | rfl | assumption) ?_
    | refine run_exit rfl ?_
    | fail)
      refine run_frz (fun _ => false) (fun k => k == 100) ?_
      refine run_retOk (resOk_cell rfl rfl rfl rfl ?_)
      refine PLe.of_eq ?_
      have e1 : (x.fields.map fun f => qF (nF f)) = pdFs (nFs x.fields) := by
        rw [nFs_eq, pdFs_eq, List.map_map]
        exact List.map_congr_left fun f _ => (pdF_eq (nF f)).symm
      simp [qM, hkk, e1, nM_fields, nM_elem, nM_rel]
end Go.Proofs.Ytlghpcokbppkfaa

/- fromAtom and its kin, whole. -/
namespace Go.Proofs.Ytlghpcokbppkfaa
open Go.RowKit
theorem Fits.sub {l : List PD} (h : Fits (.agg l)) (i n : Nat) : Fits (.agg ((l.drop i).take n)) := by
  obtain ⟨w, F, v, h⟩ := h
  unfold Rep at h
  obtain ⟨vs, rfl, hr, ho⟩ := h
  refine ⟨w, F, .agg ((vs.drop i).take n).toArray, ?_⟩
  unfold Rep
  exact ⟨_, rfl, (hr.drop i).take n, fun u hu => ho u (List.drop_subset _ _ (List.take_subset _ _ hu))⟩
theorem fits_L {x : TL} (h : Fits (pdL x)) : Fits (pdR x.elem) := by rw [pdL_eq] at h; rw [pdR_eq]; exact h.sub 0 6
theorem fits_M {x : TM} (h : Fits (pdM x)) : Fits (pdR x.elem) ∧ x.fields.length * 144 ≤ 140737488351232 ∧ ∀ f ∈ x.fields, Fits (pdF f) := by
  rw [pdM_eq] at h; rw [pdR_eq]
  have hs := (h.aggAt 0 rfl).sl
  rw [pdFs_len] at hs
  exact ⟨h.sub 1 6, hs.1, fun f hf => hs.2.2 _ (by rw [pdFs_eq]; exact List.mem_map_of_mem hf)⟩
theorem fits_F {x : TF} (h : Fits (pdF x)) : Fits (pdR x.type) := by rw [pdF_eq] at h; rw [pdR_eq]; exact h.sub 1 6
theorem fits_R {x : TR} (h : Fits (pdR x)) : Fits (pdA x.atom) := by rw [pdR_eq] at h; rw [pdA_eq]; exact h.sub 2 3
theorem fits_A {x : TA} (h : Fits (pdA x)) : (∀ l ∈ x.lists, Fits (pdL l)) ∧ ∀ m ∈ x.maps, Fits (pdM m) := by
  rw [pdA_eq] at h
  exact ⟨fun l hl => (h.aggAt 1 rfl).sl.2.2 _ (by rw [pdLs_eq]; exact List.mem_map_of_mem hl), fun l hl => (h.aggAt 2 rfl).sl.2.2 _ (by rw [pdMs_eq]; exact List.mem_map_of_mem hl)⟩
mutual
theorem fromAtom_c : ∀ a : TA, Fits (pdA a) → PCall Try.prog 94 [pTA a] (qA (nA a))
  | .mk s l m, h => fromAtom_p _ (fun x r e => by
      cases l with
      | nil => cases e
      | cons y r' => cases e; exact fromListElem_c _ ((fits_A h).1 _ (List.mem_cons_self ..))) (fun x r e => by
      cases m with
      | nil => cases e
      | cons y r' => cases e; exact fromMapType_c _ ((fits_A h).2 _ (List.mem_cons_self ..)))
theorem fromRef_c : ∀ x : TR, Fits (pdR x) → PCall Try.prog 83 [pTR x] (qR (nR x))
  | .mk _ _ a _, h => fromRef_p _ (fun _ => fromAtom_c a (fits_R h))
theorem fromListElem_c : ∀ x : TL, Fits (pdL x) → PCall Try.prog 83 [pTR x.elem] (qR (nR x.elem))
  | .mk e _ _, h => fromRef_c e (fits_L h)
theorem fromMapType_c : ∀ x : TM, Fits (pdM x) → PCall Try.prog 128 [.ptr (tM x)] (qM (nM x))
  | .mk f e _, h => fromMapType_p _ (fits_M h).2.1 (fromRef_c e (fits_M h).1) (fromFields_c f (fits_M h).2.2)
theorem fromFields_c : ∀ (l : List TF), (∀ f ∈ l, Fits (pdF f)) → ∀ f ∈ l, PCall Try.prog 80 [tF f] (qF (nF f))
  | [], _, _, h => by cases h
  | x :: r, hf, f, h => by
    rcases List.mem_cons.1 h with h | h
    · rw [h]; exact fromField_c x (hf x (List.mem_cons_self ..))
    · exact fromFields_c r (fun f h => hf f (List.mem_cons_of_mem _ h)) f h
theorem fromField_c : ∀ x : TF, Fits (pdF x) → PCall Try.prog 80 [tF x] (qF (nF x))
  | .mk _ t _, h => fromField_p _ (fromRef_c t (fits_F h))
end
end Go.Proofs.Ytlghpcokbppkfaa

/- (*Map).FindField and impl.FindField. -/
namespace Go.Proofs.Ytlghpcokbppkfaa
open Go.RowKit
set_option linter.unusedSimpArgs false
set_option maxRecDepth 10000
set_option maxHeartbeats 2000000

/-- The last field of this name. -/
def lastF : List TF → ByteArray → Option TF
  | [], _ => none
  | x :: r, nm => match lastF r nm with
    | some f => some f
    | none => if x.name = nm then some x else none
theorem lastF_append (nm : ByteArray) (b : List TF) : ∀ a : List TF, lastF (a ++ b) nm = (lastF b nm).or (lastF a nm)
  | [] => by cases h : lastF b nm <;> simp [lastF, h]
  | x :: a => by
    show (match lastF (a ++ b) nm with | some f => some f | none => if x.name = nm then some x else none) = _
    rw [lastF_append nm b a]
    cases h : lastF b nm <;> simp [lastF]
theorem lastF_mem (nm : ByteArray) : ∀ {l : List TF} {f : TF}, lastF l nm = some f → f ∈ l
  | x :: r, f, h => by
    simp only [lastF] at h
    split at h
    · rename_i g hg; cases h; exact List.mem_cons_of_mem _ (lastF_mem nm hg)
    · split at h
      · cases h; exact List.mem_cons_self ..
      · cases h
def zTF : TF := .mk ⟨#[]⟩ (.mk false ⟨#[]⟩ emptyA ⟨#[]⟩) []
def zF : PD := .agg [.val (.string ⟨#[]⟩), .val (.pointer none), .val (.pointer none), .val (.pointer none), .val (.pointer none), .val (.pointer none), .val (.bool false), .val .nilIface]
theorem zF_eq : tF zTF = zF := by
  rw [tF_eq]
  show PD.agg [_, nilP, optS ⟨#[]⟩, nilP, nilP, optS ⟨#[]⟩, _, _] = _
  rw [optS_no rfl]; rfl
theorem lastF_at {l : List TF} {nm : ByteArray} {k : Nat} {f : TF} (h : l[k]? = some f) (hn : lastF (l.drop (k + 1)) nm = none) : lastF (l.drop k) nm = if f.name = nm then some f else none := by
  have hk := (List.getElem?_eq_some_iff.1 h)
  obtain ⟨hlt, e⟩ := hk
  rw [List.drop_eq_getElem_cons hlt, e]
  show (match lastF _ nm with | some f => some f | none => if f.name = nm then some f else none) = _
  rw [hn]
theorem lastF_of_drop {l : List TF} {nm : ByteArray} {k : Nat} {f : TF} (h : lastF (l.drop k) nm = some f) : lastF l nm = some f := by
  have := lastF_append nm (l.drop k) (l.take k)
  rw [List.take_append_drop, h] at this
  exact this
theorem mFind_p (m : TM) (nm : ByteArray) : PCall Try.prog 79 [.ptr (tM m), .val (.string nm)] (.tup [tF ((lastF m.fields nm).getD zTF), .val (.bool (lastF m.fields nm).isSome)]) := by
  refine pcall_fits fun hfit => ?_
  have hk := (show Fits (tM m) from (show Fits (.ptr (tM m)) from hfit _ (by simp)).ptr)
  rw [tM_eq] at hk
  have hb := (hk.aggAt 0 rfl).sl
  have hlen := tFs_len m.fields
  rw [hlen] at hb
  have hb1 := hb.1
  clear hb hk
  refine pcall_of_run Try.func79 rfl Try.ntmps79 rfl (fun X => ?_)
  repeat' (first
    | refine run_seq ?_
    | (refine k_pick rfl ?_; first | refine k_assignD rfl rfl ?_ | refine k_moveD rfl rfl ?_ | refine k_nilD rfl rfl ?_ | refine k_lenD rfl rfl ?_ | refine k_ariI rfl rfl rfl rfl (by first | omega | (dsimp only; omega)) ?_ | refine k_fieldAddrD rfl rfl (by first | rfl | exact tM_eq _) rfl (by first | rfl | (simp only [tM_eq, cellsD]; rfl)) ?_ | refine k_loadD rfl rfl (by first | rfl | (simp only [tM_eq, cellsD]; rfl)) ?_ | refine k_alloc rfl rfl ?_)
    | refine run_opsEnd ?_
    | refine run_region ?_
    | refine run_block ?_
    | fail)
  refine run_loopS (ι := { k : Nat // k ≤ m.fields.length ∧ lastF (m.fields.drop k) nm = none })
    (fun k => [(0, .dat (.ptr (tM m))), (1, .dat (.val (.string nm))), (4, .ptr 4 0), (6, .dat (.val (.int .i64 ((k.1 : Nat) - 1 : Int))))])
    (fun k => [(4, .box 126 ([.val (.string ⟨#[]⟩), .val (.pointer none), .val (.pointer none), .val (.pointer none), .val (.pointer none), .val (.pointer none), .val (.bool false), .val .nilIface].map .dat))])
    (fun k => k.1) ⟨m.fields.length, Nat.le_refl _, by simp [lastF]⟩ id ?_ ?_
  · (refine ⟨?_, ?_, by rfl⟩ <;> repeat' (first | exact trivial | exact ALe.ptr rfl | exact ALe.own rfl | exact ALe.elt rfl | exact BLe.boxD _ _ | exact BLe.row rfl | exact BLe.res | exact ALe.dat (PLe.refl _) | exact CLe.nil | refine And.intro ?_ ?_ | refine ALe.iface ?_ | refine ALe.clo ?_ | refine CLe.cons ?_ ?_ | refine BLe.box ?_ | refine BLe.row ?_ | refine ALe.dat (PLe.of_eq ?_)))
    all_goals (simp [hlen])
  · rintro ⟨k, hk, hno⟩
    cases k with
    | zero =>
      have hc : decide ((0 : Int) ≤ ((0 : Nat) : Int) - 1) = false := by decide
      have e : lastF m.fields nm = none := by simpa using hno
      repeat' (first
    | refine run_seq ?_
    | (refine k_pick rfl ?_; first | refine k_assignD rfl rfl ?_ | refine k_moveD rfl rfl ?_ | refine k_bin2B rfl rfl rfl rfl ?_ | refine k_storeB rfl rfl rfl rfl rfl ?_ | refine k_build rfl rfl rfl ?_)
    | refine run_opsEnd ?_
    | refine run_region ?_
    | refine run_condF rfl (by first | rfl | assumption) ?_
    | refine run_exit rfl ?_
    | refine run_retOk (resOk_cellTmp rfl rfl rfl (by first | rfl | (simp only [tM_eq, cellsD]; rfl)) rfl ?_ ?_)
    | fail)
      · rw [e]; exact PLe.of_eq zF_eq.symm
      · rw [e]; exact PLe.refl _
    | succ k =>
      have hc : decide ((0 : Int) ≤ ((k + 1 : Nat) : Int) - 1) = true := by simp
      obtain ⟨f, hf⟩ : ∃ f, m.fields[k]? = some f := ⟨m.fields[k]'(by omega), by simp⟩
      have hi : (tFs m.fields)[(((k + 1 : Nat) : Int) - 1).toNat]? = some (tF f) := by
        rw [show (((k + 1 : Nat) : Int) - 1).toNat = k by omega, tFs_eq]; simp [hf]
      have hat := lastF_at hf hno
      repeat' (first
    | refine run_seq ?_
    | (refine k_pick rfl ?_; first | refine k_indexAddrD rfl rfl rfl (by first | omega | (dsimp only; omega)) (by assumption) ?_ | refine k_assignD rfl rfl ?_ | refine k_moveD rfl rfl ?_ | refine k_bin2B rfl rfl rfl rfl ?_ | refine k_nilD rfl rfl ?_ | refine k_storeW rfl rfl rfl (by first | rfl | (simp only [tM_eq, tF_eq, cellsD]; rfl)) (by first | rfl | (simp only [tM_eq, tF_eq, cellsD]; rfl)) rfl ?_ | refine k_ariI rfl rfl rfl rfl (by first | omega | (dsimp only; omega)) ?_ | refine k_fieldAddrD rfl rfl (by first | rfl | exact tM_eq _ | exact tF_eq _) rfl (by first | rfl | (simp only [tM_eq, tF_eq, cellsD]; rfl)) ?_ | refine k_loadD rfl rfl (by first | rfl | (simp only [tM_eq, tF_eq, cellsD]; rfl)) ?_)
    | refine run_opsEnd ?_
    | refine run_region ?_
    | refine run_condT rfl (by first | rfl | assumption) ?_
    | refine run_cond rfl (fun h => ?_) (fun h => ?_)
    | refine run_block ?_
    | refine run_blkEnd ?_
    | refine run_skip ?_
    | refine run_retOk (resOk_cellTmp rfl rfl rfl (by first | rfl | (simp only [tM_eq, tF_eq, cellsD]; rfl)) rfl ?_ ?_)
    | fail)
      · have e : lastF m.fields nm = some f := lastF_of_drop (hat.trans (if_pos (by simpa using h)))
        rw [e]; exact PLe.of_eq (tF_eq f).symm
      · have e : lastF m.fields nm = some f := lastF_of_drop (hat.trans (if_pos (by simpa using h)))
        rw [e]; exact PLe.refl _
      · refine run_again ?_
        refine ⟨⟨k, by omega, hat.trans (if_neg (by simpa using h))⟩, id, by simp only; omega, ?_⟩
        (refine ⟨?_, ?_, by rfl⟩ <;> repeat' (first | exact trivial | exact ALe.ptr rfl | exact ALe.own rfl | exact ALe.elt rfl | exact BLe.boxD _ _ | exact BLe.row rfl | exact BLe.res | exact ALe.dat (PLe.refl _) | exact CLe.nil | refine And.intro ?_ ?_ | refine ALe.iface ?_ | refine ALe.clo ?_ | refine CLe.cons ?_ ?_ | refine BLe.box ?_ | refine BLe.row ?_ | refine ALe.dat (PLe.of_eq ?_)))
        all_goals simp
theorem find_p (m : TM) (nm : ByteArray) : PCall Try.prog 28 [pdM m, .val (.string nm)] (.tup [qF (nF ((lastF m.fields nm).getD zTF)), .val (.bool (lastF m.fields nm).isSome)]) := by
  refine pcall_fits fun hfit => ?_
  have hk := (show Fits (pdM m) from hfit _ (by simp))
  have cT := toMap_c m
  have cF := mFind_p m nm
  rw [tM_eq] at cF
  have cE : PCall Try.prog 80 [tF ((lastF m.fields nm).getD zTF)] (qF (nF ((lastF m.fields nm).getD zTF))) := by
    cases h : lastF m.fields nm with
    | none => exact fromField_p zTF (fromRef_p _ fun _ => fromAtom_p emptyA (fun _ _ h => by cases h) (fun _ _ h => by cases h))
    | some f => exact fromField_c f ((fits_M hk).2.2 f (lastF_mem nm h))
  generalize (lastF m.fields nm).getD zTF = f at *
  refine pcall_of_run Try.func28 rfl Try.ntmps28 rfl (fun X => ?_)
  repeat' (first
    | refine run_seq ?_
    | (refine k_pick rfl ?_; first | refine k_assignD rfl rfl ?_ | refine k_moveD rfl rfl ?_ | refine k_loadW rfl rfl rfl (by first | rfl | (simp only [pdM_eq, tF_eq, cellsD]; rfl)) ?_ | refine k_boxW rfl rfl rfl (by first | rfl | (simp only [pdM_eq, tF_eq, cellsD]; rfl)) ?_ | refine k_call rfl (by kernel_rfl) rfl (by first | exact cT | (simp only [← pdM_eq, ← tF_eq]; exact cT) | exact cF | (simp only [← pdM_eq, ← tF_eq]; exact cF) | exact cE | (simp only [← pdM_eq, ← tF_eq]; exact cE)) ?_ | refine k_storeB rfl rfl rfl rfl rfl ?_ | refine k_alloc rfl rfl ?_)
    | refine run_opsEnd ?_
    | refine run_region ?_
    | fail)
  refine run_frz (fun t => t == 123) (fun k => k == 6) ?_
  repeat' (first
    | refine run_seq ?_
    | (refine k_pick rfl ?_; first | refine k_assignD rfl rfl ?_ | refine k_moveD rfl rfl ?_ | refine k_loadW rfl rfl rfl (by first | rfl | (simp only [pdM_eq, tF_eq, cellsD]; rfl)) ?_ | refine k_call rfl (by kernel_rfl) rfl (by first | exact cT | (simp only [← pdM_eq, ← tF_eq]; exact cT) | exact cF | (simp only [← pdM_eq, ← tF_eq]; exact cF) | exact cE | (simp only [← pdM_eq, ← tF_eq]; exact cE)) ?_ | refine k_extract rfl rfl rfl ?_ | refine k_storeB rfl rfl rfl rfl rfl ?_ | refine k_storeW rfl rfl rfl (by first | rfl | (simp only [pdM_eq, tF_eq, cellsD]; rfl)) (by first | rfl | (simp only [pdM_eq, tF_eq, cellsD]; rfl)) rfl ?_ | refine k_alloc rfl rfl ?_)
    | refine run_opsEnd ?_
    | refine run_region ?_
    | refine run_retOk (resOk_cellTmp rfl rfl rfl (by first | rfl | (simp only [pdM_eq, tF_eq, cellsD]; rfl)) rfl ?_ ?_)
    | fail)
  all_goals exact PLe.refl _
end Go.Proofs.Ytlghpcokbppkfaa
