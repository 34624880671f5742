import Derived.Test.YtlghpcokbppkfaaResLaw
/- The reference's words on types: parts, NoOther, scalarFits, FindField, Resolve whole. -/
set_option linter.unusedVariables false
namespace Go.Proofs.Ytlghpcokbppkfaa
open Go.RowKit
set_option linter.unusedSimpArgs false
set_option maxRecDepth 10000
set_option maxHeartbeats 4000000

/-! ### min of a length and 1 -/
section
variable {P : Program} {X : Base} {N : Nat} {Q : Exit → Act → World → Prop} {ops : Array Oper} {rem : List Nat} {ks : List Itm} {s s' : Sta}
theorem op_min1r {o : Oper} (hd : dstOk X.N o.dst = true) {x y : Operand} {ts : Array TypeId} (ho : o.op = .call { callee := .builtin .min, args := #[x, y], argTypes := ts }) {q : Nat} (hx : s.ev x = .dat (.val (.int .i64 ((q : Nat) : Int)))) (hy : s.ev y = .dat (.val (.int .i64 1))) :
    OpS P X o s (s.put o.dst (.dat (.val (.int .i64 ((min q 1 : Nat) : Int))))) := by
  refine opS_value hd fun a w ρ hc => ⟨.int .i64 ((min q 1 : Nat) : Int), ?_, ?_⟩
  · have h1 := hc.ev x
    have h2 := hc.ev y
    rw [hx] at h1
    rw [hy] at h2
    unfold VR Rep at h1 h2
    have e : (if (1 : Int) < (q : Int) then (1 : Int) else (q : Int)) = ((min q 1 : Nat) : Int) := by split <;> omega
    simp [execOp, ho, resolve, invoke, builtin, h1.1, h2.1, run_min_int2, e]
  · unfold VR Rep
    refine ⟨rfl, ?_⟩
    have : min q 1 = 0 ∨ min q 1 = 1 := by omega
    rcases this with h | h <;> rw [h] <;> rfl
theorem k_min1r {d q : Nat} {x y : Operand} {ts : Array TypeId} (hN : Nat.blt d N = true) (hx : s.ev x = .dat (.val (.int .i64 ((q : Nat) : Int)))) (hy : s.ev y = .dat (.val (.int .i64 1))) (h : Run P X N Q (.ops ops rem :: ks) (s.put (some d) (.dat (.val (.int .i64 ((min q 1 : Nat) : Int)))))) :
    RunK P X N Q ops rem ks (some d) (.call { callee := .builtin .min, args := #[x, y], argTypes := ts }) s := k_of hN (fun _ _ _ hd => op_min1r hd rfl hx hy) h
theorem d_min1r {ops : List Oper} {d q : Nat} {x y : Operand} {ts : Array TypeId} (hN : Nat.blt d N = true) (hx : s.ev x = .dat (.val (.int .i64 ((q : Nat) : Int)))) (hy : s.ev y = .dat (.val (.int .i64 1))) :
    TrK P X N ops (some d) (.call { callee := .builtin .min, args := #[x, y], argTypes := ts }) (Eff.put (some d) (.dat (.val (.int .i64 ((min q 1 : Nat) : Int))))) s (s.put (some d) (.dat (.val (.int .i64 ((min q 1 : Nat) : Int))))) :=
  act_val hN fun s' _ _ _ _ hd hev htb => op_min1r hd rfl ((hev _ (by simp [Op.operands, Call.operands])).trans hx) ((hev _ (by simp [Op.operands, Call.operands])).trans hy)
end

def partsN (a : TA) : Nat := min a.lists.length 1 + min a.maps.length 1 + (if a.scalar = ⟨#[]⟩ then 0 else 1)
theorem parts_p (a : TA) : PCall Try.prog 142 [qA a] (.val (.int .i64 ((partsN a : Nat) : Int))) := by
  have hL := pdLs_lenN a.lists
  have hM := pdMs_lenN a.maps
  refine pcall_of_run Try.func142 rfl Try.ntmps142 rfl (fun X => ?_)
  by_cases h : a.scalar = ⟨#[]⟩
  · have h0 : decide (a.scalar ≠ ⟨#[]⟩) = false := by simpa using h
    repeat' (first
    | refine run_seq ?_
    | (refine k_pick rfl ?_; first | refine k_min1r rfl rfl rfl ?_ | refine k_assignD rfl rfl ?_ | refine k_moveD rfl rfl ?_ | refine k_fieldAddrB rfl rfl rfl ?_ | refine k_loadBD rfl rfl rfl (by first | rfl | (simp only [cellsD]; rfl)) ?_ | refine k_bin2B rfl rfl rfl rfl ?_ | refine k_boxW rfl rfl rfl (by first | rfl | (simp only [cellsD]; rfl)) ?_ | refine k_lenD rfl rfl ?_ | refine k_ariI rfl rfl rfl rfl (by first | omega | (dsimp only; omega)) ?_)
    | refine run_opsEnd ?_
    | refine run_region ?_
    | refine run_condF rfl (by first | rfl | assumption) ?_
    | refine run_skip ?_
    | refine run_retOk (resOk_tmp rfl rfl ?_)
    | fail)
    all_goals (refine PLe.int ?_; simp only [partsN, hL, hM, if_pos h]; omega)
  · have h0 : decide (a.scalar ≠ ⟨#[]⟩) = true := by simpa using h
    repeat' (first
    | refine run_seq ?_
    | (refine k_pick rfl ?_; first | refine k_min1r rfl rfl rfl ?_ | refine k_assignD rfl rfl ?_ | refine k_moveD rfl rfl ?_ | refine k_fieldAddrB rfl rfl rfl ?_ | refine k_loadBD rfl rfl rfl (by first | rfl | (simp only [cellsD]; rfl)) ?_ | refine k_bin2B rfl rfl rfl rfl ?_ | refine k_boxW rfl rfl rfl (by first | rfl | (simp only [cellsD]; rfl)) ?_ | refine k_lenD rfl rfl ?_ | refine k_ariI rfl rfl rfl rfl (by first | omega | (dsimp only; omega)) ?_)
    | refine run_opsEnd ?_
    | refine run_region ?_
    | refine run_condT rfl (by first | rfl | assumption) ?_
    | refine run_retOk (resOk_tmp rfl rfl ?_)
    | fail)
    all_goals (refine PLe.int ?_; simp only [partsN, hL, hM, if_neg h]; omega)
def noOth (r : TR) : Bool := !r.named && decide (r.rel = ⟨#[]⟩) && decide (partsN r.atom = 0)
theorem noOth_p (r : TR) : PCall Try.prog 153 [qR r] (.val (.bool (noOth r))) := by
  have c := parts_p r.atom
  refine pcall_of_run Try.func153 rfl Try.ntmps153 rfl (fun X => ?_)
  repeat' (first
    | refine run_seq ?_
    | (refine k_pick rfl ?_; first | refine k_assignD rfl rfl ?_ | refine k_moveD rfl rfl ?_ | refine k_fieldAddrB rfl rfl rfl ?_ | refine k_loadBD rfl rfl rfl (by first | rfl | (simp only [cellsD]; rfl)) ?_ | refine k_pickT rfl rfl (by first | rfl | assumption) rfl ?_ | refine k_pickF rfl rfl (by first | rfl | assumption) rfl ?_ | refine k_boxW rfl rfl rfl (by first | rfl | (simp only [cellsD]; rfl)) ?_ | refine k_not rfl rfl ?_)
    | refine run_opsEnd ?_
    | refine run_region ?_
    | (refine k_guardY rfl rfl (by first | rfl | assumption) ?_; first | refine k_loadBD rfl rfl rfl (by first | rfl | (simp only [cellsD]; rfl)) ?_ | refine k_bin2B rfl rfl rfl rfl ?_ | refine k_call rfl (by kernel_rfl) rfl (by first | exact c) ?_)
    | refine k_guardNT rfl rfl (by first | rfl | assumption) rfl ?_
    | refine k_guardT rfl rfl rfl (fun h => ?_) (fun h => ?_)
    | refine run_retOk (resOk_tmp rfl rfl ?_)
    | (refine k_fieldAddrB rfl rfl rfl ?_)
    | fail)
  all_goals (refine PLe.bool ?_; simp_all [noOth])
/-! ### number, scalar, scalarFits -/
def numB (x : GV) : Bool := decide (x.kind = 2) || decide (x.kind = 3)
theorem numB_p (x : GV) : PCall Try.prog 131 [pdV x] (.val (.bool (numB x))) := by
  refine pcall_of_run Try.func131 rfl Try.ntmps131 rfl (fun X => ?_)
  repeat' (first
    | refine run_seq ?_
    | (refine k_pick rfl ?_; first | refine k_assignD rfl rfl ?_ | refine k_moveD rfl rfl ?_ | refine k_fieldAddrB rfl rfl rfl ?_ | refine k_loadBD rfl rfl rfl (by first | rfl | (simp only [pdV_eq, cellsD]; rfl)) ?_ | refine k_bin2B rfl rfl rfl rfl ?_ | refine k_pickT rfl rfl (by first | rfl | assumption) rfl ?_ | refine k_pickF rfl rfl (by first | rfl | assumption) rfl ?_ | refine k_boxW rfl rfl rfl (by first | rfl | (simp only [pdV_eq, cellsD]; rfl)) ?_)
    | refine run_opsEnd ?_
    | refine run_region ?_
    | (refine k_guardY rfl rfl (by first | rfl | assumption) ?_; first | refine k_loadBD rfl rfl rfl (by first | rfl | (simp only [pdV_eq, cellsD]; rfl)) ?_ | refine k_bin2B rfl rfl rfl rfl ?_)
    | refine k_guardNF rfl rfl (by first | rfl | assumption) rfl ?_
    | refine k_guardF rfl rfl rfl (fun h => ?_) (fun h => ?_)
    | refine run_retOk (resOk_tmp rfl rfl ?_)
    | (refine k_fieldAddrB rfl rfl rfl ?_)
    | fail)
  all_goals (refine PLe.bool ?_; simp_all [numB])
def sclB (x : GV) : Bool := decide (1 ≤ x.kind) && decide (x.kind ≤ 4)
theorem sclB_p (x : GV) : PCall Try.prog 161 [pdV x] (.val (.bool (sclB x))) := by
  refine pcall_of_run Try.func161 rfl Try.ntmps161 rfl (fun X => ?_)
  repeat' (first
    | refine run_seq ?_
    | (refine k_pick rfl ?_; first | refine k_assignD rfl rfl ?_ | refine k_moveD rfl rfl ?_ | refine k_fieldAddrB rfl rfl rfl ?_ | refine k_loadBD rfl rfl rfl (by first | rfl | (simp only [pdV_eq, cellsD]; rfl)) ?_ | refine k_bin2B rfl rfl rfl rfl ?_ | refine k_pickT rfl rfl (by first | rfl | assumption) rfl ?_ | refine k_pickF rfl rfl (by first | rfl | assumption) rfl ?_ | refine k_boxW rfl rfl rfl (by first | rfl | (simp only [pdV_eq, cellsD]; rfl)) ?_)
    | refine run_opsEnd ?_
    | refine run_region ?_
    | (refine k_guardY rfl rfl (by first | rfl | assumption) ?_; first | refine k_loadBD rfl rfl rfl (by first | rfl | (simp only [pdV_eq, cellsD]; rfl)) ?_ | refine k_bin2B rfl rfl rfl rfl ?_)
    | refine k_guardNT rfl rfl (by first | rfl | assumption) rfl ?_
    | refine k_guardT rfl rfl rfl (fun h => ?_) (fun h => ?_)
    | refine run_retOk (resOk_tmp rfl rfl ?_)
    | (refine k_fieldAddrB rfl rfl rfl ?_)
    | fail)
  all_goals (refine PLe.bool ?_; simp_all [sclB]; try omega)
def sNum : ByteArray := ⟨#[110, 117, 109, 101, 114, 105, 99]⟩
def sStr : ByteArray := ⟨#[115, 116, 114, 105, 110, 103]⟩
def sBoo : ByteArray := ⟨#[98, 111, 111, 108, 101, 97, 110]⟩
def sUnt : ByteArray := ⟨#[117, 110, 116, 121, 112, 101, 100]⟩
def sAto : ByteArray := ⟨#[97, 116, 111, 109, 105, 99]⟩
def sAsc : ByteArray := ⟨#[97, 115, 115, 111, 99, 105, 97, 116, 105, 118, 101]⟩
def sSep : ByteArray := ⟨#[115, 101, 112, 97, 114, 97, 98, 108, 101]⟩
def fitsB (k : ByteArray) (x : GV) : Bool := if k = sNum then numB x else if k = sStr then decide (x.kind = 4) else if k = sBoo then decide (x.kind = 1) else if k = sUnt then sclB x else false
theorem fitsB_p (k : ByteArray) (x : GV) : PCall Try.prog 158 [.val (.string k), pdV x] (.val (.bool (fitsB k x))) := by
  have c1 := numB_p x
  have c2 := sclB_p x
  refine pcall_of_run Try.func158 rfl Try.ntmps158 rfl (fun X => ?_)
  repeat' (first
    | refine run_seq ?_
    | (refine k_pick rfl ?_; first | refine k_assignD rfl rfl ?_ | refine k_moveD rfl rfl ?_ | refine k_fieldAddrB rfl rfl rfl ?_ | refine k_loadW rfl rfl rfl (by first | rfl | (simp only [pdV_eq, cellsD]; rfl)) ?_ | refine k_loadBD rfl rfl rfl (by first | rfl | (simp only [pdV_eq, cellsD]; rfl)) ?_ | refine k_bin2B rfl rfl rfl rfl ?_ | refine k_boxW rfl rfl rfl (by first | rfl | (simp only [pdV_eq, cellsD]; rfl)) ?_ | refine k_call rfl (by kernel_rfl) rfl (by first | exact c1 | (simp only [← pdV_eq]; exact c1) | exact c2 | (simp only [← pdV_eq]; exact c2)) ?_)
    | refine run_opsEnd ?_
    | refine run_region ?_
    | refine run_cond rfl (fun h => ?_) (fun h => ?_)
    | refine run_block ?_
    | refine run_blkEnd ?_
    | refine run_skip ?_
    | refine run_retOk (resOk_tmp rfl rfl ?_)
    | fail)
  all_goals (refine PLe.bool ?_; simp_all [fitsB, sNum, sStr, sBoo, sUnt])
/-! ### spec.FindField -/
def firstF : List TF → ByteArray → Option TF
  | [], _ => none
  | x :: r, nm => if x.name = nm then some x else firstF r nm
theorem firstF_take {l : List TF} {nm : ByteArray} {k : Nat} {f : TF} (h : l[k]? = some f) (hn : ∀ g ∈ l.take k, g.name ≠ nm) : f.name = nm → firstF l nm = some f := by
  induction l generalizing k with
  | nil => simp at h
  | cons x r ih =>
    intro e
    cases k with
    | zero => simp at h; subst h; simp [firstF, e]
    | succ k =>
      have hx : x.name ≠ nm := hn x (by simp)
      simp only [firstF, if_neg hx]
      exact ih (by simpa using h) (fun g hg => hn g (by simp [hg])) e
theorem firstF_none {nm : ByteArray} : ∀ {l : List TF}, (∀ g ∈ l, g.name ≠ nm) → firstF l nm = none
  | [], _ => rfl
  | x :: r, h => by simp only [firstF, if_neg (h x (List.mem_cons_self ..))]; exact firstF_none fun g hg => h g (List.mem_cons_of_mem _ hg)
theorem zFdata : PLe (.agg [.val (.string ⟨#[]⟩), .val (.bool false), .val (.string ⟨#[]⟩), .val (.string ⟨#[]⟩), .val (.slice none 0 0), .val (.slice none 0 0), .val (.string ⟨#[]⟩), .val (.slice none 0 0)]) (qF zTF) := by
  refine PLe.aggs ⟨PLe.refl _, PLe.refl _, PLe.refl _, PLe.refl _, ?_, ?_, PLe.refl _, ?_, trivial⟩
  · show PLe _ (.sl 8 144 (pdLs [])); simp only [pdLs]; exact PLe.nil _ _
  · show PLe _ (.sl 8 144 (pdMs [])); simp only [pdMs]; exact PLe.nil _ _
  · show PLe _ (.sl 6 88 (pdVs [])); simp only [pdVs]; exact PLe.nil _ _
theorem findF_p (m : TM) (nm : ByteArray) : PCall Try.prog 39 [qM m, .val (.string nm)] (.tup [qF ((firstF m.fields nm).getD zTF), .val (.bool (firstF m.fields nm).isSome)]) := by
  refine pcall_fits fun hfit => ?_
  have hb1 := (fits_M (show Fits (pdM m) from by rw [pdM_eq]; exact hfit (qM m) (by simp))).2.1
  have hlen := pdFs_len m.fields
  refine pcall_of_run Try.func39 rfl Try.ntmps39 rfl (fun X => ?_)
  repeat' (first
    | refine run_seq ?_
    | (refine k_pick rfl ?_; first | refine k_assignD rfl rfl ?_ | refine k_moveD rfl rfl ?_ | refine k_fieldAddrB rfl rfl rfl ?_ | refine k_loadBD rfl rfl rfl (by first | rfl | (simp only [cellsD]; rfl)) ?_ | refine k_boxW rfl rfl rfl (by first | rfl | (simp only [cellsD]; rfl)) ?_ | refine k_lenD rfl rfl ?_ | refine k_alloc rfl rfl ?_)
    | refine run_opsEnd ?_
    | refine run_region ?_
    | refine run_block ?_
    | fail)
  refine run_loopS (ι := { k : Nat // k ≤ m.fields.length ∧ ∀ g ∈ m.fields.take k, g.name ≠ nm })
    (fun k => [(1, .dat (.val (.string nm))), (4, .ptr 4 0), (9, .dat (.sl 8 144 (pdFs m.fields))), (10, .dat (.val (.int .i64 ((pdFs m.fields).length : Nat)))), (11, .dat (.val (.int .i64 (k.1 : Nat))))])
    (fun k => [(4, .box 49 ([.val (.string ⟨#[]⟩), .val (.bool false), .val (.string ⟨#[]⟩), .val (.string ⟨#[]⟩), .val (.slice none 0 0), .val (.slice none 0 0), .val (.string ⟨#[]⟩), .val (.slice none 0 0)].map .dat))])
    (fun k => m.fields.length - k.1) ⟨0, Nat.zero_le _, by simp⟩ id ?_ ?_
  · (refine ⟨?_, ?_, by rfl⟩ <;> repeat' (first | exact trivial | exact ALe.ptr rfl | exact ALe.own rfl | exact ALe.elt rfl | exact BLe.boxD _ _ | exact BLe.row rfl | exact BLe.res | exact ALe.dat (PLe.refl _) | exact CLe.nil | refine And.intro ?_ ?_ | refine ALe.iface ?_ | refine ALe.clo ?_ | refine CLe.cons ?_ ?_ | refine BLe.box ?_ | refine BLe.row ?_ | refine ALe.dat (PLe.of_eq ?_)))
  · rintro ⟨k, hk, hno⟩
    by_cases hlt : k < m.fields.length
    · have hc : decide ((k : Int) < (((pdFs m.fields).length : Nat) : Int)) = true := by rw [hlen]; simpa using hlt
      obtain ⟨f, hf⟩ : ∃ f, m.fields[k]? = some f := ⟨m.fields[k], by simp [hlt]⟩
      have hi : (pdFs m.fields)[((k : Nat) : Int).toNat]? = some (qF f) := by rw [pdFs_at hf, pdF_eq]; rfl
      by_cases hn : f.name = nm
      · have hn' : decide (f.name = nm) = true := by simpa using hn
        rw [firstF_take hf hno hn]
        repeat' (first
    | refine run_seq ?_
    | (refine k_pick rfl ?_; first | refine k_indexAddrD rfl rfl rfl (by first | omega | (dsimp only; omega)) (by assumption) ?_ | refine k_assignD rfl rfl ?_ | refine k_moveD rfl rfl ?_ | refine k_fieldAddrB rfl rfl rfl ?_ | refine k_loadBD rfl rfl rfl (by first | rfl | (simp only [cellsD]; rfl)) ?_ | refine k_bin2B rfl rfl rfl rfl ?_ | refine k_storeB rfl rfl rfl rfl rfl ?_ | refine k_loadD rfl rfl (by first | rfl | (simp only [cellsD]; rfl)) ?_ | refine k_alloc rfl rfl ?_)
    | refine run_opsEnd ?_
    | refine run_region ?_
    | refine run_condT rfl (by first | rfl | assumption) ?_
    | refine run_block ?_
    | refine run_skip ?_
    | refine run_retOk (resOk_cellTmp rfl rfl rfl (by first | rfl | (simp only [cellsD]; rfl)) rfl ?_ ?_)
    | fail)
        all_goals exact PLe.of_eq rfl
      · have hn' : decide (f.name = nm) = false := by simpa using hn
        repeat' (first
    | refine run_seq ?_
    | (refine k_pick rfl ?_; first | refine k_indexAddrD rfl rfl rfl (by first | omega | (dsimp only; omega)) (by assumption) ?_ | refine k_moveD rfl rfl ?_ | refine k_fieldAddrB rfl rfl rfl ?_ | refine k_loadBD rfl rfl rfl (by first | rfl | (simp only [cellsD]; rfl)) ?_ | refine k_bin2B rfl rfl rfl rfl ?_ | refine k_storeB rfl rfl rfl rfl rfl ?_ | refine k_ariI rfl rfl rfl rfl (by first | omega | (dsimp only; omega)) ?_ | refine k_loadD rfl rfl (by first | rfl | (simp only [cellsD]; rfl)) ?_ | refine k_alloc rfl rfl ?_)
    | refine run_opsEnd ?_
    | refine run_region ?_
    | refine run_condT rfl (by first | rfl | assumption) ?_
    | refine run_condF rfl (by first | rfl | assumption) ?_
    | refine run_block ?_
    | refine run_blkEnd ?_
    | refine run_skip ?_
    | fail)
        refine run_again ?_
        refine ⟨⟨k + 1, by omega, ?_⟩, id, by simp only; omega, ?_⟩
        · intro g hg
          rw [List.take_add_one, hf] at hg
          simp only [List.mem_append, Option.toList_some, List.mem_singleton] at hg
          rcases hg with hg | rfl
          · exact hno g hg
          · exact hn
        (refine ⟨?_, ?_, by rfl⟩ <;> repeat' (first | exact trivial | exact ALe.ptr rfl | exact ALe.own rfl | exact ALe.elt rfl | exact BLe.boxD _ _ | exact BLe.row rfl | exact BLe.res | exact ALe.dat (PLe.refl _) | exact CLe.nil | refine And.intro ?_ ?_ | refine ALe.iface ?_ | refine ALe.clo ?_ | refine CLe.cons ?_ ?_ | refine BLe.box ?_ | refine BLe.row ?_ | refine ALe.dat (PLe.of_eq ?_)))
    · have hc : decide ((k : Int) < (((pdFs m.fields).length : Nat) : Int)) = false := by rw [hlen]; simpa using hlt
      have e : firstF m.fields nm = none := firstF_none (by rwa [List.take_of_length_le (by omega)] at hno)
      rw [e]
      repeat' (first
    | refine run_seq ?_
    | (refine k_pick rfl ?_; first | refine k_assignD rfl rfl ?_ | refine k_bin2B rfl rfl rfl rfl ?_ | refine k_storeB rfl rfl rfl rfl rfl ?_ | refine k_build rfl rfl rfl ?_)
    | refine run_opsEnd ?_
    | refine run_region ?_
    | refine run_condF rfl (by first | rfl | assumption) ?_
    | refine run_exit rfl ?_
    | refine run_retOk (resOk_cellTmp rfl rfl rfl (by first | rfl | (simp only [cellsD]; rfl)) rfl ?_ ?_)
    | fail)
      · exact zFdata
      · exact PLe.refl _
/-! ### spec.Resolve, whole -/
def specR (l : List TD) (r : TR) : Option TA := (specN l r.named r.name r.atom).bind fun a => if r.rel = ⟨#[]⟩ then some a else setRel a r.rel
theorem zAdata : PLe (.agg [.val (.string ⟨#[]⟩), .val (.slice none 0 0), .val (.slice none 0 0)]) (qA emptyA) := by
  refine PLe.aggs ⟨PLe.refl _, ?_, ?_, trivial⟩
  · show PLe _ (.sl 8 144 (pdLs [])); simp only [pdLs]; exact PLe.nil _ _
  · show PLe _ (.sl 8 144 (pdMs [])); simp only [pdMs]; exact PLe.nil _ _
theorem specResW_p (l : List TD) (r : TR) : PCall Try.prog 38 [pdSch l, qR r] (.tup [qA ((specR l r).getD emptyA), .val (.bool (specR l r).isSome)]) := by
  obtain ⟨b, n, a, rl⟩ := r
  by_cases h0 : rl = ⟨#[]⟩
  · subst h0
    have := specRes_p l b n a
    rw [show specR l (.mk b n a ⟨#[]⟩) = specN l b n a by simp [specR, TR.named, TR.name, TR.atom, TR.rel]]
    exact this
  have e0 : decide (rl = ⟨#[]⟩) = false := by simpa using h0
  have c := named_p l n
  have key : ∀ w : TA, specN l b n a = some w → PCall Try.prog 38 [pdSch l, qR (.mk b n a rl)] (.tup [qA ((setRel w rl).getD emptyA), .val (.bool (setRel w rl).isSome)]) := by
    intro w hw
    have hc : PCall Try.prog 91 [pdSch l, .val (.string n)] (.tup [qA w, .val (.bool true)]) ∨ b = false ∧ a = w := by
      cases b
      · right; cases hw; exact ⟨rfl, rfl⟩
      · left
        have hw : (firstD l n).map (·.2) = some w := hw
        obtain ⟨d, hd, rfl⟩ := Option.map_eq_some_iff.1 hw
        rw [hd] at c; exact c
    clear c
    obtain ⟨sc, ls, ms⟩ := w
    have hL : (pdLs ls).length = ls.length := pdLs_lenN ls
    have hM : (pdMs ms).length = ms.length := pdMs_lenN ms
    refine pcall_of_run Try.func38 rfl Try.ntmps38 rfl (fun X => ?_)
    cases ms with
    | cons m mr =>
      have em : decide ((0 : Int) < ((pdMs (m :: mr)).length : Int)) = true := by rw [hM]; simp <;> omega
      have hi : (pdMs (m :: mr))[(0 : Int).toNat]? = some (qM m) := by rw [head0M rfl, pdM_eq]; rfl
      have er : qA (.mk sc ls [.mk m.fields m.elem rl]) = .agg [.val (.string sc), .sl 8 144 (pdLs ls), .sl 8 144 [.agg [.sl 8 144 (pdFs m.fields), .val (.bool m.elem.named), .val (.string m.elem.name), .val (.string m.elem.atom.scalar), .sl 8 144 (pdLs m.elem.atom.lists), .sl 8 144 (pdMs m.elem.atom.maps), .val (.string m.elem.rel), .val (.string rl)]]] := by
        simp only [qA, pdMs_eq, List.map_cons, List.map_nil, pdM_eq, TA.scalar, TA.lists, TA.maps, TM.fields, TM.elem, TM.rel]
      rw [show setRel (.mk sc ls (m :: mr)) rl = some (.mk sc ls [.mk m.fields m.elem rl]) from rfl]
      simp only [Option.getD_some, Option.isSome_some]
      rw [er]
      rcases hc with c | ⟨rfl, rfl⟩
      · cases b
        · cases hw
          repeat' (first
    | refine run_seq ?_
    | (refine k_pick rfl ?_; first | refine k_indexAddrD rfl rfl rfl (by first | omega | (dsimp only; omega)) (by assumption) ?_ | refine k_assignD rfl rfl ?_ | refine k_fieldAddrB rfl rfl rfl ?_ | refine k_loadBD rfl rfl rfl (by first | rfl | (simp only [pdSch, cellsD]; rfl)) ?_ | refine k_bin2B rfl rfl rfl rfl ?_ | refine k_boxW rfl rfl rfl (by first | rfl | (simp only [pdSch, cellsD]; rfl)) ?_ | refine k_lenD rfl rfl ?_ | refine k_storeB rfl rfl rfl rfl rfl ?_ | refine k_loadD rfl rfl (by first | rfl | (simp only [pdSch, cellsD]; rfl)) ?_ | refine k_alloc rfl rfl ?_ | refine k_loadBG rfl rfl rfl rfl ?_ | refine k_buildSlice rfl rfl (by kernel_rfl) rfl rfl rfl rfl rfl ?_)
    | refine run_opsEnd ?_
    | refine run_region ?_
    | refine run_condT rfl (by first | rfl | assumption) ?_
    | refine run_condF rfl (by first | rfl | assumption) ?_
    | refine run_skip ?_
    | fail)
          all_goals (refine run_frz (fun _ => false) (fun k => k == 42) ?_; refine run_retOk (resOk_cellTmp rfl rfl rfl rfl rfl ?_ ?_))
          all_goals exact PLe.refl _
        · repeat' (first
    | refine run_seq ?_
    | (refine k_pick rfl ?_; first | refine k_indexAddrD rfl rfl rfl (by first | omega | (dsimp only; omega)) (by assumption) ?_ | refine k_assignD rfl rfl ?_ | refine k_moveD rfl rfl ?_ | refine k_fieldAddrB rfl rfl rfl ?_ | refine k_loadW rfl rfl rfl (by first | rfl | (simp only [pdSch, cellsD]; rfl)) ?_ | refine k_loadBD rfl rfl rfl (by first | rfl | (simp only [pdSch, cellsD]; rfl)) ?_ | refine k_bin2B rfl rfl rfl rfl ?_ | refine k_boxW rfl rfl rfl (by first | rfl | (simp only [pdSch, cellsD]; rfl)) ?_ | refine k_call rfl (by kernel_rfl) rfl (by first | exact c | (simp only [← pdSch]; exact c)) ?_ | refine k_extract rfl rfl rfl ?_ | refine k_lenD rfl rfl ?_ | refine k_not rfl rfl ?_ | refine k_storeB rfl rfl rfl rfl rfl ?_ | refine k_loadD rfl rfl (by first | rfl | (simp only [pdSch, cellsD]; rfl)) ?_ | refine k_alloc rfl rfl ?_ | refine k_loadBG rfl rfl rfl rfl ?_ | refine k_buildSlice rfl rfl (by kernel_rfl) rfl rfl rfl rfl rfl ?_)
    | refine run_opsEnd ?_
    | refine run_region ?_
    | refine run_condT rfl (by first | rfl | assumption) ?_
    | refine run_condF rfl (by first | rfl | assumption) ?_
    | refine run_skip ?_
    | fail)
          all_goals (refine run_frz (fun _ => false) (fun k => k == 42) ?_; refine run_retOk (resOk_cellTmp rfl rfl rfl rfl rfl ?_ ?_))
          all_goals exact PLe.refl _
      · repeat' (first
    | refine run_seq ?_
    | (refine k_pick rfl ?_; first | refine k_indexAddrD rfl rfl rfl (by first | omega | (dsimp only; omega)) (by assumption) ?_ | refine k_assignD rfl rfl ?_ | refine k_fieldAddrB rfl rfl rfl ?_ | refine k_loadBD rfl rfl rfl (by first | rfl | (simp only [pdSch, cellsD]; rfl)) ?_ | refine k_bin2B rfl rfl rfl rfl ?_ | refine k_boxW rfl rfl rfl (by first | rfl | (simp only [pdSch, cellsD]; rfl)) ?_ | refine k_lenD rfl rfl ?_ | refine k_storeB rfl rfl rfl rfl rfl ?_ | refine k_loadD rfl rfl (by first | rfl | (simp only [pdSch, cellsD]; rfl)) ?_ | refine k_alloc rfl rfl ?_ | refine k_loadBG rfl rfl rfl rfl ?_ | refine k_buildSlice rfl rfl (by kernel_rfl) rfl rfl rfl rfl rfl ?_)
    | refine run_opsEnd ?_
    | refine run_region ?_
    | refine run_condT rfl (by first | rfl | assumption) ?_
    | refine run_condF rfl (by first | rfl | assumption) ?_
    | refine run_skip ?_
    | fail)
        all_goals (refine run_frz (fun _ => false) (fun k => k == 42) ?_; refine run_retOk (resOk_cellTmp rfl rfl rfl rfl rfl ?_ ?_))
        all_goals exact PLe.refl _
    | nil =>
      have em : decide ((0 : Int) < ((pdMs []).length : Int)) = false := by rw [hM]; rfl
      cases ls with
      | cons q lr =>
        have el : decide ((0 : Int) < ((pdLs (q :: lr)).length : Int)) = true := by rw [hL]; simp <;> omega
        have hi : (pdLs (q :: lr))[(0 : Int).toNat]? = some (.agg [.val (.bool q.elem.named), .val (.string q.elem.name), .val (.string q.elem.atom.scalar), .sl 8 144 (pdLs q.elem.atom.lists), .sl 8 144 (pdMs q.elem.atom.maps), .val (.string q.elem.rel), .val (.string q.rel), .sl 1 16 (pdS q.keys)]) := by rw [head0L rfl, pdL_eq]
        have er : qA (.mk sc [.mk q.elem rl q.keys] []) = .agg [.val (.string sc), .sl 8 144 [.agg [.val (.bool q.elem.named), .val (.string q.elem.name), .val (.string q.elem.atom.scalar), .sl 8 144 (pdLs q.elem.atom.lists), .sl 8 144 (pdMs q.elem.atom.maps), .val (.string q.elem.rel), .val (.string rl), .sl 1 16 (pdS q.keys)]], .sl 8 144 (pdMs [])] := by
          simp only [qA, pdLs_eq, List.map_cons, List.map_nil, pdL_eq, TA.scalar, TA.lists, TA.maps, TL.keys, TL.elem, TL.rel]
        rw [show setRel (.mk sc (q :: lr) []) rl = some (.mk sc [.mk q.elem rl q.keys] []) from rfl]
        simp only [Option.getD_some, Option.isSome_some]
        rw [er]
        rcases hc with c | ⟨rfl, rfl⟩
        · cases b
          · cases hw
            repeat' (first
    | refine run_seq ?_
    | (refine k_pick rfl ?_; first | refine k_indexAddrD rfl rfl rfl (by first | omega | (dsimp only; omega)) (by assumption) ?_ | refine k_assignD rfl rfl ?_ | refine k_fieldAddrB rfl rfl rfl ?_ | refine k_loadBD rfl rfl rfl (by first | rfl | (simp only [pdSch, cellsD]; rfl)) ?_ | refine k_bin2B rfl rfl rfl rfl ?_ | refine k_boxW rfl rfl rfl (by first | rfl | (simp only [pdSch, cellsD]; rfl)) ?_ | refine k_lenD rfl rfl ?_ | refine k_storeB rfl rfl rfl rfl rfl ?_ | refine k_loadD rfl rfl (by first | rfl | (simp only [pdSch, cellsD]; rfl)) ?_ | refine k_alloc rfl rfl ?_ | refine k_loadBG rfl rfl rfl rfl ?_ | refine k_buildSlice rfl rfl (by kernel_rfl) rfl rfl rfl rfl rfl ?_)
    | refine run_opsEnd ?_
    | refine run_region ?_
    | refine run_condT rfl (by first | rfl | assumption) ?_
    | refine run_condF rfl (by first | rfl | assumption) ?_
    | refine run_skip ?_
    | fail)
            all_goals (refine run_frz (fun _ => false) (fun k => k == 57) ?_; refine run_retOk (resOk_cellTmp rfl rfl rfl rfl rfl ?_ ?_))
            all_goals exact PLe.refl _
          · repeat' (first
    | refine run_seq ?_
    | (refine k_pick rfl ?_; first | refine k_indexAddrD rfl rfl rfl (by first | omega | (dsimp only; omega)) (by assumption) ?_ | refine k_assignD rfl rfl ?_ | refine k_moveD rfl rfl ?_ | refine k_fieldAddrB rfl rfl rfl ?_ | refine k_loadW rfl rfl rfl (by first | rfl | (simp only [pdSch, cellsD]; rfl)) ?_ | refine k_loadBD rfl rfl rfl (by first | rfl | (simp only [pdSch, cellsD]; rfl)) ?_ | refine k_bin2B rfl rfl rfl rfl ?_ | refine k_boxW rfl rfl rfl (by first | rfl | (simp only [pdSch, cellsD]; rfl)) ?_ | refine k_call rfl (by kernel_rfl) rfl (by first | exact c | (simp only [← pdSch]; exact c)) ?_ | refine k_extract rfl rfl rfl ?_ | refine k_lenD rfl rfl ?_ | refine k_not rfl rfl ?_ | refine k_storeB rfl rfl rfl rfl rfl ?_ | refine k_loadD rfl rfl (by first | rfl | (simp only [pdSch, cellsD]; rfl)) ?_ | refine k_alloc rfl rfl ?_ | refine k_loadBG rfl rfl rfl rfl ?_ | refine k_buildSlice rfl rfl (by kernel_rfl) rfl rfl rfl rfl rfl ?_)
    | refine run_opsEnd ?_
    | refine run_region ?_
    | refine run_condT rfl (by first | rfl | assumption) ?_
    | refine run_condF rfl (by first | rfl | assumption) ?_
    | refine run_skip ?_
    | fail)
            all_goals (refine run_frz (fun _ => false) (fun k => k == 57) ?_; refine run_retOk (resOk_cellTmp rfl rfl rfl rfl rfl ?_ ?_))
            all_goals exact PLe.refl _
        · repeat' (first
    | refine run_seq ?_
    | (refine k_pick rfl ?_; first | refine k_indexAddrD rfl rfl rfl (by first | omega | (dsimp only; omega)) (by assumption) ?_ | refine k_assignD rfl rfl ?_ | refine k_fieldAddrB rfl rfl rfl ?_ | refine k_loadBD rfl rfl rfl (by first | rfl | (simp only [pdSch, cellsD]; rfl)) ?_ | refine k_bin2B rfl rfl rfl rfl ?_ | refine k_boxW rfl rfl rfl (by first | rfl | (simp only [pdSch, cellsD]; rfl)) ?_ | refine k_lenD rfl rfl ?_ | refine k_storeB rfl rfl rfl rfl rfl ?_ | refine k_loadD rfl rfl (by first | rfl | (simp only [pdSch, cellsD]; rfl)) ?_ | refine k_alloc rfl rfl ?_ | refine k_loadBG rfl rfl rfl rfl ?_ | refine k_buildSlice rfl rfl (by kernel_rfl) rfl rfl rfl rfl rfl ?_)
    | refine run_opsEnd ?_
    | refine run_region ?_
    | refine run_condT rfl (by first | rfl | assumption) ?_
    | refine run_condF rfl (by first | rfl | assumption) ?_
    | refine run_skip ?_
    | fail)
          all_goals (refine run_frz (fun _ => false) (fun k => k == 57) ?_; refine run_retOk (resOk_cellTmp rfl rfl rfl rfl rfl ?_ ?_))
          all_goals exact PLe.refl _
      | nil =>
        have el : decide ((0 : Int) < ((pdLs []).length : Int)) = false := by rw [hL]; rfl
        rw [show setRel (.mk sc [] []) rl = none from rfl]
        rcases hc with c | ⟨rfl, rfl⟩
        · cases b
          · cases hw
            repeat' (first
    | refine run_seq ?_
    | (refine k_pick rfl ?_; first | refine k_assignD rfl rfl ?_ | refine k_fieldAddrB rfl rfl rfl ?_ | refine k_loadBD rfl rfl rfl (by first | rfl | (simp only [pdSch, cellsD]; rfl)) ?_ | refine k_bin2B rfl rfl rfl rfl ?_ | refine k_boxW rfl rfl rfl (by first | rfl | (simp only [pdSch, cellsD]; rfl)) ?_ | refine k_lenD rfl rfl ?_ | refine k_storeB rfl rfl rfl rfl rfl ?_ | refine k_alloc rfl rfl ?_ | refine k_build rfl rfl rfl ?_)
    | refine run_opsEnd ?_
    | refine run_region ?_
    | refine run_condF rfl (by first | rfl | assumption) ?_
    | refine run_skip ?_
    | refine run_retOk (resOk_cellTmp rfl rfl rfl (by first | rfl | (simp only [pdSch, cellsD]; rfl)) rfl ?_ ?_)
    | fail)
            · exact zAdata
            · exact PLe.refl _
          · repeat' (first
    | refine run_seq ?_
    | (refine k_pick rfl ?_; first | refine k_assignD rfl rfl ?_ | refine k_moveD rfl rfl ?_ | refine k_fieldAddrB rfl rfl rfl ?_ | refine k_loadW rfl rfl rfl (by first | rfl | (simp only [pdSch, cellsD]; rfl)) ?_ | refine k_loadBD rfl rfl rfl (by first | rfl | (simp only [pdSch, cellsD]; rfl)) ?_ | refine k_bin2B rfl rfl rfl rfl ?_ | refine k_boxW rfl rfl rfl (by first | rfl | (simp only [pdSch, cellsD]; rfl)) ?_ | refine k_call rfl (by kernel_rfl) rfl (by first | exact c | (simp only [← pdSch]; exact c)) ?_ | refine k_extract rfl rfl rfl ?_ | refine k_lenD rfl rfl ?_ | refine k_not rfl rfl ?_ | refine k_storeB rfl rfl rfl rfl rfl ?_ | refine k_alloc rfl rfl ?_ | refine k_build rfl rfl rfl ?_)
    | refine run_opsEnd ?_
    | refine run_region ?_
    | refine run_condT rfl (by first | rfl | assumption) ?_
    | refine run_condF rfl (by first | rfl | assumption) ?_
    | refine run_skip ?_
    | refine run_retOk (resOk_cellTmp rfl rfl rfl (by first | rfl | (simp only [pdSch, cellsD]; rfl)) rfl ?_ ?_)
    | fail)
            · exact zAdata
            · exact PLe.refl _
        · repeat' (first
    | refine run_seq ?_
    | (refine k_pick rfl ?_; first | refine k_assignD rfl rfl ?_ | refine k_fieldAddrB rfl rfl rfl ?_ | refine k_loadBD rfl rfl rfl (by first | rfl | (simp only [pdSch, cellsD]; rfl)) ?_ | refine k_bin2B rfl rfl rfl rfl ?_ | refine k_boxW rfl rfl rfl (by first | rfl | (simp only [pdSch, cellsD]; rfl)) ?_ | refine k_lenD rfl rfl ?_ | refine k_storeB rfl rfl rfl rfl rfl ?_ | refine k_alloc rfl rfl ?_ | refine k_build rfl rfl rfl ?_)
    | refine run_opsEnd ?_
    | refine run_region ?_
    | refine run_condF rfl (by first | rfl | assumption) ?_
    | refine run_skip ?_
    | refine run_retOk (resOk_cellTmp rfl rfl rfl (by first | rfl | (simp only [pdSch, cellsD]; rfl)) rfl ?_ ?_)
    | fail)
          · exact zAdata
          · exact PLe.refl _
  cases hw : specN l b n a with
  | some w =>
    rw [show specR l (.mk b n a rl) = setRel w rl by simp [specR, TR.named, TR.name, TR.atom, TR.rel, hw, h0]]
    exact key w hw
  | none =>
    rw [show specR l (.mk b n a rl) = none by simp [specR, TR.named, TR.name, TR.atom, TR.rel, hw]]
    cases b
    · cases hw
    · have hw : (firstD l n).map (·.2) = none := hw
      rw [Option.map_eq_none_iff] at hw
      rw [hw] at c
      simp only [Option.map_none, Option.getD_none, Option.isSome_none] at c ⊢
      refine pcall_of_run Try.func38 rfl Try.ntmps38 rfl (fun X => ?_)
      repeat' (first
    | refine run_seq ?_
    | (refine k_pick rfl ?_; first | refine k_assignD rfl rfl ?_ | refine k_moveD rfl rfl ?_ | refine k_fieldAddrB rfl rfl rfl ?_ | refine k_loadW rfl rfl rfl (by first | rfl | (simp only [pdSch, cellsD]; rfl)) ?_ | refine k_loadBD rfl rfl rfl (by first | rfl | (simp only [pdSch, cellsD]; rfl)) ?_ | refine k_boxW rfl rfl rfl (by first | rfl | (simp only [pdSch, cellsD]; rfl)) ?_ | refine k_call rfl (by kernel_rfl) rfl (by first | exact c | (simp only [← pdSch]; exact c)) ?_ | refine k_extract rfl rfl rfl ?_ | refine k_not rfl rfl ?_ | refine k_storeB rfl rfl rfl rfl rfl ?_ | refine k_alloc rfl rfl ?_ | refine k_build rfl rfl rfl ?_)
    | refine run_opsEnd ?_
    | refine run_region ?_
    | refine run_condT rfl (by first | rfl | assumption) ?_
    | refine run_retOk (resOk_cellTmp rfl rfl rfl (by first | rfl | (simp only [pdSch, cellsD]; rfl)) rfl ?_ ?_)
    | fail)
      · exact zAdata
      · exact PLe.refl _
end Go.Proofs.Ytlghpcokbppkfaa

/- The reference's words on types: which are well formed. -/
set_option linter.unusedVariables false
namespace Go.Proofs.Ytlghpcokbppkfaa
open Go.RowKit
set_option linter.unusedSimpArgs false
set_option maxRecDepth 10000
set_option maxHeartbeats 4000000

/-! ### The words -/
def keyF (S : List TD) (m : TM) (k : ByteArray) : Bool := match firstF m.fields k with
  | none => false
  | some f => match specR S f.type with
    | none => false
    | some a => decide (partsN a = 1) && decide (a.scalar ≠ ⟨#[]⟩) && (match f.dflt with
      | [] => true
      | x :: _ => decide (x.kind ≠ 0) && fitsB a.scalar x)
def itemsF (S : List TD) (e : TR) (ks : List ByteArray) : Bool := match specR S e with
  | none => false
  | some a => decide (partsN a = 1) && (if ks = [] then decide (a.scalar ≠ ⟨#[]⟩) else match a.maps with
    | [] => false
    | m :: _ => decide ks.Nodup && ks.all (keyF S m))
def okSc (s : ByteArray) : Bool := decide (s = ⟨#[]⟩) || decide (s = sNum) || decide (s = sStr) || decide (s = sBoo) || decide (s = sUnt)
def okMR (s : ByteArray) : Bool := decide (s = ⟨#[]⟩) || decide (s = sSep) || decide (s = sAto)
def refOk (S : List TD) (r : TR) : Bool := match specR S r with
  | none => false
  | some a => decide (partsN a ≠ 0) && (decide (r.rel = ⟨#[]⟩) || (decide (partsN a = 1) && (match a.maps, a.lists with
    | _ :: _, _ => decide (r.rel = sSep) || decide (r.rel = sAto)
    | [], q :: _ => decide (r.rel = sAto) || (decide (r.rel = sAsc) && itemsF S q.elem q.keys)
    | [], [] => false)))
theorem keyF_p (S : List TD) (m : TM) (k : ByteArray) : PCall Try.prog 154 [pdSch S, qM m, .val (.string k)] (.val (.bool (keyF S m k))) := by
  have c1 := findF_p m k
  refine pcall_of_run Try.func154 rfl Try.ntmps154 rfl (fun X => ?_)
  unfold keyF
  cases hf : firstF m.fields k with
  | none =>
    rw [hf] at c1
    simp only [Option.getD_none, Option.isSome_none] at c1
    repeat' (first
    | refine run_seq ?_
    | (refine k_pick rfl ?_; first | refine k_assignD rfl rfl ?_ | refine k_moveD rfl rfl ?_ | refine k_loadW rfl rfl rfl (by first | rfl | (simp only [cellsD]; rfl)) ?_ | refine k_boxW rfl rfl rfl (by first | rfl | (simp only [cellsD]; rfl)) ?_ | refine k_call rfl (by kernel_rfl) rfl (by first | exact c1) ?_ | refine k_extract rfl rfl rfl ?_ | refine k_not rfl rfl ?_ | refine k_storeB rfl rfl rfl rfl rfl ?_ | refine k_alloc rfl rfl ?_)
    | refine run_opsEnd ?_
    | refine run_region ?_
    | refine run_condT rfl (by first | rfl | assumption) ?_
    | refine run_retOk (resOk_tmp rfl rfl ?_)
    | fail)
    all_goals exact PLe.refl _
  | some f =>
    rw [hf] at c1
    simp only [Option.getD_some, Option.isSome_some] at c1
    have c2 := specResW_p S f.type
    simp only
    cases hr : specR S f.type with
    | none =>
      rw [hr] at c2
      simp only [Option.getD_none, Option.isSome_none] at c2
      repeat' (first
    | refine run_seq ?_
    | (refine k_pick rfl ?_; first | refine k_assignD rfl rfl ?_ | refine k_moveD rfl rfl ?_ | refine k_fieldAddrB rfl rfl rfl ?_ | refine k_loadW rfl rfl rfl (by first | rfl | (simp only [cellsD]; rfl)) ?_ | refine k_loadBD rfl rfl rfl (by first | rfl | (simp only [cellsD]; rfl)) ?_ | refine k_pickT rfl rfl (by first | rfl | assumption) rfl ?_ | refine k_boxW rfl rfl rfl (by first | rfl | (simp only [cellsD]; rfl)) ?_ | refine k_call rfl (by kernel_rfl) rfl (by first | exact c1 | exact c2) ?_ | refine k_extract rfl rfl rfl ?_ | refine k_not rfl rfl ?_ | refine k_storeB rfl rfl rfl rfl rfl ?_ | refine k_alloc rfl rfl ?_)
    | refine run_opsEnd ?_
    | refine run_region ?_
    | refine run_condT rfl (by first | rfl | assumption) ?_
    | refine run_condF rfl (by first | rfl | assumption) ?_
    | refine k_guardNF rfl rfl (by first | rfl | assumption) rfl ?_
    | refine run_skip ?_
    | refine run_retOk (resOk_tmp rfl rfl ?_)
    | fail)
      all_goals exact PLe.refl _
    | some a =>
      rw [hr] at c2
      simp only [Option.getD_some, Option.isSome_some] at c2
      simp only
      have c3 := parts_p a
      cases hd : f.dflt with
      | nil =>
        have hl : decide (((pdVs f.dflt).length : Int) = 0) = true := by rw [hd]; simp [pdVs]
        repeat' (first
    | refine run_seq ?_
    | (refine k_pick rfl ?_; first | refine k_assignD rfl rfl ?_ | refine k_moveD rfl rfl ?_ | refine k_fieldAddrB rfl rfl rfl ?_ | refine k_loadW rfl rfl rfl (by first | rfl | (simp only [cellsD]; rfl)) ?_ | refine k_loadBD rfl rfl rfl (by first | rfl | (simp only [cellsD]; rfl)) ?_ | refine k_pickT rfl rfl (by first | rfl | assumption) rfl ?_ | refine k_pickF rfl rfl (by first | rfl | assumption) rfl ?_ | refine k_boxW rfl rfl rfl (by first | rfl | (simp only [cellsD]; rfl)) ?_ | refine k_call rfl (by kernel_rfl) rfl (by first | exact c1 | exact c2 | exact c3) ?_ | refine k_extract rfl rfl rfl ?_ | refine k_not rfl rfl ?_ | refine k_storeB rfl rfl rfl rfl rfl ?_ | refine k_alloc rfl rfl ?_)
    | refine run_opsEnd ?_
    | refine run_region ?_
    | refine run_condT rfl (by first | rfl | assumption) ?_
    | refine run_condF rfl (by first | rfl | assumption) ?_
    | refine run_cond rfl (fun h => ?_) (fun h => ?_)
    | (refine k_guardY rfl rfl (by first | rfl | assumption) ?_; first | refine k_loadBD rfl rfl rfl (by first | rfl | (simp only [cellsD]; rfl)) ?_ | refine k_bin2B rfl rfl rfl rfl ?_ | refine k_call rfl (by kernel_rfl) rfl (by first | exact c1 | exact c2 | exact c3) ?_)
    | refine k_guardNF rfl rfl (by first | rfl | assumption) rfl ?_
    | refine k_guardF rfl rfl rfl (fun h => ?_) (fun h => ?_)
    | refine run_skip ?_
    | refine run_retOk (resOk_tmp rfl rfl ?_)
    | (refine k_fieldAddrB rfl rfl rfl ?_)
    | refine run_drawC (by kernel_rfl) ?_
    | refine c_nil (And.intro (by kernel_rfl) ?_)
    | refine c_pick (d_assignD rfl rfl) ?_
    | refine c_pick (d_moveD rfl rfl) ?_
    | refine c_pick (d_fieldAddrB rfl rfl rfl) ?_
    | refine c_pick (d_loadBD rfl rfl rfl (by first | rfl | (simp only [cellsD]; rfl))) ?_
    | refine c_pick (d_bin2B rfl rfl rfl rfl) ?_
    | refine c_pick (d_pickT rfl rfl (by first | rfl | assumption) rfl) ?_
    | refine c_pick (d_lenD rfl rfl) ?_
    | refine c_passU rfl rfl ?_
    | refine c_passF rfl (by first | rfl | assumption) rfl ?_
    | fail)
        all_goals (refine PLe.bool ?_; simp_all <;> omega)
      | cons x xr =>
        have hl : decide (((pdVs f.dflt).length : Int) = 0) = false := by rw [hd]; unfold pdVs; simp; omega
        have hi : (pdVs f.dflt)[(0 : Int).toNat]? = some (pdV x) := head0V hd
        have c4 := fitsB_p a.scalar x
        by_cases hk : x.kind = 0
        · have hk0 : decide (x.kind ≠ 0) = false := by simpa using hk
          repeat' (first
    | refine run_seq ?_
    | (refine k_pick rfl ?_; first | refine k_assignD rfl rfl ?_ | refine k_moveD rfl rfl ?_ | refine k_fieldAddrB rfl rfl rfl ?_ | refine k_loadW rfl rfl rfl (by first | rfl | (simp only [pdV_eq, cellsD]; rfl)) ?_ | refine k_loadBD rfl rfl rfl (by first | rfl | (simp only [pdV_eq, cellsD]; rfl)) ?_ | refine k_pickT rfl rfl (by first | rfl | assumption) rfl ?_ | refine k_pickF rfl rfl (by first | rfl | assumption) rfl ?_ | refine k_boxW rfl rfl rfl (by first | rfl | (simp only [pdV_eq, cellsD]; rfl)) ?_ | refine k_call rfl (by kernel_rfl) rfl (by first | exact c1 | (simp only [← pdV_eq]; exact c1) | exact c2 | (simp only [← pdV_eq]; exact c2) | exact c3 | (simp only [← pdV_eq]; exact c3)) ?_ | refine k_extract rfl rfl rfl ?_ | refine k_not rfl rfl ?_ | refine k_storeB rfl rfl rfl rfl rfl ?_ | refine k_alloc rfl rfl ?_)
    | refine run_opsEnd ?_
    | refine run_region ?_
    | refine run_condT rfl (by first | rfl | assumption) ?_
    | refine run_condF rfl (by first | rfl | assumption) ?_
    | refine run_cond rfl (fun h => ?_) (fun h => ?_)
    | (refine k_guardY rfl rfl (by first | rfl | assumption) ?_; first | refine k_loadBD rfl rfl rfl (by first | rfl | (simp only [pdV_eq, cellsD]; rfl)) ?_ | refine k_bin2B rfl rfl rfl rfl ?_ | refine k_call rfl (by kernel_rfl) rfl (by first | exact c1 | (simp only [← pdV_eq]; exact c1) | exact c2 | (simp only [← pdV_eq]; exact c2) | exact c3 | (simp only [← pdV_eq]; exact c3)) ?_)
    | refine k_guardNF rfl rfl (by first | rfl | assumption) rfl ?_
    | refine k_guardF rfl rfl rfl (fun h => ?_) (fun h => ?_)
    | refine run_skip ?_
    | refine run_retOk (resOk_tmp rfl rfl ?_)
    | (refine k_fieldAddrB rfl rfl rfl ?_)
    | refine run_drawC (by kernel_rfl) ?_
    | refine c_nil (And.intro (by kernel_rfl) ?_)
    | refine c_pick (d_assignD rfl rfl) ?_
    | refine c_pick (d_moveD rfl rfl) ?_
    | refine c_pick (d_fieldAddrB rfl rfl rfl) ?_
    | refine c_pick (d_loadBD rfl rfl rfl (by first | rfl | (simp only [pdV_eq, cellsD]; rfl))) ?_
    | refine c_pick (d_bin2B rfl rfl rfl rfl) ?_
    | refine c_pick (d_pickF rfl rfl (by first | rfl | assumption) rfl) ?_
    | refine c_pick (d_lenD rfl rfl) ?_
    | refine c_passT rfl (by first | rfl | assumption) rfl ?_
    | refine c_pickY rfl (by first | rfl | assumption) (d_indexAddrD rfl rfl rfl (by omega) (by assumption)) ?_
    | refine c_pickY rfl (by first | rfl | assumption) (d_moveD rfl rfl) ?_
    | refine c_pickY rfl (by first | rfl | assumption) (d_fieldAddrB rfl rfl rfl) ?_
    | refine c_pickY rfl (by first | rfl | assumption) (d_loadBD rfl rfl rfl (by first | rfl | (simp only [pdV_eq, cellsD]; rfl))) ?_
    | refine c_pickY rfl (by first | rfl | assumption) (d_bin2B rfl rfl rfl rfl) ?_
    | refine c_pickY rfl (by first | rfl | assumption) (d_pickF rfl rfl (by first | rfl | assumption) rfl) ?_
    | refine c_pickY rfl (by first | rfl | assumption) (d_fieldAddrD rfl rfl (by first | rfl | exact pdV_eq _) rfl (by first | rfl | (simp only [pdV_eq, cellsD]; rfl))) ?_
    | refine c_pickY rfl (by first | rfl | assumption) (d_loadD rfl rfl (by first | rfl | (simp only [pdV_eq, cellsD]; rfl))) ?_
    | fail)
          all_goals (refine PLe.bool ?_; simp_all <;> omega)
        · have hk0 : decide (x.kind ≠ 0) = true := by simpa using hk
          repeat' (first
    | refine run_seq ?_
    | (refine k_pick rfl ?_; first | refine k_assignD rfl rfl ?_ | refine k_moveD rfl rfl ?_ | refine k_fieldAddrB rfl rfl rfl ?_ | refine k_loadW rfl rfl rfl (by first | rfl | (simp only [pdV_eq, cellsD]; rfl)) ?_ | refine k_loadBD rfl rfl rfl (by first | rfl | (simp only [pdV_eq, cellsD]; rfl)) ?_ | refine k_pickT rfl rfl (by first | rfl | assumption) rfl ?_ | refine k_pickF rfl rfl (by first | rfl | assumption) rfl ?_ | refine k_boxW rfl rfl rfl (by first | rfl | (simp only [pdV_eq, cellsD]; rfl)) ?_ | refine k_call rfl (by kernel_rfl) rfl (by first | exact c1 | (simp only [← pdV_eq]; exact c1) | exact c2 | (simp only [← pdV_eq]; exact c2) | exact c3 | (simp only [← pdV_eq]; exact c3) | exact c4 | (simp only [← pdV_eq]; exact c4)) ?_ | refine k_extract rfl rfl rfl ?_ | refine k_not rfl rfl ?_ | refine k_storeB rfl rfl rfl rfl rfl ?_ | refine k_alloc rfl rfl ?_)
    | refine run_opsEnd ?_
    | refine run_region ?_
    | refine run_condT rfl (by first | rfl | assumption) ?_
    | refine run_condF rfl (by first | rfl | assumption) ?_
    | refine run_cond rfl (fun h => ?_) (fun h => ?_)
    | (refine k_guardY rfl rfl (by first | rfl | assumption) ?_; first | refine k_loadBD rfl rfl rfl (by first | rfl | (simp only [pdV_eq, cellsD]; rfl)) ?_ | refine k_bin2B rfl rfl rfl rfl ?_ | refine k_call rfl (by kernel_rfl) rfl (by first | exact c1 | (simp only [← pdV_eq]; exact c1) | exact c2 | (simp only [← pdV_eq]; exact c2) | exact c3 | (simp only [← pdV_eq]; exact c3) | exact c4 | (simp only [← pdV_eq]; exact c4)) ?_)
    | refine k_guardNF rfl rfl (by first | rfl | assumption) rfl ?_
    | refine k_guardF rfl rfl rfl (fun h => ?_) (fun h => ?_)
    | refine run_skip ?_
    | refine run_retOk (resOk_tmp rfl rfl ?_)
    | (refine k_fieldAddrB rfl rfl rfl ?_)
    | refine run_drawC (by kernel_rfl) ?_
    | refine c_nil (And.intro (by kernel_rfl) ?_)
    | refine c_pick (d_assignD rfl rfl) ?_
    | refine c_pick (d_moveD rfl rfl) ?_
    | refine c_pick (d_fieldAddrB rfl rfl rfl) ?_
    | refine c_pick (d_loadBD rfl rfl rfl (by first | rfl | (simp only [pdV_eq, cellsD]; rfl))) ?_
    | refine c_pick (d_bin2B rfl rfl rfl rfl) ?_
    | refine c_pick (d_pickF rfl rfl (by first | rfl | assumption) rfl) ?_
    | refine c_pick (d_lenD rfl rfl) ?_
    | refine c_pickY rfl (by first | rfl | assumption) (d_indexAddrD rfl rfl rfl (by omega) (by assumption)) ?_
    | refine c_pickY rfl (by first | rfl | assumption) (d_moveD rfl rfl) ?_
    | refine c_pickY rfl (by first | rfl | assumption) (d_fieldAddrB rfl rfl rfl) ?_
    | refine c_pickY rfl (by first | rfl | assumption) (d_loadBD rfl rfl rfl (by first | rfl | (simp only [pdV_eq, cellsD]; rfl))) ?_
    | refine c_pickY rfl (by first | rfl | assumption) (d_bin2B rfl rfl rfl rfl) ?_
    | refine c_pickY rfl (by first | rfl | assumption) (d_pickT rfl rfl (by first | rfl | assumption) rfl) ?_
    | refine c_pickY rfl (by first | rfl | assumption) (d_call rfl (by kernel_rfl) rfl (by first | exact c1 | (simp only [← pdV_eq]; exact c1) | exact c2 | (simp only [← pdV_eq]; exact c2) | exact c3 | (simp only [← pdV_eq]; exact c3) | exact c4 | (simp only [← pdV_eq]; exact c4))) ?_
    | refine c_pickY rfl (by first | rfl | assumption) (d_fieldAddrD rfl rfl (by first | rfl | exact pdV_eq _) rfl (by first | rfl | (simp only [pdV_eq, cellsD]; rfl))) ?_
    | refine c_pickY rfl (by first | rfl | assumption) (d_loadD rfl rfl (by first | rfl | (simp only [pdV_eq, cellsD]; rfl))) ?_
    | fail)
          all_goals (refine PLe.bool ?_; simp_all <;> omega)
/-! ### itemsFormed -/
def qL (x : TL) : PD := .agg [.val (.bool x.elem.named), .val (.string x.elem.name), .val (.string x.elem.atom.scalar), .sl 8 144 (pdLs x.elem.atom.lists), .sl 8 144 (pdMs x.elem.atom.maps), .val (.string x.elem.rel), .val (.string x.rel), .sl 1 16 (pdS x.keys)]
/-- One more item that is none of those before it. -/
theorem nodup_more {β : Type} {l : List β} {f : β → ByteArray} {k : Nat} {x : β} (hx : l[k]? = some x) (h : ((l.take k).map f).Nodup) (hn : ∀ g ∈ l.take k, f g ≠ f x) : ((l.take (k + 1)).map f).Nodup := by
  rw [List.take_add_one, hx]
  simp only [Option.toList_some, List.map_append, List.map_cons, List.map_nil]
  refine List.nodup_append.2 ⟨h, by simp, fun a ha b hb => ?_⟩
  simp only [List.mem_singleton] at hb
  subst hb
  obtain ⟨g, hg, rfl⟩ := List.mem_map.1 ha
  exact hn g hg
theorem nodup_not {β : Type} {l : List β} {f : β → ByteArray} {k j : Nat} {x y : β} (hx : l[k]? = some x) (hy : l[j]? = some y) (hj : j < k) (e : f y = f x) : ¬ (l.map f).Nodup := fun h => by
  have h1 : (l.map f)[j]? = some (f y) := by simp [hy]
  have h2 : (l.map f)[k]? = some (f x) := by simp [hx]
  have hk : k < (l.map f).length := (List.getElem?_eq_some_iff.1 h2).1
  have := (List.getElem?_inj (by omega) h (i := j) (j := k)).1 (by rw [h1, h2, e])
  omega
theorem mem_more {β : Type} {l : List β} {p : β → Prop} {k : Nat} {x : β} (hx : l[k]? = some x) (h : ∀ g ∈ l.take k, p g) (hp : p x) : ∀ g ∈ l.take (k + 1), p g := by
  rw [List.take_add_one, hx]
  intro g hg
  simp only [List.mem_append, Option.toList_some, List.mem_singleton] at hg
  rcases hg with hg | rfl
  · exact h g hg
  · exact hp
theorem itemsF_p (S : List TD) (q : TL) : PCall Try.prog 145 [pdSch S, qL q] (.val (.bool (itemsF S q.elem q.keys))) := by
  refine pcall_fits fun hfit => ?_
  have hlen := pdS_len q.keys
  have hb1 := ((show Fits (qL q) from hfit (qL q) (by simp)).aggAt 7 rfl).sl.1
  rw [hlen] at hb1
  have c1 := specResW_p S q.elem
  have c3 := fun m k => keyF_p S m k
  refine pcall_of_run Try.func145 rfl Try.ntmps145 rfl (fun X => ?_)
  unfold itemsF
  cases hr : specR S q.elem with
  | none =>
    rw [hr] at c1
    simp only [Option.getD_none, Option.isSome_none] at c1
    repeat' (first
    | refine run_seq ?_
    | (refine k_pick rfl ?_; first | refine k_assignD rfl rfl ?_ | refine k_moveD rfl rfl ?_ | refine k_fieldAddrB rfl rfl rfl ?_ | refine k_loadW rfl rfl rfl (by first | rfl | (simp only [cellsD]; rfl)) ?_ | refine k_loadBD rfl rfl rfl (by first | rfl | (simp only [cellsD]; rfl)) ?_ | refine k_pickT rfl rfl (by first | rfl | assumption) rfl ?_ | refine k_boxW rfl rfl rfl (by first | rfl | (simp only [cellsD]; rfl)) ?_ | refine k_call rfl (by kernel_rfl) rfl (by first | exact c1) ?_ | refine k_extract rfl rfl rfl ?_ | refine k_not rfl rfl ?_ | refine k_storeB rfl rfl rfl rfl rfl ?_ | refine k_alloc rfl rfl ?_)
    | refine run_opsEnd ?_
    | refine run_region ?_
    | refine run_condT rfl (by first | rfl | assumption) ?_
    | refine k_guardNF rfl rfl (by first | rfl | assumption) rfl ?_
    | refine run_retOk (resOk_tmp rfl rfl ?_)
    | fail)
    all_goals exact PLe.refl _
  | some a =>
    rw [hr] at c1
    simp only [Option.getD_some, Option.isSome_some] at c1
    have c2 := parts_p a
    by_cases hp : partsN a = 1
    case neg =>
      have hp0 : decide (((partsN a : Nat) : Int) ≠ 1) = true := by simp; omega
      repeat' (first
    | refine run_seq ?_
    | (refine k_pick rfl ?_; first | refine k_assignD rfl rfl ?_ | refine k_moveD rfl rfl ?_ | refine k_fieldAddrB rfl rfl rfl ?_ | refine k_loadW rfl rfl rfl (by first | rfl | (simp only [cellsD]; rfl)) ?_ | refine k_loadBD rfl rfl rfl (by first | rfl | (simp only [cellsD]; rfl)) ?_ | refine k_pickF rfl rfl (by first | rfl | assumption) rfl ?_ | refine k_boxW rfl rfl rfl (by first | rfl | (simp only [cellsD]; rfl)) ?_ | refine k_call rfl (by kernel_rfl) rfl (by first | exact c1 | exact c2) ?_ | refine k_extract rfl rfl rfl ?_ | refine k_not rfl rfl ?_ | refine k_storeB rfl rfl rfl rfl rfl ?_ | refine k_alloc rfl rfl ?_)
    | refine run_opsEnd ?_
    | refine run_region ?_
    | refine run_condT rfl (by first | rfl | assumption) ?_
    | (refine k_guardY rfl rfl (by first | rfl | assumption) ?_; first | refine k_loadBD rfl rfl rfl (by first | rfl | (simp only [cellsD]; rfl)) ?_ | refine k_bin2B rfl rfl rfl rfl ?_ | refine k_call rfl (by kernel_rfl) rfl (by first | exact c1 | exact c2) ?_)
    | refine run_retOk (resOk_tmp rfl rfl ?_)
    | fail)
      all_goals exact PLe.of_eq (by simp [hp])
    have hp0 : decide (((partsN a : Nat) : Int) ≠ 1) = false := by simp; omega
    by_cases hk : q.keys = []
    case pos =>
      have hk0 : decide (((pdS q.keys).length : Int) = 0) = true := by rw [hk]; rfl
      repeat' (first
    | refine run_seq ?_
    | (refine k_pick rfl ?_; first | refine k_assignD rfl rfl ?_ | refine k_moveD rfl rfl ?_ | refine k_fieldAddrB rfl rfl rfl ?_ | refine k_loadW rfl rfl rfl (by first | rfl | (simp only [cellsD]; rfl)) ?_ | refine k_loadBD rfl rfl rfl (by first | rfl | (simp only [cellsD]; rfl)) ?_ | refine k_bin2B rfl rfl rfl rfl ?_ | refine k_pickF rfl rfl (by first | rfl | assumption) rfl ?_ | refine k_boxW rfl rfl rfl (by first | rfl | (simp only [cellsD]; rfl)) ?_ | refine k_call rfl (by kernel_rfl) rfl (by first | exact c1 | exact c2) ?_ | refine k_extract rfl rfl rfl ?_ | refine k_lenD rfl rfl ?_ | refine k_not rfl rfl ?_ | refine k_storeB rfl rfl rfl rfl rfl ?_ | refine k_alloc rfl rfl ?_)
    | refine run_opsEnd ?_
    | refine run_region ?_
    | refine run_condT rfl (by first | rfl | assumption) ?_
    | refine run_condF rfl (by first | rfl | assumption) ?_
    | (refine k_guardY rfl rfl (by first | rfl | assumption) ?_; first | refine k_loadBD rfl rfl rfl (by first | rfl | (simp only [cellsD]; rfl)) ?_ | refine k_bin2B rfl rfl rfl rfl ?_ | refine k_call rfl (by kernel_rfl) rfl (by first | exact c1 | exact c2) ?_)
    | refine run_skip ?_
    | refine run_retOk (resOk_tmp rfl rfl ?_)
    | fail)
      all_goals exact PLe.of_eq (by simp [hp, hk])
    have hk0 : decide (((pdS q.keys).length : Int) = 0) = false := by
      rw [hlen]
      have : q.keys.length ≠ 0 := by simpa using hk
      simp; omega
    cases hm : a.maps with
    | nil =>
      have hm0 : decide (((pdMs a.maps).length : Int) = 0) = true := by rw [hm]; simp [pdMs]
      repeat' (first
    | refine run_seq ?_
    | (refine k_pick rfl ?_; first | refine k_assignD rfl rfl ?_ | refine k_moveD rfl rfl ?_ | refine k_fieldAddrB rfl rfl rfl ?_ | refine k_loadW rfl rfl rfl (by first | rfl | (simp only [cellsD]; rfl)) ?_ | refine k_loadBD rfl rfl rfl (by first | rfl | (simp only [cellsD]; rfl)) ?_ | refine k_bin2B rfl rfl rfl rfl ?_ | refine k_pickF rfl rfl (by first | rfl | assumption) rfl ?_ | refine k_boxW rfl rfl rfl (by first | rfl | (simp only [cellsD]; rfl)) ?_ | refine k_call rfl (by kernel_rfl) rfl (by first | exact c1 | exact c2) ?_ | refine k_extract rfl rfl rfl ?_ | refine k_lenD rfl rfl ?_ | refine k_not rfl rfl ?_ | refine k_storeB rfl rfl rfl rfl rfl ?_ | refine k_alloc rfl rfl ?_)
    | refine run_opsEnd ?_
    | refine run_region ?_
    | refine run_condT rfl (by first | rfl | assumption) ?_
    | refine run_condF rfl (by first | rfl | assumption) ?_
    | (refine k_guardY rfl rfl (by first | rfl | assumption) ?_; first | refine k_loadBD rfl rfl rfl (by first | rfl | (simp only [cellsD]; rfl)) ?_ | refine k_bin2B rfl rfl rfl rfl ?_ | refine k_call rfl (by kernel_rfl) rfl (by first | exact c1 | exact c2) ?_)
    | refine run_skip ?_
    | refine run_retOk (resOk_tmp rfl rfl ?_)
    | fail)
      all_goals exact PLe.of_eq (by simp [hp, hk, hm])
    | cons m mr =>
      have hm0 : decide (((pdMs a.maps).length : Int) = 0) = false := by rw [hm]; unfold pdMs; simp; omega
      have hmi : (pdMs a.maps)[(0 : Int).toNat]? = some (qM m) := by rw [hm]; unfold pdMs; rw [pdM_eq]; rfl
      repeat' (first
    | refine run_seq ?_
    | (refine k_pick rfl ?_; first | refine k_assignD rfl rfl ?_ | refine k_moveD rfl rfl ?_ | refine k_fieldAddrB rfl rfl rfl ?_ | refine k_loadW rfl rfl rfl (by first | rfl | (simp only [cellsD]; rfl)) ?_ | refine k_loadBD rfl rfl rfl (by first | rfl | (simp only [cellsD]; rfl)) ?_ | refine k_bin2B rfl rfl rfl rfl ?_ | refine k_pickF rfl rfl (by first | rfl | assumption) rfl ?_ | refine k_boxW rfl rfl rfl (by first | rfl | (simp only [cellsD]; rfl)) ?_ | refine k_call rfl (by kernel_rfl) rfl (by first | exact c1 | exact c2) ?_ | refine k_extract rfl rfl rfl ?_ | refine k_lenD rfl rfl ?_ | refine k_not rfl rfl ?_ | refine k_storeB rfl rfl rfl rfl rfl ?_ | refine k_alloc rfl rfl ?_)
    | refine run_opsEnd ?_
    | refine run_region ?_
    | refine run_condF rfl (by first | rfl | assumption) ?_
    | (refine k_guardY rfl rfl (by first | rfl | assumption) ?_; first | refine k_loadBD rfl rfl rfl (by first | rfl | (simp only [cellsD]; rfl)) ?_ | refine k_bin2B rfl rfl rfl rfl ?_ | refine k_call rfl (by kernel_rfl) rfl (by first | exact c1 | exact c2) ?_)
    | refine run_block ?_
    | refine run_skip ?_
    | fail)
      refine run_loopS (ι := { k : Nat // k ≤ q.keys.length ∧ ((q.keys.take k).map id).Nodup ∧ ∀ g ∈ q.keys.take k, keyF S m g = true })
        (fun k => [(2, .ptr 2 0), (3, .ptr 3 0), (5, .ptr 5 0), (37, .dat (.sl 1 16 (pdS q.keys))), (38, .dat (.val (.int .i64 ((pdS q.keys).length : Nat)))), (39, .dat (.val (.int .i64 (k.1 : Nat))))])
        (fun k => [(2, .box 61 (cellsD (pdSch S))), (3, .box 63 (cellsD (qL q))), (5, .box 41 (cellsD (qA a)))])
        (fun k => q.keys.length - k.1) ⟨0, Nat.zero_le _, by simp, by simp⟩ id ?_ ?_
      · (refine ⟨?_, ?_, by rfl⟩ <;> repeat' (first | exact trivial | exact ALe.ptr rfl | exact ALe.own rfl | exact ALe.elt rfl | exact BLe.boxD _ _ | exact BLe.row rfl | exact BLe.res | exact ALe.dat (PLe.refl _) | exact CLe.nil | refine And.intro ?_ ?_ | refine ALe.iface ?_ | refine ALe.clo ?_ | refine CLe.cons ?_ ?_ | refine BLe.box ?_ | refine BLe.row ?_ | refine ALe.dat (PLe.of_eq ?_)))
      · rintro ⟨k, hkl, hnd, hall⟩
        simp only [hp, hk, hm, decide_true, Bool.true_and, if_false]
        by_cases hlt : k < q.keys.length
        · have hc : decide ((k : Int) < (((pdS q.keys).length : Nat) : Int)) = true := by rw [hlen]; simpa using hlt
          obtain ⟨x, hx⟩ : ∃ x, q.keys[k]? = some x := ⟨q.keys[k], by simp [hlt]⟩
          have hi : (pdS q.keys)[((k : Nat) : Int).toNat]? = some (.val (.string x)) := pdS_at hx
          have hle : k ≤ (pdS q.keys).length := by omega
          have hlt2 : (((pdS q.keys).take k).drop 0).length = k := by simp [hlen]; omega
          repeat' (first
    | refine run_seq ?_
    | (refine k_pick rfl ?_; first | refine k_indexAddrD rfl rfl rfl (by first | omega | (dsimp only; omega)) (by assumption) ?_ | refine k_sliceD (a := 0) (b := k) rfl rfl rfl rfl (Nat.zero_le _) hle ?_ | refine k_assignD rfl rfl ?_ | refine k_moveD rfl rfl ?_ | refine k_fieldAddrB rfl rfl rfl ?_ | refine k_loadBD rfl rfl rfl (by first | rfl | (simp only [cellsD]; rfl)) ?_ | refine k_bin2B rfl rfl rfl rfl ?_ | refine k_lenD rfl rfl ?_ | refine k_loadD rfl rfl (by first | rfl | (simp only [cellsD]; rfl)) ?_)
    | refine run_opsEnd ?_
    | refine run_region ?_
    | refine run_condT rfl (by first | rfl | assumption) ?_
    | refine run_block ?_
    | refine run_skip ?_
    | fail)
          refine run_loopS (ι := { j : Nat // j ≤ k ∧ ∀ g ∈ q.keys.take j, g ≠ x })
            (fun j => [(2, .ptr 2 0), (3, .ptr 3 0), (5, .ptr 5 0), (8, .dat (.val (.string x))), (37, .dat (.sl 1 16 (pdS q.keys))), (38, .dat (.val (.int .i64 ((pdS q.keys).length : Nat)))), (39, .dat (.val (.int .i64 (k : Nat)))), (47, .dat (.sl 1 16 (((pdS q.keys).take k).drop 0))), (48, .dat (.val (.int .i64 ((((pdS q.keys).take k).drop 0).length : Nat)))), (49, .dat (.val (.int .i64 (j.1 : Nat))))])
            (fun j => [(2, .box 61 (cellsD (pdSch S))), (3, .box 63 (cellsD (qL q))), (5, .box 41 (cellsD (qA a)))])
            (fun j => k - j.1) ⟨0, Nat.zero_le _, by simp⟩ id ?_ ?_
          · (refine ⟨?_, ?_, by rfl⟩ <;> repeat' (first | exact trivial | exact ALe.ptr rfl | exact ALe.own rfl | exact ALe.elt rfl | exact BLe.boxD _ _ | exact BLe.row rfl | exact BLe.res | exact ALe.dat (PLe.refl _) | exact CLe.nil | refine And.intro ?_ ?_ | refine ALe.iface ?_ | refine ALe.clo ?_ | refine CLe.cons ?_ ?_ | refine BLe.box ?_ | refine BLe.row ?_ | refine ALe.dat (PLe.of_eq ?_)))
          · rintro ⟨j, hjk, hno⟩
            by_cases hjl : j < k
            · have hcj : decide ((j : Int) < (((((pdS q.keys).take k).drop 0).length : Nat) : Int)) = true := by rw [hlt2]; simpa using hjl
              obtain ⟨y, hy⟩ : ∃ y, q.keys[j]? = some y := ⟨q.keys[j]'(by omega), by simp⟩
              have hij : (((pdS q.keys).take k).drop 0)[((j : Nat) : Int).toNat]? = some (.val (.string y)) := by
                show (((pdS q.keys).take k).drop 0)[j]? = _
                rw [List.drop_zero, List.getElem?_take, if_pos hjl]; exact pdS_at hy
              by_cases hyx : y = x
              · have hyx' : decide (y = x) = true := by simpa using hyx
                have hnn : ¬ q.keys.Nodup := by have := nodup_not (f := id) hx hy hjl hyx; rwa [List.map_id] at this
                repeat' (first
    | refine run_seq ?_
    | (refine k_pick rfl ?_; first | refine k_indexAddrD rfl rfl rfl (by first | omega | (dsimp only; omega)) (by assumption) ?_ | refine k_assignD rfl rfl ?_ | refine k_moveD rfl rfl ?_ | refine k_bin2B rfl rfl rfl rfl ?_ | refine k_loadD rfl rfl (by first | rfl | (simp only [cellsD]; rfl)) ?_)
    | refine run_opsEnd ?_
    | refine run_region ?_
    | refine run_condT rfl (by first | rfl | assumption) ?_
    | refine run_block ?_
    | refine run_skip ?_
    | refine run_retOk (resOk_tmp rfl rfl ?_)
    | fail)
                all_goals exact PLe.of_eq (by simp [hnn])
              · have hyx' : decide (y = x) = false := by simpa using hyx
                repeat' (first
    | refine run_seq ?_
    | (refine k_pick rfl ?_; first | refine k_indexAddrD rfl rfl rfl (by first | omega | (dsimp only; omega)) (by assumption) ?_ | refine k_assignD rfl rfl ?_ | refine k_moveD rfl rfl ?_ | refine k_bin2B rfl rfl rfl rfl ?_ | refine k_ariI rfl rfl rfl rfl (by first | omega | (dsimp only; omega)) ?_ | refine k_loadD rfl rfl (by first | rfl | (simp only [cellsD]; rfl)) ?_)
    | refine run_opsEnd ?_
    | refine run_region ?_
    | refine run_condT rfl (by first | rfl | assumption) ?_
    | refine run_condF rfl (by first | rfl | assumption) ?_
    | refine run_block ?_
    | refine run_blkEnd ?_
    | refine run_skip ?_
    | fail)
                refine run_again ?_
                refine ⟨⟨j + 1, by omega, mem_more hy hno hyx⟩, id, by simp only; omega, ?_⟩
                (refine ⟨?_, ?_, by rfl⟩ <;> repeat' (first | exact trivial | exact ALe.ptr rfl | exact ALe.own rfl | exact ALe.elt rfl | exact BLe.boxD _ _ | exact BLe.row rfl | exact BLe.res | exact ALe.dat (PLe.refl _) | exact CLe.nil | refine And.intro ?_ ?_ | refine ALe.iface ?_ | refine ALe.clo ?_ | refine CLe.cons ?_ ?_ | refine BLe.box ?_ | refine BLe.row ?_ | refine ALe.dat (PLe.of_eq ?_)))
            · have hcj : decide ((j : Int) < (((((pdS q.keys).take k).drop 0).length : Nat) : Int)) = false := by rw [hlt2]; simpa using hjl
              have hjk' : j = k := by omega
              subst hjk'
              have c4 := c3 m x
              repeat' (first
    | refine run_seq ?_
    | (refine k_pick rfl ?_; first | refine k_assignD rfl rfl ?_ | refine k_moveD rfl rfl ?_ | refine k_bin2B rfl rfl rfl rfl ?_ | refine k_ariI rfl rfl rfl rfl (by first | omega | (dsimp only; omega)) ?_)
    | refine run_opsEnd ?_
    | refine run_region ?_
    | refine run_condF rfl (by first | rfl | assumption) ?_
    | refine run_cond rfl (fun h => ?_) (fun h => ?_)
    | refine run_blkEnd ?_
    | refine run_skip ?_
    | refine run_exit rfl ?_
    | refine run_retOk (resOk_tmp rfl rfl ?_)
    | refine run_drawC (by kernel_rfl) ?_
    | refine c_nil (And.intro (by kernel_rfl) ?_)
    | refine c_pick (d_indexAddrD rfl rfl rfl (by first | omega | (dsimp only; omega)) (by assumption)) ?_
    | refine c_pick (d_moveD rfl rfl) ?_
    | refine c_pick (d_fieldAddrB rfl rfl rfl) ?_
    | refine c_pick (d_loadW rfl rfl rfl (by first | rfl | (simp only [cellsD]; rfl))) ?_
    | refine c_pick (d_loadBD rfl rfl rfl (by first | rfl | (simp only [cellsD]; rfl))) ?_
    | refine c_pick (d_call rfl (by kernel_rfl) rfl (by first | exact c4)) ?_
    | refine c_pick (d_not rfl rfl) ?_
    | refine c_pick (d_loadD rfl rfl (by first | rfl | (simp only [cellsD]; rfl))) ?_
    | fail)
              · have e := all_not (p := keyF S m) hx (by simpa using h)
                exact PLe.of_eq (by rw [e]; simp)
              · refine run_again ?_
                refine ⟨⟨j + 1, by omega, nodup_more (f := id) hx hnd hno, mem_more hx hall (by simpa using h)⟩, id, by simp only; omega, ?_⟩
                (refine ⟨?_, ?_, by rfl⟩ <;> repeat' (first | exact trivial | exact ALe.ptr rfl | exact ALe.own rfl | exact ALe.elt rfl | exact BLe.boxD _ _ | exact BLe.row rfl | exact BLe.res | exact ALe.dat (PLe.refl _) | exact CLe.nil | refine And.intro ?_ ?_ | refine ALe.iface ?_ | refine ALe.clo ?_ | refine CLe.cons ?_ ?_ | refine BLe.box ?_ | refine BLe.row ?_ | refine ALe.dat (PLe.of_eq ?_)))
        · have hc : decide ((k : Int) < (((pdS q.keys).length : Nat) : Int)) = false := by rw [hlen]; simpa using hlt
          have hkk : q.keys.take k = q.keys := List.take_of_length_le (by omega)
          rw [hkk, List.map_id] at hnd
          rw [hkk] at hall
          repeat' (first
    | refine run_seq ?_
    | (refine k_pick rfl ?_; first | refine k_assignD rfl rfl ?_ | refine k_bin2B rfl rfl rfl rfl ?_)
    | refine run_opsEnd ?_
    | refine run_region ?_
    | refine run_condF rfl (by first | rfl | assumption) ?_
    | refine run_exit rfl ?_
    | refine run_retOk (resOk_tmp rfl rfl ?_)
    | fail)
          all_goals exact PLe.of_eq (by simp [hnd]; exact hall)
end Go.Proofs.Ytlghpcokbppkfaa

/- The reference words: orderly atoms. -/
set_option linter.unusedVariables false
namespace Go.Proofs.Ytlghpcokbppkfaa
open Go.RowKit
set_option linter.unusedSimpArgs false
set_option maxRecDepth 10000
set_option maxHeartbeats 4000000

mutual
def orA : TA → Bool
  | .mk _ l m => orLs l && orMs m
def orLs : List TL → Bool
  | [] => true
  | q :: r => orL q && orLs r
def orL : TL → Bool
  | .mk e _ _ => orR e
def orMs : List TM → Bool
  | [] => true
  | q :: r => orM q && orMs r
def orM : TM → Bool
  | .mk fs e _ => orFs fs && orR e
def orFs : List TF → Bool
  | [] => true
  | f :: r => orF f && orFs r
def orF : TF → Bool
  | .mk _ t d => ordL d && orR t
def orR : TR → Bool
  | .mk _ _ a _ => orA a
end
theorem orR_eq (r : TR) : orR r = orA r.atom := by cases r; rw [orR]; rfl
theorem orLs_all : ∀ l : List TL, orLs l = l.all (fun q => orA q.elem.atom)
  | [] => by rw [orLs]; rfl
  | .mk e r k :: l => by rw [orLs, orLs_all l, orL, orR_eq]; rfl
theorem orFs_all : ∀ l : List TF, orFs l = l.all (fun f => ordL f.dflt && orA f.type.atom)
  | [] => by rw [orFs]; rfl
  | .mk n t d :: l => by rw [orFs, orFs_all l, orF, orR_eq]; rfl
def orMw (m : TM) : Bool := m.fields.all (fun f => ordL f.dflt && orA f.type.atom) && orA m.elem.atom
theorem orMs_all : ∀ l : List TM, orMs l = l.all orMw
  | [] => by rw [orMs]; rfl
  | .mk f e r :: l => by rw [orMs, orMs_all l, orM, orR_eq, orFs_all]; rfl
theorem orderlyAtom_p (a : TA) (cL : ∀ q ∈ a.lists, PCall Try.prog 122 [qA q.elem.atom] (.val (.bool (orA q.elem.atom))))
    (cM : ∀ m ∈ a.maps, PCall Try.prog 122 [qA m.elem.atom] (.val (.bool (orA m.elem.atom))) ∧ ∀ f ∈ m.fields, PCall Try.prog 122 [qA f.type.atom] (.val (.bool (orA f.type.atom)))) :
    PCall Try.prog 122 [qA a] (.val (.bool (orA a))) := by
  refine pcall_fits fun hfit => ?_
  have hF := (show Fits (pdA a) from by rw [pdA_eq]; exact hfit (qA a) (by simp))
  have hlenL := pdLs_lenN a.lists
  have hlenM := pdMs_lenN a.maps
  have hbL := ((show Fits (qA a) from hfit (qA a) (by simp)).aggAt 1 rfl).sl.1
  have hbM := ((show Fits (qA a) from hfit (qA a) (by simp)).aggAt 2 rfl).sl.1
  rw [hlenL] at hbL
  rw [hlenM] at hbM
  have ew : orA a = (a.lists.all (fun q => orA q.elem.atom) && a.maps.all orMw) := by obtain ⟨s, l, m⟩ := a; rw [orA, orLs_all, orMs_all]; rfl
  rw [ew]
  refine pcall_of_run Try.func122 rfl Try.ntmps122 rfl (fun X => ?_)
  repeat' (first
    | refine run_seq ?_
    | (refine k_pick rfl ?_; first | refine k_assignD rfl rfl ?_ | refine k_moveD rfl rfl ?_ | refine k_fieldAddrB rfl rfl rfl ?_ | refine k_loadBD rfl rfl rfl (by first | rfl | (simp only [cellsD]; rfl)) ?_ | refine k_boxW rfl rfl rfl (by first | rfl | (simp only [cellsD]; rfl)) ?_ | refine k_lenD rfl rfl ?_)
    | refine run_opsEnd ?_
    | refine run_region ?_
    | refine run_block ?_
    | fail)
  refine run_loopS (ι := { k : Nat // k ≤ a.lists.length ∧ ∀ g ∈ a.lists.take k, orA g.elem.atom = true })
    (fun k => [(1, .ptr 1 0), (10, .dat (.sl 8 144 (pdLs a.lists))), (11, .dat (.val (.int .i64 ((pdLs a.lists).length : Nat)))), (12, .dat (.val (.int .i64 (k.1 : Nat))))])
    (fun k => [(1, .box 41 (cellsD (qA a)))])
    (fun k => a.lists.length - k.1) ⟨0, Nat.zero_le _, by simp⟩ id ?_ ?_
  · (refine ⟨?_, ?_, by rfl⟩ <;> repeat' (first | exact trivial | exact ALe.ptr rfl | exact ALe.own rfl | exact ALe.elt rfl | exact BLe.boxD _ _ | exact BLe.row rfl | exact BLe.res | exact ALe.dat (PLe.refl _) | exact CLe.nil | refine And.intro ?_ ?_ | refine ALe.iface ?_ | refine ALe.clo ?_ | refine CLe.cons ?_ ?_ | refine BLe.box ?_ | refine BLe.row ?_ | refine ALe.dat (PLe.of_eq ?_)))
  rintro ⟨k, hkl, hall⟩
  by_cases hlt : k < a.lists.length
  · have hc : decide ((k : Int) < (((pdLs a.lists).length : Nat) : Int)) = true := by rw [hlenL]; simpa using hlt
    obtain ⟨x, hx⟩ : ∃ x, a.lists[k]? = some x := ⟨a.lists[k], by simp [hlt]⟩
    have hi : (pdLs a.lists)[((k : Nat) : Int).toNat]? = some (qL x) := by rw [pdLs_eq]; simp [hx, pdL_eq, qL]
    have c1 := cL x (List.mem_of_getElem? hx)
    cases hw : orA x.elem.atom <;> rw [hw] at c1
    · have e := all_not (p := fun q : TL => orA q.elem.atom) hx hw
      rw [e]
      repeat' (first
    | refine run_seq ?_
    | (refine k_pick rfl ?_; first | refine k_indexAddrD rfl rfl rfl (by first | omega | (dsimp only; omega)) (by assumption) ?_ | refine k_assignD rfl rfl ?_ | refine k_fieldAddrB rfl rfl rfl ?_ | refine k_loadBD rfl rfl rfl (by first | rfl | (simp only [cellsD]; rfl)) ?_ | refine k_bin2B rfl rfl rfl rfl ?_ | refine k_call rfl (by kernel_rfl) rfl (by first | exact c1) ?_ | refine k_not rfl rfl ?_ | refine k_storeB rfl rfl rfl rfl rfl ?_ | refine k_loadD rfl rfl (by first | rfl | (simp only [cellsD]; rfl)) ?_ | refine k_alloc rfl rfl ?_)
    | refine run_opsEnd ?_
    | refine run_region ?_
    | refine run_condT rfl (by first | rfl | assumption) ?_
    | refine run_block ?_
    | refine run_skip ?_
    | refine run_retOk (resOk_tmp rfl rfl ?_)
    | fail)
      all_goals exact PLe.refl _
    · repeat' (first
    | refine run_seq ?_
    | (refine k_pick rfl ?_; first | refine k_indexAddrD rfl rfl rfl (by first | omega | (dsimp only; omega)) (by assumption) ?_ | refine k_moveD rfl rfl ?_ | refine k_fieldAddrB rfl rfl rfl ?_ | refine k_loadBD rfl rfl rfl (by first | rfl | (simp only [cellsD]; rfl)) ?_ | refine k_bin2B rfl rfl rfl rfl ?_ | refine k_call rfl (by kernel_rfl) rfl (by first | exact c1) ?_ | refine k_not rfl rfl ?_ | refine k_storeB rfl rfl rfl rfl rfl ?_ | refine k_ariI rfl rfl rfl rfl (by first | omega | (dsimp only; omega)) ?_ | refine k_loadD rfl rfl (by first | rfl | (simp only [cellsD]; rfl)) ?_ | refine k_alloc rfl rfl ?_)
    | refine run_opsEnd ?_
    | refine run_region ?_
    | refine run_condT rfl (by first | rfl | assumption) ?_
    | refine run_condF rfl (by first | rfl | assumption) ?_
    | refine run_block ?_
    | refine run_blkEnd ?_
    | refine run_skip ?_
    | fail)
      refine run_again ?_
      refine ⟨⟨k + 1, by omega, mem_more (p := fun q : TL => orA q.elem.atom = true) hx hall hw⟩, id, by simp only; omega, ?_⟩
      (refine ⟨?_, ?_, by rfl⟩ <;> repeat' (first | exact trivial | exact ALe.ptr rfl | exact ALe.own rfl | exact ALe.elt rfl | exact BLe.boxD _ _ | exact BLe.row rfl | exact BLe.res | exact ALe.dat (PLe.refl _) | exact CLe.nil | refine And.intro ?_ ?_ | refine ALe.iface ?_ | refine ALe.clo ?_ | refine CLe.cons ?_ ?_ | refine BLe.box ?_ | refine BLe.row ?_ | refine ALe.dat (PLe.of_eq ?_)))
  have hc : decide ((k : Int) < (((pdLs a.lists).length : Nat) : Int)) = false := by rw [hlenL]; simpa using hlt
  have hkk : a.lists.take k = a.lists := List.take_of_length_le (by omega)
  rw [hkk] at hall
  have e1 : (a.lists.all fun q => orA q.elem.atom) = true := by simpa using hall
  rw [e1, Bool.true_and]
  repeat' (first
    | refine run_seq ?_
    | (refine k_pick rfl ?_; first | refine k_moveD rfl rfl ?_ | refine k_fieldAddrB rfl rfl rfl ?_ | refine k_loadBD rfl rfl rfl (by first | rfl | (simp only [cellsD]; rfl)) ?_ | refine k_bin2B rfl rfl rfl rfl ?_ | refine k_lenD rfl rfl ?_)
    | refine run_opsEnd ?_
    | refine run_region ?_
    | refine run_condF rfl (by first | rfl | assumption) ?_
    | refine run_block ?_
    | refine run_exit rfl ?_
    | fail)
  refine run_loopS (ι := { k : Nat // k ≤ a.maps.length ∧ ∀ g ∈ a.maps.take k, orMw g = true })
    (fun k => [(23, .dat (.sl 8 144 (pdMs a.maps))), (24, .dat (.val (.int .i64 ((pdMs a.maps).length : Nat)))), (25, .dat (.val (.int .i64 (k.1 : Nat))))])
    (fun k => [])
    (fun k => a.maps.length - k.1) ⟨0, Nat.zero_le _, by simp⟩ id ?_ ?_
  · (refine ⟨?_, ?_, by rfl⟩ <;> repeat' (first | exact trivial | exact ALe.ptr rfl | exact ALe.own rfl | exact ALe.elt rfl | exact BLe.boxD _ _ | exact BLe.row rfl | exact BLe.res | exact ALe.dat (PLe.refl _) | exact CLe.nil | refine And.intro ?_ ?_ | refine ALe.iface ?_ | refine ALe.clo ?_ | refine CLe.cons ?_ ?_ | refine BLe.box ?_ | refine BLe.row ?_ | refine ALe.dat (PLe.of_eq ?_)))
  rintro ⟨k, hkl, hallM⟩
  by_cases hltM : k < a.maps.length
  · have hc : decide ((k : Int) < (((pdMs a.maps).length : Nat) : Int)) = true := by rw [hlenM]; simpa using hltM
    obtain ⟨m, hx⟩ : ∃ x, a.maps[k]? = some x := ⟨a.maps[k], by simp [hltM]⟩
    have hi : (pdMs a.maps)[((k : Nat) : Int).toNat]? = some (qM m) := by rw [pdMs_eq]; simp [hx, pdM_eq, qM]
    obtain ⟨c1, c2⟩ := cM m (List.mem_of_getElem? hx)
    have hlenF := pdFs_len m.fields
    have hbF := (fits_M ((fits_A hF).2 m (List.mem_of_getElem? hx))).2.1
    repeat' (first
    | refine run_seq ?_
    | (refine k_pick rfl ?_; first | refine k_indexAddrD rfl rfl rfl (by first | omega | (dsimp only; omega)) (by assumption) ?_ | refine k_moveD rfl rfl ?_ | refine k_fieldAddrB rfl rfl rfl ?_ | refine k_loadBD rfl rfl rfl (by first | rfl | (simp only [cellsD]; rfl)) ?_ | refine k_bin2B rfl rfl rfl rfl ?_ | refine k_lenD rfl rfl ?_ | refine k_storeB rfl rfl rfl rfl rfl ?_ | refine k_loadD rfl rfl (by first | rfl | (simp only [cellsD]; rfl)) ?_ | refine k_alloc rfl rfl ?_)
    | refine run_opsEnd ?_
    | refine run_region ?_
    | refine run_condT rfl (by first | rfl | assumption) ?_
    | refine run_block ?_
    | refine run_skip ?_
    | fail)
    refine run_loopS (ι := { j : Nat // j ≤ m.fields.length ∧ ∀ g ∈ m.fields.take j, (ordL g.dflt && orA g.type.atom) = true })
      (fun j => [(6, .ptr 6 0), (23, .dat (.sl 8 144 (pdMs a.maps))), (24, .dat (.val (.int .i64 ((pdMs a.maps).length : Nat)))), (25, .dat (.val (.int .i64 (k : Nat)))), (30, .dat (.sl 8 144 (pdFs m.fields))), (31, .dat (.val (.int .i64 ((pdFs m.fields).length : Nat)))), (32, .dat (.val (.int .i64 (j.1 : Nat))))])
      (fun j => [(6, .box 45 (cellsD (qM m)))])
      (fun j => m.fields.length - j.1) ⟨0, Nat.zero_le _, by simp⟩ id ?_ ?_
    · (refine ⟨?_, ?_, by rfl⟩ <;> repeat' (first | exact trivial | exact ALe.ptr rfl | exact ALe.own rfl | exact ALe.elt rfl | exact BLe.boxD _ _ | exact BLe.row rfl | exact BLe.res | exact ALe.dat (PLe.refl _) | exact CLe.nil | refine And.intro ?_ ?_ | refine ALe.iface ?_ | refine ALe.clo ?_ | refine CLe.cons ?_ ?_ | refine BLe.box ?_ | refine BLe.row ?_ | refine ALe.dat (PLe.of_eq ?_)))
    rintro ⟨j, hjl, hallF⟩
    by_cases hltF : j < m.fields.length
    · have hcj : decide ((j : Int) < (((pdFs m.fields).length : Nat) : Int)) = true := by rw [hlenF]; simpa using hltF
      obtain ⟨y, hy⟩ : ∃ x, m.fields[j]? = some x := ⟨m.fields[j], by simp [hltF]⟩
      have hij : (pdFs m.fields)[((j : Nat) : Int).toNat]? = some (qF y) := by rw [pdFs_at hy, pdF_eq]; rfl
      have c3 := c2 y (List.mem_of_getElem? hy)
      have c4 := ordVals_p y.dflt
      cases ho : ordL y.dflt <;> rw [ho] at c4
      · have e := all_not (p := fun f : TF => ordL f.dflt && orA f.type.atom) hy (by simp [ho])
        have e2 := all_not (p := orMw) hx (by unfold orMw; rw [e]; rfl)
        rw [e2]
        repeat' (first
    | refine run_seq ?_
    | (refine k_pick rfl ?_; first | refine k_indexAddrD rfl rfl rfl (by first | omega | (dsimp only; omega)) (by assumption) ?_ | refine k_assignD rfl rfl ?_ | refine k_moveD rfl rfl ?_ | refine k_fieldAddrB rfl rfl rfl ?_ | refine k_loadBD rfl rfl rfl (by first | rfl | (simp only [cellsD]; rfl)) ?_ | refine k_bin2B rfl rfl rfl rfl ?_ | refine k_pickT rfl rfl (by first | rfl | assumption) rfl ?_ | refine k_call rfl (by kernel_rfl) rfl (by first | exact c3 | exact c4) ?_ | refine k_not rfl rfl ?_ | refine k_storeB rfl rfl rfl rfl rfl ?_ | refine k_loadD rfl rfl (by first | rfl | (simp only [cellsD]; rfl)) ?_ | refine k_alloc rfl rfl ?_)
    | refine run_opsEnd ?_
    | refine run_region ?_
    | refine run_condT rfl (by first | rfl | assumption) ?_
    | refine k_guardNF rfl rfl (by first | rfl | assumption) rfl ?_
    | refine run_block ?_
    | refine run_skip ?_
    | refine run_retOk (resOk_tmp rfl rfl ?_)
    | fail)
        all_goals exact PLe.refl _
      · cases hw : orA y.type.atom <;> rw [hw] at c3
        · have e := all_not (p := fun f : TF => ordL f.dflt && orA f.type.atom) hy (by simp [hw])
          have e2 := all_not (p := orMw) hx (by unfold orMw; rw [e]; rfl)
          rw [e2]
          repeat' (first
    | refine run_seq ?_
    | (refine k_pick rfl ?_; first | refine k_indexAddrD rfl rfl rfl (by first | omega | (dsimp only; omega)) (by assumption) ?_ | refine k_assignD rfl rfl ?_ | refine k_moveD rfl rfl ?_ | refine k_fieldAddrB rfl rfl rfl ?_ | refine k_loadBD rfl rfl rfl (by first | rfl | (simp only [cellsD]; rfl)) ?_ | refine k_bin2B rfl rfl rfl rfl ?_ | refine k_pickF rfl rfl (by first | rfl | assumption) rfl ?_ | refine k_call rfl (by kernel_rfl) rfl (by first | exact c3 | exact c4) ?_ | refine k_not rfl rfl ?_ | refine k_storeB rfl rfl rfl rfl rfl ?_ | refine k_loadD rfl rfl (by first | rfl | (simp only [cellsD]; rfl)) ?_ | refine k_alloc rfl rfl ?_)
    | refine run_opsEnd ?_
    | refine run_region ?_
    | refine run_condT rfl (by first | rfl | assumption) ?_
    | (refine k_guardY rfl rfl (by first | rfl | assumption) ?_; first | refine k_fieldAddrB rfl rfl rfl ?_ | refine k_loadBD rfl rfl rfl (by first | rfl | (simp only [cellsD]; rfl)) ?_ | refine k_call rfl (by kernel_rfl) rfl (by first | exact c3 | exact c4) ?_ | refine k_not rfl rfl ?_)
    | refine run_block ?_
    | refine run_skip ?_
    | refine run_retOk (resOk_tmp rfl rfl ?_)
    | fail)
          all_goals exact PLe.refl _
        · repeat' (first
    | refine run_seq ?_
    | (refine k_pick rfl ?_; first | refine k_indexAddrD rfl rfl rfl (by first | omega | (dsimp only; omega)) (by assumption) ?_ | refine k_moveD rfl rfl ?_ | refine k_fieldAddrB rfl rfl rfl ?_ | refine k_loadBD rfl rfl rfl (by first | rfl | (simp only [cellsD]; rfl)) ?_ | refine k_bin2B rfl rfl rfl rfl ?_ | refine k_pickF rfl rfl (by first | rfl | assumption) rfl ?_ | refine k_call rfl (by kernel_rfl) rfl (by first | exact c3 | exact c4) ?_ | refine k_not rfl rfl ?_ | refine k_storeB rfl rfl rfl rfl rfl ?_ | refine k_ariI rfl rfl rfl rfl (by first | omega | (dsimp only; omega)) ?_ | refine k_loadD rfl rfl (by first | rfl | (simp only [cellsD]; rfl)) ?_ | refine k_alloc rfl rfl ?_)
    | refine run_opsEnd ?_
    | refine run_region ?_
    | refine run_condT rfl (by first | rfl | assumption) ?_
    | refine run_condF rfl (by first | rfl | assumption) ?_
    | (refine k_guardY rfl rfl (by first | rfl | assumption) ?_; first | refine k_fieldAddrB rfl rfl rfl ?_ | refine k_loadBD rfl rfl rfl (by first | rfl | (simp only [cellsD]; rfl)) ?_ | refine k_call rfl (by kernel_rfl) rfl (by first | exact c3 | exact c4) ?_ | refine k_not rfl rfl ?_)
    | refine run_block ?_
    | refine run_blkEnd ?_
    | refine run_skip ?_
    | fail)
          refine run_again ?_
          refine ⟨⟨j + 1, by omega, mem_more (p := fun f : TF => (ordL f.dflt && orA f.type.atom) = true) hy hallF (by simp [ho, hw])⟩, id, by simp only; omega, ?_⟩
          (refine ⟨?_, ?_, by rfl⟩ <;> repeat' (first | exact trivial | exact ALe.ptr rfl | exact ALe.own rfl | exact ALe.elt rfl | exact BLe.boxD _ _ | exact BLe.row rfl | exact BLe.res | exact ALe.dat (PLe.refl _) | exact CLe.nil | refine And.intro ?_ ?_ | refine ALe.iface ?_ | refine ALe.clo ?_ | refine CLe.cons ?_ ?_ | refine BLe.box ?_ | refine BLe.row ?_ | refine ALe.dat (PLe.of_eq ?_)))
    · have hcj : decide ((j : Int) < (((pdFs m.fields).length : Nat) : Int)) = false := by rw [hlenF]; simpa using hltF
      have hjj : m.fields.take j = m.fields := List.take_of_length_le (by omega)
      rw [hjj] at hallF
      have eF : (m.fields.all fun f => ordL f.dflt && orA f.type.atom) = true := List.all_eq_true.2 hallF
      cases hw : orA m.elem.atom <;> rw [hw] at c1
      · have e2 := all_not (p := orMw) hx (by unfold orMw; rw [hw, Bool.and_false])
        rw [e2]
        repeat' (first
    | refine run_seq ?_
    | (refine k_pick rfl ?_; first | refine k_assignD rfl rfl ?_ | refine k_fieldAddrB rfl rfl rfl ?_ | refine k_loadBD rfl rfl rfl (by first | rfl | (simp only [cellsD]; rfl)) ?_ | refine k_bin2B rfl rfl rfl rfl ?_ | refine k_call rfl (by kernel_rfl) rfl (by first | exact c1) ?_ | refine k_not rfl rfl ?_)
    | refine run_opsEnd ?_
    | refine run_region ?_
    | refine run_condT rfl (by first | rfl | assumption) ?_
    | refine run_condF rfl (by first | rfl | assumption) ?_
    | refine run_exit rfl ?_
    | refine run_retOk (resOk_tmp rfl rfl ?_)
    | fail)
        all_goals exact PLe.refl _
      · repeat' (first
    | refine run_seq ?_
    | (refine k_pick rfl ?_; first | refine k_moveD rfl rfl ?_ | refine k_fieldAddrB rfl rfl rfl ?_ | refine k_loadBD rfl rfl rfl (by first | rfl | (simp only [cellsD]; rfl)) ?_ | refine k_bin2B rfl rfl rfl rfl ?_ | refine k_call rfl (by kernel_rfl) rfl (by first | exact c1) ?_ | refine k_not rfl rfl ?_ | refine k_ariI rfl rfl rfl rfl (by first | omega | (dsimp only; omega)) ?_)
    | refine run_opsEnd ?_
    | refine run_region ?_
    | refine run_condF rfl (by first | rfl | assumption) ?_
    | refine run_blkEnd ?_
    | refine run_skip ?_
    | refine run_exit rfl ?_
    | fail)
        refine run_again ?_
        refine ⟨⟨k + 1, by omega, mem_more (p := fun q : TM => orMw q = true) hx hallM (by unfold orMw; rw [eF, hw]; rfl)⟩, id, by simp only; omega, ?_⟩
        (refine ⟨?_, ?_, by rfl⟩ <;> repeat' (first | exact trivial | exact ALe.ptr rfl | exact ALe.own rfl | exact ALe.elt rfl | exact BLe.boxD _ _ | exact BLe.row rfl | exact BLe.res | exact ALe.dat (PLe.refl _) | exact CLe.nil | refine And.intro ?_ ?_ | refine ALe.iface ?_ | refine ALe.clo ?_ | refine CLe.cons ?_ ?_ | refine BLe.box ?_ | refine BLe.row ?_ | refine ALe.dat (PLe.of_eq ?_)))
  · have hc : decide ((k : Int) < (((pdMs a.maps).length : Nat) : Int)) = false := by rw [hlenM]; simpa using hltM
    have hkk : a.maps.take k = a.maps := List.take_of_length_le (by omega)
    rw [hkk] at hallM
    have e1 : a.maps.all orMw = true := List.all_eq_true.2 hallM
    rw [e1]
    repeat' (first
    | refine run_seq ?_
    | (refine k_pick rfl ?_; first | refine k_assignD rfl rfl ?_ | refine k_bin2B rfl rfl rfl rfl ?_)
    | refine run_opsEnd ?_
    | refine run_region ?_
    | refine run_condF rfl (by first | rfl | assumption) ?_
    | refine run_exit rfl ?_
    | refine run_retOk (resOk_tmp rfl rfl ?_)
    | fail)
    all_goals exact PLe.refl _
mutual
theorem orA_c : ∀ a : TA, PCall Try.prog 122 [qA a] (.val (.bool (orA a)))
  | .mk s l m => orderlyAtom_p _ (orLs_c l) (orMs_c m)
theorem orR_c : ∀ x : TR, PCall Try.prog 122 [qA x.atom] (.val (.bool (orA x.atom)))
  | .mk _ _ a _ => orA_c a
theorem orLs_c : ∀ l : List TL, ∀ q ∈ l, PCall Try.prog 122 [qA q.elem.atom] (.val (.bool (orA q.elem.atom)))
  | [], _, h => by cases h
  | x :: r, q, h => by
    rcases List.mem_cons.1 h with h | h
    · rw [h]; exact orL_c x
    · exact orLs_c r q h
theorem orL_c : ∀ x : TL, PCall Try.prog 122 [qA x.elem.atom] (.val (.bool (orA x.elem.atom)))
  | .mk e _ _ => orR_c e
theorem orMs_c : ∀ l : List TM, ∀ m ∈ l, PCall Try.prog 122 [qA m.elem.atom] (.val (.bool (orA m.elem.atom))) ∧ ∀ f ∈ m.fields, PCall Try.prog 122 [qA f.type.atom] (.val (.bool (orA f.type.atom)))
  | [], _, h => by cases h
  | x :: r, q, h => by
    rcases List.mem_cons.1 h with h | h
    · rw [h]; exact orM_c x
    · exact orMs_c r q h
theorem orM_c : ∀ x : TM, PCall Try.prog 122 [qA x.elem.atom] (.val (.bool (orA x.elem.atom))) ∧ ∀ f ∈ x.fields, PCall Try.prog 122 [qA f.type.atom] (.val (.bool (orA f.type.atom)))
  | .mk f e _ => ⟨orR_c e, orFs_c f⟩
theorem orFs_c : ∀ l : List TF, ∀ f ∈ l, PCall Try.prog 122 [qA f.type.atom] (.val (.bool (orA f.type.atom)))
  | [], _, h => by cases h
  | x :: r, q, h => by
    rcases List.mem_cons.1 h with h | h
    · rw [h]; exact orF_c x
    · exact orFs_c r q h
theorem orF_c : ∀ x : TF, PCall Try.prog 122 [qA x.type.atom] (.val (.bool (orA x.type.atom)))
  | .mk _ t _ => orR_c t
end
end Go.Proofs.Ytlghpcokbppkfaa
