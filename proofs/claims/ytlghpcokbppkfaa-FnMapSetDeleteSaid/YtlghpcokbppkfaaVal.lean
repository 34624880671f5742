import Derived.Test.YtlghpcokbppkfaaEngE
set_option linter.unusedVariables false
/- The package's values as data; what their small functions answer. -/
namespace Go.Proofs.Ytlghpcokbppkfaa
open Go.RowKit
set_option linter.unusedSimpArgs false

/-- The allocator; a value; a list, by itself and behind a pointer; a map. -/
def dvA : PD := .iface 199 (.ptr (.agg []))
def dvV (j : JV) : PD := .iface 205 (.ptr (.agg [pdJ j]))
def dvL (l : List JV) : PD := .iface 293 (dvLs l)
def dvLp (l : List JV) : PD := .iface 306 (.ptr (dvLs l))
def dvM (m : List (ByteArray × JV)) : PD := .iface 294 (dvMm m)
/-- The structs among the types of own memory. -/
def gV (t : Nat) : Bool := Nat.beq t 233 || (Nat.beq t 201 || Nat.beq t 308)

instance : MI Try.prog 205 "IsMap" 193 (some 233) := ⟨by kernel_rfl⟩
instance : MI Try.prog 205 "IsList" 192 (some 233) := ⟨by kernel_rfl⟩
instance : MI Try.prog 205 "IsBool" 189 (some 233) := ⟨by kernel_rfl⟩
instance : MI Try.prog 205 "IsInt" 191 (some 233) := ⟨by kernel_rfl⟩
instance : MI Try.prog 205 "IsFloat" 190 (some 233) := ⟨by kernel_rfl⟩
instance : MI Try.prog 205 "IsString" 195 (some 233) := ⟨by kernel_rfl⟩
instance : MI Try.prog 205 "IsNull" 194 (some 233) := ⟨by kernel_rfl⟩
instance : MI Try.prog 205 "AsBool" 181 (some 233) := ⟨by kernel_rfl⟩
instance : MI Try.prog 205 "AsInt" 183 (some 233) := ⟨by kernel_rfl⟩
instance : MI Try.prog 205 "AsFloat" 182 (some 233) := ⟨by kernel_rfl⟩
instance : MI Try.prog 205 "AsString" 188 (some 233) := ⟨by kernel_rfl⟩
instance : MI Try.prog 205 "AsListUsing" 185 (some 233) := ⟨by kernel_rfl⟩
instance : MI Try.prog 205 "AsMapUsing" 187 (some 233) := ⟨by kernel_rfl⟩
instance : MI Try.prog 199 "Free" 180 none := ⟨by kernel_rfl⟩
instance : MI Try.prog 199 "pub-coparcener/pub/structuredmerge/value.allocValueUnstructured" 134 none := ⟨by kernel_rfl⟩
instance : MI Try.prog 199 "pub-coparcener/pub/structuredmerge/value.allocListUnstructuredRange" 231 none := ⟨by kernel_rfl⟩
instance : MI Try.prog 293 "Length" 203 none := ⟨by kernel_rfl⟩
instance : MI Try.prog 306 "Length" 203 (some 293) := ⟨by kernel_rfl⟩
instance : MI Try.prog 293 "RangeUsing" 205 none := ⟨by kernel_rfl⟩
instance : MI Try.prog 306 "RangeUsing" 205 (some 293) := ⟨by kernel_rfl⟩
instance : MI Try.prog 293 "EqualsUsing" 202 none := ⟨by kernel_rfl⟩
instance : MI Try.prog 306 "EqualsUsing" 202 (some 293) := ⟨by kernel_rfl⟩
instance : MI Try.prog 294 "Length" 215 none := ⟨by kernel_rfl⟩
instance : MI Try.prog 294 "EqualsUsing" 209 none := ⟨by kernel_rfl⟩
instance : MI Try.prog 294 "IterateUsing" 214 none := ⟨by kernel_rfl⟩
instance : MI Try.prog 294 "Has" 212 none := ⟨by kernel_rfl⟩
instance : MI Try.prog 294 "GetUsing" 211 none := ⟨by kernel_rfl⟩
instance : MI Try.prog 294 "ZipUsing" 218 none := ⟨by kernel_rfl⟩
instance : MI Try.prog 294 "Empty" 207 none := ⟨by kernel_rfl⟩
instance : MI Try.prog 309 "Next" 230 none := ⟨by kernel_rfl⟩
instance : MI Try.prog 307 "Next" 228 none := ⟨by kernel_rfl⟩
instance : MI Try.prog 309 "Item" 229 none := ⟨by kernel_rfl⟩
instance : MI Try.prog 307 "Item" 227 none := ⟨by kernel_rfl⟩
instance : MTI Try.prog 294 9 20 := ⟨by kernel_rfl, by kernel_rfl, by kernel_rfl⟩
instance : ZI Try.prog 201 [] := ⟨by kernel_rfl, by rfl⟩
instance : PLI Try.prog 201 [] := ⟨by kernel_rfl⟩
instance : ZI Try.prog 308 [] := ⟨by kernel_rfl, by rfl⟩
instance : PLI Try.prog 308 [] := ⟨by kernel_rfl⟩

theorem free_idle : Idle Try.prog 180 2 := by
  refine ⟨by kernel_rfl, fun vs u w hl => ?_⟩
  refine (callsD_of_wp (R := fun e w' => (∃ v, e = .returned v) ∧ Below w.heap.size w w') Try.func180 rfl ?_)
  refine wp_skip ?_
  exact ⟨rfl, _, results_none rfl _ _ _, ⟨_, rfl⟩, Below.refl _ _⟩

/-- The struct around a tree. -/
theorem vu_form {w : World} {F : Nat → Prop} {j : JV} {vs : List Value} (h : Reps w F [.agg [pdJ j]] vs) : ∃ u, vs = [.agg #[u]] ∧ IsJ w F j u := by
  unfold Reps at h
  obtain ⟨v, r', rfl, hv, hr⟩ := h
  unfold Reps at hr
  subst hr
  unfold Rep at hv
  obtain ⟨us, rfl, hu, _⟩ := hv
  unfold Reps at hu
  obtain ⟨u, r'', rfl, hj, hr⟩ := hu
  unfold Reps at hr
  subst hr
  unfold pdJ Rep at hj
  exact ⟨u, rfl, hj.1⟩
theorem IsMap_p (j : JV) : PCall Try.prog 193 [.agg [pdJ j]] (.val (.bool (JV.IsMap j))) := by
  intro w F vs hF hvs
  obtain ⟨u, rfl, hj⟩ := vu_form hvs
  refine (IsMap_any j w u hj.shape).mono ?_
  rintro e w' ⟨rfl, rfl⟩
  exact ⟨_, rfl, (Below.refl _ _).alloc (Nat.le_refl _) _, by unfold Rep; exact ⟨rfl, trivial⟩⟩
theorem IsList_p (j : JV) : PCall Try.prog 192 [.agg [pdJ j]] (.val (.bool (JV.IsList j))) := by
  intro w F vs hF hvs
  obtain ⟨u, rfl, hj⟩ := vu_form hvs
  refine (IsList_any j w u hj.shape).mono ?_
  rintro e w' ⟨rfl, rfl⟩
  exact ⟨_, rfl, (Below.refl _ _).alloc (Nat.le_refl _) _, by unfold Rep; exact ⟨rfl, trivial⟩⟩
theorem IsBool_p (j : JV) : PCall Try.prog 189 [.agg [pdJ j]] (.val (.bool (JV.IsBool j))) := by
  intro w F vs hF hvs
  obtain ⟨u, rfl, hj⟩ := vu_form hvs
  refine (IsBool_any j w u hj.shape).mono ?_
  rintro e w' ⟨rfl, rfl⟩
  exact ⟨_, rfl, (Below.refl _ _).alloc (Nat.le_refl _) _, by unfold Rep; exact ⟨rfl, trivial⟩⟩
theorem IsInt_p (j : JV) : PCall Try.prog 191 [.agg [pdJ j]] (.val (.bool (JV.IsInt j))) := by
  intro w F vs hF hvs
  obtain ⟨u, rfl, hj⟩ := vu_form hvs
  refine (IsInt_any j w u hj.shape).mono ?_
  rintro e w' ⟨rfl, rfl⟩
  exact ⟨_, rfl, (Below.refl _ _).alloc (Nat.le_refl _) _, by unfold Rep; exact ⟨rfl, trivial⟩⟩
theorem IsFloat_p (j : JV) : PCall Try.prog 190 [.agg [pdJ j]] (.val (.bool (JV.IsFloat j))) := by
  intro w F vs hF hvs
  obtain ⟨u, rfl, hj⟩ := vu_form hvs
  refine (IsFloat_any j w u hj.shape).mono ?_
  rintro e w' ⟨rfl, rfl⟩
  exact ⟨_, rfl, (Below.refl _ _).alloc (Nat.le_refl _) _, by unfold Rep; exact ⟨rfl, trivial⟩⟩
theorem IsString_p (j : JV) : PCall Try.prog 195 [.agg [pdJ j]] (.val (.bool (JV.IsString j))) := by
  intro w F vs hF hvs
  obtain ⟨u, rfl, hj⟩ := vu_form hvs
  refine (IsString_any j w u hj.shape).mono ?_
  rintro e w' ⟨rfl, rfl⟩
  exact ⟨_, rfl, (Below.refl _ _).alloc (Nat.le_refl _) _, by unfold Rep; exact ⟨rfl, trivial⟩⟩
theorem IsNull_p (j : JV) : PCall Try.prog 194 [.agg [pdJ j]] (.val (.bool (JV.IsNull j))) := by
  intro w F vs hF hvs
  obtain ⟨u, rfl, hj⟩ := vu_form hvs
  refine (IsNull_any j w u hj.shape).mono ?_
  rintro e w' ⟨rfl, rfl⟩
  exact ⟨_, rfl, (Below.refl _ _).alloc (Nat.le_refl _) _, by unfold Rep; exact ⟨rfl, trivial⟩⟩
theorem AsBool_p (x : Bool) : PCall Try.prog 181 [.agg [pdJ (.bool x)]] (.val (.bool x)) := by
  intro w F vs hF hvs
  obtain ⟨u, rfl, hj⟩ := vu_form hvs
  unfold IsJ at hj; subst hj
  refine (AsBool_any x w).mono ?_
  rintro e w' ⟨rfl, rfl⟩
  exact ⟨_, rfl, (Below.refl _ _).alloc (Nat.le_refl _) _, by unfold Rep; exact ⟨rfl, trivial⟩⟩
theorem AsInt_p (x : Int) : PCall Try.prog 183 [.agg [pdJ (.int x)]] (.val (.int .i64 x)) := by
  intro w F vs hF hvs
  obtain ⟨u, rfl, hj⟩ := vu_form hvs
  unfold IsJ at hj; obtain ⟨rfl, hw⟩ := hj
  refine (AsInt_any x w).mono ?_
  rintro e w' ⟨rfl, rfl⟩
  exact ⟨_, rfl, (Below.refl _ _).alloc (Nat.le_refl _) _, by unfold Rep; exact ⟨rfl, hw⟩⟩
theorem AsFloat_p (x : Nat) : PCall Try.prog 182 [.agg [pdJ (.flt x)]] (.val (.float .f64 x)) := by
  intro w F vs hF hvs
  obtain ⟨u, rfl, hj⟩ := vu_form hvs
  unfold IsJ at hj; obtain ⟨rfl, hw⟩ := hj
  refine (AsFloat_any x w).mono ?_
  rintro e w' ⟨rfl, rfl⟩
  exact ⟨_, rfl, (Below.refl _ _).alloc (Nat.le_refl _) _, by unfold Rep; exact ⟨rfl, hw⟩⟩
theorem AsString_p (x : ByteArray) : PCall Try.prog 188 [.agg [pdJ (.str x)]] (.val (.string x)) := by
  intro w F vs hF hvs
  obtain ⟨u, rfl, hj⟩ := vu_form hvs
  unfold IsJ at hj; obtain ⟨rfl, hw⟩ := hj
  refine (AsString_any x w).mono ?_
  rintro e w' ⟨rfl, rfl⟩
  exact ⟨_, rfl, (Below.refl _ _).alloc (Nat.le_refl _) _, by unfold Rep; exact ⟨rfl, hw⟩⟩
theorem asList_p (l : List JV) : PCall Try.prog 185 [.agg [pdJ (.list l)], dvA] (dvL l) := by
  refine PCall.vu ?_
  refine pcall_of_run Try.func185 rfl Try.ntmps185 rfl (fun X => ?_)
  repeat' (first
    | refine run_seq ?_
    | (refine k_pick rfl ?_; first | refine k_assignD rfl rfl ?_ | refine k_fieldAddrB rfl rfl rfl ?_ | refine k_loadBD rfl rfl rfl (by first | rfl | (simp only [cellsD]; rfl)) ?_ | refine k_boxW rfl rfl rfl (by first | rfl | (simp only [cellsD]; rfl)) ?_ | refine k_iface rfl rfl (by kernel_rfl) ?_ | refine k_ta1 rfl rfl (by kernel_rfl) ?_)
    | refine run_opsEnd ?_
    | refine run_region ?_
    | refine run_retOk (resOk_tmp rfl rfl ?_)
    | fail)
  all_goals exact PLe.refl _
theorem asMap_p (m : List (ByteArray × JV)) : PCall Try.prog 187 [.agg [pdJ (.map m)], dvA] (dvM m) := by
  refine PCall.vu ?_
  refine pcall_of_run Try.func187 rfl Try.ntmps187 rfl (fun X => ?_)
  repeat' (first
    | refine run_seq ?_
    | (refine k_pick rfl ?_; first | refine k_assignD rfl rfl ?_ | refine k_moveD rfl rfl ?_ | refine k_fieldAddrB rfl rfl rfl ?_ | refine k_loadBD rfl rfl rfl (by first | rfl | (simp only [cellsD]; rfl)) ?_ | refine k_boxW rfl rfl rfl (by first | rfl | (simp only [cellsD]; rfl)) ?_ | refine k_extract rfl rfl rfl ?_ | refine k_iface rfl rfl (by kernel_rfl) ?_ | refine k_taS rfl rfl (by kernel_rfl) ?_ | refine k_cmpNil rfl rfl rfl (by kernel_rfl) (by exact NilIs.ifc) rfl ?_)
    | refine run_opsEnd ?_
    | refine run_region ?_
    | refine run_condT rfl (by first | rfl | assumption) ?_
    | refine run_condF rfl (by first | rfl | assumption) ?_
    | refine run_block ?_
    | refine run_skip ?_
    | refine run_retOk (resOk_tmp rfl rfl ?_)
    | fail)
  all_goals exact PLe.refl _
theorem lenL_p (l : List JV) : PCall Try.prog 203 [dvLs l] (.val (.int .i64 l.length)) := by
  refine pcall_of_run Try.func203 rfl Try.ntmps203 rfl (fun X => ?_)
  repeat' (first
    | refine run_seq ?_
    | (refine k_pick rfl ?_; first | refine k_assignD rfl rfl ?_ | refine k_moveD rfl rfl ?_ | refine k_lenJ rfl rfl ?_)
    | refine run_opsEnd ?_
    | refine run_region ?_
    | refine run_retOk (resOk_tmp rfl rfl ?_)
    | fail)
  all_goals exact PLe.refl _
theorem lenM_p (m : List (ByteArray × JV)) : PCall Try.prog 215 [dvMm m] (.val (.int .i64 m.length)) := by
  refine pcall_of_run Try.func215 rfl Try.ntmps215 rfl (fun X => ?_)
  repeat' (first
    | refine run_seq ?_
    | (refine k_pick rfl ?_; first | refine k_assignD rfl rfl ?_ | refine k_moveD rfl rfl ?_ | refine k_lenM rfl rfl ?_)
    | refine run_opsEnd ?_
    | refine run_region ?_
    | refine run_retOk (resOk_tmp rfl rfl ?_)
    | fail)
  all_goals exact PLe.refl _
theorem emptyNext_p : PCall Try.prog 228 [.ptr (.agg [])] (.val (.bool false)) := by
  refine pcall_of_run Try.func228 rfl Try.ntmps228 rfl (fun X => ?_)
  repeat' (first
    | refine run_seq ?_
    | (refine k_pick rfl ?_; refine k_assignD rfl rfl ?_)
    | refine run_opsEnd ?_
    | refine run_region ?_
    | refine run_retOk (resOk_tmp rfl rfl ?_)
    | fail)
  all_goals exact PLe.refl _
def dvE : PD := .iface 307 (.ptr (.agg []))
theorem rangeNil_p : PCall Try.prog 205 [dvLs [], dvA] dvE := by
  refine pcall_of_run Try.func205 rfl Try.ntmps205 rfl (fun X => ?_)
  have hq : decide (((([] : List JV).length : Nat) : Int) = 0) = true := rfl
  repeat' (first
    | refine run_seq ?_
    | (refine k_pick rfl ?_; first | refine k_assignD rfl rfl ?_ | refine k_moveD rfl rfl ?_ | refine k_bin2B rfl rfl rfl rfl ?_ | refine k_boxW rfl rfl rfl (by first | rfl | (simp only [cellsD]; rfl)) ?_ | refine k_build rfl rfl rfl ?_ | refine k_assignI rfl rfl ?_ | refine k_ifaceP rfl rfl (by kernel_rfl) ?_ | refine k_lenJ rfl rfl ?_)
    | refine run_opsEnd ?_
    | refine run_region ?_
    | refine run_condT rfl (by first | rfl | assumption) ?_
    | fail)
  refine run_frz gV (fun _ => true) ?_
  refine run_retOk (resOk_tmp rfl rfl ?_)
  exact PLe.refl _
theorem alloc_c : ACall1 Try.prog 134 [.dat (.ptr (.agg []))] [] (.ptr 0 0) [(0, .box 233 [.dat (.val .nilIface)])] := by
  refine acall_of_run Try.func134 rfl Try.ntmps134 rfl (fun X => ?_)
  repeat' (first
    | refine run_seq ?_
    | (refine k_pick rfl ?_; first | refine k_assignD rfl rfl ?_ | refine k_boxW rfl rfl rfl (by first | rfl | (simp only [cellsD]; rfl)) ?_ | refine k_assignP rfl rfl ?_ | refine k_build rfl rfl rfl ?_)
    | refine run_opsEnd ?_
    | refine run_region ?_
    | fail)
  refine run_retA () (thk [(0, 4)] 0) (tm := [(2, .ptr 0 0)]) ?_ (resA_tmp rfl rfl)
  (refine ⟨?_, ?_, by rfl⟩ <;> repeat' (first | exact trivial | exact ALe.ptr rfl | exact ALe.own rfl | exact ALe.elt rfl | exact BLe.boxD _ _ | exact BLe.row rfl | exact BLe.res | exact ALe.dat (PLe.refl _) | exact CLe.nil | refine And.intro ?_ ?_ | refine ALe.iface ?_ | refine ALe.clo ?_ | refine CLe.cons ?_ ?_ | refine BLe.box ?_ | refine BLe.row ?_ | exact ALe.any _ | refine ALe.dat (PLe.of_eq ?_)))
theorem allocR_c : ACall1 Try.prog 231 [.dat (.ptr (.agg []))] [] (.ptr 0 0) [(0, .box 311 [.dat (.val (.slice none 0 0)), .ptr 1 0, .dat (.val (.int .i64 0))]), (1, .box 233 [.dat (.val .nilIface)])] := by
  refine acall_of_run Try.func231 rfl Try.ntmps231 rfl (fun X => ?_)
  repeat' (first
    | refine run_seq ?_
    | (refine k_pick rfl ?_; first | refine k_assignD rfl rfl ?_ | refine k_boxW rfl rfl rfl (by first | rfl | (simp only [cellsD]; rfl)) ?_ | refine k_assignP rfl rfl ?_ | refine k_build rfl rfl rfl ?_ | refine k_buildG rfl rfl rfl ?_ | refine k_box rfl rfl rfl ?_)
    | refine run_opsEnd ?_
    | refine run_region ?_
    | fail)
  refine run_retA () (thk [(0, 6), (1, 4)] 0) (tm := [(2, .ptr 0 0)]) ?_ (resA_tmp rfl rfl)
  (refine ⟨?_, ?_, by rfl⟩ <;> repeat' (first | exact trivial | exact ALe.ptr rfl | exact ALe.own rfl | exact ALe.elt rfl | exact BLe.boxD _ _ | exact BLe.row rfl | exact BLe.res | exact ALe.dat (PLe.refl _) | exact CLe.nil | refine And.intro ?_ ?_ | refine ALe.iface ?_ | refine ALe.clo ?_ | refine CLe.cons ?_ ?_ | refine BLe.box ?_ | refine BLe.row ?_ | exact ALe.any _ | refine ALe.dat (PLe.of_eq ?_)))
theorem reuse_c (x : AV) (j : JV) : ACall1 Try.prog 135 [.ptr 1000 0, .dat (pdJ j)] [(1000, .box 233 [x])] (.iface 205 (.ptr 1000 0)) [(1000, .box 233 [.dat (pdJ j)])] := by
  refine acall_of_run Try.func135 rfl Try.ntmps135 rfl (fun X => ?_)
  repeat' (first
    | refine run_seq ?_
    | (refine k_pick rfl ?_; first | refine k_assignD rfl rfl ?_ | refine k_moveD rfl rfl ?_ | refine k_fieldAddrB rfl rfl rfl ?_ | refine k_nilB rfl rfl ?_ | refine k_storeB rfl rfl rfl rfl rfl ?_ | refine k_moveP rfl rfl ?_ | refine k_assignI rfl rfl ?_ | refine k_ifaceP rfl rfl (by kernel_rfl) ?_)
    | refine run_opsEnd ?_
    | refine run_region ?_
    | fail)
  refine run_retA () id (tm := [(4, .iface 205 (.ptr 1000 0))]) ?_ (resA_tmp rfl rfl)
  (refine ⟨?_, ?_, by rfl⟩ <;> repeat' (first | exact trivial | exact ALe.ptr rfl | exact ALe.own rfl | exact ALe.elt rfl | exact BLe.boxD _ _ | exact BLe.row rfl | exact BLe.res | exact ALe.dat (PLe.refl _) | exact CLe.nil | refine And.intro ?_ ?_ | refine ALe.iface ?_ | refine ALe.clo ?_ | refine CLe.cons ?_ ?_ | refine BLe.box ?_ | refine BLe.row ?_ | exact ALe.any _ | refine ALe.dat (PLe.of_eq ?_)))
end Go.Proofs.Ytlghpcokbppkfaa
