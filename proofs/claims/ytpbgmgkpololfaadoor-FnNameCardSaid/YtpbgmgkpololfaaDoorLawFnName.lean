-- Laid by a program of this session, out of the translation's print.
import Derived.Test.YtpbgmgkpololfaaDoorRows
import Derived.Test.YtpbgmgkpololfaaDoorPFnNamex1
import Derived.Test.YtpbgmgkpololfaaDoorPureFnName
import Derived.Test.YtpbgmgkpololfaaDoorCards
import Derived.Test.YtpbgmgkpololfaaDoorTie
import Derived.LaidMore
import Derived.OpenVars
import Derived.ChangeVars
import Derived.Stop.Joined
import Derived.SevenTiedAt
import Derived.WalkKit
import Derived.ProofKit
import Derived.OpenShut
import Derived.ShutString
import Derived.ChangeOld
import Derived.Below
import Derived.SizedLaws
namespace Go.Proofs.YtpbgmgkpololfaaDoor.fnName
open Go.ChangeShapes Go.WideShapes Go.ChangeAt Go.RowKit
open Go.ChangeMaps (open_string shut_string)
set_option linter.unusedVariables false
theorem laidOut : laidOutB Tryd.prog = true := by kernel_rfl
theorem own : ownKnob Tryd.prog.godebug = none := by kernel_rfl
theorem two_vars {H : Type} {enc : TypeId × Value → H} {P : Program} {w : World} {sp : Nat → Bool} {n0 n1 : String} {gs : List (DataW H)} {ps : List MemPlace} (h : DataW.TrodVars enc P w sp [n0, n1] gs ps) : ∃ a b, gs = [a, b] := by
  cases gs with
  | nil => simp [DataW.TrodVars] at h
  | cons d ds =>
    obtain ⟨_, _, _, _, _, _, _, _, _, _, hs, _⟩ := h
    obtain ⟨_, _, _, _, b, _, rfl, _⟩ := trodVars_one hs
    exact ⟨d, b, rfl⟩
set_option maxRecDepth 100000
theorem tab_TabI {W : World} (hL : laidMetH Tryd.prog Rows.fnNameRow.laid W) : Own.TabI W :=
  Own.tabAt_of_laid (l := Rows.fnNameRow.laid) (name := "loop.example/pub-g01475/pub/tdjs.identifierTable") (d := Rows.laid_loop_example_pub_g01475_pub_tdjs_identifierTable) (g := 1) (t := 28) (e := 4) (f := Own.isI) (by kernel_rfl) (by kernel_rfl) Tryd.underlying28 Tryd.underlying4 (by kernel_rfl) (by kernel_rfl) (by kernel_rfl) (show _ ∈ [("loop.example/pub-g01475/pub/tdjs.identifierStartTable", Rows.laid_loop_example_pub_g01475_pub_tdjs_identifierStartTable), ("loop.example/pub-g01475/pub/tdjs.identifierTable", Rows.laid_loop_example_pub_g01475_pub_tdjs_identifierTable)] from .tail _ (.head _)) (by kernel_rfl) hL
theorem tab_TabS {W : World} (hL : laidMetH Tryd.prog Rows.fnNameRow.laid W) : Own.TabS W :=
  Own.tabAt_of_laid (l := Rows.fnNameRow.laid) (name := "loop.example/pub-g01475/pub/tdjs.identifierStartTable") (d := Rows.laid_loop_example_pub_g01475_pub_tdjs_identifierStartTable) (g := 0) (t := 28) (e := 4) (f := Own.isS) (by kernel_rfl) (by kernel_rfl) Tryd.underlying28 Tryd.underlying4 (by kernel_rfl) (by kernel_rfl) (by kernel_rfl) (show _ ∈ [("loop.example/pub-g01475/pub/tdjs.identifierStartTable", Rows.laid_loop_example_pub_g01475_pub_tdjs_identifierStartTable), ("loop.example/pub-g01475/pub/tdjs.identifierTable", Rows.laid_loop_example_pub_g01475_pub_tdjs_identifierTable)] from .head _) (by kernel_rfl) hL
noncomputable def laidWorld (os : Os) : World := { World.holding Tryd.prog os ⟨#[], #[], []⟩ with heap := (((World.holding Tryd.prog os ⟨#[], #[], []⟩).heap.modify 0 (Own.layTab Own.isS)).modify 1 (Own.layTab Own.isI)) }
theorem plain_isS (os : Os) (args : Array Value) : Own.PlainAt Tryd.prog ((laidWorld os).forCall (fun _ _ => 0) ⟨#[], args, []⟩).memory 0 ("loop.example/pub-g01475/pub/tdjs.identifierStartTable", Rows.laid_loop_example_pub_g01475_pub_tdjs_identifierStartTable) :=
  ⟨28, Own.cellsOfTab Own.isS, 3, 28, by kernel_rfl, by kernel_rfl, by kernel_rfl, by kernel_rfl, Own.cellsOfTab_plain _⟩
theorem plain_isI (os : Os) (args : Array Value) : Own.PlainAt Tryd.prog ((laidWorld os).forCall (fun _ _ => 0) ⟨#[], args, []⟩).memory 1 ("loop.example/pub-g01475/pub/tdjs.identifierTable", Rows.laid_loop_example_pub_g01475_pub_tdjs_identifierTable) :=
  ⟨28, Own.cellsOfTab Own.isI, 3, 28, by kernel_rfl, by kernel_rfl, by kernel_rfl, by kernel_rfl, Own.cellsOfTab_plain _⟩
theorem door_met (os : Os) (args : Array Value) : laidMetH Tryd.prog Rows.fnNameRow.laid ((laidWorld os).forCall (fun _ _ => 0) ⟨#[], args, []⟩).memory := by
  rw [MakeChecks.laidMetH_plain _ _ _ (by kernel_rfl)]
  exact Own.laid_two (plain_isS os args) (plain_isI os args) (by decide)
set_option maxRecDepth 100000 in
theorem lifted (os : Os) (started : os.Started) (H : Type) (enc : TypeId × Value → H) :
    ReturnsInHanded {} Tryd.checked os 3 .any (fun w args => (Rows.fnNameSpec.pre enc Tryd.prog Tryd.f3 [] false w args ∧ laidMetH Tryd.prog Rows.fnNameRow.laid w) ∧ sizedMet enc Tryd.prog Tryd.f3 (OpenSpec.ofChange Rows.fnNameSpec) false w args) (Rows.fnNameSpec.post enc Tryd.prog Tryd.f3 false true false false) := by
  refine returnsInHanded_of_change_and (C := Tryd.checked) (X := fun w _ => laidMetH Tryd.prog Rows.fnNameRow.laid w) (fun _ _ _ hh h => h.of_heap hh) own started (by kernel_rfl) Tryd.func3
    (ChangeSpec.witness_at (enc := enc) (C := Tryd.checked) (os := os) (X := fun w _ => laidMetH Tryd.prog Rows.fnNameRow.laid w) false (laidWorld os) #[.string ByteArray.empty] 8 rfl (by kernel_rfl) (by kernel_rfl) (by kernel_rfl) (by kernel_rfl) (by kernel_rfl) (door_met os _)) ?_
  intro W base args ds gs before hval0 hW hcnd hsz0 hL _
  have hsz : (DataW.weightsEach Tryd.prog (Tryd.f3.params.toList ++ Rows.fnNameSpec.plain.varTypes Tryd.prog) (ds ++ gs)).all (· ≤ reachBytes) = true := hsz0
  have hval : ∀ (j : Nat) t v, Tryd.f3.params[j]? = some t → args[j]? = some v → Value.okWide Tryd.prog W .any base t v := hval0
  have hW' := hW
  obtain ⟨p, q, hA0, hV, rfl, hfz, hnd⟩ := hW
  have hA : DataW.TrodAll enc Tryd.prog W 0 (fun _ => true) true Tryd.f3.params.toList args.toList ds p := hA0
  rw [Tryd.params3] at hA hval hsz
  obtain ⟨v0, vs0, d0, ds0, p0, q0, hargs, rfl, rfl, h0, r0⟩ := trodAll_cons hA
  obtain ⟨rfl, rfl, rfl⟩ := trodAll_nil r0
  obtain rfl : args = #[v0] := by cases args; simp_all
  obtain ⟨g1_, g2_, rfl⟩ := two_vars hV
  obtain ⟨a0, rfl, rfl, rfl, y0⟩ := open_string Tryd.underlying9 (hval 0 9 v0 rfl rfl) h0
  have w0 : a0.size ≤ 140737488351232 := by
    have z := sized_string hsz (j := 0) (t := 9) rfl rfl
    rw [Array.length_toList] at z
    exact z
  have HTabI : Go.Proofs.YtpbgmgkpololfaaDoorW.PrintWords.Aside0 (Own.TabI W) := ⟨tab_TabI hL⟩
  have HTabS : Go.Proofs.YtpbgmgkpololfaaDoorW.PrintWords.Aside0 (Own.TabS W) := ⟨tab_TabS hL⟩
  clear hA0 hval0 hsz0 hsz
  refine (PFnName.laws_FnName.walk Pure.FnName a0 W w0 HTabI HTabS).mono fun e W' ⟨he, bel⟩ => ?_
  subst he
  exact ⟨_, rfl, _, _, _, [], _, _, hW', trodAll_mk1 (shut_bool Tryd.underlying4 _), (trodAll_cons_mk (shut_string Tryd.underlying9 y0) trodAll_mk0), Below.trodVars laidOut bel (by kernel_rfl) hV, bel.frame _, fun h => by cases h⟩
theorem over : Rows.fnNameRow.holds Tryd.pinned (OpenSpec.ofChange Rows.fnNameSpec) :=
  OpenClaim.holds_of_wide 3 Tryd.f3 rfl rfl rfl rfl rfl rfl rfl ⟨rfl, rfl, rfl, rfl, rfl⟩ rfl rfl rfl rfl rfl (by kernel_rfl) Tryd.func3 (by kernel_rfl)
    (of_decide_eq_true (by kernel_rfl)) (by unfold Func.isWrapper; first | (rw [if_pos (by decide +kernel)]; kernel_rfl) | (rw [if_neg (by decide +kernel)]; exact ⟨rfl, rfl⟩))
    (fun os started H enc _ => lifted os started H enc)
theorem plain (f : FuncId) (fn : Func) (hf : Tryd.pinned.checked.prog.funcNamed "loop.example/pub-g01475/laws.FnName" = some f) (hfn : Tryd.pinned.checked.prog.funcs[f]? = some fn) :
    false = Tryd.pinned.checked.prog.looks [] ∧ ∀ (j : Nat) t, fn.params[j]? = some t → Tryd.pinned.checked.prog.wantsStandIn t = false := by
  obtain rfl : f = 3 := Option.some.inj ((show Tryd.prog.funcNamed "loop.example/pub-g01475/laws.FnName" = some 3 by kernel_rfl).symm.trans hf) |>.symm
  obtain rfl : fn = Tryd.f3 := (Option.some.inj (Tryd.func3.symm.trans hfn)).symm
  refine ⟨by kernel_rfl, fun j t ht => ?_⟩
  have hall : (Tryd.f3.params.toList.all fun u => !Tryd.prog.wantsStandIn u) = true := by kernel_rfl
  have hm : t ∈ Tryd.f3.params.toList := by simpa using Array.mem_of_getElem? ht
  exact (show Tryd.prog.wantsStandIn t = false by simpa using List.all_eq_true.1 hall t hm)
theorem proved : Rows.FnNameCardSaid :=
  Claim7.holds_tied_plain_at .later [] _ _ _ _ over (fun _ h => by cases h) (by kernel_rfl) (fun _ h => by cases h) fnName_row_tie rfl ⟨rfl, rfl⟩ (by kernel_rfl) rfl plain (by kernel_rfl)
#print axioms proved
end Go.Proofs.YtpbgmgkpololfaaDoor.fnName
namespace Go.Proofs.YtpbgmgkpololfaaDoor
/-- The tied card, under a short name, for the claim. -/
theorem fnName_holds : Rows.FnNameCardSaid := fnName.proved
end Go.Proofs.YtpbgmgkpololfaaDoor
