-- Laid by a program of this session, out of the translation's print.
import Derived.Test.YtipfnfhglhflgaaDoorRows
import Derived.Test.YtipfnfhglhflgaaDoorPFnNumberDecimalTextx2
import Derived.Test.YtipfnfhglhflgaaDoorPureFnNumberDecimalText
import Derived.Test.YtipfnfhglhflgaaDoorCards
import Derived.Test.YtipfnfhglhflgaaDoorTie
import Derived.LaidMore
import Derived.OpenVars
import Derived.ChangeVars
import Derived.Stop.Joined
import Derived.SevenTiedAt
import Derived.WalkKit
import Derived.ProofKit
import Derived.OpenShut
import Derived.ShutString
import Derived.ChangeOld
import Derived.Below
import Derived.SizedLaws
namespace Go.Proofs.YtipfnfhglhflgaaDoor.fnNumberDecimalText
open Go.ChangeShapes Go.WideShapes Go.ChangeAt Go.RowKit
open Go.ChangeMaps (open_string shut_string)
set_option linter.unusedVariables false
theorem laidOut : laidOutB Tryd.prog = true := by kernel_rfl
theorem own : ownKnob Tryd.prog.godebug = none := by kernel_rfl
set_option maxRecDepth 100000
theorem tab_TabR {W : World} (hL : laidMetH Tryd.prog Rows.fnNumberDecimalTextRow.laid W) : Own.TabR W :=
  Own.flAt_of_laid (l := Rows.fnNumberDecimalTextRow.laid) (name := "math.pow10tab") (d := Rows.laid_math_pow10tab) (g := 4) (n := 32) (t := 53) (e := 26) (f := Own.p10) (by kernel_rfl) (by kernel_rfl) Tryd.underlying53 Tryd.underlying26 (by kernel_rfl) (by kernel_rfl) (by kernel_rfl) (show _ ∈ [("math.pow10tab", Rows.laid_math_pow10tab), ("math.pow10postab32", Rows.laid_math_pow10postab32), ("math.pow10negtab32", Rows.laid_math_pow10negtab32), ("loop.example/pub-g01475/pub/tdstrconv.int64pow10", Rows.laid_loop_example_pub_g01475_pub_tdstrconv_int64pow10)] from .head _) (by kernel_rfl) hL
theorem tab_TabT {W : World} (hL : laidMetH Tryd.prog Rows.fnNumberDecimalTextRow.laid W) : Own.TabT W :=
  Own.flAt_of_laid (l := Rows.fnNumberDecimalTextRow.laid) (name := "math.pow10postab32") (d := Rows.laid_math_pow10postab32) (g := 3) (n := 10) (t := 51) (e := 26) (f := Own.p32) (by kernel_rfl) (by kernel_rfl) Tryd.underlying51 Tryd.underlying26 (by kernel_rfl) (by kernel_rfl) (by kernel_rfl) (show _ ∈ [("math.pow10tab", Rows.laid_math_pow10tab), ("math.pow10postab32", Rows.laid_math_pow10postab32), ("math.pow10negtab32", Rows.laid_math_pow10negtab32), ("loop.example/pub-g01475/pub/tdstrconv.int64pow10", Rows.laid_loop_example_pub_g01475_pub_tdstrconv_int64pow10)] from .tail _ (.head _)) (by kernel_rfl) hL
noncomputable def laidWorld (os : Os) : World := World.doorLaid Tryd.prog 400 os
theorem door_met (os : Os) (args : Array Value) : laidMetH Tryd.prog Rows.fnNumberDecimalTextRow.laid ((laidWorld os).forCall (fun _ _ => 0) ⟨#[], args, []⟩).memory :=
  laidMetH_of_parts3 (fuel := 8) (laidMet_of_run' 8 (by kernel_rfl) (by kernel_rfl)) (by kernel_rfl) (by kernel_rfl)
set_option maxRecDepth 100000 in
theorem lifted (os : Os) (started : os.Started) (H : Type) (enc : TypeId × Value → H) :
    ReturnsInHanded {} Tryd.checked os 5 .any (fun w args => (Rows.fnNumberDecimalTextSpec.pre enc Tryd.prog Tryd.f5 [] false w args ∧ laidMetH Tryd.prog Rows.fnNumberDecimalTextRow.laid w) ∧ sizedMet enc Tryd.prog Tryd.f5 (OpenSpec.ofChange Rows.fnNumberDecimalTextSpec) false w args) (Rows.fnNumberDecimalTextSpec.post enc Tryd.prog Tryd.f5 false true false false) := by
  refine returnsInHanded_of_change_and (C := Tryd.checked) (X := fun w _ => laidMetH Tryd.prog Rows.fnNumberDecimalTextRow.laid w) (fun _ _ _ hh h => h.of_heap hh) own started (by kernel_rfl) Tryd.func5
    (ChangeSpec.witness_shaped (enc := enc) (C := Tryd.checked) (os := os) (X := fun w _ => laidMetH Tryd.prog Rows.fnNumberDecimalTextRow.laid w) false (laidWorld os) #[.int .i64 0, .int .i64 0] 8 rfl (World.shaped_of_RefB (by kernel_rfl) (by kernel_rfl)) (by kernel_rfl) (by kernel_rfl) (by kernel_rfl) (door_met os _)) ?_
  intro W base args ds gs before hval0 hW hcnd hsz0 hL _
  have hsz : (DataW.weightsEach Tryd.prog (Tryd.f5.params.toList ++ Rows.fnNumberDecimalTextSpec.plain.varTypes Tryd.prog) (ds ++ gs)).all (· ≤ reachBytes) = true := hsz0
  have hval : ∀ (j : Nat) t v, Tryd.f5.params[j]? = some t → args[j]? = some v → Value.okWide Tryd.prog W .any base t v := hval0
  have hW' := hW
  obtain ⟨p, q, hA0, hV, rfl, hfz, hnd⟩ := hW
  have hA : DataW.TrodAll enc Tryd.prog W 0 (fun _ => true) true Tryd.f5.params.toList args.toList ds p := hA0
  rw [Tryd.params5] at hA hval hsz
  obtain ⟨v0, vs0, d0, ds0, p0, q0, hargs, rfl, rfl, h0, r0⟩ := trodAll_cons hA
  obtain ⟨v1, vs1, d1, ds1, p1, q1, rfl, rfl, rfl, h1, r1⟩ := trodAll_cons r0
  obtain ⟨rfl, rfl, rfl⟩ := trodAll_nil r1
  obtain rfl : args = #[v0, v1] := by cases args; simp_all
  obtain ⟨gg_, tt_, cs_, fu_, g1_, pp_, rfl, _⟩ := trodVars_one hV
  obtain ⟨a0, rfl, rfl, rfl, w0⟩ := open_int Tryd.underlying2 (hval 0 2 v0 rfl rfl) h0
  obtain ⟨a1, rfl, rfl, rfl, w1⟩ := open_int Tryd.underlying3 (hval 1 3 v1 rfl rfl) h1
  have HTabR : Go.Proofs.YtipfnfhglhflgaaDoorW.PrintWords.Aside0 (Own.TabR W) := ⟨tab_TabR hL⟩
  have HTabT : Go.Proofs.YtipfnfhglhflgaaDoorW.PrintWords.Aside0 (Own.TabT W) := ⟨tab_TabT hL⟩
  clear hA0 hval0 hsz0 hsz
  refine (PFnNumberDecimalText.laws_FnNumberDecimalText.walk Pure.FnNumberDecimalText a0 a1 W w0 w1 HTabR HTabT).mono fun e W' ⟨he, bel⟩ => ?_
  subst he
  exact ⟨_, rfl, _, _, _, [], _, _, hW', trodAll_mk1 (shut_bool Tryd.underlying4 _), (trodAll_cons_mk (shut_int Tryd.underlying2 w0) (trodAll_cons_mk (shut_int Tryd.underlying3 w1) trodAll_mk0)), Below.trodVars laidOut bel (by kernel_rfl) hV, bel.frame _, fun h => by cases h⟩
theorem over : Rows.fnNumberDecimalTextRow.holds Tryd.pinned (OpenSpec.ofChange Rows.fnNumberDecimalTextSpec) :=
  OpenClaim.holds_of_wide 5 Tryd.f5 rfl rfl rfl rfl rfl rfl rfl ⟨rfl, rfl, rfl, rfl, rfl⟩ rfl rfl rfl rfl rfl (by kernel_rfl) Tryd.func5 (by kernel_rfl)
    (of_decide_eq_true (by kernel_rfl)) (by unfold Func.isWrapper; first | (rw [if_pos (by decide +kernel)]; kernel_rfl) | (rw [if_neg (by decide +kernel)]; exact ⟨rfl, rfl⟩))
    (fun os started H enc _ => lifted os started H enc)
theorem plain (f : FuncId) (fn : Func) (hf : Tryd.pinned.checked.prog.funcNamed "loop.example/pub-g01475/laws.FnNumberDecimalText" = some f) (hfn : Tryd.pinned.checked.prog.funcs[f]? = some fn) :
    false = Tryd.pinned.checked.prog.looks [] ∧ ∀ (j : Nat) t, fn.params[j]? = some t → Tryd.pinned.checked.prog.wantsStandIn t = false := by
  obtain rfl : f = 5 := Option.some.inj ((show Tryd.prog.funcNamed "loop.example/pub-g01475/laws.FnNumberDecimalText" = some 5 by kernel_rfl).symm.trans hf) |>.symm
  obtain rfl : fn = Tryd.f5 := (Option.some.inj (Tryd.func5.symm.trans hfn)).symm
  refine ⟨by kernel_rfl, fun j t ht => ?_⟩
  have hall : (Tryd.f5.params.toList.all fun u => !Tryd.prog.wantsStandIn u) = true := by kernel_rfl
  have hm : t ∈ Tryd.f5.params.toList := by simpa using Array.mem_of_getElem? ht
  exact (show Tryd.prog.wantsStandIn t = false by simpa using List.all_eq_true.1 hall t hm)
theorem proved : Rows.FnNumberDecimalTextCardSaid :=
  Claim7.holds_tied_plain_at .later [] _ _ _ _ over (fun _ h => by cases h) (by kernel_rfl) (fun _ h => by cases h) fnNumberDecimalText_row_tie rfl ⟨rfl, rfl⟩ (by kernel_rfl) rfl plain (by kernel_rfl)
#print axioms proved
end Go.Proofs.YtipfnfhglhflgaaDoor.fnNumberDecimalText
namespace Go.Proofs.YtipfnfhglhflgaaDoor
/-- The tied card, under a short name, for the claim. -/
theorem fnNumberDecimalText_holds : Rows.FnNumberDecimalTextCardSaid := fnNumberDecimalText.proved
end Go.Proofs.YtipfnfhglhflgaaDoor
