-- Laid by a program of this session, out of the translation's print.
import Derived.Test.YtipfnfhglhflgaaDoorRows
import Derived.Test.YtipfnfhglhflgaaDoorPFnNumberDecimalx2
import Derived.Test.YtipfnfhglhflgaaDoorPureFnNumberDecimal
import Derived.Test.YtipfnfhglhflgaaDoorCards
import Derived.Test.YtipfnfhglhflgaaDoorTie
import Derived.LaidMore
import Derived.OpenVars
import Derived.ChangeVars
import Derived.Stop.Joined
import Derived.SevenTiedAt
import Derived.WalkKit
import Derived.ProofKit
import Derived.OpenShut
import Derived.ShutString
import Derived.ChangeOld
import Derived.Below
import Derived.SizedLaws
import Derived.Test.YtipfnfhglhflgaaDoorWSized
namespace Go.Proofs.YtipfnfhglhflgaaDoor.fnNumberDecimal
open Go.ChangeShapes Go.WideShapes Go.ChangeAt Go.RowKit
open Go.ChangeMaps (open_string shut_string)
set_option linter.unusedVariables false
theorem own : ownKnob Tryd.prog.godebug = none := by kernel_rfl
theorem laidOut : laidOutB Tryd.prog = true := by kernel_rfl
def IsRow (k : IntKind) (w : World) (a : Option Addr) (len cap : Nat) (zs : List Int) : Prop :=
  (a = none ∧ len = 0 ∧ cap = 0 ∧ zs = []) ∨
  ∃ x, a = some x ∧ len ≤ cap ∧ cap ≤ maxLen ∧ zs.length = cap ∧ (∀ i, i < zs.length → w.cell? (x.add i) = some (.int k (zs.getD i 0))) ∧ ∀ n ∈ zs, (Lit.int k n).wf = true
set_option maxRecDepth 100000
theorem tab_TabP {W : World} (hL : laidMetH Tryd.prog Rows.fnNumberDecimalRow.laid W) : Own.TabP W :=
  Own.flAt_of_laid (l := Rows.fnNumberDecimalRow.laid) (name := "loop.example/pub-g01475/pub/tdstrconv.float64pow10") (d := Rows.laid_loop_example_pub_g01475_pub_tdstrconv_float64pow10) (g := 0) (n := 23) (t := 43) (e := 26) (f := Own.p10) (by kernel_rfl) (by kernel_rfl) Tryd.underlying43 Tryd.underlying26 (by kernel_rfl) (by kernel_rfl) (by kernel_rfl) (show _ ∈ [("math.pow10tab", Rows.laid_math_pow10tab), ("math.pow10postab32", Rows.laid_math_pow10postab32), ("math.pow10negtab32", Rows.laid_math_pow10negtab32), ("loop.example/pub-g01475/pub/tdstrconv.float64pow10", Rows.laid_loop_example_pub_g01475_pub_tdstrconv_float64pow10)] from .tail _ (.tail _ (.tail _ (.head _)))) (by kernel_rfl) hL
noncomputable def laidWorld (os : Os) : World := World.doorLaid Tryd.prog 400 os
theorem door_met (os : Os) (args : Array Value) : laidMetH Tryd.prog Rows.fnNumberDecimalRow.laid ((laidWorld os).forCall (fun _ _ => 0) ⟨#[], args, []⟩).memory :=
  laidMetH_of_parts3 (fuel := 8) (laidMet_of_run' 8 (by kernel_rfl) (by kernel_rfl)) (by kernel_rfl) (by kernel_rfl)
set_option maxRecDepth 100000 in
theorem lifted (os : Os) (started : os.Started) (H : Type) (enc : TypeId × Value → H) :
    ReturnsInHanded {} Tryd.checked os 3 .any (fun w args => (Rows.fnNumberDecimalSpec.pre enc Tryd.prog Tryd.f3 [] false w args ∧ laidMetH Tryd.prog Rows.fnNumberDecimalRow.laid w) ∧ sizedMet enc Tryd.prog Tryd.f3 (OpenSpec.ofChange Rows.fnNumberDecimalSpec) false w args) (Rows.fnNumberDecimalSpec.post enc Tryd.prog Tryd.f3 false true false false) := by
  refine returnsInHanded_of_change_and (C := Tryd.checked) (X := fun w _ => laidMetH Tryd.prog Rows.fnNumberDecimalRow.laid w) (fun _ _ _ hh h => h.of_heap hh) own started (by kernel_rfl) Tryd.func3
    (ChangeSpec.witness_shaped (enc := enc) (C := Tryd.checked) (os := os) (X := fun w _ => laidMetH Tryd.prog Rows.fnNumberDecimalRow.laid w) false (laidWorld os) #[.bool false, .slice none 0 0, .int .i64 0] 8 rfl (World.shaped_of_RefB (by kernel_rfl) (by kernel_rfl)) (by kernel_rfl) (by kernel_rfl) (by kernel_rfl) (door_met os _)) ?_
  intro W base args ds gs before hval0 hW hcnd hsz0 hL _
  have hsz : (DataW.weightsEach Tryd.prog (Tryd.f3.params.toList ++ Rows.fnNumberDecimalSpec.plain.varTypes Tryd.prog) (ds ++ gs)).all (· ≤ reachBytes) = true := hsz0
  have hval : ∀ (j : Nat) t v, Tryd.f3.params[j]? = some t → args[j]? = some v → Value.okWide Tryd.prog W .any base t v := hval0
  have hW' := hW
  obtain ⟨p, q, hA0, hV, rfl, hfz, hnd⟩ := hW
  have hA : DataW.TrodAll enc Tryd.prog W 0 (fun _ => true) true Tryd.f3.params.toList args.toList ds p := hA0
  rw [Tryd.params3] at hA hval hsz
  obtain ⟨v0, vs0, d0, ds0, p0, q0, hargs, rfl, rfl, h0, r0⟩ := trodAll_cons hA
  obtain ⟨v1, vs1, d1, ds1, p1, q1, rfl, rfl, rfl, h1, r1⟩ := trodAll_cons r0
  obtain ⟨v2, vs2, d2, ds2, p2, q2, rfl, rfl, rfl, h2, r2⟩ := trodAll_cons r1
  obtain ⟨rfl, rfl, rfl⟩ := trodAll_nil r2
  obtain rfl : args = #[v0, v1, v2] := by cases args; simp_all
  obtain ⟨gg_, tt_, cs_, fu_, g1_, pp_, rfl, _⟩ := trodVars_one hV
  obtain ⟨a0, rfl, rfl, rfl⟩ := open_bool Tryd.underlying4 (hval 0 4 v0 rfl rfl) h0
  obtain ⟨a1, len1, cap1, rfl⟩ := okWide_slice Tryd.underlying22 (hval 1 22 v1 rfl rfl)
  have k1 := h1
  have lt1 : ∀ x ∈ p1, x.block < W.heap.size := by obtain ⟨m, hm⟩ := k1; exact DataW.trod_lt m _ _ _ hm
  obtain ⟨z1, w1⟩ : ∃ zs, IsRow .u8 W a1 len1 cap1 zs := by
    obtain ⟨fuel, hf⟩ := h1
    rcases open_ints Tryd.underlying22 Tryd.underlying5 (by kernel_rfl) hf with ⟨hcs, _⟩ | ⟨x, l, c, zs, hcs, _, hl, hm, hz, _, hcell, hwz⟩
    · simp [Value.cells] at hcs
      obtain ⟨rfl, rfl, rfl⟩ := hcs
      exact ⟨[], .inl ⟨rfl, rfl, rfl, rfl⟩⟩
    · simp [Value.cells] at hcs
      obtain ⟨rfl, rfl, rfl⟩ := hcs
      exact ⟨zs, .inr ⟨_, rfl, hl, hm, by simpa using hz, hcell, hwz⟩⟩
  have y1 : len1 * 1 ≤ 140737488351232 := Go.Proofs.YtipfnfhglhflgaaDoorW.PrintWords.sized_ints hsz (j := 1) (t := 22) rfl rfl Tryd.underlying22 Tryd.underlying5 (by kernel_rfl) (by kernel_rfl) h1
  obtain ⟨a2, rfl, rfl, rfl, w2⟩ := open_int Tryd.underlying3 (hval 2 3 v2 rfl rfl) h2
  have HTabP : Go.Proofs.YtipfnfhglhflgaaDoorW.PrintWords.Aside0 (Own.TabP W) := ⟨tab_TabP hL⟩
  clear hA0 hval0 hsz0 hsz
  refine (PFnNumberDecimal.laws_FnNumberDecimal.walk Pure.FnNumberDecimal a0 a1 len1 cap1 z1 a2 W w1 y1 w2 HTabP).mono fun e W' ⟨he, bel⟩ => ?_
  subst he
  exact ⟨_, rfl, _, _, _, [], _, _, hW', trodAll_mk1 (shut_bool Tryd.underlying4 _), (trodAll_cons_mk (shut_bool Tryd.underlying4 _) (trodAll_cons_mk (Below.trod laidOut (by kernel_rfl) (of_decide_eq_true (by kernel_rfl)) k1 bel lt1) (trodAll_cons_mk (shut_int Tryd.underlying3 w2) trodAll_mk0))), Below.trodVars laidOut bel (by kernel_rfl) hV, bel.frame _, fun h => by cases h⟩
theorem over : Rows.fnNumberDecimalRow.holds Tryd.pinned (OpenSpec.ofChange Rows.fnNumberDecimalSpec) :=
  OpenClaim.holds_of_wide 3 Tryd.f3 rfl rfl rfl rfl rfl rfl rfl ⟨rfl, rfl, rfl, rfl, rfl⟩ rfl rfl rfl rfl rfl (by kernel_rfl) Tryd.func3 (by kernel_rfl)
    (of_decide_eq_true (by kernel_rfl)) (by unfold Func.isWrapper; first | (rw [if_pos (by decide +kernel)]; kernel_rfl) | (rw [if_neg (by decide +kernel)]; exact ⟨rfl, rfl⟩))
    (fun os started H enc _ => lifted os started H enc)
theorem plain (f : FuncId) (fn : Func) (hf : Tryd.pinned.checked.prog.funcNamed "loop.example/pub-g01475/laws.FnNumberDecimal" = some f) (hfn : Tryd.pinned.checked.prog.funcs[f]? = some fn) :
    false = Tryd.pinned.checked.prog.looks [] ∧ ∀ (j : Nat) t, fn.params[j]? = some t → Tryd.pinned.checked.prog.wantsStandIn t = false := by
  obtain rfl : f = 3 := Option.some.inj ((show Tryd.prog.funcNamed "loop.example/pub-g01475/laws.FnNumberDecimal" = some 3 by kernel_rfl).symm.trans hf) |>.symm
  obtain rfl : fn = Tryd.f3 := (Option.some.inj (Tryd.func3.symm.trans hfn)).symm
  refine ⟨by kernel_rfl, fun j t ht => ?_⟩
  have hall : (Tryd.f3.params.toList.all fun u => !Tryd.prog.wantsStandIn u) = true := by kernel_rfl
  have hm : t ∈ Tryd.f3.params.toList := by simpa using Array.mem_of_getElem? ht
  exact (show Tryd.prog.wantsStandIn t = false by simpa using List.all_eq_true.1 hall t hm)
theorem proved : Rows.FnNumberDecimalCardSaid :=
  Claim7.holds_tied_plain_at .later [] _ _ _ _ over (fun _ h => by cases h) (by kernel_rfl) (fun _ h => by cases h) fnNumberDecimal_row_tie rfl ⟨rfl, rfl⟩ (by kernel_rfl) rfl plain (by kernel_rfl)
#print axioms proved
end Go.Proofs.YtipfnfhglhflgaaDoor.fnNumberDecimal
namespace Go.Proofs.YtipfnfhglhflgaaDoor
/-- The tied card, under a short name, for the claim. -/
theorem fnNumberDecimal_holds : Rows.FnNumberDecimalCardSaid := fnNumberDecimal.proved
end Go.Proofs.YtipfnfhglhflgaaDoor
