-- Laid by a program of this session, out of the translation's print.
import Derived.Test.YthejmpldfndbfaaDoorRows
import Derived.Test.YthejmpldfndbfaaDoorPFnUrlNoDatax1
import Derived.Test.YthejmpldfndbfaaDoorPureFnUrlNoData
import Derived.Test.YthejmpldfndbfaaDoorCards
import Derived.Test.YthejmpldfndbfaaDoorTie
import Derived.LaidMore
import Derived.OpenVars
import Derived.ChangeVars
import Derived.Stop.Joined
import Derived.SevenTiedAt
import Derived.WalkKit
import Derived.ProofKit
import Derived.OpenShut
import Derived.ShutString
import Derived.ChangeOld
import Derived.Below
import Derived.SizedLaws
import Derived.Test.YthejmpldfndbfaaDoorWSized
namespace Go.Proofs.YthejmpldfndbfaaDoor.fnUrlNoData
open Go.ChangeShapes Go.WideShapes Go.ChangeAt Go.RowKit
open Go.ChangeMaps (open_string shut_string)
set_option linter.unusedVariables false
theorem own : ownKnob Tryd.prog.godebug = none := by kernel_rfl
theorem laidOut : laidOutB Tryd.prog = true := by kernel_rfl
def IsRow (k : IntKind) (w : World) (a : Option Addr) (len cap : Nat) (zs : List Int) : Prop :=
  (a = none ∧ len = 0 ∧ cap = 0 ∧ zs = []) ∨
  ∃ x, a = some x ∧ len ≤ cap ∧ cap ≤ maxLen ∧ zs.length = cap ∧ (∀ i, i < zs.length → w.cell? (x.add i) = some (.int k (zs.getD i 0))) ∧ ∀ n ∈ zs, (Lit.int k n).wf = true
theorem two_vars {H : Type} {enc : TypeId × Value → H} {P : Program} {w : World} {sp : Nat → Bool} {n0 n1 : String} {gs : List (DataW H)} {ps : List MemPlace} (h : DataW.TrodVars enc P w sp [n0, n1] gs ps) : ∃ a b, gs = [a, b] := by
  cases gs with
  | nil => simp [DataW.TrodVars] at h
  | cons d ds =>
    obtain ⟨_, _, _, _, _, _, _, _, _, _, hs, _⟩ := h
    obtain ⟨_, _, _, _, b, _, rfl, _⟩ := trodVars_one hs
    exact ⟨d, b, rfl⟩
set_option maxRecDepth 100000
theorem tab_TabW {W : World} (hL : laidMetH Tryd.prog Rows.fnUrlNoDataRow.laid W) : Own.TabW W :=
  Own.tabAt_of_laid (l := Rows.fnUrlNoDataRow.laid) (name := "loop.example/pub-g01475/pub/tdparse.whitespaceTable") (d := Rows.laid_loop_example_pub_g01475_pub_tdparse_whitespaceTable) (g := 4) (t := 40) (e := 4) (f := Own.isW) (by kernel_rfl) (by kernel_rfl) Tryd.underlying40 Tryd.underlying4 (by kernel_rfl) (by kernel_rfl) (by kernel_rfl) (show _ ∈ [("loop.example/pub-g01475/pub/tdparse.ErrBadDataURI", Rows.laid_loop_example_pub_g01475_pub_tdparse_ErrBadDataURI), ("loop.example/pub-g01475/pub/tdparse.whitespaceTable", Rows.laid_loop_example_pub_g01475_pub_tdparse_whitespaceTable)] from .tail _ (.head _)) (by kernel_rfl) hL
theorem tab_TabX {W : World} (hL : laidMetH Tryd.prog Rows.fnUrlNoDataRow.laid W) : Own.TabX W :=
  Own.err_of_laid (l := Rows.fnUrlNoDataRow.laid) (name := "loop.example/pub-g01475/pub/tdparse.ErrBadDataURI") (t := 34) (by kernel_rfl) (by kernel_rfl) Tryd.underlying34 (by kernel_rfl) (show _ ∈ [("loop.example/pub-g01475/pub/tdparse.ErrBadDataURI", Rows.laid_loop_example_pub_g01475_pub_tdparse_ErrBadDataURI), ("loop.example/pub-g01475/pub/tdparse.whitespaceTable", Rows.laid_loop_example_pub_g01475_pub_tdparse_whitespaceTable)] from .head _) hL
noncomputable def laidWorld (os : Os) : World := World.doorLaid Tryd.prog 400 os
theorem door_met (os : Os) (args : Array Value) : laidMetH Tryd.prog Rows.fnUrlNoDataRow.laid ((laidWorld os).forCall (fun _ _ => 0) ⟨#[], args, []⟩).memory :=
  laidMetH_of_parts3 (fuel := 8) (laidMet_of_run' 8 (by kernel_rfl) (by kernel_rfl)) (by kernel_rfl) (by kernel_rfl)
set_option maxRecDepth 100000 in
theorem lifted (os : Os) (started : os.Started) (H : Type) (enc : TypeId × Value → H) :
    ReturnsInHanded {} Tryd.checked os 3 .any (fun w args => (Rows.fnUrlNoDataSpec.pre enc Tryd.prog Tryd.f3 [] false w args ∧ laidMetH Tryd.prog Rows.fnUrlNoDataRow.laid w) ∧ sizedMet enc Tryd.prog Tryd.f3 (OpenSpec.ofChange Rows.fnUrlNoDataSpec) false w args) (Rows.fnUrlNoDataSpec.post enc Tryd.prog Tryd.f3 false true false false) := by
  refine returnsInHanded_of_change_and (C := Tryd.checked) (X := fun w _ => laidMetH Tryd.prog Rows.fnUrlNoDataRow.laid w) (fun _ _ _ hh h => h.of_heap hh) own started (by kernel_rfl) Tryd.func3
    (ChangeSpec.witness_shaped (enc := enc) (C := Tryd.checked) (os := os) (X := fun w _ => laidMetH Tryd.prog Rows.fnUrlNoDataRow.laid w) false (laidWorld os) #[.slice none 0 0] 8 rfl (World.shaped_of_RefB (by kernel_rfl) (by kernel_rfl)) (by kernel_rfl) (by kernel_rfl) (by kernel_rfl) (door_met os _)) ?_
  intro W base args ds gs before hval0 hW hcnd hsz0 hL _
  have hsz : (DataW.weightsEach Tryd.prog (Tryd.f3.params.toList ++ Rows.fnUrlNoDataSpec.plain.varTypes Tryd.prog) (ds ++ gs)).all (· ≤ reachBytes) = true := hsz0
  have hval : ∀ (j : Nat) t v, Tryd.f3.params[j]? = some t → args[j]? = some v → Value.okWide Tryd.prog W .any base t v := hval0
  have hW' := hW
  obtain ⟨p, q, hA0, hV, rfl, hfz, hnd⟩ := hW
  have hA : DataW.TrodAll enc Tryd.prog W 0 (fun _ => true) true Tryd.f3.params.toList args.toList ds p := hA0
  rw [Tryd.params3] at hA hval hsz
  obtain ⟨v0, vs0, d0, ds0, p0, q0, hargs, rfl, rfl, h0, r0⟩ := trodAll_cons hA
  obtain ⟨rfl, rfl, rfl⟩ := trodAll_nil r0
  obtain rfl : args = #[v0] := by cases args; simp_all
  obtain ⟨g1_, g2_, rfl⟩ := two_vars hV
  obtain ⟨a0, len0, cap0, rfl⟩ := okWide_slice Tryd.underlying22 (hval 0 22 v0 rfl rfl)
  have k0 := h0
  have lt0 : ∀ x ∈ p0, x.block < W.heap.size := by obtain ⟨m, hm⟩ := k0; exact DataW.trod_lt m _ _ _ hm
  obtain ⟨z0, w0⟩ : ∃ zs, IsRow .u8 W a0 len0 cap0 zs := by
    obtain ⟨fuel, hf⟩ := h0
    rcases open_ints Tryd.underlying22 Tryd.underlying5 (by kernel_rfl) hf with ⟨hcs, _⟩ | ⟨x, l, c, zs, hcs, _, hl, hm, hz, _, hcell, hwz⟩
    · simp [Value.cells] at hcs
      obtain ⟨rfl, rfl, rfl⟩ := hcs
      exact ⟨[], .inl ⟨rfl, rfl, rfl, rfl⟩⟩
    · simp [Value.cells] at hcs
      obtain ⟨rfl, rfl, rfl⟩ := hcs
      exact ⟨zs, .inr ⟨_, rfl, hl, hm, by simpa using hz, hcell, hwz⟩⟩
  have y0 : len0 * 1 ≤ 140737488351232 := Go.Proofs.YthejmpldfndbfaaDoorW.PrintWords.sized_ints hsz (j := 0) (t := 22) rfl rfl Tryd.underlying22 Tryd.underlying5 (by kernel_rfl) (by kernel_rfl) h0
  have HTabW : Go.Proofs.YthejmpldfndbfaaDoorW.PrintWords.Aside0 (Own.TabW W) := ⟨tab_TabW hL⟩
  have HTabX : Go.Proofs.YthejmpldfndbfaaDoorW.PrintWords.Aside0 (Own.TabX W) := ⟨tab_TabX hL⟩
  clear hA0 hval0 hsz0 hsz
  refine (PFnUrlNoData.laws_FnUrlNoData.walk Pure.FnUrlNoData a0 len0 cap0 z0 W w0 y0 HTabW HTabX).mono fun e W' ⟨he, bel⟩ => ?_
  subst he
  exact ⟨_, rfl, _, _, _, [], _, _, hW', trodAll_mk1 (shut_bool Tryd.underlying4 _), (trodAll_cons_mk (Below.trod laidOut (by kernel_rfl) (of_decide_eq_true (by kernel_rfl)) k0 bel lt0) trodAll_mk0), Below.trodVars laidOut bel (by kernel_rfl) hV, bel.frame _, fun h => by cases h⟩
theorem over : Rows.fnUrlNoDataRow.holds Tryd.pinned (OpenSpec.ofChange Rows.fnUrlNoDataSpec) :=
  OpenClaim.holds_of_wide 3 Tryd.f3 rfl rfl rfl rfl rfl rfl rfl ⟨rfl, rfl, rfl, rfl, rfl⟩ rfl rfl rfl rfl rfl (by kernel_rfl) Tryd.func3 (by kernel_rfl)
    (of_decide_eq_true (by kernel_rfl)) (by unfold Func.isWrapper; first | (rw [if_pos (by decide +kernel)]; kernel_rfl) | (rw [if_neg (by decide +kernel)]; exact ⟨rfl, rfl⟩))
    (fun os started H enc _ => lifted os started H enc)
theorem plain (f : FuncId) (fn : Func) (hf : Tryd.pinned.checked.prog.funcNamed "loop.example/pub-g01475/laws.FnUrlNoData" = some f) (hfn : Tryd.pinned.checked.prog.funcs[f]? = some fn) :
    false = Tryd.pinned.checked.prog.looks [] ∧ ∀ (j : Nat) t, fn.params[j]? = some t → Tryd.pinned.checked.prog.wantsStandIn t = false := by
  obtain rfl : f = 3 := Option.some.inj ((show Tryd.prog.funcNamed "loop.example/pub-g01475/laws.FnUrlNoData" = some 3 by kernel_rfl).symm.trans hf) |>.symm
  obtain rfl : fn = Tryd.f3 := (Option.some.inj (Tryd.func3.symm.trans hfn)).symm
  refine ⟨by kernel_rfl, fun j t ht => ?_⟩
  have hall : (Tryd.f3.params.toList.all fun u => !Tryd.prog.wantsStandIn u) = true := by kernel_rfl
  have hm : t ∈ Tryd.f3.params.toList := by simpa using Array.mem_of_getElem? ht
  exact (show Tryd.prog.wantsStandIn t = false by simpa using List.all_eq_true.1 hall t hm)
theorem proved : Rows.FnUrlNoDataCardSaid :=
  Claim7.holds_tied_plain_at .later [] _ _ _ _ over (fun _ h => by cases h) (by kernel_rfl) (fun _ h => by cases h) fnUrlNoData_row_tie rfl ⟨rfl, rfl⟩ (by kernel_rfl) rfl plain (by kernel_rfl)
#print axioms proved
end Go.Proofs.YthejmpldfndbfaaDoor.fnUrlNoData
namespace Go.Proofs.YthejmpldfndbfaaDoor
/-- The tied card, under a short name, for the claim. -/
theorem fnUrlNoData_holds : Rows.FnUrlNoDataCardSaid := fnUrlNoData.proved
end Go.Proofs.YthejmpldfndbfaaDoor
