-- Laid by a program of this session, out of the translation's print.
import Derived.Test.YthejmpldfndbfaaDoorRows
import Derived.Test.YthejmpldfndbfaaDoorPFnUrlDatax2
import Derived.Test.YthejmpldfndbfaaDoorPureFnUrlData
import Derived.Test.YthejmpldfndbfaaDoorCards
import Derived.Test.YthejmpldfndbfaaDoorTie
import Derived.LaidMore
import Derived.OpenVars
import Derived.ChangeVars
import Derived.Stop.Joined
import Derived.SevenTiedAt
import Derived.WalkKit
import Derived.ProofKit
import Derived.OpenShut
import Derived.ShutString
import Derived.ChangeOld
import Derived.Below
import Derived.SizedLaws
import Derived.Test.YthejmpldfndbfaaDoorWSized
namespace Go.Proofs.YthejmpldfndbfaaDoor.fnUrlData
open Go.ChangeShapes Go.WideShapes Go.ChangeAt Go.RowKit
open Go.ChangeMaps (open_string shut_string)
set_option linter.unusedVariables false
theorem own : ownKnob Tryd.prog.godebug = none := by kernel_rfl
theorem laidOut : laidOutB Tryd.prog = true := by kernel_rfl
def IsRow (k : IntKind) (w : World) (a : Option Addr) (len cap : Nat) (zs : List Int) : Prop :=
  (a = none ∧ len = 0 ∧ cap = 0 ∧ zs = []) ∨
  ∃ x, a = some x ∧ len ≤ cap ∧ cap ≤ maxLen ∧ zs.length = cap ∧ (∀ i, i < zs.length → w.cell? (x.add i) = some (.int k (zs.getD i 0))) ∧ ∀ n ∈ zs, (Lit.int k n).wf = true
theorem two_vars {H : Type} {enc : TypeId × Value → H} {P : Program} {w : World} {sp : Nat → Bool} {n0 n1 : String} {gs : List (DataW H)} {ps : List MemPlace} (h : DataW.TrodVars enc P w sp [n0, n1] gs ps) : ∃ a b, gs = [a, b] := by
  cases gs with
  | nil => simp [DataW.TrodVars] at h
  | cons d ds =>
    obtain ⟨_, _, _, _, _, _, _, _, _, _, hs, _⟩ := h
    obtain ⟨_, _, _, _, b, _, rfl, _⟩ := trodVars_one hs
    exact ⟨d, b, rfl⟩
theorem three_vars {H : Type} {enc : TypeId × Value → H} {P : Program} {w : World} {sp : Nat → Bool} {n0 n1 n2 : String} {gs : List (DataW H)} {ps : List MemPlace} (h : DataW.TrodVars enc P w sp [n0, n1, n2] gs ps) : ∃ a b c, gs = [a, b, c] := by
  cases gs with
  | nil => simp [DataW.TrodVars] at h
  | cons d ds =>
    obtain ⟨_, _, _, _, _, _, _, _, _, _, hs, _⟩ := h
    obtain ⟨a, b, rfl⟩ := two_vars hs
    exact ⟨d, a, b, rfl⟩
theorem four_vars {H : Type} {enc : TypeId × Value → H} {P : Program} {w : World} {sp : Nat → Bool} {n0 n1 n2 n3 : String} {gs : List (DataW H)} {ps : List MemPlace} (h : DataW.TrodVars enc P w sp [n0, n1, n2, n3] gs ps) : ∃ a b c d, gs = [a, b, c, d] := by
  cases gs with
  | nil => simp [DataW.TrodVars] at h
  | cons d ds =>
    obtain ⟨_, _, _, _, _, _, _, _, _, _, hs, _⟩ := h
    obtain ⟨a, b, c, rfl⟩ := three_vars hs
    exact ⟨d, a, b, c, rfl⟩
set_option maxRecDepth 100000
theorem tab_TabU {W : World} (hL : laidMetH Tryd.prog Rows.fnUrlDataRow.laid W) : Own.TabU W :=
  Own.tabAt_of_laid (l := Rows.fnUrlDataRow.laid) (name := "loop.example/pub-g01475/pub/tdparse.URLEncodingTable") (d := Rows.laid_loop_example_pub_g01475_pub_tdparse_URLEncodingTable) (g := 1) (t := 40) (e := 4) (f := Own.isU) (by kernel_rfl) (by kernel_rfl) Tryd.underlying40 Tryd.underlying4 (by kernel_rfl) (by kernel_rfl) (by kernel_rfl) (show _ ∈ [("loop.example/pub-g01475/pub/tdparse.URLEncodingTable", Rows.laid_loop_example_pub_g01475_pub_tdparse_URLEncodingTable), ("loop.example/pub-g01475/pub/tdparse.whitespaceTable", Rows.laid_loop_example_pub_g01475_pub_tdparse_whitespaceTable)] from .head _) (by kernel_rfl) hL
theorem tab_TabW {W : World} (hL : laidMetH Tryd.prog Rows.fnUrlDataRow.laid W) : Own.TabW W :=
  Own.tabAt_of_laid (l := Rows.fnUrlDataRow.laid) (name := "loop.example/pub-g01475/pub/tdparse.whitespaceTable") (d := Rows.laid_loop_example_pub_g01475_pub_tdparse_whitespaceTable) (g := 4) (t := 40) (e := 4) (f := Own.isW) (by kernel_rfl) (by kernel_rfl) Tryd.underlying40 Tryd.underlying4 (by kernel_rfl) (by kernel_rfl) (by kernel_rfl) (show _ ∈ [("loop.example/pub-g01475/pub/tdparse.URLEncodingTable", Rows.laid_loop_example_pub_g01475_pub_tdparse_URLEncodingTable), ("loop.example/pub-g01475/pub/tdparse.whitespaceTable", Rows.laid_loop_example_pub_g01475_pub_tdparse_whitespaceTable)] from .tail _ (.head _)) (by kernel_rfl) hL
noncomputable def laidWorld (os : Os) : World := { World.holding Tryd.prog os ⟨#[], #[], []⟩ with heap := (((World.holding Tryd.prog os ⟨#[], #[], []⟩).heap.modify 1 (Own.layTab Own.isU)).modify 4 (Own.layTab Own.isW)) }
theorem plain_isU (os : Os) (args : Array Value) : Own.PlainAt Tryd.prog ((laidWorld os).forCall (fun _ _ => 0) ⟨#[], args, []⟩).memory 1 ("loop.example/pub-g01475/pub/tdparse.URLEncodingTable", Rows.laid_loop_example_pub_g01475_pub_tdparse_URLEncodingTable) :=
  ⟨40, Own.cellsOfTab Own.isU, 3, 40, by kernel_rfl, by kernel_rfl, by kernel_rfl, by kernel_rfl, Own.cellsOfTab_plain _⟩
theorem plain_isW (os : Os) (args : Array Value) : Own.PlainAt Tryd.prog ((laidWorld os).forCall (fun _ _ => 0) ⟨#[], args, []⟩).memory 4 ("loop.example/pub-g01475/pub/tdparse.whitespaceTable", Rows.laid_loop_example_pub_g01475_pub_tdparse_whitespaceTable) :=
  ⟨40, Own.cellsOfTab Own.isW, 3, 40, by kernel_rfl, by kernel_rfl, by kernel_rfl, by kernel_rfl, Own.cellsOfTab_plain _⟩
theorem door_met (os : Os) (args : Array Value) : laidMetH Tryd.prog Rows.fnUrlDataRow.laid ((laidWorld os).forCall (fun _ _ => 0) ⟨#[], args, []⟩).memory := by
  rw [MakeChecks.laidMetH_plain _ _ _ (by kernel_rfl)]
  exact Own.laid_two (plain_isU os args) (plain_isW os args) (by decide)
set_option maxRecDepth 100000 in
theorem lifted (os : Os) (started : os.Started) (H : Type) (enc : TypeId × Value → H) :
    ReturnsInHanded {} Tryd.checked os 4 .any (fun w args => (Rows.fnUrlDataSpec.pre enc Tryd.prog Tryd.f4 [] false w args ∧ laidMetH Tryd.prog Rows.fnUrlDataRow.laid w) ∧ sizedMet enc Tryd.prog Tryd.f4 (OpenSpec.ofChange Rows.fnUrlDataSpec) false w args) (Rows.fnUrlDataSpec.post enc Tryd.prog Tryd.f4 false true false false) := by
  refine returnsInHanded_of_change_and (C := Tryd.checked) (X := fun w _ => laidMetH Tryd.prog Rows.fnUrlDataRow.laid w) (fun _ _ _ hh h => h.of_heap hh) own started (by kernel_rfl) Tryd.func4
    (ChangeSpec.witness_at (enc := enc) (C := Tryd.checked) (os := os) (X := fun w _ => laidMetH Tryd.prog Rows.fnUrlDataRow.laid w) false (laidWorld os) #[.string ByteArray.empty, .string ByteArray.empty, .slice none 0 0] 8 rfl (by kernel_rfl) (by kernel_rfl) (by kernel_rfl) (by kernel_rfl) (by kernel_rfl) (door_met os _)) ?_
  intro W base args ds gs before hval0 hW hcnd hsz0 hL _
  have hsz : (DataW.weightsEach Tryd.prog (Tryd.f4.params.toList ++ Rows.fnUrlDataSpec.plain.varTypes Tryd.prog) (ds ++ gs)).all (· ≤ reachBytes) = true := hsz0
  have hval : ∀ (j : Nat) t v, Tryd.f4.params[j]? = some t → args[j]? = some v → Value.okWide Tryd.prog W .any base t v := hval0
  have hW' := hW
  obtain ⟨p, q, hA0, hV, rfl, hfz, hnd⟩ := hW
  have hA : DataW.TrodAll enc Tryd.prog W 0 (fun _ => true) true Tryd.f4.params.toList args.toList ds p := hA0
  rw [Tryd.params4] at hA hval hsz
  obtain ⟨v0, vs0, d0, ds0, p0, q0, hargs, rfl, rfl, h0, r0⟩ := trodAll_cons hA
  obtain ⟨v1, vs1, d1, ds1, p1, q1, rfl, rfl, rfl, h1, r1⟩ := trodAll_cons r0
  obtain ⟨v2, vs2, d2, ds2, p2, q2, rfl, rfl, rfl, h2, r2⟩ := trodAll_cons r1
  obtain ⟨rfl, rfl, rfl⟩ := trodAll_nil r2
  obtain rfl : args = #[v0, v1, v2] := by cases args; simp_all
  obtain ⟨g1_, g2_, g3_, g4_, rfl⟩ := four_vars hV
  obtain ⟨a0, rfl, rfl, rfl, y0⟩ := open_string Tryd.underlying9 (hval 0 9 v0 rfl rfl) h0
  have w0 : a0.size ≤ 140737488351232 := by
    have z := sized_string hsz (j := 0) (t := 9) rfl rfl
    rw [Array.length_toList] at z
    exact z
  obtain ⟨a1, rfl, rfl, rfl, y1⟩ := open_string Tryd.underlying9 (hval 1 9 v1 rfl rfl) h1
  have w1 : a1.size ≤ 140737488351232 := by
    have z := sized_string hsz (j := 1) (t := 9) rfl rfl
    rw [Array.length_toList] at z
    exact z
  obtain ⟨a2, len2, cap2, rfl⟩ := okWide_slice Tryd.underlying22 (hval 2 22 v2 rfl rfl)
  have k2 := h2
  have lt2 : ∀ x ∈ p2, x.block < W.heap.size := by obtain ⟨m, hm⟩ := k2; exact DataW.trod_lt m _ _ _ hm
  obtain ⟨z2, w2⟩ : ∃ zs, IsRow .u8 W a2 len2 cap2 zs := by
    obtain ⟨fuel, hf⟩ := h2
    rcases open_ints Tryd.underlying22 Tryd.underlying5 (by kernel_rfl) hf with ⟨hcs, _⟩ | ⟨x, l, c, zs, hcs, _, hl, hm, hz, _, hcell, hwz⟩
    · simp [Value.cells] at hcs
      obtain ⟨rfl, rfl, rfl⟩ := hcs
      exact ⟨[], .inl ⟨rfl, rfl, rfl, rfl⟩⟩
    · simp [Value.cells] at hcs
      obtain ⟨rfl, rfl, rfl⟩ := hcs
      exact ⟨zs, .inr ⟨_, rfl, hl, hm, by simpa using hz, hcell, hwz⟩⟩
  have y2 : len2 * 1 ≤ 140737488351232 := Go.Proofs.YthejmpldfndbfaaDoorW.PrintWords.sized_ints hsz (j := 2) (t := 22) rfl rfl Tryd.underlying22 Tryd.underlying5 (by kernel_rfl) (by kernel_rfl) h2
  have HTabU : Go.Proofs.YthejmpldfndbfaaDoorW.PrintWords.Aside0 (Own.TabU W) := ⟨tab_TabU hL⟩
  have HTabW : Go.Proofs.YthejmpldfndbfaaDoorW.PrintWords.Aside0 (Own.TabW W) := ⟨tab_TabW hL⟩
  clear hA0 hval0 hsz0 hsz
  refine (PFnUrlData.laws_FnUrlData.walk Pure.FnUrlData a0 a1 a2 len2 cap2 z2 W w0 w1 w2 y2 HTabU HTabW).mono fun e W' ⟨he, bel⟩ => ?_
  subst he
  exact ⟨_, rfl, _, _, _, [], _, _, hW', trodAll_mk1 (shut_bool Tryd.underlying4 _), (trodAll_cons_mk (shut_string Tryd.underlying9 y0) (trodAll_cons_mk (shut_string Tryd.underlying9 y1) (trodAll_cons_mk (Below.trod laidOut (by kernel_rfl) (of_decide_eq_true (by kernel_rfl)) k2 bel lt2) trodAll_mk0))), Below.trodVars laidOut bel (by kernel_rfl) hV, bel.frame _, fun h => by cases h⟩
theorem over : Rows.fnUrlDataRow.holds Tryd.pinned (OpenSpec.ofChange Rows.fnUrlDataSpec) :=
  OpenClaim.holds_of_wide 4 Tryd.f4 rfl rfl rfl rfl rfl rfl rfl ⟨rfl, rfl, rfl, rfl, rfl⟩ rfl rfl rfl rfl rfl (by kernel_rfl) Tryd.func4 (by kernel_rfl)
    (of_decide_eq_true (by kernel_rfl)) (by unfold Func.isWrapper; first | (rw [if_pos (by decide +kernel)]; kernel_rfl) | (rw [if_neg (by decide +kernel)]; exact ⟨rfl, rfl⟩))
    (fun os started H enc _ => lifted os started H enc)
theorem plain (f : FuncId) (fn : Func) (hf : Tryd.pinned.checked.prog.funcNamed "loop.example/pub-g01475/laws.FnUrlData" = some f) (hfn : Tryd.pinned.checked.prog.funcs[f]? = some fn) :
    false = Tryd.pinned.checked.prog.looks [] ∧ ∀ (j : Nat) t, fn.params[j]? = some t → Tryd.pinned.checked.prog.wantsStandIn t = false := by
  obtain rfl : f = 4 := Option.some.inj ((show Tryd.prog.funcNamed "loop.example/pub-g01475/laws.FnUrlData" = some 4 by kernel_rfl).symm.trans hf) |>.symm
  obtain rfl : fn = Tryd.f4 := (Option.some.inj (Tryd.func4.symm.trans hfn)).symm
  refine ⟨by kernel_rfl, fun j t ht => ?_⟩
  have hall : (Tryd.f4.params.toList.all fun u => !Tryd.prog.wantsStandIn u) = true := by kernel_rfl
  have hm : t ∈ Tryd.f4.params.toList := by simpa using Array.mem_of_getElem? ht
  exact (show Tryd.prog.wantsStandIn t = false by simpa using List.all_eq_true.1 hall t hm)
theorem proved : Rows.FnUrlDataCardSaid :=
  Claim7.holds_tied_plain_at .later [] _ _ _ _ over (fun _ h => by cases h) (by kernel_rfl) (fun _ h => by cases h) fnUrlData_row_tie rfl ⟨rfl, rfl⟩ (by kernel_rfl) rfl plain (by kernel_rfl)
#print axioms proved
end Go.Proofs.YthejmpldfndbfaaDoor.fnUrlData
namespace Go.Proofs.YthejmpldfndbfaaDoor
/-- The tied card, under a short name, for the claim. -/
theorem fnUrlData_holds : Rows.FnUrlDataCardSaid := fnUrlData.proved
end Go.Proofs.YthejmpldfndbfaaDoor
