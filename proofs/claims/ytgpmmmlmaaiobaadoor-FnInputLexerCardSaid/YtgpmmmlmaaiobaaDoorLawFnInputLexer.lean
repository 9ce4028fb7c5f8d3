-- Laid by a program of this session.
import Derived.Test.YtgpmmmlmaaiobaaDoorRows
import Derived.Test.YtgpmmmlmaaiobaaDoorPFnInputLexerx0
import Derived.Test.YtgpmmmlmaaiobaaDoorPFnInputLexerx1
import Derived.Test.YtgpmmmlmaaiobaaDoorPFnInputLexerx2
import Derived.Test.YtgpmmmlmaaiobaaDoorPFnInputLexerx3
import Derived.Test.YtgpmmmlmaaiobaaDoorPFnInputLexerx4
import Derived.Test.YtgpmmmlmaaiobaaDoorPFnInputLexerx5
import Derived.Test.YtgpmmmlmaaiobaaDoorPFnInputLexerx14
import Derived.Test.YtgpmmmlmaaiobaaDoorPureFnInputLexer
import Derived.Test.YtgpmmmlmaaiobaaDoorCPairs
import Derived.Test.YtgpmmmlmaaiobaaDoorCards
import Derived.Test.YtgpmmmlmaaiobaaDoorTie
import Derived.LaidMore
import Derived.OpenVars
import Derived.ChangeVars
import Derived.Stop.Joined
import Derived.SevenTiedAt
import Derived.WalkKit
import Derived.ProofKit
import Derived.OpenShut
import Derived.ShutString
import Derived.ChangeOld
import Derived.Below
import Derived.SizedLaws
namespace Go.Proofs.YtgpmmmlmaaiobaaDoor.fnInputLexer
open Go.ChangeShapes Go.WideShapes Go.ChangeAt Go.RowKit
open Go.ChangeMaps (open_string shut_string)
set_option linter.unusedVariables false
theorem laidOut : laidOutB Tryd.prog = true := by kernel_rfl
theorem own : ownKnob Tryd.prog.godebug = none := by kernel_rfl
def IsRow (k : IntKind) (w : World) (a : Option Addr) (len cap : Nat) (zs : List Int) : Prop :=
  (a = none ∧ len = 0 ∧ cap = 0 ∧ zs = []) ∨
  ∃ x, a = some x ∧ len ≤ cap ∧ cap ≤ maxLen ∧ zs.length = cap ∧ (∀ i, i < zs.length → w.cell? (x.add i) = some (.int k (zs.getD i 0))) ∧ ∀ n ∈ zs, (Lit.int k n).wf = true
set_option maxRecDepth 100000
theorem tab_TabE {W : World} (hL : laidMetH Tryd.prog Rows.fnInputLexerRow.laid W) : Own.TabE W :=
  Own.eof_of_laid (l := Rows.fnInputLexerRow.laid) (name := "io.EOF") (t := 53) (by kernel_rfl) (by kernel_rfl) Tryd.underlying53 (by kernel_rfl) (show _ ∈ [("io.EOF", Rows.laid_io_EOF)] from .head _) hL
noncomputable def laidWorld (os : Os) : World := World.doorLaid Tryd.prog 400 os
theorem door_met (os : Os) (args : Array Value) : laidMetH Tryd.prog Rows.fnInputLexerRow.laid ((laidWorld os).forCall (fun _ _ => 0) ⟨#[], args, []⟩).memory :=
  laidMetH_of_parts3 (fuel := 8) (laidMet_of_run' 8 (by kernel_rfl) (by kernel_rfl)) (by kernel_rfl) (by kernel_rfl)
set_option maxRecDepth 100000 in
theorem lifted (os : Os) (started : os.Started) (H : Type) (enc : TypeId × Value → H) :
    ReturnsInHanded {} Tryd.checked os 5 .any (fun w args => (Rows.fnInputLexerSpec.pre enc Tryd.prog Tryd.f5 [] false w args ∧ laidMetH Tryd.prog Rows.fnInputLexerRow.laid w) ∧ sizedMet enc Tryd.prog Tryd.f5 (OpenSpec.ofChange Rows.fnInputLexerSpec) false w args) (Rows.fnInputLexerSpec.post enc Tryd.prog Tryd.f5 false true false false) := by
  refine returnsInHanded_of_change_and (C := Tryd.checked) (X := fun w _ => laidMetH Tryd.prog Rows.fnInputLexerRow.laid w) (fun _ _ _ hh h => h.of_heap hh) own started (by kernel_rfl) Tryd.func5
    (ChangeSpec.witness_shaped (enc := enc) (C := Tryd.checked) (os := os) (X := fun w _ => laidMetH Tryd.prog Rows.fnInputLexerRow.laid w) false (laidWorld os) #[.slice none 0 0, .slice none 0 0] 8 rfl (World.shaped_of_RefB (by kernel_rfl) (by kernel_rfl)) (by kernel_rfl) (by kernel_rfl) (by kernel_rfl) (door_met os _)) ?_
  intro W base args ds gs before hval0 hW hcnd hsz0 hL _
  have hsz : (DataW.weightsEach Tryd.prog (Tryd.f5.params.toList ++ Rows.fnInputLexerSpec.plain.varTypes Tryd.prog) (ds ++ gs)).all (· ≤ reachBytes) = true := hsz0
  have hval : ∀ (j : Nat) t v, Tryd.f5.params[j]? = some t → args[j]? = some v → Value.okWide Tryd.prog W .any base t v := hval0
  have hW' := hW
  obtain ⟨p, q, hA0, hV, rfl, hfz, hnd⟩ := hW
  have hA : DataW.TrodAll enc Tryd.prog W 0 (fun _ => true) true Tryd.f5.params.toList args.toList ds p := hA0
  rw [Tryd.params5] at hA hval hsz
  obtain ⟨v0, vs0, d0, ds0, p0, q0, hargs, rfl, rfl, h0, r0⟩ := trodAll_cons hA
  obtain ⟨v1, vs1, d1, ds1, p1, q1, rfl, rfl, rfl, h1, r1⟩ := trodAll_cons r0
  obtain ⟨rfl, rfl, rfl⟩ := trodAll_nil r1
  obtain rfl : args = #[v0, v1] := by cases args; simp_all
  obtain ⟨rfl, rfl⟩ := trodVars_none hV
  obtain ⟨a0, len0, cap0, rfl⟩ := okWide_slice Tryd.underlying22 (hval 0 22 v0 rfl rfl)
  have k0 := h0
  have lt0 : ∀ x ∈ p0, x.block < W.heap.size := by obtain ⟨m, hm⟩ := k0; exact DataW.trod_lt m _ _ _ hm
  obtain ⟨z0, w0⟩ : ∃ zs, IsRow .u8 W a0 len0 cap0 zs := by
    obtain ⟨fuel, hf⟩ := h0
    rcases open_ints Tryd.underlying22 Tryd.underlying5 (by kernel_rfl) hf with ⟨hcs, _⟩ | ⟨x, l, c, zs, hcs, _, hl, hm, hz, _, hcell, hwz⟩
    · simp [Value.cells] at hcs
      obtain ⟨rfl, rfl, rfl⟩ := hcs
      exact ⟨[], .inl ⟨rfl, rfl, rfl, rfl⟩⟩
    · simp [Value.cells] at hcs
      obtain ⟨rfl, rfl, rfl⟩ := hcs
      exact ⟨zs, .inr ⟨_, rfl, hl, hm, by simpa using hz, hcell, hwz⟩⟩
  obtain ⟨l0, rfl, hr0, hm0, hw0, hc0⟩ := Go.Proofs.YtgpmmmlmaaiobaaDoorW.PrintWords.ReadsInt.ofRowC w0
  obtain ⟨a1, len1, cap1, rfl⟩ := okWide_slice Tryd.underlying35 (hval 1 35 v1 rfl rfl)
  have k1 := h1
  have lt1 : ∀ x ∈ p1, x.block < W.heap.size := by obtain ⟨m, hm⟩ := k1; exact DataW.trod_lt m _ _ _ hm
  obtain ⟨L1, hn1, hc1, hC1, hm1, hb1⟩ : ∃ L : List Own.S44, L.length = len1 ∧ len1 ≤ cap1 ∧ Go.Proofs.YtgpmmmlmaaiobaaDoorW.PrintWords.Kd.C Own.k44 W a1 len1 L ∧ len1 ≤ maxLen ∧ ∀ x ∈ L, (fun x => (Lit.int .i64 x.f0).wf = true ∧ (Lit.int .i64 x.f1).wf = true) x := by
    obtain ⟨fuel, hf⟩ := h1
    refine Own.open_pairs Own.k44 rfl (fun x => (Lit.int .i64 x.f0).wf = true ∧ (Lit.int .i64 x.f1).wf = true) Tryd.underlying35 Tryd.underlying44 (by kernel_rfl) rfl rfl (by kernel_rfl) (by kernel_rfl) (fun n v0 v1 y0 y1 g0 g1 => ?_) (by simpa [Value.cells] using hf)
    obtain ⟨s0, e0, _, b0⟩ := DataW.trod_int Tryd.underlying2 g0
    obtain ⟨s1, e1, _, b1⟩ := DataW.trod_int Tryd.underlying3 g1
    obtain rfl := List.head_eq_of_cons_eq e0
    obtain rfl := List.head_eq_of_cons_eq e1
    exact ⟨⟨s0, s1⟩, ⟨b0, b1⟩, Own.k44_mk W ⟨s0, s1⟩⟩
  subst hn1
  clear hA0 hval0 hsz0 hsz
  obtain ⟨k, hk⟩ := Pure.FnInputLexer l0 hm0 hw0 L1 hm1 hb1
  have HTabE : Go.Proofs.YtgpmmmlmaaiobaaDoorW.PrintWords.Aside0 (Own.TabE W) := ⟨tab_TabE hL⟩
  have CH_ : ∀ {kk_ : IntKind} {AA_ : Option Addr} {xx_ : List Int}, (Go.Proofs.YtgpmmmlmaaiobaaDoorW.PrintWords.Kd.int kk_).C W AA_ xx_.length xx_ → Go.Proofs.YtgpmmmlmaaiobaaDoorW.PrintWords.Kd.F (Go.Proofs.YtgpmmmlmaaiobaaDoorW.PrintWords.Kd.int kk_) W (fun _ => True) AA_ xx_.length xx_ := fun hh_ W' hW => (Go.Proofs.YtgpmmmlmaaiobaaDoorW.PrintWords.Kd.heap_int _).C (fun k hk => hW k trivial hk) hh_
  refine (PFnInputLexer.laws_FnInputLexer.calls k _ _ l0 _ _ L1 true W (Go.Proofs.YtgpmmmlmaaiobaaDoorW.PrintWords.Kd.C_of_reads (d := (0 : Int)) (h1 := fun _ => rfl) hr0) hc0 hC1 hc1 hk HTabE).mono fun e W' ⟨he, bel⟩ => ?_
  subst he
  exact ⟨_, rfl, _, _, _, [], _, [], hW', trodAll_mk1 (shut_bool Tryd.underlying4 _), (trodAll_cons_mk (Below.trod laidOut (by kernel_rfl) (of_decide_eq_true (by kernel_rfl)) k0 bel lt0) (trodAll_cons_mk (Below.trod laidOut (by kernel_rfl) (of_decide_eq_true (by kernel_rfl)) k1 bel lt1) trodAll_mk0)), rfl, bel.frame _, fun h => by cases h⟩
theorem over : Rows.fnInputLexerRow.holds Tryd.pinned (OpenSpec.ofChange Rows.fnInputLexerSpec) :=
  OpenClaim.holds_of_wide 5 Tryd.f5 rfl rfl rfl rfl rfl rfl rfl ⟨rfl, rfl, rfl, rfl, rfl⟩ rfl rfl rfl rfl rfl (by kernel_rfl) Tryd.func5 (by kernel_rfl)
    (of_decide_eq_true (by kernel_rfl)) (by unfold Func.isWrapper; first | (rw [if_pos (by decide +kernel)]; kernel_rfl) | (rw [if_neg (by decide +kernel)]; exact ⟨rfl, rfl⟩))
    (fun os started H enc _ => lifted os started H enc)
theorem plain (f : FuncId) (fn : Func) (hf : Tryd.pinned.checked.prog.funcNamed "loop.example/pub-g01475/laws.FnInputLexer" = some f) (hfn : Tryd.pinned.checked.prog.funcs[f]? = some fn) :
    true = Tryd.pinned.checked.prog.looks [] ∧ ∀ (j : Nat) t, fn.params[j]? = some t → Tryd.pinned.checked.prog.wantsStandIn t = false := by
  obtain rfl : f = 5 := Option.some.inj ((show Tryd.prog.funcNamed "loop.example/pub-g01475/laws.FnInputLexer" = some 5 by kernel_rfl).symm.trans hf) |>.symm
  obtain rfl : fn = Tryd.f5 := (Option.some.inj (Tryd.func5.symm.trans hfn)).symm
  refine ⟨by kernel_rfl, fun j t ht => ?_⟩
  have hall : (Tryd.f5.params.toList.all fun u => !Tryd.prog.wantsStandIn u) = true := by kernel_rfl
  have hm : t ∈ Tryd.f5.params.toList := by simpa using Array.mem_of_getElem? ht
  exact (show Tryd.prog.wantsStandIn t = false by simpa using List.all_eq_true.1 hall t hm)
theorem proved : Rows.FnInputLexerCardSaid :=
  Claim7.holds_tied_plain_at .later [] _ _ _ _ over (fun _ h => by cases h) (by kernel_rfl) (fun _ h => by cases h) fnInputLexer_row_tie rfl ⟨rfl, rfl⟩ (by kernel_rfl) rfl plain (by kernel_rfl)
#print axioms proved
end Go.Proofs.YtgpmmmlmaaiobaaDoor.fnInputLexer
namespace Go.Proofs.YtgpmmmlmaaiobaaDoor
/-- The tied card, under a short name, for the claim. -/
theorem fnInputLexer_holds : Rows.FnInputLexerCardSaid := fnInputLexer.proved
end Go.Proofs.YtgpmmmlmaaiobaaDoor
