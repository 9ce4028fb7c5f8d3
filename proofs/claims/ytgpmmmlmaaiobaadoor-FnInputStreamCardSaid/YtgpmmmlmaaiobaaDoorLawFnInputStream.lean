-- Laid by a program of this session.
import Derived.Test.YtgpmmmlmaaiobaaDoorRows
import Derived.Test.YtgpmmmlmaaiobaaDoorPFnInputStreamx0
import Derived.Test.YtgpmmmlmaaiobaaDoorPFnInputStreamx1
import Derived.Test.YtgpmmmlmaaiobaaDoorPFnInputStreamx2
import Derived.Test.YtgpmmmlmaaiobaaDoorPFnInputStreamx3
import Derived.Test.YtgpmmmlmaaiobaaDoorPFnInputStreamx4
import Derived.Test.YtgpmmmlmaaiobaaDoorPFnInputStreamx5
import Derived.Test.YtgpmmmlmaaiobaaDoorPFnInputStreamx14
import Derived.Test.YtgpmmmlmaaiobaaDoorPureFnInputStream
import Derived.Test.YtgpmmmlmaaiobaaDoorCPairs
import Derived.Test.YtgpmmmlmaaiobaaDoorCards
import Derived.Test.YtgpmmmlmaaiobaaDoorTie
import Derived.LaidMore
import Derived.OpenVars
import Derived.ChangeVars
import Derived.Stop.Joined
import Derived.SevenTiedAt
import Derived.WalkKit
import Derived.ProofKit
import Derived.OpenShut
import Derived.ShutString
import Derived.ChangeOld
import Derived.Below
import Derived.SizedLaws
namespace Go.Proofs.YtgpmmmlmaaiobaaDoor.fnInputStream
open Go.ChangeShapes Go.WideShapes Go.ChangeAt Go.RowKit
open Go.ChangeMaps (open_string shut_string)
set_option linter.unusedVariables false
theorem laidOut : laidOutB Tryd.prog = true := by kernel_rfl
theorem own : ownKnob Tryd.prog.godebug = none := by kernel_rfl
def IsRow (k : IntKind) (w : World) (a : Option Addr) (len cap : Nat) (zs : List Int) : Prop :=
  (a = none ∧ len = 0 ∧ cap = 0 ∧ zs = []) ∨
  ∃ x, a = some x ∧ len ≤ cap ∧ cap ≤ maxLen ∧ zs.length = cap ∧ (∀ i, i < zs.length → w.cell? (x.add i) = some (.int k (zs.getD i 0))) ∧ ∀ n ∈ zs, (Lit.int k n).wf = true
set_option maxRecDepth 100000
theorem tab_TabE {W : World} (hL : laidMetH Tryd.prog Rows.fnInputStreamRow.laid W) : Own.TabE W :=
  Own.eof_of_laid (l := Rows.fnInputStreamRow.laid) (name := "io.EOF") (t := 53) (by kernel_rfl) (by kernel_rfl) Tryd.underlying53 (by kernel_rfl) (show _ ∈ [("io.EOF", Rows.laid_io_EOF)] from .head _) hL
noncomputable def laidWorld (os : Os) : World := World.doorLaid Tryd.prog 400 os
theorem door_met (os : Os) (args : Array Value) : laidMetH Tryd.prog Rows.fnInputStreamRow.laid ((laidWorld os).forCall (fun _ _ => 0) ⟨#[], args, []⟩).memory :=
  laidMetH_of_parts3 (fuel := 8) (laidMet_of_run' 8 (by kernel_rfl) (by kernel_rfl)) (by kernel_rfl) (by kernel_rfl)
set_option maxRecDepth 100000 in
theorem lifted (os : Os) (started : os.Started) (H : Type) (enc : TypeId × Value → H) :
    ReturnsInHanded {} Tryd.checked os 7 .any (fun w args => (Rows.fnInputStreamSpec.pre enc Tryd.prog Tryd.f7 [] false w args ∧ laidMetH Tryd.prog Rows.fnInputStreamRow.laid w) ∧ sizedMet enc Tryd.prog Tryd.f7 (OpenSpec.ofChange Rows.fnInputStreamSpec) false w args) (Rows.fnInputStreamSpec.post enc Tryd.prog Tryd.f7 false true false false) := by
  refine returnsInHanded_of_change_and (C := Tryd.checked) (X := fun w _ => laidMetH Tryd.prog Rows.fnInputStreamRow.laid w) (fun _ _ _ hh h => h.of_heap hh) own started (by kernel_rfl) Tryd.func7
    (ChangeSpec.witness_shaped (enc := enc) (C := Tryd.checked) (os := os) (X := fun w _ => laidMetH Tryd.prog Rows.fnInputStreamRow.laid w) false (laidWorld os) #[.slice none 0 0, .int .i64 0, .int .i64 0, .slice none 0 0] 8 rfl (World.shaped_of_RefB (by kernel_rfl) (by kernel_rfl)) (by kernel_rfl) (by kernel_rfl) (by kernel_rfl) (door_met os _)) ?_
  intro W base args ds gs before hval0 hW hcnd hsz0 hL _
  have hsz : (DataW.weightsEach Tryd.prog (Tryd.f7.params.toList ++ Rows.fnInputStreamSpec.plain.varTypes Tryd.prog) (ds ++ gs)).all (· ≤ reachBytes) = true := hsz0
  have hval : ∀ (j : Nat) t v, Tryd.f7.params[j]? = some t → args[j]? = some v → Value.okWide Tryd.prog W .any base t v := hval0
  have hW' := hW
  obtain ⟨p, q, hA0, hV, rfl, hfz, hnd⟩ := hW
  have hA : DataW.TrodAll enc Tryd.prog W 0 (fun _ => true) true Tryd.f7.params.toList args.toList ds p := hA0
  rw [Tryd.params7] at hA hval hsz
  obtain ⟨v0, vs0, d0, ds0, p0, q0, hargs, rfl, rfl, h0, r0⟩ := trodAll_cons hA
  obtain ⟨v1, vs1, d1, ds1, p1, q1, rfl, rfl, rfl, h1, r1⟩ := trodAll_cons r0
  obtain ⟨v2, vs2, d2, ds2, p2, q2, rfl, rfl, rfl, h2, r2⟩ := trodAll_cons r1
  obtain ⟨v3, vs3, d3, ds3, p3, q3, rfl, rfl, rfl, h3, r3⟩ := trodAll_cons r2
  obtain ⟨rfl, rfl, rfl⟩ := trodAll_nil r3
  obtain rfl : args = #[v0, v1, v2, v3] := by cases args; simp_all
  obtain ⟨rfl, rfl⟩ := trodVars_none hV
  obtain ⟨a0, len0, cap0, rfl⟩ := okWide_slice Tryd.underlying22 (hval 0 22 v0 rfl rfl)
  have k0 := h0
  have lt0 : ∀ x ∈ p0, x.block < W.heap.size := by obtain ⟨m, hm⟩ := k0; exact DataW.trod_lt m _ _ _ hm
  obtain ⟨z0, w0⟩ : ∃ zs, IsRow .u8 W a0 len0 cap0 zs := by
    obtain ⟨fuel, hf⟩ := h0
    rcases open_ints Tryd.underlying22 Tryd.underlying5 (by kernel_rfl) hf with ⟨hcs, _⟩ | ⟨x, l, c, zs, hcs, _, hl, hm, hz, _, hcell, hwz⟩
    · simp [Value.cells] at hcs
      obtain ⟨rfl, rfl, rfl⟩ := hcs
      exact ⟨[], .inl ⟨rfl, rfl, rfl, rfl⟩⟩
    · simp [Value.cells] at hcs
      obtain ⟨rfl, rfl, rfl⟩ := hcs
      exact ⟨zs, .inr ⟨_, rfl, hl, hm, by simpa using hz, hcell, hwz⟩⟩
  obtain ⟨l0, rfl, hr0, hm0, hw0, hc0⟩ := Go.Proofs.YtgpmmmlmaaiobaaDoorW.PrintWords.ReadsInt.ofRowC w0
  obtain ⟨a1, rfl, rfl, rfl, w1⟩ := open_int Tryd.underlying3 (hval 1 3 v1 rfl rfl) h1
  obtain ⟨a2, rfl, rfl, rfl, w2⟩ := open_int Tryd.underlying3 (hval 2 3 v2 rfl rfl) h2
  obtain ⟨a3, len3, cap3, rfl⟩ := okWide_slice Tryd.underlying35 (hval 3 35 v3 rfl rfl)
  have k3 := h3
  have lt3 : ∀ x ∈ p3, x.block < W.heap.size := by obtain ⟨m, hm⟩ := k3; exact DataW.trod_lt m _ _ _ hm
  obtain ⟨L3, hn3, hc3, hC3, hm3, hb3⟩ : ∃ L : List Own.S44, L.length = len3 ∧ len3 ≤ cap3 ∧ Go.Proofs.YtgpmmmlmaaiobaaDoorW.PrintWords.Kd.C Own.k44 W a3 len3 L ∧ len3 ≤ maxLen ∧ ∀ x ∈ L, (fun x => (Lit.int .i64 x.f0).wf = true ∧ (Lit.int .i64 x.f1).wf = true) x := by
    obtain ⟨fuel, hf⟩ := h3
    refine Own.open_pairs Own.k44 rfl (fun x => (Lit.int .i64 x.f0).wf = true ∧ (Lit.int .i64 x.f1).wf = true) Tryd.underlying35 Tryd.underlying44 (by kernel_rfl) rfl rfl (by kernel_rfl) (by kernel_rfl) (fun n v0 v1 y0 y1 g0 g1 => ?_) (by simpa [Value.cells] using hf)
    obtain ⟨s0, e0, _, b0⟩ := DataW.trod_int Tryd.underlying2 g0
    obtain ⟨s1, e1, _, b1⟩ := DataW.trod_int Tryd.underlying3 g1
    obtain rfl := List.head_eq_of_cons_eq e0
    obtain rfl := List.head_eq_of_cons_eq e1
    exact ⟨⟨s0, s1⟩, ⟨b0, b1⟩, Own.k44_mk W ⟨s0, s1⟩⟩
  subst hn3
  clear hA0 hval0 hsz0 hsz
  obtain ⟨k, hk⟩ := Pure.FnInputStream l0 hm0 hw0 a1 w1 a2 w2 L3 hm3 hb3
  have HTabE : Go.Proofs.YtgpmmmlmaaiobaaDoorW.PrintWords.Aside0 (Own.TabE W) := ⟨tab_TabE hL⟩
  have CH_ : ∀ {kk_ : IntKind} {AA_ : Option Addr} {xx_ : List Int}, (Go.Proofs.YtgpmmmlmaaiobaaDoorW.PrintWords.Kd.int kk_).C W AA_ xx_.length xx_ → Go.Proofs.YtgpmmmlmaaiobaaDoorW.PrintWords.Kd.F (Go.Proofs.YtgpmmmlmaaiobaaDoorW.PrintWords.Kd.int kk_) W (fun _ => True) AA_ xx_.length xx_ := fun hh_ W' hW => (Go.Proofs.YtgpmmmlmaaiobaaDoorW.PrintWords.Kd.heap_int _).C (fun k hk => hW k trivial hk) hh_
  refine (PFnInputStream.laws_FnInputStream.calls k _ _ l0 a1 a2 _ _ L3 true W (Go.Proofs.YtgpmmmlmaaiobaaDoorW.PrintWords.Kd.C_of_reads (d := (0 : Int)) (h1 := fun _ => rfl) hr0) hc0 hC3 hc3 hk HTabE).mono fun e W' ⟨he, bel⟩ => ?_
  subst he
  exact ⟨_, rfl, _, _, _, [], _, [], hW', trodAll_mk1 (shut_bool Tryd.underlying4 _), (trodAll_cons_mk (Below.trod laidOut (by kernel_rfl) (of_decide_eq_true (by kernel_rfl)) k0 bel lt0) (trodAll_cons_mk (shut_int Tryd.underlying3 w1) (trodAll_cons_mk (shut_int Tryd.underlying3 w2) (trodAll_cons_mk (Below.trod laidOut (by kernel_rfl) (of_decide_eq_true (by kernel_rfl)) k3 bel lt3) trodAll_mk0)))), rfl, bel.frame _, fun h => by cases h⟩
theorem over : Rows.fnInputStreamRow.holds Tryd.pinned (OpenSpec.ofChange Rows.fnInputStreamSpec) :=
  OpenClaim.holds_of_wide 7 Tryd.f7 rfl rfl rfl rfl rfl rfl rfl ⟨rfl, rfl, rfl, rfl, rfl⟩ rfl rfl rfl rfl rfl (by kernel_rfl) Tryd.func7 (by kernel_rfl)
    (of_decide_eq_true (by kernel_rfl)) (by unfold Func.isWrapper; first | (rw [if_pos (by decide +kernel)]; kernel_rfl) | (rw [if_neg (by decide +kernel)]; exact ⟨rfl, rfl⟩))
    (fun os started H enc _ => lifted os started H enc)
theorem plain (f : FuncId) (fn : Func) (hf : Tryd.pinned.checked.prog.funcNamed "loop.example/pub-g01475/laws.FnInputStream" = some f) (hfn : Tryd.pinned.checked.prog.funcs[f]? = some fn) :
    true = Tryd.pinned.checked.prog.looks [] ∧ ∀ (j : Nat) t, fn.params[j]? = some t → Tryd.pinned.checked.prog.wantsStandIn t = false := by
  obtain rfl : f = 7 := Option.some.inj ((show Tryd.prog.funcNamed "loop.example/pub-g01475/laws.FnInputStream" = some 7 by kernel_rfl).symm.trans hf) |>.symm
  obtain rfl : fn = Tryd.f7 := (Option.some.inj (Tryd.func7.symm.trans hfn)).symm
  refine ⟨by kernel_rfl, fun j t ht => ?_⟩
  have hall : (Tryd.f7.params.toList.all fun u => !Tryd.prog.wantsStandIn u) = true := by kernel_rfl
  have hm : t ∈ Tryd.f7.params.toList := by simpa using Array.mem_of_getElem? ht
  exact (show Tryd.prog.wantsStandIn t = false by simpa using List.all_eq_true.1 hall t hm)
theorem proved : Rows.FnInputStreamCardSaid :=
  Claim7.holds_tied_plain_at .later [] _ _ _ _ over (fun _ h => by cases h) (by kernel_rfl) (fun _ h => by cases h) fnInputStream_row_tie rfl ⟨rfl, rfl⟩ (by kernel_rfl) rfl plain (by kernel_rfl)
#print axioms proved
end Go.Proofs.YtgpmmmlmaaiobaaDoor.fnInputStream
namespace Go.Proofs.YtgpmmmlmaaiobaaDoor
/-- The tied card, under a short name, for the claim. -/
theorem fnInputStream_holds : Rows.FnInputStreamCardSaid := fnInputStream.proved
end Go.Proofs.YtgpmmmlmaaiobaaDoor
