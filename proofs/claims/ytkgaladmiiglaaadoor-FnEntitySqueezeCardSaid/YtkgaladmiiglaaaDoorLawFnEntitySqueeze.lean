-- Laid by a program of this session.
import Derived.Test.YtkgaladmiiglaaaDoorRows
import Derived.Test.YtkgaladmiiglaaaDoorCEntK
import Derived.Test.YtkgaladmiiglaaaDoorCPairs
import Derived.Test.YtkgaladmiiglaaaDoorCLists
import Derived.Test.YtkgaladmiiglaaaDoorCTabM
import Derived.Test.YtkgaladmiiglaaaDoorCards
import Derived.Test.YtkgaladmiiglaaaDoorTie
import Derived.LaidMore
import Derived.OpenVars
import Derived.ChangeVars
import Derived.Stop.Joined
import Derived.SevenTiedAt
import Derived.WalkKit
import Derived.ProofKit
import Derived.OpenShut
import Derived.ShutString
import Derived.ChangeOld
import Derived.Below
import Derived.SizedLaws
namespace Go.Proofs.YtkgaladmiiglaaaDoor.fnEntitySqueeze
open Go.ChangeShapes Go.WideShapes Go.ChangeAt Go.RowKit
open Go.ChangeMaps (open_string shut_string)
set_option linter.unusedVariables false
theorem laidOut : laidOutB Tryd.prog = true := by kernel_rfl
theorem own : ownKnob Tryd.prog.godebug = none := by kernel_rfl
def IsRow (k : IntKind) (w : World) (a : Option Addr) (len cap : Nat) (zs : List Int) : Prop :=
  (a = none ∧ len = 0 ∧ cap = 0 ∧ zs = []) ∨
  ∃ x, a = some x ∧ len ≤ cap ∧ cap ≤ maxLen ∧ zs.length = cap ∧ (∀ i, i < zs.length → w.cell? (x.add i) = some (.int k (zs.getD i 0))) ∧ ∀ n ∈ zs, (Lit.int k n).wf = true
set_option maxRecDepth 100000
theorem tab_TabN {W : World} (hL : laidMetH Tryd.prog Rows.fnEntitySqueezeRow.laid W) : Own.TabN W :=
  Own.tabAt_of_laid (l := Rows.fnEntitySqueezeRow.laid) (name := "loop.example/pub-g01475/pub/tdparse.newlineTable") (d := Rows.laid_loop_example_pub_g01475_pub_tdparse_newlineTable) (g := 1) (t := 52) (e := 4) (f := Own.isN) (by kernel_rfl) (by kernel_rfl) Tryd.underlying52 Tryd.underlying4 (by kernel_rfl) (by kernel_rfl) (by kernel_rfl) (show _ ∈ [("math/bits.deBruijn32tab", Rows.laid_math_bits_deBruijn32tab), ("math/bits.deBruijn64tab", Rows.laid_math_bits_deBruijn64tab), ("internal/strconv.uint64pow10", Rows.laid_internal_strconv_uint64pow10), ("loop.example/pub-g01475/pub/tdparse.whitespaceTable", Rows.laid_loop_example_pub_g01475_pub_tdparse_whitespaceTable), ("loop.example/pub-g01475/pub/tdparse.newlineTable", Rows.laid_loop_example_pub_g01475_pub_tdparse_newlineTable)] from .tail _ (.tail _ (.tail _ (.tail _ (.head _))))) (by kernel_rfl) hL
theorem tab_TabW {W : World} (hL : laidMetH Tryd.prog Rows.fnEntitySqueezeRow.laid W) : Own.TabW W :=
  Own.tabAt_of_laid (l := Rows.fnEntitySqueezeRow.laid) (name := "loop.example/pub-g01475/pub/tdparse.whitespaceTable") (d := Rows.laid_loop_example_pub_g01475_pub_tdparse_whitespaceTable) (g := 0) (t := 52) (e := 4) (f := Own.isW) (by kernel_rfl) (by kernel_rfl) Tryd.underlying52 Tryd.underlying4 (by kernel_rfl) (by kernel_rfl) (by kernel_rfl) (show _ ∈ [("math/bits.deBruijn32tab", Rows.laid_math_bits_deBruijn32tab), ("math/bits.deBruijn64tab", Rows.laid_math_bits_deBruijn64tab), ("internal/strconv.uint64pow10", Rows.laid_internal_strconv_uint64pow10), ("loop.example/pub-g01475/pub/tdparse.whitespaceTable", Rows.laid_loop_example_pub_g01475_pub_tdparse_whitespaceTable), ("loop.example/pub-g01475/pub/tdparse.newlineTable", Rows.laid_loop_example_pub_g01475_pub_tdparse_newlineTable)] from .tail _ (.tail _ (.tail _ (.head _)))) (by kernel_rfl) hL
noncomputable def laidWorld (os : Os) : World := { World.holding Tryd.prog os ⟨#[], #[], []⟩ with heap := ((((((World.holding Tryd.prog os ⟨#[], #[], []⟩).heap.modify 3 (Own.layI .u8 [0, 1, 28, 2, 29, 14, 24, 3, 30, 22, 20, 15, 25, 17, 4, 8, 31, 27, 13, 23, 21, 19, 16, 7, 26, 12, 18, 6, 11, 5, 10, 9])).modify 4 (Own.layI .u8 [0, 1, 56, 2, 57, 49, 28, 3, 61, 58, 42, 50, 38, 29, 17, 4, 62, 47, 59, 36, 45, 43, 51, 22, 53, 39, 33, 30, 24, 18, 12, 5, 63, 55, 48, 27, 60, 41, 37, 16, 46, 35, 44, 21, 52, 32, 23, 11, 54, 26, 40, 15, 34, 20, 31, 10, 25, 14, 19, 9, 13, 8, 7, 6])).modify 2 (Own.layI .u64 [1, 10, 100, 1000, 10000, 100000, 1000000, 10000000, 100000000, 1000000000, 10000000000, 100000000000, 1000000000000, 10000000000000, 100000000000000, 1000000000000000, 10000000000000000, 100000000000000000, 1000000000000000000, 10000000000000000000])).modify 0 (Own.layTab Own.isW)).modify 1 (Own.layTab Own.isN)) }
theorem ent_0 (os : Os) (args : Array Value) : Own.EntV Tryd.prog ((laidWorld os).forCall (fun _ _ => 0) ⟨#[], args, []⟩).memory ("math/bits.deBruijn32tab", Rows.laid_math_bits_deBruijn32tab) [3] :=
  Own.EntV.plain ⟨69, Own.cellsI .u8 [0, 1, 28, 2, 29, 14, 24, 3, 30, 22, 20, 15, 25, 17, 4, 8, 31, 27, 13, 23, 21, 19, 16, 7, 26, 12, 18, 6, 11, 5, 10, 9], 3, 69, by kernel_rfl, by kernel_rfl, by kernel_rfl, by kernel_rfl, Own.cellsI_plain _ _⟩
theorem ent_1 (os : Os) (args : Array Value) : Own.EntV Tryd.prog ((laidWorld os).forCall (fun _ _ => 0) ⟨#[], args, []⟩).memory ("math/bits.deBruijn64tab", Rows.laid_math_bits_deBruijn64tab) [4] :=
  Own.EntV.plain ⟨70, Own.cellsI .u8 [0, 1, 56, 2, 57, 49, 28, 3, 61, 58, 42, 50, 38, 29, 17, 4, 62, 47, 59, 36, 45, 43, 51, 22, 53, 39, 33, 30, 24, 18, 12, 5, 63, 55, 48, 27, 60, 41, 37, 16, 46, 35, 44, 21, 52, 32, 23, 11, 54, 26, 40, 15, 34, 20, 31, 10, 25, 14, 19, 9, 13, 8, 7, 6], 3, 70, by kernel_rfl, by kernel_rfl, by kernel_rfl, by kernel_rfl, Own.cellsI_plain _ _⟩
theorem ent_2 (os : Os) (args : Array Value) : Own.EntV Tryd.prog ((laidWorld os).forCall (fun _ _ => 0) ⟨#[], args, []⟩).memory ("internal/strconv.uint64pow10", Rows.laid_internal_strconv_uint64pow10) [2] :=
  Own.EntV.plain ⟨63, Own.cellsI .u64 [1, 10, 100, 1000, 10000, 100000, 1000000, 10000000, 100000000, 1000000000, 10000000000, 100000000000, 1000000000000, 10000000000000, 100000000000000, 1000000000000000, 10000000000000000, 100000000000000000, 1000000000000000000, 10000000000000000000], 3, 63, by kernel_rfl, by kernel_rfl, by kernel_rfl, by kernel_rfl, Own.cellsI_plain _ _⟩
theorem ent_3 (os : Os) (args : Array Value) : Own.EntV Tryd.prog ((laidWorld os).forCall (fun _ _ => 0) ⟨#[], args, []⟩).memory ("loop.example/pub-g01475/pub/tdparse.whitespaceTable", Rows.laid_loop_example_pub_g01475_pub_tdparse_whitespaceTable) [0] :=
  Own.EntV.plain ⟨52, Own.cellsOfTab Own.isW, 3, 52, by kernel_rfl, by kernel_rfl, by kernel_rfl, by kernel_rfl, Own.cellsOfTab_plain _⟩
theorem ent_4 (os : Os) (args : Array Value) : Own.EntV Tryd.prog ((laidWorld os).forCall (fun _ _ => 0) ⟨#[], args, []⟩).memory ("loop.example/pub-g01475/pub/tdparse.newlineTable", Rows.laid_loop_example_pub_g01475_pub_tdparse_newlineTable) [1] :=
  Own.EntV.plain ⟨52, Own.cellsOfTab Own.isN, 3, 52, by kernel_rfl, by kernel_rfl, by kernel_rfl, by kernel_rfl, Own.cellsOfTab_plain _⟩
theorem door_met (os : Os) (args : Array Value) : laidMetH Tryd.prog Rows.fnEntitySqueezeRow.laid ((laidWorld os).forCall (fun _ _ => 0) ⟨#[], args, []⟩).memory := by
  rw [MakeChecks.laidMetH_plain _ _ _ (by kernel_rfl)]
  exact Own.Many.met (Own.Many.cons (ent_0 os args) (Own.Many.cons (ent_1 os args) (Own.Many.cons (ent_2 os args) (Own.Many.cons (ent_3 os args) (Own.Many.cons (ent_4 os args) Own.Many.nil (of_decide_eq_true (by kernel_rfl))) (of_decide_eq_true (by kernel_rfl))) (of_decide_eq_true (by kernel_rfl))) (of_decide_eq_true (by kernel_rfl))) (of_decide_eq_true (by kernel_rfl)))
theorem two_vars {H : Type} {enc : TypeId × Value → H} {P : Program} {w : World} {sp : Nat → Bool} {n0 n1 : String} {gs : List (DataW H)} {ps : List MemPlace} (h : DataW.TrodVars enc P w sp [n0, n1] gs ps) : ∃ a b, gs = [a, b] := by
  cases gs with
  | nil => simp [DataW.TrodVars] at h
  | cons d ds =>
    obtain ⟨_, _, _, _, _, _, _, _, _, _, hs, _⟩ := h
    obtain ⟨_, _, _, _, b, _, rfl, _⟩ := trodVars_one hs
    exact ⟨d, b, rfl⟩
set_option maxRecDepth 100000 in
theorem lifted (os : Os) (started : os.Started) (H : Type) (enc : TypeId × Value → H) :
    ReturnsInHanded {} Tryd.checked os 4 .any (fun w args => (Rows.fnEntitySqueezeSpec.pre enc Tryd.prog Tryd.f4 [] false w args ∧ laidMetH Tryd.prog Rows.fnEntitySqueezeRow.laid w) ∧ sizedMet enc Tryd.prog Tryd.f4 (OpenSpec.ofChange Rows.fnEntitySqueezeSpec) false w args) (Rows.fnEntitySqueezeSpec.post enc Tryd.prog Tryd.f4 false true false false) := by
  refine returnsInHanded_of_change_and (C := Tryd.checked) (X := fun w _ => laidMetH Tryd.prog Rows.fnEntitySqueezeRow.laid w) (fun _ _ _ hh h => h.of_heap hh) own started (by kernel_rfl) Tryd.func4
    (ChangeSpec.witness_at (enc := enc) (C := Tryd.checked) (os := os) (X := fun w _ => laidMetH Tryd.prog Rows.fnEntitySqueezeRow.laid w) false (laidWorld os) #[.slice none 0 0, .slice none 0 0, .slice none 0 0] 8 rfl (by kernel_rfl) (by kernel_rfl) (by kernel_rfl) (by kernel_rfl) (by kernel_rfl) (door_met os _)) ?_
  intro W base args ds gs before hval0 hW hcnd hsz0 hL _
  have hsz : (DataW.weightsEach Tryd.prog (Tryd.f4.params.toList ++ Rows.fnEntitySqueezeSpec.plain.varTypes Tryd.prog) (ds ++ gs)).all (· ≤ reachBytes) = true := hsz0
  have hval : ∀ (j : Nat) t v, Tryd.f4.params[j]? = some t → args[j]? = some v → Value.okWide Tryd.prog W .any base t v := hval0
  have hW' := hW
  obtain ⟨p, q, hA0, hV, rfl, hfz, hnd⟩ := hW
  have hA : DataW.TrodAll enc Tryd.prog W 0 (fun _ => true) true Tryd.f4.params.toList args.toList ds p := hA0
  rw [Tryd.params4] at hA hval hsz
  obtain ⟨v0, vs0, d0, ds0, p0, q0, hargs, rfl, rfl, h0, r0⟩ := trodAll_cons hA
  obtain ⟨v1, vs1, d1, ds1, p1, q1, rfl, rfl, rfl, h1, r1⟩ := trodAll_cons r0
  obtain ⟨v2, vs2, d2, ds2, p2, q2, rfl, rfl, rfl, h2, r2⟩ := trodAll_cons r1
  obtain ⟨rfl, rfl, rfl⟩ := trodAll_nil r2
  obtain rfl : args = #[v0, v1, v2] := by cases args; simp_all
  obtain ⟨g1_, g2_, rfl⟩ := two_vars hV
  obtain ⟨a0, len0, cap0, rfl⟩ := okWide_slice Tryd.underlying23 (hval 0 23 v0 rfl rfl)
  have k0 := h0
  have lt0 : ∀ x ∈ p0, x.block < W.heap.size := by obtain ⟨m, hm⟩ := k0; exact DataW.trod_lt m _ _ _ hm
  obtain ⟨L0, hn0, hc0, hC0, hm0, hb0⟩ : ∃ L : List Own.S36, L.length = len0 ∧ len0 ≤ cap0 ∧ Go.Proofs.YtkgaladmiiglaaaDoorW.PrintWords.Kd.C Own.k36 W a0 len0 L ∧ len0 ≤ maxLen ∧ ∀ x ∈ L, (fun x => x.f0.size ≤ maxLen ∧ x.f1.size ≤ maxLen) x := by
    obtain ⟨fuel, hf⟩ := h0
    refine Own.open_pairs Own.k36 rfl (fun x => x.f0.size ≤ maxLen ∧ x.f1.size ≤ maxLen) Tryd.underlying23 Tryd.underlying36 (by kernel_rfl) rfl rfl (by kernel_rfl) (by kernel_rfl) (fun n v0 v1 y0 y1 g0 g1 => ?_) (by simpa [Value.cells] using hf)
    obtain ⟨s0, e0, _, b0⟩ := DataW.trod_string Tryd.underlying9 g0
    obtain ⟨s1, e1, _, b1⟩ := DataW.trod_string Tryd.underlying9 g1
    obtain rfl := List.head_eq_of_cons_eq e0
    obtain rfl := List.head_eq_of_cons_eq e1
    exact ⟨⟨s0, s1⟩, ⟨b0, b1⟩, Own.k36_mk W ⟨s0, s1⟩⟩
  subst hn0
  obtain ⟨a1, len1, cap1, rfl⟩ := okWide_slice Tryd.underlying30 (hval 1 30 v1 rfl rfl)
  have k1 := h1
  have lt1 : ∀ x ∈ p1, x.block < W.heap.size := by obtain ⟨m, hm⟩ := k1; exact DataW.trod_lt m _ _ _ hm
  obtain ⟨L1, hn1, hc1, hC1, hm1, hb1⟩ : ∃ L : List (List Int), L.length = len1 ∧ len1 ≤ cap1 ∧ Go.Proofs.YtkgaladmiiglaaaDoorW.PrintWords.Kd.C (Go.Proofs.YtkgaladmiiglaaaDoorW.PrintWords.Kd.slice 5 (Go.Proofs.YtkgaladmiiglaaaDoorW.PrintWords.Kd.int .u8)) W a1 len1 L ∧ len1 ≤ maxLen ∧ ∀ p ∈ L, p.length ≤ maxLen ∧ ∀ y ∈ p, (Lit.int .u8 y).wf = true := by
    obtain ⟨fuel, hf⟩ := h1
    exact Own.open_LL Tryd.underlying30 Tryd.underlying22 Tryd.underlying5 (by kernel_rfl) (by kernel_rfl) (by simpa [Value.cells] using hf)
  subst hn1
  obtain ⟨a2, len2, cap2, rfl⟩ := okWide_slice Tryd.underlying31 (hval 2 31 v2 rfl rfl)
  have k2 := h2
  have lt2 : ∀ x ∈ p2, x.block < W.heap.size := by obtain ⟨m, hm⟩ := k2; exact DataW.trod_lt m _ _ _ hm
  obtain ⟨z2, w2⟩ : ∃ zs, IsRow .i64 W a2 len2 cap2 zs := by
    obtain ⟨fuel, hf⟩ := h2
    rcases open_ints Tryd.underlying31 Tryd.underlying3 (by kernel_rfl) hf with ⟨hcs, _⟩ | ⟨x, l, c, zs, hcs, _, hl, hm, hz, _, hcell, hwz⟩
    · simp [Value.cells] at hcs
      obtain ⟨rfl, rfl, rfl⟩ := hcs
      exact ⟨[], .inl ⟨rfl, rfl, rfl, rfl⟩⟩
    · simp [Value.cells] at hcs
      obtain ⟨rfl, rfl, rfl⟩ := hcs
      exact ⟨zs, .inr ⟨_, rfl, hl, hm, by simpa using hz, hcell, hwz⟩⟩
  obtain ⟨l2, rfl, hr2, hm2, hw2, hc2⟩ := Go.Proofs.YtkgaladmiiglaaaDoorW.PrintWords.ReadsInt.ofRowC w2
  clear hA0 hval0 hsz0 hsz
  have HTabN : Go.Proofs.YtkgaladmiiglaaaDoorW.PrintWords.Aside0 (Own.TabN W) := ⟨tab_TabN hL⟩
  have HTabW : Go.Proofs.YtkgaladmiiglaaaDoorW.PrintWords.Aside0 (Own.TabW W) := ⟨tab_TabW hL⟩
  refine (Own.fnEntitySqueeze_true a0 cap0 L0 a1 cap1 L1 _ _ l2 W hC0 hc0 hC1 hc1 (Go.Proofs.YtkgaladmiiglaaaDoorW.PrintWords.Kd.C_of_reads (d := (0 : Int)) (h1 := fun _ => rfl) hr2) hc2 (fun p hp c hc => by have := (hb1 p hp).2 c hc; simp [Lit.wf, IntKind.min, IntKind.max, IntKind.signed, IntKind.bits] at this; omega) HTabN HTabW).mono fun e W' ⟨he, bel⟩ => ?_
  subst he
  exact ⟨_, rfl, _, _, _, [], _, _, hW', trodAll_mk1 (shut_bool Tryd.underlying4 _), (trodAll_cons_mk (Below.trod laidOut (by kernel_rfl) (of_decide_eq_true (by kernel_rfl)) k0 bel lt0) (trodAll_cons_mk (Below.trod laidOut (by kernel_rfl) (of_decide_eq_true (by kernel_rfl)) k1 bel lt1) (trodAll_cons_mk (Below.trod laidOut (by kernel_rfl) (of_decide_eq_true (by kernel_rfl)) k2 bel lt2) trodAll_mk0))), Below.trodVars laidOut bel (by kernel_rfl) hV, bel.frame _, fun h => by cases h⟩
theorem over : Rows.fnEntitySqueezeRow.holds Tryd.pinned (OpenSpec.ofChange Rows.fnEntitySqueezeSpec) :=
  OpenClaim.holds_of_wide 4 Tryd.f4 rfl rfl rfl rfl rfl rfl rfl ⟨rfl, rfl, rfl, rfl, rfl⟩ rfl rfl rfl rfl rfl (by kernel_rfl) Tryd.func4 (by kernel_rfl)
    (of_decide_eq_true (by kernel_rfl)) (by unfold Func.isWrapper; first | (rw [if_pos (by decide +kernel)]; kernel_rfl) | (rw [if_neg (by decide +kernel)]; exact ⟨rfl, rfl⟩))
    (fun os started H enc _ => lifted os started H enc)
theorem plain (f : FuncId) (fn : Func) (hf : Tryd.pinned.checked.prog.funcNamed "loop.example/pub-g01475/laws.FnEntitySqueeze" = some f) (hfn : Tryd.pinned.checked.prog.funcs[f]? = some fn) :
    false = Tryd.pinned.checked.prog.looks [] ∧ ∀ (j : Nat) t, fn.params[j]? = some t → Tryd.pinned.checked.prog.wantsStandIn t = false := by
  obtain rfl : f = 4 := Option.some.inj ((show Tryd.prog.funcNamed "loop.example/pub-g01475/laws.FnEntitySqueeze" = some 4 by kernel_rfl).symm.trans hf) |>.symm
  obtain rfl : fn = Tryd.f4 := (Option.some.inj (Tryd.func4.symm.trans hfn)).symm
  refine ⟨by kernel_rfl, fun j t ht => ?_⟩
  have hall : (Tryd.f4.params.toList.all fun u => !Tryd.prog.wantsStandIn u) = true := by kernel_rfl
  have hm : t ∈ Tryd.f4.params.toList := by simpa using Array.mem_of_getElem? ht
  exact (show Tryd.prog.wantsStandIn t = false by simpa using List.all_eq_true.1 hall t hm)
theorem proved : Rows.FnEntitySqueezeCardSaid :=
  Claim7.holds_tied_plain_at .later [] _ _ _ _ over (fun _ h => by cases h) (by kernel_rfl) (fun _ h => by cases h) fnEntitySqueeze_row_tie rfl ⟨rfl, rfl⟩ (by kernel_rfl) rfl plain (by kernel_rfl)
#print axioms proved
end Go.Proofs.YtkgaladmiiglaaaDoor.fnEntitySqueeze
namespace Go.Proofs.YtkgaladmiiglaaaDoor
/-- The tied card, under a short name, for the claim. -/
theorem fnEntitySqueeze_holds : Rows.FnEntitySqueezeCardSaid := fnEntitySqueeze.proved
end Go.Proofs.YtkgaladmiiglaaaDoor
