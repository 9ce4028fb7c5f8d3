-- Laid by a program of this session.
import Derived.Test.YtohfnhfpiipglaaRows
import Derived.Test.YtohfnhfpiipglaaCScP
import Derived.LaidMore
import Derived.OpenVars
import Derived.ChangeVars
import Derived.Stop.Joined
import Derived.SevenTiedAt
import Derived.WalkKit
import Derived.ProofKit
import Derived.OpenShut
import Derived.ShutString
import Derived.SliceStrings
import Derived.ChangeMaps5
import Derived.ChangeOld
import Derived.Below
import Derived.SizedLaws
namespace Go.Proofs.Ytohfnhfpiipglaa.fnUse
open Go.ChangeShapes Go.WideShapes Go.ChangeAt Go.RowKit
open Go.ChangeMaps (open_string shut_string)
set_option linter.unusedVariables false
theorem laidOut : laidOutB Try.prog = true := by kernel_rfl
theorem own : ownKnob Try.prog.godebug = none := by kernel_rfl
set_option maxRecDepth 100000 in
theorem lifted (os : Os) (started : os.Started) (H : Type) (enc : TypeId × Value → H) :
    ReturnsInHanded {} Try.checked os 4 .any (Rows.fnUseSpec.pre6 enc Try.prog Try.f4 Rows.fnUseRow.domain false) (Rows.fnUseSpec.post enc Try.prog Try.f4 false true false false) := by
  refine returnsInHanded_of_change_sized (C := Try.checked) own started (by kernel_rfl) Try.func4
    (ChangeSpec.witness6 (enc := enc) (C := Try.checked) false ⟨#[], #[.slice none 0 0, .slice none 0 0], []⟩ 8 (by kernel_rfl) (by kernel_rfl) (by kernel_rfl) (by kernel_rfl)) ?_
  intro W base args ds gs before hval0 hW hcnd hsz0 _
  have hsz : (DataW.weightsEach Try.prog (Try.f4.params.toList ++ Rows.fnUseSpec.plain.varTypes Try.prog) (ds ++ gs)).all (· ≤ reachBytes) = true := hsz0
  have hval : ∀ (j : Nat) t v, Try.f4.params[j]? = some t → args[j]? = some v → Value.okWide Try.prog W .any base t v := hval0
  have hW' := hW
  obtain ⟨p, q, hA0, hV, rfl, hfz, hnd⟩ := hW
  have hA : DataW.TrodAll enc Try.prog W 0 (fun _ => true) true Try.f4.params.toList args.toList ds p := hA0
  rw [Try.params4] at hA hval hsz
  obtain ⟨v0, vs0, d0, ds0, p0, q0, hargs, rfl, rfl, h0, r0⟩ := trodAll_cons hA
  obtain ⟨v1, vs1, d1, ds1, p1, q1, rfl, rfl, rfl, h1, r1⟩ := trodAll_cons r0
  obtain ⟨rfl, rfl, rfl⟩ := trodAll_nil r1
  obtain rfl : args = #[v0, v1] := by cases args; simp_all
  obtain ⟨rfl, rfl⟩ := trodVars_none hV
  obtain ⟨a0, len0, cap0, rfl⟩ := okWide_slice Try.underlying25 (hval 0 25 v0 rfl rfl)
  have k0 := h0
  have lt0 : ∀ x ∈ p0, x.block < W.heap.size := by obtain ⟨m, hm⟩ := k0; exact DataW.trod_lt m _ _ _ hm
  obtain ⟨L0, hn0, hc0, hC0⟩ : ∃ L : List ByteArray, L.length = len0 ∧ len0 ≤ cap0 ∧ Go.Proofs.YtohfnhfpiipglaaW.PrintWords.Kd.C Go.Proofs.YtohfnhfpiipglaaW.PrintWords.Kd.string W a0 len0 L := by
    obtain ⟨fuel, hf⟩ := h0
    rcases open_strings Try.underlying25 Try.underlying9 (by kernel_rfl) hf with ⟨hcs, _⟩ | ⟨x, l, c, ss, hcs, _, hl, hm, hss, _, hcell, hsz⟩
    · simp [Value.cells] at hcs
      obtain ⟨rfl, rfl, rfl⟩ := hcs
      exact ⟨[], rfl, Nat.le_refl _, Go.Proofs.YtohfnhfpiipglaaW.PrintWords.Kd.C_nil _ W⟩
    · simp [Value.cells] at hcs
      obtain ⟨rfl, rfl, rfl⟩ := hcs
      have hsl : ss.length = cap0 := by simpa using hss
      refine ⟨ss.take len0, by rw [List.length_take]; omega, hl, Go.Proofs.YtohfnhfpiipglaaW.PrintWords.Kd.C_of_reads (d := ByteArray.empty) (h1 := fun _ => rfl) ⟨by rw [List.length_take]; omega, by have : maxLen = 9223372036854775807 := rfl; omega, fun _ => ⟨_, rfl, fun j hj => ?_⟩⟩⟩
      rw [hcell j (by omega)]
      simp [List.getD_eq_getElem?_getD, hj]
  subst hn0
  obtain ⟨a1, len1, cap1, rfl⟩ := okWide_slice Try.underlying25 (hval 1 25 v1 rfl rfl)
  have k1 := h1
  have lt1 : ∀ x ∈ p1, x.block < W.heap.size := by obtain ⟨m, hm⟩ := k1; exact DataW.trod_lt m _ _ _ hm
  obtain ⟨L1, hn1, hc1, hC1⟩ : ∃ L : List ByteArray, L.length = len1 ∧ len1 ≤ cap1 ∧ Go.Proofs.YtohfnhfpiipglaaW.PrintWords.Kd.C Go.Proofs.YtohfnhfpiipglaaW.PrintWords.Kd.string W a1 len1 L := by
    obtain ⟨fuel, hf⟩ := h1
    rcases open_strings Try.underlying25 Try.underlying9 (by kernel_rfl) hf with ⟨hcs, _⟩ | ⟨x, l, c, ss, hcs, _, hl, hm, hss, _, hcell, hsz⟩
    · simp [Value.cells] at hcs
      obtain ⟨rfl, rfl, rfl⟩ := hcs
      exact ⟨[], rfl, Nat.le_refl _, Go.Proofs.YtohfnhfpiipglaaW.PrintWords.Kd.C_nil _ W⟩
    · simp [Value.cells] at hcs
      obtain ⟨rfl, rfl, rfl⟩ := hcs
      have hsl : ss.length = cap1 := by simpa using hss
      refine ⟨ss.take len1, by rw [List.length_take]; omega, hl, Go.Proofs.YtohfnhfpiipglaaW.PrintWords.Kd.C_of_reads (d := ByteArray.empty) (h1 := fun _ => rfl) ⟨by rw [List.length_take]; omega, by have : maxLen = 9223372036854775807 := rfl; omega, fun _ => ⟨_, rfl, fun j hj => ?_⟩⟩⟩
      rw [hcell j (by omega)]
      simp [List.getD_eq_getElem?_getD, hj]
  subst hn1
  clear hA0 hval0 hsz0 hsz
  refine (Own.fnUse_true a0 cap0 L0 a1 cap1 L1 W hC0 hc0 hC1 hc1).mono fun e W' ⟨he, bel⟩ => ?_
  subst he
  exact ⟨_, rfl, _, _, _, [], _, [], hW', trodAll_mk1 (shut_bool Try.underlying4 _), (trodAll_cons_mk (Below.trod laidOut (by kernel_rfl) (of_decide_eq_true (by kernel_rfl)) k0 bel lt0) (trodAll_cons_mk (Below.trod laidOut (by kernel_rfl) (of_decide_eq_true (by kernel_rfl)) k1 bel lt1) trodAll_mk0)), rfl, bel.frame _, fun h => by cases h⟩
theorem over : Rows.fnUseRow.holds Try.pinned (OpenSpec.ofChange Rows.fnUseSpec) :=
  OpenClaim.holds_of_wide 4 Try.f4 rfl rfl rfl rfl rfl rfl rfl ⟨rfl, rfl, rfl, rfl, rfl⟩ rfl rfl rfl rfl rfl (by kernel_rfl) Try.func4 (by kernel_rfl)
    (of_decide_eq_true (by kernel_rfl)) (by unfold Func.isWrapper; first | (rw [if_pos (by decide +kernel)]; kernel_rfl) | (rw [if_neg (by decide +kernel)]; exact ⟨rfl, rfl⟩))
    (fun os started H enc _ => lifted os started H enc)
theorem proved : Rows.FnUseSaid := over
#print axioms proved
end Go.Proofs.Ytohfnhfpiipglaa.fnUse
namespace Go.Proofs.Ytohfnhfpiipglaa
/-- The row, under a short name, for the claim. -/
theorem fnUse_holds : Rows.FnUseSaid := fnUse.proved
end Go.Proofs.Ytohfnhfpiipglaa
