-- Laid by a program of this session.
import Derived.Test.YtfjgfgaojebghaaRows
import Derived.Test.YtfjgfgaojebghaaCMediaLaw
import Derived.LaidMore
import Derived.OpenVars
import Derived.ChangeVars
import Derived.Stop.Joined
import Derived.SevenTiedAt
import Derived.WalkKit
import Derived.ProofKit
import Derived.OpenShut
import Derived.ShutString
import Derived.SliceStrings
import Derived.ChangeMaps5
import Derived.ChangeOld
import Derived.Below
import Derived.SizedLaws
namespace Go.Proofs.Ytfjgfgaojebghaa.fnMedia
open Go.ChangeShapes Go.WideShapes Go.ChangeAt Go.RowKit
open Go.ChangeMaps (open_string shut_string)
set_option linter.unusedVariables false
theorem laidOut : laidOutB Try.prog = true := by kernel_rfl
theorem own : ownKnob Try.prog.godebug = none := by kernel_rfl
set_option maxRecDepth 100000 in
theorem lifted (os : Os) (started : os.Started) (H : Type) (enc : TypeId × Value → H) :
    ReturnsInHanded {} Try.checked os 3 .any (Rows.fnMediaSpec.pre6 enc Try.prog Try.f3 Rows.fnMediaRow.domain false) (Rows.fnMediaSpec.post enc Try.prog Try.f3 false true false false) := by
  refine returnsInHanded_of_change_sized (C := Try.checked) own started (by kernel_rfl) Try.func3
    (ChangeSpec.witness6 (enc := enc) (C := Try.checked) false ⟨#[], #[.string ByteArray.empty, .string ByteArray.empty, .slice none 0 0, .slice none 0 0, .bool false], []⟩ 8 (by kernel_rfl) (by kernel_rfl) (by kernel_rfl) (by kernel_rfl)) ?_
  intro W base args ds gs before hval0 hW hcnd hsz0 _
  have hsz : (DataW.weightsEach Try.prog (Try.f3.params.toList ++ Rows.fnMediaSpec.plain.varTypes Try.prog) (ds ++ gs)).all (· ≤ reachBytes) = true := hsz0
  have hval : ∀ (j : Nat) t v, Try.f3.params[j]? = some t → args[j]? = some v → Value.okWide Try.prog W .any base t v := hval0
  have hW' := hW
  obtain ⟨p, q, hA0, hV, rfl, hfz, hnd⟩ := hW
  have hA : DataW.TrodAll enc Try.prog W 0 (fun _ => true) true Try.f3.params.toList args.toList ds p := hA0
  rw [Try.params3] at hA hval hsz
  obtain ⟨v0, vs0, d0, ds0, p0, q0, hargs, rfl, rfl, h0, r0⟩ := trodAll_cons hA
  obtain ⟨v1, vs1, d1, ds1, p1, q1, rfl, rfl, rfl, h1, r1⟩ := trodAll_cons r0
  obtain ⟨v2, vs2, d2, ds2, p2, q2, rfl, rfl, rfl, h2, r2⟩ := trodAll_cons r1
  obtain ⟨v3, vs3, d3, ds3, p3, q3, rfl, rfl, rfl, h3, r3⟩ := trodAll_cons r2
  obtain ⟨v4, vs4, d4, ds4, p4, q4, rfl, rfl, rfl, h4, r4⟩ := trodAll_cons r3
  obtain ⟨rfl, rfl, rfl⟩ := trodAll_nil r4
  obtain rfl : args = #[v0, v1, v2, v3, v4] := by cases args; simp_all
  obtain ⟨rfl, rfl⟩ := trodVars_none hV
  obtain ⟨a0, rfl, rfl, rfl, y0⟩ := open_string Try.underlying9 (hval 0 9 v0 rfl rfl) h0
  obtain ⟨a1, rfl, rfl, rfl, y1⟩ := open_string Try.underlying9 (hval 1 9 v1 rfl rfl) h1
  obtain ⟨a2, len2, cap2, rfl⟩ := okWide_slice Try.underlying22 (hval 2 22 v2 rfl rfl)
  have k2 := h2
  have lt2 : ∀ x ∈ p2, x.block < W.heap.size := by obtain ⟨m, hm⟩ := k2; exact DataW.trod_lt m _ _ _ hm
  obtain ⟨L2, hn2, hc2, hC2⟩ : ∃ L : List ByteArray, L.length = len2 ∧ len2 ≤ cap2 ∧ Go.Proofs.YtfjgfgaojebghaaW.PrintWords.Kd.C Go.Proofs.YtfjgfgaojebghaaW.PrintWords.Kd.string W a2 len2 L := by
    obtain ⟨fuel, hf⟩ := h2
    rcases open_strings Try.underlying22 Try.underlying9 (by kernel_rfl) hf with ⟨hcs, _⟩ | ⟨x, l, c, ss, hcs, _, hl, hm, hss, _, hcell, hsz⟩
    · simp [Value.cells] at hcs
      obtain ⟨rfl, rfl, rfl⟩ := hcs
      exact ⟨[], rfl, Nat.le_refl _, Go.Proofs.YtfjgfgaojebghaaW.PrintWords.Kd.C_nil _ W⟩
    · simp [Value.cells] at hcs
      obtain ⟨rfl, rfl, rfl⟩ := hcs
      have hsl : ss.length = cap2 := by simpa using hss
      refine ⟨ss.take len2, by rw [List.length_take]; omega, hl, Go.Proofs.YtfjgfgaojebghaaW.PrintWords.Kd.C_of_reads (d := ByteArray.empty) (h1 := fun _ => rfl) ⟨by rw [List.length_take]; omega, by have : maxLen = 9223372036854775807 := rfl; omega, fun _ => ⟨_, rfl, fun j hj => ?_⟩⟩⟩
      rw [hcell j (by omega)]
      simp [List.getD_eq_getElem?_getD, hj]
  subst hn2
  obtain ⟨a3, len3, cap3, rfl⟩ := okWide_slice Try.underlying22 (hval 3 22 v3 rfl rfl)
  have k3 := h3
  have lt3 : ∀ x ∈ p3, x.block < W.heap.size := by obtain ⟨m, hm⟩ := k3; exact DataW.trod_lt m _ _ _ hm
  obtain ⟨L3, hn3, hc3, hC3⟩ : ∃ L : List ByteArray, L.length = len3 ∧ len3 ≤ cap3 ∧ Go.Proofs.YtfjgfgaojebghaaW.PrintWords.Kd.C Go.Proofs.YtfjgfgaojebghaaW.PrintWords.Kd.string W a3 len3 L := by
    obtain ⟨fuel, hf⟩ := h3
    rcases open_strings Try.underlying22 Try.underlying9 (by kernel_rfl) hf with ⟨hcs, _⟩ | ⟨x, l, c, ss, hcs, _, hl, hm, hss, _, hcell, hsz⟩
    · simp [Value.cells] at hcs
      obtain ⟨rfl, rfl, rfl⟩ := hcs
      exact ⟨[], rfl, Nat.le_refl _, Go.Proofs.YtfjgfgaojebghaaW.PrintWords.Kd.C_nil _ W⟩
    · simp [Value.cells] at hcs
      obtain ⟨rfl, rfl, rfl⟩ := hcs
      have hsl : ss.length = cap3 := by simpa using hss
      refine ⟨ss.take len3, by rw [List.length_take]; omega, hl, Go.Proofs.YtfjgfgaojebghaaW.PrintWords.Kd.C_of_reads (d := ByteArray.empty) (h1 := fun _ => rfl) ⟨by rw [List.length_take]; omega, by have : maxLen = 9223372036854775807 := rfl; omega, fun _ => ⟨_, rfl, fun j hj => ?_⟩⟩⟩
      rw [hcell j (by omega)]
      simp [List.getD_eq_getElem?_getD, hj]
  subst hn3
  obtain ⟨a4, rfl, rfl, rfl⟩ := open_bool Try.underlying4 (hval 4 4 v4 rfl rfl) h4
  clear hA0 hval0 hsz0 hsz
  refine (Own.fnMedia_true a0 a1 a2 cap2 L2 a3 cap3 L3 a4 W hC2 hc2 hC3 hc3).mono fun e W' ⟨he, bel⟩ => ?_
  subst he
  exact ⟨_, rfl, _, _, _, [], _, [], hW', trodAll_mk1 (shut_bool Try.underlying4 _), (trodAll_cons_mk (shut_string Try.underlying9 y0) (trodAll_cons_mk (shut_string Try.underlying9 y1) (trodAll_cons_mk (Below.trod laidOut (by kernel_rfl) (of_decide_eq_true (by kernel_rfl)) k2 bel lt2) (trodAll_cons_mk (Below.trod laidOut (by kernel_rfl) (of_decide_eq_true (by kernel_rfl)) k3 bel lt3) (trodAll_cons_mk (shut_bool Try.underlying4 _) trodAll_mk0))))), rfl, bel.frame _, fun h => by cases h⟩
theorem over : Rows.fnMediaRow.holds Try.pinned (OpenSpec.ofChange Rows.fnMediaSpec) :=
  OpenClaim.holds_of_wide 3 Try.f3 rfl rfl rfl rfl rfl rfl rfl ⟨rfl, rfl, rfl, rfl, rfl⟩ rfl rfl rfl rfl rfl (by kernel_rfl) Try.func3 (by kernel_rfl)
    (of_decide_eq_true (by kernel_rfl)) (by unfold Func.isWrapper; first | (rw [if_pos (by decide +kernel)]; kernel_rfl) | (rw [if_neg (by decide +kernel)]; exact ⟨rfl, rfl⟩))
    (fun os started H enc _ => lifted os started H enc)
theorem proved : Rows.FnMediaSaid := over
#print axioms proved
end Go.Proofs.Ytfjgfgaojebghaa.fnMedia
namespace Go.Proofs.Ytfjgfgaojebghaa
/-- The row, under a short name, for the claim. -/
theorem fnMedia_holds : Rows.FnMediaSaid := fnMedia.proved
end Go.Proofs.Ytfjgfgaojebghaa
