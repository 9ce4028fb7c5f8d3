/- FnInputFacts, its pure statement: a reader of selections tells its bytes, how many there are, and whether it is at its end. For all byte lists. -/
import Derived.Test.YtgpmmmlmaaiobaaDoorAid
import Derived.Test.YtgpmmmlmaaiobaaDoorPFnInputFactsx0
import Derived.Test.YtgpmmmlmaaiobaaDoorPFnInputFactsx1
namespace Go.Proofs.YtgpmmmlmaaiobaaDoor.Pure
open Go.RowKit Go.Proofs.YtgpmmmlmaaiobaaDoor.PFnInputFacts Go.Proofs.YtgpmmmlmaaiobaaDoorW.PrintWords Go.Proofs.YtgpmmmlmaaiobaaDoorW.PrintLast Go.Proofs.YtgpmmmlmaaiobaaDoor.Aid
set_option linter.unusedVariables false
set_option linter.unusedSimpArgs false

theorem few_loop (ls : List (List Int)) (hl : ls.length ≤ 1000) : ∀ (n i : Nat), i + n = ls.length →
    Ev (fun k => laws_fewBytes.l0 k ls (ls.length : Int) (i : Int)) ((ls.drop i).all fun l => decide (l.length ≤ 300))
  | 0, i, hi => by
    refine Ev.step (fun _ => laws_fewBytes.l0.eq_2 ..) (EvNeg (by omega) ?_)
    rw [List.drop_of_length_le (by omega)]
    exact Ev.now _
  | n + 1, i, hi => by
    have hlt : i < ls.length := by omega
    have e : rd_L1 ls (i : Int) = ls[i] := by unfold rd_L1; simp [List.getD_eq_getElem?_getD, List.getElem?_eq_getElem hlt]
    refine Ev.step (fun _ => laws_fewBytes.l0.eq_2 ..) (EvPos (by omega) (EvPos (by omega) (EvPos (by omega) ?_)))
    rw [e, wn hlt (by omega), drop_cons hlt, List.all_cons]
    refine EvIte (fun h => ?_) (fun h => ?_)
    · rw [decide_eq_false (by omega), Bool.false_and]
      exact Ev.now _
    · rw [decide_eq_true (by omega), Bool.true_and]
      exact few_loop ls hl n (i + 1) (by omega)
theorem few_ev (ls : List (List Int)) (hl : ls.length ≤ 1000) : Ev (fun k => laws_fewBytes.f k ls) (ls.all fun l => decide (l.length ≤ 300)) := by
  have := few_loop ls hl ls.length 0 (by omega)
  unfold laws_fewBytes.f
  simpa using this

theorem same_loop (a b : List Int) (hl : a.length = b.length) (hm : a.length ≤ 140737488355328) : ∀ (n i : Nat), i + n = a.length →
    Ev (fun k => spec_SameBytes.l0 k b a (a.length : Int) (i : Int)) (decide (a.drop i = b.drop i))
  | 0, i, hi => by
    refine Ev.step (fun _ => spec_SameBytes.l0.eq_2 ..) (EvNeg (by omega) ?_)
    rw [List.drop_of_length_le (by omega), List.drop_of_length_le (by omega), decide_eq_true rfl]
    exact Ev.now _
  | n + 1, i, hi => by
    have hlt : i < a.length := by omega
    have hlt' : i < b.length := by omega
    refine Ev.step (fun _ => spec_SameBytes.l0.eq_2 ..) (EvPos (by omega) (EvPos (by omega) (EvPos (by omega) (EvPos (by omega) ?_))))
    rw [rd_at hlt, rd_at hlt', wn hlt (by omega), drop_cons hlt, drop_cons hlt']
    refine EvIte (fun h => ?_) (fun h => ?_)
    · refine EvEq (same_loop a b hl hm n (i + 1) (by omega)) ?_
      rw [Bool.eq_iff_iff, h]
      simp only [decide_eq_true_eq, List.cons.injEq, true_and]
    · refine EvNow ?_
      symm
      apply decide_eq_false
      intro e
      injection e with e1 e2
      exact h e1
theorem same_ev (a b : List Int) (hm : a.length ≤ 140737488355328) : Ev (fun k => spec_SameBytes.f k a b) (decide (a = b)) := by
  unfold spec_SameBytes.f
  refine EvIte (fun h => ?_) (fun h => ?_)
  · have := same_loop a b (by omega) hm a.length 0 (by omega)
    simpa using this
  · refine EvNow ?_
    symm
    apply decide_eq_false
    intro e
    subst e
    exact h rfl

theorem FnInputFacts : laws_FnInputFacts.Pure := by
  intro l0 a1 _ _ hw
  refine Ev.rounds ?_
  unfold laws_FnInputFacts.f
  refine EvIte (fun _ => Ev.now _) (fun h => ?_)
  refine Ev.bind (few_ev _ (by simp)) (EvIte (fun hf => ?_) (fun _ => Ev.now _))
  have hl : l0.length ≤ 300 := by simpa using hf
  have hb := bytes_of hw
  have hf2 : Own.impl_InputFacts.f l0 a1 = some (l0, (l0.length : Int), decide (l0.length = 0)) := by
    unfold Own.impl_InputFacts.f
    rw [if_pos ⟨by omega, List.all_eq_true.2 fun x hx => decide_eq_true (hb x hx)⟩]
  refine EvGet hf2 (Ev.bind (same_ev _ _ (by show l0.length ≤ _; omega)) (EvPos (by simp) (EvPos rfl (EvNow ?_))))
  by_cases h0 : l0.length = 0
  · simp [h0]
  · have : ¬ (l0.length : Int) = 0 := by omega
    simp [h0, this]

end Go.Proofs.YtgpmmmlmaaiobaaDoor.Pure
