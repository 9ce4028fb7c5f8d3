/- FnInputPlace, its pure statement: bytes are read at a place. For all byte lists and places. -/
import Derived.Test.YtbjjjbfjplfmeaaDoorAid
import Derived.Test.YtbjjjbfjplfmeaaDoorPFnInputPlacex0
import Derived.Test.YtbjjjbfjplfmeaaDoorPFnInputPlacex1
namespace Go.Proofs.YtbjjjbfjplfmeaaDoor.Pure
open Go.RowKit Go.Proofs.YtbjjjbfjplfmeaaDoor.PFnInputPlace Go.Proofs.YtbjjjbfjplfmeaaDoorW.PrintWords Go.Proofs.YtbjjjbfjplfmeaaDoorW.PrintLast Go.Proofs.YtbjjjbfjplfmeaaDoor.Aid
set_option linter.unusedVariables false
set_option linter.unusedSimpArgs false

theorem few_loop (ls : List (List Int)) (hl : ls.length ≤ 1000) : ∀ (n i : Nat), i + n = ls.length →
    Ev (fun k => laws_fewBytes.l0 k ls (ls.length : Int) (i : Int)) ((ls.drop i).all fun l => decide (l.length ≤ 300))
  | 0, i, hi => by
    refine Ev.step (fun _ => laws_fewBytes.l0.eq_2 ..) (EvNeg (by omega) ?_)
    rw [List.drop_of_length_le (by omega)]
    exact Ev.now _
  | n + 1, i, hi => by
    have hlt : i < ls.length := by omega
    have e : rd_L1 ls (i : Int) = ls[i] := by unfold rd_L1; simp [List.getD_eq_getElem?_getD, List.getElem?_eq_getElem hlt]
    refine Ev.step (fun _ => laws_fewBytes.l0.eq_2 ..) (EvPos (by omega) (EvPos (by omega) (EvPos (by omega) ?_)))
    rw [e, wn hlt (by omega), drop_cons hlt, List.all_cons]
    refine EvIte (fun h => ?_) (fun h => ?_)
    · rw [decide_eq_false (by omega), Bool.false_and]
      exact Ev.now _
    · rw [decide_eq_true (by omega), Bool.true_and]
      exact few_loop ls hl n (i + 1) (by omega)
theorem few_ev (ls : List (List Int)) (hl : ls.length ≤ 1000) : Ev (fun k => laws_fewBytes.f k ls) (ls.all fun l => decide (l.length ≤ 300)) := by
  have := few_loop ls hl ls.length 0 (by omega)
  unfold laws_fewBytes.f
  simpa using this

theorem same_loop (a b : List Int) (hl : a.length = b.length) (hm : a.length ≤ 140737488355328) : ∀ (n i : Nat), i + n = a.length →
    Ev (fun k => spec_SameBytes.l0 k b a (a.length : Int) (i : Int)) (decide (a.drop i = b.drop i))
  | 0, i, hi => by
    refine Ev.step (fun _ => spec_SameBytes.l0.eq_2 ..) (EvNeg (by omega) ?_)
    rw [List.drop_of_length_le (by omega), List.drop_of_length_le (by omega), decide_eq_true rfl]
    exact Ev.now _
  | n + 1, i, hi => by
    have hlt : i < a.length := by omega
    have hlt' : i < b.length := by omega
    refine Ev.step (fun _ => spec_SameBytes.l0.eq_2 ..) (EvPos (by omega) (EvPos (by omega) (EvPos (by omega) (EvPos (by omega) ?_))))
    rw [rd_at hlt, rd_at hlt', wn hlt (by omega), drop_cons hlt, drop_cons hlt']
    refine EvIte (fun h => ?_) (fun h => ?_)
    · refine EvEq (same_loop a b hl hm n (i + 1) (by omega)) ?_
      rw [Bool.eq_iff_iff, h]
      simp only [decide_eq_true_eq, List.cons.injEq, true_and]
    · refine EvNow ?_
      symm
      apply decide_eq_false
      intro e
      injection e with e1 e2
      exact h e1
theorem same_ev (a b : List Int) (hm : a.length ≤ 140737488355328) : Ev (fun k => spec_SameBytes.f k a b) (decide (a = b)) := by
  unfold spec_SameBytes.f
  refine EvIte (fun h => ?_) (fun h => ?_)
  · have := same_loop a b (by omega) hm a.length 0 (by omega)
    simpa using this
  · refine EvNow ?_
    symm
    apply decide_eq_false
    intro e
    subst e
    exact h rfl

theorem FnInputPlace : laws_FnInputPlace.Pure := by
  intro l a n h1 h2 h3 ha hn
  have hb := bytes_of h3
  refine Ev.rounds ?_
  unfold laws_FnInputPlace.f
  have j : ∀ q : Bool, (q = false → l.length ≤ 2147483647 ∧ 0 ≤ a ∧ a < l.length ∧ 0 ≤ n ∧ n ≤ (l.length : Int) - a) → Ev (fun k => laws_FnInputPlace.j0 k l a n q) true := by
    intro q hq
    refine Ev.step (fun _ => laws_FnInputPlace.j0.eq_2 ..) (EvIte (fun _ => Ev.now _) (fun h => ?_))
    obtain ⟨k1, k2, k3, k4, k5⟩ := hq (by simpa using h)
    have hf : Own.impl_ReadPlace.f l a n = some ((l.drop a.toNat).take n.toNat) := by
      unfold Own.impl_ReadPlace.f
      rw [if_pos ⟨by omega, k2, k3, k4, k5⟩]
    refine EvGet hf ?_
    rw [w64 (by omega) (by omega)]
    refine EvPos k2 (EvPos (by omega) (EvPos (by omega) ?_))
    have e : (l.take (a + n).toNat).drop a.toNat = (l.drop a.toNat).take n.toNat := by
      rw [List.drop_take, show (a + n).toNat - a.toNat = n.toNat by omega]
    rw [e]
    exact Ev.bind (same_ev _ _ (by simp; omega)) (EvNow (by simp))
  refine EvIte (fun _ => Ev.now _) (fun h => ?_)
  refine Ev.bind (few_ev _ (by simp)) (EvIte (fun _ => ?_) (fun _ => j true (by simp)))
  refine EvIte (fun _ => j true (by simp)) (fun h1 => EvIte (fun _ => j true (by simp)) (fun h2 => EvIte (fun _ => j true (by simp)) (fun h3 => j _ (fun hq => ?_))))
  have := of_decide_eq_false hq
  rw [w64 (by omega) (by omega)] at this
  omega

end Go.Proofs.YtbjjjbfjplfmeaaDoor.Pure
