/- FnUrlNoData, its pure statement: what does not begin with data and a colon is no data URI. For all byte lists. -/
import Derived.Test.YthejmpldfndbfaaDoorAid
import Derived.Test.YthejmpldfndbfaaDoorPFnUrlNoDatax0
import Derived.Test.YthejmpldfndbfaaDoorPFnUrlNoDatax1
namespace Go.Proofs.YthejmpldfndbfaaDoor.Pure
open Go.RowKit Go.Proofs.YthejmpldfndbfaaDoor.PFnUrlNoData Go.Proofs.YthejmpldfndbfaaDoorW.PrintWords Go.Proofs.YthejmpldfndbfaaDoorW.PrintLast Go.Proofs.YthejmpldfndbfaaDoor.Aid
set_option linter.unusedVariables false
set_option linter.unusedSimpArgs false

theorem few_loop (ls : List (List Int)) (hl : ls.length ≤ 1000) : ∀ (n i : Nat), i + n = ls.length →
    Ev (fun k => laws_fewBytes.l0 k ls (ls.length : Int) (i : Int)) ((ls.drop i).all fun l => decide (l.length ≤ 300))
  | 0, i, hi => by
    refine Ev.step (fun _ => laws_fewBytes.l0.eq_2 ..) (EvNeg (by omega) ?_)
    rw [List.drop_of_length_le (by omega)]
    exact Ev.now _
  | n + 1, i, hi => by
    have hlt : i < ls.length := by omega
    have e : rd_L1 ls (i : Int) = ls[i] := by unfold rd_L1; simp [List.getD_eq_getElem?_getD, List.getElem?_eq_getElem hlt]
    refine Ev.step (fun _ => laws_fewBytes.l0.eq_2 ..) (EvPos (by omega) (EvPos (by omega) (EvPos (by omega) ?_)))
    rw [e, wn hlt (by omega), drop_cons hlt, List.all_cons]
    refine EvIte (fun h => ?_) (fun h => ?_)
    · rw [decide_eq_false (by omega), Bool.false_and]
      exact Ev.now _
    · rw [decide_eq_true (by omega), Bool.true_and]
      exact few_loop ls hl n (i + 1) (by omega)
theorem few_ev (ls : List (List Int)) (hl : ls.length ≤ 1000) : Ev (fun k => laws_fewBytes.f k ls) (ls.all fun l => decide (l.length ≤ 300)) := by
  have := few_loop ls hl ls.length 0 (by omega)
  unfold laws_fewBytes.f
  simpa using this

theorem str_list (l : List Int) : (strOfNums l).toList = l.map (fun n => UInt8.ofNat n.toNat) := by rw [ByteArray.toList_eq]; simp [strOfNums]
theorem data_no {l : List Int} (hl : l.length < 140737488355328) (h : Own.noData l = true) : Own.impl_DataURI.f l = some ([], [], false) := by
  unfold Own.impl_DataURI.f
  rw [if_pos hl, if_pos h]
theorem data_a : ∃ x y, Own.impl_DataURI.f [100, 97, 116, 97, 58, 44, 97] = some (x, y, true) := by
  refine ⟨Own.plainT, Own.decI [97], ?_⟩
  unfold Own.impl_DataURI.f
  rw [if_pos (by decide), if_neg (by unfold Own.noData; rw [str_list, str_list]; decide)]
  have e1 : (([100, 97, 116, 97, 58, 44, 97] : List Int).drop 5).takeWhile Own.notSep = [] := by decide
  rw [e1, if_pos ⟨by decide, by decide, by decide, by unfold Own.eqB; rw [str_list, str_list]; decide⟩]
  have e2 : Own.mime [] = Own.plainT := by decide
  rw [e2]
  rfl
theorem FnUrlNoData : laws_FnUrlNoData.Pure := by
  intro l h1 h2 h3
  refine Ev.rounds ?_
  unfold laws_FnUrlNoData.f
  have j : ∀ q : Bool, (q = false → Own.noData l = true) → Ev (fun k => laws_FnUrlNoData.j0 k l q) true := by
    intro q hq
    refine Ev.step (fun _ => laws_FnUrlNoData.j0.eq_2 ..) (EvIte (fun _ => Ev.now _) (fun h => ?_))
    obtain ⟨x, y, ha⟩ := data_a
    refine EvGet (data_no (by omega) (hq (by simpa using h))) (EvGet ha ?_)
    exact EvNeg (by simp) (Ev.now _)
  refine EvIte (fun _ => Ev.now _) (fun h => ?_)
  refine Ev.bind (few_ev _ (by simp)) (EvIte (fun _ => EvIte (fun h5 => EvPos (by omega) (j _ (fun hq => ?_))) (fun h5 => j _ (fun _ => ?_))) (fun _ => j true (by simp)))
  · unfold Own.noData
    have e : (strOfNums [100, 97, 116, 97, 58]).toList = ([100, 97, 116, 97, 58] : List UInt8) := by rw [str_list]; decide
    rw [e, hq]
    simp
  · unfold Own.noData
    rw [decide_eq_true (by omega), Bool.true_or]

end Go.Proofs.YthejmpldfndbfaaDoor.Pure
