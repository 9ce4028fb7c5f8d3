/- FnInputWriter, its pure statement: pieces are written one behind the other, each of them whole. For all lists of byte lists. -/
import Derived.Test.YtbjjjbfjplfmeaaDoorAid
import Derived.Test.YtbjjjbfjplfmeaaDoorPFnInputWriterx0
import Derived.Test.YtbjjjbfjplfmeaaDoorPFnInputWriterx1
import Derived.Test.YtbjjjbfjplfmeaaDoorPFnInputWriterx2
namespace Go.Proofs.YtbjjjbfjplfmeaaDoor.Pure
open Go.RowKit Go.Proofs.YtbjjjbfjplfmeaaDoor.PFnInputWriter Go.Proofs.YtbjjjbfjplfmeaaDoorW.PrintWords Go.Proofs.YtbjjjbfjplfmeaaDoorW.PrintLast Go.Proofs.YtbjjjbfjplfmeaaDoor.Aid
set_option linter.unusedVariables false
set_option linter.unusedSimpArgs false

theorem few_loop (ls : List (List Int)) (hl : ls.length ≤ 2147483647) : ∀ (n i : Nat), i + n = ls.length →
    Ev (fun k => laws_fewBytes.l0 k ls (ls.length : Int) (i : Int)) ((ls.drop i).all fun l => decide (l.length ≤ 300))
  | 0, i, hi => by
    refine Ev.step (fun _ => laws_fewBytes.l0.eq_2 ..) (EvNeg (by omega) ?_)
    rw [List.drop_of_length_le (by omega)]
    exact Ev.now _
  | n + 1, i, hi => by
    have hlt : i < ls.length := by omega
    have e : rd_L1 ls (i : Int) = ls[i] := by unfold rd_L1; simp [List.getD_eq_getElem?_getD, List.getElem?_eq_getElem hlt]
    refine Ev.step (fun _ => laws_fewBytes.l0.eq_2 ..) (EvPos (by omega) (EvPos (by omega) (EvPos (by omega) ?_)))
    rw [e, wn hlt (by omega), drop_cons hlt, List.all_cons]
    refine EvIte (fun h => ?_) (fun h => ?_)
    · rw [decide_eq_false (by omega), Bool.false_and]
      exact Ev.now _
    · rw [decide_eq_true (by omega), Bool.true_and]
      exact few_loop ls hl n (i + 1) (by omega)
theorem few_ev (ls : List (List Int)) (hl : ls.length ≤ 2147483647) : Ev (fun k => laws_fewBytes.f k ls) (ls.all fun l => decide (l.length ≤ 300)) := by
  have := few_loop ls hl ls.length 0 (by omega)
  unfold laws_fewBytes.f
  simpa using this

theorem same_loop (a b : List Int) (hl : a.length = b.length) (hm : a.length ≤ 140737488355328) : ∀ (n i : Nat), i + n = a.length →
    Ev (fun k => spec_SameBytes.l0 k b a (a.length : Int) (i : Int)) (decide (a.drop i = b.drop i))
  | 0, i, hi => by
    refine Ev.step (fun _ => spec_SameBytes.l0.eq_2 ..) (EvNeg (by omega) ?_)
    rw [List.drop_of_length_le (by omega), List.drop_of_length_le (by omega), decide_eq_true rfl]
    exact Ev.now _
  | n + 1, i, hi => by
    have hlt : i < a.length := by omega
    have hlt' : i < b.length := by omega
    refine Ev.step (fun _ => spec_SameBytes.l0.eq_2 ..) (EvPos (by omega) (EvPos (by omega) (EvPos (by omega) (EvPos (by omega) ?_))))
    rw [rd_at hlt, rd_at hlt', wn hlt (by omega), drop_cons hlt, drop_cons hlt']
    refine EvIte (fun h => ?_) (fun h => ?_)
    · refine EvEq (same_loop a b hl hm n (i + 1) (by omega)) ?_
      rw [Bool.eq_iff_iff, h]
      simp only [decide_eq_true_eq, List.cons.injEq, true_and]
    · refine EvNow ?_
      symm
      apply decide_eq_false
      intro e
      injection e with e1 e2
      exact h e1
theorem same_ev (a b : List Int) (hm : a.length ≤ 140737488355328) : Ev (fun k => spec_SameBytes.f k a b) (decide (a = b)) := by
  unfold spec_SameBytes.f
  refine EvIte (fun h => ?_) (fun h => ?_)
  · have := same_loop a b (by omega) hm a.length 0 (by omega)
    simpa using this
  · refine EvNow ?_
    symm
    apply decide_eq_false
    intro e
    subst e
    exact h rfl

theorem join_loop (ls : List (List Int)) (hl : ls.length ≤ 1000) : ∀ (n i : Nat) (acc : List Int), i + n = ls.length → acc.length + (ls.drop i).flatten.length < 140737488355328 →
    Ev (fun k => spec_Join.l0 k acc ls (ls.length : Int) (i : Int)) (acc ++ (ls.drop i).flatten)
  | 0, i, acc, hi, hs => by
    refine Ev.step (fun _ => spec_Join.l0.eq_2 ..) (EvNeg (by omega) ?_)
    rw [List.drop_of_length_le (by omega)]
    simp only [List.flatten_nil, List.append_nil]
    exact Ev.now _
  | n + 1, i, acc, hi, hs => by
    have hlt : i < ls.length := by omega
    have e : rd_L1 ls (i : Int) = ls[i] := by unfold rd_L1; simp [List.getD_eq_getElem?_getD, List.getElem?_eq_getElem hlt]
    rw [drop_cons hlt, List.flatten_cons, List.length_append] at hs
    refine Ev.step (fun _ => spec_Join.l0.eq_2 ..) (EvPos (by omega) (EvPos (by omega) (EvPos (by omega) ?_)))
    rw [e, wn hlt (by omega), drop_cons hlt, List.flatten_cons, ← List.append_assoc]
    refine EvPos (by omega) ?_
    exact join_loop ls hl n (i + 1) (acc ++ ls[i]) (by omega) (by rw [List.length_append]; omega)
theorem join_ev (ls : List (List Int)) (hl : ls.length ≤ 1000) (hs : ls.flatten.length < 140737488355328) : Ev (fun k => spec_Join.f k ls) ls.flatten := by
  have := join_loop ls hl ls.length 0 [] (by omega) (by simpa using hs)
  unfold spec_Join.f
  simpa using this

theorem rdl_at {ls : List (List Int)} {i : Nat} (h : i < ls.length) : rd_L1 ls (i : Int) = ls[i] := by unfold rd_L1; simp [List.getD_eq_getElem?_getD, List.getElem?_eq_getElem h]
theorem fits_loop (ls : List (List Int)) (hl : ls.length ≤ 2147483647) : ∀ (n i : Nat), i + n = ls.length → ∃ b, Ev (fun k => laws_zzFits1.l0 k ls (ls.length : Int) (i : Int)) b
  | 0, i, hi => ⟨true, Ev.step (fun _ => laws_zzFits1.l0.eq_2 ..) (EvNeg (by omega) (Ev.now _))⟩
  | n + 1, i, hi => by
    have hlt : i < ls.length := by omega
    obtain ⟨b, hb⟩ := fits_loop ls hl n (i + 1) (by omega)
    by_cases h : ((rd_L1 ls (i : Int)).length : Int) > 2147483647
    · exact ⟨false, Ev.step (fun _ => laws_zzFits1.l0.eq_2 ..) (EvPos (by omega) (EvPos (by omega) (EvPos (by omega) (EvPos h (Ev.now _)))))⟩
    · exact ⟨b, Ev.step (fun _ => laws_zzFits1.l0.eq_2 ..) (EvPos (by omega) (EvPos (by omega) (EvPos (by omega) (EvNeg h (by rw [wn hlt (by omega)]; exact hb)))))⟩
theorem fits_ev (ls : List (List Int)) : ∃ b, Ev (fun k => laws_zzFits1.f k ls) b ∧ (b = true → ls.length ≤ 2147483647) := by
  by_cases h : (ls.length : Int) > 2147483647
  · exact ⟨false, by unfold laws_zzFits1.f; exact EvPos h (Ev.now _), by simp⟩
  · obtain ⟨b, hb⟩ := fits_loop ls (by omega) ls.length 0 (by omega)
    exact ⟨b, by unfold laws_zzFits1.f; exact EvNeg h hb, fun _ => by omega⟩
theorem flat_bound : ∀ ls : List (List Int), (ls.all fun l => decide (l.length ≤ 300)) = true → ls.flatten.length ≤ 300 * ls.length
  | [], _ => Nat.zero_le _
  | l :: ls, h => by
    rw [List.all_cons, Bool.and_eq_true] at h
    have ih := flat_bound ls h.2
    have h1 := of_decide_eq_true h.1
    rw [List.flatten_cons, List.length_append, List.length_cons]
    omega
theorem many_loop (ls : List (List Int)) (hl : ls.length ≤ 2147483647) : ∀ (n i : Nat), i + n = ls.length → Ev (fun k => laws_FnInputWriter.l0 k (ls.map fun p => (p.length : Int)) ls (ls.length : Int) (i : Int)) true
  | 0, i, hi => Ev.step (fun _ => laws_FnInputWriter.l0.eq_2 ..) (EvNeg (by omega) (Ev.now _))
  | n + 1, i, hi => by
    have hlt : i < ls.length := by omega
    have hlt2 : i < (ls.map fun p => (p.length : Int)).length := by simpa using hlt
    refine Ev.step (fun _ => laws_FnInputWriter.l0.eq_2 ..) (EvPos (by omega) (EvPos (by omega) (EvPos (by omega) (EvPos (by omega) ?_))))
    rw [rd_at hlt2, rdl_at hlt, wn hlt (by omega)]
    exact EvPos (by simp) (many_loop ls hl n (i + 1) (by omega))
theorem FnInputWriter : ∀ ls : List (List Int), ∃ k, laws_FnInputWriter.f k ls = some true := by
  intro ls
  refine Ev.rounds ?_
  unfold laws_FnInputWriter.f
  obtain ⟨b, hb, hsz⟩ := fits_ev ls
  refine Ev.bind hb (EvIte (fun hbt => ?_) (fun _ => Ev.now _))
  have hl := hsz hbt
  have j : ∀ q : Bool, (q = false → ls.length ≤ 20 ∧ (ls.all fun l => decide (l.length ≤ 300)) = true) → Ev (fun k => laws_FnInputWriter.j0 k ls q) true := by
    intro q hq
    refine Ev.step (fun _ => laws_FnInputWriter.j0.eq_2 ..) (EvIte (fun _ => Ev.now _) (fun h => ?_))
    obtain ⟨h20, hall⟩ := hq (by simpa using h)
    have hf := flat_bound ls hall
    have hw : Own.impl_WritePieces.f ls = some (ls.flatten, ls.map fun p => (p.length : Int)) := by
      unfold Own.impl_WritePieces.f
      rw [if_pos ⟨by omega, by omega⟩]
    refine EvGet hw (Ev.bind (join_ev ls (by omega) (by omega)) (Ev.bind (same_ev _ _ (by show ls.flatten.length ≤ _; omega)) ?_))
    refine EvPos (by simp) ?_
    refine Ev.step (fun _ => laws_FnInputWriter.j1.eq_2 ..) (EvNeg (by simp) ?_)
    exact many_loop ls (by omega) ls.length 0 (by omega)
  refine Ev.bind (few_ev ls hl) (EvIte (fun ha => j _ (fun hq => ⟨?_, ha⟩)) (fun _ => j true (by simp)))
  have := of_decide_eq_false hq
  omega

end Go.Proofs.YtbjjjbfjplfmeaaDoor.Pure
