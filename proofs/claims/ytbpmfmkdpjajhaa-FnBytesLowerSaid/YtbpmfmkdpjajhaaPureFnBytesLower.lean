/- FnBytesLower, its pure statement: the letters from A to Z become those from a to z, all other bytes stay. For all byte lists. -/
import Derived.Test.YtbpmfmkdpjajhaaAid
import Derived.Test.YtbpmfmkdpjajhaaPFnBytesLowerx0
import Derived.Test.YtbpmfmkdpjajhaaPFnBytesLowerx1
namespace Go.Proofs.Ytbpmfmkdpjajhaa.Pure
open Go.RowKit Go.Proofs.Ytbpmfmkdpjajhaa.PFnBytesLower Go.Proofs.YtbpmfmkdpjajhaaW.PrintWords Go.Proofs.YtbpmfmkdpjajhaaW.PrintLast Go.Proofs.Ytbpmfmkdpjajhaa.Aid
set_option linter.unusedVariables false
set_option linter.unusedSimpArgs false

theorem few_loop (ls : List (List Int)) (hl : ls.length ≤ 1000) : ∀ (n i : Nat), i + n = ls.length →
    Ev (fun k => laws_fewBytes.l0 k ls (ls.length : Int) (i : Int)) ((ls.drop i).all fun l => decide (l.length ≤ 300))
  | 0, i, hi => by
    refine Ev.step (fun _ => laws_fewBytes.l0.eq_2 ..) (EvNeg (by omega) ?_)
    rw [List.drop_of_length_le (by omega)]
    exact Ev.now _
  | n + 1, i, hi => by
    have hlt : i < ls.length := by omega
    have e : rd_L1 ls (i : Int) = ls[i] := by unfold rd_L1; simp [List.getD_eq_getElem?_getD, List.getElem?_eq_getElem hlt]
    refine Ev.step (fun _ => laws_fewBytes.l0.eq_2 ..) (EvPos (by omega) (EvPos (by omega) (EvPos (by omega) ?_)))
    rw [e, wn hlt (by omega), drop_cons hlt, List.all_cons]
    refine EvIte (fun h => ?_) (fun h => ?_)
    · rw [decide_eq_false (by omega), Bool.false_and]
      exact Ev.now _
    · rw [decide_eq_true (by omega), Bool.true_and]
      exact few_loop ls hl n (i + 1) (by omega)
theorem few_ev (ls : List (List Int)) (hl : ls.length ≤ 1000) : Ev (fun k => laws_fewBytes.f k ls) (ls.all fun l => decide (l.length ≤ 300)) := by
  have := few_loop ls hl ls.length 0 (by omega)
  unfold laws_fewBytes.f
  simpa using this

theorem same_loop (a b : List Int) (hl : a.length = b.length) (hm : a.length ≤ 140737488355328) : ∀ (n i : Nat), i + n = a.length →
    Ev (fun k => spec_SameBytes.l0 k b a (a.length : Int) (i : Int)) (decide (a.drop i = b.drop i))
  | 0, i, hi => by
    refine Ev.step (fun _ => spec_SameBytes.l0.eq_2 ..) (EvNeg (by omega) ?_)
    rw [List.drop_of_length_le (by omega), List.drop_of_length_le (by omega), decide_eq_true rfl]
    exact Ev.now _
  | n + 1, i, hi => by
    have hlt : i < a.length := by omega
    have hlt' : i < b.length := by omega
    refine Ev.step (fun _ => spec_SameBytes.l0.eq_2 ..) (EvPos (by omega) (EvPos (by omega) (EvPos (by omega) (EvPos (by omega) ?_))))
    rw [rd_at hlt, rd_at hlt', wn hlt (by omega), drop_cons hlt, drop_cons hlt']
    refine EvIte (fun h => ?_) (fun h => ?_)
    · refine EvEq (same_loop a b hl hm n (i + 1) (by omega)) ?_
      rw [Bool.eq_iff_iff, h]
      simp only [decide_eq_true_eq, List.cons.injEq, true_and]
    · refine EvNow ?_
      symm
      apply decide_eq_false
      intro e
      injection e with e1 e2
      exact h e1
theorem same_ev (a b : List Int) (hm : a.length ≤ 140737488355328) : Ev (fun k => spec_SameBytes.f k a b) (decide (a = b)) := by
  unfold spec_SameBytes.f
  refine EvIte (fun h => ?_) (fun h => ?_)
  · have := same_loop a b (by omega) hm a.length 0 (by omega)
    simpa using this
  · refine EvNow ?_
    symm
    apply decide_eq_false
    intro e
    subst e
    exact h rfl

def lowB (c : Int) : Int := if 65 ≤ c ∧ c ≤ 90 then c + 32 else c
theorem lowB_eq (c : Int) (h0 : 0 ≤ c) (h1 : c ≤ 255) : spec_LowerByte.f c = some (lowB c) := by
  unfold spec_LowerByte.f lowB
  by_cases a : c ≥ 65
  · by_cases b : c ≤ 90
    · rw [if_pos a, if_pos b, if_pos ⟨a, b⟩]
      congr 1
      omega
    · rw [if_pos a, if_neg b, if_neg (by omega)]
  · rw [if_neg a, if_neg (by omega)]
theorem lowB_bd (c : Int) (h0 : 0 ≤ c) (h1 : c ≤ 255) : 0 ≤ lowB c ∧ lowB c ≤ 255 := by
  unfold lowB
  split <;> omega
theorem lower_loop (l : List Int) (hb : Bytes l) (hm : l.length < 140737488355328) : ∀ (n i : Nat) (acc : List Int), i + n = l.length → acc.length = i →
    Ev (fun k => spec_Lower.l0 k acc l (l.length : Int) (i : Int)) (acc ++ (l.drop i).map lowB)
  | 0, i, acc, hi, ha => by
    refine Ev.step (fun _ => spec_Lower.l0.eq_2 ..) (EvNeg (by omega) ?_)
    rw [List.drop_of_length_le (by omega)]
    simp only [List.map_nil, List.append_nil]
    exact Ev.now _
  | n + 1, i, acc, hi, ha => by
    have hlt : i < l.length := by omega
    have hc := hb.at_ hlt
    refine Ev.step (fun _ => spec_Lower.l0.eq_2 ..) (EvPos (by omega) (EvPos (by omega) (EvPos (by omega) ?_)))
    rw [rd_at hlt, wn hlt (by omega)]
    refine EvGet (lowB_eq _ hc.1 hc.2) (EvPos (by omega) ?_)
    have := lower_loop l hb hm n (i + 1) (acc ++ [lowB l[i]]) (by omega) (by simp; omega)
    rw [drop_cons hlt, List.map_cons]
    simpa using this
theorem lower_ev (l : List Int) (hb : Bytes l) (hm : l.length < 140737488355328) : Ev (fun k => spec_Lower.f k l) (l.map lowB) := by
  have := lower_loop l hb hm l.length 0 [] (by omega) rfl
  unfold spec_Lower.f
  simpa using this
theorem lower_bytes {l : List Int} (hb : Bytes l) : Bytes (l.map lowB) := fun x hx => by
  obtain ⟨c, hc, rfl⟩ := List.mem_map.1 hx
  have := hb c hc
  exact lowB_bd c this.1 this.2

theorem FnBytesLower : laws_FnBytesLower.Pure := by
  intro a ha1 ha2 ha
  refine Ev.rounds ?_
  unfold laws_FnBytesLower.f
  refine EvIte (fun _ => Ev.now _) (fun h => ?_)
  refine Ev.bind (few_ev _ (by simp)) (EvIte (fun hf => ?_) (fun _ => Ev.now _))
  have hc : Own.impl_Lower.f a = some (a.map lowB) := by
    unfold Own.impl_Lower.f
    rw [if_pos (by omega)]; rfl
  refine EvGet hc (Ev.bind (lower_ev a (bytes_of ha) (by omega)) (Ev.bind (same_ev _ _ (by simp; omega)) (EvNow (by simp))))

end Go.Proofs.Ytbpmfmkdpjajhaa.Pure
