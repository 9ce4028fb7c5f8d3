/- FnBytesSqueeze, its pure statement: a series of white space becomes a single blank, or a newline if there is the end of a line in it. For all byte lists. -/
import Derived.Test.YtagfmcboppabeaaDoorAid
import Derived.Test.YtagfmcboppabeaaDoorPFnBytesSqueezex0
import Derived.Test.YtagfmcboppabeaaDoorPFnBytesSqueezex1
namespace Go.Proofs.YtagfmcboppabeaaDoor.Pure
open Go.RowKit Go.Proofs.YtagfmcboppabeaaDoor.PFnBytesSqueeze Go.Proofs.YtagfmcboppabeaaDoorW.PrintWords Go.Proofs.YtagfmcboppabeaaDoorW.PrintLast Go.Proofs.YtagfmcboppabeaaDoor.Aid
set_option linter.unusedVariables false
set_option linter.unusedSimpArgs false

theorem few_loop (ls : List (List Int)) (hl : ls.length ≤ 1000) : ∀ (n i : Nat), i + n = ls.length →
    Ev (fun k => laws_fewBytes.l0 k ls (ls.length : Int) (i : Int)) ((ls.drop i).all fun l => decide (l.length ≤ 300))
  | 0, i, hi => by
    refine Ev.step (fun _ => laws_fewBytes.l0.eq_2 ..) (EvNeg (by omega) ?_)
    rw [List.drop_of_length_le (by omega)]
    exact Ev.now _
  | n + 1, i, hi => by
    have hlt : i < ls.length := by omega
    have e : rd_L1 ls (i : Int) = ls[i] := by unfold rd_L1; simp [List.getD_eq_getElem?_getD, List.getElem?_eq_getElem hlt]
    refine Ev.step (fun _ => laws_fewBytes.l0.eq_2 ..) (EvPos (by omega) (EvPos (by omega) (EvPos (by omega) ?_)))
    rw [e, wn hlt (by omega), drop_cons hlt, List.all_cons]
    refine EvIte (fun h => ?_) (fun h => ?_)
    · rw [decide_eq_false (by omega), Bool.false_and]
      exact Ev.now _
    · rw [decide_eq_true (by omega), Bool.true_and]
      exact few_loop ls hl n (i + 1) (by omega)
theorem few_ev (ls : List (List Int)) (hl : ls.length ≤ 1000) : Ev (fun k => laws_fewBytes.f k ls) (ls.all fun l => decide (l.length ≤ 300)) := by
  have := few_loop ls hl ls.length 0 (by omega)
  unfold laws_fewBytes.f
  simpa using this

theorem same_loop (a b : List Int) (hl : a.length = b.length) (hm : a.length ≤ 140737488355328) : ∀ (n i : Nat), i + n = a.length →
    Ev (fun k => spec_SameBytes.l0 k b a (a.length : Int) (i : Int)) (decide (a.drop i = b.drop i))
  | 0, i, hi => by
    refine Ev.step (fun _ => spec_SameBytes.l0.eq_2 ..) (EvNeg (by omega) ?_)
    rw [List.drop_of_length_le (by omega), List.drop_of_length_le (by omega), decide_eq_true rfl]
    exact Ev.now _
  | n + 1, i, hi => by
    have hlt : i < a.length := by omega
    have hlt' : i < b.length := by omega
    refine Ev.step (fun _ => spec_SameBytes.l0.eq_2 ..) (EvPos (by omega) (EvPos (by omega) (EvPos (by omega) (EvPos (by omega) ?_))))
    rw [rd_at hlt, rd_at hlt', wn hlt (by omega), drop_cons hlt, drop_cons hlt']
    refine EvIte (fun h => ?_) (fun h => ?_)
    · refine EvEq (same_loop a b hl hm n (i + 1) (by omega)) ?_
      rw [Bool.eq_iff_iff, h]
      simp only [decide_eq_true_eq, List.cons.injEq, true_and]
    · refine EvNow ?_
      symm
      apply decide_eq_false
      intro e
      injection e with e1 e2
      exact h e1
theorem same_ev (a b : List Int) (hm : a.length ≤ 140737488355328) : Ev (fun k => spec_SameBytes.f k a b) (decide (a = b)) := by
  unfold spec_SameBytes.f
  refine EvIte (fun h => ?_) (fun h => ?_)
  · have := same_loop a b (by omega) hm a.length 0 (by omega)
    simpa using this
  · refine EvNow ?_
    symm
    apply decide_eq_false
    intro e
    subst e
    exact h rfl

def nlB (c : Int) : Bool := c == 10 || c == 13
def wsB (c : Int) : Bool := c == 32 || (c == 9 || (c == 12 || nlB c))
theorem specbreak_eq (c : Int) : spec_IsBreak.f c = some (nlB c) := by
  unfold spec_IsBreak.f nlB
  by_cases h : c = 10
  · simp [h]
  · simp [h]
theorem specblank_eq (c : Int) : spec_IsBlank.f c = some (wsB c) := by
  unfold spec_IsBlank.f wsB
  rw [specbreak_eq]
  by_cases h : c = 32
  · simp [h]
  · by_cases h2 : c = 9
    · simp [h2]
    · by_cases h3 : c = 12
      · simp [h3]
      · rw [if_neg h, if_neg h2, if_neg h3, beq_eq_false_iff_ne.mpr h, beq_eq_false_iff_ne.mpr h2, beq_eq_false_iff_ne.mpr h3]
        rfl

theorem wsQ_same (c : Int) : wsB c = Own.wsQ c := by
  rw [Bool.eq_iff_iff]
  unfold Own.wsQ Own.isW wsB nlB
  simp
  omega
theorem nlQ_same (c : Int) : nlB c = Own.nlQ c := by
  rw [Bool.eq_iff_iff]
  unfold Own.nlQ Own.isN nlB
  simp
  omega
theorem sq_back {i : Nat} (hi : i < 140737488355328) : wrap64 (wrap64 ((i : Int) - 1) + 1) = (i : Int) := by
  rw [w64 (i := (i : Int) - 1) (by omega) (by omega), w64 (by omega) (by omega)]
  omega
theorem sq_l1 (l : List Int) (hm : l.length < 140737488355328) (N : Nat) (ih : ∀ n, n < N → ∀ (i : Nat) (acc : List Int), i + n = l.length → acc.length ≤ i → Ev (fun k => spec_Squeeze.l0 k l acc (i : Int)) (acc ++ Own.sqz (l.drop i))) :
    ∀ n, n < N → ∀ (i : Nat) (acc : List Int) (m : Int), i + n = l.length → acc.length < i → (m = 10 ∨ m = 32) →
      Ev (fun k => spec_Squeeze.l1 k l acc (i : Int) m) (acc ++ (if m = 10 then 10 else Own.markQ ((l.drop i).takeWhile Own.wsQ)) :: Own.sqz ((l.drop i).dropWhile Own.wsQ))
  | n, hn, i, acc, m, hi, ha, hmm => by
    by_cases hlt : i < l.length
    · refine Ev.step (fun _ => spec_Squeeze.l1.eq_2 ..) (EvPos (by omega) (EvPos (by omega) ?_))
      rw [rd_at hlt]
      refine EvGet (specblank_eq _) (Ev.step (fun _ => spec_Squeeze.j2.eq_2 ..) ?_)
      by_cases hw : wsB l[i] = true
      · refine EvPos hw (EvPos (by omega) (EvPos (by omega) ?_))
        rw [rd_at hlt]
        refine EvGet (specbreak_eq _) ?_
        rw [wn hlt (by omega)]
        have e1 : (l.drop i).takeWhile Own.wsQ = l[i] :: (l.drop (i + 1)).takeWhile Own.wsQ := by
          rw [drop_cons hlt, List.takeWhile_cons, if_pos (by rw [← wsQ_same]; exact hw)]
        have e2 : (l.drop i).dropWhile Own.wsQ = (l.drop (i + 1)).dropWhile Own.wsQ := by
          rw [drop_cons hlt, List.dropWhile_cons, if_pos (by rw [← wsQ_same]; exact hw)]
        rw [e1, e2]
        cases n with
        | zero => omega
        | succ n =>
          refine EvIte (fun hnl => ?_) (fun hnl => ?_)
          · refine EvEq (sq_l1 l hm N ih n (by omega) (i + 1) acc 10 (by omega) (by omega) (.inl rfl)) ?_
            congr 2
            rw [if_pos rfl]
            by_cases h10 : m = 10
            · rw [if_pos h10]
            · rw [if_neg h10]
              unfold Own.markQ
              rw [List.any_cons, ← nlQ_same, hnl]
              simp
          · refine EvEq (sq_l1 l hm N ih n (by omega) (i + 1) acc m (by omega) (by omega) hmm) ?_
            congr 2
            by_cases h10 : m = 10
            · rw [if_pos h10, if_pos h10]
            · rw [if_neg h10, if_neg h10]
              unfold Own.markQ
              rw [List.any_cons, ← nlQ_same, eq_false_of_ne_true hnl]
              simp
      · refine EvNeg hw (EvPos (by omega) ?_)
        rw [sq_back (by omega)]
        refine EvEq (ih n hn i (acc ++ [m]) hi (by simp <;> omega)) ?_
        have e1 : (l.drop i).takeWhile Own.wsQ = [] := by
          rw [drop_cons hlt, List.takeWhile_cons, if_neg (by rw [← wsQ_same]; exact hw)]
        have e2 : (l.drop i).dropWhile Own.wsQ = l.drop i := by
          rw [drop_cons hlt, List.dropWhile_cons, if_neg (by rw [← wsQ_same]; exact hw)]
        rw [e1, e2, List.append_assoc]
        rcases hmm with rfl | rfl <;> rfl
    · refine Ev.step (fun _ => spec_Squeeze.l1.eq_2 ..) (EvNeg (by omega) (Ev.step (fun _ => spec_Squeeze.j2.eq_2 ..) (EvNeg (by simp) (EvPos (by omega) ?_))))
      rw [sq_back (by omega)]
      refine EvEq (ih n hn i (acc ++ [m]) hi (by simp <;> omega)) ?_
      rw [List.drop_of_length_le (by omega), List.append_assoc]
      rcases hmm with rfl | rfl <;> rfl
theorem sq_l0 (l : List Int) (hm : l.length < 140737488355328) : ∀ (N n : Nat), n < N → ∀ (i : Nat) (acc : List Int), i + n = l.length → acc.length ≤ i → Ev (fun k => spec_Squeeze.l0 k l acc (i : Int)) (acc ++ Own.sqz (l.drop i))
  | 0, n, h, _, _, _, _ => by omega
  | N + 1, n, hn, i, acc, hi, ha => by
    have ih := sq_l0 l hm N
    by_cases hlt : i < l.length
    · refine Ev.step (fun _ => spec_Squeeze.l0.eq_2 ..) (EvPos (by omega) (EvPos (by omega) ?_))
      rw [rd_at hlt]
      refine EvGet (specblank_eq _) (EvIte (fun hw => ?_) (fun hw => ?_))
      · refine Ev.step (fun _ => spec_Squeeze.l1.eq_2 ..) (EvPos (by omega) (EvPos (by omega) ?_))
        rw [rd_at hlt]
        refine EvGet (specblank_eq _) (Ev.step (fun _ => spec_Squeeze.j2.eq_2 ..) (EvPos hw (EvPos (by omega) (EvPos (by omega) ?_))))
        rw [rd_at hlt]
        refine EvGet (specbreak_eq _) ?_
        rw [wn hlt (by omega), drop_cons hlt, Own.sqz, if_pos (by rw [← wsQ_same]; exact hw)]
        refine EvIte (fun hnl => ?_) (fun hnl => ?_)
        · refine EvEq (sq_l1 l hm N ih (n - 1) (by omega) (i + 1) acc 10 (by omega) (by omega) (.inl rfl)) ?_
          congr 2
          rw [if_pos rfl]
          unfold Own.markQ
          rw [List.any_cons, ← nlQ_same, hnl]
          simp
        · refine EvEq (sq_l1 l hm N ih (n - 1) (by omega) (i + 1) acc 32 (by omega) (by omega) (.inr rfl)) ?_
          congr 2
          rw [if_neg (by omega)]
          unfold Own.markQ
          rw [List.any_cons, ← nlQ_same, eq_false_of_ne_true hnl]
          simp
      · refine EvPos (by omega) ?_
        rw [wn hlt (by omega)]
        refine EvEq (ih (n - 1) (by omega) (i + 1) (acc ++ [l[i]]) (by omega) (by simp <;> omega)) ?_
        rw [drop_cons hlt, Own.sqz_plain (by rw [← wsQ_same]; exact eq_false_of_ne_true hw), List.append_assoc]
        rfl
    · refine Ev.step (fun _ => spec_Squeeze.l0.eq_2 ..) (EvNeg (by omega) (EvNow ?_))
      rw [List.drop_of_length_le (by omega), Own.sqz, List.append_nil]
theorem squeeze_ev (l : List Int) (hm : l.length < 140737488355328) : Ev (fun k => spec_Squeeze.f k l) (Own.sqz l) := by
  have := sq_l0 l hm (l.length + 1) l.length (by omega) 0 [] (by omega) (by simp)
  unfold spec_Squeeze.f
  simpa using this

theorem squeeze_f (l : List Int) (hl : l.length < 140737488355328) (hb : Bytes l) : Own.impl_Squeeze.f l = some (Own.sqz l) := by
  have hall : l.all Own.byQ = true := by
    rw [List.all_eq_true]
    intro x hx
    have := hb x hx
    unfold Own.byQ
    rw [decide_eq_true this.1, decide_eq_true (by omega : x < 256)]
    rfl
  unfold Own.impl_Squeeze.f
  rw [if_pos ⟨hl, hall⟩]

theorem FnBytesSqueeze : laws_FnBytesSqueeze.Pure := by
  intro l h1 h2 h3
  have hb := bytes_of h3
  refine Ev.rounds ?_
  unfold laws_FnBytesSqueeze.f
  refine EvIte (fun _ => Ev.now _) (fun h => ?_)
  refine Ev.bind (few_ev _ (by simp)) (EvIte (fun _ => ?_) (fun _ => Ev.now _))
  refine EvGet (squeeze_f l (by omega) hb) (Ev.bind (squeeze_ev l (by omega)) ?_)
  refine Ev.bind (same_ev _ _ ?_) (EvNow (by simp))
  have := Own.sqz_len l.length l (Nat.le_refl _)
  omega

end Go.Proofs.YtagfmcboppabeaaDoor.Pure
