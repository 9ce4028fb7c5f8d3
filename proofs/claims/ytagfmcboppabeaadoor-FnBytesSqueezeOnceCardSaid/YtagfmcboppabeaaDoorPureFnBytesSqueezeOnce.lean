/- FnBytesSqueezeOnce, its pure statement: squeezing white space again changes nothing. For all byte lists. -/
import Derived.Test.YtagfmcboppabeaaDoorAid
import Derived.Test.YtagfmcboppabeaaDoorPFnBytesSqueezeOncex0
import Derived.Test.YtagfmcboppabeaaDoorPFnBytesSqueezeOncex1
namespace Go.Proofs.YtagfmcboppabeaaDoor.Pure
open Go.RowKit Go.Proofs.YtagfmcboppabeaaDoor.PFnBytesSqueezeOnce Go.Proofs.YtagfmcboppabeaaDoorW.PrintWords Go.Proofs.YtagfmcboppabeaaDoorW.PrintLast Go.Proofs.YtagfmcboppabeaaDoor.Aid
set_option linter.unusedVariables false
set_option linter.unusedSimpArgs false

theorem few_loop (ls : List (List Int)) (hl : ls.length ≤ 1000) : ∀ (n i : Nat), i + n = ls.length →
    Ev (fun k => laws_fewBytes.l0 k ls (ls.length : Int) (i : Int)) ((ls.drop i).all fun l => decide (l.length ≤ 300))
  | 0, i, hi => by
    refine Ev.step (fun _ => laws_fewBytes.l0.eq_2 ..) (EvNeg (by omega) ?_)
    rw [List.drop_of_length_le (by omega)]
    exact Ev.now _
  | n + 1, i, hi => by
    have hlt : i < ls.length := by omega
    have e : rd_L1 ls (i : Int) = ls[i] := by unfold rd_L1; simp [List.getD_eq_getElem?_getD, List.getElem?_eq_getElem hlt]
    refine Ev.step (fun _ => laws_fewBytes.l0.eq_2 ..) (EvPos (by omega) (EvPos (by omega) (EvPos (by omega) ?_)))
    rw [e, wn hlt (by omega), drop_cons hlt, List.all_cons]
    refine EvIte (fun h => ?_) (fun h => ?_)
    · rw [decide_eq_false (by omega), Bool.false_and]
      exact Ev.now _
    · rw [decide_eq_true (by omega), Bool.true_and]
      exact few_loop ls hl n (i + 1) (by omega)
theorem few_ev (ls : List (List Int)) (hl : ls.length ≤ 1000) : Ev (fun k => laws_fewBytes.f k ls) (ls.all fun l => decide (l.length ≤ 300)) := by
  have := few_loop ls hl ls.length 0 (by omega)
  unfold laws_fewBytes.f
  simpa using this

theorem same_loop (a b : List Int) (hl : a.length = b.length) (hm : a.length ≤ 140737488355328) : ∀ (n i : Nat), i + n = a.length →
    Ev (fun k => spec_SameBytes.l0 k b a (a.length : Int) (i : Int)) (decide (a.drop i = b.drop i))
  | 0, i, hi => by
    refine Ev.step (fun _ => spec_SameBytes.l0.eq_2 ..) (EvNeg (by omega) ?_)
    rw [List.drop_of_length_le (by omega), List.drop_of_length_le (by omega), decide_eq_true rfl]
    exact Ev.now _
  | n + 1, i, hi => by
    have hlt : i < a.length := by omega
    have hlt' : i < b.length := by omega
    refine Ev.step (fun _ => spec_SameBytes.l0.eq_2 ..) (EvPos (by omega) (EvPos (by omega) (EvPos (by omega) (EvPos (by omega) ?_))))
    rw [rd_at hlt, rd_at hlt', wn hlt (by omega), drop_cons hlt, drop_cons hlt']
    refine EvIte (fun h => ?_) (fun h => ?_)
    · refine EvEq (same_loop a b hl hm n (i + 1) (by omega)) ?_
      rw [Bool.eq_iff_iff, h]
      simp only [decide_eq_true_eq, List.cons.injEq, true_and]
    · refine EvNow ?_
      symm
      apply decide_eq_false
      intro e
      injection e with e1 e2
      exact h e1
theorem same_ev (a b : List Int) (hm : a.length ≤ 140737488355328) : Ev (fun k => spec_SameBytes.f k a b) (decide (a = b)) := by
  unfold spec_SameBytes.f
  refine EvIte (fun h => ?_) (fun h => ?_)
  · have := same_loop a b (by omega) hm a.length 0 (by omega)
    simpa using this
  · refine EvNow ?_
    symm
    apply decide_eq_false
    intro e
    subst e
    exact h rfl

theorem squeeze_f (l : List Int) (hl : l.length < 140737488355328) (hb : Bytes l) : Own.impl_Squeeze.f l = some (Own.sqz l) := by
  have hall : l.all Own.byQ = true := by
    rw [List.all_eq_true]
    intro x hx
    have := hb x hx
    unfold Own.byQ
    rw [decide_eq_true this.1, decide_eq_true (by omega : x < 256)]
    rfl
  unfold Own.impl_Squeeze.f
  rw [if_pos ⟨hl, hall⟩]

theorem mark_two (l : List Int) : Own.markQ l = 10 ∨ Own.markQ l = 32 := by
  unfold Own.markQ
  split
  · exact .inl rfl
  · exact .inr rfl
theorem sqz_bytes : ∀ (n : Nat) (l : List Int), l.length ≤ n → Bytes l → Bytes (Own.sqz l)
  | _, [], _, _ => by rw [Own.sqz]; exact fun x hx => by cases hx
  | 0, c :: t, h, _ => by simp at h
  | n + 1, c :: t, h, hb => by
    have h1 : (t.dropWhile Own.wsQ).length ≤ t.length := (List.dropWhile_sublist _).length_le
    simp only [List.length_cons] at h
    have hbt : Bytes t := fun x hx => hb x (List.mem_cons_of_mem _ hx)
    rw [Own.sqz]
    by_cases hc : Own.wsQ c = true
    · rw [if_pos hc]
      intro x hx
      rcases List.mem_cons.1 hx with rfl | hx
      · rcases mark_two (c :: t.takeWhile Own.wsQ) with e | e <;> rw [e] <;> omega
      · exact sqz_bytes n _ (by omega) (fun y hy => hbt y ((List.dropWhile_sublist _).mem hy)) x hx
    · rw [if_neg hc]
      intro x hx
      rcases List.mem_cons.1 hx with rfl | hx
      · exact hb _ (List.mem_cons_self ..)
      · exact sqz_bytes n t (by omega) hbt x hx
/-- What the squeezed bytes begin with. -/
theorem sqz_head (l : List Int) (h : ∀ c t, l = c :: t → Own.wsQ c = false) : (Own.sqz l).takeWhile Own.wsQ = [] ∧ (Own.sqz l).dropWhile Own.wsQ = Own.sqz l := by
  cases l with
  | nil => rw [Own.sqz]; exact ⟨rfl, rfl⟩
  | cons c t =>
    have hc := h c t rfl
    rw [Own.sqz_plain hc, List.takeWhile_cons, if_neg (by rw [hc]; simp), List.dropWhile_cons, if_neg (by rw [hc]; simp)]
    exact ⟨rfl, rfl⟩
theorem drop_head (l : List Int) : ∀ c t, l.dropWhile Own.wsQ = c :: t → Own.wsQ c = false := by
  induction l with
  | nil => intro c t h; cases h
  | cons x l ih =>
    intro c t h
    rw [List.dropWhile_cons] at h
    by_cases hx : Own.wsQ x = true
    · rw [if_pos hx] at h
      exact ih c t h
    · rw [if_neg hx] at h
      injection h with h1 h2
      rw [← h1]
      exact eq_false_of_ne_true hx
theorem sqz_once : ∀ (n : Nat) (l : List Int), l.length ≤ n → Own.sqz (Own.sqz l) = Own.sqz l
  | _, [], _ => by simp [Own.sqz]
  | 0, c :: t, h => by simp at h
  | n + 1, c :: t, h => by
    have h1 : (t.dropWhile Own.wsQ).length ≤ t.length := (List.dropWhile_sublist _).length_le
    simp only [List.length_cons] at h
    by_cases hc : Own.wsQ c = true
    · have e : Own.sqz (c :: t) = Own.markQ (c :: t.takeWhile Own.wsQ) :: Own.sqz (t.dropWhile Own.wsQ) := by rw [Own.sqz, if_pos hc]
      rw [e]
      obtain ⟨m, hm⟩ : ∃ m, m = Own.markQ (c :: t.takeWhile Own.wsQ) := ⟨_, rfl⟩
      have hm2 := mark_two (c :: t.takeWhile Own.wsQ)
      rw [← hm] at hm2 ⊢
      have hw : Own.wsQ m = true := by rcases hm2 with rfl | rfl <;> decide
      obtain ⟨a, b⟩ := sqz_head _ (drop_head t)
      rw [Own.sqz, if_pos hw, a, b, sqz_once n _ (by omega)]
      congr 1
      rcases hm2 with rfl | rfl <;> decide
    · have hf := eq_false_of_ne_true hc
      rw [Own.sqz_plain hf, Own.sqz_plain hf, sqz_once n t (by omega)]
theorem FnBytesSqueezeOnce : laws_FnBytesSqueezeOnce.Pure := by
  intro l h1 h2 h3
  have hb := bytes_of h3
  refine Ev.rounds ?_
  unfold laws_FnBytesSqueezeOnce.f
  refine EvIte (fun _ => Ev.now _) (fun h => ?_)
  refine Ev.bind (few_ev _ (by simp)) (EvIte (fun _ => ?_) (fun _ => Ev.now _))
  have hlen := Own.sqz_len l.length l (Nat.le_refl _)
  refine EvGet (squeeze_f l (by omega) hb) (EvGet (squeeze_f _ (by omega) (sqz_bytes _ l (Nat.le_refl _) hb)) ?_)
  rw [sqz_once _ l (Nat.le_refl _)]
  refine Ev.bind (same_ev _ _ (by omega)) (EvPos (by simp) ?_)
  refine EvPos (by omega) ?_
  cases l with
  | nil => simp; exact Ev.now _
  | cons c t =>
    have hp : 0 < (Own.sqz (c :: t)).length := by
      rw [Own.sqz]
      split <;> simp
    refine EvNeg (by simp <;> omega) (EvNow ?_)
    simp <;> omega

end Go.Proofs.YtagfmcboppabeaaDoor.Pure
