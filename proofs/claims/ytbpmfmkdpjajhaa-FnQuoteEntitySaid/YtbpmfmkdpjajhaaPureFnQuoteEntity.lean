/- FnQuoteEntity, its pure statement: the entities of both quotes by their numbers, and by the name of the double one, are told with how many bytes they have. For all byte lists behind them. -/
import Derived.Test.YtbpmfmkdpjajhaaAid
import Derived.Test.YtbpmfmkdpjajhaaPFnQuoteEntityx0
import Derived.Test.YtbpmfmkdpjajhaaPFnQuoteEntityx1
import Derived.Test.YtbpmfmkdpjajhaaPFnQuoteEntityx2
import Derived.Test.YtbpmfmkdpjajhaaPFnQuoteEntityx3
namespace Go.Proofs.Ytbpmfmkdpjajhaa.Pure
open Go.RowKit Go.Proofs.Ytbpmfmkdpjajhaa.PFnQuoteEntity Go.Proofs.YtbpmfmkdpjajhaaW.PrintWords Go.Proofs.YtbpmfmkdpjajhaaW.PrintLast Go.Proofs.Ytbpmfmkdpjajhaa.Aid
set_option linter.unusedVariables false
set_option linter.unusedSimpArgs false

theorem own_eq (l : List Int) (h : l.length < 140737488355328) : impl_own.f l = some l := by
  unfold impl_own.f
  simp only [Option.bind_some, List.nil_append, List.length_nil, Nat.zero_add]
  rw [if_pos h]

theorem few_loop (ls : List (List Int)) (hl : ls.length ≤ 1000) : ∀ (n i : Nat), i + n = ls.length →
    Ev (fun k => laws_fewBytes.l0 k ls (ls.length : Int) (i : Int)) ((ls.drop i).all fun l => decide (l.length ≤ 300))
  | 0, i, hi => by
    refine Ev.step (fun _ => laws_fewBytes.l0.eq_2 ..) (EvNeg (by omega) ?_)
    rw [List.drop_of_length_le (by omega)]
    exact Ev.now _
  | n + 1, i, hi => by
    have hlt : i < ls.length := by omega
    have e : rd_L1 ls (i : Int) = ls[i] := by unfold rd_L1; simp [List.getD_eq_getElem?_getD, List.getElem?_eq_getElem hlt]
    refine Ev.step (fun _ => laws_fewBytes.l0.eq_2 ..) (EvPos (by omega) (EvPos (by omega) (EvPos (by omega) ?_)))
    rw [e, wn hlt (by omega), drop_cons hlt, List.all_cons]
    refine EvIte (fun h => ?_) (fun h => ?_)
    · rw [decide_eq_false (by omega), Bool.false_and]
      exact Ev.now _
    · rw [decide_eq_true (by omega), Bool.true_and]
      exact few_loop ls hl n (i + 1) (by omega)
theorem few_ev (ls : List (List Int)) (hl : ls.length ≤ 1000) : Ev (fun k => laws_fewBytes.f k ls) (ls.all fun l => decide (l.length ≤ 300)) := by
  have := few_loop ls hl ls.length 0 (by omega)
  unfold laws_fewBytes.f
  simpa using this

theorem join_loop (ls : List (List Int)) (hl : ls.length ≤ 1000) : ∀ (n i : Nat) (acc : List Int), i + n = ls.length → acc.length + (ls.drop i).flatten.length < 140737488355328 →
    Ev (fun k => spec_Join.l0 k acc ls (ls.length : Int) (i : Int)) (acc ++ (ls.drop i).flatten)
  | 0, i, acc, hi, hs => by
    refine Ev.step (fun _ => spec_Join.l0.eq_2 ..) (EvNeg (by omega) ?_)
    rw [List.drop_of_length_le (by omega)]
    simp only [List.flatten_nil, List.append_nil]
    exact Ev.now _
  | n + 1, i, acc, hi, hs => by
    have hlt : i < ls.length := by omega
    have e : rd_L1 ls (i : Int) = ls[i] := by unfold rd_L1; simp [List.getD_eq_getElem?_getD, List.getElem?_eq_getElem hlt]
    rw [drop_cons hlt, List.flatten_cons, List.length_append] at hs
    refine Ev.step (fun _ => spec_Join.l0.eq_2 ..) (EvPos (by omega) (EvPos (by omega) (EvPos (by omega) ?_)))
    rw [e, wn hlt (by omega), drop_cons hlt, List.flatten_cons, ← List.append_assoc]
    refine EvPos (by omega) ?_
    exact join_loop ls hl n (i + 1) (acc ++ ls[i]) (by omega) (by rw [List.length_append]; omega)
theorem join_ev (ls : List (List Int)) (hl : ls.length ≤ 1000) (hs : ls.flatten.length < 140737488355328) : Ev (fun k => spec_Join.f k ls) ls.flatten := by
  have := join_loop ls hl ls.length 0 [] (by omega) (by simpa using hs)
  unfold spec_Join.f
  simpa using this

theorem own2 {l : List Int} {r : Int × Int} (hl : l.length < 140737488355328) (h : Ev (fun k => tdparse_QuoteEntity.f k l) r) : Ev (fun k => impl_QuoteEntity.f k l) r := by
  unfold impl_QuoteEntity.f
  exact EvGet (own_eq l hl) (Ev.bind h (Ev.now _))
theorem x24 : wrap64 (2 + 2) = 4 := by unfold wrap64; omega
theorem x23 : wrap64 (2 + 1) = 3 := by unfold wrap64; omega
theorem x25 : wrap64 (2 + 3) = 5 := by unfold wrap64; omega
theorem x34 : wrap64 (3 + 1) = 4 := by unfold wrap64; omega
theorem x35 : wrap64 (3 + 2) = 5 := by unfold wrap64; omega
theorem x36 : wrap64 (3 + 3) = 6 := by unfold wrap64; omega
section
variable (r : List Int) (hr : r.length ≤ 300)
include hr
/-- By a decimal number. -/
theorem dec_ev (d q : Int) (hd : d = 52 ∧ q = 34 ∨ d = 57 ∧ q = 39) : Ev (fun k => tdparse_QuoteEntity.f k (38 :: 35 :: 51 :: d :: 59 :: r)) (q, 5) := by
  have hlen : ((38 :: 35 :: 51 :: d :: 59 :: r).length : Int) = r.length + 5 := by simp only [List.length_cons]; omega
  unfold tdparse_QuoteEntity.f
  rw [hlen]
  refine EvNeg (by omega) (EvPos (by omega) ?_)
  refine Ev.step (fun _ => tdparse_QuoteEntity.j0.eq_2 ..) (EvNeg (by simp [rd]) ?_)
  rw [hlen]
  refine EvPos (by omega) (EvPos rfl (EvPos (by omega) (EvNeg (by simp [rd]) ?_)))
  refine Ev.step (fun _ => tdparse_QuoteEntity.l1.eq_2 ..) ?_
  rw [hlen]
  refine EvPos (by omega) (EvPos (by omega) (EvNeg (by simp [rd]) ?_))
  refine Ev.step (fun _ => tdparse_QuoteEntity.j5.eq_2 ..) ?_
  rw [hlen, x24]
  refine EvPos (by omega) (EvPos (by omega) (EvPos (by omega) (EvPos rfl (EvPos (by omega) ?_))))
  refine Ev.step (fun _ => tdparse_QuoteEntity.j6.eq_2 ..) (EvPos rfl ?_)
  rw [hlen, x23, x25]
  have e : rd (38 :: 35 :: 51 :: d :: 59 :: r) 3 = d := rfl
  rw [e]
  refine EvPos (by omega) (EvPos (by omega) ?_)
  rcases hd with ⟨rfl, rfl⟩ | ⟨rfl, rfl⟩
  · exact EvPos rfl (Ev.now _)
  · exact EvNeg (by omega) (EvPos rfl (Ev.now _))
/-- By a hexadecimal number. -/
theorem hex_ev (d q : Int) (hd : d = 50 ∧ q = 34 ∨ d = 55 ∧ q = 39) : Ev (fun k => tdparse_QuoteEntity.f k (38 :: 35 :: 120 :: 50 :: d :: 59 :: r)) (q, 6) := by
  have hlen : ((38 :: 35 :: 120 :: 50 :: d :: 59 :: r).length : Int) = r.length + 6 := by simp only [List.length_cons]; omega
  unfold tdparse_QuoteEntity.f
  rw [hlen]
  refine EvNeg (by omega) (EvPos (by omega) ?_)
  refine Ev.step (fun _ => tdparse_QuoteEntity.j0.eq_2 ..) (EvNeg (by simp [rd]) ?_)
  rw [hlen]
  refine EvPos (by omega) (EvPos rfl (EvPos (by omega) (EvPos rfl ?_)))
  refine Ev.step (fun _ => tdparse_QuoteEntity.l0.eq_2 ..) ?_
  rw [hlen]
  refine EvPos (by omega) (EvPos (by omega) (EvNeg (by simp [rd]) ?_))
  refine Ev.step (fun _ => tdparse_QuoteEntity.j2.eq_2 ..) ?_
  rw [hlen, x35]
  refine EvPos (by omega) (EvPos (by omega) (EvPos (by omega) (EvPos rfl (EvPos (by omega) ?_))))
  refine Ev.step (fun _ => tdparse_QuoteEntity.j3.eq_2 ..) (EvPos rfl ?_)
  rw [hlen, x34, x36]
  have e : rd (38 :: 35 :: 120 :: 50 :: d :: 59 :: r) 4 = d := rfl
  rw [e]
  refine EvPos (by omega) (EvPos (by omega) ?_)
  rcases hd with ⟨rfl, rfl⟩ | ⟨rfl, rfl⟩
  · exact EvPos rfl (Ev.now _)
  · exact EvNeg (by omega) (EvPos rfl (Ev.now _))
/-- By its name. -/
theorem name_ev : Ev (fun k => tdparse_QuoteEntity.f k (38 :: 113 :: 117 :: 111 :: 116 :: 59 :: r)) (34, 6) := by
  have hlen : ((38 :: 113 :: 117 :: 111 :: 116 :: 59 :: r).length : Int) = r.length + 6 := by simp only [List.length_cons]; omega
  unfold tdparse_QuoteEntity.f
  rw [hlen]
  refine EvNeg (by omega) (EvPos (by omega) ?_)
  refine Ev.step (fun _ => tdparse_QuoteEntity.j0.eq_2 ..) (EvNeg (by simp [rd]) ?_)
  rw [hlen]
  refine EvPos (by omega) (EvNeg (by simp [rd]) (EvPos (by omega) (EvPos (by omega) ?_)))
  refine Ev.step (fun _ => tdparse_QuoteEntity.j7.eq_2 ..) (EvPos rfl ?_)
  rw [hlen]
  refine EvPos (by omega) (EvPos (by omega) (EvGet (a := true) ?_ (EvPos rfl (Ev.now _))))
  unfold bytes_Equal.f
  simp
end
theorem FnQuoteEntity : laws_FnQuoteEntity.Pure := by
  intro s a hs ha1 ha2 ha
  refine Ev.rounds ?_
  unfold laws_FnQuoteEntity.f
  have j0 : ∀ q : Bool, (q = false → a.length ≤ 300 ∧ 0 ≤ s ∧ s ≤ 4) → Ev (fun k => laws_FnQuoteEntity.j0 k s a q) true := by
    intro q hq
    refine Ev.step (fun _ => laws_FnQuoteEntity.j0.eq_2 ..) (EvIte (fun _ => Ev.now _) (fun h => ?_))
    obtain ⟨hl, h0, h4⟩ := hq (by simpa using h)
    have e0 : Go.Proofs.Ytbpmfmkdpjajhaa.Own.numsOf (⟨#[38, 35, 51, 52, 59]⟩ : ByteArray) = [38, 35, 51, 52, 59] := rfl
    have e1 : Go.Proofs.Ytbpmfmkdpjajhaa.Own.numsOf (⟨#[38, 35, 120, 50, 50, 59]⟩ : ByteArray) = [38, 35, 120, 50, 50, 59] := rfl
    have e2 : Go.Proofs.Ytbpmfmkdpjajhaa.Own.numsOf (⟨#[38, 113, 117, 111, 116, 59]⟩ : ByteArray) = [38, 113, 117, 111, 116, 59] := rfl
    have e3 : Go.Proofs.Ytbpmfmkdpjajhaa.Own.numsOf (⟨#[38, 35, 51, 57, 59]⟩ : ByteArray) = [38, 35, 51, 57, 59] := rfl
    have e4 : Go.Proofs.Ytbpmfmkdpjajhaa.Own.numsOf (⟨#[38, 35, 120, 50, 55, 59]⟩ : ByteArray) = [38, 35, 120, 50, 55, 59] := rfl
    rw [e0, e1, e2, e3, e4]
    refine EvIte (fun hs0 => EvNeg (by omega) ?_) (fun _ => EvIte (fun hs0 => EvNeg (by omega) ?_) (fun _ => EvIte (fun hs0 => EvNeg (by omega) ?_) (fun _ => EvIte (fun hs0 => EvPos (by omega) ?_) (fun _ => EvPos (by omega) (EvPos (by omega) ?_)))))
    all_goals
      refine Ev.bind (join_ev _ (by simp) (by simp; omega)) ?_
      simp only [List.flatten_cons, List.flatten_nil, List.append_nil, List.cons_append, List.nil_append]
    · exact Ev.bind (own2 (by simp; omega) (dec_ev a hl 52 34 (.inl ⟨rfl, rfl⟩))) (EvPos rfl (Ev.now _))
    · exact Ev.bind (own2 (by simp; omega) (hex_ev a hl 50 34 (.inl ⟨rfl, rfl⟩))) (EvPos rfl (Ev.now _))
    · exact Ev.bind (own2 (by simp; omega) (name_ev a hl)) (EvPos rfl (Ev.now _))
    · exact Ev.bind (own2 (by simp; omega) (dec_ev a hl 57 39 (.inr ⟨rfl, rfl⟩))) (EvPos rfl (Ev.now _))
    · exact Ev.bind (own2 (by simp; omega) (hex_ev a hl 55 39 (.inr ⟨rfl, rfl⟩))) (EvPos rfl (Ev.now _))
  have yes := j0 true (by simp)
  refine EvIte (fun _ => Ev.now _) (fun _ => EvIte (fun _ => yes) (fun h0 => EvIte (fun _ => yes) (fun h4 => ?_)))
  exact Ev.bind (few_ev _ (by simp)) (j0 _ (fun hq => ⟨by simpa using hq, by omega, by omega⟩))

end Go.Proofs.Ytbpmfmkdpjajhaa.Pure
