/- FnInputWithin, its pure statement: where there is room for so many bytes, a piece is written exactly if it fits behind those that have been written. For all lists of byte lists. -/
import Derived.Test.YtbjjjbfjplfmeaaDoorAid
import Derived.Test.YtbjjjbfjplfmeaaDoorPFnInputWithinx0
import Derived.Test.YtbjjjbfjplfmeaaDoorPFnInputWithinx1
import Derived.Test.YtbjjjbfjplfmeaaDoorPFnInputWithinx2
namespace Go.Proofs.YtbjjjbfjplfmeaaDoor.Pure
open Go.RowKit Go.Proofs.YtbjjjbfjplfmeaaDoor.PFnInputWithin Go.Proofs.YtbjjjbfjplfmeaaDoorW.PrintWords Go.Proofs.YtbjjjbfjplfmeaaDoorW.PrintLast Go.Proofs.YtbjjjbfjplfmeaaDoor.Aid
set_option linter.unusedVariables false
set_option linter.unusedSimpArgs false

theorem few_loop (ls : List (List Int)) (hl : ls.length ≤ 2147483647) : ∀ (n i : Nat), i + n = ls.length →
    Ev (fun k => laws_fewBytes.l0 k ls (ls.length : Int) (i : Int)) ((ls.drop i).all fun l => decide (l.length ≤ 300))
  | 0, i, hi => by
    refine Ev.step (fun _ => laws_fewBytes.l0.eq_2 ..) (EvNeg (by omega) ?_)
    rw [List.drop_of_length_le (by omega)]
    exact Ev.now _
  | n + 1, i, hi => by
    have hlt : i < ls.length := by omega
    have e : rd_L1 ls (i : Int) = ls[i] := by unfold rd_L1; simp [List.getD_eq_getElem?_getD, List.getElem?_eq_getElem hlt]
    refine Ev.step (fun _ => laws_fewBytes.l0.eq_2 ..) (EvPos (by omega) (EvPos (by omega) (EvPos (by omega) ?_)))
    rw [e, wn hlt (by omega), drop_cons hlt, List.all_cons]
    refine EvIte (fun h => ?_) (fun h => ?_)
    · rw [decide_eq_false (by omega), Bool.false_and]
      exact Ev.now _
    · rw [decide_eq_true (by omega), Bool.true_and]
      exact few_loop ls hl n (i + 1) (by omega)
theorem few_ev (ls : List (List Int)) (hl : ls.length ≤ 2147483647) : Ev (fun k => laws_fewBytes.f k ls) (ls.all fun l => decide (l.length ≤ 300)) := by
  have := few_loop ls hl ls.length 0 (by omega)
  unfold laws_fewBytes.f
  simpa using this

theorem same_loop (a b : List Int) (hl : a.length = b.length) (hm : a.length ≤ 140737488355328) : ∀ (n i : Nat), i + n = a.length →
    Ev (fun k => spec_SameBytes.l0 k b a (a.length : Int) (i : Int)) (decide (a.drop i = b.drop i))
  | 0, i, hi => by
    refine Ev.step (fun _ => spec_SameBytes.l0.eq_2 ..) (EvNeg (by omega) ?_)
    rw [List.drop_of_length_le (by omega), List.drop_of_length_le (by omega), decide_eq_true rfl]
    exact Ev.now _
  | n + 1, i, hi => by
    have hlt : i < a.length := by omega
    have hlt' : i < b.length := by omega
    refine Ev.step (fun _ => spec_SameBytes.l0.eq_2 ..) (EvPos (by omega) (EvPos (by omega) (EvPos (by omega) (EvPos (by omega) ?_))))
    rw [rd_at hlt, rd_at hlt', wn hlt (by omega), drop_cons hlt, drop_cons hlt']
    refine EvIte (fun h => ?_) (fun h => ?_)
    · refine EvEq (same_loop a b hl hm n (i + 1) (by omega)) ?_
      rw [Bool.eq_iff_iff, h]
      simp only [decide_eq_true_eq, List.cons.injEq, true_and]
    · refine EvNow ?_
      symm
      apply decide_eq_false
      intro e
      injection e with e1 e2
      exact h e1
theorem same_ev (a b : List Int) (hm : a.length ≤ 140737488355328) : Ev (fun k => spec_SameBytes.f k a b) (decide (a = b)) := by
  unfold spec_SameBytes.f
  refine EvIte (fun h => ?_) (fun h => ?_)
  · have := same_loop a b (by omega) hm a.length 0 (by omega)
    simpa using this
  · refine EvNow ?_
    symm
    apply decide_eq_false
    intro e
    subst e
    exact h rfl

theorem join_loop (ls : List (List Int)) (hl : ls.length ≤ 1000) : ∀ (n i : Nat) (acc : List Int), i + n = ls.length → acc.length + (ls.drop i).flatten.length < 140737488355328 →
    Ev (fun k => spec_Join.l0 k acc ls (ls.length : Int) (i : Int)) (acc ++ (ls.drop i).flatten)
  | 0, i, acc, hi, hs => by
    refine Ev.step (fun _ => spec_Join.l0.eq_2 ..) (EvNeg (by omega) ?_)
    rw [List.drop_of_length_le (by omega)]
    simp only [List.flatten_nil, List.append_nil]
    exact Ev.now _
  | n + 1, i, acc, hi, hs => by
    have hlt : i < ls.length := by omega
    have e : rd_L1 ls (i : Int) = ls[i] := by unfold rd_L1; simp [List.getD_eq_getElem?_getD, List.getElem?_eq_getElem hlt]
    rw [drop_cons hlt, List.flatten_cons, List.length_append] at hs
    refine Ev.step (fun _ => spec_Join.l0.eq_2 ..) (EvPos (by omega) (EvPos (by omega) (EvPos (by omega) ?_)))
    rw [e, wn hlt (by omega), drop_cons hlt, List.flatten_cons, ← List.append_assoc]
    refine EvPos (by omega) ?_
    exact join_loop ls hl n (i + 1) (acc ++ ls[i]) (by omega) (by rw [List.length_append]; omega)
theorem join_ev (ls : List (List Int)) (hl : ls.length ≤ 1000) (hs : ls.flatten.length < 140737488355328) : Ev (fun k => spec_Join.f k ls) ls.flatten := by
  have := join_loop ls hl ls.length 0 [] (by omega) (by simpa using hs)
  unfold spec_Join.f
  simpa using this

theorem rdl_at {ls : List (List Int)} {i : Nat} (h : i < ls.length) : rd_L1 ls (i : Int) = ls[i] := by unfold rd_L1; simp [List.getD_eq_getElem?_getD, List.getElem?_eq_getElem h]
theorem fits_loop (ls : List (List Int)) (hl : ls.length ≤ 2147483647) : ∀ (n i : Nat), i + n = ls.length → ∃ b, Ev (fun k => laws_zzFits1.l0 k ls (ls.length : Int) (i : Int)) b
  | 0, i, hi => ⟨true, Ev.step (fun _ => laws_zzFits1.l0.eq_2 ..) (EvNeg (by omega) (Ev.now _))⟩
  | n + 1, i, hi => by
    have hlt : i < ls.length := by omega
    obtain ⟨b, hb⟩ := fits_loop ls hl n (i + 1) (by omega)
    by_cases h : ((rd_L1 ls (i : Int)).length : Int) > 2147483647
    · exact ⟨false, Ev.step (fun _ => laws_zzFits1.l0.eq_2 ..) (EvPos (by omega) (EvPos (by omega) (EvPos (by omega) (EvPos h (Ev.now _)))))⟩
    · exact ⟨b, Ev.step (fun _ => laws_zzFits1.l0.eq_2 ..) (EvPos (by omega) (EvPos (by omega) (EvPos (by omega) (EvNeg h (by rw [wn hlt (by omega)]; exact hb)))))⟩
theorem fits_ev (ls : List (List Int)) : ∃ b, Ev (fun k => laws_zzFits1.f k ls) b ∧ (b = true → ls.length ≤ 2147483647) := by
  by_cases h : (ls.length : Int) > 2147483647
  · exact ⟨false, by unfold laws_zzFits1.f; exact EvPos h (Ev.now _), by simp⟩
  · obtain ⟨b, hb⟩ := fits_loop ls (by omega) ls.length 0 (by omega)
    exact ⟨b, by unfold laws_zzFits1.f; exact EvNeg h hb, fun _ => by omega⟩
theorem rdb_at {l : List Bool} {i : Nat} (h : i < l.length) : rdOf false l (i : Int) = l[i] := by simp [rdOf, List.getD_eq_getElem?_getD, h]
theorem flags_loop (fl : List Bool) (hl : fl.length ≤ 2147483647) : ∀ (n i : Nat), i + n = fl.length → Ev (fun k => laws_FnInputWithin.l1 k fl fl (fl.length : Int) (i : Int)) true
  | 0, i, hi => Ev.step (fun _ => laws_FnInputWithin.l1.eq_2 ..) (EvNeg (by omega) (Ev.now _))
  | n + 1, i, hi => by
    have hlt : i < fl.length := by omega
    refine Ev.step (fun _ => laws_FnInputWithin.l1.eq_2 ..) (EvPos (by omega) (EvPos (by omega) (EvPos (by omega) (EvPos (by omega) ?_))))
    rw [rdb_at hlt, wn hlt (by omega)]
    exact EvNeg (by simp) (flags_loop fl hl n (i + 1) (by omega))
theorem due_loop (size : Nat) (ls : List (List Int)) (hs : size ≤ 300) (hl : ls.length ≤ 20) (hall : ∀ p ∈ ls, p.length ≤ 300) : ∀ (n i : Nat), i + n = ls.length →
    Ev (fun k => laws_FnInputWithin.l0 k (size : Int) ls (Own.runF size (ls.take i)).1 (Own.runF size (ls.take i)).2 ls (ls.length : Int) (i : Int)) true
  | 0, i, hi => by
    have e : i = ls.length := by omega
    subst e
    have hle := Own.runF_le size ls ls.length (Nat.le_refl _)
    rw [List.take_length] at hle ⊢
    have hw : Own.impl_WriteWithin.f (size : Int) ls = some (Own.runF size ls) := by
      unfold Own.impl_WriteWithin.f
      rw [if_pos ⟨by omega, by omega, by omega, by rw [List.all_eq_true]; intro p hp; have := hall p hp; exact decide_eq_true (by omega)⟩, Int.toNat_natCast]
    refine Ev.step (fun _ => laws_FnInputWithin.l0.eq_2 ..) (EvNeg (by omega) (EvGet hw (Ev.bind (same_ev _ _ (by omega)) (EvPos (by simp) ?_))))
    refine Ev.step (fun _ => laws_FnInputWithin.j2.eq_2 ..) (EvNeg (by simp) ?_)
    exact flags_loop (Own.runF size ls).2 (by omega) (Own.runF size ls).2.length 0 (by omega)
  | n + 1, i, hi => by
    have hlt : i < ls.length := by omega
    have ih := due_loop size ls hs hl hall n (i + 1) (by omega)
    have hle := Own.runF_le size ls i (by omega)
    have hp := hall _ (List.getElem_mem hlt)
    rw [Own.runF_step hlt] at ih
    refine Ev.step (fun _ => laws_FnInputWithin.l0.eq_2 ..) (EvPos (by omega) (EvPos (by omega) (EvPos (by omega) ?_)))
    rw [rdl_at hlt, wn hlt (by omega)]
    refine EvIte (fun _ => Ev.now _) (fun _ => ?_)
    rw [w64 (by omega) (by omega)]
    have hd : decide (((Own.runF size (ls.take i)).1.length : Int) + (ls[i].length : Int) ≤ (size : Int)) = decide ((Own.runF size (ls.take i)).1.length + ls[i].length ≤ size) := by
      rw [Bool.eq_iff_iff]
      simp
      omega
    rw [hd]
    by_cases hf : (Own.runF size (ls.take i)).1.length + ls[i].length ≤ size
    · refine EvPos (by omega) (Ev.bind (join_ev _ (by simp) (by simp; omega)) (EvPos (by omega) ?_))
      have e : [(Own.runF size (ls.take i)).1, ls[i]].flatten = (Own.stepF size (Own.runF size (ls.take i)) ls[i]).1 := by
        unfold Own.stepF
        simp [hf]
      rw [e]
      exact ih
    · refine EvNeg (by omega) (EvPos (by omega) ?_)
      have e : (Own.stepF size (Own.runF size (ls.take i)) ls[i]).1 = (Own.runF size (ls.take i)).1 := by
        unfold Own.stepF
        simp [hf]
      rw [e] at ih
      exact ih
theorem FnInputWithin : ∀ (size : Int) (_ : (Lit.int .i64 size).wf = true) (ls : List (List Int)), ∃ k, laws_FnInputWithin.f k size ls = some true := by
  intro size _ ls
  refine Ev.rounds ?_
  unfold laws_FnInputWithin.f
  obtain ⟨b, hb, hsz⟩ := fits_ev ls
  refine Ev.bind hb (EvIte (fun hbt => ?_) (fun _ => Ev.now _))
  have hl := hsz hbt
  have j : ∀ q : Bool, (q = false → 0 ≤ size ∧ size ≤ 300 ∧ ls.length ≤ 20 ∧ (ls.all fun l => decide (l.length ≤ 300)) = true) → Ev (fun k => laws_FnInputWithin.j0 k size ls q) true := by
    intro q hq
    refine Ev.step (fun _ => laws_FnInputWithin.j0.eq_2 ..) (EvIte (fun _ => Ev.now _) (fun h => ?_))
    obtain ⟨h0, h1, h20, hall⟩ := hq (by simpa using h)
    obtain ⟨sz, rfl⟩ := Int.eq_ofNat_of_zero_le h0
    have := due_loop sz ls (by omega) h20 (fun p hp => of_decide_eq_true (List.all_eq_true.1 hall p hp)) ls.length 0 (by omega)
    simpa [Own.runF] using this
  refine Ev.bind (few_ev ls hl) (EvIte (fun ha => ?_) (fun _ => j true (by simp)))
  refine EvIte (fun _ => j true (by simp)) (fun h1 => EvIte (fun _ => j true (by simp)) (fun h2 => j _ (fun hq => ?_)))
  have := of_decide_eq_false hq
  exact ⟨by omega, by omega, by omega, ha⟩

end Go.Proofs.YtbjjjbfjplfmeaaDoor.Pure
