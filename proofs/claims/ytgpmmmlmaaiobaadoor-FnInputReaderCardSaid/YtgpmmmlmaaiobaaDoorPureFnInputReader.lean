/- FnInputReader, its pure statement: bytes are read in pieces of some sizes, each of them as long as there are so many left; where there are none left, and only there, this is told. For all byte lists and sizes. -/
import Derived.Test.YtgpmmmlmaaiobaaDoorAid
import Derived.Test.YtgpmmmlmaaiobaaDoorPFnInputReaderx0
import Derived.Test.YtgpmmmlmaaiobaaDoorPFnInputReaderx1
import Derived.Test.YtgpmmmlmaaiobaaDoorPFnInputReaderx2
namespace Go.Proofs.YtgpmmmlmaaiobaaDoor.Pure
open Go.RowKit Go.Proofs.YtgpmmmlmaaiobaaDoor.PFnInputReader Go.Proofs.YtgpmmmlmaaiobaaDoorW.PrintWords Go.Proofs.YtgpmmmlmaaiobaaDoorW.PrintLast Go.Proofs.YtgpmmmlmaaiobaaDoor.Aid
set_option linter.unusedVariables false
set_option linter.unusedSimpArgs false

theorem few_loop (ls : List (List Int)) (hl : ls.length ≤ 1000) : ∀ (n i : Nat), i + n = ls.length →
    Ev (fun k => laws_fewBytes.l0 k ls (ls.length : Int) (i : Int)) ((ls.drop i).all fun l => decide (l.length ≤ 300))
  | 0, i, hi => by
    refine Ev.step (fun _ => laws_fewBytes.l0.eq_2 ..) (EvNeg (by omega) ?_)
    rw [List.drop_of_length_le (by omega)]
    exact Ev.now _
  | n + 1, i, hi => by
    have hlt : i < ls.length := by omega
    have e : rd_L1 ls (i : Int) = ls[i] := by unfold rd_L1; simp [List.getD_eq_getElem?_getD, List.getElem?_eq_getElem hlt]
    refine Ev.step (fun _ => laws_fewBytes.l0.eq_2 ..) (EvPos (by omega) (EvPos (by omega) (EvPos (by omega) ?_)))
    rw [e, wn hlt (by omega), drop_cons hlt, List.all_cons]
    refine EvIte (fun h => ?_) (fun h => ?_)
    · rw [decide_eq_false (by omega), Bool.false_and]
      exact Ev.now _
    · rw [decide_eq_true (by omega), Bool.true_and]
      exact few_loop ls hl n (i + 1) (by omega)
theorem few_ev (ls : List (List Int)) (hl : ls.length ≤ 1000) : Ev (fun k => laws_fewBytes.f k ls) (ls.all fun l => decide (l.length ≤ 300)) := by
  have := few_loop ls hl ls.length 0 (by omega)
  unfold laws_fewBytes.f
  simpa using this

theorem same_loop (a b : List Int) (hl : a.length = b.length) (hm : a.length ≤ 140737488355328) : ∀ (n i : Nat), i + n = a.length →
    Ev (fun k => spec_SameBytes.l0 k b a (a.length : Int) (i : Int)) (decide (a.drop i = b.drop i))
  | 0, i, hi => by
    refine Ev.step (fun _ => spec_SameBytes.l0.eq_2 ..) (EvNeg (by omega) ?_)
    rw [List.drop_of_length_le (by omega), List.drop_of_length_le (by omega), decide_eq_true rfl]
    exact Ev.now _
  | n + 1, i, hi => by
    have hlt : i < a.length := by omega
    have hlt' : i < b.length := by omega
    refine Ev.step (fun _ => spec_SameBytes.l0.eq_2 ..) (EvPos (by omega) (EvPos (by omega) (EvPos (by omega) (EvPos (by omega) ?_))))
    rw [rd_at hlt, rd_at hlt', wn hlt (by omega), drop_cons hlt, drop_cons hlt']
    refine EvIte (fun h => ?_) (fun h => ?_)
    · refine EvEq (same_loop a b hl hm n (i + 1) (by omega)) ?_
      rw [Bool.eq_iff_iff, h]
      simp only [decide_eq_true_eq, List.cons.injEq, true_and]
    · refine EvNow ?_
      symm
      apply decide_eq_false
      intro e
      injection e with e1 e2
      exact h e1
theorem same_ev (a b : List Int) (hm : a.length ≤ 140737488355328) : Ev (fun k => spec_SameBytes.f k a b) (decide (a = b)) := by
  unfold spec_SameBytes.f
  refine EvIte (fun h => ?_) (fun h => ?_)
  · have := same_loop a b (by omega) hm a.length 0 (by omega)
    simpa using this
  · refine EvNow ?_
    symm
    apply decide_eq_false
    intro e
    subst e
    exact h rfl

theorem rdl_at {ls : List (List Int)} {i : Nat} (h : i < ls.length) : rd_L1 ls (i : Int) = ls[i] := by unfold rd_L1; simp [List.getD_eq_getElem?_getD, List.getElem?_eq_getElem h]
theorem rdb_at {l : List Bool} {i : Nat} (h : i < l.length) : rdOf false l (i : Int) = l[i] := by simp [rdOf, List.getD_eq_getElem?_getD, h]
theorem sizes_loop (l : List Int) (hl : l.length ≤ 2147483647) : ∀ (n i : Nat), i + n = l.length → ∃ b, Ev (fun k => laws_sizesOk.l0 k l l (l.length : Int) (i : Int)) b ∧ (b = true → l.length ≤ 50 ∧ ∀ x ∈ l.drop i, 1 ≤ x ∧ x ≤ 300)
  | 0, i, hi => ⟨decide ((l.length : Int) ≤ 50), Ev.step (fun _ => laws_sizesOk.l0.eq_2 ..) (EvNeg (by omega) (Ev.now _)), fun h => ⟨by have := of_decide_eq_true h; omega, by rw [List.drop_of_length_le (by omega)]; simp⟩⟩
  | n + 1, i, hi => by
    have hlt : i < l.length := by omega
    obtain ⟨b, hb, hh⟩ := sizes_loop l hl n (i + 1) (by omega)
    by_cases h1 : l[i] < 1
    · exact ⟨false, Ev.step (fun _ => laws_sizesOk.l0.eq_2 ..) (EvPos (by omega) (EvPos (by omega) (EvPos (by omega) (EvPos (by rw [rd_at hlt]; exact h1) (Ev.now _))))), by simp⟩
    · by_cases h2 : l[i] > 300
      · exact ⟨false, Ev.step (fun _ => laws_sizesOk.l0.eq_2 ..) (EvPos (by omega) (EvPos (by omega) (EvPos (by omega) (EvNeg (by rw [rd_at hlt]; exact h1) (EvPos (by rw [rd_at hlt]; exact h2) (Ev.now _)))))), by simp⟩
      · refine ⟨b, Ev.step (fun _ => laws_sizesOk.l0.eq_2 ..) (EvPos (by omega) (EvPos (by omega) (EvPos (by omega) (EvNeg (by rw [rd_at hlt]; exact h1) (EvNeg (by rw [rd_at hlt]; exact h2) (by rw [wn hlt (by omega)]; exact hb)))))), fun h => ?_⟩
        obtain ⟨q1, q2⟩ := hh h
        refine ⟨q1, fun x hx => ?_⟩
        rw [drop_cons hlt] at hx
        rcases List.mem_cons.1 hx with rfl | hx
        · omega
        · exact q2 x hx
theorem sizes_ev (l : List Int) (hl : l.length ≤ 2147483647) : ∃ b, Ev (fun k => laws_sizesOk.f k l) b ∧ (b = true → l.length ≤ 50 ∧ ∀ x ∈ l, 1 ≤ x ∧ x ≤ 300) := by
  have := sizes_loop l hl l.length 0 (by omega)
  simpa [laws_sizesOk.f] using this
theorem rdP_len (l : List Int) : ∀ (s : List Int) (p : Nat), (Own.rdP l s p).length = s.length
  | [], _ => rfl
  | _ :: t, p => by simp only [Own.rdP, List.length_cons]; rw [rdP_len l t]
theorem rdE_len (l : List Int) : ∀ (s : List Int) (p : Nat), (Own.rdE l s p).length = s.length
  | [], _ => rfl
  | _ :: t, p => by simp only [Own.rdE, List.length_cons]; rw [rdE_len l t]
theorem step_mn {len p : Nat} {x : Int} (hp : p ≤ len) (hl : len ≤ 300) (h1 : 1 ≤ x) (h2 : x ≤ 300) : mn x (wrap64 ((len : Int) - (p : Int))) = ((min x.toNat (len - p) : Nat) : Int) := by
  have hw : wrap64 ((len : Int) - (p : Int)) = ((len - p : Nat) : Int) := by rw [w64 (by omega) (by omega)]; omega
  rw [hw]
  unfold mn
  split <;> omega
theorem step_add {p m : Nat} (h : p + m ≤ 300) : wrap64 ((p : Int) + (m : Int)) = ((p + m : Nat) : Int) := by rw [w64 (by omega) (by omega)]; omega
theorem step_le {len p : Nat} {x : Int} (hp : p ≤ len) : p + min x.toNat (len - p) ≤ len := by omega
theorem step_zero {len p : Nat} {x : Int} (h1 : 1 ≤ x) : (decide (len ≤ p) != (((min x.toNat (len - p) : Nat) : Int) == 0)) = false := by
  by_cases hq : len ≤ p
  · have : min x.toNat (len - p) = 0 := by omega
    simp [hq, this]
  · have : ¬ min x.toNat (len - p) = 0 := by omega
    have h2 : ((min x.toNat (len - p) : Nat) : Int) ≠ 0 := by omega
    simp only [hq, decide_false, Bool.false_bne]
    exact beq_false_of_ne h2
theorem step_cut {l : List Int} {p n : Nat} : (l.drop p).take n = (l.take (p + min n (l.length - p))).drop p := by
  rw [List.drop_take, Nat.add_sub_cancel_left]
  rcases Nat.le_total n (l.length - p) with h | h
  · rw [Nat.min_eq_left h]
  · rw [Nat.min_eq_right h, List.take_of_length_le (by simp; omega), List.take_of_length_le (by simp)]
theorem main_loop (l s : List Int) (out : List (List Int)) (ends : List Bool) (hl : l.length ≤ 300) (hs : s.length ≤ 50) (hall : ∀ x ∈ s, 1 ≤ x ∧ x ≤ 300) (ho : out.length = s.length) (he : ends.length = s.length) :
    ∀ (n i p : Nat), i + n = s.length → p ≤ l.length → out.drop i = Own.rdP l (s.drop i) p → ends.drop i = Own.rdE l (s.drop i) p → Ev (fun k => laws_FnInputReader.l0 k l out ends (p : Int) s (s.length : Int) (i : Int)) true
  | 0, i, p, hi, _, _, _ => by
    refine Ev.step (fun _ => laws_FnInputReader.l0.eq_2 ..) ?_
    refine EvNeg (by omega) ?_
    exact Ev.now _
  | n + 1, i, p, hi, hp, h1, h2 => by
    have hlt : i < s.length := by omega
    have q1 : (i : Int) < (s.length : Int) := by omega
    have q2 : (0 : Int) ≤ (i : Int) := by omega
    have qo : i < out.length := by omega
    have qe : i < ends.length := by omega
    have q3 : (i : Int) < (out.length : Int) := by omega
    have q4 : (0 : Int) ≤ (p : Int) := by omega
    have q5 : (i : Int) < (ends.length : Int) := by omega
    have q8 : i + 1 + n = s.length := by omega
    have q9 : s.length ≤ 140737488355328 := by omega
    have hle := step_le (x := s[i]) hp
    have q6 : (p : Int) ≤ ((p + min s[i].toNat (l.length - p) : Nat) : Int) := by omega
    have q7 : ((p + min s[i].toNat (l.length - p) : Nat) : Int) ≤ (l.length : Int) := by omega
    have q10 : p + min s[i].toNat (l.length - p) ≤ 300 := by omega
    have q11 : l.length ≤ 140737488355328 := by omega
    have hx := hall _ (List.getElem_mem hlt)
    rw [drop_cons hlt, drop_cons qo] at h1
    rw [drop_cons hlt, drop_cons qe] at h2
    simp only [Own.rdP, Own.rdE, List.cons.injEq] at h1 h2
    obtain ⟨h1, h3⟩ := h1
    obtain ⟨h2, h4⟩ := h2
    have ih := main_loop l s out ends hl hs hall ho he n (i + 1) _ q8 hle h3 h4
    have hmn := step_mn hp hl hx.1 hx.2
    have hadd := step_add (p := p) (m := min s[i].toNat (l.length - p)) q10
    have hsame : out[i] = (l.take (p + min s[i].toNat (l.length - p))).drop p := by rw [h1]; exact step_cut
    have hend := step_zero (len := l.length) (p := p) hx.1
    rw [← h2] at hend
    have hol : out[i].length ≤ 140737488355328 := by
      rw [h1]
      refine Nat.le_trans ?_ q11
      rw [List.length_take, List.length_drop]
      exact Nat.le_trans (Nat.min_le_right _ _) (Nat.sub_le _ _)
    have hwn := wn hlt q9
    have ro := rdl_at (ls := out) qo
    have re := rdb_at (l := ends) qe
    have rs := rd_at hlt
    refine Ev.step (fun _ => laws_FnInputReader.l0.eq_2 ..) ?_
    rw [rs, hmn, hadd, ro, re, hwn, Int.toNat_natCast, Int.toNat_natCast]
    refine EvPos q1 (EvPos q2 (EvPos q1 (EvPos q3 (EvPos q4 ?_))))
    refine EvPos q6 (EvPos q7 (Ev.bind (same_ev _ _ hol) ?_))
    rw [decide_eq_true hsame]
    exact EvPos rfl (EvPos q5 (EvNeg (by rw [hend]; simp) ih))
theorem FnInputReader : laws_FnInputReader.Pure := by
  intro l s _ _ _ _ _ _
  refine Ev.rounds ?_
  unfold laws_FnInputReader.f
  have j : ∀ q : Bool, (q = false → l.length ≤ 2147483647 ∧ s.length ≤ 2147483647) → Ev (fun k => laws_FnInputReader.j0 k l s q) true := by
    intro q hq
    refine Ev.step (fun _ => laws_FnInputReader.j0.eq_2 ..) (EvIte (fun _ => Ev.now _) (fun h => ?_))
    obtain ⟨hl, hs⟩ := hq (by simpa using h)
    have j1t : Ev (fun k => laws_FnInputReader.j1 k l s true) true := Ev.step (fun _ => laws_FnInputReader.j1.eq_2 ..) (EvPos rfl (Ev.now _))
    refine Ev.bind (few_ev [l] (by simp)) (EvIte (fun hf => ?_) (fun _ => j1t))
    have hl300 : l.length ≤ 300 := by simpa using hf
    obtain ⟨b, hb, hh⟩ := sizes_ev s hs
    refine Ev.bind hb ?_
    cases b with
    | false => exact j1t
    | true =>
      obtain ⟨hs50, hall⟩ := hh rfl
      have hr : Own.impl_ReadPieces.f l s = some (Own.rdP l s 0, Own.rdE l s 0) := by
        unfold Own.impl_ReadPieces.f
        rw [if_pos ⟨by omega, by omega, by rw [List.all_eq_true]; intro x hx; have := hall x hx; exact decide_eq_true (by omega)⟩]
      refine Ev.step (fun _ => laws_FnInputReader.j1.eq_2 ..) (EvNeg (by simp) (EvGet hr (EvPos (by simp [rdP_len]) ?_)))
      refine Ev.step (fun _ => laws_FnInputReader.j2.eq_2 ..) (EvNeg (by simp [rdE_len]) ?_)
      exact main_loop l s _ _ hl300 hs50 hall (rdP_len _ _ _) (rdE_len _ _ _) s.length 0 0 (by omega) (by omega) (by simp) (by simp)
  refine EvIte (fun _ => j true (by simp)) (fun h => j _ (fun hq => ?_))
  have := of_decide_eq_false hq
  omega

end Go.Proofs.YtgpmmmlmaaiobaaDoor.Pure
