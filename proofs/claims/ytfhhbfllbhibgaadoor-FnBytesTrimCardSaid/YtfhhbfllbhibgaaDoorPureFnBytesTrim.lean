/- FnBytesTrim, its pure statement: white space is taken away from both ends, and nothing else. For all byte lists. -/
import Derived.Test.YtfhhbfllbhibgaaDoorAid
import Derived.Test.YtfhhbfllbhibgaaDoorPFnBytesTrimx0
import Derived.Test.YtfhhbfllbhibgaaDoorPFnBytesTrimx1
namespace Go.Proofs.YtfhhbfllbhibgaaDoor.Pure
open Go.RowKit Go.Proofs.YtfhhbfllbhibgaaDoor.PFnBytesTrim Go.Proofs.YtfhhbfllbhibgaaDoorW.PrintWords Go.Proofs.YtfhhbfllbhibgaaDoorW.PrintLast Go.Proofs.YtfhhbfllbhibgaaDoor.Aid
set_option linter.unusedVariables false
set_option linter.unusedSimpArgs false

theorem own_eq (l : List Int) (h : l.length < 140737488355328) : impl_own.f l = some l := by
  unfold impl_own.f
  simp only [Option.bind_some, List.nil_append, List.length_nil, Nat.zero_add]
  rw [if_pos h]

theorem few_loop (ls : List (List Int)) (hl : ls.length ≤ 1000) : ∀ (n i : Nat), i + n = ls.length →
    Ev (fun k => laws_fewBytes.l0 k ls (ls.length : Int) (i : Int)) ((ls.drop i).all fun l => decide (l.length ≤ 300))
  | 0, i, hi => by
    refine Ev.step (fun _ => laws_fewBytes.l0.eq_2 ..) (EvNeg (by omega) ?_)
    rw [List.drop_of_length_le (by omega)]
    exact Ev.now _
  | n + 1, i, hi => by
    have hlt : i < ls.length := by omega
    have e : rd_L1 ls (i : Int) = ls[i] := by unfold rd_L1; simp [List.getD_eq_getElem?_getD, List.getElem?_eq_getElem hlt]
    refine Ev.step (fun _ => laws_fewBytes.l0.eq_2 ..) (EvPos (by omega) (EvPos (by omega) (EvPos (by omega) ?_)))
    rw [e, wn hlt (by omega), drop_cons hlt, List.all_cons]
    refine EvIte (fun h => ?_) (fun h => ?_)
    · rw [decide_eq_false (by omega), Bool.false_and]
      exact Ev.now _
    · rw [decide_eq_true (by omega), Bool.true_and]
      exact few_loop ls hl n (i + 1) (by omega)
theorem few_ev (ls : List (List Int)) (hl : ls.length ≤ 1000) : Ev (fun k => laws_fewBytes.f k ls) (ls.all fun l => decide (l.length ≤ 300)) := by
  have := few_loop ls hl ls.length 0 (by omega)
  unfold laws_fewBytes.f
  simpa using this

theorem same_loop (a b : List Int) (hl : a.length = b.length) (hm : a.length ≤ 140737488355328) : ∀ (n i : Nat), i + n = a.length →
    Ev (fun k => spec_SameBytes.l0 k b a (a.length : Int) (i : Int)) (decide (a.drop i = b.drop i))
  | 0, i, hi => by
    refine Ev.step (fun _ => spec_SameBytes.l0.eq_2 ..) (EvNeg (by omega) ?_)
    rw [List.drop_of_length_le (by omega), List.drop_of_length_le (by omega), decide_eq_true rfl]
    exact Ev.now _
  | n + 1, i, hi => by
    have hlt : i < a.length := by omega
    have hlt' : i < b.length := by omega
    refine Ev.step (fun _ => spec_SameBytes.l0.eq_2 ..) (EvPos (by omega) (EvPos (by omega) (EvPos (by omega) (EvPos (by omega) ?_))))
    rw [rd_at hlt, rd_at hlt', wn hlt (by omega), drop_cons hlt, drop_cons hlt']
    refine EvIte (fun h => ?_) (fun h => ?_)
    · refine EvEq (same_loop a b hl hm n (i + 1) (by omega)) ?_
      rw [Bool.eq_iff_iff, h]
      simp only [decide_eq_true_eq, List.cons.injEq, true_and]
    · refine EvNow ?_
      symm
      apply decide_eq_false
      intro e
      injection e with e1 e2
      exact h e1
theorem same_ev (a b : List Int) (hm : a.length ≤ 140737488355328) : Ev (fun k => spec_SameBytes.f k a b) (decide (a = b)) := by
  unfold spec_SameBytes.f
  refine EvIte (fun h => ?_) (fun h => ?_)
  · have := same_loop a b (by omega) hm a.length 0 (by omega)
    simpa using this
  · refine EvNow ?_
    symm
    apply decide_eq_false
    intro e
    subst e
    exact h rfl

def nlB (c : Int) : Bool := c == 10 || c == 13
def wsB (c : Int) : Bool := c == 32 || (c == 9 || (c == 12 || nlB c))
theorem specbreak_eq (c : Int) : spec_IsBreak.f c = some (nlB c) := by
  unfold spec_IsBreak.f nlB
  by_cases h : c = 10
  · simp [h]
  · simp [h]
theorem specblank_eq (c : Int) : spec_IsBlank.f c = some (wsB c) := by
  unfold spec_IsBlank.f wsB
  rw [specbreak_eq]
  by_cases h : c = 32
  · simp [h]
  · by_cases h2 : c = 9
    · simp [h2]
    · by_cases h3 : c = 12
      · simp [h3]
      · rw [if_neg h, if_neg h2, if_neg h3, beq_eq_false_iff_ne.mpr h, beq_eq_false_iff_ne.mpr h2, beq_eq_false_iff_ne.mpr h3]
        rfl


def trimR (l : List Int) : List Int := (l.reverse.dropWhile wsB).reverse
theorem trimR_snoc (l : List Int) (c : Int) : trimR (l ++ [c]) = if wsB c = true then trimR l else l ++ [c] := by
  unfold trimR
  rw [List.reverse_append]
  by_cases h : wsB c = true
  · simp [h, List.dropWhile_cons]
  · simp [h, List.dropWhile_cons]
theorem trimr_ev : ∀ (n : Nat) (l : List Int), l.length = n → n < 140737488355328 → Ev (fun k => spec_Trim.l1 k l) (trimR l)
  | 0, l, hl, _ => by
    obtain rfl := List.eq_nil_of_length_eq_zero hl
    refine Ev.step (fun _ => spec_Trim.l1.eq_2 ..) (EvNeg (by simp) (EvNow ?_))
    rfl
  | n + 1, l, hl, hn => by
    obtain ⟨a, c, rfl⟩ : ∃ a c, l = a ++ [c] := ⟨l.dropLast, l.getLast (by intro e; subst e; cases hl), (List.dropLast_concat_getLast _).symm⟩
    have ha : a.length = n := by simpa using hl
    have ew : wrap64 (((a ++ [c]).length : Int) - 1) = (n : Int) := by
      rw [List.length_append, ha]
      simp only [List.length_cons, List.length_nil]
      rw [w64 (by omega) (by omega)]
      omega
    have er : rd (a ++ [c]) (n : Int) = c := by
      rw [rd_at (by simp <;> omega)]
      simp [← ha]
    have et : (a ++ [c]).take ((n : Int).toNat) = a := by
      rw [Int.toNat_natCast, ← ha, List.take_left]
    refine Ev.step (fun _ => spec_Trim.l1.eq_2 ..) (EvPos (by simp <;> omega) ?_)
    rw [ew, er, et]
    refine EvPos (by omega) (EvPos (by simp <;> omega) (EvGet (specblank_eq c) ?_))
    rw [trimR_snoc]
    refine EvIte (fun h => EvPos (by simp <;> omega) ?_) (fun h => ?_)
    · rw [if_pos h]
      exact trimr_ev n a ha (by omega)
    · rw [if_neg h]
      exact Ev.now _
theorem triml_ev : ∀ (l : List Int), l.length < 140737488355328 → Ev (fun k => spec_Trim.l0 k l) (trimR (l.dropWhile wsB))
  | [], _ => by
    refine Ev.step (fun _ => spec_Trim.l0.eq_2 ..) (EvNeg (by simp) ?_)
    exact Ev.step (fun _ => spec_Trim.j1.eq_2 ..) (trimr_ev 0 [] rfl (by omega))
  | c :: l, hl => by
    have e : rd (c :: l) 0 = c := rd_at (xs := c :: l) (i := 0) (by simp)
    refine Ev.step (fun _ => spec_Trim.l0.eq_2 ..) (EvPos (by simp <;> omega) (EvPos (by simp <;> omega) ?_))
    rw [e]
    refine EvGet (specblank_eq c) ?_
    rw [List.dropWhile_cons]
    refine EvIte (fun h => EvPos (by simp <;> omega) ?_) (fun h => ?_)
    · rw [if_pos h]
      exact triml_ev l (by simp at hl; omega)
    · rw [if_neg h]
      exact Ev.step (fun _ => spec_Trim.j1.eq_2 ..) (trimr_ev _ _ rfl (by simpa using hl))
theorem trim_ev (l : List Int) (hl : l.length < 140737488355328) : Ev (fun k => spec_Trim.f k l) (trimR (l.dropWhile wsB)) := triml_ev l hl

theorem ws_same {c : Int} (h0 : 0 ≤ c) (h1 : c ≤ 255) : Own.wsI c = wsB c := by
  obtain ⟨n, rfl⟩ := Int.eq_ofNat_of_zero_le h0
  rw [Bool.eq_iff_iff]
  unfold Own.wsI Own.isW wsB nlB
  simp
  omega
theorem trimR_cons (c : Int) (l : List Int) (hc : wsB c = true) : trimR (c :: l) = if l.all wsB = true then [] else c :: trimR l := by
  unfold trimR
  rw [List.reverse_cons]
  by_cases h : l.all wsB = true
  · rw [if_pos h, List.dropWhile_append_of_pos (by simpa using h)]
    simp [List.dropWhile_cons, hc]
  · rw [if_neg h, List.dropWhile_append]
    rw [if_neg]
    · simp
    · intro e
      apply h
      have e2 : l.reverse.dropWhile wsB = [] := by simpa using e
      have : ∀ m : List Int, m.dropWhile wsB = [] → m.all wsB = true := by
        intro m
        induction m with
        | nil => simp
        | cons c m ih =>
          intro h
          rw [List.dropWhile_cons] at h
          by_cases hc : wsB c = true
          · rw [if_pos hc] at h
            simp [hc, ih h]
          · rw [if_neg hc] at h
            cases h
      have := this _ e2
      simpa using this
theorem trim_drop : ∀ l : List Int, (trimR l).drop (l.takeWhile wsB).length = trimR (l.dropWhile wsB)
  | [] => rfl
  | c :: l => by
    have ih := trim_drop l
    by_cases hc : wsB c = true
    · rw [List.takeWhile_cons, if_pos hc, List.dropWhile_cons, if_pos hc, trimR_cons c l hc, ← ih]
      by_cases h : l.all wsB = true
      · rw [if_pos h]
        have e : trimR l = [] := by
          unfold trimR
          have := List.dropWhile_append_of_pos (p := wsB) (l₁ := l.reverse) (l₂ := []) (by simpa using h)
          simp at this
          simpa using this
        simp [e]
      · rw [if_neg h]
        rfl
    · rw [List.takeWhile_cons, if_neg hc, List.dropWhile_cons, if_neg hc]
      rfl
theorem ws_while : ∀ l : List Int, Bytes l → l.takeWhile Own.wsI = l.takeWhile wsB ∧ l.dropWhile Own.wsI = l.dropWhile wsB
  | [], _ => ⟨rfl, rfl⟩
  | c :: l, hb => by
    have hc := hb c (List.mem_cons_self ..)
    have ih := ws_while l (fun x hx => hb x (List.mem_cons_of_mem _ hx))
    rw [List.takeWhile_cons, List.takeWhile_cons, List.dropWhile_cons, List.dropWhile_cons, ws_same hc.1 hc.2, ih.1, ih.2]
    exact ⟨rfl, rfl⟩
theorem trim_same (l : List Int) (hb : Bytes l) : Own.trimI l = trimR (l.dropWhile wsB) := by
  have hr : Bytes l.reverse := fun x hx => hb x (List.mem_reverse.1 hx)
  rw [← trim_drop]
  unfold Own.trimI Own.startI Own.endI
  rw [(ws_while l hb).1, (ws_while _ hr).2]
  congr 1
  have e : l.reverse = l.reverse.takeWhile wsB ++ l.reverse.dropWhile wsB := (List.takeWhile_append_dropWhile).symm
  have e2 : l = (l.reverse.dropWhile wsB).reverse ++ (l.reverse.takeWhile wsB).reverse := by
    rw [← List.reverse_append, ← e, List.reverse_reverse]
  unfold trimR
  conv => lhs; arg 2; rw [e2]
  rw [List.take_left' (by simp)]
theorem FnBytesTrim : laws_FnBytesTrim.Pure := by
  intro l h1 h2 h3
  have hb := bytes_of h3
  refine Ev.rounds ?_
  unfold laws_FnBytesTrim.f
  refine EvIte (fun _ => Ev.now _) (fun h => ?_)
  refine Ev.bind (few_ev _ (by simp)) (EvIte (fun _ => ?_) (fun _ => Ev.now _))
  have h4 : Own.impl_Trim.f l = some (trimR (l.dropWhile wsB)) := by
    unfold Own.impl_Trim.f
    have hall : l.all Own.byI = true := by
      rw [List.all_eq_true]
      intro x hx
      have := hb x hx
      unfold Own.byI
      rw [decide_eq_true this.1, decide_eq_true (by omega : x < 256)]
      rfl
    rw [if_pos ⟨by omega, hall⟩, trim_same l hb]
  refine EvGet h4 (Ev.bind (trim_ev l (by omega)) ?_)
  refine Ev.bind (same_ev _ _ ?_) (EvNow (by simp))
  have e := trim_same l hb
  rw [← e]
  unfold Own.trimI
  rw [List.length_drop, List.length_take]
  omega

end Go.Proofs.YtfhhbfllbhibgaaDoor.Pure
