/- FnBytesAllBlank, its pure statement: bytes are white space alone exactly if nothing is left of them when it is trimmed. For all byte lists. -/
import Derived.Test.YtfhhbfllbhibgaaDoorAid
import Derived.Test.YtfhhbfllbhibgaaDoorPFnBytesAllBlankx0
import Derived.Test.YtfhhbfllbhibgaaDoorPFnBytesAllBlankx1
namespace Go.Proofs.YtfhhbfllbhibgaaDoor.Pure
open Go.RowKit Go.Proofs.YtfhhbfllbhibgaaDoor.PFnBytesAllBlank Go.Proofs.YtfhhbfllbhibgaaDoorW.PrintWords Go.Proofs.YtfhhbfllbhibgaaDoorW.PrintLast Go.Proofs.YtfhhbfllbhibgaaDoor.Aid
set_option linter.unusedVariables false
set_option linter.unusedSimpArgs false

theorem own_eq (l : List Int) (h : l.length < 140737488355328) : impl_own.f l = some l := by
  unfold impl_own.f
  simp only [Option.bind_some, List.nil_append, List.length_nil, Nat.zero_add]
  rw [if_pos h]

theorem few_loop (ls : List (List Int)) (hl : ls.length ≤ 1000) : ∀ (n i : Nat), i + n = ls.length →
    Ev (fun k => laws_fewBytes.l0 k ls (ls.length : Int) (i : Int)) ((ls.drop i).all fun l => decide (l.length ≤ 300))
  | 0, i, hi => by
    refine Ev.step (fun _ => laws_fewBytes.l0.eq_2 ..) (EvNeg (by omega) ?_)
    rw [List.drop_of_length_le (by omega)]
    exact Ev.now _
  | n + 1, i, hi => by
    have hlt : i < ls.length := by omega
    have e : rd_L1 ls (i : Int) = ls[i] := by unfold rd_L1; simp [List.getD_eq_getElem?_getD, List.getElem?_eq_getElem hlt]
    refine Ev.step (fun _ => laws_fewBytes.l0.eq_2 ..) (EvPos (by omega) (EvPos (by omega) (EvPos (by omega) ?_)))
    rw [e, wn hlt (by omega), drop_cons hlt, List.all_cons]
    refine EvIte (fun h => ?_) (fun h => ?_)
    · rw [decide_eq_false (by omega), Bool.false_and]
      exact Ev.now _
    · rw [decide_eq_true (by omega), Bool.true_and]
      exact few_loop ls hl n (i + 1) (by omega)
theorem few_ev (ls : List (List Int)) (hl : ls.length ≤ 1000) : Ev (fun k => laws_fewBytes.f k ls) (ls.all fun l => decide (l.length ≤ 300)) := by
  have := few_loop ls hl ls.length 0 (by omega)
  unfold laws_fewBytes.f
  simpa using this

def nlB (c : Int) : Bool := c == 10 || c == 13
def wsB (c : Int) : Bool := c == 32 || (c == 9 || (c == 12 || nlB c))
theorem specbreak_eq (c : Int) : spec_IsBreak.f c = some (nlB c) := by
  unfold spec_IsBreak.f nlB
  by_cases h : c = 10
  · simp [h]
  · simp [h]
theorem specblank_eq (c : Int) : spec_IsBlank.f c = some (wsB c) := by
  unfold spec_IsBlank.f wsB
  rw [specbreak_eq]
  by_cases h : c = 32
  · simp [h]
  · by_cases h2 : c = 9
    · simp [h2]
    · by_cases h3 : c = 12
      · simp [h3]
      · rw [if_neg h, if_neg h2, if_neg h3, beq_eq_false_iff_ne.mpr h, beq_eq_false_iff_ne.mpr h2, beq_eq_false_iff_ne.mpr h3]
        rfl

theorem isws_eq {c : Int} (h0 : 0 ≤ c) (h1 : c ≤ 255) : Own.tdparse_IsWhitespace.f c = some (wsB c) := by
  unfold Own.tdparse_IsWhitespace.f
  rw [if_pos ⟨h0, by omega⟩]
  congr 1
  obtain ⟨n, rfl⟩ := Int.eq_ofNat_of_zero_le h0
  rw [Bool.eq_iff_iff]
  unfold Own.isW wsB nlB
  simp
  omega


def trimR (l : List Int) : List Int := (l.reverse.dropWhile wsB).reverse
theorem trimR_snoc (l : List Int) (c : Int) : trimR (l ++ [c]) = if wsB c = true then trimR l else l ++ [c] := by
  unfold trimR
  rw [List.reverse_append]
  by_cases h : wsB c = true
  · simp [h, List.dropWhile_cons]
  · simp [h, List.dropWhile_cons]
theorem trimr_ev : ∀ (n : Nat) (l : List Int), l.length = n → n < 140737488355328 → Ev (fun k => spec_Trim.l1 k l) (trimR l)
  | 0, l, hl, _ => by
    obtain rfl := List.eq_nil_of_length_eq_zero hl
    refine Ev.step (fun _ => spec_Trim.l1.eq_2 ..) (EvNeg (by simp) (EvNow ?_))
    rfl
  | n + 1, l, hl, hn => by
    obtain ⟨a, c, rfl⟩ : ∃ a c, l = a ++ [c] := ⟨l.dropLast, l.getLast (by intro e; subst e; cases hl), (List.dropLast_concat_getLast _).symm⟩
    have ha : a.length = n := by simpa using hl
    have ew : wrap64 (((a ++ [c]).length : Int) - 1) = (n : Int) := by
      rw [List.length_append, ha]
      simp only [List.length_cons, List.length_nil]
      rw [w64 (by omega) (by omega)]
      omega
    have er : rd (a ++ [c]) (n : Int) = c := by
      rw [rd_at (by simp <;> omega)]
      simp [← ha]
    have et : (a ++ [c]).take ((n : Int).toNat) = a := by
      rw [Int.toNat_natCast, ← ha, List.take_left]
    refine Ev.step (fun _ => spec_Trim.l1.eq_2 ..) (EvPos (by simp <;> omega) ?_)
    rw [ew, er, et]
    refine EvPos (by omega) (EvPos (by simp <;> omega) (EvGet (specblank_eq c) ?_))
    rw [trimR_snoc]
    refine EvIte (fun h => EvPos (by simp <;> omega) ?_) (fun h => ?_)
    · rw [if_pos h]
      exact trimr_ev n a ha (by omega)
    · rw [if_neg h]
      exact Ev.now _
theorem triml_ev : ∀ (l : List Int), l.length < 140737488355328 → Ev (fun k => spec_Trim.l0 k l) (trimR (l.dropWhile wsB))
  | [], _ => by
    refine Ev.step (fun _ => spec_Trim.l0.eq_2 ..) (EvNeg (by simp) ?_)
    exact Ev.step (fun _ => spec_Trim.j1.eq_2 ..) (trimr_ev 0 [] rfl (by omega))
  | c :: l, hl => by
    have e : rd (c :: l) 0 = c := rd_at (xs := c :: l) (i := 0) (by simp)
    refine Ev.step (fun _ => spec_Trim.l0.eq_2 ..) (EvPos (by simp <;> omega) (EvPos (by simp <;> omega) ?_))
    rw [e]
    refine EvGet (specblank_eq c) ?_
    rw [List.dropWhile_cons]
    refine EvIte (fun h => EvPos (by simp <;> omega) ?_) (fun h => ?_)
    · rw [if_pos h]
      exact triml_ev l (by simp at hl; omega)
    · rw [if_neg h]
      exact Ev.step (fun _ => spec_Trim.j1.eq_2 ..) (trimr_ev _ _ rfl (by simpa using hl))
theorem trim_ev (l : List Int) (hl : l.length < 140737488355328) : Ev (fun k => spec_Trim.f k l) (trimR (l.dropWhile wsB)) := triml_ev l hl

theorem allws_loop (l : List Int) (hb : Bytes l) (hm : l.length < 140737488355328) : ∀ (n i : Nat), i + n = l.length →
    Ev (fun k => tdparse_IsAllWhitespace.l0 k l (l.length : Int) (i : Int)) ((l.drop i).all wsB)
  | 0, i, hi => by
    refine Ev.step (fun _ => tdparse_IsAllWhitespace.l0.eq_2 ..) (EvNeg (by omega) ?_)
    rw [List.drop_of_length_le (by omega)]
    exact Ev.now _
  | n + 1, i, hi => by
    have hlt : i < l.length := by omega
    have hc := hb.at_ hlt
    have ih := allws_loop l hb hm n (i + 1) (by omega)
    refine Ev.step (fun _ => tdparse_IsAllWhitespace.l0.eq_2 ..) (EvPos (by omega) (EvPos (by omega) (EvPos (by omega) ?_)))
    rw [rd_at hlt, wn hlt (by omega)]
    refine EvGet (isws_eq hc.1 hc.2) ?_
    rw [drop_cons hlt, List.all_cons]
    refine EvIte (fun h => ?_) (fun h => ?_)
    · rw [h, Bool.true_and]; exact ih
    · rw [show wsB l[i] = false by simpa using h, Bool.false_and]; exact Ev.now _
theorem trim_none (l : List Int) : (((trimR (l.dropWhile wsB)).length : Int) == 0) = l.all wsB := by
  have e : ∀ m : List Int, (m.dropWhile wsB = []) ↔ m.all wsB = true := by
    intro m
    induction m with
    | nil => simp
    | cons c m ih =>
      rw [List.dropWhile_cons, List.all_cons, Bool.and_eq_true, ← ih]
      by_cases h : wsB c = true
      · simp [h]
      · simp [h]
  rw [Bool.eq_iff_iff]
  unfold trimR
  simp only [beq_iff_eq, List.length_reverse]
  constructor
  · intro h
    have h1 : ((l.dropWhile wsB).reverse.dropWhile wsB) = [] := List.eq_nil_of_length_eq_zero (by omega)
    rw [e] at h1
    simp only [List.all_reverse] at h1
    rw [← e]
    cases h2 : l.dropWhile wsB with
    | nil => rfl
    | cons c r =>
      have hc := List.head_dropWhile_not wsB (l := l) (by rw [h2]; simp)
      rw [h2, List.all_cons, Bool.and_eq_true] at h1
      simp only [h2, List.head_cons] at hc
      rw [h1.1] at hc
      cases hc
  · intro h
    rw [(e l).2 h]
    rfl
theorem FnBytesAllBlank : laws_FnBytesAllBlank.Pure := by
  intro l h1 h2 h3
  have hb := bytes_of h3
  refine Ev.rounds ?_
  unfold laws_FnBytesAllBlank.f
  refine EvIte (fun _ => Ev.now _) (fun h => ?_)
  refine Ev.bind (few_ev _ (by simp)) (EvIte (fun _ => ?_) (fun _ => Ev.now _))
  have h4 : Ev (fun k => impl_AllBlank.f k l) (l.all wsB) := by
    unfold impl_AllBlank.f
    refine EvGet (own_eq l (by omega)) (Ev.bind ?_ (Ev.now _))
    have := allws_loop l hb (by omega) l.length 0 (by omega)
    unfold tdparse_IsAllWhitespace.f
    simpa using this
  refine Ev.bind h4 (Ev.bind (trim_ev l (by omega)) (EvNow ?_))
  rw [trim_none]
  simp

end Go.Proofs.YtfhhbfllbhibgaaDoor.Pure
