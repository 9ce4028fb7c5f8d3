/- FnNumberDimension, its pure statement: of a dimension the number is told, and behind it a percent sign or letters as its unit. For all byte lists. -/
import Derived.Test.YteklgpjdcdkdpaaAid
import Derived.Test.YteklgpjdcdkdpaaPFnNumberDimensionx0
import Derived.Test.YteklgpjdcdkdpaaPFnNumberDimensionx1
import Derived.Test.YteklgpjdcdkdpaaPFnNumberDimensionx2
import Derived.Test.YteklgpjdcdkdpaaPFnNumberDimensionx3
import Derived.Test.YteklgpjdcdkdpaaPFnNumberDimensionx4
namespace Go.Proofs.Yteklgpjdcdkdpaa.Pure
open Go.RowKit Go.Proofs.Yteklgpjdcdkdpaa.PFnNumberDimension Go.Proofs.YteklgpjdcdkdpaaW.PrintWords Go.Proofs.YteklgpjdcdkdpaaW.PrintLast Go.Proofs.Yteklgpjdcdkdpaa.Aid
set_option linter.unusedVariables false
set_option linter.unusedSimpArgs false

theorem few_loop (ls : List (List Int)) (hl : ls.length ≤ 1000) : ∀ (n i : Nat), i + n = ls.length →
    Ev (fun k => laws_fewBytes.l0 k ls (ls.length : Int) (i : Int)) ((ls.drop i).all fun l => decide (l.length ≤ 300))
  | 0, i, hi => by
    refine Ev.step (fun _ => laws_fewBytes.l0.eq_2 ..) (EvNeg (by omega) ?_)
    rw [List.drop_of_length_le (by omega)]
    exact Ev.now _
  | n + 1, i, hi => by
    have hlt : i < ls.length := by omega
    have e : rd_L1 ls (i : Int) = ls[i] := by unfold rd_L1; simp [List.getD_eq_getElem?_getD, List.getElem?_eq_getElem hlt]
    refine Ev.step (fun _ => laws_fewBytes.l0.eq_2 ..) (EvPos (by omega) (EvPos (by omega) (EvPos (by omega) ?_)))
    rw [e, wn hlt (by omega), drop_cons hlt, List.all_cons]
    refine EvIte (fun h => ?_) (fun h => ?_)
    · rw [decide_eq_false (by omega), Bool.false_and]
      exact Ev.now _
    · rw [decide_eq_true (by omega), Bool.true_and]
      exact few_loop ls hl n (i + 1) (by omega)
theorem few_ev (ls : List (List Int)) (hl : ls.length ≤ 1000) : Ev (fun k => laws_fewBytes.f k ls) (ls.all fun l => decide (l.length ≤ 300)) := by
  have := few_loop ls hl ls.length 0 (by omega)
  unfold laws_fewBytes.f
  simpa using this

theorem own_eq (l : List Int) (h : l.length < 140737488355328) : impl_own.f l = some l := by
  unfold impl_own.f
  simp only [Option.bind_some, List.nil_append, List.length_nil, Nat.zero_add]
  rw [if_pos h]

def g (l : List Int) (i : Nat) : Int := l.getD i 0
theorem rd_g (l : List Int) (i : Nat) : rd l (i : Int) = g l i := by unfold rd g; rw [Int.toNat_natCast]
theorem g_out {l : List Int} {i : Nat} (h : l.length ≤ i) : g l i = 0 := by unfold g; rw [List.getD_eq_getElem?_getD, List.getElem?_eq_none h]; rfl
theorem g_in {l : List Int} {i : Nat} (h : i < l.length) : g l i = l[i] := by unfold g; rw [List.getD_eq_getElem?_getD, List.getElem?_eq_getElem h]; rfl
def isD (c : Int) : Bool := decide (48 ≤ c) && decide (c ≤ 57)

/-- The place behind all digits from a place on. -/
def df (l : List Int) (i : Nat) : Nat := i + ((l.drop i).takeWhile isD).length
def isS (c : Int) : Bool := c == 43 || c == 45
def sg (l : List Int) (i : Nat) : Nat := if isS (g l i) = true then i + 1 else i
def isE (c : Int) : Bool := c == 101 || c == 69
theorem lt_of_ne {l : List Int} {i : Nat} (h : g l i ≠ 0) : i < l.length := by
  rcases Nat.lt_or_ge i l.length with h1 | h1
  · exact h1
  · exact absurd (g_out h1) h
theorem isD_lt {l : List Int} {i : Nat} (h : isD (g l i) = true) : i < l.length := lt_of_ne (fun e => by rw [e] at h; simp [isD] at h)
theorem df_yes {l : List Int} {i : Nat} (h : isD (g l i) = true) : df l i = df l (i + 1) := by
  have hl := isD_lt h
  unfold df
  rw [drop_cons hl, List.takeWhile_cons, if_pos (by rw [← g_in hl]; exact h), List.length_cons]
  omega
theorem df_no {l : List Int} {i : Nat} (h : isD (g l i) = false) : df l i = i := by
  unfold df
  rcases Nat.lt_or_ge i l.length with hl | hl
  · rw [drop_cons hl, List.takeWhile_cons, if_neg (by rw [← g_in hl, h]; simp)]; rfl
  · rw [List.drop_of_length_le hl]; rfl
theorem df_ge (l : List Int) (i : Nat) : i ≤ df l i := by unfold df; omega
theorem df_le {l : List Int} {i : Nat} (h : i ≤ l.length) : df l i ≤ l.length := by
  unfold df
  have := (List.takeWhile_sublist (p := isD) (l := l.drop i)).length_le
  rw [List.length_drop] at this
  omega
theorem df_end (l : List Int) : ∀ (n i : Nat), i + n = l.length → isD (g l (df l i)) = false
  | 0, i, hi => by
    have h : isD (g l i) = false := by rw [g_out (by omega)]; rfl
    rw [df_no h]; exact h
  | n + 1, i, hi => by
    cases h : isD (g l i) with
    | false => rw [df_no h]; exact h
    | true => rw [df_yes h]; exact df_end l n (i + 1) (by omega)
theorem wp {i : Nat} (h : i < 1000) : wrap64 ((i : Int) + 1) = ((i + 1 : Nat) : Int) := wn h (by omega)
/-- What follows a number without an exponent. -/
def tail (l : List Int) (i : Nat) : Nat := if isE (g l i) = true then (if isD (g l (sg l (i + 1))) = true then df l (sg l (i + 1)) else i) else i
def num (l : List Int) : Nat :=
  if g l (df l (sg l 0)) = 46 then (if isD (g l (df l (sg l 0) + 1)) = true then tail l (df l (df l (sg l 0) + 1)) else if isD (g l (sg l 0)) = true then df l (sg l 0) else 0)
  else if isD (g l (sg l 0)) = true then tail l (df l (sg l 0)) else 0
section
variable (l : List Int) (hl : l.length ≤ 300)
include hl
theorem l2_ev : ∀ (n i : Nat), i + n = l.length → Ev (fun k => tdparse_Number.l2 k l (i : Int)) ((df l i : Nat) : Int)
  | 0, i, hi => by
    rw [df_no (by rw [g_out (by omega)]; rfl)]
    exact Ev.step (fun _ => tdparse_Number.l2.eq_2 ..) (EvNeg (by omega) (Ev.now _))
  | n + 1, i, hi => by
    refine Ev.step (fun _ => tdparse_Number.l2.eq_2 ..) (EvPos (by omega) (EvPos (by omega) ?_))
    rw [rd_g, wp (by omega)]
    refine EvIte (fun h => EvIte (fun h' => ?_) (fun h' => ?_)) (fun h => ?_)
    · rw [df_yes (by simp [isD]; omega)]; exact l2_ev n (i + 1) (by omega)
    · rw [df_no (by simp [isD]; omega)]; exact Ev.now _
    · rw [df_no (by simp [isD]; omega)]; exact Ev.now _
theorem l1_ev {r : Int} : ∀ (n i : Nat), i + n = l.length → Ev (fun k => tdparse_Number.j8 k l ((df l i : Nat) : Int)) r → Ev (fun k => tdparse_Number.l1 k l (i : Int)) r
  | 0, i, hi, e => by
    rw [df_no (by rw [g_out (by omega)]; rfl)] at e
    exact Ev.step (fun _ => tdparse_Number.l1.eq_2 ..) (EvNeg (by omega) e)
  | n + 1, i, hi, e => by
    refine Ev.step (fun _ => tdparse_Number.l1.eq_2 ..) (EvPos (by omega) (EvPos (by omega) ?_))
    rw [rd_g, wp (by omega)]
    refine EvIte (fun h => EvIte (fun h' => ?_) (fun h' => ?_)) (fun h => ?_)
    · rw [df_yes (by simp [isD]; omega)] at e; exact l1_ev n (i + 1) (by omega) e
    · rw [df_no (by simp [isD]; omega)] at e; exact e
    · rw [df_no (by simp [isD]; omega)] at e; exact e
theorem l0_ev {r : Int} {x : Bool} : ∀ (n i : Nat), i + n = l.length → Ev (fun k => tdparse_Number.j4 k l ((df l i : Nat) : Int) x) r → Ev (fun k => tdparse_Number.l0 k l (i : Int) x) r
  | 0, i, hi, e => by
    rw [df_no (by rw [g_out (by omega)]; rfl)] at e
    exact Ev.step (fun _ => tdparse_Number.l0.eq_2 ..) (EvNeg (by omega) e)
  | n + 1, i, hi, e => by
    refine Ev.step (fun _ => tdparse_Number.l0.eq_2 ..) (EvPos (by omega) (EvPos (by omega) ?_))
    rw [rd_g, wp (by omega)]
    refine EvIte (fun h => EvIte (fun h' => ?_) (fun h' => ?_)) (fun h => ?_)
    · rw [df_yes (by simp [isD]; omega)] at e; exact l0_ev n (i + 1) (by omega) e
    · rw [df_no (by simp [isD]; omega)] at e; exact e
    · rw [df_no (by simp [isD]; omega)] at e; exact e
theorem j11_ev (i o : Nat) (hi : i ≤ 301) : Ev (fun k => tdparse_Number.j11 k l (i : Int) (o : Int)) (((if isD (g l i) = true then df l i else o : Nat)) : Int) := by
  have yes : isD (g l i) = true → Ev (fun k => tdparse_Number.j12 k l (i : Int) (o : Int) false) (((if isD (g l i) = true then df l i else o : Nat)) : Int) := fun h => by
    rw [if_pos h]
    have := isD_lt h
    exact Ev.step (fun _ => tdparse_Number.j12.eq_2 ..) (EvNeg (by simp) (l2_ev l hl (l.length - i) i (by omega)))
  have no : isD (g l i) = false → Ev (fun k => tdparse_Number.j12 k l (i : Int) (o : Int) true) (((if isD (g l i) = true then df l i else o : Nat)) : Int) := fun h => by
    rw [if_neg (by rw [h]; simp)]
    exact Ev.step (fun _ => tdparse_Number.j12.eq_2 ..) (EvPos rfl (Ev.now _))
  refine Ev.step (fun _ => tdparse_Number.j11.eq_2 ..) (EvIte (fun h => no (by rw [g_out (by omega)]; rfl)) (fun h => EvPos (by omega) (EvPos (by omega) ?_)))
  rw [rd_g]
  refine EvIte (fun h1 => no (by simp [isD]; omega)) (fun h1 => ?_)
  by_cases h2 : g l i > 57
  · rw [decide_eq_true h2]; exact no (by simp [isD]; omega)
  · rw [decide_eq_false h2]; exact yes (by simp [isD]; omega)
theorem j8_ev (i : Nat) (hi : i ≤ l.length) : Ev (fun k => tdparse_Number.j8 k l (i : Int)) ((tail l i : Nat) : Int) := by
  have no : isE (g l i) = false → Ev (fun k => tdparse_Number.j9 k l (i : Int) (i : Int) false) ((tail l i : Nat) : Int) := fun h => by
    unfold tail
    rw [if_neg (by rw [h]; simp)]
    exact Ev.step (fun _ => tdparse_Number.j9.eq_2 ..) (EvNeg (by simp) (Ev.now _))
  have yes : isE (g l i) = true → i < l.length → Ev (fun k => tdparse_Number.j9 k l (i : Int) (i : Int) true) ((tail l i : Nat) : Int) := fun h hlt => by
    unfold tail
    rw [if_pos h]
    have plain : isS (g l (i + 1)) = false → Ev (fun k => tdparse_Number.j10 k l ((i + 1 : Nat) : Int) (i : Int) false) (((if isD (g l (sg l (i + 1))) = true then df l (sg l (i + 1)) else i : Nat)) : Int) := fun hs => by
      rw [show sg l (i + 1) = i + 1 by unfold sg; rw [if_neg (by rw [hs]; simp)]]
      exact Ev.step (fun _ => tdparse_Number.j10.eq_2 ..) (EvNeg (by simp) (j11_ev l hl (i + 1) i (by omega)))
    have sign : isS (g l (i + 1)) = true → Ev (fun k => tdparse_Number.j10 k l ((i + 1 : Nat) : Int) (i : Int) true) (((if isD (g l (sg l (i + 1))) = true then df l (sg l (i + 1)) else i : Nat)) : Int) := fun hs => by
      have hlt2 : i + 1 < l.length := lt_of_ne (fun e => by rw [e] at hs; simp [isS] at hs)
      rw [show sg l (i + 1) = i + 1 + 1 by unfold sg; rw [if_pos hs]]
      refine Ev.step (fun _ => tdparse_Number.j10.eq_2 ..) (EvPos rfl ?_)
      rw [wp (by omega)]
      exact j11_ev l hl (i + 1 + 1) i (by omega)
    refine Ev.step (fun _ => tdparse_Number.j9.eq_2 ..) (EvPos rfl ?_)
    rw [wp (by omega)]
    refine EvIte (fun h1 => EvPos (by omega) ?_) (fun h1 => plain (by rw [g_out (by omega)]; rfl))
    rw [rd_g]
    refine EvIte (fun h2 => sign (by simp [isS]; omega)) (fun h2 => ?_)
    by_cases h3 : g l (i + 1) = 45
    · rw [show (g l (i + 1) == 45) = true by simpa using h3]; exact sign (by rw [h3]; rfl)
    · rw [show (g l (i + 1) == 45) = false by simpa using h3]; exact plain (by simp [isS]; omega)
  refine Ev.step (fun _ => tdparse_Number.j8.eq_2 ..) (EvIte (fun h => EvPos (by omega) ?_) (fun h => no (by rw [g_out (by omega)]; rfl)))
  rw [rd_g]
  refine EvIte (fun h2 => yes (by simp [isE]; omega) (by omega)) (fun h2 => ?_)
  by_cases h3 : g l i = 69
  · rw [show (g l i == 69) = true by simpa using h3]; exact yes (by rw [h3]; rfl) (by omega)
  · rw [show (g l i == 69) = false by simpa using h3]; exact no (by simp [isE]; omega)
theorem j4_ev (d : Nat) (x : Bool) (hd : d ≤ l.length) : Ev (fun k => tdparse_Number.j4 k l (d : Int) x)
    (((if g l d = 46 then (if isD (g l (d + 1)) = true then tail l (df l (d + 1)) else if x = true then d else 0) else if x = true then tail l d else 0 : Nat)) : Int) := by
  have no : g l d ≠ 46 → Ev (fun k => tdparse_Number.j5 k l (d : Int) x false) (((if g l d = 46 then (if isD (g l (d + 1)) = true then tail l (df l (d + 1)) else if x = true then d else 0) else if x = true then tail l d else 0 : Nat)) : Int) := fun h => by
    rw [if_neg h]
    refine Ev.step (fun _ => tdparse_Number.j5.eq_2 ..) (EvNeg (by simp) (EvIte (fun hx => ?_) (fun hx => ?_)))
    · rw [if_pos hx]; exact j8_ev l hl d hd
    · rw [if_neg hx]; exact Ev.now _
  have yes : g l d = 46 → Ev (fun k => tdparse_Number.j5 k l (d : Int) x true) (((if g l d = 46 then (if isD (g l (d + 1)) = true then tail l (df l (d + 1)) else if x = true then d else 0) else if x = true then tail l d else 0 : Nat)) : Int) := fun h => by
    have hlt : d < l.length := lt_of_ne (by rw [h]; omega)
    rw [if_pos h]
    have dno : isD (g l (d + 1)) = false → Ev (fun k => tdparse_Number.j6 k l ((d + 1 : Nat) : Int) x false) (((if isD (g l (d + 1)) = true then tail l (df l (d + 1)) else if x = true then d else 0 : Nat)) : Int) := fun h2 => by
      rw [if_neg (by rw [h2]; simp)]
      refine Ev.step (fun _ => tdparse_Number.j6.eq_2 ..) (EvNeg (by simp) (EvIte (fun hx => ?_) (fun hx => ?_)))
      · rw [if_pos hx]; exact EvNow (by rw [w64 (by omega) (by omega)]; omega)
      · rw [if_neg hx]; exact Ev.now _
    have dyes : isD (g l (d + 1)) = true → Ev (fun k => tdparse_Number.j6 k l ((d + 1 : Nat) : Int) x true) (((if isD (g l (d + 1)) = true then tail l (df l (d + 1)) else if x = true then d else 0 : Nat)) : Int) := fun h2 => by
      have hlt2 := isD_lt h2
      rw [if_pos h2]
      refine Ev.step (fun _ => tdparse_Number.j6.eq_2 ..) (EvPos rfl ?_)
      rw [wp (by omega), df_yes h2]
      exact l1_ev l hl (l.length - (d + 1 + 1)) (d + 1 + 1) (by omega) (j8_ev l hl _ (df_le (by omega)))
    refine Ev.step (fun _ => tdparse_Number.j5.eq_2 ..) (EvPos rfl ?_)
    rw [wp (by omega)]
    refine EvIte (fun h1 => EvPos (by omega) ?_) (fun h1 => dno (by rw [g_out (by omega)]; rfl))
    rw [rd_g]
    refine EvIte (fun h2 => ?_) (fun h2 => dno (by simp [isD]; omega))
    by_cases h3 : g l (d + 1) ≤ 57
    · rw [decide_eq_true h3]; exact dyes (by simp [isD]; omega)
    · rw [decide_eq_false h3]; exact dno (by simp [isD]; omega)
  refine Ev.step (fun _ => tdparse_Number.j4.eq_2 ..) (EvIte (fun h => EvPos (by omega) ?_) (fun h => no (by rw [g_out (by omega)]; omega)))
  rw [rd_g]
  by_cases h3 : g l d = 46
  · rw [show (g l d == 46) = true by simpa using h3]; exact yes h3
  · rw [show (g l d == 46) = false by simpa using h3]; exact no h3
theorem j1_ev (s : Nat) (hs : s < l.length) : Ev (fun k => tdparse_Number.j1 k l (s : Int))
    (((if g l (df l s) = 46 then (if isD (g l (df l s + 1)) = true then tail l (df l (df l s + 1)) else if isD (g l s) = true then df l s else 0) else if isD (g l s) = true then tail l (df l s) else 0 : Nat)) : Int) := by
  refine Ev.step (fun _ => tdparse_Number.j1.eq_2 ..) (EvPos (by omega) (EvPos (by omega) ?_))
  rw [rd_g]
  have no : isD (g l s) = false → Ev (fun k => tdparse_Number.j2 k l (s : Int) false) (((if g l (df l s) = 46 then (if isD (g l (df l s + 1)) = true then tail l (df l (df l s + 1)) else if isD (g l s) = true then df l s else 0) else if isD (g l s) = true then tail l (df l s) else 0 : Nat)) : Int) := fun h => by
    rw [h, df_no h]
    exact Ev.step (fun _ => tdparse_Number.j2.eq_2 ..) (EvNeg (by simp) (j4_ev l hl s false (by omega)))
  refine EvIte (fun h1 => ?_) (fun h1 => no (by simp [isD]; omega))
  by_cases h2 : g l s ≤ 57
  · rw [decide_eq_true h2]
    have h : isD (g l s) = true := by simp [isD]; omega
    rw [h, df_yes h]
    refine Ev.step (fun _ => tdparse_Number.j2.eq_2 ..) (EvPos rfl ?_)
    rw [wp (by omega)]
    exact l0_ev l hl (l.length - (s + 1)) (s + 1) (by omega) (j4_ev l hl _ true (df_le (by omega)))
  · rw [decide_eq_false h2]; exact no (by simp [isD]; omega)
theorem number_ev : Ev (fun k => tdparse_Number.f k l) ((num l : Nat) : Int) := by
  unfold tdparse_Number.f
  refine EvIte (fun h => ?_) (fun h => EvPos (by omega) ?_)
  · obtain rfl := List.eq_nil_of_length_eq_zero (by omega : l.length = 0)
    exact EvNow (by decide)
  have e0 : rd l 0 = g l 0 := rd_g l 0
  rw [e0]
  have plain : isS (g l 0) = false → Ev (fun k => tdparse_Number.j0 k l 0 false) ((num l : Nat) : Int) := fun hs => by
    have : sg l 0 = 0 := by unfold sg; rw [if_neg (by rw [hs]; simp)]
    unfold num
    rw [this]
    exact Ev.step (fun _ => tdparse_Number.j0.eq_2 ..) (EvNeg (by simp) (j1_ev l hl 0 (by omega)))
  have sign : isS (g l 0) = true → Ev (fun k => tdparse_Number.j0 k l 0 true) ((num l : Nat) : Int) := fun hs => by
    have e : sg l 0 = 1 := by unfold sg; rw [if_pos hs]
    refine Ev.step (fun _ => tdparse_Number.j0.eq_2 ..) (EvPos rfl ?_)
    rw [show wrap64 (0 + 1) = ((1 : Nat) : Int) by unfold wrap64; omega]
    unfold num
    rw [e]
    refine EvIte (fun h1 => EvNow ?_) (fun h1 => j1_ev l hl 1 (by omega))
    have h0 : g l 1 = 0 := g_out (by omega)
    have hd : isD (g l 1) = false := by rw [h0]; rfl
    rw [df_no hd, hd, h0]
    simp
  refine EvIte (fun h2 => sign (by simp [isS]; omega)) (fun h2 => ?_)
  by_cases h3 : g l 0 = 45
  · rw [show (g l 0 == 45) = true by simpa using h3]; exact sign (by rw [h3]; rfl)
  · rw [show (g l 0 == 45) = false by simpa using h3]; exact plain (by simp [isS]; omega)
end

set_option linter.unusedSectionVars false
section
variable (l : List Int) (hl : l.length ≤ 300)
include hl
theorem signfrom_eq (i : Nat) (hi : i ≤ 301) : spec_signFrom.f l (i : Int) = some ((sg l i : Nat) : Int) := by
  unfold spec_signFrom.f sg
  by_cases h : (i : Int) < (l.length : Int)
  · rw [if_pos h, if_pos (by omega), rd_g, wp (by omega)]
    by_cases h1 : g l i = 43
    · rw [if_pos h1, h1]; rfl
    · rw [if_neg h1]
      by_cases h2 : g l i = 45
      · rw [if_pos h2, h2]; rfl
      · rw [if_neg h2, if_neg (by simp [isS]; omega)]
  · rw [if_neg h, if_neg (by rw [g_out (by omega)]; simp [isS])]
theorem digitat_eq (i : Nat) : spec_digitAt.f l (i : Int) = some (isD (g l i)) := by
  unfold spec_digitAt.f
  by_cases h : (i : Int) < (l.length : Int)
  · rw [if_pos h, if_pos (by omega), rd_g]
    by_cases h1 : g l i ≥ 48
    · rw [if_pos h1]; congr 1; simp [isD]; omega
    · rw [if_neg h1]; congr 1; simp [isD]; omega
  · rw [if_neg h, g_out (by omega)]; rfl
theorem digitsfrom_loop : ∀ (n i : Nat), i + n = l.length → Ev (fun k => spec_digitsFrom.l0 k l (i : Int)) ((df l i : Nat) : Int)
  | 0, i, hi => by
    have h : isD (g l i) = false := by rw [g_out (by omega)]; rfl
    refine Ev.step (fun _ => spec_digitsFrom.l0.eq_2 ..) (EvGet (digitat_eq l hl i) ?_)
    rw [df_no h, h]
    exact EvNeg (by simp) (Ev.now _)
  | n + 1, i, hi => by
    refine Ev.step (fun _ => spec_digitsFrom.l0.eq_2 ..) (EvGet (digitat_eq l hl i) ?_)
    rw [wp (by omega)]
    refine EvIte (fun h => ?_) (fun h => ?_)
    · rw [df_yes h]; exact digitsfrom_loop n (i + 1) (by omega)
    · rw [df_no (by simpa using h)]; exact Ev.now _
theorem digitsfrom_ev (i : Nat) (hi : i ≤ l.length) : Ev (fun k => spec_digitsFrom.f k l (i : Int)) ((df l i : Nat) : Int) := by
  unfold spec_digitsFrom.f
  exact digitsfrom_loop l hl (l.length - i) i (by omega)
def dec (l : List Int) : Nat := if g l (df l (sg l 0)) = 46 ∧ isD (g l (df l (sg l 0) + 1)) = true then df l (df l (sg l 0) + 1) else if df l (sg l 0) = sg l 0 then 0 else df l (sg l 0)
omit hl in
theorem sg_le (h : l ≠ []) : sg l 0 ≤ l.length := by
  unfold sg
  have := List.length_pos_iff.2 h
  split <;> omega
theorem declen_ev (h0 : sg l 0 ≤ l.length) : Ev (fun k => spec_DecimalLength.f k l) ((dec l : Nat) : Int) := by
  unfold spec_DecimalLength.f dec
  refine EvGet (signfrom_eq l hl 0 (by omega)) (Ev.bind (digitsfrom_ev l hl _ h0) ?_)
  have hd := df_le (l := l) (i := sg l 0) h0
  generalize df l (sg l 0) = d at *
  generalize sg l 0 = s at *
  have no : ¬ (g l d = 46 ∧ isD (g l (d + 1)) = true) → Ev (fun k => spec_DecimalLength.j0 k l (s : Int) (d : Int) false) (((if g l d = 46 ∧ isD (g l (d + 1)) = true then df l (d + 1) else if d = s then 0 else d : Nat)) : Int) := fun h => by
    rw [if_neg h]
    refine Ev.step (fun _ => spec_DecimalLength.j0.eq_2 ..) (EvNeg (by simp) (EvIte (fun e => ?_) (fun e => ?_)))
    · rw [if_pos (by omega)]; exact Ev.now _
    · rw [if_neg (by omega)]; exact Ev.now _
  refine EvIte (fun h => EvPos (by omega) ?_) (fun h => no (by rw [g_out (by omega)]; omega))
  rw [rd_g]
  refine EvIte (fun h1 => ?_) (fun h1 => no (by omega))
  rw [wp (by omega)]
  refine EvGet (digitat_eq l hl (d + 1)) ?_
  cases hq : isD (g l (d + 1)) with
  | false => rw [hq] at no; exact no (by simp)
  | true =>
    rw [if_pos ⟨h1, rfl⟩]
    refine Ev.step (fun _ => spec_DecimalLength.j0.eq_2 ..) (EvPos rfl ?_)
    rw [wp (by omega)]
    exact Ev.bind (digitsfrom_ev l hl (d + 1) (by omega)) (Ev.now _)
omit hl in
theorem dec_le (h0 : sg l 0 ≤ l.length) : dec l ≤ l.length := by
  unfold dec
  split
  · rename_i h
    have := isD_lt h.2
    exact df_le (by omega)
  · split
    · omega
    · exact df_le h0
omit hl in
theorem num_eq : num l = if dec l = 0 then 0 else tail l (dec l) := by
  have ge := df_ge l (sg l 0)
  have hdig : isD (g l (sg l 0)) = true → sg l 0 < df l (sg l 0) := fun h3 => by
    have e := df_yes h3
    have ge2 := df_ge l (sg l 0 + 1)
    omega
  have hno : ¬ isD (g l (sg l 0)) = true → df l (sg l 0) = sg l 0 := fun h3 => df_no (by simpa using h3)
  unfold num
  by_cases h : g l (df l (sg l 0)) = 46
  · rw [if_pos h]
    by_cases h2 : isD (g l (df l (sg l 0) + 1)) = true
    · have hd : dec l = df l (df l (sg l 0) + 1) := by unfold dec; rw [if_pos ⟨h, h2⟩]
      have := df_ge l (df l (sg l 0) + 1)
      rw [if_pos h2, hd, if_neg (by omega)]
    · have hd : dec l = if df l (sg l 0) = sg l 0 then 0 else df l (sg l 0) := by unfold dec; rw [if_neg (fun hh => h2 hh.2)]
      rw [if_neg h2, hd]
      by_cases h3 : isD (g l (sg l 0)) = true
      · have := hdig h3
        have et : tail l (df l (sg l 0)) = df l (sg l 0) := by unfold tail; rw [if_neg (by rw [h]; simp [isE])]
        rw [if_pos h3, if_neg (show ¬ df l (sg l 0) = sg l 0 by omega), if_neg (by omega), et]
      · have e := hno h3
        rw [if_neg h3, if_pos e, if_pos rfl]
  · have hd : dec l = if df l (sg l 0) = sg l 0 then 0 else df l (sg l 0) := by unfold dec; rw [if_neg (fun hh => h hh.1)]
    rw [if_neg h, hd]
    by_cases h3 : isD (g l (sg l 0)) = true
    · have := hdig h3
      rw [if_pos h3, if_neg (show ¬ df l (sg l 0) = sg l 0 by omega), if_neg (by omega)]
    · have e := hno h3
      rw [if_neg h3, if_pos e, if_pos rfl]
theorem specnum_ev : Ev (fun k => spec_NumberLength.f k l) ((num l : Nat) : Int) := by
  have h0 : sg l 0 ≤ l.length := by
    rcases Nat.eq_zero_or_pos l.length with h | h
    · obtain rfl := List.eq_nil_of_length_eq_zero h
      decide
    · exact sg_le l (List.length_pos_iff.1 h)
  unfold spec_NumberLength.f
  refine Ev.bind (declen_ev l hl h0) ?_
  rw [num_eq]
  have hd := dec_le l h0
  generalize dec l = i at *
  have stop : (if i = 0 then 0 else tail l i) = i → Ev (fun k => spec_NumberLength.j0 k l (i : Int) true) (((if i = 0 then 0 else tail l i : Nat)) : Int) := fun h => by
    rw [h]
    exact Ev.step (fun _ => spec_NumberLength.j0.eq_2 ..) (EvPos rfl (Ev.now _))
  have noE : isE (g l i) = false → (if i = 0 then 0 else tail l i) = i := fun h => by
    split
    · omega
    · unfold tail; rw [if_neg (by rw [h]; simp)]
  refine EvIte (fun h => stop (by rw [if_pos (by omega)]; omega)) (fun h => ?_)
  refine EvIte (fun h1 => stop (noE (by rw [g_out (by omega)]; rfl))) (fun h1 => EvPos (by omega) (EvPos (by omega) ?_))
  rw [rd_g]
  have go : isE (g l i) = true → Ev (fun k => spec_NumberLength.j0 k l (i : Int) false) (((if i = 0 then 0 else tail l i : Nat)) : Int) := fun he => by
    rw [if_neg (by omega)]
    unfold tail
    rw [if_pos he]
    refine Ev.step (fun _ => spec_NumberLength.j0.eq_2 ..) (EvNeg (by simp) ?_)
    rw [wp (by omega)]
    refine EvGet (signfrom_eq l hl (i + 1) (by omega)) (EvGet (digitat_eq l hl _) (EvIte (fun hq => ?_) (fun hq => ?_)))
    · have := isD_lt hq
      rw [if_pos hq]
      exact Ev.bind (digitsfrom_ev l hl _ (by omega)) (Ev.now _)
    · rw [if_neg hq]; exact Ev.now _
  refine EvIte (fun h2 => go (by rw [h2]; rfl)) (fun h2 => ?_)
  by_cases h3 : g l i = 69
  · rw [h3]; exact go (by rw [h3]; rfl)
  · rw [show (g l i != 69) = true by simpa using h3]
    exact stop (noE (by simp [isE]; omega))
end

def lowB (c : Int) : Int := if 65 ≤ c ∧ c ≤ 90 then c + 32 else c
theorem lowB_eq (c : Int) (h0 : 0 ≤ c) (h1 : c ≤ 255) : spec_LowerByte.f c = some (lowB c) := by
  unfold spec_LowerByte.f lowB
  by_cases a : c ≥ 65
  · by_cases b : c ≤ 90
    · rw [if_pos a, if_pos b, if_pos ⟨a, b⟩]
      congr 1
      omega
    · rw [if_pos a, if_neg b, if_neg (by omega)]
  · rw [if_neg a, if_neg (by omega)]

def isL (c : Int) : Bool := (decide (97 ≤ c) && decide (c ≤ 122)) || (decide (65 ≤ c) && decide (c ≤ 90))
/-- The place behind all letters from a place on. -/
def lf (l : List Int) (i : Nat) : Nat := i + ((l.drop i).takeWhile isL).length
theorem isL_lt {l : List Int} {i : Nat} (h : isL (g l i) = true) : i < l.length := lt_of_ne (fun e => by rw [e] at h; simp [isL] at h)
theorem lf_yes {l : List Int} {i : Nat} (h : isL (g l i) = true) : lf l i = lf l (i + 1) := by
  have hl := isL_lt h
  unfold lf
  rw [drop_cons hl, List.takeWhile_cons, if_pos (by rw [← g_in hl]; exact h), List.length_cons]
  omega
theorem lf_no {l : List Int} {i : Nat} (h : isL (g l i) = false) : lf l i = i := by
  unfold lf
  rcases Nat.lt_or_ge i l.length with hl | hl
  · rw [drop_cons hl, List.takeWhile_cons, if_neg (by rw [← g_in hl, h]; simp)]; rfl
  · rw [List.drop_of_length_le hl]; rfl
theorem lf_ge (l : List Int) (i : Nat) : i ≤ lf l i := by unfold lf; omega
theorem lf_le {l : List Int} {i : Nat} (h : i ≤ l.length) : lf l i ≤ l.length := by
  unfold lf
  have := (List.takeWhile_sublist (p := isL) (l := l.drop i)).length_le
  rw [List.length_drop] at this
  omega
theorem num_le (l : List Int) (hl : l.length ≤ 300) : num l ≤ l.length := by
  rcases Nat.eq_zero_or_pos l.length with h | h
  · obtain rfl := List.eq_nil_of_length_eq_zero h
    decide
  have h0 := sg_le l (List.length_pos_iff.1 h)
  rw [num_eq]
  have hd := dec_le l h0
  split
  · omega
  · unfold tail
    split
    · split
      · rename_i h2
        have := isD_lt h2
        exact df_le (by omega)
      · exact hd
    · exact hd
def unit (l : List Int) (i : Nat) : Nat := if g l i = 37 then 1 else lf l i - i
section
variable (l : List Int) (hl : l.length ≤ 300)
include hl
theorem dim_loop (s : Nat) : ∀ (n i : Nat), i + n = l.length → s ≤ i → Ev (fun k => tdparse_Dimension.l0 k l (s : Int) (i : Int)) ((s : Int), ((lf l i - s : Nat) : Int))
  | 0, i, hi, hs => by
    have h : isL (g l i) = false := by rw [g_out (by omega)]; rfl
    rw [lf_no h]
    refine Ev.step (fun _ => tdparse_Dimension.l0.eq_2 ..) (EvNeg (by omega) (EvNow ?_))
    rw [w64 (by omega) (by omega)]; congr 1; omega
  | n + 1, i, hi, hs => by
    have no : isL (g l i) = false → Ev (fun _ => some ((s : Int), wrap64 ((i : Int) - (s : Int)))) ((s : Int), ((lf l i - s : Nat) : Int)) := fun h => by
      rw [lf_no h, w64 (by omega) (by omega)]
      exact EvNow (by congr 1; omega)
    have yes : isL (g l i) = true → Ev (fun k => tdparse_Dimension.l0 k l (s : Int) ((i + 1 : Nat) : Int)) ((s : Int), ((lf l i - s : Nat) : Int)) := fun h => by
      rw [lf_yes h]; exact dim_loop s n (i + 1) (by omega) (by omega)
    refine Ev.step (fun _ => tdparse_Dimension.l0.eq_2 ..) (EvPos (by omega) (EvPos (by omega) ?_))
    rw [rd_g, wp (by omega)]
    refine EvIte (fun h1 => EvIte (fun h2 => yes ?_) (fun h2 => EvIte (fun h3 => EvIte (fun h4 => yes ?_) (fun h4 => no ?_)) (fun h3 => no ?_))) (fun h1 => EvIte (fun h3 => EvIte (fun h4 => yes ?_) (fun h4 => no ?_)) (fun h3 => no ?_))
    all_goals (simp [isL]; omega)
theorem dim_ev : Ev (fun k => impl_DimensionLength.f k l) (((num l : Nat) : Int), ((if num l = 0 then 0 else unit l (num l) : Nat) : Int)) := by
  unfold impl_DimensionLength.f
  refine EvGet (own_eq _ (by omega)) (Ev.bind (a := (((num l : Nat) : Int), ((if num l = 0 then 0 else unit l (num l) : Nat) : Int))) ?_ (Ev.now _))
  unfold tdparse_Dimension.f
  refine Ev.bind (number_ev l hl) ?_
  have hle := num_le l hl
  generalize num l = i at *
  have stop : (if i = 0 then 0 else unit l i) = 0 → Ev (fun k => tdparse_Dimension.j0 k l (i : Int) true) ((i : Int), ((if i = 0 then 0 else unit l i : Nat) : Int)) := fun h => by
    rw [h]
    exact Ev.step (fun _ => tdparse_Dimension.j0.eq_2 ..) (EvPos rfl (Ev.now _))
  refine EvIte (fun h => stop (by rw [if_pos (by omega)])) (fun h => ?_)
  by_cases h1 : i = l.length
  · rw [show (((i : Nat) : Int) == (l.length : Int)) = true by simp; omega]
    refine stop ?_
    have h0 : g l i = 0 := g_out (by omega)
    rw [if_neg (by omega)]
    unfold unit
    rw [if_neg (by omega), lf_no (by rw [h0]; rfl)]
    omega
  · rw [show (((i : Nat) : Int) == (l.length : Int)) = false by simp; omega, if_neg (by omega)]
    refine Ev.step (fun _ => tdparse_Dimension.j0.eq_2 ..) (EvNeg (by simp) (EvPos (by omega) (EvPos (by omega) ?_)))
    rw [rd_g]
    unfold unit
    refine EvIte (fun h2 => EvNow (by rw [if_pos h2]; rfl)) (fun h2 => ?_)
    rw [if_neg h2]
    have yes : isL (g l i) = true → Ev (fun k => tdparse_Dimension.j1 k l (i : Int) true) ((i : Int), ((lf l i - i : Nat) : Int)) := fun h => by
      refine Ev.step (fun _ => tdparse_Dimension.j1.eq_2 ..) (EvPos rfl ?_)
      rw [wp (by omega), lf_yes h]
      exact dim_loop l hl i (l.length - (i + 1)) (i + 1) (by omega) (by omega)
    have no : isL (g l i) = false → Ev (fun k => tdparse_Dimension.j1 k l (i : Int) false) ((i : Int), ((lf l i - i : Nat) : Int)) := fun h => by
      rw [lf_no h]
      exact Ev.step (fun _ => tdparse_Dimension.j1.eq_2 ..) (EvNeg (by simp) (EvNow (by simp)))
    have both : ∀ b : Bool, isL (g l i) = b → Ev (fun k => tdparse_Dimension.j1 k l (i : Int) b) ((i : Int), ((lf l i - i : Nat) : Int)) := fun b hb => by
      cases b with
      | true => exact yes hb
      | false => exact no hb
    refine EvIte (fun h3 => EvIte (fun h4 => yes ?_) (fun h4 => EvIte (fun h5 => both _ ?_) (fun h5 => no ?_))) (fun h3 => EvIte (fun h5 => both _ ?_) (fun h5 => no ?_))
    all_goals (rw [Bool.eq_iff_iff]; simp [isL]; omega)
theorem unit_loop (hb : Bytes l) (s : Nat) : ∀ (n i : Nat), i + n = l.length → s ≤ i → Ev (fun k => spec_UnitLength.l0 k l (s : Int) (i : Int)) ((lf l i - s : Nat) : Int)
  | 0, i, hi, hs => by
    have h : isL (g l i) = false := by rw [g_out (by omega)]; rfl
    rw [lf_no h]
    refine Ev.step (fun _ => spec_UnitLength.l0.eq_2 ..) (EvNeg (by omega) (EvNow ?_))
    rw [w64 (by omega) (by omega)]; omega
  | n + 1, i, hi, hs => by
    have hc : 0 ≤ g l i ∧ g l i ≤ 255 := by rw [g_in (by omega)]; exact hb.at_ (by omega)
    have no : isL (g l i) = false → Ev (fun _ => some (wrap64 ((i : Int) - (s : Int)))) ((lf l i - s : Nat) : Int) := fun h => by
      rw [lf_no h, w64 (by omega) (by omega)]
      exact EvNow (by omega)
    have yes : isL (g l i) = true → Ev (fun k => spec_UnitLength.l0 k l (s : Int) ((i + 1 : Nat) : Int)) ((lf l i - s : Nat) : Int) := fun h => by
      rw [lf_yes h]; exact unit_loop hb s n (i + 1) (by omega) (by omega)
    refine Ev.step (fun _ => spec_UnitLength.l0.eq_2 ..) (EvPos (by omega) (EvPos (by omega) ?_))
    rw [rd_g, wp (by omega)]
    refine EvGet (lowB_eq _ hc.1 hc.2) (EvIte (fun h1 => EvGet (lowB_eq _ hc.1 hc.2) (EvIte (fun h2 => yes ?_) (fun h2 => no ?_))) (fun h1 => no ?_))
    all_goals (unfold lowB at *; by_cases hu : 65 ≤ g l i ∧ g l i ≤ 90)
    all_goals first | rw [if_pos hu] at * | rw [if_neg hu] at *
    all_goals (simp [isL]; omega)
theorem unit_ev (hb : Bytes l) (i : Nat) (hi : i ≤ l.length) : Ev (fun k => spec_UnitLength.f k l (i : Int)) ((unit l i : Nat) : Int) := by
  unfold spec_UnitLength.f unit
  have no : g l i ≠ 37 → Ev (fun k => spec_UnitLength.j0 k l (i : Int) false) (((if g l i = 37 then 1 else lf l i - i : Nat)) : Int) := fun h => by
    rw [if_neg h]
    exact Ev.step (fun _ => spec_UnitLength.j0.eq_2 ..) (EvNeg (by simp) (unit_loop l hl hb i (l.length - i) i (by omega) (by omega)))
  refine EvIte (fun h => EvPos (by omega) ?_) (fun h => no (by rw [g_out (by omega)]; omega))
  rw [rd_g]
  by_cases h3 : g l i = 37
  · rw [show (g l i == 37) = true by simpa using h3, if_pos h3]
    exact Ev.step (fun _ => spec_UnitLength.j0.eq_2 ..) (EvPos rfl (Ev.now _))
  · rw [show (g l i == 37) = false by simpa using h3]; exact no h3
end
theorem FnNumberDimension : laws_FnNumberDimension.Pure := by
  intro a ha1 ha2 ha
  have hA := bytes_of ha
  refine Ev.rounds ?_
  unfold laws_FnNumberDimension.f
  refine EvIte (fun _ => Ev.now _) (fun h => ?_)
  refine Ev.bind (few_ev _ (by simp)) (EvIte (fun hf => ?_) (fun _ => Ev.now _))
  have hl : a.length ≤ 300 := by simpa using hf
  refine Ev.bind (dim_ev a hl) (Ev.bind (specnum_ev a hl) (EvIte (fun h0 => ?_) (fun h0 => ?_)))
  · exact EvPos h0 (EvNow (by simp; intro hh; omega))
  · exact EvPos rfl (Ev.bind (unit_ev a hl hA _ (num_le a hl)) (EvNow (by rw [if_neg (by omega)]; simp)))

end Go.Proofs.Yteklgpjdcdkdpaa.Pure
