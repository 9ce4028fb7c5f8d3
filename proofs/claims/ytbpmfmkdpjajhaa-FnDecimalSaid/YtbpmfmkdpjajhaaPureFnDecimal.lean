/- FnDecimal, its pure statement: digits are a decimal literal exactly if they do not begin with a 0 that others follow; letters and nothing are none. For all texts. -/
import Derived.Test.YtbpmfmkdpjajhaaAid
import Derived.Test.YtbpmfmkdpjajhaaPFnDecimalx0
import Derived.Test.YtbpmfmkdpjajhaaPFnDecimalx1
import Derived.Test.YtbpmfmkdpjajhaaPFnDecimalx2
import Derived.Test.YtbpmfmkdpjajhaaPFnDecimalx3
namespace Go.Proofs.Ytbpmfmkdpjajhaa.Pure
open Go.RowKit Go.Proofs.Ytbpmfmkdpjajhaa.PFnDecimal Go.Proofs.YtbpmfmkdpjajhaaW.PrintWords Go.Proofs.YtbpmfmkdpjajhaaW.PrintLast Go.Proofs.Ytbpmfmkdpjajhaa.Aid
set_option linter.unusedVariables false
set_option linter.unusedSimpArgs false

def g (l : List Int) (i : Nat) : Int := l.getD i 0
theorem rd_g (l : List Int) (i : Nat) : rd l (i : Int) = g l i := by unfold rd g; rw [Int.toNat_natCast]
theorem g_out {l : List Int} {i : Nat} (h : l.length ≤ i) : g l i = 0 := by unfold g; rw [List.getD_eq_getElem?_getD, List.getElem?_eq_none h]; rfl
theorem g_in {l : List Int} {i : Nat} (h : i < l.length) : g l i = l[i] := by unfold g; rw [List.getD_eq_getElem?_getD, List.getElem?_eq_getElem h]; rfl
def isD (c : Int) : Bool := decide (48 ≤ c) && decide (c ≤ 57)

theorem bt_g (s : ByteArray) {i : Nat} (h : i < s.size) : bt s (i : Int) = g (Own.numsOf s) i := by
  unfold bt g
  rw [dif_pos (by simpa using h)]
  simp [Own.numsOf, List.getD_eq_getElem?_getD]
  rw [Array.getElem?_eq_getElem h]
  rfl
theorem nums_size (s : ByteArray) : (Own.numsOf s).length = s.size := Own.numsOf_length s
theorem nums_bytes (s : ByteArray) : Bytes (Own.numsOf s) := fun x hx => by
  obtain ⟨c, _, rfl⟩ := List.mem_map.1 hx
  have := c.toNat_lt
  omega

theorem haszero_loop (s : ByteArray) (hm : s.size ≤ 140737488355328) : ∀ (n i : Nat), i + n = s.size → ∃ b, Ev (fun k => spec_HasZero.l0 k s (s.size : Int) (i : Int)) b
  | 0, i, hi => ⟨false, Ev.step (fun _ => spec_HasZero.l0.eq_2 ..) (EvNeg (by omega) (Ev.now _))⟩
  | n + 1, i, hi => by
    obtain ⟨b, hb⟩ := haszero_loop s hm n (i + 1) (by omega)
    have hw : wrap64 ((i : Int) + 1) = ((i + 1 : Nat) : Int) := wn (n := s.size) (by omega) (by omega)
    by_cases h : bt s (i : Int) = 0
    · exact ⟨true, Ev.step (fun _ => spec_HasZero.l0.eq_2 ..) (EvPos (by omega) (EvPos (by omega) (EvPos (by omega) (EvPos h (Ev.now _)))))⟩
    · exact ⟨b, Ev.step (fun _ => spec_HasZero.l0.eq_2 ..) (EvPos (by omega) (EvPos (by omega) (EvPos (by omega) (EvNeg h (by rw [hw]; exact hb)))))⟩
/-- Whether a text is one of those that are spoken of; if so, it is short. -/
theorem script_ev (s : ByteArray) (hm : s.size ≤ 140737488355328) : ∃ b, Ev (fun k => laws_script.f k [s]) b ∧ (b = true → s.size ≤ 600) := by
  have e : rdOf ByteArray.empty [s] 0 = s := rfl
  have done_ : Ev (fun k => laws_script.l0 k [s] 1 (wrap64 (0 + 1))) true := by
    rw [show wrap64 (0 + 1) = 1 by unfold wrap64; omega]
    exact Ev.step (fun _ => laws_script.l0.eq_2 ..) (EvNeg (by omega) (Ev.now _))
  unfold laws_script.f
  by_cases h : (s.size : Int) > 600
  · refine ⟨false, Ev.step (fun _ => laws_script.l0.eq_2 ..) (EvPos (by simp) (EvPos (by omega) (EvPos (by simp) ?_))), by simp⟩
    rw [e]
    exact EvPos h (Ev.now _)
  · obtain ⟨z, hz⟩ := haszero_loop s hm s.size 0 (by omega)
    have hz' : Ev (fun k => spec_HasZero.f k s) z := by unfold spec_HasZero.f; exact hz
    have hu : Own.laws_isUTF8.f s = some (Own.utfB s s.size 0) := by unfold Own.laws_isUTF8.f; rw [if_pos hm]
    refine ⟨if z = true then false else if Own.utfB s s.size 0 = true then true else false, Ev.step (fun _ => laws_script.l0.eq_2 ..) (EvPos (by simp) (EvPos (by omega) (EvPos (by simp) ?_))), fun _ => by omega⟩
    rw [e]
    refine EvNeg h (Ev.bind hz' (EvIte (fun h1 => EvNow (by rw [if_pos h1])) (fun h1 => EvGet hu (EvIte (fun h2 => ?_) (fun h2 => EvNow (by rw [if_neg h1, if_neg h2]))))))
    rw [if_neg h1, if_pos h2]
    exact done_

def isLet (c : Int) : Bool := (decide (97 ≤ c) && decide (c ≤ 122)) || (decide (65 ≤ c) && decide (c ≤ 90)) || c == 36 || c == 95
theorem letter_eq (c : Int) : spec_IsLetter.f c = some (isLet c) := by
  unfold spec_IsLetter.f
  by_cases h1 : c ≥ 97
  · rw [if_pos h1]
    by_cases h2 : c ≤ 122
    · rw [if_pos h2]; congr 1; simp [isLet]; omega
    · rw [if_neg h2, if_pos (by omega), if_neg (by omega), if_neg (by omega)]; congr 1; simp [isLet]; omega
  · rw [if_neg h1]
    by_cases h3 : c ≥ 65
    · rw [if_pos h3]
      by_cases h4 : c ≤ 90
      · rw [if_pos h4]; congr 1; simp [isLet]; omega
      · rw [if_neg h4, if_neg (by omega)]; congr 1; simp [isLet]; omega
    · rw [if_neg h3]
      by_cases h5 : c = 36
      · rw [if_pos h5]; congr 1; simp [isLet]; omega
      · rw [if_neg h5]; congr 1; simp [isLet]; omega
section
variable (l : List Int) (hl : l.length ≤ 140737488355328)
include hl
theorem dec_loop (hd : l.all isD = true) : ∀ (n i : Nat), i + n = l.length → Ev (fun k => tdjs_AsDecimalLiteral.l0 k l (i : Int)) true
  | 0, i, hi => by
    have hi' : i = l.length := by omega
    subst hi'
    refine Ev.step (fun _ => tdjs_AsDecimalLiteral.l0.eq_2 ..) (EvNeg (by omega) (Ev.step (fun _ => tdjs_AsDecimalLiteral.j2.eq_2 ..) (EvNeg (by omega) (Ev.step (fun _ => tdjs_AsDecimalLiteral.j3.eq_2 ..) (EvNeg (by simp) (EvNow (by simp)))))))
  | n + 1, i, hi => by
    have hlt : i < l.length := by omega
    have hc := List.all_eq_true.1 hd _ (List.getElem_mem hlt)
    simp [isD] at hc
    refine Ev.step (fun _ => tdjs_AsDecimalLiteral.l0.eq_2 ..) (EvPos (by omega) (EvPos (by omega) ?_))
    rw [rd_at hlt, wn hlt hl]
    exact EvPos hc.1 (EvPos hc.2 (dec_loop hd n (i + 1) (by omega)))
theorem dec_digits (hd : l.all isD = true) (h0 : 0 < l.length) : Ev (fun k => tdjs_AsDecimalLiteral.f k l) (decide (l.length = 1) || decide (g l 0 ≠ 48)) := by
  have hc := List.all_eq_true.1 hd _ (List.getElem_mem h0)
  rw [← g_in h0] at hc
  simp [isD] at hc
  have e0 : rd l 0 = g l 0 := rd_g l 0
  unfold tdjs_AsDecimalLiteral.f
  rw [e0]
  refine EvNeg (by omega) (EvPos (by omega) (EvNeg (by omega) (EvNeg (by omega) ?_)))
  refine Ev.step (fun _ => tdjs_AsDecimalLiteral.j0.eq_2 ..) (EvNeg (by simp) (EvPos (by omega) ?_))
  rw [e0]
  refine EvIte (fun h => EvNow ?_) (fun h => ?_)
  · rw [Bool.eq_iff_iff]; simp [h]
    omega
  · rw [decide_eq_true (p := g l 0 ≠ 48) h, Bool.or_true]
    exact dec_loop l hl hd (l.length - 1) 1 (by omega)
theorem dec_letters (hd : l.all isLet = true) : Ev (fun k => tdjs_AsDecimalLiteral.f k l) false := by
  have no : Ev (fun k => tdjs_AsDecimalLiteral.j0 k l true) false := Ev.step (fun _ => tdjs_AsDecimalLiteral.j0.eq_2 ..) (EvPos rfl (Ev.now _))
  unfold tdjs_AsDecimalLiteral.f
  refine EvIte (fun _ => no) (fun h => EvPos (by omega) ?_)
  have h0 : 0 < l.length := by omega
  have hc := List.all_eq_true.1 hd _ (List.getElem_mem h0)
  rw [← g_in h0] at hc
  simp [isLet] at hc
  have e0 : rd l 0 = g l 0 := rd_g l 0
  rw [e0]
  exact EvIte (fun _ => EvNeg (by omega) no) (fun _ => EvIte (fun _ => EvNeg (by omega) no) (fun _ => by omega))
end
theorem FnDecimal : laws_FnDecimal.Pure := by
  intro s hs
  have hsz := nums_size s
  have hl : (Own.numsOf s).length ≤ 140737488355328 := by omega
  have isdec : ∀ {b : Bool}, Ev (fun k => tdjs_AsDecimalLiteral.f k (Own.numsOf s)) b → Ev (fun k => impl_IsDecimal.f k s) b := fun h => by
    unfold impl_IsDecimal.f
    exact EvPos (by omega) (Ev.bind h (Ev.now _))
  obtain ⟨sb, hsb, _⟩ := script_ev s (by omega)
  refine Ev.rounds ?_
  unfold laws_FnDecimal.f
  refine EvIte (fun _ => Ev.now _) (fun hbig => ?_)
  have loop : ∀ (n i : Nat) (x y : Bool), i + n = s.size → (x = true → s.size ≠ 0 ∧ ((Own.numsOf s).take i).all isD = true) → (y = true → ((Own.numsOf s).take i).all isLet = true) → Ev (fun k => laws_FnDecimal.l0 k s x y (s.size : Int) (i : Int)) true := by
    intro n
    induction n with
    | zero =>
      intro i x y hi hx hy
      have hi' : i = s.size := by omega
      subst hi'
      rw [List.take_of_length_le (by omega)] at hx hy
      refine Ev.step (fun _ => laws_FnDecimal.l0.eq_2 ..) (EvNeg (by omega) (Ev.bind hsb (EvIte (fun _ => EvIte (fun h1 => ?_) (fun h1 => EvIte (fun h2 => ?_) (fun _ => Ev.now _))) (fun _ => Ev.now _))))
      · obtain ⟨h3, h4⟩ := hx h1
        refine Ev.bind (isdec (dec_digits _ hl h4 (by omega))) (EvIte (fun h5 => EvNow ?_) (fun h5 => EvPos (by omega) (EvNow ?_)))
        · rw [decide_eq_true (by omega), Bool.true_or]; rfl
        · rw [decide_eq_false (by omega), Bool.false_or]
          have := bt_g s (i := 0) (by omega)
          simp only [Int.natCast_zero] at this
          rw [show bt s 0 = g (Own.numsOf s) 0 from this]
          by_cases h48 : g (Own.numsOf s) 0 = 48 <;> simp [h48]
      · exact Ev.bind (isdec (dec_letters _ hl (hy h2))) (Ev.now _)
    | succ n ih =>
      intro i x y hi hx hy
      have hlt : i < s.size := by omega
      have hlt' : i < (Own.numsOf s).length := by omega
      have hb : bt s (i : Int) = (Own.numsOf s)[i] := by rw [bt_g s hlt, g_in hlt']
      have hw : wrap64 ((i : Int) + 1) = ((i + 1 : Nat) : Int) := wn hlt (by omega)
      have ht : (Own.numsOf s).take (i + 1) = (Own.numsOf s).take i ++ [(Own.numsOf s)[i]] := List.take_succ_eq_append_getElem hlt'
      have nx : ∀ x' y' : Bool, (x' = true → x = true ∧ isD (Own.numsOf s)[i] = true) → (y' = true → y = true ∧ isLet (Own.numsOf s)[i] = true) → Ev (fun k => laws_FnDecimal.l0 k s x' y' (s.size : Int) ((i + 1 : Nat) : Int)) true := fun x' y' hx' hy' => by
        refine ih (i + 1) x' y' (by omega) (fun h => ?_) (fun h => ?_)
        · obtain ⟨h1, h2⟩ := hx' h
          obtain ⟨h3, h4⟩ := hx h1
          refine ⟨h3, ?_⟩
          rw [ht, List.all_append, h4]
          simpa using h2
        · obtain ⟨h1, h2⟩ := hy' h
          rw [ht, List.all_append, hy h1]
          simpa using h2
      refine Ev.step (fun _ => laws_FnDecimal.l0.eq_2 ..) (EvPos (by omega) ?_)
      rw [hb, hw]
      refine EvIte (fun h1 => EvPos (by omega) (EvPos (by omega) (EvIte (fun h2 => EvIte (fun h3 => EvGet (letter_eq _) (nx _ _ ?_ ?_)) (fun h3 => nx _ _ ?_ ?_)) (fun h2 => EvIte (fun h3 => EvGet (letter_eq _) (nx _ _ ?_ ?_)) (fun h3 => nx _ _ ?_ ?_)))))
        (fun h1 => EvIte (fun h3 => EvPos (by omega) (EvPos (by omega) (EvGet (letter_eq _) (nx _ _ ?_ ?_)))) (fun h3 => nx _ _ ?_ ?_))
      · intro h; exact ⟨h1, by simp [isD]; exact ⟨by omega, of_decide_eq_true h⟩⟩
      · intro h; exact ⟨h3, h⟩
      · intro h; exact ⟨h1, by simp [isD]; exact ⟨by omega, of_decide_eq_true h⟩⟩
      · intro h; cases h
      · intro h; cases h
      · intro h; exact ⟨h3, h⟩
      · intro h; cases h
      · intro h; cases h
      · intro h; cases h
      · intro h; exact ⟨h3, h⟩
      · intro h; cases h
      · intro h; cases h
  refine loop s.size 0 _ _ (by omega) (fun h => ⟨fun e => ?_, by simp⟩) (fun _ => by simp)
  have : s.toList = [] := by
    have h0 : (Own.numsOf s).length = 0 := by omega
    have h1 : Own.numsOf s = [] := List.eq_nil_of_length_eq_zero h0
    rw [show s.toList = s.data.toList from by first | exact ByteArray.toList_eq s | exact ByteArray.toList_eq | exact Go.Lib.toList_data s | exact Lib.toList_data s]
    simpa [Own.numsOf] using h1
  rw [this] at h
  simp at h

end Go.Proofs.Ytbpmfmkdpjajhaa.Pure
