/- FnName, its pure statement: a text of ASCII is an identifier name exactly if it begins with a letter, a dollar sign or an underscore, and has these and digits alone. For all texts. -/
import Derived.Test.YtpbgmgkpololfaaDoorAid
import Derived.Test.YtpbgmgkpololfaaDoorPFnNamex0
import Derived.Test.YtpbgmgkpololfaaDoorPFnNamex1
namespace Go.Proofs.YtpbgmgkpololfaaDoor.Pure
open Go.RowKit Go.Proofs.YtpbgmgkpololfaaDoor.PFnName Go.Proofs.YtpbgmgkpololfaaDoorW.PrintWords Go.Proofs.YtpbgmgkpololfaaDoorW.PrintLast Go.Proofs.YtpbgmgkpololfaaDoor.Aid
set_option linter.unusedVariables false
set_option linter.unusedSimpArgs false

def g (l : List Int) (i : Nat) : Int := l.getD i 0
theorem rd_g (l : List Int) (i : Nat) : rd l (i : Int) = g l i := by unfold rd g; rw [Int.toNat_natCast]
theorem g_out {l : List Int} {i : Nat} (h : l.length ≤ i) : g l i = 0 := by unfold g; rw [List.getD_eq_getElem?_getD, List.getElem?_eq_none h]; rfl
theorem g_in {l : List Int} {i : Nat} (h : i < l.length) : g l i = l[i] := by unfold g; rw [List.getD_eq_getElem?_getD, List.getElem?_eq_getElem h]; rfl
def isD (c : Int) : Bool := decide (48 ≤ c) && decide (c ≤ 57)

theorem bt_g (s : ByteArray) {i : Nat} (h : i < s.size) : bt s (i : Int) = g (Own.numsOf s) i := by
  unfold bt g
  rw [dif_pos (by simpa using h)]
  simp [Own.numsOf, List.getD_eq_getElem?_getD]
  rw [Array.getElem?_eq_getElem h]
  rfl
theorem nums_size (s : ByteArray) : (Own.numsOf s).length = s.size := Own.numsOf_length s
theorem nums_bytes (s : ByteArray) : Bytes (Own.numsOf s) := fun x hx => by
  obtain ⟨c, _, rfl⟩ := List.mem_map.1 hx
  have := c.toNat_lt
  omega

theorem haszero_loop (s : ByteArray) (hm : s.size ≤ 140737488355328) : ∀ (n i : Nat), i + n = s.size → ∃ b, Ev (fun k => spec_HasZero.l0 k s (s.size : Int) (i : Int)) b
  | 0, i, hi => ⟨false, Ev.step (fun _ => spec_HasZero.l0.eq_2 ..) (EvNeg (by omega) (Ev.now _))⟩
  | n + 1, i, hi => by
    obtain ⟨b, hb⟩ := haszero_loop s hm n (i + 1) (by omega)
    have hw : wrap64 ((i : Int) + 1) = ((i + 1 : Nat) : Int) := wn (n := s.size) (by omega) (by omega)
    by_cases h : bt s (i : Int) = 0
    · exact ⟨true, Ev.step (fun _ => spec_HasZero.l0.eq_2 ..) (EvPos (by omega) (EvPos (by omega) (EvPos (by omega) (EvPos h (Ev.now _)))))⟩
    · exact ⟨b, Ev.step (fun _ => spec_HasZero.l0.eq_2 ..) (EvPos (by omega) (EvPos (by omega) (EvPos (by omega) (EvNeg h (by rw [hw]; exact hb)))))⟩
/-- Whether a text is one of those that are spoken of; if so, it is short. -/
theorem script_ev (s : ByteArray) (hm : s.size ≤ 140737488355328) : ∃ b, Ev (fun k => laws_script.f k [s]) b ∧ (b = true → s.size ≤ 600) := by
  have e : rdOf ByteArray.empty [s] 0 = s := rfl
  have done_ : Ev (fun k => laws_script.l0 k [s] 1 (wrap64 (0 + 1))) true := by
    rw [show wrap64 (0 + 1) = 1 by unfold wrap64; omega]
    exact Ev.step (fun _ => laws_script.l0.eq_2 ..) (EvNeg (by omega) (Ev.now _))
  unfold laws_script.f
  by_cases h : (s.size : Int) > 600
  · refine ⟨false, Ev.step (fun _ => laws_script.l0.eq_2 ..) (EvPos (by simp) (EvPos (by omega) (EvPos (by simp) ?_))), by simp⟩
    rw [e]
    exact EvPos h (Ev.now _)
  · obtain ⟨z, hz⟩ := haszero_loop s hm s.size 0 (by omega)
    have hz' : Ev (fun k => spec_HasZero.f k s) z := by unfold spec_HasZero.f; exact hz
    have hu : Own.laws_isUTF8.f s = some (Own.utfB s s.size 0) := by unfold Own.laws_isUTF8.f; rw [if_pos hm]
    refine ⟨if z = true then false else if Own.utfB s s.size 0 = true then true else false, Ev.step (fun _ => laws_script.l0.eq_2 ..) (EvPos (by simp) (EvPos (by omega) (EvPos (by simp) ?_))), fun _ => by omega⟩
    rw [e]
    refine EvNeg h (Ev.bind hz' (EvIte (fun h1 => EvNow (by rw [if_pos h1])) (fun h1 => EvGet hu (EvIte (fun h2 => ?_) (fun h2 => EvNow (by rw [if_neg h1, if_neg h2]))))))
    rw [if_neg h1, if_pos h2]
    exact done_

theorem letter_nat : ∀ n : Nat, n < 256 → spec_IsLetter.f (n : Int) = some (Own.isS n) ∧ Own.isI n = (Nat.ble 48 n && Nat.ble n 57 || Own.isS n) := by decide +kernel
theorem letter_eq {c : Int} (h0 : 0 ≤ c) (h1 : c ≤ 255) : spec_IsLetter.f c = some (Own.isS c.toNat) := by
  obtain ⟨n, rfl⟩ := Int.eq_ofNat_of_zero_le h0
  exact (letter_nat n (by omega)).1
theorem isI_eq {c : Int} (h0 : 0 ≤ c) (h1 : c ≤ 255) : Own.isI c.toNat = ((decide (48 ≤ c) && decide (c ≤ 57)) || Own.isS c.toNat) := by
  obtain ⟨n, rfl⟩ := Int.eq_ofNat_of_zero_le h0
  rw [Int.toNat_natCast, (letter_nat n (by omega)).2]
  congr 1
  rw [Bool.eq_iff_iff]
  simp
  omega
theorem byN_all {l : List Int} (h : Bytes l) : l.all Own.byN = true := by
  rw [List.all_eq_true]
  intro x hx
  have := h x hx
  unfold Own.byN
  rw [decide_eq_true this.1, decide_eq_true (by omega : x < 256)]
  rfl
theorem basic_loop (s : ByteArray) (hm : s.size ≤ 140737488355328) : ∀ (n i : Nat), i + n = s.size → ∃ b, Ev (fun k => laws_basic.l0 k s (s.size : Int) (i : Int)) b
  | 0, i, hi => ⟨true, Ev.step (fun _ => laws_basic.l0.eq_2 ..) (EvNeg (by omega) (Ev.now _))⟩
  | n + 1, i, hi => by
    obtain ⟨b, hb⟩ := basic_loop s hm n (i + 1) (by omega)
    have hw : wrap64 ((i : Int) + 1) = ((i + 1 : Nat) : Int) := wn (n := s.size) (by omega) (by omega)
    by_cases h : bt s (i : Int) ≥ 128
    · exact ⟨false, Ev.step (fun _ => laws_basic.l0.eq_2 ..) (EvPos (by omega) (EvPos (by omega) (EvPos (by omega) (EvPos h (Ev.now _)))))⟩
    · by_cases h2 : bt s (i : Int) = 92
      · exact ⟨false, Ev.step (fun _ => laws_basic.l0.eq_2 ..) (EvPos (by omega) (EvPos (by omega) (EvPos (by omega) (EvNeg h (EvPos h2 (Ev.now _))))))⟩
      · exact ⟨b, Ev.step (fun _ => laws_basic.l0.eq_2 ..) (EvPos (by omega) (EvPos (by omega) (EvPos (by omega) (EvNeg h (EvNeg h2 (by rw [hw]; exact hb))))))⟩
theorem some_text (s : ByteArray) (h : 0 < s.size) : (s.toList != ([] : List UInt8)) = true := by
  rw [bne_iff_ne]
  intro e
  have h1 : s.toList.length = s.size := by rw [show s.toList = s.data.toList from by first | exact ByteArray.toList_eq s | exact ByteArray.toList_eq | exact Go.Lib.toList_data s | exact Lib.toList_data s]; rfl
  rw [e] at h1
  simp at h1
  omega
theorem no_text (s : ByteArray) (h : s.size = 0) : (s.toList != ([] : List UInt8)) = false := by
  rw [bne_eq_false_iff_eq]
  have h1 : s.toList.length = s.size := by rw [show s.toList = s.data.toList from by first | exact ByteArray.toList_eq s | exact ByteArray.toList_eq | exact Go.Lib.toList_data s | exact Lib.toList_data s]; rfl
  exact List.eq_nil_of_length_eq_zero (by omega)
theorem word_loop (s : ByteArray) (hm : s.size ≤ 140737488355328) (h0 : 0 < s.size) : ∀ (n i : Nat), i + n = s.size → 0 < i →
    Ev (fun k => laws_isWord.l0 k s (s.size : Int) (i : Int)) (((Own.numsOf s).drop i).all fun c => Own.isI c.toNat)
  | 0, i, hi, _ => by
    refine Ev.step (fun _ => laws_isWord.l0.eq_2 ..) (EvNeg (by omega) (EvNow ?_))
    rw [some_text s h0, List.drop_of_length_le (by rw [nums_size]; omega)]
    rfl
  | n + 1, i, hi, hi0 => by
    have ih := word_loop s hm h0 n (i + 1) (by omega) (by omega)
    have hw : wrap64 ((i : Int) + 1) = ((i + 1 : Nat) : Int) := wn (n := s.size) (by omega) (by omega)
    have hlt : i < (Own.numsOf s).length := by rw [nums_size]; omega
    have hc := (nums_bytes s).at_ hlt
    have hb : bt s (i : Int) = (Own.numsOf s)[i] := by rw [bt_g s (by omega), g_in hlt]
    refine Ev.step (fun _ => laws_isWord.l0.eq_2 ..) (EvPos (by omega) (EvPos (by omega) (EvPos (by omega) ?_)))
    rw [hb, hw, drop_cons hlt, List.all_cons, isI_eq hc.1 hc.2]
    refine EvGet (letter_eq hc.1 hc.2) (EvIte (fun h => ?_) (fun h => EvNeg (by omega) ?_))
    · rw [h, Bool.or_true, Bool.true_and]
      exact ih
    · rw [show Own.isS (Own.numsOf s)[i].toNat = false by simpa using h, Bool.or_false]
      refine EvIte (fun h1 => ?_) (fun h1 => EvIte (fun h2 => ?_) (fun h2 => ?_))
      · rw [decide_eq_false (by omega : ¬ 48 ≤ (Own.numsOf s)[i]), Bool.false_and, Bool.false_and]
        exact Ev.now _
      · rw [decide_eq_false (by omega : ¬ (Own.numsOf s)[i] ≤ 57), Bool.and_false, Bool.false_and]
        exact Ev.now _
      · rw [decide_eq_true (by omega : 48 ≤ (Own.numsOf s)[i]), decide_eq_true (by omega : (Own.numsOf s)[i] ≤ 57), Bool.true_and, Bool.true_and]
        exact ih
theorem word_ev (s : ByteArray) (hm : s.size ≤ 140737488355328) : Ev (fun k => laws_isWord.f k s) (Own.nameI (Own.numsOf s)) := by
  unfold laws_isWord.f
  by_cases h0 : s.size = 0
  · have e : Own.numsOf s = [] := List.eq_nil_of_length_eq_zero (by rw [nums_size]; exact h0)
    rw [e]
    refine Ev.step (fun _ => laws_isWord.l0.eq_2 ..) (EvNeg (by omega) (EvNow ?_))
    rw [no_text s h0]
    rfl
  · have hlt : 0 < (Own.numsOf s).length := by rw [nums_size]; omega
    have hc := (nums_bytes s).at_ hlt
    have hb : bt s 0 = (Own.numsOf s)[0] := by rw [← g_in hlt]; exact bt_g s (i := 0) (by omega)
    have en : Own.nameI (Own.numsOf s) = (Own.isS (Own.numsOf s)[0].toNat && ((Own.numsOf s).drop 1).all fun c => Own.isI c.toNat) := by
      match Own.numsOf s, hlt with
      | c :: t, _ => rfl
    have ih := word_loop s hm (by omega) (s.size - 1) 1 (by omega) (by omega)
    refine Ev.step (fun _ => laws_isWord.l0.eq_2 ..) (EvPos (by omega) (EvPos (by omega) (EvPos (by omega) ?_)))
    rw [hb, en, show wrap64 (0 + 1) = 1 by unfold wrap64; omega]
    refine EvGet (letter_eq hc.1 hc.2) (EvIte (fun h => ?_) (fun h => EvPos rfl ?_))
    · rw [h, Bool.true_and]
      exact ih
    · rw [show Own.isS (Own.numsOf s)[0].toNat = false by simpa using h, Bool.false_and]
      exact Ev.now _
theorem FnName : laws_FnName.Pure := by
  intro s hs
  refine Ev.rounds ?_
  unfold laws_FnName.f
  refine EvIte (fun _ => Ev.now _) (fun h => ?_)
  obtain ⟨b, hb, hsz⟩ := script_ev s (by omega)
  refine Ev.bind hb (EvIte (fun _ => ?_) (fun _ => Ev.now _))
  obtain ⟨b2, hb2⟩ := basic_loop s (by omega) s.size 0 (by omega)
  have hb3 : Ev (fun k => laws_basic.f k s) b2 := by unfold laws_basic.f; exact hb2
  refine Ev.bind hb3 (EvIte (fun _ => ?_) (fun _ => Ev.now _))
  have hn : impl_IsName.f s = some (Own.nameI (Own.numsOf s)) := by
    unfold impl_IsName.f
    rw [if_pos (by omega)]
    have : Own.tdjs_AsIdentifierName.f (Own.numsOf s) = some (Own.nameI (Own.numsOf s)) := by
      unfold Own.tdjs_AsIdentifierName.f
      rw [if_pos ⟨by rw [nums_size]; omega, byN_all (nums_bytes s)⟩]
    rw [this]
    rfl
  refine EvGet hn (Ev.bind (word_ev s (by omega)) (EvNow (by simp)))

end Go.Proofs.YtpbgmgkpololfaaDoor.Pure
