/- FnUrlEncode, its pure statement: a byte that a table tells is escaped with two large hexadecimal digits, others stay; blanks aside. For all byte lists. -/
import Derived.Test.YtcghdanppdmfeaaDoorAid
import Derived.Test.YtcghdanppdmfeaaDoorPFnUrlEncodex0
import Derived.Test.YtcghdanppdmfeaaDoorPFnUrlEncodex1
import Derived.Test.YtcghdanppdmfeaaDoorPFnUrlEncodex2
namespace Go.Proofs.YtcghdanppdmfeaaDoor.Pure
open Go.RowKit Go.Proofs.YtcghdanppdmfeaaDoor.PFnUrlEncode Go.Proofs.YtcghdanppdmfeaaDoorW.PrintWords Go.Proofs.YtcghdanppdmfeaaDoorW.PrintLast Go.Proofs.YtcghdanppdmfeaaDoor.Aid
set_option linter.unusedVariables false
set_option linter.unusedSimpArgs false

theorem few_loop (ls : List (List Int)) (hl : ls.length ≤ 1000) : ∀ (n i : Nat), i + n = ls.length →
    Ev (fun k => laws_fewBytes.l0 k ls (ls.length : Int) (i : Int)) ((ls.drop i).all fun l => decide (l.length ≤ 300))
  | 0, i, hi => by
    refine Ev.step (fun _ => laws_fewBytes.l0.eq_2 ..) (EvNeg (by omega) ?_)
    rw [List.drop_of_length_le (by omega)]
    exact Ev.now _
  | n + 1, i, hi => by
    have hlt : i < ls.length := by omega
    have e : rd_L1 ls (i : Int) = ls[i] := by unfold rd_L1; simp [List.getD_eq_getElem?_getD, List.getElem?_eq_getElem hlt]
    refine Ev.step (fun _ => laws_fewBytes.l0.eq_2 ..) (EvPos (by omega) (EvPos (by omega) (EvPos (by omega) ?_)))
    rw [e, wn hlt (by omega), drop_cons hlt, List.all_cons]
    refine EvIte (fun h => ?_) (fun h => ?_)
    · rw [decide_eq_false (by omega), Bool.false_and]
      exact Ev.now _
    · rw [decide_eq_true (by omega), Bool.true_and]
      exact few_loop ls hl n (i + 1) (by omega)
theorem few_ev (ls : List (List Int)) (hl : ls.length ≤ 1000) : Ev (fun k => laws_fewBytes.f k ls) (ls.all fun l => decide (l.length ≤ 300)) := by
  have := few_loop ls hl ls.length 0 (by omega)
  unfold laws_fewBytes.f
  simpa using this

theorem same_loop (a b : List Int) (hl : a.length = b.length) (hm : a.length ≤ 140737488355328) : ∀ (n i : Nat), i + n = a.length →
    Ev (fun k => spec_SameBytes.l0 k b a (a.length : Int) (i : Int)) (decide (a.drop i = b.drop i))
  | 0, i, hi => by
    refine Ev.step (fun _ => spec_SameBytes.l0.eq_2 ..) (EvNeg (by omega) ?_)
    rw [List.drop_of_length_le (by omega), List.drop_of_length_le (by omega), decide_eq_true rfl]
    exact Ev.now _
  | n + 1, i, hi => by
    have hlt : i < a.length := by omega
    have hlt' : i < b.length := by omega
    refine Ev.step (fun _ => spec_SameBytes.l0.eq_2 ..) (EvPos (by omega) (EvPos (by omega) (EvPos (by omega) (EvPos (by omega) ?_))))
    rw [rd_at hlt, rd_at hlt', wn hlt (by omega), drop_cons hlt, drop_cons hlt']
    refine EvIte (fun h => ?_) (fun h => ?_)
    · refine EvEq (same_loop a b hl hm n (i + 1) (by omega)) ?_
      rw [Bool.eq_iff_iff, h]
      simp only [decide_eq_true_eq, List.cons.injEq, true_and]
    · refine EvNow ?_
      symm
      apply decide_eq_false
      intro e
      injection e with e1 e2
      exact h e1
theorem same_ev (a b : List Int) (hm : a.length ≤ 140737488355328) : Ev (fun k => spec_SameBytes.f k a b) (decide (a = b)) := by
  unfold spec_SameBytes.f
  refine EvIte (fun h => ?_) (fun h => ?_)
  · have := same_loop a b (by omega) hm a.length 0 (by omega)
    simpa using this
  · refine EvNow ?_
    symm
    apply decide_eq_false
    intro e
    subst e
    exact h rfl

theorem byteplace_loop (l : List Int) (c : Int) (hm : l.length < 140737488355328) : ∀ (n i : Nat), i + n = l.length →
    ∃ r, Ev (fun k => spec_BytePlace.l0 k c l (l.length : Int) (i : Int)) r ∧ (r ≥ 0 ↔ c ∈ l.drop i)
  | 0, i, hi => by
    refine ⟨-1, Ev.step (fun _ => spec_BytePlace.l0.eq_2 ..) (EvNeg (by omega) (Ev.now _)), ?_⟩
    rw [List.drop_of_length_le (by omega)]
    simp
  | n + 1, i, hi => by
    have hlt : i < l.length := by omega
    obtain ⟨r, hr, hiff⟩ := byteplace_loop l c hm n (i + 1) (by omega)
    rw [drop_cons hlt]
    by_cases h : l[i] = c
    · refine ⟨i, Ev.step (fun _ => spec_BytePlace.l0.eq_2 ..) (EvPos (by omega) (EvPos (by omega) (EvPos (by omega) ?_))), ?_⟩
      · rw [rd_at hlt]
        exact EvPos h (Ev.now _)
      · constructor
        · intro _; rw [h]; exact List.mem_cons_self
        · intro _; omega
    · refine ⟨r, Ev.step (fun _ => spec_BytePlace.l0.eq_2 ..) (EvPos (by omega) (EvPos (by omega) (EvPos (by omega) ?_))), ?_⟩
      · rw [rd_at hlt, wn hlt (by omega)]
        exact EvNeg h hr
      · rw [hiff, List.mem_cons]
        constructor
        · intro hx; exact .inr hx
        · rintro (hx | hx)
          · exact absurd hx.symm h
          · exact hx
theorem byteplace_ev (l : List Int) (c : Int) (hm : l.length < 140737488355328) : ∃ r, Ev (fun k => spec_BytePlace.f k l c) r ∧ (r ≥ 0 ↔ c ∈ l) := by
  have := byteplace_loop l c hm l.length 0 (by omega)
  unfold spec_BytePlace.f
  simpa using this

theorem join_loop (ls : List (List Int)) (hl : ls.length ≤ 1000) : ∀ (n i : Nat) (acc : List Int), i + n = ls.length → acc.length + (ls.drop i).flatten.length < 140737488355328 →
    Ev (fun k => spec_Join.l0 k acc ls (ls.length : Int) (i : Int)) (acc ++ (ls.drop i).flatten)
  | 0, i, acc, hi, hs => by
    refine Ev.step (fun _ => spec_Join.l0.eq_2 ..) (EvNeg (by omega) ?_)
    rw [List.drop_of_length_le (by omega)]
    simp only [List.flatten_nil, List.append_nil]
    exact Ev.now _
  | n + 1, i, acc, hi, hs => by
    have hlt : i < ls.length := by omega
    have e : rd_L1 ls (i : Int) = ls[i] := by unfold rd_L1; simp [List.getD_eq_getElem?_getD, List.getElem?_eq_getElem hlt]
    rw [drop_cons hlt, List.flatten_cons, List.length_append] at hs
    refine Ev.step (fun _ => spec_Join.l0.eq_2 ..) (EvPos (by omega) (EvPos (by omega) (EvPos (by omega) ?_)))
    rw [e, wn hlt (by omega), drop_cons hlt, List.flatten_cons, ← List.append_assoc]
    refine EvPos (by omega) ?_
    exact join_loop ls hl n (i + 1) (acc ++ ls[i]) (by omega) (by rw [List.length_append]; omega)
theorem join_ev (ls : List (List Int)) (hl : ls.length ≤ 1000) (hs : ls.flatten.length < 140737488355328) : Ev (fun k => spec_Join.f k ls) ls.flatten := by
  have := join_loop ls hl ls.length 0 [] (by omega) (by simpa using hs)
  unfold spec_Join.f
  simpa using this

abbrev bigH : ByteArray := ⟨#[48, 49, 50, 51, 52, 53, 54, 55, 56, 57, 65, 66, 67, 68, 69, 70]⟩
abbrev smallH : ByteArray := ⟨#[48, 49, 50, 51, 52, 53, 54, 55, 56, 57, 97, 98, 99, 100, 101, 102]⟩
def pctI (c : Int) (small : Bool) : List Int := [37, bt (if small = true then smallH else bigH) (c / 16), bt (if small = true then smallH else bigH) (c % 16)]

theorem percent_eq {c : Int} (small : Bool) (h0 : 0 ≤ c) (h1 : c ≤ 255) : spec_Percent.f c small = some (pctI c small) := by
  unfold spec_Percent.f pctI
  rw [u8_and15 c h0 (by omega)]
  cases small
  · rw [if_neg (by decide), if_pos (by omega), if_pos (by omega), if_pos (by omega), if_pos (by omega)]
    rfl
  · rw [if_pos rfl, if_pos (by omega), if_pos (by omega), if_pos (by omega), if_pos (by omega)]
    rfl

def tbU (t : Int) : Nat → Bool := if t = 1 then Own.isD else Own.isU
theorem enc_len3 (f : Nat → Bool) : ∀ l, (Own.encI f l).length ≤ 3 * l.length
  | [] => Nat.le_refl _
  | c :: t => by
    have := enc_len3 f t
    unfold Own.encI
    split <;> simp <;> omega
theorem byE_all {l : List Int} (h : Bytes l) : l.all Own.byE = true := by
  rw [List.all_eq_true]
  intro x hx
  have := h x hx
  unfold Own.byE
  rw [decide_eq_true this.1, decide_eq_true (by omega : x < 256)]
  rfl
theorem encode_f {l : List Int} (t : Int) (h : Bytes l) (hl : l.length < 40000000000000) : Own.impl_EncodeURL.f l t = some (Own.encI (tbU t) l) := by
  have := enc_len3 (tbU t) l
  unfold Own.impl_EncodeURL.f
  exact if_pos ⟨by omega, byE_all h, by unfold tbU at this; omega⟩
theorem escaped_eq {c : Int} (t : Int) (h0 : 0 ≤ c) (h1 : c ≤ 255) : Own.impl_Escaped.f c t = some (tbU t c.toNat) := by
  unfold Own.impl_Escaped.f tbU
  rw [if_pos ⟨h0, by omega⟩]
  split <;> rfl

theorem pct_step (f : Nat → Bool) (c : Int) (t : List Int) : Own.encI f (c :: t) = (if f c.toNat = true then pctI c false else [c]) ++ Own.encI f t := by
  by_cases h : f c.toNat = true
  · rw [Own.enc_yes h, if_pos h]
    rfl
  · rw [Own.enc_no (by simpa using h), if_neg h]
    rfl
theorem due_loop (l : List Int) (t : Int) (hb : Bytes l) (hm : l.length ≤ 2147483647) : ∀ (n i : Nat) (acc : List Int), i + n = l.length → acc ++ Own.encI (tbU t) (l.drop i) = Own.encI (tbU t) l →
    Ev (fun k => laws_FnUrlEncode.l0 k l t acc l (l.length : Int) (i : Int)) true
  | 0, i, acc, hi, ha => by
    have hl := enc_len3 (tbU t) l
    rw [List.drop_of_length_le (by omega), Own.encI, List.append_nil] at ha
    subst ha
    refine Ev.step (fun _ => laws_FnUrlEncode.l0.eq_2 ..) (EvNeg (by omega) ?_)
    exact EvGet (encode_f t hb (by omega)) (Ev.bind (same_ev _ _ (by omega)) (EvNow (by simp)))
  | n + 1, i, acc, hi, ha => by
    have hlt : i < l.length := by omega
    have hc := hb.at_ hlt
    have hl := enc_len3 (tbU t) l
    have hal : acc.length ≤ (Own.encI (tbU t) l).length := by rw [← ha, List.length_append]; omega
    rw [drop_cons hlt, pct_step, ← List.append_assoc] at ha
    refine Ev.step (fun _ => laws_FnUrlEncode.l0.eq_2 ..) (EvPos (by omega) (EvPos (by omega) (EvPos (by omega) ?_)))
    rw [rd_at hlt, wn hlt (by omega)]
    refine EvGet (escaped_eq t hc.1 hc.2) (EvIte (fun h => ?_) (fun h => ?_))
    · rw [if_pos h] at ha
      refine EvGet (percent_eq false hc.1 hc.2) (Ev.bind (join_ev _ (by simp) (by simp [pctI]; omega)) ?_)
      have e : [acc, pctI l[i] false].flatten = acc ++ pctI l[i] false := by simp
      rw [e]
      exact due_loop l t hb hm n (i + 1) _ (by omega) ha
    · rw [if_neg h] at ha
      refine EvPos (by omega) ?_
      exact due_loop l t hb hm n (i + 1) _ (by omega) ha
theorem FnUrlEncode : laws_FnUrlEncode.Pure := by
  intro l t h1 h2 h3 h4
  have hb := bytes_of h3
  refine Ev.rounds ?_
  unfold laws_FnUrlEncode.f
  refine EvIte (fun _ => Ev.now _) (fun h => ?_)
  have j : ∀ q : Bool, Ev (fun k => laws_FnUrlEncode.j0 k l t q) true := by
    intro q
    refine Ev.step (fun _ => laws_FnUrlEncode.j0.eq_2 ..) (EvIte (fun _ => Ev.now _) (fun _ => ?_))
    have := due_loop l t hb (by omega) l.length 0 [] (by omega) (by simp)
    simpa using this
  refine Ev.bind (few_ev _ (by simp)) (EvIte (fun _ => ?_) (fun _ => j true))
  refine EvIte (fun _ => j true) (fun _ => EvIte (fun _ => j true) (fun _ => ?_))
  obtain ⟨p, hp, _⟩ := byteplace_ev l 32 (by omega)
  exact Ev.bind hp (j _)

end Go.Proofs.YtcghdanppdmfeaaDoor.Pure
