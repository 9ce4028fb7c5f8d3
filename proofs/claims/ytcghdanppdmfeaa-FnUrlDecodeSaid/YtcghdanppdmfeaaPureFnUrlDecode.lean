/- FnUrlDecode, its pure statement: an escape with two hexadecimal digits becomes its byte; what has neither a percent nor a plus sign stays. For all byte lists. -/
import Derived.Test.YtcghdanppdmfeaaAid
import Derived.Test.YtcghdanppdmfeaaPFnUrlDecodex0
import Derived.Test.YtcghdanppdmfeaaPFnUrlDecodex1
import Derived.Test.YtcghdanppdmfeaaPFnUrlDecodex2
namespace Go.Proofs.Ytcghdanppdmfeaa.Pure
open Go.RowKit Go.Proofs.Ytcghdanppdmfeaa.PFnUrlDecode Go.Proofs.YtcghdanppdmfeaaW.PrintWords Go.Proofs.YtcghdanppdmfeaaW.PrintLast Go.Proofs.Ytcghdanppdmfeaa.Aid
set_option linter.unusedVariables false
set_option linter.unusedSimpArgs false

theorem few_loop (ls : List (List Int)) (hl : ls.length ≤ 1000) : ∀ (n i : Nat), i + n = ls.length →
    Ev (fun k => laws_fewBytes.l0 k ls (ls.length : Int) (i : Int)) ((ls.drop i).all fun l => decide (l.length ≤ 300))
  | 0, i, hi => by
    refine Ev.step (fun _ => laws_fewBytes.l0.eq_2 ..) (EvNeg (by omega) ?_)
    rw [List.drop_of_length_le (by omega)]
    exact Ev.now _
  | n + 1, i, hi => by
    have hlt : i < ls.length := by omega
    have e : rd_L1 ls (i : Int) = ls[i] := by unfold rd_L1; simp [List.getD_eq_getElem?_getD, List.getElem?_eq_getElem hlt]
    refine Ev.step (fun _ => laws_fewBytes.l0.eq_2 ..) (EvPos (by omega) (EvPos (by omega) (EvPos (by omega) ?_)))
    rw [e, wn hlt (by omega), drop_cons hlt, List.all_cons]
    refine EvIte (fun h => ?_) (fun h => ?_)
    · rw [decide_eq_false (by omega), Bool.false_and]
      exact Ev.now _
    · rw [decide_eq_true (by omega), Bool.true_and]
      exact few_loop ls hl n (i + 1) (by omega)
theorem few_ev (ls : List (List Int)) (hl : ls.length ≤ 1000) : Ev (fun k => laws_fewBytes.f k ls) (ls.all fun l => decide (l.length ≤ 300)) := by
  have := few_loop ls hl ls.length 0 (by omega)
  unfold laws_fewBytes.f
  simpa using this

theorem same_loop (a b : List Int) (hl : a.length = b.length) (hm : a.length ≤ 140737488355328) : ∀ (n i : Nat), i + n = a.length →
    Ev (fun k => spec_SameBytes.l0 k b a (a.length : Int) (i : Int)) (decide (a.drop i = b.drop i))
  | 0, i, hi => by
    refine Ev.step (fun _ => spec_SameBytes.l0.eq_2 ..) (EvNeg (by omega) ?_)
    rw [List.drop_of_length_le (by omega), List.drop_of_length_le (by omega), decide_eq_true rfl]
    exact Ev.now _
  | n + 1, i, hi => by
    have hlt : i < a.length := by omega
    have hlt' : i < b.length := by omega
    refine Ev.step (fun _ => spec_SameBytes.l0.eq_2 ..) (EvPos (by omega) (EvPos (by omega) (EvPos (by omega) (EvPos (by omega) ?_))))
    rw [rd_at hlt, rd_at hlt', wn hlt (by omega), drop_cons hlt, drop_cons hlt']
    refine EvIte (fun h => ?_) (fun h => ?_)
    · refine EvEq (same_loop a b hl hm n (i + 1) (by omega)) ?_
      rw [Bool.eq_iff_iff, h]
      simp only [decide_eq_true_eq, List.cons.injEq, true_and]
    · refine EvNow ?_
      symm
      apply decide_eq_false
      intro e
      injection e with e1 e2
      exact h e1
theorem same_ev (a b : List Int) (hm : a.length ≤ 140737488355328) : Ev (fun k => spec_SameBytes.f k a b) (decide (a = b)) := by
  unfold spec_SameBytes.f
  refine EvIte (fun h => ?_) (fun h => ?_)
  · have := same_loop a b (by omega) hm a.length 0 (by omega)
    simpa using this
  · refine EvNow ?_
    symm
    apply decide_eq_false
    intro e
    subst e
    exact h rfl

theorem join_loop (ls : List (List Int)) (hl : ls.length ≤ 1000) : ∀ (n i : Nat) (acc : List Int), i + n = ls.length → acc.length + (ls.drop i).flatten.length < 140737488355328 →
    Ev (fun k => spec_Join.l0 k acc ls (ls.length : Int) (i : Int)) (acc ++ (ls.drop i).flatten)
  | 0, i, acc, hi, hs => by
    refine Ev.step (fun _ => spec_Join.l0.eq_2 ..) (EvNeg (by omega) ?_)
    rw [List.drop_of_length_le (by omega)]
    simp only [List.flatten_nil, List.append_nil]
    exact Ev.now _
  | n + 1, i, acc, hi, hs => by
    have hlt : i < ls.length := by omega
    have e : rd_L1 ls (i : Int) = ls[i] := by unfold rd_L1; simp [List.getD_eq_getElem?_getD, List.getElem?_eq_getElem hlt]
    rw [drop_cons hlt, List.flatten_cons, List.length_append] at hs
    refine Ev.step (fun _ => spec_Join.l0.eq_2 ..) (EvPos (by omega) (EvPos (by omega) (EvPos (by omega) ?_)))
    rw [e, wn hlt (by omega), drop_cons hlt, List.flatten_cons, ← List.append_assoc]
    refine EvPos (by omega) ?_
    exact join_loop ls hl n (i + 1) (acc ++ ls[i]) (by omega) (by rw [List.length_append]; omega)
theorem join_ev (ls : List (List Int)) (hl : ls.length ≤ 1000) (hs : ls.flatten.length < 140737488355328) : Ev (fun k => spec_Join.f k ls) ls.flatten := by
  have := join_loop ls hl ls.length 0 [] (by omega) (by simpa using hs)
  unfold spec_Join.f
  simpa using this

abbrev bigH : ByteArray := ⟨#[48, 49, 50, 51, 52, 53, 54, 55, 56, 57, 65, 66, 67, 68, 69, 70]⟩
abbrev smallH : ByteArray := ⟨#[48, 49, 50, 51, 52, 53, 54, 55, 56, 57, 97, 98, 99, 100, 101, 102]⟩
def pctI (c : Int) (small : Bool) : List Int := [37, bt (if small = true then smallH else bigH) (c / 16), bt (if small = true then smallH else bigH) (c % 16)]
theorem percent_eq {c : Int} (small : Bool) (h0 : 0 ≤ c) (h1 : c ≤ 255) : spec_Percent.f c small = some (pctI c small) := by
  unfold spec_Percent.f pctI
  rw [u8_and15 c h0 (by omega)]
  cases small
  · rw [if_neg (by decide), if_pos (by omega), if_pos (by omega), if_pos (by omega), if_pos (by omega)]
    rfl
  · rw [if_pos rfl, if_pos (by omega), if_pos (by omega), if_pos (by omega), if_pos (by omega)]
    rfl

theorem hex_nat : ∀ n : Nat, n < 16 → ∀ small : Bool, Own.hexD (bt (if small = true then smallH else bigH) (n : Int)) = true ∧ Own.hexV (bt (if small = true then smallH else bigH) (n : Int)) = n := by decide
theorem hex_of {d : Int} (small : Bool) (h0 : 0 ≤ d) (h1 : d < 16) : Own.hexD (bt (if small = true then smallH else bigH) d) = true ∧ Own.hexV (bt (if small = true then smallH else bigH) d) = d := by
  obtain ⟨n, rfl⟩ := Int.eq_ofNat_of_zero_le h0
  exact hex_nat n (by omega) small
def Plain (l : List Int) : Prop := ∀ x ∈ l, x ≠ 37 ∧ x ≠ 43
theorem dec_plain : ∀ (l t : List Int), Plain l → Own.decI (l ++ t) = l ++ Own.decI t
  | [], t, _ => rfl
  | c :: l, t, h => by
    have hc := h c (List.mem_cons_self ..)
    rw [List.cons_append, Own.dec_other hc.1, if_neg hc.2, dec_plain l t (fun x hx => h x (List.mem_cons_of_mem _ hx))]
    rfl
theorem dec_nil : Own.decI [] = [] := by rw [Own.decI]
theorem dec_pct {c : Int} (small : Bool) (t : List Int) (h0 : 0 ≤ c) (h1 : c ≤ 255) : Own.decI (pctI c small ++ t) = c :: Own.decI t := by
  unfold pctI
  have ha := hex_of (d := c / 16) small (by omega) (by omega)
  have hb := hex_of (d := c % 16) small (by omega) (by omega)
  rw [List.cons_append, List.cons_append, List.cons_append, List.nil_append, Own.dec_yes ha.1 hb.1, ha.2, hb.2]
  congr 1
  omega
theorem bt_byte : ∀ n : Nat, n < 16 → ∀ small : Bool, 0 ≤ bt (if small = true then smallH else bigH) (n : Int) ∧ bt (if small = true then smallH else bigH) (n : Int) ≤ 255 := by decide
theorem pct_bytes {c : Int} (small : Bool) (h0 : 0 ≤ c) (h1 : c ≤ 255) : Bytes (pctI c small) := by
  have hb : ∀ d : Int, 0 ≤ d → d < 16 → 0 ≤ bt (if small = true then smallH else bigH) d ∧ bt (if small = true then smallH else bigH) d ≤ 255 := by
    intro d h0 h1
    obtain ⟨n, rfl⟩ := Int.eq_ofNat_of_zero_le h0
    exact bt_byte n (by omega) small
  intro x hx
  unfold pctI at hx
  simp only [List.mem_cons, List.not_mem_nil, or_false] at hx
  rcases hx with rfl | rfl | rfl
  · omega
  · exact hb _ (by omega) (by omega)
  · exact hb _ (by omega) (by omega)
theorem byD_all {l : List Int} (h : Bytes l) : l.all Own.byD = true := by
  rw [List.all_eq_true]
  intro x hx
  have := h x hx
  unfold Own.byD
  rw [decide_eq_true this.1, decide_eq_true (by omega : x < 256)]
  rfl
theorem decode_f {l : List Int} (h : Bytes l) (hl : l.length < 140737488355328) : Own.impl_DecodeURL.f l = some (Own.decI l) := by
  unfold Own.impl_DecodeURL.f
  rw [if_pos ⟨hl, byD_all h⟩]

theorem scan (x0 : List Int) (c : Int) (s : Bool) (x3 l : List Int) (hm : l.length < 140737488355328)
    (rest : Plain l → Ev (fun k => laws_FnUrlDecode.l0 k x0 c s x3 l (l.length : Int) ((l.length : Nat) : Int)) true) : ∀ (n i : Nat), i + n = l.length → Plain (l.take i) →
    Ev (fun k => laws_FnUrlDecode.l0 k x0 c s x3 l (l.length : Int) (i : Int)) true
  | 0, i, hi, hp => by
    have e : i = l.length := by omega
    subst e
    rw [List.take_length] at hp
    exact rest hp
  | n + 1, i, hi, hp => by
    have hlt : i < l.length := by omega
    refine Ev.step (fun _ => laws_FnUrlDecode.l0.eq_2 ..) (EvPos (by omega) (EvPos (by omega) (EvPos (by omega) ?_)))
    rw [rd_at hlt, wn hlt (by omega)]
    refine EvIte (fun _ => Ev.now _) (fun h1 => EvIte (fun _ => Ev.now _) (fun h2 => ?_))
    refine scan x0 c s x3 l hm rest n (i + 1) (by omega) ?_
    intro x hx
    rw [List.take_succ_eq_append_getElem hlt, List.mem_append, List.mem_singleton] at hx
    rcases hx with hx | rfl
    · exact hp x hx
    · exact ⟨h1, h2⟩
theorem FnUrlDecode : laws_FnUrlDecode.Pure := by
  intro a c small b ha1 ha2 ha hc hb1 hb2 hb
  have hA := bytes_of ha
  have hB := bytes_of hb
  obtain ⟨c0, c1⟩ := u8_of hc
  refine Ev.rounds ?_
  unfold laws_FnUrlDecode.f
  have start : ∀ q : Bool, (q = false → b.length ≤ 2147483647 ∧ a.length ≤ 2147483647) → Ev (fun k => laws_FnUrlDecode.j0 k a c small b q) true := by
    intro q hq
    refine Ev.step (fun _ => laws_FnUrlDecode.j0.eq_2 ..) (EvIte (fun _ => Ev.now _) (fun h => ?_))
    obtain ⟨hb3, ha3⟩ := hq (by simpa using h)
    refine Ev.bind (join_ev _ (by simp) (by simp; omega)) ?_
    have e : [a, b].flatten = a ++ b := by simp
    rw [e]
    refine scan a c small b (a ++ b) (by simp; omega) (fun hp => ?_) (a ++ b).length 0 (by omega) (by intro x hx; simp at hx)
    have hpa : Plain a := fun x hx => hp x (List.mem_append_left _ hx)
    have hpb : Plain b := fun x hx => hp x (List.mem_append_right _ hx)
    refine Ev.step (fun _ => laws_FnUrlDecode.l0.eq_2 ..) (EvNeg (by omega) ?_)
    refine Ev.bind (few_ev _ (by simp)) (EvIte (fun _ => ?_) (fun _ => Ev.now _))
    refine EvGet (percent_eq small c0 c1) (Ev.bind (join_ev _ (by simp) (by simp [pctI]; omega)) ?_)
    have e1 : [a, pctI c small, b].flatten = a ++ (pctI c small ++ b) := by simp
    have e2 : [a, [c], b].flatten = a ++ (c :: b) := by simp
    have hd : Own.decI (a ++ (pctI c small ++ b)) = a ++ (c :: b) := by
      rw [dec_plain a _ hpa, dec_pct small b c0 c1]
      have := dec_plain b [] hpb
      rw [dec_nil, List.append_nil] at this
      rw [this]
    rw [e1]
    refine EvGet (decode_f (hA.app ((pct_bytes small c0 c1).app hB)) (by simp [pctI]; omega)) (Ev.bind (join_ev _ (by simp) (by simp; omega)) ?_)
    rw [e2, hd]
    refine Ev.bind (same_ev _ _ (by simp; omega)) (EvNow (by simp))
  refine EvIte (fun _ => start true (by simp)) (fun h => start _ (fun hq => ?_))
  have := of_decide_eq_false hq
  omega

end Go.Proofs.Ytcghdanppdmfeaa.Pure
