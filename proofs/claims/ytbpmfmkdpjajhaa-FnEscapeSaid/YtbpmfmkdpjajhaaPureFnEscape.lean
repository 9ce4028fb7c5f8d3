/- FnEscape, its pure statement: each character of a list, the escape among them, has the escape ahead of it, behind other bytes. For all byte lists. -/
import Derived.Test.YtbpmfmkdpjajhaaAid
import Derived.Test.YtbpmfmkdpjajhaaPFnEscapex3
import Derived.Test.YtbpmfmkdpjajhaaPFnEscapex3
import Derived.Test.YtbpmfmkdpjajhaaPFnEscapex3
import Derived.Test.YtbpmfmkdpjajhaaPFnEscapex3
namespace Go.Proofs.Ytbpmfmkdpjajhaa.Pure
open Go.RowKit Go.Proofs.Ytbpmfmkdpjajhaa.PFnEscape Go.Proofs.YtbpmfmkdpjajhaaW.PrintWords Go.Proofs.YtbpmfmkdpjajhaaW.PrintLast Go.Proofs.Ytbpmfmkdpjajhaa.Aid
set_option linter.unusedVariables false
set_option linter.unusedSimpArgs false

theorem own_eq (l : List Int) (h : l.length < 140737488355328) : impl_own.f l = some l := by
  unfold impl_own.f
  simp only [Option.bind_some, List.nil_append, List.length_nil, Nat.zero_add]
  rw [if_pos h]

theorem few_loop (ls : List (List Int)) (hl : ls.length ≤ 1000) : ∀ (n i : Nat), i + n = ls.length →
    Ev (fun k => laws_fewBytes.l0 k ls (ls.length : Int) (i : Int)) ((ls.drop i).all fun l => decide (l.length ≤ 300))
  | 0, i, hi => by
    refine Ev.step (fun _ => laws_fewBytes.l0.eq_2 _ _ _ _) (EvNeg (by omega) ?_)
    rw [List.drop_of_length_le (by omega)]
    exact Ev.now _
  | n + 1, i, hi => by
    have hlt : i < ls.length := by omega
    have e : rd_L1 ls (i : Int) = ls[i] := by unfold rd_L1; simp [List.getD_eq_getElem?_getD, List.getElem?_eq_getElem hlt]
    refine Ev.step (fun _ => laws_fewBytes.l0.eq_2 _ _ _ _) (EvPos (by omega) (EvPos (by omega) (EvPos (by omega) ?_)))
    rw [e, wn hlt (by omega), drop_cons hlt, List.all_cons]
    refine EvIte (fun h => ?_) (fun h => ?_)
    · rw [decide_eq_false (by omega), Bool.false_and]
      exact Ev.now _
    · rw [decide_eq_true (by omega), Bool.true_and]
      exact few_loop ls hl n (i + 1) (by omega)
theorem few_ev (ls : List (List Int)) (hl : ls.length ≤ 1000) : Ev (fun k => laws_fewBytes.f k ls) (ls.all fun l => decide (l.length ≤ 300)) := by
  have := few_loop ls hl ls.length 0 (by omega)
  unfold laws_fewBytes.f
  simpa using this

theorem join_loop (ls : List (List Int)) (hl : ls.length ≤ 1000) : ∀ (n i : Nat) (acc : List Int), i + n = ls.length → acc.length + (ls.drop i).flatten.length < 140737488355328 →
    Ev (fun k => spec_Join.l0 k acc ls (ls.length : Int) (i : Int)) (acc ++ (ls.drop i).flatten)
  | 0, i, acc, hi, hs => by
    refine Ev.step (fun _ => spec_Join.l0.eq_2 _ _ _ _ _) (EvNeg (by omega) ?_)
    rw [List.drop_of_length_le (by omega)]
    simp only [List.flatten_nil, List.append_nil]
    exact Ev.now _
  | n + 1, i, acc, hi, hs => by
    have hlt : i < ls.length := by omega
    have e : rd_L1 ls (i : Int) = ls[i] := by unfold rd_L1; simp [List.getD_eq_getElem?_getD, List.getElem?_eq_getElem hlt]
    rw [drop_cons hlt, List.flatten_cons, List.length_append] at hs
    refine Ev.step (fun _ => spec_Join.l0.eq_2 _ _ _ _ _) (EvPos (by omega) (EvPos (by omega) (EvPos (by omega) ?_)))
    rw [e, wn hlt (by omega), drop_cons hlt, List.flatten_cons, ← List.append_assoc]
    refine EvPos (by omega) ?_
    exact join_loop ls hl n (i + 1) (acc ++ ls[i]) (by omega) (by rw [List.length_append]; omega)
theorem join_ev (ls : List (List Int)) (hl : ls.length ≤ 1000) (hs : ls.flatten.length < 140737488355328) : Ev (fun k => spec_Join.f k ls) ls.flatten := by
  have := join_loop ls hl ls.length 0 [] (by omega) (by simpa using hs)
  unfold spec_Join.f
  simpa using this

theorem same_loop (a b : List Int) (hl : a.length = b.length) (hm : a.length ≤ 140737488355328) : ∀ (n i : Nat), i + n = a.length →
    Ev (fun k => spec_SameBytes.l0 k b a (a.length : Int) (i : Int)) (decide (a.drop i = b.drop i))
  | 0, i, hi => by
    refine Ev.step (fun _ => spec_SameBytes.l0.eq_2 _ _ _ _ _) (EvNeg (by omega) ?_)
    rw [List.drop_of_length_le (by omega), List.drop_of_length_le (by omega), decide_eq_true rfl]
    exact Ev.now _
  | n + 1, i, hi => by
    have hlt : i < a.length := by omega
    have hlt' : i < b.length := by omega
    refine Ev.step (fun _ => spec_SameBytes.l0.eq_2 _ _ _ _ _) (EvPos (by omega) (EvPos (by omega) (EvPos (by omega) (EvPos (by omega) ?_))))
    rw [rd_at hlt, rd_at hlt', wn hlt (by omega), drop_cons hlt, drop_cons hlt']
    refine EvIte (fun h => ?_) (fun h => ?_)
    · refine EvEq (same_loop a b hl hm n (i + 1) (by omega)) ?_
      rw [Bool.eq_iff_iff, h]
      simp only [decide_eq_true_eq, List.cons.injEq, true_and]
    · refine EvNow ?_
      symm
      apply decide_eq_false
      intro e
      injection e with e1 e2
      exact h e1
theorem same_ev (a b : List Int) (hm : a.length ≤ 140737488355328) : Ev (fun k => spec_SameBytes.f k a b) (decide (a = b)) := by
  unfold spec_SameBytes.f
  refine EvIte (fun h => ?_) (fun h => ?_)
  · have := same_loop a b (by omega) hm a.length 0 (by omega)
    simpa using this
  · refine EvNow ?_
    symm
    apply decide_eq_false
    intro e
    subst e
    exact h rfl

theorem byteplace_loop (l : List Int) (c : Int) (hm : l.length < 140737488355328) : ∀ (n i : Nat), i + n = l.length →
    ∃ r, Ev (fun k => spec_BytePlace.l0 k c l (l.length : Int) (i : Int)) r ∧ (r ≥ 0 ↔ c ∈ l.drop i)
  | 0, i, hi => by
    refine ⟨-1, Ev.step (fun _ => spec_BytePlace.l0.eq_2 _ _ _ _ _) (EvNeg (by omega) (Ev.now _)), ?_⟩
    rw [List.drop_of_length_le (by omega)]
    simp
  | n + 1, i, hi => by
    have hlt : i < l.length := by omega
    obtain ⟨r, hr, hiff⟩ := byteplace_loop l c hm n (i + 1) (by omega)
    rw [drop_cons hlt]
    by_cases h : l[i] = c
    · refine ⟨i, Ev.step (fun _ => spec_BytePlace.l0.eq_2 _ _ _ _ _) (EvPos (by omega) (EvPos (by omega) (EvPos (by omega) ?_))), ?_⟩
      · rw [rd_at hlt]
        exact EvPos h (Ev.now _)
      · constructor
        · intro _; rw [h]; exact List.mem_cons_self
        · intro _; omega
    · refine ⟨r, Ev.step (fun _ => spec_BytePlace.l0.eq_2 _ _ _ _ _) (EvPos (by omega) (EvPos (by omega) (EvPos (by omega) ?_))), ?_⟩
      · rw [rd_at hlt, wn hlt (by omega)]
        exact EvNeg h hr
      · rw [hiff, List.mem_cons]
        constructor
        · intro hx; exact .inr hx
        · rintro (hx | hx)
          · exact absurd hx.symm h
          · exact hx
theorem byteplace_ev (l : List Int) (c : Int) (hm : l.length < 140737488355328) : ∃ r, Ev (fun k => spec_BytePlace.f k l c) r ∧ (r ≥ 0 ↔ c ∈ l) := by
  have := byteplace_loop l c hm l.length 0 (by omega)
  unfold spec_BytePlace.f
  simpa using this

/-- A text with an escape ahead of each of some characters. -/
def esc (chars : List Int) (e : Int) : List Int → List Int
  | [] => []
  | c :: t => (if c ∈ chars then [e, c] else [c]) ++ esc chars e t
theorem esc_len (chars : List Int) (e : Int) : ∀ t, t.length ≤ (esc chars e t).length ∧ (esc chars e t).length ≤ 2 * t.length
  | [] => by simp [esc]
  | c :: t => by
    have := esc_len chars e t
    unfold esc
    split <;> simp <;> omega
theorem esc_cons_yes {chars : List Int} {e c : Int} (t : List Int) (h : c ∈ chars) : esc chars e (c :: t) = e :: c :: esc chars e t := by
  rw [esc, if_pos h]; rfl
theorem esc_cons_no {chars : List Int} {e c : Int} (t : List Int) (h : ¬ c ∈ chars) : esc chars e (c :: t) = c :: esc chars e t := by
  rw [esc, if_neg h]; rfl
theorem escape_loop (text chars : List Int) (e : Int) (hm : text.length ≤ 300) (hc : chars.length ≤ 1000) : ∀ (n i : Nat) (acc : List Int), i + n = text.length → acc.length ≤ 10000 + 2 * i →
    Ev (fun k => spec_Escape.l0 k chars e acc text (text.length : Int) (i : Int)) (acc ++ esc chars e (text.drop i))
  | 0, i, acc, hi, ha => by
    refine Ev.step (fun _ => spec_Escape.l0.eq_2 _ _ _ _ _ _ _) (EvNeg (by omega) ?_)
    rw [List.drop_of_length_le (by omega), esc, List.append_nil]
    exact Ev.now _
  | n + 1, i, acc, hi, ha => by
    have hlt : i < text.length := by omega
    obtain ⟨r, hr, hiff⟩ := byteplace_ev chars text[i] (by omega)
    refine Ev.step (fun _ => spec_Escape.l0.eq_2 _ _ _ _ _ _ _) (EvPos (by omega) (EvPos (by omega) (EvPos (by omega) ?_)))
    rw [rd_at hlt, wn hlt (by omega), drop_cons hlt]
    refine Ev.bind hr (EvIte (fun h => ?_) (fun h => ?_))
    · rw [esc_cons_yes _ (hiff.1 h)]
      refine EvPos (by omega) (EvSome (EvPos (by simp; omega) ?_))
      refine EvEq (escape_loop text chars e hm hc n (i + 1) _ (by omega) (by simp; omega)) (by simp)
    · rw [esc_cons_no _ (fun hx => h (hiff.2 hx))]
      refine EvPos (by omega) ?_
      refine EvEq (escape_loop text chars e hm hc n (i + 1) _ (by omega) (by simp; omega)) (by simp)
theorem spec_ev (b text chars : List Int) (e : Int) (hb : b.length ≤ 300) (hm : text.length ≤ 300) (hc : chars.length ≤ 1000) : Ev (fun k => spec_Escape.f k b text chars e) (b ++ esc chars e text) := by
  unfold spec_Escape.f
  refine Ev.bind (join_ev _ (by simp) (by simp; omega)) ?_
  simp only [List.flatten_cons, List.flatten_nil, List.append_nil]
  have := escape_loop text chars e hm hc text.length 0 b (by omega) (by omega)
  simpa using this
/-- What stands between the place behind the last escape, i, and j has no character of the list but at i. -/
theorem esc_gap (chars : List Int) (e : Int) : ∀ (p q : List Int), (∀ c ∈ p, ¬ c ∈ chars) → esc chars e (p ++ q) = p ++ esc chars e q
  | [], q, _ => rfl
  | c :: p, q, h => by
    rw [List.cons_append, esc_cons_no _ (h c (by simp)), esc_gap chars e p q (fun x hx => h x (List.mem_cons_of_mem _ hx))]
    rfl
section
variable (s chars : List Int) (e : Int) (hs : s.length ≤ 300) (hc : chars.length ≤ 1000) (he : e ∈ chars)
include hc
/-- The inner loop: is this character in the list? -/
theorem has_loop (acc : List Int) (i j : Nat) (hj : j < s.length) (R : List Int)
    (hyes : s[j] ∈ chars → Ev (fun k => tdparse_AppendEscape.j2 k acc s chars e (i : Int) (j : Int) true) R)
    (hno : ¬ s[j] ∈ chars → Ev (fun k => tdparse_AppendEscape.j2 k acc s chars e (i : Int) (j : Int) false) R) :
    ∀ (n m : Nat), m + n = chars.length → (¬ s[j] ∈ chars.take m) → Ev (fun k => tdparse_AppendEscape.l1 k acc s chars e (i : Int) (j : Int) false chars (chars.length : Int) (m : Int)) R
  | 0, m, hm, hq => by
    rw [List.take_of_length_le (by omega)] at hq
    exact Ev.step (fun _ => tdparse_AppendEscape.l1.eq_2 _ _ _ _ _ _ _ _ _ _ _) (EvNeg (by omega) (hno hq))
  | n + 1, m, hm, hq => by
    have hlt : m < chars.length := by omega
    refine Ev.step (fun _ => tdparse_AppendEscape.l1.eq_2 _ _ _ _ _ _ _ _ _ _ _) (EvPos (by omega) (EvPos (by omega) (EvPos (by omega) (EvPos (by omega) (EvPos (by omega) ?_)))))
    rw [rd_at hlt, rd_at hj, wn hlt (by omega)]
    refine EvIte (fun h => hyes ?_) (fun h => ?_)
    · rw [← h]; exact List.getElem_mem hlt
    · refine has_loop acc i j hj R hyes hno n (m + 1) (by omega) (fun hx => ?_)
      rw [List.take_succ_eq_append_getElem hlt] at hx
      rcases List.mem_append.1 hx with hx | hx
      · exact hq hx
      · exact h (List.mem_singleton.1 hx).symm
include hs he
theorem app_loop (b : List Int) (hb : b.length ≤ 300) : ∀ (n j i : Nat) (acc : List Int), j + n = s.length → i ≤ j → acc.length ≤ 300 + j + i →
    (∀ (q : Nat) (h : q < s.length), i < q → q < j → ¬ s[q] ∈ chars) → (i < j → ∃ h : i < s.length, True) →
    (acc ++ (s.take j).drop i ++ esc chars e (s.drop j) = b ++ esc chars e s) →
    Ev (fun k => tdparse_AppendEscape.l0 k acc s chars e (i : Int) (j : Int)) (b ++ esc chars e s)
  | 0, j, i, acc, hj, hij, ha, hgap, _, hinv => by
    rw [List.drop_of_length_le (l := s) (by omega), List.take_of_length_le (by omega), esc, List.append_nil] at hinv
    refine Ev.step (fun _ => tdparse_AppendEscape.l0.eq_2 _ _ _ _ _ _ _) (EvNeg (by omega) (EvIte (fun h => ?_) (fun h => ?_)))
    · rw [← hinv]
      refine EvPos (by omega) (EvPos (by omega) (EvSome (EvPos ?_ ?_)))
      · rw [List.length_drop, Int.toNat_natCast]; omega
      · rw [Int.toNat_natCast]; exact Ev.now _
    · rw [List.drop_of_length_le (by omega), List.append_nil] at hinv
      rw [← hinv]
      exact Ev.now _
  | n + 1, j, i, acc, hj, hij, ha, hgap, hii, hinv => by
    have hlt : j < s.length := by omega
    refine Ev.step (fun _ => tdparse_AppendEscape.l0.eq_2 _ _ _ _ _ _ _) (EvPos (by omega) ?_)
    have hj1 : wrap64 ((j : Int) + 1) = ((j + 1 : Nat) : Int) := wn hlt (by omega)
    have hcut : ((s.take j).drop i).length = j - i := by simp; omega
    refine has_loop s chars e hc acc i j hlt _ (fun hy => ?_) (fun hn => ?_) chars.length 0 (by omega) (by simp)
    · -- the escape ahead of it
      have hj3 : Ev (fun k => tdparse_AppendEscape.j3 k acc s chars e (i : Int) (j : Int) true) (b ++ esc chars e s) := by
        refine Ev.step (fun _ => tdparse_AppendEscape.j3.eq_2 _ _ _ _ _ _ _ _) (EvPos rfl ?_)
        rw [hj1]
        have key : (acc ++ (s.take j).drop i) ++ [e] ++ (s.take (j + 1)).drop j ++ esc chars e (s.drop (j + 1)) = b ++ esc chars e s := by
          rw [← hinv, drop_cons hlt, esc_cons_yes _ hy, List.take_succ_eq_append_getElem hlt, List.drop_append_of_le_length (by rw [List.length_take]; omega), List.drop_of_length_le (l := s.take j) (i := j) (by rw [List.length_take]; omega)]
          simp
        refine EvIte (fun h => ?_) (fun h => ?_)
        · refine EvPos (by omega) (EvPos (by omega) (EvPos (by omega) (EvSome ?_)))
          simp only [Int.toNat_natCast]
          refine EvPos (by omega) (EvSome (EvPos (by rw [List.length_append, hcut]; omega) ?_))
          exact app_loop b hb n (j + 1) j _ (by omega) (by omega) (by rw [List.length_append, List.length_append, hcut, List.length_singleton]; omega) (fun q hq h1 h2 => by omega) (fun _ => ⟨hlt, trivial⟩) key
        · have hij' : i = j := by omega
          subst hij'
          refine EvPos (by omega) ?_
          refine app_loop b hb n (i + 1) i _ (by omega) (by omega) (by simp; omega) (fun q hq h1 h2 => by omega) (fun _ => ⟨hlt, trivial⟩) ?_
          rw [← key, List.drop_of_length_le (l := s.take i) (by simp; omega), List.append_nil]
      exact Ev.step (fun _ => tdparse_AppendEscape.j2.eq_2 _ _ _ _ _ _ _ _) (EvPos rfl hj3)
    · -- it stays
      refine Ev.step (fun _ => tdparse_AppendEscape.j2.eq_2 _ _ _ _ _ _ _ _) (EvNeg (by simp) (EvPos (by omega) (EvPos (by omega) ?_)))
      rw [rd_at hlt]
      have hne : (s[j] == e) = false := by
        rw [beq_eq_false_iff_ne]
        intro h
        exact hn (h ▸ he)
      rw [hne]
      refine Ev.step (fun _ => tdparse_AppendEscape.j3.eq_2 _ _ _ _ _ _ _ _) (EvNeg (by simp) ?_)
      rw [hj1]
      refine app_loop b hb n (j + 1) i acc (by omega) (by omega) (by omega) (fun q hq h1 h2 => ?_) (fun _ => ⟨by omega, trivial⟩) ?_
      · by_cases hqj : q = j
        · subst hqj; exact hn
        · exact hgap q hq h1 (by omega)
      · rw [← hinv, drop_cons hlt, esc_cons_no _ hn, List.take_succ_eq_append_getElem hlt, List.drop_append_of_le_length (by simp; omega)]
        simp
end
theorem impl_ev (b s chars : List Int) (e : Int) (hb : b.length ≤ 300) (hs : s.length ≤ 300) (hc : chars.length ≤ 1000) (he : e ∈ chars) : Ev (fun k => impl_Escape.f k b s chars e) (b ++ esc chars e s) := by
  unfold impl_Escape.f
  refine EvGet (own_eq b (by omega)) (EvGet (own_eq s (by omega)) (EvGet (own_eq chars (by omega)) (Ev.bind ?_ (Ev.now _))))
  unfold tdparse_AppendEscape.f
  have := app_loop s chars e hs hc he b hb s.length 0 0 b (by omega) (by omega) (by omega) (fun q hq h1 h2 => by omega) (fun h => by omega) (by simp)
  simpa using this
theorem FnEscape : laws_FnEscape.Pure := by
  intro a b c e ha1 ha2 ha hb1 hb2 hb hc1 hc2 hc he
  refine Ev.rounds ?_
  unfold laws_FnEscape.f
  have start : ∀ q : Bool, Ev (fun k => laws_FnEscape.j0 k a b c e q) true := by
    intro q
    refine Ev.step (fun _ => laws_FnEscape.j0.eq_2 _ _ _ _ _ _) (EvIte (fun _ => Ev.now _) (fun h => ?_))
    refine Ev.bind (few_ev _ (by simp)) (EvIte (fun hf => ?_) (fun _ => Ev.now _))
    simp at hf
    obtain ⟨h1, h2, h3⟩ := hf
    refine Ev.bind (join_ev _ (by simp) (by simp; omega)) ?_
    simp only [List.flatten_cons, List.flatten_nil, List.append_nil]
    refine EvPos (by omega) (EvSome ?_)
    have hl : (c ++ [e]).length ≤ 1000 := by simp; omega
    refine Ev.bind (impl_ev a b _ e h1 h2 hl (by simp)) (Ev.bind (spec_ev a b _ e h1 h2 hl) ?_)
    have hel := esc_len (c ++ [e]) e b
    refine Ev.bind (same_ev _ _ (by simp; omega)) (EvNow (by simp))
  exact EvIte (fun _ => start true) (fun _ => EvIte (fun _ => start true) (fun _ => start _))

end Go.Proofs.Ytbpmfmkdpjajhaa.Pure
