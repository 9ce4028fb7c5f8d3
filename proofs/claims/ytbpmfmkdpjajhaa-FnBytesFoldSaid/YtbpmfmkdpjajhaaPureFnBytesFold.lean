/- FnBytesFold, its pure statement: bytes are equal to others without large letters, letters' size aside, exactly if the small ones of the first are the others. For all byte lists. -/
import Derived.Test.YtbpmfmkdpjajhaaAid
import Derived.Test.YtbpmfmkdpjajhaaPFnBytesFoldx2
import Derived.Test.YtbpmfmkdpjajhaaPFnBytesFoldx2
import Derived.Test.YtbpmfmkdpjajhaaPFnBytesFoldx2
namespace Go.Proofs.Ytbpmfmkdpjajhaa.Pure
open Go.RowKit Go.Proofs.Ytbpmfmkdpjajhaa.PFnBytesFold Go.Proofs.YtbpmfmkdpjajhaaW.PrintWords Go.Proofs.YtbpmfmkdpjajhaaW.PrintLast Go.Proofs.Ytbpmfmkdpjajhaa.Aid
set_option linter.unusedVariables false
set_option linter.unusedSimpArgs false

theorem own_eq (l : List Int) (h : l.length < 140737488355328) : impl_own.f l = some l := by
  unfold impl_own.f
  simp only [Option.bind_some, List.nil_append, List.length_nil, Nat.zero_add]
  rw [if_pos h]

theorem few_loop (ls : List (List Int)) (hl : ls.length ≤ 1000) : ∀ (n i : Nat), i + n = ls.length →
    Ev (fun k => laws_fewBytes.l0 k ls (ls.length : Int) (i : Int)) ((ls.drop i).all fun l => decide (l.length ≤ 300))
  | 0, i, hi => by
    refine Ev.step (fun _ => laws_fewBytes.l0.eq_2 _ _ _ _) (EvNeg (by omega) ?_)
    rw [List.drop_of_length_le (by omega)]
    exact Ev.now _
  | n + 1, i, hi => by
    have hlt : i < ls.length := by omega
    have e : rd_L1 ls (i : Int) = ls[i] := by unfold rd_L1; simp [List.getD_eq_getElem?_getD, List.getElem?_eq_getElem hlt]
    refine Ev.step (fun _ => laws_fewBytes.l0.eq_2 _ _ _ _) (EvPos (by omega) (EvPos (by omega) (EvPos (by omega) ?_)))
    rw [e, wn hlt (by omega), drop_cons hlt, List.all_cons]
    refine EvIte (fun h => ?_) (fun h => ?_)
    · rw [decide_eq_false (by omega), Bool.false_and]
      exact Ev.now _
    · rw [decide_eq_true (by omega), Bool.true_and]
      exact few_loop ls hl n (i + 1) (by omega)
theorem few_ev (ls : List (List Int)) (hl : ls.length ≤ 1000) : Ev (fun k => laws_fewBytes.f k ls) (ls.all fun l => decide (l.length ≤ 300)) := by
  have := few_loop ls hl ls.length 0 (by omega)
  unfold laws_fewBytes.f
  simpa using this

theorem same_loop (a b : List Int) (hl : a.length = b.length) (hm : a.length ≤ 140737488355328) : ∀ (n i : Nat), i + n = a.length →
    Ev (fun k => spec_SameBytes.l0 k b a (a.length : Int) (i : Int)) (decide (a.drop i = b.drop i))
  | 0, i, hi => by
    refine Ev.step (fun _ => spec_SameBytes.l0.eq_2 _ _ _ _ _) (EvNeg (by omega) ?_)
    rw [List.drop_of_length_le (by omega), List.drop_of_length_le (by omega), decide_eq_true rfl]
    exact Ev.now _
  | n + 1, i, hi => by
    have hlt : i < a.length := by omega
    have hlt' : i < b.length := by omega
    refine Ev.step (fun _ => spec_SameBytes.l0.eq_2 _ _ _ _ _) (EvPos (by omega) (EvPos (by omega) (EvPos (by omega) (EvPos (by omega) ?_))))
    rw [rd_at hlt, rd_at hlt', wn hlt (by omega), drop_cons hlt, drop_cons hlt']
    refine EvIte (fun h => ?_) (fun h => ?_)
    · refine EvEq (same_loop a b hl hm n (i + 1) (by omega)) ?_
      rw [Bool.eq_iff_iff, h]
      simp only [decide_eq_true_eq, List.cons.injEq, true_and]
    · refine EvNow ?_
      symm
      apply decide_eq_false
      intro e
      injection e with e1 e2
      exact h e1
theorem same_ev (a b : List Int) (hm : a.length ≤ 140737488355328) : Ev (fun k => spec_SameBytes.f k a b) (decide (a = b)) := by
  unfold spec_SameBytes.f
  refine EvIte (fun h => ?_) (fun h => ?_)
  · have := same_loop a b (by omega) hm a.length 0 (by omega)
    simpa using this
  · refine EvNow ?_
    symm
    apply decide_eq_false
    intro e
    subst e
    exact h rfl

def lowB (c : Int) : Int := if 65 ≤ c ∧ c ≤ 90 then c + 32 else c
theorem lowB_eq (c : Int) (h0 : 0 ≤ c) (h1 : c ≤ 255) : spec_LowerByte.f c = some (lowB c) := by
  unfold spec_LowerByte.f lowB
  by_cases a : c ≥ 65
  · by_cases b : c ≤ 90
    · rw [if_pos a, if_pos b, if_pos ⟨a, b⟩]
      congr 1
      omega
    · rw [if_pos a, if_neg b, if_neg (by omega)]
  · rw [if_neg a, if_neg (by omega)]
theorem lowB_bd (c : Int) (h0 : 0 ≤ c) (h1 : c ≤ 255) : 0 ≤ lowB c ∧ lowB c ≤ 255 := by
  unfold lowB
  split <;> omega
theorem lower_loop (l : List Int) (hb : Bytes l) (hm : l.length < 140737488355328) : ∀ (n i : Nat) (acc : List Int), i + n = l.length → acc.length = i →
    Ev (fun k => spec_Lower.l0 k acc l (l.length : Int) (i : Int)) (acc ++ (l.drop i).map lowB)
  | 0, i, acc, hi, ha => by
    refine Ev.step (fun _ => spec_Lower.l0.eq_2 _ _ _ _ _) (EvNeg (by omega) ?_)
    rw [List.drop_of_length_le (by omega)]
    simp only [List.map_nil, List.append_nil]
    exact Ev.now _
  | n + 1, i, acc, hi, ha => by
    have hlt : i < l.length := by omega
    have hc := hb.at_ hlt
    refine Ev.step (fun _ => spec_Lower.l0.eq_2 _ _ _ _ _) (EvPos (by omega) (EvPos (by omega) (EvPos (by omega) ?_)))
    rw [rd_at hlt, wn hlt (by omega)]
    refine EvGet (lowB_eq _ hc.1 hc.2) (EvPos (by omega) ?_)
    have := lower_loop l hb hm n (i + 1) (acc ++ [lowB l[i]]) (by omega) (by simp; omega)
    rw [drop_cons hlt, List.map_cons]
    simpa using this
theorem lower_ev (l : List Int) (hb : Bytes l) (hm : l.length < 140737488355328) : Ev (fun k => spec_Lower.f k l) (l.map lowB) := by
  have := lower_loop l hb hm l.length 0 [] (by omega) rfl
  unfold spec_Lower.f
  simpa using this
theorem lower_bytes {l : List Int} (hb : Bytes l) : Bytes (l.map lowB) := fun x hx => by
  obtain ⟨c, hc, rfl⟩ := List.mem_map.1 hx
  have := hb c hc
  exact lowB_bd c this.1 this.2

def simB (c : Int) : Bool := (decide (97 ≤ lowB c) && decide (lowB c ≤ 122)) || ((decide (48 ≤ c) && decide (c ≤ 57)) || c == 45)
theorem simple_loop (l : List Int) (hb : Bytes l) (hm : l.length < 140737488355328) : ∀ (n i : Nat), i + n = l.length →
    Ev (fun k => laws_simple.l0 k l (l.length : Int) (i : Int)) ((l.drop i).all simB)
  | 0, i, hi => by
    refine Ev.step (fun _ => laws_simple.l0.eq_2 _ _ _ _) (EvNeg (by omega) ?_)
    rw [List.drop_of_length_le (by omega)]
    exact Ev.now _
  | n + 1, i, hi => by
    have hlt : i < l.length := by omega
    have hc := hb.at_ hlt
    have ih := simple_loop l hb hm n (i + 1) (by omega)
    refine Ev.step (fun _ => laws_simple.l0.eq_2 _ _ _ _) (EvPos (by omega) (EvPos (by omega) (EvPos (by omega) ?_)))
    rw [rd_at hlt, wn hlt (by omega)]
    refine EvGet (lowB_eq _ hc.1 hc.2) ?_
    rw [drop_cons hlt, List.all_cons]
    generalize l[i] = c at *
    have yes : simB c = true → Ev (fun k => laws_simple.l0 k l (l.length : Int) ((i + 1 : Nat) : Int)) (simB c && (l.drop (i + 1)).all simB) := fun h => by rw [h, Bool.true_and]; exact ih
    have no : simB c = false → Ev (fun _ => some false) (simB c && (l.drop (i + 1)).all simB) := fun h => by rw [h, Bool.false_and]; exact Ev.now _
    refine EvIte (fun h1 => EvIte (fun h2 => EvIte (fun h3 => yes ?_) (fun h3 => no ?_)) (fun h2 => EvIte (fun h3 => EvIte (fun h4 => yes ?_) (fun h4 => no ?_)) (fun h3 => yes ?_)))
      (fun h1 => EvIte (fun h5 => EvIte (fun h2 => EvIte (fun h3 => yes ?_) (fun h3 => no ?_)) (fun h2 => EvIte (fun h3 => EvIte (fun h4 => yes ?_) (fun h4 => no ?_)) (fun h3 => yes ?_))) (fun h5 => yes ?_))
    all_goals (unfold simB; simp; omega)
theorem simple_ev (l : List Int) (hb : Bytes l) (hm : l.length < 140737488355328) : Ev (fun k => laws_simple.f k l) (l.all simB) := by
  have := simple_loop l hb hm l.length 0 (by omega)
  unfold laws_simple.f
  simpa using this


def foldB (d c : Int) : Bool := d == c || (decide (65 ≤ d) && decide (d ≤ 90) && decide (d + 32 = c))
def foldL : List Int → List Int → Bool
  | [], [] => true
  | d :: s, c :: t => foldB d c && foldL s t
  | _, _ => false
theorem fold_loop (s t : List Int) (hs : Bytes s) (hl : s.length = t.length) (hm : s.length < 140737488355328) : ∀ (n i : Nat), i + n = t.length →
    Ev (fun k => tdparse_EqualFold.l0 k s t (t.length : Int) (i : Int)) (foldL (s.drop i) (t.drop i))
  | 0, i, hi => by
    refine Ev.step (fun _ => tdparse_EqualFold.l0.eq_2 _ _ _ _ _) (EvNeg (by omega) ?_)
    rw [List.drop_of_length_le (by omega), List.drop_of_length_le (by omega)]
    exact Ev.now _
  | n + 1, i, hi => by
    have hlt : i < t.length := by omega
    have hlt' : i < s.length := by omega
    have hc := hs.at_ hlt'
    have ih := fold_loop s t hs hl hm n (i + 1) (by omega)
    refine Ev.step (fun _ => tdparse_EqualFold.l0.eq_2 _ _ _ _ _) (EvPos (by omega) (EvPos (by omega) (EvPos (by omega) (EvPos (by omega) ?_))))
    rw [rd_at hlt, rd_at hlt', wn hlt (by omega), drop_cons hlt, drop_cons hlt']
    simp only [foldL]
    generalize s[i] = d at *
    generalize t[i] = c at *
    have yes : foldB d c = true → Ev (fun k => tdparse_EqualFold.l0 k s t (t.length : Int) ((i + 1 : Nat) : Int)) (foldB d c && foldL (s.drop (i + 1)) (t.drop (i + 1))) := fun h => by rw [h, Bool.true_and]; exact ih
    have no : foldB d c = false → Ev (fun _ => some false) (foldB d c && foldL (s.drop (i + 1)) (t.drop (i + 1))) := fun h => by rw [h, Bool.false_and]; exact Ev.now _
    refine EvIte (fun h1 => yes ?_) (fun h1 => EvIte (fun h2 => no ?_) (fun h2 => EvIte (fun h3 => no ?_) (fun h3 => EvIte (fun h4 => yes ?_) (fun h4 => no ?_))))
    all_goals (unfold foldB; simp; omega)
theorem fold_ev (s t : List Int) (hs : Bytes s) (hm : s.length < 140737488355328) (hm' : t.length < 140737488355328) : Ev (fun k => impl_SameFold.f k s t) (decide (s.length = t.length) && foldL s t) := by
  unfold impl_SameFold.f
  refine EvGet (own_eq s hm) (EvGet (own_eq t hm') ?_)
  have h : Ev (fun k => tdparse_EqualFold.f k s t) (decide (s.length = t.length) && foldL s t) := by
    unfold tdparse_EqualFold.f
    refine EvIte (fun h => ?_) (fun h => ?_)
    · have e := fold_loop s t hs (by omega) hm t.length 0 (by omega)
      rw [decide_eq_true (by omega), Bool.true_and]
      simpa using e
    · rw [decide_eq_false (by omega), Bool.false_and]
      exact Ev.now _
  exact Ev.bind h (Ev.now _)

theorem fold_lower : ∀ (s t : List Int), Bytes s → s.all simB = true → t.map lowB = t → (decide (s.length = t.length) && foldL s t) = decide (s.map lowB = t)
  | [], [], _, _, _ => rfl
  | [], c :: t, _, _, _ => rfl
  | d :: s, [], _, _, _ => rfl
  | d :: s, c :: t, hb, hs, ht => by
    rw [List.all_cons, Bool.and_eq_true] at hs
    rw [List.map_cons] at ht
    injection ht with h1 h2
    have ih := fold_lower s t (fun x hx => hb x (List.mem_cons_of_mem _ hx)) hs.2 h2
    have hd : foldB d c = decide (lowB d = c) := by
      rw [Bool.eq_iff_iff]
      unfold foldB lowB at *
      simp
      split at h1 <;> split <;> omega
    have e2 : decide ((d :: s).map lowB = c :: t) = (decide (lowB d = c) && decide (s.map lowB = t)) := by
      rw [Bool.eq_iff_iff]; simp
    have e1 : decide ((d :: s).length = (c :: t).length) = decide (s.length = t.length) := by
      rw [Bool.eq_iff_iff]; simp
    rw [e2, ← ih, e1, foldL, hd]
    cases decide (lowB d = c) <;> cases decide (s.length = t.length) <;> rfl
theorem FnBytesFold : laws_FnBytesFold.Pure := by
  intro a b ha1 ha2 ha hb1 hb2 hb
  have hA := bytes_of ha
  have hB := bytes_of hb
  refine Ev.rounds ?_
  unfold laws_FnBytesFold.f
  have start : ∀ q : Bool, (q = false → b.length ≤ 2147483647 ∧ a.length ≤ 2147483647) → Ev (fun k => laws_FnBytesFold.j0 k a b q) true := by
    intro q hq
    have j1 : ∀ q : Bool, (q = false → a.all simB = true ∧ b.map lowB = b) → Ev (fun k => laws_FnBytesFold.j1 k a b q) true := by
      intro q hq
      refine Ev.step (fun _ => laws_FnBytesFold.j1.eq_2 _ _ _ _) (EvIte (fun _ => Ev.now _) (fun h => ?_))
      obtain ⟨h1, h2⟩ := hq (by simpa using h)
      refine Ev.bind (fold_ev a b hA (by omega) (by omega)) (Ev.bind (lower_ev a hA (by omega)) (Ev.bind (same_ev _ _ (by simp; omega)) (EvNow ?_)))
      rw [fold_lower a b hA h1 h2]
      simp
    refine Ev.step (fun _ => laws_FnBytesFold.j0.eq_2 _ _ _ _) (EvIte (fun _ => Ev.now _) (fun h => ?_))
    refine Ev.bind (few_ev _ (by simp)) (EvIte (fun _ => ?_) (fun _ => j1 true (by simp)))
    refine Ev.bind (lower_ev b hB (by omega)) (Ev.bind (same_ev _ _ (by simp; omega)) (EvIte (fun hlo => ?_) (fun _ => j1 true (by simp))))
    refine Ev.bind (simple_ev a hA (by omega)) (EvIte (fun hsa => ?_) (fun _ => j1 true (by simp)))
    refine Ev.bind (simple_ev b hB (by omega)) (j1 _ (fun _ => ⟨hsa, by simpa using hlo⟩))
  refine EvIte (fun _ => start true (by simp)) (fun h => start _ (fun hq => ?_))
  have := of_decide_eq_false hq
  omega

end Go.Proofs.Ytbpmfmkdpjajhaa.Pure
