/- FnNumberWrite, its pure statement: an integer is written in decimal behind other bytes. For all byte lists and integers of 64 bits. -/
import Derived.Test.YteklgpjdcdkdpaaAid
import Derived.Test.YteklgpjdcdkdpaaPFnNumberWritex0
import Derived.Test.YteklgpjdcdkdpaaPFnNumberWritex1
import Derived.Test.YteklgpjdcdkdpaaPFnNumberWritex2
namespace Go.Proofs.Yteklgpjdcdkdpaa.Pure
open Go.RowKit Go.Proofs.Yteklgpjdcdkdpaa.PFnNumberWrite Go.Proofs.YteklgpjdcdkdpaaW.PrintWords Go.Proofs.YteklgpjdcdkdpaaW.PrintLast Go.Proofs.Yteklgpjdcdkdpaa.Aid
set_option linter.unusedVariables false
set_option linter.unusedSimpArgs false

theorem few_loop (ls : List (List Int)) (hl : ls.length ≤ 1000) : ∀ (n i : Nat), i + n = ls.length →
    Ev (fun k => laws_fewBytes.l0 k ls (ls.length : Int) (i : Int)) ((ls.drop i).all fun l => decide (l.length ≤ 300))
  | 0, i, hi => by
    refine Ev.step (fun _ => laws_fewBytes.l0.eq_2 ..) (EvNeg (by omega) ?_)
    rw [List.drop_of_length_le (by omega)]
    exact Ev.now _
  | n + 1, i, hi => by
    have hlt : i < ls.length := by omega
    have e : rd_L1 ls (i : Int) = ls[i] := by unfold rd_L1; simp [List.getD_eq_getElem?_getD, List.getElem?_eq_getElem hlt]
    refine Ev.step (fun _ => laws_fewBytes.l0.eq_2 ..) (EvPos (by omega) (EvPos (by omega) (EvPos (by omega) ?_)))
    rw [e, wn hlt (by omega), drop_cons hlt, List.all_cons]
    refine EvIte (fun h => ?_) (fun h => ?_)
    · rw [decide_eq_false (by omega), Bool.false_and]
      exact Ev.now _
    · rw [decide_eq_true (by omega), Bool.true_and]
      exact few_loop ls hl n (i + 1) (by omega)
theorem few_ev (ls : List (List Int)) (hl : ls.length ≤ 1000) : Ev (fun k => laws_fewBytes.f k ls) (ls.all fun l => decide (l.length ≤ 300)) := by
  have := few_loop ls hl ls.length 0 (by omega)
  unfold laws_fewBytes.f
  simpa using this

theorem join_loop (ls : List (List Int)) (hl : ls.length ≤ 1000) : ∀ (n i : Nat) (acc : List Int), i + n = ls.length → acc.length + (ls.drop i).flatten.length < 140737488355328 →
    Ev (fun k => spec_Join.l0 k acc ls (ls.length : Int) (i : Int)) (acc ++ (ls.drop i).flatten)
  | 0, i, acc, hi, hs => by
    refine Ev.step (fun _ => spec_Join.l0.eq_2 ..) (EvNeg (by omega) ?_)
    rw [List.drop_of_length_le (by omega)]
    simp only [List.flatten_nil, List.append_nil]
    exact Ev.now _
  | n + 1, i, acc, hi, hs => by
    have hlt : i < ls.length := by omega
    have e : rd_L1 ls (i : Int) = ls[i] := by unfold rd_L1; simp [List.getD_eq_getElem?_getD, List.getElem?_eq_getElem hlt]
    rw [drop_cons hlt, List.flatten_cons, List.length_append] at hs
    refine Ev.step (fun _ => spec_Join.l0.eq_2 ..) (EvPos (by omega) (EvPos (by omega) (EvPos (by omega) ?_)))
    rw [e, wn hlt (by omega), drop_cons hlt, List.flatten_cons, ← List.append_assoc]
    refine EvPos (by omega) ?_
    exact join_loop ls hl n (i + 1) (acc ++ ls[i]) (by omega) (by rw [List.length_append]; omega)
theorem join_ev (ls : List (List Int)) (hl : ls.length ≤ 1000) (hs : ls.flatten.length < 140737488355328) : Ev (fun k => spec_Join.f k ls) ls.flatten := by
  have := join_loop ls hl ls.length 0 [] (by omega) (by simpa using hs)
  unfold spec_Join.f
  simpa using this

theorem same_loop (a b : List Int) (hl : a.length = b.length) (hm : a.length ≤ 140737488355328) : ∀ (n i : Nat), i + n = a.length →
    Ev (fun k => spec_SameBytes.l0 k b a (a.length : Int) (i : Int)) (decide (a.drop i = b.drop i))
  | 0, i, hi => by
    refine Ev.step (fun _ => spec_SameBytes.l0.eq_2 ..) (EvNeg (by omega) ?_)
    rw [List.drop_of_length_le (by omega), List.drop_of_length_le (by omega), decide_eq_true rfl]
    exact Ev.now _
  | n + 1, i, hi => by
    have hlt : i < a.length := by omega
    have hlt' : i < b.length := by omega
    refine Ev.step (fun _ => spec_SameBytes.l0.eq_2 ..) (EvPos (by omega) (EvPos (by omega) (EvPos (by omega) (EvPos (by omega) ?_))))
    rw [rd_at hlt, rd_at hlt', wn hlt (by omega), drop_cons hlt, drop_cons hlt']
    refine EvIte (fun h => ?_) (fun h => ?_)
    · refine EvEq (same_loop a b hl hm n (i + 1) (by omega)) ?_
      rw [Bool.eq_iff_iff, h]
      simp only [decide_eq_true_eq, List.cons.injEq, true_and]
    · refine EvNow ?_
      symm
      apply decide_eq_false
      intro e
      injection e with e1 e2
      exact h e1
theorem same_ev (a b : List Int) (hm : a.length ≤ 140737488355328) : Ev (fun k => spec_SameBytes.f k a b) (decide (a = b)) := by
  unfold spec_SameBytes.f
  refine EvIte (fun h => ?_) (fun h => ?_)
  · have := same_loop a b (by omega) hm a.length 0 (by omega)
    simpa using this
  · refine EvNow ?_
    symm
    apply decide_eq_false
    intro e
    subst e
    exact h rfl

def val (ds : List Int) : Int := ds.foldl (fun n c => 10 * n + (c - 48)) 0
def Digs (ds : List Int) : Prop := ∀ c ∈ ds, 48 ≤ c ∧ c ≤ 57
theorem val_snoc (ds : List Int) (c : Int) : val (ds ++ [c]) = 10 * val ds + (c - 48) := by simp [val]
theorem val_bd : ∀ (n : Nat) (ds : List Int), ds.length = n → Digs ds → 0 ≤ val ds ∧ val ds < 10 ^ n
  | 0, ds, h, _ => by
    obtain rfl := List.eq_nil_of_length_eq_zero h
    simp [val]
  | n + 1, ds, h, hd => by
    obtain ⟨ds', c, rfl⟩ : ∃ ds' c, ds = ds' ++ [c] := ⟨ds.dropLast, ds.getLast (by intro e; subst e; simp at h), (List.dropLast_concat_getLast _).symm⟩
    rw [List.length_append] at h
    have ih := val_bd n ds' (by simpa using h) (fun x hx => hd x (List.mem_append_left _ hx))
    have hc := hd c (by simp)
    rw [val_snoc, Int.pow_succ]
    omega
theorem pow_le {n m : Nat} (h : n ≤ m) : (10 : Int) ^ n ≤ 10 ^ m := by
  have := Nat.pow_le_pow_right (n := 10) (by omega) h
  exact_mod_cast this
theorem val18 {ds : List Int} (h : ds.length ≤ 18) (hd : Digs ds) : 0 ≤ val ds ∧ val ds < 1000000000000000000 := by
  have h1 := val_bd _ ds rfl hd
  have h2 := pow_le h
  have e : (10 : Int) ^ 18 = 1000000000000000000 := by decide
  omega
theorem Digs.take {ds : List Int} (h : Digs ds) (i : Nat) : Digs (ds.take i) := fun c hc => h c (List.mem_of_mem_take hc)
theorem take_snoc {ds : List Int} {i : Nat} (h : i < ds.length) : ds.take (i + 1) = ds.take i ++ [ds[i]] := by
  rw [List.take_succ_eq_append_getElem h]
theorem val_append_ge : ∀ (b a : List Int), Digs a → Digs b → val a ≤ val (a ++ b)
  | [], a, _, _ => by simp
  | c :: b, a, ha, hb => by
    have hc := hb c (by simp)
    have h0 := (val_bd _ a rfl ha).1
    have ih := val_append_ge b (a ++ [c]) (fun x hx => by
      rcases List.mem_append.1 hx with hx | hx
      · exact ha x hx
      · rw [List.mem_singleton.1 hx]; exact hc) (fun x hx => hb x (List.mem_cons_of_mem _ hx))
    rw [val_snoc, List.append_assoc, List.singleton_append] at ih
    omega
theorem val_take_le {ds : List Int} (hd : Digs ds) (i : Nat) : val (ds.take i) ≤ val ds := by
  have := val_append_ge (ds.drop i) (ds.take i) (hd.take _) (fun c hc => hd c (List.mem_of_mem_drop hc))
  rwa [List.take_append_drop] at this

theorem u64_bd {a : Int} (h : (Lit.int .u64 a).wf = true) : 0 ≤ a ∧ a ≤ 18446744073709551615 := by
  simp [Lit.wf, IntKind.min, IntKind.max, IntKind.signed, IntKind.bits] at h
  omega
/-- The decimal digits of a number, the least one last. -/
def digs : Nat → Nat → List Int
  | 0, _ => []
  | f + 1, n => if n / 10 = 0 then [(48 + ((n % 10 : Nat) : Int) : Int)] else digs f (n / 10) ++ [(48 + ((n % 10 : Nat) : Int) : Int)]
theorem digs_ok : ∀ f n, Digs (digs f n)
  | 0, _ => fun c hc => by cases hc
  | f + 1, n => by
    unfold digs
    split
    · intro c hc; rw [List.mem_singleton.1 hc]; omega
    · intro c hc
      rcases List.mem_append.1 hc with hc | hc
      · exact digs_ok f (n / 10) c hc
      · rw [List.mem_singleton.1 hc]; omega
theorem digs_val : ∀ f n, n < 10 ^ f → 0 < f → val (digs f n) = n
  | 0, n, h, h0 => by omega
  | f + 1, n, h, _ => by
    unfold digs
    split
    · simp [val]; omega
    · rename_i hne
      rw [val_snoc]
      have hf : 0 < f := by
        rcases Nat.eq_zero_or_pos f with e | e
        · subst e; simp at h; omega
        · exact e
      rw [digs_val f (n / 10) (by rw [Nat.pow_succ] at h; omega) hf]
      omega
theorem digs_len : ∀ f n, (digs f n).length ≤ f
  | 0, _ => by simp [digs]
  | f + 1, n => by
    unfold digs
    split
    · simp
    · have := digs_len f (n / 10); simp; omega
theorem digs_pos : ∀ f n, 0 < f → 0 < (digs f n).length
  | f + 1, n, _ => by
    unfold digs
    split <;> simp

theorem digits_loop : ∀ (f n : Nat) (acc : List Int), n < 10 ^ f → 0 < f → n < 18446744073709551616 → acc.length + f < 140737488355328 →
    Ev (fun k => spec_Digits.l0 k (n : Int) acc) (digs f n ++ acc)
  | 0, n, acc, h, h0, _, _ => by omega
  | f + 1, n, acc, h, _, hn, hl => by
    have e1 : IntKind.u64.wrap (48 + (n : Int).tmod 10) % 256 = 48 + ((n % 10 : Nat) : Int) := by
      rw [Int.tmod_eq_emod_of_nonneg (by omega), wu (by omega) (by omega)]; omega
    have e2 : IntKind.u64.wrap ((n : Int).tdiv 10) = ((n / 10 : Nat) : Int) := by
      rw [Int.tdiv_eq_ediv_of_nonneg (by omega), wu (by omega) (by omega)]; omega
    refine Ev.step (fun _ => spec_Digits.l0.eq_2 ..) ?_
    rw [e1, e2]
    refine EvSome (EvPos (by simp; omega) (EvSome ?_))
    unfold digs
    refine EvIte (fun hz => EvNow ?_) (fun hz => ?_)
    · rw [if_pos (by omega)]
    · rw [if_neg (by omega), List.append_assoc]
      have hf : 0 < f := by
        rcases Nat.eq_zero_or_pos f with e | e
        · subst e; simp at h; omega
        · exact e
      exact digits_loop f (n / 10) _ (by rw [Nat.pow_succ] at h; omega) hf (by omega) (by simp; omega)
theorem digits_ev (n : Nat) (hn : n < 18446744073709551616) : Ev (fun k => spec_Digits.f k (n : Int)) (digs 20 n) := by
  have := digits_loop 20 n [] (by omega) (by omega) hn (by simp)
  unfold spec_Digits.f
  simpa using this


theorem i64_bd {a : Int} (h : (Lit.int .i64 a).wf = true) : -9223372036854775808 ≤ a ∧ a ≤ 9223372036854775807 := by
  simp [Lit.wf, IntKind.min, IntKind.max, IntKind.signed, IntKind.bits] at h
  omega
def intText (a : Int) : List Int := if a < 0 then 45 :: digs 20 a.natAbs else digs 20 a.natAbs

theorem size_eq (a : Int) (h : -9223372036854775808 ≤ a ∧ a ≤ 9223372036854775807) : spec_size.f a = some ((a.natAbs : Nat) : Int) := by
  unfold spec_size.f
  by_cases hn : a < 0
  · rw [if_pos hn, w64 (i := a + 1) (by omega) (by omega), w64 (i := -(a + 1)) (by omega) (by omega), wu (i := -(a + 1)) (by omega) (by omega), wu (by omega) (by omega)]
    congr 1
    omega
  · rw [if_neg hn, wu (by omega) (by omega)]
    congr 1
    omega
theorem inttext_ev (a : Int) (h : -9223372036854775808 ≤ a ∧ a ≤ 9223372036854775807) : Ev (fun k => spec_IntText.f k a) (intText a) := by
  unfold spec_IntText.f intText
  refine EvIte (fun hn => ?_) (fun hn => ?_)
  · rw [if_pos hn]
    have hlen := digs_len 20 a.natAbs
    refine EvGet (size_eq a h) (Ev.bind (digits_ev _ (by omega)) (Ev.bind (join_ev _ (by simp) (by simp; omega)) (EvNow (by simp))))
  · rw [if_neg hn]
    exact EvGet (size_eq a h) (Ev.bind (digits_ev _ (by omega)) (Ev.now _))


theorem lenuint_aux (n : Nat) : ∀ f, f ≤ 20 → 0 < f → (∀ g : Nat, 0 < g → g < f → 10 ^ g ≤ n) → n < 10 ^ f → ∀ F, f ≤ F → (digs F n).length = f
  | 0, _, h0, _, _, _, _ => by omega
  | f + 1, hf, _, hlo, hhi, F, hF => by
    obtain ⟨F, rfl⟩ : ∃ G, F = G + 1 := ⟨F - 1, by omega⟩
    unfold digs
    rcases Nat.eq_zero_or_pos f with e | e
    · subst e
      rw [if_pos (by omega)]; rfl
    · have h1 := hlo f e (by omega)
      have h10 : 10 ≤ n := by
        have := Nat.pow_le_pow_right (n := 10) (by omega) e
        omega
      rw [if_neg (by omega), List.length_append, List.length_singleton]
      have := lenuint_aux (n / 10) f (by omega) e (fun g hg hgf => by
        have := hlo (g + 1) (by omega) (by omega)
        rw [Nat.pow_succ] at this
        omega) (by rw [Nat.pow_succ] at hhi; omega) F (by omega)
      omega
theorem lenuint_eq (n : Nat) (hn : n < 18446744073709551616) : tdstrconv_LenUint.f (n : Int) = some ((digs 20 n).length : Int) := by
  have key : ∀ f : Nat, 0 < f → f ≤ 20 → (f = 1 ∨ 10 ^ (f - 1) ≤ n) → n < 10 ^ f → ((digs 20 n).length : Int) = f := by
    intro f h0 hf hlo hhi
    rw [lenuint_aux n f hf h0 (fun g hg hgf => by
      rcases hlo with h | h
      · omega
      · exact Nat.le_trans (Nat.pow_le_pow_right (by omega) (by omega)) h) hhi 20 hf]
  unfold tdstrconv_LenUint.f
  by_cases c1 : (n : Int) < 10
  · rw [if_pos c1]; congr 1; exact (key 1 (by omega) (by omega) (.inl rfl) (by omega)).symm
  rw [if_neg c1]
  by_cases c2 : (n : Int) < 100
  · rw [if_pos c2]; congr 1; exact (key 2 (by omega) (by omega) (.inr (by omega)) (by omega)).symm
  rw [if_neg c2]
  by_cases c3 : (n : Int) < 1000
  · rw [if_pos c3]; congr 1; exact (key 3 (by omega) (by omega) (.inr (by omega)) (by omega)).symm
  rw [if_neg c3]
  by_cases c4 : (n : Int) < 10000
  · rw [if_pos c4]; congr 1; exact (key 4 (by omega) (by omega) (.inr (by omega)) (by omega)).symm
  rw [if_neg c4]
  by_cases c5 : (n : Int) < 100000
  · rw [if_pos c5]; congr 1; exact (key 5 (by omega) (by omega) (.inr (by omega)) (by omega)).symm
  rw [if_neg c5]
  by_cases c6 : (n : Int) < 1000000
  · rw [if_pos c6]; congr 1; exact (key 6 (by omega) (by omega) (.inr (by omega)) (by omega)).symm
  rw [if_neg c6]
  by_cases c7 : (n : Int) < 10000000
  · rw [if_pos c7]; congr 1; exact (key 7 (by omega) (by omega) (.inr (by omega)) (by omega)).symm
  rw [if_neg c7]
  by_cases c8 : (n : Int) < 100000000
  · rw [if_pos c8]; congr 1; exact (key 8 (by omega) (by omega) (.inr (by omega)) (by omega)).symm
  rw [if_neg c8]
  by_cases c9 : (n : Int) < 1000000000
  · rw [if_pos c9]; congr 1; exact (key 9 (by omega) (by omega) (.inr (by omega)) (by omega)).symm
  rw [if_neg c9]
  by_cases c10 : (n : Int) < 10000000000
  · rw [if_pos c10]; congr 1; exact (key 10 (by omega) (by omega) (.inr (by omega)) (by omega)).symm
  rw [if_neg c10]
  by_cases c11 : (n : Int) < 100000000000
  · rw [if_pos c11]; congr 1; exact (key 11 (by omega) (by omega) (.inr (by omega)) (by omega)).symm
  rw [if_neg c11]
  by_cases c12 : (n : Int) < 1000000000000
  · rw [if_pos c12]; congr 1; exact (key 12 (by omega) (by omega) (.inr (by omega)) (by omega)).symm
  rw [if_neg c12]
  by_cases c13 : (n : Int) < 10000000000000
  · rw [if_pos c13]; congr 1; exact (key 13 (by omega) (by omega) (.inr (by omega)) (by omega)).symm
  rw [if_neg c13]
  by_cases c14 : (n : Int) < 100000000000000
  · rw [if_pos c14]; congr 1; exact (key 14 (by omega) (by omega) (.inr (by omega)) (by omega)).symm
  rw [if_neg c14]
  by_cases c15 : (n : Int) < 1000000000000000
  · rw [if_pos c15]; congr 1; exact (key 15 (by omega) (by omega) (.inr (by omega)) (by omega)).symm
  rw [if_neg c15]
  by_cases c16 : (n : Int) < 10000000000000000
  · rw [if_pos c16]; congr 1; exact (key 16 (by omega) (by omega) (.inr (by omega)) (by omega)).symm
  rw [if_neg c16]
  by_cases c17 : (n : Int) < 100000000000000000
  · rw [if_pos c17]; congr 1; exact (key 17 (by omega) (by omega) (.inr (by omega)) (by omega)).symm
  rw [if_neg c17]
  by_cases c18 : (n : Int) < 1000000000000000000
  · rw [if_pos c18]; congr 1; exact (key 18 (by omega) (by omega) (.inr (by omega)) (by omega)).symm
  rw [if_neg c18]
  by_cases c19 : (n : Int) < 10000000000000000000
  · rw [if_pos c19]; congr 1; exact (key 19 (by omega) (by omega) (.inr (by omega)) (by omega)).symm
  rw [if_neg c19]
  congr 1; exact (key 20 (by omega) (by omega) (.inr (by omega)) (by omega)).symm

theorem lenint_eq (a : Int) (h : -9223372036854775808 ≤ a ∧ a ≤ 9223372036854775807) : tdstrconv_LenInt.f a = some ((intText a).length : Int) := by
  unfold tdstrconv_LenInt.f intText
  have hl := digs_len 20 a.natAbs
  by_cases hn : a < 0
  · rw [if_pos hn, if_pos hn]
    by_cases hm : a = -9223372036854775808
    · rw [if_pos hm]
      subst hm
      rfl
    · rw [if_neg hm, w64 (by omega) (by omega), wu (by omega) (by omega), show (-a : Int) = ((a.natAbs : Nat) : Int) by omega, lenuint_eq _ (by omega), Option.bind_some, w64 (by omega) (by omega), List.length_cons]
      congr 1
      omega
  · rw [if_neg hn, if_neg hn, wu (by omega) (by omega), show (a : Int) = ((a.natAbs : Nat) : Int) by omega]
    have := lenuint_eq a.natAbs (by omega)
    simp only [this, Option.bind_some, Int.natAbs_natCast]

theorem dz_eq : ∀ f n, n ≠ 0 → n < 10 ^ f → Own.dz f n = digs f n
  | 0, n, h0, h => by simp at h; omega
  | f + 1, n, h0, h => by
    unfold Own.dz digs
    rw [if_neg h0]
    by_cases h1 : n / 10 = 0
    · rw [if_pos h1, h1, Own.dz_zero]; rfl
    · rw [if_neg h1, dz_eq f (n / 10) h1 (by rw [Nat.pow_succ] at h; omega)]
theorem itoa_eq (a : Int) (h : -9223372036854775808 ≤ a ∧ a ≤ 9223372036854775807) : Own.itoa a = intText a := by
  unfold Own.itoa intText
  by_cases h0 : a = 0
  · subst h0; rfl
  · rw [if_neg h0, dz_eq 20 _ (by omega) (by omega)]
theorem write_eq (l : List Int) (a : Int) (hl : l.length + 20 ≤ 140737488355327) (h : -9223372036854775808 ≤ a ∧ a ≤ 9223372036854775807) : Own.impl_WriteInt.f l a = some (l ++ intText a) := by
  have e : Own.tdstrconv_LenInt.f a = tdstrconv_LenInt.f a := rfl
  unfold Own.impl_WriteInt.f
  rw [if_pos ⟨hl, h, by rw [itoa_eq a h, e]; exact lenint_eq a h⟩, itoa_eq a h]
theorem inttext_len (a : Int) : (intText a).length ≤ 21 := by
  have := digs_len 20 a.natAbs
  unfold intText
  split
  · simp; omega
  · omega

theorem FnNumberWrite : laws_FnNumberWrite.Pure := by
  intro l a h1 h2 hb ha
  have hi := i64_bd ha
  have ht := inttext_len a
  refine Ev.rounds ?_
  unfold laws_FnNumberWrite.f
  refine EvIte (fun _ => Ev.now _) (fun h => Ev.bind (few_ev _ (by simp)) (EvIte (fun hf => ?_) (fun _ => Ev.now _)))
  have hl : l.length ≤ 300 := by simpa using hf
  refine EvGet (write_eq l a (by omega) hi) (Ev.bind (inttext_ev a hi) (Ev.bind (join_ev _ (by simp) (by simp; omega)) ?_))
  refine Ev.bind (same_ev _ _ (by simp; omega)) (EvNow (by simp))

end Go.Proofs.Yteklgpjdcdkdpaa.Pure
