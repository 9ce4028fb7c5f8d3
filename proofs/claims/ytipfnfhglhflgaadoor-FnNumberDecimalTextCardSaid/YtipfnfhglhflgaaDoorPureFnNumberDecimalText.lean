/- FnNumberDecimalText, its pure statement: a whole number of at most 9 digits is written as it is where it is written with decimals, however many (0 to 9). -/
import Derived.Test.YtipfnfhglhflgaaDoorAid
import Derived.Test.YtipfnfhglhflgaaDoorPFnNumberDecimalTextx0
import Derived.Test.YtipfnfhglhflgaaDoorPFnNumberDecimalTextx1
import Derived.Test.YtipfnfhglhflgaaDoorPFnNumberDecimalTextx2
namespace Go.Proofs.YtipfnfhglhflgaaDoor.Pure
open Go.RowKit Go.Proofs.YtipfnfhglhflgaaDoor.PFnNumberDecimalText Go.Proofs.YtipfnfhglhflgaaDoorW.PrintWords Go.Proofs.YtipfnfhglhflgaaDoorW.PrintLast Go.Proofs.YtipfnfhglhflgaaDoor.Aid
set_option linter.unusedVariables false
set_option linter.unusedSimpArgs false

theorem join_loop (ls : List (List Int)) (hl : ls.length ≤ 1000) : ∀ (n i : Nat) (acc : List Int), i + n = ls.length → acc.length + (ls.drop i).flatten.length < 140737488355328 →
    Ev (fun k => spec_Join.l0 k acc ls (ls.length : Int) (i : Int)) (acc ++ (ls.drop i).flatten)
  | 0, i, acc, hi, hs => by
    refine Ev.step (fun _ => spec_Join.l0.eq_2 ..) (EvNeg (by omega) ?_)
    rw [List.drop_of_length_le (by omega)]
    simp only [List.flatten_nil, List.append_nil]
    exact Ev.now _
  | n + 1, i, acc, hi, hs => by
    have hlt : i < ls.length := by omega
    have e : rd_L1 ls (i : Int) = ls[i] := by unfold rd_L1; simp [List.getD_eq_getElem?_getD, List.getElem?_eq_getElem hlt]
    rw [drop_cons hlt, List.flatten_cons, List.length_append] at hs
    refine Ev.step (fun _ => spec_Join.l0.eq_2 ..) (EvPos (by omega) (EvPos (by omega) (EvPos (by omega) ?_)))
    rw [e, wn hlt (by omega), drop_cons hlt, List.flatten_cons, ← List.append_assoc]
    refine EvPos (by omega) ?_
    exact join_loop ls hl n (i + 1) (acc ++ ls[i]) (by omega) (by rw [List.length_append]; omega)
theorem join_ev (ls : List (List Int)) (hl : ls.length ≤ 1000) (hs : ls.flatten.length < 140737488355328) : Ev (fun k => spec_Join.f k ls) ls.flatten := by
  have := join_loop ls hl ls.length 0 [] (by omega) (by simpa using hs)
  unfold spec_Join.f
  simpa using this

theorem same_loop (a b : List Int) (hl : a.length = b.length) (hm : a.length ≤ 140737488355328) : ∀ (n i : Nat), i + n = a.length →
    Ev (fun k => spec_SameBytes.l0 k b a (a.length : Int) (i : Int)) (decide (a.drop i = b.drop i))
  | 0, i, hi => by
    refine Ev.step (fun _ => spec_SameBytes.l0.eq_2 ..) (EvNeg (by omega) ?_)
    rw [List.drop_of_length_le (by omega), List.drop_of_length_le (by omega), decide_eq_true rfl]
    exact Ev.now _
  | n + 1, i, hi => by
    have hlt : i < a.length := by omega
    have hlt' : i < b.length := by omega
    refine Ev.step (fun _ => spec_SameBytes.l0.eq_2 ..) (EvPos (by omega) (EvPos (by omega) (EvPos (by omega) (EvPos (by omega) ?_))))
    rw [rd_at hlt, rd_at hlt', wn hlt (by omega), drop_cons hlt, drop_cons hlt']
    refine EvIte (fun h => ?_) (fun h => ?_)
    · refine EvEq (same_loop a b hl hm n (i + 1) (by omega)) ?_
      rw [Bool.eq_iff_iff, h]
      simp only [decide_eq_true_eq, List.cons.injEq, true_and]
    · refine EvNow ?_
      symm
      apply decide_eq_false
      intro e
      injection e with e1 e2
      exact h e1
theorem same_ev (a b : List Int) (hm : a.length ≤ 140737488355328) : Ev (fun k => spec_SameBytes.f k a b) (decide (a = b)) := by
  unfold spec_SameBytes.f
  refine EvIte (fun h => ?_) (fun h => ?_)
  · have := same_loop a b (by omega) hm a.length 0 (by omega)
    simpa using this
  · refine EvNow ?_
    symm
    apply decide_eq_false
    intro e
    subst e
    exact h rfl

def val (ds : List Int) : Int := ds.foldl (fun n c => 10 * n + (c - 48)) 0
def Digs (ds : List Int) : Prop := ∀ c ∈ ds, 48 ≤ c ∧ c ≤ 57
theorem val_snoc (ds : List Int) (c : Int) : val (ds ++ [c]) = 10 * val ds + (c - 48) := by simp [val]
theorem val_bd : ∀ (n : Nat) (ds : List Int), ds.length = n → Digs ds → 0 ≤ val ds ∧ val ds < 10 ^ n
  | 0, ds, h, _ => by
    obtain rfl := List.eq_nil_of_length_eq_zero h
    simp [val]
  | n + 1, ds, h, hd => by
    obtain ⟨ds', c, rfl⟩ : ∃ ds' c, ds = ds' ++ [c] := ⟨ds.dropLast, ds.getLast (by intro e; subst e; simp at h), (List.dropLast_concat_getLast _).symm⟩
    rw [List.length_append] at h
    have ih := val_bd n ds' (by simpa using h) (fun x hx => hd x (List.mem_append_left _ hx))
    have hc := hd c (by simp)
    rw [val_snoc, Int.pow_succ]
    omega
theorem pow_le {n m : Nat} (h : n ≤ m) : (10 : Int) ^ n ≤ 10 ^ m := by
  have := Nat.pow_le_pow_right (n := 10) (by omega) h
  exact_mod_cast this
theorem val18 {ds : List Int} (h : ds.length ≤ 18) (hd : Digs ds) : 0 ≤ val ds ∧ val ds < 1000000000000000000 := by
  have h1 := val_bd _ ds rfl hd
  have h2 := pow_le h
  have e : (10 : Int) ^ 18 = 1000000000000000000 := by decide
  omega
theorem Digs.take {ds : List Int} (h : Digs ds) (i : Nat) : Digs (ds.take i) := fun c hc => h c (List.mem_of_mem_take hc)
theorem take_snoc {ds : List Int} {i : Nat} (h : i < ds.length) : ds.take (i + 1) = ds.take i ++ [ds[i]] := by
  rw [List.take_succ_eq_append_getElem h]
theorem val_append_ge : ∀ (b a : List Int), Digs a → Digs b → val a ≤ val (a ++ b)
  | [], a, _, _ => by simp
  | c :: b, a, ha, hb => by
    have hc := hb c (by simp)
    have h0 := (val_bd _ a rfl ha).1
    have ih := val_append_ge b (a ++ [c]) (fun x hx => by
      rcases List.mem_append.1 hx with hx | hx
      · exact ha x hx
      · rw [List.mem_singleton.1 hx]; exact hc) (fun x hx => hb x (List.mem_cons_of_mem _ hx))
    rw [val_snoc, List.append_assoc, List.singleton_append] at ih
    omega
theorem val_take_le {ds : List Int} (hd : Digs ds) (i : Nat) : val (ds.take i) ≤ val ds := by
  have := val_append_ge (ds.drop i) (ds.take i) (hd.take _) (fun c hc => hd c (List.mem_of_mem_drop hc))
  rwa [List.take_append_drop] at this

theorem u64_bd {a : Int} (h : (Lit.int .u64 a).wf = true) : 0 ≤ a ∧ a ≤ 18446744073709551615 := by
  simp [Lit.wf, IntKind.min, IntKind.max, IntKind.signed, IntKind.bits] at h
  omega
/-- The decimal digits of a number, the least one last. -/
def digs : Nat → Nat → List Int
  | 0, _ => []
  | f + 1, n => if n / 10 = 0 then [(48 + ((n % 10 : Nat) : Int) : Int)] else digs f (n / 10) ++ [(48 + ((n % 10 : Nat) : Int) : Int)]
theorem digs_ok : ∀ f n, Digs (digs f n)
  | 0, _ => fun c hc => by cases hc
  | f + 1, n => by
    unfold digs
    split
    · intro c hc; rw [List.mem_singleton.1 hc]; omega
    · intro c hc
      rcases List.mem_append.1 hc with hc | hc
      · exact digs_ok f (n / 10) c hc
      · rw [List.mem_singleton.1 hc]; omega
theorem digs_val : ∀ f n, n < 10 ^ f → 0 < f → val (digs f n) = n
  | 0, n, h, h0 => by omega
  | f + 1, n, h, _ => by
    unfold digs
    split
    · simp [val]; omega
    · rename_i hne
      rw [val_snoc]
      have hf : 0 < f := by
        rcases Nat.eq_zero_or_pos f with e | e
        · subst e; simp at h; omega
        · exact e
      rw [digs_val f (n / 10) (by rw [Nat.pow_succ] at h; omega) hf]
      omega
theorem digs_len : ∀ f n, (digs f n).length ≤ f
  | 0, _ => by simp [digs]
  | f + 1, n => by
    unfold digs
    split
    · simp
    · have := digs_len f (n / 10); simp; omega
theorem digs_pos : ∀ f n, 0 < f → 0 < (digs f n).length
  | f + 1, n, _ => by
    unfold digs
    split <;> simp

theorem digits_loop : ∀ (f n : Nat) (acc : List Int), n < 10 ^ f → 0 < f → n < 18446744073709551616 → acc.length + f < 140737488355328 →
    Ev (fun k => spec_Digits.l0 k (n : Int) acc) (digs f n ++ acc)
  | 0, n, acc, h, h0, _, _ => by omega
  | f + 1, n, acc, h, _, hn, hl => by
    have e1 : IntKind.u64.wrap (48 + (n : Int).tmod 10) % 256 = 48 + ((n % 10 : Nat) : Int) := by
      rw [Int.tmod_eq_emod_of_nonneg (by omega), wu (by omega) (by omega)]; omega
    have e2 : IntKind.u64.wrap ((n : Int).tdiv 10) = ((n / 10 : Nat) : Int) := by
      rw [Int.tdiv_eq_ediv_of_nonneg (by omega), wu (by omega) (by omega)]; omega
    refine Ev.step (fun _ => spec_Digits.l0.eq_2 ..) ?_
    rw [e1, e2]
    refine EvSome (EvPos (by simp; omega) (EvSome ?_))
    unfold digs
    refine EvIte (fun hz => EvNow ?_) (fun hz => ?_)
    · rw [if_pos (by omega)]
    · rw [if_neg (by omega), List.append_assoc]
      have hf : 0 < f := by
        rcases Nat.eq_zero_or_pos f with e | e
        · subst e; simp at h; omega
        · exact e
      exact digits_loop f (n / 10) _ (by rw [Nat.pow_succ] at h; omega) hf (by omega) (by simp; omega)
theorem digits_ev (n : Nat) (hn : n < 18446744073709551616) : Ev (fun k => spec_Digits.f k (n : Int)) (digs 20 n) := by
  have := digits_loop 20 n [] (by omega) (by omega) hn (by simp)
  unfold spec_Digits.f
  simpa using this


theorem i64_bd {a : Int} (h : (Lit.int .i64 a).wf = true) : -9223372036854775808 ≤ a ∧ a ≤ 9223372036854775807 := by
  simp [Lit.wf, IntKind.min, IntKind.max, IntKind.signed, IntKind.bits] at h
  omega
def intText (a : Int) : List Int := if a < 0 then 45 :: digs 20 a.natAbs else digs 20 a.natAbs

theorem size_eq (a : Int) (h : -9223372036854775808 ≤ a ∧ a ≤ 9223372036854775807) : spec_size.f a = some ((a.natAbs : Nat) : Int) := by
  unfold spec_size.f
  by_cases hn : a < 0
  · rw [if_pos hn, w64 (i := a + 1) (by omega) (by omega), w64 (i := -(a + 1)) (by omega) (by omega), wu (i := -(a + 1)) (by omega) (by omega), wu (by omega) (by omega)]
    congr 1
    omega
  · rw [if_neg hn, wu (by omega) (by omega)]
    congr 1
    omega

theorem inttext_ev (a : Int) (h : -9223372036854775808 ≤ a ∧ a ≤ 9223372036854775807) : Ev (fun k => spec_IntText.f k a) (intText a) := by
  unfold spec_IntText.f intText
  refine EvIte (fun hn => ?_) (fun hn => ?_)
  · rw [if_pos hn]
    have hlen := digs_len 20 a.natAbs
    refine EvGet (size_eq a h) (Ev.bind (digits_ev _ (by omega)) (Ev.bind (join_ev _ (by simp) (by simp; omega)) (EvNow (by simp))))
  · rw [if_neg hn]
    exact EvGet (size_eq a h) (Ev.bind (digits_ev _ (by omega)) (Ev.now _))


theorem lenuint_aux (n : Nat) : ∀ f, f ≤ 20 → 0 < f → (∀ g : Nat, 0 < g → g < f → 10 ^ g ≤ n) → n < 10 ^ f → ∀ F, f ≤ F → (digs F n).length = f
  | 0, _, h0, _, _, _, _ => by omega
  | f + 1, hf, _, hlo, hhi, F, hF => by
    obtain ⟨F, rfl⟩ : ∃ G, F = G + 1 := ⟨F - 1, by omega⟩
    unfold digs
    rcases Nat.eq_zero_or_pos f with e | e
    · subst e
      rw [if_pos (by omega)]; rfl
    · have h1 := hlo f e (by omega)
      have h10 : 10 ≤ n := by
        have := Nat.pow_le_pow_right (n := 10) (by omega) e
        omega
      rw [if_neg (by omega), List.length_append, List.length_singleton]
      have := lenuint_aux (n / 10) f (by omega) e (fun g hg hgf => by
        have := hlo (g + 1) (by omega) (by omega)
        rw [Nat.pow_succ] at this
        omega) (by rw [Nat.pow_succ] at hhi; omega) F (by omega)
      omega
theorem lenuint_eq (n : Nat) (hn : n < 18446744073709551616) : Own.tdstrconv_LenUint.f (n : Int) = some ((digs 20 n).length : Int) := by
  have key : ∀ f : Nat, 0 < f → f ≤ 20 → (f = 1 ∨ 10 ^ (f - 1) ≤ n) → n < 10 ^ f → ((digs 20 n).length : Int) = f := by
    intro f h0 hf hlo hhi
    rw [lenuint_aux n f hf h0 (fun g hg hgf => by
      rcases hlo with h | h
      · omega
      · exact Nat.le_trans (Nat.pow_le_pow_right (by omega) (by omega)) h) hhi 20 hf]
  unfold Own.tdstrconv_LenUint.f
  by_cases c1 : (n : Int) < 10
  · rw [if_pos c1]; congr 1; exact (key 1 (by omega) (by omega) (.inl rfl) (by omega)).symm
  rw [if_neg c1]
  by_cases c2 : (n : Int) < 100
  · rw [if_pos c2]; congr 1; exact (key 2 (by omega) (by omega) (.inr (by omega)) (by omega)).symm
  rw [if_neg c2]
  by_cases c3 : (n : Int) < 1000
  · rw [if_pos c3]; congr 1; exact (key 3 (by omega) (by omega) (.inr (by omega)) (by omega)).symm
  rw [if_neg c3]
  by_cases c4 : (n : Int) < 10000
  · rw [if_pos c4]; congr 1; exact (key 4 (by omega) (by omega) (.inr (by omega)) (by omega)).symm
  rw [if_neg c4]
  by_cases c5 : (n : Int) < 100000
  · rw [if_pos c5]; congr 1; exact (key 5 (by omega) (by omega) (.inr (by omega)) (by omega)).symm
  rw [if_neg c5]
  by_cases c6 : (n : Int) < 1000000
  · rw [if_pos c6]; congr 1; exact (key 6 (by omega) (by omega) (.inr (by omega)) (by omega)).symm
  rw [if_neg c6]
  by_cases c7 : (n : Int) < 10000000
  · rw [if_pos c7]; congr 1; exact (key 7 (by omega) (by omega) (.inr (by omega)) (by omega)).symm
  rw [if_neg c7]
  by_cases c8 : (n : Int) < 100000000
  · rw [if_pos c8]; congr 1; exact (key 8 (by omega) (by omega) (.inr (by omega)) (by omega)).symm
  rw [if_neg c8]
  by_cases c9 : (n : Int) < 1000000000
  · rw [if_pos c9]; congr 1; exact (key 9 (by omega) (by omega) (.inr (by omega)) (by omega)).symm
  rw [if_neg c9]
  by_cases c10 : (n : Int) < 10000000000
  · rw [if_pos c10]; congr 1; exact (key 10 (by omega) (by omega) (.inr (by omega)) (by omega)).symm
  rw [if_neg c10]
  by_cases c11 : (n : Int) < 100000000000
  · rw [if_pos c11]; congr 1; exact (key 11 (by omega) (by omega) (.inr (by omega)) (by omega)).symm
  rw [if_neg c11]
  by_cases c12 : (n : Int) < 1000000000000
  · rw [if_pos c12]; congr 1; exact (key 12 (by omega) (by omega) (.inr (by omega)) (by omega)).symm
  rw [if_neg c12]
  by_cases c13 : (n : Int) < 10000000000000
  · rw [if_pos c13]; congr 1; exact (key 13 (by omega) (by omega) (.inr (by omega)) (by omega)).symm
  rw [if_neg c13]
  by_cases c14 : (n : Int) < 100000000000000
  · rw [if_pos c14]; congr 1; exact (key 14 (by omega) (by omega) (.inr (by omega)) (by omega)).symm
  rw [if_neg c14]
  by_cases c15 : (n : Int) < 1000000000000000
  · rw [if_pos c15]; congr 1; exact (key 15 (by omega) (by omega) (.inr (by omega)) (by omega)).symm
  rw [if_neg c15]
  by_cases c16 : (n : Int) < 10000000000000000
  · rw [if_pos c16]; congr 1; exact (key 16 (by omega) (by omega) (.inr (by omega)) (by omega)).symm
  rw [if_neg c16]
  by_cases c17 : (n : Int) < 100000000000000000
  · rw [if_pos c17]; congr 1; exact (key 17 (by omega) (by omega) (.inr (by omega)) (by omega)).symm
  rw [if_neg c17]
  by_cases c18 : (n : Int) < 1000000000000000000
  · rw [if_pos c18]; congr 1; exact (key 18 (by omega) (by omega) (.inr (by omega)) (by omega)).symm
  rw [if_neg c18]
  by_cases c19 : (n : Int) < 10000000000000000000
  · rw [if_pos c19]; congr 1; exact (key 19 (by omega) (by omega) (.inr (by omega)) (by omega)).symm
  rw [if_neg c19]
  congr 1; exact (key 20 (by omega) (by omega) (.inr (by omega)) (by omega)).symm

theorem fl_int {n : Int} (h : 0 ≤ n) : floatOfInt .f64 n = Own.fl false n.natAbs 0 := by
  rw [Own.ofInt_fl, decide_eq_false (by omega)]
theorem four_fl : (4616189618054758400 : Nat) = Own.fl false 4 0 := by decide
theorem p10_1 : Own.p10 1 = Own.fl false 10 0 := rfl
theorem p10_2 : Own.p10 2 = Own.fl false 100 0 := rfl
theorem p10_0 : Own.p10 0 = Own.fl false 1 0 := rfl
theorem bits_quo {x y r : Nat} (h : Ieee.double.div x y = some r) : floatBits .quo .f64 x y = some r := h
theorem bits_add {x y r : Nat} (h : Ieee.double.add x y = some r) : floatBits .add .f64 x y = some r := h
theorem bits_mul {x y r : Nat} (h : Ieee.double.mul x y = some r) : floatBits .mul .f64 x y = some r := h
theorem flop_of {op : BinOp} {x y r : Nat} (h : floatBits op .f64 x y = some r) : Own.flop op x y = r := by unfold Own.flop; rw [h]; rfl
theorem b53 {n : Nat} (h : n < 1000000000000000) : n < 2 ^ 53 := Nat.lt_of_lt_of_le h (by decide)
/-- Quarters: j / 4 is j * 2 ^ -2; a whole number and quarters. -/
theorem quarter {j : Nat} (h : j < 1000000000000000) : floatBits .quo .f64 (Own.fl false j 0) (Own.fl false 4 0) = some (Own.fl false j (-2)) := by
  have := Own.div_fl (s := false) (t := false) (N := j) (M := 4) (K := j) (c := 2) (p := 0) (q := 0) (b53 h) (by decide) (by decide) (by omega) (by omega) (by omega) (by omega)
  exact bits_quo this
theorem whole_quarters {v j : Nat} (hv : v < 1000000000000) (hj : j < 4) : floatBits .add .f64 (Own.fl false v 0) (Own.fl false j (-2)) = some (Own.fl false (4 * v + j) (-2)) := by
  have e : Own.fl false v 0 = Own.fl false (v * 2 ^ 2) (-2) := by rw [Own.fl_scale]; rfl
  have h := Own.add_fl (s := false) (N := v * 2 ^ 2) (M := j) (d := 0) (p := -2) (b53 (by omega)) (b53 (by omega)) (by omega) (by omega)
  rw [e]
  refine bits_add (h.trans ?_)
  congr 2
  omega

theorem half_fl : (4602678819172646912 : Nat) = Own.fl false 1 (-1) := by decide
theorem word_mod (s : Bool) (r : Nat) (h : r < 9223372036854775808) : Ieee.double.word s r % 9223372036854775808 = r := by
  cases s
  · rw [Own.word_false]; omega
  · rw [Own.word_true]; omega
theorem abs_fl (s : Bool) (N : Nat) (p : Int) : Own.fl s N p % 9223372036854775808 = Own.fl false N p := by
  unfold Own.fl Ieee.Format.nearest
  by_cases h : N = 0
  · rw [if_pos h, if_pos h, word_mod _ _ (by decide), Own.word_false]
  · rw [if_neg h, if_neg h]
    simp only [Own.inf, Own.bin]
    have e : ∀ (a b : Nat), Ieee.Toward.even.cut s a b = Ieee.Toward.even.cut false a b := fun a b => rfl
    rw [e, word_mod _ _ (by omega), Own.word_false]
theorem fl_lt (s : Bool) (N : Nat) (p : Int) : Own.fl s N p < 18446744073709551616 := by
  have h := abs_fl s N p
  have h2 : Own.fl s N p < 2 ^ 64 := Ieee.Format.write_lt (f := Ieee.double) (.number s N p)
  simpa using h2
theorem max_read : Ieee.double.read 9218868437227405311 = .number false 9007199254740991 971 := by decide
theorem not_inf {N : Nat} (hN : N < 2 ^ 53) : (FloatKind.f64.format.order (Own.fl false N 0) 9218868437227405311 == some Ordering.gt) = false := by
  show (Ieee.double.order _ _ == _) = false
  unfold Ieee.Format.order
  rw [max_read]
  by_cases h0 : N = 0
  · subst h0
    rw [Own.read_fl0]
    simp only [Ieee.Datum.order, Own.signed_false]
    rw [Nat.zero_mul]
    have hp := Nat.two_pow_pos ((971 : Int) - min (-1074) 971).toNat
    generalize 2 ^ ((971 : Int) - min (-1074) 971).toNat = j at hp
    have : compare ((0 : Nat) : Int) ((9007199254740991 * j : Nat) : Int) ≠ .gt := by
      intro h
      have := Int.compare_eq_gt.1 h
      omega
    cases hc : compare ((0 : Nat) : Int) ((9007199254740991 * j : Nat) : Int) <;> simp_all
  · rw [Own.read_fl h0 hN (by omega) (by omega)]
    have l1 := Own.log2_lt hN
    obtain ⟨b1, b2⟩ := Own.norm_bounds h0 hN
    generalize N * 2 ^ (52 - N.log2) = K at b1 b2 ⊢
    simp only [Ieee.Datum.order, Own.signed_false]
    have e1 : ((0 : Int) + (N.log2 : Int) - 52 - min (0 + (N.log2 : Int) - 52) 971).toNat = 0 := by omega
    rw [e1, Nat.pow_zero, Nat.mul_one]
    generalize ((971 : Int) - min (0 + (N.log2 : Int) - 52) 971).toNat = j
    have hp := Nat.two_pow_pos j
    have hle : K ≤ 9007199254740991 * 2 ^ j := Nat.le_trans (by omega) (Nat.le_mul_of_pos_right _ hp)
    generalize 9007199254740991 * 2 ^ j = Y at hle
    have : compare (K : Int) (Y : Int) ≠ .gt := by
      intro h
      have := Int.compare_eq_gt.1 h
      omega
    cases hc : compare (K : Int) (Y : Int) <;> simp_all
theorem add_comm_fl (a b : Nat) {s t : Bool} {m n : Nat} {i j : Int} (ha : Ieee.double.read a = .number s m i) (hb : Ieee.double.read b = .number t n j) : Ieee.double.add a b = Ieee.double.add b a := by
  unfold Ieee.Format.add
  rw [ha, hb]
  simp only [Ieee.Datum.sum]
  rw [Int.min_comm j i, Int.add_comm (Ieee.signed t n _), Bool.and_comm t s]
theorem read_any {s : Bool} {N : Nat} {p : Int} (hN : N < 2 ^ 53) (hp : -900 ≤ p ∧ p ≤ 900) : ∃ m i, Ieee.double.read (Own.fl s N p) = .number s m i := by
  by_cases h0 : N = 0
  · subst h0; exact ⟨_, _, Own.read_fl0⟩
  · exact ⟨_, _, Own.read_fl h0 hN hp.1 hp.2⟩
/-- Half a unit added away from zero. -/
theorem half_away {s : Bool} {M d : Nat} (hM : M < 2 ^ 53) (hd : d ≤ 40) : Ieee.double.add (Own.fl s M d) (Own.fl s 1 (-1)) = some (Own.fl s (1 + M * 2 ^ (d + 1)) (-1)) := by
  obtain ⟨m, i, e1⟩ := read_any (s := s) hM (p := d) (by omega)
  obtain ⟨m2, i2, e2⟩ := read_any (s := s) (N := 1) (p := -1) (by decide) (by omega)
  rw [add_comm_fl _ _ e1 e2]
  have := Own.add_fl (s := s) (N := 1) (M := M) (d := d + 1) (p := -1) (by decide) hM (by omega) (by omega)
  have e : (-1 : Int) + ((d + 1 : Nat) : Int) = (d : Int) := by omega
  rw [e] at this
  exact this
theorem half_down {M d : Nat} (hM : M < 2 ^ 53) (hd : d ≤ 40) : Ieee.double.sub (Own.fl true M d) (Own.fl false 1 (-1)) = some (Own.fl true (1 + M * 2 ^ (d + 1)) (-1)) := by
  have := half_away (s := true) hM hd
  rw [← this]
  unfold Ieee.Format.sub Ieee.Format.add
  rw [Own.read_fl (s := false) (N := 1) (p := -1) (by decide) (by decide) (by omega) (by omega), Own.read_fl (s := true) (N := 1) (p := -1) (by decide) (by decide) (by omega) (by omega)]
  rfl
theorem cut_zero {s : Bool} {n k : Nat} (h : k ≤ n.log2 + 2) : Ieee.Toward.zero.cut s n k = n / 2 ^ k := by
  unfold Ieee.Toward.cut
  rw [Nat.min_eq_left h, Nat.shiftLeft_eq, Nat.one_mul]
  simp
/-- What is left of a number and a half where the format has no halves: the number. -/
theorem cut_half {s : Bool} {K j : Nat} (hj : j = 0 → K % 2 = 0) (hK : 4503599627370496 ≤ K) : Ieee.Toward.even.cut s (1 + K * 2 ^ (j + 1)) (j + 1) = K := by
  have hlog : j + 1 ≤ (1 + K * 2 ^ (j + 1)).log2 + 2 := by
    have : 2 ^ (j + 1) ≤ 1 + K * 2 ^ (j + 1) := Nat.le_trans (Nat.le_mul_of_pos_left _ (by omega)) (Nat.le_add_left _ _)
    have := (Nat.le_log2 (by omega)).2 this
    omega
  unfold Ieee.Toward.cut
  rw [Nat.min_eq_left hlog, Nat.shiftLeft_eq, Nat.one_mul]
  have hp := Nat.two_pow_pos j
  have e2 : 2 ^ (j + 1) = 2 * 2 ^ j := by rw [Nat.pow_succ]; omega
  have hd : (1 + K * 2 ^ (j + 1)) / 2 ^ (j + 1) = K := by rw [Nat.add_mul_div_right _ _ (by omega), Nat.div_eq_of_lt (by omega)]; omega
  have hm : (1 + K * 2 ^ (j + 1)) % 2 ^ (j + 1) = 1 := by rw [Nat.add_mul_mod_self_right, Nat.mod_eq_of_lt (by omega)]
  simp only [hd, hm]
  have h1 : decide (2 ^ (j + 1) < 2 * 1) = false := decide_eq_false (by omega)
  rw [h1, Bool.false_or]
  by_cases h0 : j = 0
  · have := hj h0
    have : (K % 2 == 1) = false := by rw [this]; rfl
    rw [this, Bool.and_false]; rfl
  · have h3 : 2 ≤ 2 ^ j := by
      have := Nat.pow_le_pow_right (n := 2) (by omega) (show 1 ≤ j by omega)
      simpa using this
    have : (2 ^ (j + 1) == 2 * 1) = false := beq_false_of_ne (by omega)
    rw [this, Bool.false_and]; rfl
theorem log2_odd {V : Nat} (h : V ≠ 0) : (1 + V * 2).log2 = V.log2 + 1 := by
  have h1 := Nat.log2_self_le h
  have h2 := @Nat.lt_log2_self V
  refine (Nat.log2_eq_iff (by omega)).2 ⟨?_, ?_⟩
  · rw [Nat.pow_succ]; omega
  · rw [Nat.pow_succ]; omega
/-- A whole number and a half, cut to a whole number. -/
theorem trunc_half {s : Bool} {M d : Nat} (hM : M < 1125899906842624 * 4) (hd : d ≤ 40) (hodd : d = 0 → M < 1000000000000000) : (Ieee.double.read (Own.fl s (1 + M * 2 ^ (d + 1)) (-1))).toInt .zero = some (Ieee.signed s (M * 2 ^ d) 0) := by
  have hM53 : M < 2 ^ 53 := Nat.lt_of_lt_of_le hM (by decide)
  obtain ⟨V, hV⟩ : ∃ V, V = M * 2 ^ d := ⟨_, rfl⟩
  have hN : 1 + M * 2 ^ (d + 1) = 1 + V * 2 := by rw [hV, Nat.pow_succ, ← Nat.mul_assoc]
  rw [hN, ← hV]
  by_cases hs : 1 + V * 2 < 2 ^ 53
  · rw [Own.read_fl (by omega) hs (by omega) (by omega)]
    have hl := Own.log2_lt hs
    obtain ⟨b1, b2⟩ := Own.norm_bounds (by omega) hs
    have hlog : ((1 + V * 2) * 2 ^ (52 - (1 + V * 2).log2)).log2 = 52 := by rw [Own.log2_mul (by omega)]; omega
    unfold Ieee.Datum.toInt Ieee.Datum.integral
    simp only
    have e1 : ((-1 : Int) + ((1 + V * 2).log2 : Int) - 52).toNat = 0 := by omega
    have e2 : (-((-1 : Int) + ((1 + V * 2).log2 : Int) - 52)).toNat = 52 - (1 + V * 2).log2 + 1 := by omega
    rw [e1, e2, Nat.shiftLeft_zero, cut_zero (by omega)]
    have e3 : (1 + V * 2) * 2 ^ (52 - (1 + V * 2).log2) / 2 ^ (52 - (1 + V * 2).log2 + 1) = V := by
      rw [Nat.pow_succ, ← Nat.div_div_eq_div_mul, Nat.mul_div_cancel _ (Nat.two_pow_pos _)]
      omega
    rw [e3]
  · have hV0 : V ≠ 0 := by omega
    have hM0 : M ≠ 0 := by intro h; rw [h, Nat.zero_mul] at hV; omega
    have hVlo : 4503599627370496 ≤ V := by have := Own.p53; omega
    have hlv : V.log2 = M.log2 + d := by rw [hV, Own.log2_mul hM0]
    have hl := Own.log2_lt hM53
    have h52 : 52 ≤ V.log2 := (Nat.le_log2 hV0).2 (by have := Own.p52; omega)
    obtain ⟨j, hj⟩ : ∃ j, j = V.log2 - 52 := ⟨_, rfl⟩
    obtain ⟨K, hK⟩ : ∃ K, K = M * 2 ^ (d - j) := ⟨_, rfl⟩
    have hVK : V = K * 2 ^ j := by rw [hV, hK, Nat.mul_assoc, ← Nat.pow_add]; congr 2; omega
    have hK52 : K.log2 = 52 := by rw [hK, Own.log2_mul hM0]; omega
    have hK0 : K ≠ 0 := by intro h; rw [h] at hK52; simp at hK52
    have hKlo : 4503599627370496 ≤ K := by have := Nat.log2_self_le hK0; rw [hK52, Own.p52] at this; exact this
    have hfl : Own.fl s (1 + V * 2) (-1) = Own.fl s M d := by
      have e0 : Own.fl s M d = Own.fl s V 0 := by rw [hV, Own.fl_scale]; congr 1; omega
      rw [e0]
      unfold Own.fl Ieee.Format.nearest
      rw [if_neg (by omega), if_neg hV0]
      simp only [Own.fb, Own.lp, log2_odd hV0]
      have hlast : max ((-1 : Int) + ((V.log2 + 1 : Nat) : Int) - ((52 : Nat) : Int)) (-1074) = (j : Int) := by omega
      have hlast2 : max ((0 : Int) + (V.log2 : Int) - ((52 : Nat) : Int)) (-1074) = (j : Int) := by omega
      rw [hlast, hlast2]
      have a1 : ((-1 : Int) - (j : Int)).toNat = 0 := by omega
      have a2 : ((j : Int) - (-1)).toNat = j + 1 := by omega
      have a3 : ((0 : Int) - (j : Int)).toNat = 0 := by omega
      have a4 : ((j : Int) - 0).toNat = j := by omega
      rw [a1, a2, a3, a4, Nat.shiftLeft_zero, Nat.shiftLeft_zero]
      have c1 : 1 + V * 2 = 1 + K * 2 ^ (j + 1) := by rw [hVK, Nat.pow_succ, Nat.mul_assoc]
      have c2 : Ieee.Toward.even.cut s V j = K := by rw [hVK]; exact Own.cut_exact (by rw [← hVK]; omega)
      rw [c2, c1, cut_half ?_ hKlo]
      intro hj0
      rw [hj0, Nat.pow_zero, Nat.mul_one] at hVK
      have hd0 : d ≠ 0 := by intro h; have := hodd h; rw [h, Nat.pow_zero, Nat.mul_one] at hV; omega
      obtain ⟨d', rfl⟩ : ∃ d', d = d' + 1 := ⟨d - 1, by omega⟩
      rw [← hVK, hV, Nat.pow_succ, ← Nat.mul_assoc]
      omega
    rw [hfl, Own.read_fl hM0 hM53 (by omega) (by omega)]
    unfold Ieee.Datum.toInt Ieee.Datum.integral
    simp only
    have e2 : (-((d : Int) + (M.log2 : Int) - 52)).toNat = 0 := by omega
    have e3 : ((d : Int) + (M.log2 : Int) - 52).toNat = j := by omega
    rw [e2, e3, cut_zero (by omega), Nat.pow_zero, Nat.div_one, Nat.shiftLeft_eq]
    have e4 : M * 2 ^ (52 - M.log2) * 2 ^ j = V := by rw [hV, Nat.mul_assoc, ← Nat.pow_add]; congr 2; omega
    rw [e4]

theorem lenint_own (a : Int) (h : -9223372036854775808 ≤ a ∧ a ≤ 9223372036854775807) : Own.tdstrconv_LenInt.f a = some ((intText a).length : Int) := by
  unfold Own.tdstrconv_LenInt.f intText
  have hl := digs_len 20 a.natAbs
  by_cases hn : a < 0
  · rw [if_pos hn, if_pos hn]
    by_cases hm : a = -9223372036854775808
    · rw [if_pos hm]
      subst hm
      rfl
    · rw [if_neg hm, w64 (by omega) (by omega), wu (by omega) (by omega), show (-a : Int) = ((a.natAbs : Nat) : Int) by omega, lenuint_eq _ (by omega), Option.bind_some, w64 (by omega) (by omega), List.length_cons]
      congr 1
      omega
  · rw [if_neg hn, if_neg hn, wu (by omega) (by omega), show (a : Int) = ((a.natAbs : Nat) : Int) by omega]
    have := lenuint_eq a.natAbs (by omega)
    simp only [this, Option.bind_some, Int.natAbs_natCast]
theorem dz_eq : ∀ f n, n ≠ 0 → n < 10 ^ f → Own.dz f n = digs f n
  | 0, n, h0, h => by simp at h; omega
  | f + 1, n, h0, h => by
    unfold Own.dz digs
    rw [if_neg h0]
    by_cases h1 : n / 10 = 0
    · rw [if_pos h1, h1, Own.dz_zero]; rfl
    · rw [if_neg h1, dz_eq f (n / 10) h1 (by rw [Nat.pow_succ] at h; omega)]
theorem itoa_eq (a : Int) (h : -9223372036854775808 ≤ a ∧ a ≤ 9223372036854775807) : Own.itoa a = intText a := by
  unfold Own.itoa intText
  by_cases h0 : a = 0
  · subst h0; rfl
  · rw [if_neg h0, dz_eq 20 _ (by omega) (by omega)]
theorem inttext_len (a : Int) : (intText a).length ≤ 21 := by
  have := digs_len 20 a.natAbs
  unfold intText
  split
  · simp; omega
  · omega
theorem bits_sub {x y r : Nat} (h : Ieee.double.sub x y = some r) : floatBits .sub .f64 x y = some r := h
theorem p10_five (d : Nat) : Own.p10 d = Own.fl false (5 ^ d) d := by
  unfold Own.p10
  rw [show (10 : Nat) = 5 * 2 from rfl, Nat.mul_pow, Own.fl_scale]
  congr 1
  omega
theorem five_le {d : Nat} (h : d ≤ 9) : 5 ^ d ≤ 1953125 := Nat.le_trans (Nat.pow_le_pow_right (by decide) h) (by decide)
theorem wd_eq (n : Int) (hn : -999999999 ≤ n ∧ n ≤ 999999999) (d : Nat) (hd : d ≤ 9) : Own.impl_WriteDecimal.f [] (floatOfInt .f64 n) (d : Int) = some (intText n) := by
  obtain ⟨s, hs⟩ : ∃ s, s = decide (n < 0) := ⟨_, rfl⟩
  obtain ⟨N, hN⟩ : ∃ N, N = n.natAbs := ⟨_, rfl⟩
  have hx : floatOfInt .f64 n = Own.fl s N 0 := by rw [Own.ofInt_fl, hs, hN]
  have h5 := five_le hd
  have hN9 : N ≤ 999999999 := by omega
  obtain ⟨M, hM⟩ : ∃ M, M = N * 5 ^ d := ⟨_, rfl⟩
  have hMb : M ≤ 999999999 * 1953125 := by rw [hM]; exact Nat.mul_le_mul hN9 h5
  have hM53 : M < 2 ^ 53 := Nat.lt_of_le_of_lt hMb (by decide)
  have hM10 : M * 2 ^ d = N * 10 ^ d := by rw [hM, Nat.mul_assoc, ← Nat.mul_pow]
  have hP : Ieee.double.mul (Own.p32 0) (Own.p10 d) = some (Own.fl false (5 ^ d) d) := by
    rw [p10_five]
    have := Own.mul_fl (s := false) (t := false) (N := 1) (M := 5 ^ d) (p := 0) (q := d) (by decide) (Nat.lt_of_le_of_lt h5 (by decide)) (by omega) (by omega)
    rw [Bool.xor_false, Nat.one_mul, Int.zero_add] at this
    exact this
  have hF : Ieee.double.mul (Own.fl s N 0) (Own.fl false (5 ^ d) d) = some (Own.fl s M d) := by
    have := Own.mul_fl (s := s) (t := false) (N := N) (M := 5 ^ d) (p := 0) (q := d) (b53 (by omega)) (Nat.lt_of_le_of_lt h5 (by decide)) (by omega) (by omega)
    rw [Bool.xor_false, Int.zero_add, ← hM] at this
    exact this
  have wP : Own.wdP d = Own.fl false (5 ^ d) d := flop_of (bits_mul hP)
  have wF : Own.wdF (Own.fl s N 0) d = Own.fl s M d := by unfold Own.wdF; rw [wP]; exact flop_of (bits_mul hF)
  have hMs : M = 0 ↔ n = 0 := by
    rw [hM]
    have : 0 < 5 ^ d := Nat.pow_pos (by decide)
    constructor
    · intro h
      rcases Nat.mul_eq_zero.1 h with h | h <;> omega
    · intro h
      have : N = 0 := by omega
      rw [this, Nat.zero_mul]
  have wLe : Own.wdLe (Own.fl s N 0) d = decide (0 ≤ n) := by
    unfold Own.wdLe
    rw [wF]
    show (Ieee.double.order 0 _ == _ || Ieee.double.order 0 _ == _) = _
    have e0 : (0 : Nat) = Own.fl false 0 0 := by decide
    rw [e0]
    by_cases h0 : M = 0
    · have := hMs.1 h0
      rw [h0, Own.order_zero, decide_eq_true (by omega)]; rfl
    · have hn0 : ¬ n = 0 := fun h => h0 (hMs.2 h)
      rw [(Own.order_sign (s := s) (q := 0) hM53 h0 (by omega)).2]
      cases s
      · have := of_decide_eq_false hs.symm
        rw [decide_eq_true (by omega)]; rfl
      · have := of_decide_eq_true hs.symm
        rw [decide_eq_false (by omega)]; rfl
  have hAdd : (if 0 ≤ n then Ieee.double.add (Own.fl s M d) 4602678819172646912 else Ieee.double.sub (Own.fl s M d) 4602678819172646912) = some (Own.fl s (1 + M * 2 ^ (d + 1)) (-1)) := by
    rw [half_fl]
    cases s
    · have := of_decide_eq_false hs.symm
      rw [if_pos (by omega)]
      exact half_away hM53 (by omega)
    · have := of_decide_eq_true hs.symm
      rw [if_neg (by omega)]
      exact half_down hM53 (by omega)
  have wG : Own.wdG (Own.fl s N 0) d = Own.fl s (1 + M * 2 ^ (d + 1)) (-1) := by
    unfold Own.wdG
    rw [wLe, wF]
    by_cases h : 0 ≤ n
    · rw [if_pos h] at hAdd
      rw [if_pos (decide_eq_true h)]
      exact flop_of (bits_add hAdd)
    · rw [if_neg h] at hAdd
      rw [if_neg (by simpa using h)]
      exact flop_of (bits_sub hAdd)
  have hsg : Ieee.signed s (M * 2 ^ d) 0 = n * 10 ^ d := by
    rw [hM10]
    have ec : ((N * 10 ^ d : Nat) : Int) = (N : Int) * 10 ^ d := by rw [Int.natCast_mul, Int.natCast_pow]; rfl
    cases s
    · have := of_decide_eq_false hs.symm
      rw [Own.signed_false, Nat.pow_zero, Nat.mul_one, ec]
      congr 1
      omega
    · have := of_decide_eq_true hs.symm
      rw [Own.signed_true, Nat.pow_zero, Nat.mul_one, ec, ← Int.neg_mul]
      congr 1
      omega
  have hbd := Own.pow_bd hn hd
  have hCv : floatToIntVal .f64 (Own.fl s (1 + M * 2 ^ (d + 1)) (-1)) .i64 = some (n * 10 ^ d) := by
    have ht := trunc_half (s := s) (M := M) (d := d) (Nat.lt_of_le_of_lt hMb (by decide)) (by omega) (fun h => by rw [hM, h, Nat.pow_zero, Nat.mul_one]; omega)
    rw [hsg] at ht
    have ht2 : (FloatKind.f64.decode (Own.fl s (1 + M * 2 ^ (d + 1)) (-1))).toInt .zero = some (n * 10 ^ d) := ht
    unfold floatToIntVal
    rw [ht2]
    exact if_pos hbd
  have wV : Own.wdV (Own.fl s N 0) d = n * 10 ^ d := by unfold Own.wdV; rw [wG, hCv]; rfl
  have wN : Own.wdN (Own.fl s N 0) d = n := by
    unfold Own.wdN
    rw [wV]
    exact Int.mul_ediv_cancel _ (Int.ne_of_gt (Int.pow_pos (by decide)))
  have hi : -9223372036854775808 ≤ n ∧ n ≤ 9223372036854775807 := by omega
  have hLen : Own.wdLen n = true := by
    unfold Own.wdLen
    rw [itoa_eq n hi, lenint_own n hi]
    simp
  rw [hx]
  unfold Own.impl_WriteDecimal.f
  rw [if_pos, wN, List.nil_append, itoa_eq n hi]
  unfold Own.wdOk
  refine decide_eq_true ?_
  rw [wN, wV, wG, wF, wP, wLe]
  have ho := Own.order_self (s := s) (N := N) (p := 0) (b53 (by omega)) (by omega)
  refine ⟨by simp, by omega, hn, hLen, rfl, fl_lt _ _ _, ?_, ?_, hP, hF, rfl, hAdd, hCv⟩
  · show (Ieee.double.order _ _ != _) = false
    rw [ho]; rfl
  · rw [abs_fl]
    exact not_inf (b53 (by omega))
theorem FnNumberDecimalText : laws_FnNumberDecimalText.Pure := by
  intro n d hn hd
  have hi := i64_bd hn
  refine Ev.rounds ?_
  unfold laws_FnNumberDecimalText.f
  have ht := inttext_len n
  have start : ∀ q : Bool, (q = false → (-999999999 ≤ n ∧ n ≤ 999999999) ∧ 0 ≤ d ∧ d ≤ 9) → Ev (fun k => laws_FnNumberDecimalText.j0 k n d q) true := by
    intro q hq
    refine Ev.step (fun _ => laws_FnNumberDecimalText.j0.eq_2 ..) (EvIte (fun _ => Ev.now _) (fun h => ?_))
    obtain ⟨h9, d0, d9⟩ := hq (by simpa using h)
    obtain ⟨i, rfl⟩ := Int.eq_ofNat_of_zero_le d0
    have hw := wd_eq n h9 i (by omega)
    generalize Own.impl_WriteDecimal.f = F at hw ⊢
    generalize floatOfInt .f64 n = X at hw ⊢
    refine EvGet hw (Ev.bind (inttext_ev n hi) (Ev.bind (same_ev _ _ (by omega)) (EvNow (by simp))))
  have yes := start true (by simp)
  refine EvIte (fun _ => yes) (fun h1 => EvIte (fun _ => yes) (fun h2 => EvIte (fun _ => yes) (fun h3 => start _ (fun hq => ?_))))
  have := of_decide_eq_false hq
  omega

end Go.Proofs.YtipfnfhglhflgaaDoor.Pure
