/- FnNumberDecimal, its pure statement: a number with decimals in quarters, or with none, is read exactly where no exponent is read. For all byte lists. -/
import Derived.Test.YtipfnfhglhflgaaDoorAid
import Derived.Test.YtipfnfhglhflgaaDoorPFnNumberDecimalx0
import Derived.Test.YtipfnfhglhflgaaDoorPFnNumberDecimalx1
import Derived.Test.YtipfnfhglhflgaaDoorPFnNumberDecimalx2
namespace Go.Proofs.YtipfnfhglhflgaaDoor.Pure
open Go.RowKit Go.Proofs.YtipfnfhglhflgaaDoor.PFnNumberDecimal Go.Proofs.YtipfnfhglhflgaaDoorW.PrintWords Go.Proofs.YtipfnfhglhflgaaDoorW.PrintLast Go.Proofs.YtipfnfhglhflgaaDoor.Aid
set_option linter.unusedVariables false
set_option linter.unusedSimpArgs false

theorem join_loop (ls : List (List Int)) (hl : ls.length ≤ 1000) : ∀ (n i : Nat) (acc : List Int), i + n = ls.length → acc.length + (ls.drop i).flatten.length < 140737488355328 →
    Ev (fun k => spec_Join.l0 k acc ls (ls.length : Int) (i : Int)) (acc ++ (ls.drop i).flatten)
  | 0, i, acc, hi, hs => by
    refine Ev.step (fun _ => spec_Join.l0.eq_2 ..) (EvNeg (by omega) ?_)
    rw [List.drop_of_length_le (by omega)]
    simp only [List.flatten_nil, List.append_nil]
    exact Ev.now _
  | n + 1, i, acc, hi, hs => by
    have hlt : i < ls.length := by omega
    have e : rd_L1 ls (i : Int) = ls[i] := by unfold rd_L1; simp [List.getD_eq_getElem?_getD, List.getElem?_eq_getElem hlt]
    rw [drop_cons hlt, List.flatten_cons, List.length_append] at hs
    refine Ev.step (fun _ => spec_Join.l0.eq_2 ..) (EvPos (by omega) (EvPos (by omega) (EvPos (by omega) ?_)))
    rw [e, wn hlt (by omega), drop_cons hlt, List.flatten_cons, ← List.append_assoc]
    refine EvPos (by omega) ?_
    exact join_loop ls hl n (i + 1) (acc ++ ls[i]) (by omega) (by rw [List.length_append]; omega)
theorem join_ev (ls : List (List Int)) (hl : ls.length ≤ 1000) (hs : ls.flatten.length < 140737488355328) : Ev (fun k => spec_Join.f k ls) ls.flatten := by
  have := join_loop ls hl ls.length 0 [] (by omega) (by simpa using hs)
  unfold spec_Join.f
  simpa using this

def val (ds : List Int) : Int := ds.foldl (fun n c => 10 * n + (c - 48)) 0
def Digs (ds : List Int) : Prop := ∀ c ∈ ds, 48 ≤ c ∧ c ≤ 57
theorem val_snoc (ds : List Int) (c : Int) : val (ds ++ [c]) = 10 * val ds + (c - 48) := by simp [val]
theorem val_bd : ∀ (n : Nat) (ds : List Int), ds.length = n → Digs ds → 0 ≤ val ds ∧ val ds < 10 ^ n
  | 0, ds, h, _ => by
    obtain rfl := List.eq_nil_of_length_eq_zero h
    simp [val]
  | n + 1, ds, h, hd => by
    obtain ⟨ds', c, rfl⟩ : ∃ ds' c, ds = ds' ++ [c] := ⟨ds.dropLast, ds.getLast (by intro e; subst e; simp at h), (List.dropLast_concat_getLast _).symm⟩
    rw [List.length_append] at h
    have ih := val_bd n ds' (by simpa using h) (fun x hx => hd x (List.mem_append_left _ hx))
    have hc := hd c (by simp)
    rw [val_snoc, Int.pow_succ]
    omega
theorem pow_le {n m : Nat} (h : n ≤ m) : (10 : Int) ^ n ≤ 10 ^ m := by
  have := Nat.pow_le_pow_right (n := 10) (by omega) h
  exact_mod_cast this
theorem val18 {ds : List Int} (h : ds.length ≤ 18) (hd : Digs ds) : 0 ≤ val ds ∧ val ds < 1000000000000000000 := by
  have h1 := val_bd _ ds rfl hd
  have h2 := pow_le h
  have e : (10 : Int) ^ 18 = 1000000000000000000 := by decide
  omega
theorem Digs.take {ds : List Int} (h : Digs ds) (i : Nat) : Digs (ds.take i) := fun c hc => h c (List.mem_of_mem_take hc)
theorem take_snoc {ds : List Int} {i : Nat} (h : i < ds.length) : ds.take (i + 1) = ds.take i ++ [ds[i]] := by
  rw [List.take_succ_eq_append_getElem h]
theorem val_append_ge : ∀ (b a : List Int), Digs a → Digs b → val a ≤ val (a ++ b)
  | [], a, _, _ => by simp
  | c :: b, a, ha, hb => by
    have hc := hb c (by simp)
    have h0 := (val_bd _ a rfl ha).1
    have ih := val_append_ge b (a ++ [c]) (fun x hx => by
      rcases List.mem_append.1 hx with hx | hx
      · exact ha x hx
      · rw [List.mem_singleton.1 hx]; exact hc) (fun x hx => hb x (List.mem_cons_of_mem _ hx))
    rw [val_snoc, List.append_assoc, List.singleton_append] at ih
    omega
theorem val_take_le {ds : List Int} (hd : Digs ds) (i : Nat) : val (ds.take i) ≤ val ds := by
  have := val_append_ge (ds.drop i) (ds.take i) (hd.take _) (fun c hc => hd c (List.mem_of_mem_drop hc))
  rwa [List.take_append_drop] at this

def digB (ds : List Int) : Bool := (ds.all fun c => decide (48 ≤ c) && decide (c ≤ 57)) && (decide (1 ≤ ds.length) && decide (ds.length ≤ 18))
theorem digitsok_loop (ds : List Int) (hm : ds.length < 140737488355328) : ∀ (n i : Nat), i + n = ds.length →
    Ev (fun k => laws_digitsOk.l0 k ds ds (ds.length : Int) (i : Int)) (((ds.drop i).all fun c => decide (48 ≤ c) && decide (c ≤ 57)) && (decide (1 ≤ ds.length) && decide (ds.length ≤ 18)))
  | 0, i, hi => by
    refine Ev.step (fun _ => laws_digitsOk.l0.eq_2 ..) (EvNeg (by omega) ?_)
    rw [List.drop_of_length_le (by omega), List.all_nil, Bool.true_and]
    refine EvIte (fun h => EvNow ?_) (fun h => EvNow ?_)
    · rw [decide_eq_true (p := 1 ≤ ds.length) (by omega), Bool.true_and, Bool.eq_iff_iff]; simp; omega
    · rw [decide_eq_false (p := 1 ≤ ds.length) (by omega), Bool.false_and]
  | n + 1, i, hi => by
    have hlt : i < ds.length := by omega
    refine Ev.step (fun _ => laws_digitsOk.l0.eq_2 ..) (EvPos (by omega) (EvPos (by omega) (EvPos (by omega) ?_)))
    rw [rd_at hlt, wn hlt (by omega), drop_cons hlt, List.all_cons]
    refine EvIte (fun h => EvNow ?_) (fun h => EvIte (fun h2 => EvNow ?_) (fun h2 => ?_))
    · rw [decide_eq_false (by omega), Bool.false_and, Bool.false_and, Bool.false_and]
    · rw [decide_eq_false (p := ds[i] ≤ 57) (by omega), Bool.and_false, Bool.false_and, Bool.false_and]
    · rw [decide_eq_true (p := ds[i] ≤ 57) (by omega), decide_eq_true (by omega), Bool.true_and, Bool.true_and]
      exact digitsok_loop ds hm n (i + 1) (by omega)
theorem digitsok_ev (ds : List Int) (hm : ds.length < 140737488355328) : Ev (fun k => laws_digitsOk.f k ds) (digB ds) := by
  have := digitsok_loop ds hm ds.length 0 (by omega)
  unfold laws_digitsOk.f
  simpa [digB] using this
theorem digB_yes {ds : List Int} (h : digB ds = true) : Digs ds ∧ 1 ≤ ds.length ∧ ds.length ≤ 18 := by
  simp [digB] at h
  exact ⟨fun c hc => h.1 c hc, h.2.1, h.2.2⟩


theorem value_loop (ds : List Int) (h18 : ds.length ≤ 18) (hd : Digs ds) : ∀ (n i : Nat), i + n = ds.length →
    Ev (fun k => spec_Value.l0 k (val (ds.take i)) ds (ds.length : Int) (i : Int)) (val ds)
  | 0, i, hi => by
    refine Ev.step (fun _ => spec_Value.l0.eq_2 ..) (EvNeg (by omega) ?_)
    rw [List.take_of_length_le (by omega)]
    exact Ev.now _
  | n + 1, i, hi => by
    have hlt : i < ds.length := by omega
    have hc := hd _ (List.getElem_mem hlt)
    have hv := val18 (ds := ds.take (i + 1)) (by simp; omega) (hd.take _)
    have hv0 := val18 (ds := ds.take i) (by simp; omega) (hd.take _)
    rw [take_snoc hlt, val_snoc] at hv
    refine Ev.step (fun _ => spec_Value.l0.eq_2 ..) (EvPos (by omega) (EvPos (by omega) (EvPos (by omega) ?_)))
    rw [rd_at hlt, wn hlt (by omega)]
    have e : wrap64 (wrap64 (10 * val (ds.take i)) + (ds[i] - 48) % 256) = val (ds.take (i + 1)) := by
      rw [take_snoc hlt, val_snoc, Int.emod_eq_of_lt (by omega) (by omega), w64 (i := 10 * _) (by omega) (by omega), w64 (by omega) (by omega)]
    rw [e]
    exact value_loop ds h18 hd n (i + 1) (by omega)
theorem value_ev (ds : List Int) (h18 : ds.length ≤ 18) (hd : Digs ds) : Ev (fun k => spec_Value.f k ds) (val ds) := by
  have := value_loop ds h18 hd ds.length 0 (by omega)
  unfold spec_Value.f
  simpa [val] using this


/-- The digits' number, behind n. -/
def natv (ds : List Int) (n : Nat) : Nat := ds.foldl (fun m c => m * 10 + (c - 48).toNat) n
theorem natv_val : ∀ (ds : List Int) (n : Nat), Digs ds → (natv ds n : Int) = ds.foldl (fun m c => 10 * m + (c - 48)) (n : Int)
  | [], n, _ => rfl
  | c :: t, n, h => by
    have hc := h c (by simp)
    have ih := natv_val t (n * 10 + (c - 48).toNat) (fun x hx => h x (List.mem_cons_of_mem _ hx))
    have e : ((n * 10 + (c - 48).toNat : Nat) : Int) = 10 * (n : Int) + (c - 48) := by omega
    simp only [natv, List.foldl_cons] at ih ⊢
    rw [ih, e]
theorem natv_eq {ds : List Int} (h : Digs ds) : (natv ds 0 : Int) = val ds := natv_val ds 0 h

theorem fl_int {n : Int} (h : 0 ≤ n) : floatOfInt .f64 n = Own.fl false n.natAbs 0 := by
  rw [Own.ofInt_fl, decide_eq_false (by omega)]
theorem four_fl : (4616189618054758400 : Nat) = Own.fl false 4 0 := by decide
theorem p10_1 : Own.p10 1 = Own.fl false 10 0 := rfl
theorem p10_2 : Own.p10 2 = Own.fl false 100 0 := rfl
theorem p10_0 : Own.p10 0 = Own.fl false 1 0 := rfl
theorem bits_quo {x y r : Nat} (h : Ieee.double.div x y = some r) : floatBits .quo .f64 x y = some r := h
theorem bits_add {x y r : Nat} (h : Ieee.double.add x y = some r) : floatBits .add .f64 x y = some r := h
theorem bits_mul {x y r : Nat} (h : Ieee.double.mul x y = some r) : floatBits .mul .f64 x y = some r := h
theorem flop_of {op : BinOp} {x y r : Nat} (h : floatBits op .f64 x y = some r) : Own.flop op x y = r := by unfold Own.flop; rw [h]; rfl
theorem b53 {n : Nat} (h : n < 1000000000000000) : n < 2 ^ 53 := Nat.lt_of_lt_of_le h (by decide)
/-- Quarters: j / 4 is j * 2 ^ -2; a whole number and quarters. -/
theorem quarter {j : Nat} (h : j < 1000000000000000) : floatBits .quo .f64 (Own.fl false j 0) (Own.fl false 4 0) = some (Own.fl false j (-2)) := by
  have := Own.div_fl (s := false) (t := false) (N := j) (M := 4) (K := j) (c := 2) (p := 0) (q := 0) (b53 h) (by decide) (by decide) (by omega) (by omega) (by omega) (by omega)
  exact bits_quo this
theorem whole_quarters {v j : Nat} (hv : v < 1000000000000) (hj : j < 4) : floatBits .add .f64 (Own.fl false v 0) (Own.fl false j (-2)) = some (Own.fl false (4 * v + j) (-2)) := by
  have e : Own.fl false v 0 = Own.fl false (v * 2 ^ 2) (-2) := by rw [Own.fl_scale]; rfl
  have h := Own.add_fl (s := false) (N := v * 2 ^ 2) (M := j) (d := 0) (p := -2) (b53 (by omega)) (b53 (by omega)) (by omega) (by omega)
  rw [e]
  refine bits_add (h.trans ?_)
  congr 2
  omega

/-- The decimals of quarters. -/
def decs (j : Nat) : List Int := if j = 1 then [50, 53] else if j = 2 then [53] else [55, 53]
theorem Digs.cons {c : Int} {t : List Int} (h : 48 ≤ c ∧ c ≤ 57) (ht : Digs t) : Digs (c :: t) := fun x hx => by
  rcases List.mem_cons.1 hx with rfl | hx
  · exact h
  · exact ht x hx
theorem decs_digs (j : Nat) : Digs (decs j) := by unfold decs; split; exact Digs.cons (by decide) (Digs.cons (by decide) (fun x h => by cases h)); split; exact Digs.cons (by decide) (fun x h => by cases h); exact Digs.cons (by decide) (Digs.cons (by decide) (fun x h => by cases h))
theorem natv_lt {a : List Int} (ha : Digs a) (h12 : a.length ≤ 12) : natv a 0 < 1000000000000 := by
  have h1 := natv_eq ha
  have h2 := (val_bd _ a rfl ha).2
  have h3 := pow_le h12
  have e : (10 : Int) ^ 12 = 1000000000000 := by decide
  omega
theorem natv_decs (j : Nat) (n : Nat) (h1 : 1 ≤ j) (h3 : j ≤ 3) : (j = 1 ∧ natv (decs j) n = n * 100 + 25 ∧ (decs j).length = 2) ∨ (j = 2 ∧ natv (decs j) n = n * 10 + 5 ∧ (decs j).length = 1) ∨ (j = 3 ∧ natv (decs j) n = n * 100 + 75 ∧ (decs j).length = 2) := by
  obtain rfl | rfl | rfl : j = 1 ∨ j = 2 ∨ j = 3 := by omega
  · exact .inl ⟨rfl, by simp [decs, natv]; omega, rfl⟩
  · exact .inr (.inl ⟨rfl, by simp [decs, natv], rfl⟩)
  · exact .inr (.inr ⟨rfl, by simp [decs, natv]; omega, rfl⟩)
/-- The quotient: v and j quarters. -/
theorem quo_decs {s : Bool} {v j : Nat} (hv : v < 1000000000000) (h1 : 1 ≤ j) (h3 : j ≤ 3) : Ieee.double.div (Own.fl s (natv (decs j) v) 0) (Own.p10 (decs j).length) = some (Own.fl s (4 * v + j) (-2)) := by
  rcases natv_decs j v h1 h3 with ⟨rfl, e, l⟩ | ⟨rfl, e, l⟩ | ⟨rfl, e, l⟩
  · rw [e, l, p10_2]
    have := Own.div_fl (s := s) (t := false) (N := v * 100 + 25) (M := 100) (K := 4 * v + 1) (c := 2) (p := 0) (q := 0) (b53 (by omega)) (by decide) (by decide) (by omega) (by omega) (by omega) (by omega)
    rw [this, Bool.xor_false]; rfl
  · rw [e, l, p10_1]
    have := Own.div_fl (s := s) (t := false) (N := v * 10 + 5) (M := 10) (K := 2 * v + 1) (c := 1) (p := 0) (q := 0) (b53 (by omega)) (by decide) (by decide) (by omega) (by omega) (by omega) (by omega)
    rw [this, Bool.xor_false]
    have e2 : Own.fl s (4 * v + 2) (-2) = Own.fl s ((2 * v + 1) * 2 ^ 1) (-2) := by congr 1; omega
    rw [e2, Own.fl_scale]; rfl
  · rw [e, l, p10_2]
    have := Own.div_fl (s := s) (t := false) (N := v * 100 + 75) (M := 100) (K := 4 * v + 3) (c := 2) (p := 0) (q := 0) (b53 (by omega)) (by decide) (by decide) (by omega) (by omega) (by omega) (by omega)
    rw [this, Bool.xor_false]; rfl
theorem order_same (neg : Bool) {n : Nat} (h : n < 1000000000000000) : (Ieee.Format.order (FloatKind.format .f64) (Own.fl neg n (-2)) (Own.fl neg n (-2)) == some Ordering.eq) = true := by
  have := Own.order_self (s := neg) (N := n) (p := -2) (b53 h) ⟨by omega, by omega⟩
  show (Ieee.double.order _ _ == _) = true
  rw [this]
  rfl


theorem u64_bd {a : Int} (h : (Lit.int .u64 a).wf = true) : 0 ≤ a ∧ a ≤ 18446744073709551615 := by
  simp [Lit.wf, IntKind.min, IntKind.max, IntKind.signed, IntKind.bits] at h
  omega
/-- The decimal digits of a number, the least one last. -/
def digs : Nat → Nat → List Int
  | 0, _ => []
  | f + 1, n => if n / 10 = 0 then [(48 + ((n % 10 : Nat) : Int) : Int)] else digs f (n / 10) ++ [(48 + ((n % 10 : Nat) : Int) : Int)]
theorem digs_ok : ∀ f n, Digs (digs f n)
  | 0, _ => fun c hc => by cases hc
  | f + 1, n => by
    unfold digs
    split
    · intro c hc; rw [List.mem_singleton.1 hc]; omega
    · intro c hc
      rcases List.mem_append.1 hc with hc | hc
      · exact digs_ok f (n / 10) c hc
      · rw [List.mem_singleton.1 hc]; omega
theorem digs_val : ∀ f n, n < 10 ^ f → 0 < f → val (digs f n) = n
  | 0, n, h, h0 => by omega
  | f + 1, n, h, _ => by
    unfold digs
    split
    · simp [val]; omega
    · rename_i hne
      rw [val_snoc]
      have hf : 0 < f := by
        rcases Nat.eq_zero_or_pos f with e | e
        · subst e; simp at h; omega
        · exact e
      rw [digs_val f (n / 10) (by rw [Nat.pow_succ] at h; omega) hf]
      omega
theorem digs_len : ∀ f n, (digs f n).length ≤ f
  | 0, _ => by simp [digs]
  | f + 1, n => by
    unfold digs
    split
    · simp
    · have := digs_len f (n / 10); simp; omega
theorem digs_pos : ∀ f n, 0 < f → 0 < (digs f n).length
  | f + 1, n, _ => by
    unfold digs
    split <;> simp

theorem lenuint_aux (n : Nat) : ∀ f, f ≤ 20 → 0 < f → (∀ g : Nat, 0 < g → g < f → 10 ^ g ≤ n) → n < 10 ^ f → ∀ F, f ≤ F → (digs F n).length = f
  | 0, _, h0, _, _, _, _ => by omega
  | f + 1, hf, _, hlo, hhi, F, hF => by
    obtain ⟨F, rfl⟩ : ∃ G, F = G + 1 := ⟨F - 1, by omega⟩
    unfold digs
    rcases Nat.eq_zero_or_pos f with e | e
    · subst e
      rw [if_pos (by omega)]; rfl
    · have h1 := hlo f e (by omega)
      have h10 : 10 ≤ n := by
        have := Nat.pow_le_pow_right (n := 10) (by omega) e
        omega
      rw [if_neg (by omega), List.length_append, List.length_singleton]
      have := lenuint_aux (n / 10) f (by omega) e (fun g hg hgf => by
        have := hlo (g + 1) (by omega) (by omega)
        rw [Nat.pow_succ] at this
        omega) (by rw [Nat.pow_succ] at hhi; omega) F (by omega)
      omega
theorem lenuint_eq (n : Nat) (hn : n < 18446744073709551616) : Own.tdstrconv_LenUint.f (n : Int) = some ((digs 20 n).length : Int) := by
  have key : ∀ f : Nat, 0 < f → f ≤ 20 → (f = 1 ∨ 10 ^ (f - 1) ≤ n) → n < 10 ^ f → ((digs 20 n).length : Int) = f := by
    intro f h0 hf hlo hhi
    rw [lenuint_aux n f hf h0 (fun g hg hgf => by
      rcases hlo with h | h
      · omega
      · exact Nat.le_trans (Nat.pow_le_pow_right (by omega) (by omega)) h) hhi 20 hf]
  unfold Own.tdstrconv_LenUint.f
  by_cases c1 : (n : Int) < 10
  · rw [if_pos c1]; congr 1; exact (key 1 (by omega) (by omega) (.inl rfl) (by omega)).symm
  rw [if_neg c1]
  by_cases c2 : (n : Int) < 100
  · rw [if_pos c2]; congr 1; exact (key 2 (by omega) (by omega) (.inr (by omega)) (by omega)).symm
  rw [if_neg c2]
  by_cases c3 : (n : Int) < 1000
  · rw [if_pos c3]; congr 1; exact (key 3 (by omega) (by omega) (.inr (by omega)) (by omega)).symm
  rw [if_neg c3]
  by_cases c4 : (n : Int) < 10000
  · rw [if_pos c4]; congr 1; exact (key 4 (by omega) (by omega) (.inr (by omega)) (by omega)).symm
  rw [if_neg c4]
  by_cases c5 : (n : Int) < 100000
  · rw [if_pos c5]; congr 1; exact (key 5 (by omega) (by omega) (.inr (by omega)) (by omega)).symm
  rw [if_neg c5]
  by_cases c6 : (n : Int) < 1000000
  · rw [if_pos c6]; congr 1; exact (key 6 (by omega) (by omega) (.inr (by omega)) (by omega)).symm
  rw [if_neg c6]
  by_cases c7 : (n : Int) < 10000000
  · rw [if_pos c7]; congr 1; exact (key 7 (by omega) (by omega) (.inr (by omega)) (by omega)).symm
  rw [if_neg c7]
  by_cases c8 : (n : Int) < 100000000
  · rw [if_pos c8]; congr 1; exact (key 8 (by omega) (by omega) (.inr (by omega)) (by omega)).symm
  rw [if_neg c8]
  by_cases c9 : (n : Int) < 1000000000
  · rw [if_pos c9]; congr 1; exact (key 9 (by omega) (by omega) (.inr (by omega)) (by omega)).symm
  rw [if_neg c9]
  by_cases c10 : (n : Int) < 10000000000
  · rw [if_pos c10]; congr 1; exact (key 10 (by omega) (by omega) (.inr (by omega)) (by omega)).symm
  rw [if_neg c10]
  by_cases c11 : (n : Int) < 100000000000
  · rw [if_pos c11]; congr 1; exact (key 11 (by omega) (by omega) (.inr (by omega)) (by omega)).symm
  rw [if_neg c11]
  by_cases c12 : (n : Int) < 1000000000000
  · rw [if_pos c12]; congr 1; exact (key 12 (by omega) (by omega) (.inr (by omega)) (by omega)).symm
  rw [if_neg c12]
  by_cases c13 : (n : Int) < 10000000000000
  · rw [if_pos c13]; congr 1; exact (key 13 (by omega) (by omega) (.inr (by omega)) (by omega)).symm
  rw [if_neg c13]
  by_cases c14 : (n : Int) < 100000000000000
  · rw [if_pos c14]; congr 1; exact (key 14 (by omega) (by omega) (.inr (by omega)) (by omega)).symm
  rw [if_neg c14]
  by_cases c15 : (n : Int) < 1000000000000000
  · rw [if_pos c15]; congr 1; exact (key 15 (by omega) (by omega) (.inr (by omega)) (by omega)).symm
  rw [if_neg c15]
  by_cases c16 : (n : Int) < 10000000000000000
  · rw [if_pos c16]; congr 1; exact (key 16 (by omega) (by omega) (.inr (by omega)) (by omega)).symm
  rw [if_neg c16]
  by_cases c17 : (n : Int) < 100000000000000000
  · rw [if_pos c17]; congr 1; exact (key 17 (by omega) (by omega) (.inr (by omega)) (by omega)).symm
  rw [if_neg c17]
  by_cases c18 : (n : Int) < 1000000000000000000
  · rw [if_pos c18]; congr 1; exact (key 18 (by omega) (by omega) (.inr (by omega)) (by omega)).symm
  rw [if_neg c18]
  by_cases c19 : (n : Int) < 10000000000000000000
  · rw [if_pos c19]; congr 1; exact (key 19 (by omega) (by omega) (.inr (by omega)) (by omega)).symm
  rw [if_neg c19]
  congr 1; exact (key 20 (by omega) (by omega) (.inr (by omega)) (by omega)).symm

theorem lenuint_of {n f : Nat} (h0 : 0 < f) (hf : f ≤ 20) (hlo : f = 1 ∨ 10 ^ (f - 1) ≤ n) (hhi : n < 10 ^ f) (hn : n < 18446744073709551616) : Own.tdstrconv_LenUint.f (n : Int) = some (f : Int) := by
  rw [lenuint_eq n hn]
  congr 2
  exact lenuint_aux n f hf h0 (fun g hg hgf => by
    rcases hlo with h | h
    · omega
    · exact Nat.le_trans (Nat.pow_le_pow_right (by omega) (by omega)) h) hhi 20 hf
theorem natv_pow : ∀ (t : List Int) (m : Nat), Digs t → m * 10 ^ t.length ≤ natv t m ∧ natv t m < (m + 1) * 10 ^ t.length
  | [], m, _ => by simp [natv]
  | c :: t, m, h => by
    have hc := h c (by simp)
    obtain ⟨h1, h2⟩ := natv_pow t (m * 10 + (c - 48).toNat) (fun x hx => h x (List.mem_cons_of_mem _ hx))
    have e : natv (c :: t) m = natv t (m * 10 + (c - 48).toNat) := rfl
    rw [e, List.length_cons, Nat.pow_succ]
    have hd : (c - 48).toNat ≤ 9 := by omega
    constructor
    · refine Nat.le_trans ?_ h1
      rw [Nat.mul_comm (10 ^ t.length) 10, ← Nat.mul_assoc]
      exact Nat.mul_le_mul_right _ (by omega)
    · refine Nat.lt_of_lt_of_le h2 ?_
      rw [Nat.mul_comm (10 ^ t.length) 10, ← Nat.mul_assoc]
      exact Nat.mul_le_mul_right _ (by omega)
/-- Leading zeros, and what is behind them. -/
theorem split_zeros : ∀ (a : List Int), Digs a → ∃ (z : Nat) (b : List Int), a = List.replicate z 48 ++ b ∧ (b = [] ∨ ∃ c t, b = c :: t ∧ 49 ≤ c)
  | [], _ => ⟨0, [], rfl, .inl rfl⟩
  | c :: t, h => by
    by_cases hc : c = 48
    · obtain ⟨z, b, e, hb⟩ := split_zeros t (fun x hx => h x (List.mem_cons_of_mem _ hx))
      exact ⟨z + 1, b, by rw [e, hc]; rfl, hb⟩
    · have := h c (by simp)
      exact ⟨0, c :: t, rfl, .inr ⟨c, t, rfl, by omega⟩⟩
theorem scanD_zeros : ∀ (z : Nat) (rest : List Int) (i : Nat) (d : Option Nat) (n : Nat), Own.scanD (List.replicate z 48 ++ rest) i none d n = Own.scanD rest (i + z) none d n
  | 0, rest, i, d, n => rfl
  | z + 1, rest, i, d, n => by
    show Own.scanD (48 :: (List.replicate z 48 ++ rest)) i none d n = _
    rw [Own.scanD, if_pos (by omega), if_pos rfl, if_neg (by omega), scanD_zeros z rest (i + 1) d n]
    congr 1
    omega
theorem scanD_first {c : Int} (h : 49 ≤ c ∧ c ≤ 57) (t : List Int) (i : Nat) (d : Option Nat) (n : Nat) : Own.scanD (c :: t) i none d n = Own.scanD t (i + 1) (some i) d (c - 48).toNat := by
  rw [Own.scanD, if_pos (by omega), if_pos rfl, if_pos h.1]
theorem scanD_digs : ∀ (b rest : List Int) (i p : Nat) (d : Option Nat) (n : Nat), Digs b → Own.scanD (b ++ rest) i (some p) d n = Own.scanD rest (i + b.length) (some p) d (natv b n)
  | [], rest, i, p, d, n, _ => rfl
  | c :: t, rest, i, p, d, n, h => by
    have hc := h c (by simp)
    show Own.scanD (c :: (t ++ rest)) i (some p) d n = _
    rw [Own.scanD, if_pos hc, if_neg (by simp), scanD_digs t rest (i + 1) p d _ (fun x hx => h x (List.mem_cons_of_mem _ hx))]
    simp only [List.length_cons, natv, List.foldl_cons]
    congr 1
    omega
theorem scanD_point (rest : List Int) (i : Nat) (st : Option Nat) (n : Nat) : Own.scanD (46 :: rest) i st none n = Own.scanD rest (i + 1) st (some i) n := by
  rw [Own.scanD, if_neg (by omega), if_pos ⟨rfl, rfl⟩]
theorem natv_zeros (z : Nat) (b : List Int) : natv (List.replicate z 48 ++ b) 0 = natv b 0 := by
  induction z with
  | zero => rfl
  | succ z ih => exact ih
theorem sgn_fl (neg : Bool) : Own.sgnD neg = Own.fl neg 1 0 := by cases neg; rw [Own.sgnD_false]; decide; rw [Own.sgnD_true]; decide
theorem mul_sgn (neg : Bool) {n : Nat} (h : n < 1000000000000000) : Ieee.double.mul (Own.sgnD neg) (floatOfInt .f64 (n : Int)) = some (Own.fl neg n 0) := by
  rw [sgn_fl, fl_int (by omega)]
  have := Own.mul_fl (s := neg) (t := false) (N := 1) (M := n) (p := 0) (q := 0) (by decide) (b53 h) (by omega) (by omega)
  rw [Int.natAbs_natCast, this, Bool.xor_false, Nat.one_mul]
  rfl
theorem rdM_of {l : List Int} {neg : Bool} {e n : Nat} {st d : Option Nat} (h0 : decide (l.getD 0 0 = 45) = neg) (hr : Own.rdR l = (e, st, d, n)) (h : n < 1000000000000000) : Own.rdM l = Own.fl neg n 0 ∧ Own.rdMul l = true := by
  have hm := mul_sgn neg h
  have e1 : Own.rdM l = Own.fl neg n 0 := by
    unfold Own.rdM
    rw [h0, hr]
    exact flop_of (bits_mul hm)
  refine ⟨e1, ?_⟩
  unfold Own.rdMul
  rw [e1, h0, hr]
  exact decide_eq_true hm
theorem decs_cons (j : Nat) : ∃ c t, decs j = c :: t ∧ 49 ≤ c ∧ c ≤ 57 ∧ (t.length = 0 ∨ t.length = 1) := by
  unfold decs
  split
  · exact ⟨50, [53], rfl, by decide, by decide, .inr rfl⟩
  · split
    · exact ⟨53, [], rfl, by decide, by decide, .inl rfl⟩
    · exact ⟨55, [53], rfl, by decide, by decide, .inr rfl⟩
theorem natv_cons0 (c : Int) (t : List Int) : natv (c :: t) 0 = natv t (c - 48).toNat := by show natv t (0 * 10 + (c - 48).toNat) = _; rw [Nat.zero_mul, Nat.zero_add]
theorem natv_append (a b : List Int) (n : Nat) : natv (a ++ b) n = natv b (natv a n) := by unfold natv; rw [List.foldl_append]
/-- The number's digits are counted right where the first is no 0. -/
theorem lenuint_digs {c : Int} {t : List Int} (hd : Digs (c :: t)) (h : 49 ≤ c) (h16 : t.length ≤ 16) : Own.tdstrconv_LenUint.f ((natv (c :: t) 0 : Nat) : Int) = some ((t.length + 1 : Nat) : Int) := by
  have hc := hd c (by simp)
  have htd : Digs t := fun x hx => hd x (List.mem_cons_of_mem _ hx)
  obtain ⟨b1, b2⟩ := natv_pow t (c - 48).toNat htd
  have hn := natv_cons0 c t
  have hhi : natv (c :: t) 0 < 10 ^ (t.length + 1) := by
    rw [hn]
    refine Nat.lt_of_lt_of_le b2 ?_
    rw [Nat.pow_succ, Nat.mul_comm (10 ^ t.length) 10]
    exact Nat.mul_le_mul_right _ (by omega)
  have h17 : (10 : Nat) ^ (t.length + 1) ≤ 10 ^ 17 := Nat.pow_le_pow_right (by decide) (by omega)
  have e17 : (10 : Nat) ^ 17 = 100000000000000000 := by decide
  refine lenuint_of (by omega) (by omega) (.inr ?_) hhi (by omega)
  rw [Nat.add_sub_cancel, hn]
  exact Nat.le_trans (Nat.le_mul_of_pos_left _ (by omega)) b1
theorem dec_core {l : List Int} {neg : Bool} {p q n k r : Nat} {L : Int} (h0 : decide (l.getD 0 0 = 45) = neg) (hr : Own.rdR l = (l.length, some p, some q, n)) (hn : n < 1000000000000000) (hs : Own.rdS l < l.length) (h17 : l.length ≤ 17)
    (hL : Own.tdstrconv_LenUint.f (n : Int) = some L) (hk : l.length - q - 1 = k) (hx : Own.xDec q p L = -(k : Int)) (h1 : 0 ≤ L ∧ L ≤ 20 ∧ 1 ≤ k ∧ k ≤ 22 ∧ 2 ≤ l.length) (hq : Ieee.double.div (Own.fl neg n 0) (Own.p10 k) = some r) : Own.impl_ReadDecimal.f l = some (r, (l.length : Int)) := by
  have hbase : Own.rdBase l = true := by unfold Own.rdBase; rw [hr]; exact decide_eq_true ⟨h17, hs, rfl, (by show n < 10000000000000000; omega)⟩
  obtain ⟨hM, hMul⟩ := rdM_of h0 hr hn
  have e := flop_of (bits_quo hq)
  unfold Own.impl_ReadDecimal.f
  rw [if_pos hbase, hr]
  show (Own.tdstrconv_LenUint.f (n : Int)).bind _ = _
  rw [hL, Option.bind_some, hk, hM, e]
  exact if_pos ⟨hx, h1.1, h1.2.1, h1.2.2.1, h1.2.2.2.1, h1.2.2.2.2, hMul, hq⟩
theorem whole_scale (s : Bool) (v : Nat) : Own.fl s (4 * v + 0) (-2) = Own.fl s v 0 := by
  have e : 4 * v + 0 = v * 2 ^ 2 := by omega
  rw [e, Own.fl_scale]; rfl
theorem read_dec (neg : Bool) (l a : List Int) (j : Nat) (hl : l = (if neg = true then [45] else []) ++ (a ++ (if j = 0 then [] else 46 :: decs j))) (ha : Digs a) (h1 : 1 ≤ a.length) (h12 : a.length ≤ 12) (j3 : j ≤ 3) :
    ∃ r, Own.impl_ReadDecimal.f l = some (r, (l.length : Int)) ∧ (r = Own.fl neg (4 * natv a 0 + j) (-2) ∨ r = 0 ∧ natv a 0 = 0 ∧ j = 0) := by
  have hv := natv_lt ha h12
  have h0 : decide (l.getD 0 0 = 45) = neg := by
    rw [hl]
    cases neg
    · obtain ⟨c, t, rfl⟩ : ∃ c t, a = c :: t := by cases a with | nil => simp at h1 | cons c t => exact ⟨c, t, rfl⟩
      have := ha c (by simp)
      show decide (c = 45) = false; exact decide_eq_false (by omega)
    · rfl
  obtain ⟨s, hsd⟩ : ∃ s : Nat, s = (if neg = true then 1 else 0) := ⟨_, rfl⟩
  have hs : Own.rdS l = s := by unfold Own.rdS; rw [h0, hsd]
  have hs1 : s ≤ 1 := by rw [hsd]; split <;> omega
  have hdrop : l.drop s = a ++ (if j = 0 then [] else 46 :: decs j) := by rw [hl, hsd]; cases neg <;> rfl
  have hsl : l.length = s + (a.length + (if j = 0 then [] else 46 :: decs j : List Int).length) := by rw [hl, hsd]; cases neg <;> simp <;> omega
  have hr0 : Own.rdR l = Own.scanD (a ++ (if j = 0 then [] else 46 :: decs j)) s none none 0 := by unfold Own.rdR; rw [hs, hdrop]
  obtain ⟨z, b, hab, hb⟩ := split_zeros a ha
  have hbd : Digs b := fun x hx => ha x (by rw [hab]; exact List.mem_append_right _ hx)
  have hnb : natv a 0 = natv b 0 := by rw [hab, natv_zeros]
  have hlen : a.length = z + b.length := by rw [hab]; simp
  have p1516 : (1000000000000 : Nat) * 100 + 75 < 1000000000000000 := by decide
  rcases Nat.eq_zero_or_pos j with hj | hj
  · subst hj
    unfold Own.impl_ReadDecimal.f
    simp only [if_true, List.append_nil, List.length_nil, Nat.add_zero] at hr0 hsl
    rcases hb with rfl | ⟨c, t, rfl, hc49⟩
    · -- zeros alone
      rw [hab, scanD_zeros] at hr0
      have hr : Own.rdR l = (l.length, none, none, 0) := by rw [hr0, hsl, hlen]; simp [Own.scanD]
      have hbase : Own.rdBase l = true := by unfold Own.rdBase; rw [hr, hs]; exact decide_eq_true ⟨by omega, by omega, rfl, (by show (0:Nat) < 10000000000000000; decide)⟩
      refine ⟨0, ?_, .inr ⟨rfl, by rw [hnb]; rfl, rfl⟩⟩
      rw [if_pos hbase, hr]
    · have hc := hbd c (by simp)
      have htd : Digs t := fun x hx => hbd x (List.mem_cons_of_mem _ hx)
      have hn : natv (c :: t) 0 = natv t (c - 48).toNat := by show natv t (0 * 10 + (c - 48).toNat) = _; rw [Nat.zero_mul, Nat.zero_add]
      rw [hab, scanD_zeros, scanD_first ⟨hc49, hc.2⟩] at hr0
      have := scanD_digs t [] (s + z + 1) (s + z) none (c - 48).toNat htd
      rw [List.append_nil] at this
      rw [this, ← hn, ← hnb] at hr0
      have hr : Own.rdR l = (l.length, some (s + z), none, natv a 0) := by rw [hr0, hsl, hlen, List.length_cons]; simp only [Own.scanD]; congr 1; omega
      have hbase : Own.rdBase l = true := by unfold Own.rdBase; rw [hr, hs]; exact decide_eq_true ⟨by omega, by omega, rfl, (by show natv a 0 < 10000000000000000; omega)⟩
      obtain ⟨hM, hMul⟩ := rdM_of h0 hr (by omega)
      obtain ⟨b1, b2⟩ := natv_pow t (c - 48).toNat htd
      rw [List.length_cons] at hlen
      have hL : Own.tdstrconv_LenUint.f ((natv a 0 : Nat) : Int) = some (((t.length + 1 : Nat)) : Int) := by
        rw [hnb, hn]
        refine lenuint_of (by omega) (by omega) (.inr ?_) ?_ (by rw [← hn, ← hnb]; omega)
        · rw [Nat.add_sub_cancel]
          exact Nat.le_trans (Nat.le_mul_of_pos_left _ (by omega)) b1
        · refine Nat.lt_of_lt_of_le b2 ?_
          rw [Nat.pow_succ, Nat.mul_comm (10 ^ t.length) 10]
          exact Nat.mul_le_mul_right _ (by omega)
      have hm0 : Ieee.double.mul (Own.rdM l) (Own.p10 0) = some (Own.fl neg (natv a 0) 0) := by
        rw [hM, p10_0]
        have := Own.mul_fl (s := neg) (t := false) (N := natv a 0) (M := 1) (p := 0) (q := 0) (b53 (by omega)) (by decide) (by omega) (by omega)
        rw [this, Bool.xor_false, Nat.mul_one]
        rfl
      refine ⟨Own.fl neg (natv a 0) 0, ?_, .inl (whole_scale neg _).symm⟩
      rw [if_pos hbase, hr]
      show (Own.tdstrconv_LenUint.f ((natv a 0 : Nat) : Int)).bind _ = _
      rw [hL, Option.bind_some]
      have e := flop_of (bits_mul hm0)
      rw [e]
      refine if_pos ⟨by omega, by omega, by omega, by omega, hMul, hm0⟩
  · rw [if_neg (by omega)] at hr0 hsl
    rw [List.length_cons] at hsl
    have hDd := decs_digs j
    have hq := quo_decs (s := neg) hv hj j3
    have hDn : (decs j).length ≤ 2 ∧ 1 ≤ (decs j).length := by rcases natv_decs j 0 hj j3 with ⟨_, _, e⟩ | ⟨_, _, e⟩ | ⟨_, _, e⟩ <;> omega
    have hnn : natv (decs j) (natv a 0) < 1000000000000000 := by rcases natv_decs j (natv a 0) hj j3 with ⟨_, e, _⟩ | ⟨_, e, _⟩ | ⟨_, e, _⟩ <;> omega
    refine ⟨Own.fl neg (4 * natv a 0 + j) (-2), ?_, .inl rfl⟩
    have hss : Own.rdS l < l.length := by rw [hs]; omega
    rcases hb with rfl | ⟨c, t, rfl, hc49⟩
    · have hn0 : natv a 0 = 0 := by rw [hnb]; rfl
      obtain ⟨d0, D, hD, hd1, hd2, hDl⟩ := decs_cons j
      have hLU := lenuint_digs (c := d0) (t := D) (hD ▸ hDd) hd1 (by omega)
      rw [← hD] at hLU
      have hDD : Digs D := fun x hx => hDd x (by rw [hD]; exact List.mem_cons_of_mem _ hx)
      have hsc := scanD_digs D [] (s + z + 1 + 1) (s + z + 1) (some (s + z)) (d0 - 48).toNat hDD
      rw [List.append_nil] at hsc
      have hDl2 : (decs j).length = D.length + 1 := by rw [hD]; rfl
      have hr : Own.rdR l = (l.length, some (s + z + 1), some (s + z), natv (decs j) 0) := by
        rw [hr0, hab, List.append_nil, scanD_zeros, scanD_point, hD, scanD_first ⟨hd1, hd2⟩, hsc, natv_cons0, Own.scanD]
        have : s + z + 1 + 1 + D.length = l.length := by rw [hsl, hlen, hDl2]; simp; omega
        rw [this]
      rw [hn0] at hq hnn ⊢
      have hz : a.length = z := by rw [hlen]; simp
      refine dec_core (L := ((D.length + 1 : Nat) : Int)) h0 hr hnn hss (by omega) hLU (k := (decs j).length) (by omega) ?_ ⟨by omega, by omega, by omega, by omega, by omega⟩ hq
      unfold Own.xDec
      rw [if_pos (by omega)]
      omega
    · have hc := hbd c (by simp)
      have htd : Digs t := fun x hx => hbd x (List.mem_cons_of_mem _ hx)
      rw [List.length_cons] at hlen
      have htD : Digs (t ++ decs j) := fun x hx => (List.mem_append.1 hx).elim (htd x) (hDd x)
      have hLU := lenuint_digs (c := c) (t := t ++ decs j) (Digs.cons hc htD) hc49 (by rw [List.length_append]; omega)
      rw [← List.cons_append, natv_append, ← hnb, List.length_append] at hLU
      have hsc := scanD_digs (decs j) [] (s + z + 1 + t.length + 1) (s + z) (some (s + z + 1 + t.length)) (natv t (c - 48).toNat) hDd
      rw [List.append_nil] at hsc
      have hr : Own.rdR l = (l.length, some (s + z), some (s + z + 1 + t.length), natv (decs j) (natv a 0)) := by
        rw [hr0, hab, List.append_assoc, scanD_zeros, List.cons_append, scanD_first ⟨hc49, hc.2⟩, scanD_digs t _ _ _ _ _ htd, scanD_point, hsc, natv_zeros, natv_cons0, Own.scanD]
        have : s + z + 1 + t.length + 1 + (decs j).length = l.length := by rw [hsl, hlen]; omega
        rw [this]
      refine dec_core (L := ((t.length + (decs j).length + 1 : Nat) : Int)) h0 hr hnn hss (by omega) hLU (k := (decs j).length) (by omega) ?_ ⟨by omega, by omega, by omega, by omega, by omega⟩ hq
      unfold Own.xDec
      rw [if_neg (by omega)]
      omega
theorem FnNumberDecimal : laws_FnNumberDecimal.Pure := by
  intro neg a j ha1 ha2 ha hj
  refine Ev.rounds ?_
  unfold laws_FnNumberDecimal.f
  have start : ∀ q : Bool, (q = false → Digs a ∧ 1 ≤ a.length ∧ a.length ≤ 12 ∧ 0 ≤ j ∧ j ≤ 3) → Ev (fun k => laws_FnNumberDecimal.j0 k neg a j q) true := by
    intro q hq
    refine Ev.step (fun _ => laws_FnNumberDecimal.j0.eq_2 ..) (EvIte (fun _ => Ev.now _) (fun h => ?_))
    obtain ⟨hd, h1, h12, j0, j2⟩ := hq (by simpa using h)
    obtain ⟨i, rfl⟩ := Int.eq_ofNat_of_zero_le j0
    have hi : i ≤ 3 := by omega
    have e0 : Go.Proofs.YtipfnfhglhflgaaDoor.Own.numsOf (⟨#[]⟩ : ByteArray) = (if (0 : Nat) = 0 then [] else 46 :: decs 0) := rfl
    have e25 : Go.Proofs.YtipfnfhglhflgaaDoor.Own.numsOf (⟨#[46, 50, 53]⟩ : ByteArray) = (if (1 : Nat) = 0 then [] else 46 :: decs 1) := rfl
    have e5 : Go.Proofs.YtipfnfhglhflgaaDoor.Own.numsOf (⟨#[46, 53]⟩ : ByteArray) = (if (2 : Nat) = 0 then [] else 46 :: decs 2) := rfl
    have e75 : Go.Proofs.YtipfnfhglhflgaaDoor.Own.numsOf (⟨#[46, 55, 53]⟩ : ByteArray) = (if (3 : Nat) = 0 then [] else 46 :: decs 3) := rfl
    rw [e0, e25, e5, e75]
    have hv := natv_lt hd h12
    have hval : val a = ((natv a 0 : Nat) : Int) := (natv_eq hd).symm
    have hq1 : floatBits .quo .f64 (floatOfInt .f64 (i : Int)) 4616189618054758400 = some (Own.fl false i (-2)) := by
      rw [fl_int (by omega), four_fl]
      exact quarter (by omega)
    have ha1 : floatBits .add .f64 (floatOfInt .f64 (val a)) (Own.fl false i (-2)) = some (Own.fl false (4 * natv a 0 + i) (-2)) := by
      rw [hval, fl_int (by omega)]
      exact whole_quarters hv (by omega)
    have fq := flop_of hq1
    have fa := flop_of ha1
    have hn4 : 4 * natv a 0 + i < 1000000000000000 := by omega
    have hdl : ∀ q : Nat, (if q = 0 then [] else 46 :: decs q : List Int).length ≤ 3 := fun q => by split; simp; unfold decs; split; simp; split <;> simp
    have ho : ∀ (s : Bool) (r : Nat), (r = Own.fl s (4 * natv a 0 + i) (-2) ∨ r = 0 ∧ natv a 0 = 0 ∧ i = 0) → (Ieee.Format.order (FloatKind.format .f64) r (Own.fl s (4 * natv a 0 + i) (-2)) == some Ordering.eq) = true := by
      rintro s r (rfl | ⟨rfl, e1, rfl⟩)
      · exact order_same s hn4
      · rw [e1]
        have h := @Own.order_zero false s 0 (-2)
        have e : Own.fl false 0 0 = 0 := by decide
        rw [e] at h
        show (Ieee.double.order 0 (Own.fl s 0 (-2)) == some Ordering.eq) = true
        rw [h]; rfl
    have hrp := fun m => read_dec false (a ++ (if m = 0 then [] else 46 :: decs m)) a m rfl hd h1 h12
    have hrn := fun m => read_dec true (45 :: (a ++ (if m = 0 then [] else 46 :: decs m))) a m rfl hd h1 h12
    have fin : ∀ (m : Nat), m = i → Ev (fun k => (spec_Join.f k [a, (if m = 0 then [] else 46 :: decs m)]).bind fun t136 => (spec_Value.f k a).bind fun t139 =>
        if floatBits .quo .f64 (floatOfInt .f64 (i : Int)) 4616189618054758400 = some (Own.flop .quo (floatOfInt .f64 (i : Int)) 4616189618054758400) then
          (if floatBits .add .f64 (floatOfInt .f64 t139) (Own.flop .quo (floatOfInt .f64 (i : Int)) 4616189618054758400) = some (Own.flop .add (floatOfInt .f64 t139) (Own.flop .quo (floatOfInt .f64 (i : Int)) 4616189618054758400)) then
            (if neg = true then ((spec_Join.f k [[45], t136]).bind fun t146 => (Own.impl_ReadDecimal.f t146).bind fun bt149 => if (Ieee.Format.order (FloatKind.format .f64) bt149.1 (Op.negFloat .f64 (Own.flop .add (floatOfInt .f64 t139) (Own.flop .quo (floatOfInt .f64 (i : Int)) 4616189618054758400))) == some Ordering.eq) = true then some (bt149.2 == (t146.length : Int)) else some false)
             else ((Own.impl_ReadDecimal.f t136).bind fun bt151 => if (Ieee.Format.order (FloatKind.format .f64) bt151.1 (Own.flop .add (floatOfInt .f64 t139) (Own.flop .quo (floatOfInt .f64 (i : Int)) 4616189618054758400)) == some Ordering.eq) = true then some (bt151.2 == (t136.length : Int)) else some false)) else none) else none) true := by
      rintro m rfl
      have hlj : (a ++ (if m = 0 then [] else 46 :: decs m)).length < 140737488355328 := by have := hdl m; rw [List.length_append]; omega
      have hrp := hrp m hi
      have hrn := hrn m hi
      have hdm := hdl m
      generalize (if m = 0 then [] else 46 :: decs m : List Int) = D at hlj hrp hrn hdm ⊢
      refine Ev.bind (join_ev _ (by simp) (by simpa using hlj)) (Ev.bind (value_ev a (by omega) hd) ?_)
      simp only [List.flatten_cons, List.flatten_nil, List.append_nil]
      rw [fq]
      refine EvPos hq1 ?_
      rw [fa]
      refine EvPos ha1 (EvIte (fun hn => ?_) (fun hn => ?_))
      · refine Ev.bind (join_ev _ (by simp) (by simp; omega)) ?_
        simp only [List.flatten_cons, List.flatten_nil, List.append_nil, List.singleton_append]
        obtain ⟨r, hR, hc⟩ := hrn
        have hO := ho true r hc
        have hneg : Op.negFloat .f64 (Own.fl false (4 * natv a 0 + m) (-2)) = Own.fl true (4 * natv a 0 + m) (-2) := Own.neg_fl _ _ _
        rw [hneg]
        clear hc
        generalize Own.impl_ReadDecimal.f = F at hR ⊢
        generalize Own.fl true (4 * natv a 0 + m) (-2) = X at hO ⊢
        exact EvGet hR (EvPos hO (EvNow (by simp)))
      · obtain ⟨r, hR, hc⟩ := hrp
        have hO := ho false r hc
        clear hc
        generalize Own.impl_ReadDecimal.f = F at hR ⊢
        generalize Own.fl false (4 * natv a 0 + m) (-2) = X at hO ⊢
        exact EvGet hR (EvPos hO (EvNow (by simp)))
    refine EvIte (fun h0 => ?_) (fun h0 => EvIte (fun h1 => ?_) (fun h1 => EvIte (fun h2 => ?_) (fun h2 => EvPos (by omega) ?_)))
    · exact fin 0 (by omega)
    · exact fin 1 (by omega)
    · exact fin 2 (by omega)
    · exact fin 3 (by omega)
  have yes := start true (by simp)
  refine EvIte (fun _ => Ev.now _) (fun hl => ?_)
  refine Ev.bind (digitsok_ev a (by omega)) (EvIte (fun hdg => EvIte (fun _ => yes) (fun h12 => EvIte (fun _ => yes) (fun hj0 => start _ (fun hq => ?_)))) (fun _ => yes))
  obtain ⟨hd, h1, _⟩ := digB_yes hdg
  have := of_decide_eq_false hq
  exact ⟨hd, h1, by omega, by omega, by omega⟩

end Go.Proofs.YtipfnfhglhflgaaDoor.Pure
