/- FnNumberHalves, its pure statement: a number with a single decimal 5, or decimals 25, 75, is read exactly. For all byte lists. -/
import Derived.Test.YtipfnfhglhflgaaDoorAid
import Derived.Test.YtipfnfhglhflgaaDoorPFnNumberHalvesx0
import Derived.Test.YtipfnfhglhflgaaDoorPFnNumberHalvesx1
import Derived.Test.YtipfnfhglhflgaaDoorPFnNumberHalvesx2
import Derived.Test.YtipfnfhglhflgaaDoorPFnNumberHalvesx3
namespace Go.Proofs.YtipfnfhglhflgaaDoor.Pure
open Go.RowKit Go.Proofs.YtipfnfhglhflgaaDoor.PFnNumberHalves Go.Proofs.YtipfnfhglhflgaaDoorW.PrintWords Go.Proofs.YtipfnfhglhflgaaDoorW.PrintLast Go.Proofs.YtipfnfhglhflgaaDoor.Aid
set_option linter.unusedVariables false
set_option linter.unusedSimpArgs false

theorem join_loop (ls : List (List Int)) (hl : ls.length ≤ 1000) : ∀ (n i : Nat) (acc : List Int), i + n = ls.length → acc.length + (ls.drop i).flatten.length < 140737488355328 →
    Ev (fun k => spec_Join.l0 k acc ls (ls.length : Int) (i : Int)) (acc ++ (ls.drop i).flatten)
  | 0, i, acc, hi, hs => by
    refine Ev.step (fun _ => spec_Join.l0.eq_2 ..) (EvNeg (by omega) ?_)
    rw [List.drop_of_length_le (by omega)]
    simp only [List.flatten_nil, List.append_nil]
    exact Ev.now _
  | n + 1, i, acc, hi, hs => by
    have hlt : i < ls.length := by omega
    have e : rd_L1 ls (i : Int) = ls[i] := by unfold rd_L1; simp [List.getD_eq_getElem?_getD, List.getElem?_eq_getElem hlt]
    rw [drop_cons hlt, List.flatten_cons, List.length_append] at hs
    refine Ev.step (fun _ => spec_Join.l0.eq_2 ..) (EvPos (by omega) (EvPos (by omega) (EvPos (by omega) ?_)))
    rw [e, wn hlt (by omega), drop_cons hlt, List.flatten_cons, ← List.append_assoc]
    refine EvPos (by omega) ?_
    exact join_loop ls hl n (i + 1) (acc ++ ls[i]) (by omega) (by rw [List.length_append]; omega)
theorem join_ev (ls : List (List Int)) (hl : ls.length ≤ 1000) (hs : ls.flatten.length < 140737488355328) : Ev (fun k => spec_Join.f k ls) ls.flatten := by
  have := join_loop ls hl ls.length 0 [] (by omega) (by simpa using hs)
  unfold spec_Join.f
  simpa using this

def val (ds : List Int) : Int := ds.foldl (fun n c => 10 * n + (c - 48)) 0
def Digs (ds : List Int) : Prop := ∀ c ∈ ds, 48 ≤ c ∧ c ≤ 57
theorem val_snoc (ds : List Int) (c : Int) : val (ds ++ [c]) = 10 * val ds + (c - 48) := by simp [val]
theorem val_bd : ∀ (n : Nat) (ds : List Int), ds.length = n → Digs ds → 0 ≤ val ds ∧ val ds < 10 ^ n
  | 0, ds, h, _ => by
    obtain rfl := List.eq_nil_of_length_eq_zero h
    simp [val]
  | n + 1, ds, h, hd => by
    obtain ⟨ds', c, rfl⟩ : ∃ ds' c, ds = ds' ++ [c] := ⟨ds.dropLast, ds.getLast (by intro e; subst e; simp at h), (List.dropLast_concat_getLast _).symm⟩
    rw [List.length_append] at h
    have ih := val_bd n ds' (by simpa using h) (fun x hx => hd x (List.mem_append_left _ hx))
    have hc := hd c (by simp)
    rw [val_snoc, Int.pow_succ]
    omega
theorem pow_le {n m : Nat} (h : n ≤ m) : (10 : Int) ^ n ≤ 10 ^ m := by
  have := Nat.pow_le_pow_right (n := 10) (by omega) h
  exact_mod_cast this
theorem val18 {ds : List Int} (h : ds.length ≤ 18) (hd : Digs ds) : 0 ≤ val ds ∧ val ds < 1000000000000000000 := by
  have h1 := val_bd _ ds rfl hd
  have h2 := pow_le h
  have e : (10 : Int) ^ 18 = 1000000000000000000 := by decide
  omega
theorem Digs.take {ds : List Int} (h : Digs ds) (i : Nat) : Digs (ds.take i) := fun c hc => h c (List.mem_of_mem_take hc)
theorem take_snoc {ds : List Int} {i : Nat} (h : i < ds.length) : ds.take (i + 1) = ds.take i ++ [ds[i]] := by
  rw [List.take_succ_eq_append_getElem h]
theorem val_append_ge : ∀ (b a : List Int), Digs a → Digs b → val a ≤ val (a ++ b)
  | [], a, _, _ => by simp
  | c :: b, a, ha, hb => by
    have hc := hb c (by simp)
    have h0 := (val_bd _ a rfl ha).1
    have ih := val_append_ge b (a ++ [c]) (fun x hx => by
      rcases List.mem_append.1 hx with hx | hx
      · exact ha x hx
      · rw [List.mem_singleton.1 hx]; exact hc) (fun x hx => hb x (List.mem_cons_of_mem _ hx))
    rw [val_snoc, List.append_assoc, List.singleton_append] at ih
    omega
theorem val_take_le {ds : List Int} (hd : Digs ds) (i : Nat) : val (ds.take i) ≤ val ds := by
  have := val_append_ge (ds.drop i) (ds.take i) (hd.take _) (fun c hc => hd c (List.mem_of_mem_drop hc))
  rwa [List.take_append_drop] at this

def digB (ds : List Int) : Bool := (ds.all fun c => decide (48 ≤ c) && decide (c ≤ 57)) && (decide (1 ≤ ds.length) && decide (ds.length ≤ 18))
theorem digitsok_loop (ds : List Int) (hm : ds.length < 140737488355328) : ∀ (n i : Nat), i + n = ds.length →
    Ev (fun k => laws_digitsOk.l0 k ds ds (ds.length : Int) (i : Int)) (((ds.drop i).all fun c => decide (48 ≤ c) && decide (c ≤ 57)) && (decide (1 ≤ ds.length) && decide (ds.length ≤ 18)))
  | 0, i, hi => by
    refine Ev.step (fun _ => laws_digitsOk.l0.eq_2 ..) (EvNeg (by omega) ?_)
    rw [List.drop_of_length_le (by omega), List.all_nil, Bool.true_and]
    refine EvIte (fun h => EvNow ?_) (fun h => EvNow ?_)
    · rw [decide_eq_true (p := 1 ≤ ds.length) (by omega), Bool.true_and, Bool.eq_iff_iff]; simp; omega
    · rw [decide_eq_false (p := 1 ≤ ds.length) (by omega), Bool.false_and]
  | n + 1, i, hi => by
    have hlt : i < ds.length := by omega
    refine Ev.step (fun _ => laws_digitsOk.l0.eq_2 ..) (EvPos (by omega) (EvPos (by omega) (EvPos (by omega) ?_)))
    rw [rd_at hlt, wn hlt (by omega), drop_cons hlt, List.all_cons]
    refine EvIte (fun h => EvNow ?_) (fun h => EvIte (fun h2 => EvNow ?_) (fun h2 => ?_))
    · rw [decide_eq_false (by omega), Bool.false_and, Bool.false_and, Bool.false_and]
    · rw [decide_eq_false (p := ds[i] ≤ 57) (by omega), Bool.and_false, Bool.false_and, Bool.false_and]
    · rw [decide_eq_true (p := ds[i] ≤ 57) (by omega), decide_eq_true (by omega), Bool.true_and, Bool.true_and]
      exact digitsok_loop ds hm n (i + 1) (by omega)
theorem digitsok_ev (ds : List Int) (hm : ds.length < 140737488355328) : Ev (fun k => laws_digitsOk.f k ds) (digB ds) := by
  have := digitsok_loop ds hm ds.length 0 (by omega)
  unfold laws_digitsOk.f
  simpa [digB] using this
theorem digB_yes {ds : List Int} (h : digB ds = true) : Digs ds ∧ 1 ≤ ds.length ∧ ds.length ≤ 18 := by
  simp [digB] at h
  exact ⟨fun c hc => h.1 c hc, h.2.1, h.2.2⟩


theorem value_loop (ds : List Int) (h18 : ds.length ≤ 18) (hd : Digs ds) : ∀ (n i : Nat), i + n = ds.length →
    Ev (fun k => spec_Value.l0 k (val (ds.take i)) ds (ds.length : Int) (i : Int)) (val ds)
  | 0, i, hi => by
    refine Ev.step (fun _ => spec_Value.l0.eq_2 ..) (EvNeg (by omega) ?_)
    rw [List.take_of_length_le (by omega)]
    exact Ev.now _
  | n + 1, i, hi => by
    have hlt : i < ds.length := by omega
    have hc := hd _ (List.getElem_mem hlt)
    have hv := val18 (ds := ds.take (i + 1)) (by simp; omega) (hd.take _)
    have hv0 := val18 (ds := ds.take i) (by simp; omega) (hd.take _)
    rw [take_snoc hlt, val_snoc] at hv
    refine Ev.step (fun _ => spec_Value.l0.eq_2 ..) (EvPos (by omega) (EvPos (by omega) (EvPos (by omega) ?_)))
    rw [rd_at hlt, wn hlt (by omega)]
    have e : wrap64 (wrap64 (10 * val (ds.take i)) + (ds[i] - 48) % 256) = val (ds.take (i + 1)) := by
      rw [take_snoc hlt, val_snoc, Int.emod_eq_of_lt (by omega) (by omega), w64 (i := 10 * _) (by omega) (by omega), w64 (by omega) (by omega)]
    rw [e]
    exact value_loop ds h18 hd n (i + 1) (by omega)
theorem value_ev (ds : List Int) (h18 : ds.length ≤ 18) (hd : Digs ds) : Ev (fun k => spec_Value.f k ds) (val ds) := by
  have := value_loop ds h18 hd ds.length 0 (by omega)
  unfold spec_Value.f
  simpa [val] using this


/-- The digits' number, behind n. -/
def natv (ds : List Int) (n : Nat) : Nat := ds.foldl (fun m c => m * 10 + (c - 48).toNat) n
theorem natv_val : ∀ (ds : List Int) (n : Nat), Digs ds → (natv ds n : Int) = ds.foldl (fun m c => 10 * m + (c - 48)) (n : Int)
  | [], n, _ => rfl
  | c :: t, n, h => by
    have hc := h c (by simp)
    have ih := natv_val t (n * 10 + (c - 48).toNat) (fun x hx => h x (List.mem_cons_of_mem _ hx))
    have e : ((n * 10 + (c - 48).toNat : Nat) : Int) = 10 * (n : Int) + (c - 48) := by omega
    simp only [natv, List.foldl_cons] at ih ⊢
    rw [ih, e]
theorem natv_eq {ds : List Int} (h : Digs ds) : (natv ds 0 : Int) = val ds := natv_val ds 0 h
/-- What is read on digits: all of them, if what follows is no digit and no point. -/
theorem scan_digs : ∀ (ds rest : List Int) (i : Nat) (d : Option Nat) (n : Nat), Digs ds → (∀ c t, rest = c :: t → (c < 48 ∨ 57 < c) ∧ (d = none → c ≠ 46)) → Own.scanF (ds ++ rest) i d n = (i + ds.length, d, natv ds n)
  | [], [], i, d, n, _, _ => rfl
  | [], c :: t, i, d, n, _, h => by
    obtain ⟨h1, h2⟩ := h c t rfl
    show Own.scanF (c :: t) i d n = _
    unfold Own.scanF
    rw [if_neg (by omega), if_neg (fun hh => h2 hh.1 hh.2)]
    rfl
  | c :: t, rest, i, d, n, hd, h => by
    have hc := hd c (by simp)
    have ih := scan_digs t rest (i + 1) d (n * 10 + (c - 48).toNat) (fun x hx => hd x (List.mem_cons_of_mem _ hx)) h
    show Own.scanF (c :: (t ++ rest)) i d n = _
    unfold Own.scanF
    rw [if_pos hc, ih]
    simp only [List.length_cons, natv, List.foldl_cons]
    congr 1
    omega

theorem fl_int {n : Int} (h : 0 ≤ n) : floatOfInt .f64 n = Own.fl false n.natAbs 0 := by
  rw [Own.ofInt_fl, decide_eq_false (by omega)]
theorem four_fl : (4616189618054758400 : Nat) = Own.fl false 4 0 := by decide
theorem p10_1 : Own.p10 1 = Own.fl false 10 0 := rfl
theorem p10_2 : Own.p10 2 = Own.fl false 100 0 := rfl
theorem p10_0 : Own.p10 0 = Own.fl false 1 0 := rfl
theorem bits_quo {x y r : Nat} (h : Ieee.double.div x y = some r) : floatBits .quo .f64 x y = some r := h
theorem bits_add {x y r : Nat} (h : Ieee.double.add x y = some r) : floatBits .add .f64 x y = some r := h
theorem bits_mul {x y r : Nat} (h : Ieee.double.mul x y = some r) : floatBits .mul .f64 x y = some r := h
theorem flop_of {op : BinOp} {x y r : Nat} (h : floatBits op .f64 x y = some r) : Own.flop op x y = r := by unfold Own.flop; rw [h]; rfl
theorem b53 {n : Nat} (h : n < 1000000000000000) : n < 2 ^ 53 := Nat.lt_of_lt_of_le h (by decide)
/-- Quarters: j / 4 is j * 2 ^ -2; a whole number and quarters. -/
theorem quarter {j : Nat} (h : j < 1000000000000000) : floatBits .quo .f64 (Own.fl false j 0) (Own.fl false 4 0) = some (Own.fl false j (-2)) := by
  have := Own.div_fl (s := false) (t := false) (N := j) (M := 4) (K := j) (c := 2) (p := 0) (q := 0) (b53 h) (by decide) (by decide) (by omega) (by omega) (by omega) (by omega)
  exact bits_quo this
theorem whole_quarters {v j : Nat} (hv : v < 1000000000000) (hj : j < 4) : floatBits .add .f64 (Own.fl false v 0) (Own.fl false j (-2)) = some (Own.fl false (4 * v + j) (-2)) := by
  have e : Own.fl false v 0 = Own.fl false (v * 2 ^ 2) (-2) := by rw [Own.fl_scale]; rfl
  have h := Own.add_fl (s := false) (N := v * 2 ^ 2) (M := j) (d := 0) (p := -2) (b53 (by omega)) (b53 (by omega)) (by omega) (by omega)
  rw [e]
  refine bits_add (h.trans ?_)
  congr 2
  omega

/-- The decimals, how many they are, and what they are in quarters. -/
def decs (j : Nat) : List Int := if j = 1 then [50, 53] else if j = 2 then [53] else [55, 53]
theorem Digs.cons {c : Int} {t : List Int} (h : 48 ≤ c ∧ c ≤ 57) (ht : Digs t) : Digs (c :: t) := fun x hx => by
  rcases List.mem_cons.1 hx with rfl | hx
  · exact h
  · exact ht x hx
theorem decs_digs (j : Nat) : Digs (decs j) := by unfold decs; split; exact Digs.cons (by decide) (Digs.cons (by decide) (fun x h => by cases h)); split; exact Digs.cons (by decide) (fun x h => by cases h); exact Digs.cons (by decide) (Digs.cons (by decide) (fun x h => by cases h))
theorem natv_lt {a : List Int} (ha : Digs a) (h12 : a.length ≤ 12) : natv a 0 < 1000000000000 := by
  have h1 := natv_eq ha
  have h2 := (val_bd _ a rfl ha).2
  have h3 := pow_le h12
  have e : (10 : Int) ^ 12 = 1000000000000 := by decide
  omega
theorem scan_point (a : List Int) (ha : Digs a) (j i : Nat) (h1 : 1 ≤ a.length) : Own.scanF (a ++ 46 :: decs j) i none 0 = (i + a.length + 1 + (decs j).length, some (i + a.length), natv (decs j) (natv a 0)) := by
  have key : ∀ (a : List Int) (i n : Nat), Digs a → Own.scanF (a ++ 46 :: decs j) i none n = Own.scanF (decs j) (i + a.length + 1) (some (i + a.length)) (natv a n) := by
    intro a
    induction a with
    | nil => intro i n _; show Own.scanF (46 :: decs j) i none n = _; rw [Own.scanF, if_neg (by omega), if_pos ⟨rfl, rfl⟩]; rfl
    | cons c t ih =>
      intro i n hd
      have hc := hd c (by simp)
      show Own.scanF (c :: (t ++ 46 :: decs j)) i none n = _
      rw [Own.scanF, if_pos hc, ih (i + 1) _ (fun x hx => hd x (List.mem_cons_of_mem _ hx))]
      simp only [List.length_cons, natv, List.foldl_cons]
      have e1 : i + 1 + t.length = i + (t.length + 1) := by omega
      rw [e1]
  rw [key a i 0 ha]
  have := scan_digs (decs j) [] (i + a.length + 1) (some (i + a.length)) (natv a 0) (decs_digs j) (fun c t h => by cases h)
  rw [List.append_nil] at this
  exact this
theorem natv_decs (j : Nat) (n : Nat) (h1 : 1 ≤ j) (h3 : j ≤ 3) : (j = 1 ∧ natv (decs j) n = n * 100 + 25 ∧ (decs j).length = 2) ∨ (j = 2 ∧ natv (decs j) n = n * 10 + 5 ∧ (decs j).length = 1) ∨ (j = 3 ∧ natv (decs j) n = n * 100 + 75 ∧ (decs j).length = 2) := by
  obtain rfl | rfl | rfl : j = 1 ∨ j = 2 ∨ j = 3 := by omega
  · exact .inl ⟨rfl, by simp [decs, natv]; omega, rfl⟩
  · exact .inr (.inl ⟨rfl, by simp [decs, natv], rfl⟩)
  · exact .inr (.inr ⟨rfl, by simp [decs, natv]; omega, rfl⟩)
/-- The quotient: v and j quarters. -/
theorem quo_decs {s : Bool} {v j : Nat} (hv : v < 1000000000000) (h1 : 1 ≤ j) (h3 : j ≤ 3) : Ieee.double.div (Own.fl s (natv (decs j) v) 0) (Own.p10 (decs j).length) = some (Own.fl s (4 * v + j) (-2)) := by
  rcases natv_decs j v h1 h3 with ⟨rfl, e, l⟩ | ⟨rfl, e, l⟩ | ⟨rfl, e, l⟩
  · rw [e, l, p10_2]
    have := Own.div_fl (s := s) (t := false) (N := v * 100 + 25) (M := 100) (K := 4 * v + 1) (c := 2) (p := 0) (q := 0) (b53 (by omega)) (by decide) (by decide) (by omega) (by omega) (by omega) (by omega)
    rw [this, Bool.xor_false]; rfl
  · rw [e, l, p10_1]
    have := Own.div_fl (s := s) (t := false) (N := v * 10 + 5) (M := 10) (K := 2 * v + 1) (c := 1) (p := 0) (q := 0) (b53 (by omega)) (by decide) (by decide) (by omega) (by omega) (by omega) (by omega)
    rw [this, Bool.xor_false]
    have e2 : Own.fl s (4 * v + 2) (-2) = Own.fl s ((2 * v + 1) * 2 ^ 1) (-2) := by congr 1; omega
    rw [e2, Own.fl_scale]; rfl
  · rw [e, l, p10_2]
    have := Own.div_fl (s := s) (t := false) (N := v * 100 + 75) (M := 100) (K := 4 * v + 3) (c := 2) (p := 0) (q := 0) (b53 (by omega)) (by decide) (by decide) (by omega) (by omega) (by omega) (by omega)
    rw [this, Bool.xor_false]; rfl
theorem fsgn_fl (neg : Bool) (n : Nat) : Own.fsgn neg n = Own.fl neg n 0 := by
  have e : floatOfInt .f64 (n : Int) = Own.fl false n 0 := by rw [fl_int (by omega)]; rfl
  cases neg
  · rw [Own.fsgn_false, e]
  · rw [Own.fsgn_true, e, Own.neg_fl]; rfl
theorem read_core (neg : Bool) (l a : List Int) (j : Nat) (hl : l = (if neg = true then [45] else []) ++ (a ++ 46 :: decs j)) (ha : Digs a) (h1 : 1 ≤ a.length) (h12 : a.length ≤ 12) (j1 : 1 ≤ j) (j3 : j ≤ 3) :
    Own.impl_ReadFloat.f l = some (Own.fl neg (4 * natv a 0 + j) (-2), (l.length : Int)) := by
  obtain ⟨c, t, rfl⟩ : ∃ c t, a = c :: t := by cases a with | nil => simp at h1 | cons c t => exact ⟨c, t, rfl⟩
  have hc := ha c (by simp)
  have hv := natv_lt ha h12
  have hdl : (decs j).length = 1 ∨ (decs j).length = 2 := by rcases natv_decs j 0 j1 j3 with ⟨_, _, e⟩ | ⟨_, _, e⟩ | ⟨_, _, e⟩ <;> omega
  have hq := quo_decs (s := neg) hv j1 j3
  have hnv : natv (decs j) (natv (c :: t) 0) < 1000000000000000 := by rcases natv_decs j (natv (c :: t) 0) j1 j3 with ⟨_, e, _⟩ | ⟨_, e, _⟩ | ⟨_, e, _⟩ <;> omega
  have h0 : decide (l.getD 0 0 = 45) = neg := by
    rw [hl]
    cases neg
    · show decide (c = 45) = false; exact decide_eq_false (by omega)
    · rfl
  have hs : Own.rfS l = (if neg = true then 1 else 0) := by unfold Own.rfS; rw [h0]
  have hr : Own.rfR l = ((if neg = true then 1 else 0) + (c :: t).length + 1 + (decs j).length, some ((if neg = true then 1 else 0) + (c :: t).length), natv (decs j) (natv (c :: t) 0)) := by
    unfold Own.rfR
    rw [hs, hl]
    cases neg
    · exact scan_point (c :: t) ha j 0 h1
    · exact scan_point (c :: t) ha j 1 h1
  have hP : Own.rfP l = (if neg = true then 1 else 0) + (c :: t).length := by unfold Own.rfP; rw [hr]; rfl
  have hK : Own.rfK l = (decs j).length := by unfold Own.rfK; rw [hr, hP]; simp only; omega
  have hN : Own.rfN l = Own.fl neg (natv (decs j) (natv (c :: t) 0)) 0 := by unfold Own.rfN; rw [h0, hr, fsgn_fl]
  have hlen : l.length = (if neg = true then 1 else 0) + (c :: t).length + 1 + (decs j).length := by
    rw [hl]
    cases neg <;> simp <;> omega
  have hg : l.getD (Own.rfS l) 0 = c := by rw [hs, hl]; cases neg <;> rfl
  have h43 : l.getD 0 0 ≠ 43 := by
    rw [hl]
    cases neg
    · show c ≠ 43; omega
    · show (45 : Int) ≠ 43; decide
  unfold Own.impl_ReadFloat.f
  have hok : Own.rfOk l = true := by
    unfold Own.rfOk
    refine decide_eq_true ⟨?_, ?_, h43, ?_, ?_, ?_, ?_, ?_, ?_, ?_, ?_, ?_⟩
    · rw [hlen]; split <;> omega
    · rw [hs, hlen]; split <;> omega
    · rw [hg]; omega
    · rw [hg]; omega
    · rw [hr]; simp only; omega
    · rw [hr, hP]
    · rw [hr, hlen]; simp only; intro h; omega
    · rw [hK]; omega
    · rw [hK]; omega
    · rw [hr, hP, hK]
    · rw [hN, hK, hq, flop_of (bits_quo hq)]
  rw [if_pos hok, hN, hK, flop_of (bits_quo hq), hr, hlen]
theorem order_same (neg : Bool) {n : Nat} (h : n < 1000000000000000) : (Ieee.Format.order (FloatKind.format .f64) (Own.fl neg n (-2)) (Own.fl neg n (-2)) == some Ordering.eq) = true := by
  have := Own.order_self (s := neg) (N := n) (p := -2) (b53 h) ⟨by omega, by omega⟩
  show (Ieee.double.order _ _ == _) = true
  rw [this]
  rfl
theorem FnNumberHalves : laws_FnNumberHalves.Pure := by
  intro neg a j ha1 ha2 ha hj
  refine Ev.rounds ?_
  unfold laws_FnNumberHalves.f
  have start : ∀ q : Bool, (q = false → Digs a ∧ 1 ≤ a.length ∧ a.length ≤ 12 ∧ 0 ≤ j ∧ j ≤ 2) → Ev (fun k => laws_FnNumberHalves.j0 k neg a j q) true := by
    intro q hq
    refine Ev.step (fun _ => laws_FnNumberHalves.j0.eq_2 ..) (EvIte (fun _ => Ev.now _) (fun h => ?_))
    obtain ⟨hd, h1, h12, j0, j2⟩ := hq (by simpa using h)
    obtain ⟨i, rfl⟩ := Int.eq_ofNat_of_zero_le j0
    have hi : i ≤ 2 := by omega
    have e25 : Go.Proofs.YtipfnfhglhflgaaDoor.Own.numsOf (⟨#[46, 50, 53]⟩ : ByteArray) = 46 :: decs 1 := rfl
    have e5 : Go.Proofs.YtipfnfhglhflgaaDoor.Own.numsOf (⟨#[46, 53]⟩ : ByteArray) = 46 :: decs 2 := rfl
    have e75 : Go.Proofs.YtipfnfhglhflgaaDoor.Own.numsOf (⟨#[46, 55, 53]⟩ : ByteArray) = 46 :: decs 3 := rfl
    rw [e25, e5, e75]
    have hv := natv_lt hd h12
    have hval : val a = ((natv a 0 : Nat) : Int) := (natv_eq hd).symm
    have hwr : wrap64 ((i : Int) + 1) = ((i + 1 : Nat) : Int) := wn (n := 3) (by omega) (by omega)
    have hq1 : floatBits .quo .f64 (floatOfInt .f64 (wrap64 ((i : Int) + 1))) 4616189618054758400 = some (Own.fl false (i + 1) (-2)) := by
      rw [hwr, fl_int (by omega), four_fl]
      exact quarter (by omega)
    have ha1 : floatBits .add .f64 (floatOfInt .f64 (val a)) (Own.fl false (i + 1) (-2)) = some (Own.fl false (4 * natv a 0 + (i + 1)) (-2)) := by
      rw [hval, fl_int (by omega)]
      exact whole_quarters hv (by omega)
    have fq := flop_of hq1
    have fa := flop_of ha1
    have hn4 : 4 * natv a 0 + (i + 1) < 1000000000000000 := by omega
    have hdl : ∀ q : Nat, (decs q).length ≤ 2 := fun q => by unfold decs; split; simp; split <;> simp
    have hrp := fun m => read_core false (a ++ 46 :: decs (m + 1)) a (m + 1) rfl hd h1 h12
    have hrn := fun m => read_core true (45 :: (a ++ 46 :: decs (m + 1))) a (m + 1) rfl hd h1 h12
    have fin : ∀ (m : Nat), m = i → Ev (fun k => (spec_Join.f k [a, 46 :: decs (m + 1)]).bind fun t136 => (spec_Value.f k a).bind fun t139 =>
        if floatBits .quo .f64 (floatOfInt .f64 (wrap64 ((i : Int) + 1))) 4616189618054758400 = some (Own.flop .quo (floatOfInt .f64 (wrap64 ((i : Int) + 1))) 4616189618054758400) then
          (if floatBits .add .f64 (floatOfInt .f64 t139) (Own.flop .quo (floatOfInt .f64 (wrap64 ((i : Int) + 1))) 4616189618054758400) = some (Own.flop .add (floatOfInt .f64 t139) (Own.flop .quo (floatOfInt .f64 (wrap64 ((i : Int) + 1))) 4616189618054758400)) then
            (if neg = true then ((spec_Join.f k [[45], t136]).bind fun t146 => (Own.impl_ReadFloat.f t146).bind fun bt149 => if (Ieee.Format.order (FloatKind.format .f64) bt149.1 (Op.negFloat .f64 (Own.flop .add (floatOfInt .f64 t139) (Own.flop .quo (floatOfInt .f64 (wrap64 ((i : Int) + 1))) 4616189618054758400))) == some Ordering.eq) = true then some (bt149.2 == (t146.length : Int)) else some false)
             else ((Own.impl_ReadFloat.f t136).bind fun bt151 => if (Ieee.Format.order (FloatKind.format .f64) bt151.1 (Own.flop .add (floatOfInt .f64 t139) (Own.flop .quo (floatOfInt .f64 (wrap64 ((i : Int) + 1))) 4616189618054758400)) == some Ordering.eq) = true then some (bt151.2 == (t136.length : Int)) else some false)) else none) else none) true := by
      rintro m rfl
      have hlj : (a ++ 46 :: decs (m + 1)).length < 140737488355328 := by have := hdl (m + 1); rw [List.length_append, List.length_cons]; omega
      refine Ev.bind (join_ev _ (by simp) (by simpa using hlj)) (Ev.bind (value_ev a (by omega) hd) ?_)
      simp only [List.flatten_cons, List.flatten_nil, List.append_nil]
      rw [fq]
      refine EvPos hq1 ?_
      rw [fa]
      refine EvPos ha1 (EvIte (fun hn => ?_) (fun hn => ?_))
      · refine Ev.bind (join_ev _ (by simp) (by have := hdl (m + 1); simp; omega)) ?_
        simp only [List.flatten_cons, List.flatten_nil, List.append_nil, List.singleton_append]
        have hR := hrn m (by omega) (by omega)
        have hO := order_same true hn4
        have hneg : Op.negFloat .f64 (Own.fl false (4 * natv a 0 + (m + 1)) (-2)) = Own.fl true (4 * natv a 0 + (m + 1)) (-2) := Own.neg_fl _ _ _
        rw [hneg]
        generalize Own.impl_ReadFloat.f = F at hR ⊢
        generalize Own.fl true (4 * natv a 0 + (m + 1)) (-2) = X at hR hO ⊢
        exact EvGet hR (EvPos hO (EvNow (by simp)))
      · have hR := hrp m (by omega) (by omega)
        have hO := order_same false hn4
        generalize Own.impl_ReadFloat.f = F at hR ⊢
        generalize Own.fl false (4 * natv a 0 + (m + 1)) (-2) = X at hR hO ⊢
        exact EvGet hR (EvPos hO (EvNow (by simp)))
    refine EvIte (fun h0 => ?_) (fun h0 => EvIte (fun h1 => ?_) (fun h1 => EvPos (by omega) ?_))
    · exact fin 0 (by omega)
    · exact fin 1 (by omega)
    · exact fin 2 (by omega)
  have yes := start true (by simp)
  refine EvIte (fun _ => Ev.now _) (fun hl => ?_)
  refine Ev.bind (digitsok_ev a (by omega)) (EvIte (fun hdg => EvIte (fun _ => yes) (fun h12 => EvIte (fun _ => yes) (fun hj0 => start _ (fun hq => ?_)))) (fun _ => yes))
  obtain ⟨hd, h1, _⟩ := digB_yes hdg
  have := of_decide_eq_false hq
  exact ⟨hd, h1, by omega, by omega, by omega⟩

end Go.Proofs.YtipfnfhglhflgaaDoor.Pure
