/- FnNumberFloat, its pure statement: an integer of at most 15 digits, with a sign perhaps, is read as a number of that value. For all byte lists. -/
import Derived.Test.YtjhjpkdjgcdckaaDoorAid
import Derived.Test.YtjhjpkdjgcdckaaDoorPFnNumberFloatx0
import Derived.Test.YtjhjpkdjgcdckaaDoorPFnNumberFloatx1
import Derived.Test.YtjhjpkdjgcdckaaDoorPFnNumberFloatx2
import Derived.Test.YtjhjpkdjgcdckaaDoorPFnNumberFloatx3
namespace Go.Proofs.YtjhjpkdjgcdckaaDoor.Pure
open Go.RowKit Go.Proofs.YtjhjpkdjgcdckaaDoor.PFnNumberFloat Go.Proofs.YtjhjpkdjgcdckaaDoorW.PrintWords Go.Proofs.YtjhjpkdjgcdckaaDoorW.PrintLast Go.Proofs.YtjhjpkdjgcdckaaDoor.Aid
set_option linter.unusedVariables false
set_option linter.unusedSimpArgs false

theorem few_loop (ls : List (List Int)) (hl : ls.length ≤ 1000) : ∀ (n i : Nat), i + n = ls.length →
    Ev (fun k => laws_fewBytes.l0 k ls (ls.length : Int) (i : Int)) ((ls.drop i).all fun l => decide (l.length ≤ 300))
  | 0, i, hi => by
    refine Ev.step (fun _ => laws_fewBytes.l0.eq_2 ..) (EvNeg (by omega) ?_)
    rw [List.drop_of_length_le (by omega)]
    exact Ev.now _
  | n + 1, i, hi => by
    have hlt : i < ls.length := by omega
    have e : rd_L1 ls (i : Int) = ls[i] := by unfold rd_L1; simp [List.getD_eq_getElem?_getD, List.getElem?_eq_getElem hlt]
    refine Ev.step (fun _ => laws_fewBytes.l0.eq_2 ..) (EvPos (by omega) (EvPos (by omega) (EvPos (by omega) ?_)))
    rw [e, wn hlt (by omega), drop_cons hlt, List.all_cons]
    refine EvIte (fun h => ?_) (fun h => ?_)
    · rw [decide_eq_false (by omega), Bool.false_and]
      exact Ev.now _
    · rw [decide_eq_true (by omega), Bool.true_and]
      exact few_loop ls hl n (i + 1) (by omega)
theorem few_ev (ls : List (List Int)) (hl : ls.length ≤ 1000) : Ev (fun k => laws_fewBytes.f k ls) (ls.all fun l => decide (l.length ≤ 300)) := by
  have := few_loop ls hl ls.length 0 (by omega)
  unfold laws_fewBytes.f
  simpa using this

theorem join_loop (ls : List (List Int)) (hl : ls.length ≤ 1000) : ∀ (n i : Nat) (acc : List Int), i + n = ls.length → acc.length + (ls.drop i).flatten.length < 140737488355328 →
    Ev (fun k => spec_Join.l0 k acc ls (ls.length : Int) (i : Int)) (acc ++ (ls.drop i).flatten)
  | 0, i, acc, hi, hs => by
    refine Ev.step (fun _ => spec_Join.l0.eq_2 ..) (EvNeg (by omega) ?_)
    rw [List.drop_of_length_le (by omega)]
    simp only [List.flatten_nil, List.append_nil]
    exact Ev.now _
  | n + 1, i, acc, hi, hs => by
    have hlt : i < ls.length := by omega
    have e : rd_L1 ls (i : Int) = ls[i] := by unfold rd_L1; simp [List.getD_eq_getElem?_getD, List.getElem?_eq_getElem hlt]
    rw [drop_cons hlt, List.flatten_cons, List.length_append] at hs
    refine Ev.step (fun _ => spec_Join.l0.eq_2 ..) (EvPos (by omega) (EvPos (by omega) (EvPos (by omega) ?_)))
    rw [e, wn hlt (by omega), drop_cons hlt, List.flatten_cons, ← List.append_assoc]
    refine EvPos (by omega) ?_
    exact join_loop ls hl n (i + 1) (acc ++ ls[i]) (by omega) (by rw [List.length_append]; omega)
theorem join_ev (ls : List (List Int)) (hl : ls.length ≤ 1000) (hs : ls.flatten.length < 140737488355328) : Ev (fun k => spec_Join.f k ls) ls.flatten := by
  have := join_loop ls hl ls.length 0 [] (by omega) (by simpa using hs)
  unfold spec_Join.f
  simpa using this

def val (ds : List Int) : Int := ds.foldl (fun n c => 10 * n + (c - 48)) 0
def Digs (ds : List Int) : Prop := ∀ c ∈ ds, 48 ≤ c ∧ c ≤ 57
theorem val_snoc (ds : List Int) (c : Int) : val (ds ++ [c]) = 10 * val ds + (c - 48) := by simp [val]
theorem val_bd : ∀ (n : Nat) (ds : List Int), ds.length = n → Digs ds → 0 ≤ val ds ∧ val ds < 10 ^ n
  | 0, ds, h, _ => by
    obtain rfl := List.eq_nil_of_length_eq_zero h
    simp [val]
  | n + 1, ds, h, hd => by
    obtain ⟨ds', c, rfl⟩ : ∃ ds' c, ds = ds' ++ [c] := ⟨ds.dropLast, ds.getLast (by intro e; subst e; simp at h), (List.dropLast_concat_getLast _).symm⟩
    rw [List.length_append] at h
    have ih := val_bd n ds' (by simpa using h) (fun x hx => hd x (List.mem_append_left _ hx))
    have hc := hd c (by simp)
    rw [val_snoc, Int.pow_succ]
    omega
theorem pow_le {n m : Nat} (h : n ≤ m) : (10 : Int) ^ n ≤ 10 ^ m := by
  have := Nat.pow_le_pow_right (n := 10) (by omega) h
  exact_mod_cast this
theorem val18 {ds : List Int} (h : ds.length ≤ 18) (hd : Digs ds) : 0 ≤ val ds ∧ val ds < 1000000000000000000 := by
  have h1 := val_bd _ ds rfl hd
  have h2 := pow_le h
  have e : (10 : Int) ^ 18 = 1000000000000000000 := by decide
  omega
theorem Digs.take {ds : List Int} (h : Digs ds) (i : Nat) : Digs (ds.take i) := fun c hc => h c (List.mem_of_mem_take hc)
theorem take_snoc {ds : List Int} {i : Nat} (h : i < ds.length) : ds.take (i + 1) = ds.take i ++ [ds[i]] := by
  rw [List.take_succ_eq_append_getElem h]
theorem val_append_ge : ∀ (b a : List Int), Digs a → Digs b → val a ≤ val (a ++ b)
  | [], a, _, _ => by simp
  | c :: b, a, ha, hb => by
    have hc := hb c (by simp)
    have h0 := (val_bd _ a rfl ha).1
    have ih := val_append_ge b (a ++ [c]) (fun x hx => by
      rcases List.mem_append.1 hx with hx | hx
      · exact ha x hx
      · rw [List.mem_singleton.1 hx]; exact hc) (fun x hx => hb x (List.mem_cons_of_mem _ hx))
    rw [val_snoc, List.append_assoc, List.singleton_append] at ih
    omega
theorem val_take_le {ds : List Int} (hd : Digs ds) (i : Nat) : val (ds.take i) ≤ val ds := by
  have := val_append_ge (ds.drop i) (ds.take i) (hd.take _) (fun c hc => hd c (List.mem_of_mem_drop hc))
  rwa [List.take_append_drop] at this

def digB (ds : List Int) : Bool := (ds.all fun c => decide (48 ≤ c) && decide (c ≤ 57)) && (decide (1 ≤ ds.length) && decide (ds.length ≤ 18))
theorem digitsok_loop (ds : List Int) (hm : ds.length < 140737488355328) : ∀ (n i : Nat), i + n = ds.length →
    Ev (fun k => laws_digitsOk.l0 k ds ds (ds.length : Int) (i : Int)) (((ds.drop i).all fun c => decide (48 ≤ c) && decide (c ≤ 57)) && (decide (1 ≤ ds.length) && decide (ds.length ≤ 18)))
  | 0, i, hi => by
    refine Ev.step (fun _ => laws_digitsOk.l0.eq_2 ..) (EvNeg (by omega) ?_)
    rw [List.drop_of_length_le (by omega), List.all_nil, Bool.true_and]
    refine EvIte (fun h => EvNow ?_) (fun h => EvNow ?_)
    · rw [decide_eq_true (p := 1 ≤ ds.length) (by omega), Bool.true_and, Bool.eq_iff_iff]; simp; omega
    · rw [decide_eq_false (p := 1 ≤ ds.length) (by omega), Bool.false_and]
  | n + 1, i, hi => by
    have hlt : i < ds.length := by omega
    refine Ev.step (fun _ => laws_digitsOk.l0.eq_2 ..) (EvPos (by omega) (EvPos (by omega) (EvPos (by omega) ?_)))
    rw [rd_at hlt, wn hlt (by omega), drop_cons hlt, List.all_cons]
    refine EvIte (fun h => EvNow ?_) (fun h => EvIte (fun h2 => EvNow ?_) (fun h2 => ?_))
    · rw [decide_eq_false (by omega), Bool.false_and, Bool.false_and, Bool.false_and]
    · rw [decide_eq_false (p := ds[i] ≤ 57) (by omega), Bool.and_false, Bool.false_and, Bool.false_and]
    · rw [decide_eq_true (p := ds[i] ≤ 57) (by omega), decide_eq_true (by omega), Bool.true_and, Bool.true_and]
      exact digitsok_loop ds hm n (i + 1) (by omega)
theorem digitsok_ev (ds : List Int) (hm : ds.length < 140737488355328) : Ev (fun k => laws_digitsOk.f k ds) (digB ds) := by
  have := digitsok_loop ds hm ds.length 0 (by omega)
  unfold laws_digitsOk.f
  simpa [digB] using this
theorem digB_yes {ds : List Int} (h : digB ds = true) : Digs ds ∧ 1 ≤ ds.length ∧ ds.length ≤ 18 := by
  simp [digB] at h
  exact ⟨fun c hc => h.1 c hc, h.2.1, h.2.2⟩

def Stops (l : List Int) : Prop := ∀ c t, l = c :: t → c < 48 ∨ 57 < c
theorem stops_eq (l : List Int) : ∃ b, laws_stops.f l = some b ∧ (b = true → Stops l) := by
  cases l with
  | nil => exact ⟨true, by simp [laws_stops.f], fun _ c t h => by cases h⟩
  | cons d s =>
    have e : rd (d :: s) 0 = d := rfl
    unfold laws_stops.f
    rw [if_neg (by rw [List.length_cons]; omega), if_pos (by rw [List.length_cons]; omega), e]
    by_cases h : d < 48
    · rw [if_pos h]
      exact ⟨true, rfl, fun _ c t h => by cases h; omega⟩
    · rw [if_neg h]
      refine ⟨_, rfl, fun hb c t h => ?_⟩
      have := of_decide_eq_true hb
      cases h
      omega


theorem value_loop (ds : List Int) (h18 : ds.length ≤ 18) (hd : Digs ds) : ∀ (n i : Nat), i + n = ds.length →
    Ev (fun k => spec_Value.l0 k (val (ds.take i)) ds (ds.length : Int) (i : Int)) (val ds)
  | 0, i, hi => by
    refine Ev.step (fun _ => spec_Value.l0.eq_2 ..) (EvNeg (by omega) ?_)
    rw [List.take_of_length_le (by omega)]
    exact Ev.now _
  | n + 1, i, hi => by
    have hlt : i < ds.length := by omega
    have hc := hd _ (List.getElem_mem hlt)
    have hv := val18 (ds := ds.take (i + 1)) (by simp; omega) (hd.take _)
    have hv0 := val18 (ds := ds.take i) (by simp; omega) (hd.take _)
    rw [take_snoc hlt, val_snoc] at hv
    refine Ev.step (fun _ => spec_Value.l0.eq_2 ..) (EvPos (by omega) (EvPos (by omega) (EvPos (by omega) ?_)))
    rw [rd_at hlt, wn hlt (by omega)]
    have e : wrap64 (wrap64 (10 * val (ds.take i)) + (ds[i] - 48) % 256) = val (ds.take (i + 1)) := by
      rw [take_snoc hlt, val_snoc, Int.emod_eq_of_lt (by omega) (by omega), w64 (i := 10 * _) (by omega) (by omega), w64 (by omega) (by omega)]
    rw [e]
    exact value_loop ds h18 hd n (i + 1) (by omega)
theorem value_ev (ds : List Int) (h18 : ds.length ≤ 18) (hd : Digs ds) : Ev (fun k => spec_Value.f k ds) (val ds) := by
  have := value_loop ds h18 hd ds.length 0 (by omega)
  unfold spec_Value.f
  simpa [val] using this


/-- The digits' number, behind n. -/
def natv (ds : List Int) (n : Nat) : Nat := ds.foldl (fun m c => m * 10 + (c - 48).toNat) n
theorem natv_val : ∀ (ds : List Int) (n : Nat), Digs ds → (natv ds n : Int) = ds.foldl (fun m c => 10 * m + (c - 48)) (n : Int)
  | [], n, _ => rfl
  | c :: t, n, h => by
    have hc := h c (by simp)
    have ih := natv_val t (n * 10 + (c - 48).toNat) (fun x hx => h x (List.mem_cons_of_mem _ hx))
    have e : ((n * 10 + (c - 48).toNat : Nat) : Int) = 10 * (n : Int) + (c - 48) := by omega
    simp only [natv, List.foldl_cons] at ih ⊢
    rw [ih, e]
theorem natv_eq {ds : List Int} (h : Digs ds) : (natv ds 0 : Int) = val ds := natv_val ds 0 h
/-- What is read on digits: all of them, if what follows is no digit and no point. -/
theorem scan_digs : ∀ (ds rest : List Int) (i : Nat) (d : Option Nat) (n : Nat), Digs ds → (∀ c t, rest = c :: t → (c < 48 ∨ 57 < c) ∧ (d = none → c ≠ 46)) → Own.scanF (ds ++ rest) i d n = (i + ds.length, d, natv ds n)
  | [], [], i, d, n, _, _ => rfl
  | [], c :: t, i, d, n, _, h => by
    obtain ⟨h1, h2⟩ := h c t rfl
    show Own.scanF (c :: t) i d n = _
    unfold Own.scanF
    rw [if_neg (by omega), if_neg (fun hh => h2 hh.1 hh.2)]
    rfl
  | c :: t, rest, i, d, n, hd, h => by
    have hc := hd c (by simp)
    have ih := scan_digs t rest (i + 1) d (n * 10 + (c - 48).toNat) (fun x hx => hd x (List.mem_cons_of_mem _ hx)) h
    show Own.scanF (c :: (t ++ rest)) i d n = _
    unfold Own.scanF
    rw [if_pos hc, ih]
    simp only [List.length_cons, natv, List.foldl_cons]
    congr 1
    omega

def Ends (l : List Int) : Prop := ∀ c t, l = c :: t → (c < 48 ∨ 57 < c) ∧ c ≠ 46 ∧ c ≠ 101 ∧ c ≠ 69
theorem ends_eq (l : List Int) : ∃ b, laws_ends.f l = some b ∧ (b = true → Ends l) := by
  obtain ⟨b, hb, hs⟩ := stops_eq l
  unfold laws_ends.f
  rw [hb]
  simp only [Option.bind_some]
  cases b with
  | false => exact ⟨false, by simp, by simp⟩
  | true =>
    rw [if_pos rfl]
    cases l with
    | nil => exact ⟨true, by simp, fun _ c t h => by cases h⟩
    | cons d s =>
      have e : rd (d :: s) 0 = d := rfl
      rw [if_neg (by rw [List.length_cons]; omega), if_pos (by rw [List.length_cons]; omega), e]
      by_cases h1 : d = 46
      · rw [if_pos h1]; exact ⟨false, rfl, by simp⟩
      · rw [if_neg h1]
        by_cases h2 : d = 101
        · rw [if_pos h2]; exact ⟨false, rfl, by simp⟩
        · rw [if_neg h2]
          refine ⟨_, rfl, fun hh c t h => ?_⟩
          have := hs rfl c t h
          cases h
          exact ⟨this, h1, h2, by simpa using hh⟩
theorem getD_app_left {a b : List Int} {i : Nat} (h : i < a.length) : (a ++ b).getD i 0 = a.getD i 0 := by
  simp [List.getD_eq_getElem?_getD, List.getElem?_append_left h]
theorem read_pos (a b : List Int) (ha : Digs a) (h1 : 1 ≤ a.length) (h15 : a.length ≤ 15) (hb : Ends b) (hb3 : b.length ≤ 300) :
    Own.impl_ReadFloat.f (a ++ b) = some (floatOfInt .f64 (val a), (a.length : Int)) := by
  obtain ⟨c, t, rfl⟩ : ∃ c t, a = c :: t := by cases a with | nil => simp at h1 | cons c t => exact ⟨c, t, rfl⟩
  have hc := ha c (by simp)
  have hg : ((c :: t) ++ b).getD 0 0 = c := rfl
  have hd0 : decide (((c :: t) ++ b).getD 0 0 = 45) = false := by rw [hg]; exact decide_eq_false (by omega)
  have hs : Own.rfS ((c :: t) ++ b) = 0 := by unfold Own.rfS; rw [hd0]; rfl
  have hr : Own.rfR ((c :: t) ++ b) = ((c :: t).length, none, natv (c :: t) 0) := by
    unfold Own.rfR
    rw [hs, List.drop_zero, scan_digs (c :: t) b 0 none 0 ha (fun c t h => ⟨(hb c t h).1, fun _ => (hb c t h).2.1⟩), Nat.zero_add]
  have hv := (val_bd _ (c :: t) rfl ha).2
  have hp := pow_le h15
  have hn := natv_eq ha
  have e15 : (10 : Int) ^ 15 = 1000000000000000 := by decide
  unfold Own.impl_ReadFloat.f
  have hok : Own.rfOk ((c :: t) ++ b) = true := by
    unfold Own.rfOk
    rw [hs, hr]
    refine decide_eq_true ⟨by rw [List.length_append]; omega, by simp, by rw [hg]; omega, by rw [hg]; omega, by rw [hg]; omega, by show natv (c :: t) 0 < _; omega, rfl, fun hlt => ?_⟩
    show ((c :: t) ++ b).getD (c :: t).length 0 ≠ 101 ∧ ((c :: t) ++ b).getD (c :: t).length 0 ≠ 69
    cases b with
    | nil => exfalso; simp at hlt
    | cons d s =>
      have := hb d s rfl
      have e : ((c :: t) ++ d :: s).getD (c :: t).length 0 = d := by simp [List.getD_eq_getElem?_getD]
      rw [e]
      exact this.2.2
  rw [if_pos hok, hr, hd0, Own.fsgn_false, hn]
theorem read_neg (a b : List Int) (ha : Digs a) (h1 : 1 ≤ a.length) (h15 : a.length ≤ 15) (hb : Ends b) (hb3 : b.length ≤ 300) :
    Own.impl_ReadFloat.f (45 :: (a ++ b)) = some (Op.negFloat .f64 (floatOfInt .f64 (val a)), (a.length : Int) + 1) := by
  obtain ⟨c, t, rfl⟩ : ∃ c t, a = c :: t := by cases a with | nil => simp at h1 | cons c t => exact ⟨c, t, rfl⟩
  have hc := ha c (by simp)
  have hg : (45 :: ((c :: t) ++ b)).getD 0 0 = 45 := rfl
  have hg1 : (45 :: ((c :: t) ++ b)).getD 1 0 = c := rfl
  have hd0 : decide ((45 :: ((c :: t) ++ b)).getD 0 0 = 45) = true := rfl
  have hs : Own.rfS (45 :: ((c :: t) ++ b)) = 1 := by unfold Own.rfS; rw [hd0]; rfl
  have hr : Own.rfR (45 :: ((c :: t) ++ b)) = (1 + (c :: t).length, none, natv (c :: t) 0) := by
    unfold Own.rfR
    rw [hs]
    exact scan_digs (c :: t) b 1 none 0 ha (fun c t h => ⟨(hb c t h).1, fun _ => (hb c t h).2.1⟩)
  have hv := (val_bd _ (c :: t) rfl ha).2
  have hp := pow_le h15
  have hn := natv_eq ha
  have e15 : (10 : Int) ^ 15 = 1000000000000000 := by decide
  unfold Own.impl_ReadFloat.f
  have hok : Own.rfOk (45 :: ((c :: t) ++ b)) = true := by
    unfold Own.rfOk
    rw [hs, hr, hg1]
    refine decide_eq_true ⟨by rw [List.length_cons, List.length_append]; omega, by simp, by rw [hg]; omega, by omega, by omega, by show natv (c :: t) 0 < _; omega, rfl, fun hlt => ?_⟩
    show (45 :: ((c :: t) ++ b)).getD (1 + (c :: t).length) 0 ≠ 101 ∧ (45 :: ((c :: t) ++ b)).getD (1 + (c :: t).length) 0 ≠ 69
    cases b with
    | nil => exfalso; simp at hlt; omega
    | cons d s =>
      have := hb d s rfl
      have e : (45 :: ((c :: t) ++ d :: s)).getD (1 + (c :: t).length) 0 = d := by
        rw [Nat.add_comm]
        simp [List.getD_eq_getElem?_getD]
      rw [e]
      exact this.2.2
  rw [if_pos hok, hr, hd0, Own.fsgn_true, hn]
  congr 2
  simp
  omega
theorem same_pos {v : Int} (h0 : 0 ≤ v) (h1 : v < 1000000000000000) : (Ieee.Format.order (FloatKind.format .f64) (floatOfInt .f64 v) (floatOfInt .f64 v) == some Ordering.eq) = true := by
  have := Own.order_self (s := decide (v < 0)) (N := v.natAbs) (p := 0) (by omega) ⟨by omega, by omega⟩
  rw [Own.ofInt_fl]
  show (Ieee.double.order _ _ == _) = true
  rw [this]
  rfl
theorem same_neg {v : Int} (h0 : 0 ≤ v) (h1 : v < 1000000000000000) : (Ieee.Format.order (FloatKind.format .f64) (Op.negFloat .f64 (floatOfInt .f64 v)) (Op.negFloat .f64 (floatOfInt .f64 v)) == some Ordering.eq) = true := by
  have := Own.order_self (s := !decide (v < 0)) (N := v.natAbs) (p := 0) (by omega) ⟨by omega, by omega⟩
  rw [Own.ofInt_fl, Own.neg_fl]
  show (Ieee.double.order _ _ == _) = true
  rw [this]
  rfl
theorem FnNumberFloat : laws_FnNumberFloat.Pure := by
  intro neg a b ha1 ha2 ha hb1 hb2 hb
  refine Ev.rounds ?_
  unfold laws_FnNumberFloat.f
  have j1 : ∀ q : Bool, (q = false → Digs a ∧ 1 ≤ a.length ∧ a.length ≤ 15 ∧ Ends b ∧ b.length ≤ 300) → Ev (fun k => laws_FnNumberFloat.j1 k neg a b q) true := by
    intro q hq
    refine Ev.step (fun _ => laws_FnNumberFloat.j1.eq_2 ..) (EvIte (fun _ => Ev.now _) (fun h => ?_))
    obtain ⟨hd, h1, h15, he, hb3⟩ := hq (by simpa using h)
    have hv0 := (val_bd _ a rfl hd).1
    have hv : val a < 1000000000000000 := by
      have h2 := (val_bd _ a rfl hd).2
      have h3 := pow_le h15
      have e15 : (10 : Int) ^ 15 = 1000000000000000 := by decide
      omega
    refine Ev.bind (join_ev _ (by simp) (by simp; omega)) (Ev.bind (value_ev a (by omega) hd) ?_)
    simp only [List.flatten_cons, List.flatten_nil, List.append_nil]
    refine EvIte (fun hn => ?_) (fun hn => ?_)
    · refine Ev.bind (join_ev _ (by simp) (by simp; omega)) (Ev.bind (join_ev _ (by simp) (by simp; omega)) ?_)
      simp only [List.flatten_cons, List.flatten_nil, List.append_nil, List.singleton_append, List.cons_append]
      refine EvGet (read_neg a b hd h1 h15 he hb3) (EvPos (same_neg hv0 hv) (EvNow ?_))
      simp
    · refine Ev.bind (join_ev _ (by simp) (by simp; omega)) ?_
      simp only [List.flatten_cons, List.flatten_nil, List.append_nil]
      refine EvGet (read_pos a b hd h1 h15 he hb3) (EvPos (same_pos hv0 hv) (EvNow ?_))
      simp
  have yes := j1 true (by simp)
  have start : ∀ q : Bool, Ev (fun k => laws_FnNumberFloat.j0 k neg a b q) true := by
    intro q
    refine Ev.step (fun _ => laws_FnNumberFloat.j0.eq_2 ..) (EvIte (fun _ => Ev.now _) (fun _ => ?_))
    by_cases hlen : a.length < 140737488355328
    · refine Ev.bind (digitsok_ev a hlen) (EvIte (fun hdg => EvIte (fun _ => yes) (fun h15 => ?_)) (fun _ => yes))
      obtain ⟨hd, h1, _⟩ := digB_yes hdg
      refine Ev.bind (few_ev _ (by simp)) (EvIte (fun hf => ?_) (fun _ => yes))
      obtain ⟨eb, he, het⟩ := ends_eq b
      refine EvGet he (j1 _ (fun hq => ⟨hd, h1, by omega, het (by simpa using hq), by simpa using hf⟩))
    · omega
  exact EvIte (fun _ => start true) (fun _ => start _)

end Go.Proofs.YtjhjpkdjgcdckaaDoor.Pure
