/- FnNumberInt, its pure statement: an integer of at most 18 digits, with a sign perhaps, is read up to the first byte that is no digit. For all byte lists. -/
import Derived.Test.YtbpmfmkdpjajhaaAid
import Derived.Test.YtbpmfmkdpjajhaaPFnNumberIntx0
import Derived.Test.YtbpmfmkdpjajhaaPFnNumberIntx1
import Derived.Test.YtbpmfmkdpjajhaaPFnNumberIntx2
import Derived.Test.YtbpmfmkdpjajhaaPFnNumberIntx3
namespace Go.Proofs.Ytbpmfmkdpjajhaa.Pure
open Go.RowKit Go.Proofs.Ytbpmfmkdpjajhaa.PFnNumberInt Go.Proofs.YtbpmfmkdpjajhaaW.PrintWords Go.Proofs.YtbpmfmkdpjajhaaW.PrintLast Go.Proofs.Ytbpmfmkdpjajhaa.Aid
set_option linter.unusedVariables false
set_option linter.unusedSimpArgs false

theorem own_eq (l : List Int) (h : l.length < 140737488355328) : impl_own.f l = some l := by
  unfold impl_own.f
  simp only [Option.bind_some, List.nil_append, List.length_nil, Nat.zero_add]
  rw [if_pos h]

theorem few_loop (ls : List (List Int)) (hl : ls.length ≤ 1000) : ∀ (n i : Nat), i + n = ls.length →
    Ev (fun k => laws_fewBytes.l0 k ls (ls.length : Int) (i : Int)) ((ls.drop i).all fun l => decide (l.length ≤ 300))
  | 0, i, hi => by
    refine Ev.step (fun _ => laws_fewBytes.l0.eq_2 ..) (EvNeg (by omega) ?_)
    rw [List.drop_of_length_le (by omega)]
    exact Ev.now _
  | n + 1, i, hi => by
    have hlt : i < ls.length := by omega
    have e : rd_L1 ls (i : Int) = ls[i] := by unfold rd_L1; simp [List.getD_eq_getElem?_getD, List.getElem?_eq_getElem hlt]
    refine Ev.step (fun _ => laws_fewBytes.l0.eq_2 ..) (EvPos (by omega) (EvPos (by omega) (EvPos (by omega) ?_)))
    rw [e, wn hlt (by omega), drop_cons hlt, List.all_cons]
    refine EvIte (fun h => ?_) (fun h => ?_)
    · rw [decide_eq_false (by omega), Bool.false_and]
      exact Ev.now _
    · rw [decide_eq_true (by omega), Bool.true_and]
      exact few_loop ls hl n (i + 1) (by omega)
theorem few_ev (ls : List (List Int)) (hl : ls.length ≤ 1000) : Ev (fun k => laws_fewBytes.f k ls) (ls.all fun l => decide (l.length ≤ 300)) := by
  have := few_loop ls hl ls.length 0 (by omega)
  unfold laws_fewBytes.f
  simpa using this

theorem join_loop (ls : List (List Int)) (hl : ls.length ≤ 1000) : ∀ (n i : Nat) (acc : List Int), i + n = ls.length → acc.length + (ls.drop i).flatten.length < 140737488355328 →
    Ev (fun k => spec_Join.l0 k acc ls (ls.length : Int) (i : Int)) (acc ++ (ls.drop i).flatten)
  | 0, i, acc, hi, hs => by
    refine Ev.step (fun _ => spec_Join.l0.eq_2 ..) (EvNeg (by omega) ?_)
    rw [List.drop_of_length_le (by omega)]
    simp only [List.flatten_nil, List.append_nil]
    exact Ev.now _
  | n + 1, i, acc, hi, hs => by
    have hlt : i < ls.length := by omega
    have e : rd_L1 ls (i : Int) = ls[i] := by unfold rd_L1; simp [List.getD_eq_getElem?_getD, List.getElem?_eq_getElem hlt]
    rw [drop_cons hlt, List.flatten_cons, List.length_append] at hs
    refine Ev.step (fun _ => spec_Join.l0.eq_2 ..) (EvPos (by omega) (EvPos (by omega) (EvPos (by omega) ?_)))
    rw [e, wn hlt (by omega), drop_cons hlt, List.flatten_cons, ← List.append_assoc]
    refine EvPos (by omega) ?_
    exact join_loop ls hl n (i + 1) (acc ++ ls[i]) (by omega) (by rw [List.length_append]; omega)
theorem join_ev (ls : List (List Int)) (hl : ls.length ≤ 1000) (hs : ls.flatten.length < 140737488355328) : Ev (fun k => spec_Join.f k ls) ls.flatten := by
  have := join_loop ls hl ls.length 0 [] (by omega) (by simpa using hs)
  unfold spec_Join.f
  simpa using this

def val (ds : List Int) : Int := ds.foldl (fun n c => 10 * n + (c - 48)) 0
def Digs (ds : List Int) : Prop := ∀ c ∈ ds, 48 ≤ c ∧ c ≤ 57
theorem val_snoc (ds : List Int) (c : Int) : val (ds ++ [c]) = 10 * val ds + (c - 48) := by simp [val]
theorem val_bd : ∀ (n : Nat) (ds : List Int), ds.length = n → Digs ds → 0 ≤ val ds ∧ val ds < 10 ^ n
  | 0, ds, h, _ => by
    obtain rfl := List.eq_nil_of_length_eq_zero h
    simp [val]
  | n + 1, ds, h, hd => by
    obtain ⟨ds', c, rfl⟩ : ∃ ds' c, ds = ds' ++ [c] := ⟨ds.dropLast, ds.getLast (by intro e; subst e; simp at h), (List.dropLast_concat_getLast _).symm⟩
    rw [List.length_append] at h
    have ih := val_bd n ds' (by simpa using h) (fun x hx => hd x (List.mem_append_left _ hx))
    have hc := hd c (by simp)
    rw [val_snoc, Int.pow_succ]
    omega
theorem pow_le {n m : Nat} (h : n ≤ m) : (10 : Int) ^ n ≤ 10 ^ m := by
  have := Nat.pow_le_pow_right (n := 10) (by omega) h
  exact_mod_cast this
theorem val18 {ds : List Int} (h : ds.length ≤ 18) (hd : Digs ds) : 0 ≤ val ds ∧ val ds < 1000000000000000000 := by
  have h1 := val_bd _ ds rfl hd
  have h2 := pow_le h
  have e : (10 : Int) ^ 18 = 1000000000000000000 := by decide
  omega
theorem Digs.take {ds : List Int} (h : Digs ds) (i : Nat) : Digs (ds.take i) := fun c hc => h c (List.mem_of_mem_take hc)
theorem take_snoc {ds : List Int} {i : Nat} (h : i < ds.length) : ds.take (i + 1) = ds.take i ++ [ds[i]] := by
  rw [List.take_succ_eq_append_getElem h]
theorem val_append_ge : ∀ (b a : List Int), Digs a → Digs b → val a ≤ val (a ++ b)
  | [], a, _, _ => by simp
  | c :: b, a, ha, hb => by
    have hc := hb c (by simp)
    have h0 := (val_bd _ a rfl ha).1
    have ih := val_append_ge b (a ++ [c]) (fun x hx => by
      rcases List.mem_append.1 hx with hx | hx
      · exact ha x hx
      · rw [List.mem_singleton.1 hx]; exact hc) (fun x hx => hb x (List.mem_cons_of_mem _ hx))
    rw [val_snoc, List.append_assoc, List.singleton_append] at ih
    omega
theorem val_take_le {ds : List Int} (hd : Digs ds) (i : Nat) : val (ds.take i) ≤ val ds := by
  have := val_append_ge (ds.drop i) (ds.take i) (hd.take _) (fun c hc => hd c (List.mem_of_mem_drop hc))
  rwa [List.take_append_drop] at this

def digB (ds : List Int) : Bool := (ds.all fun c => decide (48 ≤ c) && decide (c ≤ 57)) && (decide (1 ≤ ds.length) && decide (ds.length ≤ 18))
theorem digitsok_loop (ds : List Int) (hm : ds.length < 140737488355328) : ∀ (n i : Nat), i + n = ds.length →
    Ev (fun k => laws_digitsOk.l0 k ds ds (ds.length : Int) (i : Int)) (((ds.drop i).all fun c => decide (48 ≤ c) && decide (c ≤ 57)) && (decide (1 ≤ ds.length) && decide (ds.length ≤ 18)))
  | 0, i, hi => by
    refine Ev.step (fun _ => laws_digitsOk.l0.eq_2 ..) (EvNeg (by omega) ?_)
    rw [List.drop_of_length_le (by omega), List.all_nil, Bool.true_and]
    refine EvIte (fun h => EvNow ?_) (fun h => EvNow ?_)
    · rw [decide_eq_true (p := 1 ≤ ds.length) (by omega), Bool.true_and, Bool.eq_iff_iff]; simp; omega
    · rw [decide_eq_false (p := 1 ≤ ds.length) (by omega), Bool.false_and]
  | n + 1, i, hi => by
    have hlt : i < ds.length := by omega
    refine Ev.step (fun _ => laws_digitsOk.l0.eq_2 ..) (EvPos (by omega) (EvPos (by omega) (EvPos (by omega) ?_)))
    rw [rd_at hlt, wn hlt (by omega), drop_cons hlt, List.all_cons]
    refine EvIte (fun h => EvNow ?_) (fun h => EvIte (fun h2 => EvNow ?_) (fun h2 => ?_))
    · rw [decide_eq_false (by omega), Bool.false_and, Bool.false_and, Bool.false_and]
    · rw [decide_eq_false (p := ds[i] ≤ 57) (by omega), Bool.and_false, Bool.false_and, Bool.false_and]
    · rw [decide_eq_true (p := ds[i] ≤ 57) (by omega), decide_eq_true (by omega), Bool.true_and, Bool.true_and]
      exact digitsok_loop ds hm n (i + 1) (by omega)
theorem digitsok_ev (ds : List Int) (hm : ds.length < 140737488355328) : Ev (fun k => laws_digitsOk.f k ds) (digB ds) := by
  have := digitsok_loop ds hm ds.length 0 (by omega)
  unfold laws_digitsOk.f
  simpa [digB] using this
theorem digB_yes {ds : List Int} (h : digB ds = true) : Digs ds ∧ 1 ≤ ds.length ∧ ds.length ≤ 18 := by
  simp [digB] at h
  exact ⟨fun c hc => h.1 c hc, h.2.1, h.2.2⟩

def Stops (l : List Int) : Prop := ∀ c t, l = c :: t → c < 48 ∨ 57 < c
theorem stops_eq (l : List Int) : ∃ b, laws_stops.f l = some b ∧ (b = true → Stops l) := by
  cases l with
  | nil => exact ⟨true, by simp [laws_stops.f], fun _ c t h => by cases h⟩
  | cons d s =>
    have e : rd (d :: s) 0 = d := rfl
    unfold laws_stops.f
    rw [if_neg (by rw [List.length_cons]; omega), if_pos (by rw [List.length_cons]; omega), e]
    by_cases h : d < 48
    · rw [if_pos h]
      exact ⟨true, rfl, fun _ c t h => by cases h; omega⟩
    · rw [if_neg h]
      refine ⟨_, rfl, fun hb c t h => ?_⟩
      have := of_decide_eq_true hb
      cases h
      omega


theorem value_loop (ds : List Int) (h18 : ds.length ≤ 18) (hd : Digs ds) : ∀ (n i : Nat), i + n = ds.length →
    Ev (fun k => spec_Value.l0 k (val (ds.take i)) ds (ds.length : Int) (i : Int)) (val ds)
  | 0, i, hi => by
    refine Ev.step (fun _ => spec_Value.l0.eq_2 ..) (EvNeg (by omega) ?_)
    rw [List.take_of_length_le (by omega)]
    exact Ev.now _
  | n + 1, i, hi => by
    have hlt : i < ds.length := by omega
    have hc := hd _ (List.getElem_mem hlt)
    have hv := val18 (ds := ds.take (i + 1)) (by simp; omega) (hd.take _)
    have hv0 := val18 (ds := ds.take i) (by simp; omega) (hd.take _)
    rw [take_snoc hlt, val_snoc] at hv
    refine Ev.step (fun _ => spec_Value.l0.eq_2 ..) (EvPos (by omega) (EvPos (by omega) (EvPos (by omega) ?_)))
    rw [rd_at hlt, wn hlt (by omega)]
    have e : wrap64 (wrap64 (10 * val (ds.take i)) + (ds[i] - 48) % 256) = val (ds.take (i + 1)) := by
      rw [take_snoc hlt, val_snoc, Int.emod_eq_of_lt (by omega) (by omega), w64 (i := 10 * _) (by omega) (by omega), w64 (by omega) (by omega)]
    rw [e]
    exact value_loop ds h18 hd n (i + 1) (by omega)
theorem value_ev (ds : List Int) (h18 : ds.length ≤ 18) (hd : Digs ds) : Ev (fun k => spec_Value.f k ds) (val ds) := by
  have := value_loop ds h18 hd ds.length 0 (by omega)
  unfold spec_Value.f
  simpa [val] using this


section
variable (pre ds rest : List Int) (ng : Bool) (hlen : (pre ++ ds ++ rest).length < 140737488355328) (hd : Digs ds) (hv : val ds ≤ 9223372036854775808) (hst : ∀ c t, rest = c :: t → c < 48 ∨ 57 < c)
include hlen hd hv hst
theorem pint_loop {r : Int × Int} (e : Ev (fun k => tdstrconv_ParseInt.j4 k ((pre.length + ds.length : Nat) : Int) ng (pre.length : Int) (val ds)) r) :
    ∀ (n i : Nat), i + n = ds.length → Ev (fun k => tdstrconv_ParseInt.l0 k (pre ++ ds ++ rest) ((pre.length + i : Nat) : Int) ng (pre.length : Int) (val (ds.take i))) r
  | 0, i, hi => by
    have hi' : i = ds.length := by omega
    subst hi'
    rw [List.take_of_length_le (Nat.le_refl _)]
    refine Ev.step (fun _ => tdstrconv_ParseInt.l0.eq_2 ..) (EvIte (fun h => ?_) (fun _ => e))
    have hr : 0 < rest.length := by simp at h; omega
    refine EvPos (by omega) ?_
    have hlt : pre.length + ds.length < (pre ++ ds ++ rest).length := by simp; omega
    obtain ⟨c, t, rfl⟩ : ∃ c t, rest = c :: t := by cases rest with | nil => simp at hr | cons c t => exact ⟨c, t, rfl⟩
    have e2 : (pre ++ ds ++ c :: t)[pre.length + ds.length] = c := by
      rw [List.getElem_append_right (by simp)]; simp
    rw [rd_at hlt, e2]
    have hc := hst c t rfl
    refine EvIte (fun h1 => ?_) (fun h1 => ?_)
    · refine Ev.step (fun _ => tdstrconv_ParseInt.j3.eq_2 ..) (EvNeg (by simp; omega) e)
    · refine Ev.step (fun _ => tdstrconv_ParseInt.j3.eq_2 ..) (EvNeg (by simp) e)
  | n + 1, i, hi => by
    have hlt0 : i < ds.length := by omega
    have hlt : pre.length + i < (pre ++ ds ++ rest).length := by rw [List.length_append, List.length_append]; omega
    have e1 : (pre ++ ds ++ rest)[pre.length + i] = ds[i] := by
      rw [List.getElem_append_left (by rw [List.length_append]; omega), List.getElem_append_right (by omega)]; simp
    have hc := hd _ (List.getElem_mem hlt0)
    have hp : val (ds.take (i + 1)) ≤ val ds ∧ 0 ≤ val (ds.take i) := ⟨val_take_le hd (i + 1), (val_bd _ (ds.take i) rfl (hd.take _)).1⟩
    rw [take_snoc hlt0, val_snoc] at hp
    refine Ev.step (fun _ => tdstrconv_ParseInt.l0.eq_2 ..) (EvPos (by omega) (EvPos (by omega) ?_))
    rw [rd_at hlt, e1]
    refine EvPos (by omega) ?_
    refine Ev.step (fun _ => tdstrconv_ParseInt.j3.eq_2 ..) (EvPos (by simp; omega) ?_)
    rw [Int.emod_eq_of_lt (a := ds[i] - 48) (b := 256) (by omega) (by omega)]
    have e3 : IntKind.u64.wrap (val (ds.take i) * 10) = val (ds.take i) * 10 := wu (by omega) (by omega)
    rw [e3]
    have e4 : IntKind.u64.wrap (val (ds.take i) * 10 + (ds[i] - 48)) = val (ds.take (i + 1)) := by
      rw [wu (by omega) (by omega), take_snoc hlt0, val_snoc]; omega
    rw [e4]
    refine EvNeg (by omega) (EvNeg (by omega) ?_)
    rw [wn hlt (by omega), Nat.add_assoc]
    exact pint_loop e n (i + 1) (by omega)
theorem pint_start {r : Int × Int} (e : Ev (fun k => tdstrconv_ParseInt.j4 k ((pre.length + ds.length : Nat) : Int) ng (pre.length : Int) (val ds)) r) :
    Ev (fun k => tdstrconv_ParseInt.j1 k (pre ++ ds ++ rest) (pre.length : Int) ng) r := by
  refine Ev.step (fun _ => tdstrconv_ParseInt.j1.eq_2 ..) ?_
  have := pint_loop pre ds rest ng hlen hd hv hst e ds.length 0 (by omega)
  simpa [val] using this
end
theorem j4_none (a : Int) (ng : Bool) (v : Int) : Ev (fun k => tdstrconv_ParseInt.j4 k a ng a v) (0, 0) :=
  Ev.step (fun _ => tdstrconv_ParseInt.j4.eq_2 ..) (EvPos rfl (Ev.now _))
theorem j4_pos (a s v : Int) (h : a ≠ s) (h0 : 0 ≤ v) (h1 : v ≤ 9223372036854775807) : Ev (fun k => tdstrconv_ParseInt.j4 k a false s v) (v, a) := by
  refine Ev.step (fun _ => tdstrconv_ParseInt.j4.eq_2 ..) (EvNeg h (EvNeg (by simp) ?_))
  refine Ev.step (fun _ => tdstrconv_ParseInt.j5.eq_2 ..) (EvNeg (by simp; omega) (EvNeg (by simp) (EvNow ?_)))
  rw [w64 (by omega) (by omega)]
theorem j4_neg (a s v : Int) (h : a ≠ s) (h0 : 0 ≤ v) (h1 : v ≤ 9223372036854775808) : Ev (fun k => tdstrconv_ParseInt.j4 k a true s v) (-v, a) := by
  refine Ev.step (fun _ => tdstrconv_ParseInt.j4.eq_2 ..) (EvNeg h (EvPos rfl ?_))
  refine Ev.step (fun _ => tdstrconv_ParseInt.j5.eq_2 ..) (EvNeg (by simp) (EvPos rfl (EvNow ?_)))
  congr 1
  unfold wrap64
  omega
theorem readint_sign {c : Int} (ds rest : List Int) {r : Int × Int} (hc : c = 43 ∨ c = 45) (hlen : (c :: (ds ++ rest)).length < 140737488355328) (hd : Digs ds) (hv : val ds ≤ 9223372036854775808) (hst : ∀ c t, rest = c :: t → c < 48 ∨ 57 < c)
    (e : Ev (fun k => tdstrconv_ParseInt.j4 k ((1 + ds.length : Nat) : Int) (c == 45) 1 (val ds)) r) : Ev (fun k => impl_ReadInt.f k (c :: (ds ++ rest))) r := by
  unfold impl_ReadInt.f
  refine EvGet (own_eq _ hlen) (Ev.bind (a := r) ?_ (Ev.now _))
  unfold tdstrconv_ParseInt.f
  have e0 : rd (c :: (ds ++ rest)) 0 = c := rfl
  have hp : (0 : Int) < ((c :: (ds ++ rest)).length : Int) := by simp; omega
  have go : Ev (fun k => tdstrconv_ParseInt.j0 k (c :: (ds ++ rest)) 0 false true) r := by
    refine Ev.step (fun _ => tdstrconv_ParseInt.j0.eq_2 ..) (EvPos rfl (EvPos hp ?_))
    rw [e0, show wrap64 (0 + 1) = 1 by unfold wrap64; omega]
    exact pint_start [c] ds rest _ hlen hd hv hst e
  refine EvPos hp (EvPos hp ?_)
  rw [e0]
  refine EvIte (fun _ => go) (fun h => ?_)
  rw [show (c == 45) = true by simp; omega]
  exact go
theorem readint_plain (ds rest : List Int) {r : Int × Int} (hc : ∀ c t, ds ++ rest = c :: t → c ≠ 43 ∧ c ≠ 45) (hlen : (ds ++ rest).length < 140737488355328) (hd : Digs ds) (hv : val ds ≤ 9223372036854775808) (hst : ∀ c t, rest = c :: t → c < 48 ∨ 57 < c)
    (e : Ev (fun k => tdstrconv_ParseInt.j4 k (ds.length : Int) false 0 (val ds)) r) : Ev (fun k => impl_ReadInt.f k (ds ++ rest)) r := by
  unfold impl_ReadInt.f
  refine EvGet (own_eq _ hlen) (Ev.bind (a := r) ?_ (Ev.now _))
  unfold tdstrconv_ParseInt.f
  have go : Ev (fun k => tdstrconv_ParseInt.j0 k (ds ++ rest) 0 false false) r := by
    refine Ev.step (fun _ => tdstrconv_ParseInt.j0.eq_2 ..) (EvNeg (by simp) ?_)
    exact pint_start [] ds rest false hlen hd hv hst (by simpa using e)
  refine EvIte (fun h => EvPos (by omega) ?_) (fun _ => go)
  obtain ⟨c, t, hct⟩ : ∃ c t, ds ++ rest = c :: t := by
    cases hx : ds ++ rest with
    | nil => rw [hx] at h; simp at h
    | cons c t => exact ⟨c, t, rfl⟩
  obtain ⟨h1, h2⟩ := hc c t hct
  have e0 : rd (ds ++ rest) 0 = c := by rw [hct]; rfl
  rw [e0]
  refine EvNeg h1 ?_
  rw [show (c == 45) = false by simpa using h2]
  exact go

theorem FnNumberInt : laws_FnNumberInt.Pure := by
  intro s a b hs ha1 ha2 ha hb1 hb2 hb
  refine Ev.rounds ?_
  unfold laws_FnNumberInt.f
  have start : ∀ q : Bool, Ev (fun k => laws_FnNumberInt.j0 k s a b q) true := by
    intro q
    have j1 : ∀ q : Bool, (q = false → (digB a = true ∧ Stops b) ∧ b.length ≤ 300 ∧ 0 ≤ s ∧ s ≤ 2) → Ev (fun k => laws_FnNumberInt.j1 k s a b q) true := by
      intro q hq
      refine Ev.step (fun _ => laws_FnNumberInt.j1.eq_2 ..) (EvIte (fun _ => Ev.now _) (fun h => ?_))
      obtain ⟨⟨h1, h2⟩, h3, h4, h5⟩ := hq (by simpa using h)
      obtain ⟨hd, h6, h7⟩ := digB_yes h1
      have hv := val18 h7 hd
      have e0 : Go.Proofs.Ytbpmfmkdpjajhaa.Own.numsOf (⟨#[]⟩ : ByteArray) = [] := rfl
      have e1 : Go.Proofs.Ytbpmfmkdpjajhaa.Own.numsOf (⟨#[45]⟩ : ByteArray) = [45] := rfl
      have e2 : Go.Proofs.Ytbpmfmkdpjajhaa.Own.numsOf (⟨#[43]⟩ : ByteArray) = [43] := rfl
      rw [e0, e1, e2]
      refine EvIte (fun hs0 => ?_) (fun hs0 => EvIte (fun hs1 => ?_) (fun hs1 => EvPos (by omega) ?_))
      · refine Ev.bind (join_ev _ (by simp) (by simp; omega)) ?_
        simp only [List.flatten_cons, List.flatten_nil, List.append_nil, List.nil_append]
        refine Ev.bind (value_ev a h7 hd) (EvNeg (by omega) (Ev.bind (join_ev _ (by simp) (by simp; omega)) ?_))
        simp only [List.flatten_cons, List.flatten_nil, List.append_nil]
        refine Ev.bind (readint_plain a b (fun c t e => ?_) (by simp; omega) hd (by omega) h2 (j4_pos _ 0 _ (by omega) (by omega) (by omega))) (EvPos rfl (EvNow (by simp)))
        cases a with
        | nil => simp at h6
        | cons d t' =>
          have := hd d (by simp)
          simp only [List.cons_append, List.cons.injEq] at e
          omega
      · refine Ev.bind (join_ev _ (by simp) (by simp; omega)) ?_
        simp only [List.flatten_cons, List.flatten_nil, List.append_nil, List.singleton_append]
        refine Ev.bind (value_ev a h7 hd) (Ev.bind (join_ev _ (by simp) (by simp; omega)) ?_)
        simp only [List.flatten_cons, List.flatten_nil, List.append_nil, List.cons_append]
        refine Ev.bind (readint_sign a b (.inr rfl) (by simp; omega) hd (by omega) h2 (j4_neg _ 1 _ (by omega) (by omega) (by omega))) (EvPos (by rw [w64 (by omega) (by omega)]) (EvNow (by simp; omega)))
      · refine Ev.bind (join_ev _ (by simp) (by simp; omega)) ?_
        simp only [List.flatten_cons, List.flatten_nil, List.append_nil, List.singleton_append]
        refine Ev.bind (value_ev a h7 hd) (Ev.bind (join_ev _ (by simp) (by simp; omega)) ?_)
        simp only [List.flatten_cons, List.flatten_nil, List.append_nil, List.cons_append]
        refine Ev.bind (readint_sign a b (.inl rfl) (by simp; omega) hd (by omega) h2 (j4_pos _ 1 _ (by omega) (by omega) (by omega))) (EvPos rfl (EvNow (by simp; omega)))
    have yes := j1 true (by simp)
    refine Ev.step (fun _ => laws_FnNumberInt.j0.eq_2 ..) (EvIte (fun _ => Ev.now _) (fun h => EvIte (fun _ => yes) (fun hs0 => EvIte (fun _ => yes) (fun hs2 => ?_))))
    by_cases hlen : a.length < 140737488355328
    · refine Ev.bind (digitsok_ev a hlen) (EvIte (fun hdg => ?_) (fun _ => yes))
      obtain ⟨sb, hs', hst⟩ := stops_eq b
      refine EvGet hs' (EvIte (fun hsb => ?_) (fun _ => yes))
      refine Ev.bind (few_ev _ (by simp)) (j1 _ (fun hq => ⟨⟨hdg, hst hsb⟩, by simpa using hq, by omega, by omega⟩))
    · omega
  exact EvIte (fun _ => start true) (fun _ => start _)

end Go.Proofs.Ytbpmfmkdpjajhaa.Pure
