/- FnNumberNoInt, its pure statement: where no digit comes, and no sign, nothing is read. For all byte lists. -/
import Derived.Test.YteklgpjdcdkdpaaAid
import Derived.Test.YteklgpjdcdkdpaaPFnNumberNoIntx0
import Derived.Test.YteklgpjdcdkdpaaPFnNumberNoIntx1
import Derived.Test.YteklgpjdcdkdpaaPFnNumberNoIntx2
import Derived.Test.YteklgpjdcdkdpaaPFnNumberNoIntx3
namespace Go.Proofs.Yteklgpjdcdkdpaa.Pure
open Go.RowKit Go.Proofs.Yteklgpjdcdkdpaa.PFnNumberNoInt Go.Proofs.YteklgpjdcdkdpaaW.PrintWords Go.Proofs.YteklgpjdcdkdpaaW.PrintLast Go.Proofs.Yteklgpjdcdkdpaa.Aid
set_option linter.unusedVariables false
set_option linter.unusedSimpArgs false

theorem few_loop (ls : List (List Int)) (hl : ls.length ≤ 1000) : ∀ (n i : Nat), i + n = ls.length →
    Ev (fun k => laws_fewBytes.l0 k ls (ls.length : Int) (i : Int)) ((ls.drop i).all fun l => decide (l.length ≤ 300))
  | 0, i, hi => by
    refine Ev.step (fun _ => laws_fewBytes.l0.eq_2 ..) (EvNeg (by omega) ?_)
    rw [List.drop_of_length_le (by omega)]
    exact Ev.now _
  | n + 1, i, hi => by
    have hlt : i < ls.length := by omega
    have e : rd_L1 ls (i : Int) = ls[i] := by unfold rd_L1; simp [List.getD_eq_getElem?_getD, List.getElem?_eq_getElem hlt]
    refine Ev.step (fun _ => laws_fewBytes.l0.eq_2 ..) (EvPos (by omega) (EvPos (by omega) (EvPos (by omega) ?_)))
    rw [e, wn hlt (by omega), drop_cons hlt, List.all_cons]
    refine EvIte (fun h => ?_) (fun h => ?_)
    · rw [decide_eq_false (by omega), Bool.false_and]
      exact Ev.now _
    · rw [decide_eq_true (by omega), Bool.true_and]
      exact few_loop ls hl n (i + 1) (by omega)
theorem few_ev (ls : List (List Int)) (hl : ls.length ≤ 1000) : Ev (fun k => laws_fewBytes.f k ls) (ls.all fun l => decide (l.length ≤ 300)) := by
  have := few_loop ls hl ls.length 0 (by omega)
  unfold laws_fewBytes.f
  simpa using this

def Stops (l : List Int) : Prop := ∀ c t, l = c :: t → c < 48 ∨ 57 < c
theorem stops_eq (l : List Int) : ∃ b, laws_stops.f l = some b ∧ (b = true → Stops l) := by
  cases l with
  | nil => exact ⟨true, by simp [laws_stops.f], fun _ c t h => by cases h⟩
  | cons d s =>
    have e : rd (d :: s) 0 = d := rfl
    unfold laws_stops.f
    rw [if_neg (by rw [List.length_cons]; omega), if_pos (by rw [List.length_cons]; omega), e]
    by_cases h : d < 48
    · rw [if_pos h]
      exact ⟨true, rfl, fun _ c t h => by cases h; omega⟩
    · rw [if_neg h]
      refine ⟨_, rfl, fun hb c t h => ?_⟩
      have := of_decide_eq_true hb
      cases h
      omega

theorem own_eq (l : List Int) (h : l.length < 140737488355328) : impl_own.f l = some l := by
  unfold impl_own.f
  simp only [Option.bind_some, List.nil_append, List.length_nil, Nat.zero_add]
  rw [if_pos h]

def val (ds : List Int) : Int := ds.foldl (fun n c => 10 * n + (c - 48)) 0
def Digs (ds : List Int) : Prop := ∀ c ∈ ds, 48 ≤ c ∧ c ≤ 57
theorem val_snoc (ds : List Int) (c : Int) : val (ds ++ [c]) = 10 * val ds + (c - 48) := by simp [val]
theorem val_bd : ∀ (n : Nat) (ds : List Int), ds.length = n → Digs ds → 0 ≤ val ds ∧ val ds < 10 ^ n
  | 0, ds, h, _ => by
    obtain rfl := List.eq_nil_of_length_eq_zero h
    simp [val]
  | n + 1, ds, h, hd => by
    obtain ⟨ds', c, rfl⟩ : ∃ ds' c, ds = ds' ++ [c] := ⟨ds.dropLast, ds.getLast (by intro e; subst e; simp at h), (List.dropLast_concat_getLast _).symm⟩
    rw [List.length_append] at h
    have ih := val_bd n ds' (by simpa using h) (fun x hx => hd x (List.mem_append_left _ hx))
    have hc := hd c (by simp)
    rw [val_snoc, Int.pow_succ]
    omega
theorem pow_le {n m : Nat} (h : n ≤ m) : (10 : Int) ^ n ≤ 10 ^ m := by
  have := Nat.pow_le_pow_right (n := 10) (by omega) h
  exact_mod_cast this
theorem val18 {ds : List Int} (h : ds.length ≤ 18) (hd : Digs ds) : 0 ≤ val ds ∧ val ds < 1000000000000000000 := by
  have h1 := val_bd _ ds rfl hd
  have h2 := pow_le h
  have e : (10 : Int) ^ 18 = 1000000000000000000 := by decide
  omega
theorem Digs.take {ds : List Int} (h : Digs ds) (i : Nat) : Digs (ds.take i) := fun c hc => h c (List.mem_of_mem_take hc)
theorem take_snoc {ds : List Int} {i : Nat} (h : i < ds.length) : ds.take (i + 1) = ds.take i ++ [ds[i]] := by
  rw [List.take_succ_eq_append_getElem h]
theorem val_append_ge : ∀ (b a : List Int), Digs a → Digs b → val a ≤ val (a ++ b)
  | [], a, _, _ => by simp
  | c :: b, a, ha, hb => by
    have hc := hb c (by simp)
    have h0 := (val_bd _ a rfl ha).1
    have ih := val_append_ge b (a ++ [c]) (fun x hx => by
      rcases List.mem_append.1 hx with hx | hx
      · exact ha x hx
      · rw [List.mem_singleton.1 hx]; exact hc) (fun x hx => hb x (List.mem_cons_of_mem _ hx))
    rw [val_snoc, List.append_assoc, List.singleton_append] at ih
    omega
theorem val_take_le {ds : List Int} (hd : Digs ds) (i : Nat) : val (ds.take i) ≤ val ds := by
  have := val_append_ge (ds.drop i) (ds.take i) (hd.take _) (fun c hc => hd c (List.mem_of_mem_drop hc))
  rwa [List.take_append_drop] at this

theorem puint_loop (ds rest : List Int) (hlen : (ds ++ rest).length < 140737488355328) (hd : Digs ds) (hv : val ds < 18446744073709551616) (hst : ∀ c t, rest = c :: t → c < 48 ∨ 57 < c) :
    ∀ (n i : Nat), i + n = ds.length → Ev (fun k => tdstrconv_ParseUint.l0 k (ds ++ rest) (i : Int) (val (ds.take i))) (val ds, (ds.length : Int))
  | 0, i, hi => by
    have hi' : i = ds.length := by omega
    subst hi'
    rw [List.take_of_length_le (Nat.le_refl _)]
    refine Ev.step (fun _ => tdstrconv_ParseUint.l0.eq_2 ..) (EvIte (fun h => ?_) (fun _ => Ev.now _))
    have hr : 0 < rest.length := by simp at h; omega
    refine EvPos (by omega) ?_
    have hlt : ds.length < (ds ++ rest).length := by simp; omega
    obtain ⟨c, t, rfl⟩ : ∃ c t, rest = c :: t := by cases rest with | nil => simp at hr | cons c t => exact ⟨c, t, rfl⟩
    have e : (ds ++ c :: t)[ds.length] = c := by simp
    rw [rd_at hlt, e]
    have hc := hst c t rfl
    refine EvIte (fun h1 => ?_) (fun h1 => ?_)
    · refine Ev.step (fun _ => tdstrconv_ParseUint.j1.eq_2 ..) (EvNeg (by simp; omega) (Ev.now _))
    · refine Ev.step (fun _ => tdstrconv_ParseUint.j1.eq_2 ..) (EvNeg (by simp) (Ev.now _))
  | n + 1, i, hi => by
    have hlt0 : i < ds.length := by omega
    have hlt : i < (ds ++ rest).length := by rw [List.length_append]; omega
    have e : (ds ++ rest)[i] = ds[i] := List.getElem_append_left hlt0
    have hc := hd _ (List.getElem_mem hlt0)
    have hp : val (ds.take (i + 1)) ≤ val ds ∧ 0 ≤ val (ds.take i) := ⟨val_take_le hd (i + 1), (val_bd _ (ds.take i) rfl (hd.take _)).1⟩
    rw [take_snoc hlt0, val_snoc] at hp
    refine Ev.step (fun _ => tdstrconv_ParseUint.l0.eq_2 ..) (EvPos (by omega) (EvPos (by omega) ?_))
    rw [rd_at hlt, e]
    refine EvPos (by omega) ?_
    refine Ev.step (fun _ => tdstrconv_ParseUint.j1.eq_2 ..) (EvPos (by simp; omega) ?_)
    rw [Int.emod_eq_of_lt (a := ds[i] - 48) (b := 256) (by omega) (by omega)]
    have e1 : IntKind.u64.wrap (val (ds.take i) * 10) = val (ds.take i) * 10 := wu (by omega) (by omega)
    rw [e1]
    have e2 : IntKind.u64.wrap (val (ds.take i) * 10 + (ds[i] - 48)) = val (ds.take (i + 1)) := by
      rw [wu (by omega) (by omega), take_snoc hlt0, val_snoc]; omega
    rw [e2]
    refine EvNeg (by omega) (EvNeg (by omega) ?_)
    rw [wn (n := ds.length) hlt0 (by simp at hlen; omega)]
    exact puint_loop ds rest hlen hd hv hst n (i + 1) (by omega)
theorem readuint_ev (ds rest : List Int) (hlen : (ds ++ rest).length < 140737488355328) (hd : Digs ds) (hv : val ds < 18446744073709551616) (hst : ∀ c t, rest = c :: t → c < 48 ∨ 57 < c) :
    Ev (fun k => impl_ReadUint.f k (ds ++ rest)) (val ds, (ds.length : Int)) := by
  have h := puint_loop ds rest hlen hd hv hst ds.length 0 (by omega)
  unfold impl_ReadUint.f
  refine EvGet (own_eq _ hlen) ?_
  refine Ev.bind (a := (val ds, (ds.length : Int))) ?_ (Ev.now _)
  unfold tdstrconv_ParseUint.f
  simpa [val] using h


section
variable (pre ds rest : List Int) (ng : Bool) (hlen : (pre ++ ds ++ rest).length < 140737488355328) (hd : Digs ds) (hv : val ds ≤ 9223372036854775808) (hst : ∀ c t, rest = c :: t → c < 48 ∨ 57 < c)
include hlen hd hv hst
theorem pint_loop {r : Int × Int} (e : Ev (fun k => tdstrconv_ParseInt.j4 k ((pre.length + ds.length : Nat) : Int) ng (pre.length : Int) (val ds)) r) :
    ∀ (n i : Nat), i + n = ds.length → Ev (fun k => tdstrconv_ParseInt.l0 k (pre ++ ds ++ rest) ((pre.length + i : Nat) : Int) ng (pre.length : Int) (val (ds.take i))) r
  | 0, i, hi => by
    have hi' : i = ds.length := by omega
    subst hi'
    rw [List.take_of_length_le (Nat.le_refl _)]
    refine Ev.step (fun _ => tdstrconv_ParseInt.l0.eq_2 ..) (EvIte (fun h => ?_) (fun _ => e))
    have hr : 0 < rest.length := by simp at h; omega
    refine EvPos (by omega) ?_
    have hlt : pre.length + ds.length < (pre ++ ds ++ rest).length := by simp; omega
    obtain ⟨c, t, rfl⟩ : ∃ c t, rest = c :: t := by cases rest with | nil => simp at hr | cons c t => exact ⟨c, t, rfl⟩
    have e2 : (pre ++ ds ++ c :: t)[pre.length + ds.length] = c := by
      rw [List.getElem_append_right (by simp)]; simp
    rw [rd_at hlt, e2]
    have hc := hst c t rfl
    refine EvIte (fun h1 => ?_) (fun h1 => ?_)
    · refine Ev.step (fun _ => tdstrconv_ParseInt.j3.eq_2 ..) (EvNeg (by simp; omega) e)
    · refine Ev.step (fun _ => tdstrconv_ParseInt.j3.eq_2 ..) (EvNeg (by simp) e)
  | n + 1, i, hi => by
    have hlt0 : i < ds.length := by omega
    have hlt : pre.length + i < (pre ++ ds ++ rest).length := by rw [List.length_append, List.length_append]; omega
    have e1 : (pre ++ ds ++ rest)[pre.length + i] = ds[i] := by
      rw [List.getElem_append_left (by rw [List.length_append]; omega), List.getElem_append_right (by omega)]; simp
    have hc := hd _ (List.getElem_mem hlt0)
    have hp : val (ds.take (i + 1)) ≤ val ds ∧ 0 ≤ val (ds.take i) := ⟨val_take_le hd (i + 1), (val_bd _ (ds.take i) rfl (hd.take _)).1⟩
    rw [take_snoc hlt0, val_snoc] at hp
    refine Ev.step (fun _ => tdstrconv_ParseInt.l0.eq_2 ..) (EvPos (by omega) (EvPos (by omega) ?_))
    rw [rd_at hlt, e1]
    refine EvPos (by omega) ?_
    refine Ev.step (fun _ => tdstrconv_ParseInt.j3.eq_2 ..) (EvPos (by simp; omega) ?_)
    rw [Int.emod_eq_of_lt (a := ds[i] - 48) (b := 256) (by omega) (by omega)]
    have e3 : IntKind.u64.wrap (val (ds.take i) * 10) = val (ds.take i) * 10 := wu (by omega) (by omega)
    rw [e3]
    have e4 : IntKind.u64.wrap (val (ds.take i) * 10 + (ds[i] - 48)) = val (ds.take (i + 1)) := by
      rw [wu (by omega) (by omega), take_snoc hlt0, val_snoc]; omega
    rw [e4]
    refine EvNeg (by omega) (EvNeg (by omega) ?_)
    rw [wn hlt (by omega), Nat.add_assoc]
    exact pint_loop e n (i + 1) (by omega)
theorem pint_start {r : Int × Int} (e : Ev (fun k => tdstrconv_ParseInt.j4 k ((pre.length + ds.length : Nat) : Int) ng (pre.length : Int) (val ds)) r) :
    Ev (fun k => tdstrconv_ParseInt.j1 k (pre ++ ds ++ rest) (pre.length : Int) ng) r := by
  refine Ev.step (fun _ => tdstrconv_ParseInt.j1.eq_2 ..) ?_
  have := pint_loop pre ds rest ng hlen hd hv hst e ds.length 0 (by omega)
  simpa [val] using this
end
theorem j4_none (a : Int) (ng : Bool) (v : Int) : Ev (fun k => tdstrconv_ParseInt.j4 k a ng a v) (0, 0) :=
  Ev.step (fun _ => tdstrconv_ParseInt.j4.eq_2 ..) (EvPos rfl (Ev.now _))
theorem j4_pos (a s v : Int) (h : a ≠ s) (h0 : 0 ≤ v) (h1 : v ≤ 9223372036854775807) : Ev (fun k => tdstrconv_ParseInt.j4 k a false s v) (v, a) := by
  refine Ev.step (fun _ => tdstrconv_ParseInt.j4.eq_2 ..) (EvNeg h (EvNeg (by simp) ?_))
  refine Ev.step (fun _ => tdstrconv_ParseInt.j5.eq_2 ..) (EvNeg (by simp; omega) (EvNeg (by simp) (EvNow ?_)))
  rw [w64 (by omega) (by omega)]
theorem j4_neg (a s v : Int) (h : a ≠ s) (h0 : 0 ≤ v) (h1 : v ≤ 9223372036854775808) : Ev (fun k => tdstrconv_ParseInt.j4 k a true s v) (-v, a) := by
  refine Ev.step (fun _ => tdstrconv_ParseInt.j4.eq_2 ..) (EvNeg h (EvPos rfl ?_))
  refine Ev.step (fun _ => tdstrconv_ParseInt.j5.eq_2 ..) (EvNeg (by simp) (EvPos rfl (EvNow ?_)))
  congr 1
  unfold wrap64
  omega
theorem readint_sign {c : Int} (ds rest : List Int) {r : Int × Int} (hc : c = 43 ∨ c = 45) (hlen : (c :: (ds ++ rest)).length < 140737488355328) (hd : Digs ds) (hv : val ds ≤ 9223372036854775808) (hst : ∀ c t, rest = c :: t → c < 48 ∨ 57 < c)
    (e : Ev (fun k => tdstrconv_ParseInt.j4 k ((1 + ds.length : Nat) : Int) (c == 45) 1 (val ds)) r) : Ev (fun k => impl_ReadInt.f k (c :: (ds ++ rest))) r := by
  unfold impl_ReadInt.f
  refine EvGet (own_eq _ hlen) (Ev.bind (a := r) ?_ (Ev.now _))
  unfold tdstrconv_ParseInt.f
  have e0 : rd (c :: (ds ++ rest)) 0 = c := rfl
  have hp : (0 : Int) < ((c :: (ds ++ rest)).length : Int) := by simp; omega
  have go : Ev (fun k => tdstrconv_ParseInt.j0 k (c :: (ds ++ rest)) 0 false true) r := by
    refine Ev.step (fun _ => tdstrconv_ParseInt.j0.eq_2 ..) (EvPos rfl (EvPos hp ?_))
    rw [e0, show wrap64 (0 + 1) = 1 by unfold wrap64; omega]
    exact pint_start [c] ds rest _ hlen hd hv hst e
  refine EvPos hp (EvPos hp ?_)
  rw [e0]
  refine EvIte (fun _ => go) (fun h => ?_)
  rw [show (c == 45) = true by simp; omega]
  exact go
theorem readint_plain (ds rest : List Int) {r : Int × Int} (hc : ∀ c t, ds ++ rest = c :: t → c ≠ 43 ∧ c ≠ 45) (hlen : (ds ++ rest).length < 140737488355328) (hd : Digs ds) (hv : val ds ≤ 9223372036854775808) (hst : ∀ c t, rest = c :: t → c < 48 ∨ 57 < c)
    (e : Ev (fun k => tdstrconv_ParseInt.j4 k (ds.length : Int) false 0 (val ds)) r) : Ev (fun k => impl_ReadInt.f k (ds ++ rest)) r := by
  unfold impl_ReadInt.f
  refine EvGet (own_eq _ hlen) (Ev.bind (a := r) ?_ (Ev.now _))
  unfold tdstrconv_ParseInt.f
  have go : Ev (fun k => tdstrconv_ParseInt.j0 k (ds ++ rest) 0 false false) r := by
    refine Ev.step (fun _ => tdstrconv_ParseInt.j0.eq_2 ..) (EvNeg (by simp) ?_)
    exact pint_start [] ds rest false hlen hd hv hst (by simpa using e)
  refine EvIte (fun h => EvPos (by omega) ?_) (fun _ => go)
  obtain ⟨c, t, hct⟩ : ∃ c t, ds ++ rest = c :: t := by
    cases hx : ds ++ rest with
    | nil => rw [hx] at h; simp at h
    | cons c t => exact ⟨c, t, rfl⟩
  obtain ⟨h1, h2⟩ := hc c t hct
  have e0 : rd (ds ++ rest) 0 = c := by rw [hct]; rfl
  rw [e0]
  refine EvNeg h1 ?_
  rw [show (c == 45) = false by simpa using h2]
  exact go

theorem FnNumberNoInt : laws_FnNumberNoInt.Pure := by
  intro a ha1 ha2 ha
  refine Ev.rounds ?_
  unfold laws_FnNumberNoInt.f
  have yes : Ev (fun k => laws_FnNumberNoInt.j0 k a true) true := Ev.step (fun _ => laws_FnNumberNoInt.j0.eq_2 ..) (EvPos rfl (Ev.now _))
  refine EvIte (fun _ => Ev.now _) (fun h => ?_)
  refine Ev.bind (few_ev _ (by simp)) (EvIte (fun hf => ?_) (fun _ => yes))
  have hl : a.length ≤ 300 := by simpa using hf
  obtain ⟨sb, hs, hst⟩ := stops_eq a
  refine EvGet hs (EvIte (fun hsb => ?_) (fun _ => yes))
  have no : (∀ c t, a = c :: t → c ≠ 43 ∧ c ≠ 45) → Ev (fun k => laws_FnNumberNoInt.j0 k a false) true := by
    intro hc
    refine Ev.step (fun _ => laws_FnNumberNoInt.j0.eq_2 ..) (EvNeg (by simp) ?_)
    refine Ev.bind (readint_plain [] a hc (by simp; omega) (fun c hc => by cases hc) (by simp [val]) (hst hsb) (j4_none 0 false 0)) ?_
    refine Ev.bind (readuint_ev [] a (by simp; omega) (fun c hc => by cases hc) (by simp [val]) (hst hsb)) ?_
    refine Ev.bind (readuint_ev [49] [] (by simp) (fun c hc => by simp at hc; omega) (by simp [val]) (fun c t h => by cases h)) ?_
    exact EvPos rfl (EvPos rfl (EvPos rfl (EvPos rfl (Ev.now _))))
  refine EvIte (fun h0 => EvPos (by omega) ?_) (fun h0 => no (fun c t e => by subst e; exact absurd h0 (by rw [List.length_cons]; omega)))
  obtain ⟨c, t, rfl⟩ : ∃ c t, a = c :: t := by
    cases a with
    | nil => simp at h0
    | cons c t => exact ⟨c, t, rfl⟩
  have e0 : rd (c :: t) 0 = c := rfl
  rw [e0]
  refine EvIte (fun _ => yes) (fun h1 => ?_)
  by_cases h2 : c = 45
  · rw [h2]; rw [h2] at yes; exact yes
  · rw [show (c == 45) = false by simpa using h2]
    exact no (fun c' t' e => by cases e; exact ⟨h1, h2⟩)

end Go.Proofs.Yteklgpjdcdkdpaa.Pure
