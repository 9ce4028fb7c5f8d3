/- FnNumberBack, its pure statement: an integer that is written is read again. For every integer of 64 bits. -/
import Derived.Test.YteklgpjdcdkdpaaAid
import Derived.Test.YteklgpjdcdkdpaaPFnNumberBackx0
import Derived.Test.YteklgpjdcdkdpaaPFnNumberBackx1
import Derived.Test.YteklgpjdcdkdpaaPFnNumberBackx2
namespace Go.Proofs.Yteklgpjdcdkdpaa.Pure
open Go.RowKit Go.Proofs.Yteklgpjdcdkdpaa.PFnNumberBack Go.Proofs.YteklgpjdcdkdpaaW.PrintWords Go.Proofs.YteklgpjdcdkdpaaW.PrintLast Go.Proofs.Yteklgpjdcdkdpaa.Aid
set_option linter.unusedVariables false
set_option linter.unusedSimpArgs false

theorem own_eq (l : List Int) (h : l.length < 140737488355328) : impl_own.f l = some l := by
  unfold impl_own.f
  simp only [Option.bind_some, List.nil_append, List.length_nil, Nat.zero_add]
  rw [if_pos h]

def val (ds : List Int) : Int := ds.foldl (fun n c => 10 * n + (c - 48)) 0
def Digs (ds : List Int) : Prop := ∀ c ∈ ds, 48 ≤ c ∧ c ≤ 57
theorem val_snoc (ds : List Int) (c : Int) : val (ds ++ [c]) = 10 * val ds + (c - 48) := by simp [val]
theorem val_bd : ∀ (n : Nat) (ds : List Int), ds.length = n → Digs ds → 0 ≤ val ds ∧ val ds < 10 ^ n
  | 0, ds, h, _ => by
    obtain rfl := List.eq_nil_of_length_eq_zero h
    simp [val]
  | n + 1, ds, h, hd => by
    obtain ⟨ds', c, rfl⟩ : ∃ ds' c, ds = ds' ++ [c] := ⟨ds.dropLast, ds.getLast (by intro e; subst e; simp at h), (List.dropLast_concat_getLast _).symm⟩
    rw [List.length_append] at h
    have ih := val_bd n ds' (by simpa using h) (fun x hx => hd x (List.mem_append_left _ hx))
    have hc := hd c (by simp)
    rw [val_snoc, Int.pow_succ]
    omega
theorem pow_le {n m : Nat} (h : n ≤ m) : (10 : Int) ^ n ≤ 10 ^ m := by
  have := Nat.pow_le_pow_right (n := 10) (by omega) h
  exact_mod_cast this
theorem val18 {ds : List Int} (h : ds.length ≤ 18) (hd : Digs ds) : 0 ≤ val ds ∧ val ds < 1000000000000000000 := by
  have h1 := val_bd _ ds rfl hd
  have h2 := pow_le h
  have e : (10 : Int) ^ 18 = 1000000000000000000 := by decide
  omega
theorem Digs.take {ds : List Int} (h : Digs ds) (i : Nat) : Digs (ds.take i) := fun c hc => h c (List.mem_of_mem_take hc)
theorem take_snoc {ds : List Int} {i : Nat} (h : i < ds.length) : ds.take (i + 1) = ds.take i ++ [ds[i]] := by
  rw [List.take_succ_eq_append_getElem h]
theorem val_append_ge : ∀ (b a : List Int), Digs a → Digs b → val a ≤ val (a ++ b)
  | [], a, _, _ => by simp
  | c :: b, a, ha, hb => by
    have hc := hb c (by simp)
    have h0 := (val_bd _ a rfl ha).1
    have ih := val_append_ge b (a ++ [c]) (fun x hx => by
      rcases List.mem_append.1 hx with hx | hx
      · exact ha x hx
      · rw [List.mem_singleton.1 hx]; exact hc) (fun x hx => hb x (List.mem_cons_of_mem _ hx))
    rw [val_snoc, List.append_assoc, List.singleton_append] at ih
    omega
theorem val_take_le {ds : List Int} (hd : Digs ds) (i : Nat) : val (ds.take i) ≤ val ds := by
  have := val_append_ge (ds.drop i) (ds.take i) (hd.take _) (fun c hc => hd c (List.mem_of_mem_drop hc))
  rwa [List.take_append_drop] at this


theorem u64_bd {a : Int} (h : (Lit.int .u64 a).wf = true) : 0 ≤ a ∧ a ≤ 18446744073709551615 := by
  simp [Lit.wf, IntKind.min, IntKind.max, IntKind.signed, IntKind.bits] at h
  omega
/-- The decimal digits of a number, the least one last. -/
def digs : Nat → Nat → List Int
  | 0, _ => []
  | f + 1, n => if n / 10 = 0 then [(48 + ((n % 10 : Nat) : Int) : Int)] else digs f (n / 10) ++ [(48 + ((n % 10 : Nat) : Int) : Int)]
theorem digs_ok : ∀ f n, Digs (digs f n)
  | 0, _ => fun c hc => by cases hc
  | f + 1, n => by
    unfold digs
    split
    · intro c hc; rw [List.mem_singleton.1 hc]; omega
    · intro c hc
      rcases List.mem_append.1 hc with hc | hc
      · exact digs_ok f (n / 10) c hc
      · rw [List.mem_singleton.1 hc]; omega
theorem digs_val : ∀ f n, n < 10 ^ f → 0 < f → val (digs f n) = n
  | 0, n, h, h0 => by omega
  | f + 1, n, h, _ => by
    unfold digs
    split
    · simp [val]; omega
    · rename_i hne
      rw [val_snoc]
      have hf : 0 < f := by
        rcases Nat.eq_zero_or_pos f with e | e
        · subst e; simp at h; omega
        · exact e
      rw [digs_val f (n / 10) (by rw [Nat.pow_succ] at h; omega) hf]
      omega
theorem digs_len : ∀ f n, (digs f n).length ≤ f
  | 0, _ => by simp [digs]
  | f + 1, n => by
    unfold digs
    split
    · simp
    · have := digs_len f (n / 10); simp; omega
theorem digs_pos : ∀ f n, 0 < f → 0 < (digs f n).length
  | f + 1, n, _ => by
    unfold digs
    split <;> simp

theorem lenuint_aux (n : Nat) : ∀ f, f ≤ 20 → 0 < f → (∀ g : Nat, 0 < g → g < f → 10 ^ g ≤ n) → n < 10 ^ f → ∀ F, f ≤ F → (digs F n).length = f
  | 0, _, h0, _, _, _, _ => by omega
  | f + 1, hf, _, hlo, hhi, F, hF => by
    obtain ⟨F, rfl⟩ : ∃ G, F = G + 1 := ⟨F - 1, by omega⟩
    unfold digs
    rcases Nat.eq_zero_or_pos f with e | e
    · subst e
      rw [if_pos (by omega)]; rfl
    · have h1 := hlo f e (by omega)
      have h10 : 10 ≤ n := by
        have := Nat.pow_le_pow_right (n := 10) (by omega) e
        omega
      rw [if_neg (by omega), List.length_append, List.length_singleton]
      have := lenuint_aux (n / 10) f (by omega) e (fun g hg hgf => by
        have := hlo (g + 1) (by omega) (by omega)
        rw [Nat.pow_succ] at this
        omega) (by rw [Nat.pow_succ] at hhi; omega) F (by omega)
      omega
theorem lenuint_eq (n : Nat) (hn : n < 18446744073709551616) : tdstrconv_LenUint.f (n : Int) = some ((digs 20 n).length : Int) := by
  have key : ∀ f : Nat, 0 < f → f ≤ 20 → (f = 1 ∨ 10 ^ (f - 1) ≤ n) → n < 10 ^ f → ((digs 20 n).length : Int) = f := by
    intro f h0 hf hlo hhi
    rw [lenuint_aux n f hf h0 (fun g hg hgf => by
      rcases hlo with h | h
      · omega
      · exact Nat.le_trans (Nat.pow_le_pow_right (by omega) (by omega)) h) hhi 20 hf]
  unfold tdstrconv_LenUint.f
  by_cases c1 : (n : Int) < 10
  · rw [if_pos c1]; congr 1; exact (key 1 (by omega) (by omega) (.inl rfl) (by omega)).symm
  rw [if_neg c1]
  by_cases c2 : (n : Int) < 100
  · rw [if_pos c2]; congr 1; exact (key 2 (by omega) (by omega) (.inr (by omega)) (by omega)).symm
  rw [if_neg c2]
  by_cases c3 : (n : Int) < 1000
  · rw [if_pos c3]; congr 1; exact (key 3 (by omega) (by omega) (.inr (by omega)) (by omega)).symm
  rw [if_neg c3]
  by_cases c4 : (n : Int) < 10000
  · rw [if_pos c4]; congr 1; exact (key 4 (by omega) (by omega) (.inr (by omega)) (by omega)).symm
  rw [if_neg c4]
  by_cases c5 : (n : Int) < 100000
  · rw [if_pos c5]; congr 1; exact (key 5 (by omega) (by omega) (.inr (by omega)) (by omega)).symm
  rw [if_neg c5]
  by_cases c6 : (n : Int) < 1000000
  · rw [if_pos c6]; congr 1; exact (key 6 (by omega) (by omega) (.inr (by omega)) (by omega)).symm
  rw [if_neg c6]
  by_cases c7 : (n : Int) < 10000000
  · rw [if_pos c7]; congr 1; exact (key 7 (by omega) (by omega) (.inr (by omega)) (by omega)).symm
  rw [if_neg c7]
  by_cases c8 : (n : Int) < 100000000
  · rw [if_pos c8]; congr 1; exact (key 8 (by omega) (by omega) (.inr (by omega)) (by omega)).symm
  rw [if_neg c8]
  by_cases c9 : (n : Int) < 1000000000
  · rw [if_pos c9]; congr 1; exact (key 9 (by omega) (by omega) (.inr (by omega)) (by omega)).symm
  rw [if_neg c9]
  by_cases c10 : (n : Int) < 10000000000
  · rw [if_pos c10]; congr 1; exact (key 10 (by omega) (by omega) (.inr (by omega)) (by omega)).symm
  rw [if_neg c10]
  by_cases c11 : (n : Int) < 100000000000
  · rw [if_pos c11]; congr 1; exact (key 11 (by omega) (by omega) (.inr (by omega)) (by omega)).symm
  rw [if_neg c11]
  by_cases c12 : (n : Int) < 1000000000000
  · rw [if_pos c12]; congr 1; exact (key 12 (by omega) (by omega) (.inr (by omega)) (by omega)).symm
  rw [if_neg c12]
  by_cases c13 : (n : Int) < 10000000000000
  · rw [if_pos c13]; congr 1; exact (key 13 (by omega) (by omega) (.inr (by omega)) (by omega)).symm
  rw [if_neg c13]
  by_cases c14 : (n : Int) < 100000000000000
  · rw [if_pos c14]; congr 1; exact (key 14 (by omega) (by omega) (.inr (by omega)) (by omega)).symm
  rw [if_neg c14]
  by_cases c15 : (n : Int) < 1000000000000000
  · rw [if_pos c15]; congr 1; exact (key 15 (by omega) (by omega) (.inr (by omega)) (by omega)).symm
  rw [if_neg c15]
  by_cases c16 : (n : Int) < 10000000000000000
  · rw [if_pos c16]; congr 1; exact (key 16 (by omega) (by omega) (.inr (by omega)) (by omega)).symm
  rw [if_neg c16]
  by_cases c17 : (n : Int) < 100000000000000000
  · rw [if_pos c17]; congr 1; exact (key 17 (by omega) (by omega) (.inr (by omega)) (by omega)).symm
  rw [if_neg c17]
  by_cases c18 : (n : Int) < 1000000000000000000
  · rw [if_pos c18]; congr 1; exact (key 18 (by omega) (by omega) (.inr (by omega)) (by omega)).symm
  rw [if_neg c18]
  by_cases c19 : (n : Int) < 10000000000000000000
  · rw [if_pos c19]; congr 1; exact (key 19 (by omega) (by omega) (.inr (by omega)) (by omega)).symm
  rw [if_neg c19]
  congr 1; exact (key 20 (by omega) (by omega) (.inr (by omega)) (by omega)).symm


theorem i64_bd {a : Int} (h : (Lit.int .i64 a).wf = true) : -9223372036854775808 ≤ a ∧ a ≤ 9223372036854775807 := by
  simp [Lit.wf, IntKind.min, IntKind.max, IntKind.signed, IntKind.bits] at h
  omega
def intText (a : Int) : List Int := if a < 0 then 45 :: digs 20 a.natAbs else digs 20 a.natAbs

theorem lenint_eq (a : Int) (h : -9223372036854775808 ≤ a ∧ a ≤ 9223372036854775807) : tdstrconv_LenInt.f a = some ((intText a).length : Int) := by
  unfold tdstrconv_LenInt.f intText
  have hl := digs_len 20 a.natAbs
  by_cases hn : a < 0
  · rw [if_pos hn, if_pos hn]
    by_cases hm : a = -9223372036854775808
    · rw [if_pos hm]
      subst hm
      rfl
    · rw [if_neg hm, w64 (by omega) (by omega), wu (by omega) (by omega), show (-a : Int) = ((a.natAbs : Nat) : Int) by omega, lenuint_eq _ (by omega), Option.bind_some, w64 (by omega) (by omega), List.length_cons]
      congr 1
      omega
  · rw [if_neg hn, if_neg hn, wu (by omega) (by omega), show (a : Int) = ((a.natAbs : Nat) : Int) by omega]
    have := lenuint_eq a.natAbs (by omega)
    simp only [this, Option.bind_some, Int.natAbs_natCast]

theorem dz_eq : ∀ f n, n ≠ 0 → n < 10 ^ f → Own.dz f n = digs f n
  | 0, n, h0, h => by simp at h; omega
  | f + 1, n, h0, h => by
    unfold Own.dz digs
    rw [if_neg h0]
    by_cases h1 : n / 10 = 0
    · rw [if_pos h1, h1, Own.dz_zero]; rfl
    · rw [if_neg h1, dz_eq f (n / 10) h1 (by rw [Nat.pow_succ] at h; omega)]
theorem itoa_eq (a : Int) (h : -9223372036854775808 ≤ a ∧ a ≤ 9223372036854775807) : Own.itoa a = intText a := by
  unfold Own.itoa intText
  by_cases h0 : a = 0
  · subst h0; rfl
  · rw [if_neg h0, dz_eq 20 _ (by omega) (by omega)]
theorem write_eq (l : List Int) (a : Int) (hl : l.length + 20 ≤ 140737488355327) (h : -9223372036854775808 ≤ a ∧ a ≤ 9223372036854775807) : Own.impl_WriteInt.f l a = some (l ++ intText a) := by
  have e : Own.tdstrconv_LenInt.f a = tdstrconv_LenInt.f a := rfl
  unfold Own.impl_WriteInt.f
  rw [if_pos ⟨hl, h, by rw [itoa_eq a h, e]; exact lenint_eq a h⟩, itoa_eq a h]
theorem inttext_len (a : Int) : (intText a).length ≤ 21 := by
  have := digs_len 20 a.natAbs
  unfold intText
  split
  · simp; omega
  · omega


section
variable (pre ds rest : List Int) (ng : Bool) (hlen : (pre ++ ds ++ rest).length < 140737488355328) (hd : Digs ds) (hv : val ds ≤ 9223372036854775808) (hst : ∀ c t, rest = c :: t → c < 48 ∨ 57 < c)
include hlen hd hv hst
theorem pint_loop {r : Int × Int} (e : Ev (fun k => tdstrconv_ParseInt.j4 k ((pre.length + ds.length : Nat) : Int) ng (pre.length : Int) (val ds)) r) :
    ∀ (n i : Nat), i + n = ds.length → Ev (fun k => tdstrconv_ParseInt.l0 k (pre ++ ds ++ rest) ((pre.length + i : Nat) : Int) ng (pre.length : Int) (val (ds.take i))) r
  | 0, i, hi => by
    have hi' : i = ds.length := by omega
    subst hi'
    rw [List.take_of_length_le (Nat.le_refl _)]
    refine Ev.step (fun _ => tdstrconv_ParseInt.l0.eq_2 ..) (EvIte (fun h => ?_) (fun _ => e))
    have hr : 0 < rest.length := by simp at h; omega
    refine EvPos (by omega) ?_
    have hlt : pre.length + ds.length < (pre ++ ds ++ rest).length := by simp; omega
    obtain ⟨c, t, rfl⟩ : ∃ c t, rest = c :: t := by cases rest with | nil => simp at hr | cons c t => exact ⟨c, t, rfl⟩
    have e2 : (pre ++ ds ++ c :: t)[pre.length + ds.length] = c := by
      rw [List.getElem_append_right (by simp)]; simp
    rw [rd_at hlt, e2]
    have hc := hst c t rfl
    refine EvIte (fun h1 => ?_) (fun h1 => ?_)
    · refine Ev.step (fun _ => tdstrconv_ParseInt.j3.eq_2 ..) (EvNeg (by simp; omega) e)
    · refine Ev.step (fun _ => tdstrconv_ParseInt.j3.eq_2 ..) (EvNeg (by simp) e)
  | n + 1, i, hi => by
    have hlt0 : i < ds.length := by omega
    have hlt : pre.length + i < (pre ++ ds ++ rest).length := by rw [List.length_append, List.length_append]; omega
    have e1 : (pre ++ ds ++ rest)[pre.length + i] = ds[i] := by
      rw [List.getElem_append_left (by rw [List.length_append]; omega), List.getElem_append_right (by omega)]; simp
    have hc := hd _ (List.getElem_mem hlt0)
    have hp : val (ds.take (i + 1)) ≤ val ds ∧ 0 ≤ val (ds.take i) := ⟨val_take_le hd (i + 1), (val_bd _ (ds.take i) rfl (hd.take _)).1⟩
    rw [take_snoc hlt0, val_snoc] at hp
    refine Ev.step (fun _ => tdstrconv_ParseInt.l0.eq_2 ..) (EvPos (by omega) (EvPos (by omega) ?_))
    rw [rd_at hlt, e1]
    refine EvPos (by omega) ?_
    refine Ev.step (fun _ => tdstrconv_ParseInt.j3.eq_2 ..) (EvPos (by simp; omega) ?_)
    rw [Int.emod_eq_of_lt (a := ds[i] - 48) (b := 256) (by omega) (by omega)]
    have e3 : IntKind.u64.wrap (val (ds.take i) * 10) = val (ds.take i) * 10 := wu (by omega) (by omega)
    rw [e3]
    have e4 : IntKind.u64.wrap (val (ds.take i) * 10 + (ds[i] - 48)) = val (ds.take (i + 1)) := by
      rw [wu (by omega) (by omega), take_snoc hlt0, val_snoc]; omega
    rw [e4]
    refine EvNeg (by omega) (EvNeg (by omega) ?_)
    rw [wn hlt (by omega), Nat.add_assoc]
    exact pint_loop e n (i + 1) (by omega)
theorem pint_start {r : Int × Int} (e : Ev (fun k => tdstrconv_ParseInt.j4 k ((pre.length + ds.length : Nat) : Int) ng (pre.length : Int) (val ds)) r) :
    Ev (fun k => tdstrconv_ParseInt.j1 k (pre ++ ds ++ rest) (pre.length : Int) ng) r := by
  refine Ev.step (fun _ => tdstrconv_ParseInt.j1.eq_2 ..) ?_
  have := pint_loop pre ds rest ng hlen hd hv hst e ds.length 0 (by omega)
  simpa [val] using this
end
theorem j4_none (a : Int) (ng : Bool) (v : Int) : Ev (fun k => tdstrconv_ParseInt.j4 k a ng a v) (0, 0) :=
  Ev.step (fun _ => tdstrconv_ParseInt.j4.eq_2 ..) (EvPos rfl (Ev.now _))
theorem j4_pos (a s v : Int) (h : a ≠ s) (h0 : 0 ≤ v) (h1 : v ≤ 9223372036854775807) : Ev (fun k => tdstrconv_ParseInt.j4 k a false s v) (v, a) := by
  refine Ev.step (fun _ => tdstrconv_ParseInt.j4.eq_2 ..) (EvNeg h (EvNeg (by simp) ?_))
  refine Ev.step (fun _ => tdstrconv_ParseInt.j5.eq_2 ..) (EvNeg (by simp; omega) (EvNeg (by simp) (EvNow ?_)))
  rw [w64 (by omega) (by omega)]
theorem j4_neg (a s v : Int) (h : a ≠ s) (h0 : 0 ≤ v) (h1 : v ≤ 9223372036854775808) : Ev (fun k => tdstrconv_ParseInt.j4 k a true s v) (-v, a) := by
  refine Ev.step (fun _ => tdstrconv_ParseInt.j4.eq_2 ..) (EvNeg h (EvPos rfl ?_))
  refine Ev.step (fun _ => tdstrconv_ParseInt.j5.eq_2 ..) (EvNeg (by simp) (EvPos rfl (EvNow ?_)))
  congr 1
  unfold wrap64
  omega
theorem readint_sign {c : Int} (ds rest : List Int) {r : Int × Int} (hc : c = 43 ∨ c = 45) (hlen : (c :: (ds ++ rest)).length < 140737488355328) (hd : Digs ds) (hv : val ds ≤ 9223372036854775808) (hst : ∀ c t, rest = c :: t → c < 48 ∨ 57 < c)
    (e : Ev (fun k => tdstrconv_ParseInt.j4 k ((1 + ds.length : Nat) : Int) (c == 45) 1 (val ds)) r) : Ev (fun k => impl_ReadInt.f k (c :: (ds ++ rest))) r := by
  unfold impl_ReadInt.f
  refine EvGet (own_eq _ hlen) (Ev.bind (a := r) ?_ (Ev.now _))
  unfold tdstrconv_ParseInt.f
  have e0 : rd (c :: (ds ++ rest)) 0 = c := rfl
  have hp : (0 : Int) < ((c :: (ds ++ rest)).length : Int) := by simp; omega
  have go : Ev (fun k => tdstrconv_ParseInt.j0 k (c :: (ds ++ rest)) 0 false true) r := by
    refine Ev.step (fun _ => tdstrconv_ParseInt.j0.eq_2 ..) (EvPos rfl (EvPos hp ?_))
    rw [e0, show wrap64 (0 + 1) = 1 by unfold wrap64; omega]
    exact pint_start [c] ds rest _ hlen hd hv hst e
  refine EvPos hp (EvPos hp ?_)
  rw [e0]
  refine EvIte (fun _ => go) (fun h => ?_)
  rw [show (c == 45) = true by simp; omega]
  exact go
theorem readint_plain (ds rest : List Int) {r : Int × Int} (hc : ∀ c t, ds ++ rest = c :: t → c ≠ 43 ∧ c ≠ 45) (hlen : (ds ++ rest).length < 140737488355328) (hd : Digs ds) (hv : val ds ≤ 9223372036854775808) (hst : ∀ c t, rest = c :: t → c < 48 ∨ 57 < c)
    (e : Ev (fun k => tdstrconv_ParseInt.j4 k (ds.length : Int) false 0 (val ds)) r) : Ev (fun k => impl_ReadInt.f k (ds ++ rest)) r := by
  unfold impl_ReadInt.f
  refine EvGet (own_eq _ hlen) (Ev.bind (a := r) ?_ (Ev.now _))
  unfold tdstrconv_ParseInt.f
  have go : Ev (fun k => tdstrconv_ParseInt.j0 k (ds ++ rest) 0 false false) r := by
    refine Ev.step (fun _ => tdstrconv_ParseInt.j0.eq_2 ..) (EvNeg (by simp) ?_)
    exact pint_start [] ds rest false hlen hd hv hst (by simpa using e)
  refine EvIte (fun h => EvPos (by omega) ?_) (fun _ => go)
  obtain ⟨c, t, hct⟩ : ∃ c t, ds ++ rest = c :: t := by
    cases hx : ds ++ rest with
    | nil => rw [hx] at h; simp at h
    | cons c t => exact ⟨c, t, rfl⟩
  obtain ⟨h1, h2⟩ := hc c t hct
  have e0 : rd (ds ++ rest) 0 = c := by rw [hct]; rfl
  rw [e0]
  refine EvNeg h1 ?_
  rw [show (c == 45) = false by simpa using h2]
  exact go

theorem FnNumberBack : laws_FnNumberBack.Pure := by
  intro a ha
  have hi := i64_bd ha
  have ht := inttext_len a
  refine Ev.rounds ?_
  unfold laws_FnNumberBack.f
  refine EvGet (write_eq [] a (by simp) hi) ?_
  rw [List.nil_append]
  have hlen := digs_len 20 a.natAbs
  have hpos := digs_pos 20 a.natAbs (by omega)
  have hval : val (digs 20 a.natAbs) = (a.natAbs : Int) := digs_val 20 a.natAbs (by omega) (by omega)
  have hread : Ev (fun k => impl_ReadInt.f k (intText a)) (a, ((intText a).length : Int)) := by
    unfold intText
    by_cases hn : a < 0
    · rw [if_pos hn]
      have h := readint_sign (c := 45) (digs 20 a.natAbs) [] (.inr rfl) (by simp; omega) (digs_ok 20 _) (by rw [hval]; omega) (fun c t h => by cases h) (j4_neg _ 1 _ (by omega) (by rw [hval]; omega) (by rw [hval]; omega))
      rw [List.append_nil, hval] at h
      rw [show (-(a.natAbs : Int)) = a by omega] at h
      rw [List.length_cons, Nat.add_comm]
      exact h
    · rw [if_neg hn]
      have h := readint_plain (digs 20 a.natAbs) [] (fun c t e => by
        rw [List.append_nil] at e
        have := digs_ok 20 a.natAbs c (by rw [e]; simp)
        omega) (by simp; omega) (digs_ok 20 _) (by rw [hval]; omega) (fun c t h => by cases h) (j4_pos _ 0 _ (by omega) (by rw [hval]; omega) (by rw [hval]; omega))
      rw [List.append_nil, hval, show (a.natAbs : Int) = a by omega] at h
      exact h
  have hp2 : 0 < (intText a).length := by
    unfold intText
    split
    · simp
    · exact hpos
  exact Ev.bind hread (EvPos rfl (EvPos rfl (EvNow (by simp; omega))))

end Go.Proofs.Yteklgpjdcdkdpaa.Pure
