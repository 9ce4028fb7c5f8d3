/- FnNumberUintBack, its pure statement: an integer without a sign is read again from its digits. For every integer of 64 bits without a sign. -/
import Derived.Test.YtbpmfmkdpjajhaaAid
import Derived.Test.YtbpmfmkdpjajhaaPFnNumberUintBackx1
import Derived.Test.YtbpmfmkdpjajhaaPFnNumberUintBackx1
namespace Go.Proofs.Ytbpmfmkdpjajhaa.Pure
open Go.RowKit Go.Proofs.Ytbpmfmkdpjajhaa.PFnNumberUintBack Go.Proofs.YtbpmfmkdpjajhaaW.PrintWords Go.Proofs.YtbpmfmkdpjajhaaW.PrintLast Go.Proofs.Ytbpmfmkdpjajhaa.Aid
set_option linter.unusedVariables false
set_option linter.unusedSimpArgs false

theorem own_eq (l : List Int) (h : l.length < 140737488355328) : impl_own.f l = some l := by
  unfold impl_own.f
  simp only [Option.bind_some, List.nil_append, List.length_nil, Nat.zero_add]
  rw [if_pos h]

def val (ds : List Int) : Int := ds.foldl (fun n c => 10 * n + (c - 48)) 0
def Digs (ds : List Int) : Prop := ∀ c ∈ ds, 48 ≤ c ∧ c ≤ 57
theorem val_snoc (ds : List Int) (c : Int) : val (ds ++ [c]) = 10 * val ds + (c - 48) := by simp [val]
theorem val_bd : ∀ (n : Nat) (ds : List Int), ds.length = n → Digs ds → 0 ≤ val ds ∧ val ds < 10 ^ n
  | 0, ds, h, _ => by
    obtain rfl := List.eq_nil_of_length_eq_zero h
    simp [val]
  | n + 1, ds, h, hd => by
    obtain ⟨ds', c, rfl⟩ : ∃ ds' c, ds = ds' ++ [c] := ⟨ds.dropLast, ds.getLast (by intro e; subst e; simp at h), (List.dropLast_concat_getLast _).symm⟩
    rw [List.length_append] at h
    have ih := val_bd n ds' (by simpa using h) (fun x hx => hd x (List.mem_append_left _ hx))
    have hc := hd c (by simp)
    rw [val_snoc, Int.pow_succ]
    omega
theorem pow_le {n m : Nat} (h : n ≤ m) : (10 : Int) ^ n ≤ 10 ^ m := by
  have := Nat.pow_le_pow_right (n := 10) (by omega) h
  exact_mod_cast this
theorem val18 {ds : List Int} (h : ds.length ≤ 18) (hd : Digs ds) : 0 ≤ val ds ∧ val ds < 1000000000000000000 := by
  have h1 := val_bd _ ds rfl hd
  have h2 := pow_le h
  have e : (10 : Int) ^ 18 = 1000000000000000000 := by decide
  omega
theorem Digs.take {ds : List Int} (h : Digs ds) (i : Nat) : Digs (ds.take i) := fun c hc => h c (List.mem_of_mem_take hc)
theorem take_snoc {ds : List Int} {i : Nat} (h : i < ds.length) : ds.take (i + 1) = ds.take i ++ [ds[i]] := by
  rw [List.take_succ_eq_append_getElem h]
theorem val_append_ge : ∀ (b a : List Int), Digs a → Digs b → val a ≤ val (a ++ b)
  | [], a, _, _ => by simp
  | c :: b, a, ha, hb => by
    have hc := hb c (by simp)
    have h0 := (val_bd _ a rfl ha).1
    have ih := val_append_ge b (a ++ [c]) (fun x hx => by
      rcases List.mem_append.1 hx with hx | hx
      · exact ha x hx
      · rw [List.mem_singleton.1 hx]; exact hc) (fun x hx => hb x (List.mem_cons_of_mem _ hx))
    rw [val_snoc, List.append_assoc, List.singleton_append] at ih
    omega
theorem val_take_le {ds : List Int} (hd : Digs ds) (i : Nat) : val (ds.take i) ≤ val ds := by
  have := val_append_ge (ds.drop i) (ds.take i) (hd.take _) (fun c hc => hd c (List.mem_of_mem_drop hc))
  rwa [List.take_append_drop] at this


theorem u64_bd {a : Int} (h : (Lit.int .u64 a).wf = true) : 0 ≤ a ∧ a ≤ 18446744073709551615 := by
  simp [Lit.wf, IntKind.min, IntKind.max, IntKind.signed, IntKind.bits] at h
  omega
/-- The decimal digits of a number, the least one last. -/
def digs : Nat → Nat → List Int
  | 0, _ => []
  | f + 1, n => if n / 10 = 0 then [(48 + ((n % 10 : Nat) : Int) : Int)] else digs f (n / 10) ++ [(48 + ((n % 10 : Nat) : Int) : Int)]
theorem digs_ok : ∀ f n, Digs (digs f n)
  | 0, _ => fun c hc => by cases hc
  | f + 1, n => by
    unfold digs
    split
    · intro c hc; rw [List.mem_singleton.1 hc]; omega
    · intro c hc
      rcases List.mem_append.1 hc with hc | hc
      · exact digs_ok f (n / 10) c hc
      · rw [List.mem_singleton.1 hc]; omega
theorem digs_val : ∀ f n, n < 10 ^ f → 0 < f → val (digs f n) = n
  | 0, n, h, h0 => by omega
  | f + 1, n, h, _ => by
    unfold digs
    split
    · simp [val]; omega
    · rename_i hne
      rw [val_snoc]
      have hf : 0 < f := by
        rcases Nat.eq_zero_or_pos f with e | e
        · subst e; simp at h; omega
        · exact e
      rw [digs_val f (n / 10) (by rw [Nat.pow_succ] at h; omega) hf]
      omega
theorem digs_len : ∀ f n, (digs f n).length ≤ f
  | 0, _ => by simp [digs]
  | f + 1, n => by
    unfold digs
    split
    · simp
    · have := digs_len f (n / 10); simp; omega
theorem digs_pos : ∀ f n, 0 < f → 0 < (digs f n).length
  | f + 1, n, _ => by
    unfold digs
    split <;> simp
theorem digits_loop : ∀ (f n : Nat) (acc : List Int), n < 10 ^ f → 0 < f → n < 18446744073709551616 → acc.length + f < 140737488355328 →
    Ev (fun k => spec_Digits.l0 k (n : Int) acc) (digs f n ++ acc)
  | 0, n, acc, h, h0, _, _ => by omega
  | f + 1, n, acc, h, _, hn, hl => by
    have e1 : IntKind.u64.wrap (48 + (n : Int).tmod 10) % 256 = 48 + ((n % 10 : Nat) : Int) := by
      rw [Int.tmod_eq_emod_of_nonneg (by omega), wu (by omega) (by omega)]; omega
    have e2 : IntKind.u64.wrap ((n : Int).tdiv 10) = ((n / 10 : Nat) : Int) := by
      rw [Int.tdiv_eq_ediv_of_nonneg (by omega), wu (by omega) (by omega)]; omega
    refine Ev.step (fun _ => spec_Digits.l0.eq_2 _ _ _) ?_
    rw [e1, e2]
    refine EvSome (EvPos (by simp; omega) (EvSome ?_))
    unfold digs
    refine EvIte (fun hz => EvNow ?_) (fun hz => ?_)
    · rw [if_pos (by omega)]
    · rw [if_neg (by omega), List.append_assoc]
      have hf : 0 < f := by
        rcases Nat.eq_zero_or_pos f with e | e
        · subst e; simp at h; omega
        · exact e
      exact digits_loop f (n / 10) _ (by rw [Nat.pow_succ] at h; omega) hf (by omega) (by simp; omega)
theorem digits_ev (n : Nat) (hn : n < 18446744073709551616) : Ev (fun k => spec_Digits.f k (n : Int)) (digs 20 n) := by
  have := digits_loop 20 n [] (by omega) (by omega) hn (by simp)
  unfold spec_Digits.f
  simpa using this


theorem puint_loop (ds rest : List Int) (hlen : (ds ++ rest).length < 140737488355328) (hd : Digs ds) (hv : val ds < 18446744073709551616) (hst : ∀ c t, rest = c :: t → c < 48 ∨ 57 < c) :
    ∀ (n i : Nat), i + n = ds.length → Ev (fun k => tdstrconv_ParseUint.l0 k (ds ++ rest) (i : Int) (val (ds.take i))) (val ds, (ds.length : Int))
  | 0, i, hi => by
    have hi' : i = ds.length := by omega
    subst hi'
    rw [List.take_of_length_le (Nat.le_refl _)]
    refine Ev.step (fun _ => tdstrconv_ParseUint.l0.eq_2 _ _ _ _) (EvIte (fun h => ?_) (fun _ => Ev.now _))
    have hr : 0 < rest.length := by simp at h; omega
    refine EvPos (by omega) ?_
    have hlt : ds.length < (ds ++ rest).length := by simp; omega
    obtain ⟨c, t, rfl⟩ : ∃ c t, rest = c :: t := by cases rest with | nil => simp at hr | cons c t => exact ⟨c, t, rfl⟩
    have e : (ds ++ c :: t)[ds.length] = c := by simp
    rw [rd_at hlt, e]
    have hc := hst c t rfl
    refine EvIte (fun h1 => ?_) (fun h1 => ?_)
    · refine Ev.step (fun _ => tdstrconv_ParseUint.j1.eq_2 _ _ _ _ _ _) (EvNeg (by simp; omega) (Ev.now _))
    · refine Ev.step (fun _ => tdstrconv_ParseUint.j1.eq_2 _ _ _ _ _ _) (EvNeg (by simp) (Ev.now _))
  | n + 1, i, hi => by
    have hlt0 : i < ds.length := by omega
    have hlt : i < (ds ++ rest).length := by rw [List.length_append]; omega
    have e : (ds ++ rest)[i] = ds[i] := List.getElem_append_left hlt0
    have hc := hd _ (List.getElem_mem hlt0)
    have hp : val (ds.take (i + 1)) ≤ val ds ∧ 0 ≤ val (ds.take i) := ⟨val_take_le hd (i + 1), (val_bd _ (ds.take i) rfl (hd.take _)).1⟩
    rw [take_snoc hlt0, val_snoc] at hp
    refine Ev.step (fun _ => tdstrconv_ParseUint.l0.eq_2 _ _ _ _) (EvPos (by omega) (EvPos (by omega) ?_))
    rw [rd_at hlt, e]
    refine EvPos (by omega) ?_
    refine Ev.step (fun _ => tdstrconv_ParseUint.j1.eq_2 _ _ _ _ _ _) (EvPos (by simp; omega) ?_)
    rw [Int.emod_eq_of_lt (a := ds[i] - 48) (b := 256) (by omega) (by omega)]
    have e1 : IntKind.u64.wrap (val (ds.take i) * 10) = val (ds.take i) * 10 := wu (by omega) (by omega)
    rw [e1]
    have e2 : IntKind.u64.wrap (val (ds.take i) * 10 + (ds[i] - 48)) = val (ds.take (i + 1)) := by
      rw [wu (by omega) (by omega), take_snoc hlt0, val_snoc]; omega
    rw [e2]
    refine EvNeg (by omega) (EvNeg (by omega) ?_)
    rw [wn (n := ds.length) hlt0 (by simp at hlen; omega)]
    exact puint_loop ds rest hlen hd hv hst n (i + 1) (by omega)
theorem readuint_ev (ds rest : List Int) (hlen : (ds ++ rest).length < 140737488355328) (hd : Digs ds) (hv : val ds < 18446744073709551616) (hst : ∀ c t, rest = c :: t → c < 48 ∨ 57 < c) :
    Ev (fun k => impl_ReadUint.f k (ds ++ rest)) (val ds, (ds.length : Int)) := by
  have h := puint_loop ds rest hlen hd hv hst ds.length 0 (by omega)
  unfold impl_ReadUint.f
  refine EvGet (own_eq _ hlen) ?_
  refine Ev.bind (a := (val ds, (ds.length : Int))) ?_ (Ev.now _)
  unfold tdstrconv_ParseUint.f
  simpa [val] using h

theorem FnNumberUintBack : laws_FnNumberUintBack.Pure := by
  intro a ha
  have hb := u64_bd ha
  obtain ⟨n, rfl⟩ := Int.eq_ofNat_of_zero_le hb.1
  refine Ev.rounds ?_
  have hlen := digs_len 20 n
  have h := readuint_ev (digs 20 n) [] (by simp; omega) (digs_ok 20 n) (by rw [digs_val 20 n (by omega) (by omega)]; omega) (fun c t h => by cases h)
  rw [List.append_nil, digs_val 20 n (by omega) (by omega)] at h
  unfold laws_FnNumberUintBack.f
  refine Ev.bind (digits_ev n (by omega)) (Ev.bind h (EvPos rfl (EvNow (by simp))))

end Go.Proofs.Ytbpmfmkdpjajhaa.Pure
