/- FnNumberGroupedBack, its pure statement: a number that is written with marks between groups of digits and ahead of its decimals is read again. For all numbers. -/
import Derived.Test.YtnjffokgimjfcaaDoorAid
import Derived.Test.YtnjffokgimjfcaaDoorPFnNumberGroupedBackx0
import Derived.Test.YtnjffokgimjfcaaDoorPFnNumberGroupedBackx1
namespace Go.Proofs.YtnjffokgimjfcaaDoor.Pure
open Go.RowKit Go.Proofs.YtnjffokgimjfcaaDoor.PFnNumberGroupedBack Go.Proofs.YtnjffokgimjfcaaDoorW.PrintWords Go.Proofs.YtnjffokgimjfcaaDoorW.PrintLast Go.Proofs.YtnjffokgimjfcaaDoor.Aid
set_option linter.unusedVariables false
set_option linter.unusedSimpArgs false

def val (ds : List Int) : Int := ds.foldl (fun n c => 10 * n + (c - 48)) 0
def Digs (ds : List Int) : Prop := ∀ c ∈ ds, 48 ≤ c ∧ c ≤ 57
theorem val_snoc (ds : List Int) (c : Int) : val (ds ++ [c]) = 10 * val ds + (c - 48) := by simp [val]
theorem val_bd : ∀ (n : Nat) (ds : List Int), ds.length = n → Digs ds → 0 ≤ val ds ∧ val ds < 10 ^ n
  | 0, ds, h, _ => by
    obtain rfl := List.eq_nil_of_length_eq_zero h
    simp [val]
  | n + 1, ds, h, hd => by
    obtain ⟨ds', c, rfl⟩ : ∃ ds' c, ds = ds' ++ [c] := ⟨ds.dropLast, ds.getLast (by intro e; subst e; simp at h), (List.dropLast_concat_getLast _).symm⟩
    rw [List.length_append] at h
    have ih := val_bd n ds' (by simpa using h) (fun x hx => hd x (List.mem_append_left _ hx))
    have hc := hd c (by simp)
    rw [val_snoc, Int.pow_succ]
    omega
theorem pow_le {n m : Nat} (h : n ≤ m) : (10 : Int) ^ n ≤ 10 ^ m := by
  have := Nat.pow_le_pow_right (n := 10) (by omega) h
  exact_mod_cast this
theorem val18 {ds : List Int} (h : ds.length ≤ 18) (hd : Digs ds) : 0 ≤ val ds ∧ val ds < 1000000000000000000 := by
  have h1 := val_bd _ ds rfl hd
  have h2 := pow_le h
  have e : (10 : Int) ^ 18 = 1000000000000000000 := by decide
  omega
theorem Digs.take {ds : List Int} (h : Digs ds) (i : Nat) : Digs (ds.take i) := fun c hc => h c (List.mem_of_mem_take hc)
theorem take_snoc {ds : List Int} {i : Nat} (h : i < ds.length) : ds.take (i + 1) = ds.take i ++ [ds[i]] := by
  rw [List.take_succ_eq_append_getElem h]
theorem val_append_ge : ∀ (b a : List Int), Digs a → Digs b → val a ≤ val (a ++ b)
  | [], a, _, _ => by simp
  | c :: b, a, ha, hb => by
    have hc := hb c (by simp)
    have h0 := (val_bd _ a rfl ha).1
    have ih := val_append_ge b (a ++ [c]) (fun x hx => by
      rcases List.mem_append.1 hx with hx | hx
      · exact ha x hx
      · rw [List.mem_singleton.1 hx]; exact hc) (fun x hx => hb x (List.mem_cons_of_mem _ hx))
    rw [val_snoc, List.append_assoc, List.singleton_append] at ih
    omega
theorem val_take_le {ds : List Int} (hd : Digs ds) (i : Nat) : val (ds.take i) ≤ val ds := by
  have := val_append_ge (ds.drop i) (ds.take i) (hd.take _) (fun c hc => hd c (List.mem_of_mem_drop hc))
  rwa [List.take_append_drop] at this

theorem u64_bd {a : Int} (h : (Lit.int .u64 a).wf = true) : 0 ≤ a ∧ a ≤ 18446744073709551615 := by
  simp [Lit.wf, IntKind.min, IntKind.max, IntKind.signed, IntKind.bits] at h
  omega
/-- The decimal digits of a number, the least one last. -/
def digs : Nat → Nat → List Int
  | 0, _ => []
  | f + 1, n => if n / 10 = 0 then [(48 + ((n % 10 : Nat) : Int) : Int)] else digs f (n / 10) ++ [(48 + ((n % 10 : Nat) : Int) : Int)]
theorem digs_ok : ∀ f n, Digs (digs f n)
  | 0, _ => fun c hc => by cases hc
  | f + 1, n => by
    unfold digs
    split
    · intro c hc; rw [List.mem_singleton.1 hc]; omega
    · intro c hc
      rcases List.mem_append.1 hc with hc | hc
      · exact digs_ok f (n / 10) c hc
      · rw [List.mem_singleton.1 hc]; omega
theorem digs_val : ∀ f n, n < 10 ^ f → 0 < f → val (digs f n) = n
  | 0, n, h, h0 => by omega
  | f + 1, n, h, _ => by
    unfold digs
    split
    · simp [val]; omega
    · rename_i hne
      rw [val_snoc]
      have hf : 0 < f := by
        rcases Nat.eq_zero_or_pos f with e | e
        · subst e; simp at h; omega
        · exact e
      rw [digs_val f (n / 10) (by rw [Nat.pow_succ] at h; omega) hf]
      omega
theorem digs_len : ∀ f n, (digs f n).length ≤ f
  | 0, _ => by simp [digs]
  | f + 1, n => by
    unfold digs
    split
    · simp
    · have := digs_len f (n / 10); simp; omega
theorem digs_pos : ∀ f n, 0 < f → 0 < (digs f n).length
  | f + 1, n, _ => by
    unfold digs
    split <;> simp

theorem lenuint_aux (n : Nat) : ∀ f, f ≤ 20 → 0 < f → (∀ g : Nat, 0 < g → g < f → 10 ^ g ≤ n) → n < 10 ^ f → ∀ F, f ≤ F → (digs F n).length = f
  | 0, _, h0, _, _, _, _ => by omega
  | f + 1, hf, _, hlo, hhi, F, hF => by
    obtain ⟨F, rfl⟩ : ∃ G, F = G + 1 := ⟨F - 1, by omega⟩
    unfold digs
    rcases Nat.eq_zero_or_pos f with e | e
    · subst e
      rw [if_pos (by omega)]; rfl
    · have h1 := hlo f e (by omega)
      have h10 : 10 ≤ n := by
        have := Nat.pow_le_pow_right (n := 10) (by omega) e
        omega
      rw [if_neg (by omega), List.length_append, List.length_singleton]
      have := lenuint_aux (n / 10) f (by omega) e (fun g hg hgf => by
        have := hlo (g + 1) (by omega) (by omega)
        rw [Nat.pow_succ] at this
        omega) (by rw [Nat.pow_succ] at hhi; omega) F (by omega)
      omega
theorem lenuint_eq (n : Nat) (hn : n < 18446744073709551616) : tdstrconv_LenUint.f (n : Int) = some ((digs 20 n).length : Int) := by
  have key : ∀ f : Nat, 0 < f → f ≤ 20 → (f = 1 ∨ 10 ^ (f - 1) ≤ n) → n < 10 ^ f → ((digs 20 n).length : Int) = f := by
    intro f h0 hf hlo hhi
    rw [lenuint_aux n f hf h0 (fun g hg hgf => by
      rcases hlo with h | h
      · omega
      · exact Nat.le_trans (Nat.pow_le_pow_right (by omega) (by omega)) h) hhi 20 hf]
  unfold tdstrconv_LenUint.f
  by_cases c1 : (n : Int) < 10
  · rw [if_pos c1]; congr 1; exact (key 1 (by omega) (by omega) (.inl rfl) (by omega)).symm
  rw [if_neg c1]
  by_cases c2 : (n : Int) < 100
  · rw [if_pos c2]; congr 1; exact (key 2 (by omega) (by omega) (.inr (by omega)) (by omega)).symm
  rw [if_neg c2]
  by_cases c3 : (n : Int) < 1000
  · rw [if_pos c3]; congr 1; exact (key 3 (by omega) (by omega) (.inr (by omega)) (by omega)).symm
  rw [if_neg c3]
  by_cases c4 : (n : Int) < 10000
  · rw [if_pos c4]; congr 1; exact (key 4 (by omega) (by omega) (.inr (by omega)) (by omega)).symm
  rw [if_neg c4]
  by_cases c5 : (n : Int) < 100000
  · rw [if_pos c5]; congr 1; exact (key 5 (by omega) (by omega) (.inr (by omega)) (by omega)).symm
  rw [if_neg c5]
  by_cases c6 : (n : Int) < 1000000
  · rw [if_pos c6]; congr 1; exact (key 6 (by omega) (by omega) (.inr (by omega)) (by omega)).symm
  rw [if_neg c6]
  by_cases c7 : (n : Int) < 10000000
  · rw [if_pos c7]; congr 1; exact (key 7 (by omega) (by omega) (.inr (by omega)) (by omega)).symm
  rw [if_neg c7]
  by_cases c8 : (n : Int) < 100000000
  · rw [if_pos c8]; congr 1; exact (key 8 (by omega) (by omega) (.inr (by omega)) (by omega)).symm
  rw [if_neg c8]
  by_cases c9 : (n : Int) < 1000000000
  · rw [if_pos c9]; congr 1; exact (key 9 (by omega) (by omega) (.inr (by omega)) (by omega)).symm
  rw [if_neg c9]
  by_cases c10 : (n : Int) < 10000000000
  · rw [if_pos c10]; congr 1; exact (key 10 (by omega) (by omega) (.inr (by omega)) (by omega)).symm
  rw [if_neg c10]
  by_cases c11 : (n : Int) < 100000000000
  · rw [if_pos c11]; congr 1; exact (key 11 (by omega) (by omega) (.inr (by omega)) (by omega)).symm
  rw [if_neg c11]
  by_cases c12 : (n : Int) < 1000000000000
  · rw [if_pos c12]; congr 1; exact (key 12 (by omega) (by omega) (.inr (by omega)) (by omega)).symm
  rw [if_neg c12]
  by_cases c13 : (n : Int) < 10000000000000
  · rw [if_pos c13]; congr 1; exact (key 13 (by omega) (by omega) (.inr (by omega)) (by omega)).symm
  rw [if_neg c13]
  by_cases c14 : (n : Int) < 100000000000000
  · rw [if_pos c14]; congr 1; exact (key 14 (by omega) (by omega) (.inr (by omega)) (by omega)).symm
  rw [if_neg c14]
  by_cases c15 : (n : Int) < 1000000000000000
  · rw [if_pos c15]; congr 1; exact (key 15 (by omega) (by omega) (.inr (by omega)) (by omega)).symm
  rw [if_neg c15]
  by_cases c16 : (n : Int) < 10000000000000000
  · rw [if_pos c16]; congr 1; exact (key 16 (by omega) (by omega) (.inr (by omega)) (by omega)).symm
  rw [if_neg c16]
  by_cases c17 : (n : Int) < 100000000000000000
  · rw [if_pos c17]; congr 1; exact (key 17 (by omega) (by omega) (.inr (by omega)) (by omega)).symm
  rw [if_neg c17]
  by_cases c18 : (n : Int) < 1000000000000000000
  · rw [if_pos c18]; congr 1; exact (key 18 (by omega) (by omega) (.inr (by omega)) (by omega)).symm
  rw [if_neg c18]
  by_cases c19 : (n : Int) < 10000000000000000000
  · rw [if_pos c19]; congr 1; exact (key 19 (by omega) (by omega) (.inr (by omega)) (by omega)).symm
  rw [if_neg c19]
  congr 1; exact (key 20 (by omega) (by omega) (.inr (by omega)) (by omega)).symm


theorem i64_bd {a : Int} (h : (Lit.int .i64 a).wf = true) : -9223372036854775808 ≤ a ∧ a ≤ 9223372036854775807 := by
  simp [Lit.wf, IntKind.min, IntKind.max, IntKind.signed, IntKind.bits] at h
  omega
def intText (a : Int) : List Int := if a < 0 then 45 :: digs 20 a.natAbs else digs 20 a.natAbs

theorem lenint_eq (a : Int) (h : -9223372036854775808 ≤ a ∧ a ≤ 9223372036854775807) : tdstrconv_LenInt.f a = some ((intText a).length : Int) := by
  unfold tdstrconv_LenInt.f intText
  have hl := digs_len 20 a.natAbs
  by_cases hn : a < 0
  · rw [if_pos hn, if_pos hn]
    by_cases hm : a = -9223372036854775808
    · rw [if_pos hm]
      subst hm
      rfl
    · rw [if_neg hm, w64 (by omega) (by omega), wu (by omega) (by omega), show (-a : Int) = ((a.natAbs : Nat) : Int) by omega, lenuint_eq _ (by omega), Option.bind_some, w64 (by omega) (by omega), List.length_cons]
      congr 1
      omega
  · rw [if_neg hn, if_neg hn, wu (by omega) (by omega), show (a : Int) = ((a.natAbs : Nat) : Int) by omega]
    have := lenuint_eq a.natAbs (by omega)
    simp only [this, Option.bind_some, Int.natAbs_natCast]

theorem groupok_f (a1 a2 a3 a4 a5 : Int) : ∃ b, laws_groupedOk.f a1 a2 a3 a4 a5 = some b ∧ (b = true → (-1000000000000000 < a1 ∧ a1 < 1000000000000000) ∧ (0 ≤ a2 ∧ a2 ≤ 15) ∧ (1 ≤ a3 ∧ a3 ≤ 9) ∧ Own.badC a4 = false ∧ Own.badC a5 = false ∧ a4 ≠ a5) := by
  unfold laws_groupedOk.f Own.laws_markOk.f
  by_cases h1 : a1 > -1000000000000000
  · rw [if_pos h1]
    by_cases h2 : a1 < 1000000000000000
    · rw [if_pos h2]
      by_cases h3 : a2 ≥ 0
      · rw [if_pos h3]
        by_cases h4 : a2 ≤ 15
        · rw [if_pos h4]
          by_cases h5 : a3 ≥ 1
          · rw [if_pos h5]
            by_cases h6 : a3 ≤ 9
            · rw [if_pos h6]
              refine ⟨_, rfl, fun h => ?_⟩
              by_cases h7 : Own.badC a4 = true
              · rw [if_pos h7] at h; cases h
              · rw [if_neg h7] at h
                by_cases h8 : Own.badC a5 = true
                · rw [if_pos h8] at h; cases h
                · rw [if_neg h8] at h
                  exact ⟨⟨by omega, h2⟩, ⟨by omega, h4⟩, ⟨by omega, h6⟩, eq_false_of_ne_true h7, eq_false_of_ne_true h8, of_decide_eq_true h⟩
            · rw [if_neg h6]; exact ⟨_, rfl, fun h => by cases h⟩
          · rw [if_neg h5]; exact ⟨_, rfl, fun h => by cases h⟩
        · rw [if_neg h4]; exact ⟨_, rfl, fun h => by cases h⟩
      · rw [if_neg h3]; exact ⟨_, rfl, fun h => by cases h⟩
    · rw [if_neg h2]; exact ⟨_, rfl, fun h => by cases h⟩
  · rw [if_neg h1]; exact ⟨_, rfl, fun h => by cases h⟩
theorem badC_bd {c : Int} (h : Own.badC c = false) : 32 < c ∧ c < 127 ∧ (c < 48 ∨ 57 < c) ∧ c ≠ 43 ∧ c ≠ 45 := by
  unfold Own.badC at h
  simp at h
  omega


/-- Digits with marks between groups, j digits stand behind them. -/
def mkF (size : Nat) (mk : Int) (j : Nat) : List Int → List Int
  | [] => []
  | c :: t => c :: ((if 0 < t.length + j ∧ (t.length + j) % size = 0 then [mk] else []) ++ mkF size mk j t)
theorem mkF_append (size : Nat) (mk : Int) (j : Nat) (B : List Int) : ∀ A : List Int, mkF size mk j (A ++ B) = mkF size mk (j + B.length) A ++ mkF size mk j B
  | [] => rfl
  | c :: t => by
    simp only [List.cons_append, mkF, List.length_append, mkF_append size mk j B t, List.append_assoc]
    rw [show t.length + B.length + j = t.length + (j + B.length) by omega]
theorem grp_mkF (size : Nat) (mk : Int) : ∀ f n j, Own.grp size mk f n j = mkF size mk j (Own.dz f n)
  | 0, _, _ => rfl
  | f + 1, n, j => by
    unfold Own.grp Own.dz
    by_cases hn : n = 0
    · rw [if_pos hn, if_pos hn]; rfl
    · rw [if_neg hn, if_neg hn, mkF_append, grp_mkF size mk f (n / 10) (j + 1)]
      simp [mkF]
theorem dz_digs : ∀ f n, n ≠ 0 → n < 10 ^ f → Own.dz f n = digs f n
  | 0, n, h0, h => by simp at h; omega
  | f + 1, n, h0, h => by
    unfold Own.dz digs
    rw [if_neg h0]
    by_cases h1 : n / 10 = 0
    · rw [if_pos h1, h1, Own.dz_zero]; rfl
    · rw [if_neg h1, dz_digs f (n / 10) h1 (by rw [Nat.pow_succ] at h; omega)]
theorem whole_mkF (size : Nat) (mk : Int) (W : Nat) (h : W < 10 ^ 20) : Own.wholeG size mk W = mkF size mk 0 (digs 20 W) := by
  unfold Own.wholeG
  by_cases hw : W = 0
  · subst hw; rfl
  · rw [if_neg hw, grp_mkF, dz_digs 20 W hw h]
/-- A mark ahead of each group. -/
def mkP (size : Nat) (mk : Int) : List Int → List Int
  | [] => []
  | c :: t => (if (t.length + 1) % size = 0 then [mk] else []) ++ c :: mkP size mk t
theorem mkF_mkP (size : Nat) (mk : Int) : ∀ (t : List Int) (c : Int), mkF size mk 0 (c :: t) = c :: mkP size mk t
  | [], c => by simp [mkF, mkP]
  | d :: t, c => by
    rw [mkF, mkF_mkP size mk t d, mkP]
    simp
/-- The last digits, and those ahead of them. -/
theorem digs_fuel : ∀ f g n, n < 10 ^ f → n < 10 ^ g → 0 < f → 0 < g → digs f n = digs g n
  | 0, _, _, _, _, h, _ => by omega
  | _ + 1, 0, _, _, _, _, h => by omega
  | f + 1, g + 1, n, h, h', _, _ => by
    unfold digs
    by_cases h1 : n / 10 = 0
    · rw [if_pos h1, if_pos h1]
    · have hf : 0 < f := by
        rcases Nat.eq_zero_or_pos f with e | e
        · subst e; simp at h; omega
        · exact e
      have hg : 0 < g := by
        rcases Nat.eq_zero_or_pos g with e | e
        · subst e; simp at h'; omega
        · exact e
      rw [if_neg h1, if_neg h1, digs_fuel f g (n / 10) (by rw [Nat.pow_succ] at h; omega) (by rw [Nat.pow_succ] at h'; omega) hf hg]
theorem digs_step (n : Nat) (h : n < 10 ^ 20) (h1 : n / 10 ≠ 0) : digs 20 n = digs 20 (n / 10) ++ [(48 + ((n % 10 : Nat) : Int) : Int)] := by
  have e : digs 20 n = digs 19 (n / 10) ++ [(48 + ((n % 10 : Nat) : Int) : Int)] := by rw [digs, if_neg h1]
  rw [e, digs_fuel 19 20 (n / 10) (by omega) (by omega) (by omega) (by omega)]
theorem digs_split : ∀ (d n : Nat), n < 10 ^ 20 → d < (digs 20 n).length → digs 20 n = digs 20 (n / 10 ^ d) ++ Own.dk d n
  | 0, n, _, _ => by simp [Own.dk]
  | d + 1, n, h, hd => by
    have h1 : n / 10 ≠ 0 := by
      intro e
      have : digs 20 n = [(48 + ((n % 10 : Nat) : Int) : Int)] := by rw [digs, if_pos e]
      rw [this] at hd
      simp at hd
    have e := digs_step n h h1
    have hl : (digs 20 n).length = (digs 20 (n / 10)).length + 1 := by rw [e]; simp
    rw [e, digs_split d (n / 10) (by omega) (by omega), Own.dk, List.append_assoc, Nat.div_div_eq_div_mul, Nat.pow_succ, Nat.mul_comm 10]
theorem dk_zero : ∀ d, Own.dk d 0 = List.replicate d 48
  | 0 => rfl
  | d + 1 => by rw [Own.dk, show 0 / 10 = 0 from rfl, dk_zero d, List.replicate_succ']; rfl
theorem digs_pad : ∀ (d n : Nat), n < 10 ^ 20 → (digs 20 n).length ≤ d → List.replicate (d - (digs 20 n).length) 48 ++ digs 20 n = Own.dk d n ∧ n / 10 ^ d = 0
  | 0, n, _, hd => by have := digs_pos 20 n (by omega); omega
  | d + 1, n, h, hd => by
    by_cases h1 : n / 10 = 0
    · have e : digs 20 n = [(48 + ((n % 10 : Nat) : Int) : Int)] := by rw [digs, if_pos h1]
      rw [e, Own.dk, h1, dk_zero]
      refine ⟨by simp, ?_⟩
      rw [Nat.pow_succ, Nat.mul_comm, ← Nat.div_div_eq_div_mul, h1, Nat.zero_div]
    · have e := digs_step n h h1
      have hl : (digs 20 n).length = (digs 20 (n / 10)).length + 1 := by rw [e]; simp
      obtain ⟨a, b⟩ := digs_pad d (n / 10) (by omega) (by omega)
      refine ⟨?_, ?_⟩
      · rw [Own.dk, ← a, hl, e, ← List.append_assoc, show d + 1 - ((digs 20 (n / 10)).length + 1) = d - (digs 20 (n / 10)).length by omega]
      · rw [Nat.pow_succ, Nat.mul_comm, ← Nat.div_div_eq_div_mul, b]

theorem wrgroup_f (l : List Int) (n : Int) (dec size : Nat) (mk pt : Int) (hl : l.length + 64 ≤ 140737488355327) (hn : -1000000000000000 < n ∧ n < 1000000000000000) (hd : dec ≤ 15) (hs : 1 ≤ size ∧ size ≤ 9) (hm : 0 < mk ∧ mk < 128) (hp : 0 < pt ∧ pt < 128) :
    Own.impl_WriteGrouped.f l n (dec : Int) (size : Int) mk pt = some (l ++ Own.gtext n dec size mk pt) := by
  have e : Own.tdstrconv_LenInt.f n = tdstrconv_LenInt.f n := rfl
  have hi : Own.itoa n = intText n := by
    unfold Own.itoa intText
    by_cases h0 : n = 0
    · subst h0; rfl
    · rw [if_neg h0, dz_digs 20 _ (by omega) (by omega)]
  unfold Own.impl_WriteGrouped.f
  rw [if_pos ⟨hl, hn, ⟨by omega, by omega⟩, ⟨by omega, by omega⟩, hm, hp, by rw [hi, e]; exact lenint_eq n ⟨by omega, by omega⟩⟩, Int.toNat_natCast, Int.toNat_natCast]


def fo (a : Nat) (l : List Int) : Nat := l.foldl (fun a c => a * 10 + (c - 48).toNat) a
theorem fo_le : ∀ (l : List Int) (a : Nat), a ≤ fo a l
  | [], a => Nat.le_refl _
  | c :: t, a => by
    have := fo_le t (a * 10 + (c - 48).toNat)
    unfold fo at this ⊢
    rw [List.foldl_cons]
    omega
theorem fo_snoc (a : Nat) (l : List Int) (c : Int) : fo a (l ++ [c]) = fo a l * 10 + (c - 48).toNat := by unfold fo; rw [List.foldl_append]; rfl
theorem fo_digs : ∀ f n, n < 10 ^ f → 0 < f → fo 0 (digs f n) = n
  | 0, n, h, h0 => by omega
  | f + 1, n, h, _ => by
    unfold digs
    split
    · simp [fo]; omega
    · rename_i hne
      rw [fo_snoc]
      have hf : 0 < f := by
        rcases Nat.eq_zero_or_pos f with e | e
        · subst e; simp at h; omega
        · exact e
      rw [fo_digs f (n / 10) (by rw [Nat.pow_succ] at h; omega) hf]
      omega
theorem fo_dk : ∀ (d n : Nat), fo (n / 10 ^ d) (Own.dk d n) = n
  | 0, n => by simp [Own.dk, fo]
  | d + 1, n => by
    have e : n / 10 ^ (d + 1) = n / 10 / 10 ^ d := by rw [Nat.div_div_eq_div_mul, Nat.pow_succ, Nat.mul_comm]
    rw [e, Own.dk, fo_snoc, fo_dk d (n / 10)]
    omega
theorem dk_ok : ∀ (d n : Nat), ∀ c ∈ Own.dk d n, 48 ≤ c ∧ c ≤ 57
  | 0, _ => fun c hc => by cases hc
  | d + 1, n => by
    intro c hc
    rw [Own.dk] at hc
    rcases List.mem_append.1 hc with hc | hc
    · exact dk_ok d (n / 10) c hc
    · rw [List.mem_singleton.1 hc]; omega
theorem scan_whole (size : Nat) (mk pt : Int) (hm : 32 < mk ∧ mk < 127 ∧ (mk < 48 ∨ 57 < mk)) (hne : mk ≠ pt) : ∀ (D : List Int) (a j : Nat) (rest : List Int), (∀ c ∈ D, 48 ≤ c ∧ c ≤ 57) → fo a D < 1000000000000000 →
    Own.scanG mk pt (mkF size mk j D ++ rest) a 0 false = Own.scanG mk pt rest (fo a D) 0 false
  | [], a, j, rest, _, _ => rfl
  | c :: t, a, j, rest, hd, hb => by
    have hc := hd c (List.mem_cons_self ..)
    have hle := fo_le t (a * 10 + (c - 48).toNat)
    have e : fo a (c :: t) = fo (a * 10 + (c - 48).toNat) t := rfl
    rw [e] at hb ⊢
    have ih := scan_whole size mk pt hm hne t (a * 10 + (c - 48).toNat) j rest (fun x hx => hd x (List.mem_cons_of_mem _ hx)) hb
    rw [mkF, List.cons_append, Own.scanG, if_pos hc, if_pos (by omega)]
    simp only [Bool.false_eq_true, if_false]
    by_cases hq : 0 < t.length + j ∧ (t.length + j) % size = 0
    · rw [if_pos hq]
      simp only [List.cons_append, List.nil_append]
      rw [Own.scanG, if_neg (by omega), if_pos ⟨rfl, by omega, by omega, .inl rfl⟩, decide_eq_false hne]
      exact ih
    · rw [if_neg hq]
      exact ih
theorem scan_dec (mk pt : Int) : ∀ (D : List Int) (a d : Nat), (∀ c ∈ D, 48 ≤ c ∧ c ≤ 57) → fo a D < 1000000000000000 → Own.scanG mk pt D a d true = some (fo a D, d + D.length)
  | [], a, d, _, _ => rfl
  | c :: t, a, d, hd, hb => by
    have hc := hd c (List.mem_cons_self ..)
    have hle := fo_le t (a * 10 + (c - 48).toNat)
    have e : fo a (c :: t) = fo (a * 10 + (c - 48).toNat) t := rfl
    rw [e] at hb ⊢
    rw [Own.scanG, if_pos hc, if_pos (by omega), if_pos rfl, scan_dec mk pt t _ _ (fun x hx => hd x (List.mem_cons_of_mem _ hx)) hb, List.length_cons]
    congr 2
    omega
theorem scan_text (n : Int) (dec size : Nat) (mk pt : Int) (hn : n.natAbs < 1000000000000000) (hm : 32 < mk ∧ mk < 127 ∧ (mk < 48 ∨ 57 < mk)) (hp : 32 < pt ∧ pt < 127 ∧ (pt < 48 ∨ 57 < pt)) (hne : mk ≠ pt) :
    Own.scanG mk pt (Own.wholeG size mk (n.natAbs / 10 ^ dec) ++ (if 0 < dec then pt :: Own.dk dec n.natAbs else [])) 0 0 false = some (n.natAbs, dec) := by
  have hW : n.natAbs / 10 ^ dec ≤ n.natAbs := Nat.div_le_self _ _
  have hfo := fo_digs 20 (n.natAbs / 10 ^ dec) (by omega) (by omega)
  rw [whole_mkF size mk _ (by omega), scan_whole size mk pt hm hne _ 0 0 _ (fun c hc => digs_ok 20 _ c hc) (by omega), hfo]
  by_cases hd : 0 < dec
  · rw [if_pos hd, Own.scanG, if_neg (by omega), if_pos ⟨rfl, by omega, by omega, .inr rfl⟩, decide_eq_true rfl, scan_dec mk pt _ _ _ (dk_ok dec _) (by rw [fo_dk]; exact hn), fo_dk, Own.dk_len]
    simp
  · obtain rfl : dec = 0 := by omega
    rw [if_neg hd, Own.scanG]
    simp
theorem whole_head (size : Nat) (mk : Int) (W : Nat) (h : W < 10 ^ 20) : ∃ c t, Own.wholeG size mk W = c :: t ∧ 48 ≤ c ∧ c ≤ 57 := by
  rw [whole_mkF size mk W h]
  have hp := digs_pos 20 W (by omega)
  have hok := digs_ok 20 W
  cases hd : digs 20 W with
  | nil => rw [hd] at hp; simp at hp
  | cons c t =>
    rw [hd] at hok
    exact ⟨c, _, rfl, hok c (List.mem_cons_self ..)⟩
theorem read_text (n : Int) (dec size : Nat) (mk pt : Int) (hs : 1 ≤ size ∧ size ≤ 9) (hd : dec ≤ 15) (hn : n.natAbs < 1000000000000000) (hm : 32 < mk ∧ mk < 127 ∧ (mk < 48 ∨ 57 < mk)) (hp : 32 < pt ∧ pt < 127 ∧ (pt < 48 ∨ 57 < pt)) (hne : mk ≠ pt) (hl : (Own.gtext n dec size mk pt).length < 140737488355328) :
    Own.impl_ReadGrouped.f (Own.gtext n dec size mk pt) mk pt = some (n, (dec : Int), ((Own.gtext n dec size mk pt).length : Int)) ∧ 0 < (Own.gtext n dec size mk pt).length := by
  have hW : n.natAbs / 10 ^ dec ≤ n.natAbs := Nat.div_le_self _ _
  have hsc := scan_text n dec size mk pt hn hm hp hne
  obtain ⟨c, t, hwh, hc1, hc2⟩ := whole_head size mk (n.natAbs / 10 ^ dec) (by omega)
  have key : Own.gtext n dec size mk pt ≠ [] ∧ Own.bodyG (Own.gtext n dec size mk pt) = Own.wholeG size mk (n.natAbs / 10 ^ dec) ++ (if 0 < dec then pt :: Own.dk dec n.natAbs else []) ∧ Own.sgnG (Own.gtext n dec size mk pt) * ((n.natAbs : Nat) : Int) = n := by
    unfold Own.gtext Own.bodyG Own.sgnG
    by_cases hneg : n < 0
    · simp only [if_pos hneg]
      refine ⟨by simp, by simp, ?_⟩
      simp
      omega
    · simp only [if_neg hneg, List.nil_append, hwh]
      have h45 : ¬ (c = 45) := by omega
      refine ⟨by simp, by simp [h45], ?_⟩
      simp [h45]
      omega
  obtain ⟨k1, k2, k3⟩ := key
  refine ⟨?_, List.length_pos_iff.2 k1⟩
  unfold Own.impl_ReadGrouped.f
  rw [if_pos ⟨hl, k1⟩, k2, hsc]
  simp only [Option.map_some, k3]

theorem glen (n : Int) (dec size : Nat) (mk pt : Int) (hs : 1 ≤ size ∧ size ≤ 9) (hd : dec ≤ 15) (hn : n.natAbs < 1000000000000000) : (Own.gtext n dec size mk pt).length ≤ 1000 := by
  have hlen := Own.gtext_len n dec size mk pt hs (by omega)
  rw [hlen]
  have h3 := digs_len 20 n.natAbs
  have h4 : (Own.dz 20 n.natAbs).length ≤ 20 := Own.dz_len 20 _
  generalize (Own.dz 20 n.natAbs).length = D0 at *
  have hD : (if n = 0 then 1 else D0) ≤ 20 := by split <;> omega
  generalize (if n = 0 then 1 else D0) = D at *
  have h5 := Nat.div_le_self (D - dec - 1) size
  unfold Own.many
  generalize (D - dec - 1) / size = q at *
  by_cases c1 : dec < D <;> by_cases c2 : 0 < dec <;> by_cases c3 : n < 0 <;> simp only [c1, c2, c3, if_true, if_false, decide_true, decide_false, Bool.false_eq_true] <;> (try split) <;> omega

theorem w32_of {c : Int} (h : 32 < c ∧ c < 127) : wrap32 c = c := by unfold wrap32; omega
theorem FnNumberGroupedBack : laws_FnNumberGroupedBack.Pure := by
  intro n dec size mk pt hn hd hs hm hp
  unfold laws_FnNumberGroupedBack.f
  obtain ⟨b, hg, hok⟩ := groupok_f n dec size mk pt
  rw [hg, Option.bind_some]
  by_cases hbt : b = true
  · rw [if_pos hbt]
    obtain ⟨o1, o2, o3, o4, o5, o6⟩ := hok hbt
    obtain ⟨dec, rfl⟩ := Int.eq_ofNat_of_zero_le o2.1
    obtain ⟨size, rfl⟩ := Int.eq_ofNat_of_zero_le (show 0 ≤ size by omega)
    have hmb := badC_bd o4
    have hpb := badC_bd o5
    have hlen := glen n dec size mk pt ⟨by omega, by omega⟩ (by omega) (by omega)
    obtain ⟨r1, r2⟩ := read_text n dec size mk pt ⟨by omega, by omega⟩ (by omega) (by omega) ⟨hmb.1, hmb.2.1, hmb.2.2.1⟩ ⟨hpb.1, hpb.2.1, hpb.2.2.1⟩ o6 (by omega)
    rw [w32_of ⟨hmb.1, hmb.2.1⟩, w32_of ⟨hpb.1, hpb.2.1⟩, wrgroup_f [] n dec size mk pt (by simp) o1 (by omega) ⟨by omega, by omega⟩ ⟨by omega, by omega⟩ ⟨by omega, by omega⟩, Option.bind_some, List.nil_append, r1, Option.bind_some]
    simp only [if_true]
    rw [decide_eq_true (by omega)]
  · rw [if_neg hbt]

end Go.Proofs.YtnjffokgimjfcaaDoor.Pure
