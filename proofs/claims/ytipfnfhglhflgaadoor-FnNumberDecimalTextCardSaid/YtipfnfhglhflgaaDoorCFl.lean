/- Floats whose value is told exactly: 'fl s N p' is the word of the number N * 2 ^ p, of sign s. Products, quotients, sums that come out exactly. No condition on a program. -/
import Derived.Laws.FloatArith
import Derived.Laws.Cover2
namespace Go.Proofs.YtipfnfhglhflgaaDoor.Own
open Ieee
set_option linter.unusedVariables false
set_option linter.unusedSimpArgs false
/-- The word of N * 2 ^ p, of sign s. -/
def fl (s : Bool) (N : Nat) (p : Int) : Nat := double.nearest s N p
theorem fb : double.fractionBits = 52 := rfl
theorem lp : double.leastPlace = -1074 := rfl
theorem bin : double.binade = 4503599627370496 := by decide
theorem inf : double.infRung = 2047 * 4503599627370496 := by decide
theorem sw : double.signWeight = 9223372036854775808 := by decide
theorem log2_mul {m k : Nat} (h : m ≠ 0) : (m * 2 ^ k).log2 = m.log2 + k := by
  have h2 : m * 2 ^ k ≠ 0 := Nat.mul_ne_zero h (Nat.pos_iff_ne_zero.1 (Nat.two_pow_pos k))
  have a := Nat.log2_self_le h
  have b := @Nat.lt_log2_self m
  refine (Nat.log2_eq_iff h2).2 ⟨?_, ?_⟩
  · rw [Nat.pow_add]; exact Nat.mul_le_mul_right _ a
  · rw [show m.log2 + k + 1 = (m.log2 + 1) + k by omega, Nat.pow_add]; exact Nat.mul_lt_mul_of_pos_right b (Nat.two_pow_pos k)
theorem pow_split {a b : Nat} (h : b ≤ a) : 2 ^ a = 2 ^ (a - b) * 2 ^ b := by rw [← Nat.pow_add]; congr 1; omega
theorem cut_exact {s : Bool} {n d : Nat} (hd : d ≤ (n * 2 ^ d).log2 + 2) : Toward.even.cut s (n * 2 ^ d) d = n := by
  unfold Toward.cut
  have hg : 1 <<< min d ((n * 2 ^ d).log2 + 2) = 2 ^ d := by rw [Nat.min_eq_left hd, Nat.shiftLeft_eq, Nat.one_mul]
  have hp := Nat.two_pow_pos d
  simp only [hg]
  rw [Nat.mul_mod_left, Nat.mul_div_cancel _ hp]
  simp only [Nat.mul_zero]
  have h1 : decide (2 ^ d < 0) = false := decide_eq_false (by omega)
  have h2 : (2 ^ d == 0) = false := by simp
  simp [h1, h2]
theorem cut_scale {s : Bool} {n d k : Nat} (hn : n ≠ 0) : Toward.even.cut s (n * 2 ^ k) (d + k) = Toward.even.cut s n d := by
  unfold Toward.cut
  have hl : (n * 2 ^ k).log2 = n.log2 + k := log2_mul hn
  have hg : 1 <<< min (d + k) ((n * 2 ^ k).log2 + 2) = (1 <<< min d (n.log2 + 2)) * 2 ^ k := by
    rw [hl, Nat.shiftLeft_eq, Nat.shiftLeft_eq, Nat.one_mul, Nat.one_mul, ← Nat.pow_add]
    congr 1
    omega
  have hp := Nat.two_pow_pos k
  have hgp : 0 < 1 <<< min d (n.log2 + 2) := by rw [Nat.shiftLeft_eq, Nat.one_mul]; exact Nat.two_pow_pos _
  simp only [hg]
  generalize 1 <<< min d (n.log2 + 2) = g at *
  rw [Nat.mul_div_mul_right _ _ hp, Nat.mul_mod_mul_right]
  have e1 : decide (g * 2 ^ k < 2 * (n % g * 2 ^ k)) = decide (g < 2 * (n % g)) := by
    rw [Bool.eq_iff_iff, decide_eq_true_eq, decide_eq_true_eq, ← Nat.mul_assoc]
    exact ⟨fun h => Nat.lt_of_mul_lt_mul_right h, fun h => Nat.mul_lt_mul_of_pos_right h hp⟩
  have e2 : (g * 2 ^ k == 2 * (n % g * 2 ^ k)) = (g == 2 * (n % g)) := by
    rw [Bool.eq_iff_iff, beq_iff_eq, beq_iff_eq, ← Nat.mul_assoc]
    exact ⟨fun h => Nat.eq_of_mul_eq_mul_right hp h, fun h => congrArg (· * 2 ^ k) h⟩
  rw [e1, e2]
/-- The word is the value's. -/
theorem fl_scale (s : Bool) (m k : Nat) (e : Int) : fl s (m * 2 ^ k) e = fl s m (e + k) := by
  unfold fl Format.nearest
  by_cases hm : m = 0
  · subst hm; simp
  · have hmk : m * 2 ^ k ≠ 0 := Nat.mul_ne_zero hm (Nat.pos_iff_ne_zero.1 (Nat.two_pow_pos k))
    rw [if_neg hm, if_neg hmk]
    simp only [log2_mul hm, fb, lp]
    have hlast : max (e + ((m.log2 + k : Nat) : Int) - ((52 : Nat) : Int)) (-1074) = max (e + (k : Int) + (m.log2 : Int) - ((52 : Nat) : Int)) (-1074) := by
      congr 1; push_cast; omega
    rw [hlast]
    generalize max (e + (k : Int) + (m.log2 : Int) - ((52 : Nat) : Int)) (-1074) = last
    congr 3
    rw [Nat.shiftLeft_eq, Nat.shiftLeft_eq]
    rcases Int.le_total last e with h | h
    · have a1 : (last - e).toNat = 0 := by omega
      have a2 : (last - (e + k)).toNat = 0 := by omega
      have a3 : (e + k - last).toNat = k + (e - last).toNat := by omega
      rw [a1, a2, a3, Nat.pow_add, ← Nat.mul_assoc]
    · have a0 : (e - last).toNat = 0 := by omega
      rw [a0, Nat.pow_zero, Nat.mul_one]
      rcases Int.le_total last (e + k) with h2 | h2
      · have a2 : (last - (e + k)).toNat = 0 := by omega
        obtain ⟨d, hd⟩ : ∃ d : Nat, d = (last - e).toNat := ⟨_, rfl⟩
        have a3 : (e + k - last).toNat = k - d := by omega
        have hdk : d ≤ k := by omega
        rw [a2, a3, ← hd]
        have e1 : m * 2 ^ k = (m * 2 ^ (k - d)) * 2 ^ d := by rw [Nat.mul_assoc, ← pow_split hdk]
        rw [e1, cut_exact (by rw [← e1, log2_mul hm]; omega)]
        have e2 : (m * 2 ^ (k - d)) = (m * 2 ^ (k - d)) * 2 ^ 0 := by simp
        conv => rhs; rw [e2]
        rw [cut_exact (by omega)]
      · have a2 : (e + k - last).toNat = 0 := by omega
        have a3 : (last - e).toNat = (last - (e + k)).toNat + k := by omega
        rw [a2, a3, Nat.pow_zero, Nat.mul_one, cut_scale hm]
theorem fl_zero (s : Bool) (p q : Int) : fl s 0 p = fl s 0 q := by unfold fl Format.nearest; simp
theorem p52 : (2 : Nat) ^ 52 = 4503599627370496 := by decide
theorem p53 : (2 : Nat) ^ 53 = 9007199254740992 := by decide
theorem log2_lt {N : Nat} (h : N < 2 ^ 53) : N.log2 ≤ 52 := by
  by_cases h0 : N = 0
  · subst h0; simp
  · have := (Nat.log2_lt h0).2 h; omega
theorem norm_bounds {N : Nat} (h0 : N ≠ 0) (h : N < 2 ^ 53) : 4503599627370496 ≤ N * 2 ^ (52 - N.log2) ∧ N * 2 ^ (52 - N.log2) < 2 * 4503599627370496 := by
  have hl := log2_lt h
  have hlog : (N * 2 ^ (52 - N.log2)).log2 = 52 := by rw [log2_mul h0]; omega
  have hne : N * 2 ^ (52 - N.log2) ≠ 0 := Nat.mul_ne_zero h0 (Nat.pos_iff_ne_zero.1 (Nat.two_pow_pos _))
  have := (Nat.log2_eq_iff hne).1 hlog
  rw [show 52 + 1 = 53 from rfl, p52, p53] at this
  omega
theorem word_false (r : Nat) : double.word false r = r := rfl
theorem word_true (r : Nat) : double.word true r = 9223372036854775808 + r := by show double.signWeight + r = _; rw [sw]
/-- What a word of a magnitude below infinity's reads as. -/
theorem read_word (s : Bool) (r : Nat) (h1 : 4503599627370496 ≤ r) (h2 : r < 2047 * 4503599627370496) : double.read (double.word s r) = .number s (4503599627370496 + r % 4503599627370496) (-1074 + ((r / 4503599627370496 - 1 : Nat) : Int)) := by
  have hr : double.word s r % 9223372036854775808 = r := by
    cases s
    · rw [word_false]; omega
    · rw [word_true]; omega
  have hs : (double.word s r / 9223372036854775808 % 2 == 1) = s := by
    cases s
    · rw [word_false, show r / 9223372036854775808 = 0 by omega]; rfl
    · rw [word_true, show (9223372036854775808 + r) / 9223372036854775808 = 1 by omega]; rfl
  unfold Format.read
  simp only [sw, bin, inf, lp, hr, hs]
  rw [if_neg (by omega), if_pos h2]
theorem read_zero (s : Bool) : double.read (double.word s 0) = .number s 0 (-1074) := by cases s <;> decide
theorem rung_gen {B K q n : Nat} (hB : 0 < B) (b1 : B ≤ K) (b2 : K < 2 * B) (hq : q + 2 ≤ n) : (q * B + K) % B = K - B ∧ (q * B + K) / B = q + 1 ∧ min (q * B + K) (n * B) = q * B + K ∧ B ≤ q * B + K ∧ q * B + K < n * B := by
  obtain ⟨k, rfl⟩ : ∃ k, K = B + k := ⟨K - B, by omega⟩
  have hk : k < B := by omega
  have e : q * B + (B + k) = k + (q + 1) * B := by rw [Nat.succ_mul]; omega
  have hlt : q * B + (B + k) < n * B := by
    have h1 : (q + 2) * B ≤ n * B := Nat.mul_le_mul_right _ hq
    have h2 : (q + 2) * B = q * B + B + B := by rw [Nat.add_mul, Nat.two_mul]; omega
    omega
  refine ⟨?_, ?_, Nat.min_eq_left (Nat.le_of_lt hlt), by omega, hlt⟩
  · rw [e, Nat.add_mul_mod_self_right, Nat.mod_eq_of_lt hk]; omega
  · rw [e, Nat.add_mul_div_right _ _ hB, Nat.div_eq_of_lt hk, Nat.zero_add]
theorem rung_nums {K q : Nat} (b1 : 4503599627370496 ≤ K) (b2 : K < 2 * 4503599627370496) (hq : q ≤ 1974) : (q * 4503599627370496 + K) % 4503599627370496 = K - 4503599627370496 ∧ (q * 4503599627370496 + K) / 4503599627370496 = q + 1 ∧ min (q * 4503599627370496 + K) (2047 * 4503599627370496) = q * 4503599627370496 + K ∧ 4503599627370496 ≤ q * 4503599627370496 + K ∧ q * 4503599627370496 + K < 2047 * 4503599627370496 :=
  rung_gen (n := 2047) (by decide) b1 b2 (by omega)
/-- What fl s N p reads as, N in 53 bits. -/
theorem read_fl {s : Bool} {N : Nat} {p : Int} (h0 : N ≠ 0) (h : N < 2 ^ 53) (hp : -900 ≤ p) (hp2 : p ≤ 900) : double.read (fl s N p) = .number s (N * 2 ^ (52 - N.log2)) (p + N.log2 - 52) := by
  have hl := log2_lt h
  obtain ⟨b1, b2⟩ := norm_bounds h0 h
  unfold fl Format.nearest
  rw [if_neg h0]
  simp only [fb, lp]
  have hlast : max (p + (N.log2 : Int) - ((52 : Nat) : Int)) (-1074) = p + (N.log2 : Int) - 52 := by omega
  rw [hlast, bin, inf]
  have e1 : (p - (p + (N.log2 : Int) - 52)).toNat = 52 - N.log2 := by omega
  have e2 : (p + (N.log2 : Int) - 52 - p).toNat = 0 := by omega
  rw [e1, e2, Nat.shiftLeft_eq]
  have e3 : Toward.even.cut s (N * 2 ^ (52 - N.log2)) 0 = N * 2 ^ (52 - N.log2) := by
    have := @cut_exact s (N * 2 ^ (52 - N.log2)) 0 (by omega)
    simpa using this
  rw [e3]
  generalize N * 2 ^ (52 - N.log2) = K at b1 b2 ⊢
  obtain ⟨q, hq⟩ : ∃ q : Nat, q = (p + (N.log2 : Int) - 52 - -1074).toNat := ⟨_, rfl⟩
  have hqi : -1074 + (q : Int) = p + (N.log2 : Int) - 52 := by omega
  have hq2 : q ≤ 1974 := by omega
  rw [← hq, ← hqi]
  clear hq hqi e1 e2 e3 hlast hp hp2 hl h h0
  obtain ⟨r1, r2, r3, r4, r5⟩ := rung_nums b1 b2 hq2
  rw [r3, read_word s _ r4 r5, r1, r2]
  have e6 : 4503599627370496 + (K - 4503599627370496) = K := Nat.add_sub_cancel' b1
  rw [e6, Nat.add_sub_cancel]
theorem read_fl0 {s : Bool} {p : Int} : double.read (fl s 0 p) = .number s 0 (-1074) := by
  have : fl s 0 p = double.word s 0 := by unfold fl Format.nearest; simp
  rw [this, read_zero]
theorem write_number (s : Bool) (m : Nat) (e : Int) : double.write (.number s m e) = fl s m e := rfl
/-- A product. -/
theorem mul_fl {s t : Bool} {N M : Nat} {p q : Int} (hN : N < 2 ^ 53) (hM : M < 2 ^ 53) (hp : -900 ≤ p ∧ p ≤ 900) (hq : -900 ≤ q ∧ q ≤ 900) : double.mul (fl s N p) (fl t M q) = some (fl (s ^^ t) (N * M) (p + q)) := by
  unfold Format.mul
  by_cases h0 : N = 0
  · subst h0
    rw [read_fl0]
    by_cases h1 : M = 0
    · subst h1
      rw [read_fl0]
      simp only [Datum.product, Option.map_some, write_number, Nat.zero_mul]
      exact congrArg some (fl_zero _ _ _)
    · rw [read_fl h1 hM hq.1 hq.2]
      simp only [Datum.product, Option.map_some, write_number, Nat.zero_mul]
      exact congrArg some (fl_zero _ _ _)
  · rw [read_fl h0 hN hp.1 hp.2]
    by_cases h1 : M = 0
    · subst h1
      rw [read_fl0]
      simp only [Datum.product, Option.map_some, write_number, Nat.mul_zero]
      exact congrArg some (fl_zero _ _ _)
    · rw [read_fl h1 hM hq.1 hq.2]
      have l1 := log2_lt hN
      have l2 := log2_lt hM
      simp only [Datum.product, Option.map_some, write_number]
      have e : N * 2 ^ (52 - N.log2) * (M * 2 ^ (52 - M.log2)) = (N * M) * 2 ^ ((52 - N.log2) + (52 - M.log2)) := by rw [Nat.pow_add]; simp only [Nat.mul_assoc, Nat.mul_left_comm]
      rw [e, fl_scale]
      congr 2
      omega
/-- A quotient that comes out exactly. -/
theorem div_fl {s t : Bool} {N M K c : Nat} {p q : Int} (hN : N < 2 ^ 53) (hM0 : M ≠ 0) (hM : M < 2 ^ 53) (hp : -400 ≤ p ∧ p ≤ 400) (hq : -400 ≤ q ∧ q ≤ 400) (hc : c ≤ 2) (hK : N * 2 ^ c = M * K) : double.div (fl s N p) (fl t M q) = some (fl (s ^^ t) K (p - q - c)) := by
  unfold Format.div
  rw [read_fl hM0 hM (by omega) (by omega)]
  have hm2 : M * 2 ^ (52 - M.log2) ≠ 0 := Nat.mul_ne_zero hM0 (Nat.pos_iff_ne_zero.1 (Nat.two_pow_pos _))
  have l2 := log2_lt hM
  by_cases h0 : N = 0
  · subst h0
    have hK0 : K = 0 := by
      rw [Nat.zero_mul] at hK
      rcases Nat.mul_eq_zero.1 hK.symm with h | h
      · exact absurd h hM0
      · exact h
    subst hK0
    rw [read_fl0]
    simp only [Datum.quotient, if_neg hm2, Option.map_some, write_number, Nat.zero_shiftLeft, Nat.zero_div, Nat.zero_mod]
    exact congrArg some (fl_zero _ _ _)
  · rw [read_fl h0 hN (by omega) (by omega)]
    have l1 := log2_lt hN
    simp only [Datum.quotient, if_neg hm2, Option.map_some, write_number, fb]
    have g1 : (N * 2 ^ (52 - N.log2)).log2 = 52 := by rw [log2_mul h0]; omega
    have g2 : (M * 2 ^ (52 - M.log2)).log2 = 52 := by rw [log2_mul hM0]; omega
    rw [g1, g2, show 52 + 2 + 52 - 52 = 54 from rfl, Nat.shiftLeft_eq]
    have e : N * 2 ^ (52 - N.log2) * 2 ^ 54 = (K * 2 ^ ((52 - N.log2) + 54 - c - (52 - M.log2))) * (M * 2 ^ (52 - M.log2)) := by
      have e1 : N * 2 ^ (52 - N.log2) * 2 ^ 54 = (N * 2 ^ c) * 2 ^ ((52 - N.log2) + 54 - c) := by
        rw [Nat.mul_assoc, Nat.mul_assoc, ← Nat.pow_add, ← Nat.pow_add]
        congr 2
        omega
      rw [e1, hK]
      have e2 : 2 ^ ((52 - N.log2) + 54 - c) = 2 ^ ((52 - N.log2) + 54 - c - (52 - M.log2)) * 2 ^ (52 - M.log2) := by rw [← Nat.pow_add]; congr 1; omega
      rw [e2]
      simp only [Nat.mul_assoc, Nat.mul_left_comm, Nat.mul_comm]
    rw [e, Nat.mul_div_cancel _ (Nat.pos_of_ne_zero hm2), Nat.mul_mod_left]
    have e3 : 2 * (K * 2 ^ ((52 - N.log2) + 54 - c - (52 - M.log2))) + ((0 : Nat) != 0).toNat = K * 2 ^ ((52 - N.log2) + 54 - c - (52 - M.log2) + 1) := by
      rw [Nat.pow_succ]
      simp only [bne_self_eq_false, Bool.toNat_false, Nat.add_zero]
      simp only [Nat.mul_assoc, Nat.mul_left_comm, Nat.mul_comm]
    rw [e3, fl_scale]
    congr 2
    omega
theorem signed_false (m k : Nat) : signed false m k = ((m * 2 ^ k : Nat) : Int) := by unfold signed; rw [if_neg (by simp), Nat.shiftLeft_eq]
theorem signed_true (m k : Nat) : signed true m k = -((m * 2 ^ k : Nat) : Int) := by unfold signed; rw [if_pos rfl, Nat.shiftLeft_eq]
theorem signed_add (s : Bool) (a b k l : Nat) : (signed s a k + signed s b l).natAbs = a * 2 ^ k + b * 2 ^ l ∧ ((signed s a k + signed s b l = 0) ↔ a * 2 ^ k + b * 2 ^ l = 0) ∧ (¬ a * 2 ^ k + b * 2 ^ l = 0 → decide (signed s a k + signed s b l < 0) = s) := by
  generalize hx : a * 2 ^ k = x
  generalize hy : b * 2 ^ l = y
  cases s
  · rw [signed_false, signed_false, hx, hy]
    refine ⟨by omega, by omega, fun h => decide_eq_false (by omega)⟩
  · rw [signed_true, signed_true, hx, hy]
    refine ⟨by omega, by omega, fun h => decide_eq_true (by omega)⟩
/-- A sum of two numbers of one sign, the second one's place no lower. -/
theorem sum_raw {s : Bool} {m n : Nat} {i j : Int} : Option.map double.write ((Datum.number s m i).sum (Datum.number s n j)) = some (fl (if m = 0 ∧ n = 0 then s else s) (m * 2 ^ (i - min i j).toNat + n * 2 ^ (j - min i j).toNat) (min i j)) := by
  simp only [Datum.sum, Option.map_some, write_number]
  obtain ⟨h1, h2, h3⟩ := signed_add s m n (i - min i j).toNat (j - min i j).toNat
  rw [h1, ite_self]
  by_cases h0 : m * 2 ^ (i - min i j).toNat + n * 2 ^ (j - min i j).toNat = 0
  · rw [if_pos (h2.2 h0), Bool.and_self]
  · rw [if_neg (fun h => h0 (h2.1 h)), h3 h0]
theorem add_fl {s : Bool} {N M d : Nat} {p : Int} (hN : N < 2 ^ 53) (hM : M < 2 ^ 53) (hp : -400 ≤ p ∧ p ≤ 400) (hd : d ≤ 400) : double.add (fl s N p) (fl s M (p + d)) = some (fl s (N + M * 2 ^ d) p) := by
  unfold Format.add
  by_cases h0 : N = 0
  · subst h0
    rw [read_fl0]
    by_cases h1 : M = 0
    · subst h1
      rw [read_fl0, sum_raw, ite_self]
      simp only [Nat.zero_mul, Nat.add_zero]
      exact congrArg some (fl_zero _ _ _)
    · rw [read_fl h1 hM (by omega) (by omega), sum_raw, ite_self]
      have l2 := log2_lt hM
      have hmin : min (-1074) (p + (d : Int) + (M.log2 : Int) - 52) = -1074 := by omega
      rw [hmin, Nat.zero_mul, Nat.zero_add, Nat.zero_add, Nat.mul_assoc, ← Nat.pow_add, fl_scale, fl_scale]
      congr 2
      omega
  · rw [read_fl h0 hN (by omega) (by omega)]
    have l1 := log2_lt hN
    by_cases h1 : M = 0
    · subst h1
      rw [read_fl0, sum_raw, ite_self]
      have hmin : min (p + (N.log2 : Int) - 52) (-1074) = -1074 := by omega
      rw [hmin, Nat.zero_mul, Nat.add_zero, Nat.zero_mul, Nat.add_zero, Nat.mul_assoc, ← Nat.pow_add, fl_scale]
      congr 2
      omega
    · rw [read_fl h1 hM (by omega) (by omega), sum_raw, ite_self]
      have l2 := log2_lt hM
      obtain ⟨b, hb⟩ : ∃ b, b = min (p + (N.log2 : Int) - 52) (p + (d : Int) + (M.log2 : Int) - 52) := ⟨_, rfl⟩
      rw [← hb, Nat.mul_assoc, ← Nat.pow_add, Nat.mul_assoc, ← Nat.pow_add]
      have hbp : b ≤ p := by omega
      have e1 : 52 - N.log2 + (p + (N.log2 : Int) - 52 - b).toNat = (p - b).toNat := by omega
      have e2 : 52 - M.log2 + (p + (d : Int) + (M.log2 : Int) - 52 - b).toNat = d + (p - b).toNat := by omega
      rw [e1, e2, Nat.pow_add, ← Nat.mul_assoc, ← Nat.add_mul, fl_scale]
      congr 2
      omega
/-- A difference of numbers of different signs. -/
theorem sub_fl {s : Bool} {N M d : Nat} {p : Int} (hN : N < 2 ^ 53) (hM : M < 2 ^ 53) (hp : -400 ≤ p ∧ p ≤ 400) (hd : d ≤ 400) : double.sub (fl s N p) (fl (!s) M (p + d)) = some (fl s (N + M * 2 ^ d) p) := by
  have := add_fl (s := s) hN hM hp hd
  unfold Format.add at this
  unfold Format.sub
  rw [← this]
  congr 3
  by_cases h1 : M = 0
  · subst h1; rw [read_fl0, read_fl0]; simp [Datum.opposite]
  · rw [read_fl h1 hM (by omega) (by omega), read_fl h1 hM (by omega) (by omega)]; simp [Datum.opposite]
/-- Equal words of numbers are equal numbers. -/
theorem order_self {s : Bool} {N : Nat} {p : Int} (hN : N < 2 ^ 53) (hp : -900 ≤ p ∧ p ≤ 900) : double.order (fl s N p) (fl s N p) = some .eq := by
  unfold Format.order
  by_cases h0 : N = 0
  · subst h0; rw [read_fl0]; simp [Datum.order]
  · rw [read_fl h0 hN hp.1 hp.2]; simp [Datum.order]
theorem order_zero {s t : Bool} {p q : Int} : double.order (fl s 0 p) (fl t 0 q) = some .eq := by
  unfold Format.order
  rw [read_fl0, read_fl0]
  cases s <;> cases t <;> simp [Datum.order, signed_false, signed_true]
theorem cmp_lt {a b : Int} (h : a < b) : compare a b = .lt := by show compareOfLessAndEq a b = _; unfold compareOfLessAndEq; rw [if_pos h]
theorem cmp_gt {a b : Int} (h : b < a) : compare a b = .gt := by show compareOfLessAndEq a b = _; unfold compareOfLessAndEq; rw [if_neg (by omega), if_neg (by omega)]
theorem order_sign {s : Bool} {N : Nat} {p q : Int} (hN : N < 2 ^ 53) (hN0 : N ≠ 0) (hp : -900 ≤ p ∧ p ≤ 900) : double.order (fl s N p) (fl false 0 q) = some (if s then .lt else .gt) ∧ double.order (fl false 0 q) (fl s N p) = some (if s then .gt else .lt) := by
  unfold Format.order
  rw [read_fl hN0 hN hp.1 hp.2, read_fl0]
  have hpos : ∀ k l : Nat, 0 < N * 2 ^ k * 2 ^ l := fun k l => Nat.mul_pos (Nat.mul_pos (Nat.pos_of_ne_zero hN0) (Nat.two_pow_pos _)) (Nat.two_pow_pos _)
  constructor
  · simp only [Datum.order]
    congr 1
    have hz : ∀ k, signed false 0 k = 0 := fun k => by simp [signed_false]
    rw [hz]
    cases s
    · rw [signed_false]
      have := hpos (52 - N.log2) (p + (N.log2 : Int) - 52 - min (p + (N.log2 : Int) - 52) (-1074)).toNat
      exact cmp_gt (by omega)
    · rw [signed_true]
      have := hpos (52 - N.log2) (p + (N.log2 : Int) - 52 - min (p + (N.log2 : Int) - 52) (-1074)).toNat
      exact cmp_lt (by omega)
  · simp only [Datum.order]
    congr 1
    have hz : ∀ k, signed false 0 k = 0 := fun k => by simp [signed_false]
    rw [hz]
    cases s
    · rw [signed_false]
      have := hpos (52 - N.log2) (p + (N.log2 : Int) - 52 - min (-1074) (p + (N.log2 : Int) - 52)).toNat
      exact cmp_lt (by omega)
    · rw [signed_true]
      have := hpos (52 - N.log2) (p + (N.log2 : Int) - 52 - min (-1074) (p + (N.log2 : Int) - 52)).toNat
      exact cmp_gt (by omega)
theorem ofInt_fl (n : Int) : floatOfInt .f64 n = fl (decide (n < 0)) n.natAbs 0 := rfl
theorem xor_top {r : Nat} (h : r < 2 ^ 63) : r ^^^ 2 ^ 63 = 2 ^ 63 + r ∧ (2 ^ 63 + r) ^^^ 2 ^ 63 = r := by
  have e : r ^^^ 2 ^ 63 = 2 ^ 63 + r := by
    apply Nat.eq_of_testBit_eq
    intro i
    rw [Nat.testBit_xor, Nat.testBit_two_pow]
    rcases Nat.lt_trichotomy i 63 with hi | hi | hi
    · rw [Nat.testBit_two_pow_add_gt hi, decide_eq_false (by omega), Bool.xor_false]
    · subst hi
      rw [Nat.testBit_two_pow_add_eq, decide_eq_true rfl, Bool.xor_true]
    · rw [decide_eq_false (by omega), Bool.xor_false]
      have h1 : r < 2 ^ i := Nat.lt_of_lt_of_le h (Nat.pow_le_pow_right (by decide) (by omega))
      have h2 : 2 ^ 63 + r < 2 ^ i := by
        have : 2 ^ 64 ≤ 2 ^ i := Nat.pow_le_pow_right (by decide) (by omega)
        omega
      rw [Nat.testBit_lt_two_pow h1, Nat.testBit_lt_two_pow h2]
  refine ⟨e, ?_⟩
  rw [← e, Nat.xor_assoc, Nat.xor_self, Nat.xor_zero]
theorem fl_word (N : Nat) (p : Int) : ∃ R, R < 2 ^ 63 ∧ ∀ s, fl s N p = double.word s R := by
  by_cases h : N = 0
  · exact ⟨0, by decide, fun s => by unfold fl Format.nearest; rw [if_pos h]⟩
  · refine ⟨min (((max (p + N.log2 - double.fractionBits) double.leastPlace) - double.leastPlace).toNat * double.binade + Toward.even.cut false (N <<< (p - (max (p + N.log2 - double.fractionBits) double.leastPlace)).toNat) ((max (p + N.log2 - double.fractionBits) double.leastPlace) - p).toNat) double.infRung, ?_, fun s => ?_⟩
    · refine Nat.lt_of_le_of_lt (Nat.min_le_right _ _) ?_
      rw [inf]
      decide
    · unfold fl Format.nearest
      rw [if_neg h]
      cases s <;> rfl
theorem neg_fl (s : Bool) (N : Nat) (p : Int) : Op.negFloat .f64 (fl s N p) = fl (!s) N p := by
  obtain ⟨R, hR, hw⟩ := fl_word N p
  rw [hw, hw]
  obtain ⟨x1, x2⟩ := xor_top hR
  have e : FloatKind.f64.format.exponentBits + FloatKind.f64.format.fractionBits = 63 := rfl
  unfold Op.negFloat
  rw [e]
  cases s
  · rw [word_false, x1]
    show _ = double.word true R
    rw [word_true]
  · rw [word_true]
    show _ = double.word false R
    rw [word_false]
    exact x2
end Go.Proofs.YtipfnfhglhflgaaDoor.Own
