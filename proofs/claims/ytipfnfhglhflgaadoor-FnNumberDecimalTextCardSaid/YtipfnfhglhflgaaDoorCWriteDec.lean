/- The contracts of the functions AppendDecimal (of a whole number, up to 9 decimals) and WriteDecimal. -/
import Derived.Test.YtipfnfhglhflgaaDoorCFlFn
import Derived.Lib.HexFns
import Derived.Outline
namespace Go.Proofs.YtipfnfhglhflgaaDoor.Own
open Go.RowKit Go.Proofs.YtipfnfhglhflgaaDoorW.PrintWords Go.Proofs.YtipfnfhglhflgaaDoorW.PrintLast
set_option linter.unusedVariables false
set_option linter.unusedSimpArgs false
/-- The digits of a number that is not 0; none of 0. -/
def dz : Nat → Nat → List Int
  | 0, _ => []
  | f + 1, n => if n = 0 then [] else dz f (n / 10) ++ [(48 + ((n % 10 : Nat) : Int) : Int)]
def itoa (a : Int) : List Int := if a = 0 then [48] else if a < 0 then 45 :: dz 20 a.natAbs else dz 20 a.natAbs
theorem dz_len : ∀ f n, (dz f n).length ≤ f
  | 0, _ => by simp [dz]
  | f + 1, n => by
    unfold dz
    split
    · simp
    · have := dz_len f (n / 10); simp; omega
theorem dz_pos (f n : Nat) (h : n ≠ 0) : 1 ≤ (dz (f + 1) n).length := by
  unfold dz
  rw [if_neg h]
  simp
theorem dz20 (n : Nat) (h : n < 10000000000000000000) : (dz 20 n).length ≤ 19 := by
  have key : ∀ f n, n < 10 ^ f → (dz (f + 1) n).length ≤ f := by
    intro f
    induction f with
    | zero =>
      intro n hn
      obtain rfl : n = 0 := by simpa using hn
      simp [dz]
    | succ f ih =>
      intro n hn
      unfold dz
      split
      · simp
      · have := ih (n / 10) (by rw [Nat.pow_succ] at hn; omega)
        simp; omega
  exact key 19 n (by omega)
theorem itoa_len (n : Int) (h0 : n ≠ 0) (hn : -9223372036854775808 ≤ n ∧ n ≤ 9223372036854775807) : 1 ≤ (itoa n).length ∧ (itoa n).length ≤ 20 := by
  unfold itoa
  rw [if_neg h0]
  have h1 := dz20 n.natAbs (by omega)
  have h2 : 1 ≤ (dz 20 n.natAbs).length := dz_pos 19 n.natAbs (by omega)
  split
  · simp; omega
  · omega
/-- A block whose first bytes are known, then come others, then known ones, then the rest of its room. -/
def RawB (w : World) (g cap : Nat) (pre : List Int) (m : Nat) (suf : List Int) : Prop :=
  ∃ mid rest : List Value, w.heap[g]? = some (.cells (nums .u8 pre ++ mid ++ nums .u8 suf ++ rest).toArray 5 (0, 0)) ∧ mid.length = m ∧ (nums .u8 pre ++ mid ++ nums .u8 suf ++ rest).length = cap
theorem nums_len (k : IntKind) (l : List Int) : (nums k l).length = l.length := by simp [nums]
theorem raw_cell {w : World} {g cap m : Nat} {pre suf : List Int} (h : RawB w g cap pre m suf) (j : Nat) (hj : j < pre.length + m) :
    (∃ v, w.cell? ⟨g, j, none⟩ = some v) ∧ w.frozen? ⟨g, j, none⟩ = false := by
  obtain ⟨mid, rest, hb, rfl, hc⟩ := h
  refine ⟨?_, ?_⟩
  · simp only [World.cell?, hb]
    have : j < (nums .u8 pre ++ mid ++ nums .u8 suf ++ rest).length := by simp only [List.length_append, nums_len]; omega
    exact ⟨_, by simp; exact List.getElem?_eq_getElem (by simpa using this)⟩
  · simp [World.frozen?, hb]
theorem raw_back {w : World} {g cap m : Nat} {pre suf : List Int} (h : RawB w g cap pre (m + 1) suf) (x : Int) :
    RawB (w.setCell ⟨g, pre.length + m, none⟩ (.int .u8 x)) g cap pre m (x :: suf) ∧ w.grownBy (w.setCell ⟨g, pre.length + m, none⟩ (.int .u8 x)) (some g) := by
  obtain ⟨mid, rest, hb, hm, hc⟩ := h
  refine ⟨?_, Go.Lib.Hx.grownBy_set (Go.Lib.Hx.grownBy_refl w _) _ rfl _⟩
  obtain ⟨mid', y, rfl⟩ : ∃ a b, mid = a ++ [b] := ⟨mid.dropLast, mid.getLast (by intro e; subst e; simp at hm), (List.dropLast_concat_getLast _).symm⟩
  have hm' : mid'.length = m := by simpa using hm
  have e : (nums .u8 pre ++ (mid' ++ [y]) ++ nums .u8 suf ++ rest).set (pre.length + m) (.int .u8 x) = nums .u8 pre ++ mid' ++ nums .u8 (x :: suf) ++ rest := by
    rw [show nums .u8 pre ++ (mid' ++ [y]) ++ nums .u8 suf ++ rest = (nums .u8 pre ++ mid') ++ (y :: (nums .u8 suf ++ rest)) by simp, List.set_append_right _ _ (by simp [nums_len, hm']), show pre.length + m - (nums .u8 pre ++ mid').length = 0 by simp [nums_len, hm']]
    simp [nums]
  refine ⟨mid', rest, ?_, hm', ?_⟩
  · rw [heap_setCell_same w g _ _ _ _ hb, List.setIfInBounds_toArray, e]
  · rw [← e, List.length_set]; exact hc
theorem raw_sign {w : World} {g cap m : Nat} {pre suf : List Int} (h : RawB w g cap pre (m + 1) suf) (x : Int) :
    RawB (w.setCell ⟨g, pre.length, none⟩ (.int .u8 x)) g cap (pre ++ [x]) m suf ∧ w.grownBy (w.setCell ⟨g, pre.length, none⟩ (.int .u8 x)) (some g) := by
  obtain ⟨mid, rest, hb, hm, hc⟩ := h
  refine ⟨?_, Go.Lib.Hx.grownBy_set (Go.Lib.Hx.grownBy_refl w _) _ rfl _⟩
  obtain ⟨y, mid', rfl⟩ : ∃ a b, mid = a :: b := by cases mid with | nil => simp at hm | cons a b => exact ⟨a, b, rfl⟩
  have hm' : mid'.length = m := by simpa using hm
  have e : (nums .u8 pre ++ (y :: mid') ++ nums .u8 suf ++ rest).set pre.length (.int .u8 x) = nums .u8 (pre ++ [x]) ++ mid' ++ nums .u8 suf ++ rest := by
    rw [show nums .u8 pre ++ (y :: mid') ++ nums .u8 suf ++ rest = nums .u8 pre ++ (y :: (mid' ++ nums .u8 suf ++ rest)) by simp, List.set_append_right _ _ (by simp [nums_len]), show pre.length - (nums .u8 pre).length = 0 by simp [nums_len]]
    simp [nums]
  refine ⟨mid', rest, ?_, hm', ?_⟩
  · rw [heap_setCell_same w g _ _ _ _ hb, List.setIfInBounds_toArray, e]
  · rw [← e, List.length_set]; exact hc
theorem raw_done {w : World} {g cap base : Nat} {pre suf : List Int} (h : RawB w g cap pre 0 suf) (hg : base ≤ g) (hm : cap ≤ 9223372036854775807) :
    Kd.R (Kd.int .u8) 5 w base (fun _ => True) (.slice (some ⟨g, 0, none⟩) (pre ++ suf).length cap) (pre ++ suf) := by
  obtain ⟨mid, rest, hb, hl, hc⟩ := h
  obtain rfl := List.eq_nil_of_length_eq_zero hl
  refine R_block hb hg (by simpa using hc) ?_ hm ?_
  · simp only [List.length_append, nums_len, List.length_nil] at hc ⊢; omega
  · simp [nums]
    rw [← List.append_assoc, List.take_left' (by simp)]
/-- A row of one's own and so many bytes behind it within its room. -/
theorem raw_of_R {w : World} {g cap base : Nat} {n : Nat} {l : List Int} (h : Kd.R (Kd.int .u8) 5 w base (fun _ => True) (.slice (some ⟨g, 0, none⟩) l.length cap) l) (hn : l.length + n ≤ cap) : RawB w g cap l n [] := by
  have h0 := (Kd.own_of_R h).2
  rcases h0 with ⟨e, _⟩ | ⟨g', cap', cur, e, hb, hg, h1, h2, h3, h4⟩
  · cases e
  · cases e
    have h4' : cur.toList.take l.length = nums .u8 l := by simpa [encs, nums] using h4
    have hs : cur.toList.length = cap := by simpa using h3
    refine ⟨(cur.toList.drop l.length).take n, (cur.toList.drop l.length).drop n, ?_, by simp; omega, ?_⟩
    · rw [hg]
      have : nums .u8 l ++ List.take n (List.drop l.length cur.toList) ++ nums .u8 [] ++ List.drop n (List.drop l.length cur.toList) = cur.toList := by
        rw [← h4']
        simp only [nums, List.map_nil, List.append_nil, List.append_assoc]
        rw [List.take_append_drop, List.take_append_drop]
      rw [this]
    · have : nums .u8 l ++ List.take n (List.drop l.length cur.toList) ++ nums .u8 [] ++ List.drop n (List.drop l.length cur.toList) = cur.toList := by
        rw [← h4']
        simp only [nums, List.map_nil, List.append_nil, List.append_assoc]
        rw [List.take_append_drop, List.take_append_drop]
      rw [this]; exact hs
theorem zeros_raw {w1 : World} {v1 : Value} {base : Nat} {l : List Int} {m : Nat} (h : Kd.R (Kd.int .u8) 5 w1 base (fun _ => True) v1 (l ++ List.replicate (m : Int).toNat 0)) (h1 : 1 ≤ m) :
    ∃ g c1, v1 = .slice (some ⟨g, 0, none⟩) (l.length + m) c1 ∧ base ≤ g ∧ c1 ≤ 9223372036854775807 ∧ RawB w1 g c1 l m [] := by
  rcases (Kd.own_of_R h).2 with ⟨_, e1⟩ | ⟨g, cap, cur, e, hb, hg, h1, h2, h3, h4⟩
  · simp at e1; omega
  · have el : (l ++ List.replicate (m : Int).toNat 0).length = l.length + m := by simp
    rw [el] at e h1 h4
    refine ⟨g, cap, e, hb, by simpa [maxLen] using h2, nums .u8 (List.replicate m 0), cur.toList.drop (l.length + m), ?_, by simp [nums], ?_⟩
    · rw [hg]
      have : nums .u8 l ++ nums .u8 (List.replicate m 0) ++ nums .u8 [] ++ List.drop (l.length + m) cur.toList = cur.toList := by
        have h4' : cur.toList.take (l.length + m) = nums .u8 l ++ nums .u8 (List.replicate m 0) := by simpa [encs, nums] using h4
        rw [← h4']
        simp only [nums, List.map_nil, List.append_nil, List.take_append_drop]
      rw [this]
    · have hs : cur.toList.length = cap := by simpa using h3
      simp [nums]; omega
theorem raw_drewN {w : World} {g cap m : Nat} {pre suf : List Int} (h : RawB w g cap pre m suf) (k : Nat) : RawB (w.drewN k) g cap pre m suf := h
theorem raw_lt {w : World} {g cap m : Nat} {pre suf : List Int} (h : RawB w g cap pre m suf) : g < w.heap.size := by
  obtain ⟨_, _, hb, _⟩ := h
  exact (Array.getElem?_eq_some_iff.1 hb).1
def LoopR (g c1 : Nat) (pre D : List Int) (base : Nat) (w : World) (v1 v5 : Value) (wr : World) : Prop :=
  ∃ (f N m : Nat) (suf : List Int), N < 10 ^ f ∧ N < 9223372036854775808 ∧ v1 = .int .i64 (N : Int) ∧ v5 = .int .i64 ((pre.length : Int) + (m : Int) - 1) ∧ (dz f N).length = m ∧ dz f N ++ suf = D ∧ Aside0 (RawB wr g c1 pre m suf) ∧ Aside0 (Below base w wr)
theorem start_pos {w w1 : World} {g c1 m N base : Nat} {l : List Int} (h : RawB w1 g c1 l m []) (hm : (dz 20 N).length = m) (hN : N < 9223372036854775808) (hb : Below base w w1) :
    LoopR g c1 l (dz 20 N) base w (.int .i64 (N : Int)) (.int .i64 ((l.length : Int) + ((m : Int) - 1))) w1 :=
  ⟨20, N, m, [], by omega, hN, rfl, by congr 1; omega, hm, by simp, ⟨h⟩, ⟨hb⟩⟩
theorem start_neg {w w1 : World} {g c1 m N base : Nat} {l : List Int} (h : RawB w1 g c1 l m []) (hm : (dz 20 N).length + 1 = m) (hN : N < 9223372036854775808) (hb : Below base w w1) (hg : base ≤ g) :
    LoopR g c1 (l ++ [45]) (dz 20 N) base w (.int .i64 (N : Int)) (.int .i64 ((l.length : Int) + ((m : Int) - 1))) (w1.setCell ⟨g, l.length, none⟩ (.int .u8 45)) := by
  subst hm
  obtain ⟨h1, h2⟩ := raw_sign h 45
  exact ⟨20, N, (dz 20 N).length, [], by omega, hN, rfl, by congr 1; simp; omega, rfl, by simp, ⟨h1⟩, ⟨hb.grown h2 (by have := raw_lt h; omega) (fun k hk => by obtain rfl := Option.some.inj hk; exact hg)⟩⟩
theorem round_step {w wr : World} {g c1 m N base f : Nat} {pre suf D : List Int} (hN : N < 10 ^ (f + 1)) (hN2 : N < 9223372036854775808) (hz : N ≠ 0) (hm2 : (dz f (N / 10)).length = m) (hD : dz (f + 1) N ++ suf = D) (h : RawB wr g c1 pre (m + 1) suf) (hb : Below base w wr) (hg : base ≤ g) :
    LoopR g c1 pre D base w (.int .i64 ((N : Int) / 10)) (.int .i64 ((pre.length : Int) + (m : Int) - 1)) (wr.setCell ⟨g, pre.length + m, none⟩ (.int .u8 ((N : Int) % 10 + 48))) := by
  rw [show (N : Int) % 10 + 48 = 48 + ((N % 10 : Nat) : Int) by omega]
  obtain ⟨h1, h2⟩ := raw_back h (48 + ((N % 10 : Nat) : Int))
  refine ⟨f, N / 10, m, _, by rw [Nat.pow_succ] at hN; omega, by omega, by congr 1, rfl, hm2, ?_, ⟨h1⟩, ⟨hb.grown h2 (by have := raw_lt h; omega) (fun k hk => by obtain rfl := Option.some.inj hk; exact hg)⟩⟩
  rw [← hD, dz, if_neg hz]
  simp
theorem dz_zero : ∀ f, dz f 0 = []
  | 0 => rfl
  | f + 1 => by simp [dz]
theorem dr_trans {a b c : World} (h : Drawn0 a b) (h2 : Drawn0 b c) : Drawn0 a c := by obtain ⟨⟨m, rfl⟩⟩ := h2; exact h.step m
theorem R_dr {w w' : World} {base : Nat} {v : Value} {l : List Int} (hv : Kd.R (Kd.int .u8) 5 w base (fun _ => True) v l) (h : Drawn0 w w') : Kd.R (Kd.int .u8) 5 w' base (fun _ => True) v l := by obtain ⟨⟨m, rfl⟩⟩ := h; exact Kd.R_drewN hv m
theorem raw_dr {w w' : World} {g cap m : Nat} {pre suf : List Int} (h : RawB w g cap pre m suf) (hd : Drawn0 w w') : RawB w' g cap pre m suf := by obtain ⟨⟨k, rfl⟩⟩ := hd; exact raw_drewN h k
theorem below_dr {w w' : World} (base : Nat) (h : Drawn0 w w') : Below base w w' := by obtain ⟨⟨m, rfl⟩⟩ := h; exact pw_below_drewN (Below.refl base w) m
theorem strip_nums {n m : Int} (h : m = n * 10) (hm : -9223372036854775808 ≤ m ∧ m ≤ 9223372036854775807) : Int.tmod m 10 = 0 ∧ Int.tdiv m 10 = n ∧ wrap64 n = n ∧ IntKind.i64.wrap n = n ∧ m % 10 = 0 := by
  have e : wrap64 n = n := by unfold wrap64; omega
  have e2 : IntKind.i64.wrap n = n := by rw [IntKind.wrap_i64]; omega
  refine ⟨?_, ?_, e, e2, by omega⟩
  · rw [h, Int.mul_tmod_left]
  · rw [h, Int.mul_tdiv_cancel _ (by decide)]
theorem dec_b {k : Nat} : decide ((0 : Int) < ((k + 1 : Nat) : Int)) = true ∧ ((k + 1 : Nat) : Int) - 1 = (k : Int) ∧ (0 : Int) < ((k + 1 : Nat) : Int) := ⟨decide_eq_true (by omega), by omega, by omega⟩
theorem pow_bd {n : Int} (hn : -999999999 ≤ n ∧ n ≤ 999999999) {k : Nat} (hk : k ≤ 9) : -9223372036854775808 ≤ n * (10 : Int) ^ k ∧ n * (10 : Int) ^ k ≤ 9223372036854775807 := by
  have h : (1 : Int) ≤ 10 ^ k ∧ (10 : Int) ^ k ≤ 1000000000 := by
    obtain rfl | rfl | rfl | rfl | rfl | rfl | rfl | rfl | rfl | rfl : k = 0 ∨ k = 1 ∨ k = 2 ∨ k = 3 ∨ k = 4 ∨ k = 5 ∨ k = 6 ∨ k = 7 ∨ k = 8 ∨ k = 9 := by omega
    all_goals decide
  generalize (10 : Int) ^ k = p at h
  have a1 : n * p ≤ 999999999 * p := Int.mul_le_mul_of_nonneg_right hn.2 (by omega)
  have a2 : -999999999 * p ≤ n * p := Int.mul_le_mul_of_nonneg_right hn.1 (by omega)
  omega
set_option maxRecDepth 20000 in
set_option maxHeartbeats 4000000 in
theorem appenddec_calls (v : Value) (l : List Int) (x : Nat) (d : Nat) (n V : Int) (P f1 f2 : Nat) (base : Nat) (w : World) (hv : Kd.R (Kd.int .u8) 5 w base (fun _ => True) v l) (hbase : base ≤ w.heap.size) (hl : l.length + 20 ≤ 140737488355328) (hn : -999999999 ≤ n ∧ n ≤ 999999999) (hd : d ≤ 9)
    (hlen : n ≠ 0 → tdstrconv_LenInt.f n = some ((itoa n).length : Int)) (hV : V = n * 10 ^ d) (hr : TabR w) (ht : TabT w) (hx : x < 18446744073709551616) (hnan : (FloatKind.f64.format.order x x != some .eq) = false) (hinf : (FloatKind.f64.format.order (x % 9223372036854775808) 9218868437227405311 == some .gt) = false)
    (hP : Ieee.double.mul (p32 0) (p10 d) = some P) (hf1 : Ieee.double.mul x P = some f1) (hle : (FloatKind.f64.format.order 0 f1 == some .lt || FloatKind.f64.format.order 0 f1 == some .eq) = decide (0 ≤ n)) (hf2 : (if 0 ≤ n then Ieee.double.add f1 4602678819172646912 else Ieee.double.sub f1 4602678819172646912) = some f2) (hcv : floatToIntVal .f64 f2 .i64 = some V) :
    Calls Tryd.prog 17 #[v, .float .f64 x, .int .i64 (d : Int)] w fun e w' => ∃ v0_, e = .returned v0_ ∧ Kd.R (Kd.int .u8) 5 w' base (fun _ => True) v0_ (l ++ itoa n) ∧ Below base w w' := by
  obtain ⟨A, cp, rfl, hA⟩ : ∃ A cp, v = .slice A l.length cp ∧ (l.length ≤ cp ∧ cp ≤ 9223372036854775807 ∧ (A = none → cp = 0) ∧ ∀ ad, A = some ad → ∃ g, ad = ⟨g, 0, none⟩ ∧ base ≤ g) := by
    rcases (Kd.own_of_R hv).2 with ⟨e, e1⟩ | ⟨g, cap, cur, e, hb, hg, h1, h2, h3, h4⟩
    · exact ⟨none, 0, by rw [e, e1], by omega, by omega, fun _ => rfl, fun _ h => by cases h⟩
    · exact ⟨some ⟨g, 0, none⟩, cap, e, h1, by simpa [maxLen] using h2, fun h => (by cases h), fun ad h => by cases h; exact ⟨g, rfl, hb⟩⟩
  have HV := Aside0.mk hv
  have HL := Aside0.mk hlen
  have HA := Aside0.mk hA
  have HNAN := Aside0.mk (fun W => isnan_calls x W hnan)
  have HINF := Aside0.mk (fun W => isinf_calls x W hx hinf)
  have HPOW := Aside0.mk (fun W (h : Drawn0 w W) => pow10_calls d P W (by omega) (hr.below h.below) (ht.below h.below) hP)
  have d1 : decide ((d : Int) < 0) = false := decide_eq_false (by omega)
  have d2 : decide ((17 : Int) < (d : Int)) = false := decide_eq_false (by omega)
  have d3 : ¬ ((d : Int) < 0) := by omega
  have d4 : ¬ ((17 : Int) < (d : Int)) := by omega
  have d5 : ¬ (17 < d) := by omega
  have hm1 : ∀ W : World, (binOp .mul 26 (.float .f64 x) (.float .f64 P)).run Tryd.prog W = .ok (.float .f64 f1) W := fun W => run_float_arith W .mul 26 .f64 _ _ _ hf1
  have hc1 : ∀ W : World, (convert 26 2 (.float .f64 f2)).run Tryd.prog W = .ok (.int .i64 V) W := fun W => run_convert_float_int W 26 2 .f64 .i64 f2 V (by kernel_rfl) (by kernel_rfl) hcv
  clear hv hlen hA hnan hinf hr ht hP hf1 hcv hx
  by_cases h0 : n = 0
  · subst h0
    rw [Int.zero_mul] at hV
    subst hV
    rw [if_pos (by decide)] at hf2
    rw [decide_eq_true (by decide)] at hle
    have hs1 : ∀ W : World, (binOp .add 26 (.float .f64 f1) (.float .f64 4602678819172646912)).run Tryd.prog W = .ok (.float .f64 f2) W := fun W => run_float_arith W .add 26 .f64 _ _ _ hf2
    clear hf2
    go_enter Tryd.func17, Tryd.ntmps17
    go_wp2_with (first | (go_at_call 25; (with_reducible refine (HNAN.out _).mono ?_); rintro e_ w1 ⟨rfl, hd1_⟩; have HD1 := Aside0.mk hd1_; clear hd1_) | (go_at_call 24; (with_reducible refine (HINF.out _).mono ?_); rintro e_ w2 ⟨rfl, hd2_⟩; have HD2 := Aside0.mk (dr_trans HD1.out hd2_); clear hd2_) | (go_at_call 22; (with_reducible refine (HPOW.out _ HD2.out).mono ?_); rintro e_ w3 ⟨rfl, hd3_⟩; have HD3 := Aside0.mk (dr_trans HD2.out hd3_); clear hd3_) | (at_builtin; refine Kd.R_append (Kd.int .u8) (w0 := w) base rfl (.tmp 38) (.tmp 39) 22 5 (.int .u8 0) 1 rfl Tryd.underlying22 info5 rfl (by decide) (by omega) (.slice A l.length cp) l 48 [.int .u8 48] (fun _ => True) (fun _ => False) rfl rfl rfl (fun _ hk => hk.elim) (fun _ _ => trivial) (R_dr HV.out HD3.out) (below_dr base HD3.out) (Nat.le_trans hbase (below_dr base HD3.out).size) (by omega) ?_; intro v1 w4 ho hb hg hat; have HO := Aside0.mk ho; have HB := Aside0.mk hb; clear ho hb hg hat))
    go_ret
    exact ⟨_, rfl, HO.out, HB.out⟩
  · obtain ⟨m, hm⟩ : ∃ m, (itoa n).length = m := ⟨_, rfl⟩
    have HL := Aside0.mk (HL.out h0)
    rw [hm] at HL
    have hm20 : 1 ≤ m ∧ m ≤ 20 := by rw [← hm]; exact itoa_len n h0 (by omega)
    by_cases h2 : n < 0
    · have hnb : (n < 0) := h2
      rw [if_neg (by omega)] at hf2
      rw [decide_eq_false (by omega)] at hle
      have hs1 : ∀ W : World, (binOp .sub 26 (.float .f64 f1) (.float .f64 4602678819172646912)).run Tryd.prog W = .ok (.float .f64 f2) W := fun W => run_float_arith W .sub 26 .f64 _ _ _ hf2
      have hV0 : (V == 0) = false := beq_false_of_ne (by rw [hV]; exact Int.mul_ne_zero h0 (Int.ne_of_gt (Int.pow_pos (by decide))))
      have hV1 : ¬ (V = 0) := by simpa using hV0
      have HN := Aside0.mk hn
      have HB9 := Aside0.mk hl
      clear hf2
      go_enter Tryd.func17, Tryd.ntmps17
      go_wp2_with (first | (go_at_call 25; (with_reducible refine (HNAN.out _).mono ?_); rintro e_ w1 ⟨rfl, hd1_⟩; have HD1 := Aside0.mk hd1_; clear hd1_) | (go_at_call 24; (with_reducible refine (HINF.out _).mono ?_); rintro e_ w2 ⟨rfl, hd2_⟩; have HD2 := Aside0.mk (dr_trans HD1.out hd2_); clear hd2_) | (go_at_call 22; (with_reducible refine (HPOW.out _ HD2.out).mono ?_); rintro e_ w3 ⟨rfl, hd3_⟩; have HD3 := Aside0.mk (dr_trans HD2.out hd3_); clear hd3_))
      go_loopw [2, 7] (fun v2 v7 wr => ∃ k : Nat, k ≤ d ∧ v2 = .int .i64 (k : Int) ∧ v7 = .int .i64 (n * 10 ^ k) ∧ w3 = wr) (fun v2 _ _ => (intOf v2).toNat)
      case atStart => exact ⟨d, Nat.le_refl _, rfl, congrArg (Value.int .i64) (by first | exact hV | rfl), by trivial⟩
      case round =>
        obtain ⟨k, hk, rfl, rfl, rfl⟩ := hrel
        cases k with
        | succ k =>
          obtain ⟨M, hM⟩ : ∃ M, M = n * (10 : Int) ^ (k + 1) := ⟨_, rfl⟩
          obtain ⟨M', hM'⟩ : ∃ M', M' = n * (10 : Int) ^ k := ⟨_, rfl⟩
          have hMM : M = M' * 10 := by rw [hM, hM', Int.pow_succ, Int.mul_assoc]
          have hbd : -9223372036854775808 ≤ M ∧ M ≤ 9223372036854775807 := by rw [hM]; exact pow_bd HN.out (by omega)
          obtain ⟨m1, m2, m3, m4, m5⟩ := strip_nums hMM hbd
          rw [← hM]
          have HM := Aside0.mk hM'
          have HK := Aside0.mk (show k ≤ d by omega)
          obtain ⟨q1, q2, q3⟩ := @dec_b k
          clear hM hM' hMM hbd
          go_wp2
          go_roundw
          case rel => exact ⟨k, HK.out, rfl, congrArg (Value.int .i64) HM.out, by trivial⟩
          case measure => first | (simp [intOf]; done) | (simp [intOf]; omega)
        | zero =>
          rw [show n * (10 : Int) ^ 0 = n by simp]
          have hl := HB9.out
          have hn := HN.out
          by_cases hc : (cp : Int) < (l.length : Int) + (m : Int)
          · skip
            have hm' : (dz 20 n.natAbs).length + 1 = m := by rw [← hm]; unfold itoa; rw [if_neg h0, if_pos h2]; rfl
            go_wp2_with (first | (go_at_call 26; (with_reducible refine (tdstrconv_LenInt.calls n _ _ HL.out).mono ?_); rintro e_ w4 ⟨rfl, hd4_⟩; have HD4 := Aside0.mk (dr_trans HD3.out hd4_); clear hd4_) | (at_builtin; refine Kd.R_append_zeros (Kd.int .u8) (w0 := w) base rfl (.tmp 92) (.tmp 93) 22 3 5 (.int .u8 0) 1 rfl Tryd.underlying22 Tryd.underlying3 info5 rfl (by decide) (by omega) (.slice A l.length cp) l (0 : Int) (m : Int) (fun _ => True) rfl rfl rfl (fun _ _ => trivial) (R_dr HV.out HD4.out) (by omega) (below_dr base HD4.out) (Nat.le_trans hbase (below_dr base HD4.out).size) (by simp; omega) ?_; intro vb w5 ho hb hg hat; obtain ⟨g, c1, rfl, hg1, hc1, hraw⟩ := zeros_raw ho hm20.1; obtain ⟨⟨cv, hcv⟩, hfv⟩ := raw_cell hraw l.length (by omega); have HRW := Aside0.mk hraw; have HB := Aside0.mk hb; clear ho hb hg hat hraw))
            have HS := Aside0.mk (start_neg HRW.out hm' (by omega) HB.out hg1)
            obtain ⟨pre, hpre⟩ : ∃ p, p = l ++ [45] := ⟨_, rfl⟩
            rw [← hpre] at HS
            have HF := Aside0.mk (show l ++ itoa n = pre ++ dz 20 n.natAbs by rw [hpre]; unfold itoa; rw [if_neg h0, if_pos h2]; simp)
            have HFL := Aside0.mk (show l.length + m = (pre ++ dz 20 n.natAbs).length by rw [← HF.out, List.length_append, hm])
            clear hpre
            go_loopw [7, 8] (fun v1 v5 wr => LoopR g c1 pre (dz 20 n.natAbs) base w v1 v5 wr) (fun v1 _ _ => (intOf v1).toNat)
            case atStart => rw [show -n = ((n.natAbs : Nat) : Int) by omega]; exact HS.out
            case round =>
              obtain ⟨f, N, m', suf, hN, hN2, rfl, rfl, hlen, hD, HRX, HBX⟩ := hrel
              by_cases hz : N = 0
              · subst hz
                rw [dz_zero] at hlen hD
                obtain rfl : m' = 0 := by simpa using hlen.symm
                obtain rfl : suf = dz 20 n.natAbs := by simpa using hD
                go_wp2
                go_ret
                refine ⟨_, rfl, ?_, HBX.out⟩
                rw [HF.out, HFL.out]
                exact raw_done HRX.out hg1 hc1
              · obtain ⟨f', rfl⟩ : ∃ f', f = f' + 1 := by
                  cases f with
                  | zero => exact absurd hN (by omega)
                  | succ f' => exact ⟨f', rfl⟩
                have hd : dz (f' + 1) N = dz f' (N / 10) ++ [(48 + ((N % 10 : Nat) : Int) : Int)] := by rw [dz, if_neg hz]
                obtain ⟨m'', hm2⟩ : ∃ k, (dz f' (N / 10)).length = k := ⟨_, rfl⟩
                obtain rfl : m' = m'' + 1 := by rw [← hlen, hd]; simp [hm2]
                obtain ⟨⟨cw, hcw⟩, hfw⟩ := raw_cell HRX.out (pre.length + m'') (by omega)
                rw [show ((pre.length : Int) + ((m'' + 1 : Nat) : Int) - 1) = ((pre.length + m'' : Nat) : Int) by omega]
                have hjl : pre.length + m'' < l.length + m := by
                  have h1 := HFL.out
                  rw [List.length_append, ← hD, List.length_append, hlen] at h1
                  omega
                have HST := Aside0.mk (round_step (w := w) hN hN2 hz hm2 hD HRX.out HBX.out hg1)
                go_wp2
                go_roundw
                case rel => exact HST.out
                case measure => simp [intOf]; omega
          · skip
            have hm' : (dz 20 n.natAbs).length + 1 = m := by rw [← hm]; unfold itoa; rw [if_neg h0, if_pos h2]; rfl
            obtain ⟨g, rfl, hg1⟩ : ∃ g, A = some ⟨g, 0, none⟩ ∧ base ≤ g := by
              cases A with
              | none => have := HA.out.2.2.1 rfl; omega
              | some ad => obtain ⟨g, rfl, h⟩ := HA.out.2.2.2 ad rfl; exact ⟨g, rfl, h⟩
            have hc1 := HA.out.2.1
            have hraw := raw_of_R HV.out (n := m) (by omega)
            have HRW := Aside0.mk hraw
            clear hraw
            go_wp2_with (go_at_call 26; (with_reducible refine (tdstrconv_LenInt.calls n _ _ HL.out).mono ?_); rintro e_ w4 ⟨rfl, hd4_⟩; have HD4 := Aside0.mk (dr_trans HD3.out hd4_); clear hd4_; obtain ⟨⟨cv, hcv⟩, hfv⟩ := raw_cell (raw_dr HRW.out HD4.out) l.length (by omega))
            have HS := Aside0.mk (start_neg (raw_dr HRW.out HD4.out) hm' (by omega) (below_dr base HD4.out) hg1)
            obtain ⟨pre, hpre⟩ : ∃ p, p = l ++ [45] := ⟨_, rfl⟩
            rw [← hpre] at HS
            have HF := Aside0.mk (show l ++ itoa n = pre ++ dz 20 n.natAbs by rw [hpre]; unfold itoa; rw [if_neg h0, if_pos h2]; simp)
            have HFL := Aside0.mk (show l.length + m = (pre ++ dz 20 n.natAbs).length by rw [← HF.out, List.length_append, hm])
            clear hpre
            go_loopw [7, 8] (fun v1 v5 wr => LoopR g cp pre (dz 20 n.natAbs) base w v1 v5 wr) (fun v1 _ _ => (intOf v1).toNat)
            case atStart => rw [show -n = ((n.natAbs : Nat) : Int) by omega]; exact HS.out
            case round =>
              obtain ⟨f, N, m', suf, hN, hN2, rfl, rfl, hlen, hD, HRX, HBX⟩ := hrel
              by_cases hz : N = 0
              · subst hz
                rw [dz_zero] at hlen hD
                obtain rfl : m' = 0 := by simpa using hlen.symm
                obtain rfl : suf = dz 20 n.natAbs := by simpa using hD
                go_wp2
                go_ret
                refine ⟨_, rfl, ?_, HBX.out⟩
                rw [HF.out, HFL.out]
                exact raw_done HRX.out hg1 hc1
              · obtain ⟨f', rfl⟩ : ∃ f', f = f' + 1 := by
                  cases f with
                  | zero => exact absurd hN (by omega)
                  | succ f' => exact ⟨f', rfl⟩
                have hd : dz (f' + 1) N = dz f' (N / 10) ++ [(48 + ((N % 10 : Nat) : Int) : Int)] := by rw [dz, if_neg hz]
                obtain ⟨m'', hm2⟩ : ∃ k, (dz f' (N / 10)).length = k := ⟨_, rfl⟩
                obtain rfl : m' = m'' + 1 := by rw [← hlen, hd]; simp [hm2]
                obtain ⟨⟨cw, hcw⟩, hfw⟩ := raw_cell HRX.out (pre.length + m'') (by omega)
                rw [show ((pre.length : Int) + ((m'' + 1 : Nat) : Int) - 1) = ((pre.length + m'' : Nat) : Int) by omega]
                have hjl : pre.length + m'' < l.length + m := by
                  have h1 := HFL.out
                  rw [List.length_append, ← hD, List.length_append, hlen] at h1
                  omega
                have HST := Aside0.mk (round_step (w := w) hN hN2 hz hm2 hD HRX.out HBX.out hg1)
                go_wp2
                go_roundw
                case rel => exact HST.out
                case measure => simp [intOf]; omega
    · have hnb : ¬ (n < 0) := h2
      rw [if_pos (by omega)] at hf2
      rw [decide_eq_true (by omega)] at hle
      have hs1 : ∀ W : World, (binOp .add 26 (.float .f64 f1) (.float .f64 4602678819172646912)).run Tryd.prog W = .ok (.float .f64 f2) W := fun W => run_float_arith W .add 26 .f64 _ _ _ hf2
      have hV0 : (V == 0) = false := beq_false_of_ne (by rw [hV]; exact Int.mul_ne_zero h0 (Int.ne_of_gt (Int.pow_pos (by decide))))
      have hV1 : ¬ (V = 0) := by simpa using hV0
      have HN := Aside0.mk hn
      have HB9 := Aside0.mk hl
      clear hf2
      go_enter Tryd.func17, Tryd.ntmps17
      go_wp2_with (first | (go_at_call 25; (with_reducible refine (HNAN.out _).mono ?_); rintro e_ w1 ⟨rfl, hd1_⟩; have HD1 := Aside0.mk hd1_; clear hd1_) | (go_at_call 24; (with_reducible refine (HINF.out _).mono ?_); rintro e_ w2 ⟨rfl, hd2_⟩; have HD2 := Aside0.mk (dr_trans HD1.out hd2_); clear hd2_) | (go_at_call 22; (with_reducible refine (HPOW.out _ HD2.out).mono ?_); rintro e_ w3 ⟨rfl, hd3_⟩; have HD3 := Aside0.mk (dr_trans HD2.out hd3_); clear hd3_))
      go_loopw [2, 7] (fun v2 v7 wr => ∃ k : Nat, k ≤ d ∧ v2 = .int .i64 (k : Int) ∧ v7 = .int .i64 (n * 10 ^ k) ∧ w3 = wr) (fun v2 _ _ => (intOf v2).toNat)
      case atStart => exact ⟨d, Nat.le_refl _, rfl, congrArg (Value.int .i64) (by first | exact hV | rfl), by trivial⟩
      case round =>
        obtain ⟨k, hk, rfl, rfl, rfl⟩ := hrel
        cases k with
        | succ k =>
          obtain ⟨M, hM⟩ : ∃ M, M = n * (10 : Int) ^ (k + 1) := ⟨_, rfl⟩
          obtain ⟨M', hM'⟩ : ∃ M', M' = n * (10 : Int) ^ k := ⟨_, rfl⟩
          have hMM : M = M' * 10 := by rw [hM, hM', Int.pow_succ, Int.mul_assoc]
          have hbd : -9223372036854775808 ≤ M ∧ M ≤ 9223372036854775807 := by rw [hM]; exact pow_bd HN.out (by omega)
          obtain ⟨m1, m2, m3, m4, m5⟩ := strip_nums hMM hbd
          rw [← hM]
          have HM := Aside0.mk hM'
          have HK := Aside0.mk (show k ≤ d by omega)
          obtain ⟨q1, q2, q3⟩ := @dec_b k
          clear hM hM' hMM hbd
          go_wp2
          go_roundw
          case rel => exact ⟨k, HK.out, rfl, congrArg (Value.int .i64) HM.out, by trivial⟩
          case measure => first | (simp [intOf]; done) | (simp [intOf]; omega)
        | zero =>
          rw [show n * (10 : Int) ^ 0 = n by simp]
          have hl := HB9.out
          have hn := HN.out
          by_cases hc : (cp : Int) < (l.length : Int) + (m : Int)
          · skip
            have hm' : (dz 20 n.natAbs).length = m := by rw [← hm]; unfold itoa; rw [if_neg h0, if_neg (by omega)]
            go_wp2_with (first | (go_at_call 26; (with_reducible refine (tdstrconv_LenInt.calls n _ _ HL.out).mono ?_); rintro e_ w4 ⟨rfl, hd4_⟩; have HD4 := Aside0.mk (dr_trans HD3.out hd4_); clear hd4_) | (at_builtin; refine Kd.R_append_zeros (Kd.int .u8) (w0 := w) base rfl (.tmp 92) (.tmp 93) 22 3 5 (.int .u8 0) 1 rfl Tryd.underlying22 Tryd.underlying3 info5 rfl (by decide) (by omega) (.slice A l.length cp) l (0 : Int) (m : Int) (fun _ => True) rfl rfl rfl (fun _ _ => trivial) (R_dr HV.out HD4.out) (by omega) (below_dr base HD4.out) (Nat.le_trans hbase (below_dr base HD4.out).size) (by simp; omega) ?_; intro vb w5 ho hb hg hat; obtain ⟨g, c1, rfl, hg1, hc1, hraw⟩ := zeros_raw ho hm20.1; obtain ⟨⟨cv, hcv⟩, hfv⟩ := raw_cell hraw l.length (by omega); have HRW := Aside0.mk hraw; have HB := Aside0.mk hb; clear ho hb hg hat hraw))
            have HS := Aside0.mk (start_pos HRW.out hm' (by omega) HB.out)
            have hna : ((n.natAbs : Nat) : Int) = n := by omega
            obtain ⟨pre, hpre⟩ : ∃ p, p = l := ⟨_, rfl⟩
            have HPL := Aside0.mk (show (pre.length : Int) = (l.length : Int) by rw [hpre])
            rw [← hpre] at HS
            have HF := Aside0.mk (show l ++ itoa n = pre ++ dz 20 n.natAbs by rw [hpre]; unfold itoa; rw [if_neg h0, if_neg (by omega)])
            have HFL := Aside0.mk (show l.length + m = (pre ++ dz 20 n.natAbs).length by rw [← HF.out, List.length_append, hm])
            clear hpre
            go_loopw [7, 8] (fun v1 v5 wr => LoopR g c1 pre (dz 20 n.natAbs) base w v1 v5 wr) (fun v1 _ _ => (intOf v1).toNat)
            case atStart => have h9 := HS.out; rw [hna, HPL.out] at h9; exact h9
            case round =>
              obtain ⟨f, N, m', suf, hN, hN2, rfl, rfl, hlen, hD, HRX, HBX⟩ := hrel
              by_cases hz : N = 0
              · subst hz
                rw [dz_zero] at hlen hD
                obtain rfl : m' = 0 := by simpa using hlen.symm
                obtain rfl : suf = dz 20 n.natAbs := by simpa using hD
                go_wp2
                go_ret
                refine ⟨_, rfl, ?_, HBX.out⟩
                rw [HF.out, HFL.out]
                exact raw_done HRX.out hg1 hc1
              · obtain ⟨f', rfl⟩ : ∃ f', f = f' + 1 := by
                  cases f with
                  | zero => exact absurd hN (by omega)
                  | succ f' => exact ⟨f', rfl⟩
                have hd : dz (f' + 1) N = dz f' (N / 10) ++ [(48 + ((N % 10 : Nat) : Int) : Int)] := by rw [dz, if_neg hz]
                obtain ⟨m'', hm2⟩ : ∃ k, (dz f' (N / 10)).length = k := ⟨_, rfl⟩
                obtain rfl : m' = m'' + 1 := by rw [← hlen, hd]; simp [hm2]
                obtain ⟨⟨cw, hcw⟩, hfw⟩ := raw_cell HRX.out (pre.length + m'') (by omega)
                rw [show ((pre.length : Int) + ((m'' + 1 : Nat) : Int) - 1) = ((pre.length + m'' : Nat) : Int) by omega]
                have hjl : pre.length + m'' < l.length + m := by
                  have h1 := HFL.out
                  rw [List.length_append, ← hD, List.length_append, hlen] at h1
                  omega
                have HST := Aside0.mk (round_step (w := w) hN hN2 hz hm2 hD HRX.out HBX.out hg1)
                go_wp2
                go_roundw
                case rel => exact HST.out
                case measure => simp [intOf]; omega
          · skip
            have hm' : (dz 20 n.natAbs).length = m := by rw [← hm]; unfold itoa; rw [if_neg h0, if_neg (by omega)]
            obtain ⟨g, rfl, hg1⟩ : ∃ g, A = some ⟨g, 0, none⟩ ∧ base ≤ g := by
              cases A with
              | none => have := HA.out.2.2.1 rfl; omega
              | some ad => obtain ⟨g, rfl, h⟩ := HA.out.2.2.2 ad rfl; exact ⟨g, rfl, h⟩
            have hc1 := HA.out.2.1
            have hraw := raw_of_R HV.out (n := m) (by omega)
            have HRW := Aside0.mk hraw
            clear hraw
            go_wp2_with (go_at_call 26; (with_reducible refine (tdstrconv_LenInt.calls n _ _ HL.out).mono ?_); rintro e_ w4 ⟨rfl, hd4_⟩; have HD4 := Aside0.mk (dr_trans HD3.out hd4_); clear hd4_; obtain ⟨⟨cv, hcv⟩, hfv⟩ := raw_cell (raw_dr HRW.out HD4.out) l.length (by omega))
            have HS := Aside0.mk (start_pos (raw_dr HRW.out HD4.out) hm' (by omega) (below_dr base HD4.out))
            have hna : ((n.natAbs : Nat) : Int) = n := by omega
            obtain ⟨pre, hpre⟩ : ∃ p, p = l := ⟨_, rfl⟩
            have HPL := Aside0.mk (show (pre.length : Int) = (l.length : Int) by rw [hpre])
            rw [← hpre] at HS
            have HF := Aside0.mk (show l ++ itoa n = pre ++ dz 20 n.natAbs by rw [hpre]; unfold itoa; rw [if_neg h0, if_neg (by omega)])
            have HFL := Aside0.mk (show l.length + m = (pre ++ dz 20 n.natAbs).length by rw [← HF.out, List.length_append, hm])
            clear hpre
            go_loopw [7, 8] (fun v1 v5 wr => LoopR g cp pre (dz 20 n.natAbs) base w v1 v5 wr) (fun v1 _ _ => (intOf v1).toNat)
            case atStart => have h9 := HS.out; rw [hna, HPL.out] at h9; exact h9
            case round =>
              obtain ⟨f, N, m', suf, hN, hN2, rfl, rfl, hlen, hD, HRX, HBX⟩ := hrel
              by_cases hz : N = 0
              · subst hz
                rw [dz_zero] at hlen hD
                obtain rfl : m' = 0 := by simpa using hlen.symm
                obtain rfl : suf = dz 20 n.natAbs := by simpa using hD
                go_wp2
                go_ret
                refine ⟨_, rfl, ?_, HBX.out⟩
                rw [HF.out, HFL.out]
                exact raw_done HRX.out hg1 hc1
              · obtain ⟨f', rfl⟩ : ∃ f', f = f' + 1 := by
                  cases f with
                  | zero => exact absurd hN (by omega)
                  | succ f' => exact ⟨f', rfl⟩
                have hd : dz (f' + 1) N = dz f' (N / 10) ++ [(48 + ((N % 10 : Nat) : Int) : Int)] := by rw [dz, if_neg hz]
                obtain ⟨m'', hm2⟩ : ∃ k, (dz f' (N / 10)).length = k := ⟨_, rfl⟩
                obtain rfl : m' = m'' + 1 := by rw [← hlen, hd]; simp [hm2]
                obtain ⟨⟨cw, hcw⟩, hfw⟩ := raw_cell HRX.out (pre.length + m'') (by omega)
                rw [show ((pre.length : Int) + ((m'' + 1 : Nat) : Int) - 1) = ((pre.length + m'' : Nat) : Int) by omega]
                have hjl : pre.length + m'' < l.length + m := by
                  have h1 := HFL.out
                  rw [List.length_append, ← hD, List.length_append, hlen] at h1
                  omega
                have HST := Aside0.mk (round_step (w := w) hN hN2 hz hm2 hD HRX.out HBX.out hg1)
                go_wp2
                go_roundw
                case rel => exact HST.out
                case measure => simp [intOf]; omega
/-- What a number is written with decimals as, where it is whole. -/
def wdP (d : Int) : Nat := flop .mul (p32 0) (p10 d.toNat)
def wdF (x : Nat) (d : Int) : Nat := flop .mul x (wdP d)
def wdLe (x : Nat) (d : Int) : Bool := FloatKind.f64.format.order 0 (wdF x d) == some .lt || FloatKind.f64.format.order 0 (wdF x d) == some .eq
def wdG (x : Nat) (d : Int) : Nat := if wdLe x d = true then flop .add (wdF x d) 4602678819172646912 else flop .sub (wdF x d) 4602678819172646912
def wdV (x : Nat) (d : Int) : Int := (floatToIntVal .f64 (wdG x d) .i64).getD 0
def wdN (x : Nat) (d : Int) : Int := wdV x d / 10 ^ d.toNat
def wdLen (n : Int) : Bool := decide (n = 0) || decide (tdstrconv_LenInt.f n = some ((itoa n).length : Int))
def wdOk (l : List Int) (x : Nat) (d : Int) : Bool := decide (l.length + 20 ≤ 140737488355327 ∧ (0 ≤ d ∧ d ≤ 9) ∧ (-999999999 ≤ wdN x d ∧ wdN x d ≤ 999999999) ∧ wdLen (wdN x d) = true ∧ wdV x d = wdN x d * 10 ^ d.toNat ∧ x < 18446744073709551616 ∧ (FloatKind.f64.format.order x x != some .eq) = false ∧ (FloatKind.f64.format.order (x % 9223372036854775808) 9218868437227405311 == some .gt) = false
  ∧ Ieee.double.mul (p32 0) (p10 d.toNat) = some (wdP d) ∧ Ieee.double.mul x (wdP d) = some (wdF x d) ∧ wdLe x d = decide (0 ≤ wdN x d) ∧ (if 0 ≤ wdN x d then Ieee.double.add (wdF x d) 4602678819172646912 else Ieee.double.sub (wdF x d) 4602678819172646912) = some (wdG x d) ∧ floatToIntVal .f64 (wdG x d) .i64 = some (wdV x d))
def impl_WriteDecimal.f (l0 : List Int) (a1 : Nat) (a2 : Int) : Option (List Int) := if wdOk l0 a1 a2 = true then some (l0 ++ itoa (wdN a1 a2)) else none
set_option maxHeartbeats 1000000 in
theorem impl_WriteDecimal.calls (A0 : Option Addr) (c0 : Nat) (l0 : List Int) (a1 : Nat) (a2 : Int) (r : List Int) (w : World) (hr0 : Kd.C (Kd.int .u8) w A0 l0.length l0) (hc0 : l0.length ≤ c0) (h : impl_WriteDecimal.f l0 a1 a2 = some r) (HTabR : Aside0 (TabR w)) (HTabT : Aside0 (TabT w)) :
    Calls Tryd.prog 12 #[.slice A0 l0.length c0, .float .f64 a1, .int .i64 a2] w fun e w' => ∃ v0_ : Value, e = .returned (v0_) ∧ Kd.R (Kd.int .u8) 5 w' w.heap.size (fun _ => True) v0_ r ∧ Below w.heap.size w w' := by
  unfold impl_WriteDecimal.f at h
  by_cases hl : wdOk l0 a1 a2 = true
  case neg => rw [if_neg hl] at h; cases h
  case pos =>
  rw [if_pos hl] at h
  obtain rfl := Option.some.inj h
  clear h
  obtain ⟨b1, ⟨b2, b2'⟩, b3, b4, b5, b6, b7, b8, b9, b10, b11, b12, b13⟩ := of_decide_eq_true hl
  clear hl
  obtain ⟨d, rfl⟩ := Int.eq_ofNat_of_zero_le b2
  simp only [Int.toNat_natCast] at b5 b9
  have b4' : wdN a1 d ≠ 0 → tdstrconv_LenInt.f (wdN a1 d) = some ((itoa (wdN a1 d)).length : Int) := by
    intro hne
    unfold wdLen at b4
    rw [decide_eq_false hne, Bool.false_or] at b4
    exact of_decide_eq_true b4
  have ho : impl_own.f l0 = some l0 := by unfold impl_own.f; simp; omega
  have HO := Aside0.mk ho
  have HR := Aside0.mk hr0
  have HAD := Aside0.mk (fun (v : Value) (w1 : World) (hv : Kd.R (Kd.int .u8) 5 w1 w.heap.size (fun _ => True) v l0) (hb : Below w.heap.size w w1) =>
    appenddec_calls v l0 a1 d (wdN a1 d) (wdV a1 d) (wdP d) (wdF a1 d) (wdG a1 d) w.heap.size w1 hv hb.size (by omega) b3 (by omega) b4' b5 (HTabR.out.below hb) (HTabT.out.below hb) b6 b7 b8 b9 b10 b11 b12 b13)
  generalize wdN a1 d = n at HAD ⊢
  clear ho hr0 b1 b2 b2' b3 b4 b5 b6 b7 b8 b9 b10 b11 b12 b13 b4' HTabR HTabT
  go_enter Tryd.func12, Tryd.ntmps12
  go_wp2_with fail
  refine (impl_own.calls A0 c0 l0 l0 w HR.out hc0 HO.out).mono ?_
  rintro e w1 ⟨v, rfl, hv, hb⟩
  have HV := Aside0.mk hv
  have HB := Aside0.mk hb
  clear hv hb
  go_wp2_with fail
  refine (HAD.out v w1 HV.out HB.out).mono ?_
  rintro e w2 ⟨v2, rfl, h2, h3⟩
  have HR2 := Aside0.mk h2
  have HB2 := Aside0.mk h3
  clear h2 h3
  go_wp2
  go_ret
  exact ⟨_, rfl, HR2.out, HB.out.trans HB2.out⟩
end Go.Proofs.YtipfnfhglhflgaaDoor.Own
