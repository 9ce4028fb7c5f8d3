/- The contracts of the functions AppendNumber (it may write behind the end of the slice that it is given, within its room) and WriteGrouped: marks between groups of digits and ahead of the decimals, both of ASCII. -/
import Derived.Test.YtnjffokgimjfcaaDoorCown
import Derived.Test.YtnjffokgimjfcaaDoorOwn
import Derived.Lib.HexFns
import Derived.Outline
import Derived.Deep.DeepCutAuto
namespace Go.Proofs.YtnjffokgimjfcaaDoor.Own
open Go.RowKit Go.Proofs.YtnjffokgimjfcaaDoorW.PrintWords Go.Proofs.YtnjffokgimjfcaaDoorW.PrintLast
set_option linter.unusedVariables false
set_option linter.unusedSimpArgs false
/-- The digits of a number that is not 0; none of 0. -/
def dz : Nat → Nat → List Int
  | 0, _ => []
  | f + 1, n => if n = 0 then [] else dz f (n / 10) ++ [(48 + ((n % 10 : Nat) : Int) : Int)]
def itoa (a : Int) : List Int := if a = 0 then [48] else if a < 0 then 45 :: dz 20 a.natAbs else dz 20 a.natAbs
theorem dz_len : ∀ f n, (dz f n).length ≤ f
  | 0, _ => by simp [dz]
  | f + 1, n => by
    unfold dz
    split
    · simp
    · have := dz_len f (n / 10); simp; omega
theorem dz_pos (f n : Nat) (h : n ≠ 0) : 1 ≤ (dz (f + 1) n).length := by
  unfold dz
  rw [if_neg h]
  simp
theorem dz20 (n : Nat) (h : n < 10000000000000000000) : (dz 20 n).length ≤ 19 := by
  have key : ∀ f n, n < 10 ^ f → (dz (f + 1) n).length ≤ f := by
    intro f
    induction f with
    | zero =>
      intro n hn
      obtain rfl : n = 0 := by simpa using hn
      simp [dz]
    | succ f ih =>
      intro n hn
      unfold dz
      split
      · simp
      · have := ih (n / 10) (by rw [Nat.pow_succ] at hn; omega)
        simp; omega
  exact key 19 n (by omega)
theorem itoa_len (n : Int) (h0 : n ≠ 0) (hn : -9223372036854775808 ≤ n ∧ n ≤ 9223372036854775807) : 1 ≤ (itoa n).length ∧ (itoa n).length ≤ 20 := by
  unfold itoa
  rw [if_neg h0]
  have h1 := dz20 n.natAbs (by omega)
  have h2 : 1 ≤ (dz 20 n.natAbs).length := dz_pos 19 n.natAbs (by omega)
  split
  · simp; omega
  · omega
/-- A block whose first bytes are known, then come others, then known ones, then the rest of its room. -/
def RawB (w : World) (g cap : Nat) (pre : List Int) (m : Nat) (suf : List Int) : Prop :=
  ∃ mid rest : List Value, w.heap[g]? = some (.cells (nums .u8 pre ++ mid ++ nums .u8 suf ++ rest).toArray 5 (0, 0)) ∧ mid.length = m ∧ (nums .u8 pre ++ mid ++ nums .u8 suf ++ rest).length = cap
theorem nums_len (k : IntKind) (l : List Int) : (nums k l).length = l.length := by simp [nums]
theorem raw_cell {w : World} {g cap m : Nat} {pre suf : List Int} (h : RawB w g cap pre m suf) (j : Nat) (hj : j < pre.length + m) :
    (∃ v, w.cell? ⟨g, j, none⟩ = some v) ∧ w.frozen? ⟨g, j, none⟩ = false := by
  obtain ⟨mid, rest, hb, rfl, hc⟩ := h
  refine ⟨?_, ?_⟩
  · simp only [World.cell?, hb]
    have : j < (nums .u8 pre ++ mid ++ nums .u8 suf ++ rest).length := by simp only [List.length_append, nums_len]; omega
    exact ⟨_, by simp; exact List.getElem?_eq_getElem (by simpa using this)⟩
  · simp [World.frozen?, hb]
theorem raw_back {w : World} {g cap m : Nat} {pre suf : List Int} (h : RawB w g cap pre (m + 1) suf) (x : Int) :
    RawB (w.setCell ⟨g, pre.length + m, none⟩ (.int .u8 x)) g cap pre m (x :: suf) ∧ w.grownBy (w.setCell ⟨g, pre.length + m, none⟩ (.int .u8 x)) (some g) := by
  obtain ⟨mid, rest, hb, hm, hc⟩ := h
  refine ⟨?_, Go.Lib.Hx.grownBy_set (Go.Lib.Hx.grownBy_refl w _) _ rfl _⟩
  obtain ⟨mid', y, rfl⟩ : ∃ a b, mid = a ++ [b] := ⟨mid.dropLast, mid.getLast (by intro e; subst e; simp at hm), (List.dropLast_concat_getLast _).symm⟩
  have hm' : mid'.length = m := by simpa using hm
  have e : (nums .u8 pre ++ (mid' ++ [y]) ++ nums .u8 suf ++ rest).set (pre.length + m) (.int .u8 x) = nums .u8 pre ++ mid' ++ nums .u8 (x :: suf) ++ rest := by
    rw [show nums .u8 pre ++ (mid' ++ [y]) ++ nums .u8 suf ++ rest = (nums .u8 pre ++ mid') ++ (y :: (nums .u8 suf ++ rest)) by simp, List.set_append_right _ _ (by simp [nums_len, hm']), show pre.length + m - (nums .u8 pre ++ mid').length = 0 by simp [nums_len, hm']]
    simp [nums]
  refine ⟨mid', rest, ?_, hm', ?_⟩
  · rw [heap_setCell_same w g _ _ _ _ hb, List.setIfInBounds_toArray, e]
  · rw [← e, List.length_set]; exact hc
theorem raw_sign {w : World} {g cap m : Nat} {pre suf : List Int} (h : RawB w g cap pre (m + 1) suf) (x : Int) :
    RawB (w.setCell ⟨g, pre.length, none⟩ (.int .u8 x)) g cap (pre ++ [x]) m suf ∧ w.grownBy (w.setCell ⟨g, pre.length, none⟩ (.int .u8 x)) (some g) := by
  obtain ⟨mid, rest, hb, hm, hc⟩ := h
  refine ⟨?_, Go.Lib.Hx.grownBy_set (Go.Lib.Hx.grownBy_refl w _) _ rfl _⟩
  obtain ⟨y, mid', rfl⟩ : ∃ a b, mid = a :: b := by cases mid with | nil => simp at hm | cons a b => exact ⟨a, b, rfl⟩
  have hm' : mid'.length = m := by simpa using hm
  have e : (nums .u8 pre ++ (y :: mid') ++ nums .u8 suf ++ rest).set pre.length (.int .u8 x) = nums .u8 (pre ++ [x]) ++ mid' ++ nums .u8 suf ++ rest := by
    rw [show nums .u8 pre ++ (y :: mid') ++ nums .u8 suf ++ rest = nums .u8 pre ++ (y :: (mid' ++ nums .u8 suf ++ rest)) by simp, List.set_append_right _ _ (by simp [nums_len]), show pre.length - (nums .u8 pre).length = 0 by simp [nums_len]]
    simp [nums]
  refine ⟨mid', rest, ?_, hm', ?_⟩
  · rw [heap_setCell_same w g _ _ _ _ hb, List.setIfInBounds_toArray, e]
  · rw [← e, List.length_set]; exact hc
theorem raw_done {w : World} {g cap base : Nat} {pre suf : List Int} (h : RawB w g cap pre 0 suf) (hg : base ≤ g) (hm : cap ≤ 9223372036854775807) :
    Kd.R (Kd.int .u8) 5 w base (fun _ => True) (.slice (some ⟨g, 0, none⟩) (pre ++ suf).length cap) (pre ++ suf) := by
  obtain ⟨mid, rest, hb, hl, hc⟩ := h
  obtain rfl := List.eq_nil_of_length_eq_zero hl
  refine R_block hb hg (by simpa using hc) ?_ hm ?_
  · simp only [List.length_append, nums_len, List.length_nil] at hc ⊢; omega
  · simp [nums]
    rw [← List.append_assoc, List.take_left' (by simp)]
/-- A row of one's own and so many bytes behind it within its room. -/
theorem raw_of_R {w : World} {g cap base : Nat} {n : Nat} {l : List Int} (h : Kd.R (Kd.int .u8) 5 w base (fun _ => True) (.slice (some ⟨g, 0, none⟩) l.length cap) l) (hn : l.length + n ≤ cap) : RawB w g cap l n [] := by
  have h0 := (Kd.own_of_R h).2
  rcases h0 with ⟨e, _⟩ | ⟨g', cap', cur, e, hb, hg, h1, h2, h3, h4⟩
  · cases e
  · cases e
    have h4' : cur.toList.take l.length = nums .u8 l := by simpa [encs, nums] using h4
    have hs : cur.toList.length = cap := by simpa using h3
    refine ⟨(cur.toList.drop l.length).take n, (cur.toList.drop l.length).drop n, ?_, by simp; omega, ?_⟩
    · rw [hg]
      have : nums .u8 l ++ List.take n (List.drop l.length cur.toList) ++ nums .u8 [] ++ List.drop n (List.drop l.length cur.toList) = cur.toList := by
        rw [← h4']
        simp only [nums, List.map_nil, List.append_nil, List.append_assoc]
        rw [List.take_append_drop, List.take_append_drop]
      rw [this]
    · have : nums .u8 l ++ List.take n (List.drop l.length cur.toList) ++ nums .u8 [] ++ List.drop n (List.drop l.length cur.toList) = cur.toList := by
        rw [← h4']
        simp only [nums, List.map_nil, List.append_nil, List.append_assoc]
        rw [List.take_append_drop, List.take_append_drop]
      rw [this]; exact hs
theorem zeros_raw {w1 : World} {v1 : Value} {base : Nat} {l : List Int} {m : Nat} (h : Kd.R (Kd.int .u8) 5 w1 base (fun _ => True) v1 (l ++ List.replicate (m : Int).toNat 0)) (h1 : 1 ≤ m) :
    ∃ g c1, v1 = .slice (some ⟨g, 0, none⟩) (l.length + m) c1 ∧ base ≤ g ∧ c1 ≤ 9223372036854775807 ∧ RawB w1 g c1 l m [] := by
  rcases (Kd.own_of_R h).2 with ⟨_, e1⟩ | ⟨g, cap, cur, e, hb, hg, h1, h2, h3, h4⟩
  · simp at e1; omega
  · have el : (l ++ List.replicate (m : Int).toNat 0).length = l.length + m := by simp
    rw [el] at e h1 h4
    refine ⟨g, cap, e, hb, by simpa [maxLen] using h2, nums .u8 (List.replicate m 0), cur.toList.drop (l.length + m), ?_, by simp [nums], ?_⟩
    · rw [hg]
      have : nums .u8 l ++ nums .u8 (List.replicate m 0) ++ nums .u8 [] ++ List.drop (l.length + m) cur.toList = cur.toList := by
        have h4' : cur.toList.take (l.length + m) = nums .u8 l ++ nums .u8 (List.replicate m 0) := by simpa [encs, nums] using h4
        rw [← h4']
        simp only [nums, List.map_nil, List.append_nil, List.take_append_drop]
      rw [this]
    · have hs : cur.toList.length = cap := by simpa using h3
      simp [nums]; omega
theorem raw_drewN {w : World} {g cap m : Nat} {pre suf : List Int} (h : RawB w g cap pre m suf) (k : Nat) : RawB (w.drewN k) g cap pre m suf := h
theorem raw_lt {w : World} {g cap m : Nat} {pre suf : List Int} (h : RawB w g cap pre m suf) : g < w.heap.size := by
  obtain ⟨_, _, hb, _⟩ := h
  exact (Array.getElem?_eq_some_iff.1 hb).1
theorem dz_zero : ∀ f, dz f 0 = []
  | 0 => rfl
  | f + 1 => by simp [dz]
/-- The last k digits of a number. -/
def dk : Nat → Nat → List Int
  | 0, _ => []
  | k + 1, n => dk k (n / 10) ++ [(48 + ((n % 10 : Nat) : Int) : Int)]
/-- The digits of a number, marks between groups; j digits stand behind them. -/
def grp (size : Nat) (mk : Int) : Nat → Nat → Nat → List Int
  | 0, _, _ => []
  | f + 1, n, j => if n = 0 then [] else grp size mk f (n / 10) (j + 1) ++ ((48 + ((n % 10 : Nat) : Int) : Int) :: (if 0 < j ∧ j % size = 0 then [mk] else []))
def wholeG (size : Nat) (mk : Int) (W : Nat) : List Int := if W = 0 then [48] else grp size mk 20 W 0
def gtext (n : Int) (dec size : Nat) (mk pt : Int) : List Int :=
  (if n < 0 then [45] else []) ++ (wholeG size mk (n.natAbs / 10 ^ dec) ++ (if 0 < dec then pt :: dk dec n.natAbs else []))
theorem dk_len : ∀ k n, (dk k n).length = k
  | 0, _ => rfl
  | k + 1, n => by simp [dk, dk_len k]
theorem dz_fuel : ∀ f g n, n < 10 ^ f → n < 10 ^ g → dz f n = dz g n
  | 0, g, n, h, _ => by
    obtain rfl : n = 0 := by simpa using h
    rw [dz_zero, dz_zero]
  | f + 1, 0, n, _, h => by
    obtain rfl : n = 0 := by simpa using h
    rw [dz_zero, dz_zero]
  | f + 1, g + 1, n, h, h' => by
    unfold dz
    by_cases hn : n = 0
    · rw [if_pos hn, if_pos hn]
    · rw [if_neg hn, if_neg hn, dz_fuel f g (n / 10) (by rw [Nat.pow_succ] at h; omega) (by rw [Nat.pow_succ] at h'; omega)]
theorem dz_div (n : Nat) (h : n < 10 ^ 20) : (dz 20 (n / 10)).length = (dz 20 n).length - 1 := by
  by_cases hn : n = 0
  · subst hn; rfl
  · have e : dz 20 n = dz 19 (n / 10) ++ [(48 + ((n % 10 : Nat) : Int) : Int)] := by rw [dz, if_neg hn]
    rw [e, List.length_append, dz_fuel 20 19 (n / 10) (by omega) (by omega)]
    simp
theorem dz_pow (n : Nat) (h : n < 10 ^ 20) : ∀ d, (dz 20 (n / 10 ^ d)).length = (dz 20 n).length - d
  | 0 => by simp
  | d + 1 => by
    have h1 : n / 10 ^ d ≤ n := Nat.div_le_self _ _
    rw [Nat.pow_succ, ← Nat.div_div_eq_div_mul, dz_div _ (by omega), dz_pow n h d]
    omega
theorem dz_nil {n : Nat} (h : n < 10 ^ 20) : (dz 20 n).length = 0 ↔ n = 0 := by
  constructor
  · intro e
    by_cases hn : n = 0
    · exact hn
    · have : 1 ≤ (dz 20 n).length := dz_pos 19 n hn
      omega
  · rintro rfl
    rfl
theorem count_step (size a : Nat) (h : 1 ≤ size ∧ size ≤ 9) : (a + 1) / size = a / size + (if (a + 1) % size = 0 then 1 else 0) := by
  obtain ⟨h1, h2⟩ := h
  have : size = 1 ∨ size = 2 ∨ size = 3 ∨ size = 4 ∨ size = 5 ∨ size = 6 ∨ size = 7 ∨ size = 8 ∨ size = 9 := by omega
  rcases this with rfl | rfl | rfl | rfl | rfl | rfl | rfl | rfl | rfl <;> split <;> omega
theorem grp_len1 (size : Nat) (mk : Int) (hs : 1 ≤ size ∧ size ≤ 9) : ∀ f n j, n < 10 ^ f → (grp size mk f n (j + 1)).length + j / size = (dz f n).length + (j + (dz f n).length) / size
  | 0, n, j, _ => by simp [grp, dz]
  | f + 1, n, j, h => by
    unfold grp dz
    by_cases hn : n = 0
    · rw [if_pos hn, if_pos hn]; simp
    · rw [if_neg hn, if_neg hn]
      have ih := grp_len1 size mk hs f (n / 10) (j + 1) (by rw [Nat.pow_succ] at h; omega)
      have hc := count_step size j hs
      simp only [List.length_append, List.length_cons, List.length_nil]
      rw [show j + ((dz f (n / 10)).length + (0 + 1)) = j + 1 + (dz f (n / 10)).length by omega]
      by_cases hm : (j + 1) % size = 0
      · rw [if_pos ⟨by omega, hm⟩]
        rw [if_pos hm] at hc
        simp only [List.length_cons, List.length_nil]
        omega
      · rw [if_neg (fun e => hm e.2)]
        rw [if_neg hm] at hc
        simp only [List.length_nil]
        omega
theorem grp_len0 (size : Nat) (mk : Int) (hs : 1 ≤ size ∧ size ≤ 9) (n : Nat) (hn : n ≠ 0) (h : n < 10 ^ 20) : (grp size mk 20 n 0).length = (dz 20 n).length + ((dz 20 n).length - 1) / size := by
  have e1 : grp size mk 20 n 0 = grp size mk 19 (n / 10) 1 ++ [(48 + ((n % 10 : Nat) : Int) : Int)] := by rw [grp, if_neg hn]; simp
  have e2 : dz 20 n = dz 19 (n / 10) ++ [(48 + ((n % 10 : Nat) : Int) : Int)] := by rw [dz, if_neg hn]
  have := grp_len1 size mk hs 19 (n / 10) 0 (by omega)
  rw [e1, e2]
  simp only [List.length_append, List.length_cons, List.length_nil] at this ⊢
  simp at this ⊢
  omega
/-- How many bytes the function reckons: D digits. -/
def many (D dec size : Nat) (neg : Bool) : Nat :=
  let n1 := if dec < D then D + (D - dec - 1) / size else D
  let n2 := if 0 < dec then (if n1 ≤ dec then 1 + dec else n1) + 1 else n1
  if neg then n2 + 1 else n2
theorem gtext_len (n : Int) (dec size : Nat) (mk pt : Int) (hs : 1 ≤ size ∧ size ≤ 9) (h : n.natAbs < 10 ^ 19) :
    (gtext n dec size mk pt).length = many (if n = 0 then 1 else (dz 20 n.natAbs).length) dec size (decide (n < 0)) := by
  have h20 : n.natAbs < 10 ^ 20 := by omega
  have hp := dz_pow n.natAbs h20 dec
  have hle : n.natAbs / 10 ^ dec ≤ n.natAbs := Nat.div_le_self _ _
  obtain ⟨W, hW⟩ : ∃ W, n.natAbs / 10 ^ dec = W := ⟨_, rfl⟩
  rw [hW] at hp hle
  have hnil := dz_nil (n := W) (by omega)
  have hdk := dk_len dec n.natAbs
  have hneg : (if n < 0 then ([45] : List Int) else []).length = if n < 0 then 1 else 0 := by split <;> rfl
  have hpt : (if 0 < dec then pt :: dk dec n.natAbs else []).length = if 0 < dec then dec + 1 else 0 := by split <;> simp [hdk]
  have hwl : (wholeG size mk W).length = if W = 0 then 1 else (dz 20 W).length + ((dz 20 W).length - 1) / size := by
    unfold wholeG
    split
    · rfl
    · rename_i hw
      exact grp_len0 size mk hs W hw (by omega)
  unfold gtext many
  rw [hW]
  simp only [List.length_append, hneg, hpt, hwl, decide_eq_true_eq]
  by_cases h0 : n = 0
  · have hz : W = 0 := by omega
    rw [if_pos hz, if_pos h0]
    have hnn : ¬ n < 0 := by omega
    by_cases hd : 0 < dec
    · simp only [if_pos hd, if_neg hnn, if_neg (show ¬ dec < 1 by omega), if_pos (show 1 ≤ dec by omega)]
      omega
    · have hd1 : dec < 1 := by omega
      simp only [if_neg hd, if_neg hnn, if_pos hd1]
      rw [show 1 - dec - 1 = 0 by omega, Nat.zero_div]
  · rw [if_neg h0]
    obtain ⟨D, hD⟩ : ∃ D, (dz 20 n.natAbs).length = D := ⟨_, rfl⟩
    have hD1 : 1 ≤ D := by rw [← hD]; exact dz_pos 19 n.natAbs (by omega)
    rw [hD] at hp ⊢
    by_cases hd : dec < D
    · have hw : W ≠ 0 := fun e => by have := hnil.2 e; omega
      rw [if_neg hw, hp]
      simp only [if_pos hd]
      generalize (D - dec - 1) / size = q
      by_cases hpd : 0 < dec
      · simp only [if_pos hpd, if_neg (show ¬ D + q ≤ dec by omega)]
        by_cases hn : n < 0
        · simp only [if_pos hn]; omega
        · simp only [if_neg hn]; omega
      · simp only [if_neg hpd]
        by_cases hn : n < 0
        · simp only [if_pos hn]; omega
        · simp only [if_neg hn]; omega
    · have hw : W = 0 := hnil.1 (by omega)
      have hpd : 0 < dec := by omega
      rw [if_pos hw]
      simp only [if_neg hd, if_pos hpd, if_pos (show D ≤ dec by omega)]
      by_cases hn : n < 0
      · simp only [if_pos hn]; omega
      · simp only [if_neg hn]; omega
theorem rune_len (r : Int) (w : World) (h : 0 ≤ r ∧ r < 128) : Calls Tryd.prog 11 #[.int .i32 r] w fun e w' => e = .returned (.int .i64 1) ∧ w' = w := by
  obtain ⟨h0, h1⟩ := h
  have h2 : ¬ r < 0 := by omega
  have h3 : r ≤ 127 := by omega
  go_enter Tryd.func11, Tryd.ntmps11
  go_wp2
  go_ret
  exact ⟨rfl, rfl⟩
theorem encode_rune (g p n c : Nat) (r : Int) (w : World) (h : 0 ≤ r ∧ r < 128) (hn : 0 < n) (hc : ∃ v, w.cell? ⟨g, p, none⟩ = some v) (hf : w.frozen? ⟨g, p, none⟩ = false) :
    Calls Tryd.prog 13 #[.slice (some ⟨g, p, none⟩) n c, .int .i32 r] w fun e w' => e = .returned (.int .i64 1) ∧ w' = w.setCell ⟨g, p, none⟩ (.int .u8 r) := by
  obtain ⟨v, hv⟩ := hc
  obtain ⟨h0, h1⟩ := h
  have e1 : r % 4294967296 = r := by omega
  have e2 : r % 256 = r := by omega
  have h3 : r % 4294967296 ≤ 127 := by omega
  go_enter Tryd.func13, Tryd.ntmps13
  go_wp2
  go_ret
  exact ⟨rfl, by first | rfl | (rw [e2]) | simp [e2]⟩
theorem sgn_tmod {sgn : Int} (h : sgn = 1 ∨ sgn = -1) (M : Nat) : Int.tmod (sgn * M) 10 = sgn * ((M % 10 : Nat) : Int) ∧ Int.tdiv (sgn * M) 10 = sgn * ((M / 10 : Nat) : Int) ∧ sgn * (sgn * ((M % 10 : Nat) : Int)) = ((M % 10 : Nat) : Int) := by
  rcases h with rfl | rfl
  · rw [Int.one_mul, Int.tmod_eq_emod_of_nonneg (by omega), Int.tdiv_eq_ediv_of_nonneg (by omega)]
    refine ⟨by omega, by omega, by omega⟩
  · rw [show (-1 : Int) * M = -(M : Int) by omega, Int.neg_tmod, Int.neg_tdiv, Int.tmod_eq_emod_of_nonneg (by omega), Int.tdiv_eq_ediv_of_nonneg (by omega)]
    refine ⟨by omega, by omega, by omega⟩
theorem raw_cap {w : World} {g cap m : Nat} {pre suf : List Int} (h : RawB w g cap pre m suf) : pre.length + m + suf.length ≤ cap := by
  obtain ⟨mid, rest, hb, hm, hc⟩ := h
  simp only [List.length_append, nums_len] at hc
  omega
def LoopD (g c1 base R W : Nat) (l S : List Int) (sgn : Int) (w : World) (v1 v2 v15 : Value) (wr : World) : Prop :=
  ∃ (M d : Nat) (suf : List Int), v1 = .int .i64 (sgn * (M : Int)) ∧ v2 = .int .i64 (d : Int) ∧ v15 = .int .i64 ((l.length + d + R : Nat) : Int) ∧ M / 10 ^ d = W ∧ M < 1000000000000000 ∧ d ≤ 15 ∧ dk d M ++ suf = S ∧ Aside0 (RawB wr g c1 l (d + R + 1) suf) ∧ Aside0 (Below base w wr)
theorem loopD_step {w wr : World} {g c1 base R W M d : Nat} {l S suf : List Int} {sgn : Int} (hW : M / 10 ^ (d + 1) = W) (hM : M < 1000000000000000) (hd : d + 1 ≤ 15) (hS : dk (d + 1) M ++ suf = S) (h : RawB wr g c1 l (d + 1 + R + 1) suf) (hb : Below base w wr) (hg : base ≤ g) :
    LoopD g c1 base R W l S sgn w (.int .i64 (sgn * ((M / 10 : Nat) : Int))) (.int .i64 (d : Int)) (.int .i64 ((l.length + d + R : Nat) : Int)) (wr.setCell ⟨g, l.length + (d + 1) + R, none⟩ (.int .u8 (48 + ((M % 10 : Nat) : Int)))) := by
  have e : d + 1 + R + 1 = (d + R + 1) + 1 := by omega
  rw [e] at h
  obtain ⟨h1, h2⟩ := raw_back h (48 + ((M % 10 : Nat) : Int))
  rw [show l.length + (d + R + 1) = l.length + (d + 1) + R by omega] at h1 h2
  refine ⟨M / 10, d, _, rfl, rfl, rfl, ?_, by omega, by omega, ?_, ⟨h1⟩, ⟨hb.grown h2 (by have := raw_lt h; omega) (fun k hk => by obtain rfl := Option.some.inj hk; exact hg)⟩⟩
  · rw [Nat.div_div_eq_div_mul, Nat.mul_comm, ← Nat.pow_succ]; exact hW
  · rw [← hS, dk]; simp
theorem grp_zero (size : Nat) (mk : Int) (f j : Nat) : grp size mk f 0 j = [] := by
  cases f with
  | zero => rfl
  | succ f => simp [grp]
def LoopI (g c1 base s size : Nat) (mk : Int) (l S2 : List Int) (sgn : Int) (w : World) (v1 v15 v17 : Value) (wr : World) : Prop :=
  ∃ (f M j m : Nat) (suf : List Int), v1 = .int .i64 (sgn * (M : Int)) ∧ v15 = .int .i64 (((l.length + m : Nat) : Int) - 1) ∧ v17 = .int .i64 (j : Int) ∧ M < 10 ^ f ∧ M < 1000000000000000 ∧ f + j = 20 ∧ m = (grp size mk f M j).length + s ∧ grp size mk f M j ++ suf = S2 ∧ Aside0 (RawB wr g c1 l m suf) ∧ Aside0 (Below base w wr)
theorem loopI_mark {w wr : World} {g c1 base s size M f j m : Nat} {mk : Int} {l S2 suf : List Int} {sgn : Int} (hMf : M < 10 ^ (f + 1)) (hM : M < 1000000000000000) (hM0 : M ≠ 0) (hf : f + 1 + j = 20) (hj : 0 < j ∧ j % size = 0) (hm : m = (grp size mk f (M / 10) (j + 1)).length + s) (hS : grp size mk (f + 1) M j ++ suf = S2) (h : RawB wr g c1 l (m + 1 + 1) suf) (hb : Below base w wr) (hg : base ≤ g) :
    (∃ v, (wr.setCell ⟨g, l.length + m + 1, none⟩ (.int .u8 mk)).cell? ⟨g, l.length + m, none⟩ = some v) ∧ (wr.setCell ⟨g, l.length + m + 1, none⟩ (.int .u8 mk)).frozen? ⟨g, l.length + m, none⟩ = false ∧
    LoopI g c1 base s size mk l S2 sgn w (.int .i64 (sgn * ((M / 10 : Nat) : Int))) (.int .i64 (((l.length + m : Nat) : Int) - 1)) (.int .i64 ((j + 1 : Nat) : Int)) ((wr.setCell ⟨g, l.length + m + 1, none⟩ (.int .u8 mk)).setCell ⟨g, l.length + m, none⟩ (.int .u8 (48 + ((M % 10 : Nat) : Int)))) := by
  obtain ⟨h1, h2⟩ := raw_back h mk
  rw [← Nat.add_assoc] at h1 h2
  obtain ⟨c1', c2'⟩ := raw_cell h1 (l.length + m) (by omega)
  obtain ⟨h3, h4⟩ := raw_back h1 (48 + ((M % 10 : Nat) : Int))
  have hb1 := hb.grown h2 (by have := raw_lt h; omega) (fun k hk => by obtain rfl := Option.some.inj hk; exact hg)
  have hb2 := hb1.grown h4 (by have := raw_lt h1; omega) (fun k hk => by obtain rfl := Option.some.inj hk; exact hg)
  refine ⟨c1', c2', f, M / 10, j + 1, m, _, rfl, rfl, rfl, by rw [Nat.pow_succ] at hMf; omega, by omega, by omega, hm, ?_, ⟨h3⟩, ⟨hb2⟩⟩
  rw [← hS, grp, if_neg hM0, if_pos hj]
  simp
theorem loopI_step {w wr : World} {g c1 base s size M f j m : Nat} {mk : Int} {l S2 suf : List Int} {sgn : Int} (hMf : M < 10 ^ (f + 1)) (hM : M < 1000000000000000) (hM0 : M ≠ 0) (hf : f + 1 + j = 20) (hj : ¬ (0 < j ∧ j % size = 0)) (hm : m = (grp size mk f (M / 10) (j + 1)).length + s) (hS : grp size mk (f + 1) M j ++ suf = S2) (h : RawB wr g c1 l (m + 1) suf) (hb : Below base w wr) (hg : base ≤ g) :
    LoopI g c1 base s size mk l S2 sgn w (.int .i64 (sgn * ((M / 10 : Nat) : Int))) (.int .i64 (((l.length + m : Nat) : Int) - 1)) (.int .i64 ((j + 1 : Nat) : Int)) (wr.setCell ⟨g, l.length + m, none⟩ (.int .u8 (48 + ((M % 10 : Nat) : Int)))) := by
  obtain ⟨h3, h4⟩ := raw_back h (48 + ((M % 10 : Nat) : Int))
  have hb2 := hb.grown h4 (by have := raw_lt h; omega) (fun k hk => by obtain rfl := Option.some.inj hk; exact hg)
  refine ⟨f, M / 10, j + 1, m, _, rfl, rfl, rfl, by rw [Nat.pow_succ] at hMf; omega, by omega, by omega, hm, ?_, ⟨h3⟩, ⟨hb2⟩⟩
  rw [← hS, grp, if_neg hM0, if_neg hj]
  simp
set_option maxRecDepth 20000 in
set_option maxHeartbeats 4000000 in
theorem appendnumber_calls (v : Value) (l : List Int) (n : Int) (dec size : Nat) (mk pt : Int) (base : Nat) (w : World) (hv : Kd.R (Kd.int .u8) 5 w base (fun _ => True) v l) (hbase : base ≤ w.heap.size) (hl : l.length + 64 ≤ 140737488355328)
    (hn : -1000000000000000 < n ∧ n < 1000000000000000) (hd : dec ≤ 15) (hs : 1 ≤ size ∧ size ≤ 9) (hm : 0 < mk ∧ mk < 128) (hp : 0 < pt ∧ pt < 128)
    (hlen : tdstrconv_LenInt.f n = some ((itoa n).length : Int)) :
    Calls Tryd.prog 8 #[v, .int .i64 n, .int .i64 (dec : Int), .int .i64 (size : Int), .int .i32 mk, .int .i32 pt] w fun e w' => ∃ v0_, e = .returned v0_ ∧ Kd.R (Kd.int .u8) 5 w' base (fun _ => True) v0_ (l ++ gtext n dec size mk pt) ∧ Below base w w' := by
  obtain ⟨A, cp, rfl, hA⟩ : ∃ A cp, v = .slice A l.length cp ∧ (l.length ≤ cp ∧ cp ≤ 9223372036854775807 ∧ (A = none → cp = 0) ∧ ∀ ad, A = some ad → ∃ g, ad = ⟨g, 0, none⟩ ∧ base ≤ g) := by
    rcases (Kd.own_of_R hv).2 with ⟨e, e1⟩ | ⟨g, cap, cur, e, hb, hg, h1, h2, h3, h4⟩
    · exact ⟨none, 0, by rw [e, e1], by omega, by omega, fun _ => rfl, fun _ h => by cases h⟩
    · exact ⟨some ⟨g, 0, none⟩, cap, e, h1, by simpa [maxLen] using h2, fun h => (by cases h), fun ad h => by cases h; exact ⟨g, rfl, hb⟩⟩
  have HV := Aside0.mk hv
  have HL := Aside0.mk hlen
  have HA := Aside0.mk hA
  have HM := Aside0.mk hm
  have HP := Aside0.mk hp
  have hmk0 : ¬ mk = 0 := by omega
  have hmkb : (mk != 0) = true := by simp [hmk0]
  obtain ⟨sgn, hsg⟩ : ∃ s : Int, (n < 0 ∧ s = -1) ∨ (0 ≤ n ∧ s = 1) := by
    by_cases h : n < 0
    · exact ⟨-1, .inl ⟨h, rfl⟩⟩
    · exact ⟨1, .inr ⟨by omega, rfl⟩⟩
  obtain ⟨D, hD⟩ : ∃ D, D = (if n = 0 then 1 else (dz 20 n.natAbs).length) := ⟨_, rfl⟩
  have hD1 : 1 ≤ D ∧ D ≤ 19 ∧ (itoa n).length = D + (if n < 0 then 1 else 0) := by
    rw [hD]
    unfold itoa
    by_cases h0 : n = 0
    · subst h0; simp
    · have h1 := dz20 n.natAbs (by omega)
      have h2 : 1 ≤ (dz 20 n.natAbs).length := dz_pos 19 n.natAbs (by omega)
      simp only [if_neg h0]
      refine ⟨h2, h1, ?_⟩
      split <;> simp
  have HSG := Aside0.mk hsg
  have HD := Aside0.mk hD
  have HD1 := Aside0.mk hD1
  obtain ⟨T, hT⟩ : ∃ T, T = many D dec size (decide (n < 0)) := ⟨_, rfl⟩
  have hTl : (gtext n dec size mk pt).length = T := by rw [hT, hD]; exact gtext_len n dec size mk pt hs (by omega)
  have HT := Aside0.mk hT
  have HTL := Aside0.mk hTl
  have hdn : ¬ ((dec : Int) < 0) := by omega
  have hs0 : (0 : Int) < (size : Int) := by omega
  have hs1 : ¬ ((size : Int) = 0) := by omega
  clear hv hlen hA hm hp hsg hD hD1 hT hTl
  go_enter Tryd.func8, Tryd.ntmps8
  go_upto_if 28 with (go_at_call 11; (first | (with_reducible refine (rune_len mk _ ⟨by have := HM.out; omega, HM.out.2⟩).mono ?_) | (with_reducible refine (rune_len pt _ ⟨by have := HP.out; omega, HP.out.2⟩).mono ?_)); rintro e w' ⟨rfl, hw⟩; rw [hw]; clear hw)
  go_cut [13] (fun s wx => s = .int .i64 sgn ∧ w = wx)
  case first => as_aux_lemma =>
    rcases HSG.out with ⟨h, hs⟩ | ⟨h, hs⟩
    · go_wp2
      go_meet
      exact ⟨by rw [hs], rfl⟩
    · have h' : ¬ n < 0 := by omega
      go_wp2
      go_meet
      exact ⟨by rw [hs], rfl⟩
  case rest => as_aux_lemma =>
    obtain ⟨rfl, rfl⟩ := hcut
    go_upto_if 32 with (go_at_call 12; (with_reducible refine (tdstrconv_LenInt.calls n _ _ HL.out).mono ?_); rintro e w' ⟨rfl, ⟨nd, rfl⟩⟩)
    obtain ⟨s, hs⟩ : ∃ s : Nat, s = (if n < 0 then 1 else 0) := ⟨_, rfl⟩
    have HS := Aside0.mk hs
    clear hs
    go_cut [14] (fun v wx => v = .int .i64 (D : Int) ∧ w.drewN nd = wx)
    case first => as_aux_lemma =>
      have h1 := HD1.out
      rcases HSG.out with ⟨h, hs⟩ | ⟨h, hs⟩
      · rw [if_pos h] at h1
        obtain ⟨h1, h2, h3⟩ := h1
        have h4 : ((itoa n).length : Int) - 1 = (D : Int) := by omega
        have hb : 0 ≤ ((itoa n).length : Int) ∧ ((itoa n).length : Int) < 100 := by omega
        subst hs
        generalize ((itoa n).length : Int) = y at *
        clear h3
        go_wp2
        go_meet
        exact ⟨by first | rfl | rw [h4], rfl⟩
      · rw [if_neg (by omega)] at h1
        obtain ⟨h1, h2, h3⟩ := h1
        have h4 : ((itoa n).length : Int) = (D : Int) := by omega
        subst hs
        generalize ((itoa n).length : Int) = y at *
        clear h3
        go_wp2
        go_meet
        exact ⟨by first | rfl | rw [h4], rfl⟩
    case rest => as_aux_lemma =>
      obtain ⟨rfl, rfl⟩ := hcut
      obtain ⟨n1, hn1⟩ : ∃ m : Nat, m = (if dec < D then D + (D - dec - 1) / size else D) := ⟨_, rfl⟩
      have HN1 := Aside0.mk hn1
      clear hn1
      go_upto_region 13 with fail
      go_cut [45] (fun v wx => v = .bool (decide (dec < D)) ∧ w.drewN nd = wx)
      case first => as_aux_lemma =>
        by_cases h : dec < D
        · have hb : decide (dec < D) = true := decide_eq_true h
          go_wp2
          go_meet
          exact ⟨by first | rfl | (rw [hb]) | simp, rfl⟩
        · have hb : decide (dec < D) = false := decide_eq_false h
          go_wp2
          go_meet
          exact ⟨by first | rfl | (rw [hb]) | simp, rfl⟩
      case rest => as_aux_lemma =>
        obtain ⟨rfl, rfl⟩ := hcut
        go_upto_if 45 with fail
        go_cut [14] (fun v wx => v = .int .i64 (n1 : Int) ∧ w.drewN nd = wx)
        case first => as_aux_lemma =>
          by_cases h : dec < D
          · have hb : decide (dec < D) = true := decide_eq_true h
            have hq : Int.tdiv ((D : Int) - (dec : Int) - 1) (size : Int) = (((D - dec - 1) / size : Nat) : Int) := by
              rw [show (D : Int) - (dec : Int) - 1 = ((D - dec - 1 : Nat) : Int) by omega, Int.natCast_tdiv_eq_ediv] ; rfl
            have hqb : 0 ≤ (((D - dec - 1) / size : Nat) : Int) ∧ (((D - dec - 1) / size : Nat) : Int) ≤ 19 := by
              have h1 := HD1.out.2.1
              have h2 := Nat.div_le_self (D - dec - 1) size
              exact ⟨Int.natCast_nonneg _, Int.ofNat_le.2 (Nat.le_trans h2 (Nat.le_trans (Nat.sub_le _ _) (Nat.le_trans (Nat.sub_le _ _) h1)))⟩
            have HN := Aside0.mk (show (D : Int) + (((D - dec - 1) / size : Nat) : Int) = (n1 : Int) by have := HN1.out; rw [if_pos h] at this; omega)
            have h1 := HD1.out.2.1
            generalize (((D - dec - 1) / size : Nat) : Int) = y at *
            obtain ⟨hqb1, hqb2⟩ := hqb
            go_wp2_with (go_at_call 11; (with_reducible refine (rune_len mk _ ⟨by have := HM.out; omega, HM.out.2⟩).mono ?_); rintro e w' ⟨rfl, hw⟩; rw [hw]; clear hw)
            go_meet
            exact ⟨by rw [← HN.out], rfl⟩
          · have hb : decide (dec < D) = false := decide_eq_false h
            have HN := Aside0.mk (show D = n1 by have := HN1.out; rw [if_neg h] at this; omega)
            go_wp2
            go_meet
            exact ⟨by rw [HN.out], rfl⟩
        case rest => as_aux_lemma =>
          obtain ⟨rfl, rfl⟩ := hcut
          obtain ⟨n2, hn2⟩ : ∃ m : Nat, m = (if 0 < dec then (if n1 ≤ dec then 1 + dec else n1) + 1 else n1) := ⟨_, rfl⟩
          have HN2 := Aside0.mk hn2
          have hn1b : n1 ≤ 40 := by
            have h1 := HD1.out.2.1
            have h2 := Nat.div_le_self (D - dec - 1) size
            have h3 := HN1.out
            split at h3 <;> omega
          have hTn : T = n2 + s := by
            rw [HT.out, many, ← HN1.out, ← hn2, HS.out]
            by_cases h : n < 0
            · simp [h]
            · simp [h]
          have HTN := Aside0.mk hTn
          clear hn2 hTn
          go_upto_if 58 with fail
          go_cut [14] (fun v wx => v = .int .i64 (n2 : Int) ∧ w.drewN nd = wx)
          case first => as_aux_lemma =>
            by_cases h : 0 < dec
            · have h' : (0 : Int) < (dec : Int) := by omega
              by_cases h2 : n1 ≤ dec
              · have h2' : (n1 : Int) ≤ (dec : Int) := by omega
                have HN := Aside0.mk (show 1 + (dec : Int) + 1 = (n2 : Int) by have := HN2.out; rw [if_pos h, if_pos h2] at this; omega)
                go_wp2_with (go_at_call 11; (with_reducible refine (rune_len pt _ ⟨by have := HP.out; omega, HP.out.2⟩).mono ?_); rintro e w' ⟨rfl, hw⟩; rw [hw]; clear hw)
                go_meet
                exact ⟨by rw [← HN.out], rfl⟩
              · have h2' : ¬ (n1 : Int) ≤ (dec : Int) := by omega
                have HN := Aside0.mk (show (n1 : Int) + 1 = (n2 : Int) by have := HN2.out; rw [if_pos h, if_neg h2] at this; omega)
                go_wp2_with (go_at_call 11; (with_reducible refine (rune_len pt _ ⟨by have := HP.out; omega, HP.out.2⟩).mono ?_); rintro e w' ⟨rfl, hw⟩; rw [hw]; clear hw)
                go_meet
                exact ⟨by rw [← HN.out], rfl⟩
            · obtain rfl : dec = 0 := by omega
              have HN := Aside0.mk (show n1 = n2 by have := HN2.out; rw [if_neg h] at this; omega)
              go_wp2
              go_meet
              exact ⟨by rw [HN.out], rfl⟩
          case rest => as_aux_lemma =>
            obtain ⟨rfl, rfl⟩ := hcut
            have hn2b : n2 ≤ 41 := by have h1 := HN2.out; split at h1 <;> (try split at h1) <;> omega
            have hTb : T ≤ 42 := by have := HTN.out; have := HS.out; split at this <;> omega
            go_upto_if 69 with fail
            go_cut [14] (fun v wx => v = .int .i64 (T : Int) ∧ w.drewN nd = wx)
            case first => as_aux_lemma =>
              rcases HSG.out with ⟨h, hs⟩ | ⟨h, hs⟩
              · have HN := Aside0.mk (show (n2 : Int) + 1 = (T : Int) by have := HTN.out; have h2 := HS.out; rw [if_pos h] at h2; omega)
                subst hs
                go_wp2
                go_meet
                exact ⟨by rw [← HN.out], rfl⟩
              · have HN := Aside0.mk (show (n2 : Int) = (T : Int) by have := HTN.out; have h2 := HS.out; rw [if_neg (by omega)] at h2; omega)
                subst hs
                go_wp2
                go_meet
                exact ⟨by rw [← HN.out], rfl⟩
            case rest => as_aux_lemma =>
              obtain ⟨rfl, rfl⟩ := hcut
              have hT1 : 1 ≤ T := by
                have h1 := HD1.out.1
                have h2 := HN1.out
                have h3 := HN2.out
                have h4 := HTN.out
                generalize (D - dec - 1) / size = q at h2
                have h5 : 1 ≤ n1 := by split at h2 <;> omega
                have h6 : 1 ≤ n2 := by split at h3 <;> (try split at h3) <;> omega
                omega
              go_upto_if 79 with fail
              go_cut [0] (fun v wx => ∃ g c1, v = .slice (some ⟨g, 0, none⟩) (l.length + T) c1 ∧ base ≤ g ∧ c1 ≤ 9223372036854775807 ∧ Aside0 (RawB wx g c1 l T []) ∧ Aside0 (Below base w wx))
              case first => as_aux_lemma =>
                by_cases hc : (cp : Int) < (l.length : Int) + (T : Int)
                · go_wp2_with (at_builtin; refine Kd.R_append_zeros (Kd.int .u8) (w0 := w) base rfl (.tmp 80) (.tmp 81) 23 3 5 (.int .u8 0) 1 rfl Tryd.underlying23 Tryd.underlying3 info5 rfl (by decide) (by omega) (.slice A l.length cp) l (0 : Int) (T : Int) (fun _ => True) rfl rfl rfl (fun _ _ => trivial) (Kd.R_drewN HV.out _) (by omega) (pw_below_drewN (Below.refl _ _) _) hbase (by simp; omega) ?_; intro v1 w1 ho hb hg hat; obtain ⟨g, c1, rfl, hg1, hc1, hraw⟩ := zeros_raw ho hT1; have HRW := Aside0.mk hraw; have HB := Aside0.mk hb; clear ho hb hg hat hraw)
                  go_meet
                  exact ⟨g, c1, rfl, hg1, hc1, HRW, HB⟩
                · obtain ⟨g, rfl, hg1⟩ : ∃ g, A = some ⟨g, 0, none⟩ ∧ base ≤ g := by
                    cases A with
                    | none => have := HA.out.2.2.1 rfl; omega
                    | some ad => obtain ⟨g, rfl, h⟩ := HA.out.2.2.2 ad rfl; exact ⟨g, rfl, h⟩
                  have hc1 := HA.out.2.1
                  have HRW := Aside0.mk (raw_drewN (raw_of_R HV.out (n := T) (by omega)) nd)
                  go_wp2
                  go_meet
                  exact ⟨g, cp, rfl, hg1, hc1, HRW, ⟨pw_below_drewN (Below.refl base w) nd⟩⟩
              case rest => as_aux_lemma =>
                obtain ⟨g, c1, rfl, hg1, hc1, HRW, HB⟩ := hcut
                have hcT : l.length + T ≤ c1 := by have := raw_cap HRW.out; simpa using this
                obtain ⟨N, hN⟩ : ∃ N, N = n.natAbs := ⟨_, rfl⟩
                obtain ⟨W, hW⟩ : ∃ W, W = N / 10 ^ dec := ⟨_, rfl⟩
                obtain ⟨S, hSS⟩ : ∃ S : List Int, S = (if 0 < dec then pt :: dk dec N else []) := ⟨_, rfl⟩
                obtain ⟨R, hR⟩ : ∃ R, R = (wholeG size mk W).length + s := ⟨_, rfl⟩
                have hTR : T = R + S.length := by
                  rw [← HTL.out, hR, hSS, hW, hN, HS.out]
                  unfold gtext
                  simp only [List.length_append]
                  by_cases h : n < 0
                  · simp [h]; omega
                  · simp [h]
                have hNb : N < 1000000000000000 := by omega
                have hWb : W ≤ N := by rw [hW]; exact Nat.div_le_self _ _
                have hnsg : n = sgn * (N : Int) := by rcases HSG.out with ⟨h, rfl⟩ | ⟨h, rfl⟩ <;> omega
                have hsgn : sgn = 1 ∨ sgn = -1 := by rcases HSG.out with ⟨h, rfl⟩ | ⟨h, rfl⟩ <;> simp
                have HSN := Aside0.mk hsgn
                have HNS := Aside0.mk hnsg
                have HW := Aside0.mk hW
                have HSS := Aside0.mk hSS
                have HRR := Aside0.mk hR
                have HTR := Aside0.mk hTR
                have HNN := Aside0.mk hN
                clear hnsg hsgn hW hSS hR hTR hN
                go_upto_if 93 with fail
                go_cut [1, 2, 15, 16, 91, 93] (fun v1 v2 v15 v16 v91 v93 wx => v1 = .int .i64 (sgn * (W : Int)) ∧ v15 = .int .i64 ((l.length : Int) + (R : Int) - 1) ∧ Aside0 (RawB wx g c1 l R S) ∧ Aside0 (Below base w wx))
                case first => as_aux_lemma =>
                  by_cases h : 0 < dec
                  · have h' : (0 : Int) < (dec : Int) := by omega
                    have hS : S = pt :: dk dec N := by rw [HSS.out, if_pos h]
                    have hT2 : T = R + 1 + dec := by rw [HTR.out, hS, List.length_cons, dk_len]; omega
                    have HS2 := Aside0.mk hS
                    have HT2 := Aside0.mk hT2
                    have HS4 := Aside0.mk hS.symm
                    clear hS hT2
                    go_wp2
                    have HLD := Aside0.mk (show LoopD g c1 base R W l (dk dec N) sgn w (.int .i64 n) (.int .i64 (dec : Int)) (.int .i64 ((l.length + dec + R : Nat) : Int)) wc from ⟨N, dec, [], by rw [HNS.out], rfl, rfl, HW.out.symm, hNb, hd, by simp, ⟨by have h9 := HRW.out; rw [HT2.out, show R + 1 + dec = dec + R + 1 by omega] at h9; exact h9⟩, HB⟩)
                    have hi0 : (l.length : Int) + ((T : Int) - 1) = ((l.length + dec + R : Nat) : Int) := by have := HT2.out; omega
                    have HI0 := Aside0.mk hi0
                    clear hi0
                    go_loopw [1, 2, 15] (fun v1 v2 v15 wr => LoopD g c1 base R W l (dk dec N) sgn w v1 v2 v15 wr) (fun _ v2 _ _ => (intOf v2).toNat)
                    case atStart => rw [HI0.out]; exact HLD.out
                    case round =>
                      obtain ⟨M, d, suf, rfl, rfl, rfl, hWM, hM, hd15, hDS, HRX, HBX⟩ := hrel
                      cases d with
                      | zero =>
                        have hMW : M = W := by simpa using hWM
                        subst hMW
                        have hS0 : suf = dk dec N := by simpa [dk] using hDS
                        subst hS0
                        have hraw := HRX.out
                        rw [show 0 + R + 1 = R + 1 by omega] at hraw
                        obtain ⟨⟨cw, hcw⟩, hfw⟩ := raw_cell hraw (l.length + R) (by omega)
                        obtain ⟨r1, r2⟩ := raw_back hraw pt
                        have hb2 : Below base w (wr.setCell ⟨g, l.length + R, none⟩ (.int .u8 pt)) := HBX.out.grown r2 (by have := raw_lt hraw; omega) (fun k hk => by obtain rfl := Option.some.inj hk; exact hg1)
                        have HR1 := Aside0.mk r1
                        have HB2 := Aside0.mk hb2
                        have HCW := Aside0.mk hcw
                        have HFW := Aside0.mk hfw
                        have hTR : l.length + R < l.length + T := by have := HT2.out; omega
                        clear hraw r1 r2 hb2 hcw hfw hDS hWM
                        rw [show l.length + 0 + R = l.length + R by omega]
                        have hcne : ¬ (c1 = l.length + R) := by omega
                        go_wp2_with (first | (go_at_call 11; (with_reducible refine (rune_len pt _ ⟨by have := HP.out; omega, HP.out.2⟩).mono ?_); rintro e w' ⟨rfl, hw⟩; rw [hw]; clear hw) | (go_at_call 13; (with_reducible refine (encode_rune g (l.length + R) _ _ pt _ ⟨by have := HP.out; omega, HP.out.2⟩ (by omega) ⟨_, HCW.out⟩ HFW.out).mono ?_); rintro e w' ⟨rfl, hw⟩; rw [hw]; clear hw))
                        go_meet
                        exact ⟨rfl, rfl, HS4.out ▸ HR1, HB2⟩
                      | succ d =>
                        obtain ⟨q1, q2, q3⟩ := sgn_tmod HSN.out M
                        have HST := Aside0.mk (loopD_step (sgn := sgn) hWM hM hd15 hDS HRX.out HBX.out hg1)
                        obtain ⟨⟨cw, hcw⟩, hfw⟩ := raw_cell HRX.out (l.length + (d + 1) + R) (by omega)
                        have hjl : l.length + (d + 1) + R < l.length + T := by have h1 := HT2.out; have h2 := congrArg List.length hDS; rw [List.length_append, dk_len, dk_len] at h2; omega
                        obtain ⟨dg, hdg⟩ : ∃ dg : Int, dg = ((M % 10 : Nat) : Int) := ⟨_, rfl⟩
                        obtain ⟨z, hz⟩ : ∃ z : Int, z = sgn * ((M / 10 : Nat) : Int) := ⟨_, rfl⟩
                        obtain ⟨x, hx⟩ : ∃ x : Int, x = sgn * (M : Int) := ⟨_, rfl⟩
                        obtain ⟨y, hy⟩ : ∃ y : Int, y = sgn * dg := ⟨_, rfl⟩
                        have hb1 : 0 ≤ dg ∧ dg ≤ 9 ∧ -9 ≤ y ∧ y ≤ 9 ∧ -1000000000000000 ≤ z ∧ z ≤ 1000000000000000 := by
                          rw [hz, hy, hdg]
                          rcases HSN.out with e | e <;> subst e <;> omega
                        rw [← hdg] at q1 q3
                        rw [← hz] at q2
                        rw [← hx] at q1 q2 ⊢
                        rw [← hy] at q1 q3
                        obtain ⟨b1, b2, b3, b4, b5, b6⟩ := hb1
                        rw [← hdg, ← hz] at HST
                        clear hdg hz hx hy hWM hM hd15 hDS
                        go_wp2
                        go_roundw
                        case rel => have h9 := HST.out; rw [show ((l.length + d + R : Nat) : Int) = (l.length : Int) + ((d : Int) + 1) + (R : Int) - 1 by omega, Int.add_comm 48 dg] at h9; exact h9
                        case measure => simp [intOf]
                  · obtain rfl : dec = 0 := by omega
                    have hS : S = [] := by rw [HSS.out, if_neg h]
                    have hT2 : T = R := by rw [HTR.out, hS]; rfl
                    subst hS
                    subst hT2
                    have hWN : W = N := by rw [HW.out]; simp
                    have hnW : sgn * (W : Int) = n := by rw [hWN]; exact HNS.out.symm
                    have HNW := Aside0.mk hnW
                    clear hnW hWN
                    go_wp2
                    go_meet
                    exact ⟨by rw [HNW.out], by congr 1 <;> omega, HRW, HB⟩
                case rest => as_aux_lemma =>
                  obtain ⟨rfl, rfl, HRW, HB⟩ := hcut
                  have hfin : l ++ gtext n dec size mk pt = l ++ ((if n < 0 then [45] else []) ++ (wholeG size mk W ++ S)) := by rw [HSS.out, HW.out, HNN.out]; rfl
                  have HFIN := Aside0.mk hfin
                  clear hfin
                  by_cases hW0 : W = 0
                  · subst hW0
                    have hR : R = 1 + s := by rw [HRR.out]; unfold wholeG; simp
                    rcases HSG.out with ⟨h, hs⟩ | ⟨h, hs⟩
                    · have hs1 : s = 1 := by rw [HS.out, if_pos h]
                      subst hs1
                      subst hs
                      subst hR
                      have hraw := HRW.out
                      obtain ⟨⟨cw, hcw⟩, hfw⟩ := raw_cell hraw (l.length + 1) (by omega)
                      obtain ⟨r1, r2⟩ := raw_back hraw 48
                      have hb1 := HB.out.grown r2 (by have := raw_lt hraw; omega) (fun k hk => by obtain rfl := Option.some.inj hk; exact hg1)
                      obtain ⟨⟨cw2, hcw2⟩, hfw2⟩ := raw_cell r1 (l.length) (by omega)
                      obtain ⟨r3, r4⟩ := raw_back r1 45
                      have hb2 := hb1.grown r4 (by have := raw_lt r1; omega) (fun k hk => by obtain rfl := Option.some.inj hk; exact hg1)
                      have HDONE := Aside0.mk (raw_done r3 hg1 hc1)
                      have HB2 := Aside0.mk hb2
                      have hT9 : l.length + 1 < l.length + T := by have := HTR.out; omega
                      have HT9 := Aside0.mk (show l.length + T = (l ++ 45 :: 48 :: S).length by have := HTR.out; simp; omega)
                      rw [show (l.length : Int) + ((1 + 1 : Nat) : Int) - 1 = ((l.length + 1 : Nat) : Int) by omega]
                      clear hraw r1 r2 r3 r4 hb1 hb2
                      go_wp2
                      go_ret
                      refine ⟨_, rfl, ?_, HB2.out⟩
                      rw [HFIN.out, if_pos h, HT9.out]
                      exact HDONE.out
                    · have hs1 : s = 0 := by rw [HS.out, if_neg (by omega)]
                      subst hs1
                      subst hs
                      subst hR
                      have hraw := HRW.out
                      obtain ⟨⟨cw, hcw⟩, hfw⟩ := raw_cell hraw (l.length) (by omega)
                      obtain ⟨r1, r2⟩ := raw_back hraw 48
                      have hb1 := HB.out.grown r2 (by have := raw_lt hraw; omega) (fun k hk => by obtain rfl := Option.some.inj hk; exact hg1)
                      have HDONE := Aside0.mk (raw_done r1 hg1 hc1)
                      have HB2 := Aside0.mk hb1
                      have hT9 : l.length < l.length + T := by have := HTR.out; omega
                      have HT9 := Aside0.mk (show l.length + T = (l ++ 48 :: S).length by have := HTR.out; simp; omega)
                      rw [show (l.length : Int) + ((1 + 0 : Nat) : Int) - 1 = ((l.length : Nat) : Int) by omega]
                      clear hraw r1 r2 hb1
                      go_wp2
                      go_ret
                      refine ⟨_, rfl, ?_, HB2.out⟩
                      rw [HFIN.out, if_neg (by omega), HT9.out]
                      exact HDONE.out
                  · obtain ⟨S2, hS2⟩ : ∃ S2, S2 = grp size mk 20 W 0 ++ S := ⟨_, rfl⟩
                    have hwg : wholeG size mk W = grp size mk 20 W 0 := by unfold wholeG; rw [if_neg hW0]
                    have HLI := Aside0.mk (show LoopI g c1 base s size mk l S2 sgn w (.int .i64 (sgn * (W : Int))) (.int .i64 (((l.length + R : Nat) : Int) - 1)) (.int .i64 ((0 : Nat) : Int)) wc from ⟨20, W, 0, R, S, rfl, rfl, rfl, by omega, by omega, rfl, by rw [HRR.out, hwg], hS2.symm, HRW, HB⟩)
                    have HFI2 := Aside0.mk (show l ++ gtext n dec size mk pt = l ++ ((if n < 0 then [45] else []) ++ S2) by rw [HFIN.out, hwg, hS2])
                    have HTS := Aside0.mk (show T = S2.length + s by rw [HTR.out, HRR.out, hwg, hS2, List.length_append]; omega)
                    have hsW : ¬ (sgn * (W : Int) = 0) := by rcases HSN.out with e | e <;> subst e <;> omega
                    have hsWb : (sgn * (W : Int) == 0) = false := by simpa using hsW
                    rw [show (l.length : Int) + (R : Int) - 1 = ((l.length + R : Nat) : Int) - 1 by omega]
                    clear hS2 hwg
                    go_wp2
                    clear hsW hsWb
                    go_loopw [1, 15, 17] (fun v1 v15 v17 wr => LoopI g c1 base s size mk l S2 sgn w v1 v15 v17 wr) (fun v1 _ _ _ => (intOf v1).natAbs)
                    case atStart => exact HLI.out
                    case round =>
                      obtain ⟨f, M, j, m, suf, rfl, rfl, rfl, hMf, hM, hfj, hm, hSS, HRX, HBX⟩ := hrel
                      by_cases hM0 : M = 0
                      · subst hM0
                        rw [grp_zero] at hm hSS
                        have hms : m = s := by simpa using hm
                        have hsf : suf = S2 := by simpa using hSS
                        subst hms
                        subst hsf
                        clear hm hSS hMf hM hfj
                        rcases HSG.out with ⟨h, hsg⟩ | ⟨h, hsg⟩
                        · have hs1 : m = 1 := by rw [HS.out, if_pos h]
                          subst hs1
                          subst hsg
                          have hraw := HRX.out
                          obtain ⟨⟨cw, hcw⟩, hfw⟩ := raw_cell hraw (l.length) (by omega)
                          obtain ⟨r1, r2⟩ := raw_back hraw 45
                          have hb1 := HBX.out.grown r2 (by have := raw_lt hraw; omega) (fun k hk => by obtain rfl := Option.some.inj hk; exact hg1)
                          have HDONE := Aside0.mk (raw_done r1 hg1 hc1)
                          have HB2 := Aside0.mk hb1
                          have hT9 : l.length < l.length + T := by omega
                          have HT9 := Aside0.mk (show l.length + T = (l ++ 45 :: suf).length by have := HTS.out; simp; omega)
                          rw [show ((l.length + 1 : Nat) : Int) - 1 = ((l.length : Nat) : Int) by omega]
                          clear hraw r1 r2 hb1
                          go_wp2
                          go_ret
                          refine ⟨_, rfl, ?_, HB2.out⟩
                          rw [HFI2.out, if_pos h, HT9.out]
                          exact HDONE.out
                        · have hs1 : m = 0 := by rw [HS.out, if_neg (by omega)]
                          subst hs1
                          subst hsg
                          have HDONE := Aside0.mk (raw_done HRX.out hg1 hc1)
                          have HT9 := Aside0.mk (show l.length + T = (l ++ suf).length by have := HTS.out; simp; omega)
                          go_wp2
                          go_ret
                          refine ⟨_, rfl, ?_, HBX.out⟩
                          rw [HFI2.out, if_neg (by omega), HT9.out]
                          exact HDONE.out
                      · obtain ⟨f, rfl⟩ : ∃ f', f = f' + 1 := by
                          cases f with
                          | zero => exact absurd hMf (by omega)
                          | succ f' => exact ⟨f', rfl⟩
                        obtain ⟨m', hm'⟩ : ∃ m', m' = (grp size mk f (M / 10) (j + 1)).length + s := ⟨_, rfl⟩
                        have hmT : m ≤ T := by
                          have h1 := HTS.out
                          rw [← hSS, List.length_append] at h1
                          omega
                        by_cases hjm : 0 < j ∧ j % size = 0
                        · have hm2 : m = m' + 1 + 1 := by
                            rw [hm, grp, if_neg hM0, if_pos hjm, hm']
                            simp only [List.length_append, List.length_cons, List.length_nil]
                            omega
                          subst hm2
                          obtain ⟨k1, k2, k3⟩ := loopI_mark (sgn := sgn) hMf hM hM0 hfj hjm hm' hSS HRX.out HBX.out hg1
                          have HST := Aside0.mk k3
                          obtain ⟨cw2, hcw2⟩ := k1
                          have hfw2 := k2
                          obtain ⟨⟨cw, hcw⟩, hfw⟩ := raw_cell HRX.out (l.length + m' + 1) (by omega)
                          have HCW := Aside0.mk hcw
                          have HFW := Aside0.mk hfw
                          have hj0 : (0 : Int) < (j : Int) := by omega
                          have hjr : Int.tmod (j : Int) (size : Int) = 0 := by rw [Int.tmod_eq_emod_of_nonneg (by omega), ← Int.natCast_emod, hjm.2]; rfl
                          have hlt1 : l.length + m' + 1 < l.length + T := by omega
                          have hlt2 : l.length + m' < l.length + T := by omega
                          have hcne : ¬ (c1 = l.length + m' + 1) := by omega
                          rw [show ((l.length + (m' + 1 + 1) : Nat) : Int) - 1 = ((l.length + m' + 1 : Nat) : Int) by omega]
                          clear k2 k3 hcw hfw hm' hSS
                          obtain ⟨q1, q2, q3⟩ := sgn_tmod HSN.out M
                          obtain ⟨dg, hdg⟩ : ∃ dg : Int, dg = ((M % 10 : Nat) : Int) := ⟨_, rfl⟩
                          obtain ⟨z, hz⟩ : ∃ z : Int, z = sgn * ((M / 10 : Nat) : Int) := ⟨_, rfl⟩
                          obtain ⟨x, hx⟩ : ∃ x : Int, x = sgn * (M : Int) := ⟨_, rfl⟩
                          obtain ⟨y, hy⟩ : ∃ y : Int, y = sgn * dg := ⟨_, rfl⟩
                          have hb1 : 0 ≤ dg ∧ dg ≤ 9 ∧ -9 ≤ y ∧ y ≤ 9 ∧ -1000000000000000 ≤ z ∧ z ≤ 1000000000000000 ∧ ¬ (x = 0) ∧ z.natAbs < x.natAbs := by
                            rw [hz, hy, hdg, hx]
                            rcases HSN.out with e | e <;> subst e <;> omega
                          rw [← hdg] at q1 q3
                          rw [← hz] at q2
                          rw [← hx] at q1 q2 ⊢
                          rw [← hy] at q1 q3
                          obtain ⟨b1, b2, b3, b4, b5, b6, b7, b8⟩ := hb1
                          have B8 := Aside0.mk b8
                          have hxb : (x != 0) = true := by simp [b7]
                          rw [← hdg, ← hz] at HST
                          clear b8 hdg hz hx hy hMf hM hm
                          go_wp2_with (first | (go_at_call 11; (with_reducible refine (rune_len mk _ ⟨by have := HM.out; omega, HM.out.2⟩).mono ?_); rintro e w' ⟨rfl, hw⟩; rw [hw]; clear hw) | (go_at_call 13; (with_reducible refine (encode_rune g (l.length + m' + 1) _ _ mk _ ⟨by have := HM.out; omega, HM.out.2⟩ (by omega) ⟨_, HCW.out⟩ HFW.out).mono ?_); rintro e w' ⟨rfl, hw⟩; rw [hw]; clear hw))
                          go_roundw
                          case rel => have h9 := HST.out; rw [Int.add_comm 48 dg, show ((l.length + m' : Nat) : Int) - 1 = (l.length : Int) + (m' : Int) - 1 by omega] at h9; exact h9
                          case measure => have := B8.out; simp [intOf]; omega
                        · have hm2 : m = m' + 1 := by
                            rw [hm, grp, if_neg hM0, if_neg hjm, hm']
                            simp only [List.length_append, List.length_cons, List.length_nil]
                            omega
                          subst hm2
                          have HST := Aside0.mk (loopI_step (sgn := sgn) hMf hM hM0 hfj hjm hm' hSS HRX.out HBX.out hg1)
                          obtain ⟨⟨cw, hcw⟩, hfw⟩ := raw_cell HRX.out (l.length + m') (by omega)
                          have hlt1 : l.length + m' < l.length + T := by omega
                          rw [show ((l.length + (m' + 1) : Nat) : Int) - 1 = ((l.length + m' : Nat) : Int) by omega]
                          clear hm' hSS
                          obtain ⟨q1, q2, q3⟩ := sgn_tmod HSN.out M
                          obtain ⟨dg, hdg⟩ : ∃ dg : Int, dg = ((M % 10 : Nat) : Int) := ⟨_, rfl⟩
                          obtain ⟨z, hz⟩ : ∃ z : Int, z = sgn * ((M / 10 : Nat) : Int) := ⟨_, rfl⟩
                          obtain ⟨x, hx⟩ : ∃ x : Int, x = sgn * (M : Int) := ⟨_, rfl⟩
                          obtain ⟨y, hy⟩ : ∃ y : Int, y = sgn * dg := ⟨_, rfl⟩
                          have hb1 : 0 ≤ dg ∧ dg ≤ 9 ∧ -9 ≤ y ∧ y ≤ 9 ∧ -1000000000000000 ≤ z ∧ z ≤ 1000000000000000 ∧ ¬ (x = 0) ∧ z.natAbs < x.natAbs := by
                            rw [hz, hy, hdg, hx]
                            rcases HSN.out with e | e <;> subst e <;> omega
                          rw [← hdg] at q1 q3
                          rw [← hz] at q2
                          rw [← hx] at q1 q2 ⊢
                          rw [← hy] at q1 q3
                          obtain ⟨b1, b2, b3, b4, b5, b6, b7, b8⟩ := hb1
                          have B8 := Aside0.mk b8
                          have hxb : (x != 0) = true := by simp [b7]
                          rw [← hdg, ← hz] at HST
                          clear b8 hdg hz hx hy hMf hM hm
                          by_cases hj0 : 0 < j
                          · have hj0' : (0 : Int) < (j : Int) := by omega
                            have hjr : ¬ (Int.tmod (j : Int) (size : Int) = 0) := by rw [Int.tmod_eq_emod_of_nonneg (by omega), ← Int.natCast_emod]; intro e; exact hjm ⟨hj0, by omega⟩
                            have hjb : (Int.tmod (j : Int) (size : Int) == 0) = false := by simp [hjr]
                            go_wp2
                            go_roundw
                            case rel => have h9 := HST.out; rw [Int.add_comm 48 dg, show ((l.length + m' : Nat) : Int) - 1 = (l.length : Int) + (m' : Int) - 1 by omega] at h9; exact h9
                            case measure => have := B8.out; simp [intOf]; omega
                          · obtain rfl : j = 0 := by omega
                            go_wp2
                            go_roundw
                            case rel => have h9 := HST.out; rw [Int.add_comm 48 dg, show ((l.length + m' : Nat) : Int) - 1 = (l.length : Int) + (m' : Int) - 1 by omega] at h9; exact h9
                            case measure => have := B8.out; simp [intOf]; omega
def impl_WriteGrouped.f (l0 : List Int) (a1 a2 a3 a4 a5 : Int) : Option (List Int) := if l0.length + 64 ≤ 140737488355327 ∧ (-1000000000000000 < a1 ∧ a1 < 1000000000000000) ∧ (0 ≤ a2 ∧ a2 ≤ 15) ∧ (1 ≤ a3 ∧ a3 ≤ 9) ∧ (0 < a4 ∧ a4 < 128) ∧ (0 < a5 ∧ a5 < 128) ∧ tdstrconv_LenInt.f a1 = some ((itoa a1).length : Int) then some (l0 ++ gtext a1 a2.toNat a3.toNat a4 a5) else none
set_option maxHeartbeats 1000000 in
theorem impl_WriteGrouped.calls (A0 : Option Addr) (c0 : Nat) (l0 : List Int) (a1 a2 a3 a4 a5 : Int) (r : List Int) (w : World) (hr0 : Kd.C (Kd.int .u8) w A0 l0.length l0) (hc0 : l0.length ≤ c0) (h : impl_WriteGrouped.f l0 a1 a2 a3 a4 a5 = some r) :
    Calls Tryd.prog 5 #[.slice A0 l0.length c0, .int .i64 a1, .int .i64 a2, .int .i64 a3, .int .i32 a4, .int .i32 a5] w fun e w' => ∃ v0_ : Value, e = .returned (v0_) ∧ Kd.R (Kd.int .u8) 5 w' w.heap.size (fun _ => True) v0_ r ∧ Below w.heap.size w w' := by
  unfold impl_WriteGrouped.f at h
  by_cases hl : l0.length + 64 ≤ 140737488355327 ∧ (-1000000000000000 < a1 ∧ a1 < 1000000000000000) ∧ (0 ≤ a2 ∧ a2 ≤ 15) ∧ (1 ≤ a3 ∧ a3 ≤ 9) ∧ (0 < a4 ∧ a4 < 128) ∧ (0 < a5 ∧ a5 < 128) ∧ tdstrconv_LenInt.f a1 = some ((itoa a1).length : Int)
  · rw [if_pos hl] at h
    obtain rfl := Option.some.inj h
    clear h
    obtain ⟨hl, ha, h2, h3, h4, h5, hlen⟩ := hl
    obtain ⟨d2, rfl⟩ := Int.eq_ofNat_of_zero_le h2.1
    obtain ⟨d3, rfl⟩ := Int.eq_ofNat_of_zero_le (show 0 ≤ a3 by omega)
    have ho : impl_own.f l0 = some l0 := by unfold impl_own.f; simp; omega
    have HO := Aside0.mk ho
    have HR := Aside0.mk hr0
    have HLEN := Aside0.mk hlen
    have H2 := Aside0.mk (show d2 ≤ 15 by omega)
    have H3 := Aside0.mk (show 1 ≤ d3 ∧ d3 ≤ 9 by omega)
    have H4 := Aside0.mk h4
    have H5 := Aside0.mk h5
    have HAA := Aside0.mk ha
    clear ho hr0 hlen h2 h3 h4 h5 ha
    go_enter Tryd.func5, Tryd.ntmps5
    go_wp2_with fail
    refine (impl_own.calls A0 c0 l0 l0 w HR.out hc0 HO.out).mono ?_
    rintro e w1 ⟨v, rfl, hv, hb⟩
    have HV := Aside0.mk hv
    have HB := Aside0.mk hb
    clear hv hb
    go_wp2_with fail
    refine (appendnumber_calls v l0 a1 d2 d3 a4 a5 w.heap.size w1 HV.out HB.out.size (by omega) HAA.out H2.out H3.out H4.out H5.out HLEN.out).mono ?_
    rintro e w2 ⟨v2, rfl, h2, h3⟩
    have HR2 := Aside0.mk h2
    have HB2 := Aside0.mk h3
    clear h2 h3
    go_wp2
    go_ret
    exact ⟨_, rfl, HR2.out, HB.out.trans HB2.out⟩
  · rw [if_neg hl] at h
    cases h
end Go.Proofs.YtnjffokgimjfcaaDoor.Own
