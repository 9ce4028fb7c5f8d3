/- The contracts of the functions AppendInt (it may write behind the end of the slice that it is given, within its room) and WriteInt. -/
import Derived.Test.YteklgpjdcdkdpaaCown
import Derived.Test.YteklgpjdcdkdpaaOwn
import Derived.Lib.HexFns
import Derived.Outline
namespace Go.Proofs.Yteklgpjdcdkdpaa.Own
open Go.RowKit Go.Proofs.YteklgpjdcdkdpaaW.PrintWords Go.Proofs.YteklgpjdcdkdpaaW.PrintLast
set_option linter.unusedVariables false
set_option linter.unusedSimpArgs false
/-- The digits of a number that is not 0; none of 0. -/
def dz : Nat → Nat → List Int
  | 0, _ => []
  | f + 1, n => if n = 0 then [] else dz f (n / 10) ++ [(48 + ((n % 10 : Nat) : Int) : Int)]
def itoa (a : Int) : List Int := if a = 0 then [48] else if a < 0 then 45 :: dz 20 a.natAbs else dz 20 a.natAbs
theorem dz_len : ∀ f n, (dz f n).length ≤ f
  | 0, _ => by simp [dz]
  | f + 1, n => by
    unfold dz
    split
    · simp
    · have := dz_len f (n / 10); simp; omega
theorem dz_pos (f n : Nat) (h : n ≠ 0) : 1 ≤ (dz (f + 1) n).length := by
  unfold dz
  rw [if_neg h]
  simp
theorem dz20 (n : Nat) (h : n < 10000000000000000000) : (dz 20 n).length ≤ 19 := by
  have key : ∀ f n, n < 10 ^ f → (dz (f + 1) n).length ≤ f := by
    intro f
    induction f with
    | zero =>
      intro n hn
      obtain rfl : n = 0 := by simpa using hn
      simp [dz]
    | succ f ih =>
      intro n hn
      unfold dz
      split
      · simp
      · have := ih (n / 10) (by rw [Nat.pow_succ] at hn; omega)
        simp; omega
  exact key 19 n (by omega)
theorem itoa_len (n : Int) (h0 : n ≠ 0) (hn : -9223372036854775808 ≤ n ∧ n ≤ 9223372036854775807) : 1 ≤ (itoa n).length ∧ (itoa n).length ≤ 20 := by
  unfold itoa
  rw [if_neg h0]
  have h1 := dz20 n.natAbs (by omega)
  have h2 : 1 ≤ (dz 20 n.natAbs).length := dz_pos 19 n.natAbs (by omega)
  split
  · simp; omega
  · omega
/-- A block whose first bytes are known, then come others, then known ones, then the rest of its room. -/
def RawB (w : World) (g cap : Nat) (pre : List Int) (m : Nat) (suf : List Int) : Prop :=
  ∃ mid rest : List Value, w.heap[g]? = some (.cells (nums .u8 pre ++ mid ++ nums .u8 suf ++ rest).toArray 5 (0, 0)) ∧ mid.length = m ∧ (nums .u8 pre ++ mid ++ nums .u8 suf ++ rest).length = cap
theorem nums_len (k : IntKind) (l : List Int) : (nums k l).length = l.length := by simp [nums]
theorem raw_cell {w : World} {g cap m : Nat} {pre suf : List Int} (h : RawB w g cap pre m suf) (j : Nat) (hj : j < pre.length + m) :
    (∃ v, w.cell? ⟨g, j, none⟩ = some v) ∧ w.frozen? ⟨g, j, none⟩ = false := by
  obtain ⟨mid, rest, hb, rfl, hc⟩ := h
  refine ⟨?_, ?_⟩
  · simp only [World.cell?, hb]
    have : j < (nums .u8 pre ++ mid ++ nums .u8 suf ++ rest).length := by simp only [List.length_append, nums_len]; omega
    exact ⟨_, by simp; exact List.getElem?_eq_getElem (by simpa using this)⟩
  · simp [World.frozen?, hb]
theorem raw_back {w : World} {g cap m : Nat} {pre suf : List Int} (h : RawB w g cap pre (m + 1) suf) (x : Int) :
    RawB (w.setCell ⟨g, pre.length + m, none⟩ (.int .u8 x)) g cap pre m (x :: suf) ∧ w.grownBy (w.setCell ⟨g, pre.length + m, none⟩ (.int .u8 x)) (some g) := by
  obtain ⟨mid, rest, hb, hm, hc⟩ := h
  refine ⟨?_, Go.Lib.Hx.grownBy_set (Go.Lib.Hx.grownBy_refl w _) _ rfl _⟩
  obtain ⟨mid', y, rfl⟩ : ∃ a b, mid = a ++ [b] := ⟨mid.dropLast, mid.getLast (by intro e; subst e; simp at hm), (List.dropLast_concat_getLast _).symm⟩
  have hm' : mid'.length = m := by simpa using hm
  have e : (nums .u8 pre ++ (mid' ++ [y]) ++ nums .u8 suf ++ rest).set (pre.length + m) (.int .u8 x) = nums .u8 pre ++ mid' ++ nums .u8 (x :: suf) ++ rest := by
    rw [show nums .u8 pre ++ (mid' ++ [y]) ++ nums .u8 suf ++ rest = (nums .u8 pre ++ mid') ++ (y :: (nums .u8 suf ++ rest)) by simp, List.set_append_right _ _ (by simp [nums_len, hm']), show pre.length + m - (nums .u8 pre ++ mid').length = 0 by simp [nums_len, hm']]
    simp [nums]
  refine ⟨mid', rest, ?_, hm', ?_⟩
  · rw [heap_setCell_same w g _ _ _ _ hb, List.setIfInBounds_toArray, e]
  · rw [← e, List.length_set]; exact hc
theorem raw_sign {w : World} {g cap m : Nat} {pre suf : List Int} (h : RawB w g cap pre (m + 1) suf) (x : Int) :
    RawB (w.setCell ⟨g, pre.length, none⟩ (.int .u8 x)) g cap (pre ++ [x]) m suf ∧ w.grownBy (w.setCell ⟨g, pre.length, none⟩ (.int .u8 x)) (some g) := by
  obtain ⟨mid, rest, hb, hm, hc⟩ := h
  refine ⟨?_, Go.Lib.Hx.grownBy_set (Go.Lib.Hx.grownBy_refl w _) _ rfl _⟩
  obtain ⟨y, mid', rfl⟩ : ∃ a b, mid = a :: b := by cases mid with | nil => simp at hm | cons a b => exact ⟨a, b, rfl⟩
  have hm' : mid'.length = m := by simpa using hm
  have e : (nums .u8 pre ++ (y :: mid') ++ nums .u8 suf ++ rest).set pre.length (.int .u8 x) = nums .u8 (pre ++ [x]) ++ mid' ++ nums .u8 suf ++ rest := by
    rw [show nums .u8 pre ++ (y :: mid') ++ nums .u8 suf ++ rest = nums .u8 pre ++ (y :: (mid' ++ nums .u8 suf ++ rest)) by simp, List.set_append_right _ _ (by simp [nums_len]), show pre.length - (nums .u8 pre).length = 0 by simp [nums_len]]
    simp [nums]
  refine ⟨mid', rest, ?_, hm', ?_⟩
  · rw [heap_setCell_same w g _ _ _ _ hb, List.setIfInBounds_toArray, e]
  · rw [← e, List.length_set]; exact hc
theorem raw_done {w : World} {g cap base : Nat} {pre suf : List Int} (h : RawB w g cap pre 0 suf) (hg : base ≤ g) (hm : cap ≤ 9223372036854775807) :
    Kd.R (Kd.int .u8) 5 w base (fun _ => True) (.slice (some ⟨g, 0, none⟩) (pre ++ suf).length cap) (pre ++ suf) := by
  obtain ⟨mid, rest, hb, hl, hc⟩ := h
  obtain rfl := List.eq_nil_of_length_eq_zero hl
  refine R_block hb hg (by simpa using hc) ?_ hm ?_
  · simp only [List.length_append, nums_len, List.length_nil] at hc ⊢; omega
  · simp [nums]
    rw [← List.append_assoc, List.take_left' (by simp)]
/-- A row of one's own and so many bytes behind it within its room. -/
theorem raw_of_R {w : World} {g cap base : Nat} {n : Nat} {l : List Int} (h : Kd.R (Kd.int .u8) 5 w base (fun _ => True) (.slice (some ⟨g, 0, none⟩) l.length cap) l) (hn : l.length + n ≤ cap) : RawB w g cap l n [] := by
  have h0 := (Kd.own_of_R h).2
  rcases h0 with ⟨e, _⟩ | ⟨g', cap', cur, e, hb, hg, h1, h2, h3, h4⟩
  · cases e
  · cases e
    have h4' : cur.toList.take l.length = nums .u8 l := by simpa [encs, nums] using h4
    have hs : cur.toList.length = cap := by simpa using h3
    refine ⟨(cur.toList.drop l.length).take n, (cur.toList.drop l.length).drop n, ?_, by simp; omega, ?_⟩
    · rw [hg]
      have : nums .u8 l ++ List.take n (List.drop l.length cur.toList) ++ nums .u8 [] ++ List.drop n (List.drop l.length cur.toList) = cur.toList := by
        rw [← h4']
        simp only [nums, List.map_nil, List.append_nil, List.append_assoc]
        rw [List.take_append_drop, List.take_append_drop]
      rw [this]
    · have : nums .u8 l ++ List.take n (List.drop l.length cur.toList) ++ nums .u8 [] ++ List.drop n (List.drop l.length cur.toList) = cur.toList := by
        rw [← h4']
        simp only [nums, List.map_nil, List.append_nil, List.append_assoc]
        rw [List.take_append_drop, List.take_append_drop]
      rw [this]; exact hs
theorem zeros_raw {w1 : World} {v1 : Value} {base : Nat} {l : List Int} {m : Nat} (h : Kd.R (Kd.int .u8) 5 w1 base (fun _ => True) v1 (l ++ List.replicate (m : Int).toNat 0)) (h1 : 1 ≤ m) :
    ∃ g c1, v1 = .slice (some ⟨g, 0, none⟩) (l.length + m) c1 ∧ base ≤ g ∧ c1 ≤ 9223372036854775807 ∧ RawB w1 g c1 l m [] := by
  rcases (Kd.own_of_R h).2 with ⟨_, e1⟩ | ⟨g, cap, cur, e, hb, hg, h1, h2, h3, h4⟩
  · simp at e1; omega
  · have el : (l ++ List.replicate (m : Int).toNat 0).length = l.length + m := by simp
    rw [el] at e h1 h4
    refine ⟨g, cap, e, hb, by simpa [maxLen] using h2, nums .u8 (List.replicate m 0), cur.toList.drop (l.length + m), ?_, by simp [nums], ?_⟩
    · rw [hg]
      have : nums .u8 l ++ nums .u8 (List.replicate m 0) ++ nums .u8 [] ++ List.drop (l.length + m) cur.toList = cur.toList := by
        have h4' : cur.toList.take (l.length + m) = nums .u8 l ++ nums .u8 (List.replicate m 0) := by simpa [encs, nums] using h4
        rw [← h4']
        simp only [nums, List.map_nil, List.append_nil, List.take_append_drop]
      rw [this]
    · have hs : cur.toList.length = cap := by simpa using h3
      simp [nums]; omega
theorem raw_drewN {w : World} {g cap m : Nat} {pre suf : List Int} (h : RawB w g cap pre m suf) (k : Nat) : RawB (w.drewN k) g cap pre m suf := h
theorem raw_lt {w : World} {g cap m : Nat} {pre suf : List Int} (h : RawB w g cap pre m suf) : g < w.heap.size := by
  obtain ⟨_, _, hb, _⟩ := h
  exact (Array.getElem?_eq_some_iff.1 hb).1
def LoopR (g c1 : Nat) (pre D : List Int) (base : Nat) (w : World) (v1 v5 : Value) (wr : World) : Prop :=
  ∃ (f N m : Nat) (suf : List Int), N < 10 ^ f ∧ N < 9223372036854775808 ∧ v1 = .int .i64 (N : Int) ∧ v5 = .int .i64 ((pre.length : Int) + (m : Int) - 1) ∧ (dz f N).length = m ∧ dz f N ++ suf = D ∧ Aside0 (RawB wr g c1 pre m suf) ∧ Aside0 (Below base w wr)
theorem start_pos {w w1 : World} {g c1 m N base : Nat} {l : List Int} (h : RawB w1 g c1 l m []) (hm : (dz 20 N).length = m) (hN : N < 9223372036854775808) (hb : Below base w w1) :
    LoopR g c1 l (dz 20 N) base w (.int .i64 (N : Int)) (.int .i64 ((l.length : Int) + ((m : Int) - 1))) w1 :=
  ⟨20, N, m, [], by omega, hN, rfl, by congr 1; omega, hm, by simp, ⟨h⟩, ⟨hb⟩⟩
theorem start_neg {w w1 : World} {g c1 m N base : Nat} {l : List Int} (h : RawB w1 g c1 l m []) (hm : (dz 20 N).length + 1 = m) (hN : N < 9223372036854775808) (hb : Below base w w1) (hg : base ≤ g) :
    LoopR g c1 (l ++ [45]) (dz 20 N) base w (.int .i64 (N : Int)) (.int .i64 ((l.length : Int) + ((m : Int) - 1))) (w1.setCell ⟨g, l.length, none⟩ (.int .u8 45)) := by
  subst hm
  obtain ⟨h1, h2⟩ := raw_sign h 45
  exact ⟨20, N, (dz 20 N).length, [], by omega, hN, rfl, by congr 1; simp; omega, rfl, by simp, ⟨h1⟩, ⟨hb.grown h2 (by have := raw_lt h; omega) (fun k hk => by obtain rfl := Option.some.inj hk; exact hg)⟩⟩
theorem round_step {w wr : World} {g c1 m N base f : Nat} {pre suf D : List Int} (hN : N < 10 ^ (f + 1)) (hN2 : N < 9223372036854775808) (hz : N ≠ 0) (hm2 : (dz f (N / 10)).length = m) (hD : dz (f + 1) N ++ suf = D) (h : RawB wr g c1 pre (m + 1) suf) (hb : Below base w wr) (hg : base ≤ g) :
    LoopR g c1 pre D base w (.int .i64 ((N : Int) / 10)) (.int .i64 ((pre.length : Int) + (m : Int) - 1)) (wr.setCell ⟨g, pre.length + m, none⟩ (.int .u8 ((N : Int) % 10 + 48))) := by
  rw [show (N : Int) % 10 + 48 = 48 + ((N % 10 : Nat) : Int) by omega]
  obtain ⟨h1, h2⟩ := raw_back h (48 + ((N % 10 : Nat) : Int))
  refine ⟨f, N / 10, m, _, by rw [Nat.pow_succ] at hN; omega, by omega, by congr 1, rfl, hm2, ?_, ⟨h1⟩, ⟨hb.grown h2 (by have := raw_lt h; omega) (fun k hk => by obtain rfl := Option.some.inj hk; exact hg)⟩⟩
  rw [← hD, dz, if_neg hz]
  simp
theorem dz_zero : ∀ f, dz f 0 = []
  | 0 => rfl
  | f + 1 => by simp [dz]
set_option maxRecDepth 20000 in
set_option maxHeartbeats 2000000 in
theorem appendint_calls (v : Value) (l : List Int) (n : Int) (base : Nat) (w : World) (hv : Kd.R (Kd.int .u8) 5 w base (fun _ => True) v l) (hbase : base ≤ w.heap.size) (hl : l.length + 20 ≤ 140737488355328) (hn : -9223372036854775808 ≤ n ∧ n ≤ 9223372036854775807)
    (hlen : tdstrconv_LenInt.f n = some ((itoa n).length : Int)) :
    Calls Try.prog 57 #[v, .int .i64 n] w fun e w' => ∃ v0_, e = .returned v0_ ∧ Kd.R (Kd.int .u8) 5 w' base (fun _ => True) v0_ (l ++ itoa n) ∧ Below base w w' := by
  obtain ⟨A, cp, rfl, hA⟩ : ∃ A cp, v = .slice A l.length cp ∧ (l.length ≤ cp ∧ cp ≤ 9223372036854775807 ∧ (A = none → cp = 0) ∧ ∀ ad, A = some ad → ∃ g, ad = ⟨g, 0, none⟩ ∧ base ≤ g) := by
    rcases (Kd.own_of_R hv).2 with ⟨e, e1⟩ | ⟨g, cap, cur, e, hb, hg, h1, h2, h3, h4⟩
    · exact ⟨none, 0, by rw [e, e1], by omega, by omega, fun _ => rfl, fun _ h => by cases h⟩
    · exact ⟨some ⟨g, 0, none⟩, cap, e, h1, by simpa [maxLen] using h2, fun h => (by cases h), fun ad h => by cases h; exact ⟨g, rfl, hb⟩⟩
  have HV := Aside0.mk hv
  have HL := Aside0.mk hlen
  have HA := Aside0.mk hA
  clear hv hlen hA
  go_enter Try.func57, Try.ntmps57
  by_cases h0 : n = 0
  · subst h0
    go_wp2_with ((with_reducible refine gate_builtin (b := .append) (xs := #[.tmp 9, .tmp 10]) rfl ?_); at_builtin; refine Kd.R_append (Kd.int .u8) (w0 := w) base rfl (.tmp 9) (.tmp 10) 24 5 (.int .u8 0) 1 rfl Try.underlying24 info5 rfl (by decide) (by omega) (.slice A l.length cp) l 48 [.int .u8 48] (fun _ => True) (fun _ => False) rfl rfl rfl (fun _ hk => hk.elim) (fun _ _ => trivial) HV.out (Below.refl _ _) hbase (by omega) ?_; intro v1 w1 ho hb hg hat; have HO := Aside0.mk ho; have HB := Aside0.mk hb; clear ho hb hg hat)
    go_ret
    exact ⟨_, rfl, HO.out, HB.out⟩
  · by_cases h1 : n = -9223372036854775808
    · subst h1
      go_wp2_with (at_builtin; refine print_append_str (w0 := w) base rfl (.tmp 14) _ 24 9 5 rfl Try.underlying24 Try.underlying9 info5 (.slice A l.length cp) l ⟨#[45, 57, 50, 50, 51, 51, 55, 50, 48, 51, 54, 56, 53, 52, 55, 55, 53, 56, 48, 56]⟩ rfl rfl (Kd.own_of_R HV.out) (Below.refl _ _) hbase hl ?_; intro v1 w1 ho0 hb hg; have ho := Kd.R_of_own (h1 := fun _ => rfl) (ok := fun _ => True) ho0 (fun _ _ => trivial); clear ho0; have HO := Aside0.mk ho; have HB := Aside0.mk hb; clear ho hb hg)
      go_ret
      exact ⟨_, rfl, HO.out, HB.out⟩
    · obtain ⟨m, hm⟩ : ∃ m, (itoa n).length = m := ⟨_, rfl⟩
      rw [hm] at HL
      have hm20 : 1 ≤ m ∧ m ≤ 20 := by rw [← hm]; exact itoa_len n h0 hn
      by_cases hc : (cp : Int) < (l.length : Int) + (m : Int)
      · by_cases h2 : n < 0
        · skip
          have hm' : (dz 20 n.natAbs).length + 1 = m := by rw [← hm]; unfold itoa; rw [if_neg h0, if_pos h2]; rfl
          go_wp2_with (first | (go_at_call 45; (with_reducible refine (tdstrconv_LenInt.calls n _ _ HL.out).mono ?_); rintro e w' ⟨rfl, ⟨nd, rfl⟩⟩) | (at_builtin; refine Kd.R_append_zeros (Kd.int .u8) (w0 := w) base rfl (.tmp 26) (.tmp 27) 24 3 5 (.int .u8 0) 1 rfl Try.underlying24 Try.underlying3 info5 rfl (by decide) (by omega) (.slice A l.length cp) l (0 : Int) (m : Int) (fun _ => True) rfl rfl rfl (fun _ _ => trivial) (Kd.R_drewN HV.out _) (by omega) (pw_below_drewN (Below.refl _ _) _) hbase (by simp; omega) ?_; intro v1 w1 ho hb hg hat; obtain ⟨g, c1, rfl, hg1, hc1, hraw⟩ := zeros_raw ho hm20.1; obtain ⟨⟨cv, hcv⟩, hfv⟩ := raw_cell hraw l.length (by omega); have HRW := Aside0.mk hraw; have HB := Aside0.mk hb; clear ho hb hg hat hraw))
          have HS := Aside0.mk (start_neg HRW.out hm' (by omega) HB.out hg1)
          obtain ⟨pre, hpre⟩ : ∃ p, p = l ++ [45] := ⟨_, rfl⟩
          rw [← hpre] at HS
          have HF := Aside0.mk (show l ++ itoa n = pre ++ dz 20 n.natAbs by rw [hpre]; unfold itoa; rw [if_neg h0, if_pos h2]; simp)
          have HFL := Aside0.mk (show l.length + m = (pre ++ dz 20 n.natAbs).length by rw [← HF.out, List.length_append, hm])
          clear hpre
          go_loopw [1, 5] (fun v1 v5 wr => LoopR g c1 pre (dz 20 n.natAbs) base w v1 v5 wr) (fun v1 _ _ => (intOf v1).toNat)
          case atStart => rw [show -n = ((n.natAbs : Nat) : Int) by omega]; exact HS.out
          case round =>
            obtain ⟨f, N, m', suf, hN, hN2, rfl, rfl, hlen, hD, HRX, HBX⟩ := hrel
            by_cases hz : N = 0
            · subst hz
              rw [dz_zero] at hlen hD
              obtain rfl : m' = 0 := by simpa using hlen.symm
              obtain rfl : suf = dz 20 n.natAbs := by simpa using hD
              go_wp2
              go_ret
              refine ⟨_, rfl, ?_, HBX.out⟩
              rw [HF.out, HFL.out]
              exact raw_done HRX.out hg1 hc1
            · obtain ⟨f', rfl⟩ : ∃ f', f = f' + 1 := by
                cases f with
                | zero => exact absurd hN (by omega)
                | succ f' => exact ⟨f', rfl⟩
              have hd : dz (f' + 1) N = dz f' (N / 10) ++ [(48 + ((N % 10 : Nat) : Int) : Int)] := by rw [dz, if_neg hz]
              obtain ⟨m'', hm2⟩ : ∃ k, (dz f' (N / 10)).length = k := ⟨_, rfl⟩
              obtain rfl : m' = m'' + 1 := by rw [← hlen, hd]; simp [hm2]
              obtain ⟨⟨cw, hcw⟩, hfw⟩ := raw_cell HRX.out (pre.length + m'') (by omega)
              rw [show ((pre.length : Int) + ((m'' + 1 : Nat) : Int) - 1) = ((pre.length + m'' : Nat) : Int) by omega]
              have hjl : pre.length + m'' < l.length + m := by
                have h1 := HFL.out
                rw [List.length_append, ← hD, List.length_append, hlen] at h1
                omega
              have HST := Aside0.mk (round_step (w := w) hN hN2 hz hm2 hD HRX.out HBX.out hg1)
              go_wp2
              go_roundw
              case rel => exact HST.out
              case measure => simp [intOf]; omega
        · skip
          have hm' : (dz 20 n.natAbs).length = m := by rw [← hm]; unfold itoa; rw [if_neg h0, if_neg h2]
          go_wp2_with (first | (go_at_call 45; (with_reducible refine (tdstrconv_LenInt.calls n _ _ HL.out).mono ?_); rintro e w' ⟨rfl, ⟨nd, rfl⟩⟩) | (at_builtin; refine Kd.R_append_zeros (Kd.int .u8) (w0 := w) base rfl (.tmp 26) (.tmp 27) 24 3 5 (.int .u8 0) 1 rfl Try.underlying24 Try.underlying3 info5 rfl (by decide) (by omega) (.slice A l.length cp) l (0 : Int) (m : Int) (fun _ => True) rfl rfl rfl (fun _ _ => trivial) (Kd.R_drewN HV.out _) (by omega) (pw_below_drewN (Below.refl _ _) _) hbase (by simp; omega) ?_; intro v1 w1 ho hb hg hat; obtain ⟨g, c1, rfl, hg1, hc1, hraw⟩ := zeros_raw ho hm20.1; obtain ⟨⟨cv, hcv⟩, hfv⟩ := raw_cell hraw l.length (by omega); have HRW := Aside0.mk hraw; have HB := Aside0.mk hb; clear ho hb hg hat hraw))
          have HS := Aside0.mk (start_pos HRW.out hm' (by omega) HB.out)
          have hna : ((n.natAbs : Nat) : Int) = n := by omega
          obtain ⟨pre, hpre⟩ : ∃ p, p = l := ⟨_, rfl⟩
          have HPL := Aside0.mk (show (pre.length : Int) = (l.length : Int) by rw [hpre])
          rw [← hpre] at HS
          have HF := Aside0.mk (show l ++ itoa n = pre ++ dz 20 n.natAbs by rw [hpre]; unfold itoa; rw [if_neg h0, if_neg (by omega)])
          have HFL := Aside0.mk (show l.length + m = (pre ++ dz 20 n.natAbs).length by rw [← HF.out, List.length_append, hm])
          clear hpre
          go_loopw [1, 5] (fun v1 v5 wr => LoopR g c1 pre (dz 20 n.natAbs) base w v1 v5 wr) (fun v1 _ _ => (intOf v1).toNat)
          case atStart => have h9 := HS.out; rw [hna, HPL.out] at h9; exact h9
          case round =>
            obtain ⟨f, N, m', suf, hN, hN2, rfl, rfl, hlen, hD, HRX, HBX⟩ := hrel
            by_cases hz : N = 0
            · subst hz
              rw [dz_zero] at hlen hD
              obtain rfl : m' = 0 := by simpa using hlen.symm
              obtain rfl : suf = dz 20 n.natAbs := by simpa using hD
              go_wp2
              go_ret
              refine ⟨_, rfl, ?_, HBX.out⟩
              rw [HF.out, HFL.out]
              exact raw_done HRX.out hg1 hc1
            · obtain ⟨f', rfl⟩ : ∃ f', f = f' + 1 := by
                cases f with
                | zero => exact absurd hN (by omega)
                | succ f' => exact ⟨f', rfl⟩
              have hd : dz (f' + 1) N = dz f' (N / 10) ++ [(48 + ((N % 10 : Nat) : Int) : Int)] := by rw [dz, if_neg hz]
              obtain ⟨m'', hm2⟩ : ∃ k, (dz f' (N / 10)).length = k := ⟨_, rfl⟩
              obtain rfl : m' = m'' + 1 := by rw [← hlen, hd]; simp [hm2]
              obtain ⟨⟨cw, hcw⟩, hfw⟩ := raw_cell HRX.out (pre.length + m'') (by omega)
              rw [show ((pre.length : Int) + ((m'' + 1 : Nat) : Int) - 1) = ((pre.length + m'' : Nat) : Int) by omega]
              have hjl : pre.length + m'' < l.length + m := by
                have h1 := HFL.out
                rw [List.length_append, ← hD, List.length_append, hlen] at h1
                omega
              have HST := Aside0.mk (round_step (w := w) hN hN2 hz hm2 hD HRX.out HBX.out hg1)
              go_wp2
              go_roundw
              case rel => exact HST.out
              case measure => simp [intOf]; omega
      · by_cases h2 : n < 0
        · skip
          have hm' : (dz 20 n.natAbs).length + 1 = m := by rw [← hm]; unfold itoa; rw [if_neg h0, if_pos h2]; rfl
          obtain ⟨g, rfl, hg1⟩ : ∃ g, A = some ⟨g, 0, none⟩ ∧ base ≤ g := by
            cases A with
            | none => have := HA.out.2.2.1 rfl; omega
            | some ad => obtain ⟨g, rfl, h⟩ := HA.out.2.2.2 ad rfl; exact ⟨g, rfl, h⟩
          have hc1 := HA.out.2.1
          have hraw := raw_of_R HV.out (n := m) (by omega)
          have HRW := Aside0.mk hraw
          obtain ⟨⟨cv, hcv⟩, hfv⟩ := raw_cell hraw l.length (by omega)
          clear hraw
          go_wp2_with (go_at_call 45; (with_reducible refine (tdstrconv_LenInt.calls n _ _ HL.out).mono ?_); rintro e w' ⟨rfl, ⟨nd, rfl⟩⟩)
          have HS := Aside0.mk (fun k : Nat => start_neg (raw_drewN HRW.out k) hm' (by omega) (pw_below_drewN (Below.refl base w) k) hg1)
          obtain ⟨pre, hpre⟩ : ∃ p, p = l ++ [45] := ⟨_, rfl⟩
          rw [← hpre] at HS
          have HF := Aside0.mk (show l ++ itoa n = pre ++ dz 20 n.natAbs by rw [hpre]; unfold itoa; rw [if_neg h0, if_pos h2]; simp)
          have HFL := Aside0.mk (show l.length + m = (pre ++ dz 20 n.natAbs).length by rw [← HF.out, List.length_append, hm])
          clear hpre
          go_loopw [1, 5] (fun v1 v5 wr => LoopR g cp pre (dz 20 n.natAbs) base w v1 v5 wr) (fun v1 _ _ => (intOf v1).toNat)
          case atStart => rw [show -n = ((n.natAbs : Nat) : Int) by omega]; exact HS.out _
          case round =>
            obtain ⟨f, N, m', suf, hN, hN2, rfl, rfl, hlen, hD, HRX, HBX⟩ := hrel
            by_cases hz : N = 0
            · subst hz
              rw [dz_zero] at hlen hD
              obtain rfl : m' = 0 := by simpa using hlen.symm
              obtain rfl : suf = dz 20 n.natAbs := by simpa using hD
              go_wp2
              go_ret
              refine ⟨_, rfl, ?_, HBX.out⟩
              rw [HF.out, HFL.out]
              exact raw_done HRX.out hg1 hc1
            · obtain ⟨f', rfl⟩ : ∃ f', f = f' + 1 := by
                cases f with
                | zero => exact absurd hN (by omega)
                | succ f' => exact ⟨f', rfl⟩
              have hd : dz (f' + 1) N = dz f' (N / 10) ++ [(48 + ((N % 10 : Nat) : Int) : Int)] := by rw [dz, if_neg hz]
              obtain ⟨m'', hm2⟩ : ∃ k, (dz f' (N / 10)).length = k := ⟨_, rfl⟩
              obtain rfl : m' = m'' + 1 := by rw [← hlen, hd]; simp [hm2]
              obtain ⟨⟨cw, hcw⟩, hfw⟩ := raw_cell HRX.out (pre.length + m'') (by omega)
              rw [show ((pre.length : Int) + ((m'' + 1 : Nat) : Int) - 1) = ((pre.length + m'' : Nat) : Int) by omega]
              have hjl : pre.length + m'' < l.length + m := by
                have h1 := HFL.out
                rw [List.length_append, ← hD, List.length_append, hlen] at h1
                omega
              have HST := Aside0.mk (round_step (w := w) hN hN2 hz hm2 hD HRX.out HBX.out hg1)
              go_wp2
              go_roundw
              case rel => exact HST.out
              case measure => simp [intOf]; omega
        · skip
          have hm' : (dz 20 n.natAbs).length = m := by rw [← hm]; unfold itoa; rw [if_neg h0, if_neg h2]
          obtain ⟨g, rfl, hg1⟩ : ∃ g, A = some ⟨g, 0, none⟩ ∧ base ≤ g := by
            cases A with
            | none => have := HA.out.2.2.1 rfl; omega
            | some ad => obtain ⟨g, rfl, h⟩ := HA.out.2.2.2 ad rfl; exact ⟨g, rfl, h⟩
          have hc1 := HA.out.2.1
          have hraw := raw_of_R HV.out (n := m) (by omega)
          have HRW := Aside0.mk hraw
          obtain ⟨⟨cv, hcv⟩, hfv⟩ := raw_cell hraw l.length (by omega)
          clear hraw
          go_wp2_with (go_at_call 45; (with_reducible refine (tdstrconv_LenInt.calls n _ _ HL.out).mono ?_); rintro e w' ⟨rfl, ⟨nd, rfl⟩⟩)
          have HS := Aside0.mk (fun k : Nat => start_pos (raw_drewN HRW.out k) hm' (by omega) (pw_below_drewN (Below.refl base w) k))
          have hna : ((n.natAbs : Nat) : Int) = n := by omega
          obtain ⟨pre, hpre⟩ : ∃ p, p = l := ⟨_, rfl⟩
          have HPL := Aside0.mk (show (pre.length : Int) = (l.length : Int) by rw [hpre])
          rw [← hpre] at HS
          have HF := Aside0.mk (show l ++ itoa n = pre ++ dz 20 n.natAbs by rw [hpre]; unfold itoa; rw [if_neg h0, if_neg (by omega)])
          have HFL := Aside0.mk (show l.length + m = (pre ++ dz 20 n.natAbs).length by rw [← HF.out, List.length_append, hm])
          clear hpre
          go_loopw [1, 5] (fun v1 v5 wr => LoopR g cp pre (dz 20 n.natAbs) base w v1 v5 wr) (fun v1 _ _ => (intOf v1).toNat)
          case atStart => have h9 := HS.out; rw [hna, HPL.out] at h9; exact h9 _
          case round =>
            obtain ⟨f, N, m', suf, hN, hN2, rfl, rfl, hlen, hD, HRX, HBX⟩ := hrel
            by_cases hz : N = 0
            · subst hz
              rw [dz_zero] at hlen hD
              obtain rfl : m' = 0 := by simpa using hlen.symm
              obtain rfl : suf = dz 20 n.natAbs := by simpa using hD
              go_wp2
              go_ret
              refine ⟨_, rfl, ?_, HBX.out⟩
              rw [HF.out, HFL.out]
              exact raw_done HRX.out hg1 hc1
            · obtain ⟨f', rfl⟩ : ∃ f', f = f' + 1 := by
                cases f with
                | zero => exact absurd hN (by omega)
                | succ f' => exact ⟨f', rfl⟩
              have hd : dz (f' + 1) N = dz f' (N / 10) ++ [(48 + ((N % 10 : Nat) : Int) : Int)] := by rw [dz, if_neg hz]
              obtain ⟨m'', hm2⟩ : ∃ k, (dz f' (N / 10)).length = k := ⟨_, rfl⟩
              obtain rfl : m' = m'' + 1 := by rw [← hlen, hd]; simp [hm2]
              obtain ⟨⟨cw, hcw⟩, hfw⟩ := raw_cell HRX.out (pre.length + m'') (by omega)
              rw [show ((pre.length : Int) + ((m'' + 1 : Nat) : Int) - 1) = ((pre.length + m'' : Nat) : Int) by omega]
              have hjl : pre.length + m'' < l.length + m := by
                have h1 := HFL.out
                rw [List.length_append, ← hD, List.length_append, hlen] at h1
                omega
              have HST := Aside0.mk (round_step (w := w) hN hN2 hz hm2 hD HRX.out HBX.out hg1)
              go_wp2
              go_roundw
              case rel => exact HST.out
              case measure => simp [intOf]; omega
def impl_WriteInt.f (l0 : List Int) (a1 : Int) : Option (List Int) := if l0.length + 20 ≤ 140737488355327 ∧ (-9223372036854775808 ≤ a1 ∧ a1 ≤ 9223372036854775807) ∧ tdstrconv_LenInt.f a1 = some ((itoa a1).length : Int) then some (l0 ++ itoa a1) else none
set_option maxHeartbeats 1000000 in
theorem impl_WriteInt.calls (A0 : Option Addr) (c0 : Nat) (l0 : List Int) (a1 : Int) (r : List Int) (w : World) (hr0 : Kd.C (Kd.int .u8) w A0 l0.length l0) (hc0 : l0.length ≤ c0) (h : impl_WriteInt.f l0 a1 = some r) :
    Calls Try.prog 28 #[.slice A0 l0.length c0, .int .i64 a1] w fun e w' => ∃ v0_ : Value, e = .returned (v0_) ∧ Kd.R (Kd.int .u8) 5 w' w.heap.size (fun _ => True) v0_ r ∧ Below w.heap.size w w' := by
  unfold impl_WriteInt.f at h
  by_cases hl : l0.length + 20 ≤ 140737488355327 ∧ (-9223372036854775808 ≤ a1 ∧ a1 ≤ 9223372036854775807) ∧ tdstrconv_LenInt.f a1 = some ((itoa a1).length : Int)
  · rw [if_pos hl] at h
    obtain rfl := Option.some.inj h
    clear h
    obtain ⟨hl, ha, hlen⟩ := hl
    have ho : impl_own.f l0 = some l0 := by unfold impl_own.f; simp; omega
    have HO := Aside0.mk ho
    have HR := Aside0.mk hr0
    have HLEN := Aside0.mk hlen
    clear ho hr0 hlen
    go_enter Try.func28, Try.ntmps28
    go_wp2_with fail
    refine (impl_own.calls A0 c0 l0 l0 w HR.out hc0 HO.out).mono ?_
    rintro e w1 ⟨v, rfl, hv, hb⟩
    have HV := Aside0.mk hv
    have HB := Aside0.mk hb
    clear hv hb
    go_wp2_with fail
    refine (appendint_calls v l0 a1 w.heap.size w1 HV.out HB.out.size (by omega) ha HLEN.out).mono ?_
    rintro e w2 ⟨v2, rfl, h2, h3⟩
    have HR2 := Aside0.mk h2
    have HB2 := Aside0.mk h3
    clear h2 h3
    go_wp2
    go_ret
    exact ⟨_, rfl, HR2.out, HB.out.trans HB2.out⟩
  · rw [if_neg hl] at h
    cases h
end Go.Proofs.Yteklgpjdcdkdpaa.Own
