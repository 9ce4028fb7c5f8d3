/- The contract of ParseDecimal (and of impl.ReadDecimal) for a text of a sign perhaps, digits, and a point with decimals perhaps, at most 17 bytes, read whole. -/
import Derived.Test.YtipfnfhglhflgaaDoorClen
import Derived.Test.YtipfnfhglhflgaaDoorOwn
import Derived.Test.YtipfnfhglhflgaaDoorCFlTab
import Derived.Outline
namespace Go.Proofs.YtipfnfhglhflgaaDoor.Own
open Go.RowKit Go.Proofs.YtipfnfhglhflgaaDoorW.PrintWords Go.Proofs.YtipfnfhglhflgaaDoorW.PrintLast
set_option linter.unusedVariables false
set_option linter.unusedSimpArgs false
/-- Where what is read ends, where the first digit is that is no 0, where the point is, and the digits' number. -/
def scanD : List Int → Nat → Option Nat → Option Nat → Nat → Nat × Option Nat × Option Nat × Nat
  | [], i, st, d, n => (i, st, d, n)
  | c :: t, i, st, d, n =>
    if 48 ≤ c ∧ c ≤ 57 then (if st = none then (if 49 ≤ c then scanD t (i + 1) (some i) d (c - 48).toNat else scanD t (i + 1) none d n) else scanD t (i + 1) st d (n * 10 + (c - 48).toNat))
    else if d = none ∧ c = 46 then scanD t (i + 1) st (some i) n else (i, st, d, n)
theorem scanD_ge : ∀ (l : List Int) (i : Nat) (st d : Option Nat) (n : Nat), st ≠ none → n ≤ (scanD l i st d n).2.2.2
  | [], i, st, d, n, _ => Nat.le_refl _
  | c :: t, i, st, d, n, h => by
    unfold scanD
    split
    · try rw [if_neg h]
      have := scanD_ge t (i + 1) st d (n * 10 + (c - 48).toNat) h
      omega
    · split
      · exact scanD_ge t (i + 1) st (some i) n h
      · exact Nat.le_refl _
theorem scanD_end : ∀ (l : List Int) (i : Nat) (st d : Option Nat) (n : Nat), (scanD l i st d n).1 ≤ i + l.length
  | [], i, st, d, n => Nat.le_refl _
  | c :: t, i, st, d, n => by
    unfold scanD
    simp only [List.length_cons]
    split
    · split
      · split
        · have := scanD_end t (i + 1) (some i) d (c - 48).toNat; omega
        · have := scanD_end t (i + 1) none d n; omega
      · have := scanD_end t (i + 1) st d (n * 10 + (c - 48).toNat); omega
    · split
      · have := scanD_end t (i + 1) st (some i) n; omega
      · simp
def xDec (q p : Nat) (L : Int) : Int := (q : Int) - (p : Int) - L + (if q < p then 1 else 0)
theorem unary_neg_float (k : FloatKind) (b : Nat) : Op.unary .neg (.float k b) = pure (.float k (Op.negFloat k b)) := rfl
def optV : Option Nat → Value
  | none => .int .i64 (-1)
  | some p => .int .i64 (p : Int)
def sgnD (neg : Bool) : Nat := if neg = true then 13830554455654793216 else 4607182418800017408
theorem sgnD_true : sgnD true = 13830554455654793216 := if_pos rfl
theorem sgnD_false : sgnD false = 4607182418800017408 := if_neg (by simp)
theorem digD {n : Nat} {c : Int} (h : 48 ≤ c ∧ c ≤ 57) (hn : n * 10 + (c - 48).toNat < 10000000000000000) :
    decide (48 ≤ c) = true ∧ decide (c ≤ 57) = true ∧ (c - 48) % 256 = c - 48 ∧ IntKind.u64.wrap (c - 48) = c - 48 ∧ IntKind.u64.wrap ((n : Int) * 10) = (n : Int) * 10 ∧ IntKind.u64.wrap ((n : Int) * 10 + (c - 48)) = ((n * 10 + (c - 48).toNat : Nat) : Int) := by
  have hw : ∀ x : Int, 0 ≤ x → x < 18446744073709551616 → IntKind.u64.wrap x = x := fun x h0 h1 => by
    have e : IntKind.u64.wrap x = x % 18446744073709551616 := by simp [IntKind.wrap, IntKind.bits, IntKind.signed]
    rw [e]; omega
  refine ⟨decide_eq_true h.1, decide_eq_true h.2, by omega, hw _ (by omega) (by omega), hw _ (by omega) (by omega), ?_⟩
  rw [hw _ (by omega) (by omega)]; omega
theorem dig_castD {m : Nat} {c : Int} (h : 48 ≤ c) : (m : Int) * 10 + max (c - 48) 0 = ((m * 10 + (c - 48).toNat : Nat) : Int) := by omega
theorem one_castD {c : Int} (h : 48 ≤ c) : c - 48 = (((c - 48).toNat : Nat) : Int) := by omega
theorem measD {i N : Nat} (h : i < N) : N - (intOf (.int .i64 ((i : Int) + 1))).toNat < N - (intOf (.int .i64 (i : Int))).toNat := by
  simp only [intOf]
  omega
theorem optI {p : Nat} : ((p : Int) == -1) = false ∧ ((p : Int) != -1) = true ∧ ¬ ((p : Int) = -1) := by
  have : ¬ ((p : Int) = -1) := by omega
  exact ⟨beq_false_of_ne this, by simp only [bne, beq_false_of_ne this]; rfl, this⟩
theorem expD {k : Nat} (h1 : 1 ≤ k) (h2 : k ≤ 22) : ¬ (k = 0) ∧ decide ((0 : Int) ≤ -(k : Int)) = false ∧ decide ((-22 : Int) ≤ -(k : Int)) = true ∧ decide (-(k : Int) < 0) = true ∧ (-(-(k : Int))) = (k : Int) ∧ ((k : Int) ≤ 22) ∧ 0 < k ∧ (decide ((1023 : Int) < -(k : Int)) = false ∧ decide (-(k : Int) < -1022) = false) ∧ (decide (k = 0) = false ∧ decide (0 < k) = true ∧ decide ((k : Int) ≤ 22) = true ∧ decide ((k : Int) < 23) = true ∧ (0 : Int) ≤ (k : Int)) :=
  ⟨by omega, decide_eq_false (by omega), decide_eq_true (by omega), decide_eq_true (by omega), by omega, by omega, by omega, ⟨decide_eq_false (by omega), decide_eq_false (by omega)⟩, ⟨decide_eq_false (by omega), decide_eq_true (by omega), decide_eq_true (by omega), decide_eq_true (by omega), by omega⟩⟩
set_option maxRecDepth 20000 in
set_option maxHeartbeats 4000000 in
theorem parsedec_zero (g c0 : Nat) (l : List Int) (s n : Nat) (neg : Bool) (res tb : Nat) (w : World) (hat : ∀ k, k < l.length → w.cell? ⟨g, k, none⟩ = some (.int .u8 (l.getD k 0))) (hc0 : l.length ≤ c0) (hl : l.length ≤ 17)
    (hsn : s = (if neg = true then 1 else 0)) (hsl : s < l.length) (hsg : if neg = true then l.getD 0 0 = 45 else l.getD 0 0 ≠ 45)
    (hsc : scanD (l.drop s) s none none 0 = (l.length, none, none, n)) (hn : n < 10000000000000000) (hres : res = 0) :
    Calls Tryd.prog 14 #[.slice (some ⟨g, 0, none⟩) l.length c0] w fun ee w' => ee = .returned (.tuple #[.float .f64 res, .int .i64 (l.length : Int)]) ∧ Drawn0 w w' := by
  have HAT := Aside0.mk hat
  have HN := Aside0.mk hn
  subst hres
  obtain ⟨N, hN⟩ : ∃ N, N = l.length := ⟨_, rfl⟩
  have HNL := Aside0.mk hN
  have h00 := hat 0 (by omega)
  rw [← hN] at hl hc0 hsl hsc ⊢
  have HSC := Aside0.mk hsc
  have HF := Aside0.mk (show True ∧ True ∧ True from ⟨trivial, trivial, trivial⟩)
  have hN0 : (0 : Int) < (N : Int) := by omega
  have hN0b : decide ((0 : Int) < (N : Int)) = true := decide_eq_true hN0
  cases neg
  case true =>
    simp only [if_true] at hsn hsg
    rw [hsg] at h00
    subst hsn
    clear hat hsc hn hsg hN
    go_enter Tryd.func14, Tryd.ntmps14
    go_wp2
    go_loopw [4, 6, 7, 8] (fun v4 v6 v7 v8 wr => ∃ (i : Nat) (st d : Option Nat) (m : Nat), v4 = .int .i64 (i : Int) ∧ v6 = optV st ∧ v7 = optV d ∧ v8 = .int .u64 (m : Int) ∧ w = wr ∧ Aside0 (i ≤ N ∧ scanD (l.drop i) i st d m = (N, none, none, n) ∧ (∀ p, st = some p → p < i))) (fun v4 _ _ _ _ => N - (intOf v4).toNat)
    case atStart => exact ⟨1, none, none, 0, rfl, rfl, rfl, rfl, rfl, ⟨by omega, HSC.out, fun _ h => by cases h⟩⟩
    case round =>
      obtain ⟨i, st, d, m, rfl, rfl, rfl, rfl, rfl, HH⟩ := hrel
      obtain ⟨q1, q2, q3⟩ := HH.out
      clear HH
      by_cases hlt : i < N
      · have hci := HAT.out i (by have := HNL.out; omega)
        have hdr : l.drop i = l.getD i 0 :: l.drop (i + 1) := by
          have h := HNL.out
          rw [List.drop_eq_getElem_cons (by omega : i < l.length)]
          simp [List.getD_eq_getElem?_getD, List.getElem?_eq_getElem (show i < l.length by omega)]
        rw [hdr] at q2
        clear hdr
        generalize l.getD i 0 = c at hci q2
        have hltb : decide ((i : Int) < (N : Int)) = true := decide_eq_true (by omega)
        have HM := Aside0.mk (measD hlt)
        by_cases hdig : 48 ≤ c ∧ c ≤ 57
        · rw [scanD, if_pos hdig] at q2
          have d1 : decide (48 ≤ c) = true := decide_eq_true hdig.1
          have d2 : decide (c ≤ 57) = true := decide_eq_true hdig.2
          cases st with
          | none =>
            rw [if_pos rfl] at q2
            by_cases h49 : 49 ≤ c
            · rw [if_pos h49] at q2
              have d3 : decide (49 ≤ c) = true := decide_eq_true h49
              obtain ⟨d4, d5, d6, d7, d8, d9⟩ := digD (n := 0) hdig (by omega)
              have HQ := Aside0.mk q2
              have HD := Aside0.mk (one_castD hdig.1)
              have HI := Aside0.mk (show ∀ p, some i = some p → p < i + 1 from fun p h => by cases h; omega)
              clear q1 q2 q3 hdig h49 d4 d5 d8 d9
              try simp only [optV]
              go_wp2
              go_roundw
              case rel => exact ⟨i + 1, some i, d, (c - 48).toNat, rfl, rfl, rfl, congrArg (Value.int .u64) HD.out, by trivial, ⟨hlt, HQ.out, HI.out⟩⟩
              case measure => exact HM.out
            · rw [if_neg h49] at q2
              have d3 : decide (49 ≤ c) = false := decide_eq_false h49
              have HQ := Aside0.mk q2
              clear q1 q2 q3 hdig h49
              try simp only [optV]
              go_wp2
              go_roundw
              case rel => exact ⟨i + 1, none, d, m, rfl, rfl, rfl, rfl, by trivial, ⟨hlt, HQ.out, fun _ h => by cases h⟩⟩
              case measure => exact HM.out
          | some p0 =>
            rw [if_neg (by simp)] at q2
            have hm : m * 10 + (c - 48).toNat < 10000000000000000 := by
              have h1 := scanD_ge (l.drop (i + 1)) (i + 1) (some p0) d (m * 10 + (c - 48).toNat) (by simp)
              rw [q2] at h1
              exact Nat.lt_of_le_of_lt h1 HN.out
            obtain ⟨d4, d5, d6, d7, d8, d9⟩ := digD hdig hm
            obtain ⟨o1, o2, o3⟩ := @optI p0
            have hpi := q3 p0 rfl
            have h18 : decide ((i : Int) - (p0 : Int) < 18) = true := decide_eq_true (by omega)
            have HQ := Aside0.mk q2
            have HD := Aside0.mk (dig_castD (m := m) hdig.1)
            have HI := Aside0.mk (show ∀ p, some p0 = some p → p < i + 1 from fun p h => by cases h; omega)
            clear q1 q2 q3 hdig hm d4 d5
            try simp only [optV]
            go_wp2
            go_roundw
            case rel => exact ⟨i + 1, some p0, d, m * 10 + (c - 48).toNat, rfl, rfl, rfl, congrArg (Value.int .u64) HD.out, by trivial, ⟨hlt, HQ.out, HI.out⟩⟩
            case measure => exact HM.out
        · rw [scanD, if_neg hdig] at q2
          by_cases hpt : d = none ∧ c = 46
          · rw [if_pos hpt] at q2
            obtain ⟨rfl, rfl⟩ := hpt
            have HQ := Aside0.mk q2
            have HI := Aside0.mk (show ∀ p, st = some p → p < i + 1 from fun p h => by have := q3 p h; omega)
            clear q1 q2 q3 hdig
            try simp only [optV]
            go_wp2
            go_roundw
            case rel => exact ⟨i + 1, st, some i, m, rfl, rfl, rfl, rfl, by trivial, ⟨hlt, HQ.out, HI.out⟩⟩
            case measure => exact HM.out
          · rw [if_neg hpt] at q2
            injection q2 with z1 z2
            omega
      · obtain rfl : i = N := by omega
        have hltb : decide ((i : Int) < (i : Int)) = false := decide_eq_false (by omega)
        rw [List.drop_of_length_le (by have := HNL.out; omega)] at q2
        injection q2 with z1 z2
        injection z2 with z2 z3
        injection z3 with z3 z4
        subst z2 z3 z4
        clear hlt
        obtain ⟨g1, g2, g3⟩ := HF.out
        by_cases hN1 : i = 1
        · subst hN1
          clear q1 q3
          try simp only [optV]
          go_wp2
          go_ret2
          exact ⟨rfl, Drawn0.refl _⟩
        · have hb1 : ((i : Int) == 1) = false := beq_false_of_ne (by omega)
          clear q1 q3
          try simp only [optV]
          go_wp2
          go_ret2
          exact ⟨rfl, Drawn0.refl _⟩
  case false =>
    simp only [Bool.false_eq_true, if_false] at hsn hsg
    have hq2 : (l.getD 0 0 == 45) = false := beq_false_of_ne hsg
    subst hsn
    generalize l.getD 0 0 = c at h00 hq2
    clear hat hsc hn hsg hN
    go_enter Tryd.func14, Tryd.ntmps14
    go_wp2
    go_loopw [4, 6, 7, 8] (fun v4 v6 v7 v8 wr => ∃ (i : Nat) (st d : Option Nat) (m : Nat), v4 = .int .i64 (i : Int) ∧ v6 = optV st ∧ v7 = optV d ∧ v8 = .int .u64 (m : Int) ∧ w = wr ∧ Aside0 (i ≤ N ∧ scanD (l.drop i) i st d m = (N, none, none, n) ∧ (∀ p, st = some p → p < i))) (fun v4 _ _ _ _ => N - (intOf v4).toNat)
    case atStart => exact ⟨0, none, none, 0, rfl, rfl, rfl, rfl, rfl, ⟨by omega, HSC.out, fun _ h => by cases h⟩⟩
    case round =>
      obtain ⟨i, st, d, m, rfl, rfl, rfl, rfl, rfl, HH⟩ := hrel
      obtain ⟨q1, q2, q3⟩ := HH.out
      clear HH
      by_cases hlt : i < N
      · have hci := HAT.out i (by have := HNL.out; omega)
        have hdr : l.drop i = l.getD i 0 :: l.drop (i + 1) := by
          have h := HNL.out
          rw [List.drop_eq_getElem_cons (by omega : i < l.length)]
          simp [List.getD_eq_getElem?_getD, List.getElem?_eq_getElem (show i < l.length by omega)]
        rw [hdr] at q2
        clear hdr
        generalize l.getD i 0 = c at hci q2
        have hltb : decide ((i : Int) < (N : Int)) = true := decide_eq_true (by omega)
        have HM := Aside0.mk (measD hlt)
        by_cases hdig : 48 ≤ c ∧ c ≤ 57
        · rw [scanD, if_pos hdig] at q2
          have d1 : decide (48 ≤ c) = true := decide_eq_true hdig.1
          have d2 : decide (c ≤ 57) = true := decide_eq_true hdig.2
          cases st with
          | none =>
            rw [if_pos rfl] at q2
            by_cases h49 : 49 ≤ c
            · rw [if_pos h49] at q2
              have d3 : decide (49 ≤ c) = true := decide_eq_true h49
              obtain ⟨d4, d5, d6, d7, d8, d9⟩ := digD (n := 0) hdig (by omega)
              have HQ := Aside0.mk q2
              have HD := Aside0.mk (one_castD hdig.1)
              have HI := Aside0.mk (show ∀ p, some i = some p → p < i + 1 from fun p h => by cases h; omega)
              clear q1 q2 q3 hdig h49 d4 d5 d8 d9
              try simp only [optV]
              go_wp2
              go_roundw
              case rel => exact ⟨i + 1, some i, d, (c - 48).toNat, rfl, rfl, rfl, congrArg (Value.int .u64) HD.out, by trivial, ⟨hlt, HQ.out, HI.out⟩⟩
              case measure => exact HM.out
            · rw [if_neg h49] at q2
              have d3 : decide (49 ≤ c) = false := decide_eq_false h49
              have HQ := Aside0.mk q2
              clear q1 q2 q3 hdig h49
              try simp only [optV]
              go_wp2
              go_roundw
              case rel => exact ⟨i + 1, none, d, m, rfl, rfl, rfl, rfl, by trivial, ⟨hlt, HQ.out, fun _ h => by cases h⟩⟩
              case measure => exact HM.out
          | some p0 =>
            rw [if_neg (by simp)] at q2
            have hm : m * 10 + (c - 48).toNat < 10000000000000000 := by
              have h1 := scanD_ge (l.drop (i + 1)) (i + 1) (some p0) d (m * 10 + (c - 48).toNat) (by simp)
              rw [q2] at h1
              exact Nat.lt_of_le_of_lt h1 HN.out
            obtain ⟨d4, d5, d6, d7, d8, d9⟩ := digD hdig hm
            obtain ⟨o1, o2, o3⟩ := @optI p0
            have hpi := q3 p0 rfl
            have h18 : decide ((i : Int) - (p0 : Int) < 18) = true := decide_eq_true (by omega)
            have HQ := Aside0.mk q2
            have HD := Aside0.mk (dig_castD (m := m) hdig.1)
            have HI := Aside0.mk (show ∀ p, some p0 = some p → p < i + 1 from fun p h => by cases h; omega)
            clear q1 q2 q3 hdig hm d4 d5
            try simp only [optV]
            go_wp2
            go_roundw
            case rel => exact ⟨i + 1, some p0, d, m * 10 + (c - 48).toNat, rfl, rfl, rfl, congrArg (Value.int .u64) HD.out, by trivial, ⟨hlt, HQ.out, HI.out⟩⟩
            case measure => exact HM.out
        · rw [scanD, if_neg hdig] at q2
          by_cases hpt : d = none ∧ c = 46
          · rw [if_pos hpt] at q2
            obtain ⟨rfl, rfl⟩ := hpt
            have HQ := Aside0.mk q2
            have HI := Aside0.mk (show ∀ p, st = some p → p < i + 1 from fun p h => by have := q3 p h; omega)
            clear q1 q2 q3 hdig
            try simp only [optV]
            go_wp2
            go_roundw
            case rel => exact ⟨i + 1, st, some i, m, rfl, rfl, rfl, rfl, by trivial, ⟨hlt, HQ.out, HI.out⟩⟩
            case measure => exact HM.out
          · rw [if_neg hpt] at q2
            injection q2 with z1 z2
            omega
      · obtain rfl : i = N := by omega
        have hltb : decide ((i : Int) < (i : Int)) = false := decide_eq_false (by omega)
        rw [List.drop_of_length_le (by have := HNL.out; omega)] at q2
        injection q2 with z1 z2
        injection z2 with z2 z3
        injection z3 with z3 z4
        subst z2 z3 z4
        clear hlt
        obtain ⟨g1, g2, g3⟩ := HF.out
        by_cases hN1 : i = 1
        · subst hN1
          clear q1 q3
          try simp only [optV]
          go_wp2
          go_ret2
          exact ⟨rfl, Drawn0.refl _⟩
        · have hb1 : ((i : Int) == 1) = false := beq_false_of_ne (by omega)
          clear q1 q3
          try simp only [optV]
          go_wp2
          go_ret2
          exact ⟨rfl, Drawn0.refl _⟩
set_option maxRecDepth 20000 in
set_option maxHeartbeats 4000000 in
theorem parsedec_whole (g c0 : Nat) (l : List Int) (s n : Nat) (neg : Bool) (res tb : Nat) (p : Nat) (L : Int) (fm : Nat) (w : World) (hat : ∀ k, k < l.length → w.cell? ⟨g, k, none⟩ = some (.int .u8 (l.getD k 0))) (hc0 : l.length ≤ c0) (hl : l.length ≤ 17)
    (hsn : s = (if neg = true then 1 else 0)) (hsl : s < l.length) (hsg : if neg = true then l.getD 0 0 = 45 else l.getD 0 0 ≠ 45)
    (hsc : scanD (l.drop s) s none none 0 = (l.length, (some p), none, n)) (hn : n < 10000000000000000) (hlu : ∀ W : World, Calls Tryd.prog 20 #[.int .u64 (n : Int)] W fun e w2 => e = .returned (.int .i64 L) ∧ Drawn0 W w2) (hx : (l.length : Int) - (p : Int) - L = 0) (hL : 0 ≤ L ∧ L ≤ 20) (hp : p < l.length) (hm1 : Ieee.double.mul (sgnD neg) (floatOfInt .f64 (n : Int)) = some fm) (hT : w.cell? ⟨0, 0, none⟩ = some (.float .f64 tb)) (hm2 : Ieee.double.mul fm tb = some res) :
    Calls Tryd.prog 14 #[.slice (some ⟨g, 0, none⟩) l.length c0] w fun ee w' => ee = .returned (.tuple #[.float .f64 res, .int .i64 (l.length : Int)]) ∧ Drawn0 w w' := by
  have HAT := Aside0.mk hat
  have HN := Aside0.mk hn
  have HLU := Aside0.mk (hlu w)
  have HT := Aside0.mk hT
  have HM2 := Aside0.mk (show ∀ W : World, (binOp .mul 26 (.float .f64 fm) (.float .f64 tb)).run Tryd.prog W = .ok (.float .f64 res) W from fun W => run_float_arith W .mul 26 .f64 _ _ _ hm2)
  obtain ⟨N, hN⟩ : ∃ N, N = l.length := ⟨_, rfl⟩
  have HNL := Aside0.mk hN
  have h00 := hat 0 (by omega)
  rw [← hN] at hl hc0 hsl hsc hx hp ⊢
  have HSC := Aside0.mk hsc
  have HF := Aside0.mk (show (0 ≤ L ∧ L ≤ 20) ∧ p < N ∧ True from ⟨hL, hp, trivial⟩)
  have HX := Aside0.mk hx
  have hN0 : (0 : Int) < (N : Int) := by omega
  have hN0b : decide ((0 : Int) < (N : Int)) = true := decide_eq_true hN0
  cases neg
  case true =>
    rw [sgnD_true] at hm1
    have HM1 := Aside0.mk (show ∀ W : World, (binOp .mul 26 (.float .f64 13830554455654793216) (.float .f64 (floatOfInt .f64 (n : Int)))).run Tryd.prog W = .ok (.float .f64 fm) W from fun W => run_float_arith W .mul 26 .f64 _ _ _ hm1)
    simp only [if_true] at hsn hsg
    rw [hsg] at h00
    subst hsn
    clear hat hsc hn hsg hN hlu hx hL hp hm1 hm2 hT
    go_enter Tryd.func14, Tryd.ntmps14
    go_wp2
    go_loopw [4, 6, 7, 8] (fun v4 v6 v7 v8 wr => ∃ (i : Nat) (st d : Option Nat) (m : Nat), v4 = .int .i64 (i : Int) ∧ v6 = optV st ∧ v7 = optV d ∧ v8 = .int .u64 (m : Int) ∧ w = wr ∧ Aside0 (i ≤ N ∧ scanD (l.drop i) i st d m = (N, (some p), none, n) ∧ (∀ p, st = some p → p < i))) (fun v4 _ _ _ _ => N - (intOf v4).toNat)
    case atStart => exact ⟨1, none, none, 0, rfl, rfl, rfl, rfl, rfl, ⟨by omega, HSC.out, fun _ h => by cases h⟩⟩
    case round =>
      obtain ⟨i, st, d, m, rfl, rfl, rfl, rfl, rfl, HH⟩ := hrel
      obtain ⟨q1, q2, q3⟩ := HH.out
      clear HH
      by_cases hlt : i < N
      · have hci := HAT.out i (by have := HNL.out; omega)
        have hdr : l.drop i = l.getD i 0 :: l.drop (i + 1) := by
          have h := HNL.out
          rw [List.drop_eq_getElem_cons (by omega : i < l.length)]
          simp [List.getD_eq_getElem?_getD, List.getElem?_eq_getElem (show i < l.length by omega)]
        rw [hdr] at q2
        clear hdr
        generalize l.getD i 0 = c at hci q2
        have hltb : decide ((i : Int) < (N : Int)) = true := decide_eq_true (by omega)
        have HM := Aside0.mk (measD hlt)
        by_cases hdig : 48 ≤ c ∧ c ≤ 57
        · rw [scanD, if_pos hdig] at q2
          have d1 : decide (48 ≤ c) = true := decide_eq_true hdig.1
          have d2 : decide (c ≤ 57) = true := decide_eq_true hdig.2
          cases st with
          | none =>
            rw [if_pos rfl] at q2
            by_cases h49 : 49 ≤ c
            · rw [if_pos h49] at q2
              have d3 : decide (49 ≤ c) = true := decide_eq_true h49
              obtain ⟨d4, d5, d6, d7, d8, d9⟩ := digD (n := 0) hdig (by omega)
              have HQ := Aside0.mk q2
              have HD := Aside0.mk (one_castD hdig.1)
              have HI := Aside0.mk (show ∀ p, some i = some p → p < i + 1 from fun p h => by cases h; omega)
              clear q1 q2 q3 hdig h49 d4 d5 d8 d9
              try simp only [optV]
              go_wp2
              go_roundw
              case rel => exact ⟨i + 1, some i, d, (c - 48).toNat, rfl, rfl, rfl, congrArg (Value.int .u64) HD.out, by trivial, ⟨hlt, HQ.out, HI.out⟩⟩
              case measure => exact HM.out
            · rw [if_neg h49] at q2
              have d3 : decide (49 ≤ c) = false := decide_eq_false h49
              have HQ := Aside0.mk q2
              clear q1 q2 q3 hdig h49
              try simp only [optV]
              go_wp2
              go_roundw
              case rel => exact ⟨i + 1, none, d, m, rfl, rfl, rfl, rfl, by trivial, ⟨hlt, HQ.out, fun _ h => by cases h⟩⟩
              case measure => exact HM.out
          | some p0 =>
            rw [if_neg (by simp)] at q2
            have hm : m * 10 + (c - 48).toNat < 10000000000000000 := by
              have h1 := scanD_ge (l.drop (i + 1)) (i + 1) (some p0) d (m * 10 + (c - 48).toNat) (by simp)
              rw [q2] at h1
              exact Nat.lt_of_le_of_lt h1 HN.out
            obtain ⟨d4, d5, d6, d7, d8, d9⟩ := digD hdig hm
            obtain ⟨o1, o2, o3⟩ := @optI p0
            have hpi := q3 p0 rfl
            have h18 : decide ((i : Int) - (p0 : Int) < 18) = true := decide_eq_true (by omega)
            have HQ := Aside0.mk q2
            have HD := Aside0.mk (dig_castD (m := m) hdig.1)
            have HI := Aside0.mk (show ∀ p, some p0 = some p → p < i + 1 from fun p h => by cases h; omega)
            clear q1 q2 q3 hdig hm d4 d5
            try simp only [optV]
            go_wp2
            go_roundw
            case rel => exact ⟨i + 1, some p0, d, m * 10 + (c - 48).toNat, rfl, rfl, rfl, congrArg (Value.int .u64) HD.out, by trivial, ⟨hlt, HQ.out, HI.out⟩⟩
            case measure => exact HM.out
        · rw [scanD, if_neg hdig] at q2
          by_cases hpt : d = none ∧ c = 46
          · rw [if_pos hpt] at q2
            obtain ⟨rfl, rfl⟩ := hpt
            have HQ := Aside0.mk q2
            have HI := Aside0.mk (show ∀ p, st = some p → p < i + 1 from fun p h => by have := q3 p h; omega)
            clear q1 q2 q3 hdig
            try simp only [optV]
            go_wp2
            go_roundw
            case rel => exact ⟨i + 1, st, some i, m, rfl, rfl, rfl, rfl, by trivial, ⟨hlt, HQ.out, HI.out⟩⟩
            case measure => exact HM.out
          · rw [if_neg hpt] at q2
            injection q2 with z1 z2
            omega
      · obtain rfl : i = N := by omega
        have hltb : decide ((i : Int) < (i : Int)) = false := decide_eq_false (by omega)
        rw [List.drop_of_length_le (by have := HNL.out; omega)] at q2
        injection q2 with z1 z2
        injection z2 with z2 z3
        injection z3 with z3 z4
        subst z2 z3 z4
        clear hlt
        obtain ⟨g1, g2, g3⟩ := HF.out
        obtain ⟨o1, o2, o3⟩ := @optI p
        have hLU := HLU.out
        have hm1 := HM1.out
        have hm2 := HM2.out
        have hx := HX.out
        by_cases hN1 : i = 1
        · obtain rfl : p = 0 := by omega
          have hL1 : L = 1 := by omega
          rw [hL1] at hLU
          subst hN1
          clear q1 q3 hx
          try simp only [optV]
          go_wp2_with (go_at_call 20; (with_reducible refine hLU.mono ?_); rintro e_ w_ ⟨rfl, hd_⟩; have HDD := Aside0.mk hd_; have hcell := pw_cell_below hd_.below HT.out; clear hd_)
          first | done | (go_ret2; exact ⟨rfl, HDD.out⟩)
        · have hb1 : ((i : Int) == 1) = false := beq_false_of_ne (by omega)
          have hip : decide (i < p) = false := decide_eq_false (by omega)
          have hip2 : decide ((i : Int) < (p : Int)) = false := decide_eq_false (by omega)
          have hex : (i : Int) - (p : Int) - L = 0 := hx
          clear q1 q3 hx
          try simp only [optV]
          go_wp2_with (go_at_call 20; (with_reducible refine hLU.mono ?_); rintro e_ w_ ⟨rfl, hd_⟩; have HDD := Aside0.mk hd_; have hcell := pw_cell_below hd_.below HT.out; clear hd_)
          first | done | (go_ret2; exact ⟨rfl, HDD.out⟩)
  case false =>
    rw [sgnD_false] at hm1
    have HM1 := Aside0.mk (show ∀ W : World, (binOp .mul 26 (.float .f64 4607182418800017408) (.float .f64 (floatOfInt .f64 (n : Int)))).run Tryd.prog W = .ok (.float .f64 fm) W from fun W => run_float_arith W .mul 26 .f64 _ _ _ hm1)
    simp only [Bool.false_eq_true, if_false] at hsn hsg
    have hq2 : (l.getD 0 0 == 45) = false := beq_false_of_ne hsg
    subst hsn
    generalize l.getD 0 0 = c at h00 hq2
    clear hat hsc hn hsg hN hlu hx hL hp hm1 hm2 hT
    go_enter Tryd.func14, Tryd.ntmps14
    go_wp2
    go_loopw [4, 6, 7, 8] (fun v4 v6 v7 v8 wr => ∃ (i : Nat) (st d : Option Nat) (m : Nat), v4 = .int .i64 (i : Int) ∧ v6 = optV st ∧ v7 = optV d ∧ v8 = .int .u64 (m : Int) ∧ w = wr ∧ Aside0 (i ≤ N ∧ scanD (l.drop i) i st d m = (N, (some p), none, n) ∧ (∀ p, st = some p → p < i))) (fun v4 _ _ _ _ => N - (intOf v4).toNat)
    case atStart => exact ⟨0, none, none, 0, rfl, rfl, rfl, rfl, rfl, ⟨by omega, HSC.out, fun _ h => by cases h⟩⟩
    case round =>
      obtain ⟨i, st, d, m, rfl, rfl, rfl, rfl, rfl, HH⟩ := hrel
      obtain ⟨q1, q2, q3⟩ := HH.out
      clear HH
      by_cases hlt : i < N
      · have hci := HAT.out i (by have := HNL.out; omega)
        have hdr : l.drop i = l.getD i 0 :: l.drop (i + 1) := by
          have h := HNL.out
          rw [List.drop_eq_getElem_cons (by omega : i < l.length)]
          simp [List.getD_eq_getElem?_getD, List.getElem?_eq_getElem (show i < l.length by omega)]
        rw [hdr] at q2
        clear hdr
        generalize l.getD i 0 = c at hci q2
        have hltb : decide ((i : Int) < (N : Int)) = true := decide_eq_true (by omega)
        have HM := Aside0.mk (measD hlt)
        by_cases hdig : 48 ≤ c ∧ c ≤ 57
        · rw [scanD, if_pos hdig] at q2
          have d1 : decide (48 ≤ c) = true := decide_eq_true hdig.1
          have d2 : decide (c ≤ 57) = true := decide_eq_true hdig.2
          cases st with
          | none =>
            rw [if_pos rfl] at q2
            by_cases h49 : 49 ≤ c
            · rw [if_pos h49] at q2
              have d3 : decide (49 ≤ c) = true := decide_eq_true h49
              obtain ⟨d4, d5, d6, d7, d8, d9⟩ := digD (n := 0) hdig (by omega)
              have HQ := Aside0.mk q2
              have HD := Aside0.mk (one_castD hdig.1)
              have HI := Aside0.mk (show ∀ p, some i = some p → p < i + 1 from fun p h => by cases h; omega)
              clear q1 q2 q3 hdig h49 d4 d5 d8 d9
              try simp only [optV]
              go_wp2
              go_roundw
              case rel => exact ⟨i + 1, some i, d, (c - 48).toNat, rfl, rfl, rfl, congrArg (Value.int .u64) HD.out, by trivial, ⟨hlt, HQ.out, HI.out⟩⟩
              case measure => exact HM.out
            · rw [if_neg h49] at q2
              have d3 : decide (49 ≤ c) = false := decide_eq_false h49
              have HQ := Aside0.mk q2
              clear q1 q2 q3 hdig h49
              try simp only [optV]
              go_wp2
              go_roundw
              case rel => exact ⟨i + 1, none, d, m, rfl, rfl, rfl, rfl, by trivial, ⟨hlt, HQ.out, fun _ h => by cases h⟩⟩
              case measure => exact HM.out
          | some p0 =>
            rw [if_neg (by simp)] at q2
            have hm : m * 10 + (c - 48).toNat < 10000000000000000 := by
              have h1 := scanD_ge (l.drop (i + 1)) (i + 1) (some p0) d (m * 10 + (c - 48).toNat) (by simp)
              rw [q2] at h1
              exact Nat.lt_of_le_of_lt h1 HN.out
            obtain ⟨d4, d5, d6, d7, d8, d9⟩ := digD hdig hm
            obtain ⟨o1, o2, o3⟩ := @optI p0
            have hpi := q3 p0 rfl
            have h18 : decide ((i : Int) - (p0 : Int) < 18) = true := decide_eq_true (by omega)
            have HQ := Aside0.mk q2
            have HD := Aside0.mk (dig_castD (m := m) hdig.1)
            have HI := Aside0.mk (show ∀ p, some p0 = some p → p < i + 1 from fun p h => by cases h; omega)
            clear q1 q2 q3 hdig hm d4 d5
            try simp only [optV]
            go_wp2
            go_roundw
            case rel => exact ⟨i + 1, some p0, d, m * 10 + (c - 48).toNat, rfl, rfl, rfl, congrArg (Value.int .u64) HD.out, by trivial, ⟨hlt, HQ.out, HI.out⟩⟩
            case measure => exact HM.out
        · rw [scanD, if_neg hdig] at q2
          by_cases hpt : d = none ∧ c = 46
          · rw [if_pos hpt] at q2
            obtain ⟨rfl, rfl⟩ := hpt
            have HQ := Aside0.mk q2
            have HI := Aside0.mk (show ∀ p, st = some p → p < i + 1 from fun p h => by have := q3 p h; omega)
            clear q1 q2 q3 hdig
            try simp only [optV]
            go_wp2
            go_roundw
            case rel => exact ⟨i + 1, st, some i, m, rfl, rfl, rfl, rfl, by trivial, ⟨hlt, HQ.out, HI.out⟩⟩
            case measure => exact HM.out
          · rw [if_neg hpt] at q2
            injection q2 with z1 z2
            omega
      · obtain rfl : i = N := by omega
        have hltb : decide ((i : Int) < (i : Int)) = false := decide_eq_false (by omega)
        rw [List.drop_of_length_le (by have := HNL.out; omega)] at q2
        injection q2 with z1 z2
        injection z2 with z2 z3
        injection z3 with z3 z4
        subst z2 z3 z4
        clear hlt
        obtain ⟨g1, g2, g3⟩ := HF.out
        obtain ⟨o1, o2, o3⟩ := @optI p
        have hLU := HLU.out
        have hm1 := HM1.out
        have hm2 := HM2.out
        have hx := HX.out
        by_cases hN1 : i = 1
        · obtain rfl : p = 0 := by omega
          have hL1 : L = 1 := by omega
          rw [hL1] at hLU
          subst hN1
          clear q1 q3 hx
          try simp only [optV]
          go_wp2_with (go_at_call 20; (with_reducible refine hLU.mono ?_); rintro e_ w_ ⟨rfl, hd_⟩; have HDD := Aside0.mk hd_; have hcell := pw_cell_below hd_.below HT.out; clear hd_)
          first | done | (go_ret2; exact ⟨rfl, HDD.out⟩)
        · have hb1 : ((i : Int) == 1) = false := beq_false_of_ne (by omega)
          have hip : decide (i < p) = false := decide_eq_false (by omega)
          have hip2 : decide ((i : Int) < (p : Int)) = false := decide_eq_false (by omega)
          have hex : (i : Int) - (p : Int) - L = 0 := hx
          clear q1 q3 hx
          try simp only [optV]
          go_wp2_with (go_at_call 20; (with_reducible refine hLU.mono ?_); rintro e_ w_ ⟨rfl, hd_⟩; have HDD := Aside0.mk hd_; have hcell := pw_cell_below hd_.below HT.out; clear hd_)
          first | done | (go_ret2; exact ⟨rfl, HDD.out⟩)
set_option maxRecDepth 20000 in
set_option maxHeartbeats 4000000 in
theorem parsedec_dec (g c0 : Nat) (l : List Int) (s n : Nat) (neg : Bool) (res tb : Nat) (p q k : Nat) (L : Int) (fm : Nat) (w : World) (hat : ∀ k, k < l.length → w.cell? ⟨g, k, none⟩ = some (.int .u8 (l.getD k 0))) (hc0 : l.length ≤ c0) (hl : l.length ≤ 17)
    (hsn : s = (if neg = true then 1 else 0)) (hsl : s < l.length) (hsg : if neg = true then l.getD 0 0 = 45 else l.getD 0 0 ≠ 45)
    (hsc : scanD (l.drop s) s none none 0 = (l.length, (some p), (some q), n)) (hn : n < 10000000000000000) (hlu : ∀ W : World, Calls Tryd.prog 20 #[.int .u64 (n : Int)] W fun e w2 => e = .returned (.int .i64 L) ∧ Drawn0 W w2) (hx : xDec q p L = -(k : Int)) (hL : 0 ≤ L ∧ L ≤ 20) (hk : 1 ≤ k ∧ k ≤ 22) (hp : 2 ≤ l.length) (hm1 : Ieee.double.mul (sgnD neg) (floatOfInt .f64 (n : Int)) = some fm) (hT : w.cell? ⟨0, k, none⟩ = some (.float .f64 tb)) (hm2 : Ieee.double.div fm tb = some res) :
    Calls Tryd.prog 14 #[.slice (some ⟨g, 0, none⟩) l.length c0] w fun ee w' => ee = .returned (.tuple #[.float .f64 res, .int .i64 (l.length : Int)]) ∧ Drawn0 w w' := by
  have HAT := Aside0.mk hat
  have HN := Aside0.mk hn
  have HLU := Aside0.mk (hlu w)
  have HT := Aside0.mk hT
  have HM2 := Aside0.mk (show ∀ W : World, (binOp .quo 26 (.float .f64 fm) (.float .f64 tb)).run Tryd.prog W = .ok (.float .f64 res) W from fun W => run_float_arith W .quo 26 .f64 _ _ _ hm2)
  obtain ⟨N, hN⟩ : ∃ N, N = l.length := ⟨_, rfl⟩
  have HNL := Aside0.mk hN
  have h00 := hat 0 (by omega)
  rw [← hN] at hl hc0 hsl hsc hp ⊢
  have HSC := Aside0.mk hsc
  have HF := Aside0.mk (show (1 ≤ k) ∧ (k ≤ 22) ∧ 2 ≤ N ∧ 0 ≤ L ∧ L ≤ 20 from ⟨hk.1, hk.2, hp, hL⟩)
  have HX := Aside0.mk hx
  have hN0 : (0 : Int) < (N : Int) := by omega
  have hN0b : decide ((0 : Int) < (N : Int)) = true := decide_eq_true hN0
  cases neg
  case true =>
    rw [sgnD_true] at hm1
    have HM1 := Aside0.mk (show ∀ W : World, (binOp .mul 26 (.float .f64 13830554455654793216) (.float .f64 (floatOfInt .f64 (n : Int)))).run Tryd.prog W = .ok (.float .f64 fm) W from fun W => run_float_arith W .mul 26 .f64 _ _ _ hm1)
    simp only [if_true] at hsn hsg
    rw [hsg] at h00
    subst hsn
    clear hat hsc hn hsg hN hlu hx hL hp hm1 hm2 hT hk
    go_enter Tryd.func14, Tryd.ntmps14
    go_wp2
    go_loopw [4, 6, 7, 8] (fun v4 v6 v7 v8 wr => ∃ (i : Nat) (st d : Option Nat) (m : Nat), v4 = .int .i64 (i : Int) ∧ v6 = optV st ∧ v7 = optV d ∧ v8 = .int .u64 (m : Int) ∧ w = wr ∧ Aside0 (i ≤ N ∧ scanD (l.drop i) i st d m = (N, (some p), (some q), n) ∧ (∀ p, st = some p → p < i))) (fun v4 _ _ _ _ => N - (intOf v4).toNat)
    case atStart => exact ⟨1, none, none, 0, rfl, rfl, rfl, rfl, rfl, ⟨by omega, HSC.out, fun _ h => by cases h⟩⟩
    case round =>
      obtain ⟨i, st, d, m, rfl, rfl, rfl, rfl, rfl, HH⟩ := hrel
      obtain ⟨q1, q2, q3⟩ := HH.out
      clear HH
      by_cases hlt : i < N
      · have hci := HAT.out i (by have := HNL.out; omega)
        have hdr : l.drop i = l.getD i 0 :: l.drop (i + 1) := by
          have h := HNL.out
          rw [List.drop_eq_getElem_cons (by omega : i < l.length)]
          simp [List.getD_eq_getElem?_getD, List.getElem?_eq_getElem (show i < l.length by omega)]
        rw [hdr] at q2
        clear hdr
        generalize l.getD i 0 = c at hci q2
        have hltb : decide ((i : Int) < (N : Int)) = true := decide_eq_true (by omega)
        have HM := Aside0.mk (measD hlt)
        by_cases hdig : 48 ≤ c ∧ c ≤ 57
        · rw [scanD, if_pos hdig] at q2
          have d1 : decide (48 ≤ c) = true := decide_eq_true hdig.1
          have d2 : decide (c ≤ 57) = true := decide_eq_true hdig.2
          cases st with
          | none =>
            rw [if_pos rfl] at q2
            by_cases h49 : 49 ≤ c
            · rw [if_pos h49] at q2
              have d3 : decide (49 ≤ c) = true := decide_eq_true h49
              obtain ⟨d4, d5, d6, d7, d8, d9⟩ := digD (n := 0) hdig (by omega)
              have HQ := Aside0.mk q2
              have HD := Aside0.mk (one_castD hdig.1)
              have HI := Aside0.mk (show ∀ p, some i = some p → p < i + 1 from fun p h => by cases h; omega)
              clear q1 q2 q3 hdig h49 d4 d5 d8 d9
              try simp only [optV]
              go_wp2
              go_roundw
              case rel => exact ⟨i + 1, some i, d, (c - 48).toNat, rfl, rfl, rfl, congrArg (Value.int .u64) HD.out, by trivial, ⟨hlt, HQ.out, HI.out⟩⟩
              case measure => exact HM.out
            · rw [if_neg h49] at q2
              have d3 : decide (49 ≤ c) = false := decide_eq_false h49
              have HQ := Aside0.mk q2
              clear q1 q2 q3 hdig h49
              try simp only [optV]
              go_wp2
              go_roundw
              case rel => exact ⟨i + 1, none, d, m, rfl, rfl, rfl, rfl, by trivial, ⟨hlt, HQ.out, fun _ h => by cases h⟩⟩
              case measure => exact HM.out
          | some p0 =>
            rw [if_neg (by simp)] at q2
            have hm : m * 10 + (c - 48).toNat < 10000000000000000 := by
              have h1 := scanD_ge (l.drop (i + 1)) (i + 1) (some p0) d (m * 10 + (c - 48).toNat) (by simp)
              rw [q2] at h1
              exact Nat.lt_of_le_of_lt h1 HN.out
            obtain ⟨d4, d5, d6, d7, d8, d9⟩ := digD hdig hm
            obtain ⟨o1, o2, o3⟩ := @optI p0
            have hpi := q3 p0 rfl
            have h18 : decide ((i : Int) - (p0 : Int) < 18) = true := decide_eq_true (by omega)
            have HQ := Aside0.mk q2
            have HD := Aside0.mk (dig_castD (m := m) hdig.1)
            have HI := Aside0.mk (show ∀ p, some p0 = some p → p < i + 1 from fun p h => by cases h; omega)
            clear q1 q2 q3 hdig hm d4 d5
            try simp only [optV]
            go_wp2
            go_roundw
            case rel => exact ⟨i + 1, some p0, d, m * 10 + (c - 48).toNat, rfl, rfl, rfl, congrArg (Value.int .u64) HD.out, by trivial, ⟨hlt, HQ.out, HI.out⟩⟩
            case measure => exact HM.out
        · rw [scanD, if_neg hdig] at q2
          by_cases hpt : d = none ∧ c = 46
          · rw [if_pos hpt] at q2
            obtain ⟨rfl, rfl⟩ := hpt
            have HQ := Aside0.mk q2
            have HI := Aside0.mk (show ∀ p, st = some p → p < i + 1 from fun p h => by have := q3 p h; omega)
            clear q1 q2 q3 hdig
            try simp only [optV]
            go_wp2
            go_roundw
            case rel => exact ⟨i + 1, st, some i, m, rfl, rfl, rfl, rfl, by trivial, ⟨hlt, HQ.out, HI.out⟩⟩
            case measure => exact HM.out
          · rw [if_neg hpt] at q2
            injection q2 with z1 z2
            omega
      · obtain rfl : i = N := by omega
        have hltb : decide ((i : Int) < (i : Int)) = false := decide_eq_false (by omega)
        rw [List.drop_of_length_le (by have := HNL.out; omega)] at q2
        injection q2 with z1 z2
        injection z2 with z2 z3
        injection z3 with z3 z4
        subst z2 z3 z4
        clear hlt
        obtain ⟨g1, g2, g3⟩ := HF.out
        obtain ⟨o1, o2, o3⟩ := @optI p
        obtain ⟨r1, r2, r3⟩ := @optI q
        have hLU := HLU.out
        have hm1 := HM1.out
        have hm2 := HM2.out
        have hx := HX.out
        unfold xDec at hx
        have hb1 : ((i : Int) == 1) = false := beq_false_of_ne (by omega)
        rcases Nat.lt_or_ge q p with hqp | hqp
        · have hqb : decide (q < p) = true := decide_eq_true hqp
          have hqc : decide ((q : Int) < (p : Int)) = true := decide_eq_true (by omega)
          have hex : (q : Int) - (p : Int) - L + 1 = -(k : Int) := by rw [if_pos hqp] at hx; omega
          have hex1 : (q : Int) - (p : Int) - L = -(k : Int) - 1 := by omega
          have hex2 : -(k : Int) - 1 + 1 = -(k : Int) := by omega
          obtain ⟨x1, x2, x3, x4, x5, x6, x7, x8, x9⟩ := expD g1 g2
          clear q1 q3 hx
          try simp only [optV]
          go_wp2_with (go_at_call 20; (with_reducible refine hLU.mono ?_); rintro e_ w_ ⟨rfl, hd_⟩; have HDD := Aside0.mk hd_; have hcell := pw_cell_below hd_.below HT.out; clear hd_)
          first | done | (go_ret2; exact ⟨rfl, HDD.out⟩)
        · have hqb : decide (q < p) = false := decide_eq_false (by omega)
          have hqc : decide ((q : Int) < (p : Int)) = false := decide_eq_false (by omega)
          have hex : (q : Int) - (p : Int) - L = -(k : Int) := by rw [if_neg (by omega)] at hx; omega
          obtain ⟨x1, x2, x3, x4, x5, x6, x7, x8, x9⟩ := expD g1 g2
          clear q1 q3 hx
          try simp only [optV]
          go_wp2_with (go_at_call 20; (with_reducible refine hLU.mono ?_); rintro e_ w_ ⟨rfl, hd_⟩; have HDD := Aside0.mk hd_; have hcell := pw_cell_below hd_.below HT.out; clear hd_)
          first | done | (go_ret2; exact ⟨rfl, HDD.out⟩)
  case false =>
    rw [sgnD_false] at hm1
    have HM1 := Aside0.mk (show ∀ W : World, (binOp .mul 26 (.float .f64 4607182418800017408) (.float .f64 (floatOfInt .f64 (n : Int)))).run Tryd.prog W = .ok (.float .f64 fm) W from fun W => run_float_arith W .mul 26 .f64 _ _ _ hm1)
    simp only [Bool.false_eq_true, if_false] at hsn hsg
    have hq2 : (l.getD 0 0 == 45) = false := beq_false_of_ne hsg
    subst hsn
    generalize l.getD 0 0 = c at h00 hq2
    clear hat hsc hn hsg hN hlu hx hL hp hm1 hm2 hT hk
    go_enter Tryd.func14, Tryd.ntmps14
    go_wp2
    go_loopw [4, 6, 7, 8] (fun v4 v6 v7 v8 wr => ∃ (i : Nat) (st d : Option Nat) (m : Nat), v4 = .int .i64 (i : Int) ∧ v6 = optV st ∧ v7 = optV d ∧ v8 = .int .u64 (m : Int) ∧ w = wr ∧ Aside0 (i ≤ N ∧ scanD (l.drop i) i st d m = (N, (some p), (some q), n) ∧ (∀ p, st = some p → p < i))) (fun v4 _ _ _ _ => N - (intOf v4).toNat)
    case atStart => exact ⟨0, none, none, 0, rfl, rfl, rfl, rfl, rfl, ⟨by omega, HSC.out, fun _ h => by cases h⟩⟩
    case round =>
      obtain ⟨i, st, d, m, rfl, rfl, rfl, rfl, rfl, HH⟩ := hrel
      obtain ⟨q1, q2, q3⟩ := HH.out
      clear HH
      by_cases hlt : i < N
      · have hci := HAT.out i (by have := HNL.out; omega)
        have hdr : l.drop i = l.getD i 0 :: l.drop (i + 1) := by
          have h := HNL.out
          rw [List.drop_eq_getElem_cons (by omega : i < l.length)]
          simp [List.getD_eq_getElem?_getD, List.getElem?_eq_getElem (show i < l.length by omega)]
        rw [hdr] at q2
        clear hdr
        generalize l.getD i 0 = c at hci q2
        have hltb : decide ((i : Int) < (N : Int)) = true := decide_eq_true (by omega)
        have HM := Aside0.mk (measD hlt)
        by_cases hdig : 48 ≤ c ∧ c ≤ 57
        · rw [scanD, if_pos hdig] at q2
          have d1 : decide (48 ≤ c) = true := decide_eq_true hdig.1
          have d2 : decide (c ≤ 57) = true := decide_eq_true hdig.2
          cases st with
          | none =>
            rw [if_pos rfl] at q2
            by_cases h49 : 49 ≤ c
            · rw [if_pos h49] at q2
              have d3 : decide (49 ≤ c) = true := decide_eq_true h49
              obtain ⟨d4, d5, d6, d7, d8, d9⟩ := digD (n := 0) hdig (by omega)
              have HQ := Aside0.mk q2
              have HD := Aside0.mk (one_castD hdig.1)
              have HI := Aside0.mk (show ∀ p, some i = some p → p < i + 1 from fun p h => by cases h; omega)
              clear q1 q2 q3 hdig h49 d4 d5 d8 d9
              try simp only [optV]
              go_wp2
              go_roundw
              case rel => exact ⟨i + 1, some i, d, (c - 48).toNat, rfl, rfl, rfl, congrArg (Value.int .u64) HD.out, by trivial, ⟨hlt, HQ.out, HI.out⟩⟩
              case measure => exact HM.out
            · rw [if_neg h49] at q2
              have d3 : decide (49 ≤ c) = false := decide_eq_false h49
              have HQ := Aside0.mk q2
              clear q1 q2 q3 hdig h49
              try simp only [optV]
              go_wp2
              go_roundw
              case rel => exact ⟨i + 1, none, d, m, rfl, rfl, rfl, rfl, by trivial, ⟨hlt, HQ.out, fun _ h => by cases h⟩⟩
              case measure => exact HM.out
          | some p0 =>
            rw [if_neg (by simp)] at q2
            have hm : m * 10 + (c - 48).toNat < 10000000000000000 := by
              have h1 := scanD_ge (l.drop (i + 1)) (i + 1) (some p0) d (m * 10 + (c - 48).toNat) (by simp)
              rw [q2] at h1
              exact Nat.lt_of_le_of_lt h1 HN.out
            obtain ⟨d4, d5, d6, d7, d8, d9⟩ := digD hdig hm
            obtain ⟨o1, o2, o3⟩ := @optI p0
            have hpi := q3 p0 rfl
            have h18 : decide ((i : Int) - (p0 : Int) < 18) = true := decide_eq_true (by omega)
            have HQ := Aside0.mk q2
            have HD := Aside0.mk (dig_castD (m := m) hdig.1)
            have HI := Aside0.mk (show ∀ p, some p0 = some p → p < i + 1 from fun p h => by cases h; omega)
            clear q1 q2 q3 hdig hm d4 d5
            try simp only [optV]
            go_wp2
            go_roundw
            case rel => exact ⟨i + 1, some p0, d, m * 10 + (c - 48).toNat, rfl, rfl, rfl, congrArg (Value.int .u64) HD.out, by trivial, ⟨hlt, HQ.out, HI.out⟩⟩
            case measure => exact HM.out
        · rw [scanD, if_neg hdig] at q2
          by_cases hpt : d = none ∧ c = 46
          · rw [if_pos hpt] at q2
            obtain ⟨rfl, rfl⟩ := hpt
            have HQ := Aside0.mk q2
            have HI := Aside0.mk (show ∀ p, st = some p → p < i + 1 from fun p h => by have := q3 p h; omega)
            clear q1 q2 q3 hdig
            try simp only [optV]
            go_wp2
            go_roundw
            case rel => exact ⟨i + 1, st, some i, m, rfl, rfl, rfl, rfl, by trivial, ⟨hlt, HQ.out, HI.out⟩⟩
            case measure => exact HM.out
          · rw [if_neg hpt] at q2
            injection q2 with z1 z2
            omega
      · obtain rfl : i = N := by omega
        have hltb : decide ((i : Int) < (i : Int)) = false := decide_eq_false (by omega)
        rw [List.drop_of_length_le (by have := HNL.out; omega)] at q2
        injection q2 with z1 z2
        injection z2 with z2 z3
        injection z3 with z3 z4
        subst z2 z3 z4
        clear hlt
        obtain ⟨g1, g2, g3⟩ := HF.out
        obtain ⟨o1, o2, o3⟩ := @optI p
        obtain ⟨r1, r2, r3⟩ := @optI q
        have hLU := HLU.out
        have hm1 := HM1.out
        have hm2 := HM2.out
        have hx := HX.out
        unfold xDec at hx
        have hb1 : ((i : Int) == 1) = false := beq_false_of_ne (by omega)
        rcases Nat.lt_or_ge q p with hqp | hqp
        · have hqb : decide (q < p) = true := decide_eq_true hqp
          have hqc : decide ((q : Int) < (p : Int)) = true := decide_eq_true (by omega)
          have hex : (q : Int) - (p : Int) - L + 1 = -(k : Int) := by rw [if_pos hqp] at hx; omega
          have hex1 : (q : Int) - (p : Int) - L = -(k : Int) - 1 := by omega
          have hex2 : -(k : Int) - 1 + 1 = -(k : Int) := by omega
          obtain ⟨x1, x2, x3, x4, x5, x6, x7, x8, x9⟩ := expD g1 g2
          clear q1 q3 hx
          try simp only [optV]
          go_wp2_with (go_at_call 20; (with_reducible refine hLU.mono ?_); rintro e_ w_ ⟨rfl, hd_⟩; have HDD := Aside0.mk hd_; have hcell := pw_cell_below hd_.below HT.out; clear hd_)
          first | done | (go_ret2; exact ⟨rfl, HDD.out⟩)
        · have hqb : decide (q < p) = false := decide_eq_false (by omega)
          have hqc : decide ((q : Int) < (p : Int)) = false := decide_eq_false (by omega)
          have hex : (q : Int) - (p : Int) - L = -(k : Int) := by rw [if_neg (by omega)] at hx; omega
          obtain ⟨x1, x2, x3, x4, x5, x6, x7, x8, x9⟩ := expD g1 g2
          clear q1 q3 hx
          try simp only [optV]
          go_wp2_with (go_at_call 20; (with_reducible refine hLU.mono ?_); rintro e_ w_ ⟨rfl, hd_⟩; have HDD := Aside0.mk hd_; have hcell := pw_cell_below hd_.below HT.out; clear hd_)
          first | done | (go_ret2; exact ⟨rfl, HDD.out⟩)
/-- Where the digits begin, what they are; whether a text is within the bounds, and what is read. -/
def rdS (l : List Int) : Nat := if decide (l.getD 0 0 = 45) = true then 1 else 0
def rdR (l : List Int) : Nat × Option Nat × Option Nat × Nat := scanD (l.drop (rdS l)) (rdS l) none none 0
def rdM (l : List Int) : Nat := flop .mul (sgnD (decide (l.getD 0 0 = 45))) (floatOfInt .f64 ((rdR l).2.2.2 : Int))
def rdBase (l : List Int) : Bool := decide (l.length ≤ 17 ∧ rdS l < l.length ∧ (rdR l).1 = l.length ∧ (rdR l).2.2.2 < 10000000000000000)
def rdMul (l : List Int) : Bool := decide (Ieee.double.mul (sgnD (decide (l.getD 0 0 = 45))) (floatOfInt .f64 ((rdR l).2.2.2 : Int)) = some (rdM l))
def impl_ReadDecimal.f (l : List Int) : Option (Nat × Int) :=
  if rdBase l = true then
    match (rdR l).2.1, (rdR l).2.2.1 with
    | none, none => some (0, (l.length : Int))
    | some p, none => (tdstrconv_LenUint.f ((rdR l).2.2.2 : Int)).bind fun L => if (l.length : Int) - (p : Int) - L = 0 ∧ 0 ≤ L ∧ L ≤ 20 ∧ p < l.length ∧ rdMul l = true ∧ Ieee.double.mul (rdM l) (p10 0) = some (flop .mul (rdM l) (p10 0)) then some (flop .mul (rdM l) (p10 0), (l.length : Int)) else none
    | some p, some q => (tdstrconv_LenUint.f ((rdR l).2.2.2 : Int)).bind fun L => if xDec q p L = -((l.length - q - 1 : Nat) : Int) ∧ 0 ≤ L ∧ L ≤ 20 ∧ 1 ≤ l.length - q - 1 ∧ l.length - q - 1 ≤ 22 ∧ 2 ≤ l.length ∧ rdMul l = true ∧ Ieee.double.div (rdM l) (p10 (l.length - q - 1)) = some (flop .quo (rdM l) (p10 (l.length - q - 1))) then some (flop .quo (rdM l) (p10 (l.length - q - 1)), (l.length : Int)) else none
    | none, some _ => none
  else none
theorem impl_ReadDecimal.calls (A0 : Option Addr) (c0 : Nat) (l0 : List Int) (r1 : Nat) (r2 : Int) (w : World) (hr0 : Kd.C (Kd.int .u8) w A0 l0.length l0) (hc0 : l0.length ≤ c0) (h : impl_ReadDecimal.f l0 = some (r1, r2)) (HTabP : Aside0 (TabP w)) :
    Calls Tryd.prog 9 #[.slice A0 l0.length c0] w fun e w' => e = .returned (.tuple #[.float .f64 r1, .int .i64 r2]) ∧ Below w.heap.size w w' := by
  unfold impl_ReadDecimal.f at h
  by_cases hl : rdBase l0 = true
  case neg => rw [if_neg hl] at h; cases h
  case pos =>
  rw [if_pos hl] at h
  have hl := of_decide_eq_true hl
  obtain ⟨h1, h2, h3, h4⟩ := hl
  obtain ⟨neg, hneg⟩ : ∃ b, b = decide (l0.getD 0 0 = 45) := ⟨_, rfl⟩
  have hs : rdS l0 = (if neg = true then 1 else 0) := by unfold rdS; rw [← hneg]
  have hr : scanD (l0.drop (rdS l0)) (rdS l0) none none 0 = rdR l0 := rfl
  have hsg : if neg = true then l0.getD 0 0 = 45 else l0.getD 0 0 ≠ 45 := by
    split
    · rename_i hn
      rw [hn] at hneg
      exact of_decide_eq_true hneg.symm
    · rename_i hn
      rw [Bool.not_eq_true] at hn
      rw [hn] at hneg
      exact of_decide_eq_false hneg.symm
  have key : ∀ (g c : Nat) (w1 : World), (∀ k, k < l0.length → w1.cell? ⟨g, k, none⟩ = some (.int .u8 (l0.getD k 0))) → l0.length ≤ c → Below w.heap.size w w1 →
      Calls Tryd.prog 14 #[.slice (some ⟨g, 0, none⟩) l0.length c] w1 fun ee w' => ee = .returned (.tuple #[.float .f64 r1, .int .i64 r2]) ∧ Drawn0 w1 w' := by
    intro g c w1 hat hc hb
    have hTP : ∀ k, k < 23 → w1.cell? ⟨0, k, none⟩ = some (.float .f64 (p10 k)) := HTabP.out.below hb
    unfold rdMul at h
    unfold rdM at h
    rw [← hneg] at h
    obtain ⟨⟨e, st, d, n⟩, hR⟩ : ∃ R, R = rdR l0 := ⟨_, rfl⟩
    rw [← hR] at h h3 h4 hr
    simp only at h h3 h4
    subst h3
    have hlu : ∀ L, tdstrconv_LenUint.f (n : Int) = some L → ∀ W : World, Calls Tryd.prog 20 #[.int .u64 (n : Int)] W fun e w2 => e = .returned (.int .i64 L) ∧ Drawn0 W w2 := fun L hL W => tdstrconv_LenUint.calls (n : Int) L W hL
    cases st with
    | none =>
      cases d with
      | none =>
        have h := Option.some.inj h
        injection h with e1 e2
        subst e2
        exact parsedec_zero g c l0 (rdS l0) n neg r1 0 w1 hat hc h1 hs h2 hsg hr h4 e1.symm
      | some q => cases h
    | some p =>
      cases d with
      | none =>
        obtain ⟨L, hL, h⟩ := Option.bind_eq_some_iff.1 h
        split at h
        case isFalse => cases h
        case isTrue hh =>
        obtain ⟨a1, a2, a3, a4, a6, a7⟩ := hh
        have h := Option.some.inj h
        injection h with e1 e2
        subst e2
        rw [e1] at a7
        exact parsedec_whole g c l0 (rdS l0) n neg r1 (p10 0) p L _ w1 hat hc h1 hs h2 hsg hr h4 (hlu L hL) a1 ⟨a2, a3⟩ a4 (of_decide_eq_true a6) (hTP 0 (by omega)) a7
      | some q =>
        obtain ⟨L, hL, h⟩ := Option.bind_eq_some_iff.1 h
        split at h
        case isFalse => cases h
        case isTrue hh =>
        obtain ⟨a1, a2, a3, a4, a5, a6, a7, a8⟩ := hh
        have h := Option.some.inj h
        injection h with e1 e2
        subst e2
        rw [e1] at a8
        exact parsedec_dec g c l0 (rdS l0) n neg r1 (p10 (l0.length - q - 1)) p q (l0.length - q - 1) L _ w1 hat hc h1 hs h2 hsg hr h4 (hlu L hL) a1 ⟨a2, a3⟩ ⟨a4, a5⟩ a6 (of_decide_eq_true a7) (hTP _ (by omega)) a8
  have hf : impl_own.f l0 = some l0 := by simp [impl_own.f] <;> omega
  have HR0 := Aside0.mk hr0
  have HC0 := Aside0.mk hc0
  have HF := Aside0.mk hf
  have HP := Aside0.mk key
  have hpos : 0 < l0.length := by omega
  clear h1 h2 h3 h4 h hneg hs hr hsg hf hr0 hc0 key
  go_enter Tryd.func9, Tryd.ntmps9
  go_wp2_with fail
  refine (impl_own.calls A0 c0 l0 l0 w HR0.out HC0.out HF.out).mono ?_
  rintro e w1 ⟨v, rfl, hv, hb⟩
  have HB := Aside0.mk hb
  clear hb
  rcases (Kd.own_of_R hv).2 with ⟨_, h0⟩ | ⟨g, cap, cur, rfl, _⟩
  · exact absurd h0 (by simpa [encs] using (List.length_pos_iff.1 hpos))
  · have hnl := (Kd.R_reads' hv).1
    have hnc := (Kd.R_reads' hv).2.1
    have hat : ∀ k, k < l0.length → w1.cell? ⟨g, k, none⟩ = some (.int .u8 (l0.getD k 0)) := fun k hk => by
      have := (Kd.R_celln (0 : Int) hv (k : Int) (by omega) (by omega)).1
      simpa [rdOf, List.getD_eq_getElem?_getD, hk] using this
    have HAT := Aside0.mk (HP.out g cap w1 hat hnc HB.out)
    clear hv hat
    go_wp2_with fail
    refine HAT.out.mono ?_
    rintro e w2 ⟨rfl, hd⟩
    have HD := Aside0.mk (below_then HB.out HB.out.size hd.below)
    clear hd
    go_wp2
    go_ret2
    exact ⟨rfl, HD.out⟩
end Go.Proofs.YtipfnfhglhflgaaDoor.Own
