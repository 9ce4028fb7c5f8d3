/- The contract of ParseFloat (and of impl.ReadFloat) for a number of digits with a point and decimals. -/
import Derived.Test.YtipfnfhglhflgaaDoorCown
import Derived.Test.YtipfnfhglhflgaaDoorOwn
import Derived.Test.YtipfnfhglhflgaaDoorCFlTab
import Derived.Outline
namespace Go.Proofs.YtipfnfhglhflgaaDoor.Own
open Go.RowKit Go.Proofs.YtipfnfhglhflgaaDoorW.PrintWords Go.Proofs.YtipfnfhglhflgaaDoorW.PrintLast
set_option linter.unusedVariables false
set_option linter.unusedSimpArgs false
/-- Where the digits (and a point) end that are read from i on, where the point is, and the digits' number. -/
def scanF : List Int → Nat → Option Nat → Nat → Nat × Option Nat × Nat
  | [], i, d, n => (i, d, n)
  | c :: t, i, d, n => if 48 ≤ c ∧ c ≤ 57 then scanF t (i + 1) d (n * 10 + (c - 48).toNat) else if d = none ∧ c = 46 then scanF t (i + 1) (some i) n else (i, d, n)
theorem scanF_ge : ∀ (l : List Int) (i : Nat) (d : Option Nat) (n : Nat), n ≤ (scanF l i d n).2.2 ∧ i ≤ (scanF l i d n).1 ∧ (scanF l i d n).1 ≤ i + l.length
  | [], i, d, n => ⟨Nat.le_refl _, Nat.le_refl _, Nat.le_refl _⟩
  | c :: t, i, d, n => by
    unfold scanF
    split
    · obtain ⟨h1, h2, h3⟩ := scanF_ge t (i + 1) d (n * 10 + (c - 48).toNat)
      simp only [List.length_cons]
      omega
    · split
      · obtain ⟨h1, h2, h3⟩ := scanF_ge t (i + 1) (some i) n
        simp only [List.length_cons]
        omega
      · simp
def dotV : Option Nat → Value
  | none => .int .i64 (-1)
  | some p => .int .i64 (p : Int)
/-- The word of the digits' number, with its sign. -/
def fsgn (neg : Bool) (n : Nat) : Nat := if neg = true then Op.negFloat .f64 (floatOfInt .f64 (n : Int)) else floatOfInt .f64 (n : Int)
theorem dig_facts {n : Nat} {c : Int} (h : 48 ≤ c ∧ c ≤ 57) (hn : n * 10 + (c - 48).toNat < 10000000000000000) :
    decide (48 ≤ c) = true ∧ decide (c ≤ 57) = true ∧ decide ((1844674407370955161 : Int) < (n : Int)) = false ∧ (c - 48) % 256 = c - 48 ∧ IntKind.u64.wrap (c - 48) = c - 48 ∧ IntKind.u64.wrap (18446744073709551615 - (c - 48)) = 18446744073709551615 - (c - 48) ∧ IntKind.u64.wrap ((n : Int) * 10) = (n : Int) * 10 ∧ decide (18446744073709551615 - (c - 48) < (n : Int) * 10) = false ∧ IntKind.u64.wrap ((n : Int) * 10 + (c - 48)) = ((n * 10 + (c - 48).toNat : Nat) : Int) := by
  have hw : ∀ x : Int, 0 ≤ x → x < 18446744073709551616 → IntKind.u64.wrap x = x := fun x h0 h1 => by
    have e : IntKind.u64.wrap x = x % 18446744073709551616 := by simp [IntKind.wrap, IntKind.bits, IntKind.signed]
    rw [e]; omega
  refine ⟨decide_eq_true h.1, decide_eq_true h.2, decide_eq_false (by omega), by omega, hw _ (by omega) (by omega), hw _ (by omega) (by omega), hw _ (by omega) (by omega), decide_eq_false (by omega), ?_⟩
  rw [hw _ (by omega) (by omega)]; omega
theorem wrF {k n : Nat} (h : k < n) (hn : n < 140737488355328) : wrap64 ((k : Int) + 1) = ((k + 1 : Nat) : Int) := by unfold wrap64; omega
theorem measF {k n : Nat} (h : k < n) (hn : n < 140737488355328) : n - (intOf (.int .i64 (wrap64 ((k : Int) + 1)))).toNat < n - (intOf (.int .i64 (k : Int))).toNat := by
  rw [wrF h hn]
  simp only [intOf, Int.toNat_natCast]
  omega
theorem scanF_some : ∀ (l : List Int) (i p n : Nat), (scanF l i (some p) n).2.1 = some p
  | [], _, _, _ => rfl
  | c :: t, i, p, n => by
    unfold scanF
    split
    · exact scanF_some t _ p _
    · rw [if_neg (by simp)]
theorem fsgn_true (n : Nat) : fsgn true n = Op.negFloat .f64 (floatOfInt .f64 (n : Int)) := if_pos rfl
theorem fsgn_false (n : Nat) : fsgn false n = floatOfInt .f64 (n : Int) := if_neg (by simp)
theorem dig_cast {m : Nat} {c : Int} (h : 48 ≤ c) : (m : Int) * 10 + max (c - 48) 0 = ((m * 10 + (c - 48).toNat : Nat) : Int) := by omega
theorem measG {i N : Nat} (h : i < N) : N - (intOf (.int .i64 ((i : Int) + 1))).toNat < N - (intOf (.int .i64 (i : Int))).toNat := by
  simp only [intOf]
  omega
theorem unary_neg_float (k : FloatKind) (b : Nat) : Op.unary .neg (.float k b) = pure (.float k (Op.negFloat k b)) := rfl
attribute [local go_sem] unary_neg_float
theorem exp_more {k : Nat} (h1 : 1 ≤ k) (h2 : k ≤ 22) : ¬ (k = 0) ∧ 0 < k ∧ ((k : Int) ≤ 22) ∧ (0 ≤ (k : Int)) ∧ decide (k = 0) = false ∧ decide (0 < k) = true ∧ decide ((k : Int) ≤ 22) = true ∧ (k == 0) = false ∧ decide (0 ≤ (k : Int)) = true :=
  ⟨by omega, by omega, by omega, by omega, decide_eq_false (by omega), decide_eq_true (by omega), decide_eq_true (by omega), beq_false_of_ne (by omega), decide_eq_true (by omega)⟩
theorem exp_facts {e p k : Nat} (hk : e = p + 1 + k) (h1 : 1 ≤ k) (h2 : k ≤ 22) (hp : p + 1 ≤ e) : (e : Int) - (p : Int) - 1 = (k : Int) ∧ ((0 : Int) - (k : Int)) = -(k : Int) ∧ ((-(k : Int)) == 0) = false ∧ decide ((0 : Int) < -(k : Int)) = false ∧ decide ((-22 : Int) ≤ -(k : Int)) = true ∧ decide (-(k : Int) < 0) = true ∧ (-(-(k : Int))) = (k : Int) ∧ decide ((k : Int) < 23) = true := by
  refine ⟨by omega, by omega, beq_false_of_ne (by omega), decide_eq_false (by omega), decide_eq_true (by omega), decide_eq_true (by omega), by omega, decide_eq_true (by omega)⟩
set_option maxRecDepth 20000 in
set_option maxHeartbeats 4000000 in
theorem parsefloat_dec (g c0 : Nat) (l : List Int) (s e n p k : Nat) (neg : Bool) (res tb : Nat) (w : World) (hat : ∀ k, k < l.length → w.cell? ⟨g, k, none⟩ = some (.int .u8 (l.getD k 0))) (hc0 : l.length ≤ c0) (hl : l.length < 140737488355328)
    (hsn : s = (if neg = true then 1 else 0)) (hsl : s < l.length) (hsg : if neg = true then l.getD 0 0 = 45 else (l.getD 0 0 ≠ 43 ∧ l.getD 0 0 ≠ 45)) (hdg : 48 ≤ l.getD s 0 ∧ l.getD s 0 ≤ 57)
    (hsc : scanF (l.drop s) s none 0 = (e, some p, n)) (hn : n < 10000000000000000) (hend : e < l.length → l.getD e 0 ≠ 101 ∧ l.getD e 0 ≠ 69) (hk : 1 ≤ k ∧ k ≤ 22 ∧ e = p + 1 + k)
    (hT : w.cell? ⟨0, k, none⟩ = some (.float .f64 tb)) (hres : Ieee.double.div (fsgn neg n) tb = some res) :
    Calls Tryd.prog 16 #[.slice (some ⟨g, 0, none⟩) l.length c0] w fun ee w' => ee = .returned (.tuple #[.float .f64 res, .int .i64 (e : Int)]) ∧ w' = w := by
  have HAT := Aside0.mk hat
  have HDG := Aside0.mk hdg
  have HSC := Aside0.mk hsc
  have HEND := Aside0.mk hend
  have HK := Aside0.mk hk
  have HT := Aside0.mk hT
  have HN := Aside0.mk hn
  obtain ⟨N, hN⟩ : ∃ N, N = l.length := ⟨_, rfl⟩
  have HNL := Aside0.mk hN
  have h00 := hat 0 (by omega)
  rw [← hN] at hl hc0 hsl ⊢
  have hN0 : (0 : Int) < (N : Int) := by omega
  have hN0b : decide ((0 : Int) < (N : Int)) = true := decide_eq_true hN0
  cases neg
  case true =>
    rw [fsgn_true] at hres
    have HQUO := Aside0.mk (show ∀ W : World, (binOp .quo 26 (.float .f64 (Op.negFloat .f64 (floatOfInt .f64 (n : Int)))) (.float .f64 tb)).run Tryd.prog W = .ok (.float .f64 res) W from fun W => run_float_arith W .quo 26 .f64 _ _ _ hres)
    simp only [if_true] at hsn hsg
    rw [hsg] at h00
    subst hsn
    clear hat hdg hsc hend hres hk hn hsg hN hT
    go_enter Tryd.func16, Tryd.ntmps16
    go_wp2
    go_loopw [4, 7, 8, 9] (fun v4 v7 v8 v9 wr => ∃ (i : Nat) (d : Option Nat) (m : Nat), v4 = .int .i64 (i : Int) ∧ v7 = dotV d ∧ v8 = .int .i64 (-1) ∧ v9 = .int .u64 (m : Int) ∧ w = wr ∧ Aside0 (1 ≤ i ∧ i ≤ N ∧ scanF (l.drop i) i d m = (e, some p, n) ∧ (i = 1 → d = none ∧ 48 ≤ l.getD i 0 ∧ l.getD i 0 ≤ 57) ∧ (∀ p, d = some p → 1 + 1 ≤ p ∧ p + 1 ≤ i))) (fun v4 _ _ _ _ => N - (intOf v4).toNat)
    case atStart => exact ⟨1, none, 0, rfl, rfl, rfl, rfl, rfl, ⟨Nat.le_refl _, by omega, HSC.out, fun _ => ⟨rfl, HDG.out⟩, fun _ h => by cases h⟩⟩
    case round =>
      obtain ⟨i, d, m, rfl, rfl, rfl, rfl, rfl, HH⟩ := hrel
      obtain ⟨q1, q2, q3, q4, q5⟩ := HH.out
      clear HH
      by_cases hlt : i < N
      · have hci := HAT.out i (by have := HNL.out; omega)
        have hdr : l.drop i = l.getD i 0 :: l.drop (i + 1) := by
          have h := HNL.out
          rw [List.drop_eq_getElem_cons (by omega : i < l.length)]
          simp [List.getD_eq_getElem?_getD, List.getElem?_eq_getElem (show i < l.length by omega)]
        rw [hdr] at q3
        clear hdr
        obtain ⟨c, hcd⟩ : ∃ c, c = l.getD i 0 := ⟨_, rfl⟩
        rw [← hcd] at hci q3 q4
        have hltb : decide ((i : Int) < (N : Int)) = true := decide_eq_true (by omega)
        by_cases hdig : 48 ≤ c ∧ c ≤ 57
        · rw [scanF, if_pos hdig] at q3
          have hm : m * 10 + (c - 48).toNat < 10000000000000000 := by
            have h1 := (scanF_ge (l.drop (i + 1)) (i + 1) d (m * 10 + (c - 48).toNat)).1
            rw [q3] at h1
            exact Nat.lt_of_le_of_lt h1 HN.out
          obtain ⟨d1, d2, d3, d4, d5, d6, d7, d8, d9⟩ := dig_facts hdig hm
          have HQ := Aside0.mk q3
          have HD := Aside0.mk (dig_cast (m := m) hdig.1)
          have HI := Aside0.mk (show 1 ≤ i + 1 ∧ (i + 1 = 1 → d = none ∧ 48 ≤ l.getD (i + 1) 0 ∧ l.getD (i + 1) 0 ≤ 57) ∧ (∀ p, d = some p → 1 + 1 ≤ p ∧ p + 1 ≤ i + 1) from ⟨by omega, fun h => by omega, fun p h => by have := q5 p h; omega⟩)
          have HM := Aside0.mk (measG hlt)
          clear q1 q2 q3 q4 q5 hdig hcd hm
          go_wp2
          go_roundw
          case rel => exact ⟨i + 1, d, m * 10 + (c - 48).toNat, rfl, rfl, rfl, congrArg (Value.int .u64) HD.out, by trivial, ⟨HI.out.1, hlt, HQ.out, HI.out.2.1, HI.out.2.2⟩⟩
          case measure => exact HM.out
        · rw [scanF, if_neg hdig] at q3
          by_cases hpt : d = none ∧ c = 46
          · rw [if_pos hpt] at q3
            obtain ⟨rfl, rfl⟩ := hpt
            have HQ := Aside0.mk q3
            have hsi : 1 + 1 ≤ i := by
              rcases Nat.eq_or_lt_of_le q1 with h | h
              · have := (q4 h.symm).2.1; omega
              · omega
            have HI := Aside0.mk (show 1 ≤ i + 1 ∧ (i + 1 = 1 → (some i : Option Nat) = none ∧ 48 ≤ l.getD (i + 1) 0 ∧ l.getD (i + 1) 0 ≤ 57) ∧ (∀ p, some i = some p → 1 + 1 ≤ p ∧ p + 1 ≤ i + 1) from ⟨by omega, fun h => by omega, fun p h => by cases h; omega⟩)
            have HM := Aside0.mk (measG hlt)
            clear q1 q2 q3 q4 q5 hdig hcd hsi
            try simp only [dotV]
            go_wp2
            go_roundw
            case rel => exact ⟨i + 1, some i, m, rfl, rfl, rfl, rfl, by trivial, ⟨HI.out.1, hlt, HQ.out, HI.out.2.1, HI.out.2.2⟩⟩
            case measure => exact HM.out
          · rw [if_neg hpt] at q3
            injection q3 with z1 z2
            injection z2 with z2 z3
            subst z1 z3 z2
            clear hpt
            rcases Int.lt_or_le c 48 with hlo | hhi
            · have hlob : decide (48 ≤ c) = false := decide_eq_false (by omega)
              clear hdig hlo
              try simp only [dotV]
              obtain ⟨p1, p2⟩ := q5 p rfl
              have hib : ((i : Int) == 1) = false := beq_false_of_ne (by omega)
              have h1b : ((i : Int) == 2) = false := beq_false_of_ne (by omega)
              obtain ⟨he1, he2⟩ := HEND.out (by have := HNL.out; omega)
              rw [← hcd] at he1 he2
              have he1b : (c == 101) = false := beq_false_of_ne he1
              have he2b : (c == 69) = false := beq_false_of_ne he2
              have hp1 : ((p : Int) == -1) = false := beq_false_of_ne (by omega)
              have hp2 : ((p : Int) != -1) = true := by simp only [bne, hp1]; rfl
              have hip : decide ((i : Int) < (p : Int)) = false := decide_eq_false (by omega)
              obtain ⟨hk1, hk2, hke⟩ := HK.out
              have hip2 : ¬ (i < p) := by omega
              have hip3 : decide (i < p) = false := decide_eq_false hip2
              obtain ⟨y1, y2, y3, y4, y5, y6, y7, y8, y9⟩ := exp_more hk1 hk2
              have HTB := Aside0.mk (HT.out)
              obtain ⟨x1, x2, x3, x4, x5, x6, x7, x8⟩ := exp_facts hke hk1 hk2 p2
              have hcell := HT.out
              have hquo := HQUO.out
              clear q1 q4 q5 p1 p2 hk1 hk2 hke hcd
              go_wp2
              go_ret2
              exact ⟨by first | rfl | (rw [fsgn_true] at *; rfl), rfl⟩
            · have hhib : decide (48 ≤ c) = true := decide_eq_true hhi
              have hhic : decide (c ≤ 57) = false := decide_eq_false (by omega)
              clear hdig hhi
              try simp only [dotV]
              obtain ⟨p1, p2⟩ := q5 p rfl
              have hib : ((i : Int) == 1) = false := beq_false_of_ne (by omega)
              have h1b : ((i : Int) == 2) = false := beq_false_of_ne (by omega)
              obtain ⟨he1, he2⟩ := HEND.out (by have := HNL.out; omega)
              rw [← hcd] at he1 he2
              have he1b : (c == 101) = false := beq_false_of_ne he1
              have he2b : (c == 69) = false := beq_false_of_ne he2
              have hp1 : ((p : Int) == -1) = false := beq_false_of_ne (by omega)
              have hp2 : ((p : Int) != -1) = true := by simp only [bne, hp1]; rfl
              have hip : decide ((i : Int) < (p : Int)) = false := decide_eq_false (by omega)
              obtain ⟨hk1, hk2, hke⟩ := HK.out
              have hip2 : ¬ (i < p) := by omega
              have hip3 : decide (i < p) = false := decide_eq_false hip2
              obtain ⟨y1, y2, y3, y4, y5, y6, y7, y8, y9⟩ := exp_more hk1 hk2
              have HTB := Aside0.mk (HT.out)
              obtain ⟨x1, x2, x3, x4, x5, x6, x7, x8⟩ := exp_facts hke hk1 hk2 p2
              have hcell := HT.out
              have hquo := HQUO.out
              clear q1 q4 q5 p1 p2 hk1 hk2 hke hcd
              go_wp2
              go_ret2
              exact ⟨by first | rfl | (rw [fsgn_true] at *; rfl), rfl⟩
      · obtain rfl : i = N := by omega
        have hltb : decide ((i : Int) < (i : Int)) = false := decide_eq_false (by omega)
        rw [List.drop_of_length_le (by have := HNL.out; omega)] at q3
        injection q3 with z1 z2
        injection z2 with z2 z3
        subst z1 z3 z2
        clear hlt
        try simp only [dotV]
        obtain ⟨p1, p2⟩ := q5 p rfl
        have hib : ((i : Int) == 1) = false := beq_false_of_ne (by omega)
        have h1b : ((i : Int) == 2) = false := beq_false_of_ne (by omega)
        have hp1 : ((p : Int) == -1) = false := beq_false_of_ne (by omega)
        have hp2 : ((p : Int) != -1) = true := by simp only [bne, hp1]; rfl
        have hip : decide ((i : Int) < (p : Int)) = false := decide_eq_false (by omega)
        obtain ⟨hk1, hk2, hke⟩ := HK.out
        have hip2 : ¬ (i < p) := by omega
        have hip3 : decide (i < p) = false := decide_eq_false hip2
        obtain ⟨y1, y2, y3, y4, y5, y6, y7, y8, y9⟩ := exp_more hk1 hk2
        have HTB := Aside0.mk (HT.out)
        obtain ⟨x1, x2, x3, x4, x5, x6, x7, x8⟩ := exp_facts hke hk1 hk2 p2
        have hcell := HT.out
        have hquo := HQUO.out
        clear q1 q4 q5 p1 p2 hk1 hk2 hke
        go_wp2
        go_ret2
        exact ⟨by first | rfl | (rw [fsgn_true] at *; rfl), rfl⟩
  case false =>
    rw [fsgn_false] at hres
    have HQUO := Aside0.mk (show ∀ W : World, (binOp .quo 26 (.float .f64 (floatOfInt .f64 (n : Int))) (.float .f64 tb)).run Tryd.prog W = .ok (.float .f64 res) W from fun W => run_float_arith W .quo 26 .f64 _ _ _ hres)
    simp only [Bool.false_eq_true, if_false] at hsn hsg
    have hq1 : (l.getD 0 0 == 43) = false := beq_false_of_ne hsg.1
    have hq2 : (l.getD 0 0 == 45) = false := beq_false_of_ne hsg.2
    subst hsn
    generalize l.getD 0 0 = c at h00 hq1 hq2
    clear hat hdg hsc hend hres hk hn hsg hN hT
    go_enter Tryd.func16, Tryd.ntmps16
    go_wp2
    go_loopw [4, 7, 8, 9] (fun v4 v7 v8 v9 wr => ∃ (i : Nat) (d : Option Nat) (m : Nat), v4 = .int .i64 (i : Int) ∧ v7 = dotV d ∧ v8 = .int .i64 (-1) ∧ v9 = .int .u64 (m : Int) ∧ w = wr ∧ Aside0 (0 ≤ i ∧ i ≤ N ∧ scanF (l.drop i) i d m = (e, some p, n) ∧ (i = 0 → d = none ∧ 48 ≤ l.getD i 0 ∧ l.getD i 0 ≤ 57) ∧ (∀ p, d = some p → 0 + 1 ≤ p ∧ p + 1 ≤ i))) (fun v4 _ _ _ _ => N - (intOf v4).toNat)
    case atStart => exact ⟨0, none, 0, rfl, rfl, rfl, rfl, rfl, ⟨Nat.le_refl _, by omega, HSC.out, fun _ => ⟨rfl, HDG.out⟩, fun _ h => by cases h⟩⟩
    case round =>
      obtain ⟨i, d, m, rfl, rfl, rfl, rfl, rfl, HH⟩ := hrel
      obtain ⟨q1, q2, q3, q4, q5⟩ := HH.out
      clear HH
      by_cases hlt : i < N
      · have hci := HAT.out i (by have := HNL.out; omega)
        have hdr : l.drop i = l.getD i 0 :: l.drop (i + 1) := by
          have h := HNL.out
          rw [List.drop_eq_getElem_cons (by omega : i < l.length)]
          simp [List.getD_eq_getElem?_getD, List.getElem?_eq_getElem (show i < l.length by omega)]
        rw [hdr] at q3
        clear hdr
        obtain ⟨c, hcd⟩ : ∃ c, c = l.getD i 0 := ⟨_, rfl⟩
        rw [← hcd] at hci q3 q4
        have hltb : decide ((i : Int) < (N : Int)) = true := decide_eq_true (by omega)
        by_cases hdig : 48 ≤ c ∧ c ≤ 57
        · rw [scanF, if_pos hdig] at q3
          have hm : m * 10 + (c - 48).toNat < 10000000000000000 := by
            have h1 := (scanF_ge (l.drop (i + 1)) (i + 1) d (m * 10 + (c - 48).toNat)).1
            rw [q3] at h1
            exact Nat.lt_of_le_of_lt h1 HN.out
          obtain ⟨d1, d2, d3, d4, d5, d6, d7, d8, d9⟩ := dig_facts hdig hm
          have HQ := Aside0.mk q3
          have HD := Aside0.mk (dig_cast (m := m) hdig.1)
          have HI := Aside0.mk (show 0 ≤ i + 1 ∧ (i + 1 = 0 → d = none ∧ 48 ≤ l.getD (i + 1) 0 ∧ l.getD (i + 1) 0 ≤ 57) ∧ (∀ p, d = some p → 0 + 1 ≤ p ∧ p + 1 ≤ i + 1) from ⟨by omega, fun h => by omega, fun p h => by have := q5 p h; omega⟩)
          have HM := Aside0.mk (measG hlt)
          clear q1 q2 q3 q4 q5 hdig hcd hm
          go_wp2
          go_roundw
          case rel => exact ⟨i + 1, d, m * 10 + (c - 48).toNat, rfl, rfl, rfl, congrArg (Value.int .u64) HD.out, by trivial, ⟨HI.out.1, hlt, HQ.out, HI.out.2.1, HI.out.2.2⟩⟩
          case measure => exact HM.out
        · rw [scanF, if_neg hdig] at q3
          by_cases hpt : d = none ∧ c = 46
          · rw [if_pos hpt] at q3
            obtain ⟨rfl, rfl⟩ := hpt
            have HQ := Aside0.mk q3
            have hsi : 0 + 1 ≤ i := by
              rcases Nat.eq_or_lt_of_le q1 with h | h
              · have := (q4 h.symm).2.1; omega
              · omega
            have HI := Aside0.mk (show 0 ≤ i + 1 ∧ (i + 1 = 0 → (some i : Option Nat) = none ∧ 48 ≤ l.getD (i + 1) 0 ∧ l.getD (i + 1) 0 ≤ 57) ∧ (∀ p, some i = some p → 0 + 1 ≤ p ∧ p + 1 ≤ i + 1) from ⟨by omega, fun h => by omega, fun p h => by cases h; omega⟩)
            have HM := Aside0.mk (measG hlt)
            clear q1 q2 q3 q4 q5 hdig hcd hsi
            try simp only [dotV]
            go_wp2
            go_roundw
            case rel => exact ⟨i + 1, some i, m, rfl, rfl, rfl, rfl, by trivial, ⟨HI.out.1, hlt, HQ.out, HI.out.2.1, HI.out.2.2⟩⟩
            case measure => exact HM.out
          · rw [if_neg hpt] at q3
            injection q3 with z1 z2
            injection z2 with z2 z3
            subst z1 z3 z2
            clear hpt
            rcases Int.lt_or_le c 48 with hlo | hhi
            · have hlob : decide (48 ≤ c) = false := decide_eq_false (by omega)
              clear hdig hlo
              try simp only [dotV]
              obtain ⟨p1, p2⟩ := q5 p rfl
              have hib : ((i : Int) == 0) = false := beq_false_of_ne (by omega)
              have h1b : ((i : Int) == 1) = false := beq_false_of_ne (by omega)
              obtain ⟨he1, he2⟩ := HEND.out (by have := HNL.out; omega)
              rw [← hcd] at he1 he2
              have he1b : (c == 101) = false := beq_false_of_ne he1
              have he2b : (c == 69) = false := beq_false_of_ne he2
              have hp1 : ((p : Int) == -1) = false := beq_false_of_ne (by omega)
              have hp2 : ((p : Int) != -1) = true := by simp only [bne, hp1]; rfl
              have hip : decide ((i : Int) < (p : Int)) = false := decide_eq_false (by omega)
              obtain ⟨hk1, hk2, hke⟩ := HK.out
              have hip2 : ¬ (i < p) := by omega
              have hip3 : decide (i < p) = false := decide_eq_false hip2
              obtain ⟨y1, y2, y3, y4, y5, y6, y7, y8, y9⟩ := exp_more hk1 hk2
              have HTB := Aside0.mk (HT.out)
              obtain ⟨x1, x2, x3, x4, x5, x6, x7, x8⟩ := exp_facts hke hk1 hk2 p2
              have hcell := HT.out
              have hquo := HQUO.out
              clear q1 q4 q5 p1 p2 hk1 hk2 hke hcd
              go_wp2
              go_ret2
              exact ⟨by first | rfl | (rw [fsgn_false] at *; rfl), rfl⟩
            · have hhib : decide (48 ≤ c) = true := decide_eq_true hhi
              have hhic : decide (c ≤ 57) = false := decide_eq_false (by omega)
              clear hdig hhi
              try simp only [dotV]
              obtain ⟨p1, p2⟩ := q5 p rfl
              have hib : ((i : Int) == 0) = false := beq_false_of_ne (by omega)
              have h1b : ((i : Int) == 1) = false := beq_false_of_ne (by omega)
              obtain ⟨he1, he2⟩ := HEND.out (by have := HNL.out; omega)
              rw [← hcd] at he1 he2
              have he1b : (c == 101) = false := beq_false_of_ne he1
              have he2b : (c == 69) = false := beq_false_of_ne he2
              have hp1 : ((p : Int) == -1) = false := beq_false_of_ne (by omega)
              have hp2 : ((p : Int) != -1) = true := by simp only [bne, hp1]; rfl
              have hip : decide ((i : Int) < (p : Int)) = false := decide_eq_false (by omega)
              obtain ⟨hk1, hk2, hke⟩ := HK.out
              have hip2 : ¬ (i < p) := by omega
              have hip3 : decide (i < p) = false := decide_eq_false hip2
              obtain ⟨y1, y2, y3, y4, y5, y6, y7, y8, y9⟩ := exp_more hk1 hk2
              have HTB := Aside0.mk (HT.out)
              obtain ⟨x1, x2, x3, x4, x5, x6, x7, x8⟩ := exp_facts hke hk1 hk2 p2
              have hcell := HT.out
              have hquo := HQUO.out
              clear q1 q4 q5 p1 p2 hk1 hk2 hke hcd
              go_wp2
              go_ret2
              exact ⟨by first | rfl | (rw [fsgn_false] at *; rfl), rfl⟩
      · obtain rfl : i = N := by omega
        have hltb : decide ((i : Int) < (i : Int)) = false := decide_eq_false (by omega)
        rw [List.drop_of_length_le (by have := HNL.out; omega)] at q3
        injection q3 with z1 z2
        injection z2 with z2 z3
        subst z1 z3 z2
        clear hlt
        try simp only [dotV]
        obtain ⟨p1, p2⟩ := q5 p rfl
        have hib : ((i : Int) == 0) = false := beq_false_of_ne (by omega)
        have h1b : ((i : Int) == 1) = false := beq_false_of_ne (by omega)
        have hp1 : ((p : Int) == -1) = false := beq_false_of_ne (by omega)
        have hp2 : ((p : Int) != -1) = true := by simp only [bne, hp1]; rfl
        have hip : decide ((i : Int) < (p : Int)) = false := decide_eq_false (by omega)
        obtain ⟨hk1, hk2, hke⟩ := HK.out
        have hip2 : ¬ (i < p) := by omega
        have hip3 : decide (i < p) = false := decide_eq_false hip2
        obtain ⟨y1, y2, y3, y4, y5, y6, y7, y8, y9⟩ := exp_more hk1 hk2
        have HTB := Aside0.mk (HT.out)
        obtain ⟨x1, x2, x3, x4, x5, x6, x7, x8⟩ := exp_facts hke hk1 hk2 p2
        have hcell := HT.out
        have hquo := HQUO.out
        clear q1 q4 q5 p1 p2 hk1 hk2 hke
        go_wp2
        go_ret2
        exact ⟨by first | rfl | (rw [fsgn_false] at *; rfl), rfl⟩
/-- Where a number's digits begin, what they are, and whether it is within the bounds. -/
def rfS (l : List Int) : Nat := if decide (l.getD 0 0 = 45) = true then 1 else 0
def rfR (l : List Int) : Nat × Option Nat × Nat := scanF (l.drop (rfS l)) (rfS l) none 0
def rfP (l : List Int) : Nat := (rfR l).2.1.getD 0
def rfK (l : List Int) : Nat := (rfR l).1 - rfP l - 1
def rfN (l : List Int) : Nat := fsgn (decide (l.getD 0 0 = 45)) (rfR l).2.2
def rfOk (l : List Int) : Bool := decide (l.length < 140737488355328 ∧ rfS l < l.length ∧ l.getD 0 0 ≠ 43 ∧ 48 ≤ l.getD (rfS l) 0 ∧ l.getD (rfS l) 0 ≤ 57 ∧ (rfR l).2.2 < 10000000000000000 ∧ (rfR l).2.1 = some (rfP l) ∧ ((rfR l).1 < l.length → l.getD (rfR l).1 0 ≠ 101 ∧ l.getD (rfR l).1 0 ≠ 69) ∧ 1 ≤ rfK l ∧ rfK l ≤ 22 ∧ (rfR l).1 = rfP l + 1 + rfK l ∧ Ieee.double.div (rfN l) (p10 (rfK l)) = some (flop .quo (rfN l) (p10 (rfK l))))
def impl_ReadFloat.f (l : List Int) : Option (Nat × Int) := if rfOk l = true then some (flop .quo (rfN l) (p10 (rfK l)), ((rfR l).1 : Int)) else none
theorem impl_ReadFloat.calls (A0 : Option Addr) (c0 : Nat) (l0 : List Int) (r1 : Nat) (r2 : Int) (w : World) (hr0 : Kd.C (Kd.int .u8) w A0 l0.length l0) (hc0 : l0.length ≤ c0) (h : impl_ReadFloat.f l0 = some (r1, r2)) (HTabP : Aside0 (TabP w)) :
    Calls Tryd.prog 10 #[.slice A0 l0.length c0] w fun e w' => e = .returned (.tuple #[.float .f64 r1, .int .i64 r2]) ∧ Below w.heap.size w w' := by
  unfold impl_ReadFloat.f at h
  by_cases hl : rfOk l0 = true
  case neg => rw [if_neg hl] at h; cases h
  case pos =>
  rw [if_pos hl] at h
  have hl := of_decide_eq_true hl
  obtain ⟨h1, h2, h3, h4, h5, h6, h7, h8, h9, h10, h11, h12⟩ := hl
  have h := Option.some.inj h
  injection h with e1 e2
  obtain ⟨neg, hneg⟩ : ∃ b, b = decide (l0.getD 0 0 = 45) := ⟨_, rfl⟩
  have hs : rfS l0 = (if neg = true then 1 else 0) := by unfold rfS; rw [← hneg]
  have hr : rfR l0 = scanF (l0.drop (rfS l0)) (rfS l0) none 0 := rfl
  have hN : rfN l0 = fsgn neg (rfR l0).2.2 := by unfold rfN; rw [← hneg]
  rw [hN] at e1 h12
  clear hN
  generalize rfK l0 = k at h9 h10 h11 h12 e1
  generalize rfP l0 = p at h7 h11
  generalize rfS l0 = s at h2 h4 h5 hs hr
  generalize rfR l0 = r at h6 h7 h8 h11 h12 e1 e2 hr
  obtain ⟨e, dot, n⟩ := r
  simp only at h6 h7 h8 h11 h12 e1 e2
  subst h7
  have hsg : if neg = true then l0.getD 0 0 = 45 else (l0.getD 0 0 ≠ 43 ∧ l0.getD 0 0 ≠ 45) := by
    split
    · rename_i hn
      rw [hn] at hneg
      exact of_decide_eq_true hneg.symm
    · rename_i hn
      rw [Bool.not_eq_true] at hn
      rw [hn] at hneg
      exact ⟨h3, of_decide_eq_false hneg.symm⟩
  have hf : impl_own.f l0 = some l0 := by simp [impl_own.f] <;> omega
  have HR0 := Aside0.mk hr0
  have HC0 := Aside0.mk hc0
  have HF := Aside0.mk hf
  rw [e1] at h12
  have HP := Aside0.mk (fun (g c : Nat) (w1 : World) (hat : ∀ k, k < l0.length → w1.cell? ⟨g, k, none⟩ = some (.int .u8 (l0.getD k 0))) (hc : l0.length ≤ c) (hb : Below w.heap.size w w1) => parsefloat_dec g c l0 s e n p k neg r1 (p10 k) w1 hat hc h1 hs h2 hsg ⟨h4, h5⟩ hr.symm h6 h8 ⟨h9, h10, h11⟩ ((HTabP.out.below hb) k (by omega)) h12)
  have HE2 := Aside0.mk e2
  have hpos : 0 < l0.length := by omega
  clear h1 h2 h3 h4 h5 h6 h8 h9 h10 h11 h12 h e1 e2 hneg hs hr hsg hf hr0 hc0
  go_enter Tryd.func10, Tryd.ntmps10
  go_wp2_with fail
  refine (impl_own.calls A0 c0 l0 l0 w HR0.out HC0.out HF.out).mono ?_
  rintro e w1 ⟨v, rfl, hv, hb⟩
  have HB := Aside0.mk hb
  clear hb
  rcases (Kd.own_of_R hv).2 with ⟨_, h0⟩ | ⟨g, cap, cur, rfl, _⟩
  · exact absurd h0 (by simpa [encs] using (List.length_pos_iff.1 hpos))
  · have hnl := (Kd.R_reads' hv).1
    have hnc := (Kd.R_reads' hv).2.1
    have hat : ∀ k, k < l0.length → w1.cell? ⟨g, k, none⟩ = some (.int .u8 (l0.getD k 0)) := fun k hk => by
      have := (Kd.R_celln (0 : Int) hv (k : Int) (by omega) (by omega)).1
      simpa [rdOf, List.getD_eq_getElem?_getD, hk] using this
    have HAT := Aside0.mk (HP.out g cap w1 hat hnc HB.out)
    clear hv hat
    go_wp2_with fail
    refine HAT.out.mono ?_
    rintro e w2 ⟨rfl, rfl⟩
    go_wp2
    go_ret2
    exact ⟨by rw [← HE2.out]; rfl, HB.out⟩
end Go.Proofs.YtipfnfhglhflgaaDoor.Own
