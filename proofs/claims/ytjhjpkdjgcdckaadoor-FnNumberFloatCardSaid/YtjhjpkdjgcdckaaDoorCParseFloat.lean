/- The contract of ParseFloat (and of impl.ReadFloat) for a number without an exponent: a sign perhaps, digits, and a point with digits perhaps. -/
import Derived.Test.YtjhjpkdjgcdckaaDoorCown
import Derived.Test.YtjhjpkdjgcdckaaDoorOwn
import Derived.Test.YtjhjpkdjgcdckaaDoorCFl
import Derived.Outline
namespace Go.Proofs.YtjhjpkdjgcdckaaDoor.Own
open Go.RowKit Go.Proofs.YtjhjpkdjgcdckaaDoorW.PrintWords Go.Proofs.YtjhjpkdjgcdckaaDoorW.PrintLast
set_option linter.unusedVariables false
set_option linter.unusedSimpArgs false
/-- Where the digits (and a point) end that are read from i on, where the point is, and the digits' number. -/
def scanF : List Int → Nat → Option Nat → Nat → Nat × Option Nat × Nat
  | [], i, d, n => (i, d, n)
  | c :: t, i, d, n => if 48 ≤ c ∧ c ≤ 57 then scanF t (i + 1) d (n * 10 + (c - 48).toNat) else if d = none ∧ c = 46 then scanF t (i + 1) (some i) n else (i, d, n)
theorem scanF_ge : ∀ (l : List Int) (i : Nat) (d : Option Nat) (n : Nat), n ≤ (scanF l i d n).2.2 ∧ i ≤ (scanF l i d n).1 ∧ (scanF l i d n).1 ≤ i + l.length
  | [], i, d, n => ⟨Nat.le_refl _, Nat.le_refl _, Nat.le_refl _⟩
  | c :: t, i, d, n => by
    unfold scanF
    split
    · obtain ⟨h1, h2, h3⟩ := scanF_ge t (i + 1) d (n * 10 + (c - 48).toNat)
      simp only [List.length_cons]
      omega
    · split
      · obtain ⟨h1, h2, h3⟩ := scanF_ge t (i + 1) (some i) n
        simp only [List.length_cons]
        omega
      · simp
def dotV : Option Nat → Value
  | none => .int .i64 (-1)
  | some p => .int .i64 (p : Int)
/-- The word of the digits' number, with its sign. -/
def fsgn (neg : Bool) (n : Nat) : Nat := if neg = true then Op.negFloat .f64 (floatOfInt .f64 (n : Int)) else floatOfInt .f64 (n : Int)
theorem dig_facts {n : Nat} {c : Int} (h : 48 ≤ c ∧ c ≤ 57) (hn : n * 10 + (c - 48).toNat < 10000000000000000) :
    decide (48 ≤ c) = true ∧ decide (c ≤ 57) = true ∧ decide ((1844674407370955161 : Int) < (n : Int)) = false ∧ (c - 48) % 256 = c - 48 ∧ IntKind.u64.wrap (c - 48) = c - 48 ∧ IntKind.u64.wrap (18446744073709551615 - (c - 48)) = 18446744073709551615 - (c - 48) ∧ IntKind.u64.wrap ((n : Int) * 10) = (n : Int) * 10 ∧ decide (18446744073709551615 - (c - 48) < (n : Int) * 10) = false ∧ IntKind.u64.wrap ((n : Int) * 10 + (c - 48)) = ((n * 10 + (c - 48).toNat : Nat) : Int) := by
  have hw : ∀ x : Int, 0 ≤ x → x < 18446744073709551616 → IntKind.u64.wrap x = x := fun x h0 h1 => by
    have e : IntKind.u64.wrap x = x % 18446744073709551616 := by simp [IntKind.wrap, IntKind.bits, IntKind.signed]
    rw [e]; omega
  refine ⟨decide_eq_true h.1, decide_eq_true h.2, decide_eq_false (by omega), by omega, hw _ (by omega) (by omega), hw _ (by omega) (by omega), hw _ (by omega) (by omega), decide_eq_false (by omega), ?_⟩
  rw [hw _ (by omega) (by omega)]; omega
theorem wrF {k n : Nat} (h : k < n) (hn : n < 140737488355328) : wrap64 ((k : Int) + 1) = ((k + 1 : Nat) : Int) := by unfold wrap64; omega
theorem measF {k n : Nat} (h : k < n) (hn : n < 140737488355328) : n - (intOf (.int .i64 (wrap64 ((k : Int) + 1)))).toNat < n - (intOf (.int .i64 (k : Int))).toNat := by
  rw [wrF h hn]
  simp only [intOf, Int.toNat_natCast]
  omega
theorem scanF_some : ∀ (l : List Int) (i p n : Nat), (scanF l i (some p) n).2.1 = some p
  | [], _, _, _ => rfl
  | c :: t, i, p, n => by
    unfold scanF
    split
    · exact scanF_some t _ p _
    · rw [if_neg (by simp)]
theorem fsgn_true (n : Nat) : fsgn true n = Op.negFloat .f64 (floatOfInt .f64 (n : Int)) := if_pos rfl
theorem fsgn_false (n : Nat) : fsgn false n = floatOfInt .f64 (n : Int) := if_neg (by simp)
theorem dig_cast {m : Nat} {c : Int} (h : 48 ≤ c) : (m : Int) * 10 + max (c - 48) 0 = ((m * 10 + (c - 48).toNat : Nat) : Int) := by omega
theorem measG {i N : Nat} (h : i < N) : N - (intOf (.int .i64 ((i : Int) + 1))).toNat < N - (intOf (.int .i64 (i : Int))).toNat := by
  simp only [intOf]
  omega
theorem unary_neg_float (k : FloatKind) (b : Nat) : Op.unary .neg (.float k b) = pure (.float k (Op.negFloat k b)) := rfl
attribute [local go_sem] unary_neg_float
set_option maxRecDepth 20000 in
set_option maxHeartbeats 4000000 in
theorem parsefloat (g c0 : Nat) (l : List Int) (s e n : Nat) (neg : Bool) (dot : Option Nat) (res : Nat) (w : World) (hat : ∀ k, k < l.length → w.cell? ⟨g, k, none⟩ = some (.int .u8 (l.getD k 0))) (hc0 : l.length ≤ c0) (hl : l.length < 140737488355328)
    (hsn : s = (if neg = true then 1 else 0)) (hsl : s < l.length) (hsg : if neg = true then l.getD 0 0 = 45 else (l.getD 0 0 ≠ 43 ∧ l.getD 0 0 ≠ 45)) (hdg : 48 ≤ l.getD s 0 ∧ l.getD s 0 ≤ 57)
    (hsc : scanF (l.drop s) s none 0 = (e, dot, n)) (hn : n < 10000000000000000) (hend : e < l.length → l.getD e 0 ≠ 101 ∧ l.getD e 0 ≠ 69) (hdot : dot = none) (hres : res = fsgn neg n) :
    Calls Tryd.prog 11 #[.slice (some ⟨g, 0, none⟩) l.length c0] w fun ee w' => ee = .returned (.tuple #[.float .f64 res, .int .i64 (e : Int)]) ∧ w' = w := by
  have HAT := Aside0.mk hat
  have HDG := Aside0.mk hdg
  have HSC := Aside0.mk hsc
  have HEND := Aside0.mk hend
  have HRES := Aside0.mk hres
  have HDOT := Aside0.mk hdot
  have HN := Aside0.mk hn
  obtain ⟨N, hN⟩ : ∃ N, N = l.length := ⟨_, rfl⟩
  have HNL := Aside0.mk hN
  have h00 := hat 0 (by omega)
  rw [← hN] at hl hc0 hsl ⊢
  have hN0 : (0 : Int) < (N : Int) := by omega
  have hN0b : decide ((0 : Int) < (N : Int)) = true := decide_eq_true hN0
  cases neg
  case true =>
    simp only [if_true] at hsn hsg
    rw [hsg] at h00
    subst hsn
    clear hat hdg hsc hend hres hdot hn hsg hN
    go_enter Tryd.func11, Tryd.ntmps11
    go_wp2
    go_loopw [4, 7, 8, 9] (fun v4 v7 v8 v9 wr => ∃ (i : Nat) (d : Option Nat) (m : Nat), v4 = .int .i64 (i : Int) ∧ v7 = dotV d ∧ v8 = .int .i64 (-1) ∧ v9 = .int .u64 (m : Int) ∧ w = wr ∧ Aside0 (1 ≤ i ∧ i ≤ N ∧ scanF (l.drop i) i d m = (e, dot, n) ∧ (i = 1 → d = none ∧ 48 ≤ l.getD i 0 ∧ l.getD i 0 ≤ 57))) (fun v4 _ _ _ _ => N - (intOf v4).toNat)
    case atStart => exact ⟨1, none, 0, rfl, rfl, rfl, rfl, rfl, ⟨Nat.le_refl _, by omega, HSC.out, fun _ => ⟨rfl, HDG.out⟩⟩⟩
    case round =>
      obtain ⟨i, d, m, rfl, rfl, rfl, rfl, rfl, HH⟩ := hrel
      obtain ⟨q1, q2, q3, q4⟩ := HH.out
      clear HH
      by_cases hlt : i < N
      · have hci := HAT.out i (by have := HNL.out; omega)
        have hdr : l.drop i = l.getD i 0 :: l.drop (i + 1) := by
          have h := HNL.out
          rw [List.drop_eq_getElem_cons (by omega : i < l.length)]
          simp [List.getD_eq_getElem?_getD, List.getElem?_eq_getElem (show i < l.length by omega)]
        rw [hdr] at q3
        clear hdr
        obtain ⟨c, hcd⟩ : ∃ c, c = l.getD i 0 := ⟨_, rfl⟩
        rw [← hcd] at hci q3 q4
        have hltb : decide ((i : Int) < (N : Int)) = true := decide_eq_true (by omega)
        by_cases hdig : 48 ≤ c ∧ c ≤ 57
        · rw [scanF, if_pos hdig] at q3
          have hm : m * 10 + (c - 48).toNat < 10000000000000000 := by
            have h1 := (scanF_ge (l.drop (i + 1)) (i + 1) d (m * 10 + (c - 48).toNat)).1
            rw [q3] at h1
            exact Nat.lt_of_le_of_lt h1 HN.out
          obtain ⟨d1, d2, d3, d4, d5, d6, d7, d8, d9⟩ := dig_facts hdig hm
          have HQ := Aside0.mk q3
          have HD := Aside0.mk (dig_cast (m := m) hdig.1)
          have HI := Aside0.mk (show 1 ≤ i + 1 ∧ (i + 1 = 1 → d = none ∧ 48 ≤ l.getD (i + 1) 0 ∧ l.getD (i + 1) 0 ≤ 57) from ⟨by omega, fun h => by omega⟩)
          have HM := Aside0.mk (measG hlt)
          clear q1 q2 q3 q4 hdig hcd hm
          go_wp2
          go_roundw
          case rel => exact ⟨i + 1, d, m * 10 + (c - 48).toNat, rfl, rfl, rfl, congrArg (Value.int .u64) HD.out, by trivial, ⟨HI.out.1, hlt, HQ.out, HI.out.2⟩⟩
          case measure => exact HM.out
        · rw [scanF, if_neg hdig] at q3
          have hbr := hdig
          by_cases hpt : d = none ∧ c = 46
          · rw [if_pos hpt] at q3
            exfalso
            have := scanF_some (l.drop (i + 1)) (i + 1) i m
            rw [q3] at this
            rw [HDOT.out] at this
            cases this
          · rw [if_neg hpt] at q3
            injection q3 with z1 z2
            injection z2 with z2 z3
            subst z1 z3
            rw [HDOT.out] at z2
            subst z2
            have hpb : (c == 46) = false := beq_false_of_ne (fun h => hpt ⟨rfl, h⟩)
            clear hpt
            rcases Int.lt_or_le c 48 with hlo | hhi
            · have hlob : decide (48 ≤ c) = false := decide_eq_false (by omega)
              clear hdig hlo
              try simp only [dotV]
              have his : ¬ (i = 1) := fun h => hbr (q4 h).2
              have hib : ((i : Int) == 1) = false := beq_false_of_ne (by omega)
              obtain ⟨he1, he2⟩ := HEND.out (by have := HNL.out; omega)
              rw [← hcd] at he1 he2
              have he1b : (c == 101) = false := beq_false_of_ne he1
              have he2b : (c == 69) = false := beq_false_of_ne he2
              clear q1 q4 his hcd
              by_cases h1 : (i : Int) = 2
              · have h1b : ((i : Int) == 2) = true := beq_iff_eq.2 h1
                clear h1
                go_wp2
                go_ret2
                exact ⟨by rw [HRES.out, fsgn_true]; rfl, rfl⟩
              · have h1b : ((i : Int) == 2) = false := beq_false_of_ne h1
                clear h1
                go_wp2
                go_ret2
                exact ⟨by rw [HRES.out, fsgn_true]; rfl, rfl⟩
            · have hhib : decide (48 ≤ c) = true := decide_eq_true hhi
              have hhic : decide (c ≤ 57) = false := decide_eq_false (by omega)
              clear hdig hhi
              try simp only [dotV]
              have his : ¬ (i = 1) := fun h => hbr (q4 h).2
              have hib : ((i : Int) == 1) = false := beq_false_of_ne (by omega)
              obtain ⟨he1, he2⟩ := HEND.out (by have := HNL.out; omega)
              rw [← hcd] at he1 he2
              have he1b : (c == 101) = false := beq_false_of_ne he1
              have he2b : (c == 69) = false := beq_false_of_ne he2
              clear q1 q4 his hcd
              by_cases h1 : (i : Int) = 2
              · have h1b : ((i : Int) == 2) = true := beq_iff_eq.2 h1
                clear h1
                go_wp2
                go_ret2
                exact ⟨by rw [HRES.out, fsgn_true]; rfl, rfl⟩
              · have h1b : ((i : Int) == 2) = false := beq_false_of_ne h1
                clear h1
                go_wp2
                go_ret2
                exact ⟨by rw [HRES.out, fsgn_true]; rfl, rfl⟩
      · obtain rfl : i = N := by omega
        have hltb : decide ((i : Int) < (i : Int)) = false := decide_eq_false (by omega)
        rw [List.drop_of_length_le (by have := HNL.out; omega)] at q3
        injection q3 with z1 z2
        injection z2 with z2 z3
        subst z1 z3
        rw [HDOT.out] at z2
        subst z2
        clear hlt
        try simp only [dotV]
        have his : ¬ (i = 1) := by omega
        have hib : ((i : Int) == 1) = false := beq_false_of_ne (by omega)
        clear q1 q4 his
        by_cases h1 : (i : Int) = 2
        · have h1b : ((i : Int) == 2) = true := beq_iff_eq.2 h1
          clear h1
          go_wp2
          go_ret2
          exact ⟨by rw [HRES.out, fsgn_true]; rfl, rfl⟩
        · have h1b : ((i : Int) == 2) = false := beq_false_of_ne h1
          clear h1
          go_wp2
          go_ret2
          exact ⟨by rw [HRES.out, fsgn_true]; rfl, rfl⟩
  case false =>
    simp only [Bool.false_eq_true, if_false] at hsn hsg
    have hq1 : (l.getD 0 0 == 43) = false := beq_false_of_ne hsg.1
    have hq2 : (l.getD 0 0 == 45) = false := beq_false_of_ne hsg.2
    subst hsn
    generalize l.getD 0 0 = c at h00 hq1 hq2
    clear hat hdg hsc hend hres hdot hn hsg hN
    go_enter Tryd.func11, Tryd.ntmps11
    go_wp2
    go_loopw [4, 7, 8, 9] (fun v4 v7 v8 v9 wr => ∃ (i : Nat) (d : Option Nat) (m : Nat), v4 = .int .i64 (i : Int) ∧ v7 = dotV d ∧ v8 = .int .i64 (-1) ∧ v9 = .int .u64 (m : Int) ∧ w = wr ∧ Aside0 (0 ≤ i ∧ i ≤ N ∧ scanF (l.drop i) i d m = (e, dot, n) ∧ (i = 0 → d = none ∧ 48 ≤ l.getD i 0 ∧ l.getD i 0 ≤ 57))) (fun v4 _ _ _ _ => N - (intOf v4).toNat)
    case atStart => exact ⟨0, none, 0, rfl, rfl, rfl, rfl, rfl, ⟨Nat.le_refl _, by omega, HSC.out, fun _ => ⟨rfl, HDG.out⟩⟩⟩
    case round =>
      obtain ⟨i, d, m, rfl, rfl, rfl, rfl, rfl, HH⟩ := hrel
      obtain ⟨q1, q2, q3, q4⟩ := HH.out
      clear HH
      by_cases hlt : i < N
      · have hci := HAT.out i (by have := HNL.out; omega)
        have hdr : l.drop i = l.getD i 0 :: l.drop (i + 1) := by
          have h := HNL.out
          rw [List.drop_eq_getElem_cons (by omega : i < l.length)]
          simp [List.getD_eq_getElem?_getD, List.getElem?_eq_getElem (show i < l.length by omega)]
        rw [hdr] at q3
        clear hdr
        obtain ⟨c, hcd⟩ : ∃ c, c = l.getD i 0 := ⟨_, rfl⟩
        rw [← hcd] at hci q3 q4
        have hltb : decide ((i : Int) < (N : Int)) = true := decide_eq_true (by omega)
        by_cases hdig : 48 ≤ c ∧ c ≤ 57
        · rw [scanF, if_pos hdig] at q3
          have hm : m * 10 + (c - 48).toNat < 10000000000000000 := by
            have h1 := (scanF_ge (l.drop (i + 1)) (i + 1) d (m * 10 + (c - 48).toNat)).1
            rw [q3] at h1
            exact Nat.lt_of_le_of_lt h1 HN.out
          obtain ⟨d1, d2, d3, d4, d5, d6, d7, d8, d9⟩ := dig_facts hdig hm
          have HQ := Aside0.mk q3
          have HD := Aside0.mk (dig_cast (m := m) hdig.1)
          have HI := Aside0.mk (show 0 ≤ i + 1 ∧ (i + 1 = 0 → d = none ∧ 48 ≤ l.getD (i + 1) 0 ∧ l.getD (i + 1) 0 ≤ 57) from ⟨by omega, fun h => by omega⟩)
          have HM := Aside0.mk (measG hlt)
          clear q1 q2 q3 q4 hdig hcd hm
          go_wp2
          go_roundw
          case rel => exact ⟨i + 1, d, m * 10 + (c - 48).toNat, rfl, rfl, rfl, congrArg (Value.int .u64) HD.out, by trivial, ⟨HI.out.1, hlt, HQ.out, HI.out.2⟩⟩
          case measure => exact HM.out
        · rw [scanF, if_neg hdig] at q3
          have hbr := hdig
          by_cases hpt : d = none ∧ c = 46
          · rw [if_pos hpt] at q3
            exfalso
            have := scanF_some (l.drop (i + 1)) (i + 1) i m
            rw [q3] at this
            rw [HDOT.out] at this
            cases this
          · rw [if_neg hpt] at q3
            injection q3 with z1 z2
            injection z2 with z2 z3
            subst z1 z3
            rw [HDOT.out] at z2
            subst z2
            have hpb : (c == 46) = false := beq_false_of_ne (fun h => hpt ⟨rfl, h⟩)
            clear hpt
            rcases Int.lt_or_le c 48 with hlo | hhi
            · have hlob : decide (48 ≤ c) = false := decide_eq_false (by omega)
              clear hdig hlo
              try simp only [dotV]
              have his : ¬ (i = 0) := fun h => hbr (q4 h).2
              have hib : ((i : Int) == 0) = false := beq_false_of_ne (by omega)
              obtain ⟨he1, he2⟩ := HEND.out (by have := HNL.out; omega)
              rw [← hcd] at he1 he2
              have he1b : (c == 101) = false := beq_false_of_ne he1
              have he2b : (c == 69) = false := beq_false_of_ne he2
              clear q1 q4 his hcd
              by_cases h1 : (i : Int) = 1
              · have h1b : ((i : Int) == 1) = true := beq_iff_eq.2 h1
                clear h1
                go_wp2
                go_ret2
                exact ⟨by rw [HRES.out, fsgn_false]; rfl, rfl⟩
              · have h1b : ((i : Int) == 1) = false := beq_false_of_ne h1
                clear h1
                go_wp2
                go_ret2
                exact ⟨by rw [HRES.out, fsgn_false]; rfl, rfl⟩
            · have hhib : decide (48 ≤ c) = true := decide_eq_true hhi
              have hhic : decide (c ≤ 57) = false := decide_eq_false (by omega)
              clear hdig hhi
              try simp only [dotV]
              have his : ¬ (i = 0) := fun h => hbr (q4 h).2
              have hib : ((i : Int) == 0) = false := beq_false_of_ne (by omega)
              obtain ⟨he1, he2⟩ := HEND.out (by have := HNL.out; omega)
              rw [← hcd] at he1 he2
              have he1b : (c == 101) = false := beq_false_of_ne he1
              have he2b : (c == 69) = false := beq_false_of_ne he2
              clear q1 q4 his hcd
              by_cases h1 : (i : Int) = 1
              · have h1b : ((i : Int) == 1) = true := beq_iff_eq.2 h1
                clear h1
                go_wp2
                go_ret2
                exact ⟨by rw [HRES.out, fsgn_false]; rfl, rfl⟩
              · have h1b : ((i : Int) == 1) = false := beq_false_of_ne h1
                clear h1
                go_wp2
                go_ret2
                exact ⟨by rw [HRES.out, fsgn_false]; rfl, rfl⟩
      · obtain rfl : i = N := by omega
        have hltb : decide ((i : Int) < (i : Int)) = false := decide_eq_false (by omega)
        rw [List.drop_of_length_le (by have := HNL.out; omega)] at q3
        injection q3 with z1 z2
        injection z2 with z2 z3
        subst z1 z3
        rw [HDOT.out] at z2
        subst z2
        clear hlt
        try simp only [dotV]
        have his : ¬ (i = 0) := by omega
        have hib : ((i : Int) == 0) = false := beq_false_of_ne (by omega)
        clear q1 q4 his
        by_cases h1 : (i : Int) = 1
        · have h1b : ((i : Int) == 1) = true := beq_iff_eq.2 h1
          clear h1
          go_wp2
          go_ret2
          exact ⟨by rw [HRES.out, fsgn_false]; rfl, rfl⟩
        · have h1b : ((i : Int) == 1) = false := beq_false_of_ne h1
          clear h1
          go_wp2
          go_ret2
          exact ⟨by rw [HRES.out, fsgn_false]; rfl, rfl⟩
/-- Where a number's digits begin, what they are, and whether it is within the bounds. -/
def rfS (l : List Int) : Nat := if decide (l.getD 0 0 = 45) = true then 1 else 0
def rfR (l : List Int) : Nat × Option Nat × Nat := scanF (l.drop (rfS l)) (rfS l) none 0
def rfOk (l : List Int) : Bool := decide (l.length < 140737488355328 ∧ rfS l < l.length ∧ l.getD 0 0 ≠ 43 ∧ 48 ≤ l.getD (rfS l) 0 ∧ l.getD (rfS l) 0 ≤ 57 ∧ (rfR l).2.2 < 10000000000000000 ∧ (rfR l).2.1 = none ∧ ((rfR l).1 < l.length → l.getD (rfR l).1 0 ≠ 101 ∧ l.getD (rfR l).1 0 ≠ 69))
def impl_ReadFloat.f (l : List Int) : Option (Nat × Int) := if rfOk l = true then some (fsgn (decide (l.getD 0 0 = 45)) (rfR l).2.2, ((rfR l).1 : Int)) else none
theorem impl_ReadFloat.calls (A0 : Option Addr) (c0 : Nat) (l0 : List Int) (r1 : Nat) (r2 : Int) (w : World) (hr0 : Kd.C (Kd.int .u8) w A0 l0.length l0) (hc0 : l0.length ≤ c0) (h : impl_ReadFloat.f l0 = some (r1, r2)) :
    Calls Tryd.prog 9 #[.slice A0 l0.length c0] w fun e w' => e = .returned (.tuple #[.float .f64 r1, .int .i64 r2]) ∧ Below w.heap.size w w' := by
  unfold impl_ReadFloat.f at h
  by_cases hl : rfOk l0 = true
  case neg => rw [if_neg hl] at h; cases h
  case pos =>
  rw [if_pos hl] at h
  have hl := of_decide_eq_true hl
  obtain ⟨h1, h2, h3, h4, h5, h6, h7, h8⟩ := hl
  have h := Option.some.inj h
  injection h with e1 e2
  obtain ⟨neg, hneg⟩ : ∃ b, b = decide (l0.getD 0 0 = 45) := ⟨_, rfl⟩
  have hs : rfS l0 = (if neg = true then 1 else 0) := by unfold rfS; rw [← hneg]
  have hr : rfR l0 = scanF (l0.drop (rfS l0)) (rfS l0) none 0 := rfl
  rw [← hneg] at e1
  generalize rfS l0 = s at h2 h4 h5 hs hr
  generalize rfR l0 = r at h6 h7 h8 e1 e2 hr
  obtain ⟨e, dot, n⟩ := r
  simp only at h6 h7 h8 e1 e2
  have hsg : if neg = true then l0.getD 0 0 = 45 else (l0.getD 0 0 ≠ 43 ∧ l0.getD 0 0 ≠ 45) := by
    split
    · rename_i hn
      rw [hn] at hneg
      exact of_decide_eq_true hneg.symm
    · rename_i hn
      rw [Bool.not_eq_true] at hn
      rw [hn] at hneg
      exact ⟨h3, of_decide_eq_false hneg.symm⟩
  have hf : impl_own.f l0 = some l0 := by simp [impl_own.f] <;> omega
  have HR0 := Aside0.mk hr0
  have HC0 := Aside0.mk hc0
  have HF := Aside0.mk hf
  have HP := Aside0.mk (fun (g c : Nat) (w1 : World) (hat : ∀ k, k < l0.length → w1.cell? ⟨g, k, none⟩ = some (.int .u8 (l0.getD k 0))) (hc : l0.length ≤ c) => parsefloat g c l0 s e n neg dot r1 w1 hat hc h1 hs h2 hsg ⟨h4, h5⟩ hr.symm h6 h8 h7 e1.symm)
  have HE2 := Aside0.mk e2
  have hpos : 0 < l0.length := by omega
  clear h1 h2 h3 h4 h5 h6 h7 h8 h e1 e2 hneg hs hr hsg hf hr0 hc0
  go_enter Tryd.func9, Tryd.ntmps9
  go_wp2_with fail
  refine (impl_own.calls A0 c0 l0 l0 w HR0.out HC0.out HF.out).mono ?_
  rintro e w1 ⟨v, rfl, hv, hb⟩
  have HB := Aside0.mk hb
  clear hb
  rcases (Kd.own_of_R hv).2 with ⟨_, h0⟩ | ⟨g, cap, cur, rfl, _⟩
  · exact absurd h0 (by simpa [encs] using (List.length_pos_iff.1 hpos))
  · have hnl := (Kd.R_reads' hv).1
    have hnc := (Kd.R_reads' hv).2.1
    have hat : ∀ k, k < l0.length → w1.cell? ⟨g, k, none⟩ = some (.int .u8 (l0.getD k 0)) := fun k hk => by
      have := (Kd.R_celln (0 : Int) hv (k : Int) (by omega) (by omega)).1
      simpa [rdOf, List.getD_eq_getElem?_getD, hk] using this
    have HAT := Aside0.mk (HP.out g cap w1 hat hnc)
    clear hv hat
    go_wp2_with fail
    refine HAT.out.mono ?_
    rintro e w2 ⟨rfl, rfl⟩
    go_wp2
    go_ret2
    exact ⟨by rw [← HE2.out]; rfl, HB.out⟩
end Go.Proofs.YtjhjpkdjgcdckaaDoor.Own
