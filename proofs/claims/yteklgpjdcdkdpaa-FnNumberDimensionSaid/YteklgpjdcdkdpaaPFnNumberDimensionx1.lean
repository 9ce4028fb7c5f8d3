-- Laid by a program of this session, out of the translation's print.
import Derived.Test.YteklgpjdcdkdpaaPFnNumberDimensionx0
namespace Go.Proofs.Yteklgpjdcdkdpaa.PFnNumberDimension
open Go.Proofs.Yteklgpjdcdkdpaa.Own
open Go.RowKit Go.Proofs.YteklgpjdcdkdpaaW.PrintWords Go.Proofs.YteklgpjdcdkdpaaW.PrintLast Go.Proofs.YteklgpjdcdkdpaaW.PrintMore
attribute [local go_sem] max2_int min2_int max_two min_two max_three min_three max_four min_four   -- for this text's walks alone
set_option linter.unusedVariables false
set_option linter.unusedSimpArgs false

/-! ### laws_fewBytes: function 19 -/
def laws_fewBytes.l0 : Nat → List (List Int) → Int → Int → Option (Bool)
  | 0, _, _, _ => none
  | k + 1, x5, x6, x7 => if x7 < x6 then (if 0 ≤ x7 then (if x7 < (x5.length : Int) then (if ((rd_L1 x5 x7).length : Int) > 300 then (some false) else (laws_fewBytes.l0 k x5 x6 (wrap64 (x7 + 1)))) else (none)) else (none)) else (some true)
def laws_fewBytes.f (k : Nat) (l0 : List (List Int)) : Option (Bool) := laws_fewBytes.l0 k l0 (l0.length : Int) 0
theorem laws_fewBytes.mono_l : ∀ k, (∀ y0 y1 y2, LeO (laws_fewBytes.l0 k y0 y1 y2) (laws_fewBytes.l0 (k + 1) y0 y1 y2))
  | 0 => fun _ _ _ r h => by simp [laws_fewBytes.l0] at h
  | k + 1 => by
    have ih0 := laws_fewBytes.mono_l k
    · intro y0 y1 y2
      unfold laws_fewBytes.l0
      repeat' first
      | (with_reducible exact ih0 _ _ _)
      | (with_reducible exact LeO.refl _)
      | (with_reducible exact LeO.none _)
      | (with_reducible refine LeO.ite ?_ ?_)
      | (with_reducible refine LeO.bind ?_ (fun _ => ?_))
      | exact ih0 _ _ _
      | exact LeO.none _
      | refine LeO.ite ?_ ?_
      | refine LeO.bind ?_ (fun _ => ?_)
theorem laws_fewBytes.mono : ∀ a0 k, LeO (laws_fewBytes.f k a0) (laws_fewBytes.f (k + 1) a0) := by
  intro a0 k
  have ih0 := laws_fewBytes.mono_l k
  unfold laws_fewBytes.f
  repeat' first
      | (with_reducible exact ih0 _ _ _)
      | (with_reducible exact LeO.refl _)
      | (with_reducible exact LeO.none _)
      | (with_reducible refine LeO.ite ?_ ?_)
      | (with_reducible refine LeO.bind ?_ (fun _ => ?_))
      | exact ih0 _ _ _
      | exact LeO.none _
      | refine LeO.ite ?_ ?_
      | refine LeO.bind ?_ (fun _ => ?_)
set_option maxHeartbeats 8000000 in
set_option maxRecDepth 100000 in
theorem laws_fewBytes.calls (k : Nat) (A0 : Option Addr) (c0 : Nat) (l0 : List (List Int)) (r : Bool) (w : World) (hr0 : Kd.C (Kd.slice 5 (Kd.int .u8)) w A0 l0.length l0) (hc0 : l0.length ≤ c0) (h : laws_fewBytes.f k l0 = some r) :
    Calls Try.prog 19 #[.slice A0 l0.length c0] w fun e w' => e = .returned (.bool r) ∧ Drawn0 w w' := by
  have HR0 := Aside0.mk hr0
  have HC0 := Aside0.mk hc0
  clear hr0 hc0
  have H : (laws_fewBytes.l0 k l0 (l0.length : Int) 0) = some r := h
  clear h
  have H' := Aside0.mk H
  clear H
  go_enter Try.func19, Try.ntmps19
  go_wp2
  go_loopg [7] k (fun kq v7 w' => ∃ (x7_1 : Int), v7 = .int .i64 x7_1 ∧ Aside0 (laws_fewBytes.l0 kq l0 (l0.length : Int) x7_1 = some r) ∧ Aside0 (kq ≤ k) ∧ Drawn0 w w')
  case atStart => exact ⟨(0), (by first | rfl | (simp; done) | (simp [*]; done)), H', ⟨Nat.le_refl _⟩, by repeat (first | exact Drawn0.refl _ | apply Drawn0.step)⟩
  case round =>
    clear H'
    try clear c1
    obtain ⟨x7_1, rfl, HA, HK1, ⟨m1, rfl⟩⟩ := hrel
    cases gk with
    | zero => exact absurd HA.out (by simp [laws_fewBytes.l0])
    | succ k1 =>
      have H := HA.out
      clear HA
      simp only [laws_fewBytes.l0] at H
      by_cases c2 : x7_1 < (l0.length : Int)
      · rw [if_pos c2] at H
        have c2b0 : decide (x7_1 < (l0.length : Int)) = true := decide_eq_true c2
        clear c2
        by_cases c3 : 0 ≤ x7_1
        · rw [if_pos c3] at H
          have c3b0 : decide (0 ≤ x7_1) = true := decide_eq_true c3
          clear c3
          by_cases c4 : x7_1 < (l0.length : Int)
          · rw [if_pos c4] at H
            have c4b0 : decide (x7_1 < (l0.length : Int)) = true := decide_eq_true c4
            clear c4
            by_cases c5 : ((rd_L1 l0 x7_1).length : Int) > 300
            · rw [if_pos c5] at H
              have c5b0 : decide (300 < ((rd_L1 l0 x7_1).length : Int)) = true := decide_eq_true c5
              have c5b1 : decide (300 < (rd_L1 l0 x7_1).length) = true := decide_eq_true (by omega)
              clear c5
              as_aux_lemma =>
                obtain rfl := Option.some.inj H
                have p101 : 0 ≤ (x7_1 : Int) := of_decide_eq_true (by first | (with_reducible assumption) | assumption)
                have q101 : x7_1 < (l0.length : Int) := of_decide_eq_true (by first | (with_reducible assumption) | assumption)
                obtain ⟨ad101, A101_0, c101_0, e101, hx101_0, hl101_0, hi101_0⟩ := at_L1 HR0.out x7_1 p101 q101
                cases e101
                have HR101_0 := Aside0.mk hi101_0
                have HC101_0 := Aside0.mk hl101_0
                clear hi101_0 hl101_0
                replace p101 := eq_true p101
                replace q101 := eq_true q101
                go_wp2
                go_ret
                exact ⟨by first | rfl | (simp; done) | (simp [*]; done), by repeat (first | exact Drawn0.refl _ | apply Drawn0.step)⟩
            · rw [if_neg c5] at H
              have c5b0 : decide (300 < ((rd_L1 l0 x7_1).length : Int)) = false := decide_eq_false c5
              have c5b1 : decide (300 < (rd_L1 l0 x7_1).length) = false := decide_eq_false (by omega)
              clear c5
              as_aux_lemma =>
                have H' := Aside0.mk H
                clear H
                have p101 : 0 ≤ (x7_1 : Int) := of_decide_eq_true (by first | (with_reducible assumption) | assumption)
                have q101 : x7_1 < (l0.length : Int) := of_decide_eq_true (by first | (with_reducible assumption) | assumption)
                obtain ⟨ad101, A101_0, c101_0, e101, hx101_0, hl101_0, hi101_0⟩ := at_L1 HR0.out x7_1 p101 q101
                cases e101
                have HR101_0 := Aside0.mk hi101_0
                have HC101_0 := Aside0.mk hl101_0
                clear hi101_0 hl101_0
                replace p101 := eq_true p101
                replace q101 := eq_true q101
                go_wp2
                go_roundg k1
                case measure => have := HK1.out; omega
                case rel => exact ⟨(wrap64 (x7_1 + 1)), (by first | rfl | (simp; done) | (simp [*]; done)), H', ⟨by have := HK1.out; omega⟩, by repeat (first | exact Drawn0.refl _ | apply Drawn0.step)⟩
          · rw [if_neg c4] at H
            exact absurd H (by simp)
        · rw [if_neg c3] at H
          exact absurd H (by simp)
      · rw [if_neg c2] at H
        have c2b0 : decide (x7_1 < (l0.length : Int)) = false := decide_eq_false c2
        clear c2
        as_aux_lemma =>
          obtain rfl := Option.some.inj H
          go_wp2
          go_ret
          exact ⟨by first | rfl | (simp; done) | (simp [*]; done), by repeat (first | exact Drawn0.refl _ | apply Drawn0.step)⟩

/-! ### spec_signFrom: function 50 -/
def spec_signFrom.f (l0 : List Int) (a1 : Int) : Option (Int) := if a1 < (l0.length : Int) then (if 0 ≤ a1 then (if (rd l0 a1) = 43 then (some (wrap64 (a1 + 1))) else (if (rd l0 a1) = 45 then (some (wrap64 (a1 + 1))) else (some a1))) else (none)) else (some a1)
set_option maxHeartbeats 8000000 in
set_option maxRecDepth 100000 in
theorem spec_signFrom.calls (A0 : Option Addr) (c0 : Nat) (l0 : List Int) (a1 : Int) (r : Int) (w : World) (hr0 : Kd.C (Kd.int .u8) w A0 l0.length l0) (hc0 : l0.length ≤ c0) (h : spec_signFrom.f l0 a1 = some r) :
    Calls Try.prog 50 #[.slice A0 l0.length c0, .int .i64 a1] w fun e w' => e = .returned (.int .i64 r) ∧ Drawn0 w w' := by
  have HR0 := Aside0.mk hr0
  have HC0 := Aside0.mk hc0
  clear hr0 hc0
  have H : (if a1 < (l0.length : Int) then (if 0 ≤ a1 then (if (rd l0 a1) = 43 then (some (wrap64 (a1 + 1))) else (if (rd l0 a1) = 45 then (some (wrap64 (a1 + 1))) else (some a1))) else (none)) else (some a1)) = some r := h
  clear h
  by_cases c3 : a1 < (l0.length : Int)
  · rw [if_pos c3] at H
    have c3b0 : decide (a1 < (l0.length : Int)) = true := decide_eq_true c3
    clear c3
    by_cases c4 : 0 ≤ a1
    · rw [if_pos c4] at H
      have c4b0 : decide (0 ≤ a1) = true := decide_eq_true c4
      clear c4
      by_cases c5 : (rd l0 a1) = 43
      · rw [if_pos c5] at H
        have c5b0 : ((rd l0 a1) == 43) = true := beq_iff_eq.mpr c5
        have c5b1 : ((rd l0 a1) != 43) = false := bne_eq_false_iff_eq.mpr c5
        clear c5
        as_aux_lemma =>
          obtain rfl := Option.some.inj H
          have p102 : 0 ≤ (a1 : Int) := of_decide_eq_true (by first | (with_reducible assumption) | assumption)
          have q102 : a1 < (l0.length : Int) := of_decide_eq_true (by first | (with_reducible assumption) | assumption)
          obtain ⟨ad102, e102, hx102_0⟩ := Kd.at_int HR0.out a1 p102 q102
          cases e102
          replace p102 := eq_true p102
          replace q102 := eq_true q102
          go_enter Try.func50, Try.ntmps50
          go_wp2
          go_ret
          exact ⟨by first | rfl | (simp; done) | (simp [*]; done), by repeat (first | exact Drawn0.refl _ | apply Drawn0.step)⟩
      · rw [if_neg c5] at H
        have c5b0 : ((rd l0 a1) == 43) = false := beq_eq_false_iff_ne.mpr c5
        have c5b1 : ((rd l0 a1) != 43) = true := bne_iff_ne.mpr c5
        by_cases c6 : (rd l0 a1) = 45
        · rw [if_pos c6] at H
          have c6b0 : ((rd l0 a1) == 45) = true := beq_iff_eq.mpr c6
          have c6b1 : ((rd l0 a1) != 45) = false := bne_eq_false_iff_eq.mpr c6
          clear c6
          as_aux_lemma =>
            obtain rfl := Option.some.inj H
            have p102 : 0 ≤ (a1 : Int) := of_decide_eq_true (by first | (with_reducible assumption) | assumption)
            have q102 : a1 < (l0.length : Int) := of_decide_eq_true (by first | (with_reducible assumption) | assumption)
            obtain ⟨ad102, e102, hx102_0⟩ := Kd.at_int HR0.out a1 p102 q102
            cases e102
            replace p102 := eq_true p102
            replace q102 := eq_true q102
            have p103 : 0 ≤ (a1 : Int) := of_decide_eq_true (by first | (with_reducible assumption) | assumption)
            have q103 : a1 < (l0.length : Int) := of_decide_eq_true (by first | (with_reducible assumption) | assumption)
            obtain ⟨ad103, e103, hx103_0⟩ := Kd.at_int HR0.out a1 p103 q103
            obtain rfl : ad102 = ad103 := (by injection e103)
            replace p103 := eq_true p103
            replace q103 := eq_true q103
            go_enter Try.func50, Try.ntmps50
            go_wp2
            go_ret
            exact ⟨by first | rfl | (simp; done) | (simp [*]; done), by repeat (first | exact Drawn0.refl _ | apply Drawn0.step)⟩
        · rw [if_neg c6] at H
          have c6b0 : ((rd l0 a1) == 45) = false := beq_eq_false_iff_ne.mpr c6
          have c6b1 : ((rd l0 a1) != 45) = true := bne_iff_ne.mpr c6
          as_aux_lemma =>
            obtain rfl := Option.some.inj H
            have p102 : 0 ≤ (a1 : Int) := of_decide_eq_true (by first | (with_reducible assumption) | assumption)
            have q102 : a1 < (l0.length : Int) := of_decide_eq_true (by first | (with_reducible assumption) | assumption)
            obtain ⟨ad102, e102, hx102_0⟩ := Kd.at_int HR0.out a1 p102 q102
            cases e102
            replace p102 := eq_true p102
            replace q102 := eq_true q102
            have p103 : 0 ≤ (a1 : Int) := of_decide_eq_true (by first | (with_reducible assumption) | assumption)
            have q103 : a1 < (l0.length : Int) := of_decide_eq_true (by first | (with_reducible assumption) | assumption)
            obtain ⟨ad103, e103, hx103_0⟩ := Kd.at_int HR0.out a1 p103 q103
            obtain rfl : ad102 = ad103 := (by injection e103)
            replace p103 := eq_true p103
            replace q103 := eq_true q103
            go_enter Try.func50, Try.ntmps50
            go_wp2
            go_ret
            exact ⟨by first | rfl | (simp; done) | (simp [*]; done), by repeat (first | exact Drawn0.refl _ | apply Drawn0.step)⟩
    · rw [if_neg c4] at H
      exact absurd H (by simp)
  · rw [if_neg c3] at H
    have c3b0 : decide (a1 < (l0.length : Int)) = false := decide_eq_false c3
    clear c3
    as_aux_lemma =>
      obtain rfl := Option.some.inj H
      go_enter Try.func50, Try.ntmps50
      go_wp2
      go_ret
      exact ⟨by first | rfl | (simp; done) | (simp [*]; done), by repeat (first | exact Drawn0.refl _ | apply Drawn0.step)⟩

/-! ### spec_digitAt: function 51 -/
def spec_digitAt.f (l0 : List Int) (a1 : Int) : Option (Bool) := if a1 < (l0.length : Int) then (if 0 ≤ a1 then (if (rd l0 a1) ≥ 48 then (some (decide ((rd l0 a1) ≤ 57))) else (some false)) else (none)) else (some false)
set_option maxHeartbeats 8000000 in
set_option maxRecDepth 100000 in
theorem spec_digitAt.calls (A0 : Option Addr) (c0 : Nat) (l0 : List Int) (a1 : Int) (r : Bool) (w : World) (hr0 : Kd.C (Kd.int .u8) w A0 l0.length l0) (hc0 : l0.length ≤ c0) (h : spec_digitAt.f l0 a1 = some r) :
    Calls Try.prog 51 #[.slice A0 l0.length c0, .int .i64 a1] w fun e w' => e = .returned (.bool r) ∧ Drawn0 w w' := by
  have HR0 := Aside0.mk hr0
  have HC0 := Aside0.mk hc0
  clear hr0 hc0
  have H : (if a1 < (l0.length : Int) then (if 0 ≤ a1 then (if (rd l0 a1) ≥ 48 then (some (decide ((rd l0 a1) ≤ 57))) else (some false)) else (none)) else (some false)) = some r := h
  clear h
  by_cases c3 : a1 < (l0.length : Int)
  · rw [if_pos c3] at H
    have c3b0 : decide (a1 < (l0.length : Int)) = true := decide_eq_true c3
    clear c3
    by_cases c4 : 0 ≤ a1
    · rw [if_pos c4] at H
      have c4b0 : decide (0 ≤ a1) = true := decide_eq_true c4
      clear c4
      by_cases c5 : (rd l0 a1) ≥ 48
      · rw [if_pos c5] at H
        have c5b0 : decide (48 ≤ (rd l0 a1)) = true := decide_eq_true c5
        clear c5
        as_aux_lemma =>
          obtain rfl := Option.some.inj H
          have p104 : 0 ≤ (a1 : Int) := of_decide_eq_true (by first | (with_reducible assumption) | assumption)
          have q104 : a1 < (l0.length : Int) := of_decide_eq_true (by first | (with_reducible assumption) | assumption)
          obtain ⟨ad104, e104, hx104_0⟩ := Kd.at_int HR0.out a1 p104 q104
          cases e104
          replace p104 := eq_true p104
          replace q104 := eq_true q104
          have p105 : 0 ≤ (a1 : Int) := of_decide_eq_true (by first | (with_reducible assumption) | assumption)
          have q105 : a1 < (l0.length : Int) := of_decide_eq_true (by first | (with_reducible assumption) | assumption)
          obtain ⟨ad105, e105, hx105_0⟩ := Kd.at_int HR0.out a1 p105 q105
          obtain rfl : ad104 = ad105 := (by injection e105)
          replace p105 := eq_true p105
          replace q105 := eq_true q105
          go_enter Try.func51, Try.ntmps51
          go_wp2
          go_ret
          exact ⟨by first | rfl | (simp; done) | (simp [*]; done), by repeat (first | exact Drawn0.refl _ | apply Drawn0.step)⟩
      · rw [if_neg c5] at H
        have c5b0 : decide (48 ≤ (rd l0 a1)) = false := decide_eq_false c5
        clear c5
        as_aux_lemma =>
          obtain rfl := Option.some.inj H
          have p104 : 0 ≤ (a1 : Int) := of_decide_eq_true (by first | (with_reducible assumption) | assumption)
          have q104 : a1 < (l0.length : Int) := of_decide_eq_true (by first | (with_reducible assumption) | assumption)
          obtain ⟨ad104, e104, hx104_0⟩ := Kd.at_int HR0.out a1 p104 q104
          cases e104
          replace p104 := eq_true p104
          replace q104 := eq_true q104
          go_enter Try.func51, Try.ntmps51
          go_wp2
          go_ret
          exact ⟨by first | rfl | (simp; done) | (simp [*]; done), by repeat (first | exact Drawn0.refl _ | apply Drawn0.step)⟩
    · rw [if_neg c4] at H
      exact absurd H (by simp)
  · rw [if_neg c3] at H
    have c3b0 : decide (a1 < (l0.length : Int)) = false := decide_eq_false c3
    clear c3
    as_aux_lemma =>
      obtain rfl := Option.some.inj H
      go_enter Try.func51, Try.ntmps51
      go_wp2
      go_ret
      exact ⟨by first | rfl | (simp; done) | (simp [*]; done), by repeat (first | exact Drawn0.refl _ | apply Drawn0.step)⟩

/-! ### spec_digitsFrom: function 52 -/
def spec_digitsFrom.l0 : Nat → List Int → Int → Option (Int)
  | 0, _, _ => none
  | k + 1, x0, x1 => (spec_digitAt.f x0 x1).bind fun t106 => (if t106 = true then (spec_digitsFrom.l0 k x0 (wrap64 (x1 + 1))) else (some x1))
def spec_digitsFrom.f (k : Nat) (l0 : List Int) (a1 : Int) : Option (Int) := spec_digitsFrom.l0 k l0 a1
theorem spec_digitsFrom.mono_l : ∀ k, (∀ y0 y1, LeO (spec_digitsFrom.l0 k y0 y1) (spec_digitsFrom.l0 (k + 1) y0 y1))
  | 0 => fun _ _ r h => by simp [spec_digitsFrom.l0] at h
  | k + 1 => by
    have ih0 := spec_digitsFrom.mono_l k
    · intro y0 y1
      unfold spec_digitsFrom.l0
      repeat' first
      | (with_reducible exact ih0 _ _)
      | (with_reducible exact LeO.refl _)
      | (with_reducible exact LeO.none _)
      | (with_reducible refine LeO.ite ?_ ?_)
      | (with_reducible refine LeO.bind ?_ (fun _ => ?_))
      | exact ih0 _ _
      | exact LeO.none _
      | refine LeO.ite ?_ ?_
      | refine LeO.bind ?_ (fun _ => ?_)
theorem spec_digitsFrom.mono : ∀ a0 a1 k, LeO (spec_digitsFrom.f k a0 a1) (spec_digitsFrom.f (k + 1) a0 a1) := by
  intro a0 a1 k
  have ih0 := spec_digitsFrom.mono_l k
  unfold spec_digitsFrom.f
  repeat' first
      | (with_reducible exact ih0 _ _)
      | (with_reducible exact LeO.refl _)
      | (with_reducible exact LeO.none _)
      | (with_reducible refine LeO.ite ?_ ?_)
      | (with_reducible refine LeO.bind ?_ (fun _ => ?_))
      | exact ih0 _ _
      | exact LeO.none _
      | refine LeO.ite ?_ ?_
      | refine LeO.bind ?_ (fun _ => ?_)
set_option maxHeartbeats 8000000 in
set_option maxRecDepth 100000 in
theorem spec_digitsFrom.calls (k : Nat) (A0 : Option Addr) (c0 : Nat) (l0 : List Int) (a1 : Int) (r : Int) (w : World) (hr0 : Kd.C (Kd.int .u8) w A0 l0.length l0) (hc0 : l0.length ≤ c0) (h : spec_digitsFrom.f k l0 a1 = some r) :
    Calls Try.prog 52 #[.slice A0 l0.length c0, .int .i64 a1] w fun e w' => e = .returned (.int .i64 r) ∧ Drawn0 w w' := by
  have HR0 := Aside0.mk hr0
  have HC0 := Aside0.mk hc0
  clear hr0 hc0
  have H : (spec_digitsFrom.l0 k l0 a1) = some r := h
  clear h
  have H' := Aside0.mk H
  clear H
  go_enter Try.func52, Try.ntmps52
  go_wp2
  go_loopg [1] k (fun kq v1 w' => ∃ (x1_1 : Int), v1 = .int .i64 x1_1 ∧ Aside0 (spec_digitsFrom.l0 kq l0 x1_1 = some r) ∧ Aside0 (kq ≤ k) ∧ Drawn0 w w')
  case atStart => exact ⟨(a1), (by first | rfl | (simp; done) | (simp [*]; done)), H', ⟨Nat.le_refl _⟩, by repeat (first | exact Drawn0.refl _ | apply Drawn0.step)⟩
  case round =>
    clear H'
    try clear p2
    obtain ⟨x1_1, rfl, HA, HK1, ⟨m1, rfl⟩⟩ := hrel
    cases gk with
    | zero => exact absurd HA.out (by simp [spec_digitsFrom.l0])
    | succ k1 =>
      have H := HA.out
      clear HA
      simp only [spec_digitsFrom.l0] at H
      replace H := Option.bind_eq_some_iff.mp H
      obtain ⟨t106, A30, H⟩ := H
      replace H : (if t106 = true then (spec_digitsFrom.l0 k1 l0 (wrap64 (x1_1 + 1))) else (some x1_1)) = some r := H
      have A3 := Aside0.mk A30
      clear A30
      by_cases c4 : t106 = true
      · subst c4
        have H1 : (spec_digitsFrom.l0 k1 l0 (wrap64 (x1_1 + 1))) = some r := by rw [if_pos rfl] at H; exact H
        clear H
        have H := H1
        clear H1
        as_aux_lemma =>
          have H' := Aside0.mk H
          clear H
          go_wp2_with (first | ((with_reducible refine gate_callee (f := 51) rfl ?_); refine goesL_ (some 7) rfl rfl Try.func51 (by kernel_rfl) rfl #[.slice A0 l0.length c0, .int .i64 x1_1] rfl (by (try simp only [List.map_toArray, List.map_cons, List.map_nil]); first | done | rfl | (simp only [List.length_drop, List.length_take]; rfl)) ?_; (with_reducible refine (spec_digitAt.calls _ _ l0 x1_1 true _ ?side1 ?side2 A3.out).mono ?_); (case side1 => repeat (first | exact HR0.out | (with_reducible refine Kd.C_alloc ?_ _) | (with_reducible refine Kd.C_drewN ?_ _) | (with_reducible refine Kd.C_drew ?_))); (case side2 => exact HC0.out); rintro e w' ⟨rfl, ⟨nd, rfl⟩⟩; refine ⟨_, rfl, ?_⟩))
          go_roundg k1
          case measure => have := HK1.out; omega
          case rel => exact ⟨(wrap64 (x1_1 + 1)), (by first | rfl | (simp; done) | (simp [*]; done)), H', ⟨by have := HK1.out; omega⟩, by repeat (first | exact Drawn0.refl _ | apply Drawn0.step)⟩
      · replace c4 := Bool.eq_false_iff.mpr c4
        subst c4
        have H1 : (some x1_1) = some r := by rw [if_neg (show ¬ (false = true) by decide)] at H; exact H
        clear H
        have H := H1
        clear H1
        as_aux_lemma =>
          obtain rfl := Option.some.inj H
          go_wp2_with (first | ((with_reducible refine gate_callee (f := 51) rfl ?_); refine goesL_ (some 7) rfl rfl Try.func51 (by kernel_rfl) rfl #[.slice A0 l0.length c0, .int .i64 x1_1] rfl (by (try simp only [List.map_toArray, List.map_cons, List.map_nil]); first | done | rfl | (simp only [List.length_drop, List.length_take]; rfl)) ?_; (with_reducible refine (spec_digitAt.calls _ _ l0 x1_1 false _ ?side1 ?side2 A3.out).mono ?_); (case side1 => repeat (first | exact HR0.out | (with_reducible refine Kd.C_alloc ?_ _) | (with_reducible refine Kd.C_drewN ?_ _) | (with_reducible refine Kd.C_drew ?_))); (case side2 => exact HC0.out); rintro e w' ⟨rfl, ⟨nd, rfl⟩⟩; refine ⟨_, rfl, ?_⟩))
          go_ret
          exact ⟨by first | rfl | (simp; done) | (simp [*]; done), by repeat (first | exact Drawn0.refl _ | apply Drawn0.step)⟩

/-! ### spec_DecimalLength: function 49 -/
def spec_DecimalLength.j0 : Nat → List Int → Int → Int → Bool → Option (Int)
  | 0, _, _, _, _ => none
  | k + 1, x0, x3, x4, x26 => if x26 = true then ((spec_digitsFrom.f k x0 (wrap64 (x4 + 1))).bind fun t111 => (some t111)) else (if x4 = x3 then (some 0) else (some x4))
def spec_DecimalLength.f (k : Nat) (l0 : List Int) : Option (Int) := (spec_signFrom.f l0 0).bind fun t107 => ((spec_digitsFrom.f k l0 t107).bind fun t108 => (if t108 < (l0.length : Int) then (if 0 ≤ t108 then (if (rd l0 t108) = 46 then ((spec_digitAt.f l0 (wrap64 (t108 + 1))).bind fun t110 => (spec_DecimalLength.j0 k l0 t107 t108 t110)) else (spec_DecimalLength.j0 k l0 t107 t108 false)) else (none)) else (spec_DecimalLength.j0 k l0 t107 t108 false)))
theorem spec_DecimalLength.mono_l : ∀ k, (∀ y0 y1 y2 y3, LeO (spec_DecimalLength.j0 k y0 y1 y2 y3) (spec_DecimalLength.j0 (k + 1) y0 y1 y2 y3))
  | 0 => fun _ _ _ _ r h => by simp [spec_DecimalLength.j0] at h
  | k + 1 => by
    have ih0 := spec_DecimalLength.mono_l k
    · intro y0 y1 y2 y3
      unfold spec_DecimalLength.j0
      repeat' first
      | (with_reducible exact ih0 _ _ _ _)
      | (with_reducible exact spec_digitsFrom.mono _ _ _)
      | (with_reducible exact LeO.refl _)
      | (with_reducible exact LeO.none _)
      | (with_reducible refine LeO.ite ?_ ?_)
      | (with_reducible refine LeO.bind ?_ (fun _ => ?_))
      | exact ih0 _ _ _ _
      | exact spec_digitsFrom.mono _ _ _
      | exact LeO.none _
      | refine LeO.ite ?_ ?_
      | refine LeO.bind ?_ (fun _ => ?_)
theorem spec_DecimalLength.mono : ∀ a0 k, LeO (spec_DecimalLength.f k a0) (spec_DecimalLength.f (k + 1) a0) := by
  intro a0 k
  have ih0 := spec_DecimalLength.mono_l k
  unfold spec_DecimalLength.f
  repeat' first
      | (with_reducible exact ih0 _ _ _ _)
      | (with_reducible exact spec_digitsFrom.mono _ _ _)
      | (with_reducible exact LeO.refl _)
      | (with_reducible exact LeO.none _)
      | (with_reducible refine LeO.ite ?_ ?_)
      | (with_reducible refine LeO.bind ?_ (fun _ => ?_))
      | exact ih0 _ _ _ _
      | exact spec_digitsFrom.mono _ _ _
      | exact LeO.none _
      | refine LeO.ite ?_ ?_
      | refine LeO.bind ?_ (fun _ => ?_)
set_option maxHeartbeats 8000000 in
set_option maxRecDepth 100000 in
theorem spec_DecimalLength.calls (k : Nat) (A0 : Option Addr) (c0 : Nat) (l0 : List Int) (r : Int) (w : World) (hr0 : Kd.C (Kd.int .u8) w A0 l0.length l0) (hc0 : l0.length ≤ c0) (h : spec_DecimalLength.f k l0 = some r) :
    Calls Try.prog 49 #[.slice A0 l0.length c0] w fun e w' => e = .returned (.int .i64 r) ∧ Drawn0 w w' := by
  have HR0 := Aside0.mk hr0
  have HC0 := Aside0.mk hc0
  clear hr0 hc0
  have H : ((spec_signFrom.f l0 0).bind fun t107 => ((spec_digitsFrom.f k l0 t107).bind fun t108 => (if t108 < (l0.length : Int) then (if 0 ≤ t108 then (if (rd l0 t108) = 46 then ((spec_digitAt.f l0 (wrap64 (t108 + 1))).bind fun t110 => (spec_DecimalLength.j0 k l0 t107 t108 t110)) else (spec_DecimalLength.j0 k l0 t107 t108 false)) else (none)) else (spec_DecimalLength.j0 k l0 t107 t108 false)))) = some r := h
  clear h
  replace H := Option.bind_eq_some_iff.mp H
  obtain ⟨t107, A20, H⟩ := H
  replace H : ((spec_digitsFrom.f k l0 t107).bind fun t108 => (if t108 < (l0.length : Int) then (if 0 ≤ t108 then (if (rd l0 t108) = 46 then ((spec_digitAt.f l0 (wrap64 (t108 + 1))).bind fun t110 => (spec_DecimalLength.j0 k l0 t107 t108 t110)) else (spec_DecimalLength.j0 k l0 t107 t108 false)) else (none)) else (spec_DecimalLength.j0 k l0 t107 t108 false))) = some r := H
  have A2 := Aside0.mk A20
  clear A20
  replace H := Option.bind_eq_some_iff.mp H
  obtain ⟨t108, A30, H⟩ := H
  replace H : (if t108 < (l0.length : Int) then (if 0 ≤ t108 then (if (rd l0 t108) = 46 then ((spec_digitAt.f l0 (wrap64 (t108 + 1))).bind fun t110 => (spec_DecimalLength.j0 k l0 t107 t108 t110)) else (spec_DecimalLength.j0 k l0 t107 t108 false)) else (none)) else (spec_DecimalLength.j0 k l0 t107 t108 false)) = some r := H
  have A3 := Aside0.mk A30
  clear A30
  have HC4 := Aside0.mk H
  clear H
  go_enter Try.func49, Try.ntmps49
  go_upto_region 3 with (first | ((with_reducible refine gate_callee (f := 50) rfl ?_); refine goesL_ (some 6) rfl rfl Try.func50 (by kernel_rfl) rfl #[.slice A0 l0.length c0, .int .i64 0] rfl (by (try simp only [List.map_toArray, List.map_cons, List.map_nil]); first | done | rfl | (simp only [List.length_drop, List.length_take]; rfl)) ?_; (with_reducible refine (spec_signFrom.calls _ _ l0 0 t107 _ ?side1 ?side2 A2.out).mono ?_); (case side1 => repeat (first | exact HR0.out | (with_reducible refine Kd.C_alloc ?_ _) | (with_reducible refine Kd.C_drewN ?_ _) | (with_reducible refine Kd.C_drew ?_))); (case side2 => exact HC0.out); rintro e w' ⟨rfl, ⟨nd, rfl⟩⟩; refine ⟨_, rfl, ?_⟩) | ((with_reducible refine gate_callee (f := 52) rfl ?_); refine goesL_ (some 9) rfl rfl Try.func52 (by kernel_rfl) rfl #[.slice A0 l0.length c0, .int .i64 t107] rfl (by (try simp only [List.map_toArray, List.map_cons, List.map_nil]); first | done | rfl | (simp only [List.length_drop, List.length_take]; rfl)) ?_; (with_reducible refine (spec_digitsFrom.calls k _ _ l0 t107 t108 _ ?side1 ?side2 A3.out).mono ?_); (case side1 => repeat (first | exact HR0.out | (with_reducible refine Kd.C_alloc ?_ _) | (with_reducible refine Kd.C_drewN ?_ _) | (with_reducible refine Kd.C_drew ?_))); (case side2 => exact HC0.out); rintro e w' ⟨rfl, ⟨nd, rfl⟩⟩; refine ⟨_, rfl, ?_⟩))
  (try simp only [Act.put, List.setIfInBounds_toArray, List.set_cons_zero, List.set_cons_succ])
  go_cut [26] (fun v26 wc => ∃ (kq : Nat) (x26_3 : Bool), v26 = .bool x26_3 ∧ Aside0 (spec_DecimalLength.j0 kq l0 t107 t108 x26_3 = some r) ∧ Aside0 (kq ≤ k) ∧ Drawn0 w wc)
  case first =>
    have H := HC4.out
    clear HC4
    by_cases c5 : t108 < (l0.length : Int)
    · rw [if_pos c5] at H
      have c5b0 : decide (t108 < (l0.length : Int)) = true := decide_eq_true c5
      clear c5
      (first | rw [c5b0] | (simp only [i64_w, i32_w]; rw [c5b0]) | skip)
      by_cases c6 : 0 ≤ t108
      · rw [if_pos c6] at H
        have c6b0 : decide (0 ≤ t108) = true := decide_eq_true c6
        clear c6
        by_cases c7 : (rd l0 t108) = 46
        · rw [if_pos c7] at H
          have c7b0 : ((rd l0 t108) == 46) = true := beq_iff_eq.mpr c7
          have c7b1 : ((rd l0 t108) != 46) = false := bne_eq_false_iff_eq.mpr c7
          clear c7
          replace H := Option.bind_eq_some_iff.mp H
          obtain ⟨t110, A80, H⟩ := H
          replace H : (spec_DecimalLength.j0 k l0 t107 t108 t110) = some r := H
          have A8 := Aside0.mk A80
          clear A80
          as_aux_lemma =>
            have H' := Aside0.mk H
            clear H
            have p109 : 0 ≤ (t108 : Int) := of_decide_eq_true (by first | (with_reducible assumption) | assumption)
            have q109 : t108 < (l0.length : Int) := of_decide_eq_true (by first | (with_reducible assumption) | assumption)
            obtain ⟨ad109, e109, hx109_0⟩ := Kd.at_int HR0.out t108 p109 q109
            cases e109
            replace p109 := eq_true p109
            replace q109 := eq_true q109
            go_wp2_with (first | (go_at_call 51; (with_reducible refine (spec_digitAt.calls _ _ l0 (wrap64 (t108 + 1)) t110 _ ?side1 ?side2 A8.out).mono ?_); (case side1 => repeat (first | exact HR0.out | (with_reducible refine Kd.C_alloc ?_ _) | (with_reducible refine Kd.C_drewN ?_ _) | (with_reducible refine Kd.C_drew ?_))); (case side2 => exact HC0.out); rintro e w' ⟨rfl, ⟨nd, rfl⟩⟩))
            go_meet
            case rel => exact ⟨_, (t110), (by first | rfl | (simp; done) | (simp [*]; done)), H', ⟨by first | omega | exact Nat.le_refl _⟩, by repeat (first | exact Drawn0.refl _ | apply Drawn0.step)⟩
        · rw [if_neg c7] at H
          have c7b0 : ((rd l0 t108) == 46) = false := beq_eq_false_iff_ne.mpr c7
          have c7b1 : ((rd l0 t108) != 46) = true := bne_iff_ne.mpr c7
          as_aux_lemma =>
            have H' := Aside0.mk H
            clear H
            have p109 : 0 ≤ (t108 : Int) := of_decide_eq_true (by first | (with_reducible assumption) | assumption)
            have q109 : t108 < (l0.length : Int) := of_decide_eq_true (by first | (with_reducible assumption) | assumption)
            obtain ⟨ad109, e109, hx109_0⟩ := Kd.at_int HR0.out t108 p109 q109
            cases e109
            replace p109 := eq_true p109
            replace q109 := eq_true q109
            go_wp2
            go_meet
            case rel => exact ⟨_, (false), (by first | rfl | (simp; done) | (simp [*]; done)), H', ⟨by first | omega | exact Nat.le_refl _⟩, by repeat (first | exact Drawn0.refl _ | apply Drawn0.step)⟩
      · rw [if_neg c6] at H
        exact absurd H (by simp)
    · rw [if_neg c5] at H
      have c5b0 : decide (t108 < (l0.length : Int)) = false := decide_eq_false c5
      clear c5
      (first | rw [c5b0] | (simp only [i64_w, i32_w]; rw [c5b0]) | skip)
      as_aux_lemma =>
        have H' := Aside0.mk H
        clear H
        go_wp2
        go_meet
        case rel => exact ⟨_, (false), (by first | rfl | (simp; done) | (simp [*]; done)), H', ⟨by first | omega | exact Nat.le_refl _⟩, by repeat (first | exact Drawn0.refl _ | apply Drawn0.step)⟩
  case rest =>
    clear HC4
    try clear p1
    try clear q1
    try clear hx1
    try clear p2
    try clear c4
    try clear c5
    try clear c5b0
    try clear c6
    try clear c6b0
    try clear p6
    try clear c7
    try clear c7b0
    try clear c7b1
    try clear hx109_0
    try clear p109
    try clear q109
    obtain ⟨kq, x26_3, rfl, HA, HJ3, ⟨mc3, rfl⟩⟩ := hcut
    cases kq with
    | zero => exact absurd HA.out (by simp [spec_DecimalLength.j0])
    | succ kj3 =>
      have H := HA.out
      clear HA
      simp only [spec_DecimalLength.j0] at H
      by_cases c9 : x26_3 = true
      · subst c9
        have H1 : ((spec_digitsFrom.f kj3 l0 (wrap64 (t108 + 1))).bind fun t111 => (some t111)) = some r := by rw [if_pos rfl] at H; exact H
        clear H
        have H := H1
        clear H1
        replace H := Option.bind_eq_some_iff.mp H
        obtain ⟨t111, A100, H⟩ := H
        replace H : (some t111) = some r := H
        have A10 := Aside0.mk A100
        clear A100
        as_aux_lemma =>
          obtain rfl := Option.some.inj H
          go_wp2_with (first | ((with_reducible refine gate_callee (f := 52) rfl ?_); refine goesL_ (some 30) rfl rfl Try.func52 (by kernel_rfl) rfl #[.slice A0 l0.length c0, .int .i64 (wrap64 (t108 + 1))] rfl (by (try simp only [List.map_toArray, List.map_cons, List.map_nil]); first | done | rfl | (simp only [List.length_drop, List.length_take]; rfl)) ?_; (with_reducible refine (spec_digitsFrom.calls kj3 _ _ l0 (wrap64 (t108 + 1)) t111 _ ?side1 ?side2 A10.out).mono ?_); (case side1 => repeat (first | exact HR0.out | (with_reducible refine Kd.C_alloc ?_ _) | (with_reducible refine Kd.C_drewN ?_ _) | (with_reducible refine Kd.C_drew ?_))); (case side2 => exact HC0.out); rintro e w' ⟨rfl, ⟨nd, rfl⟩⟩; refine ⟨_, rfl, ?_⟩))
          go_ret
          exact ⟨by first | rfl | (simp; done) | (simp [*]; done), by repeat (first | exact Drawn0.refl _ | apply Drawn0.step)⟩
      · replace c9 := Bool.eq_false_iff.mpr c9
        subst c9
        have H1 : (if t108 = t107 then (some 0) else (some t108)) = some r := by rw [if_neg (show ¬ (false = true) by decide)] at H; exact H
        clear H
        have H := H1
        clear H1
        by_cases c11 : t108 = t107
        · rw [if_pos c11] at H
          have c11b0 : (t108 == t107) = true := beq_iff_eq.mpr c11
          have c11b1 : (t108 != t107) = false := bne_eq_false_iff_eq.mpr c11
          clear c11
          as_aux_lemma =>
            obtain rfl := Option.some.inj H
            go_wp2
            go_ret
            exact ⟨by first | rfl | (simp; done) | (simp [*]; done), by repeat (first | exact Drawn0.refl _ | apply Drawn0.step)⟩
        · rw [if_neg c11] at H
          have c11b0 : (t108 == t107) = false := beq_eq_false_iff_ne.mpr c11
          have c11b1 : (t108 != t107) = true := bne_iff_ne.mpr c11
          as_aux_lemma =>
            obtain rfl := Option.some.inj H
            go_wp2
            go_ret
            exact ⟨by first | rfl | (simp; done) | (simp [*]; done), by repeat (first | exact Drawn0.refl _ | apply Drawn0.step)⟩

/-! ### spec_NumberLength: function 21 -/
def spec_NumberLength.j0 : Nat → List Int → Int → Bool → Option (Int)
  | 0, _, _, _ => none
  | k + 1, x0, x3, x28 => if x28 = true then (some x3) else ((spec_signFrom.f x0 (wrap64 (x3 + 1))).bind fun t115 => ((spec_digitAt.f x0 t115).bind fun t116 => (if t116 = true then ((spec_digitsFrom.f k x0 t115).bind fun t117 => (some t117)) else (some x3))))
def spec_NumberLength.f (k : Nat) (l0 : List Int) : Option (Int) := (spec_DecimalLength.f k l0).bind fun t112 => (if t112 = 0 then (spec_NumberLength.j0 k l0 t112 true) else (if t112 = (l0.length : Int) then (spec_NumberLength.j0 k l0 t112 true) else (if 0 ≤ t112 then (if t112 < (l0.length : Int) then (if (rd l0 t112) = 101 then (spec_NumberLength.j0 k l0 t112 false) else (spec_NumberLength.j0 k l0 t112 ((rd l0 t112) != 69))) else (none)) else (none))))
theorem spec_NumberLength.mono_l : ∀ k, (∀ y0 y1 y2, LeO (spec_NumberLength.j0 k y0 y1 y2) (spec_NumberLength.j0 (k + 1) y0 y1 y2))
  | 0 => fun _ _ _ r h => by simp [spec_NumberLength.j0] at h
  | k + 1 => by
    have ih0 := spec_NumberLength.mono_l k
    · intro y0 y1 y2
      unfold spec_NumberLength.j0
      repeat' first
      | (with_reducible exact ih0 _ _ _)
      | (with_reducible exact spec_DecimalLength.mono _ _)
      | (with_reducible exact spec_digitsFrom.mono _ _ _)
      | (with_reducible exact LeO.refl _)
      | (with_reducible exact LeO.none _)
      | (with_reducible refine LeO.ite ?_ ?_)
      | (with_reducible refine LeO.bind ?_ (fun _ => ?_))
      | exact ih0 _ _ _
      | exact spec_DecimalLength.mono _ _
      | exact spec_digitsFrom.mono _ _ _
      | exact LeO.none _
      | refine LeO.ite ?_ ?_
      | refine LeO.bind ?_ (fun _ => ?_)
theorem spec_NumberLength.mono : ∀ a0 k, LeO (spec_NumberLength.f k a0) (spec_NumberLength.f (k + 1) a0) := by
  intro a0 k
  have ih0 := spec_NumberLength.mono_l k
  unfold spec_NumberLength.f
  repeat' first
      | (with_reducible exact ih0 _ _ _)
      | (with_reducible exact spec_DecimalLength.mono _ _)
      | (with_reducible exact spec_digitsFrom.mono _ _ _)
      | (with_reducible exact LeO.refl _)
      | (with_reducible exact LeO.none _)
      | (with_reducible refine LeO.ite ?_ ?_)
      | (with_reducible refine LeO.bind ?_ (fun _ => ?_))
      | exact ih0 _ _ _
      | exact spec_DecimalLength.mono _ _
      | exact spec_digitsFrom.mono _ _ _
      | exact LeO.none _
      | refine LeO.ite ?_ ?_
      | refine LeO.bind ?_ (fun _ => ?_)
set_option maxHeartbeats 8000000 in
set_option maxRecDepth 100000 in
theorem spec_NumberLength.calls (k : Nat) (A0 : Option Addr) (c0 : Nat) (l0 : List Int) (r : Int) (w : World) (hr0 : Kd.C (Kd.int .u8) w A0 l0.length l0) (hc0 : l0.length ≤ c0) (h : spec_NumberLength.f k l0 = some r) :
    Calls Try.prog 21 #[.slice A0 l0.length c0] w fun e w' => e = .returned (.int .i64 r) ∧ Drawn0 w w' := by
  have HR0 := Aside0.mk hr0
  have HC0 := Aside0.mk hc0
  clear hr0 hc0
  have H : ((spec_DecimalLength.f k l0).bind fun t112 => (if t112 = 0 then (spec_NumberLength.j0 k l0 t112 true) else (if t112 = (l0.length : Int) then (spec_NumberLength.j0 k l0 t112 true) else (if 0 ≤ t112 then (if t112 < (l0.length : Int) then (if (rd l0 t112) = 101 then (spec_NumberLength.j0 k l0 t112 false) else (spec_NumberLength.j0 k l0 t112 ((rd l0 t112) != 69))) else (none)) else (none))))) = some r := h
  clear h
  replace H := Option.bind_eq_some_iff.mp H
  obtain ⟨t112, A20, H⟩ := H
  replace H : (if t112 = 0 then (spec_NumberLength.j0 k l0 t112 true) else (if t112 = (l0.length : Int) then (spec_NumberLength.j0 k l0 t112 true) else (if 0 ≤ t112 then (if t112 < (l0.length : Int) then (if (rd l0 t112) = 101 then (spec_NumberLength.j0 k l0 t112 false) else (spec_NumberLength.j0 k l0 t112 ((rd l0 t112) != 69))) else (none)) else (none)))) = some r := H
  have A2 := Aside0.mk A20
  clear A20
  have HC3 := Aside0.mk H
  clear H
  go_enter Try.func21, Try.ntmps21
  go_upto_region 2 with (first | ((with_reducible refine gate_callee (f := 49) rfl ?_); refine goesL_ (some 6) rfl rfl Try.func49 (by kernel_rfl) rfl #[.slice A0 l0.length c0] rfl (by (try simp only [List.map_toArray, List.map_cons, List.map_nil]); first | done | rfl | (simp only [List.length_drop, List.length_take]; rfl)) ?_; (with_reducible refine (spec_DecimalLength.calls k _ _ l0 t112 _ ?side1 ?side2 A2.out).mono ?_); (case side1 => repeat (first | exact HR0.out | (with_reducible refine Kd.C_alloc ?_ _) | (with_reducible refine Kd.C_drewN ?_ _) | (with_reducible refine Kd.C_drew ?_))); (case side2 => exact HC0.out); rintro e w' ⟨rfl, ⟨nd, rfl⟩⟩; refine ⟨_, rfl, ?_⟩))
  (try simp only [Act.put, List.setIfInBounds_toArray, List.set_cons_zero, List.set_cons_succ])
  go_cut [28] (fun v28 wc => ∃ (kq : Nat) (x28_2 : Bool), v28 = .bool x28_2 ∧ Aside0 (spec_NumberLength.j0 kq l0 t112 x28_2 = some r) ∧ Aside0 (kq ≤ k) ∧ Drawn0 w wc)
  case first =>
    have H := HC3.out
    clear HC3
    by_cases c4 : t112 = 0
    · rw [if_pos c4] at H
      have c4b0 : (t112 == 0) = true := beq_iff_eq.mpr c4
      have c4b1 : (t112 != 0) = false := bne_eq_false_iff_eq.mpr c4
      clear c4
      (first | rw [c4b0] | (simp only [i64_w, i32_w]; rw [c4b0]) | skip)
      as_aux_lemma =>
        have H' := Aside0.mk H
        clear H
        go_wp2
        go_meet
        case rel => exact ⟨_, (true), (by first | rfl | (simp; done) | (simp [*]; done)), H', ⟨by first | omega | exact Nat.le_refl _⟩, by repeat (first | exact Drawn0.refl _ | apply Drawn0.step)⟩
    · rw [if_neg c4] at H
      have c4b0 : (t112 == 0) = false := beq_eq_false_iff_ne.mpr c4
      have c4b1 : (t112 != 0) = true := bne_iff_ne.mpr c4
      (first | rw [c4b0] | (simp only [i64_w, i32_w]; rw [c4b0]) | skip)
      by_cases c5 : t112 = (l0.length : Int)
      · rw [if_pos c5] at H
        have c5b0 : (t112 == (l0.length : Int)) = true := beq_iff_eq.mpr c5
        have c5b1 : (t112 != (l0.length : Int)) = false := bne_eq_false_iff_eq.mpr c5
        clear c5
        as_aux_lemma =>
          have H' := Aside0.mk H
          clear H
          go_wp2
          go_meet
          case rel => exact ⟨_, (true), (by first | rfl | (simp; done) | (simp [*]; done)), H', ⟨by first | omega | exact Nat.le_refl _⟩, by repeat (first | exact Drawn0.refl _ | apply Drawn0.step)⟩
      · rw [if_neg c5] at H
        have c5b0 : (t112 == (l0.length : Int)) = false := beq_eq_false_iff_ne.mpr c5
        have c5b1 : (t112 != (l0.length : Int)) = true := bne_iff_ne.mpr c5
        by_cases c6 : 0 ≤ t112
        · rw [if_pos c6] at H
          have c6b0 : decide (0 ≤ t112) = true := decide_eq_true c6
          clear c6
          by_cases c7 : t112 < (l0.length : Int)
          · rw [if_pos c7] at H
            have c7b0 : decide (t112 < (l0.length : Int)) = true := decide_eq_true c7
            clear c7
            by_cases c8 : (rd l0 t112) = 101
            · rw [if_pos c8] at H
              have c8b0 : ((rd l0 t112) == 101) = true := beq_iff_eq.mpr c8
              have c8b1 : ((rd l0 t112) != 101) = false := bne_eq_false_iff_eq.mpr c8
              clear c8
              as_aux_lemma =>
                have H' := Aside0.mk H
                clear H
                have p113 : 0 ≤ (t112 : Int) := of_decide_eq_true (by first | (with_reducible assumption) | assumption)
                have q113 : t112 < (l0.length : Int) := of_decide_eq_true (by first | (with_reducible assumption) | assumption)
                obtain ⟨ad113, e113, hx113_0⟩ := Kd.at_int HR0.out t112 p113 q113
                cases e113
                replace p113 := eq_true p113
                replace q113 := eq_true q113
                go_wp2
                go_meet
                case rel => exact ⟨_, (false), (by first | rfl | (simp; done) | (simp [*]; done)), H', ⟨by first | omega | exact Nat.le_refl _⟩, by repeat (first | exact Drawn0.refl _ | apply Drawn0.step)⟩
            · rw [if_neg c8] at H
              have c8b0 : ((rd l0 t112) == 101) = false := beq_eq_false_iff_ne.mpr c8
              have c8b1 : ((rd l0 t112) != 101) = true := bne_iff_ne.mpr c8
              as_aux_lemma =>
                have H' := Aside0.mk H
                clear H
                have p113 : 0 ≤ (t112 : Int) := of_decide_eq_true (by first | (with_reducible assumption) | assumption)
                have q113 : t112 < (l0.length : Int) := of_decide_eq_true (by first | (with_reducible assumption) | assumption)
                obtain ⟨ad113, e113, hx113_0⟩ := Kd.at_int HR0.out t112 p113 q113
                cases e113
                replace p113 := eq_true p113
                replace q113 := eq_true q113
                have p114 : 0 ≤ (t112 : Int) := of_decide_eq_true (by first | (with_reducible assumption) | assumption)
                have q114 : t112 < (l0.length : Int) := of_decide_eq_true (by first | (with_reducible assumption) | assumption)
                obtain ⟨ad114, e114, hx114_0⟩ := Kd.at_int HR0.out t112 p114 q114
                obtain rfl : ad113 = ad114 := (by injection e114)
                replace p114 := eq_true p114
                replace q114 := eq_true q114
                go_wp2
                go_meet
                case rel => exact ⟨_, (((rd l0 t112) != 69)), (by first | rfl | (simp; done) | (simp [*]; done)), H', ⟨by first | omega | exact Nat.le_refl _⟩, by repeat (first | exact Drawn0.refl _ | apply Drawn0.step)⟩
          · rw [if_neg c7] at H
            exact absurd H (by simp)
        · rw [if_neg c6] at H
          exact absurd H (by simp)
  case rest =>
    clear HC3
    try clear p1
    try clear q1
    try clear hx1
    try clear c2
    try clear p2
    try clear c4
    try clear c4b0
    try clear c4b1
    try clear c5
    try clear c5b0
    try clear c5b1
    try clear c6
    try clear c6b0
    try clear c7
    try clear c7b0
    try clear c8
    try clear c8b0
    try clear c8b1
    try clear hx113_0
    try clear hx114_0
    try clear p113
    try clear p114
    try clear q113
    try clear q114
    obtain ⟨kq, x28_2, rfl, HA, HJ2, ⟨mc2, rfl⟩⟩ := hcut
    cases kq with
    | zero => exact absurd HA.out (by simp [spec_NumberLength.j0])
    | succ kj2 =>
      have H := HA.out
      clear HA
      simp only [spec_NumberLength.j0] at H
      by_cases c9 : x28_2 = true
      · subst c9
        have H1 : (some t112) = some r := by rw [if_pos rfl] at H; exact H
        clear H
        have H := H1
        clear H1
        as_aux_lemma =>
          obtain rfl := Option.some.inj H
          go_wp2
          go_ret
          exact ⟨by first | rfl | (simp; done) | (simp [*]; done), by repeat (first | exact Drawn0.refl _ | apply Drawn0.step)⟩
      · replace c9 := Bool.eq_false_iff.mpr c9
        subst c9
        have H1 : ((spec_signFrom.f l0 (wrap64 (t112 + 1))).bind fun t115 => ((spec_digitAt.f l0 t115).bind fun t116 => (if t116 = true then ((spec_digitsFrom.f kj2 l0 t115).bind fun t117 => (some t117)) else (some t112)))) = some r := by rw [if_neg (show ¬ (false = true) by decide)] at H; exact H
        clear H
        have H := H1
        clear H1
        replace H := Option.bind_eq_some_iff.mp H
        obtain ⟨t115, A100, H⟩ := H
        replace H : ((spec_digitAt.f l0 t115).bind fun t116 => (if t116 = true then ((spec_digitsFrom.f kj2 l0 t115).bind fun t117 => (some t117)) else (some t112))) = some r := H
        have A10 := Aside0.mk A100
        clear A100
        replace H := Option.bind_eq_some_iff.mp H
        obtain ⟨t116, A110, H⟩ := H
        replace H : (if t116 = true then ((spec_digitsFrom.f kj2 l0 t115).bind fun t117 => (some t117)) else (some t112)) = some r := H
        have A11 := Aside0.mk A110
        clear A110
        by_cases c12 : t116 = true
        · subst c12
          have H1 : ((spec_digitsFrom.f kj2 l0 t115).bind fun t117 => (some t117)) = some r := by rw [if_pos rfl] at H; exact H
          clear H
          have H := H1
          clear H1
          replace H := Option.bind_eq_some_iff.mp H
          obtain ⟨t117, A130, H⟩ := H
          replace H : (some t117) = some r := H
          have A13 := Aside0.mk A130
          clear A130
          as_aux_lemma =>
            obtain rfl := Option.some.inj H
            go_wp2_with (first | ((with_reducible refine gate_callee (f := 50) rfl ?_); refine goesL_ (some 33) rfl rfl Try.func50 (by kernel_rfl) rfl #[.slice A0 l0.length c0, .int .i64 (wrap64 (t112 + 1))] rfl (by (try simp only [List.map_toArray, List.map_cons, List.map_nil]); first | done | rfl | (simp only [List.length_drop, List.length_take]; rfl)) ?_; (with_reducible refine (spec_signFrom.calls _ _ l0 (wrap64 (t112 + 1)) t115 _ ?side1 ?side2 A10.out).mono ?_); (case side1 => repeat (first | exact HR0.out | (with_reducible refine Kd.C_alloc ?_ _) | (with_reducible refine Kd.C_drewN ?_ _) | (with_reducible refine Kd.C_drew ?_))); (case side2 => exact HC0.out); rintro e w' ⟨rfl, ⟨nd, rfl⟩⟩; refine ⟨_, rfl, ?_⟩) | ((with_reducible refine gate_callee (f := 51) rfl ?_); refine goesL_ (some 36) rfl rfl Try.func51 (by kernel_rfl) rfl #[.slice A0 l0.length c0, .int .i64 t115] rfl (by (try simp only [List.map_toArray, List.map_cons, List.map_nil]); first | done | rfl | (simp only [List.length_drop, List.length_take]; rfl)) ?_; (with_reducible refine (spec_digitAt.calls _ _ l0 t115 true _ ?side1 ?side2 A11.out).mono ?_); (case side1 => repeat (first | exact HR0.out | (with_reducible refine Kd.C_alloc ?_ _) | (with_reducible refine Kd.C_drewN ?_ _) | (with_reducible refine Kd.C_drew ?_))); (case side2 => exact HC0.out); rintro e w' ⟨rfl, ⟨nd, rfl⟩⟩; refine ⟨_, rfl, ?_⟩) | ((with_reducible refine gate_callee (f := 52) rfl ?_); refine goesL_ (some 41) rfl rfl Try.func52 (by kernel_rfl) rfl #[.slice A0 l0.length c0, .int .i64 t115] rfl (by (try simp only [List.map_toArray, List.map_cons, List.map_nil]); first | done | rfl | (simp only [List.length_drop, List.length_take]; rfl)) ?_; (with_reducible refine (spec_digitsFrom.calls kj2 _ _ l0 t115 t117 _ ?side1 ?side2 A13.out).mono ?_); (case side1 => repeat (first | exact HR0.out | (with_reducible refine Kd.C_alloc ?_ _) | (with_reducible refine Kd.C_drewN ?_ _) | (with_reducible refine Kd.C_drew ?_))); (case side2 => exact HC0.out); rintro e w' ⟨rfl, ⟨nd, rfl⟩⟩; refine ⟨_, rfl, ?_⟩))
            go_ret
            exact ⟨by first | rfl | (simp; done) | (simp [*]; done), by repeat (first | exact Drawn0.refl _ | apply Drawn0.step)⟩
        · replace c12 := Bool.eq_false_iff.mpr c12
          subst c12
          have H1 : (some t112) = some r := by rw [if_neg (show ¬ (false = true) by decide)] at H; exact H
          clear H
          have H := H1
          clear H1
          as_aux_lemma =>
            obtain rfl := Option.some.inj H
            go_wp2_with (first | ((with_reducible refine gate_callee (f := 50) rfl ?_); refine goesL_ (some 33) rfl rfl Try.func50 (by kernel_rfl) rfl #[.slice A0 l0.length c0, .int .i64 (wrap64 (t112 + 1))] rfl (by (try simp only [List.map_toArray, List.map_cons, List.map_nil]); first | done | rfl | (simp only [List.length_drop, List.length_take]; rfl)) ?_; (with_reducible refine (spec_signFrom.calls _ _ l0 (wrap64 (t112 + 1)) t115 _ ?side1 ?side2 A10.out).mono ?_); (case side1 => repeat (first | exact HR0.out | (with_reducible refine Kd.C_alloc ?_ _) | (with_reducible refine Kd.C_drewN ?_ _) | (with_reducible refine Kd.C_drew ?_))); (case side2 => exact HC0.out); rintro e w' ⟨rfl, ⟨nd, rfl⟩⟩; refine ⟨_, rfl, ?_⟩) | ((with_reducible refine gate_callee (f := 51) rfl ?_); refine goesL_ (some 36) rfl rfl Try.func51 (by kernel_rfl) rfl #[.slice A0 l0.length c0, .int .i64 t115] rfl (by (try simp only [List.map_toArray, List.map_cons, List.map_nil]); first | done | rfl | (simp only [List.length_drop, List.length_take]; rfl)) ?_; (with_reducible refine (spec_digitAt.calls _ _ l0 t115 false _ ?side1 ?side2 A11.out).mono ?_); (case side1 => repeat (first | exact HR0.out | (with_reducible refine Kd.C_alloc ?_ _) | (with_reducible refine Kd.C_drewN ?_ _) | (with_reducible refine Kd.C_drew ?_))); (case side2 => exact HC0.out); rintro e w' ⟨rfl, ⟨nd, rfl⟩⟩; refine ⟨_, rfl, ?_⟩))
            go_ret
            exact ⟨by first | rfl | (simp; done) | (simp [*]; done), by repeat (first | exact Drawn0.refl _ | apply Drawn0.step)⟩

/-! ### impl_own: function 48 -/
def impl_own.f (l0 : List Int) : Option (List Int) := (some (([] : List Int) : List Int)).bind fun y118 => (if y118.length + l0.length < 140737488355328 then (some (y118 ++ l0)) else (none))
set_option maxHeartbeats 8000000 in
set_option maxRecDepth 100000 in
theorem impl_own.calls (A0 : Option Addr) (c0 : Nat) (l0 : List Int) (r : List Int) (w : World) (hr0 : Kd.C (Kd.int .u8) w A0 l0.length l0) (hc0 : l0.length ≤ c0) (h : impl_own.f l0 = some r) :
    Calls Try.prog 48 #[.slice A0 l0.length c0] w fun e w' => ∃ v0_ : Value, e = .returned (v0_) ∧ Kd.R (Kd.int .u8) 5 w' w.heap.size (fun _ => True) v0_ r ∧ Below w.heap.size w w' := by
  have HR0 := Aside0.mk hr0
  have HC0 := Aside0.mk hc0
  clear hr0 hc0
  have HB := Aside0.mk (Below.refl w.heap.size w)
  have H : ((some (([] : List Int) : List Int)).bind fun y118 => (if y118.length + l0.length < 140737488355328 then (some (y118 ++ l0)) else (none))) = some r := h
  clear h
  obtain ⟨y118, hy118⟩ : ∃ y_ : List Int, y_ = (([] : List Int)) := ⟨_, rfl⟩
  replace H : (if y118.length + l0.length < 140737488355328 then (some (y118 ++ l0)) else (none)) = some r := by first | (rw [hy118]; with_reducible exact H) | (have H2_ := (Option.bind_some _ _).symm.trans H; rw [hy118]; with_reducible exact H2_) | (have H2_ := (Option.bind_some _ _).symm.trans H; with_reducible exact H2_) | with_reducible exact H | (rw [hy118]; exact H) | exact H
  have Ny118 := Aside0.mk hy118
  clear hy118
  by_cases c2 : y118.length + l0.length < 140737488355328
  · rw [if_pos c2] at H
    have LMc2 := Aside0.mk c2
    clear c2
    obtain ⟨y121, hy121⟩ : ∃ y_ : List Int, y_ = (y118 ++ l0) := ⟨_, rfl⟩
    replace H : (some y121) = some r := by first | (rw [hy121]; with_reducible exact H) | (have H2_ := (Option.bind_some _ _).symm.trans H; rw [hy121]; with_reducible exact H2_) | (have H2_ := (Option.bind_some _ _).symm.trans H; with_reducible exact H2_) | with_reducible exact H | (rw [hy121]; exact H) | exact H
    have Ny121 := Aside0.mk hy121
    clear hy121
    as_aux_lemma =>
      obtain rfl := Option.some.inj H
      go_enter Try.func48, Try.ntmps48
      go_wp2_with (first | ((with_reducible refine gate_dst (N := 3) rfl ?_); refine Kd.R_lit (Kd.int .u8) _ 5 ?hg (N := 3) ?hd (xs := ([] : List Int)) (inner := []) (ok := fun _ => True) (okp := fun _ => True) ?hr ?hp (fun _ hk => hk) trivial (Below.refl _ _) (Nat.le_refl _) (by simp) ?_; (case hd => rfl); (case hg => rfl); (case hr => first | (go_simp; done) | (go_simp; rfl)); (case hp => exact (Reps.none _ _)); intro v119 w3 ho4 hb hg_ hnew_; clear hg_ hnew_; (first | rw [← Ny118.out] at ho4 | (simp only [Int.reduceToNat] at ho4; rw [← Ny118.out] at ho4)); have n0_ := Aside0.mk (Kd.R_lower ho4 (below_size (by repeat (first | (with_reducible first | exact HB.out | apply below_alloc | apply pw_below_drewN | apply below_drew1) | exact HB.out)))); have n1_ := Aside0.mk (below_step (by repeat (first | (with_reducible first | exact HB.out | apply below_alloc | apply pw_below_drewN | apply below_drew1) | exact HB.out)) hb); clear HB; have HO120 := n0_; have HB := n1_; clear n0_ n1_; clear hb ho4) | ((with_reducible refine gate_builtin (b := .append) (xs := #[.tmp 3, .tmp 4]) rfl ?_); at_builtin; refine Kd.R_append_rows (Kd.int .u8) (w0 := w) w.heap.size rfl (.tmp 3) (.tmp 4) 24 5 (.int .u8 0) 1 rfl Try.underlying24 info5 rfl (by decide) (by omega) v119 y118 l0 _ _ _ (fun _ => True) (fun _ => False) rfl rfl ?aO ?aR (fun _ _ h => h) (fun _ h => h.elim) ?aF ?aB ?aS ?aL ?_; (case aR => repeat (first | exact (Kd.C_below HR0.out HB.out) | (with_reducible refine Kd.C_alloc ?_ _) | (with_reducible refine Kd.C_drewN ?_ _) | (with_reducible refine Kd.C_drew ?_))); (case aB => exact (by repeat (first | (with_reducible first | exact HB.out | apply below_alloc | apply pw_below_drewN | apply below_drew1) | exact HB.out))); (case aF => exact (fun _ _ => trivial)); (case aO => exact (by (with_reducible repeat (first | apply Kd.R_alloc | apply Kd.R_drewN | apply Kd.R_drew)); exact HO120.out)); (case aS => exact (below_size (by repeat (first | (with_reducible first | exact HB.out | apply below_alloc | apply pw_below_drewN | apply below_drew1) | exact HB.out)))); (case aL => have := LMc2.out; omega); intro v122 w5 ho hb hg hat; rw [← Ny121.out] at ho; have n0_ := Aside0.mk (hb); have n1_ := Aside0.mk (ho); clear HB; clear HO120; have HB := n0_; have HO123 := n1_; clear n0_ n1_; clear ho hb hg hat))
      go_ret
      exact ⟨_, by first | rfl | (simp [errW_none, errW_some] <;> rfl) | (simp [*, errW_none, errW_some] <;> rfl), by (with_reducible repeat (first | apply Kd.R_alloc | apply Kd.R_drewN | apply Kd.R_drew)); exact HO123.out, by repeat (first | (with_reducible first | exact HB.out | apply below_alloc | apply pw_below_drewN | apply below_drew1) | exact HB.out)⟩
  · rw [if_neg c2] at H
    exact absurd H (by simp)

end Go.Proofs.Yteklgpjdcdkdpaa.PFnNumberDimension
