-- Laid by a program of this session, out of the translation's print.
import Derived.Test.YtcghdanppdmfeaaDoorPFnUrlTablex0
namespace Go.Proofs.YtcghdanppdmfeaaDoor.PFnUrlTable
open Go.Proofs.YtcghdanppdmfeaaDoor.Own
open Go.RowKit Go.Proofs.YtcghdanppdmfeaaDoorW.PrintWords Go.Proofs.YtcghdanppdmfeaaDoorW.PrintLast Go.Proofs.YtcghdanppdmfeaaDoorW.PrintMore
attribute [local go_sem] max2_int min2_int max_two min_two max_three min_three max_four min_four   -- for this text's walks alone
set_option linter.unusedVariables false
set_option linter.unusedSimpArgs false

-- impl_Escaped: by hand (CTabU)

/-! ### spec_LowerByte: function 16 -/
def spec_LowerByte.f (a0 : Int) : Option (Int) := if a0 ≥ 65 then (if a0 ≤ 90 then (some ((a0 + 32) % 256)) else (some a0)) else (some a0)
set_option maxHeartbeats 8000000 in
set_option maxRecDepth 100000 in
theorem spec_LowerByte.calls (a0 : Int) (r : Int) (w : World) (h : spec_LowerByte.f a0 = some r) :
    Calls Tryd.prog 16 #[.int .u8 a0] w fun e w' => e = .returned (.int .u8 r) ∧ Drawn0 w w' := by
  have H : (if a0 ≥ 65 then (if a0 ≤ 90 then (some ((a0 + 32) % 256)) else (some a0)) else (some a0)) = some r := h
  clear h
  by_cases c2 : a0 ≥ 65
  · rw [if_pos c2] at H
    have c2b0 : decide (65 ≤ a0) = true := decide_eq_true c2
    clear c2
    by_cases c3 : a0 ≤ 90
    · rw [if_pos c3] at H
      have c3b0 : decide (a0 ≤ 90) = true := decide_eq_true c3
      clear c3
      obtain rfl := Option.some.inj H
      go_enter Tryd.func16, Tryd.ntmps16
      go_wp2
      go_ret
      exact ⟨by first | rfl | (simp; done) | (simp [*]; done), by repeat (first | exact Drawn0.refl _ | apply Drawn0.step)⟩
    · rw [if_neg c3] at H
      have c3b0 : decide (a0 ≤ 90) = false := decide_eq_false c3
      clear c3
      obtain rfl := Option.some.inj H
      go_enter Tryd.func16, Tryd.ntmps16
      go_wp2
      go_ret
      exact ⟨by first | rfl | (simp; done) | (simp [*]; done), by repeat (first | exact Drawn0.refl _ | apply Drawn0.step)⟩
  · rw [if_neg c2] at H
    have c2b0 : decide (65 ≤ a0) = false := decide_eq_false c2
    clear c2
    obtain rfl := Option.some.inj H
    go_enter Tryd.func16, Tryd.ntmps16
    go_wp2
    go_ret
    exact ⟨by first | rfl | (simp; done) | (simp [*]; done), by repeat (first | exact Drawn0.refl _ | apply Drawn0.step)⟩

/-! ### laws_simple: function 8 -/
def laws_simple.l0 : Nat → List Int → Int → Int → Option (Bool)
  | 0, _, _, _ => none
  | k + 1, x6, x7, x8 => if x8 < x7 then (if 0 ≤ x8 then (if x8 < (x6.length : Int) then ((spec_LowerByte.f (rd x6 x8)).bind fun t102 => (if t102 < 97 then (if (rd x6 x8) < 48 then (if (rd x6 x8) = 45 then (laws_simple.l0 k x6 x7 (wrap64 (x8 + 1))) else (some false)) else (if (rd x6 x8) > 57 then (if (rd x6 x8) = 45 then (laws_simple.l0 k x6 x7 (wrap64 (x8 + 1))) else (some false)) else (laws_simple.l0 k x6 x7 (wrap64 (x8 + 1))))) else (if t102 > 122 then (if (rd x6 x8) < 48 then (if (rd x6 x8) = 45 then (laws_simple.l0 k x6 x7 (wrap64 (x8 + 1))) else (some false)) else (if (rd x6 x8) > 57 then (if (rd x6 x8) = 45 then (laws_simple.l0 k x6 x7 (wrap64 (x8 + 1))) else (some false)) else (laws_simple.l0 k x6 x7 (wrap64 (x8 + 1))))) else (laws_simple.l0 k x6 x7 (wrap64 (x8 + 1)))))) else (none)) else (none)) else (some true)
def laws_simple.f (k : Nat) (l0 : List Int) : Option (Bool) := laws_simple.l0 k l0 (l0.length : Int) 0
theorem laws_simple.mono_l : ∀ k, (∀ y0 y1 y2, LeO (laws_simple.l0 k y0 y1 y2) (laws_simple.l0 (k + 1) y0 y1 y2))
  | 0 => fun _ _ _ r h => by simp [laws_simple.l0] at h
  | k + 1 => by
    have ih0 := laws_simple.mono_l k
    · intro y0 y1 y2
      unfold laws_simple.l0
      repeat' first
      | (with_reducible exact ih0 _ _ _)
      | (with_reducible exact LeO.refl _)
      | (with_reducible exact LeO.none _)
      | (with_reducible refine LeO.ite ?_ ?_)
      | (with_reducible refine LeO.bind ?_ (fun _ => ?_))
      | exact ih0 _ _ _
      | exact LeO.none _
      | refine LeO.ite ?_ ?_
      | refine LeO.bind ?_ (fun _ => ?_)
theorem laws_simple.mono : ∀ a0 k, LeO (laws_simple.f k a0) (laws_simple.f (k + 1) a0) := by
  intro a0 k
  have ih0 := laws_simple.mono_l k
  unfold laws_simple.f
  repeat' first
      | (with_reducible exact ih0 _ _ _)
      | (with_reducible exact LeO.refl _)
      | (with_reducible exact LeO.none _)
      | (with_reducible refine LeO.ite ?_ ?_)
      | (with_reducible refine LeO.bind ?_ (fun _ => ?_))
      | exact ih0 _ _ _
      | exact LeO.none _
      | refine LeO.ite ?_ ?_
      | refine LeO.bind ?_ (fun _ => ?_)
set_option maxHeartbeats 8000000 in
set_option maxRecDepth 100000 in
theorem laws_simple.calls (k : Nat) (A0 : Option Addr) (c0 : Nat) (l0 : List Int) (r : Bool) (w : World) (hr0 : Kd.C (Kd.int .u8) w A0 l0.length l0) (hc0 : l0.length ≤ c0) (h : laws_simple.f k l0 = some r) :
    Calls Tryd.prog 8 #[.slice A0 l0.length c0] w fun e w' => e = .returned (.bool r) ∧ Drawn0 w w' := by
  have HR0 := Aside0.mk hr0
  have HC0 := Aside0.mk hc0
  clear hr0 hc0
  have H : (laws_simple.l0 k l0 (l0.length : Int) 0) = some r := h
  clear h
  have H' := Aside0.mk H
  clear H
  go_enter Tryd.func8, Tryd.ntmps8
  go_wp2
  go_loopg [8] k (fun kq v8 w' => ∃ (x8_1 : Int), v8 = .int .i64 x8_1 ∧ Aside0 (laws_simple.l0 kq l0 (l0.length : Int) x8_1 = some r) ∧ Aside0 (kq ≤ k) ∧ Drawn0 w w')
  case atStart => exact ⟨(0), (by first | rfl | (simp; done) | (simp [*]; done)), H', ⟨Nat.le_refl _⟩, by repeat (first | exact Drawn0.refl _ | apply Drawn0.step)⟩
  case round =>
    clear H'
    obtain ⟨x8_1, rfl, HA, HK1, ⟨m1, rfl⟩⟩ := hrel
    cases gk with
    | zero => exact absurd HA.out (by simp [laws_simple.l0])
    | succ k1 =>
      have H := HA.out
      clear HA
      simp only [laws_simple.l0] at H
      by_cases c2 : x8_1 < (l0.length : Int)
      · rw [if_pos c2] at H
        have c2b0 : decide (x8_1 < (l0.length : Int)) = true := decide_eq_true c2
        clear c2
        by_cases c3 : 0 ≤ x8_1
        · rw [if_pos c3] at H
          have c3b0 : decide (0 ≤ x8_1) = true := decide_eq_true c3
          clear c3
          by_cases c4 : x8_1 < (l0.length : Int)
          · rw [if_pos c4] at H
            have c4b0 : decide (x8_1 < (l0.length : Int)) = true := decide_eq_true c4
            clear c4
            replace H := Option.bind_eq_some_iff.mp H
            obtain ⟨t102, A50, H⟩ := H
            replace H : (if t102 < 97 then (if (rd l0 x8_1) < 48 then (if (rd l0 x8_1) = 45 then (laws_simple.l0 k1 l0 (l0.length : Int) (wrap64 (x8_1 + 1))) else (some false)) else (if (rd l0 x8_1) > 57 then (if (rd l0 x8_1) = 45 then (laws_simple.l0 k1 l0 (l0.length : Int) (wrap64 (x8_1 + 1))) else (some false)) else (laws_simple.l0 k1 l0 (l0.length : Int) (wrap64 (x8_1 + 1))))) else (if t102 > 122 then (if (rd l0 x8_1) < 48 then (if (rd l0 x8_1) = 45 then (laws_simple.l0 k1 l0 (l0.length : Int) (wrap64 (x8_1 + 1))) else (some false)) else (if (rd l0 x8_1) > 57 then (if (rd l0 x8_1) = 45 then (laws_simple.l0 k1 l0 (l0.length : Int) (wrap64 (x8_1 + 1))) else (some false)) else (laws_simple.l0 k1 l0 (l0.length : Int) (wrap64 (x8_1 + 1))))) else (laws_simple.l0 k1 l0 (l0.length : Int) (wrap64 (x8_1 + 1))))) = some r := H
            have A5 := Aside0.mk A50
            clear A50
            by_cases c6 : t102 < 97
            · rw [if_pos c6] at H
              have c6b0 : decide (t102 < 97) = true := decide_eq_true c6
              clear c6
              by_cases c7 : (rd l0 x8_1) < 48
              · rw [if_pos c7] at H
                have c7b0 : decide ((rd l0 x8_1) < 48) = true := decide_eq_true c7
                clear c7
                by_cases c8 : (rd l0 x8_1) = 45
                · rw [if_pos c8] at H
                  have c8b0 : ((rd l0 x8_1) == 45) = true := beq_iff_eq.mpr c8
                  have c8b1 : ((rd l0 x8_1) != 45) = false := bne_eq_false_iff_eq.mpr c8
                  clear c8
                  have H' := Aside0.mk H
                  clear H
                  have p101 : 0 ≤ (x8_1 : Int) := of_decide_eq_true (by first | (with_reducible assumption) | assumption)
                  have q101 : x8_1 < (l0.length : Int) := of_decide_eq_true (by first | (with_reducible assumption) | assumption)
                  obtain ⟨ad101, e101, hx101_0⟩ := Kd.at_int HR0.out x8_1 p101 q101
                  cases e101
                  replace p101 := eq_true p101
                  replace q101 := eq_true q101
                  go_wp2_with (first | ((with_reducible refine gate_callee (f := 16) rfl ?_); refine goesL_ (some 13) rfl rfl Tryd.func16 (by kernel_rfl) rfl #[.int .u8 (rd l0 x8_1)] rfl (by (try simp only [List.map_toArray, List.map_cons, List.map_nil]); first | done | rfl | (simp only [List.length_drop, List.length_take]; rfl)) ?_; (with_reducible refine (spec_LowerByte.calls (rd l0 x8_1) t102 _ A5.out).mono ?_); rintro e w' ⟨rfl, ⟨nd, rfl⟩⟩; refine ⟨_, rfl, ?_⟩))
                  go_roundg k1
                  case measure => have := HK1.out; omega
                  case rel => exact ⟨(wrap64 (x8_1 + 1)), (by first | rfl | (simp; done) | (simp [*]; done)), H', ⟨by have := HK1.out; omega⟩, by repeat (first | exact Drawn0.refl _ | apply Drawn0.step)⟩
                · rw [if_neg c8] at H
                  have c8b0 : ((rd l0 x8_1) == 45) = false := beq_eq_false_iff_ne.mpr c8
                  have c8b1 : ((rd l0 x8_1) != 45) = true := bne_iff_ne.mpr c8
                  obtain rfl := Option.some.inj H
                  have p101 : 0 ≤ (x8_1 : Int) := of_decide_eq_true (by first | (with_reducible assumption) | assumption)
                  have q101 : x8_1 < (l0.length : Int) := of_decide_eq_true (by first | (with_reducible assumption) | assumption)
                  obtain ⟨ad101, e101, hx101_0⟩ := Kd.at_int HR0.out x8_1 p101 q101
                  cases e101
                  replace p101 := eq_true p101
                  replace q101 := eq_true q101
                  go_wp2_with (first | ((with_reducible refine gate_callee (f := 16) rfl ?_); refine goesL_ (some 13) rfl rfl Tryd.func16 (by kernel_rfl) rfl #[.int .u8 (rd l0 x8_1)] rfl (by (try simp only [List.map_toArray, List.map_cons, List.map_nil]); first | done | rfl | (simp only [List.length_drop, List.length_take]; rfl)) ?_; (with_reducible refine (spec_LowerByte.calls (rd l0 x8_1) t102 _ A5.out).mono ?_); rintro e w' ⟨rfl, ⟨nd, rfl⟩⟩; refine ⟨_, rfl, ?_⟩))
                  go_ret
                  exact ⟨by first | rfl | (simp; done) | (simp [*]; done), by repeat (first | exact Drawn0.refl _ | apply Drawn0.step)⟩
              · rw [if_neg c7] at H
                have c7b0 : decide ((rd l0 x8_1) < 48) = false := decide_eq_false c7
                clear c7
                by_cases c9 : (rd l0 x8_1) > 57
                · rw [if_pos c9] at H
                  have c9b0 : decide (57 < (rd l0 x8_1)) = true := decide_eq_true c9
                  clear c9
                  by_cases c10 : (rd l0 x8_1) = 45
                  · rw [if_pos c10] at H
                    have c10b0 : ((rd l0 x8_1) == 45) = true := beq_iff_eq.mpr c10
                    have c10b1 : ((rd l0 x8_1) != 45) = false := bne_eq_false_iff_eq.mpr c10
                    clear c10
                    have H' := Aside0.mk H
                    clear H
                    have p101 : 0 ≤ (x8_1 : Int) := of_decide_eq_true (by first | (with_reducible assumption) | assumption)
                    have q101 : x8_1 < (l0.length : Int) := of_decide_eq_true (by first | (with_reducible assumption) | assumption)
                    obtain ⟨ad101, e101, hx101_0⟩ := Kd.at_int HR0.out x8_1 p101 q101
                    cases e101
                    replace p101 := eq_true p101
                    replace q101 := eq_true q101
                    go_wp2_with (first | ((with_reducible refine gate_callee (f := 16) rfl ?_); refine goesL_ (some 13) rfl rfl Tryd.func16 (by kernel_rfl) rfl #[.int .u8 (rd l0 x8_1)] rfl (by (try simp only [List.map_toArray, List.map_cons, List.map_nil]); first | done | rfl | (simp only [List.length_drop, List.length_take]; rfl)) ?_; (with_reducible refine (spec_LowerByte.calls (rd l0 x8_1) t102 _ A5.out).mono ?_); rintro e w' ⟨rfl, ⟨nd, rfl⟩⟩; refine ⟨_, rfl, ?_⟩))
                    go_roundg k1
                    case measure => have := HK1.out; omega
                    case rel => exact ⟨(wrap64 (x8_1 + 1)), (by first | rfl | (simp; done) | (simp [*]; done)), H', ⟨by have := HK1.out; omega⟩, by repeat (first | exact Drawn0.refl _ | apply Drawn0.step)⟩
                  · rw [if_neg c10] at H
                    have c10b0 : ((rd l0 x8_1) == 45) = false := beq_eq_false_iff_ne.mpr c10
                    have c10b1 : ((rd l0 x8_1) != 45) = true := bne_iff_ne.mpr c10
                    obtain rfl := Option.some.inj H
                    have p101 : 0 ≤ (x8_1 : Int) := of_decide_eq_true (by first | (with_reducible assumption) | assumption)
                    have q101 : x8_1 < (l0.length : Int) := of_decide_eq_true (by first | (with_reducible assumption) | assumption)
                    obtain ⟨ad101, e101, hx101_0⟩ := Kd.at_int HR0.out x8_1 p101 q101
                    cases e101
                    replace p101 := eq_true p101
                    replace q101 := eq_true q101
                    go_wp2_with (first | ((with_reducible refine gate_callee (f := 16) rfl ?_); refine goesL_ (some 13) rfl rfl Tryd.func16 (by kernel_rfl) rfl #[.int .u8 (rd l0 x8_1)] rfl (by (try simp only [List.map_toArray, List.map_cons, List.map_nil]); first | done | rfl | (simp only [List.length_drop, List.length_take]; rfl)) ?_; (with_reducible refine (spec_LowerByte.calls (rd l0 x8_1) t102 _ A5.out).mono ?_); rintro e w' ⟨rfl, ⟨nd, rfl⟩⟩; refine ⟨_, rfl, ?_⟩))
                    go_ret
                    exact ⟨by first | rfl | (simp; done) | (simp [*]; done), by repeat (first | exact Drawn0.refl _ | apply Drawn0.step)⟩
                · rw [if_neg c9] at H
                  have c9b0 : decide (57 < (rd l0 x8_1)) = false := decide_eq_false c9
                  clear c9
                  have H' := Aside0.mk H
                  clear H
                  have p101 : 0 ≤ (x8_1 : Int) := of_decide_eq_true (by first | (with_reducible assumption) | assumption)
                  have q101 : x8_1 < (l0.length : Int) := of_decide_eq_true (by first | (with_reducible assumption) | assumption)
                  obtain ⟨ad101, e101, hx101_0⟩ := Kd.at_int HR0.out x8_1 p101 q101
                  cases e101
                  replace p101 := eq_true p101
                  replace q101 := eq_true q101
                  go_wp2_with (first | ((with_reducible refine gate_callee (f := 16) rfl ?_); refine goesL_ (some 13) rfl rfl Tryd.func16 (by kernel_rfl) rfl #[.int .u8 (rd l0 x8_1)] rfl (by (try simp only [List.map_toArray, List.map_cons, List.map_nil]); first | done | rfl | (simp only [List.length_drop, List.length_take]; rfl)) ?_; (with_reducible refine (spec_LowerByte.calls (rd l0 x8_1) t102 _ A5.out).mono ?_); rintro e w' ⟨rfl, ⟨nd, rfl⟩⟩; refine ⟨_, rfl, ?_⟩))
                  go_roundg k1
                  case measure => have := HK1.out; omega
                  case rel => exact ⟨(wrap64 (x8_1 + 1)), (by first | rfl | (simp; done) | (simp [*]; done)), H', ⟨by have := HK1.out; omega⟩, by repeat (first | exact Drawn0.refl _ | apply Drawn0.step)⟩
            · rw [if_neg c6] at H
              have c6b0 : decide (t102 < 97) = false := decide_eq_false c6
              clear c6
              by_cases c11 : t102 > 122
              · rw [if_pos c11] at H
                have c11b0 : decide (122 < t102) = true := decide_eq_true c11
                clear c11
                by_cases c12 : (rd l0 x8_1) < 48
                · rw [if_pos c12] at H
                  have c12b0 : decide ((rd l0 x8_1) < 48) = true := decide_eq_true c12
                  clear c12
                  by_cases c13 : (rd l0 x8_1) = 45
                  · rw [if_pos c13] at H
                    have c13b0 : ((rd l0 x8_1) == 45) = true := beq_iff_eq.mpr c13
                    have c13b1 : ((rd l0 x8_1) != 45) = false := bne_eq_false_iff_eq.mpr c13
                    clear c13
                    have H' := Aside0.mk H
                    clear H
                    have p101 : 0 ≤ (x8_1 : Int) := of_decide_eq_true (by first | (with_reducible assumption) | assumption)
                    have q101 : x8_1 < (l0.length : Int) := of_decide_eq_true (by first | (with_reducible assumption) | assumption)
                    obtain ⟨ad101, e101, hx101_0⟩ := Kd.at_int HR0.out x8_1 p101 q101
                    cases e101
                    replace p101 := eq_true p101
                    replace q101 := eq_true q101
                    go_wp2_with (first | ((with_reducible refine gate_callee (f := 16) rfl ?_); refine goesL_ (some 13) rfl rfl Tryd.func16 (by kernel_rfl) rfl #[.int .u8 (rd l0 x8_1)] rfl (by (try simp only [List.map_toArray, List.map_cons, List.map_nil]); first | done | rfl | (simp only [List.length_drop, List.length_take]; rfl)) ?_; (with_reducible refine (spec_LowerByte.calls (rd l0 x8_1) t102 _ A5.out).mono ?_); rintro e w' ⟨rfl, ⟨nd, rfl⟩⟩; refine ⟨_, rfl, ?_⟩))
                    go_roundg k1
                    case measure => have := HK1.out; omega
                    case rel => exact ⟨(wrap64 (x8_1 + 1)), (by first | rfl | (simp; done) | (simp [*]; done)), H', ⟨by have := HK1.out; omega⟩, by repeat (first | exact Drawn0.refl _ | apply Drawn0.step)⟩
                  · rw [if_neg c13] at H
                    have c13b0 : ((rd l0 x8_1) == 45) = false := beq_eq_false_iff_ne.mpr c13
                    have c13b1 : ((rd l0 x8_1) != 45) = true := bne_iff_ne.mpr c13
                    obtain rfl := Option.some.inj H
                    have p101 : 0 ≤ (x8_1 : Int) := of_decide_eq_true (by first | (with_reducible assumption) | assumption)
                    have q101 : x8_1 < (l0.length : Int) := of_decide_eq_true (by first | (with_reducible assumption) | assumption)
                    obtain ⟨ad101, e101, hx101_0⟩ := Kd.at_int HR0.out x8_1 p101 q101
                    cases e101
                    replace p101 := eq_true p101
                    replace q101 := eq_true q101
                    go_wp2_with (first | ((with_reducible refine gate_callee (f := 16) rfl ?_); refine goesL_ (some 13) rfl rfl Tryd.func16 (by kernel_rfl) rfl #[.int .u8 (rd l0 x8_1)] rfl (by (try simp only [List.map_toArray, List.map_cons, List.map_nil]); first | done | rfl | (simp only [List.length_drop, List.length_take]; rfl)) ?_; (with_reducible refine (spec_LowerByte.calls (rd l0 x8_1) t102 _ A5.out).mono ?_); rintro e w' ⟨rfl, ⟨nd, rfl⟩⟩; refine ⟨_, rfl, ?_⟩))
                    go_ret
                    exact ⟨by first | rfl | (simp; done) | (simp [*]; done), by repeat (first | exact Drawn0.refl _ | apply Drawn0.step)⟩
                · rw [if_neg c12] at H
                  have c12b0 : decide ((rd l0 x8_1) < 48) = false := decide_eq_false c12
                  clear c12
                  by_cases c14 : (rd l0 x8_1) > 57
                  · rw [if_pos c14] at H
                    have c14b0 : decide (57 < (rd l0 x8_1)) = true := decide_eq_true c14
                    clear c14
                    by_cases c15 : (rd l0 x8_1) = 45
                    · rw [if_pos c15] at H
                      have c15b0 : ((rd l0 x8_1) == 45) = true := beq_iff_eq.mpr c15
                      have c15b1 : ((rd l0 x8_1) != 45) = false := bne_eq_false_iff_eq.mpr c15
                      clear c15
                      have H' := Aside0.mk H
                      clear H
                      have p101 : 0 ≤ (x8_1 : Int) := of_decide_eq_true (by first | (with_reducible assumption) | assumption)
                      have q101 : x8_1 < (l0.length : Int) := of_decide_eq_true (by first | (with_reducible assumption) | assumption)
                      obtain ⟨ad101, e101, hx101_0⟩ := Kd.at_int HR0.out x8_1 p101 q101
                      cases e101
                      replace p101 := eq_true p101
                      replace q101 := eq_true q101
                      go_wp2_with (first | ((with_reducible refine gate_callee (f := 16) rfl ?_); refine goesL_ (some 13) rfl rfl Tryd.func16 (by kernel_rfl) rfl #[.int .u8 (rd l0 x8_1)] rfl (by (try simp only [List.map_toArray, List.map_cons, List.map_nil]); first | done | rfl | (simp only [List.length_drop, List.length_take]; rfl)) ?_; (with_reducible refine (spec_LowerByte.calls (rd l0 x8_1) t102 _ A5.out).mono ?_); rintro e w' ⟨rfl, ⟨nd, rfl⟩⟩; refine ⟨_, rfl, ?_⟩))
                      go_roundg k1
                      case measure => have := HK1.out; omega
                      case rel => exact ⟨(wrap64 (x8_1 + 1)), (by first | rfl | (simp; done) | (simp [*]; done)), H', ⟨by have := HK1.out; omega⟩, by repeat (first | exact Drawn0.refl _ | apply Drawn0.step)⟩
                    · rw [if_neg c15] at H
                      have c15b0 : ((rd l0 x8_1) == 45) = false := beq_eq_false_iff_ne.mpr c15
                      have c15b1 : ((rd l0 x8_1) != 45) = true := bne_iff_ne.mpr c15
                      obtain rfl := Option.some.inj H
                      have p101 : 0 ≤ (x8_1 : Int) := of_decide_eq_true (by first | (with_reducible assumption) | assumption)
                      have q101 : x8_1 < (l0.length : Int) := of_decide_eq_true (by first | (with_reducible assumption) | assumption)
                      obtain ⟨ad101, e101, hx101_0⟩ := Kd.at_int HR0.out x8_1 p101 q101
                      cases e101
                      replace p101 := eq_true p101
                      replace q101 := eq_true q101
                      go_wp2_with (first | ((with_reducible refine gate_callee (f := 16) rfl ?_); refine goesL_ (some 13) rfl rfl Tryd.func16 (by kernel_rfl) rfl #[.int .u8 (rd l0 x8_1)] rfl (by (try simp only [List.map_toArray, List.map_cons, List.map_nil]); first | done | rfl | (simp only [List.length_drop, List.length_take]; rfl)) ?_; (with_reducible refine (spec_LowerByte.calls (rd l0 x8_1) t102 _ A5.out).mono ?_); rintro e w' ⟨rfl, ⟨nd, rfl⟩⟩; refine ⟨_, rfl, ?_⟩))
                      go_ret
                      exact ⟨by first | rfl | (simp; done) | (simp [*]; done), by repeat (first | exact Drawn0.refl _ | apply Drawn0.step)⟩
                  · rw [if_neg c14] at H
                    have c14b0 : decide (57 < (rd l0 x8_1)) = false := decide_eq_false c14
                    clear c14
                    have H' := Aside0.mk H
                    clear H
                    have p101 : 0 ≤ (x8_1 : Int) := of_decide_eq_true (by first | (with_reducible assumption) | assumption)
                    have q101 : x8_1 < (l0.length : Int) := of_decide_eq_true (by first | (with_reducible assumption) | assumption)
                    obtain ⟨ad101, e101, hx101_0⟩ := Kd.at_int HR0.out x8_1 p101 q101
                    cases e101
                    replace p101 := eq_true p101
                    replace q101 := eq_true q101
                    go_wp2_with (first | ((with_reducible refine gate_callee (f := 16) rfl ?_); refine goesL_ (some 13) rfl rfl Tryd.func16 (by kernel_rfl) rfl #[.int .u8 (rd l0 x8_1)] rfl (by (try simp only [List.map_toArray, List.map_cons, List.map_nil]); first | done | rfl | (simp only [List.length_drop, List.length_take]; rfl)) ?_; (with_reducible refine (spec_LowerByte.calls (rd l0 x8_1) t102 _ A5.out).mono ?_); rintro e w' ⟨rfl, ⟨nd, rfl⟩⟩; refine ⟨_, rfl, ?_⟩))
                    go_roundg k1
                    case measure => have := HK1.out; omega
                    case rel => exact ⟨(wrap64 (x8_1 + 1)), (by first | rfl | (simp; done) | (simp [*]; done)), H', ⟨by have := HK1.out; omega⟩, by repeat (first | exact Drawn0.refl _ | apply Drawn0.step)⟩
              · rw [if_neg c11] at H
                have c11b0 : decide (122 < t102) = false := decide_eq_false c11
                clear c11
                have H' := Aside0.mk H
                clear H
                have p101 : 0 ≤ (x8_1 : Int) := of_decide_eq_true (by first | (with_reducible assumption) | assumption)
                have q101 : x8_1 < (l0.length : Int) := of_decide_eq_true (by first | (with_reducible assumption) | assumption)
                obtain ⟨ad101, e101, hx101_0⟩ := Kd.at_int HR0.out x8_1 p101 q101
                cases e101
                replace p101 := eq_true p101
                replace q101 := eq_true q101
                go_wp2_with (first | ((with_reducible refine gate_callee (f := 16) rfl ?_); refine goesL_ (some 13) rfl rfl Tryd.func16 (by kernel_rfl) rfl #[.int .u8 (rd l0 x8_1)] rfl (by (try simp only [List.map_toArray, List.map_cons, List.map_nil]); first | done | rfl | (simp only [List.length_drop, List.length_take]; rfl)) ?_; (with_reducible refine (spec_LowerByte.calls (rd l0 x8_1) t102 _ A5.out).mono ?_); rintro e w' ⟨rfl, ⟨nd, rfl⟩⟩; refine ⟨_, rfl, ?_⟩))
                go_roundg k1
                case measure => have := HK1.out; omega
                case rel => exact ⟨(wrap64 (x8_1 + 1)), (by first | rfl | (simp; done) | (simp [*]; done)), H', ⟨by have := HK1.out; omega⟩, by repeat (first | exact Drawn0.refl _ | apply Drawn0.step)⟩
          · rw [if_neg c4] at H
            exact absurd H (by simp)
        · rw [if_neg c3] at H
          exact absurd H (by simp)
      · rw [if_neg c2] at H
        have c2b0 : decide (x8_1 < (l0.length : Int)) = false := decide_eq_false c2
        clear c2
        obtain rfl := Option.some.inj H
        go_wp2
        go_ret
        exact ⟨by first | rfl | (simp; done) | (simp [*]; done), by repeat (first | exact Drawn0.refl _ | apply Drawn0.step)⟩

/-! ### laws_FnUrlTable: function 3 -/
def laws_FnUrlTable.j0 : Nat → Int → Int → Bool → Option (Bool)
  | 0, _, _, _ => none
  | k + 1, x0, x1, x11 => if x11 = true then (some true) else ((impl_Escaped.f x0 x1).bind fun t103 => (if x0 ≤ 32 then (some t103) else (if x0 ≥ 127 then (some t103) else (if x0 = 37 then (some t103) else (if x0 = 35 then (some t103) else (if t103 = true then ((laws_simple.f k (([x0] : List Int))).bind fun t107 => (some (!t107))) else (some true)))))))
def laws_FnUrlTable.f (k : Nat) (a0 : Int) (a1 : Int) : Option (Bool) := if a1 < 0 then (laws_FnUrlTable.j0 k a0 a1 true) else (laws_FnUrlTable.j0 k a0 a1 (decide (a1 > 1)))
theorem laws_FnUrlTable.mono_l : ∀ k, (∀ y0 y1 y2, LeO (laws_FnUrlTable.j0 k y0 y1 y2) (laws_FnUrlTable.j0 (k + 1) y0 y1 y2))
  | 0 => fun _ _ _ r h => by simp [laws_FnUrlTable.j0] at h
  | k + 1 => by
    have ih0 := laws_FnUrlTable.mono_l k
    · intro y0 y1 y2
      unfold laws_FnUrlTable.j0
      repeat' first
      | (with_reducible exact ih0 _ _ _)
      | (with_reducible exact laws_simple.mono _ _)
      | (with_reducible exact LeO.refl _)
      | (with_reducible exact LeO.none _)
      | (with_reducible refine LeO.ite ?_ ?_)
      | (with_reducible refine LeO.bind ?_ (fun _ => ?_))
      | exact ih0 _ _ _
      | exact laws_simple.mono _ _
      | exact LeO.none _
      | refine LeO.ite ?_ ?_
      | refine LeO.bind ?_ (fun _ => ?_)
theorem laws_FnUrlTable.mono : ∀ a0 a1 k, LeO (laws_FnUrlTable.f k a0 a1) (laws_FnUrlTable.f (k + 1) a0 a1) := by
  intro a0 a1 k
  have ih0 := laws_FnUrlTable.mono_l k
  unfold laws_FnUrlTable.f
  repeat' first
      | (with_reducible exact ih0 _ _ _)
      | (with_reducible exact laws_simple.mono _ _)
      | (with_reducible exact LeO.refl _)
      | (with_reducible exact LeO.none _)
      | (with_reducible refine LeO.ite ?_ ?_)
      | (with_reducible refine LeO.bind ?_ (fun _ => ?_))
      | exact ih0 _ _ _
      | exact laws_simple.mono _ _
      | exact LeO.none _
      | refine LeO.ite ?_ ?_
      | refine LeO.bind ?_ (fun _ => ?_)
set_option maxHeartbeats 8000000 in
set_option maxRecDepth 100000 in
theorem laws_FnUrlTable.calls (k : Nat) (a0 : Int) (a1 : Int) (r : Bool) (w : World) (h : laws_FnUrlTable.f k a0 a1 = some r) (HTabD : Aside0 (Own.TabD w)) (HTabU : Aside0 (Own.TabU w)) :
    Calls Tryd.prog 3 #[.int .u8 a0, .int .i64 a1] w fun e w' => e = .returned (.bool r) ∧ Below w.heap.size w w' := by
  have HB := Aside0.mk (Below.refl w.heap.size w)
  have H : (if a1 < 0 then (laws_FnUrlTable.j0 k a0 a1 true) else (laws_FnUrlTable.j0 k a0 a1 (decide (a1 > 1)))) = some r := h
  clear h
  have HC3 := Aside0.mk H
  clear H
  go_enter Tryd.func3, Tryd.ntmps3
  go_upto_region 1 with (fail)
  go_cut [11] (fun v11 wc => ∃ (kq : Nat) (x11_2 : Bool), v11 = .bool x11_2 ∧ Aside0 (laws_FnUrlTable.j0 kq a0 a1 x11_2 = some r) ∧ Aside0 (kq ≤ k) ∧ Aside0 (Below w.heap.size w wc))
  case first =>
    have H := HC3.out
    clear HC3
    by_cases c4 : a1 < 0
    · rw [if_pos c4] at H
      have c4b0 : decide (a1 < 0) = true := decide_eq_true c4
      clear c4
      (first | rw [c4b0] | (simp only [i64_w, i32_w]; rw [c4b0]) | skip)
      have H' := Aside0.mk H
      clear H
      go_wp2
      go_meet
      case rel => exact ⟨_, (true), (by first | rfl | (simp; done) | (simp [*]; done)), H', ⟨by first | omega | exact Nat.le_refl _⟩, ⟨by repeat (first | (with_reducible first | exact HB.out | apply below_alloc | apply pw_below_drewN | apply below_drew1) | exact HB.out)⟩⟩
    · rw [if_neg c4] at H
      have c4b0 : decide (a1 < 0) = false := decide_eq_false c4
      clear c4
      (first | rw [c4b0] | (simp only [i64_w, i32_w]; rw [c4b0]) | skip)
      have H' := Aside0.mk H
      clear H
      go_wp2
      go_meet
      case rel => exact ⟨_, (decide (a1 > 1)), (by first | rfl | (simp; done) | (simp [*]; done)), H', ⟨by first | omega | exact Nat.le_refl _⟩, ⟨by repeat (first | (with_reducible first | exact HB.out | apply below_alloc | apply pw_below_drewN | apply below_drew1) | exact HB.out)⟩⟩
  case rest =>
    clear HC3
    try clear p2
    try clear c3
    try clear c4
    try clear c4b0
    obtain ⟨kq, x11_2, rfl, HA, HJ2, HB⟩ := hcut
    cases kq with
    | zero => exact absurd HA.out (by simp [laws_FnUrlTable.j0])
    | succ kj2 =>
      have H := HA.out
      clear HA
      simp only [laws_FnUrlTable.j0] at H
      by_cases c5 : x11_2 = true
      · subst c5
        have H1 : (some true) = some r := by rw [if_pos rfl] at H; exact H
        clear H
        have H := H1
        clear H1
        obtain rfl := Option.some.inj H
        go_wp2
        go_ret
        exact ⟨by first | rfl | (simp [errW_none, errW_some] <;> rfl) | (simp [*, errW_none, errW_some] <;> rfl), by repeat (first | (with_reducible first | exact HB.out | apply below_alloc | apply pw_below_drewN | apply below_drew1) | exact HB.out)⟩
      · replace c5 := Bool.eq_false_iff.mpr c5
        subst c5
        have H1 : ((impl_Escaped.f a0 a1).bind fun t103 => (if a0 ≤ 32 then (some t103) else (if a0 ≥ 127 then (some t103) else (if a0 = 37 then (some t103) else (if a0 = 35 then (some t103) else (if t103 = true then ((laws_simple.f kj2 (([a0] : List Int))).bind fun t107 => (some (!t107))) else (some true))))))) = some r := by rw [if_neg (show ¬ (false = true) by decide)] at H; exact H
        clear H
        have H := H1
        clear H1
        replace H := Option.bind_eq_some_iff.mp H
        obtain ⟨t103, A60, H⟩ := H
        replace H : (if a0 ≤ 32 then (some t103) else (if a0 ≥ 127 then (some t103) else (if a0 = 37 then (some t103) else (if a0 = 35 then (some t103) else (if t103 = true then ((laws_simple.f kj2 (([a0] : List Int))).bind fun t107 => (some (!t107))) else (some true)))))) = some r := H
        have A6 := Aside0.mk A60
        clear A60
        by_cases c7 : a0 ≤ 32
        · rw [if_pos c7] at H
          have c7b0 : decide (a0 ≤ 32) = true := decide_eq_true c7
          clear c7
          obtain rfl := Option.some.inj H
          go_wp2_with (first | ((with_reducible refine gate_callee (f := 7) rfl ?_); refine goesL_ (some 14) rfl rfl Tryd.func7 (by kernel_rfl) rfl #[.int .u8 a0, .int .i64 a1] rfl (by (try simp only [List.map_toArray, List.map_cons, List.map_nil]); first | done | rfl | (simp only [List.length_drop, List.length_take]; rfl)) ?_; (with_reducible refine (impl_Escaped.calls a0 a1 t103 _ A6.out ?tabTabD ?tabTabU).mono ?_); (case tabTabD => first | exact HTabD | exact ⟨Own.TabAt.below HTabD.out (by repeat (first | (with_reducible first | exact HB.out | apply below_alloc | apply pw_below_drewN | apply below_drew1) | exact HB.out))⟩ | exact ⟨Own.TabAt.drawn HTabD.out (by repeat (first | exact Drawn0.refl _ | apply Drawn0.step))⟩); (case tabTabU => first | exact HTabU | exact ⟨Own.TabAt.below HTabU.out (by repeat (first | (with_reducible first | exact HB.out | apply below_alloc | apply pw_below_drewN | apply below_drew1) | exact HB.out))⟩ | exact ⟨Own.TabAt.drawn HTabU.out (by repeat (first | exact Drawn0.refl _ | apply Drawn0.step))⟩); rintro e w' ⟨rfl, ⟨nd, rfl⟩⟩; refine ⟨_, rfl, ?_⟩))
          go_ret
          exact ⟨by first | rfl | (simp [errW_none, errW_some] <;> rfl) | (simp [*, errW_none, errW_some] <;> rfl), by repeat (first | (with_reducible first | exact HB.out | apply below_alloc | apply pw_below_drewN | apply below_drew1) | exact HB.out)⟩
        · rw [if_neg c7] at H
          have c7b0 : decide (a0 ≤ 32) = false := decide_eq_false c7
          clear c7
          by_cases c8 : a0 ≥ 127
          · rw [if_pos c8] at H
            have c8b0 : decide (127 ≤ a0) = true := decide_eq_true c8
            clear c8
            obtain rfl := Option.some.inj H
            go_wp2_with (first | ((with_reducible refine gate_callee (f := 7) rfl ?_); refine goesL_ (some 14) rfl rfl Tryd.func7 (by kernel_rfl) rfl #[.int .u8 a0, .int .i64 a1] rfl (by (try simp only [List.map_toArray, List.map_cons, List.map_nil]); first | done | rfl | (simp only [List.length_drop, List.length_take]; rfl)) ?_; (with_reducible refine (impl_Escaped.calls a0 a1 t103 _ A6.out ?tabTabD ?tabTabU).mono ?_); (case tabTabD => first | exact HTabD | exact ⟨Own.TabAt.below HTabD.out (by repeat (first | (with_reducible first | exact HB.out | apply below_alloc | apply pw_below_drewN | apply below_drew1) | exact HB.out))⟩ | exact ⟨Own.TabAt.drawn HTabD.out (by repeat (first | exact Drawn0.refl _ | apply Drawn0.step))⟩); (case tabTabU => first | exact HTabU | exact ⟨Own.TabAt.below HTabU.out (by repeat (first | (with_reducible first | exact HB.out | apply below_alloc | apply pw_below_drewN | apply below_drew1) | exact HB.out))⟩ | exact ⟨Own.TabAt.drawn HTabU.out (by repeat (first | exact Drawn0.refl _ | apply Drawn0.step))⟩); rintro e w' ⟨rfl, ⟨nd, rfl⟩⟩; refine ⟨_, rfl, ?_⟩))
            go_ret
            exact ⟨by first | rfl | (simp [errW_none, errW_some] <;> rfl) | (simp [*, errW_none, errW_some] <;> rfl), by repeat (first | (with_reducible first | exact HB.out | apply below_alloc | apply pw_below_drewN | apply below_drew1) | exact HB.out)⟩
          · rw [if_neg c8] at H
            have c8b0 : decide (127 ≤ a0) = false := decide_eq_false c8
            clear c8
            by_cases c9 : a0 = 37
            · rw [if_pos c9] at H
              have c9b0 : (a0 == 37) = true := beq_iff_eq.mpr c9
              have c9b1 : (a0 != 37) = false := bne_eq_false_iff_eq.mpr c9
              clear c9
              obtain rfl := Option.some.inj H
              go_wp2_with (first | ((with_reducible refine gate_callee (f := 7) rfl ?_); refine goesL_ (some 14) rfl rfl Tryd.func7 (by kernel_rfl) rfl #[.int .u8 a0, .int .i64 a1] rfl (by (try simp only [List.map_toArray, List.map_cons, List.map_nil]); first | done | rfl | (simp only [List.length_drop, List.length_take]; rfl)) ?_; (with_reducible refine (impl_Escaped.calls a0 a1 t103 _ A6.out ?tabTabD ?tabTabU).mono ?_); (case tabTabD => first | exact HTabD | exact ⟨Own.TabAt.below HTabD.out (by repeat (first | (with_reducible first | exact HB.out | apply below_alloc | apply pw_below_drewN | apply below_drew1) | exact HB.out))⟩ | exact ⟨Own.TabAt.drawn HTabD.out (by repeat (first | exact Drawn0.refl _ | apply Drawn0.step))⟩); (case tabTabU => first | exact HTabU | exact ⟨Own.TabAt.below HTabU.out (by repeat (first | (with_reducible first | exact HB.out | apply below_alloc | apply pw_below_drewN | apply below_drew1) | exact HB.out))⟩ | exact ⟨Own.TabAt.drawn HTabU.out (by repeat (first | exact Drawn0.refl _ | apply Drawn0.step))⟩); rintro e w' ⟨rfl, ⟨nd, rfl⟩⟩; refine ⟨_, rfl, ?_⟩))
              go_ret
              exact ⟨by first | rfl | (simp [errW_none, errW_some] <;> rfl) | (simp [*, errW_none, errW_some] <;> rfl), by repeat (first | (with_reducible first | exact HB.out | apply below_alloc | apply pw_below_drewN | apply below_drew1) | exact HB.out)⟩
            · rw [if_neg c9] at H
              have c9b0 : (a0 == 37) = false := beq_eq_false_iff_ne.mpr c9
              have c9b1 : (a0 != 37) = true := bne_iff_ne.mpr c9
              by_cases c10 : a0 = 35
              · rw [if_pos c10] at H
                have c10b0 : (a0 == 35) = true := beq_iff_eq.mpr c10
                have c10b1 : (a0 != 35) = false := bne_eq_false_iff_eq.mpr c10
                clear c10
                obtain rfl := Option.some.inj H
                go_wp2_with (first | ((with_reducible refine gate_callee (f := 7) rfl ?_); refine goesL_ (some 14) rfl rfl Tryd.func7 (by kernel_rfl) rfl #[.int .u8 a0, .int .i64 a1] rfl (by (try simp only [List.map_toArray, List.map_cons, List.map_nil]); first | done | rfl | (simp only [List.length_drop, List.length_take]; rfl)) ?_; (with_reducible refine (impl_Escaped.calls a0 a1 t103 _ A6.out ?tabTabD ?tabTabU).mono ?_); (case tabTabD => first | exact HTabD | exact ⟨Own.TabAt.below HTabD.out (by repeat (first | (with_reducible first | exact HB.out | apply below_alloc | apply pw_below_drewN | apply below_drew1) | exact HB.out))⟩ | exact ⟨Own.TabAt.drawn HTabD.out (by repeat (first | exact Drawn0.refl _ | apply Drawn0.step))⟩); (case tabTabU => first | exact HTabU | exact ⟨Own.TabAt.below HTabU.out (by repeat (first | (with_reducible first | exact HB.out | apply below_alloc | apply pw_below_drewN | apply below_drew1) | exact HB.out))⟩ | exact ⟨Own.TabAt.drawn HTabU.out (by repeat (first | exact Drawn0.refl _ | apply Drawn0.step))⟩); rintro e w' ⟨rfl, ⟨nd, rfl⟩⟩; refine ⟨_, rfl, ?_⟩))
                go_ret
                exact ⟨by first | rfl | (simp [errW_none, errW_some] <;> rfl) | (simp [*, errW_none, errW_some] <;> rfl), by repeat (first | (with_reducible first | exact HB.out | apply below_alloc | apply pw_below_drewN | apply below_drew1) | exact HB.out)⟩
              · rw [if_neg c10] at H
                have c10b0 : (a0 == 35) = false := beq_eq_false_iff_ne.mpr c10
                have c10b1 : (a0 != 35) = true := bne_iff_ne.mpr c10
                by_cases c11 : t103 = true
                · subst c11
                  have H1 : ((laws_simple.f kj2 (([a0] : List Int))).bind fun t107 => (some (!t107))) = some r := by rw [if_pos rfl] at H; exact H
                  clear H
                  have H := H1
                  clear H1
                  obtain ⟨y104, hy104⟩ : ∃ y_ : List Int, y_ = (([a0] : List Int)) := ⟨_, rfl⟩
                  replace H : ((laws_simple.f kj2 y104).bind fun t107 => (some (!t107))) = some r := by first | (rw [hy104]; with_reducible exact H) | (have H2_ := (Option.bind_some _ _).symm.trans H; rw [hy104]; with_reducible exact H2_) | (have H2_ := (Option.bind_some _ _).symm.trans H; with_reducible exact H2_) | with_reducible exact H | (rw [hy104]; exact H) | exact H
                  have Ny104 := Aside0.mk hy104
                  clear hy104
                  replace H := Option.bind_eq_some_iff.mp H
                  obtain ⟨t107, A120, H⟩ := H
                  replace H : (some (!t107)) = some r := H
                  have A12 := Aside0.mk A120
                  clear A120
                  obtain rfl := Option.some.inj H
                  go_wp2_with (first | ((with_reducible refine gate_callee (f := 7) rfl ?_); refine goesL_ (some 14) rfl rfl Tryd.func7 (by kernel_rfl) rfl #[.int .u8 a0, .int .i64 a1] rfl (by (try simp only [List.map_toArray, List.map_cons, List.map_nil]); first | done | rfl | (simp only [List.length_drop, List.length_take]; rfl)) ?_; (with_reducible refine (impl_Escaped.calls a0 a1 true _ A6.out ?tabTabD ?tabTabU).mono ?_); (case tabTabD => first | exact HTabD | exact ⟨Own.TabAt.below HTabD.out (by repeat (first | (with_reducible first | exact HB.out | apply below_alloc | apply pw_below_drewN | apply below_drew1) | exact HB.out))⟩ | exact ⟨Own.TabAt.drawn HTabD.out (by repeat (first | exact Drawn0.refl _ | apply Drawn0.step))⟩); (case tabTabU => first | exact HTabU | exact ⟨Own.TabAt.below HTabU.out (by repeat (first | (with_reducible first | exact HB.out | apply below_alloc | apply pw_below_drewN | apply below_drew1) | exact HB.out))⟩ | exact ⟨Own.TabAt.drawn HTabU.out (by repeat (first | exact Drawn0.refl _ | apply Drawn0.step))⟩); rintro e w' ⟨rfl, ⟨nd, rfl⟩⟩; refine ⟨_, rfl, ?_⟩) | ((with_reducible refine gate_dst (N := 34) rfl ?_); (try (refine gate_guard (by rfl) ?_; dsimp only)); refine Kd.R_lit (Kd.int .u8) _ 5 ?hg (N := 34) ?hd (xs := ([a0] : List Int)) (inner := [.int .u8 a0]) (ok := fun _ => True) (okp := fun _ => True) ?hr ?hp (fun _ hk => hk) trivial (Below.refl _ _) (Nat.le_refl _) (by simp) ?_; (case hd => rfl); (case hg => rfl); (case hr => first | (go_simp; done) | (go_simp; rfl)); (case hp => exact (Reps.one (show Kd.M (Kd.int .u8) _ _ _ a0 [.int .u8 a0] from rfl) (Reps.none _ _))); intro v105 w13 ho14 hb hg_ hnew_; clear hg_ hnew_; (first | rw [← Ny104.out] at ho14 | (simp only [Int.reduceToNat] at ho14; rw [← Ny104.out] at ho14)); have n0_ := Aside0.mk (Kd.R_lower ho14 (below_size (by repeat (first | (with_reducible first | exact HB.out | apply below_alloc | apply pw_below_drewN | apply below_drew1) | exact HB.out)))); have n1_ := Aside0.mk (below_step (by repeat (first | (with_reducible first | exact HB.out | apply below_alloc | apply pw_below_drewN | apply below_drew1) | exact HB.out)) hb); clear HB; have HO106 := n0_; have HB := n1_; clear n0_ n1_; clear hb ho14; obtain ⟨Ao15, co15, eo15⟩ := Kd.R_slice HO106.out; subst eo15) | (go_at_call 8; (with_reducible refine (laws_simple.calls kj2 _ _ y104 t107 _ ?side1 ?side2 A12.out).mono ?_); (case side1 => repeat (first | exact (Kd.R_reads' HO106.out).2.2 | (with_reducible refine Kd.C_alloc ?_ _) | (with_reducible refine Kd.C_drewN ?_ _) | (with_reducible refine Kd.C_drew ?_))); (case side2 => exact (Kd.R_reads' HO106.out).2.1); rintro e w' ⟨rfl, ⟨nd, rfl⟩⟩))
                  go_ret
                  exact ⟨by first | rfl | (simp [errW_none, errW_some] <;> rfl) | (simp [*, errW_none, errW_some] <;> rfl), by repeat (first | (with_reducible first | exact HB.out | apply below_alloc | apply pw_below_drewN | apply below_drew1) | exact HB.out)⟩
                · replace c11 := Bool.eq_false_iff.mpr c11
                  subst c11
                  have H1 : (some true) = some r := by rw [if_neg (show ¬ (false = true) by decide)] at H; exact H
                  clear H
                  have H := H1
                  clear H1
                  obtain rfl := Option.some.inj H
                  go_wp2_with (first | ((with_reducible refine gate_callee (f := 7) rfl ?_); refine goesL_ (some 14) rfl rfl Tryd.func7 (by kernel_rfl) rfl #[.int .u8 a0, .int .i64 a1] rfl (by (try simp only [List.map_toArray, List.map_cons, List.map_nil]); first | done | rfl | (simp only [List.length_drop, List.length_take]; rfl)) ?_; (with_reducible refine (impl_Escaped.calls a0 a1 false _ A6.out ?tabTabD ?tabTabU).mono ?_); (case tabTabD => first | exact HTabD | exact ⟨Own.TabAt.below HTabD.out (by repeat (first | (with_reducible first | exact HB.out | apply below_alloc | apply pw_below_drewN | apply below_drew1) | exact HB.out))⟩ | exact ⟨Own.TabAt.drawn HTabD.out (by repeat (first | exact Drawn0.refl _ | apply Drawn0.step))⟩); (case tabTabU => first | exact HTabU | exact ⟨Own.TabAt.below HTabU.out (by repeat (first | (with_reducible first | exact HB.out | apply below_alloc | apply pw_below_drewN | apply below_drew1) | exact HB.out))⟩ | exact ⟨Own.TabAt.drawn HTabU.out (by repeat (first | exact Drawn0.refl _ | apply Drawn0.step))⟩); rintro e w' ⟨rfl, ⟨nd, rfl⟩⟩; refine ⟨_, rfl, ?_⟩))
                  go_ret
                  exact ⟨by first | rfl | (simp [errW_none, errW_some] <;> rfl) | (simp [*, errW_none, errW_some] <;> rfl), by repeat (first | (with_reducible first | exact HB.out | apply below_alloc | apply pw_below_drewN | apply below_drew1) | exact HB.out)⟩

/-- THE ONE PURE STATEMENT of laws_FnUrlTable: yours. -/
def laws_FnUrlTable.Pure : Prop := ∀ (a0 : Int) (a1 : Int), (Lit.int .u8 a0).wf = true → (Lit.int .i64 a1).wf = true → ∃ k, laws_FnUrlTable.f k a0 a1 = some true
theorem laws_FnUrlTable.walk (P : laws_FnUrlTable.Pure) (a0 : Int) (a1 : Int) (w : World) (w0 : (Lit.int .u8 a0).wf = true) (w1 : (Lit.int .i64 a1).wf = true) (HTabD : Aside0 (Own.TabD w)) (HTabU : Aside0 (Own.TabU w)) :
    Calls Tryd.prog 3 #[.int .u8 a0, .int .i64 a1] w fun e w' => e = .returned (.bool true) ∧ Below w.heap.size w w' := by
  obtain ⟨k, h⟩ := P a0 a1 w0 w1
  refine (laws_FnUrlTable.calls k a0 a1 true w h HTabD HTabU).mono ?_
  rintro e w' ⟨rfl, hd⟩
  exact ⟨rfl, hd⟩

end Go.Proofs.YtcghdanppdmfeaaDoor.PFnUrlTable
