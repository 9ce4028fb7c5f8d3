-- Laid by a program of this session, out of the translation's print.
import Derived.Test.YtbpmfmkdpjajhaaPFnDecimalx0
namespace Go.Proofs.Ytbpmfmkdpjajhaa.PFnDecimal
open Go.Proofs.Ytbpmfmkdpjajhaa.Own
open Go.RowKit Go.Proofs.YtbpmfmkdpjajhaaW.PrintWords Go.Proofs.YtbpmfmkdpjajhaaW.PrintLast Go.Proofs.YtbpmfmkdpjajhaaW.PrintMore
attribute [local go_sem] max2_int min2_int max_two min_two max_three min_three max_four min_four   -- for this text's walks alone
set_option linter.unusedVariables false
set_option linter.unusedSimpArgs false

/-! ### tdjs_AsDecimalLiteral: function 45 -/
mutual
def tdjs_AsDecimalLiteral.j0 : Nat → List Int → Bool → Option (Bool)
  | 0, _, _ => none
  | k + 1, x0, x29 => if x29 = true then (some false) else (if 0 < (x0.length : Int) then (if (rd x0 0) = 48 then (some ((x0.length : Int) == 1)) else (tdjs_AsDecimalLiteral.l0 k x0 1)) else (none))
def tdjs_AsDecimalLiteral.j2 : Nat → List Int → Int → Option (Bool)
  | 0, _, _ => none
  | k + 1, x0, x3 => if x3 < (x0.length : Int) then (if 0 ≤ x3 then (if (rd x0 x3) = 46 then (if 0 < (x0.length : Int) then (tdjs_AsDecimalLiteral.j3 k x0 x3 ((rd x0 0) != 46)) else (none)) else (tdjs_AsDecimalLiteral.j3 k x0 x3 false)) else (none)) else (tdjs_AsDecimalLiteral.j3 k x0 x3 false)
def tdjs_AsDecimalLiteral.j3 : Nat → List Int → Int → Bool → Option (Bool)
  | 0, _, _, _ => none
  | k + 1, x0, x3, x73 => if x73 = true then (tdjs_AsDecimalLiteral.l1 k x0 (wrap64 (x3 + 1))) else (some (x3 == (x0.length : Int)))
def tdjs_AsDecimalLiteral.l1 : Nat → List Int → Int → Option (Bool)
  | 0, _, _ => none
  | k + 1, x0, x3 => if x3 < (x0.length : Int) then (if 0 ≤ x3 then (if 48 ≤ (rd x0 x3) then (if (rd x0 x3) ≤ 57 then (tdjs_AsDecimalLiteral.l1 k x0 (wrap64 (x3 + 1))) else (some (x3 == (x0.length : Int)))) else (some (x3 == (x0.length : Int)))) else (none)) else (some (x3 == (x0.length : Int)))
def tdjs_AsDecimalLiteral.l0 : Nat → List Int → Int → Option (Bool)
  | 0, _, _ => none
  | k + 1, x0, x3 => if x3 < (x0.length : Int) then (if 0 ≤ x3 then (if 48 ≤ (rd x0 x3) then (if (rd x0 x3) ≤ 57 then (tdjs_AsDecimalLiteral.l0 k x0 (wrap64 (x3 + 1))) else (tdjs_AsDecimalLiteral.j2 k x0 x3)) else (tdjs_AsDecimalLiteral.j2 k x0 x3)) else (none)) else (tdjs_AsDecimalLiteral.j2 k x0 x3)
end
def tdjs_AsDecimalLiteral.f (k : Nat) (l0 : List Int) : Option (Bool) := if (l0.length : Int) = 0 then (tdjs_AsDecimalLiteral.j0 k l0 true) else (if 0 < (l0.length : Int) then (if (rd l0 0) < 48 then (if (rd l0 0) = 46 then (tdjs_AsDecimalLiteral.j0 k l0 ((l0.length : Int) == 1)) else (tdjs_AsDecimalLiteral.j0 k l0 true)) else (if 57 < (rd l0 0) then (if (rd l0 0) = 46 then (tdjs_AsDecimalLiteral.j0 k l0 ((l0.length : Int) == 1)) else (tdjs_AsDecimalLiteral.j0 k l0 true)) else (tdjs_AsDecimalLiteral.j0 k l0 false))) else (none))
theorem tdjs_AsDecimalLiteral.mono_l : ∀ k, (∀ y0 y1, LeO (tdjs_AsDecimalLiteral.j0 k y0 y1) (tdjs_AsDecimalLiteral.j0 (k + 1) y0 y1)) ∧ (∀ y0 y1, LeO (tdjs_AsDecimalLiteral.j2 k y0 y1) (tdjs_AsDecimalLiteral.j2 (k + 1) y0 y1)) ∧ (∀ y0 y1 y2, LeO (tdjs_AsDecimalLiteral.j3 k y0 y1 y2) (tdjs_AsDecimalLiteral.j3 (k + 1) y0 y1 y2)) ∧ (∀ y0 y1, LeO (tdjs_AsDecimalLiteral.l1 k y0 y1) (tdjs_AsDecimalLiteral.l1 (k + 1) y0 y1)) ∧ (∀ y0 y1, LeO (tdjs_AsDecimalLiteral.l0 k y0 y1) (tdjs_AsDecimalLiteral.l0 (k + 1) y0 y1))
  | 0 => ⟨fun _ _ r h => by simp [tdjs_AsDecimalLiteral.j0] at h, fun _ _ r h => by simp [tdjs_AsDecimalLiteral.j2] at h, fun _ _ _ r h => by simp [tdjs_AsDecimalLiteral.j3] at h, fun _ _ r h => by simp [tdjs_AsDecimalLiteral.l1] at h, fun _ _ r h => by simp [tdjs_AsDecimalLiteral.l0] at h⟩
  | k + 1 => by
    obtain ⟨ih0, ih1, ih2, ih3, ih4⟩ := tdjs_AsDecimalLiteral.mono_l k
    refine ⟨?_, ?_, ?_, ?_, ?_⟩
    · intro y0 y1
      unfold tdjs_AsDecimalLiteral.j0
      repeat' first
      | (with_reducible exact ih0 _ _)
      | (with_reducible exact ih1 _ _)
      | (with_reducible exact ih2 _ _ _)
      | (with_reducible exact ih3 _ _)
      | (with_reducible exact ih4 _ _)
      | (with_reducible exact LeO.refl _)
      | (with_reducible exact LeO.none _)
      | (with_reducible refine LeO.ite ?_ ?_)
      | (with_reducible refine LeO.bind ?_ (fun _ => ?_))
      | exact ih0 _ _
      | exact ih1 _ _
      | exact ih2 _ _ _
      | exact ih3 _ _
      | exact ih4 _ _
      | exact LeO.none _
      | refine LeO.ite ?_ ?_
      | refine LeO.bind ?_ (fun _ => ?_)
    · intro y0 y1
      unfold tdjs_AsDecimalLiteral.j2
      repeat' first
      | (with_reducible exact ih0 _ _)
      | (with_reducible exact ih1 _ _)
      | (with_reducible exact ih2 _ _ _)
      | (with_reducible exact ih3 _ _)
      | (with_reducible exact ih4 _ _)
      | (with_reducible exact LeO.refl _)
      | (with_reducible exact LeO.none _)
      | (with_reducible refine LeO.ite ?_ ?_)
      | (with_reducible refine LeO.bind ?_ (fun _ => ?_))
      | exact ih0 _ _
      | exact ih1 _ _
      | exact ih2 _ _ _
      | exact ih3 _ _
      | exact ih4 _ _
      | exact LeO.none _
      | refine LeO.ite ?_ ?_
      | refine LeO.bind ?_ (fun _ => ?_)
    · intro y0 y1 y2
      unfold tdjs_AsDecimalLiteral.j3
      repeat' first
      | (with_reducible exact ih0 _ _)
      | (with_reducible exact ih1 _ _)
      | (with_reducible exact ih2 _ _ _)
      | (with_reducible exact ih3 _ _)
      | (with_reducible exact ih4 _ _)
      | (with_reducible exact LeO.refl _)
      | (with_reducible exact LeO.none _)
      | (with_reducible refine LeO.ite ?_ ?_)
      | (with_reducible refine LeO.bind ?_ (fun _ => ?_))
      | exact ih0 _ _
      | exact ih1 _ _
      | exact ih2 _ _ _
      | exact ih3 _ _
      | exact ih4 _ _
      | exact LeO.none _
      | refine LeO.ite ?_ ?_
      | refine LeO.bind ?_ (fun _ => ?_)
    · intro y0 y1
      unfold tdjs_AsDecimalLiteral.l1
      repeat' first
      | (with_reducible exact ih0 _ _)
      | (with_reducible exact ih1 _ _)
      | (with_reducible exact ih2 _ _ _)
      | (with_reducible exact ih3 _ _)
      | (with_reducible exact ih4 _ _)
      | (with_reducible exact LeO.refl _)
      | (with_reducible exact LeO.none _)
      | (with_reducible refine LeO.ite ?_ ?_)
      | (with_reducible refine LeO.bind ?_ (fun _ => ?_))
      | exact ih0 _ _
      | exact ih1 _ _
      | exact ih2 _ _ _
      | exact ih3 _ _
      | exact ih4 _ _
      | exact LeO.none _
      | refine LeO.ite ?_ ?_
      | refine LeO.bind ?_ (fun _ => ?_)
    · intro y0 y1
      unfold tdjs_AsDecimalLiteral.l0
      repeat' first
      | (with_reducible exact ih0 _ _)
      | (with_reducible exact ih1 _ _)
      | (with_reducible exact ih2 _ _ _)
      | (with_reducible exact ih3 _ _)
      | (with_reducible exact ih4 _ _)
      | (with_reducible exact LeO.refl _)
      | (with_reducible exact LeO.none _)
      | (with_reducible refine LeO.ite ?_ ?_)
      | (with_reducible refine LeO.bind ?_ (fun _ => ?_))
      | exact ih0 _ _
      | exact ih1 _ _
      | exact ih2 _ _ _
      | exact ih3 _ _
      | exact ih4 _ _
      | exact LeO.none _
      | refine LeO.ite ?_ ?_
      | refine LeO.bind ?_ (fun _ => ?_)
theorem tdjs_AsDecimalLiteral.mono : ∀ a0 k, LeO (tdjs_AsDecimalLiteral.f k a0) (tdjs_AsDecimalLiteral.f (k + 1) a0) := by
  intro a0 k
  obtain ⟨ih0, ih1, ih2, ih3, ih4⟩ := tdjs_AsDecimalLiteral.mono_l k
  unfold tdjs_AsDecimalLiteral.f
  repeat' first
      | (with_reducible exact ih0 _ _)
      | (with_reducible exact ih1 _ _)
      | (with_reducible exact ih2 _ _ _)
      | (with_reducible exact ih3 _ _)
      | (with_reducible exact ih4 _ _)
      | (with_reducible exact LeO.refl _)
      | (with_reducible exact LeO.none _)
      | (with_reducible refine LeO.ite ?_ ?_)
      | (with_reducible refine LeO.bind ?_ (fun _ => ?_))
      | exact ih0 _ _
      | exact ih1 _ _
      | exact ih2 _ _ _
      | exact ih3 _ _
      | exact ih4 _ _
      | exact LeO.none _
      | refine LeO.ite ?_ ?_
      | refine LeO.bind ?_ (fun _ => ?_)
set_option maxHeartbeats 8000000 in
set_option maxRecDepth 100000 in
theorem tdjs_AsDecimalLiteral.calls (k : Nat) (A0 : Option Addr) (c0 : Nat) (l0 : List Int) (r : Bool) (w : World) (hr0 : Kd.C (Kd.int .u8) w A0 l0.length l0) (hc0 : l0.length ≤ c0) (h : tdjs_AsDecimalLiteral.f k l0 = some r) :
    Calls Try.prog 45 #[.slice A0 l0.length c0] w fun e w' => e = .returned (.bool r) ∧ Drawn0 w w' := by
  have HR0 := Aside0.mk hr0
  have HC0 := Aside0.mk hc0
  clear hr0 hc0
  have H : (if (l0.length : Int) = 0 then (tdjs_AsDecimalLiteral.j0 k l0 true) else (if 0 < (l0.length : Int) then (if (rd l0 0) < 48 then (if (rd l0 0) = 46 then (tdjs_AsDecimalLiteral.j0 k l0 ((l0.length : Int) == 1)) else (tdjs_AsDecimalLiteral.j0 k l0 true)) else (if 57 < (rd l0 0) then (if (rd l0 0) = 46 then (tdjs_AsDecimalLiteral.j0 k l0 ((l0.length : Int) == 1)) else (tdjs_AsDecimalLiteral.j0 k l0 true)) else (tdjs_AsDecimalLiteral.j0 k l0 false))) else (none))) = some r := h
  clear h
  have HC2 := Aside0.mk H
  clear H
  go_enter Try.func45, Try.ntmps45
  go_upto_region 1 with (fail)
  go_cut [29] (fun v29 wc => ∃ (kq : Nat) (x29_1 : Bool), v29 = .bool x29_1 ∧ Aside0 (tdjs_AsDecimalLiteral.j0 kq l0 x29_1 = some r) ∧ Aside0 (kq ≤ k) ∧ Drawn0 w wc)
  case first =>
    have H := HC2.out
    clear HC2
    by_cases c3 : (l0.length : Int) = 0
    · rw [if_pos c3] at H
      have c3b0 : ((l0.length : Int) == 0) = true := beq_iff_eq.mpr c3
      have c3b1 : ((l0.length : Int) != 0) = false := bne_eq_false_iff_eq.mpr c3
      clear c3
      (first | rw [c3b0] | (simp only [i64_w, i32_w]; rw [c3b0]) | skip)
      have H' := Aside0.mk H
      clear H
      go_wp2
      go_meet
      case rel => exact ⟨_, (true), (by first | rfl | (simp; done) | (simp [*]; done)), H', ⟨by first | omega | exact Nat.le_refl _⟩, by repeat (first | exact Drawn0.refl _ | apply Drawn0.step)⟩
    · rw [if_neg c3] at H
      have c3b0 : ((l0.length : Int) == 0) = false := beq_eq_false_iff_ne.mpr c3
      have c3b1 : ((l0.length : Int) != 0) = true := bne_iff_ne.mpr c3
      have c3b2 : ¬ (l0 = []) := fun h_ => c3 (by rw [h_]; rfl)
      (first | rw [c3b0] | (simp only [i64_w, i32_w]; rw [c3b0]) | skip)
      by_cases c4 : 0 < (l0.length : Int)
      · rw [if_pos c4] at H
        have c4b0 : decide (0 < (l0.length : Int)) = true := decide_eq_true c4
        have c4b1 : decide (0 < l0.length) = true := decide_eq_true (by omega)
        clear c4
        by_cases c5 : (rd l0 0) < 48
        · rw [if_pos c5] at H
          have c5b0 : decide ((rd l0 0) < 48) = true := decide_eq_true c5
          clear c5
          by_cases c6 : (rd l0 0) = 46
          · rw [if_pos c6] at H
            have c6b0 : ((rd l0 0) == 46) = true := beq_iff_eq.mpr c6
            have c6b1 : ((rd l0 0) != 46) = false := bne_eq_false_iff_eq.mpr c6
            clear c6
            have H' := Aside0.mk H
            clear H
            have p104 : 0 ≤ (0 : Int) := (by omega)
            have q104 : 0 < (l0.length : Int) := of_decide_eq_true (by first | (with_reducible assumption) | assumption)
            obtain ⟨ad104, e104, hx104_0⟩ := Kd.at_int HR0.out 0 p104 q104
            cases e104
            have qi104 : (0 < l0.length) = True := eq_true (by omega)
            (try rw [show ((0 : Int)).toNat = 0 from rfl] at hx104_0)
            (try rw [Addr.add_zero'] at hx104_0)
            replace p104 := eq_true p104
            replace q104 := eq_true q104
            have p105 : 0 ≤ (0 : Int) := (by omega)
            have q105 : 0 < (l0.length : Int) := of_decide_eq_true (by first | (with_reducible assumption) | assumption)
            obtain ⟨ad105, e105, hx105_0⟩ := Kd.at_int HR0.out 0 p105 q105
            obtain rfl : ad104 = ad105 := (by injection e105)
            have qi105 : (0 < l0.length) = True := eq_true (by omega)
            (try rw [show ((0 : Int)).toNat = 0 from rfl] at hx105_0)
            (try rw [Addr.add_zero'] at hx105_0)
            replace p105 := eq_true p105
            replace q105 := eq_true q105
            go_wp2
            go_meet
            case rel => exact ⟨_, (((l0.length : Int) == 1)), (by first | rfl | (simp; done) | (simp [*]; done)), H', ⟨by first | omega | exact Nat.le_refl _⟩, by repeat (first | exact Drawn0.refl _ | apply Drawn0.step)⟩
          · rw [if_neg c6] at H
            have c6b0 : ((rd l0 0) == 46) = false := beq_eq_false_iff_ne.mpr c6
            have c6b1 : ((rd l0 0) != 46) = true := bne_iff_ne.mpr c6
            have H' := Aside0.mk H
            clear H
            have p104 : 0 ≤ (0 : Int) := (by omega)
            have q104 : 0 < (l0.length : Int) := of_decide_eq_true (by first | (with_reducible assumption) | assumption)
            obtain ⟨ad104, e104, hx104_0⟩ := Kd.at_int HR0.out 0 p104 q104
            cases e104
            have qi104 : (0 < l0.length) = True := eq_true (by omega)
            (try rw [show ((0 : Int)).toNat = 0 from rfl] at hx104_0)
            (try rw [Addr.add_zero'] at hx104_0)
            replace p104 := eq_true p104
            replace q104 := eq_true q104
            have p105 : 0 ≤ (0 : Int) := (by omega)
            have q105 : 0 < (l0.length : Int) := of_decide_eq_true (by first | (with_reducible assumption) | assumption)
            obtain ⟨ad105, e105, hx105_0⟩ := Kd.at_int HR0.out 0 p105 q105
            obtain rfl : ad104 = ad105 := (by injection e105)
            have qi105 : (0 < l0.length) = True := eq_true (by omega)
            (try rw [show ((0 : Int)).toNat = 0 from rfl] at hx105_0)
            (try rw [Addr.add_zero'] at hx105_0)
            replace p105 := eq_true p105
            replace q105 := eq_true q105
            go_wp2
            go_meet
            case rel => exact ⟨_, (true), (by first | rfl | (simp; done) | (simp [*]; done)), H', ⟨by first | omega | exact Nat.le_refl _⟩, by repeat (first | exact Drawn0.refl _ | apply Drawn0.step)⟩
        · rw [if_neg c5] at H
          have c5b0 : decide ((rd l0 0) < 48) = false := decide_eq_false c5
          clear c5
          by_cases c7 : 57 < (rd l0 0)
          · rw [if_pos c7] at H
            have c7b0 : decide (57 < (rd l0 0)) = true := decide_eq_true c7
            clear c7
            by_cases c8 : (rd l0 0) = 46
            · rw [if_pos c8] at H
              have c8b0 : ((rd l0 0) == 46) = true := beq_iff_eq.mpr c8
              have c8b1 : ((rd l0 0) != 46) = false := bne_eq_false_iff_eq.mpr c8
              clear c8
              have H' := Aside0.mk H
              clear H
              have p104 : 0 ≤ (0 : Int) := (by omega)
              have q104 : 0 < (l0.length : Int) := of_decide_eq_true (by first | (with_reducible assumption) | assumption)
              obtain ⟨ad104, e104, hx104_0⟩ := Kd.at_int HR0.out 0 p104 q104
              cases e104
              have qi104 : (0 < l0.length) = True := eq_true (by omega)
              (try rw [show ((0 : Int)).toNat = 0 from rfl] at hx104_0)
              (try rw [Addr.add_zero'] at hx104_0)
              replace p104 := eq_true p104
              replace q104 := eq_true q104
              have p106 : 0 ≤ (0 : Int) := (by omega)
              have q106 : 0 < (l0.length : Int) := of_decide_eq_true (by first | (with_reducible assumption) | assumption)
              obtain ⟨ad106, e106, hx106_0⟩ := Kd.at_int HR0.out 0 p106 q106
              obtain rfl : ad104 = ad106 := (by injection e106)
              have qi106 : (0 < l0.length) = True := eq_true (by omega)
              (try rw [show ((0 : Int)).toNat = 0 from rfl] at hx106_0)
              (try rw [Addr.add_zero'] at hx106_0)
              replace p106 := eq_true p106
              replace q106 := eq_true q106
              have p107 : 0 ≤ (0 : Int) := (by omega)
              have q107 : 0 < (l0.length : Int) := of_decide_eq_true (by first | (with_reducible assumption) | assumption)
              obtain ⟨ad107, e107, hx107_0⟩ := Kd.at_int HR0.out 0 p107 q107
              obtain rfl : ad104 = ad107 := (by injection e107)
              have qi107 : (0 < l0.length) = True := eq_true (by omega)
              (try rw [show ((0 : Int)).toNat = 0 from rfl] at hx107_0)
              (try rw [Addr.add_zero'] at hx107_0)
              replace p107 := eq_true p107
              replace q107 := eq_true q107
              go_wp2
              go_meet
              case rel => exact ⟨_, (((l0.length : Int) == 1)), (by first | rfl | (simp; done) | (simp [*]; done)), H', ⟨by first | omega | exact Nat.le_refl _⟩, by repeat (first | exact Drawn0.refl _ | apply Drawn0.step)⟩
            · rw [if_neg c8] at H
              have c8b0 : ((rd l0 0) == 46) = false := beq_eq_false_iff_ne.mpr c8
              have c8b1 : ((rd l0 0) != 46) = true := bne_iff_ne.mpr c8
              have H' := Aside0.mk H
              clear H
              have p104 : 0 ≤ (0 : Int) := (by omega)
              have q104 : 0 < (l0.length : Int) := of_decide_eq_true (by first | (with_reducible assumption) | assumption)
              obtain ⟨ad104, e104, hx104_0⟩ := Kd.at_int HR0.out 0 p104 q104
              cases e104
              have qi104 : (0 < l0.length) = True := eq_true (by omega)
              (try rw [show ((0 : Int)).toNat = 0 from rfl] at hx104_0)
              (try rw [Addr.add_zero'] at hx104_0)
              replace p104 := eq_true p104
              replace q104 := eq_true q104
              have p106 : 0 ≤ (0 : Int) := (by omega)
              have q106 : 0 < (l0.length : Int) := of_decide_eq_true (by first | (with_reducible assumption) | assumption)
              obtain ⟨ad106, e106, hx106_0⟩ := Kd.at_int HR0.out 0 p106 q106
              obtain rfl : ad104 = ad106 := (by injection e106)
              have qi106 : (0 < l0.length) = True := eq_true (by omega)
              (try rw [show ((0 : Int)).toNat = 0 from rfl] at hx106_0)
              (try rw [Addr.add_zero'] at hx106_0)
              replace p106 := eq_true p106
              replace q106 := eq_true q106
              have p107 : 0 ≤ (0 : Int) := (by omega)
              have q107 : 0 < (l0.length : Int) := of_decide_eq_true (by first | (with_reducible assumption) | assumption)
              obtain ⟨ad107, e107, hx107_0⟩ := Kd.at_int HR0.out 0 p107 q107
              obtain rfl : ad104 = ad107 := (by injection e107)
              have qi107 : (0 < l0.length) = True := eq_true (by omega)
              (try rw [show ((0 : Int)).toNat = 0 from rfl] at hx107_0)
              (try rw [Addr.add_zero'] at hx107_0)
              replace p107 := eq_true p107
              replace q107 := eq_true q107
              go_wp2
              go_meet
              case rel => exact ⟨_, (true), (by first | rfl | (simp; done) | (simp [*]; done)), H', ⟨by first | omega | exact Nat.le_refl _⟩, by repeat (first | exact Drawn0.refl _ | apply Drawn0.step)⟩
          · rw [if_neg c7] at H
            have c7b0 : decide (57 < (rd l0 0)) = false := decide_eq_false c7
            clear c7
            have H' := Aside0.mk H
            clear H
            have p104 : 0 ≤ (0 : Int) := (by omega)
            have q104 : 0 < (l0.length : Int) := of_decide_eq_true (by first | (with_reducible assumption) | assumption)
            obtain ⟨ad104, e104, hx104_0⟩ := Kd.at_int HR0.out 0 p104 q104
            cases e104
            have qi104 : (0 < l0.length) = True := eq_true (by omega)
            (try rw [show ((0 : Int)).toNat = 0 from rfl] at hx104_0)
            (try rw [Addr.add_zero'] at hx104_0)
            replace p104 := eq_true p104
            replace q104 := eq_true q104
            have p106 : 0 ≤ (0 : Int) := (by omega)
            have q106 : 0 < (l0.length : Int) := of_decide_eq_true (by first | (with_reducible assumption) | assumption)
            obtain ⟨ad106, e106, hx106_0⟩ := Kd.at_int HR0.out 0 p106 q106
            obtain rfl : ad104 = ad106 := (by injection e106)
            have qi106 : (0 < l0.length) = True := eq_true (by omega)
            (try rw [show ((0 : Int)).toNat = 0 from rfl] at hx106_0)
            (try rw [Addr.add_zero'] at hx106_0)
            replace p106 := eq_true p106
            replace q106 := eq_true q106
            go_wp2
            go_meet
            case rel => exact ⟨_, (false), (by first | rfl | (simp; done) | (simp [*]; done)), H', ⟨by first | omega | exact Nat.le_refl _⟩, by repeat (first | exact Drawn0.refl _ | apply Drawn0.step)⟩
      · rw [if_neg c4] at H
        exact absurd H (by simp)
  case rest =>
    clear HC2
    try clear p1
    try clear q1
    try clear hx1
    try clear qi1
    try clear p2
    try clear c3
    try clear c3b0
    try clear c3b1
    try clear c3b2
    try clear c4
    try clear c4b0
    try clear c4b1
    try clear c5
    try clear c5b0
    try clear c6
    try clear c6b0
    try clear c6b1
    try clear c7
    try clear c7b0
    try clear c8
    try clear c8b0
    try clear c8b1
    try clear hx104_0
    try clear hx105_0
    try clear hx106_0
    try clear hx107_0
    try clear p104
    try clear p105
    try clear p106
    try clear p107
    try clear q104
    try clear q105
    try clear q106
    try clear q107
    obtain ⟨kq, x29_1, rfl, HA, HJ1, ⟨mc1, rfl⟩⟩ := hcut
    cases kq with
    | zero => exact absurd HA.out (by simp [tdjs_AsDecimalLiteral.j0])
    | succ kj1 =>
      have H := HA.out
      clear HA
      simp only [tdjs_AsDecimalLiteral.j0] at H
      by_cases c9 : x29_1 = true
      · subst c9
        have H1 : (some false) = some r := by rw [if_pos rfl] at H; exact H
        clear H
        have H := H1
        clear H1
        obtain rfl := Option.some.inj H
        go_wp2
        go_ret
        exact ⟨by first | rfl | (simp; done) | (simp [*]; done), by repeat (first | exact Drawn0.refl _ | apply Drawn0.step)⟩
      · replace c9 := Bool.eq_false_iff.mpr c9
        subst c9
        have H1 : (if 0 < (l0.length : Int) then (if (rd l0 0) = 48 then (some ((l0.length : Int) == 1)) else (tdjs_AsDecimalLiteral.l0 kj1 l0 1)) else (none)) = some r := by rw [if_neg (show ¬ (false = true) by decide)] at H; exact H
        clear H
        have H := H1
        clear H1
        by_cases c10 : 0 < (l0.length : Int)
        · rw [if_pos c10] at H
          have c10b0 : decide (0 < (l0.length : Int)) = true := decide_eq_true c10
          have c10b1 : decide (0 < l0.length) = true := decide_eq_true (by omega)
          clear c10
          by_cases c11 : (rd l0 0) = 48
          · rw [if_pos c11] at H
            have c11b0 : ((rd l0 0) == 48) = true := beq_iff_eq.mpr c11
            have c11b1 : ((rd l0 0) != 48) = false := bne_eq_false_iff_eq.mpr c11
            clear c11
            obtain rfl := Option.some.inj H
            have p108 : 0 ≤ (0 : Int) := (by omega)
            have q108 : 0 < (l0.length : Int) := of_decide_eq_true (by first | (with_reducible assumption) | assumption)
            obtain ⟨ad108, e108, hx108_0⟩ := Kd.at_int HR0.out 0 p108 q108
            cases e108
            have qi108 : (0 < l0.length) = True := eq_true (by omega)
            (try rw [show ((0 : Int)).toNat = 0 from rfl] at hx108_0)
            (try rw [Addr.add_zero'] at hx108_0)
            replace p108 := eq_true p108
            replace q108 := eq_true q108
            go_wp2
            go_ret
            exact ⟨by first | rfl | (simp; done) | (simp [*]; done), by repeat (first | exact Drawn0.refl _ | apply Drawn0.step)⟩
          · rw [if_neg c11] at H
            have c11b0 : ((rd l0 0) == 48) = false := beq_eq_false_iff_ne.mpr c11
            have c11b1 : ((rd l0 0) != 48) = true := bne_iff_ne.mpr c11
            have HC12 := Aside0.mk H
            clear H
            have p108 : 0 ≤ (0 : Int) := (by omega)
            have q108 : 0 < (l0.length : Int) := of_decide_eq_true (by first | (with_reducible assumption) | assumption)
            obtain ⟨ad108, e108, hx108_0⟩ := Kd.at_int HR0.out 0 p108 q108
            cases e108
            have qi108 : (0 < l0.length) = True := eq_true (by omega)
            (try rw [show ((0 : Int)).toNat = 0 from rfl] at hx108_0)
            (try rw [Addr.add_zero'] at hx108_0)
            replace p108 := eq_true p108
            replace q108 := eq_true q108
            go_upto_block 0 with (fail)
            go_cut [3] (fun v3 wc => ∃ (kq : Nat) (x3_11 : Int), v3 = .int .i64 x3_11 ∧ Aside0 (tdjs_AsDecimalLiteral.j2 kq l0 x3_11 = some r) ∧ Aside0 (kq ≤ kj1) ∧ Drawn0 w wc)
            case first =>
              have H := HC12.out
              clear HC12
              have H' := Aside0.mk H
              clear H
              go_wp2
              go_loopg [3] kj1 (fun kq v3 w' => ∃ (x3_2 : Int), v3 = .int .i64 x3_2 ∧ Aside0 (tdjs_AsDecimalLiteral.l0 kq l0 x3_2 = some r) ∧ Aside0 (kq ≤ kj1) ∧ Drawn0 w w')
              case atStart => exact ⟨(1), (by first | rfl | (simp; done) | (simp [*]; done)), H', ⟨Nat.le_refl _⟩, by repeat (first | exact Drawn0.refl _ | apply Drawn0.step)⟩
              case round =>
                clear H'
                try clear c1
                try clear p1
                try clear q1
                try clear hx1
                try clear qi1
                try clear p2
                try clear c3
                try clear c3b0
                try clear c3b1
                try clear c3b2
                try clear c4
                try clear c4b0
                try clear c4b1
                try clear c5
                try clear c5b0
                try clear c6
                try clear c6b0
                try clear c6b1
                try clear c7
                try clear c7b0
                try clear c8
                try clear c8b0
                try clear c8b1
                try clear c9
                try clear c10
                try clear c10b0
                try clear c10b1
                try clear p10
                try clear q10
                try clear hx10
                try clear qi10
                try clear c11
                try clear c11b0
                try clear c11b1
                try clear hx104_0
                try clear hx105_0
                try clear hx106_0
                try clear hx107_0
                try clear hx108_0
                try clear p1
                try clear p104
                try clear p105
                try clear p106
                try clear p107
                try clear p108
                try clear p2
                try clear q1
                try clear q104
                try clear q105
                try clear q106
                try clear q107
                try clear q108
                obtain ⟨x3_2, rfl, HA, HK2, ⟨m2, rfl⟩⟩ := hrel
                cases gk with
                | zero => exact absurd HA.out (by simp [tdjs_AsDecimalLiteral.l0])
                | succ k2 =>
                  have H := HA.out
                  clear HA
                  simp only [tdjs_AsDecimalLiteral.l0] at H
                  by_cases c13 : x3_2 < (l0.length : Int)
                  · rw [if_pos c13] at H
                    have c13b0 : decide (x3_2 < (l0.length : Int)) = true := decide_eq_true c13
                    clear c13
                    (first | rw [c13b0] | (simp only [i64_w, i32_w]; rw [c13b0]) | skip)
                    by_cases c14 : 0 ≤ x3_2
                    · rw [if_pos c14] at H
                      have c14b0 : decide (0 ≤ x3_2) = true := decide_eq_true c14
                      clear c14
                      by_cases c15 : 48 ≤ (rd l0 x3_2)
                      · rw [if_pos c15] at H
                        have c15b0 : decide (48 ≤ (rd l0 x3_2)) = true := decide_eq_true c15
                        clear c15
                        by_cases c16 : (rd l0 x3_2) ≤ 57
                        · rw [if_pos c16] at H
                          have c16b0 : decide ((rd l0 x3_2) ≤ 57) = true := decide_eq_true c16
                          clear c16
                          have H' := Aside0.mk H
                          clear H
                          have p109 : 0 ≤ (x3_2 : Int) := of_decide_eq_true (by first | (with_reducible assumption) | assumption)
                          have q109 : x3_2 < (l0.length : Int) := of_decide_eq_true (by first | (with_reducible assumption) | assumption)
                          obtain ⟨ad109, e109, hx109_0⟩ := Kd.at_int HR0.out x3_2 p109 q109
                          obtain rfl : ad108 = ad109 := (by injection e109)
                          replace p109 := eq_true p109
                          replace q109 := eq_true q109
                          have p110 : 0 ≤ (x3_2 : Int) := of_decide_eq_true (by first | (with_reducible assumption) | assumption)
                          have q110 : x3_2 < (l0.length : Int) := of_decide_eq_true (by first | (with_reducible assumption) | assumption)
                          obtain ⟨ad110, e110, hx110_0⟩ := Kd.at_int HR0.out x3_2 p110 q110
                          obtain rfl : ad108 = ad110 := (by injection e110)
                          replace p110 := eq_true p110
                          replace q110 := eq_true q110
                          go_wp2
                          go_roundg k2
                          case measure => have := HJ1.out; have := HK2.out; omega
                          case rel => exact ⟨(wrap64 (x3_2 + 1)), (by first | rfl | (simp; done) | (simp [*]; done)), H', ⟨by have := HJ1.out; have := HK2.out; omega⟩, by repeat (first | exact Drawn0.refl _ | apply Drawn0.step)⟩
                        · rw [if_neg c16] at H
                          have c16b0 : decide ((rd l0 x3_2) ≤ 57) = false := decide_eq_false c16
                          clear c16
                          have H' := Aside0.mk H
                          clear H
                          have p109 : 0 ≤ (x3_2 : Int) := of_decide_eq_true (by first | (with_reducible assumption) | assumption)
                          have q109 : x3_2 < (l0.length : Int) := of_decide_eq_true (by first | (with_reducible assumption) | assumption)
                          obtain ⟨ad109, e109, hx109_0⟩ := Kd.at_int HR0.out x3_2 p109 q109
                          obtain rfl : ad108 = ad109 := (by injection e109)
                          replace p109 := eq_true p109
                          replace q109 := eq_true q109
                          have p110 : 0 ≤ (x3_2 : Int) := of_decide_eq_true (by first | (with_reducible assumption) | assumption)
                          have q110 : x3_2 < (l0.length : Int) := of_decide_eq_true (by first | (with_reducible assumption) | assumption)
                          obtain ⟨ad110, e110, hx110_0⟩ := Kd.at_int HR0.out x3_2 p110 q110
                          obtain rfl : ad108 = ad110 := (by injection e110)
                          replace p110 := eq_true p110
                          replace q110 := eq_true q110
                          go_wp2
                          go_meet
                          case rel => exact ⟨_, (x3_2), (by first | rfl | (simp; done) | (simp [*]; done)), H', ⟨by have := HJ1.out; have := HK2.out; first | omega | exact Nat.le_refl _⟩, by repeat (first | exact Drawn0.refl _ | apply Drawn0.step)⟩
                      · rw [if_neg c15] at H
                        have c15b0 : decide (48 ≤ (rd l0 x3_2)) = false := decide_eq_false c15
                        clear c15
                        have H' := Aside0.mk H
                        clear H
                        have p109 : 0 ≤ (x3_2 : Int) := of_decide_eq_true (by first | (with_reducible assumption) | assumption)
                        have q109 : x3_2 < (l0.length : Int) := of_decide_eq_true (by first | (with_reducible assumption) | assumption)
                        obtain ⟨ad109, e109, hx109_0⟩ := Kd.at_int HR0.out x3_2 p109 q109
                        obtain rfl : ad108 = ad109 := (by injection e109)
                        replace p109 := eq_true p109
                        replace q109 := eq_true q109
                        go_wp2
                        go_meet
                        case rel => exact ⟨_, (x3_2), (by first | rfl | (simp; done) | (simp [*]; done)), H', ⟨by have := HJ1.out; have := HK2.out; first | omega | exact Nat.le_refl _⟩, by repeat (first | exact Drawn0.refl _ | apply Drawn0.step)⟩
                    · rw [if_neg c14] at H
                      exact absurd H (by simp)
                  · rw [if_neg c13] at H
                    have c13b0 : decide (x3_2 < (l0.length : Int)) = false := decide_eq_false c13
                    clear c13
                    (first | rw [c13b0] | (simp only [i64_w, i32_w]; rw [c13b0]) | skip)
                    have H' := Aside0.mk H
                    clear H
                    go_wp2
                    go_meet
                    case rel => exact ⟨_, (x3_2), (by first | rfl | (simp; done) | (simp [*]; done)), H', ⟨by have := HJ1.out; have := HK2.out; first | omega | exact Nat.le_refl _⟩, by repeat (first | exact Drawn0.refl _ | apply Drawn0.step)⟩
            case rest =>
              clear HC12
              try clear c1
              try clear p1
              try clear q1
              try clear hx1
              try clear qi1
              try clear p2
              try clear c3
              try clear c3b0
              try clear c3b1
              try clear c3b2
              try clear c4
              try clear c4b0
              try clear c4b1
              try clear c5
              try clear c5b0
              try clear c6
              try clear c6b0
              try clear c6b1
              try clear p6
              try clear c7
              try clear c7b0
              try clear c8
              try clear c8b0
              try clear c8b1
              try clear c9
              try clear c10
              try clear c10b0
              try clear c10b1
              try clear p10
              try clear q10
              try clear hx10
              try clear qi10
              try clear c11
              try clear c11b0
              try clear c11b1
              try clear p11
              try clear q11
              try clear hx11
              try clear c13
              try clear c13b0
              try clear c14
              try clear c14b0
              try clear c15
              try clear c15b0
              try clear c16
              try clear c16b0
              try clear hx104_0
              try clear hx105_0
              try clear hx106_0
              try clear hx107_0
              try clear hx108_0
              try clear hx109_0
              try clear hx110_0
              try clear p1
              try clear p10
              try clear p104
              try clear p105
              try clear p106
              try clear p107
              try clear p108
              try clear p109
              try clear p110
              try clear p2
              try clear q1
              try clear q10
              try clear q104
              try clear q105
              try clear q106
              try clear q107
              try clear q108
              try clear q109
              try clear q110
              obtain ⟨kq, x3_11, rfl, HA, HJ11, ⟨mc11, rfl⟩⟩ := hcut
              cases kq with
              | zero => exact absurd HA.out (by simp [tdjs_AsDecimalLiteral.j2])
              | succ kj11 =>
                have H := HA.out
                clear HA
                simp only [tdjs_AsDecimalLiteral.j2] at H
                have HC17 := Aside0.mk H
                clear H
                go_upto_region 8 with (fail)
                go_cut [73] (fun v73 wc => ∃ (kq : Nat) (x73_16 : Bool), v73 = .bool x73_16 ∧ Aside0 (tdjs_AsDecimalLiteral.j3 kq l0 x3_11 x73_16 = some r) ∧ Aside0 (kq ≤ kj11) ∧ Drawn0 w wc)
                case first =>
                  have H := HC17.out
                  clear HC17
                  by_cases c18 : x3_11 < (l0.length : Int)
                  · rw [if_pos c18] at H
                    have c18b0 : decide (x3_11 < (l0.length : Int)) = true := decide_eq_true c18
                    clear c18
                    (first | rw [c18b0] | (simp only [i64_w, i32_w]; rw [c18b0]) | skip)
                    by_cases c19 : 0 ≤ x3_11
                    · rw [if_pos c19] at H
                      have c19b0 : decide (0 ≤ x3_11) = true := decide_eq_true c19
                      clear c19
                      by_cases c20 : (rd l0 x3_11) = 46
                      · rw [if_pos c20] at H
                        have c20b0 : ((rd l0 x3_11) == 46) = true := beq_iff_eq.mpr c20
                        have c20b1 : ((rd l0 x3_11) != 46) = false := bne_eq_false_iff_eq.mpr c20
                        clear c20
                        by_cases c21 : 0 < (l0.length : Int)
                        · rw [if_pos c21] at H
                          have c21b0 : decide (0 < (l0.length : Int)) = true := decide_eq_true c21
                          have c21b1 : decide (0 < l0.length) = true := decide_eq_true (by omega)
                          clear c21
                          have H' := Aside0.mk H
                          clear H
                          have p111 : 0 ≤ (x3_11 : Int) := of_decide_eq_true (by first | (with_reducible assumption) | assumption)
                          have q111 : x3_11 < (l0.length : Int) := of_decide_eq_true (by first | (with_reducible assumption) | assumption)
                          obtain ⟨ad111, e111, hx111_0⟩ := Kd.at_int HR0.out x3_11 p111 q111
                          obtain rfl : ad108 = ad111 := (by injection e111)
                          replace p111 := eq_true p111
                          replace q111 := eq_true q111
                          have p112 : 0 ≤ (0 : Int) := (by omega)
                          have q112 : 0 < (l0.length : Int) := of_decide_eq_true (by first | (with_reducible assumption) | assumption)
                          obtain ⟨ad112, e112, hx112_0⟩ := Kd.at_int HR0.out 0 p112 q112
                          obtain rfl : ad108 = ad112 := (by injection e112)
                          have qi112 : (0 < l0.length) = True := eq_true (by omega)
                          (try rw [show ((0 : Int)).toNat = 0 from rfl] at hx112_0)
                          (try rw [Addr.add_zero'] at hx112_0)
                          replace p112 := eq_true p112
                          replace q112 := eq_true q112
                          go_wp2
                          go_meet
                          case rel => exact ⟨_, (((rd l0 0) != 46)), (by first | rfl | (simp; done) | (simp [*]; done)), H', ⟨by have := HJ1.out; have := HJ11.out; first | omega | exact Nat.le_refl _⟩, by repeat (first | exact Drawn0.refl _ | apply Drawn0.step)⟩
                        · rw [if_neg c21] at H
                          exact absurd H (by simp)
                      · rw [if_neg c20] at H
                        have c20b0 : ((rd l0 x3_11) == 46) = false := beq_eq_false_iff_ne.mpr c20
                        have c20b1 : ((rd l0 x3_11) != 46) = true := bne_iff_ne.mpr c20
                        have H' := Aside0.mk H
                        clear H
                        have p111 : 0 ≤ (x3_11 : Int) := of_decide_eq_true (by first | (with_reducible assumption) | assumption)
                        have q111 : x3_11 < (l0.length : Int) := of_decide_eq_true (by first | (with_reducible assumption) | assumption)
                        obtain ⟨ad111, e111, hx111_0⟩ := Kd.at_int HR0.out x3_11 p111 q111
                        obtain rfl : ad108 = ad111 := (by injection e111)
                        replace p111 := eq_true p111
                        replace q111 := eq_true q111
                        go_wp2
                        go_meet
                        case rel => exact ⟨_, (false), (by first | rfl | (simp; done) | (simp [*]; done)), H', ⟨by have := HJ1.out; have := HJ11.out; first | omega | exact Nat.le_refl _⟩, by repeat (first | exact Drawn0.refl _ | apply Drawn0.step)⟩
                    · rw [if_neg c19] at H
                      exact absurd H (by simp)
                  · rw [if_neg c18] at H
                    have c18b0 : decide (x3_11 < (l0.length : Int)) = false := decide_eq_false c18
                    clear c18
                    (first | rw [c18b0] | (simp only [i64_w, i32_w]; rw [c18b0]) | skip)
                    have H' := Aside0.mk H
                    clear H
                    go_wp2
                    go_meet
                    case rel => exact ⟨_, (false), (by first | rfl | (simp; done) | (simp [*]; done)), H', ⟨by have := HJ1.out; have := HJ11.out; first | omega | exact Nat.le_refl _⟩, by repeat (first | exact Drawn0.refl _ | apply Drawn0.step)⟩
                case rest =>
                  clear HC17
                  try clear c1
                  try clear p1
                  try clear q1
                  try clear hx1
                  try clear qi1
                  try clear c2
                  try clear p2
                  try clear c3
                  try clear c3b0
                  try clear c3b1
                  try clear c3b2
                  try clear c4
                  try clear c4b0
                  try clear c4b1
                  try clear c5
                  try clear c5b0
                  try clear c6
                  try clear c6b0
                  try clear c6b1
                  try clear p6
                  try clear c7
                  try clear c7b0
                  try clear c8
                  try clear c8b0
                  try clear c8b1
                  try clear c9
                  try clear c10
                  try clear c10b0
                  try clear c10b1
                  try clear p10
                  try clear q10
                  try clear hx10
                  try clear qi10
                  try clear c11
                  try clear c11b0
                  try clear c11b1
                  try clear p11
                  try clear q11
                  try clear hx11
                  try clear qi11
                  try clear c13
                  try clear c13b0
                  try clear c14
                  try clear c14b0
                  try clear c15
                  try clear c15b0
                  try clear c16
                  try clear c16b0
                  try clear c18
                  try clear c18b0
                  try clear c19
                  try clear c19b0
                  try clear c20
                  try clear c20b0
                  try clear c20b1
                  try clear c21
                  try clear c21b0
                  try clear c21b1
                  try clear hx104_0
                  try clear hx105_0
                  try clear hx106_0
                  try clear hx107_0
                  try clear hx108_0
                  try clear hx109_0
                  try clear hx110_0
                  try clear hx111_0
                  try clear hx112_0
                  try clear p1
                  try clear p10
                  try clear p104
                  try clear p105
                  try clear p106
                  try clear p107
                  try clear p108
                  try clear p109
                  try clear p11
                  try clear p110
                  try clear p111
                  try clear p112
                  try clear p2
                  try clear p6
                  try clear q1
                  try clear q10
                  try clear q104
                  try clear q105
                  try clear q106
                  try clear q107
                  try clear q108
                  try clear q109
                  try clear q11
                  try clear q110
                  try clear q111
                  try clear q112
                  obtain ⟨kq, x73_16, rfl, HA, HJ16, ⟨mc16, rfl⟩⟩ := hcut
                  cases kq with
                  | zero => exact absurd HA.out (by simp [tdjs_AsDecimalLiteral.j3])
                  | succ kj16 =>
                    have H := HA.out
                    clear HA
                    simp only [tdjs_AsDecimalLiteral.j3] at H
                    by_cases c22 : x73_16 = true
                    · subst c22
                      have H1 : (tdjs_AsDecimalLiteral.l1 kj16 l0 (wrap64 (x3_11 + 1))) = some r := by rw [if_pos rfl] at H; exact H
                      clear H
                      have H := H1
                      clear H1
                      have H' := Aside0.mk H
                      clear H
                      go_wp2
                      go_loopg [3] kj16 (fun kq v3 w' => ∃ (x3_4 : Int), v3 = .int .i64 x3_4 ∧ Aside0 (tdjs_AsDecimalLiteral.l1 kq l0 x3_4 = some r) ∧ Aside0 (kq ≤ kj16) ∧ Drawn0 w w')
                      case atStart => exact ⟨(wrap64 (x3_11 + 1)), (by first | rfl | (simp; done) | (simp [*]; done)), H', ⟨Nat.le_refl _⟩, by repeat (first | exact Drawn0.refl _ | apply Drawn0.step)⟩
                      case round =>
                        clear H'
                        try clear c1
                        try clear p1
                        try clear q1
                        try clear hx1
                        try clear qi1
                        try clear c2
                        try clear p2
                        try clear c3
                        try clear c3b0
                        try clear c3b1
                        try clear c3b2
                        try clear c4
                        try clear c4b0
                        try clear c4b1
                        try clear c5
                        try clear c5b0
                        try clear c6
                        try clear c6b0
                        try clear c6b1
                        try clear p6
                        try clear c7
                        try clear c7b0
                        try clear c8
                        try clear c8b0
                        try clear c8b1
                        try clear c9
                        try clear c10
                        try clear c10b0
                        try clear c10b1
                        try clear p10
                        try clear q10
                        try clear hx10
                        try clear qi10
                        try clear c11
                        try clear c11b0
                        try clear c11b1
                        try clear p11
                        try clear q11
                        try clear hx11
                        try clear qi11
                        try clear c13
                        try clear c13b0
                        try clear c14
                        try clear c14b0
                        try clear c15
                        try clear c15b0
                        try clear c16
                        try clear c16b0
                        try clear c18
                        try clear c18b0
                        try clear c19
                        try clear c19b0
                        try clear c20
                        try clear c20b0
                        try clear c20b1
                        try clear c21
                        try clear c21b0
                        try clear c21b1
                        try clear c22
                        try clear hx104_0
                        try clear hx105_0
                        try clear hx106_0
                        try clear hx107_0
                        try clear hx108_0
                        try clear hx109_0
                        try clear hx110_0
                        try clear hx111_0
                        try clear hx112_0
                        try clear p1
                        try clear p10
                        try clear p104
                        try clear p105
                        try clear p106
                        try clear p107
                        try clear p108
                        try clear p109
                        try clear p11
                        try clear p110
                        try clear p111
                        try clear p112
                        try clear p2
                        try clear p6
                        try clear q1
                        try clear q10
                        try clear q104
                        try clear q105
                        try clear q106
                        try clear q107
                        try clear q108
                        try clear q109
                        try clear q11
                        try clear q110
                        try clear q111
                        try clear q112
                        obtain ⟨x3_4, rfl, HA, HK4, ⟨m4, rfl⟩⟩ := hrel
                        cases gk with
                        | zero => exact absurd HA.out (by simp [tdjs_AsDecimalLiteral.l1])
                        | succ k4 =>
                          have H := HA.out
                          clear HA
                          simp only [tdjs_AsDecimalLiteral.l1] at H
                          by_cases c23 : x3_4 < (l0.length : Int)
                          · rw [if_pos c23] at H
                            have c23b0 : decide (x3_4 < (l0.length : Int)) = true := decide_eq_true c23
                            clear c23
                            by_cases c24 : 0 ≤ x3_4
                            · rw [if_pos c24] at H
                              have c24b0 : decide (0 ≤ x3_4) = true := decide_eq_true c24
                              clear c24
                              by_cases c25 : 48 ≤ (rd l0 x3_4)
                              · rw [if_pos c25] at H
                                have c25b0 : decide (48 ≤ (rd l0 x3_4)) = true := decide_eq_true c25
                                clear c25
                                by_cases c26 : (rd l0 x3_4) ≤ 57
                                · rw [if_pos c26] at H
                                  have c26b0 : decide ((rd l0 x3_4) ≤ 57) = true := decide_eq_true c26
                                  clear c26
                                  have H' := Aside0.mk H
                                  clear H
                                  have p113 : 0 ≤ (x3_4 : Int) := of_decide_eq_true (by first | (with_reducible assumption) | assumption)
                                  have q113 : x3_4 < (l0.length : Int) := of_decide_eq_true (by first | (with_reducible assumption) | assumption)
                                  obtain ⟨ad113, e113, hx113_0⟩ := Kd.at_int HR0.out x3_4 p113 q113
                                  obtain rfl : ad108 = ad113 := (by injection e113)
                                  replace p113 := eq_true p113
                                  replace q113 := eq_true q113
                                  have p114 : 0 ≤ (x3_4 : Int) := of_decide_eq_true (by first | (with_reducible assumption) | assumption)
                                  have q114 : x3_4 < (l0.length : Int) := of_decide_eq_true (by first | (with_reducible assumption) | assumption)
                                  obtain ⟨ad114, e114, hx114_0⟩ := Kd.at_int HR0.out x3_4 p114 q114
                                  obtain rfl : ad108 = ad114 := (by injection e114)
                                  replace p114 := eq_true p114
                                  replace q114 := eq_true q114
                                  go_wp2
                                  go_roundg k4
                                  case measure => have := HJ1.out; have := HJ11.out; have := HJ16.out; have := HK4.out; omega
                                  case rel => exact ⟨(wrap64 (x3_4 + 1)), (by first | rfl | (simp; done) | (simp [*]; done)), H', ⟨by have := HJ1.out; have := HJ11.out; have := HJ16.out; have := HK4.out; omega⟩, by repeat (first | exact Drawn0.refl _ | apply Drawn0.step)⟩
                                · rw [if_neg c26] at H
                                  have c26b0 : decide ((rd l0 x3_4) ≤ 57) = false := decide_eq_false c26
                                  clear c26
                                  obtain rfl := Option.some.inj H
                                  have p113 : 0 ≤ (x3_4 : Int) := of_decide_eq_true (by first | (with_reducible assumption) | assumption)
                                  have q113 : x3_4 < (l0.length : Int) := of_decide_eq_true (by first | (with_reducible assumption) | assumption)
                                  obtain ⟨ad113, e113, hx113_0⟩ := Kd.at_int HR0.out x3_4 p113 q113
                                  obtain rfl : ad108 = ad113 := (by injection e113)
                                  replace p113 := eq_true p113
                                  replace q113 := eq_true q113
                                  have p114 : 0 ≤ (x3_4 : Int) := of_decide_eq_true (by first | (with_reducible assumption) | assumption)
                                  have q114 : x3_4 < (l0.length : Int) := of_decide_eq_true (by first | (with_reducible assumption) | assumption)
                                  obtain ⟨ad114, e114, hx114_0⟩ := Kd.at_int HR0.out x3_4 p114 q114
                                  obtain rfl : ad108 = ad114 := (by injection e114)
                                  replace p114 := eq_true p114
                                  replace q114 := eq_true q114
                                  go_wp2
                                  go_ret
                                  exact ⟨by first | rfl | (simp; done) | (simp [*]; done), by repeat (first | exact Drawn0.refl _ | apply Drawn0.step)⟩
                              · rw [if_neg c25] at H
                                have c25b0 : decide (48 ≤ (rd l0 x3_4)) = false := decide_eq_false c25
                                clear c25
                                obtain rfl := Option.some.inj H
                                have p113 : 0 ≤ (x3_4 : Int) := of_decide_eq_true (by first | (with_reducible assumption) | assumption)
                                have q113 : x3_4 < (l0.length : Int) := of_decide_eq_true (by first | (with_reducible assumption) | assumption)
                                obtain ⟨ad113, e113, hx113_0⟩ := Kd.at_int HR0.out x3_4 p113 q113
                                obtain rfl : ad108 = ad113 := (by injection e113)
                                replace p113 := eq_true p113
                                replace q113 := eq_true q113
                                go_wp2
                                go_ret
                                exact ⟨by first | rfl | (simp; done) | (simp [*]; done), by repeat (first | exact Drawn0.refl _ | apply Drawn0.step)⟩
                            · rw [if_neg c24] at H
                              exact absurd H (by simp)
                          · rw [if_neg c23] at H
                            have c23b0 : decide (x3_4 < (l0.length : Int)) = false := decide_eq_false c23
                            clear c23
                            obtain rfl := Option.some.inj H
                            go_wp2
                            go_ret
                            exact ⟨by first | rfl | (simp; done) | (simp [*]; done), by repeat (first | exact Drawn0.refl _ | apply Drawn0.step)⟩
                    · replace c22 := Bool.eq_false_iff.mpr c22
                      subst c22
                      have H1 : (some (x3_11 == (l0.length : Int))) = some r := by rw [if_neg (show ¬ (false = true) by decide)] at H; exact H
                      clear H
                      have H := H1
                      clear H1
                      obtain rfl := Option.some.inj H
                      go_wp2
                      go_ret
                      exact ⟨by first | rfl | (simp; done) | (simp [*]; done), by repeat (first | exact Drawn0.refl _ | apply Drawn0.step)⟩
        · rw [if_neg c10] at H
          exact absurd H (by simp)

end Go.Proofs.Ytbpmfmkdpjajhaa.PFnDecimal
