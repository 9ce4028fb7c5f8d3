-- Laid by a program of this session, out of the translation's print.
import Derived.Test.YteklgpjdcdkdpaaPFnNumberDimensionx0
import Derived.Test.YteklgpjdcdkdpaaPFnNumberDimensionx1
import Derived.Test.YteklgpjdcdkdpaaPFnNumberDimensionx2
namespace Go.Proofs.Yteklgpjdcdkdpaa.PFnNumberDimension
open Go.Proofs.Yteklgpjdcdkdpaa.Own
open Go.RowKit Go.Proofs.YteklgpjdcdkdpaaW.PrintWords Go.Proofs.YteklgpjdcdkdpaaW.PrintLast Go.Proofs.YteklgpjdcdkdpaaW.PrintMore
attribute [local go_sem] max2_int min2_int max_two min_two max_three min_three max_four min_four   -- for this text's walks alone
set_option linter.unusedVariables false
set_option linter.unusedSimpArgs false

/-! ### tdparse_Dimension: function 55 -/
mutual
def tdparse_Dimension.j0 : Nat → List Int → Int → Bool → Option (Int × Int)
  | 0, _, _, _ => none
  | k + 1, x0, x4, x15 => if x15 = true then (some (x4, 0)) else (if 0 ≤ x4 then (if x4 < (x0.length : Int) then (if (rd x0 x4) = 37 then (some (x4, 1)) else (if (rd x0 x4) ≥ 97 then (if (rd x0 x4) ≤ 122 then (tdparse_Dimension.j1 k x0 x4 true) else (if (rd x0 x4) ≥ 65 then (tdparse_Dimension.j1 k x0 x4 (decide ((rd x0 x4) ≤ 90))) else (tdparse_Dimension.j1 k x0 x4 false))) else (if (rd x0 x4) ≥ 65 then (tdparse_Dimension.j1 k x0 x4 (decide ((rd x0 x4) ≤ 90))) else (tdparse_Dimension.j1 k x0 x4 false)))) else (none)) else (none))
def tdparse_Dimension.j1 : Nat → List Int → Int → Bool → Option (Int × Int)
  | 0, _, _, _ => none
  | k + 1, x0, x4, x48 => if x48 = true then (tdparse_Dimension.l0 k x0 x4 (wrap64 (x4 + 1))) else (some (x4, 0))
def tdparse_Dimension.l0 : Nat → List Int → Int → Int → Option (Int × Int)
  | 0, _, _, _ => none
  | k + 1, x0, x4, x5 => if x5 < (x0.length : Int) then (if 0 ≤ x5 then (if (rd x0 x5) ≥ 97 then (if (rd x0 x5) ≤ 122 then (tdparse_Dimension.l0 k x0 x4 (wrap64 (x5 + 1))) else (if (rd x0 x5) ≥ 65 then (if (rd x0 x5) ≤ 90 then (tdparse_Dimension.l0 k x0 x4 (wrap64 (x5 + 1))) else (some (x4, wrap64 (x5 - x4)))) else (some (x4, wrap64 (x5 - x4))))) else (if (rd x0 x5) ≥ 65 then (if (rd x0 x5) ≤ 90 then (tdparse_Dimension.l0 k x0 x4 (wrap64 (x5 + 1))) else (some (x4, wrap64 (x5 - x4)))) else (some (x4, wrap64 (x5 - x4))))) else (none)) else (some (x4, wrap64 (x5 - x4)))
end
def tdparse_Dimension.f (k : Nat) (l0 : List Int) : Option (Int × Int) := (tdparse_Number.f k l0).bind fun t143 => (if t143 = 0 then (tdparse_Dimension.j0 k l0 t143 true) else (tdparse_Dimension.j0 k l0 t143 (t143 == (l0.length : Int))))
theorem tdparse_Dimension.mono_l : ∀ k, (∀ y0 y1 y2, LeO (tdparse_Dimension.j0 k y0 y1 y2) (tdparse_Dimension.j0 (k + 1) y0 y1 y2)) ∧ (∀ y0 y1 y2, LeO (tdparse_Dimension.j1 k y0 y1 y2) (tdparse_Dimension.j1 (k + 1) y0 y1 y2)) ∧ (∀ y0 y1 y2, LeO (tdparse_Dimension.l0 k y0 y1 y2) (tdparse_Dimension.l0 (k + 1) y0 y1 y2))
  | 0 => ⟨fun _ _ _ r h => by simp [tdparse_Dimension.j0] at h, fun _ _ _ r h => by simp [tdparse_Dimension.j1] at h, fun _ _ _ r h => by simp [tdparse_Dimension.l0] at h⟩
  | k + 1 => by
    obtain ⟨ih0, ih1, ih2⟩ := tdparse_Dimension.mono_l k
    refine ⟨?_, ?_, ?_⟩
    · intro y0 y1 y2
      unfold tdparse_Dimension.j0
      repeat' first
      | (with_reducible exact ih0 _ _ _)
      | (with_reducible exact ih1 _ _ _)
      | (with_reducible exact ih2 _ _ _)
      | (with_reducible exact tdparse_Number.mono _ _)
      | (with_reducible exact LeO.refl _)
      | (with_reducible exact LeO.none _)
      | (with_reducible refine LeO.ite ?_ ?_)
      | (with_reducible refine LeO.bind ?_ (fun _ => ?_))
      | exact ih0 _ _ _
      | exact ih1 _ _ _
      | exact ih2 _ _ _
      | exact tdparse_Number.mono _ _
      | exact LeO.none _
      | refine LeO.ite ?_ ?_
      | refine LeO.bind ?_ (fun _ => ?_)
    · intro y0 y1 y2
      unfold tdparse_Dimension.j1
      repeat' first
      | (with_reducible exact ih0 _ _ _)
      | (with_reducible exact ih1 _ _ _)
      | (with_reducible exact ih2 _ _ _)
      | (with_reducible exact tdparse_Number.mono _ _)
      | (with_reducible exact LeO.refl _)
      | (with_reducible exact LeO.none _)
      | (with_reducible refine LeO.ite ?_ ?_)
      | (with_reducible refine LeO.bind ?_ (fun _ => ?_))
      | exact ih0 _ _ _
      | exact ih1 _ _ _
      | exact ih2 _ _ _
      | exact tdparse_Number.mono _ _
      | exact LeO.none _
      | refine LeO.ite ?_ ?_
      | refine LeO.bind ?_ (fun _ => ?_)
    · intro y0 y1 y2
      unfold tdparse_Dimension.l0
      repeat' first
      | (with_reducible exact ih0 _ _ _)
      | (with_reducible exact ih1 _ _ _)
      | (with_reducible exact ih2 _ _ _)
      | (with_reducible exact tdparse_Number.mono _ _)
      | (with_reducible exact LeO.refl _)
      | (with_reducible exact LeO.none _)
      | (with_reducible refine LeO.ite ?_ ?_)
      | (with_reducible refine LeO.bind ?_ (fun _ => ?_))
      | exact ih0 _ _ _
      | exact ih1 _ _ _
      | exact ih2 _ _ _
      | exact tdparse_Number.mono _ _
      | exact LeO.none _
      | refine LeO.ite ?_ ?_
      | refine LeO.bind ?_ (fun _ => ?_)
theorem tdparse_Dimension.mono : ∀ a0 k, LeO (tdparse_Dimension.f k a0) (tdparse_Dimension.f (k + 1) a0) := by
  intro a0 k
  obtain ⟨ih0, ih1, ih2⟩ := tdparse_Dimension.mono_l k
  unfold tdparse_Dimension.f
  repeat' first
      | (with_reducible exact ih0 _ _ _)
      | (with_reducible exact ih1 _ _ _)
      | (with_reducible exact ih2 _ _ _)
      | (with_reducible exact tdparse_Number.mono _ _)
      | (with_reducible exact LeO.refl _)
      | (with_reducible exact LeO.none _)
      | (with_reducible refine LeO.ite ?_ ?_)
      | (with_reducible refine LeO.bind ?_ (fun _ => ?_))
      | exact ih0 _ _ _
      | exact ih1 _ _ _
      | exact ih2 _ _ _
      | exact tdparse_Number.mono _ _
      | exact LeO.none _
      | refine LeO.ite ?_ ?_
      | refine LeO.bind ?_ (fun _ => ?_)
set_option maxHeartbeats 8000000 in
set_option maxRecDepth 100000 in
theorem tdparse_Dimension.calls (k : Nat) (A0 : Option Addr) (c0 : Nat) (l0 : List Int) (r1 : Int) (r2 : Int) (w : World) (hr0 : Kd.C (Kd.int .u8) w A0 l0.length l0) (hc0 : l0.length ≤ c0) (h : tdparse_Dimension.f k l0 = some (r1, r2)) :
    Calls Try.prog 55 #[.slice A0 l0.length c0] w fun e w' => e = .returned (.tuple #[.int .i64 r1, .int .i64 r2]) ∧ Drawn0 w w' := by
  have HR0 := Aside0.mk hr0
  have HC0 := Aside0.mk hc0
  clear hr0 hc0
  have H : ((tdparse_Number.f k l0).bind fun t143 => (if t143 = 0 then (tdparse_Dimension.j0 k l0 t143 true) else (tdparse_Dimension.j0 k l0 t143 (t143 == (l0.length : Int))))) = some (r1, r2) := h
  clear h
  replace H := Option.bind_eq_some_iff.mp H
  obtain ⟨t143, A20, H⟩ := H
  replace H : (if t143 = 0 then (tdparse_Dimension.j0 k l0 t143 true) else (tdparse_Dimension.j0 k l0 t143 (t143 == (l0.length : Int)))) = some (r1, r2) := H
  have A2 := Aside0.mk A20
  clear A20
  have HC3 := Aside0.mk H
  clear H
  go_enter Try.func55, Try.ntmps55
  go_upto_region 2 with (first | ((with_reducible refine gate_callee (f := 47) rfl ?_); refine goesL_ (some 7) rfl rfl Try.func47 (by kernel_rfl) rfl #[.slice A0 l0.length c0] rfl (by (try simp only [List.map_toArray, List.map_cons, List.map_nil]); first | done | rfl | (simp only [List.length_drop, List.length_take]; rfl)) ?_; (with_reducible refine (tdparse_Number.calls k _ _ l0 t143 _ ?side1 ?side2 A2.out).mono ?_); (case side1 => repeat (first | exact HR0.out | (with_reducible refine Kd.C_alloc ?_ _) | (with_reducible refine Kd.C_drewN ?_ _) | (with_reducible refine Kd.C_drew ?_))); (case side2 => exact HC0.out); rintro e w' ⟨rfl, ⟨nd, rfl⟩⟩; refine ⟨_, rfl, ?_⟩))
  (try simp only [Act.put, List.setIfInBounds_toArray, List.set_cons_zero, List.set_cons_succ])
  go_cut [15] (fun v15 wc => ∃ (kq : Nat) (x15_2 : Bool), v15 = .bool x15_2 ∧ Aside0 (tdparse_Dimension.j0 kq l0 t143 x15_2 = some (r1, r2)) ∧ Aside0 (kq ≤ k) ∧ Drawn0 w wc)
  case first =>
    have H := HC3.out
    clear HC3
    by_cases c4 : t143 = 0
    · rw [if_pos c4] at H
      have c4b0 : (t143 == 0) = true := beq_iff_eq.mpr c4
      have c4b1 : (t143 != 0) = false := bne_eq_false_iff_eq.mpr c4
      clear c4
      (first | rw [c4b0] | (simp only [i64_w, i32_w]; rw [c4b0]) | skip)
      as_aux_lemma =>
        have H' := Aside0.mk H
        clear H
        go_wp2
        go_meet
        case rel => exact ⟨_, (true), (by first | rfl | (simp; done) | (simp [*]; done)), H', ⟨by first | omega | exact Nat.le_refl _⟩, by repeat (first | exact Drawn0.refl _ | apply Drawn0.step)⟩
    · rw [if_neg c4] at H
      have c4b0 : (t143 == 0) = false := beq_eq_false_iff_ne.mpr c4
      have c4b1 : (t143 != 0) = true := bne_iff_ne.mpr c4
      (first | rw [c4b0] | (simp only [i64_w, i32_w]; rw [c4b0]) | skip)
      as_aux_lemma =>
        have H' := Aside0.mk H
        clear H
        go_wp2
        go_meet
        case rel => exact ⟨_, ((t143 == (l0.length : Int))), (by first | rfl | (simp; done) | (simp [*]; done)), H', ⟨by first | omega | exact Nat.le_refl _⟩, by repeat (first | exact Drawn0.refl _ | apply Drawn0.step)⟩
  case rest =>
    clear HC3
    try clear p2
    try clear c4
    try clear c4b0
    try clear c4b1
    obtain ⟨kq, x15_2, rfl, HA, HJ2, ⟨mc2, rfl⟩⟩ := hcut
    cases kq with
    | zero => exact absurd HA.out (by simp [tdparse_Dimension.j0])
    | succ kj2 =>
      have H := HA.out
      clear HA
      simp only [tdparse_Dimension.j0] at H
      by_cases c5 : x15_2 = true
      · subst c5
        have H1 : (some (t143, 0)) = some (r1, r2) := by rw [if_pos rfl] at H; exact H
        clear H
        have H := H1
        clear H1
        as_aux_lemma =>
          simp only [Option.some.injEq, Prod.mk.injEq] at H
          obtain ⟨rfl, rfl⟩ := H
          go_wp2
          go_ret2
          exact ⟨by first | rfl | (simp; done) | (simp [*]; done), by repeat (first | exact Drawn0.refl _ | apply Drawn0.step)⟩
      · replace c5 := Bool.eq_false_iff.mpr c5
        subst c5
        have H1 : (if 0 ≤ t143 then (if t143 < (l0.length : Int) then (if (rd l0 t143) = 37 then (some (t143, 1)) else (if (rd l0 t143) ≥ 97 then (if (rd l0 t143) ≤ 122 then (tdparse_Dimension.j1 kj2 l0 t143 true) else (if (rd l0 t143) ≥ 65 then (tdparse_Dimension.j1 kj2 l0 t143 (decide ((rd l0 t143) ≤ 90))) else (tdparse_Dimension.j1 kj2 l0 t143 false))) else (if (rd l0 t143) ≥ 65 then (tdparse_Dimension.j1 kj2 l0 t143 (decide ((rd l0 t143) ≤ 90))) else (tdparse_Dimension.j1 kj2 l0 t143 false)))) else (none)) else (none)) = some (r1, r2) := by rw [if_neg (show ¬ (false = true) by decide)] at H; exact H
        clear H
        have H := H1
        clear H1
        by_cases c6 : 0 ≤ t143
        · rw [if_pos c6] at H
          have c6b0 : decide (0 ≤ t143) = true := decide_eq_true c6
          clear c6
          by_cases c7 : t143 < (l0.length : Int)
          · rw [if_pos c7] at H
            have c7b0 : decide (t143 < (l0.length : Int)) = true := decide_eq_true c7
            clear c7
            by_cases c8 : (rd l0 t143) = 37
            · rw [if_pos c8] at H
              have c8b0 : ((rd l0 t143) == 37) = true := beq_iff_eq.mpr c8
              have c8b1 : ((rd l0 t143) != 37) = false := bne_eq_false_iff_eq.mpr c8
              clear c8
              as_aux_lemma =>
                simp only [Option.some.injEq, Prod.mk.injEq] at H
                obtain ⟨rfl, rfl⟩ := H
                have p144 : 0 ≤ (t143 : Int) := of_decide_eq_true (by first | (with_reducible assumption) | assumption)
                have q144 : t143 < (l0.length : Int) := of_decide_eq_true (by first | (with_reducible assumption) | assumption)
                obtain ⟨ad144, e144, hx144_0⟩ := Kd.at_int HR0.out t143 p144 q144
                cases e144
                replace p144 := eq_true p144
                replace q144 := eq_true q144
                go_wp2
                go_ret2
                exact ⟨by first | rfl | (simp; done) | (simp [*]; done), by repeat (first | exact Drawn0.refl _ | apply Drawn0.step)⟩
            · rw [if_neg c8] at H
              have c8b0 : ((rd l0 t143) == 37) = false := beq_eq_false_iff_ne.mpr c8
              have c8b1 : ((rd l0 t143) != 37) = true := bne_iff_ne.mpr c8
              have HC9 := Aside0.mk H
              clear H
              have p144 : 0 ≤ (t143 : Int) := of_decide_eq_true (by first | (with_reducible assumption) | assumption)
              have q144 : t143 < (l0.length : Int) := of_decide_eq_true (by first | (with_reducible assumption) | assumption)
              obtain ⟨ad144, e144, hx144_0⟩ := Kd.at_int HR0.out t143 p144 q144
              cases e144
              replace p144 := eq_true p144
              replace q144 := eq_true q144
              go_upto_region 6 with (fail)
              go_cut [48] (fun v48 wc => ∃ (kq : Nat) (x48_8 : Bool), v48 = .bool x48_8 ∧ Aside0 (tdparse_Dimension.j1 kq l0 t143 x48_8 = some (r1, r2)) ∧ Aside0 (kq ≤ kj2) ∧ Drawn0 w wc)
              case first =>
                have H := HC9.out
                clear HC9
                by_cases c10 : (rd l0 t143) ≥ 97
                · rw [if_pos c10] at H
                  have c10b0 : decide (97 ≤ (rd l0 t143)) = true := decide_eq_true c10
                  clear c10
                  (first | rw [c10b0] | (simp only [i64_w, i32_w]; rw [c10b0]) | skip)
                  by_cases c11 : (rd l0 t143) ≤ 122
                  · rw [if_pos c11] at H
                    have c11b0 : decide ((rd l0 t143) ≤ 122) = true := decide_eq_true c11
                    clear c11
                    as_aux_lemma =>
                      have H' := Aside0.mk H
                      clear H
                      have p145 : 0 ≤ (t143 : Int) := of_decide_eq_true (by first | (with_reducible assumption) | assumption)
                      have q145 : t143 < (l0.length : Int) := of_decide_eq_true (by first | (with_reducible assumption) | assumption)
                      obtain ⟨ad145, e145, hx145_0⟩ := Kd.at_int HR0.out t143 p145 q145
                      obtain rfl : ad144 = ad145 := (by injection e145)
                      replace p145 := eq_true p145
                      replace q145 := eq_true q145
                      have p146 : 0 ≤ (t143 : Int) := of_decide_eq_true (by first | (with_reducible assumption) | assumption)
                      have q146 : t143 < (l0.length : Int) := of_decide_eq_true (by first | (with_reducible assumption) | assumption)
                      obtain ⟨ad146, e146, hx146_0⟩ := Kd.at_int HR0.out t143 p146 q146
                      obtain rfl : ad144 = ad146 := (by injection e146)
                      replace p146 := eq_true p146
                      replace q146 := eq_true q146
                      go_wp2
                      go_meet
                      case rel => exact ⟨_, (true), (by first | rfl | (simp; done) | (simp [*]; done)), H', ⟨by have := HJ2.out; first | omega | exact Nat.le_refl _⟩, by repeat (first | exact Drawn0.refl _ | apply Drawn0.step)⟩
                  · rw [if_neg c11] at H
                    have c11b0 : decide ((rd l0 t143) ≤ 122) = false := decide_eq_false c11
                    clear c11
                    by_cases c12 : (rd l0 t143) ≥ 65
                    · rw [if_pos c12] at H
                      have c12b0 : decide (65 ≤ (rd l0 t143)) = true := decide_eq_true c12
                      clear c12
                      as_aux_lemma =>
                        have H' := Aside0.mk H
                        clear H
                        have p145 : 0 ≤ (t143 : Int) := of_decide_eq_true (by first | (with_reducible assumption) | assumption)
                        have q145 : t143 < (l0.length : Int) := of_decide_eq_true (by first | (with_reducible assumption) | assumption)
                        obtain ⟨ad145, e145, hx145_0⟩ := Kd.at_int HR0.out t143 p145 q145
                        obtain rfl : ad144 = ad145 := (by injection e145)
                        replace p145 := eq_true p145
                        replace q145 := eq_true q145
                        have p146 : 0 ≤ (t143 : Int) := of_decide_eq_true (by first | (with_reducible assumption) | assumption)
                        have q146 : t143 < (l0.length : Int) := of_decide_eq_true (by first | (with_reducible assumption) | assumption)
                        obtain ⟨ad146, e146, hx146_0⟩ := Kd.at_int HR0.out t143 p146 q146
                        obtain rfl : ad144 = ad146 := (by injection e146)
                        replace p146 := eq_true p146
                        replace q146 := eq_true q146
                        have p147 : 0 ≤ (t143 : Int) := of_decide_eq_true (by first | (with_reducible assumption) | assumption)
                        have q147 : t143 < (l0.length : Int) := of_decide_eq_true (by first | (with_reducible assumption) | assumption)
                        obtain ⟨ad147, e147, hx147_0⟩ := Kd.at_int HR0.out t143 p147 q147
                        obtain rfl : ad144 = ad147 := (by injection e147)
                        replace p147 := eq_true p147
                        replace q147 := eq_true q147
                        have p148 : 0 ≤ (t143 : Int) := of_decide_eq_true (by first | (with_reducible assumption) | assumption)
                        have q148 : t143 < (l0.length : Int) := of_decide_eq_true (by first | (with_reducible assumption) | assumption)
                        obtain ⟨ad148, e148, hx148_0⟩ := Kd.at_int HR0.out t143 p148 q148
                        obtain rfl : ad144 = ad148 := (by injection e148)
                        replace p148 := eq_true p148
                        replace q148 := eq_true q148
                        go_wp2
                        go_meet
                        case rel => exact ⟨_, (decide ((rd l0 t143) ≤ 90)), (by first | rfl | (simp; done) | (simp [*]; done)), H', ⟨by have := HJ2.out; first | omega | exact Nat.le_refl _⟩, by repeat (first | exact Drawn0.refl _ | apply Drawn0.step)⟩
                    · rw [if_neg c12] at H
                      have c12b0 : decide (65 ≤ (rd l0 t143)) = false := decide_eq_false c12
                      clear c12
                      as_aux_lemma =>
                        have H' := Aside0.mk H
                        clear H
                        have p145 : 0 ≤ (t143 : Int) := of_decide_eq_true (by first | (with_reducible assumption) | assumption)
                        have q145 : t143 < (l0.length : Int) := of_decide_eq_true (by first | (with_reducible assumption) | assumption)
                        obtain ⟨ad145, e145, hx145_0⟩ := Kd.at_int HR0.out t143 p145 q145
                        obtain rfl : ad144 = ad145 := (by injection e145)
                        replace p145 := eq_true p145
                        replace q145 := eq_true q145
                        have p146 : 0 ≤ (t143 : Int) := of_decide_eq_true (by first | (with_reducible assumption) | assumption)
                        have q146 : t143 < (l0.length : Int) := of_decide_eq_true (by first | (with_reducible assumption) | assumption)
                        obtain ⟨ad146, e146, hx146_0⟩ := Kd.at_int HR0.out t143 p146 q146
                        obtain rfl : ad144 = ad146 := (by injection e146)
                        replace p146 := eq_true p146
                        replace q146 := eq_true q146
                        have p147 : 0 ≤ (t143 : Int) := of_decide_eq_true (by first | (with_reducible assumption) | assumption)
                        have q147 : t143 < (l0.length : Int) := of_decide_eq_true (by first | (with_reducible assumption) | assumption)
                        obtain ⟨ad147, e147, hx147_0⟩ := Kd.at_int HR0.out t143 p147 q147
                        obtain rfl : ad144 = ad147 := (by injection e147)
                        replace p147 := eq_true p147
                        replace q147 := eq_true q147
                        go_wp2
                        go_meet
                        case rel => exact ⟨_, (false), (by first | rfl | (simp; done) | (simp [*]; done)), H', ⟨by have := HJ2.out; first | omega | exact Nat.le_refl _⟩, by repeat (first | exact Drawn0.refl _ | apply Drawn0.step)⟩
                · rw [if_neg c10] at H
                  have c10b0 : decide (97 ≤ (rd l0 t143)) = false := decide_eq_false c10
                  clear c10
                  (first | rw [c10b0] | (simp only [i64_w, i32_w]; rw [c10b0]) | skip)
                  by_cases c13 : (rd l0 t143) ≥ 65
                  · rw [if_pos c13] at H
                    have c13b0 : decide (65 ≤ (rd l0 t143)) = true := decide_eq_true c13
                    clear c13
                    as_aux_lemma =>
                      have H' := Aside0.mk H
                      clear H
                      have p145 : 0 ≤ (t143 : Int) := of_decide_eq_true (by first | (with_reducible assumption) | assumption)
                      have q145 : t143 < (l0.length : Int) := of_decide_eq_true (by first | (with_reducible assumption) | assumption)
                      obtain ⟨ad145, e145, hx145_0⟩ := Kd.at_int HR0.out t143 p145 q145
                      obtain rfl : ad144 = ad145 := (by injection e145)
                      replace p145 := eq_true p145
                      replace q145 := eq_true q145
                      have p149 : 0 ≤ (t143 : Int) := of_decide_eq_true (by first | (with_reducible assumption) | assumption)
                      have q149 : t143 < (l0.length : Int) := of_decide_eq_true (by first | (with_reducible assumption) | assumption)
                      obtain ⟨ad149, e149, hx149_0⟩ := Kd.at_int HR0.out t143 p149 q149
                      obtain rfl : ad144 = ad149 := (by injection e149)
                      replace p149 := eq_true p149
                      replace q149 := eq_true q149
                      have p150 : 0 ≤ (t143 : Int) := of_decide_eq_true (by first | (with_reducible assumption) | assumption)
                      have q150 : t143 < (l0.length : Int) := of_decide_eq_true (by first | (with_reducible assumption) | assumption)
                      obtain ⟨ad150, e150, hx150_0⟩ := Kd.at_int HR0.out t143 p150 q150
                      obtain rfl : ad144 = ad150 := (by injection e150)
                      replace p150 := eq_true p150
                      replace q150 := eq_true q150
                      go_wp2
                      go_meet
                      case rel => exact ⟨_, (decide ((rd l0 t143) ≤ 90)), (by first | rfl | (simp; done) | (simp [*]; done)), H', ⟨by have := HJ2.out; first | omega | exact Nat.le_refl _⟩, by repeat (first | exact Drawn0.refl _ | apply Drawn0.step)⟩
                  · rw [if_neg c13] at H
                    have c13b0 : decide (65 ≤ (rd l0 t143)) = false := decide_eq_false c13
                    clear c13
                    as_aux_lemma =>
                      have H' := Aside0.mk H
                      clear H
                      have p145 : 0 ≤ (t143 : Int) := of_decide_eq_true (by first | (with_reducible assumption) | assumption)
                      have q145 : t143 < (l0.length : Int) := of_decide_eq_true (by first | (with_reducible assumption) | assumption)
                      obtain ⟨ad145, e145, hx145_0⟩ := Kd.at_int HR0.out t143 p145 q145
                      obtain rfl : ad144 = ad145 := (by injection e145)
                      replace p145 := eq_true p145
                      replace q145 := eq_true q145
                      have p149 : 0 ≤ (t143 : Int) := of_decide_eq_true (by first | (with_reducible assumption) | assumption)
                      have q149 : t143 < (l0.length : Int) := of_decide_eq_true (by first | (with_reducible assumption) | assumption)
                      obtain ⟨ad149, e149, hx149_0⟩ := Kd.at_int HR0.out t143 p149 q149
                      obtain rfl : ad144 = ad149 := (by injection e149)
                      replace p149 := eq_true p149
                      replace q149 := eq_true q149
                      go_wp2
                      go_meet
                      case rel => exact ⟨_, (false), (by first | rfl | (simp; done) | (simp [*]; done)), H', ⟨by have := HJ2.out; first | omega | exact Nat.le_refl _⟩, by repeat (first | exact Drawn0.refl _ | apply Drawn0.step)⟩
              case rest =>
                clear HC9
                try clear c1
                try clear p1
                try clear q1
                try clear hx1
                try clear c2
                try clear p2
                try clear c4
                try clear c4b0
                try clear c4b1
                try clear c5
                try clear c6
                try clear c6b0
                try clear c7
                try clear c7b0
                try clear c8
                try clear c8b0
                try clear c8b1
                try clear c10
                try clear c10b0
                try clear c11
                try clear c11b0
                try clear c12
                try clear c12b0
                try clear c13
                try clear c13b0
                try clear hx144_0
                try clear hx145_0
                try clear hx146_0
                try clear hx147_0
                try clear hx148_0
                try clear hx149_0
                try clear hx150_0
                try clear p144
                try clear p145
                try clear p146
                try clear p147
                try clear p148
                try clear p149
                try clear p150
                try clear p2
                try clear q144
                try clear q145
                try clear q146
                try clear q147
                try clear q148
                try clear q149
                try clear q150
                obtain ⟨kq, x48_8, rfl, HA, HJ8, ⟨mc8, rfl⟩⟩ := hcut
                cases kq with
                | zero => exact absurd HA.out (by simp [tdparse_Dimension.j1])
                | succ kj8 =>
                  have H := HA.out
                  clear HA
                  simp only [tdparse_Dimension.j1] at H
                  by_cases c14 : x48_8 = true
                  · subst c14
                    have H1 : (tdparse_Dimension.l0 kj8 l0 t143 (wrap64 (t143 + 1))) = some (r1, r2) := by rw [if_pos rfl] at H; exact H
                    clear H
                    have H := H1
                    clear H1
                    have H' := Aside0.mk H
                    clear H
                    go_wp2
                    go_loopg [5] kj8 (fun kq v5 w' => ∃ (x5_3 : Int), v5 = .int .i64 x5_3 ∧ Aside0 (tdparse_Dimension.l0 kq l0 t143 x5_3 = some (r1, r2)) ∧ Aside0 (kq ≤ kj8) ∧ Drawn0 w w')
                    case atStart => exact ⟨(wrap64 (t143 + 1)), (by first | rfl | (simp; done) | (simp [*]; done)), H', ⟨Nat.le_refl _⟩, by repeat (first | exact Drawn0.refl _ | apply Drawn0.step)⟩
                    case round =>
                      clear H'
                      try clear c1
                      try clear p1
                      try clear q1
                      try clear hx1
                      try clear c2
                      try clear p2
                      try clear c4
                      try clear c4b0
                      try clear c4b1
                      try clear c5
                      try clear c6
                      try clear c6b0
                      try clear p6
                      try clear c7
                      try clear c7b0
                      try clear c8
                      try clear c8b0
                      try clear c8b1
                      try clear c10
                      try clear c10b0
                      try clear c11
                      try clear c11b0
                      try clear c12
                      try clear c12b0
                      try clear c13
                      try clear c13b0
                      try clear c14
                      try clear p14
                      try clear q14
                      try clear hx14
                      try clear hx144_0
                      try clear hx145_0
                      try clear hx146_0
                      try clear hx147_0
                      try clear hx148_0
                      try clear hx149_0
                      try clear hx150_0
                      try clear p1
                      try clear p144
                      try clear p145
                      try clear p146
                      try clear p147
                      try clear p148
                      try clear p149
                      try clear p150
                      try clear p2
                      try clear q1
                      try clear q144
                      try clear q145
                      try clear q146
                      try clear q147
                      try clear q148
                      try clear q149
                      try clear q150
                      obtain ⟨x5_3, rfl, HA, HK3, ⟨m3, rfl⟩⟩ := hrel
                      cases gk with
                      | zero => exact absurd HA.out (by simp [tdparse_Dimension.l0])
                      | succ k3 =>
                        have H := HA.out
                        clear HA
                        simp only [tdparse_Dimension.l0] at H
                        by_cases c15 : x5_3 < (l0.length : Int)
                        · rw [if_pos c15] at H
                          have c15b0 : decide (x5_3 < (l0.length : Int)) = true := decide_eq_true c15
                          clear c15
                          by_cases c16 : 0 ≤ x5_3
                          · rw [if_pos c16] at H
                            have c16b0 : decide (0 ≤ x5_3) = true := decide_eq_true c16
                            clear c16
                            by_cases c17 : (rd l0 x5_3) ≥ 97
                            · rw [if_pos c17] at H
                              have c17b0 : decide (97 ≤ (rd l0 x5_3)) = true := decide_eq_true c17
                              clear c17
                              by_cases c18 : (rd l0 x5_3) ≤ 122
                              · rw [if_pos c18] at H
                                have c18b0 : decide ((rd l0 x5_3) ≤ 122) = true := decide_eq_true c18
                                clear c18
                                as_aux_lemma =>
                                  have H' := Aside0.mk H
                                  clear H
                                  have p151 : 0 ≤ (x5_3 : Int) := of_decide_eq_true (by first | (with_reducible assumption) | assumption)
                                  have q151 : x5_3 < (l0.length : Int) := of_decide_eq_true (by first | (with_reducible assumption) | assumption)
                                  obtain ⟨ad151, e151, hx151_0⟩ := Kd.at_int HR0.out x5_3 p151 q151
                                  obtain rfl : ad144 = ad151 := (by injection e151)
                                  replace p151 := eq_true p151
                                  replace q151 := eq_true q151
                                  have p152 : 0 ≤ (x5_3 : Int) := of_decide_eq_true (by first | (with_reducible assumption) | assumption)
                                  have q152 : x5_3 < (l0.length : Int) := of_decide_eq_true (by first | (with_reducible assumption) | assumption)
                                  obtain ⟨ad152, e152, hx152_0⟩ := Kd.at_int HR0.out x5_3 p152 q152
                                  obtain rfl : ad144 = ad152 := (by injection e152)
                                  replace p152 := eq_true p152
                                  replace q152 := eq_true q152
                                  go_wp2
                                  go_roundg k3
                                  case measure => have := HJ2.out; have := HJ8.out; have := HK3.out; omega
                                  case rel => exact ⟨(wrap64 (x5_3 + 1)), (by first | rfl | (simp; done) | (simp [*]; done)), H', ⟨by have := HJ2.out; have := HJ8.out; have := HK3.out; omega⟩, by repeat (first | exact Drawn0.refl _ | apply Drawn0.step)⟩
                              · rw [if_neg c18] at H
                                have c18b0 : decide ((rd l0 x5_3) ≤ 122) = false := decide_eq_false c18
                                clear c18
                                by_cases c19 : (rd l0 x5_3) ≥ 65
                                · rw [if_pos c19] at H
                                  have c19b0 : decide (65 ≤ (rd l0 x5_3)) = true := decide_eq_true c19
                                  clear c19
                                  by_cases c20 : (rd l0 x5_3) ≤ 90
                                  · rw [if_pos c20] at H
                                    have c20b0 : decide ((rd l0 x5_3) ≤ 90) = true := decide_eq_true c20
                                    clear c20
                                    as_aux_lemma =>
                                      have H' := Aside0.mk H
                                      clear H
                                      have p151 : 0 ≤ (x5_3 : Int) := of_decide_eq_true (by first | (with_reducible assumption) | assumption)
                                      have q151 : x5_3 < (l0.length : Int) := of_decide_eq_true (by first | (with_reducible assumption) | assumption)
                                      obtain ⟨ad151, e151, hx151_0⟩ := Kd.at_int HR0.out x5_3 p151 q151
                                      obtain rfl : ad144 = ad151 := (by injection e151)
                                      replace p151 := eq_true p151
                                      replace q151 := eq_true q151
                                      have p152 : 0 ≤ (x5_3 : Int) := of_decide_eq_true (by first | (with_reducible assumption) | assumption)
                                      have q152 : x5_3 < (l0.length : Int) := of_decide_eq_true (by first | (with_reducible assumption) | assumption)
                                      obtain ⟨ad152, e152, hx152_0⟩ := Kd.at_int HR0.out x5_3 p152 q152
                                      obtain rfl : ad144 = ad152 := (by injection e152)
                                      replace p152 := eq_true p152
                                      replace q152 := eq_true q152
                                      have p153 : 0 ≤ (x5_3 : Int) := of_decide_eq_true (by first | (with_reducible assumption) | assumption)
                                      have q153 : x5_3 < (l0.length : Int) := of_decide_eq_true (by first | (with_reducible assumption) | assumption)
                                      obtain ⟨ad153, e153, hx153_0⟩ := Kd.at_int HR0.out x5_3 p153 q153
                                      obtain rfl : ad144 = ad153 := (by injection e153)
                                      replace p153 := eq_true p153
                                      replace q153 := eq_true q153
                                      have p154 : 0 ≤ (x5_3 : Int) := of_decide_eq_true (by first | (with_reducible assumption) | assumption)
                                      have q154 : x5_3 < (l0.length : Int) := of_decide_eq_true (by first | (with_reducible assumption) | assumption)
                                      obtain ⟨ad154, e154, hx154_0⟩ := Kd.at_int HR0.out x5_3 p154 q154
                                      obtain rfl : ad144 = ad154 := (by injection e154)
                                      replace p154 := eq_true p154
                                      replace q154 := eq_true q154
                                      go_wp2
                                      go_roundg k3
                                      case measure => have := HJ2.out; have := HJ8.out; have := HK3.out; omega
                                      case rel => exact ⟨(wrap64 (x5_3 + 1)), (by first | rfl | (simp; done) | (simp [*]; done)), H', ⟨by have := HJ2.out; have := HJ8.out; have := HK3.out; omega⟩, by repeat (first | exact Drawn0.refl _ | apply Drawn0.step)⟩
                                  · rw [if_neg c20] at H
                                    have c20b0 : decide ((rd l0 x5_3) ≤ 90) = false := decide_eq_false c20
                                    clear c20
                                    as_aux_lemma =>
                                      simp only [Option.some.injEq, Prod.mk.injEq] at H
                                      obtain ⟨rfl, rfl⟩ := H
                                      have p151 : 0 ≤ (x5_3 : Int) := of_decide_eq_true (by first | (with_reducible assumption) | assumption)
                                      have q151 : x5_3 < (l0.length : Int) := of_decide_eq_true (by first | (with_reducible assumption) | assumption)
                                      obtain ⟨ad151, e151, hx151_0⟩ := Kd.at_int HR0.out x5_3 p151 q151
                                      obtain rfl : ad144 = ad151 := (by injection e151)
                                      replace p151 := eq_true p151
                                      replace q151 := eq_true q151
                                      have p152 : 0 ≤ (x5_3 : Int) := of_decide_eq_true (by first | (with_reducible assumption) | assumption)
                                      have q152 : x5_3 < (l0.length : Int) := of_decide_eq_true (by first | (with_reducible assumption) | assumption)
                                      obtain ⟨ad152, e152, hx152_0⟩ := Kd.at_int HR0.out x5_3 p152 q152
                                      obtain rfl : ad144 = ad152 := (by injection e152)
                                      replace p152 := eq_true p152
                                      replace q152 := eq_true q152
                                      have p153 : 0 ≤ (x5_3 : Int) := of_decide_eq_true (by first | (with_reducible assumption) | assumption)
                                      have q153 : x5_3 < (l0.length : Int) := of_decide_eq_true (by first | (with_reducible assumption) | assumption)
                                      obtain ⟨ad153, e153, hx153_0⟩ := Kd.at_int HR0.out x5_3 p153 q153
                                      obtain rfl : ad144 = ad153 := (by injection e153)
                                      replace p153 := eq_true p153
                                      replace q153 := eq_true q153
                                      have p154 : 0 ≤ (x5_3 : Int) := of_decide_eq_true (by first | (with_reducible assumption) | assumption)
                                      have q154 : x5_3 < (l0.length : Int) := of_decide_eq_true (by first | (with_reducible assumption) | assumption)
                                      obtain ⟨ad154, e154, hx154_0⟩ := Kd.at_int HR0.out x5_3 p154 q154
                                      obtain rfl : ad144 = ad154 := (by injection e154)
                                      replace p154 := eq_true p154
                                      replace q154 := eq_true q154
                                      go_wp2
                                      go_ret2
                                      exact ⟨by first | rfl | (simp; done) | (simp [*]; done), by repeat (first | exact Drawn0.refl _ | apply Drawn0.step)⟩
                                · rw [if_neg c19] at H
                                  have c19b0 : decide (65 ≤ (rd l0 x5_3)) = false := decide_eq_false c19
                                  clear c19
                                  as_aux_lemma =>
                                    simp only [Option.some.injEq, Prod.mk.injEq] at H
                                    obtain ⟨rfl, rfl⟩ := H
                                    have p151 : 0 ≤ (x5_3 : Int) := of_decide_eq_true (by first | (with_reducible assumption) | assumption)
                                    have q151 : x5_3 < (l0.length : Int) := of_decide_eq_true (by first | (with_reducible assumption) | assumption)
                                    obtain ⟨ad151, e151, hx151_0⟩ := Kd.at_int HR0.out x5_3 p151 q151
                                    obtain rfl : ad144 = ad151 := (by injection e151)
                                    replace p151 := eq_true p151
                                    replace q151 := eq_true q151
                                    have p152 : 0 ≤ (x5_3 : Int) := of_decide_eq_true (by first | (with_reducible assumption) | assumption)
                                    have q152 : x5_3 < (l0.length : Int) := of_decide_eq_true (by first | (with_reducible assumption) | assumption)
                                    obtain ⟨ad152, e152, hx152_0⟩ := Kd.at_int HR0.out x5_3 p152 q152
                                    obtain rfl : ad144 = ad152 := (by injection e152)
                                    replace p152 := eq_true p152
                                    replace q152 := eq_true q152
                                    have p153 : 0 ≤ (x5_3 : Int) := of_decide_eq_true (by first | (with_reducible assumption) | assumption)
                                    have q153 : x5_3 < (l0.length : Int) := of_decide_eq_true (by first | (with_reducible assumption) | assumption)
                                    obtain ⟨ad153, e153, hx153_0⟩ := Kd.at_int HR0.out x5_3 p153 q153
                                    obtain rfl : ad144 = ad153 := (by injection e153)
                                    replace p153 := eq_true p153
                                    replace q153 := eq_true q153
                                    go_wp2
                                    go_ret2
                                    exact ⟨by first | rfl | (simp; done) | (simp [*]; done), by repeat (first | exact Drawn0.refl _ | apply Drawn0.step)⟩
                            · rw [if_neg c17] at H
                              have c17b0 : decide (97 ≤ (rd l0 x5_3)) = false := decide_eq_false c17
                              clear c17
                              by_cases c21 : (rd l0 x5_3) ≥ 65
                              · rw [if_pos c21] at H
                                have c21b0 : decide (65 ≤ (rd l0 x5_3)) = true := decide_eq_true c21
                                clear c21
                                by_cases c22 : (rd l0 x5_3) ≤ 90
                                · rw [if_pos c22] at H
                                  have c22b0 : decide ((rd l0 x5_3) ≤ 90) = true := decide_eq_true c22
                                  clear c22
                                  as_aux_lemma =>
                                    have H' := Aside0.mk H
                                    clear H
                                    have p151 : 0 ≤ (x5_3 : Int) := of_decide_eq_true (by first | (with_reducible assumption) | assumption)
                                    have q151 : x5_3 < (l0.length : Int) := of_decide_eq_true (by first | (with_reducible assumption) | assumption)
                                    obtain ⟨ad151, e151, hx151_0⟩ := Kd.at_int HR0.out x5_3 p151 q151
                                    obtain rfl : ad144 = ad151 := (by injection e151)
                                    replace p151 := eq_true p151
                                    replace q151 := eq_true q151
                                    have p155 : 0 ≤ (x5_3 : Int) := of_decide_eq_true (by first | (with_reducible assumption) | assumption)
                                    have q155 : x5_3 < (l0.length : Int) := of_decide_eq_true (by first | (with_reducible assumption) | assumption)
                                    obtain ⟨ad155, e155, hx155_0⟩ := Kd.at_int HR0.out x5_3 p155 q155
                                    obtain rfl : ad144 = ad155 := (by injection e155)
                                    replace p155 := eq_true p155
                                    replace q155 := eq_true q155
                                    have p156 : 0 ≤ (x5_3 : Int) := of_decide_eq_true (by first | (with_reducible assumption) | assumption)
                                    have q156 : x5_3 < (l0.length : Int) := of_decide_eq_true (by first | (with_reducible assumption) | assumption)
                                    obtain ⟨ad156, e156, hx156_0⟩ := Kd.at_int HR0.out x5_3 p156 q156
                                    obtain rfl : ad144 = ad156 := (by injection e156)
                                    replace p156 := eq_true p156
                                    replace q156 := eq_true q156
                                    go_wp2
                                    go_roundg k3
                                    case measure => have := HJ2.out; have := HJ8.out; have := HK3.out; omega
                                    case rel => exact ⟨(wrap64 (x5_3 + 1)), (by first | rfl | (simp; done) | (simp [*]; done)), H', ⟨by have := HJ2.out; have := HJ8.out; have := HK3.out; omega⟩, by repeat (first | exact Drawn0.refl _ | apply Drawn0.step)⟩
                                · rw [if_neg c22] at H
                                  have c22b0 : decide ((rd l0 x5_3) ≤ 90) = false := decide_eq_false c22
                                  clear c22
                                  as_aux_lemma =>
                                    simp only [Option.some.injEq, Prod.mk.injEq] at H
                                    obtain ⟨rfl, rfl⟩ := H
                                    have p151 : 0 ≤ (x5_3 : Int) := of_decide_eq_true (by first | (with_reducible assumption) | assumption)
                                    have q151 : x5_3 < (l0.length : Int) := of_decide_eq_true (by first | (with_reducible assumption) | assumption)
                                    obtain ⟨ad151, e151, hx151_0⟩ := Kd.at_int HR0.out x5_3 p151 q151
                                    obtain rfl : ad144 = ad151 := (by injection e151)
                                    replace p151 := eq_true p151
                                    replace q151 := eq_true q151
                                    have p155 : 0 ≤ (x5_3 : Int) := of_decide_eq_true (by first | (with_reducible assumption) | assumption)
                                    have q155 : x5_3 < (l0.length : Int) := of_decide_eq_true (by first | (with_reducible assumption) | assumption)
                                    obtain ⟨ad155, e155, hx155_0⟩ := Kd.at_int HR0.out x5_3 p155 q155
                                    obtain rfl : ad144 = ad155 := (by injection e155)
                                    replace p155 := eq_true p155
                                    replace q155 := eq_true q155
                                    have p156 : 0 ≤ (x5_3 : Int) := of_decide_eq_true (by first | (with_reducible assumption) | assumption)
                                    have q156 : x5_3 < (l0.length : Int) := of_decide_eq_true (by first | (with_reducible assumption) | assumption)
                                    obtain ⟨ad156, e156, hx156_0⟩ := Kd.at_int HR0.out x5_3 p156 q156
                                    obtain rfl : ad144 = ad156 := (by injection e156)
                                    replace p156 := eq_true p156
                                    replace q156 := eq_true q156
                                    go_wp2
                                    go_ret2
                                    exact ⟨by first | rfl | (simp; done) | (simp [*]; done), by repeat (first | exact Drawn0.refl _ | apply Drawn0.step)⟩
                              · rw [if_neg c21] at H
                                have c21b0 : decide (65 ≤ (rd l0 x5_3)) = false := decide_eq_false c21
                                clear c21
                                as_aux_lemma =>
                                  simp only [Option.some.injEq, Prod.mk.injEq] at H
                                  obtain ⟨rfl, rfl⟩ := H
                                  have p151 : 0 ≤ (x5_3 : Int) := of_decide_eq_true (by first | (with_reducible assumption) | assumption)
                                  have q151 : x5_3 < (l0.length : Int) := of_decide_eq_true (by first | (with_reducible assumption) | assumption)
                                  obtain ⟨ad151, e151, hx151_0⟩ := Kd.at_int HR0.out x5_3 p151 q151
                                  obtain rfl : ad144 = ad151 := (by injection e151)
                                  replace p151 := eq_true p151
                                  replace q151 := eq_true q151
                                  have p155 : 0 ≤ (x5_3 : Int) := of_decide_eq_true (by first | (with_reducible assumption) | assumption)
                                  have q155 : x5_3 < (l0.length : Int) := of_decide_eq_true (by first | (with_reducible assumption) | assumption)
                                  obtain ⟨ad155, e155, hx155_0⟩ := Kd.at_int HR0.out x5_3 p155 q155
                                  obtain rfl : ad144 = ad155 := (by injection e155)
                                  replace p155 := eq_true p155
                                  replace q155 := eq_true q155
                                  go_wp2
                                  go_ret2
                                  exact ⟨by first | rfl | (simp; done) | (simp [*]; done), by repeat (first | exact Drawn0.refl _ | apply Drawn0.step)⟩
                          · rw [if_neg c16] at H
                            exact absurd H (by simp)
                        · rw [if_neg c15] at H
                          have c15b0 : decide (x5_3 < (l0.length : Int)) = false := decide_eq_false c15
                          clear c15
                          as_aux_lemma =>
                            simp only [Option.some.injEq, Prod.mk.injEq] at H
                            obtain ⟨rfl, rfl⟩ := H
                            go_wp2
                            go_ret2
                            exact ⟨by first | rfl | (simp; done) | (simp [*]; done), by repeat (first | exact Drawn0.refl _ | apply Drawn0.step)⟩
                  · replace c14 := Bool.eq_false_iff.mpr c14
                    subst c14
                    have H1 : (some (t143, 0)) = some (r1, r2) := by rw [if_neg (show ¬ (false = true) by decide)] at H; exact H
                    clear H
                    have H := H1
                    clear H1
                    as_aux_lemma =>
                      simp only [Option.some.injEq, Prod.mk.injEq] at H
                      obtain ⟨rfl, rfl⟩ := H
                      go_wp2
                      go_ret2
                      exact ⟨by first | rfl | (simp; done) | (simp [*]; done), by repeat (first | exact Drawn0.refl _ | apply Drawn0.step)⟩
          · rw [if_neg c7] at H
            exact absurd H (by simp)
        · rw [if_neg c6] at H
          exact absurd H (by simp)

/-! ### impl_DimensionLength: function 25 -/
def impl_DimensionLength.f (k : Nat) (l0 : List Int) : Option (Int × Int) := (impl_own.f l0).bind fun t157 => ((tdparse_Dimension.f k t157).bind fun bt160 => (some (bt160.1, bt160.2)))
theorem impl_DimensionLength.mono : ∀ a0 k, LeO (impl_DimensionLength.f k a0) (impl_DimensionLength.f (k + 1) a0) := by
  intro a0 k
  unfold impl_DimensionLength.f
  repeat' first
      | (with_reducible exact tdparse_Dimension.mono _ _)
      | (with_reducible exact LeO.refl _)
      | (with_reducible exact LeO.none _)
      | (with_reducible refine LeO.ite ?_ ?_)
      | (with_reducible refine LeO.bind ?_ (fun _ => ?_))
      | exact tdparse_Dimension.mono _ _
      | exact LeO.none _
      | refine LeO.ite ?_ ?_
      | refine LeO.bind ?_ (fun _ => ?_)
set_option maxHeartbeats 8000000 in
set_option maxRecDepth 100000 in
theorem impl_DimensionLength.calls (k : Nat) (A0 : Option Addr) (c0 : Nat) (l0 : List Int) (r1 : Int) (r2 : Int) (w : World) (hr0 : Kd.C (Kd.int .u8) w A0 l0.length l0) (hc0 : l0.length ≤ c0) (h : impl_DimensionLength.f k l0 = some (r1, r2)) :
    Calls Try.prog 25 #[.slice A0 l0.length c0] w fun e w' => e = .returned (.tuple #[.int .i64 r1, .int .i64 r2]) ∧ Below w.heap.size w w' := by
  have HR0 := Aside0.mk hr0
  have HC0 := Aside0.mk hc0
  clear hr0 hc0
  have HB := Aside0.mk (Below.refl w.heap.size w)
  have H : ((impl_own.f l0).bind fun t157 => ((tdparse_Dimension.f k t157).bind fun bt160 => (some (bt160.1, bt160.2)))) = some (r1, r2) := h
  clear h
  replace H := Option.bind_eq_some_iff.mp H
  obtain ⟨t157, A20, H⟩ := H
  replace H : ((tdparse_Dimension.f k t157).bind fun bt160 => (some (bt160.1, bt160.2))) = some (r1, r2) := H
  have A2 := Aside0.mk A20
  clear A20
  replace H := Option.bind_eq_some_iff.mp H
  obtain ⟨⟨t160, t161⟩, A30, H⟩ := H
  replace H : (some (t160, t161)) = some (r1, r2) := H
  have A3 := Aside0.mk A30
  clear A30
  as_aux_lemma =>
    simp only [Option.some.injEq, Prod.mk.injEq] at H
    obtain ⟨rfl, rfl⟩ := H
    go_enter Try.func25, Try.ntmps25
    go_wp2_with (first | ((with_reducible refine gate_callee (f := 48) rfl ?_); refine goesL_ (some 5) rfl rfl Try.func48 (by kernel_rfl) rfl #[.slice A0 l0.length c0] rfl (by (try simp only [List.map_toArray, List.map_cons, List.map_nil]); first | done | rfl | (simp only [List.length_drop, List.length_take]; rfl)) ?_; (with_reducible refine (impl_own.calls _ _ l0 t157 _ ?side1 ?side2 A2.out).mono ?_); (case side1 => repeat (first | exact HR0.out | (with_reducible refine Kd.C_alloc ?_ _) | (with_reducible refine Kd.C_drewN ?_ _) | (with_reducible refine Kd.C_drew ?_))); (case side2 => exact HC0.out); rintro e w4 ⟨v158, rfl, ho0, hb⟩; refine ⟨_, rfl, ?_⟩; have n0_ := Aside0.mk (Kd.R_lower ho0 (below_size (by repeat (first | (with_reducible first | exact HB.out | apply below_alloc | apply pw_below_drewN | apply below_drew1) | exact HB.out)))); have n1_ := Aside0.mk (below_step (by repeat (first | (with_reducible first | exact HB.out | apply below_alloc | apply pw_below_drewN | apply below_drew1) | exact HB.out)) hb); clear HB; have HO159 := n0_; have HB := n1_; clear n0_ n1_; (try clear hb); (try clear hb2); (try clear hk); (try clear hi); (try clear ho0); obtain ⟨Ao5, co5, eo5⟩ := Kd.R_slice HO159.out; subst eo5) | ((with_reducible refine gate_callee (f := 55) rfl ?_); refine goesL_ (some 6) rfl rfl Try.func55 (by kernel_rfl) rfl #[.slice Ao5 t157.length co5] rfl (by (try simp only [List.map_toArray, List.map_cons, List.map_nil]); first | done | rfl | (simp only [List.length_drop, List.length_take]; rfl)) ?_; (with_reducible refine (tdparse_Dimension.calls k _ _ t157 t160 t161 _ ?side1 ?side2 A3.out).mono ?_); (case side1 => repeat (first | exact (Kd.R_reads' HO159.out).2.2 | (with_reducible refine Kd.C_alloc ?_ _) | (with_reducible refine Kd.C_drewN ?_ _) | (with_reducible refine Kd.C_drew ?_))); (case side2 => exact (Kd.R_reads' HO159.out).2.1); rintro e w' ⟨rfl, ⟨nd, rfl⟩⟩; refine ⟨_, rfl, ?_⟩))
    go_ret2
    exact ⟨by first | rfl | (simp [errW_none, errW_some] <;> rfl) | (simp [*, errW_none, errW_some] <;> rfl), by repeat (first | (with_reducible first | exact HB.out | apply below_alloc | apply pw_below_drewN | apply below_drew1) | exact HB.out)⟩

/-! ### spec_LowerByte: function 56 -/
def spec_LowerByte.f (a0 : Int) : Option (Int) := if a0 ≥ 65 then (if a0 ≤ 90 then (some ((a0 + 32) % 256)) else (some a0)) else (some a0)
set_option maxHeartbeats 8000000 in
set_option maxRecDepth 100000 in
theorem spec_LowerByte.calls (a0 : Int) (r : Int) (w : World) (h : spec_LowerByte.f a0 = some r) :
    Calls Try.prog 56 #[.int .u8 a0] w fun e w' => e = .returned (.int .u8 r) ∧ Drawn0 w w' := by
  have H : (if a0 ≥ 65 then (if a0 ≤ 90 then (some ((a0 + 32) % 256)) else (some a0)) else (some a0)) = some r := h
  clear h
  by_cases c2 : a0 ≥ 65
  · rw [if_pos c2] at H
    have c2b0 : decide (65 ≤ a0) = true := decide_eq_true c2
    clear c2
    by_cases c3 : a0 ≤ 90
    · rw [if_pos c3] at H
      have c3b0 : decide (a0 ≤ 90) = true := decide_eq_true c3
      clear c3
      as_aux_lemma =>
        obtain rfl := Option.some.inj H
        go_enter Try.func56, Try.ntmps56
        go_wp2
        go_ret
        exact ⟨by first | rfl | (simp; done) | (simp [*]; done), by repeat (first | exact Drawn0.refl _ | apply Drawn0.step)⟩
    · rw [if_neg c3] at H
      have c3b0 : decide (a0 ≤ 90) = false := decide_eq_false c3
      clear c3
      as_aux_lemma =>
        obtain rfl := Option.some.inj H
        go_enter Try.func56, Try.ntmps56
        go_wp2
        go_ret
        exact ⟨by first | rfl | (simp; done) | (simp [*]; done), by repeat (first | exact Drawn0.refl _ | apply Drawn0.step)⟩
  · rw [if_neg c2] at H
    have c2b0 : decide (65 ≤ a0) = false := decide_eq_false c2
    clear c2
    as_aux_lemma =>
      obtain rfl := Option.some.inj H
      go_enter Try.func56, Try.ntmps56
      go_wp2
      go_ret
      exact ⟨by first | rfl | (simp; done) | (simp [*]; done), by repeat (first | exact Drawn0.refl _ | apply Drawn0.step)⟩

end Go.Proofs.Yteklgpjdcdkdpaa.PFnNumberDimension
