-- Laid by a program of this session, out of the translation's print.
import Derived.Test.YtgpmmmlmaaiobaaDoorPFnInputStreamx0
namespace Go.Proofs.YtgpmmmlmaaiobaaDoor.PFnInputStream
open Go.Proofs.YtgpmmmlmaaiobaaDoor.Own
open Go.RowKit Go.Proofs.YtgpmmmlmaaiobaaDoorW.PrintWords Go.Proofs.YtgpmmmlmaaiobaaDoorW.PrintLast Go.Proofs.YtgpmmmlmaaiobaaDoorW.PrintMore
attribute [local go_sem] max2_int min2_int max_two min_two max_three min_three max_four min_four   -- for this text's walks alone
set_option linter.unusedVariables false
set_option linter.unusedSimpArgs false

/-! ### spec_RuneAt: function 67 -/
mutual
def spec_RuneAt.j0 : Nat → List Int → Int → Bool → Option (Int × Int)
  | 0, _, _, _ => none
  | k + 1, x0, x1, x18 => if x18 = true then (some (0, 0)) else (if 0 ≤ x1 then (if x1 < (x0.length : Int) then (if (rd x0 x1) < 128 then (some (wrap64 (rd x0 x1), 1)) else (if (rd x0 x1) ≥ 192 then (spec_RuneAt.j1 k x0 x1 (rd x0 x1) 0 0 0 (decide ((rd x0 x1) < 224))) else (spec_RuneAt.j1 k x0 x1 (rd x0 x1) 0 0 0 false))) else (none)) else (none))
def spec_RuneAt.j3 : Nat → List Int → Int → Int → Int → Int → Option (Int × Int)
  | 0, _, _, _, _, _ => none
  | k + 1, x0, x1, x7, x8, x9 => if x7 = 0 then (spec_RuneAt.j4 k x0 x1 x7 x8 x9 true) else (spec_RuneAt.j4 k x0 x1 x7 x8 x9 (decide ((wrap64 (x1 + x7)) > (x0.length : Int))))
def spec_RuneAt.j4 : Nat → List Int → Int → Int → Int → Int → Bool → Option (Int × Int)
  | 0, _, _, _, _, _, _ => none
  | k + 1, x0, x1, x7, x8, x9, x66 => if x66 = true then (some (0, 0)) else (spec_RuneAt.l0 k x0 x1 x7 x8 x9 1)
def spec_RuneAt.l0 : Nat → List Int → Int → Int → Int → Int → Int → Option (Int × Int)
  | 0, _, _, _, _, _, _ => none
  | k + 1, x0, x1, x7, x8, x9, x10 => if x10 < x7 then (if 0 ≤ (wrap64 (x1 + x10)) then (if (wrap64 (x1 + x10)) < (x0.length : Int) then (if (Go.bits .and .u8 (rd x0 (wrap64 (x1 + x10))) 192) = 128 then (spec_RuneAt.l0 k x0 x1 x7 x8 (Go.bits .or .i64 (wrap64 (x9 * 64)) (wrap64 (Go.bits .and .u8 (rd x0 (wrap64 (x1 + x10))) 63))) (wrap64 (x10 + 1))) else (some (0, 0))) else (none)) else (none)) else (if x9 < x8 then (some (0, 0)) else (if x9 > 1114111 then (some (0, 0)) else (if x9 ≥ 55296 then (if x9 < 57344 then (some (0, 0)) else (some (x9, x7))) else (some (x9, x7)))))
def spec_RuneAt.j1 : Nat → List Int → Int → Int → Int → Int → Int → Bool → Option (Int × Int)
  | 0, _, _, _, _, _, _, _ => none
  | k + 1, x0, x1, x6, x7, x8, x9, x27 => if x27 = true then (spec_RuneAt.j3 k x0 x1 2 128 (wrap64 (Go.bits .and .u8 x6 31))) else (if x6 ≥ 224 then (spec_RuneAt.j2 k x0 x1 x6 x7 x8 x9 (decide (x6 < 240))) else (spec_RuneAt.j2 k x0 x1 x6 x7 x8 x9 false))
def spec_RuneAt.j2 : Nat → List Int → Int → Int → Int → Int → Int → Bool → Option (Int × Int)
  | 0, _, _, _, _, _, _, _ => none
  | k + 1, x0, x1, x6, x7, x8, x9, x37 => if x37 = true then (spec_RuneAt.j3 k x0 x1 3 2048 (wrap64 (Go.bits .and .u8 x6 15))) else (if x6 ≥ 240 then (if x6 < 248 then (spec_RuneAt.j3 k x0 x1 4 65536 (wrap64 (Go.bits .and .u8 x6 7))) else (spec_RuneAt.j3 k x0 x1 x7 x8 x9)) else (spec_RuneAt.j3 k x0 x1 x7 x8 x9))
end
def spec_RuneAt.f (k : Nat) (l0 : List Int) (a1 : Int) : Option (Int × Int) := if a1 < 0 then (spec_RuneAt.j0 k l0 a1 true) else (spec_RuneAt.j0 k l0 a1 (decide (a1 ≥ (l0.length : Int))))
theorem spec_RuneAt.mono_l : ∀ k, (∀ y0 y1 y2, LeO (spec_RuneAt.j0 k y0 y1 y2) (spec_RuneAt.j0 (k + 1) y0 y1 y2)) ∧ (∀ y0 y1 y2 y3 y4, LeO (spec_RuneAt.j3 k y0 y1 y2 y3 y4) (spec_RuneAt.j3 (k + 1) y0 y1 y2 y3 y4)) ∧ (∀ y0 y1 y2 y3 y4 y5, LeO (spec_RuneAt.j4 k y0 y1 y2 y3 y4 y5) (spec_RuneAt.j4 (k + 1) y0 y1 y2 y3 y4 y5)) ∧ (∀ y0 y1 y2 y3 y4 y5, LeO (spec_RuneAt.l0 k y0 y1 y2 y3 y4 y5) (spec_RuneAt.l0 (k + 1) y0 y1 y2 y3 y4 y5)) ∧ (∀ y0 y1 y2 y3 y4 y5 y6, LeO (spec_RuneAt.j1 k y0 y1 y2 y3 y4 y5 y6) (spec_RuneAt.j1 (k + 1) y0 y1 y2 y3 y4 y5 y6)) ∧ (∀ y0 y1 y2 y3 y4 y5 y6, LeO (spec_RuneAt.j2 k y0 y1 y2 y3 y4 y5 y6) (spec_RuneAt.j2 (k + 1) y0 y1 y2 y3 y4 y5 y6))
  | 0 => ⟨fun _ _ _ r h => by simp [spec_RuneAt.j0] at h, fun _ _ _ _ _ r h => by simp [spec_RuneAt.j3] at h, fun _ _ _ _ _ _ r h => by simp [spec_RuneAt.j4] at h, fun _ _ _ _ _ _ r h => by simp [spec_RuneAt.l0] at h, fun _ _ _ _ _ _ _ r h => by simp [spec_RuneAt.j1] at h, fun _ _ _ _ _ _ _ r h => by simp [spec_RuneAt.j2] at h⟩
  | k + 1 => by
    obtain ⟨ih0, ih1, ih2, ih3, ih4, ih5⟩ := spec_RuneAt.mono_l k
    refine ⟨?_, ?_, ?_, ?_, ?_, ?_⟩
    · intro y0 y1 y2
      unfold spec_RuneAt.j0
      repeat' first
      | (with_reducible exact ih0 _ _ _)
      | (with_reducible exact ih1 _ _ _ _ _)
      | (with_reducible exact ih2 _ _ _ _ _ _)
      | (with_reducible exact ih3 _ _ _ _ _ _)
      | (with_reducible exact ih4 _ _ _ _ _ _ _)
      | (with_reducible exact ih5 _ _ _ _ _ _ _)
      | (with_reducible exact LeO.refl _)
      | (with_reducible exact LeO.none _)
      | (with_reducible refine LeO.ite ?_ ?_)
      | (with_reducible refine LeO.bind ?_ (fun _ => ?_))
      | exact ih0 _ _ _
      | exact ih1 _ _ _ _ _
      | exact ih2 _ _ _ _ _ _
      | exact ih3 _ _ _ _ _ _
      | exact ih4 _ _ _ _ _ _ _
      | exact ih5 _ _ _ _ _ _ _
      | exact LeO.none _
      | refine LeO.ite ?_ ?_
      | refine LeO.bind ?_ (fun _ => ?_)
    · intro y0 y1 y2 y3 y4
      unfold spec_RuneAt.j3
      repeat' first
      | (with_reducible exact ih0 _ _ _)
      | (with_reducible exact ih1 _ _ _ _ _)
      | (with_reducible exact ih2 _ _ _ _ _ _)
      | (with_reducible exact ih3 _ _ _ _ _ _)
      | (with_reducible exact ih4 _ _ _ _ _ _ _)
      | (with_reducible exact ih5 _ _ _ _ _ _ _)
      | (with_reducible exact LeO.refl _)
      | (with_reducible exact LeO.none _)
      | (with_reducible refine LeO.ite ?_ ?_)
      | (with_reducible refine LeO.bind ?_ (fun _ => ?_))
      | exact ih0 _ _ _
      | exact ih1 _ _ _ _ _
      | exact ih2 _ _ _ _ _ _
      | exact ih3 _ _ _ _ _ _
      | exact ih4 _ _ _ _ _ _ _
      | exact ih5 _ _ _ _ _ _ _
      | exact LeO.none _
      | refine LeO.ite ?_ ?_
      | refine LeO.bind ?_ (fun _ => ?_)
    · intro y0 y1 y2 y3 y4 y5
      unfold spec_RuneAt.j4
      repeat' first
      | (with_reducible exact ih0 _ _ _)
      | (with_reducible exact ih1 _ _ _ _ _)
      | (with_reducible exact ih2 _ _ _ _ _ _)
      | (with_reducible exact ih3 _ _ _ _ _ _)
      | (with_reducible exact ih4 _ _ _ _ _ _ _)
      | (with_reducible exact ih5 _ _ _ _ _ _ _)
      | (with_reducible exact LeO.refl _)
      | (with_reducible exact LeO.none _)
      | (with_reducible refine LeO.ite ?_ ?_)
      | (with_reducible refine LeO.bind ?_ (fun _ => ?_))
      | exact ih0 _ _ _
      | exact ih1 _ _ _ _ _
      | exact ih2 _ _ _ _ _ _
      | exact ih3 _ _ _ _ _ _
      | exact ih4 _ _ _ _ _ _ _
      | exact ih5 _ _ _ _ _ _ _
      | exact LeO.none _
      | refine LeO.ite ?_ ?_
      | refine LeO.bind ?_ (fun _ => ?_)
    · intro y0 y1 y2 y3 y4 y5
      unfold spec_RuneAt.l0
      repeat' first
      | (with_reducible exact ih0 _ _ _)
      | (with_reducible exact ih1 _ _ _ _ _)
      | (with_reducible exact ih2 _ _ _ _ _ _)
      | (with_reducible exact ih3 _ _ _ _ _ _)
      | (with_reducible exact ih4 _ _ _ _ _ _ _)
      | (with_reducible exact ih5 _ _ _ _ _ _ _)
      | (with_reducible exact LeO.refl _)
      | (with_reducible exact LeO.none _)
      | (with_reducible refine LeO.ite ?_ ?_)
      | (with_reducible refine LeO.bind ?_ (fun _ => ?_))
      | exact ih0 _ _ _
      | exact ih1 _ _ _ _ _
      | exact ih2 _ _ _ _ _ _
      | exact ih3 _ _ _ _ _ _
      | exact ih4 _ _ _ _ _ _ _
      | exact ih5 _ _ _ _ _ _ _
      | exact LeO.none _
      | refine LeO.ite ?_ ?_
      | refine LeO.bind ?_ (fun _ => ?_)
    · intro y0 y1 y2 y3 y4 y5 y6
      unfold spec_RuneAt.j1
      repeat' first
      | (with_reducible exact ih0 _ _ _)
      | (with_reducible exact ih1 _ _ _ _ _)
      | (with_reducible exact ih2 _ _ _ _ _ _)
      | (with_reducible exact ih3 _ _ _ _ _ _)
      | (with_reducible exact ih4 _ _ _ _ _ _ _)
      | (with_reducible exact ih5 _ _ _ _ _ _ _)
      | (with_reducible exact LeO.refl _)
      | (with_reducible exact LeO.none _)
      | (with_reducible refine LeO.ite ?_ ?_)
      | (with_reducible refine LeO.bind ?_ (fun _ => ?_))
      | exact ih0 _ _ _
      | exact ih1 _ _ _ _ _
      | exact ih2 _ _ _ _ _ _
      | exact ih3 _ _ _ _ _ _
      | exact ih4 _ _ _ _ _ _ _
      | exact ih5 _ _ _ _ _ _ _
      | exact LeO.none _
      | refine LeO.ite ?_ ?_
      | refine LeO.bind ?_ (fun _ => ?_)
    · intro y0 y1 y2 y3 y4 y5 y6
      unfold spec_RuneAt.j2
      repeat' first
      | (with_reducible exact ih0 _ _ _)
      | (with_reducible exact ih1 _ _ _ _ _)
      | (with_reducible exact ih2 _ _ _ _ _ _)
      | (with_reducible exact ih3 _ _ _ _ _ _)
      | (with_reducible exact ih4 _ _ _ _ _ _ _)
      | (with_reducible exact ih5 _ _ _ _ _ _ _)
      | (with_reducible exact LeO.refl _)
      | (with_reducible exact LeO.none _)
      | (with_reducible refine LeO.ite ?_ ?_)
      | (with_reducible refine LeO.bind ?_ (fun _ => ?_))
      | exact ih0 _ _ _
      | exact ih1 _ _ _ _ _
      | exact ih2 _ _ _ _ _ _
      | exact ih3 _ _ _ _ _ _
      | exact ih4 _ _ _ _ _ _ _
      | exact ih5 _ _ _ _ _ _ _
      | exact LeO.none _
      | refine LeO.ite ?_ ?_
      | refine LeO.bind ?_ (fun _ => ?_)
theorem spec_RuneAt.mono : ∀ a0 a1 k, LeO (spec_RuneAt.f k a0 a1) (spec_RuneAt.f (k + 1) a0 a1) := by
  intro a0 a1 k
  obtain ⟨ih0, ih1, ih2, ih3, ih4, ih5⟩ := spec_RuneAt.mono_l k
  unfold spec_RuneAt.f
  repeat' first
      | (with_reducible exact ih0 _ _ _)
      | (with_reducible exact ih1 _ _ _ _ _)
      | (with_reducible exact ih2 _ _ _ _ _ _)
      | (with_reducible exact ih3 _ _ _ _ _ _)
      | (with_reducible exact ih4 _ _ _ _ _ _ _)
      | (with_reducible exact ih5 _ _ _ _ _ _ _)
      | (with_reducible exact LeO.refl _)
      | (with_reducible exact LeO.none _)
      | (with_reducible refine LeO.ite ?_ ?_)
      | (with_reducible refine LeO.bind ?_ (fun _ => ?_))
      | exact ih0 _ _ _
      | exact ih1 _ _ _ _ _
      | exact ih2 _ _ _ _ _ _
      | exact ih3 _ _ _ _ _ _
      | exact ih4 _ _ _ _ _ _ _
      | exact ih5 _ _ _ _ _ _ _
      | exact LeO.none _
      | refine LeO.ite ?_ ?_
      | refine LeO.bind ?_ (fun _ => ?_)
set_option maxHeartbeats 8000000 in
set_option maxRecDepth 100000 in
theorem spec_RuneAt.calls (k : Nat) (A0 : Option Addr) (c0 : Nat) (l0 : List Int) (a1 : Int) (r1 : Int) (r2 : Int) (w : World) (hr0 : Kd.C (Kd.int .u8) w A0 l0.length l0) (hc0 : l0.length ≤ c0) (h : spec_RuneAt.f k l0 a1 = some (r1, r2)) :
    Calls Tryd.prog 67 #[.slice A0 l0.length c0, .int .i64 a1] w fun e w' => e = .returned (.tuple #[.int .i64 r1, .int .i64 r2]) ∧ Drawn0 w w' := by
  have HR0 := Aside0.mk hr0
  have HC0 := Aside0.mk hc0
  clear hr0 hc0
  have H : (if a1 < 0 then (spec_RuneAt.j0 k l0 a1 true) else (spec_RuneAt.j0 k l0 a1 (decide (a1 ≥ (l0.length : Int))))) = some (r1, r2) := h
  clear h
  have HC3 := Aside0.mk H
  clear H
  go_enter Tryd.func67, Tryd.ntmps67
  go_upto_region 1 with (fail)
  go_cut [18] (fun v18 wc => ∃ (kq : Nat) (x18_2 : Bool), v18 = .bool x18_2 ∧ Aside0 (spec_RuneAt.j0 kq l0 a1 x18_2 = some (r1, r2)) ∧ Aside0 (kq ≤ k) ∧ Drawn0 w wc)
  case first =>
    have H := HC3.out
    clear HC3
    by_cases c4 : a1 < 0
    · rw [if_pos c4] at H
      have c4b0 : decide (a1 < 0) = true := decide_eq_true c4
      clear c4
      (first | rw [c4b0] | (simp only [i64_w, i32_w]; rw [c4b0]) | skip)
      have H' := Aside0.mk H
      clear H
      go_wp2
      go_meet
      case rel => exact ⟨_, (true), (by first | rfl | (simp; done) | (simp [*]; done)), H', ⟨by first | omega | exact Nat.le_refl _⟩, by repeat (first | exact Drawn0.refl _ | apply Drawn0.step)⟩
    · rw [if_neg c4] at H
      have c4b0 : decide (a1 < 0) = false := decide_eq_false c4
      clear c4
      (first | rw [c4b0] | (simp only [i64_w, i32_w]; rw [c4b0]) | skip)
      have H' := Aside0.mk H
      clear H
      go_wp2
      go_meet
      case rel => exact ⟨_, (decide (a1 ≥ (l0.length : Int))), (by first | rfl | (simp; done) | (simp [*]; done)), H', ⟨by first | omega | exact Nat.le_refl _⟩, by repeat (first | exact Drawn0.refl _ | apply Drawn0.step)⟩
  case rest =>
    clear HC3
    try clear p2
    try clear c4
    try clear c4b0
    obtain ⟨kq, x18_2, rfl, HA, HJ2, ⟨mc2, rfl⟩⟩ := hcut
    cases kq with
    | zero => exact absurd HA.out (by simp [spec_RuneAt.j0])
    | succ kj2 =>
      have H := HA.out
      clear HA
      simp only [spec_RuneAt.j0] at H
      by_cases c5 : x18_2 = true
      · subst c5
        have H1 : (some (0, 0)) = some (r1, r2) := by rw [if_pos rfl] at H; exact H
        clear H
        have H := H1
        clear H1
        simp only [Option.some.injEq, Prod.mk.injEq] at H
        obtain ⟨rfl, rfl⟩ := H
        go_wp2
        go_ret2
        exact ⟨by first | rfl | (simp; done) | (simp [*]; done), by repeat (first | exact Drawn0.refl _ | apply Drawn0.step)⟩
      · replace c5 := Bool.eq_false_iff.mpr c5
        subst c5
        have H1 : (if 0 ≤ a1 then (if a1 < (l0.length : Int) then (if (rd l0 a1) < 128 then (some (wrap64 (rd l0 a1), 1)) else (if (rd l0 a1) ≥ 192 then (spec_RuneAt.j1 kj2 l0 a1 (rd l0 a1) 0 0 0 (decide ((rd l0 a1) < 224))) else (spec_RuneAt.j1 kj2 l0 a1 (rd l0 a1) 0 0 0 false))) else (none)) else (none)) = some (r1, r2) := by rw [if_neg (show ¬ (false = true) by decide)] at H; exact H
        clear H
        have H := H1
        clear H1
        by_cases c6 : 0 ≤ a1
        · rw [if_pos c6] at H
          have c6b0 : decide (0 ≤ a1) = true := decide_eq_true c6
          clear c6
          by_cases c7 : a1 < (l0.length : Int)
          · rw [if_pos c7] at H
            have c7b0 : decide (a1 < (l0.length : Int)) = true := decide_eq_true c7
            clear c7
            by_cases c8 : (rd l0 a1) < 128
            · rw [if_pos c8] at H
              have c8b0 : decide ((rd l0 a1) < 128) = true := decide_eq_true c8
              clear c8
              simp only [Option.some.injEq, Prod.mk.injEq] at H
              obtain ⟨rfl, rfl⟩ := H
              have p109 : 0 ≤ (a1 : Int) := of_decide_eq_true (by first | (with_reducible assumption) | assumption)
              have q109 : a1 < (l0.length : Int) := of_decide_eq_true (by first | (with_reducible assumption) | assumption)
              obtain ⟨ad109, e109, hx109_0⟩ := Kd.at_int HR0.out a1 p109 q109
              cases e109
              replace p109 := eq_true p109
              replace q109 := eq_true q109
              go_wp2
              go_ret2
              exact ⟨by first | rfl | (simp; done) | (simp [*]; done), by repeat (first | exact Drawn0.refl _ | apply Drawn0.step)⟩
            · rw [if_neg c8] at H
              have c8b0 : decide ((rd l0 a1) < 128) = false := decide_eq_false c8
              clear c8
              have HC9 := Aside0.mk H
              clear H
              have p109 : 0 ≤ (a1 : Int) := of_decide_eq_true (by first | (with_reducible assumption) | assumption)
              have q109 : a1 < (l0.length : Int) := of_decide_eq_true (by first | (with_reducible assumption) | assumption)
              obtain ⟨ad109, e109, hx109_0⟩ := Kd.at_int HR0.out a1 p109 q109
              cases e109
              replace p109 := eq_true p109
              replace q109 := eq_true q109
              go_upto_block 0 with (fail)
              go_cut [7, 8, 9] (fun v7 v8 v9 wc => ∃ (kq : Nat) (x7_8 : Int) (x8_8 : Int) (x9_8 : Int), v7 = .int .i64 x7_8 ∧ v8 = .int .i64 x8_8 ∧ v9 = .int .i64 x9_8 ∧ Aside0 (spec_RuneAt.j3 kq l0 a1 x7_8 x8_8 x9_8 = some (r1, r2)) ∧ Aside0 (kq ≤ kj2) ∧ Drawn0 w wc)
              case first =>
                have H := HC9.out
                clear HC9
                have HC10 := Aside0.mk H
                clear H
                go_upto_region 7 with (fail)
                go_cut [27] (fun v27 wc => ∃ (kq : Nat) (x27_9 : Bool), v27 = .bool x27_9 ∧ Aside0 (spec_RuneAt.j1 kq l0 a1 (rd l0 a1) 0 0 0 x27_9 = some (r1, r2)) ∧ Aside0 (kq ≤ kj2) ∧ Drawn0 w wc)
                case first =>
                  have H := HC10.out
                  clear HC10
                  by_cases c11 : (rd l0 a1) ≥ 192
                  · rw [if_pos c11] at H
                    have c11b0 : decide (192 ≤ (rd l0 a1)) = true := decide_eq_true c11
                    clear c11
                    (first | rw [c11b0] | (simp only [i64_w, i32_w]; rw [c11b0]) | skip)
                    have H' := Aside0.mk H
                    clear H
                    go_wp2
                    go_meet
                    case rel => exact ⟨_, (decide ((rd l0 a1) < 224)), (by first | rfl | (simp; done) | (simp [*]; done)), H', ⟨by have := HJ2.out; first | omega | exact Nat.le_refl _⟩, by repeat (first | exact Drawn0.refl _ | apply Drawn0.step)⟩
                  · rw [if_neg c11] at H
                    have c11b0 : decide (192 ≤ (rd l0 a1)) = false := decide_eq_false c11
                    clear c11
                    (first | rw [c11b0] | (simp only [i64_w, i32_w]; rw [c11b0]) | skip)
                    have H' := Aside0.mk H
                    clear H
                    go_wp2
                    go_meet
                    case rel => exact ⟨_, (false), (by first | rfl | (simp; done) | (simp [*]; done)), H', ⟨by have := HJ2.out; first | omega | exact Nat.le_refl _⟩, by repeat (first | exact Drawn0.refl _ | apply Drawn0.step)⟩
                case rest =>
                  clear HC10
                  try clear c1
                  try clear p1
                  try clear q1
                  try clear hx1
                  try clear c2
                  try clear p2
                  try clear c4
                  try clear c4b0
                  try clear c5
                  try clear c6
                  try clear c6b0
                  try clear p6
                  try clear c7
                  try clear c7b0
                  try clear c8
                  try clear c8b0
                  try clear p10
                  try clear q10
                  try clear hx10
                  try clear c11
                  try clear c11b0
                  try clear hx109_0
                  try clear p109
                  try clear p2
                  try clear q109
                  obtain ⟨kq, x27_9, rfl, HA, HJ9, ⟨mc9, rfl⟩⟩ := hcut
                  cases kq with
                  | zero => exact absurd HA.out (by simp [spec_RuneAt.j1])
                  | succ kj9 =>
                    have H := HA.out
                    clear HA
                    simp only [spec_RuneAt.j1] at H
                    by_cases c12 : x27_9 = true
                    · subst c12
                      have H1 : (spec_RuneAt.j3 kj9 l0 a1 2 128 (wrap64 (Go.bits .and .u8 (rd l0 a1) 31))) = some (r1, r2) := by rw [if_pos rfl] at H; exact H
                      clear H
                      have H := H1
                      clear H1
                      have H' := Aside0.mk H
                      clear H
                      go_wp2
                      go_meet
                      case rel => exact ⟨_, (2), (128), (wrap64 (Go.bits .and .u8 (rd l0 a1) 31)), (by first | rfl | (simp; done) | (simp [*]; done)), (by first | rfl | (simp; done) | (simp [*]; done)), (by first | rfl | (simp; done) | (simp [*]; done)), H', ⟨by have := HJ2.out; have := HJ9.out; first | omega | exact Nat.le_refl _⟩, by repeat (first | exact Drawn0.refl _ | apply Drawn0.step)⟩
                    · replace c12 := Bool.eq_false_iff.mpr c12
                      subst c12
                      have H1 : (if (rd l0 a1) ≥ 224 then (spec_RuneAt.j2 kj9 l0 a1 (rd l0 a1) 0 0 0 (decide ((rd l0 a1) < 240))) else (spec_RuneAt.j2 kj9 l0 a1 (rd l0 a1) 0 0 0 false)) = some (r1, r2) := by rw [if_neg (show ¬ (false = true) by decide)] at H; exact H
                      clear H
                      have H := H1
                      clear H1
                      have HC13 := Aside0.mk H
                      clear H
                      go_upto_region 9 with (fail)
                      go_cut [37] (fun v37 wc => ∃ (kq : Nat) (x37_12 : Bool), v37 = .bool x37_12 ∧ Aside0 (spec_RuneAt.j2 kq l0 a1 (rd l0 a1) 0 0 0 x37_12 = some (r1, r2)) ∧ Aside0 (kq ≤ kj9) ∧ Drawn0 w wc)
                      case first =>
                        have H := HC13.out
                        clear HC13
                        by_cases c14 : (rd l0 a1) ≥ 224
                        · rw [if_pos c14] at H
                          have c14b0 : decide (224 ≤ (rd l0 a1)) = true := decide_eq_true c14
                          clear c14
                          (first | rw [c14b0] | (simp only [i64_w, i32_w]; rw [c14b0]) | skip)
                          have H' := Aside0.mk H
                          clear H
                          go_wp2
                          go_meet
                          case rel => exact ⟨_, (decide ((rd l0 a1) < 240)), (by first | rfl | (simp; done) | (simp [*]; done)), H', ⟨by have := HJ2.out; have := HJ9.out; first | omega | exact Nat.le_refl _⟩, by repeat (first | exact Drawn0.refl _ | apply Drawn0.step)⟩
                        · rw [if_neg c14] at H
                          have c14b0 : decide (224 ≤ (rd l0 a1)) = false := decide_eq_false c14
                          clear c14
                          (first | rw [c14b0] | (simp only [i64_w, i32_w]; rw [c14b0]) | skip)
                          have H' := Aside0.mk H
                          clear H
                          go_wp2
                          go_meet
                          case rel => exact ⟨_, (false), (by first | rfl | (simp; done) | (simp [*]; done)), H', ⟨by have := HJ2.out; have := HJ9.out; first | omega | exact Nat.le_refl _⟩, by repeat (first | exact Drawn0.refl _ | apply Drawn0.step)⟩
                      case rest =>
                        clear HC13
                        try clear c1
                        try clear p1
                        try clear q1
                        try clear hx1
                        try clear c2
                        try clear p2
                        try clear c4
                        try clear c4b0
                        try clear c5
                        try clear c6
                        try clear c6b0
                        try clear p6
                        try clear c7
                        try clear c7b0
                        try clear c8
                        try clear c8b0
                        try clear c9
                        try clear p10
                        try clear q10
                        try clear hx10
                        try clear c11
                        try clear c11b0
                        try clear c12
                        try clear c14
                        try clear c14b0
                        try clear hx109_0
                        try clear p1
                        try clear p10
                        try clear p109
                        try clear p2
                        try clear p6
                        try clear q1
                        try clear q10
                        try clear q109
                        obtain ⟨kq, x37_12, rfl, HA, HJ12, ⟨mc12, rfl⟩⟩ := hcut
                        cases kq with
                        | zero => exact absurd HA.out (by simp [spec_RuneAt.j2])
                        | succ kj12 =>
                          have H := HA.out
                          clear HA
                          simp only [spec_RuneAt.j2] at H
                          by_cases c15 : x37_12 = true
                          · subst c15
                            have H1 : (spec_RuneAt.j3 kj12 l0 a1 3 2048 (wrap64 (Go.bits .and .u8 (rd l0 a1) 15))) = some (r1, r2) := by rw [if_pos rfl] at H; exact H
                            clear H
                            have H := H1
                            clear H1
                            have H' := Aside0.mk H
                            clear H
                            go_wp2
                            go_meet
                            case rel => exact ⟨_, (3), (2048), (wrap64 (Go.bits .and .u8 (rd l0 a1) 15)), (by first | rfl | (simp; done) | (simp [*]; done)), (by first | rfl | (simp; done) | (simp [*]; done)), (by first | rfl | (simp; done) | (simp [*]; done)), H', ⟨by have := HJ2.out; have := HJ9.out; have := HJ12.out; first | omega | exact Nat.le_refl _⟩, by repeat (first | exact Drawn0.refl _ | apply Drawn0.step)⟩
                          · replace c15 := Bool.eq_false_iff.mpr c15
                            subst c15
                            have H1 : (if (rd l0 a1) ≥ 240 then (if (rd l0 a1) < 248 then (spec_RuneAt.j3 kj12 l0 a1 4 65536 (wrap64 (Go.bits .and .u8 (rd l0 a1) 7))) else (spec_RuneAt.j3 kj12 l0 a1 0 0 0)) else (spec_RuneAt.j3 kj12 l0 a1 0 0 0)) = some (r1, r2) := by rw [if_neg (show ¬ (false = true) by decide)] at H; exact H
                            clear H
                            have H := H1
                            clear H1
                            by_cases c16 : (rd l0 a1) ≥ 240
                            · rw [if_pos c16] at H
                              have c16b0 : decide (240 ≤ (rd l0 a1)) = true := decide_eq_true c16
                              clear c16
                              by_cases c17 : (rd l0 a1) < 248
                              · rw [if_pos c17] at H
                                have c17b0 : decide ((rd l0 a1) < 248) = true := decide_eq_true c17
                                clear c17
                                have H' := Aside0.mk H
                                clear H
                                go_wp2
                                go_meet
                                case rel => exact ⟨_, (4), (65536), (wrap64 (Go.bits .and .u8 (rd l0 a1) 7)), (by first | rfl | (simp; done) | (simp [*]; done)), (by first | rfl | (simp; done) | (simp [*]; done)), (by first | rfl | (simp; done) | (simp [*]; done)), H', ⟨by have := HJ2.out; have := HJ9.out; have := HJ12.out; first | omega | exact Nat.le_refl _⟩, by repeat (first | exact Drawn0.refl _ | apply Drawn0.step)⟩
                              · rw [if_neg c17] at H
                                have c17b0 : decide ((rd l0 a1) < 248) = false := decide_eq_false c17
                                clear c17
                                have H' := Aside0.mk H
                                clear H
                                go_wp2
                                go_meet
                                case rel => exact ⟨_, (0), (0), (0), (by first | rfl | (simp; done) | (simp [*]; done)), (by first | rfl | (simp; done) | (simp [*]; done)), (by first | rfl | (simp; done) | (simp [*]; done)), H', ⟨by have := HJ2.out; have := HJ9.out; have := HJ12.out; first | omega | exact Nat.le_refl _⟩, by repeat (first | exact Drawn0.refl _ | apply Drawn0.step)⟩
                            · rw [if_neg c16] at H
                              have c16b0 : decide (240 ≤ (rd l0 a1)) = false := decide_eq_false c16
                              clear c16
                              have H' := Aside0.mk H
                              clear H
                              go_wp2
                              go_meet
                              case rel => exact ⟨_, (0), (0), (0), (by first | rfl | (simp; done) | (simp [*]; done)), (by first | rfl | (simp; done) | (simp [*]; done)), (by first | rfl | (simp; done) | (simp [*]; done)), H', ⟨by have := HJ2.out; have := HJ9.out; have := HJ12.out; first | omega | exact Nat.le_refl _⟩, by repeat (first | exact Drawn0.refl _ | apply Drawn0.step)⟩
              case rest =>
                clear HC9
                try clear c1
                try clear p1
                try clear q1
                try clear hx1
                try clear c2
                try clear p2
                try clear c4
                try clear c4b0
                try clear c5
                try clear c6
                try clear c6b0
                try clear p6
                try clear c7
                try clear c7b0
                try clear c8
                try clear c8b0
                try clear c9
                try clear p10
                try clear q10
                try clear hx10
                try clear c11
                try clear c11b0
                try clear c12
                try clear c14
                try clear c14b0
                try clear c15
                try clear c16
                try clear c16b0
                try clear c17
                try clear c17b0
                try clear hx109_0
                try clear p1
                try clear p10
                try clear p109
                try clear p2
                try clear p6
                try clear q1
                try clear q10
                try clear q109
                obtain ⟨kq, x7_8, x8_8, x9_8, rfl, rfl, rfl, HA, HJ8, ⟨mc8, rfl⟩⟩ := hcut
                cases kq with
                | zero => exact absurd HA.out (by simp [spec_RuneAt.j3])
                | succ kj8 =>
                  have H := HA.out
                  clear HA
                  simp only [spec_RuneAt.j3] at H
                  have HC18 := Aside0.mk H
                  clear H
                  go_upto_region 13 with (fail)
                  go_cut [66] (fun v66 wc => ∃ (kq : Nat) (x66_17 : Bool), v66 = .bool x66_17 ∧ Aside0 (spec_RuneAt.j4 kq l0 a1 x7_8 x8_8 x9_8 x66_17 = some (r1, r2)) ∧ Aside0 (kq ≤ kj8) ∧ Drawn0 w wc)
                  case first =>
                    have H := HC18.out
                    clear HC18
                    by_cases c19 : x7_8 = 0
                    · rw [if_pos c19] at H
                      have c19b0 : (x7_8 == 0) = true := beq_iff_eq.mpr c19
                      have c19b1 : (x7_8 != 0) = false := bne_eq_false_iff_eq.mpr c19
                      clear c19
                      (first | rw [c19b0] | (simp only [i64_w, i32_w]; rw [c19b0]) | skip)
                      have H' := Aside0.mk H
                      clear H
                      go_wp2
                      go_meet
                      case rel => exact ⟨_, (true), (by first | rfl | (simp; done) | (simp [*]; done)), H', ⟨by have := HJ2.out; have := HJ8.out; first | omega | exact Nat.le_refl _⟩, by repeat (first | exact Drawn0.refl _ | apply Drawn0.step)⟩
                    · rw [if_neg c19] at H
                      have c19b0 : (x7_8 == 0) = false := beq_eq_false_iff_ne.mpr c19
                      have c19b1 : (x7_8 != 0) = true := bne_iff_ne.mpr c19
                      (first | rw [c19b0] | (simp only [i64_w, i32_w]; rw [c19b0]) | skip)
                      have H' := Aside0.mk H
                      clear H
                      go_wp2
                      go_meet
                      case rel => exact ⟨_, (decide ((wrap64 (a1 + x7_8)) > (l0.length : Int))), (by first | rfl | (simp; done) | (simp [*]; done)), H', ⟨by have := HJ2.out; have := HJ8.out; first | omega | exact Nat.le_refl _⟩, by repeat (first | exact Drawn0.refl _ | apply Drawn0.step)⟩
                  case rest =>
                    clear HC18
                    try clear c1
                    try clear p1
                    try clear q1
                    try clear hx1
                    try clear c2
                    try clear p2
                    try clear c4
                    try clear c4b0
                    try clear c5
                    try clear c6
                    try clear c6b0
                    try clear p6
                    try clear c7
                    try clear c7b0
                    try clear c8
                    try clear c8b0
                    try clear c9
                    try clear p10
                    try clear q10
                    try clear hx10
                    try clear c11
                    try clear c11b0
                    try clear c12
                    try clear c14
                    try clear c14b0
                    try clear c15
                    try clear c16
                    try clear c16b0
                    try clear c17
                    try clear c17b0
                    try clear c19
                    try clear c19b0
                    try clear c19b1
                    try clear hx109_0
                    try clear p1
                    try clear p10
                    try clear p109
                    try clear p2
                    try clear p6
                    try clear q1
                    try clear q10
                    try clear q109
                    obtain ⟨kq, x66_17, rfl, HA, HJ17, ⟨mc17, rfl⟩⟩ := hcut
                    cases kq with
                    | zero => exact absurd HA.out (by simp [spec_RuneAt.j4])
                    | succ kj17 =>
                      have H := HA.out
                      clear HA
                      simp only [spec_RuneAt.j4] at H
                      by_cases c20 : x66_17 = true
                      · subst c20
                        have H1 : (some (0, 0)) = some (r1, r2) := by rw [if_pos rfl] at H; exact H
                        clear H
                        have H := H1
                        clear H1
                        simp only [Option.some.injEq, Prod.mk.injEq] at H
                        obtain ⟨rfl, rfl⟩ := H
                        go_wp2
                        go_ret2
                        exact ⟨by first | rfl | (simp; done) | (simp [*]; done), by repeat (first | exact Drawn0.refl _ | apply Drawn0.step)⟩
                      · replace c20 := Bool.eq_false_iff.mpr c20
                        subst c20
                        have H1 : (spec_RuneAt.l0 kj17 l0 a1 x7_8 x8_8 x9_8 1) = some (r1, r2) := by rw [if_neg (show ¬ (false = true) by decide)] at H; exact H
                        clear H
                        have H := H1
                        clear H1
                        have H' := Aside0.mk H
                        clear H
                        go_wp2
                        go_loopg [9, 10] kj17 (fun kq v9 v10 w' => ∃ (x9_4 : Int) (x10_4 : Int), v9 = .int .i64 x9_4 ∧ v10 = .int .i64 x10_4 ∧ Aside0 (spec_RuneAt.l0 kq l0 a1 x7_8 x8_8 x9_4 x10_4 = some (r1, r2)) ∧ Aside0 (kq ≤ kj17) ∧ Drawn0 w w')
                        case atStart => exact ⟨(x9_8), (1), (by first | rfl | (simp; done) | (simp [*]; done)), (by first | rfl | (simp; done) | (simp [*]; done)), H', ⟨Nat.le_refl _⟩, by repeat (first | exact Drawn0.refl _ | apply Drawn0.step)⟩
                        case round =>
                          clear H'
                          try clear c1
                          try clear p1
                          try clear q1
                          try clear hx1
                          try clear c2
                          try clear p2
                          try clear c4
                          try clear c4b0
                          try clear c5
                          try clear c6
                          try clear c6b0
                          try clear p6
                          try clear c7
                          try clear c7b0
                          try clear c8
                          try clear c8b0
                          try clear c9
                          try clear p10
                          try clear q10
                          try clear hx10
                          try clear c11
                          try clear c11b0
                          try clear c12
                          try clear c14
                          try clear c14b0
                          try clear c15
                          try clear c16
                          try clear c16b0
                          try clear c17
                          try clear c17b0
                          try clear c19
                          try clear c19b0
                          try clear c19b1
                          try clear c20
                          try clear hx109_0
                          try clear p1
                          try clear p10
                          try clear p109
                          try clear p2
                          try clear p6
                          try clear q1
                          try clear q10
                          try clear q109
                          obtain ⟨x9_4, x10_4, rfl, rfl, HA, HK4, ⟨m4, rfl⟩⟩ := hrel
                          cases gk with
                          | zero => exact absurd HA.out (by simp [spec_RuneAt.l0])
                          | succ k4 =>
                            have H := HA.out
                            clear HA
                            simp only [spec_RuneAt.l0] at H
                            by_cases c21 : x10_4 < x7_8
                            · rw [if_pos c21] at H
                              have c21b0 : decide (x10_4 < x7_8) = true := decide_eq_true c21
                              clear c21
                              obtain ⟨ji22, hji22⟩ : ∃ j_ : Int, (wrap64 (a1 + x10_4)) = j_ := ⟨_, rfl⟩
                              replace H : (if 0 ≤ (ji22) then (if (ji22) < (l0.length : Int) then (if (Go.bits .and .u8 (rd l0 (ji22)) 192) = 128 then (spec_RuneAt.l0 k4 l0 a1 x7_8 x8_8 (Go.bits .or .i64 (wrap64 (x9_4 * 64)) (wrap64 (Go.bits .and .u8 (rd l0 (ji22)) 63))) (wrap64 (x10_4 + 1))) else (some (0, 0))) else (none)) else (none)) = some (r1, r2) := by first | (rw [hji22] at H; exact H) | (simp only [hji22] at H ⊢; exact H)
                              have hji22w : (IntKind.i64.wrap (a1 + x10_4)) = ji22 := (i64_w _).trans hji22
                              by_cases c23 : 0 ≤ (ji22)
                              · rw [if_pos c23] at H
                                have c23b0 : decide (0 ≤ (ji22)) = true := decide_eq_true c23
                                clear c23
                                by_cases c24 : (ji22) < (l0.length : Int)
                                · rw [if_pos c24] at H
                                  have c24b0 : decide ((ji22) < (l0.length : Int)) = true := decide_eq_true c24
                                  clear c24
                                  by_cases c25 : (Go.bits .and .u8 (rd l0 (ji22)) 192) = 128
                                  · rw [if_pos c25] at H
                                    have c25b0 : ((Go.bits .and .u8 (rd l0 (ji22)) 192) == 128) = true := beq_iff_eq.mpr c25
                                    have c25b1 : ((Go.bits .and .u8 (rd l0 (ji22)) 192) != 128) = false := bne_eq_false_iff_eq.mpr c25
                                    clear c25
                                    have H' := Aside0.mk H
                                    clear H
                                    have p110 : 0 ≤ ((ji22) : Int) := of_decide_eq_true (by first | (with_reducible assumption) | assumption)
                                    have q110 : (ji22) < (l0.length : Int) := of_decide_eq_true (by first | (with_reducible assumption) | assumption)
                                    obtain ⟨ad110, e110, hx110_0⟩ := Kd.at_int HR0.out (ji22) p110 q110
                                    obtain rfl : ad109 = ad110 := (by injection e110)
                                    replace p110 := eq_true p110
                                    replace q110 := eq_true q110
                                    have p111 : 0 ≤ ((ji22) : Int) := of_decide_eq_true (by first | (with_reducible assumption) | assumption)
                                    have q111 : (ji22) < (l0.length : Int) := of_decide_eq_true (by first | (with_reducible assumption) | assumption)
                                    obtain ⟨ad111, e111, hx111_0⟩ := Kd.at_int HR0.out (ji22) p111 q111
                                    obtain rfl : ad109 = ad111 := (by injection e111)
                                    replace p111 := eq_true p111
                                    replace q111 := eq_true q111
                                    go_wp2
                                    go_roundg k4
                                    case measure => have := HJ2.out; have := HJ8.out; have := HJ17.out; have := HK4.out; omega
                                    case rel => exact ⟨(Go.bits .or .i64 (wrap64 (x9_4 * 64)) (wrap64 (Go.bits .and .u8 (rd l0 (ji22)) 63))), (wrap64 (x10_4 + 1)), (by first | rfl | (simp; done) | (simp only [← hji22] <;> (first | rfl | simp)) | (simp [*]; done)), (by first | rfl | (simp; done) | (simp [*]; done)), H', ⟨by have := HJ2.out; have := HJ8.out; have := HJ17.out; have := HK4.out; omega⟩, by repeat (first | exact Drawn0.refl _ | apply Drawn0.step)⟩
                                  · rw [if_neg c25] at H
                                    have c25b0 : ((Go.bits .and .u8 (rd l0 (ji22)) 192) == 128) = false := beq_eq_false_iff_ne.mpr c25
                                    have c25b1 : ((Go.bits .and .u8 (rd l0 (ji22)) 192) != 128) = true := bne_iff_ne.mpr c25
                                    simp only [Option.some.injEq, Prod.mk.injEq] at H
                                    obtain ⟨rfl, rfl⟩ := H
                                    have p110 : 0 ≤ ((ji22) : Int) := of_decide_eq_true (by first | (with_reducible assumption) | assumption)
                                    have q110 : (ji22) < (l0.length : Int) := of_decide_eq_true (by first | (with_reducible assumption) | assumption)
                                    obtain ⟨ad110, e110, hx110_0⟩ := Kd.at_int HR0.out (ji22) p110 q110
                                    obtain rfl : ad109 = ad110 := (by injection e110)
                                    replace p110 := eq_true p110
                                    replace q110 := eq_true q110
                                    go_wp2
                                    go_ret2
                                    exact ⟨by first | rfl | (simp; done) | (simp only [← hji22] <;> (first | rfl | simp)) | (simp [*]; done), by repeat (first | exact Drawn0.refl _ | apply Drawn0.step)⟩
                                · rw [if_neg c24] at H
                                  exact absurd H (by simp)
                              · rw [if_neg c23] at H
                                exact absurd H (by simp)
                            · rw [if_neg c21] at H
                              have c21b0 : decide (x10_4 < x7_8) = false := decide_eq_false c21
                              clear c21
                              by_cases c26 : x9_4 < x8_8
                              · rw [if_pos c26] at H
                                have c26b0 : decide (x9_4 < x8_8) = true := decide_eq_true c26
                                clear c26
                                simp only [Option.some.injEq, Prod.mk.injEq] at H
                                obtain ⟨rfl, rfl⟩ := H
                                go_wp2
                                go_ret2
                                exact ⟨by first | rfl | (simp; done) | (simp [*]; done), by repeat (first | exact Drawn0.refl _ | apply Drawn0.step)⟩
                              · rw [if_neg c26] at H
                                have c26b0 : decide (x9_4 < x8_8) = false := decide_eq_false c26
                                clear c26
                                by_cases c27 : x9_4 > 1114111
                                · rw [if_pos c27] at H
                                  have c27b0 : decide (1114111 < x9_4) = true := decide_eq_true c27
                                  clear c27
                                  simp only [Option.some.injEq, Prod.mk.injEq] at H
                                  obtain ⟨rfl, rfl⟩ := H
                                  go_wp2
                                  go_ret2
                                  exact ⟨by first | rfl | (simp; done) | (simp [*]; done), by repeat (first | exact Drawn0.refl _ | apply Drawn0.step)⟩
                                · rw [if_neg c27] at H
                                  have c27b0 : decide (1114111 < x9_4) = false := decide_eq_false c27
                                  clear c27
                                  by_cases c28 : x9_4 ≥ 55296
                                  · rw [if_pos c28] at H
                                    have c28b0 : decide (55296 ≤ x9_4) = true := decide_eq_true c28
                                    clear c28
                                    by_cases c29 : x9_4 < 57344
                                    · rw [if_pos c29] at H
                                      have c29b0 : decide (x9_4 < 57344) = true := decide_eq_true c29
                                      clear c29
                                      simp only [Option.some.injEq, Prod.mk.injEq] at H
                                      obtain ⟨rfl, rfl⟩ := H
                                      go_wp2
                                      go_ret2
                                      exact ⟨by first | rfl | (simp; done) | (simp [*]; done), by repeat (first | exact Drawn0.refl _ | apply Drawn0.step)⟩
                                    · rw [if_neg c29] at H
                                      have c29b0 : decide (x9_4 < 57344) = false := decide_eq_false c29
                                      clear c29
                                      simp only [Option.some.injEq, Prod.mk.injEq] at H
                                      obtain ⟨rfl, rfl⟩ := H
                                      go_wp2
                                      go_ret2
                                      exact ⟨by first | rfl | (simp; done) | (simp [*]; done), by repeat (first | exact Drawn0.refl _ | apply Drawn0.step)⟩
                                  · rw [if_neg c28] at H
                                    have c28b0 : decide (55296 ≤ x9_4) = false := decide_eq_false c28
                                    clear c28
                                    simp only [Option.some.injEq, Prod.mk.injEq] at H
                                    obtain ⟨rfl, rfl⟩ := H
                                    go_wp2
                                    go_ret2
                                    exact ⟨by first | rfl | (simp; done) | (simp [*]; done), by repeat (first | exact Drawn0.refl _ | apply Drawn0.step)⟩
          · rw [if_neg c7] at H
            exact absurd H (by simp)
        · rw [if_neg c6] at H
          exact absurd H (by simp)

end Go.Proofs.YtgpmmmlmaaiobaaDoor.PFnInputStream
