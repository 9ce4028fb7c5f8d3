-- Laid by a program of this session, out of the translation's print.
import Derived.Test.YteklgpjdcdkdpaaPFnNumberDimensionx0
namespace Go.Proofs.Yteklgpjdcdkdpaa.PFnNumberDimension
open Go.Proofs.Yteklgpjdcdkdpaa.Own
open Go.RowKit Go.Proofs.YteklgpjdcdkdpaaW.PrintWords Go.Proofs.YteklgpjdcdkdpaaW.PrintLast Go.Proofs.YteklgpjdcdkdpaaW.PrintMore
attribute [local go_sem] max2_int min2_int max_two min_two max_three min_three max_four min_four   -- for this text's walks alone
set_option linter.unusedVariables false
set_option linter.unusedSimpArgs false

/-! ### tdparse_Number: function 47 -/
mutual
def tdparse_Number.j0 : Nat → List Int → Int → Bool → Option (Int)
  | 0, _, _, _ => none
  | k + 1, x0, x3, x20 => if x20 = true then (if (wrap64 (x3 + 1)) ≥ (x0.length : Int) then (some 0) else (tdparse_Number.j1 k x0 (wrap64 (x3 + 1)))) else (tdparse_Number.j1 k x0 x3)
def tdparse_Number.j1 : Nat → List Int → Int → Option (Int)
  | 0, _, _ => none
  | k + 1, x0, x3 => if 0 ≤ x3 then (if x3 < (x0.length : Int) then (if (rd x0 x3) ≥ 48 then (tdparse_Number.j2 k x0 x3 (decide ((rd x0 x3) ≤ 57))) else (tdparse_Number.j2 k x0 x3 false)) else (none)) else (none)
def tdparse_Number.j2 : Nat → List Int → Int → Bool → Option (Int)
  | 0, _, _, _ => none
  | k + 1, x0, x3, x4 => if x4 = true then (tdparse_Number.l0 k x0 (wrap64 (x3 + 1)) x4) else (tdparse_Number.j4 k x0 x3 x4)
def tdparse_Number.j4 : Nat → List Int → Int → Bool → Option (Int)
  | 0, _, _, _ => none
  | k + 1, x0, x3, x4 => if x3 < (x0.length : Int) then (if 0 ≤ x3 then (tdparse_Number.j5 k x0 x3 x4 ((rd x0 x3) == 46)) else (none)) else (tdparse_Number.j5 k x0 x3 x4 false)
def tdparse_Number.j5 : Nat → List Int → Int → Bool → Bool → Option (Int)
  | 0, _, _, _, _ => none
  | k + 1, x0, x3, x4, x72 => if x72 = true then (if (wrap64 (x3 + 1)) < (x0.length : Int) then (if 0 ≤ (wrap64 (x3 + 1)) then (if (rd x0 (wrap64 (x3 + 1))) ≥ 48 then (tdparse_Number.j6 k x0 (wrap64 (x3 + 1)) x4 (decide ((rd x0 (wrap64 (x3 + 1))) ≤ 57))) else (tdparse_Number.j6 k x0 (wrap64 (x3 + 1)) x4 false)) else (none)) else (tdparse_Number.j6 k x0 (wrap64 (x3 + 1)) x4 false)) else (if x4 = true then (tdparse_Number.j8 k x0 x3) else (some 0))
def tdparse_Number.j8 : Nat → List Int → Int → Option (Int)
  | 0, _, _ => none
  | k + 1, x0, x3 => if x3 < (x0.length : Int) then (if 0 ≤ x3 then (if (rd x0 x3) = 101 then (tdparse_Number.j9 k x0 x3 x3 true) else (tdparse_Number.j9 k x0 x3 x3 ((rd x0 x3) == 69))) else (none)) else (tdparse_Number.j9 k x0 x3 x3 false)
def tdparse_Number.j9 : Nat → List Int → Int → Int → Bool → Option (Int)
  | 0, _, _, _, _ => none
  | k + 1, x0, x3, x5, x139 => if x139 = true then (if (wrap64 (x3 + 1)) < (x0.length : Int) then (if 0 ≤ (wrap64 (x3 + 1)) then (if (rd x0 (wrap64 (x3 + 1))) = 43 then (tdparse_Number.j10 k x0 (wrap64 (x3 + 1)) x5 true) else (tdparse_Number.j10 k x0 (wrap64 (x3 + 1)) x5 ((rd x0 (wrap64 (x3 + 1))) == 45))) else (none)) else (tdparse_Number.j10 k x0 (wrap64 (x3 + 1)) x5 false)) else (some x3)
def tdparse_Number.j10 : Nat → List Int → Int → Int → Bool → Option (Int)
  | 0, _, _, _, _ => none
  | k + 1, x0, x3, x5, x159 => if x159 = true then (tdparse_Number.j11 k x0 (wrap64 (x3 + 1)) x5) else (tdparse_Number.j11 k x0 x3 x5)
def tdparse_Number.j11 : Nat → List Int → Int → Int → Option (Int)
  | 0, _, _, _ => none
  | k + 1, x0, x3, x5 => if x3 ≥ (x0.length : Int) then (tdparse_Number.j12 k x0 x3 x5 true) else (if 0 ≤ x3 then (if x3 < (x0.length : Int) then (if (rd x0 x3) < 48 then (tdparse_Number.j12 k x0 x3 x5 true) else (tdparse_Number.j12 k x0 x3 x5 (decide ((rd x0 x3) > 57)))) else (none)) else (none))
def tdparse_Number.j12 : Nat → List Int → Int → Int → Bool → Option (Int)
  | 0, _, _, _, _ => none
  | k + 1, x0, x3, x5, x179 => if x179 = true then (some x5) else (tdparse_Number.l2 k x0 x3)
def tdparse_Number.l2 : Nat → List Int → Int → Option (Int)
  | 0, _, _ => none
  | k + 1, x0, x3 => if x3 < (x0.length : Int) then (if 0 ≤ x3 then (if (rd x0 x3) ≥ 48 then (if (rd x0 x3) ≤ 57 then (tdparse_Number.l2 k x0 (wrap64 (x3 + 1))) else (some x3)) else (some x3)) else (none)) else (some x3)
def tdparse_Number.j6 : Nat → List Int → Int → Bool → Bool → Option (Int)
  | 0, _, _, _, _ => none
  | k + 1, x0, x3, x4, x92 => if x92 = true then (tdparse_Number.l1 k x0 (wrap64 (x3 + 1))) else (if x4 = true then (some (wrap64 (x3 - 1))) else (some 0))
def tdparse_Number.l1 : Nat → List Int → Int → Option (Int)
  | 0, _, _ => none
  | k + 1, x0, x3 => if x3 < (x0.length : Int) then (if 0 ≤ x3 then (if (rd x0 x3) ≥ 48 then (if (rd x0 x3) ≤ 57 then (tdparse_Number.l1 k x0 (wrap64 (x3 + 1))) else (tdparse_Number.j8 k x0 x3)) else (tdparse_Number.j8 k x0 x3)) else (none)) else (tdparse_Number.j8 k x0 x3)
def tdparse_Number.l0 : Nat → List Int → Int → Bool → Option (Int)
  | 0, _, _, _ => none
  | k + 1, x0, x3, x4 => if x3 < (x0.length : Int) then (if 0 ≤ x3 then (if (rd x0 x3) ≥ 48 then (if (rd x0 x3) ≤ 57 then (tdparse_Number.l0 k x0 (wrap64 (x3 + 1)) x4) else (tdparse_Number.j4 k x0 x3 x4)) else (tdparse_Number.j4 k x0 x3 x4)) else (none)) else (tdparse_Number.j4 k x0 x3 x4)
end
def tdparse_Number.f (k : Nat) (l0 : List Int) : Option (Int) := if (l0.length : Int) = 0 then (some 0) else (if 0 < (l0.length : Int) then (if (rd l0 0) = 43 then (tdparse_Number.j0 k l0 0 true) else (tdparse_Number.j0 k l0 0 ((rd l0 0) == 45))) else (none))
theorem tdparse_Number.mono_l : ∀ k, (∀ y0 y1 y2, LeO (tdparse_Number.j0 k y0 y1 y2) (tdparse_Number.j0 (k + 1) y0 y1 y2)) ∧ (∀ y0 y1, LeO (tdparse_Number.j1 k y0 y1) (tdparse_Number.j1 (k + 1) y0 y1)) ∧ (∀ y0 y1 y2, LeO (tdparse_Number.j2 k y0 y1 y2) (tdparse_Number.j2 (k + 1) y0 y1 y2)) ∧ (∀ y0 y1 y2, LeO (tdparse_Number.j4 k y0 y1 y2) (tdparse_Number.j4 (k + 1) y0 y1 y2)) ∧ (∀ y0 y1 y2 y3, LeO (tdparse_Number.j5 k y0 y1 y2 y3) (tdparse_Number.j5 (k + 1) y0 y1 y2 y3)) ∧ (∀ y0 y1, LeO (tdparse_Number.j8 k y0 y1) (tdparse_Number.j8 (k + 1) y0 y1)) ∧ (∀ y0 y1 y2 y3, LeO (tdparse_Number.j9 k y0 y1 y2 y3) (tdparse_Number.j9 (k + 1) y0 y1 y2 y3)) ∧ (∀ y0 y1 y2 y3, LeO (tdparse_Number.j10 k y0 y1 y2 y3) (tdparse_Number.j10 (k + 1) y0 y1 y2 y3)) ∧ (∀ y0 y1 y2, LeO (tdparse_Number.j11 k y0 y1 y2) (tdparse_Number.j11 (k + 1) y0 y1 y2)) ∧ (∀ y0 y1 y2 y3, LeO (tdparse_Number.j12 k y0 y1 y2 y3) (tdparse_Number.j12 (k + 1) y0 y1 y2 y3)) ∧ (∀ y0 y1, LeO (tdparse_Number.l2 k y0 y1) (tdparse_Number.l2 (k + 1) y0 y1)) ∧ (∀ y0 y1 y2 y3, LeO (tdparse_Number.j6 k y0 y1 y2 y3) (tdparse_Number.j6 (k + 1) y0 y1 y2 y3)) ∧ (∀ y0 y1, LeO (tdparse_Number.l1 k y0 y1) (tdparse_Number.l1 (k + 1) y0 y1)) ∧ (∀ y0 y1 y2, LeO (tdparse_Number.l0 k y0 y1 y2) (tdparse_Number.l0 (k + 1) y0 y1 y2))
  | 0 => ⟨fun _ _ _ r h => by simp [tdparse_Number.j0] at h, fun _ _ r h => by simp [tdparse_Number.j1] at h, fun _ _ _ r h => by simp [tdparse_Number.j2] at h, fun _ _ _ r h => by simp [tdparse_Number.j4] at h, fun _ _ _ _ r h => by simp [tdparse_Number.j5] at h, fun _ _ r h => by simp [tdparse_Number.j8] at h, fun _ _ _ _ r h => by simp [tdparse_Number.j9] at h, fun _ _ _ _ r h => by simp [tdparse_Number.j10] at h, fun _ _ _ r h => by simp [tdparse_Number.j11] at h, fun _ _ _ _ r h => by simp [tdparse_Number.j12] at h, fun _ _ r h => by simp [tdparse_Number.l2] at h, fun _ _ _ _ r h => by simp [tdparse_Number.j6] at h, fun _ _ r h => by simp [tdparse_Number.l1] at h, fun _ _ _ r h => by simp [tdparse_Number.l0] at h⟩
  | k + 1 => by
    obtain ⟨ih0, ih1, ih2, ih3, ih4, ih5, ih6, ih7, ih8, ih9, ih10, ih11, ih12, ih13⟩ := tdparse_Number.mono_l k
    refine ⟨?_, ?_, ?_, ?_, ?_, ?_, ?_, ?_, ?_, ?_, ?_, ?_, ?_, ?_⟩
    · intro y0 y1 y2
      unfold tdparse_Number.j0
      repeat' first
      | (with_reducible exact ih0 _ _ _)
      | (with_reducible exact ih1 _ _)
      | (with_reducible exact ih2 _ _ _)
      | (with_reducible exact ih3 _ _ _)
      | (with_reducible exact ih4 _ _ _ _)
      | (with_reducible exact ih5 _ _)
      | (with_reducible exact ih6 _ _ _ _)
      | (with_reducible exact ih7 _ _ _ _)
      | (with_reducible exact ih8 _ _ _)
      | (with_reducible exact ih9 _ _ _ _)
      | (with_reducible exact ih10 _ _)
      | (with_reducible exact ih11 _ _ _ _)
      | (with_reducible exact ih12 _ _)
      | (with_reducible exact ih13 _ _ _)
      | (with_reducible exact LeO.refl _)
      | (with_reducible exact LeO.none _)
      | (with_reducible refine LeO.ite ?_ ?_)
      | (with_reducible refine LeO.bind ?_ (fun _ => ?_))
      | exact ih0 _ _ _
      | exact ih1 _ _
      | exact ih2 _ _ _
      | exact ih3 _ _ _
      | exact ih4 _ _ _ _
      | exact ih5 _ _
      | exact ih6 _ _ _ _
      | exact ih7 _ _ _ _
      | exact ih8 _ _ _
      | exact ih9 _ _ _ _
      | exact ih10 _ _
      | exact ih11 _ _ _ _
      | exact ih12 _ _
      | exact ih13 _ _ _
      | exact LeO.none _
      | refine LeO.ite ?_ ?_
      | refine LeO.bind ?_ (fun _ => ?_)
    · intro y0 y1
      unfold tdparse_Number.j1
      repeat' first
      | (with_reducible exact ih0 _ _ _)
      | (with_reducible exact ih1 _ _)
      | (with_reducible exact ih2 _ _ _)
      | (with_reducible exact ih3 _ _ _)
      | (with_reducible exact ih4 _ _ _ _)
      | (with_reducible exact ih5 _ _)
      | (with_reducible exact ih6 _ _ _ _)
      | (with_reducible exact ih7 _ _ _ _)
      | (with_reducible exact ih8 _ _ _)
      | (with_reducible exact ih9 _ _ _ _)
      | (with_reducible exact ih10 _ _)
      | (with_reducible exact ih11 _ _ _ _)
      | (with_reducible exact ih12 _ _)
      | (with_reducible exact ih13 _ _ _)
      | (with_reducible exact LeO.refl _)
      | (with_reducible exact LeO.none _)
      | (with_reducible refine LeO.ite ?_ ?_)
      | (with_reducible refine LeO.bind ?_ (fun _ => ?_))
      | exact ih0 _ _ _
      | exact ih1 _ _
      | exact ih2 _ _ _
      | exact ih3 _ _ _
      | exact ih4 _ _ _ _
      | exact ih5 _ _
      | exact ih6 _ _ _ _
      | exact ih7 _ _ _ _
      | exact ih8 _ _ _
      | exact ih9 _ _ _ _
      | exact ih10 _ _
      | exact ih11 _ _ _ _
      | exact ih12 _ _
      | exact ih13 _ _ _
      | exact LeO.none _
      | refine LeO.ite ?_ ?_
      | refine LeO.bind ?_ (fun _ => ?_)
    · intro y0 y1 y2
      unfold tdparse_Number.j2
      repeat' first
      | (with_reducible exact ih0 _ _ _)
      | (with_reducible exact ih1 _ _)
      | (with_reducible exact ih2 _ _ _)
      | (with_reducible exact ih3 _ _ _)
      | (with_reducible exact ih4 _ _ _ _)
      | (with_reducible exact ih5 _ _)
      | (with_reducible exact ih6 _ _ _ _)
      | (with_reducible exact ih7 _ _ _ _)
      | (with_reducible exact ih8 _ _ _)
      | (with_reducible exact ih9 _ _ _ _)
      | (with_reducible exact ih10 _ _)
      | (with_reducible exact ih11 _ _ _ _)
      | (with_reducible exact ih12 _ _)
      | (with_reducible exact ih13 _ _ _)
      | (with_reducible exact LeO.refl _)
      | (with_reducible exact LeO.none _)
      | (with_reducible refine LeO.ite ?_ ?_)
      | (with_reducible refine LeO.bind ?_ (fun _ => ?_))
      | exact ih0 _ _ _
      | exact ih1 _ _
      | exact ih2 _ _ _
      | exact ih3 _ _ _
      | exact ih4 _ _ _ _
      | exact ih5 _ _
      | exact ih6 _ _ _ _
      | exact ih7 _ _ _ _
      | exact ih8 _ _ _
      | exact ih9 _ _ _ _
      | exact ih10 _ _
      | exact ih11 _ _ _ _
      | exact ih12 _ _
      | exact ih13 _ _ _
      | exact LeO.none _
      | refine LeO.ite ?_ ?_
      | refine LeO.bind ?_ (fun _ => ?_)
    · intro y0 y1 y2
      unfold tdparse_Number.j4
      repeat' first
      | (with_reducible exact ih0 _ _ _)
      | (with_reducible exact ih1 _ _)
      | (with_reducible exact ih2 _ _ _)
      | (with_reducible exact ih3 _ _ _)
      | (with_reducible exact ih4 _ _ _ _)
      | (with_reducible exact ih5 _ _)
      | (with_reducible exact ih6 _ _ _ _)
      | (with_reducible exact ih7 _ _ _ _)
      | (with_reducible exact ih8 _ _ _)
      | (with_reducible exact ih9 _ _ _ _)
      | (with_reducible exact ih10 _ _)
      | (with_reducible exact ih11 _ _ _ _)
      | (with_reducible exact ih12 _ _)
      | (with_reducible exact ih13 _ _ _)
      | (with_reducible exact LeO.refl _)
      | (with_reducible exact LeO.none _)
      | (with_reducible refine LeO.ite ?_ ?_)
      | (with_reducible refine LeO.bind ?_ (fun _ => ?_))
      | exact ih0 _ _ _
      | exact ih1 _ _
      | exact ih2 _ _ _
      | exact ih3 _ _ _
      | exact ih4 _ _ _ _
      | exact ih5 _ _
      | exact ih6 _ _ _ _
      | exact ih7 _ _ _ _
      | exact ih8 _ _ _
      | exact ih9 _ _ _ _
      | exact ih10 _ _
      | exact ih11 _ _ _ _
      | exact ih12 _ _
      | exact ih13 _ _ _
      | exact LeO.none _
      | refine LeO.ite ?_ ?_
      | refine LeO.bind ?_ (fun _ => ?_)
    · intro y0 y1 y2 y3
      unfold tdparse_Number.j5
      repeat' first
      | (with_reducible exact ih0 _ _ _)
      | (with_reducible exact ih1 _ _)
      | (with_reducible exact ih2 _ _ _)
      | (with_reducible exact ih3 _ _ _)
      | (with_reducible exact ih4 _ _ _ _)
      | (with_reducible exact ih5 _ _)
      | (with_reducible exact ih6 _ _ _ _)
      | (with_reducible exact ih7 _ _ _ _)
      | (with_reducible exact ih8 _ _ _)
      | (with_reducible exact ih9 _ _ _ _)
      | (with_reducible exact ih10 _ _)
      | (with_reducible exact ih11 _ _ _ _)
      | (with_reducible exact ih12 _ _)
      | (with_reducible exact ih13 _ _ _)
      | (with_reducible exact LeO.refl _)
      | (with_reducible exact LeO.none _)
      | (with_reducible refine LeO.ite ?_ ?_)
      | (with_reducible refine LeO.bind ?_ (fun _ => ?_))
      | exact ih0 _ _ _
      | exact ih1 _ _
      | exact ih2 _ _ _
      | exact ih3 _ _ _
      | exact ih4 _ _ _ _
      | exact ih5 _ _
      | exact ih6 _ _ _ _
      | exact ih7 _ _ _ _
      | exact ih8 _ _ _
      | exact ih9 _ _ _ _
      | exact ih10 _ _
      | exact ih11 _ _ _ _
      | exact ih12 _ _
      | exact ih13 _ _ _
      | exact LeO.none _
      | refine LeO.ite ?_ ?_
      | refine LeO.bind ?_ (fun _ => ?_)
    · intro y0 y1
      unfold tdparse_Number.j8
      repeat' first
      | (with_reducible exact ih0 _ _ _)
      | (with_reducible exact ih1 _ _)
      | (with_reducible exact ih2 _ _ _)
      | (with_reducible exact ih3 _ _ _)
      | (with_reducible exact ih4 _ _ _ _)
      | (with_reducible exact ih5 _ _)
      | (with_reducible exact ih6 _ _ _ _)
      | (with_reducible exact ih7 _ _ _ _)
      | (with_reducible exact ih8 _ _ _)
      | (with_reducible exact ih9 _ _ _ _)
      | (with_reducible exact ih10 _ _)
      | (with_reducible exact ih11 _ _ _ _)
      | (with_reducible exact ih12 _ _)
      | (with_reducible exact ih13 _ _ _)
      | (with_reducible exact LeO.refl _)
      | (with_reducible exact LeO.none _)
      | (with_reducible refine LeO.ite ?_ ?_)
      | (with_reducible refine LeO.bind ?_ (fun _ => ?_))
      | exact ih0 _ _ _
      | exact ih1 _ _
      | exact ih2 _ _ _
      | exact ih3 _ _ _
      | exact ih4 _ _ _ _
      | exact ih5 _ _
      | exact ih6 _ _ _ _
      | exact ih7 _ _ _ _
      | exact ih8 _ _ _
      | exact ih9 _ _ _ _
      | exact ih10 _ _
      | exact ih11 _ _ _ _
      | exact ih12 _ _
      | exact ih13 _ _ _
      | exact LeO.none _
      | refine LeO.ite ?_ ?_
      | refine LeO.bind ?_ (fun _ => ?_)
    · intro y0 y1 y2 y3
      unfold tdparse_Number.j9
      repeat' first
      | (with_reducible exact ih0 _ _ _)
      | (with_reducible exact ih1 _ _)
      | (with_reducible exact ih2 _ _ _)
      | (with_reducible exact ih3 _ _ _)
      | (with_reducible exact ih4 _ _ _ _)
      | (with_reducible exact ih5 _ _)
      | (with_reducible exact ih6 _ _ _ _)
      | (with_reducible exact ih7 _ _ _ _)
      | (with_reducible exact ih8 _ _ _)
      | (with_reducible exact ih9 _ _ _ _)
      | (with_reducible exact ih10 _ _)
      | (with_reducible exact ih11 _ _ _ _)
      | (with_reducible exact ih12 _ _)
      | (with_reducible exact ih13 _ _ _)
      | (with_reducible exact LeO.refl _)
      | (with_reducible exact LeO.none _)
      | (with_reducible refine LeO.ite ?_ ?_)
      | (with_reducible refine LeO.bind ?_ (fun _ => ?_))
      | exact ih0 _ _ _
      | exact ih1 _ _
      | exact ih2 _ _ _
      | exact ih3 _ _ _
      | exact ih4 _ _ _ _
      | exact ih5 _ _
      | exact ih6 _ _ _ _
      | exact ih7 _ _ _ _
      | exact ih8 _ _ _
      | exact ih9 _ _ _ _
      | exact ih10 _ _
      | exact ih11 _ _ _ _
      | exact ih12 _ _
      | exact ih13 _ _ _
      | exact LeO.none _
      | refine LeO.ite ?_ ?_
      | refine LeO.bind ?_ (fun _ => ?_)
    · intro y0 y1 y2 y3
      unfold tdparse_Number.j10
      repeat' first
      | (with_reducible exact ih0 _ _ _)
      | (with_reducible exact ih1 _ _)
      | (with_reducible exact ih2 _ _ _)
      | (with_reducible exact ih3 _ _ _)
      | (with_reducible exact ih4 _ _ _ _)
      | (with_reducible exact ih5 _ _)
      | (with_reducible exact ih6 _ _ _ _)
      | (with_reducible exact ih7 _ _ _ _)
      | (with_reducible exact ih8 _ _ _)
      | (with_reducible exact ih9 _ _ _ _)
      | (with_reducible exact ih10 _ _)
      | (with_reducible exact ih11 _ _ _ _)
      | (with_reducible exact ih12 _ _)
      | (with_reducible exact ih13 _ _ _)
      | (with_reducible exact LeO.refl _)
      | (with_reducible exact LeO.none _)
      | (with_reducible refine LeO.ite ?_ ?_)
      | (with_reducible refine LeO.bind ?_ (fun _ => ?_))
      | exact ih0 _ _ _
      | exact ih1 _ _
      | exact ih2 _ _ _
      | exact ih3 _ _ _
      | exact ih4 _ _ _ _
      | exact ih5 _ _
      | exact ih6 _ _ _ _
      | exact ih7 _ _ _ _
      | exact ih8 _ _ _
      | exact ih9 _ _ _ _
      | exact ih10 _ _
      | exact ih11 _ _ _ _
      | exact ih12 _ _
      | exact ih13 _ _ _
      | exact LeO.none _
      | refine LeO.ite ?_ ?_
      | refine LeO.bind ?_ (fun _ => ?_)
    · intro y0 y1 y2
      unfold tdparse_Number.j11
      repeat' first
      | (with_reducible exact ih0 _ _ _)
      | (with_reducible exact ih1 _ _)
      | (with_reducible exact ih2 _ _ _)
      | (with_reducible exact ih3 _ _ _)
      | (with_reducible exact ih4 _ _ _ _)
      | (with_reducible exact ih5 _ _)
      | (with_reducible exact ih6 _ _ _ _)
      | (with_reducible exact ih7 _ _ _ _)
      | (with_reducible exact ih8 _ _ _)
      | (with_reducible exact ih9 _ _ _ _)
      | (with_reducible exact ih10 _ _)
      | (with_reducible exact ih11 _ _ _ _)
      | (with_reducible exact ih12 _ _)
      | (with_reducible exact ih13 _ _ _)
      | (with_reducible exact LeO.refl _)
      | (with_reducible exact LeO.none _)
      | (with_reducible refine LeO.ite ?_ ?_)
      | (with_reducible refine LeO.bind ?_ (fun _ => ?_))
      | exact ih0 _ _ _
      | exact ih1 _ _
      | exact ih2 _ _ _
      | exact ih3 _ _ _
      | exact ih4 _ _ _ _
      | exact ih5 _ _
      | exact ih6 _ _ _ _
      | exact ih7 _ _ _ _
      | exact ih8 _ _ _
      | exact ih9 _ _ _ _
      | exact ih10 _ _
      | exact ih11 _ _ _ _
      | exact ih12 _ _
      | exact ih13 _ _ _
      | exact LeO.none _
      | refine LeO.ite ?_ ?_
      | refine LeO.bind ?_ (fun _ => ?_)
    · intro y0 y1 y2 y3
      unfold tdparse_Number.j12
      repeat' first
      | (with_reducible exact ih0 _ _ _)
      | (with_reducible exact ih1 _ _)
      | (with_reducible exact ih2 _ _ _)
      | (with_reducible exact ih3 _ _ _)
      | (with_reducible exact ih4 _ _ _ _)
      | (with_reducible exact ih5 _ _)
      | (with_reducible exact ih6 _ _ _ _)
      | (with_reducible exact ih7 _ _ _ _)
      | (with_reducible exact ih8 _ _ _)
      | (with_reducible exact ih9 _ _ _ _)
      | (with_reducible exact ih10 _ _)
      | (with_reducible exact ih11 _ _ _ _)
      | (with_reducible exact ih12 _ _)
      | (with_reducible exact ih13 _ _ _)
      | (with_reducible exact LeO.refl _)
      | (with_reducible exact LeO.none _)
      | (with_reducible refine LeO.ite ?_ ?_)
      | (with_reducible refine LeO.bind ?_ (fun _ => ?_))
      | exact ih0 _ _ _
      | exact ih1 _ _
      | exact ih2 _ _ _
      | exact ih3 _ _ _
      | exact ih4 _ _ _ _
      | exact ih5 _ _
      | exact ih6 _ _ _ _
      | exact ih7 _ _ _ _
      | exact ih8 _ _ _
      | exact ih9 _ _ _ _
      | exact ih10 _ _
      | exact ih11 _ _ _ _
      | exact ih12 _ _
      | exact ih13 _ _ _
      | exact LeO.none _
      | refine LeO.ite ?_ ?_
      | refine LeO.bind ?_ (fun _ => ?_)
    · intro y0 y1
      unfold tdparse_Number.l2
      repeat' first
      | (with_reducible exact ih0 _ _ _)
      | (with_reducible exact ih1 _ _)
      | (with_reducible exact ih2 _ _ _)
      | (with_reducible exact ih3 _ _ _)
      | (with_reducible exact ih4 _ _ _ _)
      | (with_reducible exact ih5 _ _)
      | (with_reducible exact ih6 _ _ _ _)
      | (with_reducible exact ih7 _ _ _ _)
      | (with_reducible exact ih8 _ _ _)
      | (with_reducible exact ih9 _ _ _ _)
      | (with_reducible exact ih10 _ _)
      | (with_reducible exact ih11 _ _ _ _)
      | (with_reducible exact ih12 _ _)
      | (with_reducible exact ih13 _ _ _)
      | (with_reducible exact LeO.refl _)
      | (with_reducible exact LeO.none _)
      | (with_reducible refine LeO.ite ?_ ?_)
      | (with_reducible refine LeO.bind ?_ (fun _ => ?_))
      | exact ih0 _ _ _
      | exact ih1 _ _
      | exact ih2 _ _ _
      | exact ih3 _ _ _
      | exact ih4 _ _ _ _
      | exact ih5 _ _
      | exact ih6 _ _ _ _
      | exact ih7 _ _ _ _
      | exact ih8 _ _ _
      | exact ih9 _ _ _ _
      | exact ih10 _ _
      | exact ih11 _ _ _ _
      | exact ih12 _ _
      | exact ih13 _ _ _
      | exact LeO.none _
      | refine LeO.ite ?_ ?_
      | refine LeO.bind ?_ (fun _ => ?_)
    · intro y0 y1 y2 y3
      unfold tdparse_Number.j6
      repeat' first
      | (with_reducible exact ih0 _ _ _)
      | (with_reducible exact ih1 _ _)
      | (with_reducible exact ih2 _ _ _)
      | (with_reducible exact ih3 _ _ _)
      | (with_reducible exact ih4 _ _ _ _)
      | (with_reducible exact ih5 _ _)
      | (with_reducible exact ih6 _ _ _ _)
      | (with_reducible exact ih7 _ _ _ _)
      | (with_reducible exact ih8 _ _ _)
      | (with_reducible exact ih9 _ _ _ _)
      | (with_reducible exact ih10 _ _)
      | (with_reducible exact ih11 _ _ _ _)
      | (with_reducible exact ih12 _ _)
      | (with_reducible exact ih13 _ _ _)
      | (with_reducible exact LeO.refl _)
      | (with_reducible exact LeO.none _)
      | (with_reducible refine LeO.ite ?_ ?_)
      | (with_reducible refine LeO.bind ?_ (fun _ => ?_))
      | exact ih0 _ _ _
      | exact ih1 _ _
      | exact ih2 _ _ _
      | exact ih3 _ _ _
      | exact ih4 _ _ _ _
      | exact ih5 _ _
      | exact ih6 _ _ _ _
      | exact ih7 _ _ _ _
      | exact ih8 _ _ _
      | exact ih9 _ _ _ _
      | exact ih10 _ _
      | exact ih11 _ _ _ _
      | exact ih12 _ _
      | exact ih13 _ _ _
      | exact LeO.none _
      | refine LeO.ite ?_ ?_
      | refine LeO.bind ?_ (fun _ => ?_)
    · intro y0 y1
      unfold tdparse_Number.l1
      repeat' first
      | (with_reducible exact ih0 _ _ _)
      | (with_reducible exact ih1 _ _)
      | (with_reducible exact ih2 _ _ _)
      | (with_reducible exact ih3 _ _ _)
      | (with_reducible exact ih4 _ _ _ _)
      | (with_reducible exact ih5 _ _)
      | (with_reducible exact ih6 _ _ _ _)
      | (with_reducible exact ih7 _ _ _ _)
      | (with_reducible exact ih8 _ _ _)
      | (with_reducible exact ih9 _ _ _ _)
      | (with_reducible exact ih10 _ _)
      | (with_reducible exact ih11 _ _ _ _)
      | (with_reducible exact ih12 _ _)
      | (with_reducible exact ih13 _ _ _)
      | (with_reducible exact LeO.refl _)
      | (with_reducible exact LeO.none _)
      | (with_reducible refine LeO.ite ?_ ?_)
      | (with_reducible refine LeO.bind ?_ (fun _ => ?_))
      | exact ih0 _ _ _
      | exact ih1 _ _
      | exact ih2 _ _ _
      | exact ih3 _ _ _
      | exact ih4 _ _ _ _
      | exact ih5 _ _
      | exact ih6 _ _ _ _
      | exact ih7 _ _ _ _
      | exact ih8 _ _ _
      | exact ih9 _ _ _ _
      | exact ih10 _ _
      | exact ih11 _ _ _ _
      | exact ih12 _ _
      | exact ih13 _ _ _
      | exact LeO.none _
      | refine LeO.ite ?_ ?_
      | refine LeO.bind ?_ (fun _ => ?_)
    · intro y0 y1 y2
      unfold tdparse_Number.l0
      repeat' first
      | (with_reducible exact ih0 _ _ _)
      | (with_reducible exact ih1 _ _)
      | (with_reducible exact ih2 _ _ _)
      | (with_reducible exact ih3 _ _ _)
      | (with_reducible exact ih4 _ _ _ _)
      | (with_reducible exact ih5 _ _)
      | (with_reducible exact ih6 _ _ _ _)
      | (with_reducible exact ih7 _ _ _ _)
      | (with_reducible exact ih8 _ _ _)
      | (with_reducible exact ih9 _ _ _ _)
      | (with_reducible exact ih10 _ _)
      | (with_reducible exact ih11 _ _ _ _)
      | (with_reducible exact ih12 _ _)
      | (with_reducible exact ih13 _ _ _)
      | (with_reducible exact LeO.refl _)
      | (with_reducible exact LeO.none _)
      | (with_reducible refine LeO.ite ?_ ?_)
      | (with_reducible refine LeO.bind ?_ (fun _ => ?_))
      | exact ih0 _ _ _
      | exact ih1 _ _
      | exact ih2 _ _ _
      | exact ih3 _ _ _
      | exact ih4 _ _ _ _
      | exact ih5 _ _
      | exact ih6 _ _ _ _
      | exact ih7 _ _ _ _
      | exact ih8 _ _ _
      | exact ih9 _ _ _ _
      | exact ih10 _ _
      | exact ih11 _ _ _ _
      | exact ih12 _ _
      | exact ih13 _ _ _
      | exact LeO.none _
      | refine LeO.ite ?_ ?_
      | refine LeO.bind ?_ (fun _ => ?_)
theorem tdparse_Number.mono : ∀ a0 k, LeO (tdparse_Number.f k a0) (tdparse_Number.f (k + 1) a0) := by
  intro a0 k
  obtain ⟨ih0, ih1, ih2, ih3, ih4, ih5, ih6, ih7, ih8, ih9, ih10, ih11, ih12, ih13⟩ := tdparse_Number.mono_l k
  unfold tdparse_Number.f
  repeat' first
      | (with_reducible exact ih0 _ _ _)
      | (with_reducible exact ih1 _ _)
      | (with_reducible exact ih2 _ _ _)
      | (with_reducible exact ih3 _ _ _)
      | (with_reducible exact ih4 _ _ _ _)
      | (with_reducible exact ih5 _ _)
      | (with_reducible exact ih6 _ _ _ _)
      | (with_reducible exact ih7 _ _ _ _)
      | (with_reducible exact ih8 _ _ _)
      | (with_reducible exact ih9 _ _ _ _)
      | (with_reducible exact ih10 _ _)
      | (with_reducible exact ih11 _ _ _ _)
      | (with_reducible exact ih12 _ _)
      | (with_reducible exact ih13 _ _ _)
      | (with_reducible exact LeO.refl _)
      | (with_reducible exact LeO.none _)
      | (with_reducible refine LeO.ite ?_ ?_)
      | (with_reducible refine LeO.bind ?_ (fun _ => ?_))
      | exact ih0 _ _ _
      | exact ih1 _ _
      | exact ih2 _ _ _
      | exact ih3 _ _ _
      | exact ih4 _ _ _ _
      | exact ih5 _ _
      | exact ih6 _ _ _ _
      | exact ih7 _ _ _ _
      | exact ih8 _ _ _
      | exact ih9 _ _ _ _
      | exact ih10 _ _
      | exact ih11 _ _ _ _
      | exact ih12 _ _
      | exact ih13 _ _ _
      | exact LeO.none _
      | refine LeO.ite ?_ ?_
      | refine LeO.bind ?_ (fun _ => ?_)
set_option maxHeartbeats 8000000 in
set_option maxRecDepth 100000 in
theorem tdparse_Number.calls (k : Nat) (A0 : Option Addr) (c0 : Nat) (l0 : List Int) (r : Int) (w : World) (hr0 : Kd.C (Kd.int .u8) w A0 l0.length l0) (hc0 : l0.length ≤ c0) (h : tdparse_Number.f k l0 = some r) :
    Calls Try.prog 47 #[.slice A0 l0.length c0] w fun e w' => e = .returned (.int .i64 r) ∧ Drawn0 w w' := by
  have HR0 := Aside0.mk hr0
  have HC0 := Aside0.mk hc0
  clear hr0 hc0
  have H : (if (l0.length : Int) = 0 then (some 0) else (if 0 < (l0.length : Int) then (if (rd l0 0) = 43 then (tdparse_Number.j0 k l0 0 true) else (tdparse_Number.j0 k l0 0 ((rd l0 0) == 45))) else (none))) = some r := h
  clear h
  by_cases c2 : (l0.length : Int) = 0
  · rw [if_pos c2] at H
    have c2b0 : ((l0.length : Int) == 0) = true := beq_iff_eq.mpr c2
    have c2b1 : ((l0.length : Int) != 0) = false := bne_eq_false_iff_eq.mpr c2
    clear c2
    as_aux_lemma =>
      obtain rfl := Option.some.inj H
      go_enter Try.func47, Try.ntmps47
      go_wp2
      go_ret
      exact ⟨by first | rfl | (simp; done) | (simp [*]; done), by repeat (first | exact Drawn0.refl _ | apply Drawn0.step)⟩
  · rw [if_neg c2] at H
    have c2b0 : ((l0.length : Int) == 0) = false := beq_eq_false_iff_ne.mpr c2
    have c2b1 : ((l0.length : Int) != 0) = true := bne_iff_ne.mpr c2
    have c2b2 : ¬ (l0 = []) := fun h_ => c2 (by rw [h_]; rfl)
    have HC3 := Aside0.mk H
    clear H
    go_enter Try.func47, Try.ntmps47
    go_upto_region 4 with (fail)
    go_cut [20] (fun v20 wc => ∃ (kq : Nat) (x20_2 : Bool), v20 = .bool x20_2 ∧ Aside0 (tdparse_Number.j0 kq l0 0 x20_2 = some r) ∧ Aside0 (kq ≤ k) ∧ Drawn0 w wc)
    case first =>
      as_aux_lemma =>
        have H := HC3.out
        clear HC3
        by_cases c4 : 0 < (l0.length : Int)
        · rw [if_pos c4] at H
          have c4b0 : decide (0 < (l0.length : Int)) = true := decide_eq_true c4
          have c4b1 : decide (0 < l0.length) = true := decide_eq_true (by omega)
          clear c4
          (first | rw [c4b0] | (simp only [i64_w, i32_w]; rw [c4b0]) | skip)
          by_cases c5 : (rd l0 0) = 43
          · rw [if_pos c5] at H
            have c5b0 : ((rd l0 0) == 43) = true := beq_iff_eq.mpr c5
            have c5b1 : ((rd l0 0) != 43) = false := bne_eq_false_iff_eq.mpr c5
            clear c5
            as_aux_lemma =>
              have H' := Aside0.mk H
              clear H
              have p124 : 0 ≤ (0 : Int) := (by omega)
              have q124 : 0 < (l0.length : Int) := of_decide_eq_true (by first | (with_reducible assumption) | assumption)
              obtain ⟨ad124, e124, hx124_0⟩ := Kd.at_int HR0.out 0 p124 q124
              cases e124
              have qi124 : (0 < l0.length) = True := eq_true (by omega)
              (try rw [show ((0 : Int)).toNat = 0 from rfl] at hx124_0)
              (try rw [Addr.add_zero'] at hx124_0)
              replace p124 := eq_true p124
              replace q124 := eq_true q124
              go_wp2
              go_meet
              case rel => exact ⟨_, (true), (by first | rfl | (simp; done) | (simp [*]; done)), H', ⟨by first | omega | exact Nat.le_refl _⟩, by repeat (first | exact Drawn0.refl _ | apply Drawn0.step)⟩
          · rw [if_neg c5] at H
            have c5b0 : ((rd l0 0) == 43) = false := beq_eq_false_iff_ne.mpr c5
            have c5b1 : ((rd l0 0) != 43) = true := bne_iff_ne.mpr c5
            as_aux_lemma =>
              have H' := Aside0.mk H
              clear H
              have p124 : 0 ≤ (0 : Int) := (by omega)
              have q124 : 0 < (l0.length : Int) := of_decide_eq_true (by first | (with_reducible assumption) | assumption)
              obtain ⟨ad124, e124, hx124_0⟩ := Kd.at_int HR0.out 0 p124 q124
              cases e124
              have qi124 : (0 < l0.length) = True := eq_true (by omega)
              (try rw [show ((0 : Int)).toNat = 0 from rfl] at hx124_0)
              (try rw [Addr.add_zero'] at hx124_0)
              replace p124 := eq_true p124
              replace q124 := eq_true q124
              have p125 : 0 ≤ (0 : Int) := (by omega)
              have q125 : 0 < (l0.length : Int) := of_decide_eq_true (by first | (with_reducible assumption) | assumption)
              obtain ⟨ad125, e125, hx125_0⟩ := Kd.at_int HR0.out 0 p125 q125
              obtain rfl : ad124 = ad125 := (by injection e125)
              have qi125 : (0 < l0.length) = True := eq_true (by omega)
              (try rw [show ((0 : Int)).toNat = 0 from rfl] at hx125_0)
              (try rw [Addr.add_zero'] at hx125_0)
              replace p125 := eq_true p125
              replace q125 := eq_true q125
              go_wp2
              go_meet
              case rel => exact ⟨_, (((rd l0 0) == 45)), (by first | rfl | (simp; done) | (simp [*]; done)), H', ⟨by first | omega | exact Nat.le_refl _⟩, by repeat (first | exact Drawn0.refl _ | apply Drawn0.step)⟩
        · rw [if_neg c4] at H
          exact absurd H (by simp)
    case rest =>
      as_aux_lemma =>
        clear HC3
        try clear p1
        try clear q1
        try clear hx1
        try clear qi1
        try clear c2
        try clear c2b0
        try clear c2b1
        try clear c2b2
        try clear p2
        try clear c4
        try clear c4b0
        try clear c4b1
        try clear c5
        try clear c5b0
        try clear c5b1
        try clear hx124_0
        try clear hx125_0
        try clear p124
        try clear p125
        try clear q124
        try clear q125
        obtain ⟨kq, x20_2, rfl, HA, HJ2, ⟨mc2, rfl⟩⟩ := hcut
        cases kq with
        | zero => exact absurd HA.out (by simp [tdparse_Number.j0])
        | succ kj2 =>
          have H := HA.out
          clear HA
          simp only [tdparse_Number.j0] at H
          (try simp only [show wrap64 (0 + 1) = 1 by unfold wrap64; omega] at H)
          have HC6 := Aside0.mk H
          clear H
          go_upto_if 20 with (fail)
          go_cut [3] (fun v3 wc => ∃ (kq : Nat) (x3_5 : Int), v3 = .int .i64 x3_5 ∧ Aside0 (tdparse_Number.j1 kq l0 x3_5 = some r) ∧ Aside0 (kq ≤ kj2) ∧ Drawn0 w wc)
          case first =>
            as_aux_lemma =>
              have H := HC6.out
              clear HC6
              by_cases c7 : x20_2 = true
              · subst c7
                have H1 : (if 1 ≥ (l0.length : Int) then (some 0) else (tdparse_Number.j1 kj2 l0 1)) = some r := by rw [if_pos rfl] at H; exact H
                clear H
                have H := H1
                clear H1
                by_cases c8 : 1 ≥ (l0.length : Int)
                · rw [if_pos c8] at H
                  have c8b0 : decide ((l0.length : Int) ≤ 1) = true := decide_eq_true c8
                  clear c8
                  (first | rw [c8b0] | (simp only [i64_w, i32_w]; rw [c8b0]) | skip)
                  as_aux_lemma =>
                    obtain rfl := Option.some.inj H
                    go_wp2
                    go_ret
                    exact ⟨by first | rfl | (simp; done) | (simp [*]; done), by repeat (first | exact Drawn0.refl _ | apply Drawn0.step)⟩
                · rw [if_neg c8] at H
                  have c8b0 : decide ((l0.length : Int) ≤ 1) = false := decide_eq_false c8
                  clear c8
                  (first | rw [c8b0] | (simp only [i64_w, i32_w]; rw [c8b0]) | skip)
                  as_aux_lemma =>
                    have H' := Aside0.mk H
                    clear H
                    go_wp2
                    go_meet
                    case rel => exact ⟨_, 1, (by first | rfl | (simp; done) | (simp [*]; done)), H', ⟨by have := HJ2.out; first | omega | exact Nat.le_refl _⟩, by repeat (first | exact Drawn0.refl _ | apply Drawn0.step)⟩
              · replace c7 := Bool.eq_false_iff.mpr c7
                subst c7
                have H1 : (tdparse_Number.j1 kj2 l0 0) = some r := by rw [if_neg (show ¬ (false = true) by decide)] at H; exact H
                clear H
                have H := H1
                clear H1
                as_aux_lemma =>
                  have H' := Aside0.mk H
                  clear H
                  go_wp2
                  go_meet
                  case rel => exact ⟨_, (0), (by first | rfl | (simp; done) | (simp [*]; done)), H', ⟨by have := HJ2.out; first | omega | exact Nat.le_refl _⟩, by repeat (first | exact Drawn0.refl _ | apply Drawn0.step)⟩
          case rest =>
            as_aux_lemma =>
              clear HC6
              try clear p1
              try clear q1
              try clear hx1
              try clear qi1
              try clear c2
              try clear c2b0
              try clear c2b1
              try clear c2b2
              try clear p2
              try clear c4
              try clear c4b0
              try clear c4b1
              try clear c5
              try clear c5b0
              try clear c5b1
              try clear p6
              try clear c7
              try clear c8
              try clear c8b0
              try clear hx124_0
              try clear hx125_0
              try clear p1
              try clear p124
              try clear p125
              try clear p2
              try clear q1
              try clear q124
              try clear q125
              obtain ⟨kq, x3_5, rfl, HA, HJ5, ⟨mc5, rfl⟩⟩ := hcut
              cases kq with
              | zero => exact absurd HA.out (by simp [tdparse_Number.j1])
              | succ kj5 =>
                have H := HA.out
                clear HA
                simp only [tdparse_Number.j1] at H
                (try simp only [show wrap64 (0 + 1) = 1 by unfold wrap64; omega] at H)
                have HC9 := Aside0.mk H
                clear H
                go_upto_region 8 with (fail)
                go_cut [4] (fun v4 wc => ∃ (kq : Nat) (x4_8 : Bool), v4 = .bool x4_8 ∧ Aside0 (tdparse_Number.j2 kq l0 x3_5 x4_8 = some r) ∧ Aside0 (kq ≤ kj5) ∧ Drawn0 w wc)
                case first =>
                  as_aux_lemma =>
                    have H := HC9.out
                    clear HC9
                    by_cases c10 : 0 ≤ x3_5
                    · rw [if_pos c10] at H
                      have c10b0 : decide (0 ≤ x3_5) = true := decide_eq_true c10
                      clear c10
                      (first | rw [c10b0] | (simp only [i64_w, i32_w]; rw [c10b0]) | skip)
                      by_cases c11 : x3_5 < (l0.length : Int)
                      · rw [if_pos c11] at H
                        have c11b0 : decide (x3_5 < (l0.length : Int)) = true := decide_eq_true c11
                        clear c11
                        by_cases c12 : (rd l0 x3_5) ≥ 48
                        · rw [if_pos c12] at H
                          have c12b0 : decide (48 ≤ (rd l0 x3_5)) = true := decide_eq_true c12
                          clear c12
                          as_aux_lemma =>
                            have H' := Aside0.mk H
                            clear H
                            have p126 : 0 ≤ (x3_5 : Int) := of_decide_eq_true (by first | (with_reducible assumption) | assumption)
                            have q126 : x3_5 < (l0.length : Int) := of_decide_eq_true (by first | (with_reducible assumption) | assumption)
                            obtain ⟨ad126, e126, hx126_0⟩ := Kd.at_int HR0.out x3_5 p126 q126
                            cases e126
                            replace p126 := eq_true p126
                            replace q126 := eq_true q126
                            have p127 : 0 ≤ (x3_5 : Int) := of_decide_eq_true (by first | (with_reducible assumption) | assumption)
                            have q127 : x3_5 < (l0.length : Int) := of_decide_eq_true (by first | (with_reducible assumption) | assumption)
                            obtain ⟨ad127, e127, hx127_0⟩ := Kd.at_int HR0.out x3_5 p127 q127
                            obtain rfl : ad126 = ad127 := (by injection e127)
                            replace p127 := eq_true p127
                            replace q127 := eq_true q127
                            go_wp2
                            go_meet
                            case rel => exact ⟨_, (decide ((rd l0 x3_5) ≤ 57)), (by first | rfl | (simp; done) | (simp [*]; done)), H', ⟨by have := HJ2.out; have := HJ5.out; first | omega | exact Nat.le_refl _⟩, by repeat (first | exact Drawn0.refl _ | apply Drawn0.step)⟩
                        · rw [if_neg c12] at H
                          have c12b0 : decide (48 ≤ (rd l0 x3_5)) = false := decide_eq_false c12
                          clear c12
                          as_aux_lemma =>
                            have H' := Aside0.mk H
                            clear H
                            have p126 : 0 ≤ (x3_5 : Int) := of_decide_eq_true (by first | (with_reducible assumption) | assumption)
                            have q126 : x3_5 < (l0.length : Int) := of_decide_eq_true (by first | (with_reducible assumption) | assumption)
                            obtain ⟨ad126, e126, hx126_0⟩ := Kd.at_int HR0.out x3_5 p126 q126
                            cases e126
                            replace p126 := eq_true p126
                            replace q126 := eq_true q126
                            go_wp2
                            go_meet
                            case rel => exact ⟨_, (false), (by first | rfl | (simp; done) | (simp [*]; done)), H', ⟨by have := HJ2.out; have := HJ5.out; first | omega | exact Nat.le_refl _⟩, by repeat (first | exact Drawn0.refl _ | apply Drawn0.step)⟩
                      · rw [if_neg c11] at H
                        exact absurd H (by simp)
                    · rw [if_neg c10] at H
                      exact absurd H (by simp)
                case rest =>
                  as_aux_lemma =>
                    clear HC9
                    try clear c1
                    try clear p1
                    try clear q1
                    try clear hx1
                    try clear qi1
                    try clear c2
                    try clear c2b0
                    try clear c2b1
                    try clear c2b2
                    try clear p2
                    try clear c4
                    try clear c4b0
                    try clear c4b1
                    try clear c5
                    try clear c5b0
                    try clear c5b1
                    try clear p6
                    try clear c7
                    try clear c8
                    try clear c8b0
                    try clear c10
                    try clear c10b0
                    try clear c11
                    try clear c11b0
                    try clear c12
                    try clear c12b0
                    try clear p12
                    try clear q12
                    try clear hx12
                    try clear qi12
                    try clear hx124_0
                    try clear hx125_0
                    try clear hx126_0
                    try clear hx127_0
                    try clear p1
                    try clear p124
                    try clear p125
                    try clear p126
                    try clear p127
                    try clear p2
                    try clear p6
                    try clear q1
                    try clear q124
                    try clear q125
                    try clear q126
                    try clear q127
                    obtain ⟨kq, x4_8, rfl, HA, HJ8, ⟨mc8, rfl⟩⟩ := hcut
                    cases kq with
                    | zero => exact absurd HA.out (by simp [tdparse_Number.j2])
                    | succ kj8 =>
                      have H := HA.out
                      clear HA
                      simp only [tdparse_Number.j2] at H
                      (try simp only [show wrap64 (0 + 1) = 1 by unfold wrap64; omega] at H)
                      have HC13 := Aside0.mk H
                      clear H
                      go_upto_if 39 with (fail)
                      go_cut [3] (fun v3 wc => ∃ (kq : Nat) (x3_12 : Int), v3 = .int .i64 x3_12 ∧ Aside0 (tdparse_Number.j4 kq l0 x3_12 x4_8 = some r) ∧ Aside0 (kq ≤ kj8) ∧ Drawn0 w wc)
                      case first =>
                        as_aux_lemma =>
                          have H := HC13.out
                          clear HC13
                          by_cases c14 : x4_8 = true
                          · subst c14
                            have H1 : (tdparse_Number.l0 kj8 l0 (wrap64 (x3_5 + 1)) true) = some r := by rw [if_pos rfl] at H; exact H
                            clear H
                            have H := H1
                            clear H1
                            have H' := Aside0.mk H
                            clear H
                            go_wp2
                            go_loopg [3] kj8 (fun kq v3 w' => ∃ (x3_4 : Int), v3 = .int .i64 x3_4 ∧ Aside0 (tdparse_Number.l0 kq l0 x3_4 true = some r) ∧ Aside0 (kq ≤ kj8) ∧ Drawn0 w w')
                            case atStart => exact ⟨(wrap64 (x3_5 + 1)), (by first | rfl | (simp; done) | (simp [*]; done)), H', ⟨Nat.le_refl _⟩, by repeat (first | exact Drawn0.refl _ | apply Drawn0.step)⟩
                            case round =>
                              clear H'
                              try clear c1
                              try clear p1
                              try clear q1
                              try clear hx1
                              try clear qi1
                              try clear c2
                              try clear c2b0
                              try clear c2b1
                              try clear c2b2
                              try clear p2
                              try clear c4
                              try clear c4b0
                              try clear c4b1
                              try clear c5
                              try clear c5b0
                              try clear c5b1
                              try clear p6
                              try clear c7
                              try clear c8
                              try clear c8b0
                              try clear c10
                              try clear c10b0
                              try clear c11
                              try clear c11b0
                              try clear c12
                              try clear c12b0
                              try clear p12
                              try clear q12
                              try clear hx12
                              try clear qi12
                              try clear c14
                              try clear hx124_0
                              try clear hx125_0
                              try clear hx126_0
                              try clear hx127_0
                              try clear p1
                              try clear p12
                              try clear p124
                              try clear p125
                              try clear p126
                              try clear p127
                              try clear p2
                              try clear p6
                              try clear q1
                              try clear q12
                              try clear q124
                              try clear q125
                              try clear q126
                              try clear q127
                              obtain ⟨x3_4, rfl, HA, HK4, ⟨m4, rfl⟩⟩ := hrel
                              cases gk with
                              | zero => exact absurd HA.out (by simp [tdparse_Number.l0])
                              | succ k4 =>
                                have H := HA.out
                                clear HA
                                simp only [tdparse_Number.l0] at H
                                (try simp only [show wrap64 (0 + 1) = 1 by unfold wrap64; omega] at H)
                                by_cases c15 : x3_4 < (l0.length : Int)
                                · rw [if_pos c15] at H
                                  have c15b0 : decide (x3_4 < (l0.length : Int)) = true := decide_eq_true c15
                                  clear c15
                                  (first | rw [c15b0] | (simp only [i64_w, i32_w]; rw [c15b0]) | skip)
                                  by_cases c16 : 0 ≤ x3_4
                                  · rw [if_pos c16] at H
                                    have c16b0 : decide (0 ≤ x3_4) = true := decide_eq_true c16
                                    clear c16
                                    by_cases c17 : (rd l0 x3_4) ≥ 48
                                    · rw [if_pos c17] at H
                                      have c17b0 : decide (48 ≤ (rd l0 x3_4)) = true := decide_eq_true c17
                                      clear c17
                                      by_cases c18 : (rd l0 x3_4) ≤ 57
                                      · rw [if_pos c18] at H
                                        have c18b0 : decide ((rd l0 x3_4) ≤ 57) = true := decide_eq_true c18
                                        clear c18
                                        as_aux_lemma =>
                                          have H' := Aside0.mk H
                                          clear H
                                          have p128 : 0 ≤ (x3_4 : Int) := of_decide_eq_true (by first | (with_reducible assumption) | assumption)
                                          have q128 : x3_4 < (l0.length : Int) := of_decide_eq_true (by first | (with_reducible assumption) | assumption)
                                          obtain ⟨ad128, e128, hx128_0⟩ := Kd.at_int HR0.out x3_4 p128 q128
                                          cases e128
                                          replace p128 := eq_true p128
                                          replace q128 := eq_true q128
                                          have p129 : 0 ≤ (x3_4 : Int) := of_decide_eq_true (by first | (with_reducible assumption) | assumption)
                                          have q129 : x3_4 < (l0.length : Int) := of_decide_eq_true (by first | (with_reducible assumption) | assumption)
                                          obtain ⟨ad129, e129, hx129_0⟩ := Kd.at_int HR0.out x3_4 p129 q129
                                          obtain rfl : ad128 = ad129 := (by injection e129)
                                          replace p129 := eq_true p129
                                          replace q129 := eq_true q129
                                          go_wp2
                                          go_roundg k4
                                          case measure => have := HJ2.out; have := HJ5.out; have := HJ8.out; have := HK4.out; omega
                                          case rel => exact ⟨(wrap64 (x3_4 + 1)), (by first | rfl | (simp; done) | (simp [*]; done)), H', ⟨by have := HJ2.out; have := HJ5.out; have := HJ8.out; have := HK4.out; omega⟩, by repeat (first | exact Drawn0.refl _ | apply Drawn0.step)⟩
                                      · rw [if_neg c18] at H
                                        have c18b0 : decide ((rd l0 x3_4) ≤ 57) = false := decide_eq_false c18
                                        clear c18
                                        as_aux_lemma =>
                                          have H' := Aside0.mk H
                                          clear H
                                          have p128 : 0 ≤ (x3_4 : Int) := of_decide_eq_true (by first | (with_reducible assumption) | assumption)
                                          have q128 : x3_4 < (l0.length : Int) := of_decide_eq_true (by first | (with_reducible assumption) | assumption)
                                          obtain ⟨ad128, e128, hx128_0⟩ := Kd.at_int HR0.out x3_4 p128 q128
                                          cases e128
                                          replace p128 := eq_true p128
                                          replace q128 := eq_true q128
                                          have p129 : 0 ≤ (x3_4 : Int) := of_decide_eq_true (by first | (with_reducible assumption) | assumption)
                                          have q129 : x3_4 < (l0.length : Int) := of_decide_eq_true (by first | (with_reducible assumption) | assumption)
                                          obtain ⟨ad129, e129, hx129_0⟩ := Kd.at_int HR0.out x3_4 p129 q129
                                          obtain rfl : ad128 = ad129 := (by injection e129)
                                          replace p129 := eq_true p129
                                          replace q129 := eq_true q129
                                          go_wp2
                                          go_meet
                                          case rel => exact ⟨_, (x3_4), (by first | rfl | (simp; done) | (simp [*]; done)), H', ⟨by have := HJ2.out; have := HJ5.out; have := HJ8.out; have := HK4.out; first | omega | exact Nat.le_refl _⟩, by repeat (first | exact Drawn0.refl _ | apply Drawn0.step)⟩
                                    · rw [if_neg c17] at H
                                      have c17b0 : decide (48 ≤ (rd l0 x3_4)) = false := decide_eq_false c17
                                      clear c17
                                      as_aux_lemma =>
                                        have H' := Aside0.mk H
                                        clear H
                                        have p128 : 0 ≤ (x3_4 : Int) := of_decide_eq_true (by first | (with_reducible assumption) | assumption)
                                        have q128 : x3_4 < (l0.length : Int) := of_decide_eq_true (by first | (with_reducible assumption) | assumption)
                                        obtain ⟨ad128, e128, hx128_0⟩ := Kd.at_int HR0.out x3_4 p128 q128
                                        cases e128
                                        replace p128 := eq_true p128
                                        replace q128 := eq_true q128
                                        go_wp2
                                        go_meet
                                        case rel => exact ⟨_, (x3_4), (by first | rfl | (simp; done) | (simp [*]; done)), H', ⟨by have := HJ2.out; have := HJ5.out; have := HJ8.out; have := HK4.out; first | omega | exact Nat.le_refl _⟩, by repeat (first | exact Drawn0.refl _ | apply Drawn0.step)⟩
                                  · rw [if_neg c16] at H
                                    exact absurd H (by simp)
                                · rw [if_neg c15] at H
                                  have c15b0 : decide (x3_4 < (l0.length : Int)) = false := decide_eq_false c15
                                  clear c15
                                  (first | rw [c15b0] | (simp only [i64_w, i32_w]; rw [c15b0]) | skip)
                                  as_aux_lemma =>
                                    have H' := Aside0.mk H
                                    clear H
                                    go_wp2
                                    go_meet
                                    case rel => exact ⟨_, (x3_4), (by first | rfl | (simp; done) | (simp [*]; done)), H', ⟨by have := HJ2.out; have := HJ5.out; have := HJ8.out; have := HK4.out; first | omega | exact Nat.le_refl _⟩, by repeat (first | exact Drawn0.refl _ | apply Drawn0.step)⟩
                          · replace c14 := Bool.eq_false_iff.mpr c14
                            subst c14
                            have H1 : (tdparse_Number.j4 kj8 l0 x3_5 false) = some r := by rw [if_neg (show ¬ (false = true) by decide)] at H; exact H
                            clear H
                            have H := H1
                            clear H1
                            as_aux_lemma =>
                              have H' := Aside0.mk H
                              clear H
                              go_wp2
                              go_meet
                              case rel => exact ⟨_, (x3_5), (by first | rfl | (simp; done) | (simp [*]; done)), H', ⟨by have := HJ2.out; have := HJ5.out; have := HJ8.out; first | omega | exact Nat.le_refl _⟩, by repeat (first | exact Drawn0.refl _ | apply Drawn0.step)⟩
                      case rest =>
                        as_aux_lemma =>
                          clear HC13
                          try clear c1
                          try clear p1
                          try clear q1
                          try clear hx1
                          try clear qi1
                          try clear c2
                          try clear c2b0
                          try clear c2b1
                          try clear c2b2
                          try clear p2
                          try clear c4
                          try clear c4b0
                          try clear c4b1
                          try clear c5
                          try clear c5b0
                          try clear c5b1
                          try clear p6
                          try clear c7
                          try clear c8
                          try clear c8b0
                          try clear c10
                          try clear c10b0
                          try clear c11
                          try clear c11b0
                          try clear c12
                          try clear c12b0
                          try clear p12
                          try clear q12
                          try clear hx12
                          try clear qi12
                          try clear c14
                          try clear c15
                          try clear c15b0
                          try clear c16
                          try clear c16b0
                          try clear c17
                          try clear c17b0
                          try clear c18
                          try clear c18b0
                          try clear hx124_0
                          try clear hx125_0
                          try clear hx126_0
                          try clear hx127_0
                          try clear hx128_0
                          try clear hx129_0
                          try clear p1
                          try clear p12
                          try clear p124
                          try clear p125
                          try clear p126
                          try clear p127
                          try clear p128
                          try clear p129
                          try clear p2
                          try clear p6
                          try clear q1
                          try clear q12
                          try clear q124
                          try clear q125
                          try clear q126
                          try clear q127
                          try clear q128
                          try clear q129
                          obtain ⟨kq, x3_12, rfl, HA, HJ12, ⟨mc12, rfl⟩⟩ := hcut
                          cases kq with
                          | zero => exact absurd HA.out (by simp [tdparse_Number.j4])
                          | succ kj12 =>
                            have H := HA.out
                            clear HA
                            simp only [tdparse_Number.j4] at H
                            (try simp only [show wrap64 (0 + 1) = 1 by unfold wrap64; omega] at H)
                            have HC19 := Aside0.mk H
                            clear H
                            go_upto_region 13 with (fail)
                            go_cut [72] (fun v72 wc => ∃ (kq : Nat) (x72_18 : Bool), v72 = .bool x72_18 ∧ Aside0 (tdparse_Number.j5 kq l0 x3_12 x4_8 x72_18 = some r) ∧ Aside0 (kq ≤ kj12) ∧ Drawn0 w wc)
                            case first =>
                              as_aux_lemma =>
                                have H := HC19.out
                                clear HC19
                                by_cases c20 : x3_12 < (l0.length : Int)
                                · rw [if_pos c20] at H
                                  have c20b0 : decide (x3_12 < (l0.length : Int)) = true := decide_eq_true c20
                                  clear c20
                                  (first | rw [c20b0] | (simp only [i64_w, i32_w]; rw [c20b0]) | skip)
                                  by_cases c21 : 0 ≤ x3_12
                                  · rw [if_pos c21] at H
                                    have c21b0 : decide (0 ≤ x3_12) = true := decide_eq_true c21
                                    clear c21
                                    as_aux_lemma =>
                                      have H' := Aside0.mk H
                                      clear H
                                      have p130 : 0 ≤ (x3_12 : Int) := of_decide_eq_true (by first | (with_reducible assumption) | assumption)
                                      have q130 : x3_12 < (l0.length : Int) := of_decide_eq_true (by first | (with_reducible assumption) | assumption)
                                      obtain ⟨ad130, e130, hx130_0⟩ := Kd.at_int HR0.out x3_12 p130 q130
                                      cases e130
                                      replace p130 := eq_true p130
                                      replace q130 := eq_true q130
                                      go_wp2
                                      go_meet
                                      case rel => exact ⟨_, (((rd l0 x3_12) == 46)), (by first | rfl | (simp; done) | (simp [*]; done)), H', ⟨by have := HJ2.out; have := HJ5.out; have := HJ8.out; have := HJ12.out; first | omega | exact Nat.le_refl _⟩, by repeat (first | exact Drawn0.refl _ | apply Drawn0.step)⟩
                                  · rw [if_neg c21] at H
                                    exact absurd H (by simp)
                                · rw [if_neg c20] at H
                                  have c20b0 : decide (x3_12 < (l0.length : Int)) = false := decide_eq_false c20
                                  clear c20
                                  (first | rw [c20b0] | (simp only [i64_w, i32_w]; rw [c20b0]) | skip)
                                  as_aux_lemma =>
                                    have H' := Aside0.mk H
                                    clear H
                                    go_wp2
                                    go_meet
                                    case rel => exact ⟨_, (false), (by first | rfl | (simp; done) | (simp [*]; done)), H', ⟨by have := HJ2.out; have := HJ5.out; have := HJ8.out; have := HJ12.out; first | omega | exact Nat.le_refl _⟩, by repeat (first | exact Drawn0.refl _ | apply Drawn0.step)⟩
                            case rest =>
                              as_aux_lemma =>
                                clear HC19
                                try clear c1
                                try clear p1
                                try clear q1
                                try clear hx1
                                try clear qi1
                                try clear c2
                                try clear c2b0
                                try clear c2b1
                                try clear c2b2
                                try clear p2
                                try clear c4
                                try clear c4b0
                                try clear c4b1
                                try clear c5
                                try clear c5b0
                                try clear c5b1
                                try clear p6
                                try clear c7
                                try clear c8
                                try clear c8b0
                                try clear c10
                                try clear c10b0
                                try clear c11
                                try clear c11b0
                                try clear c12
                                try clear c12b0
                                try clear p12
                                try clear q12
                                try clear hx12
                                try clear qi12
                                try clear p13
                                try clear q13
                                try clear hx13
                                try clear c14
                                try clear c15
                                try clear c15b0
                                try clear c16
                                try clear c16b0
                                try clear c17
                                try clear c17b0
                                try clear c18
                                try clear c18b0
                                try clear c20
                                try clear c20b0
                                try clear c21
                                try clear c21b0
                                try clear hx124_0
                                try clear hx125_0
                                try clear hx126_0
                                try clear hx127_0
                                try clear hx128_0
                                try clear hx129_0
                                try clear hx130_0
                                try clear p1
                                try clear p12
                                try clear p124
                                try clear p125
                                try clear p126
                                try clear p127
                                try clear p128
                                try clear p129
                                try clear p130
                                try clear p2
                                try clear p6
                                try clear q1
                                try clear q12
                                try clear q124
                                try clear q125
                                try clear q126
                                try clear q127
                                try clear q128
                                try clear q129
                                try clear q130
                                obtain ⟨kq, x72_18, rfl, HA, HJ18, ⟨mc18, rfl⟩⟩ := hcut
                                cases kq with
                                | zero => exact absurd HA.out (by simp [tdparse_Number.j5])
                                | succ kj18 =>
                                  have H := HA.out
                                  clear HA
                                  simp only [tdparse_Number.j5] at H
                                  (try simp only [show wrap64 (0 + 1) = 1 by unfold wrap64; omega] at H)
                                  have HC22 := Aside0.mk H
                                  clear H
                                  go_upto_if 72 with (fail)
                                  go_cut [3] (fun v3 wc => ∃ (kq : Nat) (x3_21 : Int), v3 = .int .i64 x3_21 ∧ Aside0 (tdparse_Number.j8 kq l0 x3_21 = some r) ∧ Aside0 (kq ≤ kj18) ∧ Drawn0 w wc)
                                  case first =>
                                    as_aux_lemma =>
                                      have H := HC22.out
                                      clear HC22
                                      by_cases c23 : x72_18 = true
                                      · subst c23
                                        have H1 : (if (wrap64 (x3_12 + 1)) < (l0.length : Int) then (if 0 ≤ (wrap64 (x3_12 + 1)) then (if (rd l0 (wrap64 (x3_12 + 1))) ≥ 48 then (tdparse_Number.j6 kj18 l0 (wrap64 (x3_12 + 1)) x4_8 (decide ((rd l0 (wrap64 (x3_12 + 1))) ≤ 57))) else (tdparse_Number.j6 kj18 l0 (wrap64 (x3_12 + 1)) x4_8 false)) else (none)) else (tdparse_Number.j6 kj18 l0 (wrap64 (x3_12 + 1)) x4_8 false)) = some r := by rw [if_pos rfl] at H; exact H
                                        clear H
                                        have H := H1
                                        clear H1
                                        have HC24 := Aside0.mk H
                                        clear H
                                        go_upto_region 15 with (fail)
                                        go_cut [92] (fun v92 wc => ∃ (kq : Nat) (x92_23 : Bool), v92 = .bool x92_23 ∧ Aside0 (tdparse_Number.j6 kq l0 (wrap64 (x3_12 + 1)) x4_8 x92_23 = some r) ∧ Aside0 (kq ≤ kj18) ∧ Drawn0 w wc)
                                        case first =>
                                          as_aux_lemma =>
                                            have H := HC24.out
                                            clear HC24
                                            by_cases c25 : (wrap64 (x3_12 + 1)) < (l0.length : Int)
                                            · rw [if_pos c25] at H
                                              have c25b0 : decide ((wrap64 (x3_12 + 1)) < (l0.length : Int)) = true := decide_eq_true c25
                                              clear c25
                                              (first | rw [c25b0] | (simp only [i64_w, i32_w]; rw [c25b0]) | skip)
                                              obtain ⟨ji26, hji26⟩ : ∃ j_ : Int, (wrap64 (x3_12 + 1)) = j_ := ⟨_, rfl⟩
                                              replace H : (if 0 ≤ (ji26) then (if (rd l0 (ji26)) ≥ 48 then (tdparse_Number.j6 kj18 l0 ji26 x4_8 (decide ((rd l0 (ji26)) ≤ 57))) else (tdparse_Number.j6 kj18 l0 ji26 x4_8 false)) else (none)) = some r := by first | (rw [hji26] at H; exact H) | (simp only [hji26] at H ⊢; exact H)
                                              (try rw [hji26] at c25b0)
                                              have hji26w : (IntKind.i64.wrap (x3_12 + 1)) = ji26 := (i64_w _).trans hji26
                                              by_cases c27 : 0 ≤ (ji26)
                                              · rw [if_pos c27] at H
                                                have c27b0 : decide (0 ≤ (ji26)) = true := decide_eq_true c27
                                                clear c27
                                                by_cases c28 : (rd l0 (ji26)) ≥ 48
                                                · rw [if_pos c28] at H
                                                  have c28b0 : decide (48 ≤ (rd l0 (ji26))) = true := decide_eq_true c28
                                                  clear c28
                                                  as_aux_lemma =>
                                                    have H' := Aside0.mk H
                                                    clear H
                                                    have p131 : 0 ≤ ((ji26) : Int) := of_decide_eq_true (by first | (with_reducible assumption) | assumption)
                                                    have q131 : (ji26) < (l0.length : Int) := of_decide_eq_true (by first | (with_reducible assumption) | assumption)
                                                    obtain ⟨ad131, e131, hx131_0⟩ := Kd.at_int HR0.out (ji26) p131 q131
                                                    cases e131
                                                    replace p131 := eq_true p131
                                                    replace q131 := eq_true q131
                                                    have p132 : 0 ≤ ((ji26) : Int) := of_decide_eq_true (by first | (with_reducible assumption) | assumption)
                                                    have q132 : (ji26) < (l0.length : Int) := of_decide_eq_true (by first | (with_reducible assumption) | assumption)
                                                    obtain ⟨ad132, e132, hx132_0⟩ := Kd.at_int HR0.out (ji26) p132 q132
                                                    obtain rfl : ad131 = ad132 := (by injection e132)
                                                    replace p132 := eq_true p132
                                                    replace q132 := eq_true q132
                                                    go_wp2
                                                    subst hji26
                                                    go_meet
                                                    case rel => exact ⟨_, (decide ((rd l0 ((wrap64 (x3_12 + 1)))) ≤ 57)), (by first | rfl | (simp; done) | (simp; done) | (simp [*]; done)), H', ⟨by have := HJ2.out; have := HJ5.out; have := HJ8.out; have := HJ12.out; have := HJ18.out; first | omega | exact Nat.le_refl _⟩, by repeat (first | exact Drawn0.refl _ | apply Drawn0.step)⟩
                                                · rw [if_neg c28] at H
                                                  have c28b0 : decide (48 ≤ (rd l0 (ji26))) = false := decide_eq_false c28
                                                  clear c28
                                                  as_aux_lemma =>
                                                    have H' := Aside0.mk H
                                                    clear H
                                                    have p131 : 0 ≤ ((ji26) : Int) := of_decide_eq_true (by first | (with_reducible assumption) | assumption)
                                                    have q131 : (ji26) < (l0.length : Int) := of_decide_eq_true (by first | (with_reducible assumption) | assumption)
                                                    obtain ⟨ad131, e131, hx131_0⟩ := Kd.at_int HR0.out (ji26) p131 q131
                                                    cases e131
                                                    replace p131 := eq_true p131
                                                    replace q131 := eq_true q131
                                                    go_wp2
                                                    subst hji26
                                                    go_meet
                                                    case rel => exact ⟨_, (false), (by first | rfl | (simp; done) | (simp [*]; done)), H', ⟨by have := HJ2.out; have := HJ5.out; have := HJ8.out; have := HJ12.out; have := HJ18.out; first | omega | exact Nat.le_refl _⟩, by repeat (first | exact Drawn0.refl _ | apply Drawn0.step)⟩
                                              · rw [if_neg c27] at H
                                                exact absurd H (by simp)
                                            · rw [if_neg c25] at H
                                              have c25b0 : decide ((wrap64 (x3_12 + 1)) < (l0.length : Int)) = false := decide_eq_false c25
                                              clear c25
                                              (first | rw [c25b0] | (simp only [i64_w, i32_w]; rw [c25b0]) | skip)
                                              as_aux_lemma =>
                                                have H' := Aside0.mk H
                                                clear H
                                                go_wp2
                                                go_meet
                                                case rel => exact ⟨_, (false), (by first | rfl | (simp; done) | (simp [*]; done)), H', ⟨by have := HJ2.out; have := HJ5.out; have := HJ8.out; have := HJ12.out; have := HJ18.out; first | omega | exact Nat.le_refl _⟩, by repeat (first | exact Drawn0.refl _ | apply Drawn0.step)⟩
                                        case rest =>
                                          as_aux_lemma =>
                                            clear HC24
                                            try clear c1
                                            try clear p1
                                            try clear q1
                                            try clear hx1
                                            try clear qi1
                                            try clear c2
                                            try clear c2b0
                                            try clear c2b1
                                            try clear c2b2
                                            try clear p2
                                            try clear c4
                                            try clear c4b0
                                            try clear c4b1
                                            try clear c5
                                            try clear c5b0
                                            try clear c5b1
                                            try clear p6
                                            try clear c7
                                            try clear c8
                                            try clear c8b0
                                            try clear c10
                                            try clear c10b0
                                            try clear c11
                                            try clear c11b0
                                            try clear c12
                                            try clear c12b0
                                            try clear p12
                                            try clear q12
                                            try clear hx12
                                            try clear qi12
                                            try clear p13
                                            try clear q13
                                            try clear hx13
                                            try clear c14
                                            try clear c15
                                            try clear c15b0
                                            try clear c16
                                            try clear c16b0
                                            try clear c17
                                            try clear c17b0
                                            try clear c18
                                            try clear c18b0
                                            try clear c20
                                            try clear c20b0
                                            try clear c21
                                            try clear c21b0
                                            try clear c23
                                            try clear c25
                                            try clear c25b0
                                            try clear c27
                                            try clear c27b0
                                            try clear c28
                                            try clear c28b0
                                            try clear hx124_0
                                            try clear hx125_0
                                            try clear hx126_0
                                            try clear hx127_0
                                            try clear hx128_0
                                            try clear hx129_0
                                            try clear hx130_0
                                            try clear hx131_0
                                            try clear hx132_0
                                            try clear p1
                                            try clear p12
                                            try clear p124
                                            try clear p125
                                            try clear p126
                                            try clear p127
                                            try clear p128
                                            try clear p129
                                            try clear p13
                                            try clear p130
                                            try clear p131
                                            try clear p132
                                            try clear p2
                                            try clear p6
                                            try clear q1
                                            try clear q12
                                            try clear q124
                                            try clear q125
                                            try clear q126
                                            try clear q127
                                            try clear q128
                                            try clear q129
                                            try clear q13
                                            try clear q130
                                            try clear q131
                                            try clear q132
                                            obtain ⟨kq, x92_23, rfl, HA, HJ23, ⟨mc23, rfl⟩⟩ := hcut
                                            cases kq with
                                            | zero => exact absurd HA.out (by simp [tdparse_Number.j6])
                                            | succ kj23 =>
                                              have H := HA.out
                                              clear HA
                                              simp only [tdparse_Number.j6] at H
                                              (try simp only [show wrap64 (0 + 1) = 1 by unfold wrap64; omega] at H)
                                              by_cases c29 : x92_23 = true
                                              · subst c29
                                                have H1 : (tdparse_Number.l1 kj23 l0 (wrap64 ((wrap64 (x3_12 + 1)) + 1))) = some r := by rw [if_pos rfl] at H; exact H
                                                clear H
                                                have H := H1
                                                clear H1
                                                have H' := Aside0.mk H
                                                clear H
                                                go_wp2
                                                go_loopg [3] kj23 (fun kq v3 w' => ∃ (x3_7 : Int), v3 = .int .i64 x3_7 ∧ Aside0 (tdparse_Number.l1 kq l0 x3_7 = some r) ∧ Aside0 (kq ≤ kj23) ∧ Drawn0 w w')
                                                case atStart => exact ⟨(wrap64 ((wrap64 (x3_12 + 1)) + 1)), (by first | rfl | (simp; done) | (simp [*]; done)), H', ⟨Nat.le_refl _⟩, by repeat (first | exact Drawn0.refl _ | apply Drawn0.step)⟩
                                                case round =>
                                                  clear H'
                                                  try clear c1
                                                  try clear p1
                                                  try clear q1
                                                  try clear hx1
                                                  try clear qi1
                                                  try clear c2
                                                  try clear c2b0
                                                  try clear c2b1
                                                  try clear c2b2
                                                  try clear p2
                                                  try clear c4
                                                  try clear c4b0
                                                  try clear c4b1
                                                  try clear c5
                                                  try clear c5b0
                                                  try clear c5b1
                                                  try clear p6
                                                  try clear c7
                                                  try clear c8
                                                  try clear c8b0
                                                  try clear c10
                                                  try clear c10b0
                                                  try clear c11
                                                  try clear c11b0
                                                  try clear c12
                                                  try clear c12b0
                                                  try clear p12
                                                  try clear q12
                                                  try clear hx12
                                                  try clear qi12
                                                  try clear p13
                                                  try clear q13
                                                  try clear hx13
                                                  try clear c14
                                                  try clear c15
                                                  try clear c15b0
                                                  try clear c16
                                                  try clear c16b0
                                                  try clear c17
                                                  try clear c17b0
                                                  try clear c18
                                                  try clear c18b0
                                                  try clear c20
                                                  try clear c20b0
                                                  try clear c21
                                                  try clear c21b0
                                                  try clear c23
                                                  try clear c25
                                                  try clear c25b0
                                                  try clear c27
                                                  try clear c27b0
                                                  try clear c28
                                                  try clear c28b0
                                                  try clear c29
                                                  try clear hx124_0
                                                  try clear hx125_0
                                                  try clear hx126_0
                                                  try clear hx127_0
                                                  try clear hx128_0
                                                  try clear hx129_0
                                                  try clear hx130_0
                                                  try clear hx131_0
                                                  try clear hx132_0
                                                  try clear p1
                                                  try clear p12
                                                  try clear p124
                                                  try clear p125
                                                  try clear p126
                                                  try clear p127
                                                  try clear p128
                                                  try clear p129
                                                  try clear p13
                                                  try clear p130
                                                  try clear p131
                                                  try clear p132
                                                  try clear p2
                                                  try clear p6
                                                  try clear q1
                                                  try clear q12
                                                  try clear q124
                                                  try clear q125
                                                  try clear q126
                                                  try clear q127
                                                  try clear q128
                                                  try clear q129
                                                  try clear q13
                                                  try clear q130
                                                  try clear q131
                                                  try clear q132
                                                  obtain ⟨x3_7, rfl, HA, HK7, ⟨m7, rfl⟩⟩ := hrel
                                                  cases gk with
                                                  | zero => exact absurd HA.out (by simp [tdparse_Number.l1])
                                                  | succ k7 =>
                                                    have H := HA.out
                                                    clear HA
                                                    simp only [tdparse_Number.l1] at H
                                                    (try simp only [show wrap64 (0 + 1) = 1 by unfold wrap64; omega] at H)
                                                    by_cases c30 : x3_7 < (l0.length : Int)
                                                    · rw [if_pos c30] at H
                                                      have c30b0 : decide (x3_7 < (l0.length : Int)) = true := decide_eq_true c30
                                                      clear c30
                                                      by_cases c31 : 0 ≤ x3_7
                                                      · rw [if_pos c31] at H
                                                        have c31b0 : decide (0 ≤ x3_7) = true := decide_eq_true c31
                                                        clear c31
                                                        by_cases c32 : (rd l0 x3_7) ≥ 48
                                                        · rw [if_pos c32] at H
                                                          have c32b0 : decide (48 ≤ (rd l0 x3_7)) = true := decide_eq_true c32
                                                          clear c32
                                                          by_cases c33 : (rd l0 x3_7) ≤ 57
                                                          · rw [if_pos c33] at H
                                                            have c33b0 : decide ((rd l0 x3_7) ≤ 57) = true := decide_eq_true c33
                                                            clear c33
                                                            as_aux_lemma =>
                                                              have H' := Aside0.mk H
                                                              clear H
                                                              have p133 : 0 ≤ (x3_7 : Int) := of_decide_eq_true (by first | (with_reducible assumption) | assumption)
                                                              have q133 : x3_7 < (l0.length : Int) := of_decide_eq_true (by first | (with_reducible assumption) | assumption)
                                                              obtain ⟨ad133, e133, hx133_0⟩ := Kd.at_int HR0.out x3_7 p133 q133
                                                              cases e133
                                                              replace p133 := eq_true p133
                                                              replace q133 := eq_true q133
                                                              have p134 : 0 ≤ (x3_7 : Int) := of_decide_eq_true (by first | (with_reducible assumption) | assumption)
                                                              have q134 : x3_7 < (l0.length : Int) := of_decide_eq_true (by first | (with_reducible assumption) | assumption)
                                                              obtain ⟨ad134, e134, hx134_0⟩ := Kd.at_int HR0.out x3_7 p134 q134
                                                              obtain rfl : ad133 = ad134 := (by injection e134)
                                                              replace p134 := eq_true p134
                                                              replace q134 := eq_true q134
                                                              go_wp2
                                                              go_roundg k7
                                                              case measure => have := HJ2.out; have := HJ5.out; have := HJ8.out; have := HJ12.out; have := HJ18.out; have := HJ23.out; have := HK7.out; omega
                                                              case rel => exact ⟨(wrap64 (x3_7 + 1)), (by first | rfl | (simp; done) | (simp [*]; done)), H', ⟨by have := HJ2.out; have := HJ5.out; have := HJ8.out; have := HJ12.out; have := HJ18.out; have := HJ23.out; have := HK7.out; omega⟩, by repeat (first | exact Drawn0.refl _ | apply Drawn0.step)⟩
                                                          · rw [if_neg c33] at H
                                                            have c33b0 : decide ((rd l0 x3_7) ≤ 57) = false := decide_eq_false c33
                                                            clear c33
                                                            as_aux_lemma =>
                                                              have H' := Aside0.mk H
                                                              clear H
                                                              have p133 : 0 ≤ (x3_7 : Int) := of_decide_eq_true (by first | (with_reducible assumption) | assumption)
                                                              have q133 : x3_7 < (l0.length : Int) := of_decide_eq_true (by first | (with_reducible assumption) | assumption)
                                                              obtain ⟨ad133, e133, hx133_0⟩ := Kd.at_int HR0.out x3_7 p133 q133
                                                              cases e133
                                                              replace p133 := eq_true p133
                                                              replace q133 := eq_true q133
                                                              have p134 : 0 ≤ (x3_7 : Int) := of_decide_eq_true (by first | (with_reducible assumption) | assumption)
                                                              have q134 : x3_7 < (l0.length : Int) := of_decide_eq_true (by first | (with_reducible assumption) | assumption)
                                                              obtain ⟨ad134, e134, hx134_0⟩ := Kd.at_int HR0.out x3_7 p134 q134
                                                              obtain rfl : ad133 = ad134 := (by injection e134)
                                                              replace p134 := eq_true p134
                                                              replace q134 := eq_true q134
                                                              go_wp2
                                                              go_meet
                                                              case rel => exact ⟨_, (x3_7), (by first | rfl | (simp; done) | (simp [*]; done)), H', ⟨by have := HJ2.out; have := HJ5.out; have := HJ8.out; have := HJ12.out; have := HJ18.out; have := HJ23.out; have := HK7.out; first | omega | exact Nat.le_refl _⟩, by repeat (first | exact Drawn0.refl _ | apply Drawn0.step)⟩
                                                        · rw [if_neg c32] at H
                                                          have c32b0 : decide (48 ≤ (rd l0 x3_7)) = false := decide_eq_false c32
                                                          clear c32
                                                          as_aux_lemma =>
                                                            have H' := Aside0.mk H
                                                            clear H
                                                            have p133 : 0 ≤ (x3_7 : Int) := of_decide_eq_true (by first | (with_reducible assumption) | assumption)
                                                            have q133 : x3_7 < (l0.length : Int) := of_decide_eq_true (by first | (with_reducible assumption) | assumption)
                                                            obtain ⟨ad133, e133, hx133_0⟩ := Kd.at_int HR0.out x3_7 p133 q133
                                                            cases e133
                                                            replace p133 := eq_true p133
                                                            replace q133 := eq_true q133
                                                            go_wp2
                                                            go_meet
                                                            case rel => exact ⟨_, (x3_7), (by first | rfl | (simp; done) | (simp [*]; done)), H', ⟨by have := HJ2.out; have := HJ5.out; have := HJ8.out; have := HJ12.out; have := HJ18.out; have := HJ23.out; have := HK7.out; first | omega | exact Nat.le_refl _⟩, by repeat (first | exact Drawn0.refl _ | apply Drawn0.step)⟩
                                                      · rw [if_neg c31] at H
                                                        exact absurd H (by simp)
                                                    · rw [if_neg c30] at H
                                                      have c30b0 : decide (x3_7 < (l0.length : Int)) = false := decide_eq_false c30
                                                      clear c30
                                                      as_aux_lemma =>
                                                        have H' := Aside0.mk H
                                                        clear H
                                                        go_wp2
                                                        go_meet
                                                        case rel => exact ⟨_, (x3_7), (by first | rfl | (simp; done) | (simp [*]; done)), H', ⟨by have := HJ2.out; have := HJ5.out; have := HJ8.out; have := HJ12.out; have := HJ18.out; have := HJ23.out; have := HK7.out; first | omega | exact Nat.le_refl _⟩, by repeat (first | exact Drawn0.refl _ | apply Drawn0.step)⟩
                                              · replace c29 := Bool.eq_false_iff.mpr c29
                                                subst c29
                                                have H1 : (if x4_8 = true then (some (wrap64 ((wrap64 (x3_12 + 1)) - 1))) else (some 0)) = some r := by rw [if_neg (show ¬ (false = true) by decide)] at H; exact H
                                                clear H
                                                have H := H1
                                                clear H1
                                                by_cases c34 : x4_8 = true
                                                · subst c34
                                                  have H1 : (some (wrap64 ((wrap64 (x3_12 + 1)) - 1))) = some r := by rw [if_pos rfl] at H; exact H
                                                  clear H
                                                  have H := H1
                                                  clear H1
                                                  as_aux_lemma =>
                                                    obtain rfl := Option.some.inj H
                                                    go_wp2
                                                    go_ret
                                                    exact ⟨by first | rfl | (simp; done) | (simp [*]; done), by repeat (first | exact Drawn0.refl _ | apply Drawn0.step)⟩
                                                · replace c34 := Bool.eq_false_iff.mpr c34
                                                  subst c34
                                                  have H1 : (some 0) = some r := by rw [if_neg (show ¬ (false = true) by decide)] at H; exact H
                                                  clear H
                                                  have H := H1
                                                  clear H1
                                                  as_aux_lemma =>
                                                    obtain rfl := Option.some.inj H
                                                    go_wp2
                                                    go_ret
                                                    exact ⟨by first | rfl | (simp; done) | (simp [*]; done), by repeat (first | exact Drawn0.refl _ | apply Drawn0.step)⟩
                                      · replace c23 := Bool.eq_false_iff.mpr c23
                                        subst c23
                                        have H1 : (if x4_8 = true then (tdparse_Number.j8 kj18 l0 x3_12) else (some 0)) = some r := by rw [if_neg (show ¬ (false = true) by decide)] at H; exact H
                                        clear H
                                        have H := H1
                                        clear H1
                                        by_cases c35 : x4_8 = true
                                        · subst c35
                                          have H1 : (tdparse_Number.j8 kj18 l0 x3_12) = some r := by rw [if_pos rfl] at H; exact H
                                          clear H
                                          have H := H1
                                          clear H1
                                          as_aux_lemma =>
                                            have H' := Aside0.mk H
                                            clear H
                                            go_wp2
                                            go_meet
                                            case rel => exact ⟨_, (x3_12), (by first | rfl | (simp; done) | (simp [*]; done)), H', ⟨by have := HJ2.out; have := HJ5.out; have := HJ8.out; have := HJ12.out; have := HJ18.out; first | omega | exact Nat.le_refl _⟩, by repeat (first | exact Drawn0.refl _ | apply Drawn0.step)⟩
                                        · replace c35 := Bool.eq_false_iff.mpr c35
                                          subst c35
                                          have H1 : (some 0) = some r := by rw [if_neg (show ¬ (false = true) by decide)] at H; exact H
                                          clear H
                                          have H := H1
                                          clear H1
                                          as_aux_lemma =>
                                            obtain rfl := Option.some.inj H
                                            go_wp2
                                            go_ret
                                            exact ⟨by first | rfl | (simp; done) | (simp [*]; done), by repeat (first | exact Drawn0.refl _ | apply Drawn0.step)⟩
                                  case rest =>
                                    as_aux_lemma =>
                                      clear HC22
                                      try clear c1
                                      try clear p1
                                      try clear q1
                                      try clear hx1
                                      try clear qi1
                                      try clear c2
                                      try clear c2b0
                                      try clear c2b1
                                      try clear c2b2
                                      try clear p2
                                      try clear c3
                                      try clear c4
                                      try clear c4b0
                                      try clear c4b1
                                      try clear c5
                                      try clear c5b0
                                      try clear c5b1
                                      try clear p6
                                      try clear c7
                                      try clear c8
                                      try clear c8b0
                                      try clear c10
                                      try clear c10b0
                                      try clear c11
                                      try clear c11b0
                                      try clear c12
                                      try clear c12b0
                                      try clear p12
                                      try clear q12
                                      try clear hx12
                                      try clear qi12
                                      try clear p13
                                      try clear q13
                                      try clear hx13
                                      try clear c14
                                      try clear c15
                                      try clear c15b0
                                      try clear c16
                                      try clear c16b0
                                      try clear c17
                                      try clear c17b0
                                      try clear c18
                                      try clear c18b0
                                      try clear c20
                                      try clear c20b0
                                      try clear c21
                                      try clear c21b0
                                      try clear c23
                                      try clear c25
                                      try clear c25b0
                                      try clear c27
                                      try clear c27b0
                                      try clear c28
                                      try clear c28b0
                                      try clear c29
                                      try clear c30
                                      try clear c30b0
                                      try clear c31
                                      try clear c31b0
                                      try clear c32
                                      try clear c32b0
                                      try clear c33
                                      try clear c33b0
                                      try clear c34
                                      try clear c35
                                      try clear hx124_0
                                      try clear hx125_0
                                      try clear hx126_0
                                      try clear hx127_0
                                      try clear hx128_0
                                      try clear hx129_0
                                      try clear hx130_0
                                      try clear hx131_0
                                      try clear hx132_0
                                      try clear hx133_0
                                      try clear hx134_0
                                      try clear p1
                                      try clear p12
                                      try clear p124
                                      try clear p125
                                      try clear p126
                                      try clear p127
                                      try clear p128
                                      try clear p129
                                      try clear p13
                                      try clear p130
                                      try clear p131
                                      try clear p132
                                      try clear p133
                                      try clear p134
                                      try clear p2
                                      try clear p6
                                      try clear q1
                                      try clear q12
                                      try clear q124
                                      try clear q125
                                      try clear q126
                                      try clear q127
                                      try clear q128
                                      try clear q129
                                      try clear q13
                                      try clear q130
                                      try clear q131
                                      try clear q132
                                      try clear q133
                                      try clear q134
                                      obtain ⟨kq, x3_21, rfl, HA, HJ21, ⟨mc21, rfl⟩⟩ := hcut
                                      cases kq with
                                      | zero => exact absurd HA.out (by simp [tdparse_Number.j8])
                                      | succ kj21 =>
                                        have H := HA.out
                                        clear HA
                                        simp only [tdparse_Number.j8] at H
                                        (try simp only [show wrap64 (0 + 1) = 1 by unfold wrap64; omega] at H)
                                        have HC36 := Aside0.mk H
                                        clear H
                                        go_upto_region 26 with (fail)
                                        go_cut [139] (fun v139 wc => ∃ (kq : Nat) (x139_35 : Bool), v139 = .bool x139_35 ∧ Aside0 (tdparse_Number.j9 kq l0 x3_21 x3_21 x139_35 = some r) ∧ Aside0 (kq ≤ kj21) ∧ Drawn0 w wc)
                                        case first =>
                                          as_aux_lemma =>
                                            have H := HC36.out
                                            clear HC36
                                            by_cases c37 : x3_21 < (l0.length : Int)
                                            · rw [if_pos c37] at H
                                              have c37b0 : decide (x3_21 < (l0.length : Int)) = true := decide_eq_true c37
                                              clear c37
                                              (first | rw [c37b0] | (simp only [i64_w, i32_w]; rw [c37b0]) | skip)
                                              by_cases c38 : 0 ≤ x3_21
                                              · rw [if_pos c38] at H
                                                have c38b0 : decide (0 ≤ x3_21) = true := decide_eq_true c38
                                                clear c38
                                                by_cases c39 : (rd l0 x3_21) = 101
                                                · rw [if_pos c39] at H
                                                  have c39b0 : ((rd l0 x3_21) == 101) = true := beq_iff_eq.mpr c39
                                                  have c39b1 : ((rd l0 x3_21) != 101) = false := bne_eq_false_iff_eq.mpr c39
                                                  clear c39
                                                  as_aux_lemma =>
                                                    have H' := Aside0.mk H
                                                    clear H
                                                    have p135 : 0 ≤ (x3_21 : Int) := of_decide_eq_true (by first | (with_reducible assumption) | assumption)
                                                    have q135 : x3_21 < (l0.length : Int) := of_decide_eq_true (by first | (with_reducible assumption) | assumption)
                                                    obtain ⟨ad135, e135, hx135_0⟩ := Kd.at_int HR0.out x3_21 p135 q135
                                                    cases e135
                                                    replace p135 := eq_true p135
                                                    replace q135 := eq_true q135
                                                    go_wp2
                                                    go_meet
                                                    case rel => exact ⟨_, (true), (by first | rfl | (simp; done) | (simp [*]; done)), H', ⟨by have := HJ2.out; have := HJ5.out; have := HJ8.out; have := HJ12.out; have := HJ18.out; have := HJ21.out; first | omega | exact Nat.le_refl _⟩, by repeat (first | exact Drawn0.refl _ | apply Drawn0.step)⟩
                                                · rw [if_neg c39] at H
                                                  have c39b0 : ((rd l0 x3_21) == 101) = false := beq_eq_false_iff_ne.mpr c39
                                                  have c39b1 : ((rd l0 x3_21) != 101) = true := bne_iff_ne.mpr c39
                                                  as_aux_lemma =>
                                                    have H' := Aside0.mk H
                                                    clear H
                                                    have p135 : 0 ≤ (x3_21 : Int) := of_decide_eq_true (by first | (with_reducible assumption) | assumption)
                                                    have q135 : x3_21 < (l0.length : Int) := of_decide_eq_true (by first | (with_reducible assumption) | assumption)
                                                    obtain ⟨ad135, e135, hx135_0⟩ := Kd.at_int HR0.out x3_21 p135 q135
                                                    cases e135
                                                    replace p135 := eq_true p135
                                                    replace q135 := eq_true q135
                                                    have p136 : 0 ≤ (x3_21 : Int) := of_decide_eq_true (by first | (with_reducible assumption) | assumption)
                                                    have q136 : x3_21 < (l0.length : Int) := of_decide_eq_true (by first | (with_reducible assumption) | assumption)
                                                    obtain ⟨ad136, e136, hx136_0⟩ := Kd.at_int HR0.out x3_21 p136 q136
                                                    obtain rfl : ad135 = ad136 := (by injection e136)
                                                    replace p136 := eq_true p136
                                                    replace q136 := eq_true q136
                                                    go_wp2
                                                    go_meet
                                                    case rel => exact ⟨_, (((rd l0 x3_21) == 69)), (by first | rfl | (simp; done) | (simp [*]; done)), H', ⟨by have := HJ2.out; have := HJ5.out; have := HJ8.out; have := HJ12.out; have := HJ18.out; have := HJ21.out; first | omega | exact Nat.le_refl _⟩, by repeat (first | exact Drawn0.refl _ | apply Drawn0.step)⟩
                                              · rw [if_neg c38] at H
                                                exact absurd H (by simp)
                                            · rw [if_neg c37] at H
                                              have c37b0 : decide (x3_21 < (l0.length : Int)) = false := decide_eq_false c37
                                              clear c37
                                              (first | rw [c37b0] | (simp only [i64_w, i32_w]; rw [c37b0]) | skip)
                                              as_aux_lemma =>
                                                have H' := Aside0.mk H
                                                clear H
                                                go_wp2
                                                go_meet
                                                case rel => exact ⟨_, (false), (by first | rfl | (simp; done) | (simp [*]; done)), H', ⟨by have := HJ2.out; have := HJ5.out; have := HJ8.out; have := HJ12.out; have := HJ18.out; have := HJ21.out; first | omega | exact Nat.le_refl _⟩, by repeat (first | exact Drawn0.refl _ | apply Drawn0.step)⟩
                                        case rest =>
                                          as_aux_lemma =>
                                            clear HC36
                                            try clear c1
                                            try clear p1
                                            try clear q1
                                            try clear hx1
                                            try clear qi1
                                            try clear c2
                                            try clear c2b0
                                            try clear c2b1
                                            try clear c2b2
                                            try clear p2
                                            try clear c3
                                            try clear c4
                                            try clear c4b0
                                            try clear c4b1
                                            try clear c5
                                            try clear c5b0
                                            try clear c5b1
                                            try clear p6
                                            try clear c7
                                            try clear c8
                                            try clear c8b0
                                            try clear c10
                                            try clear c10b0
                                            try clear c11
                                            try clear c11b0
                                            try clear c12
                                            try clear c12b0
                                            try clear p12
                                            try clear q12
                                            try clear hx12
                                            try clear qi12
                                            try clear p13
                                            try clear q13
                                            try clear hx13
                                            try clear c14
                                            try clear c15
                                            try clear c15b0
                                            try clear c16
                                            try clear c16b0
                                            try clear c17
                                            try clear c17b0
                                            try clear c18
                                            try clear c18b0
                                            try clear c20
                                            try clear c20b0
                                            try clear c21
                                            try clear c21b0
                                            try clear c23
                                            try clear c25
                                            try clear c25b0
                                            try clear c27
                                            try clear c27b0
                                            try clear c28
                                            try clear c28b0
                                            try clear c29
                                            try clear c30
                                            try clear c30b0
                                            try clear c31
                                            try clear c31b0
                                            try clear c32
                                            try clear c32b0
                                            try clear c33
                                            try clear c33b0
                                            try clear c34
                                            try clear c35
                                            try clear c37
                                            try clear c37b0
                                            try clear c38
                                            try clear c38b0
                                            try clear c39
                                            try clear c39b0
                                            try clear c39b1
                                            try clear hx124_0
                                            try clear hx125_0
                                            try clear hx126_0
                                            try clear hx127_0
                                            try clear hx128_0
                                            try clear hx129_0
                                            try clear hx130_0
                                            try clear hx131_0
                                            try clear hx132_0
                                            try clear hx133_0
                                            try clear hx134_0
                                            try clear hx135_0
                                            try clear hx136_0
                                            try clear p1
                                            try clear p12
                                            try clear p124
                                            try clear p125
                                            try clear p126
                                            try clear p127
                                            try clear p128
                                            try clear p129
                                            try clear p13
                                            try clear p130
                                            try clear p131
                                            try clear p132
                                            try clear p133
                                            try clear p134
                                            try clear p135
                                            try clear p136
                                            try clear p2
                                            try clear p6
                                            try clear q1
                                            try clear q12
                                            try clear q124
                                            try clear q125
                                            try clear q126
                                            try clear q127
                                            try clear q128
                                            try clear q129
                                            try clear q13
                                            try clear q130
                                            try clear q131
                                            try clear q132
                                            try clear q133
                                            try clear q134
                                            try clear q135
                                            try clear q136
                                            obtain ⟨kq, x139_35, rfl, HA, HJ35, ⟨mc35, rfl⟩⟩ := hcut
                                            cases kq with
                                            | zero => exact absurd HA.out (by simp [tdparse_Number.j9])
                                            | succ kj35 =>
                                              have H := HA.out
                                              clear HA
                                              simp only [tdparse_Number.j9] at H
                                              (try simp only [show wrap64 (0 + 1) = 1 by unfold wrap64; omega] at H)
                                              by_cases c40 : x139_35 = true
                                              · subst c40
                                                have H1 : (if (wrap64 (x3_21 + 1)) < (l0.length : Int) then (if 0 ≤ (wrap64 (x3_21 + 1)) then (if (rd l0 (wrap64 (x3_21 + 1))) = 43 then (tdparse_Number.j10 kj35 l0 (wrap64 (x3_21 + 1)) x3_21 true) else (tdparse_Number.j10 kj35 l0 (wrap64 (x3_21 + 1)) x3_21 ((rd l0 (wrap64 (x3_21 + 1))) == 45))) else (none)) else (tdparse_Number.j10 kj35 l0 (wrap64 (x3_21 + 1)) x3_21 false)) = some r := by rw [if_pos rfl] at H; exact H
                                                clear H
                                                have H := H1
                                                clear H1
                                                have HC41 := Aside0.mk H
                                                clear H
                                                go_upto_region 28 with (fail)
                                                go_cut [159] (fun v159 wc => ∃ (kq : Nat) (x159_40 : Bool), v159 = .bool x159_40 ∧ Aside0 (tdparse_Number.j10 kq l0 (wrap64 (x3_21 + 1)) x3_21 x159_40 = some r) ∧ Aside0 (kq ≤ kj35) ∧ Drawn0 w wc)
                                                case first =>
                                                  as_aux_lemma =>
                                                    have H := HC41.out
                                                    clear HC41
                                                    by_cases c42 : (wrap64 (x3_21 + 1)) < (l0.length : Int)
                                                    · rw [if_pos c42] at H
                                                      have c42b0 : decide ((wrap64 (x3_21 + 1)) < (l0.length : Int)) = true := decide_eq_true c42
                                                      clear c42
                                                      (first | rw [c42b0] | (simp only [i64_w, i32_w]; rw [c42b0]) | skip)
                                                      obtain ⟨ji43, hji43⟩ : ∃ j_ : Int, (wrap64 (x3_21 + 1)) = j_ := ⟨_, rfl⟩
                                                      replace H : (if 0 ≤ (ji43) then (if (rd l0 (ji43)) = 43 then (tdparse_Number.j10 kj35 l0 ji43 x3_21 true) else (tdparse_Number.j10 kj35 l0 ji43 x3_21 ((rd l0 (ji43)) == 45))) else (none)) = some r := by first | (rw [hji43] at H; exact H) | (simp only [hji43] at H ⊢; exact H)
                                                      (try rw [hji43] at c42b0)
                                                      have hji43w : (IntKind.i64.wrap (x3_21 + 1)) = ji43 := (i64_w _).trans hji43
                                                      by_cases c44 : 0 ≤ (ji43)
                                                      · rw [if_pos c44] at H
                                                        have c44b0 : decide (0 ≤ (ji43)) = true := decide_eq_true c44
                                                        clear c44
                                                        by_cases c45 : (rd l0 (ji43)) = 43
                                                        · rw [if_pos c45] at H
                                                          have c45b0 : ((rd l0 (ji43)) == 43) = true := beq_iff_eq.mpr c45
                                                          have c45b1 : ((rd l0 (ji43)) != 43) = false := bne_eq_false_iff_eq.mpr c45
                                                          clear c45
                                                          as_aux_lemma =>
                                                            have H' := Aside0.mk H
                                                            clear H
                                                            have p137 : 0 ≤ ((ji43) : Int) := of_decide_eq_true (by first | (with_reducible assumption) | assumption)
                                                            have q137 : (ji43) < (l0.length : Int) := of_decide_eq_true (by first | (with_reducible assumption) | assumption)
                                                            obtain ⟨ad137, e137, hx137_0⟩ := Kd.at_int HR0.out (ji43) p137 q137
                                                            cases e137
                                                            replace p137 := eq_true p137
                                                            replace q137 := eq_true q137
                                                            go_wp2
                                                            subst hji43
                                                            go_meet
                                                            case rel => exact ⟨_, (true), (by first | rfl | (simp; done) | (simp [*]; done)), H', ⟨by have := HJ2.out; have := HJ5.out; have := HJ8.out; have := HJ12.out; have := HJ18.out; have := HJ21.out; have := HJ35.out; first | omega | exact Nat.le_refl _⟩, by repeat (first | exact Drawn0.refl _ | apply Drawn0.step)⟩
                                                        · rw [if_neg c45] at H
                                                          have c45b0 : ((rd l0 (ji43)) == 43) = false := beq_eq_false_iff_ne.mpr c45
                                                          have c45b1 : ((rd l0 (ji43)) != 43) = true := bne_iff_ne.mpr c45
                                                          as_aux_lemma =>
                                                            have H' := Aside0.mk H
                                                            clear H
                                                            have p137 : 0 ≤ ((ji43) : Int) := of_decide_eq_true (by first | (with_reducible assumption) | assumption)
                                                            have q137 : (ji43) < (l0.length : Int) := of_decide_eq_true (by first | (with_reducible assumption) | assumption)
                                                            obtain ⟨ad137, e137, hx137_0⟩ := Kd.at_int HR0.out (ji43) p137 q137
                                                            cases e137
                                                            replace p137 := eq_true p137
                                                            replace q137 := eq_true q137
                                                            have p138 : 0 ≤ ((ji43) : Int) := of_decide_eq_true (by first | (with_reducible assumption) | assumption)
                                                            have q138 : (ji43) < (l0.length : Int) := of_decide_eq_true (by first | (with_reducible assumption) | assumption)
                                                            obtain ⟨ad138, e138, hx138_0⟩ := Kd.at_int HR0.out (ji43) p138 q138
                                                            obtain rfl : ad137 = ad138 := (by injection e138)
                                                            replace p138 := eq_true p138
                                                            replace q138 := eq_true q138
                                                            go_wp2
                                                            subst hji43
                                                            go_meet
                                                            case rel => exact ⟨_, (((rd l0 ((wrap64 (x3_21 + 1)))) == 45)), (by first | rfl | (simp; done) | (simp; done) | (simp [*]; done)), H', ⟨by have := HJ2.out; have := HJ5.out; have := HJ8.out; have := HJ12.out; have := HJ18.out; have := HJ21.out; have := HJ35.out; first | omega | exact Nat.le_refl _⟩, by repeat (first | exact Drawn0.refl _ | apply Drawn0.step)⟩
                                                      · rw [if_neg c44] at H
                                                        exact absurd H (by simp)
                                                    · rw [if_neg c42] at H
                                                      have c42b0 : decide ((wrap64 (x3_21 + 1)) < (l0.length : Int)) = false := decide_eq_false c42
                                                      clear c42
                                                      (first | rw [c42b0] | (simp only [i64_w, i32_w]; rw [c42b0]) | skip)
                                                      as_aux_lemma =>
                                                        have H' := Aside0.mk H
                                                        clear H
                                                        go_wp2
                                                        go_meet
                                                        case rel => exact ⟨_, (false), (by first | rfl | (simp; done) | (simp [*]; done)), H', ⟨by have := HJ2.out; have := HJ5.out; have := HJ8.out; have := HJ12.out; have := HJ18.out; have := HJ21.out; have := HJ35.out; first | omega | exact Nat.le_refl _⟩, by repeat (first | exact Drawn0.refl _ | apply Drawn0.step)⟩
                                                case rest =>
                                                  as_aux_lemma =>
                                                    clear HC41
                                                    try clear c1
                                                    try clear p1
                                                    try clear q1
                                                    try clear hx1
                                                    try clear qi1
                                                    try clear c2
                                                    try clear c2b0
                                                    try clear c2b1
                                                    try clear c2b2
                                                    try clear p2
                                                    try clear c3
                                                    try clear c4
                                                    try clear c4b0
                                                    try clear c4b1
                                                    try clear c5
                                                    try clear c5b0
                                                    try clear c5b1
                                                    try clear p6
                                                    try clear c7
                                                    try clear c8
                                                    try clear c8b0
                                                    try clear c10
                                                    try clear c10b0
                                                    try clear c11
                                                    try clear c11b0
                                                    try clear c12
                                                    try clear c12b0
                                                    try clear p12
                                                    try clear q12
                                                    try clear hx12
                                                    try clear qi12
                                                    try clear p13
                                                    try clear q13
                                                    try clear hx13
                                                    try clear c14
                                                    try clear c15
                                                    try clear c15b0
                                                    try clear c16
                                                    try clear c16b0
                                                    try clear c17
                                                    try clear c17b0
                                                    try clear c18
                                                    try clear c18b0
                                                    try clear c20
                                                    try clear c20b0
                                                    try clear c21
                                                    try clear c21b0
                                                    try clear c23
                                                    try clear c25
                                                    try clear c25b0
                                                    try clear c27
                                                    try clear c27b0
                                                    try clear c28
                                                    try clear c28b0
                                                    try clear c29
                                                    try clear c30
                                                    try clear c30b0
                                                    try clear c31
                                                    try clear c31b0
                                                    try clear c32
                                                    try clear c32b0
                                                    try clear c33
                                                    try clear c33b0
                                                    try clear c34
                                                    try clear c35
                                                    try clear c37
                                                    try clear c37b0
                                                    try clear c38
                                                    try clear c38b0
                                                    try clear c39
                                                    try clear c39b0
                                                    try clear c39b1
                                                    try clear c40
                                                    try clear c42
                                                    try clear c42b0
                                                    try clear c44
                                                    try clear c44b0
                                                    try clear c45
                                                    try clear c45b0
                                                    try clear c45b1
                                                    try clear hx124_0
                                                    try clear hx125_0
                                                    try clear hx126_0
                                                    try clear hx127_0
                                                    try clear hx128_0
                                                    try clear hx129_0
                                                    try clear hx130_0
                                                    try clear hx131_0
                                                    try clear hx132_0
                                                    try clear hx133_0
                                                    try clear hx134_0
                                                    try clear hx135_0
                                                    try clear hx136_0
                                                    try clear hx137_0
                                                    try clear hx138_0
                                                    try clear p1
                                                    try clear p12
                                                    try clear p124
                                                    try clear p125
                                                    try clear p126
                                                    try clear p127
                                                    try clear p128
                                                    try clear p129
                                                    try clear p13
                                                    try clear p130
                                                    try clear p131
                                                    try clear p132
                                                    try clear p133
                                                    try clear p134
                                                    try clear p135
                                                    try clear p136
                                                    try clear p137
                                                    try clear p138
                                                    try clear p2
                                                    try clear p6
                                                    try clear q1
                                                    try clear q12
                                                    try clear q124
                                                    try clear q125
                                                    try clear q126
                                                    try clear q127
                                                    try clear q128
                                                    try clear q129
                                                    try clear q13
                                                    try clear q130
                                                    try clear q131
                                                    try clear q132
                                                    try clear q133
                                                    try clear q134
                                                    try clear q135
                                                    try clear q136
                                                    try clear q137
                                                    try clear q138
                                                    obtain ⟨kq, x159_40, rfl, HA, HJ40, ⟨mc40, rfl⟩⟩ := hcut
                                                    cases kq with
                                                    | zero => exact absurd HA.out (by simp [tdparse_Number.j10])
                                                    | succ kj40 =>
                                                      have H := HA.out
                                                      clear HA
                                                      simp only [tdparse_Number.j10] at H
                                                      (try simp only [show wrap64 (0 + 1) = 1 by unfold wrap64; omega] at H)
                                                      have HC46 := Aside0.mk H
                                                      clear H
                                                      go_upto_if 159 with (fail)
                                                      go_cut [3] (fun v3 wc => ∃ (kq : Nat) (x3_45 : Int), v3 = .int .i64 x3_45 ∧ Aside0 (tdparse_Number.j11 kq l0 x3_45 x3_21 = some r) ∧ Aside0 (kq ≤ kj40) ∧ Drawn0 w wc)
                                                      case first =>
                                                        as_aux_lemma =>
                                                          have H := HC46.out
                                                          clear HC46
                                                          by_cases c47 : x159_40 = true
                                                          · subst c47
                                                            have H1 : (tdparse_Number.j11 kj40 l0 (wrap64 ((wrap64 (x3_21 + 1)) + 1)) x3_21) = some r := by rw [if_pos rfl] at H; exact H
                                                            clear H
                                                            have H := H1
                                                            clear H1
                                                            as_aux_lemma =>
                                                              have H' := Aside0.mk H
                                                              clear H
                                                              go_wp2
                                                              go_meet
                                                              case rel => exact ⟨_, (wrap64 ((wrap64 (x3_21 + 1)) + 1)), (by first | rfl | (simp; done) | (simp [*]; done)), H', ⟨by have := HJ2.out; have := HJ5.out; have := HJ8.out; have := HJ12.out; have := HJ18.out; have := HJ21.out; have := HJ35.out; have := HJ40.out; first | omega | exact Nat.le_refl _⟩, by repeat (first | exact Drawn0.refl _ | apply Drawn0.step)⟩
                                                          · replace c47 := Bool.eq_false_iff.mpr c47
                                                            subst c47
                                                            have H1 : (tdparse_Number.j11 kj40 l0 (wrap64 (x3_21 + 1)) x3_21) = some r := by rw [if_neg (show ¬ (false = true) by decide)] at H; exact H
                                                            clear H
                                                            have H := H1
                                                            clear H1
                                                            as_aux_lemma =>
                                                              have H' := Aside0.mk H
                                                              clear H
                                                              go_wp2
                                                              go_meet
                                                              case rel => exact ⟨_, ((wrap64 (x3_21 + 1))), (by first | rfl | (simp; done) | (simp [*]; done)), H', ⟨by have := HJ2.out; have := HJ5.out; have := HJ8.out; have := HJ12.out; have := HJ18.out; have := HJ21.out; have := HJ35.out; have := HJ40.out; first | omega | exact Nat.le_refl _⟩, by repeat (first | exact Drawn0.refl _ | apply Drawn0.step)⟩
                                                      case rest =>
                                                        as_aux_lemma =>
                                                          clear HC46
                                                          try clear c1
                                                          try clear p1
                                                          try clear q1
                                                          try clear hx1
                                                          try clear qi1
                                                          try clear c2
                                                          try clear c2b0
                                                          try clear c2b1
                                                          try clear c2b2
                                                          try clear p2
                                                          try clear c3
                                                          try clear c4
                                                          try clear c4b0
                                                          try clear c4b1
                                                          try clear c5
                                                          try clear c5b0
                                                          try clear c5b1
                                                          try clear p6
                                                          try clear c7
                                                          try clear c8
                                                          try clear c8b0
                                                          try clear c10
                                                          try clear c10b0
                                                          try clear c11
                                                          try clear c11b0
                                                          try clear c12
                                                          try clear c12b0
                                                          try clear p12
                                                          try clear q12
                                                          try clear hx12
                                                          try clear qi12
                                                          try clear p13
                                                          try clear q13
                                                          try clear hx13
                                                          try clear c14
                                                          try clear c15
                                                          try clear c15b0
                                                          try clear c16
                                                          try clear c16b0
                                                          try clear c17
                                                          try clear c17b0
                                                          try clear c18
                                                          try clear c18b0
                                                          try clear c20
                                                          try clear c20b0
                                                          try clear c21
                                                          try clear c21b0
                                                          try clear c23
                                                          try clear c25
                                                          try clear c25b0
                                                          try clear c27
                                                          try clear c27b0
                                                          try clear c28
                                                          try clear c28b0
                                                          try clear c29
                                                          try clear c30
                                                          try clear c30b0
                                                          try clear c31
                                                          try clear c31b0
                                                          try clear c32
                                                          try clear c32b0
                                                          try clear c33
                                                          try clear c33b0
                                                          try clear c34
                                                          try clear c35
                                                          try clear c37
                                                          try clear c37b0
                                                          try clear c38
                                                          try clear c38b0
                                                          try clear c39
                                                          try clear c39b0
                                                          try clear c39b1
                                                          try clear c40
                                                          try clear c42
                                                          try clear c42b0
                                                          try clear c44
                                                          try clear c44b0
                                                          try clear c45
                                                          try clear c45b0
                                                          try clear c45b1
                                                          try clear c47
                                                          try clear hx124_0
                                                          try clear hx125_0
                                                          try clear hx126_0
                                                          try clear hx127_0
                                                          try clear hx128_0
                                                          try clear hx129_0
                                                          try clear hx130_0
                                                          try clear hx131_0
                                                          try clear hx132_0
                                                          try clear hx133_0
                                                          try clear hx134_0
                                                          try clear hx135_0
                                                          try clear hx136_0
                                                          try clear hx137_0
                                                          try clear hx138_0
                                                          try clear p1
                                                          try clear p12
                                                          try clear p124
                                                          try clear p125
                                                          try clear p126
                                                          try clear p127
                                                          try clear p128
                                                          try clear p129
                                                          try clear p13
                                                          try clear p130
                                                          try clear p131
                                                          try clear p132
                                                          try clear p133
                                                          try clear p134
                                                          try clear p135
                                                          try clear p136
                                                          try clear p137
                                                          try clear p138
                                                          try clear p2
                                                          try clear p6
                                                          try clear q1
                                                          try clear q12
                                                          try clear q124
                                                          try clear q125
                                                          try clear q126
                                                          try clear q127
                                                          try clear q128
                                                          try clear q129
                                                          try clear q13
                                                          try clear q130
                                                          try clear q131
                                                          try clear q132
                                                          try clear q133
                                                          try clear q134
                                                          try clear q135
                                                          try clear q136
                                                          try clear q137
                                                          try clear q138
                                                          obtain ⟨kq, x3_45, rfl, HA, HJ45, ⟨mc45, rfl⟩⟩ := hcut
                                                          cases kq with
                                                          | zero => exact absurd HA.out (by simp [tdparse_Number.j11])
                                                          | succ kj45 =>
                                                            have H := HA.out
                                                            clear HA
                                                            simp only [tdparse_Number.j11] at H
                                                            (try simp only [show wrap64 (0 + 1) = 1 by unfold wrap64; omega] at H)
                                                            have HC48 := Aside0.mk H
                                                            clear H
                                                            go_upto_region 30 with (fail)
                                                            go_cut [179] (fun v179 wc => ∃ (kq : Nat) (x179_47 : Bool), v179 = .bool x179_47 ∧ Aside0 (tdparse_Number.j12 kq l0 x3_45 x3_21 x179_47 = some r) ∧ Aside0 (kq ≤ kj45) ∧ Drawn0 w wc)
                                                            case first =>
                                                              as_aux_lemma =>
                                                                have H := HC48.out
                                                                clear HC48
                                                                by_cases c49 : x3_45 ≥ (l0.length : Int)
                                                                · rw [if_pos c49] at H
                                                                  have c49b0 : decide ((l0.length : Int) ≤ x3_45) = true := decide_eq_true c49
                                                                  clear c49
                                                                  (first | rw [c49b0] | (simp only [i64_w, i32_w]; rw [c49b0]) | skip)
                                                                  as_aux_lemma =>
                                                                    have H' := Aside0.mk H
                                                                    clear H
                                                                    go_wp2
                                                                    go_meet
                                                                    case rel => exact ⟨_, (true), (by first | rfl | (simp; done) | (simp [*]; done)), H', ⟨by have := HJ2.out; have := HJ5.out; have := HJ8.out; have := HJ12.out; have := HJ18.out; have := HJ21.out; have := HJ35.out; have := HJ40.out; have := HJ45.out; first | omega | exact Nat.le_refl _⟩, by repeat (first | exact Drawn0.refl _ | apply Drawn0.step)⟩
                                                                · rw [if_neg c49] at H
                                                                  have c49b0 : decide ((l0.length : Int) ≤ x3_45) = false := decide_eq_false c49
                                                                  clear c49
                                                                  (first | rw [c49b0] | (simp only [i64_w, i32_w]; rw [c49b0]) | skip)
                                                                  by_cases c50 : 0 ≤ x3_45
                                                                  · rw [if_pos c50] at H
                                                                    have c50b0 : decide (0 ≤ x3_45) = true := decide_eq_true c50
                                                                    clear c50
                                                                    by_cases c51 : x3_45 < (l0.length : Int)
                                                                    · rw [if_pos c51] at H
                                                                      have c51b0 : decide (x3_45 < (l0.length : Int)) = true := decide_eq_true c51
                                                                      clear c51
                                                                      by_cases c52 : (rd l0 x3_45) < 48
                                                                      · rw [if_pos c52] at H
                                                                        have c52b0 : decide ((rd l0 x3_45) < 48) = true := decide_eq_true c52
                                                                        clear c52
                                                                        as_aux_lemma =>
                                                                          have H' := Aside0.mk H
                                                                          clear H
                                                                          have p139 : 0 ≤ (x3_45 : Int) := of_decide_eq_true (by first | (with_reducible assumption) | assumption)
                                                                          have q139 : x3_45 < (l0.length : Int) := of_decide_eq_true (by first | (with_reducible assumption) | assumption)
                                                                          obtain ⟨ad139, e139, hx139_0⟩ := Kd.at_int HR0.out x3_45 p139 q139
                                                                          cases e139
                                                                          replace p139 := eq_true p139
                                                                          replace q139 := eq_true q139
                                                                          go_wp2
                                                                          go_meet
                                                                          case rel => exact ⟨_, (true), (by first | rfl | (simp; done) | (simp [*]; done)), H', ⟨by have := HJ2.out; have := HJ5.out; have := HJ8.out; have := HJ12.out; have := HJ18.out; have := HJ21.out; have := HJ35.out; have := HJ40.out; have := HJ45.out; first | omega | exact Nat.le_refl _⟩, by repeat (first | exact Drawn0.refl _ | apply Drawn0.step)⟩
                                                                      · rw [if_neg c52] at H
                                                                        have c52b0 : decide ((rd l0 x3_45) < 48) = false := decide_eq_false c52
                                                                        clear c52
                                                                        as_aux_lemma =>
                                                                          have H' := Aside0.mk H
                                                                          clear H
                                                                          have p139 : 0 ≤ (x3_45 : Int) := of_decide_eq_true (by first | (with_reducible assumption) | assumption)
                                                                          have q139 : x3_45 < (l0.length : Int) := of_decide_eq_true (by first | (with_reducible assumption) | assumption)
                                                                          obtain ⟨ad139, e139, hx139_0⟩ := Kd.at_int HR0.out x3_45 p139 q139
                                                                          cases e139
                                                                          replace p139 := eq_true p139
                                                                          replace q139 := eq_true q139
                                                                          have p140 : 0 ≤ (x3_45 : Int) := of_decide_eq_true (by first | (with_reducible assumption) | assumption)
                                                                          have q140 : x3_45 < (l0.length : Int) := of_decide_eq_true (by first | (with_reducible assumption) | assumption)
                                                                          obtain ⟨ad140, e140, hx140_0⟩ := Kd.at_int HR0.out x3_45 p140 q140
                                                                          obtain rfl : ad139 = ad140 := (by injection e140)
                                                                          replace p140 := eq_true p140
                                                                          replace q140 := eq_true q140
                                                                          go_wp2
                                                                          go_meet
                                                                          case rel => exact ⟨_, (decide ((rd l0 x3_45) > 57)), (by first | rfl | (simp; done) | (simp [*]; done)), H', ⟨by have := HJ2.out; have := HJ5.out; have := HJ8.out; have := HJ12.out; have := HJ18.out; have := HJ21.out; have := HJ35.out; have := HJ40.out; have := HJ45.out; first | omega | exact Nat.le_refl _⟩, by repeat (first | exact Drawn0.refl _ | apply Drawn0.step)⟩
                                                                    · rw [if_neg c51] at H
                                                                      exact absurd H (by simp)
                                                                  · rw [if_neg c50] at H
                                                                    exact absurd H (by simp)
                                                            case rest =>
                                                              as_aux_lemma =>
                                                                clear HC48
                                                                try clear c1
                                                                try clear p1
                                                                try clear q1
                                                                try clear hx1
                                                                try clear qi1
                                                                try clear c2
                                                                try clear c2b0
                                                                try clear c2b1
                                                                try clear c2b2
                                                                try clear p2
                                                                try clear c3
                                                                try clear c4
                                                                try clear c4b0
                                                                try clear c4b1
                                                                try clear c5
                                                                try clear c5b0
                                                                try clear c5b1
                                                                try clear p6
                                                                try clear c7
                                                                try clear c8
                                                                try clear c8b0
                                                                try clear c10
                                                                try clear c10b0
                                                                try clear c11
                                                                try clear c11b0
                                                                try clear c12
                                                                try clear c12b0
                                                                try clear p12
                                                                try clear q12
                                                                try clear hx12
                                                                try clear qi12
                                                                try clear p13
                                                                try clear q13
                                                                try clear hx13
                                                                try clear c14
                                                                try clear p14
                                                                try clear q14
                                                                try clear hx14
                                                                try clear c15
                                                                try clear c15b0
                                                                try clear c16
                                                                try clear c16b0
                                                                try clear c17
                                                                try clear c17b0
                                                                try clear c18
                                                                try clear c18b0
                                                                try clear c20
                                                                try clear c20b0
                                                                try clear c21
                                                                try clear c21b0
                                                                try clear c23
                                                                try clear c25
                                                                try clear c25b0
                                                                try clear c27
                                                                try clear c27b0
                                                                try clear c28
                                                                try clear c28b0
                                                                try clear c29
                                                                try clear c30
                                                                try clear c30b0
                                                                try clear c31
                                                                try clear c31b0
                                                                try clear c32
                                                                try clear c32b0
                                                                try clear c33
                                                                try clear c33b0
                                                                try clear c34
                                                                try clear c35
                                                                try clear c37
                                                                try clear c37b0
                                                                try clear c38
                                                                try clear c38b0
                                                                try clear c39
                                                                try clear c39b0
                                                                try clear c39b1
                                                                try clear c40
                                                                try clear c42
                                                                try clear c42b0
                                                                try clear c44
                                                                try clear c44b0
                                                                try clear c45
                                                                try clear c45b0
                                                                try clear c45b1
                                                                try clear c47
                                                                try clear c49
                                                                try clear c49b0
                                                                try clear c50
                                                                try clear c50b0
                                                                try clear c51
                                                                try clear c51b0
                                                                try clear c52
                                                                try clear c52b0
                                                                try clear hx124_0
                                                                try clear hx125_0
                                                                try clear hx126_0
                                                                try clear hx127_0
                                                                try clear hx128_0
                                                                try clear hx129_0
                                                                try clear hx130_0
                                                                try clear hx131_0
                                                                try clear hx132_0
                                                                try clear hx133_0
                                                                try clear hx134_0
                                                                try clear hx135_0
                                                                try clear hx136_0
                                                                try clear hx137_0
                                                                try clear hx138_0
                                                                try clear hx139_0
                                                                try clear hx140_0
                                                                try clear p1
                                                                try clear p12
                                                                try clear p124
                                                                try clear p125
                                                                try clear p126
                                                                try clear p127
                                                                try clear p128
                                                                try clear p129
                                                                try clear p13
                                                                try clear p130
                                                                try clear p131
                                                                try clear p132
                                                                try clear p133
                                                                try clear p134
                                                                try clear p135
                                                                try clear p136
                                                                try clear p137
                                                                try clear p138
                                                                try clear p139
                                                                try clear p140
                                                                try clear p2
                                                                try clear p6
                                                                try clear q1
                                                                try clear q12
                                                                try clear q124
                                                                try clear q125
                                                                try clear q126
                                                                try clear q127
                                                                try clear q128
                                                                try clear q129
                                                                try clear q13
                                                                try clear q130
                                                                try clear q131
                                                                try clear q132
                                                                try clear q133
                                                                try clear q134
                                                                try clear q135
                                                                try clear q136
                                                                try clear q137
                                                                try clear q138
                                                                try clear q139
                                                                try clear q140
                                                                obtain ⟨kq, x179_47, rfl, HA, HJ47, ⟨mc47, rfl⟩⟩ := hcut
                                                                cases kq with
                                                                | zero => exact absurd HA.out (by simp [tdparse_Number.j12])
                                                                | succ kj47 =>
                                                                  have H := HA.out
                                                                  clear HA
                                                                  simp only [tdparse_Number.j12] at H
                                                                  (try simp only [show wrap64 (0 + 1) = 1 by unfold wrap64; omega] at H)
                                                                  by_cases c53 : x179_47 = true
                                                                  · subst c53
                                                                    have H1 : (some x3_21) = some r := by rw [if_pos rfl] at H; exact H
                                                                    clear H
                                                                    have H := H1
                                                                    clear H1
                                                                    as_aux_lemma =>
                                                                      obtain rfl := Option.some.inj H
                                                                      go_wp2
                                                                      go_ret
                                                                      exact ⟨by first | rfl | (simp; done) | (simp [*]; done), by repeat (first | exact Drawn0.refl _ | apply Drawn0.step)⟩
                                                                  · replace c53 := Bool.eq_false_iff.mpr c53
                                                                    subst c53
                                                                    have H1 : (tdparse_Number.l2 kj47 l0 x3_45) = some r := by rw [if_neg (show ¬ (false = true) by decide)] at H; exact H
                                                                    clear H
                                                                    have H := H1
                                                                    clear H1
                                                                    have H' := Aside0.mk H
                                                                    clear H
                                                                    go_wp2
                                                                    go_loopg [3] kj47 (fun kq v3 w' => ∃ (x3_11 : Int), v3 = .int .i64 x3_11 ∧ Aside0 (tdparse_Number.l2 kq l0 x3_11 = some r) ∧ Aside0 (kq ≤ kj47) ∧ Drawn0 w w')
                                                                    case atStart => exact ⟨(x3_45), (by first | rfl | (simp; done) | (simp [*]; done)), H', ⟨Nat.le_refl _⟩, by repeat (first | exact Drawn0.refl _ | apply Drawn0.step)⟩
                                                                    case round =>
                                                                      clear H'
                                                                      try clear c1
                                                                      try clear p1
                                                                      try clear q1
                                                                      try clear hx1
                                                                      try clear qi1
                                                                      try clear c2
                                                                      try clear c2b0
                                                                      try clear c2b1
                                                                      try clear c2b2
                                                                      try clear p2
                                                                      try clear c3
                                                                      try clear c4
                                                                      try clear c4b0
                                                                      try clear c4b1
                                                                      try clear c5
                                                                      try clear c5b0
                                                                      try clear c5b1
                                                                      try clear p6
                                                                      try clear c7
                                                                      try clear c8
                                                                      try clear c8b0
                                                                      try clear c10
                                                                      try clear c10b0
                                                                      try clear c11
                                                                      try clear c11b0
                                                                      try clear c12
                                                                      try clear c12b0
                                                                      try clear p12
                                                                      try clear q12
                                                                      try clear hx12
                                                                      try clear qi12
                                                                      try clear p13
                                                                      try clear q13
                                                                      try clear hx13
                                                                      try clear c14
                                                                      try clear p14
                                                                      try clear q14
                                                                      try clear hx14
                                                                      try clear c15
                                                                      try clear c15b0
                                                                      try clear c16
                                                                      try clear c16b0
                                                                      try clear c17
                                                                      try clear c17b0
                                                                      try clear c18
                                                                      try clear c18b0
                                                                      try clear c20
                                                                      try clear c20b0
                                                                      try clear c21
                                                                      try clear c21b0
                                                                      try clear c23
                                                                      try clear c25
                                                                      try clear c25b0
                                                                      try clear c27
                                                                      try clear c27b0
                                                                      try clear c28
                                                                      try clear c28b0
                                                                      try clear c29
                                                                      try clear c30
                                                                      try clear c30b0
                                                                      try clear c31
                                                                      try clear c31b0
                                                                      try clear c32
                                                                      try clear c32b0
                                                                      try clear c33
                                                                      try clear c33b0
                                                                      try clear c34
                                                                      try clear c35
                                                                      try clear c37
                                                                      try clear c37b0
                                                                      try clear c38
                                                                      try clear c38b0
                                                                      try clear c39
                                                                      try clear c39b0
                                                                      try clear c39b1
                                                                      try clear c40
                                                                      try clear c42
                                                                      try clear c42b0
                                                                      try clear c44
                                                                      try clear c44b0
                                                                      try clear c45
                                                                      try clear c45b0
                                                                      try clear c45b1
                                                                      try clear c47
                                                                      try clear c49
                                                                      try clear c49b0
                                                                      try clear c50
                                                                      try clear c50b0
                                                                      try clear c51
                                                                      try clear c51b0
                                                                      try clear c52
                                                                      try clear c52b0
                                                                      try clear c53
                                                                      try clear hx124_0
                                                                      try clear hx125_0
                                                                      try clear hx126_0
                                                                      try clear hx127_0
                                                                      try clear hx128_0
                                                                      try clear hx129_0
                                                                      try clear hx130_0
                                                                      try clear hx131_0
                                                                      try clear hx132_0
                                                                      try clear hx133_0
                                                                      try clear hx134_0
                                                                      try clear hx135_0
                                                                      try clear hx136_0
                                                                      try clear hx137_0
                                                                      try clear hx138_0
                                                                      try clear hx139_0
                                                                      try clear hx140_0
                                                                      try clear p1
                                                                      try clear p12
                                                                      try clear p124
                                                                      try clear p125
                                                                      try clear p126
                                                                      try clear p127
                                                                      try clear p128
                                                                      try clear p129
                                                                      try clear p13
                                                                      try clear p130
                                                                      try clear p131
                                                                      try clear p132
                                                                      try clear p133
                                                                      try clear p134
                                                                      try clear p135
                                                                      try clear p136
                                                                      try clear p137
                                                                      try clear p138
                                                                      try clear p139
                                                                      try clear p14
                                                                      try clear p140
                                                                      try clear p2
                                                                      try clear p6
                                                                      try clear q1
                                                                      try clear q12
                                                                      try clear q124
                                                                      try clear q125
                                                                      try clear q126
                                                                      try clear q127
                                                                      try clear q128
                                                                      try clear q129
                                                                      try clear q13
                                                                      try clear q130
                                                                      try clear q131
                                                                      try clear q132
                                                                      try clear q133
                                                                      try clear q134
                                                                      try clear q135
                                                                      try clear q136
                                                                      try clear q137
                                                                      try clear q138
                                                                      try clear q139
                                                                      try clear q14
                                                                      try clear q140
                                                                      obtain ⟨x3_11, rfl, HA, HK11, ⟨m11, rfl⟩⟩ := hrel
                                                                      cases gk with
                                                                      | zero => exact absurd HA.out (by simp [tdparse_Number.l2])
                                                                      | succ k11 =>
                                                                        have H := HA.out
                                                                        clear HA
                                                                        simp only [tdparse_Number.l2] at H
                                                                        (try simp only [show wrap64 (0 + 1) = 1 by unfold wrap64; omega] at H)
                                                                        by_cases c54 : x3_11 < (l0.length : Int)
                                                                        · rw [if_pos c54] at H
                                                                          have c54b0 : decide (x3_11 < (l0.length : Int)) = true := decide_eq_true c54
                                                                          clear c54
                                                                          by_cases c55 : 0 ≤ x3_11
                                                                          · rw [if_pos c55] at H
                                                                            have c55b0 : decide (0 ≤ x3_11) = true := decide_eq_true c55
                                                                            clear c55
                                                                            by_cases c56 : (rd l0 x3_11) ≥ 48
                                                                            · rw [if_pos c56] at H
                                                                              have c56b0 : decide (48 ≤ (rd l0 x3_11)) = true := decide_eq_true c56
                                                                              clear c56
                                                                              by_cases c57 : (rd l0 x3_11) ≤ 57
                                                                              · rw [if_pos c57] at H
                                                                                have c57b0 : decide ((rd l0 x3_11) ≤ 57) = true := decide_eq_true c57
                                                                                clear c57
                                                                                as_aux_lemma =>
                                                                                  have H' := Aside0.mk H
                                                                                  clear H
                                                                                  have p141 : 0 ≤ (x3_11 : Int) := of_decide_eq_true (by first | (with_reducible assumption) | assumption)
                                                                                  have q141 : x3_11 < (l0.length : Int) := of_decide_eq_true (by first | (with_reducible assumption) | assumption)
                                                                                  obtain ⟨ad141, e141, hx141_0⟩ := Kd.at_int HR0.out x3_11 p141 q141
                                                                                  cases e141
                                                                                  replace p141 := eq_true p141
                                                                                  replace q141 := eq_true q141
                                                                                  have p142 : 0 ≤ (x3_11 : Int) := of_decide_eq_true (by first | (with_reducible assumption) | assumption)
                                                                                  have q142 : x3_11 < (l0.length : Int) := of_decide_eq_true (by first | (with_reducible assumption) | assumption)
                                                                                  obtain ⟨ad142, e142, hx142_0⟩ := Kd.at_int HR0.out x3_11 p142 q142
                                                                                  obtain rfl : ad141 = ad142 := (by injection e142)
                                                                                  replace p142 := eq_true p142
                                                                                  replace q142 := eq_true q142
                                                                                  go_wp2
                                                                                  go_roundg k11
                                                                                  case measure => have := HJ2.out; have := HJ5.out; have := HJ8.out; have := HJ12.out; have := HJ18.out; have := HJ21.out; have := HJ35.out; have := HJ40.out; have := HJ45.out; have := HJ47.out; have := HK11.out; omega
                                                                                  case rel => exact ⟨(wrap64 (x3_11 + 1)), (by first | rfl | (simp; done) | (simp [*]; done)), H', ⟨by have := HJ2.out; have := HJ5.out; have := HJ8.out; have := HJ12.out; have := HJ18.out; have := HJ21.out; have := HJ35.out; have := HJ40.out; have := HJ45.out; have := HJ47.out; have := HK11.out; omega⟩, by repeat (first | exact Drawn0.refl _ | apply Drawn0.step)⟩
                                                                              · rw [if_neg c57] at H
                                                                                have c57b0 : decide ((rd l0 x3_11) ≤ 57) = false := decide_eq_false c57
                                                                                clear c57
                                                                                as_aux_lemma =>
                                                                                  obtain rfl := Option.some.inj H
                                                                                  have p141 : 0 ≤ (x3_11 : Int) := of_decide_eq_true (by first | (with_reducible assumption) | assumption)
                                                                                  have q141 : x3_11 < (l0.length : Int) := of_decide_eq_true (by first | (with_reducible assumption) | assumption)
                                                                                  obtain ⟨ad141, e141, hx141_0⟩ := Kd.at_int HR0.out x3_11 p141 q141
                                                                                  cases e141
                                                                                  replace p141 := eq_true p141
                                                                                  replace q141 := eq_true q141
                                                                                  have p142 : 0 ≤ (x3_11 : Int) := of_decide_eq_true (by first | (with_reducible assumption) | assumption)
                                                                                  have q142 : x3_11 < (l0.length : Int) := of_decide_eq_true (by first | (with_reducible assumption) | assumption)
                                                                                  obtain ⟨ad142, e142, hx142_0⟩ := Kd.at_int HR0.out x3_11 p142 q142
                                                                                  obtain rfl : ad141 = ad142 := (by injection e142)
                                                                                  replace p142 := eq_true p142
                                                                                  replace q142 := eq_true q142
                                                                                  go_wp2
                                                                                  go_ret
                                                                                  exact ⟨by first | rfl | (simp; done) | (simp [*]; done), by repeat (first | exact Drawn0.refl _ | apply Drawn0.step)⟩
                                                                            · rw [if_neg c56] at H
                                                                              have c56b0 : decide (48 ≤ (rd l0 x3_11)) = false := decide_eq_false c56
                                                                              clear c56
                                                                              as_aux_lemma =>
                                                                                obtain rfl := Option.some.inj H
                                                                                have p141 : 0 ≤ (x3_11 : Int) := of_decide_eq_true (by first | (with_reducible assumption) | assumption)
                                                                                have q141 : x3_11 < (l0.length : Int) := of_decide_eq_true (by first | (with_reducible assumption) | assumption)
                                                                                obtain ⟨ad141, e141, hx141_0⟩ := Kd.at_int HR0.out x3_11 p141 q141
                                                                                cases e141
                                                                                replace p141 := eq_true p141
                                                                                replace q141 := eq_true q141
                                                                                go_wp2
                                                                                go_ret
                                                                                exact ⟨by first | rfl | (simp; done) | (simp [*]; done), by repeat (first | exact Drawn0.refl _ | apply Drawn0.step)⟩
                                                                          · rw [if_neg c55] at H
                                                                            exact absurd H (by simp)
                                                                        · rw [if_neg c54] at H
                                                                          have c54b0 : decide (x3_11 < (l0.length : Int)) = false := decide_eq_false c54
                                                                          clear c54
                                                                          as_aux_lemma =>
                                                                            obtain rfl := Option.some.inj H
                                                                            go_wp2
                                                                            go_ret
                                                                            exact ⟨by first | rfl | (simp; done) | (simp [*]; done), by repeat (first | exact Drawn0.refl _ | apply Drawn0.step)⟩
                                              · replace c40 := Bool.eq_false_iff.mpr c40
                                                subst c40
                                                have H1 : (some x3_21) = some r := by rw [if_neg (show ¬ (false = true) by decide)] at H; exact H
                                                clear H
                                                have H := H1
                                                clear H1
                                                as_aux_lemma =>
                                                  obtain rfl := Option.some.inj H
                                                  go_wp2
                                                  go_ret
                                                  exact ⟨by first | rfl | (simp; done) | (simp [*]; done), by repeat (first | exact Drawn0.refl _ | apply Drawn0.step)⟩

end Go.Proofs.Yteklgpjdcdkdpaa.PFnNumberDimension
