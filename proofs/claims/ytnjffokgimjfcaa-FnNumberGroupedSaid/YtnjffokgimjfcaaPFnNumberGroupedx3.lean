-- Laid by a program of this session, out of the translation's print.
import Derived.Test.YtnjffokgimjfcaaPFnNumberGroupedx0
import Derived.Test.YtnjffokgimjfcaaPFnNumberGroupedx2
namespace Go.Proofs.Ytnjffokgimjfcaa.PFnNumberGrouped
open Go.Proofs.Ytnjffokgimjfcaa.Own
open Go.RowKit Go.Proofs.YtnjffokgimjfcaaW.PrintWords Go.Proofs.YtnjffokgimjfcaaW.PrintLast Go.Proofs.YtnjffokgimjfcaaW.PrintMore
attribute [local go_sem] max2_int min2_int max_two min_two max_three min_three max_four min_four   -- for this text's walks alone
set_option linter.unusedVariables false
set_option linter.unusedSimpArgs false

/-! ### spec_GroupedText: function 9 -/
def spec_GroupedText.l0 : Nat → Int → Int → Int → Int → List Int → List Int → List Int → List Int → Int → Int → Option (List Int)
  | 0, _, _, _, _, _, _, _, _, _, _ => none
  | k + 1, x1, x2, x3, x4, x11, x12, x13, x44, x45, x46 => if x46 < x45 then (if 0 ≤ x46 then (if x46 < (x44.length : Int) then (if x46 > 0 then (if x2 > 0 then (if x2 = 0 then (none) else (if (Int.tmod (wrap64 ((x12.length : Int) - x46)) x2) = 0 then (if x13.length < 140737488355328 then ((some (x13 ++ [x3] : List Int)).bind fun y164 => (if y164.length < 140737488355328 then (spec_GroupedText.l0 k x1 x2 x3 x4 x11 x12 (y164 ++ [rd x44 x46]) x44 x45 (wrap64 (x46 + 1))) else (none))) else (none)) else (if x13.length < 140737488355328 then (spec_GroupedText.l0 k x1 x2 x3 x4 x11 x12 (x13 ++ [rd x44 x46]) x44 x45 (wrap64 (x46 + 1))) else (none)))) else (if x13.length < 140737488355328 then (spec_GroupedText.l0 k x1 x2 x3 x4 x11 x12 (x13 ++ [rd x44 x46]) x44 x45 (wrap64 (x46 + 1))) else (none))) else (if x13.length < 140737488355328 then (spec_GroupedText.l0 k x1 x2 x3 x4 x11 x12 (x13 ++ [rd x44 x46]) x44 x45 (wrap64 (x46 + 1))) else (none))) else (none)) else (none)) else (if x1 > 0 then (if 0 ≤ (wrap64 ((x11.length : Int) - x1)) then (if (wrap64 ((x11.length : Int) - x1)) ≤ (x11.length : Int) then ((spec_Join.f k (([x13, (([x4] : List Int)), (x11.drop ((wrap64 ((x11.length : Int) - x1)) : Int).toNat)] : List (List Int)))).bind fun t190 => (some t190)) else (none)) else (none)) else (some x13))
def spec_GroupedText.f (k : Nat) (a0 : Int) (a1 : Int) (a2 : Int) (a3 : Int) (a4 : Int) : Option (List Int) := (spec_size.f a0).bind fun t139 => ((spec_Digits.f k t139).bind fun t140 => (if (t140.length : Int) ≤ a1 then ((spec_Zeros.f k (wrap64 ((wrap64 (a1 + 1)) - (t140.length : Int)))).bind fun t143 => ((spec_Join.f k (([t143, t140] : List (List Int)))).bind fun t149 => (if 0 ≤ (wrap64 ((t149.length : Int) - a1)) then (if (wrap64 ((t149.length : Int) - a1)) ≤ (t149.length : Int) then ((some (t149.take ((wrap64 ((t149.length : Int) - a1)) : Int).toNat : List Int)).bind fun y152 => ((some (([] : List Int) : List Int)).bind fun y157 => (if a0 < 0 then (if y157.length < 140737488355328 then (spec_GroupedText.l0 k a1 a2 a3 a4 t149 y152 (y157 ++ [45]) y152 (y152.length : Int) 0) else (none)) else (spec_GroupedText.l0 k a1 a2 a3 a4 t149 y152 y157 y152 (y152.length : Int) 0)))) else (none)) else (none)))) else (if 0 ≤ (wrap64 ((t140.length : Int) - a1)) then (if (wrap64 ((t140.length : Int) - a1)) ≤ (t140.length : Int) then ((some (t140.take ((wrap64 ((t140.length : Int) - a1)) : Int).toNat : List Int)).bind fun y193 => ((some (([] : List Int) : List Int)).bind fun y198 => (if a0 < 0 then (if y198.length < 140737488355328 then (spec_GroupedText.l0 k a1 a2 a3 a4 t140 y193 (y198 ++ [45]) y193 (y193.length : Int) 0) else (none)) else (spec_GroupedText.l0 k a1 a2 a3 a4 t140 y193 y198 y193 (y193.length : Int) 0)))) else (none)) else (none))))
theorem spec_GroupedText.mono_l : ∀ k, (∀ y0 y1 y2 y3 y4 y5 y6 y7 y8 y9, LeO (spec_GroupedText.l0 k y0 y1 y2 y3 y4 y5 y6 y7 y8 y9) (spec_GroupedText.l0 (k + 1) y0 y1 y2 y3 y4 y5 y6 y7 y8 y9))
  | 0 => fun _ _ _ _ _ _ _ _ _ _ r h => by simp [spec_GroupedText.l0] at h
  | k + 1 => by
    have ih0 := spec_GroupedText.mono_l k
    · intro y0 y1 y2 y3 y4 y5 y6 y7 y8 y9
      unfold spec_GroupedText.l0
      repeat' first
      | (with_reducible exact ih0 _ _ _ _ _ _ _ _ _ _)
      | (with_reducible exact spec_Digits.mono _ _)
      | (with_reducible exact spec_Join.mono _ _)
      | (with_reducible exact spec_Zeros.mono _ _)
      | (with_reducible exact LeO.refl _)
      | (with_reducible exact LeO.none _)
      | (with_reducible refine LeO.ite ?_ ?_)
      | (with_reducible refine LeO.bind ?_ (fun _ => ?_))
      | exact ih0 _ _ _ _ _ _ _ _ _ _
      | exact spec_Digits.mono _ _
      | exact spec_Join.mono _ _
      | exact spec_Zeros.mono _ _
      | exact LeO.none _
      | refine LeO.ite ?_ ?_
      | refine LeO.bind ?_ (fun _ => ?_)
theorem spec_GroupedText.mono : ∀ a0 a1 a2 a3 a4 k, LeO (spec_GroupedText.f k a0 a1 a2 a3 a4) (spec_GroupedText.f (k + 1) a0 a1 a2 a3 a4) := by
  intro a0 a1 a2 a3 a4 k
  have ih0 := spec_GroupedText.mono_l k
  unfold spec_GroupedText.f
  repeat' first
      | (with_reducible exact ih0 _ _ _ _ _ _ _ _ _ _)
      | (with_reducible exact spec_Digits.mono _ _)
      | (with_reducible exact spec_Join.mono _ _)
      | (with_reducible exact spec_Zeros.mono _ _)
      | (with_reducible exact LeO.refl _)
      | (with_reducible exact LeO.none _)
      | (with_reducible refine LeO.ite ?_ ?_)
      | (with_reducible refine LeO.bind ?_ (fun _ => ?_))
      | exact ih0 _ _ _ _ _ _ _ _ _ _
      | exact spec_Digits.mono _ _
      | exact spec_Join.mono _ _
      | exact spec_Zeros.mono _ _
      | exact LeO.none _
      | refine LeO.ite ?_ ?_
      | refine LeO.bind ?_ (fun _ => ?_)
set_option maxHeartbeats 8000000 in
set_option maxRecDepth 100000 in
theorem spec_GroupedText.calls (k : Nat) (a0 : Int) (a1 : Int) (a2 : Int) (a3 : Int) (a4 : Int) (r : List Int) (w : World) (h : spec_GroupedText.f k a0 a1 a2 a3 a4 = some r) :
    Calls Try.prog 9 #[.int .i64 a0, .int .i64 a1, .int .i64 a2, .int .u8 a3, .int .u8 a4] w fun e w' => ∃ v0_ : Value, e = .returned (v0_) ∧ Kd.R (Kd.int .u8) 5 w' w.heap.size (fun _ => True) v0_ r ∧ Below w.heap.size w w' := by
  have HB := Aside0.mk (Below.refl w.heap.size w)
  have H : ((spec_size.f a0).bind fun t139 => ((spec_Digits.f k t139).bind fun t140 => (if (t140.length : Int) ≤ a1 then ((spec_Zeros.f k (wrap64 ((wrap64 (a1 + 1)) - (t140.length : Int)))).bind fun t143 => ((spec_Join.f k (([t143, t140] : List (List Int)))).bind fun t149 => (if 0 ≤ (wrap64 ((t149.length : Int) - a1)) then (if (wrap64 ((t149.length : Int) - a1)) ≤ (t149.length : Int) then ((some (t149.take ((wrap64 ((t149.length : Int) - a1)) : Int).toNat : List Int)).bind fun y152 => ((some (([] : List Int) : List Int)).bind fun y157 => (if a0 < 0 then (if y157.length < 140737488355328 then (spec_GroupedText.l0 k a1 a2 a3 a4 t149 y152 (y157 ++ [45]) y152 (y152.length : Int) 0) else (none)) else (spec_GroupedText.l0 k a1 a2 a3 a4 t149 y152 y157 y152 (y152.length : Int) 0)))) else (none)) else (none)))) else (if 0 ≤ (wrap64 ((t140.length : Int) - a1)) then (if (wrap64 ((t140.length : Int) - a1)) ≤ (t140.length : Int) then ((some (t140.take ((wrap64 ((t140.length : Int) - a1)) : Int).toNat : List Int)).bind fun y193 => ((some (([] : List Int) : List Int)).bind fun y198 => (if a0 < 0 then (if y198.length < 140737488355328 then (spec_GroupedText.l0 k a1 a2 a3 a4 t140 y193 (y198 ++ [45]) y193 (y193.length : Int) 0) else (none)) else (spec_GroupedText.l0 k a1 a2 a3 a4 t140 y193 y198 y193 (y193.length : Int) 0)))) else (none)) else (none))))) = some r := h
  clear h
  replace H := Option.bind_eq_some_iff.mp H
  obtain ⟨t139, A60, H⟩ := H
  replace H : ((spec_Digits.f k t139).bind fun t140 => (if (t140.length : Int) ≤ a1 then ((spec_Zeros.f k (wrap64 ((wrap64 (a1 + 1)) - (t140.length : Int)))).bind fun t143 => ((spec_Join.f k (([t143, t140] : List (List Int)))).bind fun t149 => (if 0 ≤ (wrap64 ((t149.length : Int) - a1)) then (if (wrap64 ((t149.length : Int) - a1)) ≤ (t149.length : Int) then ((some (t149.take ((wrap64 ((t149.length : Int) - a1)) : Int).toNat : List Int)).bind fun y152 => ((some (([] : List Int) : List Int)).bind fun y157 => (if a0 < 0 then (if y157.length < 140737488355328 then (spec_GroupedText.l0 k a1 a2 a3 a4 t149 y152 (y157 ++ [45]) y152 (y152.length : Int) 0) else (none)) else (spec_GroupedText.l0 k a1 a2 a3 a4 t149 y152 y157 y152 (y152.length : Int) 0)))) else (none)) else (none)))) else (if 0 ≤ (wrap64 ((t140.length : Int) - a1)) then (if (wrap64 ((t140.length : Int) - a1)) ≤ (t140.length : Int) then ((some (t140.take ((wrap64 ((t140.length : Int) - a1)) : Int).toNat : List Int)).bind fun y193 => ((some (([] : List Int) : List Int)).bind fun y198 => (if a0 < 0 then (if y198.length < 140737488355328 then (spec_GroupedText.l0 k a1 a2 a3 a4 t140 y193 (y198 ++ [45]) y193 (y193.length : Int) 0) else (none)) else (spec_GroupedText.l0 k a1 a2 a3 a4 t140 y193 y198 y193 (y193.length : Int) 0)))) else (none)) else (none)))) = some r := H
  have A6 := Aside0.mk A60
  clear A60
  replace H := Option.bind_eq_some_iff.mp H
  obtain ⟨t140, A70, H⟩ := H
  replace H : (if (t140.length : Int) ≤ a1 then ((spec_Zeros.f k (wrap64 ((wrap64 (a1 + 1)) - (t140.length : Int)))).bind fun t143 => ((spec_Join.f k (([t143, t140] : List (List Int)))).bind fun t149 => (if 0 ≤ (wrap64 ((t149.length : Int) - a1)) then (if (wrap64 ((t149.length : Int) - a1)) ≤ (t149.length : Int) then ((some (t149.take ((wrap64 ((t149.length : Int) - a1)) : Int).toNat : List Int)).bind fun y152 => ((some (([] : List Int) : List Int)).bind fun y157 => (if a0 < 0 then (if y157.length < 140737488355328 then (spec_GroupedText.l0 k a1 a2 a3 a4 t149 y152 (y157 ++ [45]) y152 (y152.length : Int) 0) else (none)) else (spec_GroupedText.l0 k a1 a2 a3 a4 t149 y152 y157 y152 (y152.length : Int) 0)))) else (none)) else (none)))) else (if 0 ≤ (wrap64 ((t140.length : Int) - a1)) then (if (wrap64 ((t140.length : Int) - a1)) ≤ (t140.length : Int) then ((some (t140.take ((wrap64 ((t140.length : Int) - a1)) : Int).toNat : List Int)).bind fun y193 => ((some (([] : List Int) : List Int)).bind fun y198 => (if a0 < 0 then (if y198.length < 140737488355328 then (spec_GroupedText.l0 k a1 a2 a3 a4 t140 y193 (y198 ++ [45]) y193 (y193.length : Int) 0) else (none)) else (spec_GroupedText.l0 k a1 a2 a3 a4 t140 y193 y198 y193 (y193.length : Int) 0)))) else (none)) else (none))) = some r := H
  have A7 := Aside0.mk A70
  clear A70
  by_cases c8 : (t140.length : Int) ≤ a1
  · rw [if_pos c8] at H
    have c8b0 : decide ((t140.length : Int) ≤ a1) = true := decide_eq_true c8
    clear c8
    replace H := Option.bind_eq_some_iff.mp H
    obtain ⟨t143, A90, H⟩ := H
    replace H : ((spec_Join.f k (([t143, t140] : List (List Int)))).bind fun t149 => (if 0 ≤ (wrap64 ((t149.length : Int) - a1)) then (if (wrap64 ((t149.length : Int) - a1)) ≤ (t149.length : Int) then ((some (t149.take ((wrap64 ((t149.length : Int) - a1)) : Int).toNat : List Int)).bind fun y152 => ((some (([] : List Int) : List Int)).bind fun y157 => (if a0 < 0 then (if y157.length < 140737488355328 then (spec_GroupedText.l0 k a1 a2 a3 a4 t149 y152 (y157 ++ [45]) y152 (y152.length : Int) 0) else (none)) else (spec_GroupedText.l0 k a1 a2 a3 a4 t149 y152 y157 y152 (y152.length : Int) 0)))) else (none)) else (none))) = some r := H
    have A9 := Aside0.mk A90
    clear A90
    obtain ⟨y146, hy146⟩ : ∃ y_ : List (List Int), y_ = (([t143, t140] : List (List Int))) := ⟨_, rfl⟩
    replace H : ((spec_Join.f k y146).bind fun t149 => (if 0 ≤ (wrap64 ((t149.length : Int) - a1)) then (if (wrap64 ((t149.length : Int) - a1)) ≤ (t149.length : Int) then ((some (t149.take ((wrap64 ((t149.length : Int) - a1)) : Int).toNat : List Int)).bind fun y152 => ((some (([] : List Int) : List Int)).bind fun y157 => (if a0 < 0 then (if y157.length < 140737488355328 then (spec_GroupedText.l0 k a1 a2 a3 a4 t149 y152 (y157 ++ [45]) y152 (y152.length : Int) 0) else (none)) else (spec_GroupedText.l0 k a1 a2 a3 a4 t149 y152 y157 y152 (y152.length : Int) 0)))) else (none)) else (none))) = some r := by first | (rw [hy146]; with_reducible exact H) | (have H2_ := (Option.bind_some _ _).symm.trans H; rw [hy146]; with_reducible exact H2_) | (have H2_ := (Option.bind_some _ _).symm.trans H; with_reducible exact H2_) | with_reducible exact H | (rw [hy146]; exact H) | exact H
    have Ny146 := Aside0.mk hy146
    clear hy146
    replace H := Option.bind_eq_some_iff.mp H
    obtain ⟨t149, A100, H⟩ := H
    replace H : (if 0 ≤ (wrap64 ((t149.length : Int) - a1)) then (if (wrap64 ((t149.length : Int) - a1)) ≤ (t149.length : Int) then ((some (t149.take ((wrap64 ((t149.length : Int) - a1)) : Int).toNat : List Int)).bind fun y152 => ((some (([] : List Int) : List Int)).bind fun y157 => (if a0 < 0 then (if y157.length < 140737488355328 then (spec_GroupedText.l0 k a1 a2 a3 a4 t149 y152 (y157 ++ [45]) y152 (y152.length : Int) 0) else (none)) else (spec_GroupedText.l0 k a1 a2 a3 a4 t149 y152 y157 y152 (y152.length : Int) 0)))) else (none)) else (none)) = some r := H
    have A10 := Aside0.mk A100
    clear A100
    obtain ⟨ji11, hji11⟩ : ∃ j_ : Int, (wrap64 ((t149.length : Int) - a1)) = j_ := ⟨_, rfl⟩
    replace H : (if 0 ≤ (ji11) then (if (ji11) ≤ (t149.length : Int) then ((some (t149.take ((ji11) : Int).toNat : List Int)).bind fun y152 => ((some (([] : List Int) : List Int)).bind fun y157 => (if a0 < 0 then (if y157.length < 140737488355328 then (spec_GroupedText.l0 k a1 a2 a3 a4 t149 y152 (y157 ++ [45]) y152 (y152.length : Int) 0) else (none)) else (spec_GroupedText.l0 k a1 a2 a3 a4 t149 y152 y157 y152 (y152.length : Int) 0)))) else (none)) else (none)) = some r := by first | (rw [hji11] at H; exact H) | (simp only [hji11] at H ⊢; exact H)
    (try rw [hji11] at A6)
    (try rw [hji11] at A7)
    (try rw [hji11] at A9)
    (try rw [hji11] at A10)
    have hji11w : (IntKind.i64.wrap ((t149.length : Int) - a1)) = ji11 := (i64_w _).trans hji11
    by_cases c12 : 0 ≤ (ji11)
    · rw [if_pos c12] at H
      have c12b0 := eq_true c12
      have c12b1 : decide (0 ≤ (ji11)) = true := decide_eq_true c12
      clear c12
      by_cases c13 : (ji11) ≤ (t149.length : Int)
      · rw [if_pos c13] at H
        have c13b0 := eq_true c13
        have c13b1 : decide ((ji11) ≤ (t149.length : Int)) = true := decide_eq_true c13
        clear c13
        obtain ⟨y152, hy152⟩ : ∃ y_ : List Int, y_ = (t149.take ((ji11) : Int).toNat) := ⟨_, rfl⟩
        replace H : ((some (([] : List Int) : List Int)).bind fun y157 => (if a0 < 0 then (if y157.length < 140737488355328 then (spec_GroupedText.l0 k a1 a2 a3 a4 t149 y152 (y157 ++ [45]) y152 (y152.length : Int) 0) else (none)) else (spec_GroupedText.l0 k a1 a2 a3 a4 t149 y152 y157 y152 (y152.length : Int) 0))) = some r := by first | (rw [hy152]; with_reducible exact H) | (have H2_ := (Option.bind_some _ _).symm.trans H; rw [hy152]; with_reducible exact H2_) | (have H2_ := (Option.bind_some _ _).symm.trans H; with_reducible exact H2_) | with_reducible exact H | (rw [hy152]; exact H) | exact H
        have Ny152 := Aside0.mk hy152
        clear hy152
        obtain ⟨y157, hy157⟩ : ∃ y_ : List Int, y_ = (([] : List Int)) := ⟨_, rfl⟩
        replace H : (if a0 < 0 then (if y157.length < 140737488355328 then (spec_GroupedText.l0 k a1 a2 a3 a4 t149 y152 (y157 ++ [45]) y152 (y152.length : Int) 0) else (none)) else (spec_GroupedText.l0 k a1 a2 a3 a4 t149 y152 y157 y152 (y152.length : Int) 0)) = some r := by first | (rw [hy157]; with_reducible exact H) | (have H2_ := (Option.bind_some _ _).symm.trans H; rw [hy157]; with_reducible exact H2_) | (have H2_ := (Option.bind_some _ _).symm.trans H; with_reducible exact H2_) | with_reducible exact H | (rw [hy157]; exact H) | exact H
        have Ny157 := Aside0.mk hy157
        clear hy157
        by_cases c14 : a0 < 0
        · rw [if_pos c14] at H
          have c14b0 : decide (a0 < 0) = true := decide_eq_true c14
          clear c14
          by_cases c15 : y157.length < 140737488355328
          · rw [if_pos c15] at H
            have LMc15 := Aside0.mk c15
            clear c15
            obtain ⟨y160, hy160⟩ : ∃ y_ : List Int, y_ = (y157 ++ [45]) := ⟨_, rfl⟩
            replace H : (spec_GroupedText.l0 k a1 a2 a3 a4 t149 y152 y160 y152 (y152.length : Int) 0) = some r := by first | (rw [hy160]; with_reducible exact H) | (have H2_ := (Option.bind_some _ _).symm.trans H; rw [hy160]; with_reducible exact H2_) | (have H2_ := (Option.bind_some _ _).symm.trans H; with_reducible exact H2_) | with_reducible exact H | (rw [hy160]; exact H) | exact H
            have Ny160 := Aside0.mk hy160
            clear hy160
            have H' := Aside0.mk H
            clear H
            go_enter Try.func9, Try.ntmps9
            go_wp2_with (first | ((with_reducible refine gate_callee (f := 14) rfl ?_); refine goesL_ (some 17) rfl rfl Try.func14 (by kernel_rfl) rfl #[.int .i64 a0] rfl (by (try simp only [List.map_toArray, List.map_cons, List.map_nil]); first | done | rfl | (simp only [List.length_drop, List.length_take]; rfl)) ?_; (with_reducible refine (spec_size.calls a0 t139 _ A6.out).mono ?_); rintro e w' ⟨rfl, ⟨nd, rfl⟩⟩; refine ⟨_, rfl, ?_⟩) | ((with_reducible refine gate_callee (f := 13) rfl ?_); refine goesL_ (some 18) rfl rfl Try.func13 (by kernel_rfl) rfl #[.int .u64 t139] rfl (by (try simp only [List.map_toArray, List.map_cons, List.map_nil]); first | done | rfl | (simp only [List.length_drop, List.length_take]; rfl)) ?_; (with_reducible refine (spec_Digits.calls k t139 t140 _ A7.out).mono ?_); rintro e w16 ⟨v141, rfl, ho0, hb⟩; refine ⟨_, rfl, ?_⟩; have n0_ := Aside0.mk (Kd.R_lower ho0 (below_size (by repeat (first | (with_reducible first | exact HB.out | apply below_alloc | apply pw_below_drewN | apply below_drew1) | exact HB.out)))); have n1_ := Aside0.mk (below_step (by repeat (first | (with_reducible first | exact HB.out | apply below_alloc | apply pw_below_drewN | apply below_drew1) | exact HB.out)) hb); clear HB; have HO142 := n0_; have HB := n1_; clear n0_ n1_; (try clear hb); (try clear hb2); (try clear hk); (try clear hi); (try clear ho0); obtain ⟨Ao17, co17, eo17⟩ := Kd.R_slice HO142.out; subst eo17) | ((with_reducible refine gate_callee (f := 15) rfl ?_); refine goesL_ (some 28) rfl rfl Try.func15 (by kernel_rfl) rfl #[.int .i64 (wrap64 ((wrap64 (a1 + 1)) - (t140.length : Int)))] rfl (by (try simp only [List.map_toArray, List.map_cons, List.map_nil]); first | done | rfl | (simp only [List.length_drop, List.length_take]; rfl)) ?_; (with_reducible refine (spec_Zeros.calls k (wrap64 ((wrap64 (a1 + 1)) - (t140.length : Int))) t143 _ A9.out).mono ?_); rintro e w18 ⟨v144, rfl, ho0, hb⟩; refine ⟨_, rfl, ?_⟩; have n0_ := Aside0.mk (Kd.R_elder' (by (with_reducible repeat (first | apply Kd.R_alloc | apply Kd.R_drewN | apply Kd.R_drew)); exact HO142.out) (Kd.R_base ho0) hb); have n1_ := Aside0.mk (Kd.R_lower (Kd.R_new' ho0 (Kd.R_lt (by (with_reducible repeat (first | apply Kd.R_alloc | apply Kd.R_drewN | apply Kd.R_drew)); exact HO142.out))) (below_size (by repeat (first | (with_reducible first | exact HB.out | apply below_alloc | apply pw_below_drewN | apply below_drew1) | exact HB.out)))); have n2_ := Aside0.mk (below_step (by repeat (first | (with_reducible first | exact HB.out | apply below_alloc | apply pw_below_drewN | apply below_drew1) | exact HB.out)) hb); clear HO142; clear HB; have HO142 := n0_; have HO145 := n1_; have HB := n2_; clear n0_ n1_ n2_; (try clear hb); (try clear hb2); (try clear hk); (try clear hi); (try clear ho0); obtain ⟨Ao19, co19, eo19⟩ := Kd.R_slice HO145.out; subst eo19) | ((with_reducible refine gate_dst (N := 30) rfl ?_); (try (refine gate_guard (by rfl) ?_; dsimp only)); refine Kd.N_lit (Kd.slice 5 (Kd.int .u8)) _ 22 ?hg (N' := 30) ?hd (xs := ([t143, t140] : List (List Int))) (inner := [.slice Ao19 t143.length co19, .slice Ao17 t140.length co17]) (ok := (fun _ => True)) (okp := (fun _ => True)) ?hr ?hp (fun _ hk => hk) ((show ∀ k_, w18.heap.size ≤ k_ → (fun _ => True) k_ from fun k_ hk => trivial) _ (Nat.le_refl _)) (Below.refl _ _) (Nat.le_refl _) (by simp) ?_; (case hd => rfl); (case hg => rfl); (case hr => first | (go_simp; done) | (go_simp; rfl)); (case hp => first | exact (Reps.one (show Kd.FK (Kd.slice 5 (Kd.int .u8)) _ _ t143 [.slice Ao19 t143.length co19] from (Kd.FK_slice_mk (Kd.R_reads' (Kd.R_mono (ok' := (fun _ => True)) (HO145.out) (fun k_ hk => trivial))).2.1 (Kd.R_F (Kd.R_mono (ok' := (fun _ => True)) (HO145.out) (fun k_ hk => trivial))))) (Reps.one (show Kd.FK (Kd.slice 5 (Kd.int .u8)) _ _ t140 [.slice Ao17 t140.length co17] from (Kd.FK_slice_mk (Kd.R_reads' (Kd.R_mono (ok' := (fun _ => True)) (HO142.out) (fun k_ hk => trivial))).2.1 (Kd.R_F (Kd.R_mono (ok' := (fun _ => True)) (HO142.out) (fun k_ hk => trivial))))) (Reps.none _ _))) | exact (Reps.one (show Kd.FK (Kd.slice 5 (Kd.int .u8)) _ _ t143 [.slice Ao19 t143.length co19] from (Kd.FK_slice_mk (Kd.R_reads' (Kd.R_mono (ok' := (fun _ => True)) (HO145.out) (fun k_ hk => trivial))).2.1 (Kd.R_F (Kd.R_mono (ok' := (fun _ => True)) ((Kd.R_drewN HO145.out _)) (fun k_ hk => trivial))))) (Reps.one (show Kd.FK (Kd.slice 5 (Kd.int .u8)) _ _ t140 [.slice Ao17 t140.length co17] from (Kd.FK_slice_mk (Kd.R_reads' (Kd.R_mono (ok' := (fun _ => True)) (HO142.out) (fun k_ hk => trivial))).2.1 (Kd.R_F (Kd.R_mono (ok' := (fun _ => True)) ((Kd.R_drewN HO142.out _)) (fun k_ hk => trivial))))) (Reps.none _ _))) | exact (Reps.one (show Kd.FK (Kd.slice 5 (Kd.int .u8)) _ _ t143 [.slice Ao19 t143.length co19] from (Kd.FK_slice_mk (Kd.R_reads' (Kd.R_mono (ok' := (fun _ => True)) (HO145.out) (fun k_ hk => trivial))).2.1 (Kd.R_F (Kd.R_mono (ok' := (fun _ => True)) ((Kd.R_alloc HO145.out _)) (fun k_ hk => trivial))))) (Reps.one (show Kd.FK (Kd.slice 5 (Kd.int .u8)) _ _ t140 [.slice Ao17 t140.length co17] from (Kd.FK_slice_mk (Kd.R_reads' (Kd.R_mono (ok' := (fun _ => True)) (HO142.out) (fun k_ hk => trivial))).2.1 (Kd.R_F (Kd.R_mono (ok' := (fun _ => True)) ((Kd.R_alloc HO142.out _)) (fun k_ hk => trivial))))) (Reps.none _ _))) | exact (Reps.one (show Kd.FK (Kd.slice 5 (Kd.int .u8)) _ _ t143 [.slice Ao19 t143.length co19] from (Kd.FK_slice_mk (Kd.R_reads' (Kd.R_mono (ok' := (fun _ => True)) (HO145.out) (fun k_ hk => trivial))).2.1 (Kd.R_F (Kd.R_mono (ok' := (fun _ => True)) ((by (with_reducible repeat (first | apply Kd.R_alloc | apply Kd.R_drewN | apply Kd.R_drew)); exact HO145.out)) (fun k_ hk => trivial))))) (Reps.one (show Kd.FK (Kd.slice 5 (Kd.int .u8)) _ _ t140 [.slice Ao17 t140.length co17] from (Kd.FK_slice_mk (Kd.R_reads' (Kd.R_mono (ok' := (fun _ => True)) (HO142.out) (fun k_ hk => trivial))).2.1 (Kd.R_F (Kd.R_mono (ok' := (fun _ => True)) ((by (with_reducible repeat (first | apply Kd.R_alloc | apply Kd.R_drewN | apply Kd.R_drew)); exact HO142.out)) (fun k_ hk => trivial))))) (Reps.none _ _)))); intro v147 w20 ho21 hb hg_ hnew_; clear hg_ hnew_; (first | rw [← Ny146.out] at ho21 | (simp only [Int.reduceToNat] at ho21; rw [← Ny146.out] at ho21)); have n0_ := Aside0.mk (Kd.R_below (by (with_reducible repeat (first | apply Kd.R_alloc | apply Kd.R_drewN | apply Kd.R_drew)); exact HO142.out) hb); have n1_ := Aside0.mk (Kd.R_below (by (with_reducible repeat (first | apply Kd.R_alloc | apply Kd.R_drewN | apply Kd.R_drew)); exact HO145.out) hb); have n2_ := Aside0.mk (Kd.N_lower ho21 (below_size (by repeat (first | (with_reducible first | exact HB.out | apply below_alloc | apply pw_below_drewN | apply below_drew1) | exact HB.out)))); have n3_ := Aside0.mk (below_step (by repeat (first | (with_reducible first | exact HB.out | apply below_alloc | apply pw_below_drewN | apply below_drew1) | exact HB.out)) hb); clear HO142; clear HO145; clear HB; have HO142 := n0_; have HO145 := n1_; have HO148 := n2_; have HB := n3_; clear n0_ n1_ n2_ n3_; clear hb ho21; obtain ⟨Ao22, co22, eo22⟩ := Kd.N_slice HO148.out; subst eo22) | ((with_reducible refine gate_callee (f := 8) rfl ?_); refine goesL_ (some 31) rfl rfl Try.func8 (by kernel_rfl) rfl #[.slice Ao22 y146.length co22] rfl (by (try simp only [List.map_toArray, List.map_cons, List.map_nil]); first | done | rfl | (simp only [List.length_drop, List.length_take]; rfl)) ?_; (with_reducible refine (spec_Join.calls k _ _ y146 t149 _ ?side1 ?side2 A10.out).mono ?_); (case side1 => repeat (first | exact (Kd.N_reads' HO148.out).2.2 | (with_reducible refine Kd.C_alloc ?_ _) | (with_reducible refine Kd.C_drewN ?_ _) | (with_reducible refine Kd.C_drew ?_))); (case side2 => exact (Kd.N_reads' HO148.out).2.1); rintro e w23 ⟨v150, rfl, ho0, hb⟩; refine ⟨_, rfl, ?_⟩; have n0_ := Aside0.mk (Kd.R_elder' (by (with_reducible repeat (first | apply Kd.R_alloc | apply Kd.R_drewN | apply Kd.R_drew)); exact HO142.out) (Kd.R_base ho0) hb); have n1_ := Aside0.mk (Kd.R_elder' (by (with_reducible repeat (first | apply Kd.R_alloc | apply Kd.R_drewN | apply Kd.R_drew)); exact HO145.out) (Kd.R_base ho0) hb); have n2_ := Aside0.mk (Kd.N_elder' (by (with_reducible repeat (first | apply Kd.N_alloc | apply Kd.N_drewN | apply Kd.N_drew)); exact HO148.out) (Kd.R_base ho0) hb); have n3_ := Aside0.mk (Kd.R_lower (Kd.R_new' (Kd.R_new' ho0 (Kd.R_lt (by (with_reducible repeat (first | apply Kd.R_alloc | apply Kd.R_drewN | apply Kd.R_drew)); exact HO142.out))) (Kd.R_lt (by (with_reducible repeat (first | apply Kd.R_alloc | apply Kd.R_drewN | apply Kd.R_drew)); exact HO145.out))) (below_size (by repeat (first | (with_reducible first | exact HB.out | apply below_alloc | apply pw_below_drewN | apply below_drew1) | exact HB.out)))); have n4_ := Aside0.mk (below_step (by repeat (first | (with_reducible first | exact HB.out | apply below_alloc | apply pw_below_drewN | apply below_drew1) | exact HB.out)) hb); clear HO142; clear HO145; clear HO148; clear HB; have HO142 := n0_; have HO145 := n1_; have HO148 := n2_; have HO151 := n3_; have HB := n4_; clear n0_ n1_ n2_ n3_ n4_; (try clear hb); (try clear hb2); (try clear hk); (try clear hi); (try clear ho0); obtain ⟨Ao24, co24, eo24⟩ := Kd.R_slice HO151.out; subst eo24; have q25 : ((ji11) : Int) ≤ ((t149.length : Int) : Int) := of_decide_eq_true (by first | (with_reducible assumption) | assumption); obtain ⟨i025, hi025, _, hsz25, _⟩ := info_parts info5; have hroom25 : t149.length ≤ co24 := (Kd.R_reads' HO151.out).2.1; have hC25 : Kd.F (Kd.int .u8) _ _ Ao24 t149.length t149 := (Kd.V_at (base := w.heap.size) (Kd.R_V (Kd.R_apart' (HO151.out) (Kd.N_typed HO148.out) (by decide)))).2.2; have hcut25 := cut_to (P := Try.prog) 22 5 .i64 Try.underlying22 hi025 Ao24 t149.length co24 (ji11) (of_decide_eq_true (by first | (with_reducible assumption) | assumption)) q25 hroom25; have hr25 := Kd.F_take (m := ((ji11) : Int).toNat) hC25 (by omega); have hy25 : y152.length = ((ji11) : Int).toNat := (by rw [Ny152.out, List.length_take]; omega); rw [← Ny152.out] at hr25; rw [← hy25] at hcut25; have HO156 := Aside0.mk (show Kd.V (Kd.int .u8) 5 _ w.heap.size _ (.slice Ao24 y152.length co24) y152 from Kd.V_mk (by omega) hr25); have HC156 := Aside0.mk (show y152.length ≤ co24 from by omega); clear hr25 hC25 hroom25 hi025 hsz25; have KY25 := Aside0.mk hy25; clear hy25; replace q25 := eq_true q25) | ((with_reducible refine gate_dst (N := 38) rfl ?_); (try (refine gate_guard (by rfl) ?_; dsimp only)); refine Kd.R_lit (Kd.int .u8) _ 5 ?hg (N := 38) ?hd (xs := ([] : List Int)) (inner := []) (ok := fun _ => True) (okp := fun _ => True) ?hr ?hp (fun _ hk => hk) trivial (Below.refl _ _) (Nat.le_refl _) (by simp) ?_; (case hd => rfl); (case hg => rfl); (case hr => first | (go_simp; done) | (go_simp; rfl)); (case hp => exact (Reps.none _ _)); intro v158 w26 ho27 hb hg_ hnew_; clear hg_ hnew_; (first | rw [← Ny157.out] at ho27 | (simp only [Int.reduceToNat] at ho27; rw [← Ny157.out] at ho27)); have n0_ := Aside0.mk (Kd.R_elder' (by (with_reducible repeat (first | apply Kd.R_alloc | apply Kd.R_drewN | apply Kd.R_drew)); exact HO142.out) (Kd.R_base ho27) hb); have n1_ := Aside0.mk (Kd.R_elder' (by (with_reducible repeat (first | apply Kd.R_alloc | apply Kd.R_drewN | apply Kd.R_drew)); exact HO145.out) (Kd.R_base ho27) hb); have n2_ := Aside0.mk (Kd.N_elder' (by (with_reducible repeat (first | apply Kd.N_alloc | apply Kd.N_drewN | apply Kd.N_drew)); exact HO148.out) (Kd.R_base ho27) hb); have n3_ := Aside0.mk (Kd.R_elder' (by (with_reducible repeat (first | apply Kd.R_alloc | apply Kd.R_drewN | apply Kd.R_drew)); exact HO151.out) (Kd.R_base ho27) hb); have n4_ := Aside0.mk (Kd.V_elder' (by (with_reducible repeat (first | apply Kd.V_alloc | apply Kd.V_drewN | apply Kd.V_drew)); exact HO156.out) (Kd.R_base ho27) hb); have n5_ := Aside0.mk (Kd.R_lower (Kd.R_new' (Kd.R_new' (Kd.R_new' ho27 (Kd.R_lt (by (with_reducible repeat (first | apply Kd.R_alloc | apply Kd.R_drewN | apply Kd.R_drew)); exact HO142.out))) (Kd.R_lt (by (with_reducible repeat (first | apply Kd.R_alloc | apply Kd.R_drewN | apply Kd.R_drew)); exact HO145.out))) (Kd.R_lt (by (with_reducible repeat (first | apply Kd.R_alloc | apply Kd.R_drewN | apply Kd.R_drew)); exact HO151.out))) (below_size (by repeat (first | (with_reducible first | exact HB.out | apply below_alloc | apply pw_below_drewN | apply below_drew1) | exact HB.out)))); have n6_ := Aside0.mk (below_step (by repeat (first | (with_reducible first | exact HB.out | apply below_alloc | apply pw_below_drewN | apply below_drew1) | exact HB.out)) hb); clear HO142; clear HO145; clear HO148; clear HO151; clear HO156; clear HB; have HO142 := n0_; have HO145 := n1_; have HO148 := n2_; have HO151 := n3_; have HO156 := n4_; have HO159 := n5_; have HB := n6_; clear n0_ n1_ n2_ n3_ n4_ n5_ n6_; clear hb ho27) | ((with_reducible refine gate_builtin (b := .append) (xs := #[.tmp 41, .tmp 42]) rfl ?_); (try (refine gate_guard (by rfl) ?_; dsimp only)); at_builtin; refine Kd.R_append (Kd.int .u8) (w0 := w) w.heap.size rfl (.tmp 41) (.tmp 42) 22 5 (.int .u8 0) 1 rfl Try.underlying22 info5 rfl (by decide) (by omega) v158 y157 45 [.int .u8 45] (fun k_ => some k_ ≠ (.slice Ao17 t140.length co17 : Value).ownBlock ∧ some k_ ≠ (.slice Ao19 t143.length co19 : Value).ownBlock ∧ some k_ ≠ (.slice Ao24 t149.length co24 : Value).ownBlock) (fun _ => False) rfl rfl ?aP (fun _ hk => hk.elim) ?aF ?aO ?aB ?aS ?aL ?_; (case aP => exact rfl); (case aB => exact (by repeat (first | (with_reducible first | exact HB.out | apply below_alloc | apply pw_below_drewN | apply below_drew1) | exact HB.out))); (case aF => exact (fun k_ hk => ⟨Kd.fresh' (Kd.R_lt (by (with_reducible repeat (first | apply Kd.R_alloc | apply Kd.R_drewN | apply Kd.R_drew)); exact HO142.out)) k_ hk, Kd.fresh' (Kd.R_lt (by (with_reducible repeat (first | apply Kd.R_alloc | apply Kd.R_drewN | apply Kd.R_drew)); exact HO145.out)) k_ hk, Kd.fresh' (Kd.R_lt (by (with_reducible repeat (first | apply Kd.R_alloc | apply Kd.R_drewN | apply Kd.R_drew)); exact HO151.out)) k_ hk⟩)); (case aO => exact (by (with_reducible repeat (first | apply Kd.R_alloc | apply Kd.R_drewN | apply Kd.R_drew)); exact Kd.R_mono HO159.out (fun _ hk => ⟨hk.1.1.2, ⟨hk.1.2, hk.2⟩⟩))); (case aS => exact (below_size (by repeat (first | (with_reducible first | exact HB.out | apply below_alloc | apply pw_below_drewN | apply below_drew1) | exact HB.out)))); (case aL => have := LMc15.out; omega); intro v161 w28 ho hb hg hat; rw [← Ny160.out] at ho; have n0_ := Aside0.mk (Kd.R_after (ok := (fun k_ => some k_ ≠ (.slice Ao19 t143.length co19 : Value).ownBlock ∧ some k_ ≠ (.slice Ao24 t149.length co24 : Value).ownBlock)) (by (with_reducible repeat (first | apply Kd.R_alloc | apply Kd.R_drewN | apply Kd.R_drew)); exact Kd.R_mono HO142.out (fun _ hk => ⟨⟨hk.1.1.2, hk.1.2⟩, hk.2⟩)) hg hat); have n1_ := Aside0.mk (Kd.R_after (ok := (fun k_ => some k_ ≠ (.slice Ao17 t140.length co17 : Value).ownBlock ∧ some k_ ≠ (.slice Ao24 t149.length co24 : Value).ownBlock)) (by (with_reducible repeat (first | apply Kd.R_alloc | apply Kd.R_drewN | apply Kd.R_drew)); exact Kd.R_mono HO145.out (fun _ hk => ⟨⟨hk.1.1.2, hk.1.2⟩, hk.2⟩)) hg hat); have n2_ := Aside0.mk (Kd.N_afterv (ok := (fun k_ => some k_ ≠ (.slice Ao24 t149.length co24 : Value).ownBlock)) (by (with_reducible repeat (first | apply Kd.N_alloc | apply Kd.N_drewN | apply Kd.N_drew)); exact Kd.N_mono HO148.out (fun _ hk => ⟨hk.1.2, hk.2⟩)) hg hat); have n3_ := Aside0.mk (Kd.R_after (ok := (fun k_ => some k_ ≠ (.slice Ao17 t140.length co17 : Value).ownBlock ∧ some k_ ≠ (.slice Ao19 t143.length co19 : Value).ownBlock)) (by (with_reducible repeat (first | apply Kd.R_alloc | apply Kd.R_drewN | apply Kd.R_drew)); exact Kd.R_mono HO151.out (fun _ hk => ⟨⟨hk.1.1.2, hk.1.2⟩, hk.2⟩)) hg hat); have n4_ := Aside0.mk (Kd.V_afterv (ok := (fun k_ => some k_ ≠ (.slice Ao17 t140.length co17 : Value).ownBlock ∧ some k_ ≠ (.slice Ao19 t143.length co19 : Value).ownBlock ∧ some k_ ≠ (.slice Ao22 y146.length co22 : Value).ownBlock)) (by (with_reducible repeat (first | apply Kd.V_alloc | apply Kd.V_drewN | apply Kd.V_drew)); exact Kd.V_mono HO156.out (fun _ hk => ⟨⟨hk.1.1.1.2, ⟨hk.1.1.2, hk.1.2⟩⟩, hk.2⟩)) hg hat); have n5_ := Aside0.mk (hb); have n6_ := Aside0.mk (ho); clear HO142; clear HO145; clear HO148; clear HO151; clear HO156; clear HB; clear HO159; have HO142 := n0_; have HO145 := n1_; have HO148 := n2_; have HO151 := n3_; have HO156 := n4_; have HB := n5_; have HO162 := n6_; clear n0_ n1_ n2_ n3_ n4_ n5_ n6_; clear ho hb hg hat))
            go_loopg [13, 46] k (fun kq v13 v46 w' => ∃ (x13_1 : List Int) (x46_1 : Int), v46 = .int .i64 x46_1 ∧ Aside0 (spec_GroupedText.l0 kq a1 a2 a3 a4 t149 y152 x13_1 y152 (y152.length : Int) x46_1 = some r) ∧ Aside0 (kq ≤ k) ∧ Aside0 (Kd.R (Kd.int .u8) 5 w' w.heap.size (fun k_ => some k_ ≠ (v13 : Value).ownBlock) (.slice Ao24 t149.length co24) t149) ∧ Aside0 (Kd.V (Kd.int .u8) 5 w' w.heap.size (fun k_ => some k_ ≠ (v13 : Value).ownBlock) (.slice Ao24 y152.length co24) y152) ∧ Aside0 (Kd.R (Kd.int .u8) 5 w' w.heap.size (fun k_ => some k_ ≠ ((.slice Ao24 t149.length co24) : Value).ownBlock) v13 x13_1) ∧ Aside0 (Kd.V (Kd.int .u8) 5 w' w.heap.size (fun k_ => some k_ ≠ (v13 : Value).ownBlock) (.slice Ao24 y152.length co24) y152) ∧ Aside0 (Below w.heap.size w w'))
            case atStart => exact ⟨(y160), (0), (by first | rfl | (simp; done) | (simp [*]; done)), H', ⟨Nat.le_refl _⟩, ⟨by (with_reducible repeat (first | apply Kd.R_alloc | apply Kd.R_drewN | apply Kd.R_drew)); exact Kd.R_mono HO151.out (fun _ hk => hk.2)⟩, ⟨by (with_reducible repeat (first | apply Kd.V_alloc | apply Kd.V_drewN | apply Kd.V_drew)); exact Kd.V_mono HO156.out (fun _ hk => hk.2)⟩, ⟨by (with_reducible repeat (first | apply Kd.R_alloc | apply Kd.R_drewN | apply Kd.R_drew)); exact Kd.R_mono HO162.out (fun _ hk => hk.2.2)⟩, ⟨by (with_reducible repeat (first | apply Kd.V_alloc | apply Kd.V_drewN | apply Kd.V_drew)); exact Kd.V_mono HO156.out (fun _ hk => hk.2)⟩, ⟨by repeat (first | (with_reducible first | exact HB.out | apply below_alloc | apply pw_below_drewN | apply below_drew1) | exact HB.out)⟩⟩
            case round =>
              clear H'
              try clear c1
              try clear p2
              try clear q2
              try clear p6
              try clear c8
              try clear c8b0
              try clear c9
              try clear c12
              try clear c12b0
              try clear c12b1
              try clear c13
              try clear c13b0
              try clear c13b1
              try clear c14
              try clear c14b0
              try clear c15
              try clear q25
              try clear q25
              obtain ⟨x13_1, x46_1, rfl, HA, HK1, HO_11, HO_12, HO_13, HO_44, HB⟩ := hrel
              cases gk with
              | zero => exact absurd HA.out (by simp [spec_GroupedText.l0])
              | succ k1 =>
                have H := HA.out
                clear HA
                simp only [spec_GroupedText.l0] at H
                by_cases c29 : x46_1 < (y152.length : Int)
                · rw [if_pos c29] at H
                  have c29b0 : decide (x46_1 < (y152.length : Int)) = true := decide_eq_true c29
                  clear c29
                  by_cases c30 : 0 ≤ x46_1
                  · rw [if_pos c30] at H
                    have c30b0 : decide (0 ≤ x46_1) = true := decide_eq_true c30
                    clear c30
                    by_cases c31 : x46_1 < (y152.length : Int)
                    · rw [if_pos c31] at H
                      have c31b0 : decide (x46_1 < (y152.length : Int)) = true := decide_eq_true c31
                      clear c31
                      by_cases c32 : x46_1 > 0
                      · rw [if_pos c32] at H
                        have c32b0 : decide (0 < x46_1) = true := decide_eq_true c32
                        clear c32
                        by_cases c33 : a2 > 0
                        · rw [if_pos c33] at H
                          have c33b0 : decide (0 < a2) = true := decide_eq_true c33
                          clear c33
                          by_cases c34 : a2 = 0
                          · rw [if_pos c34] at H
                            exact absurd H (by simp)
                          · rw [if_neg c34] at H
                            have c34b0 : (a2 == 0) = false := beq_eq_false_iff_ne.mpr c34
                            have c34b1 : (a2 != 0) = true := bne_iff_ne.mpr c34
                            by_cases c35 : (Int.tmod (wrap64 ((y152.length : Int) - x46_1)) a2) = 0
                            · rw [if_pos c35] at H
                              have c35b0 : ((Int.tmod (wrap64 ((y152.length : Int) - x46_1)) a2) == 0) = true := beq_iff_eq.mpr c35
                              have c35b1 : ((Int.tmod (wrap64 ((y152.length : Int) - x46_1)) a2) != 0) = false := bne_eq_false_iff_eq.mpr c35
                              clear c35
                              by_cases c36 : x13_1.length < 140737488355328
                              · rw [if_pos c36] at H
                                have LMc36 := Aside0.mk c36
                                clear c36
                                obtain ⟨y164, hy164⟩ : ∃ y_ : List Int, y_ = (x13_1 ++ [a3]) := ⟨_, rfl⟩
                                replace H : (if y164.length < 140737488355328 then (spec_GroupedText.l0 k1 a1 a2 a3 a4 t149 y152 (y164 ++ [rd y152 x46_1]) y152 (y152.length : Int) (wrap64 (x46_1 + 1))) else (none)) = some r := by first | (rw [hy164]; with_reducible exact H) | (have H2_ := (Option.bind_some _ _).symm.trans H; rw [hy164]; with_reducible exact H2_) | (have H2_ := (Option.bind_some _ _).symm.trans H; with_reducible exact H2_) | with_reducible exact H | (rw [hy164]; exact H) | exact H
                                have Ny164 := Aside0.mk hy164
                                clear hy164
                                by_cases c37 : y164.length < 140737488355328
                                · rw [if_pos c37] at H
                                  have LMc37 := Aside0.mk c37
                                  clear c37
                                  obtain ⟨y167, hy167⟩ : ∃ y_ : List Int, y_ = (y164 ++ [rd y152 x46_1]) := ⟨_, rfl⟩
                                  replace H : (spec_GroupedText.l0 k1 a1 a2 a3 a4 t149 y152 y167 y152 (y152.length : Int) (wrap64 (x46_1 + 1))) = some r := by first | (rw [hy167]; with_reducible exact H) | (have H2_ := (Option.bind_some _ _).symm.trans H; rw [hy167]; with_reducible exact H2_) | (have H2_ := (Option.bind_some _ _).symm.trans H; with_reducible exact H2_) | with_reducible exact H | (rw [hy167]; exact H) | exact H
                                  have Ny167 := Aside0.mk hy167
                                  clear hy167
                                  have H' := Aside0.mk H
                                  clear H
                                  have p163 : 0 ≤ (x46_1 : Int) := of_decide_eq_true (by first | (with_reducible assumption) | assumption)
                                  have q163 : x46_1 < (y152.length : Int) := of_decide_eq_true (by first | (with_reducible assumption) | assumption)
                                  obtain ⟨ad163, e163, hx163_0⟩ := Kd.at_int (Kd.V_reads' HO_44.out).2.2 x46_1 p163 q163
                                  cases e163
                                  replace p163 := eq_true p163
                                  replace q163 := eq_true q163
                                  go_wp2_with (first | ((with_reducible refine gate_builtin (b := .append) (xs := #[.tmp 66, .tmp 68]) rfl ?_); (try (refine gate_guard (by rfl) ?_; dsimp only)); at_builtin; refine Kd.R_append (Kd.int .u8) (w0 := w) w.heap.size rfl (.tmp 66) (.tmp 68) 22 5 (.int .u8 0) 1 rfl Try.underlying22 info5 rfl (by decide) (by omega) u13 x13_1 a3 [.int .u8 a3] (fun k_ => some k_ ≠ (.slice (some ad163) t149.length co24 : Value).ownBlock) (fun _ => False) rfl rfl ?aP (fun _ hk => hk.elim) ?aF ?aO ?aB ?aS ?aL ?_; (case aP => exact rfl); (case aB => exact (by repeat (first | (with_reducible first | exact HB.out | apply below_alloc | apply pw_below_drewN | apply below_drew1) | exact HB.out))); (case aF => exact (fun k_ hk => Kd.fresh' (Kd.R_lt (by (with_reducible repeat (first | apply Kd.R_alloc | apply Kd.R_drewN | apply Kd.R_drew)); exact HO_11.out)) k_ hk)); (case aO => exact (by (with_reducible repeat (first | apply Kd.R_alloc | apply Kd.R_drewN | apply Kd.R_drew)); exact HO_13.out)); (case aS => exact (below_size (by repeat (first | (with_reducible first | exact HB.out | apply below_alloc | apply pw_below_drewN | apply below_drew1) | exact HB.out)))); (case aL => have := LMc36.out; omega); intro v165 w38 ho hb hg hat; rw [← Ny164.out] at ho; have n0_ := Aside0.mk (Kd.R_after (ok := (fun _ => True)) (by (with_reducible repeat (first | apply Kd.R_alloc | apply Kd.R_drewN | apply Kd.R_drew)); exact Kd.R_mono HO_11.out (fun _ hk => ⟨trivial, hk⟩)) hg hat); have n1_ := Aside0.mk (Kd.V_afterv (ok := (fun _ => True)) (by (with_reducible repeat (first | apply Kd.V_alloc | apply Kd.V_drewN | apply Kd.V_drew)); exact Kd.V_mono HO_12.out (fun _ hk => ⟨trivial, hk⟩)) hg hat); have n2_ := Aside0.mk (Kd.V_afterv (ok := (fun _ => True)) (by (with_reducible repeat (first | apply Kd.V_alloc | apply Kd.V_drewN | apply Kd.V_drew)); exact Kd.V_mono HO_44.out (fun _ hk => ⟨trivial, hk⟩)) hg hat); have n3_ := Aside0.mk (hb); have n4_ := Aside0.mk (ho); clear HO_11; clear HO_12; clear HO_44; clear HB; clear HO_13; have HO_11 := n0_; have HO_12 := n1_; have HO_44 := n2_; have HB := n3_; have HO166 := n4_; clear n0_ n1_ n2_ n3_ n4_; clear ho hb hg hat) | ((with_reducible refine gate_builtin (b := .append) (xs := #[.tmp 70, .tmp 72]) rfl ?_); (try (refine gate_guard (by rfl) ?_; dsimp only)); at_builtin; refine Kd.R_append (Kd.int .u8) (w0 := w) w.heap.size rfl (.tmp 70) (.tmp 72) 22 5 (.int .u8 0) 1 rfl Try.underlying22 info5 rfl (by decide) (by omega) v165 y164 (rd y152 x46_1) [.int .u8 (rd y152 x46_1)] (fun k_ => some k_ ≠ (.slice (some ad163) t149.length co24 : Value).ownBlock) (fun _ => False) rfl rfl ?aP (fun _ hk => hk.elim) ?aF ?aO ?aB ?aS ?aL ?_; (case aP => exact rfl); (case aB => exact (by repeat (first | (with_reducible first | exact HB.out | apply below_alloc | apply pw_below_drewN | apply below_drew1) | exact HB.out))); (case aF => exact (fun k_ hk => Kd.fresh' (Kd.R_lt (by (with_reducible repeat (first | apply Kd.R_alloc | apply Kd.R_drewN | apply Kd.R_drew)); exact HO_11.out)) k_ hk)); (case aO => exact (by (with_reducible repeat (first | apply Kd.R_alloc | apply Kd.R_drewN | apply Kd.R_drew)); exact HO166.out)); (case aS => exact (below_size (by repeat (first | (with_reducible first | exact HB.out | apply below_alloc | apply pw_below_drewN | apply below_drew1) | exact HB.out)))); (case aL => have := LMc37.out; omega); intro v168 w39 ho hb hg hat; rw [← Ny167.out] at ho; have n0_ := Aside0.mk (Kd.R_after (ok := (fun _ => True)) (by (with_reducible repeat (first | apply Kd.R_alloc | apply Kd.R_drewN | apply Kd.R_drew)); exact HO_11.out) hg hat); have n1_ := Aside0.mk (Kd.V_afterv (ok := (fun _ => True)) (by (with_reducible repeat (first | apply Kd.V_alloc | apply Kd.V_drewN | apply Kd.V_drew)); exact HO_12.out) hg hat); have n2_ := Aside0.mk (Kd.V_afterv (ok := (fun _ => True)) (by (with_reducible repeat (first | apply Kd.V_alloc | apply Kd.V_drewN | apply Kd.V_drew)); exact HO_44.out) hg hat); have n3_ := Aside0.mk (hb); have n4_ := Aside0.mk (ho); clear HO_11; clear HO_12; clear HO_44; clear HB; clear HO166; have HO_11 := n0_; have HO_12 := n1_; have HO_44 := n2_; have HB := n3_; have HO169 := n4_; clear n0_ n1_ n2_ n3_ n4_; clear ho hb hg hat))
                                  go_roundg k1
                                  case measure => have := HK1.out; omega
                                  case rel => exact ⟨(y167), (wrap64 (x46_1 + 1)), (by first | rfl | (simp; done) | (simp [*]; done)), H', ⟨by have := HK1.out; omega⟩, ⟨by (with_reducible repeat (first | apply Kd.R_alloc | apply Kd.R_drewN | apply Kd.R_drew)); exact Kd.R_mono HO_11.out (fun _ hk => hk.2)⟩, ⟨by (with_reducible repeat (first | apply Kd.V_alloc | apply Kd.V_drewN | apply Kd.V_drew)); exact Kd.V_mono HO_12.out (fun _ hk => hk.2)⟩, ⟨by (with_reducible repeat (first | apply Kd.R_alloc | apply Kd.R_drewN | apply Kd.R_drew)); exact HO169.out⟩, ⟨by (with_reducible repeat (first | apply Kd.V_alloc | apply Kd.V_drewN | apply Kd.V_drew)); exact Kd.V_mono HO_44.out (fun _ hk => hk.2)⟩, ⟨by repeat (first | (with_reducible first | exact HB.out | apply below_alloc | apply pw_below_drewN | apply below_drew1) | exact HB.out)⟩⟩
                                · rw [if_neg c37] at H
                                  exact absurd H (by simp)
                              · rw [if_neg c36] at H
                                exact absurd H (by simp)
                            · rw [if_neg c35] at H
                              have c35b0 : ((Int.tmod (wrap64 ((y152.length : Int) - x46_1)) a2) == 0) = false := beq_eq_false_iff_ne.mpr c35
                              have c35b1 : ((Int.tmod (wrap64 ((y152.length : Int) - x46_1)) a2) != 0) = true := bne_iff_ne.mpr c35
                              by_cases c40 : x13_1.length < 140737488355328
                              · rw [if_pos c40] at H
                                have LMc40 := Aside0.mk c40
                                clear c40
                                obtain ⟨y170, hy170⟩ : ∃ y_ : List Int, y_ = (x13_1 ++ [rd y152 x46_1]) := ⟨_, rfl⟩
                                replace H : (spec_GroupedText.l0 k1 a1 a2 a3 a4 t149 y152 y170 y152 (y152.length : Int) (wrap64 (x46_1 + 1))) = some r := by first | (rw [hy170]; with_reducible exact H) | (have H2_ := (Option.bind_some _ _).symm.trans H; rw [hy170]; with_reducible exact H2_) | (have H2_ := (Option.bind_some _ _).symm.trans H; with_reducible exact H2_) | with_reducible exact H | (rw [hy170]; exact H) | exact H
                                have Ny170 := Aside0.mk hy170
                                clear hy170
                                have H' := Aside0.mk H
                                clear H
                                have p163 : 0 ≤ (x46_1 : Int) := of_decide_eq_true (by first | (with_reducible assumption) | assumption)
                                have q163 : x46_1 < (y152.length : Int) := of_decide_eq_true (by first | (with_reducible assumption) | assumption)
                                obtain ⟨ad163, e163, hx163_0⟩ := Kd.at_int (Kd.V_reads' HO_44.out).2.2 x46_1 p163 q163
                                cases e163
                                replace p163 := eq_true p163
                                replace q163 := eq_true q163
                                go_wp2_with (first | ((with_reducible refine gate_builtin (b := .append) (xs := #[.tmp 70, .tmp 72]) rfl ?_); (try (refine gate_guard (by rfl) ?_; dsimp only)); at_builtin; refine Kd.R_append (Kd.int .u8) (w0 := w) w.heap.size rfl (.tmp 70) (.tmp 72) 22 5 (.int .u8 0) 1 rfl Try.underlying22 info5 rfl (by decide) (by omega) u13 x13_1 (rd y152 x46_1) [.int .u8 (rd y152 x46_1)] (fun k_ => some k_ ≠ (.slice (some ad163) t149.length co24 : Value).ownBlock) (fun _ => False) rfl rfl ?aP (fun _ hk => hk.elim) ?aF ?aO ?aB ?aS ?aL ?_; (case aP => exact rfl); (case aB => exact (by repeat (first | (with_reducible first | exact HB.out | apply below_alloc | apply pw_below_drewN | apply below_drew1) | exact HB.out))); (case aF => exact (fun k_ hk => Kd.fresh' (Kd.R_lt (by (with_reducible repeat (first | apply Kd.R_alloc | apply Kd.R_drewN | apply Kd.R_drew)); exact HO_11.out)) k_ hk)); (case aO => exact (by (with_reducible repeat (first | apply Kd.R_alloc | apply Kd.R_drewN | apply Kd.R_drew)); exact HO_13.out)); (case aS => exact (below_size (by repeat (first | (with_reducible first | exact HB.out | apply below_alloc | apply pw_below_drewN | apply below_drew1) | exact HB.out)))); (case aL => have := LMc40.out; omega); intro v171 w41 ho hb hg hat; rw [← Ny170.out] at ho; have n0_ := Aside0.mk (Kd.R_after (ok := (fun _ => True)) (by (with_reducible repeat (first | apply Kd.R_alloc | apply Kd.R_drewN | apply Kd.R_drew)); exact Kd.R_mono HO_11.out (fun _ hk => ⟨trivial, hk⟩)) hg hat); have n1_ := Aside0.mk (Kd.V_afterv (ok := (fun _ => True)) (by (with_reducible repeat (first | apply Kd.V_alloc | apply Kd.V_drewN | apply Kd.V_drew)); exact Kd.V_mono HO_12.out (fun _ hk => ⟨trivial, hk⟩)) hg hat); have n2_ := Aside0.mk (Kd.V_afterv (ok := (fun _ => True)) (by (with_reducible repeat (first | apply Kd.V_alloc | apply Kd.V_drewN | apply Kd.V_drew)); exact Kd.V_mono HO_44.out (fun _ hk => ⟨trivial, hk⟩)) hg hat); have n3_ := Aside0.mk (hb); have n4_ := Aside0.mk (ho); clear HO_11; clear HO_12; clear HO_44; clear HB; clear HO_13; have HO_11 := n0_; have HO_12 := n1_; have HO_44 := n2_; have HB := n3_; have HO172 := n4_; clear n0_ n1_ n2_ n3_ n4_; clear ho hb hg hat))
                                go_roundg k1
                                case measure => have := HK1.out; omega
                                case rel => exact ⟨(y170), (wrap64 (x46_1 + 1)), (by first | rfl | (simp; done) | (simp [*]; done)), H', ⟨by have := HK1.out; omega⟩, ⟨by (with_reducible repeat (first | apply Kd.R_alloc | apply Kd.R_drewN | apply Kd.R_drew)); exact Kd.R_mono HO_11.out (fun _ hk => hk.2)⟩, ⟨by (with_reducible repeat (first | apply Kd.V_alloc | apply Kd.V_drewN | apply Kd.V_drew)); exact Kd.V_mono HO_12.out (fun _ hk => hk.2)⟩, ⟨by (with_reducible repeat (first | apply Kd.R_alloc | apply Kd.R_drewN | apply Kd.R_drew)); exact HO172.out⟩, ⟨by (with_reducible repeat (first | apply Kd.V_alloc | apply Kd.V_drewN | apply Kd.V_drew)); exact Kd.V_mono HO_44.out (fun _ hk => hk.2)⟩, ⟨by repeat (first | (with_reducible first | exact HB.out | apply below_alloc | apply pw_below_drewN | apply below_drew1) | exact HB.out)⟩⟩
                              · rw [if_neg c40] at H
                                exact absurd H (by simp)
                        · rw [if_neg c33] at H
                          have c33b0 : decide (0 < a2) = false := decide_eq_false c33
                          clear c33
                          by_cases c42 : x13_1.length < 140737488355328
                          · rw [if_pos c42] at H
                            have LMc42 := Aside0.mk c42
                            clear c42
                            obtain ⟨y173, hy173⟩ : ∃ y_ : List Int, y_ = (x13_1 ++ [rd y152 x46_1]) := ⟨_, rfl⟩
                            replace H : (spec_GroupedText.l0 k1 a1 a2 a3 a4 t149 y152 y173 y152 (y152.length : Int) (wrap64 (x46_1 + 1))) = some r := by first | (rw [hy173]; with_reducible exact H) | (have H2_ := (Option.bind_some _ _).symm.trans H; rw [hy173]; with_reducible exact H2_) | (have H2_ := (Option.bind_some _ _).symm.trans H; with_reducible exact H2_) | with_reducible exact H | (rw [hy173]; exact H) | exact H
                            have Ny173 := Aside0.mk hy173
                            clear hy173
                            have H' := Aside0.mk H
                            clear H
                            have p163 : 0 ≤ (x46_1 : Int) := of_decide_eq_true (by first | (with_reducible assumption) | assumption)
                            have q163 : x46_1 < (y152.length : Int) := of_decide_eq_true (by first | (with_reducible assumption) | assumption)
                            obtain ⟨ad163, e163, hx163_0⟩ := Kd.at_int (Kd.V_reads' HO_44.out).2.2 x46_1 p163 q163
                            cases e163
                            replace p163 := eq_true p163
                            replace q163 := eq_true q163
                            go_wp2_with (first | ((with_reducible refine gate_builtin (b := .append) (xs := #[.tmp 70, .tmp 72]) rfl ?_); (try (refine gate_guard (by rfl) ?_; dsimp only)); at_builtin; refine Kd.R_append (Kd.int .u8) (w0 := w) w.heap.size rfl (.tmp 70) (.tmp 72) 22 5 (.int .u8 0) 1 rfl Try.underlying22 info5 rfl (by decide) (by omega) u13 x13_1 (rd y152 x46_1) [.int .u8 (rd y152 x46_1)] (fun k_ => some k_ ≠ (.slice (some ad163) t149.length co24 : Value).ownBlock) (fun _ => False) rfl rfl ?aP (fun _ hk => hk.elim) ?aF ?aO ?aB ?aS ?aL ?_; (case aP => exact rfl); (case aB => exact (by repeat (first | (with_reducible first | exact HB.out | apply below_alloc | apply pw_below_drewN | apply below_drew1) | exact HB.out))); (case aF => exact (fun k_ hk => Kd.fresh' (Kd.R_lt (by (with_reducible repeat (first | apply Kd.R_alloc | apply Kd.R_drewN | apply Kd.R_drew)); exact HO_11.out)) k_ hk)); (case aO => exact (by (with_reducible repeat (first | apply Kd.R_alloc | apply Kd.R_drewN | apply Kd.R_drew)); exact HO_13.out)); (case aS => exact (below_size (by repeat (first | (with_reducible first | exact HB.out | apply below_alloc | apply pw_below_drewN | apply below_drew1) | exact HB.out)))); (case aL => have := LMc42.out; omega); intro v174 w43 ho hb hg hat; rw [← Ny173.out] at ho; have n0_ := Aside0.mk (Kd.R_after (ok := (fun _ => True)) (by (with_reducible repeat (first | apply Kd.R_alloc | apply Kd.R_drewN | apply Kd.R_drew)); exact Kd.R_mono HO_11.out (fun _ hk => ⟨trivial, hk⟩)) hg hat); have n1_ := Aside0.mk (Kd.V_afterv (ok := (fun _ => True)) (by (with_reducible repeat (first | apply Kd.V_alloc | apply Kd.V_drewN | apply Kd.V_drew)); exact Kd.V_mono HO_12.out (fun _ hk => ⟨trivial, hk⟩)) hg hat); have n2_ := Aside0.mk (Kd.V_afterv (ok := (fun _ => True)) (by (with_reducible repeat (first | apply Kd.V_alloc | apply Kd.V_drewN | apply Kd.V_drew)); exact Kd.V_mono HO_44.out (fun _ hk => ⟨trivial, hk⟩)) hg hat); have n3_ := Aside0.mk (hb); have n4_ := Aside0.mk (ho); clear HO_11; clear HO_12; clear HO_44; clear HB; clear HO_13; have HO_11 := n0_; have HO_12 := n1_; have HO_44 := n2_; have HB := n3_; have HO175 := n4_; clear n0_ n1_ n2_ n3_ n4_; clear ho hb hg hat))
                            go_roundg k1
                            case measure => have := HK1.out; omega
                            case rel => exact ⟨(y173), (wrap64 (x46_1 + 1)), (by first | rfl | (simp; done) | (simp [*]; done)), H', ⟨by have := HK1.out; omega⟩, ⟨by (with_reducible repeat (first | apply Kd.R_alloc | apply Kd.R_drewN | apply Kd.R_drew)); exact Kd.R_mono HO_11.out (fun _ hk => hk.2)⟩, ⟨by (with_reducible repeat (first | apply Kd.V_alloc | apply Kd.V_drewN | apply Kd.V_drew)); exact Kd.V_mono HO_12.out (fun _ hk => hk.2)⟩, ⟨by (with_reducible repeat (first | apply Kd.R_alloc | apply Kd.R_drewN | apply Kd.R_drew)); exact HO175.out⟩, ⟨by (with_reducible repeat (first | apply Kd.V_alloc | apply Kd.V_drewN | apply Kd.V_drew)); exact Kd.V_mono HO_44.out (fun _ hk => hk.2)⟩, ⟨by repeat (first | (with_reducible first | exact HB.out | apply below_alloc | apply pw_below_drewN | apply below_drew1) | exact HB.out)⟩⟩
                          · rw [if_neg c42] at H
                            exact absurd H (by simp)
                      · rw [if_neg c32] at H
                        have c32b0 : decide (0 < x46_1) = false := decide_eq_false c32
                        clear c32
                        by_cases c44 : x13_1.length < 140737488355328
                        · rw [if_pos c44] at H
                          have LMc44 := Aside0.mk c44
                          clear c44
                          obtain ⟨y176, hy176⟩ : ∃ y_ : List Int, y_ = (x13_1 ++ [rd y152 x46_1]) := ⟨_, rfl⟩
                          replace H : (spec_GroupedText.l0 k1 a1 a2 a3 a4 t149 y152 y176 y152 (y152.length : Int) (wrap64 (x46_1 + 1))) = some r := by first | (rw [hy176]; with_reducible exact H) | (have H2_ := (Option.bind_some _ _).symm.trans H; rw [hy176]; with_reducible exact H2_) | (have H2_ := (Option.bind_some _ _).symm.trans H; with_reducible exact H2_) | with_reducible exact H | (rw [hy176]; exact H) | exact H
                          have Ny176 := Aside0.mk hy176
                          clear hy176
                          have H' := Aside0.mk H
                          clear H
                          have p163 : 0 ≤ (x46_1 : Int) := of_decide_eq_true (by first | (with_reducible assumption) | assumption)
                          have q163 : x46_1 < (y152.length : Int) := of_decide_eq_true (by first | (with_reducible assumption) | assumption)
                          obtain ⟨ad163, e163, hx163_0⟩ := Kd.at_int (Kd.V_reads' HO_44.out).2.2 x46_1 p163 q163
                          cases e163
                          replace p163 := eq_true p163
                          replace q163 := eq_true q163
                          go_wp2_with (first | ((with_reducible refine gate_builtin (b := .append) (xs := #[.tmp 70, .tmp 72]) rfl ?_); (try (refine gate_guard (by rfl) ?_; dsimp only)); at_builtin; refine Kd.R_append (Kd.int .u8) (w0 := w) w.heap.size rfl (.tmp 70) (.tmp 72) 22 5 (.int .u8 0) 1 rfl Try.underlying22 info5 rfl (by decide) (by omega) u13 x13_1 (rd y152 x46_1) [.int .u8 (rd y152 x46_1)] (fun k_ => some k_ ≠ (.slice (some ad163) t149.length co24 : Value).ownBlock) (fun _ => False) rfl rfl ?aP (fun _ hk => hk.elim) ?aF ?aO ?aB ?aS ?aL ?_; (case aP => exact rfl); (case aB => exact (by repeat (first | (with_reducible first | exact HB.out | apply below_alloc | apply pw_below_drewN | apply below_drew1) | exact HB.out))); (case aF => exact (fun k_ hk => Kd.fresh' (Kd.R_lt (by (with_reducible repeat (first | apply Kd.R_alloc | apply Kd.R_drewN | apply Kd.R_drew)); exact HO_11.out)) k_ hk)); (case aO => exact (by (with_reducible repeat (first | apply Kd.R_alloc | apply Kd.R_drewN | apply Kd.R_drew)); exact HO_13.out)); (case aS => exact (below_size (by repeat (first | (with_reducible first | exact HB.out | apply below_alloc | apply pw_below_drewN | apply below_drew1) | exact HB.out)))); (case aL => have := LMc44.out; omega); intro v177 w45 ho hb hg hat; rw [← Ny176.out] at ho; have n0_ := Aside0.mk (Kd.R_after (ok := (fun _ => True)) (by (with_reducible repeat (first | apply Kd.R_alloc | apply Kd.R_drewN | apply Kd.R_drew)); exact Kd.R_mono HO_11.out (fun _ hk => ⟨trivial, hk⟩)) hg hat); have n1_ := Aside0.mk (Kd.V_afterv (ok := (fun _ => True)) (by (with_reducible repeat (first | apply Kd.V_alloc | apply Kd.V_drewN | apply Kd.V_drew)); exact Kd.V_mono HO_12.out (fun _ hk => ⟨trivial, hk⟩)) hg hat); have n2_ := Aside0.mk (Kd.V_afterv (ok := (fun _ => True)) (by (with_reducible repeat (first | apply Kd.V_alloc | apply Kd.V_drewN | apply Kd.V_drew)); exact Kd.V_mono HO_44.out (fun _ hk => ⟨trivial, hk⟩)) hg hat); have n3_ := Aside0.mk (hb); have n4_ := Aside0.mk (ho); clear HO_11; clear HO_12; clear HO_44; clear HB; clear HO_13; have HO_11 := n0_; have HO_12 := n1_; have HO_44 := n2_; have HB := n3_; have HO178 := n4_; clear n0_ n1_ n2_ n3_ n4_; clear ho hb hg hat))
                          go_roundg k1
                          case measure => have := HK1.out; omega
                          case rel => exact ⟨(y176), (wrap64 (x46_1 + 1)), (by first | rfl | (simp; done) | (simp [*]; done)), H', ⟨by have := HK1.out; omega⟩, ⟨by (with_reducible repeat (first | apply Kd.R_alloc | apply Kd.R_drewN | apply Kd.R_drew)); exact Kd.R_mono HO_11.out (fun _ hk => hk.2)⟩, ⟨by (with_reducible repeat (first | apply Kd.V_alloc | apply Kd.V_drewN | apply Kd.V_drew)); exact Kd.V_mono HO_12.out (fun _ hk => hk.2)⟩, ⟨by (with_reducible repeat (first | apply Kd.R_alloc | apply Kd.R_drewN | apply Kd.R_drew)); exact HO178.out⟩, ⟨by (with_reducible repeat (first | apply Kd.V_alloc | apply Kd.V_drewN | apply Kd.V_drew)); exact Kd.V_mono HO_44.out (fun _ hk => hk.2)⟩, ⟨by repeat (first | (with_reducible first | exact HB.out | apply below_alloc | apply pw_below_drewN | apply below_drew1) | exact HB.out)⟩⟩
                        · rw [if_neg c44] at H
                          exact absurd H (by simp)
                    · rw [if_neg c31] at H
                      exact absurd H (by simp)
                  · rw [if_neg c30] at H
                    exact absurd H (by simp)
                · rw [if_neg c29] at H
                  have c29b0 : decide (x46_1 < (y152.length : Int)) = false := decide_eq_false c29
                  clear c29
                  by_cases c46 : a1 > 0
                  · rw [if_pos c46] at H
                    have c46b0 : decide (0 < a1) = true := decide_eq_true c46
                    clear c46
                    obtain ⟨y179, hy179⟩ : ∃ y_ : List Int, y_ = (([a4] : List Int)) := ⟨_, rfl⟩
                    replace H : (if 0 ≤ (wrap64 ((t149.length : Int) - a1)) then (if (wrap64 ((t149.length : Int) - a1)) ≤ (t149.length : Int) then ((spec_Join.f k1 (([x13_1, y179, (t149.drop ((wrap64 ((t149.length : Int) - a1)) : Int).toNat)] : List (List Int)))).bind fun t190 => (some t190)) else (none)) else (none)) = some r := by first | (rw [hy179]; with_reducible exact H) | (have H2_ := (Option.bind_some _ _).symm.trans H; rw [hy179]; with_reducible exact H2_) | (have H2_ := (Option.bind_some _ _).symm.trans H; with_reducible exact H2_) | with_reducible exact H | (rw [hy179]; exact H) | exact H
                    have Ny179 := Aside0.mk hy179
                    clear hy179
                    obtain ⟨ji47, hji47⟩ : ∃ j_ : Int, (wrap64 ((t149.length : Int) - a1)) = j_ := ⟨_, rfl⟩
                    obtain rfl : ji47 = ji11 := hji47.symm.trans hji11
                    replace H : (if 0 ≤ (ji47) then (if (ji47) ≤ (t149.length : Int) then ((spec_Join.f k1 (([x13_1, y179, (t149.drop ((ji47) : Int).toNat)] : List (List Int)))).bind fun t190 => (some t190)) else (none)) else (none)) = some r := by first | (rw [hji47] at H; exact H) | (simp only [hji47] at H ⊢; exact H)
                    have hji47w : (IntKind.i64.wrap ((t149.length : Int) - a1)) = ji47 := (i64_w _).trans hji47
                    by_cases c48 : 0 ≤ (ji47)
                    · rw [if_pos c48] at H
                      have c48b0 := eq_true c48
                      have c48b1 : decide (0 ≤ (ji47)) = true := decide_eq_true c48
                      clear c48
                      by_cases c49 : (ji47) ≤ (t149.length : Int)
                      · rw [if_pos c49] at H
                        have c49b0 := eq_true c49
                        have c49b1 : decide ((ji47) ≤ (t149.length : Int)) = true := decide_eq_true c49
                        clear c49
                        obtain ⟨y182, hy182⟩ : ∃ y_ : List Int, y_ = (t149.drop ((ji47) : Int).toNat) := ⟨_, rfl⟩
                        replace H : ((spec_Join.f k1 (([x13_1, y179, y182] : List (List Int)))).bind fun t190 => (some t190)) = some r := by first | (rw [hy182]; with_reducible exact H) | (have H2_ := (Option.bind_some _ _).symm.trans H; rw [hy182]; with_reducible exact H2_) | (have H2_ := (Option.bind_some _ _).symm.trans H; with_reducible exact H2_) | with_reducible exact H | (rw [hy182]; exact H) | exact H
                        have Ny182 := Aside0.mk hy182
                        clear hy182
                        obtain ⟨y187, hy187⟩ : ∃ y_ : List (List Int), y_ = (([x13_1, y179, y182] : List (List Int))) := ⟨_, rfl⟩
                        replace H : ((spec_Join.f k1 y187).bind fun t190 => (some t190)) = some r := by first | (rw [hy187]; with_reducible exact H) | (have H2_ := (Option.bind_some _ _).symm.trans H; rw [hy187]; with_reducible exact H2_) | (have H2_ := (Option.bind_some _ _).symm.trans H; with_reducible exact H2_) | with_reducible exact H | (rw [hy187]; exact H) | exact H
                        have Ny187 := Aside0.mk hy187
                        clear hy187
                        replace H := Option.bind_eq_some_iff.mp H
                        obtain ⟨t190, A500, H⟩ := H
                        replace H : (some t190) = some r := H
                        have A50 := Aside0.mk A500
                        clear A500
                        obtain rfl := Option.some.inj H
                        go_wp2_with (first | ((with_reducible refine gate_dst (N := 79) rfl ?_); (try (refine gate_guard (by rfl) ?_; dsimp only)); refine Kd.R_lit (Kd.int .u8) _ 5 ?hg (N := 79) ?hd (xs := ([a4] : List Int)) (inner := [.int .u8 a4]) (ok := fun _ => True) (okp := fun _ => True) ?hr ?hp (fun _ hk => hk) trivial (Below.refl _ _) (Nat.le_refl _) (by simp) ?_; (case hd => rfl); (case hg => rfl); (case hr => first | (go_simp; done) | (go_simp; rfl)); (case hp => exact (Reps.one (show Kd.M (Kd.int .u8) _ _ _ a4 [.int .u8 a4] from rfl) (Reps.none _ _))); intro v180 w51 ho52 hb hg_ hnew_; clear hg_ hnew_; (first | rw [← Ny179.out] at ho52 | (simp only [Int.reduceToNat] at ho52; rw [← Ny179.out] at ho52)); have n0_ := Aside0.mk (Kd.R_elder' (by (with_reducible repeat (first | apply Kd.R_alloc | apply Kd.R_drewN | apply Kd.R_drew)); exact HO_11.out) (Kd.R_base ho52) hb); have n1_ := Aside0.mk (Kd.V_elder' (by (with_reducible repeat (first | apply Kd.V_alloc | apply Kd.V_drewN | apply Kd.V_drew)); exact HO_12.out) (Kd.R_base ho52) hb); have n2_ := Aside0.mk (Kd.R_elder' (by (with_reducible repeat (first | apply Kd.R_alloc | apply Kd.R_drewN | apply Kd.R_drew)); exact HO_13.out) (Kd.R_base ho52) hb); have n3_ := Aside0.mk (Kd.V_elder' (by (with_reducible repeat (first | apply Kd.V_alloc | apply Kd.V_drewN | apply Kd.V_drew)); exact HO_44.out) (Kd.R_base ho52) hb); have n4_ := Aside0.mk (Kd.R_lower (Kd.R_new' (Kd.R_new' ho52 (Kd.R_lt (by (with_reducible repeat (first | apply Kd.R_alloc | apply Kd.R_drewN | apply Kd.R_drew)); exact HO_11.out))) (Kd.R_lt (by (with_reducible repeat (first | apply Kd.R_alloc | apply Kd.R_drewN | apply Kd.R_drew)); exact HO_13.out))) (below_size (by repeat (first | (with_reducible first | exact HB.out | apply below_alloc | apply pw_below_drewN | apply below_drew1) | exact HB.out)))); have n5_ := Aside0.mk (below_step (by repeat (first | (with_reducible first | exact HB.out | apply below_alloc | apply pw_below_drewN | apply below_drew1) | exact HB.out)) hb); clear HO_11; clear HO_12; clear HO_13; clear HO_44; clear HB; have HO_11 := n0_; have HO_12 := n1_; have HO_13 := n2_; have HO_44 := n3_; have HO181 := n4_; have HB := n5_; clear n0_ n1_ n2_ n3_ n4_ n5_; clear hb ho52; have q53 : ((ji47) : Int) ≤ ((t149.length : Int) : Int) := of_decide_eq_true (by first | (with_reducible assumption) | assumption); obtain ⟨i053, hi053, _, hsz53, _⟩ := info_parts info5; have hroom53 : t149.length ≤ co24 := (Kd.R_reads' HO_11.out).2.1; have hC53 : Kd.F (Kd.int .u8) _ _ Ao24 t149.length t149 := (Kd.V_at (base := w.heap.size) (Kd.R_V HO_11.out)).2.2; have q053 : (0 : Int) ≤ ((ji47) : Int) := of_decide_eq_true (by first | (with_reducible assumption) | assumption); have hcut53 := cut_from (P := Try.prog) 22 5 .i64 Try.underlying22 hi053 1 hsz53 Ao24 t149.length co24 (ji47) q053 q53; have hr53 := Kd.F_cut (m := ((ji47) : Int).toNat) (c := co24) hC53 (by omega) hroom53; obtain ⟨A53, hA53⟩ : ∃ Aq_, Aq_ = (if co24 = ((ji47) : Int).toNat then Ao24 else (Ao24 : Option Addr).map (·.add (((ji47) : Int).toNat * 1))) := ⟨_, rfl⟩; obtain ⟨c53, hc53⟩ : ∃ cq_, cq_ = co24 - ((ji47) : Int).toNat := ⟨_, rfl⟩; have hy53 : y182.length = t149.length - ((ji47) : Int).toNat := (by rw [Ny182.out, List.length_drop] <;> omega); rw [show (t149).drop ((ji47) : Int).toNat = y182 from Ny182.out.symm] at hr53; replace hr53 : Kd.F (Kd.int .u8) _ _ A53 y182.length y182 := (by rw [hA53]; exact hr53); rw [← hy53, ← hA53, ← hc53] at hcut53; have HO186 := Aside0.mk (show Kd.V (Kd.int .u8) 5 _ w.heap.size _ (.slice A53 y182.length c53) y182 from Kd.V_mk (by rw [hy53, hc53]; exact Nat.sub_le_sub_right hroom53 _) hr53); have HC186 := Aside0.mk (show y182.length ≤ c53 from by rw [hy53, hc53]; exact Nat.sub_le_sub_right hroom53 _); clear hr53 hC53 hroom53 hi053 hsz53 hc53; have KY53 := Aside0.mk hy53; have KA53 := Aside0.mk hA53; clear hy53 hA53; replace q53 := eq_true q53; obtain ⟨Ao54, co54, eo54⟩ := Kd.R_slice HO_13.out; subst eo54; obtain ⟨Ao55, co55, eo55⟩ := Kd.R_slice HO181.out; subst eo55) | ((with_reducible refine gate_dst (N := 86) rfl ?_); (try (refine gate_guard (by rfl) ?_; dsimp only)); refine Kd.N_lit (Kd.slice 5 (Kd.int .u8)) _ 22 ?hg (N' := 86) ?hd (xs := ([x13_1, y179, y182] : List (List Int))) (inner := [.slice Ao54 x13_1.length co54, .slice Ao55 y179.length co55, .slice A53 y182.length c53]) (ok := (fun _ => True)) (okp := (fun _ => True)) ?hr ?hp (fun _ hk => hk) ((show ∀ k_, w51.heap.size ≤ k_ → (fun _ => True) k_ from fun k_ hk => trivial) _ (Nat.le_refl _)) (Below.refl _ _) (Nat.le_refl _) (by simp) ?_; (case hd => rfl); (case hg => rfl); (case hr => first | (go_simp; done) | (go_simp; rfl)); (case hp => first | exact (Reps.one (show Kd.FK (Kd.slice 5 (Kd.int .u8)) _ _ x13_1 [.slice Ao54 x13_1.length co54] from (Kd.FK_slice_mk (Kd.R_reads' (Kd.R_mono (ok' := (fun _ => True)) (HO_13.out) (fun k_ hk => trivial))).2.1 (Kd.R_F (Kd.R_mono (ok' := (fun _ => True)) (HO_13.out) (fun k_ hk => trivial))))) (Reps.one (show Kd.FK (Kd.slice 5 (Kd.int .u8)) _ _ y179 [.slice Ao55 y179.length co55] from (Kd.FK_slice_mk (Kd.R_reads' (Kd.R_mono (ok' := (fun _ => True)) (HO181.out) (fun k_ hk => trivial))).2.1 (Kd.R_F (Kd.R_mono (ok' := (fun _ => True)) (HO181.out) (fun k_ hk => trivial))))) (Reps.one (show Kd.FK (Kd.slice 5 (Kd.int .u8)) _ _ y182 [.slice A53 y182.length c53] from (Kd.FK_slice_mk (Kd.V_reads' (Kd.V_mono (ok' := (fun _ => True)) (HO186.out) (fun k_ hk => trivial))).2.1 (Kd.V_F (Kd.V_mono (ok' := (fun _ => True)) (HO186.out) (fun k_ hk => trivial))))) (Reps.none _ _)))) | exact (Reps.one (show Kd.FK (Kd.slice 5 (Kd.int .u8)) _ _ x13_1 [.slice Ao54 x13_1.length co54] from (Kd.FK_slice_mk (Kd.R_reads' (Kd.R_mono (ok' := (fun _ => True)) (HO_13.out) (fun k_ hk => trivial))).2.1 (Kd.R_F (Kd.R_mono (ok' := (fun _ => True)) ((Kd.R_drewN HO_13.out _)) (fun k_ hk => trivial))))) (Reps.one (show Kd.FK (Kd.slice 5 (Kd.int .u8)) _ _ y179 [.slice Ao55 y179.length co55] from (Kd.FK_slice_mk (Kd.R_reads' (Kd.R_mono (ok' := (fun _ => True)) (HO181.out) (fun k_ hk => trivial))).2.1 (Kd.R_F (Kd.R_mono (ok' := (fun _ => True)) ((Kd.R_drewN HO181.out _)) (fun k_ hk => trivial))))) (Reps.one (show Kd.FK (Kd.slice 5 (Kd.int .u8)) _ _ y182 [.slice A53 y182.length c53] from (Kd.FK_slice_mk (Kd.V_reads' (Kd.V_mono (ok' := (fun _ => True)) (HO186.out) (fun k_ hk => trivial))).2.1 (Kd.V_F (Kd.V_mono (ok' := (fun _ => True)) ((Kd.V_drewN HO186.out _)) (fun k_ hk => trivial))))) (Reps.none _ _)))) | exact (Reps.one (show Kd.FK (Kd.slice 5 (Kd.int .u8)) _ _ x13_1 [.slice Ao54 x13_1.length co54] from (Kd.FK_slice_mk (Kd.R_reads' (Kd.R_mono (ok' := (fun _ => True)) (HO_13.out) (fun k_ hk => trivial))).2.1 (Kd.R_F (Kd.R_mono (ok' := (fun _ => True)) ((Kd.R_alloc HO_13.out _)) (fun k_ hk => trivial))))) (Reps.one (show Kd.FK (Kd.slice 5 (Kd.int .u8)) _ _ y179 [.slice Ao55 y179.length co55] from (Kd.FK_slice_mk (Kd.R_reads' (Kd.R_mono (ok' := (fun _ => True)) (HO181.out) (fun k_ hk => trivial))).2.1 (Kd.R_F (Kd.R_mono (ok' := (fun _ => True)) ((Kd.R_alloc HO181.out _)) (fun k_ hk => trivial))))) (Reps.one (show Kd.FK (Kd.slice 5 (Kd.int .u8)) _ _ y182 [.slice A53 y182.length c53] from (Kd.FK_slice_mk (Kd.V_reads' (Kd.V_mono (ok' := (fun _ => True)) (HO186.out) (fun k_ hk => trivial))).2.1 (Kd.V_F (Kd.V_mono (ok' := (fun _ => True)) ((Kd.V_alloc HO186.out _)) (fun k_ hk => trivial))))) (Reps.none _ _)))) | exact (Reps.one (show Kd.FK (Kd.slice 5 (Kd.int .u8)) _ _ x13_1 [.slice Ao54 x13_1.length co54] from (Kd.FK_slice_mk (Kd.R_reads' (Kd.R_mono (ok' := (fun _ => True)) (HO_13.out) (fun k_ hk => trivial))).2.1 (Kd.R_F (Kd.R_mono (ok' := (fun _ => True)) ((by (with_reducible repeat (first | apply Kd.R_alloc | apply Kd.R_drewN | apply Kd.R_drew)); exact HO_13.out)) (fun k_ hk => trivial))))) (Reps.one (show Kd.FK (Kd.slice 5 (Kd.int .u8)) _ _ y179 [.slice Ao55 y179.length co55] from (Kd.FK_slice_mk (Kd.R_reads' (Kd.R_mono (ok' := (fun _ => True)) (HO181.out) (fun k_ hk => trivial))).2.1 (Kd.R_F (Kd.R_mono (ok' := (fun _ => True)) ((by (with_reducible repeat (first | apply Kd.R_alloc | apply Kd.R_drewN | apply Kd.R_drew)); exact HO181.out)) (fun k_ hk => trivial))))) (Reps.one (show Kd.FK (Kd.slice 5 (Kd.int .u8)) _ _ y182 [.slice A53 y182.length c53] from (Kd.FK_slice_mk (Kd.V_reads' (Kd.V_mono (ok' := (fun _ => True)) (HO186.out) (fun k_ hk => trivial))).2.1 (Kd.V_F (Kd.V_mono (ok' := (fun _ => True)) ((by (with_reducible repeat (first | apply Kd.V_alloc | apply Kd.V_drewN | apply Kd.V_drew)); exact HO186.out)) (fun k_ hk => trivial))))) (Reps.none _ _))))); intro v188 w56 ho57 hb hg_ hnew_; clear hg_ hnew_; (first | rw [← Ny187.out] at ho57 | (simp only [Int.reduceToNat] at ho57; rw [← Ny187.out] at ho57)); have n0_ := Aside0.mk (Kd.R_below (by (with_reducible repeat (first | apply Kd.R_alloc | apply Kd.R_drewN | apply Kd.R_drew)); exact HO_11.out) hb); have n1_ := Aside0.mk (Kd.V_elder' (by (with_reducible repeat (first | apply Kd.V_alloc | apply Kd.V_drewN | apply Kd.V_drew)); exact HO_12.out) (Kd.N_base ho57) hb); have n2_ := Aside0.mk (Kd.R_below (by (with_reducible repeat (first | apply Kd.R_alloc | apply Kd.R_drewN | apply Kd.R_drew)); exact HO_13.out) hb); have n3_ := Aside0.mk (Kd.V_elder' (by (with_reducible repeat (first | apply Kd.V_alloc | apply Kd.V_drewN | apply Kd.V_drew)); exact HO_44.out) (Kd.N_base ho57) hb); have n4_ := Aside0.mk (Kd.R_below (by (with_reducible repeat (first | apply Kd.R_alloc | apply Kd.R_drewN | apply Kd.R_drew)); exact HO181.out) hb); have n5_ := Aside0.mk (Kd.V_elder' (by (with_reducible repeat (first | apply Kd.V_alloc | apply Kd.V_drewN | apply Kd.V_drew)); exact HO186.out) (Kd.N_base ho57) hb); have n6_ := Aside0.mk (Kd.N_lower ho57 (below_size (by repeat (first | (with_reducible first | exact HB.out | apply below_alloc | apply pw_below_drewN | apply below_drew1) | exact HB.out)))); have n7_ := Aside0.mk (below_step (by repeat (first | (with_reducible first | exact HB.out | apply below_alloc | apply pw_below_drewN | apply below_drew1) | exact HB.out)) hb); clear HO_11; clear HO_12; clear HO_13; clear HO_44; clear HO181; clear HO186; clear HB; have HO_11 := n0_; have HO_12 := n1_; have HO_13 := n2_; have HO_44 := n3_; have HO181 := n4_; have HO186 := n5_; have HO189 := n6_; have HB := n7_; clear n0_ n1_ n2_ n3_ n4_ n5_ n6_ n7_; clear hb ho57; obtain ⟨Ao58, co58, eo58⟩ := Kd.N_slice HO189.out; subst eo58) | ((with_reducible refine gate_callee (f := 8) rfl ?_); refine goesL_ (some 87) rfl rfl Try.func8 (by kernel_rfl) rfl #[.slice Ao58 y187.length co58] rfl (by (try simp only [List.map_toArray, List.map_cons, List.map_nil]); first | done | rfl | (simp only [List.length_drop, List.length_take]; rfl)) ?_; (with_reducible refine (spec_Join.calls k1 _ _ y187 t190 _ ?side1 ?side2 A50.out).mono ?_); (case side1 => repeat (first | exact (Kd.N_reads' HO189.out).2.2 | (with_reducible refine Kd.C_alloc ?_ _) | (with_reducible refine Kd.C_drewN ?_ _) | (with_reducible refine Kd.C_drew ?_))); (case side2 => exact (Kd.N_reads' HO189.out).2.1); rintro e w59 ⟨v191, rfl, ho0, hb⟩; refine ⟨_, rfl, ?_⟩; have n0_ := Aside0.mk (Kd.R_elder' (by (with_reducible repeat (first | apply Kd.R_alloc | apply Kd.R_drewN | apply Kd.R_drew)); exact HO_11.out) (Kd.R_base ho0) hb); have n1_ := Aside0.mk (Kd.V_elder' (by (with_reducible repeat (first | apply Kd.V_alloc | apply Kd.V_drewN | apply Kd.V_drew)); exact HO_12.out) (Kd.R_base ho0) hb); have n2_ := Aside0.mk (Kd.R_elder' (by (with_reducible repeat (first | apply Kd.R_alloc | apply Kd.R_drewN | apply Kd.R_drew)); exact HO_13.out) (Kd.R_base ho0) hb); have n3_ := Aside0.mk (Kd.V_elder' (by (with_reducible repeat (first | apply Kd.V_alloc | apply Kd.V_drewN | apply Kd.V_drew)); exact HO_44.out) (Kd.R_base ho0) hb); have n4_ := Aside0.mk (Kd.R_elder' (by (with_reducible repeat (first | apply Kd.R_alloc | apply Kd.R_drewN | apply Kd.R_drew)); exact HO181.out) (Kd.R_base ho0) hb); have n5_ := Aside0.mk (Kd.V_elder' (by (with_reducible repeat (first | apply Kd.V_alloc | apply Kd.V_drewN | apply Kd.V_drew)); exact HO186.out) (Kd.R_base ho0) hb); have n6_ := Aside0.mk (Kd.N_elder' (by (with_reducible repeat (first | apply Kd.N_alloc | apply Kd.N_drewN | apply Kd.N_drew)); exact HO189.out) (Kd.R_base ho0) hb); have n7_ := Aside0.mk (Kd.R_lower (Kd.R_new' (Kd.R_new' (Kd.R_new' ho0 (Kd.R_lt (by (with_reducible repeat (first | apply Kd.R_alloc | apply Kd.R_drewN | apply Kd.R_drew)); exact HO_11.out))) (Kd.R_lt (by (with_reducible repeat (first | apply Kd.R_alloc | apply Kd.R_drewN | apply Kd.R_drew)); exact HO_13.out))) (Kd.R_lt (by (with_reducible repeat (first | apply Kd.R_alloc | apply Kd.R_drewN | apply Kd.R_drew)); exact HO181.out))) (below_size (by repeat (first | (with_reducible first | exact HB.out | apply below_alloc | apply pw_below_drewN | apply below_drew1) | exact HB.out)))); have n8_ := Aside0.mk (below_step (by repeat (first | (with_reducible first | exact HB.out | apply below_alloc | apply pw_below_drewN | apply below_drew1) | exact HB.out)) hb); clear HO_11; clear HO_12; clear HO_13; clear HO_44; clear HO181; clear HO186; clear HO189; clear HB; have HO_11 := n0_; have HO_12 := n1_; have HO_13 := n2_; have HO_44 := n3_; have HO181 := n4_; have HO186 := n5_; have HO189 := n6_; have HO192 := n7_; have HB := n8_; clear n0_ n1_ n2_ n3_ n4_ n5_ n6_ n7_ n8_; (try clear hb); (try clear hb2); (try clear hk); (try clear hi); (try clear ho0)))
                        go_ret
                        exact ⟨_, by first | rfl | (simp [errW_none, errW_some] <;> rfl) | (simp only [← hji11, ← hji47]; first | rfl | (simp [errW_none, errW_some] <;> rfl)) | (simp [*, errW_none, errW_some] <;> rfl), by (with_reducible repeat (first | apply Kd.R_alloc | apply Kd.R_drewN | apply Kd.R_drew)); exact Kd.R_mono HO192.out (fun _ hk => trivial), by repeat (first | (with_reducible first | exact HB.out | apply below_alloc | apply pw_below_drewN | apply below_drew1) | exact HB.out)⟩
                      · rw [if_neg c49] at H
                        exact absurd H (by simp)
                    · rw [if_neg c48] at H
                      exact absurd H (by simp)
                  · rw [if_neg c46] at H
                    have c46b0 : decide (0 < a1) = false := decide_eq_false c46
                    clear c46
                    obtain rfl := Option.some.inj H
                    go_wp2
                    go_ret
                    exact ⟨_, by first | rfl | (simp [errW_none, errW_some] <;> rfl) | (simp only [← hji11]; first | rfl | (simp [errW_none, errW_some] <;> rfl)) | (simp [*, errW_none, errW_some] <;> rfl), by (with_reducible repeat (first | apply Kd.R_alloc | apply Kd.R_drewN | apply Kd.R_drew)); exact Kd.R_mono HO_13.out (fun _ hk => trivial), by repeat (first | (with_reducible first | exact HB.out | apply below_alloc | apply pw_below_drewN | apply below_drew1) | exact HB.out)⟩
          · rw [if_neg c15] at H
            exact absurd H (by simp)
        · rw [if_neg c14] at H
          have c14b0 : decide (a0 < 0) = false := decide_eq_false c14
          clear c14
          have H' := Aside0.mk H
          clear H
          go_enter Try.func9, Try.ntmps9
          go_wp2_with (first | ((with_reducible refine gate_callee (f := 14) rfl ?_); refine goesL_ (some 17) rfl rfl Try.func14 (by kernel_rfl) rfl #[.int .i64 a0] rfl (by (try simp only [List.map_toArray, List.map_cons, List.map_nil]); first | done | rfl | (simp only [List.length_drop, List.length_take]; rfl)) ?_; (with_reducible refine (spec_size.calls a0 t139 _ A6.out).mono ?_); rintro e w' ⟨rfl, ⟨nd, rfl⟩⟩; refine ⟨_, rfl, ?_⟩) | ((with_reducible refine gate_callee (f := 13) rfl ?_); refine goesL_ (some 18) rfl rfl Try.func13 (by kernel_rfl) rfl #[.int .u64 t139] rfl (by (try simp only [List.map_toArray, List.map_cons, List.map_nil]); first | done | rfl | (simp only [List.length_drop, List.length_take]; rfl)) ?_; (with_reducible refine (spec_Digits.calls k t139 t140 _ A7.out).mono ?_); rintro e w60 ⟨v141, rfl, ho0, hb⟩; refine ⟨_, rfl, ?_⟩; have n0_ := Aside0.mk (Kd.R_lower ho0 (below_size (by repeat (first | (with_reducible first | exact HB.out | apply below_alloc | apply pw_below_drewN | apply below_drew1) | exact HB.out)))); have n1_ := Aside0.mk (below_step (by repeat (first | (with_reducible first | exact HB.out | apply below_alloc | apply pw_below_drewN | apply below_drew1) | exact HB.out)) hb); clear HB; have HO142 := n0_; have HB := n1_; clear n0_ n1_; (try clear hb); (try clear hb2); (try clear hk); (try clear hi); (try clear ho0); obtain ⟨Ao61, co61, eo61⟩ := Kd.R_slice HO142.out; subst eo61) | ((with_reducible refine gate_callee (f := 15) rfl ?_); refine goesL_ (some 28) rfl rfl Try.func15 (by kernel_rfl) rfl #[.int .i64 (wrap64 ((wrap64 (a1 + 1)) - (t140.length : Int)))] rfl (by (try simp only [List.map_toArray, List.map_cons, List.map_nil]); first | done | rfl | (simp only [List.length_drop, List.length_take]; rfl)) ?_; (with_reducible refine (spec_Zeros.calls k (wrap64 ((wrap64 (a1 + 1)) - (t140.length : Int))) t143 _ A9.out).mono ?_); rintro e w62 ⟨v144, rfl, ho0, hb⟩; refine ⟨_, rfl, ?_⟩; have n0_ := Aside0.mk (Kd.R_elder' (by (with_reducible repeat (first | apply Kd.R_alloc | apply Kd.R_drewN | apply Kd.R_drew)); exact HO142.out) (Kd.R_base ho0) hb); have n1_ := Aside0.mk (Kd.R_lower (Kd.R_new' ho0 (Kd.R_lt (by (with_reducible repeat (first | apply Kd.R_alloc | apply Kd.R_drewN | apply Kd.R_drew)); exact HO142.out))) (below_size (by repeat (first | (with_reducible first | exact HB.out | apply below_alloc | apply pw_below_drewN | apply below_drew1) | exact HB.out)))); have n2_ := Aside0.mk (below_step (by repeat (first | (with_reducible first | exact HB.out | apply below_alloc | apply pw_below_drewN | apply below_drew1) | exact HB.out)) hb); clear HO142; clear HB; have HO142 := n0_; have HO145 := n1_; have HB := n2_; clear n0_ n1_ n2_; (try clear hb); (try clear hb2); (try clear hk); (try clear hi); (try clear ho0); obtain ⟨Ao63, co63, eo63⟩ := Kd.R_slice HO145.out; subst eo63) | ((with_reducible refine gate_dst (N := 30) rfl ?_); (try (refine gate_guard (by rfl) ?_; dsimp only)); refine Kd.N_lit (Kd.slice 5 (Kd.int .u8)) _ 22 ?hg (N' := 30) ?hd (xs := ([t143, t140] : List (List Int))) (inner := [.slice Ao63 t143.length co63, .slice Ao61 t140.length co61]) (ok := (fun _ => True)) (okp := (fun _ => True)) ?hr ?hp (fun _ hk => hk) ((show ∀ k_, w62.heap.size ≤ k_ → (fun _ => True) k_ from fun k_ hk => trivial) _ (Nat.le_refl _)) (Below.refl _ _) (Nat.le_refl _) (by simp) ?_; (case hd => rfl); (case hg => rfl); (case hr => first | (go_simp; done) | (go_simp; rfl)); (case hp => first | exact (Reps.one (show Kd.FK (Kd.slice 5 (Kd.int .u8)) _ _ t143 [.slice Ao63 t143.length co63] from (Kd.FK_slice_mk (Kd.R_reads' (Kd.R_mono (ok' := (fun _ => True)) (HO145.out) (fun k_ hk => trivial))).2.1 (Kd.R_F (Kd.R_mono (ok' := (fun _ => True)) (HO145.out) (fun k_ hk => trivial))))) (Reps.one (show Kd.FK (Kd.slice 5 (Kd.int .u8)) _ _ t140 [.slice Ao61 t140.length co61] from (Kd.FK_slice_mk (Kd.R_reads' (Kd.R_mono (ok' := (fun _ => True)) (HO142.out) (fun k_ hk => trivial))).2.1 (Kd.R_F (Kd.R_mono (ok' := (fun _ => True)) (HO142.out) (fun k_ hk => trivial))))) (Reps.none _ _))) | exact (Reps.one (show Kd.FK (Kd.slice 5 (Kd.int .u8)) _ _ t143 [.slice Ao63 t143.length co63] from (Kd.FK_slice_mk (Kd.R_reads' (Kd.R_mono (ok' := (fun _ => True)) (HO145.out) (fun k_ hk => trivial))).2.1 (Kd.R_F (Kd.R_mono (ok' := (fun _ => True)) ((Kd.R_drewN HO145.out _)) (fun k_ hk => trivial))))) (Reps.one (show Kd.FK (Kd.slice 5 (Kd.int .u8)) _ _ t140 [.slice Ao61 t140.length co61] from (Kd.FK_slice_mk (Kd.R_reads' (Kd.R_mono (ok' := (fun _ => True)) (HO142.out) (fun k_ hk => trivial))).2.1 (Kd.R_F (Kd.R_mono (ok' := (fun _ => True)) ((Kd.R_drewN HO142.out _)) (fun k_ hk => trivial))))) (Reps.none _ _))) | exact (Reps.one (show Kd.FK (Kd.slice 5 (Kd.int .u8)) _ _ t143 [.slice Ao63 t143.length co63] from (Kd.FK_slice_mk (Kd.R_reads' (Kd.R_mono (ok' := (fun _ => True)) (HO145.out) (fun k_ hk => trivial))).2.1 (Kd.R_F (Kd.R_mono (ok' := (fun _ => True)) ((Kd.R_alloc HO145.out _)) (fun k_ hk => trivial))))) (Reps.one (show Kd.FK (Kd.slice 5 (Kd.int .u8)) _ _ t140 [.slice Ao61 t140.length co61] from (Kd.FK_slice_mk (Kd.R_reads' (Kd.R_mono (ok' := (fun _ => True)) (HO142.out) (fun k_ hk => trivial))).2.1 (Kd.R_F (Kd.R_mono (ok' := (fun _ => True)) ((Kd.R_alloc HO142.out _)) (fun k_ hk => trivial))))) (Reps.none _ _))) | exact (Reps.one (show Kd.FK (Kd.slice 5 (Kd.int .u8)) _ _ t143 [.slice Ao63 t143.length co63] from (Kd.FK_slice_mk (Kd.R_reads' (Kd.R_mono (ok' := (fun _ => True)) (HO145.out) (fun k_ hk => trivial))).2.1 (Kd.R_F (Kd.R_mono (ok' := (fun _ => True)) ((by (with_reducible repeat (first | apply Kd.R_alloc | apply Kd.R_drewN | apply Kd.R_drew)); exact HO145.out)) (fun k_ hk => trivial))))) (Reps.one (show Kd.FK (Kd.slice 5 (Kd.int .u8)) _ _ t140 [.slice Ao61 t140.length co61] from (Kd.FK_slice_mk (Kd.R_reads' (Kd.R_mono (ok' := (fun _ => True)) (HO142.out) (fun k_ hk => trivial))).2.1 (Kd.R_F (Kd.R_mono (ok' := (fun _ => True)) ((by (with_reducible repeat (first | apply Kd.R_alloc | apply Kd.R_drewN | apply Kd.R_drew)); exact HO142.out)) (fun k_ hk => trivial))))) (Reps.none _ _)))); intro v147 w64 ho65 hb hg_ hnew_; clear hg_ hnew_; (first | rw [← Ny146.out] at ho65 | (simp only [Int.reduceToNat] at ho65; rw [← Ny146.out] at ho65)); have n0_ := Aside0.mk (Kd.R_below (by (with_reducible repeat (first | apply Kd.R_alloc | apply Kd.R_drewN | apply Kd.R_drew)); exact HO142.out) hb); have n1_ := Aside0.mk (Kd.R_below (by (with_reducible repeat (first | apply Kd.R_alloc | apply Kd.R_drewN | apply Kd.R_drew)); exact HO145.out) hb); have n2_ := Aside0.mk (Kd.N_lower ho65 (below_size (by repeat (first | (with_reducible first | exact HB.out | apply below_alloc | apply pw_below_drewN | apply below_drew1) | exact HB.out)))); have n3_ := Aside0.mk (below_step (by repeat (first | (with_reducible first | exact HB.out | apply below_alloc | apply pw_below_drewN | apply below_drew1) | exact HB.out)) hb); clear HO142; clear HO145; clear HB; have HO142 := n0_; have HO145 := n1_; have HO148 := n2_; have HB := n3_; clear n0_ n1_ n2_ n3_; clear hb ho65; obtain ⟨Ao66, co66, eo66⟩ := Kd.N_slice HO148.out; subst eo66) | ((with_reducible refine gate_callee (f := 8) rfl ?_); refine goesL_ (some 31) rfl rfl Try.func8 (by kernel_rfl) rfl #[.slice Ao66 y146.length co66] rfl (by (try simp only [List.map_toArray, List.map_cons, List.map_nil]); first | done | rfl | (simp only [List.length_drop, List.length_take]; rfl)) ?_; (with_reducible refine (spec_Join.calls k _ _ y146 t149 _ ?side1 ?side2 A10.out).mono ?_); (case side1 => repeat (first | exact (Kd.N_reads' HO148.out).2.2 | (with_reducible refine Kd.C_alloc ?_ _) | (with_reducible refine Kd.C_drewN ?_ _) | (with_reducible refine Kd.C_drew ?_))); (case side2 => exact (Kd.N_reads' HO148.out).2.1); rintro e w67 ⟨v150, rfl, ho0, hb⟩; refine ⟨_, rfl, ?_⟩; have n0_ := Aside0.mk (Kd.R_elder' (by (with_reducible repeat (first | apply Kd.R_alloc | apply Kd.R_drewN | apply Kd.R_drew)); exact HO142.out) (Kd.R_base ho0) hb); have n1_ := Aside0.mk (Kd.R_elder' (by (with_reducible repeat (first | apply Kd.R_alloc | apply Kd.R_drewN | apply Kd.R_drew)); exact HO145.out) (Kd.R_base ho0) hb); have n2_ := Aside0.mk (Kd.N_elder' (by (with_reducible repeat (first | apply Kd.N_alloc | apply Kd.N_drewN | apply Kd.N_drew)); exact HO148.out) (Kd.R_base ho0) hb); have n3_ := Aside0.mk (Kd.R_lower (Kd.R_new' (Kd.R_new' ho0 (Kd.R_lt (by (with_reducible repeat (first | apply Kd.R_alloc | apply Kd.R_drewN | apply Kd.R_drew)); exact HO142.out))) (Kd.R_lt (by (with_reducible repeat (first | apply Kd.R_alloc | apply Kd.R_drewN | apply Kd.R_drew)); exact HO145.out))) (below_size (by repeat (first | (with_reducible first | exact HB.out | apply below_alloc | apply pw_below_drewN | apply below_drew1) | exact HB.out)))); have n4_ := Aside0.mk (below_step (by repeat (first | (with_reducible first | exact HB.out | apply below_alloc | apply pw_below_drewN | apply below_drew1) | exact HB.out)) hb); clear HO142; clear HO145; clear HO148; clear HB; have HO142 := n0_; have HO145 := n1_; have HO148 := n2_; have HO151 := n3_; have HB := n4_; clear n0_ n1_ n2_ n3_ n4_; (try clear hb); (try clear hb2); (try clear hk); (try clear hi); (try clear ho0); obtain ⟨Ao68, co68, eo68⟩ := Kd.R_slice HO151.out; subst eo68; have q69 : ((ji11) : Int) ≤ ((t149.length : Int) : Int) := of_decide_eq_true (by first | (with_reducible assumption) | assumption); obtain ⟨i069, hi069, _, hsz69, _⟩ := info_parts info5; have hroom69 : t149.length ≤ co68 := (Kd.R_reads' HO151.out).2.1; have hC69 : Kd.F (Kd.int .u8) _ _ Ao68 t149.length t149 := (Kd.V_at (base := w.heap.size) (Kd.R_V (Kd.R_apart' (HO151.out) (Kd.N_typed HO148.out) (by decide)))).2.2; have hcut69 := cut_to (P := Try.prog) 22 5 .i64 Try.underlying22 hi069 Ao68 t149.length co68 (ji11) (of_decide_eq_true (by first | (with_reducible assumption) | assumption)) q69 hroom69; have hr69 := Kd.F_take (m := ((ji11) : Int).toNat) hC69 (by omega); have hy69 : y152.length = ((ji11) : Int).toNat := (by rw [Ny152.out, List.length_take]; omega); rw [← Ny152.out] at hr69; rw [← hy69] at hcut69; have HO156 := Aside0.mk (show Kd.V (Kd.int .u8) 5 _ w.heap.size _ (.slice Ao68 y152.length co68) y152 from Kd.V_mk (by omega) hr69); have HC156 := Aside0.mk (show y152.length ≤ co68 from by omega); clear hr69 hC69 hroom69 hi069 hsz69; have KY69 := Aside0.mk hy69; clear hy69; replace q69 := eq_true q69) | ((with_reducible refine gate_dst (N := 38) rfl ?_); (try (refine gate_guard (by rfl) ?_; dsimp only)); refine Kd.R_lit (Kd.int .u8) _ 5 ?hg (N := 38) ?hd (xs := ([] : List Int)) (inner := []) (ok := fun _ => True) (okp := fun _ => True) ?hr ?hp (fun _ hk => hk) trivial (Below.refl _ _) (Nat.le_refl _) (by simp) ?_; (case hd => rfl); (case hg => rfl); (case hr => first | (go_simp; done) | (go_simp; rfl)); (case hp => exact (Reps.none _ _)); intro v158 w70 ho71 hb hg_ hnew_; clear hg_ hnew_; (first | rw [← Ny157.out] at ho71 | (simp only [Int.reduceToNat] at ho71; rw [← Ny157.out] at ho71)); have n0_ := Aside0.mk (Kd.R_elder' (by (with_reducible repeat (first | apply Kd.R_alloc | apply Kd.R_drewN | apply Kd.R_drew)); exact HO142.out) (Kd.R_base ho71) hb); have n1_ := Aside0.mk (Kd.R_elder' (by (with_reducible repeat (first | apply Kd.R_alloc | apply Kd.R_drewN | apply Kd.R_drew)); exact HO145.out) (Kd.R_base ho71) hb); have n2_ := Aside0.mk (Kd.N_elder' (by (with_reducible repeat (first | apply Kd.N_alloc | apply Kd.N_drewN | apply Kd.N_drew)); exact HO148.out) (Kd.R_base ho71) hb); have n3_ := Aside0.mk (Kd.R_elder' (by (with_reducible repeat (first | apply Kd.R_alloc | apply Kd.R_drewN | apply Kd.R_drew)); exact HO151.out) (Kd.R_base ho71) hb); have n4_ := Aside0.mk (Kd.V_elder' (by (with_reducible repeat (first | apply Kd.V_alloc | apply Kd.V_drewN | apply Kd.V_drew)); exact HO156.out) (Kd.R_base ho71) hb); have n5_ := Aside0.mk (Kd.R_lower (Kd.R_new' (Kd.R_new' (Kd.R_new' ho71 (Kd.R_lt (by (with_reducible repeat (first | apply Kd.R_alloc | apply Kd.R_drewN | apply Kd.R_drew)); exact HO142.out))) (Kd.R_lt (by (with_reducible repeat (first | apply Kd.R_alloc | apply Kd.R_drewN | apply Kd.R_drew)); exact HO145.out))) (Kd.R_lt (by (with_reducible repeat (first | apply Kd.R_alloc | apply Kd.R_drewN | apply Kd.R_drew)); exact HO151.out))) (below_size (by repeat (first | (with_reducible first | exact HB.out | apply below_alloc | apply pw_below_drewN | apply below_drew1) | exact HB.out)))); have n6_ := Aside0.mk (below_step (by repeat (first | (with_reducible first | exact HB.out | apply below_alloc | apply pw_below_drewN | apply below_drew1) | exact HB.out)) hb); clear HO142; clear HO145; clear HO148; clear HO151; clear HO156; clear HB; have HO142 := n0_; have HO145 := n1_; have HO148 := n2_; have HO151 := n3_; have HO156 := n4_; have HO159 := n5_; have HB := n6_; clear n0_ n1_ n2_ n3_ n4_ n5_ n6_; clear hb ho71))
          go_loopg [13, 46] k (fun kq v13 v46 w' => ∃ (x13_1 : List Int) (x46_1 : Int), v46 = .int .i64 x46_1 ∧ Aside0 (spec_GroupedText.l0 kq a1 a2 a3 a4 t149 y152 x13_1 y152 (y152.length : Int) x46_1 = some r) ∧ Aside0 (kq ≤ k) ∧ Aside0 (Kd.R (Kd.int .u8) 5 w' w.heap.size (fun k_ => some k_ ≠ (v13 : Value).ownBlock) (.slice Ao68 t149.length co68) t149) ∧ Aside0 (Kd.V (Kd.int .u8) 5 w' w.heap.size (fun k_ => some k_ ≠ (v13 : Value).ownBlock) (.slice Ao68 y152.length co68) y152) ∧ Aside0 (Kd.R (Kd.int .u8) 5 w' w.heap.size (fun k_ => some k_ ≠ ((.slice Ao68 t149.length co68) : Value).ownBlock) v13 x13_1) ∧ Aside0 (Kd.V (Kd.int .u8) 5 w' w.heap.size (fun k_ => some k_ ≠ (v13 : Value).ownBlock) (.slice Ao68 y152.length co68) y152) ∧ Aside0 (Below w.heap.size w w'))
          case atStart => exact ⟨(y157), (0), (by first | rfl | (simp; done) | (simp [*]; done)), H', ⟨Nat.le_refl _⟩, ⟨by (with_reducible repeat (first | apply Kd.R_alloc | apply Kd.R_drewN | apply Kd.R_drew)); exact Kd.R_mono HO151.out (fun _ hk => hk.2)⟩, ⟨by (with_reducible repeat (first | apply Kd.V_alloc | apply Kd.V_drewN | apply Kd.V_drew)); exact Kd.V_mono HO156.out (fun _ hk => hk.2)⟩, ⟨by (with_reducible repeat (first | apply Kd.R_alloc | apply Kd.R_drewN | apply Kd.R_drew)); exact Kd.R_mono HO159.out (fun _ hk => hk.2)⟩, ⟨by (with_reducible repeat (first | apply Kd.V_alloc | apply Kd.V_drewN | apply Kd.V_drew)); exact Kd.V_mono HO156.out (fun _ hk => hk.2)⟩, ⟨by repeat (first | (with_reducible first | exact HB.out | apply below_alloc | apply pw_below_drewN | apply below_drew1) | exact HB.out)⟩⟩
          case round =>
            clear H'
            try clear c1
            try clear p1
            try clear q1
            try clear hx1
            try clear c2
            try clear p2
            try clear q2
            try clear c3
            try clear c4
            try clear c5
            try clear q5
            try clear p6
            try clear q6
            try clear c8
            try clear c8b0
            try clear c9
            try clear c12
            try clear c12b0
            try clear c12b1
            try clear c13
            try clear c13b0
            try clear c13b1
            try clear c14
            try clear c14b0
            try clear c15
            try clear p16
            try clear q16
            try clear hx16
            try clear q25
            try clear c29
            try clear c29b0
            try clear c30
            try clear c30b0
            try clear c31
            try clear c31b0
            try clear c32
            try clear c32b0
            try clear c33
            try clear c33b0
            try clear c34
            try clear c34b0
            try clear c34b1
            try clear c35
            try clear c35b0
            try clear c35b1
            try clear c36
            try clear c37
            try clear c40
            try clear c42
            try clear c44
            try clear c46
            try clear c46b0
            try clear c48
            try clear c48b0
            try clear c48b1
            try clear c49
            try clear c49b0
            try clear c49b1
            try clear c53
            try clear q53
            try clear p64
            try clear q69
            try clear hx163_0
            try clear p163
            try clear p2
            try clear p6
            try clear q053
            try clear q163
            try clear q2
            try clear q25
            try clear q53
            try clear q69
            obtain ⟨x13_1, x46_1, rfl, HA, HK1, HO_11, HO_12, HO_13, HO_44, HB⟩ := hrel
            cases gk with
            | zero => exact absurd HA.out (by simp [spec_GroupedText.l0])
            | succ k1 =>
              have H := HA.out
              clear HA
              simp only [spec_GroupedText.l0] at H
              by_cases c72 : x46_1 < (y152.length : Int)
              · rw [if_pos c72] at H
                have c72b0 : decide (x46_1 < (y152.length : Int)) = true := decide_eq_true c72
                clear c72
                by_cases c73 : 0 ≤ x46_1
                · rw [if_pos c73] at H
                  have c73b0 : decide (0 ≤ x46_1) = true := decide_eq_true c73
                  clear c73
                  by_cases c74 : x46_1 < (y152.length : Int)
                  · rw [if_pos c74] at H
                    have c74b0 : decide (x46_1 < (y152.length : Int)) = true := decide_eq_true c74
                    clear c74
                    by_cases c75 : x46_1 > 0
                    · rw [if_pos c75] at H
                      have c75b0 : decide (0 < x46_1) = true := decide_eq_true c75
                      clear c75
                      by_cases c76 : a2 > 0
                      · rw [if_pos c76] at H
                        have c76b0 : decide (0 < a2) = true := decide_eq_true c76
                        clear c76
                        by_cases c77 : a2 = 0
                        · rw [if_pos c77] at H
                          exact absurd H (by simp)
                        · rw [if_neg c77] at H
                          have c77b0 : (a2 == 0) = false := beq_eq_false_iff_ne.mpr c77
                          have c77b1 : (a2 != 0) = true := bne_iff_ne.mpr c77
                          by_cases c78 : (Int.tmod (wrap64 ((y152.length : Int) - x46_1)) a2) = 0
                          · rw [if_pos c78] at H
                            have c78b0 : ((Int.tmod (wrap64 ((y152.length : Int) - x46_1)) a2) == 0) = true := beq_iff_eq.mpr c78
                            have c78b1 : ((Int.tmod (wrap64 ((y152.length : Int) - x46_1)) a2) != 0) = false := bne_eq_false_iff_eq.mpr c78
                            clear c78
                            by_cases c79 : x13_1.length < 140737488355328
                            · rw [if_pos c79] at H
                              have LMc79 := Aside0.mk c79
                              clear c79
                              obtain ⟨y164, hy164⟩ : ∃ y_ : List Int, y_ = (x13_1 ++ [a3]) := ⟨_, rfl⟩
                              replace H : (if y164.length < 140737488355328 then (spec_GroupedText.l0 k1 a1 a2 a3 a4 t149 y152 (y164 ++ [rd y152 x46_1]) y152 (y152.length : Int) (wrap64 (x46_1 + 1))) else (none)) = some r := by first | (rw [hy164]; with_reducible exact H) | (have H2_ := (Option.bind_some _ _).symm.trans H; rw [hy164]; with_reducible exact H2_) | (have H2_ := (Option.bind_some _ _).symm.trans H; with_reducible exact H2_) | with_reducible exact H | (rw [hy164]; exact H) | exact H
                              have Ny164 := Aside0.mk hy164
                              clear hy164
                              by_cases c80 : y164.length < 140737488355328
                              · rw [if_pos c80] at H
                                have LMc80 := Aside0.mk c80
                                clear c80
                                obtain ⟨y167, hy167⟩ : ∃ y_ : List Int, y_ = (y164 ++ [rd y152 x46_1]) := ⟨_, rfl⟩
                                replace H : (spec_GroupedText.l0 k1 a1 a2 a3 a4 t149 y152 y167 y152 (y152.length : Int) (wrap64 (x46_1 + 1))) = some r := by first | (rw [hy167]; with_reducible exact H) | (have H2_ := (Option.bind_some _ _).symm.trans H; rw [hy167]; with_reducible exact H2_) | (have H2_ := (Option.bind_some _ _).symm.trans H; with_reducible exact H2_) | with_reducible exact H | (rw [hy167]; exact H) | exact H
                                have Ny167 := Aside0.mk hy167
                                clear hy167
                                have H' := Aside0.mk H
                                clear H
                                have p163 : 0 ≤ (x46_1 : Int) := of_decide_eq_true (by first | (with_reducible assumption) | assumption)
                                have q163 : x46_1 < (y152.length : Int) := of_decide_eq_true (by first | (with_reducible assumption) | assumption)
                                obtain ⟨ad163, e163, hx163_0⟩ := Kd.at_int (Kd.V_reads' HO_44.out).2.2 x46_1 p163 q163
                                cases e163
                                replace p163 := eq_true p163
                                replace q163 := eq_true q163
                                go_wp2_with (first | ((with_reducible refine gate_builtin (b := .append) (xs := #[.tmp 66, .tmp 68]) rfl ?_); (try (refine gate_guard (by rfl) ?_; dsimp only)); at_builtin; refine Kd.R_append (Kd.int .u8) (w0 := w) w.heap.size rfl (.tmp 66) (.tmp 68) 22 5 (.int .u8 0) 1 rfl Try.underlying22 info5 rfl (by decide) (by omega) u13 x13_1 a3 [.int .u8 a3] (fun k_ => some k_ ≠ (.slice (some ad163) t149.length co68 : Value).ownBlock) (fun _ => False) rfl rfl ?aP (fun _ hk => hk.elim) ?aF ?aO ?aB ?aS ?aL ?_; (case aP => exact rfl); (case aB => exact (by repeat (first | (with_reducible first | exact HB.out | apply below_alloc | apply pw_below_drewN | apply below_drew1) | exact HB.out))); (case aF => exact (fun k_ hk => Kd.fresh' (Kd.R_lt (by (with_reducible repeat (first | apply Kd.R_alloc | apply Kd.R_drewN | apply Kd.R_drew)); exact HO_11.out)) k_ hk)); (case aO => exact (by (with_reducible repeat (first | apply Kd.R_alloc | apply Kd.R_drewN | apply Kd.R_drew)); exact HO_13.out)); (case aS => exact (below_size (by repeat (first | (with_reducible first | exact HB.out | apply below_alloc | apply pw_below_drewN | apply below_drew1) | exact HB.out)))); (case aL => have := LMc79.out; omega); intro v165 w81 ho hb hg hat; rw [← Ny164.out] at ho; have n0_ := Aside0.mk (Kd.R_after (ok := (fun _ => True)) (by (with_reducible repeat (first | apply Kd.R_alloc | apply Kd.R_drewN | apply Kd.R_drew)); exact Kd.R_mono HO_11.out (fun _ hk => ⟨trivial, hk⟩)) hg hat); have n1_ := Aside0.mk (Kd.V_afterv (ok := (fun _ => True)) (by (with_reducible repeat (first | apply Kd.V_alloc | apply Kd.V_drewN | apply Kd.V_drew)); exact Kd.V_mono HO_12.out (fun _ hk => ⟨trivial, hk⟩)) hg hat); have n2_ := Aside0.mk (Kd.V_afterv (ok := (fun _ => True)) (by (with_reducible repeat (first | apply Kd.V_alloc | apply Kd.V_drewN | apply Kd.V_drew)); exact Kd.V_mono HO_44.out (fun _ hk => ⟨trivial, hk⟩)) hg hat); have n3_ := Aside0.mk (hb); have n4_ := Aside0.mk (ho); clear HO_11; clear HO_12; clear HO_44; clear HB; clear HO_13; have HO_11 := n0_; have HO_12 := n1_; have HO_44 := n2_; have HB := n3_; have HO166 := n4_; clear n0_ n1_ n2_ n3_ n4_; clear ho hb hg hat) | ((with_reducible refine gate_builtin (b := .append) (xs := #[.tmp 70, .tmp 72]) rfl ?_); (try (refine gate_guard (by rfl) ?_; dsimp only)); at_builtin; refine Kd.R_append (Kd.int .u8) (w0 := w) w.heap.size rfl (.tmp 70) (.tmp 72) 22 5 (.int .u8 0) 1 rfl Try.underlying22 info5 rfl (by decide) (by omega) v165 y164 (rd y152 x46_1) [.int .u8 (rd y152 x46_1)] (fun k_ => some k_ ≠ (.slice (some ad163) t149.length co68 : Value).ownBlock) (fun _ => False) rfl rfl ?aP (fun _ hk => hk.elim) ?aF ?aO ?aB ?aS ?aL ?_; (case aP => exact rfl); (case aB => exact (by repeat (first | (with_reducible first | exact HB.out | apply below_alloc | apply pw_below_drewN | apply below_drew1) | exact HB.out))); (case aF => exact (fun k_ hk => Kd.fresh' (Kd.R_lt (by (with_reducible repeat (first | apply Kd.R_alloc | apply Kd.R_drewN | apply Kd.R_drew)); exact HO_11.out)) k_ hk)); (case aO => exact (by (with_reducible repeat (first | apply Kd.R_alloc | apply Kd.R_drewN | apply Kd.R_drew)); exact HO166.out)); (case aS => exact (below_size (by repeat (first | (with_reducible first | exact HB.out | apply below_alloc | apply pw_below_drewN | apply below_drew1) | exact HB.out)))); (case aL => have := LMc80.out; omega); intro v168 w82 ho hb hg hat; rw [← Ny167.out] at ho; have n0_ := Aside0.mk (Kd.R_after (ok := (fun _ => True)) (by (with_reducible repeat (first | apply Kd.R_alloc | apply Kd.R_drewN | apply Kd.R_drew)); exact HO_11.out) hg hat); have n1_ := Aside0.mk (Kd.V_afterv (ok := (fun _ => True)) (by (with_reducible repeat (first | apply Kd.V_alloc | apply Kd.V_drewN | apply Kd.V_drew)); exact HO_12.out) hg hat); have n2_ := Aside0.mk (Kd.V_afterv (ok := (fun _ => True)) (by (with_reducible repeat (first | apply Kd.V_alloc | apply Kd.V_drewN | apply Kd.V_drew)); exact HO_44.out) hg hat); have n3_ := Aside0.mk (hb); have n4_ := Aside0.mk (ho); clear HO_11; clear HO_12; clear HO_44; clear HB; clear HO166; have HO_11 := n0_; have HO_12 := n1_; have HO_44 := n2_; have HB := n3_; have HO169 := n4_; clear n0_ n1_ n2_ n3_ n4_; clear ho hb hg hat))
                                go_roundg k1
                                case measure => have := HK1.out; omega
                                case rel => exact ⟨(y167), (wrap64 (x46_1 + 1)), (by first | rfl | (simp; done) | (simp [*]; done)), H', ⟨by have := HK1.out; omega⟩, ⟨by (with_reducible repeat (first | apply Kd.R_alloc | apply Kd.R_drewN | apply Kd.R_drew)); exact Kd.R_mono HO_11.out (fun _ hk => hk.2)⟩, ⟨by (with_reducible repeat (first | apply Kd.V_alloc | apply Kd.V_drewN | apply Kd.V_drew)); exact Kd.V_mono HO_12.out (fun _ hk => hk.2)⟩, ⟨by (with_reducible repeat (first | apply Kd.R_alloc | apply Kd.R_drewN | apply Kd.R_drew)); exact HO169.out⟩, ⟨by (with_reducible repeat (first | apply Kd.V_alloc | apply Kd.V_drewN | apply Kd.V_drew)); exact Kd.V_mono HO_44.out (fun _ hk => hk.2)⟩, ⟨by repeat (first | (with_reducible first | exact HB.out | apply below_alloc | apply pw_below_drewN | apply below_drew1) | exact HB.out)⟩⟩
                              · rw [if_neg c80] at H
                                exact absurd H (by simp)
                            · rw [if_neg c79] at H
                              exact absurd H (by simp)
                          · rw [if_neg c78] at H
                            have c78b0 : ((Int.tmod (wrap64 ((y152.length : Int) - x46_1)) a2) == 0) = false := beq_eq_false_iff_ne.mpr c78
                            have c78b1 : ((Int.tmod (wrap64 ((y152.length : Int) - x46_1)) a2) != 0) = true := bne_iff_ne.mpr c78
                            by_cases c83 : x13_1.length < 140737488355328
                            · rw [if_pos c83] at H
                              have LMc83 := Aside0.mk c83
                              clear c83
                              obtain ⟨y170, hy170⟩ : ∃ y_ : List Int, y_ = (x13_1 ++ [rd y152 x46_1]) := ⟨_, rfl⟩
                              replace H : (spec_GroupedText.l0 k1 a1 a2 a3 a4 t149 y152 y170 y152 (y152.length : Int) (wrap64 (x46_1 + 1))) = some r := by first | (rw [hy170]; with_reducible exact H) | (have H2_ := (Option.bind_some _ _).symm.trans H; rw [hy170]; with_reducible exact H2_) | (have H2_ := (Option.bind_some _ _).symm.trans H; with_reducible exact H2_) | with_reducible exact H | (rw [hy170]; exact H) | exact H
                              have Ny170 := Aside0.mk hy170
                              clear hy170
                              have H' := Aside0.mk H
                              clear H
                              have p163 : 0 ≤ (x46_1 : Int) := of_decide_eq_true (by first | (with_reducible assumption) | assumption)
                              have q163 : x46_1 < (y152.length : Int) := of_decide_eq_true (by first | (with_reducible assumption) | assumption)
                              obtain ⟨ad163, e163, hx163_0⟩ := Kd.at_int (Kd.V_reads' HO_44.out).2.2 x46_1 p163 q163
                              cases e163
                              replace p163 := eq_true p163
                              replace q163 := eq_true q163
                              go_wp2_with (first | ((with_reducible refine gate_builtin (b := .append) (xs := #[.tmp 70, .tmp 72]) rfl ?_); (try (refine gate_guard (by rfl) ?_; dsimp only)); at_builtin; refine Kd.R_append (Kd.int .u8) (w0 := w) w.heap.size rfl (.tmp 70) (.tmp 72) 22 5 (.int .u8 0) 1 rfl Try.underlying22 info5 rfl (by decide) (by omega) u13 x13_1 (rd y152 x46_1) [.int .u8 (rd y152 x46_1)] (fun k_ => some k_ ≠ (.slice (some ad163) t149.length co68 : Value).ownBlock) (fun _ => False) rfl rfl ?aP (fun _ hk => hk.elim) ?aF ?aO ?aB ?aS ?aL ?_; (case aP => exact rfl); (case aB => exact (by repeat (first | (with_reducible first | exact HB.out | apply below_alloc | apply pw_below_drewN | apply below_drew1) | exact HB.out))); (case aF => exact (fun k_ hk => Kd.fresh' (Kd.R_lt (by (with_reducible repeat (first | apply Kd.R_alloc | apply Kd.R_drewN | apply Kd.R_drew)); exact HO_11.out)) k_ hk)); (case aO => exact (by (with_reducible repeat (first | apply Kd.R_alloc | apply Kd.R_drewN | apply Kd.R_drew)); exact HO_13.out)); (case aS => exact (below_size (by repeat (first | (with_reducible first | exact HB.out | apply below_alloc | apply pw_below_drewN | apply below_drew1) | exact HB.out)))); (case aL => have := LMc83.out; omega); intro v171 w84 ho hb hg hat; rw [← Ny170.out] at ho; have n0_ := Aside0.mk (Kd.R_after (ok := (fun _ => True)) (by (with_reducible repeat (first | apply Kd.R_alloc | apply Kd.R_drewN | apply Kd.R_drew)); exact Kd.R_mono HO_11.out (fun _ hk => ⟨trivial, hk⟩)) hg hat); have n1_ := Aside0.mk (Kd.V_afterv (ok := (fun _ => True)) (by (with_reducible repeat (first | apply Kd.V_alloc | apply Kd.V_drewN | apply Kd.V_drew)); exact Kd.V_mono HO_12.out (fun _ hk => ⟨trivial, hk⟩)) hg hat); have n2_ := Aside0.mk (Kd.V_afterv (ok := (fun _ => True)) (by (with_reducible repeat (first | apply Kd.V_alloc | apply Kd.V_drewN | apply Kd.V_drew)); exact Kd.V_mono HO_44.out (fun _ hk => ⟨trivial, hk⟩)) hg hat); have n3_ := Aside0.mk (hb); have n4_ := Aside0.mk (ho); clear HO_11; clear HO_12; clear HO_44; clear HB; clear HO_13; have HO_11 := n0_; have HO_12 := n1_; have HO_44 := n2_; have HB := n3_; have HO172 := n4_; clear n0_ n1_ n2_ n3_ n4_; clear ho hb hg hat))
                              go_roundg k1
                              case measure => have := HK1.out; omega
                              case rel => exact ⟨(y170), (wrap64 (x46_1 + 1)), (by first | rfl | (simp; done) | (simp [*]; done)), H', ⟨by have := HK1.out; omega⟩, ⟨by (with_reducible repeat (first | apply Kd.R_alloc | apply Kd.R_drewN | apply Kd.R_drew)); exact Kd.R_mono HO_11.out (fun _ hk => hk.2)⟩, ⟨by (with_reducible repeat (first | apply Kd.V_alloc | apply Kd.V_drewN | apply Kd.V_drew)); exact Kd.V_mono HO_12.out (fun _ hk => hk.2)⟩, ⟨by (with_reducible repeat (first | apply Kd.R_alloc | apply Kd.R_drewN | apply Kd.R_drew)); exact HO172.out⟩, ⟨by (with_reducible repeat (first | apply Kd.V_alloc | apply Kd.V_drewN | apply Kd.V_drew)); exact Kd.V_mono HO_44.out (fun _ hk => hk.2)⟩, ⟨by repeat (first | (with_reducible first | exact HB.out | apply below_alloc | apply pw_below_drewN | apply below_drew1) | exact HB.out)⟩⟩
                            · rw [if_neg c83] at H
                              exact absurd H (by simp)
                      · rw [if_neg c76] at H
                        have c76b0 : decide (0 < a2) = false := decide_eq_false c76
                        clear c76
                        by_cases c85 : x13_1.length < 140737488355328
                        · rw [if_pos c85] at H
                          have LMc85 := Aside0.mk c85
                          clear c85
                          obtain ⟨y173, hy173⟩ : ∃ y_ : List Int, y_ = (x13_1 ++ [rd y152 x46_1]) := ⟨_, rfl⟩
                          replace H : (spec_GroupedText.l0 k1 a1 a2 a3 a4 t149 y152 y173 y152 (y152.length : Int) (wrap64 (x46_1 + 1))) = some r := by first | (rw [hy173]; with_reducible exact H) | (have H2_ := (Option.bind_some _ _).symm.trans H; rw [hy173]; with_reducible exact H2_) | (have H2_ := (Option.bind_some _ _).symm.trans H; with_reducible exact H2_) | with_reducible exact H | (rw [hy173]; exact H) | exact H
                          have Ny173 := Aside0.mk hy173
                          clear hy173
                          have H' := Aside0.mk H
                          clear H
                          have p163 : 0 ≤ (x46_1 : Int) := of_decide_eq_true (by first | (with_reducible assumption) | assumption)
                          have q163 : x46_1 < (y152.length : Int) := of_decide_eq_true (by first | (with_reducible assumption) | assumption)
                          obtain ⟨ad163, e163, hx163_0⟩ := Kd.at_int (Kd.V_reads' HO_44.out).2.2 x46_1 p163 q163
                          cases e163
                          replace p163 := eq_true p163
                          replace q163 := eq_true q163
                          go_wp2_with (first | ((with_reducible refine gate_builtin (b := .append) (xs := #[.tmp 70, .tmp 72]) rfl ?_); (try (refine gate_guard (by rfl) ?_; dsimp only)); at_builtin; refine Kd.R_append (Kd.int .u8) (w0 := w) w.heap.size rfl (.tmp 70) (.tmp 72) 22 5 (.int .u8 0) 1 rfl Try.underlying22 info5 rfl (by decide) (by omega) u13 x13_1 (rd y152 x46_1) [.int .u8 (rd y152 x46_1)] (fun k_ => some k_ ≠ (.slice (some ad163) t149.length co68 : Value).ownBlock) (fun _ => False) rfl rfl ?aP (fun _ hk => hk.elim) ?aF ?aO ?aB ?aS ?aL ?_; (case aP => exact rfl); (case aB => exact (by repeat (first | (with_reducible first | exact HB.out | apply below_alloc | apply pw_below_drewN | apply below_drew1) | exact HB.out))); (case aF => exact (fun k_ hk => Kd.fresh' (Kd.R_lt (by (with_reducible repeat (first | apply Kd.R_alloc | apply Kd.R_drewN | apply Kd.R_drew)); exact HO_11.out)) k_ hk)); (case aO => exact (by (with_reducible repeat (first | apply Kd.R_alloc | apply Kd.R_drewN | apply Kd.R_drew)); exact HO_13.out)); (case aS => exact (below_size (by repeat (first | (with_reducible first | exact HB.out | apply below_alloc | apply pw_below_drewN | apply below_drew1) | exact HB.out)))); (case aL => have := LMc85.out; omega); intro v174 w86 ho hb hg hat; rw [← Ny173.out] at ho; have n0_ := Aside0.mk (Kd.R_after (ok := (fun _ => True)) (by (with_reducible repeat (first | apply Kd.R_alloc | apply Kd.R_drewN | apply Kd.R_drew)); exact Kd.R_mono HO_11.out (fun _ hk => ⟨trivial, hk⟩)) hg hat); have n1_ := Aside0.mk (Kd.V_afterv (ok := (fun _ => True)) (by (with_reducible repeat (first | apply Kd.V_alloc | apply Kd.V_drewN | apply Kd.V_drew)); exact Kd.V_mono HO_12.out (fun _ hk => ⟨trivial, hk⟩)) hg hat); have n2_ := Aside0.mk (Kd.V_afterv (ok := (fun _ => True)) (by (with_reducible repeat (first | apply Kd.V_alloc | apply Kd.V_drewN | apply Kd.V_drew)); exact Kd.V_mono HO_44.out (fun _ hk => ⟨trivial, hk⟩)) hg hat); have n3_ := Aside0.mk (hb); have n4_ := Aside0.mk (ho); clear HO_11; clear HO_12; clear HO_44; clear HB; clear HO_13; have HO_11 := n0_; have HO_12 := n1_; have HO_44 := n2_; have HB := n3_; have HO175 := n4_; clear n0_ n1_ n2_ n3_ n4_; clear ho hb hg hat))
                          go_roundg k1
                          case measure => have := HK1.out; omega
                          case rel => exact ⟨(y173), (wrap64 (x46_1 + 1)), (by first | rfl | (simp; done) | (simp [*]; done)), H', ⟨by have := HK1.out; omega⟩, ⟨by (with_reducible repeat (first | apply Kd.R_alloc | apply Kd.R_drewN | apply Kd.R_drew)); exact Kd.R_mono HO_11.out (fun _ hk => hk.2)⟩, ⟨by (with_reducible repeat (first | apply Kd.V_alloc | apply Kd.V_drewN | apply Kd.V_drew)); exact Kd.V_mono HO_12.out (fun _ hk => hk.2)⟩, ⟨by (with_reducible repeat (first | apply Kd.R_alloc | apply Kd.R_drewN | apply Kd.R_drew)); exact HO175.out⟩, ⟨by (with_reducible repeat (first | apply Kd.V_alloc | apply Kd.V_drewN | apply Kd.V_drew)); exact Kd.V_mono HO_44.out (fun _ hk => hk.2)⟩, ⟨by repeat (first | (with_reducible first | exact HB.out | apply below_alloc | apply pw_below_drewN | apply below_drew1) | exact HB.out)⟩⟩
                        · rw [if_neg c85] at H
                          exact absurd H (by simp)
                    · rw [if_neg c75] at H
                      have c75b0 : decide (0 < x46_1) = false := decide_eq_false c75
                      clear c75
                      by_cases c87 : x13_1.length < 140737488355328
                      · rw [if_pos c87] at H
                        have LMc87 := Aside0.mk c87
                        clear c87
                        obtain ⟨y176, hy176⟩ : ∃ y_ : List Int, y_ = (x13_1 ++ [rd y152 x46_1]) := ⟨_, rfl⟩
                        replace H : (spec_GroupedText.l0 k1 a1 a2 a3 a4 t149 y152 y176 y152 (y152.length : Int) (wrap64 (x46_1 + 1))) = some r := by first | (rw [hy176]; with_reducible exact H) | (have H2_ := (Option.bind_some _ _).symm.trans H; rw [hy176]; with_reducible exact H2_) | (have H2_ := (Option.bind_some _ _).symm.trans H; with_reducible exact H2_) | with_reducible exact H | (rw [hy176]; exact H) | exact H
                        have Ny176 := Aside0.mk hy176
                        clear hy176
                        have H' := Aside0.mk H
                        clear H
                        have p163 : 0 ≤ (x46_1 : Int) := of_decide_eq_true (by first | (with_reducible assumption) | assumption)
                        have q163 : x46_1 < (y152.length : Int) := of_decide_eq_true (by first | (with_reducible assumption) | assumption)
                        obtain ⟨ad163, e163, hx163_0⟩ := Kd.at_int (Kd.V_reads' HO_44.out).2.2 x46_1 p163 q163
                        cases e163
                        replace p163 := eq_true p163
                        replace q163 := eq_true q163
                        go_wp2_with (first | ((with_reducible refine gate_builtin (b := .append) (xs := #[.tmp 70, .tmp 72]) rfl ?_); (try (refine gate_guard (by rfl) ?_; dsimp only)); at_builtin; refine Kd.R_append (Kd.int .u8) (w0 := w) w.heap.size rfl (.tmp 70) (.tmp 72) 22 5 (.int .u8 0) 1 rfl Try.underlying22 info5 rfl (by decide) (by omega) u13 x13_1 (rd y152 x46_1) [.int .u8 (rd y152 x46_1)] (fun k_ => some k_ ≠ (.slice (some ad163) t149.length co68 : Value).ownBlock) (fun _ => False) rfl rfl ?aP (fun _ hk => hk.elim) ?aF ?aO ?aB ?aS ?aL ?_; (case aP => exact rfl); (case aB => exact (by repeat (first | (with_reducible first | exact HB.out | apply below_alloc | apply pw_below_drewN | apply below_drew1) | exact HB.out))); (case aF => exact (fun k_ hk => Kd.fresh' (Kd.R_lt (by (with_reducible repeat (first | apply Kd.R_alloc | apply Kd.R_drewN | apply Kd.R_drew)); exact HO_11.out)) k_ hk)); (case aO => exact (by (with_reducible repeat (first | apply Kd.R_alloc | apply Kd.R_drewN | apply Kd.R_drew)); exact HO_13.out)); (case aS => exact (below_size (by repeat (first | (with_reducible first | exact HB.out | apply below_alloc | apply pw_below_drewN | apply below_drew1) | exact HB.out)))); (case aL => have := LMc87.out; omega); intro v177 w88 ho hb hg hat; rw [← Ny176.out] at ho; have n0_ := Aside0.mk (Kd.R_after (ok := (fun _ => True)) (by (with_reducible repeat (first | apply Kd.R_alloc | apply Kd.R_drewN | apply Kd.R_drew)); exact Kd.R_mono HO_11.out (fun _ hk => ⟨trivial, hk⟩)) hg hat); have n1_ := Aside0.mk (Kd.V_afterv (ok := (fun _ => True)) (by (with_reducible repeat (first | apply Kd.V_alloc | apply Kd.V_drewN | apply Kd.V_drew)); exact Kd.V_mono HO_12.out (fun _ hk => ⟨trivial, hk⟩)) hg hat); have n2_ := Aside0.mk (Kd.V_afterv (ok := (fun _ => True)) (by (with_reducible repeat (first | apply Kd.V_alloc | apply Kd.V_drewN | apply Kd.V_drew)); exact Kd.V_mono HO_44.out (fun _ hk => ⟨trivial, hk⟩)) hg hat); have n3_ := Aside0.mk (hb); have n4_ := Aside0.mk (ho); clear HO_11; clear HO_12; clear HO_44; clear HB; clear HO_13; have HO_11 := n0_; have HO_12 := n1_; have HO_44 := n2_; have HB := n3_; have HO178 := n4_; clear n0_ n1_ n2_ n3_ n4_; clear ho hb hg hat))
                        go_roundg k1
                        case measure => have := HK1.out; omega
                        case rel => exact ⟨(y176), (wrap64 (x46_1 + 1)), (by first | rfl | (simp; done) | (simp [*]; done)), H', ⟨by have := HK1.out; omega⟩, ⟨by (with_reducible repeat (first | apply Kd.R_alloc | apply Kd.R_drewN | apply Kd.R_drew)); exact Kd.R_mono HO_11.out (fun _ hk => hk.2)⟩, ⟨by (with_reducible repeat (first | apply Kd.V_alloc | apply Kd.V_drewN | apply Kd.V_drew)); exact Kd.V_mono HO_12.out (fun _ hk => hk.2)⟩, ⟨by (with_reducible repeat (first | apply Kd.R_alloc | apply Kd.R_drewN | apply Kd.R_drew)); exact HO178.out⟩, ⟨by (with_reducible repeat (first | apply Kd.V_alloc | apply Kd.V_drewN | apply Kd.V_drew)); exact Kd.V_mono HO_44.out (fun _ hk => hk.2)⟩, ⟨by repeat (first | (with_reducible first | exact HB.out | apply below_alloc | apply pw_below_drewN | apply below_drew1) | exact HB.out)⟩⟩
                      · rw [if_neg c87] at H
                        exact absurd H (by simp)
                  · rw [if_neg c74] at H
                    exact absurd H (by simp)
                · rw [if_neg c73] at H
                  exact absurd H (by simp)
              · rw [if_neg c72] at H
                have c72b0 : decide (x46_1 < (y152.length : Int)) = false := decide_eq_false c72
                clear c72
                by_cases c89 : a1 > 0
                · rw [if_pos c89] at H
                  have c89b0 : decide (0 < a1) = true := decide_eq_true c89
                  clear c89
                  obtain ⟨y179, hy179⟩ : ∃ y_ : List Int, y_ = (([a4] : List Int)) := ⟨_, rfl⟩
                  replace H : (if 0 ≤ (wrap64 ((t149.length : Int) - a1)) then (if (wrap64 ((t149.length : Int) - a1)) ≤ (t149.length : Int) then ((spec_Join.f k1 (([x13_1, y179, (t149.drop ((wrap64 ((t149.length : Int) - a1)) : Int).toNat)] : List (List Int)))).bind fun t190 => (some t190)) else (none)) else (none)) = some r := by first | (rw [hy179]; with_reducible exact H) | (have H2_ := (Option.bind_some _ _).symm.trans H; rw [hy179]; with_reducible exact H2_) | (have H2_ := (Option.bind_some _ _).symm.trans H; with_reducible exact H2_) | with_reducible exact H | (rw [hy179]; exact H) | exact H
                  have Ny179 := Aside0.mk hy179
                  clear hy179
                  obtain ⟨ji90, hji90⟩ : ∃ j_ : Int, (wrap64 ((t149.length : Int) - a1)) = j_ := ⟨_, rfl⟩
                  obtain rfl : ji90 = ji11 := hji90.symm.trans hji11
                  replace H : (if 0 ≤ (ji90) then (if (ji90) ≤ (t149.length : Int) then ((spec_Join.f k1 (([x13_1, y179, (t149.drop ((ji90) : Int).toNat)] : List (List Int)))).bind fun t190 => (some t190)) else (none)) else (none)) = some r := by first | (rw [hji90] at H; exact H) | (simp only [hji90] at H ⊢; exact H)
                  have hji90w : (IntKind.i64.wrap ((t149.length : Int) - a1)) = ji90 := (i64_w _).trans hji90
                  by_cases c91 : 0 ≤ (ji90)
                  · rw [if_pos c91] at H
                    have c91b0 := eq_true c91
                    have c91b1 : decide (0 ≤ (ji90)) = true := decide_eq_true c91
                    clear c91
                    by_cases c92 : (ji90) ≤ (t149.length : Int)
                    · rw [if_pos c92] at H
                      have c92b0 := eq_true c92
                      have c92b1 : decide ((ji90) ≤ (t149.length : Int)) = true := decide_eq_true c92
                      clear c92
                      obtain ⟨y182, hy182⟩ : ∃ y_ : List Int, y_ = (t149.drop ((ji90) : Int).toNat) := ⟨_, rfl⟩
                      replace H : ((spec_Join.f k1 (([x13_1, y179, y182] : List (List Int)))).bind fun t190 => (some t190)) = some r := by first | (rw [hy182]; with_reducible exact H) | (have H2_ := (Option.bind_some _ _).symm.trans H; rw [hy182]; with_reducible exact H2_) | (have H2_ := (Option.bind_some _ _).symm.trans H; with_reducible exact H2_) | with_reducible exact H | (rw [hy182]; exact H) | exact H
                      have Ny182 := Aside0.mk hy182
                      clear hy182
                      obtain ⟨y187, hy187⟩ : ∃ y_ : List (List Int), y_ = (([x13_1, y179, y182] : List (List Int))) := ⟨_, rfl⟩
                      replace H : ((spec_Join.f k1 y187).bind fun t190 => (some t190)) = some r := by first | (rw [hy187]; with_reducible exact H) | (have H2_ := (Option.bind_some _ _).symm.trans H; rw [hy187]; with_reducible exact H2_) | (have H2_ := (Option.bind_some _ _).symm.trans H; with_reducible exact H2_) | with_reducible exact H | (rw [hy187]; exact H) | exact H
                      have Ny187 := Aside0.mk hy187
                      clear hy187
                      replace H := Option.bind_eq_some_iff.mp H
                      obtain ⟨t190, A930, H⟩ := H
                      replace H : (some t190) = some r := H
                      have A93 := Aside0.mk A930
                      clear A930
                      obtain rfl := Option.some.inj H
                      go_wp2_with (first | ((with_reducible refine gate_dst (N := 79) rfl ?_); (try (refine gate_guard (by rfl) ?_; dsimp only)); refine Kd.R_lit (Kd.int .u8) _ 5 ?hg (N := 79) ?hd (xs := ([a4] : List Int)) (inner := [.int .u8 a4]) (ok := fun _ => True) (okp := fun _ => True) ?hr ?hp (fun _ hk => hk) trivial (Below.refl _ _) (Nat.le_refl _) (by simp) ?_; (case hd => rfl); (case hg => rfl); (case hr => first | (go_simp; done) | (go_simp; rfl)); (case hp => exact (Reps.one (show Kd.M (Kd.int .u8) _ _ _ a4 [.int .u8 a4] from rfl) (Reps.none _ _))); intro v180 w94 ho95 hb hg_ hnew_; clear hg_ hnew_; (first | rw [← Ny179.out] at ho95 | (simp only [Int.reduceToNat] at ho95; rw [← Ny179.out] at ho95)); have n0_ := Aside0.mk (Kd.R_elder' (by (with_reducible repeat (first | apply Kd.R_alloc | apply Kd.R_drewN | apply Kd.R_drew)); exact HO_11.out) (Kd.R_base ho95) hb); have n1_ := Aside0.mk (Kd.V_elder' (by (with_reducible repeat (first | apply Kd.V_alloc | apply Kd.V_drewN | apply Kd.V_drew)); exact HO_12.out) (Kd.R_base ho95) hb); have n2_ := Aside0.mk (Kd.R_elder' (by (with_reducible repeat (first | apply Kd.R_alloc | apply Kd.R_drewN | apply Kd.R_drew)); exact HO_13.out) (Kd.R_base ho95) hb); have n3_ := Aside0.mk (Kd.V_elder' (by (with_reducible repeat (first | apply Kd.V_alloc | apply Kd.V_drewN | apply Kd.V_drew)); exact HO_44.out) (Kd.R_base ho95) hb); have n4_ := Aside0.mk (Kd.R_lower (Kd.R_new' (Kd.R_new' ho95 (Kd.R_lt (by (with_reducible repeat (first | apply Kd.R_alloc | apply Kd.R_drewN | apply Kd.R_drew)); exact HO_11.out))) (Kd.R_lt (by (with_reducible repeat (first | apply Kd.R_alloc | apply Kd.R_drewN | apply Kd.R_drew)); exact HO_13.out))) (below_size (by repeat (first | (with_reducible first | exact HB.out | apply below_alloc | apply pw_below_drewN | apply below_drew1) | exact HB.out)))); have n5_ := Aside0.mk (below_step (by repeat (first | (with_reducible first | exact HB.out | apply below_alloc | apply pw_below_drewN | apply below_drew1) | exact HB.out)) hb); clear HO_11; clear HO_12; clear HO_13; clear HO_44; clear HB; have HO_11 := n0_; have HO_12 := n1_; have HO_13 := n2_; have HO_44 := n3_; have HO181 := n4_; have HB := n5_; clear n0_ n1_ n2_ n3_ n4_ n5_; clear hb ho95; have q96 : ((ji90) : Int) ≤ ((t149.length : Int) : Int) := of_decide_eq_true (by first | (with_reducible assumption) | assumption); obtain ⟨i096, hi096, _, hsz96, _⟩ := info_parts info5; have hroom96 : t149.length ≤ co68 := (Kd.R_reads' HO_11.out).2.1; have hC96 : Kd.F (Kd.int .u8) _ _ Ao68 t149.length t149 := (Kd.V_at (base := w.heap.size) (Kd.R_V HO_11.out)).2.2; have q096 : (0 : Int) ≤ ((ji90) : Int) := of_decide_eq_true (by first | (with_reducible assumption) | assumption); have hcut96 := cut_from (P := Try.prog) 22 5 .i64 Try.underlying22 hi096 1 hsz96 Ao68 t149.length co68 (ji90) q096 q96; have hr96 := Kd.F_cut (m := ((ji90) : Int).toNat) (c := co68) hC96 (by omega) hroom96; obtain ⟨A96, hA96⟩ : ∃ Aq_, Aq_ = (if co68 = ((ji90) : Int).toNat then Ao68 else (Ao68 : Option Addr).map (·.add (((ji90) : Int).toNat * 1))) := ⟨_, rfl⟩; obtain ⟨c96, hc96⟩ : ∃ cq_, cq_ = co68 - ((ji90) : Int).toNat := ⟨_, rfl⟩; have hy96 : y182.length = t149.length - ((ji90) : Int).toNat := (by rw [Ny182.out, List.length_drop] <;> omega); rw [show (t149).drop ((ji90) : Int).toNat = y182 from Ny182.out.symm] at hr96; replace hr96 : Kd.F (Kd.int .u8) _ _ A96 y182.length y182 := (by rw [hA96]; exact hr96); rw [← hy96, ← hA96, ← hc96] at hcut96; have HO186 := Aside0.mk (show Kd.V (Kd.int .u8) 5 _ w.heap.size _ (.slice A96 y182.length c96) y182 from Kd.V_mk (by rw [hy96, hc96]; exact Nat.sub_le_sub_right hroom96 _) hr96); have HC186 := Aside0.mk (show y182.length ≤ c96 from by rw [hy96, hc96]; exact Nat.sub_le_sub_right hroom96 _); clear hr96 hC96 hroom96 hi096 hsz96 hc96; have KY96 := Aside0.mk hy96; have KA96 := Aside0.mk hA96; clear hy96 hA96; replace q96 := eq_true q96; obtain ⟨Ao97, co97, eo97⟩ := Kd.R_slice HO_13.out; subst eo97; obtain ⟨Ao98, co98, eo98⟩ := Kd.R_slice HO181.out; subst eo98) | ((with_reducible refine gate_dst (N := 86) rfl ?_); (try (refine gate_guard (by rfl) ?_; dsimp only)); refine Kd.N_lit (Kd.slice 5 (Kd.int .u8)) _ 22 ?hg (N' := 86) ?hd (xs := ([x13_1, y179, y182] : List (List Int))) (inner := [.slice Ao97 x13_1.length co97, .slice Ao98 y179.length co98, .slice A96 y182.length c96]) (ok := (fun _ => True)) (okp := (fun _ => True)) ?hr ?hp (fun _ hk => hk) ((show ∀ k_, w94.heap.size ≤ k_ → (fun _ => True) k_ from fun k_ hk => trivial) _ (Nat.le_refl _)) (Below.refl _ _) (Nat.le_refl _) (by simp) ?_; (case hd => rfl); (case hg => rfl); (case hr => first | (go_simp; done) | (go_simp; rfl)); (case hp => first | exact (Reps.one (show Kd.FK (Kd.slice 5 (Kd.int .u8)) _ _ x13_1 [.slice Ao97 x13_1.length co97] from (Kd.FK_slice_mk (Kd.R_reads' (Kd.R_mono (ok' := (fun _ => True)) (HO_13.out) (fun k_ hk => trivial))).2.1 (Kd.R_F (Kd.R_mono (ok' := (fun _ => True)) (HO_13.out) (fun k_ hk => trivial))))) (Reps.one (show Kd.FK (Kd.slice 5 (Kd.int .u8)) _ _ y179 [.slice Ao98 y179.length co98] from (Kd.FK_slice_mk (Kd.R_reads' (Kd.R_mono (ok' := (fun _ => True)) (HO181.out) (fun k_ hk => trivial))).2.1 (Kd.R_F (Kd.R_mono (ok' := (fun _ => True)) (HO181.out) (fun k_ hk => trivial))))) (Reps.one (show Kd.FK (Kd.slice 5 (Kd.int .u8)) _ _ y182 [.slice A96 y182.length c96] from (Kd.FK_slice_mk (Kd.V_reads' (Kd.V_mono (ok' := (fun _ => True)) (HO186.out) (fun k_ hk => trivial))).2.1 (Kd.V_F (Kd.V_mono (ok' := (fun _ => True)) (HO186.out) (fun k_ hk => trivial))))) (Reps.none _ _)))) | exact (Reps.one (show Kd.FK (Kd.slice 5 (Kd.int .u8)) _ _ x13_1 [.slice Ao97 x13_1.length co97] from (Kd.FK_slice_mk (Kd.R_reads' (Kd.R_mono (ok' := (fun _ => True)) (HO_13.out) (fun k_ hk => trivial))).2.1 (Kd.R_F (Kd.R_mono (ok' := (fun _ => True)) ((Kd.R_drewN HO_13.out _)) (fun k_ hk => trivial))))) (Reps.one (show Kd.FK (Kd.slice 5 (Kd.int .u8)) _ _ y179 [.slice Ao98 y179.length co98] from (Kd.FK_slice_mk (Kd.R_reads' (Kd.R_mono (ok' := (fun _ => True)) (HO181.out) (fun k_ hk => trivial))).2.1 (Kd.R_F (Kd.R_mono (ok' := (fun _ => True)) ((Kd.R_drewN HO181.out _)) (fun k_ hk => trivial))))) (Reps.one (show Kd.FK (Kd.slice 5 (Kd.int .u8)) _ _ y182 [.slice A96 y182.length c96] from (Kd.FK_slice_mk (Kd.V_reads' (Kd.V_mono (ok' := (fun _ => True)) (HO186.out) (fun k_ hk => trivial))).2.1 (Kd.V_F (Kd.V_mono (ok' := (fun _ => True)) ((Kd.V_drewN HO186.out _)) (fun k_ hk => trivial))))) (Reps.none _ _)))) | exact (Reps.one (show Kd.FK (Kd.slice 5 (Kd.int .u8)) _ _ x13_1 [.slice Ao97 x13_1.length co97] from (Kd.FK_slice_mk (Kd.R_reads' (Kd.R_mono (ok' := (fun _ => True)) (HO_13.out) (fun k_ hk => trivial))).2.1 (Kd.R_F (Kd.R_mono (ok' := (fun _ => True)) ((Kd.R_alloc HO_13.out _)) (fun k_ hk => trivial))))) (Reps.one (show Kd.FK (Kd.slice 5 (Kd.int .u8)) _ _ y179 [.slice Ao98 y179.length co98] from (Kd.FK_slice_mk (Kd.R_reads' (Kd.R_mono (ok' := (fun _ => True)) (HO181.out) (fun k_ hk => trivial))).2.1 (Kd.R_F (Kd.R_mono (ok' := (fun _ => True)) ((Kd.R_alloc HO181.out _)) (fun k_ hk => trivial))))) (Reps.one (show Kd.FK (Kd.slice 5 (Kd.int .u8)) _ _ y182 [.slice A96 y182.length c96] from (Kd.FK_slice_mk (Kd.V_reads' (Kd.V_mono (ok' := (fun _ => True)) (HO186.out) (fun k_ hk => trivial))).2.1 (Kd.V_F (Kd.V_mono (ok' := (fun _ => True)) ((Kd.V_alloc HO186.out _)) (fun k_ hk => trivial))))) (Reps.none _ _)))) | exact (Reps.one (show Kd.FK (Kd.slice 5 (Kd.int .u8)) _ _ x13_1 [.slice Ao97 x13_1.length co97] from (Kd.FK_slice_mk (Kd.R_reads' (Kd.R_mono (ok' := (fun _ => True)) (HO_13.out) (fun k_ hk => trivial))).2.1 (Kd.R_F (Kd.R_mono (ok' := (fun _ => True)) ((by (with_reducible repeat (first | apply Kd.R_alloc | apply Kd.R_drewN | apply Kd.R_drew)); exact HO_13.out)) (fun k_ hk => trivial))))) (Reps.one (show Kd.FK (Kd.slice 5 (Kd.int .u8)) _ _ y179 [.slice Ao98 y179.length co98] from (Kd.FK_slice_mk (Kd.R_reads' (Kd.R_mono (ok' := (fun _ => True)) (HO181.out) (fun k_ hk => trivial))).2.1 (Kd.R_F (Kd.R_mono (ok' := (fun _ => True)) ((by (with_reducible repeat (first | apply Kd.R_alloc | apply Kd.R_drewN | apply Kd.R_drew)); exact HO181.out)) (fun k_ hk => trivial))))) (Reps.one (show Kd.FK (Kd.slice 5 (Kd.int .u8)) _ _ y182 [.slice A96 y182.length c96] from (Kd.FK_slice_mk (Kd.V_reads' (Kd.V_mono (ok' := (fun _ => True)) (HO186.out) (fun k_ hk => trivial))).2.1 (Kd.V_F (Kd.V_mono (ok' := (fun _ => True)) ((by (with_reducible repeat (first | apply Kd.V_alloc | apply Kd.V_drewN | apply Kd.V_drew)); exact HO186.out)) (fun k_ hk => trivial))))) (Reps.none _ _))))); intro v188 w99 ho100 hb hg_ hnew_; clear hg_ hnew_; (first | rw [← Ny187.out] at ho100 | (simp only [Int.reduceToNat] at ho100; rw [← Ny187.out] at ho100)); have n0_ := Aside0.mk (Kd.R_below (by (with_reducible repeat (first | apply Kd.R_alloc | apply Kd.R_drewN | apply Kd.R_drew)); exact HO_11.out) hb); have n1_ := Aside0.mk (Kd.V_elder' (by (with_reducible repeat (first | apply Kd.V_alloc | apply Kd.V_drewN | apply Kd.V_drew)); exact HO_12.out) (Kd.N_base ho100) hb); have n2_ := Aside0.mk (Kd.R_below (by (with_reducible repeat (first | apply Kd.R_alloc | apply Kd.R_drewN | apply Kd.R_drew)); exact HO_13.out) hb); have n3_ := Aside0.mk (Kd.V_elder' (by (with_reducible repeat (first | apply Kd.V_alloc | apply Kd.V_drewN | apply Kd.V_drew)); exact HO_44.out) (Kd.N_base ho100) hb); have n4_ := Aside0.mk (Kd.R_below (by (with_reducible repeat (first | apply Kd.R_alloc | apply Kd.R_drewN | apply Kd.R_drew)); exact HO181.out) hb); have n5_ := Aside0.mk (Kd.V_elder' (by (with_reducible repeat (first | apply Kd.V_alloc | apply Kd.V_drewN | apply Kd.V_drew)); exact HO186.out) (Kd.N_base ho100) hb); have n6_ := Aside0.mk (Kd.N_lower ho100 (below_size (by repeat (first | (with_reducible first | exact HB.out | apply below_alloc | apply pw_below_drewN | apply below_drew1) | exact HB.out)))); have n7_ := Aside0.mk (below_step (by repeat (first | (with_reducible first | exact HB.out | apply below_alloc | apply pw_below_drewN | apply below_drew1) | exact HB.out)) hb); clear HO_11; clear HO_12; clear HO_13; clear HO_44; clear HO181; clear HO186; clear HB; have HO_11 := n0_; have HO_12 := n1_; have HO_13 := n2_; have HO_44 := n3_; have HO181 := n4_; have HO186 := n5_; have HO189 := n6_; have HB := n7_; clear n0_ n1_ n2_ n3_ n4_ n5_ n6_ n7_; clear hb ho100; obtain ⟨Ao101, co101, eo101⟩ := Kd.N_slice HO189.out; subst eo101) | ((with_reducible refine gate_callee (f := 8) rfl ?_); refine goesL_ (some 87) rfl rfl Try.func8 (by kernel_rfl) rfl #[.slice Ao101 y187.length co101] rfl (by (try simp only [List.map_toArray, List.map_cons, List.map_nil]); first | done | rfl | (simp only [List.length_drop, List.length_take]; rfl)) ?_; (with_reducible refine (spec_Join.calls k1 _ _ y187 t190 _ ?side1 ?side2 A93.out).mono ?_); (case side1 => repeat (first | exact (Kd.N_reads' HO189.out).2.2 | (with_reducible refine Kd.C_alloc ?_ _) | (with_reducible refine Kd.C_drewN ?_ _) | (with_reducible refine Kd.C_drew ?_))); (case side2 => exact (Kd.N_reads' HO189.out).2.1); rintro e w102 ⟨v191, rfl, ho0, hb⟩; refine ⟨_, rfl, ?_⟩; have n0_ := Aside0.mk (Kd.R_elder' (by (with_reducible repeat (first | apply Kd.R_alloc | apply Kd.R_drewN | apply Kd.R_drew)); exact HO_11.out) (Kd.R_base ho0) hb); have n1_ := Aside0.mk (Kd.V_elder' (by (with_reducible repeat (first | apply Kd.V_alloc | apply Kd.V_drewN | apply Kd.V_drew)); exact HO_12.out) (Kd.R_base ho0) hb); have n2_ := Aside0.mk (Kd.R_elder' (by (with_reducible repeat (first | apply Kd.R_alloc | apply Kd.R_drewN | apply Kd.R_drew)); exact HO_13.out) (Kd.R_base ho0) hb); have n3_ := Aside0.mk (Kd.V_elder' (by (with_reducible repeat (first | apply Kd.V_alloc | apply Kd.V_drewN | apply Kd.V_drew)); exact HO_44.out) (Kd.R_base ho0) hb); have n4_ := Aside0.mk (Kd.R_elder' (by (with_reducible repeat (first | apply Kd.R_alloc | apply Kd.R_drewN | apply Kd.R_drew)); exact HO181.out) (Kd.R_base ho0) hb); have n5_ := Aside0.mk (Kd.V_elder' (by (with_reducible repeat (first | apply Kd.V_alloc | apply Kd.V_drewN | apply Kd.V_drew)); exact HO186.out) (Kd.R_base ho0) hb); have n6_ := Aside0.mk (Kd.N_elder' (by (with_reducible repeat (first | apply Kd.N_alloc | apply Kd.N_drewN | apply Kd.N_drew)); exact HO189.out) (Kd.R_base ho0) hb); have n7_ := Aside0.mk (Kd.R_lower (Kd.R_new' (Kd.R_new' (Kd.R_new' ho0 (Kd.R_lt (by (with_reducible repeat (first | apply Kd.R_alloc | apply Kd.R_drewN | apply Kd.R_drew)); exact HO_11.out))) (Kd.R_lt (by (with_reducible repeat (first | apply Kd.R_alloc | apply Kd.R_drewN | apply Kd.R_drew)); exact HO_13.out))) (Kd.R_lt (by (with_reducible repeat (first | apply Kd.R_alloc | apply Kd.R_drewN | apply Kd.R_drew)); exact HO181.out))) (below_size (by repeat (first | (with_reducible first | exact HB.out | apply below_alloc | apply pw_below_drewN | apply below_drew1) | exact HB.out)))); have n8_ := Aside0.mk (below_step (by repeat (first | (with_reducible first | exact HB.out | apply below_alloc | apply pw_below_drewN | apply below_drew1) | exact HB.out)) hb); clear HO_11; clear HO_12; clear HO_13; clear HO_44; clear HO181; clear HO186; clear HO189; clear HB; have HO_11 := n0_; have HO_12 := n1_; have HO_13 := n2_; have HO_44 := n3_; have HO181 := n4_; have HO186 := n5_; have HO189 := n6_; have HO192 := n7_; have HB := n8_; clear n0_ n1_ n2_ n3_ n4_ n5_ n6_ n7_ n8_; (try clear hb); (try clear hb2); (try clear hk); (try clear hi); (try clear ho0)))
                      go_ret
                      exact ⟨_, by first | rfl | (simp [errW_none, errW_some] <;> rfl) | (simp only [← hji11, ← hji90]; first | rfl | (simp [errW_none, errW_some] <;> rfl)) | (simp [*, errW_none, errW_some] <;> rfl), by (with_reducible repeat (first | apply Kd.R_alloc | apply Kd.R_drewN | apply Kd.R_drew)); exact Kd.R_mono HO192.out (fun _ hk => trivial), by repeat (first | (with_reducible first | exact HB.out | apply below_alloc | apply pw_below_drewN | apply below_drew1) | exact HB.out)⟩
                    · rw [if_neg c92] at H
                      exact absurd H (by simp)
                  · rw [if_neg c91] at H
                    exact absurd H (by simp)
                · rw [if_neg c89] at H
                  have c89b0 : decide (0 < a1) = false := decide_eq_false c89
                  clear c89
                  obtain rfl := Option.some.inj H
                  go_wp2
                  go_ret
                  exact ⟨_, by first | rfl | (simp [errW_none, errW_some] <;> rfl) | (simp only [← hji11]; first | rfl | (simp [errW_none, errW_some] <;> rfl)) | (simp [*, errW_none, errW_some] <;> rfl), by (with_reducible repeat (first | apply Kd.R_alloc | apply Kd.R_drewN | apply Kd.R_drew)); exact Kd.R_mono HO_13.out (fun _ hk => trivial), by repeat (first | (with_reducible first | exact HB.out | apply below_alloc | apply pw_below_drewN | apply below_drew1) | exact HB.out)⟩
      · rw [if_neg c13] at H
        exact absurd H (by simp)
    · rw [if_neg c12] at H
      exact absurd H (by simp)
  · rw [if_neg c8] at H
    have c8b0 : decide ((t140.length : Int) ≤ a1) = false := decide_eq_false c8
    clear c8
    obtain ⟨ji103, hji103⟩ : ∃ j_ : Int, (wrap64 ((t140.length : Int) - a1)) = j_ := ⟨_, rfl⟩
    replace H : (if 0 ≤ (ji103) then (if (ji103) ≤ (t140.length : Int) then ((some (t140.take ((ji103) : Int).toNat : List Int)).bind fun y193 => ((some (([] : List Int) : List Int)).bind fun y198 => (if a0 < 0 then (if y198.length < 140737488355328 then (spec_GroupedText.l0 k a1 a2 a3 a4 t140 y193 (y198 ++ [45]) y193 (y193.length : Int) 0) else (none)) else (spec_GroupedText.l0 k a1 a2 a3 a4 t140 y193 y198 y193 (y193.length : Int) 0)))) else (none)) else (none)) = some r := by first | (rw [hji103] at H; exact H) | (simp only [hji103] at H ⊢; exact H)
    (try rw [hji103] at A6)
    (try rw [hji103] at A7)
    have hji103w : (IntKind.i64.wrap ((t140.length : Int) - a1)) = ji103 := (i64_w _).trans hji103
    by_cases c104 : 0 ≤ (ji103)
    · rw [if_pos c104] at H
      have c104b0 := eq_true c104
      have c104b1 : decide (0 ≤ (ji103)) = true := decide_eq_true c104
      clear c104
      by_cases c105 : (ji103) ≤ (t140.length : Int)
      · rw [if_pos c105] at H
        have c105b0 := eq_true c105
        have c105b1 : decide ((ji103) ≤ (t140.length : Int)) = true := decide_eq_true c105
        clear c105
        obtain ⟨y193, hy193⟩ : ∃ y_ : List Int, y_ = (t140.take ((ji103) : Int).toNat) := ⟨_, rfl⟩
        replace H : ((some (([] : List Int) : List Int)).bind fun y198 => (if a0 < 0 then (if y198.length < 140737488355328 then (spec_GroupedText.l0 k a1 a2 a3 a4 t140 y193 (y198 ++ [45]) y193 (y193.length : Int) 0) else (none)) else (spec_GroupedText.l0 k a1 a2 a3 a4 t140 y193 y198 y193 (y193.length : Int) 0))) = some r := by first | (rw [hy193]; with_reducible exact H) | (have H2_ := (Option.bind_some _ _).symm.trans H; rw [hy193]; with_reducible exact H2_) | (have H2_ := (Option.bind_some _ _).symm.trans H; with_reducible exact H2_) | with_reducible exact H | (rw [hy193]; exact H) | exact H
        have Ny193 := Aside0.mk hy193
        clear hy193
        obtain ⟨y198, hy198⟩ : ∃ y_ : List Int, y_ = (([] : List Int)) := ⟨_, rfl⟩
        replace H : (if a0 < 0 then (if y198.length < 140737488355328 then (spec_GroupedText.l0 k a1 a2 a3 a4 t140 y193 (y198 ++ [45]) y193 (y193.length : Int) 0) else (none)) else (spec_GroupedText.l0 k a1 a2 a3 a4 t140 y193 y198 y193 (y193.length : Int) 0)) = some r := by first | (rw [hy198]; with_reducible exact H) | (have H2_ := (Option.bind_some _ _).symm.trans H; rw [hy198]; with_reducible exact H2_) | (have H2_ := (Option.bind_some _ _).symm.trans H; with_reducible exact H2_) | with_reducible exact H | (rw [hy198]; exact H) | exact H
        have Ny198 := Aside0.mk hy198
        clear hy198
        by_cases c106 : a0 < 0
        · rw [if_pos c106] at H
          have c106b0 : decide (a0 < 0) = true := decide_eq_true c106
          clear c106
          by_cases c107 : y198.length < 140737488355328
          · rw [if_pos c107] at H
            have LMc107 := Aside0.mk c107
            clear c107
            obtain ⟨y201, hy201⟩ : ∃ y_ : List Int, y_ = (y198 ++ [45]) := ⟨_, rfl⟩
            replace H : (spec_GroupedText.l0 k a1 a2 a3 a4 t140 y193 y201 y193 (y193.length : Int) 0) = some r := by first | (rw [hy201]; with_reducible exact H) | (have H2_ := (Option.bind_some _ _).symm.trans H; rw [hy201]; with_reducible exact H2_) | (have H2_ := (Option.bind_some _ _).symm.trans H; with_reducible exact H2_) | with_reducible exact H | (rw [hy201]; exact H) | exact H
            have Ny201 := Aside0.mk hy201
            clear hy201
            have H' := Aside0.mk H
            clear H
            go_enter Try.func9, Try.ntmps9
            go_wp2_with (first | ((with_reducible refine gate_callee (f := 14) rfl ?_); refine goesL_ (some 17) rfl rfl Try.func14 (by kernel_rfl) rfl #[.int .i64 a0] rfl (by (try simp only [List.map_toArray, List.map_cons, List.map_nil]); first | done | rfl | (simp only [List.length_drop, List.length_take]; rfl)) ?_; (with_reducible refine (spec_size.calls a0 t139 _ A6.out).mono ?_); rintro e w' ⟨rfl, ⟨nd, rfl⟩⟩; refine ⟨_, rfl, ?_⟩) | ((with_reducible refine gate_callee (f := 13) rfl ?_); refine goesL_ (some 18) rfl rfl Try.func13 (by kernel_rfl) rfl #[.int .u64 t139] rfl (by (try simp only [List.map_toArray, List.map_cons, List.map_nil]); first | done | rfl | (simp only [List.length_drop, List.length_take]; rfl)) ?_; (with_reducible refine (spec_Digits.calls k t139 t140 _ A7.out).mono ?_); rintro e w108 ⟨v141, rfl, ho0, hb⟩; refine ⟨_, rfl, ?_⟩; have n0_ := Aside0.mk (Kd.R_lower ho0 (below_size (by repeat (first | (with_reducible first | exact HB.out | apply below_alloc | apply pw_below_drewN | apply below_drew1) | exact HB.out)))); have n1_ := Aside0.mk (below_step (by repeat (first | (with_reducible first | exact HB.out | apply below_alloc | apply pw_below_drewN | apply below_drew1) | exact HB.out)) hb); clear HB; have HO142 := n0_; have HB := n1_; clear n0_ n1_; (try clear hb); (try clear hb2); (try clear hk); (try clear hi); (try clear ho0); obtain ⟨Ao109, co109, eo109⟩ := Kd.R_slice HO142.out; subst eo109; have q110 : ((ji103) : Int) ≤ ((t140.length : Int) : Int) := of_decide_eq_true (by first | (with_reducible assumption) | assumption); obtain ⟨i0110, hi0110, _, hsz110, _⟩ := info_parts info5; have hroom110 : t140.length ≤ co109 := (Kd.R_reads' HO142.out).2.1; have hC110 : Kd.F (Kd.int .u8) _ _ Ao109 t140.length t140 := (Kd.V_at (base := w.heap.size) (Kd.R_V HO142.out)).2.2; have hcut110 := cut_to (P := Try.prog) 22 5 .i64 Try.underlying22 hi0110 Ao109 t140.length co109 (ji103) (of_decide_eq_true (by first | (with_reducible assumption) | assumption)) q110 hroom110; have hr110 := Kd.F_take (m := ((ji103) : Int).toNat) hC110 (by omega); have hy110 : y193.length = ((ji103) : Int).toNat := (by rw [Ny193.out, List.length_take]; omega); rw [← Ny193.out] at hr110; rw [← hy110] at hcut110; have HO197 := Aside0.mk (show Kd.V (Kd.int .u8) 5 _ w.heap.size _ (.slice Ao109 y193.length co109) y193 from Kd.V_mk (by omega) hr110); have HC197 := Aside0.mk (show y193.length ≤ co109 from by omega); clear hr110 hC110 hroom110 hi0110 hsz110; have KY110 := Aside0.mk hy110; clear hy110; replace q110 := eq_true q110) | ((with_reducible refine gate_dst (N := 38) rfl ?_); (try (refine gate_guard (by rfl) ?_; dsimp only)); refine Kd.R_lit (Kd.int .u8) _ 5 ?hg (N := 38) ?hd (xs := ([] : List Int)) (inner := []) (ok := fun _ => True) (okp := fun _ => True) ?hr ?hp (fun _ hk => hk) trivial (Below.refl _ _) (Nat.le_refl _) (by simp) ?_; (case hd => rfl); (case hg => rfl); (case hr => first | (go_simp; done) | (go_simp; rfl)); (case hp => exact (Reps.none _ _)); intro v199 w111 ho112 hb hg_ hnew_; clear hg_ hnew_; (first | rw [← Ny198.out] at ho112 | (simp only [Int.reduceToNat] at ho112; rw [← Ny198.out] at ho112)); have n0_ := Aside0.mk (Kd.R_elder' (by (with_reducible repeat (first | apply Kd.R_alloc | apply Kd.R_drewN | apply Kd.R_drew)); exact HO142.out) (Kd.R_base ho112) hb); have n1_ := Aside0.mk (Kd.V_elder' (by (with_reducible repeat (first | apply Kd.V_alloc | apply Kd.V_drewN | apply Kd.V_drew)); exact HO197.out) (Kd.R_base ho112) hb); have n2_ := Aside0.mk (Kd.R_lower (Kd.R_new' ho112 (Kd.R_lt (by (with_reducible repeat (first | apply Kd.R_alloc | apply Kd.R_drewN | apply Kd.R_drew)); exact HO142.out))) (below_size (by repeat (first | (with_reducible first | exact HB.out | apply below_alloc | apply pw_below_drewN | apply below_drew1) | exact HB.out)))); have n3_ := Aside0.mk (below_step (by repeat (first | (with_reducible first | exact HB.out | apply below_alloc | apply pw_below_drewN | apply below_drew1) | exact HB.out)) hb); clear HO142; clear HO197; clear HB; have HO142 := n0_; have HO197 := n1_; have HO200 := n2_; have HB := n3_; clear n0_ n1_ n2_ n3_; clear hb ho112) | ((with_reducible refine gate_builtin (b := .append) (xs := #[.tmp 41, .tmp 42]) rfl ?_); (try (refine gate_guard (by rfl) ?_; dsimp only)); at_builtin; refine Kd.R_append (Kd.int .u8) (w0 := w) w.heap.size rfl (.tmp 41) (.tmp 42) 22 5 (.int .u8 0) 1 rfl Try.underlying22 info5 rfl (by decide) (by omega) v199 y198 45 [.int .u8 45] (fun k_ => some k_ ≠ (.slice Ao109 t140.length co109 : Value).ownBlock) (fun _ => False) rfl rfl ?aP (fun _ hk => hk.elim) ?aF ?aO ?aB ?aS ?aL ?_; (case aP => exact rfl); (case aB => exact (by repeat (first | (with_reducible first | exact HB.out | apply below_alloc | apply pw_below_drewN | apply below_drew1) | exact HB.out))); (case aF => exact (fun k_ hk => Kd.fresh' (Kd.R_lt (by (with_reducible repeat (first | apply Kd.R_alloc | apply Kd.R_drewN | apply Kd.R_drew)); exact HO142.out)) k_ hk)); (case aO => exact (by (with_reducible repeat (first | apply Kd.R_alloc | apply Kd.R_drewN | apply Kd.R_drew)); exact Kd.R_mono HO200.out (fun _ hk => hk.2))); (case aS => exact (below_size (by repeat (first | (with_reducible first | exact HB.out | apply below_alloc | apply pw_below_drewN | apply below_drew1) | exact HB.out)))); (case aL => have := LMc107.out; omega); intro v202 w113 ho hb hg hat; rw [← Ny201.out] at ho; have n0_ := Aside0.mk (Kd.R_after (ok := (fun _ => True)) (by (with_reducible repeat (first | apply Kd.R_alloc | apply Kd.R_drewN | apply Kd.R_drew)); exact HO142.out) hg hat); have n1_ := Aside0.mk (Kd.V_afterv (ok := (fun _ => True)) (by (with_reducible repeat (first | apply Kd.V_alloc | apply Kd.V_drewN | apply Kd.V_drew)); exact HO197.out) hg hat); have n2_ := Aside0.mk (hb); have n3_ := Aside0.mk (ho); clear HO142; clear HO197; clear HB; clear HO200; have HO142 := n0_; have HO197 := n1_; have HB := n2_; have HO203 := n3_; clear n0_ n1_ n2_ n3_; clear ho hb hg hat))
            go_loopg [13, 46] k (fun kq v13 v46 w' => ∃ (x13_1 : List Int) (x46_1 : Int), v46 = .int .i64 x46_1 ∧ Aside0 (spec_GroupedText.l0 kq a1 a2 a3 a4 t140 y193 x13_1 y193 (y193.length : Int) x46_1 = some r) ∧ Aside0 (kq ≤ k) ∧ Aside0 (Kd.R (Kd.int .u8) 5 w' w.heap.size (fun k_ => some k_ ≠ (v13 : Value).ownBlock) (.slice Ao109 t140.length co109) t140) ∧ Aside0 (Kd.V (Kd.int .u8) 5 w' w.heap.size (fun k_ => some k_ ≠ (v13 : Value).ownBlock) (.slice Ao109 y193.length co109) y193) ∧ Aside0 (Kd.R (Kd.int .u8) 5 w' w.heap.size (fun k_ => some k_ ≠ ((.slice Ao109 t140.length co109) : Value).ownBlock) v13 x13_1) ∧ Aside0 (Kd.V (Kd.int .u8) 5 w' w.heap.size (fun k_ => some k_ ≠ (v13 : Value).ownBlock) (.slice Ao109 y193.length co109) y193) ∧ Aside0 (Below w.heap.size w w'))
            case atStart => exact ⟨(y201), (0), (by first | rfl | (simp; done) | (simp [*]; done)), H', ⟨Nat.le_refl _⟩, ⟨by (with_reducible repeat (first | apply Kd.R_alloc | apply Kd.R_drewN | apply Kd.R_drew)); exact Kd.R_mono HO142.out (fun _ hk => hk.2)⟩, ⟨by (with_reducible repeat (first | apply Kd.V_alloc | apply Kd.V_drewN | apply Kd.V_drew)); exact Kd.V_mono HO197.out (fun _ hk => hk.2)⟩, ⟨by (with_reducible repeat (first | apply Kd.R_alloc | apply Kd.R_drewN | apply Kd.R_drew)); exact HO203.out⟩, ⟨by (with_reducible repeat (first | apply Kd.V_alloc | apply Kd.V_drewN | apply Kd.V_drew)); exact Kd.V_mono HO197.out (fun _ hk => hk.2)⟩, ⟨by repeat (first | (with_reducible first | exact HB.out | apply below_alloc | apply pw_below_drewN | apply below_drew1) | exact HB.out)⟩⟩
            case round =>
              clear H'
              try clear c1
              try clear p1
              try clear q1
              try clear hx1
              try clear c2
              try clear p2
              try clear q2
              try clear c3
              try clear c4
              try clear c5
              try clear q5
              try clear p6
              try clear q6
              try clear c7
              try clear c8
              try clear c8b0
              try clear c9
              try clear q9
              try clear c10
              try clear q11
              try clear c12
              try clear c12b0
              try clear c12b1
              try clear c13
              try clear c13b0
              try clear c13b1
              try clear c14
              try clear c14b0
              try clear c15
              try clear p16
              try clear q16
              try clear hx16
              try clear q25
              try clear c29
              try clear c29b0
              try clear c30
              try clear c30b0
              try clear c31
              try clear c31b0
              try clear c32
              try clear c32b0
              try clear c33
              try clear c33b0
              try clear c34
              try clear c34b0
              try clear c34b1
              try clear c35
              try clear c35b0
              try clear c35b1
              try clear c36
              try clear c37
              try clear c40
              try clear c42
              try clear c44
              try clear c46
              try clear c46b0
              try clear c48
              try clear c48b0
              try clear c48b1
              try clear c49
              try clear c49b0
              try clear c49b1
              try clear c53
              try clear q53
              try clear p64
              try clear q69
              try clear c72
              try clear c72b0
              try clear c73
              try clear c73b0
              try clear c74
              try clear c74b0
              try clear c75
              try clear c75b0
              try clear c76
              try clear c76b0
              try clear c77
              try clear c77b0
              try clear c77b1
              try clear c78
              try clear c78b0
              try clear c78b1
              try clear c79
              try clear c80
              try clear c83
              try clear c85
              try clear c87
              try clear c89
              try clear c89b0
              try clear c91
              try clear c91b0
              try clear c91b1
              try clear c92
              try clear c92b0
              try clear c92b1
              try clear c96
              try clear q96
              try clear c104
              try clear c104b0
              try clear c104b1
              try clear c105
              try clear c105b0
              try clear c105b1
              try clear c106
              try clear c106b0
              try clear c107
              try clear q110
              try clear hx163_0
              try clear p1
              try clear p16
              try clear p163
              try clear p2
              try clear p6
              try clear p64
              try clear q053
              try clear q096
              try clear q1
              try clear q110
              try clear q16
              try clear q163
              try clear q2
              try clear q25
              try clear q5
              try clear q53
              try clear q6
              try clear q69
              try clear q96
              obtain ⟨x13_1, x46_1, rfl, HA, HK1, HO_11, HO_12, HO_13, HO_44, HB⟩ := hrel
              cases gk with
              | zero => exact absurd HA.out (by simp [spec_GroupedText.l0])
              | succ k1 =>
                have H := HA.out
                clear HA
                simp only [spec_GroupedText.l0] at H
                by_cases c114 : x46_1 < (y193.length : Int)
                · rw [if_pos c114] at H
                  have c114b0 : decide (x46_1 < (y193.length : Int)) = true := decide_eq_true c114
                  clear c114
                  by_cases c115 : 0 ≤ x46_1
                  · rw [if_pos c115] at H
                    have c115b0 : decide (0 ≤ x46_1) = true := decide_eq_true c115
                    clear c115
                    by_cases c116 : x46_1 < (y193.length : Int)
                    · rw [if_pos c116] at H
                      have c116b0 : decide (x46_1 < (y193.length : Int)) = true := decide_eq_true c116
                      clear c116
                      by_cases c117 : x46_1 > 0
                      · rw [if_pos c117] at H
                        have c117b0 : decide (0 < x46_1) = true := decide_eq_true c117
                        clear c117
                        by_cases c118 : a2 > 0
                        · rw [if_pos c118] at H
                          have c118b0 : decide (0 < a2) = true := decide_eq_true c118
                          clear c118
                          by_cases c119 : a2 = 0
                          · rw [if_pos c119] at H
                            exact absurd H (by simp)
                          · rw [if_neg c119] at H
                            have c119b0 : (a2 == 0) = false := beq_eq_false_iff_ne.mpr c119
                            have c119b1 : (a2 != 0) = true := bne_iff_ne.mpr c119
                            by_cases c120 : (Int.tmod (wrap64 ((y193.length : Int) - x46_1)) a2) = 0
                            · rw [if_pos c120] at H
                              have c120b0 : ((Int.tmod (wrap64 ((y193.length : Int) - x46_1)) a2) == 0) = true := beq_iff_eq.mpr c120
                              have c120b1 : ((Int.tmod (wrap64 ((y193.length : Int) - x46_1)) a2) != 0) = false := bne_eq_false_iff_eq.mpr c120
                              clear c120
                              by_cases c121 : x13_1.length < 140737488355328
                              · rw [if_pos c121] at H
                                have LMc121 := Aside0.mk c121
                                clear c121
                                obtain ⟨y164, hy164⟩ : ∃ y_ : List Int, y_ = (x13_1 ++ [a3]) := ⟨_, rfl⟩
                                replace H : (if y164.length < 140737488355328 then (spec_GroupedText.l0 k1 a1 a2 a3 a4 t140 y193 (y164 ++ [rd y193 x46_1]) y193 (y193.length : Int) (wrap64 (x46_1 + 1))) else (none)) = some r := by first | (rw [hy164]; with_reducible exact H) | (have H2_ := (Option.bind_some _ _).symm.trans H; rw [hy164]; with_reducible exact H2_) | (have H2_ := (Option.bind_some _ _).symm.trans H; with_reducible exact H2_) | with_reducible exact H | (rw [hy164]; exact H) | exact H
                                have Ny164 := Aside0.mk hy164
                                clear hy164
                                by_cases c122 : y164.length < 140737488355328
                                · rw [if_pos c122] at H
                                  have LMc122 := Aside0.mk c122
                                  clear c122
                                  obtain ⟨y167, hy167⟩ : ∃ y_ : List Int, y_ = (y164 ++ [rd y193 x46_1]) := ⟨_, rfl⟩
                                  replace H : (spec_GroupedText.l0 k1 a1 a2 a3 a4 t140 y193 y167 y193 (y193.length : Int) (wrap64 (x46_1 + 1))) = some r := by first | (rw [hy167]; with_reducible exact H) | (have H2_ := (Option.bind_some _ _).symm.trans H; rw [hy167]; with_reducible exact H2_) | (have H2_ := (Option.bind_some _ _).symm.trans H; with_reducible exact H2_) | with_reducible exact H | (rw [hy167]; exact H) | exact H
                                  have Ny167 := Aside0.mk hy167
                                  clear hy167
                                  have H' := Aside0.mk H
                                  clear H
                                  have p163 : 0 ≤ (x46_1 : Int) := of_decide_eq_true (by first | (with_reducible assumption) | assumption)
                                  have q163 : x46_1 < (y193.length : Int) := of_decide_eq_true (by first | (with_reducible assumption) | assumption)
                                  obtain ⟨ad163, e163, hx163_0⟩ := Kd.at_int (Kd.V_reads' HO_44.out).2.2 x46_1 p163 q163
                                  cases e163
                                  replace p163 := eq_true p163
                                  replace q163 := eq_true q163
                                  go_wp2_with (first | ((with_reducible refine gate_builtin (b := .append) (xs := #[.tmp 66, .tmp 68]) rfl ?_); (try (refine gate_guard (by rfl) ?_; dsimp only)); at_builtin; refine Kd.R_append (Kd.int .u8) (w0 := w) w.heap.size rfl (.tmp 66) (.tmp 68) 22 5 (.int .u8 0) 1 rfl Try.underlying22 info5 rfl (by decide) (by omega) u13 x13_1 a3 [.int .u8 a3] (fun k_ => some k_ ≠ (.slice (some ad163) t140.length co109 : Value).ownBlock) (fun _ => False) rfl rfl ?aP (fun _ hk => hk.elim) ?aF ?aO ?aB ?aS ?aL ?_; (case aP => exact rfl); (case aB => exact (by repeat (first | (with_reducible first | exact HB.out | apply below_alloc | apply pw_below_drewN | apply below_drew1) | exact HB.out))); (case aF => exact (fun k_ hk => Kd.fresh' (Kd.R_lt (by (with_reducible repeat (first | apply Kd.R_alloc | apply Kd.R_drewN | apply Kd.R_drew)); exact HO_11.out)) k_ hk)); (case aO => exact (by (with_reducible repeat (first | apply Kd.R_alloc | apply Kd.R_drewN | apply Kd.R_drew)); exact HO_13.out)); (case aS => exact (below_size (by repeat (first | (with_reducible first | exact HB.out | apply below_alloc | apply pw_below_drewN | apply below_drew1) | exact HB.out)))); (case aL => have := LMc121.out; omega); intro v165 w123 ho hb hg hat; rw [← Ny164.out] at ho; have n0_ := Aside0.mk (Kd.R_after (ok := (fun _ => True)) (by (with_reducible repeat (first | apply Kd.R_alloc | apply Kd.R_drewN | apply Kd.R_drew)); exact Kd.R_mono HO_11.out (fun _ hk => ⟨trivial, hk⟩)) hg hat); have n1_ := Aside0.mk (Kd.V_afterv (ok := (fun _ => True)) (by (with_reducible repeat (first | apply Kd.V_alloc | apply Kd.V_drewN | apply Kd.V_drew)); exact Kd.V_mono HO_12.out (fun _ hk => ⟨trivial, hk⟩)) hg hat); have n2_ := Aside0.mk (Kd.V_afterv (ok := (fun _ => True)) (by (with_reducible repeat (first | apply Kd.V_alloc | apply Kd.V_drewN | apply Kd.V_drew)); exact Kd.V_mono HO_44.out (fun _ hk => ⟨trivial, hk⟩)) hg hat); have n3_ := Aside0.mk (hb); have n4_ := Aside0.mk (ho); clear HO_11; clear HO_12; clear HO_44; clear HB; clear HO_13; have HO_11 := n0_; have HO_12 := n1_; have HO_44 := n2_; have HB := n3_; have HO166 := n4_; clear n0_ n1_ n2_ n3_ n4_; clear ho hb hg hat) | ((with_reducible refine gate_builtin (b := .append) (xs := #[.tmp 70, .tmp 72]) rfl ?_); (try (refine gate_guard (by rfl) ?_; dsimp only)); at_builtin; refine Kd.R_append (Kd.int .u8) (w0 := w) w.heap.size rfl (.tmp 70) (.tmp 72) 22 5 (.int .u8 0) 1 rfl Try.underlying22 info5 rfl (by decide) (by omega) v165 y164 (rd y193 x46_1) [.int .u8 (rd y193 x46_1)] (fun k_ => some k_ ≠ (.slice (some ad163) t140.length co109 : Value).ownBlock) (fun _ => False) rfl rfl ?aP (fun _ hk => hk.elim) ?aF ?aO ?aB ?aS ?aL ?_; (case aP => exact rfl); (case aB => exact (by repeat (first | (with_reducible first | exact HB.out | apply below_alloc | apply pw_below_drewN | apply below_drew1) | exact HB.out))); (case aF => exact (fun k_ hk => Kd.fresh' (Kd.R_lt (by (with_reducible repeat (first | apply Kd.R_alloc | apply Kd.R_drewN | apply Kd.R_drew)); exact HO_11.out)) k_ hk)); (case aO => exact (by (with_reducible repeat (first | apply Kd.R_alloc | apply Kd.R_drewN | apply Kd.R_drew)); exact HO166.out)); (case aS => exact (below_size (by repeat (first | (with_reducible first | exact HB.out | apply below_alloc | apply pw_below_drewN | apply below_drew1) | exact HB.out)))); (case aL => have := LMc122.out; omega); intro v168 w124 ho hb hg hat; rw [← Ny167.out] at ho; have n0_ := Aside0.mk (Kd.R_after (ok := (fun _ => True)) (by (with_reducible repeat (first | apply Kd.R_alloc | apply Kd.R_drewN | apply Kd.R_drew)); exact HO_11.out) hg hat); have n1_ := Aside0.mk (Kd.V_afterv (ok := (fun _ => True)) (by (with_reducible repeat (first | apply Kd.V_alloc | apply Kd.V_drewN | apply Kd.V_drew)); exact HO_12.out) hg hat); have n2_ := Aside0.mk (Kd.V_afterv (ok := (fun _ => True)) (by (with_reducible repeat (first | apply Kd.V_alloc | apply Kd.V_drewN | apply Kd.V_drew)); exact HO_44.out) hg hat); have n3_ := Aside0.mk (hb); have n4_ := Aside0.mk (ho); clear HO_11; clear HO_12; clear HO_44; clear HB; clear HO166; have HO_11 := n0_; have HO_12 := n1_; have HO_44 := n2_; have HB := n3_; have HO169 := n4_; clear n0_ n1_ n2_ n3_ n4_; clear ho hb hg hat))
                                  go_roundg k1
                                  case measure => have := HK1.out; omega
                                  case rel => exact ⟨(y167), (wrap64 (x46_1 + 1)), (by first | rfl | (simp; done) | (simp [*]; done)), H', ⟨by have := HK1.out; omega⟩, ⟨by (with_reducible repeat (first | apply Kd.R_alloc | apply Kd.R_drewN | apply Kd.R_drew)); exact Kd.R_mono HO_11.out (fun _ hk => hk.2)⟩, ⟨by (with_reducible repeat (first | apply Kd.V_alloc | apply Kd.V_drewN | apply Kd.V_drew)); exact Kd.V_mono HO_12.out (fun _ hk => hk.2)⟩, ⟨by (with_reducible repeat (first | apply Kd.R_alloc | apply Kd.R_drewN | apply Kd.R_drew)); exact HO169.out⟩, ⟨by (with_reducible repeat (first | apply Kd.V_alloc | apply Kd.V_drewN | apply Kd.V_drew)); exact Kd.V_mono HO_44.out (fun _ hk => hk.2)⟩, ⟨by repeat (first | (with_reducible first | exact HB.out | apply below_alloc | apply pw_below_drewN | apply below_drew1) | exact HB.out)⟩⟩
                                · rw [if_neg c122] at H
                                  exact absurd H (by simp)
                              · rw [if_neg c121] at H
                                exact absurd H (by simp)
                            · rw [if_neg c120] at H
                              have c120b0 : ((Int.tmod (wrap64 ((y193.length : Int) - x46_1)) a2) == 0) = false := beq_eq_false_iff_ne.mpr c120
                              have c120b1 : ((Int.tmod (wrap64 ((y193.length : Int) - x46_1)) a2) != 0) = true := bne_iff_ne.mpr c120
                              by_cases c125 : x13_1.length < 140737488355328
                              · rw [if_pos c125] at H
                                have LMc125 := Aside0.mk c125
                                clear c125
                                obtain ⟨y170, hy170⟩ : ∃ y_ : List Int, y_ = (x13_1 ++ [rd y193 x46_1]) := ⟨_, rfl⟩
                                replace H : (spec_GroupedText.l0 k1 a1 a2 a3 a4 t140 y193 y170 y193 (y193.length : Int) (wrap64 (x46_1 + 1))) = some r := by first | (rw [hy170]; with_reducible exact H) | (have H2_ := (Option.bind_some _ _).symm.trans H; rw [hy170]; with_reducible exact H2_) | (have H2_ := (Option.bind_some _ _).symm.trans H; with_reducible exact H2_) | with_reducible exact H | (rw [hy170]; exact H) | exact H
                                have Ny170 := Aside0.mk hy170
                                clear hy170
                                have H' := Aside0.mk H
                                clear H
                                have p163 : 0 ≤ (x46_1 : Int) := of_decide_eq_true (by first | (with_reducible assumption) | assumption)
                                have q163 : x46_1 < (y193.length : Int) := of_decide_eq_true (by first | (with_reducible assumption) | assumption)
                                obtain ⟨ad163, e163, hx163_0⟩ := Kd.at_int (Kd.V_reads' HO_44.out).2.2 x46_1 p163 q163
                                cases e163
                                replace p163 := eq_true p163
                                replace q163 := eq_true q163
                                go_wp2_with (first | ((with_reducible refine gate_builtin (b := .append) (xs := #[.tmp 70, .tmp 72]) rfl ?_); (try (refine gate_guard (by rfl) ?_; dsimp only)); at_builtin; refine Kd.R_append (Kd.int .u8) (w0 := w) w.heap.size rfl (.tmp 70) (.tmp 72) 22 5 (.int .u8 0) 1 rfl Try.underlying22 info5 rfl (by decide) (by omega) u13 x13_1 (rd y193 x46_1) [.int .u8 (rd y193 x46_1)] (fun k_ => some k_ ≠ (.slice (some ad163) t140.length co109 : Value).ownBlock) (fun _ => False) rfl rfl ?aP (fun _ hk => hk.elim) ?aF ?aO ?aB ?aS ?aL ?_; (case aP => exact rfl); (case aB => exact (by repeat (first | (with_reducible first | exact HB.out | apply below_alloc | apply pw_below_drewN | apply below_drew1) | exact HB.out))); (case aF => exact (fun k_ hk => Kd.fresh' (Kd.R_lt (by (with_reducible repeat (first | apply Kd.R_alloc | apply Kd.R_drewN | apply Kd.R_drew)); exact HO_11.out)) k_ hk)); (case aO => exact (by (with_reducible repeat (first | apply Kd.R_alloc | apply Kd.R_drewN | apply Kd.R_drew)); exact HO_13.out)); (case aS => exact (below_size (by repeat (first | (with_reducible first | exact HB.out | apply below_alloc | apply pw_below_drewN | apply below_drew1) | exact HB.out)))); (case aL => have := LMc125.out; omega); intro v171 w126 ho hb hg hat; rw [← Ny170.out] at ho; have n0_ := Aside0.mk (Kd.R_after (ok := (fun _ => True)) (by (with_reducible repeat (first | apply Kd.R_alloc | apply Kd.R_drewN | apply Kd.R_drew)); exact Kd.R_mono HO_11.out (fun _ hk => ⟨trivial, hk⟩)) hg hat); have n1_ := Aside0.mk (Kd.V_afterv (ok := (fun _ => True)) (by (with_reducible repeat (first | apply Kd.V_alloc | apply Kd.V_drewN | apply Kd.V_drew)); exact Kd.V_mono HO_12.out (fun _ hk => ⟨trivial, hk⟩)) hg hat); have n2_ := Aside0.mk (Kd.V_afterv (ok := (fun _ => True)) (by (with_reducible repeat (first | apply Kd.V_alloc | apply Kd.V_drewN | apply Kd.V_drew)); exact Kd.V_mono HO_44.out (fun _ hk => ⟨trivial, hk⟩)) hg hat); have n3_ := Aside0.mk (hb); have n4_ := Aside0.mk (ho); clear HO_11; clear HO_12; clear HO_44; clear HB; clear HO_13; have HO_11 := n0_; have HO_12 := n1_; have HO_44 := n2_; have HB := n3_; have HO172 := n4_; clear n0_ n1_ n2_ n3_ n4_; clear ho hb hg hat))
                                go_roundg k1
                                case measure => have := HK1.out; omega
                                case rel => exact ⟨(y170), (wrap64 (x46_1 + 1)), (by first | rfl | (simp; done) | (simp [*]; done)), H', ⟨by have := HK1.out; omega⟩, ⟨by (with_reducible repeat (first | apply Kd.R_alloc | apply Kd.R_drewN | apply Kd.R_drew)); exact Kd.R_mono HO_11.out (fun _ hk => hk.2)⟩, ⟨by (with_reducible repeat (first | apply Kd.V_alloc | apply Kd.V_drewN | apply Kd.V_drew)); exact Kd.V_mono HO_12.out (fun _ hk => hk.2)⟩, ⟨by (with_reducible repeat (first | apply Kd.R_alloc | apply Kd.R_drewN | apply Kd.R_drew)); exact HO172.out⟩, ⟨by (with_reducible repeat (first | apply Kd.V_alloc | apply Kd.V_drewN | apply Kd.V_drew)); exact Kd.V_mono HO_44.out (fun _ hk => hk.2)⟩, ⟨by repeat (first | (with_reducible first | exact HB.out | apply below_alloc | apply pw_below_drewN | apply below_drew1) | exact HB.out)⟩⟩
                              · rw [if_neg c125] at H
                                exact absurd H (by simp)
                        · rw [if_neg c118] at H
                          have c118b0 : decide (0 < a2) = false := decide_eq_false c118
                          clear c118
                          by_cases c127 : x13_1.length < 140737488355328
                          · rw [if_pos c127] at H
                            have LMc127 := Aside0.mk c127
                            clear c127
                            obtain ⟨y173, hy173⟩ : ∃ y_ : List Int, y_ = (x13_1 ++ [rd y193 x46_1]) := ⟨_, rfl⟩
                            replace H : (spec_GroupedText.l0 k1 a1 a2 a3 a4 t140 y193 y173 y193 (y193.length : Int) (wrap64 (x46_1 + 1))) = some r := by first | (rw [hy173]; with_reducible exact H) | (have H2_ := (Option.bind_some _ _).symm.trans H; rw [hy173]; with_reducible exact H2_) | (have H2_ := (Option.bind_some _ _).symm.trans H; with_reducible exact H2_) | with_reducible exact H | (rw [hy173]; exact H) | exact H
                            have Ny173 := Aside0.mk hy173
                            clear hy173
                            have H' := Aside0.mk H
                            clear H
                            have p163 : 0 ≤ (x46_1 : Int) := of_decide_eq_true (by first | (with_reducible assumption) | assumption)
                            have q163 : x46_1 < (y193.length : Int) := of_decide_eq_true (by first | (with_reducible assumption) | assumption)
                            obtain ⟨ad163, e163, hx163_0⟩ := Kd.at_int (Kd.V_reads' HO_44.out).2.2 x46_1 p163 q163
                            cases e163
                            replace p163 := eq_true p163
                            replace q163 := eq_true q163
                            go_wp2_with (first | ((with_reducible refine gate_builtin (b := .append) (xs := #[.tmp 70, .tmp 72]) rfl ?_); (try (refine gate_guard (by rfl) ?_; dsimp only)); at_builtin; refine Kd.R_append (Kd.int .u8) (w0 := w) w.heap.size rfl (.tmp 70) (.tmp 72) 22 5 (.int .u8 0) 1 rfl Try.underlying22 info5 rfl (by decide) (by omega) u13 x13_1 (rd y193 x46_1) [.int .u8 (rd y193 x46_1)] (fun k_ => some k_ ≠ (.slice (some ad163) t140.length co109 : Value).ownBlock) (fun _ => False) rfl rfl ?aP (fun _ hk => hk.elim) ?aF ?aO ?aB ?aS ?aL ?_; (case aP => exact rfl); (case aB => exact (by repeat (first | (with_reducible first | exact HB.out | apply below_alloc | apply pw_below_drewN | apply below_drew1) | exact HB.out))); (case aF => exact (fun k_ hk => Kd.fresh' (Kd.R_lt (by (with_reducible repeat (first | apply Kd.R_alloc | apply Kd.R_drewN | apply Kd.R_drew)); exact HO_11.out)) k_ hk)); (case aO => exact (by (with_reducible repeat (first | apply Kd.R_alloc | apply Kd.R_drewN | apply Kd.R_drew)); exact HO_13.out)); (case aS => exact (below_size (by repeat (first | (with_reducible first | exact HB.out | apply below_alloc | apply pw_below_drewN | apply below_drew1) | exact HB.out)))); (case aL => have := LMc127.out; omega); intro v174 w128 ho hb hg hat; rw [← Ny173.out] at ho; have n0_ := Aside0.mk (Kd.R_after (ok := (fun _ => True)) (by (with_reducible repeat (first | apply Kd.R_alloc | apply Kd.R_drewN | apply Kd.R_drew)); exact Kd.R_mono HO_11.out (fun _ hk => ⟨trivial, hk⟩)) hg hat); have n1_ := Aside0.mk (Kd.V_afterv (ok := (fun _ => True)) (by (with_reducible repeat (first | apply Kd.V_alloc | apply Kd.V_drewN | apply Kd.V_drew)); exact Kd.V_mono HO_12.out (fun _ hk => ⟨trivial, hk⟩)) hg hat); have n2_ := Aside0.mk (Kd.V_afterv (ok := (fun _ => True)) (by (with_reducible repeat (first | apply Kd.V_alloc | apply Kd.V_drewN | apply Kd.V_drew)); exact Kd.V_mono HO_44.out (fun _ hk => ⟨trivial, hk⟩)) hg hat); have n3_ := Aside0.mk (hb); have n4_ := Aside0.mk (ho); clear HO_11; clear HO_12; clear HO_44; clear HB; clear HO_13; have HO_11 := n0_; have HO_12 := n1_; have HO_44 := n2_; have HB := n3_; have HO175 := n4_; clear n0_ n1_ n2_ n3_ n4_; clear ho hb hg hat))
                            go_roundg k1
                            case measure => have := HK1.out; omega
                            case rel => exact ⟨(y173), (wrap64 (x46_1 + 1)), (by first | rfl | (simp; done) | (simp [*]; done)), H', ⟨by have := HK1.out; omega⟩, ⟨by (with_reducible repeat (first | apply Kd.R_alloc | apply Kd.R_drewN | apply Kd.R_drew)); exact Kd.R_mono HO_11.out (fun _ hk => hk.2)⟩, ⟨by (with_reducible repeat (first | apply Kd.V_alloc | apply Kd.V_drewN | apply Kd.V_drew)); exact Kd.V_mono HO_12.out (fun _ hk => hk.2)⟩, ⟨by (with_reducible repeat (first | apply Kd.R_alloc | apply Kd.R_drewN | apply Kd.R_drew)); exact HO175.out⟩, ⟨by (with_reducible repeat (first | apply Kd.V_alloc | apply Kd.V_drewN | apply Kd.V_drew)); exact Kd.V_mono HO_44.out (fun _ hk => hk.2)⟩, ⟨by repeat (first | (with_reducible first | exact HB.out | apply below_alloc | apply pw_below_drewN | apply below_drew1) | exact HB.out)⟩⟩
                          · rw [if_neg c127] at H
                            exact absurd H (by simp)
                      · rw [if_neg c117] at H
                        have c117b0 : decide (0 < x46_1) = false := decide_eq_false c117
                        clear c117
                        by_cases c129 : x13_1.length < 140737488355328
                        · rw [if_pos c129] at H
                          have LMc129 := Aside0.mk c129
                          clear c129
                          obtain ⟨y176, hy176⟩ : ∃ y_ : List Int, y_ = (x13_1 ++ [rd y193 x46_1]) := ⟨_, rfl⟩
                          replace H : (spec_GroupedText.l0 k1 a1 a2 a3 a4 t140 y193 y176 y193 (y193.length : Int) (wrap64 (x46_1 + 1))) = some r := by first | (rw [hy176]; with_reducible exact H) | (have H2_ := (Option.bind_some _ _).symm.trans H; rw [hy176]; with_reducible exact H2_) | (have H2_ := (Option.bind_some _ _).symm.trans H; with_reducible exact H2_) | with_reducible exact H | (rw [hy176]; exact H) | exact H
                          have Ny176 := Aside0.mk hy176
                          clear hy176
                          have H' := Aside0.mk H
                          clear H
                          have p163 : 0 ≤ (x46_1 : Int) := of_decide_eq_true (by first | (with_reducible assumption) | assumption)
                          have q163 : x46_1 < (y193.length : Int) := of_decide_eq_true (by first | (with_reducible assumption) | assumption)
                          obtain ⟨ad163, e163, hx163_0⟩ := Kd.at_int (Kd.V_reads' HO_44.out).2.2 x46_1 p163 q163
                          cases e163
                          replace p163 := eq_true p163
                          replace q163 := eq_true q163
                          go_wp2_with (first | ((with_reducible refine gate_builtin (b := .append) (xs := #[.tmp 70, .tmp 72]) rfl ?_); (try (refine gate_guard (by rfl) ?_; dsimp only)); at_builtin; refine Kd.R_append (Kd.int .u8) (w0 := w) w.heap.size rfl (.tmp 70) (.tmp 72) 22 5 (.int .u8 0) 1 rfl Try.underlying22 info5 rfl (by decide) (by omega) u13 x13_1 (rd y193 x46_1) [.int .u8 (rd y193 x46_1)] (fun k_ => some k_ ≠ (.slice (some ad163) t140.length co109 : Value).ownBlock) (fun _ => False) rfl rfl ?aP (fun _ hk => hk.elim) ?aF ?aO ?aB ?aS ?aL ?_; (case aP => exact rfl); (case aB => exact (by repeat (first | (with_reducible first | exact HB.out | apply below_alloc | apply pw_below_drewN | apply below_drew1) | exact HB.out))); (case aF => exact (fun k_ hk => Kd.fresh' (Kd.R_lt (by (with_reducible repeat (first | apply Kd.R_alloc | apply Kd.R_drewN | apply Kd.R_drew)); exact HO_11.out)) k_ hk)); (case aO => exact (by (with_reducible repeat (first | apply Kd.R_alloc | apply Kd.R_drewN | apply Kd.R_drew)); exact HO_13.out)); (case aS => exact (below_size (by repeat (first | (with_reducible first | exact HB.out | apply below_alloc | apply pw_below_drewN | apply below_drew1) | exact HB.out)))); (case aL => have := LMc129.out; omega); intro v177 w130 ho hb hg hat; rw [← Ny176.out] at ho; have n0_ := Aside0.mk (Kd.R_after (ok := (fun _ => True)) (by (with_reducible repeat (first | apply Kd.R_alloc | apply Kd.R_drewN | apply Kd.R_drew)); exact Kd.R_mono HO_11.out (fun _ hk => ⟨trivial, hk⟩)) hg hat); have n1_ := Aside0.mk (Kd.V_afterv (ok := (fun _ => True)) (by (with_reducible repeat (first | apply Kd.V_alloc | apply Kd.V_drewN | apply Kd.V_drew)); exact Kd.V_mono HO_12.out (fun _ hk => ⟨trivial, hk⟩)) hg hat); have n2_ := Aside0.mk (Kd.V_afterv (ok := (fun _ => True)) (by (with_reducible repeat (first | apply Kd.V_alloc | apply Kd.V_drewN | apply Kd.V_drew)); exact Kd.V_mono HO_44.out (fun _ hk => ⟨trivial, hk⟩)) hg hat); have n3_ := Aside0.mk (hb); have n4_ := Aside0.mk (ho); clear HO_11; clear HO_12; clear HO_44; clear HB; clear HO_13; have HO_11 := n0_; have HO_12 := n1_; have HO_44 := n2_; have HB := n3_; have HO178 := n4_; clear n0_ n1_ n2_ n3_ n4_; clear ho hb hg hat))
                          go_roundg k1
                          case measure => have := HK1.out; omega
                          case rel => exact ⟨(y176), (wrap64 (x46_1 + 1)), (by first | rfl | (simp; done) | (simp [*]; done)), H', ⟨by have := HK1.out; omega⟩, ⟨by (with_reducible repeat (first | apply Kd.R_alloc | apply Kd.R_drewN | apply Kd.R_drew)); exact Kd.R_mono HO_11.out (fun _ hk => hk.2)⟩, ⟨by (with_reducible repeat (first | apply Kd.V_alloc | apply Kd.V_drewN | apply Kd.V_drew)); exact Kd.V_mono HO_12.out (fun _ hk => hk.2)⟩, ⟨by (with_reducible repeat (first | apply Kd.R_alloc | apply Kd.R_drewN | apply Kd.R_drew)); exact HO178.out⟩, ⟨by (with_reducible repeat (first | apply Kd.V_alloc | apply Kd.V_drewN | apply Kd.V_drew)); exact Kd.V_mono HO_44.out (fun _ hk => hk.2)⟩, ⟨by repeat (first | (with_reducible first | exact HB.out | apply below_alloc | apply pw_below_drewN | apply below_drew1) | exact HB.out)⟩⟩
                        · rw [if_neg c129] at H
                          exact absurd H (by simp)
                    · rw [if_neg c116] at H
                      exact absurd H (by simp)
                  · rw [if_neg c115] at H
                    exact absurd H (by simp)
                · rw [if_neg c114] at H
                  have c114b0 : decide (x46_1 < (y193.length : Int)) = false := decide_eq_false c114
                  clear c114
                  by_cases c131 : a1 > 0
                  · rw [if_pos c131] at H
                    have c131b0 : decide (0 < a1) = true := decide_eq_true c131
                    clear c131
                    obtain ⟨y179, hy179⟩ : ∃ y_ : List Int, y_ = (([a4] : List Int)) := ⟨_, rfl⟩
                    replace H : (if 0 ≤ (wrap64 ((t140.length : Int) - a1)) then (if (wrap64 ((t140.length : Int) - a1)) ≤ (t140.length : Int) then ((spec_Join.f k1 (([x13_1, y179, (t140.drop ((wrap64 ((t140.length : Int) - a1)) : Int).toNat)] : List (List Int)))).bind fun t190 => (some t190)) else (none)) else (none)) = some r := by first | (rw [hy179]; with_reducible exact H) | (have H2_ := (Option.bind_some _ _).symm.trans H; rw [hy179]; with_reducible exact H2_) | (have H2_ := (Option.bind_some _ _).symm.trans H; with_reducible exact H2_) | with_reducible exact H | (rw [hy179]; exact H) | exact H
                    have Ny179 := Aside0.mk hy179
                    clear hy179
                    obtain ⟨ji132, hji132⟩ : ∃ j_ : Int, (wrap64 ((t140.length : Int) - a1)) = j_ := ⟨_, rfl⟩
                    obtain rfl : ji132 = ji103 := hji132.symm.trans hji103
                    replace H : (if 0 ≤ (ji132) then (if (ji132) ≤ (t140.length : Int) then ((spec_Join.f k1 (([x13_1, y179, (t140.drop ((ji132) : Int).toNat)] : List (List Int)))).bind fun t190 => (some t190)) else (none)) else (none)) = some r := by first | (rw [hji132] at H; exact H) | (simp only [hji132] at H ⊢; exact H)
                    have hji132w : (IntKind.i64.wrap ((t140.length : Int) - a1)) = ji132 := (i64_w _).trans hji132
                    by_cases c133 : 0 ≤ (ji132)
                    · rw [if_pos c133] at H
                      have c133b0 := eq_true c133
                      have c133b1 : decide (0 ≤ (ji132)) = true := decide_eq_true c133
                      clear c133
                      by_cases c134 : (ji132) ≤ (t140.length : Int)
                      · rw [if_pos c134] at H
                        have c134b0 := eq_true c134
                        have c134b1 : decide ((ji132) ≤ (t140.length : Int)) = true := decide_eq_true c134
                        clear c134
                        obtain ⟨y182, hy182⟩ : ∃ y_ : List Int, y_ = (t140.drop ((ji132) : Int).toNat) := ⟨_, rfl⟩
                        replace H : ((spec_Join.f k1 (([x13_1, y179, y182] : List (List Int)))).bind fun t190 => (some t190)) = some r := by first | (rw [hy182]; with_reducible exact H) | (have H2_ := (Option.bind_some _ _).symm.trans H; rw [hy182]; with_reducible exact H2_) | (have H2_ := (Option.bind_some _ _).symm.trans H; with_reducible exact H2_) | with_reducible exact H | (rw [hy182]; exact H) | exact H
                        have Ny182 := Aside0.mk hy182
                        clear hy182
                        obtain ⟨y187, hy187⟩ : ∃ y_ : List (List Int), y_ = (([x13_1, y179, y182] : List (List Int))) := ⟨_, rfl⟩
                        replace H : ((spec_Join.f k1 y187).bind fun t190 => (some t190)) = some r := by first | (rw [hy187]; with_reducible exact H) | (have H2_ := (Option.bind_some _ _).symm.trans H; rw [hy187]; with_reducible exact H2_) | (have H2_ := (Option.bind_some _ _).symm.trans H; with_reducible exact H2_) | with_reducible exact H | (rw [hy187]; exact H) | exact H
                        have Ny187 := Aside0.mk hy187
                        clear hy187
                        replace H := Option.bind_eq_some_iff.mp H
                        obtain ⟨t190, A1350, H⟩ := H
                        replace H : (some t190) = some r := H
                        have A135 := Aside0.mk A1350
                        clear A1350
                        obtain rfl := Option.some.inj H
                        go_wp2_with (first | ((with_reducible refine gate_dst (N := 79) rfl ?_); (try (refine gate_guard (by rfl) ?_; dsimp only)); refine Kd.R_lit (Kd.int .u8) _ 5 ?hg (N := 79) ?hd (xs := ([a4] : List Int)) (inner := [.int .u8 a4]) (ok := fun _ => True) (okp := fun _ => True) ?hr ?hp (fun _ hk => hk) trivial (Below.refl _ _) (Nat.le_refl _) (by simp) ?_; (case hd => rfl); (case hg => rfl); (case hr => first | (go_simp; done) | (go_simp; rfl)); (case hp => exact (Reps.one (show Kd.M (Kd.int .u8) _ _ _ a4 [.int .u8 a4] from rfl) (Reps.none _ _))); intro v180 w136 ho137 hb hg_ hnew_; clear hg_ hnew_; (first | rw [← Ny179.out] at ho137 | (simp only [Int.reduceToNat] at ho137; rw [← Ny179.out] at ho137)); have n0_ := Aside0.mk (Kd.R_elder' (by (with_reducible repeat (first | apply Kd.R_alloc | apply Kd.R_drewN | apply Kd.R_drew)); exact HO_11.out) (Kd.R_base ho137) hb); have n1_ := Aside0.mk (Kd.V_elder' (by (with_reducible repeat (first | apply Kd.V_alloc | apply Kd.V_drewN | apply Kd.V_drew)); exact HO_12.out) (Kd.R_base ho137) hb); have n2_ := Aside0.mk (Kd.R_elder' (by (with_reducible repeat (first | apply Kd.R_alloc | apply Kd.R_drewN | apply Kd.R_drew)); exact HO_13.out) (Kd.R_base ho137) hb); have n3_ := Aside0.mk (Kd.V_elder' (by (with_reducible repeat (first | apply Kd.V_alloc | apply Kd.V_drewN | apply Kd.V_drew)); exact HO_44.out) (Kd.R_base ho137) hb); have n4_ := Aside0.mk (Kd.R_lower (Kd.R_new' (Kd.R_new' ho137 (Kd.R_lt (by (with_reducible repeat (first | apply Kd.R_alloc | apply Kd.R_drewN | apply Kd.R_drew)); exact HO_11.out))) (Kd.R_lt (by (with_reducible repeat (first | apply Kd.R_alloc | apply Kd.R_drewN | apply Kd.R_drew)); exact HO_13.out))) (below_size (by repeat (first | (with_reducible first | exact HB.out | apply below_alloc | apply pw_below_drewN | apply below_drew1) | exact HB.out)))); have n5_ := Aside0.mk (below_step (by repeat (first | (with_reducible first | exact HB.out | apply below_alloc | apply pw_below_drewN | apply below_drew1) | exact HB.out)) hb); clear HO_11; clear HO_12; clear HO_13; clear HO_44; clear HB; have HO_11 := n0_; have HO_12 := n1_; have HO_13 := n2_; have HO_44 := n3_; have HO181 := n4_; have HB := n5_; clear n0_ n1_ n2_ n3_ n4_ n5_; clear hb ho137; have q138 : ((ji132) : Int) ≤ ((t140.length : Int) : Int) := of_decide_eq_true (by first | (with_reducible assumption) | assumption); obtain ⟨i0138, hi0138, _, hsz138, _⟩ := info_parts info5; have hroom138 : t140.length ≤ co109 := (Kd.R_reads' HO_11.out).2.1; have hC138 : Kd.F (Kd.int .u8) _ _ Ao109 t140.length t140 := (Kd.V_at (base := w.heap.size) (Kd.R_V HO_11.out)).2.2; have q0138 : (0 : Int) ≤ ((ji132) : Int) := of_decide_eq_true (by first | (with_reducible assumption) | assumption); have hcut138 := cut_from (P := Try.prog) 22 5 .i64 Try.underlying22 hi0138 1 hsz138 Ao109 t140.length co109 (ji132) q0138 q138; have hr138 := Kd.F_cut (m := ((ji132) : Int).toNat) (c := co109) hC138 (by omega) hroom138; obtain ⟨A138, hA138⟩ : ∃ Aq_, Aq_ = (if co109 = ((ji132) : Int).toNat then Ao109 else (Ao109 : Option Addr).map (·.add (((ji132) : Int).toNat * 1))) := ⟨_, rfl⟩; obtain ⟨c138, hc138⟩ : ∃ cq_, cq_ = co109 - ((ji132) : Int).toNat := ⟨_, rfl⟩; have hy138 : y182.length = t140.length - ((ji132) : Int).toNat := (by rw [Ny182.out, List.length_drop] <;> omega); rw [show (t140).drop ((ji132) : Int).toNat = y182 from Ny182.out.symm] at hr138; replace hr138 : Kd.F (Kd.int .u8) _ _ A138 y182.length y182 := (by rw [hA138]; exact hr138); rw [← hy138, ← hA138, ← hc138] at hcut138; have HO186 := Aside0.mk (show Kd.V (Kd.int .u8) 5 _ w.heap.size _ (.slice A138 y182.length c138) y182 from Kd.V_mk (by rw [hy138, hc138]; exact Nat.sub_le_sub_right hroom138 _) hr138); have HC186 := Aside0.mk (show y182.length ≤ c138 from by rw [hy138, hc138]; exact Nat.sub_le_sub_right hroom138 _); clear hr138 hC138 hroom138 hi0138 hsz138 hc138; have KY138 := Aside0.mk hy138; have KA138 := Aside0.mk hA138; clear hy138 hA138; replace q138 := eq_true q138; obtain ⟨Ao139, co139, eo139⟩ := Kd.R_slice HO_13.out; subst eo139; obtain ⟨Ao140, co140, eo140⟩ := Kd.R_slice HO181.out; subst eo140) | ((with_reducible refine gate_dst (N := 86) rfl ?_); (try (refine gate_guard (by rfl) ?_; dsimp only)); refine Kd.N_lit (Kd.slice 5 (Kd.int .u8)) _ 22 ?hg (N' := 86) ?hd (xs := ([x13_1, y179, y182] : List (List Int))) (inner := [.slice Ao139 x13_1.length co139, .slice Ao140 y179.length co140, .slice A138 y182.length c138]) (ok := (fun _ => True)) (okp := (fun _ => True)) ?hr ?hp (fun _ hk => hk) ((show ∀ k_, w136.heap.size ≤ k_ → (fun _ => True) k_ from fun k_ hk => trivial) _ (Nat.le_refl _)) (Below.refl _ _) (Nat.le_refl _) (by simp) ?_; (case hd => rfl); (case hg => rfl); (case hr => first | (go_simp; done) | (go_simp; rfl)); (case hp => first | exact (Reps.one (show Kd.FK (Kd.slice 5 (Kd.int .u8)) _ _ x13_1 [.slice Ao139 x13_1.length co139] from (Kd.FK_slice_mk (Kd.R_reads' (Kd.R_mono (ok' := (fun _ => True)) (HO_13.out) (fun k_ hk => trivial))).2.1 (Kd.R_F (Kd.R_mono (ok' := (fun _ => True)) (HO_13.out) (fun k_ hk => trivial))))) (Reps.one (show Kd.FK (Kd.slice 5 (Kd.int .u8)) _ _ y179 [.slice Ao140 y179.length co140] from (Kd.FK_slice_mk (Kd.R_reads' (Kd.R_mono (ok' := (fun _ => True)) (HO181.out) (fun k_ hk => trivial))).2.1 (Kd.R_F (Kd.R_mono (ok' := (fun _ => True)) (HO181.out) (fun k_ hk => trivial))))) (Reps.one (show Kd.FK (Kd.slice 5 (Kd.int .u8)) _ _ y182 [.slice A138 y182.length c138] from (Kd.FK_slice_mk (Kd.V_reads' (Kd.V_mono (ok' := (fun _ => True)) (HO186.out) (fun k_ hk => trivial))).2.1 (Kd.V_F (Kd.V_mono (ok' := (fun _ => True)) (HO186.out) (fun k_ hk => trivial))))) (Reps.none _ _)))) | exact (Reps.one (show Kd.FK (Kd.slice 5 (Kd.int .u8)) _ _ x13_1 [.slice Ao139 x13_1.length co139] from (Kd.FK_slice_mk (Kd.R_reads' (Kd.R_mono (ok' := (fun _ => True)) (HO_13.out) (fun k_ hk => trivial))).2.1 (Kd.R_F (Kd.R_mono (ok' := (fun _ => True)) ((Kd.R_drewN HO_13.out _)) (fun k_ hk => trivial))))) (Reps.one (show Kd.FK (Kd.slice 5 (Kd.int .u8)) _ _ y179 [.slice Ao140 y179.length co140] from (Kd.FK_slice_mk (Kd.R_reads' (Kd.R_mono (ok' := (fun _ => True)) (HO181.out) (fun k_ hk => trivial))).2.1 (Kd.R_F (Kd.R_mono (ok' := (fun _ => True)) ((Kd.R_drewN HO181.out _)) (fun k_ hk => trivial))))) (Reps.one (show Kd.FK (Kd.slice 5 (Kd.int .u8)) _ _ y182 [.slice A138 y182.length c138] from (Kd.FK_slice_mk (Kd.V_reads' (Kd.V_mono (ok' := (fun _ => True)) (HO186.out) (fun k_ hk => trivial))).2.1 (Kd.V_F (Kd.V_mono (ok' := (fun _ => True)) ((Kd.V_drewN HO186.out _)) (fun k_ hk => trivial))))) (Reps.none _ _)))) | exact (Reps.one (show Kd.FK (Kd.slice 5 (Kd.int .u8)) _ _ x13_1 [.slice Ao139 x13_1.length co139] from (Kd.FK_slice_mk (Kd.R_reads' (Kd.R_mono (ok' := (fun _ => True)) (HO_13.out) (fun k_ hk => trivial))).2.1 (Kd.R_F (Kd.R_mono (ok' := (fun _ => True)) ((Kd.R_alloc HO_13.out _)) (fun k_ hk => trivial))))) (Reps.one (show Kd.FK (Kd.slice 5 (Kd.int .u8)) _ _ y179 [.slice Ao140 y179.length co140] from (Kd.FK_slice_mk (Kd.R_reads' (Kd.R_mono (ok' := (fun _ => True)) (HO181.out) (fun k_ hk => trivial))).2.1 (Kd.R_F (Kd.R_mono (ok' := (fun _ => True)) ((Kd.R_alloc HO181.out _)) (fun k_ hk => trivial))))) (Reps.one (show Kd.FK (Kd.slice 5 (Kd.int .u8)) _ _ y182 [.slice A138 y182.length c138] from (Kd.FK_slice_mk (Kd.V_reads' (Kd.V_mono (ok' := (fun _ => True)) (HO186.out) (fun k_ hk => trivial))).2.1 (Kd.V_F (Kd.V_mono (ok' := (fun _ => True)) ((Kd.V_alloc HO186.out _)) (fun k_ hk => trivial))))) (Reps.none _ _)))) | exact (Reps.one (show Kd.FK (Kd.slice 5 (Kd.int .u8)) _ _ x13_1 [.slice Ao139 x13_1.length co139] from (Kd.FK_slice_mk (Kd.R_reads' (Kd.R_mono (ok' := (fun _ => True)) (HO_13.out) (fun k_ hk => trivial))).2.1 (Kd.R_F (Kd.R_mono (ok' := (fun _ => True)) ((by (with_reducible repeat (first | apply Kd.R_alloc | apply Kd.R_drewN | apply Kd.R_drew)); exact HO_13.out)) (fun k_ hk => trivial))))) (Reps.one (show Kd.FK (Kd.slice 5 (Kd.int .u8)) _ _ y179 [.slice Ao140 y179.length co140] from (Kd.FK_slice_mk (Kd.R_reads' (Kd.R_mono (ok' := (fun _ => True)) (HO181.out) (fun k_ hk => trivial))).2.1 (Kd.R_F (Kd.R_mono (ok' := (fun _ => True)) ((by (with_reducible repeat (first | apply Kd.R_alloc | apply Kd.R_drewN | apply Kd.R_drew)); exact HO181.out)) (fun k_ hk => trivial))))) (Reps.one (show Kd.FK (Kd.slice 5 (Kd.int .u8)) _ _ y182 [.slice A138 y182.length c138] from (Kd.FK_slice_mk (Kd.V_reads' (Kd.V_mono (ok' := (fun _ => True)) (HO186.out) (fun k_ hk => trivial))).2.1 (Kd.V_F (Kd.V_mono (ok' := (fun _ => True)) ((by (with_reducible repeat (first | apply Kd.V_alloc | apply Kd.V_drewN | apply Kd.V_drew)); exact HO186.out)) (fun k_ hk => trivial))))) (Reps.none _ _))))); intro v188 w141 ho142 hb hg_ hnew_; clear hg_ hnew_; (first | rw [← Ny187.out] at ho142 | (simp only [Int.reduceToNat] at ho142; rw [← Ny187.out] at ho142)); have n0_ := Aside0.mk (Kd.R_below (by (with_reducible repeat (first | apply Kd.R_alloc | apply Kd.R_drewN | apply Kd.R_drew)); exact HO_11.out) hb); have n1_ := Aside0.mk (Kd.V_elder' (by (with_reducible repeat (first | apply Kd.V_alloc | apply Kd.V_drewN | apply Kd.V_drew)); exact HO_12.out) (Kd.N_base ho142) hb); have n2_ := Aside0.mk (Kd.R_below (by (with_reducible repeat (first | apply Kd.R_alloc | apply Kd.R_drewN | apply Kd.R_drew)); exact HO_13.out) hb); have n3_ := Aside0.mk (Kd.V_elder' (by (with_reducible repeat (first | apply Kd.V_alloc | apply Kd.V_drewN | apply Kd.V_drew)); exact HO_44.out) (Kd.N_base ho142) hb); have n4_ := Aside0.mk (Kd.R_below (by (with_reducible repeat (first | apply Kd.R_alloc | apply Kd.R_drewN | apply Kd.R_drew)); exact HO181.out) hb); have n5_ := Aside0.mk (Kd.V_elder' (by (with_reducible repeat (first | apply Kd.V_alloc | apply Kd.V_drewN | apply Kd.V_drew)); exact HO186.out) (Kd.N_base ho142) hb); have n6_ := Aside0.mk (Kd.N_lower ho142 (below_size (by repeat (first | (with_reducible first | exact HB.out | apply below_alloc | apply pw_below_drewN | apply below_drew1) | exact HB.out)))); have n7_ := Aside0.mk (below_step (by repeat (first | (with_reducible first | exact HB.out | apply below_alloc | apply pw_below_drewN | apply below_drew1) | exact HB.out)) hb); clear HO_11; clear HO_12; clear HO_13; clear HO_44; clear HO181; clear HO186; clear HB; have HO_11 := n0_; have HO_12 := n1_; have HO_13 := n2_; have HO_44 := n3_; have HO181 := n4_; have HO186 := n5_; have HO189 := n6_; have HB := n7_; clear n0_ n1_ n2_ n3_ n4_ n5_ n6_ n7_; clear hb ho142; obtain ⟨Ao143, co143, eo143⟩ := Kd.N_slice HO189.out; subst eo143) | ((with_reducible refine gate_callee (f := 8) rfl ?_); refine goesL_ (some 87) rfl rfl Try.func8 (by kernel_rfl) rfl #[.slice Ao143 y187.length co143] rfl (by (try simp only [List.map_toArray, List.map_cons, List.map_nil]); first | done | rfl | (simp only [List.length_drop, List.length_take]; rfl)) ?_; (with_reducible refine (spec_Join.calls k1 _ _ y187 t190 _ ?side1 ?side2 A135.out).mono ?_); (case side1 => repeat (first | exact (Kd.N_reads' HO189.out).2.2 | (with_reducible refine Kd.C_alloc ?_ _) | (with_reducible refine Kd.C_drewN ?_ _) | (with_reducible refine Kd.C_drew ?_))); (case side2 => exact (Kd.N_reads' HO189.out).2.1); rintro e w144 ⟨v191, rfl, ho0, hb⟩; refine ⟨_, rfl, ?_⟩; have n0_ := Aside0.mk (Kd.R_elder' (by (with_reducible repeat (first | apply Kd.R_alloc | apply Kd.R_drewN | apply Kd.R_drew)); exact HO_11.out) (Kd.R_base ho0) hb); have n1_ := Aside0.mk (Kd.V_elder' (by (with_reducible repeat (first | apply Kd.V_alloc | apply Kd.V_drewN | apply Kd.V_drew)); exact HO_12.out) (Kd.R_base ho0) hb); have n2_ := Aside0.mk (Kd.R_elder' (by (with_reducible repeat (first | apply Kd.R_alloc | apply Kd.R_drewN | apply Kd.R_drew)); exact HO_13.out) (Kd.R_base ho0) hb); have n3_ := Aside0.mk (Kd.V_elder' (by (with_reducible repeat (first | apply Kd.V_alloc | apply Kd.V_drewN | apply Kd.V_drew)); exact HO_44.out) (Kd.R_base ho0) hb); have n4_ := Aside0.mk (Kd.R_elder' (by (with_reducible repeat (first | apply Kd.R_alloc | apply Kd.R_drewN | apply Kd.R_drew)); exact HO181.out) (Kd.R_base ho0) hb); have n5_ := Aside0.mk (Kd.V_elder' (by (with_reducible repeat (first | apply Kd.V_alloc | apply Kd.V_drewN | apply Kd.V_drew)); exact HO186.out) (Kd.R_base ho0) hb); have n6_ := Aside0.mk (Kd.N_elder' (by (with_reducible repeat (first | apply Kd.N_alloc | apply Kd.N_drewN | apply Kd.N_drew)); exact HO189.out) (Kd.R_base ho0) hb); have n7_ := Aside0.mk (Kd.R_lower (Kd.R_new' (Kd.R_new' (Kd.R_new' ho0 (Kd.R_lt (by (with_reducible repeat (first | apply Kd.R_alloc | apply Kd.R_drewN | apply Kd.R_drew)); exact HO_11.out))) (Kd.R_lt (by (with_reducible repeat (first | apply Kd.R_alloc | apply Kd.R_drewN | apply Kd.R_drew)); exact HO_13.out))) (Kd.R_lt (by (with_reducible repeat (first | apply Kd.R_alloc | apply Kd.R_drewN | apply Kd.R_drew)); exact HO181.out))) (below_size (by repeat (first | (with_reducible first | exact HB.out | apply below_alloc | apply pw_below_drewN | apply below_drew1) | exact HB.out)))); have n8_ := Aside0.mk (below_step (by repeat (first | (with_reducible first | exact HB.out | apply below_alloc | apply pw_below_drewN | apply below_drew1) | exact HB.out)) hb); clear HO_11; clear HO_12; clear HO_13; clear HO_44; clear HO181; clear HO186; clear HO189; clear HB; have HO_11 := n0_; have HO_12 := n1_; have HO_13 := n2_; have HO_44 := n3_; have HO181 := n4_; have HO186 := n5_; have HO189 := n6_; have HO192 := n7_; have HB := n8_; clear n0_ n1_ n2_ n3_ n4_ n5_ n6_ n7_ n8_; (try clear hb); (try clear hb2); (try clear hk); (try clear hi); (try clear ho0)))
                        go_ret
                        exact ⟨_, by first | rfl | (simp [errW_none, errW_some] <;> rfl) | (simp only [← hji103, ← hji132]; first | rfl | (simp [errW_none, errW_some] <;> rfl)) | (simp [*, errW_none, errW_some] <;> rfl), by (with_reducible repeat (first | apply Kd.R_alloc | apply Kd.R_drewN | apply Kd.R_drew)); exact Kd.R_mono HO192.out (fun _ hk => trivial), by repeat (first | (with_reducible first | exact HB.out | apply below_alloc | apply pw_below_drewN | apply below_drew1) | exact HB.out)⟩
                      · rw [if_neg c134] at H
                        exact absurd H (by simp)
                    · rw [if_neg c133] at H
                      exact absurd H (by simp)
                  · rw [if_neg c131] at H
                    have c131b0 : decide (0 < a1) = false := decide_eq_false c131
                    clear c131
                    obtain rfl := Option.some.inj H
                    go_wp2
                    go_ret
                    exact ⟨_, by first | rfl | (simp [errW_none, errW_some] <;> rfl) | (simp only [← hji103]; first | rfl | (simp [errW_none, errW_some] <;> rfl)) | (simp [*, errW_none, errW_some] <;> rfl), by (with_reducible repeat (first | apply Kd.R_alloc | apply Kd.R_drewN | apply Kd.R_drew)); exact Kd.R_mono HO_13.out (fun _ hk => trivial), by repeat (first | (with_reducible first | exact HB.out | apply below_alloc | apply pw_below_drewN | apply below_drew1) | exact HB.out)⟩
          · rw [if_neg c107] at H
            exact absurd H (by simp)
        · rw [if_neg c106] at H
          have c106b0 : decide (a0 < 0) = false := decide_eq_false c106
          clear c106
          have H' := Aside0.mk H
          clear H
          go_enter Try.func9, Try.ntmps9
          go_wp2_with (first | ((with_reducible refine gate_callee (f := 14) rfl ?_); refine goesL_ (some 17) rfl rfl Try.func14 (by kernel_rfl) rfl #[.int .i64 a0] rfl (by (try simp only [List.map_toArray, List.map_cons, List.map_nil]); first | done | rfl | (simp only [List.length_drop, List.length_take]; rfl)) ?_; (with_reducible refine (spec_size.calls a0 t139 _ A6.out).mono ?_); rintro e w' ⟨rfl, ⟨nd, rfl⟩⟩; refine ⟨_, rfl, ?_⟩) | ((with_reducible refine gate_callee (f := 13) rfl ?_); refine goesL_ (some 18) rfl rfl Try.func13 (by kernel_rfl) rfl #[.int .u64 t139] rfl (by (try simp only [List.map_toArray, List.map_cons, List.map_nil]); first | done | rfl | (simp only [List.length_drop, List.length_take]; rfl)) ?_; (with_reducible refine (spec_Digits.calls k t139 t140 _ A7.out).mono ?_); rintro e w145 ⟨v141, rfl, ho0, hb⟩; refine ⟨_, rfl, ?_⟩; have n0_ := Aside0.mk (Kd.R_lower ho0 (below_size (by repeat (first | (with_reducible first | exact HB.out | apply below_alloc | apply pw_below_drewN | apply below_drew1) | exact HB.out)))); have n1_ := Aside0.mk (below_step (by repeat (first | (with_reducible first | exact HB.out | apply below_alloc | apply pw_below_drewN | apply below_drew1) | exact HB.out)) hb); clear HB; have HO142 := n0_; have HB := n1_; clear n0_ n1_; (try clear hb); (try clear hb2); (try clear hk); (try clear hi); (try clear ho0); obtain ⟨Ao146, co146, eo146⟩ := Kd.R_slice HO142.out; subst eo146; have q147 : ((ji103) : Int) ≤ ((t140.length : Int) : Int) := of_decide_eq_true (by first | (with_reducible assumption) | assumption); obtain ⟨i0147, hi0147, _, hsz147, _⟩ := info_parts info5; have hroom147 : t140.length ≤ co146 := (Kd.R_reads' HO142.out).2.1; have hC147 : Kd.F (Kd.int .u8) _ _ Ao146 t140.length t140 := (Kd.V_at (base := w.heap.size) (Kd.R_V HO142.out)).2.2; have hcut147 := cut_to (P := Try.prog) 22 5 .i64 Try.underlying22 hi0147 Ao146 t140.length co146 (ji103) (of_decide_eq_true (by first | (with_reducible assumption) | assumption)) q147 hroom147; have hr147 := Kd.F_take (m := ((ji103) : Int).toNat) hC147 (by omega); have hy147 : y193.length = ((ji103) : Int).toNat := (by rw [Ny193.out, List.length_take]; omega); rw [← Ny193.out] at hr147; rw [← hy147] at hcut147; have HO197 := Aside0.mk (show Kd.V (Kd.int .u8) 5 _ w.heap.size _ (.slice Ao146 y193.length co146) y193 from Kd.V_mk (by omega) hr147); have HC197 := Aside0.mk (show y193.length ≤ co146 from by omega); clear hr147 hC147 hroom147 hi0147 hsz147; have KY147 := Aside0.mk hy147; clear hy147; replace q147 := eq_true q147) | ((with_reducible refine gate_dst (N := 38) rfl ?_); (try (refine gate_guard (by rfl) ?_; dsimp only)); refine Kd.R_lit (Kd.int .u8) _ 5 ?hg (N := 38) ?hd (xs := ([] : List Int)) (inner := []) (ok := fun _ => True) (okp := fun _ => True) ?hr ?hp (fun _ hk => hk) trivial (Below.refl _ _) (Nat.le_refl _) (by simp) ?_; (case hd => rfl); (case hg => rfl); (case hr => first | (go_simp; done) | (go_simp; rfl)); (case hp => exact (Reps.none _ _)); intro v199 w148 ho149 hb hg_ hnew_; clear hg_ hnew_; (first | rw [← Ny198.out] at ho149 | (simp only [Int.reduceToNat] at ho149; rw [← Ny198.out] at ho149)); have n0_ := Aside0.mk (Kd.R_elder' (by (with_reducible repeat (first | apply Kd.R_alloc | apply Kd.R_drewN | apply Kd.R_drew)); exact HO142.out) (Kd.R_base ho149) hb); have n1_ := Aside0.mk (Kd.V_elder' (by (with_reducible repeat (first | apply Kd.V_alloc | apply Kd.V_drewN | apply Kd.V_drew)); exact HO197.out) (Kd.R_base ho149) hb); have n2_ := Aside0.mk (Kd.R_lower (Kd.R_new' ho149 (Kd.R_lt (by (with_reducible repeat (first | apply Kd.R_alloc | apply Kd.R_drewN | apply Kd.R_drew)); exact HO142.out))) (below_size (by repeat (first | (with_reducible first | exact HB.out | apply below_alloc | apply pw_below_drewN | apply below_drew1) | exact HB.out)))); have n3_ := Aside0.mk (below_step (by repeat (first | (with_reducible first | exact HB.out | apply below_alloc | apply pw_below_drewN | apply below_drew1) | exact HB.out)) hb); clear HO142; clear HO197; clear HB; have HO142 := n0_; have HO197 := n1_; have HO200 := n2_; have HB := n3_; clear n0_ n1_ n2_ n3_; clear hb ho149))
          go_loopg [13, 46] k (fun kq v13 v46 w' => ∃ (x13_1 : List Int) (x46_1 : Int), v46 = .int .i64 x46_1 ∧ Aside0 (spec_GroupedText.l0 kq a1 a2 a3 a4 t140 y193 x13_1 y193 (y193.length : Int) x46_1 = some r) ∧ Aside0 (kq ≤ k) ∧ Aside0 (Kd.R (Kd.int .u8) 5 w' w.heap.size (fun k_ => some k_ ≠ (v13 : Value).ownBlock) (.slice Ao146 t140.length co146) t140) ∧ Aside0 (Kd.V (Kd.int .u8) 5 w' w.heap.size (fun k_ => some k_ ≠ (v13 : Value).ownBlock) (.slice Ao146 y193.length co146) y193) ∧ Aside0 (Kd.R (Kd.int .u8) 5 w' w.heap.size (fun k_ => some k_ ≠ ((.slice Ao146 t140.length co146) : Value).ownBlock) v13 x13_1) ∧ Aside0 (Kd.V (Kd.int .u8) 5 w' w.heap.size (fun k_ => some k_ ≠ (v13 : Value).ownBlock) (.slice Ao146 y193.length co146) y193) ∧ Aside0 (Below w.heap.size w w'))
          case atStart => exact ⟨(y198), (0), (by first | rfl | (simp; done) | (simp [*]; done)), H', ⟨Nat.le_refl _⟩, ⟨by (with_reducible repeat (first | apply Kd.R_alloc | apply Kd.R_drewN | apply Kd.R_drew)); exact Kd.R_mono HO142.out (fun _ hk => hk.2)⟩, ⟨by (with_reducible repeat (first | apply Kd.V_alloc | apply Kd.V_drewN | apply Kd.V_drew)); exact Kd.V_mono HO197.out (fun _ hk => hk.2)⟩, ⟨by (with_reducible repeat (first | apply Kd.R_alloc | apply Kd.R_drewN | apply Kd.R_drew)); exact Kd.R_mono HO200.out (fun _ hk => hk.2)⟩, ⟨by (with_reducible repeat (first | apply Kd.V_alloc | apply Kd.V_drewN | apply Kd.V_drew)); exact Kd.V_mono HO197.out (fun _ hk => hk.2)⟩, ⟨by repeat (first | (with_reducible first | exact HB.out | apply below_alloc | apply pw_below_drewN | apply below_drew1) | exact HB.out)⟩⟩
          case round =>
            clear H'
            try clear c1
            try clear p1
            try clear q1
            try clear hx1
            try clear c2
            try clear p2
            try clear q2
            try clear c3
            try clear c4
            try clear c5
            try clear q5
            try clear p6
            try clear q6
            try clear c7
            try clear c8
            try clear c8b0
            try clear c9
            try clear q9
            try clear c10
            try clear c11
            try clear q11
            try clear c12
            try clear c12b0
            try clear c12b1
            try clear c13
            try clear c13b0
            try clear c13b1
            try clear q13
            try clear c14
            try clear c14b0
            try clear q14
            try clear c15
            try clear p16
            try clear q16
            try clear hx16
            try clear q25
            try clear c29
            try clear c29b0
            try clear c30
            try clear c30b0
            try clear c31
            try clear c31b0
            try clear c32
            try clear c32b0
            try clear c33
            try clear c33b0
            try clear c34
            try clear c34b0
            try clear c34b1
            try clear c35
            try clear c35b0
            try clear c35b1
            try clear c36
            try clear c37
            try clear c40
            try clear c42
            try clear c44
            try clear c46
            try clear c46b0
            try clear c48
            try clear c48b0
            try clear c48b1
            try clear c49
            try clear c49b0
            try clear c49b1
            try clear c53
            try clear q53
            try clear p64
            try clear q69
            try clear c72
            try clear c72b0
            try clear c73
            try clear c73b0
            try clear c74
            try clear c74b0
            try clear c75
            try clear c75b0
            try clear c76
            try clear c76b0
            try clear c77
            try clear c77b0
            try clear c77b1
            try clear c78
            try clear c78b0
            try clear c78b1
            try clear c79
            try clear c80
            try clear c83
            try clear c85
            try clear c87
            try clear c89
            try clear c89b0
            try clear c91
            try clear c91b0
            try clear c91b1
            try clear c92
            try clear c92b0
            try clear c92b1
            try clear c96
            try clear q96
            try clear c104
            try clear c104b0
            try clear c104b1
            try clear c105
            try clear c105b0
            try clear c105b1
            try clear c106
            try clear c106b0
            try clear c107
            try clear q110
            try clear c114
            try clear c114b0
            try clear c115
            try clear c115b0
            try clear c116
            try clear c116b0
            try clear c117
            try clear c117b0
            try clear c118
            try clear c118b0
            try clear c119
            try clear c119b0
            try clear c119b1
            try clear c120
            try clear c120b0
            try clear c120b1
            try clear c121
            try clear c122
            try clear c125
            try clear c127
            try clear c129
            try clear c131
            try clear c131b0
            try clear c133
            try clear c133b0
            try clear c133b1
            try clear c134
            try clear c134b0
            try clear c134b1
            try clear c138
            try clear q138
            try clear q147
            try clear hx163_0
            try clear p1
            try clear p16
            try clear p163
            try clear p2
            try clear p6
            try clear p64
            try clear q0138
            try clear q053
            try clear q096
            try clear q1
            try clear q11
            try clear q110
            try clear q138
            try clear q147
            try clear q16
            try clear q163
            try clear q2
            try clear q25
            try clear q5
            try clear q53
            try clear q6
            try clear q69
            try clear q9
            try clear q96
            obtain ⟨x13_1, x46_1, rfl, HA, HK1, HO_11, HO_12, HO_13, HO_44, HB⟩ := hrel
            cases gk with
            | zero => exact absurd HA.out (by simp [spec_GroupedText.l0])
            | succ k1 =>
              have H := HA.out
              clear HA
              simp only [spec_GroupedText.l0] at H
              by_cases c150 : x46_1 < (y193.length : Int)
              · rw [if_pos c150] at H
                have c150b0 : decide (x46_1 < (y193.length : Int)) = true := decide_eq_true c150
                clear c150
                by_cases c151 : 0 ≤ x46_1
                · rw [if_pos c151] at H
                  have c151b0 : decide (0 ≤ x46_1) = true := decide_eq_true c151
                  clear c151
                  by_cases c152 : x46_1 < (y193.length : Int)
                  · rw [if_pos c152] at H
                    have c152b0 : decide (x46_1 < (y193.length : Int)) = true := decide_eq_true c152
                    clear c152
                    by_cases c153 : x46_1 > 0
                    · rw [if_pos c153] at H
                      have c153b0 : decide (0 < x46_1) = true := decide_eq_true c153
                      clear c153
                      by_cases c154 : a2 > 0
                      · rw [if_pos c154] at H
                        have c154b0 : decide (0 < a2) = true := decide_eq_true c154
                        clear c154
                        by_cases c155 : a2 = 0
                        · rw [if_pos c155] at H
                          exact absurd H (by simp)
                        · rw [if_neg c155] at H
                          have c155b0 : (a2 == 0) = false := beq_eq_false_iff_ne.mpr c155
                          have c155b1 : (a2 != 0) = true := bne_iff_ne.mpr c155
                          by_cases c156 : (Int.tmod (wrap64 ((y193.length : Int) - x46_1)) a2) = 0
                          · rw [if_pos c156] at H
                            have c156b0 : ((Int.tmod (wrap64 ((y193.length : Int) - x46_1)) a2) == 0) = true := beq_iff_eq.mpr c156
                            have c156b1 : ((Int.tmod (wrap64 ((y193.length : Int) - x46_1)) a2) != 0) = false := bne_eq_false_iff_eq.mpr c156
                            clear c156
                            by_cases c157 : x13_1.length < 140737488355328
                            · rw [if_pos c157] at H
                              have LMc157 := Aside0.mk c157
                              clear c157
                              obtain ⟨y164, hy164⟩ : ∃ y_ : List Int, y_ = (x13_1 ++ [a3]) := ⟨_, rfl⟩
                              replace H : (if y164.length < 140737488355328 then (spec_GroupedText.l0 k1 a1 a2 a3 a4 t140 y193 (y164 ++ [rd y193 x46_1]) y193 (y193.length : Int) (wrap64 (x46_1 + 1))) else (none)) = some r := by first | (rw [hy164]; with_reducible exact H) | (have H2_ := (Option.bind_some _ _).symm.trans H; rw [hy164]; with_reducible exact H2_) | (have H2_ := (Option.bind_some _ _).symm.trans H; with_reducible exact H2_) | with_reducible exact H | (rw [hy164]; exact H) | exact H
                              have Ny164 := Aside0.mk hy164
                              clear hy164
                              by_cases c158 : y164.length < 140737488355328
                              · rw [if_pos c158] at H
                                have LMc158 := Aside0.mk c158
                                clear c158
                                obtain ⟨y167, hy167⟩ : ∃ y_ : List Int, y_ = (y164 ++ [rd y193 x46_1]) := ⟨_, rfl⟩
                                replace H : (spec_GroupedText.l0 k1 a1 a2 a3 a4 t140 y193 y167 y193 (y193.length : Int) (wrap64 (x46_1 + 1))) = some r := by first | (rw [hy167]; with_reducible exact H) | (have H2_ := (Option.bind_some _ _).symm.trans H; rw [hy167]; with_reducible exact H2_) | (have H2_ := (Option.bind_some _ _).symm.trans H; with_reducible exact H2_) | with_reducible exact H | (rw [hy167]; exact H) | exact H
                                have Ny167 := Aside0.mk hy167
                                clear hy167
                                have H' := Aside0.mk H
                                clear H
                                have p163 : 0 ≤ (x46_1 : Int) := of_decide_eq_true (by first | (with_reducible assumption) | assumption)
                                have q163 : x46_1 < (y193.length : Int) := of_decide_eq_true (by first | (with_reducible assumption) | assumption)
                                obtain ⟨ad163, e163, hx163_0⟩ := Kd.at_int (Kd.V_reads' HO_44.out).2.2 x46_1 p163 q163
                                cases e163
                                replace p163 := eq_true p163
                                replace q163 := eq_true q163
                                go_wp2_with (first | ((with_reducible refine gate_builtin (b := .append) (xs := #[.tmp 66, .tmp 68]) rfl ?_); (try (refine gate_guard (by rfl) ?_; dsimp only)); at_builtin; refine Kd.R_append (Kd.int .u8) (w0 := w) w.heap.size rfl (.tmp 66) (.tmp 68) 22 5 (.int .u8 0) 1 rfl Try.underlying22 info5 rfl (by decide) (by omega) u13 x13_1 a3 [.int .u8 a3] (fun k_ => some k_ ≠ (.slice (some ad163) t140.length co146 : Value).ownBlock) (fun _ => False) rfl rfl ?aP (fun _ hk => hk.elim) ?aF ?aO ?aB ?aS ?aL ?_; (case aP => exact rfl); (case aB => exact (by repeat (first | (with_reducible first | exact HB.out | apply below_alloc | apply pw_below_drewN | apply below_drew1) | exact HB.out))); (case aF => exact (fun k_ hk => Kd.fresh' (Kd.R_lt (by (with_reducible repeat (first | apply Kd.R_alloc | apply Kd.R_drewN | apply Kd.R_drew)); exact HO_11.out)) k_ hk)); (case aO => exact (by (with_reducible repeat (first | apply Kd.R_alloc | apply Kd.R_drewN | apply Kd.R_drew)); exact HO_13.out)); (case aS => exact (below_size (by repeat (first | (with_reducible first | exact HB.out | apply below_alloc | apply pw_below_drewN | apply below_drew1) | exact HB.out)))); (case aL => have := LMc157.out; omega); intro v165 w159 ho hb hg hat; rw [← Ny164.out] at ho; have n0_ := Aside0.mk (Kd.R_after (ok := (fun _ => True)) (by (with_reducible repeat (first | apply Kd.R_alloc | apply Kd.R_drewN | apply Kd.R_drew)); exact Kd.R_mono HO_11.out (fun _ hk => ⟨trivial, hk⟩)) hg hat); have n1_ := Aside0.mk (Kd.V_afterv (ok := (fun _ => True)) (by (with_reducible repeat (first | apply Kd.V_alloc | apply Kd.V_drewN | apply Kd.V_drew)); exact Kd.V_mono HO_12.out (fun _ hk => ⟨trivial, hk⟩)) hg hat); have n2_ := Aside0.mk (Kd.V_afterv (ok := (fun _ => True)) (by (with_reducible repeat (first | apply Kd.V_alloc | apply Kd.V_drewN | apply Kd.V_drew)); exact Kd.V_mono HO_44.out (fun _ hk => ⟨trivial, hk⟩)) hg hat); have n3_ := Aside0.mk (hb); have n4_ := Aside0.mk (ho); clear HO_11; clear HO_12; clear HO_44; clear HB; clear HO_13; have HO_11 := n0_; have HO_12 := n1_; have HO_44 := n2_; have HB := n3_; have HO166 := n4_; clear n0_ n1_ n2_ n3_ n4_; clear ho hb hg hat) | ((with_reducible refine gate_builtin (b := .append) (xs := #[.tmp 70, .tmp 72]) rfl ?_); (try (refine gate_guard (by rfl) ?_; dsimp only)); at_builtin; refine Kd.R_append (Kd.int .u8) (w0 := w) w.heap.size rfl (.tmp 70) (.tmp 72) 22 5 (.int .u8 0) 1 rfl Try.underlying22 info5 rfl (by decide) (by omega) v165 y164 (rd y193 x46_1) [.int .u8 (rd y193 x46_1)] (fun k_ => some k_ ≠ (.slice (some ad163) t140.length co146 : Value).ownBlock) (fun _ => False) rfl rfl ?aP (fun _ hk => hk.elim) ?aF ?aO ?aB ?aS ?aL ?_; (case aP => exact rfl); (case aB => exact (by repeat (first | (with_reducible first | exact HB.out | apply below_alloc | apply pw_below_drewN | apply below_drew1) | exact HB.out))); (case aF => exact (fun k_ hk => Kd.fresh' (Kd.R_lt (by (with_reducible repeat (first | apply Kd.R_alloc | apply Kd.R_drewN | apply Kd.R_drew)); exact HO_11.out)) k_ hk)); (case aO => exact (by (with_reducible repeat (first | apply Kd.R_alloc | apply Kd.R_drewN | apply Kd.R_drew)); exact HO166.out)); (case aS => exact (below_size (by repeat (first | (with_reducible first | exact HB.out | apply below_alloc | apply pw_below_drewN | apply below_drew1) | exact HB.out)))); (case aL => have := LMc158.out; omega); intro v168 w160 ho hb hg hat; rw [← Ny167.out] at ho; have n0_ := Aside0.mk (Kd.R_after (ok := (fun _ => True)) (by (with_reducible repeat (first | apply Kd.R_alloc | apply Kd.R_drewN | apply Kd.R_drew)); exact HO_11.out) hg hat); have n1_ := Aside0.mk (Kd.V_afterv (ok := (fun _ => True)) (by (with_reducible repeat (first | apply Kd.V_alloc | apply Kd.V_drewN | apply Kd.V_drew)); exact HO_12.out) hg hat); have n2_ := Aside0.mk (Kd.V_afterv (ok := (fun _ => True)) (by (with_reducible repeat (first | apply Kd.V_alloc | apply Kd.V_drewN | apply Kd.V_drew)); exact HO_44.out) hg hat); have n3_ := Aside0.mk (hb); have n4_ := Aside0.mk (ho); clear HO_11; clear HO_12; clear HO_44; clear HB; clear HO166; have HO_11 := n0_; have HO_12 := n1_; have HO_44 := n2_; have HB := n3_; have HO169 := n4_; clear n0_ n1_ n2_ n3_ n4_; clear ho hb hg hat))
                                go_roundg k1
                                case measure => have := HK1.out; omega
                                case rel => exact ⟨(y167), (wrap64 (x46_1 + 1)), (by first | rfl | (simp; done) | (simp [*]; done)), H', ⟨by have := HK1.out; omega⟩, ⟨by (with_reducible repeat (first | apply Kd.R_alloc | apply Kd.R_drewN | apply Kd.R_drew)); exact Kd.R_mono HO_11.out (fun _ hk => hk.2)⟩, ⟨by (with_reducible repeat (first | apply Kd.V_alloc | apply Kd.V_drewN | apply Kd.V_drew)); exact Kd.V_mono HO_12.out (fun _ hk => hk.2)⟩, ⟨by (with_reducible repeat (first | apply Kd.R_alloc | apply Kd.R_drewN | apply Kd.R_drew)); exact HO169.out⟩, ⟨by (with_reducible repeat (first | apply Kd.V_alloc | apply Kd.V_drewN | apply Kd.V_drew)); exact Kd.V_mono HO_44.out (fun _ hk => hk.2)⟩, ⟨by repeat (first | (with_reducible first | exact HB.out | apply below_alloc | apply pw_below_drewN | apply below_drew1) | exact HB.out)⟩⟩
                              · rw [if_neg c158] at H
                                exact absurd H (by simp)
                            · rw [if_neg c157] at H
                              exact absurd H (by simp)
                          · rw [if_neg c156] at H
                            have c156b0 : ((Int.tmod (wrap64 ((y193.length : Int) - x46_1)) a2) == 0) = false := beq_eq_false_iff_ne.mpr c156
                            have c156b1 : ((Int.tmod (wrap64 ((y193.length : Int) - x46_1)) a2) != 0) = true := bne_iff_ne.mpr c156
                            by_cases c161 : x13_1.length < 140737488355328
                            · rw [if_pos c161] at H
                              have LMc161 := Aside0.mk c161
                              clear c161
                              obtain ⟨y170, hy170⟩ : ∃ y_ : List Int, y_ = (x13_1 ++ [rd y193 x46_1]) := ⟨_, rfl⟩
                              replace H : (spec_GroupedText.l0 k1 a1 a2 a3 a4 t140 y193 y170 y193 (y193.length : Int) (wrap64 (x46_1 + 1))) = some r := by first | (rw [hy170]; with_reducible exact H) | (have H2_ := (Option.bind_some _ _).symm.trans H; rw [hy170]; with_reducible exact H2_) | (have H2_ := (Option.bind_some _ _).symm.trans H; with_reducible exact H2_) | with_reducible exact H | (rw [hy170]; exact H) | exact H
                              have Ny170 := Aside0.mk hy170
                              clear hy170
                              have H' := Aside0.mk H
                              clear H
                              have p163 : 0 ≤ (x46_1 : Int) := of_decide_eq_true (by first | (with_reducible assumption) | assumption)
                              have q163 : x46_1 < (y193.length : Int) := of_decide_eq_true (by first | (with_reducible assumption) | assumption)
                              obtain ⟨ad163, e163, hx163_0⟩ := Kd.at_int (Kd.V_reads' HO_44.out).2.2 x46_1 p163 q163
                              cases e163
                              replace p163 := eq_true p163
                              replace q163 := eq_true q163
                              go_wp2_with (first | ((with_reducible refine gate_builtin (b := .append) (xs := #[.tmp 70, .tmp 72]) rfl ?_); (try (refine gate_guard (by rfl) ?_; dsimp only)); at_builtin; refine Kd.R_append (Kd.int .u8) (w0 := w) w.heap.size rfl (.tmp 70) (.tmp 72) 22 5 (.int .u8 0) 1 rfl Try.underlying22 info5 rfl (by decide) (by omega) u13 x13_1 (rd y193 x46_1) [.int .u8 (rd y193 x46_1)] (fun k_ => some k_ ≠ (.slice (some ad163) t140.length co146 : Value).ownBlock) (fun _ => False) rfl rfl ?aP (fun _ hk => hk.elim) ?aF ?aO ?aB ?aS ?aL ?_; (case aP => exact rfl); (case aB => exact (by repeat (first | (with_reducible first | exact HB.out | apply below_alloc | apply pw_below_drewN | apply below_drew1) | exact HB.out))); (case aF => exact (fun k_ hk => Kd.fresh' (Kd.R_lt (by (with_reducible repeat (first | apply Kd.R_alloc | apply Kd.R_drewN | apply Kd.R_drew)); exact HO_11.out)) k_ hk)); (case aO => exact (by (with_reducible repeat (first | apply Kd.R_alloc | apply Kd.R_drewN | apply Kd.R_drew)); exact HO_13.out)); (case aS => exact (below_size (by repeat (first | (with_reducible first | exact HB.out | apply below_alloc | apply pw_below_drewN | apply below_drew1) | exact HB.out)))); (case aL => have := LMc161.out; omega); intro v171 w162 ho hb hg hat; rw [← Ny170.out] at ho; have n0_ := Aside0.mk (Kd.R_after (ok := (fun _ => True)) (by (with_reducible repeat (first | apply Kd.R_alloc | apply Kd.R_drewN | apply Kd.R_drew)); exact Kd.R_mono HO_11.out (fun _ hk => ⟨trivial, hk⟩)) hg hat); have n1_ := Aside0.mk (Kd.V_afterv (ok := (fun _ => True)) (by (with_reducible repeat (first | apply Kd.V_alloc | apply Kd.V_drewN | apply Kd.V_drew)); exact Kd.V_mono HO_12.out (fun _ hk => ⟨trivial, hk⟩)) hg hat); have n2_ := Aside0.mk (Kd.V_afterv (ok := (fun _ => True)) (by (with_reducible repeat (first | apply Kd.V_alloc | apply Kd.V_drewN | apply Kd.V_drew)); exact Kd.V_mono HO_44.out (fun _ hk => ⟨trivial, hk⟩)) hg hat); have n3_ := Aside0.mk (hb); have n4_ := Aside0.mk (ho); clear HO_11; clear HO_12; clear HO_44; clear HB; clear HO_13; have HO_11 := n0_; have HO_12 := n1_; have HO_44 := n2_; have HB := n3_; have HO172 := n4_; clear n0_ n1_ n2_ n3_ n4_; clear ho hb hg hat))
                              go_roundg k1
                              case measure => have := HK1.out; omega
                              case rel => exact ⟨(y170), (wrap64 (x46_1 + 1)), (by first | rfl | (simp; done) | (simp [*]; done)), H', ⟨by have := HK1.out; omega⟩, ⟨by (with_reducible repeat (first | apply Kd.R_alloc | apply Kd.R_drewN | apply Kd.R_drew)); exact Kd.R_mono HO_11.out (fun _ hk => hk.2)⟩, ⟨by (with_reducible repeat (first | apply Kd.V_alloc | apply Kd.V_drewN | apply Kd.V_drew)); exact Kd.V_mono HO_12.out (fun _ hk => hk.2)⟩, ⟨by (with_reducible repeat (first | apply Kd.R_alloc | apply Kd.R_drewN | apply Kd.R_drew)); exact HO172.out⟩, ⟨by (with_reducible repeat (first | apply Kd.V_alloc | apply Kd.V_drewN | apply Kd.V_drew)); exact Kd.V_mono HO_44.out (fun _ hk => hk.2)⟩, ⟨by repeat (first | (with_reducible first | exact HB.out | apply below_alloc | apply pw_below_drewN | apply below_drew1) | exact HB.out)⟩⟩
                            · rw [if_neg c161] at H
                              exact absurd H (by simp)
                      · rw [if_neg c154] at H
                        have c154b0 : decide (0 < a2) = false := decide_eq_false c154
                        clear c154
                        by_cases c163 : x13_1.length < 140737488355328
                        · rw [if_pos c163] at H
                          have LMc163 := Aside0.mk c163
                          clear c163
                          obtain ⟨y173, hy173⟩ : ∃ y_ : List Int, y_ = (x13_1 ++ [rd y193 x46_1]) := ⟨_, rfl⟩
                          replace H : (spec_GroupedText.l0 k1 a1 a2 a3 a4 t140 y193 y173 y193 (y193.length : Int) (wrap64 (x46_1 + 1))) = some r := by first | (rw [hy173]; with_reducible exact H) | (have H2_ := (Option.bind_some _ _).symm.trans H; rw [hy173]; with_reducible exact H2_) | (have H2_ := (Option.bind_some _ _).symm.trans H; with_reducible exact H2_) | with_reducible exact H | (rw [hy173]; exact H) | exact H
                          have Ny173 := Aside0.mk hy173
                          clear hy173
                          have H' := Aside0.mk H
                          clear H
                          have p163 : 0 ≤ (x46_1 : Int) := of_decide_eq_true (by first | (with_reducible assumption) | assumption)
                          have q163 : x46_1 < (y193.length : Int) := of_decide_eq_true (by first | (with_reducible assumption) | assumption)
                          obtain ⟨ad163, e163, hx163_0⟩ := Kd.at_int (Kd.V_reads' HO_44.out).2.2 x46_1 p163 q163
                          cases e163
                          replace p163 := eq_true p163
                          replace q163 := eq_true q163
                          go_wp2_with (first | ((with_reducible refine gate_builtin (b := .append) (xs := #[.tmp 70, .tmp 72]) rfl ?_); (try (refine gate_guard (by rfl) ?_; dsimp only)); at_builtin; refine Kd.R_append (Kd.int .u8) (w0 := w) w.heap.size rfl (.tmp 70) (.tmp 72) 22 5 (.int .u8 0) 1 rfl Try.underlying22 info5 rfl (by decide) (by omega) u13 x13_1 (rd y193 x46_1) [.int .u8 (rd y193 x46_1)] (fun k_ => some k_ ≠ (.slice (some ad163) t140.length co146 : Value).ownBlock) (fun _ => False) rfl rfl ?aP (fun _ hk => hk.elim) ?aF ?aO ?aB ?aS ?aL ?_; (case aP => exact rfl); (case aB => exact (by repeat (first | (with_reducible first | exact HB.out | apply below_alloc | apply pw_below_drewN | apply below_drew1) | exact HB.out))); (case aF => exact (fun k_ hk => Kd.fresh' (Kd.R_lt (by (with_reducible repeat (first | apply Kd.R_alloc | apply Kd.R_drewN | apply Kd.R_drew)); exact HO_11.out)) k_ hk)); (case aO => exact (by (with_reducible repeat (first | apply Kd.R_alloc | apply Kd.R_drewN | apply Kd.R_drew)); exact HO_13.out)); (case aS => exact (below_size (by repeat (first | (with_reducible first | exact HB.out | apply below_alloc | apply pw_below_drewN | apply below_drew1) | exact HB.out)))); (case aL => have := LMc163.out; omega); intro v174 w164 ho hb hg hat; rw [← Ny173.out] at ho; have n0_ := Aside0.mk (Kd.R_after (ok := (fun _ => True)) (by (with_reducible repeat (first | apply Kd.R_alloc | apply Kd.R_drewN | apply Kd.R_drew)); exact Kd.R_mono HO_11.out (fun _ hk => ⟨trivial, hk⟩)) hg hat); have n1_ := Aside0.mk (Kd.V_afterv (ok := (fun _ => True)) (by (with_reducible repeat (first | apply Kd.V_alloc | apply Kd.V_drewN | apply Kd.V_drew)); exact Kd.V_mono HO_12.out (fun _ hk => ⟨trivial, hk⟩)) hg hat); have n2_ := Aside0.mk (Kd.V_afterv (ok := (fun _ => True)) (by (with_reducible repeat (first | apply Kd.V_alloc | apply Kd.V_drewN | apply Kd.V_drew)); exact Kd.V_mono HO_44.out (fun _ hk => ⟨trivial, hk⟩)) hg hat); have n3_ := Aside0.mk (hb); have n4_ := Aside0.mk (ho); clear HO_11; clear HO_12; clear HO_44; clear HB; clear HO_13; have HO_11 := n0_; have HO_12 := n1_; have HO_44 := n2_; have HB := n3_; have HO175 := n4_; clear n0_ n1_ n2_ n3_ n4_; clear ho hb hg hat))
                          go_roundg k1
                          case measure => have := HK1.out; omega
                          case rel => exact ⟨(y173), (wrap64 (x46_1 + 1)), (by first | rfl | (simp; done) | (simp [*]; done)), H', ⟨by have := HK1.out; omega⟩, ⟨by (with_reducible repeat (first | apply Kd.R_alloc | apply Kd.R_drewN | apply Kd.R_drew)); exact Kd.R_mono HO_11.out (fun _ hk => hk.2)⟩, ⟨by (with_reducible repeat (first | apply Kd.V_alloc | apply Kd.V_drewN | apply Kd.V_drew)); exact Kd.V_mono HO_12.out (fun _ hk => hk.2)⟩, ⟨by (with_reducible repeat (first | apply Kd.R_alloc | apply Kd.R_drewN | apply Kd.R_drew)); exact HO175.out⟩, ⟨by (with_reducible repeat (first | apply Kd.V_alloc | apply Kd.V_drewN | apply Kd.V_drew)); exact Kd.V_mono HO_44.out (fun _ hk => hk.2)⟩, ⟨by repeat (first | (with_reducible first | exact HB.out | apply below_alloc | apply pw_below_drewN | apply below_drew1) | exact HB.out)⟩⟩
                        · rw [if_neg c163] at H
                          exact absurd H (by simp)
                    · rw [if_neg c153] at H
                      have c153b0 : decide (0 < x46_1) = false := decide_eq_false c153
                      clear c153
                      by_cases c165 : x13_1.length < 140737488355328
                      · rw [if_pos c165] at H
                        have LMc165 := Aside0.mk c165
                        clear c165
                        obtain ⟨y176, hy176⟩ : ∃ y_ : List Int, y_ = (x13_1 ++ [rd y193 x46_1]) := ⟨_, rfl⟩
                        replace H : (spec_GroupedText.l0 k1 a1 a2 a3 a4 t140 y193 y176 y193 (y193.length : Int) (wrap64 (x46_1 + 1))) = some r := by first | (rw [hy176]; with_reducible exact H) | (have H2_ := (Option.bind_some _ _).symm.trans H; rw [hy176]; with_reducible exact H2_) | (have H2_ := (Option.bind_some _ _).symm.trans H; with_reducible exact H2_) | with_reducible exact H | (rw [hy176]; exact H) | exact H
                        have Ny176 := Aside0.mk hy176
                        clear hy176
                        have H' := Aside0.mk H
                        clear H
                        have p163 : 0 ≤ (x46_1 : Int) := of_decide_eq_true (by first | (with_reducible assumption) | assumption)
                        have q163 : x46_1 < (y193.length : Int) := of_decide_eq_true (by first | (with_reducible assumption) | assumption)
                        obtain ⟨ad163, e163, hx163_0⟩ := Kd.at_int (Kd.V_reads' HO_44.out).2.2 x46_1 p163 q163
                        cases e163
                        replace p163 := eq_true p163
                        replace q163 := eq_true q163
                        go_wp2_with (first | ((with_reducible refine gate_builtin (b := .append) (xs := #[.tmp 70, .tmp 72]) rfl ?_); (try (refine gate_guard (by rfl) ?_; dsimp only)); at_builtin; refine Kd.R_append (Kd.int .u8) (w0 := w) w.heap.size rfl (.tmp 70) (.tmp 72) 22 5 (.int .u8 0) 1 rfl Try.underlying22 info5 rfl (by decide) (by omega) u13 x13_1 (rd y193 x46_1) [.int .u8 (rd y193 x46_1)] (fun k_ => some k_ ≠ (.slice (some ad163) t140.length co146 : Value).ownBlock) (fun _ => False) rfl rfl ?aP (fun _ hk => hk.elim) ?aF ?aO ?aB ?aS ?aL ?_; (case aP => exact rfl); (case aB => exact (by repeat (first | (with_reducible first | exact HB.out | apply below_alloc | apply pw_below_drewN | apply below_drew1) | exact HB.out))); (case aF => exact (fun k_ hk => Kd.fresh' (Kd.R_lt (by (with_reducible repeat (first | apply Kd.R_alloc | apply Kd.R_drewN | apply Kd.R_drew)); exact HO_11.out)) k_ hk)); (case aO => exact (by (with_reducible repeat (first | apply Kd.R_alloc | apply Kd.R_drewN | apply Kd.R_drew)); exact HO_13.out)); (case aS => exact (below_size (by repeat (first | (with_reducible first | exact HB.out | apply below_alloc | apply pw_below_drewN | apply below_drew1) | exact HB.out)))); (case aL => have := LMc165.out; omega); intro v177 w166 ho hb hg hat; rw [← Ny176.out] at ho; have n0_ := Aside0.mk (Kd.R_after (ok := (fun _ => True)) (by (with_reducible repeat (first | apply Kd.R_alloc | apply Kd.R_drewN | apply Kd.R_drew)); exact Kd.R_mono HO_11.out (fun _ hk => ⟨trivial, hk⟩)) hg hat); have n1_ := Aside0.mk (Kd.V_afterv (ok := (fun _ => True)) (by (with_reducible repeat (first | apply Kd.V_alloc | apply Kd.V_drewN | apply Kd.V_drew)); exact Kd.V_mono HO_12.out (fun _ hk => ⟨trivial, hk⟩)) hg hat); have n2_ := Aside0.mk (Kd.V_afterv (ok := (fun _ => True)) (by (with_reducible repeat (first | apply Kd.V_alloc | apply Kd.V_drewN | apply Kd.V_drew)); exact Kd.V_mono HO_44.out (fun _ hk => ⟨trivial, hk⟩)) hg hat); have n3_ := Aside0.mk (hb); have n4_ := Aside0.mk (ho); clear HO_11; clear HO_12; clear HO_44; clear HB; clear HO_13; have HO_11 := n0_; have HO_12 := n1_; have HO_44 := n2_; have HB := n3_; have HO178 := n4_; clear n0_ n1_ n2_ n3_ n4_; clear ho hb hg hat))
                        go_roundg k1
                        case measure => have := HK1.out; omega
                        case rel => exact ⟨(y176), (wrap64 (x46_1 + 1)), (by first | rfl | (simp; done) | (simp [*]; done)), H', ⟨by have := HK1.out; omega⟩, ⟨by (with_reducible repeat (first | apply Kd.R_alloc | apply Kd.R_drewN | apply Kd.R_drew)); exact Kd.R_mono HO_11.out (fun _ hk => hk.2)⟩, ⟨by (with_reducible repeat (first | apply Kd.V_alloc | apply Kd.V_drewN | apply Kd.V_drew)); exact Kd.V_mono HO_12.out (fun _ hk => hk.2)⟩, ⟨by (with_reducible repeat (first | apply Kd.R_alloc | apply Kd.R_drewN | apply Kd.R_drew)); exact HO178.out⟩, ⟨by (with_reducible repeat (first | apply Kd.V_alloc | apply Kd.V_drewN | apply Kd.V_drew)); exact Kd.V_mono HO_44.out (fun _ hk => hk.2)⟩, ⟨by repeat (first | (with_reducible first | exact HB.out | apply below_alloc | apply pw_below_drewN | apply below_drew1) | exact HB.out)⟩⟩
                      · rw [if_neg c165] at H
                        exact absurd H (by simp)
                  · rw [if_neg c152] at H
                    exact absurd H (by simp)
                · rw [if_neg c151] at H
                  exact absurd H (by simp)
              · rw [if_neg c150] at H
                have c150b0 : decide (x46_1 < (y193.length : Int)) = false := decide_eq_false c150
                clear c150
                by_cases c167 : a1 > 0
                · rw [if_pos c167] at H
                  have c167b0 : decide (0 < a1) = true := decide_eq_true c167
                  clear c167
                  obtain ⟨y179, hy179⟩ : ∃ y_ : List Int, y_ = (([a4] : List Int)) := ⟨_, rfl⟩
                  replace H : (if 0 ≤ (wrap64 ((t140.length : Int) - a1)) then (if (wrap64 ((t140.length : Int) - a1)) ≤ (t140.length : Int) then ((spec_Join.f k1 (([x13_1, y179, (t140.drop ((wrap64 ((t140.length : Int) - a1)) : Int).toNat)] : List (List Int)))).bind fun t190 => (some t190)) else (none)) else (none)) = some r := by first | (rw [hy179]; with_reducible exact H) | (have H2_ := (Option.bind_some _ _).symm.trans H; rw [hy179]; with_reducible exact H2_) | (have H2_ := (Option.bind_some _ _).symm.trans H; with_reducible exact H2_) | with_reducible exact H | (rw [hy179]; exact H) | exact H
                  have Ny179 := Aside0.mk hy179
                  clear hy179
                  obtain ⟨ji168, hji168⟩ : ∃ j_ : Int, (wrap64 ((t140.length : Int) - a1)) = j_ := ⟨_, rfl⟩
                  obtain rfl : ji168 = ji103 := hji168.symm.trans hji103
                  replace H : (if 0 ≤ (ji168) then (if (ji168) ≤ (t140.length : Int) then ((spec_Join.f k1 (([x13_1, y179, (t140.drop ((ji168) : Int).toNat)] : List (List Int)))).bind fun t190 => (some t190)) else (none)) else (none)) = some r := by first | (rw [hji168] at H; exact H) | (simp only [hji168] at H ⊢; exact H)
                  have hji168w : (IntKind.i64.wrap ((t140.length : Int) - a1)) = ji168 := (i64_w _).trans hji168
                  by_cases c169 : 0 ≤ (ji168)
                  · rw [if_pos c169] at H
                    have c169b0 := eq_true c169
                    have c169b1 : decide (0 ≤ (ji168)) = true := decide_eq_true c169
                    clear c169
                    by_cases c170 : (ji168) ≤ (t140.length : Int)
                    · rw [if_pos c170] at H
                      have c170b0 := eq_true c170
                      have c170b1 : decide ((ji168) ≤ (t140.length : Int)) = true := decide_eq_true c170
                      clear c170
                      obtain ⟨y182, hy182⟩ : ∃ y_ : List Int, y_ = (t140.drop ((ji168) : Int).toNat) := ⟨_, rfl⟩
                      replace H : ((spec_Join.f k1 (([x13_1, y179, y182] : List (List Int)))).bind fun t190 => (some t190)) = some r := by first | (rw [hy182]; with_reducible exact H) | (have H2_ := (Option.bind_some _ _).symm.trans H; rw [hy182]; with_reducible exact H2_) | (have H2_ := (Option.bind_some _ _).symm.trans H; with_reducible exact H2_) | with_reducible exact H | (rw [hy182]; exact H) | exact H
                      have Ny182 := Aside0.mk hy182
                      clear hy182
                      obtain ⟨y187, hy187⟩ : ∃ y_ : List (List Int), y_ = (([x13_1, y179, y182] : List (List Int))) := ⟨_, rfl⟩
                      replace H : ((spec_Join.f k1 y187).bind fun t190 => (some t190)) = some r := by first | (rw [hy187]; with_reducible exact H) | (have H2_ := (Option.bind_some _ _).symm.trans H; rw [hy187]; with_reducible exact H2_) | (have H2_ := (Option.bind_some _ _).symm.trans H; with_reducible exact H2_) | with_reducible exact H | (rw [hy187]; exact H) | exact H
                      have Ny187 := Aside0.mk hy187
                      clear hy187
                      replace H := Option.bind_eq_some_iff.mp H
                      obtain ⟨t190, A1710, H⟩ := H
                      replace H : (some t190) = some r := H
                      have A171 := Aside0.mk A1710
                      clear A1710
                      obtain rfl := Option.some.inj H
                      go_wp2_with (first | ((with_reducible refine gate_dst (N := 79) rfl ?_); (try (refine gate_guard (by rfl) ?_; dsimp only)); refine Kd.R_lit (Kd.int .u8) _ 5 ?hg (N := 79) ?hd (xs := ([a4] : List Int)) (inner := [.int .u8 a4]) (ok := fun _ => True) (okp := fun _ => True) ?hr ?hp (fun _ hk => hk) trivial (Below.refl _ _) (Nat.le_refl _) (by simp) ?_; (case hd => rfl); (case hg => rfl); (case hr => first | (go_simp; done) | (go_simp; rfl)); (case hp => exact (Reps.one (show Kd.M (Kd.int .u8) _ _ _ a4 [.int .u8 a4] from rfl) (Reps.none _ _))); intro v180 w172 ho173 hb hg_ hnew_; clear hg_ hnew_; (first | rw [← Ny179.out] at ho173 | (simp only [Int.reduceToNat] at ho173; rw [← Ny179.out] at ho173)); have n0_ := Aside0.mk (Kd.R_elder' (by (with_reducible repeat (first | apply Kd.R_alloc | apply Kd.R_drewN | apply Kd.R_drew)); exact HO_11.out) (Kd.R_base ho173) hb); have n1_ := Aside0.mk (Kd.V_elder' (by (with_reducible repeat (first | apply Kd.V_alloc | apply Kd.V_drewN | apply Kd.V_drew)); exact HO_12.out) (Kd.R_base ho173) hb); have n2_ := Aside0.mk (Kd.R_elder' (by (with_reducible repeat (first | apply Kd.R_alloc | apply Kd.R_drewN | apply Kd.R_drew)); exact HO_13.out) (Kd.R_base ho173) hb); have n3_ := Aside0.mk (Kd.V_elder' (by (with_reducible repeat (first | apply Kd.V_alloc | apply Kd.V_drewN | apply Kd.V_drew)); exact HO_44.out) (Kd.R_base ho173) hb); have n4_ := Aside0.mk (Kd.R_lower (Kd.R_new' (Kd.R_new' ho173 (Kd.R_lt (by (with_reducible repeat (first | apply Kd.R_alloc | apply Kd.R_drewN | apply Kd.R_drew)); exact HO_11.out))) (Kd.R_lt (by (with_reducible repeat (first | apply Kd.R_alloc | apply Kd.R_drewN | apply Kd.R_drew)); exact HO_13.out))) (below_size (by repeat (first | (with_reducible first | exact HB.out | apply below_alloc | apply pw_below_drewN | apply below_drew1) | exact HB.out)))); have n5_ := Aside0.mk (below_step (by repeat (first | (with_reducible first | exact HB.out | apply below_alloc | apply pw_below_drewN | apply below_drew1) | exact HB.out)) hb); clear HO_11; clear HO_12; clear HO_13; clear HO_44; clear HB; have HO_11 := n0_; have HO_12 := n1_; have HO_13 := n2_; have HO_44 := n3_; have HO181 := n4_; have HB := n5_; clear n0_ n1_ n2_ n3_ n4_ n5_; clear hb ho173; have q174 : ((ji168) : Int) ≤ ((t140.length : Int) : Int) := of_decide_eq_true (by first | (with_reducible assumption) | assumption); obtain ⟨i0174, hi0174, _, hsz174, _⟩ := info_parts info5; have hroom174 : t140.length ≤ co146 := (Kd.R_reads' HO_11.out).2.1; have hC174 : Kd.F (Kd.int .u8) _ _ Ao146 t140.length t140 := (Kd.V_at (base := w.heap.size) (Kd.R_V HO_11.out)).2.2; have q0174 : (0 : Int) ≤ ((ji168) : Int) := of_decide_eq_true (by first | (with_reducible assumption) | assumption); have hcut174 := cut_from (P := Try.prog) 22 5 .i64 Try.underlying22 hi0174 1 hsz174 Ao146 t140.length co146 (ji168) q0174 q174; have hr174 := Kd.F_cut (m := ((ji168) : Int).toNat) (c := co146) hC174 (by omega) hroom174; obtain ⟨A174, hA174⟩ : ∃ Aq_, Aq_ = (if co146 = ((ji168) : Int).toNat then Ao146 else (Ao146 : Option Addr).map (·.add (((ji168) : Int).toNat * 1))) := ⟨_, rfl⟩; obtain ⟨c174, hc174⟩ : ∃ cq_, cq_ = co146 - ((ji168) : Int).toNat := ⟨_, rfl⟩; have hy174 : y182.length = t140.length - ((ji168) : Int).toNat := (by rw [Ny182.out, List.length_drop] <;> omega); rw [show (t140).drop ((ji168) : Int).toNat = y182 from Ny182.out.symm] at hr174; replace hr174 : Kd.F (Kd.int .u8) _ _ A174 y182.length y182 := (by rw [hA174]; exact hr174); rw [← hy174, ← hA174, ← hc174] at hcut174; have HO186 := Aside0.mk (show Kd.V (Kd.int .u8) 5 _ w.heap.size _ (.slice A174 y182.length c174) y182 from Kd.V_mk (by rw [hy174, hc174]; exact Nat.sub_le_sub_right hroom174 _) hr174); have HC186 := Aside0.mk (show y182.length ≤ c174 from by rw [hy174, hc174]; exact Nat.sub_le_sub_right hroom174 _); clear hr174 hC174 hroom174 hi0174 hsz174 hc174; have KY174 := Aside0.mk hy174; have KA174 := Aside0.mk hA174; clear hy174 hA174; replace q174 := eq_true q174; obtain ⟨Ao175, co175, eo175⟩ := Kd.R_slice HO_13.out; subst eo175; obtain ⟨Ao176, co176, eo176⟩ := Kd.R_slice HO181.out; subst eo176) | ((with_reducible refine gate_dst (N := 86) rfl ?_); (try (refine gate_guard (by rfl) ?_; dsimp only)); refine Kd.N_lit (Kd.slice 5 (Kd.int .u8)) _ 22 ?hg (N' := 86) ?hd (xs := ([x13_1, y179, y182] : List (List Int))) (inner := [.slice Ao175 x13_1.length co175, .slice Ao176 y179.length co176, .slice A174 y182.length c174]) (ok := (fun _ => True)) (okp := (fun _ => True)) ?hr ?hp (fun _ hk => hk) ((show ∀ k_, w172.heap.size ≤ k_ → (fun _ => True) k_ from fun k_ hk => trivial) _ (Nat.le_refl _)) (Below.refl _ _) (Nat.le_refl _) (by simp) ?_; (case hd => rfl); (case hg => rfl); (case hr => first | (go_simp; done) | (go_simp; rfl)); (case hp => first | exact (Reps.one (show Kd.FK (Kd.slice 5 (Kd.int .u8)) _ _ x13_1 [.slice Ao175 x13_1.length co175] from (Kd.FK_slice_mk (Kd.R_reads' (Kd.R_mono (ok' := (fun _ => True)) (HO_13.out) (fun k_ hk => trivial))).2.1 (Kd.R_F (Kd.R_mono (ok' := (fun _ => True)) (HO_13.out) (fun k_ hk => trivial))))) (Reps.one (show Kd.FK (Kd.slice 5 (Kd.int .u8)) _ _ y179 [.slice Ao176 y179.length co176] from (Kd.FK_slice_mk (Kd.R_reads' (Kd.R_mono (ok' := (fun _ => True)) (HO181.out) (fun k_ hk => trivial))).2.1 (Kd.R_F (Kd.R_mono (ok' := (fun _ => True)) (HO181.out) (fun k_ hk => trivial))))) (Reps.one (show Kd.FK (Kd.slice 5 (Kd.int .u8)) _ _ y182 [.slice A174 y182.length c174] from (Kd.FK_slice_mk (Kd.V_reads' (Kd.V_mono (ok' := (fun _ => True)) (HO186.out) (fun k_ hk => trivial))).2.1 (Kd.V_F (Kd.V_mono (ok' := (fun _ => True)) (HO186.out) (fun k_ hk => trivial))))) (Reps.none _ _)))) | exact (Reps.one (show Kd.FK (Kd.slice 5 (Kd.int .u8)) _ _ x13_1 [.slice Ao175 x13_1.length co175] from (Kd.FK_slice_mk (Kd.R_reads' (Kd.R_mono (ok' := (fun _ => True)) (HO_13.out) (fun k_ hk => trivial))).2.1 (Kd.R_F (Kd.R_mono (ok' := (fun _ => True)) ((Kd.R_drewN HO_13.out _)) (fun k_ hk => trivial))))) (Reps.one (show Kd.FK (Kd.slice 5 (Kd.int .u8)) _ _ y179 [.slice Ao176 y179.length co176] from (Kd.FK_slice_mk (Kd.R_reads' (Kd.R_mono (ok' := (fun _ => True)) (HO181.out) (fun k_ hk => trivial))).2.1 (Kd.R_F (Kd.R_mono (ok' := (fun _ => True)) ((Kd.R_drewN HO181.out _)) (fun k_ hk => trivial))))) (Reps.one (show Kd.FK (Kd.slice 5 (Kd.int .u8)) _ _ y182 [.slice A174 y182.length c174] from (Kd.FK_slice_mk (Kd.V_reads' (Kd.V_mono (ok' := (fun _ => True)) (HO186.out) (fun k_ hk => trivial))).2.1 (Kd.V_F (Kd.V_mono (ok' := (fun _ => True)) ((Kd.V_drewN HO186.out _)) (fun k_ hk => trivial))))) (Reps.none _ _)))) | exact (Reps.one (show Kd.FK (Kd.slice 5 (Kd.int .u8)) _ _ x13_1 [.slice Ao175 x13_1.length co175] from (Kd.FK_slice_mk (Kd.R_reads' (Kd.R_mono (ok' := (fun _ => True)) (HO_13.out) (fun k_ hk => trivial))).2.1 (Kd.R_F (Kd.R_mono (ok' := (fun _ => True)) ((Kd.R_alloc HO_13.out _)) (fun k_ hk => trivial))))) (Reps.one (show Kd.FK (Kd.slice 5 (Kd.int .u8)) _ _ y179 [.slice Ao176 y179.length co176] from (Kd.FK_slice_mk (Kd.R_reads' (Kd.R_mono (ok' := (fun _ => True)) (HO181.out) (fun k_ hk => trivial))).2.1 (Kd.R_F (Kd.R_mono (ok' := (fun _ => True)) ((Kd.R_alloc HO181.out _)) (fun k_ hk => trivial))))) (Reps.one (show Kd.FK (Kd.slice 5 (Kd.int .u8)) _ _ y182 [.slice A174 y182.length c174] from (Kd.FK_slice_mk (Kd.V_reads' (Kd.V_mono (ok' := (fun _ => True)) (HO186.out) (fun k_ hk => trivial))).2.1 (Kd.V_F (Kd.V_mono (ok' := (fun _ => True)) ((Kd.V_alloc HO186.out _)) (fun k_ hk => trivial))))) (Reps.none _ _)))) | exact (Reps.one (show Kd.FK (Kd.slice 5 (Kd.int .u8)) _ _ x13_1 [.slice Ao175 x13_1.length co175] from (Kd.FK_slice_mk (Kd.R_reads' (Kd.R_mono (ok' := (fun _ => True)) (HO_13.out) (fun k_ hk => trivial))).2.1 (Kd.R_F (Kd.R_mono (ok' := (fun _ => True)) ((by (with_reducible repeat (first | apply Kd.R_alloc | apply Kd.R_drewN | apply Kd.R_drew)); exact HO_13.out)) (fun k_ hk => trivial))))) (Reps.one (show Kd.FK (Kd.slice 5 (Kd.int .u8)) _ _ y179 [.slice Ao176 y179.length co176] from (Kd.FK_slice_mk (Kd.R_reads' (Kd.R_mono (ok' := (fun _ => True)) (HO181.out) (fun k_ hk => trivial))).2.1 (Kd.R_F (Kd.R_mono (ok' := (fun _ => True)) ((by (with_reducible repeat (first | apply Kd.R_alloc | apply Kd.R_drewN | apply Kd.R_drew)); exact HO181.out)) (fun k_ hk => trivial))))) (Reps.one (show Kd.FK (Kd.slice 5 (Kd.int .u8)) _ _ y182 [.slice A174 y182.length c174] from (Kd.FK_slice_mk (Kd.V_reads' (Kd.V_mono (ok' := (fun _ => True)) (HO186.out) (fun k_ hk => trivial))).2.1 (Kd.V_F (Kd.V_mono (ok' := (fun _ => True)) ((by (with_reducible repeat (first | apply Kd.V_alloc | apply Kd.V_drewN | apply Kd.V_drew)); exact HO186.out)) (fun k_ hk => trivial))))) (Reps.none _ _))))); intro v188 w177 ho178 hb hg_ hnew_; clear hg_ hnew_; (first | rw [← Ny187.out] at ho178 | (simp only [Int.reduceToNat] at ho178; rw [← Ny187.out] at ho178)); have n0_ := Aside0.mk (Kd.R_below (by (with_reducible repeat (first | apply Kd.R_alloc | apply Kd.R_drewN | apply Kd.R_drew)); exact HO_11.out) hb); have n1_ := Aside0.mk (Kd.V_elder' (by (with_reducible repeat (first | apply Kd.V_alloc | apply Kd.V_drewN | apply Kd.V_drew)); exact HO_12.out) (Kd.N_base ho178) hb); have n2_ := Aside0.mk (Kd.R_below (by (with_reducible repeat (first | apply Kd.R_alloc | apply Kd.R_drewN | apply Kd.R_drew)); exact HO_13.out) hb); have n3_ := Aside0.mk (Kd.V_elder' (by (with_reducible repeat (first | apply Kd.V_alloc | apply Kd.V_drewN | apply Kd.V_drew)); exact HO_44.out) (Kd.N_base ho178) hb); have n4_ := Aside0.mk (Kd.R_below (by (with_reducible repeat (first | apply Kd.R_alloc | apply Kd.R_drewN | apply Kd.R_drew)); exact HO181.out) hb); have n5_ := Aside0.mk (Kd.V_elder' (by (with_reducible repeat (first | apply Kd.V_alloc | apply Kd.V_drewN | apply Kd.V_drew)); exact HO186.out) (Kd.N_base ho178) hb); have n6_ := Aside0.mk (Kd.N_lower ho178 (below_size (by repeat (first | (with_reducible first | exact HB.out | apply below_alloc | apply pw_below_drewN | apply below_drew1) | exact HB.out)))); have n7_ := Aside0.mk (below_step (by repeat (first | (with_reducible first | exact HB.out | apply below_alloc | apply pw_below_drewN | apply below_drew1) | exact HB.out)) hb); clear HO_11; clear HO_12; clear HO_13; clear HO_44; clear HO181; clear HO186; clear HB; have HO_11 := n0_; have HO_12 := n1_; have HO_13 := n2_; have HO_44 := n3_; have HO181 := n4_; have HO186 := n5_; have HO189 := n6_; have HB := n7_; clear n0_ n1_ n2_ n3_ n4_ n5_ n6_ n7_; clear hb ho178; obtain ⟨Ao179, co179, eo179⟩ := Kd.N_slice HO189.out; subst eo179) | ((with_reducible refine gate_callee (f := 8) rfl ?_); refine goesL_ (some 87) rfl rfl Try.func8 (by kernel_rfl) rfl #[.slice Ao179 y187.length co179] rfl (by (try simp only [List.map_toArray, List.map_cons, List.map_nil]); first | done | rfl | (simp only [List.length_drop, List.length_take]; rfl)) ?_; (with_reducible refine (spec_Join.calls k1 _ _ y187 t190 _ ?side1 ?side2 A171.out).mono ?_); (case side1 => repeat (first | exact (Kd.N_reads' HO189.out).2.2 | (with_reducible refine Kd.C_alloc ?_ _) | (with_reducible refine Kd.C_drewN ?_ _) | (with_reducible refine Kd.C_drew ?_))); (case side2 => exact (Kd.N_reads' HO189.out).2.1); rintro e w180 ⟨v191, rfl, ho0, hb⟩; refine ⟨_, rfl, ?_⟩; have n0_ := Aside0.mk (Kd.R_elder' (by (with_reducible repeat (first | apply Kd.R_alloc | apply Kd.R_drewN | apply Kd.R_drew)); exact HO_11.out) (Kd.R_base ho0) hb); have n1_ := Aside0.mk (Kd.V_elder' (by (with_reducible repeat (first | apply Kd.V_alloc | apply Kd.V_drewN | apply Kd.V_drew)); exact HO_12.out) (Kd.R_base ho0) hb); have n2_ := Aside0.mk (Kd.R_elder' (by (with_reducible repeat (first | apply Kd.R_alloc | apply Kd.R_drewN | apply Kd.R_drew)); exact HO_13.out) (Kd.R_base ho0) hb); have n3_ := Aside0.mk (Kd.V_elder' (by (with_reducible repeat (first | apply Kd.V_alloc | apply Kd.V_drewN | apply Kd.V_drew)); exact HO_44.out) (Kd.R_base ho0) hb); have n4_ := Aside0.mk (Kd.R_elder' (by (with_reducible repeat (first | apply Kd.R_alloc | apply Kd.R_drewN | apply Kd.R_drew)); exact HO181.out) (Kd.R_base ho0) hb); have n5_ := Aside0.mk (Kd.V_elder' (by (with_reducible repeat (first | apply Kd.V_alloc | apply Kd.V_drewN | apply Kd.V_drew)); exact HO186.out) (Kd.R_base ho0) hb); have n6_ := Aside0.mk (Kd.N_elder' (by (with_reducible repeat (first | apply Kd.N_alloc | apply Kd.N_drewN | apply Kd.N_drew)); exact HO189.out) (Kd.R_base ho0) hb); have n7_ := Aside0.mk (Kd.R_lower (Kd.R_new' (Kd.R_new' (Kd.R_new' ho0 (Kd.R_lt (by (with_reducible repeat (first | apply Kd.R_alloc | apply Kd.R_drewN | apply Kd.R_drew)); exact HO_11.out))) (Kd.R_lt (by (with_reducible repeat (first | apply Kd.R_alloc | apply Kd.R_drewN | apply Kd.R_drew)); exact HO_13.out))) (Kd.R_lt (by (with_reducible repeat (first | apply Kd.R_alloc | apply Kd.R_drewN | apply Kd.R_drew)); exact HO181.out))) (below_size (by repeat (first | (with_reducible first | exact HB.out | apply below_alloc | apply pw_below_drewN | apply below_drew1) | exact HB.out)))); have n8_ := Aside0.mk (below_step (by repeat (first | (with_reducible first | exact HB.out | apply below_alloc | apply pw_below_drewN | apply below_drew1) | exact HB.out)) hb); clear HO_11; clear HO_12; clear HO_13; clear HO_44; clear HO181; clear HO186; clear HO189; clear HB; have HO_11 := n0_; have HO_12 := n1_; have HO_13 := n2_; have HO_44 := n3_; have HO181 := n4_; have HO186 := n5_; have HO189 := n6_; have HO192 := n7_; have HB := n8_; clear n0_ n1_ n2_ n3_ n4_ n5_ n6_ n7_ n8_; (try clear hb); (try clear hb2); (try clear hk); (try clear hi); (try clear ho0)))
                      go_ret
                      exact ⟨_, by first | rfl | (simp [errW_none, errW_some] <;> rfl) | (simp only [← hji103, ← hji168]; first | rfl | (simp [errW_none, errW_some] <;> rfl)) | (simp [*, errW_none, errW_some] <;> rfl), by (with_reducible repeat (first | apply Kd.R_alloc | apply Kd.R_drewN | apply Kd.R_drew)); exact Kd.R_mono HO192.out (fun _ hk => trivial), by repeat (first | (with_reducible first | exact HB.out | apply below_alloc | apply pw_below_drewN | apply below_drew1) | exact HB.out)⟩
                    · rw [if_neg c170] at H
                      exact absurd H (by simp)
                  · rw [if_neg c169] at H
                    exact absurd H (by simp)
                · rw [if_neg c167] at H
                  have c167b0 : decide (0 < a1) = false := decide_eq_false c167
                  clear c167
                  obtain rfl := Option.some.inj H
                  go_wp2
                  go_ret
                  exact ⟨_, by first | rfl | (simp [errW_none, errW_some] <;> rfl) | (simp only [← hji103]; first | rfl | (simp [errW_none, errW_some] <;> rfl)) | (simp [*, errW_none, errW_some] <;> rfl), by (with_reducible repeat (first | apply Kd.R_alloc | apply Kd.R_drewN | apply Kd.R_drew)); exact Kd.R_mono HO_13.out (fun _ hk => trivial), by repeat (first | (with_reducible first | exact HB.out | apply below_alloc | apply pw_below_drewN | apply below_drew1) | exact HB.out)⟩
      · rw [if_neg c105] at H
        exact absurd H (by simp)
    · rw [if_neg c104] at H
      exact absurd H (by simp)

end Go.Proofs.Ytnjffokgimjfcaa.PFnNumberGrouped
