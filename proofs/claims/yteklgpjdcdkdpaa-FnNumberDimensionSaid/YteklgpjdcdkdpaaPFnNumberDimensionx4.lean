-- Laid by a program of this session, out of the translation's print.
import Derived.Test.YteklgpjdcdkdpaaPFnNumberDimensionx0
import Derived.Test.YteklgpjdcdkdpaaPFnNumberDimensionx1
import Derived.Test.YteklgpjdcdkdpaaPFnNumberDimensionx3
namespace Go.Proofs.Yteklgpjdcdkdpaa.PFnNumberDimension
open Go.Proofs.Yteklgpjdcdkdpaa.Own
open Go.RowKit Go.Proofs.YteklgpjdcdkdpaaW.PrintWords Go.Proofs.YteklgpjdcdkdpaaW.PrintLast Go.Proofs.YteklgpjdcdkdpaaW.PrintMore
attribute [local go_sem] max2_int min2_int max_two min_two max_three min_three max_four min_four   -- for this text's walks alone
set_option linter.unusedVariables false
set_option linter.unusedSimpArgs false

/-! ### spec_UnitLength: function 26 -/
mutual
def spec_UnitLength.j0 : Nat → List Int → Int → Bool → Option (Int)
  | 0, _, _, _ => none
  | k + 1, x0, x1, x16 => if x16 = true then (some 1) else (spec_UnitLength.l0 k x0 x1 x1)
def spec_UnitLength.l0 : Nat → List Int → Int → Int → Option (Int)
  | 0, _, _, _ => none
  | k + 1, x0, x1, x5 => if x5 < (x0.length : Int) then (if 0 ≤ x5 then ((spec_LowerByte.f (rd x0 x5)).bind fun t164 => (if t164 ≥ 97 then ((spec_LowerByte.f (rd x0 x5)).bind fun t166 => (if t166 ≤ 122 then (spec_UnitLength.l0 k x0 x1 (wrap64 (x5 + 1))) else (some (wrap64 (x5 - x1))))) else (some (wrap64 (x5 - x1))))) else (none)) else (some (wrap64 (x5 - x1)))
end
def spec_UnitLength.f (k : Nat) (l0 : List Int) (a1 : Int) : Option (Int) := if a1 < (l0.length : Int) then (if 0 ≤ a1 then (spec_UnitLength.j0 k l0 a1 ((rd l0 a1) == 37)) else (none)) else (spec_UnitLength.j0 k l0 a1 false)
theorem spec_UnitLength.mono_l : ∀ k, (∀ y0 y1 y2, LeO (spec_UnitLength.j0 k y0 y1 y2) (spec_UnitLength.j0 (k + 1) y0 y1 y2)) ∧ (∀ y0 y1 y2, LeO (spec_UnitLength.l0 k y0 y1 y2) (spec_UnitLength.l0 (k + 1) y0 y1 y2))
  | 0 => ⟨fun _ _ _ r h => by simp [spec_UnitLength.j0] at h, fun _ _ _ r h => by simp [spec_UnitLength.l0] at h⟩
  | k + 1 => by
    obtain ⟨ih0, ih1⟩ := spec_UnitLength.mono_l k
    refine ⟨?_, ?_⟩
    · intro y0 y1 y2
      unfold spec_UnitLength.j0
      repeat' first
      | (with_reducible exact ih0 _ _ _)
      | (with_reducible exact ih1 _ _ _)
      | (with_reducible exact LeO.refl _)
      | (with_reducible exact LeO.none _)
      | (with_reducible refine LeO.ite ?_ ?_)
      | (with_reducible refine LeO.bind ?_ (fun _ => ?_))
      | exact ih0 _ _ _
      | exact ih1 _ _ _
      | exact LeO.none _
      | refine LeO.ite ?_ ?_
      | refine LeO.bind ?_ (fun _ => ?_)
    · intro y0 y1 y2
      unfold spec_UnitLength.l0
      repeat' first
      | (with_reducible exact ih0 _ _ _)
      | (with_reducible exact ih1 _ _ _)
      | (with_reducible exact LeO.refl _)
      | (with_reducible exact LeO.none _)
      | (with_reducible refine LeO.ite ?_ ?_)
      | (with_reducible refine LeO.bind ?_ (fun _ => ?_))
      | exact ih0 _ _ _
      | exact ih1 _ _ _
      | exact LeO.none _
      | refine LeO.ite ?_ ?_
      | refine LeO.bind ?_ (fun _ => ?_)
theorem spec_UnitLength.mono : ∀ a0 a1 k, LeO (spec_UnitLength.f k a0 a1) (spec_UnitLength.f (k + 1) a0 a1) := by
  intro a0 a1 k
  obtain ⟨ih0, ih1⟩ := spec_UnitLength.mono_l k
  unfold spec_UnitLength.f
  repeat' first
      | (with_reducible exact ih0 _ _ _)
      | (with_reducible exact ih1 _ _ _)
      | (with_reducible exact LeO.refl _)
      | (with_reducible exact LeO.none _)
      | (with_reducible refine LeO.ite ?_ ?_)
      | (with_reducible refine LeO.bind ?_ (fun _ => ?_))
      | exact ih0 _ _ _
      | exact ih1 _ _ _
      | exact LeO.none _
      | refine LeO.ite ?_ ?_
      | refine LeO.bind ?_ (fun _ => ?_)
set_option maxHeartbeats 8000000 in
set_option maxRecDepth 100000 in
theorem spec_UnitLength.calls (k : Nat) (A0 : Option Addr) (c0 : Nat) (l0 : List Int) (a1 : Int) (r : Int) (w : World) (hr0 : Kd.C (Kd.int .u8) w A0 l0.length l0) (hc0 : l0.length ≤ c0) (h : spec_UnitLength.f k l0 a1 = some r) :
    Calls Try.prog 26 #[.slice A0 l0.length c0, .int .i64 a1] w fun e w' => e = .returned (.int .i64 r) ∧ Drawn0 w w' := by
  have HR0 := Aside0.mk hr0
  have HC0 := Aside0.mk hc0
  clear hr0 hc0
  have H : (if a1 < (l0.length : Int) then (if 0 ≤ a1 then (spec_UnitLength.j0 k l0 a1 ((rd l0 a1) == 37)) else (none)) else (spec_UnitLength.j0 k l0 a1 false)) = some r := h
  clear h
  have HC3 := Aside0.mk H
  clear H
  go_enter Try.func26, Try.ntmps26
  go_upto_region 1 with (fail)
  go_cut [16] (fun v16 wc => ∃ (kq : Nat) (x16_2 : Bool), v16 = .bool x16_2 ∧ Aside0 (spec_UnitLength.j0 kq l0 a1 x16_2 = some r) ∧ Aside0 (kq ≤ k) ∧ Drawn0 w wc)
  case first =>
    have H := HC3.out
    clear HC3
    by_cases c4 : a1 < (l0.length : Int)
    · rw [if_pos c4] at H
      have c4b0 : decide (a1 < (l0.length : Int)) = true := decide_eq_true c4
      clear c4
      (first | rw [c4b0] | (simp only [i64_w, i32_w]; rw [c4b0]) | skip)
      by_cases c5 : 0 ≤ a1
      · rw [if_pos c5] at H
        have c5b0 : decide (0 ≤ a1) = true := decide_eq_true c5
        clear c5
        as_aux_lemma =>
          have H' := Aside0.mk H
          clear H
          have p162 : 0 ≤ (a1 : Int) := of_decide_eq_true (by first | (with_reducible assumption) | assumption)
          have q162 : a1 < (l0.length : Int) := of_decide_eq_true (by first | (with_reducible assumption) | assumption)
          obtain ⟨ad162, e162, hx162_0⟩ := Kd.at_int HR0.out a1 p162 q162
          cases e162
          replace p162 := eq_true p162
          replace q162 := eq_true q162
          go_wp2
          go_meet
          case rel => exact ⟨_, (((rd l0 a1) == 37)), (by first | rfl | (simp; done) | (simp [*]; done)), H', ⟨by first | omega | exact Nat.le_refl _⟩, by repeat (first | exact Drawn0.refl _ | apply Drawn0.step)⟩
      · rw [if_neg c5] at H
        exact absurd H (by simp)
    · rw [if_neg c4] at H
      have c4b0 : decide (a1 < (l0.length : Int)) = false := decide_eq_false c4
      clear c4
      (first | rw [c4b0] | (simp only [i64_w, i32_w]; rw [c4b0]) | skip)
      as_aux_lemma =>
        have H' := Aside0.mk H
        clear H
        go_wp2
        go_meet
        case rel => exact ⟨_, (false), (by first | rfl | (simp; done) | (simp [*]; done)), H', ⟨by first | omega | exact Nat.le_refl _⟩, by repeat (first | exact Drawn0.refl _ | apply Drawn0.step)⟩
  case rest =>
    clear HC3
    try clear p1
    try clear q1
    try clear hx1
    try clear c2
    try clear p2
    try clear c4
    try clear c4b0
    try clear c5
    try clear c5b0
    try clear hx162_0
    try clear p162
    try clear q162
    obtain ⟨kq, x16_2, rfl, HA, HJ2, ⟨mc2, rfl⟩⟩ := hcut
    cases kq with
    | zero => exact absurd HA.out (by simp [spec_UnitLength.j0])
    | succ kj2 =>
      have H := HA.out
      clear HA
      simp only [spec_UnitLength.j0] at H
      by_cases c6 : x16_2 = true
      · subst c6
        have H1 : (some 1) = some r := by rw [if_pos rfl] at H; exact H
        clear H
        have H := H1
        clear H1
        as_aux_lemma =>
          obtain rfl := Option.some.inj H
          go_wp2
          go_ret
          exact ⟨by first | rfl | (simp; done) | (simp [*]; done), by repeat (first | exact Drawn0.refl _ | apply Drawn0.step)⟩
      · replace c6 := Bool.eq_false_iff.mpr c6
        subst c6
        have H1 : (spec_UnitLength.l0 kj2 l0 a1 a1) = some r := by rw [if_neg (show ¬ (false = true) by decide)] at H; exact H
        clear H
        have H := H1
        clear H1
        have H' := Aside0.mk H
        clear H
        go_wp2
        go_loopg [5] kj2 (fun kq v5 w' => ∃ (x5_2 : Int), v5 = .int .i64 x5_2 ∧ Aside0 (spec_UnitLength.l0 kq l0 a1 x5_2 = some r) ∧ Aside0 (kq ≤ kj2) ∧ Drawn0 w w')
        case atStart => exact ⟨(a1), (by first | rfl | (simp; done) | (simp [*]; done)), H', ⟨Nat.le_refl _⟩, by repeat (first | exact Drawn0.refl _ | apply Drawn0.step)⟩
        case round =>
          clear H'
          try clear p1
          try clear q1
          try clear hx1
          try clear c2
          try clear p2
          try clear c4
          try clear c4b0
          try clear c5
          try clear c5b0
          try clear c6
          try clear hx162_0
          try clear p1
          try clear p162
          try clear p2
          try clear q1
          try clear q162
          obtain ⟨x5_2, rfl, HA, HK2, ⟨m2, rfl⟩⟩ := hrel
          cases gk with
          | zero => exact absurd HA.out (by simp [spec_UnitLength.l0])
          | succ k2 =>
            have H := HA.out
            clear HA
            simp only [spec_UnitLength.l0] at H
            by_cases c7 : x5_2 < (l0.length : Int)
            · rw [if_pos c7] at H
              have c7b0 : decide (x5_2 < (l0.length : Int)) = true := decide_eq_true c7
              clear c7
              by_cases c8 : 0 ≤ x5_2
              · rw [if_pos c8] at H
                have c8b0 : decide (0 ≤ x5_2) = true := decide_eq_true c8
                clear c8
                replace H := Option.bind_eq_some_iff.mp H
                obtain ⟨t164, A90, H⟩ := H
                replace H : (if t164 ≥ 97 then ((spec_LowerByte.f (rd l0 x5_2)).bind fun t166 => (if t166 ≤ 122 then (spec_UnitLength.l0 k2 l0 a1 (wrap64 (x5_2 + 1))) else (some (wrap64 (x5_2 - a1))))) else (some (wrap64 (x5_2 - a1)))) = some r := H
                have A9 := Aside0.mk A90
                clear A90
                by_cases c10 : t164 ≥ 97
                · rw [if_pos c10] at H
                  have c10b0 : decide (97 ≤ t164) = true := decide_eq_true c10
                  clear c10
                  replace H := Option.bind_eq_some_iff.mp H
                  obtain ⟨t166, A110, H⟩ := H
                  replace H : (if t166 ≤ 122 then (spec_UnitLength.l0 k2 l0 a1 (wrap64 (x5_2 + 1))) else (some (wrap64 (x5_2 - a1)))) = some r := H
                  have A11 := Aside0.mk A110
                  clear A110
                  have eA11 : t164 = t166 := Option.some.inj (A9.out.symm.trans A11.out)
                  subst eA11
                  by_cases c12 : t164 ≤ 122
                  · rw [if_pos c12] at H
                    have c12b0 : decide (t164 ≤ 122) = true := decide_eq_true c12
                    clear c12
                    as_aux_lemma =>
                      have H' := Aside0.mk H
                      clear H
                      have p163 : 0 ≤ (x5_2 : Int) := of_decide_eq_true (by first | (with_reducible assumption) | assumption)
                      have q163 : x5_2 < (l0.length : Int) := of_decide_eq_true (by first | (with_reducible assumption) | assumption)
                      obtain ⟨ad163, e163, hx163_0⟩ := Kd.at_int HR0.out x5_2 p163 q163
                      cases e163
                      replace p163 := eq_true p163
                      replace q163 := eq_true q163
                      go_wp2_with (first | (go_at_call 56; (with_reducible refine (spec_LowerByte.calls (rd l0 x5_2) t164 _ A9.out).mono ?_); rintro e w' ⟨rfl, ⟨nd, rfl⟩⟩; have p165 : 0 ≤ (x5_2 : Int) := of_decide_eq_true (by first | (with_reducible assumption) | assumption); have q165 : x5_2 < (l0.length : Int) := of_decide_eq_true (by first | (with_reducible assumption) | assumption); obtain ⟨ad165, e165, hx165_0⟩ := Kd.at_int HR0.out x5_2 p165 q165; obtain rfl : ad163 = ad165 := (by injection e165); replace p165 := eq_true p165; replace q165 := eq_true q165) | (go_at_call 56; (with_reducible refine (spec_LowerByte.calls (rd l0 x5_2) t166 _ A11.out).mono ?_); rintro e w' ⟨rfl, ⟨nd, rfl⟩⟩))
                      go_roundg k2
                      case measure => have := HJ2.out; have := HK2.out; omega
                      case rel => exact ⟨(wrap64 (x5_2 + 1)), (by first | rfl | (simp; done) | (simp [*]; done)), H', ⟨by have := HJ2.out; have := HK2.out; omega⟩, by repeat (first | exact Drawn0.refl _ | apply Drawn0.step)⟩
                  · rw [if_neg c12] at H
                    have c12b0 : decide (t164 ≤ 122) = false := decide_eq_false c12
                    clear c12
                    as_aux_lemma =>
                      obtain rfl := Option.some.inj H
                      have p163 : 0 ≤ (x5_2 : Int) := of_decide_eq_true (by first | (with_reducible assumption) | assumption)
                      have q163 : x5_2 < (l0.length : Int) := of_decide_eq_true (by first | (with_reducible assumption) | assumption)
                      obtain ⟨ad163, e163, hx163_0⟩ := Kd.at_int HR0.out x5_2 p163 q163
                      cases e163
                      replace p163 := eq_true p163
                      replace q163 := eq_true q163
                      go_wp2_with (first | (go_at_call 56; (with_reducible refine (spec_LowerByte.calls (rd l0 x5_2) t164 _ A9.out).mono ?_); rintro e w' ⟨rfl, ⟨nd, rfl⟩⟩; have p165 : 0 ≤ (x5_2 : Int) := of_decide_eq_true (by first | (with_reducible assumption) | assumption); have q165 : x5_2 < (l0.length : Int) := of_decide_eq_true (by first | (with_reducible assumption) | assumption); obtain ⟨ad165, e165, hx165_0⟩ := Kd.at_int HR0.out x5_2 p165 q165; obtain rfl : ad163 = ad165 := (by injection e165); replace p165 := eq_true p165; replace q165 := eq_true q165) | (go_at_call 56; (with_reducible refine (spec_LowerByte.calls (rd l0 x5_2) t166 _ A11.out).mono ?_); rintro e w' ⟨rfl, ⟨nd, rfl⟩⟩))
                      go_ret
                      exact ⟨by first | rfl | (simp; done) | (simp [*]; done), by repeat (first | exact Drawn0.refl _ | apply Drawn0.step)⟩
                · rw [if_neg c10] at H
                  have c10b0 : decide (97 ≤ t164) = false := decide_eq_false c10
                  clear c10
                  as_aux_lemma =>
                    obtain rfl := Option.some.inj H
                    have p163 : 0 ≤ (x5_2 : Int) := of_decide_eq_true (by first | (with_reducible assumption) | assumption)
                    have q163 : x5_2 < (l0.length : Int) := of_decide_eq_true (by first | (with_reducible assumption) | assumption)
                    obtain ⟨ad163, e163, hx163_0⟩ := Kd.at_int HR0.out x5_2 p163 q163
                    cases e163
                    replace p163 := eq_true p163
                    replace q163 := eq_true q163
                    go_wp2_with (first | (go_at_call 56; (with_reducible refine (spec_LowerByte.calls (rd l0 x5_2) t164 _ A9.out).mono ?_); rintro e w' ⟨rfl, ⟨nd, rfl⟩⟩))
                    go_ret
                    exact ⟨by first | rfl | (simp; done) | (simp [*]; done), by repeat (first | exact Drawn0.refl _ | apply Drawn0.step)⟩
              · rw [if_neg c8] at H
                exact absurd H (by simp)
            · rw [if_neg c7] at H
              have c7b0 : decide (x5_2 < (l0.length : Int)) = false := decide_eq_false c7
              clear c7
              as_aux_lemma =>
                obtain rfl := Option.some.inj H
                go_wp2
                go_ret
                exact ⟨by first | rfl | (simp; done) | (simp [*]; done), by repeat (first | exact Drawn0.refl _ | apply Drawn0.step)⟩

/-! ### laws_FnNumberDimension: function 7 -/
def laws_FnNumberDimension.f (k : Nat) (l0 : List Int) : Option (Bool) := if (l0.length : Int) > 2147483647 then (some true) else ((laws_fewBytes.f k (([l0] : List (List Int)))).bind fun t170 => (if t170 = true then ((impl_DimensionLength.f k l0).bind fun bt171 => ((spec_NumberLength.f k l0).bind fun t173 => (if t173 = 0 then (if bt171.1 = 0 then (some (bt171.2 == 0)) else (some false)) else (if bt171.1 = t173 then ((spec_UnitLength.f k l0 t173).bind fun t174 => (some (bt171.2 == t174))) else (some false))))) else (some true)))
theorem laws_FnNumberDimension.mono : ∀ a0 k, LeO (laws_FnNumberDimension.f k a0) (laws_FnNumberDimension.f (k + 1) a0) := by
  intro a0 k
  unfold laws_FnNumberDimension.f
  repeat' first
      | (with_reducible exact impl_DimensionLength.mono _ _)
      | (with_reducible exact laws_fewBytes.mono _ _)
      | (with_reducible exact spec_NumberLength.mono _ _)
      | (with_reducible exact spec_UnitLength.mono _ _ _)
      | (with_reducible exact LeO.refl _)
      | (with_reducible exact LeO.none _)
      | (with_reducible refine LeO.ite ?_ ?_)
      | (with_reducible refine LeO.bind ?_ (fun _ => ?_))
      | exact impl_DimensionLength.mono _ _
      | exact laws_fewBytes.mono _ _
      | exact spec_NumberLength.mono _ _
      | exact spec_UnitLength.mono _ _ _
      | exact LeO.none _
      | refine LeO.ite ?_ ?_
      | refine LeO.bind ?_ (fun _ => ?_)
set_option maxHeartbeats 8000000 in
set_option maxRecDepth 100000 in
theorem laws_FnNumberDimension.calls (k : Nat) (P0_ : Nat → Prop) (A0 : Option Addr) (c0 : Nat) (l0 : List Int) (r : Bool) (w : World) (hs0 : Kd.V (Kd.int .u8) 5 w w.heap.size (fun k_ => P0_ k_) (.slice A0 l0.length c0) l0) (h : laws_FnNumberDimension.f k l0 = some r) :
    Calls Try.prog 7 #[.slice A0 l0.length c0] w fun e w' => e = .returned (.bool r) ∧ Below w.heap.size w w' := by
  have HO0 := Aside0.mk (show Kd.V (Kd.int .u8) 5 w w.heap.size (fun k_ => (P0_ k_ ∨ w.heap.size ≤ k_)) (.slice A0 l0.length c0) l0 from Kd.V_mono hs0 (fun k_ hk => .inl hk))
  have HB := Aside0.mk (Below.refl w.heap.size w)
  have H : (if (l0.length : Int) > 2147483647 then (some true) else ((laws_fewBytes.f k (([l0] : List (List Int)))).bind fun t170 => (if t170 = true then ((impl_DimensionLength.f k l0).bind fun bt171 => ((spec_NumberLength.f k l0).bind fun t173 => (if t173 = 0 then (if bt171.1 = 0 then (some (bt171.2 == 0)) else (some false)) else (if bt171.1 = t173 then ((spec_UnitLength.f k l0 t173).bind fun t174 => (some (bt171.2 == t174))) else (some false))))) else (some true)))) = some r := h
  clear h
  by_cases c2 : (l0.length : Int) > 2147483647
  · rw [if_pos c2] at H
    have c2b0 : decide (2147483647 < (l0.length : Int)) = true := decide_eq_true c2
    have c2b1 : decide (2147483647 < l0.length) = true := decide_eq_true (by omega)
    clear c2
    as_aux_lemma =>
      obtain rfl := Option.some.inj H
      go_enter Try.func7, Try.ntmps7
      go_wp2
      go_ret
      exact ⟨by first | rfl | (simp [errW_none, errW_some] <;> rfl) | (simp [*, errW_none, errW_some] <;> rfl), by repeat (first | (with_reducible first | exact HB.out | apply below_alloc | apply pw_below_drewN | apply below_drew1) | exact HB.out)⟩
  · rw [if_neg c2] at H
    have c2b0 : decide (2147483647 < (l0.length : Int)) = false := decide_eq_false c2
    have c2b1 : decide (2147483647 < l0.length) = false := decide_eq_false (by omega)
    clear c2
    obtain ⟨y167, hy167⟩ : ∃ y_ : List (List Int), y_ = (([l0] : List (List Int))) := ⟨_, rfl⟩
    replace H : ((laws_fewBytes.f k y167).bind fun t170 => (if t170 = true then ((impl_DimensionLength.f k l0).bind fun bt171 => ((spec_NumberLength.f k l0).bind fun t173 => (if t173 = 0 then (if bt171.1 = 0 then (some (bt171.2 == 0)) else (some false)) else (if bt171.1 = t173 then ((spec_UnitLength.f k l0 t173).bind fun t174 => (some (bt171.2 == t174))) else (some false))))) else (some true))) = some r := by first | (rw [hy167]; with_reducible exact H) | (have H2_ := (Option.bind_some _ _).symm.trans H; rw [hy167]; with_reducible exact H2_) | (have H2_ := (Option.bind_some _ _).symm.trans H; with_reducible exact H2_) | with_reducible exact H | (rw [hy167]; exact H) | exact H
    have Ny167 := Aside0.mk hy167
    clear hy167
    replace H := Option.bind_eq_some_iff.mp H
    obtain ⟨t170, A30, H⟩ := H
    replace H : (if t170 = true then ((impl_DimensionLength.f k l0).bind fun bt171 => ((spec_NumberLength.f k l0).bind fun t173 => (if t173 = 0 then (if bt171.1 = 0 then (some (bt171.2 == 0)) else (some false)) else (if bt171.1 = t173 then ((spec_UnitLength.f k l0 t173).bind fun t174 => (some (bt171.2 == t174))) else (some false))))) else (some true)) = some r := H
    have A3 := Aside0.mk A30
    clear A30
    by_cases c4 : t170 = true
    · subst c4
      have H1 : ((impl_DimensionLength.f k l0).bind fun bt171 => ((spec_NumberLength.f k l0).bind fun t173 => (if t173 = 0 then (if bt171.1 = 0 then (some (bt171.2 == 0)) else (some false)) else (if bt171.1 = t173 then ((spec_UnitLength.f k l0 t173).bind fun t174 => (some (bt171.2 == t174))) else (some false))))) = some r := by rw [if_pos rfl] at H; exact H
      clear H
      have H := H1
      clear H1
      replace H := Option.bind_eq_some_iff.mp H
      obtain ⟨⟨t171, t172⟩, A50, H⟩ := H
      replace H : ((spec_NumberLength.f k l0).bind fun t173 => (if t173 = 0 then (if t171 = 0 then (some (t172 == 0)) else (some false)) else (if t171 = t173 then ((spec_UnitLength.f k l0 t173).bind fun t174 => (some (t172 == t174))) else (some false)))) = some r := H
      have A5 := Aside0.mk A50
      clear A50
      replace H := Option.bind_eq_some_iff.mp H
      obtain ⟨t173, A60, H⟩ := H
      replace H : (if t173 = 0 then (if t171 = 0 then (some (t172 == 0)) else (some false)) else (if t171 = t173 then ((spec_UnitLength.f k l0 t173).bind fun t174 => (some (t172 == t174))) else (some false))) = some r := H
      have A6 := Aside0.mk A60
      clear A60
      by_cases c7 : t173 = 0
      · rw [if_pos c7] at H
        have c7b0 : (t173 == 0) = true := beq_iff_eq.mpr c7
        have c7b1 : (t173 != 0) = false := bne_eq_false_iff_eq.mpr c7
        clear c7
        by_cases c8 : t171 = 0
        · rw [if_pos c8] at H
          have c8b0 : (t171 == 0) = true := beq_iff_eq.mpr c8
          have c8b1 : (t171 != 0) = false := bne_eq_false_iff_eq.mpr c8
          clear c8
          as_aux_lemma =>
            obtain rfl := Option.some.inj H
            go_enter Try.func7, Try.ntmps7
            go_wp2_with (first | ((with_reducible refine gate_dst (N := 10) rfl ?_); refine Kd.N_lit (Kd.slice 5 (Kd.int .u8)) _ 24 ?hg (N' := 10) ?hd (xs := ([l0] : List (List Int))) (inner := [.slice A0 l0.length c0]) (ok := (fun k_ => (P0_ k_ ∨ w.heap.size ≤ k_))) (okp := (fun k_ => (P0_ k_ ∨ w.heap.size ≤ k_))) ?hr ?hp (fun _ hk => hk) ((show ∀ k_, w.heap.size ≤ k_ → (fun k_ => (P0_ k_ ∨ w.heap.size ≤ k_)) k_ from fun k_ hk => (.inr (Nat.le_trans (below_size (by repeat (first | (with_reducible first | exact HB.out | apply below_alloc | apply pw_below_drewN | apply below_drew1) | exact HB.out))) hk))) _ (Nat.le_refl _)) (Below.refl _ _) (Nat.le_refl _) (by simp) ?_; (case hd => rfl); (case hg => rfl); (case hr => first | (go_simp; done) | (go_simp; rfl)); (case hp => first | exact (Reps.one (show Kd.FK (Kd.slice 5 (Kd.int .u8)) _ _ l0 [.slice A0 l0.length c0] from (Kd.FK_slice_mk (Kd.V_reads' (Kd.V_mono (ok' := (fun k_ => (P0_ k_ ∨ w.heap.size ≤ k_))) (HO0.out) (fun k_ hk => hk))).2.1 (Kd.V_F (Kd.V_mono (ok' := (fun k_ => (P0_ k_ ∨ w.heap.size ≤ k_))) (HO0.out) (fun k_ hk => hk))))) (Reps.none _ _)) | exact (Reps.one (show Kd.FK (Kd.slice 5 (Kd.int .u8)) _ _ l0 [.slice A0 l0.length c0] from (Kd.FK_slice_mk (Kd.V_reads' (Kd.V_mono (ok' := (fun k_ => (P0_ k_ ∨ w.heap.size ≤ k_))) (HO0.out) (fun k_ hk => hk))).2.1 (Kd.V_F (Kd.V_mono (ok' := (fun k_ => (P0_ k_ ∨ w.heap.size ≤ k_))) ((Kd.V_drewN HO0.out _)) (fun k_ hk => hk))))) (Reps.none _ _)) | exact (Reps.one (show Kd.FK (Kd.slice 5 (Kd.int .u8)) _ _ l0 [.slice A0 l0.length c0] from (Kd.FK_slice_mk (Kd.V_reads' (Kd.V_mono (ok' := (fun k_ => (P0_ k_ ∨ w.heap.size ≤ k_))) (HO0.out) (fun k_ hk => hk))).2.1 (Kd.V_F (Kd.V_mono (ok' := (fun k_ => (P0_ k_ ∨ w.heap.size ≤ k_))) ((Kd.V_alloc HO0.out _)) (fun k_ hk => hk))))) (Reps.none _ _)) | exact (Reps.one (show Kd.FK (Kd.slice 5 (Kd.int .u8)) _ _ l0 [.slice A0 l0.length c0] from (Kd.FK_slice_mk (Kd.V_reads' (Kd.V_mono (ok' := (fun k_ => (P0_ k_ ∨ w.heap.size ≤ k_))) (HO0.out) (fun k_ hk => hk))).2.1 (Kd.V_F (Kd.V_mono (ok' := (fun k_ => (P0_ k_ ∨ w.heap.size ≤ k_))) ((by (with_reducible repeat (first | apply Kd.V_alloc | apply Kd.V_drewN | apply Kd.V_drew)); exact HO0.out)) (fun k_ hk => hk))))) (Reps.none _ _))); intro v168 w9 ho10 hb hg_ hnew_; clear hg_ hnew_; (first | rw [← Ny167.out] at ho10 | (simp only [Int.reduceToNat] at ho10; rw [← Ny167.out] at ho10)); have n0_ := Aside0.mk (Kd.V_elder' (by (with_reducible repeat (first | apply Kd.V_alloc | apply Kd.V_drewN | apply Kd.V_drew)); exact HO0.out) (Kd.N_base ho10) hb); have n1_ := Aside0.mk (Kd.N_lower ho10 (below_size (by repeat (first | (with_reducible first | exact HB.out | apply below_alloc | apply pw_below_drewN | apply below_drew1) | exact HB.out)))); have n2_ := Aside0.mk (below_step (by repeat (first | (with_reducible first | exact HB.out | apply below_alloc | apply pw_below_drewN | apply below_drew1) | exact HB.out)) hb); clear HO0; clear HB; have HO0 := n0_; have HO169 := n1_; have HB := n2_; clear n0_ n1_ n2_; clear hb ho10; obtain ⟨Ao11, co11, eo11⟩ := Kd.N_slice HO169.out; subst eo11) | ((with_reducible refine gate_callee (f := 19) rfl ?_); refine goesL_ (some 11) rfl rfl Try.func19 (by kernel_rfl) rfl #[.slice Ao11 y167.length co11] rfl (by (try simp only [List.map_toArray, List.map_cons, List.map_nil]); first | done | rfl | (simp only [List.length_drop, List.length_take]; rfl)) ?_; (with_reducible refine (laws_fewBytes.calls k _ _ y167 true _ ?side1 ?side2 A3.out).mono ?_); (case side1 => repeat (first | exact (Kd.N_reads' HO169.out).2.2 | (with_reducible refine Kd.C_alloc ?_ _) | (with_reducible refine Kd.C_drewN ?_ _) | (with_reducible refine Kd.C_drew ?_))); (case side2 => exact (Kd.N_reads' HO169.out).2.1); rintro e w' ⟨rfl, ⟨nd, rfl⟩⟩; refine ⟨_, rfl, ?_⟩) | ((with_reducible refine gate_callee (f := 25) rfl ?_); refine goesL_ (some 15) rfl rfl Try.func25 (by kernel_rfl) rfl #[.slice A0 l0.length c0] rfl (by (try simp only [List.map_toArray, List.map_cons, List.map_nil]); first | done | rfl | (simp only [List.length_drop, List.length_take]; rfl)) ?_; (with_reducible refine (impl_DimensionLength.calls k _ _ l0 t171 t172 _ ?side1 ?side2 A5.out).mono ?_); (case side1 => repeat (first | exact (Kd.V_reads' HO0.out).2.2 | (with_reducible refine Kd.C_alloc ?_ _) | (with_reducible refine Kd.C_drewN ?_ _) | (with_reducible refine Kd.C_drew ?_))); (case side2 => exact (Kd.V_reads' HO0.out).2.1); rintro e w12 ⟨rfl, hb⟩; refine ⟨_, rfl, ?_⟩; have n0_ := Aside0.mk (Kd.V_below (by (with_reducible repeat (first | apply Kd.V_alloc | apply Kd.V_drewN | apply Kd.V_drew)); exact HO0.out) hb); have n1_ := Aside0.mk (Kd.N_below (by (with_reducible repeat (first | apply Kd.N_alloc | apply Kd.N_drewN | apply Kd.N_drew)); exact HO169.out) hb); have n2_ := Aside0.mk (below_step (by repeat (first | (with_reducible first | exact HB.out | apply below_alloc | apply pw_below_drewN | apply below_drew1) | exact HB.out)) hb); clear HO0; clear HO169; clear HB; have HO0 := n0_; have HO169 := n1_; have HB := n2_; clear n0_ n1_ n2_; (try clear hb); (try clear hb2); (try clear hk); (try clear hi)) | ((with_reducible refine gate_callee (f := 21) rfl ?_); refine goesL_ (some 19) rfl rfl Try.func21 (by kernel_rfl) rfl #[.slice A0 l0.length c0] rfl (by (try simp only [List.map_toArray, List.map_cons, List.map_nil]); first | done | rfl | (simp only [List.length_drop, List.length_take]; rfl)) ?_; (with_reducible refine (spec_NumberLength.calls k _ _ l0 t173 _ ?side1 ?side2 A6.out).mono ?_); (case side1 => repeat (first | exact (Kd.V_reads' HO0.out).2.2 | (with_reducible refine Kd.C_alloc ?_ _) | (with_reducible refine Kd.C_drewN ?_ _) | (with_reducible refine Kd.C_drew ?_))); (case side2 => exact (Kd.V_reads' HO0.out).2.1); rintro e w' ⟨rfl, ⟨nd, rfl⟩⟩; refine ⟨_, rfl, ?_⟩))
            go_ret
            exact ⟨by first | rfl | (simp [errW_none, errW_some] <;> rfl) | (simp [*, errW_none, errW_some] <;> rfl), by repeat (first | (with_reducible first | exact HB.out | apply below_alloc | apply pw_below_drewN | apply below_drew1) | exact HB.out)⟩
        · rw [if_neg c8] at H
          have c8b0 : (t171 == 0) = false := beq_eq_false_iff_ne.mpr c8
          have c8b1 : (t171 != 0) = true := bne_iff_ne.mpr c8
          as_aux_lemma =>
            obtain rfl := Option.some.inj H
            go_enter Try.func7, Try.ntmps7
            go_wp2_with (first | ((with_reducible refine gate_dst (N := 10) rfl ?_); refine Kd.N_lit (Kd.slice 5 (Kd.int .u8)) _ 24 ?hg (N' := 10) ?hd (xs := ([l0] : List (List Int))) (inner := [.slice A0 l0.length c0]) (ok := (fun k_ => (P0_ k_ ∨ w.heap.size ≤ k_))) (okp := (fun k_ => (P0_ k_ ∨ w.heap.size ≤ k_))) ?hr ?hp (fun _ hk => hk) ((show ∀ k_, w.heap.size ≤ k_ → (fun k_ => (P0_ k_ ∨ w.heap.size ≤ k_)) k_ from fun k_ hk => (.inr (Nat.le_trans (below_size (by repeat (first | (with_reducible first | exact HB.out | apply below_alloc | apply pw_below_drewN | apply below_drew1) | exact HB.out))) hk))) _ (Nat.le_refl _)) (Below.refl _ _) (Nat.le_refl _) (by simp) ?_; (case hd => rfl); (case hg => rfl); (case hr => first | (go_simp; done) | (go_simp; rfl)); (case hp => first | exact (Reps.one (show Kd.FK (Kd.slice 5 (Kd.int .u8)) _ _ l0 [.slice A0 l0.length c0] from (Kd.FK_slice_mk (Kd.V_reads' (Kd.V_mono (ok' := (fun k_ => (P0_ k_ ∨ w.heap.size ≤ k_))) (HO0.out) (fun k_ hk => hk))).2.1 (Kd.V_F (Kd.V_mono (ok' := (fun k_ => (P0_ k_ ∨ w.heap.size ≤ k_))) (HO0.out) (fun k_ hk => hk))))) (Reps.none _ _)) | exact (Reps.one (show Kd.FK (Kd.slice 5 (Kd.int .u8)) _ _ l0 [.slice A0 l0.length c0] from (Kd.FK_slice_mk (Kd.V_reads' (Kd.V_mono (ok' := (fun k_ => (P0_ k_ ∨ w.heap.size ≤ k_))) (HO0.out) (fun k_ hk => hk))).2.1 (Kd.V_F (Kd.V_mono (ok' := (fun k_ => (P0_ k_ ∨ w.heap.size ≤ k_))) ((Kd.V_drewN HO0.out _)) (fun k_ hk => hk))))) (Reps.none _ _)) | exact (Reps.one (show Kd.FK (Kd.slice 5 (Kd.int .u8)) _ _ l0 [.slice A0 l0.length c0] from (Kd.FK_slice_mk (Kd.V_reads' (Kd.V_mono (ok' := (fun k_ => (P0_ k_ ∨ w.heap.size ≤ k_))) (HO0.out) (fun k_ hk => hk))).2.1 (Kd.V_F (Kd.V_mono (ok' := (fun k_ => (P0_ k_ ∨ w.heap.size ≤ k_))) ((Kd.V_alloc HO0.out _)) (fun k_ hk => hk))))) (Reps.none _ _)) | exact (Reps.one (show Kd.FK (Kd.slice 5 (Kd.int .u8)) _ _ l0 [.slice A0 l0.length c0] from (Kd.FK_slice_mk (Kd.V_reads' (Kd.V_mono (ok' := (fun k_ => (P0_ k_ ∨ w.heap.size ≤ k_))) (HO0.out) (fun k_ hk => hk))).2.1 (Kd.V_F (Kd.V_mono (ok' := (fun k_ => (P0_ k_ ∨ w.heap.size ≤ k_))) ((by (with_reducible repeat (first | apply Kd.V_alloc | apply Kd.V_drewN | apply Kd.V_drew)); exact HO0.out)) (fun k_ hk => hk))))) (Reps.none _ _))); intro v168 w13 ho14 hb hg_ hnew_; clear hg_ hnew_; (first | rw [← Ny167.out] at ho14 | (simp only [Int.reduceToNat] at ho14; rw [← Ny167.out] at ho14)); have n0_ := Aside0.mk (Kd.V_elder' (by (with_reducible repeat (first | apply Kd.V_alloc | apply Kd.V_drewN | apply Kd.V_drew)); exact HO0.out) (Kd.N_base ho14) hb); have n1_ := Aside0.mk (Kd.N_lower ho14 (below_size (by repeat (first | (with_reducible first | exact HB.out | apply below_alloc | apply pw_below_drewN | apply below_drew1) | exact HB.out)))); have n2_ := Aside0.mk (below_step (by repeat (first | (with_reducible first | exact HB.out | apply below_alloc | apply pw_below_drewN | apply below_drew1) | exact HB.out)) hb); clear HO0; clear HB; have HO0 := n0_; have HO169 := n1_; have HB := n2_; clear n0_ n1_ n2_; clear hb ho14; obtain ⟨Ao15, co15, eo15⟩ := Kd.N_slice HO169.out; subst eo15) | ((with_reducible refine gate_callee (f := 19) rfl ?_); refine goesL_ (some 11) rfl rfl Try.func19 (by kernel_rfl) rfl #[.slice Ao15 y167.length co15] rfl (by (try simp only [List.map_toArray, List.map_cons, List.map_nil]); first | done | rfl | (simp only [List.length_drop, List.length_take]; rfl)) ?_; (with_reducible refine (laws_fewBytes.calls k _ _ y167 true _ ?side1 ?side2 A3.out).mono ?_); (case side1 => repeat (first | exact (Kd.N_reads' HO169.out).2.2 | (with_reducible refine Kd.C_alloc ?_ _) | (with_reducible refine Kd.C_drewN ?_ _) | (with_reducible refine Kd.C_drew ?_))); (case side2 => exact (Kd.N_reads' HO169.out).2.1); rintro e w' ⟨rfl, ⟨nd, rfl⟩⟩; refine ⟨_, rfl, ?_⟩) | ((with_reducible refine gate_callee (f := 25) rfl ?_); refine goesL_ (some 15) rfl rfl Try.func25 (by kernel_rfl) rfl #[.slice A0 l0.length c0] rfl (by (try simp only [List.map_toArray, List.map_cons, List.map_nil]); first | done | rfl | (simp only [List.length_drop, List.length_take]; rfl)) ?_; (with_reducible refine (impl_DimensionLength.calls k _ _ l0 t171 t172 _ ?side1 ?side2 A5.out).mono ?_); (case side1 => repeat (first | exact (Kd.V_reads' HO0.out).2.2 | (with_reducible refine Kd.C_alloc ?_ _) | (with_reducible refine Kd.C_drewN ?_ _) | (with_reducible refine Kd.C_drew ?_))); (case side2 => exact (Kd.V_reads' HO0.out).2.1); rintro e w16 ⟨rfl, hb⟩; refine ⟨_, rfl, ?_⟩; have n0_ := Aside0.mk (Kd.V_below (by (with_reducible repeat (first | apply Kd.V_alloc | apply Kd.V_drewN | apply Kd.V_drew)); exact HO0.out) hb); have n1_ := Aside0.mk (Kd.N_below (by (with_reducible repeat (first | apply Kd.N_alloc | apply Kd.N_drewN | apply Kd.N_drew)); exact HO169.out) hb); have n2_ := Aside0.mk (below_step (by repeat (first | (with_reducible first | exact HB.out | apply below_alloc | apply pw_below_drewN | apply below_drew1) | exact HB.out)) hb); clear HO0; clear HO169; clear HB; have HO0 := n0_; have HO169 := n1_; have HB := n2_; clear n0_ n1_ n2_; (try clear hb); (try clear hb2); (try clear hk); (try clear hi)) | ((with_reducible refine gate_callee (f := 21) rfl ?_); refine goesL_ (some 19) rfl rfl Try.func21 (by kernel_rfl) rfl #[.slice A0 l0.length c0] rfl (by (try simp only [List.map_toArray, List.map_cons, List.map_nil]); first | done | rfl | (simp only [List.length_drop, List.length_take]; rfl)) ?_; (with_reducible refine (spec_NumberLength.calls k _ _ l0 t173 _ ?side1 ?side2 A6.out).mono ?_); (case side1 => repeat (first | exact (Kd.V_reads' HO0.out).2.2 | (with_reducible refine Kd.C_alloc ?_ _) | (with_reducible refine Kd.C_drewN ?_ _) | (with_reducible refine Kd.C_drew ?_))); (case side2 => exact (Kd.V_reads' HO0.out).2.1); rintro e w' ⟨rfl, ⟨nd, rfl⟩⟩; refine ⟨_, rfl, ?_⟩))
            go_ret
            exact ⟨by first | rfl | (simp [errW_none, errW_some] <;> rfl) | (simp [*, errW_none, errW_some] <;> rfl), by repeat (first | (with_reducible first | exact HB.out | apply below_alloc | apply pw_below_drewN | apply below_drew1) | exact HB.out)⟩
      · rw [if_neg c7] at H
        have c7b0 : (t173 == 0) = false := beq_eq_false_iff_ne.mpr c7
        have c7b1 : (t173 != 0) = true := bne_iff_ne.mpr c7
        by_cases c17 : t171 = t173
        · rw [if_pos c17] at H
          have c17b0 : (t171 == t173) = true := beq_iff_eq.mpr c17
          have c17b1 : (t171 != t173) = false := bne_eq_false_iff_eq.mpr c17
          clear c17
          replace H := Option.bind_eq_some_iff.mp H
          obtain ⟨t174, A180, H⟩ := H
          replace H : (some (t172 == t174)) = some r := H
          have A18 := Aside0.mk A180
          clear A180
          as_aux_lemma =>
            obtain rfl := Option.some.inj H
            go_enter Try.func7, Try.ntmps7
            go_wp2_with (first | ((with_reducible refine gate_dst (N := 10) rfl ?_); refine Kd.N_lit (Kd.slice 5 (Kd.int .u8)) _ 24 ?hg (N' := 10) ?hd (xs := ([l0] : List (List Int))) (inner := [.slice A0 l0.length c0]) (ok := (fun k_ => (P0_ k_ ∨ w.heap.size ≤ k_))) (okp := (fun k_ => (P0_ k_ ∨ w.heap.size ≤ k_))) ?hr ?hp (fun _ hk => hk) ((show ∀ k_, w.heap.size ≤ k_ → (fun k_ => (P0_ k_ ∨ w.heap.size ≤ k_)) k_ from fun k_ hk => (.inr (Nat.le_trans (below_size (by repeat (first | (with_reducible first | exact HB.out | apply below_alloc | apply pw_below_drewN | apply below_drew1) | exact HB.out))) hk))) _ (Nat.le_refl _)) (Below.refl _ _) (Nat.le_refl _) (by simp) ?_; (case hd => rfl); (case hg => rfl); (case hr => first | (go_simp; done) | (go_simp; rfl)); (case hp => first | exact (Reps.one (show Kd.FK (Kd.slice 5 (Kd.int .u8)) _ _ l0 [.slice A0 l0.length c0] from (Kd.FK_slice_mk (Kd.V_reads' (Kd.V_mono (ok' := (fun k_ => (P0_ k_ ∨ w.heap.size ≤ k_))) (HO0.out) (fun k_ hk => hk))).2.1 (Kd.V_F (Kd.V_mono (ok' := (fun k_ => (P0_ k_ ∨ w.heap.size ≤ k_))) (HO0.out) (fun k_ hk => hk))))) (Reps.none _ _)) | exact (Reps.one (show Kd.FK (Kd.slice 5 (Kd.int .u8)) _ _ l0 [.slice A0 l0.length c0] from (Kd.FK_slice_mk (Kd.V_reads' (Kd.V_mono (ok' := (fun k_ => (P0_ k_ ∨ w.heap.size ≤ k_))) (HO0.out) (fun k_ hk => hk))).2.1 (Kd.V_F (Kd.V_mono (ok' := (fun k_ => (P0_ k_ ∨ w.heap.size ≤ k_))) ((Kd.V_drewN HO0.out _)) (fun k_ hk => hk))))) (Reps.none _ _)) | exact (Reps.one (show Kd.FK (Kd.slice 5 (Kd.int .u8)) _ _ l0 [.slice A0 l0.length c0] from (Kd.FK_slice_mk (Kd.V_reads' (Kd.V_mono (ok' := (fun k_ => (P0_ k_ ∨ w.heap.size ≤ k_))) (HO0.out) (fun k_ hk => hk))).2.1 (Kd.V_F (Kd.V_mono (ok' := (fun k_ => (P0_ k_ ∨ w.heap.size ≤ k_))) ((Kd.V_alloc HO0.out _)) (fun k_ hk => hk))))) (Reps.none _ _)) | exact (Reps.one (show Kd.FK (Kd.slice 5 (Kd.int .u8)) _ _ l0 [.slice A0 l0.length c0] from (Kd.FK_slice_mk (Kd.V_reads' (Kd.V_mono (ok' := (fun k_ => (P0_ k_ ∨ w.heap.size ≤ k_))) (HO0.out) (fun k_ hk => hk))).2.1 (Kd.V_F (Kd.V_mono (ok' := (fun k_ => (P0_ k_ ∨ w.heap.size ≤ k_))) ((by (with_reducible repeat (first | apply Kd.V_alloc | apply Kd.V_drewN | apply Kd.V_drew)); exact HO0.out)) (fun k_ hk => hk))))) (Reps.none _ _))); intro v168 w19 ho20 hb hg_ hnew_; clear hg_ hnew_; (first | rw [← Ny167.out] at ho20 | (simp only [Int.reduceToNat] at ho20; rw [← Ny167.out] at ho20)); have n0_ := Aside0.mk (Kd.V_elder' (by (with_reducible repeat (first | apply Kd.V_alloc | apply Kd.V_drewN | apply Kd.V_drew)); exact HO0.out) (Kd.N_base ho20) hb); have n1_ := Aside0.mk (Kd.N_lower ho20 (below_size (by repeat (first | (with_reducible first | exact HB.out | apply below_alloc | apply pw_below_drewN | apply below_drew1) | exact HB.out)))); have n2_ := Aside0.mk (below_step (by repeat (first | (with_reducible first | exact HB.out | apply below_alloc | apply pw_below_drewN | apply below_drew1) | exact HB.out)) hb); clear HO0; clear HB; have HO0 := n0_; have HO169 := n1_; have HB := n2_; clear n0_ n1_ n2_; clear hb ho20; obtain ⟨Ao21, co21, eo21⟩ := Kd.N_slice HO169.out; subst eo21) | ((with_reducible refine gate_callee (f := 19) rfl ?_); refine goesL_ (some 11) rfl rfl Try.func19 (by kernel_rfl) rfl #[.slice Ao21 y167.length co21] rfl (by (try simp only [List.map_toArray, List.map_cons, List.map_nil]); first | done | rfl | (simp only [List.length_drop, List.length_take]; rfl)) ?_; (with_reducible refine (laws_fewBytes.calls k _ _ y167 true _ ?side1 ?side2 A3.out).mono ?_); (case side1 => repeat (first | exact (Kd.N_reads' HO169.out).2.2 | (with_reducible refine Kd.C_alloc ?_ _) | (with_reducible refine Kd.C_drewN ?_ _) | (with_reducible refine Kd.C_drew ?_))); (case side2 => exact (Kd.N_reads' HO169.out).2.1); rintro e w' ⟨rfl, ⟨nd, rfl⟩⟩; refine ⟨_, rfl, ?_⟩) | ((with_reducible refine gate_callee (f := 25) rfl ?_); refine goesL_ (some 15) rfl rfl Try.func25 (by kernel_rfl) rfl #[.slice A0 l0.length c0] rfl (by (try simp only [List.map_toArray, List.map_cons, List.map_nil]); first | done | rfl | (simp only [List.length_drop, List.length_take]; rfl)) ?_; (with_reducible refine (impl_DimensionLength.calls k _ _ l0 t171 t172 _ ?side1 ?side2 A5.out).mono ?_); (case side1 => repeat (first | exact (Kd.V_reads' HO0.out).2.2 | (with_reducible refine Kd.C_alloc ?_ _) | (with_reducible refine Kd.C_drewN ?_ _) | (with_reducible refine Kd.C_drew ?_))); (case side2 => exact (Kd.V_reads' HO0.out).2.1); rintro e w22 ⟨rfl, hb⟩; refine ⟨_, rfl, ?_⟩; have n0_ := Aside0.mk (Kd.V_below (by (with_reducible repeat (first | apply Kd.V_alloc | apply Kd.V_drewN | apply Kd.V_drew)); exact HO0.out) hb); have n1_ := Aside0.mk (Kd.N_below (by (with_reducible repeat (first | apply Kd.N_alloc | apply Kd.N_drewN | apply Kd.N_drew)); exact HO169.out) hb); have n2_ := Aside0.mk (below_step (by repeat (first | (with_reducible first | exact HB.out | apply below_alloc | apply pw_below_drewN | apply below_drew1) | exact HB.out)) hb); clear HO0; clear HO169; clear HB; have HO0 := n0_; have HO169 := n1_; have HB := n2_; clear n0_ n1_ n2_; (try clear hb); (try clear hb2); (try clear hk); (try clear hi)) | ((with_reducible refine gate_callee (f := 21) rfl ?_); refine goesL_ (some 19) rfl rfl Try.func21 (by kernel_rfl) rfl #[.slice A0 l0.length c0] rfl (by (try simp only [List.map_toArray, List.map_cons, List.map_nil]); first | done | rfl | (simp only [List.length_drop, List.length_take]; rfl)) ?_; (with_reducible refine (spec_NumberLength.calls k _ _ l0 t173 _ ?side1 ?side2 A6.out).mono ?_); (case side1 => repeat (first | exact (Kd.V_reads' HO0.out).2.2 | (with_reducible refine Kd.C_alloc ?_ _) | (with_reducible refine Kd.C_drewN ?_ _) | (with_reducible refine Kd.C_drew ?_))); (case side2 => exact (Kd.V_reads' HO0.out).2.1); rintro e w' ⟨rfl, ⟨nd, rfl⟩⟩; refine ⟨_, rfl, ?_⟩) | (go_at_call 26; (with_reducible refine (spec_UnitLength.calls k _ _ l0 t173 t174 _ ?side1 ?side2 A18.out).mono ?_); (case side1 => repeat (first | exact (Kd.V_reads' HO0.out).2.2 | (with_reducible refine Kd.C_alloc ?_ _) | (with_reducible refine Kd.C_drewN ?_ _) | (with_reducible refine Kd.C_drew ?_))); (case side2 => exact (Kd.V_reads' HO0.out).2.1); rintro e w' ⟨rfl, ⟨nd, rfl⟩⟩))
            go_ret
            exact ⟨by first | rfl | (simp [errW_none, errW_some] <;> rfl) | (simp [*, errW_none, errW_some] <;> rfl), by repeat (first | (with_reducible first | exact HB.out | apply below_alloc | apply pw_below_drewN | apply below_drew1) | exact HB.out)⟩
        · rw [if_neg c17] at H
          have c17b0 : (t171 == t173) = false := beq_eq_false_iff_ne.mpr c17
          have c17b1 : (t171 != t173) = true := bne_iff_ne.mpr c17
          as_aux_lemma =>
            obtain rfl := Option.some.inj H
            go_enter Try.func7, Try.ntmps7
            go_wp2_with (first | ((with_reducible refine gate_dst (N := 10) rfl ?_); refine Kd.N_lit (Kd.slice 5 (Kd.int .u8)) _ 24 ?hg (N' := 10) ?hd (xs := ([l0] : List (List Int))) (inner := [.slice A0 l0.length c0]) (ok := (fun k_ => (P0_ k_ ∨ w.heap.size ≤ k_))) (okp := (fun k_ => (P0_ k_ ∨ w.heap.size ≤ k_))) ?hr ?hp (fun _ hk => hk) ((show ∀ k_, w.heap.size ≤ k_ → (fun k_ => (P0_ k_ ∨ w.heap.size ≤ k_)) k_ from fun k_ hk => (.inr (Nat.le_trans (below_size (by repeat (first | (with_reducible first | exact HB.out | apply below_alloc | apply pw_below_drewN | apply below_drew1) | exact HB.out))) hk))) _ (Nat.le_refl _)) (Below.refl _ _) (Nat.le_refl _) (by simp) ?_; (case hd => rfl); (case hg => rfl); (case hr => first | (go_simp; done) | (go_simp; rfl)); (case hp => first | exact (Reps.one (show Kd.FK (Kd.slice 5 (Kd.int .u8)) _ _ l0 [.slice A0 l0.length c0] from (Kd.FK_slice_mk (Kd.V_reads' (Kd.V_mono (ok' := (fun k_ => (P0_ k_ ∨ w.heap.size ≤ k_))) (HO0.out) (fun k_ hk => hk))).2.1 (Kd.V_F (Kd.V_mono (ok' := (fun k_ => (P0_ k_ ∨ w.heap.size ≤ k_))) (HO0.out) (fun k_ hk => hk))))) (Reps.none _ _)) | exact (Reps.one (show Kd.FK (Kd.slice 5 (Kd.int .u8)) _ _ l0 [.slice A0 l0.length c0] from (Kd.FK_slice_mk (Kd.V_reads' (Kd.V_mono (ok' := (fun k_ => (P0_ k_ ∨ w.heap.size ≤ k_))) (HO0.out) (fun k_ hk => hk))).2.1 (Kd.V_F (Kd.V_mono (ok' := (fun k_ => (P0_ k_ ∨ w.heap.size ≤ k_))) ((Kd.V_drewN HO0.out _)) (fun k_ hk => hk))))) (Reps.none _ _)) | exact (Reps.one (show Kd.FK (Kd.slice 5 (Kd.int .u8)) _ _ l0 [.slice A0 l0.length c0] from (Kd.FK_slice_mk (Kd.V_reads' (Kd.V_mono (ok' := (fun k_ => (P0_ k_ ∨ w.heap.size ≤ k_))) (HO0.out) (fun k_ hk => hk))).2.1 (Kd.V_F (Kd.V_mono (ok' := (fun k_ => (P0_ k_ ∨ w.heap.size ≤ k_))) ((Kd.V_alloc HO0.out _)) (fun k_ hk => hk))))) (Reps.none _ _)) | exact (Reps.one (show Kd.FK (Kd.slice 5 (Kd.int .u8)) _ _ l0 [.slice A0 l0.length c0] from (Kd.FK_slice_mk (Kd.V_reads' (Kd.V_mono (ok' := (fun k_ => (P0_ k_ ∨ w.heap.size ≤ k_))) (HO0.out) (fun k_ hk => hk))).2.1 (Kd.V_F (Kd.V_mono (ok' := (fun k_ => (P0_ k_ ∨ w.heap.size ≤ k_))) ((by (with_reducible repeat (first | apply Kd.V_alloc | apply Kd.V_drewN | apply Kd.V_drew)); exact HO0.out)) (fun k_ hk => hk))))) (Reps.none _ _))); intro v168 w23 ho24 hb hg_ hnew_; clear hg_ hnew_; (first | rw [← Ny167.out] at ho24 | (simp only [Int.reduceToNat] at ho24; rw [← Ny167.out] at ho24)); have n0_ := Aside0.mk (Kd.V_elder' (by (with_reducible repeat (first | apply Kd.V_alloc | apply Kd.V_drewN | apply Kd.V_drew)); exact HO0.out) (Kd.N_base ho24) hb); have n1_ := Aside0.mk (Kd.N_lower ho24 (below_size (by repeat (first | (with_reducible first | exact HB.out | apply below_alloc | apply pw_below_drewN | apply below_drew1) | exact HB.out)))); have n2_ := Aside0.mk (below_step (by repeat (first | (with_reducible first | exact HB.out | apply below_alloc | apply pw_below_drewN | apply below_drew1) | exact HB.out)) hb); clear HO0; clear HB; have HO0 := n0_; have HO169 := n1_; have HB := n2_; clear n0_ n1_ n2_; clear hb ho24; obtain ⟨Ao25, co25, eo25⟩ := Kd.N_slice HO169.out; subst eo25) | ((with_reducible refine gate_callee (f := 19) rfl ?_); refine goesL_ (some 11) rfl rfl Try.func19 (by kernel_rfl) rfl #[.slice Ao25 y167.length co25] rfl (by (try simp only [List.map_toArray, List.map_cons, List.map_nil]); first | done | rfl | (simp only [List.length_drop, List.length_take]; rfl)) ?_; (with_reducible refine (laws_fewBytes.calls k _ _ y167 true _ ?side1 ?side2 A3.out).mono ?_); (case side1 => repeat (first | exact (Kd.N_reads' HO169.out).2.2 | (with_reducible refine Kd.C_alloc ?_ _) | (with_reducible refine Kd.C_drewN ?_ _) | (with_reducible refine Kd.C_drew ?_))); (case side2 => exact (Kd.N_reads' HO169.out).2.1); rintro e w' ⟨rfl, ⟨nd, rfl⟩⟩; refine ⟨_, rfl, ?_⟩) | ((with_reducible refine gate_callee (f := 25) rfl ?_); refine goesL_ (some 15) rfl rfl Try.func25 (by kernel_rfl) rfl #[.slice A0 l0.length c0] rfl (by (try simp only [List.map_toArray, List.map_cons, List.map_nil]); first | done | rfl | (simp only [List.length_drop, List.length_take]; rfl)) ?_; (with_reducible refine (impl_DimensionLength.calls k _ _ l0 t171 t172 _ ?side1 ?side2 A5.out).mono ?_); (case side1 => repeat (first | exact (Kd.V_reads' HO0.out).2.2 | (with_reducible refine Kd.C_alloc ?_ _) | (with_reducible refine Kd.C_drewN ?_ _) | (with_reducible refine Kd.C_drew ?_))); (case side2 => exact (Kd.V_reads' HO0.out).2.1); rintro e w26 ⟨rfl, hb⟩; refine ⟨_, rfl, ?_⟩; have n0_ := Aside0.mk (Kd.V_below (by (with_reducible repeat (first | apply Kd.V_alloc | apply Kd.V_drewN | apply Kd.V_drew)); exact HO0.out) hb); have n1_ := Aside0.mk (Kd.N_below (by (with_reducible repeat (first | apply Kd.N_alloc | apply Kd.N_drewN | apply Kd.N_drew)); exact HO169.out) hb); have n2_ := Aside0.mk (below_step (by repeat (first | (with_reducible first | exact HB.out | apply below_alloc | apply pw_below_drewN | apply below_drew1) | exact HB.out)) hb); clear HO0; clear HO169; clear HB; have HO0 := n0_; have HO169 := n1_; have HB := n2_; clear n0_ n1_ n2_; (try clear hb); (try clear hb2); (try clear hk); (try clear hi)) | ((with_reducible refine gate_callee (f := 21) rfl ?_); refine goesL_ (some 19) rfl rfl Try.func21 (by kernel_rfl) rfl #[.slice A0 l0.length c0] rfl (by (try simp only [List.map_toArray, List.map_cons, List.map_nil]); first | done | rfl | (simp only [List.length_drop, List.length_take]; rfl)) ?_; (with_reducible refine (spec_NumberLength.calls k _ _ l0 t173 _ ?side1 ?side2 A6.out).mono ?_); (case side1 => repeat (first | exact (Kd.V_reads' HO0.out).2.2 | (with_reducible refine Kd.C_alloc ?_ _) | (with_reducible refine Kd.C_drewN ?_ _) | (with_reducible refine Kd.C_drew ?_))); (case side2 => exact (Kd.V_reads' HO0.out).2.1); rintro e w' ⟨rfl, ⟨nd, rfl⟩⟩; refine ⟨_, rfl, ?_⟩))
            go_ret
            exact ⟨by first | rfl | (simp [errW_none, errW_some] <;> rfl) | (simp [*, errW_none, errW_some] <;> rfl), by repeat (first | (with_reducible first | exact HB.out | apply below_alloc | apply pw_below_drewN | apply below_drew1) | exact HB.out)⟩
    · replace c4 := Bool.eq_false_iff.mpr c4
      subst c4
      have H1 : (some true) = some r := by rw [if_neg (show ¬ (false = true) by decide)] at H; exact H
      clear H
      have H := H1
      clear H1
      as_aux_lemma =>
        obtain rfl := Option.some.inj H
        go_enter Try.func7, Try.ntmps7
        go_wp2_with (first | ((with_reducible refine gate_dst (N := 10) rfl ?_); refine Kd.N_lit (Kd.slice 5 (Kd.int .u8)) _ 24 ?hg (N' := 10) ?hd (xs := ([l0] : List (List Int))) (inner := [.slice A0 l0.length c0]) (ok := (fun k_ => (P0_ k_ ∨ w.heap.size ≤ k_))) (okp := (fun k_ => (P0_ k_ ∨ w.heap.size ≤ k_))) ?hr ?hp (fun _ hk => hk) ((show ∀ k_, w.heap.size ≤ k_ → (fun k_ => (P0_ k_ ∨ w.heap.size ≤ k_)) k_ from fun k_ hk => (.inr (Nat.le_trans (below_size (by repeat (first | (with_reducible first | exact HB.out | apply below_alloc | apply pw_below_drewN | apply below_drew1) | exact HB.out))) hk))) _ (Nat.le_refl _)) (Below.refl _ _) (Nat.le_refl _) (by simp) ?_; (case hd => rfl); (case hg => rfl); (case hr => first | (go_simp; done) | (go_simp; rfl)); (case hp => first | exact (Reps.one (show Kd.FK (Kd.slice 5 (Kd.int .u8)) _ _ l0 [.slice A0 l0.length c0] from (Kd.FK_slice_mk (Kd.V_reads' (Kd.V_mono (ok' := (fun k_ => (P0_ k_ ∨ w.heap.size ≤ k_))) (HO0.out) (fun k_ hk => hk))).2.1 (Kd.V_F (Kd.V_mono (ok' := (fun k_ => (P0_ k_ ∨ w.heap.size ≤ k_))) (HO0.out) (fun k_ hk => hk))))) (Reps.none _ _)) | exact (Reps.one (show Kd.FK (Kd.slice 5 (Kd.int .u8)) _ _ l0 [.slice A0 l0.length c0] from (Kd.FK_slice_mk (Kd.V_reads' (Kd.V_mono (ok' := (fun k_ => (P0_ k_ ∨ w.heap.size ≤ k_))) (HO0.out) (fun k_ hk => hk))).2.1 (Kd.V_F (Kd.V_mono (ok' := (fun k_ => (P0_ k_ ∨ w.heap.size ≤ k_))) ((Kd.V_drewN HO0.out _)) (fun k_ hk => hk))))) (Reps.none _ _)) | exact (Reps.one (show Kd.FK (Kd.slice 5 (Kd.int .u8)) _ _ l0 [.slice A0 l0.length c0] from (Kd.FK_slice_mk (Kd.V_reads' (Kd.V_mono (ok' := (fun k_ => (P0_ k_ ∨ w.heap.size ≤ k_))) (HO0.out) (fun k_ hk => hk))).2.1 (Kd.V_F (Kd.V_mono (ok' := (fun k_ => (P0_ k_ ∨ w.heap.size ≤ k_))) ((Kd.V_alloc HO0.out _)) (fun k_ hk => hk))))) (Reps.none _ _)) | exact (Reps.one (show Kd.FK (Kd.slice 5 (Kd.int .u8)) _ _ l0 [.slice A0 l0.length c0] from (Kd.FK_slice_mk (Kd.V_reads' (Kd.V_mono (ok' := (fun k_ => (P0_ k_ ∨ w.heap.size ≤ k_))) (HO0.out) (fun k_ hk => hk))).2.1 (Kd.V_F (Kd.V_mono (ok' := (fun k_ => (P0_ k_ ∨ w.heap.size ≤ k_))) ((by (with_reducible repeat (first | apply Kd.V_alloc | apply Kd.V_drewN | apply Kd.V_drew)); exact HO0.out)) (fun k_ hk => hk))))) (Reps.none _ _))); intro v168 w27 ho28 hb hg_ hnew_; clear hg_ hnew_; (first | rw [← Ny167.out] at ho28 | (simp only [Int.reduceToNat] at ho28; rw [← Ny167.out] at ho28)); have n0_ := Aside0.mk (Kd.V_elder' (by (with_reducible repeat (first | apply Kd.V_alloc | apply Kd.V_drewN | apply Kd.V_drew)); exact HO0.out) (Kd.N_base ho28) hb); have n1_ := Aside0.mk (Kd.N_lower ho28 (below_size (by repeat (first | (with_reducible first | exact HB.out | apply below_alloc | apply pw_below_drewN | apply below_drew1) | exact HB.out)))); have n2_ := Aside0.mk (below_step (by repeat (first | (with_reducible first | exact HB.out | apply below_alloc | apply pw_below_drewN | apply below_drew1) | exact HB.out)) hb); clear HO0; clear HB; have HO0 := n0_; have HO169 := n1_; have HB := n2_; clear n0_ n1_ n2_; clear hb ho28; obtain ⟨Ao29, co29, eo29⟩ := Kd.N_slice HO169.out; subst eo29) | ((with_reducible refine gate_callee (f := 19) rfl ?_); refine goesL_ (some 11) rfl rfl Try.func19 (by kernel_rfl) rfl #[.slice Ao29 y167.length co29] rfl (by (try simp only [List.map_toArray, List.map_cons, List.map_nil]); first | done | rfl | (simp only [List.length_drop, List.length_take]; rfl)) ?_; (with_reducible refine (laws_fewBytes.calls k _ _ y167 false _ ?side1 ?side2 A3.out).mono ?_); (case side1 => repeat (first | exact (Kd.N_reads' HO169.out).2.2 | (with_reducible refine Kd.C_alloc ?_ _) | (with_reducible refine Kd.C_drewN ?_ _) | (with_reducible refine Kd.C_drew ?_))); (case side2 => exact (Kd.N_reads' HO169.out).2.1); rintro e w' ⟨rfl, ⟨nd, rfl⟩⟩; refine ⟨_, rfl, ?_⟩))
        go_ret
        exact ⟨by first | rfl | (simp [errW_none, errW_some] <;> rfl) | (simp [*, errW_none, errW_some] <;> rfl), by repeat (first | (with_reducible first | exact HB.out | apply below_alloc | apply pw_below_drewN | apply below_drew1) | exact HB.out)⟩

/-- THE ONE PURE STATEMENT of laws_FnNumberDimension: yours. -/
def laws_FnNumberDimension.Pure : Prop := ∀ (l0 : List Int), l0.length ≤ maxLen → l0.length * 1 ≤ 140737488351232 → (∀ x ∈ l0, (Lit.int .u8 x).wf = true) → ∃ k, laws_FnNumberDimension.f k l0 = some true
theorem laws_FnNumberDimension.walk (P : laws_FnNumberDimension.Pure) (a0 : Option Addr) (len0 cap0 : Nat) (z0 : List Int) (w : World) (w0 : (a0 = none ∧ len0 = 0 ∧ cap0 = 0 ∧ z0 = []) ∨ ∃ x, a0 = some x ∧ len0 ≤ cap0 ∧ cap0 ≤ maxLen ∧ z0.length = cap0 ∧ (∀ i, i < z0.length → w.cell? (x.add i) = some (.int .u8 (z0.getD i 0))) ∧ ∀ n ∈ z0, (Lit.int .u8 n).wf = true) (y0 : len0 * 1 ≤ 140737488351232) :
    Calls Try.prog 7 #[.slice a0 len0 cap0] w fun e w' => e = .returned (.bool true) ∧ Below w.heap.size w w' := by
  obtain ⟨l0, rfl, hr0, hm0, hw0, hc0⟩ := ReadsInt.ofRowC w0
  obtain ⟨k, h⟩ := P l0 hm0 y0 hw0
  have CH_ : ∀ {kk_ : IntKind} {AA_ : Option Addr} {xx_ : List Int}, (Kd.int kk_).C w AA_ xx_.length xx_ → Kd.F (Kd.int kk_) w (fun _ => True) AA_ xx_.length xx_ := fun hh_ W' hW => (Kd.heap_int _).C (fun k hk => hW k trivial hk) hh_
  refine (laws_FnNumberDimension.calls k (fun _ => True) _ _ l0 true w (Kd.V_mk hc0 (CH_ (Kd.C_of_reads (d := (0 : Int)) (h1 := fun _ => rfl) hr0))) h).mono ?_
  rintro e w' ⟨rfl, hd⟩
  exact ⟨rfl, hd⟩

end Go.Proofs.Yteklgpjdcdkdpaa.PFnNumberDimension
