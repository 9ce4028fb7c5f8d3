-- Laid by a program of this session, out of the translation's print.
import Derived.Test.YteklgpjdcdkdpaaPFnNumberSizex0
namespace Go.Proofs.Yteklgpjdcdkdpaa.PFnNumberSize
open Go.RowKit Go.Proofs.YteklgpjdcdkdpaaW.PrintWords Go.Proofs.YteklgpjdcdkdpaaW.PrintLast Go.Proofs.YteklgpjdcdkdpaaW.PrintMore
attribute [local go_sem] max2_int min2_int max_two min_two max_three min_three max_four min_four   -- for this text's walks alone
set_option linter.unusedVariables false
set_option linter.unusedSimpArgs false

/-! ### tdstrconv_LenUint: function 44 -/
def tdstrconv_LenUint.f (a0 : Int) : Option (Int) := if a0 < 10 then (some 1) else (if a0 < 100 then (some 2) else (if a0 < 1000 then (some 3) else (if a0 < 10000 then (some 4) else (if a0 < 100000 then (some 5) else (if a0 < 1000000 then (some 6) else (if a0 < 10000000 then (some 7) else (if a0 < 100000000 then (some 8) else (if a0 < 1000000000 then (some 9) else (if a0 < 10000000000 then (some 10) else (if a0 < 100000000000 then (some 11) else (if a0 < 1000000000000 then (some 12) else (if a0 < 10000000000000 then (some 13) else (if a0 < 100000000000000 then (some 14) else (if a0 < 1000000000000000 then (some 15) else (if a0 < 10000000000000000 then (some 16) else (if a0 < 100000000000000000 then (some 17) else (if a0 < 1000000000000000000 then (some 18) else (if a0 < 10000000000000000000 then (some 19) else (some 20)))))))))))))))))))
set_option maxHeartbeats 8000000 in
set_option maxRecDepth 100000 in
theorem tdstrconv_LenUint.calls (a0 : Int) (r : Int) (w : World) (h : tdstrconv_LenUint.f a0 = some r) :
    Calls Try.prog 44 #[.int .u64 a0] w fun e w' => e = .returned (.int .i64 r) ∧ Drawn0 w w' := by
  have H : (if a0 < 10 then (some 1) else (if a0 < 100 then (some 2) else (if a0 < 1000 then (some 3) else (if a0 < 10000 then (some 4) else (if a0 < 100000 then (some 5) else (if a0 < 1000000 then (some 6) else (if a0 < 10000000 then (some 7) else (if a0 < 100000000 then (some 8) else (if a0 < 1000000000 then (some 9) else (if a0 < 10000000000 then (some 10) else (if a0 < 100000000000 then (some 11) else (if a0 < 1000000000000 then (some 12) else (if a0 < 10000000000000 then (some 13) else (if a0 < 100000000000000 then (some 14) else (if a0 < 1000000000000000 then (some 15) else (if a0 < 10000000000000000 then (some 16) else (if a0 < 100000000000000000 then (some 17) else (if a0 < 1000000000000000000 then (some 18) else (if a0 < 10000000000000000000 then (some 19) else (some 20)))))))))))))))))))) = some r := h
  clear h
  by_cases c2 : a0 < 10
  · rw [if_pos c2] at H
    have c2b0 : decide (a0 < 10) = true := decide_eq_true c2
    clear c2
    obtain rfl := Option.some.inj H
    go_enter Try.func44, Try.ntmps44
    go_wp2
    go_ret
    exact ⟨by first | rfl | (simp; done) | (simp [*]; done), by repeat (first | exact Drawn0.refl _ | apply Drawn0.step)⟩
  · rw [if_neg c2] at H
    have c2b0 : decide (a0 < 10) = false := decide_eq_false c2
    clear c2
    by_cases c3 : a0 < 100
    · rw [if_pos c3] at H
      have c3b0 : decide (a0 < 100) = true := decide_eq_true c3
      clear c3
      obtain rfl := Option.some.inj H
      go_enter Try.func44, Try.ntmps44
      go_wp2
      go_ret
      exact ⟨by first | rfl | (simp; done) | (simp [*]; done), by repeat (first | exact Drawn0.refl _ | apply Drawn0.step)⟩
    · rw [if_neg c3] at H
      have c3b0 : decide (a0 < 100) = false := decide_eq_false c3
      clear c3
      by_cases c4 : a0 < 1000
      · rw [if_pos c4] at H
        have c4b0 : decide (a0 < 1000) = true := decide_eq_true c4
        clear c4
        obtain rfl := Option.some.inj H
        go_enter Try.func44, Try.ntmps44
        go_wp2
        go_ret
        exact ⟨by first | rfl | (simp; done) | (simp [*]; done), by repeat (first | exact Drawn0.refl _ | apply Drawn0.step)⟩
      · rw [if_neg c4] at H
        have c4b0 : decide (a0 < 1000) = false := decide_eq_false c4
        clear c4
        by_cases c5 : a0 < 10000
        · rw [if_pos c5] at H
          have c5b0 : decide (a0 < 10000) = true := decide_eq_true c5
          clear c5
          obtain rfl := Option.some.inj H
          go_enter Try.func44, Try.ntmps44
          go_wp2
          go_ret
          exact ⟨by first | rfl | (simp; done) | (simp [*]; done), by repeat (first | exact Drawn0.refl _ | apply Drawn0.step)⟩
        · rw [if_neg c5] at H
          have c5b0 : decide (a0 < 10000) = false := decide_eq_false c5
          clear c5
          by_cases c6 : a0 < 100000
          · rw [if_pos c6] at H
            have c6b0 : decide (a0 < 100000) = true := decide_eq_true c6
            clear c6
            obtain rfl := Option.some.inj H
            go_enter Try.func44, Try.ntmps44
            go_wp2
            go_ret
            exact ⟨by first | rfl | (simp; done) | (simp [*]; done), by repeat (first | exact Drawn0.refl _ | apply Drawn0.step)⟩
          · rw [if_neg c6] at H
            have c6b0 : decide (a0 < 100000) = false := decide_eq_false c6
            clear c6
            by_cases c7 : a0 < 1000000
            · rw [if_pos c7] at H
              have c7b0 : decide (a0 < 1000000) = true := decide_eq_true c7
              clear c7
              obtain rfl := Option.some.inj H
              go_enter Try.func44, Try.ntmps44
              go_wp2
              go_ret
              exact ⟨by first | rfl | (simp; done) | (simp [*]; done), by repeat (first | exact Drawn0.refl _ | apply Drawn0.step)⟩
            · rw [if_neg c7] at H
              have c7b0 : decide (a0 < 1000000) = false := decide_eq_false c7
              clear c7
              by_cases c8 : a0 < 10000000
              · rw [if_pos c8] at H
                have c8b0 : decide (a0 < 10000000) = true := decide_eq_true c8
                clear c8
                obtain rfl := Option.some.inj H
                go_enter Try.func44, Try.ntmps44
                go_wp2
                go_ret
                exact ⟨by first | rfl | (simp; done) | (simp [*]; done), by repeat (first | exact Drawn0.refl _ | apply Drawn0.step)⟩
              · rw [if_neg c8] at H
                have c8b0 : decide (a0 < 10000000) = false := decide_eq_false c8
                clear c8
                by_cases c9 : a0 < 100000000
                · rw [if_pos c9] at H
                  have c9b0 : decide (a0 < 100000000) = true := decide_eq_true c9
                  clear c9
                  obtain rfl := Option.some.inj H
                  go_enter Try.func44, Try.ntmps44
                  go_wp2
                  go_ret
                  exact ⟨by first | rfl | (simp; done) | (simp [*]; done), by repeat (first | exact Drawn0.refl _ | apply Drawn0.step)⟩
                · rw [if_neg c9] at H
                  have c9b0 : decide (a0 < 100000000) = false := decide_eq_false c9
                  clear c9
                  by_cases c10 : a0 < 1000000000
                  · rw [if_pos c10] at H
                    have c10b0 : decide (a0 < 1000000000) = true := decide_eq_true c10
                    clear c10
                    obtain rfl := Option.some.inj H
                    go_enter Try.func44, Try.ntmps44
                    go_wp2
                    go_ret
                    exact ⟨by first | rfl | (simp; done) | (simp [*]; done), by repeat (first | exact Drawn0.refl _ | apply Drawn0.step)⟩
                  · rw [if_neg c10] at H
                    have c10b0 : decide (a0 < 1000000000) = false := decide_eq_false c10
                    clear c10
                    by_cases c11 : a0 < 10000000000
                    · rw [if_pos c11] at H
                      have c11b0 : decide (a0 < 10000000000) = true := decide_eq_true c11
                      clear c11
                      obtain rfl := Option.some.inj H
                      go_enter Try.func44, Try.ntmps44
                      go_wp2
                      go_ret
                      exact ⟨by first | rfl | (simp; done) | (simp [*]; done), by repeat (first | exact Drawn0.refl _ | apply Drawn0.step)⟩
                    · rw [if_neg c11] at H
                      have c11b0 : decide (a0 < 10000000000) = false := decide_eq_false c11
                      clear c11
                      by_cases c12 : a0 < 100000000000
                      · rw [if_pos c12] at H
                        have c12b0 : decide (a0 < 100000000000) = true := decide_eq_true c12
                        clear c12
                        obtain rfl := Option.some.inj H
                        go_enter Try.func44, Try.ntmps44
                        go_wp2
                        go_ret
                        exact ⟨by first | rfl | (simp; done) | (simp [*]; done), by repeat (first | exact Drawn0.refl _ | apply Drawn0.step)⟩
                      · rw [if_neg c12] at H
                        have c12b0 : decide (a0 < 100000000000) = false := decide_eq_false c12
                        clear c12
                        by_cases c13 : a0 < 1000000000000
                        · rw [if_pos c13] at H
                          have c13b0 : decide (a0 < 1000000000000) = true := decide_eq_true c13
                          clear c13
                          obtain rfl := Option.some.inj H
                          go_enter Try.func44, Try.ntmps44
                          go_wp2
                          go_ret
                          exact ⟨by first | rfl | (simp; done) | (simp [*]; done), by repeat (first | exact Drawn0.refl _ | apply Drawn0.step)⟩
                        · rw [if_neg c13] at H
                          have c13b0 : decide (a0 < 1000000000000) = false := decide_eq_false c13
                          clear c13
                          by_cases c14 : a0 < 10000000000000
                          · rw [if_pos c14] at H
                            have c14b0 : decide (a0 < 10000000000000) = true := decide_eq_true c14
                            clear c14
                            obtain rfl := Option.some.inj H
                            go_enter Try.func44, Try.ntmps44
                            go_wp2
                            go_ret
                            exact ⟨by first | rfl | (simp; done) | (simp [*]; done), by repeat (first | exact Drawn0.refl _ | apply Drawn0.step)⟩
                          · rw [if_neg c14] at H
                            have c14b0 : decide (a0 < 10000000000000) = false := decide_eq_false c14
                            clear c14
                            by_cases c15 : a0 < 100000000000000
                            · rw [if_pos c15] at H
                              have c15b0 : decide (a0 < 100000000000000) = true := decide_eq_true c15
                              clear c15
                              obtain rfl := Option.some.inj H
                              go_enter Try.func44, Try.ntmps44
                              go_wp2
                              go_ret
                              exact ⟨by first | rfl | (simp; done) | (simp [*]; done), by repeat (first | exact Drawn0.refl _ | apply Drawn0.step)⟩
                            · rw [if_neg c15] at H
                              have c15b0 : decide (a0 < 100000000000000) = false := decide_eq_false c15
                              clear c15
                              by_cases c16 : a0 < 1000000000000000
                              · rw [if_pos c16] at H
                                have c16b0 : decide (a0 < 1000000000000000) = true := decide_eq_true c16
                                clear c16
                                obtain rfl := Option.some.inj H
                                go_enter Try.func44, Try.ntmps44
                                go_wp2
                                go_ret
                                exact ⟨by first | rfl | (simp; done) | (simp [*]; done), by repeat (first | exact Drawn0.refl _ | apply Drawn0.step)⟩
                              · rw [if_neg c16] at H
                                have c16b0 : decide (a0 < 1000000000000000) = false := decide_eq_false c16
                                clear c16
                                by_cases c17 : a0 < 10000000000000000
                                · rw [if_pos c17] at H
                                  have c17b0 : decide (a0 < 10000000000000000) = true := decide_eq_true c17
                                  clear c17
                                  obtain rfl := Option.some.inj H
                                  go_enter Try.func44, Try.ntmps44
                                  go_wp2
                                  go_ret
                                  exact ⟨by first | rfl | (simp; done) | (simp [*]; done), by repeat (first | exact Drawn0.refl _ | apply Drawn0.step)⟩
                                · rw [if_neg c17] at H
                                  have c17b0 : decide (a0 < 10000000000000000) = false := decide_eq_false c17
                                  clear c17
                                  by_cases c18 : a0 < 100000000000000000
                                  · rw [if_pos c18] at H
                                    have c18b0 : decide (a0 < 100000000000000000) = true := decide_eq_true c18
                                    clear c18
                                    obtain rfl := Option.some.inj H
                                    go_enter Try.func44, Try.ntmps44
                                    go_wp2
                                    go_ret
                                    exact ⟨by first | rfl | (simp; done) | (simp [*]; done), by repeat (first | exact Drawn0.refl _ | apply Drawn0.step)⟩
                                  · rw [if_neg c18] at H
                                    have c18b0 : decide (a0 < 100000000000000000) = false := decide_eq_false c18
                                    clear c18
                                    by_cases c19 : a0 < 1000000000000000000
                                    · rw [if_pos c19] at H
                                      have c19b0 : decide (a0 < 1000000000000000000) = true := decide_eq_true c19
                                      clear c19
                                      obtain rfl := Option.some.inj H
                                      go_enter Try.func44, Try.ntmps44
                                      go_wp2
                                      go_ret
                                      exact ⟨by first | rfl | (simp; done) | (simp [*]; done), by repeat (first | exact Drawn0.refl _ | apply Drawn0.step)⟩
                                    · rw [if_neg c19] at H
                                      have c19b0 : decide (a0 < 1000000000000000000) = false := decide_eq_false c19
                                      clear c19
                                      by_cases c20 : a0 < 10000000000000000000
                                      · rw [if_pos c20] at H
                                        have c20b0 : decide (a0 < 10000000000000000000) = true := decide_eq_true c20
                                        clear c20
                                        obtain rfl := Option.some.inj H
                                        go_enter Try.func44, Try.ntmps44
                                        go_wp2
                                        go_ret
                                        exact ⟨by first | rfl | (simp; done) | (simp [*]; done), by repeat (first | exact Drawn0.refl _ | apply Drawn0.step)⟩
                                      · rw [if_neg c20] at H
                                        have c20b0 : decide (a0 < 10000000000000000000) = false := decide_eq_false c20
                                        clear c20
                                        obtain rfl := Option.some.inj H
                                        go_enter Try.func44, Try.ntmps44
                                        go_wp2
                                        go_ret
                                        exact ⟨by first | rfl | (simp; done) | (simp [*]; done), by repeat (first | exact Drawn0.refl _ | apply Drawn0.step)⟩

/-! ### tdstrconv_LenInt: function 45 -/
def tdstrconv_LenInt.f (a0 : Int) : Option (Int) := if a0 < 0 then (if a0 = (-9223372036854775808) then (some 20) else ((tdstrconv_LenUint.f (IntKind.u64.wrap (wrap64 (-a0)))).bind fun t101 => (some (wrap64 (1 + t101))))) else ((tdstrconv_LenUint.f (IntKind.u64.wrap (a0))).bind fun t102 => (some t102))
set_option maxHeartbeats 8000000 in
set_option maxRecDepth 100000 in
theorem tdstrconv_LenInt.calls (a0 : Int) (r : Int) (w : World) (h : tdstrconv_LenInt.f a0 = some r) :
    Calls Try.prog 45 #[.int .i64 a0] w fun e w' => e = .returned (.int .i64 r) ∧ Drawn0 w w' := by
  have H : (if a0 < 0 then (if a0 = (-9223372036854775808) then (some 20) else ((tdstrconv_LenUint.f (IntKind.u64.wrap (wrap64 (-a0)))).bind fun t101 => (some (wrap64 (1 + t101))))) else ((tdstrconv_LenUint.f (IntKind.u64.wrap (a0))).bind fun t102 => (some t102))) = some r := h
  clear h
  by_cases c2 : a0 < 0
  · rw [if_pos c2] at H
    have c2b0 : decide (a0 < 0) = true := decide_eq_true c2
    clear c2
    by_cases c3 : a0 = (-9223372036854775808)
    · rw [if_pos c3] at H
      have c3b0 : (a0 == (-9223372036854775808)) = true := beq_iff_eq.mpr c3
      have c3b1 : (a0 != (-9223372036854775808)) = false := bne_eq_false_iff_eq.mpr c3
      clear c3
      obtain rfl := Option.some.inj H
      go_enter Try.func45, Try.ntmps45
      go_wp2
      go_ret
      exact ⟨by first | rfl | (simp; done) | (simp [*]; done), by repeat (first | exact Drawn0.refl _ | apply Drawn0.step)⟩
    · rw [if_neg c3] at H
      have c3b0 : (a0 == (-9223372036854775808)) = false := beq_eq_false_iff_ne.mpr c3
      have c3b1 : (a0 != (-9223372036854775808)) = true := bne_iff_ne.mpr c3
      replace H := Option.bind_eq_some_iff.mp H
      obtain ⟨t101, A40, H⟩ := H
      replace H : (some (wrap64 (1 + t101))) = some r := H
      have A4 := Aside0.mk A40
      clear A40
      obtain rfl := Option.some.inj H
      go_enter Try.func45, Try.ntmps45
      go_wp2_with (first | ((with_reducible refine gate_callee (f := 44) rfl ?_); refine goesL_ (some 10) rfl rfl Try.func44 (by kernel_rfl) rfl #[.int .u64 (IntKind.u64.wrap (wrap64 (-a0)))] rfl (by (try simp only [List.map_toArray, List.map_cons, List.map_nil]); first | done | rfl | (simp only [List.length_drop, List.length_take]; rfl)) ?_; (with_reducible refine (tdstrconv_LenUint.calls (IntKind.u64.wrap (wrap64 (-a0))) t101 _ A4.out).mono ?_); rintro e w' ⟨rfl, ⟨nd, rfl⟩⟩; refine ⟨_, rfl, ?_⟩))
      go_ret
      exact ⟨by first | rfl | (simp; done) | (simp [*]; done), by repeat (first | exact Drawn0.refl _ | apply Drawn0.step)⟩
  · rw [if_neg c2] at H
    have c2b0 : decide (a0 < 0) = false := decide_eq_false c2
    clear c2
    replace H := Option.bind_eq_some_iff.mp H
    obtain ⟨t102, A50, H⟩ := H
    replace H : (some t102) = some r := H
    have A5 := Aside0.mk A50
    clear A50
    obtain rfl := Option.some.inj H
    go_enter Try.func45, Try.ntmps45
    go_wp2_with (first | ((with_reducible refine gate_callee (f := 44) rfl ?_); refine goesL_ (some 14) rfl rfl Try.func44 (by kernel_rfl) rfl #[.int .u64 (IntKind.u64.wrap (a0))] rfl (by (try simp only [List.map_toArray, List.map_cons, List.map_nil]); first | done | rfl | (simp only [List.length_drop, List.length_take]; rfl)) ?_; (with_reducible refine (tdstrconv_LenUint.calls (IntKind.u64.wrap (a0)) t102 _ A5.out).mono ?_); rintro e w' ⟨rfl, ⟨nd, rfl⟩⟩; refine ⟨_, rfl, ?_⟩))
    go_ret
    exact ⟨by first | rfl | (simp; done) | (simp [*]; done), by repeat (first | exact Drawn0.refl _ | apply Drawn0.step)⟩

/-! ### impl_LengthOfInt: function 17 -/
def impl_LengthOfInt.f (a0 : Int) : Option (Int) := (tdstrconv_LenInt.f a0).bind fun t103 => (some t103)
set_option maxHeartbeats 8000000 in
set_option maxRecDepth 100000 in
theorem impl_LengthOfInt.calls (a0 : Int) (r : Int) (w : World) (h : impl_LengthOfInt.f a0 = some r) :
    Calls Try.prog 17 #[.int .i64 a0] w fun e w' => e = .returned (.int .i64 r) ∧ Drawn0 w w' := by
  have H : ((tdstrconv_LenInt.f a0).bind fun t103 => (some t103)) = some r := h
  clear h
  replace H := Option.bind_eq_some_iff.mp H
  obtain ⟨t103, A20, H⟩ := H
  replace H : (some t103) = some r := H
  have A2 := Aside0.mk A20
  clear A20
  obtain rfl := Option.some.inj H
  go_enter Try.func17, Try.ntmps17
  go_wp2_with (first | ((with_reducible refine gate_callee (f := 45) rfl ?_); refine goesL_ (some 4) rfl rfl Try.func45 (by kernel_rfl) rfl #[.int .i64 a0] rfl (by (try simp only [List.map_toArray, List.map_cons, List.map_nil]); first | done | rfl | (simp only [List.length_drop, List.length_take]; rfl)) ?_; (with_reducible refine (tdstrconv_LenInt.calls a0 t103 _ A2.out).mono ?_); rintro e w' ⟨rfl, ⟨nd, rfl⟩⟩; refine ⟨_, rfl, ?_⟩))
  go_ret
  exact ⟨by first | rfl | (simp; done) | (simp [*]; done), by repeat (first | exact Drawn0.refl _ | apply Drawn0.step)⟩

/-! ### spec_Digits: function 16 -/
def spec_Digits.l0 : Nat → Int → List Int → Option (List Int)
  | 0, _, _ => none
  | k + 1, x0, x3 => (some (([(IntKind.u64.wrap (48 + (Int.tmod x0 10))) % 256] : List Int) : List Int)).bind fun y107 => (if y107.length + x3.length < 140737488355328 then ((some (y107 ++ x3 : List Int)).bind fun y110 => (if (IntKind.u64.wrap (Int.tdiv x0 10)) = 0 then (some y110) else (spec_Digits.l0 k (IntKind.u64.wrap (Int.tdiv x0 10)) y110))) else (none))
def spec_Digits.f (k : Nat) (a0 : Int) : Option (List Int) := spec_Digits.l0 k a0 (([] : List Int))
theorem spec_Digits.mono_l : ∀ k, (∀ y0 y1, LeO (spec_Digits.l0 k y0 y1) (spec_Digits.l0 (k + 1) y0 y1))
  | 0 => fun _ _ r h => by simp [spec_Digits.l0] at h
  | k + 1 => by
    have ih0 := spec_Digits.mono_l k
    · intro y0 y1
      unfold spec_Digits.l0
      repeat' first
      | (with_reducible exact ih0 _ _)
      | (with_reducible exact LeO.refl _)
      | (with_reducible exact LeO.none _)
      | (with_reducible refine LeO.ite ?_ ?_)
      | (with_reducible refine LeO.bind ?_ (fun _ => ?_))
      | exact ih0 _ _
      | exact LeO.none _
      | refine LeO.ite ?_ ?_
      | refine LeO.bind ?_ (fun _ => ?_)
theorem spec_Digits.mono : ∀ a0 k, LeO (spec_Digits.f k a0) (spec_Digits.f (k + 1) a0) := by
  intro a0 k
  have ih0 := spec_Digits.mono_l k
  unfold spec_Digits.f
  repeat' first
      | (with_reducible exact ih0 _ _)
      | (with_reducible exact LeO.refl _)
      | (with_reducible exact LeO.none _)
      | (with_reducible refine LeO.ite ?_ ?_)
      | (with_reducible refine LeO.bind ?_ (fun _ => ?_))
      | exact ih0 _ _
      | exact LeO.none _
      | refine LeO.ite ?_ ?_
      | refine LeO.bind ?_ (fun _ => ?_)
set_option maxHeartbeats 8000000 in
set_option maxRecDepth 100000 in
theorem spec_Digits.calls (k : Nat) (a0 : Int) (r : List Int) (w : World) (h : spec_Digits.f k a0 = some r) :
    Calls Try.prog 16 #[.int .u64 a0] w fun e w' => ∃ v0_ : Value, e = .returned (v0_) ∧ Kd.R (Kd.int .u8) 5 w' w.heap.size (fun _ => True) v0_ r ∧ Below w.heap.size w w' := by
  have HB := Aside0.mk (Below.refl w.heap.size w)
  have H : (spec_Digits.l0 k a0 (([] : List Int))) = some r := h
  clear h
  obtain ⟨y104, hy104⟩ : ∃ y_ : List Int, y_ = (([] : List Int)) := ⟨_, rfl⟩
  replace H : (spec_Digits.l0 k a0 y104) = some r := by first | (rw [hy104]; with_reducible exact H) | (have H2_ := (Option.bind_some _ _).symm.trans H; rw [hy104]; with_reducible exact H2_) | (have H2_ := (Option.bind_some _ _).symm.trans H; with_reducible exact H2_) | with_reducible exact H | (rw [hy104]; exact H) | exact H
  have Ny104 := Aside0.mk hy104
  clear hy104
  have H' := Aside0.mk H
  clear H
  go_enter Try.func16, Try.ntmps16
  go_wp2_with (first | ((with_reducible refine gate_dst (N := 4) rfl ?_); refine Kd.R_lit (Kd.int .u8) _ 5 ?hg (N := 4) ?hd (xs := ([] : List Int)) (inner := []) (ok := fun _ => True) (okp := fun _ => True) ?hr ?hp (fun _ hk => hk) trivial (Below.refl _ _) (Nat.le_refl _) (by simp) ?_; (case hd => rfl); (case hg => rfl); (case hr => first | (go_simp; done) | (go_simp; rfl)); (case hp => exact (Reps.none _ _)); intro v105 w2 ho3 hb hg_ hnew_; clear hg_ hnew_; (first | rw [← Ny104.out] at ho3 | (simp only [Int.reduceToNat] at ho3; rw [← Ny104.out] at ho3)); have n0_ := Aside0.mk (Kd.R_lower ho3 (below_size (by repeat (first | (with_reducible first | exact HB.out | apply below_alloc | apply pw_below_drewN | apply below_drew1) | exact HB.out)))); have n1_ := Aside0.mk (below_step (by repeat (first | (with_reducible first | exact HB.out | apply below_alloc | apply pw_below_drewN | apply below_drew1) | exact HB.out)) hb); clear HB; have HO106 := n0_; have HB := n1_; clear n0_ n1_; clear hb ho3))
  go_loopg [0, 3] k (fun kq v0 v3 w' => ∃ (x0_1 : Int) (x3_1 : List Int), v0 = .int .u64 x0_1 ∧ Aside0 (spec_Digits.l0 kq x0_1 x3_1 = some r) ∧ Aside0 (kq ≤ k) ∧ Aside0 (Kd.R (Kd.int .u8) 5 w' w.heap.size (fun _ => True) v3 x3_1) ∧ Aside0 (Below w.heap.size w w'))
  case atStart => exact ⟨(a0), (y104), (by first | rfl | (simp; done) | (simp [*]; done)), H', ⟨Nat.le_refl _⟩, ⟨by (with_reducible repeat (first | apply Kd.R_alloc | apply Kd.R_drewN | apply Kd.R_drew)); exact HO106.out⟩, ⟨by repeat (first | (with_reducible first | exact HB.out | apply below_alloc | apply pw_below_drewN | apply below_drew1) | exact HB.out)⟩⟩
  case round =>
    clear H'
    try clear c1
    try clear p2
    obtain ⟨x0_1, x3_1, rfl, HA, HK1, HO_3, HB⟩ := hrel
    cases gk with
    | zero => exact absurd HA.out (by simp [spec_Digits.l0])
    | succ k1 =>
      have H := HA.out
      clear HA
      simp only [spec_Digits.l0] at H
      obtain ⟨y107, hy107⟩ : ∃ y_ : List Int, y_ = (([(IntKind.u64.wrap (48 + (Int.tmod x0_1 10))) % 256] : List Int)) := ⟨_, rfl⟩
      replace H : (if y107.length + x3_1.length < 140737488355328 then ((some (y107 ++ x3_1 : List Int)).bind fun y110 => (if (IntKind.u64.wrap (Int.tdiv x0_1 10)) = 0 then (some y110) else (spec_Digits.l0 k1 (IntKind.u64.wrap (Int.tdiv x0_1 10)) y110))) else (none)) = some r := by first | (rw [hy107]; with_reducible exact H) | (have H2_ := (Option.bind_some _ _).symm.trans H; rw [hy107]; with_reducible exact H2_) | (have H2_ := (Option.bind_some _ _).symm.trans H; with_reducible exact H2_) | with_reducible exact H | (rw [hy107]; exact H) | exact H
      have Ny107 := Aside0.mk hy107
      clear hy107
      by_cases c4 : y107.length + x3_1.length < 140737488355328
      · rw [if_pos c4] at H
        have LMc4 := Aside0.mk c4
        clear c4
        obtain ⟨y110, hy110⟩ : ∃ y_ : List Int, y_ = (y107 ++ x3_1) := ⟨_, rfl⟩
        replace H : (if (IntKind.u64.wrap (Int.tdiv x0_1 10)) = 0 then (some y110) else (spec_Digits.l0 k1 (IntKind.u64.wrap (Int.tdiv x0_1 10)) y110)) = some r := by first | (rw [hy110]; with_reducible exact H) | (have H2_ := (Option.bind_some _ _).symm.trans H; rw [hy110]; with_reducible exact H2_) | (have H2_ := (Option.bind_some _ _).symm.trans H; with_reducible exact H2_) | with_reducible exact H | (rw [hy110]; exact H) | exact H
        have Ny110 := Aside0.mk hy110
        clear hy110
        by_cases c5 : (IntKind.u64.wrap (Int.tdiv x0_1 10)) = 0
        · rw [if_pos c5] at H
          have c5b0 : ((IntKind.u64.wrap (Int.tdiv x0_1 10)) == 0) = true := beq_iff_eq.mpr c5
          have c5b1 : ((IntKind.u64.wrap (Int.tdiv x0_1 10)) != 0) = false := bne_eq_false_iff_eq.mpr c5
          clear c5
          obtain rfl := Option.some.inj H
          go_wp2_with (first | ((with_reducible refine gate_dst (N := 9) rfl ?_); refine Kd.R_lit (Kd.int .u8) _ 5 ?hg (N := 9) ?hd (xs := ([(IntKind.u64.wrap (48 + (Int.tmod x0_1 10))) % 256] : List Int)) (inner := [.int .u8 ((IntKind.u64.wrap (48 + (Int.tmod x0_1 10))) % 256)]) (ok := fun _ => True) (okp := fun _ => True) ?hr ?hp (fun _ hk => hk) trivial (Below.refl _ _) (Nat.le_refl _) (by simp) ?_; (case hd => rfl); (case hg => rfl); (case hr => first | (go_simp; done) | (go_simp; rfl)); (case hp => exact (Reps.one (show Kd.M (Kd.int .u8) _ _ _ ((IntKind.u64.wrap (48 + (Int.tmod x0_1 10))) % 256) [.int .u8 ((IntKind.u64.wrap (48 + (Int.tmod x0_1 10))) % 256)] from rfl) (Reps.none _ _))); intro v108 w6 ho7 hb hg_ hnew_; clear hg_ hnew_; (first | rw [← Ny107.out] at ho7 | (simp only [Int.reduceToNat] at ho7; rw [← Ny107.out] at ho7)); have n0_ := Aside0.mk (Kd.R_elder' (by (with_reducible repeat (first | apply Kd.R_alloc | apply Kd.R_drewN | apply Kd.R_drew)); exact HO_3.out) (Kd.R_base ho7) hb); have n1_ := Aside0.mk (Kd.R_lower (Kd.R_new' ho7 (Kd.R_lt (by (with_reducible repeat (first | apply Kd.R_alloc | apply Kd.R_drewN | apply Kd.R_drew)); exact HO_3.out))) (below_size (by repeat (first | (with_reducible first | exact HB.out | apply below_alloc | apply pw_below_drewN | apply below_drew1) | exact HB.out)))); have n2_ := Aside0.mk (below_step (by repeat (first | (with_reducible first | exact HB.out | apply below_alloc | apply pw_below_drewN | apply below_drew1) | exact HB.out)) hb); clear HO_3; clear HB; have HO_3 := n0_; have HO109 := n1_; have HB := n2_; clear n0_ n1_ n2_; clear hb ho7; obtain ⟨Ao9, co9, eo9⟩ := Kd.R_slice HO_3.out; subst eo9) | ((with_reducible refine gate_builtin (b := .append) (xs := #[.tmp 9, .tmp 10]) rfl ?_); at_builtin; refine Kd.R_append_rows (Kd.int .u8) (w0 := w) w.heap.size rfl (.tmp 9) (.tmp 10) 24 5 (.int .u8 0) 1 rfl Try.underlying24 info5 rfl (by decide) (by omega) v108 y107 x3_1 _ _ _ (fun k_ => some k_ ≠ (.slice Ao9 x3_1.length co9 : Value).ownBlock) (fun _ => False) rfl rfl ?aO ?aR (fun _ _ h => h) (fun _ h => h.elim) ?aF ?aB ?aS ?aL ?_; (case aR => repeat (first | exact (Kd.R_reads' HO_3.out).2.2 | (with_reducible refine Kd.C_alloc ?_ _) | (with_reducible refine Kd.C_drewN ?_ _) | (with_reducible refine Kd.C_drew ?_))); (case aB => exact (by repeat (first | (with_reducible first | exact HB.out | apply below_alloc | apply pw_below_drewN | apply below_drew1) | exact HB.out))); (case aF => exact (fun k_ hk => Kd.fresh' (Kd.R_lt (by (with_reducible repeat (first | apply Kd.R_alloc | apply Kd.R_drewN | apply Kd.R_drew)); exact HO_3.out)) k_ hk)); (case aO => exact (by (with_reducible repeat (first | apply Kd.R_alloc | apply Kd.R_drewN | apply Kd.R_drew)); exact Kd.R_mono HO109.out (fun _ hk => hk.2))); (case aS => exact (below_size (by repeat (first | (with_reducible first | exact HB.out | apply below_alloc | apply pw_below_drewN | apply below_drew1) | exact HB.out)))); (case aL => have := LMc4.out; omega); intro v111 w8 ho hb hg hat; rw [← Ny110.out] at ho; have n0_ := Aside0.mk (Kd.R_after (ok := (fun _ => True)) (by (with_reducible repeat (first | apply Kd.R_alloc | apply Kd.R_drewN | apply Kd.R_drew)); exact HO_3.out) hg hat); have n1_ := Aside0.mk (hb); have n2_ := Aside0.mk (ho); clear HO_3; clear HB; clear HO109; have HO_3 := n0_; have HB := n1_; have HO112 := n2_; clear n0_ n1_ n2_; clear ho hb hg hat))
          go_ret
          exact ⟨_, by first | rfl | (simp [errW_none, errW_some] <;> rfl) | (simp [*, errW_none, errW_some] <;> rfl), by (with_reducible repeat (first | apply Kd.R_alloc | apply Kd.R_drewN | apply Kd.R_drew)); exact Kd.R_mono HO112.out (fun _ hk => trivial), by repeat (first | (with_reducible first | exact HB.out | apply below_alloc | apply pw_below_drewN | apply below_drew1) | exact HB.out)⟩
        · rw [if_neg c5] at H
          have c5b0 : ((IntKind.u64.wrap (Int.tdiv x0_1 10)) == 0) = false := beq_eq_false_iff_ne.mpr c5
          have c5b1 : ((IntKind.u64.wrap (Int.tdiv x0_1 10)) != 0) = true := bne_iff_ne.mpr c5
          have H' := Aside0.mk H
          clear H
          go_wp2_with (first | ((with_reducible refine gate_dst (N := 9) rfl ?_); refine Kd.R_lit (Kd.int .u8) _ 5 ?hg (N := 9) ?hd (xs := ([(IntKind.u64.wrap (48 + (Int.tmod x0_1 10))) % 256] : List Int)) (inner := [.int .u8 ((IntKind.u64.wrap (48 + (Int.tmod x0_1 10))) % 256)]) (ok := fun _ => True) (okp := fun _ => True) ?hr ?hp (fun _ hk => hk) trivial (Below.refl _ _) (Nat.le_refl _) (by simp) ?_; (case hd => rfl); (case hg => rfl); (case hr => first | (go_simp; done) | (go_simp; rfl)); (case hp => exact (Reps.one (show Kd.M (Kd.int .u8) _ _ _ ((IntKind.u64.wrap (48 + (Int.tmod x0_1 10))) % 256) [.int .u8 ((IntKind.u64.wrap (48 + (Int.tmod x0_1 10))) % 256)] from rfl) (Reps.none _ _))); intro v108 w10 ho11 hb hg_ hnew_; clear hg_ hnew_; (first | rw [← Ny107.out] at ho11 | (simp only [Int.reduceToNat] at ho11; rw [← Ny107.out] at ho11)); have n0_ := Aside0.mk (Kd.R_elder' (by (with_reducible repeat (first | apply Kd.R_alloc | apply Kd.R_drewN | apply Kd.R_drew)); exact HO_3.out) (Kd.R_base ho11) hb); have n1_ := Aside0.mk (Kd.R_lower (Kd.R_new' ho11 (Kd.R_lt (by (with_reducible repeat (first | apply Kd.R_alloc | apply Kd.R_drewN | apply Kd.R_drew)); exact HO_3.out))) (below_size (by repeat (first | (with_reducible first | exact HB.out | apply below_alloc | apply pw_below_drewN | apply below_drew1) | exact HB.out)))); have n2_ := Aside0.mk (below_step (by repeat (first | (with_reducible first | exact HB.out | apply below_alloc | apply pw_below_drewN | apply below_drew1) | exact HB.out)) hb); clear HO_3; clear HB; have HO_3 := n0_; have HO109 := n1_; have HB := n2_; clear n0_ n1_ n2_; clear hb ho11; obtain ⟨Ao13, co13, eo13⟩ := Kd.R_slice HO_3.out; subst eo13) | ((with_reducible refine gate_builtin (b := .append) (xs := #[.tmp 9, .tmp 10]) rfl ?_); at_builtin; refine Kd.R_append_rows (Kd.int .u8) (w0 := w) w.heap.size rfl (.tmp 9) (.tmp 10) 24 5 (.int .u8 0) 1 rfl Try.underlying24 info5 rfl (by decide) (by omega) v108 y107 x3_1 _ _ _ (fun k_ => some k_ ≠ (.slice Ao13 x3_1.length co13 : Value).ownBlock) (fun _ => False) rfl rfl ?aO ?aR (fun _ _ h => h) (fun _ h => h.elim) ?aF ?aB ?aS ?aL ?_; (case aR => repeat (first | exact (Kd.R_reads' HO_3.out).2.2 | (with_reducible refine Kd.C_alloc ?_ _) | (with_reducible refine Kd.C_drewN ?_ _) | (with_reducible refine Kd.C_drew ?_))); (case aB => exact (by repeat (first | (with_reducible first | exact HB.out | apply below_alloc | apply pw_below_drewN | apply below_drew1) | exact HB.out))); (case aF => exact (fun k_ hk => Kd.fresh' (Kd.R_lt (by (with_reducible repeat (first | apply Kd.R_alloc | apply Kd.R_drewN | apply Kd.R_drew)); exact HO_3.out)) k_ hk)); (case aO => exact (by (with_reducible repeat (first | apply Kd.R_alloc | apply Kd.R_drewN | apply Kd.R_drew)); exact Kd.R_mono HO109.out (fun _ hk => hk.2))); (case aS => exact (below_size (by repeat (first | (with_reducible first | exact HB.out | apply below_alloc | apply pw_below_drewN | apply below_drew1) | exact HB.out)))); (case aL => have := LMc4.out; omega); intro v111 w12 ho hb hg hat; rw [← Ny110.out] at ho; have n0_ := Aside0.mk (Kd.R_after (ok := (fun _ => True)) (by (with_reducible repeat (first | apply Kd.R_alloc | apply Kd.R_drewN | apply Kd.R_drew)); exact HO_3.out) hg hat); have n1_ := Aside0.mk (hb); have n2_ := Aside0.mk (ho); clear HO_3; clear HB; clear HO109; have HO_3 := n0_; have HB := n1_; have HO112 := n2_; clear n0_ n1_ n2_; clear ho hb hg hat))
          go_roundg k1
          case measure => have := HK1.out; omega
          case rel => exact ⟨(IntKind.u64.wrap (Int.tdiv x0_1 10)), (y110), (by first | rfl | (simp; done) | (simp [*]; done)), H', ⟨by have := HK1.out; omega⟩, ⟨by (with_reducible repeat (first | apply Kd.R_alloc | apply Kd.R_drewN | apply Kd.R_drew)); exact Kd.R_mono HO112.out (fun _ hk => trivial)⟩, ⟨by repeat (first | (with_reducible first | exact HB.out | apply below_alloc | apply pw_below_drewN | apply below_drew1) | exact HB.out)⟩⟩
      · rw [if_neg c4] at H
        exact absurd H (by simp)

/-! ### spec_Join: function 29 -/
def spec_Join.l0 : Nat → List Int → List (List Int) → Int → Int → Option (List Int)
  | 0, _, _, _, _ => none
  | k + 1, x3, x7, x8, x9 => if x9 < x8 then (if 0 ≤ x9 then (if x9 < (x7.length : Int) then (if x3.length + (rd_L1 x7 x9).length < 140737488355328 then (spec_Join.l0 k (x3 ++ (rd_L1 x7 x9)) x7 x8 (wrap64 (x9 + 1))) else (none)) else (none)) else (none)) else (some x3)
def spec_Join.f (k : Nat) (l0 : List (List Int)) : Option (List Int) := spec_Join.l0 k (([] : List Int)) l0 (l0.length : Int) 0
theorem spec_Join.mono_l : ∀ k, (∀ y0 y1 y2 y3, LeO (spec_Join.l0 k y0 y1 y2 y3) (spec_Join.l0 (k + 1) y0 y1 y2 y3))
  | 0 => fun _ _ _ _ r h => by simp [spec_Join.l0] at h
  | k + 1 => by
    have ih0 := spec_Join.mono_l k
    · intro y0 y1 y2 y3
      unfold spec_Join.l0
      repeat' first
      | (with_reducible exact ih0 _ _ _ _)
      | (with_reducible exact LeO.refl _)
      | (with_reducible exact LeO.none _)
      | (with_reducible refine LeO.ite ?_ ?_)
      | (with_reducible refine LeO.bind ?_ (fun _ => ?_))
      | exact ih0 _ _ _ _
      | exact LeO.none _
      | refine LeO.ite ?_ ?_
      | refine LeO.bind ?_ (fun _ => ?_)
theorem spec_Join.mono : ∀ a0 k, LeO (spec_Join.f k a0) (spec_Join.f (k + 1) a0) := by
  intro a0 k
  have ih0 := spec_Join.mono_l k
  unfold spec_Join.f
  repeat' first
      | (with_reducible exact ih0 _ _ _ _)
      | (with_reducible exact LeO.refl _)
      | (with_reducible exact LeO.none _)
      | (with_reducible refine LeO.ite ?_ ?_)
      | (with_reducible refine LeO.bind ?_ (fun _ => ?_))
      | exact ih0 _ _ _ _
      | exact LeO.none _
      | refine LeO.ite ?_ ?_
      | refine LeO.bind ?_ (fun _ => ?_)
set_option maxHeartbeats 8000000 in
set_option maxRecDepth 100000 in
theorem spec_Join.calls (k : Nat) (A0 : Option Addr) (c0 : Nat) (l0 : List (List Int)) (r : List Int) (w : World) (hr0 : Kd.C (Kd.slice 5 (Kd.int .u8)) w A0 l0.length l0) (hc0 : l0.length ≤ c0) (h : spec_Join.f k l0 = some r) :
    Calls Try.prog 29 #[.slice A0 l0.length c0] w fun e w' => ∃ v0_ : Value, e = .returned (v0_) ∧ Kd.R (Kd.int .u8) 5 w' w.heap.size (fun _ => True) v0_ r ∧ Below w.heap.size w w' := by
  have HR0 := Aside0.mk hr0
  have HC0 := Aside0.mk hc0
  clear hr0 hc0
  have HB := Aside0.mk (Below.refl w.heap.size w)
  have H : (spec_Join.l0 k (([] : List Int)) l0 (l0.length : Int) 0) = some r := h
  clear h
  obtain ⟨y113, hy113⟩ : ∃ y_ : List Int, y_ = (([] : List Int)) := ⟨_, rfl⟩
  replace H : (spec_Join.l0 k y113 l0 (l0.length : Int) 0) = some r := by first | (rw [hy113]; with_reducible exact H) | (have H2_ := (Option.bind_some _ _).symm.trans H; rw [hy113]; with_reducible exact H2_) | (have H2_ := (Option.bind_some _ _).symm.trans H; with_reducible exact H2_) | with_reducible exact H | (rw [hy113]; exact H) | exact H
  have Ny113 := Aside0.mk hy113
  clear hy113
  have H' := Aside0.mk H
  clear H
  go_enter Try.func29, Try.ntmps29
  go_wp2_with (first | ((with_reducible refine gate_dst (N := 6) rfl ?_); refine Kd.R_lit (Kd.int .u8) _ 5 ?hg (N := 6) ?hd (xs := ([] : List Int)) (inner := []) (ok := fun _ => True) (okp := fun _ => True) ?hr ?hp (fun _ hk => hk) trivial (Below.refl _ _) (Nat.le_refl _) (by simp) ?_; (case hd => rfl); (case hg => rfl); (case hr => first | (go_simp; done) | (go_simp; rfl)); (case hp => exact (Reps.none _ _)); intro v114 w2 ho3 hb hg_ hnew_; clear hg_ hnew_; (first | rw [← Ny113.out] at ho3 | (simp only [Int.reduceToNat] at ho3; rw [← Ny113.out] at ho3)); have n0_ := Aside0.mk (Kd.R_lower ho3 (below_size (by repeat (first | (with_reducible first | exact HB.out | apply below_alloc | apply pw_below_drewN | apply below_drew1) | exact HB.out)))); have n1_ := Aside0.mk (below_step (by repeat (first | (with_reducible first | exact HB.out | apply below_alloc | apply pw_below_drewN | apply below_drew1) | exact HB.out)) hb); clear HB; have HO115 := n0_; have HB := n1_; clear n0_ n1_; clear hb ho3))
  go_loopg [3, 9] k (fun kq v3 v9 w' => ∃ (x3_1 : List Int) (x9_1 : Int), v9 = .int .i64 x9_1 ∧ Aside0 (spec_Join.l0 kq x3_1 l0 (l0.length : Int) x9_1 = some r) ∧ Aside0 (kq ≤ k) ∧ Aside0 (Kd.R (Kd.int .u8) 5 w' w.heap.size (fun _ => True) v3 x3_1) ∧ Aside0 (Below w.heap.size w w'))
  case atStart => exact ⟨(y113), (0), (by first | rfl | (simp; done) | (simp [*]; done)), H', ⟨Nat.le_refl _⟩, ⟨by (with_reducible repeat (first | apply Kd.R_alloc | apply Kd.R_drewN | apply Kd.R_drew)); exact HO115.out⟩, ⟨by repeat (first | (with_reducible first | exact HB.out | apply below_alloc | apply pw_below_drewN | apply below_drew1) | exact HB.out)⟩⟩
  case round =>
    clear H'
    try clear c2
    try clear p2
    obtain ⟨x3_1, x9_1, rfl, HA, HK1, HO_3, HB⟩ := hrel
    cases gk with
    | zero => exact absurd HA.out (by simp [spec_Join.l0])
    | succ k1 =>
      have H := HA.out
      clear HA
      simp only [spec_Join.l0] at H
      by_cases c4 : x9_1 < (l0.length : Int)
      · rw [if_pos c4] at H
        have c4b0 : decide (x9_1 < (l0.length : Int)) = true := decide_eq_true c4
        clear c4
        by_cases c5 : 0 ≤ x9_1
        · rw [if_pos c5] at H
          have c5b0 : decide (0 ≤ x9_1) = true := decide_eq_true c5
          clear c5
          by_cases c6 : x9_1 < (l0.length : Int)
          · rw [if_pos c6] at H
            have c6b0 : decide (x9_1 < (l0.length : Int)) = true := decide_eq_true c6
            clear c6
            by_cases c7 : x3_1.length + (rd_L1 l0 x9_1).length < 140737488355328
            · rw [if_pos c7] at H
              have LMc7 := Aside0.mk c7
              clear c7
              obtain ⟨y117, hy117⟩ : ∃ y_ : List Int, y_ = (x3_1 ++ (rd_L1 l0 x9_1)) := ⟨_, rfl⟩
              replace H : (spec_Join.l0 k1 y117 l0 (l0.length : Int) (wrap64 (x9_1 + 1))) = some r := by first | (rw [hy117]; with_reducible exact H) | (have H2_ := (Option.bind_some _ _).symm.trans H; rw [hy117]; with_reducible exact H2_) | (have H2_ := (Option.bind_some _ _).symm.trans H; with_reducible exact H2_) | with_reducible exact H | (rw [hy117]; exact H) | exact H
              have Ny117 := Aside0.mk hy117
              clear hy117
              have H' := Aside0.mk H
              clear H
              have p116 : 0 ≤ (x9_1 : Int) := of_decide_eq_true (by first | (with_reducible assumption) | assumption)
              have q116 : x9_1 < (l0.length : Int) := of_decide_eq_true (by first | (with_reducible assumption) | assumption)
              obtain ⟨ad116, A116_0, c116_0, e116, hx116_0, hl116_0, hi116_0⟩ := at_L1 HR0.out x9_1 p116 q116
              cases e116
              replace hx116_0 := (HB.out.cell (World.block_lt_of_cell? w _ hx116_0)).trans hx116_0
              have HR116_0 := Aside0.mk hi116_0
              have HC116_0 := Aside0.mk hl116_0
              clear hi116_0 hl116_0
              replace p116 := eq_true p116
              replace q116 := eq_true q116
              go_wp2_with (first | ((with_reducible refine gate_builtin (b := .append) (xs := #[.tmp 13, .tmp 14]) rfl ?_); at_builtin; refine Kd.R_append_rows (Kd.int .u8) (w0 := w) w.heap.size rfl (.tmp 13) (.tmp 14) 24 5 (.int .u8 0) 1 rfl Try.underlying24 info5 rfl (by decide) (by omega) u3 x3_1 (rd_L1 l0 x9_1) _ _ _ (fun _ => True) (fun _ => False) rfl rfl ?aO ?aR (fun _ _ h => h) (fun _ h => h.elim) ?aF ?aB ?aS ?aL ?_; (case aR => repeat (first | exact (Kd.C_below HR116_0.out HB.out) | (with_reducible refine Kd.C_alloc ?_ _) | (with_reducible refine Kd.C_drewN ?_ _) | (with_reducible refine Kd.C_drew ?_))); (case aB => exact (by repeat (first | (with_reducible first | exact HB.out | apply below_alloc | apply pw_below_drewN | apply below_drew1) | exact HB.out))); (case aF => exact (fun _ _ => trivial)); (case aO => exact (by (with_reducible repeat (first | apply Kd.R_alloc | apply Kd.R_drewN | apply Kd.R_drew)); exact HO_3.out)); (case aS => exact (below_size (by repeat (first | (with_reducible first | exact HB.out | apply below_alloc | apply pw_below_drewN | apply below_drew1) | exact HB.out)))); (case aL => have := LMc7.out; omega); intro v118 w8 ho hb hg hat; rw [← Ny117.out] at ho; have n0_ := Aside0.mk (hb); have n1_ := Aside0.mk (ho); clear HB; clear HO_3; have HB := n0_; have HO119 := n1_; clear n0_ n1_; clear ho hb hg hat))
              go_roundg k1
              case measure => have := HK1.out; omega
              case rel => exact ⟨(y117), (wrap64 (x9_1 + 1)), (by first | rfl | (simp; done) | (simp [*]; done)), H', ⟨by have := HK1.out; omega⟩, ⟨by (with_reducible repeat (first | apply Kd.R_alloc | apply Kd.R_drewN | apply Kd.R_drew)); exact HO119.out⟩, ⟨by repeat (first | (with_reducible first | exact HB.out | apply below_alloc | apply pw_below_drewN | apply below_drew1) | exact HB.out)⟩⟩
            · rw [if_neg c7] at H
              exact absurd H (by simp)
          · rw [if_neg c6] at H
            exact absurd H (by simp)
        · rw [if_neg c5] at H
          exact absurd H (by simp)
      · rw [if_neg c4] at H
        have c4b0 : decide (x9_1 < (l0.length : Int)) = false := decide_eq_false c4
        clear c4
        obtain rfl := Option.some.inj H
        go_wp2
        go_ret
        exact ⟨_, by first | rfl | (simp [errW_none, errW_some] <;> rfl) | (simp [*, errW_none, errW_some] <;> rfl), by (with_reducible repeat (first | apply Kd.R_alloc | apply Kd.R_drewN | apply Kd.R_drew)); exact HO_3.out, by repeat (first | (with_reducible first | exact HB.out | apply below_alloc | apply pw_below_drewN | apply below_drew1) | exact HB.out)⟩

/-! ### spec_size: function 46 -/
def spec_size.f (a0 : Int) : Option (Int) := if a0 < 0 then (some (IntKind.u64.wrap ((IntKind.u64.wrap (wrap64 (-(wrap64 (a0 + 1))))) + 1))) else (some (IntKind.u64.wrap (a0)))
set_option maxHeartbeats 8000000 in
set_option maxRecDepth 100000 in
theorem spec_size.calls (a0 : Int) (r : Int) (w : World) (h : spec_size.f a0 = some r) :
    Calls Try.prog 46 #[.int .i64 a0] w fun e w' => e = .returned (.int .u64 r) ∧ Drawn0 w w' := by
  have H : (if a0 < 0 then (some (IntKind.u64.wrap ((IntKind.u64.wrap (wrap64 (-(wrap64 (a0 + 1))))) + 1))) else (some (IntKind.u64.wrap (a0)))) = some r := h
  clear h
  by_cases c2 : a0 < 0
  · rw [if_pos c2] at H
    have c2b0 : decide (a0 < 0) = true := decide_eq_true c2
    clear c2
    obtain rfl := Option.some.inj H
    go_enter Try.func46, Try.ntmps46
    go_wp2
    go_ret
    exact ⟨by first | rfl | (simp; done) | (simp [*]; done), by repeat (first | exact Drawn0.refl _ | apply Drawn0.step)⟩
  · rw [if_neg c2] at H
    have c2b0 : decide (a0 < 0) = false := decide_eq_false c2
    clear c2
    obtain rfl := Option.some.inj H
    go_enter Try.func46, Try.ntmps46
    go_wp2
    go_ret
    exact ⟨by first | rfl | (simp; done) | (simp [*]; done), by repeat (first | exact Drawn0.refl _ | apply Drawn0.step)⟩

/-! ### spec_IntText: function 18 -/
def spec_IntText.f (k : Nat) (a0 : Int) : Option (List Int) := if a0 < 0 then ((spec_size.f a0).bind fun t123 => ((spec_Digits.f k t123).bind fun t124 => ((spec_Join.f k (([(([45] : List Int)), t124] : List (List Int)))).bind fun t130 => (some t130)))) else ((spec_size.f a0).bind fun t133 => ((spec_Digits.f k t133).bind fun t134 => (some t134)))
theorem spec_IntText.mono : ∀ a0 k, LeO (spec_IntText.f k a0) (spec_IntText.f (k + 1) a0) := by
  intro a0 k
  unfold spec_IntText.f
  repeat' first
      | (with_reducible exact spec_Digits.mono _ _)
      | (with_reducible exact spec_Join.mono _ _)
      | (with_reducible exact LeO.refl _)
      | (with_reducible exact LeO.none _)
      | (with_reducible refine LeO.ite ?_ ?_)
      | (with_reducible refine LeO.bind ?_ (fun _ => ?_))
      | exact spec_Digits.mono _ _
      | exact spec_Join.mono _ _
      | exact LeO.none _
      | refine LeO.ite ?_ ?_
      | refine LeO.bind ?_ (fun _ => ?_)
set_option maxHeartbeats 8000000 in
set_option maxRecDepth 100000 in
theorem spec_IntText.calls (k : Nat) (a0 : Int) (r : List Int) (w : World) (h : spec_IntText.f k a0 = some r) :
    Calls Try.prog 18 #[.int .i64 a0] w fun e w' => ∃ v0_ : Value, e = .returned (v0_) ∧ Kd.R (Kd.int .u8) 5 w' w.heap.size (fun _ => True) v0_ r ∧ Below w.heap.size w w' := by
  have HB := Aside0.mk (Below.refl w.heap.size w)
  have H : (if a0 < 0 then ((spec_size.f a0).bind fun t123 => ((spec_Digits.f k t123).bind fun t124 => ((spec_Join.f k (([(([45] : List Int)), t124] : List (List Int)))).bind fun t130 => (some t130)))) else ((spec_size.f a0).bind fun t133 => ((spec_Digits.f k t133).bind fun t134 => (some t134)))) = some r := h
  clear h
  by_cases c2 : a0 < 0
  · rw [if_pos c2] at H
    have c2b0 : decide (a0 < 0) = true := decide_eq_true c2
    clear c2
    obtain ⟨y120, hy120⟩ : ∃ y_ : List Int, y_ = (([45] : List Int)) := ⟨_, rfl⟩
    replace H : ((spec_size.f a0).bind fun t123 => ((spec_Digits.f k t123).bind fun t124 => ((spec_Join.f k (([y120, t124] : List (List Int)))).bind fun t130 => (some t130)))) = some r := by first | (rw [hy120]; with_reducible exact H) | (have H2_ := (Option.bind_some _ _).symm.trans H; rw [hy120]; with_reducible exact H2_) | (have H2_ := (Option.bind_some _ _).symm.trans H; with_reducible exact H2_) | with_reducible exact H | (rw [hy120]; exact H) | exact H
    have Ny120 := Aside0.mk hy120
    clear hy120
    replace H := Option.bind_eq_some_iff.mp H
    obtain ⟨t123, A30, H⟩ := H
    replace H : ((spec_Digits.f k t123).bind fun t124 => ((spec_Join.f k (([y120, t124] : List (List Int)))).bind fun t130 => (some t130))) = some r := H
    have A3 := Aside0.mk A30
    clear A30
    replace H := Option.bind_eq_some_iff.mp H
    obtain ⟨t124, A40, H⟩ := H
    replace H : ((spec_Join.f k (([y120, t124] : List (List Int)))).bind fun t130 => (some t130)) = some r := H
    have A4 := Aside0.mk A40
    clear A40
    obtain ⟨y127, hy127⟩ : ∃ y_ : List (List Int), y_ = (([y120, t124] : List (List Int))) := ⟨_, rfl⟩
    replace H : ((spec_Join.f k y127).bind fun t130 => (some t130)) = some r := by first | (rw [hy127]; with_reducible exact H) | (have H2_ := (Option.bind_some _ _).symm.trans H; rw [hy127]; with_reducible exact H2_) | (have H2_ := (Option.bind_some _ _).symm.trans H; with_reducible exact H2_) | with_reducible exact H | (rw [hy127]; exact H) | exact H
    have Ny127 := Aside0.mk hy127
    clear hy127
    replace H := Option.bind_eq_some_iff.mp H
    obtain ⟨t130, A50, H⟩ := H
    replace H : (some t130) = some r := H
    have A5 := Aside0.mk A50
    clear A50
    obtain rfl := Option.some.inj H
    go_enter Try.func18, Try.ntmps18
    go_wp2_with (first | ((with_reducible refine gate_dst (N := 5) rfl ?_); refine Kd.R_lit (Kd.int .u8) _ 5 ?hg (N := 5) ?hd (xs := ([45] : List Int)) (inner := [.int .u8 45]) (ok := fun _ => True) (okp := fun _ => True) ?hr ?hp (fun _ hk => hk) trivial (Below.refl _ _) (Nat.le_refl _) (by simp) ?_; (case hd => rfl); (case hg => rfl); (case hr => first | (go_simp; done) | (go_simp; rfl)); (case hp => exact (Reps.one (show Kd.M (Kd.int .u8) _ _ _ 45 [.int .u8 45] from rfl) (Reps.none _ _))); intro v121 w6 ho7 hb hg_ hnew_; clear hg_ hnew_; (first | rw [← Ny120.out] at ho7 | (simp only [Int.reduceToNat] at ho7; rw [← Ny120.out] at ho7)); have n0_ := Aside0.mk (Kd.R_lower ho7 (below_size (by repeat (first | (with_reducible first | exact HB.out | apply below_alloc | apply pw_below_drewN | apply below_drew1) | exact HB.out)))); have n1_ := Aside0.mk (below_step (by repeat (first | (with_reducible first | exact HB.out | apply below_alloc | apply pw_below_drewN | apply below_drew1) | exact HB.out)) hb); clear HB; have HO122 := n0_; have HB := n1_; clear n0_ n1_; clear hb ho7) | ((with_reducible refine gate_callee (f := 46) rfl ?_); refine goesL_ (some 7) rfl rfl Try.func46 (by kernel_rfl) rfl #[.int .i64 a0] rfl (by (try simp only [List.map_toArray, List.map_cons, List.map_nil]); first | done | rfl | (simp only [List.length_drop, List.length_take]; rfl)) ?_; (with_reducible refine (spec_size.calls a0 t123 _ A3.out).mono ?_); rintro e w' ⟨rfl, ⟨nd, rfl⟩⟩; refine ⟨_, rfl, ?_⟩) | ((with_reducible refine gate_callee (f := 16) rfl ?_); refine goesL_ (some 8) rfl rfl Try.func16 (by kernel_rfl) rfl #[.int .u64 t123] rfl (by (try simp only [List.map_toArray, List.map_cons, List.map_nil]); first | done | rfl | (simp only [List.length_drop, List.length_take]; rfl)) ?_; (with_reducible refine (spec_Digits.calls k t123 t124 _ A4.out).mono ?_); rintro e w8 ⟨v125, rfl, ho0, hb⟩; refine ⟨_, rfl, ?_⟩; have n0_ := Aside0.mk (Kd.R_elder' (by (with_reducible repeat (first | apply Kd.R_alloc | apply Kd.R_drewN | apply Kd.R_drew)); exact HO122.out) (Kd.R_base ho0) hb); have n1_ := Aside0.mk (Kd.R_lower (Kd.R_new' ho0 (Kd.R_lt (by (with_reducible repeat (first | apply Kd.R_alloc | apply Kd.R_drewN | apply Kd.R_drew)); exact HO122.out))) (below_size (by repeat (first | (with_reducible first | exact HB.out | apply below_alloc | apply pw_below_drewN | apply below_drew1) | exact HB.out)))); have n2_ := Aside0.mk (below_step (by repeat (first | (with_reducible first | exact HB.out | apply below_alloc | apply pw_below_drewN | apply below_drew1) | exact HB.out)) hb); clear HO122; clear HB; have HO122 := n0_; have HO126 := n1_; have HB := n2_; clear n0_ n1_ n2_; (try clear hb); (try clear hb2); (try clear hk); (try clear hi); (try clear ho0); obtain ⟨Ao9, co9, eo9⟩ := Kd.R_slice HO122.out; subst eo9; obtain ⟨Ao10, co10, eo10⟩ := Kd.R_slice HO126.out; subst eo10) | ((with_reducible refine gate_dst (N := 9) rfl ?_); refine Kd.N_lit (Kd.slice 5 (Kd.int .u8)) _ 24 ?hg (N' := 9) ?hd (xs := ([y120, t124] : List (List Int))) (inner := [.slice Ao9 y120.length co9, .slice Ao10 t124.length co10]) (ok := (fun _ => True)) (okp := (fun _ => True)) ?hr ?hp (fun _ hk => hk) ((show ∀ k_, w8.heap.size ≤ k_ → (fun _ => True) k_ from fun k_ hk => trivial) _ (Nat.le_refl _)) (Below.refl _ _) (Nat.le_refl _) (by simp) ?_; (case hd => rfl); (case hg => rfl); (case hr => first | (go_simp; done) | (go_simp; rfl)); (case hp => first | exact (Reps.one (show Kd.FK (Kd.slice 5 (Kd.int .u8)) _ _ y120 [.slice Ao9 y120.length co9] from (Kd.FK_slice_mk (Kd.R_reads' (Kd.R_mono (ok' := (fun _ => True)) (HO122.out) (fun k_ hk => trivial))).2.1 (Kd.R_F (Kd.R_mono (ok' := (fun _ => True)) (HO122.out) (fun k_ hk => trivial))))) (Reps.one (show Kd.FK (Kd.slice 5 (Kd.int .u8)) _ _ t124 [.slice Ao10 t124.length co10] from (Kd.FK_slice_mk (Kd.R_reads' (Kd.R_mono (ok' := (fun _ => True)) (HO126.out) (fun k_ hk => trivial))).2.1 (Kd.R_F (Kd.R_mono (ok' := (fun _ => True)) (HO126.out) (fun k_ hk => trivial))))) (Reps.none _ _))) | exact (Reps.one (show Kd.FK (Kd.slice 5 (Kd.int .u8)) _ _ y120 [.slice Ao9 y120.length co9] from (Kd.FK_slice_mk (Kd.R_reads' (Kd.R_mono (ok' := (fun _ => True)) (HO122.out) (fun k_ hk => trivial))).2.1 (Kd.R_F (Kd.R_mono (ok' := (fun _ => True)) ((Kd.R_drewN HO122.out _)) (fun k_ hk => trivial))))) (Reps.one (show Kd.FK (Kd.slice 5 (Kd.int .u8)) _ _ t124 [.slice Ao10 t124.length co10] from (Kd.FK_slice_mk (Kd.R_reads' (Kd.R_mono (ok' := (fun _ => True)) (HO126.out) (fun k_ hk => trivial))).2.1 (Kd.R_F (Kd.R_mono (ok' := (fun _ => True)) ((Kd.R_drewN HO126.out _)) (fun k_ hk => trivial))))) (Reps.none _ _))) | exact (Reps.one (show Kd.FK (Kd.slice 5 (Kd.int .u8)) _ _ y120 [.slice Ao9 y120.length co9] from (Kd.FK_slice_mk (Kd.R_reads' (Kd.R_mono (ok' := (fun _ => True)) (HO122.out) (fun k_ hk => trivial))).2.1 (Kd.R_F (Kd.R_mono (ok' := (fun _ => True)) ((Kd.R_alloc HO122.out _)) (fun k_ hk => trivial))))) (Reps.one (show Kd.FK (Kd.slice 5 (Kd.int .u8)) _ _ t124 [.slice Ao10 t124.length co10] from (Kd.FK_slice_mk (Kd.R_reads' (Kd.R_mono (ok' := (fun _ => True)) (HO126.out) (fun k_ hk => trivial))).2.1 (Kd.R_F (Kd.R_mono (ok' := (fun _ => True)) ((Kd.R_alloc HO126.out _)) (fun k_ hk => trivial))))) (Reps.none _ _))) | exact (Reps.one (show Kd.FK (Kd.slice 5 (Kd.int .u8)) _ _ y120 [.slice Ao9 y120.length co9] from (Kd.FK_slice_mk (Kd.R_reads' (Kd.R_mono (ok' := (fun _ => True)) (HO122.out) (fun k_ hk => trivial))).2.1 (Kd.R_F (Kd.R_mono (ok' := (fun _ => True)) ((by (with_reducible repeat (first | apply Kd.R_alloc | apply Kd.R_drewN | apply Kd.R_drew)); exact HO122.out)) (fun k_ hk => trivial))))) (Reps.one (show Kd.FK (Kd.slice 5 (Kd.int .u8)) _ _ t124 [.slice Ao10 t124.length co10] from (Kd.FK_slice_mk (Kd.R_reads' (Kd.R_mono (ok' := (fun _ => True)) (HO126.out) (fun k_ hk => trivial))).2.1 (Kd.R_F (Kd.R_mono (ok' := (fun _ => True)) ((by (with_reducible repeat (first | apply Kd.R_alloc | apply Kd.R_drewN | apply Kd.R_drew)); exact HO126.out)) (fun k_ hk => trivial))))) (Reps.none _ _)))); intro v128 w11 ho12 hb hg_ hnew_; clear hg_ hnew_; (first | rw [← Ny127.out] at ho12 | (simp only [Int.reduceToNat] at ho12; rw [← Ny127.out] at ho12)); have n0_ := Aside0.mk (Kd.R_below (by (with_reducible repeat (first | apply Kd.R_alloc | apply Kd.R_drewN | apply Kd.R_drew)); exact HO122.out) hb); have n1_ := Aside0.mk (Kd.R_below (by (with_reducible repeat (first | apply Kd.R_alloc | apply Kd.R_drewN | apply Kd.R_drew)); exact HO126.out) hb); have n2_ := Aside0.mk (Kd.N_lower ho12 (below_size (by repeat (first | (with_reducible first | exact HB.out | apply below_alloc | apply pw_below_drewN | apply below_drew1) | exact HB.out)))); have n3_ := Aside0.mk (below_step (by repeat (first | (with_reducible first | exact HB.out | apply below_alloc | apply pw_below_drewN | apply below_drew1) | exact HB.out)) hb); clear HO122; clear HO126; clear HB; have HO122 := n0_; have HO126 := n1_; have HO129 := n2_; have HB := n3_; clear n0_ n1_ n2_ n3_; clear hb ho12; obtain ⟨Ao13, co13, eo13⟩ := Kd.N_slice HO129.out; subst eo13) | ((with_reducible refine gate_callee (f := 29) rfl ?_); refine goesL_ (some 10) rfl rfl Try.func29 (by kernel_rfl) rfl #[.slice Ao13 y127.length co13] rfl (by (try simp only [List.map_toArray, List.map_cons, List.map_nil]); first | done | rfl | (simp only [List.length_drop, List.length_take]; rfl)) ?_; (with_reducible refine (spec_Join.calls k _ _ y127 t130 _ ?side1 ?side2 A5.out).mono ?_); (case side1 => repeat (first | exact (Kd.N_reads' HO129.out).2.2 | (with_reducible refine Kd.C_alloc ?_ _) | (with_reducible refine Kd.C_drewN ?_ _) | (with_reducible refine Kd.C_drew ?_))); (case side2 => exact (Kd.N_reads' HO129.out).2.1); rintro e w14 ⟨v131, rfl, ho0, hb⟩; refine ⟨_, rfl, ?_⟩; have n0_ := Aside0.mk (Kd.R_elder' (by (with_reducible repeat (first | apply Kd.R_alloc | apply Kd.R_drewN | apply Kd.R_drew)); exact HO122.out) (Kd.R_base ho0) hb); have n1_ := Aside0.mk (Kd.R_elder' (by (with_reducible repeat (first | apply Kd.R_alloc | apply Kd.R_drewN | apply Kd.R_drew)); exact HO126.out) (Kd.R_base ho0) hb); have n2_ := Aside0.mk (Kd.N_elder' (by (with_reducible repeat (first | apply Kd.N_alloc | apply Kd.N_drewN | apply Kd.N_drew)); exact HO129.out) (Kd.R_base ho0) hb); have n3_ := Aside0.mk (Kd.R_lower (Kd.R_new' (Kd.R_new' ho0 (Kd.R_lt (by (with_reducible repeat (first | apply Kd.R_alloc | apply Kd.R_drewN | apply Kd.R_drew)); exact HO122.out))) (Kd.R_lt (by (with_reducible repeat (first | apply Kd.R_alloc | apply Kd.R_drewN | apply Kd.R_drew)); exact HO126.out))) (below_size (by repeat (first | (with_reducible first | exact HB.out | apply below_alloc | apply pw_below_drewN | apply below_drew1) | exact HB.out)))); have n4_ := Aside0.mk (below_step (by repeat (first | (with_reducible first | exact HB.out | apply below_alloc | apply pw_below_drewN | apply below_drew1) | exact HB.out)) hb); clear HO122; clear HO126; clear HO129; clear HB; have HO122 := n0_; have HO126 := n1_; have HO129 := n2_; have HO132 := n3_; have HB := n4_; clear n0_ n1_ n2_ n3_ n4_; (try clear hb); (try clear hb2); (try clear hk); (try clear hi); (try clear ho0)))
    go_ret
    exact ⟨_, by first | rfl | (simp [errW_none, errW_some] <;> rfl) | (simp [*, errW_none, errW_some] <;> rfl), by (with_reducible repeat (first | apply Kd.R_alloc | apply Kd.R_drewN | apply Kd.R_drew)); exact Kd.R_mono HO132.out (fun _ hk => trivial), by repeat (first | (with_reducible first | exact HB.out | apply below_alloc | apply pw_below_drewN | apply below_drew1) | exact HB.out)⟩
  · rw [if_neg c2] at H
    have c2b0 : decide (a0 < 0) = false := decide_eq_false c2
    clear c2
    replace H := Option.bind_eq_some_iff.mp H
    obtain ⟨t133, A150, H⟩ := H
    replace H : ((spec_Digits.f k t133).bind fun t134 => (some t134)) = some r := H
    have A15 := Aside0.mk A150
    clear A150
    replace H := Option.bind_eq_some_iff.mp H
    obtain ⟨t134, A160, H⟩ := H
    replace H : (some t134) = some r := H
    have A16 := Aside0.mk A160
    clear A160
    obtain rfl := Option.some.inj H
    go_enter Try.func18, Try.ntmps18
    go_wp2_with (first | ((with_reducible refine gate_callee (f := 46) rfl ?_); refine goesL_ (some 12) rfl rfl Try.func46 (by kernel_rfl) rfl #[.int .i64 a0] rfl (by (try simp only [List.map_toArray, List.map_cons, List.map_nil]); first | done | rfl | (simp only [List.length_drop, List.length_take]; rfl)) ?_; (with_reducible refine (spec_size.calls a0 t133 _ A15.out).mono ?_); rintro e w' ⟨rfl, ⟨nd, rfl⟩⟩; refine ⟨_, rfl, ?_⟩) | ((with_reducible refine gate_callee (f := 16) rfl ?_); refine goesL_ (some 13) rfl rfl Try.func16 (by kernel_rfl) rfl #[.int .u64 t133] rfl (by (try simp only [List.map_toArray, List.map_cons, List.map_nil]); first | done | rfl | (simp only [List.length_drop, List.length_take]; rfl)) ?_; (with_reducible refine (spec_Digits.calls k t133 t134 _ A16.out).mono ?_); rintro e w17 ⟨v135, rfl, ho0, hb⟩; refine ⟨_, rfl, ?_⟩; have n0_ := Aside0.mk (Kd.R_lower ho0 (below_size (by repeat (first | (with_reducible first | exact HB.out | apply below_alloc | apply pw_below_drewN | apply below_drew1) | exact HB.out)))); have n1_ := Aside0.mk (below_step (by repeat (first | (with_reducible first | exact HB.out | apply below_alloc | apply pw_below_drewN | apply below_drew1) | exact HB.out)) hb); clear HB; have HO136 := n0_; have HB := n1_; clear n0_ n1_; (try clear hb); (try clear hb2); (try clear hk); (try clear hi); (try clear ho0)))
    go_ret
    exact ⟨_, by first | rfl | (simp [errW_none, errW_some] <;> rfl) | (simp [*, errW_none, errW_some] <;> rfl), by (with_reducible repeat (first | apply Kd.R_alloc | apply Kd.R_drewN | apply Kd.R_drew)); exact HO136.out, by repeat (first | (with_reducible first | exact HB.out | apply below_alloc | apply pw_below_drewN | apply below_drew1) | exact HB.out)⟩

/-! ### laws_FnNumberSize: function 4 -/
def laws_FnNumberSize.f (k : Nat) (a0 : Int) : Option (Bool) := (impl_LengthOfInt.f a0).bind fun t137 => ((spec_IntText.f k a0).bind fun t138 => (some (t137 == (t138.length : Int))))
theorem laws_FnNumberSize.mono : ∀ a0 k, LeO (laws_FnNumberSize.f k a0) (laws_FnNumberSize.f (k + 1) a0) := by
  intro a0 k
  unfold laws_FnNumberSize.f
  repeat' first
      | (with_reducible exact spec_IntText.mono _ _)
      | (with_reducible exact LeO.refl _)
      | (with_reducible exact LeO.none _)
      | (with_reducible refine LeO.ite ?_ ?_)
      | (with_reducible refine LeO.bind ?_ (fun _ => ?_))
      | exact spec_IntText.mono _ _
      | exact LeO.none _
      | refine LeO.ite ?_ ?_
      | refine LeO.bind ?_ (fun _ => ?_)
set_option maxHeartbeats 8000000 in
set_option maxRecDepth 100000 in
theorem laws_FnNumberSize.calls (k : Nat) (a0 : Int) (r : Bool) (w : World) (h : laws_FnNumberSize.f k a0 = some r) :
    Calls Try.prog 4 #[.int .i64 a0] w fun e w' => e = .returned (.bool r) ∧ Below w.heap.size w w' := by
  have HB := Aside0.mk (Below.refl w.heap.size w)
  have H : ((impl_LengthOfInt.f a0).bind fun t137 => ((spec_IntText.f k a0).bind fun t138 => (some (t137 == (t138.length : Int))))) = some r := h
  clear h
  replace H := Option.bind_eq_some_iff.mp H
  obtain ⟨t137, A20, H⟩ := H
  replace H : ((spec_IntText.f k a0).bind fun t138 => (some (t137 == (t138.length : Int)))) = some r := H
  have A2 := Aside0.mk A20
  clear A20
  replace H := Option.bind_eq_some_iff.mp H
  obtain ⟨t138, A30, H⟩ := H
  replace H : (some (t137 == (t138.length : Int))) = some r := H
  have A3 := Aside0.mk A30
  clear A30
  obtain rfl := Option.some.inj H
  go_enter Try.func4, Try.ntmps4
  go_wp2_with (first | ((with_reducible refine gate_callee (f := 17) rfl ?_); refine goesL_ (some 4) rfl rfl Try.func17 (by kernel_rfl) rfl #[.int .i64 a0] rfl (by (try simp only [List.map_toArray, List.map_cons, List.map_nil]); first | done | rfl | (simp only [List.length_drop, List.length_take]; rfl)) ?_; (with_reducible refine (impl_LengthOfInt.calls a0 t137 _ A2.out).mono ?_); rintro e w' ⟨rfl, ⟨nd, rfl⟩⟩; refine ⟨_, rfl, ?_⟩) | ((with_reducible refine gate_callee (f := 18) rfl ?_); refine goesL_ (some 6) rfl rfl Try.func18 (by kernel_rfl) rfl #[.int .i64 a0] rfl (by (try simp only [List.map_toArray, List.map_cons, List.map_nil]); first | done | rfl | (simp only [List.length_drop, List.length_take]; rfl)) ?_; (with_reducible refine (spec_IntText.calls k a0 t138 _ A3.out).mono ?_); rintro e w4 ⟨v139, rfl, ho0, hb⟩; refine ⟨_, rfl, ?_⟩; have n0_ := Aside0.mk (Kd.R_lower ho0 (below_size (by repeat (first | (with_reducible first | exact HB.out | apply below_alloc | apply pw_below_drewN | apply below_drew1) | exact HB.out)))); have n1_ := Aside0.mk (below_step (by repeat (first | (with_reducible first | exact HB.out | apply below_alloc | apply pw_below_drewN | apply below_drew1) | exact HB.out)) hb); clear HB; have HO140 := n0_; have HB := n1_; clear n0_ n1_; (try clear hb); (try clear hb2); (try clear hk); (try clear hi); (try clear ho0); obtain ⟨Ao5, co5, eo5⟩ := Kd.R_slice HO140.out; subst eo5))
  go_ret
  exact ⟨by first | rfl | (simp [errW_none, errW_some] <;> rfl) | (simp [*, errW_none, errW_some] <;> rfl), by repeat (first | (with_reducible first | exact HB.out | apply below_alloc | apply pw_below_drewN | apply below_drew1) | exact HB.out)⟩

/-- THE ONE PURE STATEMENT of laws_FnNumberSize: yours. -/
def laws_FnNumberSize.Pure : Prop := ∀ (a0 : Int), (Lit.int .i64 a0).wf = true → ∃ k, laws_FnNumberSize.f k a0 = some true
theorem laws_FnNumberSize.walk (P : laws_FnNumberSize.Pure) (a0 : Int) (w : World) (w0 : (Lit.int .i64 a0).wf = true) :
    Calls Try.prog 4 #[.int .i64 a0] w fun e w' => e = .returned (.bool true) ∧ Below w.heap.size w w' := by
  obtain ⟨k, h⟩ := P a0 w0
  refine (laws_FnNumberSize.calls k a0 true w h).mono ?_
  rintro e w' ⟨rfl, hd⟩
  exact ⟨rfl, hd⟩

end Go.Proofs.Yteklgpjdcdkdpaa.PFnNumberSize
