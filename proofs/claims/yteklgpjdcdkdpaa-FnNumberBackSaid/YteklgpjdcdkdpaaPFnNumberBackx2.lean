-- Laid by a program of this session, out of the translation's print.
import Derived.Test.YteklgpjdcdkdpaaPFnNumberBackx0
import Derived.Test.YteklgpjdcdkdpaaPFnNumberBackx1
namespace Go.Proofs.Yteklgpjdcdkdpaa.PFnNumberBack
open Go.Proofs.Yteklgpjdcdkdpaa.Own
open Go.RowKit Go.Proofs.YteklgpjdcdkdpaaW.PrintWords Go.Proofs.YteklgpjdcdkdpaaW.PrintLast Go.Proofs.YteklgpjdcdkdpaaW.PrintMore
attribute [local go_sem] max2_int min2_int max_two min_two max_three min_three max_four min_four   -- for this text's walks alone
set_option linter.unusedVariables false
set_option linter.unusedSimpArgs false

/-! ### tdstrconv_LenUint: function 44 -/
def tdstrconv_LenUint.f (a0 : Int) : Option (Int) := if a0 < 10 then (some 1) else (if a0 < 100 then (some 2) else (if a0 < 1000 then (some 3) else (if a0 < 10000 then (some 4) else (if a0 < 100000 then (some 5) else (if a0 < 1000000 then (some 6) else (if a0 < 10000000 then (some 7) else (if a0 < 100000000 then (some 8) else (if a0 < 1000000000 then (some 9) else (if a0 < 10000000000 then (some 10) else (if a0 < 100000000000 then (some 11) else (if a0 < 1000000000000 then (some 12) else (if a0 < 10000000000000 then (some 13) else (if a0 < 100000000000000 then (some 14) else (if a0 < 1000000000000000 then (some 15) else (if a0 < 10000000000000000 then (some 16) else (if a0 < 100000000000000000 then (some 17) else (if a0 < 1000000000000000000 then (some 18) else (if a0 < 10000000000000000000 then (some 19) else (some 20)))))))))))))))))))
set_option maxHeartbeats 8000000 in
set_option maxRecDepth 100000 in
theorem tdstrconv_LenUint.calls (a0 : Int) (r : Int) (w : World) (h : tdstrconv_LenUint.f a0 = some r) :
    Calls Try.prog 44 #[.int .u64 a0] w fun e w' => e = .returned (.int .i64 r) ∧ Drawn0 w w' := by
  have H : (if a0 < 10 then (some 1) else (if a0 < 100 then (some 2) else (if a0 < 1000 then (some 3) else (if a0 < 10000 then (some 4) else (if a0 < 100000 then (some 5) else (if a0 < 1000000 then (some 6) else (if a0 < 10000000 then (some 7) else (if a0 < 100000000 then (some 8) else (if a0 < 1000000000 then (some 9) else (if a0 < 10000000000 then (some 10) else (if a0 < 100000000000 then (some 11) else (if a0 < 1000000000000 then (some 12) else (if a0 < 10000000000000 then (some 13) else (if a0 < 100000000000000 then (some 14) else (if a0 < 1000000000000000 then (some 15) else (if a0 < 10000000000000000 then (some 16) else (if a0 < 100000000000000000 then (some 17) else (if a0 < 1000000000000000000 then (some 18) else (if a0 < 10000000000000000000 then (some 19) else (some 20)))))))))))))))))))) = some r := h
  clear h
  by_cases c2 : a0 < 10
  · rw [if_pos c2] at H
    have c2b0 : decide (a0 < 10) = true := decide_eq_true c2
    clear c2
    obtain rfl := Option.some.inj H
    go_enter Try.func44, Try.ntmps44
    go_wp2
    go_ret
    exact ⟨by first | rfl | (simp; done) | (simp [*]; done), by repeat (first | exact Drawn0.refl _ | apply Drawn0.step)⟩
  · rw [if_neg c2] at H
    have c2b0 : decide (a0 < 10) = false := decide_eq_false c2
    clear c2
    by_cases c3 : a0 < 100
    · rw [if_pos c3] at H
      have c3b0 : decide (a0 < 100) = true := decide_eq_true c3
      clear c3
      obtain rfl := Option.some.inj H
      go_enter Try.func44, Try.ntmps44
      go_wp2
      go_ret
      exact ⟨by first | rfl | (simp; done) | (simp [*]; done), by repeat (first | exact Drawn0.refl _ | apply Drawn0.step)⟩
    · rw [if_neg c3] at H
      have c3b0 : decide (a0 < 100) = false := decide_eq_false c3
      clear c3
      by_cases c4 : a0 < 1000
      · rw [if_pos c4] at H
        have c4b0 : decide (a0 < 1000) = true := decide_eq_true c4
        clear c4
        obtain rfl := Option.some.inj H
        go_enter Try.func44, Try.ntmps44
        go_wp2
        go_ret
        exact ⟨by first | rfl | (simp; done) | (simp [*]; done), by repeat (first | exact Drawn0.refl _ | apply Drawn0.step)⟩
      · rw [if_neg c4] at H
        have c4b0 : decide (a0 < 1000) = false := decide_eq_false c4
        clear c4
        by_cases c5 : a0 < 10000
        · rw [if_pos c5] at H
          have c5b0 : decide (a0 < 10000) = true := decide_eq_true c5
          clear c5
          obtain rfl := Option.some.inj H
          go_enter Try.func44, Try.ntmps44
          go_wp2
          go_ret
          exact ⟨by first | rfl | (simp; done) | (simp [*]; done), by repeat (first | exact Drawn0.refl _ | apply Drawn0.step)⟩
        · rw [if_neg c5] at H
          have c5b0 : decide (a0 < 10000) = false := decide_eq_false c5
          clear c5
          by_cases c6 : a0 < 100000
          · rw [if_pos c6] at H
            have c6b0 : decide (a0 < 100000) = true := decide_eq_true c6
            clear c6
            obtain rfl := Option.some.inj H
            go_enter Try.func44, Try.ntmps44
            go_wp2
            go_ret
            exact ⟨by first | rfl | (simp; done) | (simp [*]; done), by repeat (first | exact Drawn0.refl _ | apply Drawn0.step)⟩
          · rw [if_neg c6] at H
            have c6b0 : decide (a0 < 100000) = false := decide_eq_false c6
            clear c6
            by_cases c7 : a0 < 1000000
            · rw [if_pos c7] at H
              have c7b0 : decide (a0 < 1000000) = true := decide_eq_true c7
              clear c7
              obtain rfl := Option.some.inj H
              go_enter Try.func44, Try.ntmps44
              go_wp2
              go_ret
              exact ⟨by first | rfl | (simp; done) | (simp [*]; done), by repeat (first | exact Drawn0.refl _ | apply Drawn0.step)⟩
            · rw [if_neg c7] at H
              have c7b0 : decide (a0 < 1000000) = false := decide_eq_false c7
              clear c7
              by_cases c8 : a0 < 10000000
              · rw [if_pos c8] at H
                have c8b0 : decide (a0 < 10000000) = true := decide_eq_true c8
                clear c8
                obtain rfl := Option.some.inj H
                go_enter Try.func44, Try.ntmps44
                go_wp2
                go_ret
                exact ⟨by first | rfl | (simp; done) | (simp [*]; done), by repeat (first | exact Drawn0.refl _ | apply Drawn0.step)⟩
              · rw [if_neg c8] at H
                have c8b0 : decide (a0 < 10000000) = false := decide_eq_false c8
                clear c8
                by_cases c9 : a0 < 100000000
                · rw [if_pos c9] at H
                  have c9b0 : decide (a0 < 100000000) = true := decide_eq_true c9
                  clear c9
                  obtain rfl := Option.some.inj H
                  go_enter Try.func44, Try.ntmps44
                  go_wp2
                  go_ret
                  exact ⟨by first | rfl | (simp; done) | (simp [*]; done), by repeat (first | exact Drawn0.refl _ | apply Drawn0.step)⟩
                · rw [if_neg c9] at H
                  have c9b0 : decide (a0 < 100000000) = false := decide_eq_false c9
                  clear c9
                  by_cases c10 : a0 < 1000000000
                  · rw [if_pos c10] at H
                    have c10b0 : decide (a0 < 1000000000) = true := decide_eq_true c10
                    clear c10
                    obtain rfl := Option.some.inj H
                    go_enter Try.func44, Try.ntmps44
                    go_wp2
                    go_ret
                    exact ⟨by first | rfl | (simp; done) | (simp [*]; done), by repeat (first | exact Drawn0.refl _ | apply Drawn0.step)⟩
                  · rw [if_neg c10] at H
                    have c10b0 : decide (a0 < 1000000000) = false := decide_eq_false c10
                    clear c10
                    by_cases c11 : a0 < 10000000000
                    · rw [if_pos c11] at H
                      have c11b0 : decide (a0 < 10000000000) = true := decide_eq_true c11
                      clear c11
                      obtain rfl := Option.some.inj H
                      go_enter Try.func44, Try.ntmps44
                      go_wp2
                      go_ret
                      exact ⟨by first | rfl | (simp; done) | (simp [*]; done), by repeat (first | exact Drawn0.refl _ | apply Drawn0.step)⟩
                    · rw [if_neg c11] at H
                      have c11b0 : decide (a0 < 10000000000) = false := decide_eq_false c11
                      clear c11
                      by_cases c12 : a0 < 100000000000
                      · rw [if_pos c12] at H
                        have c12b0 : decide (a0 < 100000000000) = true := decide_eq_true c12
                        clear c12
                        obtain rfl := Option.some.inj H
                        go_enter Try.func44, Try.ntmps44
                        go_wp2
                        go_ret
                        exact ⟨by first | rfl | (simp; done) | (simp [*]; done), by repeat (first | exact Drawn0.refl _ | apply Drawn0.step)⟩
                      · rw [if_neg c12] at H
                        have c12b0 : decide (a0 < 100000000000) = false := decide_eq_false c12
                        clear c12
                        by_cases c13 : a0 < 1000000000000
                        · rw [if_pos c13] at H
                          have c13b0 : decide (a0 < 1000000000000) = true := decide_eq_true c13
                          clear c13
                          obtain rfl := Option.some.inj H
                          go_enter Try.func44, Try.ntmps44
                          go_wp2
                          go_ret
                          exact ⟨by first | rfl | (simp; done) | (simp [*]; done), by repeat (first | exact Drawn0.refl _ | apply Drawn0.step)⟩
                        · rw [if_neg c13] at H
                          have c13b0 : decide (a0 < 1000000000000) = false := decide_eq_false c13
                          clear c13
                          by_cases c14 : a0 < 10000000000000
                          · rw [if_pos c14] at H
                            have c14b0 : decide (a0 < 10000000000000) = true := decide_eq_true c14
                            clear c14
                            obtain rfl := Option.some.inj H
                            go_enter Try.func44, Try.ntmps44
                            go_wp2
                            go_ret
                            exact ⟨by first | rfl | (simp; done) | (simp [*]; done), by repeat (first | exact Drawn0.refl _ | apply Drawn0.step)⟩
                          · rw [if_neg c14] at H
                            have c14b0 : decide (a0 < 10000000000000) = false := decide_eq_false c14
                            clear c14
                            by_cases c15 : a0 < 100000000000000
                            · rw [if_pos c15] at H
                              have c15b0 : decide (a0 < 100000000000000) = true := decide_eq_true c15
                              clear c15
                              obtain rfl := Option.some.inj H
                              go_enter Try.func44, Try.ntmps44
                              go_wp2
                              go_ret
                              exact ⟨by first | rfl | (simp; done) | (simp [*]; done), by repeat (first | exact Drawn0.refl _ | apply Drawn0.step)⟩
                            · rw [if_neg c15] at H
                              have c15b0 : decide (a0 < 100000000000000) = false := decide_eq_false c15
                              clear c15
                              by_cases c16 : a0 < 1000000000000000
                              · rw [if_pos c16] at H
                                have c16b0 : decide (a0 < 1000000000000000) = true := decide_eq_true c16
                                clear c16
                                obtain rfl := Option.some.inj H
                                go_enter Try.func44, Try.ntmps44
                                go_wp2
                                go_ret
                                exact ⟨by first | rfl | (simp; done) | (simp [*]; done), by repeat (first | exact Drawn0.refl _ | apply Drawn0.step)⟩
                              · rw [if_neg c16] at H
                                have c16b0 : decide (a0 < 1000000000000000) = false := decide_eq_false c16
                                clear c16
                                by_cases c17 : a0 < 10000000000000000
                                · rw [if_pos c17] at H
                                  have c17b0 : decide (a0 < 10000000000000000) = true := decide_eq_true c17
                                  clear c17
                                  obtain rfl := Option.some.inj H
                                  go_enter Try.func44, Try.ntmps44
                                  go_wp2
                                  go_ret
                                  exact ⟨by first | rfl | (simp; done) | (simp [*]; done), by repeat (first | exact Drawn0.refl _ | apply Drawn0.step)⟩
                                · rw [if_neg c17] at H
                                  have c17b0 : decide (a0 < 10000000000000000) = false := decide_eq_false c17
                                  clear c17
                                  by_cases c18 : a0 < 100000000000000000
                                  · rw [if_pos c18] at H
                                    have c18b0 : decide (a0 < 100000000000000000) = true := decide_eq_true c18
                                    clear c18
                                    obtain rfl := Option.some.inj H
                                    go_enter Try.func44, Try.ntmps44
                                    go_wp2
                                    go_ret
                                    exact ⟨by first | rfl | (simp; done) | (simp [*]; done), by repeat (first | exact Drawn0.refl _ | apply Drawn0.step)⟩
                                  · rw [if_neg c18] at H
                                    have c18b0 : decide (a0 < 100000000000000000) = false := decide_eq_false c18
                                    clear c18
                                    by_cases c19 : a0 < 1000000000000000000
                                    · rw [if_pos c19] at H
                                      have c19b0 : decide (a0 < 1000000000000000000) = true := decide_eq_true c19
                                      clear c19
                                      obtain rfl := Option.some.inj H
                                      go_enter Try.func44, Try.ntmps44
                                      go_wp2
                                      go_ret
                                      exact ⟨by first | rfl | (simp; done) | (simp [*]; done), by repeat (first | exact Drawn0.refl _ | apply Drawn0.step)⟩
                                    · rw [if_neg c19] at H
                                      have c19b0 : decide (a0 < 1000000000000000000) = false := decide_eq_false c19
                                      clear c19
                                      by_cases c20 : a0 < 10000000000000000000
                                      · rw [if_pos c20] at H
                                        have c20b0 : decide (a0 < 10000000000000000000) = true := decide_eq_true c20
                                        clear c20
                                        obtain rfl := Option.some.inj H
                                        go_enter Try.func44, Try.ntmps44
                                        go_wp2
                                        go_ret
                                        exact ⟨by first | rfl | (simp; done) | (simp [*]; done), by repeat (first | exact Drawn0.refl _ | apply Drawn0.step)⟩
                                      · rw [if_neg c20] at H
                                        have c20b0 : decide (a0 < 10000000000000000000) = false := decide_eq_false c20
                                        clear c20
                                        obtain rfl := Option.some.inj H
                                        go_enter Try.func44, Try.ntmps44
                                        go_wp2
                                        go_ret
                                        exact ⟨by first | rfl | (simp; done) | (simp [*]; done), by repeat (first | exact Drawn0.refl _ | apply Drawn0.step)⟩

/-! ### tdstrconv_LenInt: function 45 -/
def tdstrconv_LenInt.f (a0 : Int) : Option (Int) := if a0 < 0 then (if a0 = (-9223372036854775808) then (some 20) else ((tdstrconv_LenUint.f (IntKind.u64.wrap (wrap64 (-a0)))).bind fun t116 => (some (wrap64 (1 + t116))))) else ((tdstrconv_LenUint.f (IntKind.u64.wrap (a0))).bind fun t117 => (some t117))
set_option maxHeartbeats 8000000 in
set_option maxRecDepth 100000 in
theorem tdstrconv_LenInt.calls (a0 : Int) (r : Int) (w : World) (h : tdstrconv_LenInt.f a0 = some r) :
    Calls Try.prog 45 #[.int .i64 a0] w fun e w' => e = .returned (.int .i64 r) ∧ Drawn0 w w' := by
  have H : (if a0 < 0 then (if a0 = (-9223372036854775808) then (some 20) else ((tdstrconv_LenUint.f (IntKind.u64.wrap (wrap64 (-a0)))).bind fun t116 => (some (wrap64 (1 + t116))))) else ((tdstrconv_LenUint.f (IntKind.u64.wrap (a0))).bind fun t117 => (some t117))) = some r := h
  clear h
  by_cases c2 : a0 < 0
  · rw [if_pos c2] at H
    have c2b0 : decide (a0 < 0) = true := decide_eq_true c2
    clear c2
    by_cases c3 : a0 = (-9223372036854775808)
    · rw [if_pos c3] at H
      have c3b0 : (a0 == (-9223372036854775808)) = true := beq_iff_eq.mpr c3
      have c3b1 : (a0 != (-9223372036854775808)) = false := bne_eq_false_iff_eq.mpr c3
      clear c3
      obtain rfl := Option.some.inj H
      go_enter Try.func45, Try.ntmps45
      go_wp2
      go_ret
      exact ⟨by first | rfl | (simp; done) | (simp [*]; done), by repeat (first | exact Drawn0.refl _ | apply Drawn0.step)⟩
    · rw [if_neg c3] at H
      have c3b0 : (a0 == (-9223372036854775808)) = false := beq_eq_false_iff_ne.mpr c3
      have c3b1 : (a0 != (-9223372036854775808)) = true := bne_iff_ne.mpr c3
      replace H := Option.bind_eq_some_iff.mp H
      obtain ⟨t116, A40, H⟩ := H
      replace H : (some (wrap64 (1 + t116))) = some r := H
      have A4 := Aside0.mk A40
      clear A40
      obtain rfl := Option.some.inj H
      go_enter Try.func45, Try.ntmps45
      go_wp2_with (first | ((with_reducible refine gate_callee (f := 44) rfl ?_); refine goesL_ (some 10) rfl rfl Try.func44 (by kernel_rfl) rfl #[.int .u64 (IntKind.u64.wrap (wrap64 (-a0)))] rfl (by (try simp only [List.map_toArray, List.map_cons, List.map_nil]); first | done | rfl | (simp only [List.length_drop, List.length_take]; rfl)) ?_; (with_reducible refine (tdstrconv_LenUint.calls (IntKind.u64.wrap (wrap64 (-a0))) t116 _ A4.out).mono ?_); rintro e w' ⟨rfl, ⟨nd, rfl⟩⟩; refine ⟨_, rfl, ?_⟩))
      go_ret
      exact ⟨by first | rfl | (simp; done) | (simp [*]; done), by repeat (first | exact Drawn0.refl _ | apply Drawn0.step)⟩
  · rw [if_neg c2] at H
    have c2b0 : decide (a0 < 0) = false := decide_eq_false c2
    clear c2
    replace H := Option.bind_eq_some_iff.mp H
    obtain ⟨t117, A50, H⟩ := H
    replace H : (some t117) = some r := H
    have A5 := Aside0.mk A50
    clear A50
    obtain rfl := Option.some.inj H
    go_enter Try.func45, Try.ntmps45
    go_wp2_with (first | ((with_reducible refine gate_callee (f := 44) rfl ?_); refine goesL_ (some 14) rfl rfl Try.func44 (by kernel_rfl) rfl #[.int .u64 (IntKind.u64.wrap (a0))] rfl (by (try simp only [List.map_toArray, List.map_cons, List.map_nil]); first | done | rfl | (simp only [List.length_drop, List.length_take]; rfl)) ?_; (with_reducible refine (tdstrconv_LenUint.calls (IntKind.u64.wrap (a0)) t117 _ A5.out).mono ?_); rintro e w' ⟨rfl, ⟨nd, rfl⟩⟩; refine ⟨_, rfl, ?_⟩))
    go_ret
    exact ⟨by first | rfl | (simp; done) | (simp [*]; done), by repeat (first | exact Drawn0.refl _ | apply Drawn0.step)⟩

-- NOT PRINTED: function 57 (tdstrconv_AppendInt)

-- impl_WriteInt: by hand (CWrite)

/-! ### laws_FnNumberBack: function 9 -/
def laws_FnNumberBack.f (k : Nat) (a0 : Int) : Option (Bool) := (impl_WriteInt.f ([] : List Int) a0).bind fun t125 => ((impl_ReadInt.f k t125).bind fun bt128 => (if bt128.1 = a0 then (if bt128.2 = (t125.length : Int) then (some (decide (bt128.2 > 0))) else (some false)) else (some false)))
theorem laws_FnNumberBack.mono : ∀ a0 k, LeO (laws_FnNumberBack.f k a0) (laws_FnNumberBack.f (k + 1) a0) := by
  intro a0 k
  unfold laws_FnNumberBack.f
  repeat' first
      | (with_reducible exact impl_ReadInt.mono _ _)
      | (with_reducible exact LeO.refl _)
      | (with_reducible exact LeO.none _)
      | (with_reducible refine LeO.ite ?_ ?_)
      | (with_reducible refine LeO.bind ?_ (fun _ => ?_))
      | exact impl_ReadInt.mono _ _
      | exact LeO.none _
      | refine LeO.ite ?_ ?_
      | refine LeO.bind ?_ (fun _ => ?_)
set_option maxHeartbeats 8000000 in
set_option maxRecDepth 100000 in
theorem laws_FnNumberBack.calls (k : Nat) (a0 : Int) (r : Bool) (w : World) (h : laws_FnNumberBack.f k a0 = some r) :
    Calls Try.prog 9 #[.int .i64 a0] w fun e w' => e = .returned (.bool r) ∧ Below w.heap.size w w' := by
  have HB := Aside0.mk (Below.refl w.heap.size w)
  have H : ((impl_WriteInt.f ([] : List Int) a0).bind fun t125 => ((impl_ReadInt.f k t125).bind fun bt128 => (if bt128.1 = a0 then (if bt128.2 = (t125.length : Int) then (some (decide (bt128.2 > 0))) else (some false)) else (some false)))) = some r := h
  clear h
  replace H := Option.bind_eq_some_iff.mp H
  obtain ⟨t125, A20, H⟩ := H
  replace H : ((impl_ReadInt.f k t125).bind fun bt128 => (if bt128.1 = a0 then (if bt128.2 = (t125.length : Int) then (some (decide (bt128.2 > 0))) else (some false)) else (some false))) = some r := H
  have A2 := Aside0.mk A20
  clear A20
  replace H := Option.bind_eq_some_iff.mp H
  obtain ⟨⟨t128, t129⟩, A30, H⟩ := H
  replace H : (if t128 = a0 then (if t129 = (t125.length : Int) then (some (decide (t129 > 0))) else (some false)) else (some false)) = some r := H
  have A3 := Aside0.mk A30
  clear A30
  by_cases c4 : t128 = a0
  · rw [if_pos c4] at H
    have c4b0 : (t128 == a0) = true := beq_iff_eq.mpr c4
    have c4b1 : (t128 != a0) = false := bne_eq_false_iff_eq.mpr c4
    clear c4
    by_cases c5 : t129 = (t125.length : Int)
    · rw [if_pos c5] at H
      have c5b0 : (t129 == (t125.length : Int)) = true := beq_iff_eq.mpr c5
      have c5b1 : (t129 != (t125.length : Int)) = false := bne_eq_false_iff_eq.mpr c5
      clear c5
      obtain rfl := Option.some.inj H
      go_enter Try.func9, Try.ntmps9
      go_wp2_with (first | ((with_reducible refine gate_callee (f := 28) rfl ?_); refine goesL_ (some 7) rfl rfl Try.func28 (by kernel_rfl) rfl #[.slice none 0 0, .int .i64 a0] rfl (by (try simp only [List.map_toArray, List.map_cons, List.map_nil]); first | done | rfl | (simp only [List.length_drop, List.length_take]; rfl)) ?_; (refine (impl_WriteInt.calls _ _ ([] : List Int) a0 t125 _ ?side1 ?side2 A2.out).mono ?_); (case side1 => exact Kd.C_nil _ _); (case side2 => exact Nat.le_refl _); rintro e w6 ⟨v126, rfl, ho0, hb⟩; refine ⟨_, rfl, ?_⟩; have n0_ := Aside0.mk (Kd.R_lower ho0 (below_size (by repeat (first | (with_reducible first | exact HB.out | apply below_alloc | apply pw_below_drewN | apply below_drew1) | exact HB.out)))); have n1_ := Aside0.mk (below_step (by repeat (first | (with_reducible first | exact HB.out | apply below_alloc | apply pw_below_drewN | apply below_drew1) | exact HB.out)) hb); clear HB; have HO127 := n0_; have HB := n1_; clear n0_ n1_; (try clear hb); (try clear hb2); (try clear hk); (try clear hi); (try clear ho0); obtain ⟨Ao7, co7, eo7⟩ := Kd.R_slice HO127.out; subst eo7) | ((with_reducible refine gate_callee (f := 23) rfl ?_); refine goesL_ (some 10) rfl rfl Try.func23 (by kernel_rfl) rfl #[.slice Ao7 t125.length co7] rfl (by (try simp only [List.map_toArray, List.map_cons, List.map_nil]); first | done | rfl | (simp only [List.length_drop, List.length_take]; rfl)) ?_; (with_reducible refine (impl_ReadInt.calls k _ _ t125 t128 t129 _ ?side1 ?side2 A3.out).mono ?_); (case side1 => repeat (first | exact (Kd.R_reads' HO127.out).2.2 | (with_reducible refine Kd.C_alloc ?_ _) | (with_reducible refine Kd.C_drewN ?_ _) | (with_reducible refine Kd.C_drew ?_))); (case side2 => exact (Kd.R_reads' HO127.out).2.1); rintro e w8 ⟨rfl, hb⟩; refine ⟨_, rfl, ?_⟩; have n0_ := Aside0.mk (Kd.R_below (by (with_reducible repeat (first | apply Kd.R_alloc | apply Kd.R_drewN | apply Kd.R_drew)); exact HO127.out) hb); have n1_ := Aside0.mk (below_step (by repeat (first | (with_reducible first | exact HB.out | apply below_alloc | apply pw_below_drewN | apply below_drew1) | exact HB.out)) hb); clear HO127; clear HB; have HO127 := n0_; have HB := n1_; clear n0_ n1_; (try clear hb); (try clear hb2); (try clear hk); (try clear hi)))
      go_ret
      exact ⟨by first | rfl | (simp [errW_none, errW_some] <;> rfl) | (simp [*, errW_none, errW_some] <;> rfl), by repeat (first | (with_reducible first | exact HB.out | apply below_alloc | apply pw_below_drewN | apply below_drew1) | exact HB.out)⟩
    · rw [if_neg c5] at H
      have c5b0 : (t129 == (t125.length : Int)) = false := beq_eq_false_iff_ne.mpr c5
      have c5b1 : (t129 != (t125.length : Int)) = true := bne_iff_ne.mpr c5
      obtain rfl := Option.some.inj H
      go_enter Try.func9, Try.ntmps9
      go_wp2_with (first | ((with_reducible refine gate_callee (f := 28) rfl ?_); refine goesL_ (some 7) rfl rfl Try.func28 (by kernel_rfl) rfl #[.slice none 0 0, .int .i64 a0] rfl (by (try simp only [List.map_toArray, List.map_cons, List.map_nil]); first | done | rfl | (simp only [List.length_drop, List.length_take]; rfl)) ?_; (refine (impl_WriteInt.calls _ _ ([] : List Int) a0 t125 _ ?side1 ?side2 A2.out).mono ?_); (case side1 => exact Kd.C_nil _ _); (case side2 => exact Nat.le_refl _); rintro e w9 ⟨v126, rfl, ho0, hb⟩; refine ⟨_, rfl, ?_⟩; have n0_ := Aside0.mk (Kd.R_lower ho0 (below_size (by repeat (first | (with_reducible first | exact HB.out | apply below_alloc | apply pw_below_drewN | apply below_drew1) | exact HB.out)))); have n1_ := Aside0.mk (below_step (by repeat (first | (with_reducible first | exact HB.out | apply below_alloc | apply pw_below_drewN | apply below_drew1) | exact HB.out)) hb); clear HB; have HO127 := n0_; have HB := n1_; clear n0_ n1_; (try clear hb); (try clear hb2); (try clear hk); (try clear hi); (try clear ho0); obtain ⟨Ao10, co10, eo10⟩ := Kd.R_slice HO127.out; subst eo10) | ((with_reducible refine gate_callee (f := 23) rfl ?_); refine goesL_ (some 10) rfl rfl Try.func23 (by kernel_rfl) rfl #[.slice Ao10 t125.length co10] rfl (by (try simp only [List.map_toArray, List.map_cons, List.map_nil]); first | done | rfl | (simp only [List.length_drop, List.length_take]; rfl)) ?_; (with_reducible refine (impl_ReadInt.calls k _ _ t125 t128 t129 _ ?side1 ?side2 A3.out).mono ?_); (case side1 => repeat (first | exact (Kd.R_reads' HO127.out).2.2 | (with_reducible refine Kd.C_alloc ?_ _) | (with_reducible refine Kd.C_drewN ?_ _) | (with_reducible refine Kd.C_drew ?_))); (case side2 => exact (Kd.R_reads' HO127.out).2.1); rintro e w11 ⟨rfl, hb⟩; refine ⟨_, rfl, ?_⟩; have n0_ := Aside0.mk (Kd.R_below (by (with_reducible repeat (first | apply Kd.R_alloc | apply Kd.R_drewN | apply Kd.R_drew)); exact HO127.out) hb); have n1_ := Aside0.mk (below_step (by repeat (first | (with_reducible first | exact HB.out | apply below_alloc | apply pw_below_drewN | apply below_drew1) | exact HB.out)) hb); clear HO127; clear HB; have HO127 := n0_; have HB := n1_; clear n0_ n1_; (try clear hb); (try clear hb2); (try clear hk); (try clear hi)))
      go_ret
      exact ⟨by first | rfl | (simp [errW_none, errW_some] <;> rfl) | (simp [*, errW_none, errW_some] <;> rfl), by repeat (first | (with_reducible first | exact HB.out | apply below_alloc | apply pw_below_drewN | apply below_drew1) | exact HB.out)⟩
  · rw [if_neg c4] at H
    have c4b0 : (t128 == a0) = false := beq_eq_false_iff_ne.mpr c4
    have c4b1 : (t128 != a0) = true := bne_iff_ne.mpr c4
    obtain rfl := Option.some.inj H
    go_enter Try.func9, Try.ntmps9
    go_wp2_with (first | ((with_reducible refine gate_callee (f := 28) rfl ?_); refine goesL_ (some 7) rfl rfl Try.func28 (by kernel_rfl) rfl #[.slice none 0 0, .int .i64 a0] rfl (by (try simp only [List.map_toArray, List.map_cons, List.map_nil]); first | done | rfl | (simp only [List.length_drop, List.length_take]; rfl)) ?_; (refine (impl_WriteInt.calls _ _ ([] : List Int) a0 t125 _ ?side1 ?side2 A2.out).mono ?_); (case side1 => exact Kd.C_nil _ _); (case side2 => exact Nat.le_refl _); rintro e w12 ⟨v126, rfl, ho0, hb⟩; refine ⟨_, rfl, ?_⟩; have n0_ := Aside0.mk (Kd.R_lower ho0 (below_size (by repeat (first | (with_reducible first | exact HB.out | apply below_alloc | apply pw_below_drewN | apply below_drew1) | exact HB.out)))); have n1_ := Aside0.mk (below_step (by repeat (first | (with_reducible first | exact HB.out | apply below_alloc | apply pw_below_drewN | apply below_drew1) | exact HB.out)) hb); clear HB; have HO127 := n0_; have HB := n1_; clear n0_ n1_; (try clear hb); (try clear hb2); (try clear hk); (try clear hi); (try clear ho0); obtain ⟨Ao13, co13, eo13⟩ := Kd.R_slice HO127.out; subst eo13) | ((with_reducible refine gate_callee (f := 23) rfl ?_); refine goesL_ (some 10) rfl rfl Try.func23 (by kernel_rfl) rfl #[.slice Ao13 t125.length co13] rfl (by (try simp only [List.map_toArray, List.map_cons, List.map_nil]); first | done | rfl | (simp only [List.length_drop, List.length_take]; rfl)) ?_; (with_reducible refine (impl_ReadInt.calls k _ _ t125 t128 t129 _ ?side1 ?side2 A3.out).mono ?_); (case side1 => repeat (first | exact (Kd.R_reads' HO127.out).2.2 | (with_reducible refine Kd.C_alloc ?_ _) | (with_reducible refine Kd.C_drewN ?_ _) | (with_reducible refine Kd.C_drew ?_))); (case side2 => exact (Kd.R_reads' HO127.out).2.1); rintro e w14 ⟨rfl, hb⟩; refine ⟨_, rfl, ?_⟩; have n0_ := Aside0.mk (Kd.R_below (by (with_reducible repeat (first | apply Kd.R_alloc | apply Kd.R_drewN | apply Kd.R_drew)); exact HO127.out) hb); have n1_ := Aside0.mk (below_step (by repeat (first | (with_reducible first | exact HB.out | apply below_alloc | apply pw_below_drewN | apply below_drew1) | exact HB.out)) hb); clear HO127; clear HB; have HO127 := n0_; have HB := n1_; clear n0_ n1_; (try clear hb); (try clear hb2); (try clear hk); (try clear hi)))
    go_ret
    exact ⟨by first | rfl | (simp [errW_none, errW_some] <;> rfl) | (simp [*, errW_none, errW_some] <;> rfl), by repeat (first | (with_reducible first | exact HB.out | apply below_alloc | apply pw_below_drewN | apply below_drew1) | exact HB.out)⟩

/-- THE ONE PURE STATEMENT of laws_FnNumberBack: yours. -/
def laws_FnNumberBack.Pure : Prop := ∀ (a0 : Int), (Lit.int .i64 a0).wf = true → ∃ k, laws_FnNumberBack.f k a0 = some true
theorem laws_FnNumberBack.walk (P : laws_FnNumberBack.Pure) (a0 : Int) (w : World) (w0 : (Lit.int .i64 a0).wf = true) :
    Calls Try.prog 9 #[.int .i64 a0] w fun e w' => e = .returned (.bool true) ∧ Below w.heap.size w w' := by
  obtain ⟨k, h⟩ := P a0 w0
  refine (laws_FnNumberBack.calls k a0 true w h).mono ?_
  rintro e w' ⟨rfl, hd⟩
  exact ⟨rfl, hd⟩

end Go.Proofs.Yteklgpjdcdkdpaa.PFnNumberBack
