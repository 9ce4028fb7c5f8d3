-- Laid by a program of this session, out of the translation's print.
import Derived.Test.YtfhhbfllbhibgaaDoorPFnBytesBlankx0
namespace Go.Proofs.YtfhhbfllbhibgaaDoor.PFnBytesBlank
open Go.Proofs.YtfhhbfllbhibgaaDoor.Own
open Go.RowKit Go.Proofs.YtfhhbfllbhibgaaDoorW.PrintWords Go.Proofs.YtfhhbfllbhibgaaDoorW.PrintLast Go.Proofs.YtfhhbfllbhibgaaDoorW.PrintMore
attribute [local go_sem] max2_int min2_int max_two min_two max_three min_three max_four min_four   -- for this text's walks alone
set_option linter.unusedVariables false
set_option linter.unusedSimpArgs false

-- tdparse_IsWhitespace: by hand (CTab)

/-! ### impl_IsBlank: function 9 -/
def impl_IsBlank.f (a0 : Int) : Option (Bool) := (tdparse_IsWhitespace.f a0).bind fun t101 => (some t101)
set_option maxHeartbeats 8000000 in
set_option maxRecDepth 100000 in
theorem impl_IsBlank.calls (a0 : Int) (r : Bool) (w : World) (h : impl_IsBlank.f a0 = some r) (HTabW : Aside0 (Own.TabW w)) :
    Calls Tryd.prog 9 #[.int .u8 a0] w fun e w' => e = .returned (.bool r) ∧ Drawn0 w w' := by
  have H : ((tdparse_IsWhitespace.f a0).bind fun t101 => (some t101)) = some r := h
  clear h
  replace H := Option.bind_eq_some_iff.mp H
  obtain ⟨t101, A20, H⟩ := H
  replace H : (some t101) = some r := H
  have A2 := Aside0.mk A20
  clear A20
  obtain rfl := Option.some.inj H
  go_enter Tryd.func9, Tryd.ntmps9
  go_wp2_with (first | ((with_reducible refine gate_callee (f := 17) rfl ?_); refine goesL_ (some 4) rfl rfl Tryd.func17 (by kernel_rfl) rfl #[.int .u8 a0] rfl (by (try simp only [List.map_toArray, List.map_cons, List.map_nil]); first | done | rfl | (simp only [List.length_drop, List.length_take]; rfl)) ?_; (with_reducible refine (tdparse_IsWhitespace.calls a0 t101 _ A2.out ?tabTabW).mono ?_); (case tabTabW => first | exact HTabW | exact ⟨Own.TabAt.below HTabW.out (by repeat (first | (with_reducible first | exact HB.out | apply below_alloc | apply pw_below_drewN | apply below_drew1) | exact HB.out))⟩ | exact ⟨Own.TabAt.drawn HTabW.out (by repeat (first | exact Drawn0.refl _ | apply Drawn0.step))⟩); rintro e w' ⟨rfl, ⟨nd, rfl⟩⟩; refine ⟨_, rfl, ?_⟩))
  go_ret
  exact ⟨by first | rfl | (simp; done) | (simp [*]; done), by repeat (first | exact Drawn0.refl _ | apply Drawn0.step)⟩

/-! ### spec_IsBreak: function 12 -/
def spec_IsBreak.f (a0 : Int) : Option (Bool) := if a0 = 10 then (some true) else (some (a0 == 13))
set_option maxHeartbeats 8000000 in
set_option maxRecDepth 100000 in
theorem spec_IsBreak.calls (a0 : Int) (r : Bool) (w : World) (h : spec_IsBreak.f a0 = some r) :
    Calls Tryd.prog 12 #[.int .u8 a0] w fun e w' => e = .returned (.bool r) ∧ Drawn0 w w' := by
  have H : (if a0 = 10 then (some true) else (some (a0 == 13))) = some r := h
  clear h
  by_cases c2 : a0 = 10
  · rw [if_pos c2] at H
    have c2b0 : (a0 == 10) = true := beq_iff_eq.mpr c2
    have c2b1 : (a0 != 10) = false := bne_eq_false_iff_eq.mpr c2
    clear c2
    obtain rfl := Option.some.inj H
    go_enter Tryd.func12, Tryd.ntmps12
    go_wp2
    go_ret
    exact ⟨by first | rfl | (simp; done) | (simp [*]; done), by repeat (first | exact Drawn0.refl _ | apply Drawn0.step)⟩
  · rw [if_neg c2] at H
    have c2b0 : (a0 == 10) = false := beq_eq_false_iff_ne.mpr c2
    have c2b1 : (a0 != 10) = true := bne_iff_ne.mpr c2
    obtain rfl := Option.some.inj H
    go_enter Tryd.func12, Tryd.ntmps12
    go_wp2
    go_ret
    exact ⟨by first | rfl | (simp; done) | (simp [*]; done), by repeat (first | exact Drawn0.refl _ | apply Drawn0.step)⟩

/-! ### spec_IsBlank: function 10 -/
def spec_IsBlank.f (a0 : Int) : Option (Bool) := if a0 = 32 then (some true) else (if a0 = 9 then (some true) else (if a0 = 12 then (some true) else ((spec_IsBreak.f a0).bind fun t102 => (some t102))))
set_option maxHeartbeats 8000000 in
set_option maxRecDepth 100000 in
theorem spec_IsBlank.calls (a0 : Int) (r : Bool) (w : World) (h : spec_IsBlank.f a0 = some r) :
    Calls Tryd.prog 10 #[.int .u8 a0] w fun e w' => e = .returned (.bool r) ∧ Drawn0 w w' := by
  have H : (if a0 = 32 then (some true) else (if a0 = 9 then (some true) else (if a0 = 12 then (some true) else ((spec_IsBreak.f a0).bind fun t102 => (some t102))))) = some r := h
  clear h
  by_cases c2 : a0 = 32
  · rw [if_pos c2] at H
    have c2b0 : (a0 == 32) = true := beq_iff_eq.mpr c2
    have c2b1 : (a0 != 32) = false := bne_eq_false_iff_eq.mpr c2
    clear c2
    obtain rfl := Option.some.inj H
    go_enter Tryd.func10, Tryd.ntmps10
    go_wp2
    go_ret
    exact ⟨by first | rfl | (simp; done) | (simp [*]; done), by repeat (first | exact Drawn0.refl _ | apply Drawn0.step)⟩
  · rw [if_neg c2] at H
    have c2b0 : (a0 == 32) = false := beq_eq_false_iff_ne.mpr c2
    have c2b1 : (a0 != 32) = true := bne_iff_ne.mpr c2
    by_cases c3 : a0 = 9
    · rw [if_pos c3] at H
      have c3b0 : (a0 == 9) = true := beq_iff_eq.mpr c3
      have c3b1 : (a0 != 9) = false := bne_eq_false_iff_eq.mpr c3
      clear c3
      obtain rfl := Option.some.inj H
      go_enter Tryd.func10, Tryd.ntmps10
      go_wp2
      go_ret
      exact ⟨by first | rfl | (simp; done) | (simp [*]; done), by repeat (first | exact Drawn0.refl _ | apply Drawn0.step)⟩
    · rw [if_neg c3] at H
      have c3b0 : (a0 == 9) = false := beq_eq_false_iff_ne.mpr c3
      have c3b1 : (a0 != 9) = true := bne_iff_ne.mpr c3
      by_cases c4 : a0 = 12
      · rw [if_pos c4] at H
        have c4b0 : (a0 == 12) = true := beq_iff_eq.mpr c4
        have c4b1 : (a0 != 12) = false := bne_eq_false_iff_eq.mpr c4
        clear c4
        obtain rfl := Option.some.inj H
        go_enter Tryd.func10, Tryd.ntmps10
        go_wp2
        go_ret
        exact ⟨by first | rfl | (simp; done) | (simp [*]; done), by repeat (first | exact Drawn0.refl _ | apply Drawn0.step)⟩
      · rw [if_neg c4] at H
        have c4b0 : (a0 == 12) = false := beq_eq_false_iff_ne.mpr c4
        have c4b1 : (a0 != 12) = true := bne_iff_ne.mpr c4
        replace H := Option.bind_eq_some_iff.mp H
        obtain ⟨t102, A50, H⟩ := H
        replace H : (some t102) = some r := H
        have A5 := Aside0.mk A50
        clear A50
        obtain rfl := Option.some.inj H
        go_enter Tryd.func10, Tryd.ntmps10
        go_wp2_with (first | (go_at_call 12; (with_reducible refine (spec_IsBreak.calls a0 t102 _ A5.out).mono ?_); rintro e w' ⟨rfl, ⟨nd, rfl⟩⟩))
        go_ret
        exact ⟨by first | rfl | (simp; done) | (simp [*]; done), by repeat (first | exact Drawn0.refl _ | apply Drawn0.step)⟩

-- tdparse_IsNewline: by hand (CTab)

/-! ### impl_IsBreak: function 11 -/
def impl_IsBreak.f (a0 : Int) : Option (Bool) := (tdparse_IsNewline.f a0).bind fun t103 => (some t103)
set_option maxHeartbeats 8000000 in
set_option maxRecDepth 100000 in
theorem impl_IsBreak.calls (a0 : Int) (r : Bool) (w : World) (h : impl_IsBreak.f a0 = some r) (HTabN : Aside0 (Own.TabN w)) :
    Calls Tryd.prog 11 #[.int .u8 a0] w fun e w' => e = .returned (.bool r) ∧ Drawn0 w w' := by
  have H : ((tdparse_IsNewline.f a0).bind fun t103 => (some t103)) = some r := h
  clear h
  replace H := Option.bind_eq_some_iff.mp H
  obtain ⟨t103, A20, H⟩ := H
  replace H : (some t103) = some r := H
  have A2 := Aside0.mk A20
  clear A20
  obtain rfl := Option.some.inj H
  go_enter Tryd.func11, Tryd.ntmps11
  go_wp2_with (first | ((with_reducible refine gate_callee (f := 18) rfl ?_); refine goesL_ (some 4) rfl rfl Tryd.func18 (by kernel_rfl) rfl #[.int .u8 a0] rfl (by (try simp only [List.map_toArray, List.map_cons, List.map_nil]); first | done | rfl | (simp only [List.length_drop, List.length_take]; rfl)) ?_; (with_reducible refine (tdparse_IsNewline.calls a0 t103 _ A2.out ?tabTabN).mono ?_); (case tabTabN => first | exact HTabN | exact ⟨Own.TabAt.below HTabN.out (by repeat (first | (with_reducible first | exact HB.out | apply below_alloc | apply pw_below_drewN | apply below_drew1) | exact HB.out))⟩ | exact ⟨Own.TabAt.drawn HTabN.out (by repeat (first | exact Drawn0.refl _ | apply Drawn0.step))⟩); rintro e w' ⟨rfl, ⟨nd, rfl⟩⟩; refine ⟨_, rfl, ?_⟩))
  go_ret
  exact ⟨by first | rfl | (simp; done) | (simp [*]; done), by repeat (first | exact Drawn0.refl _ | apply Drawn0.step)⟩

/-! ### laws_FnBytesBlank: function 4 -/
def laws_FnBytesBlank.f (a0 : Int) : Option (Bool) := (impl_IsBlank.f a0).bind fun t104 => ((spec_IsBlank.f a0).bind fun t105 => (if (t104 == t105) = true then ((impl_IsBreak.f a0).bind fun t106 => ((spec_IsBreak.f a0).bind fun t107 => (some (t106 == t107)))) else (some false)))
set_option maxHeartbeats 8000000 in
set_option maxRecDepth 100000 in
theorem laws_FnBytesBlank.calls (a0 : Int) (r : Bool) (w : World) (h : laws_FnBytesBlank.f a0 = some r) (HTabN : Aside0 (Own.TabN w)) (HTabW : Aside0 (Own.TabW w)) :
    Calls Tryd.prog 4 #[.int .u8 a0] w fun e w' => e = .returned (.bool r) ∧ Drawn0 w w' := by
  have H : ((impl_IsBlank.f a0).bind fun t104 => ((spec_IsBlank.f a0).bind fun t105 => (if (t104 == t105) = true then ((impl_IsBreak.f a0).bind fun t106 => ((spec_IsBreak.f a0).bind fun t107 => (some (t106 == t107)))) else (some false)))) = some r := h
  clear h
  replace H := Option.bind_eq_some_iff.mp H
  obtain ⟨t104, A20, H⟩ := H
  replace H : ((spec_IsBlank.f a0).bind fun t105 => (if (t104 == t105) = true then ((impl_IsBreak.f a0).bind fun t106 => ((spec_IsBreak.f a0).bind fun t107 => (some (t106 == t107)))) else (some false))) = some r := H
  have A2 := Aside0.mk A20
  clear A20
  replace H := Option.bind_eq_some_iff.mp H
  obtain ⟨t105, A30, H⟩ := H
  replace H : (if (t104 == t105) = true then ((impl_IsBreak.f a0).bind fun t106 => ((spec_IsBreak.f a0).bind fun t107 => (some (t106 == t107)))) else (some false)) = some r := H
  have A3 := Aside0.mk A30
  clear A30
  by_cases c4 : (t104 == t105) = true
  · rw [if_pos c4] at H
    have c4b0 : (t104 == t105) = true := c4
    (try (have c4b1 : decide (t104 = t105) = true := by simpa using c4))
    (try (have c4b2 : (t104 == t105) = true := by simpa using c4))
    clear c4
    replace H := Option.bind_eq_some_iff.mp H
    obtain ⟨t106, A50, H⟩ := H
    replace H : ((spec_IsBreak.f a0).bind fun t107 => (some (t106 == t107))) = some r := H
    have A5 := Aside0.mk A50
    clear A50
    replace H := Option.bind_eq_some_iff.mp H
    obtain ⟨t107, A60, H⟩ := H
    replace H : (some (t106 == t107)) = some r := H
    have A6 := Aside0.mk A60
    clear A60
    obtain rfl := Option.some.inj H
    go_enter Tryd.func4, Tryd.ntmps4
    go_wp2_with (first | ((with_reducible refine gate_callee (f := 9) rfl ?_); refine goesL_ (some 4) rfl rfl Tryd.func9 (by kernel_rfl) rfl #[.int .u8 a0] rfl (by (try simp only [List.map_toArray, List.map_cons, List.map_nil]); first | done | rfl | (simp only [List.length_drop, List.length_take]; rfl)) ?_; (with_reducible refine (impl_IsBlank.calls a0 t104 _ A2.out ?tabTabW).mono ?_); (case tabTabW => first | exact HTabW | exact ⟨Own.TabAt.below HTabW.out (by repeat (first | (with_reducible first | exact HB.out | apply below_alloc | apply pw_below_drewN | apply below_drew1) | exact HB.out))⟩ | exact ⟨Own.TabAt.drawn HTabW.out (by repeat (first | exact Drawn0.refl _ | apply Drawn0.step))⟩); rintro e w' ⟨rfl, ⟨nd, rfl⟩⟩; refine ⟨_, rfl, ?_⟩) | ((with_reducible refine gate_callee (f := 10) rfl ?_); refine goesL_ (some 6) rfl rfl Tryd.func10 (by kernel_rfl) rfl #[.int .u8 a0] rfl (by (try simp only [List.map_toArray, List.map_cons, List.map_nil]); first | done | rfl | (simp only [List.length_drop, List.length_take]; rfl)) ?_; (with_reducible refine (spec_IsBlank.calls a0 t105 _ A3.out).mono ?_); rintro e w' ⟨rfl, ⟨nd, rfl⟩⟩; refine ⟨_, rfl, ?_⟩) | (go_at_call 11; (with_reducible refine (impl_IsBreak.calls a0 t106 _ A5.out ?tabTabN).mono ?_); (case tabTabN => first | exact HTabN | exact ⟨Own.TabAt.below HTabN.out (by repeat (first | (with_reducible first | exact HB.out | apply below_alloc | apply pw_below_drewN | apply below_drew1) | exact HB.out))⟩ | exact ⟨Own.TabAt.drawn HTabN.out (by repeat (first | exact Drawn0.refl _ | apply Drawn0.step))⟩); rintro e w' ⟨rfl, ⟨nd, rfl⟩⟩) | (go_at_call 12; (with_reducible refine (spec_IsBreak.calls a0 t107 _ A6.out).mono ?_); rintro e w' ⟨rfl, ⟨nd, rfl⟩⟩))
    go_ret
    exact ⟨by first | rfl | (simp; done) | (simp [*]; done), by repeat (first | exact Drawn0.refl _ | apply Drawn0.step)⟩
  · rw [if_neg c4] at H
    have c4b0 : (t104 == t105) = false := by simpa using c4
    (try (have c4b1 : decide (t104 = t105) = false := by simpa using c4))
    (try (have c4b2 : (t104 == t105) = false := by simpa using c4))
    (try (have c4b3 : ¬ (t104 = t105) := by simpa using c4))
    clear c4
    obtain rfl := Option.some.inj H
    go_enter Tryd.func4, Tryd.ntmps4
    go_wp2_with (first | ((with_reducible refine gate_callee (f := 9) rfl ?_); refine goesL_ (some 4) rfl rfl Tryd.func9 (by kernel_rfl) rfl #[.int .u8 a0] rfl (by (try simp only [List.map_toArray, List.map_cons, List.map_nil]); first | done | rfl | (simp only [List.length_drop, List.length_take]; rfl)) ?_; (with_reducible refine (impl_IsBlank.calls a0 t104 _ A2.out ?tabTabW).mono ?_); (case tabTabW => first | exact HTabW | exact ⟨Own.TabAt.below HTabW.out (by repeat (first | (with_reducible first | exact HB.out | apply below_alloc | apply pw_below_drewN | apply below_drew1) | exact HB.out))⟩ | exact ⟨Own.TabAt.drawn HTabW.out (by repeat (first | exact Drawn0.refl _ | apply Drawn0.step))⟩); rintro e w' ⟨rfl, ⟨nd, rfl⟩⟩; refine ⟨_, rfl, ?_⟩) | ((with_reducible refine gate_callee (f := 10) rfl ?_); refine goesL_ (some 6) rfl rfl Tryd.func10 (by kernel_rfl) rfl #[.int .u8 a0] rfl (by (try simp only [List.map_toArray, List.map_cons, List.map_nil]); first | done | rfl | (simp only [List.length_drop, List.length_take]; rfl)) ?_; (with_reducible refine (spec_IsBlank.calls a0 t105 _ A3.out).mono ?_); rintro e w' ⟨rfl, ⟨nd, rfl⟩⟩; refine ⟨_, rfl, ?_⟩))
    go_ret
    exact ⟨by first | rfl | (simp; done) | (simp [*]; done), by repeat (first | exact Drawn0.refl _ | apply Drawn0.step)⟩

/-- THE ONE PURE STATEMENT of laws_FnBytesBlank: yours. -/
def laws_FnBytesBlank.Pure : Prop := ∀ (a0 : Int), (Lit.int .u8 a0).wf = true → laws_FnBytesBlank.f a0 = some true
theorem laws_FnBytesBlank.walk (P : laws_FnBytesBlank.Pure) (a0 : Int) (w : World) (w0 : (Lit.int .u8 a0).wf = true) (HTabN : Aside0 (Own.TabN w)) (HTabW : Aside0 (Own.TabW w)) :
    Calls Tryd.prog 4 #[.int .u8 a0] w fun e w' => e = .returned (.bool true) ∧ Below w.heap.size w w' := by
  have h := P a0 w0
  refine (laws_FnBytesBlank.calls a0 true w h HTabN HTabW).mono ?_
  rintro e w' ⟨rfl, hd⟩
  exact ⟨rfl, hd.below⟩

end Go.Proofs.YtfhhbfllbhibgaaDoor.PFnBytesBlank
