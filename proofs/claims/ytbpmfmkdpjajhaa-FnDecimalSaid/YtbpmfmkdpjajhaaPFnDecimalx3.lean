-- Laid by a program of this session, out of the translation's print.
import Derived.Test.YtbpmfmkdpjajhaaPFnDecimalx0
import Derived.Test.YtbpmfmkdpjajhaaPFnDecimalx1
import Derived.Test.YtbpmfmkdpjajhaaPFnDecimalx2
namespace Go.Proofs.Ytbpmfmkdpjajhaa.PFnDecimal
open Go.Proofs.Ytbpmfmkdpjajhaa.Own
open Go.RowKit Go.Proofs.YtbpmfmkdpjajhaaW.PrintWords Go.Proofs.YtbpmfmkdpjajhaaW.PrintLast Go.Proofs.YtbpmfmkdpjajhaaW.PrintMore
attribute [local go_sem] max2_int min2_int max_two min_two max_three min_three max_four min_four   -- for this text's walks alone
set_option linter.unusedVariables false
set_option linter.unusedSimpArgs false

/-! ### impl_IsDecimal: function 26 -/
def impl_IsDecimal.f (k : Nat) (a0 : ByteArray) : Option (Bool) := if (a0.size : Int) ≤ 140737488355328 then ((tdjs_AsDecimalLiteral.f k (Go.Proofs.Ytbpmfmkdpjajhaa.Own.numsOf a0)).bind fun t118 => (some t118)) else (none)
theorem impl_IsDecimal.mono : ∀ a0 k, LeO (impl_IsDecimal.f k a0) (impl_IsDecimal.f (k + 1) a0) := by
  intro a0 k
  unfold impl_IsDecimal.f
  repeat' first
      | (with_reducible exact tdjs_AsDecimalLiteral.mono _ _)
      | (with_reducible exact LeO.refl _)
      | (with_reducible exact LeO.none _)
      | (with_reducible refine LeO.ite ?_ ?_)
      | (with_reducible refine LeO.bind ?_ (fun _ => ?_))
      | exact tdjs_AsDecimalLiteral.mono _ _
      | exact LeO.none _
      | refine LeO.ite ?_ ?_
      | refine LeO.bind ?_ (fun _ => ?_)
set_option maxHeartbeats 8000000 in
set_option maxRecDepth 100000 in
theorem impl_IsDecimal.calls (k : Nat) (a0 : ByteArray) (r : Bool) (w : World) (h : impl_IsDecimal.f k a0 = some r) :
    Calls Try.prog 26 #[.string a0] w fun e w' => e = .returned (.bool r) ∧ Below w.heap.size w w' := by
  have HB := Aside0.mk (Below.refl w.heap.size w)
  have H : (if (a0.size : Int) ≤ 140737488355328 then ((tdjs_AsDecimalLiteral.f k (Go.Proofs.Ytbpmfmkdpjajhaa.Own.numsOf a0)).bind fun t118 => (some t118)) else (none)) = some r := h
  clear h
  by_cases c2 : (a0.size : Int) ≤ 140737488355328
  · rw [if_pos c2] at H
    have c2b0 : decide ((a0.size : Int) ≤ 140737488355328) = true := decide_eq_true c2
    have c2b1 : decide (a0.size ≤ 140737488355328) = true := decide_eq_true (by omega)
    clear c2
    obtain ⟨y115, hy115⟩ : ∃ y_ : List Int, y_ = (Go.Proofs.Ytbpmfmkdpjajhaa.Own.numsOf a0) := ⟨_, rfl⟩
    replace H : ((tdjs_AsDecimalLiteral.f k y115).bind fun t118 => (some t118)) = some r := by first | (rw [hy115]; with_reducible exact H) | (have H2_ := (Option.bind_some _ _).symm.trans H; rw [hy115]; with_reducible exact H2_) | (have H2_ := (Option.bind_some _ _).symm.trans H; with_reducible exact H2_) | with_reducible exact H | (rw [hy115]; exact H) | exact H
    have Ny115 := Aside0.mk hy115
    clear hy115
    replace H := Option.bind_eq_some_iff.mp H
    obtain ⟨t118, A30, H⟩ := H
    replace H : (some t118) = some r := H
    have A3 := Aside0.mk A30
    clear A30
    obtain rfl := Option.some.inj H
    go_enter Try.func26, Try.ntmps26
    go_wp2_with (first | ((with_reducible refine gate_dst (N := 4) rfl ?_); refine Go.Proofs.Ytbpmfmkdpjajhaa.Own.V_bytes _ 5 rfl (N' := 4) rfl 9 22 _ rfl Try.underlying9 Try.underlying22 Try.underlying5 a0 rfl (of_decide_eq_true (by first | (with_reducible assumption) | assumption)) (Below.refl _ _) (Nat.le_refl _) ?_; intro v116 w4 ho5 hb hg_ hnew_; clear hg_ hnew_; (first | rw [← Ny115.out] at ho5 | (simp only [Int.reduceToNat] at ho5; rw [← Ny115.out] at ho5)); have n0_ := Aside0.mk (Kd.V_lower (Kd.V_mono (ok' := fun k_ => True) ho5 (fun k_ hk_ => trivial)) (below_size (by repeat (first | (with_reducible first | exact HB.out | apply below_alloc | apply pw_below_drewN | apply below_drew1) | exact HB.out)))); have n1_ := Aside0.mk (below_step (by repeat (first | (with_reducible first | exact HB.out | apply below_alloc | apply pw_below_drewN | apply below_drew1) | exact HB.out)) hb); clear HB; have HO117 := n0_; have HB := n1_; clear n0_ n1_; clear hb ho5; obtain ⟨Ao6, co6, eo6⟩ := Kd.V_slice HO117.out; subst eo6) | ((with_reducible refine gate_callee (f := 45) rfl ?_); refine goesL_ (some 5) rfl rfl Try.func45 (by kernel_rfl) rfl #[.slice Ao6 y115.length co6] rfl (by (try simp only [List.map_toArray, List.map_cons, List.map_nil]); first | done | rfl | (simp only [List.length_drop, List.length_take]; rfl)) ?_; (with_reducible refine (tdjs_AsDecimalLiteral.calls k _ _ y115 t118 _ ?side1 ?side2 A3.out).mono ?_); (case side1 => repeat (first | exact (Kd.V_reads' HO117.out).2.2 | (with_reducible refine Kd.C_alloc ?_ _) | (with_reducible refine Kd.C_drewN ?_ _) | (with_reducible refine Kd.C_drew ?_))); (case side2 => exact (Kd.V_reads' HO117.out).2.1); rintro e w' ⟨rfl, ⟨nd, rfl⟩⟩; refine ⟨_, rfl, ?_⟩))
    go_ret
    exact ⟨by first | rfl | (simp [errW_none, errW_some] <;> rfl) | (simp [*, errW_none, errW_some] <;> rfl), by repeat (first | (with_reducible first | exact HB.out | apply below_alloc | apply pw_below_drewN | apply below_drew1) | exact HB.out)⟩
  · rw [if_neg c2] at H
    exact absurd H (by simp)

/-! ### laws_FnDecimal: function 7 -/
def laws_FnDecimal.l0 : Nat → ByteArray → Bool → Bool → Int → Int → Option (Bool)
  | 0, _, _, _, _, _ => none
  | k + 1, x0, x3, x4, x12, x13 => if x13 < x12 then (if x3 = true then (if 0 ≤ x13 then (if x13 < (x0.size : Int) then (if (bt x0 x13) ≥ 48 then (if x4 = true then ((spec_IsLetter.f (bt x0 x13)).bind fun t119 => (laws_FnDecimal.l0 k x0 (decide ((bt x0 x13) ≤ 57)) t119 x12 (wrap64 (x13 + 1)))) else (laws_FnDecimal.l0 k x0 (decide ((bt x0 x13) ≤ 57)) false x12 (wrap64 (x13 + 1)))) else (if x4 = true then ((spec_IsLetter.f (bt x0 x13)).bind fun t120 => (laws_FnDecimal.l0 k x0 false t120 x12 (wrap64 (x13 + 1)))) else (laws_FnDecimal.l0 k x0 false false x12 (wrap64 (x13 + 1))))) else (none)) else (none)) else (if x4 = true then (if 0 ≤ x13 then (if x13 < (x0.size : Int) then ((spec_IsLetter.f (bt x0 x13)).bind fun t121 => (laws_FnDecimal.l0 k x0 false t121 x12 (wrap64 (x13 + 1)))) else (none)) else (none)) else (laws_FnDecimal.l0 k x0 false false x12 (wrap64 (x13 + 1))))) else ((laws_script.f k (([x0] : List ByteArray))).bind fun t125 => (if t125 = true then (if x3 = true then ((impl_IsDecimal.f k x0).bind fun t126 => (if (x0.size : Int) = 1 then (some (t126 == true)) else (if 0 < (x0.size : Int) then (some (t126 == ((bt x0 0) != 48))) else (none)))) else (if x4 = true then ((impl_IsDecimal.f k x0).bind fun t127 => (some (t127 == false))) else (some true))) else (some true)))
def laws_FnDecimal.f (k : Nat) (a0 : ByteArray) : Option (Bool) := if (a0.size : Int) > 2147483647 then (some true) else (laws_FnDecimal.l0 k a0 (a0.toList != ([] : List UInt8)) true (a0.size : Int) 0)
theorem laws_FnDecimal.mono_l : ∀ k, (∀ y0 y1 y2 y3 y4, LeO (laws_FnDecimal.l0 k y0 y1 y2 y3 y4) (laws_FnDecimal.l0 (k + 1) y0 y1 y2 y3 y4))
  | 0 => fun _ _ _ _ _ r h => by simp [laws_FnDecimal.l0] at h
  | k + 1 => by
    have ih0 := laws_FnDecimal.mono_l k
    · intro y0 y1 y2 y3 y4
      unfold laws_FnDecimal.l0
      repeat' first
      | (with_reducible exact ih0 _ _ _ _ _)
      | (with_reducible exact impl_IsDecimal.mono _ _)
      | (with_reducible exact laws_script.mono _ _)
      | (with_reducible exact LeO.refl _)
      | (with_reducible exact LeO.none _)
      | (with_reducible refine LeO.ite ?_ ?_)
      | (with_reducible refine LeO.bind ?_ (fun _ => ?_))
      | exact ih0 _ _ _ _ _
      | exact impl_IsDecimal.mono _ _
      | exact laws_script.mono _ _
      | exact LeO.none _
      | refine LeO.ite ?_ ?_
      | refine LeO.bind ?_ (fun _ => ?_)
theorem laws_FnDecimal.mono : ∀ a0 k, LeO (laws_FnDecimal.f k a0) (laws_FnDecimal.f (k + 1) a0) := by
  intro a0 k
  have ih0 := laws_FnDecimal.mono_l k
  unfold laws_FnDecimal.f
  repeat' first
      | (with_reducible exact ih0 _ _ _ _ _)
      | (with_reducible exact impl_IsDecimal.mono _ _)
      | (with_reducible exact laws_script.mono _ _)
      | (with_reducible exact LeO.refl _)
      | (with_reducible exact LeO.none _)
      | (with_reducible refine LeO.ite ?_ ?_)
      | (with_reducible refine LeO.bind ?_ (fun _ => ?_))
      | exact ih0 _ _ _ _ _
      | exact impl_IsDecimal.mono _ _
      | exact laws_script.mono _ _
      | exact LeO.none _
      | refine LeO.ite ?_ ?_
      | refine LeO.bind ?_ (fun _ => ?_)
set_option maxHeartbeats 8000000 in
set_option maxRecDepth 100000 in
theorem laws_FnDecimal.calls (k : Nat) (a0 : ByteArray) (r : Bool) (w : World) (h : laws_FnDecimal.f k a0 = some r) :
    Calls Try.prog 7 #[.string a0] w fun e w' => e = .returned (.bool r) ∧ Below w.heap.size w w' := by
  have HB := Aside0.mk (Below.refl w.heap.size w)
  have H : (if (a0.size : Int) > 2147483647 then (some true) else (laws_FnDecimal.l0 k a0 (a0.toList != ([] : List UInt8)) true (a0.size : Int) 0)) = some r := h
  clear h
  by_cases c2 : (a0.size : Int) > 2147483647
  · rw [if_pos c2] at H
    have c2b0 : decide (2147483647 < (a0.size : Int)) = true := decide_eq_true c2
    have c2b1 : decide (2147483647 < a0.size) = true := decide_eq_true (by omega)
    clear c2
    obtain rfl := Option.some.inj H
    go_enter Try.func7, Try.ntmps7
    go_wp2
    go_ret
    exact ⟨by first | rfl | (simp [errW_none, errW_some] <;> rfl) | (simp [*, errW_none, errW_some] <;> rfl), by repeat (first | (with_reducible first | exact HB.out | apply below_alloc | apply pw_below_drewN | apply below_drew1) | exact HB.out)⟩
  · rw [if_neg c2] at H
    have c2b0 : decide (2147483647 < (a0.size : Int)) = false := decide_eq_false c2
    have c2b1 : decide (2147483647 < a0.size) = false := decide_eq_false (by omega)
    clear c2
    have H' := Aside0.mk H
    clear H
    go_enter Try.func7, Try.ntmps7
    go_wp2
    go_loopg [3, 4, 13] k (fun kq v3 v4 v13 w' => ∃ (x3_1 : Bool) (x4_1 : Bool) (x13_1 : Int), v3 = .bool x3_1 ∧ v4 = .bool x4_1 ∧ v13 = .int .i64 x13_1 ∧ Aside0 (laws_FnDecimal.l0 kq a0 x3_1 x4_1 (a0.size : Int) x13_1 = some r) ∧ Aside0 (kq ≤ k) ∧ Aside0 (Below w.heap.size w w'))
    case atStart => exact ⟨((a0.toList != ([] : List UInt8))), (true), (0), (by first | rfl | (simp; done) | (simp [*]; done) | (simp; generalize ByteArray.toList _ = q_; cases q_ <;> rfl)), (by first | rfl | (simp; done) | (simp [*]; done) | (simp; generalize ByteArray.toList _ = q_; cases q_ <;> rfl)), (by first | rfl | (simp; done) | (simp [*]; done) | (simp; generalize ByteArray.toList _ = q_; cases q_ <;> rfl)), H', ⟨Nat.le_refl _⟩, ⟨by repeat (first | (with_reducible first | exact HB.out | apply below_alloc | apply pw_below_drewN | apply below_drew1) | exact HB.out)⟩⟩
    case round =>
      clear H'
      try clear c2
      try clear c2b0
      try clear c2b1
      try clear p2
      obtain ⟨x3_1, x4_1, x13_1, rfl, rfl, rfl, HA, HK1, HB⟩ := hrel
      cases gk with
      | zero => exact absurd HA.out (by simp [laws_FnDecimal.l0])
      | succ k1 =>
        have H := HA.out
        clear HA
        simp only [laws_FnDecimal.l0] at H
        by_cases c3 : x13_1 < (a0.size : Int)
        · rw [if_pos c3] at H
          have c3b0 : decide (x13_1 < (a0.size : Int)) = true := decide_eq_true c3
          clear c3
          by_cases c4 : x3_1 = true
          · subst c4
            have H1 : (if 0 ≤ x13_1 then (if x13_1 < (a0.size : Int) then (if (bt a0 x13_1) ≥ 48 then (if x4_1 = true then ((spec_IsLetter.f (bt a0 x13_1)).bind fun t119 => (laws_FnDecimal.l0 k1 a0 (decide ((bt a0 x13_1) ≤ 57)) t119 (a0.size : Int) (wrap64 (x13_1 + 1)))) else (laws_FnDecimal.l0 k1 a0 (decide ((bt a0 x13_1) ≤ 57)) false (a0.size : Int) (wrap64 (x13_1 + 1)))) else (if x4_1 = true then ((spec_IsLetter.f (bt a0 x13_1)).bind fun t120 => (laws_FnDecimal.l0 k1 a0 false t120 (a0.size : Int) (wrap64 (x13_1 + 1)))) else (laws_FnDecimal.l0 k1 a0 false false (a0.size : Int) (wrap64 (x13_1 + 1))))) else (none)) else (none)) = some r := by rw [if_pos rfl] at H; exact H
            clear H
            have H := H1
            clear H1
            by_cases c5 : 0 ≤ x13_1
            · rw [if_pos c5] at H
              have c5b0 : decide (0 ≤ x13_1) = true := decide_eq_true c5
              clear c5
              by_cases c6 : x13_1 < (a0.size : Int)
              · rw [if_pos c6] at H
                have c6b0 : decide (x13_1 < (a0.size : Int)) = true := decide_eq_true c6
                clear c6
                by_cases c8 : (bt a0 x13_1) ≥ 48
                · rw [if_pos c8] at H
                  have c8b0 : decide (48 ≤ (bt a0 x13_1)) = true := decide_eq_true c8
                  clear c8
                  by_cases c10 : x4_1 = true
                  · subst c10
                    have H1 : ((spec_IsLetter.f (bt a0 x13_1)).bind fun t119 => (laws_FnDecimal.l0 k1 a0 (decide ((bt a0 x13_1) ≤ 57)) t119 (a0.size : Int) (wrap64 (x13_1 + 1)))) = some r := by rw [if_pos rfl] at H; exact H
                    clear H
                    have H := H1
                    clear H1
                    replace H := Option.bind_eq_some_iff.mp H
                    obtain ⟨t119, A120, H⟩ := H
                    replace H : (laws_FnDecimal.l0 k1 a0 (decide ((bt a0 x13_1) ≤ 57)) t119 (a0.size : Int) (wrap64 (x13_1 + 1))) = some r := H
                    have A12 := Aside0.mk A120
                    clear A120
                    have H' := Aside0.mk H
                    clear H
                    have p7 : 0 ≤ (x13_1 : Int) := of_decide_eq_true (by first | (with_reducible assumption) | assumption)
                    have q7 : x13_1 < (a0.size : Int) := of_decide_eq_true (by first | (with_reducible assumption) | assumption)
                    have hx7 := bt_at a0 x13_1
                    replace p7 := eq_true p7
                    replace q7 := eq_true q7
                    have p9 : 0 ≤ (x13_1 : Int) := of_decide_eq_true (by first | (with_reducible assumption) | assumption)
                    have q9 : x13_1 < (a0.size : Int) := of_decide_eq_true (by first | (with_reducible assumption) | assumption)
                    have hx9 := bt_at a0 x13_1
                    replace p9 := eq_true p9
                    replace q9 := eq_true q9
                    have p11 : 0 ≤ (x13_1 : Int) := of_decide_eq_true (by first | (with_reducible assumption) | assumption)
                    have q11 : x13_1 < (a0.size : Int) := of_decide_eq_true (by first | (with_reducible assumption) | assumption)
                    have hx11 := bt_at a0 x13_1
                    replace p11 := eq_true p11
                    replace q11 := eq_true q11
                    go_wp2_with (first | (go_at_call 24; (with_reducible refine (spec_IsLetter.calls (bt a0 x13_1) t119 _ A12.out).mono ?_); rintro e w' ⟨rfl, ⟨nd, rfl⟩⟩))
                    go_roundg k1
                    case measure => have := HK1.out; omega
                    case rel => exact ⟨(decide ((bt a0 x13_1) ≤ 57)), (t119), (wrap64 (x13_1 + 1)), (by first | rfl | (simp; done) | (simp [*]; done) | (simp; generalize ByteArray.toList _ = q_; cases q_ <;> rfl)), (by first | rfl | (simp; done) | (simp [*]; done) | (simp; generalize ByteArray.toList _ = q_; cases q_ <;> rfl)), (by first | rfl | (simp; done) | (simp [*]; done) | (simp; generalize ByteArray.toList _ = q_; cases q_ <;> rfl)), H', ⟨by have := HK1.out; omega⟩, ⟨by repeat (first | (with_reducible first | exact HB.out | apply below_alloc | apply pw_below_drewN | apply below_drew1) | exact HB.out)⟩⟩
                  · replace c10 := Bool.eq_false_iff.mpr c10
                    subst c10
                    have H1 : (laws_FnDecimal.l0 k1 a0 (decide ((bt a0 x13_1) ≤ 57)) false (a0.size : Int) (wrap64 (x13_1 + 1))) = some r := by rw [if_neg (show ¬ (false = true) by decide)] at H; exact H
                    clear H
                    have H := H1
                    clear H1
                    have H' := Aside0.mk H
                    clear H
                    have p7 : 0 ≤ (x13_1 : Int) := of_decide_eq_true (by first | (with_reducible assumption) | assumption)
                    have q7 : x13_1 < (a0.size : Int) := of_decide_eq_true (by first | (with_reducible assumption) | assumption)
                    have hx7 := bt_at a0 x13_1
                    replace p7 := eq_true p7
                    replace q7 := eq_true q7
                    have p9 : 0 ≤ (x13_1 : Int) := of_decide_eq_true (by first | (with_reducible assumption) | assumption)
                    have q9 : x13_1 < (a0.size : Int) := of_decide_eq_true (by first | (with_reducible assumption) | assumption)
                    have hx9 := bt_at a0 x13_1
                    replace p9 := eq_true p9
                    replace q9 := eq_true q9
                    go_wp2
                    go_roundg k1
                    case measure => have := HK1.out; omega
                    case rel => exact ⟨(decide ((bt a0 x13_1) ≤ 57)), (false), (wrap64 (x13_1 + 1)), (by first | rfl | (simp; done) | (simp [*]; done) | (simp; generalize ByteArray.toList _ = q_; cases q_ <;> rfl)), (by first | rfl | (simp; done) | (simp [*]; done) | (simp; generalize ByteArray.toList _ = q_; cases q_ <;> rfl)), (by first | rfl | (simp; done) | (simp [*]; done) | (simp; generalize ByteArray.toList _ = q_; cases q_ <;> rfl)), H', ⟨by have := HK1.out; omega⟩, ⟨by repeat (first | (with_reducible first | exact HB.out | apply below_alloc | apply pw_below_drewN | apply below_drew1) | exact HB.out)⟩⟩
                · rw [if_neg c8] at H
                  have c8b0 : decide (48 ≤ (bt a0 x13_1)) = false := decide_eq_false c8
                  clear c8
                  by_cases c13 : x4_1 = true
                  · subst c13
                    have H1 : ((spec_IsLetter.f (bt a0 x13_1)).bind fun t120 => (laws_FnDecimal.l0 k1 a0 false t120 (a0.size : Int) (wrap64 (x13_1 + 1)))) = some r := by rw [if_pos rfl] at H; exact H
                    clear H
                    have H := H1
                    clear H1
                    replace H := Option.bind_eq_some_iff.mp H
                    obtain ⟨t120, A150, H⟩ := H
                    replace H : (laws_FnDecimal.l0 k1 a0 false t120 (a0.size : Int) (wrap64 (x13_1 + 1))) = some r := H
                    have A15 := Aside0.mk A150
                    clear A150
                    have H' := Aside0.mk H
                    clear H
                    have p7 : 0 ≤ (x13_1 : Int) := of_decide_eq_true (by first | (with_reducible assumption) | assumption)
                    have q7 : x13_1 < (a0.size : Int) := of_decide_eq_true (by first | (with_reducible assumption) | assumption)
                    have hx7 := bt_at a0 x13_1
                    replace p7 := eq_true p7
                    replace q7 := eq_true q7
                    have p14 : 0 ≤ (x13_1 : Int) := of_decide_eq_true (by first | (with_reducible assumption) | assumption)
                    have q14 : x13_1 < (a0.size : Int) := of_decide_eq_true (by first | (with_reducible assumption) | assumption)
                    have hx14 := bt_at a0 x13_1
                    replace p14 := eq_true p14
                    replace q14 := eq_true q14
                    go_wp2_with (first | (go_at_call 24; (with_reducible refine (spec_IsLetter.calls (bt a0 x13_1) t120 _ A15.out).mono ?_); rintro e w' ⟨rfl, ⟨nd, rfl⟩⟩))
                    go_roundg k1
                    case measure => have := HK1.out; omega
                    case rel => exact ⟨(false), (t120), (wrap64 (x13_1 + 1)), (by first | rfl | (simp; done) | (simp [*]; done) | (simp; generalize ByteArray.toList _ = q_; cases q_ <;> rfl)), (by first | rfl | (simp; done) | (simp [*]; done) | (simp; generalize ByteArray.toList _ = q_; cases q_ <;> rfl)), (by first | rfl | (simp; done) | (simp [*]; done) | (simp; generalize ByteArray.toList _ = q_; cases q_ <;> rfl)), H', ⟨by have := HK1.out; omega⟩, ⟨by repeat (first | (with_reducible first | exact HB.out | apply below_alloc | apply pw_below_drewN | apply below_drew1) | exact HB.out)⟩⟩
                  · replace c13 := Bool.eq_false_iff.mpr c13
                    subst c13
                    have H1 : (laws_FnDecimal.l0 k1 a0 false false (a0.size : Int) (wrap64 (x13_1 + 1))) = some r := by rw [if_neg (show ¬ (false = true) by decide)] at H; exact H
                    clear H
                    have H := H1
                    clear H1
                    have H' := Aside0.mk H
                    clear H
                    have p7 : 0 ≤ (x13_1 : Int) := of_decide_eq_true (by first | (with_reducible assumption) | assumption)
                    have q7 : x13_1 < (a0.size : Int) := of_decide_eq_true (by first | (with_reducible assumption) | assumption)
                    have hx7 := bt_at a0 x13_1
                    replace p7 := eq_true p7
                    replace q7 := eq_true q7
                    go_wp2
                    go_roundg k1
                    case measure => have := HK1.out; omega
                    case rel => exact ⟨(false), (false), (wrap64 (x13_1 + 1)), (by first | rfl | (simp; done) | (simp [*]; done) | (simp; generalize ByteArray.toList _ = q_; cases q_ <;> rfl)), (by first | rfl | (simp; done) | (simp [*]; done) | (simp; generalize ByteArray.toList _ = q_; cases q_ <;> rfl)), (by first | rfl | (simp; done) | (simp [*]; done) | (simp; generalize ByteArray.toList _ = q_; cases q_ <;> rfl)), H', ⟨by have := HK1.out; omega⟩, ⟨by repeat (first | (with_reducible first | exact HB.out | apply below_alloc | apply pw_below_drewN | apply below_drew1) | exact HB.out)⟩⟩
              · rw [if_neg c6] at H
                exact absurd H (by simp)
            · rw [if_neg c5] at H
              exact absurd H (by simp)
          · replace c4 := Bool.eq_false_iff.mpr c4
            subst c4
            have H1 : (if x4_1 = true then (if 0 ≤ x13_1 then (if x13_1 < (a0.size : Int) then ((spec_IsLetter.f (bt a0 x13_1)).bind fun t121 => (laws_FnDecimal.l0 k1 a0 false t121 (a0.size : Int) (wrap64 (x13_1 + 1)))) else (none)) else (none)) else (laws_FnDecimal.l0 k1 a0 false false (a0.size : Int) (wrap64 (x13_1 + 1)))) = some r := by rw [if_neg (show ¬ (false = true) by decide)] at H; exact H
            clear H
            have H := H1
            clear H1
            by_cases c16 : x4_1 = true
            · subst c16
              have H1 : (if 0 ≤ x13_1 then (if x13_1 < (a0.size : Int) then ((spec_IsLetter.f (bt a0 x13_1)).bind fun t121 => (laws_FnDecimal.l0 k1 a0 false t121 (a0.size : Int) (wrap64 (x13_1 + 1)))) else (none)) else (none)) = some r := by rw [if_pos rfl] at H; exact H
              clear H
              have H := H1
              clear H1
              by_cases c17 : 0 ≤ x13_1
              · rw [if_pos c17] at H
                have c17b0 : decide (0 ≤ x13_1) = true := decide_eq_true c17
                clear c17
                by_cases c18 : x13_1 < (a0.size : Int)
                · rw [if_pos c18] at H
                  have c18b0 : decide (x13_1 < (a0.size : Int)) = true := decide_eq_true c18
                  clear c18
                  replace H := Option.bind_eq_some_iff.mp H
                  obtain ⟨t121, A200, H⟩ := H
                  replace H : (laws_FnDecimal.l0 k1 a0 false t121 (a0.size : Int) (wrap64 (x13_1 + 1))) = some r := H
                  have A20 := Aside0.mk A200
                  clear A200
                  have H' := Aside0.mk H
                  clear H
                  have p19 : 0 ≤ (x13_1 : Int) := of_decide_eq_true (by first | (with_reducible assumption) | assumption)
                  have q19 : x13_1 < (a0.size : Int) := of_decide_eq_true (by first | (with_reducible assumption) | assumption)
                  have hx19 := bt_at a0 x13_1
                  replace p19 := eq_true p19
                  replace q19 := eq_true q19
                  go_wp2_with (first | (go_at_call 24; (with_reducible refine (spec_IsLetter.calls (bt a0 x13_1) t121 _ A20.out).mono ?_); rintro e w' ⟨rfl, ⟨nd, rfl⟩⟩))
                  go_roundg k1
                  case measure => have := HK1.out; omega
                  case rel => exact ⟨(false), (t121), (wrap64 (x13_1 + 1)), (by first | rfl | (simp; done) | (simp [*]; done) | (simp; generalize ByteArray.toList _ = q_; cases q_ <;> rfl)), (by first | rfl | (simp; done) | (simp [*]; done) | (simp; generalize ByteArray.toList _ = q_; cases q_ <;> rfl)), (by first | rfl | (simp; done) | (simp [*]; done) | (simp; generalize ByteArray.toList _ = q_; cases q_ <;> rfl)), H', ⟨by have := HK1.out; omega⟩, ⟨by repeat (first | (with_reducible first | exact HB.out | apply below_alloc | apply pw_below_drewN | apply below_drew1) | exact HB.out)⟩⟩
                · rw [if_neg c18] at H
                  exact absurd H (by simp)
              · rw [if_neg c17] at H
                exact absurd H (by simp)
            · replace c16 := Bool.eq_false_iff.mpr c16
              subst c16
              have H1 : (laws_FnDecimal.l0 k1 a0 false false (a0.size : Int) (wrap64 (x13_1 + 1))) = some r := by rw [if_neg (show ¬ (false = true) by decide)] at H; exact H
              clear H
              have H := H1
              clear H1
              have H' := Aside0.mk H
              clear H
              go_wp2
              go_roundg k1
              case measure => have := HK1.out; omega
              case rel => exact ⟨(false), (false), (wrap64 (x13_1 + 1)), (by first | rfl | (simp; done) | (simp [*]; done) | (simp; generalize ByteArray.toList _ = q_; cases q_ <;> rfl)), (by first | rfl | (simp; done) | (simp [*]; done) | (simp; generalize ByteArray.toList _ = q_; cases q_ <;> rfl)), (by first | rfl | (simp; done) | (simp [*]; done) | (simp; generalize ByteArray.toList _ = q_; cases q_ <;> rfl)), H', ⟨by have := HK1.out; omega⟩, ⟨by repeat (first | (with_reducible first | exact HB.out | apply below_alloc | apply pw_below_drewN | apply below_drew1) | exact HB.out)⟩⟩
        · rw [if_neg c3] at H
          have c3b0 : decide (x13_1 < (a0.size : Int)) = false := decide_eq_false c3
          clear c3
          obtain ⟨y122, hy122⟩ : ∃ y_ : List ByteArray, y_ = (([a0] : List ByteArray)) := ⟨_, rfl⟩
          replace H : ((laws_script.f k1 y122).bind fun t125 => (if t125 = true then (if x3_1 = true then ((impl_IsDecimal.f k1 a0).bind fun t126 => (if (a0.size : Int) = 1 then (some (t126 == true)) else (if 0 < (a0.size : Int) then (some (t126 == ((bt a0 0) != 48))) else (none)))) else (if x4_1 = true then ((impl_IsDecimal.f k1 a0).bind fun t127 => (some (t127 == false))) else (some true))) else (some true))) = some r := by first | (rw [hy122]; with_reducible exact H) | (have H2_ := (Option.bind_some _ _).symm.trans H; rw [hy122]; with_reducible exact H2_) | (have H2_ := (Option.bind_some _ _).symm.trans H; with_reducible exact H2_) | with_reducible exact H | (rw [hy122]; exact H) | exact H
          have Ny122 := Aside0.mk hy122
          clear hy122
          replace H := Option.bind_eq_some_iff.mp H
          obtain ⟨t125, A210, H⟩ := H
          replace H : (if t125 = true then (if x3_1 = true then ((impl_IsDecimal.f k1 a0).bind fun t126 => (if (a0.size : Int) = 1 then (some (t126 == true)) else (if 0 < (a0.size : Int) then (some (t126 == ((bt a0 0) != 48))) else (none)))) else (if x4_1 = true then ((impl_IsDecimal.f k1 a0).bind fun t127 => (some (t127 == false))) else (some true))) else (some true)) = some r := H
          have A21 := Aside0.mk A210
          clear A210
          by_cases c22 : t125 = true
          · subst c22
            have H1 : (if x3_1 = true then ((impl_IsDecimal.f k1 a0).bind fun t126 => (if (a0.size : Int) = 1 then (some (t126 == true)) else (if 0 < (a0.size : Int) then (some (t126 == ((bt a0 0) != 48))) else (none)))) else (if x4_1 = true then ((impl_IsDecimal.f k1 a0).bind fun t127 => (some (t127 == false))) else (some true))) = some r := by rw [if_pos rfl] at H; exact H
            clear H
            have H := H1
            clear H1
            by_cases c23 : x3_1 = true
            · subst c23
              have H1 : ((impl_IsDecimal.f k1 a0).bind fun t126 => (if (a0.size : Int) = 1 then (some (t126 == true)) else (if 0 < (a0.size : Int) then (some (t126 == ((bt a0 0) != 48))) else (none)))) = some r := by rw [if_pos rfl] at H; exact H
              clear H
              have H := H1
              clear H1
              replace H := Option.bind_eq_some_iff.mp H
              obtain ⟨t126, A240, H⟩ := H
              replace H : (if (a0.size : Int) = 1 then (some (t126 == true)) else (if 0 < (a0.size : Int) then (some (t126 == ((bt a0 0) != 48))) else (none))) = some r := H
              have A24 := Aside0.mk A240
              clear A240
              by_cases c25 : (a0.size : Int) = 1
              · rw [if_pos c25] at H
                have c25b0 : ((a0.size : Int) == 1) = true := beq_iff_eq.mpr c25
                have c25b1 : ((a0.size : Int) != 1) = false := bne_eq_false_iff_eq.mpr c25
                clear c25
                obtain rfl := Option.some.inj H
                go_wp2_with (first | ((with_reducible refine gate_dst (N := 38) rfl ?_); (try (refine gate_guard (by rfl) ?_; dsimp only)); refine Kd.R_lit Kd.string _ 9 ?hg (N := 38) ?hd (xs := ([a0] : List ByteArray)) (inner := [.string a0]) (ok := fun _ => True) (okp := fun _ => True) ?hr ?hp (fun _ hk => hk) trivial (Below.refl _ _) (Nat.le_refl _) (by simp) ?_; (case hd => rfl); (case hg => rfl); (case hr => first | (go_simp; done) | (go_simp; rfl)); (case hp => exact (Reps.one (show Kd.M Kd.string _ _ _ a0 [.string a0] from rfl) (Reps.none _ _))); intro v123 w26 ho27 hb hg_ hnew_; clear hg_ hnew_; (first | rw [← Ny122.out] at ho27 | (simp only [Int.reduceToNat] at ho27; rw [← Ny122.out] at ho27)); have n0_ := Aside0.mk (Kd.R_lower ho27 (below_size (by repeat (first | (with_reducible first | exact HB.out | apply below_alloc | apply pw_below_drewN | apply below_drew1) | exact HB.out)))); have n1_ := Aside0.mk (below_step (by repeat (first | (with_reducible first | exact HB.out | apply below_alloc | apply pw_below_drewN | apply below_drew1) | exact HB.out)) hb); clear HB; have HO124 := n0_; have HB := n1_; clear n0_ n1_; clear hb ho27; obtain ⟨Ao28, co28, eo28⟩ := Kd.R_slice HO124.out; subst eo28) | ((with_reducible refine gate_callee (f := 25) rfl ?_); refine goesL_ (some 39) rfl rfl Try.func25 (by kernel_rfl) rfl #[.slice Ao28 y122.length co28] rfl (by (try simp only [List.map_toArray, List.map_cons, List.map_nil]); first | done | rfl | (simp only [List.length_drop, List.length_take]; rfl)) ?_; (with_reducible refine (laws_script.calls k1 _ _ y122 true _ ?side1 ?side2 A21.out).mono ?_); (case side1 => repeat (first | exact (Kd.R_reads' HO124.out).2.2 | (with_reducible refine Kd.C_alloc ?_ _) | (with_reducible refine Kd.C_drewN ?_ _) | (with_reducible refine Kd.C_drew ?_))); (case side2 => exact (Kd.R_reads' HO124.out).2.1); rintro e w29 ⟨rfl, hb⟩; refine ⟨_, rfl, ?_⟩; have n0_ := Aside0.mk (Kd.R_below (by (with_reducible repeat (first | apply Kd.R_alloc | apply Kd.R_drewN | apply Kd.R_drew)); exact HO124.out) hb); have n1_ := Aside0.mk (below_step (by repeat (first | (with_reducible first | exact HB.out | apply below_alloc | apply pw_below_drewN | apply below_drew1) | exact HB.out)) hb); clear HO124; clear HB; have HO124 := n0_; have HB := n1_; clear n0_ n1_; (try clear hb); (try clear hb2); (try clear hk); (try clear hi)) | ((with_reducible refine gate_callee (f := 26) rfl ?_); refine goesL_ (some 50) rfl rfl Try.func26 (by kernel_rfl) rfl #[.string a0] rfl (by (try simp only [List.map_toArray, List.map_cons, List.map_nil]); first | done | rfl | (simp only [List.length_drop, List.length_take]; rfl)) ?_; (with_reducible refine (impl_IsDecimal.calls k1 a0 t126 _ A24.out).mono ?_); rintro e w30 ⟨rfl, hb⟩; refine ⟨_, rfl, ?_⟩; have n0_ := Aside0.mk (Kd.R_below (by (with_reducible repeat (first | apply Kd.R_alloc | apply Kd.R_drewN | apply Kd.R_drew)); exact HO124.out) hb); have n1_ := Aside0.mk (below_step (by repeat (first | (with_reducible first | exact HB.out | apply below_alloc | apply pw_below_drewN | apply below_drew1) | exact HB.out)) hb); clear HO124; clear HB; have HO124 := n0_; have HB := n1_; clear n0_ n1_; (try clear hb); (try clear hb2); (try clear hk); (try clear hi)))
                go_ret
                exact ⟨by first | rfl | (simp [errW_none, errW_some] <;> rfl) | (simp [*, errW_none, errW_some] <;> rfl), by repeat (first | (with_reducible first | exact HB.out | apply below_alloc | apply pw_below_drewN | apply below_drew1) | exact HB.out)⟩
              · rw [if_neg c25] at H
                have c25b0 : ((a0.size : Int) == 1) = false := beq_eq_false_iff_ne.mpr c25
                have c25b1 : ((a0.size : Int) != 1) = true := bne_iff_ne.mpr c25
                by_cases c31 : 0 < (a0.size : Int)
                · rw [if_pos c31] at H
                  have c31b0 : decide (0 < (a0.size : Int)) = true := decide_eq_true c31
                  have c31b1 : decide (0 < a0.size) = true := decide_eq_true (by omega)
                  clear c31
                  obtain rfl := Option.some.inj H
                  go_wp2_with (first | ((with_reducible refine gate_dst (N := 38) rfl ?_); (try (refine gate_guard (by rfl) ?_; dsimp only)); refine Kd.R_lit Kd.string _ 9 ?hg (N := 38) ?hd (xs := ([a0] : List ByteArray)) (inner := [.string a0]) (ok := fun _ => True) (okp := fun _ => True) ?hr ?hp (fun _ hk => hk) trivial (Below.refl _ _) (Nat.le_refl _) (by simp) ?_; (case hd => rfl); (case hg => rfl); (case hr => first | (go_simp; done) | (go_simp; rfl)); (case hp => exact (Reps.one (show Kd.M Kd.string _ _ _ a0 [.string a0] from rfl) (Reps.none _ _))); intro v123 w33 ho34 hb hg_ hnew_; clear hg_ hnew_; (first | rw [← Ny122.out] at ho34 | (simp only [Int.reduceToNat] at ho34; rw [← Ny122.out] at ho34)); have n0_ := Aside0.mk (Kd.R_lower ho34 (below_size (by repeat (first | (with_reducible first | exact HB.out | apply below_alloc | apply pw_below_drewN | apply below_drew1) | exact HB.out)))); have n1_ := Aside0.mk (below_step (by repeat (first | (with_reducible first | exact HB.out | apply below_alloc | apply pw_below_drewN | apply below_drew1) | exact HB.out)) hb); clear HB; have HO124 := n0_; have HB := n1_; clear n0_ n1_; clear hb ho34; obtain ⟨Ao35, co35, eo35⟩ := Kd.R_slice HO124.out; subst eo35) | ((with_reducible refine gate_callee (f := 25) rfl ?_); refine goesL_ (some 39) rfl rfl Try.func25 (by kernel_rfl) rfl #[.slice Ao35 y122.length co35] rfl (by (try simp only [List.map_toArray, List.map_cons, List.map_nil]); first | done | rfl | (simp only [List.length_drop, List.length_take]; rfl)) ?_; (with_reducible refine (laws_script.calls k1 _ _ y122 true _ ?side1 ?side2 A21.out).mono ?_); (case side1 => repeat (first | exact (Kd.R_reads' HO124.out).2.2 | (with_reducible refine Kd.C_alloc ?_ _) | (with_reducible refine Kd.C_drewN ?_ _) | (with_reducible refine Kd.C_drew ?_))); (case side2 => exact (Kd.R_reads' HO124.out).2.1); rintro e w36 ⟨rfl, hb⟩; refine ⟨_, rfl, ?_⟩; have n0_ := Aside0.mk (Kd.R_below (by (with_reducible repeat (first | apply Kd.R_alloc | apply Kd.R_drewN | apply Kd.R_drew)); exact HO124.out) hb); have n1_ := Aside0.mk (below_step (by repeat (first | (with_reducible first | exact HB.out | apply below_alloc | apply pw_below_drewN | apply below_drew1) | exact HB.out)) hb); clear HO124; clear HB; have HO124 := n0_; have HB := n1_; clear n0_ n1_; (try clear hb); (try clear hb2); (try clear hk); (try clear hi)) | ((with_reducible refine gate_callee (f := 26) rfl ?_); refine goesL_ (some 50) rfl rfl Try.func26 (by kernel_rfl) rfl #[.string a0] rfl (by (try simp only [List.map_toArray, List.map_cons, List.map_nil]); first | done | rfl | (simp only [List.length_drop, List.length_take]; rfl)) ?_; (with_reducible refine (impl_IsDecimal.calls k1 a0 t126 _ A24.out).mono ?_); rintro e w37 ⟨rfl, hb⟩; refine ⟨_, rfl, ?_⟩; have n0_ := Aside0.mk (Kd.R_below (by (with_reducible repeat (first | apply Kd.R_alloc | apply Kd.R_drewN | apply Kd.R_drew)); exact HO124.out) hb); have n1_ := Aside0.mk (below_step (by repeat (first | (with_reducible first | exact HB.out | apply below_alloc | apply pw_below_drewN | apply below_drew1) | exact HB.out)) hb); clear HO124; clear HB; have HO124 := n0_; have HB := n1_; clear n0_ n1_; (try clear hb); (try clear hb2); (try clear hk); (try clear hi); have p32 : 0 ≤ (0 : Int) := (by omega); have q32 : 0 < a0.size := (by have : (0 : Int) < (a0.size : Int) := of_decide_eq_true (by first | (with_reducible assumption) | assumption); omega); have hx32 : ∀ h : 0 < a0.size, ((a0[0]'h).toNat : Int) = bt a0 0 := bt_at a0 0; clear p32; have qi32 : (0 < (a0.size : Int)) = True := eq_true (of_decide_eq_true (by first | (with_reducible assumption) | assumption)); replace q32 := eq_true q32))
                  go_ret
                  exact ⟨by first | rfl | (simp [errW_none, errW_some] <;> rfl) | (simp [*, errW_none, errW_some] <;> rfl), by repeat (first | (with_reducible first | exact HB.out | apply below_alloc | apply pw_below_drewN | apply below_drew1) | exact HB.out)⟩
                · rw [if_neg c31] at H
                  exact absurd H (by simp)
            · replace c23 := Bool.eq_false_iff.mpr c23
              subst c23
              have H1 : (if x4_1 = true then ((impl_IsDecimal.f k1 a0).bind fun t127 => (some (t127 == false))) else (some true)) = some r := by rw [if_neg (show ¬ (false = true) by decide)] at H; exact H
              clear H
              have H := H1
              clear H1
              by_cases c38 : x4_1 = true
              · subst c38
                have H1 : ((impl_IsDecimal.f k1 a0).bind fun t127 => (some (t127 == false))) = some r := by rw [if_pos rfl] at H; exact H
                clear H
                have H := H1
                clear H1
                replace H := Option.bind_eq_some_iff.mp H
                obtain ⟨t127, A390, H⟩ := H
                replace H : (some (t127 == false)) = some r := H
                have A39 := Aside0.mk A390
                clear A390
                obtain rfl := Option.some.inj H
                go_wp2_with (first | ((with_reducible refine gate_dst (N := 38) rfl ?_); (try (refine gate_guard (by rfl) ?_; dsimp only)); refine Kd.R_lit Kd.string _ 9 ?hg (N := 38) ?hd (xs := ([a0] : List ByteArray)) (inner := [.string a0]) (ok := fun _ => True) (okp := fun _ => True) ?hr ?hp (fun _ hk => hk) trivial (Below.refl _ _) (Nat.le_refl _) (by simp) ?_; (case hd => rfl); (case hg => rfl); (case hr => first | (go_simp; done) | (go_simp; rfl)); (case hp => exact (Reps.one (show Kd.M Kd.string _ _ _ a0 [.string a0] from rfl) (Reps.none _ _))); intro v123 w40 ho41 hb hg_ hnew_; clear hg_ hnew_; (first | rw [← Ny122.out] at ho41 | (simp only [Int.reduceToNat] at ho41; rw [← Ny122.out] at ho41)); have n0_ := Aside0.mk (Kd.R_lower ho41 (below_size (by repeat (first | (with_reducible first | exact HB.out | apply below_alloc | apply pw_below_drewN | apply below_drew1) | exact HB.out)))); have n1_ := Aside0.mk (below_step (by repeat (first | (with_reducible first | exact HB.out | apply below_alloc | apply pw_below_drewN | apply below_drew1) | exact HB.out)) hb); clear HB; have HO124 := n0_; have HB := n1_; clear n0_ n1_; clear hb ho41; obtain ⟨Ao42, co42, eo42⟩ := Kd.R_slice HO124.out; subst eo42) | ((with_reducible refine gate_callee (f := 25) rfl ?_); refine goesL_ (some 39) rfl rfl Try.func25 (by kernel_rfl) rfl #[.slice Ao42 y122.length co42] rfl (by (try simp only [List.map_toArray, List.map_cons, List.map_nil]); first | done | rfl | (simp only [List.length_drop, List.length_take]; rfl)) ?_; (with_reducible refine (laws_script.calls k1 _ _ y122 true _ ?side1 ?side2 A21.out).mono ?_); (case side1 => repeat (first | exact (Kd.R_reads' HO124.out).2.2 | (with_reducible refine Kd.C_alloc ?_ _) | (with_reducible refine Kd.C_drewN ?_ _) | (with_reducible refine Kd.C_drew ?_))); (case side2 => exact (Kd.R_reads' HO124.out).2.1); rintro e w43 ⟨rfl, hb⟩; refine ⟨_, rfl, ?_⟩; have n0_ := Aside0.mk (Kd.R_below (by (with_reducible repeat (first | apply Kd.R_alloc | apply Kd.R_drewN | apply Kd.R_drew)); exact HO124.out) hb); have n1_ := Aside0.mk (below_step (by repeat (first | (with_reducible first | exact HB.out | apply below_alloc | apply pw_below_drewN | apply below_drew1) | exact HB.out)) hb); clear HO124; clear HB; have HO124 := n0_; have HB := n1_; clear n0_ n1_; (try clear hb); (try clear hb2); (try clear hk); (try clear hi)) | ((with_reducible refine gate_callee (f := 26) rfl ?_); refine goesL_ (some 50) rfl rfl Try.func26 (by kernel_rfl) rfl #[.string a0] rfl (by (try simp only [List.map_toArray, List.map_cons, List.map_nil]); first | done | rfl | (simp only [List.length_drop, List.length_take]; rfl)) ?_; (with_reducible refine (impl_IsDecimal.calls k1 a0 t127 _ A39.out).mono ?_); rintro e w44 ⟨rfl, hb⟩; refine ⟨_, rfl, ?_⟩; have n0_ := Aside0.mk (Kd.R_below (by (with_reducible repeat (first | apply Kd.R_alloc | apply Kd.R_drewN | apply Kd.R_drew)); exact HO124.out) hb); have n1_ := Aside0.mk (below_step (by repeat (first | (with_reducible first | exact HB.out | apply below_alloc | apply pw_below_drewN | apply below_drew1) | exact HB.out)) hb); clear HO124; clear HB; have HO124 := n0_; have HB := n1_; clear n0_ n1_; (try clear hb); (try clear hb2); (try clear hk); (try clear hi)))
                go_ret
                exact ⟨by first | rfl | (simp [errW_none, errW_some] <;> rfl) | (simp [*, errW_none, errW_some] <;> rfl), by repeat (first | (with_reducible first | exact HB.out | apply below_alloc | apply pw_below_drewN | apply below_drew1) | exact HB.out)⟩
              · replace c38 := Bool.eq_false_iff.mpr c38
                subst c38
                have H1 : (some true) = some r := by rw [if_neg (show ¬ (false = true) by decide)] at H; exact H
                clear H
                have H := H1
                clear H1
                obtain rfl := Option.some.inj H
                go_wp2_with (first | ((with_reducible refine gate_dst (N := 38) rfl ?_); (try (refine gate_guard (by rfl) ?_; dsimp only)); refine Kd.R_lit Kd.string _ 9 ?hg (N := 38) ?hd (xs := ([a0] : List ByteArray)) (inner := [.string a0]) (ok := fun _ => True) (okp := fun _ => True) ?hr ?hp (fun _ hk => hk) trivial (Below.refl _ _) (Nat.le_refl _) (by simp) ?_; (case hd => rfl); (case hg => rfl); (case hr => first | (go_simp; done) | (go_simp; rfl)); (case hp => exact (Reps.one (show Kd.M Kd.string _ _ _ a0 [.string a0] from rfl) (Reps.none _ _))); intro v123 w45 ho46 hb hg_ hnew_; clear hg_ hnew_; (first | rw [← Ny122.out] at ho46 | (simp only [Int.reduceToNat] at ho46; rw [← Ny122.out] at ho46)); have n0_ := Aside0.mk (Kd.R_lower ho46 (below_size (by repeat (first | (with_reducible first | exact HB.out | apply below_alloc | apply pw_below_drewN | apply below_drew1) | exact HB.out)))); have n1_ := Aside0.mk (below_step (by repeat (first | (with_reducible first | exact HB.out | apply below_alloc | apply pw_below_drewN | apply below_drew1) | exact HB.out)) hb); clear HB; have HO124 := n0_; have HB := n1_; clear n0_ n1_; clear hb ho46; obtain ⟨Ao47, co47, eo47⟩ := Kd.R_slice HO124.out; subst eo47) | ((with_reducible refine gate_callee (f := 25) rfl ?_); refine goesL_ (some 39) rfl rfl Try.func25 (by kernel_rfl) rfl #[.slice Ao47 y122.length co47] rfl (by (try simp only [List.map_toArray, List.map_cons, List.map_nil]); first | done | rfl | (simp only [List.length_drop, List.length_take]; rfl)) ?_; (with_reducible refine (laws_script.calls k1 _ _ y122 true _ ?side1 ?side2 A21.out).mono ?_); (case side1 => repeat (first | exact (Kd.R_reads' HO124.out).2.2 | (with_reducible refine Kd.C_alloc ?_ _) | (with_reducible refine Kd.C_drewN ?_ _) | (with_reducible refine Kd.C_drew ?_))); (case side2 => exact (Kd.R_reads' HO124.out).2.1); rintro e w48 ⟨rfl, hb⟩; refine ⟨_, rfl, ?_⟩; have n0_ := Aside0.mk (Kd.R_below (by (with_reducible repeat (first | apply Kd.R_alloc | apply Kd.R_drewN | apply Kd.R_drew)); exact HO124.out) hb); have n1_ := Aside0.mk (below_step (by repeat (first | (with_reducible first | exact HB.out | apply below_alloc | apply pw_below_drewN | apply below_drew1) | exact HB.out)) hb); clear HO124; clear HB; have HO124 := n0_; have HB := n1_; clear n0_ n1_; (try clear hb); (try clear hb2); (try clear hk); (try clear hi)))
                go_ret
                exact ⟨by first | rfl | (simp [errW_none, errW_some] <;> rfl) | (simp [*, errW_none, errW_some] <;> rfl), by repeat (first | (with_reducible first | exact HB.out | apply below_alloc | apply pw_below_drewN | apply below_drew1) | exact HB.out)⟩
          · replace c22 := Bool.eq_false_iff.mpr c22
            subst c22
            have H1 : (some true) = some r := by rw [if_neg (show ¬ (false = true) by decide)] at H; exact H
            clear H
            have H := H1
            clear H1
            obtain rfl := Option.some.inj H
            go_wp2_with (first | ((with_reducible refine gate_dst (N := 38) rfl ?_); (try (refine gate_guard (by rfl) ?_; dsimp only)); refine Kd.R_lit Kd.string _ 9 ?hg (N := 38) ?hd (xs := ([a0] : List ByteArray)) (inner := [.string a0]) (ok := fun _ => True) (okp := fun _ => True) ?hr ?hp (fun _ hk => hk) trivial (Below.refl _ _) (Nat.le_refl _) (by simp) ?_; (case hd => rfl); (case hg => rfl); (case hr => first | (go_simp; done) | (go_simp; rfl)); (case hp => exact (Reps.one (show Kd.M Kd.string _ _ _ a0 [.string a0] from rfl) (Reps.none _ _))); intro v123 w49 ho50 hb hg_ hnew_; clear hg_ hnew_; (first | rw [← Ny122.out] at ho50 | (simp only [Int.reduceToNat] at ho50; rw [← Ny122.out] at ho50)); have n0_ := Aside0.mk (Kd.R_lower ho50 (below_size (by repeat (first | (with_reducible first | exact HB.out | apply below_alloc | apply pw_below_drewN | apply below_drew1) | exact HB.out)))); have n1_ := Aside0.mk (below_step (by repeat (first | (with_reducible first | exact HB.out | apply below_alloc | apply pw_below_drewN | apply below_drew1) | exact HB.out)) hb); clear HB; have HO124 := n0_; have HB := n1_; clear n0_ n1_; clear hb ho50; obtain ⟨Ao51, co51, eo51⟩ := Kd.R_slice HO124.out; subst eo51) | ((with_reducible refine gate_callee (f := 25) rfl ?_); refine goesL_ (some 39) rfl rfl Try.func25 (by kernel_rfl) rfl #[.slice Ao51 y122.length co51] rfl (by (try simp only [List.map_toArray, List.map_cons, List.map_nil]); first | done | rfl | (simp only [List.length_drop, List.length_take]; rfl)) ?_; (with_reducible refine (laws_script.calls k1 _ _ y122 false _ ?side1 ?side2 A21.out).mono ?_); (case side1 => repeat (first | exact (Kd.R_reads' HO124.out).2.2 | (with_reducible refine Kd.C_alloc ?_ _) | (with_reducible refine Kd.C_drewN ?_ _) | (with_reducible refine Kd.C_drew ?_))); (case side2 => exact (Kd.R_reads' HO124.out).2.1); rintro e w52 ⟨rfl, hb⟩; refine ⟨_, rfl, ?_⟩; have n0_ := Aside0.mk (Kd.R_below (by (with_reducible repeat (first | apply Kd.R_alloc | apply Kd.R_drewN | apply Kd.R_drew)); exact HO124.out) hb); have n1_ := Aside0.mk (below_step (by repeat (first | (with_reducible first | exact HB.out | apply below_alloc | apply pw_below_drewN | apply below_drew1) | exact HB.out)) hb); clear HO124; clear HB; have HO124 := n0_; have HB := n1_; clear n0_ n1_; (try clear hb); (try clear hb2); (try clear hk); (try clear hi)))
            go_ret
            exact ⟨by first | rfl | (simp [errW_none, errW_some] <;> rfl) | (simp [*, errW_none, errW_some] <;> rfl), by repeat (first | (with_reducible first | exact HB.out | apply below_alloc | apply pw_below_drewN | apply below_drew1) | exact HB.out)⟩

/-- THE ONE PURE STATEMENT of laws_FnDecimal: yours. -/
def laws_FnDecimal.Pure : Prop := ∀ (a0 : ByteArray), a0.size ≤ 140737488351232 → ∃ k, laws_FnDecimal.f k a0 = some true
theorem laws_FnDecimal.walk (P : laws_FnDecimal.Pure) (a0 : ByteArray) (w : World) (w0 : a0.size ≤ 140737488351232) :
    Calls Try.prog 7 #[.string a0] w fun e w' => e = .returned (.bool true) ∧ Below w.heap.size w w' := by
  obtain ⟨k, h⟩ := P a0 w0
  refine (laws_FnDecimal.calls k a0 true w h).mono ?_
  rintro e w' ⟨rfl, hd⟩
  exact ⟨rfl, hd⟩

end Go.Proofs.Ytbpmfmkdpjajhaa.PFnDecimal
