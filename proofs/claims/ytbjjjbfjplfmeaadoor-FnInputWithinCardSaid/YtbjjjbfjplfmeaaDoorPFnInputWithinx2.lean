-- Laid by a program of this session, out of the translation's print.
import Derived.Test.YtbjjjbfjplfmeaaDoorPFnInputWithinx0
import Derived.Test.YtbjjjbfjplfmeaaDoorPFnInputWithinx1
namespace Go.Proofs.YtbjjjbfjplfmeaaDoor.PFnInputWithin
open Go.Proofs.YtbjjjbfjplfmeaaDoor.Own
open Go.RowKit Go.Proofs.YtbjjjbfjplfmeaaDoorW.PrintWords Go.Proofs.YtbjjjbfjplfmeaaDoorW.PrintLast Go.Proofs.YtbjjjbfjplfmeaaDoorW.PrintMore
attribute [local go_sem] max2_int min2_int max_two min_two max_three min_three max_four min_four   -- for this text's walks alone
set_option linter.unusedVariables false
set_option linter.unusedSimpArgs false

/-! ### laws_FnInputWithin: function 5 -/
mutual
def laws_FnInputWithin.j0 : Nat → Int → List (List Int) → Bool → Option (Bool)
  | 0, _, _, _ => none
  | k + 1, x0, x1, x32 => if x32 = true then (some true) else (laws_FnInputWithin.l0 k x0 x1 (([] : List Int)) (([] : List Bool)) x1 (x1.length : Int) 0)
def laws_FnInputWithin.l0 : Nat → Int → List (List Int) → List Int → List Bool → List (List Int) → Int → Int → Option (Bool)
  | 0, _, _, _, _, _, _, _ => none
  | k + 1, x0, x1, x5, x6, x35, x36, x37 => if x37 < x36 then (if 0 ≤ x37 then (if x37 < (x35.length : Int) then (if ((rd_L1 x35 x37).length : Int) = 0 then (some true) else (if (wrap64 ((x5.length : Int) + ((rd_L1 x35 x37).length : Int))) ≤ x0 then ((spec_Join.f k (([x5, rd_L1 x35 x37] : List (List Int)))).bind fun t130 => (if x6.length < 140737488355328 then (laws_FnInputWithin.l0 k x0 x1 t130 (x6 ++ [decide ((wrap64 ((x5.length : Int) + ((rd_L1 x35 x37).length : Int))) ≤ x0)]) x35 x36 (wrap64 (x37 + 1))) else (none))) else (if x6.length < 140737488355328 then (laws_FnInputWithin.l0 k x0 x1 x5 (x6 ++ [decide ((wrap64 ((x5.length : Int) + ((rd_L1 x35 x37).length : Int))) ≤ x0)]) x35 x36 (wrap64 (x37 + 1))) else (none)))) else (none)) else (none)) else ((impl_WriteWithin.f x0 x1).bind fun bt139 => ((spec_SameBytes.f k bt139.1 x5).bind fun t145 => (if t145 = true then (laws_FnInputWithin.j2 k x6 bt139.2 ((bt139.2.length : Int) != (x6.length : Int))) else (laws_FnInputWithin.j2 k x6 bt139.2 true))))
def laws_FnInputWithin.j2 : Nat → List Bool → List Bool → Bool → Option (Bool)
  | 0, _, _, _ => none
  | k + 1, x6, x11, x77 => if x77 = true then (some false) else (laws_FnInputWithin.l1 k x11 x6 (x6.length : Int) 0)
def laws_FnInputWithin.l1 : Nat → List Bool → List Bool → Int → Int → Option (Bool)
  | 0, _, _, _, _ => none
  | k + 1, x11, x78, x79, x80 => if x80 < x79 then (if 0 ≤ x80 then (if x80 < (x78.length : Int) then (if x80 < (x11.length : Int) then (if ((rdOf false x11 x80) != (rdOf false x78 x80)) = true then (some false) else (laws_FnInputWithin.l1 k x11 x78 x79 (wrap64 (x80 + 1)))) else (none)) else (none)) else (none)) else (some true)
end
def laws_FnInputWithin.f (k : Nat) (a0 : Int) (l1 : List (List Int)) : Option (Bool) := (laws_zzFits1.f k l1).bind fun t118 => (if t118 = true then ((laws_fewBytes.f k l1).bind fun t119 => (if t119 = true then (if (l1.length : Int) > 20 then (laws_FnInputWithin.j0 k a0 l1 true) else (if a0 < 0 then (laws_FnInputWithin.j0 k a0 l1 true) else (laws_FnInputWithin.j0 k a0 l1 (decide (a0 > 300))))) else (laws_FnInputWithin.j0 k a0 l1 true))) else (some true))
theorem laws_FnInputWithin.mono_l : ∀ k, (∀ y0 y1 y2, LeO (laws_FnInputWithin.j0 k y0 y1 y2) (laws_FnInputWithin.j0 (k + 1) y0 y1 y2)) ∧ (∀ y0 y1 y2 y3 y4 y5 y6, LeO (laws_FnInputWithin.l0 k y0 y1 y2 y3 y4 y5 y6) (laws_FnInputWithin.l0 (k + 1) y0 y1 y2 y3 y4 y5 y6)) ∧ (∀ y0 y1 y2, LeO (laws_FnInputWithin.j2 k y0 y1 y2) (laws_FnInputWithin.j2 (k + 1) y0 y1 y2)) ∧ (∀ y0 y1 y2 y3, LeO (laws_FnInputWithin.l1 k y0 y1 y2 y3) (laws_FnInputWithin.l1 (k + 1) y0 y1 y2 y3))
  | 0 => ⟨fun _ _ _ r h => by simp [laws_FnInputWithin.j0] at h, fun _ _ _ _ _ _ _ r h => by simp [laws_FnInputWithin.l0] at h, fun _ _ _ r h => by simp [laws_FnInputWithin.j2] at h, fun _ _ _ _ r h => by simp [laws_FnInputWithin.l1] at h⟩
  | k + 1 => by
    obtain ⟨ih0, ih1, ih2, ih3⟩ := laws_FnInputWithin.mono_l k
    refine ⟨?_, ?_, ?_, ?_⟩
    · intro y0 y1 y2
      unfold laws_FnInputWithin.j0
      repeat' first
      | (with_reducible exact ih0 _ _ _)
      | (with_reducible exact ih1 _ _ _ _ _ _ _)
      | (with_reducible exact ih2 _ _ _)
      | (with_reducible exact ih3 _ _ _ _)
      | (with_reducible exact laws_fewBytes.mono _ _)
      | (with_reducible exact laws_zzFits1.mono _ _)
      | (with_reducible exact spec_Join.mono _ _)
      | (with_reducible exact spec_SameBytes.mono _ _ _)
      | (with_reducible exact LeO.refl _)
      | (with_reducible exact LeO.none _)
      | (with_reducible refine LeO.ite ?_ ?_)
      | (with_reducible refine LeO.bind ?_ (fun _ => ?_))
      | exact ih0 _ _ _
      | exact ih1 _ _ _ _ _ _ _
      | exact ih2 _ _ _
      | exact ih3 _ _ _ _
      | exact laws_fewBytes.mono _ _
      | exact laws_zzFits1.mono _ _
      | exact spec_Join.mono _ _
      | exact spec_SameBytes.mono _ _ _
      | exact LeO.none _
      | refine LeO.ite ?_ ?_
      | refine LeO.bind ?_ (fun _ => ?_)
    · intro y0 y1 y2 y3 y4 y5 y6
      unfold laws_FnInputWithin.l0
      repeat' first
      | (with_reducible exact ih0 _ _ _)
      | (with_reducible exact ih1 _ _ _ _ _ _ _)
      | (with_reducible exact ih2 _ _ _)
      | (with_reducible exact ih3 _ _ _ _)
      | (with_reducible exact laws_fewBytes.mono _ _)
      | (with_reducible exact laws_zzFits1.mono _ _)
      | (with_reducible exact spec_Join.mono _ _)
      | (with_reducible exact spec_SameBytes.mono _ _ _)
      | (with_reducible exact LeO.refl _)
      | (with_reducible exact LeO.none _)
      | (with_reducible refine LeO.ite ?_ ?_)
      | (with_reducible refine LeO.bind ?_ (fun _ => ?_))
      | exact ih0 _ _ _
      | exact ih1 _ _ _ _ _ _ _
      | exact ih2 _ _ _
      | exact ih3 _ _ _ _
      | exact laws_fewBytes.mono _ _
      | exact laws_zzFits1.mono _ _
      | exact spec_Join.mono _ _
      | exact spec_SameBytes.mono _ _ _
      | exact LeO.none _
      | refine LeO.ite ?_ ?_
      | refine LeO.bind ?_ (fun _ => ?_)
    · intro y0 y1 y2
      unfold laws_FnInputWithin.j2
      repeat' first
      | (with_reducible exact ih0 _ _ _)
      | (with_reducible exact ih1 _ _ _ _ _ _ _)
      | (with_reducible exact ih2 _ _ _)
      | (with_reducible exact ih3 _ _ _ _)
      | (with_reducible exact laws_fewBytes.mono _ _)
      | (with_reducible exact laws_zzFits1.mono _ _)
      | (with_reducible exact spec_Join.mono _ _)
      | (with_reducible exact spec_SameBytes.mono _ _ _)
      | (with_reducible exact LeO.refl _)
      | (with_reducible exact LeO.none _)
      | (with_reducible refine LeO.ite ?_ ?_)
      | (with_reducible refine LeO.bind ?_ (fun _ => ?_))
      | exact ih0 _ _ _
      | exact ih1 _ _ _ _ _ _ _
      | exact ih2 _ _ _
      | exact ih3 _ _ _ _
      | exact laws_fewBytes.mono _ _
      | exact laws_zzFits1.mono _ _
      | exact spec_Join.mono _ _
      | exact spec_SameBytes.mono _ _ _
      | exact LeO.none _
      | refine LeO.ite ?_ ?_
      | refine LeO.bind ?_ (fun _ => ?_)
    · intro y0 y1 y2 y3
      unfold laws_FnInputWithin.l1
      repeat' first
      | (with_reducible exact ih0 _ _ _)
      | (with_reducible exact ih1 _ _ _ _ _ _ _)
      | (with_reducible exact ih2 _ _ _)
      | (with_reducible exact ih3 _ _ _ _)
      | (with_reducible exact laws_fewBytes.mono _ _)
      | (with_reducible exact laws_zzFits1.mono _ _)
      | (with_reducible exact spec_Join.mono _ _)
      | (with_reducible exact spec_SameBytes.mono _ _ _)
      | (with_reducible exact LeO.refl _)
      | (with_reducible exact LeO.none _)
      | (with_reducible refine LeO.ite ?_ ?_)
      | (with_reducible refine LeO.bind ?_ (fun _ => ?_))
      | exact ih0 _ _ _
      | exact ih1 _ _ _ _ _ _ _
      | exact ih2 _ _ _
      | exact ih3 _ _ _ _
      | exact laws_fewBytes.mono _ _
      | exact laws_zzFits1.mono _ _
      | exact spec_Join.mono _ _
      | exact spec_SameBytes.mono _ _ _
      | exact LeO.none _
      | refine LeO.ite ?_ ?_
      | refine LeO.bind ?_ (fun _ => ?_)
theorem laws_FnInputWithin.mono : ∀ a0 a1 k, LeO (laws_FnInputWithin.f k a0 a1) (laws_FnInputWithin.f (k + 1) a0 a1) := by
  intro a0 a1 k
  obtain ⟨ih0, ih1, ih2, ih3⟩ := laws_FnInputWithin.mono_l k
  unfold laws_FnInputWithin.f
  repeat' first
      | (with_reducible exact ih0 _ _ _)
      | (with_reducible exact ih1 _ _ _ _ _ _ _)
      | (with_reducible exact ih2 _ _ _)
      | (with_reducible exact ih3 _ _ _ _)
      | (with_reducible exact laws_fewBytes.mono _ _)
      | (with_reducible exact laws_zzFits1.mono _ _)
      | (with_reducible exact spec_Join.mono _ _)
      | (with_reducible exact spec_SameBytes.mono _ _ _)
      | (with_reducible exact LeO.refl _)
      | (with_reducible exact LeO.none _)
      | (with_reducible refine LeO.ite ?_ ?_)
      | (with_reducible refine LeO.bind ?_ (fun _ => ?_))
      | exact ih0 _ _ _
      | exact ih1 _ _ _ _ _ _ _
      | exact ih2 _ _ _
      | exact ih3 _ _ _ _
      | exact laws_fewBytes.mono _ _
      | exact laws_zzFits1.mono _ _
      | exact spec_Join.mono _ _
      | exact spec_SameBytes.mono _ _ _
      | exact LeO.none _
      | refine LeO.ite ?_ ?_
      | refine LeO.bind ?_ (fun _ => ?_)
set_option maxHeartbeats 8000000 in
set_option maxRecDepth 100000 in
theorem laws_FnInputWithin.calls (k : Nat) (a0 : Int) (P1_ : Nat → Prop) (A1 : Option Addr) (c1 : Nat) (l1 : List (List Int)) (r : Bool) (w : World) (hs1 : Kd.V (Kd.slice 5 (Kd.int .u8)) 22 w w.heap.size (fun k_ => P1_ k_) (.slice A1 l1.length c1) l1) (h : laws_FnInputWithin.f k a0 l1 = some r) (HTabE : Aside0 (Own.TabE w)) :
    Calls Tryd.prog 5 #[.int .i64 a0, .slice A1 l1.length c1] w fun e w' => e = .returned (.bool r) ∧ Below w.heap.size w w' := by
  have HO1 := Aside0.mk (show Kd.V (Kd.slice 5 (Kd.int .u8)) 22 w w.heap.size (fun k_ => (P1_ k_ ∨ w.heap.size ≤ k_)) (.slice A1 l1.length c1) l1 from Kd.V_mono hs1 (fun k_ hk => .inl hk))
  have HB := Aside0.mk (Below.refl w.heap.size w)
  have H : ((laws_zzFits1.f k l1).bind fun t118 => (if t118 = true then ((laws_fewBytes.f k l1).bind fun t119 => (if t119 = true then (if (l1.length : Int) > 20 then (laws_FnInputWithin.j0 k a0 l1 true) else (if a0 < 0 then (laws_FnInputWithin.j0 k a0 l1 true) else (laws_FnInputWithin.j0 k a0 l1 (decide (a0 > 300))))) else (laws_FnInputWithin.j0 k a0 l1 true))) else (some true))) = some r := h
  clear h
  replace H := Option.bind_eq_some_iff.mp H
  obtain ⟨t118, A30, H⟩ := H
  replace H : (if t118 = true then ((laws_fewBytes.f k l1).bind fun t119 => (if t119 = true then (if (l1.length : Int) > 20 then (laws_FnInputWithin.j0 k a0 l1 true) else (if a0 < 0 then (laws_FnInputWithin.j0 k a0 l1 true) else (laws_FnInputWithin.j0 k a0 l1 (decide (a0 > 300))))) else (laws_FnInputWithin.j0 k a0 l1 true))) else (some true)) = some r := H
  have A3 := Aside0.mk A30
  clear A30
  by_cases c4 : t118 = true
  · subst c4
    have H1 : ((laws_fewBytes.f k l1).bind fun t119 => (if t119 = true then (if (l1.length : Int) > 20 then (laws_FnInputWithin.j0 k a0 l1 true) else (if a0 < 0 then (laws_FnInputWithin.j0 k a0 l1 true) else (laws_FnInputWithin.j0 k a0 l1 (decide (a0 > 300))))) else (laws_FnInputWithin.j0 k a0 l1 true))) = some r := by rw [if_pos rfl] at H; exact H
    clear H
    have H := H1
    clear H1
    have HC5 := Aside0.mk H
    clear H
    go_enter Tryd.func5, Tryd.ntmps5
    go_upto_region 3 with (first | ((with_reducible refine gate_callee (f := 18) rfl ?_); refine goesL_ (some 15) rfl rfl Tryd.func18 (by kernel_rfl) rfl #[.slice A1 l1.length c1] rfl (by (try simp only [List.map_toArray, List.map_cons, List.map_nil]); first | done | rfl | (simp only [List.length_drop, List.length_take]; rfl)) ?_; (with_reducible refine (laws_zzFits1.calls k _ _ l1 true _ ?side1 ?side2 A3.out).mono ?_); (case side1 => repeat (first | exact (Kd.V_reads' HO1.out).2.2 | (with_reducible refine Kd.C_alloc ?_ _) | (with_reducible refine Kd.C_drewN ?_ _) | (with_reducible refine Kd.C_drew ?_))); (case side2 => exact (Kd.V_reads' HO1.out).2.1); rintro e w' ⟨rfl, ⟨nd, rfl⟩⟩; refine ⟨_, rfl, ?_⟩))
    (try simp only [Act.put, List.setIfInBounds_toArray, List.set_cons_zero, List.set_cons_succ])
    go_cut [32] (fun v32 wc => ∃ (kq : Nat) (x32_4 : Bool), v32 = .bool x32_4 ∧ Aside0 (laws_FnInputWithin.j0 kq a0 l1 x32_4 = some r) ∧ Aside0 (kq ≤ k) ∧ Aside0 (Kd.V (Kd.slice 5 (Kd.int .u8)) 22 wc w.heap.size (fun k_ => (P1_ k_ ∨ w.heap.size ≤ k_)) (.slice A1 l1.length c1) l1) ∧ Aside0 (Below w.heap.size w wc))
    case first =>
      have H := HC5.out
      clear HC5
      replace H := Option.bind_eq_some_iff.mp H
      obtain ⟨t119, A60, H⟩ := H
      replace H : (if t119 = true then (if (l1.length : Int) > 20 then (laws_FnInputWithin.j0 k a0 l1 true) else (if a0 < 0 then (laws_FnInputWithin.j0 k a0 l1 true) else (laws_FnInputWithin.j0 k a0 l1 (decide (a0 > 300))))) else (laws_FnInputWithin.j0 k a0 l1 true)) = some r := H
      have A6 := Aside0.mk A60
      clear A60
      by_cases c7 : t119 = true
      · subst c7
        have H1 : (if (l1.length : Int) > 20 then (laws_FnInputWithin.j0 k a0 l1 true) else (if a0 < 0 then (laws_FnInputWithin.j0 k a0 l1 true) else (laws_FnInputWithin.j0 k a0 l1 (decide (a0 > 300))))) = some r := by rw [if_pos rfl] at H; exact H
        clear H
        have H := H1
        clear H1
        by_cases c8 : (l1.length : Int) > 20
        · rw [if_pos c8] at H
          have c8b0 : decide (20 < (l1.length : Int)) = true := decide_eq_true c8
          have c8b1 : decide (20 < l1.length) = true := decide_eq_true (by omega)
          clear c8
          (first | rw [c8b0] | (simp only [i64_w, i32_w]; rw [c8b0]) | skip)
          have H' := Aside0.mk H
          clear H
          go_wp2_with (first | ((with_reducible refine gate_callee (f := 13) rfl ?_); refine goesL_ (some 18) rfl rfl Tryd.func13 (by kernel_rfl) rfl #[.slice A1 l1.length c1] rfl (by (try simp only [List.map_toArray, List.map_cons, List.map_nil]); first | done | rfl | (simp only [List.length_drop, List.length_take]; rfl)) ?_; (with_reducible refine (laws_fewBytes.calls k _ _ l1 true _ ?side1 ?side2 A6.out).mono ?_); (case side1 => repeat (first | exact (Kd.V_reads' HO1.out).2.2 | (with_reducible refine Kd.C_alloc ?_ _) | (with_reducible refine Kd.C_drewN ?_ _) | (with_reducible refine Kd.C_drew ?_))); (case side2 => exact (Kd.V_reads' HO1.out).2.1); rintro e w' ⟨rfl, ⟨nd, rfl⟩⟩; refine ⟨_, rfl, ?_⟩))
          go_meet
          case rel => exact ⟨_, (true), (by first | rfl | (simp; done) | (simp [*]; done)), H', ⟨by first | omega | exact Nat.le_refl _⟩, ⟨by (with_reducible repeat (first | apply Kd.V_alloc | apply Kd.V_drewN | apply Kd.V_drew)); exact HO1.out⟩, ⟨by repeat (first | (with_reducible first | exact HB.out | apply below_alloc | apply pw_below_drewN | apply below_drew1) | exact HB.out)⟩⟩
        · rw [if_neg c8] at H
          have c8b0 : decide (20 < (l1.length : Int)) = false := decide_eq_false c8
          have c8b1 : decide (20 < l1.length) = false := decide_eq_false (by omega)
          clear c8
          (first | rw [c8b0] | (simp only [i64_w, i32_w]; rw [c8b0]) | skip)
          by_cases c9 : a0 < 0
          · rw [if_pos c9] at H
            have c9b0 : decide (a0 < 0) = true := decide_eq_true c9
            clear c9
            have H' := Aside0.mk H
            clear H
            go_wp2_with (first | ((with_reducible refine gate_callee (f := 13) rfl ?_); refine goesL_ (some 18) rfl rfl Tryd.func13 (by kernel_rfl) rfl #[.slice A1 l1.length c1] rfl (by (try simp only [List.map_toArray, List.map_cons, List.map_nil]); first | done | rfl | (simp only [List.length_drop, List.length_take]; rfl)) ?_; (with_reducible refine (laws_fewBytes.calls k _ _ l1 true _ ?side1 ?side2 A6.out).mono ?_); (case side1 => repeat (first | exact (Kd.V_reads' HO1.out).2.2 | (with_reducible refine Kd.C_alloc ?_ _) | (with_reducible refine Kd.C_drewN ?_ _) | (with_reducible refine Kd.C_drew ?_))); (case side2 => exact (Kd.V_reads' HO1.out).2.1); rintro e w' ⟨rfl, ⟨nd, rfl⟩⟩; refine ⟨_, rfl, ?_⟩))
            go_meet
            case rel => exact ⟨_, (true), (by first | rfl | (simp; done) | (simp [*]; done)), H', ⟨by first | omega | exact Nat.le_refl _⟩, ⟨by (with_reducible repeat (first | apply Kd.V_alloc | apply Kd.V_drewN | apply Kd.V_drew)); exact HO1.out⟩, ⟨by repeat (first | (with_reducible first | exact HB.out | apply below_alloc | apply pw_below_drewN | apply below_drew1) | exact HB.out)⟩⟩
          · rw [if_neg c9] at H
            have c9b0 : decide (a0 < 0) = false := decide_eq_false c9
            clear c9
            have H' := Aside0.mk H
            clear H
            go_wp2_with (first | ((with_reducible refine gate_callee (f := 13) rfl ?_); refine goesL_ (some 18) rfl rfl Tryd.func13 (by kernel_rfl) rfl #[.slice A1 l1.length c1] rfl (by (try simp only [List.map_toArray, List.map_cons, List.map_nil]); first | done | rfl | (simp only [List.length_drop, List.length_take]; rfl)) ?_; (with_reducible refine (laws_fewBytes.calls k _ _ l1 true _ ?side1 ?side2 A6.out).mono ?_); (case side1 => repeat (first | exact (Kd.V_reads' HO1.out).2.2 | (with_reducible refine Kd.C_alloc ?_ _) | (with_reducible refine Kd.C_drewN ?_ _) | (with_reducible refine Kd.C_drew ?_))); (case side2 => exact (Kd.V_reads' HO1.out).2.1); rintro e w' ⟨rfl, ⟨nd, rfl⟩⟩; refine ⟨_, rfl, ?_⟩))
            go_meet
            case rel => exact ⟨_, (decide (a0 > 300)), (by first | rfl | (simp; done) | (simp [*]; done)), H', ⟨by first | omega | exact Nat.le_refl _⟩, ⟨by (with_reducible repeat (first | apply Kd.V_alloc | apply Kd.V_drewN | apply Kd.V_drew)); exact HO1.out⟩, ⟨by repeat (first | (with_reducible first | exact HB.out | apply below_alloc | apply pw_below_drewN | apply below_drew1) | exact HB.out)⟩⟩
      · replace c7 := Bool.eq_false_iff.mpr c7
        subst c7
        have H1 : (laws_FnInputWithin.j0 k a0 l1 true) = some r := by rw [if_neg (show ¬ (false = true) by decide)] at H; exact H
        clear H
        have H := H1
        clear H1
        have H' := Aside0.mk H
        clear H
        go_wp2_with (first | ((with_reducible refine gate_callee (f := 13) rfl ?_); refine goesL_ (some 18) rfl rfl Tryd.func13 (by kernel_rfl) rfl #[.slice A1 l1.length c1] rfl (by (try simp only [List.map_toArray, List.map_cons, List.map_nil]); first | done | rfl | (simp only [List.length_drop, List.length_take]; rfl)) ?_; (with_reducible refine (laws_fewBytes.calls k _ _ l1 false _ ?side1 ?side2 A6.out).mono ?_); (case side1 => repeat (first | exact (Kd.V_reads' HO1.out).2.2 | (with_reducible refine Kd.C_alloc ?_ _) | (with_reducible refine Kd.C_drewN ?_ _) | (with_reducible refine Kd.C_drew ?_))); (case side2 => exact (Kd.V_reads' HO1.out).2.1); rintro e w' ⟨rfl, ⟨nd, rfl⟩⟩; refine ⟨_, rfl, ?_⟩))
        go_meet
        case rel => exact ⟨_, (true), (by first | rfl | (simp; done) | (simp [*]; done)), H', ⟨by first | omega | exact Nat.le_refl _⟩, ⟨by (with_reducible repeat (first | apply Kd.V_alloc | apply Kd.V_drewN | apply Kd.V_drew)); exact HO1.out⟩, ⟨by repeat (first | (with_reducible first | exact HB.out | apply below_alloc | apply pw_below_drewN | apply below_drew1) | exact HB.out)⟩⟩
    case rest =>
      clear HC5
      try clear c1
      try clear p2
      try clear c4
      try clear c5
      try clear c7
      try clear c8
      try clear c8b0
      try clear c8b1
      try clear c9
      try clear c9b0
      obtain ⟨kq, x32_4, rfl, HA, HJ4, HO_1, HB⟩ := hcut
      cases kq with
      | zero => exact absurd HA.out (by simp [laws_FnInputWithin.j0])
      | succ kj4 =>
        have H := HA.out
        clear HA
        simp only [laws_FnInputWithin.j0] at H
        by_cases c10 : x32_4 = true
        · subst c10
          have H1 : (some true) = some r := by rw [if_pos rfl] at H; exact H
          clear H
          have H := H1
          clear H1
          obtain rfl := Option.some.inj H
          go_wp2
          go_ret
          exact ⟨by first | rfl | (simp [errW_none, errW_some] <;> rfl) | (simp [*, errW_none, errW_some] <;> rfl), by repeat (first | (with_reducible first | exact HB.out | apply below_alloc | apply pw_below_drewN | apply below_drew1) | exact HB.out)⟩
        · replace c10 := Bool.eq_false_iff.mpr c10
          subst c10
          have H1 : (laws_FnInputWithin.l0 kj4 a0 l1 (([] : List Int)) (([] : List Bool)) l1 (l1.length : Int) 0) = some r := by rw [if_neg (show ¬ (false = true) by decide)] at H; exact H
          clear H
          have H := H1
          clear H1
          obtain ⟨y120, hy120⟩ : ∃ y_ : List Int, y_ = (([] : List Int)) := ⟨_, rfl⟩
          replace H : (laws_FnInputWithin.l0 kj4 a0 l1 y120 (([] : List Bool)) l1 (l1.length : Int) 0) = some r := by first | (rw [hy120]; with_reducible exact H) | (have H2_ := (Option.bind_some _ _).symm.trans H; rw [hy120]; with_reducible exact H2_) | (have H2_ := (Option.bind_some _ _).symm.trans H; with_reducible exact H2_) | with_reducible exact H | (rw [hy120]; exact H) | exact H
          have Ny120 := Aside0.mk hy120
          clear hy120
          obtain ⟨y123, hy123⟩ : ∃ y_ : List Bool, y_ = (([] : List Bool)) := ⟨_, rfl⟩
          replace H : (laws_FnInputWithin.l0 kj4 a0 l1 y120 y123 l1 (l1.length : Int) 0) = some r := by first | (rw [hy123]; with_reducible exact H) | (have H2_ := (Option.bind_some _ _).symm.trans H; rw [hy123]; with_reducible exact H2_) | (have H2_ := (Option.bind_some _ _).symm.trans H; with_reducible exact H2_) | with_reducible exact H | (rw [hy123]; exact H) | exact H
          have Ny123 := Aside0.mk hy123
          clear hy123
          have H' := Aside0.mk H
          clear H
          go_wp2_with (first | ((with_reducible refine gate_dst (N := 33) rfl ?_); (try (refine gate_guard (by rfl) ?_; dsimp only)); refine Kd.R_lit (Kd.int .u8) _ 5 ?hg (N := 33) ?hd (xs := ([] : List Int)) (inner := []) (ok := fun _ => True) (okp := fun _ => True) ?hr ?hp (fun _ hk => hk) trivial (Below.refl _ _) (Nat.le_refl _) (by simp) ?_; (case hd => rfl); (case hg => rfl); (case hr => first | (go_simp; done) | (go_simp; rfl)); (case hp => exact (Reps.none _ _)); intro v121 w11 ho12 hb hg_ hnew_; clear hg_ hnew_; (first | rw [← Ny120.out] at ho12 | (simp only [Int.reduceToNat] at ho12; rw [← Ny120.out] at ho12)); have n0_ := Aside0.mk (Kd.V_elder' (by (with_reducible repeat (first | apply Kd.V_alloc | apply Kd.V_drewN | apply Kd.V_drew)); exact HO_1.out) (Kd.R_base ho12) hb); have n1_ := Aside0.mk (Kd.R_lower (Kd.R_newM (M := fun k_ => (w.heap.size ≤ k_)) ho12 (below_size (by repeat (first | (with_reducible first | exact HB.out | apply below_alloc | apply pw_below_drewN | apply below_drew1) | exact HB.out))) (fun k_ h_ => h_)) (below_size (by repeat (first | (with_reducible first | exact HB.out | apply below_alloc | apply pw_below_drewN | apply below_drew1) | exact HB.out)))); have n2_ := Aside0.mk (below_step (by repeat (first | (with_reducible first | exact HB.out | apply below_alloc | apply pw_below_drewN | apply below_drew1) | exact HB.out)) hb); clear HO_1; clear HB; have HO_1 := n0_; have HO122 := n1_; have HB := n2_; clear n0_ n1_ n2_; clear hb ho12) | ((with_reducible refine gate_dst (N := 34) rfl ?_); (try (refine gate_guard (by rfl) ?_; dsimp only)); refine Kd.R_lit Kd.bool _ 4 ?hg (N := 34) ?hd (xs := ([] : List Bool)) (inner := []) (ok := fun _ => True) (okp := fun _ => True) ?hr ?hp (fun _ hk => hk) trivial (Below.refl _ _) (Nat.le_refl _) (by simp) ?_; (case hd => rfl); (case hg => rfl); (case hr => first | (go_simp; done) | (go_simp; rfl)); (case hp => exact (Reps.none _ _)); intro v124 w13 ho14 hb hg_ hnew_; clear hg_ hnew_; (first | rw [← Ny123.out] at ho14 | (simp only [Int.reduceToNat] at ho14; rw [← Ny123.out] at ho14)); have n0_ := Aside0.mk (Kd.V_elder' (by (with_reducible repeat (first | apply Kd.V_alloc | apply Kd.V_drewN | apply Kd.V_drew)); exact HO_1.out) (Kd.R_base ho14) hb); have n1_ := Aside0.mk (Kd.R_below (by (with_reducible repeat (first | apply Kd.R_alloc | apply Kd.R_drewN | apply Kd.R_drew)); exact HO122.out) hb); have n2_ := Aside0.mk (Kd.R_lower (Kd.R_newM (M := fun k_ => (w.heap.size ≤ k_)) ho14 (below_size (by repeat (first | (with_reducible first | exact HB.out | apply below_alloc | apply pw_below_drewN | apply below_drew1) | exact HB.out))) (fun k_ h_ => h_)) (below_size (by repeat (first | (with_reducible first | exact HB.out | apply below_alloc | apply pw_below_drewN | apply below_drew1) | exact HB.out)))); have n3_ := Aside0.mk (below_step (by repeat (first | (with_reducible first | exact HB.out | apply below_alloc | apply pw_below_drewN | apply below_drew1) | exact HB.out)) hb); clear HO_1; clear HO122; clear HB; have HO_1 := n0_; have HO122 := n1_; have HO125 := n2_; have HB := n3_; clear n0_ n1_ n2_ n3_; clear hb ho14))
          go_loopg [5, 6, 37] kj4 (fun kq v5 v6 v37 w' => ∃ (x5_2 : List Int) (x6_2 : List Bool) (x37_2 : Int), v37 = .int .i64 x37_2 ∧ Aside0 (laws_FnInputWithin.l0 kq a0 l1 x5_2 x6_2 l1 (l1.length : Int) x37_2 = some r) ∧ Aside0 (kq ≤ kj4) ∧ Aside0 (Kd.V (Kd.slice 5 (Kd.int .u8)) 22 w' w.heap.size (fun k_ => (P1_ k_ ∨ w.heap.size ≤ k_) ∧ some k_ ≠ (v5 : Value).ownBlock ∧ some k_ ≠ (v6 : Value).ownBlock) (.slice A1 l1.length c1) l1) ∧ Aside0 (Kd.R (Kd.int .u8) 5 w' w.heap.size (fun k_ => (w.heap.size ≤ k_)) v5 x5_2) ∧ Aside0 (Kd.R Kd.bool 4 w' w.heap.size (fun k_ => (w.heap.size ≤ k_)) v6 x6_2) ∧ Aside0 (Kd.V (Kd.slice 5 (Kd.int .u8)) 22 w' w.heap.size (fun k_ => (P1_ k_ ∨ w.heap.size ≤ k_) ∧ some k_ ≠ (v5 : Value).ownBlock ∧ some k_ ≠ (v6 : Value).ownBlock) (.slice A1 l1.length c1) l1) ∧ Aside0 (Below w.heap.size w w'))
          case atStart => exact ⟨(y120), (y123), (0), (by first | rfl | (simp; done) | (simp [*]; done)), H', ⟨Nat.le_refl _⟩, ⟨by (with_reducible repeat (first | apply Kd.V_alloc | apply Kd.V_drewN | apply Kd.V_drew)); exact Kd.V_mono HO_1.out (fun _ hk => ⟨hk.1.1, ⟨hk.1.2, hk.2⟩⟩)⟩, ⟨by (with_reducible repeat (first | apply Kd.R_alloc | apply Kd.R_drewN | apply Kd.R_drew)); exact Kd.R_mono HO122.out (fun _ hk => hk.1)⟩, ⟨by (with_reducible repeat (first | apply Kd.R_alloc | apply Kd.R_drewN | apply Kd.R_drew)); exact Kd.R_mono HO125.out (fun _ hk => hk.1)⟩, ⟨by (with_reducible repeat (first | apply Kd.V_alloc | apply Kd.V_drewN | apply Kd.V_drew)); exact Kd.V_mono HO_1.out (fun _ hk => ⟨hk.1.1, ⟨hk.1.2, hk.2⟩⟩)⟩, ⟨by repeat (first | (with_reducible first | exact HB.out | apply below_alloc | apply pw_below_drewN | apply below_drew1) | exact HB.out)⟩⟩
          case round =>
            clear H'
            try clear c1
            try clear p2
            try clear c4
            try clear c5
            try clear c7
            try clear c8
            try clear c8b0
            try clear c8b1
            try clear c9
            try clear c9b0
            try clear c10
            try clear c13
            try clear p2
            obtain ⟨x5_2, x6_2, x37_2, rfl, HA, HK2, HO_1, HO_5, HO_6, HO_35, HB⟩ := hrel
            cases gk with
            | zero => exact absurd HA.out (by simp [laws_FnInputWithin.l0])
            | succ k2 =>
              have H := HA.out
              clear HA
              simp only [laws_FnInputWithin.l0] at H
              by_cases c15 : x37_2 < (l1.length : Int)
              · rw [if_pos c15] at H
                have c15b0 : decide (x37_2 < (l1.length : Int)) = true := decide_eq_true c15
                clear c15
                by_cases c16 : 0 ≤ x37_2
                · rw [if_pos c16] at H
                  have c16b0 : decide (0 ≤ x37_2) = true := decide_eq_true c16
                  clear c16
                  by_cases c17 : x37_2 < (l1.length : Int)
                  · rw [if_pos c17] at H
                    have c17b0 : decide (x37_2 < (l1.length : Int)) = true := decide_eq_true c17
                    clear c17
                    by_cases c18 : ((rd_L1 l1 x37_2).length : Int) = 0
                    · rw [if_pos c18] at H
                      have c18b0 : (((rd_L1 l1 x37_2).length : Int) == 0) = true := beq_iff_eq.mpr c18
                      have c18b1 : (((rd_L1 l1 x37_2).length : Int) != 0) = false := bne_eq_false_iff_eq.mpr c18
                      clear c18
                      obtain rfl := Option.some.inj H
                      have p126 : 0 ≤ (x37_2 : Int) := of_decide_eq_true (by first | (with_reducible assumption) | assumption)
                      have q126 : x37_2 < (l1.length : Int) := of_decide_eq_true (by first | (with_reducible assumption) | assumption)
                      obtain ⟨ad126, A126_0, c126_0, e126, hx126_0, hl126_0, hi126_0⟩ := at_L1 (Kd.V_reads' HO_35.out).2.2 x37_2 p126 q126
                      cases e126
                      obtain ⟨ce126, hce126, hMe126, hcc126⟩ := Kd.V_get HO_35.out [] x37_2 p126 (by first | exact q126 | exact of_decide_eq_true (by first | (with_reducible assumption) | assumption) | (have e_ := (Kd.V_reads' HO_35.out).1; omega))
                      obtain ⟨ua126_0, uc126_0, rfl, ul126_0, ge126_0⟩ := Kd.FK_slice_open hMe126
                      have hv126_0 := hcc126 0 _ rfl
                      rw [Nat.add_zero, show ((Kd.slice 5 (Kd.int .u8))).sz = 1 from rfl, Nat.mul_one] at hv126_0
                      replace hv126_0 := Option.some.inj (hv126_0.symm.trans hx126_0)
                      injection hv126_0 with hva_ hvn_ hvc_
                      rw [hva_] at ge126_0
                      rw [hvc_] at ul126_0
                      have HL126_0 := Aside0.mk (show Kd.V (Kd.int .u8) 5 _ w.heap.size _ _ (rd_L1 l1 x37_2) from Kd.V_mk ul126_0 ge126_0)
                      clear hva_ hvn_ hvc_ ge126_0 ul126_0
                      clear hcc126 hce126
                      have HR126_0 := Aside0.mk hi126_0
                      have HC126_0 := Aside0.mk hl126_0
                      clear hi126_0 hl126_0
                      replace p126 := eq_true p126
                      replace q126 := eq_true q126
                      go_wp2
                      go_ret
                      exact ⟨by first | rfl | (simp [errW_none, errW_some] <;> rfl) | (simp [*, errW_none, errW_some] <;> rfl), by repeat (first | (with_reducible first | exact HB.out | apply below_alloc | apply pw_below_drewN | apply below_drew1) | exact HB.out)⟩
                    · rw [if_neg c18] at H
                      have c18b0 : (((rd_L1 l1 x37_2).length : Int) == 0) = false := beq_eq_false_iff_ne.mpr c18
                      have c18b1 : (((rd_L1 l1 x37_2).length : Int) != 0) = true := bne_iff_ne.mpr c18
                      have c18b2 : ¬ ((rd_L1 l1 x37_2) = []) := fun h_ => c18 (by rw [h_]; rfl)
                      by_cases c19 : (wrap64 ((x5_2.length : Int) + ((rd_L1 l1 x37_2).length : Int))) ≤ a0
                      · rw [if_pos c19] at H
                        have c19b0 : decide ((wrap64 ((x5_2.length : Int) + ((rd_L1 l1 x37_2).length : Int))) ≤ a0) = true := decide_eq_true c19
                        (try rw [c19b0] at H)
                        clear c19
                        obtain ⟨y127, hy127⟩ : ∃ y_ : List (List Int), y_ = (([x5_2, rd_L1 l1 x37_2] : List (List Int))) := ⟨_, rfl⟩
                        replace H : ((spec_Join.f k2 y127).bind fun t130 => (if x6_2.length < 140737488355328 then (laws_FnInputWithin.l0 k2 a0 l1 t130 (x6_2 ++ [true]) l1 (l1.length : Int) (wrap64 (x37_2 + 1))) else (none))) = some r := by first | (rw [hy127]; with_reducible exact H) | (have H2_ := (Option.bind_some _ _).symm.trans H; rw [hy127]; with_reducible exact H2_) | (have H2_ := (Option.bind_some _ _).symm.trans H; with_reducible exact H2_) | with_reducible exact H | (rw [hy127]; exact H) | exact H
                        have Ny127 := Aside0.mk hy127
                        clear hy127
                        replace H := Option.bind_eq_some_iff.mp H
                        obtain ⟨t130, A200, H⟩ := H
                        replace H : (if x6_2.length < 140737488355328 then (laws_FnInputWithin.l0 k2 a0 l1 t130 (x6_2 ++ [true]) l1 (l1.length : Int) (wrap64 (x37_2 + 1))) else (none)) = some r := H
                        have A20 := Aside0.mk A200
                        clear A200
                        by_cases c21 : x6_2.length < 140737488355328
                        · rw [if_pos c21] at H
                          have LMc21 := Aside0.mk c21
                          clear c21
                          obtain ⟨y133, hy133⟩ : ∃ y_ : List Bool, y_ = (x6_2 ++ [true]) := ⟨_, rfl⟩
                          replace H : (laws_FnInputWithin.l0 k2 a0 l1 t130 y133 l1 (l1.length : Int) (wrap64 (x37_2 + 1))) = some r := by first | (rw [hy133]; with_reducible exact H) | (have H2_ := (Option.bind_some _ _).symm.trans H; rw [hy133]; with_reducible exact H2_) | (have H2_ := (Option.bind_some _ _).symm.trans H; with_reducible exact H2_) | with_reducible exact H | (rw [hy133]; exact H) | exact H
                          have Ny133 := Aside0.mk hy133
                          clear hy133
                          have H' := Aside0.mk H
                          clear H
                          have p126 : 0 ≤ (x37_2 : Int) := of_decide_eq_true (by first | (with_reducible assumption) | assumption)
                          have q126 : x37_2 < (l1.length : Int) := of_decide_eq_true (by first | (with_reducible assumption) | assumption)
                          obtain ⟨ad126, A126_0, c126_0, e126, hx126_0, hl126_0, hi126_0⟩ := at_L1 (Kd.V_reads' HO_35.out).2.2 x37_2 p126 q126
                          cases e126
                          obtain ⟨ce126, hce126, hMe126, hcc126⟩ := Kd.V_get HO_35.out [] x37_2 p126 (by first | exact q126 | exact of_decide_eq_true (by first | (with_reducible assumption) | assumption) | (have e_ := (Kd.V_reads' HO_35.out).1; omega))
                          obtain ⟨ua126_0, uc126_0, rfl, ul126_0, ge126_0⟩ := Kd.FK_slice_open hMe126
                          have hv126_0 := hcc126 0 _ rfl
                          rw [Nat.add_zero, show ((Kd.slice 5 (Kd.int .u8))).sz = 1 from rfl, Nat.mul_one] at hv126_0
                          replace hv126_0 := Option.some.inj (hv126_0.symm.trans hx126_0)
                          injection hv126_0 with hva_ hvn_ hvc_
                          rw [hva_] at ge126_0
                          rw [hvc_] at ul126_0
                          have HL126_0 := Aside0.mk (show Kd.V (Kd.int .u8) 5 _ w.heap.size _ _ (rd_L1 l1 x37_2) from Kd.V_mk ul126_0 ge126_0)
                          clear hva_ hvn_ hvc_ ge126_0 ul126_0
                          clear hcc126 hce126
                          have HR126_0 := Aside0.mk hi126_0
                          have HC126_0 := Aside0.mk hl126_0
                          clear hi126_0 hl126_0
                          replace p126 := eq_true p126
                          replace q126 := eq_true q126
                          obtain ⟨Ao22, co22, eo22⟩ := Kd.R_slice HO_5.out
                          subst eo22
                          go_wp2_with (first | ((with_reducible refine gate_dst (N := 54) rfl ?_); (try (refine gate_guard (by rfl) ?_; dsimp only)); refine Kd.N_lit (Kd.slice 5 (Kd.int .u8)) _ 22 ?hg (N' := 54) ?hd (xs := ([x5_2, rd_L1 l1 x37_2] : List (List Int))) (inner := [.slice Ao22 x5_2.length co22, .slice A126_0 (rd_L1 l1 x37_2).length c126_0]) (ok := (fun k_ => (P1_ k_ ∨ w.heap.size ≤ k_) ∧ some k_ ≠ (u6 : Value).ownBlock)) (okp := (fun k_ => (P1_ k_ ∨ w.heap.size ≤ k_) ∧ some k_ ≠ (u6 : Value).ownBlock)) ?hr ?hp (fun _ hk => hk) ((show ∀ k_, wr.heap.size ≤ k_ → (fun k_ => (P1_ k_ ∨ w.heap.size ≤ k_) ∧ some k_ ≠ (u6 : Value).ownBlock) k_ from fun k_ hk => ⟨(.inr (Nat.le_trans (below_size (by repeat (first | (with_reducible first | exact HB.out | apply below_alloc | apply pw_below_drewN | apply below_drew1) | exact HB.out))) hk)), Kd.fresh' (Kd.R_lt (by (with_reducible repeat (first | apply Kd.R_alloc | apply Kd.R_drewN | apply Kd.R_drew)); exact HO_6.out)) k_ hk⟩) _ (Nat.le_refl _)) (Below.refl _ _) (Nat.le_refl _) (by simp) ?_; (case hd => rfl); (case hg => rfl); (case hr => first | (go_simp; done) | (go_simp; rfl)); (case hp => first | exact (Reps.one (show Kd.FK (Kd.slice 5 (Kd.int .u8)) _ _ x5_2 [.slice Ao22 x5_2.length co22] from (Kd.FK_slice_mk (Kd.R_reads' (Kd.R_mono (ok' := (fun k_ => (P1_ k_ ∨ w.heap.size ≤ k_) ∧ some k_ ≠ (u6 : Value).ownBlock)) (Kd.R_apart' (HO_5.out) (Kd.R_typed HO_6.out) (by decide)) (fun k_ hk => ⟨(.inr (hk.1)), hk.2⟩))).2.1 (Kd.R_F (Kd.R_mono (ok' := (fun k_ => (P1_ k_ ∨ w.heap.size ≤ k_) ∧ some k_ ≠ (u6 : Value).ownBlock)) (Kd.R_apart' (HO_5.out) (Kd.R_typed HO_6.out) (by decide)) (fun k_ hk => ⟨(.inr (hk.1)), hk.2⟩))))) (Reps.one (show Kd.FK (Kd.slice 5 (Kd.int .u8)) _ _ (rd_L1 l1 x37_2) [.slice A126_0 (rd_L1 l1 x37_2).length c126_0] from (Kd.FK_slice_mk (Kd.V_reads' (Kd.V_mono (ok' := (fun k_ => (P1_ k_ ∨ w.heap.size ≤ k_) ∧ some k_ ≠ (u6 : Value).ownBlock)) (HL126_0.out) (fun k_ hk => ⟨hk.1, hk.2.2⟩))).2.1 (Kd.V_F (Kd.V_mono (ok' := (fun k_ => (P1_ k_ ∨ w.heap.size ≤ k_) ∧ some k_ ≠ (u6 : Value).ownBlock)) (HL126_0.out) (fun k_ hk => ⟨hk.1, hk.2.2⟩))))) (Reps.none _ _))) | exact (Reps.one (show Kd.FK (Kd.slice 5 (Kd.int .u8)) _ _ x5_2 [.slice Ao22 x5_2.length co22] from (Kd.FK_slice_mk (Kd.R_reads' (Kd.R_mono (ok' := (fun k_ => (P1_ k_ ∨ w.heap.size ≤ k_) ∧ some k_ ≠ (u6 : Value).ownBlock)) (Kd.R_apart' (HO_5.out) (Kd.R_typed HO_6.out) (by decide)) (fun k_ hk => ⟨(.inr (hk.1)), hk.2⟩))).2.1 (Kd.R_F (Kd.R_mono (ok' := (fun k_ => (P1_ k_ ∨ w.heap.size ≤ k_) ∧ some k_ ≠ (u6 : Value).ownBlock)) (Kd.R_apart' ((Kd.R_drewN HO_5.out _)) (Kd.R_typed HO_6.out) (by decide)) (fun k_ hk => ⟨(.inr (hk.1)), hk.2⟩))))) (Reps.one (show Kd.FK (Kd.slice 5 (Kd.int .u8)) _ _ (rd_L1 l1 x37_2) [.slice A126_0 (rd_L1 l1 x37_2).length c126_0] from (Kd.FK_slice_mk (Kd.V_reads' (Kd.V_mono (ok' := (fun k_ => (P1_ k_ ∨ w.heap.size ≤ k_) ∧ some k_ ≠ (u6 : Value).ownBlock)) (HL126_0.out) (fun k_ hk => ⟨hk.1, hk.2.2⟩))).2.1 (Kd.V_F (Kd.V_mono (ok' := (fun k_ => (P1_ k_ ∨ w.heap.size ≤ k_) ∧ some k_ ≠ (u6 : Value).ownBlock)) ((Kd.V_drewN HL126_0.out _)) (fun k_ hk => ⟨hk.1, hk.2.2⟩))))) (Reps.none _ _))) | exact (Reps.one (show Kd.FK (Kd.slice 5 (Kd.int .u8)) _ _ x5_2 [.slice Ao22 x5_2.length co22] from (Kd.FK_slice_mk (Kd.R_reads' (Kd.R_mono (ok' := (fun k_ => (P1_ k_ ∨ w.heap.size ≤ k_) ∧ some k_ ≠ (u6 : Value).ownBlock)) (Kd.R_apart' (HO_5.out) (Kd.R_typed HO_6.out) (by decide)) (fun k_ hk => ⟨(.inr (hk.1)), hk.2⟩))).2.1 (Kd.R_F (Kd.R_mono (ok' := (fun k_ => (P1_ k_ ∨ w.heap.size ≤ k_) ∧ some k_ ≠ (u6 : Value).ownBlock)) (Kd.R_apart' ((Kd.R_alloc HO_5.out _)) (Kd.R_typed HO_6.out) (by decide)) (fun k_ hk => ⟨(.inr (hk.1)), hk.2⟩))))) (Reps.one (show Kd.FK (Kd.slice 5 (Kd.int .u8)) _ _ (rd_L1 l1 x37_2) [.slice A126_0 (rd_L1 l1 x37_2).length c126_0] from (Kd.FK_slice_mk (Kd.V_reads' (Kd.V_mono (ok' := (fun k_ => (P1_ k_ ∨ w.heap.size ≤ k_) ∧ some k_ ≠ (u6 : Value).ownBlock)) (HL126_0.out) (fun k_ hk => ⟨hk.1, hk.2.2⟩))).2.1 (Kd.V_F (Kd.V_mono (ok' := (fun k_ => (P1_ k_ ∨ w.heap.size ≤ k_) ∧ some k_ ≠ (u6 : Value).ownBlock)) ((Kd.V_alloc HL126_0.out _)) (fun k_ hk => ⟨hk.1, hk.2.2⟩))))) (Reps.none _ _))) | exact (Reps.one (show Kd.FK (Kd.slice 5 (Kd.int .u8)) _ _ x5_2 [.slice Ao22 x5_2.length co22] from (Kd.FK_slice_mk (Kd.R_reads' (Kd.R_mono (ok' := (fun k_ => (P1_ k_ ∨ w.heap.size ≤ k_) ∧ some k_ ≠ (u6 : Value).ownBlock)) (Kd.R_apart' (HO_5.out) (Kd.R_typed HO_6.out) (by decide)) (fun k_ hk => ⟨(.inr (hk.1)), hk.2⟩))).2.1 (Kd.R_F (Kd.R_mono (ok' := (fun k_ => (P1_ k_ ∨ w.heap.size ≤ k_) ∧ some k_ ≠ (u6 : Value).ownBlock)) (Kd.R_apart' ((by (with_reducible repeat (first | apply Kd.R_alloc | apply Kd.R_drewN | apply Kd.R_drew)); exact HO_5.out)) (Kd.R_typed HO_6.out) (by decide)) (fun k_ hk => ⟨(.inr (hk.1)), hk.2⟩))))) (Reps.one (show Kd.FK (Kd.slice 5 (Kd.int .u8)) _ _ (rd_L1 l1 x37_2) [.slice A126_0 (rd_L1 l1 x37_2).length c126_0] from (Kd.FK_slice_mk (Kd.V_reads' (Kd.V_mono (ok' := (fun k_ => (P1_ k_ ∨ w.heap.size ≤ k_) ∧ some k_ ≠ (u6 : Value).ownBlock)) (HL126_0.out) (fun k_ hk => ⟨hk.1, hk.2.2⟩))).2.1 (Kd.V_F (Kd.V_mono (ok' := (fun k_ => (P1_ k_ ∨ w.heap.size ≤ k_) ∧ some k_ ≠ (u6 : Value).ownBlock)) ((by (with_reducible repeat (first | apply Kd.V_alloc | apply Kd.V_drewN | apply Kd.V_drew)); exact HL126_0.out)) (fun k_ hk => ⟨hk.1, hk.2.2⟩))))) (Reps.none _ _)))); intro v128 w23 ho24 hb hg_ hnew_; clear hg_ hnew_; (first | rw [← Ny127.out] at ho24 | (simp only [Int.reduceToNat] at ho24; rw [← Ny127.out] at ho24)); have n0_ := Aside0.mk (Kd.V_elder' (by (with_reducible repeat (first | apply Kd.V_alloc | apply Kd.V_drewN | apply Kd.V_drew)); exact HO_1.out) (Kd.N_base ho24) hb); have n1_ := Aside0.mk (Kd.R_below (by (with_reducible repeat (first | apply Kd.R_alloc | apply Kd.R_drewN | apply Kd.R_drew)); exact HO_5.out) hb); have n2_ := Aside0.mk (Kd.R_below (by (with_reducible repeat (first | apply Kd.R_alloc | apply Kd.R_drewN | apply Kd.R_drew)); exact HO_6.out) hb); have n3_ := Aside0.mk (Kd.V_elder' (by (with_reducible repeat (first | apply Kd.V_alloc | apply Kd.V_drewN | apply Kd.V_drew)); exact HO_35.out) (Kd.N_base ho24) hb); have n4_ := Aside0.mk (Kd.V_elder' (by (with_reducible repeat (first | apply Kd.V_alloc | apply Kd.V_drewN | apply Kd.V_drew)); exact HL126_0.out) (Kd.N_base ho24) hb); have n5_ := Aside0.mk (Kd.N_lower ho24 (below_size (by repeat (first | (with_reducible first | exact HB.out | apply below_alloc | apply pw_below_drewN | apply below_drew1) | exact HB.out)))); have n6_ := Aside0.mk (Kd.C_below (by repeat (first | (with_reducible exact HR126_0.out) | (with_reducible refine Kd.C_alloc ?_ _) | (with_reducible refine Kd.C_drewN ?_ _) | (with_reducible refine Kd.C_drew ?_) | exact HR126_0.out)) hb); have n7_ := Aside0.mk (below_step (by repeat (first | (with_reducible first | exact HB.out | apply below_alloc | apply pw_below_drewN | apply below_drew1) | exact HB.out)) hb); clear HO_1; clear HO_5; clear HO_6; clear HO_35; clear HL126_0; clear HR126_0; clear HB; have HO_1 := n0_; have HO_5 := n1_; have HO_6 := n2_; have HO_35 := n3_; have HL126_0 := n4_; have HO129 := n5_; have HR126_0 := n6_; have HB := n7_; clear n0_ n1_ n2_ n3_ n4_ n5_ n6_ n7_; clear hb ho24; obtain ⟨Ao25, co25, eo25⟩ := Kd.N_slice HO129.out; subst eo25) | ((with_reducible refine gate_callee (f := 19) rfl ?_); refine goesL_ (some 55) rfl rfl Tryd.func19 (by kernel_rfl) rfl #[.slice Ao25 y127.length co25] rfl (by (try simp only [List.map_toArray, List.map_cons, List.map_nil]); first | done | rfl | (simp only [List.length_drop, List.length_take]; rfl)) ?_; (with_reducible refine (spec_Join.calls k2 _ _ y127 t130 _ ?side1 ?side2 A20.out).mono ?_); (case side1 => repeat (first | exact (Kd.N_reads' HO129.out).2.2 | (with_reducible refine Kd.C_alloc ?_ _) | (with_reducible refine Kd.C_drewN ?_ _) | (with_reducible refine Kd.C_drew ?_))); (case side2 => exact (Kd.N_reads' HO129.out).2.1); rintro e w26 ⟨v131, rfl, ho0, hb⟩; refine ⟨_, rfl, ?_⟩; have n0_ := Aside0.mk (Kd.V_elder' (by (with_reducible repeat (first | apply Kd.V_alloc | apply Kd.V_drewN | apply Kd.V_drew)); exact HO_1.out) (Kd.R_base ho0) hb); have n1_ := Aside0.mk (Kd.R_elder' (by (with_reducible repeat (first | apply Kd.R_alloc | apply Kd.R_drewN | apply Kd.R_drew)); exact HO_5.out) (Kd.R_base ho0) hb); have n2_ := Aside0.mk (Kd.R_below (by (with_reducible repeat (first | apply Kd.R_alloc | apply Kd.R_drewN | apply Kd.R_drew)); exact HO_6.out) hb); have n3_ := Aside0.mk (Kd.V_elder' (by (with_reducible repeat (first | apply Kd.V_alloc | apply Kd.V_drewN | apply Kd.V_drew)); exact HO_35.out) (Kd.R_base ho0) hb); have n4_ := Aside0.mk (Kd.V_elder' (by (with_reducible repeat (first | apply Kd.V_alloc | apply Kd.V_drewN | apply Kd.V_drew)); exact HL126_0.out) (Kd.R_base ho0) hb); have n5_ := Aside0.mk (Kd.N_elder' (by (with_reducible repeat (first | apply Kd.N_alloc | apply Kd.N_drewN | apply Kd.N_drew)); exact HO129.out) (Kd.R_base ho0) hb); have n6_ := Aside0.mk (Kd.R_lower (Kd.R_new' (Kd.R_newM (M := fun k_ => (w.heap.size ≤ k_)) ho0 (below_size (by repeat (first | (with_reducible first | exact HB.out | apply below_alloc | apply pw_below_drewN | apply below_drew1) | exact HB.out))) (fun k_ h_ => h_)) (Kd.R_lt (by (with_reducible repeat (first | apply Kd.R_alloc | apply Kd.R_drewN | apply Kd.R_drew)); exact HO_5.out))) (below_size (by repeat (first | (with_reducible first | exact HB.out | apply below_alloc | apply pw_below_drewN | apply below_drew1) | exact HB.out)))); have n7_ := Aside0.mk (Kd.C_below (by repeat (first | (with_reducible exact HR126_0.out) | (with_reducible refine Kd.C_alloc ?_ _) | (with_reducible refine Kd.C_drewN ?_ _) | (with_reducible refine Kd.C_drew ?_) | exact HR126_0.out)) hb); have n8_ := Aside0.mk (below_step (by repeat (first | (with_reducible first | exact HB.out | apply below_alloc | apply pw_below_drewN | apply below_drew1) | exact HB.out)) hb); clear HO_1; clear HO_5; clear HO_6; clear HO_35; clear HL126_0; clear HO129; clear HR126_0; clear HB; have HO_1 := n0_; have HO_5 := n1_; have HO_6 := n2_; have HO_35 := n3_; have HL126_0 := n4_; have HO129 := n5_; have HO132 := n6_; have HR126_0 := n7_; have HB := n8_; clear n0_ n1_ n2_ n3_ n4_ n5_ n6_ n7_ n8_; (try clear hb); (try clear hb2); (try clear hk); (try clear hi); (try clear ho0)) | ((with_reducible refine gate_builtin (b := .append) (xs := #[.tmp 56, .tmp 58]) rfl ?_); (try (refine gate_guard (by rfl) ?_; dsimp only)); at_builtin; refine Kd.R_append Kd.bool (w0 := w) w.heap.size rfl (.tmp 56) (.tmp 58) 30 4 (.bool false) 1 rfl Tryd.underlying30 info4 rfl (by decide) (by omega) u6 x6_2 true [.bool true] (fun k_ => (w.heap.size ≤ k_)) (fun _ => False) rfl rfl ?aP (fun _ hk => hk.elim) ?aF ?aO ?aB ?aS ?aL ?_; (case aP => exact rfl); (case aB => exact (by repeat (first | (with_reducible first | exact HB.out | apply below_alloc | apply pw_below_drewN | apply below_drew1) | exact HB.out))); (case aF => exact (fun k_ hk => (Nat.le_trans (below_size (by repeat (first | (with_reducible first | exact HB.out | apply below_alloc | apply pw_below_drewN | apply below_drew1) | exact HB.out))) hk))); (case aO => exact (by (with_reducible repeat (first | apply Kd.R_alloc | apply Kd.R_drewN | apply Kd.R_drew)); exact HO_6.out)); (case aS => exact (below_size (by repeat (first | (with_reducible first | exact HB.out | apply below_alloc | apply pw_below_drewN | apply below_drew1) | exact HB.out)))); (case aL => have := LMc21.out; omega); intro v134 w27 ho hb hg hat; rw [← Ny133.out] at ho; have n0_ := Aside0.mk (Kd.V_afterv (ok := (fun k_ => (P1_ k_ ∨ w.heap.size ≤ k_) ∧ some k_ ≠ (.slice Ao22 x5_2.length co22 : Value).ownBlock ∧ some k_ ≠ (.slice Ao25 y127.length co25 : Value).ownBlock ∧ some k_ ≠ (v131 : Value).ownBlock)) (by (with_reducible repeat (first | apply Kd.V_alloc | apply Kd.V_drewN | apply Kd.V_drew)); exact Kd.V_mono HO_1.out (fun _ hk => ⟨⟨hk.1.1.1, ⟨hk.1.1.2.1, ⟨hk.1.2, hk.2⟩⟩⟩, hk.1.1.2.2⟩)) hg hat); have n1_ := Aside0.mk (Kd.R_over' (by (with_reducible repeat (first | apply Kd.R_alloc | apply Kd.R_drewN | apply Kd.R_drew)); exact HO_5.out) (Kd.R_typed (by (with_reducible repeat (first | apply Kd.R_alloc | apply Kd.R_drewN | apply Kd.R_drew)); exact HO_6.out)) (by decide) hg); have n2_ := Aside0.mk (Kd.V_afterv (ok := (fun k_ => (P1_ k_ ∨ w.heap.size ≤ k_) ∧ some k_ ≠ (.slice Ao22 x5_2.length co22 : Value).ownBlock ∧ some k_ ≠ (.slice Ao25 y127.length co25 : Value).ownBlock ∧ some k_ ≠ (v131 : Value).ownBlock)) (by (with_reducible repeat (first | apply Kd.V_alloc | apply Kd.V_drewN | apply Kd.V_drew)); exact Kd.V_mono HO_35.out (fun _ hk => ⟨⟨hk.1.1.1, ⟨hk.1.1.2.1, ⟨hk.1.2, hk.2⟩⟩⟩, hk.1.1.2.2⟩)) hg hat); have n3_ := Aside0.mk (Kd.V_afterv (ok := (fun k_ => (P1_ k_ ∨ w.heap.size ≤ k_) ∧ some k_ ≠ (.slice Ao22 x5_2.length co22 : Value).ownBlock ∧ some k_ ≠ (.slice Ao25 y127.length co25 : Value).ownBlock ∧ some k_ ≠ (v131 : Value).ownBlock)) (by (with_reducible repeat (first | apply Kd.V_alloc | apply Kd.V_drewN | apply Kd.V_drew)); exact Kd.V_mono HL126_0.out (fun _ hk => ⟨⟨hk.1.1.1, ⟨hk.1.1.2.1, ⟨hk.1.2, hk.2⟩⟩⟩, hk.1.1.2.2⟩)) hg hat); have n4_ := Aside0.mk (Kd.N_afterv (ok := (fun k_ => (P1_ k_ ∨ w.heap.size ≤ k_) ∧ some k_ ≠ (v131 : Value).ownBlock)) (by (with_reducible repeat (first | apply Kd.N_alloc | apply Kd.N_drewN | apply Kd.N_drew)); exact Kd.N_mono HO129.out (fun _ hk => ⟨⟨hk.1.1, hk.2⟩, hk.1.2⟩)) hg hat); have n5_ := Aside0.mk (Kd.R_over' (by (with_reducible repeat (first | apply Kd.R_alloc | apply Kd.R_drewN | apply Kd.R_drew)); exact HO132.out) (Kd.R_typed (by (with_reducible repeat (first | apply Kd.R_alloc | apply Kd.R_drewN | apply Kd.R_drew)); exact HO_6.out)) (by decide) hg); have n6_ := Aside0.mk (hb); have n7_ := Aside0.mk (ho); clear HO_1; clear HO_5; clear HO_35; clear HL126_0; clear HO129; clear HO132; clear HB; clear HO_6; have HO_1 := n0_; have HO_5 := n1_; have HO_35 := n2_; have HL126_0 := n3_; have HO129 := n4_; have HO132 := n5_; have HB := n6_; have HO135 := n7_; clear n0_ n1_ n2_ n3_ n4_ n5_ n6_ n7_; clear ho hb hg hat))
                          go_roundg k2
                          case measure => have := HJ4.out; have := HK2.out; omega
                          case rel => exact ⟨(t130), (y133), (wrap64 (x37_2 + 1)), (by first | rfl | (simp; done) | (simp [*]; done)), H', ⟨by have := HJ4.out; have := HK2.out; omega⟩, ⟨by (with_reducible repeat (first | apply Kd.V_alloc | apply Kd.V_drewN | apply Kd.V_drew)); exact Kd.V_mono HO_1.out (fun _ hk => ⟨hk.1.1, ⟨hk.1.2.2.2, hk.2⟩⟩)⟩, ⟨by (with_reducible repeat (first | apply Kd.R_alloc | apply Kd.R_drewN | apply Kd.R_drew)); exact Kd.R_mono HO132.out (fun _ hk => hk.1.1)⟩, ⟨by (with_reducible repeat (first | apply Kd.R_alloc | apply Kd.R_drewN | apply Kd.R_drew)); exact HO135.out⟩, ⟨by (with_reducible repeat (first | apply Kd.V_alloc | apply Kd.V_drewN | apply Kd.V_drew)); exact Kd.V_mono HO_35.out (fun _ hk => ⟨hk.1.1, ⟨hk.1.2.2.2, hk.2⟩⟩)⟩, ⟨by repeat (first | (with_reducible first | exact HB.out | apply below_alloc | apply pw_below_drewN | apply below_drew1) | exact HB.out)⟩⟩
                        · rw [if_neg c21] at H
                          exact absurd H (by simp)
                      · rw [if_neg c19] at H
                        have c19b0 : decide ((wrap64 ((x5_2.length : Int) + ((rd_L1 l1 x37_2).length : Int))) ≤ a0) = false := decide_eq_false c19
                        (try rw [c19b0] at H)
                        clear c19
                        by_cases c28 : x6_2.length < 140737488355328
                        · rw [if_pos c28] at H
                          have LMc28 := Aside0.mk c28
                          clear c28
                          obtain ⟨y136, hy136⟩ : ∃ y_ : List Bool, y_ = (x6_2 ++ [false]) := ⟨_, rfl⟩
                          replace H : (laws_FnInputWithin.l0 k2 a0 l1 x5_2 y136 l1 (l1.length : Int) (wrap64 (x37_2 + 1))) = some r := by first | (rw [hy136]; with_reducible exact H) | (have H2_ := (Option.bind_some _ _).symm.trans H; rw [hy136]; with_reducible exact H2_) | (have H2_ := (Option.bind_some _ _).symm.trans H; with_reducible exact H2_) | with_reducible exact H | (rw [hy136]; exact H) | exact H
                          have Ny136 := Aside0.mk hy136
                          clear hy136
                          have H' := Aside0.mk H
                          clear H
                          have p126 : 0 ≤ (x37_2 : Int) := of_decide_eq_true (by first | (with_reducible assumption) | assumption)
                          have q126 : x37_2 < (l1.length : Int) := of_decide_eq_true (by first | (with_reducible assumption) | assumption)
                          obtain ⟨ad126, A126_0, c126_0, e126, hx126_0, hl126_0, hi126_0⟩ := at_L1 (Kd.V_reads' HO_35.out).2.2 x37_2 p126 q126
                          cases e126
                          obtain ⟨ce126, hce126, hMe126, hcc126⟩ := Kd.V_get HO_35.out [] x37_2 p126 (by first | exact q126 | exact of_decide_eq_true (by first | (with_reducible assumption) | assumption) | (have e_ := (Kd.V_reads' HO_35.out).1; omega))
                          obtain ⟨ua126_0, uc126_0, rfl, ul126_0, ge126_0⟩ := Kd.FK_slice_open hMe126
                          have hv126_0 := hcc126 0 _ rfl
                          rw [Nat.add_zero, show ((Kd.slice 5 (Kd.int .u8))).sz = 1 from rfl, Nat.mul_one] at hv126_0
                          replace hv126_0 := Option.some.inj (hv126_0.symm.trans hx126_0)
                          injection hv126_0 with hva_ hvn_ hvc_
                          rw [hva_] at ge126_0
                          rw [hvc_] at ul126_0
                          have HL126_0 := Aside0.mk (show Kd.V (Kd.int .u8) 5 _ w.heap.size _ _ (rd_L1 l1 x37_2) from Kd.V_mk ul126_0 ge126_0)
                          clear hva_ hvn_ hvc_ ge126_0 ul126_0
                          clear hcc126 hce126
                          have HR126_0 := Aside0.mk hi126_0
                          have HC126_0 := Aside0.mk hl126_0
                          clear hi126_0 hl126_0
                          replace p126 := eq_true p126
                          replace q126 := eq_true q126
                          obtain ⟨Ao29, co29, eo29⟩ := Kd.R_slice HO_5.out
                          subst eo29
                          go_wp2_with (first | ((with_reducible refine gate_builtin (b := .append) (xs := #[.tmp 56, .tmp 58]) rfl ?_); (try (refine gate_guard (by rfl) ?_; dsimp only)); at_builtin; refine Kd.R_append Kd.bool (w0 := w) w.heap.size rfl (.tmp 56) (.tmp 58) 30 4 (.bool false) 1 rfl Tryd.underlying30 info4 rfl (by decide) (by omega) u6 x6_2 false [.bool false] (fun k_ => (w.heap.size ≤ k_)) (fun _ => False) rfl rfl ?aP (fun _ hk => hk.elim) ?aF ?aO ?aB ?aS ?aL ?_; (case aP => exact rfl); (case aB => exact (by repeat (first | (with_reducible first | exact HB.out | apply below_alloc | apply pw_below_drewN | apply below_drew1) | exact HB.out))); (case aF => exact (fun k_ hk => (Nat.le_trans (below_size (by repeat (first | (with_reducible first | exact HB.out | apply below_alloc | apply pw_below_drewN | apply below_drew1) | exact HB.out))) hk))); (case aO => exact (by (with_reducible repeat (first | apply Kd.R_alloc | apply Kd.R_drewN | apply Kd.R_drew)); exact HO_6.out)); (case aS => exact (below_size (by repeat (first | (with_reducible first | exact HB.out | apply below_alloc | apply pw_below_drewN | apply below_drew1) | exact HB.out)))); (case aL => have := LMc28.out; omega); intro v137 w30 ho hb hg hat; rw [← Ny136.out] at ho; have n0_ := Aside0.mk (Kd.V_afterv (ok := (fun k_ => (P1_ k_ ∨ w.heap.size ≤ k_) ∧ some k_ ≠ (.slice Ao29 x5_2.length co29 : Value).ownBlock)) (by (with_reducible repeat (first | apply Kd.V_alloc | apply Kd.V_drewN | apply Kd.V_drew)); exact Kd.V_mono HO_1.out (fun _ hk => ⟨⟨hk.1, hk.2.1⟩, hk.2.2⟩)) hg hat); have n1_ := Aside0.mk (Kd.R_over' (by (with_reducible repeat (first | apply Kd.R_alloc | apply Kd.R_drewN | apply Kd.R_drew)); exact HO_5.out) (Kd.R_typed (by (with_reducible repeat (first | apply Kd.R_alloc | apply Kd.R_drewN | apply Kd.R_drew)); exact HO_6.out)) (by decide) hg); have n2_ := Aside0.mk (Kd.V_afterv (ok := (fun k_ => (P1_ k_ ∨ w.heap.size ≤ k_) ∧ some k_ ≠ (.slice Ao29 x5_2.length co29 : Value).ownBlock)) (by (with_reducible repeat (first | apply Kd.V_alloc | apply Kd.V_drewN | apply Kd.V_drew)); exact Kd.V_mono HO_35.out (fun _ hk => ⟨⟨hk.1, hk.2.1⟩, hk.2.2⟩)) hg hat); have n3_ := Aside0.mk (Kd.V_afterv (ok := (fun k_ => (P1_ k_ ∨ w.heap.size ≤ k_) ∧ some k_ ≠ (.slice Ao29 x5_2.length co29 : Value).ownBlock)) (by (with_reducible repeat (first | apply Kd.V_alloc | apply Kd.V_drewN | apply Kd.V_drew)); exact Kd.V_mono HL126_0.out (fun _ hk => ⟨⟨hk.1, hk.2.1⟩, hk.2.2⟩)) hg hat); have n4_ := Aside0.mk (hb); have n5_ := Aside0.mk (ho); clear HO_1; clear HO_5; clear HO_35; clear HL126_0; clear HB; clear HO_6; have HO_1 := n0_; have HO_5 := n1_; have HO_35 := n2_; have HL126_0 := n3_; have HB := n4_; have HO138 := n5_; clear n0_ n1_ n2_ n3_ n4_ n5_; clear ho hb hg hat))
                          go_roundg k2
                          case measure => have := HJ4.out; have := HK2.out; omega
                          case rel => exact ⟨(x5_2), (y136), (wrap64 (x37_2 + 1)), (by first | rfl | (simp; done) | (simp [*]; done)), H', ⟨by have := HJ4.out; have := HK2.out; omega⟩, ⟨by (with_reducible repeat (first | apply Kd.V_alloc | apply Kd.V_drewN | apply Kd.V_drew)); exact Kd.V_mono HO_1.out (fun _ hk => ⟨hk.1.1, ⟨hk.1.2, hk.2⟩⟩)⟩, ⟨by (with_reducible repeat (first | apply Kd.R_alloc | apply Kd.R_drewN | apply Kd.R_drew)); exact HO_5.out⟩, ⟨by (with_reducible repeat (first | apply Kd.R_alloc | apply Kd.R_drewN | apply Kd.R_drew)); exact HO138.out⟩, ⟨by (with_reducible repeat (first | apply Kd.V_alloc | apply Kd.V_drewN | apply Kd.V_drew)); exact Kd.V_mono HO_35.out (fun _ hk => ⟨hk.1.1, ⟨hk.1.2, hk.2⟩⟩)⟩, ⟨by repeat (first | (with_reducible first | exact HB.out | apply below_alloc | apply pw_below_drewN | apply below_drew1) | exact HB.out)⟩⟩
                        · rw [if_neg c28] at H
                          exact absurd H (by simp)
                  · rw [if_neg c17] at H
                    exact absurd H (by simp)
                · rw [if_neg c16] at H
                  exact absurd H (by simp)
              · rw [if_neg c15] at H
                have c15b0 : decide (x37_2 < (l1.length : Int)) = false := decide_eq_false c15
                clear c15
                replace H := Option.bind_eq_some_iff.mp H
                obtain ⟨⟨t139, t140⟩, A310, H⟩ := H
                replace H : ((spec_SameBytes.f k2 t139 x5_2).bind fun t145 => (if t145 = true then (laws_FnInputWithin.j2 k2 x6_2 t140 ((t140.length : Int) != (x6_2.length : Int))) else (laws_FnInputWithin.j2 k2 x6_2 t140 true))) = some r := H
                have A31 := Aside0.mk A310
                clear A310
                have HC32 := Aside0.mk H
                clear H
                go_upto_region 17 with (first | ((with_reducible refine gate_callee (f := 20) rfl ?_); refine goesL_ (some 64) rfl rfl Tryd.func20 (by kernel_rfl) rfl #[.int .i64 a0, .slice A1 l1.length c1] rfl (by (try simp only [List.map_toArray, List.map_cons, List.map_nil]); first | done | rfl | (simp only [List.length_drop, List.length_take]; rfl)) ?_; (with_reducible refine (impl_WriteWithin.calls a0 _ _ l1 t139 t140 _ ?side1 ?side2 A31.out ?tabTabE).mono ?_); (case tabTabE => first | exact HTabE | exact ⟨Own.TabE.below HTabE.out (by repeat (first | (with_reducible first | exact HB.out | apply below_alloc | apply pw_below_drewN | apply below_drew1) | exact HB.out))⟩ | exact ⟨Own.TabE.drawn HTabE.out (by repeat (first | exact Drawn0.refl _ | apply Drawn0.step))⟩); (case side1 => repeat (first | exact (Kd.V_reads' HO_1.out).2.2 | (with_reducible refine Kd.C_alloc ?_ _) | (with_reducible refine Kd.C_drewN ?_ _) | (with_reducible refine Kd.C_drew ?_))); (case side2 => exact (Kd.V_reads' HO_1.out).2.1); rintro e w33 ⟨v141, v143, rfl, ho0, ho1, hb⟩; refine ⟨_, rfl, ?_⟩; have n0_ := Aside0.mk (Kd.V_mono (Kd.V_told (Kd.V_told (Kd.V_old (by (with_reducible repeat (first | apply Kd.V_alloc | apply Kd.V_drewN | apply Kd.V_drew)); exact HO_1.out) hb) (Kd.R_base ho0)) (Kd.R_base ho1)) (fun _ h_ => h_.1)); have n1_ := Aside0.mk (Kd.R_elder' (by (with_reducible repeat (first | apply Kd.R_alloc | apply Kd.R_drewN | apply Kd.R_drew)); exact HO_5.out) (Kd.R_base ho0) hb); have n2_ := Aside0.mk (Kd.R_elder' (by (with_reducible repeat (first | apply Kd.R_alloc | apply Kd.R_drewN | apply Kd.R_drew)); exact HO_6.out) (Kd.R_base ho1) hb); have n3_ := Aside0.mk (Kd.V_mono (Kd.V_told (Kd.V_told (Kd.V_old (by (with_reducible repeat (first | apply Kd.V_alloc | apply Kd.V_drewN | apply Kd.V_drew)); exact HO_35.out) hb) (Kd.R_base ho0)) (Kd.R_base ho1)) (fun _ h_ => h_.1)); have n4_ := Aside0.mk (Kd.R_lower (Kd.R_new' (Kd.R_newM (M := fun k_ => (w.heap.size ≤ k_)) ho0 (below_size (by repeat (first | (with_reducible first | exact HB.out | apply below_alloc | apply pw_below_drewN | apply below_drew1) | exact HB.out))) (fun k_ h_ => h_)) (Kd.R_lt (by (with_reducible repeat (first | apply Kd.R_alloc | apply Kd.R_drewN | apply Kd.R_drew)); exact HO_5.out))) (below_size (by repeat (first | (with_reducible first | exact HB.out | apply below_alloc | apply pw_below_drewN | apply below_drew1) | exact HB.out)))); have n5_ := Aside0.mk (Kd.R_lower (Kd.R_new' (Kd.R_newM (M := fun k_ => (w.heap.size ≤ k_)) ho1 (below_size (by repeat (first | (with_reducible first | exact HB.out | apply below_alloc | apply pw_below_drewN | apply below_drew1) | exact HB.out))) (fun k_ h_ => h_)) (Kd.R_lt (by (with_reducible repeat (first | apply Kd.R_alloc | apply Kd.R_drewN | apply Kd.R_drew)); exact HO_6.out))) (below_size (by repeat (first | (with_reducible first | exact HB.out | apply below_alloc | apply pw_below_drewN | apply below_drew1) | exact HB.out)))); have n6_ := Aside0.mk (below_step (by repeat (first | (with_reducible first | exact HB.out | apply below_alloc | apply pw_below_drewN | apply below_drew1) | exact HB.out)) hb); clear HO_1; clear HO_5; clear HO_6; clear HO_35; clear HB; have HO_1 := n0_; have HO_5 := n1_; have HO_6 := n2_; have HO_35 := n3_; have HO142 := n4_; have HO144 := n5_; have HB := n6_; clear n0_ n1_ n2_ n3_ n4_ n5_ n6_; (try clear hb); (try clear hb2); (try clear hk); (try clear hi); (try clear ho0); (try clear ho1)))
                (try simp only [Act.put, List.setIfInBounds_toArray, List.set_cons_zero, List.set_cons_succ])
                go_cut [77] (fun v77 wc => ∃ (kq : Nat) (x77_31 : Bool), v77 = .bool x77_31 ∧ Aside0 (laws_FnInputWithin.j2 kq x6_2 t140 x77_31 = some r) ∧ Aside0 (kq ≤ k2) ∧ Aside0 (Kd.R Kd.bool 4 wc w.heap.size (fun k_ => (w.heap.size ≤ k_) ∧ some k_ ≠ (v143 : Value).ownBlock) u6 x6_2) ∧ Aside0 (Kd.R Kd.bool 4 wc w.heap.size (fun k_ => (w.heap.size ≤ k_) ∧ some k_ ≠ (u6 : Value).ownBlock) v143 t140) ∧ Aside0 (Below w.heap.size w wc))
                case first =>
                  have H := HC32.out
                  clear HC32
                  replace H := Option.bind_eq_some_iff.mp H
                  obtain ⟨t145, A340, H⟩ := H
                  replace H : (if t145 = true then (laws_FnInputWithin.j2 k2 x6_2 t140 ((t140.length : Int) != (x6_2.length : Int))) else (laws_FnInputWithin.j2 k2 x6_2 t140 true)) = some r := H
                  have A34 := Aside0.mk A340
                  clear A340
                  by_cases c35 : t145 = true
                  · subst c35
                    have H1 : (laws_FnInputWithin.j2 k2 x6_2 t140 ((t140.length : Int) != (x6_2.length : Int))) = some r := by rw [if_pos rfl] at H; exact H
                    clear H
                    have H := H1
                    clear H1
                    have H' := Aside0.mk H
                    clear H
                    obtain ⟨Ao36, co36, eo36⟩ := Kd.R_slice HO142.out
                    subst eo36
                    obtain ⟨Ao37, co37, eo37⟩ := Kd.R_slice HO_5.out
                    subst eo37
                    go_wp2_with (first | ((with_reducible refine gate_callee (f := 14) rfl ?_); refine goesL_ (some 69) rfl rfl Tryd.func14 (by kernel_rfl) rfl #[.slice Ao36 t139.length co36, .slice Ao37 x5_2.length co37] rfl (by (try simp only [List.map_toArray, List.map_cons, List.map_nil]); first | done | rfl | (simp only [List.length_drop, List.length_take]; rfl)) ?_; (with_reducible refine (spec_SameBytes.calls k2 _ _ t139 _ _ x5_2 true _ ?side1 ?side2 ?side3 ?side4 A34.out).mono ?_); (case side1 => repeat (first | exact (Kd.R_reads' HO142.out).2.2 | (with_reducible refine Kd.C_alloc ?_ _) | (with_reducible refine Kd.C_drewN ?_ _) | (with_reducible refine Kd.C_drew ?_))); (case side2 => exact (Kd.R_reads' HO142.out).2.1); (case side3 => repeat (first | exact (Kd.R_reads' HO_5.out).2.2 | (with_reducible refine Kd.C_alloc ?_ _) | (with_reducible refine Kd.C_drewN ?_ _) | (with_reducible refine Kd.C_drew ?_))); (case side4 => exact (Kd.R_reads' HO_5.out).2.1); rintro e w' ⟨rfl, ⟨nd, rfl⟩⟩; refine ⟨_, rfl, ?_⟩; obtain ⟨Ao38, co38, eo38⟩ := Kd.R_slice HO144.out; subst eo38; obtain ⟨Ao39, co39, eo39⟩ := Kd.R_slice HO_6.out; subst eo39))
                    go_meet
                    case rel => exact ⟨_, (((t140.length : Int) != (x6_2.length : Int))), (by first | rfl | (simp; done) | (simp [*]; done)), H', ⟨by have := HJ4.out; have := HK2.out; first | omega | exact Nat.le_refl _⟩, ⟨by (with_reducible repeat (first | apply Kd.R_alloc | apply Kd.R_drewN | apply Kd.R_drew)); exact HO_6.out⟩, ⟨by (with_reducible repeat (first | apply Kd.R_alloc | apply Kd.R_drewN | apply Kd.R_drew)); exact Kd.R_mono HO144.out (fun _ hk => ⟨hk.1.1, hk.2⟩)⟩, ⟨by repeat (first | (with_reducible first | exact HB.out | apply below_alloc | apply pw_below_drewN | apply below_drew1) | exact HB.out)⟩⟩
                  · replace c35 := Bool.eq_false_iff.mpr c35
                    subst c35
                    have H1 : (laws_FnInputWithin.j2 k2 x6_2 t140 true) = some r := by rw [if_neg (show ¬ (false = true) by decide)] at H; exact H
                    clear H
                    have H := H1
                    clear H1
                    have H' := Aside0.mk H
                    clear H
                    obtain ⟨Ao40, co40, eo40⟩ := Kd.R_slice HO142.out
                    subst eo40
                    obtain ⟨Ao41, co41, eo41⟩ := Kd.R_slice HO_5.out
                    subst eo41
                    go_wp2_with (first | ((with_reducible refine gate_callee (f := 14) rfl ?_); refine goesL_ (some 69) rfl rfl Tryd.func14 (by kernel_rfl) rfl #[.slice Ao40 t139.length co40, .slice Ao41 x5_2.length co41] rfl (by (try simp only [List.map_toArray, List.map_cons, List.map_nil]); first | done | rfl | (simp only [List.length_drop, List.length_take]; rfl)) ?_; (with_reducible refine (spec_SameBytes.calls k2 _ _ t139 _ _ x5_2 false _ ?side1 ?side2 ?side3 ?side4 A34.out).mono ?_); (case side1 => repeat (first | exact (Kd.R_reads' HO142.out).2.2 | (with_reducible refine Kd.C_alloc ?_ _) | (with_reducible refine Kd.C_drewN ?_ _) | (with_reducible refine Kd.C_drew ?_))); (case side2 => exact (Kd.R_reads' HO142.out).2.1); (case side3 => repeat (first | exact (Kd.R_reads' HO_5.out).2.2 | (with_reducible refine Kd.C_alloc ?_ _) | (with_reducible refine Kd.C_drewN ?_ _) | (with_reducible refine Kd.C_drew ?_))); (case side4 => exact (Kd.R_reads' HO_5.out).2.1); rintro e w' ⟨rfl, ⟨nd, rfl⟩⟩; refine ⟨_, rfl, ?_⟩))
                    go_meet
                    case rel => exact ⟨_, (true), (by first | rfl | (simp; done) | (simp [*]; done)), H', ⟨by have := HJ4.out; have := HK2.out; first | omega | exact Nat.le_refl _⟩, ⟨by (with_reducible repeat (first | apply Kd.R_alloc | apply Kd.R_drewN | apply Kd.R_drew)); exact HO_6.out⟩, ⟨by (with_reducible repeat (first | apply Kd.R_alloc | apply Kd.R_drewN | apply Kd.R_drew)); exact Kd.R_mono HO144.out (fun _ hk => ⟨hk.1.1, hk.2⟩)⟩, ⟨by repeat (first | (with_reducible first | exact HB.out | apply below_alloc | apply pw_below_drewN | apply below_drew1) | exact HB.out)⟩⟩
                case rest =>
                  clear HC32
                  try clear c1
                  try clear p1
                  try clear q1
                  try clear hx1
                  try clear c2
                  try clear p2
                  try clear c3
                  try clear c4
                  try clear c5
                  try clear p6
                  try clear c7
                  try clear c8
                  try clear c8b0
                  try clear c8b1
                  try clear c9
                  try clear c9b0
                  try clear c10
                  try clear c12
                  try clear p12
                  try clear q12
                  try clear hx12
                  try clear c13
                  try clear c14
                  try clear c15
                  try clear c15b0
                  try clear c16
                  try clear c16b0
                  try clear c17
                  try clear c17b0
                  try clear c18
                  try clear c18b0
                  try clear c18b1
                  try clear c18b2
                  try clear c19
                  try clear c19b0
                  try clear c20
                  try clear c21
                  try clear c28
                  try clear c35
                  try clear hx126_0
                  try clear p126
                  try clear p2
                  try clear q126
                  obtain ⟨kq, x77_31, rfl, HA, HJ31, HO_6, HO_11, HB⟩ := hcut
                  cases kq with
                  | zero => exact absurd HA.out (by simp [laws_FnInputWithin.j2])
                  | succ kj31 =>
                    have H := HA.out
                    clear HA
                    simp only [laws_FnInputWithin.j2] at H
                    by_cases c42 : x77_31 = true
                    · subst c42
                      have H1 : (some false) = some r := by rw [if_pos rfl] at H; exact H
                      clear H
                      have H := H1
                      clear H1
                      obtain rfl := Option.some.inj H
                      go_wp2
                      go_ret
                      exact ⟨by first | rfl | (simp [errW_none, errW_some] <;> rfl) | (simp [*, errW_none, errW_some] <;> rfl), by repeat (first | (with_reducible first | exact HB.out | apply below_alloc | apply pw_below_drewN | apply below_drew1) | exact HB.out)⟩
                    · replace c42 := Bool.eq_false_iff.mpr c42
                      subst c42
                      have H1 : (laws_FnInputWithin.l1 kj31 t140 x6_2 (x6_2.length : Int) 0) = some r := by rw [if_neg (show ¬ (false = true) by decide)] at H; exact H
                      clear H
                      have H := H1
                      clear H1
                      have H' := Aside0.mk H
                      clear H
                      obtain ⟨Ao43, co43, eo43⟩ := Kd.R_slice HO_6.out
                      subst eo43
                      go_wp2
                      go_loopg [80] kj31 (fun kq v80 w' => ∃ (x80_4 : Int), v80 = .int .i64 x80_4 ∧ Aside0 (laws_FnInputWithin.l1 kq t140 x6_2 (x6_2.length : Int) x80_4 = some r) ∧ Aside0 (kq ≤ kj31) ∧ Aside0 (Kd.R Kd.bool 4 w' w.heap.size (fun k_ => (w.heap.size ≤ k_) ∧ some k_ ≠ ((.slice Ao43 x6_2.length co43) : Value).ownBlock) v143 t140) ∧ Aside0 (Kd.R Kd.bool 4 w' w.heap.size (fun k_ => (w.heap.size ≤ k_) ∧ some k_ ≠ (v143 : Value).ownBlock) (.slice Ao43 x6_2.length co43) x6_2) ∧ Aside0 (Below w.heap.size w w'))
                      case atStart => exact ⟨(0), (by first | rfl | (simp; done) | (simp [*]; done)), H', ⟨Nat.le_refl _⟩, ⟨by (with_reducible repeat (first | apply Kd.R_alloc | apply Kd.R_drewN | apply Kd.R_drew)); exact HO_11.out⟩, ⟨by (with_reducible repeat (first | apply Kd.R_alloc | apply Kd.R_drewN | apply Kd.R_drew)); exact HO_6.out⟩, ⟨by repeat (first | (with_reducible first | exact HB.out | apply below_alloc | apply pw_below_drewN | apply below_drew1) | exact HB.out)⟩⟩
                      case round =>
                        clear H'
                        try clear c1
                        try clear p1
                        try clear q1
                        try clear hx1
                        try clear c2
                        try clear p2
                        try clear c3
                        try clear c4
                        try clear c5
                        try clear p6
                        try clear c7
                        try clear c8
                        try clear c8b0
                        try clear c8b1
                        try clear c9
                        try clear c9b0
                        try clear c10
                        try clear c12
                        try clear p12
                        try clear q12
                        try clear hx12
                        try clear c13
                        try clear c14
                        try clear c15
                        try clear c15b0
                        try clear c16
                        try clear c16b0
                        try clear c17
                        try clear c17b0
                        try clear c18
                        try clear c18b0
                        try clear c18b1
                        try clear c18b2
                        try clear c19
                        try clear c19b0
                        try clear c20
                        try clear c21
                        try clear c28
                        try clear c35
                        try clear c42
                        try clear hx126_0
                        try clear p1
                        try clear p12
                        try clear p126
                        try clear p2
                        try clear p6
                        try clear q1
                        try clear q12
                        try clear q126
                        obtain ⟨x80_4, rfl, HA, HK4, HO_11, HO_78, HB⟩ := hrel
                        cases gk with
                        | zero => exact absurd HA.out (by simp [laws_FnInputWithin.l1])
                        | succ k4 =>
                          have H := HA.out
                          clear HA
                          simp only [laws_FnInputWithin.l1] at H
                          by_cases c44 : x80_4 < (x6_2.length : Int)
                          · rw [if_pos c44] at H
                            have c44b0 : decide (x80_4 < (x6_2.length : Int)) = true := decide_eq_true c44
                            clear c44
                            by_cases c45 : 0 ≤ x80_4
                            · rw [if_pos c45] at H
                              have c45b0 : decide (0 ≤ x80_4) = true := decide_eq_true c45
                              clear c45
                              by_cases c46 : x80_4 < (x6_2.length : Int)
                              · rw [if_pos c46] at H
                                have c46b0 : decide (x80_4 < (x6_2.length : Int)) = true := decide_eq_true c46
                                clear c46
                                by_cases c47 : x80_4 < (t140.length : Int)
                                · rw [if_pos c47] at H
                                  have c47b0 : decide (x80_4 < (t140.length : Int)) = true := decide_eq_true c47
                                  clear c47
                                  by_cases c48 : ((rdOf false t140 x80_4) != (rdOf false x6_2 x80_4)) = true
                                  · rw [if_pos c48] at H
                                    have c48b0 : ((rdOf false t140 x80_4) != (rdOf false x6_2 x80_4)) = true := c48
                                    (try (have c48b1 : decide ((rdOf false t140 x80_4) = (rdOf false x6_2 x80_4)) = false := by simpa using c48))
                                    (try (have c48b2 : ((rdOf false t140 x80_4) == (rdOf false x6_2 x80_4)) = false := by simpa using c48))
                                    (try (have c48b3 : ¬ ((rdOf false t140 x80_4) = (rdOf false x6_2 x80_4)) := by simpa using c48))
                                    clear c48
                                    obtain rfl := Option.some.inj H
                                    have p146 : 0 ≤ (x80_4 : Int) := of_decide_eq_true (by first | (with_reducible assumption) | assumption)
                                    have q146 : x80_4 < (x6_2.length : Int) := of_decide_eq_true (by first | (with_reducible assumption) | assumption)
                                    obtain ⟨ad146, e146, hx146_0⟩ := Kd.at_bool (Kd.R_reads' HO_78.out).2.2 x80_4 p146 q146
                                    cases e146
                                    replace p146 := eq_true p146
                                    replace q146 := eq_true q146
                                    obtain ⟨Ao49, co49, eo49⟩ := Kd.R_slice HO_11.out
                                    subst eo49
                                    have p147 : 0 ≤ (x80_4 : Int) := of_decide_eq_true (by first | (with_reducible assumption) | assumption)
                                    have q147 : x80_4 < (t140.length : Int) := of_decide_eq_true (by first | (with_reducible assumption) | assumption)
                                    obtain ⟨ad147, e147, hx147_0⟩ := Kd.at_bool (Kd.R_reads' HO_11.out).2.2 x80_4 p147 q147
                                    cases e147
                                    replace p147 := eq_true p147
                                    replace q147 := eq_true q147
                                    go_wp2
                                    go_ret
                                    exact ⟨by first | rfl | (simp [errW_none, errW_some] <;> rfl) | (simp [*, errW_none, errW_some] <;> rfl), by repeat (first | (with_reducible first | exact HB.out | apply below_alloc | apply pw_below_drewN | apply below_drew1) | exact HB.out)⟩
                                  · rw [if_neg c48] at H
                                    have c48b0 : ((rdOf false t140 x80_4) != (rdOf false x6_2 x80_4)) = false := by simpa using c48
                                    (try (have c48b1 : decide ((rdOf false t140 x80_4) = (rdOf false x6_2 x80_4)) = true := by simpa using c48))
                                    (try (have c48b2 : ((rdOf false t140 x80_4) == (rdOf false x6_2 x80_4)) = true := by simpa using c48))
                                    clear c48
                                    have H' := Aside0.mk H
                                    clear H
                                    have p146 : 0 ≤ (x80_4 : Int) := of_decide_eq_true (by first | (with_reducible assumption) | assumption)
                                    have q146 : x80_4 < (x6_2.length : Int) := of_decide_eq_true (by first | (with_reducible assumption) | assumption)
                                    obtain ⟨ad146, e146, hx146_0⟩ := Kd.at_bool (Kd.R_reads' HO_78.out).2.2 x80_4 p146 q146
                                    cases e146
                                    replace p146 := eq_true p146
                                    replace q146 := eq_true q146
                                    obtain ⟨Ao50, co50, eo50⟩ := Kd.R_slice HO_11.out
                                    subst eo50
                                    have p147 : 0 ≤ (x80_4 : Int) := of_decide_eq_true (by first | (with_reducible assumption) | assumption)
                                    have q147 : x80_4 < (t140.length : Int) := of_decide_eq_true (by first | (with_reducible assumption) | assumption)
                                    obtain ⟨ad147, e147, hx147_0⟩ := Kd.at_bool (Kd.R_reads' HO_11.out).2.2 x80_4 p147 q147
                                    cases e147
                                    replace p147 := eq_true p147
                                    replace q147 := eq_true q147
                                    go_wp2
                                    go_roundg k4
                                    case measure => have := HJ4.out; have := HK2.out; have := HJ31.out; have := HK4.out; omega
                                    case rel => exact ⟨(wrap64 (x80_4 + 1)), (by first | rfl | (simp; done) | (simp [*]; done)), H', ⟨by have := HJ4.out; have := HK2.out; have := HJ31.out; have := HK4.out; omega⟩, ⟨by (with_reducible repeat (first | apply Kd.R_alloc | apply Kd.R_drewN | apply Kd.R_drew)); exact HO_11.out⟩, ⟨by (with_reducible repeat (first | apply Kd.R_alloc | apply Kd.R_drewN | apply Kd.R_drew)); exact HO_78.out⟩, ⟨by repeat (first | (with_reducible first | exact HB.out | apply below_alloc | apply pw_below_drewN | apply below_drew1) | exact HB.out)⟩⟩
                                · rw [if_neg c47] at H
                                  exact absurd H (by simp)
                              · rw [if_neg c46] at H
                                exact absurd H (by simp)
                            · rw [if_neg c45] at H
                              exact absurd H (by simp)
                          · rw [if_neg c44] at H
                            have c44b0 : decide (x80_4 < (x6_2.length : Int)) = false := decide_eq_false c44
                            clear c44
                            obtain rfl := Option.some.inj H
                            go_wp2
                            go_ret
                            exact ⟨by first | rfl | (simp [errW_none, errW_some] <;> rfl) | (simp [*, errW_none, errW_some] <;> rfl), by repeat (first | (with_reducible first | exact HB.out | apply below_alloc | apply pw_below_drewN | apply below_drew1) | exact HB.out)⟩
  · replace c4 := Bool.eq_false_iff.mpr c4
    subst c4
    have H1 : (some true) = some r := by rw [if_neg (show ¬ (false = true) by decide)] at H; exact H
    clear H
    have H := H1
    clear H1
    obtain rfl := Option.some.inj H
    go_enter Tryd.func5, Tryd.ntmps5
    go_wp2_with (first | ((with_reducible refine gate_callee (f := 18) rfl ?_); refine goesL_ (some 15) rfl rfl Tryd.func18 (by kernel_rfl) rfl #[.slice A1 l1.length c1] rfl (by (try simp only [List.map_toArray, List.map_cons, List.map_nil]); first | done | rfl | (simp only [List.length_drop, List.length_take]; rfl)) ?_; (with_reducible refine (laws_zzFits1.calls k _ _ l1 false _ ?side1 ?side2 A3.out).mono ?_); (case side1 => repeat (first | exact (Kd.V_reads' HO1.out).2.2 | (with_reducible refine Kd.C_alloc ?_ _) | (with_reducible refine Kd.C_drewN ?_ _) | (with_reducible refine Kd.C_drew ?_))); (case side2 => exact (Kd.V_reads' HO1.out).2.1); rintro e w' ⟨rfl, ⟨nd, rfl⟩⟩; refine ⟨_, rfl, ?_⟩))
    go_ret
    exact ⟨by first | rfl | (simp [errW_none, errW_some] <;> rfl) | (simp [*, errW_none, errW_some] <;> rfl), by repeat (first | (with_reducible first | exact HB.out | apply below_alloc | apply pw_below_drewN | apply below_drew1) | exact HB.out)⟩

end Go.Proofs.YtbjjjbfjplfmeaaDoor.PFnInputWithin
