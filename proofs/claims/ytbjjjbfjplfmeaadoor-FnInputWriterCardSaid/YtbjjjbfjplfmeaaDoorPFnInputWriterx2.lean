-- Laid by a program of this session, out of the translation's print.
import Derived.Test.YtbjjjbfjplfmeaaDoorPFnInputWriterx0
import Derived.Test.YtbjjjbfjplfmeaaDoorPFnInputWriterx1
namespace Go.Proofs.YtbjjjbfjplfmeaaDoor.PFnInputWriter
open Go.Proofs.YtbjjjbfjplfmeaaDoor.Own
open Go.RowKit Go.Proofs.YtbjjjbfjplfmeaaDoorW.PrintWords Go.Proofs.YtbjjjbfjplfmeaaDoorW.PrintLast Go.Proofs.YtbjjjbfjplfmeaaDoorW.PrintMore
attribute [local go_sem] max2_int min2_int max_two min_two max_three min_three max_four min_four   -- for this text's walks alone
set_option linter.unusedVariables false
set_option linter.unusedSimpArgs false

/-! ### laws_FnInputWriter: function 6 -/
mutual
def laws_FnInputWriter.j0 : Nat → List (List Int) → Bool → Option (Bool)
  | 0, _, _ => none
  | k + 1, x0, x17 => if x17 = true then (some true) else ((impl_WritePieces.f x0).bind fun bt120 => ((spec_Join.f k x0).bind fun t126 => ((spec_SameBytes.f k bt120.1 t126).bind fun t129 => (if t129 = true then (laws_FnInputWriter.j1 k x0 bt120.2 ((bt120.2.length : Int) != (x0.length : Int))) else (laws_FnInputWriter.j1 k x0 bt120.2 true)))))
def laws_FnInputWriter.j1 : Nat → List (List Int) → List Int → Bool → Option (Bool)
  | 0, _, _, _ => none
  | k + 1, x0, x4, x34 => if x34 = true then (some false) else (laws_FnInputWriter.l0 k x4 x0 (x0.length : Int) 0)
def laws_FnInputWriter.l0 : Nat → List Int → List (List Int) → Int → Int → Option (Bool)
  | 0, _, _, _, _ => none
  | k + 1, x4, x35, x36, x37 => if x37 < x36 then (if 0 ≤ x37 then (if x37 < (x35.length : Int) then (if x37 < (x4.length : Int) then (if (rd x4 x37) = ((rd_L1 x35 x37).length : Int) then (laws_FnInputWriter.l0 k x4 x35 x36 (wrap64 (x37 + 1))) else (some false)) else (none)) else (none)) else (none)) else (some true)
end
def laws_FnInputWriter.f (k : Nat) (l0 : List (List Int)) : Option (Bool) := (laws_zzFits1.f k l0).bind fun t118 => (if t118 = true then ((laws_fewBytes.f k l0).bind fun t119 => (if t119 = true then (laws_FnInputWriter.j0 k l0 (decide ((l0.length : Int) > 20))) else (laws_FnInputWriter.j0 k l0 true))) else (some true))
theorem laws_FnInputWriter.mono_l : ∀ k, (∀ y0 y1, LeO (laws_FnInputWriter.j0 k y0 y1) (laws_FnInputWriter.j0 (k + 1) y0 y1)) ∧ (∀ y0 y1 y2, LeO (laws_FnInputWriter.j1 k y0 y1 y2) (laws_FnInputWriter.j1 (k + 1) y0 y1 y2)) ∧ (∀ y0 y1 y2 y3, LeO (laws_FnInputWriter.l0 k y0 y1 y2 y3) (laws_FnInputWriter.l0 (k + 1) y0 y1 y2 y3))
  | 0 => ⟨fun _ _ r h => by simp [laws_FnInputWriter.j0] at h, fun _ _ _ r h => by simp [laws_FnInputWriter.j1] at h, fun _ _ _ _ r h => by simp [laws_FnInputWriter.l0] at h⟩
  | k + 1 => by
    obtain ⟨ih0, ih1, ih2⟩ := laws_FnInputWriter.mono_l k
    refine ⟨?_, ?_, ?_⟩
    · intro y0 y1
      unfold laws_FnInputWriter.j0
      repeat' first
      | (with_reducible exact ih0 _ _)
      | (with_reducible exact ih1 _ _ _)
      | (with_reducible exact ih2 _ _ _ _)
      | (with_reducible exact laws_fewBytes.mono _ _)
      | (with_reducible exact laws_zzFits1.mono _ _)
      | (with_reducible exact spec_Join.mono _ _)
      | (with_reducible exact spec_SameBytes.mono _ _ _)
      | (with_reducible exact LeO.refl _)
      | (with_reducible exact LeO.none _)
      | (with_reducible refine LeO.ite ?_ ?_)
      | (with_reducible refine LeO.bind ?_ (fun _ => ?_))
      | exact ih0 _ _
      | exact ih1 _ _ _
      | exact ih2 _ _ _ _
      | exact laws_fewBytes.mono _ _
      | exact laws_zzFits1.mono _ _
      | exact spec_Join.mono _ _
      | exact spec_SameBytes.mono _ _ _
      | exact LeO.none _
      | refine LeO.ite ?_ ?_
      | refine LeO.bind ?_ (fun _ => ?_)
    · intro y0 y1 y2
      unfold laws_FnInputWriter.j1
      repeat' first
      | (with_reducible exact ih0 _ _)
      | (with_reducible exact ih1 _ _ _)
      | (with_reducible exact ih2 _ _ _ _)
      | (with_reducible exact laws_fewBytes.mono _ _)
      | (with_reducible exact laws_zzFits1.mono _ _)
      | (with_reducible exact spec_Join.mono _ _)
      | (with_reducible exact spec_SameBytes.mono _ _ _)
      | (with_reducible exact LeO.refl _)
      | (with_reducible exact LeO.none _)
      | (with_reducible refine LeO.ite ?_ ?_)
      | (with_reducible refine LeO.bind ?_ (fun _ => ?_))
      | exact ih0 _ _
      | exact ih1 _ _ _
      | exact ih2 _ _ _ _
      | exact laws_fewBytes.mono _ _
      | exact laws_zzFits1.mono _ _
      | exact spec_Join.mono _ _
      | exact spec_SameBytes.mono _ _ _
      | exact LeO.none _
      | refine LeO.ite ?_ ?_
      | refine LeO.bind ?_ (fun _ => ?_)
    · intro y0 y1 y2 y3
      unfold laws_FnInputWriter.l0
      repeat' first
      | (with_reducible exact ih0 _ _)
      | (with_reducible exact ih1 _ _ _)
      | (with_reducible exact ih2 _ _ _ _)
      | (with_reducible exact laws_fewBytes.mono _ _)
      | (with_reducible exact laws_zzFits1.mono _ _)
      | (with_reducible exact spec_Join.mono _ _)
      | (with_reducible exact spec_SameBytes.mono _ _ _)
      | (with_reducible exact LeO.refl _)
      | (with_reducible exact LeO.none _)
      | (with_reducible refine LeO.ite ?_ ?_)
      | (with_reducible refine LeO.bind ?_ (fun _ => ?_))
      | exact ih0 _ _
      | exact ih1 _ _ _
      | exact ih2 _ _ _ _
      | exact laws_fewBytes.mono _ _
      | exact laws_zzFits1.mono _ _
      | exact spec_Join.mono _ _
      | exact spec_SameBytes.mono _ _ _
      | exact LeO.none _
      | refine LeO.ite ?_ ?_
      | refine LeO.bind ?_ (fun _ => ?_)
theorem laws_FnInputWriter.mono : ∀ a0 k, LeO (laws_FnInputWriter.f k a0) (laws_FnInputWriter.f (k + 1) a0) := by
  intro a0 k
  obtain ⟨ih0, ih1, ih2⟩ := laws_FnInputWriter.mono_l k
  unfold laws_FnInputWriter.f
  repeat' first
      | (with_reducible exact ih0 _ _)
      | (with_reducible exact ih1 _ _ _)
      | (with_reducible exact ih2 _ _ _ _)
      | (with_reducible exact laws_fewBytes.mono _ _)
      | (with_reducible exact laws_zzFits1.mono _ _)
      | (with_reducible exact spec_Join.mono _ _)
      | (with_reducible exact spec_SameBytes.mono _ _ _)
      | (with_reducible exact LeO.refl _)
      | (with_reducible exact LeO.none _)
      | (with_reducible refine LeO.ite ?_ ?_)
      | (with_reducible refine LeO.bind ?_ (fun _ => ?_))
      | exact ih0 _ _
      | exact ih1 _ _ _
      | exact ih2 _ _ _ _
      | exact laws_fewBytes.mono _ _
      | exact laws_zzFits1.mono _ _
      | exact spec_Join.mono _ _
      | exact spec_SameBytes.mono _ _ _
      | exact LeO.none _
      | refine LeO.ite ?_ ?_
      | refine LeO.bind ?_ (fun _ => ?_)
set_option maxHeartbeats 8000000 in
set_option maxRecDepth 100000 in
theorem laws_FnInputWriter.calls (k : Nat) (A0 : Option Addr) (c0 : Nat) (l0 : List (List Int)) (r : Bool) (w : World) (hr0 : Kd.C (Kd.slice 5 (Kd.int .u8)) w A0 l0.length l0) (hc0 : l0.length ≤ c0) (h : laws_FnInputWriter.f k l0 = some r) :
    Calls Tryd.prog 6 #[.slice A0 l0.length c0] w fun e w' => e = .returned (.bool r) ∧ Below w.heap.size w w' := by
  have HR0 := Aside0.mk hr0
  have HC0 := Aside0.mk hc0
  clear hr0 hc0
  have HB := Aside0.mk (Below.refl w.heap.size w)
  have H : ((laws_zzFits1.f k l0).bind fun t118 => (if t118 = true then ((laws_fewBytes.f k l0).bind fun t119 => (if t119 = true then (laws_FnInputWriter.j0 k l0 (decide ((l0.length : Int) > 20))) else (laws_FnInputWriter.j0 k l0 true))) else (some true))) = some r := h
  clear h
  replace H := Option.bind_eq_some_iff.mp H
  obtain ⟨t118, A20, H⟩ := H
  replace H : (if t118 = true then ((laws_fewBytes.f k l0).bind fun t119 => (if t119 = true then (laws_FnInputWriter.j0 k l0 (decide ((l0.length : Int) > 20))) else (laws_FnInputWriter.j0 k l0 true))) else (some true)) = some r := H
  have A2 := Aside0.mk A20
  clear A20
  by_cases c3 : t118 = true
  · subst c3
    have H1 : ((laws_fewBytes.f k l0).bind fun t119 => (if t119 = true then (laws_FnInputWriter.j0 k l0 (decide ((l0.length : Int) > 20))) else (laws_FnInputWriter.j0 k l0 true))) = some r := by rw [if_pos rfl] at H; exact H
    clear H
    have H := H1
    clear H1
    have HC4 := Aside0.mk H
    clear H
    go_enter Tryd.func6, Tryd.ntmps6
    go_upto_region 3 with (first | ((with_reducible refine gate_callee (f := 18) rfl ?_); refine goesL_ (some 8) rfl rfl Tryd.func18 (by kernel_rfl) rfl #[.slice A0 l0.length c0] rfl (by (try simp only [List.map_toArray, List.map_cons, List.map_nil]); first | done | rfl | (simp only [List.length_drop, List.length_take]; rfl)) ?_; (with_reducible refine (laws_zzFits1.calls k _ _ l0 true _ ?side1 ?side2 A2.out).mono ?_); (case side1 => repeat (first | exact HR0.out | (with_reducible refine Kd.C_alloc ?_ _) | (with_reducible refine Kd.C_drewN ?_ _) | (with_reducible refine Kd.C_drew ?_))); (case side2 => exact HC0.out); rintro e w' ⟨rfl, ⟨nd, rfl⟩⟩; refine ⟨_, rfl, ?_⟩))
    (try simp only [Act.put, List.setIfInBounds_toArray, List.set_cons_zero, List.set_cons_succ])
    go_cut [17] (fun v17 wc => ∃ (kq : Nat) (x17_3 : Bool), v17 = .bool x17_3 ∧ Aside0 (laws_FnInputWriter.j0 kq l0 x17_3 = some r) ∧ Aside0 (kq ≤ k) ∧ Aside0 (Below w.heap.size w wc))
    case first =>
      have H := HC4.out
      clear HC4
      replace H := Option.bind_eq_some_iff.mp H
      obtain ⟨t119, A50, H⟩ := H
      replace H : (if t119 = true then (laws_FnInputWriter.j0 k l0 (decide ((l0.length : Int) > 20))) else (laws_FnInputWriter.j0 k l0 true)) = some r := H
      have A5 := Aside0.mk A50
      clear A50
      by_cases c6 : t119 = true
      · subst c6
        have H1 : (laws_FnInputWriter.j0 k l0 (decide ((l0.length : Int) > 20))) = some r := by rw [if_pos rfl] at H; exact H
        clear H
        have H := H1
        clear H1
        have H' := Aside0.mk H
        clear H
        go_wp2_with (first | ((with_reducible refine gate_callee (f := 13) rfl ?_); refine goesL_ (some 11) rfl rfl Tryd.func13 (by kernel_rfl) rfl #[.slice A0 l0.length c0] rfl (by (try simp only [List.map_toArray, List.map_cons, List.map_nil]); first | done | rfl | (simp only [List.length_drop, List.length_take]; rfl)) ?_; (with_reducible refine (laws_fewBytes.calls k _ _ l0 true _ ?side1 ?side2 A5.out).mono ?_); (case side1 => repeat (first | exact (Kd.C_below HR0.out HB.out) | (with_reducible refine Kd.C_alloc ?_ _) | (with_reducible refine Kd.C_drewN ?_ _) | (with_reducible refine Kd.C_drew ?_))); (case side2 => exact HC0.out); rintro e w' ⟨rfl, ⟨nd, rfl⟩⟩; refine ⟨_, rfl, ?_⟩))
        go_meet
        case rel => exact ⟨_, (decide ((l0.length : Int) > 20)), (by first | rfl | (simp; done) | (simp [*]; done)), H', ⟨by first | omega | exact Nat.le_refl _⟩, ⟨by repeat (first | (with_reducible first | exact HB.out | apply below_alloc | apply pw_below_drewN | apply below_drew1) | exact HB.out)⟩⟩
      · replace c6 := Bool.eq_false_iff.mpr c6
        subst c6
        have H1 : (laws_FnInputWriter.j0 k l0 true) = some r := by rw [if_neg (show ¬ (false = true) by decide)] at H; exact H
        clear H
        have H := H1
        clear H1
        have H' := Aside0.mk H
        clear H
        go_wp2_with (first | ((with_reducible refine gate_callee (f := 13) rfl ?_); refine goesL_ (some 11) rfl rfl Tryd.func13 (by kernel_rfl) rfl #[.slice A0 l0.length c0] rfl (by (try simp only [List.map_toArray, List.map_cons, List.map_nil]); first | done | rfl | (simp only [List.length_drop, List.length_take]; rfl)) ?_; (with_reducible refine (laws_fewBytes.calls k _ _ l0 false _ ?side1 ?side2 A5.out).mono ?_); (case side1 => repeat (first | exact (Kd.C_below HR0.out HB.out) | (with_reducible refine Kd.C_alloc ?_ _) | (with_reducible refine Kd.C_drewN ?_ _) | (with_reducible refine Kd.C_drew ?_))); (case side2 => exact HC0.out); rintro e w' ⟨rfl, ⟨nd, rfl⟩⟩; refine ⟨_, rfl, ?_⟩))
        go_meet
        case rel => exact ⟨_, (true), (by first | rfl | (simp; done) | (simp [*]; done)), H', ⟨by first | omega | exact Nat.le_refl _⟩, ⟨by repeat (first | (with_reducible first | exact HB.out | apply below_alloc | apply pw_below_drewN | apply below_drew1) | exact HB.out)⟩⟩
    case rest =>
      clear HC4
      try clear c1
      try clear p2
      try clear c3
      try clear c6
      obtain ⟨kq, x17_3, rfl, HA, HJ3, HB⟩ := hcut
      cases kq with
      | zero => exact absurd HA.out (by simp [laws_FnInputWriter.j0])
      | succ kj3 =>
        have H := HA.out
        clear HA
        simp only [laws_FnInputWriter.j0] at H
        by_cases c7 : x17_3 = true
        · subst c7
          have H1 : (some true) = some r := by rw [if_pos rfl] at H; exact H
          clear H
          have H := H1
          clear H1
          obtain rfl := Option.some.inj H
          go_wp2
          go_ret
          exact ⟨by first | rfl | (simp [errW_none, errW_some] <;> rfl) | (simp [*, errW_none, errW_some] <;> rfl), by repeat (first | (with_reducible first | exact HB.out | apply below_alloc | apply pw_below_drewN | apply below_drew1) | exact HB.out)⟩
        · replace c7 := Bool.eq_false_iff.mpr c7
          subst c7
          have H1 : ((impl_WritePieces.f l0).bind fun bt120 => ((spec_Join.f kj3 l0).bind fun t126 => ((spec_SameBytes.f kj3 bt120.1 t126).bind fun t129 => (if t129 = true then (laws_FnInputWriter.j1 kj3 l0 bt120.2 ((bt120.2.length : Int) != (l0.length : Int))) else (laws_FnInputWriter.j1 kj3 l0 bt120.2 true))))) = some r := by rw [if_neg (show ¬ (false = true) by decide)] at H; exact H
          clear H
          have H := H1
          clear H1
          replace H := Option.bind_eq_some_iff.mp H
          obtain ⟨⟨t120, t121⟩, A80, H⟩ := H
          replace H : ((spec_Join.f kj3 l0).bind fun t126 => ((spec_SameBytes.f kj3 t120 t126).bind fun t129 => (if t129 = true then (laws_FnInputWriter.j1 kj3 l0 t121 ((t121.length : Int) != (l0.length : Int))) else (laws_FnInputWriter.j1 kj3 l0 t121 true)))) = some r := H
          have A8 := Aside0.mk A80
          clear A80
          have HC9 := Aside0.mk H
          clear H
          go_upto_region 6 with (first | ((with_reducible refine gate_callee (f := 21) rfl ?_); refine goesL_ (some 20) rfl rfl Tryd.func21 (by kernel_rfl) rfl #[.slice A0 l0.length c0] rfl (by (try simp only [List.map_toArray, List.map_cons, List.map_nil]); first | done | rfl | (simp only [List.length_drop, List.length_take]; rfl)) ?_; (with_reducible refine (impl_WritePieces.calls _ _ l0 t120 t121 _ ?side1 ?side2 A8.out).mono ?_); (case side1 => repeat (first | exact (Kd.C_below HR0.out HB.out) | (with_reducible refine Kd.C_alloc ?_ _) | (with_reducible refine Kd.C_drewN ?_ _) | (with_reducible refine Kd.C_drew ?_))); (case side2 => exact HC0.out); rintro e w10 ⟨v122, v124, rfl, ho0, ho1, hb⟩; refine ⟨_, rfl, ?_⟩; have n0_ := Aside0.mk (Kd.R_lower ho0 (below_size (by repeat (first | (with_reducible first | exact HB.out | apply below_alloc | apply pw_below_drewN | apply below_drew1) | exact HB.out)))); have n1_ := Aside0.mk (Kd.R_lower ho1 (below_size (by repeat (first | (with_reducible first | exact HB.out | apply below_alloc | apply pw_below_drewN | apply below_drew1) | exact HB.out)))); have n2_ := Aside0.mk (below_step (by repeat (first | (with_reducible first | exact HB.out | apply below_alloc | apply pw_below_drewN | apply below_drew1) | exact HB.out)) hb); clear HB; have HO123 := n0_; have HO125 := n1_; have HB := n2_; clear n0_ n1_ n2_; (try clear hb); (try clear hb2); (try clear hk); (try clear hi); (try clear ho0); (try clear ho1)))
          (try simp only [Act.put, List.setIfInBounds_toArray, List.set_cons_zero, List.set_cons_succ])
          go_cut [34] (fun v34 wc => ∃ (kq : Nat) (x34_8 : Bool), v34 = .bool x34_8 ∧ Aside0 (laws_FnInputWriter.j1 kq l0 t121 x34_8 = some r) ∧ Aside0 (kq ≤ kj3) ∧ Aside0 (Kd.R (Kd.int .i64) 3 wc w.heap.size (fun _ => True) v124 t121) ∧ Aside0 (Below w.heap.size w wc))
          case first =>
            have H := HC9.out
            clear HC9
            replace H := Option.bind_eq_some_iff.mp H
            obtain ⟨t126, A110, H⟩ := H
            replace H : ((spec_SameBytes.f kj3 t120 t126).bind fun t129 => (if t129 = true then (laws_FnInputWriter.j1 kj3 l0 t121 ((t121.length : Int) != (l0.length : Int))) else (laws_FnInputWriter.j1 kj3 l0 t121 true))) = some r := H
            have A11 := Aside0.mk A110
            clear A110
            replace H := Option.bind_eq_some_iff.mp H
            obtain ⟨t129, A120, H⟩ := H
            replace H : (if t129 = true then (laws_FnInputWriter.j1 kj3 l0 t121 ((t121.length : Int) != (l0.length : Int))) else (laws_FnInputWriter.j1 kj3 l0 t121 true)) = some r := H
            have A12 := Aside0.mk A120
            clear A120
            by_cases c13 : t129 = true
            · subst c13
              have H1 : (laws_FnInputWriter.j1 kj3 l0 t121 ((t121.length : Int) != (l0.length : Int))) = some r := by rw [if_pos rfl] at H; exact H
              clear H
              have H := H1
              clear H1
              have H' := Aside0.mk H
              clear H
              go_wp2_with (first | ((with_reducible refine gate_callee (f := 19) rfl ?_); refine goesL_ (some 25) rfl rfl Tryd.func19 (by kernel_rfl) rfl #[.slice A0 l0.length c0] rfl (by (try simp only [List.map_toArray, List.map_cons, List.map_nil]); first | done | rfl | (simp only [List.length_drop, List.length_take]; rfl)) ?_; (with_reducible refine (spec_Join.calls kj3 _ _ l0 t126 _ ?side1 ?side2 A11.out).mono ?_); (case side1 => repeat (first | exact (Kd.C_below HR0.out HB.out) | (with_reducible refine Kd.C_alloc ?_ _) | (with_reducible refine Kd.C_drewN ?_ _) | (with_reducible refine Kd.C_drew ?_))); (case side2 => exact HC0.out); rintro e w14 ⟨v127, rfl, ho0, hb⟩; refine ⟨_, rfl, ?_⟩; have n0_ := Aside0.mk (Kd.R_elder' (by (with_reducible repeat (first | apply Kd.R_alloc | apply Kd.R_drewN | apply Kd.R_drew)); exact HO123.out) (Kd.R_base ho0) hb); have n1_ := Aside0.mk (Kd.R_below (by (with_reducible repeat (first | apply Kd.R_alloc | apply Kd.R_drewN | apply Kd.R_drew)); exact HO125.out) hb); have n2_ := Aside0.mk (Kd.R_lower (Kd.R_new' ho0 (Kd.R_lt (by (with_reducible repeat (first | apply Kd.R_alloc | apply Kd.R_drewN | apply Kd.R_drew)); exact HO123.out))) (below_size (by repeat (first | (with_reducible first | exact HB.out | apply below_alloc | apply pw_below_drewN | apply below_drew1) | exact HB.out)))); have n3_ := Aside0.mk (below_step (by repeat (first | (with_reducible first | exact HB.out | apply below_alloc | apply pw_below_drewN | apply below_drew1) | exact HB.out)) hb); clear HO123; clear HO125; clear HB; have HO123 := n0_; have HO125 := n1_; have HO128 := n2_; have HB := n3_; clear n0_ n1_ n2_ n3_; (try clear hb); (try clear hb2); (try clear hk); (try clear hi); (try clear ho0); obtain ⟨Ao15, co15, eo15⟩ := Kd.R_slice HO123.out; subst eo15; obtain ⟨Ao16, co16, eo16⟩ := Kd.R_slice HO128.out; subst eo16) | ((with_reducible refine gate_callee (f := 14) rfl ?_); refine goesL_ (some 26) rfl rfl Tryd.func14 (by kernel_rfl) rfl #[.slice Ao15 t120.length co15, .slice Ao16 t126.length co16] rfl (by (try simp only [List.map_toArray, List.map_cons, List.map_nil]); first | done | rfl | (simp only [List.length_drop, List.length_take]; rfl)) ?_; (with_reducible refine (spec_SameBytes.calls kj3 _ _ t120 _ _ t126 true _ ?side1 ?side2 ?side3 ?side4 A12.out).mono ?_); (case side1 => repeat (first | exact (Kd.R_reads' HO123.out).2.2 | (with_reducible refine Kd.C_alloc ?_ _) | (with_reducible refine Kd.C_drewN ?_ _) | (with_reducible refine Kd.C_drew ?_))); (case side2 => exact (Kd.R_reads' HO123.out).2.1); (case side3 => repeat (first | exact (Kd.R_reads' HO128.out).2.2 | (with_reducible refine Kd.C_alloc ?_ _) | (with_reducible refine Kd.C_drewN ?_ _) | (with_reducible refine Kd.C_drew ?_))); (case side4 => exact (Kd.R_reads' HO128.out).2.1); rintro e w' ⟨rfl, ⟨nd, rfl⟩⟩; refine ⟨_, rfl, ?_⟩; obtain ⟨Ao17, co17, eo17⟩ := Kd.R_slice HO125.out; subst eo17))
              go_meet
              case rel => exact ⟨_, (((t121.length : Int) != (l0.length : Int))), (by first | rfl | (simp; done) | (simp [*]; done)), H', ⟨by have := HJ3.out; first | omega | exact Nat.le_refl _⟩, ⟨by (with_reducible repeat (first | apply Kd.R_alloc | apply Kd.R_drewN | apply Kd.R_drew)); exact HO125.out⟩, ⟨by repeat (first | (with_reducible first | exact HB.out | apply below_alloc | apply pw_below_drewN | apply below_drew1) | exact HB.out)⟩⟩
            · replace c13 := Bool.eq_false_iff.mpr c13
              subst c13
              have H1 : (laws_FnInputWriter.j1 kj3 l0 t121 true) = some r := by rw [if_neg (show ¬ (false = true) by decide)] at H; exact H
              clear H
              have H := H1
              clear H1
              have H' := Aside0.mk H
              clear H
              go_wp2_with (first | ((with_reducible refine gate_callee (f := 19) rfl ?_); refine goesL_ (some 25) rfl rfl Tryd.func19 (by kernel_rfl) rfl #[.slice A0 l0.length c0] rfl (by (try simp only [List.map_toArray, List.map_cons, List.map_nil]); first | done | rfl | (simp only [List.length_drop, List.length_take]; rfl)) ?_; (with_reducible refine (spec_Join.calls kj3 _ _ l0 t126 _ ?side1 ?side2 A11.out).mono ?_); (case side1 => repeat (first | exact (Kd.C_below HR0.out HB.out) | (with_reducible refine Kd.C_alloc ?_ _) | (with_reducible refine Kd.C_drewN ?_ _) | (with_reducible refine Kd.C_drew ?_))); (case side2 => exact HC0.out); rintro e w18 ⟨v127, rfl, ho0, hb⟩; refine ⟨_, rfl, ?_⟩; have n0_ := Aside0.mk (Kd.R_elder' (by (with_reducible repeat (first | apply Kd.R_alloc | apply Kd.R_drewN | apply Kd.R_drew)); exact HO123.out) (Kd.R_base ho0) hb); have n1_ := Aside0.mk (Kd.R_below (by (with_reducible repeat (first | apply Kd.R_alloc | apply Kd.R_drewN | apply Kd.R_drew)); exact HO125.out) hb); have n2_ := Aside0.mk (Kd.R_lower (Kd.R_new' ho0 (Kd.R_lt (by (with_reducible repeat (first | apply Kd.R_alloc | apply Kd.R_drewN | apply Kd.R_drew)); exact HO123.out))) (below_size (by repeat (first | (with_reducible first | exact HB.out | apply below_alloc | apply pw_below_drewN | apply below_drew1) | exact HB.out)))); have n3_ := Aside0.mk (below_step (by repeat (first | (with_reducible first | exact HB.out | apply below_alloc | apply pw_below_drewN | apply below_drew1) | exact HB.out)) hb); clear HO123; clear HO125; clear HB; have HO123 := n0_; have HO125 := n1_; have HO128 := n2_; have HB := n3_; clear n0_ n1_ n2_ n3_; (try clear hb); (try clear hb2); (try clear hk); (try clear hi); (try clear ho0); obtain ⟨Ao19, co19, eo19⟩ := Kd.R_slice HO123.out; subst eo19; obtain ⟨Ao20, co20, eo20⟩ := Kd.R_slice HO128.out; subst eo20) | ((with_reducible refine gate_callee (f := 14) rfl ?_); refine goesL_ (some 26) rfl rfl Tryd.func14 (by kernel_rfl) rfl #[.slice Ao19 t120.length co19, .slice Ao20 t126.length co20] rfl (by (try simp only [List.map_toArray, List.map_cons, List.map_nil]); first | done | rfl | (simp only [List.length_drop, List.length_take]; rfl)) ?_; (with_reducible refine (spec_SameBytes.calls kj3 _ _ t120 _ _ t126 false _ ?side1 ?side2 ?side3 ?side4 A12.out).mono ?_); (case side1 => repeat (first | exact (Kd.R_reads' HO123.out).2.2 | (with_reducible refine Kd.C_alloc ?_ _) | (with_reducible refine Kd.C_drewN ?_ _) | (with_reducible refine Kd.C_drew ?_))); (case side2 => exact (Kd.R_reads' HO123.out).2.1); (case side3 => repeat (first | exact (Kd.R_reads' HO128.out).2.2 | (with_reducible refine Kd.C_alloc ?_ _) | (with_reducible refine Kd.C_drewN ?_ _) | (with_reducible refine Kd.C_drew ?_))); (case side4 => exact (Kd.R_reads' HO128.out).2.1); rintro e w' ⟨rfl, ⟨nd, rfl⟩⟩; refine ⟨_, rfl, ?_⟩))
              go_meet
              case rel => exact ⟨_, (true), (by first | rfl | (simp; done) | (simp [*]; done)), H', ⟨by have := HJ3.out; first | omega | exact Nat.le_refl _⟩, ⟨by (with_reducible repeat (first | apply Kd.R_alloc | apply Kd.R_drewN | apply Kd.R_drew)); exact HO125.out⟩, ⟨by repeat (first | (with_reducible first | exact HB.out | apply below_alloc | apply pw_below_drewN | apply below_drew1) | exact HB.out)⟩⟩
          case rest =>
            clear HC9
            try clear c1
            try clear c2
            try clear p2
            try clear c3
            try clear c6
            try clear c7
            try clear c13
            try clear c14
            try clear c18
            try clear c19
            try clear p2
            obtain ⟨kq, x34_8, rfl, HA, HJ8, HO_4, HB⟩ := hcut
            cases kq with
            | zero => exact absurd HA.out (by simp [laws_FnInputWriter.j1])
            | succ kj8 =>
              have H := HA.out
              clear HA
              simp only [laws_FnInputWriter.j1] at H
              by_cases c21 : x34_8 = true
              · subst c21
                have H1 : (some false) = some r := by rw [if_pos rfl] at H; exact H
                clear H
                have H := H1
                clear H1
                obtain rfl := Option.some.inj H
                go_wp2
                go_ret
                exact ⟨by first | rfl | (simp [errW_none, errW_some] <;> rfl) | (simp [*, errW_none, errW_some] <;> rfl), by repeat (first | (with_reducible first | exact HB.out | apply below_alloc | apply pw_below_drewN | apply below_drew1) | exact HB.out)⟩
              · replace c21 := Bool.eq_false_iff.mpr c21
                subst c21
                have H1 : (laws_FnInputWriter.l0 kj8 t121 l0 (l0.length : Int) 0) = some r := by rw [if_neg (show ¬ (false = true) by decide)] at H; exact H
                clear H
                have H := H1
                clear H1
                have H' := Aside0.mk H
                clear H
                go_wp2
                go_loopg [37] kj8 (fun kq v37 w' => ∃ (x37_3 : Int), v37 = .int .i64 x37_3 ∧ Aside0 (laws_FnInputWriter.l0 kq t121 l0 (l0.length : Int) x37_3 = some r) ∧ Aside0 (kq ≤ kj8) ∧ Aside0 (Kd.R (Kd.int .i64) 3 w' w.heap.size (fun _ => True) v124 t121) ∧ Aside0 (Below w.heap.size w w'))
                case atStart => exact ⟨(0), (by first | rfl | (simp; done) | (simp [*]; done)), H', ⟨Nat.le_refl _⟩, ⟨by (with_reducible repeat (first | apply Kd.R_alloc | apply Kd.R_drewN | apply Kd.R_drew)); exact HO_4.out⟩, ⟨by repeat (first | (with_reducible first | exact HB.out | apply below_alloc | apply pw_below_drewN | apply below_drew1) | exact HB.out)⟩⟩
                case round =>
                  clear H'
                  try clear c1
                  try clear c2
                  try clear p2
                  try clear c3
                  try clear c6
                  try clear c7
                  try clear c13
                  try clear c14
                  try clear c18
                  try clear c19
                  try clear c21
                  try clear p2
                  obtain ⟨x37_3, rfl, HA, HK3, HO_4, HB⟩ := hrel
                  cases gk with
                  | zero => exact absurd HA.out (by simp [laws_FnInputWriter.l0])
                  | succ k3 =>
                    have H := HA.out
                    clear HA
                    simp only [laws_FnInputWriter.l0] at H
                    by_cases c22 : x37_3 < (l0.length : Int)
                    · rw [if_pos c22] at H
                      have c22b0 : decide (x37_3 < (l0.length : Int)) = true := decide_eq_true c22
                      clear c22
                      by_cases c23 : 0 ≤ x37_3
                      · rw [if_pos c23] at H
                        have c23b0 : decide (0 ≤ x37_3) = true := decide_eq_true c23
                        clear c23
                        by_cases c24 : x37_3 < (l0.length : Int)
                        · rw [if_pos c24] at H
                          have c24b0 : decide (x37_3 < (l0.length : Int)) = true := decide_eq_true c24
                          clear c24
                          by_cases c25 : x37_3 < (t121.length : Int)
                          · rw [if_pos c25] at H
                            have c25b0 : decide (x37_3 < (t121.length : Int)) = true := decide_eq_true c25
                            clear c25
                            by_cases c26 : (rd t121 x37_3) = ((rd_L1 l0 x37_3).length : Int)
                            · rw [if_pos c26] at H
                              have c26b0 : ((rd t121 x37_3) == ((rd_L1 l0 x37_3).length : Int)) = true := beq_iff_eq.mpr c26
                              have c26b1 : ((rd t121 x37_3) != ((rd_L1 l0 x37_3).length : Int)) = false := bne_eq_false_iff_eq.mpr c26
                              clear c26
                              have H' := Aside0.mk H
                              clear H
                              have p130 : 0 ≤ (x37_3 : Int) := of_decide_eq_true (by first | (with_reducible assumption) | assumption)
                              have q130 : x37_3 < (l0.length : Int) := of_decide_eq_true (by first | (with_reducible assumption) | assumption)
                              obtain ⟨ad130, A130_0, c130_0, e130, hx130_0, hl130_0, hi130_0⟩ := at_L1 HR0.out x37_3 p130 q130
                              cases e130
                              replace hx130_0 := (HB.out.cell (World.block_lt_of_cell? w _ hx130_0)).trans hx130_0
                              have HR130_0 := Aside0.mk hi130_0
                              have HC130_0 := Aside0.mk hl130_0
                              clear hi130_0 hl130_0
                              replace p130 := eq_true p130
                              replace q130 := eq_true q130
                              obtain ⟨Ao27, co27, eo27⟩ := Kd.R_slice HO_4.out
                              subst eo27
                              have p131 : 0 ≤ (x37_3 : Int) := of_decide_eq_true (by first | (with_reducible assumption) | assumption)
                              have q131 : x37_3 < (t121.length : Int) := of_decide_eq_true (by first | (with_reducible assumption) | assumption)
                              obtain ⟨ad131, e131, hx131_0⟩ := Kd.at_int (Kd.R_reads' HO_4.out).2.2 x37_3 p131 q131
                              cases e131
                              replace p131 := eq_true p131
                              replace q131 := eq_true q131
                              go_wp2
                              go_roundg k3
                              case measure => have := HJ3.out; have := HJ8.out; have := HK3.out; omega
                              case rel => exact ⟨(wrap64 (x37_3 + 1)), (by first | rfl | (simp; done) | (simp [*]; done)), H', ⟨by have := HJ3.out; have := HJ8.out; have := HK3.out; omega⟩, ⟨by (with_reducible repeat (first | apply Kd.R_alloc | apply Kd.R_drewN | apply Kd.R_drew)); exact HO_4.out⟩, ⟨by repeat (first | (with_reducible first | exact HB.out | apply below_alloc | apply pw_below_drewN | apply below_drew1) | exact HB.out)⟩⟩
                            · rw [if_neg c26] at H
                              have c26b0 : ((rd t121 x37_3) == ((rd_L1 l0 x37_3).length : Int)) = false := beq_eq_false_iff_ne.mpr c26
                              have c26b1 : ((rd t121 x37_3) != ((rd_L1 l0 x37_3).length : Int)) = true := bne_iff_ne.mpr c26
                              obtain rfl := Option.some.inj H
                              have p130 : 0 ≤ (x37_3 : Int) := of_decide_eq_true (by first | (with_reducible assumption) | assumption)
                              have q130 : x37_3 < (l0.length : Int) := of_decide_eq_true (by first | (with_reducible assumption) | assumption)
                              obtain ⟨ad130, A130_0, c130_0, e130, hx130_0, hl130_0, hi130_0⟩ := at_L1 HR0.out x37_3 p130 q130
                              cases e130
                              replace hx130_0 := (HB.out.cell (World.block_lt_of_cell? w _ hx130_0)).trans hx130_0
                              have HR130_0 := Aside0.mk hi130_0
                              have HC130_0 := Aside0.mk hl130_0
                              clear hi130_0 hl130_0
                              replace p130 := eq_true p130
                              replace q130 := eq_true q130
                              obtain ⟨Ao28, co28, eo28⟩ := Kd.R_slice HO_4.out
                              subst eo28
                              have p131 : 0 ≤ (x37_3 : Int) := of_decide_eq_true (by first | (with_reducible assumption) | assumption)
                              have q131 : x37_3 < (t121.length : Int) := of_decide_eq_true (by first | (with_reducible assumption) | assumption)
                              obtain ⟨ad131, e131, hx131_0⟩ := Kd.at_int (Kd.R_reads' HO_4.out).2.2 x37_3 p131 q131
                              cases e131
                              replace p131 := eq_true p131
                              replace q131 := eq_true q131
                              go_wp2
                              go_ret
                              exact ⟨by first | rfl | (simp [errW_none, errW_some] <;> rfl) | (simp [*, errW_none, errW_some] <;> rfl), by repeat (first | (with_reducible first | exact HB.out | apply below_alloc | apply pw_below_drewN | apply below_drew1) | exact HB.out)⟩
                          · rw [if_neg c25] at H
                            exact absurd H (by simp)
                        · rw [if_neg c24] at H
                          exact absurd H (by simp)
                      · rw [if_neg c23] at H
                        exact absurd H (by simp)
                    · rw [if_neg c22] at H
                      have c22b0 : decide (x37_3 < (l0.length : Int)) = false := decide_eq_false c22
                      clear c22
                      obtain rfl := Option.some.inj H
                      go_wp2
                      go_ret
                      exact ⟨by first | rfl | (simp [errW_none, errW_some] <;> rfl) | (simp [*, errW_none, errW_some] <;> rfl), by repeat (first | (with_reducible first | exact HB.out | apply below_alloc | apply pw_below_drewN | apply below_drew1) | exact HB.out)⟩
  · replace c3 := Bool.eq_false_iff.mpr c3
    subst c3
    have H1 : (some true) = some r := by rw [if_neg (show ¬ (false = true) by decide)] at H; exact H
    clear H
    have H := H1
    clear H1
    obtain rfl := Option.some.inj H
    go_enter Tryd.func6, Tryd.ntmps6
    go_wp2_with (first | ((with_reducible refine gate_callee (f := 18) rfl ?_); refine goesL_ (some 8) rfl rfl Tryd.func18 (by kernel_rfl) rfl #[.slice A0 l0.length c0] rfl (by (try simp only [List.map_toArray, List.map_cons, List.map_nil]); first | done | rfl | (simp only [List.length_drop, List.length_take]; rfl)) ?_; (with_reducible refine (laws_zzFits1.calls k _ _ l0 false _ ?side1 ?side2 A2.out).mono ?_); (case side1 => repeat (first | exact HR0.out | (with_reducible refine Kd.C_alloc ?_ _) | (with_reducible refine Kd.C_drewN ?_ _) | (with_reducible refine Kd.C_drew ?_))); (case side2 => exact HC0.out); rintro e w' ⟨rfl, ⟨nd, rfl⟩⟩; refine ⟨_, rfl, ?_⟩))
    go_ret
    exact ⟨by first | rfl | (simp [errW_none, errW_some] <;> rfl) | (simp [*, errW_none, errW_some] <;> rfl), by repeat (first | (with_reducible first | exact HB.out | apply below_alloc | apply pw_below_drewN | apply below_drew1) | exact HB.out)⟩

end Go.Proofs.YtbjjjbfjplfmeaaDoor.PFnInputWriter
