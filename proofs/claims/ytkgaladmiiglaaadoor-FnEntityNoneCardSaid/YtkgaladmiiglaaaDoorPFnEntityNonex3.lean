-- Laid by a program of this session, out of the translation's print.
import Derived.Test.YtkgaladmiiglaaaDoorPFnEntityNonex0
import Derived.Test.YtkgaladmiiglaaaDoorPFnEntityNonex1
import Derived.Test.YtkgaladmiiglaaaDoorPFnEntityNonex2
namespace Go.Proofs.YtkgaladmiiglaaaDoor.PFnEntityNone
open Go.Proofs.YtkgaladmiiglaaaDoor.Own
open Go.RowKit Go.Proofs.YtkgaladmiiglaaaDoorW.PrintWords Go.Proofs.YtkgaladmiiglaaaDoorW.PrintLast Go.Proofs.YtkgaladmiiglaaaDoorW.PrintMore
attribute [local go_sem] max2_int min2_int max_two min_two max_three min_three max_four min_four   -- for this text's walks alone
set_option linter.unusedVariables false
set_option linter.unusedSimpArgs false

/-! ### spec_SameBytes: function 9 -/
def spec_SameBytes.l0 : Nat → List Int → List Int → Int → Int → Option (Bool)
  | 0, _, _, _, _ => none
  | k + 1, x1, x12, x13, x14 => if x14 < x13 then (if 0 ≤ x14 then (if x14 < (x12.length : Int) then (if x14 < (x1.length : Int) then (if (rd x12 x14) = (rd x1 x14) then (spec_SameBytes.l0 k x1 x12 x13 (wrap64 (x14 + 1))) else (some false)) else (none)) else (none)) else (none)) else (some true)
def spec_SameBytes.f (k : Nat) (l0 : List Int) (l1 : List Int) : Option (Bool) := if (l0.length : Int) = (l1.length : Int) then (spec_SameBytes.l0 k l1 l0 (l0.length : Int) 0) else (some false)
theorem spec_SameBytes.mono_l : ∀ k, (∀ y0 y1 y2 y3, LeO (spec_SameBytes.l0 k y0 y1 y2 y3) (spec_SameBytes.l0 (k + 1) y0 y1 y2 y3))
  | 0 => fun _ _ _ _ r h => by simp [spec_SameBytes.l0] at h
  | k + 1 => by
    have ih0 := spec_SameBytes.mono_l k
    · intro y0 y1 y2 y3
      unfold spec_SameBytes.l0
      repeat' first
      | (with_reducible exact ih0 _ _ _ _)
      | (with_reducible exact LeO.refl _)
      | (with_reducible exact LeO.none _)
      | (with_reducible refine LeO.ite ?_ ?_)
      | (with_reducible refine LeO.bind ?_ (fun _ => ?_))
      | exact ih0 _ _ _ _
      | exact LeO.none _
      | refine LeO.ite ?_ ?_
      | refine LeO.bind ?_ (fun _ => ?_)
theorem spec_SameBytes.mono : ∀ a0 a1 k, LeO (spec_SameBytes.f k a0 a1) (spec_SameBytes.f (k + 1) a0 a1) := by
  intro a0 a1 k
  have ih0 := spec_SameBytes.mono_l k
  unfold spec_SameBytes.f
  repeat' first
      | (with_reducible exact ih0 _ _ _ _)
      | (with_reducible exact LeO.refl _)
      | (with_reducible exact LeO.none _)
      | (with_reducible refine LeO.ite ?_ ?_)
      | (with_reducible refine LeO.bind ?_ (fun _ => ?_))
      | exact ih0 _ _ _ _
      | exact LeO.none _
      | refine LeO.ite ?_ ?_
      | refine LeO.bind ?_ (fun _ => ?_)
set_option maxHeartbeats 8000000 in
set_option maxRecDepth 100000 in
theorem spec_SameBytes.calls (k : Nat) (A0 : Option Addr) (c0 : Nat) (l0 : List Int) (A1 : Option Addr) (c1 : Nat) (l1 : List Int) (r : Bool) (w : World) (hr0 : Kd.C (Kd.int .u8) w A0 l0.length l0) (hc0 : l0.length ≤ c0) (hr1 : Kd.C (Kd.int .u8) w A1 l1.length l1) (hc1 : l1.length ≤ c1) (h : spec_SameBytes.f k l0 l1 = some r) :
    Calls Tryd.prog 9 #[.slice A0 l0.length c0, .slice A1 l1.length c1] w fun e w' => e = .returned (.bool r) ∧ Drawn0 w w' := by
  have HR0 := Aside0.mk hr0
  have HC0 := Aside0.mk hc0
  clear hr0 hc0
  have HR1 := Aside0.mk hr1
  have HC1 := Aside0.mk hc1
  clear hr1 hc1
  have H : (if (l0.length : Int) = (l1.length : Int) then (spec_SameBytes.l0 k l1 l0 (l0.length : Int) 0) else (some false)) = some r := h
  clear h
  by_cases c3 : (l0.length : Int) = (l1.length : Int)
  · rw [if_pos c3] at H
    have c3b0 : ((l0.length : Int) == (l1.length : Int)) = true := beq_iff_eq.mpr c3
    have c3b1 : ((l0.length : Int) != (l1.length : Int)) = false := bne_eq_false_iff_eq.mpr c3
    have c3b2 : (l0.length == l1.length) = true := by first | simpa using c3 | (simp at c3 ⊢; omega)
    clear c3
    have H' := Aside0.mk H
    clear H
    go_enter Tryd.func9, Tryd.ntmps9
    go_wp2
    go_loopg [14] k (fun kq v14 w' => ∃ (x14_1 : Int), v14 = .int .i64 x14_1 ∧ Aside0 (spec_SameBytes.l0 kq l1 l0 (l0.length : Int) x14_1 = some r) ∧ Aside0 (kq ≤ k) ∧ Drawn0 w w')
    case atStart => exact ⟨(0), (by first | rfl | (simp; done) | (simp [*]; done)), H', ⟨Nat.le_refl _⟩, by repeat (first | exact Drawn0.refl _ | apply Drawn0.step)⟩
    case round =>
      clear H'
      try clear c1
      try clear p2
      try clear c3
      try clear c3b0
      try clear c3b1
      try clear c3b2
      obtain ⟨x14_1, rfl, HA, HK1, ⟨m1, rfl⟩⟩ := hrel
      cases gk with
      | zero => exact absurd HA.out (by simp [spec_SameBytes.l0])
      | succ k1 =>
        have H := HA.out
        clear HA
        simp only [spec_SameBytes.l0] at H
        by_cases c4 : x14_1 < (l0.length : Int)
        · rw [if_pos c4] at H
          have c4b0 : decide (x14_1 < (l0.length : Int)) = true := decide_eq_true c4
          clear c4
          by_cases c5 : 0 ≤ x14_1
          · rw [if_pos c5] at H
            have c5b0 : decide (0 ≤ x14_1) = true := decide_eq_true c5
            clear c5
            by_cases c6 : x14_1 < (l0.length : Int)
            · rw [if_pos c6] at H
              have c6b0 : decide (x14_1 < (l0.length : Int)) = true := decide_eq_true c6
              clear c6
              by_cases c7 : x14_1 < (l1.length : Int)
              · rw [if_pos c7] at H
                have c7b0 : decide (x14_1 < (l1.length : Int)) = true := decide_eq_true c7
                clear c7
                by_cases c8 : (rd l0 x14_1) = (rd l1 x14_1)
                · rw [if_pos c8] at H
                  have c8b0 : ((rd l0 x14_1) == (rd l1 x14_1)) = true := beq_iff_eq.mpr c8
                  have c8b1 : ((rd l0 x14_1) != (rd l1 x14_1)) = false := bne_eq_false_iff_eq.mpr c8
                  clear c8
                  have H' := Aside0.mk H
                  clear H
                  have p128 : 0 ≤ (x14_1 : Int) := of_decide_eq_true (by first | (with_reducible assumption) | assumption)
                  have q128 : x14_1 < (l0.length : Int) := of_decide_eq_true (by first | (with_reducible assumption) | assumption)
                  obtain ⟨ad128, e128, hx128_0⟩ := Kd.at_int HR0.out x14_1 p128 q128
                  cases e128
                  replace p128 := eq_true p128
                  replace q128 := eq_true q128
                  have p129 : 0 ≤ (x14_1 : Int) := of_decide_eq_true (by first | (with_reducible assumption) | assumption)
                  have q129 : x14_1 < (l1.length : Int) := of_decide_eq_true (by first | (with_reducible assumption) | assumption)
                  obtain ⟨ad129, e129, hx129_0⟩ := Kd.at_int HR1.out x14_1 p129 q129
                  cases e129
                  replace p129 := eq_true p129
                  replace q129 := eq_true q129
                  go_wp2
                  go_roundg k1
                  case measure => have := HK1.out; omega
                  case rel => exact ⟨(wrap64 (x14_1 + 1)), (by first | rfl | (simp; done) | (simp [*]; done)), H', ⟨by have := HK1.out; omega⟩, by repeat (first | exact Drawn0.refl _ | apply Drawn0.step)⟩
                · rw [if_neg c8] at H
                  have c8b0 : ((rd l0 x14_1) == (rd l1 x14_1)) = false := beq_eq_false_iff_ne.mpr c8
                  have c8b1 : ((rd l0 x14_1) != (rd l1 x14_1)) = true := bne_iff_ne.mpr c8
                  obtain rfl := Option.some.inj H
                  have p128 : 0 ≤ (x14_1 : Int) := of_decide_eq_true (by first | (with_reducible assumption) | assumption)
                  have q128 : x14_1 < (l0.length : Int) := of_decide_eq_true (by first | (with_reducible assumption) | assumption)
                  obtain ⟨ad128, e128, hx128_0⟩ := Kd.at_int HR0.out x14_1 p128 q128
                  cases e128
                  replace p128 := eq_true p128
                  replace q128 := eq_true q128
                  have p129 : 0 ≤ (x14_1 : Int) := of_decide_eq_true (by first | (with_reducible assumption) | assumption)
                  have q129 : x14_1 < (l1.length : Int) := of_decide_eq_true (by first | (with_reducible assumption) | assumption)
                  obtain ⟨ad129, e129, hx129_0⟩ := Kd.at_int HR1.out x14_1 p129 q129
                  cases e129
                  replace p129 := eq_true p129
                  replace q129 := eq_true q129
                  go_wp2
                  go_ret
                  exact ⟨by first | rfl | (simp; done) | (simp [*]; done), by repeat (first | exact Drawn0.refl _ | apply Drawn0.step)⟩
              · rw [if_neg c7] at H
                exact absurd H (by simp)
            · rw [if_neg c6] at H
              exact absurd H (by simp)
          · rw [if_neg c5] at H
            exact absurd H (by simp)
        · rw [if_neg c4] at H
          have c4b0 : decide (x14_1 < (l0.length : Int)) = false := decide_eq_false c4
          clear c4
          obtain rfl := Option.some.inj H
          go_wp2
          go_ret
          exact ⟨by first | rfl | (simp; done) | (simp [*]; done), by repeat (first | exact Drawn0.refl _ | apply Drawn0.step)⟩
  · rw [if_neg c3] at H
    have c3b0 : ((l0.length : Int) == (l1.length : Int)) = false := beq_eq_false_iff_ne.mpr c3
    have c3b1 : ((l0.length : Int) != (l1.length : Int)) = true := bne_iff_ne.mpr c3
    have c3b2 : (l0.length == l1.length) = false := by first | simpa using c3 | (simp at c3 ⊢; omega)
    obtain rfl := Option.some.inj H
    go_enter Tryd.func9, Tryd.ntmps9
    go_wp2
    go_ret
    exact ⟨by first | rfl | (simp; done) | (simp [*]; done), by repeat (first | exact Drawn0.refl _ | apply Drawn0.step)⟩

/-! ### impl_own: function 18 -/
def impl_own.f (l0 : List Int) : Option (List Int) := (some (([] : List Int) : List Int)).bind fun y130 => (if y130.length + l0.length < 140737488355328 then (some (y130 ++ l0)) else (none))
set_option maxHeartbeats 8000000 in
set_option maxRecDepth 100000 in
theorem impl_own.calls (A0 : Option Addr) (c0 : Nat) (l0 : List Int) (r : List Int) (w : World) (hr0 : Kd.C (Kd.int .u8) w A0 l0.length l0) (hc0 : l0.length ≤ c0) (h : impl_own.f l0 = some r) :
    Calls Tryd.prog 18 #[.slice A0 l0.length c0] w fun e w' => ∃ v0_ : Value, e = .returned (v0_) ∧ Kd.R (Kd.int .u8) 5 w' w.heap.size (fun _ => True) v0_ r ∧ Below w.heap.size w w' := by
  have HR0 := Aside0.mk hr0
  have HC0 := Aside0.mk hc0
  clear hr0 hc0
  have HB := Aside0.mk (Below.refl w.heap.size w)
  have H : ((some (([] : List Int) : List Int)).bind fun y130 => (if y130.length + l0.length < 140737488355328 then (some (y130 ++ l0)) else (none))) = some r := h
  clear h
  obtain ⟨y130, hy130⟩ : ∃ y_ : List Int, y_ = (([] : List Int)) := ⟨_, rfl⟩
  replace H : (if y130.length + l0.length < 140737488355328 then (some (y130 ++ l0)) else (none)) = some r := by first | (rw [hy130]; with_reducible exact H) | (have H2_ := (Option.bind_some _ _).symm.trans H; rw [hy130]; with_reducible exact H2_) | (have H2_ := (Option.bind_some _ _).symm.trans H; with_reducible exact H2_) | with_reducible exact H | (rw [hy130]; exact H) | exact H
  have Ny130 := Aside0.mk hy130
  clear hy130
  by_cases c2 : y130.length + l0.length < 140737488355328
  · rw [if_pos c2] at H
    have LMc2 := Aside0.mk c2
    clear c2
    obtain ⟨y133, hy133⟩ : ∃ y_ : List Int, y_ = (y130 ++ l0) := ⟨_, rfl⟩
    replace H : (some y133) = some r := by first | (rw [hy133]; with_reducible exact H) | (have H2_ := (Option.bind_some _ _).symm.trans H; rw [hy133]; with_reducible exact H2_) | (have H2_ := (Option.bind_some _ _).symm.trans H; with_reducible exact H2_) | with_reducible exact H | (rw [hy133]; exact H) | exact H
    have Ny133 := Aside0.mk hy133
    clear hy133
    obtain rfl := Option.some.inj H
    go_enter Tryd.func18, Tryd.ntmps18
    go_wp2_with (first | ((with_reducible refine gate_dst (N := 3) rfl ?_); refine Kd.R_lit (Kd.int .u8) _ 5 ?hg (N := 3) ?hd (xs := ([] : List Int)) (inner := []) (ok := fun _ => True) (okp := fun _ => True) ?hr ?hp (fun _ hk => hk) trivial (Below.refl _ _) (Nat.le_refl _) (by simp) ?_; (case hd => rfl); (case hg => rfl); (case hr => first | (go_simp; done) | (go_simp; rfl)); (case hp => exact (Reps.none _ _)); intro v131 w3 ho4 hb hg_ hnew_; clear hg_ hnew_; (first | rw [← Ny130.out] at ho4 | (simp only [Int.reduceToNat] at ho4; rw [← Ny130.out] at ho4)); have n0_ := Aside0.mk (Kd.R_lower ho4 (below_size (by repeat (first | (with_reducible first | exact HB.out | apply below_alloc | apply pw_below_drewN | apply below_drew1) | exact HB.out)))); have n1_ := Aside0.mk (below_step (by repeat (first | (with_reducible first | exact HB.out | apply below_alloc | apply pw_below_drewN | apply below_drew1) | exact HB.out)) hb); clear HB; have HO132 := n0_; have HB := n1_; clear n0_ n1_; clear hb ho4) | ((with_reducible refine gate_builtin (b := .append) (xs := #[.tmp 3, .tmp 4]) rfl ?_); at_builtin; refine Kd.R_append_rows (Kd.int .u8) (w0 := w) w.heap.size rfl (.tmp 3) (.tmp 4) 22 5 (.int .u8 0) 1 rfl Tryd.underlying22 info5 rfl (by decide) (by omega) v131 y130 l0 _ _ _ (fun _ => True) (fun _ => False) rfl rfl ?aO ?aR (fun _ _ h => h) (fun _ h => h.elim) ?aF ?aB ?aS ?aL ?_; (case aR => repeat (first | exact (Kd.C_below HR0.out HB.out) | (with_reducible refine Kd.C_alloc ?_ _) | (with_reducible refine Kd.C_drewN ?_ _) | (with_reducible refine Kd.C_drew ?_))); (case aB => exact (by repeat (first | (with_reducible first | exact HB.out | apply below_alloc | apply pw_below_drewN | apply below_drew1) | exact HB.out))); (case aF => exact (fun _ _ => trivial)); (case aO => exact (by (with_reducible repeat (first | apply Kd.R_alloc | apply Kd.R_drewN | apply Kd.R_drew)); exact HO132.out)); (case aS => exact (below_size (by repeat (first | (with_reducible first | exact HB.out | apply below_alloc | apply pw_below_drewN | apply below_drew1) | exact HB.out)))); (case aL => have := LMc2.out; omega); intro v134 w5 ho hb hg hat; rw [← Ny133.out] at ho; have n0_ := Aside0.mk (hb); have n1_ := Aside0.mk (ho); clear HB; clear HO132; have HB := n0_; have HO135 := n1_; clear n0_ n1_; clear ho hb hg hat))
    go_ret
    exact ⟨_, by first | rfl | (simp [errW_none, errW_some] <;> rfl) | (simp [*, errW_none, errW_some] <;> rfl), by (with_reducible repeat (first | apply Kd.R_alloc | apply Kd.R_drewN | apply Kd.R_drew)); exact HO135.out, by repeat (first | (with_reducible first | exact HB.out | apply below_alloc | apply pw_below_drewN | apply below_drew1) | exact HB.out)⟩
  · rw [if_neg c2] at H
    exact absurd H (by simp)

-- strconv_small: by hand (CEntities)

-- strconv_log10Pow2: by hand (CEntities)

-- bits_Len64: by hand (CEntities)

/-! ### strconv_bool2_int: function 38 -/
def strconv_bool2_int.f (a0 : Bool) : Option (Int) := if a0 = true then (some 1) else (some 0)
set_option maxHeartbeats 8000000 in
set_option maxRecDepth 100000 in
theorem strconv_bool2_int.calls (a0 : Bool) (r : Int) (w : World) (h : strconv_bool2_int.f a0 = some r) :
    Calls Tryd.prog 38 #[.bool a0] w fun e w' => e = .returned (.int .i64 r) ∧ Drawn0 w w' := by
  have H : (if a0 = true then (some 1) else (some 0)) = some r := h
  clear h
  by_cases c2 : a0 = true
  · subst c2
    have H1 : (some 1) = some r := by rw [if_pos rfl] at H; exact H
    clear H
    have H := H1
    clear H1
    obtain rfl := Option.some.inj H
    go_enter Tryd.func38, Tryd.ntmps38
    go_wp2
    go_ret
    exact ⟨by first | rfl | (simp; done) | (simp [*]; done), by repeat (first | exact Drawn0.refl _ | apply Drawn0.step)⟩
  · replace c2 := Bool.eq_false_iff.mpr c2
    subst c2
    have H1 : (some 0) = some r := by rw [if_neg (show ¬ (false = true) by decide)] at H; exact H
    clear H
    have H := H1
    clear H1
    obtain rfl := Option.some.inj H
    go_enter Tryd.func38, Tryd.ntmps38
    go_wp2
    go_ret
    exact ⟨by first | rfl | (simp; done) | (simp [*]; done), by repeat (first | exact Drawn0.refl _ | apply Drawn0.step)⟩

-- NOT PRINTED: function 33 (strconv_numDigits)

-- NOT PRINTED: function 34 (strconv_formatBase10)

-- strconv_isPowerOfTwo: by hand (CEntities)

-- NOT PRINTED: function 41 (bits_TrailingZeros32)

-- NOT PRINTED: function 42 (bits_TrailingZeros64)

-- NOT PRINTED: function 40 (bits_TrailingZeros)

-- NOT PRINTED: function 35 (strconv_formatBits)

-- NOT PRINTED: function 31 (strconv_AppendUint)

-- NOT PRINTED: function 30 (strconv_AppendInt_30)

-- NOT PRINTED: function 28 (strconv_AppendInt_28)

-- bytes_Equal: by hand (CEntities)

-- NOT PRINTED: function 25 (tdparse_replaceEntities)

-- NOT PRINTED: function 19 (tdparse_ReplaceEntities)

-- NOT PRINTED: function 20 (impl_tableOf)

-- impl_Entities: by hand (CEntities)

/-! ### laws_FnEntityNone: function 3 -/
mutual
def laws_FnEntityNone.j0 : Nat → List Int → List (S36) → Bool → Option (Bool)
  | 0, _, _, _ => none
  | k + 1, x0, x1, x12 => if x12 = true then (some true) else ((laws_fewBytes.f k (([x0] : List (List Int)))).bind fun t165 => (if t165 = true then ((laws_entitiesOk.f k x1).bind fun t166 => (if t166 = true then ((spec_BytePlace.f k x0 38).bind fun t167 => (laws_FnEntityNone.j1 k x0 x1 (decide (t167 ≥ 0)))) else (laws_FnEntityNone.j1 k x0 x1 true))) else (laws_FnEntityNone.j1 k x0 x1 true)))
def laws_FnEntityNone.j1 : Nat → List Int → List (S36) → Bool → Option (Bool)
  | 0, _, _, _ => none
  | k + 1, x0, x1, x26 => if x26 = true then (some true) else ((impl_Entities.f x0 x1).bind fun t168 => ((spec_SameBytes.f k t168 x0).bind fun t171 => (some t171)))
end
def laws_FnEntityNone.f (k : Nat) (l0 : List Int) (l1 : List (S36)) : Option (Bool) := if (l0.length : Int) > 2147483647 then (laws_FnEntityNone.j0 k l0 l1 true) else ((laws_zzFits2.f k l1).bind fun t161 => (laws_FnEntityNone.j0 k l0 l1 (!t161)))
theorem laws_FnEntityNone.mono_l : ∀ k, (∀ y0 y1 y2, LeO (laws_FnEntityNone.j0 k y0 y1 y2) (laws_FnEntityNone.j0 (k + 1) y0 y1 y2)) ∧ (∀ y0 y1 y2, LeO (laws_FnEntityNone.j1 k y0 y1 y2) (laws_FnEntityNone.j1 (k + 1) y0 y1 y2))
  | 0 => ⟨fun _ _ _ r h => by simp [laws_FnEntityNone.j0] at h, fun _ _ _ r h => by simp [laws_FnEntityNone.j1] at h⟩
  | k + 1 => by
    obtain ⟨ih0, ih1⟩ := laws_FnEntityNone.mono_l k
    refine ⟨?_, ?_⟩
    · intro y0 y1 y2
      unfold laws_FnEntityNone.j0
      repeat' first
      | (with_reducible exact ih0 _ _ _)
      | (with_reducible exact ih1 _ _ _)
      | (with_reducible exact laws_entitiesOk.mono _ _)
      | (with_reducible exact laws_fewBytes.mono _ _)
      | (with_reducible exact laws_zzFits2.mono _ _)
      | (with_reducible exact spec_BytePlace.mono _ _ _)
      | (with_reducible exact spec_SameBytes.mono _ _ _)
      | (with_reducible exact LeO.refl _)
      | (with_reducible exact LeO.none _)
      | (with_reducible refine LeO.ite ?_ ?_)
      | (with_reducible refine LeO.bind ?_ (fun _ => ?_))
      | exact ih0 _ _ _
      | exact ih1 _ _ _
      | exact laws_entitiesOk.mono _ _
      | exact laws_fewBytes.mono _ _
      | exact laws_zzFits2.mono _ _
      | exact spec_BytePlace.mono _ _ _
      | exact spec_SameBytes.mono _ _ _
      | exact LeO.none _
      | refine LeO.ite ?_ ?_
      | refine LeO.bind ?_ (fun _ => ?_)
    · intro y0 y1 y2
      unfold laws_FnEntityNone.j1
      repeat' first
      | (with_reducible exact ih0 _ _ _)
      | (with_reducible exact ih1 _ _ _)
      | (with_reducible exact laws_entitiesOk.mono _ _)
      | (with_reducible exact laws_fewBytes.mono _ _)
      | (with_reducible exact laws_zzFits2.mono _ _)
      | (with_reducible exact spec_BytePlace.mono _ _ _)
      | (with_reducible exact spec_SameBytes.mono _ _ _)
      | (with_reducible exact LeO.refl _)
      | (with_reducible exact LeO.none _)
      | (with_reducible refine LeO.ite ?_ ?_)
      | (with_reducible refine LeO.bind ?_ (fun _ => ?_))
      | exact ih0 _ _ _
      | exact ih1 _ _ _
      | exact laws_entitiesOk.mono _ _
      | exact laws_fewBytes.mono _ _
      | exact laws_zzFits2.mono _ _
      | exact spec_BytePlace.mono _ _ _
      | exact spec_SameBytes.mono _ _ _
      | exact LeO.none _
      | refine LeO.ite ?_ ?_
      | refine LeO.bind ?_ (fun _ => ?_)
theorem laws_FnEntityNone.mono : ∀ a0 a1 k, LeO (laws_FnEntityNone.f k a0 a1) (laws_FnEntityNone.f (k + 1) a0 a1) := by
  intro a0 a1 k
  obtain ⟨ih0, ih1⟩ := laws_FnEntityNone.mono_l k
  unfold laws_FnEntityNone.f
  repeat' first
      | (with_reducible exact ih0 _ _ _)
      | (with_reducible exact ih1 _ _ _)
      | (with_reducible exact laws_entitiesOk.mono _ _)
      | (with_reducible exact laws_fewBytes.mono _ _)
      | (with_reducible exact laws_zzFits2.mono _ _)
      | (with_reducible exact spec_BytePlace.mono _ _ _)
      | (with_reducible exact spec_SameBytes.mono _ _ _)
      | (with_reducible exact LeO.refl _)
      | (with_reducible exact LeO.none _)
      | (with_reducible refine LeO.ite ?_ ?_)
      | (with_reducible refine LeO.bind ?_ (fun _ => ?_))
      | exact ih0 _ _ _
      | exact ih1 _ _ _
      | exact laws_entitiesOk.mono _ _
      | exact laws_fewBytes.mono _ _
      | exact laws_zzFits2.mono _ _
      | exact spec_BytePlace.mono _ _ _
      | exact spec_SameBytes.mono _ _ _
      | exact LeO.none _
      | refine LeO.ite ?_ ?_
      | refine LeO.bind ?_ (fun _ => ?_)
set_option maxHeartbeats 8000000 in
set_option maxRecDepth 100000 in
theorem laws_FnEntityNone.calls (k : Nat) (P0_ : Nat → Prop) (A0 : Option Addr) (c0 : Nat) (l0 : List Int) (A1 : Option Addr) (c1 : Nat) (l1 : List (S36)) (r : Bool) (w : World) (hs0 : Kd.V (Kd.int .u8) 5 w w.heap.size (fun k_ => P0_ k_) (.slice A0 l0.length c0) l0) (hr1 : Kd.C k36 w A1 l1.length l1) (hc1 : l1.length ≤ c1) (h : laws_FnEntityNone.f k l0 l1 = some r) :
    Calls Tryd.prog 3 #[.slice A0 l0.length c0, .slice A1 l1.length c1] w fun e w' => e = .returned (.bool r) ∧ Below w.heap.size w w' := by
  have HO0 := Aside0.mk (show Kd.V (Kd.int .u8) 5 w w.heap.size (fun k_ => (P0_ k_ ∨ w.heap.size ≤ k_)) (.slice A0 l0.length c0) l0 from Kd.V_mono hs0 (fun k_ hk => .inl hk))
  have HR1 := Aside0.mk hr1
  have HC1 := Aside0.mk hc1
  clear hr1 hc1
  have HB := Aside0.mk (Below.refl w.heap.size w)
  have H : (if (l0.length : Int) > 2147483647 then (laws_FnEntityNone.j0 k l0 l1 true) else ((laws_zzFits2.f k l1).bind fun t161 => (laws_FnEntityNone.j0 k l0 l1 (!t161)))) = some r := h
  clear h
  have HC3 := Aside0.mk H
  clear H
  go_enter Tryd.func3, Tryd.ntmps3
  go_upto_region 1 with (fail)
  go_cut [12] (fun v12 wc => ∃ (kq : Nat) (x12_2 : Bool), v12 = .bool x12_2 ∧ Aside0 (laws_FnEntityNone.j0 kq l0 l1 x12_2 = some r) ∧ Aside0 (kq ≤ k) ∧ Aside0 (Kd.V (Kd.int .u8) 5 wc w.heap.size (fun k_ => (P0_ k_ ∨ w.heap.size ≤ k_)) (.slice A0 l0.length c0) l0) ∧ Aside0 (Below w.heap.size w wc))
  case first =>
    have H := HC3.out
    clear HC3
    by_cases c4 : (l0.length : Int) > 2147483647
    · rw [if_pos c4] at H
      have c4b0 : decide (2147483647 < (l0.length : Int)) = true := decide_eq_true c4
      have c4b1 : decide (2147483647 < l0.length) = true := decide_eq_true (by omega)
      clear c4
      (first | rw [c4b0] | (simp only [i64_w, i32_w]; rw [c4b0]) | skip)
      have H' := Aside0.mk H
      clear H
      go_wp2
      go_meet
      case rel => exact ⟨_, (true), (by first | rfl | (simp; done) | (simp [*]; done)), H', ⟨by first | omega | exact Nat.le_refl _⟩, ⟨by (with_reducible repeat (first | apply Kd.V_alloc | apply Kd.V_drewN | apply Kd.V_drew)); exact HO0.out⟩, ⟨by repeat (first | (with_reducible first | exact HB.out | apply below_alloc | apply pw_below_drewN | apply below_drew1) | exact HB.out)⟩⟩
    · rw [if_neg c4] at H
      have c4b0 : decide (2147483647 < (l0.length : Int)) = false := decide_eq_false c4
      have c4b1 : decide (2147483647 < l0.length) = false := decide_eq_false (by omega)
      clear c4
      (first | rw [c4b0] | (simp only [i64_w, i32_w]; rw [c4b0]) | skip)
      replace H := Option.bind_eq_some_iff.mp H
      obtain ⟨t161, A50, H⟩ := H
      replace H : (laws_FnEntityNone.j0 k l0 l1 (!t161)) = some r := H
      have A5 := Aside0.mk A50
      clear A50
      have H' := Aside0.mk H
      clear H
      go_wp2_with (first | (go_at_call 5; (with_reducible refine (laws_zzFits2.calls k _ _ l1 t161 _ ?side1 ?side2 A5.out).mono ?_); (case side1 => repeat (first | exact (Kd.C_below HR1.out HB.out) | (with_reducible refine Kd.C_alloc ?_ _) | (with_reducible refine Kd.C_drewN ?_ _) | (with_reducible refine Kd.C_drew ?_))); (case side2 => exact HC1.out); rintro e w6 ⟨rfl, hb⟩; have n0_ := Aside0.mk (Kd.V_below (by (with_reducible repeat (first | apply Kd.V_alloc | apply Kd.V_drewN | apply Kd.V_drew)); exact HO0.out) hb); have n1_ := Aside0.mk (below_step (by repeat (first | (with_reducible first | exact HB.out | apply below_alloc | apply pw_below_drewN | apply below_drew1) | exact HB.out)) hb); clear HO0; clear HB; have HO0 := n0_; have HB := n1_; clear n0_ n1_; (try clear hb); (try clear hb2); (try clear hk); (try clear hi)))
      go_meet
      case rel => exact ⟨_, (!t161), (by first | rfl | (simp; done) | (simp [*]; done)), H', ⟨by first | omega | exact Nat.le_refl _⟩, ⟨by (with_reducible repeat (first | apply Kd.V_alloc | apply Kd.V_drewN | apply Kd.V_drew)); exact HO0.out⟩, ⟨by repeat (first | (with_reducible first | exact HB.out | apply below_alloc | apply pw_below_drewN | apply below_drew1) | exact HB.out)⟩⟩
  case rest =>
    clear HC3
    try clear c1
    try clear p2
    try clear c3
    try clear c4
    try clear c4b0
    try clear c4b1
    obtain ⟨kq, x12_2, rfl, HA, HJ2, HO_0, HB⟩ := hcut
    cases kq with
    | zero => exact absurd HA.out (by simp [laws_FnEntityNone.j0])
    | succ kj2 =>
      have H := HA.out
      clear HA
      simp only [laws_FnEntityNone.j0] at H
      by_cases c7 : x12_2 = true
      · subst c7
        have H1 : (some true) = some r := by rw [if_pos rfl] at H; exact H
        clear H
        have H := H1
        clear H1
        obtain rfl := Option.some.inj H
        go_wp2
        go_ret
        exact ⟨by first | rfl | (simp [errW_none, errW_some] <;> rfl) | (simp [*, errW_none, errW_some] <;> rfl), by repeat (first | (with_reducible first | exact HB.out | apply below_alloc | apply pw_below_drewN | apply below_drew1) | exact HB.out)⟩
      · replace c7 := Bool.eq_false_iff.mpr c7
        subst c7
        have H1 : ((laws_fewBytes.f kj2 (([l0] : List (List Int)))).bind fun t165 => (if t165 = true then ((laws_entitiesOk.f kj2 l1).bind fun t166 => (if t166 = true then ((spec_BytePlace.f kj2 l0 38).bind fun t167 => (laws_FnEntityNone.j1 kj2 l0 l1 (decide (t167 ≥ 0)))) else (laws_FnEntityNone.j1 kj2 l0 l1 true))) else (laws_FnEntityNone.j1 kj2 l0 l1 true))) = some r := by rw [if_neg (show ¬ (false = true) by decide)] at H; exact H
        clear H
        have H := H1
        clear H1
        have HC8 := Aside0.mk H
        clear H
        go_upto_region 3 with (fail)
        go_cut [26] (fun v26 wc => ∃ (kq : Nat) (x26_7 : Bool), v26 = .bool x26_7 ∧ Aside0 (laws_FnEntityNone.j1 kq l0 l1 x26_7 = some r) ∧ Aside0 (kq ≤ kj2) ∧ Aside0 (Kd.V (Kd.int .u8) 5 wc w.heap.size (fun k_ => (P0_ k_ ∨ w.heap.size ≤ k_)) (.slice A0 l0.length c0) l0) ∧ Aside0 (Below w.heap.size w wc))
        case first =>
          have H := HC8.out
          clear HC8
          obtain ⟨y162, hy162⟩ : ∃ y_ : List (List Int), y_ = (([l0] : List (List Int))) := ⟨_, rfl⟩
          replace H : ((laws_fewBytes.f kj2 y162).bind fun t165 => (if t165 = true then ((laws_entitiesOk.f kj2 l1).bind fun t166 => (if t166 = true then ((spec_BytePlace.f kj2 l0 38).bind fun t167 => (laws_FnEntityNone.j1 kj2 l0 l1 (decide (t167 ≥ 0)))) else (laws_FnEntityNone.j1 kj2 l0 l1 true))) else (laws_FnEntityNone.j1 kj2 l0 l1 true))) = some r := by first | (rw [hy162]; with_reducible exact H) | (have H2_ := (Option.bind_some _ _).symm.trans H; rw [hy162]; with_reducible exact H2_) | (have H2_ := (Option.bind_some _ _).symm.trans H; with_reducible exact H2_) | with_reducible exact H | (rw [hy162]; exact H) | exact H
          have Ny162 := Aside0.mk hy162
          clear hy162
          replace H := Option.bind_eq_some_iff.mp H
          obtain ⟨t165, A90, H⟩ := H
          replace H : (if t165 = true then ((laws_entitiesOk.f kj2 l1).bind fun t166 => (if t166 = true then ((spec_BytePlace.f kj2 l0 38).bind fun t167 => (laws_FnEntityNone.j1 kj2 l0 l1 (decide (t167 ≥ 0)))) else (laws_FnEntityNone.j1 kj2 l0 l1 true))) else (laws_FnEntityNone.j1 kj2 l0 l1 true)) = some r := H
          have A9 := Aside0.mk A90
          clear A90
          by_cases c10 : t165 = true
          · subst c10
            have H1 : ((laws_entitiesOk.f kj2 l1).bind fun t166 => (if t166 = true then ((spec_BytePlace.f kj2 l0 38).bind fun t167 => (laws_FnEntityNone.j1 kj2 l0 l1 (decide (t167 ≥ 0)))) else (laws_FnEntityNone.j1 kj2 l0 l1 true))) = some r := by rw [if_pos rfl] at H; exact H
            clear H
            have H := H1
            clear H1
            replace H := Option.bind_eq_some_iff.mp H
            obtain ⟨t166, A110, H⟩ := H
            replace H : (if t166 = true then ((spec_BytePlace.f kj2 l0 38).bind fun t167 => (laws_FnEntityNone.j1 kj2 l0 l1 (decide (t167 ≥ 0)))) else (laws_FnEntityNone.j1 kj2 l0 l1 true)) = some r := H
            have A11 := Aside0.mk A110
            clear A110
            by_cases c12 : t166 = true
            · subst c12
              have H1 : ((spec_BytePlace.f kj2 l0 38).bind fun t167 => (laws_FnEntityNone.j1 kj2 l0 l1 (decide (t167 ≥ 0)))) = some r := by rw [if_pos rfl] at H; exact H
              clear H
              have H := H1
              clear H1
              replace H := Option.bind_eq_some_iff.mp H
              obtain ⟨t167, A130, H⟩ := H
              replace H : (laws_FnEntityNone.j1 kj2 l0 l1 (decide (t167 ≥ 0))) = some r := H
              have A13 := Aside0.mk A130
              clear A130
              have H' := Aside0.mk H
              clear H
              go_wp2_with (first | ((with_reducible refine gate_dst (N := 14) rfl ?_); refine Kd.N_lit (Kd.slice 5 (Kd.int .u8)) _ 22 ?hg (N' := 14) ?hd (xs := ([l0] : List (List Int))) (inner := [.slice A0 l0.length c0]) (ok := (fun k_ => (P0_ k_ ∨ w.heap.size ≤ k_))) (okp := (fun k_ => (P0_ k_ ∨ w.heap.size ≤ k_))) ?hr ?hp (fun _ hk => hk) ((show ∀ k_, wc.heap.size ≤ k_ → (fun k_ => (P0_ k_ ∨ w.heap.size ≤ k_)) k_ from fun k_ hk => (.inr (Nat.le_trans (below_size (by repeat (first | (with_reducible first | exact HB.out | apply below_alloc | apply pw_below_drewN | apply below_drew1) | exact HB.out))) hk))) _ (Nat.le_refl _)) (Below.refl _ _) (Nat.le_refl _) (by simp) ?_; (case hd => rfl); (case hg => rfl); (case hr => first | (go_simp; done) | (go_simp; rfl)); (case hp => first | exact (Reps.one (show Kd.FK (Kd.slice 5 (Kd.int .u8)) _ _ l0 [.slice A0 l0.length c0] from (Kd.FK_slice_mk (Kd.V_reads' (Kd.V_mono (ok' := (fun k_ => (P0_ k_ ∨ w.heap.size ≤ k_))) (HO_0.out) (fun k_ hk => hk))).2.1 (Kd.V_F (Kd.V_mono (ok' := (fun k_ => (P0_ k_ ∨ w.heap.size ≤ k_))) (HO_0.out) (fun k_ hk => hk))))) (Reps.none _ _)) | exact (Reps.one (show Kd.FK (Kd.slice 5 (Kd.int .u8)) _ _ l0 [.slice A0 l0.length c0] from (Kd.FK_slice_mk (Kd.V_reads' (Kd.V_mono (ok' := (fun k_ => (P0_ k_ ∨ w.heap.size ≤ k_))) (HO_0.out) (fun k_ hk => hk))).2.1 (Kd.V_F (Kd.V_mono (ok' := (fun k_ => (P0_ k_ ∨ w.heap.size ≤ k_))) ((Kd.V_drewN HO_0.out _)) (fun k_ hk => hk))))) (Reps.none _ _)) | exact (Reps.one (show Kd.FK (Kd.slice 5 (Kd.int .u8)) _ _ l0 [.slice A0 l0.length c0] from (Kd.FK_slice_mk (Kd.V_reads' (Kd.V_mono (ok' := (fun k_ => (P0_ k_ ∨ w.heap.size ≤ k_))) (HO_0.out) (fun k_ hk => hk))).2.1 (Kd.V_F (Kd.V_mono (ok' := (fun k_ => (P0_ k_ ∨ w.heap.size ≤ k_))) ((Kd.V_alloc HO_0.out _)) (fun k_ hk => hk))))) (Reps.none _ _)) | exact (Reps.one (show Kd.FK (Kd.slice 5 (Kd.int .u8)) _ _ l0 [.slice A0 l0.length c0] from (Kd.FK_slice_mk (Kd.V_reads' (Kd.V_mono (ok' := (fun k_ => (P0_ k_ ∨ w.heap.size ≤ k_))) (HO_0.out) (fun k_ hk => hk))).2.1 (Kd.V_F (Kd.V_mono (ok' := (fun k_ => (P0_ k_ ∨ w.heap.size ≤ k_))) ((by (with_reducible repeat (first | apply Kd.V_alloc | apply Kd.V_drewN | apply Kd.V_drew)); exact HO_0.out)) (fun k_ hk => hk))))) (Reps.none _ _))); intro v163 w14 ho15 hb hg_ hnew_; clear hg_ hnew_; (first | rw [← Ny162.out] at ho15 | (simp only [Int.reduceToNat] at ho15; rw [← Ny162.out] at ho15)); have n0_ := Aside0.mk (Kd.V_elder' (by (with_reducible repeat (first | apply Kd.V_alloc | apply Kd.V_drewN | apply Kd.V_drew)); exact HO_0.out) (Kd.N_base ho15) hb); have n1_ := Aside0.mk (Kd.N_lower ho15 (below_size (by repeat (first | (with_reducible first | exact HB.out | apply below_alloc | apply pw_below_drewN | apply below_drew1) | exact HB.out)))); have n2_ := Aside0.mk (below_step (by repeat (first | (with_reducible first | exact HB.out | apply below_alloc | apply pw_below_drewN | apply below_drew1) | exact HB.out)) hb); clear HO_0; clear HB; have HO_0 := n0_; have HO164 := n1_; have HB := n2_; clear n0_ n1_ n2_; clear hb ho15; obtain ⟨Ao16, co16, eo16⟩ := Kd.N_slice HO164.out; subst eo16) | ((with_reducible refine gate_callee (f := 6) rfl ?_); refine goesL_ (some 15) rfl rfl Tryd.func6 (by kernel_rfl) rfl #[.slice Ao16 y162.length co16] rfl (by (try simp only [List.map_toArray, List.map_cons, List.map_nil]); first | done | rfl | (simp only [List.length_drop, List.length_take]; rfl)) ?_; (with_reducible refine (laws_fewBytes.calls kj2 _ _ y162 true _ ?side1 ?side2 A9.out).mono ?_); (case side1 => repeat (first | exact (Kd.N_reads' HO164.out).2.2 | (with_reducible refine Kd.C_alloc ?_ _) | (with_reducible refine Kd.C_drewN ?_ _) | (with_reducible refine Kd.C_drew ?_))); (case side2 => exact (Kd.N_reads' HO164.out).2.1); rintro e w' ⟨rfl, ⟨nd, rfl⟩⟩; refine ⟨_, rfl, ?_⟩) | (go_at_call 7; (with_reducible refine (laws_entitiesOk.calls kj2 _ _ l1 true _ ?side1 ?side2 A11.out).mono ?_); (case side1 => repeat (first | exact (Kd.C_below HR1.out (by repeat (first | (with_reducible first | exact HB.out | apply below_alloc | apply pw_below_drewN | apply below_drew1) | exact HB.out))) | (with_reducible refine Kd.C_alloc ?_ _) | (with_reducible refine Kd.C_drewN ?_ _) | (with_reducible refine Kd.C_drew ?_))); (case side2 => exact HC1.out); rintro e w17 ⟨rfl, hb⟩; have n0_ := Aside0.mk (Kd.V_below (by (with_reducible repeat (first | apply Kd.V_alloc | apply Kd.V_drewN | apply Kd.V_drew)); exact HO_0.out) hb); have n1_ := Aside0.mk (Kd.N_below (by (with_reducible repeat (first | apply Kd.N_alloc | apply Kd.N_drewN | apply Kd.N_drew)); exact HO164.out) hb); have n2_ := Aside0.mk (below_step (by repeat (first | (with_reducible first | exact HB.out | apply below_alloc | apply pw_below_drewN | apply below_drew1) | exact HB.out)) hb); clear HO_0; clear HO164; clear HB; have HO_0 := n0_; have HO164 := n1_; have HB := n2_; clear n0_ n1_ n2_; (try clear hb); (try clear hb2); (try clear hk); (try clear hi)) | (go_at_call 8; (with_reducible refine (spec_BytePlace.calls kj2 _ _ l0 38 t167 _ ?side1 ?side2 A13.out).mono ?_); (case side1 => repeat (first | exact (Kd.V_reads' HO_0.out).2.2 | (with_reducible refine Kd.C_alloc ?_ _) | (with_reducible refine Kd.C_drewN ?_ _) | (with_reducible refine Kd.C_drew ?_))); (case side2 => exact (Kd.V_reads' HO_0.out).2.1); rintro e w' ⟨rfl, ⟨nd, rfl⟩⟩))
              go_meet
              case rel => exact ⟨_, (decide (t167 ≥ 0)), (by first | rfl | (simp; done) | (simp [*]; done)), H', ⟨by have := HJ2.out; first | omega | exact Nat.le_refl _⟩, ⟨by (with_reducible repeat (first | apply Kd.V_alloc | apply Kd.V_drewN | apply Kd.V_drew)); exact Kd.V_mono HO_0.out (fun _ hk => hk.1)⟩, ⟨by repeat (first | (with_reducible first | exact HB.out | apply below_alloc | apply pw_below_drewN | apply below_drew1) | exact HB.out)⟩⟩
            · replace c12 := Bool.eq_false_iff.mpr c12
              subst c12
              have H1 : (laws_FnEntityNone.j1 kj2 l0 l1 true) = some r := by rw [if_neg (show ¬ (false = true) by decide)] at H; exact H
              clear H
              have H := H1
              clear H1
              have H' := Aside0.mk H
              clear H
              go_wp2_with (first | ((with_reducible refine gate_dst (N := 14) rfl ?_); refine Kd.N_lit (Kd.slice 5 (Kd.int .u8)) _ 22 ?hg (N' := 14) ?hd (xs := ([l0] : List (List Int))) (inner := [.slice A0 l0.length c0]) (ok := (fun k_ => (P0_ k_ ∨ w.heap.size ≤ k_))) (okp := (fun k_ => (P0_ k_ ∨ w.heap.size ≤ k_))) ?hr ?hp (fun _ hk => hk) ((show ∀ k_, wc.heap.size ≤ k_ → (fun k_ => (P0_ k_ ∨ w.heap.size ≤ k_)) k_ from fun k_ hk => (.inr (Nat.le_trans (below_size (by repeat (first | (with_reducible first | exact HB.out | apply below_alloc | apply pw_below_drewN | apply below_drew1) | exact HB.out))) hk))) _ (Nat.le_refl _)) (Below.refl _ _) (Nat.le_refl _) (by simp) ?_; (case hd => rfl); (case hg => rfl); (case hr => first | (go_simp; done) | (go_simp; rfl)); (case hp => first | exact (Reps.one (show Kd.FK (Kd.slice 5 (Kd.int .u8)) _ _ l0 [.slice A0 l0.length c0] from (Kd.FK_slice_mk (Kd.V_reads' (Kd.V_mono (ok' := (fun k_ => (P0_ k_ ∨ w.heap.size ≤ k_))) (HO_0.out) (fun k_ hk => hk))).2.1 (Kd.V_F (Kd.V_mono (ok' := (fun k_ => (P0_ k_ ∨ w.heap.size ≤ k_))) (HO_0.out) (fun k_ hk => hk))))) (Reps.none _ _)) | exact (Reps.one (show Kd.FK (Kd.slice 5 (Kd.int .u8)) _ _ l0 [.slice A0 l0.length c0] from (Kd.FK_slice_mk (Kd.V_reads' (Kd.V_mono (ok' := (fun k_ => (P0_ k_ ∨ w.heap.size ≤ k_))) (HO_0.out) (fun k_ hk => hk))).2.1 (Kd.V_F (Kd.V_mono (ok' := (fun k_ => (P0_ k_ ∨ w.heap.size ≤ k_))) ((Kd.V_drewN HO_0.out _)) (fun k_ hk => hk))))) (Reps.none _ _)) | exact (Reps.one (show Kd.FK (Kd.slice 5 (Kd.int .u8)) _ _ l0 [.slice A0 l0.length c0] from (Kd.FK_slice_mk (Kd.V_reads' (Kd.V_mono (ok' := (fun k_ => (P0_ k_ ∨ w.heap.size ≤ k_))) (HO_0.out) (fun k_ hk => hk))).2.1 (Kd.V_F (Kd.V_mono (ok' := (fun k_ => (P0_ k_ ∨ w.heap.size ≤ k_))) ((Kd.V_alloc HO_0.out _)) (fun k_ hk => hk))))) (Reps.none _ _)) | exact (Reps.one (show Kd.FK (Kd.slice 5 (Kd.int .u8)) _ _ l0 [.slice A0 l0.length c0] from (Kd.FK_slice_mk (Kd.V_reads' (Kd.V_mono (ok' := (fun k_ => (P0_ k_ ∨ w.heap.size ≤ k_))) (HO_0.out) (fun k_ hk => hk))).2.1 (Kd.V_F (Kd.V_mono (ok' := (fun k_ => (P0_ k_ ∨ w.heap.size ≤ k_))) ((by (with_reducible repeat (first | apply Kd.V_alloc | apply Kd.V_drewN | apply Kd.V_drew)); exact HO_0.out)) (fun k_ hk => hk))))) (Reps.none _ _))); intro v163 w18 ho19 hb hg_ hnew_; clear hg_ hnew_; (first | rw [← Ny162.out] at ho19 | (simp only [Int.reduceToNat] at ho19; rw [← Ny162.out] at ho19)); have n0_ := Aside0.mk (Kd.V_elder' (by (with_reducible repeat (first | apply Kd.V_alloc | apply Kd.V_drewN | apply Kd.V_drew)); exact HO_0.out) (Kd.N_base ho19) hb); have n1_ := Aside0.mk (Kd.N_lower ho19 (below_size (by repeat (first | (with_reducible first | exact HB.out | apply below_alloc | apply pw_below_drewN | apply below_drew1) | exact HB.out)))); have n2_ := Aside0.mk (below_step (by repeat (first | (with_reducible first | exact HB.out | apply below_alloc | apply pw_below_drewN | apply below_drew1) | exact HB.out)) hb); clear HO_0; clear HB; have HO_0 := n0_; have HO164 := n1_; have HB := n2_; clear n0_ n1_ n2_; clear hb ho19; obtain ⟨Ao20, co20, eo20⟩ := Kd.N_slice HO164.out; subst eo20) | ((with_reducible refine gate_callee (f := 6) rfl ?_); refine goesL_ (some 15) rfl rfl Tryd.func6 (by kernel_rfl) rfl #[.slice Ao20 y162.length co20] rfl (by (try simp only [List.map_toArray, List.map_cons, List.map_nil]); first | done | rfl | (simp only [List.length_drop, List.length_take]; rfl)) ?_; (with_reducible refine (laws_fewBytes.calls kj2 _ _ y162 true _ ?side1 ?side2 A9.out).mono ?_); (case side1 => repeat (first | exact (Kd.N_reads' HO164.out).2.2 | (with_reducible refine Kd.C_alloc ?_ _) | (with_reducible refine Kd.C_drewN ?_ _) | (with_reducible refine Kd.C_drew ?_))); (case side2 => exact (Kd.N_reads' HO164.out).2.1); rintro e w' ⟨rfl, ⟨nd, rfl⟩⟩; refine ⟨_, rfl, ?_⟩) | (go_at_call 7; (with_reducible refine (laws_entitiesOk.calls kj2 _ _ l1 false _ ?side1 ?side2 A11.out).mono ?_); (case side1 => repeat (first | exact (Kd.C_below HR1.out (by repeat (first | (with_reducible first | exact HB.out | apply below_alloc | apply pw_below_drewN | apply below_drew1) | exact HB.out))) | (with_reducible refine Kd.C_alloc ?_ _) | (with_reducible refine Kd.C_drewN ?_ _) | (with_reducible refine Kd.C_drew ?_))); (case side2 => exact HC1.out); rintro e w21 ⟨rfl, hb⟩; have n0_ := Aside0.mk (Kd.V_below (by (with_reducible repeat (first | apply Kd.V_alloc | apply Kd.V_drewN | apply Kd.V_drew)); exact HO_0.out) hb); have n1_ := Aside0.mk (Kd.N_below (by (with_reducible repeat (first | apply Kd.N_alloc | apply Kd.N_drewN | apply Kd.N_drew)); exact HO164.out) hb); have n2_ := Aside0.mk (below_step (by repeat (first | (with_reducible first | exact HB.out | apply below_alloc | apply pw_below_drewN | apply below_drew1) | exact HB.out)) hb); clear HO_0; clear HO164; clear HB; have HO_0 := n0_; have HO164 := n1_; have HB := n2_; clear n0_ n1_ n2_; (try clear hb); (try clear hb2); (try clear hk); (try clear hi)))
              go_meet
              case rel => exact ⟨_, (true), (by first | rfl | (simp; done) | (simp [*]; done)), H', ⟨by have := HJ2.out; first | omega | exact Nat.le_refl _⟩, ⟨by (with_reducible repeat (first | apply Kd.V_alloc | apply Kd.V_drewN | apply Kd.V_drew)); exact Kd.V_mono HO_0.out (fun _ hk => hk.1)⟩, ⟨by repeat (first | (with_reducible first | exact HB.out | apply below_alloc | apply pw_below_drewN | apply below_drew1) | exact HB.out)⟩⟩
          · replace c10 := Bool.eq_false_iff.mpr c10
            subst c10
            have H1 : (laws_FnEntityNone.j1 kj2 l0 l1 true) = some r := by rw [if_neg (show ¬ (false = true) by decide)] at H; exact H
            clear H
            have H := H1
            clear H1
            have H' := Aside0.mk H
            clear H
            go_wp2_with (first | ((with_reducible refine gate_dst (N := 14) rfl ?_); refine Kd.N_lit (Kd.slice 5 (Kd.int .u8)) _ 22 ?hg (N' := 14) ?hd (xs := ([l0] : List (List Int))) (inner := [.slice A0 l0.length c0]) (ok := (fun k_ => (P0_ k_ ∨ w.heap.size ≤ k_))) (okp := (fun k_ => (P0_ k_ ∨ w.heap.size ≤ k_))) ?hr ?hp (fun _ hk => hk) ((show ∀ k_, wc.heap.size ≤ k_ → (fun k_ => (P0_ k_ ∨ w.heap.size ≤ k_)) k_ from fun k_ hk => (.inr (Nat.le_trans (below_size (by repeat (first | (with_reducible first | exact HB.out | apply below_alloc | apply pw_below_drewN | apply below_drew1) | exact HB.out))) hk))) _ (Nat.le_refl _)) (Below.refl _ _) (Nat.le_refl _) (by simp) ?_; (case hd => rfl); (case hg => rfl); (case hr => first | (go_simp; done) | (go_simp; rfl)); (case hp => first | exact (Reps.one (show Kd.FK (Kd.slice 5 (Kd.int .u8)) _ _ l0 [.slice A0 l0.length c0] from (Kd.FK_slice_mk (Kd.V_reads' (Kd.V_mono (ok' := (fun k_ => (P0_ k_ ∨ w.heap.size ≤ k_))) (HO_0.out) (fun k_ hk => hk))).2.1 (Kd.V_F (Kd.V_mono (ok' := (fun k_ => (P0_ k_ ∨ w.heap.size ≤ k_))) (HO_0.out) (fun k_ hk => hk))))) (Reps.none _ _)) | exact (Reps.one (show Kd.FK (Kd.slice 5 (Kd.int .u8)) _ _ l0 [.slice A0 l0.length c0] from (Kd.FK_slice_mk (Kd.V_reads' (Kd.V_mono (ok' := (fun k_ => (P0_ k_ ∨ w.heap.size ≤ k_))) (HO_0.out) (fun k_ hk => hk))).2.1 (Kd.V_F (Kd.V_mono (ok' := (fun k_ => (P0_ k_ ∨ w.heap.size ≤ k_))) ((Kd.V_drewN HO_0.out _)) (fun k_ hk => hk))))) (Reps.none _ _)) | exact (Reps.one (show Kd.FK (Kd.slice 5 (Kd.int .u8)) _ _ l0 [.slice A0 l0.length c0] from (Kd.FK_slice_mk (Kd.V_reads' (Kd.V_mono (ok' := (fun k_ => (P0_ k_ ∨ w.heap.size ≤ k_))) (HO_0.out) (fun k_ hk => hk))).2.1 (Kd.V_F (Kd.V_mono (ok' := (fun k_ => (P0_ k_ ∨ w.heap.size ≤ k_))) ((Kd.V_alloc HO_0.out _)) (fun k_ hk => hk))))) (Reps.none _ _)) | exact (Reps.one (show Kd.FK (Kd.slice 5 (Kd.int .u8)) _ _ l0 [.slice A0 l0.length c0] from (Kd.FK_slice_mk (Kd.V_reads' (Kd.V_mono (ok' := (fun k_ => (P0_ k_ ∨ w.heap.size ≤ k_))) (HO_0.out) (fun k_ hk => hk))).2.1 (Kd.V_F (Kd.V_mono (ok' := (fun k_ => (P0_ k_ ∨ w.heap.size ≤ k_))) ((by (with_reducible repeat (first | apply Kd.V_alloc | apply Kd.V_drewN | apply Kd.V_drew)); exact HO_0.out)) (fun k_ hk => hk))))) (Reps.none _ _))); intro v163 w22 ho23 hb hg_ hnew_; clear hg_ hnew_; (first | rw [← Ny162.out] at ho23 | (simp only [Int.reduceToNat] at ho23; rw [← Ny162.out] at ho23)); have n0_ := Aside0.mk (Kd.V_elder' (by (with_reducible repeat (first | apply Kd.V_alloc | apply Kd.V_drewN | apply Kd.V_drew)); exact HO_0.out) (Kd.N_base ho23) hb); have n1_ := Aside0.mk (Kd.N_lower ho23 (below_size (by repeat (first | (with_reducible first | exact HB.out | apply below_alloc | apply pw_below_drewN | apply below_drew1) | exact HB.out)))); have n2_ := Aside0.mk (below_step (by repeat (first | (with_reducible first | exact HB.out | apply below_alloc | apply pw_below_drewN | apply below_drew1) | exact HB.out)) hb); clear HO_0; clear HB; have HO_0 := n0_; have HO164 := n1_; have HB := n2_; clear n0_ n1_ n2_; clear hb ho23; obtain ⟨Ao24, co24, eo24⟩ := Kd.N_slice HO164.out; subst eo24) | ((with_reducible refine gate_callee (f := 6) rfl ?_); refine goesL_ (some 15) rfl rfl Tryd.func6 (by kernel_rfl) rfl #[.slice Ao24 y162.length co24] rfl (by (try simp only [List.map_toArray, List.map_cons, List.map_nil]); first | done | rfl | (simp only [List.length_drop, List.length_take]; rfl)) ?_; (with_reducible refine (laws_fewBytes.calls kj2 _ _ y162 false _ ?side1 ?side2 A9.out).mono ?_); (case side1 => repeat (first | exact (Kd.N_reads' HO164.out).2.2 | (with_reducible refine Kd.C_alloc ?_ _) | (with_reducible refine Kd.C_drewN ?_ _) | (with_reducible refine Kd.C_drew ?_))); (case side2 => exact (Kd.N_reads' HO164.out).2.1); rintro e w' ⟨rfl, ⟨nd, rfl⟩⟩; refine ⟨_, rfl, ?_⟩))
            go_meet
            case rel => exact ⟨_, (true), (by first | rfl | (simp; done) | (simp [*]; done)), H', ⟨by have := HJ2.out; first | omega | exact Nat.le_refl _⟩, ⟨by (with_reducible repeat (first | apply Kd.V_alloc | apply Kd.V_drewN | apply Kd.V_drew)); exact Kd.V_mono HO_0.out (fun _ hk => hk.1)⟩, ⟨by repeat (first | (with_reducible first | exact HB.out | apply below_alloc | apply pw_below_drewN | apply below_drew1) | exact HB.out)⟩⟩
        case rest =>
          clear HC8
          try clear c1
          try clear p2
          try clear c3
          try clear c4
          try clear c4b0
          try clear c4b1
          try clear c6
          try clear c7
          try clear c10
          try clear c12
          try clear p2
          obtain ⟨kq, x26_7, rfl, HA, HJ7, HO_0, HB⟩ := hcut
          cases kq with
          | zero => exact absurd HA.out (by simp [laws_FnEntityNone.j1])
          | succ kj7 =>
            have H := HA.out
            clear HA
            simp only [laws_FnEntityNone.j1] at H
            by_cases c25 : x26_7 = true
            · subst c25
              have H1 : (some true) = some r := by rw [if_pos rfl] at H; exact H
              clear H
              have H := H1
              clear H1
              obtain rfl := Option.some.inj H
              go_wp2
              go_ret
              exact ⟨by first | rfl | (simp [errW_none, errW_some] <;> rfl) | (simp [*, errW_none, errW_some] <;> rfl), by repeat (first | (with_reducible first | exact HB.out | apply below_alloc | apply pw_below_drewN | apply below_drew1) | exact HB.out)⟩
            · replace c25 := Bool.eq_false_iff.mpr c25
              subst c25
              have H1 : ((impl_Entities.f l0 l1).bind fun t168 => ((spec_SameBytes.f kj7 t168 l0).bind fun t171 => (some t171))) = some r := by rw [if_neg (show ¬ (false = true) by decide)] at H; exact H
              clear H
              have H := H1
              clear H1
              replace H := Option.bind_eq_some_iff.mp H
              obtain ⟨t168, A260, H⟩ := H
              replace H : ((spec_SameBytes.f kj7 t168 l0).bind fun t171 => (some t171)) = some r := H
              have A26 := Aside0.mk A260
              clear A260
              replace H := Option.bind_eq_some_iff.mp H
              obtain ⟨t171, A270, H⟩ := H
              replace H : (some t171) = some r := H
              have A27 := Aside0.mk A270
              clear A270
              obtain rfl := Option.some.inj H
              go_wp2_with (first | ((with_reducible refine gate_callee (f := 10) rfl ?_); refine goesL_ (some 29) rfl rfl Tryd.func10 (by kernel_rfl) rfl #[.slice A0 l0.length c0, .slice A1 l1.length c1] rfl (by (try simp only [List.map_toArray, List.map_cons, List.map_nil]); first | done | rfl | (simp only [List.length_drop, List.length_take]; rfl)) ?_; (with_reducible refine (impl_Entities.calls _ _ l0 _ _ l1 t168 _ ?side1 ?side2 ?side3 ?side4 A26.out).mono ?_); (case side1 => repeat (first | exact (Kd.V_reads' HO_0.out).2.2 | (with_reducible refine Kd.C_alloc ?_ _) | (with_reducible refine Kd.C_drewN ?_ _) | (with_reducible refine Kd.C_drew ?_))); (case side2 => exact (Kd.V_reads' HO_0.out).2.1); (case side3 => repeat (first | exact (Kd.C_below HR1.out HB.out) | (with_reducible refine Kd.C_alloc ?_ _) | (with_reducible refine Kd.C_drewN ?_ _) | (with_reducible refine Kd.C_drew ?_))); (case side4 => exact HC1.out); rintro e w28 ⟨v169, rfl, ho0, hb⟩; refine ⟨_, rfl, ?_⟩; have n0_ := Aside0.mk (Kd.V_elder' (by (with_reducible repeat (first | apply Kd.V_alloc | apply Kd.V_drewN | apply Kd.V_drew)); exact HO_0.out) (Kd.R_base ho0) hb); have n1_ := Aside0.mk (Kd.R_lower (Kd.R_newM (M := fun k_ => (w.heap.size ≤ k_)) ho0 (below_size (by repeat (first | (with_reducible first | exact HB.out | apply below_alloc | apply pw_below_drewN | apply below_drew1) | exact HB.out))) (fun k_ h_ => h_)) (below_size (by repeat (first | (with_reducible first | exact HB.out | apply below_alloc | apply pw_below_drewN | apply below_drew1) | exact HB.out)))); have n2_ := Aside0.mk (below_step (by repeat (first | (with_reducible first | exact HB.out | apply below_alloc | apply pw_below_drewN | apply below_drew1) | exact HB.out)) hb); clear HO_0; clear HB; have HO_0 := n0_; have HO170 := n1_; have HB := n2_; clear n0_ n1_ n2_; (try clear hb); (try clear hb2); (try clear hk); (try clear hi); (try clear ho0); obtain ⟨Ao29, co29, eo29⟩ := Kd.R_slice HO170.out; subst eo29) | ((with_reducible refine gate_callee (f := 9) rfl ?_); refine goesL_ (some 31) rfl rfl Tryd.func9 (by kernel_rfl) rfl #[.slice Ao29 t168.length co29, .slice A0 l0.length c0] rfl (by (try simp only [List.map_toArray, List.map_cons, List.map_nil]); first | done | rfl | (simp only [List.length_drop, List.length_take]; rfl)) ?_; (with_reducible refine (spec_SameBytes.calls kj7 _ _ t168 _ _ l0 t171 _ ?side1 ?side2 ?side3 ?side4 A27.out).mono ?_); (case side1 => repeat (first | exact (Kd.R_reads' HO170.out).2.2 | (with_reducible refine Kd.C_alloc ?_ _) | (with_reducible refine Kd.C_drewN ?_ _) | (with_reducible refine Kd.C_drew ?_))); (case side2 => exact (Kd.R_reads' HO170.out).2.1); (case side3 => repeat (first | exact (Kd.V_reads' HO_0.out).2.2 | (with_reducible refine Kd.C_alloc ?_ _) | (with_reducible refine Kd.C_drewN ?_ _) | (with_reducible refine Kd.C_drew ?_))); (case side4 => exact (Kd.V_reads' HO_0.out).2.1); rintro e w' ⟨rfl, ⟨nd, rfl⟩⟩; refine ⟨_, rfl, ?_⟩))
              go_ret
              exact ⟨by first | rfl | (simp [errW_none, errW_some] <;> rfl) | (simp [*, errW_none, errW_some] <;> rfl), by repeat (first | (with_reducible first | exact HB.out | apply below_alloc | apply pw_below_drewN | apply below_drew1) | exact HB.out)⟩

end Go.Proofs.YtkgaladmiiglaaaDoor.PFnEntityNone
