-- Laid by a program of this session, out of the translation's print.
import Derived.Test.YtgpmmmlmaaiobaaDoorPFnInputPiecesx0
namespace Go.Proofs.YtgpmmmlmaaiobaaDoor.PFnInputPieces
open Go.Proofs.YtgpmmmlmaaiobaaDoor.Own
open Go.RowKit Go.Proofs.YtgpmmmlmaaiobaaDoorW.PrintWords Go.Proofs.YtgpmmmlmaaiobaaDoorW.PrintLast Go.Proofs.YtgpmmmlmaaiobaaDoorW.PrintMore
attribute [local go_sem] max2_int min2_int max_two min_two max_three min_three max_four min_four   -- for this text's walks alone
set_option linter.unusedVariables false
set_option linter.unusedSimpArgs false

/-! ### laws_fewBytes: function 8 -/
def laws_fewBytes.l0 : Nat → List (List Int) → Int → Int → Option (Bool)
  | 0, _, _, _ => none
  | k + 1, x5, x6, x7 => if x7 < x6 then (if 0 ≤ x7 then (if x7 < (x5.length : Int) then (if ((rd_L1 x5 x7).length : Int) > 300 then (some false) else (laws_fewBytes.l0 k x5 x6 (wrap64 (x7 + 1)))) else (none)) else (none)) else (some true)
def laws_fewBytes.f (k : Nat) (l0 : List (List Int)) : Option (Bool) := laws_fewBytes.l0 k l0 (l0.length : Int) 0
theorem laws_fewBytes.mono_l : ∀ k, (∀ y0 y1 y2, LeO (laws_fewBytes.l0 k y0 y1 y2) (laws_fewBytes.l0 (k + 1) y0 y1 y2))
  | 0 => fun _ _ _ r h => by simp [laws_fewBytes.l0] at h
  | k + 1 => by
    have ih0 := laws_fewBytes.mono_l k
    · intro y0 y1 y2
      unfold laws_fewBytes.l0
      repeat' first
      | (with_reducible exact ih0 _ _ _)
      | (with_reducible exact LeO.refl _)
      | (with_reducible exact LeO.none _)
      | (with_reducible refine LeO.ite ?_ ?_)
      | (with_reducible refine LeO.bind ?_ (fun _ => ?_))
      | exact ih0 _ _ _
      | exact LeO.none _
      | refine LeO.ite ?_ ?_
      | refine LeO.bind ?_ (fun _ => ?_)
theorem laws_fewBytes.mono : ∀ a0 k, LeO (laws_fewBytes.f k a0) (laws_fewBytes.f (k + 1) a0) := by
  intro a0 k
  have ih0 := laws_fewBytes.mono_l k
  unfold laws_fewBytes.f
  repeat' first
      | (with_reducible exact ih0 _ _ _)
      | (with_reducible exact LeO.refl _)
      | (with_reducible exact LeO.none _)
      | (with_reducible refine LeO.ite ?_ ?_)
      | (with_reducible refine LeO.bind ?_ (fun _ => ?_))
      | exact ih0 _ _ _
      | exact LeO.none _
      | refine LeO.ite ?_ ?_
      | refine LeO.bind ?_ (fun _ => ?_)
set_option maxHeartbeats 8000000 in
set_option maxRecDepth 100000 in
theorem laws_fewBytes.calls (k : Nat) (A0 : Option Addr) (c0 : Nat) (l0 : List (List Int)) (r : Bool) (w : World) (hr0 : Kd.C (Kd.slice 5 (Kd.int .u8)) w A0 l0.length l0) (hc0 : l0.length ≤ c0) (h : laws_fewBytes.f k l0 = some r) :
    Calls Tryd.prog 8 #[.slice A0 l0.length c0] w fun e w' => e = .returned (.bool r) ∧ Drawn0 w w' := by
  have HR0 := Aside0.mk hr0
  have HC0 := Aside0.mk hc0
  clear hr0 hc0
  have H : (laws_fewBytes.l0 k l0 (l0.length : Int) 0) = some r := h
  clear h
  have H' := Aside0.mk H
  clear H
  go_enter Tryd.func8, Tryd.ntmps8
  go_wp2
  go_loopg [7] k (fun kq v7 w' => ∃ (x7_1 : Int), v7 = .int .i64 x7_1 ∧ Aside0 (laws_fewBytes.l0 kq l0 (l0.length : Int) x7_1 = some r) ∧ Aside0 (kq ≤ k) ∧ Drawn0 w w')
  case atStart => exact ⟨(0), (by first | rfl | (simp; done) | (simp [*]; done)), H', ⟨Nat.le_refl _⟩, by repeat (first | exact Drawn0.refl _ | apply Drawn0.step)⟩
  case round =>
    clear H'
    obtain ⟨x7_1, rfl, HA, HK1, ⟨m1, rfl⟩⟩ := hrel
    cases gk with
    | zero => exact absurd HA.out (by simp [laws_fewBytes.l0])
    | succ k1 =>
      have H := HA.out
      clear HA
      simp only [laws_fewBytes.l0] at H
      by_cases c2 : x7_1 < (l0.length : Int)
      · rw [if_pos c2] at H
        have c2b0 : decide (x7_1 < (l0.length : Int)) = true := decide_eq_true c2
        clear c2
        by_cases c3 : 0 ≤ x7_1
        · rw [if_pos c3] at H
          have c3b0 : decide (0 ≤ x7_1) = true := decide_eq_true c3
          clear c3
          by_cases c4 : x7_1 < (l0.length : Int)
          · rw [if_pos c4] at H
            have c4b0 : decide (x7_1 < (l0.length : Int)) = true := decide_eq_true c4
            clear c4
            by_cases c5 : ((rd_L1 l0 x7_1).length : Int) > 300
            · rw [if_pos c5] at H
              have c5b0 : decide (300 < ((rd_L1 l0 x7_1).length : Int)) = true := decide_eq_true c5
              have c5b1 : decide (300 < (rd_L1 l0 x7_1).length) = true := decide_eq_true (by omega)
              clear c5
              obtain rfl := Option.some.inj H
              have p101 : 0 ≤ (x7_1 : Int) := of_decide_eq_true (by first | (with_reducible assumption) | assumption)
              have q101 : x7_1 < (l0.length : Int) := of_decide_eq_true (by first | (with_reducible assumption) | assumption)
              obtain ⟨ad101, A101_0, c101_0, e101, hx101_0, hl101_0, hi101_0⟩ := at_L1 HR0.out x7_1 p101 q101
              cases e101
              have HR101_0 := Aside0.mk hi101_0
              have HC101_0 := Aside0.mk hl101_0
              clear hi101_0 hl101_0
              replace p101 := eq_true p101
              replace q101 := eq_true q101
              go_wp2
              go_ret
              exact ⟨by first | rfl | (simp; done) | (simp [*]; done), by repeat (first | exact Drawn0.refl _ | apply Drawn0.step)⟩
            · rw [if_neg c5] at H
              have c5b0 : decide (300 < ((rd_L1 l0 x7_1).length : Int)) = false := decide_eq_false c5
              have c5b1 : decide (300 < (rd_L1 l0 x7_1).length) = false := decide_eq_false (by omega)
              clear c5
              have H' := Aside0.mk H
              clear H
              have p101 : 0 ≤ (x7_1 : Int) := of_decide_eq_true (by first | (with_reducible assumption) | assumption)
              have q101 : x7_1 < (l0.length : Int) := of_decide_eq_true (by first | (with_reducible assumption) | assumption)
              obtain ⟨ad101, A101_0, c101_0, e101, hx101_0, hl101_0, hi101_0⟩ := at_L1 HR0.out x7_1 p101 q101
              cases e101
              have HR101_0 := Aside0.mk hi101_0
              have HC101_0 := Aside0.mk hl101_0
              clear hi101_0 hl101_0
              replace p101 := eq_true p101
              replace q101 := eq_true q101
              go_wp2
              go_roundg k1
              case measure => have := HK1.out; omega
              case rel => exact ⟨(wrap64 (x7_1 + 1)), (by first | rfl | (simp; done) | (simp [*]; done)), H', ⟨by have := HK1.out; omega⟩, by repeat (first | exact Drawn0.refl _ | apply Drawn0.step)⟩
          · rw [if_neg c4] at H
            exact absurd H (by simp)
        · rw [if_neg c3] at H
          exact absurd H (by simp)
      · rw [if_neg c2] at H
        have c2b0 : decide (x7_1 < (l0.length : Int)) = false := decide_eq_false c2
        clear c2
        obtain rfl := Option.some.inj H
        go_wp2
        go_ret
        exact ⟨by first | rfl | (simp; done) | (simp [*]; done), by repeat (first | exact Drawn0.refl _ | apply Drawn0.step)⟩

/-! ### impl_own: function 21 -/
def impl_own.f (l0 : List Int) : Option (List Int) := (some (([] : List Int) : List Int)).bind fun y102 => (if y102.length + l0.length < 140737488355328 then (some (y102 ++ l0)) else (none))
set_option maxHeartbeats 8000000 in
set_option maxRecDepth 100000 in
theorem impl_own.calls (A0 : Option Addr) (c0 : Nat) (l0 : List Int) (r : List Int) (w : World) (hr0 : Kd.C (Kd.int .u8) w A0 l0.length l0) (hc0 : l0.length ≤ c0) (h : impl_own.f l0 = some r) :
    Calls Tryd.prog 21 #[.slice A0 l0.length c0] w fun e w' => ∃ v0_ : Value, e = .returned (v0_) ∧ Kd.R (Kd.int .u8) 5 w' w.heap.size (fun _ => True) v0_ r ∧ Below w.heap.size w w' := by
  have HR0 := Aside0.mk hr0
  have HC0 := Aside0.mk hc0
  clear hr0 hc0
  have HB := Aside0.mk (Below.refl w.heap.size w)
  have H : ((some (([] : List Int) : List Int)).bind fun y102 => (if y102.length + l0.length < 140737488355328 then (some (y102 ++ l0)) else (none))) = some r := h
  clear h
  obtain ⟨y102, hy102⟩ : ∃ y_ : List Int, y_ = (([] : List Int)) := ⟨_, rfl⟩
  replace H : (if y102.length + l0.length < 140737488355328 then (some (y102 ++ l0)) else (none)) = some r := by first | (rw [hy102]; with_reducible exact H) | (have H2_ := (Option.bind_some _ _).symm.trans H; rw [hy102]; with_reducible exact H2_) | (have H2_ := (Option.bind_some _ _).symm.trans H; with_reducible exact H2_) | with_reducible exact H | (rw [hy102]; exact H) | exact H
  have Ny102 := Aside0.mk hy102
  clear hy102
  by_cases c2 : y102.length + l0.length < 140737488355328
  · rw [if_pos c2] at H
    have LMc2 := Aside0.mk c2
    clear c2
    obtain ⟨y105, hy105⟩ : ∃ y_ : List Int, y_ = (y102 ++ l0) := ⟨_, rfl⟩
    replace H : (some y105) = some r := by first | (rw [hy105]; with_reducible exact H) | (have H2_ := (Option.bind_some _ _).symm.trans H; rw [hy105]; with_reducible exact H2_) | (have H2_ := (Option.bind_some _ _).symm.trans H; with_reducible exact H2_) | with_reducible exact H | (rw [hy105]; exact H) | exact H
    have Ny105 := Aside0.mk hy105
    clear hy105
    obtain rfl := Option.some.inj H
    go_enter Tryd.func21, Tryd.ntmps21
    go_wp2_with (first | ((with_reducible refine gate_dst (N := 3) rfl ?_); refine Kd.R_lit (Kd.int .u8) _ 5 ?hg (N := 3) ?hd (xs := ([] : List Int)) (inner := []) (ok := fun _ => True) (okp := fun _ => True) ?hr ?hp (fun _ hk => hk) trivial (Below.refl _ _) (Nat.le_refl _) (by simp) ?_; (case hd => rfl); (case hg => rfl); (case hr => first | (go_simp; done) | (go_simp; rfl)); (case hp => exact (Reps.none _ _)); intro v103 w3 ho4 hb hg_ hnew_; clear hg_ hnew_; (first | rw [← Ny102.out] at ho4 | (simp only [Int.reduceToNat] at ho4; rw [← Ny102.out] at ho4)); have n0_ := Aside0.mk (Kd.R_lower ho4 (below_size (by repeat (first | (with_reducible first | exact HB.out | apply below_alloc | apply pw_below_drewN | apply below_drew1) | exact HB.out)))); have n1_ := Aside0.mk (below_step (by repeat (first | (with_reducible first | exact HB.out | apply below_alloc | apply pw_below_drewN | apply below_drew1) | exact HB.out)) hb); clear HB; have HO104 := n0_; have HB := n1_; clear n0_ n1_; clear hb ho4) | ((with_reducible refine gate_builtin (b := .append) (xs := #[.tmp 3, .tmp 4]) rfl ?_); at_builtin; refine Kd.R_append_rows (Kd.int .u8) (w0 := w) w.heap.size rfl (.tmp 3) (.tmp 4) 22 5 (.int .u8 0) 1 rfl Tryd.underlying22 info5 rfl (by decide) (by omega) v103 y102 l0 _ _ _ (fun _ => True) (fun _ => False) rfl rfl ?aO ?aR (fun _ _ h => h) (fun _ h => h.elim) ?aF ?aB ?aS ?aL ?_; (case aR => repeat (first | exact (Kd.C_below HR0.out HB.out) | (with_reducible refine Kd.C_alloc ?_ _) | (with_reducible refine Kd.C_drewN ?_ _) | (with_reducible refine Kd.C_drew ?_))); (case aB => exact (by repeat (first | (with_reducible first | exact HB.out | apply below_alloc | apply pw_below_drewN | apply below_drew1) | exact HB.out))); (case aF => exact (fun _ _ => trivial)); (case aO => exact (by (with_reducible repeat (first | apply Kd.R_alloc | apply Kd.R_drewN | apply Kd.R_drew)); exact HO104.out)); (case aS => exact (below_size (by repeat (first | (with_reducible first | exact HB.out | apply below_alloc | apply pw_below_drewN | apply below_drew1) | exact HB.out)))); (case aL => have := LMc2.out; omega); intro v106 w5 ho hb hg hat; rw [← Ny105.out] at ho; have n0_ := Aside0.mk (hb); have n1_ := Aside0.mk (ho); clear HB; clear HO104; have HB := n0_; have HO107 := n1_; clear n0_ n1_; clear ho hb hg hat))
    go_ret
    exact ⟨_, by first | rfl | (simp [errW_none, errW_some] <;> rfl) | (simp [*, errW_none, errW_some] <;> rfl), by (with_reducible repeat (first | apply Kd.R_alloc | apply Kd.R_drewN | apply Kd.R_drew)); exact HO107.out, by repeat (first | (with_reducible first | exact HB.out | apply below_alloc | apply pw_below_drewN | apply below_drew1) | exact HB.out)⟩
  · rw [if_neg c2] at H
    exact absurd H (by simp)

/-! ### tdparse_nullBuffer: function 65 -/
def tdparse_nullBuffer.f  : Option (List Int) := some (([0] : List Int))
set_option maxHeartbeats 8000000 in
set_option maxRecDepth 100000 in
theorem tdparse_nullBuffer.calls  (r : List Int) (w : World) (h : tdparse_nullBuffer.f  = some r) :
    Calls Tryd.prog 65 #[] w fun e w' => ∃ v0_ : Value, e = .returned (v0_) ∧ Kd.R (Kd.int .u8) 5 w' w.heap.size (fun _ => True) v0_ r ∧ Below w.heap.size w w' := by
  have HB := Aside0.mk (Below.refl w.heap.size w)
  have H : (some (([0] : List Int))) = some r := h
  clear h
  obtain ⟨y108, hy108⟩ : ∃ y_ : List Int, y_ = (([0] : List Int)) := ⟨_, rfl⟩
  replace H : (some y108) = some r := by first | (rw [hy108]; with_reducible exact H) | (have H2_ := (Option.bind_some _ _).symm.trans H; rw [hy108]; with_reducible exact H2_) | (have H2_ := (Option.bind_some _ _).symm.trans H; with_reducible exact H2_) | with_reducible exact H | (rw [hy108]; exact H) | exact H
  have Ny108 := Aside0.mk hy108
  clear hy108
  obtain rfl := Option.some.inj H
  go_enter Tryd.func65, Tryd.ntmps65
  go_wp2_with (first | ((with_reducible refine gate_dst (N := 1) rfl ?_); refine Kd.R_lit (Kd.int .u8) _ 5 ?hg (N := 1) ?hd (xs := ([0] : List Int)) (inner := [.int .u8 0]) (ok := fun _ => True) (okp := fun _ => True) ?hr ?hp (fun _ hk => hk) trivial (Below.refl _ _) (Nat.le_refl _) (by simp) ?_; (case hd => rfl); (case hg => rfl); (case hr => first | (go_simp; done) | (go_simp; rfl)); (case hp => exact (Reps.one (show Kd.M (Kd.int .u8) _ _ _ 0 [.int .u8 0] from rfl) (Reps.none _ _))); intro v109 w1 ho2 hb hg_ hnew_; clear hg_ hnew_; (first | rw [← Ny108.out] at ho2 | (simp only [Int.reduceToNat] at ho2; rw [← Ny108.out] at ho2)); have n0_ := Aside0.mk (Kd.R_lower ho2 (below_size (by repeat (first | (with_reducible first | exact HB.out | apply below_alloc | apply pw_below_drewN | apply below_drew1) | exact HB.out)))); have n1_ := Aside0.mk (below_step (by repeat (first | (with_reducible first | exact HB.out | apply below_alloc | apply pw_below_drewN | apply below_drew1) | exact HB.out)) hb); clear HB; have HO110 := n0_; have HB := n1_; clear n0_ n1_; clear hb ho2))
  go_ret
  exact ⟨_, by first | rfl | (simp [errW_none, errW_some] <;> rfl) | (simp [*, errW_none, errW_some] <;> rfl), by (with_reducible repeat (first | apply Kd.R_alloc | apply Kd.R_drewN | apply Kd.R_drew)); exact HO110.out, by repeat (first | (with_reducible first | exact HB.out | apply below_alloc | apply pw_below_drewN | apply below_drew1) | exact HB.out)⟩

-- NOT PRINTED: function 23 (tdparse_NewInputBytes)

/-! ### impl_truth: function 35 -/
def impl_truth.f (a0 : Bool) : Option (Int) := if a0 = true then (some 1) else (some 0)
set_option maxHeartbeats 8000000 in
set_option maxRecDepth 100000 in
theorem impl_truth.calls (a0 : Bool) (r : Int) (w : World) (h : impl_truth.f a0 = some r) :
    Calls Tryd.prog 35 #[.bool a0] w fun e w' => e = .returned (.int .i64 r) ∧ Drawn0 w w' := by
  have H : (if a0 = true then (some 1) else (some 0)) = some r := h
  clear h
  by_cases c2 : a0 = true
  · subst c2
    have H1 : (some 1) = some r := by rw [if_pos rfl] at H; exact H
    clear H
    have H := H1
    clear H1
    obtain rfl := Option.some.inj H
    go_enter Tryd.func35, Tryd.ntmps35
    go_wp2
    go_ret
    exact ⟨by first | rfl | (simp; done) | (simp [*]; done), by repeat (first | exact Drawn0.refl _ | apply Drawn0.step)⟩
  · replace c2 := Bool.eq_false_iff.mpr c2
    subst c2
    have H1 : (some 0) = some r := by rw [if_neg (show ¬ (false = true) by decide)] at H; exact H
    clear H
    have H := H1
    clear H1
    obtain rfl := Option.some.inj H
    go_enter Tryd.func35, Tryd.ntmps35
    go_wp2
    go_ret
    exact ⟨by first | rfl | (simp; done) | (simp [*]; done), by repeat (first | exact Drawn0.refl _ | apply Drawn0.step)⟩

-- NOT PRINTED: function 42 (tdparse_Input_Move)

-- NOT PRINTED: function 43 (tdparse_Input_Rewind)

-- NOT PRINTED: function 44 (tdparse_Input_Shift)

-- NOT PRINTED: function 45 (tdparse_Input_Skip)

-- NOT PRINTED: function 46 (tdparse_Input_Peek)

-- NOT PRINTED: function 47 (tdparse_Input_PeekErr)

-- NOT PRINTED: function 48 (tdparse_Input_Lexeme)

-- NOT PRINTED: function 49 (tdparse_Input_Pos)

-- NOT PRINTED: function 50 (tdparse_Input_Offset)

-- NOT PRINTED: function 51 (tdparse_Input_PeekRune)

-- NOT PRINTED: function 52 (tdparse_Input_MoveRune)

-- NOT PRINTED: function 53 (tdparse_Input_Reset)

-- impl_RunInput: by hand (CInput)

/-! ### laws_FnInputPieces: function 6 -/
mutual
def laws_FnInputPieces.j0 : Nat → List Int → List Int → Bool → Option (Bool)
  | 0, _, _, _ => none
  | k + 1, x0, x1, x19 => if x19 = true then (some true) else ((laws_fewBytes.f k (([x0] : List (List Int)))).bind fun t114 => (if t114 = true then (laws_FnInputPieces.j1 k x0 x1 (decide ((x1.length : Int) > 50))) else (laws_FnInputPieces.j1 k x0 x1 true)))
def laws_FnInputPieces.j1 : Nat → List Int → List Int → Bool → Option (Bool)
  | 0, _, _, _ => none
  | k + 1, x0, x1, x28 => if x28 = true then (some true) else (laws_FnInputPieces.l0 k x0 x1 (([] : List (S44))) 0 x1 (x1.length : Int) 0)
def laws_FnInputPieces.l0 : Nat → List Int → List Int → List (S44) → Int → List Int → Int → Int → Option (Bool)
  | 0, _, _, _, _, _, _, _ => none
  | k + 1, x0, x1, x5, x6, x30, x31, x32 => if x32 < x31 then (if 0 ≤ x32 then (if x32 < (x30.length : Int) then (if (rd x30 x32) < 0 then (some true) else (if (rd x30 x32) > (wrap64 ((x0.length : Int) - x6)) then (some true) else ((some (([(⟨0, rd x30 x32⟩ : S44), (⟨2, 0⟩ : S44)] : List (S44)) : List (S44))).bind fun y119 => (if x5.length + y119.length < 8796093022208 then (laws_FnInputPieces.l0 k x0 x1 (x5 ++ y119) (wrap64 (x6 + (rd x30 x32))) x30 x31 (wrap64 (x32 + 1))) else (none))))) else (none)) else (none)) else ((impl_RunInput.f x0 x5).bind fun t125 => (if (t125.length : Int) = (x5.length : Int) then (laws_FnInputPieces.l1 k x0 0 t125 x1 (x1.length : Int) 0) else (some false)))
def laws_FnInputPieces.l1 : Nat → List Int → Int → List (S46) → List Int → Int → Int → Option (Bool)
  | 0, _, _, _, _, _, _ => none
  | k + 1, x0, x6, x9, x64, x65, x66 => if x66 < x65 then (if 0 ≤ x66 then (if x66 < (x64.length : Int) then (if 0 ≤ (wrap64 ((wrap64 (2 * x66)) + 1)) then (if (wrap64 ((wrap64 (2 * x66)) + 1)) < (x9.length : Int) then (if 0 ≤ x6 then (if x6 ≤ (wrap64 (x6 + (rd x64 x66))) then (if (wrap64 (x6 + (rd x64 x66))) ≤ (x0.length : Int) then (if ((rd_T46 x9 (wrap64 ((wrap64 (2 * x66)) + 1))).f2).toList = (strOfNums ((x0.take ((wrap64 (x6 + (rd x64 x66))) : Int).toNat).drop (x6 : Int).toNat)).toList then (laws_FnInputPieces.l1 k x0 (wrap64 (x6 + (rd x64 x66))) x9 x64 x65 (wrap64 (x66 + 1))) else (some false)) else (none)) else (none)) else (none)) else (none)) else (none)) else (none)) else (none)) else (some true)
end
def laws_FnInputPieces.f (k : Nat) (l0 : List Int) (l1 : List Int) : Option (Bool) := if (l0.length : Int) > 2147483647 then (laws_FnInputPieces.j0 k l0 l1 true) else (laws_FnInputPieces.j0 k l0 l1 (decide ((l1.length : Int) > 2147483647)))
theorem laws_FnInputPieces.mono_l : ∀ k, (∀ y0 y1 y2, LeO (laws_FnInputPieces.j0 k y0 y1 y2) (laws_FnInputPieces.j0 (k + 1) y0 y1 y2)) ∧ (∀ y0 y1 y2, LeO (laws_FnInputPieces.j1 k y0 y1 y2) (laws_FnInputPieces.j1 (k + 1) y0 y1 y2)) ∧ (∀ y0 y1 y2 y3 y4 y5 y6, LeO (laws_FnInputPieces.l0 k y0 y1 y2 y3 y4 y5 y6) (laws_FnInputPieces.l0 (k + 1) y0 y1 y2 y3 y4 y5 y6)) ∧ (∀ y0 y1 y2 y3 y4 y5, LeO (laws_FnInputPieces.l1 k y0 y1 y2 y3 y4 y5) (laws_FnInputPieces.l1 (k + 1) y0 y1 y2 y3 y4 y5))
  | 0 => ⟨fun _ _ _ r h => by simp [laws_FnInputPieces.j0] at h, fun _ _ _ r h => by simp [laws_FnInputPieces.j1] at h, fun _ _ _ _ _ _ _ r h => by simp [laws_FnInputPieces.l0] at h, fun _ _ _ _ _ _ r h => by simp [laws_FnInputPieces.l1] at h⟩
  | k + 1 => by
    obtain ⟨ih0, ih1, ih2, ih3⟩ := laws_FnInputPieces.mono_l k
    refine ⟨?_, ?_, ?_, ?_⟩
    · intro y0 y1 y2
      unfold laws_FnInputPieces.j0
      repeat' first
      | (with_reducible exact ih0 _ _ _)
      | (with_reducible exact ih1 _ _ _)
      | (with_reducible exact ih2 _ _ _ _ _ _ _)
      | (with_reducible exact ih3 _ _ _ _ _ _)
      | (with_reducible exact laws_fewBytes.mono _ _)
      | (with_reducible exact LeO.refl _)
      | (with_reducible exact LeO.none _)
      | (with_reducible refine LeO.ite ?_ ?_)
      | (with_reducible refine LeO.bind ?_ (fun _ => ?_))
      | exact ih0 _ _ _
      | exact ih1 _ _ _
      | exact ih2 _ _ _ _ _ _ _
      | exact ih3 _ _ _ _ _ _
      | exact laws_fewBytes.mono _ _
      | exact LeO.none _
      | refine LeO.ite ?_ ?_
      | refine LeO.bind ?_ (fun _ => ?_)
    · intro y0 y1 y2
      unfold laws_FnInputPieces.j1
      repeat' first
      | (with_reducible exact ih0 _ _ _)
      | (with_reducible exact ih1 _ _ _)
      | (with_reducible exact ih2 _ _ _ _ _ _ _)
      | (with_reducible exact ih3 _ _ _ _ _ _)
      | (with_reducible exact laws_fewBytes.mono _ _)
      | (with_reducible exact LeO.refl _)
      | (with_reducible exact LeO.none _)
      | (with_reducible refine LeO.ite ?_ ?_)
      | (with_reducible refine LeO.bind ?_ (fun _ => ?_))
      | exact ih0 _ _ _
      | exact ih1 _ _ _
      | exact ih2 _ _ _ _ _ _ _
      | exact ih3 _ _ _ _ _ _
      | exact laws_fewBytes.mono _ _
      | exact LeO.none _
      | refine LeO.ite ?_ ?_
      | refine LeO.bind ?_ (fun _ => ?_)
    · intro y0 y1 y2 y3 y4 y5 y6
      unfold laws_FnInputPieces.l0
      repeat' first
      | (with_reducible exact ih0 _ _ _)
      | (with_reducible exact ih1 _ _ _)
      | (with_reducible exact ih2 _ _ _ _ _ _ _)
      | (with_reducible exact ih3 _ _ _ _ _ _)
      | (with_reducible exact laws_fewBytes.mono _ _)
      | (with_reducible exact LeO.refl _)
      | (with_reducible exact LeO.none _)
      | (with_reducible refine LeO.ite ?_ ?_)
      | (with_reducible refine LeO.bind ?_ (fun _ => ?_))
      | exact ih0 _ _ _
      | exact ih1 _ _ _
      | exact ih2 _ _ _ _ _ _ _
      | exact ih3 _ _ _ _ _ _
      | exact laws_fewBytes.mono _ _
      | exact LeO.none _
      | refine LeO.ite ?_ ?_
      | refine LeO.bind ?_ (fun _ => ?_)
    · intro y0 y1 y2 y3 y4 y5
      unfold laws_FnInputPieces.l1
      repeat' first
      | (with_reducible exact ih0 _ _ _)
      | (with_reducible exact ih1 _ _ _)
      | (with_reducible exact ih2 _ _ _ _ _ _ _)
      | (with_reducible exact ih3 _ _ _ _ _ _)
      | (with_reducible exact laws_fewBytes.mono _ _)
      | (with_reducible exact LeO.refl _)
      | (with_reducible exact LeO.none _)
      | (with_reducible refine LeO.ite ?_ ?_)
      | (with_reducible refine LeO.bind ?_ (fun _ => ?_))
      | exact ih0 _ _ _
      | exact ih1 _ _ _
      | exact ih2 _ _ _ _ _ _ _
      | exact ih3 _ _ _ _ _ _
      | exact laws_fewBytes.mono _ _
      | exact LeO.none _
      | refine LeO.ite ?_ ?_
      | refine LeO.bind ?_ (fun _ => ?_)
theorem laws_FnInputPieces.mono : ∀ a0 a1 k, LeO (laws_FnInputPieces.f k a0 a1) (laws_FnInputPieces.f (k + 1) a0 a1) := by
  intro a0 a1 k
  obtain ⟨ih0, ih1, ih2, ih3⟩ := laws_FnInputPieces.mono_l k
  unfold laws_FnInputPieces.f
  repeat' first
      | (with_reducible exact ih0 _ _ _)
      | (with_reducible exact ih1 _ _ _)
      | (with_reducible exact ih2 _ _ _ _ _ _ _)
      | (with_reducible exact ih3 _ _ _ _ _ _)
      | (with_reducible exact laws_fewBytes.mono _ _)
      | (with_reducible exact LeO.refl _)
      | (with_reducible exact LeO.none _)
      | (with_reducible refine LeO.ite ?_ ?_)
      | (with_reducible refine LeO.bind ?_ (fun _ => ?_))
      | exact ih0 _ _ _
      | exact ih1 _ _ _
      | exact ih2 _ _ _ _ _ _ _
      | exact ih3 _ _ _ _ _ _
      | exact laws_fewBytes.mono _ _
      | exact LeO.none _
      | refine LeO.ite ?_ ?_
      | refine LeO.bind ?_ (fun _ => ?_)
set_option maxHeartbeats 8000000 in
set_option maxRecDepth 100000 in
theorem laws_FnInputPieces.calls (k : Nat) (P0_ : Nat → Prop) (A0 : Option Addr) (c0 : Nat) (l0 : List Int) (A1 : Option Addr) (c1 : Nat) (l1 : List Int) (r : Bool) (w : World) (hs0 : Kd.V (Kd.int .u8) 5 w w.heap.size (fun k_ => P0_ k_) (.slice A0 l0.length c0) l0) (hr1 : Kd.C (Kd.int .i64) w A1 l1.length l1) (hc1 : l1.length ≤ c1) (h : laws_FnInputPieces.f k l0 l1 = some r) :
    Calls Tryd.prog 6 #[.slice A0 l0.length c0, .slice A1 l1.length c1] w fun e w' => e = .returned (.bool r) ∧ Below w.heap.size w w' := by
  have hu44 := Tryd.underlying44
  have HO0 := Aside0.mk (show Kd.V (Kd.int .u8) 5 w w.heap.size (fun k_ => (P0_ k_ ∨ w.heap.size ≤ k_)) (.slice A0 l0.length c0) l0 from Kd.V_mono hs0 (fun k_ hk => .inl hk))
  have HR1 := Aside0.mk hr1
  have HC1 := Aside0.mk hc1
  clear hr1 hc1
  have HB := Aside0.mk (Below.refl w.heap.size w)
  have H : (if (l0.length : Int) > 2147483647 then (laws_FnInputPieces.j0 k l0 l1 true) else (laws_FnInputPieces.j0 k l0 l1 (decide ((l1.length : Int) > 2147483647)))) = some r := h
  clear h
  have HC3 := Aside0.mk H
  clear H
  go_enter Tryd.func6, Tryd.ntmps6
  go_upto_region 1 with (fail)
  repeat (go_quiet (fail); go_upto_region 1 with (fail))
  go_cut [19] (fun v19 wc => ∃ (kq : Nat) (x19_2 : Bool), v19 = .bool x19_2 ∧ Aside0 (laws_FnInputPieces.j0 kq l0 l1 x19_2 = some r) ∧ Aside0 (kq ≤ k) ∧ Aside0 (Kd.V (Kd.int .u8) 5 wc w.heap.size (fun k_ => (P0_ k_ ∨ w.heap.size ≤ k_)) (.slice A0 l0.length c0) l0) ∧ Aside0 (Below w.heap.size w wc))
  case first =>
    have H := HC3.out
    clear HC3
    by_cases c4 : (l0.length : Int) > 2147483647
    · rw [if_pos c4] at H
      have c4b0 : decide (2147483647 < (l0.length : Int)) = true := decide_eq_true c4
      have c4b1 : decide (2147483647 < l0.length) = true := decide_eq_true (by omega)
      clear c4
      (first | rw [c4b0] | (simp only [i64_w, i32_w]; rw [c4b0]) | skip)
      have H' := Aside0.mk H
      clear H
      go_wp2
      repeat (go_quiet (fail); try go_wp2)
      go_meet
      case rel => exact ⟨_, (true), (by first | rfl | (simp; done) | (simp [*]; done)), H', ⟨by first | omega | exact Nat.le_refl _⟩, ⟨by (with_reducible repeat (first | apply Kd.V_alloc | apply Kd.V_drewN | apply Kd.V_drew)); exact HO0.out⟩, ⟨by repeat (first | (with_reducible first | exact HB.out | apply below_alloc | apply pw_below_drewN | apply below_drew1) | exact HB.out)⟩⟩
    · rw [if_neg c4] at H
      have c4b0 : decide (2147483647 < (l0.length : Int)) = false := decide_eq_false c4
      have c4b1 : decide (2147483647 < l0.length) = false := decide_eq_false (by omega)
      clear c4
      (first | rw [c4b0] | (simp only [i64_w, i32_w]; rw [c4b0]) | skip)
      have H' := Aside0.mk H
      clear H
      go_wp2
      repeat (go_quiet (fail); try go_wp2)
      go_meet
      case rel => exact ⟨_, (decide ((l1.length : Int) > 2147483647)), (by first | rfl | (simp; done) | (simp [*]; done)), H', ⟨by first | omega | exact Nat.le_refl _⟩, ⟨by (with_reducible repeat (first | apply Kd.V_alloc | apply Kd.V_drewN | apply Kd.V_drew)); exact HO0.out⟩, ⟨by repeat (first | (with_reducible first | exact HB.out | apply below_alloc | apply pw_below_drewN | apply below_drew1) | exact HB.out)⟩⟩
  case rest =>
    clear HC3
    try clear c1
    try clear p2
    try clear c4
    try clear c4b0
    try clear c4b1
    obtain ⟨kq, x19_2, rfl, HA, HJ2, HO_0, HB⟩ := hcut
    cases kq with
    | zero => exact absurd HA.out (by simp [laws_FnInputPieces.j0])
    | succ kj2 =>
      have H := HA.out
      clear HA
      simp only [laws_FnInputPieces.j0] at H
      by_cases c5 : x19_2 = true
      · subst c5
        have H1 : (some true) = some r := by rw [if_pos rfl] at H; exact H
        clear H
        have H := H1
        clear H1
        obtain rfl := Option.some.inj H
        go_wp2
        repeat (go_quiet (fail); try go_wp2)
        go_ret
        exact ⟨by first | rfl | (simp [errW_none, errW_some] <;> rfl) | (simp [*, errW_none, errW_some] <;> rfl), by repeat (first | (with_reducible first | exact HB.out | apply below_alloc | apply pw_below_drewN | apply below_drew1) | exact HB.out)⟩
      · replace c5 := Bool.eq_false_iff.mpr c5
        subst c5
        have H1 : ((laws_fewBytes.f kj2 (([l0] : List (List Int)))).bind fun t114 => (if t114 = true then (laws_FnInputPieces.j1 kj2 l0 l1 (decide ((l1.length : Int) > 50))) else (laws_FnInputPieces.j1 kj2 l0 l1 true))) = some r := by rw [if_neg (show ¬ (false = true) by decide)] at H; exact H
        clear H
        have H := H1
        clear H1
        have HC6 := Aside0.mk H
        clear H
        go_upto_region 3 with (fail)
        repeat (go_quiet (fail); go_upto_region 3 with (fail))
        go_cut [28] (fun v28 wc => ∃ (kq : Nat) (x28_5 : Bool), v28 = .bool x28_5 ∧ Aside0 (laws_FnInputPieces.j1 kq l0 l1 x28_5 = some r) ∧ Aside0 (kq ≤ kj2) ∧ Aside0 (Kd.V (Kd.int .u8) 5 wc w.heap.size (fun k_ => (P0_ k_ ∨ w.heap.size ≤ k_)) (.slice A0 l0.length c0) l0) ∧ Aside0 (Below w.heap.size w wc))
        case first =>
          have H := HC6.out
          clear HC6
          obtain ⟨y111, hy111⟩ : ∃ y_ : List (List Int), y_ = (([l0] : List (List Int))) := ⟨_, rfl⟩
          replace H : ((laws_fewBytes.f kj2 y111).bind fun t114 => (if t114 = true then (laws_FnInputPieces.j1 kj2 l0 l1 (decide ((l1.length : Int) > 50))) else (laws_FnInputPieces.j1 kj2 l0 l1 true))) = some r := by first | (rw [hy111]; with_reducible exact H) | (have H2_ := (Option.bind_some _ _).symm.trans H; rw [hy111]; with_reducible exact H2_) | (have H2_ := (Option.bind_some _ _).symm.trans H; with_reducible exact H2_) | with_reducible exact H | (rw [hy111]; exact H) | exact H
          have Ny111 := Aside0.mk hy111
          clear hy111
          replace H := Option.bind_eq_some_iff.mp H
          obtain ⟨t114, A70, H⟩ := H
          replace H : (if t114 = true then (laws_FnInputPieces.j1 kj2 l0 l1 (decide ((l1.length : Int) > 50))) else (laws_FnInputPieces.j1 kj2 l0 l1 true)) = some r := H
          have A7 := Aside0.mk A70
          clear A70
          by_cases c8 : t114 = true
          · subst c8
            have H1 : (laws_FnInputPieces.j1 kj2 l0 l1 (decide ((l1.length : Int) > 50))) = some r := by rw [if_pos rfl] at H; exact H
            clear H
            have H := H1
            clear H1
            have H' := Aside0.mk H
            clear H
            go_wp2_with (first | ((with_reducible refine gate_dst (N := 21) rfl ?_); (try (refine gate_guard (by rfl) ?_; dsimp only)); refine Kd.N_lit (Kd.slice 5 (Kd.int .u8)) _ 22 ?hg (N' := 21) ?hd (xs := ([l0] : List (List Int))) (inner := [.slice A0 l0.length c0]) (ok := (fun k_ => (P0_ k_ ∨ w.heap.size ≤ k_))) (okp := (fun k_ => (P0_ k_ ∨ w.heap.size ≤ k_))) ?hr ?hp (fun _ hk => hk) ((show ∀ k_, wc.heap.size ≤ k_ → (fun k_ => (P0_ k_ ∨ w.heap.size ≤ k_)) k_ from fun k_ hk => (.inr (Nat.le_trans (below_size (by repeat (first | (with_reducible first | exact HB.out | apply below_alloc | apply pw_below_drewN | apply below_drew1) | exact HB.out))) hk))) _ (Nat.le_refl _)) (Below.refl _ _) (Nat.le_refl _) (by simp) ?_; (case hd => rfl); (case hg => rfl); (case hr => first | (go_simp; done) | (go_simp; rfl)); (case hp => first | exact (Reps.one (show Kd.FK (Kd.slice 5 (Kd.int .u8)) _ _ l0 [.slice A0 l0.length c0] from (Kd.FK_slice_mk (Kd.V_reads' (Kd.V_mono (ok' := (fun k_ => (P0_ k_ ∨ w.heap.size ≤ k_))) (HO_0.out) (fun k_ hk => hk))).2.1 (Kd.V_F (Kd.V_mono (ok' := (fun k_ => (P0_ k_ ∨ w.heap.size ≤ k_))) (HO_0.out) (fun k_ hk => hk))))) (Reps.none _ _)) | exact (Reps.one (show Kd.FK (Kd.slice 5 (Kd.int .u8)) _ _ l0 [.slice A0 l0.length c0] from (Kd.FK_slice_mk (Kd.V_reads' (Kd.V_mono (ok' := (fun k_ => (P0_ k_ ∨ w.heap.size ≤ k_))) (HO_0.out) (fun k_ hk => hk))).2.1 (Kd.V_F (Kd.V_mono (ok' := (fun k_ => (P0_ k_ ∨ w.heap.size ≤ k_))) ((Kd.V_drewN HO_0.out _)) (fun k_ hk => hk))))) (Reps.none _ _)) | exact (Reps.one (show Kd.FK (Kd.slice 5 (Kd.int .u8)) _ _ l0 [.slice A0 l0.length c0] from (Kd.FK_slice_mk (Kd.V_reads' (Kd.V_mono (ok' := (fun k_ => (P0_ k_ ∨ w.heap.size ≤ k_))) (HO_0.out) (fun k_ hk => hk))).2.1 (Kd.V_F (Kd.V_mono (ok' := (fun k_ => (P0_ k_ ∨ w.heap.size ≤ k_))) ((Kd.V_alloc HO_0.out _)) (fun k_ hk => hk))))) (Reps.none _ _)) | exact (Reps.one (show Kd.FK (Kd.slice 5 (Kd.int .u8)) _ _ l0 [.slice A0 l0.length c0] from (Kd.FK_slice_mk (Kd.V_reads' (Kd.V_mono (ok' := (fun k_ => (P0_ k_ ∨ w.heap.size ≤ k_))) (HO_0.out) (fun k_ hk => hk))).2.1 (Kd.V_F (Kd.V_mono (ok' := (fun k_ => (P0_ k_ ∨ w.heap.size ≤ k_))) ((by (with_reducible repeat (first | apply Kd.V_alloc | apply Kd.V_drewN | apply Kd.V_drew)); exact HO_0.out)) (fun k_ hk => hk))))) (Reps.none _ _))); intro v112 w9 ho10 hb hg_ hnew_; clear hg_ hnew_; (first | rw [← Ny111.out] at ho10 | (simp only [Int.reduceToNat] at ho10; rw [← Ny111.out] at ho10)); have n0_ := Aside0.mk (Kd.V_elder' (by (with_reducible repeat (first | apply Kd.V_alloc | apply Kd.V_drewN | apply Kd.V_drew)); exact HO_0.out) (Kd.N_base ho10) hb); have n1_ := Aside0.mk (Kd.N_lower ho10 (below_size (by repeat (first | (with_reducible first | exact HB.out | apply below_alloc | apply pw_below_drewN | apply below_drew1) | exact HB.out)))); have n2_ := Aside0.mk (below_step (by repeat (first | (with_reducible first | exact HB.out | apply below_alloc | apply pw_below_drewN | apply below_drew1) | exact HB.out)) hb); clear HO_0; clear HB; have HO_0 := n0_; have HO113 := n1_; have HB := n2_; clear n0_ n1_ n2_; clear hb ho10; obtain ⟨Ao11, co11, eo11⟩ := Kd.N_slice HO113.out; subst eo11) | (go_at_call 8; (with_reducible refine (laws_fewBytes.calls kj2 _ _ y111 true _ ?side1 ?side2 A7.out).mono ?_); (case side1 => repeat (first | exact (Kd.N_reads' HO113.out).2.2 | (with_reducible refine Kd.C_alloc ?_ _) | (with_reducible refine Kd.C_drewN ?_ _) | (with_reducible refine Kd.C_drew ?_))); (case side2 => exact (Kd.N_reads' HO113.out).2.1); rintro e w' ⟨rfl, ⟨nd, rfl⟩⟩; (try first | exact ⟨rfl, _, World.drewN_drewN _ _ _⟩ | exact ⟨rfl, _, Eq.trans (World.drewN_drewN _ _ _) (congrArg (World.drewN _) (Nat.add_assoc _ _ _))⟩)))
            repeat (go_quiet (first | ((with_reducible refine gate_dst (N := 21) rfl ?_); (try (refine gate_guard (by rfl) ?_; dsimp only)); refine Kd.N_lit (Kd.slice 5 (Kd.int .u8)) _ 22 ?hg (N' := 21) ?hd (xs := ([l0] : List (List Int))) (inner := [.slice A0 l0.length c0]) (ok := (fun k_ => (P0_ k_ ∨ w.heap.size ≤ k_))) (okp := (fun k_ => (P0_ k_ ∨ w.heap.size ≤ k_))) ?hr ?hp (fun _ hk => hk) ((show ∀ k_, wc.heap.size ≤ k_ → (fun k_ => (P0_ k_ ∨ w.heap.size ≤ k_)) k_ from fun k_ hk => (.inr (Nat.le_trans (below_size (by repeat (first | (with_reducible first | exact HB.out | apply below_alloc | apply pw_below_drewN | apply below_drew1) | exact HB.out))) hk))) _ (Nat.le_refl _)) (Below.refl _ _) (Nat.le_refl _) (by simp) ?_; (case hd => rfl); (case hg => rfl); (case hr => first | (go_simp; done) | (go_simp; rfl)); (case hp => first | exact (Reps.one (show Kd.FK (Kd.slice 5 (Kd.int .u8)) _ _ l0 [.slice A0 l0.length c0] from (Kd.FK_slice_mk (Kd.V_reads' (Kd.V_mono (ok' := (fun k_ => (P0_ k_ ∨ w.heap.size ≤ k_))) (HO_0.out) (fun k_ hk => hk))).2.1 (Kd.V_F (Kd.V_mono (ok' := (fun k_ => (P0_ k_ ∨ w.heap.size ≤ k_))) (HO_0.out) (fun k_ hk => hk))))) (Reps.none _ _)) | exact (Reps.one (show Kd.FK (Kd.slice 5 (Kd.int .u8)) _ _ l0 [.slice A0 l0.length c0] from (Kd.FK_slice_mk (Kd.V_reads' (Kd.V_mono (ok' := (fun k_ => (P0_ k_ ∨ w.heap.size ≤ k_))) (HO_0.out) (fun k_ hk => hk))).2.1 (Kd.V_F (Kd.V_mono (ok' := (fun k_ => (P0_ k_ ∨ w.heap.size ≤ k_))) ((Kd.V_drewN HO_0.out _)) (fun k_ hk => hk))))) (Reps.none _ _)) | exact (Reps.one (show Kd.FK (Kd.slice 5 (Kd.int .u8)) _ _ l0 [.slice A0 l0.length c0] from (Kd.FK_slice_mk (Kd.V_reads' (Kd.V_mono (ok' := (fun k_ => (P0_ k_ ∨ w.heap.size ≤ k_))) (HO_0.out) (fun k_ hk => hk))).2.1 (Kd.V_F (Kd.V_mono (ok' := (fun k_ => (P0_ k_ ∨ w.heap.size ≤ k_))) ((Kd.V_alloc HO_0.out _)) (fun k_ hk => hk))))) (Reps.none _ _)) | exact (Reps.one (show Kd.FK (Kd.slice 5 (Kd.int .u8)) _ _ l0 [.slice A0 l0.length c0] from (Kd.FK_slice_mk (Kd.V_reads' (Kd.V_mono (ok' := (fun k_ => (P0_ k_ ∨ w.heap.size ≤ k_))) (HO_0.out) (fun k_ hk => hk))).2.1 (Kd.V_F (Kd.V_mono (ok' := (fun k_ => (P0_ k_ ∨ w.heap.size ≤ k_))) ((by (with_reducible repeat (first | apply Kd.V_alloc | apply Kd.V_drewN | apply Kd.V_drew)); exact HO_0.out)) (fun k_ hk => hk))))) (Reps.none _ _))); intro v112 w9 ho10 hb hg_ hnew_; clear hg_ hnew_; (first | rw [← Ny111.out] at ho10 | (simp only [Int.reduceToNat] at ho10; rw [← Ny111.out] at ho10)); have n0_ := Aside0.mk (Kd.V_elder' (by (with_reducible repeat (first | apply Kd.V_alloc | apply Kd.V_drewN | apply Kd.V_drew)); exact HO_0.out) (Kd.N_base ho10) hb); have n1_ := Aside0.mk (Kd.N_lower ho10 (below_size (by repeat (first | (with_reducible first | exact HB.out | apply below_alloc | apply pw_below_drewN | apply below_drew1) | exact HB.out)))); have n2_ := Aside0.mk (below_step (by repeat (first | (with_reducible first | exact HB.out | apply below_alloc | apply pw_below_drewN | apply below_drew1) | exact HB.out)) hb); clear HO_0; clear HB; have HO_0 := n0_; have HO113 := n1_; have HB := n2_; clear n0_ n1_ n2_; clear hb ho10; obtain ⟨Ao11, co11, eo11⟩ := Kd.N_slice HO113.out; subst eo11) | (go_at_call 8; (with_reducible refine (laws_fewBytes.calls kj2 _ _ y111 true _ ?side1 ?side2 A7.out).mono ?_); (case side1 => repeat (first | exact (Kd.N_reads' HO113.out).2.2 | (with_reducible refine Kd.C_alloc ?_ _) | (with_reducible refine Kd.C_drewN ?_ _) | (with_reducible refine Kd.C_drew ?_))); (case side2 => exact (Kd.N_reads' HO113.out).2.1); rintro e w' ⟨rfl, ⟨nd, rfl⟩⟩; (try first | exact ⟨rfl, _, World.drewN_drewN _ _ _⟩ | exact ⟨rfl, _, Eq.trans (World.drewN_drewN _ _ _) (congrArg (World.drewN _) (Nat.add_assoc _ _ _))⟩))); try go_wp2_with (first | ((with_reducible refine gate_dst (N := 21) rfl ?_); (try (refine gate_guard (by rfl) ?_; dsimp only)); refine Kd.N_lit (Kd.slice 5 (Kd.int .u8)) _ 22 ?hg (N' := 21) ?hd (xs := ([l0] : List (List Int))) (inner := [.slice A0 l0.length c0]) (ok := (fun k_ => (P0_ k_ ∨ w.heap.size ≤ k_))) (okp := (fun k_ => (P0_ k_ ∨ w.heap.size ≤ k_))) ?hr ?hp (fun _ hk => hk) ((show ∀ k_, wc.heap.size ≤ k_ → (fun k_ => (P0_ k_ ∨ w.heap.size ≤ k_)) k_ from fun k_ hk => (.inr (Nat.le_trans (below_size (by repeat (first | (with_reducible first | exact HB.out | apply below_alloc | apply pw_below_drewN | apply below_drew1) | exact HB.out))) hk))) _ (Nat.le_refl _)) (Below.refl _ _) (Nat.le_refl _) (by simp) ?_; (case hd => rfl); (case hg => rfl); (case hr => first | (go_simp; done) | (go_simp; rfl)); (case hp => first | exact (Reps.one (show Kd.FK (Kd.slice 5 (Kd.int .u8)) _ _ l0 [.slice A0 l0.length c0] from (Kd.FK_slice_mk (Kd.V_reads' (Kd.V_mono (ok' := (fun k_ => (P0_ k_ ∨ w.heap.size ≤ k_))) (HO_0.out) (fun k_ hk => hk))).2.1 (Kd.V_F (Kd.V_mono (ok' := (fun k_ => (P0_ k_ ∨ w.heap.size ≤ k_))) (HO_0.out) (fun k_ hk => hk))))) (Reps.none _ _)) | exact (Reps.one (show Kd.FK (Kd.slice 5 (Kd.int .u8)) _ _ l0 [.slice A0 l0.length c0] from (Kd.FK_slice_mk (Kd.V_reads' (Kd.V_mono (ok' := (fun k_ => (P0_ k_ ∨ w.heap.size ≤ k_))) (HO_0.out) (fun k_ hk => hk))).2.1 (Kd.V_F (Kd.V_mono (ok' := (fun k_ => (P0_ k_ ∨ w.heap.size ≤ k_))) ((Kd.V_drewN HO_0.out _)) (fun k_ hk => hk))))) (Reps.none _ _)) | exact (Reps.one (show Kd.FK (Kd.slice 5 (Kd.int .u8)) _ _ l0 [.slice A0 l0.length c0] from (Kd.FK_slice_mk (Kd.V_reads' (Kd.V_mono (ok' := (fun k_ => (P0_ k_ ∨ w.heap.size ≤ k_))) (HO_0.out) (fun k_ hk => hk))).2.1 (Kd.V_F (Kd.V_mono (ok' := (fun k_ => (P0_ k_ ∨ w.heap.size ≤ k_))) ((Kd.V_alloc HO_0.out _)) (fun k_ hk => hk))))) (Reps.none _ _)) | exact (Reps.one (show Kd.FK (Kd.slice 5 (Kd.int .u8)) _ _ l0 [.slice A0 l0.length c0] from (Kd.FK_slice_mk (Kd.V_reads' (Kd.V_mono (ok' := (fun k_ => (P0_ k_ ∨ w.heap.size ≤ k_))) (HO_0.out) (fun k_ hk => hk))).2.1 (Kd.V_F (Kd.V_mono (ok' := (fun k_ => (P0_ k_ ∨ w.heap.size ≤ k_))) ((by (with_reducible repeat (first | apply Kd.V_alloc | apply Kd.V_drewN | apply Kd.V_drew)); exact HO_0.out)) (fun k_ hk => hk))))) (Reps.none _ _))); intro v112 w9 ho10 hb hg_ hnew_; clear hg_ hnew_; (first | rw [← Ny111.out] at ho10 | (simp only [Int.reduceToNat] at ho10; rw [← Ny111.out] at ho10)); have n0_ := Aside0.mk (Kd.V_elder' (by (with_reducible repeat (first | apply Kd.V_alloc | apply Kd.V_drewN | apply Kd.V_drew)); exact HO_0.out) (Kd.N_base ho10) hb); have n1_ := Aside0.mk (Kd.N_lower ho10 (below_size (by repeat (first | (with_reducible first | exact HB.out | apply below_alloc | apply pw_below_drewN | apply below_drew1) | exact HB.out)))); have n2_ := Aside0.mk (below_step (by repeat (first | (with_reducible first | exact HB.out | apply below_alloc | apply pw_below_drewN | apply below_drew1) | exact HB.out)) hb); clear HO_0; clear HB; have HO_0 := n0_; have HO113 := n1_; have HB := n2_; clear n0_ n1_ n2_; clear hb ho10; obtain ⟨Ao11, co11, eo11⟩ := Kd.N_slice HO113.out; subst eo11) | (go_at_call 8; (with_reducible refine (laws_fewBytes.calls kj2 _ _ y111 true _ ?side1 ?side2 A7.out).mono ?_); (case side1 => repeat (first | exact (Kd.N_reads' HO113.out).2.2 | (with_reducible refine Kd.C_alloc ?_ _) | (with_reducible refine Kd.C_drewN ?_ _) | (with_reducible refine Kd.C_drew ?_))); (case side2 => exact (Kd.N_reads' HO113.out).2.1); rintro e w' ⟨rfl, ⟨nd, rfl⟩⟩; (try first | exact ⟨rfl, _, World.drewN_drewN _ _ _⟩ | exact ⟨rfl, _, Eq.trans (World.drewN_drewN _ _ _) (congrArg (World.drewN _) (Nat.add_assoc _ _ _))⟩))))
            go_meet
            case rel => exact ⟨_, (decide ((l1.length : Int) > 50)), (by first | rfl | (simp; done) | (simp [*]; done)), H', ⟨by have := HJ2.out; first | omega | exact Nat.le_refl _⟩, ⟨by (with_reducible repeat (first | apply Kd.V_alloc | apply Kd.V_drewN | apply Kd.V_drew)); exact Kd.V_mono HO_0.out (fun _ hk => hk.1)⟩, ⟨by repeat (first | (with_reducible first | exact HB.out | apply below_alloc | apply pw_below_drewN | apply below_drew1) | exact HB.out)⟩⟩
          · replace c8 := Bool.eq_false_iff.mpr c8
            subst c8
            have H1 : (laws_FnInputPieces.j1 kj2 l0 l1 true) = some r := by rw [if_neg (show ¬ (false = true) by decide)] at H; exact H
            clear H
            have H := H1
            clear H1
            have H' := Aside0.mk H
            clear H
            go_wp2_with (first | ((with_reducible refine gate_dst (N := 21) rfl ?_); (try (refine gate_guard (by rfl) ?_; dsimp only)); refine Kd.N_lit (Kd.slice 5 (Kd.int .u8)) _ 22 ?hg (N' := 21) ?hd (xs := ([l0] : List (List Int))) (inner := [.slice A0 l0.length c0]) (ok := (fun k_ => (P0_ k_ ∨ w.heap.size ≤ k_))) (okp := (fun k_ => (P0_ k_ ∨ w.heap.size ≤ k_))) ?hr ?hp (fun _ hk => hk) ((show ∀ k_, wc.heap.size ≤ k_ → (fun k_ => (P0_ k_ ∨ w.heap.size ≤ k_)) k_ from fun k_ hk => (.inr (Nat.le_trans (below_size (by repeat (first | (with_reducible first | exact HB.out | apply below_alloc | apply pw_below_drewN | apply below_drew1) | exact HB.out))) hk))) _ (Nat.le_refl _)) (Below.refl _ _) (Nat.le_refl _) (by simp) ?_; (case hd => rfl); (case hg => rfl); (case hr => first | (go_simp; done) | (go_simp; rfl)); (case hp => first | exact (Reps.one (show Kd.FK (Kd.slice 5 (Kd.int .u8)) _ _ l0 [.slice A0 l0.length c0] from (Kd.FK_slice_mk (Kd.V_reads' (Kd.V_mono (ok' := (fun k_ => (P0_ k_ ∨ w.heap.size ≤ k_))) (HO_0.out) (fun k_ hk => hk))).2.1 (Kd.V_F (Kd.V_mono (ok' := (fun k_ => (P0_ k_ ∨ w.heap.size ≤ k_))) (HO_0.out) (fun k_ hk => hk))))) (Reps.none _ _)) | exact (Reps.one (show Kd.FK (Kd.slice 5 (Kd.int .u8)) _ _ l0 [.slice A0 l0.length c0] from (Kd.FK_slice_mk (Kd.V_reads' (Kd.V_mono (ok' := (fun k_ => (P0_ k_ ∨ w.heap.size ≤ k_))) (HO_0.out) (fun k_ hk => hk))).2.1 (Kd.V_F (Kd.V_mono (ok' := (fun k_ => (P0_ k_ ∨ w.heap.size ≤ k_))) ((Kd.V_drewN HO_0.out _)) (fun k_ hk => hk))))) (Reps.none _ _)) | exact (Reps.one (show Kd.FK (Kd.slice 5 (Kd.int .u8)) _ _ l0 [.slice A0 l0.length c0] from (Kd.FK_slice_mk (Kd.V_reads' (Kd.V_mono (ok' := (fun k_ => (P0_ k_ ∨ w.heap.size ≤ k_))) (HO_0.out) (fun k_ hk => hk))).2.1 (Kd.V_F (Kd.V_mono (ok' := (fun k_ => (P0_ k_ ∨ w.heap.size ≤ k_))) ((Kd.V_alloc HO_0.out _)) (fun k_ hk => hk))))) (Reps.none _ _)) | exact (Reps.one (show Kd.FK (Kd.slice 5 (Kd.int .u8)) _ _ l0 [.slice A0 l0.length c0] from (Kd.FK_slice_mk (Kd.V_reads' (Kd.V_mono (ok' := (fun k_ => (P0_ k_ ∨ w.heap.size ≤ k_))) (HO_0.out) (fun k_ hk => hk))).2.1 (Kd.V_F (Kd.V_mono (ok' := (fun k_ => (P0_ k_ ∨ w.heap.size ≤ k_))) ((by (with_reducible repeat (first | apply Kd.V_alloc | apply Kd.V_drewN | apply Kd.V_drew)); exact HO_0.out)) (fun k_ hk => hk))))) (Reps.none _ _))); intro v112 w12 ho13 hb hg_ hnew_; clear hg_ hnew_; (first | rw [← Ny111.out] at ho13 | (simp only [Int.reduceToNat] at ho13; rw [← Ny111.out] at ho13)); have n0_ := Aside0.mk (Kd.V_elder' (by (with_reducible repeat (first | apply Kd.V_alloc | apply Kd.V_drewN | apply Kd.V_drew)); exact HO_0.out) (Kd.N_base ho13) hb); have n1_ := Aside0.mk (Kd.N_lower ho13 (below_size (by repeat (first | (with_reducible first | exact HB.out | apply below_alloc | apply pw_below_drewN | apply below_drew1) | exact HB.out)))); have n2_ := Aside0.mk (below_step (by repeat (first | (with_reducible first | exact HB.out | apply below_alloc | apply pw_below_drewN | apply below_drew1) | exact HB.out)) hb); clear HO_0; clear HB; have HO_0 := n0_; have HO113 := n1_; have HB := n2_; clear n0_ n1_ n2_; clear hb ho13; obtain ⟨Ao14, co14, eo14⟩ := Kd.N_slice HO113.out; subst eo14) | (go_at_call 8; (with_reducible refine (laws_fewBytes.calls kj2 _ _ y111 false _ ?side1 ?side2 A7.out).mono ?_); (case side1 => repeat (first | exact (Kd.N_reads' HO113.out).2.2 | (with_reducible refine Kd.C_alloc ?_ _) | (with_reducible refine Kd.C_drewN ?_ _) | (with_reducible refine Kd.C_drew ?_))); (case side2 => exact (Kd.N_reads' HO113.out).2.1); rintro e w' ⟨rfl, ⟨nd, rfl⟩⟩; (try first | exact ⟨rfl, _, World.drewN_drewN _ _ _⟩ | exact ⟨rfl, _, Eq.trans (World.drewN_drewN _ _ _) (congrArg (World.drewN _) (Nat.add_assoc _ _ _))⟩)))
            repeat (go_quiet (first | ((with_reducible refine gate_dst (N := 21) rfl ?_); (try (refine gate_guard (by rfl) ?_; dsimp only)); refine Kd.N_lit (Kd.slice 5 (Kd.int .u8)) _ 22 ?hg (N' := 21) ?hd (xs := ([l0] : List (List Int))) (inner := [.slice A0 l0.length c0]) (ok := (fun k_ => (P0_ k_ ∨ w.heap.size ≤ k_))) (okp := (fun k_ => (P0_ k_ ∨ w.heap.size ≤ k_))) ?hr ?hp (fun _ hk => hk) ((show ∀ k_, wc.heap.size ≤ k_ → (fun k_ => (P0_ k_ ∨ w.heap.size ≤ k_)) k_ from fun k_ hk => (.inr (Nat.le_trans (below_size (by repeat (first | (with_reducible first | exact HB.out | apply below_alloc | apply pw_below_drewN | apply below_drew1) | exact HB.out))) hk))) _ (Nat.le_refl _)) (Below.refl _ _) (Nat.le_refl _) (by simp) ?_; (case hd => rfl); (case hg => rfl); (case hr => first | (go_simp; done) | (go_simp; rfl)); (case hp => first | exact (Reps.one (show Kd.FK (Kd.slice 5 (Kd.int .u8)) _ _ l0 [.slice A0 l0.length c0] from (Kd.FK_slice_mk (Kd.V_reads' (Kd.V_mono (ok' := (fun k_ => (P0_ k_ ∨ w.heap.size ≤ k_))) (HO_0.out) (fun k_ hk => hk))).2.1 (Kd.V_F (Kd.V_mono (ok' := (fun k_ => (P0_ k_ ∨ w.heap.size ≤ k_))) (HO_0.out) (fun k_ hk => hk))))) (Reps.none _ _)) | exact (Reps.one (show Kd.FK (Kd.slice 5 (Kd.int .u8)) _ _ l0 [.slice A0 l0.length c0] from (Kd.FK_slice_mk (Kd.V_reads' (Kd.V_mono (ok' := (fun k_ => (P0_ k_ ∨ w.heap.size ≤ k_))) (HO_0.out) (fun k_ hk => hk))).2.1 (Kd.V_F (Kd.V_mono (ok' := (fun k_ => (P0_ k_ ∨ w.heap.size ≤ k_))) ((Kd.V_drewN HO_0.out _)) (fun k_ hk => hk))))) (Reps.none _ _)) | exact (Reps.one (show Kd.FK (Kd.slice 5 (Kd.int .u8)) _ _ l0 [.slice A0 l0.length c0] from (Kd.FK_slice_mk (Kd.V_reads' (Kd.V_mono (ok' := (fun k_ => (P0_ k_ ∨ w.heap.size ≤ k_))) (HO_0.out) (fun k_ hk => hk))).2.1 (Kd.V_F (Kd.V_mono (ok' := (fun k_ => (P0_ k_ ∨ w.heap.size ≤ k_))) ((Kd.V_alloc HO_0.out _)) (fun k_ hk => hk))))) (Reps.none _ _)) | exact (Reps.one (show Kd.FK (Kd.slice 5 (Kd.int .u8)) _ _ l0 [.slice A0 l0.length c0] from (Kd.FK_slice_mk (Kd.V_reads' (Kd.V_mono (ok' := (fun k_ => (P0_ k_ ∨ w.heap.size ≤ k_))) (HO_0.out) (fun k_ hk => hk))).2.1 (Kd.V_F (Kd.V_mono (ok' := (fun k_ => (P0_ k_ ∨ w.heap.size ≤ k_))) ((by (with_reducible repeat (first | apply Kd.V_alloc | apply Kd.V_drewN | apply Kd.V_drew)); exact HO_0.out)) (fun k_ hk => hk))))) (Reps.none _ _))); intro v112 w12 ho13 hb hg_ hnew_; clear hg_ hnew_; (first | rw [← Ny111.out] at ho13 | (simp only [Int.reduceToNat] at ho13; rw [← Ny111.out] at ho13)); have n0_ := Aside0.mk (Kd.V_elder' (by (with_reducible repeat (first | apply Kd.V_alloc | apply Kd.V_drewN | apply Kd.V_drew)); exact HO_0.out) (Kd.N_base ho13) hb); have n1_ := Aside0.mk (Kd.N_lower ho13 (below_size (by repeat (first | (with_reducible first | exact HB.out | apply below_alloc | apply pw_below_drewN | apply below_drew1) | exact HB.out)))); have n2_ := Aside0.mk (below_step (by repeat (first | (with_reducible first | exact HB.out | apply below_alloc | apply pw_below_drewN | apply below_drew1) | exact HB.out)) hb); clear HO_0; clear HB; have HO_0 := n0_; have HO113 := n1_; have HB := n2_; clear n0_ n1_ n2_; clear hb ho13; obtain ⟨Ao14, co14, eo14⟩ := Kd.N_slice HO113.out; subst eo14) | (go_at_call 8; (with_reducible refine (laws_fewBytes.calls kj2 _ _ y111 false _ ?side1 ?side2 A7.out).mono ?_); (case side1 => repeat (first | exact (Kd.N_reads' HO113.out).2.2 | (with_reducible refine Kd.C_alloc ?_ _) | (with_reducible refine Kd.C_drewN ?_ _) | (with_reducible refine Kd.C_drew ?_))); (case side2 => exact (Kd.N_reads' HO113.out).2.1); rintro e w' ⟨rfl, ⟨nd, rfl⟩⟩; (try first | exact ⟨rfl, _, World.drewN_drewN _ _ _⟩ | exact ⟨rfl, _, Eq.trans (World.drewN_drewN _ _ _) (congrArg (World.drewN _) (Nat.add_assoc _ _ _))⟩))); try go_wp2_with (first | ((with_reducible refine gate_dst (N := 21) rfl ?_); (try (refine gate_guard (by rfl) ?_; dsimp only)); refine Kd.N_lit (Kd.slice 5 (Kd.int .u8)) _ 22 ?hg (N' := 21) ?hd (xs := ([l0] : List (List Int))) (inner := [.slice A0 l0.length c0]) (ok := (fun k_ => (P0_ k_ ∨ w.heap.size ≤ k_))) (okp := (fun k_ => (P0_ k_ ∨ w.heap.size ≤ k_))) ?hr ?hp (fun _ hk => hk) ((show ∀ k_, wc.heap.size ≤ k_ → (fun k_ => (P0_ k_ ∨ w.heap.size ≤ k_)) k_ from fun k_ hk => (.inr (Nat.le_trans (below_size (by repeat (first | (with_reducible first | exact HB.out | apply below_alloc | apply pw_below_drewN | apply below_drew1) | exact HB.out))) hk))) _ (Nat.le_refl _)) (Below.refl _ _) (Nat.le_refl _) (by simp) ?_; (case hd => rfl); (case hg => rfl); (case hr => first | (go_simp; done) | (go_simp; rfl)); (case hp => first | exact (Reps.one (show Kd.FK (Kd.slice 5 (Kd.int .u8)) _ _ l0 [.slice A0 l0.length c0] from (Kd.FK_slice_mk (Kd.V_reads' (Kd.V_mono (ok' := (fun k_ => (P0_ k_ ∨ w.heap.size ≤ k_))) (HO_0.out) (fun k_ hk => hk))).2.1 (Kd.V_F (Kd.V_mono (ok' := (fun k_ => (P0_ k_ ∨ w.heap.size ≤ k_))) (HO_0.out) (fun k_ hk => hk))))) (Reps.none _ _)) | exact (Reps.one (show Kd.FK (Kd.slice 5 (Kd.int .u8)) _ _ l0 [.slice A0 l0.length c0] from (Kd.FK_slice_mk (Kd.V_reads' (Kd.V_mono (ok' := (fun k_ => (P0_ k_ ∨ w.heap.size ≤ k_))) (HO_0.out) (fun k_ hk => hk))).2.1 (Kd.V_F (Kd.V_mono (ok' := (fun k_ => (P0_ k_ ∨ w.heap.size ≤ k_))) ((Kd.V_drewN HO_0.out _)) (fun k_ hk => hk))))) (Reps.none _ _)) | exact (Reps.one (show Kd.FK (Kd.slice 5 (Kd.int .u8)) _ _ l0 [.slice A0 l0.length c0] from (Kd.FK_slice_mk (Kd.V_reads' (Kd.V_mono (ok' := (fun k_ => (P0_ k_ ∨ w.heap.size ≤ k_))) (HO_0.out) (fun k_ hk => hk))).2.1 (Kd.V_F (Kd.V_mono (ok' := (fun k_ => (P0_ k_ ∨ w.heap.size ≤ k_))) ((Kd.V_alloc HO_0.out _)) (fun k_ hk => hk))))) (Reps.none _ _)) | exact (Reps.one (show Kd.FK (Kd.slice 5 (Kd.int .u8)) _ _ l0 [.slice A0 l0.length c0] from (Kd.FK_slice_mk (Kd.V_reads' (Kd.V_mono (ok' := (fun k_ => (P0_ k_ ∨ w.heap.size ≤ k_))) (HO_0.out) (fun k_ hk => hk))).2.1 (Kd.V_F (Kd.V_mono (ok' := (fun k_ => (P0_ k_ ∨ w.heap.size ≤ k_))) ((by (with_reducible repeat (first | apply Kd.V_alloc | apply Kd.V_drewN | apply Kd.V_drew)); exact HO_0.out)) (fun k_ hk => hk))))) (Reps.none _ _))); intro v112 w12 ho13 hb hg_ hnew_; clear hg_ hnew_; (first | rw [← Ny111.out] at ho13 | (simp only [Int.reduceToNat] at ho13; rw [← Ny111.out] at ho13)); have n0_ := Aside0.mk (Kd.V_elder' (by (with_reducible repeat (first | apply Kd.V_alloc | apply Kd.V_drewN | apply Kd.V_drew)); exact HO_0.out) (Kd.N_base ho13) hb); have n1_ := Aside0.mk (Kd.N_lower ho13 (below_size (by repeat (first | (with_reducible first | exact HB.out | apply below_alloc | apply pw_below_drewN | apply below_drew1) | exact HB.out)))); have n2_ := Aside0.mk (below_step (by repeat (first | (with_reducible first | exact HB.out | apply below_alloc | apply pw_below_drewN | apply below_drew1) | exact HB.out)) hb); clear HO_0; clear HB; have HO_0 := n0_; have HO113 := n1_; have HB := n2_; clear n0_ n1_ n2_; clear hb ho13; obtain ⟨Ao14, co14, eo14⟩ := Kd.N_slice HO113.out; subst eo14) | (go_at_call 8; (with_reducible refine (laws_fewBytes.calls kj2 _ _ y111 false _ ?side1 ?side2 A7.out).mono ?_); (case side1 => repeat (first | exact (Kd.N_reads' HO113.out).2.2 | (with_reducible refine Kd.C_alloc ?_ _) | (with_reducible refine Kd.C_drewN ?_ _) | (with_reducible refine Kd.C_drew ?_))); (case side2 => exact (Kd.N_reads' HO113.out).2.1); rintro e w' ⟨rfl, ⟨nd, rfl⟩⟩; (try first | exact ⟨rfl, _, World.drewN_drewN _ _ _⟩ | exact ⟨rfl, _, Eq.trans (World.drewN_drewN _ _ _) (congrArg (World.drewN _) (Nat.add_assoc _ _ _))⟩))))
            go_meet
            case rel => exact ⟨_, (true), (by first | rfl | (simp; done) | (simp [*]; done)), H', ⟨by have := HJ2.out; first | omega | exact Nat.le_refl _⟩, ⟨by (with_reducible repeat (first | apply Kd.V_alloc | apply Kd.V_drewN | apply Kd.V_drew)); exact Kd.V_mono HO_0.out (fun _ hk => hk.1)⟩, ⟨by repeat (first | (with_reducible first | exact HB.out | apply below_alloc | apply pw_below_drewN | apply below_drew1) | exact HB.out)⟩⟩
        case rest =>
          clear HC6
          try clear c1
          try clear p2
          try clear c4
          try clear c4b0
          try clear c4b1
          try clear c5
          try clear c6
          try clear c8
          try clear p2
          obtain ⟨kq, x28_5, rfl, HA, HJ5, HO_0, HB⟩ := hcut
          cases kq with
          | zero => exact absurd HA.out (by simp [laws_FnInputPieces.j1])
          | succ kj5 =>
            have H := HA.out
            clear HA
            simp only [laws_FnInputPieces.j1] at H
            by_cases c15 : x28_5 = true
            · subst c15
              have H1 : (some true) = some r := by rw [if_pos rfl] at H; exact H
              clear H
              have H := H1
              clear H1
              obtain rfl := Option.some.inj H
              go_wp2
              repeat (go_quiet (fail); try go_wp2)
              go_ret
              exact ⟨by first | rfl | (simp [errW_none, errW_some] <;> rfl) | (simp [*, errW_none, errW_some] <;> rfl), by repeat (first | (with_reducible first | exact HB.out | apply below_alloc | apply pw_below_drewN | apply below_drew1) | exact HB.out)⟩
            · replace c15 := Bool.eq_false_iff.mpr c15
              subst c15
              have H1 : (laws_FnInputPieces.l0 kj5 l0 l1 (([] : List (S44))) 0 l1 (l1.length : Int) 0) = some r := by rw [if_neg (show ¬ (false = true) by decide)] at H; exact H
              clear H
              have H := H1
              clear H1
              obtain ⟨y115, hy115⟩ : ∃ y_ : List (S44), y_ = (([] : List (S44))) := ⟨_, rfl⟩
              replace H : (laws_FnInputPieces.l0 kj5 l0 l1 y115 0 l1 (l1.length : Int) 0) = some r := by first | (rw [hy115]; with_reducible exact H) | (have H2_ := (Option.bind_some _ _).symm.trans H; rw [hy115]; with_reducible exact H2_) | (have H2_ := (Option.bind_some _ _).symm.trans H; with_reducible exact H2_) | with_reducible exact H | (rw [hy115]; exact H) | exact H
              have Ny115 := Aside0.mk hy115
              clear hy115
              have H' := Aside0.mk H
              clear H
              go_wp2_with (first | ((with_reducible refine gate_dst (N := 29) rfl ?_); (try (refine gate_guard (by rfl) ?_; dsimp only)); refine Kd.R_lit k44 _ 44 ?hg (N := 29) ?hd (xs := ([] : List (S44))) (inner := []) (ok := fun _ => True) (okp := fun _ => True) ?hr ?hp (fun _ hk => hk) trivial (Below.refl _ _) (Nat.le_refl _) (by simp) ?_; (case hd => rfl); (case hg => rfl); (case hr => first | (go_simp; done) | (go_simp; rfl)); (case hp => exact (Reps.none _ _)); intro v116 w16 ho17 hb hg_ hnew_; clear hg_ hnew_; (first | rw [← Ny115.out] at ho17 | (simp only [Int.reduceToNat] at ho17; rw [← Ny115.out] at ho17)); have n0_ := Aside0.mk (Kd.V_elder' (by (with_reducible repeat (first | apply Kd.V_alloc | apply Kd.V_drewN | apply Kd.V_drew)); exact HO_0.out) (Kd.R_base ho17) hb); have n1_ := Aside0.mk (Kd.R_lower (Kd.R_newM (M := fun k_ => (w.heap.size ≤ k_)) ho17 (below_size (by repeat (first | (with_reducible first | exact HB.out | apply below_alloc | apply pw_below_drewN | apply below_drew1) | exact HB.out))) (fun k_ h_ => h_)) (below_size (by repeat (first | (with_reducible first | exact HB.out | apply below_alloc | apply pw_below_drewN | apply below_drew1) | exact HB.out)))); have n2_ := Aside0.mk (below_step (by repeat (first | (with_reducible first | exact HB.out | apply below_alloc | apply pw_below_drewN | apply below_drew1) | exact HB.out)) hb); clear HO_0; clear HB; have HO_0 := n0_; have HO117 := n1_; have HB := n2_; clear n0_ n1_ n2_; clear hb ho17))
              repeat (go_quiet (first | ((with_reducible refine gate_dst (N := 29) rfl ?_); (try (refine gate_guard (by rfl) ?_; dsimp only)); refine Kd.R_lit k44 _ 44 ?hg (N := 29) ?hd (xs := ([] : List (S44))) (inner := []) (ok := fun _ => True) (okp := fun _ => True) ?hr ?hp (fun _ hk => hk) trivial (Below.refl _ _) (Nat.le_refl _) (by simp) ?_; (case hd => rfl); (case hg => rfl); (case hr => first | (go_simp; done) | (go_simp; rfl)); (case hp => exact (Reps.none _ _)); intro v116 w16 ho17 hb hg_ hnew_; clear hg_ hnew_; (first | rw [← Ny115.out] at ho17 | (simp only [Int.reduceToNat] at ho17; rw [← Ny115.out] at ho17)); have n0_ := Aside0.mk (Kd.V_elder' (by (with_reducible repeat (first | apply Kd.V_alloc | apply Kd.V_drewN | apply Kd.V_drew)); exact HO_0.out) (Kd.R_base ho17) hb); have n1_ := Aside0.mk (Kd.R_lower (Kd.R_newM (M := fun k_ => (w.heap.size ≤ k_)) ho17 (below_size (by repeat (first | (with_reducible first | exact HB.out | apply below_alloc | apply pw_below_drewN | apply below_drew1) | exact HB.out))) (fun k_ h_ => h_)) (below_size (by repeat (first | (with_reducible first | exact HB.out | apply below_alloc | apply pw_below_drewN | apply below_drew1) | exact HB.out)))); have n2_ := Aside0.mk (below_step (by repeat (first | (with_reducible first | exact HB.out | apply below_alloc | apply pw_below_drewN | apply below_drew1) | exact HB.out)) hb); clear HO_0; clear HB; have HO_0 := n0_; have HO117 := n1_; have HB := n2_; clear n0_ n1_ n2_; clear hb ho17)); try go_wp2_with (first | ((with_reducible refine gate_dst (N := 29) rfl ?_); (try (refine gate_guard (by rfl) ?_; dsimp only)); refine Kd.R_lit k44 _ 44 ?hg (N := 29) ?hd (xs := ([] : List (S44))) (inner := []) (ok := fun _ => True) (okp := fun _ => True) ?hr ?hp (fun _ hk => hk) trivial (Below.refl _ _) (Nat.le_refl _) (by simp) ?_; (case hd => rfl); (case hg => rfl); (case hr => first | (go_simp; done) | (go_simp; rfl)); (case hp => exact (Reps.none _ _)); intro v116 w16 ho17 hb hg_ hnew_; clear hg_ hnew_; (first | rw [← Ny115.out] at ho17 | (simp only [Int.reduceToNat] at ho17; rw [← Ny115.out] at ho17)); have n0_ := Aside0.mk (Kd.V_elder' (by (with_reducible repeat (first | apply Kd.V_alloc | apply Kd.V_drewN | apply Kd.V_drew)); exact HO_0.out) (Kd.R_base ho17) hb); have n1_ := Aside0.mk (Kd.R_lower (Kd.R_newM (M := fun k_ => (w.heap.size ≤ k_)) ho17 (below_size (by repeat (first | (with_reducible first | exact HB.out | apply below_alloc | apply pw_below_drewN | apply below_drew1) | exact HB.out))) (fun k_ h_ => h_)) (below_size (by repeat (first | (with_reducible first | exact HB.out | apply below_alloc | apply pw_below_drewN | apply below_drew1) | exact HB.out)))); have n2_ := Aside0.mk (below_step (by repeat (first | (with_reducible first | exact HB.out | apply below_alloc | apply pw_below_drewN | apply below_drew1) | exact HB.out)) hb); clear HO_0; clear HB; have HO_0 := n0_; have HO117 := n1_; have HB := n2_; clear n0_ n1_ n2_; clear hb ho17)))
              go_loopg [5, 6, 32] kj5 (fun kq v5 v6 v32 w' => ∃ (x5_3 : List (S44)) (x6_3 : Int) (x32_3 : Int), v6 = .int .i64 x6_3 ∧ v32 = .int .i64 x32_3 ∧ Aside0 (laws_FnInputPieces.l0 kq l0 l1 x5_3 x6_3 l1 (l1.length : Int) x32_3 = some r) ∧ Aside0 (kq ≤ kj5) ∧ Aside0 (Kd.V (Kd.int .u8) 5 w' w.heap.size (fun k_ => (P0_ k_ ∨ w.heap.size ≤ k_) ∧ some k_ ≠ (v5 : Value).ownBlock) (.slice A0 l0.length c0) l0) ∧ Aside0 (Kd.R k44 44 w' w.heap.size (fun k_ => (w.heap.size ≤ k_)) v5 x5_3) ∧ Aside0 (Below w.heap.size w w'))
              case atStart => exact ⟨(y115), (0), (0), (by first | rfl | (simp; done) | (simp [*]; done)), (by first | rfl | (simp; done) | (simp [*]; done)), H', ⟨Nat.le_refl _⟩, ⟨by (with_reducible repeat (first | apply Kd.V_alloc | apply Kd.V_drewN | apply Kd.V_drew)); exact HO_0.out⟩, ⟨by (with_reducible repeat (first | apply Kd.R_alloc | apply Kd.R_drewN | apply Kd.R_drew)); exact Kd.R_mono HO117.out (fun _ hk => hk.1)⟩, ⟨by repeat (first | (with_reducible first | exact HB.out | apply below_alloc | apply pw_below_drewN | apply below_drew1) | exact HB.out)⟩⟩
              case round =>
                clear H'
                try clear c1
                try clear p2
                try clear c4
                try clear c4b0
                try clear c4b1
                try clear c5
                try clear c6
                try clear c8
                try clear c15
                try clear p2
                obtain ⟨x5_3, x6_3, x32_3, rfl, rfl, HA, HK3, HO_0, HO_5, HB⟩ := hrel
                cases gk with
                | zero => exact absurd HA.out (by simp [laws_FnInputPieces.l0])
                | succ k3 =>
                  have H := HA.out
                  clear HA
                  simp only [laws_FnInputPieces.l0] at H
                  by_cases c18 : x32_3 < (l1.length : Int)
                  · rw [if_pos c18] at H
                    have c18b0 : decide (x32_3 < (l1.length : Int)) = true := decide_eq_true c18
                    clear c18
                    by_cases c19 : 0 ≤ x32_3
                    · rw [if_pos c19] at H
                      have c19b0 : decide (0 ≤ x32_3) = true := decide_eq_true c19
                      clear c19
                      by_cases c20 : x32_3 < (l1.length : Int)
                      · rw [if_pos c20] at H
                        have c20b0 : decide (x32_3 < (l1.length : Int)) = true := decide_eq_true c20
                        clear c20
                        by_cases c21 : (rd l1 x32_3) < 0
                        · rw [if_pos c21] at H
                          have c21b0 : decide ((rd l1 x32_3) < 0) = true := decide_eq_true c21
                          clear c21
                          obtain rfl := Option.some.inj H
                          have p118 : 0 ≤ (x32_3 : Int) := of_decide_eq_true (by first | (with_reducible assumption) | assumption)
                          have q118 : x32_3 < (l1.length : Int) := of_decide_eq_true (by first | (with_reducible assumption) | assumption)
                          obtain ⟨ad118, e118, hx118_0⟩ := Kd.at_int HR1.out x32_3 p118 q118
                          cases e118
                          replace hx118_0 := (HB.out.cell (World.block_lt_of_cell? w _ hx118_0)).trans hx118_0
                          replace p118 := eq_true p118
                          replace q118 := eq_true q118
                          go_wp2
                          repeat (go_quiet (fail); try go_wp2)
                          go_ret
                          exact ⟨by first | rfl | (simp [errW_none, errW_some] <;> rfl) | (simp [*, errW_none, errW_some] <;> rfl), by repeat (first | (with_reducible first | exact HB.out | apply below_alloc | apply pw_below_drewN | apply below_drew1) | exact HB.out)⟩
                        · rw [if_neg c21] at H
                          have c21b0 : decide ((rd l1 x32_3) < 0) = false := decide_eq_false c21
                          clear c21
                          by_cases c22 : (rd l1 x32_3) > (wrap64 ((l0.length : Int) - x6_3))
                          · rw [if_pos c22] at H
                            have c22b0 : decide ((wrap64 ((l0.length : Int) - x6_3)) < (rd l1 x32_3)) = true := decide_eq_true c22
                            clear c22
                            obtain rfl := Option.some.inj H
                            have p118 : 0 ≤ (x32_3 : Int) := of_decide_eq_true (by first | (with_reducible assumption) | assumption)
                            have q118 : x32_3 < (l1.length : Int) := of_decide_eq_true (by first | (with_reducible assumption) | assumption)
                            obtain ⟨ad118, e118, hx118_0⟩ := Kd.at_int HR1.out x32_3 p118 q118
                            cases e118
                            replace hx118_0 := (HB.out.cell (World.block_lt_of_cell? w _ hx118_0)).trans hx118_0
                            replace p118 := eq_true p118
                            replace q118 := eq_true q118
                            go_wp2
                            repeat (go_quiet (fail); try go_wp2)
                            go_ret
                            exact ⟨by first | rfl | (simp [errW_none, errW_some] <;> rfl) | (simp [*, errW_none, errW_some] <;> rfl), by repeat (first | (with_reducible first | exact HB.out | apply below_alloc | apply pw_below_drewN | apply below_drew1) | exact HB.out)⟩
                          · rw [if_neg c22] at H
                            have c22b0 : decide ((wrap64 ((l0.length : Int) - x6_3)) < (rd l1 x32_3)) = false := decide_eq_false c22
                            clear c22
                            obtain ⟨y119, hy119⟩ : ∃ y_ : List (S44), y_ = (([(⟨0, rd l1 x32_3⟩ : S44), (⟨2, 0⟩ : S44)] : List (S44))) := ⟨_, rfl⟩
                            replace H : (if x5_3.length + y119.length < 8796093022208 then (laws_FnInputPieces.l0 k3 l0 l1 (x5_3 ++ y119) (wrap64 (x6_3 + (rd l1 x32_3))) l1 (l1.length : Int) (wrap64 (x32_3 + 1))) else (none)) = some r := by first | (rw [hy119]; with_reducible exact H) | (have H2_ := (Option.bind_some _ _).symm.trans H; rw [hy119]; with_reducible exact H2_) | (have H2_ := (Option.bind_some _ _).symm.trans H; with_reducible exact H2_) | with_reducible exact H | (rw [hy119]; exact H) | exact H
                            have Ny119 := Aside0.mk hy119
                            clear hy119
                            by_cases c23 : x5_3.length + y119.length < 8796093022208
                            · rw [if_pos c23] at H
                              have LMc23 := Aside0.mk c23
                              clear c23
                              obtain ⟨y122, hy122⟩ : ∃ y_ : List (S44), y_ = (x5_3 ++ y119) := ⟨_, rfl⟩
                              replace H : (laws_FnInputPieces.l0 k3 l0 l1 y122 (wrap64 (x6_3 + (rd l1 x32_3))) l1 (l1.length : Int) (wrap64 (x32_3 + 1))) = some r := by first | (rw [hy122]; with_reducible exact H) | (have H2_ := (Option.bind_some _ _).symm.trans H; rw [hy122]; with_reducible exact H2_) | (have H2_ := (Option.bind_some _ _).symm.trans H; with_reducible exact H2_) | with_reducible exact H | (rw [hy122]; exact H) | exact H
                              have Ny122 := Aside0.mk hy122
                              clear hy122
                              have H' := Aside0.mk H
                              clear H
                              have p118 : 0 ≤ (x32_3 : Int) := of_decide_eq_true (by first | (with_reducible assumption) | assumption)
                              have q118 : x32_3 < (l1.length : Int) := of_decide_eq_true (by first | (with_reducible assumption) | assumption)
                              obtain ⟨ad118, e118, hx118_0⟩ := Kd.at_int HR1.out x32_3 p118 q118
                              cases e118
                              replace hx118_0 := (HB.out.cell (World.block_lt_of_cell? w _ hx118_0)).trans hx118_0
                              replace p118 := eq_true p118
                              replace q118 := eq_true q118
                              go_wp2_with (first | ((with_reducible refine gate_dst (N := 53) rfl ?_); (try (refine gate_guard (by rfl) ?_; dsimp only)); refine Kd.R_lit k44 _ 44 ?hg (N := 53) ?hd (xs := ([(⟨0, rd l1 x32_3⟩ : S44), (⟨2, 0⟩ : S44)] : List (S44))) (inner := [.int .i64 0, .int .i64 (rd l1 x32_3), .int .i64 2, .int .i64 0]) (ok := fun _ => True) (okp := fun _ => True) ?hr ?hp (fun _ hk => hk) trivial (Below.refl _ _) (Nat.le_refl _) (by simp) ?_; (case hd => rfl); (case hg => rfl); (case hr => first | (go_simp; done) | (go_simp; rfl)); (case hp => exact (Reps.c2 (show Kd.M k44 _ _ _ (⟨0, rd l1 x32_3⟩ : S44) [.int .i64 0, .int .i64 (rd l1 x32_3)] from (k44_mkM _ _ _ (⟨0, rd l1 x32_3⟩ : S44) )) (Reps.c2 (show Kd.M k44 _ _ _ (⟨2, 0⟩ : S44) [.int .i64 2, .int .i64 0] from (k44_mkM _ _ _ (⟨2, 0⟩ : S44) )) (Reps.none _ _)))); intro v120 w24 ho25 hb hg_ hnew_; clear hg_ hnew_; (first | rw [← Ny119.out] at ho25 | (simp only [Int.reduceToNat] at ho25; rw [← Ny119.out] at ho25)); have n0_ := Aside0.mk (Kd.V_elder' (by (with_reducible repeat (first | apply Kd.V_alloc | apply Kd.V_drewN | apply Kd.V_drew)); exact HO_0.out) (Kd.R_base ho25) hb); have n1_ := Aside0.mk (Kd.R_elder' (by (with_reducible repeat (first | apply Kd.R_alloc | apply Kd.R_drewN | apply Kd.R_drew)); exact HO_5.out) (Kd.R_base ho25) hb); have n2_ := Aside0.mk (Kd.R_lower (Kd.R_new' (Kd.R_newM (M := fun k_ => (w.heap.size ≤ k_)) ho25 (below_size (by repeat (first | (with_reducible first | exact HB.out | apply below_alloc | apply pw_below_drewN | apply below_drew1) | exact HB.out))) (fun k_ h_ => h_)) (Kd.R_lt (by (with_reducible repeat (first | apply Kd.R_alloc | apply Kd.R_drewN | apply Kd.R_drew)); exact HO_5.out))) (below_size (by repeat (first | (with_reducible first | exact HB.out | apply below_alloc | apply pw_below_drewN | apply below_drew1) | exact HB.out)))); have n3_ := Aside0.mk (below_step (by repeat (first | (with_reducible first | exact HB.out | apply below_alloc | apply pw_below_drewN | apply below_drew1) | exact HB.out)) hb); clear HO_0; clear HO_5; clear HB; have HO_0 := n0_; have HO_5 := n1_; have HO121 := n2_; have HB := n3_; clear n0_ n1_ n2_ n3_; clear hb ho25; obtain ⟨Ao27, co27, eo27⟩ := Kd.R_slice HO121.out; subst eo27) | ((with_reducible refine gate_builtin (b := .append) (xs := #[.tmp 49, .tmp 53]) rfl ?_); (try (refine gate_guard (by rfl) ?_; dsimp only)); at_builtin; refine Kd.R_append_rows k44 (w0 := w) w.heap.size rfl (.tmp 49) (.tmp 53) 35 44 (.agg #[(.int .i64 0), (.int .i64 0)]) 16 rfl Tryd.underlying35 info44 rfl (by decide) (by omega) u5 x5_3 y119 _ _ _ (fun k_ => (w.heap.size ≤ k_) ∧ some k_ ≠ (.slice Ao27 y119.length co27 : Value).ownBlock) (fun _ => False) rfl rfl ?aO ?aR (fun _ _ h => h) (fun _ h => h.elim) ?aF ?aB ?aS ?aL ?_; (case aR => repeat (first | exact (Kd.R_reads' HO121.out).2.2 | (with_reducible refine Kd.C_alloc ?_ _) | (with_reducible refine Kd.C_drewN ?_ _) | (with_reducible refine Kd.C_drew ?_))); (case aB => exact (by repeat (first | (with_reducible first | exact HB.out | apply below_alloc | apply pw_below_drewN | apply below_drew1) | exact HB.out))); (case aF => exact (fun k_ hk => ⟨(Nat.le_trans (below_size (by repeat (first | (with_reducible first | exact HB.out | apply below_alloc | apply pw_below_drewN | apply below_drew1) | exact HB.out))) hk), Kd.fresh' (Kd.R_lt (by (with_reducible repeat (first | apply Kd.R_alloc | apply Kd.R_drewN | apply Kd.R_drew)); exact HO121.out)) k_ hk⟩)); (case aO => exact (by (with_reducible repeat (first | apply Kd.R_alloc | apply Kd.R_drewN | apply Kd.R_drew)); exact HO_5.out)); (case aS => exact (below_size (by repeat (first | (with_reducible first | exact HB.out | apply below_alloc | apply pw_below_drewN | apply below_drew1) | exact HB.out)))); (case aL => have := LMc23.out; omega); intro v123 w26 ho hb hg hat; rw [← Ny122.out] at ho; have n0_ := Aside0.mk (Kd.V_afterv (ok := (fun k_ => (P0_ k_ ∨ w.heap.size ≤ k_) ∧ some k_ ≠ (.slice Ao27 y119.length co27 : Value).ownBlock)) (by (with_reducible repeat (first | apply Kd.V_alloc | apply Kd.V_drewN | apply Kd.V_drew)); exact Kd.V_mono HO_0.out (fun _ hk => ⟨⟨hk.1.1, hk.2⟩, hk.1.2⟩)) hg hat); have n1_ := Aside0.mk (Kd.R_after (ok := (fun k_ => (w.heap.size ≤ k_))) (by (with_reducible repeat (first | apply Kd.R_alloc | apply Kd.R_drewN | apply Kd.R_drew)); exact Kd.R_mono HO121.out (fun _ hk => ⟨hk.1.1, hk.2⟩)) hg hat); have n2_ := Aside0.mk (hb); have n3_ := Aside0.mk (ho); clear HO_0; clear HO121; clear HB; clear HO_5; have HO_0 := n0_; have HO121 := n1_; have HB := n2_; have HO124 := n3_; clear n0_ n1_ n2_ n3_; clear ho hb hg hat))
                              repeat (go_quiet (first | ((with_reducible refine gate_dst (N := 53) rfl ?_); (try (refine gate_guard (by rfl) ?_; dsimp only)); refine Kd.R_lit k44 _ 44 ?hg (N := 53) ?hd (xs := ([(⟨0, rd l1 x32_3⟩ : S44), (⟨2, 0⟩ : S44)] : List (S44))) (inner := [.int .i64 0, .int .i64 (rd l1 x32_3), .int .i64 2, .int .i64 0]) (ok := fun _ => True) (okp := fun _ => True) ?hr ?hp (fun _ hk => hk) trivial (Below.refl _ _) (Nat.le_refl _) (by simp) ?_; (case hd => rfl); (case hg => rfl); (case hr => first | (go_simp; done) | (go_simp; rfl)); (case hp => exact (Reps.c2 (show Kd.M k44 _ _ _ (⟨0, rd l1 x32_3⟩ : S44) [.int .i64 0, .int .i64 (rd l1 x32_3)] from (k44_mkM _ _ _ (⟨0, rd l1 x32_3⟩ : S44) )) (Reps.c2 (show Kd.M k44 _ _ _ (⟨2, 0⟩ : S44) [.int .i64 2, .int .i64 0] from (k44_mkM _ _ _ (⟨2, 0⟩ : S44) )) (Reps.none _ _)))); intro v120 w24 ho25 hb hg_ hnew_; clear hg_ hnew_; (first | rw [← Ny119.out] at ho25 | (simp only [Int.reduceToNat] at ho25; rw [← Ny119.out] at ho25)); have n0_ := Aside0.mk (Kd.V_elder' (by (with_reducible repeat (first | apply Kd.V_alloc | apply Kd.V_drewN | apply Kd.V_drew)); exact HO_0.out) (Kd.R_base ho25) hb); have n1_ := Aside0.mk (Kd.R_elder' (by (with_reducible repeat (first | apply Kd.R_alloc | apply Kd.R_drewN | apply Kd.R_drew)); exact HO_5.out) (Kd.R_base ho25) hb); have n2_ := Aside0.mk (Kd.R_lower (Kd.R_new' (Kd.R_newM (M := fun k_ => (w.heap.size ≤ k_)) ho25 (below_size (by repeat (first | (with_reducible first | exact HB.out | apply below_alloc | apply pw_below_drewN | apply below_drew1) | exact HB.out))) (fun k_ h_ => h_)) (Kd.R_lt (by (with_reducible repeat (first | apply Kd.R_alloc | apply Kd.R_drewN | apply Kd.R_drew)); exact HO_5.out))) (below_size (by repeat (first | (with_reducible first | exact HB.out | apply below_alloc | apply pw_below_drewN | apply below_drew1) | exact HB.out)))); have n3_ := Aside0.mk (below_step (by repeat (first | (with_reducible first | exact HB.out | apply below_alloc | apply pw_below_drewN | apply below_drew1) | exact HB.out)) hb); clear HO_0; clear HO_5; clear HB; have HO_0 := n0_; have HO_5 := n1_; have HO121 := n2_; have HB := n3_; clear n0_ n1_ n2_ n3_; clear hb ho25; obtain ⟨Ao27, co27, eo27⟩ := Kd.R_slice HO121.out; subst eo27) | ((with_reducible refine gate_builtin (b := .append) (xs := #[.tmp 49, .tmp 53]) rfl ?_); (try (refine gate_guard (by rfl) ?_; dsimp only)); at_builtin; refine Kd.R_append_rows k44 (w0 := w) w.heap.size rfl (.tmp 49) (.tmp 53) 35 44 (.agg #[(.int .i64 0), (.int .i64 0)]) 16 rfl Tryd.underlying35 info44 rfl (by decide) (by omega) u5 x5_3 y119 _ _ _ (fun k_ => (w.heap.size ≤ k_) ∧ some k_ ≠ (.slice Ao27 y119.length co27 : Value).ownBlock) (fun _ => False) rfl rfl ?aO ?aR (fun _ _ h => h) (fun _ h => h.elim) ?aF ?aB ?aS ?aL ?_; (case aR => repeat (first | exact (Kd.R_reads' HO121.out).2.2 | (with_reducible refine Kd.C_alloc ?_ _) | (with_reducible refine Kd.C_drewN ?_ _) | (with_reducible refine Kd.C_drew ?_))); (case aB => exact (by repeat (first | (with_reducible first | exact HB.out | apply below_alloc | apply pw_below_drewN | apply below_drew1) | exact HB.out))); (case aF => exact (fun k_ hk => ⟨(Nat.le_trans (below_size (by repeat (first | (with_reducible first | exact HB.out | apply below_alloc | apply pw_below_drewN | apply below_drew1) | exact HB.out))) hk), Kd.fresh' (Kd.R_lt (by (with_reducible repeat (first | apply Kd.R_alloc | apply Kd.R_drewN | apply Kd.R_drew)); exact HO121.out)) k_ hk⟩)); (case aO => exact (by (with_reducible repeat (first | apply Kd.R_alloc | apply Kd.R_drewN | apply Kd.R_drew)); exact HO_5.out)); (case aS => exact (below_size (by repeat (first | (with_reducible first | exact HB.out | apply below_alloc | apply pw_below_drewN | apply below_drew1) | exact HB.out)))); (case aL => have := LMc23.out; omega); intro v123 w26 ho hb hg hat; rw [← Ny122.out] at ho; have n0_ := Aside0.mk (Kd.V_afterv (ok := (fun k_ => (P0_ k_ ∨ w.heap.size ≤ k_) ∧ some k_ ≠ (.slice Ao27 y119.length co27 : Value).ownBlock)) (by (with_reducible repeat (first | apply Kd.V_alloc | apply Kd.V_drewN | apply Kd.V_drew)); exact Kd.V_mono HO_0.out (fun _ hk => ⟨⟨hk.1.1, hk.2⟩, hk.1.2⟩)) hg hat); have n1_ := Aside0.mk (Kd.R_after (ok := (fun k_ => (w.heap.size ≤ k_))) (by (with_reducible repeat (first | apply Kd.R_alloc | apply Kd.R_drewN | apply Kd.R_drew)); exact Kd.R_mono HO121.out (fun _ hk => ⟨hk.1.1, hk.2⟩)) hg hat); have n2_ := Aside0.mk (hb); have n3_ := Aside0.mk (ho); clear HO_0; clear HO121; clear HB; clear HO_5; have HO_0 := n0_; have HO121 := n1_; have HB := n2_; have HO124 := n3_; clear n0_ n1_ n2_ n3_; clear ho hb hg hat)); try go_wp2_with (first | ((with_reducible refine gate_dst (N := 53) rfl ?_); (try (refine gate_guard (by rfl) ?_; dsimp only)); refine Kd.R_lit k44 _ 44 ?hg (N := 53) ?hd (xs := ([(⟨0, rd l1 x32_3⟩ : S44), (⟨2, 0⟩ : S44)] : List (S44))) (inner := [.int .i64 0, .int .i64 (rd l1 x32_3), .int .i64 2, .int .i64 0]) (ok := fun _ => True) (okp := fun _ => True) ?hr ?hp (fun _ hk => hk) trivial (Below.refl _ _) (Nat.le_refl _) (by simp) ?_; (case hd => rfl); (case hg => rfl); (case hr => first | (go_simp; done) | (go_simp; rfl)); (case hp => exact (Reps.c2 (show Kd.M k44 _ _ _ (⟨0, rd l1 x32_3⟩ : S44) [.int .i64 0, .int .i64 (rd l1 x32_3)] from (k44_mkM _ _ _ (⟨0, rd l1 x32_3⟩ : S44) )) (Reps.c2 (show Kd.M k44 _ _ _ (⟨2, 0⟩ : S44) [.int .i64 2, .int .i64 0] from (k44_mkM _ _ _ (⟨2, 0⟩ : S44) )) (Reps.none _ _)))); intro v120 w24 ho25 hb hg_ hnew_; clear hg_ hnew_; (first | rw [← Ny119.out] at ho25 | (simp only [Int.reduceToNat] at ho25; rw [← Ny119.out] at ho25)); have n0_ := Aside0.mk (Kd.V_elder' (by (with_reducible repeat (first | apply Kd.V_alloc | apply Kd.V_drewN | apply Kd.V_drew)); exact HO_0.out) (Kd.R_base ho25) hb); have n1_ := Aside0.mk (Kd.R_elder' (by (with_reducible repeat (first | apply Kd.R_alloc | apply Kd.R_drewN | apply Kd.R_drew)); exact HO_5.out) (Kd.R_base ho25) hb); have n2_ := Aside0.mk (Kd.R_lower (Kd.R_new' (Kd.R_newM (M := fun k_ => (w.heap.size ≤ k_)) ho25 (below_size (by repeat (first | (with_reducible first | exact HB.out | apply below_alloc | apply pw_below_drewN | apply below_drew1) | exact HB.out))) (fun k_ h_ => h_)) (Kd.R_lt (by (with_reducible repeat (first | apply Kd.R_alloc | apply Kd.R_drewN | apply Kd.R_drew)); exact HO_5.out))) (below_size (by repeat (first | (with_reducible first | exact HB.out | apply below_alloc | apply pw_below_drewN | apply below_drew1) | exact HB.out)))); have n3_ := Aside0.mk (below_step (by repeat (first | (with_reducible first | exact HB.out | apply below_alloc | apply pw_below_drewN | apply below_drew1) | exact HB.out)) hb); clear HO_0; clear HO_5; clear HB; have HO_0 := n0_; have HO_5 := n1_; have HO121 := n2_; have HB := n3_; clear n0_ n1_ n2_ n3_; clear hb ho25; obtain ⟨Ao27, co27, eo27⟩ := Kd.R_slice HO121.out; subst eo27) | ((with_reducible refine gate_builtin (b := .append) (xs := #[.tmp 49, .tmp 53]) rfl ?_); (try (refine gate_guard (by rfl) ?_; dsimp only)); at_builtin; refine Kd.R_append_rows k44 (w0 := w) w.heap.size rfl (.tmp 49) (.tmp 53) 35 44 (.agg #[(.int .i64 0), (.int .i64 0)]) 16 rfl Tryd.underlying35 info44 rfl (by decide) (by omega) u5 x5_3 y119 _ _ _ (fun k_ => (w.heap.size ≤ k_) ∧ some k_ ≠ (.slice Ao27 y119.length co27 : Value).ownBlock) (fun _ => False) rfl rfl ?aO ?aR (fun _ _ h => h) (fun _ h => h.elim) ?aF ?aB ?aS ?aL ?_; (case aR => repeat (first | exact (Kd.R_reads' HO121.out).2.2 | (with_reducible refine Kd.C_alloc ?_ _) | (with_reducible refine Kd.C_drewN ?_ _) | (with_reducible refine Kd.C_drew ?_))); (case aB => exact (by repeat (first | (with_reducible first | exact HB.out | apply below_alloc | apply pw_below_drewN | apply below_drew1) | exact HB.out))); (case aF => exact (fun k_ hk => ⟨(Nat.le_trans (below_size (by repeat (first | (with_reducible first | exact HB.out | apply below_alloc | apply pw_below_drewN | apply below_drew1) | exact HB.out))) hk), Kd.fresh' (Kd.R_lt (by (with_reducible repeat (first | apply Kd.R_alloc | apply Kd.R_drewN | apply Kd.R_drew)); exact HO121.out)) k_ hk⟩)); (case aO => exact (by (with_reducible repeat (first | apply Kd.R_alloc | apply Kd.R_drewN | apply Kd.R_drew)); exact HO_5.out)); (case aS => exact (below_size (by repeat (first | (with_reducible first | exact HB.out | apply below_alloc | apply pw_below_drewN | apply below_drew1) | exact HB.out)))); (case aL => have := LMc23.out; omega); intro v123 w26 ho hb hg hat; rw [← Ny122.out] at ho; have n0_ := Aside0.mk (Kd.V_afterv (ok := (fun k_ => (P0_ k_ ∨ w.heap.size ≤ k_) ∧ some k_ ≠ (.slice Ao27 y119.length co27 : Value).ownBlock)) (by (with_reducible repeat (first | apply Kd.V_alloc | apply Kd.V_drewN | apply Kd.V_drew)); exact Kd.V_mono HO_0.out (fun _ hk => ⟨⟨hk.1.1, hk.2⟩, hk.1.2⟩)) hg hat); have n1_ := Aside0.mk (Kd.R_after (ok := (fun k_ => (w.heap.size ≤ k_))) (by (with_reducible repeat (first | apply Kd.R_alloc | apply Kd.R_drewN | apply Kd.R_drew)); exact Kd.R_mono HO121.out (fun _ hk => ⟨hk.1.1, hk.2⟩)) hg hat); have n2_ := Aside0.mk (hb); have n3_ := Aside0.mk (ho); clear HO_0; clear HO121; clear HB; clear HO_5; have HO_0 := n0_; have HO121 := n1_; have HB := n2_; have HO124 := n3_; clear n0_ n1_ n2_ n3_; clear ho hb hg hat)))
                              go_roundg k3
                              case measure => have := HJ2.out; have := HJ5.out; have := HK3.out; omega
                              case rel => exact ⟨(y122), (wrap64 (x6_3 + (rd l1 x32_3))), (wrap64 (x32_3 + 1)), (by first | rfl | (simp; done) | (simp [*]; done)), (by first | rfl | (simp; done) | (simp [*]; done)), H', ⟨by have := HJ2.out; have := HJ5.out; have := HK3.out; omega⟩, ⟨by (with_reducible repeat (first | apply Kd.V_alloc | apply Kd.V_drewN | apply Kd.V_drew)); exact Kd.V_mono HO_0.out (fun _ hk => ⟨hk.1.1, hk.2⟩)⟩, ⟨by (with_reducible repeat (first | apply Kd.R_alloc | apply Kd.R_drewN | apply Kd.R_drew)); exact Kd.R_mono HO124.out (fun _ hk => hk.1)⟩, ⟨by repeat (first | (with_reducible first | exact HB.out | apply below_alloc | apply pw_below_drewN | apply below_drew1) | exact HB.out)⟩⟩
                            · rw [if_neg c23] at H
                              exact absurd H (by simp)
                      · rw [if_neg c20] at H
                        exact absurd H (by simp)
                    · rw [if_neg c19] at H
                      exact absurd H (by simp)
                  · rw [if_neg c18] at H
                    have c18b0 : decide (x32_3 < (l1.length : Int)) = false := decide_eq_false c18
                    clear c18
                    replace H := Option.bind_eq_some_iff.mp H
                    obtain ⟨t125, A280, H⟩ := H
                    replace H : (if (t125.length : Int) = (x5_3.length : Int) then (laws_FnInputPieces.l1 k3 l0 0 t125 l1 (l1.length : Int) 0) else (some false)) = some r := H
                    have A28 := Aside0.mk A280
                    clear A280
                    by_cases c29 : (t125.length : Int) = (x5_3.length : Int)
                    · rw [if_pos c29] at H
                      have c29b0 : ((t125.length : Int) == (x5_3.length : Int)) = true := beq_iff_eq.mpr c29
                      have c29b1 : ((t125.length : Int) != (x5_3.length : Int)) = false := bne_eq_false_iff_eq.mpr c29
                      have c29b2 : (t125.length == x5_3.length) = true := by first | simpa using c29 | (simp at c29 ⊢; omega)
                      clear c29
                      have H' := Aside0.mk H
                      clear H
                      obtain ⟨Ao30, co30, eo30⟩ := Kd.R_slice HO_5.out
                      subst eo30
                      go_wp2_with (first | (go_at_call 18; (with_reducible refine (impl_RunInput.calls _ _ l0 _ _ x5_3 t125 _ ?side1 ?side2 ?side3 ?side4 A28.out).mono ?_); (case side1 => repeat (first | exact (Kd.V_reads' HO_0.out).2.2 | (with_reducible refine Kd.C_alloc ?_ _) | (with_reducible refine Kd.C_drewN ?_ _) | (with_reducible refine Kd.C_drew ?_))); (case side2 => exact (Kd.V_reads' HO_0.out).2.1); (case side3 => repeat (first | exact (Kd.R_reads' HO_5.out).2.2 | (with_reducible refine Kd.C_alloc ?_ _) | (with_reducible refine Kd.C_drewN ?_ _) | (with_reducible refine Kd.C_drew ?_))); (case side4 => exact (Kd.R_reads' HO_5.out).2.1); rintro e w31 ⟨v126, rfl, ho0, hb⟩; have n0_ := Aside0.mk (Kd.V_elder' (by (with_reducible repeat (first | apply Kd.V_alloc | apply Kd.V_drewN | apply Kd.V_drew)); exact HO_0.out) (Kd.R_base ho0) hb); have n1_ := Aside0.mk (Kd.R_below (by (with_reducible repeat (first | apply Kd.R_alloc | apply Kd.R_drewN | apply Kd.R_drew)); exact HO_5.out) hb); have n2_ := Aside0.mk (Kd.R_lower (Kd.R_newM (M := fun k_ => (w.heap.size ≤ k_)) ho0 (below_size (by repeat (first | (with_reducible first | exact HB.out | apply below_alloc | apply pw_below_drewN | apply below_drew1) | exact HB.out))) (fun k_ h_ => h_)) (below_size (by repeat (first | (with_reducible first | exact HB.out | apply below_alloc | apply pw_below_drewN | apply below_drew1) | exact HB.out)))); have n3_ := Aside0.mk (below_step (by repeat (first | (with_reducible first | exact HB.out | apply below_alloc | apply pw_below_drewN | apply below_drew1) | exact HB.out)) hb); clear HO_0; clear HO_5; clear HB; have HO_0 := n0_; have HO_5 := n1_; have HO127 := n2_; have HB := n3_; clear n0_ n1_ n2_ n3_; (try clear hb); (try clear hb2); (try clear hk); (try clear hi); (try clear ho0); obtain ⟨Ao32, co32, eo32⟩ := Kd.R_slice HO127.out; subst eo32))
                      repeat (go_quiet (first | (go_at_call 18; (with_reducible refine (impl_RunInput.calls _ _ l0 _ _ x5_3 t125 _ ?side1 ?side2 ?side3 ?side4 A28.out).mono ?_); (case side1 => repeat (first | exact (Kd.V_reads' HO_0.out).2.2 | (with_reducible refine Kd.C_alloc ?_ _) | (with_reducible refine Kd.C_drewN ?_ _) | (with_reducible refine Kd.C_drew ?_))); (case side2 => exact (Kd.V_reads' HO_0.out).2.1); (case side3 => repeat (first | exact (Kd.R_reads' HO_5.out).2.2 | (with_reducible refine Kd.C_alloc ?_ _) | (with_reducible refine Kd.C_drewN ?_ _) | (with_reducible refine Kd.C_drew ?_))); (case side4 => exact (Kd.R_reads' HO_5.out).2.1); rintro e w31 ⟨v126, rfl, ho0, hb⟩; have n0_ := Aside0.mk (Kd.V_elder' (by (with_reducible repeat (first | apply Kd.V_alloc | apply Kd.V_drewN | apply Kd.V_drew)); exact HO_0.out) (Kd.R_base ho0) hb); have n1_ := Aside0.mk (Kd.R_below (by (with_reducible repeat (first | apply Kd.R_alloc | apply Kd.R_drewN | apply Kd.R_drew)); exact HO_5.out) hb); have n2_ := Aside0.mk (Kd.R_lower (Kd.R_newM (M := fun k_ => (w.heap.size ≤ k_)) ho0 (below_size (by repeat (first | (with_reducible first | exact HB.out | apply below_alloc | apply pw_below_drewN | apply below_drew1) | exact HB.out))) (fun k_ h_ => h_)) (below_size (by repeat (first | (with_reducible first | exact HB.out | apply below_alloc | apply pw_below_drewN | apply below_drew1) | exact HB.out)))); have n3_ := Aside0.mk (below_step (by repeat (first | (with_reducible first | exact HB.out | apply below_alloc | apply pw_below_drewN | apply below_drew1) | exact HB.out)) hb); clear HO_0; clear HO_5; clear HB; have HO_0 := n0_; have HO_5 := n1_; have HO127 := n2_; have HB := n3_; clear n0_ n1_ n2_ n3_; (try clear hb); (try clear hb2); (try clear hk); (try clear hi); (try clear ho0); obtain ⟨Ao32, co32, eo32⟩ := Kd.R_slice HO127.out; subst eo32)); try go_wp2_with (first | (go_at_call 18; (with_reducible refine (impl_RunInput.calls _ _ l0 _ _ x5_3 t125 _ ?side1 ?side2 ?side3 ?side4 A28.out).mono ?_); (case side1 => repeat (first | exact (Kd.V_reads' HO_0.out).2.2 | (with_reducible refine Kd.C_alloc ?_ _) | (with_reducible refine Kd.C_drewN ?_ _) | (with_reducible refine Kd.C_drew ?_))); (case side2 => exact (Kd.V_reads' HO_0.out).2.1); (case side3 => repeat (first | exact (Kd.R_reads' HO_5.out).2.2 | (with_reducible refine Kd.C_alloc ?_ _) | (with_reducible refine Kd.C_drewN ?_ _) | (with_reducible refine Kd.C_drew ?_))); (case side4 => exact (Kd.R_reads' HO_5.out).2.1); rintro e w31 ⟨v126, rfl, ho0, hb⟩; have n0_ := Aside0.mk (Kd.V_elder' (by (with_reducible repeat (first | apply Kd.V_alloc | apply Kd.V_drewN | apply Kd.V_drew)); exact HO_0.out) (Kd.R_base ho0) hb); have n1_ := Aside0.mk (Kd.R_below (by (with_reducible repeat (first | apply Kd.R_alloc | apply Kd.R_drewN | apply Kd.R_drew)); exact HO_5.out) hb); have n2_ := Aside0.mk (Kd.R_lower (Kd.R_newM (M := fun k_ => (w.heap.size ≤ k_)) ho0 (below_size (by repeat (first | (with_reducible first | exact HB.out | apply below_alloc | apply pw_below_drewN | apply below_drew1) | exact HB.out))) (fun k_ h_ => h_)) (below_size (by repeat (first | (with_reducible first | exact HB.out | apply below_alloc | apply pw_below_drewN | apply below_drew1) | exact HB.out)))); have n3_ := Aside0.mk (below_step (by repeat (first | (with_reducible first | exact HB.out | apply below_alloc | apply pw_below_drewN | apply below_drew1) | exact HB.out)) hb); clear HO_0; clear HO_5; clear HB; have HO_0 := n0_; have HO_5 := n1_; have HO127 := n2_; have HB := n3_; clear n0_ n1_ n2_ n3_; (try clear hb); (try clear hb2); (try clear hk); (try clear hi); (try clear ho0); obtain ⟨Ao32, co32, eo32⟩ := Kd.R_slice HO127.out; subst eo32)))
                      go_loopg [6, 66] k3 (fun kq v6 v66 w' => ∃ (x6_4 : Int) (x66_4 : Int), v6 = .int .i64 x6_4 ∧ v66 = .int .i64 x66_4 ∧ Aside0 (laws_FnInputPieces.l1 kq l0 x6_4 t125 l1 (l1.length : Int) x66_4 = some r) ∧ Aside0 (kq ≤ k3) ∧ Aside0 (Kd.V (Kd.int .u8) 5 w' w.heap.size (fun k_ => (P0_ k_ ∨ w.heap.size ≤ k_) ∧ some k_ ≠ ((.slice Ao32 t125.length co32) : Value).ownBlock) (.slice A0 l0.length c0) l0) ∧ Aside0 (Kd.R k46 46 w' w.heap.size (fun k_ => (w.heap.size ≤ k_)) (.slice Ao32 t125.length co32) t125) ∧ Aside0 (Below w.heap.size w w'))
                      case atStart => exact ⟨(0), (0), (by first | rfl | (simp; done) | (simp [*]; done)), (by first | rfl | (simp; done) | (simp [*]; done)), H', ⟨Nat.le_refl _⟩, ⟨by (with_reducible repeat (first | apply Kd.V_alloc | apply Kd.V_drewN | apply Kd.V_drew)); exact Kd.V_mono HO_0.out (fun _ hk => ⟨hk.1.1, hk.2⟩)⟩, ⟨by (with_reducible repeat (first | apply Kd.R_alloc | apply Kd.R_drewN | apply Kd.R_drew)); exact Kd.R_mono HO127.out (fun _ hk => hk.1)⟩, ⟨by repeat (first | (with_reducible first | exact HB.out | apply below_alloc | apply pw_below_drewN | apply below_drew1) | exact HB.out)⟩⟩
                      case round =>
                        clear H'
                        try clear c1
                        try clear p1
                        try clear q1
                        try clear hx1
                        try clear c2
                        try clear p2
                        try clear c4
                        try clear c4b0
                        try clear c4b1
                        try clear c5
                        try clear c6
                        try clear p6
                        try clear c8
                        try clear p11
                        try clear q11
                        try clear hx11
                        try clear c15
                        try clear c18
                        try clear c18b0
                        try clear c19
                        try clear c19b0
                        try clear c20
                        try clear c20b0
                        try clear c21
                        try clear c21b0
                        try clear c22
                        try clear c22b0
                        try clear c23
                        try clear c29
                        try clear c29b0
                        try clear c29b1
                        try clear c29b2
                        try clear hx118_0
                        try clear p118
                        try clear p2
                        try clear q118
                        obtain ⟨x6_4, x66_4, rfl, rfl, HA, HK4, HO_0, HO_9, HB⟩ := hrel
                        cases gk with
                        | zero => exact absurd HA.out (by simp [laws_FnInputPieces.l1])
                        | succ k4 =>
                          have H := HA.out
                          clear HA
                          simp only [laws_FnInputPieces.l1] at H
                          by_cases c33 : x66_4 < (l1.length : Int)
                          · rw [if_pos c33] at H
                            have c33b0 : decide (x66_4 < (l1.length : Int)) = true := decide_eq_true c33
                            clear c33
                            by_cases c34 : 0 ≤ x66_4
                            · rw [if_pos c34] at H
                              have c34b0 : decide (0 ≤ x66_4) = true := decide_eq_true c34
                              clear c34
                              by_cases c35 : x66_4 < (l1.length : Int)
                              · rw [if_pos c35] at H
                                have c35b0 : decide (x66_4 < (l1.length : Int)) = true := decide_eq_true c35
                                clear c35
                                obtain ⟨ji36, hji36⟩ : ∃ j_ : Int, (wrap64 ((wrap64 (2 * x66_4)) + 1)) = j_ := ⟨_, rfl⟩
                                replace H : (if 0 ≤ (ji36) then (if (ji36) < (t125.length : Int) then (if 0 ≤ x6_4 then (if x6_4 ≤ (wrap64 (x6_4 + (rd l1 x66_4))) then (if (wrap64 (x6_4 + (rd l1 x66_4))) ≤ (l0.length : Int) then (if ((rd_T46 t125 (ji36)).f2).toList = (strOfNums ((l0.take ((wrap64 (x6_4 + (rd l1 x66_4))) : Int).toNat).drop (x6_4 : Int).toNat)).toList then (laws_FnInputPieces.l1 k4 l0 (wrap64 (x6_4 + (rd l1 x66_4))) t125 l1 (l1.length : Int) (wrap64 (x66_4 + 1))) else (some false)) else (none)) else (none)) else (none)) else (none)) else (none)) = some r := by first | (rw [hji36] at H; exact H) | (simp only [hji36] at H ⊢; exact H)
                                have hji36w : (IntKind.i64.wrap ((wrap64 (2 * x66_4)) + 1)) = ji36 := (i64_w _).trans hji36
                                by_cases c37 : 0 ≤ (ji36)
                                · rw [if_pos c37] at H
                                  have c37b0 : decide (0 ≤ (ji36)) = true := decide_eq_true c37
                                  clear c37
                                  by_cases c38 : (ji36) < (t125.length : Int)
                                  · rw [if_pos c38] at H
                                    have c38b0 : decide ((ji36) < (t125.length : Int)) = true := decide_eq_true c38
                                    clear c38
                                    by_cases c39 : 0 ≤ x6_4
                                    · rw [if_pos c39] at H
                                      have c39b0 := eq_true c39
                                      have c39b1 : decide (0 ≤ x6_4) = true := decide_eq_true c39
                                      clear c39
                                      by_cases c40 : x6_4 ≤ (wrap64 (x6_4 + (rd l1 x66_4)))
                                      · rw [if_pos c40] at H
                                        have c40b0 := eq_true c40
                                        have c40b1 : decide (x6_4 ≤ (wrap64 (x6_4 + (rd l1 x66_4)))) = true := decide_eq_true c40
                                        by_cases c41 : (wrap64 (x6_4 + (rd l1 x66_4))) ≤ (l0.length : Int)
                                        · rw [if_pos c41] at H
                                          have c41b0 := eq_true c41
                                          have c41b1 : decide ((wrap64 (x6_4 + (rd l1 x66_4))) ≤ (l0.length : Int)) = true := decide_eq_true c41
                                          obtain ⟨y130, hy130⟩ : ∃ y_ : List Int, y_ = ((l0.take ((wrap64 (x6_4 + (rd l1 x66_4))) : Int).toNat).drop (x6_4 : Int).toNat) := ⟨_, rfl⟩
                                          replace H : (if ((rd_T46 t125 (ji36)).f2).toList = (strOfNums y130).toList then (laws_FnInputPieces.l1 k4 l0 (wrap64 (x6_4 + (rd l1 x66_4))) t125 l1 (l1.length : Int) (wrap64 (x66_4 + 1))) else (some false)) = some r := by first | (rw [hy130]; with_reducible exact H) | (have H2_ := (Option.bind_some _ _).symm.trans H; rw [hy130]; with_reducible exact H2_) | (have H2_ := (Option.bind_some _ _).symm.trans H; with_reducible exact H2_) | with_reducible exact H | (rw [hy130]; exact H) | exact H
                                          have Ny130 := Aside0.mk hy130
                                          clear hy130
                                          by_cases c42 : ((rd_T46 t125 (ji36)).f2).toList = (strOfNums y130).toList
                                          · rw [if_pos c42] at H
                                            have c42b0 : (((rd_T46 t125 (ji36)).f2).toList == (strOfNums y130).toList) = true := beq_iff_eq.mpr c42
                                            have c42b1 : (((rd_T46 t125 (ji36)).f2).toList != (strOfNums y130).toList) = false := bne_eq_false_iff_eq.mpr c42
                                            clear c42
                                            have H' := Aside0.mk H
                                            clear H
                                            have p128 : 0 ≤ (x66_4 : Int) := of_decide_eq_true (by first | (with_reducible assumption) | assumption)
                                            have q128 : x66_4 < (l1.length : Int) := of_decide_eq_true (by first | (with_reducible assumption) | assumption)
                                            obtain ⟨ad128, e128, hx128_0⟩ := Kd.at_int HR1.out x66_4 p128 q128
                                            cases e128
                                            replace hx128_0 := (HB.out.cell (World.block_lt_of_cell? w _ hx128_0)).trans hx128_0
                                            replace p128 := eq_true p128
                                            replace q128 := eq_true q128
                                            have p129 : 0 ≤ ((ji36) : Int) := of_decide_eq_true (by first | (with_reducible assumption) | assumption)
                                            have q129 : (ji36) < (t125.length : Int) := of_decide_eq_true (by first | (with_reducible assumption) | assumption)
                                            obtain ⟨ad129, e129, hx129_0, hx129_1, hx129_2⟩ := at_T46 (Kd.R_reads' HO_9.out).2.2 (ji36) p129 q129
                                            cases e129
                                            replace p129 := eq_true p129
                                            replace q129 := eq_true q129
                                            have q43 : ((wrap64 (x6_4 + (rd l1 x66_4))) : Int) ≤ ((l0.length : Int) : Int) := of_decide_eq_true (by first | (with_reducible assumption) | assumption)
                                            obtain ⟨i043, hi043, _, hsz43, _⟩ := info_parts info5
                                            have hroom43 : l0.length ≤ c0 := (Kd.V_reads' HO_0.out).2.1
                                            have hC43 : Kd.F (Kd.int .u8) _ _ A0 l0.length l0 := (Kd.V_at (base := w.heap.size) HO_0.out).2.2
                                            have ql43 : (x6_4 : Int) ≤ ((wrap64 (x6_4 + (rd l1 x66_4))) : Int) := of_decide_eq_true (by first | (with_reducible assumption) | assumption)
                                            have q043 : (0 : Int) ≤ (x6_4 : Int) := of_decide_eq_true (by first | (with_reducible assumption) | assumption)
                                            have hcut43 := cut_mid (P := Tryd.prog) 22 5 .i64 .i64 Tryd.underlying22 hi043 1 hsz43 A0 l0.length c0 x6_4 (wrap64 (x6_4 + (rd l1 x66_4))) q043 ql43 q43 hroom43
                                            have hr43 := Kd.F_mid (lo := (x6_4 : Int).toNat) (hi := ((wrap64 (x6_4 + (rd l1 x66_4))) : Int).toNat) (c := c0) hC43 (by omega) (by omega) hroom43
                                            obtain ⟨A43, hA43⟩ : ∃ Aq_, Aq_ = (if c0 = (x6_4 : Int).toNat then A0 else (A0 : Option Addr).map (·.add ((x6_4 : Int).toNat * 1))) := ⟨_, rfl⟩
                                            obtain ⟨c43, hc43⟩ : ∃ cq_, cq_ = c0 - (x6_4 : Int).toNat := ⟨_, rfl⟩
                                            have hy43 : y130.length = ((wrap64 (x6_4 + (rd l1 x66_4))) : Int).toNat - (x6_4 : Int).toNat := (by rw [Ny130.out, List.length_drop, List.length_take] <;> omega)
                                            rw [show ((l0).take ((wrap64 (x6_4 + (rd l1 x66_4))) : Int).toNat).drop (x6_4 : Int).toNat = y130 from Ny130.out.symm] at hr43
                                            replace hr43 : Kd.F (Kd.int .u8) _ _ A43 y130.length y130 := (by rw [hA43]; exact hr43)
                                            rw [← hy43, ← hA43, ← hc43] at hcut43
                                            have HO134 := Aside0.mk (show Kd.V (Kd.int .u8) 5 _ w.heap.size _ (.slice A43 y130.length c43) y130 from Kd.V_mk (by rw [hy43, hc43]; exact Nat.sub_le_sub_right (Nat.le_trans (by omega) hroom43) _) hr43)
                                            have HC134 := Aside0.mk (show y130.length ≤ c43 from by rw [hy43, hc43]; exact Nat.sub_le_sub_right (Nat.le_trans (by omega) hroom43) _)
                                            clear hr43 hC43 hroom43 hi043 hsz43 hc43
                                            have KY43 := Aside0.mk hy43
                                            have KA43 := Aside0.mk hA43
                                            clear hy43 hA43
                                            replace q43 := eq_true q43
                                            have hcv44 := fun (n_ : Nat) => Kd.C_string (P := Tryd.prog) (c := c43) Tryd.underlying22 Tryd.underlying5 Tryd.underlying9 (Kd.C_drewN (Kd.V_reads' HO134.out).2.2 n_)
                                            go_wp2
                                            repeat (go_quiet (fail); try go_wp2)
                                            go_roundg k4
                                            case measure => have := HJ2.out; have := HJ5.out; have := HK3.out; have := HK4.out; omega
                                            case rel => exact ⟨(wrap64 (x6_4 + (rd l1 x66_4))), (wrap64 (x66_4 + 1)), (by first | rfl | (simp; done) | (simp [*]; done)), (by first | rfl | (simp; done) | (simp [*]; done)), H', ⟨by have := HJ2.out; have := HJ5.out; have := HK3.out; have := HK4.out; omega⟩, ⟨by (with_reducible repeat (first | apply Kd.V_alloc | apply Kd.V_drewN | apply Kd.V_drew)); exact HO_0.out⟩, ⟨by (with_reducible repeat (first | apply Kd.R_alloc | apply Kd.R_drewN | apply Kd.R_drew)); exact HO_9.out⟩, ⟨by repeat (first | (with_reducible first | exact HB.out | apply below_alloc | apply pw_below_drewN | apply below_drew1) | exact HB.out)⟩⟩
                                          · rw [if_neg c42] at H
                                            have c42b0 : (((rd_T46 t125 (ji36)).f2).toList == (strOfNums y130).toList) = false := beq_eq_false_iff_ne.mpr c42
                                            have c42b1 : (((rd_T46 t125 (ji36)).f2).toList != (strOfNums y130).toList) = true := bne_iff_ne.mpr c42
                                            obtain rfl := Option.some.inj H
                                            have p128 : 0 ≤ (x66_4 : Int) := of_decide_eq_true (by first | (with_reducible assumption) | assumption)
                                            have q128 : x66_4 < (l1.length : Int) := of_decide_eq_true (by first | (with_reducible assumption) | assumption)
                                            obtain ⟨ad128, e128, hx128_0⟩ := Kd.at_int HR1.out x66_4 p128 q128
                                            cases e128
                                            replace hx128_0 := (HB.out.cell (World.block_lt_of_cell? w _ hx128_0)).trans hx128_0
                                            replace p128 := eq_true p128
                                            replace q128 := eq_true q128
                                            have p129 : 0 ≤ ((ji36) : Int) := of_decide_eq_true (by first | (with_reducible assumption) | assumption)
                                            have q129 : (ji36) < (t125.length : Int) := of_decide_eq_true (by first | (with_reducible assumption) | assumption)
                                            obtain ⟨ad129, e129, hx129_0, hx129_1, hx129_2⟩ := at_T46 (Kd.R_reads' HO_9.out).2.2 (ji36) p129 q129
                                            cases e129
                                            replace p129 := eq_true p129
                                            replace q129 := eq_true q129
                                            have q45 : ((wrap64 (x6_4 + (rd l1 x66_4))) : Int) ≤ ((l0.length : Int) : Int) := of_decide_eq_true (by first | (with_reducible assumption) | assumption)
                                            obtain ⟨i045, hi045, _, hsz45, _⟩ := info_parts info5
                                            have hroom45 : l0.length ≤ c0 := (Kd.V_reads' HO_0.out).2.1
                                            have hC45 : Kd.F (Kd.int .u8) _ _ A0 l0.length l0 := (Kd.V_at (base := w.heap.size) HO_0.out).2.2
                                            have ql45 : (x6_4 : Int) ≤ ((wrap64 (x6_4 + (rd l1 x66_4))) : Int) := of_decide_eq_true (by first | (with_reducible assumption) | assumption)
                                            have q045 : (0 : Int) ≤ (x6_4 : Int) := of_decide_eq_true (by first | (with_reducible assumption) | assumption)
                                            have hcut45 := cut_mid (P := Tryd.prog) 22 5 .i64 .i64 Tryd.underlying22 hi045 1 hsz45 A0 l0.length c0 x6_4 (wrap64 (x6_4 + (rd l1 x66_4))) q045 ql45 q45 hroom45
                                            have hr45 := Kd.F_mid (lo := (x6_4 : Int).toNat) (hi := ((wrap64 (x6_4 + (rd l1 x66_4))) : Int).toNat) (c := c0) hC45 (by omega) (by omega) hroom45
                                            obtain ⟨A45, hA45⟩ : ∃ Aq_, Aq_ = (if c0 = (x6_4 : Int).toNat then A0 else (A0 : Option Addr).map (·.add ((x6_4 : Int).toNat * 1))) := ⟨_, rfl⟩
                                            obtain ⟨c45, hc45⟩ : ∃ cq_, cq_ = c0 - (x6_4 : Int).toNat := ⟨_, rfl⟩
                                            have hy45 : y130.length = ((wrap64 (x6_4 + (rd l1 x66_4))) : Int).toNat - (x6_4 : Int).toNat := (by rw [Ny130.out, List.length_drop, List.length_take] <;> omega)
                                            rw [show ((l0).take ((wrap64 (x6_4 + (rd l1 x66_4))) : Int).toNat).drop (x6_4 : Int).toNat = y130 from Ny130.out.symm] at hr45
                                            replace hr45 : Kd.F (Kd.int .u8) _ _ A45 y130.length y130 := (by rw [hA45]; exact hr45)
                                            rw [← hy45, ← hA45, ← hc45] at hcut45
                                            have HO134 := Aside0.mk (show Kd.V (Kd.int .u8) 5 _ w.heap.size _ (.slice A45 y130.length c45) y130 from Kd.V_mk (by rw [hy45, hc45]; exact Nat.sub_le_sub_right (Nat.le_trans (by omega) hroom45) _) hr45)
                                            have HC134 := Aside0.mk (show y130.length ≤ c45 from by rw [hy45, hc45]; exact Nat.sub_le_sub_right (Nat.le_trans (by omega) hroom45) _)
                                            clear hr45 hC45 hroom45 hi045 hsz45 hc45
                                            have KY45 := Aside0.mk hy45
                                            have KA45 := Aside0.mk hA45
                                            clear hy45 hA45
                                            replace q45 := eq_true q45
                                            have hcv46 := fun (n_ : Nat) => Kd.C_string (P := Tryd.prog) (c := c45) Tryd.underlying22 Tryd.underlying5 Tryd.underlying9 (Kd.C_drewN (Kd.V_reads' HO134.out).2.2 n_)
                                            go_wp2
                                            repeat (go_quiet (fail); try go_wp2)
                                            go_ret
                                            exact ⟨by first | rfl | (simp [errW_none, errW_some] <;> rfl) | (simp only [← hji36]; first | rfl | (simp [errW_none, errW_some] <;> rfl)) | (simp [*, errW_none, errW_some] <;> rfl), by repeat (first | (with_reducible first | exact HB.out | apply below_alloc | apply pw_below_drewN | apply below_drew1) | exact HB.out)⟩
                                        · rw [if_neg c41] at H
                                          exact absurd H (by simp)
                                      · rw [if_neg c40] at H
                                        exact absurd H (by simp)
                                    · rw [if_neg c39] at H
                                      exact absurd H (by simp)
                                  · rw [if_neg c38] at H
                                    exact absurd H (by simp)
                                · rw [if_neg c37] at H
                                  exact absurd H (by simp)
                              · rw [if_neg c35] at H
                                exact absurd H (by simp)
                            · rw [if_neg c34] at H
                              exact absurd H (by simp)
                          · rw [if_neg c33] at H
                            have c33b0 : decide (x66_4 < (l1.length : Int)) = false := decide_eq_false c33
                            clear c33
                            obtain rfl := Option.some.inj H
                            go_wp2
                            repeat (go_quiet (fail); try go_wp2)
                            go_ret
                            exact ⟨by first | rfl | (simp [errW_none, errW_some] <;> rfl) | (simp [*, errW_none, errW_some] <;> rfl), by repeat (first | (with_reducible first | exact HB.out | apply below_alloc | apply pw_below_drewN | apply below_drew1) | exact HB.out)⟩
                    · rw [if_neg c29] at H
                      have c29b0 : ((t125.length : Int) == (x5_3.length : Int)) = false := beq_eq_false_iff_ne.mpr c29
                      have c29b1 : ((t125.length : Int) != (x5_3.length : Int)) = true := bne_iff_ne.mpr c29
                      have c29b2 : (t125.length == x5_3.length) = false := by first | simpa using c29 | (simp at c29 ⊢; omega)
                      obtain rfl := Option.some.inj H
                      obtain ⟨Ao47, co47, eo47⟩ := Kd.R_slice HO_5.out
                      subst eo47
                      go_wp2_with (first | (go_at_call 18; (with_reducible refine (impl_RunInput.calls _ _ l0 _ _ x5_3 t125 _ ?side1 ?side2 ?side3 ?side4 A28.out).mono ?_); (case side1 => repeat (first | exact (Kd.V_reads' HO_0.out).2.2 | (with_reducible refine Kd.C_alloc ?_ _) | (with_reducible refine Kd.C_drewN ?_ _) | (with_reducible refine Kd.C_drew ?_))); (case side2 => exact (Kd.V_reads' HO_0.out).2.1); (case side3 => repeat (first | exact (Kd.R_reads' HO_5.out).2.2 | (with_reducible refine Kd.C_alloc ?_ _) | (with_reducible refine Kd.C_drewN ?_ _) | (with_reducible refine Kd.C_drew ?_))); (case side4 => exact (Kd.R_reads' HO_5.out).2.1); rintro e w48 ⟨v126, rfl, ho0, hb⟩; have n0_ := Aside0.mk (Kd.V_elder' (by (with_reducible repeat (first | apply Kd.V_alloc | apply Kd.V_drewN | apply Kd.V_drew)); exact HO_0.out) (Kd.R_base ho0) hb); have n1_ := Aside0.mk (Kd.R_below (by (with_reducible repeat (first | apply Kd.R_alloc | apply Kd.R_drewN | apply Kd.R_drew)); exact HO_5.out) hb); have n2_ := Aside0.mk (Kd.R_lower (Kd.R_newM (M := fun k_ => (w.heap.size ≤ k_)) ho0 (below_size (by repeat (first | (with_reducible first | exact HB.out | apply below_alloc | apply pw_below_drewN | apply below_drew1) | exact HB.out))) (fun k_ h_ => h_)) (below_size (by repeat (first | (with_reducible first | exact HB.out | apply below_alloc | apply pw_below_drewN | apply below_drew1) | exact HB.out)))); have n3_ := Aside0.mk (below_step (by repeat (first | (with_reducible first | exact HB.out | apply below_alloc | apply pw_below_drewN | apply below_drew1) | exact HB.out)) hb); clear HO_0; clear HO_5; clear HB; have HO_0 := n0_; have HO_5 := n1_; have HO127 := n2_; have HB := n3_; clear n0_ n1_ n2_ n3_; (try clear hb); (try clear hb2); (try clear hk); (try clear hi); (try clear ho0); obtain ⟨Ao49, co49, eo49⟩ := Kd.R_slice HO127.out; subst eo49))
                      repeat (go_quiet (first | (go_at_call 18; (with_reducible refine (impl_RunInput.calls _ _ l0 _ _ x5_3 t125 _ ?side1 ?side2 ?side3 ?side4 A28.out).mono ?_); (case side1 => repeat (first | exact (Kd.V_reads' HO_0.out).2.2 | (with_reducible refine Kd.C_alloc ?_ _) | (with_reducible refine Kd.C_drewN ?_ _) | (with_reducible refine Kd.C_drew ?_))); (case side2 => exact (Kd.V_reads' HO_0.out).2.1); (case side3 => repeat (first | exact (Kd.R_reads' HO_5.out).2.2 | (with_reducible refine Kd.C_alloc ?_ _) | (with_reducible refine Kd.C_drewN ?_ _) | (with_reducible refine Kd.C_drew ?_))); (case side4 => exact (Kd.R_reads' HO_5.out).2.1); rintro e w48 ⟨v126, rfl, ho0, hb⟩; have n0_ := Aside0.mk (Kd.V_elder' (by (with_reducible repeat (first | apply Kd.V_alloc | apply Kd.V_drewN | apply Kd.V_drew)); exact HO_0.out) (Kd.R_base ho0) hb); have n1_ := Aside0.mk (Kd.R_below (by (with_reducible repeat (first | apply Kd.R_alloc | apply Kd.R_drewN | apply Kd.R_drew)); exact HO_5.out) hb); have n2_ := Aside0.mk (Kd.R_lower (Kd.R_newM (M := fun k_ => (w.heap.size ≤ k_)) ho0 (below_size (by repeat (first | (with_reducible first | exact HB.out | apply below_alloc | apply pw_below_drewN | apply below_drew1) | exact HB.out))) (fun k_ h_ => h_)) (below_size (by repeat (first | (with_reducible first | exact HB.out | apply below_alloc | apply pw_below_drewN | apply below_drew1) | exact HB.out)))); have n3_ := Aside0.mk (below_step (by repeat (first | (with_reducible first | exact HB.out | apply below_alloc | apply pw_below_drewN | apply below_drew1) | exact HB.out)) hb); clear HO_0; clear HO_5; clear HB; have HO_0 := n0_; have HO_5 := n1_; have HO127 := n2_; have HB := n3_; clear n0_ n1_ n2_ n3_; (try clear hb); (try clear hb2); (try clear hk); (try clear hi); (try clear ho0); obtain ⟨Ao49, co49, eo49⟩ := Kd.R_slice HO127.out; subst eo49)); try go_wp2_with (first | (go_at_call 18; (with_reducible refine (impl_RunInput.calls _ _ l0 _ _ x5_3 t125 _ ?side1 ?side2 ?side3 ?side4 A28.out).mono ?_); (case side1 => repeat (first | exact (Kd.V_reads' HO_0.out).2.2 | (with_reducible refine Kd.C_alloc ?_ _) | (with_reducible refine Kd.C_drewN ?_ _) | (with_reducible refine Kd.C_drew ?_))); (case side2 => exact (Kd.V_reads' HO_0.out).2.1); (case side3 => repeat (first | exact (Kd.R_reads' HO_5.out).2.2 | (with_reducible refine Kd.C_alloc ?_ _) | (with_reducible refine Kd.C_drewN ?_ _) | (with_reducible refine Kd.C_drew ?_))); (case side4 => exact (Kd.R_reads' HO_5.out).2.1); rintro e w48 ⟨v126, rfl, ho0, hb⟩; have n0_ := Aside0.mk (Kd.V_elder' (by (with_reducible repeat (first | apply Kd.V_alloc | apply Kd.V_drewN | apply Kd.V_drew)); exact HO_0.out) (Kd.R_base ho0) hb); have n1_ := Aside0.mk (Kd.R_below (by (with_reducible repeat (first | apply Kd.R_alloc | apply Kd.R_drewN | apply Kd.R_drew)); exact HO_5.out) hb); have n2_ := Aside0.mk (Kd.R_lower (Kd.R_newM (M := fun k_ => (w.heap.size ≤ k_)) ho0 (below_size (by repeat (first | (with_reducible first | exact HB.out | apply below_alloc | apply pw_below_drewN | apply below_drew1) | exact HB.out))) (fun k_ h_ => h_)) (below_size (by repeat (first | (with_reducible first | exact HB.out | apply below_alloc | apply pw_below_drewN | apply below_drew1) | exact HB.out)))); have n3_ := Aside0.mk (below_step (by repeat (first | (with_reducible first | exact HB.out | apply below_alloc | apply pw_below_drewN | apply below_drew1) | exact HB.out)) hb); clear HO_0; clear HO_5; clear HB; have HO_0 := n0_; have HO_5 := n1_; have HO127 := n2_; have HB := n3_; clear n0_ n1_ n2_ n3_; (try clear hb); (try clear hb2); (try clear hk); (try clear hi); (try clear ho0); obtain ⟨Ao49, co49, eo49⟩ := Kd.R_slice HO127.out; subst eo49)))
                      go_ret
                      exact ⟨by first | rfl | (simp [errW_none, errW_some] <;> rfl) | (simp [*, errW_none, errW_some] <;> rfl), by repeat (first | (with_reducible first | exact HB.out | apply below_alloc | apply pw_below_drewN | apply below_drew1) | exact HB.out)⟩

/-- THE ONE PURE STATEMENT of laws_FnInputPieces: yours. -/
def laws_FnInputPieces.Pure : Prop := ∀ (l0 : List Int) (l1 : List Int), l0.length ≤ maxLen → l0.length * 1 ≤ 140737488351232 → (∀ x ∈ l0, (Lit.int .u8 x).wf = true) → l1.length ≤ maxLen → l1.length * 8 ≤ 140737488351232 → (∀ x ∈ l1, (Lit.int .i64 x).wf = true) → ∃ k, laws_FnInputPieces.f k l0 l1 = some true
theorem laws_FnInputPieces.walk (P : laws_FnInputPieces.Pure) (a0 : Option Addr) (len0 cap0 : Nat) (z0 : List Int) (a1 : Option Addr) (len1 cap1 : Nat) (z1 : List Int) (w : World) (w0 : (a0 = none ∧ len0 = 0 ∧ cap0 = 0 ∧ z0 = []) ∨ ∃ x, a0 = some x ∧ len0 ≤ cap0 ∧ cap0 ≤ maxLen ∧ z0.length = cap0 ∧ (∀ i, i < z0.length → w.cell? (x.add i) = some (.int .u8 (z0.getD i 0))) ∧ ∀ n ∈ z0, (Lit.int .u8 n).wf = true) (y0 : len0 * 1 ≤ 140737488351232) (w1 : (a1 = none ∧ len1 = 0 ∧ cap1 = 0 ∧ z1 = []) ∨ ∃ x, a1 = some x ∧ len1 ≤ cap1 ∧ cap1 ≤ maxLen ∧ z1.length = cap1 ∧ (∀ i, i < z1.length → w.cell? (x.add i) = some (.int .i64 (z1.getD i 0))) ∧ ∀ n ∈ z1, (Lit.int .i64 n).wf = true) (y1 : len1 * 8 ≤ 140737488351232) :
    Calls Tryd.prog 6 #[.slice a0 len0 cap0, .slice a1 len1 cap1] w fun e w' => e = .returned (.bool true) ∧ Below w.heap.size w w' := by
  obtain ⟨l0, rfl, hr0, hm0, hw0, hc0⟩ := ReadsInt.ofRowC w0
  obtain ⟨l1, rfl, hr1, hm1, hw1, hc1⟩ := ReadsInt.ofRowC w1
  obtain ⟨k, h⟩ := P l0 l1 hm0 y0 hw0 hm1 y1 hw1
  have CH_ : ∀ {kk_ : IntKind} {AA_ : Option Addr} {xx_ : List Int}, (Kd.int kk_).C w AA_ xx_.length xx_ → Kd.F (Kd.int kk_) w (fun _ => True) AA_ xx_.length xx_ := fun hh_ W' hW => (Kd.heap_int _).C (fun k hk => hW k trivial hk) hh_
  refine (laws_FnInputPieces.calls k (fun _ => True) _ _ l0 _ _ l1 true w (Kd.V_mk hc0 (CH_ (Kd.C_of_reads (d := (0 : Int)) (h1 := fun _ => rfl) hr0))) (Kd.C_of_reads (d := (0 : Int)) (h1 := fun _ => rfl) hr1) hc1 h).mono ?_
  rintro e w' ⟨rfl, hd⟩
  exact ⟨rfl, hd⟩

end Go.Proofs.YtgpmmmlmaaiobaaDoor.PFnInputPieces
