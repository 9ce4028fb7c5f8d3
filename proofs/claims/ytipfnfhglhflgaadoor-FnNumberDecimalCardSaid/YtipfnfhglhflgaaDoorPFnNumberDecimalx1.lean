-- Laid by a program of this session, out of the translation's print.
import Derived.Test.YtipfnfhglhflgaaDoorPFnNumberDecimalx0
namespace Go.Proofs.YtipfnfhglhflgaaDoor.PFnNumberDecimal
open Go.Proofs.YtipfnfhglhflgaaDoor.Own
open Go.RowKit Go.Proofs.YtipfnfhglhflgaaDoorW.PrintWords Go.Proofs.YtipfnfhglhflgaaDoorW.PrintLast Go.Proofs.YtipfnfhglhflgaaDoorW.PrintMore
attribute [local go_sem] max2_int min2_int max_two min_two max_three min_three max_four min_four   -- for this text's walks alone
set_option linter.unusedVariables false
set_option linter.unusedSimpArgs false

/-! ### laws_digitsOk: function 6 -/
def laws_digitsOk.l0 : Nat → List Int → List Int → Int → Int → Option (Bool)
  | 0, _, _, _, _ => none
  | k + 1, x0, x5, x6, x7 => if x7 < x6 then (if 0 ≤ x7 then (if x7 < (x5.length : Int) then (if (rd x5 x7) < 48 then (some false) else (if (rd x5 x7) > 57 then (some false) else (laws_digitsOk.l0 k x0 x5 x6 (wrap64 (x7 + 1))))) else (none)) else (none)) else (if (x0.length : Int) ≥ 1 then (some (decide ((x0.length : Int) ≤ 18))) else (some false))
def laws_digitsOk.f (k : Nat) (l0 : List Int) : Option (Bool) := laws_digitsOk.l0 k l0 l0 (l0.length : Int) 0
theorem laws_digitsOk.mono_l : ∀ k, (∀ y0 y1 y2 y3, LeO (laws_digitsOk.l0 k y0 y1 y2 y3) (laws_digitsOk.l0 (k + 1) y0 y1 y2 y3))
  | 0 => fun _ _ _ _ r h => by simp [laws_digitsOk.l0] at h
  | k + 1 => by
    have ih0 := laws_digitsOk.mono_l k
    · intro y0 y1 y2 y3
      unfold laws_digitsOk.l0
      repeat' first
      | (with_reducible exact ih0 _ _ _ _)
      | (with_reducible exact LeO.refl _)
      | (with_reducible exact LeO.none _)
      | (with_reducible refine LeO.ite ?_ ?_)
      | (with_reducible refine LeO.bind ?_ (fun _ => ?_))
      | exact ih0 _ _ _ _
      | exact LeO.none _
      | refine LeO.ite ?_ ?_
      | refine LeO.bind ?_ (fun _ => ?_)
theorem laws_digitsOk.mono : ∀ a0 k, LeO (laws_digitsOk.f k a0) (laws_digitsOk.f (k + 1) a0) := by
  intro a0 k
  have ih0 := laws_digitsOk.mono_l k
  unfold laws_digitsOk.f
  repeat' first
      | (with_reducible exact ih0 _ _ _ _)
      | (with_reducible exact LeO.refl _)
      | (with_reducible exact LeO.none _)
      | (with_reducible refine LeO.ite ?_ ?_)
      | (with_reducible refine LeO.bind ?_ (fun _ => ?_))
      | exact ih0 _ _ _ _
      | exact LeO.none _
      | refine LeO.ite ?_ ?_
      | refine LeO.bind ?_ (fun _ => ?_)
set_option maxHeartbeats 8000000 in
set_option maxRecDepth 100000 in
theorem laws_digitsOk.calls (k : Nat) (A0 : Option Addr) (c0 : Nat) (l0 : List Int) (r : Bool) (w : World) (hr0 : Kd.C (Kd.int .u8) w A0 l0.length l0) (hc0 : l0.length ≤ c0) (h : laws_digitsOk.f k l0 = some r) :
    Calls Tryd.prog 6 #[.slice A0 l0.length c0] w fun e w' => e = .returned (.bool r) ∧ Drawn0 w w' := by
  have HR0 := Aside0.mk hr0
  have HC0 := Aside0.mk hc0
  clear hr0 hc0
  have H : (laws_digitsOk.l0 k l0 l0 (l0.length : Int) 0) = some r := h
  clear h
  have H' := Aside0.mk H
  clear H
  go_enter Tryd.func6, Tryd.ntmps6
  go_wp2
  go_loopg [7] k (fun kq v7 w' => ∃ (x7_1 : Int), v7 = .int .i64 x7_1 ∧ Aside0 (laws_digitsOk.l0 kq l0 l0 (l0.length : Int) x7_1 = some r) ∧ Aside0 (kq ≤ k) ∧ Drawn0 w w')
  case atStart => exact ⟨(0), (by first | rfl | (simp; done) | (simp [*]; done)), H', ⟨Nat.le_refl _⟩, by repeat (first | exact Drawn0.refl _ | apply Drawn0.step)⟩
  case round =>
    clear H'
    obtain ⟨x7_1, rfl, HA, HK1, ⟨m1, rfl⟩⟩ := hrel
    cases gk with
    | zero => exact absurd HA.out (by simp [laws_digitsOk.l0])
    | succ k1 =>
      have H := HA.out
      clear HA
      simp only [laws_digitsOk.l0] at H
      by_cases c2 : x7_1 < (l0.length : Int)
      · rw [if_pos c2] at H
        have c2b0 : decide (x7_1 < (l0.length : Int)) = true := decide_eq_true c2
        clear c2
        by_cases c3 : 0 ≤ x7_1
        · rw [if_pos c3] at H
          have c3b0 : decide (0 ≤ x7_1) = true := decide_eq_true c3
          clear c3
          by_cases c4 : x7_1 < (l0.length : Int)
          · rw [if_pos c4] at H
            have c4b0 : decide (x7_1 < (l0.length : Int)) = true := decide_eq_true c4
            clear c4
            by_cases c5 : (rd l0 x7_1) < 48
            · rw [if_pos c5] at H
              have c5b0 : decide ((rd l0 x7_1) < 48) = true := decide_eq_true c5
              clear c5
              obtain rfl := Option.some.inj H
              have p101 : 0 ≤ (x7_1 : Int) := of_decide_eq_true (by first | (with_reducible assumption) | assumption)
              have q101 : x7_1 < (l0.length : Int) := of_decide_eq_true (by first | (with_reducible assumption) | assumption)
              obtain ⟨ad101, e101, hx101_0⟩ := Kd.at_int HR0.out x7_1 p101 q101
              cases e101
              replace p101 := eq_true p101
              replace q101 := eq_true q101
              go_wp2
              go_ret
              exact ⟨by first | rfl | (simp; done) | (simp [*]; done), by repeat (first | exact Drawn0.refl _ | apply Drawn0.step)⟩
            · rw [if_neg c5] at H
              have c5b0 : decide ((rd l0 x7_1) < 48) = false := decide_eq_false c5
              clear c5
              by_cases c6 : (rd l0 x7_1) > 57
              · rw [if_pos c6] at H
                have c6b0 : decide (57 < (rd l0 x7_1)) = true := decide_eq_true c6
                clear c6
                obtain rfl := Option.some.inj H
                have p101 : 0 ≤ (x7_1 : Int) := of_decide_eq_true (by first | (with_reducible assumption) | assumption)
                have q101 : x7_1 < (l0.length : Int) := of_decide_eq_true (by first | (with_reducible assumption) | assumption)
                obtain ⟨ad101, e101, hx101_0⟩ := Kd.at_int HR0.out x7_1 p101 q101
                cases e101
                replace p101 := eq_true p101
                replace q101 := eq_true q101
                go_wp2
                go_ret
                exact ⟨by first | rfl | (simp; done) | (simp [*]; done), by repeat (first | exact Drawn0.refl _ | apply Drawn0.step)⟩
              · rw [if_neg c6] at H
                have c6b0 : decide (57 < (rd l0 x7_1)) = false := decide_eq_false c6
                clear c6
                have H' := Aside0.mk H
                clear H
                have p101 : 0 ≤ (x7_1 : Int) := of_decide_eq_true (by first | (with_reducible assumption) | assumption)
                have q101 : x7_1 < (l0.length : Int) := of_decide_eq_true (by first | (with_reducible assumption) | assumption)
                obtain ⟨ad101, e101, hx101_0⟩ := Kd.at_int HR0.out x7_1 p101 q101
                cases e101
                replace p101 := eq_true p101
                replace q101 := eq_true q101
                go_wp2
                go_roundg k1
                case measure => have := HK1.out; omega
                case rel => exact ⟨(wrap64 (x7_1 + 1)), (by first | rfl | (simp; done) | (simp [*]; done)), H', ⟨by have := HK1.out; omega⟩, by repeat (first | exact Drawn0.refl _ | apply Drawn0.step)⟩
          · rw [if_neg c4] at H
            exact absurd H (by simp)
        · rw [if_neg c3] at H
          exact absurd H (by simp)
      · rw [if_neg c2] at H
        have c2b0 : decide (x7_1 < (l0.length : Int)) = false := decide_eq_false c2
        clear c2
        by_cases c7 : (l0.length : Int) ≥ 1
        · rw [if_pos c7] at H
          have c7b0 : decide (1 ≤ (l0.length : Int)) = true := decide_eq_true c7
          have c7b1 : decide (1 ≤ l0.length) = true := decide_eq_true (by omega)
          clear c7
          obtain rfl := Option.some.inj H
          go_wp2
          go_ret
          exact ⟨by first | rfl | (simp; done) | (simp [*]; done), by repeat (first | exact Drawn0.refl _ | apply Drawn0.step)⟩
        · rw [if_neg c7] at H
          have c7b0 : decide (1 ≤ (l0.length : Int)) = false := decide_eq_false c7
          have c7b1 : decide (1 ≤ l0.length) = false := decide_eq_false (by omega)
          clear c7
          obtain rfl := Option.some.inj H
          go_wp2
          go_ret
          exact ⟨by first | rfl | (simp; done) | (simp [*]; done), by repeat (first | exact Drawn0.refl _ | apply Drawn0.step)⟩

/-! ### spec_Join: function 7 -/
def spec_Join.l0 : Nat → List Int → List (List Int) → Int → Int → Option (List Int)
  | 0, _, _, _, _ => none
  | k + 1, x3, x7, x8, x9 => if x9 < x8 then (if 0 ≤ x9 then (if x9 < (x7.length : Int) then (if x3.length + (rd_L1 x7 x9).length < 140737488355328 then (spec_Join.l0 k (x3 ++ (rd_L1 x7 x9)) x7 x8 (wrap64 (x9 + 1))) else (none)) else (none)) else (none)) else (some x3)
def spec_Join.f (k : Nat) (l0 : List (List Int)) : Option (List Int) := spec_Join.l0 k (([] : List Int)) l0 (l0.length : Int) 0
theorem spec_Join.mono_l : ∀ k, (∀ y0 y1 y2 y3, LeO (spec_Join.l0 k y0 y1 y2 y3) (spec_Join.l0 (k + 1) y0 y1 y2 y3))
  | 0 => fun _ _ _ _ r h => by simp [spec_Join.l0] at h
  | k + 1 => by
    have ih0 := spec_Join.mono_l k
    · intro y0 y1 y2 y3
      unfold spec_Join.l0
      repeat' first
      | (with_reducible exact ih0 _ _ _ _)
      | (with_reducible exact LeO.refl _)
      | (with_reducible exact LeO.none _)
      | (with_reducible refine LeO.ite ?_ ?_)
      | (with_reducible refine LeO.bind ?_ (fun _ => ?_))
      | exact ih0 _ _ _ _
      | exact LeO.none _
      | refine LeO.ite ?_ ?_
      | refine LeO.bind ?_ (fun _ => ?_)
theorem spec_Join.mono : ∀ a0 k, LeO (spec_Join.f k a0) (spec_Join.f (k + 1) a0) := by
  intro a0 k
  have ih0 := spec_Join.mono_l k
  unfold spec_Join.f
  repeat' first
      | (with_reducible exact ih0 _ _ _ _)
      | (with_reducible exact LeO.refl _)
      | (with_reducible exact LeO.none _)
      | (with_reducible refine LeO.ite ?_ ?_)
      | (with_reducible refine LeO.bind ?_ (fun _ => ?_))
      | exact ih0 _ _ _ _
      | exact LeO.none _
      | refine LeO.ite ?_ ?_
      | refine LeO.bind ?_ (fun _ => ?_)
set_option maxHeartbeats 8000000 in
set_option maxRecDepth 100000 in
theorem spec_Join.calls (k : Nat) (A0 : Option Addr) (c0 : Nat) (l0 : List (List Int)) (r : List Int) (w : World) (hr0 : Kd.C (Kd.slice 5 (Kd.int .u8)) w A0 l0.length l0) (hc0 : l0.length ≤ c0) (h : spec_Join.f k l0 = some r) :
    Calls Tryd.prog 7 #[.slice A0 l0.length c0] w fun e w' => ∃ v0_ : Value, e = .returned (v0_) ∧ Kd.R (Kd.int .u8) 5 w' w.heap.size (fun _ => True) v0_ r ∧ Below w.heap.size w w' := by
  have HR0 := Aside0.mk hr0
  have HC0 := Aside0.mk hc0
  clear hr0 hc0
  have HB := Aside0.mk (Below.refl w.heap.size w)
  have H : (spec_Join.l0 k (([] : List Int)) l0 (l0.length : Int) 0) = some r := h
  clear h
  obtain ⟨y102, hy102⟩ : ∃ y_ : List Int, y_ = (([] : List Int)) := ⟨_, rfl⟩
  replace H : (spec_Join.l0 k y102 l0 (l0.length : Int) 0) = some r := by first | (rw [hy102]; with_reducible exact H) | (have H2_ := (Option.bind_some _ _).symm.trans H; rw [hy102]; with_reducible exact H2_) | (have H2_ := (Option.bind_some _ _).symm.trans H; with_reducible exact H2_) | with_reducible exact H | (rw [hy102]; exact H) | exact H
  have Ny102 := Aside0.mk hy102
  clear hy102
  have H' := Aside0.mk H
  clear H
  go_enter Tryd.func7, Tryd.ntmps7
  go_wp2_with (first | ((with_reducible refine gate_dst (N := 6) rfl ?_); refine Kd.R_lit (Kd.int .u8) _ 5 ?hg (N := 6) ?hd (xs := ([] : List Int)) (inner := []) (ok := fun _ => True) (okp := fun _ => True) ?hr ?hp (fun _ hk => hk) trivial (Below.refl _ _) (Nat.le_refl _) (by simp) ?_; (case hd => rfl); (case hg => rfl); (case hr => first | (go_simp; done) | (go_simp; rfl)); (case hp => exact (Reps.none _ _)); intro v103 w2 ho3 hb hg_ hnew_; clear hg_ hnew_; (first | rw [← Ny102.out] at ho3 | (simp only [Int.reduceToNat] at ho3; rw [← Ny102.out] at ho3)); have n0_ := Aside0.mk (Kd.R_lower ho3 (below_size (by repeat (first | (with_reducible first | exact HB.out | apply below_alloc | apply pw_below_drewN | apply below_drew1) | exact HB.out)))); have n1_ := Aside0.mk (below_step (by repeat (first | (with_reducible first | exact HB.out | apply below_alloc | apply pw_below_drewN | apply below_drew1) | exact HB.out)) hb); clear HB; have HO104 := n0_; have HB := n1_; clear n0_ n1_; clear hb ho3))
  go_loopg [3, 9] k (fun kq v3 v9 w' => ∃ (x3_1 : List Int) (x9_1 : Int), v9 = .int .i64 x9_1 ∧ Aside0 (spec_Join.l0 kq x3_1 l0 (l0.length : Int) x9_1 = some r) ∧ Aside0 (kq ≤ k) ∧ Aside0 (Kd.R (Kd.int .u8) 5 w' w.heap.size (fun _ => True) v3 x3_1) ∧ Aside0 (Below w.heap.size w w'))
  case atStart => exact ⟨(y102), (0), (by first | rfl | (simp; done) | (simp [*]; done)), H', ⟨Nat.le_refl _⟩, ⟨by (with_reducible repeat (first | apply Kd.R_alloc | apply Kd.R_drewN | apply Kd.R_drew)); exact HO104.out⟩, ⟨by repeat (first | (with_reducible first | exact HB.out | apply below_alloc | apply pw_below_drewN | apply below_drew1) | exact HB.out)⟩⟩
  case round =>
    clear H'
    try clear p2
    obtain ⟨x3_1, x9_1, rfl, HA, HK1, HO_3, HB⟩ := hrel
    cases gk with
    | zero => exact absurd HA.out (by simp [spec_Join.l0])
    | succ k1 =>
      have H := HA.out
      clear HA
      simp only [spec_Join.l0] at H
      by_cases c4 : x9_1 < (l0.length : Int)
      · rw [if_pos c4] at H
        have c4b0 : decide (x9_1 < (l0.length : Int)) = true := decide_eq_true c4
        clear c4
        by_cases c5 : 0 ≤ x9_1
        · rw [if_pos c5] at H
          have c5b0 : decide (0 ≤ x9_1) = true := decide_eq_true c5
          clear c5
          by_cases c6 : x9_1 < (l0.length : Int)
          · rw [if_pos c6] at H
            have c6b0 : decide (x9_1 < (l0.length : Int)) = true := decide_eq_true c6
            clear c6
            by_cases c7 : x3_1.length + (rd_L1 l0 x9_1).length < 140737488355328
            · rw [if_pos c7] at H
              have LMc7 := Aside0.mk c7
              clear c7
              obtain ⟨y106, hy106⟩ : ∃ y_ : List Int, y_ = (x3_1 ++ (rd_L1 l0 x9_1)) := ⟨_, rfl⟩
              replace H : (spec_Join.l0 k1 y106 l0 (l0.length : Int) (wrap64 (x9_1 + 1))) = some r := by first | (rw [hy106]; with_reducible exact H) | (have H2_ := (Option.bind_some _ _).symm.trans H; rw [hy106]; with_reducible exact H2_) | (have H2_ := (Option.bind_some _ _).symm.trans H; with_reducible exact H2_) | with_reducible exact H | (rw [hy106]; exact H) | exact H
              have Ny106 := Aside0.mk hy106
              clear hy106
              have H' := Aside0.mk H
              clear H
              have p105 : 0 ≤ (x9_1 : Int) := of_decide_eq_true (by first | (with_reducible assumption) | assumption)
              have q105 : x9_1 < (l0.length : Int) := of_decide_eq_true (by first | (with_reducible assumption) | assumption)
              obtain ⟨ad105, A105_0, c105_0, e105, hx105_0, hl105_0, hi105_0⟩ := at_L1 HR0.out x9_1 p105 q105
              cases e105
              replace hx105_0 := (HB.out.cell (World.block_lt_of_cell? w _ hx105_0)).trans hx105_0
              have HR105_0 := Aside0.mk hi105_0
              have HC105_0 := Aside0.mk hl105_0
              clear hi105_0 hl105_0
              replace p105 := eq_true p105
              replace q105 := eq_true q105
              go_wp2_with (first | ((with_reducible refine gate_builtin (b := .append) (xs := #[.tmp 13, .tmp 14]) rfl ?_); at_builtin; refine Kd.R_append_rows (Kd.int .u8) (w0 := w) w.heap.size rfl (.tmp 13) (.tmp 14) 22 5 (.int .u8 0) 1 rfl Tryd.underlying22 info5 rfl (by decide) (by omega) u3 x3_1 (rd_L1 l0 x9_1) _ _ _ (fun _ => True) (fun _ => False) rfl rfl ?aO ?aR (fun _ _ h => h) (fun _ h => h.elim) ?aF ?aB ?aS ?aL ?_; (case aR => repeat (first | exact (Kd.C_below HR105_0.out HB.out) | (with_reducible refine Kd.C_alloc ?_ _) | (with_reducible refine Kd.C_drewN ?_ _) | (with_reducible refine Kd.C_drew ?_))); (case aB => exact (by repeat (first | (with_reducible first | exact HB.out | apply below_alloc | apply pw_below_drewN | apply below_drew1) | exact HB.out))); (case aF => exact (fun _ _ => trivial)); (case aO => exact (by (with_reducible repeat (first | apply Kd.R_alloc | apply Kd.R_drewN | apply Kd.R_drew)); exact HO_3.out)); (case aS => exact (below_size (by repeat (first | (with_reducible first | exact HB.out | apply below_alloc | apply pw_below_drewN | apply below_drew1) | exact HB.out)))); (case aL => have := LMc7.out; omega); intro v107 w8 ho hb hg hat; rw [← Ny106.out] at ho; have n0_ := Aside0.mk (hb); have n1_ := Aside0.mk (ho); clear HB; clear HO_3; have HB := n0_; have HO108 := n1_; clear n0_ n1_; clear ho hb hg hat))
              go_roundg k1
              case measure => have := HK1.out; omega
              case rel => exact ⟨(y106), (wrap64 (x9_1 + 1)), (by first | rfl | (simp; done) | (simp [*]; done)), H', ⟨by have := HK1.out; omega⟩, ⟨by (with_reducible repeat (first | apply Kd.R_alloc | apply Kd.R_drewN | apply Kd.R_drew)); exact HO108.out⟩, ⟨by repeat (first | (with_reducible first | exact HB.out | apply below_alloc | apply pw_below_drewN | apply below_drew1) | exact HB.out)⟩⟩
            · rw [if_neg c7] at H
              exact absurd H (by simp)
          · rw [if_neg c6] at H
            exact absurd H (by simp)
        · rw [if_neg c5] at H
          exact absurd H (by simp)
      · rw [if_neg c4] at H
        have c4b0 : decide (x9_1 < (l0.length : Int)) = false := decide_eq_false c4
        clear c4
        obtain rfl := Option.some.inj H
        go_wp2
        go_ret
        exact ⟨_, by first | rfl | (simp [errW_none, errW_some] <;> rfl) | (simp [*, errW_none, errW_some] <;> rfl), by (with_reducible repeat (first | apply Kd.R_alloc | apply Kd.R_drewN | apply Kd.R_drew)); exact HO_3.out, by repeat (first | (with_reducible first | exact HB.out | apply below_alloc | apply pw_below_drewN | apply below_drew1) | exact HB.out)⟩

/-! ### spec_Value: function 8 -/
def spec_Value.l0 : Nat → Int → List Int → Int → Int → Option (Int)
  | 0, _, _, _, _ => none
  | k + 1, x3, x6, x7, x8 => if x8 < x7 then (if 0 ≤ x8 then (if x8 < (x6.length : Int) then (spec_Value.l0 k (wrap64 ((wrap64 (10 * x3)) + (((rd x6 x8) - 48) % 256))) x6 x7 (wrap64 (x8 + 1))) else (none)) else (none)) else (some x3)
def spec_Value.f (k : Nat) (l0 : List Int) : Option (Int) := spec_Value.l0 k 0 l0 (l0.length : Int) 0
theorem spec_Value.mono_l : ∀ k, (∀ y0 y1 y2 y3, LeO (spec_Value.l0 k y0 y1 y2 y3) (spec_Value.l0 (k + 1) y0 y1 y2 y3))
  | 0 => fun _ _ _ _ r h => by simp [spec_Value.l0] at h
  | k + 1 => by
    have ih0 := spec_Value.mono_l k
    · intro y0 y1 y2 y3
      unfold spec_Value.l0
      repeat' first
      | (with_reducible exact ih0 _ _ _ _)
      | (with_reducible exact LeO.refl _)
      | (with_reducible exact LeO.none _)
      | (with_reducible refine LeO.ite ?_ ?_)
      | (with_reducible refine LeO.bind ?_ (fun _ => ?_))
      | exact ih0 _ _ _ _
      | exact LeO.none _
      | refine LeO.ite ?_ ?_
      | refine LeO.bind ?_ (fun _ => ?_)
theorem spec_Value.mono : ∀ a0 k, LeO (spec_Value.f k a0) (spec_Value.f (k + 1) a0) := by
  intro a0 k
  have ih0 := spec_Value.mono_l k
  unfold spec_Value.f
  repeat' first
      | (with_reducible exact ih0 _ _ _ _)
      | (with_reducible exact LeO.refl _)
      | (with_reducible exact LeO.none _)
      | (with_reducible refine LeO.ite ?_ ?_)
      | (with_reducible refine LeO.bind ?_ (fun _ => ?_))
      | exact ih0 _ _ _ _
      | exact LeO.none _
      | refine LeO.ite ?_ ?_
      | refine LeO.bind ?_ (fun _ => ?_)
set_option maxHeartbeats 8000000 in
set_option maxRecDepth 100000 in
theorem spec_Value.calls (k : Nat) (A0 : Option Addr) (c0 : Nat) (l0 : List Int) (r : Int) (w : World) (hr0 : Kd.C (Kd.int .u8) w A0 l0.length l0) (hc0 : l0.length ≤ c0) (h : spec_Value.f k l0 = some r) :
    Calls Tryd.prog 8 #[.slice A0 l0.length c0] w fun e w' => e = .returned (.int .i64 r) ∧ Drawn0 w w' := by
  have HR0 := Aside0.mk hr0
  have HC0 := Aside0.mk hc0
  clear hr0 hc0
  have H : (spec_Value.l0 k 0 l0 (l0.length : Int) 0) = some r := h
  clear h
  have H' := Aside0.mk H
  clear H
  go_enter Tryd.func8, Tryd.ntmps8
  go_wp2
  go_loopg [3, 8] k (fun kq v3 v8 w' => ∃ (x3_1 : Int) (x8_1 : Int), v3 = .int .i64 x3_1 ∧ v8 = .int .i64 x8_1 ∧ Aside0 (spec_Value.l0 kq x3_1 l0 (l0.length : Int) x8_1 = some r) ∧ Aside0 (kq ≤ k) ∧ Drawn0 w w')
  case atStart => exact ⟨(0), (0), (by first | rfl | (simp; done) | (simp [*]; done)), (by first | rfl | (simp; done) | (simp [*]; done)), H', ⟨Nat.le_refl _⟩, by repeat (first | exact Drawn0.refl _ | apply Drawn0.step)⟩
  case round =>
    clear H'
    obtain ⟨x3_1, x8_1, rfl, rfl, HA, HK1, ⟨m1, rfl⟩⟩ := hrel
    cases gk with
    | zero => exact absurd HA.out (by simp [spec_Value.l0])
    | succ k1 =>
      have H := HA.out
      clear HA
      simp only [spec_Value.l0] at H
      by_cases c2 : x8_1 < (l0.length : Int)
      · rw [if_pos c2] at H
        have c2b0 : decide (x8_1 < (l0.length : Int)) = true := decide_eq_true c2
        clear c2
        by_cases c3 : 0 ≤ x8_1
        · rw [if_pos c3] at H
          have c3b0 : decide (0 ≤ x8_1) = true := decide_eq_true c3
          clear c3
          by_cases c4 : x8_1 < (l0.length : Int)
          · rw [if_pos c4] at H
            have c4b0 : decide (x8_1 < (l0.length : Int)) = true := decide_eq_true c4
            clear c4
            have H' := Aside0.mk H
            clear H
            have p109 : 0 ≤ (x8_1 : Int) := of_decide_eq_true (by first | (with_reducible assumption) | assumption)
            have q109 : x8_1 < (l0.length : Int) := of_decide_eq_true (by first | (with_reducible assumption) | assumption)
            obtain ⟨ad109, e109, hx109_0⟩ := Kd.at_int HR0.out x8_1 p109 q109
            cases e109
            replace p109 := eq_true p109
            replace q109 := eq_true q109
            go_wp2
            go_roundg k1
            case measure => have := HK1.out; omega
            case rel => exact ⟨(wrap64 ((wrap64 (10 * x3_1)) + (((rd l0 x8_1) - 48) % 256))), (wrap64 (x8_1 + 1)), (by first | rfl | (simp; done) | (simp [*]; done)), (by first | rfl | (simp; done) | (simp [*]; done)), H', ⟨by have := HK1.out; omega⟩, by repeat (first | exact Drawn0.refl _ | apply Drawn0.step)⟩
          · rw [if_neg c4] at H
            exact absurd H (by simp)
        · rw [if_neg c3] at H
          exact absurd H (by simp)
      · rw [if_neg c2] at H
        have c2b0 : decide (x8_1 < (l0.length : Int)) = false := decide_eq_false c2
        clear c2
        obtain rfl := Option.some.inj H
        go_wp2
        go_ret
        exact ⟨by first | rfl | (simp; done) | (simp [*]; done), by repeat (first | exact Drawn0.refl _ | apply Drawn0.step)⟩

/-! ### tdstrconv_LenUint: function 20 -/
def tdstrconv_LenUint.f (a0 : Int) : Option (Int) := if a0 < 10 then (some 1) else (if a0 < 100 then (some 2) else (if a0 < 1000 then (some 3) else (if a0 < 10000 then (some 4) else (if a0 < 100000 then (some 5) else (if a0 < 1000000 then (some 6) else (if a0 < 10000000 then (some 7) else (if a0 < 100000000 then (some 8) else (if a0 < 1000000000 then (some 9) else (if a0 < 10000000000 then (some 10) else (if a0 < 100000000000 then (some 11) else (if a0 < 1000000000000 then (some 12) else (if a0 < 10000000000000 then (some 13) else (if a0 < 100000000000000 then (some 14) else (if a0 < 1000000000000000 then (some 15) else (if a0 < 10000000000000000 then (some 16) else (if a0 < 100000000000000000 then (some 17) else (if a0 < 1000000000000000000 then (some 18) else (if a0 < 10000000000000000000 then (some 19) else (some 20)))))))))))))))))))
set_option maxHeartbeats 8000000 in
set_option maxRecDepth 100000 in
theorem tdstrconv_LenUint.calls (a0 : Int) (r : Int) (w : World) (h : tdstrconv_LenUint.f a0 = some r) :
    Calls Tryd.prog 20 #[.int .u64 a0] w fun e w' => e = .returned (.int .i64 r) ∧ Drawn0 w w' := by
  have H : (if a0 < 10 then (some 1) else (if a0 < 100 then (some 2) else (if a0 < 1000 then (some 3) else (if a0 < 10000 then (some 4) else (if a0 < 100000 then (some 5) else (if a0 < 1000000 then (some 6) else (if a0 < 10000000 then (some 7) else (if a0 < 100000000 then (some 8) else (if a0 < 1000000000 then (some 9) else (if a0 < 10000000000 then (some 10) else (if a0 < 100000000000 then (some 11) else (if a0 < 1000000000000 then (some 12) else (if a0 < 10000000000000 then (some 13) else (if a0 < 100000000000000 then (some 14) else (if a0 < 1000000000000000 then (some 15) else (if a0 < 10000000000000000 then (some 16) else (if a0 < 100000000000000000 then (some 17) else (if a0 < 1000000000000000000 then (some 18) else (if a0 < 10000000000000000000 then (some 19) else (some 20)))))))))))))))))))) = some r := h
  clear h
  by_cases c2 : a0 < 10
  · rw [if_pos c2] at H
    have c2b0 : decide (a0 < 10) = true := decide_eq_true c2
    clear c2
    obtain rfl := Option.some.inj H
    go_enter Tryd.func20, Tryd.ntmps20
    go_wp2
    go_ret
    exact ⟨by first | rfl | (simp; done) | (simp [*]; done), by repeat (first | exact Drawn0.refl _ | apply Drawn0.step)⟩
  · rw [if_neg c2] at H
    have c2b0 : decide (a0 < 10) = false := decide_eq_false c2
    clear c2
    by_cases c3 : a0 < 100
    · rw [if_pos c3] at H
      have c3b0 : decide (a0 < 100) = true := decide_eq_true c3
      clear c3
      obtain rfl := Option.some.inj H
      go_enter Tryd.func20, Tryd.ntmps20
      go_wp2
      go_ret
      exact ⟨by first | rfl | (simp; done) | (simp [*]; done), by repeat (first | exact Drawn0.refl _ | apply Drawn0.step)⟩
    · rw [if_neg c3] at H
      have c3b0 : decide (a0 < 100) = false := decide_eq_false c3
      clear c3
      by_cases c4 : a0 < 1000
      · rw [if_pos c4] at H
        have c4b0 : decide (a0 < 1000) = true := decide_eq_true c4
        clear c4
        obtain rfl := Option.some.inj H
        go_enter Tryd.func20, Tryd.ntmps20
        go_wp2
        go_ret
        exact ⟨by first | rfl | (simp; done) | (simp [*]; done), by repeat (first | exact Drawn0.refl _ | apply Drawn0.step)⟩
      · rw [if_neg c4] at H
        have c4b0 : decide (a0 < 1000) = false := decide_eq_false c4
        clear c4
        by_cases c5 : a0 < 10000
        · rw [if_pos c5] at H
          have c5b0 : decide (a0 < 10000) = true := decide_eq_true c5
          clear c5
          obtain rfl := Option.some.inj H
          go_enter Tryd.func20, Tryd.ntmps20
          go_wp2
          go_ret
          exact ⟨by first | rfl | (simp; done) | (simp [*]; done), by repeat (first | exact Drawn0.refl _ | apply Drawn0.step)⟩
        · rw [if_neg c5] at H
          have c5b0 : decide (a0 < 10000) = false := decide_eq_false c5
          clear c5
          by_cases c6 : a0 < 100000
          · rw [if_pos c6] at H
            have c6b0 : decide (a0 < 100000) = true := decide_eq_true c6
            clear c6
            obtain rfl := Option.some.inj H
            go_enter Tryd.func20, Tryd.ntmps20
            go_wp2
            go_ret
            exact ⟨by first | rfl | (simp; done) | (simp [*]; done), by repeat (first | exact Drawn0.refl _ | apply Drawn0.step)⟩
          · rw [if_neg c6] at H
            have c6b0 : decide (a0 < 100000) = false := decide_eq_false c6
            clear c6
            by_cases c7 : a0 < 1000000
            · rw [if_pos c7] at H
              have c7b0 : decide (a0 < 1000000) = true := decide_eq_true c7
              clear c7
              obtain rfl := Option.some.inj H
              go_enter Tryd.func20, Tryd.ntmps20
              go_wp2
              go_ret
              exact ⟨by first | rfl | (simp; done) | (simp [*]; done), by repeat (first | exact Drawn0.refl _ | apply Drawn0.step)⟩
            · rw [if_neg c7] at H
              have c7b0 : decide (a0 < 1000000) = false := decide_eq_false c7
              clear c7
              by_cases c8 : a0 < 10000000
              · rw [if_pos c8] at H
                have c8b0 : decide (a0 < 10000000) = true := decide_eq_true c8
                clear c8
                obtain rfl := Option.some.inj H
                go_enter Tryd.func20, Tryd.ntmps20
                go_wp2
                go_ret
                exact ⟨by first | rfl | (simp; done) | (simp [*]; done), by repeat (first | exact Drawn0.refl _ | apply Drawn0.step)⟩
              · rw [if_neg c8] at H
                have c8b0 : decide (a0 < 10000000) = false := decide_eq_false c8
                clear c8
                by_cases c9 : a0 < 100000000
                · rw [if_pos c9] at H
                  have c9b0 : decide (a0 < 100000000) = true := decide_eq_true c9
                  clear c9
                  obtain rfl := Option.some.inj H
                  go_enter Tryd.func20, Tryd.ntmps20
                  go_wp2
                  go_ret
                  exact ⟨by first | rfl | (simp; done) | (simp [*]; done), by repeat (first | exact Drawn0.refl _ | apply Drawn0.step)⟩
                · rw [if_neg c9] at H
                  have c9b0 : decide (a0 < 100000000) = false := decide_eq_false c9
                  clear c9
                  by_cases c10 : a0 < 1000000000
                  · rw [if_pos c10] at H
                    have c10b0 : decide (a0 < 1000000000) = true := decide_eq_true c10
                    clear c10
                    obtain rfl := Option.some.inj H
                    go_enter Tryd.func20, Tryd.ntmps20
                    go_wp2
                    go_ret
                    exact ⟨by first | rfl | (simp; done) | (simp [*]; done), by repeat (first | exact Drawn0.refl _ | apply Drawn0.step)⟩
                  · rw [if_neg c10] at H
                    have c10b0 : decide (a0 < 1000000000) = false := decide_eq_false c10
                    clear c10
                    by_cases c11 : a0 < 10000000000
                    · rw [if_pos c11] at H
                      have c11b0 : decide (a0 < 10000000000) = true := decide_eq_true c11
                      clear c11
                      obtain rfl := Option.some.inj H
                      go_enter Tryd.func20, Tryd.ntmps20
                      go_wp2
                      go_ret
                      exact ⟨by first | rfl | (simp; done) | (simp [*]; done), by repeat (first | exact Drawn0.refl _ | apply Drawn0.step)⟩
                    · rw [if_neg c11] at H
                      have c11b0 : decide (a0 < 10000000000) = false := decide_eq_false c11
                      clear c11
                      by_cases c12 : a0 < 100000000000
                      · rw [if_pos c12] at H
                        have c12b0 : decide (a0 < 100000000000) = true := decide_eq_true c12
                        clear c12
                        obtain rfl := Option.some.inj H
                        go_enter Tryd.func20, Tryd.ntmps20
                        go_wp2
                        go_ret
                        exact ⟨by first | rfl | (simp; done) | (simp [*]; done), by repeat (first | exact Drawn0.refl _ | apply Drawn0.step)⟩
                      · rw [if_neg c12] at H
                        have c12b0 : decide (a0 < 100000000000) = false := decide_eq_false c12
                        clear c12
                        by_cases c13 : a0 < 1000000000000
                        · rw [if_pos c13] at H
                          have c13b0 : decide (a0 < 1000000000000) = true := decide_eq_true c13
                          clear c13
                          obtain rfl := Option.some.inj H
                          go_enter Tryd.func20, Tryd.ntmps20
                          go_wp2
                          go_ret
                          exact ⟨by first | rfl | (simp; done) | (simp [*]; done), by repeat (first | exact Drawn0.refl _ | apply Drawn0.step)⟩
                        · rw [if_neg c13] at H
                          have c13b0 : decide (a0 < 1000000000000) = false := decide_eq_false c13
                          clear c13
                          by_cases c14 : a0 < 10000000000000
                          · rw [if_pos c14] at H
                            have c14b0 : decide (a0 < 10000000000000) = true := decide_eq_true c14
                            clear c14
                            obtain rfl := Option.some.inj H
                            go_enter Tryd.func20, Tryd.ntmps20
                            go_wp2
                            go_ret
                            exact ⟨by first | rfl | (simp; done) | (simp [*]; done), by repeat (first | exact Drawn0.refl _ | apply Drawn0.step)⟩
                          · rw [if_neg c14] at H
                            have c14b0 : decide (a0 < 10000000000000) = false := decide_eq_false c14
                            clear c14
                            by_cases c15 : a0 < 100000000000000
                            · rw [if_pos c15] at H
                              have c15b0 : decide (a0 < 100000000000000) = true := decide_eq_true c15
                              clear c15
                              obtain rfl := Option.some.inj H
                              go_enter Tryd.func20, Tryd.ntmps20
                              go_wp2
                              go_ret
                              exact ⟨by first | rfl | (simp; done) | (simp [*]; done), by repeat (first | exact Drawn0.refl _ | apply Drawn0.step)⟩
                            · rw [if_neg c15] at H
                              have c15b0 : decide (a0 < 100000000000000) = false := decide_eq_false c15
                              clear c15
                              by_cases c16 : a0 < 1000000000000000
                              · rw [if_pos c16] at H
                                have c16b0 : decide (a0 < 1000000000000000) = true := decide_eq_true c16
                                clear c16
                                obtain rfl := Option.some.inj H
                                go_enter Tryd.func20, Tryd.ntmps20
                                go_wp2
                                go_ret
                                exact ⟨by first | rfl | (simp; done) | (simp [*]; done), by repeat (first | exact Drawn0.refl _ | apply Drawn0.step)⟩
                              · rw [if_neg c16] at H
                                have c16b0 : decide (a0 < 1000000000000000) = false := decide_eq_false c16
                                clear c16
                                by_cases c17 : a0 < 10000000000000000
                                · rw [if_pos c17] at H
                                  have c17b0 : decide (a0 < 10000000000000000) = true := decide_eq_true c17
                                  clear c17
                                  obtain rfl := Option.some.inj H
                                  go_enter Tryd.func20, Tryd.ntmps20
                                  go_wp2
                                  go_ret
                                  exact ⟨by first | rfl | (simp; done) | (simp [*]; done), by repeat (first | exact Drawn0.refl _ | apply Drawn0.step)⟩
                                · rw [if_neg c17] at H
                                  have c17b0 : decide (a0 < 10000000000000000) = false := decide_eq_false c17
                                  clear c17
                                  by_cases c18 : a0 < 100000000000000000
                                  · rw [if_pos c18] at H
                                    have c18b0 : decide (a0 < 100000000000000000) = true := decide_eq_true c18
                                    clear c18
                                    obtain rfl := Option.some.inj H
                                    go_enter Tryd.func20, Tryd.ntmps20
                                    go_wp2
                                    go_ret
                                    exact ⟨by first | rfl | (simp; done) | (simp [*]; done), by repeat (first | exact Drawn0.refl _ | apply Drawn0.step)⟩
                                  · rw [if_neg c18] at H
                                    have c18b0 : decide (a0 < 100000000000000000) = false := decide_eq_false c18
                                    clear c18
                                    by_cases c19 : a0 < 1000000000000000000
                                    · rw [if_pos c19] at H
                                      have c19b0 : decide (a0 < 1000000000000000000) = true := decide_eq_true c19
                                      clear c19
                                      obtain rfl := Option.some.inj H
                                      go_enter Tryd.func20, Tryd.ntmps20
                                      go_wp2
                                      go_ret
                                      exact ⟨by first | rfl | (simp; done) | (simp [*]; done), by repeat (first | exact Drawn0.refl _ | apply Drawn0.step)⟩
                                    · rw [if_neg c19] at H
                                      have c19b0 : decide (a0 < 1000000000000000000) = false := decide_eq_false c19
                                      clear c19
                                      by_cases c20 : a0 < 10000000000000000000
                                      · rw [if_pos c20] at H
                                        have c20b0 : decide (a0 < 10000000000000000000) = true := decide_eq_true c20
                                        clear c20
                                        obtain rfl := Option.some.inj H
                                        go_enter Tryd.func20, Tryd.ntmps20
                                        go_wp2
                                        go_ret
                                        exact ⟨by first | rfl | (simp; done) | (simp [*]; done), by repeat (first | exact Drawn0.refl _ | apply Drawn0.step)⟩
                                      · rw [if_neg c20] at H
                                        have c20b0 : decide (a0 < 10000000000000000000) = false := decide_eq_false c20
                                        clear c20
                                        obtain rfl := Option.some.inj H
                                        go_enter Tryd.func20, Tryd.ntmps20
                                        go_wp2
                                        go_ret
                                        exact ⟨by first | rfl | (simp; done) | (simp [*]; done), by repeat (first | exact Drawn0.refl _ | apply Drawn0.step)⟩

-- NOT PRINTED: function 27 (math_Float64frombits)

-- NOT PRINTED: function 21 (math_Inf)

-- NOT PRINTED: function 22 (math_Pow10)

-- NOT PRINTED: function 14 (tdstrconv_ParseDecimal)

/-! ### impl_own: function 15 -/
def impl_own.f (l0 : List Int) : Option (List Int) := (some (([] : List Int) : List Int)).bind fun y113 => (if y113.length + l0.length < 140737488355328 then (some (y113 ++ l0)) else (none))
set_option maxHeartbeats 8000000 in
set_option maxRecDepth 100000 in
theorem impl_own.calls (A0 : Option Addr) (c0 : Nat) (l0 : List Int) (r : List Int) (w : World) (hr0 : Kd.C (Kd.int .u8) w A0 l0.length l0) (hc0 : l0.length ≤ c0) (h : impl_own.f l0 = some r) :
    Calls Tryd.prog 15 #[.slice A0 l0.length c0] w fun e w' => ∃ v0_ : Value, e = .returned (v0_) ∧ Kd.R (Kd.int .u8) 5 w' w.heap.size (fun _ => True) v0_ r ∧ Below w.heap.size w w' := by
  have HR0 := Aside0.mk hr0
  have HC0 := Aside0.mk hc0
  clear hr0 hc0
  have HB := Aside0.mk (Below.refl w.heap.size w)
  have H : ((some (([] : List Int) : List Int)).bind fun y113 => (if y113.length + l0.length < 140737488355328 then (some (y113 ++ l0)) else (none))) = some r := h
  clear h
  obtain ⟨y113, hy113⟩ : ∃ y_ : List Int, y_ = (([] : List Int)) := ⟨_, rfl⟩
  replace H : (if y113.length + l0.length < 140737488355328 then (some (y113 ++ l0)) else (none)) = some r := by first | (rw [hy113]; with_reducible exact H) | (have H2_ := (Option.bind_some _ _).symm.trans H; rw [hy113]; with_reducible exact H2_) | (have H2_ := (Option.bind_some _ _).symm.trans H; with_reducible exact H2_) | with_reducible exact H | (rw [hy113]; exact H) | exact H
  have Ny113 := Aside0.mk hy113
  clear hy113
  by_cases c2 : y113.length + l0.length < 140737488355328
  · rw [if_pos c2] at H
    have LMc2 := Aside0.mk c2
    clear c2
    obtain ⟨y116, hy116⟩ : ∃ y_ : List Int, y_ = (y113 ++ l0) := ⟨_, rfl⟩
    replace H : (some y116) = some r := by first | (rw [hy116]; with_reducible exact H) | (have H2_ := (Option.bind_some _ _).symm.trans H; rw [hy116]; with_reducible exact H2_) | (have H2_ := (Option.bind_some _ _).symm.trans H; with_reducible exact H2_) | with_reducible exact H | (rw [hy116]; exact H) | exact H
    have Ny116 := Aside0.mk hy116
    clear hy116
    obtain rfl := Option.some.inj H
    go_enter Tryd.func15, Tryd.ntmps15
    go_wp2_with (first | ((with_reducible refine gate_dst (N := 3) rfl ?_); refine Kd.R_lit (Kd.int .u8) _ 5 ?hg (N := 3) ?hd (xs := ([] : List Int)) (inner := []) (ok := fun _ => True) (okp := fun _ => True) ?hr ?hp (fun _ hk => hk) trivial (Below.refl _ _) (Nat.le_refl _) (by simp) ?_; (case hd => rfl); (case hg => rfl); (case hr => first | (go_simp; done) | (go_simp; rfl)); (case hp => exact (Reps.none _ _)); intro v114 w3 ho4 hb hg_ hnew_; clear hg_ hnew_; (first | rw [← Ny113.out] at ho4 | (simp only [Int.reduceToNat] at ho4; rw [← Ny113.out] at ho4)); have n0_ := Aside0.mk (Kd.R_lower ho4 (below_size (by repeat (first | (with_reducible first | exact HB.out | apply below_alloc | apply pw_below_drewN | apply below_drew1) | exact HB.out)))); have n1_ := Aside0.mk (below_step (by repeat (first | (with_reducible first | exact HB.out | apply below_alloc | apply pw_below_drewN | apply below_drew1) | exact HB.out)) hb); clear HB; have HO115 := n0_; have HB := n1_; clear n0_ n1_; clear hb ho4) | ((with_reducible refine gate_builtin (b := .append) (xs := #[.tmp 3, .tmp 4]) rfl ?_); at_builtin; refine Kd.R_append_rows (Kd.int .u8) (w0 := w) w.heap.size rfl (.tmp 3) (.tmp 4) 22 5 (.int .u8 0) 1 rfl Tryd.underlying22 info5 rfl (by decide) (by omega) v114 y113 l0 _ _ _ (fun _ => True) (fun _ => False) rfl rfl ?aO ?aR (fun _ _ h => h) (fun _ h => h.elim) ?aF ?aB ?aS ?aL ?_; (case aR => repeat (first | exact (Kd.C_below HR0.out HB.out) | (with_reducible refine Kd.C_alloc ?_ _) | (with_reducible refine Kd.C_drewN ?_ _) | (with_reducible refine Kd.C_drew ?_))); (case aB => exact (by repeat (first | (with_reducible first | exact HB.out | apply below_alloc | apply pw_below_drewN | apply below_drew1) | exact HB.out))); (case aF => exact (fun _ _ => trivial)); (case aO => exact (by (with_reducible repeat (first | apply Kd.R_alloc | apply Kd.R_drewN | apply Kd.R_drew)); exact HO115.out)); (case aS => exact (below_size (by repeat (first | (with_reducible first | exact HB.out | apply below_alloc | apply pw_below_drewN | apply below_drew1) | exact HB.out)))); (case aL => have := LMc2.out; omega); intro v117 w5 ho hb hg hat; rw [← Ny116.out] at ho; have n0_ := Aside0.mk (hb); have n1_ := Aside0.mk (ho); clear HB; clear HO115; have HB := n0_; have HO118 := n1_; clear n0_ n1_; clear ho hb hg hat))
    go_ret
    exact ⟨_, by first | rfl | (simp [errW_none, errW_some] <;> rfl) | (simp [*, errW_none, errW_some] <;> rfl), by (with_reducible repeat (first | apply Kd.R_alloc | apply Kd.R_drewN | apply Kd.R_drew)); exact HO118.out, by repeat (first | (with_reducible first | exact HB.out | apply below_alloc | apply pw_below_drewN | apply below_drew1) | exact HB.out)⟩
  · rw [if_neg c2] at H
    exact absurd H (by simp)

-- impl_ReadDecimal: by hand (CParseDec)

end Go.Proofs.YtipfnfhglhflgaaDoor.PFnNumberDecimal
