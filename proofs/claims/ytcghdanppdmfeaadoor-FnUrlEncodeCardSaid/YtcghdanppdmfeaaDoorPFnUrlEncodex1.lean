-- Laid by a program of this session, out of the translation's print.
import Derived.Test.YtcghdanppdmfeaaDoorPFnUrlEncodex0
namespace Go.Proofs.YtcghdanppdmfeaaDoor.PFnUrlEncode
open Go.Proofs.YtcghdanppdmfeaaDoor.Own
open Go.RowKit Go.Proofs.YtcghdanppdmfeaaDoorW.PrintWords Go.Proofs.YtcghdanppdmfeaaDoorW.PrintLast Go.Proofs.YtcghdanppdmfeaaDoorW.PrintMore
attribute [local go_sem] max2_int min2_int max_two min_two max_three min_three max_four min_four   -- for this text's walks alone
set_option linter.unusedVariables false
set_option linter.unusedSimpArgs false

-- impl_Escaped: by hand (CTabU)

/-! ### laws_fewBytes: function 9 -/
def laws_fewBytes.l0 : Nat → List (List Int) → Int → Int → Option (Bool)
  | 0, _, _, _ => none
  | k + 1, x5, x6, x7 => if x7 < x6 then (if 0 ≤ x7 then (if x7 < (x5.length : Int) then (if ((rd_L1 x5 x7).length : Int) > 300 then (some false) else (laws_fewBytes.l0 k x5 x6 (wrap64 (x7 + 1)))) else (none)) else (none)) else (some true)
def laws_fewBytes.f (k : Nat) (l0 : List (List Int)) : Option (Bool) := laws_fewBytes.l0 k l0 (l0.length : Int) 0
theorem laws_fewBytes.mono_l : ∀ k, (∀ y0 y1 y2, LeO (laws_fewBytes.l0 k y0 y1 y2) (laws_fewBytes.l0 (k + 1) y0 y1 y2))
  | 0 => fun _ _ _ r h => by simp [laws_fewBytes.l0] at h
  | k + 1 => by
    have ih0 := laws_fewBytes.mono_l k
    · intro y0 y1 y2
      unfold laws_fewBytes.l0
      repeat' first
      | (with_reducible exact ih0 _ _ _)
      | (with_reducible exact LeO.refl _)
      | (with_reducible exact LeO.none _)
      | (with_reducible refine LeO.ite ?_ ?_)
      | (with_reducible refine LeO.bind ?_ (fun _ => ?_))
      | exact ih0 _ _ _
      | exact LeO.none _
      | refine LeO.ite ?_ ?_
      | refine LeO.bind ?_ (fun _ => ?_)
theorem laws_fewBytes.mono : ∀ a0 k, LeO (laws_fewBytes.f k a0) (laws_fewBytes.f (k + 1) a0) := by
  intro a0 k
  have ih0 := laws_fewBytes.mono_l k
  unfold laws_fewBytes.f
  repeat' first
      | (with_reducible exact ih0 _ _ _)
      | (with_reducible exact LeO.refl _)
      | (with_reducible exact LeO.none _)
      | (with_reducible refine LeO.ite ?_ ?_)
      | (with_reducible refine LeO.bind ?_ (fun _ => ?_))
      | exact ih0 _ _ _
      | exact LeO.none _
      | refine LeO.ite ?_ ?_
      | refine LeO.bind ?_ (fun _ => ?_)
set_option maxHeartbeats 8000000 in
set_option maxRecDepth 100000 in
theorem laws_fewBytes.calls (k : Nat) (A0 : Option Addr) (c0 : Nat) (l0 : List (List Int)) (r : Bool) (w : World) (hr0 : Kd.C (Kd.slice 5 (Kd.int .u8)) w A0 l0.length l0) (hc0 : l0.length ≤ c0) (h : laws_fewBytes.f k l0 = some r) :
    Calls Tryd.prog 9 #[.slice A0 l0.length c0] w fun e w' => e = .returned (.bool r) ∧ Drawn0 w w' := by
  have HR0 := Aside0.mk hr0
  have HC0 := Aside0.mk hc0
  clear hr0 hc0
  have H : (laws_fewBytes.l0 k l0 (l0.length : Int) 0) = some r := h
  clear h
  have H' := Aside0.mk H
  clear H
  go_enter Tryd.func9, Tryd.ntmps9
  go_wp2
  go_loopg [7] k (fun kq v7 w' => ∃ (x7_1 : Int), v7 = .int .i64 x7_1 ∧ Aside0 (laws_fewBytes.l0 kq l0 (l0.length : Int) x7_1 = some r) ∧ Aside0 (kq ≤ k) ∧ Drawn0 w w')
  case atStart => exact ⟨(0), (by first | rfl | (simp; done) | (simp [*]; done)), H', ⟨Nat.le_refl _⟩, by repeat (first | exact Drawn0.refl _ | apply Drawn0.step)⟩
  case round =>
    clear H'
    obtain ⟨x7_1, rfl, HA, HK1, ⟨m1, rfl⟩⟩ := hrel
    cases gk with
    | zero => exact absurd HA.out (by simp [laws_fewBytes.l0])
    | succ k1 =>
      have H := HA.out
      clear HA
      simp only [laws_fewBytes.l0] at H
      by_cases c2 : x7_1 < (l0.length : Int)
      · rw [if_pos c2] at H
        have c2b0 : decide (x7_1 < (l0.length : Int)) = true := decide_eq_true c2
        clear c2
        by_cases c3 : 0 ≤ x7_1
        · rw [if_pos c3] at H
          have c3b0 : decide (0 ≤ x7_1) = true := decide_eq_true c3
          clear c3
          by_cases c4 : x7_1 < (l0.length : Int)
          · rw [if_pos c4] at H
            have c4b0 : decide (x7_1 < (l0.length : Int)) = true := decide_eq_true c4
            clear c4
            by_cases c5 : ((rd_L1 l0 x7_1).length : Int) > 300
            · rw [if_pos c5] at H
              have c5b0 : decide (300 < ((rd_L1 l0 x7_1).length : Int)) = true := decide_eq_true c5
              have c5b1 : decide (300 < (rd_L1 l0 x7_1).length) = true := decide_eq_true (by omega)
              clear c5
              obtain rfl := Option.some.inj H
              have p101 : 0 ≤ (x7_1 : Int) := of_decide_eq_true (by first | (with_reducible assumption) | assumption)
              have q101 : x7_1 < (l0.length : Int) := of_decide_eq_true (by first | (with_reducible assumption) | assumption)
              obtain ⟨ad101, A101_0, c101_0, e101, hx101_0, hl101_0, hi101_0⟩ := at_L1 HR0.out x7_1 p101 q101
              cases e101
              have HR101_0 := Aside0.mk hi101_0
              have HC101_0 := Aside0.mk hl101_0
              clear hi101_0 hl101_0
              replace p101 := eq_true p101
              replace q101 := eq_true q101
              go_wp2
              go_ret
              exact ⟨by first | rfl | (simp; done) | (simp [*]; done), by repeat (first | exact Drawn0.refl _ | apply Drawn0.step)⟩
            · rw [if_neg c5] at H
              have c5b0 : decide (300 < ((rd_L1 l0 x7_1).length : Int)) = false := decide_eq_false c5
              have c5b1 : decide (300 < (rd_L1 l0 x7_1).length) = false := decide_eq_false (by omega)
              clear c5
              have H' := Aside0.mk H
              clear H
              have p101 : 0 ≤ (x7_1 : Int) := of_decide_eq_true (by first | (with_reducible assumption) | assumption)
              have q101 : x7_1 < (l0.length : Int) := of_decide_eq_true (by first | (with_reducible assumption) | assumption)
              obtain ⟨ad101, A101_0, c101_0, e101, hx101_0, hl101_0, hi101_0⟩ := at_L1 HR0.out x7_1 p101 q101
              cases e101
              have HR101_0 := Aside0.mk hi101_0
              have HC101_0 := Aside0.mk hl101_0
              clear hi101_0 hl101_0
              replace p101 := eq_true p101
              replace q101 := eq_true q101
              go_wp2
              go_roundg k1
              case measure => have := HK1.out; omega
              case rel => exact ⟨(wrap64 (x7_1 + 1)), (by first | rfl | (simp; done) | (simp [*]; done)), H', ⟨by have := HK1.out; omega⟩, by repeat (first | exact Drawn0.refl _ | apply Drawn0.step)⟩
          · rw [if_neg c4] at H
            exact absurd H (by simp)
        · rw [if_neg c3] at H
          exact absurd H (by simp)
      · rw [if_neg c2] at H
        have c2b0 : decide (x7_1 < (l0.length : Int)) = false := decide_eq_false c2
        clear c2
        obtain rfl := Option.some.inj H
        go_wp2
        go_ret
        exact ⟨by first | rfl | (simp; done) | (simp [*]; done), by repeat (first | exact Drawn0.refl _ | apply Drawn0.step)⟩

/-! ### spec_BytePlace: function 10 -/
def spec_BytePlace.l0 : Nat → Int → List Int → Int → Int → Option (Int)
  | 0, _, _, _, _ => none
  | k + 1, x1, x7, x8, x9 => if x9 < x8 then (if 0 ≤ x9 then (if x9 < (x7.length : Int) then (if (rd x7 x9) = x1 then (some x9) else (spec_BytePlace.l0 k x1 x7 x8 (wrap64 (x9 + 1)))) else (none)) else (none)) else (some (-1))
def spec_BytePlace.f (k : Nat) (l0 : List Int) (a1 : Int) : Option (Int) := spec_BytePlace.l0 k a1 l0 (l0.length : Int) 0
theorem spec_BytePlace.mono_l : ∀ k, (∀ y0 y1 y2 y3, LeO (spec_BytePlace.l0 k y0 y1 y2 y3) (spec_BytePlace.l0 (k + 1) y0 y1 y2 y3))
  | 0 => fun _ _ _ _ r h => by simp [spec_BytePlace.l0] at h
  | k + 1 => by
    have ih0 := spec_BytePlace.mono_l k
    · intro y0 y1 y2 y3
      unfold spec_BytePlace.l0
      repeat' first
      | (with_reducible exact ih0 _ _ _ _)
      | (with_reducible exact LeO.refl _)
      | (with_reducible exact LeO.none _)
      | (with_reducible refine LeO.ite ?_ ?_)
      | (with_reducible refine LeO.bind ?_ (fun _ => ?_))
      | exact ih0 _ _ _ _
      | exact LeO.none _
      | refine LeO.ite ?_ ?_
      | refine LeO.bind ?_ (fun _ => ?_)
theorem spec_BytePlace.mono : ∀ a0 a1 k, LeO (spec_BytePlace.f k a0 a1) (spec_BytePlace.f (k + 1) a0 a1) := by
  intro a0 a1 k
  have ih0 := spec_BytePlace.mono_l k
  unfold spec_BytePlace.f
  repeat' first
      | (with_reducible exact ih0 _ _ _ _)
      | (with_reducible exact LeO.refl _)
      | (with_reducible exact LeO.none _)
      | (with_reducible refine LeO.ite ?_ ?_)
      | (with_reducible refine LeO.bind ?_ (fun _ => ?_))
      | exact ih0 _ _ _ _
      | exact LeO.none _
      | refine LeO.ite ?_ ?_
      | refine LeO.bind ?_ (fun _ => ?_)
set_option maxHeartbeats 8000000 in
set_option maxRecDepth 100000 in
theorem spec_BytePlace.calls (k : Nat) (A0 : Option Addr) (c0 : Nat) (l0 : List Int) (a1 : Int) (r : Int) (w : World) (hr0 : Kd.C (Kd.int .u8) w A0 l0.length l0) (hc0 : l0.length ≤ c0) (h : spec_BytePlace.f k l0 a1 = some r) :
    Calls Tryd.prog 10 #[.slice A0 l0.length c0, .int .u8 a1] w fun e w' => e = .returned (.int .i64 r) ∧ Drawn0 w w' := by
  have HR0 := Aside0.mk hr0
  have HC0 := Aside0.mk hc0
  clear hr0 hc0
  have H : (spec_BytePlace.l0 k a1 l0 (l0.length : Int) 0) = some r := h
  clear h
  have H' := Aside0.mk H
  clear H
  go_enter Tryd.func10, Tryd.ntmps10
  go_wp2
  go_loopg [9] k (fun kq v9 w' => ∃ (x9_1 : Int), v9 = .int .i64 x9_1 ∧ Aside0 (spec_BytePlace.l0 kq a1 l0 (l0.length : Int) x9_1 = some r) ∧ Aside0 (kq ≤ k) ∧ Drawn0 w w')
  case atStart => exact ⟨(0), (by first | rfl | (simp; done) | (simp [*]; done)), H', ⟨Nat.le_refl _⟩, by repeat (first | exact Drawn0.refl _ | apply Drawn0.step)⟩
  case round =>
    clear H'
    try clear c1
    try clear p2
    obtain ⟨x9_1, rfl, HA, HK1, ⟨m1, rfl⟩⟩ := hrel
    cases gk with
    | zero => exact absurd HA.out (by simp [spec_BytePlace.l0])
    | succ k1 =>
      have H := HA.out
      clear HA
      simp only [spec_BytePlace.l0] at H
      by_cases c3 : x9_1 < (l0.length : Int)
      · rw [if_pos c3] at H
        have c3b0 : decide (x9_1 < (l0.length : Int)) = true := decide_eq_true c3
        clear c3
        by_cases c4 : 0 ≤ x9_1
        · rw [if_pos c4] at H
          have c4b0 : decide (0 ≤ x9_1) = true := decide_eq_true c4
          clear c4
          by_cases c5 : x9_1 < (l0.length : Int)
          · rw [if_pos c5] at H
            have c5b0 : decide (x9_1 < (l0.length : Int)) = true := decide_eq_true c5
            clear c5
            by_cases c6 : (rd l0 x9_1) = a1
            · rw [if_pos c6] at H
              have c6b0 : ((rd l0 x9_1) == a1) = true := beq_iff_eq.mpr c6
              have c6b1 : ((rd l0 x9_1) != a1) = false := bne_eq_false_iff_eq.mpr c6
              clear c6
              obtain rfl := Option.some.inj H
              have p102 : 0 ≤ (x9_1 : Int) := of_decide_eq_true (by first | (with_reducible assumption) | assumption)
              have q102 : x9_1 < (l0.length : Int) := of_decide_eq_true (by first | (with_reducible assumption) | assumption)
              obtain ⟨ad102, e102, hx102_0⟩ := Kd.at_int HR0.out x9_1 p102 q102
              cases e102
              replace p102 := eq_true p102
              replace q102 := eq_true q102
              go_wp2
              go_ret
              exact ⟨by first | rfl | (simp; done) | (simp [*]; done), by repeat (first | exact Drawn0.refl _ | apply Drawn0.step)⟩
            · rw [if_neg c6] at H
              have c6b0 : ((rd l0 x9_1) == a1) = false := beq_eq_false_iff_ne.mpr c6
              have c6b1 : ((rd l0 x9_1) != a1) = true := bne_iff_ne.mpr c6
              have H' := Aside0.mk H
              clear H
              have p102 : 0 ≤ (x9_1 : Int) := of_decide_eq_true (by first | (with_reducible assumption) | assumption)
              have q102 : x9_1 < (l0.length : Int) := of_decide_eq_true (by first | (with_reducible assumption) | assumption)
              obtain ⟨ad102, e102, hx102_0⟩ := Kd.at_int HR0.out x9_1 p102 q102
              cases e102
              replace p102 := eq_true p102
              replace q102 := eq_true q102
              go_wp2
              go_roundg k1
              case measure => have := HK1.out; omega
              case rel => exact ⟨(wrap64 (x9_1 + 1)), (by first | rfl | (simp; done) | (simp [*]; done)), H', ⟨by have := HK1.out; omega⟩, by repeat (first | exact Drawn0.refl _ | apply Drawn0.step)⟩
          · rw [if_neg c5] at H
            exact absurd H (by simp)
        · rw [if_neg c4] at H
          exact absurd H (by simp)
      · rw [if_neg c3] at H
        have c3b0 : decide (x9_1 < (l0.length : Int)) = false := decide_eq_false c3
        clear c3
        obtain rfl := Option.some.inj H
        go_wp2
        go_ret
        exact ⟨by first | rfl | (simp; done) | (simp [*]; done), by repeat (first | exact Drawn0.refl _ | apply Drawn0.step)⟩

/-! ### spec_Join: function 11 -/
def spec_Join.l0 : Nat → List Int → List (List Int) → Int → Int → Option (List Int)
  | 0, _, _, _, _ => none
  | k + 1, x3, x7, x8, x9 => if x9 < x8 then (if 0 ≤ x9 then (if x9 < (x7.length : Int) then (if x3.length + (rd_L1 x7 x9).length < 140737488355328 then (spec_Join.l0 k (x3 ++ (rd_L1 x7 x9)) x7 x8 (wrap64 (x9 + 1))) else (none)) else (none)) else (none)) else (some x3)
def spec_Join.f (k : Nat) (l0 : List (List Int)) : Option (List Int) := spec_Join.l0 k (([] : List Int)) l0 (l0.length : Int) 0
theorem spec_Join.mono_l : ∀ k, (∀ y0 y1 y2 y3, LeO (spec_Join.l0 k y0 y1 y2 y3) (spec_Join.l0 (k + 1) y0 y1 y2 y3))
  | 0 => fun _ _ _ _ r h => by simp [spec_Join.l0] at h
  | k + 1 => by
    have ih0 := spec_Join.mono_l k
    · intro y0 y1 y2 y3
      unfold spec_Join.l0
      repeat' first
      | (with_reducible exact ih0 _ _ _ _)
      | (with_reducible exact LeO.refl _)
      | (with_reducible exact LeO.none _)
      | (with_reducible refine LeO.ite ?_ ?_)
      | (with_reducible refine LeO.bind ?_ (fun _ => ?_))
      | exact ih0 _ _ _ _
      | exact LeO.none _
      | refine LeO.ite ?_ ?_
      | refine LeO.bind ?_ (fun _ => ?_)
theorem spec_Join.mono : ∀ a0 k, LeO (spec_Join.f k a0) (spec_Join.f (k + 1) a0) := by
  intro a0 k
  have ih0 := spec_Join.mono_l k
  unfold spec_Join.f
  repeat' first
      | (with_reducible exact ih0 _ _ _ _)
      | (with_reducible exact LeO.refl _)
      | (with_reducible exact LeO.none _)
      | (with_reducible refine LeO.ite ?_ ?_)
      | (with_reducible refine LeO.bind ?_ (fun _ => ?_))
      | exact ih0 _ _ _ _
      | exact LeO.none _
      | refine LeO.ite ?_ ?_
      | refine LeO.bind ?_ (fun _ => ?_)
set_option maxHeartbeats 8000000 in
set_option maxRecDepth 100000 in
theorem spec_Join.calls (k : Nat) (A0 : Option Addr) (c0 : Nat) (l0 : List (List Int)) (r : List Int) (w : World) (hr0 : Kd.C (Kd.slice 5 (Kd.int .u8)) w A0 l0.length l0) (hc0 : l0.length ≤ c0) (h : spec_Join.f k l0 = some r) :
    Calls Tryd.prog 11 #[.slice A0 l0.length c0] w fun e w' => ∃ v0_ : Value, e = .returned (v0_) ∧ Kd.R (Kd.int .u8) 5 w' w.heap.size (fun _ => True) v0_ r ∧ Below w.heap.size w w' := by
  have HR0 := Aside0.mk hr0
  have HC0 := Aside0.mk hc0
  clear hr0 hc0
  have HB := Aside0.mk (Below.refl w.heap.size w)
  have H : (spec_Join.l0 k (([] : List Int)) l0 (l0.length : Int) 0) = some r := h
  clear h
  obtain ⟨y103, hy103⟩ : ∃ y_ : List Int, y_ = (([] : List Int)) := ⟨_, rfl⟩
  replace H : (spec_Join.l0 k y103 l0 (l0.length : Int) 0) = some r := by first | (rw [hy103]; with_reducible exact H) | (have H2_ := (Option.bind_some _ _).symm.trans H; rw [hy103]; with_reducible exact H2_) | (have H2_ := (Option.bind_some _ _).symm.trans H; with_reducible exact H2_) | with_reducible exact H | (rw [hy103]; exact H) | exact H
  have Ny103 := Aside0.mk hy103
  clear hy103
  have H' := Aside0.mk H
  clear H
  go_enter Tryd.func11, Tryd.ntmps11
  go_wp2_with (first | ((with_reducible refine gate_dst (N := 6) rfl ?_); refine Kd.R_lit (Kd.int .u8) _ 5 ?hg (N := 6) ?hd (xs := ([] : List Int)) (inner := []) (ok := fun _ => True) (okp := fun _ => True) ?hr ?hp (fun _ hk => hk) trivial (Below.refl _ _) (Nat.le_refl _) (by simp) ?_; (case hd => rfl); (case hg => rfl); (case hr => first | (go_simp; done) | (go_simp; rfl)); (case hp => exact (Reps.none _ _)); intro v104 w2 ho3 hb hg_ hnew_; clear hg_ hnew_; (first | rw [← Ny103.out] at ho3 | (simp only [Int.reduceToNat] at ho3; rw [← Ny103.out] at ho3)); have n0_ := Aside0.mk (Kd.R_lower ho3 (below_size (by repeat (first | (with_reducible first | exact HB.out | apply below_alloc | apply pw_below_drewN | apply below_drew1) | exact HB.out)))); have n1_ := Aside0.mk (below_step (by repeat (first | (with_reducible first | exact HB.out | apply below_alloc | apply pw_below_drewN | apply below_drew1) | exact HB.out)) hb); clear HB; have HO105 := n0_; have HB := n1_; clear n0_ n1_; clear hb ho3))
  go_loopg [3, 9] k (fun kq v3 v9 w' => ∃ (x3_1 : List Int) (x9_1 : Int), v9 = .int .i64 x9_1 ∧ Aside0 (spec_Join.l0 kq x3_1 l0 (l0.length : Int) x9_1 = some r) ∧ Aside0 (kq ≤ k) ∧ Aside0 (Kd.R (Kd.int .u8) 5 w' w.heap.size (fun _ => True) v3 x3_1) ∧ Aside0 (Below w.heap.size w w'))
  case atStart => exact ⟨(y103), (0), (by first | rfl | (simp; done) | (simp [*]; done)), H', ⟨Nat.le_refl _⟩, ⟨by (with_reducible repeat (first | apply Kd.R_alloc | apply Kd.R_drewN | apply Kd.R_drew)); exact HO105.out⟩, ⟨by repeat (first | (with_reducible first | exact HB.out | apply below_alloc | apply pw_below_drewN | apply below_drew1) | exact HB.out)⟩⟩
  case round =>
    clear H'
    try clear c1
    try clear p2
    obtain ⟨x3_1, x9_1, rfl, HA, HK1, HO_3, HB⟩ := hrel
    cases gk with
    | zero => exact absurd HA.out (by simp [spec_Join.l0])
    | succ k1 =>
      have H := HA.out
      clear HA
      simp only [spec_Join.l0] at H
      by_cases c4 : x9_1 < (l0.length : Int)
      · rw [if_pos c4] at H
        have c4b0 : decide (x9_1 < (l0.length : Int)) = true := decide_eq_true c4
        clear c4
        by_cases c5 : 0 ≤ x9_1
        · rw [if_pos c5] at H
          have c5b0 : decide (0 ≤ x9_1) = true := decide_eq_true c5
          clear c5
          by_cases c6 : x9_1 < (l0.length : Int)
          · rw [if_pos c6] at H
            have c6b0 : decide (x9_1 < (l0.length : Int)) = true := decide_eq_true c6
            clear c6
            by_cases c7 : x3_1.length + (rd_L1 l0 x9_1).length < 140737488355328
            · rw [if_pos c7] at H
              have LMc7 := Aside0.mk c7
              clear c7
              obtain ⟨y107, hy107⟩ : ∃ y_ : List Int, y_ = (x3_1 ++ (rd_L1 l0 x9_1)) := ⟨_, rfl⟩
              replace H : (spec_Join.l0 k1 y107 l0 (l0.length : Int) (wrap64 (x9_1 + 1))) = some r := by first | (rw [hy107]; with_reducible exact H) | (have H2_ := (Option.bind_some _ _).symm.trans H; rw [hy107]; with_reducible exact H2_) | (have H2_ := (Option.bind_some _ _).symm.trans H; with_reducible exact H2_) | with_reducible exact H | (rw [hy107]; exact H) | exact H
              have Ny107 := Aside0.mk hy107
              clear hy107
              have H' := Aside0.mk H
              clear H
              have p106 : 0 ≤ (x9_1 : Int) := of_decide_eq_true (by first | (with_reducible assumption) | assumption)
              have q106 : x9_1 < (l0.length : Int) := of_decide_eq_true (by first | (with_reducible assumption) | assumption)
              obtain ⟨ad106, A106_0, c106_0, e106, hx106_0, hl106_0, hi106_0⟩ := at_L1 HR0.out x9_1 p106 q106
              cases e106
              replace hx106_0 := (HB.out.cell (World.block_lt_of_cell? w _ hx106_0)).trans hx106_0
              have HR106_0 := Aside0.mk hi106_0
              have HC106_0 := Aside0.mk hl106_0
              clear hi106_0 hl106_0
              replace p106 := eq_true p106
              replace q106 := eq_true q106
              go_wp2_with (first | ((with_reducible refine gate_builtin (b := .append) (xs := #[.tmp 13, .tmp 14]) rfl ?_); at_builtin; refine Kd.R_append_rows (Kd.int .u8) (w0 := w) w.heap.size rfl (.tmp 13) (.tmp 14) 24 5 (.int .u8 0) 1 rfl Tryd.underlying24 info5 rfl (by decide) (by omega) u3 x3_1 (rd_L1 l0 x9_1) _ _ _ (fun _ => True) (fun _ => False) rfl rfl ?aO ?aR (fun _ _ h => h) (fun _ h => h.elim) ?aF ?aB ?aS ?aL ?_; (case aR => repeat (first | exact (Kd.C_below HR106_0.out HB.out) | (with_reducible refine Kd.C_alloc ?_ _) | (with_reducible refine Kd.C_drewN ?_ _) | (with_reducible refine Kd.C_drew ?_))); (case aB => exact (by repeat (first | (with_reducible first | exact HB.out | apply below_alloc | apply pw_below_drewN | apply below_drew1) | exact HB.out))); (case aF => exact (fun _ _ => trivial)); (case aO => exact (by (with_reducible repeat (first | apply Kd.R_alloc | apply Kd.R_drewN | apply Kd.R_drew)); exact HO_3.out)); (case aS => exact (below_size (by repeat (first | (with_reducible first | exact HB.out | apply below_alloc | apply pw_below_drewN | apply below_drew1) | exact HB.out)))); (case aL => have := LMc7.out; omega); intro v108 w8 ho hb hg hat; rw [← Ny107.out] at ho; have n0_ := Aside0.mk (hb); have n1_ := Aside0.mk (ho); clear HB; clear HO_3; have HB := n0_; have HO109 := n1_; clear n0_ n1_; clear ho hb hg hat))
              go_roundg k1
              case measure => have := HK1.out; omega
              case rel => exact ⟨(y107), (wrap64 (x9_1 + 1)), (by first | rfl | (simp; done) | (simp [*]; done)), H', ⟨by have := HK1.out; omega⟩, ⟨by (with_reducible repeat (first | apply Kd.R_alloc | apply Kd.R_drewN | apply Kd.R_drew)); exact HO109.out⟩, ⟨by repeat (first | (with_reducible first | exact HB.out | apply below_alloc | apply pw_below_drewN | apply below_drew1) | exact HB.out)⟩⟩
            · rw [if_neg c7] at H
              exact absurd H (by simp)
          · rw [if_neg c6] at H
            exact absurd H (by simp)
        · rw [if_neg c5] at H
          exact absurd H (by simp)
      · rw [if_neg c4] at H
        have c4b0 : decide (x9_1 < (l0.length : Int)) = false := decide_eq_false c4
        clear c4
        obtain rfl := Option.some.inj H
        go_wp2
        go_ret
        exact ⟨_, by first | rfl | (simp [errW_none, errW_some] <;> rfl) | (simp [*, errW_none, errW_some] <;> rfl), by (with_reducible repeat (first | apply Kd.R_alloc | apply Kd.R_drewN | apply Kd.R_drew)); exact HO_3.out, by repeat (first | (with_reducible first | exact HB.out | apply below_alloc | apply pw_below_drewN | apply below_drew1) | exact HB.out)⟩

/-! ### spec_Percent: function 12 -/
def spec_Percent.f (a0 : Int) (a1 : Bool) : Option (List Int) := if a1 = true then (if 0 ≤ (a0 / 16) then (if (a0 / 16) < 16 then (if 0 ≤ (Go.bits .and .u8 a0 15) then (if (Go.bits .and .u8 a0 15) < 16 then (some (([37, bt (⟨#[48, 49, 50, 51, 52, 53, 54, 55, 56, 57, 97, 98, 99, 100, 101, 102]⟩ : ByteArray) (a0 / 16), bt (⟨#[48, 49, 50, 51, 52, 53, 54, 55, 56, 57, 97, 98, 99, 100, 101, 102]⟩ : ByteArray) (Go.bits .and .u8 a0 15)] : List Int))) else (none)) else (none)) else (none)) else (none)) else (if 0 ≤ (a0 / 16) then (if (a0 / 16) < 16 then (if 0 ≤ (Go.bits .and .u8 a0 15) then (if (Go.bits .and .u8 a0 15) < 16 then (some (([37, bt (⟨#[48, 49, 50, 51, 52, 53, 54, 55, 56, 57, 65, 66, 67, 68, 69, 70]⟩ : ByteArray) (a0 / 16), bt (⟨#[48, 49, 50, 51, 52, 53, 54, 55, 56, 57, 65, 66, 67, 68, 69, 70]⟩ : ByteArray) (Go.bits .and .u8 a0 15)] : List Int))) else (none)) else (none)) else (none)) else (none))
def spec_Percent.T4 : Bool × List (List Nat × List Nat) := (true, [([], []), ([], []), ([1], [1]), ([0, 2], [0, 2]), ([], []), ([], []), ([5], [5]), ([4, 6], [4, 6]), ([3, 7], [3, 7]), ([8, 0, 1, 2, 3, 4, 5, 6, 7, 8], [8])])
def spec_Percent.B4 : List Nat := [0, 0, 2, 7, 0, 0, 32, 112, 255, 511]
theorem spec_Percent.tab4 : rtab .any (opsOf Tryd.f12 4) = spec_Percent.T4 := by kernel_rfl
theorem spec_Percent.bits4 : waitsOk spec_Percent.T4.2 spec_Percent.B4 = true := by kernel_rfl
set_option maxHeartbeats 8000000 in
set_option maxRecDepth 100000 in
theorem spec_Percent.calls (a0 : Int) (a1 : Bool) (r : List Int) (w : World) (h : spec_Percent.f a0 a1 = some r) :
    Calls Tryd.prog 12 #[.int .u8 a0, .bool a1] w fun e w' => ∃ v0_ : Value, e = .returned (v0_) ∧ Kd.R (Kd.int .u8) 5 w' w.heap.size (fun _ => True) v0_ r ∧ Below w.heap.size w w' := by
  have HB := Aside0.mk (Below.refl w.heap.size w)
  have H : (if a1 = true then (if 0 ≤ (a0 / 16) then (if (a0 / 16) < 16 then (if 0 ≤ (Go.bits .and .u8 a0 15) then (if (Go.bits .and .u8 a0 15) < 16 then (some (([37, bt (⟨#[48, 49, 50, 51, 52, 53, 54, 55, 56, 57, 97, 98, 99, 100, 101, 102]⟩ : ByteArray) (a0 / 16), bt (⟨#[48, 49, 50, 51, 52, 53, 54, 55, 56, 57, 97, 98, 99, 100, 101, 102]⟩ : ByteArray) (Go.bits .and .u8 a0 15)] : List Int))) else (none)) else (none)) else (none)) else (none)) else (if 0 ≤ (a0 / 16) then (if (a0 / 16) < 16 then (if 0 ≤ (Go.bits .and .u8 a0 15) then (if (Go.bits .and .u8 a0 15) < 16 then (some (([37, bt (⟨#[48, 49, 50, 51, 52, 53, 54, 55, 56, 57, 65, 66, 67, 68, 69, 70]⟩ : ByteArray) (a0 / 16), bt (⟨#[48, 49, 50, 51, 52, 53, 54, 55, 56, 57, 65, 66, 67, 68, 69, 70]⟩ : ByteArray) (Go.bits .and .u8 a0 15)] : List Int))) else (none)) else (none)) else (none)) else (none))) = some r := h
  clear h
  by_cases c3 : a1 = true
  · subst c3
    have H1 : (if 0 ≤ (a0 / 16) then (if (a0 / 16) < 16 then (if 0 ≤ (Go.bits .and .u8 a0 15) then (if (Go.bits .and .u8 a0 15) < 16 then (some (([37, bt (⟨#[48, 49, 50, 51, 52, 53, 54, 55, 56, 57, 97, 98, 99, 100, 101, 102]⟩ : ByteArray) (a0 / 16), bt (⟨#[48, 49, 50, 51, 52, 53, 54, 55, 56, 57, 97, 98, 99, 100, 101, 102]⟩ : ByteArray) (Go.bits .and .u8 a0 15)] : List Int))) else (none)) else (none)) else (none)) else (none)) = some r := by rw [if_pos rfl] at H; exact H
    clear H
    have H := H1
    clear H1
    obtain ⟨ji4, hji4⟩ : ∃ j_ : Int, (a0 / 16) = j_ := ⟨_, rfl⟩
    replace H : (if 0 ≤ (ji4) then (if (ji4) < 16 then (if 0 ≤ (Go.bits .and .u8 a0 15) then (if (Go.bits .and .u8 a0 15) < 16 then (some (([37, bt (⟨#[48, 49, 50, 51, 52, 53, 54, 55, 56, 57, 97, 98, 99, 100, 101, 102]⟩ : ByteArray) (ji4), bt (⟨#[48, 49, 50, 51, 52, 53, 54, 55, 56, 57, 97, 98, 99, 100, 101, 102]⟩ : ByteArray) (Go.bits .and .u8 a0 15)] : List Int))) else (none)) else (none)) else (none)) else (none)) = some r := by first | (rw [hji4] at H; exact H) | (simp only [hji4] at H ⊢; exact H)
    by_cases c5 : 0 ≤ (ji4)
    · rw [if_pos c5] at H
      have c5b0 : decide (0 ≤ (ji4)) = true := decide_eq_true c5
      clear c5
      by_cases c6 : (ji4) < 16
      · rw [if_pos c6] at H
        have c6b0 : decide ((ji4) < 16) = true := decide_eq_true c6
        clear c6
        by_cases c8 : 0 ≤ (Go.bits .and .u8 a0 15)
        · rw [if_pos c8] at H
          have c8b0 : decide (0 ≤ (Go.bits .and .u8 a0 15)) = true := decide_eq_true c8
          clear c8
          by_cases c9 : (Go.bits .and .u8 a0 15) < 16
          · rw [if_pos c9] at H
            have c9b0 : decide ((Go.bits .and .u8 a0 15) < 16) = true := decide_eq_true c9
            clear c9
            obtain ⟨y110, hy110⟩ : ∃ y_ : List Int, y_ = (([37, bt (⟨#[48, 49, 50, 51, 52, 53, 54, 55, 56, 57, 97, 98, 99, 100, 101, 102]⟩ : ByteArray) (ji4), bt (⟨#[48, 49, 50, 51, 52, 53, 54, 55, 56, 57, 97, 98, 99, 100, 101, 102]⟩ : ByteArray) (Go.bits .and .u8 a0 15)] : List Int)) := ⟨_, rfl⟩
            replace H : (some y110) = some r := by first | (rw [hy110]; with_reducible exact H) | (have H2_ := (Option.bind_some _ _).symm.trans H; rw [hy110]; with_reducible exact H2_) | (have H2_ := (Option.bind_some _ _).symm.trans H; with_reducible exact H2_) | with_reducible exact H | (rw [hy110]; exact H) | exact H
            have Ny110 := Aside0.mk hy110
            clear hy110
            obtain rfl := Option.some.inj H
            go_enter Tryd.func12, Tryd.ntmps12
            try go_wp2
            have n0_ := Aside0.mk (below_drew1 HB.out)
            clear HB
            have HB := n0_
            clear n0_
            have p7 : 0 ≤ ((ji4) : Int) := of_decide_eq_true (by first | (with_reducible assumption) | assumption)
            have q7 : (ji4) < (16 : Int) := of_decide_eq_true (by first | (with_reducible assumption) | assumption)
            have hx7 := bt_at (⟨#[48, 49, 50, 51, 52, 53, 54, 55, 56, 57, 97, 98, 99, 100, 101, 102]⟩ : ByteArray) (ji4)
            replace p7 := eq_true p7
            replace q7 := eq_true q7
            have p10 : 0 ≤ ((Go.bits .and .u8 a0 15) : Int) := of_decide_eq_true (by first | (with_reducible assumption) | assumption)
            have q10 : (Go.bits .and .u8 a0 15) < (16 : Int) := of_decide_eq_true (by first | (with_reducible assumption) | assumption)
            have hx10 := bt_at (⟨#[48, 49, 50, 51, 52, 53, 54, 55, 56, 57, 97, 98, 99, 100, 101, 102]⟩ : ByteArray) (Go.bits .and .u8 a0 15)
            replace p10 := eq_true p10
            replace q10 := eq_true q10
            refine start_ (n := 10) (S := fun w' => True) (ds := []) #[false, false, false, false, false, false, false, false, false, false] (by kernel_rfl) rfl rfl trivial (fun hHeld => ?_); refine with_tabW spec_Percent.tab4 spec_Percent.bits4 (fun HT_ HW_ => ?_)
            generalize w.drew = w11 at HB hHeld ⊢
            refine pure_ (i := 0) (N := some 7) (v := ?_) (a' := ?_) #[true, false, false, false, false, false, false, false, false, false] rfl rfl (any_of HT_.out (by kernel_rfl)) (fun _ _ _ h => h) (Or.inl ⟨by rfl, ?_⟩) ?_ ?_
            rotate_left
            · intro w'
              go_simp
              with_reducible rfl
            rotate_left
            · simp only [Act.put, List.setIfInBounds_toArray, List.set_cons_zero, List.set_cons_succ, i64_w, i32_w]
              rfl
            refine pure_ (i := 1) (N := some 8) (v := ?_) (a' := ?_) #[true, true, false, false, false, false, false, false, false, false] rfl rfl (any_of HT_.out (by kernel_rfl)) (fun _ _ _ h => h) (Or.inl ⟨by rfl, ?_⟩) ?_ ?_
            rotate_left
            · intro w'
              go_simp
              with_reducible rfl
            rotate_left
            · simp only [Act.put, List.setIfInBounds_toArray, List.set_cons_zero, List.set_cons_succ, i64_w, i32_w]
              rfl
            refine pure_ (i := 2) (N := some 9) (v := ?_) (a' := ?_) #[true, true, true, false, false, false, false, false, false, false] rfl rfl (any_of HT_.out (by kernel_rfl)) (fun _ _ _ h => h) (Or.inl ⟨by rfl, ?_⟩) ?_ ?_
            rotate_left
            · intro w'
              go_simp
              with_reducible rfl
            rotate_left
            · simp only [Act.put, List.setIfInBounds_toArray, List.set_cons_zero, List.set_cons_succ, i64_w, i32_w]
              rfl
            refine pure_ (i := 4) (N := some 11) (v := ?_) (a' := ?_) #[true, true, true, false, true, false, false, false, false, false] rfl rfl (any_of HT_.out (by kernel_rfl)) (fun _ _ _ h => h) (Or.inl ⟨by rfl, ?_⟩) ?_ ?_
            rotate_left
            · intro w'
              go_simp
              with_reducible rfl
            rotate_left
            · simp only [Act.put, List.setIfInBounds_toArray, List.set_cons_zero, List.set_cons_succ, i64_w, i32_w]
              rfl
            refine pure_ (i := 5) (N := some 12) (v := ?_) (a' := ?_) #[true, true, true, false, true, true, false, false, false, false] rfl rfl (any_of HT_.out (by kernel_rfl)) (fun _ _ _ h => h) (Or.inl ⟨by rfl, ?_⟩) ?_ ?_
            rotate_left
            · intro w'
              go_simp
              with_reducible rfl
            rotate_left
            · simp only [Act.put, List.setIfInBounds_toArray, List.set_cons_zero, List.set_cons_succ, i64_w, i32_w]
              rfl
            refine pure_ (i := 6) (N := some 13) (v := ?_) (a' := ?_) #[true, true, true, false, true, true, true, false, false, false] rfl rfl (any_of HT_.out (by kernel_rfl)) (fun _ _ _ h => h) (Or.inl ⟨by rfl, ?_⟩) ?_ ?_
            rotate_left
            · intro w'
              go_simp
              with_reducible rfl
            rotate_left
            · simp only [Act.put, List.setIfInBounds_toArray, List.set_cons_zero, List.set_cons_succ, i64_w, i32_w]
              rfl
            refine take_ (i := 3) (N := some 10) (v := ?_) (a' := ?_) #[true, true, true, true, true, true, true, false, false, false] rfl rfl (take_ofW HT_.out HW_.out (by kernel_rfl)) (fun _ _ _ h => h) (Or.inl ⟨by rfl, ?_⟩) hHeld ?_ ?_
            rotate_left
            · intro w' _
              go_simp
              with_reducible rfl
            rotate_left
            · simp only [Act.put, List.setIfInBounds_toArray, List.set_cons_zero, List.set_cons_succ, i64_w, i32_w]
              rfl
            refine take_ (i := 7) (N := some 14) (v := ?_) (a' := ?_) #[true, true, true, true, true, true, true, true, false, false] rfl rfl (take_ofW HT_.out HW_.out (by kernel_rfl)) (fun _ _ _ h => h) (Or.inl ⟨by rfl, ?_⟩) hHeld ?_ ?_
            rotate_left
            · intro w' _
              go_simp
              with_reducible rfl
            rotate_left
            · simp only [Act.put, List.setIfInBounds_toArray, List.set_cons_zero, List.set_cons_succ, i64_w, i32_w]
              rfl
            refine one_ (i := 8) (N := some 15) #[true, true, true, true, true, true, true, true, true, false] rfl rfl (one_of HT_.out (by kernel_rfl)) (by decide) (fun K hK => ?_)
            refine Kd.R_lit_step (Kd.int .u8) _ 5 ?hg (N := 15) ?hd (xs := ([37, bt (⟨#[48, 49, 50, 51, 52, 53, 54, 55, 56, 57, 97, 98, 99, 100, 101, 102]⟩ : ByteArray) (ji4), bt (⟨#[48, 49, 50, 51, 52, 53, 54, 55, 56, 57, 97, 98, 99, 100, 101, 102]⟩ : ByteArray) (Go.bits .and .u8 a0 15)] : List Int)) (inner := [.int .u8 37, .int .u8 (bt (⟨#[48, 49, 50, 51, 52, 53, 54, 55, 56, 57, 97, 98, 99, 100, 101, 102]⟩ : ByteArray) (ji4)), .int .u8 (bt (⟨#[48, 49, 50, 51, 52, 53, 54, 55, 56, 57, 97, 98, 99, 100, 101, 102]⟩ : ByteArray) (Go.bits .and .u8 a0 15))]) (ok := fun _ => True) (okp := fun _ => True) ?hr ?hp (fun _ hk => hk) trivial (Below.refl _ _) (Nat.le_refl _) (by simp) ?_; (case hd => rfl); (case hg => rfl); (case hr => first | (go_simp; done) | (go_simp; rfl)); (case hp => exact (Reps.one (show Kd.M (Kd.int .u8) _ _ _ 37 [.int .u8 37] from rfl) (Reps.one (show Kd.M (Kd.int .u8) _ _ _ (bt (⟨#[48, 49, 50, 51, 52, 53, 54, 55, 56, 57, 97, 98, 99, 100, 101, 102]⟩ : ByteArray) (ji4)) [.int .u8 (bt (⟨#[48, 49, 50, 51, 52, 53, 54, 55, 56, 57, 97, 98, 99, 100, 101, 102]⟩ : ByteArray) (ji4))] from rfl) (Reps.one (show Kd.M (Kd.int .u8) _ _ _ (bt (⟨#[48, 49, 50, 51, 52, 53, 54, 55, 56, 57, 97, 98, 99, 100, 101, 102]⟩ : ByteArray) (Go.bits .and .u8 a0 15)) [.int .u8 (bt (⟨#[48, 49, 50, 51, 52, 53, 54, 55, 56, 57, 97, 98, 99, 100, 101, 102]⟩ : ByteArray) (Go.bits .and .u8 a0 15))] from rfl) (Reps.none _ _)))))
            intro v111 w12 ho13 hb hg_ hnew_
            clear hg_ hnew_
            (first | rw [← Ny110.out] at ho13 | (simp only [Int.reduceToNat] at ho13; rw [← Ny110.out] at ho13))
            have n0_ := Aside0.mk (Kd.R_lower ho13 (below_size (by repeat (first | (with_reducible first | exact HB.out | apply below_alloc | apply pw_below_drewN | apply below_drew1) | exact HB.out))))
            have n1_ := Aside0.mk (below_step (by repeat (first | (with_reducible first | exact HB.out | apply below_alloc | apply pw_below_drewN | apply below_drew1) | exact HB.out)) hb)
            clear HB
            have HO112 := n0_
            have HB := n1_
            clear n0_ n1_
            clear hb ho13
            refine hK.out _ _ trivial (fun hHeld => ?_)
            clear hK K
            refine norm_ (a' := ?_) ?_ ?_
            rotate_left
            · show Act.put _ (some 15) _ = _
              simp only [Act.put, List.setIfInBounds_toArray, List.set_cons_zero, List.set_cons_succ, i64_w, i32_w]
              rfl
            refine pure_ (i := 9) (N := some 4) (v := ?_) (a' := ?_) #[true, true, true, true, true, true, true, true, true, true] rfl rfl (any_of HT_.out (by kernel_rfl)) (fun _ _ _ h => h) (Or.inl ⟨by rfl, ?_⟩) ?_ ?_
            rotate_left
            · intro w'
              go_simp
              with_reducible rfl
            rotate_left
            · simp only [Act.put, List.setIfInBounds_toArray, List.set_cons_zero, List.set_cons_succ, i64_w, i32_w]
              rfl
            refine done_ (done_of HT_.out (by kernel_rfl)) ?_
            try go_wp2
            go_ret
            exact ⟨_, by first | rfl | (simp [errW_none, errW_some] <;> rfl) | (simp only [← hji4]; first | rfl | (simp [errW_none, errW_some] <;> rfl)) | (simp [*, errW_none, errW_some] <;> rfl), by (with_reducible repeat (first | apply Kd.R_alloc | apply Kd.R_drewN | apply Kd.R_drew)); exact HO112.out, by repeat (first | (with_reducible first | exact HB.out | apply below_alloc | apply pw_below_drewN | apply below_drew1) | exact HB.out)⟩
          · rw [if_neg c9] at H
            exact absurd H (by simp)
        · rw [if_neg c8] at H
          exact absurd H (by simp)
      · rw [if_neg c6] at H
        exact absurd H (by simp)
    · rw [if_neg c5] at H
      exact absurd H (by simp)
  · replace c3 := Bool.eq_false_iff.mpr c3
    subst c3
    have H1 : (if 0 ≤ (a0 / 16) then (if (a0 / 16) < 16 then (if 0 ≤ (Go.bits .and .u8 a0 15) then (if (Go.bits .and .u8 a0 15) < 16 then (some (([37, bt (⟨#[48, 49, 50, 51, 52, 53, 54, 55, 56, 57, 65, 66, 67, 68, 69, 70]⟩ : ByteArray) (a0 / 16), bt (⟨#[48, 49, 50, 51, 52, 53, 54, 55, 56, 57, 65, 66, 67, 68, 69, 70]⟩ : ByteArray) (Go.bits .and .u8 a0 15)] : List Int))) else (none)) else (none)) else (none)) else (none)) = some r := by rw [if_neg (show ¬ (false = true) by decide)] at H; exact H
    clear H
    have H := H1
    clear H1
    obtain ⟨ji14, hji14⟩ : ∃ j_ : Int, (a0 / 16) = j_ := ⟨_, rfl⟩
    replace H : (if 0 ≤ (ji14) then (if (ji14) < 16 then (if 0 ≤ (Go.bits .and .u8 a0 15) then (if (Go.bits .and .u8 a0 15) < 16 then (some (([37, bt (⟨#[48, 49, 50, 51, 52, 53, 54, 55, 56, 57, 65, 66, 67, 68, 69, 70]⟩ : ByteArray) (ji14), bt (⟨#[48, 49, 50, 51, 52, 53, 54, 55, 56, 57, 65, 66, 67, 68, 69, 70]⟩ : ByteArray) (Go.bits .and .u8 a0 15)] : List Int))) else (none)) else (none)) else (none)) else (none)) = some r := by first | (rw [hji14] at H; exact H) | (simp only [hji14] at H ⊢; exact H)
    by_cases c15 : 0 ≤ (ji14)
    · rw [if_pos c15] at H
      have c15b0 : decide (0 ≤ (ji14)) = true := decide_eq_true c15
      clear c15
      by_cases c16 : (ji14) < 16
      · rw [if_pos c16] at H
        have c16b0 : decide ((ji14) < 16) = true := decide_eq_true c16
        clear c16
        by_cases c18 : 0 ≤ (Go.bits .and .u8 a0 15)
        · rw [if_pos c18] at H
          have c18b0 : decide (0 ≤ (Go.bits .and .u8 a0 15)) = true := decide_eq_true c18
          clear c18
          by_cases c19 : (Go.bits .and .u8 a0 15) < 16
          · rw [if_pos c19] at H
            have c19b0 : decide ((Go.bits .and .u8 a0 15) < 16) = true := decide_eq_true c19
            clear c19
            obtain ⟨y113, hy113⟩ : ∃ y_ : List Int, y_ = (([37, bt (⟨#[48, 49, 50, 51, 52, 53, 54, 55, 56, 57, 65, 66, 67, 68, 69, 70]⟩ : ByteArray) (ji14), bt (⟨#[48, 49, 50, 51, 52, 53, 54, 55, 56, 57, 65, 66, 67, 68, 69, 70]⟩ : ByteArray) (Go.bits .and .u8 a0 15)] : List Int)) := ⟨_, rfl⟩
            replace H : (some y113) = some r := by first | (rw [hy113]; with_reducible exact H) | (have H2_ := (Option.bind_some _ _).symm.trans H; rw [hy113]; with_reducible exact H2_) | (have H2_ := (Option.bind_some _ _).symm.trans H; with_reducible exact H2_) | with_reducible exact H | (rw [hy113]; exact H) | exact H
            have Ny113 := Aside0.mk hy113
            clear hy113
            obtain rfl := Option.some.inj H
            go_enter Tryd.func12, Tryd.ntmps12
            try go_wp2
            have n0_ := Aside0.mk (below_drew1 HB.out)
            clear HB
            have HB := n0_
            clear n0_
            have p17 : 0 ≤ ((ji14) : Int) := of_decide_eq_true (by first | (with_reducible assumption) | assumption)
            have q17 : (ji14) < (16 : Int) := of_decide_eq_true (by first | (with_reducible assumption) | assumption)
            have hx17 := bt_at (⟨#[48, 49, 50, 51, 52, 53, 54, 55, 56, 57, 65, 66, 67, 68, 69, 70]⟩ : ByteArray) (ji14)
            replace p17 := eq_true p17
            replace q17 := eq_true q17
            have p20 : 0 ≤ ((Go.bits .and .u8 a0 15) : Int) := of_decide_eq_true (by first | (with_reducible assumption) | assumption)
            have q20 : (Go.bits .and .u8 a0 15) < (16 : Int) := of_decide_eq_true (by first | (with_reducible assumption) | assumption)
            have hx20 := bt_at (⟨#[48, 49, 50, 51, 52, 53, 54, 55, 56, 57, 65, 66, 67, 68, 69, 70]⟩ : ByteArray) (Go.bits .and .u8 a0 15)
            replace p20 := eq_true p20
            replace q20 := eq_true q20
            refine start_ (n := 10) (S := fun w' => True) (ds := []) #[false, false, false, false, false, false, false, false, false, false] (by kernel_rfl) rfl rfl trivial (fun hHeld => ?_); refine with_tabW spec_Percent.tab4 spec_Percent.bits4 (fun HT_ HW_ => ?_)
            generalize w.drew = w21 at HB hHeld ⊢
            refine pure_ (i := 0) (N := some 7) (v := ?_) (a' := ?_) #[true, false, false, false, false, false, false, false, false, false] rfl rfl (any_of HT_.out (by kernel_rfl)) (fun _ _ _ h => h) (Or.inl ⟨by rfl, ?_⟩) ?_ ?_
            rotate_left
            · intro w'
              go_simp
              with_reducible rfl
            rotate_left
            · simp only [Act.put, List.setIfInBounds_toArray, List.set_cons_zero, List.set_cons_succ, i64_w, i32_w]
              rfl
            refine pure_ (i := 1) (N := some 8) (v := ?_) (a' := ?_) #[true, true, false, false, false, false, false, false, false, false] rfl rfl (any_of HT_.out (by kernel_rfl)) (fun _ _ _ h => h) (Or.inl ⟨by rfl, ?_⟩) ?_ ?_
            rotate_left
            · intro w'
              go_simp
              with_reducible rfl
            rotate_left
            · simp only [Act.put, List.setIfInBounds_toArray, List.set_cons_zero, List.set_cons_succ, i64_w, i32_w]
              rfl
            refine pure_ (i := 2) (N := some 9) (v := ?_) (a' := ?_) #[true, true, true, false, false, false, false, false, false, false] rfl rfl (any_of HT_.out (by kernel_rfl)) (fun _ _ _ h => h) (Or.inl ⟨by rfl, ?_⟩) ?_ ?_
            rotate_left
            · intro w'
              go_simp
              with_reducible rfl
            rotate_left
            · simp only [Act.put, List.setIfInBounds_toArray, List.set_cons_zero, List.set_cons_succ, i64_w, i32_w]
              rfl
            refine pure_ (i := 4) (N := some 11) (v := ?_) (a' := ?_) #[true, true, true, false, true, false, false, false, false, false] rfl rfl (any_of HT_.out (by kernel_rfl)) (fun _ _ _ h => h) (Or.inl ⟨by rfl, ?_⟩) ?_ ?_
            rotate_left
            · intro w'
              go_simp
              with_reducible rfl
            rotate_left
            · simp only [Act.put, List.setIfInBounds_toArray, List.set_cons_zero, List.set_cons_succ, i64_w, i32_w]
              rfl
            refine pure_ (i := 5) (N := some 12) (v := ?_) (a' := ?_) #[true, true, true, false, true, true, false, false, false, false] rfl rfl (any_of HT_.out (by kernel_rfl)) (fun _ _ _ h => h) (Or.inl ⟨by rfl, ?_⟩) ?_ ?_
            rotate_left
            · intro w'
              go_simp
              with_reducible rfl
            rotate_left
            · simp only [Act.put, List.setIfInBounds_toArray, List.set_cons_zero, List.set_cons_succ, i64_w, i32_w]
              rfl
            refine pure_ (i := 6) (N := some 13) (v := ?_) (a' := ?_) #[true, true, true, false, true, true, true, false, false, false] rfl rfl (any_of HT_.out (by kernel_rfl)) (fun _ _ _ h => h) (Or.inl ⟨by rfl, ?_⟩) ?_ ?_
            rotate_left
            · intro w'
              go_simp
              with_reducible rfl
            rotate_left
            · simp only [Act.put, List.setIfInBounds_toArray, List.set_cons_zero, List.set_cons_succ, i64_w, i32_w]
              rfl
            refine take_ (i := 3) (N := some 10) (v := ?_) (a' := ?_) #[true, true, true, true, true, true, true, false, false, false] rfl rfl (take_ofW HT_.out HW_.out (by kernel_rfl)) (fun _ _ _ h => h) (Or.inl ⟨by rfl, ?_⟩) hHeld ?_ ?_
            rotate_left
            · intro w' _
              go_simp
              with_reducible rfl
            rotate_left
            · simp only [Act.put, List.setIfInBounds_toArray, List.set_cons_zero, List.set_cons_succ, i64_w, i32_w]
              rfl
            refine take_ (i := 7) (N := some 14) (v := ?_) (a' := ?_) #[true, true, true, true, true, true, true, true, false, false] rfl rfl (take_ofW HT_.out HW_.out (by kernel_rfl)) (fun _ _ _ h => h) (Or.inl ⟨by rfl, ?_⟩) hHeld ?_ ?_
            rotate_left
            · intro w' _
              go_simp
              with_reducible rfl
            rotate_left
            · simp only [Act.put, List.setIfInBounds_toArray, List.set_cons_zero, List.set_cons_succ, i64_w, i32_w]
              rfl
            refine one_ (i := 8) (N := some 15) #[true, true, true, true, true, true, true, true, true, false] rfl rfl (one_of HT_.out (by kernel_rfl)) (by decide) (fun K hK => ?_)
            refine Kd.R_lit_step (Kd.int .u8) _ 5 ?hg (N := 15) ?hd (xs := ([37, bt (⟨#[48, 49, 50, 51, 52, 53, 54, 55, 56, 57, 65, 66, 67, 68, 69, 70]⟩ : ByteArray) (ji14), bt (⟨#[48, 49, 50, 51, 52, 53, 54, 55, 56, 57, 65, 66, 67, 68, 69, 70]⟩ : ByteArray) (Go.bits .and .u8 a0 15)] : List Int)) (inner := [.int .u8 37, .int .u8 (bt (⟨#[48, 49, 50, 51, 52, 53, 54, 55, 56, 57, 65, 66, 67, 68, 69, 70]⟩ : ByteArray) (ji14)), .int .u8 (bt (⟨#[48, 49, 50, 51, 52, 53, 54, 55, 56, 57, 65, 66, 67, 68, 69, 70]⟩ : ByteArray) (Go.bits .and .u8 a0 15))]) (ok := fun _ => True) (okp := fun _ => True) ?hr ?hp (fun _ hk => hk) trivial (Below.refl _ _) (Nat.le_refl _) (by simp) ?_; (case hd => rfl); (case hg => rfl); (case hr => first | (go_simp; done) | (go_simp; rfl)); (case hp => exact (Reps.one (show Kd.M (Kd.int .u8) _ _ _ 37 [.int .u8 37] from rfl) (Reps.one (show Kd.M (Kd.int .u8) _ _ _ (bt (⟨#[48, 49, 50, 51, 52, 53, 54, 55, 56, 57, 65, 66, 67, 68, 69, 70]⟩ : ByteArray) (ji14)) [.int .u8 (bt (⟨#[48, 49, 50, 51, 52, 53, 54, 55, 56, 57, 65, 66, 67, 68, 69, 70]⟩ : ByteArray) (ji14))] from rfl) (Reps.one (show Kd.M (Kd.int .u8) _ _ _ (bt (⟨#[48, 49, 50, 51, 52, 53, 54, 55, 56, 57, 65, 66, 67, 68, 69, 70]⟩ : ByteArray) (Go.bits .and .u8 a0 15)) [.int .u8 (bt (⟨#[48, 49, 50, 51, 52, 53, 54, 55, 56, 57, 65, 66, 67, 68, 69, 70]⟩ : ByteArray) (Go.bits .and .u8 a0 15))] from rfl) (Reps.none _ _)))))
            intro v114 w22 ho23 hb hg_ hnew_
            clear hg_ hnew_
            (first | rw [← Ny113.out] at ho23 | (simp only [Int.reduceToNat] at ho23; rw [← Ny113.out] at ho23))
            have n0_ := Aside0.mk (Kd.R_lower ho23 (below_size (by repeat (first | (with_reducible first | exact HB.out | apply below_alloc | apply pw_below_drewN | apply below_drew1) | exact HB.out))))
            have n1_ := Aside0.mk (below_step (by repeat (first | (with_reducible first | exact HB.out | apply below_alloc | apply pw_below_drewN | apply below_drew1) | exact HB.out)) hb)
            clear HB
            have HO115 := n0_
            have HB := n1_
            clear n0_ n1_
            clear hb ho23
            refine hK.out _ _ trivial (fun hHeld => ?_)
            clear hK K
            refine norm_ (a' := ?_) ?_ ?_
            rotate_left
            · show Act.put _ (some 15) _ = _
              simp only [Act.put, List.setIfInBounds_toArray, List.set_cons_zero, List.set_cons_succ, i64_w, i32_w]
              rfl
            refine pure_ (i := 9) (N := some 4) (v := ?_) (a' := ?_) #[true, true, true, true, true, true, true, true, true, true] rfl rfl (any_of HT_.out (by kernel_rfl)) (fun _ _ _ h => h) (Or.inl ⟨by rfl, ?_⟩) ?_ ?_
            rotate_left
            · intro w'
              go_simp
              with_reducible rfl
            rotate_left
            · simp only [Act.put, List.setIfInBounds_toArray, List.set_cons_zero, List.set_cons_succ, i64_w, i32_w]
              rfl
            refine done_ (done_of HT_.out (by kernel_rfl)) ?_
            try go_wp2
            go_ret
            exact ⟨_, by first | rfl | (simp [errW_none, errW_some] <;> rfl) | (simp only [← hji14]; first | rfl | (simp [errW_none, errW_some] <;> rfl)) | (simp [*, errW_none, errW_some] <;> rfl), by (with_reducible repeat (first | apply Kd.R_alloc | apply Kd.R_drewN | apply Kd.R_drew)); exact HO115.out, by repeat (first | (with_reducible first | exact HB.out | apply below_alloc | apply pw_below_drewN | apply below_drew1) | exact HB.out)⟩
          · rw [if_neg c19] at H
            exact absurd H (by simp)
        · rw [if_neg c18] at H
          exact absurd H (by simp)
      · rw [if_neg c16] at H
        exact absurd H (by simp)
    · rw [if_neg c15] at H
      exact absurd H (by simp)

/-! ### spec_SameBytes: function 13 -/
def spec_SameBytes.l0 : Nat → List Int → List Int → Int → Int → Option (Bool)
  | 0, _, _, _, _ => none
  | k + 1, x1, x12, x13, x14 => if x14 < x13 then (if 0 ≤ x14 then (if x14 < (x12.length : Int) then (if x14 < (x1.length : Int) then (if (rd x12 x14) = (rd x1 x14) then (spec_SameBytes.l0 k x1 x12 x13 (wrap64 (x14 + 1))) else (some false)) else (none)) else (none)) else (none)) else (some true)
def spec_SameBytes.f (k : Nat) (l0 : List Int) (l1 : List Int) : Option (Bool) := if (l0.length : Int) = (l1.length : Int) then (spec_SameBytes.l0 k l1 l0 (l0.length : Int) 0) else (some false)
theorem spec_SameBytes.mono_l : ∀ k, (∀ y0 y1 y2 y3, LeO (spec_SameBytes.l0 k y0 y1 y2 y3) (spec_SameBytes.l0 (k + 1) y0 y1 y2 y3))
  | 0 => fun _ _ _ _ r h => by simp [spec_SameBytes.l0] at h
  | k + 1 => by
    have ih0 := spec_SameBytes.mono_l k
    · intro y0 y1 y2 y3
      unfold spec_SameBytes.l0
      repeat' first
      | (with_reducible exact ih0 _ _ _ _)
      | (with_reducible exact LeO.refl _)
      | (with_reducible exact LeO.none _)
      | (with_reducible refine LeO.ite ?_ ?_)
      | (with_reducible refine LeO.bind ?_ (fun _ => ?_))
      | exact ih0 _ _ _ _
      | exact LeO.none _
      | refine LeO.ite ?_ ?_
      | refine LeO.bind ?_ (fun _ => ?_)
theorem spec_SameBytes.mono : ∀ a0 a1 k, LeO (spec_SameBytes.f k a0 a1) (spec_SameBytes.f (k + 1) a0 a1) := by
  intro a0 a1 k
  have ih0 := spec_SameBytes.mono_l k
  unfold spec_SameBytes.f
  repeat' first
      | (with_reducible exact ih0 _ _ _ _)
      | (with_reducible exact LeO.refl _)
      | (with_reducible exact LeO.none _)
      | (with_reducible refine LeO.ite ?_ ?_)
      | (with_reducible refine LeO.bind ?_ (fun _ => ?_))
      | exact ih0 _ _ _ _
      | exact LeO.none _
      | refine LeO.ite ?_ ?_
      | refine LeO.bind ?_ (fun _ => ?_)
set_option maxHeartbeats 8000000 in
set_option maxRecDepth 100000 in
theorem spec_SameBytes.calls (k : Nat) (A0 : Option Addr) (c0 : Nat) (l0 : List Int) (A1 : Option Addr) (c1 : Nat) (l1 : List Int) (r : Bool) (w : World) (hr0 : Kd.C (Kd.int .u8) w A0 l0.length l0) (hc0 : l0.length ≤ c0) (hr1 : Kd.C (Kd.int .u8) w A1 l1.length l1) (hc1 : l1.length ≤ c1) (h : spec_SameBytes.f k l0 l1 = some r) :
    Calls Tryd.prog 13 #[.slice A0 l0.length c0, .slice A1 l1.length c1] w fun e w' => e = .returned (.bool r) ∧ Drawn0 w w' := by
  have HR0 := Aside0.mk hr0
  have HC0 := Aside0.mk hc0
  clear hr0 hc0
  have HR1 := Aside0.mk hr1
  have HC1 := Aside0.mk hc1
  clear hr1 hc1
  have H : (if (l0.length : Int) = (l1.length : Int) then (spec_SameBytes.l0 k l1 l0 (l0.length : Int) 0) else (some false)) = some r := h
  clear h
  by_cases c3 : (l0.length : Int) = (l1.length : Int)
  · rw [if_pos c3] at H
    have c3b0 : ((l0.length : Int) == (l1.length : Int)) = true := beq_iff_eq.mpr c3
    have c3b1 : ((l0.length : Int) != (l1.length : Int)) = false := bne_eq_false_iff_eq.mpr c3
    have c3b2 : (l0.length == l1.length) = true := by first | simpa using c3 | (simp at c3 ⊢; omega)
    clear c3
    have H' := Aside0.mk H
    clear H
    go_enter Tryd.func13, Tryd.ntmps13
    go_wp2
    go_loopg [14] k (fun kq v14 w' => ∃ (x14_1 : Int), v14 = .int .i64 x14_1 ∧ Aside0 (spec_SameBytes.l0 kq l1 l0 (l0.length : Int) x14_1 = some r) ∧ Aside0 (kq ≤ k) ∧ Drawn0 w w')
    case atStart => exact ⟨(0), (by first | rfl | (simp; done) | (simp [*]; done)), H', ⟨Nat.le_refl _⟩, by repeat (first | exact Drawn0.refl _ | apply Drawn0.step)⟩
    case round =>
      clear H'
      try clear c1
      try clear p2
      try clear c3
      try clear c3b0
      try clear c3b1
      try clear c3b2
      obtain ⟨x14_1, rfl, HA, HK1, ⟨m1, rfl⟩⟩ := hrel
      cases gk with
      | zero => exact absurd HA.out (by simp [spec_SameBytes.l0])
      | succ k1 =>
        have H := HA.out
        clear HA
        simp only [spec_SameBytes.l0] at H
        by_cases c4 : x14_1 < (l0.length : Int)
        · rw [if_pos c4] at H
          have c4b0 : decide (x14_1 < (l0.length : Int)) = true := decide_eq_true c4
          clear c4
          by_cases c5 : 0 ≤ x14_1
          · rw [if_pos c5] at H
            have c5b0 : decide (0 ≤ x14_1) = true := decide_eq_true c5
            clear c5
            by_cases c6 : x14_1 < (l0.length : Int)
            · rw [if_pos c6] at H
              have c6b0 : decide (x14_1 < (l0.length : Int)) = true := decide_eq_true c6
              clear c6
              by_cases c7 : x14_1 < (l1.length : Int)
              · rw [if_pos c7] at H
                have c7b0 : decide (x14_1 < (l1.length : Int)) = true := decide_eq_true c7
                clear c7
                by_cases c8 : (rd l0 x14_1) = (rd l1 x14_1)
                · rw [if_pos c8] at H
                  have c8b0 : ((rd l0 x14_1) == (rd l1 x14_1)) = true := beq_iff_eq.mpr c8
                  have c8b1 : ((rd l0 x14_1) != (rd l1 x14_1)) = false := bne_eq_false_iff_eq.mpr c8
                  clear c8
                  have H' := Aside0.mk H
                  clear H
                  have p116 : 0 ≤ (x14_1 : Int) := of_decide_eq_true (by first | (with_reducible assumption) | assumption)
                  have q116 : x14_1 < (l0.length : Int) := of_decide_eq_true (by first | (with_reducible assumption) | assumption)
                  obtain ⟨ad116, e116, hx116_0⟩ := Kd.at_int HR0.out x14_1 p116 q116
                  cases e116
                  replace p116 := eq_true p116
                  replace q116 := eq_true q116
                  have p117 : 0 ≤ (x14_1 : Int) := of_decide_eq_true (by first | (with_reducible assumption) | assumption)
                  have q117 : x14_1 < (l1.length : Int) := of_decide_eq_true (by first | (with_reducible assumption) | assumption)
                  obtain ⟨ad117, e117, hx117_0⟩ := Kd.at_int HR1.out x14_1 p117 q117
                  cases e117
                  replace p117 := eq_true p117
                  replace q117 := eq_true q117
                  go_wp2
                  go_roundg k1
                  case measure => have := HK1.out; omega
                  case rel => exact ⟨(wrap64 (x14_1 + 1)), (by first | rfl | (simp; done) | (simp [*]; done)), H', ⟨by have := HK1.out; omega⟩, by repeat (first | exact Drawn0.refl _ | apply Drawn0.step)⟩
                · rw [if_neg c8] at H
                  have c8b0 : ((rd l0 x14_1) == (rd l1 x14_1)) = false := beq_eq_false_iff_ne.mpr c8
                  have c8b1 : ((rd l0 x14_1) != (rd l1 x14_1)) = true := bne_iff_ne.mpr c8
                  obtain rfl := Option.some.inj H
                  have p116 : 0 ≤ (x14_1 : Int) := of_decide_eq_true (by first | (with_reducible assumption) | assumption)
                  have q116 : x14_1 < (l0.length : Int) := of_decide_eq_true (by first | (with_reducible assumption) | assumption)
                  obtain ⟨ad116, e116, hx116_0⟩ := Kd.at_int HR0.out x14_1 p116 q116
                  cases e116
                  replace p116 := eq_true p116
                  replace q116 := eq_true q116
                  have p117 : 0 ≤ (x14_1 : Int) := of_decide_eq_true (by first | (with_reducible assumption) | assumption)
                  have q117 : x14_1 < (l1.length : Int) := of_decide_eq_true (by first | (with_reducible assumption) | assumption)
                  obtain ⟨ad117, e117, hx117_0⟩ := Kd.at_int HR1.out x14_1 p117 q117
                  cases e117
                  replace p117 := eq_true p117
                  replace q117 := eq_true q117
                  go_wp2
                  go_ret
                  exact ⟨by first | rfl | (simp; done) | (simp [*]; done), by repeat (first | exact Drawn0.refl _ | apply Drawn0.step)⟩
              · rw [if_neg c7] at H
                exact absurd H (by simp)
            · rw [if_neg c6] at H
              exact absurd H (by simp)
          · rw [if_neg c5] at H
            exact absurd H (by simp)
        · rw [if_neg c4] at H
          have c4b0 : decide (x14_1 < (l0.length : Int)) = false := decide_eq_false c4
          clear c4
          obtain rfl := Option.some.inj H
          go_wp2
          go_ret
          exact ⟨by first | rfl | (simp; done) | (simp [*]; done), by repeat (first | exact Drawn0.refl _ | apply Drawn0.step)⟩
  · rw [if_neg c3] at H
    have c3b0 : ((l0.length : Int) == (l1.length : Int)) = false := beq_eq_false_iff_ne.mpr c3
    have c3b1 : ((l0.length : Int) != (l1.length : Int)) = true := bne_iff_ne.mpr c3
    have c3b2 : (l0.length == l1.length) = false := by first | simpa using c3 | (simp at c3 ⊢; omega)
    obtain rfl := Option.some.inj H
    go_enter Tryd.func13, Tryd.ntmps13
    go_wp2
    go_ret
    exact ⟨by first | rfl | (simp; done) | (simp [*]; done), by repeat (first | exact Drawn0.refl _ | apply Drawn0.step)⟩

/-! ### impl_own: function 17 -/
def impl_own.f (l0 : List Int) : Option (List Int) := (some (([] : List Int) : List Int)).bind fun y118 => (if y118.length + l0.length < 140737488355328 then (some (y118 ++ l0)) else (none))
set_option maxHeartbeats 8000000 in
set_option maxRecDepth 100000 in
theorem impl_own.calls (A0 : Option Addr) (c0 : Nat) (l0 : List Int) (r : List Int) (w : World) (hr0 : Kd.C (Kd.int .u8) w A0 l0.length l0) (hc0 : l0.length ≤ c0) (h : impl_own.f l0 = some r) :
    Calls Tryd.prog 17 #[.slice A0 l0.length c0] w fun e w' => ∃ v0_ : Value, e = .returned (v0_) ∧ Kd.R (Kd.int .u8) 5 w' w.heap.size (fun _ => True) v0_ r ∧ Below w.heap.size w w' := by
  have HR0 := Aside0.mk hr0
  have HC0 := Aside0.mk hc0
  clear hr0 hc0
  have HB := Aside0.mk (Below.refl w.heap.size w)
  have H : ((some (([] : List Int) : List Int)).bind fun y118 => (if y118.length + l0.length < 140737488355328 then (some (y118 ++ l0)) else (none))) = some r := h
  clear h
  obtain ⟨y118, hy118⟩ : ∃ y_ : List Int, y_ = (([] : List Int)) := ⟨_, rfl⟩
  replace H : (if y118.length + l0.length < 140737488355328 then (some (y118 ++ l0)) else (none)) = some r := by first | (rw [hy118]; with_reducible exact H) | (have H2_ := (Option.bind_some _ _).symm.trans H; rw [hy118]; with_reducible exact H2_) | (have H2_ := (Option.bind_some _ _).symm.trans H; with_reducible exact H2_) | with_reducible exact H | (rw [hy118]; exact H) | exact H
  have Ny118 := Aside0.mk hy118
  clear hy118
  by_cases c2 : y118.length + l0.length < 140737488355328
  · rw [if_pos c2] at H
    have LMc2 := Aside0.mk c2
    clear c2
    obtain ⟨y121, hy121⟩ : ∃ y_ : List Int, y_ = (y118 ++ l0) := ⟨_, rfl⟩
    replace H : (some y121) = some r := by first | (rw [hy121]; with_reducible exact H) | (have H2_ := (Option.bind_some _ _).symm.trans H; rw [hy121]; with_reducible exact H2_) | (have H2_ := (Option.bind_some _ _).symm.trans H; with_reducible exact H2_) | with_reducible exact H | (rw [hy121]; exact H) | exact H
    have Ny121 := Aside0.mk hy121
    clear hy121
    obtain rfl := Option.some.inj H
    go_enter Tryd.func17, Tryd.ntmps17
    go_wp2_with (first | ((with_reducible refine gate_dst (N := 3) rfl ?_); refine Kd.R_lit (Kd.int .u8) _ 5 ?hg (N := 3) ?hd (xs := ([] : List Int)) (inner := []) (ok := fun _ => True) (okp := fun _ => True) ?hr ?hp (fun _ hk => hk) trivial (Below.refl _ _) (Nat.le_refl _) (by simp) ?_; (case hd => rfl); (case hg => rfl); (case hr => first | (go_simp; done) | (go_simp; rfl)); (case hp => exact (Reps.none _ _)); intro v119 w3 ho4 hb hg_ hnew_; clear hg_ hnew_; (first | rw [← Ny118.out] at ho4 | (simp only [Int.reduceToNat] at ho4; rw [← Ny118.out] at ho4)); have n0_ := Aside0.mk (Kd.R_lower ho4 (below_size (by repeat (first | (with_reducible first | exact HB.out | apply below_alloc | apply pw_below_drewN | apply below_drew1) | exact HB.out)))); have n1_ := Aside0.mk (below_step (by repeat (first | (with_reducible first | exact HB.out | apply below_alloc | apply pw_below_drewN | apply below_drew1) | exact HB.out)) hb); clear HB; have HO120 := n0_; have HB := n1_; clear n0_ n1_; clear hb ho4) | ((with_reducible refine gate_builtin (b := .append) (xs := #[.tmp 3, .tmp 4]) rfl ?_); at_builtin; refine Kd.R_append_rows (Kd.int .u8) (w0 := w) w.heap.size rfl (.tmp 3) (.tmp 4) 24 5 (.int .u8 0) 1 rfl Tryd.underlying24 info5 rfl (by decide) (by omega) v119 y118 l0 _ _ _ (fun _ => True) (fun _ => False) rfl rfl ?aO ?aR (fun _ _ h => h) (fun _ h => h.elim) ?aF ?aB ?aS ?aL ?_; (case aR => repeat (first | exact (Kd.C_below HR0.out HB.out) | (with_reducible refine Kd.C_alloc ?_ _) | (with_reducible refine Kd.C_drewN ?_ _) | (with_reducible refine Kd.C_drew ?_))); (case aB => exact (by repeat (first | (with_reducible first | exact HB.out | apply below_alloc | apply pw_below_drewN | apply below_drew1) | exact HB.out))); (case aF => exact (fun _ _ => trivial)); (case aO => exact (by (with_reducible repeat (first | apply Kd.R_alloc | apply Kd.R_drewN | apply Kd.R_drew)); exact HO120.out)); (case aS => exact (below_size (by repeat (first | (with_reducible first | exact HB.out | apply below_alloc | apply pw_below_drewN | apply below_drew1) | exact HB.out)))); (case aL => have := LMc2.out; omega); intro v122 w5 ho hb hg hat; rw [← Ny121.out] at ho; have n0_ := Aside0.mk (hb); have n1_ := Aside0.mk (ho); clear HB; clear HO120; have HB := n0_; have HO123 := n1_; clear n0_ n1_; clear ho hb hg hat))
    go_ret
    exact ⟨_, by first | rfl | (simp [errW_none, errW_some] <;> rfl) | (simp [*, errW_none, errW_some] <;> rfl), by (with_reducible repeat (first | apply Kd.R_alloc | apply Kd.R_drewN | apply Kd.R_drew)); exact HO123.out, by repeat (first | (with_reducible first | exact HB.out | apply below_alloc | apply pw_below_drewN | apply below_drew1) | exact HB.out)⟩
  · rw [if_neg c2] at H
    exact absurd H (by simp)

-- NOT PRINTED: function 18 (tdparse_EncodeURL)

-- impl_EncodeURL: by hand (CEncode)

end Go.Proofs.YtcghdanppdmfeaaDoor.PFnUrlEncode
