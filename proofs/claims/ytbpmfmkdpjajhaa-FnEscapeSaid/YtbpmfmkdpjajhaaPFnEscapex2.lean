-- Laid by a program of this session, out of the translation's print.
import Derived.Test.YtbpmfmkdpjajhaaPFnEscapex0
import Derived.Test.YtbpmfmkdpjajhaaPFnEscapex1
namespace Go.Proofs.Ytbpmfmkdpjajhaa.PFnEscape
open Go.RowKit Go.Proofs.YtbpmfmkdpjajhaaW.PrintWords Go.Proofs.YtbpmfmkdpjajhaaW.PrintLast Go.Proofs.YtbpmfmkdpjajhaaW.PrintMore
attribute [local go_sem] max2_int min2_int max_two min_two max_three min_three max_four min_four   -- for this text's walks alone
set_option linter.unusedVariables false
set_option linter.unusedSimpArgs false

/-! ### tdparse_AppendEscape: function 53 -/
mutual
def tdparse_AppendEscape.l0 : Nat → List Int → List Int → List Int → Int → Int → Int → Option (List Int)
  | 0, _, _, _, _, _, _ => none
  | k + 1, x0, x1, x2, x3, x9, x10 => if x10 < (x1.length : Int) then (tdparse_AppendEscape.l1 k x0 x1 x2 x3 x9 x10 false x2 (x2.length : Int) 0) else (if x9 < (x1.length : Int) then (if 0 ≤ x9 then (if x9 ≤ (x1.length : Int) then ((some (x1.drop (x9 : Int).toNat : List Int)).bind fun y117 => (if x0.length + y117.length < 140737488355328 then (some (x0 ++ y117)) else (none))) else (none)) else (none)) else (some x0))
def tdparse_AppendEscape.j2 : Nat → List Int → List Int → List Int → Int → Int → Int → Bool → Option (List Int)
  | 0, _, _, _, _, _, _, _ => none
  | k + 1, x0, x1, x2, x3, x9, x10, x11 => if x11 = true then (tdparse_AppendEscape.j3 k x0 x1 x2 x3 x9 x10 true) else (if 0 ≤ x10 then (if x10 < (x1.length : Int) then (tdparse_AppendEscape.j3 k x0 x1 x2 x3 x9 x10 ((rd x1 x10) == x3)) else (none)) else (none))
def tdparse_AppendEscape.j3 : Nat → List Int → List Int → List Int → Int → Int → Int → Bool → Option (List Int)
  | 0, _, _, _, _, _, _, _ => none
  | k + 1, x0, x1, x2, x3, x9, x10, x41 => if x41 = true then (if x9 < x10 then (if 0 ≤ x9 then (if x9 ≤ x10 then (if x10 ≤ (x1.length : Int) then ((some ((x1.take (x10 : Int).toNat).drop (x9 : Int).toNat : List Int)).bind fun y127 => (if x0.length + y127.length < 140737488355328 then ((some (x0 ++ y127 : List Int)).bind fun y131 => (if y131.length < 140737488355328 then (tdparse_AppendEscape.l0 k (y131 ++ [x3]) x1 x2 x3 x10 (wrap64 (x10 + 1))) else (none))) else (none))) else (none)) else (none)) else (none)) else (if x0.length < 140737488355328 then (tdparse_AppendEscape.l0 k (x0 ++ [x3]) x1 x2 x3 x10 (wrap64 (x10 + 1))) else (none))) else (tdparse_AppendEscape.l0 k x0 x1 x2 x3 x9 (wrap64 (x10 + 1)))
def tdparse_AppendEscape.l1 : Nat → List Int → List Int → List Int → Int → Int → Int → Bool → List Int → Int → Int → Option (List Int)
  | 0, _, _, _, _, _, _, _, _, _, _ => none
  | k + 1, x0, x1, x2, x3, x9, x10, x11, x20, x21, x22 => if x22 < x21 then (if 0 ≤ x22 then (if x22 < (x20.length : Int) then (if 0 ≤ x10 then (if x10 < (x1.length : Int) then (if (rd x20 x22) = (rd x1 x10) then (tdparse_AppendEscape.j2 k x0 x1 x2 x3 x9 x10 true) else (tdparse_AppendEscape.l1 k x0 x1 x2 x3 x9 x10 x11 x20 x21 (wrap64 (x22 + 1)))) else (none)) else (none)) else (none)) else (none)) else (tdparse_AppendEscape.j2 k x0 x1 x2 x3 x9 x10 x11)
end
def tdparse_AppendEscape.f (k : Nat) (l0 : List Int) (l1 : List Int) (l2 : List Int) (a3 : Int) : Option (List Int) := tdparse_AppendEscape.l0 k l0 l1 l2 a3 0 0
theorem tdparse_AppendEscape.mono_l : ∀ k, (∀ y0 y1 y2 y3 y4 y5, LeO (tdparse_AppendEscape.l0 k y0 y1 y2 y3 y4 y5) (tdparse_AppendEscape.l0 (k + 1) y0 y1 y2 y3 y4 y5)) ∧ (∀ y0 y1 y2 y3 y4 y5 y6, LeO (tdparse_AppendEscape.j2 k y0 y1 y2 y3 y4 y5 y6) (tdparse_AppendEscape.j2 (k + 1) y0 y1 y2 y3 y4 y5 y6)) ∧ (∀ y0 y1 y2 y3 y4 y5 y6, LeO (tdparse_AppendEscape.j3 k y0 y1 y2 y3 y4 y5 y6) (tdparse_AppendEscape.j3 (k + 1) y0 y1 y2 y3 y4 y5 y6)) ∧ (∀ y0 y1 y2 y3 y4 y5 y6 y7 y8 y9, LeO (tdparse_AppendEscape.l1 k y0 y1 y2 y3 y4 y5 y6 y7 y8 y9) (tdparse_AppendEscape.l1 (k + 1) y0 y1 y2 y3 y4 y5 y6 y7 y8 y9))
  | 0 => ⟨fun _ _ _ _ _ _ r h => by simp [tdparse_AppendEscape.l0] at h, fun _ _ _ _ _ _ _ r h => by simp [tdparse_AppendEscape.j2] at h, fun _ _ _ _ _ _ _ r h => by simp [tdparse_AppendEscape.j3] at h, fun _ _ _ _ _ _ _ _ _ _ r h => by simp [tdparse_AppendEscape.l1] at h⟩
  | k + 1 => by
    obtain ⟨ih0, ih1, ih2, ih3⟩ := tdparse_AppendEscape.mono_l k
    refine ⟨?_, ?_, ?_, ?_⟩
    · intro y0 y1 y2 y3 y4 y5
      unfold tdparse_AppendEscape.l0
      repeat' first
      | (with_reducible exact ih0 _ _ _ _ _ _)
      | (with_reducible exact ih1 _ _ _ _ _ _ _)
      | (with_reducible exact ih2 _ _ _ _ _ _ _)
      | (with_reducible exact ih3 _ _ _ _ _ _ _ _ _ _)
      | (with_reducible exact LeO.refl _)
      | (with_reducible exact LeO.none _)
      | (with_reducible refine LeO.ite ?_ ?_)
      | (with_reducible refine LeO.bind ?_ (fun _ => ?_))
      | exact ih0 _ _ _ _ _ _
      | exact ih1 _ _ _ _ _ _ _
      | exact ih2 _ _ _ _ _ _ _
      | exact ih3 _ _ _ _ _ _ _ _ _ _
      | exact LeO.none _
      | refine LeO.ite ?_ ?_
      | refine LeO.bind ?_ (fun _ => ?_)
    · intro y0 y1 y2 y3 y4 y5 y6
      unfold tdparse_AppendEscape.j2
      repeat' first
      | (with_reducible exact ih0 _ _ _ _ _ _)
      | (with_reducible exact ih1 _ _ _ _ _ _ _)
      | (with_reducible exact ih2 _ _ _ _ _ _ _)
      | (with_reducible exact ih3 _ _ _ _ _ _ _ _ _ _)
      | (with_reducible exact LeO.refl _)
      | (with_reducible exact LeO.none _)
      | (with_reducible refine LeO.ite ?_ ?_)
      | (with_reducible refine LeO.bind ?_ (fun _ => ?_))
      | exact ih0 _ _ _ _ _ _
      | exact ih1 _ _ _ _ _ _ _
      | exact ih2 _ _ _ _ _ _ _
      | exact ih3 _ _ _ _ _ _ _ _ _ _
      | exact LeO.none _
      | refine LeO.ite ?_ ?_
      | refine LeO.bind ?_ (fun _ => ?_)
    · intro y0 y1 y2 y3 y4 y5 y6
      unfold tdparse_AppendEscape.j3
      repeat' first
      | (with_reducible exact ih0 _ _ _ _ _ _)
      | (with_reducible exact ih1 _ _ _ _ _ _ _)
      | (with_reducible exact ih2 _ _ _ _ _ _ _)
      | (with_reducible exact ih3 _ _ _ _ _ _ _ _ _ _)
      | (with_reducible exact LeO.refl _)
      | (with_reducible exact LeO.none _)
      | (with_reducible refine LeO.ite ?_ ?_)
      | (with_reducible refine LeO.bind ?_ (fun _ => ?_))
      | exact ih0 _ _ _ _ _ _
      | exact ih1 _ _ _ _ _ _ _
      | exact ih2 _ _ _ _ _ _ _
      | exact ih3 _ _ _ _ _ _ _ _ _ _
      | exact LeO.none _
      | refine LeO.ite ?_ ?_
      | refine LeO.bind ?_ (fun _ => ?_)
    · intro y0 y1 y2 y3 y4 y5 y6 y7 y8 y9
      unfold tdparse_AppendEscape.l1
      repeat' first
      | (with_reducible exact ih0 _ _ _ _ _ _)
      | (with_reducible exact ih1 _ _ _ _ _ _ _)
      | (with_reducible exact ih2 _ _ _ _ _ _ _)
      | (with_reducible exact ih3 _ _ _ _ _ _ _ _ _ _)
      | (with_reducible exact LeO.refl _)
      | (with_reducible exact LeO.none _)
      | (with_reducible refine LeO.ite ?_ ?_)
      | (with_reducible refine LeO.bind ?_ (fun _ => ?_))
      | exact ih0 _ _ _ _ _ _
      | exact ih1 _ _ _ _ _ _ _
      | exact ih2 _ _ _ _ _ _ _
      | exact ih3 _ _ _ _ _ _ _ _ _ _
      | exact LeO.none _
      | refine LeO.ite ?_ ?_
      | refine LeO.bind ?_ (fun _ => ?_)
theorem tdparse_AppendEscape.mono : ∀ a0 a1 a2 a3 k, LeO (tdparse_AppendEscape.f k a0 a1 a2 a3) (tdparse_AppendEscape.f (k + 1) a0 a1 a2 a3) := by
  intro a0 a1 a2 a3 k
  obtain ⟨ih0, ih1, ih2, ih3⟩ := tdparse_AppendEscape.mono_l k
  unfold tdparse_AppendEscape.f
  repeat' first
      | (with_reducible exact ih0 _ _ _ _ _ _)
      | (with_reducible exact ih1 _ _ _ _ _ _ _)
      | (with_reducible exact ih2 _ _ _ _ _ _ _)
      | (with_reducible exact ih3 _ _ _ _ _ _ _ _ _ _)
      | (with_reducible exact LeO.refl _)
      | (with_reducible exact LeO.none _)
      | (with_reducible refine LeO.ite ?_ ?_)
      | (with_reducible refine LeO.bind ?_ (fun _ => ?_))
      | exact ih0 _ _ _ _ _ _
      | exact ih1 _ _ _ _ _ _ _
      | exact ih2 _ _ _ _ _ _ _
      | exact ih3 _ _ _ _ _ _ _ _ _ _
      | exact LeO.none _
      | refine LeO.ite ?_ ?_
      | refine LeO.bind ?_ (fun _ => ?_)
set_option maxHeartbeats 8000000 in
set_option maxRecDepth 100000 in
theorem tdparse_AppendEscape.calls (k : Nat) (P0_ : Nat → Prop) (u9000_ : Value) (l0 : List Int) (A1 : Option Addr) (c1 : Nat) (l1 : List Int) (A2 : Option Addr) (c2 : Nat) (l2 : List Int) (a3 : Int) (r : List Int) (w0 w : World) (hB : Below w0.heap.size w0 w) (ho0 : Kd.R (Kd.int .u8) 5 w w0.heap.size P0_ u9000_ l0) (hr1 : ∀ W_, Kept w W_ (fun k_ => P0_ k_) → Kd.C (Kd.int .u8) W_ A1 l1.length l1) (hc1 : l1.length ≤ c1) (hr2 : ∀ W_, Kept w W_ (fun k_ => P0_ k_) → Kd.C (Kd.int .u8) W_ A2 l2.length l2) (hc2 : l2.length ≤ c2) (h : tdparse_AppendEscape.f k l0 l1 l2 a3 = some r) :
    Calls Try.prog 53 #[u9000_, .slice A1 l1.length c1, .slice A2 l2.length c2, .int .u8 a3] w fun e w' => ∃ v0_ : Value, e = .returned (v0_) ∧ Kd.R (Kd.int .u8) 5 w' w0.heap.size (fun k_ => (P0_ k_ ∨ w.heap.size ≤ k_)) v0_ r ∧ Below w0.heap.size w0 w' ∧ Kept w w' (fun k_ => P0_ k_) := by
  have HO0 := Aside0.mk (show Kd.R (Kd.int .u8) 5 w w0.heap.size (fun k_ => (P0_ k_ ∨ w.heap.size ≤ k_)) u9000_ l0 from Kd.R_mono ho0 (fun k_ hk => (.inl hk)))
  have HR1 := Aside0.mk hr1
  have HC1 := Aside0.mk hc1
  clear hr1 hc1
  have HR2 := Aside0.mk hr2
  have HC2 := Aside0.mk hc2
  clear hr2 hc2
  have HK := Aside0.mk (Kept.refl w (fun k_ => P0_ k_))
  have HW0 := Aside0.mk hB.size
  have HB := Aside0.mk hB
  clear hB
  have H : (tdparse_AppendEscape.l0 k l0 l1 l2 a3 0 0) = some r := h
  clear h
  have H' := Aside0.mk H
  clear H
  go_enter Try.func53, Try.ntmps53
  go_wp2
  go_loopg [0, 9, 10] k (fun kq v0 v9 v10 w' => ∃ (x0_1 : List Int) (x9_1 : Int) (x10_1 : Int), v9 = .int .i64 x9_1 ∧ v10 = .int .i64 x10_1 ∧ Aside0 (tdparse_AppendEscape.l0 kq x0_1 l1 l2 a3 x9_1 x10_1 = some r) ∧ Aside0 (kq ≤ k) ∧ Aside0 (Kd.R (Kd.int .u8) 5 w' w0.heap.size (fun k_ => (P0_ k_ ∨ w.heap.size ≤ k_)) v0 x0_1) ∧ Aside0 (Kept w w' (fun k_ => P0_ k_)) ∧ Aside0 (Below w0.heap.size w0 w'))
  case atStart => exact ⟨(l0), (0), (0), (by first | rfl | (simp; done) | (simp [*]; done)), (by first | rfl | (simp; done) | (simp [*]; done)), H', ⟨Nat.le_refl _⟩, ⟨by (with_reducible repeat (first | apply Kd.R_alloc | apply Kd.R_drewN | apply Kd.R_drew)); exact HO0.out⟩, ⟨by repeat (first | (with_reducible first | exact HK.out | apply Kept.alloc | apply Kept.drewN | apply Kept.drew) | exact HK.out)⟩, ⟨by repeat (first | (with_reducible first | exact HB.out | apply below_alloc | apply pw_below_drewN | apply below_drew1) | exact HB.out)⟩⟩
  case round =>
    clear H'
    try clear c1
    try clear c2
    try clear p2
    obtain ⟨x0_1, x9_1, x10_1, rfl, rfl, HA, HK1, HO_0, HK, HB⟩ := hrel
    cases gk with
    | zero => exact absurd HA.out (by simp [tdparse_AppendEscape.l0])
    | succ k1 =>
      have H := HA.out
      clear HA
      simp only [tdparse_AppendEscape.l0] at H
      by_cases c5 : x10_1 < (l1.length : Int)
      · rw [if_pos c5] at H
        have c5b0 : decide (x10_1 < (l1.length : Int)) = true := decide_eq_true c5
        clear c5
        have HC6 := Aside0.mk H
        clear H
        go_upto_block 2 with (fail)
        go_cut [11] (fun v11 wc => ∃ (kq : Nat) (x11_5 : Bool), v11 = .bool x11_5 ∧ Aside0 (tdparse_AppendEscape.j2 kq x0_1 l1 l2 a3 x9_1 x10_1 x11_5 = some r) ∧ Aside0 (kq ≤ k1) ∧ Aside0 (Kd.R (Kd.int .u8) 5 wc w0.heap.size (fun k_ => (P0_ k_ ∨ w.heap.size ≤ k_)) u0 x0_1) ∧ Aside0 (Kept w wc (fun k_ => P0_ k_)) ∧ Aside0 (Below w0.heap.size w0 wc))
        case first =>
          have H := HC6.out
          clear HC6
          have H' := Aside0.mk H
          clear H
          go_wp2
          go_loopg [11, 22] k1 (fun kq v11 v22 w' => ∃ (x11_2 : Bool) (x22_2 : Int), v11 = .bool x11_2 ∧ v22 = .int .i64 x22_2 ∧ Aside0 (tdparse_AppendEscape.l1 kq x0_1 l1 l2 a3 x9_1 x10_1 x11_2 l2 (l2.length : Int) x22_2 = some r) ∧ Aside0 (kq ≤ k1) ∧ Aside0 (Kd.R (Kd.int .u8) 5 w' w0.heap.size (fun k_ => (P0_ k_ ∨ w.heap.size ≤ k_)) u0 x0_1) ∧ Aside0 (Kept w w' (fun k_ => P0_ k_)) ∧ Aside0 (Below w0.heap.size w0 w'))
          case atStart => exact ⟨(false), (0), (by first | rfl | (simp; done) | (simp [*]; done)), (by first | rfl | (simp; done) | (simp [*]; done)), H', ⟨Nat.le_refl _⟩, ⟨by (with_reducible repeat (first | apply Kd.R_alloc | apply Kd.R_drewN | apply Kd.R_drew)); exact HO_0.out⟩, ⟨by repeat (first | (with_reducible first | exact HK.out | apply Kept.alloc | apply Kept.drewN | apply Kept.drew) | exact HK.out)⟩, ⟨by repeat (first | (with_reducible first | exact HB.out | apply below_alloc | apply pw_below_drewN | apply below_drew1) | exact HB.out)⟩⟩
          case round =>
            clear H'
            try clear c1
            try clear c2
            try clear p2
            try clear c5
            try clear c5b0
            try clear p2
            obtain ⟨x11_2, x22_2, rfl, rfl, HA, HK2, HO_0, HK, HB⟩ := hrel
            cases gk with
            | zero => exact absurd HA.out (by simp [tdparse_AppendEscape.l1])
            | succ k2 =>
              have H := HA.out
              clear HA
              simp only [tdparse_AppendEscape.l1] at H
              by_cases c7 : x22_2 < (l2.length : Int)
              · rw [if_pos c7] at H
                have c7b0 : decide (x22_2 < (l2.length : Int)) = true := decide_eq_true c7
                clear c7
                (first | rw [c7b0] | (simp only [i64_w, i32_w]; rw [c7b0]) | skip)
                by_cases c8 : 0 ≤ x22_2
                · rw [if_pos c8] at H
                  have c8b0 : decide (0 ≤ x22_2) = true := decide_eq_true c8
                  clear c8
                  by_cases c9 : x22_2 < (l2.length : Int)
                  · rw [if_pos c9] at H
                    have c9b0 : decide (x22_2 < (l2.length : Int)) = true := decide_eq_true c9
                    clear c9
                    by_cases c10 : 0 ≤ x10_1
                    · rw [if_pos c10] at H
                      have c10b0 : decide (0 ≤ x10_1) = true := decide_eq_true c10
                      clear c10
                      by_cases c11 : x10_1 < (l1.length : Int)
                      · rw [if_pos c11] at H
                        have c11b0 : decide (x10_1 < (l1.length : Int)) = true := decide_eq_true c11
                        clear c11
                        by_cases c12 : (rd l2 x22_2) = (rd l1 x10_1)
                        · rw [if_pos c12] at H
                          have c12b0 : ((rd l2 x22_2) == (rd l1 x10_1)) = true := beq_iff_eq.mpr c12
                          have c12b1 : ((rd l2 x22_2) != (rd l1 x10_1)) = false := bne_eq_false_iff_eq.mpr c12
                          clear c12
                          have H' := Aside0.mk H
                          clear H
                          have p124 : 0 ≤ (x22_2 : Int) := of_decide_eq_true (by first | (with_reducible assumption) | assumption)
                          have q124 : x22_2 < (l2.length : Int) := of_decide_eq_true (by first | (with_reducible assumption) | assumption)
                          obtain ⟨ad124, e124, hx124_0⟩ := Kd.at_int (Kd.C_kept_now HR2.out HK.out) x22_2 p124 q124
                          cases e124
                          replace p124 := eq_true p124
                          replace q124 := eq_true q124
                          have p125 : 0 ≤ (x10_1 : Int) := of_decide_eq_true (by first | (with_reducible assumption) | assumption)
                          have q125 : x10_1 < (l1.length : Int) := of_decide_eq_true (by first | (with_reducible assumption) | assumption)
                          obtain ⟨ad125, e125, hx125_0⟩ := Kd.at_int (Kd.C_kept_now HR1.out HK.out) x10_1 p125 q125
                          cases e125
                          replace p125 := eq_true p125
                          replace q125 := eq_true q125
                          go_wp2
                          go_meet
                          case rel => exact ⟨_, (true), (by first | rfl | (simp; done) | (simp [*]; done)), H', ⟨by have := HK1.out; have := HK2.out; first | omega | exact Nat.le_refl _⟩, ⟨by (with_reducible repeat (first | apply Kd.R_alloc | apply Kd.R_drewN | apply Kd.R_drew)); exact HO_0.out⟩, ⟨by repeat (first | (with_reducible first | exact HK.out | apply Kept.alloc | apply Kept.drewN | apply Kept.drew) | exact HK.out)⟩, ⟨by repeat (first | (with_reducible first | exact HB.out | apply below_alloc | apply pw_below_drewN | apply below_drew1) | exact HB.out)⟩⟩
                        · rw [if_neg c12] at H
                          have c12b0 : ((rd l2 x22_2) == (rd l1 x10_1)) = false := beq_eq_false_iff_ne.mpr c12
                          have c12b1 : ((rd l2 x22_2) != (rd l1 x10_1)) = true := bne_iff_ne.mpr c12
                          have H' := Aside0.mk H
                          clear H
                          have p124 : 0 ≤ (x22_2 : Int) := of_decide_eq_true (by first | (with_reducible assumption) | assumption)
                          have q124 : x22_2 < (l2.length : Int) := of_decide_eq_true (by first | (with_reducible assumption) | assumption)
                          obtain ⟨ad124, e124, hx124_0⟩ := Kd.at_int (Kd.C_kept_now HR2.out HK.out) x22_2 p124 q124
                          cases e124
                          replace p124 := eq_true p124
                          replace q124 := eq_true q124
                          have p125 : 0 ≤ (x10_1 : Int) := of_decide_eq_true (by first | (with_reducible assumption) | assumption)
                          have q125 : x10_1 < (l1.length : Int) := of_decide_eq_true (by first | (with_reducible assumption) | assumption)
                          obtain ⟨ad125, e125, hx125_0⟩ := Kd.at_int (Kd.C_kept_now HR1.out HK.out) x10_1 p125 q125
                          cases e125
                          replace p125 := eq_true p125
                          replace q125 := eq_true q125
                          go_wp2
                          go_roundg k2
                          case measure => have := HK1.out; have := HK2.out; omega
                          case rel => exact ⟨(x11_2), (wrap64 (x22_2 + 1)), (by first | rfl | (simp; done) | (simp [*]; done)), (by first | rfl | (simp; done) | (simp [*]; done)), H', ⟨by have := HK1.out; have := HK2.out; omega⟩, ⟨by (with_reducible repeat (first | apply Kd.R_alloc | apply Kd.R_drewN | apply Kd.R_drew)); exact HO_0.out⟩, ⟨by repeat (first | (with_reducible first | exact HK.out | apply Kept.alloc | apply Kept.drewN | apply Kept.drew) | exact HK.out)⟩, ⟨by repeat (first | (with_reducible first | exact HB.out | apply below_alloc | apply pw_below_drewN | apply below_drew1) | exact HB.out)⟩⟩
                      · rw [if_neg c11] at H
                        exact absurd H (by simp)
                    · rw [if_neg c10] at H
                      exact absurd H (by simp)
                  · rw [if_neg c9] at H
                    exact absurd H (by simp)
                · rw [if_neg c8] at H
                  exact absurd H (by simp)
              · rw [if_neg c7] at H
                have c7b0 : decide (x22_2 < (l2.length : Int)) = false := decide_eq_false c7
                clear c7
                (first | rw [c7b0] | (simp only [i64_w, i32_w]; rw [c7b0]) | skip)
                have H' := Aside0.mk H
                clear H
                go_wp2
                go_meet
                case rel => exact ⟨_, (x11_2), (by first | rfl | (simp; done) | (simp [*]; done)), H', ⟨by have := HK1.out; have := HK2.out; first | omega | exact Nat.le_refl _⟩, ⟨by (with_reducible repeat (first | apply Kd.R_alloc | apply Kd.R_drewN | apply Kd.R_drew)); exact HO_0.out⟩, ⟨by repeat (first | (with_reducible first | exact HK.out | apply Kept.alloc | apply Kept.drewN | apply Kept.drew) | exact HK.out)⟩, ⟨by repeat (first | (with_reducible first | exact HB.out | apply below_alloc | apply pw_below_drewN | apply below_drew1) | exact HB.out)⟩⟩
        case rest =>
          clear HC6
          try clear c1
          try clear p1
          try clear q1
          try clear hx1
          try clear c2
          try clear p2
          try clear c5
          try clear c5b0
          try clear p6
          try clear c7
          try clear c7b0
          try clear c8
          try clear c8b0
          try clear c9
          try clear c9b0
          try clear c10
          try clear c10b0
          try clear c11
          try clear c11b0
          try clear c12
          try clear c12b0
          try clear c12b1
          try clear p12
          try clear q12
          try clear hx12
          try clear hx124_0
          try clear hx125_0
          try clear p124
          try clear p125
          try clear p2
          try clear q124
          try clear q125
          obtain ⟨kq, x11_5, rfl, HA, HJ5, HO_0, HK, HB⟩ := hcut
          cases kq with
          | zero => exact absurd HA.out (by simp [tdparse_AppendEscape.j2])
          | succ kj5 =>
            have H := HA.out
            clear HA
            simp only [tdparse_AppendEscape.j2] at H
            have HC13 := Aside0.mk H
            clear H
            go_upto_region 12 with (fail)
            go_cut [41] (fun v41 wc => ∃ (kq : Nat) (x41_12 : Bool), v41 = .bool x41_12 ∧ Aside0 (tdparse_AppendEscape.j3 kq x0_1 l1 l2 a3 x9_1 x10_1 x41_12 = some r) ∧ Aside0 (kq ≤ kj5) ∧ Aside0 (Kd.R (Kd.int .u8) 5 wc w0.heap.size (fun k_ => (P0_ k_ ∨ w.heap.size ≤ k_)) u0 x0_1) ∧ Aside0 (Kept w wc (fun k_ => P0_ k_)) ∧ Aside0 (Below w0.heap.size w0 wc))
            case first =>
              have H := HC13.out
              clear HC13
              by_cases c14 : x11_5 = true
              · subst c14
                have H1 : (tdparse_AppendEscape.j3 kj5 x0_1 l1 l2 a3 x9_1 x10_1 true) = some r := by rw [if_pos rfl] at H; exact H
                clear H
                have H := H1
                clear H1
                have H' := Aside0.mk H
                clear H
                go_wp2
                go_meet
                case rel => exact ⟨_, (true), (by first | rfl | (simp; done) | (simp [*]; done)), H', ⟨by have := HK1.out; have := HJ5.out; first | omega | exact Nat.le_refl _⟩, ⟨by (with_reducible repeat (first | apply Kd.R_alloc | apply Kd.R_drewN | apply Kd.R_drew)); exact HO_0.out⟩, ⟨by repeat (first | (with_reducible first | exact HK.out | apply Kept.alloc | apply Kept.drewN | apply Kept.drew) | exact HK.out)⟩, ⟨by repeat (first | (with_reducible first | exact HB.out | apply below_alloc | apply pw_below_drewN | apply below_drew1) | exact HB.out)⟩⟩
              · replace c14 := Bool.eq_false_iff.mpr c14
                subst c14
                have H1 : (if 0 ≤ x10_1 then (if x10_1 < (l1.length : Int) then (tdparse_AppendEscape.j3 kj5 x0_1 l1 l2 a3 x9_1 x10_1 ((rd l1 x10_1) == a3)) else (none)) else (none)) = some r := by rw [if_neg (show ¬ (false = true) by decide)] at H; exact H
                clear H
                have H := H1
                clear H1
                by_cases c15 : 0 ≤ x10_1
                · rw [if_pos c15] at H
                  have c15b0 : decide (0 ≤ x10_1) = true := decide_eq_true c15
                  clear c15
                  (first | rw [c15b0] | (simp only [i64_w, i32_w]; rw [c15b0]) | skip)
                  by_cases c16 : x10_1 < (l1.length : Int)
                  · rw [if_pos c16] at H
                    have c16b0 : decide (x10_1 < (l1.length : Int)) = true := decide_eq_true c16
                    clear c16
                    have H' := Aside0.mk H
                    clear H
                    have p126 : 0 ≤ (x10_1 : Int) := of_decide_eq_true (by first | (with_reducible assumption) | assumption)
                    have q126 : x10_1 < (l1.length : Int) := of_decide_eq_true (by first | (with_reducible assumption) | assumption)
                    obtain ⟨ad126, e126, hx126_0⟩ := Kd.at_int (Kd.C_kept_now HR1.out HK.out) x10_1 p126 q126
                    cases e126
                    replace p126 := eq_true p126
                    replace q126 := eq_true q126
                    go_wp2
                    go_meet
                    case rel => exact ⟨_, (((rd l1 x10_1) == a3)), (by first | rfl | (simp; done) | (simp [*]; done)), H', ⟨by have := HK1.out; have := HJ5.out; first | omega | exact Nat.le_refl _⟩, ⟨by (with_reducible repeat (first | apply Kd.R_alloc | apply Kd.R_drewN | apply Kd.R_drew)); exact HO_0.out⟩, ⟨by repeat (first | (with_reducible first | exact HK.out | apply Kept.alloc | apply Kept.drewN | apply Kept.drew) | exact HK.out)⟩, ⟨by repeat (first | (with_reducible first | exact HB.out | apply below_alloc | apply pw_below_drewN | apply below_drew1) | exact HB.out)⟩⟩
                  · rw [if_neg c16] at H
                    exact absurd H (by simp)
                · rw [if_neg c15] at H
                  exact absurd H (by simp)
            case rest =>
              clear HC13
              try clear c1
              try clear p1
              try clear q1
              try clear hx1
              try clear c2
              try clear p2
              try clear c5
              try clear c5b0
              try clear p6
              try clear c7
              try clear c7b0
              try clear c8
              try clear c8b0
              try clear c9
              try clear c9b0
              try clear c10
              try clear c10b0
              try clear c11
              try clear c11b0
              try clear c12
              try clear c12b0
              try clear c12b1
              try clear p12
              try clear q12
              try clear hx12
              try clear c14
              try clear c15
              try clear c15b0
              try clear c16
              try clear c16b0
              try clear hx124_0
              try clear hx125_0
              try clear hx126_0
              try clear p1
              try clear p12
              try clear p124
              try clear p125
              try clear p126
              try clear p2
              try clear p6
              try clear q1
              try clear q12
              try clear q124
              try clear q125
              try clear q126
              obtain ⟨kq, x41_12, rfl, HA, HJ12, HO_0, HK, HB⟩ := hcut
              cases kq with
              | zero => exact absurd HA.out (by simp [tdparse_AppendEscape.j3])
              | succ kj12 =>
                have H := HA.out
                clear HA
                simp only [tdparse_AppendEscape.j3] at H
                by_cases c17 : x41_12 = true
                · subst c17
                  have H1 : (if x9_1 < x10_1 then (if 0 ≤ x9_1 then (if x9_1 ≤ x10_1 then (if x10_1 ≤ (l1.length : Int) then ((some ((l1.take (x10_1 : Int).toNat).drop (x9_1 : Int).toNat : List Int)).bind fun y127 => (if x0_1.length + y127.length < 140737488355328 then ((some (x0_1 ++ y127 : List Int)).bind fun y131 => (if y131.length < 140737488355328 then (tdparse_AppendEscape.l0 kj12 (y131 ++ [a3]) l1 l2 a3 x10_1 (wrap64 (x10_1 + 1))) else (none))) else (none))) else (none)) else (none)) else (none)) else (if x0_1.length < 140737488355328 then (tdparse_AppendEscape.l0 kj12 (x0_1 ++ [a3]) l1 l2 a3 x10_1 (wrap64 (x10_1 + 1))) else (none))) = some r := by rw [if_pos rfl] at H; exact H
                  clear H
                  have H := H1
                  clear H1
                  by_cases c18 : x9_1 < x10_1
                  · rw [if_pos c18] at H
                    have c18b0 : decide (x9_1 < x10_1) = true := decide_eq_true c18
                    clear c18
                    by_cases c19 : 0 ≤ x9_1
                    · rw [if_pos c19] at H
                      have c19b0 := eq_true c19
                      have c19b1 : decide (0 ≤ x9_1) = true := decide_eq_true c19
                      clear c19
                      by_cases c20 : x9_1 ≤ x10_1
                      · rw [if_pos c20] at H
                        have c20b0 := eq_true c20
                        have c20b1 : decide (x9_1 ≤ x10_1) = true := decide_eq_true c20
                        clear c20
                        by_cases c21 : x10_1 ≤ (l1.length : Int)
                        · rw [if_pos c21] at H
                          have c21b0 := eq_true c21
                          have c21b1 : decide (x10_1 ≤ (l1.length : Int)) = true := decide_eq_true c21
                          clear c21
                          obtain ⟨y127, hy127⟩ : ∃ y_ : List Int, y_ = ((l1.take (x10_1 : Int).toNat).drop (x9_1 : Int).toNat) := ⟨_, rfl⟩
                          replace H : (if x0_1.length + y127.length < 140737488355328 then ((some (x0_1 ++ y127 : List Int)).bind fun y131 => (if y131.length < 140737488355328 then (tdparse_AppendEscape.l0 kj12 (y131 ++ [a3]) l1 l2 a3 x10_1 (wrap64 (x10_1 + 1))) else (none))) else (none)) = some r := by first | (rw [hy127]; with_reducible exact H) | (have H2_ := (Option.bind_some _ _).symm.trans H; rw [hy127]; with_reducible exact H2_) | (have H2_ := (Option.bind_some _ _).symm.trans H; with_reducible exact H2_) | with_reducible exact H | (rw [hy127]; exact H) | exact H
                          have Ny127 := Aside0.mk hy127
                          clear hy127
                          by_cases c22 : x0_1.length + y127.length < 140737488355328
                          · rw [if_pos c22] at H
                            have LMc22 := Aside0.mk c22
                            clear c22
                            obtain ⟨y131, hy131⟩ : ∃ y_ : List Int, y_ = (x0_1 ++ y127) := ⟨_, rfl⟩
                            replace H : (if y131.length < 140737488355328 then (tdparse_AppendEscape.l0 kj12 (y131 ++ [a3]) l1 l2 a3 x10_1 (wrap64 (x10_1 + 1))) else (none)) = some r := by first | (rw [hy131]; with_reducible exact H) | (have H2_ := (Option.bind_some _ _).symm.trans H; rw [hy131]; with_reducible exact H2_) | (have H2_ := (Option.bind_some _ _).symm.trans H; with_reducible exact H2_) | with_reducible exact H | (rw [hy131]; exact H) | exact H
                            have Ny131 := Aside0.mk hy131
                            clear hy131
                            by_cases c23 : y131.length < 140737488355328
                            · rw [if_pos c23] at H
                              have LMc23 := Aside0.mk c23
                              clear c23
                              obtain ⟨y134, hy134⟩ : ∃ y_ : List Int, y_ = (y131 ++ [a3]) := ⟨_, rfl⟩
                              replace H : (tdparse_AppendEscape.l0 kj12 y134 l1 l2 a3 x10_1 (wrap64 (x10_1 + 1))) = some r := by first | (rw [hy134]; with_reducible exact H) | (have H2_ := (Option.bind_some _ _).symm.trans H; rw [hy134]; with_reducible exact H2_) | (have H2_ := (Option.bind_some _ _).symm.trans H; with_reducible exact H2_) | with_reducible exact H | (rw [hy134]; exact H) | exact H
                              have Ny134 := Aside0.mk hy134
                              clear hy134
                              have H' := Aside0.mk H
                              clear H
                              have q24 : (x10_1 : Int) ≤ ((l1.length : Int) : Int) := of_decide_eq_true (by first | (with_reducible assumption) | assumption)
                              obtain ⟨i024, hi024, _, hsz24, _⟩ := info_parts info5
                              have hroom24 : l1.length ≤ c1 := HC1.out
                              have hC24 : Kd.C (Kd.int .u8) _ A1 l1.length l1 := (Kd.C_kept_now HR1.out HK.out)
                              have ql24 : (x9_1 : Int) ≤ (x10_1 : Int) := of_decide_eq_true (by first | (with_reducible assumption) | assumption)
                              have q024 : (0 : Int) ≤ (x9_1 : Int) := of_decide_eq_true (by first | (with_reducible assumption) | assumption)
                              have hcut24 := cut_mid (P := Try.prog) 22 5 .i64 .i64 Try.underlying22 hi024 1 hsz24 A1 l1.length c1 x9_1 x10_1 q024 ql24 q24 hroom24
                              have hr24 := Kd.C_mid (lo := (x9_1 : Int).toNat) (hi := (x10_1 : Int).toNat) (c := c1) hC24 (by omega) (by omega) hroom24
                              obtain ⟨A24, hA24⟩ : ∃ Aq_, Aq_ = (if c1 = (x9_1 : Int).toNat then A1 else (A1 : Option Addr).map (·.add ((x9_1 : Int).toNat * 1))) := ⟨_, rfl⟩
                              obtain ⟨c24, hc24⟩ : ∃ cq_, cq_ = c1 - (x9_1 : Int).toNat := ⟨_, rfl⟩
                              have hy24 : y127.length = (x10_1 : Int).toNat - (x9_1 : Int).toNat := (by rw [Ny127.out, List.length_drop, List.length_take] <;> omega)
                              rw [show ((l1).take (x10_1 : Int).toNat).drop (x9_1 : Int).toNat = y127 from Ny127.out.symm] at hr24
                              replace hr24 : Kd.C (Kd.int .u8) _ A24 y127.length y127 := (by rw [hA24]; exact hr24)
                              rw [← hy24, ← hA24, ← hc24] at hcut24
                              have HR130 := Aside0.mk hr24
                              have HC130 := Aside0.mk (show y127.length ≤ c24 from by rw [hy24, hc24]; exact Nat.sub_le_sub_right (Nat.le_trans (by omega) hroom24) _)
                              clear hr24 hC24 hroom24 hi024 hsz24 hc24
                              have KY24 := Aside0.mk hy24
                              have KA24 := Aside0.mk hA24
                              clear hy24 hA24
                              have KL24 := Aside0.mk (show (x10_1 : Int).toNat ≤ l1.length from by omega)
                              have KM24 := Aside0.mk (show (x9_1 : Int).toNat ≤ (x10_1 : Int).toNat from by omega)
                              replace q24 := eq_true q24
                              go_wp2_with (first | ((with_reducible refine gate_builtin (b := .append) (xs := #[.tmp 45, .tmp 49]) rfl ?_); at_builtin; refine Kd.R_append_rows (Kd.int .u8) (w0 := w0) w0.heap.size rfl (.tmp 45) (.tmp 49) 22 5 (.int .u8 0) 1 rfl Try.underlying22 info5 rfl (by decide) (by omega) u0 x0_1 y127 _ _ _ (fun k_ => (P0_ k_ ∨ w.heap.size ≤ k_)) (fun _ => False) rfl rfl ?aO ?aR (fun _ _ h => h) (fun _ h => h.elim) ?aF ?aB ?aS ?aL ?_; (case aR => repeat (first | exact (by repeat (first | (with_reducible exact HR130.out) | (with_reducible refine Kd.C_alloc ?_ _) | (with_reducible refine Kd.C_drewN ?_ _) | (with_reducible refine Kd.C_drew ?_) | exact HR130.out)) | (with_reducible refine Kd.C_alloc ?_ _) | (with_reducible refine Kd.C_drewN ?_ _) | (with_reducible refine Kd.C_drew ?_))); (case aB => exact (by repeat (first | (with_reducible first | exact HB.out | apply below_alloc | apply pw_below_drewN | apply below_drew1) | exact HB.out))); (case aF => exact (fun k_ hk => (.inr (Nat.le_trans (by first | exact HK.out.1 | exact (show Kept w _ (fun k_ => P0_ k_) from by repeat (first | (with_reducible first | exact HK.out | apply Kept.alloc | apply Kept.drewN | apply Kept.drew) | exact HK.out)).1) hk)))); (case aO => exact (by (with_reducible repeat (first | apply Kd.R_alloc | apply Kd.R_drewN | apply Kd.R_drew)); exact HO_0.out)); (case aS => exact (below_size (by repeat (first | (with_reducible first | exact HB.out | apply below_alloc | apply pw_below_drewN | apply below_drew1) | exact HB.out)))); (case aL => have := LMc22.out; omega); intro v132 w25 ho hb hg hat; rw [← Ny131.out] at ho; have n0_ := Aside0.mk (hb); have n1_ := Aside0.mk (Kept.of_grown (S := (fun k_ => P0_ k_)) hg (by repeat (first | (with_reducible first | exact HK.out | apply Kept.alloc | apply Kept.drewN | apply Kept.drew) | exact HK.out)) (fun k_ e_ => (HO_0.out.1 k_ e_))); have n2_ := Aside0.mk ((show Kd.C (Kd.int .u8) w25 A24 y127.length y127 from by rw [Ny127.out, KA24.out]; exact Kd.C_mid (lo := (x9_1 : Int).toNat) (hi := (x10_1 : Int).toNat) (c := c1) (Kd.C_kept_now HR1.out (show Kept w w25 (fun k_ => P0_ k_) from (Kept.of_grown (S := (fun k_ => P0_ k_)) hg (by repeat (first | (with_reducible first | exact HK.out | apply Kept.alloc | apply Kept.drewN | apply Kept.drew) | exact HK.out)) (fun k_ e_ => (HO_0.out.1 k_ e_))))) KM24.out KL24.out HC1.out)); have n3_ := Aside0.mk (ho); clear HB; clear HK; clear HR130; clear HO_0; have HB := n0_; have HK := n1_; have HR130 := n2_; have HO133 := n3_; clear n0_ n1_ n2_ n3_; clear ho hb hg hat) | ((with_reducible refine gate_builtin (b := .append) (xs := #[.tmp 51, .tmp 53]) rfl ?_); at_builtin; refine Kd.R_append (Kd.int .u8) (w0 := w0) w0.heap.size rfl (.tmp 51) (.tmp 53) 22 5 (.int .u8 0) 1 rfl Try.underlying22 info5 rfl (by decide) (by omega) v132 y131 a3 [.int .u8 a3] (fun k_ => (P0_ k_ ∨ w.heap.size ≤ k_)) (fun _ => False) rfl rfl ?aP (fun _ hk => hk.elim) ?aF ?aO ?aB ?aS ?aL ?_; (case aP => exact rfl); (case aB => exact (by repeat (first | (with_reducible first | exact HB.out | apply below_alloc | apply pw_below_drewN | apply below_drew1) | exact HB.out))); (case aF => exact (fun k_ hk => (.inr (Nat.le_trans (by first | exact HK.out.1 | exact (show Kept w _ (fun k_ => P0_ k_) from by repeat (first | (with_reducible first | exact HK.out | apply Kept.alloc | apply Kept.drewN | apply Kept.drew) | exact HK.out)).1) hk)))); (case aO => exact (by (with_reducible repeat (first | apply Kd.R_alloc | apply Kd.R_drewN | apply Kd.R_drew)); exact HO133.out)); (case aS => exact (below_size (by repeat (first | (with_reducible first | exact HB.out | apply below_alloc | apply pw_below_drewN | apply below_drew1) | exact HB.out)))); (case aL => have := LMc23.out; omega); intro v135 w26 ho hb hg hat; rw [← Ny134.out] at ho; have n0_ := Aside0.mk (hb); have n1_ := Aside0.mk (Kept.of_grown (S := (fun k_ => P0_ k_)) hg (by repeat (first | (with_reducible first | exact HK.out | apply Kept.alloc | apply Kept.drewN | apply Kept.drew) | exact HK.out)) (fun k_ e_ => (HO133.out.1 k_ e_))); have n2_ := Aside0.mk ((show Kd.C (Kd.int .u8) w26 A24 y127.length y127 from by rw [Ny127.out, KA24.out]; exact Kd.C_mid (lo := (x9_1 : Int).toNat) (hi := (x10_1 : Int).toNat) (c := c1) (Kd.C_kept_now HR1.out (show Kept w w26 (fun k_ => P0_ k_) from (Kept.of_grown (S := (fun k_ => P0_ k_)) hg (by repeat (first | (with_reducible first | exact HK.out | apply Kept.alloc | apply Kept.drewN | apply Kept.drew) | exact HK.out)) (fun k_ e_ => (HO133.out.1 k_ e_))))) KM24.out KL24.out HC1.out)); have n3_ := Aside0.mk (ho); clear HB; clear HK; clear HR130; clear HO133; have HB := n0_; have HK := n1_; have HR130 := n2_; have HO136 := n3_; clear n0_ n1_ n2_ n3_; clear ho hb hg hat))
                              go_roundg kj12
                              case measure => have := HK1.out; have := HJ5.out; have := HJ12.out; omega
                              case rel => exact ⟨(y134), (x10_1), (wrap64 (x10_1 + 1)), (by first | rfl | (simp; done) | (simp [*]; done)), (by first | rfl | (simp; done) | (simp [*]; done)), H', ⟨by have := HK1.out; have := HJ5.out; have := HJ12.out; omega⟩, ⟨by (with_reducible repeat (first | apply Kd.R_alloc | apply Kd.R_drewN | apply Kd.R_drew)); exact HO136.out⟩, ⟨by repeat (first | (with_reducible first | exact HK.out | apply Kept.alloc | apply Kept.drewN | apply Kept.drew) | exact HK.out)⟩, ⟨by repeat (first | (with_reducible first | exact HB.out | apply below_alloc | apply pw_below_drewN | apply below_drew1) | exact HB.out)⟩⟩
                            · rw [if_neg c23] at H
                              exact absurd H (by simp)
                          · rw [if_neg c22] at H
                            exact absurd H (by simp)
                        · rw [if_neg c21] at H
                          exact absurd H (by simp)
                      · rw [if_neg c20] at H
                        exact absurd H (by simp)
                    · rw [if_neg c19] at H
                      exact absurd H (by simp)
                  · rw [if_neg c18] at H
                    have c18b0 : decide (x9_1 < x10_1) = false := decide_eq_false c18
                    clear c18
                    by_cases c27 : x0_1.length < 140737488355328
                    · rw [if_pos c27] at H
                      have LMc27 := Aside0.mk c27
                      clear c27
                      obtain ⟨y137, hy137⟩ : ∃ y_ : List Int, y_ = (x0_1 ++ [a3]) := ⟨_, rfl⟩
                      replace H : (tdparse_AppendEscape.l0 kj12 y137 l1 l2 a3 x10_1 (wrap64 (x10_1 + 1))) = some r := by first | (rw [hy137]; with_reducible exact H) | (have H2_ := (Option.bind_some _ _).symm.trans H; rw [hy137]; with_reducible exact H2_) | (have H2_ := (Option.bind_some _ _).symm.trans H; with_reducible exact H2_) | with_reducible exact H | (rw [hy137]; exact H) | exact H
                      have Ny137 := Aside0.mk hy137
                      clear hy137
                      have H' := Aside0.mk H
                      clear H
                      go_wp2_with (first | ((with_reducible refine gate_builtin (b := .append) (xs := #[.tmp 51, .tmp 53]) rfl ?_); at_builtin; refine Kd.R_append (Kd.int .u8) (w0 := w0) w0.heap.size rfl (.tmp 51) (.tmp 53) 22 5 (.int .u8 0) 1 rfl Try.underlying22 info5 rfl (by decide) (by omega) u0 x0_1 a3 [.int .u8 a3] (fun k_ => (P0_ k_ ∨ w.heap.size ≤ k_)) (fun _ => False) rfl rfl ?aP (fun _ hk => hk.elim) ?aF ?aO ?aB ?aS ?aL ?_; (case aP => exact rfl); (case aB => exact (by repeat (first | (with_reducible first | exact HB.out | apply below_alloc | apply pw_below_drewN | apply below_drew1) | exact HB.out))); (case aF => exact (fun k_ hk => (.inr (Nat.le_trans (by first | exact HK.out.1 | exact (show Kept w _ (fun k_ => P0_ k_) from by repeat (first | (with_reducible first | exact HK.out | apply Kept.alloc | apply Kept.drewN | apply Kept.drew) | exact HK.out)).1) hk)))); (case aO => exact (by (with_reducible repeat (first | apply Kd.R_alloc | apply Kd.R_drewN | apply Kd.R_drew)); exact HO_0.out)); (case aS => exact (below_size (by repeat (first | (with_reducible first | exact HB.out | apply below_alloc | apply pw_below_drewN | apply below_drew1) | exact HB.out)))); (case aL => have := LMc27.out; omega); intro v138 w28 ho hb hg hat; rw [← Ny137.out] at ho; have n0_ := Aside0.mk (hb); have n1_ := Aside0.mk (Kept.of_grown (S := (fun k_ => P0_ k_)) hg (by repeat (first | (with_reducible first | exact HK.out | apply Kept.alloc | apply Kept.drewN | apply Kept.drew) | exact HK.out)) (fun k_ e_ => (HO_0.out.1 k_ e_))); have n2_ := Aside0.mk (ho); clear HB; clear HK; clear HO_0; have HB := n0_; have HK := n1_; have HO139 := n2_; clear n0_ n1_ n2_; clear ho hb hg hat))
                      go_roundg kj12
                      case measure => have := HK1.out; have := HJ5.out; have := HJ12.out; omega
                      case rel => exact ⟨(y137), (x10_1), (wrap64 (x10_1 + 1)), (by first | rfl | (simp; done) | (simp [*]; done)), (by first | rfl | (simp; done) | (simp [*]; done)), H', ⟨by have := HK1.out; have := HJ5.out; have := HJ12.out; omega⟩, ⟨by (with_reducible repeat (first | apply Kd.R_alloc | apply Kd.R_drewN | apply Kd.R_drew)); exact HO139.out⟩, ⟨by repeat (first | (with_reducible first | exact HK.out | apply Kept.alloc | apply Kept.drewN | apply Kept.drew) | exact HK.out)⟩, ⟨by repeat (first | (with_reducible first | exact HB.out | apply below_alloc | apply pw_below_drewN | apply below_drew1) | exact HB.out)⟩⟩
                    · rw [if_neg c27] at H
                      exact absurd H (by simp)
                · replace c17 := Bool.eq_false_iff.mpr c17
                  subst c17
                  have H1 : (tdparse_AppendEscape.l0 kj12 x0_1 l1 l2 a3 x9_1 (wrap64 (x10_1 + 1))) = some r := by rw [if_neg (show ¬ (false = true) by decide)] at H; exact H
                  clear H
                  have H := H1
                  clear H1
                  have H' := Aside0.mk H
                  clear H
                  go_wp2
                  go_roundg kj12
                  case measure => have := HK1.out; have := HJ5.out; have := HJ12.out; omega
                  case rel => exact ⟨(x0_1), (x9_1), (wrap64 (x10_1 + 1)), (by first | rfl | (simp; done) | (simp [*]; done)), (by first | rfl | (simp; done) | (simp [*]; done)), H', ⟨by have := HK1.out; have := HJ5.out; have := HJ12.out; omega⟩, ⟨by (with_reducible repeat (first | apply Kd.R_alloc | apply Kd.R_drewN | apply Kd.R_drew)); exact HO_0.out⟩, ⟨by repeat (first | (with_reducible first | exact HK.out | apply Kept.alloc | apply Kept.drewN | apply Kept.drew) | exact HK.out)⟩, ⟨by repeat (first | (with_reducible first | exact HB.out | apply below_alloc | apply pw_below_drewN | apply below_drew1) | exact HB.out)⟩⟩
      · rw [if_neg c5] at H
        have c5b0 : decide (x10_1 < (l1.length : Int)) = false := decide_eq_false c5
        clear c5
        by_cases c29 : x9_1 < (l1.length : Int)
        · rw [if_pos c29] at H
          have c29b0 : decide (x9_1 < (l1.length : Int)) = true := decide_eq_true c29
          clear c29
          by_cases c30 : 0 ≤ x9_1
          · rw [if_pos c30] at H
            have c30b0 := eq_true c30
            have c30b1 : decide (0 ≤ x9_1) = true := decide_eq_true c30
            clear c30
            by_cases c31 : x9_1 ≤ (l1.length : Int)
            · rw [if_pos c31] at H
              have c31b0 := eq_true c31
              have c31b1 : decide (x9_1 ≤ (l1.length : Int)) = true := decide_eq_true c31
              clear c31
              obtain ⟨y117, hy117⟩ : ∃ y_ : List Int, y_ = (l1.drop (x9_1 : Int).toNat) := ⟨_, rfl⟩
              replace H : (if x0_1.length + y117.length < 140737488355328 then (some (x0_1 ++ y117)) else (none)) = some r := by first | (rw [hy117]; with_reducible exact H) | (have H2_ := (Option.bind_some _ _).symm.trans H; rw [hy117]; with_reducible exact H2_) | (have H2_ := (Option.bind_some _ _).symm.trans H; with_reducible exact H2_) | with_reducible exact H | (rw [hy117]; exact H) | exact H
              have Ny117 := Aside0.mk hy117
              clear hy117
              by_cases c32 : x0_1.length + y117.length < 140737488355328
              · rw [if_pos c32] at H
                have LMc32 := Aside0.mk c32
                clear c32
                obtain ⟨y121, hy121⟩ : ∃ y_ : List Int, y_ = (x0_1 ++ y117) := ⟨_, rfl⟩
                replace H : (some y121) = some r := by first | (rw [hy121]; with_reducible exact H) | (have H2_ := (Option.bind_some _ _).symm.trans H; rw [hy121]; with_reducible exact H2_) | (have H2_ := (Option.bind_some _ _).symm.trans H; with_reducible exact H2_) | with_reducible exact H | (rw [hy121]; exact H) | exact H
                have Ny121 := Aside0.mk hy121
                clear hy121
                obtain rfl := Option.some.inj H
                have q33 : (x9_1 : Int) ≤ ((l1.length : Int) : Int) := of_decide_eq_true (by first | (with_reducible assumption) | assumption)
                obtain ⟨i033, hi033, _, hsz33, _⟩ := info_parts info5
                have hroom33 : l1.length ≤ c1 := HC1.out
                have hC33 : Kd.C (Kd.int .u8) _ A1 l1.length l1 := (Kd.C_kept_now HR1.out HK.out)
                have q033 : (0 : Int) ≤ (x9_1 : Int) := of_decide_eq_true (by first | (with_reducible assumption) | assumption)
                have hcut33 := cut_from (P := Try.prog) 22 5 .i64 Try.underlying22 hi033 1 hsz33 A1 l1.length c1 x9_1 q033 q33
                have hr33 := Kd.C_drop (m := (x9_1 : Int).toNat) (c := c1) hC33 (by omega) hroom33
                obtain ⟨A33, hA33⟩ : ∃ Aq_, Aq_ = (if c1 = (x9_1 : Int).toNat then A1 else (A1 : Option Addr).map (·.add ((x9_1 : Int).toNat * 1))) := ⟨_, rfl⟩
                obtain ⟨c33, hc33⟩ : ∃ cq_, cq_ = c1 - (x9_1 : Int).toNat := ⟨_, rfl⟩
                have hy33 : y117.length = l1.length - (x9_1 : Int).toNat := (by rw [Ny117.out, List.length_drop] <;> omega)
                rw [show (l1).drop (x9_1 : Int).toNat = y117 from Ny117.out.symm] at hr33
                replace hr33 : Kd.C (Kd.int .u8) _ A33 y117.length y117 := (by rw [hA33]; exact hr33)
                rw [← hy33, ← hA33, ← hc33] at hcut33
                have HR120 := Aside0.mk hr33
                have HC120 := Aside0.mk (show y117.length ≤ c33 from by rw [hy33, hc33]; exact Nat.sub_le_sub_right hroom33 _)
                clear hr33 hC33 hroom33 hi033 hsz33 hc33
                have KY33 := Aside0.mk hy33
                have KA33 := Aside0.mk hA33
                clear hy33 hA33
                have KL33 := Aside0.mk (show (x9_1 : Int).toNat ≤ l1.length from by omega)
                replace q33 := eq_true q33
                go_wp2_with (first | ((with_reducible refine gate_builtin (b := .append) (xs := #[.tmp 60, .tmp 63]) rfl ?_); at_builtin; refine Kd.R_append_rows (Kd.int .u8) (w0 := w0) w0.heap.size rfl (.tmp 60) (.tmp 63) 22 5 (.int .u8 0) 1 rfl Try.underlying22 info5 rfl (by decide) (by omega) u0 x0_1 y117 _ _ _ (fun k_ => (P0_ k_ ∨ w.heap.size ≤ k_)) (fun _ => False) rfl rfl ?aO ?aR (fun _ _ h => h) (fun _ h => h.elim) ?aF ?aB ?aS ?aL ?_; (case aR => repeat (first | exact (by repeat (first | (with_reducible exact HR120.out) | (with_reducible refine Kd.C_alloc ?_ _) | (with_reducible refine Kd.C_drewN ?_ _) | (with_reducible refine Kd.C_drew ?_) | exact HR120.out)) | (with_reducible refine Kd.C_alloc ?_ _) | (with_reducible refine Kd.C_drewN ?_ _) | (with_reducible refine Kd.C_drew ?_))); (case aB => exact (by repeat (first | (with_reducible first | exact HB.out | apply below_alloc | apply pw_below_drewN | apply below_drew1) | exact HB.out))); (case aF => exact (fun k_ hk => (.inr (Nat.le_trans (by first | exact HK.out.1 | exact (show Kept w _ (fun k_ => P0_ k_) from by repeat (first | (with_reducible first | exact HK.out | apply Kept.alloc | apply Kept.drewN | apply Kept.drew) | exact HK.out)).1) hk)))); (case aO => exact (by (with_reducible repeat (first | apply Kd.R_alloc | apply Kd.R_drewN | apply Kd.R_drew)); exact HO_0.out)); (case aS => exact (below_size (by repeat (first | (with_reducible first | exact HB.out | apply below_alloc | apply pw_below_drewN | apply below_drew1) | exact HB.out)))); (case aL => have := LMc32.out; omega); intro v122 w34 ho hb hg hat; rw [← Ny121.out] at ho; have n0_ := Aside0.mk (hb); have n1_ := Aside0.mk (Kept.of_grown (S := (fun k_ => P0_ k_)) hg (by repeat (first | (with_reducible first | exact HK.out | apply Kept.alloc | apply Kept.drewN | apply Kept.drew) | exact HK.out)) (fun k_ e_ => (HO_0.out.1 k_ e_))); have n2_ := Aside0.mk ((show Kd.C (Kd.int .u8) w34 A33 y117.length y117 from by rw [Ny117.out, KA33.out]; exact Kd.C_drop (m := (x9_1 : Int).toNat) (c := c1) (Kd.C_kept_now HR1.out (show Kept w w34 (fun k_ => P0_ k_) from (Kept.of_grown (S := (fun k_ => P0_ k_)) hg (by repeat (first | (with_reducible first | exact HK.out | apply Kept.alloc | apply Kept.drewN | apply Kept.drew) | exact HK.out)) (fun k_ e_ => (HO_0.out.1 k_ e_))))) KL33.out HC1.out)); have n3_ := Aside0.mk (ho); clear HB; clear HK; clear HR120; clear HO_0; have HB := n0_; have HK := n1_; have HR120 := n2_; have HO123 := n3_; clear n0_ n1_ n2_ n3_; clear ho hb hg hat))
                go_ret
                exact ⟨_, by first | rfl | (simp [errW_none, errW_some] <;> rfl) | (simp [*, errW_none, errW_some] <;> rfl), by (with_reducible repeat (first | apply Kd.R_alloc | apply Kd.R_drewN | apply Kd.R_drew)); exact HO123.out, by repeat (first | (with_reducible first | exact HB.out | apply below_alloc | apply pw_below_drewN | apply below_drew1) | exact HB.out), by repeat (first | (with_reducible first | exact HK.out | apply Kept.alloc | apply Kept.drewN | apply Kept.drew) | exact HK.out)⟩
              · rw [if_neg c32] at H
                exact absurd H (by simp)
            · rw [if_neg c31] at H
              exact absurd H (by simp)
          · rw [if_neg c30] at H
            exact absurd H (by simp)
        · rw [if_neg c29] at H
          have c29b0 : decide (x9_1 < (l1.length : Int)) = false := decide_eq_false c29
          clear c29
          obtain rfl := Option.some.inj H
          go_wp2
          go_ret
          exact ⟨_, by first | rfl | (simp [errW_none, errW_some] <;> rfl) | (simp [*, errW_none, errW_some] <;> rfl), by (with_reducible repeat (first | apply Kd.R_alloc | apply Kd.R_drewN | apply Kd.R_drew)); exact HO_0.out, by repeat (first | (with_reducible first | exact HB.out | apply below_alloc | apply pw_below_drewN | apply below_drew1) | exact HB.out), by repeat (first | (with_reducible first | exact HK.out | apply Kept.alloc | apply Kept.drewN | apply Kept.drew) | exact HK.out)⟩

/-! ### impl_Escape: function 33 -/
def impl_Escape.f (k : Nat) (l0 : List Int) (l1 : List Int) (l2 : List Int) (a3 : Int) : Option (List Int) := (impl_own.f l0).bind fun t140 => ((impl_own.f l1).bind fun t143 => ((impl_own.f l2).bind fun t146 => ((tdparse_AppendEscape.f k t140 t143 t146 a3).bind fun t149 => (some t149))))
theorem impl_Escape.mono : ∀ a0 a1 a2 a3 k, LeO (impl_Escape.f k a0 a1 a2 a3) (impl_Escape.f (k + 1) a0 a1 a2 a3) := by
  intro a0 a1 a2 a3 k
  unfold impl_Escape.f
  repeat' first
      | (with_reducible exact tdparse_AppendEscape.mono _ _ _ _ _)
      | (with_reducible exact LeO.refl _)
      | (with_reducible exact LeO.none _)
      | (with_reducible refine LeO.ite ?_ ?_)
      | (with_reducible refine LeO.bind ?_ (fun _ => ?_))
      | exact tdparse_AppendEscape.mono _ _ _ _ _
      | exact LeO.none _
      | refine LeO.ite ?_ ?_
      | refine LeO.bind ?_ (fun _ => ?_)
set_option maxHeartbeats 8000000 in
set_option maxRecDepth 100000 in
theorem impl_Escape.calls (k : Nat) (A0 : Option Addr) (c0 : Nat) (l0 : List Int) (A1 : Option Addr) (c1 : Nat) (l1 : List Int) (A2 : Option Addr) (c2 : Nat) (l2 : List Int) (a3 : Int) (r : List Int) (w : World) (hr0 : Kd.C (Kd.int .u8) w A0 l0.length l0) (hc0 : l0.length ≤ c0) (hr1 : Kd.C (Kd.int .u8) w A1 l1.length l1) (hc1 : l1.length ≤ c1) (hr2 : Kd.C (Kd.int .u8) w A2 l2.length l2) (hc2 : l2.length ≤ c2) (h : impl_Escape.f k l0 l1 l2 a3 = some r) :
    Calls Try.prog 33 #[.slice A0 l0.length c0, .slice A1 l1.length c1, .slice A2 l2.length c2, .int .u8 a3] w fun e w' => ∃ v0_ : Value, e = .returned (v0_) ∧ Kd.R (Kd.int .u8) 5 w' w.heap.size (fun _ => True) v0_ r ∧ Below w.heap.size w w' := by
  have HR0 := Aside0.mk hr0
  have HC0 := Aside0.mk hc0
  clear hr0 hc0
  have HR1 := Aside0.mk hr1
  have HC1 := Aside0.mk hc1
  clear hr1 hc1
  have HR2 := Aside0.mk hr2
  have HC2 := Aside0.mk hc2
  clear hr2 hc2
  have HB := Aside0.mk (Below.refl w.heap.size w)
  have H : ((impl_own.f l0).bind fun t140 => ((impl_own.f l1).bind fun t143 => ((impl_own.f l2).bind fun t146 => ((tdparse_AppendEscape.f k t140 t143 t146 a3).bind fun t149 => (some t149))))) = some r := h
  clear h
  replace H := Option.bind_eq_some_iff.mp H
  obtain ⟨t140, A50, H⟩ := H
  replace H : ((impl_own.f l1).bind fun t143 => ((impl_own.f l2).bind fun t146 => ((tdparse_AppendEscape.f k t140 t143 t146 a3).bind fun t149 => (some t149)))) = some r := H
  have A5 := Aside0.mk A50
  clear A50
  replace H := Option.bind_eq_some_iff.mp H
  obtain ⟨t143, A60, H⟩ := H
  replace H : ((impl_own.f l2).bind fun t146 => ((tdparse_AppendEscape.f k t140 t143 t146 a3).bind fun t149 => (some t149))) = some r := H
  have A6 := Aside0.mk A60
  clear A60
  replace H := Option.bind_eq_some_iff.mp H
  obtain ⟨t146, A70, H⟩ := H
  replace H : ((tdparse_AppendEscape.f k t140 t143 t146 a3).bind fun t149 => (some t149)) = some r := H
  have A7 := Aside0.mk A70
  clear A70
  replace H := Option.bind_eq_some_iff.mp H
  obtain ⟨t149, A80, H⟩ := H
  replace H : (some t149) = some r := H
  have A8 := Aside0.mk A80
  clear A80
  obtain rfl := Option.some.inj H
  go_enter Try.func33, Try.ntmps33
  go_wp2_with (first | ((with_reducible refine gate_callee (f := 41) rfl ?_); refine goesL_ (some 10) rfl rfl Try.func41 (by kernel_rfl) rfl #[.slice A0 l0.length c0] rfl (by (try simp only [List.map_toArray, List.map_cons, List.map_nil]); first | done | rfl | (simp only [List.length_drop, List.length_take]; rfl)) ?_; (with_reducible refine (impl_own.calls _ _ l0 t140 _ ?side1 ?side2 A5.out).mono ?_); (case side1 => repeat (first | exact HR0.out | (with_reducible refine Kd.C_alloc ?_ _) | (with_reducible refine Kd.C_drewN ?_ _) | (with_reducible refine Kd.C_drew ?_))); (case side2 => exact HC0.out); rintro e w9 ⟨v141, rfl, ho0, hb⟩; refine ⟨_, rfl, ?_⟩; have n0_ := Aside0.mk (Kd.R_lower ho0 (below_size (by repeat (first | (with_reducible first | exact HB.out | apply below_alloc | apply pw_below_drewN | apply below_drew1) | exact HB.out)))); have n1_ := Aside0.mk (below_step (by repeat (first | (with_reducible first | exact HB.out | apply below_alloc | apply pw_below_drewN | apply below_drew1) | exact HB.out)) hb); clear HB; have HO142 := n0_; have HB := n1_; clear n0_ n1_; (try clear hb); (try clear hb2); (try clear hk); (try clear hi); (try clear ho0)) | ((with_reducible refine gate_callee (f := 41) rfl ?_); refine goesL_ (some 12) rfl rfl Try.func41 (by kernel_rfl) rfl #[.slice A1 l1.length c1] rfl (by (try simp only [List.map_toArray, List.map_cons, List.map_nil]); first | done | rfl | (simp only [List.length_drop, List.length_take]; rfl)) ?_; (with_reducible refine (impl_own.calls _ _ l1 t143 _ ?side1 ?side2 A6.out).mono ?_); (case side1 => repeat (first | exact (Kd.C_below HR1.out HB.out) | (with_reducible refine Kd.C_alloc ?_ _) | (with_reducible refine Kd.C_drewN ?_ _) | (with_reducible refine Kd.C_drew ?_))); (case side2 => exact HC1.out); rintro e w10 ⟨v144, rfl, ho0, hb⟩; refine ⟨_, rfl, ?_⟩; have n0_ := Aside0.mk (Kd.R_elder' (by (with_reducible repeat (first | apply Kd.R_alloc | apply Kd.R_drewN | apply Kd.R_drew)); exact HO142.out) (Kd.R_base ho0) hb); have n1_ := Aside0.mk (Kd.R_lower (Kd.R_new' ho0 (Kd.R_lt (by (with_reducible repeat (first | apply Kd.R_alloc | apply Kd.R_drewN | apply Kd.R_drew)); exact HO142.out))) (below_size (by repeat (first | (with_reducible first | exact HB.out | apply below_alloc | apply pw_below_drewN | apply below_drew1) | exact HB.out)))); have n2_ := Aside0.mk (below_step (by repeat (first | (with_reducible first | exact HB.out | apply below_alloc | apply pw_below_drewN | apply below_drew1) | exact HB.out)) hb); clear HO142; clear HB; have HO142 := n0_; have HO145 := n1_; have HB := n2_; clear n0_ n1_ n2_; (try clear hb); (try clear hb2); (try clear hk); (try clear hi); (try clear ho0)) | ((with_reducible refine gate_callee (f := 41) rfl ?_); refine goesL_ (some 14) rfl rfl Try.func41 (by kernel_rfl) rfl #[.slice A2 l2.length c2] rfl (by (try simp only [List.map_toArray, List.map_cons, List.map_nil]); first | done | rfl | (simp only [List.length_drop, List.length_take]; rfl)) ?_; (with_reducible refine (impl_own.calls _ _ l2 t146 _ ?side1 ?side2 A7.out).mono ?_); (case side1 => repeat (first | exact (Kd.C_below HR2.out HB.out) | (with_reducible refine Kd.C_alloc ?_ _) | (with_reducible refine Kd.C_drewN ?_ _) | (with_reducible refine Kd.C_drew ?_))); (case side2 => exact HC2.out); rintro e w11 ⟨v147, rfl, ho0, hb⟩; refine ⟨_, rfl, ?_⟩; have n0_ := Aside0.mk (Kd.R_elder' (by (with_reducible repeat (first | apply Kd.R_alloc | apply Kd.R_drewN | apply Kd.R_drew)); exact HO142.out) (Kd.R_base ho0) hb); have n1_ := Aside0.mk (Kd.R_elder' (by (with_reducible repeat (first | apply Kd.R_alloc | apply Kd.R_drewN | apply Kd.R_drew)); exact HO145.out) (Kd.R_base ho0) hb); have n2_ := Aside0.mk (Kd.R_lower (Kd.R_new' (Kd.R_new' ho0 (Kd.R_lt (by (with_reducible repeat (first | apply Kd.R_alloc | apply Kd.R_drewN | apply Kd.R_drew)); exact HO142.out))) (Kd.R_lt (by (with_reducible repeat (first | apply Kd.R_alloc | apply Kd.R_drewN | apply Kd.R_drew)); exact HO145.out))) (below_size (by repeat (first | (with_reducible first | exact HB.out | apply below_alloc | apply pw_below_drewN | apply below_drew1) | exact HB.out)))); have n3_ := Aside0.mk (below_step (by repeat (first | (with_reducible first | exact HB.out | apply below_alloc | apply pw_below_drewN | apply below_drew1) | exact HB.out)) hb); clear HO142; clear HO145; clear HB; have HO142 := n0_; have HO145 := n1_; have HO148 := n2_; have HB := n3_; clear n0_ n1_ n2_ n3_; (try clear hb); (try clear hb2); (try clear hk); (try clear hi); (try clear ho0); obtain ⟨Ao12, co12, eo12⟩ := Kd.R_slice HO142.out; subst eo12; obtain ⟨Ao13, co13, eo13⟩ := Kd.R_slice HO145.out; subst eo13; obtain ⟨Ao14, co14, eo14⟩ := Kd.R_slice HO148.out; subst eo14) | ((with_reducible refine gate_callee (f := 53) rfl ?_); refine goesL_ (some 16) rfl rfl Try.func53 (by kernel_rfl) rfl #[.slice Ao12 t140.length co12, .slice Ao13 t143.length co13, .slice Ao14 t146.length co14, .int .u8 a3] rfl (by (try simp only [List.map_toArray, List.map_cons, List.map_nil]); first | done | rfl | (simp only [List.length_drop, List.length_take]; rfl)) ?_; (with_reducible refine (tdparse_AppendEscape.calls k (fun k_ => some k_ = (.slice Ao12 t140.length co12 : Value).ownBlock) (.slice Ao12 t140.length co12) t140 _ _ t143 _ _ t146 a3 t149 w _ ?side1 ?side2 ?side3 ?side4 ?side5 ?side6 A8.out).mono ?_); (case side1 => repeat (first | (with_reducible first | exact HB.out | apply below_alloc | apply pw_below_drewN | apply below_drew1) | exact HB.out)); (case side2 => exact Kd.R_tight rfl HO142.out); (case side3 => exact Kd.C_kept_own (HO145.out) (fun k_ hk_ hs_ => (hk_.1.2) hs_)); (case side4 => exact (Kd.R_reads' HO145.out).2.1); (case side5 => exact Kd.C_kept_own (HO148.out) (fun k_ hk_ hs_ => (hk_.1.2) hs_)); (case side6 => exact (Kd.R_reads' HO148.out).2.1); rintro e w15 ⟨v150, rfl, ho0, hb, hkp⟩; refine ⟨_, rfl, ?_⟩; have n0_ := Aside0.mk (Kd.R_mono (ok' := fun k_ => some k_ ≠ (.slice Ao14 t146.length co14 : Value).ownBlock ∧ some k_ ≠ (v150 : Value).ownBlock) (Kd.R_keptB (HO145.out) hkp (fun k_ hk_ hs_ => (hk_.1.2) hs_)) (fun k_ hk_ => ⟨hk_.1.2, fun e_ => Or.elim (ho0.1 k_ e_.symm) (fun hs_ => hk_.2.1 hs_) (fun hn_ => Nat.not_le.2 hk_.2.2 hn_)⟩)); have n1_ := Aside0.mk (Kd.R_mono (ok' := fun k_ => some k_ ≠ (.slice Ao13 t143.length co13 : Value).ownBlock ∧ some k_ ≠ (v150 : Value).ownBlock) (Kd.R_keptB (HO148.out) hkp (fun k_ hk_ hs_ => (hk_.1.2) hs_)) (fun k_ hk_ => ⟨hk_.1.2, fun e_ => Or.elim (ho0.1 k_ e_.symm) (fun hs_ => hk_.2.1 hs_) (fun hn_ => Nat.not_le.2 hk_.2.2 hn_)⟩)); have n2_ := Aside0.mk (Kd.R_mono (ok' := fun k_ => some k_ ≠ (.slice Ao13 t143.length co13 : Value).ownBlock ∧ some k_ ≠ (.slice Ao14 t146.length co14 : Value).ownBlock) ho0 (fun k_ hk_ => ⟨Or.elim hk_ (fun hs_ => fun e_ => (((HO145.out).1 k_ e_.symm).1.2) hs_) (fun hn_ => (Kd.fresh' (Kd.R_lt (by (with_reducible repeat (first | apply Kd.R_alloc | apply Kd.R_drewN | apply Kd.R_drew)); exact HO145.out)) k_ hn_)), Or.elim hk_ (fun hs_ => fun e_ => (((HO148.out).1 k_ e_.symm).1.2) hs_) (fun hn_ => (Kd.fresh' (Kd.R_lt (by (with_reducible repeat (first | apply Kd.R_alloc | apply Kd.R_drewN | apply Kd.R_drew)); exact HO148.out)) k_ hn_))⟩)); have n3_ := Aside0.mk (hb); clear HO145; clear HO148; clear HB; clear HO142; have HO145 := n0_; have HO148 := n1_; have HO151 := n2_; have HB := n3_; clear n0_ n1_ n2_ n3_; (try clear hb); (try clear hkp); (try clear ho0)))
  go_ret
  exact ⟨_, by first | rfl | (simp [errW_none, errW_some] <;> rfl) | (simp [*, errW_none, errW_some] <;> rfl), by (with_reducible repeat (first | apply Kd.R_alloc | apply Kd.R_drewN | apply Kd.R_drew)); exact Kd.R_mono HO151.out (fun _ hk => trivial), by repeat (first | (with_reducible first | exact HB.out | apply below_alloc | apply pw_below_drewN | apply below_drew1) | exact HB.out)⟩

/-! ### spec_BytePlace: function 54 -/
def spec_BytePlace.l0 : Nat → Int → List Int → Int → Int → Option (Int)
  | 0, _, _, _, _ => none
  | k + 1, x1, x7, x8, x9 => if x9 < x8 then (if 0 ≤ x9 then (if x9 < (x7.length : Int) then (if (rd x7 x9) = x1 then (some x9) else (spec_BytePlace.l0 k x1 x7 x8 (wrap64 (x9 + 1)))) else (none)) else (none)) else (some (-1))
def spec_BytePlace.f (k : Nat) (l0 : List Int) (a1 : Int) : Option (Int) := spec_BytePlace.l0 k a1 l0 (l0.length : Int) 0
theorem spec_BytePlace.mono_l : ∀ k, (∀ y0 y1 y2 y3, LeO (spec_BytePlace.l0 k y0 y1 y2 y3) (spec_BytePlace.l0 (k + 1) y0 y1 y2 y3))
  | 0 => fun _ _ _ _ r h => by simp [spec_BytePlace.l0] at h
  | k + 1 => by
    have ih0 := spec_BytePlace.mono_l k
    · intro y0 y1 y2 y3
      unfold spec_BytePlace.l0
      repeat' first
      | (with_reducible exact ih0 _ _ _ _)
      | (with_reducible exact LeO.refl _)
      | (with_reducible exact LeO.none _)
      | (with_reducible refine LeO.ite ?_ ?_)
      | (with_reducible refine LeO.bind ?_ (fun _ => ?_))
      | exact ih0 _ _ _ _
      | exact LeO.none _
      | refine LeO.ite ?_ ?_
      | refine LeO.bind ?_ (fun _ => ?_)
theorem spec_BytePlace.mono : ∀ a0 a1 k, LeO (spec_BytePlace.f k a0 a1) (spec_BytePlace.f (k + 1) a0 a1) := by
  intro a0 a1 k
  have ih0 := spec_BytePlace.mono_l k
  unfold spec_BytePlace.f
  repeat' first
      | (with_reducible exact ih0 _ _ _ _)
      | (with_reducible exact LeO.refl _)
      | (with_reducible exact LeO.none _)
      | (with_reducible refine LeO.ite ?_ ?_)
      | (with_reducible refine LeO.bind ?_ (fun _ => ?_))
      | exact ih0 _ _ _ _
      | exact LeO.none _
      | refine LeO.ite ?_ ?_
      | refine LeO.bind ?_ (fun _ => ?_)
set_option maxHeartbeats 8000000 in
set_option maxRecDepth 100000 in
theorem spec_BytePlace.calls (k : Nat) (A0 : Option Addr) (c0 : Nat) (l0 : List Int) (a1 : Int) (r : Int) (w : World) (hr0 : Kd.C (Kd.int .u8) w A0 l0.length l0) (hc0 : l0.length ≤ c0) (h : spec_BytePlace.f k l0 a1 = some r) :
    Calls Try.prog 54 #[.slice A0 l0.length c0, .int .u8 a1] w fun e w' => e = .returned (.int .i64 r) ∧ Drawn0 w w' := by
  have HR0 := Aside0.mk hr0
  have HC0 := Aside0.mk hc0
  clear hr0 hc0
  have H : (spec_BytePlace.l0 k a1 l0 (l0.length : Int) 0) = some r := h
  clear h
  have H' := Aside0.mk H
  clear H
  go_enter Try.func54, Try.ntmps54
  go_wp2
  go_loopg [9] k (fun kq v9 w' => ∃ (x9_1 : Int), v9 = .int .i64 x9_1 ∧ Aside0 (spec_BytePlace.l0 kq a1 l0 (l0.length : Int) x9_1 = some r) ∧ Aside0 (kq ≤ k) ∧ Drawn0 w w')
  case atStart => exact ⟨(0), (by first | rfl | (simp; done) | (simp [*]; done)), H', ⟨Nat.le_refl _⟩, by repeat (first | exact Drawn0.refl _ | apply Drawn0.step)⟩
  case round =>
    clear H'
    try clear p2
    obtain ⟨x9_1, rfl, HA, HK1, ⟨m1, rfl⟩⟩ := hrel
    cases gk with
    | zero => exact absurd HA.out (by simp [spec_BytePlace.l0])
    | succ k1 =>
      have H := HA.out
      clear HA
      simp only [spec_BytePlace.l0] at H
      by_cases c3 : x9_1 < (l0.length : Int)
      · rw [if_pos c3] at H
        have c3b0 : decide (x9_1 < (l0.length : Int)) = true := decide_eq_true c3
        clear c3
        by_cases c4 : 0 ≤ x9_1
        · rw [if_pos c4] at H
          have c4b0 : decide (0 ≤ x9_1) = true := decide_eq_true c4
          clear c4
          by_cases c5 : x9_1 < (l0.length : Int)
          · rw [if_pos c5] at H
            have c5b0 : decide (x9_1 < (l0.length : Int)) = true := decide_eq_true c5
            clear c5
            by_cases c6 : (rd l0 x9_1) = a1
            · rw [if_pos c6] at H
              have c6b0 : ((rd l0 x9_1) == a1) = true := beq_iff_eq.mpr c6
              have c6b1 : ((rd l0 x9_1) != a1) = false := bne_eq_false_iff_eq.mpr c6
              clear c6
              obtain rfl := Option.some.inj H
              have p152 : 0 ≤ (x9_1 : Int) := of_decide_eq_true (by first | (with_reducible assumption) | assumption)
              have q152 : x9_1 < (l0.length : Int) := of_decide_eq_true (by first | (with_reducible assumption) | assumption)
              obtain ⟨ad152, e152, hx152_0⟩ := Kd.at_int HR0.out x9_1 p152 q152
              cases e152
              replace p152 := eq_true p152
              replace q152 := eq_true q152
              go_wp2
              go_ret
              exact ⟨by first | rfl | (simp; done) | (simp [*]; done), by repeat (first | exact Drawn0.refl _ | apply Drawn0.step)⟩
            · rw [if_neg c6] at H
              have c6b0 : ((rd l0 x9_1) == a1) = false := beq_eq_false_iff_ne.mpr c6
              have c6b1 : ((rd l0 x9_1) != a1) = true := bne_iff_ne.mpr c6
              have H' := Aside0.mk H
              clear H
              have p152 : 0 ≤ (x9_1 : Int) := of_decide_eq_true (by first | (with_reducible assumption) | assumption)
              have q152 : x9_1 < (l0.length : Int) := of_decide_eq_true (by first | (with_reducible assumption) | assumption)
              obtain ⟨ad152, e152, hx152_0⟩ := Kd.at_int HR0.out x9_1 p152 q152
              cases e152
              replace p152 := eq_true p152
              replace q152 := eq_true q152
              go_wp2
              go_roundg k1
              case measure => have := HK1.out; omega
              case rel => exact ⟨(wrap64 (x9_1 + 1)), (by first | rfl | (simp; done) | (simp [*]; done)), H', ⟨by have := HK1.out; omega⟩, by repeat (first | exact Drawn0.refl _ | apply Drawn0.step)⟩
          · rw [if_neg c5] at H
            exact absurd H (by simp)
        · rw [if_neg c4] at H
          exact absurd H (by simp)
      · rw [if_neg c3] at H
        have c3b0 : decide (x9_1 < (l0.length : Int)) = false := decide_eq_false c3
        clear c3
        obtain rfl := Option.some.inj H
        go_wp2
        go_ret
        exact ⟨by first | rfl | (simp; done) | (simp [*]; done), by repeat (first | exact Drawn0.refl _ | apply Drawn0.step)⟩

end Go.Proofs.Ytbpmfmkdpjajhaa.PFnEscape
