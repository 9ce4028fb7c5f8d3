-- Laid by a program of this session, out of the translation's print.
import Derived.Test.YthejmpldfndbfaaDoorPFnUrlDatax0
namespace Go.Proofs.YthejmpldfndbfaaDoor.PFnUrlData
open Go.Proofs.YthejmpldfndbfaaDoor.Own
open Go.RowKit Go.Proofs.YthejmpldfndbfaaDoorW.PrintWords Go.Proofs.YthejmpldfndbfaaDoorW.PrintLast Go.Proofs.YthejmpldfndbfaaDoorW.PrintMore
attribute [local go_sem] max2_int min2_int max_two min_two max_three min_three max_four min_four   -- for this text's walks alone
set_option linter.unusedVariables false
set_option linter.unusedSimpArgs false

/-! ### laws_fewBytes: function 5 -/
def laws_fewBytes.l0 : Nat → List (List Int) → Int → Int → Option (Bool)
  | 0, _, _, _ => none
  | k + 1, x5, x6, x7 => if x7 < x6 then (if 0 ≤ x7 then (if x7 < (x5.length : Int) then (if ((rd_L1 x5 x7).length : Int) > 300 then (some false) else (laws_fewBytes.l0 k x5 x6 (wrap64 (x7 + 1)))) else (none)) else (none)) else (some true)
def laws_fewBytes.f (k : Nat) (l0 : List (List Int)) : Option (Bool) := laws_fewBytes.l0 k l0 (l0.length : Int) 0
theorem laws_fewBytes.mono_l : ∀ k, (∀ y0 y1 y2, LeO (laws_fewBytes.l0 k y0 y1 y2) (laws_fewBytes.l0 (k + 1) y0 y1 y2))
  | 0 => fun _ _ _ r h => by simp [laws_fewBytes.l0] at h
  | k + 1 => by
    have ih0 := laws_fewBytes.mono_l k
    · intro y0 y1 y2
      unfold laws_fewBytes.l0
      repeat' first
      | (with_reducible exact ih0 _ _ _)
      | (with_reducible exact LeO.refl _)
      | (with_reducible exact LeO.none _)
      | (with_reducible refine LeO.ite ?_ ?_)
      | (with_reducible refine LeO.bind ?_ (fun _ => ?_))
      | exact ih0 _ _ _
      | exact LeO.none _
      | refine LeO.ite ?_ ?_
      | refine LeO.bind ?_ (fun _ => ?_)
theorem laws_fewBytes.mono : ∀ a0 k, LeO (laws_fewBytes.f k a0) (laws_fewBytes.f (k + 1) a0) := by
  intro a0 k
  have ih0 := laws_fewBytes.mono_l k
  unfold laws_fewBytes.f
  repeat' first
      | (with_reducible exact ih0 _ _ _)
      | (with_reducible exact LeO.refl _)
      | (with_reducible exact LeO.none _)
      | (with_reducible refine LeO.ite ?_ ?_)
      | (with_reducible refine LeO.bind ?_ (fun _ => ?_))
      | exact ih0 _ _ _
      | exact LeO.none _
      | refine LeO.ite ?_ ?_
      | refine LeO.bind ?_ (fun _ => ?_)
set_option maxHeartbeats 8000000 in
set_option maxRecDepth 100000 in
theorem laws_fewBytes.calls (k : Nat) (A0 : Option Addr) (c0 : Nat) (l0 : List (List Int)) (r : Bool) (w : World) (hr0 : Kd.C (Kd.slice 5 (Kd.int .u8)) w A0 l0.length l0) (hc0 : l0.length ≤ c0) (h : laws_fewBytes.f k l0 = some r) :
    Calls Tryd.prog 5 #[.slice A0 l0.length c0] w fun e w' => e = .returned (.bool r) ∧ Drawn0 w w' := by
  have HR0 := Aside0.mk hr0
  have HC0 := Aside0.mk hc0
  clear hr0 hc0
  have H : (laws_fewBytes.l0 k l0 (l0.length : Int) 0) = some r := h
  clear h
  have H' := Aside0.mk H
  clear H
  go_enter Tryd.func5, Tryd.ntmps5
  go_wp2
  go_loopg [7] k (fun kq v7 w' => ∃ (x7_1 : Int), v7 = .int .i64 x7_1 ∧ Aside0 (laws_fewBytes.l0 kq l0 (l0.length : Int) x7_1 = some r) ∧ Aside0 (kq ≤ k) ∧ Drawn0 w w')
  case atStart => exact ⟨(0), (by first | rfl | (simp; done) | (simp [*]; done)), H', ⟨Nat.le_refl _⟩, by repeat (first | exact Drawn0.refl _ | apply Drawn0.step)⟩
  case round =>
    clear H'
    obtain ⟨x7_1, rfl, HA, HK1, ⟨m1, rfl⟩⟩ := hrel
    cases gk with
    | zero => exact absurd HA.out (by simp [laws_fewBytes.l0])
    | succ k1 =>
      have H := HA.out
      clear HA
      simp only [laws_fewBytes.l0] at H
      by_cases c2 : x7_1 < (l0.length : Int)
      · rw [if_pos c2] at H
        have c2b0 : decide (x7_1 < (l0.length : Int)) = true := decide_eq_true c2
        clear c2
        by_cases c3 : 0 ≤ x7_1
        · rw [if_pos c3] at H
          have c3b0 : decide (0 ≤ x7_1) = true := decide_eq_true c3
          clear c3
          by_cases c4 : x7_1 < (l0.length : Int)
          · rw [if_pos c4] at H
            have c4b0 : decide (x7_1 < (l0.length : Int)) = true := decide_eq_true c4
            clear c4
            by_cases c5 : ((rd_L1 l0 x7_1).length : Int) > 300
            · rw [if_pos c5] at H
              have c5b0 : decide (300 < ((rd_L1 l0 x7_1).length : Int)) = true := decide_eq_true c5
              have c5b1 : decide (300 < (rd_L1 l0 x7_1).length) = true := decide_eq_true (by omega)
              clear c5
              obtain rfl := Option.some.inj H
              have p101 : 0 ≤ (x7_1 : Int) := of_decide_eq_true (by first | (with_reducible assumption) | assumption)
              have q101 : x7_1 < (l0.length : Int) := of_decide_eq_true (by first | (with_reducible assumption) | assumption)
              obtain ⟨ad101, A101_0, c101_0, e101, hx101_0, hl101_0, hi101_0⟩ := at_L1 HR0.out x7_1 p101 q101
              cases e101
              have HR101_0 := Aside0.mk hi101_0
              have HC101_0 := Aside0.mk hl101_0
              clear hi101_0 hl101_0
              replace p101 := eq_true p101
              replace q101 := eq_true q101
              go_wp2
              go_ret
              exact ⟨by first | rfl | (simp; done) | (simp [*]; done), by repeat (first | exact Drawn0.refl _ | apply Drawn0.step)⟩
            · rw [if_neg c5] at H
              have c5b0 : decide (300 < ((rd_L1 l0 x7_1).length : Int)) = false := decide_eq_false c5
              have c5b1 : decide (300 < (rd_L1 l0 x7_1).length) = false := decide_eq_false (by omega)
              clear c5
              have H' := Aside0.mk H
              clear H
              have p101 : 0 ≤ (x7_1 : Int) := of_decide_eq_true (by first | (with_reducible assumption) | assumption)
              have q101 : x7_1 < (l0.length : Int) := of_decide_eq_true (by first | (with_reducible assumption) | assumption)
              obtain ⟨ad101, A101_0, c101_0, e101, hx101_0, hl101_0, hi101_0⟩ := at_L1 HR0.out x7_1 p101 q101
              cases e101
              have HR101_0 := Aside0.mk hi101_0
              have HC101_0 := Aside0.mk hl101_0
              clear hi101_0 hl101_0
              replace p101 := eq_true p101
              replace q101 := eq_true q101
              go_wp2
              go_roundg k1
              case measure => have := HK1.out; omega
              case rel => exact ⟨(wrap64 (x7_1 + 1)), (by first | rfl | (simp; done) | (simp [*]; done)), H', ⟨by have := HK1.out; omega⟩, by repeat (first | exact Drawn0.refl _ | apply Drawn0.step)⟩
          · rw [if_neg c4] at H
            exact absurd H (by simp)
        · rw [if_neg c3] at H
          exact absurd H (by simp)
      · rw [if_neg c2] at H
        have c2b0 : decide (x7_1 < (l0.length : Int)) = false := decide_eq_false c2
        clear c2
        obtain rfl := Option.some.inj H
        go_wp2
        go_ret
        exact ⟨by first | rfl | (simp; done) | (simp [*]; done), by repeat (first | exact Drawn0.refl _ | apply Drawn0.step)⟩

/-! ### bytes_Equal: function 15 -/
def bytes_Equal.f (l0 : List Int) (l1 : List Int) : Option (Bool) := some ((strOfNums l0).toList == (strOfNums l1).toList)
set_option maxHeartbeats 8000000 in
set_option maxRecDepth 100000 in
theorem bytes_Equal.calls (A0 : Option Addr) (c0 : Nat) (l0 : List Int) (A1 : Option Addr) (c1 : Nat) (l1 : List Int) (r : Bool) (w : World) (hr0 : Kd.C (Kd.int .u8) w A0 l0.length l0) (hc0 : l0.length ≤ c0) (hr1 : Kd.C (Kd.int .u8) w A1 l1.length l1) (hc1 : l1.length ≤ c1) (h : bytes_Equal.f l0 l1 = some r) :
    Calls Tryd.prog 15 #[.slice A0 l0.length c0, .slice A1 l1.length c1] w fun e w' => e = .returned (.bool r) ∧ Drawn0 w w' := by
  have HR0 := Aside0.mk hr0
  have HC0 := Aside0.mk hc0
  clear hr0 hc0
  have HR1 := Aside0.mk hr1
  have HC1 := Aside0.mk hc1
  clear hr1 hc1
  have H : (some ((strOfNums l0).toList == (strOfNums l1).toList)) = some r := h
  clear h
  obtain rfl := Option.some.inj H
  have hcv3 := Kd.C_string (P := Tryd.prog) (A := A0) (c := c0) Tryd.underlying22 Tryd.underlying5 Tryd.underlying9 HR0.out
  have hcv4 := Kd.C_string (P := Tryd.prog) (A := A1) (c := c1) Tryd.underlying22 Tryd.underlying5 Tryd.underlying9 HR1.out
  go_enter Tryd.func15, Tryd.ntmps15
  go_wp2
  go_ret
  exact ⟨by first | rfl | (simp; done) | (simp [*]; done), by repeat (first | exact Drawn0.refl _ | apply Drawn0.step)⟩

/-! ### tdparse_dataSchemeBytes: function 16 -/
def tdparse_dataSchemeBytes.f  : Option (List Int) := some (([100, 97, 116, 97, 58] : List Int))
set_option maxHeartbeats 8000000 in
set_option maxRecDepth 100000 in
theorem tdparse_dataSchemeBytes.calls  (r : List Int) (w : World) (h : tdparse_dataSchemeBytes.f  = some r) :
    Calls Tryd.prog 16 #[] w fun e w' => ∃ v0_ : Value, e = .returned (v0_) ∧ Kd.V (Kd.int .u8) 5 w' w.heap.size (fun k_ => (w.heap.size ≤ k_)) v0_ r ∧ Below w.heap.size w w' := by
  have HB := Aside0.mk (Below.refl w.heap.size w)
  have H : (some (([100, 97, 116, 97, 58] : List Int))) = some r := h
  clear h
  obtain ⟨y102, hy102⟩ : ∃ y_ : List Int, y_ = (([100, 97, 116, 97, 58] : List Int)) := ⟨_, rfl⟩
  replace H : (some y102) = some r := by first | (rw [hy102]; with_reducible exact H) | (have H2_ := (Option.bind_some _ _).symm.trans H; rw [hy102]; with_reducible exact H2_) | (have H2_ := (Option.bind_some _ _).symm.trans H; with_reducible exact H2_) | with_reducible exact H | (rw [hy102]; exact H) | exact H
  have Ny102 := Aside0.mk hy102
  clear hy102
  obtain rfl := Option.some.inj H
  go_enter Tryd.func16, Tryd.ntmps16
  go_wp2_with (first | ((with_reducible refine gate_dst (N := 1) rfl ?_); refine Go.Proofs.YthejmpldfndbfaaDoor.Own.V_const _ 5 ?hg (N' := 1) ?hd 22 Tryd.underlying22 Tryd.underlying5 ([100, 97, 116, 97, 58] : List Int) [.int .u8 100, .int .u8 97, .int .u8 116, .int .u8 97, .int .u8 58] rfl ?hr rfl (fun _ => rfl) (fun _ => rfl) (Below.refl _ _) (Nat.le_refl _) (by simp) ?_; (case hd => rfl); (case hg => rfl); (case hr => first | (go_simp; done) | (go_simp; rfl)); intro v103 w1 ho2 hb hg_ hnew_; clear hg_ hnew_; (first | rw [← Ny102.out] at ho2 | (simp only [Int.reduceToNat] at ho2; rw [← Ny102.out] at ho2)); have n0_ := Aside0.mk (Kd.V_lower (Kd.V_mono (ok' := fun k_ => (w.heap.size ≤ k_)) ho2 (fun k_ hk_ => (Nat.le_trans (below_size (by repeat (first | (with_reducible first | exact HB.out | apply below_alloc | apply pw_below_drewN | apply below_drew1) | exact HB.out))) hk_))) (below_size (by repeat (first | (with_reducible first | exact HB.out | apply below_alloc | apply pw_below_drewN | apply below_drew1) | exact HB.out)))); have n1_ := Aside0.mk (below_step (by repeat (first | (with_reducible first | exact HB.out | apply below_alloc | apply pw_below_drewN | apply below_drew1) | exact HB.out)) hb); clear HB; have HO104 := n0_; have HB := n1_; clear n0_ n1_; clear hb ho2))
  go_ret
  exact ⟨_, by first | rfl | (simp [errW_none, errW_some] <;> rfl) | (simp [*, errW_none, errW_some] <;> rfl), by (with_reducible repeat (first | apply Kd.V_alloc | apply Kd.V_drewN | apply Kd.V_drew)); exact HO104.out, by repeat (first | (with_reducible first | exact HB.out | apply below_alloc | apply pw_below_drewN | apply below_drew1) | exact HB.out)⟩

-- tdparse_IsWhitespace: by hand (CTab)

-- NOT PRINTED: function 17 (tdparse_TrimWhitespace)

/-! ### tdparse_base64Bytes: function 18 -/
def tdparse_base64Bytes.f  : Option (List Int) := some (([98, 97, 115, 101, 54, 52] : List Int))
set_option maxHeartbeats 8000000 in
set_option maxRecDepth 100000 in
theorem tdparse_base64Bytes.calls  (r : List Int) (w : World) (h : tdparse_base64Bytes.f  = some r) :
    Calls Tryd.prog 18 #[] w fun e w' => ∃ v0_ : Value, e = .returned (v0_) ∧ Kd.V (Kd.int .u8) 5 w' w.heap.size (fun k_ => (w.heap.size ≤ k_)) v0_ r ∧ Below w.heap.size w w' := by
  have HB := Aside0.mk (Below.refl w.heap.size w)
  have H : (some (([98, 97, 115, 101, 54, 52] : List Int))) = some r := h
  clear h
  obtain ⟨y117, hy117⟩ : ∃ y_ : List Int, y_ = (([98, 97, 115, 101, 54, 52] : List Int)) := ⟨_, rfl⟩
  replace H : (some y117) = some r := by first | (rw [hy117]; with_reducible exact H) | (have H2_ := (Option.bind_some _ _).symm.trans H; rw [hy117]; with_reducible exact H2_) | (have H2_ := (Option.bind_some _ _).symm.trans H; with_reducible exact H2_) | with_reducible exact H | (rw [hy117]; exact H) | exact H
  have Ny117 := Aside0.mk hy117
  clear hy117
  obtain rfl := Option.some.inj H
  go_enter Tryd.func18, Tryd.ntmps18
  go_wp2_with (first | ((with_reducible refine gate_dst (N := 1) rfl ?_); refine Go.Proofs.YthejmpldfndbfaaDoor.Own.V_const _ 5 ?hg (N' := 1) ?hd 22 Tryd.underlying22 Tryd.underlying5 ([98, 97, 115, 101, 54, 52] : List Int) [.int .u8 98, .int .u8 97, .int .u8 115, .int .u8 101, .int .u8 54, .int .u8 52] rfl ?hr rfl (fun _ => rfl) (fun _ => rfl) (Below.refl _ _) (Nat.le_refl _) (by simp) ?_; (case hd => rfl); (case hg => rfl); (case hr => first | (go_simp; done) | (go_simp; rfl)); intro v118 w1 ho2 hb hg_ hnew_; clear hg_ hnew_; (first | rw [← Ny117.out] at ho2 | (simp only [Int.reduceToNat] at ho2; rw [← Ny117.out] at ho2)); have n0_ := Aside0.mk (Kd.V_lower (Kd.V_mono (ok' := fun k_ => (w.heap.size ≤ k_)) ho2 (fun k_ hk_ => (Nat.le_trans (below_size (by repeat (first | (with_reducible first | exact HB.out | apply below_alloc | apply pw_below_drewN | apply below_drew1) | exact HB.out))) hk_))) (below_size (by repeat (first | (with_reducible first | exact HB.out | apply below_alloc | apply pw_below_drewN | apply below_drew1) | exact HB.out)))); have n1_ := Aside0.mk (below_step (by repeat (first | (with_reducible first | exact HB.out | apply below_alloc | apply pw_below_drewN | apply below_drew1) | exact HB.out)) hb); clear HB; have HO119 := n0_; have HB := n1_; clear n0_ n1_; clear hb ho2))
  go_ret
  exact ⟨_, by first | rfl | (simp [errW_none, errW_some] <;> rfl) | (simp [*, errW_none, errW_some] <;> rfl), by (with_reducible repeat (first | apply Kd.V_alloc | apply Kd.V_drewN | apply Kd.V_drew)); exact HO119.out, by repeat (first | (with_reducible first | exact HB.out | apply below_alloc | apply pw_below_drewN | apply below_drew1) | exact HB.out)⟩

/-! ### tdparse_textMimeBytes: function 19 -/
def tdparse_textMimeBytes.f  : Option (List Int) := some (([116, 101, 120, 116, 47, 112, 108, 97, 105, 110] : List Int))
set_option maxHeartbeats 8000000 in
set_option maxRecDepth 100000 in
theorem tdparse_textMimeBytes.calls  (r : List Int) (w : World) (h : tdparse_textMimeBytes.f  = some r) :
    Calls Tryd.prog 19 #[] w fun e w' => ∃ v0_ : Value, e = .returned (v0_) ∧ Kd.V (Kd.int .u8) 5 w' w.heap.size (fun k_ => (w.heap.size ≤ k_)) v0_ r ∧ Below w.heap.size w w' := by
  have HB := Aside0.mk (Below.refl w.heap.size w)
  have H : (some (([116, 101, 120, 116, 47, 112, 108, 97, 105, 110] : List Int))) = some r := h
  clear h
  obtain ⟨y120, hy120⟩ : ∃ y_ : List Int, y_ = (([116, 101, 120, 116, 47, 112, 108, 97, 105, 110] : List Int)) := ⟨_, rfl⟩
  replace H : (some y120) = some r := by first | (rw [hy120]; with_reducible exact H) | (have H2_ := (Option.bind_some _ _).symm.trans H; rw [hy120]; with_reducible exact H2_) | (have H2_ := (Option.bind_some _ _).symm.trans H; with_reducible exact H2_) | with_reducible exact H | (rw [hy120]; exact H) | exact H
  have Ny120 := Aside0.mk hy120
  clear hy120
  obtain rfl := Option.some.inj H
  go_enter Tryd.func19, Tryd.ntmps19
  go_wp2_with (first | ((with_reducible refine gate_dst (N := 1) rfl ?_); refine Go.Proofs.YthejmpldfndbfaaDoor.Own.V_const _ 5 ?hg (N' := 1) ?hd 22 Tryd.underlying22 Tryd.underlying5 ([116, 101, 120, 116, 47, 112, 108, 97, 105, 110] : List Int) [.int .u8 116, .int .u8 101, .int .u8 120, .int .u8 116, .int .u8 47, .int .u8 112, .int .u8 108, .int .u8 97, .int .u8 105, .int .u8 110] rfl ?hr rfl (fun _ => rfl) (fun _ => rfl) (Below.refl _ _) (Nat.le_refl _) (by simp) ?_; (case hd => rfl); (case hg => rfl); (case hr => first | (go_simp; done) | (go_simp; rfl)); intro v121 w1 ho2 hb hg_ hnew_; clear hg_ hnew_; (first | rw [← Ny120.out] at ho2 | (simp only [Int.reduceToNat] at ho2; rw [← Ny120.out] at ho2)); have n0_ := Aside0.mk (Kd.V_lower (Kd.V_mono (ok' := fun k_ => (w.heap.size ≤ k_)) ho2 (fun k_ hk_ => (Nat.le_trans (below_size (by repeat (first | (with_reducible first | exact HB.out | apply below_alloc | apply pw_below_drewN | apply below_drew1) | exact HB.out))) hk_))) (below_size (by repeat (first | (with_reducible first | exact HB.out | apply below_alloc | apply pw_below_drewN | apply below_drew1) | exact HB.out)))); have n1_ := Aside0.mk (below_step (by repeat (first | (with_reducible first | exact HB.out | apply below_alloc | apply pw_below_drewN | apply below_drew1) | exact HB.out)) hb); clear HB; have HO122 := n0_; have HB := n1_; clear n0_ n1_; clear hb ho2))
  go_ret
  exact ⟨_, by first | rfl | (simp [errW_none, errW_some] <;> rfl) | (simp [*, errW_none, errW_some] <;> rfl), by (with_reducible repeat (first | apply Kd.V_alloc | apply Kd.V_drewN | apply Kd.V_drew)); exact HO122.out, by repeat (first | (with_reducible first | exact HB.out | apply below_alloc | apply pw_below_drewN | apply below_drew1) | exact HB.out)⟩

/-! ### base64_decodedLen: function 24 -/
def base64_decodedLen.f (a0 : Int) (a1 : Int) : Option (Int) := if a1 = (-1) then (some (wrap64 ((wrap64 ((wrap64 (Int.tdiv a0 4)) * 3)) + (wrap64 (Int.tdiv (wrap64 ((Int.tmod a0 4) * 6)) 8))))) else (some (wrap64 ((wrap64 (Int.tdiv a0 4)) * 3)))
set_option maxHeartbeats 8000000 in
set_option maxRecDepth 100000 in
theorem base64_decodedLen.calls (a0 : Int) (a1 : Int) (r : Int) (w : World) (h : base64_decodedLen.f a0 a1 = some r) :
    Calls Tryd.prog 24 #[.int .i64 a0, .int .i32 a1] w fun e w' => e = .returned (.int .i64 r) ∧ Drawn0 w w' := by
  have H : (if a1 = (-1) then (some (wrap64 ((wrap64 ((wrap64 (Int.tdiv a0 4)) * 3)) + (wrap64 (Int.tdiv (wrap64 ((Int.tmod a0 4) * 6)) 8))))) else (some (wrap64 ((wrap64 (Int.tdiv a0 4)) * 3)))) = some r := h
  clear h
  by_cases c3 : a1 = (-1)
  · rw [if_pos c3] at H
    have c3b0 : (a1 == (-1)) = true := beq_iff_eq.mpr c3
    have c3b1 : (a1 != (-1)) = false := bne_eq_false_iff_eq.mpr c3
    clear c3
    obtain rfl := Option.some.inj H
    go_enter Tryd.func24, Tryd.ntmps24
    go_wp2
    go_ret
    exact ⟨by first | rfl | (simp; done) | (simp [*]; done), by repeat (first | exact Drawn0.refl _ | apply Drawn0.step)⟩
  · rw [if_neg c3] at H
    have c3b0 : (a1 == (-1)) = false := beq_eq_false_iff_ne.mpr c3
    have c3b1 : (a1 != (-1)) = true := bne_iff_ne.mpr c3
    obtain rfl := Option.some.inj H
    go_enter Tryd.func24, Tryd.ntmps24
    go_wp2
    go_ret
    exact ⟨by first | rfl | (simp; done) | (simp [*]; done), by repeat (first | exact Drawn0.refl _ | apply Drawn0.step)⟩

-- NOT PRINTED: function 20 (base64_Encoding_DecodedLen)

/-! ### base64_assemble64: function 25 -/
def base64_assemble64.f (a0 : Int) (a1 : Int) (a2 : Int) (a3 : Int) (a4 : Int) (a5 : Int) (a6 : Int) (a7 : Int) : Option (Int × Bool) := if (Go.bits .or .u8 (Go.bits .or .u8 (Go.bits .or .u8 (Go.bits .or .u8 (Go.bits .or .u8 (Go.bits .or .u8 (Go.bits .or .u8 a0 a1) a2) a3) a4) a5) a6) a7) = 255 then (some (0, false)) else (some (Go.bits .or .u64 (Go.bits .or .u64 (Go.bits .or .u64 (Go.bits .or .u64 (Go.bits .or .u64 (Go.bits .or .u64 (Go.bits .or .u64 (IntKind.u64.wrap ((IntKind.u64.wrap (a0)) * 288230376151711744)) (IntKind.u64.wrap ((IntKind.u64.wrap (a1)) * 4503599627370496))) (IntKind.u64.wrap ((IntKind.u64.wrap (a2)) * 70368744177664))) (IntKind.u64.wrap ((IntKind.u64.wrap (a3)) * 1099511627776))) (IntKind.u64.wrap ((IntKind.u64.wrap (a4)) * 17179869184))) (IntKind.u64.wrap ((IntKind.u64.wrap (a5)) * 268435456))) (IntKind.u64.wrap ((IntKind.u64.wrap (a6)) * 4194304))) (IntKind.u64.wrap ((IntKind.u64.wrap (a7)) * 65536)), true))
set_option maxHeartbeats 8000000 in
set_option maxRecDepth 100000 in
theorem base64_assemble64.calls (a0 : Int) (a1 : Int) (a2 : Int) (a3 : Int) (a4 : Int) (a5 : Int) (a6 : Int) (a7 : Int) (r1 : Int) (r2 : Bool) (w : World) (h : base64_assemble64.f a0 a1 a2 a3 a4 a5 a6 a7 = some (r1, r2)) :
    Calls Tryd.prog 25 #[.int .u8 a0, .int .u8 a1, .int .u8 a2, .int .u8 a3, .int .u8 a4, .int .u8 a5, .int .u8 a6, .int .u8 a7] w fun e w' => e = .returned (.tuple #[.int .u64 r1, .bool r2]) ∧ Drawn0 w w' := by
  have H : (if (Go.bits .or .u8 (Go.bits .or .u8 (Go.bits .or .u8 (Go.bits .or .u8 (Go.bits .or .u8 (Go.bits .or .u8 (Go.bits .or .u8 a0 a1) a2) a3) a4) a5) a6) a7) = 255 then (some (0, false)) else (some (Go.bits .or .u64 (Go.bits .or .u64 (Go.bits .or .u64 (Go.bits .or .u64 (Go.bits .or .u64 (Go.bits .or .u64 (Go.bits .or .u64 (IntKind.u64.wrap ((IntKind.u64.wrap (a0)) * 288230376151711744)) (IntKind.u64.wrap ((IntKind.u64.wrap (a1)) * 4503599627370496))) (IntKind.u64.wrap ((IntKind.u64.wrap (a2)) * 70368744177664))) (IntKind.u64.wrap ((IntKind.u64.wrap (a3)) * 1099511627776))) (IntKind.u64.wrap ((IntKind.u64.wrap (a4)) * 17179869184))) (IntKind.u64.wrap ((IntKind.u64.wrap (a5)) * 268435456))) (IntKind.u64.wrap ((IntKind.u64.wrap (a6)) * 4194304))) (IntKind.u64.wrap ((IntKind.u64.wrap (a7)) * 65536)), true))) = some (r1, r2) := h
  clear h
  by_cases c9 : (Go.bits .or .u8 (Go.bits .or .u8 (Go.bits .or .u8 (Go.bits .or .u8 (Go.bits .or .u8 (Go.bits .or .u8 (Go.bits .or .u8 a0 a1) a2) a3) a4) a5) a6) a7) = 255
  · rw [if_pos c9] at H
    have c9b0 : ((Go.bits .or .u8 (Go.bits .or .u8 (Go.bits .or .u8 (Go.bits .or .u8 (Go.bits .or .u8 (Go.bits .or .u8 (Go.bits .or .u8 a0 a1) a2) a3) a4) a5) a6) a7) == 255) = true := beq_iff_eq.mpr c9
    have c9b1 : ((Go.bits .or .u8 (Go.bits .or .u8 (Go.bits .or .u8 (Go.bits .or .u8 (Go.bits .or .u8 (Go.bits .or .u8 (Go.bits .or .u8 a0 a1) a2) a3) a4) a5) a6) a7) != 255) = false := bne_eq_false_iff_eq.mpr c9
    clear c9
    simp only [Option.some.injEq, Prod.mk.injEq] at H
    obtain ⟨rfl, rfl⟩ := H
    go_enter Tryd.func25, Tryd.ntmps25
    go_wp2
    go_ret2
    exact ⟨by first | rfl | (simp; done) | (simp [*]; done), by repeat (first | exact Drawn0.refl _ | apply Drawn0.step)⟩
  · rw [if_neg c9] at H
    have c9b0 : ((Go.bits .or .u8 (Go.bits .or .u8 (Go.bits .or .u8 (Go.bits .or .u8 (Go.bits .or .u8 (Go.bits .or .u8 (Go.bits .or .u8 a0 a1) a2) a3) a4) a5) a6) a7) == 255) = false := beq_eq_false_iff_ne.mpr c9
    have c9b1 : ((Go.bits .or .u8 (Go.bits .or .u8 (Go.bits .or .u8 (Go.bits .or .u8 (Go.bits .or .u8 (Go.bits .or .u8 (Go.bits .or .u8 a0 a1) a2) a3) a4) a5) a6) a7) != 255) = true := bne_iff_ne.mpr c9
    simp only [Option.some.injEq, Prod.mk.injEq] at H
    obtain ⟨rfl, rfl⟩ := H
    go_enter Tryd.func25, Tryd.ntmps25
    go_wp2
    go_ret2
    exact ⟨by first | rfl | (simp; done) | (simp [*]; done), by repeat (first | exact Drawn0.refl _ | apply Drawn0.step)⟩

/-! ### byteorder_BEPutUint64: function 26 -/
def byteorder_BEPutUint64.f (l0 : List Int) (a1 : Int) : Option (List Int) := if 7 < (l0.length : Int) then (if 0 < (l0.length : Int) then (if 1 < (l0.length : Int) then (if 2 < (l0.length : Int) then (if 3 < (l0.length : Int) then (if 4 < (l0.length : Int) then (if 5 < (l0.length : Int) then (if 6 < (l0.length : Int) then (some ((((((((l0.set (0 : Int).toNat ((a1 / 72057594037927936) % 256)).set (1 : Int).toNat ((a1 / 281474976710656) % 256)).set (2 : Int).toNat ((a1 / 1099511627776) % 256)).set (3 : Int).toNat ((a1 / 4294967296) % 256)).set (4 : Int).toNat ((a1 / 16777216) % 256)).set (5 : Int).toNat ((a1 / 65536) % 256)).set (6 : Int).toNat ((a1 / 256) % 256)).set (7 : Int).toNat ((a1) % 256))) else (none)) else (none)) else (none)) else (none)) else (none)) else (none)) else (none)) else (none)
set_option maxHeartbeats 8000000 in
set_option maxRecDepth 100000 in
theorem byteorder_BEPutUint64.calls (P0_ : Nat → Prop) (u9000_ : Value) (l0 : List Int) (a1 : Int) (r : List Int) (w0 w : World) (hB : Below w0.heap.size w0 w) (ho0 : Kd.R (Kd.int .u8) 5 w w0.heap.size P0_ u9000_ l0) (h : byteorder_BEPutUint64.f l0 a1 = some r) :
    Calls Tryd.prog 26 #[u9000_, .int .u64 a1] w fun e w' => e = .returned (.tuple #[]) ∧ Kd.R (Kd.int .u8) 5 w' w0.heap.size (fun k_ => (P0_ k_ ∨ w.heap.size ≤ k_)) u9000_ r ∧ Below w0.heap.size w0 w' ∧ Kept w w' (fun k_ => P0_ k_) := by
  have HO0 := Aside0.mk (show Kd.R (Kd.int .u8) 5 w w0.heap.size (fun k_ => (P0_ k_ ∨ w.heap.size ≤ k_)) u9000_ l0 from Kd.R_mono ho0 (fun k_ hk => (.inl hk)))
  have HK := Aside0.mk (Kept.refl w (fun k_ => P0_ k_))
  have HW0 := Aside0.mk hB.size
  have HB := Aside0.mk hB
  clear hB
  have H : (if 7 < (l0.length : Int) then (if 0 < (l0.length : Int) then (if 1 < (l0.length : Int) then (if 2 < (l0.length : Int) then (if 3 < (l0.length : Int) then (if 4 < (l0.length : Int) then (if 5 < (l0.length : Int) then (if 6 < (l0.length : Int) then (some ((((((((l0.set (0 : Int).toNat ((a1 / 72057594037927936) % 256)).set (1 : Int).toNat ((a1 / 281474976710656) % 256)).set (2 : Int).toNat ((a1 / 1099511627776) % 256)).set (3 : Int).toNat ((a1 / 4294967296) % 256)).set (4 : Int).toNat ((a1 / 16777216) % 256)).set (5 : Int).toNat ((a1 / 65536) % 256)).set (6 : Int).toNat ((a1 / 256) % 256)).set (7 : Int).toNat ((a1) % 256))) else (none)) else (none)) else (none)) else (none)) else (none)) else (none)) else (none)) else (none)) = some r := h
  clear h
  by_cases c3 : 7 < (l0.length : Int)
  · rw [if_pos c3] at H
    have c3b0 : decide (7 < (l0.length : Int)) = true := decide_eq_true c3
    have c3b1 : decide (7 < l0.length) = true := decide_eq_true (by omega)
    clear c3
    by_cases c4 : 0 < (l0.length : Int)
    · rw [if_pos c4] at H
      have c4b0 : decide (0 < (l0.length : Int)) = true := decide_eq_true c4
      have c4b1 : decide (0 < l0.length) = true := decide_eq_true (by omega)
      clear c4
      obtain ⟨y124, hy124⟩ : ∃ y_ : List Int, y_ = (l0.set (0 : Int).toNat ((a1 / 72057594037927936) % 256)) := ⟨_, rfl⟩
      replace H : (if 1 < (l0.length : Int) then (if 2 < (l0.length : Int) then (if 3 < (l0.length : Int) then (if 4 < (l0.length : Int) then (if 5 < (l0.length : Int) then (if 6 < (l0.length : Int) then (some (((((((y124.set (1 : Int).toNat ((a1 / 281474976710656) % 256)).set (2 : Int).toNat ((a1 / 1099511627776) % 256)).set (3 : Int).toNat ((a1 / 4294967296) % 256)).set (4 : Int).toNat ((a1 / 16777216) % 256)).set (5 : Int).toNat ((a1 / 65536) % 256)).set (6 : Int).toNat ((a1 / 256) % 256)).set (7 : Int).toNat ((a1) % 256))) else (none)) else (none)) else (none)) else (none)) else (none)) else (none)) = some r := by first | (rw [hy124]; with_reducible exact H) | (have H2_ := (Option.bind_some _ _).symm.trans H; rw [hy124]; with_reducible exact H2_) | (have H2_ := (Option.bind_some _ _).symm.trans H; with_reducible exact H2_) | with_reducible exact H | (rw [hy124]; exact H) | exact H
      have Ny124 := Aside0.mk hy124
      clear hy124
      by_cases c6 : 1 < (l0.length : Int)
      · rw [if_pos c6] at H
        have c6b0 : decide (1 < (l0.length : Int)) = true := decide_eq_true c6
        have c6b1 : decide (1 < l0.length) = true := decide_eq_true (by omega)
        clear c6
        obtain ⟨y125, hy125⟩ : ∃ y_ : List Int, y_ = (y124.set (1 : Int).toNat ((a1 / 281474976710656) % 256)) := ⟨_, rfl⟩
        replace H : (if 2 < (l0.length : Int) then (if 3 < (l0.length : Int) then (if 4 < (l0.length : Int) then (if 5 < (l0.length : Int) then (if 6 < (l0.length : Int) then (some ((((((y125.set (2 : Int).toNat ((a1 / 1099511627776) % 256)).set (3 : Int).toNat ((a1 / 4294967296) % 256)).set (4 : Int).toNat ((a1 / 16777216) % 256)).set (5 : Int).toNat ((a1 / 65536) % 256)).set (6 : Int).toNat ((a1 / 256) % 256)).set (7 : Int).toNat ((a1) % 256))) else (none)) else (none)) else (none)) else (none)) else (none)) = some r := by first | (rw [hy125]; with_reducible exact H) | (have H2_ := (Option.bind_some _ _).symm.trans H; rw [hy125]; with_reducible exact H2_) | (have H2_ := (Option.bind_some _ _).symm.trans H; with_reducible exact H2_) | with_reducible exact H | (rw [hy125]; exact H) | exact H
        have Ny125 := Aside0.mk hy125
        clear hy125
        by_cases c8 : 2 < (l0.length : Int)
        · rw [if_pos c8] at H
          have c8b0 : decide (2 < (l0.length : Int)) = true := decide_eq_true c8
          have c8b1 : decide (2 < l0.length) = true := decide_eq_true (by omega)
          clear c8
          obtain ⟨y126, hy126⟩ : ∃ y_ : List Int, y_ = (y125.set (2 : Int).toNat ((a1 / 1099511627776) % 256)) := ⟨_, rfl⟩
          replace H : (if 3 < (l0.length : Int) then (if 4 < (l0.length : Int) then (if 5 < (l0.length : Int) then (if 6 < (l0.length : Int) then (some (((((y126.set (3 : Int).toNat ((a1 / 4294967296) % 256)).set (4 : Int).toNat ((a1 / 16777216) % 256)).set (5 : Int).toNat ((a1 / 65536) % 256)).set (6 : Int).toNat ((a1 / 256) % 256)).set (7 : Int).toNat ((a1) % 256))) else (none)) else (none)) else (none)) else (none)) = some r := by first | (rw [hy126]; with_reducible exact H) | (have H2_ := (Option.bind_some _ _).symm.trans H; rw [hy126]; with_reducible exact H2_) | (have H2_ := (Option.bind_some _ _).symm.trans H; with_reducible exact H2_) | with_reducible exact H | (rw [hy126]; exact H) | exact H
          have Ny126 := Aside0.mk hy126
          clear hy126
          by_cases c10 : 3 < (l0.length : Int)
          · rw [if_pos c10] at H
            have c10b0 : decide (3 < (l0.length : Int)) = true := decide_eq_true c10
            have c10b1 : decide (3 < l0.length) = true := decide_eq_true (by omega)
            clear c10
            obtain ⟨y127, hy127⟩ : ∃ y_ : List Int, y_ = (y126.set (3 : Int).toNat ((a1 / 4294967296) % 256)) := ⟨_, rfl⟩
            replace H : (if 4 < (l0.length : Int) then (if 5 < (l0.length : Int) then (if 6 < (l0.length : Int) then (some ((((y127.set (4 : Int).toNat ((a1 / 16777216) % 256)).set (5 : Int).toNat ((a1 / 65536) % 256)).set (6 : Int).toNat ((a1 / 256) % 256)).set (7 : Int).toNat ((a1) % 256))) else (none)) else (none)) else (none)) = some r := by first | (rw [hy127]; with_reducible exact H) | (have H2_ := (Option.bind_some _ _).symm.trans H; rw [hy127]; with_reducible exact H2_) | (have H2_ := (Option.bind_some _ _).symm.trans H; with_reducible exact H2_) | with_reducible exact H | (rw [hy127]; exact H) | exact H
            have Ny127 := Aside0.mk hy127
            clear hy127
            by_cases c12 : 4 < (l0.length : Int)
            · rw [if_pos c12] at H
              have c12b0 : decide (4 < (l0.length : Int)) = true := decide_eq_true c12
              have c12b1 : decide (4 < l0.length) = true := decide_eq_true (by omega)
              clear c12
              obtain ⟨y128, hy128⟩ : ∃ y_ : List Int, y_ = (y127.set (4 : Int).toNat ((a1 / 16777216) % 256)) := ⟨_, rfl⟩
              replace H : (if 5 < (l0.length : Int) then (if 6 < (l0.length : Int) then (some (((y128.set (5 : Int).toNat ((a1 / 65536) % 256)).set (6 : Int).toNat ((a1 / 256) % 256)).set (7 : Int).toNat ((a1) % 256))) else (none)) else (none)) = some r := by first | (rw [hy128]; with_reducible exact H) | (have H2_ := (Option.bind_some _ _).symm.trans H; rw [hy128]; with_reducible exact H2_) | (have H2_ := (Option.bind_some _ _).symm.trans H; with_reducible exact H2_) | with_reducible exact H | (rw [hy128]; exact H) | exact H
              have Ny128 := Aside0.mk hy128
              clear hy128
              by_cases c14 : 5 < (l0.length : Int)
              · rw [if_pos c14] at H
                have c14b0 : decide (5 < (l0.length : Int)) = true := decide_eq_true c14
                have c14b1 : decide (5 < l0.length) = true := decide_eq_true (by omega)
                clear c14
                obtain ⟨y129, hy129⟩ : ∃ y_ : List Int, y_ = (y128.set (5 : Int).toNat ((a1 / 65536) % 256)) := ⟨_, rfl⟩
                replace H : (if 6 < (l0.length : Int) then (some ((y129.set (6 : Int).toNat ((a1 / 256) % 256)).set (7 : Int).toNat ((a1) % 256))) else (none)) = some r := by first | (rw [hy129]; with_reducible exact H) | (have H2_ := (Option.bind_some _ _).symm.trans H; rw [hy129]; with_reducible exact H2_) | (have H2_ := (Option.bind_some _ _).symm.trans H; with_reducible exact H2_) | with_reducible exact H | (rw [hy129]; exact H) | exact H
                have Ny129 := Aside0.mk hy129
                clear hy129
                by_cases c16 : 6 < (l0.length : Int)
                · rw [if_pos c16] at H
                  have c16b0 : decide (6 < (l0.length : Int)) = true := decide_eq_true c16
                  have c16b1 : decide (6 < l0.length) = true := decide_eq_true (by omega)
                  clear c16
                  obtain ⟨y130, hy130⟩ : ∃ y_ : List Int, y_ = (y129.set (6 : Int).toNat ((a1 / 256) % 256)) := ⟨_, rfl⟩
                  replace H : (some (y130.set (7 : Int).toNat ((a1) % 256))) = some r := by first | (rw [hy130]; with_reducible exact H) | (have H2_ := (Option.bind_some _ _).symm.trans H; rw [hy130]; with_reducible exact H2_) | (have H2_ := (Option.bind_some _ _).symm.trans H; with_reducible exact H2_) | with_reducible exact H | (rw [hy130]; exact H) | exact H
                  have Ny130 := Aside0.mk hy130
                  clear hy130
                  obtain ⟨y131, hy131⟩ : ∃ y_ : List Int, y_ = (y130.set (7 : Int).toNat ((a1) % 256)) := ⟨_, rfl⟩
                  replace H : (some y131) = some r := by first | (rw [hy131]; with_reducible exact H) | (have H2_ := (Option.bind_some _ _).symm.trans H; rw [hy131]; with_reducible exact H2_) | (have H2_ := (Option.bind_some _ _).symm.trans H; with_reducible exact H2_) | with_reducible exact H | (rw [hy131]; exact H) | exact H
                  have Ny131 := Aside0.mk hy131
                  clear hy131
                  obtain rfl := Option.some.inj H
                  obtain ⟨Ao19, co19, eo19⟩ := Kd.R_slice HO0.out
                  subst eo19
                  have p123 : 0 ≤ (7 : Int) := (by omega)
                  have q123 : 7 < (l0.length : Int) := of_decide_eq_true (by first | (with_reducible assumption) | assumption)
                  obtain ⟨ad123, e123, hx123_0⟩ := Kd.at_int (Kd.R_reads' HO0.out).2.2 7 p123 q123
                  cases e123
                  (try simp only [show (7 : Int).toNat = 7 from rfl, Nat.reduceMul, Nat.reduceEqDiff, Go.Addr.add, ↓reduceIte] at hx123_0)
                  have qi123 : (7 < l0.length) = True := eq_true (by omega)
                  (try rw [show ((7 : Int)).toNat = 7 from rfl] at hx123_0)
                  replace p123 := eq_true p123
                  replace q123 := eq_true q123
                  have p5 : 0 ≤ (0 : Int) := (by omega)
                  have q5 : (0 : Int) < ((l0.length : Int) : Int) := of_decide_eq_true (by first | (with_reducible assumption) | assumption)
                  have qi5 : (0 < l0.length) = True := eq_true (by omega)
                  obtain ⟨go5, co5, eo5, gb5, gl5, cl5, HG5⟩ := Kd.R_form HO0.out (by omega)
                  (first | cases eo5 | (injection eo5 with ea_ en_ ec_; (first | subst ea_ | (injection ea_ with ea_; subst ea_)); subst ec_; clear en_))
                  have GB5 := Aside0.mk gb5
                  have GG5 := Aside0.mk HG5
                  clear gb5 gl5 HG5
                  have HMgo5 := Aside0.mk (show (P0_ go5 ∨ w.heap.size ≤ go5) from (HO0.out.1 _ rfl))
                  (first | simp only [add_plain] at hx123_0 | skip)
                  obtain ⟨hx5_0, hf5_0⟩ := Kd.R_celln 0 HO0.out (0 : Int) p5 q5
                  (try rw [show ((0 : Int)).toNat = 0 from rfl] at hx5_0)
                  (try simp only [Nat.reduceMul, Nat.zero_mul, Nat.zero_add, Nat.reduceAdd] at hx5_0)
                  (try rw [show ((0 : Int)).toNat = 0 from rfl] at hf5_0)
                  (try simp only [Nat.reduceMul, Nat.zero_mul, Nat.zero_add, Nat.reduceAdd] at hf5_0)
                  replace p5 := eq_true p5
                  replace q5 := eq_true q5
                  have HP20 := Kd.R_putg HO0.out (0 : Int) ((a1 / 72057594037927936) % 256)
                  go_enter Tryd.func26, Tryd.ntmps26
                  go_wp2_with (first | ((with_reducible refine gate_store (t := 5) (p := 11) rfl ?_); refine store_event (t := 5) (p := 11) (v := ?vo_w21) (w1 := (w.setCell ⟨go5, (0 : Int).toNat, none⟩ (.int .u8 ((a1 / 72057594037927936) % 256)))) ?hg ?ho ?hn ?hr ?_; (case ho => rfl); (case hg => rfl); (case hn => rfl); (case hr => first | (go_simp; done) | (go_simp; rfl)); intro w21 hw; have hg : w.grownBy w21 (some go5) := (by rw [hw]; exact HP20.2); have hp_ : Kd.R (Kd.int .u8) 5 w21 w0.heap.size (fun k_ => (P0_ k_ ∨ w.heap.size ≤ k_)) (.slice (some ⟨go5, 0, none⟩) l0.length co19) y124 := (by rw [hw, Ny124.out]; exact HP20.1); clear HP20; have n0_ := Aside0.mk (hp_); have n1_ := Aside0.mk ((by rw [hw]; exact below_set (HB.out) GB5.out : Below w0.heap.size w0 w21)); have n2_ := Aside0.mk (Kept.of_grown (S := (fun k_ => P0_ k_)) hg (by repeat (first | (with_reducible first | exact HK.out | apply Kept.alloc | apply Kept.drewN | apply Kept.drew) | exact HK.out)) (fun k_ e_ => (HO0.out.1 k_ e_))); clear HO0; clear HB; clear HK; have HO0 := n0_; have HB := n1_; have HK := n2_; clear n0_ n1_ n2_; clear hg hw hp_; have p7 : 0 ≤ (1 : Int) := (by omega); have q7 : (1 : Int) < ((l0.length : Int) : Int) := of_decide_eq_true (by first | (with_reducible assumption) | assumption); have qi7 : (1 < l0.length) = True := eq_true (by omega); obtain ⟨hx7_0, hf7_0⟩ := Kd.R_celln 0 HO0.out (1 : Int) p7 q7; (try rw [show ((1 : Int)).toNat = 1 from rfl] at hx7_0); (try simp only [Nat.reduceMul, Nat.zero_mul, Nat.zero_add, Nat.reduceAdd] at hx7_0); (try rw [show ((1 : Int)).toNat = 1 from rfl] at hf7_0); (try simp only [Nat.reduceMul, Nat.zero_mul, Nat.zero_add, Nat.reduceAdd] at hf7_0); replace p7 := eq_true p7; replace q7 := eq_true q7; obtain ⟨hy22_, hz22_⟩ := Kd.R_celln 0 HO0.out (1 : Int) (by omega) (of_decide_eq_true (by first | (with_reducible assumption) | assumption)); (try simp only [Int.reduceToNat, Int.toNat_zero, Int.toNat_ofNat, Nat.reduceMul, Nat.zero_mul, Nat.zero_add] at hy22_ hz22_); (try rw [show ((1 : Int)).toNat = 1 from rfl] at hy22_); (try rw [show ((1 : Int)).toNat = 1 from rfl] at hz22_); have HP22 := Kd.R_putg HO0.out (1 : Int) ((a1 / 281474976710656) % 256)) | ((with_reducible refine gate_store (t := 5) (p := 16) rfl ?_); refine store_event (t := 5) (p := 16) (v := ?vo_w23) (w1 := (w21.setCell ⟨go5, (1 : Int).toNat, none⟩ (.int .u8 ((a1 / 281474976710656) % 256)))) ?hg ?ho ?hn ?hr ?_; (case ho => rfl); (case hg => rfl); (case hn => rfl); (case hr => first | (go_simp; done) | (go_simp; rfl)); intro w23 hw; have hg : w21.grownBy w23 (some go5) := (by rw [hw]; exact HP22.2); have hp_ : Kd.R (Kd.int .u8) 5 w23 w0.heap.size (fun k_ => (P0_ k_ ∨ w.heap.size ≤ k_)) (.slice (some ⟨go5, 0, none⟩) l0.length co19) y125 := (by rw [hw, Ny125.out]; exact HP22.1); clear HP22; have n0_ := Aside0.mk (hp_); have n1_ := Aside0.mk ((by rw [hw]; exact below_set (HB.out) GB5.out : Below w0.heap.size w0 w23)); have n2_ := Aside0.mk (Kept.of_grown (S := (fun k_ => P0_ k_)) hg (by repeat (first | (with_reducible first | exact HK.out | apply Kept.alloc | apply Kept.drewN | apply Kept.drew) | exact HK.out)) (fun k_ e_ => (HO0.out.1 k_ e_))); clear HO0; clear HB; clear HK; have HO0 := n0_; have HB := n1_; have HK := n2_; clear n0_ n1_ n2_; clear hg hw hp_; have p9 : 0 ≤ (2 : Int) := (by omega); have q9 : (2 : Int) < ((l0.length : Int) : Int) := of_decide_eq_true (by first | (with_reducible assumption) | assumption); have qi9 : (2 < l0.length) = True := eq_true (by omega); obtain ⟨hx9_0, hf9_0⟩ := Kd.R_celln 0 HO0.out (2 : Int) p9 q9; (try rw [show ((2 : Int)).toNat = 2 from rfl] at hx9_0); (try simp only [Nat.reduceMul, Nat.zero_mul, Nat.zero_add, Nat.reduceAdd] at hx9_0); (try rw [show ((2 : Int)).toNat = 2 from rfl] at hf9_0); (try simp only [Nat.reduceMul, Nat.zero_mul, Nat.zero_add, Nat.reduceAdd] at hf9_0); replace p9 := eq_true p9; replace q9 := eq_true q9; obtain ⟨hy24_, hz24_⟩ := Kd.R_celln 0 HO0.out (2 : Int) (by omega) (of_decide_eq_true (by first | (with_reducible assumption) | assumption)); (try simp only [Int.reduceToNat, Int.toNat_zero, Int.toNat_ofNat, Nat.reduceMul, Nat.zero_mul, Nat.zero_add] at hy24_ hz24_); (try rw [show ((2 : Int)).toNat = 2 from rfl] at hy24_); (try rw [show ((2 : Int)).toNat = 2 from rfl] at hz24_); have HP24 := Kd.R_putg HO0.out (2 : Int) ((a1 / 1099511627776) % 256)) | ((with_reducible refine gate_store (t := 5) (p := 21) rfl ?_); refine store_event (t := 5) (p := 21) (v := ?vo_w25) (w1 := (w23.setCell ⟨go5, (2 : Int).toNat, none⟩ (.int .u8 ((a1 / 1099511627776) % 256)))) ?hg ?ho ?hn ?hr ?_; (case ho => rfl); (case hg => rfl); (case hn => rfl); (case hr => first | (go_simp; done) | (go_simp; rfl)); intro w25 hw; have hg : w23.grownBy w25 (some go5) := (by rw [hw]; exact HP24.2); have hp_ : Kd.R (Kd.int .u8) 5 w25 w0.heap.size (fun k_ => (P0_ k_ ∨ w.heap.size ≤ k_)) (.slice (some ⟨go5, 0, none⟩) l0.length co19) y126 := (by rw [hw, Ny126.out]; exact HP24.1); clear HP24; have n0_ := Aside0.mk (hp_); have n1_ := Aside0.mk ((by rw [hw]; exact below_set (HB.out) GB5.out : Below w0.heap.size w0 w25)); have n2_ := Aside0.mk (Kept.of_grown (S := (fun k_ => P0_ k_)) hg (by repeat (first | (with_reducible first | exact HK.out | apply Kept.alloc | apply Kept.drewN | apply Kept.drew) | exact HK.out)) (fun k_ e_ => (HO0.out.1 k_ e_))); clear HO0; clear HB; clear HK; have HO0 := n0_; have HB := n1_; have HK := n2_; clear n0_ n1_ n2_; clear hg hw hp_; have p11 : 0 ≤ (3 : Int) := (by omega); have q11 : (3 : Int) < ((l0.length : Int) : Int) := of_decide_eq_true (by first | (with_reducible assumption) | assumption); have qi11 : (3 < l0.length) = True := eq_true (by omega); obtain ⟨hx11_0, hf11_0⟩ := Kd.R_celln 0 HO0.out (3 : Int) p11 q11; (try rw [show ((3 : Int)).toNat = 3 from rfl] at hx11_0); (try simp only [Nat.reduceMul, Nat.zero_mul, Nat.zero_add, Nat.reduceAdd] at hx11_0); (try rw [show ((3 : Int)).toNat = 3 from rfl] at hf11_0); (try simp only [Nat.reduceMul, Nat.zero_mul, Nat.zero_add, Nat.reduceAdd] at hf11_0); replace p11 := eq_true p11; replace q11 := eq_true q11; obtain ⟨hy26_, hz26_⟩ := Kd.R_celln 0 HO0.out (3 : Int) (by omega) (of_decide_eq_true (by first | (with_reducible assumption) | assumption)); (try simp only [Int.reduceToNat, Int.toNat_zero, Int.toNat_ofNat, Nat.reduceMul, Nat.zero_mul, Nat.zero_add] at hy26_ hz26_); (try rw [show ((3 : Int)).toNat = 3 from rfl] at hy26_); (try rw [show ((3 : Int)).toNat = 3 from rfl] at hz26_); have HP26 := Kd.R_putg HO0.out (3 : Int) ((a1 / 4294967296) % 256)) | ((with_reducible refine gate_store (t := 5) (p := 26) rfl ?_); refine store_event (t := 5) (p := 26) (v := ?vo_w27) (w1 := (w25.setCell ⟨go5, (3 : Int).toNat, none⟩ (.int .u8 ((a1 / 4294967296) % 256)))) ?hg ?ho ?hn ?hr ?_; (case ho => rfl); (case hg => rfl); (case hn => rfl); (case hr => first | (go_simp; done) | (go_simp; rfl)); intro w27 hw; have hg : w25.grownBy w27 (some go5) := (by rw [hw]; exact HP26.2); have hp_ : Kd.R (Kd.int .u8) 5 w27 w0.heap.size (fun k_ => (P0_ k_ ∨ w.heap.size ≤ k_)) (.slice (some ⟨go5, 0, none⟩) l0.length co19) y127 := (by rw [hw, Ny127.out]; exact HP26.1); clear HP26; have n0_ := Aside0.mk (hp_); have n1_ := Aside0.mk ((by rw [hw]; exact below_set (HB.out) GB5.out : Below w0.heap.size w0 w27)); have n2_ := Aside0.mk (Kept.of_grown (S := (fun k_ => P0_ k_)) hg (by repeat (first | (with_reducible first | exact HK.out | apply Kept.alloc | apply Kept.drewN | apply Kept.drew) | exact HK.out)) (fun k_ e_ => (HO0.out.1 k_ e_))); clear HO0; clear HB; clear HK; have HO0 := n0_; have HB := n1_; have HK := n2_; clear n0_ n1_ n2_; clear hg hw hp_; have p13 : 0 ≤ (4 : Int) := (by omega); have q13 : (4 : Int) < ((l0.length : Int) : Int) := of_decide_eq_true (by first | (with_reducible assumption) | assumption); have qi13 : (4 < l0.length) = True := eq_true (by omega); obtain ⟨hx13_0, hf13_0⟩ := Kd.R_celln 0 HO0.out (4 : Int) p13 q13; (try rw [show ((4 : Int)).toNat = 4 from rfl] at hx13_0); (try simp only [Nat.reduceMul, Nat.zero_mul, Nat.zero_add, Nat.reduceAdd] at hx13_0); (try rw [show ((4 : Int)).toNat = 4 from rfl] at hf13_0); (try simp only [Nat.reduceMul, Nat.zero_mul, Nat.zero_add, Nat.reduceAdd] at hf13_0); replace p13 := eq_true p13; replace q13 := eq_true q13; obtain ⟨hy28_, hz28_⟩ := Kd.R_celln 0 HO0.out (4 : Int) (by omega) (of_decide_eq_true (by first | (with_reducible assumption) | assumption)); (try simp only [Int.reduceToNat, Int.toNat_zero, Int.toNat_ofNat, Nat.reduceMul, Nat.zero_mul, Nat.zero_add] at hy28_ hz28_); (try rw [show ((4 : Int)).toNat = 4 from rfl] at hy28_); (try rw [show ((4 : Int)).toNat = 4 from rfl] at hz28_); have HP28 := Kd.R_putg HO0.out (4 : Int) ((a1 / 16777216) % 256)) | ((with_reducible refine gate_store (t := 5) (p := 31) rfl ?_); refine store_event (t := 5) (p := 31) (v := ?vo_w29) (w1 := (w27.setCell ⟨go5, (4 : Int).toNat, none⟩ (.int .u8 ((a1 / 16777216) % 256)))) ?hg ?ho ?hn ?hr ?_; (case ho => rfl); (case hg => rfl); (case hn => rfl); (case hr => first | (go_simp; done) | (go_simp; rfl)); intro w29 hw; have hg : w27.grownBy w29 (some go5) := (by rw [hw]; exact HP28.2); have hp_ : Kd.R (Kd.int .u8) 5 w29 w0.heap.size (fun k_ => (P0_ k_ ∨ w.heap.size ≤ k_)) (.slice (some ⟨go5, 0, none⟩) l0.length co19) y128 := (by rw [hw, Ny128.out]; exact HP28.1); clear HP28; have n0_ := Aside0.mk (hp_); have n1_ := Aside0.mk ((by rw [hw]; exact below_set (HB.out) GB5.out : Below w0.heap.size w0 w29)); have n2_ := Aside0.mk (Kept.of_grown (S := (fun k_ => P0_ k_)) hg (by repeat (first | (with_reducible first | exact HK.out | apply Kept.alloc | apply Kept.drewN | apply Kept.drew) | exact HK.out)) (fun k_ e_ => (HO0.out.1 k_ e_))); clear HO0; clear HB; clear HK; have HO0 := n0_; have HB := n1_; have HK := n2_; clear n0_ n1_ n2_; clear hg hw hp_; have p15 : 0 ≤ (5 : Int) := (by omega); have q15 : (5 : Int) < ((l0.length : Int) : Int) := of_decide_eq_true (by first | (with_reducible assumption) | assumption); have qi15 : (5 < l0.length) = True := eq_true (by omega); obtain ⟨hx15_0, hf15_0⟩ := Kd.R_celln 0 HO0.out (5 : Int) p15 q15; (try rw [show ((5 : Int)).toNat = 5 from rfl] at hx15_0); (try simp only [Nat.reduceMul, Nat.zero_mul, Nat.zero_add, Nat.reduceAdd] at hx15_0); (try rw [show ((5 : Int)).toNat = 5 from rfl] at hf15_0); (try simp only [Nat.reduceMul, Nat.zero_mul, Nat.zero_add, Nat.reduceAdd] at hf15_0); replace p15 := eq_true p15; replace q15 := eq_true q15; obtain ⟨hy30_, hz30_⟩ := Kd.R_celln 0 HO0.out (5 : Int) (by omega) (of_decide_eq_true (by first | (with_reducible assumption) | assumption)); (try simp only [Int.reduceToNat, Int.toNat_zero, Int.toNat_ofNat, Nat.reduceMul, Nat.zero_mul, Nat.zero_add] at hy30_ hz30_); (try rw [show ((5 : Int)).toNat = 5 from rfl] at hy30_); (try rw [show ((5 : Int)).toNat = 5 from rfl] at hz30_); have HP30 := Kd.R_putg HO0.out (5 : Int) ((a1 / 65536) % 256)) | ((with_reducible refine gate_store (t := 5) (p := 36) rfl ?_); refine store_event (t := 5) (p := 36) (v := ?vo_w31) (w1 := (w29.setCell ⟨go5, (5 : Int).toNat, none⟩ (.int .u8 ((a1 / 65536) % 256)))) ?hg ?ho ?hn ?hr ?_; (case ho => rfl); (case hg => rfl); (case hn => rfl); (case hr => first | (go_simp; done) | (go_simp; rfl)); intro w31 hw; have hg : w29.grownBy w31 (some go5) := (by rw [hw]; exact HP30.2); have hp_ : Kd.R (Kd.int .u8) 5 w31 w0.heap.size (fun k_ => (P0_ k_ ∨ w.heap.size ≤ k_)) (.slice (some ⟨go5, 0, none⟩) l0.length co19) y129 := (by rw [hw, Ny129.out]; exact HP30.1); clear HP30; have n0_ := Aside0.mk (hp_); have n1_ := Aside0.mk ((by rw [hw]; exact below_set (HB.out) GB5.out : Below w0.heap.size w0 w31)); have n2_ := Aside0.mk (Kept.of_grown (S := (fun k_ => P0_ k_)) hg (by repeat (first | (with_reducible first | exact HK.out | apply Kept.alloc | apply Kept.drewN | apply Kept.drew) | exact HK.out)) (fun k_ e_ => (HO0.out.1 k_ e_))); clear HO0; clear HB; clear HK; have HO0 := n0_; have HB := n1_; have HK := n2_; clear n0_ n1_ n2_; clear hg hw hp_; have p17 : 0 ≤ (6 : Int) := (by omega); have q17 : (6 : Int) < ((l0.length : Int) : Int) := of_decide_eq_true (by first | (with_reducible assumption) | assumption); have qi17 : (6 < l0.length) = True := eq_true (by omega); obtain ⟨hx17_0, hf17_0⟩ := Kd.R_celln 0 HO0.out (6 : Int) p17 q17; (try rw [show ((6 : Int)).toNat = 6 from rfl] at hx17_0); (try simp only [Nat.reduceMul, Nat.zero_mul, Nat.zero_add, Nat.reduceAdd] at hx17_0); (try rw [show ((6 : Int)).toNat = 6 from rfl] at hf17_0); (try simp only [Nat.reduceMul, Nat.zero_mul, Nat.zero_add, Nat.reduceAdd] at hf17_0); replace p17 := eq_true p17; replace q17 := eq_true q17; obtain ⟨hy32_, hz32_⟩ := Kd.R_celln 0 HO0.out (6 : Int) (by omega) (of_decide_eq_true (by first | (with_reducible assumption) | assumption)); (try simp only [Int.reduceToNat, Int.toNat_zero, Int.toNat_ofNat, Nat.reduceMul, Nat.zero_mul, Nat.zero_add] at hy32_ hz32_); (try rw [show ((6 : Int)).toNat = 6 from rfl] at hy32_); (try rw [show ((6 : Int)).toNat = 6 from rfl] at hz32_); have HP32 := Kd.R_putg HO0.out (6 : Int) ((a1 / 256) % 256)) | ((with_reducible refine gate_store (t := 5) (p := 41) rfl ?_); refine store_event (t := 5) (p := 41) (v := ?vo_w33) (w1 := (w31.setCell ⟨go5, (6 : Int).toNat, none⟩ (.int .u8 ((a1 / 256) % 256)))) ?hg ?ho ?hn ?hr ?_; (case ho => rfl); (case hg => rfl); (case hn => rfl); (case hr => first | (go_simp; done) | (go_simp; rfl)); intro w33 hw; have hg : w31.grownBy w33 (some go5) := (by rw [hw]; exact HP32.2); have hp_ : Kd.R (Kd.int .u8) 5 w33 w0.heap.size (fun k_ => (P0_ k_ ∨ w.heap.size ≤ k_)) (.slice (some ⟨go5, 0, none⟩) l0.length co19) y130 := (by rw [hw, Ny130.out]; exact HP32.1); clear HP32; have n0_ := Aside0.mk (hp_); have n1_ := Aside0.mk ((by rw [hw]; exact below_set (HB.out) GB5.out : Below w0.heap.size w0 w33)); have n2_ := Aside0.mk (Kept.of_grown (S := (fun k_ => P0_ k_)) hg (by repeat (first | (with_reducible first | exact HK.out | apply Kept.alloc | apply Kept.drewN | apply Kept.drew) | exact HK.out)) (fun k_ e_ => (HO0.out.1 k_ e_))); clear HO0; clear HB; clear HK; have HO0 := n0_; have HB := n1_; have HK := n2_; clear n0_ n1_ n2_; clear hg hw hp_; have p18 : 0 ≤ (7 : Int) := (by omega); have q18 : (7 : Int) < ((l0.length : Int) : Int) := of_decide_eq_true (by first | (with_reducible assumption) | assumption); have qi18 : (7 < l0.length) = True := eq_true (by omega); obtain ⟨hx18_0, hf18_0⟩ := Kd.R_celln 0 HO0.out (7 : Int) p18 q18; (try rw [show ((7 : Int)).toNat = 7 from rfl] at hx18_0); (try simp only [Nat.reduceMul, Nat.zero_mul, Nat.zero_add, Nat.reduceAdd] at hx18_0); (try rw [show ((7 : Int)).toNat = 7 from rfl] at hf18_0); (try simp only [Nat.reduceMul, Nat.zero_mul, Nat.zero_add, Nat.reduceAdd] at hf18_0); replace p18 := eq_true p18; replace q18 := eq_true q18; obtain ⟨hy34_, hz34_⟩ := Kd.R_celln 0 HO0.out (7 : Int) (by omega) (of_decide_eq_true (by first | (with_reducible assumption) | assumption)); (try simp only [Int.reduceToNat, Int.toNat_zero, Int.toNat_ofNat, Nat.reduceMul, Nat.zero_mul, Nat.zero_add] at hy34_ hz34_); (try rw [show ((7 : Int)).toNat = 7 from rfl] at hy34_); (try rw [show ((7 : Int)).toNat = 7 from rfl] at hz34_); have HP34 := Kd.R_putg HO0.out (7 : Int) ((a1) % 256)) | ((with_reducible refine gate_store (t := 5) (p := 45) rfl ?_); refine store_event (t := 5) (p := 45) (v := ?vo_w35) (w1 := (w33.setCell ⟨go5, (7 : Int).toNat, none⟩ (.int .u8 ((a1) % 256)))) ?hg ?ho ?hn ?hr ?_; (case ho => rfl); (case hg => rfl); (case hn => rfl); (case hr => first | (go_simp; done) | (go_simp; rfl)); intro w35 hw; have hg : w33.grownBy w35 (some go5) := (by rw [hw]; exact HP34.2); have hp_ : Kd.R (Kd.int .u8) 5 w35 w0.heap.size (fun k_ => (P0_ k_ ∨ w.heap.size ≤ k_)) (.slice (some ⟨go5, 0, none⟩) l0.length co19) y131 := (by rw [hw, Ny131.out]; exact HP34.1); clear HP34; have n0_ := Aside0.mk (hp_); have n1_ := Aside0.mk ((by rw [hw]; exact below_set (HB.out) GB5.out : Below w0.heap.size w0 w35)); have n2_ := Aside0.mk (Kept.of_grown (S := (fun k_ => P0_ k_)) hg (by repeat (first | (with_reducible first | exact HK.out | apply Kept.alloc | apply Kept.drewN | apply Kept.drew) | exact HK.out)) (fun k_ e_ => (HO0.out.1 k_ e_))); clear HO0; clear HB; clear HK; have HO0 := n0_; have HB := n1_; have HK := n2_; clear n0_ n1_ n2_; clear hg hw hp_))
                  first | go_end0 | ((try simp only [Exit.inBlock, Exit.then]); refine bodyPost_ret (results_none rfl _ _ _) rfl ?_)
                  exact ⟨by first | rfl | (simp [errW_none, errW_some] <;> rfl) | (simp [*, errW_none, errW_some] <;> rfl), by (with_reducible repeat (first | apply Kd.R_alloc | apply Kd.R_drewN | apply Kd.R_drew)); exact HO0.out, by repeat (first | (with_reducible first | exact HB.out | apply below_alloc | apply pw_below_drewN | apply below_drew1) | exact HB.out), by repeat (first | (with_reducible first | exact HK.out | apply Kept.alloc | apply Kept.drewN | apply Kept.drew) | exact HK.out)⟩
                · rw [if_neg c16] at H
                  exact absurd H (by simp)
              · rw [if_neg c14] at H
                exact absurd H (by simp)
            · rw [if_neg c12] at H
              exact absurd H (by simp)
          · rw [if_neg c10] at H
            exact absurd H (by simp)
        · rw [if_neg c8] at H
          exact absurd H (by simp)
      · rw [if_neg c6] at H
        exact absurd H (by simp)
    · rw [if_neg c4] at H
      exact absurd H (by simp)
  · rw [if_neg c3] at H
    exact absurd H (by simp)

-- NOT PRINTED: function 27 (base64_Encoding_decodeQuantum)

/-! ### base64_assemble32: function 28 -/
def base64_assemble32.f (a0 : Int) (a1 : Int) (a2 : Int) (a3 : Int) : Option (Int × Bool) := if (Go.bits .or .u8 (Go.bits .or .u8 (Go.bits .or .u8 a0 a1) a2) a3) = 255 then (some (0, false)) else (some (Go.bits .or .u32 (Go.bits .or .u32 (Go.bits .or .u32 ((((a0) % 4294967296) * 67108864) % 4294967296) ((((a1) % 4294967296) * 1048576) % 4294967296)) ((((a2) % 4294967296) * 16384) % 4294967296)) ((((a3) % 4294967296) * 256) % 4294967296), true))
set_option maxHeartbeats 8000000 in
set_option maxRecDepth 100000 in
theorem base64_assemble32.calls (a0 : Int) (a1 : Int) (a2 : Int) (a3 : Int) (r1 : Int) (r2 : Bool) (w : World) (h : base64_assemble32.f a0 a1 a2 a3 = some (r1, r2)) :
    Calls Tryd.prog 28 #[.int .u8 a0, .int .u8 a1, .int .u8 a2, .int .u8 a3] w fun e w' => e = .returned (.tuple #[.int .u32 r1, .bool r2]) ∧ Drawn0 w w' := by
  have H : (if (Go.bits .or .u8 (Go.bits .or .u8 (Go.bits .or .u8 a0 a1) a2) a3) = 255 then (some (0, false)) else (some (Go.bits .or .u32 (Go.bits .or .u32 (Go.bits .or .u32 ((((a0) % 4294967296) * 67108864) % 4294967296) ((((a1) % 4294967296) * 1048576) % 4294967296)) ((((a2) % 4294967296) * 16384) % 4294967296)) ((((a3) % 4294967296) * 256) % 4294967296), true))) = some (r1, r2) := h
  clear h
  by_cases c5 : (Go.bits .or .u8 (Go.bits .or .u8 (Go.bits .or .u8 a0 a1) a2) a3) = 255
  · rw [if_pos c5] at H
    have c5b0 : ((Go.bits .or .u8 (Go.bits .or .u8 (Go.bits .or .u8 a0 a1) a2) a3) == 255) = true := beq_iff_eq.mpr c5
    have c5b1 : ((Go.bits .or .u8 (Go.bits .or .u8 (Go.bits .or .u8 a0 a1) a2) a3) != 255) = false := bne_eq_false_iff_eq.mpr c5
    clear c5
    simp only [Option.some.injEq, Prod.mk.injEq] at H
    obtain ⟨rfl, rfl⟩ := H
    go_enter Tryd.func28, Tryd.ntmps28
    go_wp2
    go_ret2
    exact ⟨by first | rfl | (simp; done) | (simp [*]; done), by repeat (first | exact Drawn0.refl _ | apply Drawn0.step)⟩
  · rw [if_neg c5] at H
    have c5b0 : ((Go.bits .or .u8 (Go.bits .or .u8 (Go.bits .or .u8 a0 a1) a2) a3) == 255) = false := beq_eq_false_iff_ne.mpr c5
    have c5b1 : ((Go.bits .or .u8 (Go.bits .or .u8 (Go.bits .or .u8 a0 a1) a2) a3) != 255) = true := bne_iff_ne.mpr c5
    simp only [Option.some.injEq, Prod.mk.injEq] at H
    obtain ⟨rfl, rfl⟩ := H
    go_enter Tryd.func28, Tryd.ntmps28
    go_wp2
    go_ret2
    exact ⟨by first | rfl | (simp; done) | (simp [*]; done), by repeat (first | exact Drawn0.refl _ | apply Drawn0.step)⟩

/-! ### byteorder_BEPutUint32: function 29 -/
def byteorder_BEPutUint32.f (l0 : List Int) (a1 : Int) : Option (List Int) := if 3 < (l0.length : Int) then (if 0 < (l0.length : Int) then (if 1 < (l0.length : Int) then (if 2 < (l0.length : Int) then (some ((((l0.set (0 : Int).toNat ((a1 / 16777216) % 256)).set (1 : Int).toNat ((a1 / 65536) % 256)).set (2 : Int).toNat ((a1 / 256) % 256)).set (3 : Int).toNat ((a1) % 256))) else (none)) else (none)) else (none)) else (none)
set_option maxHeartbeats 8000000 in
set_option maxRecDepth 100000 in
theorem byteorder_BEPutUint32.calls (P0_ : Nat → Prop) (u9000_ : Value) (l0 : List Int) (a1 : Int) (r : List Int) (w0 w : World) (hB : Below w0.heap.size w0 w) (ho0 : Kd.R (Kd.int .u8) 5 w w0.heap.size P0_ u9000_ l0) (h : byteorder_BEPutUint32.f l0 a1 = some r) :
    Calls Tryd.prog 29 #[u9000_, .int .u32 a1] w fun e w' => e = .returned (.tuple #[]) ∧ Kd.R (Kd.int .u8) 5 w' w0.heap.size (fun k_ => (P0_ k_ ∨ w.heap.size ≤ k_)) u9000_ r ∧ Below w0.heap.size w0 w' ∧ Kept w w' (fun k_ => P0_ k_) := by
  have HO0 := Aside0.mk (show Kd.R (Kd.int .u8) 5 w w0.heap.size (fun k_ => (P0_ k_ ∨ w.heap.size ≤ k_)) u9000_ l0 from Kd.R_mono ho0 (fun k_ hk => (.inl hk)))
  have HK := Aside0.mk (Kept.refl w (fun k_ => P0_ k_))
  have HW0 := Aside0.mk hB.size
  have HB := Aside0.mk hB
  clear hB
  have H : (if 3 < (l0.length : Int) then (if 0 < (l0.length : Int) then (if 1 < (l0.length : Int) then (if 2 < (l0.length : Int) then (some ((((l0.set (0 : Int).toNat ((a1 / 16777216) % 256)).set (1 : Int).toNat ((a1 / 65536) % 256)).set (2 : Int).toNat ((a1 / 256) % 256)).set (3 : Int).toNat ((a1) % 256))) else (none)) else (none)) else (none)) else (none)) = some r := h
  clear h
  by_cases c3 : 3 < (l0.length : Int)
  · rw [if_pos c3] at H
    have c3b0 : decide (3 < (l0.length : Int)) = true := decide_eq_true c3
    have c3b1 : decide (3 < l0.length) = true := decide_eq_true (by omega)
    clear c3
    by_cases c4 : 0 < (l0.length : Int)
    · rw [if_pos c4] at H
      have c4b0 : decide (0 < (l0.length : Int)) = true := decide_eq_true c4
      have c4b1 : decide (0 < l0.length) = true := decide_eq_true (by omega)
      clear c4
      obtain ⟨y133, hy133⟩ : ∃ y_ : List Int, y_ = (l0.set (0 : Int).toNat ((a1 / 16777216) % 256)) := ⟨_, rfl⟩
      replace H : (if 1 < (l0.length : Int) then (if 2 < (l0.length : Int) then (some (((y133.set (1 : Int).toNat ((a1 / 65536) % 256)).set (2 : Int).toNat ((a1 / 256) % 256)).set (3 : Int).toNat ((a1) % 256))) else (none)) else (none)) = some r := by first | (rw [hy133]; with_reducible exact H) | (have H2_ := (Option.bind_some _ _).symm.trans H; rw [hy133]; with_reducible exact H2_) | (have H2_ := (Option.bind_some _ _).symm.trans H; with_reducible exact H2_) | with_reducible exact H | (rw [hy133]; exact H) | exact H
      have Ny133 := Aside0.mk hy133
      clear hy133
      by_cases c6 : 1 < (l0.length : Int)
      · rw [if_pos c6] at H
        have c6b0 : decide (1 < (l0.length : Int)) = true := decide_eq_true c6
        have c6b1 : decide (1 < l0.length) = true := decide_eq_true (by omega)
        clear c6
        obtain ⟨y134, hy134⟩ : ∃ y_ : List Int, y_ = (y133.set (1 : Int).toNat ((a1 / 65536) % 256)) := ⟨_, rfl⟩
        replace H : (if 2 < (l0.length : Int) then (some ((y134.set (2 : Int).toNat ((a1 / 256) % 256)).set (3 : Int).toNat ((a1) % 256))) else (none)) = some r := by first | (rw [hy134]; with_reducible exact H) | (have H2_ := (Option.bind_some _ _).symm.trans H; rw [hy134]; with_reducible exact H2_) | (have H2_ := (Option.bind_some _ _).symm.trans H; with_reducible exact H2_) | with_reducible exact H | (rw [hy134]; exact H) | exact H
        have Ny134 := Aside0.mk hy134
        clear hy134
        by_cases c8 : 2 < (l0.length : Int)
        · rw [if_pos c8] at H
          have c8b0 : decide (2 < (l0.length : Int)) = true := decide_eq_true c8
          have c8b1 : decide (2 < l0.length) = true := decide_eq_true (by omega)
          clear c8
          obtain ⟨y135, hy135⟩ : ∃ y_ : List Int, y_ = (y134.set (2 : Int).toNat ((a1 / 256) % 256)) := ⟨_, rfl⟩
          replace H : (some (y135.set (3 : Int).toNat ((a1) % 256))) = some r := by first | (rw [hy135]; with_reducible exact H) | (have H2_ := (Option.bind_some _ _).symm.trans H; rw [hy135]; with_reducible exact H2_) | (have H2_ := (Option.bind_some _ _).symm.trans H; with_reducible exact H2_) | with_reducible exact H | (rw [hy135]; exact H) | exact H
          have Ny135 := Aside0.mk hy135
          clear hy135
          obtain ⟨y136, hy136⟩ : ∃ y_ : List Int, y_ = (y135.set (3 : Int).toNat ((a1) % 256)) := ⟨_, rfl⟩
          replace H : (some y136) = some r := by first | (rw [hy136]; with_reducible exact H) | (have H2_ := (Option.bind_some _ _).symm.trans H; rw [hy136]; with_reducible exact H2_) | (have H2_ := (Option.bind_some _ _).symm.trans H; with_reducible exact H2_) | with_reducible exact H | (rw [hy136]; exact H) | exact H
          have Ny136 := Aside0.mk hy136
          clear hy136
          obtain rfl := Option.some.inj H
          obtain ⟨Ao11, co11, eo11⟩ := Kd.R_slice HO0.out
          subst eo11
          have p132 : 0 ≤ (3 : Int) := (by omega)
          have q132 : 3 < (l0.length : Int) := of_decide_eq_true (by first | (with_reducible assumption) | assumption)
          obtain ⟨ad132, e132, hx132_0⟩ := Kd.at_int (Kd.R_reads' HO0.out).2.2 3 p132 q132
          cases e132
          (try simp only [show (3 : Int).toNat = 3 from rfl, Nat.reduceMul, Nat.reduceEqDiff, Go.Addr.add, ↓reduceIte] at hx132_0)
          have qi132 : (3 < l0.length) = True := eq_true (by omega)
          (try rw [show ((3 : Int)).toNat = 3 from rfl] at hx132_0)
          replace p132 := eq_true p132
          replace q132 := eq_true q132
          have p5 : 0 ≤ (0 : Int) := (by omega)
          have q5 : (0 : Int) < ((l0.length : Int) : Int) := of_decide_eq_true (by first | (with_reducible assumption) | assumption)
          have qi5 : (0 < l0.length) = True := eq_true (by omega)
          obtain ⟨go5, co5, eo5, gb5, gl5, cl5, HG5⟩ := Kd.R_form HO0.out (by omega)
          (first | cases eo5 | (injection eo5 with ea_ en_ ec_; (first | subst ea_ | (injection ea_ with ea_; subst ea_)); subst ec_; clear en_))
          have GB5 := Aside0.mk gb5
          have GG5 := Aside0.mk HG5
          clear gb5 gl5 HG5
          have HMgo5 := Aside0.mk (show (P0_ go5 ∨ w.heap.size ≤ go5) from (HO0.out.1 _ rfl))
          (first | simp only [add_plain] at hx132_0 | skip)
          obtain ⟨hx5_0, hf5_0⟩ := Kd.R_celln 0 HO0.out (0 : Int) p5 q5
          (try rw [show ((0 : Int)).toNat = 0 from rfl] at hx5_0)
          (try simp only [Nat.reduceMul, Nat.zero_mul, Nat.zero_add, Nat.reduceAdd] at hx5_0)
          (try rw [show ((0 : Int)).toNat = 0 from rfl] at hf5_0)
          (try simp only [Nat.reduceMul, Nat.zero_mul, Nat.zero_add, Nat.reduceAdd] at hf5_0)
          replace p5 := eq_true p5
          replace q5 := eq_true q5
          have HP12 := Kd.R_putg HO0.out (0 : Int) ((a1 / 16777216) % 256)
          go_enter Tryd.func29, Tryd.ntmps29
          go_wp2_with (first | ((with_reducible refine gate_store (t := 5) (p := 11) rfl ?_); refine store_event (t := 5) (p := 11) (v := ?vo_w13) (w1 := (w.setCell ⟨go5, (0 : Int).toNat, none⟩ (.int .u8 ((a1 / 16777216) % 256)))) ?hg ?ho ?hn ?hr ?_; (case ho => rfl); (case hg => rfl); (case hn => rfl); (case hr => first | (go_simp; done) | (go_simp; rfl)); intro w13 hw; have hg : w.grownBy w13 (some go5) := (by rw [hw]; exact HP12.2); have hp_ : Kd.R (Kd.int .u8) 5 w13 w0.heap.size (fun k_ => (P0_ k_ ∨ w.heap.size ≤ k_)) (.slice (some ⟨go5, 0, none⟩) l0.length co11) y133 := (by rw [hw, Ny133.out]; exact HP12.1); clear HP12; have n0_ := Aside0.mk (hp_); have n1_ := Aside0.mk ((by rw [hw]; exact below_set (HB.out) GB5.out : Below w0.heap.size w0 w13)); have n2_ := Aside0.mk (Kept.of_grown (S := (fun k_ => P0_ k_)) hg (by repeat (first | (with_reducible first | exact HK.out | apply Kept.alloc | apply Kept.drewN | apply Kept.drew) | exact HK.out)) (fun k_ e_ => (HO0.out.1 k_ e_))); clear HO0; clear HB; clear HK; have HO0 := n0_; have HB := n1_; have HK := n2_; clear n0_ n1_ n2_; clear hg hw hp_; have p7 : 0 ≤ (1 : Int) := (by omega); have q7 : (1 : Int) < ((l0.length : Int) : Int) := of_decide_eq_true (by first | (with_reducible assumption) | assumption); have qi7 : (1 < l0.length) = True := eq_true (by omega); obtain ⟨hx7_0, hf7_0⟩ := Kd.R_celln 0 HO0.out (1 : Int) p7 q7; (try rw [show ((1 : Int)).toNat = 1 from rfl] at hx7_0); (try simp only [Nat.reduceMul, Nat.zero_mul, Nat.zero_add, Nat.reduceAdd] at hx7_0); (try rw [show ((1 : Int)).toNat = 1 from rfl] at hf7_0); (try simp only [Nat.reduceMul, Nat.zero_mul, Nat.zero_add, Nat.reduceAdd] at hf7_0); replace p7 := eq_true p7; replace q7 := eq_true q7; obtain ⟨hy14_, hz14_⟩ := Kd.R_celln 0 HO0.out (1 : Int) (by omega) (of_decide_eq_true (by first | (with_reducible assumption) | assumption)); (try simp only [Int.reduceToNat, Int.toNat_zero, Int.toNat_ofNat, Nat.reduceMul, Nat.zero_mul, Nat.zero_add] at hy14_ hz14_); (try rw [show ((1 : Int)).toNat = 1 from rfl] at hy14_); (try rw [show ((1 : Int)).toNat = 1 from rfl] at hz14_); have HP14 := Kd.R_putg HO0.out (1 : Int) ((a1 / 65536) % 256)) | ((with_reducible refine gate_store (t := 5) (p := 16) rfl ?_); refine store_event (t := 5) (p := 16) (v := ?vo_w15) (w1 := (w13.setCell ⟨go5, (1 : Int).toNat, none⟩ (.int .u8 ((a1 / 65536) % 256)))) ?hg ?ho ?hn ?hr ?_; (case ho => rfl); (case hg => rfl); (case hn => rfl); (case hr => first | (go_simp; done) | (go_simp; rfl)); intro w15 hw; have hg : w13.grownBy w15 (some go5) := (by rw [hw]; exact HP14.2); have hp_ : Kd.R (Kd.int .u8) 5 w15 w0.heap.size (fun k_ => (P0_ k_ ∨ w.heap.size ≤ k_)) (.slice (some ⟨go5, 0, none⟩) l0.length co11) y134 := (by rw [hw, Ny134.out]; exact HP14.1); clear HP14; have n0_ := Aside0.mk (hp_); have n1_ := Aside0.mk ((by rw [hw]; exact below_set (HB.out) GB5.out : Below w0.heap.size w0 w15)); have n2_ := Aside0.mk (Kept.of_grown (S := (fun k_ => P0_ k_)) hg (by repeat (first | (with_reducible first | exact HK.out | apply Kept.alloc | apply Kept.drewN | apply Kept.drew) | exact HK.out)) (fun k_ e_ => (HO0.out.1 k_ e_))); clear HO0; clear HB; clear HK; have HO0 := n0_; have HB := n1_; have HK := n2_; clear n0_ n1_ n2_; clear hg hw hp_; have p9 : 0 ≤ (2 : Int) := (by omega); have q9 : (2 : Int) < ((l0.length : Int) : Int) := of_decide_eq_true (by first | (with_reducible assumption) | assumption); have qi9 : (2 < l0.length) = True := eq_true (by omega); obtain ⟨hx9_0, hf9_0⟩ := Kd.R_celln 0 HO0.out (2 : Int) p9 q9; (try rw [show ((2 : Int)).toNat = 2 from rfl] at hx9_0); (try simp only [Nat.reduceMul, Nat.zero_mul, Nat.zero_add, Nat.reduceAdd] at hx9_0); (try rw [show ((2 : Int)).toNat = 2 from rfl] at hf9_0); (try simp only [Nat.reduceMul, Nat.zero_mul, Nat.zero_add, Nat.reduceAdd] at hf9_0); replace p9 := eq_true p9; replace q9 := eq_true q9; obtain ⟨hy16_, hz16_⟩ := Kd.R_celln 0 HO0.out (2 : Int) (by omega) (of_decide_eq_true (by first | (with_reducible assumption) | assumption)); (try simp only [Int.reduceToNat, Int.toNat_zero, Int.toNat_ofNat, Nat.reduceMul, Nat.zero_mul, Nat.zero_add] at hy16_ hz16_); (try rw [show ((2 : Int)).toNat = 2 from rfl] at hy16_); (try rw [show ((2 : Int)).toNat = 2 from rfl] at hz16_); have HP16 := Kd.R_putg HO0.out (2 : Int) ((a1 / 256) % 256)) | ((with_reducible refine gate_store (t := 5) (p := 21) rfl ?_); refine store_event (t := 5) (p := 21) (v := ?vo_w17) (w1 := (w15.setCell ⟨go5, (2 : Int).toNat, none⟩ (.int .u8 ((a1 / 256) % 256)))) ?hg ?ho ?hn ?hr ?_; (case ho => rfl); (case hg => rfl); (case hn => rfl); (case hr => first | (go_simp; done) | (go_simp; rfl)); intro w17 hw; have hg : w15.grownBy w17 (some go5) := (by rw [hw]; exact HP16.2); have hp_ : Kd.R (Kd.int .u8) 5 w17 w0.heap.size (fun k_ => (P0_ k_ ∨ w.heap.size ≤ k_)) (.slice (some ⟨go5, 0, none⟩) l0.length co11) y135 := (by rw [hw, Ny135.out]; exact HP16.1); clear HP16; have n0_ := Aside0.mk (hp_); have n1_ := Aside0.mk ((by rw [hw]; exact below_set (HB.out) GB5.out : Below w0.heap.size w0 w17)); have n2_ := Aside0.mk (Kept.of_grown (S := (fun k_ => P0_ k_)) hg (by repeat (first | (with_reducible first | exact HK.out | apply Kept.alloc | apply Kept.drewN | apply Kept.drew) | exact HK.out)) (fun k_ e_ => (HO0.out.1 k_ e_))); clear HO0; clear HB; clear HK; have HO0 := n0_; have HB := n1_; have HK := n2_; clear n0_ n1_ n2_; clear hg hw hp_; have p10 : 0 ≤ (3 : Int) := (by omega); have q10 : (3 : Int) < ((l0.length : Int) : Int) := of_decide_eq_true (by first | (with_reducible assumption) | assumption); have qi10 : (3 < l0.length) = True := eq_true (by omega); obtain ⟨hx10_0, hf10_0⟩ := Kd.R_celln 0 HO0.out (3 : Int) p10 q10; (try rw [show ((3 : Int)).toNat = 3 from rfl] at hx10_0); (try simp only [Nat.reduceMul, Nat.zero_mul, Nat.zero_add, Nat.reduceAdd] at hx10_0); (try rw [show ((3 : Int)).toNat = 3 from rfl] at hf10_0); (try simp only [Nat.reduceMul, Nat.zero_mul, Nat.zero_add, Nat.reduceAdd] at hf10_0); replace p10 := eq_true p10; replace q10 := eq_true q10; obtain ⟨hy18_, hz18_⟩ := Kd.R_celln 0 HO0.out (3 : Int) (by omega) (of_decide_eq_true (by first | (with_reducible assumption) | assumption)); (try simp only [Int.reduceToNat, Int.toNat_zero, Int.toNat_ofNat, Nat.reduceMul, Nat.zero_mul, Nat.zero_add] at hy18_ hz18_); (try rw [show ((3 : Int)).toNat = 3 from rfl] at hy18_); (try rw [show ((3 : Int)).toNat = 3 from rfl] at hz18_); have HP18 := Kd.R_putg HO0.out (3 : Int) ((a1) % 256)) | ((with_reducible refine gate_store (t := 5) (p := 25) rfl ?_); refine store_event (t := 5) (p := 25) (v := ?vo_w19) (w1 := (w17.setCell ⟨go5, (3 : Int).toNat, none⟩ (.int .u8 ((a1) % 256)))) ?hg ?ho ?hn ?hr ?_; (case ho => rfl); (case hg => rfl); (case hn => rfl); (case hr => first | (go_simp; done) | (go_simp; rfl)); intro w19 hw; have hg : w17.grownBy w19 (some go5) := (by rw [hw]; exact HP18.2); have hp_ : Kd.R (Kd.int .u8) 5 w19 w0.heap.size (fun k_ => (P0_ k_ ∨ w.heap.size ≤ k_)) (.slice (some ⟨go5, 0, none⟩) l0.length co11) y136 := (by rw [hw, Ny136.out]; exact HP18.1); clear HP18; have n0_ := Aside0.mk (hp_); have n1_ := Aside0.mk ((by rw [hw]; exact below_set (HB.out) GB5.out : Below w0.heap.size w0 w19)); have n2_ := Aside0.mk (Kept.of_grown (S := (fun k_ => P0_ k_)) hg (by repeat (first | (with_reducible first | exact HK.out | apply Kept.alloc | apply Kept.drewN | apply Kept.drew) | exact HK.out)) (fun k_ e_ => (HO0.out.1 k_ e_))); clear HO0; clear HB; clear HK; have HO0 := n0_; have HB := n1_; have HK := n2_; clear n0_ n1_ n2_; clear hg hw hp_))
          first | go_end0 | ((try simp only [Exit.inBlock, Exit.then]); refine bodyPost_ret (results_none rfl _ _ _) rfl ?_)
          exact ⟨by first | rfl | (simp [errW_none, errW_some] <;> rfl) | (simp [*, errW_none, errW_some] <;> rfl), by (with_reducible repeat (first | apply Kd.R_alloc | apply Kd.R_drewN | apply Kd.R_drew)); exact HO0.out, by repeat (first | (with_reducible first | exact HB.out | apply below_alloc | apply pw_below_drewN | apply below_drew1) | exact HB.out), by repeat (first | (with_reducible first | exact HK.out | apply Kept.alloc | apply Kept.drewN | apply Kept.drew) | exact HK.out)⟩
        · rw [if_neg c8] at H
          exact absurd H (by simp)
      · rw [if_neg c6] at H
        exact absurd H (by simp)
    · rw [if_neg c4] at H
      exact absurd H (by simp)
  · rw [if_neg c3] at H
    exact absurd H (by simp)

-- NOT PRINTED: function 21 (base64_Encoding_Decode)

-- NOT PRINTED: function 22 (tdparse_DecodeURL)

-- NOT PRINTED: function 11 (tdparse_DataURI)

/-! ### impl_own: function 12 -/
def impl_own.f (l0 : List Int) : Option (List Int) := (some (([] : List Int) : List Int)).bind fun y167 => (if y167.length + l0.length < 140737488355328 then (some (y167 ++ l0)) else (none))
set_option maxHeartbeats 8000000 in
set_option maxRecDepth 100000 in
theorem impl_own.calls (A0 : Option Addr) (c0 : Nat) (l0 : List Int) (r : List Int) (w : World) (hr0 : Kd.C (Kd.int .u8) w A0 l0.length l0) (hc0 : l0.length ≤ c0) (h : impl_own.f l0 = some r) :
    Calls Tryd.prog 12 #[.slice A0 l0.length c0] w fun e w' => ∃ v0_ : Value, e = .returned (v0_) ∧ Kd.R (Kd.int .u8) 5 w' w.heap.size (fun _ => True) v0_ r ∧ Below w.heap.size w w' := by
  have HR0 := Aside0.mk hr0
  have HC0 := Aside0.mk hc0
  clear hr0 hc0
  have HB := Aside0.mk (Below.refl w.heap.size w)
  have H : ((some (([] : List Int) : List Int)).bind fun y167 => (if y167.length + l0.length < 140737488355328 then (some (y167 ++ l0)) else (none))) = some r := h
  clear h
  obtain ⟨y167, hy167⟩ : ∃ y_ : List Int, y_ = (([] : List Int)) := ⟨_, rfl⟩
  replace H : (if y167.length + l0.length < 140737488355328 then (some (y167 ++ l0)) else (none)) = some r := by first | (rw [hy167]; with_reducible exact H) | (have H2_ := (Option.bind_some _ _).symm.trans H; rw [hy167]; with_reducible exact H2_) | (have H2_ := (Option.bind_some _ _).symm.trans H; with_reducible exact H2_) | with_reducible exact H | (rw [hy167]; exact H) | exact H
  have Ny167 := Aside0.mk hy167
  clear hy167
  by_cases c2 : y167.length + l0.length < 140737488355328
  · rw [if_pos c2] at H
    have LMc2 := Aside0.mk c2
    clear c2
    obtain ⟨y170, hy170⟩ : ∃ y_ : List Int, y_ = (y167 ++ l0) := ⟨_, rfl⟩
    replace H : (some y170) = some r := by first | (rw [hy170]; with_reducible exact H) | (have H2_ := (Option.bind_some _ _).symm.trans H; rw [hy170]; with_reducible exact H2_) | (have H2_ := (Option.bind_some _ _).symm.trans H; with_reducible exact H2_) | with_reducible exact H | (rw [hy170]; exact H) | exact H
    have Ny170 := Aside0.mk hy170
    clear hy170
    obtain rfl := Option.some.inj H
    go_enter Tryd.func12, Tryd.ntmps12
    go_wp2_with (first | ((with_reducible refine gate_dst (N := 3) rfl ?_); refine Kd.R_lit (Kd.int .u8) _ 5 ?hg (N := 3) ?hd (xs := ([] : List Int)) (inner := []) (ok := fun _ => True) (okp := fun _ => True) ?hr ?hp (fun _ hk => hk) trivial (Below.refl _ _) (Nat.le_refl _) (by simp) ?_; (case hd => rfl); (case hg => rfl); (case hr => first | (go_simp; done) | (go_simp; rfl)); (case hp => exact (Reps.none _ _)); intro v168 w3 ho4 hb hg_ hnew_; clear hg_ hnew_; (first | rw [← Ny167.out] at ho4 | (simp only [Int.reduceToNat] at ho4; rw [← Ny167.out] at ho4)); have n0_ := Aside0.mk (Kd.R_lower ho4 (below_size (by repeat (first | (with_reducible first | exact HB.out | apply below_alloc | apply pw_below_drewN | apply below_drew1) | exact HB.out)))); have n1_ := Aside0.mk (below_step (by repeat (first | (with_reducible first | exact HB.out | apply below_alloc | apply pw_below_drewN | apply below_drew1) | exact HB.out)) hb); clear HB; have HO169 := n0_; have HB := n1_; clear n0_ n1_; clear hb ho4) | ((with_reducible refine gate_builtin (b := .append) (xs := #[.tmp 3, .tmp 4]) rfl ?_); at_builtin; refine Kd.R_append_rows (Kd.int .u8) (w0 := w) w.heap.size rfl (.tmp 3) (.tmp 4) 22 5 (.int .u8 0) 1 rfl Tryd.underlying22 info5 rfl (by decide) (by omega) v168 y167 l0 _ _ _ (fun _ => True) (fun _ => False) rfl rfl ?aO ?aR (fun _ _ h => h) (fun _ h => h.elim) ?aF ?aB ?aS ?aL ?_; (case aR => repeat (first | exact (Kd.C_below HR0.out HB.out) | (with_reducible refine Kd.C_alloc ?_ _) | (with_reducible refine Kd.C_drewN ?_ _) | (with_reducible refine Kd.C_drew ?_))); (case aB => exact (by repeat (first | (with_reducible first | exact HB.out | apply below_alloc | apply pw_below_drewN | apply below_drew1) | exact HB.out))); (case aF => exact (fun _ _ => trivial)); (case aO => exact (by (with_reducible repeat (first | apply Kd.R_alloc | apply Kd.R_drewN | apply Kd.R_drew)); exact HO169.out)); (case aS => exact (below_size (by repeat (first | (with_reducible first | exact HB.out | apply below_alloc | apply pw_below_drewN | apply below_drew1) | exact HB.out)))); (case aL => have := LMc2.out; omega); intro v171 w5 ho hb hg hat; rw [← Ny170.out] at ho; have n0_ := Aside0.mk (hb); have n1_ := Aside0.mk (ho); clear HB; clear HO169; have HB := n0_; have HO172 := n1_; clear n0_ n1_; clear ho hb hg hat))
    go_ret
    exact ⟨_, by first | rfl | (simp [errW_none, errW_some] <;> rfl) | (simp [*, errW_none, errW_some] <;> rfl), by (with_reducible repeat (first | apply Kd.R_alloc | apply Kd.R_drewN | apply Kd.R_drew)); exact HO172.out, by repeat (first | (with_reducible first | exact HB.out | apply below_alloc | apply pw_below_drewN | apply below_drew1) | exact HB.out)⟩
  · rw [if_neg c2] at H
    exact absurd H (by simp)

-- impl_DataURI: by hand (CDataP)

/-! ### spec_IsToken: function 13 -/
def spec_IsToken.l0 : Nat → ByteArray → Int → Int → Option (Bool)
  | 0, _, _, _ => none
  | k + 1, x0, x7, x8 => if x8 < x7 then (if 0 ≤ x8 then (if x8 < (x0.size : Int) then (if (bt x0 x8) ≥ 97 then (if ((bt x0 x8) ≤ 122) then (spec_IsToken.l0 k x0 x7 (wrap64 (x8 + 1))) else (if x8 = 0 then (some false) else (if (bt x0 x8) = 45 then (spec_IsToken.l0 k x0 x7 (wrap64 (x8 + 1))) else (if (bt x0 x8) < 48 then (some false) else (if (bt x0 x8) > 57 then (some false) else (spec_IsToken.l0 k x0 x7 (wrap64 (x8 + 1)))))))) else (if x8 = 0 then (some false) else (if (bt x0 x8) = 45 then (spec_IsToken.l0 k x0 x7 (wrap64 (x8 + 1))) else (if (bt x0 x8) < 48 then (some false) else (if (bt x0 x8) > 57 then (some false) else (spec_IsToken.l0 k x0 x7 (wrap64 (x8 + 1)))))))) else (none)) else (none)) else (if (x0.size : Int) ≥ 1 then (some (decide ((x0.size : Int) ≤ 20))) else (some false))
def spec_IsToken.f (k : Nat) (a0 : ByteArray) : Option (Bool) := spec_IsToken.l0 k a0 (a0.size : Int) 0
theorem spec_IsToken.mono_l : ∀ k, (∀ y0 y1 y2, LeO (spec_IsToken.l0 k y0 y1 y2) (spec_IsToken.l0 (k + 1) y0 y1 y2))
  | 0 => fun _ _ _ r h => by simp [spec_IsToken.l0] at h
  | k + 1 => by
    have ih0 := spec_IsToken.mono_l k
    · intro y0 y1 y2
      unfold spec_IsToken.l0
      repeat' first
      | (with_reducible exact ih0 _ _ _)
      | (with_reducible exact LeO.refl _)
      | (with_reducible exact LeO.none _)
      | (with_reducible refine LeO.ite ?_ ?_)
      | (with_reducible refine LeO.bind ?_ (fun _ => ?_))
      | exact ih0 _ _ _
      | exact LeO.none _
      | refine LeO.ite ?_ ?_
      | refine LeO.bind ?_ (fun _ => ?_)
theorem spec_IsToken.mono : ∀ a0 k, LeO (spec_IsToken.f k a0) (spec_IsToken.f (k + 1) a0) := by
  intro a0 k
  have ih0 := spec_IsToken.mono_l k
  unfold spec_IsToken.f
  repeat' first
      | (with_reducible exact ih0 _ _ _)
      | (with_reducible exact LeO.refl _)
      | (with_reducible exact LeO.none _)
      | (with_reducible refine LeO.ite ?_ ?_)
      | (with_reducible refine LeO.bind ?_ (fun _ => ?_))
      | exact ih0 _ _ _
      | exact LeO.none _
      | refine LeO.ite ?_ ?_
      | refine LeO.bind ?_ (fun _ => ?_)
set_option maxHeartbeats 8000000 in
set_option maxRecDepth 100000 in
theorem spec_IsToken.calls (k : Nat) (a0 : ByteArray) (r : Bool) (w : World) (h : spec_IsToken.f k a0 = some r) :
    Calls Tryd.prog 13 #[.string a0] w fun e w' => e = .returned (.bool r) ∧ Drawn0 w w' := by
  have H : (spec_IsToken.l0 k a0 (a0.size : Int) 0) = some r := h
  clear h
  have H' := Aside0.mk H
  clear H
  go_enter Tryd.func13, Tryd.ntmps13
  go_wp2
  go_loopg [8] k (fun kq v8 w' => ∃ (x8_1 : Int), v8 = .int .i64 x8_1 ∧ Aside0 (spec_IsToken.l0 kq a0 (a0.size : Int) x8_1 = some r) ∧ Aside0 (kq ≤ k) ∧ Drawn0 w w')
  case atStart => exact ⟨(0), (by first | rfl | (simp; done) | (simp [*]; done)), H', ⟨Nat.le_refl _⟩, by repeat (first | exact Drawn0.refl _ | apply Drawn0.step)⟩
  case round =>
    clear H'
    try clear c1
    obtain ⟨x8_1, rfl, HA, HK1, ⟨m1, rfl⟩⟩ := hrel
    cases gk with
    | zero => exact absurd HA.out (by simp [spec_IsToken.l0])
    | succ k1 =>
      have H := HA.out
      clear HA
      simp only [spec_IsToken.l0] at H
      by_cases c2 : x8_1 < (a0.size : Int)
      · rw [if_pos c2] at H
        have c2b0 : decide (x8_1 < (a0.size : Int)) = true := decide_eq_true c2
        clear c2
        by_cases c3 : 0 ≤ x8_1
        · rw [if_pos c3] at H
          have c3b0 : decide (0 ≤ x8_1) = true := decide_eq_true c3
          clear c3
          by_cases c4 : x8_1 < (a0.size : Int)
          · rw [if_pos c4] at H
            have c4b0 : decide (x8_1 < (a0.size : Int)) = true := decide_eq_true c4
            clear c4
            by_cases c6 : (bt a0 x8_1) ≥ 97
            · rw [if_pos c6] at H
              have c6b0 : decide (97 ≤ (bt a0 x8_1)) = true := decide_eq_true c6
              clear c6
              by_cases c7 : ((bt a0 x8_1) ≤ 122)
              · rw [if_pos c7] at H
                have c7b0 : decide ((bt a0 x8_1) ≤ 122) = true := decide_eq_true c7
                clear c7
                have H' := Aside0.mk H
                clear H
                have p5 : 0 ≤ (x8_1 : Int) := of_decide_eq_true (by first | (with_reducible assumption) | assumption)
                have q5 : x8_1 < (a0.size : Int) := of_decide_eq_true (by first | (with_reducible assumption) | assumption)
                have hx5 := bt_at a0 x8_1
                replace p5 := eq_true p5
                replace q5 := eq_true q5
                go_wp2
                go_roundg k1
                case measure => have := HK1.out; omega
                case rel => exact ⟨(wrap64 (x8_1 + 1)), (by first | rfl | (simp; done) | (simp [*]; done)), H', ⟨by have := HK1.out; omega⟩, by repeat (first | exact Drawn0.refl _ | apply Drawn0.step)⟩
              · rw [if_neg c7] at H
                have c7b0 : decide ((bt a0 x8_1) ≤ 122) = false := decide_eq_false c7
                clear c7
                by_cases c8 : x8_1 = 0
                · rw [if_pos c8] at H
                  have c8b0 : (x8_1 == 0) = true := beq_iff_eq.mpr c8
                  have c8b1 : (x8_1 != 0) = false := bne_eq_false_iff_eq.mpr c8
                  clear c8
                  obtain rfl := Option.some.inj H
                  have p5 : 0 ≤ (x8_1 : Int) := of_decide_eq_true (by first | (with_reducible assumption) | assumption)
                  have q5 : x8_1 < (a0.size : Int) := of_decide_eq_true (by first | (with_reducible assumption) | assumption)
                  have hx5 := bt_at a0 x8_1
                  replace p5 := eq_true p5
                  replace q5 := eq_true q5
                  go_wp2
                  go_ret
                  exact ⟨by first | rfl | (simp; done) | (simp [*]; done), by repeat (first | exact Drawn0.refl _ | apply Drawn0.step)⟩
                · rw [if_neg c8] at H
                  have c8b0 : (x8_1 == 0) = false := beq_eq_false_iff_ne.mpr c8
                  have c8b1 : (x8_1 != 0) = true := bne_iff_ne.mpr c8
                  by_cases c9 : (bt a0 x8_1) = 45
                  · rw [if_pos c9] at H
                    have c9b0 : ((bt a0 x8_1) == 45) = true := beq_iff_eq.mpr c9
                    have c9b1 : ((bt a0 x8_1) != 45) = false := bne_eq_false_iff_eq.mpr c9
                    clear c9
                    have H' := Aside0.mk H
                    clear H
                    have p5 : 0 ≤ (x8_1 : Int) := of_decide_eq_true (by first | (with_reducible assumption) | assumption)
                    have q5 : x8_1 < (a0.size : Int) := of_decide_eq_true (by first | (with_reducible assumption) | assumption)
                    have hx5 := bt_at a0 x8_1
                    replace p5 := eq_true p5
                    replace q5 := eq_true q5
                    go_wp2
                    go_roundg k1
                    case measure => have := HK1.out; omega
                    case rel => exact ⟨(wrap64 (x8_1 + 1)), (by first | rfl | (simp; done) | (simp [*]; done)), H', ⟨by have := HK1.out; omega⟩, by repeat (first | exact Drawn0.refl _ | apply Drawn0.step)⟩
                  · rw [if_neg c9] at H
                    have c9b0 : ((bt a0 x8_1) == 45) = false := beq_eq_false_iff_ne.mpr c9
                    have c9b1 : ((bt a0 x8_1) != 45) = true := bne_iff_ne.mpr c9
                    by_cases c10 : (bt a0 x8_1) < 48
                    · rw [if_pos c10] at H
                      have c10b0 : decide ((bt a0 x8_1) < 48) = true := decide_eq_true c10
                      clear c10
                      obtain rfl := Option.some.inj H
                      have p5 : 0 ≤ (x8_1 : Int) := of_decide_eq_true (by first | (with_reducible assumption) | assumption)
                      have q5 : x8_1 < (a0.size : Int) := of_decide_eq_true (by first | (with_reducible assumption) | assumption)
                      have hx5 := bt_at a0 x8_1
                      replace p5 := eq_true p5
                      replace q5 := eq_true q5
                      go_wp2
                      go_ret
                      exact ⟨by first | rfl | (simp; done) | (simp [*]; done), by repeat (first | exact Drawn0.refl _ | apply Drawn0.step)⟩
                    · rw [if_neg c10] at H
                      have c10b0 : decide ((bt a0 x8_1) < 48) = false := decide_eq_false c10
                      clear c10
                      by_cases c11 : (bt a0 x8_1) > 57
                      · rw [if_pos c11] at H
                        have c11b0 : decide (57 < (bt a0 x8_1)) = true := decide_eq_true c11
                        clear c11
                        obtain rfl := Option.some.inj H
                        have p5 : 0 ≤ (x8_1 : Int) := of_decide_eq_true (by first | (with_reducible assumption) | assumption)
                        have q5 : x8_1 < (a0.size : Int) := of_decide_eq_true (by first | (with_reducible assumption) | assumption)
                        have hx5 := bt_at a0 x8_1
                        replace p5 := eq_true p5
                        replace q5 := eq_true q5
                        go_wp2
                        go_ret
                        exact ⟨by first | rfl | (simp; done) | (simp [*]; done), by repeat (first | exact Drawn0.refl _ | apply Drawn0.step)⟩
                      · rw [if_neg c11] at H
                        have c11b0 : decide (57 < (bt a0 x8_1)) = false := decide_eq_false c11
                        clear c11
                        have H' := Aside0.mk H
                        clear H
                        have p5 : 0 ≤ (x8_1 : Int) := of_decide_eq_true (by first | (with_reducible assumption) | assumption)
                        have q5 : x8_1 < (a0.size : Int) := of_decide_eq_true (by first | (with_reducible assumption) | assumption)
                        have hx5 := bt_at a0 x8_1
                        replace p5 := eq_true p5
                        replace q5 := eq_true q5
                        go_wp2
                        go_roundg k1
                        case measure => have := HK1.out; omega
                        case rel => exact ⟨(wrap64 (x8_1 + 1)), (by first | rfl | (simp; done) | (simp [*]; done)), H', ⟨by have := HK1.out; omega⟩, by repeat (first | exact Drawn0.refl _ | apply Drawn0.step)⟩
            · rw [if_neg c6] at H
              have c6b0 : decide (97 ≤ (bt a0 x8_1)) = false := decide_eq_false c6
              clear c6
              by_cases c12 : x8_1 = 0
              · rw [if_pos c12] at H
                have c12b0 : (x8_1 == 0) = true := beq_iff_eq.mpr c12
                have c12b1 : (x8_1 != 0) = false := bne_eq_false_iff_eq.mpr c12
                clear c12
                obtain rfl := Option.some.inj H
                have p5 : 0 ≤ (x8_1 : Int) := of_decide_eq_true (by first | (with_reducible assumption) | assumption)
                have q5 : x8_1 < (a0.size : Int) := of_decide_eq_true (by first | (with_reducible assumption) | assumption)
                have hx5 := bt_at a0 x8_1
                replace p5 := eq_true p5
                replace q5 := eq_true q5
                go_wp2
                go_ret
                exact ⟨by first | rfl | (simp; done) | (simp [*]; done), by repeat (first | exact Drawn0.refl _ | apply Drawn0.step)⟩
              · rw [if_neg c12] at H
                have c12b0 : (x8_1 == 0) = false := beq_eq_false_iff_ne.mpr c12
                have c12b1 : (x8_1 != 0) = true := bne_iff_ne.mpr c12
                by_cases c13 : (bt a0 x8_1) = 45
                · rw [if_pos c13] at H
                  have c13b0 : ((bt a0 x8_1) == 45) = true := beq_iff_eq.mpr c13
                  have c13b1 : ((bt a0 x8_1) != 45) = false := bne_eq_false_iff_eq.mpr c13
                  clear c13
                  have H' := Aside0.mk H
                  clear H
                  have p5 : 0 ≤ (x8_1 : Int) := of_decide_eq_true (by first | (with_reducible assumption) | assumption)
                  have q5 : x8_1 < (a0.size : Int) := of_decide_eq_true (by first | (with_reducible assumption) | assumption)
                  have hx5 := bt_at a0 x8_1
                  replace p5 := eq_true p5
                  replace q5 := eq_true q5
                  go_wp2
                  go_roundg k1
                  case measure => have := HK1.out; omega
                  case rel => exact ⟨(wrap64 (x8_1 + 1)), (by first | rfl | (simp; done) | (simp [*]; done)), H', ⟨by have := HK1.out; omega⟩, by repeat (first | exact Drawn0.refl _ | apply Drawn0.step)⟩
                · rw [if_neg c13] at H
                  have c13b0 : ((bt a0 x8_1) == 45) = false := beq_eq_false_iff_ne.mpr c13
                  have c13b1 : ((bt a0 x8_1) != 45) = true := bne_iff_ne.mpr c13
                  by_cases c14 : (bt a0 x8_1) < 48
                  · rw [if_pos c14] at H
                    have c14b0 : decide ((bt a0 x8_1) < 48) = true := decide_eq_true c14
                    clear c14
                    obtain rfl := Option.some.inj H
                    have p5 : 0 ≤ (x8_1 : Int) := of_decide_eq_true (by first | (with_reducible assumption) | assumption)
                    have q5 : x8_1 < (a0.size : Int) := of_decide_eq_true (by first | (with_reducible assumption) | assumption)
                    have hx5 := bt_at a0 x8_1
                    replace p5 := eq_true p5
                    replace q5 := eq_true q5
                    go_wp2
                    go_ret
                    exact ⟨by first | rfl | (simp; done) | (simp [*]; done), by repeat (first | exact Drawn0.refl _ | apply Drawn0.step)⟩
                  · rw [if_neg c14] at H
                    have c14b0 : decide ((bt a0 x8_1) < 48) = false := decide_eq_false c14
                    clear c14
                    by_cases c15 : (bt a0 x8_1) > 57
                    · rw [if_pos c15] at H
                      have c15b0 : decide (57 < (bt a0 x8_1)) = true := decide_eq_true c15
                      clear c15
                      obtain rfl := Option.some.inj H
                      have p5 : 0 ≤ (x8_1 : Int) := of_decide_eq_true (by first | (with_reducible assumption) | assumption)
                      have q5 : x8_1 < (a0.size : Int) := of_decide_eq_true (by first | (with_reducible assumption) | assumption)
                      have hx5 := bt_at a0 x8_1
                      replace p5 := eq_true p5
                      replace q5 := eq_true q5
                      go_wp2
                      go_ret
                      exact ⟨by first | rfl | (simp; done) | (simp [*]; done), by repeat (first | exact Drawn0.refl _ | apply Drawn0.step)⟩
                    · rw [if_neg c15] at H
                      have c15b0 : decide (57 < (bt a0 x8_1)) = false := decide_eq_false c15
                      clear c15
                      have H' := Aside0.mk H
                      clear H
                      have p5 : 0 ≤ (x8_1 : Int) := of_decide_eq_true (by first | (with_reducible assumption) | assumption)
                      have q5 : x8_1 < (a0.size : Int) := of_decide_eq_true (by first | (with_reducible assumption) | assumption)
                      have hx5 := bt_at a0 x8_1
                      replace p5 := eq_true p5
                      replace q5 := eq_true q5
                      go_wp2
                      go_roundg k1
                      case measure => have := HK1.out; omega
                      case rel => exact ⟨(wrap64 (x8_1 + 1)), (by first | rfl | (simp; done) | (simp [*]; done)), H', ⟨by have := HK1.out; omega⟩, by repeat (first | exact Drawn0.refl _ | apply Drawn0.step)⟩
          · rw [if_neg c4] at H
            exact absurd H (by simp)
        · rw [if_neg c3] at H
          exact absurd H (by simp)
      · rw [if_neg c2] at H
        have c2b0 : decide (x8_1 < (a0.size : Int)) = false := decide_eq_false c2
        clear c2
        by_cases c16 : (a0.size : Int) ≥ 1
        · rw [if_pos c16] at H
          have c16b0 : decide (1 ≤ (a0.size : Int)) = true := decide_eq_true c16
          have c16b1 : decide (1 ≤ a0.size) = true := decide_eq_true (by omega)
          clear c16
          obtain rfl := Option.some.inj H
          go_wp2
          go_ret
          exact ⟨by first | rfl | (simp; done) | (simp [*]; done), by repeat (first | exact Drawn0.refl _ | apply Drawn0.step)⟩
        · rw [if_neg c16] at H
          have c16b0 : decide (1 ≤ (a0.size : Int)) = false := decide_eq_false c16
          have c16b1 : decide (1 ≤ a0.size) = false := decide_eq_false (by omega)
          clear c16
          obtain rfl := Option.some.inj H
          go_wp2
          go_ret
          exact ⟨by first | rfl | (simp; done) | (simp [*]; done), by repeat (first | exact Drawn0.refl _ | apply Drawn0.step)⟩

/-! ### laws_mediaOk: function 7 -/
def laws_mediaOk.f (k : Nat) (a0 : ByteArray) (a1 : ByteArray) : Option (Bool) := (spec_IsToken.f k a0).bind fun t173 => (if t173 = true then ((spec_IsToken.f k a1).bind fun t174 => (some t174)) else (some false))
theorem laws_mediaOk.mono : ∀ a0 a1 k, LeO (laws_mediaOk.f k a0 a1) (laws_mediaOk.f (k + 1) a0 a1) := by
  intro a0 a1 k
  unfold laws_mediaOk.f
  repeat' first
      | (with_reducible exact spec_IsToken.mono _ _)
      | (with_reducible exact LeO.refl _)
      | (with_reducible exact LeO.none _)
      | (with_reducible refine LeO.ite ?_ ?_)
      | (with_reducible refine LeO.bind ?_ (fun _ => ?_))
      | exact spec_IsToken.mono _ _
      | exact LeO.none _
      | refine LeO.ite ?_ ?_
      | refine LeO.bind ?_ (fun _ => ?_)
set_option maxHeartbeats 8000000 in
set_option maxRecDepth 100000 in
theorem laws_mediaOk.calls (k : Nat) (a0 : ByteArray) (a1 : ByteArray) (r : Bool) (w : World) (h : laws_mediaOk.f k a0 a1 = some r) :
    Calls Tryd.prog 7 #[.string a0, .string a1] w fun e w' => e = .returned (.bool r) ∧ Drawn0 w w' := by
  have H : ((spec_IsToken.f k a0).bind fun t173 => (if t173 = true then ((spec_IsToken.f k a1).bind fun t174 => (some t174)) else (some false))) = some r := h
  clear h
  replace H := Option.bind_eq_some_iff.mp H
  obtain ⟨t173, A30, H⟩ := H
  replace H : (if t173 = true then ((spec_IsToken.f k a1).bind fun t174 => (some t174)) else (some false)) = some r := H
  have A3 := Aside0.mk A30
  clear A30
  by_cases c4 : t173 = true
  · subst c4
    have H1 : ((spec_IsToken.f k a1).bind fun t174 => (some t174)) = some r := by rw [if_pos rfl] at H; exact H
    clear H
    have H := H1
    clear H1
    replace H := Option.bind_eq_some_iff.mp H
    obtain ⟨t174, A50, H⟩ := H
    replace H : (some t174) = some r := H
    have A5 := Aside0.mk A50
    clear A50
    obtain rfl := Option.some.inj H
    go_enter Tryd.func7, Tryd.ntmps7
    go_wp2_with (first | ((with_reducible refine gate_callee (f := 13) rfl ?_); refine goesL_ (some 6) rfl rfl Tryd.func13 (by kernel_rfl) rfl #[.string a0] rfl (by (try simp only [List.map_toArray, List.map_cons, List.map_nil]); first | done | rfl | (simp only [List.length_drop, List.length_take]; rfl)) ?_; (with_reducible refine (spec_IsToken.calls k a0 true _ A3.out).mono ?_); rintro e w' ⟨rfl, ⟨nd, rfl⟩⟩; refine ⟨_, rfl, ?_⟩) | (go_at_call 13; (with_reducible refine (spec_IsToken.calls k a1 t174 _ A5.out).mono ?_); rintro e w' ⟨rfl, ⟨nd, rfl⟩⟩))
    go_ret
    exact ⟨by first | rfl | (simp; done) | (simp [*]; done), by repeat (first | exact Drawn0.refl _ | apply Drawn0.step)⟩
  · replace c4 := Bool.eq_false_iff.mpr c4
    subst c4
    have H1 : (some false) = some r := by rw [if_neg (show ¬ (false = true) by decide)] at H; exact H
    clear H
    have H := H1
    clear H1
    obtain rfl := Option.some.inj H
    go_enter Tryd.func7, Tryd.ntmps7
    go_wp2_with (first | ((with_reducible refine gate_callee (f := 13) rfl ?_); refine goesL_ (some 6) rfl rfl Tryd.func13 (by kernel_rfl) rfl #[.string a0] rfl (by (try simp only [List.map_toArray, List.map_cons, List.map_nil]); first | done | rfl | (simp only [List.length_drop, List.length_take]; rfl)) ?_; (with_reducible refine (spec_IsToken.calls k a0 false _ A3.out).mono ?_); rintro e w' ⟨rfl, ⟨nd, rfl⟩⟩; refine ⟨_, rfl, ?_⟩))
    go_ret
    exact ⟨by first | rfl | (simp; done) | (simp [*]; done), by repeat (first | exact Drawn0.refl _ | apply Drawn0.step)⟩

end Go.Proofs.YthejmpldfndbfaaDoor.PFnUrlData
