-- Laid by a program of this session, out of the translation's print.
import Derived.Test.YthejmpldfndbfaaDoorPFnUrlDatax0
import Derived.Test.YthejmpldfndbfaaDoorPFnUrlDatax1
namespace Go.Proofs.YthejmpldfndbfaaDoor.PFnUrlData
open Go.Proofs.YthejmpldfndbfaaDoor.Own
open Go.RowKit Go.Proofs.YthejmpldfndbfaaDoorW.PrintWords Go.Proofs.YthejmpldfndbfaaDoorW.PrintLast Go.Proofs.YthejmpldfndbfaaDoorW.PrintMore
attribute [local go_sem] max2_int min2_int max_two min_two max_three min_three max_four min_four   -- for this text's walks alone
set_option linter.unusedVariables false
set_option linter.unusedSimpArgs false

/-! ### spec_Join: function 8 -/
def spec_Join.l0 : Nat → List Int → List (List Int) → Int → Int → Option (List Int)
  | 0, _, _, _, _ => none
  | k + 1, x3, x7, x8, x9 => if x9 < x8 then (if 0 ≤ x9 then (if x9 < (x7.length : Int) then (if x3.length + (rd_L1 x7 x9).length < 140737488355328 then (spec_Join.l0 k (x3 ++ (rd_L1 x7 x9)) x7 x8 (wrap64 (x9 + 1))) else (none)) else (none)) else (none)) else (some x3)
def spec_Join.f (k : Nat) (l0 : List (List Int)) : Option (List Int) := spec_Join.l0 k (([] : List Int)) l0 (l0.length : Int) 0
theorem spec_Join.mono_l : ∀ k, (∀ y0 y1 y2 y3, LeO (spec_Join.l0 k y0 y1 y2 y3) (spec_Join.l0 (k + 1) y0 y1 y2 y3))
  | 0 => fun _ _ _ _ r h => by simp [spec_Join.l0] at h
  | k + 1 => by
    have ih0 := spec_Join.mono_l k
    · intro y0 y1 y2 y3
      unfold spec_Join.l0
      repeat' first
      | (with_reducible exact ih0 _ _ _ _)
      | (with_reducible exact LeO.refl _)
      | (with_reducible exact LeO.none _)
      | (with_reducible refine LeO.ite ?_ ?_)
      | (with_reducible refine LeO.bind ?_ (fun _ => ?_))
      | exact ih0 _ _ _ _
      | exact LeO.none _
      | refine LeO.ite ?_ ?_
      | refine LeO.bind ?_ (fun _ => ?_)
theorem spec_Join.mono : ∀ a0 k, LeO (spec_Join.f k a0) (spec_Join.f (k + 1) a0) := by
  intro a0 k
  have ih0 := spec_Join.mono_l k
  unfold spec_Join.f
  repeat' first
      | (with_reducible exact ih0 _ _ _ _)
      | (with_reducible exact LeO.refl _)
      | (with_reducible exact LeO.none _)
      | (with_reducible refine LeO.ite ?_ ?_)
      | (with_reducible refine LeO.bind ?_ (fun _ => ?_))
      | exact ih0 _ _ _ _
      | exact LeO.none _
      | refine LeO.ite ?_ ?_
      | refine LeO.bind ?_ (fun _ => ?_)
set_option maxHeartbeats 8000000 in
set_option maxRecDepth 100000 in
theorem spec_Join.calls (k : Nat) (A0 : Option Addr) (c0 : Nat) (l0 : List (List Int)) (r : List Int) (w : World) (hr0 : Kd.C (Kd.slice 5 (Kd.int .u8)) w A0 l0.length l0) (hc0 : l0.length ≤ c0) (h : spec_Join.f k l0 = some r) :
    Calls Tryd.prog 8 #[.slice A0 l0.length c0] w fun e w' => ∃ v0_ : Value, e = .returned (v0_) ∧ Kd.R (Kd.int .u8) 5 w' w.heap.size (fun _ => True) v0_ r ∧ Below w.heap.size w w' := by
  have HR0 := Aside0.mk hr0
  have HC0 := Aside0.mk hc0
  clear hr0 hc0
  have HB := Aside0.mk (Below.refl w.heap.size w)
  have H : (spec_Join.l0 k (([] : List Int)) l0 (l0.length : Int) 0) = some r := h
  clear h
  obtain ⟨y175, hy175⟩ : ∃ y_ : List Int, y_ = (([] : List Int)) := ⟨_, rfl⟩
  replace H : (spec_Join.l0 k y175 l0 (l0.length : Int) 0) = some r := by first | (rw [hy175]; with_reducible exact H) | (have H2_ := (Option.bind_some _ _).symm.trans H; rw [hy175]; with_reducible exact H2_) | (have H2_ := (Option.bind_some _ _).symm.trans H; with_reducible exact H2_) | with_reducible exact H | (rw [hy175]; exact H) | exact H
  have Ny175 := Aside0.mk hy175
  clear hy175
  have H' := Aside0.mk H
  clear H
  go_enter Tryd.func8, Tryd.ntmps8
  go_wp2_with (first | ((with_reducible refine gate_dst (N := 6) rfl ?_); refine Kd.R_lit (Kd.int .u8) _ 5 ?hg (N := 6) ?hd (xs := ([] : List Int)) (inner := []) (ok := fun _ => True) (okp := fun _ => True) ?hr ?hp (fun _ hk => hk) trivial (Below.refl _ _) (Nat.le_refl _) (by simp) ?_; (case hd => rfl); (case hg => rfl); (case hr => first | (go_simp; done) | (go_simp; rfl)); (case hp => exact (Reps.none _ _)); intro v176 w2 ho3 hb hg_ hnew_; clear hg_ hnew_; (first | rw [← Ny175.out] at ho3 | (simp only [Int.reduceToNat] at ho3; rw [← Ny175.out] at ho3)); have n0_ := Aside0.mk (Kd.R_lower ho3 (below_size (by repeat (first | (with_reducible first | exact HB.out | apply below_alloc | apply pw_below_drewN | apply below_drew1) | exact HB.out)))); have n1_ := Aside0.mk (below_step (by repeat (first | (with_reducible first | exact HB.out | apply below_alloc | apply pw_below_drewN | apply below_drew1) | exact HB.out)) hb); clear HB; have HO177 := n0_; have HB := n1_; clear n0_ n1_; clear hb ho3))
  go_loopg [3, 9] k (fun kq v3 v9 w' => ∃ (x3_1 : List Int) (x9_1 : Int), v9 = .int .i64 x9_1 ∧ Aside0 (spec_Join.l0 kq x3_1 l0 (l0.length : Int) x9_1 = some r) ∧ Aside0 (kq ≤ k) ∧ Aside0 (Kd.R (Kd.int .u8) 5 w' w.heap.size (fun _ => True) v3 x3_1) ∧ Aside0 (Below w.heap.size w w'))
  case atStart => exact ⟨(y175), (0), (by first | rfl | (simp; done) | (simp [*]; done)), H', ⟨Nat.le_refl _⟩, ⟨by (with_reducible repeat (first | apply Kd.R_alloc | apply Kd.R_drewN | apply Kd.R_drew)); exact HO177.out⟩, ⟨by repeat (first | (with_reducible first | exact HB.out | apply below_alloc | apply pw_below_drewN | apply below_drew1) | exact HB.out)⟩⟩
  case round =>
    clear H'
    try clear p2
    obtain ⟨x3_1, x9_1, rfl, HA, HK1, HO_3, HB⟩ := hrel
    cases gk with
    | zero => exact absurd HA.out (by simp [spec_Join.l0])
    | succ k1 =>
      have H := HA.out
      clear HA
      simp only [spec_Join.l0] at H
      by_cases c4 : x9_1 < (l0.length : Int)
      · rw [if_pos c4] at H
        have c4b0 : decide (x9_1 < (l0.length : Int)) = true := decide_eq_true c4
        clear c4
        by_cases c5 : 0 ≤ x9_1
        · rw [if_pos c5] at H
          have c5b0 : decide (0 ≤ x9_1) = true := decide_eq_true c5
          clear c5
          by_cases c6 : x9_1 < (l0.length : Int)
          · rw [if_pos c6] at H
            have c6b0 : decide (x9_1 < (l0.length : Int)) = true := decide_eq_true c6
            clear c6
            by_cases c7 : x3_1.length + (rd_L1 l0 x9_1).length < 140737488355328
            · rw [if_pos c7] at H
              have LMc7 := Aside0.mk c7
              clear c7
              obtain ⟨y179, hy179⟩ : ∃ y_ : List Int, y_ = (x3_1 ++ (rd_L1 l0 x9_1)) := ⟨_, rfl⟩
              replace H : (spec_Join.l0 k1 y179 l0 (l0.length : Int) (wrap64 (x9_1 + 1))) = some r := by first | (rw [hy179]; with_reducible exact H) | (have H2_ := (Option.bind_some _ _).symm.trans H; rw [hy179]; with_reducible exact H2_) | (have H2_ := (Option.bind_some _ _).symm.trans H; with_reducible exact H2_) | with_reducible exact H | (rw [hy179]; exact H) | exact H
              have Ny179 := Aside0.mk hy179
              clear hy179
              have H' := Aside0.mk H
              clear H
              have p178 : 0 ≤ (x9_1 : Int) := of_decide_eq_true (by first | (with_reducible assumption) | assumption)
              have q178 : x9_1 < (l0.length : Int) := of_decide_eq_true (by first | (with_reducible assumption) | assumption)
              obtain ⟨ad178, A178_0, c178_0, e178, hx178_0, hl178_0, hi178_0⟩ := at_L1 HR0.out x9_1 p178 q178
              cases e178
              replace hx178_0 := (HB.out.cell (World.block_lt_of_cell? w _ hx178_0)).trans hx178_0
              have HR178_0 := Aside0.mk hi178_0
              have HC178_0 := Aside0.mk hl178_0
              clear hi178_0 hl178_0
              replace p178 := eq_true p178
              replace q178 := eq_true q178
              go_wp2_with (first | ((with_reducible refine gate_builtin (b := .append) (xs := #[.tmp 13, .tmp 14]) rfl ?_); at_builtin; refine Kd.R_append_rows (Kd.int .u8) (w0 := w) w.heap.size rfl (.tmp 13) (.tmp 14) 22 5 (.int .u8 0) 1 rfl Tryd.underlying22 info5 rfl (by decide) (by omega) u3 x3_1 (rd_L1 l0 x9_1) _ _ _ (fun _ => True) (fun _ => False) rfl rfl ?aO ?aR (fun _ _ h => h) (fun _ h => h.elim) ?aF ?aB ?aS ?aL ?_; (case aR => repeat (first | exact (Kd.C_below HR178_0.out HB.out) | (with_reducible refine Kd.C_alloc ?_ _) | (with_reducible refine Kd.C_drewN ?_ _) | (with_reducible refine Kd.C_drew ?_))); (case aB => exact (by repeat (first | (with_reducible first | exact HB.out | apply below_alloc | apply pw_below_drewN | apply below_drew1) | exact HB.out))); (case aF => exact (fun _ _ => trivial)); (case aO => exact (by (with_reducible repeat (first | apply Kd.R_alloc | apply Kd.R_drewN | apply Kd.R_drew)); exact HO_3.out)); (case aS => exact (below_size (by repeat (first | (with_reducible first | exact HB.out | apply below_alloc | apply pw_below_drewN | apply below_drew1) | exact HB.out)))); (case aL => have := LMc7.out; omega); intro v180 w8 ho hb hg hat; rw [← Ny179.out] at ho; have n0_ := Aside0.mk (hb); have n1_ := Aside0.mk (ho); clear HB; clear HO_3; have HB := n0_; have HO181 := n1_; clear n0_ n1_; clear ho hb hg hat))
              go_roundg k1
              case measure => have := HK1.out; omega
              case rel => exact ⟨(y179), (wrap64 (x9_1 + 1)), (by first | rfl | (simp; done) | (simp [*]; done)), H', ⟨by have := HK1.out; omega⟩, ⟨by (with_reducible repeat (first | apply Kd.R_alloc | apply Kd.R_drewN | apply Kd.R_drew)); exact HO181.out⟩, ⟨by repeat (first | (with_reducible first | exact HB.out | apply below_alloc | apply pw_below_drewN | apply below_drew1) | exact HB.out)⟩⟩
            · rw [if_neg c7] at H
              exact absurd H (by simp)
          · rw [if_neg c6] at H
            exact absurd H (by simp)
        · rw [if_neg c5] at H
          exact absurd H (by simp)
      · rw [if_neg c4] at H
        have c4b0 : decide (x9_1 < (l0.length : Int)) = false := decide_eq_false c4
        clear c4
        obtain rfl := Option.some.inj H
        go_wp2
        go_ret
        exact ⟨_, by first | rfl | (simp [errW_none, errW_some] <;> rfl) | (simp [*, errW_none, errW_some] <;> rfl), by (with_reducible repeat (first | apply Kd.R_alloc | apply Kd.R_drewN | apply Kd.R_drew)); exact HO_3.out, by repeat (first | (with_reducible first | exact HB.out | apply below_alloc | apply pw_below_drewN | apply below_drew1) | exact HB.out)⟩

-- NOT PRINTED: function 14 (tdparse_EncodeURL)

-- impl_EncodeURL: by hand (CEncodeP)

/-! ### spec_SameBytes: function 10 -/
def spec_SameBytes.l0 : Nat → List Int → List Int → Int → Int → Option (Bool)
  | 0, _, _, _, _ => none
  | k + 1, x1, x12, x13, x14 => if x14 < x13 then (if 0 ≤ x14 then (if x14 < (x12.length : Int) then (if x14 < (x1.length : Int) then (if (rd x12 x14) = (rd x1 x14) then (spec_SameBytes.l0 k x1 x12 x13 (wrap64 (x14 + 1))) else (some false)) else (none)) else (none)) else (none)) else (some true)
def spec_SameBytes.f (k : Nat) (l0 : List Int) (l1 : List Int) : Option (Bool) := if (l0.length : Int) = (l1.length : Int) then (spec_SameBytes.l0 k l1 l0 (l0.length : Int) 0) else (some false)
theorem spec_SameBytes.mono_l : ∀ k, (∀ y0 y1 y2 y3, LeO (spec_SameBytes.l0 k y0 y1 y2 y3) (spec_SameBytes.l0 (k + 1) y0 y1 y2 y3))
  | 0 => fun _ _ _ _ r h => by simp [spec_SameBytes.l0] at h
  | k + 1 => by
    have ih0 := spec_SameBytes.mono_l k
    · intro y0 y1 y2 y3
      unfold spec_SameBytes.l0
      repeat' first
      | (with_reducible exact ih0 _ _ _ _)
      | (with_reducible exact LeO.refl _)
      | (with_reducible exact LeO.none _)
      | (with_reducible refine LeO.ite ?_ ?_)
      | (with_reducible refine LeO.bind ?_ (fun _ => ?_))
      | exact ih0 _ _ _ _
      | exact LeO.none _
      | refine LeO.ite ?_ ?_
      | refine LeO.bind ?_ (fun _ => ?_)
theorem spec_SameBytes.mono : ∀ a0 a1 k, LeO (spec_SameBytes.f k a0 a1) (spec_SameBytes.f (k + 1) a0 a1) := by
  intro a0 a1 k
  have ih0 := spec_SameBytes.mono_l k
  unfold spec_SameBytes.f
  repeat' first
      | (with_reducible exact ih0 _ _ _ _)
      | (with_reducible exact LeO.refl _)
      | (with_reducible exact LeO.none _)
      | (with_reducible refine LeO.ite ?_ ?_)
      | (with_reducible refine LeO.bind ?_ (fun _ => ?_))
      | exact ih0 _ _ _ _
      | exact LeO.none _
      | refine LeO.ite ?_ ?_
      | refine LeO.bind ?_ (fun _ => ?_)
set_option maxHeartbeats 8000000 in
set_option maxRecDepth 100000 in
theorem spec_SameBytes.calls (k : Nat) (A0 : Option Addr) (c0 : Nat) (l0 : List Int) (A1 : Option Addr) (c1 : Nat) (l1 : List Int) (r : Bool) (w : World) (hr0 : Kd.C (Kd.int .u8) w A0 l0.length l0) (hc0 : l0.length ≤ c0) (hr1 : Kd.C (Kd.int .u8) w A1 l1.length l1) (hc1 : l1.length ≤ c1) (h : spec_SameBytes.f k l0 l1 = some r) :
    Calls Tryd.prog 10 #[.slice A0 l0.length c0, .slice A1 l1.length c1] w fun e w' => e = .returned (.bool r) ∧ Drawn0 w w' := by
  have HR0 := Aside0.mk hr0
  have HC0 := Aside0.mk hc0
  clear hr0 hc0
  have HR1 := Aside0.mk hr1
  have HC1 := Aside0.mk hc1
  clear hr1 hc1
  have H : (if (l0.length : Int) = (l1.length : Int) then (spec_SameBytes.l0 k l1 l0 (l0.length : Int) 0) else (some false)) = some r := h
  clear h
  by_cases c3 : (l0.length : Int) = (l1.length : Int)
  · rw [if_pos c3] at H
    have c3b0 : ((l0.length : Int) == (l1.length : Int)) = true := beq_iff_eq.mpr c3
    have c3b1 : ((l0.length : Int) != (l1.length : Int)) = false := bne_eq_false_iff_eq.mpr c3
    have c3b2 : (l0.length == l1.length) = true := by first | simpa using c3 | (simp at c3 ⊢; omega)
    clear c3
    have H' := Aside0.mk H
    clear H
    go_enter Tryd.func10, Tryd.ntmps10
    go_wp2
    go_loopg [14] k (fun kq v14 w' => ∃ (x14_1 : Int), v14 = .int .i64 x14_1 ∧ Aside0 (spec_SameBytes.l0 kq l1 l0 (l0.length : Int) x14_1 = some r) ∧ Aside0 (kq ≤ k) ∧ Drawn0 w w')
    case atStart => exact ⟨(0), (by first | rfl | (simp; done) | (simp [*]; done)), H', ⟨Nat.le_refl _⟩, by repeat (first | exact Drawn0.refl _ | apply Drawn0.step)⟩
    case round =>
      clear H'
      try clear c1
      try clear p2
      try clear c3
      try clear c3b0
      try clear c3b1
      try clear c3b2
      obtain ⟨x14_1, rfl, HA, HK1, ⟨m1, rfl⟩⟩ := hrel
      cases gk with
      | zero => exact absurd HA.out (by simp [spec_SameBytes.l0])
      | succ k1 =>
        have H := HA.out
        clear HA
        simp only [spec_SameBytes.l0] at H
        by_cases c4 : x14_1 < (l0.length : Int)
        · rw [if_pos c4] at H
          have c4b0 : decide (x14_1 < (l0.length : Int)) = true := decide_eq_true c4
          clear c4
          by_cases c5 : 0 ≤ x14_1
          · rw [if_pos c5] at H
            have c5b0 : decide (0 ≤ x14_1) = true := decide_eq_true c5
            clear c5
            by_cases c6 : x14_1 < (l0.length : Int)
            · rw [if_pos c6] at H
              have c6b0 : decide (x14_1 < (l0.length : Int)) = true := decide_eq_true c6
              clear c6
              by_cases c7 : x14_1 < (l1.length : Int)
              · rw [if_pos c7] at H
                have c7b0 : decide (x14_1 < (l1.length : Int)) = true := decide_eq_true c7
                clear c7
                by_cases c8 : (rd l0 x14_1) = (rd l1 x14_1)
                · rw [if_pos c8] at H
                  have c8b0 : ((rd l0 x14_1) == (rd l1 x14_1)) = true := beq_iff_eq.mpr c8
                  have c8b1 : ((rd l0 x14_1) != (rd l1 x14_1)) = false := bne_eq_false_iff_eq.mpr c8
                  clear c8
                  have H' := Aside0.mk H
                  clear H
                  have p182 : 0 ≤ (x14_1 : Int) := of_decide_eq_true (by first | (with_reducible assumption) | assumption)
                  have q182 : x14_1 < (l0.length : Int) := of_decide_eq_true (by first | (with_reducible assumption) | assumption)
                  obtain ⟨ad182, e182, hx182_0⟩ := Kd.at_int HR0.out x14_1 p182 q182
                  cases e182
                  replace p182 := eq_true p182
                  replace q182 := eq_true q182
                  have p183 : 0 ≤ (x14_1 : Int) := of_decide_eq_true (by first | (with_reducible assumption) | assumption)
                  have q183 : x14_1 < (l1.length : Int) := of_decide_eq_true (by first | (with_reducible assumption) | assumption)
                  obtain ⟨ad183, e183, hx183_0⟩ := Kd.at_int HR1.out x14_1 p183 q183
                  cases e183
                  replace p183 := eq_true p183
                  replace q183 := eq_true q183
                  go_wp2
                  go_roundg k1
                  case measure => have := HK1.out; omega
                  case rel => exact ⟨(wrap64 (x14_1 + 1)), (by first | rfl | (simp; done) | (simp [*]; done)), H', ⟨by have := HK1.out; omega⟩, by repeat (first | exact Drawn0.refl _ | apply Drawn0.step)⟩
                · rw [if_neg c8] at H
                  have c8b0 : ((rd l0 x14_1) == (rd l1 x14_1)) = false := beq_eq_false_iff_ne.mpr c8
                  have c8b1 : ((rd l0 x14_1) != (rd l1 x14_1)) = true := bne_iff_ne.mpr c8
                  obtain rfl := Option.some.inj H
                  have p182 : 0 ≤ (x14_1 : Int) := of_decide_eq_true (by first | (with_reducible assumption) | assumption)
                  have q182 : x14_1 < (l0.length : Int) := of_decide_eq_true (by first | (with_reducible assumption) | assumption)
                  obtain ⟨ad182, e182, hx182_0⟩ := Kd.at_int HR0.out x14_1 p182 q182
                  cases e182
                  replace p182 := eq_true p182
                  replace q182 := eq_true q182
                  have p183 : 0 ≤ (x14_1 : Int) := of_decide_eq_true (by first | (with_reducible assumption) | assumption)
                  have q183 : x14_1 < (l1.length : Int) := of_decide_eq_true (by first | (with_reducible assumption) | assumption)
                  obtain ⟨ad183, e183, hx183_0⟩ := Kd.at_int HR1.out x14_1 p183 q183
                  cases e183
                  replace p183 := eq_true p183
                  replace q183 := eq_true q183
                  go_wp2
                  go_ret
                  exact ⟨by first | rfl | (simp; done) | (simp [*]; done), by repeat (first | exact Drawn0.refl _ | apply Drawn0.step)⟩
              · rw [if_neg c7] at H
                exact absurd H (by simp)
            · rw [if_neg c6] at H
              exact absurd H (by simp)
          · rw [if_neg c5] at H
            exact absurd H (by simp)
        · rw [if_neg c4] at H
          have c4b0 : decide (x14_1 < (l0.length : Int)) = false := decide_eq_false c4
          clear c4
          obtain rfl := Option.some.inj H
          go_wp2
          go_ret
          exact ⟨by first | rfl | (simp; done) | (simp [*]; done), by repeat (first | exact Drawn0.refl _ | apply Drawn0.step)⟩
  · rw [if_neg c3] at H
    have c3b0 : ((l0.length : Int) == (l1.length : Int)) = false := beq_eq_false_iff_ne.mpr c3
    have c3b1 : ((l0.length : Int) != (l1.length : Int)) = true := bne_iff_ne.mpr c3
    have c3b2 : (l0.length == l1.length) = false := by first | simpa using c3 | (simp at c3 ⊢; omega)
    obtain rfl := Option.some.inj H
    go_enter Tryd.func10, Tryd.ntmps10
    go_wp2
    go_ret
    exact ⟨by first | rfl | (simp; done) | (simp [*]; done), by repeat (first | exact Drawn0.refl _ | apply Drawn0.step)⟩

/-! ### laws_FnUrlData: function 4 -/
mutual
def laws_FnUrlData.j0 : Nat → ByteArray → ByteArray → List Int → Bool → Option (Bool)
  | 0, _, _, _, _ => none
  | k + 1, x0, x1, x2, x23 => if x23 = true then (some true) else ((laws_mediaOk.f k x0 x1).bind fun t184 => (if t184 = true then ((laws_fewBytes.f k (([x2] : List (List Int)))).bind fun t188 => (laws_FnUrlData.j1 k x0 x1 x2 (!t188))) else (laws_FnUrlData.j1 k x0 x1 x2 true)))
def laws_FnUrlData.j1 : Nat → ByteArray → ByteArray → List Int → Bool → Option (Bool)
  | 0, _, _, _, _ => none
  | k + 1, x0, x1, x2, x33 => if x33 = true then (some true) else (if 5 + x0.size ≤ 9223372036854775807 then (if ((⟨#[100, 97, 116, 97, 58]⟩ : ByteArray) ++ x0).size + 1 ≤ 9223372036854775807 then (if (((⟨#[100, 97, 116, 97, 58]⟩ : ByteArray) ++ x0) ++ (⟨#[47]⟩ : ByteArray)).size + x1.size ≤ 9223372036854775807 then (if ((((⟨#[100, 97, 116, 97, 58]⟩ : ByteArray) ++ x0) ++ (⟨#[47]⟩ : ByteArray)) ++ x1).size + 1 ≤ 9223372036854775807 then (if ((((((⟨#[100, 97, 116, 97, 58]⟩ : ByteArray) ++ x0) ++ (⟨#[47]⟩ : ByteArray)) ++ x1) ++ (⟨#[44]⟩ : ByteArray)).size : Int) ≤ 140737488355328 then ((impl_EncodeURL.f x2 0).bind fun t192 => ((spec_Join.f k (([(Go.Proofs.YthejmpldfndbfaaDoor.Own.numsOf (((((⟨#[100, 97, 116, 97, 58]⟩ : ByteArray) ++ x0) ++ (⟨#[47]⟩ : ByteArray)) ++ x1) ++ (⟨#[44]⟩ : ByteArray))), t192] : List (List Int)))).bind fun t198 => ((impl_DataURI.f t198).bind fun bt201 => (if bt201.2.2 = true then (if x0.size + 1 ≤ 9223372036854775807 then (if (x0 ++ (⟨#[47]⟩ : ByteArray)).size + x1.size ≤ 9223372036854775807 then (if (strOfNums bt201.1).toList = ((x0 ++ (⟨#[47]⟩ : ByteArray)) ++ x1).toList then ((spec_SameBytes.f k bt201.2.1 x2).bind fun t208 => (some t208)) else (some false)) else (none)) else (none)) else (some false))))) else (none)) else (none)) else (none)) else (none)) else (none))
end
def laws_FnUrlData.f (k : Nat) (a0 : ByteArray) (a1 : ByteArray) (l2 : List Int) : Option (Bool) := if (a0.size : Int) > 2147483647 then (laws_FnUrlData.j0 k a0 a1 l2 true) else (if (a1.size : Int) > 2147483647 then (laws_FnUrlData.j0 k a0 a1 l2 true) else (laws_FnUrlData.j0 k a0 a1 l2 (decide ((l2.length : Int) > 2147483647))))
theorem laws_FnUrlData.mono_l : ∀ k, (∀ y0 y1 y2 y3, LeO (laws_FnUrlData.j0 k y0 y1 y2 y3) (laws_FnUrlData.j0 (k + 1) y0 y1 y2 y3)) ∧ (∀ y0 y1 y2 y3, LeO (laws_FnUrlData.j1 k y0 y1 y2 y3) (laws_FnUrlData.j1 (k + 1) y0 y1 y2 y3))
  | 0 => ⟨fun _ _ _ _ r h => by simp [laws_FnUrlData.j0] at h, fun _ _ _ _ r h => by simp [laws_FnUrlData.j1] at h⟩
  | k + 1 => by
    obtain ⟨ih0, ih1⟩ := laws_FnUrlData.mono_l k
    refine ⟨?_, ?_⟩
    · intro y0 y1 y2 y3
      unfold laws_FnUrlData.j0
      repeat' first
      | (with_reducible exact ih0 _ _ _ _)
      | (with_reducible exact ih1 _ _ _ _)
      | (with_reducible exact laws_fewBytes.mono _ _)
      | (with_reducible exact laws_mediaOk.mono _ _ _)
      | (with_reducible exact spec_Join.mono _ _)
      | (with_reducible exact spec_SameBytes.mono _ _ _)
      | (with_reducible exact LeO.refl _)
      | (with_reducible exact LeO.none _)
      | (with_reducible refine LeO.ite ?_ ?_)
      | (with_reducible refine LeO.bind ?_ (fun _ => ?_))
      | exact ih0 _ _ _ _
      | exact ih1 _ _ _ _
      | exact laws_fewBytes.mono _ _
      | exact laws_mediaOk.mono _ _ _
      | exact spec_Join.mono _ _
      | exact spec_SameBytes.mono _ _ _
      | exact LeO.none _
      | refine LeO.ite ?_ ?_
      | refine LeO.bind ?_ (fun _ => ?_)
    · intro y0 y1 y2 y3
      unfold laws_FnUrlData.j1
      repeat' first
      | (with_reducible exact ih0 _ _ _ _)
      | (with_reducible exact ih1 _ _ _ _)
      | (with_reducible exact laws_fewBytes.mono _ _)
      | (with_reducible exact laws_mediaOk.mono _ _ _)
      | (with_reducible exact spec_Join.mono _ _)
      | (with_reducible exact spec_SameBytes.mono _ _ _)
      | (with_reducible exact LeO.refl _)
      | (with_reducible exact LeO.none _)
      | (with_reducible refine LeO.ite ?_ ?_)
      | (with_reducible refine LeO.bind ?_ (fun _ => ?_))
      | exact ih0 _ _ _ _
      | exact ih1 _ _ _ _
      | exact laws_fewBytes.mono _ _
      | exact laws_mediaOk.mono _ _ _
      | exact spec_Join.mono _ _
      | exact spec_SameBytes.mono _ _ _
      | exact LeO.none _
      | refine LeO.ite ?_ ?_
      | refine LeO.bind ?_ (fun _ => ?_)
theorem laws_FnUrlData.mono : ∀ a0 a1 a2 k, LeO (laws_FnUrlData.f k a0 a1 a2) (laws_FnUrlData.f (k + 1) a0 a1 a2) := by
  intro a0 a1 a2 k
  obtain ⟨ih0, ih1⟩ := laws_FnUrlData.mono_l k
  unfold laws_FnUrlData.f
  repeat' first
      | (with_reducible exact ih0 _ _ _ _)
      | (with_reducible exact ih1 _ _ _ _)
      | (with_reducible exact laws_fewBytes.mono _ _)
      | (with_reducible exact laws_mediaOk.mono _ _ _)
      | (with_reducible exact spec_Join.mono _ _)
      | (with_reducible exact spec_SameBytes.mono _ _ _)
      | (with_reducible exact LeO.refl _)
      | (with_reducible exact LeO.none _)
      | (with_reducible refine LeO.ite ?_ ?_)
      | (with_reducible refine LeO.bind ?_ (fun _ => ?_))
      | exact ih0 _ _ _ _
      | exact ih1 _ _ _ _
      | exact laws_fewBytes.mono _ _
      | exact laws_mediaOk.mono _ _ _
      | exact spec_Join.mono _ _
      | exact spec_SameBytes.mono _ _ _
      | exact LeO.none _
      | refine LeO.ite ?_ ?_
      | refine LeO.bind ?_ (fun _ => ?_)
set_option maxHeartbeats 8000000 in
set_option maxRecDepth 100000 in
theorem laws_FnUrlData.calls (k : Nat) (a0 : ByteArray) (a1 : ByteArray) (P2_ : Nat → Prop) (A2 : Option Addr) (c2 : Nat) (l2 : List Int) (r : Bool) (w : World) (hs2 : Kd.V (Kd.int .u8) 5 w w.heap.size (fun k_ => P2_ k_) (.slice A2 l2.length c2) l2) (h : laws_FnUrlData.f k a0 a1 l2 = some r) (HTabU : Aside0 (Own.TabU w)) (HTabW : Aside0 (Own.TabW w)) :
    Calls Tryd.prog 4 #[.string a0, .string a1, .slice A2 l2.length c2] w fun e w' => e = .returned (.bool r) ∧ Below w.heap.size w w' := by
  have HO2 := Aside0.mk (show Kd.V (Kd.int .u8) 5 w w.heap.size (fun k_ => (P2_ k_ ∨ w.heap.size ≤ k_)) (.slice A2 l2.length c2) l2 from Kd.V_mono hs2 (fun k_ hk => .inl hk))
  have HB := Aside0.mk (Below.refl w.heap.size w)
  have H : (if (a0.size : Int) > 2147483647 then (laws_FnUrlData.j0 k a0 a1 l2 true) else (if (a1.size : Int) > 2147483647 then (laws_FnUrlData.j0 k a0 a1 l2 true) else (laws_FnUrlData.j0 k a0 a1 l2 (decide ((l2.length : Int) > 2147483647))))) = some r := h
  clear h
  have HC4 := Aside0.mk H
  clear H
  go_enter Tryd.func4, Tryd.ntmps4
  go_upto_region 1 with (fail)
  go_cut [23] (fun v23 wc => ∃ (kq : Nat) (x23_3 : Bool), v23 = .bool x23_3 ∧ Aside0 (laws_FnUrlData.j0 kq a0 a1 l2 x23_3 = some r) ∧ Aside0 (kq ≤ k) ∧ Aside0 (Kd.V (Kd.int .u8) 5 wc w.heap.size (fun k_ => (P2_ k_ ∨ w.heap.size ≤ k_)) (.slice A2 l2.length c2) l2) ∧ Aside0 (Below w.heap.size w wc))
  case first =>
    have H := HC4.out
    clear HC4
    by_cases c5 : (a0.size : Int) > 2147483647
    · rw [if_pos c5] at H
      have c5b0 : decide (2147483647 < (a0.size : Int)) = true := decide_eq_true c5
      have c5b1 : decide (2147483647 < a0.size) = true := decide_eq_true (by omega)
      clear c5
      (first | rw [c5b0] | (simp only [i64_w, i32_w]; rw [c5b0]) | skip)
      have H' := Aside0.mk H
      clear H
      go_wp2
      go_meet
      case rel => exact ⟨_, (true), (by first | rfl | (simp; done) | (simp [*]; done)), H', ⟨by first | omega | exact Nat.le_refl _⟩, ⟨by (with_reducible repeat (first | apply Kd.V_alloc | apply Kd.V_drewN | apply Kd.V_drew)); exact HO2.out⟩, ⟨by repeat (first | (with_reducible first | exact HB.out | apply below_alloc | apply pw_below_drewN | apply below_drew1) | exact HB.out)⟩⟩
    · rw [if_neg c5] at H
      have c5b0 : decide (2147483647 < (a0.size : Int)) = false := decide_eq_false c5
      have c5b1 : decide (2147483647 < a0.size) = false := decide_eq_false (by omega)
      clear c5
      (first | rw [c5b0] | (simp only [i64_w, i32_w]; rw [c5b0]) | skip)
      by_cases c6 : (a1.size : Int) > 2147483647
      · rw [if_pos c6] at H
        have c6b0 : decide (2147483647 < (a1.size : Int)) = true := decide_eq_true c6
        have c6b1 : decide (2147483647 < a1.size) = true := decide_eq_true (by omega)
        clear c6
        have H' := Aside0.mk H
        clear H
        go_wp2
        go_meet
        case rel => exact ⟨_, (true), (by first | rfl | (simp; done) | (simp [*]; done)), H', ⟨by first | omega | exact Nat.le_refl _⟩, ⟨by (with_reducible repeat (first | apply Kd.V_alloc | apply Kd.V_drewN | apply Kd.V_drew)); exact HO2.out⟩, ⟨by repeat (first | (with_reducible first | exact HB.out | apply below_alloc | apply pw_below_drewN | apply below_drew1) | exact HB.out)⟩⟩
      · rw [if_neg c6] at H
        have c6b0 : decide (2147483647 < (a1.size : Int)) = false := decide_eq_false c6
        have c6b1 : decide (2147483647 < a1.size) = false := decide_eq_false (by omega)
        clear c6
        have H' := Aside0.mk H
        clear H
        go_wp2
        go_meet
        case rel => exact ⟨_, (decide ((l2.length : Int) > 2147483647)), (by first | rfl | (simp; done) | (simp [*]; done)), H', ⟨by first | omega | exact Nat.le_refl _⟩, ⟨by (with_reducible repeat (first | apply Kd.V_alloc | apply Kd.V_drewN | apply Kd.V_drew)); exact HO2.out⟩, ⟨by repeat (first | (with_reducible first | exact HB.out | apply below_alloc | apply pw_below_drewN | apply below_drew1) | exact HB.out)⟩⟩
  case rest =>
    clear HC4
    try clear c2
    try clear p2
    try clear c4
    try clear c5
    try clear c5b0
    try clear c5b1
    try clear c6
    try clear c6b0
    try clear c6b1
    obtain ⟨kq, x23_3, rfl, HA, HJ3, HO_2, HB⟩ := hcut
    cases kq with
    | zero => exact absurd HA.out (by simp [laws_FnUrlData.j0])
    | succ kj3 =>
      have H := HA.out
      clear HA
      simp only [laws_FnUrlData.j0] at H
      by_cases c7 : x23_3 = true
      · subst c7
        have H1 : (some true) = some r := by rw [if_pos rfl] at H; exact H
        clear H
        have H := H1
        clear H1
        obtain rfl := Option.some.inj H
        go_wp2
        go_ret
        exact ⟨by first | rfl | (simp [errW_none, errW_some] <;> rfl) | (simp [*, errW_none, errW_some] <;> rfl), by repeat (first | (with_reducible first | exact HB.out | apply below_alloc | apply pw_below_drewN | apply below_drew1) | exact HB.out)⟩
      · replace c7 := Bool.eq_false_iff.mpr c7
        subst c7
        have H1 : ((laws_mediaOk.f kj3 a0 a1).bind fun t184 => (if t184 = true then ((laws_fewBytes.f kj3 (([l2] : List (List Int)))).bind fun t188 => (laws_FnUrlData.j1 kj3 a0 a1 l2 (!t188))) else (laws_FnUrlData.j1 kj3 a0 a1 l2 true))) = some r := by rw [if_neg (show ¬ (false = true) by decide)] at H; exact H
        clear H
        have H := H1
        clear H1
        have HC8 := Aside0.mk H
        clear H
        go_upto_region 3 with (fail)
        go_cut [33] (fun v33 wc => ∃ (kq : Nat) (x33_7 : Bool), v33 = .bool x33_7 ∧ Aside0 (laws_FnUrlData.j1 kq a0 a1 l2 x33_7 = some r) ∧ Aside0 (kq ≤ kj3) ∧ Aside0 (Kd.V (Kd.int .u8) 5 wc w.heap.size (fun k_ => (P2_ k_ ∨ w.heap.size ≤ k_)) (.slice A2 l2.length c2) l2) ∧ Aside0 (Below w.heap.size w wc))
        case first =>
          have H := HC8.out
          clear HC8
          replace H := Option.bind_eq_some_iff.mp H
          obtain ⟨t184, A90, H⟩ := H
          replace H : (if t184 = true then ((laws_fewBytes.f kj3 (([l2] : List (List Int)))).bind fun t188 => (laws_FnUrlData.j1 kj3 a0 a1 l2 (!t188))) else (laws_FnUrlData.j1 kj3 a0 a1 l2 true)) = some r := H
          have A9 := Aside0.mk A90
          clear A90
          by_cases c10 : t184 = true
          · subst c10
            have H1 : ((laws_fewBytes.f kj3 (([l2] : List (List Int)))).bind fun t188 => (laws_FnUrlData.j1 kj3 a0 a1 l2 (!t188))) = some r := by rw [if_pos rfl] at H; exact H
            clear H
            have H := H1
            clear H1
            obtain ⟨y185, hy185⟩ : ∃ y_ : List (List Int), y_ = (([l2] : List (List Int))) := ⟨_, rfl⟩
            replace H : ((laws_fewBytes.f kj3 y185).bind fun t188 => (laws_FnUrlData.j1 kj3 a0 a1 l2 (!t188))) = some r := by first | (rw [hy185]; with_reducible exact H) | (have H2_ := (Option.bind_some _ _).symm.trans H; rw [hy185]; with_reducible exact H2_) | (have H2_ := (Option.bind_some _ _).symm.trans H; with_reducible exact H2_) | with_reducible exact H | (rw [hy185]; exact H) | exact H
            have Ny185 := Aside0.mk hy185
            clear hy185
            replace H := Option.bind_eq_some_iff.mp H
            obtain ⟨t188, A110, H⟩ := H
            replace H : (laws_FnUrlData.j1 kj3 a0 a1 l2 (!t188)) = some r := H
            have A11 := Aside0.mk A110
            clear A110
            have H' := Aside0.mk H
            clear H
            go_wp2_with (first | ((with_reducible refine gate_callee (f := 7) rfl ?_); refine goesL_ (some 26) rfl rfl Tryd.func7 (by kernel_rfl) rfl #[.string a0, .string a1] rfl (by (try simp only [List.map_toArray, List.map_cons, List.map_nil]); first | done | rfl | (simp only [List.length_drop, List.length_take]; rfl)) ?_; (with_reducible refine (laws_mediaOk.calls kj3 a0 a1 true _ A9.out).mono ?_); rintro e w' ⟨rfl, ⟨nd, rfl⟩⟩; refine ⟨_, rfl, ?_⟩) | ((with_reducible refine gate_dst (N := 30) rfl ?_); (try (refine gate_guard (by rfl) ?_; dsimp only)); refine Kd.N_lit (Kd.slice 5 (Kd.int .u8)) _ 22 ?hg (N' := 30) ?hd (xs := ([l2] : List (List Int))) (inner := [.slice A2 l2.length c2]) (ok := (fun k_ => (P2_ k_ ∨ w.heap.size ≤ k_))) (okp := (fun k_ => (P2_ k_ ∨ w.heap.size ≤ k_))) ?hr ?hp (fun _ hk => hk) ((show ∀ k_, wc.heap.size ≤ k_ → (fun k_ => (P2_ k_ ∨ w.heap.size ≤ k_)) k_ from fun k_ hk => (.inr (Nat.le_trans (below_size (by repeat (first | (with_reducible first | exact HB.out | apply below_alloc | apply pw_below_drewN | apply below_drew1) | exact HB.out))) hk))) _ (Nat.le_refl _)) (Below.refl _ _) (Nat.le_refl _) (by simp) ?_; (case hd => rfl); (case hg => rfl); (case hr => first | (go_simp; done) | (go_simp; rfl)); (case hp => first | exact (Reps.one (show Kd.FK (Kd.slice 5 (Kd.int .u8)) _ _ l2 [.slice A2 l2.length c2] from (Kd.FK_slice_mk (Kd.V_reads' (Kd.V_mono (ok' := (fun k_ => (P2_ k_ ∨ w.heap.size ≤ k_))) (HO_2.out) (fun k_ hk => hk))).2.1 (Kd.V_F (Kd.V_mono (ok' := (fun k_ => (P2_ k_ ∨ w.heap.size ≤ k_))) (HO_2.out) (fun k_ hk => hk))))) (Reps.none _ _)) | exact (Reps.one (show Kd.FK (Kd.slice 5 (Kd.int .u8)) _ _ l2 [.slice A2 l2.length c2] from (Kd.FK_slice_mk (Kd.V_reads' (Kd.V_mono (ok' := (fun k_ => (P2_ k_ ∨ w.heap.size ≤ k_))) (HO_2.out) (fun k_ hk => hk))).2.1 (Kd.V_F (Kd.V_mono (ok' := (fun k_ => (P2_ k_ ∨ w.heap.size ≤ k_))) ((Kd.V_drewN HO_2.out _)) (fun k_ hk => hk))))) (Reps.none _ _)) | exact (Reps.one (show Kd.FK (Kd.slice 5 (Kd.int .u8)) _ _ l2 [.slice A2 l2.length c2] from (Kd.FK_slice_mk (Kd.V_reads' (Kd.V_mono (ok' := (fun k_ => (P2_ k_ ∨ w.heap.size ≤ k_))) (HO_2.out) (fun k_ hk => hk))).2.1 (Kd.V_F (Kd.V_mono (ok' := (fun k_ => (P2_ k_ ∨ w.heap.size ≤ k_))) ((Kd.V_alloc HO_2.out _)) (fun k_ hk => hk))))) (Reps.none _ _)) | exact (Reps.one (show Kd.FK (Kd.slice 5 (Kd.int .u8)) _ _ l2 [.slice A2 l2.length c2] from (Kd.FK_slice_mk (Kd.V_reads' (Kd.V_mono (ok' := (fun k_ => (P2_ k_ ∨ w.heap.size ≤ k_))) (HO_2.out) (fun k_ hk => hk))).2.1 (Kd.V_F (Kd.V_mono (ok' := (fun k_ => (P2_ k_ ∨ w.heap.size ≤ k_))) ((by (with_reducible repeat (first | apply Kd.V_alloc | apply Kd.V_drewN | apply Kd.V_drew)); exact HO_2.out)) (fun k_ hk => hk))))) (Reps.none _ _))); intro v186 w12 ho13 hb hg_ hnew_; clear hg_ hnew_; (first | rw [← Ny185.out] at ho13 | (simp only [Int.reduceToNat] at ho13; rw [← Ny185.out] at ho13)); have n0_ := Aside0.mk (Kd.V_elder' (by (with_reducible repeat (first | apply Kd.V_alloc | apply Kd.V_drewN | apply Kd.V_drew)); exact HO_2.out) (Kd.N_base ho13) hb); have n1_ := Aside0.mk (Kd.N_lower ho13 (below_size (by repeat (first | (with_reducible first | exact HB.out | apply below_alloc | apply pw_below_drewN | apply below_drew1) | exact HB.out)))); have n2_ := Aside0.mk (below_step (by repeat (first | (with_reducible first | exact HB.out | apply below_alloc | apply pw_below_drewN | apply below_drew1) | exact HB.out)) hb); clear HO_2; clear HB; have HO_2 := n0_; have HO187 := n1_; have HB := n2_; clear n0_ n1_ n2_; clear hb ho13; obtain ⟨Ao14, co14, eo14⟩ := Kd.N_slice HO187.out; subst eo14) | (go_at_call 5; (with_reducible refine (laws_fewBytes.calls kj3 _ _ y185 t188 _ ?side1 ?side2 A11.out).mono ?_); (case side1 => repeat (first | exact (Kd.N_reads' HO187.out).2.2 | (with_reducible refine Kd.C_alloc ?_ _) | (with_reducible refine Kd.C_drewN ?_ _) | (with_reducible refine Kd.C_drew ?_))); (case side2 => exact (Kd.N_reads' HO187.out).2.1); rintro e w' ⟨rfl, ⟨nd, rfl⟩⟩))
            go_meet
            case rel => exact ⟨_, (!t188), (by first | rfl | (simp; done) | (simp [*]; done)), H', ⟨by have := HJ3.out; first | omega | exact Nat.le_refl _⟩, ⟨by (with_reducible repeat (first | apply Kd.V_alloc | apply Kd.V_drewN | apply Kd.V_drew)); exact Kd.V_mono HO_2.out (fun _ hk => hk.1)⟩, ⟨by repeat (first | (with_reducible first | exact HB.out | apply below_alloc | apply pw_below_drewN | apply below_drew1) | exact HB.out)⟩⟩
          · replace c10 := Bool.eq_false_iff.mpr c10
            subst c10
            have H1 : (laws_FnUrlData.j1 kj3 a0 a1 l2 true) = some r := by rw [if_neg (show ¬ (false = true) by decide)] at H; exact H
            clear H
            have H := H1
            clear H1
            have H' := Aside0.mk H
            clear H
            go_wp2_with (first | ((with_reducible refine gate_callee (f := 7) rfl ?_); refine goesL_ (some 26) rfl rfl Tryd.func7 (by kernel_rfl) rfl #[.string a0, .string a1] rfl (by (try simp only [List.map_toArray, List.map_cons, List.map_nil]); first | done | rfl | (simp only [List.length_drop, List.length_take]; rfl)) ?_; (with_reducible refine (laws_mediaOk.calls kj3 a0 a1 false _ A9.out).mono ?_); rintro e w' ⟨rfl, ⟨nd, rfl⟩⟩; refine ⟨_, rfl, ?_⟩))
            go_meet
            case rel => exact ⟨_, (true), (by first | rfl | (simp; done) | (simp [*]; done)), H', ⟨by have := HJ3.out; first | omega | exact Nat.le_refl _⟩, ⟨by (with_reducible repeat (first | apply Kd.V_alloc | apply Kd.V_drewN | apply Kd.V_drew)); exact HO_2.out⟩, ⟨by repeat (first | (with_reducible first | exact HB.out | apply below_alloc | apply pw_below_drewN | apply below_drew1) | exact HB.out)⟩⟩
        case rest =>
          clear HC8
          try clear c1
          try clear c2
          try clear p2
          try clear c4
          try clear c5
          try clear c5b0
          try clear c5b1
          try clear c6
          try clear c6b0
          try clear c6b1
          try clear c7
          try clear c10
          try clear p2
          obtain ⟨kq, x33_7, rfl, HA, HJ7, HO_2, HB⟩ := hcut
          cases kq with
          | zero => exact absurd HA.out (by simp [laws_FnUrlData.j1])
          | succ kj7 =>
            have H := HA.out
            clear HA
            simp only [laws_FnUrlData.j1] at H
            by_cases c15 : x33_7 = true
            · subst c15
              have H1 : (some true) = some r := by rw [if_pos rfl] at H; exact H
              clear H
              have H := H1
              clear H1
              obtain rfl := Option.some.inj H
              go_wp2
              go_ret
              exact ⟨by first | rfl | (simp [errW_none, errW_some] <;> rfl) | (simp [*, errW_none, errW_some] <;> rfl), by repeat (first | (with_reducible first | exact HB.out | apply below_alloc | apply pw_below_drewN | apply below_drew1) | exact HB.out)⟩
            · replace c15 := Bool.eq_false_iff.mpr c15
              subst c15
              have H1 : (if 5 + a0.size ≤ 9223372036854775807 then (if ((⟨#[100, 97, 116, 97, 58]⟩ : ByteArray) ++ a0).size + 1 ≤ 9223372036854775807 then (if (((⟨#[100, 97, 116, 97, 58]⟩ : ByteArray) ++ a0) ++ (⟨#[47]⟩ : ByteArray)).size + a1.size ≤ 9223372036854775807 then (if ((((⟨#[100, 97, 116, 97, 58]⟩ : ByteArray) ++ a0) ++ (⟨#[47]⟩ : ByteArray)) ++ a1).size + 1 ≤ 9223372036854775807 then (if ((((((⟨#[100, 97, 116, 97, 58]⟩ : ByteArray) ++ a0) ++ (⟨#[47]⟩ : ByteArray)) ++ a1) ++ (⟨#[44]⟩ : ByteArray)).size : Int) ≤ 140737488355328 then ((impl_EncodeURL.f l2 0).bind fun t192 => ((spec_Join.f kj7 (([(Go.Proofs.YthejmpldfndbfaaDoor.Own.numsOf (((((⟨#[100, 97, 116, 97, 58]⟩ : ByteArray) ++ a0) ++ (⟨#[47]⟩ : ByteArray)) ++ a1) ++ (⟨#[44]⟩ : ByteArray))), t192] : List (List Int)))).bind fun t198 => ((impl_DataURI.f t198).bind fun bt201 => (if bt201.2.2 = true then (if a0.size + 1 ≤ 9223372036854775807 then (if (a0 ++ (⟨#[47]⟩ : ByteArray)).size + a1.size ≤ 9223372036854775807 then (if (strOfNums bt201.1).toList = ((a0 ++ (⟨#[47]⟩ : ByteArray)) ++ a1).toList then ((spec_SameBytes.f kj7 bt201.2.1 l2).bind fun t208 => (some t208)) else (some false)) else (none)) else (none)) else (some false))))) else (none)) else (none)) else (none)) else (none)) else (none)) = some r := by rw [if_neg (show ¬ (false = true) by decide)] at H; exact H
              clear H
              have H := H1
              clear H1
              by_cases c16 : 5 + a0.size ≤ 9223372036854775807
              · rw [if_pos c16] at H
                have c16b0 := eq_true c16
                have c16b1 : decide (5 + a0.size ≤ 9223372036854775807) = true := decide_eq_true c16
                try have c16b2 : (9223372036854775807 < 5 + a0.size) = False := eq_false (Nat.not_lt.2 c16)
                by_cases c17 : ((⟨#[100, 97, 116, 97, 58]⟩ : ByteArray) ++ a0).size + 1 ≤ 9223372036854775807
                · rw [if_pos c17] at H
                  have c17n : ¬ 9223372036854775807 < 5 + a0.size + 1 := by have := Nat.not_lt.2 c17; simp only [ByteArray.size_append] at this; exact this
                  replace c17 := Aside0.mk c17
                  by_cases c18 : (((⟨#[100, 97, 116, 97, 58]⟩ : ByteArray) ++ a0) ++ (⟨#[47]⟩ : ByteArray)).size + a1.size ≤ 9223372036854775807
                  · rw [if_pos c18] at H
                    have c18n : ¬ 9223372036854775807 < 5 + a0.size + 1 + a1.size := by have := Nat.not_lt.2 c18; simp only [ByteArray.size_append] at this; exact this
                    replace c18 := Aside0.mk c18
                    by_cases c19 : ((((⟨#[100, 97, 116, 97, 58]⟩ : ByteArray) ++ a0) ++ (⟨#[47]⟩ : ByteArray)) ++ a1).size + 1 ≤ 9223372036854775807
                    · rw [if_pos c19] at H
                      have c19n : ¬ 9223372036854775807 < 5 + a0.size + 1 + a1.size + 1 := by have := Nat.not_lt.2 c19; simp only [ByteArray.size_append] at this; exact this
                      replace c19 := Aside0.mk c19
                      by_cases c20 : ((((((⟨#[100, 97, 116, 97, 58]⟩ : ByteArray) ++ a0) ++ (⟨#[47]⟩ : ByteArray)) ++ a1) ++ (⟨#[44]⟩ : ByteArray)).size : Int) ≤ 140737488355328
                      · rw [if_pos c20] at H
                        have c20b0 : decide (((((((⟨#[100, 97, 116, 97, 58]⟩ : ByteArray) ++ a0) ++ (⟨#[47]⟩ : ByteArray)) ++ a1) ++ (⟨#[44]⟩ : ByteArray)).size : Int) ≤ 140737488355328) = true := decide_eq_true c20
                        have c20b1 : decide ((((((⟨#[100, 97, 116, 97, 58]⟩ : ByteArray) ++ a0) ++ (⟨#[47]⟩ : ByteArray)) ++ a1) ++ (⟨#[44]⟩ : ByteArray)).size ≤ 140737488355328) = true := decide_eq_true (by omega)
                        clear c20
                        obtain ⟨y189, hy189⟩ : ∃ y_ : List Int, y_ = (Go.Proofs.YthejmpldfndbfaaDoor.Own.numsOf (((((⟨#[100, 97, 116, 97, 58]⟩ : ByteArray) ++ a0) ++ (⟨#[47]⟩ : ByteArray)) ++ a1) ++ (⟨#[44]⟩ : ByteArray))) := ⟨_, rfl⟩
                        replace H : ((impl_EncodeURL.f l2 0).bind fun t192 => ((spec_Join.f kj7 (([y189, t192] : List (List Int)))).bind fun t198 => ((impl_DataURI.f t198).bind fun bt201 => (if bt201.2.2 = true then (if a0.size + 1 ≤ 9223372036854775807 then (if (a0 ++ (⟨#[47]⟩ : ByteArray)).size + a1.size ≤ 9223372036854775807 then (if (strOfNums bt201.1).toList = ((a0 ++ (⟨#[47]⟩ : ByteArray)) ++ a1).toList then ((spec_SameBytes.f kj7 bt201.2.1 l2).bind fun t208 => (some t208)) else (some false)) else (none)) else (none)) else (some false))))) = some r := by first | (rw [hy189]; with_reducible exact H) | (have H2_ := (Option.bind_some _ _).symm.trans H; rw [hy189]; with_reducible exact H2_) | (have H2_ := (Option.bind_some _ _).symm.trans H; with_reducible exact H2_) | with_reducible exact H | (rw [hy189]; exact H) | exact H
                        have Ny189 := Aside0.mk hy189
                        clear hy189
                        replace H := Option.bind_eq_some_iff.mp H
                        obtain ⟨t192, A210, H⟩ := H
                        replace H : ((spec_Join.f kj7 (([y189, t192] : List (List Int)))).bind fun t198 => ((impl_DataURI.f t198).bind fun bt201 => (if bt201.2.2 = true then (if a0.size + 1 ≤ 9223372036854775807 then (if (a0 ++ (⟨#[47]⟩ : ByteArray)).size + a1.size ≤ 9223372036854775807 then (if (strOfNums bt201.1).toList = ((a0 ++ (⟨#[47]⟩ : ByteArray)) ++ a1).toList then ((spec_SameBytes.f kj7 bt201.2.1 l2).bind fun t208 => (some t208)) else (some false)) else (none)) else (none)) else (some false)))) = some r := H
                        have A21 := Aside0.mk A210
                        clear A210
                        obtain ⟨y195, hy195⟩ : ∃ y_ : List (List Int), y_ = (([y189, t192] : List (List Int))) := ⟨_, rfl⟩
                        replace H : ((spec_Join.f kj7 y195).bind fun t198 => ((impl_DataURI.f t198).bind fun bt201 => (if bt201.2.2 = true then (if a0.size + 1 ≤ 9223372036854775807 then (if (a0 ++ (⟨#[47]⟩ : ByteArray)).size + a1.size ≤ 9223372036854775807 then (if (strOfNums bt201.1).toList = ((a0 ++ (⟨#[47]⟩ : ByteArray)) ++ a1).toList then ((spec_SameBytes.f kj7 bt201.2.1 l2).bind fun t208 => (some t208)) else (some false)) else (none)) else (none)) else (some false)))) = some r := by first | (rw [hy195]; with_reducible exact H) | (have H2_ := (Option.bind_some _ _).symm.trans H; rw [hy195]; with_reducible exact H2_) | (have H2_ := (Option.bind_some _ _).symm.trans H; with_reducible exact H2_) | with_reducible exact H | (rw [hy195]; exact H) | exact H
                        have Ny195 := Aside0.mk hy195
                        clear hy195
                        replace H := Option.bind_eq_some_iff.mp H
                        obtain ⟨t198, A220, H⟩ := H
                        replace H : ((impl_DataURI.f t198).bind fun bt201 => (if bt201.2.2 = true then (if a0.size + 1 ≤ 9223372036854775807 then (if (a0 ++ (⟨#[47]⟩ : ByteArray)).size + a1.size ≤ 9223372036854775807 then (if (strOfNums bt201.1).toList = ((a0 ++ (⟨#[47]⟩ : ByteArray)) ++ a1).toList then ((spec_SameBytes.f kj7 bt201.2.1 l2).bind fun t208 => (some t208)) else (some false)) else (none)) else (none)) else (some false))) = some r := H
                        have A22 := Aside0.mk A220
                        clear A220
                        replace H := Option.bind_eq_some_iff.mp H
                        obtain ⟨⟨t201, t202, t203⟩, A230, H⟩ := H
                        replace H : (if t203 = true then (if a0.size + 1 ≤ 9223372036854775807 then (if (a0 ++ (⟨#[47]⟩ : ByteArray)).size + a1.size ≤ 9223372036854775807 then (if (strOfNums t201).toList = ((a0 ++ (⟨#[47]⟩ : ByteArray)) ++ a1).toList then ((spec_SameBytes.f kj7 t202 l2).bind fun t208 => (some t208)) else (some false)) else (none)) else (none)) else (some false)) = some r := H
                        have A23 := Aside0.mk A230
                        clear A230
                        by_cases c24 : t203 = true
                        · subst c24
                          have H1 : (if a0.size + 1 ≤ 9223372036854775807 then (if (a0 ++ (⟨#[47]⟩ : ByteArray)).size + a1.size ≤ 9223372036854775807 then (if (strOfNums t201).toList = ((a0 ++ (⟨#[47]⟩ : ByteArray)) ++ a1).toList then ((spec_SameBytes.f kj7 t202 l2).bind fun t208 => (some t208)) else (some false)) else (none)) else (none)) = some r := by rw [if_pos rfl] at H; exact H
                          clear H
                          have H := H1
                          clear H1
                          by_cases c25 : a0.size + 1 ≤ 9223372036854775807
                          · rw [if_pos c25] at H
                            have c25b0 := eq_true c25
                            have c25b1 : decide (a0.size + 1 ≤ 9223372036854775807) = true := decide_eq_true c25
                            try have c25b2 : (9223372036854775807 < a0.size + 1) = False := eq_false (Nat.not_lt.2 c25)
                            by_cases c26 : (a0 ++ (⟨#[47]⟩ : ByteArray)).size + a1.size ≤ 9223372036854775807
                            · rw [if_pos c26] at H
                              have c26n : ¬ 9223372036854775807 < a0.size + 1 + a1.size := by have := Nat.not_lt.2 c26; simp only [ByteArray.size_append] at this; exact this
                              replace c26 := Aside0.mk c26
                              by_cases c27 : (strOfNums t201).toList = ((a0 ++ (⟨#[47]⟩ : ByteArray)) ++ a1).toList
                              · rw [if_pos c27] at H
                                have c27b0 : ((strOfNums t201).toList == ((a0 ++ (⟨#[47]⟩ : ByteArray)) ++ a1).toList) = true := beq_iff_eq.mpr c27
                                have c27b1 : ((strOfNums t201).toList != ((a0 ++ (⟨#[47]⟩ : ByteArray)) ++ a1).toList) = false := bne_eq_false_iff_eq.mpr c27
                                clear c27
                                replace H := Option.bind_eq_some_iff.mp H
                                obtain ⟨t208, A280, H⟩ := H
                                replace H : (some t208) = some r := H
                                have A28 := Aside0.mk A280
                                clear A280
                                obtain rfl := Option.some.inj H
                                go_wp2_with (first | ((with_reducible refine gate_dst (N := 40) rfl ?_); (try (refine gate_guard (by rfl) ?_; dsimp only)); refine Go.Proofs.YthejmpldfndbfaaDoor.Own.V_bytes _ 5 rfl (N' := 40) rfl 9 22 _ rfl Tryd.underlying9 Tryd.underlying22 Tryd.underlying5 (((((⟨#[100, 97, 116, 97, 58]⟩ : ByteArray) ++ a0) ++ (⟨#[47]⟩ : ByteArray)) ++ a1) ++ (⟨#[44]⟩ : ByteArray)) rfl (of_decide_eq_true (by first | (with_reducible assumption) | assumption)) (Below.refl _ _) (Nat.le_refl _) ?_; intro v190 w29 ho30 hb hg_ hnew_; clear hg_ hnew_; (first | rw [← Ny189.out] at ho30 | (simp only [Int.reduceToNat] at ho30; rw [← Ny189.out] at ho30)); have n0_ := Aside0.mk (Kd.V_below (by (with_reducible repeat (first | apply Kd.V_alloc | apply Kd.V_drewN | apply Kd.V_drew)); exact HO_2.out) hb); have n1_ := Aside0.mk (Kd.V_lower (Kd.V_mono (ok' := fun k_ => (P2_ k_ ∨ w.heap.size ≤ k_)) ho30 (fun k_ hk_ => (.inr (Nat.le_trans (below_size (by repeat (first | (with_reducible first | exact HB.out | apply below_alloc | apply pw_below_drewN | apply below_drew1) | exact HB.out))) hk_)))) (below_size (by repeat (first | (with_reducible first | exact HB.out | apply below_alloc | apply pw_below_drewN | apply below_drew1) | exact HB.out)))); have n2_ := Aside0.mk (below_step (by repeat (first | (with_reducible first | exact HB.out | apply below_alloc | apply pw_below_drewN | apply below_drew1) | exact HB.out)) hb); clear HO_2; clear HB; have HO_2 := n0_; have HO191 := n1_; have HB := n2_; clear n0_ n1_ n2_; clear hb ho30) | ((with_reducible refine gate_callee (f := 9) rfl ?_); refine goesL_ (some 42) rfl rfl Tryd.func9 (by kernel_rfl) rfl #[.slice A2 l2.length c2, .int .i64 0] rfl (by (try simp only [List.map_toArray, List.map_cons, List.map_nil]); first | done | rfl | (simp only [List.length_drop, List.length_take]; rfl)) ?_; (with_reducible refine (impl_EncodeURL.calls _ _ l2 0 t192 _ ?side1 ?side2 A21.out ?tabTabU).mono ?_); (case tabTabU => first | exact HTabU | exact ⟨Own.TabAt.below HTabU.out (by repeat (first | (with_reducible first | exact HB.out | apply below_alloc | apply pw_below_drewN | apply below_drew1) | exact HB.out))⟩ | exact ⟨Own.TabAt.drawn HTabU.out (by repeat (first | exact Drawn0.refl _ | apply Drawn0.step))⟩); (case side1 => repeat (first | exact (Kd.V_reads' HO_2.out).2.2 | (with_reducible refine Kd.C_alloc ?_ _) | (with_reducible refine Kd.C_drewN ?_ _) | (with_reducible refine Kd.C_drew ?_))); (case side2 => exact (Kd.V_reads' HO_2.out).2.1); rintro e w31 ⟨v193, rfl, ho0, hb⟩; refine ⟨_, rfl, ?_⟩; have n0_ := Aside0.mk (Kd.V_elder' (by (with_reducible repeat (first | apply Kd.V_alloc | apply Kd.V_drewN | apply Kd.V_drew)); exact HO_2.out) (Kd.R_base ho0) hb); have n1_ := Aside0.mk (Kd.V_elder' (by (with_reducible repeat (first | apply Kd.V_alloc | apply Kd.V_drewN | apply Kd.V_drew)); exact HO191.out) (Kd.R_base ho0) hb); have n2_ := Aside0.mk (Kd.R_lower (Kd.R_newM (M := fun k_ => (w.heap.size ≤ k_)) ho0 (below_size (by repeat (first | (with_reducible first | exact HB.out | apply below_alloc | apply pw_below_drewN | apply below_drew1) | exact HB.out))) (fun k_ h_ => h_)) (below_size (by repeat (first | (with_reducible first | exact HB.out | apply below_alloc | apply pw_below_drewN | apply below_drew1) | exact HB.out)))); have n3_ := Aside0.mk (below_step (by repeat (first | (with_reducible first | exact HB.out | apply below_alloc | apply pw_below_drewN | apply below_drew1) | exact HB.out)) hb); clear HO_2; clear HO191; clear HB; have HO_2 := n0_; have HO191 := n1_; have HO194 := n2_; have HB := n3_; clear n0_ n1_ n2_ n3_; (try clear hb); (try clear hb2); (try clear hk); (try clear hi); (try clear ho0); obtain ⟨Ao32, co32, eo32⟩ := Kd.V_slice HO191.out; subst eo32; obtain ⟨Ao33, co33, eo33⟩ := Kd.R_slice HO194.out; subst eo33) | ((with_reducible refine gate_dst (N := 43) rfl ?_); (try (refine gate_guard (by rfl) ?_; dsimp only)); refine Kd.N_lit (Kd.slice 5 (Kd.int .u8)) _ 22 ?hg (N' := 43) ?hd (xs := ([y189, t192] : List (List Int))) (inner := [.slice Ao32 y189.length co32, .slice Ao33 t192.length co33]) (ok := (fun k_ => (P2_ k_ ∨ w.heap.size ≤ k_))) (okp := (fun k_ => (P2_ k_ ∨ w.heap.size ≤ k_))) ?hr ?hp (fun _ hk => hk) ((show ∀ k_, w31.heap.size ≤ k_ → (fun k_ => (P2_ k_ ∨ w.heap.size ≤ k_)) k_ from fun k_ hk => (.inr (Nat.le_trans (below_size (by repeat (first | (with_reducible first | exact HB.out | apply below_alloc | apply pw_below_drewN | apply below_drew1) | exact HB.out))) hk))) _ (Nat.le_refl _)) (Below.refl _ _) (Nat.le_refl _) (by simp) ?_; (case hd => rfl); (case hg => rfl); (case hr => first | (go_simp; done) | (go_simp; rfl)); (case hp => first | exact (Reps.one (show Kd.FK (Kd.slice 5 (Kd.int .u8)) _ _ y189 [.slice Ao32 y189.length co32] from (Kd.FK_slice_mk (Kd.V_reads' (Kd.V_mono (ok' := (fun k_ => (P2_ k_ ∨ w.heap.size ≤ k_))) (HO191.out) (fun k_ hk => hk.1))).2.1 (Kd.V_F (Kd.V_mono (ok' := (fun k_ => (P2_ k_ ∨ w.heap.size ≤ k_))) (HO191.out) (fun k_ hk => hk.1))))) (Reps.one (show Kd.FK (Kd.slice 5 (Kd.int .u8)) _ _ t192 [.slice Ao33 t192.length co33] from (Kd.FK_slice_mk (Kd.R_reads' (Kd.R_mono (ok' := (fun k_ => (P2_ k_ ∨ w.heap.size ≤ k_))) (HO194.out) (fun k_ hk => (.inr (hk.1))))).2.1 (Kd.R_F (Kd.R_mono (ok' := (fun k_ => (P2_ k_ ∨ w.heap.size ≤ k_))) (HO194.out) (fun k_ hk => (.inr (hk.1))))))) (Reps.none _ _))) | exact (Reps.one (show Kd.FK (Kd.slice 5 (Kd.int .u8)) _ _ y189 [.slice Ao32 y189.length co32] from (Kd.FK_slice_mk (Kd.V_reads' (Kd.V_mono (ok' := (fun k_ => (P2_ k_ ∨ w.heap.size ≤ k_))) (HO191.out) (fun k_ hk => hk.1))).2.1 (Kd.V_F (Kd.V_mono (ok' := (fun k_ => (P2_ k_ ∨ w.heap.size ≤ k_))) ((Kd.V_drewN HO191.out _)) (fun k_ hk => hk.1))))) (Reps.one (show Kd.FK (Kd.slice 5 (Kd.int .u8)) _ _ t192 [.slice Ao33 t192.length co33] from (Kd.FK_slice_mk (Kd.R_reads' (Kd.R_mono (ok' := (fun k_ => (P2_ k_ ∨ w.heap.size ≤ k_))) (HO194.out) (fun k_ hk => (.inr (hk.1))))).2.1 (Kd.R_F (Kd.R_mono (ok' := (fun k_ => (P2_ k_ ∨ w.heap.size ≤ k_))) ((Kd.R_drewN HO194.out _)) (fun k_ hk => (.inr (hk.1))))))) (Reps.none _ _))) | exact (Reps.one (show Kd.FK (Kd.slice 5 (Kd.int .u8)) _ _ y189 [.slice Ao32 y189.length co32] from (Kd.FK_slice_mk (Kd.V_reads' (Kd.V_mono (ok' := (fun k_ => (P2_ k_ ∨ w.heap.size ≤ k_))) (HO191.out) (fun k_ hk => hk.1))).2.1 (Kd.V_F (Kd.V_mono (ok' := (fun k_ => (P2_ k_ ∨ w.heap.size ≤ k_))) ((Kd.V_alloc HO191.out _)) (fun k_ hk => hk.1))))) (Reps.one (show Kd.FK (Kd.slice 5 (Kd.int .u8)) _ _ t192 [.slice Ao33 t192.length co33] from (Kd.FK_slice_mk (Kd.R_reads' (Kd.R_mono (ok' := (fun k_ => (P2_ k_ ∨ w.heap.size ≤ k_))) (HO194.out) (fun k_ hk => (.inr (hk.1))))).2.1 (Kd.R_F (Kd.R_mono (ok' := (fun k_ => (P2_ k_ ∨ w.heap.size ≤ k_))) ((Kd.R_alloc HO194.out _)) (fun k_ hk => (.inr (hk.1))))))) (Reps.none _ _))) | exact (Reps.one (show Kd.FK (Kd.slice 5 (Kd.int .u8)) _ _ y189 [.slice Ao32 y189.length co32] from (Kd.FK_slice_mk (Kd.V_reads' (Kd.V_mono (ok' := (fun k_ => (P2_ k_ ∨ w.heap.size ≤ k_))) (HO191.out) (fun k_ hk => hk.1))).2.1 (Kd.V_F (Kd.V_mono (ok' := (fun k_ => (P2_ k_ ∨ w.heap.size ≤ k_))) ((by (with_reducible repeat (first | apply Kd.V_alloc | apply Kd.V_drewN | apply Kd.V_drew)); exact HO191.out)) (fun k_ hk => hk.1))))) (Reps.one (show Kd.FK (Kd.slice 5 (Kd.int .u8)) _ _ t192 [.slice Ao33 t192.length co33] from (Kd.FK_slice_mk (Kd.R_reads' (Kd.R_mono (ok' := (fun k_ => (P2_ k_ ∨ w.heap.size ≤ k_))) (HO194.out) (fun k_ hk => (.inr (hk.1))))).2.1 (Kd.R_F (Kd.R_mono (ok' := (fun k_ => (P2_ k_ ∨ w.heap.size ≤ k_))) ((by (with_reducible repeat (first | apply Kd.R_alloc | apply Kd.R_drewN | apply Kd.R_drew)); exact HO194.out)) (fun k_ hk => (.inr (hk.1))))))) (Reps.none _ _)))); intro v196 w34 ho35 hb hg_ hnew_; clear hg_ hnew_; (first | rw [← Ny195.out] at ho35 | (simp only [Int.reduceToNat] at ho35; rw [← Ny195.out] at ho35)); have n0_ := Aside0.mk (Kd.V_elder' (by (with_reducible repeat (first | apply Kd.V_alloc | apply Kd.V_drewN | apply Kd.V_drew)); exact HO_2.out) (Kd.N_base ho35) hb); have n1_ := Aside0.mk (Kd.V_elder' (by (with_reducible repeat (first | apply Kd.V_alloc | apply Kd.V_drewN | apply Kd.V_drew)); exact HO191.out) (Kd.N_base ho35) hb); have n2_ := Aside0.mk (Kd.R_below (by (with_reducible repeat (first | apply Kd.R_alloc | apply Kd.R_drewN | apply Kd.R_drew)); exact HO194.out) hb); have n3_ := Aside0.mk (Kd.N_lower ho35 (below_size (by repeat (first | (with_reducible first | exact HB.out | apply below_alloc | apply pw_below_drewN | apply below_drew1) | exact HB.out)))); have n4_ := Aside0.mk (below_step (by repeat (first | (with_reducible first | exact HB.out | apply below_alloc | apply pw_below_drewN | apply below_drew1) | exact HB.out)) hb); clear HO_2; clear HO191; clear HO194; clear HB; have HO_2 := n0_; have HO191 := n1_; have HO194 := n2_; have HO197 := n3_; have HB := n4_; clear n0_ n1_ n2_ n3_ n4_; clear hb ho35; obtain ⟨Ao36, co36, eo36⟩ := Kd.N_slice HO197.out; subst eo36) | ((with_reducible refine gate_callee (f := 8) rfl ?_); refine goesL_ (some 44) rfl rfl Tryd.func8 (by kernel_rfl) rfl #[.slice Ao36 y195.length co36] rfl (by (try simp only [List.map_toArray, List.map_cons, List.map_nil]); first | done | rfl | (simp only [List.length_drop, List.length_take]; rfl)) ?_; (with_reducible refine (spec_Join.calls kj7 _ _ y195 t198 _ ?side1 ?side2 A22.out).mono ?_); (case side1 => repeat (first | exact (Kd.N_reads' HO197.out).2.2 | (with_reducible refine Kd.C_alloc ?_ _) | (with_reducible refine Kd.C_drewN ?_ _) | (with_reducible refine Kd.C_drew ?_))); (case side2 => exact (Kd.N_reads' HO197.out).2.1); rintro e w37 ⟨v199, rfl, ho0, hb⟩; refine ⟨_, rfl, ?_⟩; have n0_ := Aside0.mk (Kd.V_elder' (by (with_reducible repeat (first | apply Kd.V_alloc | apply Kd.V_drewN | apply Kd.V_drew)); exact HO_2.out) (Kd.R_base ho0) hb); have n1_ := Aside0.mk (Kd.V_elder' (by (with_reducible repeat (first | apply Kd.V_alloc | apply Kd.V_drewN | apply Kd.V_drew)); exact HO191.out) (Kd.R_base ho0) hb); have n2_ := Aside0.mk (Kd.R_elder' (by (with_reducible repeat (first | apply Kd.R_alloc | apply Kd.R_drewN | apply Kd.R_drew)); exact HO194.out) (Kd.R_base ho0) hb); have n3_ := Aside0.mk (Kd.N_elder' (by (with_reducible repeat (first | apply Kd.N_alloc | apply Kd.N_drewN | apply Kd.N_drew)); exact HO197.out) (Kd.R_base ho0) hb); have n4_ := Aside0.mk (Kd.R_lower (Kd.R_new' (Kd.R_newM (M := fun k_ => (w.heap.size ≤ k_)) ho0 (below_size (by repeat (first | (with_reducible first | exact HB.out | apply below_alloc | apply pw_below_drewN | apply below_drew1) | exact HB.out))) (fun k_ h_ => h_)) (Kd.R_lt (by (with_reducible repeat (first | apply Kd.R_alloc | apply Kd.R_drewN | apply Kd.R_drew)); exact HO194.out))) (below_size (by repeat (first | (with_reducible first | exact HB.out | apply below_alloc | apply pw_below_drewN | apply below_drew1) | exact HB.out)))); have n5_ := Aside0.mk (below_step (by repeat (first | (with_reducible first | exact HB.out | apply below_alloc | apply pw_below_drewN | apply below_drew1) | exact HB.out)) hb); clear HO_2; clear HO191; clear HO194; clear HO197; clear HB; have HO_2 := n0_; have HO191 := n1_; have HO194 := n2_; have HO197 := n3_; have HO200 := n4_; have HB := n5_; clear n0_ n1_ n2_ n3_ n4_ n5_; (try clear hb); (try clear hb2); (try clear hk); (try clear hi); (try clear ho0); obtain ⟨Ao38, co38, eo38⟩ := Kd.R_slice HO200.out; subst eo38) | ((with_reducible refine gate_callee (f := 6) rfl ?_); refine goesL_ (some 47) rfl rfl Tryd.func6 (by kernel_rfl) rfl #[.slice Ao38 t198.length co38] rfl (by (try simp only [List.map_toArray, List.map_cons, List.map_nil]); first | done | rfl | (simp only [List.length_drop, List.length_take]; rfl)) ?_; (with_reducible refine (impl_DataURI.calls _ _ t198 t201 t202 true _ ?side1 ?side2 A23.out ?tabTabW).mono ?_); (case tabTabW => first | exact HTabW | exact ⟨Own.TabAt.below HTabW.out (by repeat (first | (with_reducible first | exact HB.out | apply below_alloc | apply pw_below_drewN | apply below_drew1) | exact HB.out))⟩ | exact ⟨Own.TabAt.drawn HTabW.out (by repeat (first | exact Drawn0.refl _ | apply Drawn0.step))⟩); (case side1 => repeat (first | exact (Kd.R_reads' HO200.out).2.2 | (with_reducible refine Kd.C_alloc ?_ _) | (with_reducible refine Kd.C_drewN ?_ _) | (with_reducible refine Kd.C_drew ?_))); (case side2 => exact (Kd.R_reads' HO200.out).2.1); rintro e w39 ⟨v204, v206, rfl, ho0, ho1, hb⟩; refine ⟨_, rfl, ?_⟩; have n0_ := Aside0.mk (Kd.V_mono (Kd.V_told (Kd.V_told (Kd.V_old (by (with_reducible repeat (first | apply Kd.V_alloc | apply Kd.V_drewN | apply Kd.V_drew)); exact HO_2.out) hb) (Kd.R_base ho0)) (Kd.R_base ho1)) (fun _ h_ => h_.1)); have n1_ := Aside0.mk (Kd.V_mono (Kd.V_told (Kd.V_told (Kd.V_old (by (with_reducible repeat (first | apply Kd.V_alloc | apply Kd.V_drewN | apply Kd.V_drew)); exact HO191.out) hb) (Kd.R_base ho0)) (Kd.R_base ho1)) (fun _ h_ => h_.1)); have n2_ := Aside0.mk (Kd.R_mono (Kd.R_told (Kd.R_told (Kd.R_old (by (with_reducible repeat (first | apply Kd.R_alloc | apply Kd.R_drewN | apply Kd.R_drew)); exact HO194.out) hb) (Kd.R_base ho0)) (Kd.R_base ho1)) (fun _ h_ => h_.1)); have n3_ := Aside0.mk (Kd.N_mono (Kd.N_told (Kd.N_told (Kd.N_old (by (with_reducible repeat (first | apply Kd.N_alloc | apply Kd.N_drewN | apply Kd.N_drew)); exact HO197.out) hb) (Kd.R_base ho0)) (Kd.R_base ho1)) (fun _ h_ => h_.1)); have n4_ := Aside0.mk (Kd.R_mono (Kd.R_told (Kd.R_told (Kd.R_old (by (with_reducible repeat (first | apply Kd.R_alloc | apply Kd.R_drewN | apply Kd.R_drew)); exact HO200.out) hb) (Kd.R_base ho0)) (Kd.R_base ho1)) (fun _ h_ => h_.1)); have n5_ := Aside0.mk (Kd.R_lower (Kd.R_new' (Kd.R_new' (Kd.R_newM (M := fun k_ => (w.heap.size ≤ k_)) ho0 (below_size (by repeat (first | (with_reducible first | exact HB.out | apply below_alloc | apply pw_below_drewN | apply below_drew1) | exact HB.out))) (fun k_ h_ => h_)) (Kd.R_lt (by (with_reducible repeat (first | apply Kd.R_alloc | apply Kd.R_drewN | apply Kd.R_drew)); exact HO194.out))) (Kd.R_lt (by (with_reducible repeat (first | apply Kd.R_alloc | apply Kd.R_drewN | apply Kd.R_drew)); exact HO200.out))) (below_size (by repeat (first | (with_reducible first | exact HB.out | apply below_alloc | apply pw_below_drewN | apply below_drew1) | exact HB.out)))); have n6_ := Aside0.mk (Kd.R_lower (Kd.R_new' (Kd.R_new' (Kd.R_newM (M := fun k_ => (w.heap.size ≤ k_)) ho1 (below_size (by repeat (first | (with_reducible first | exact HB.out | apply below_alloc | apply pw_below_drewN | apply below_drew1) | exact HB.out))) (fun k_ h_ => h_)) (Kd.R_lt (by (with_reducible repeat (first | apply Kd.R_alloc | apply Kd.R_drewN | apply Kd.R_drew)); exact HO194.out))) (Kd.R_lt (by (with_reducible repeat (first | apply Kd.R_alloc | apply Kd.R_drewN | apply Kd.R_drew)); exact HO200.out))) (below_size (by repeat (first | (with_reducible first | exact HB.out | apply below_alloc | apply pw_below_drewN | apply below_drew1) | exact HB.out)))); have n7_ := Aside0.mk (below_step (by repeat (first | (with_reducible first | exact HB.out | apply below_alloc | apply pw_below_drewN | apply below_drew1) | exact HB.out)) hb); clear HO_2; clear HO191; clear HO194; clear HO197; clear HO200; clear HB; have HO_2 := n0_; have HO191 := n1_; have HO194 := n2_; have HO197 := n3_; have HO200 := n4_; have HO205 := n5_; have HO207 := n6_; have HB := n7_; clear n0_ n1_ n2_ n3_ n4_ n5_ n6_ n7_; (try clear hb); (try clear hb2); (try clear hk); (try clear hi); (try clear ho0); (try clear ho1); have hcv40 := own_string (P := Tryd.prog) Tryd.underlying22 Tryd.underlying5 Tryd.underlying9 (Kd.own_of_R HO205.out); obtain ⟨Ao41, co41, eo41⟩ := Kd.R_slice HO207.out; subst eo41) | (go_at_call 10; (with_reducible refine (spec_SameBytes.calls kj7 _ _ t202 _ _ l2 t208 _ ?side1 ?side2 ?side3 ?side4 A28.out).mono ?_); (case side1 => repeat (first | exact (Kd.R_reads' HO207.out).2.2 | (with_reducible refine Kd.C_alloc ?_ _) | (with_reducible refine Kd.C_drewN ?_ _) | (with_reducible refine Kd.C_drew ?_))); (case side2 => exact (Kd.R_reads' HO207.out).2.1); (case side3 => repeat (first | exact (Kd.V_reads' HO_2.out).2.2 | (with_reducible refine Kd.C_alloc ?_ _) | (with_reducible refine Kd.C_drewN ?_ _) | (with_reducible refine Kd.C_drew ?_))); (case side4 => exact (Kd.V_reads' HO_2.out).2.1); rintro e w' ⟨rfl, ⟨nd, rfl⟩⟩))
                                go_ret
                                exact ⟨by first | rfl | (simp [errW_none, errW_some] <;> rfl) | (simp [*, errW_none, errW_some] <;> rfl), by repeat (first | (with_reducible first | exact HB.out | apply below_alloc | apply pw_below_drewN | apply below_drew1) | exact HB.out)⟩
                              · rw [if_neg c27] at H
                                have c27b0 : ((strOfNums t201).toList == ((a0 ++ (⟨#[47]⟩ : ByteArray)) ++ a1).toList) = false := beq_eq_false_iff_ne.mpr c27
                                have c27b1 : ((strOfNums t201).toList != ((a0 ++ (⟨#[47]⟩ : ByteArray)) ++ a1).toList) = true := bne_iff_ne.mpr c27
                                obtain rfl := Option.some.inj H
                                go_wp2_with (first | ((with_reducible refine gate_dst (N := 40) rfl ?_); (try (refine gate_guard (by rfl) ?_; dsimp only)); refine Go.Proofs.YthejmpldfndbfaaDoor.Own.V_bytes _ 5 rfl (N' := 40) rfl 9 22 _ rfl Tryd.underlying9 Tryd.underlying22 Tryd.underlying5 (((((⟨#[100, 97, 116, 97, 58]⟩ : ByteArray) ++ a0) ++ (⟨#[47]⟩ : ByteArray)) ++ a1) ++ (⟨#[44]⟩ : ByteArray)) rfl (of_decide_eq_true (by first | (with_reducible assumption) | assumption)) (Below.refl _ _) (Nat.le_refl _) ?_; intro v190 w42 ho43 hb hg_ hnew_; clear hg_ hnew_; (first | rw [← Ny189.out] at ho43 | (simp only [Int.reduceToNat] at ho43; rw [← Ny189.out] at ho43)); have n0_ := Aside0.mk (Kd.V_below (by (with_reducible repeat (first | apply Kd.V_alloc | apply Kd.V_drewN | apply Kd.V_drew)); exact HO_2.out) hb); have n1_ := Aside0.mk (Kd.V_lower (Kd.V_mono (ok' := fun k_ => (P2_ k_ ∨ w.heap.size ≤ k_)) ho43 (fun k_ hk_ => (.inr (Nat.le_trans (below_size (by repeat (first | (with_reducible first | exact HB.out | apply below_alloc | apply pw_below_drewN | apply below_drew1) | exact HB.out))) hk_)))) (below_size (by repeat (first | (with_reducible first | exact HB.out | apply below_alloc | apply pw_below_drewN | apply below_drew1) | exact HB.out)))); have n2_ := Aside0.mk (below_step (by repeat (first | (with_reducible first | exact HB.out | apply below_alloc | apply pw_below_drewN | apply below_drew1) | exact HB.out)) hb); clear HO_2; clear HB; have HO_2 := n0_; have HO191 := n1_; have HB := n2_; clear n0_ n1_ n2_; clear hb ho43) | ((with_reducible refine gate_callee (f := 9) rfl ?_); refine goesL_ (some 42) rfl rfl Tryd.func9 (by kernel_rfl) rfl #[.slice A2 l2.length c2, .int .i64 0] rfl (by (try simp only [List.map_toArray, List.map_cons, List.map_nil]); first | done | rfl | (simp only [List.length_drop, List.length_take]; rfl)) ?_; (with_reducible refine (impl_EncodeURL.calls _ _ l2 0 t192 _ ?side1 ?side2 A21.out ?tabTabU).mono ?_); (case tabTabU => first | exact HTabU | exact ⟨Own.TabAt.below HTabU.out (by repeat (first | (with_reducible first | exact HB.out | apply below_alloc | apply pw_below_drewN | apply below_drew1) | exact HB.out))⟩ | exact ⟨Own.TabAt.drawn HTabU.out (by repeat (first | exact Drawn0.refl _ | apply Drawn0.step))⟩); (case side1 => repeat (first | exact (Kd.V_reads' HO_2.out).2.2 | (with_reducible refine Kd.C_alloc ?_ _) | (with_reducible refine Kd.C_drewN ?_ _) | (with_reducible refine Kd.C_drew ?_))); (case side2 => exact (Kd.V_reads' HO_2.out).2.1); rintro e w44 ⟨v193, rfl, ho0, hb⟩; refine ⟨_, rfl, ?_⟩; have n0_ := Aside0.mk (Kd.V_elder' (by (with_reducible repeat (first | apply Kd.V_alloc | apply Kd.V_drewN | apply Kd.V_drew)); exact HO_2.out) (Kd.R_base ho0) hb); have n1_ := Aside0.mk (Kd.V_elder' (by (with_reducible repeat (first | apply Kd.V_alloc | apply Kd.V_drewN | apply Kd.V_drew)); exact HO191.out) (Kd.R_base ho0) hb); have n2_ := Aside0.mk (Kd.R_lower (Kd.R_newM (M := fun k_ => (w.heap.size ≤ k_)) ho0 (below_size (by repeat (first | (with_reducible first | exact HB.out | apply below_alloc | apply pw_below_drewN | apply below_drew1) | exact HB.out))) (fun k_ h_ => h_)) (below_size (by repeat (first | (with_reducible first | exact HB.out | apply below_alloc | apply pw_below_drewN | apply below_drew1) | exact HB.out)))); have n3_ := Aside0.mk (below_step (by repeat (first | (with_reducible first | exact HB.out | apply below_alloc | apply pw_below_drewN | apply below_drew1) | exact HB.out)) hb); clear HO_2; clear HO191; clear HB; have HO_2 := n0_; have HO191 := n1_; have HO194 := n2_; have HB := n3_; clear n0_ n1_ n2_ n3_; (try clear hb); (try clear hb2); (try clear hk); (try clear hi); (try clear ho0); obtain ⟨Ao45, co45, eo45⟩ := Kd.V_slice HO191.out; subst eo45; obtain ⟨Ao46, co46, eo46⟩ := Kd.R_slice HO194.out; subst eo46) | ((with_reducible refine gate_dst (N := 43) rfl ?_); (try (refine gate_guard (by rfl) ?_; dsimp only)); refine Kd.N_lit (Kd.slice 5 (Kd.int .u8)) _ 22 ?hg (N' := 43) ?hd (xs := ([y189, t192] : List (List Int))) (inner := [.slice Ao45 y189.length co45, .slice Ao46 t192.length co46]) (ok := (fun k_ => (P2_ k_ ∨ w.heap.size ≤ k_))) (okp := (fun k_ => (P2_ k_ ∨ w.heap.size ≤ k_))) ?hr ?hp (fun _ hk => hk) ((show ∀ k_, w44.heap.size ≤ k_ → (fun k_ => (P2_ k_ ∨ w.heap.size ≤ k_)) k_ from fun k_ hk => (.inr (Nat.le_trans (below_size (by repeat (first | (with_reducible first | exact HB.out | apply below_alloc | apply pw_below_drewN | apply below_drew1) | exact HB.out))) hk))) _ (Nat.le_refl _)) (Below.refl _ _) (Nat.le_refl _) (by simp) ?_; (case hd => rfl); (case hg => rfl); (case hr => first | (go_simp; done) | (go_simp; rfl)); (case hp => first | exact (Reps.one (show Kd.FK (Kd.slice 5 (Kd.int .u8)) _ _ y189 [.slice Ao45 y189.length co45] from (Kd.FK_slice_mk (Kd.V_reads' (Kd.V_mono (ok' := (fun k_ => (P2_ k_ ∨ w.heap.size ≤ k_))) (HO191.out) (fun k_ hk => hk.1))).2.1 (Kd.V_F (Kd.V_mono (ok' := (fun k_ => (P2_ k_ ∨ w.heap.size ≤ k_))) (HO191.out) (fun k_ hk => hk.1))))) (Reps.one (show Kd.FK (Kd.slice 5 (Kd.int .u8)) _ _ t192 [.slice Ao46 t192.length co46] from (Kd.FK_slice_mk (Kd.R_reads' (Kd.R_mono (ok' := (fun k_ => (P2_ k_ ∨ w.heap.size ≤ k_))) (HO194.out) (fun k_ hk => (.inr (hk.1))))).2.1 (Kd.R_F (Kd.R_mono (ok' := (fun k_ => (P2_ k_ ∨ w.heap.size ≤ k_))) (HO194.out) (fun k_ hk => (.inr (hk.1))))))) (Reps.none _ _))) | exact (Reps.one (show Kd.FK (Kd.slice 5 (Kd.int .u8)) _ _ y189 [.slice Ao45 y189.length co45] from (Kd.FK_slice_mk (Kd.V_reads' (Kd.V_mono (ok' := (fun k_ => (P2_ k_ ∨ w.heap.size ≤ k_))) (HO191.out) (fun k_ hk => hk.1))).2.1 (Kd.V_F (Kd.V_mono (ok' := (fun k_ => (P2_ k_ ∨ w.heap.size ≤ k_))) ((Kd.V_drewN HO191.out _)) (fun k_ hk => hk.1))))) (Reps.one (show Kd.FK (Kd.slice 5 (Kd.int .u8)) _ _ t192 [.slice Ao46 t192.length co46] from (Kd.FK_slice_mk (Kd.R_reads' (Kd.R_mono (ok' := (fun k_ => (P2_ k_ ∨ w.heap.size ≤ k_))) (HO194.out) (fun k_ hk => (.inr (hk.1))))).2.1 (Kd.R_F (Kd.R_mono (ok' := (fun k_ => (P2_ k_ ∨ w.heap.size ≤ k_))) ((Kd.R_drewN HO194.out _)) (fun k_ hk => (.inr (hk.1))))))) (Reps.none _ _))) | exact (Reps.one (show Kd.FK (Kd.slice 5 (Kd.int .u8)) _ _ y189 [.slice Ao45 y189.length co45] from (Kd.FK_slice_mk (Kd.V_reads' (Kd.V_mono (ok' := (fun k_ => (P2_ k_ ∨ w.heap.size ≤ k_))) (HO191.out) (fun k_ hk => hk.1))).2.1 (Kd.V_F (Kd.V_mono (ok' := (fun k_ => (P2_ k_ ∨ w.heap.size ≤ k_))) ((Kd.V_alloc HO191.out _)) (fun k_ hk => hk.1))))) (Reps.one (show Kd.FK (Kd.slice 5 (Kd.int .u8)) _ _ t192 [.slice Ao46 t192.length co46] from (Kd.FK_slice_mk (Kd.R_reads' (Kd.R_mono (ok' := (fun k_ => (P2_ k_ ∨ w.heap.size ≤ k_))) (HO194.out) (fun k_ hk => (.inr (hk.1))))).2.1 (Kd.R_F (Kd.R_mono (ok' := (fun k_ => (P2_ k_ ∨ w.heap.size ≤ k_))) ((Kd.R_alloc HO194.out _)) (fun k_ hk => (.inr (hk.1))))))) (Reps.none _ _))) | exact (Reps.one (show Kd.FK (Kd.slice 5 (Kd.int .u8)) _ _ y189 [.slice Ao45 y189.length co45] from (Kd.FK_slice_mk (Kd.V_reads' (Kd.V_mono (ok' := (fun k_ => (P2_ k_ ∨ w.heap.size ≤ k_))) (HO191.out) (fun k_ hk => hk.1))).2.1 (Kd.V_F (Kd.V_mono (ok' := (fun k_ => (P2_ k_ ∨ w.heap.size ≤ k_))) ((by (with_reducible repeat (first | apply Kd.V_alloc | apply Kd.V_drewN | apply Kd.V_drew)); exact HO191.out)) (fun k_ hk => hk.1))))) (Reps.one (show Kd.FK (Kd.slice 5 (Kd.int .u8)) _ _ t192 [.slice Ao46 t192.length co46] from (Kd.FK_slice_mk (Kd.R_reads' (Kd.R_mono (ok' := (fun k_ => (P2_ k_ ∨ w.heap.size ≤ k_))) (HO194.out) (fun k_ hk => (.inr (hk.1))))).2.1 (Kd.R_F (Kd.R_mono (ok' := (fun k_ => (P2_ k_ ∨ w.heap.size ≤ k_))) ((by (with_reducible repeat (first | apply Kd.R_alloc | apply Kd.R_drewN | apply Kd.R_drew)); exact HO194.out)) (fun k_ hk => (.inr (hk.1))))))) (Reps.none _ _)))); intro v196 w47 ho48 hb hg_ hnew_; clear hg_ hnew_; (first | rw [← Ny195.out] at ho48 | (simp only [Int.reduceToNat] at ho48; rw [← Ny195.out] at ho48)); have n0_ := Aside0.mk (Kd.V_elder' (by (with_reducible repeat (first | apply Kd.V_alloc | apply Kd.V_drewN | apply Kd.V_drew)); exact HO_2.out) (Kd.N_base ho48) hb); have n1_ := Aside0.mk (Kd.V_elder' (by (with_reducible repeat (first | apply Kd.V_alloc | apply Kd.V_drewN | apply Kd.V_drew)); exact HO191.out) (Kd.N_base ho48) hb); have n2_ := Aside0.mk (Kd.R_below (by (with_reducible repeat (first | apply Kd.R_alloc | apply Kd.R_drewN | apply Kd.R_drew)); exact HO194.out) hb); have n3_ := Aside0.mk (Kd.N_lower ho48 (below_size (by repeat (first | (with_reducible first | exact HB.out | apply below_alloc | apply pw_below_drewN | apply below_drew1) | exact HB.out)))); have n4_ := Aside0.mk (below_step (by repeat (first | (with_reducible first | exact HB.out | apply below_alloc | apply pw_below_drewN | apply below_drew1) | exact HB.out)) hb); clear HO_2; clear HO191; clear HO194; clear HB; have HO_2 := n0_; have HO191 := n1_; have HO194 := n2_; have HO197 := n3_; have HB := n4_; clear n0_ n1_ n2_ n3_ n4_; clear hb ho48; obtain ⟨Ao49, co49, eo49⟩ := Kd.N_slice HO197.out; subst eo49) | ((with_reducible refine gate_callee (f := 8) rfl ?_); refine goesL_ (some 44) rfl rfl Tryd.func8 (by kernel_rfl) rfl #[.slice Ao49 y195.length co49] rfl (by (try simp only [List.map_toArray, List.map_cons, List.map_nil]); first | done | rfl | (simp only [List.length_drop, List.length_take]; rfl)) ?_; (with_reducible refine (spec_Join.calls kj7 _ _ y195 t198 _ ?side1 ?side2 A22.out).mono ?_); (case side1 => repeat (first | exact (Kd.N_reads' HO197.out).2.2 | (with_reducible refine Kd.C_alloc ?_ _) | (with_reducible refine Kd.C_drewN ?_ _) | (with_reducible refine Kd.C_drew ?_))); (case side2 => exact (Kd.N_reads' HO197.out).2.1); rintro e w50 ⟨v199, rfl, ho0, hb⟩; refine ⟨_, rfl, ?_⟩; have n0_ := Aside0.mk (Kd.V_elder' (by (with_reducible repeat (first | apply Kd.V_alloc | apply Kd.V_drewN | apply Kd.V_drew)); exact HO_2.out) (Kd.R_base ho0) hb); have n1_ := Aside0.mk (Kd.V_elder' (by (with_reducible repeat (first | apply Kd.V_alloc | apply Kd.V_drewN | apply Kd.V_drew)); exact HO191.out) (Kd.R_base ho0) hb); have n2_ := Aside0.mk (Kd.R_elder' (by (with_reducible repeat (first | apply Kd.R_alloc | apply Kd.R_drewN | apply Kd.R_drew)); exact HO194.out) (Kd.R_base ho0) hb); have n3_ := Aside0.mk (Kd.N_elder' (by (with_reducible repeat (first | apply Kd.N_alloc | apply Kd.N_drewN | apply Kd.N_drew)); exact HO197.out) (Kd.R_base ho0) hb); have n4_ := Aside0.mk (Kd.R_lower (Kd.R_new' (Kd.R_newM (M := fun k_ => (w.heap.size ≤ k_)) ho0 (below_size (by repeat (first | (with_reducible first | exact HB.out | apply below_alloc | apply pw_below_drewN | apply below_drew1) | exact HB.out))) (fun k_ h_ => h_)) (Kd.R_lt (by (with_reducible repeat (first | apply Kd.R_alloc | apply Kd.R_drewN | apply Kd.R_drew)); exact HO194.out))) (below_size (by repeat (first | (with_reducible first | exact HB.out | apply below_alloc | apply pw_below_drewN | apply below_drew1) | exact HB.out)))); have n5_ := Aside0.mk (below_step (by repeat (first | (with_reducible first | exact HB.out | apply below_alloc | apply pw_below_drewN | apply below_drew1) | exact HB.out)) hb); clear HO_2; clear HO191; clear HO194; clear HO197; clear HB; have HO_2 := n0_; have HO191 := n1_; have HO194 := n2_; have HO197 := n3_; have HO200 := n4_; have HB := n5_; clear n0_ n1_ n2_ n3_ n4_ n5_; (try clear hb); (try clear hb2); (try clear hk); (try clear hi); (try clear ho0); obtain ⟨Ao51, co51, eo51⟩ := Kd.R_slice HO200.out; subst eo51) | ((with_reducible refine gate_callee (f := 6) rfl ?_); refine goesL_ (some 47) rfl rfl Tryd.func6 (by kernel_rfl) rfl #[.slice Ao51 t198.length co51] rfl (by (try simp only [List.map_toArray, List.map_cons, List.map_nil]); first | done | rfl | (simp only [List.length_drop, List.length_take]; rfl)) ?_; (with_reducible refine (impl_DataURI.calls _ _ t198 t201 t202 true _ ?side1 ?side2 A23.out ?tabTabW).mono ?_); (case tabTabW => first | exact HTabW | exact ⟨Own.TabAt.below HTabW.out (by repeat (first | (with_reducible first | exact HB.out | apply below_alloc | apply pw_below_drewN | apply below_drew1) | exact HB.out))⟩ | exact ⟨Own.TabAt.drawn HTabW.out (by repeat (first | exact Drawn0.refl _ | apply Drawn0.step))⟩); (case side1 => repeat (first | exact (Kd.R_reads' HO200.out).2.2 | (with_reducible refine Kd.C_alloc ?_ _) | (with_reducible refine Kd.C_drewN ?_ _) | (with_reducible refine Kd.C_drew ?_))); (case side2 => exact (Kd.R_reads' HO200.out).2.1); rintro e w52 ⟨v204, v206, rfl, ho0, ho1, hb⟩; refine ⟨_, rfl, ?_⟩; have n0_ := Aside0.mk (Kd.V_mono (Kd.V_told (Kd.V_told (Kd.V_old (by (with_reducible repeat (first | apply Kd.V_alloc | apply Kd.V_drewN | apply Kd.V_drew)); exact HO_2.out) hb) (Kd.R_base ho0)) (Kd.R_base ho1)) (fun _ h_ => h_.1)); have n1_ := Aside0.mk (Kd.V_mono (Kd.V_told (Kd.V_told (Kd.V_old (by (with_reducible repeat (first | apply Kd.V_alloc | apply Kd.V_drewN | apply Kd.V_drew)); exact HO191.out) hb) (Kd.R_base ho0)) (Kd.R_base ho1)) (fun _ h_ => h_.1)); have n2_ := Aside0.mk (Kd.R_mono (Kd.R_told (Kd.R_told (Kd.R_old (by (with_reducible repeat (first | apply Kd.R_alloc | apply Kd.R_drewN | apply Kd.R_drew)); exact HO194.out) hb) (Kd.R_base ho0)) (Kd.R_base ho1)) (fun _ h_ => h_.1)); have n3_ := Aside0.mk (Kd.N_mono (Kd.N_told (Kd.N_told (Kd.N_old (by (with_reducible repeat (first | apply Kd.N_alloc | apply Kd.N_drewN | apply Kd.N_drew)); exact HO197.out) hb) (Kd.R_base ho0)) (Kd.R_base ho1)) (fun _ h_ => h_.1)); have n4_ := Aside0.mk (Kd.R_mono (Kd.R_told (Kd.R_told (Kd.R_old (by (with_reducible repeat (first | apply Kd.R_alloc | apply Kd.R_drewN | apply Kd.R_drew)); exact HO200.out) hb) (Kd.R_base ho0)) (Kd.R_base ho1)) (fun _ h_ => h_.1)); have n5_ := Aside0.mk (Kd.R_lower (Kd.R_new' (Kd.R_new' (Kd.R_newM (M := fun k_ => (w.heap.size ≤ k_)) ho0 (below_size (by repeat (first | (with_reducible first | exact HB.out | apply below_alloc | apply pw_below_drewN | apply below_drew1) | exact HB.out))) (fun k_ h_ => h_)) (Kd.R_lt (by (with_reducible repeat (first | apply Kd.R_alloc | apply Kd.R_drewN | apply Kd.R_drew)); exact HO194.out))) (Kd.R_lt (by (with_reducible repeat (first | apply Kd.R_alloc | apply Kd.R_drewN | apply Kd.R_drew)); exact HO200.out))) (below_size (by repeat (first | (with_reducible first | exact HB.out | apply below_alloc | apply pw_below_drewN | apply below_drew1) | exact HB.out)))); have n6_ := Aside0.mk (Kd.R_lower (Kd.R_new' (Kd.R_new' (Kd.R_newM (M := fun k_ => (w.heap.size ≤ k_)) ho1 (below_size (by repeat (first | (with_reducible first | exact HB.out | apply below_alloc | apply pw_below_drewN | apply below_drew1) | exact HB.out))) (fun k_ h_ => h_)) (Kd.R_lt (by (with_reducible repeat (first | apply Kd.R_alloc | apply Kd.R_drewN | apply Kd.R_drew)); exact HO194.out))) (Kd.R_lt (by (with_reducible repeat (first | apply Kd.R_alloc | apply Kd.R_drewN | apply Kd.R_drew)); exact HO200.out))) (below_size (by repeat (first | (with_reducible first | exact HB.out | apply below_alloc | apply pw_below_drewN | apply below_drew1) | exact HB.out)))); have n7_ := Aside0.mk (below_step (by repeat (first | (with_reducible first | exact HB.out | apply below_alloc | apply pw_below_drewN | apply below_drew1) | exact HB.out)) hb); clear HO_2; clear HO191; clear HO194; clear HO197; clear HO200; clear HB; have HO_2 := n0_; have HO191 := n1_; have HO194 := n2_; have HO197 := n3_; have HO200 := n4_; have HO205 := n5_; have HO207 := n6_; have HB := n7_; clear n0_ n1_ n2_ n3_ n4_ n5_ n6_ n7_; (try clear hb); (try clear hb2); (try clear hk); (try clear hi); (try clear ho0); (try clear ho1); have hcv53 := own_string (P := Tryd.prog) Tryd.underlying22 Tryd.underlying5 Tryd.underlying9 (Kd.own_of_R HO205.out)))
                                go_ret
                                exact ⟨by first | rfl | (simp [errW_none, errW_some] <;> rfl) | (simp [*, errW_none, errW_some] <;> rfl), by repeat (first | (with_reducible first | exact HB.out | apply below_alloc | apply pw_below_drewN | apply below_drew1) | exact HB.out)⟩
                            · rw [if_neg c26] at H
                              exact absurd H (by simp)
                          · rw [if_neg c25] at H
                            exact absurd H (by simp)
                        · replace c24 := Bool.eq_false_iff.mpr c24
                          subst c24
                          have H1 : (some false) = some r := by rw [if_neg (show ¬ (false = true) by decide)] at H; exact H
                          clear H
                          have H := H1
                          clear H1
                          obtain rfl := Option.some.inj H
                          go_wp2_with (first | ((with_reducible refine gate_dst (N := 40) rfl ?_); (try (refine gate_guard (by rfl) ?_; dsimp only)); refine Go.Proofs.YthejmpldfndbfaaDoor.Own.V_bytes _ 5 rfl (N' := 40) rfl 9 22 _ rfl Tryd.underlying9 Tryd.underlying22 Tryd.underlying5 (((((⟨#[100, 97, 116, 97, 58]⟩ : ByteArray) ++ a0) ++ (⟨#[47]⟩ : ByteArray)) ++ a1) ++ (⟨#[44]⟩ : ByteArray)) rfl (of_decide_eq_true (by first | (with_reducible assumption) | assumption)) (Below.refl _ _) (Nat.le_refl _) ?_; intro v190 w54 ho55 hb hg_ hnew_; clear hg_ hnew_; (first | rw [← Ny189.out] at ho55 | (simp only [Int.reduceToNat] at ho55; rw [← Ny189.out] at ho55)); have n0_ := Aside0.mk (Kd.V_below (by (with_reducible repeat (first | apply Kd.V_alloc | apply Kd.V_drewN | apply Kd.V_drew)); exact HO_2.out) hb); have n1_ := Aside0.mk (Kd.V_lower (Kd.V_mono (ok' := fun k_ => (P2_ k_ ∨ w.heap.size ≤ k_)) ho55 (fun k_ hk_ => (.inr (Nat.le_trans (below_size (by repeat (first | (with_reducible first | exact HB.out | apply below_alloc | apply pw_below_drewN | apply below_drew1) | exact HB.out))) hk_)))) (below_size (by repeat (first | (with_reducible first | exact HB.out | apply below_alloc | apply pw_below_drewN | apply below_drew1) | exact HB.out)))); have n2_ := Aside0.mk (below_step (by repeat (first | (with_reducible first | exact HB.out | apply below_alloc | apply pw_below_drewN | apply below_drew1) | exact HB.out)) hb); clear HO_2; clear HB; have HO_2 := n0_; have HO191 := n1_; have HB := n2_; clear n0_ n1_ n2_; clear hb ho55) | ((with_reducible refine gate_callee (f := 9) rfl ?_); refine goesL_ (some 42) rfl rfl Tryd.func9 (by kernel_rfl) rfl #[.slice A2 l2.length c2, .int .i64 0] rfl (by (try simp only [List.map_toArray, List.map_cons, List.map_nil]); first | done | rfl | (simp only [List.length_drop, List.length_take]; rfl)) ?_; (with_reducible refine (impl_EncodeURL.calls _ _ l2 0 t192 _ ?side1 ?side2 A21.out ?tabTabU).mono ?_); (case tabTabU => first | exact HTabU | exact ⟨Own.TabAt.below HTabU.out (by repeat (first | (with_reducible first | exact HB.out | apply below_alloc | apply pw_below_drewN | apply below_drew1) | exact HB.out))⟩ | exact ⟨Own.TabAt.drawn HTabU.out (by repeat (first | exact Drawn0.refl _ | apply Drawn0.step))⟩); (case side1 => repeat (first | exact (Kd.V_reads' HO_2.out).2.2 | (with_reducible refine Kd.C_alloc ?_ _) | (with_reducible refine Kd.C_drewN ?_ _) | (with_reducible refine Kd.C_drew ?_))); (case side2 => exact (Kd.V_reads' HO_2.out).2.1); rintro e w56 ⟨v193, rfl, ho0, hb⟩; refine ⟨_, rfl, ?_⟩; have n0_ := Aside0.mk (Kd.V_elder' (by (with_reducible repeat (first | apply Kd.V_alloc | apply Kd.V_drewN | apply Kd.V_drew)); exact HO_2.out) (Kd.R_base ho0) hb); have n1_ := Aside0.mk (Kd.V_elder' (by (with_reducible repeat (first | apply Kd.V_alloc | apply Kd.V_drewN | apply Kd.V_drew)); exact HO191.out) (Kd.R_base ho0) hb); have n2_ := Aside0.mk (Kd.R_lower (Kd.R_newM (M := fun k_ => (w.heap.size ≤ k_)) ho0 (below_size (by repeat (first | (with_reducible first | exact HB.out | apply below_alloc | apply pw_below_drewN | apply below_drew1) | exact HB.out))) (fun k_ h_ => h_)) (below_size (by repeat (first | (with_reducible first | exact HB.out | apply below_alloc | apply pw_below_drewN | apply below_drew1) | exact HB.out)))); have n3_ := Aside0.mk (below_step (by repeat (first | (with_reducible first | exact HB.out | apply below_alloc | apply pw_below_drewN | apply below_drew1) | exact HB.out)) hb); clear HO_2; clear HO191; clear HB; have HO_2 := n0_; have HO191 := n1_; have HO194 := n2_; have HB := n3_; clear n0_ n1_ n2_ n3_; (try clear hb); (try clear hb2); (try clear hk); (try clear hi); (try clear ho0); obtain ⟨Ao57, co57, eo57⟩ := Kd.V_slice HO191.out; subst eo57; obtain ⟨Ao58, co58, eo58⟩ := Kd.R_slice HO194.out; subst eo58) | ((with_reducible refine gate_dst (N := 43) rfl ?_); (try (refine gate_guard (by rfl) ?_; dsimp only)); refine Kd.N_lit (Kd.slice 5 (Kd.int .u8)) _ 22 ?hg (N' := 43) ?hd (xs := ([y189, t192] : List (List Int))) (inner := [.slice Ao57 y189.length co57, .slice Ao58 t192.length co58]) (ok := (fun k_ => (P2_ k_ ∨ w.heap.size ≤ k_))) (okp := (fun k_ => (P2_ k_ ∨ w.heap.size ≤ k_))) ?hr ?hp (fun _ hk => hk) ((show ∀ k_, w56.heap.size ≤ k_ → (fun k_ => (P2_ k_ ∨ w.heap.size ≤ k_)) k_ from fun k_ hk => (.inr (Nat.le_trans (below_size (by repeat (first | (with_reducible first | exact HB.out | apply below_alloc | apply pw_below_drewN | apply below_drew1) | exact HB.out))) hk))) _ (Nat.le_refl _)) (Below.refl _ _) (Nat.le_refl _) (by simp) ?_; (case hd => rfl); (case hg => rfl); (case hr => first | (go_simp; done) | (go_simp; rfl)); (case hp => first | exact (Reps.one (show Kd.FK (Kd.slice 5 (Kd.int .u8)) _ _ y189 [.slice Ao57 y189.length co57] from (Kd.FK_slice_mk (Kd.V_reads' (Kd.V_mono (ok' := (fun k_ => (P2_ k_ ∨ w.heap.size ≤ k_))) (HO191.out) (fun k_ hk => hk.1))).2.1 (Kd.V_F (Kd.V_mono (ok' := (fun k_ => (P2_ k_ ∨ w.heap.size ≤ k_))) (HO191.out) (fun k_ hk => hk.1))))) (Reps.one (show Kd.FK (Kd.slice 5 (Kd.int .u8)) _ _ t192 [.slice Ao58 t192.length co58] from (Kd.FK_slice_mk (Kd.R_reads' (Kd.R_mono (ok' := (fun k_ => (P2_ k_ ∨ w.heap.size ≤ k_))) (HO194.out) (fun k_ hk => (.inr (hk.1))))).2.1 (Kd.R_F (Kd.R_mono (ok' := (fun k_ => (P2_ k_ ∨ w.heap.size ≤ k_))) (HO194.out) (fun k_ hk => (.inr (hk.1))))))) (Reps.none _ _))) | exact (Reps.one (show Kd.FK (Kd.slice 5 (Kd.int .u8)) _ _ y189 [.slice Ao57 y189.length co57] from (Kd.FK_slice_mk (Kd.V_reads' (Kd.V_mono (ok' := (fun k_ => (P2_ k_ ∨ w.heap.size ≤ k_))) (HO191.out) (fun k_ hk => hk.1))).2.1 (Kd.V_F (Kd.V_mono (ok' := (fun k_ => (P2_ k_ ∨ w.heap.size ≤ k_))) ((Kd.V_drewN HO191.out _)) (fun k_ hk => hk.1))))) (Reps.one (show Kd.FK (Kd.slice 5 (Kd.int .u8)) _ _ t192 [.slice Ao58 t192.length co58] from (Kd.FK_slice_mk (Kd.R_reads' (Kd.R_mono (ok' := (fun k_ => (P2_ k_ ∨ w.heap.size ≤ k_))) (HO194.out) (fun k_ hk => (.inr (hk.1))))).2.1 (Kd.R_F (Kd.R_mono (ok' := (fun k_ => (P2_ k_ ∨ w.heap.size ≤ k_))) ((Kd.R_drewN HO194.out _)) (fun k_ hk => (.inr (hk.1))))))) (Reps.none _ _))) | exact (Reps.one (show Kd.FK (Kd.slice 5 (Kd.int .u8)) _ _ y189 [.slice Ao57 y189.length co57] from (Kd.FK_slice_mk (Kd.V_reads' (Kd.V_mono (ok' := (fun k_ => (P2_ k_ ∨ w.heap.size ≤ k_))) (HO191.out) (fun k_ hk => hk.1))).2.1 (Kd.V_F (Kd.V_mono (ok' := (fun k_ => (P2_ k_ ∨ w.heap.size ≤ k_))) ((Kd.V_alloc HO191.out _)) (fun k_ hk => hk.1))))) (Reps.one (show Kd.FK (Kd.slice 5 (Kd.int .u8)) _ _ t192 [.slice Ao58 t192.length co58] from (Kd.FK_slice_mk (Kd.R_reads' (Kd.R_mono (ok' := (fun k_ => (P2_ k_ ∨ w.heap.size ≤ k_))) (HO194.out) (fun k_ hk => (.inr (hk.1))))).2.1 (Kd.R_F (Kd.R_mono (ok' := (fun k_ => (P2_ k_ ∨ w.heap.size ≤ k_))) ((Kd.R_alloc HO194.out _)) (fun k_ hk => (.inr (hk.1))))))) (Reps.none _ _))) | exact (Reps.one (show Kd.FK (Kd.slice 5 (Kd.int .u8)) _ _ y189 [.slice Ao57 y189.length co57] from (Kd.FK_slice_mk (Kd.V_reads' (Kd.V_mono (ok' := (fun k_ => (P2_ k_ ∨ w.heap.size ≤ k_))) (HO191.out) (fun k_ hk => hk.1))).2.1 (Kd.V_F (Kd.V_mono (ok' := (fun k_ => (P2_ k_ ∨ w.heap.size ≤ k_))) ((by (with_reducible repeat (first | apply Kd.V_alloc | apply Kd.V_drewN | apply Kd.V_drew)); exact HO191.out)) (fun k_ hk => hk.1))))) (Reps.one (show Kd.FK (Kd.slice 5 (Kd.int .u8)) _ _ t192 [.slice Ao58 t192.length co58] from (Kd.FK_slice_mk (Kd.R_reads' (Kd.R_mono (ok' := (fun k_ => (P2_ k_ ∨ w.heap.size ≤ k_))) (HO194.out) (fun k_ hk => (.inr (hk.1))))).2.1 (Kd.R_F (Kd.R_mono (ok' := (fun k_ => (P2_ k_ ∨ w.heap.size ≤ k_))) ((by (with_reducible repeat (first | apply Kd.R_alloc | apply Kd.R_drewN | apply Kd.R_drew)); exact HO194.out)) (fun k_ hk => (.inr (hk.1))))))) (Reps.none _ _)))); intro v196 w59 ho60 hb hg_ hnew_; clear hg_ hnew_; (first | rw [← Ny195.out] at ho60 | (simp only [Int.reduceToNat] at ho60; rw [← Ny195.out] at ho60)); have n0_ := Aside0.mk (Kd.V_elder' (by (with_reducible repeat (first | apply Kd.V_alloc | apply Kd.V_drewN | apply Kd.V_drew)); exact HO_2.out) (Kd.N_base ho60) hb); have n1_ := Aside0.mk (Kd.V_elder' (by (with_reducible repeat (first | apply Kd.V_alloc | apply Kd.V_drewN | apply Kd.V_drew)); exact HO191.out) (Kd.N_base ho60) hb); have n2_ := Aside0.mk (Kd.R_below (by (with_reducible repeat (first | apply Kd.R_alloc | apply Kd.R_drewN | apply Kd.R_drew)); exact HO194.out) hb); have n3_ := Aside0.mk (Kd.N_lower ho60 (below_size (by repeat (first | (with_reducible first | exact HB.out | apply below_alloc | apply pw_below_drewN | apply below_drew1) | exact HB.out)))); have n4_ := Aside0.mk (below_step (by repeat (first | (with_reducible first | exact HB.out | apply below_alloc | apply pw_below_drewN | apply below_drew1) | exact HB.out)) hb); clear HO_2; clear HO191; clear HO194; clear HB; have HO_2 := n0_; have HO191 := n1_; have HO194 := n2_; have HO197 := n3_; have HB := n4_; clear n0_ n1_ n2_ n3_ n4_; clear hb ho60; obtain ⟨Ao61, co61, eo61⟩ := Kd.N_slice HO197.out; subst eo61) | ((with_reducible refine gate_callee (f := 8) rfl ?_); refine goesL_ (some 44) rfl rfl Tryd.func8 (by kernel_rfl) rfl #[.slice Ao61 y195.length co61] rfl (by (try simp only [List.map_toArray, List.map_cons, List.map_nil]); first | done | rfl | (simp only [List.length_drop, List.length_take]; rfl)) ?_; (with_reducible refine (spec_Join.calls kj7 _ _ y195 t198 _ ?side1 ?side2 A22.out).mono ?_); (case side1 => repeat (first | exact (Kd.N_reads' HO197.out).2.2 | (with_reducible refine Kd.C_alloc ?_ _) | (with_reducible refine Kd.C_drewN ?_ _) | (with_reducible refine Kd.C_drew ?_))); (case side2 => exact (Kd.N_reads' HO197.out).2.1); rintro e w62 ⟨v199, rfl, ho0, hb⟩; refine ⟨_, rfl, ?_⟩; have n0_ := Aside0.mk (Kd.V_elder' (by (with_reducible repeat (first | apply Kd.V_alloc | apply Kd.V_drewN | apply Kd.V_drew)); exact HO_2.out) (Kd.R_base ho0) hb); have n1_ := Aside0.mk (Kd.V_elder' (by (with_reducible repeat (first | apply Kd.V_alloc | apply Kd.V_drewN | apply Kd.V_drew)); exact HO191.out) (Kd.R_base ho0) hb); have n2_ := Aside0.mk (Kd.R_elder' (by (with_reducible repeat (first | apply Kd.R_alloc | apply Kd.R_drewN | apply Kd.R_drew)); exact HO194.out) (Kd.R_base ho0) hb); have n3_ := Aside0.mk (Kd.N_elder' (by (with_reducible repeat (first | apply Kd.N_alloc | apply Kd.N_drewN | apply Kd.N_drew)); exact HO197.out) (Kd.R_base ho0) hb); have n4_ := Aside0.mk (Kd.R_lower (Kd.R_new' (Kd.R_newM (M := fun k_ => (w.heap.size ≤ k_)) ho0 (below_size (by repeat (first | (with_reducible first | exact HB.out | apply below_alloc | apply pw_below_drewN | apply below_drew1) | exact HB.out))) (fun k_ h_ => h_)) (Kd.R_lt (by (with_reducible repeat (first | apply Kd.R_alloc | apply Kd.R_drewN | apply Kd.R_drew)); exact HO194.out))) (below_size (by repeat (first | (with_reducible first | exact HB.out | apply below_alloc | apply pw_below_drewN | apply below_drew1) | exact HB.out)))); have n5_ := Aside0.mk (below_step (by repeat (first | (with_reducible first | exact HB.out | apply below_alloc | apply pw_below_drewN | apply below_drew1) | exact HB.out)) hb); clear HO_2; clear HO191; clear HO194; clear HO197; clear HB; have HO_2 := n0_; have HO191 := n1_; have HO194 := n2_; have HO197 := n3_; have HO200 := n4_; have HB := n5_; clear n0_ n1_ n2_ n3_ n4_ n5_; (try clear hb); (try clear hb2); (try clear hk); (try clear hi); (try clear ho0); obtain ⟨Ao63, co63, eo63⟩ := Kd.R_slice HO200.out; subst eo63) | ((with_reducible refine gate_callee (f := 6) rfl ?_); refine goesL_ (some 47) rfl rfl Tryd.func6 (by kernel_rfl) rfl #[.slice Ao63 t198.length co63] rfl (by (try simp only [List.map_toArray, List.map_cons, List.map_nil]); first | done | rfl | (simp only [List.length_drop, List.length_take]; rfl)) ?_; (with_reducible refine (impl_DataURI.calls _ _ t198 t201 t202 false _ ?side1 ?side2 A23.out ?tabTabW).mono ?_); (case tabTabW => first | exact HTabW | exact ⟨Own.TabAt.below HTabW.out (by repeat (first | (with_reducible first | exact HB.out | apply below_alloc | apply pw_below_drewN | apply below_drew1) | exact HB.out))⟩ | exact ⟨Own.TabAt.drawn HTabW.out (by repeat (first | exact Drawn0.refl _ | apply Drawn0.step))⟩); (case side1 => repeat (first | exact (Kd.R_reads' HO200.out).2.2 | (with_reducible refine Kd.C_alloc ?_ _) | (with_reducible refine Kd.C_drewN ?_ _) | (with_reducible refine Kd.C_drew ?_))); (case side2 => exact (Kd.R_reads' HO200.out).2.1); rintro e w64 ⟨v204, v206, rfl, ho0, ho1, hb⟩; refine ⟨_, rfl, ?_⟩; have n0_ := Aside0.mk (Kd.V_mono (Kd.V_told (Kd.V_told (Kd.V_old (by (with_reducible repeat (first | apply Kd.V_alloc | apply Kd.V_drewN | apply Kd.V_drew)); exact HO_2.out) hb) (Kd.R_base ho0)) (Kd.R_base ho1)) (fun _ h_ => h_.1)); have n1_ := Aside0.mk (Kd.V_mono (Kd.V_told (Kd.V_told (Kd.V_old (by (with_reducible repeat (first | apply Kd.V_alloc | apply Kd.V_drewN | apply Kd.V_drew)); exact HO191.out) hb) (Kd.R_base ho0)) (Kd.R_base ho1)) (fun _ h_ => h_.1)); have n2_ := Aside0.mk (Kd.R_mono (Kd.R_told (Kd.R_told (Kd.R_old (by (with_reducible repeat (first | apply Kd.R_alloc | apply Kd.R_drewN | apply Kd.R_drew)); exact HO194.out) hb) (Kd.R_base ho0)) (Kd.R_base ho1)) (fun _ h_ => h_.1)); have n3_ := Aside0.mk (Kd.N_mono (Kd.N_told (Kd.N_told (Kd.N_old (by (with_reducible repeat (first | apply Kd.N_alloc | apply Kd.N_drewN | apply Kd.N_drew)); exact HO197.out) hb) (Kd.R_base ho0)) (Kd.R_base ho1)) (fun _ h_ => h_.1)); have n4_ := Aside0.mk (Kd.R_mono (Kd.R_told (Kd.R_told (Kd.R_old (by (with_reducible repeat (first | apply Kd.R_alloc | apply Kd.R_drewN | apply Kd.R_drew)); exact HO200.out) hb) (Kd.R_base ho0)) (Kd.R_base ho1)) (fun _ h_ => h_.1)); have n5_ := Aside0.mk (Kd.R_lower (Kd.R_new' (Kd.R_new' (Kd.R_newM (M := fun k_ => (w.heap.size ≤ k_)) ho0 (below_size (by repeat (first | (with_reducible first | exact HB.out | apply below_alloc | apply pw_below_drewN | apply below_drew1) | exact HB.out))) (fun k_ h_ => h_)) (Kd.R_lt (by (with_reducible repeat (first | apply Kd.R_alloc | apply Kd.R_drewN | apply Kd.R_drew)); exact HO194.out))) (Kd.R_lt (by (with_reducible repeat (first | apply Kd.R_alloc | apply Kd.R_drewN | apply Kd.R_drew)); exact HO200.out))) (below_size (by repeat (first | (with_reducible first | exact HB.out | apply below_alloc | apply pw_below_drewN | apply below_drew1) | exact HB.out)))); have n6_ := Aside0.mk (Kd.R_lower (Kd.R_new' (Kd.R_new' (Kd.R_newM (M := fun k_ => (w.heap.size ≤ k_)) ho1 (below_size (by repeat (first | (with_reducible first | exact HB.out | apply below_alloc | apply pw_below_drewN | apply below_drew1) | exact HB.out))) (fun k_ h_ => h_)) (Kd.R_lt (by (with_reducible repeat (first | apply Kd.R_alloc | apply Kd.R_drewN | apply Kd.R_drew)); exact HO194.out))) (Kd.R_lt (by (with_reducible repeat (first | apply Kd.R_alloc | apply Kd.R_drewN | apply Kd.R_drew)); exact HO200.out))) (below_size (by repeat (first | (with_reducible first | exact HB.out | apply below_alloc | apply pw_below_drewN | apply below_drew1) | exact HB.out)))); have n7_ := Aside0.mk (below_step (by repeat (first | (with_reducible first | exact HB.out | apply below_alloc | apply pw_below_drewN | apply below_drew1) | exact HB.out)) hb); clear HO_2; clear HO191; clear HO194; clear HO197; clear HO200; clear HB; have HO_2 := n0_; have HO191 := n1_; have HO194 := n2_; have HO197 := n3_; have HO200 := n4_; have HO205 := n5_; have HO207 := n6_; have HB := n7_; clear n0_ n1_ n2_ n3_ n4_ n5_ n6_ n7_; (try clear hb); (try clear hb2); (try clear hk); (try clear hi); (try clear ho0); (try clear ho1)))
                          go_ret
                          exact ⟨by first | rfl | (simp [errW_none, errW_some] <;> rfl) | (simp [*, errW_none, errW_some] <;> rfl), by repeat (first | (with_reducible first | exact HB.out | apply below_alloc | apply pw_below_drewN | apply below_drew1) | exact HB.out)⟩
                      · rw [if_neg c20] at H
                        exact absurd H (by simp)
                    · rw [if_neg c19] at H
                      exact absurd H (by simp)
                  · rw [if_neg c18] at H
                    exact absurd H (by simp)
                · rw [if_neg c17] at H
                  exact absurd H (by simp)
              · rw [if_neg c16] at H
                exact absurd H (by simp)

/-- THE ONE PURE STATEMENT of laws_FnUrlData: yours. -/
def laws_FnUrlData.Pure : Prop := ∀ (a0 : ByteArray) (a1 : ByteArray) (l2 : List Int), a0.size ≤ 140737488351232 → a1.size ≤ 140737488351232 → l2.length ≤ maxLen → l2.length * 1 ≤ 140737488351232 → (∀ x ∈ l2, (Lit.int .u8 x).wf = true) → ∃ k, laws_FnUrlData.f k a0 a1 l2 = some true
theorem laws_FnUrlData.walk (P : laws_FnUrlData.Pure) (a0 : ByteArray) (a1 : ByteArray) (a2 : Option Addr) (len2 cap2 : Nat) (z2 : List Int) (w : World) (w0 : a0.size ≤ 140737488351232) (w1 : a1.size ≤ 140737488351232) (w2 : (a2 = none ∧ len2 = 0 ∧ cap2 = 0 ∧ z2 = []) ∨ ∃ x, a2 = some x ∧ len2 ≤ cap2 ∧ cap2 ≤ maxLen ∧ z2.length = cap2 ∧ (∀ i, i < z2.length → w.cell? (x.add i) = some (.int .u8 (z2.getD i 0))) ∧ ∀ n ∈ z2, (Lit.int .u8 n).wf = true) (y2 : len2 * 1 ≤ 140737488351232) (HTabU : Aside0 (Own.TabU w)) (HTabW : Aside0 (Own.TabW w)) :
    Calls Tryd.prog 4 #[.string a0, .string a1, .slice a2 len2 cap2] w fun e w' => e = .returned (.bool true) ∧ Below w.heap.size w w' := by
  obtain ⟨l2, rfl, hr2, hm2, hw2, hc2⟩ := ReadsInt.ofRowC w2
  obtain ⟨k, h⟩ := P a0 a1 l2 w0 w1 hm2 y2 hw2
  have CH_ : ∀ {kk_ : IntKind} {AA_ : Option Addr} {xx_ : List Int}, (Kd.int kk_).C w AA_ xx_.length xx_ → Kd.F (Kd.int kk_) w (fun _ => True) AA_ xx_.length xx_ := fun hh_ W' hW => (Kd.heap_int _).C (fun k hk => hW k trivial hk) hh_
  refine (laws_FnUrlData.calls k a0 a1 (fun _ => True) _ _ l2 true w (Kd.V_mk hc2 (CH_ (Kd.C_of_reads (d := (0 : Int)) (h1 := fun _ => rfl) hr2))) h HTabU HTabW).mono ?_
  rintro e w' ⟨rfl, hd⟩
  exact ⟨rfl, hd⟩

end Go.Proofs.YthejmpldfndbfaaDoor.PFnUrlData
