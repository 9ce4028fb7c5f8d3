-- Laid by a program of this session, out of the translation's print.
import Derived.Test.YteklgpjdcdkdpaaPFnNumberLengthx0
import Derived.Test.YteklgpjdcdkdpaaPFnNumberLengthx1
import Derived.Test.YteklgpjdcdkdpaaPFnNumberLengthx2
namespace Go.Proofs.Yteklgpjdcdkdpaa.PFnNumberLength
open Go.RowKit Go.Proofs.YteklgpjdcdkdpaaW.PrintWords Go.Proofs.YteklgpjdcdkdpaaW.PrintLast Go.Proofs.YteklgpjdcdkdpaaW.PrintMore
attribute [local go_sem] max2_int min2_int max_two min_two max_three min_three max_four min_four   -- for this text's walks alone
set_option linter.unusedVariables false
set_option linter.unusedSimpArgs false

/-! ### impl_own: function 48 -/
def impl_own.f (l0 : List Int) : Option (List Int) := (some (([] : List Int) : List Int)).bind fun y121 => (if y121.length + l0.length < 140737488355328 then (some (y121 ++ l0)) else (none))
set_option maxHeartbeats 8000000 in
set_option maxRecDepth 100000 in
theorem impl_own.calls (A0 : Option Addr) (c0 : Nat) (l0 : List Int) (r : List Int) (w : World) (hr0 : Kd.C (Kd.int .u8) w A0 l0.length l0) (hc0 : l0.length ≤ c0) (h : impl_own.f l0 = some r) :
    Calls Try.prog 48 #[.slice A0 l0.length c0] w fun e w' => ∃ v0_ : Value, e = .returned (v0_) ∧ Kd.R (Kd.int .u8) 5 w' w.heap.size (fun _ => True) v0_ r ∧ Below w.heap.size w w' := by
  have HR0 := Aside0.mk hr0
  have HC0 := Aside0.mk hc0
  clear hr0 hc0
  have HB := Aside0.mk (Below.refl w.heap.size w)
  have H : ((some (([] : List Int) : List Int)).bind fun y121 => (if y121.length + l0.length < 140737488355328 then (some (y121 ++ l0)) else (none))) = some r := h
  clear h
  obtain ⟨y121, hy121⟩ : ∃ y_ : List Int, y_ = (([] : List Int)) := ⟨_, rfl⟩
  replace H : (if y121.length + l0.length < 140737488355328 then (some (y121 ++ l0)) else (none)) = some r := by first | (rw [hy121]; with_reducible exact H) | (have H2_ := (Option.bind_some _ _).symm.trans H; rw [hy121]; with_reducible exact H2_) | (have H2_ := (Option.bind_some _ _).symm.trans H; with_reducible exact H2_) | with_reducible exact H | (rw [hy121]; exact H) | exact H
  have Ny121 := Aside0.mk hy121
  clear hy121
  by_cases c2 : y121.length + l0.length < 140737488355328
  · rw [if_pos c2] at H
    have LMc2 := Aside0.mk c2
    clear c2
    obtain ⟨y124, hy124⟩ : ∃ y_ : List Int, y_ = (y121 ++ l0) := ⟨_, rfl⟩
    replace H : (some y124) = some r := by first | (rw [hy124]; with_reducible exact H) | (have H2_ := (Option.bind_some _ _).symm.trans H; rw [hy124]; with_reducible exact H2_) | (have H2_ := (Option.bind_some _ _).symm.trans H; with_reducible exact H2_) | with_reducible exact H | (rw [hy124]; exact H) | exact H
    have Ny124 := Aside0.mk hy124
    clear hy124
    as_aux_lemma =>
      obtain rfl := Option.some.inj H
      go_enter Try.func48, Try.ntmps48
      go_wp2_with (first | ((with_reducible refine gate_dst (N := 3) rfl ?_); refine Kd.R_lit (Kd.int .u8) _ 5 ?hg (N := 3) ?hd (xs := ([] : List Int)) (inner := []) (ok := fun _ => True) (okp := fun _ => True) ?hr ?hp (fun _ hk => hk) trivial (Below.refl _ _) (Nat.le_refl _) (by simp) ?_; (case hd => rfl); (case hg => rfl); (case hr => first | (go_simp; done) | (go_simp; rfl)); (case hp => exact (Reps.none _ _)); intro v122 w3 ho4 hb hg_ hnew_; clear hg_ hnew_; (first | rw [← Ny121.out] at ho4 | (simp only [Int.reduceToNat] at ho4; rw [← Ny121.out] at ho4)); have n0_ := Aside0.mk (Kd.R_lower ho4 (below_size (by repeat (first | (with_reducible first | exact HB.out | apply below_alloc | apply pw_below_drewN | apply below_drew1) | exact HB.out)))); have n1_ := Aside0.mk (below_step (by repeat (first | (with_reducible first | exact HB.out | apply below_alloc | apply pw_below_drewN | apply below_drew1) | exact HB.out)) hb); clear HB; have HO123 := n0_; have HB := n1_; clear n0_ n1_; clear hb ho4) | ((with_reducible refine gate_builtin (b := .append) (xs := #[.tmp 3, .tmp 4]) rfl ?_); at_builtin; refine Kd.R_append_rows (Kd.int .u8) (w0 := w) w.heap.size rfl (.tmp 3) (.tmp 4) 24 5 (.int .u8 0) 1 rfl Try.underlying24 info5 rfl (by decide) (by omega) v122 y121 l0 _ _ _ (fun _ => True) (fun _ => False) rfl rfl ?aO ?aR (fun _ _ h => h) (fun _ h => h.elim) ?aF ?aB ?aS ?aL ?_; (case aR => repeat (first | exact (Kd.C_below HR0.out HB.out) | (with_reducible refine Kd.C_alloc ?_ _) | (with_reducible refine Kd.C_drewN ?_ _) | (with_reducible refine Kd.C_drew ?_))); (case aB => exact (by repeat (first | (with_reducible first | exact HB.out | apply below_alloc | apply pw_below_drewN | apply below_drew1) | exact HB.out))); (case aF => exact (fun _ _ => trivial)); (case aO => exact (by (with_reducible repeat (first | apply Kd.R_alloc | apply Kd.R_drewN | apply Kd.R_drew)); exact HO123.out)); (case aS => exact (below_size (by repeat (first | (with_reducible first | exact HB.out | apply below_alloc | apply pw_below_drewN | apply below_drew1) | exact HB.out)))); (case aL => have := LMc2.out; omega); intro v125 w5 ho hb hg hat; rw [← Ny124.out] at ho; have n0_ := Aside0.mk (hb); have n1_ := Aside0.mk (ho); clear HB; clear HO123; have HB := n0_; have HO126 := n1_; clear n0_ n1_; clear ho hb hg hat))
      go_ret
      exact ⟨_, by first | rfl | (simp [errW_none, errW_some] <;> rfl) | (simp [*, errW_none, errW_some] <;> rfl), by (with_reducible repeat (first | apply Kd.R_alloc | apply Kd.R_drewN | apply Kd.R_drew)); exact HO126.out, by repeat (first | (with_reducible first | exact HB.out | apply below_alloc | apply pw_below_drewN | apply below_drew1) | exact HB.out)⟩
  · rw [if_neg c2] at H
    exact absurd H (by simp)

/-! ### impl_NumberLength: function 20 -/
def impl_NumberLength.f (k : Nat) (l0 : List Int) : Option (Int) := (impl_own.f l0).bind fun t127 => ((tdparse_Number.f k t127).bind fun t130 => (some t130))
theorem impl_NumberLength.mono : ∀ a0 k, LeO (impl_NumberLength.f k a0) (impl_NumberLength.f (k + 1) a0) := by
  intro a0 k
  unfold impl_NumberLength.f
  repeat' first
      | (with_reducible exact tdparse_Number.mono _ _)
      | (with_reducible exact LeO.refl _)
      | (with_reducible exact LeO.none _)
      | (with_reducible refine LeO.ite ?_ ?_)
      | (with_reducible refine LeO.bind ?_ (fun _ => ?_))
      | exact tdparse_Number.mono _ _
      | exact LeO.none _
      | refine LeO.ite ?_ ?_
      | refine LeO.bind ?_ (fun _ => ?_)
set_option maxHeartbeats 8000000 in
set_option maxRecDepth 100000 in
theorem impl_NumberLength.calls (k : Nat) (A0 : Option Addr) (c0 : Nat) (l0 : List Int) (r : Int) (w : World) (hr0 : Kd.C (Kd.int .u8) w A0 l0.length l0) (hc0 : l0.length ≤ c0) (h : impl_NumberLength.f k l0 = some r) :
    Calls Try.prog 20 #[.slice A0 l0.length c0] w fun e w' => e = .returned (.int .i64 r) ∧ Below w.heap.size w w' := by
  have HR0 := Aside0.mk hr0
  have HC0 := Aside0.mk hc0
  clear hr0 hc0
  have HB := Aside0.mk (Below.refl w.heap.size w)
  have H : ((impl_own.f l0).bind fun t127 => ((tdparse_Number.f k t127).bind fun t130 => (some t130))) = some r := h
  clear h
  replace H := Option.bind_eq_some_iff.mp H
  obtain ⟨t127, A20, H⟩ := H
  replace H : ((tdparse_Number.f k t127).bind fun t130 => (some t130)) = some r := H
  have A2 := Aside0.mk A20
  clear A20
  replace H := Option.bind_eq_some_iff.mp H
  obtain ⟨t130, A30, H⟩ := H
  replace H : (some t130) = some r := H
  have A3 := Aside0.mk A30
  clear A30
  as_aux_lemma =>
    obtain rfl := Option.some.inj H
    go_enter Try.func20, Try.ntmps20
    go_wp2_with (first | ((with_reducible refine gate_callee (f := 48) rfl ?_); refine goesL_ (some 4) rfl rfl Try.func48 (by kernel_rfl) rfl #[.slice A0 l0.length c0] rfl (by (try simp only [List.map_toArray, List.map_cons, List.map_nil]); first | done | rfl | (simp only [List.length_drop, List.length_take]; rfl)) ?_; (with_reducible refine (impl_own.calls _ _ l0 t127 _ ?side1 ?side2 A2.out).mono ?_); (case side1 => repeat (first | exact HR0.out | (with_reducible refine Kd.C_alloc ?_ _) | (with_reducible refine Kd.C_drewN ?_ _) | (with_reducible refine Kd.C_drew ?_))); (case side2 => exact HC0.out); rintro e w4 ⟨v128, rfl, ho0, hb⟩; refine ⟨_, rfl, ?_⟩; have n0_ := Aside0.mk (Kd.R_lower ho0 (below_size (by repeat (first | (with_reducible first | exact HB.out | apply below_alloc | apply pw_below_drewN | apply below_drew1) | exact HB.out)))); have n1_ := Aside0.mk (below_step (by repeat (first | (with_reducible first | exact HB.out | apply below_alloc | apply pw_below_drewN | apply below_drew1) | exact HB.out)) hb); clear HB; have HO129 := n0_; have HB := n1_; clear n0_ n1_; (try clear hb); (try clear hb2); (try clear hk); (try clear hi); (try clear ho0); obtain ⟨Ao5, co5, eo5⟩ := Kd.R_slice HO129.out; subst eo5) | ((with_reducible refine gate_callee (f := 47) rfl ?_); refine goesL_ (some 5) rfl rfl Try.func47 (by kernel_rfl) rfl #[.slice Ao5 t127.length co5] rfl (by (try simp only [List.map_toArray, List.map_cons, List.map_nil]); first | done | rfl | (simp only [List.length_drop, List.length_take]; rfl)) ?_; (with_reducible refine (tdparse_Number.calls k _ _ t127 t130 _ ?side1 ?side2 A3.out).mono ?_); (case side1 => repeat (first | exact (Kd.R_reads' HO129.out).2.2 | (with_reducible refine Kd.C_alloc ?_ _) | (with_reducible refine Kd.C_drewN ?_ _) | (with_reducible refine Kd.C_drew ?_))); (case side2 => exact (Kd.R_reads' HO129.out).2.1); rintro e w' ⟨rfl, ⟨nd, rfl⟩⟩; refine ⟨_, rfl, ?_⟩))
    go_ret
    exact ⟨by first | rfl | (simp [errW_none, errW_some] <;> rfl) | (simp [*, errW_none, errW_some] <;> rfl), by repeat (first | (with_reducible first | exact HB.out | apply below_alloc | apply pw_below_drewN | apply below_drew1) | exact HB.out)⟩

/-! ### spec_signFrom: function 50 -/
def spec_signFrom.f (l0 : List Int) (a1 : Int) : Option (Int) := if a1 < (l0.length : Int) then (if 0 ≤ a1 then (if (rd l0 a1) = 43 then (some (wrap64 (a1 + 1))) else (if (rd l0 a1) = 45 then (some (wrap64 (a1 + 1))) else (some a1))) else (none)) else (some a1)
set_option maxHeartbeats 8000000 in
set_option maxRecDepth 100000 in
theorem spec_signFrom.calls (A0 : Option Addr) (c0 : Nat) (l0 : List Int) (a1 : Int) (r : Int) (w : World) (hr0 : Kd.C (Kd.int .u8) w A0 l0.length l0) (hc0 : l0.length ≤ c0) (h : spec_signFrom.f l0 a1 = some r) :
    Calls Try.prog 50 #[.slice A0 l0.length c0, .int .i64 a1] w fun e w' => e = .returned (.int .i64 r) ∧ Drawn0 w w' := by
  have HR0 := Aside0.mk hr0
  have HC0 := Aside0.mk hc0
  clear hr0 hc0
  have H : (if a1 < (l0.length : Int) then (if 0 ≤ a1 then (if (rd l0 a1) = 43 then (some (wrap64 (a1 + 1))) else (if (rd l0 a1) = 45 then (some (wrap64 (a1 + 1))) else (some a1))) else (none)) else (some a1)) = some r := h
  clear h
  by_cases c3 : a1 < (l0.length : Int)
  · rw [if_pos c3] at H
    have c3b0 : decide (a1 < (l0.length : Int)) = true := decide_eq_true c3
    clear c3
    by_cases c4 : 0 ≤ a1
    · rw [if_pos c4] at H
      have c4b0 : decide (0 ≤ a1) = true := decide_eq_true c4
      clear c4
      by_cases c5 : (rd l0 a1) = 43
      · rw [if_pos c5] at H
        have c5b0 : ((rd l0 a1) == 43) = true := beq_iff_eq.mpr c5
        have c5b1 : ((rd l0 a1) != 43) = false := bne_eq_false_iff_eq.mpr c5
        clear c5
        as_aux_lemma =>
          obtain rfl := Option.some.inj H
          have p131 : 0 ≤ (a1 : Int) := of_decide_eq_true (by first | (with_reducible assumption) | assumption)
          have q131 : a1 < (l0.length : Int) := of_decide_eq_true (by first | (with_reducible assumption) | assumption)
          obtain ⟨ad131, e131, hx131_0⟩ := Kd.at_int HR0.out a1 p131 q131
          cases e131
          replace p131 := eq_true p131
          replace q131 := eq_true q131
          go_enter Try.func50, Try.ntmps50
          go_wp2
          go_ret
          exact ⟨by first | rfl | (simp; done) | (simp [*]; done), by repeat (first | exact Drawn0.refl _ | apply Drawn0.step)⟩
      · rw [if_neg c5] at H
        have c5b0 : ((rd l0 a1) == 43) = false := beq_eq_false_iff_ne.mpr c5
        have c5b1 : ((rd l0 a1) != 43) = true := bne_iff_ne.mpr c5
        by_cases c6 : (rd l0 a1) = 45
        · rw [if_pos c6] at H
          have c6b0 : ((rd l0 a1) == 45) = true := beq_iff_eq.mpr c6
          have c6b1 : ((rd l0 a1) != 45) = false := bne_eq_false_iff_eq.mpr c6
          clear c6
          as_aux_lemma =>
            obtain rfl := Option.some.inj H
            have p131 : 0 ≤ (a1 : Int) := of_decide_eq_true (by first | (with_reducible assumption) | assumption)
            have q131 : a1 < (l0.length : Int) := of_decide_eq_true (by first | (with_reducible assumption) | assumption)
            obtain ⟨ad131, e131, hx131_0⟩ := Kd.at_int HR0.out a1 p131 q131
            cases e131
            replace p131 := eq_true p131
            replace q131 := eq_true q131
            have p132 : 0 ≤ (a1 : Int) := of_decide_eq_true (by first | (with_reducible assumption) | assumption)
            have q132 : a1 < (l0.length : Int) := of_decide_eq_true (by first | (with_reducible assumption) | assumption)
            obtain ⟨ad132, e132, hx132_0⟩ := Kd.at_int HR0.out a1 p132 q132
            obtain rfl : ad131 = ad132 := (by injection e132)
            replace p132 := eq_true p132
            replace q132 := eq_true q132
            go_enter Try.func50, Try.ntmps50
            go_wp2
            go_ret
            exact ⟨by first | rfl | (simp; done) | (simp [*]; done), by repeat (first | exact Drawn0.refl _ | apply Drawn0.step)⟩
        · rw [if_neg c6] at H
          have c6b0 : ((rd l0 a1) == 45) = false := beq_eq_false_iff_ne.mpr c6
          have c6b1 : ((rd l0 a1) != 45) = true := bne_iff_ne.mpr c6
          as_aux_lemma =>
            obtain rfl := Option.some.inj H
            have p131 : 0 ≤ (a1 : Int) := of_decide_eq_true (by first | (with_reducible assumption) | assumption)
            have q131 : a1 < (l0.length : Int) := of_decide_eq_true (by first | (with_reducible assumption) | assumption)
            obtain ⟨ad131, e131, hx131_0⟩ := Kd.at_int HR0.out a1 p131 q131
            cases e131
            replace p131 := eq_true p131
            replace q131 := eq_true q131
            have p132 : 0 ≤ (a1 : Int) := of_decide_eq_true (by first | (with_reducible assumption) | assumption)
            have q132 : a1 < (l0.length : Int) := of_decide_eq_true (by first | (with_reducible assumption) | assumption)
            obtain ⟨ad132, e132, hx132_0⟩ := Kd.at_int HR0.out a1 p132 q132
            obtain rfl : ad131 = ad132 := (by injection e132)
            replace p132 := eq_true p132
            replace q132 := eq_true q132
            go_enter Try.func50, Try.ntmps50
            go_wp2
            go_ret
            exact ⟨by first | rfl | (simp; done) | (simp [*]; done), by repeat (first | exact Drawn0.refl _ | apply Drawn0.step)⟩
    · rw [if_neg c4] at H
      exact absurd H (by simp)
  · rw [if_neg c3] at H
    have c3b0 : decide (a1 < (l0.length : Int)) = false := decide_eq_false c3
    clear c3
    as_aux_lemma =>
      obtain rfl := Option.some.inj H
      go_enter Try.func50, Try.ntmps50
      go_wp2
      go_ret
      exact ⟨by first | rfl | (simp; done) | (simp [*]; done), by repeat (first | exact Drawn0.refl _ | apply Drawn0.step)⟩

/-! ### spec_digitAt: function 51 -/
def spec_digitAt.f (l0 : List Int) (a1 : Int) : Option (Bool) := if a1 < (l0.length : Int) then (if 0 ≤ a1 then (if (rd l0 a1) ≥ 48 then (some (decide ((rd l0 a1) ≤ 57))) else (some false)) else (none)) else (some false)
set_option maxHeartbeats 8000000 in
set_option maxRecDepth 100000 in
theorem spec_digitAt.calls (A0 : Option Addr) (c0 : Nat) (l0 : List Int) (a1 : Int) (r : Bool) (w : World) (hr0 : Kd.C (Kd.int .u8) w A0 l0.length l0) (hc0 : l0.length ≤ c0) (h : spec_digitAt.f l0 a1 = some r) :
    Calls Try.prog 51 #[.slice A0 l0.length c0, .int .i64 a1] w fun e w' => e = .returned (.bool r) ∧ Drawn0 w w' := by
  have HR0 := Aside0.mk hr0
  have HC0 := Aside0.mk hc0
  clear hr0 hc0
  have H : (if a1 < (l0.length : Int) then (if 0 ≤ a1 then (if (rd l0 a1) ≥ 48 then (some (decide ((rd l0 a1) ≤ 57))) else (some false)) else (none)) else (some false)) = some r := h
  clear h
  by_cases c3 : a1 < (l0.length : Int)
  · rw [if_pos c3] at H
    have c3b0 : decide (a1 < (l0.length : Int)) = true := decide_eq_true c3
    clear c3
    by_cases c4 : 0 ≤ a1
    · rw [if_pos c4] at H
      have c4b0 : decide (0 ≤ a1) = true := decide_eq_true c4
      clear c4
      by_cases c5 : (rd l0 a1) ≥ 48
      · rw [if_pos c5] at H
        have c5b0 : decide (48 ≤ (rd l0 a1)) = true := decide_eq_true c5
        clear c5
        as_aux_lemma =>
          obtain rfl := Option.some.inj H
          have p133 : 0 ≤ (a1 : Int) := of_decide_eq_true (by first | (with_reducible assumption) | assumption)
          have q133 : a1 < (l0.length : Int) := of_decide_eq_true (by first | (with_reducible assumption) | assumption)
          obtain ⟨ad133, e133, hx133_0⟩ := Kd.at_int HR0.out a1 p133 q133
          cases e133
          replace p133 := eq_true p133
          replace q133 := eq_true q133
          have p134 : 0 ≤ (a1 : Int) := of_decide_eq_true (by first | (with_reducible assumption) | assumption)
          have q134 : a1 < (l0.length : Int) := of_decide_eq_true (by first | (with_reducible assumption) | assumption)
          obtain ⟨ad134, e134, hx134_0⟩ := Kd.at_int HR0.out a1 p134 q134
          obtain rfl : ad133 = ad134 := (by injection e134)
          replace p134 := eq_true p134
          replace q134 := eq_true q134
          go_enter Try.func51, Try.ntmps51
          go_wp2
          go_ret
          exact ⟨by first | rfl | (simp; done) | (simp [*]; done), by repeat (first | exact Drawn0.refl _ | apply Drawn0.step)⟩
      · rw [if_neg c5] at H
        have c5b0 : decide (48 ≤ (rd l0 a1)) = false := decide_eq_false c5
        clear c5
        as_aux_lemma =>
          obtain rfl := Option.some.inj H
          have p133 : 0 ≤ (a1 : Int) := of_decide_eq_true (by first | (with_reducible assumption) | assumption)
          have q133 : a1 < (l0.length : Int) := of_decide_eq_true (by first | (with_reducible assumption) | assumption)
          obtain ⟨ad133, e133, hx133_0⟩ := Kd.at_int HR0.out a1 p133 q133
          cases e133
          replace p133 := eq_true p133
          replace q133 := eq_true q133
          go_enter Try.func51, Try.ntmps51
          go_wp2
          go_ret
          exact ⟨by first | rfl | (simp; done) | (simp [*]; done), by repeat (first | exact Drawn0.refl _ | apply Drawn0.step)⟩
    · rw [if_neg c4] at H
      exact absurd H (by simp)
  · rw [if_neg c3] at H
    have c3b0 : decide (a1 < (l0.length : Int)) = false := decide_eq_false c3
    clear c3
    as_aux_lemma =>
      obtain rfl := Option.some.inj H
      go_enter Try.func51, Try.ntmps51
      go_wp2
      go_ret
      exact ⟨by first | rfl | (simp; done) | (simp [*]; done), by repeat (first | exact Drawn0.refl _ | apply Drawn0.step)⟩

/-! ### spec_digitsFrom: function 52 -/
def spec_digitsFrom.l0 : Nat → List Int → Int → Option (Int)
  | 0, _, _ => none
  | k + 1, x0, x1 => (spec_digitAt.f x0 x1).bind fun t135 => (if t135 = true then (spec_digitsFrom.l0 k x0 (wrap64 (x1 + 1))) else (some x1))
def spec_digitsFrom.f (k : Nat) (l0 : List Int) (a1 : Int) : Option (Int) := spec_digitsFrom.l0 k l0 a1
theorem spec_digitsFrom.mono_l : ∀ k, (∀ y0 y1, LeO (spec_digitsFrom.l0 k y0 y1) (spec_digitsFrom.l0 (k + 1) y0 y1))
  | 0 => fun _ _ r h => by simp [spec_digitsFrom.l0] at h
  | k + 1 => by
    have ih0 := spec_digitsFrom.mono_l k
    · intro y0 y1
      unfold spec_digitsFrom.l0
      repeat' first
      | (with_reducible exact ih0 _ _)
      | (with_reducible exact LeO.refl _)
      | (with_reducible exact LeO.none _)
      | (with_reducible refine LeO.ite ?_ ?_)
      | (with_reducible refine LeO.bind ?_ (fun _ => ?_))
      | exact ih0 _ _
      | exact LeO.none _
      | refine LeO.ite ?_ ?_
      | refine LeO.bind ?_ (fun _ => ?_)
theorem spec_digitsFrom.mono : ∀ a0 a1 k, LeO (spec_digitsFrom.f k a0 a1) (spec_digitsFrom.f (k + 1) a0 a1) := by
  intro a0 a1 k
  have ih0 := spec_digitsFrom.mono_l k
  unfold spec_digitsFrom.f
  repeat' first
      | (with_reducible exact ih0 _ _)
      | (with_reducible exact LeO.refl _)
      | (with_reducible exact LeO.none _)
      | (with_reducible refine LeO.ite ?_ ?_)
      | (with_reducible refine LeO.bind ?_ (fun _ => ?_))
      | exact ih0 _ _
      | exact LeO.none _
      | refine LeO.ite ?_ ?_
      | refine LeO.bind ?_ (fun _ => ?_)
set_option maxHeartbeats 8000000 in
set_option maxRecDepth 100000 in
theorem spec_digitsFrom.calls (k : Nat) (A0 : Option Addr) (c0 : Nat) (l0 : List Int) (a1 : Int) (r : Int) (w : World) (hr0 : Kd.C (Kd.int .u8) w A0 l0.length l0) (hc0 : l0.length ≤ c0) (h : spec_digitsFrom.f k l0 a1 = some r) :
    Calls Try.prog 52 #[.slice A0 l0.length c0, .int .i64 a1] w fun e w' => e = .returned (.int .i64 r) ∧ Drawn0 w w' := by
  have HR0 := Aside0.mk hr0
  have HC0 := Aside0.mk hc0
  clear hr0 hc0
  have H : (spec_digitsFrom.l0 k l0 a1) = some r := h
  clear h
  have H' := Aside0.mk H
  clear H
  go_enter Try.func52, Try.ntmps52
  go_wp2
  go_loopg [1] k (fun kq v1 w' => ∃ (x1_1 : Int), v1 = .int .i64 x1_1 ∧ Aside0 (spec_digitsFrom.l0 kq l0 x1_1 = some r) ∧ Aside0 (kq ≤ k) ∧ Drawn0 w w')
  case atStart => exact ⟨(a1), (by first | rfl | (simp; done) | (simp [*]; done)), H', ⟨Nat.le_refl _⟩, by repeat (first | exact Drawn0.refl _ | apply Drawn0.step)⟩
  case round =>
    clear H'
    try clear p2
    obtain ⟨x1_1, rfl, HA, HK1, ⟨m1, rfl⟩⟩ := hrel
    cases gk with
    | zero => exact absurd HA.out (by simp [spec_digitsFrom.l0])
    | succ k1 =>
      have H := HA.out
      clear HA
      simp only [spec_digitsFrom.l0] at H
      replace H := Option.bind_eq_some_iff.mp H
      obtain ⟨t135, A30, H⟩ := H
      replace H : (if t135 = true then (spec_digitsFrom.l0 k1 l0 (wrap64 (x1_1 + 1))) else (some x1_1)) = some r := H
      have A3 := Aside0.mk A30
      clear A30
      by_cases c4 : t135 = true
      · subst c4
        have H1 : (spec_digitsFrom.l0 k1 l0 (wrap64 (x1_1 + 1))) = some r := by rw [if_pos rfl] at H; exact H
        clear H
        have H := H1
        clear H1
        as_aux_lemma =>
          have H' := Aside0.mk H
          clear H
          go_wp2_with (first | ((with_reducible refine gate_callee (f := 51) rfl ?_); refine goesL_ (some 7) rfl rfl Try.func51 (by kernel_rfl) rfl #[.slice A0 l0.length c0, .int .i64 x1_1] rfl (by (try simp only [List.map_toArray, List.map_cons, List.map_nil]); first | done | rfl | (simp only [List.length_drop, List.length_take]; rfl)) ?_; (with_reducible refine (spec_digitAt.calls _ _ l0 x1_1 true _ ?side1 ?side2 A3.out).mono ?_); (case side1 => repeat (first | exact HR0.out | (with_reducible refine Kd.C_alloc ?_ _) | (with_reducible refine Kd.C_drewN ?_ _) | (with_reducible refine Kd.C_drew ?_))); (case side2 => exact HC0.out); rintro e w' ⟨rfl, ⟨nd, rfl⟩⟩; refine ⟨_, rfl, ?_⟩))
          go_roundg k1
          case measure => have := HK1.out; omega
          case rel => exact ⟨(wrap64 (x1_1 + 1)), (by first | rfl | (simp; done) | (simp [*]; done)), H', ⟨by have := HK1.out; omega⟩, by repeat (first | exact Drawn0.refl _ | apply Drawn0.step)⟩
      · replace c4 := Bool.eq_false_iff.mpr c4
        subst c4
        have H1 : (some x1_1) = some r := by rw [if_neg (show ¬ (false = true) by decide)] at H; exact H
        clear H
        have H := H1
        clear H1
        as_aux_lemma =>
          obtain rfl := Option.some.inj H
          go_wp2_with (first | ((with_reducible refine gate_callee (f := 51) rfl ?_); refine goesL_ (some 7) rfl rfl Try.func51 (by kernel_rfl) rfl #[.slice A0 l0.length c0, .int .i64 x1_1] rfl (by (try simp only [List.map_toArray, List.map_cons, List.map_nil]); first | done | rfl | (simp only [List.length_drop, List.length_take]; rfl)) ?_; (with_reducible refine (spec_digitAt.calls _ _ l0 x1_1 false _ ?side1 ?side2 A3.out).mono ?_); (case side1 => repeat (first | exact HR0.out | (with_reducible refine Kd.C_alloc ?_ _) | (with_reducible refine Kd.C_drewN ?_ _) | (with_reducible refine Kd.C_drew ?_))); (case side2 => exact HC0.out); rintro e w' ⟨rfl, ⟨nd, rfl⟩⟩; refine ⟨_, rfl, ?_⟩))
          go_ret
          exact ⟨by first | rfl | (simp; done) | (simp [*]; done), by repeat (first | exact Drawn0.refl _ | apply Drawn0.step)⟩

/-! ### spec_DecimalLength: function 49 -/
def spec_DecimalLength.j0 : Nat → List Int → Int → Int → Bool → Option (Int)
  | 0, _, _, _, _ => none
  | k + 1, x0, x3, x4, x26 => if x26 = true then ((spec_digitsFrom.f k x0 (wrap64 (x4 + 1))).bind fun t140 => (some t140)) else (if x4 = x3 then (some 0) else (some x4))
def spec_DecimalLength.f (k : Nat) (l0 : List Int) : Option (Int) := (spec_signFrom.f l0 0).bind fun t136 => ((spec_digitsFrom.f k l0 t136).bind fun t137 => (if t137 < (l0.length : Int) then (if 0 ≤ t137 then (if (rd l0 t137) = 46 then ((spec_digitAt.f l0 (wrap64 (t137 + 1))).bind fun t139 => (spec_DecimalLength.j0 k l0 t136 t137 t139)) else (spec_DecimalLength.j0 k l0 t136 t137 false)) else (none)) else (spec_DecimalLength.j0 k l0 t136 t137 false)))
theorem spec_DecimalLength.mono_l : ∀ k, (∀ y0 y1 y2 y3, LeO (spec_DecimalLength.j0 k y0 y1 y2 y3) (spec_DecimalLength.j0 (k + 1) y0 y1 y2 y3))
  | 0 => fun _ _ _ _ r h => by simp [spec_DecimalLength.j0] at h
  | k + 1 => by
    have ih0 := spec_DecimalLength.mono_l k
    · intro y0 y1 y2 y3
      unfold spec_DecimalLength.j0
      repeat' first
      | (with_reducible exact ih0 _ _ _ _)
      | (with_reducible exact spec_digitsFrom.mono _ _ _)
      | (with_reducible exact LeO.refl _)
      | (with_reducible exact LeO.none _)
      | (with_reducible refine LeO.ite ?_ ?_)
      | (with_reducible refine LeO.bind ?_ (fun _ => ?_))
      | exact ih0 _ _ _ _
      | exact spec_digitsFrom.mono _ _ _
      | exact LeO.none _
      | refine LeO.ite ?_ ?_
      | refine LeO.bind ?_ (fun _ => ?_)
theorem spec_DecimalLength.mono : ∀ a0 k, LeO (spec_DecimalLength.f k a0) (spec_DecimalLength.f (k + 1) a0) := by
  intro a0 k
  have ih0 := spec_DecimalLength.mono_l k
  unfold spec_DecimalLength.f
  repeat' first
      | (with_reducible exact ih0 _ _ _ _)
      | (with_reducible exact spec_digitsFrom.mono _ _ _)
      | (with_reducible exact LeO.refl _)
      | (with_reducible exact LeO.none _)
      | (with_reducible refine LeO.ite ?_ ?_)
      | (with_reducible refine LeO.bind ?_ (fun _ => ?_))
      | exact ih0 _ _ _ _
      | exact spec_digitsFrom.mono _ _ _
      | exact LeO.none _
      | refine LeO.ite ?_ ?_
      | refine LeO.bind ?_ (fun _ => ?_)
set_option maxHeartbeats 8000000 in
set_option maxRecDepth 100000 in
theorem spec_DecimalLength.calls (k : Nat) (A0 : Option Addr) (c0 : Nat) (l0 : List Int) (r : Int) (w : World) (hr0 : Kd.C (Kd.int .u8) w A0 l0.length l0) (hc0 : l0.length ≤ c0) (h : spec_DecimalLength.f k l0 = some r) :
    Calls Try.prog 49 #[.slice A0 l0.length c0] w fun e w' => e = .returned (.int .i64 r) ∧ Drawn0 w w' := by
  have HR0 := Aside0.mk hr0
  have HC0 := Aside0.mk hc0
  clear hr0 hc0
  have H : ((spec_signFrom.f l0 0).bind fun t136 => ((spec_digitsFrom.f k l0 t136).bind fun t137 => (if t137 < (l0.length : Int) then (if 0 ≤ t137 then (if (rd l0 t137) = 46 then ((spec_digitAt.f l0 (wrap64 (t137 + 1))).bind fun t139 => (spec_DecimalLength.j0 k l0 t136 t137 t139)) else (spec_DecimalLength.j0 k l0 t136 t137 false)) else (none)) else (spec_DecimalLength.j0 k l0 t136 t137 false)))) = some r := h
  clear h
  replace H := Option.bind_eq_some_iff.mp H
  obtain ⟨t136, A20, H⟩ := H
  replace H : ((spec_digitsFrom.f k l0 t136).bind fun t137 => (if t137 < (l0.length : Int) then (if 0 ≤ t137 then (if (rd l0 t137) = 46 then ((spec_digitAt.f l0 (wrap64 (t137 + 1))).bind fun t139 => (spec_DecimalLength.j0 k l0 t136 t137 t139)) else (spec_DecimalLength.j0 k l0 t136 t137 false)) else (none)) else (spec_DecimalLength.j0 k l0 t136 t137 false))) = some r := H
  have A2 := Aside0.mk A20
  clear A20
  replace H := Option.bind_eq_some_iff.mp H
  obtain ⟨t137, A30, H⟩ := H
  replace H : (if t137 < (l0.length : Int) then (if 0 ≤ t137 then (if (rd l0 t137) = 46 then ((spec_digitAt.f l0 (wrap64 (t137 + 1))).bind fun t139 => (spec_DecimalLength.j0 k l0 t136 t137 t139)) else (spec_DecimalLength.j0 k l0 t136 t137 false)) else (none)) else (spec_DecimalLength.j0 k l0 t136 t137 false)) = some r := H
  have A3 := Aside0.mk A30
  clear A30
  have HC4 := Aside0.mk H
  clear H
  go_enter Try.func49, Try.ntmps49
  go_upto_region 3 with (first | ((with_reducible refine gate_callee (f := 50) rfl ?_); refine goesL_ (some 6) rfl rfl Try.func50 (by kernel_rfl) rfl #[.slice A0 l0.length c0, .int .i64 0] rfl (by (try simp only [List.map_toArray, List.map_cons, List.map_nil]); first | done | rfl | (simp only [List.length_drop, List.length_take]; rfl)) ?_; (with_reducible refine (spec_signFrom.calls _ _ l0 0 t136 _ ?side1 ?side2 A2.out).mono ?_); (case side1 => repeat (first | exact HR0.out | (with_reducible refine Kd.C_alloc ?_ _) | (with_reducible refine Kd.C_drewN ?_ _) | (with_reducible refine Kd.C_drew ?_))); (case side2 => exact HC0.out); rintro e w' ⟨rfl, ⟨nd, rfl⟩⟩; refine ⟨_, rfl, ?_⟩) | ((with_reducible refine gate_callee (f := 52) rfl ?_); refine goesL_ (some 9) rfl rfl Try.func52 (by kernel_rfl) rfl #[.slice A0 l0.length c0, .int .i64 t136] rfl (by (try simp only [List.map_toArray, List.map_cons, List.map_nil]); first | done | rfl | (simp only [List.length_drop, List.length_take]; rfl)) ?_; (with_reducible refine (spec_digitsFrom.calls k _ _ l0 t136 t137 _ ?side1 ?side2 A3.out).mono ?_); (case side1 => repeat (first | exact HR0.out | (with_reducible refine Kd.C_alloc ?_ _) | (with_reducible refine Kd.C_drewN ?_ _) | (with_reducible refine Kd.C_drew ?_))); (case side2 => exact HC0.out); rintro e w' ⟨rfl, ⟨nd, rfl⟩⟩; refine ⟨_, rfl, ?_⟩))
  (try simp only [Act.put, List.setIfInBounds_toArray, List.set_cons_zero, List.set_cons_succ])
  go_cut [26] (fun v26 wc => ∃ (kq : Nat) (x26_3 : Bool), v26 = .bool x26_3 ∧ Aside0 (spec_DecimalLength.j0 kq l0 t136 t137 x26_3 = some r) ∧ Aside0 (kq ≤ k) ∧ Drawn0 w wc)
  case first =>
    have H := HC4.out
    clear HC4
    by_cases c5 : t137 < (l0.length : Int)
    · rw [if_pos c5] at H
      have c5b0 : decide (t137 < (l0.length : Int)) = true := decide_eq_true c5
      clear c5
      (first | rw [c5b0] | (simp only [i64_w, i32_w]; rw [c5b0]) | skip)
      by_cases c6 : 0 ≤ t137
      · rw [if_pos c6] at H
        have c6b0 : decide (0 ≤ t137) = true := decide_eq_true c6
        clear c6
        by_cases c7 : (rd l0 t137) = 46
        · rw [if_pos c7] at H
          have c7b0 : ((rd l0 t137) == 46) = true := beq_iff_eq.mpr c7
          have c7b1 : ((rd l0 t137) != 46) = false := bne_eq_false_iff_eq.mpr c7
          clear c7
          replace H := Option.bind_eq_some_iff.mp H
          obtain ⟨t139, A80, H⟩ := H
          replace H : (spec_DecimalLength.j0 k l0 t136 t137 t139) = some r := H
          have A8 := Aside0.mk A80
          clear A80
          as_aux_lemma =>
            have H' := Aside0.mk H
            clear H
            have p138 : 0 ≤ (t137 : Int) := of_decide_eq_true (by first | (with_reducible assumption) | assumption)
            have q138 : t137 < (l0.length : Int) := of_decide_eq_true (by first | (with_reducible assumption) | assumption)
            obtain ⟨ad138, e138, hx138_0⟩ := Kd.at_int HR0.out t137 p138 q138
            cases e138
            replace p138 := eq_true p138
            replace q138 := eq_true q138
            go_wp2_with (first | (go_at_call 51; (with_reducible refine (spec_digitAt.calls _ _ l0 (wrap64 (t137 + 1)) t139 _ ?side1 ?side2 A8.out).mono ?_); (case side1 => repeat (first | exact HR0.out | (with_reducible refine Kd.C_alloc ?_ _) | (with_reducible refine Kd.C_drewN ?_ _) | (with_reducible refine Kd.C_drew ?_))); (case side2 => exact HC0.out); rintro e w' ⟨rfl, ⟨nd, rfl⟩⟩))
            go_meet
            case rel => exact ⟨_, (t139), (by first | rfl | (simp; done) | (simp [*]; done)), H', ⟨by first | omega | exact Nat.le_refl _⟩, by repeat (first | exact Drawn0.refl _ | apply Drawn0.step)⟩
        · rw [if_neg c7] at H
          have c7b0 : ((rd l0 t137) == 46) = false := beq_eq_false_iff_ne.mpr c7
          have c7b1 : ((rd l0 t137) != 46) = true := bne_iff_ne.mpr c7
          as_aux_lemma =>
            have H' := Aside0.mk H
            clear H
            have p138 : 0 ≤ (t137 : Int) := of_decide_eq_true (by first | (with_reducible assumption) | assumption)
            have q138 : t137 < (l0.length : Int) := of_decide_eq_true (by first | (with_reducible assumption) | assumption)
            obtain ⟨ad138, e138, hx138_0⟩ := Kd.at_int HR0.out t137 p138 q138
            cases e138
            replace p138 := eq_true p138
            replace q138 := eq_true q138
            go_wp2
            go_meet
            case rel => exact ⟨_, (false), (by first | rfl | (simp; done) | (simp [*]; done)), H', ⟨by first | omega | exact Nat.le_refl _⟩, by repeat (first | exact Drawn0.refl _ | apply Drawn0.step)⟩
      · rw [if_neg c6] at H
        exact absurd H (by simp)
    · rw [if_neg c5] at H
      have c5b0 : decide (t137 < (l0.length : Int)) = false := decide_eq_false c5
      clear c5
      (first | rw [c5b0] | (simp only [i64_w, i32_w]; rw [c5b0]) | skip)
      as_aux_lemma =>
        have H' := Aside0.mk H
        clear H
        go_wp2
        go_meet
        case rel => exact ⟨_, (false), (by first | rfl | (simp; done) | (simp [*]; done)), H', ⟨by first | omega | exact Nat.le_refl _⟩, by repeat (first | exact Drawn0.refl _ | apply Drawn0.step)⟩
  case rest =>
    clear HC4
    try clear p1
    try clear q1
    try clear hx1
    try clear p2
    try clear c4
    try clear c5
    try clear c5b0
    try clear c6
    try clear c6b0
    try clear p6
    try clear c7
    try clear c7b0
    try clear c7b1
    try clear hx138_0
    try clear p138
    try clear q138
    obtain ⟨kq, x26_3, rfl, HA, HJ3, ⟨mc3, rfl⟩⟩ := hcut
    cases kq with
    | zero => exact absurd HA.out (by simp [spec_DecimalLength.j0])
    | succ kj3 =>
      have H := HA.out
      clear HA
      simp only [spec_DecimalLength.j0] at H
      by_cases c9 : x26_3 = true
      · subst c9
        have H1 : ((spec_digitsFrom.f kj3 l0 (wrap64 (t137 + 1))).bind fun t140 => (some t140)) = some r := by rw [if_pos rfl] at H; exact H
        clear H
        have H := H1
        clear H1
        replace H := Option.bind_eq_some_iff.mp H
        obtain ⟨t140, A100, H⟩ := H
        replace H : (some t140) = some r := H
        have A10 := Aside0.mk A100
        clear A100
        as_aux_lemma =>
          obtain rfl := Option.some.inj H
          go_wp2_with (first | ((with_reducible refine gate_callee (f := 52) rfl ?_); refine goesL_ (some 30) rfl rfl Try.func52 (by kernel_rfl) rfl #[.slice A0 l0.length c0, .int .i64 (wrap64 (t137 + 1))] rfl (by (try simp only [List.map_toArray, List.map_cons, List.map_nil]); first | done | rfl | (simp only [List.length_drop, List.length_take]; rfl)) ?_; (with_reducible refine (spec_digitsFrom.calls kj3 _ _ l0 (wrap64 (t137 + 1)) t140 _ ?side1 ?side2 A10.out).mono ?_); (case side1 => repeat (first | exact HR0.out | (with_reducible refine Kd.C_alloc ?_ _) | (with_reducible refine Kd.C_drewN ?_ _) | (with_reducible refine Kd.C_drew ?_))); (case side2 => exact HC0.out); rintro e w' ⟨rfl, ⟨nd, rfl⟩⟩; refine ⟨_, rfl, ?_⟩))
          go_ret
          exact ⟨by first | rfl | (simp; done) | (simp [*]; done), by repeat (first | exact Drawn0.refl _ | apply Drawn0.step)⟩
      · replace c9 := Bool.eq_false_iff.mpr c9
        subst c9
        have H1 : (if t137 = t136 then (some 0) else (some t137)) = some r := by rw [if_neg (show ¬ (false = true) by decide)] at H; exact H
        clear H
        have H := H1
        clear H1
        by_cases c11 : t137 = t136
        · rw [if_pos c11] at H
          have c11b0 : (t137 == t136) = true := beq_iff_eq.mpr c11
          have c11b1 : (t137 != t136) = false := bne_eq_false_iff_eq.mpr c11
          clear c11
          as_aux_lemma =>
            obtain rfl := Option.some.inj H
            go_wp2
            go_ret
            exact ⟨by first | rfl | (simp; done) | (simp [*]; done), by repeat (first | exact Drawn0.refl _ | apply Drawn0.step)⟩
        · rw [if_neg c11] at H
          have c11b0 : (t137 == t136) = false := beq_eq_false_iff_ne.mpr c11
          have c11b1 : (t137 != t136) = true := bne_iff_ne.mpr c11
          as_aux_lemma =>
            obtain rfl := Option.some.inj H
            go_wp2
            go_ret
            exact ⟨by first | rfl | (simp; done) | (simp [*]; done), by repeat (first | exact Drawn0.refl _ | apply Drawn0.step)⟩

/-! ### spec_NumberLength: function 21 -/
def spec_NumberLength.j0 : Nat → List Int → Int → Bool → Option (Int)
  | 0, _, _, _ => none
  | k + 1, x0, x3, x28 => if x28 = true then (some x3) else ((spec_signFrom.f x0 (wrap64 (x3 + 1))).bind fun t144 => ((spec_digitAt.f x0 t144).bind fun t145 => (if t145 = true then ((spec_digitsFrom.f k x0 t144).bind fun t146 => (some t146)) else (some x3))))
def spec_NumberLength.f (k : Nat) (l0 : List Int) : Option (Int) := (spec_DecimalLength.f k l0).bind fun t141 => (if t141 = 0 then (spec_NumberLength.j0 k l0 t141 true) else (if t141 = (l0.length : Int) then (spec_NumberLength.j0 k l0 t141 true) else (if 0 ≤ t141 then (if t141 < (l0.length : Int) then (if (rd l0 t141) = 101 then (spec_NumberLength.j0 k l0 t141 false) else (spec_NumberLength.j0 k l0 t141 ((rd l0 t141) != 69))) else (none)) else (none))))
theorem spec_NumberLength.mono_l : ∀ k, (∀ y0 y1 y2, LeO (spec_NumberLength.j0 k y0 y1 y2) (spec_NumberLength.j0 (k + 1) y0 y1 y2))
  | 0 => fun _ _ _ r h => by simp [spec_NumberLength.j0] at h
  | k + 1 => by
    have ih0 := spec_NumberLength.mono_l k
    · intro y0 y1 y2
      unfold spec_NumberLength.j0
      repeat' first
      | (with_reducible exact ih0 _ _ _)
      | (with_reducible exact spec_DecimalLength.mono _ _)
      | (with_reducible exact spec_digitsFrom.mono _ _ _)
      | (with_reducible exact LeO.refl _)
      | (with_reducible exact LeO.none _)
      | (with_reducible refine LeO.ite ?_ ?_)
      | (with_reducible refine LeO.bind ?_ (fun _ => ?_))
      | exact ih0 _ _ _
      | exact spec_DecimalLength.mono _ _
      | exact spec_digitsFrom.mono _ _ _
      | exact LeO.none _
      | refine LeO.ite ?_ ?_
      | refine LeO.bind ?_ (fun _ => ?_)
theorem spec_NumberLength.mono : ∀ a0 k, LeO (spec_NumberLength.f k a0) (spec_NumberLength.f (k + 1) a0) := by
  intro a0 k
  have ih0 := spec_NumberLength.mono_l k
  unfold spec_NumberLength.f
  repeat' first
      | (with_reducible exact ih0 _ _ _)
      | (with_reducible exact spec_DecimalLength.mono _ _)
      | (with_reducible exact spec_digitsFrom.mono _ _ _)
      | (with_reducible exact LeO.refl _)
      | (with_reducible exact LeO.none _)
      | (with_reducible refine LeO.ite ?_ ?_)
      | (with_reducible refine LeO.bind ?_ (fun _ => ?_))
      | exact ih0 _ _ _
      | exact spec_DecimalLength.mono _ _
      | exact spec_digitsFrom.mono _ _ _
      | exact LeO.none _
      | refine LeO.ite ?_ ?_
      | refine LeO.bind ?_ (fun _ => ?_)
set_option maxHeartbeats 8000000 in
set_option maxRecDepth 100000 in
theorem spec_NumberLength.calls (k : Nat) (A0 : Option Addr) (c0 : Nat) (l0 : List Int) (r : Int) (w : World) (hr0 : Kd.C (Kd.int .u8) w A0 l0.length l0) (hc0 : l0.length ≤ c0) (h : spec_NumberLength.f k l0 = some r) :
    Calls Try.prog 21 #[.slice A0 l0.length c0] w fun e w' => e = .returned (.int .i64 r) ∧ Drawn0 w w' := by
  have HR0 := Aside0.mk hr0
  have HC0 := Aside0.mk hc0
  clear hr0 hc0
  have H : ((spec_DecimalLength.f k l0).bind fun t141 => (if t141 = 0 then (spec_NumberLength.j0 k l0 t141 true) else (if t141 = (l0.length : Int) then (spec_NumberLength.j0 k l0 t141 true) else (if 0 ≤ t141 then (if t141 < (l0.length : Int) then (if (rd l0 t141) = 101 then (spec_NumberLength.j0 k l0 t141 false) else (spec_NumberLength.j0 k l0 t141 ((rd l0 t141) != 69))) else (none)) else (none))))) = some r := h
  clear h
  replace H := Option.bind_eq_some_iff.mp H
  obtain ⟨t141, A20, H⟩ := H
  replace H : (if t141 = 0 then (spec_NumberLength.j0 k l0 t141 true) else (if t141 = (l0.length : Int) then (spec_NumberLength.j0 k l0 t141 true) else (if 0 ≤ t141 then (if t141 < (l0.length : Int) then (if (rd l0 t141) = 101 then (spec_NumberLength.j0 k l0 t141 false) else (spec_NumberLength.j0 k l0 t141 ((rd l0 t141) != 69))) else (none)) else (none)))) = some r := H
  have A2 := Aside0.mk A20
  clear A20
  have HC3 := Aside0.mk H
  clear H
  go_enter Try.func21, Try.ntmps21
  go_upto_region 2 with (first | ((with_reducible refine gate_callee (f := 49) rfl ?_); refine goesL_ (some 6) rfl rfl Try.func49 (by kernel_rfl) rfl #[.slice A0 l0.length c0] rfl (by (try simp only [List.map_toArray, List.map_cons, List.map_nil]); first | done | rfl | (simp only [List.length_drop, List.length_take]; rfl)) ?_; (with_reducible refine (spec_DecimalLength.calls k _ _ l0 t141 _ ?side1 ?side2 A2.out).mono ?_); (case side1 => repeat (first | exact HR0.out | (with_reducible refine Kd.C_alloc ?_ _) | (with_reducible refine Kd.C_drewN ?_ _) | (with_reducible refine Kd.C_drew ?_))); (case side2 => exact HC0.out); rintro e w' ⟨rfl, ⟨nd, rfl⟩⟩; refine ⟨_, rfl, ?_⟩))
  (try simp only [Act.put, List.setIfInBounds_toArray, List.set_cons_zero, List.set_cons_succ])
  go_cut [28] (fun v28 wc => ∃ (kq : Nat) (x28_2 : Bool), v28 = .bool x28_2 ∧ Aside0 (spec_NumberLength.j0 kq l0 t141 x28_2 = some r) ∧ Aside0 (kq ≤ k) ∧ Drawn0 w wc)
  case first =>
    have H := HC3.out
    clear HC3
    by_cases c4 : t141 = 0
    · rw [if_pos c4] at H
      have c4b0 : (t141 == 0) = true := beq_iff_eq.mpr c4
      have c4b1 : (t141 != 0) = false := bne_eq_false_iff_eq.mpr c4
      clear c4
      (first | rw [c4b0] | (simp only [i64_w, i32_w]; rw [c4b0]) | skip)
      as_aux_lemma =>
        have H' := Aside0.mk H
        clear H
        go_wp2
        go_meet
        case rel => exact ⟨_, (true), (by first | rfl | (simp; done) | (simp [*]; done)), H', ⟨by first | omega | exact Nat.le_refl _⟩, by repeat (first | exact Drawn0.refl _ | apply Drawn0.step)⟩
    · rw [if_neg c4] at H
      have c4b0 : (t141 == 0) = false := beq_eq_false_iff_ne.mpr c4
      have c4b1 : (t141 != 0) = true := bne_iff_ne.mpr c4
      (first | rw [c4b0] | (simp only [i64_w, i32_w]; rw [c4b0]) | skip)
      by_cases c5 : t141 = (l0.length : Int)
      · rw [if_pos c5] at H
        have c5b0 : (t141 == (l0.length : Int)) = true := beq_iff_eq.mpr c5
        have c5b1 : (t141 != (l0.length : Int)) = false := bne_eq_false_iff_eq.mpr c5
        clear c5
        as_aux_lemma =>
          have H' := Aside0.mk H
          clear H
          go_wp2
          go_meet
          case rel => exact ⟨_, (true), (by first | rfl | (simp; done) | (simp [*]; done)), H', ⟨by first | omega | exact Nat.le_refl _⟩, by repeat (first | exact Drawn0.refl _ | apply Drawn0.step)⟩
      · rw [if_neg c5] at H
        have c5b0 : (t141 == (l0.length : Int)) = false := beq_eq_false_iff_ne.mpr c5
        have c5b1 : (t141 != (l0.length : Int)) = true := bne_iff_ne.mpr c5
        by_cases c6 : 0 ≤ t141
        · rw [if_pos c6] at H
          have c6b0 : decide (0 ≤ t141) = true := decide_eq_true c6
          clear c6
          by_cases c7 : t141 < (l0.length : Int)
          · rw [if_pos c7] at H
            have c7b0 : decide (t141 < (l0.length : Int)) = true := decide_eq_true c7
            clear c7
            by_cases c8 : (rd l0 t141) = 101
            · rw [if_pos c8] at H
              have c8b0 : ((rd l0 t141) == 101) = true := beq_iff_eq.mpr c8
              have c8b1 : ((rd l0 t141) != 101) = false := bne_eq_false_iff_eq.mpr c8
              clear c8
              as_aux_lemma =>
                have H' := Aside0.mk H
                clear H
                have p142 : 0 ≤ (t141 : Int) := of_decide_eq_true (by first | (with_reducible assumption) | assumption)
                have q142 : t141 < (l0.length : Int) := of_decide_eq_true (by first | (with_reducible assumption) | assumption)
                obtain ⟨ad142, e142, hx142_0⟩ := Kd.at_int HR0.out t141 p142 q142
                cases e142
                replace p142 := eq_true p142
                replace q142 := eq_true q142
                go_wp2
                go_meet
                case rel => exact ⟨_, (false), (by first | rfl | (simp; done) | (simp [*]; done)), H', ⟨by first | omega | exact Nat.le_refl _⟩, by repeat (first | exact Drawn0.refl _ | apply Drawn0.step)⟩
            · rw [if_neg c8] at H
              have c8b0 : ((rd l0 t141) == 101) = false := beq_eq_false_iff_ne.mpr c8
              have c8b1 : ((rd l0 t141) != 101) = true := bne_iff_ne.mpr c8
              as_aux_lemma =>
                have H' := Aside0.mk H
                clear H
                have p142 : 0 ≤ (t141 : Int) := of_decide_eq_true (by first | (with_reducible assumption) | assumption)
                have q142 : t141 < (l0.length : Int) := of_decide_eq_true (by first | (with_reducible assumption) | assumption)
                obtain ⟨ad142, e142, hx142_0⟩ := Kd.at_int HR0.out t141 p142 q142
                cases e142
                replace p142 := eq_true p142
                replace q142 := eq_true q142
                have p143 : 0 ≤ (t141 : Int) := of_decide_eq_true (by first | (with_reducible assumption) | assumption)
                have q143 : t141 < (l0.length : Int) := of_decide_eq_true (by first | (with_reducible assumption) | assumption)
                obtain ⟨ad143, e143, hx143_0⟩ := Kd.at_int HR0.out t141 p143 q143
                obtain rfl : ad142 = ad143 := (by injection e143)
                replace p143 := eq_true p143
                replace q143 := eq_true q143
                go_wp2
                go_meet
                case rel => exact ⟨_, (((rd l0 t141) != 69)), (by first | rfl | (simp; done) | (simp [*]; done)), H', ⟨by first | omega | exact Nat.le_refl _⟩, by repeat (first | exact Drawn0.refl _ | apply Drawn0.step)⟩
          · rw [if_neg c7] at H
            exact absurd H (by simp)
        · rw [if_neg c6] at H
          exact absurd H (by simp)
  case rest =>
    clear HC3
    try clear p1
    try clear q1
    try clear hx1
    try clear c2
    try clear p2
    try clear c4
    try clear c4b0
    try clear c4b1
    try clear c5
    try clear c5b0
    try clear c5b1
    try clear c6
    try clear c6b0
    try clear c7
    try clear c7b0
    try clear c8
    try clear c8b0
    try clear c8b1
    try clear hx142_0
    try clear hx143_0
    try clear p142
    try clear p143
    try clear q142
    try clear q143
    obtain ⟨kq, x28_2, rfl, HA, HJ2, ⟨mc2, rfl⟩⟩ := hcut
    cases kq with
    | zero => exact absurd HA.out (by simp [spec_NumberLength.j0])
    | succ kj2 =>
      have H := HA.out
      clear HA
      simp only [spec_NumberLength.j0] at H
      by_cases c9 : x28_2 = true
      · subst c9
        have H1 : (some t141) = some r := by rw [if_pos rfl] at H; exact H
        clear H
        have H := H1
        clear H1
        as_aux_lemma =>
          obtain rfl := Option.some.inj H
          go_wp2
          go_ret
          exact ⟨by first | rfl | (simp; done) | (simp [*]; done), by repeat (first | exact Drawn0.refl _ | apply Drawn0.step)⟩
      · replace c9 := Bool.eq_false_iff.mpr c9
        subst c9
        have H1 : ((spec_signFrom.f l0 (wrap64 (t141 + 1))).bind fun t144 => ((spec_digitAt.f l0 t144).bind fun t145 => (if t145 = true then ((spec_digitsFrom.f kj2 l0 t144).bind fun t146 => (some t146)) else (some t141)))) = some r := by rw [if_neg (show ¬ (false = true) by decide)] at H; exact H
        clear H
        have H := H1
        clear H1
        replace H := Option.bind_eq_some_iff.mp H
        obtain ⟨t144, A100, H⟩ := H
        replace H : ((spec_digitAt.f l0 t144).bind fun t145 => (if t145 = true then ((spec_digitsFrom.f kj2 l0 t144).bind fun t146 => (some t146)) else (some t141))) = some r := H
        have A10 := Aside0.mk A100
        clear A100
        replace H := Option.bind_eq_some_iff.mp H
        obtain ⟨t145, A110, H⟩ := H
        replace H : (if t145 = true then ((spec_digitsFrom.f kj2 l0 t144).bind fun t146 => (some t146)) else (some t141)) = some r := H
        have A11 := Aside0.mk A110
        clear A110
        by_cases c12 : t145 = true
        · subst c12
          have H1 : ((spec_digitsFrom.f kj2 l0 t144).bind fun t146 => (some t146)) = some r := by rw [if_pos rfl] at H; exact H
          clear H
          have H := H1
          clear H1
          replace H := Option.bind_eq_some_iff.mp H
          obtain ⟨t146, A130, H⟩ := H
          replace H : (some t146) = some r := H
          have A13 := Aside0.mk A130
          clear A130
          as_aux_lemma =>
            obtain rfl := Option.some.inj H
            go_wp2_with (first | ((with_reducible refine gate_callee (f := 50) rfl ?_); refine goesL_ (some 33) rfl rfl Try.func50 (by kernel_rfl) rfl #[.slice A0 l0.length c0, .int .i64 (wrap64 (t141 + 1))] rfl (by (try simp only [List.map_toArray, List.map_cons, List.map_nil]); first | done | rfl | (simp only [List.length_drop, List.length_take]; rfl)) ?_; (with_reducible refine (spec_signFrom.calls _ _ l0 (wrap64 (t141 + 1)) t144 _ ?side1 ?side2 A10.out).mono ?_); (case side1 => repeat (first | exact HR0.out | (with_reducible refine Kd.C_alloc ?_ _) | (with_reducible refine Kd.C_drewN ?_ _) | (with_reducible refine Kd.C_drew ?_))); (case side2 => exact HC0.out); rintro e w' ⟨rfl, ⟨nd, rfl⟩⟩; refine ⟨_, rfl, ?_⟩) | ((with_reducible refine gate_callee (f := 51) rfl ?_); refine goesL_ (some 36) rfl rfl Try.func51 (by kernel_rfl) rfl #[.slice A0 l0.length c0, .int .i64 t144] rfl (by (try simp only [List.map_toArray, List.map_cons, List.map_nil]); first | done | rfl | (simp only [List.length_drop, List.length_take]; rfl)) ?_; (with_reducible refine (spec_digitAt.calls _ _ l0 t144 true _ ?side1 ?side2 A11.out).mono ?_); (case side1 => repeat (first | exact HR0.out | (with_reducible refine Kd.C_alloc ?_ _) | (with_reducible refine Kd.C_drewN ?_ _) | (with_reducible refine Kd.C_drew ?_))); (case side2 => exact HC0.out); rintro e w' ⟨rfl, ⟨nd, rfl⟩⟩; refine ⟨_, rfl, ?_⟩) | ((with_reducible refine gate_callee (f := 52) rfl ?_); refine goesL_ (some 41) rfl rfl Try.func52 (by kernel_rfl) rfl #[.slice A0 l0.length c0, .int .i64 t144] rfl (by (try simp only [List.map_toArray, List.map_cons, List.map_nil]); first | done | rfl | (simp only [List.length_drop, List.length_take]; rfl)) ?_; (with_reducible refine (spec_digitsFrom.calls kj2 _ _ l0 t144 t146 _ ?side1 ?side2 A13.out).mono ?_); (case side1 => repeat (first | exact HR0.out | (with_reducible refine Kd.C_alloc ?_ _) | (with_reducible refine Kd.C_drewN ?_ _) | (with_reducible refine Kd.C_drew ?_))); (case side2 => exact HC0.out); rintro e w' ⟨rfl, ⟨nd, rfl⟩⟩; refine ⟨_, rfl, ?_⟩))
            go_ret
            exact ⟨by first | rfl | (simp; done) | (simp [*]; done), by repeat (first | exact Drawn0.refl _ | apply Drawn0.step)⟩
        · replace c12 := Bool.eq_false_iff.mpr c12
          subst c12
          have H1 : (some t141) = some r := by rw [if_neg (show ¬ (false = true) by decide)] at H; exact H
          clear H
          have H := H1
          clear H1
          as_aux_lemma =>
            obtain rfl := Option.some.inj H
            go_wp2_with (first | ((with_reducible refine gate_callee (f := 50) rfl ?_); refine goesL_ (some 33) rfl rfl Try.func50 (by kernel_rfl) rfl #[.slice A0 l0.length c0, .int .i64 (wrap64 (t141 + 1))] rfl (by (try simp only [List.map_toArray, List.map_cons, List.map_nil]); first | done | rfl | (simp only [List.length_drop, List.length_take]; rfl)) ?_; (with_reducible refine (spec_signFrom.calls _ _ l0 (wrap64 (t141 + 1)) t144 _ ?side1 ?side2 A10.out).mono ?_); (case side1 => repeat (first | exact HR0.out | (with_reducible refine Kd.C_alloc ?_ _) | (with_reducible refine Kd.C_drewN ?_ _) | (with_reducible refine Kd.C_drew ?_))); (case side2 => exact HC0.out); rintro e w' ⟨rfl, ⟨nd, rfl⟩⟩; refine ⟨_, rfl, ?_⟩) | ((with_reducible refine gate_callee (f := 51) rfl ?_); refine goesL_ (some 36) rfl rfl Try.func51 (by kernel_rfl) rfl #[.slice A0 l0.length c0, .int .i64 t144] rfl (by (try simp only [List.map_toArray, List.map_cons, List.map_nil]); first | done | rfl | (simp only [List.length_drop, List.length_take]; rfl)) ?_; (with_reducible refine (spec_digitAt.calls _ _ l0 t144 false _ ?side1 ?side2 A11.out).mono ?_); (case side1 => repeat (first | exact HR0.out | (with_reducible refine Kd.C_alloc ?_ _) | (with_reducible refine Kd.C_drewN ?_ _) | (with_reducible refine Kd.C_drew ?_))); (case side2 => exact HC0.out); rintro e w' ⟨rfl, ⟨nd, rfl⟩⟩; refine ⟨_, rfl, ?_⟩))
            go_ret
            exact ⟨by first | rfl | (simp; done) | (simp [*]; done), by repeat (first | exact Drawn0.refl _ | apply Drawn0.step)⟩

/-! ### laws_FnNumberLength: function 5 -/
def laws_FnNumberLength.f (k : Nat) (l0 : List Int) : Option (Bool) := if (l0.length : Int) > 2147483647 then (some true) else ((laws_fewBytes.f k (([l0] : List (List Int)))).bind fun t150 => (if t150 = true then ((impl_NumberLength.f k l0).bind fun t151 => ((spec_NumberLength.f k l0).bind fun t152 => (some (t151 == t152)))) else (some true)))
theorem laws_FnNumberLength.mono : ∀ a0 k, LeO (laws_FnNumberLength.f k a0) (laws_FnNumberLength.f (k + 1) a0) := by
  intro a0 k
  unfold laws_FnNumberLength.f
  repeat' first
      | (with_reducible exact impl_NumberLength.mono _ _)
      | (with_reducible exact laws_fewBytes.mono _ _)
      | (with_reducible exact spec_NumberLength.mono _ _)
      | (with_reducible exact LeO.refl _)
      | (with_reducible exact LeO.none _)
      | (with_reducible refine LeO.ite ?_ ?_)
      | (with_reducible refine LeO.bind ?_ (fun _ => ?_))
      | exact impl_NumberLength.mono _ _
      | exact laws_fewBytes.mono _ _
      | exact spec_NumberLength.mono _ _
      | exact LeO.none _
      | refine LeO.ite ?_ ?_
      | refine LeO.bind ?_ (fun _ => ?_)
set_option maxHeartbeats 8000000 in
set_option maxRecDepth 100000 in
theorem laws_FnNumberLength.calls (k : Nat) (P0_ : Nat → Prop) (A0 : Option Addr) (c0 : Nat) (l0 : List Int) (r : Bool) (w : World) (hs0 : Kd.V (Kd.int .u8) 5 w w.heap.size (fun k_ => P0_ k_) (.slice A0 l0.length c0) l0) (h : laws_FnNumberLength.f k l0 = some r) :
    Calls Try.prog 5 #[.slice A0 l0.length c0] w fun e w' => e = .returned (.bool r) ∧ Below w.heap.size w w' := by
  have HO0 := Aside0.mk (show Kd.V (Kd.int .u8) 5 w w.heap.size (fun k_ => (P0_ k_ ∨ w.heap.size ≤ k_)) (.slice A0 l0.length c0) l0 from Kd.V_mono hs0 (fun k_ hk => .inl hk))
  have HB := Aside0.mk (Below.refl w.heap.size w)
  have H : (if (l0.length : Int) > 2147483647 then (some true) else ((laws_fewBytes.f k (([l0] : List (List Int)))).bind fun t150 => (if t150 = true then ((impl_NumberLength.f k l0).bind fun t151 => ((spec_NumberLength.f k l0).bind fun t152 => (some (t151 == t152)))) else (some true)))) = some r := h
  clear h
  by_cases c2 : (l0.length : Int) > 2147483647
  · rw [if_pos c2] at H
    have c2b0 : decide (2147483647 < (l0.length : Int)) = true := decide_eq_true c2
    have c2b1 : decide (2147483647 < l0.length) = true := decide_eq_true (by omega)
    clear c2
    as_aux_lemma =>
      obtain rfl := Option.some.inj H
      go_enter Try.func5, Try.ntmps5
      go_wp2
      go_ret
      exact ⟨by first | rfl | (simp [errW_none, errW_some] <;> rfl) | (simp [*, errW_none, errW_some] <;> rfl), by repeat (first | (with_reducible first | exact HB.out | apply below_alloc | apply pw_below_drewN | apply below_drew1) | exact HB.out)⟩
  · rw [if_neg c2] at H
    have c2b0 : decide (2147483647 < (l0.length : Int)) = false := decide_eq_false c2
    have c2b1 : decide (2147483647 < l0.length) = false := decide_eq_false (by omega)
    clear c2
    obtain ⟨y147, hy147⟩ : ∃ y_ : List (List Int), y_ = (([l0] : List (List Int))) := ⟨_, rfl⟩
    replace H : ((laws_fewBytes.f k y147).bind fun t150 => (if t150 = true then ((impl_NumberLength.f k l0).bind fun t151 => ((spec_NumberLength.f k l0).bind fun t152 => (some (t151 == t152)))) else (some true))) = some r := by first | (rw [hy147]; with_reducible exact H) | (have H2_ := (Option.bind_some _ _).symm.trans H; rw [hy147]; with_reducible exact H2_) | (have H2_ := (Option.bind_some _ _).symm.trans H; with_reducible exact H2_) | with_reducible exact H | (rw [hy147]; exact H) | exact H
    have Ny147 := Aside0.mk hy147
    clear hy147
    replace H := Option.bind_eq_some_iff.mp H
    obtain ⟨t150, A30, H⟩ := H
    replace H : (if t150 = true then ((impl_NumberLength.f k l0).bind fun t151 => ((spec_NumberLength.f k l0).bind fun t152 => (some (t151 == t152)))) else (some true)) = some r := H
    have A3 := Aside0.mk A30
    clear A30
    by_cases c4 : t150 = true
    · subst c4
      have H1 : ((impl_NumberLength.f k l0).bind fun t151 => ((spec_NumberLength.f k l0).bind fun t152 => (some (t151 == t152)))) = some r := by rw [if_pos rfl] at H; exact H
      clear H
      have H := H1
      clear H1
      replace H := Option.bind_eq_some_iff.mp H
      obtain ⟨t151, A50, H⟩ := H
      replace H : ((spec_NumberLength.f k l0).bind fun t152 => (some (t151 == t152))) = some r := H
      have A5 := Aside0.mk A50
      clear A50
      replace H := Option.bind_eq_some_iff.mp H
      obtain ⟨t152, A60, H⟩ := H
      replace H : (some (t151 == t152)) = some r := H
      have A6 := Aside0.mk A60
      clear A60
      as_aux_lemma =>
        obtain rfl := Option.some.inj H
        go_enter Try.func5, Try.ntmps5
        go_wp2_with (first | ((with_reducible refine gate_dst (N := 7) rfl ?_); refine Kd.N_lit (Kd.slice 5 (Kd.int .u8)) _ 24 ?hg (N' := 7) ?hd (xs := ([l0] : List (List Int))) (inner := [.slice A0 l0.length c0]) (ok := (fun k_ => (P0_ k_ ∨ w.heap.size ≤ k_))) (okp := (fun k_ => (P0_ k_ ∨ w.heap.size ≤ k_))) ?hr ?hp (fun _ hk => hk) ((show ∀ k_, w.heap.size ≤ k_ → (fun k_ => (P0_ k_ ∨ w.heap.size ≤ k_)) k_ from fun k_ hk => (.inr (Nat.le_trans (below_size (by repeat (first | (with_reducible first | exact HB.out | apply below_alloc | apply pw_below_drewN | apply below_drew1) | exact HB.out))) hk))) _ (Nat.le_refl _)) (Below.refl _ _) (Nat.le_refl _) (by simp) ?_; (case hd => rfl); (case hg => rfl); (case hr => first | (go_simp; done) | (go_simp; rfl)); (case hp => first | exact (Reps.one (show Kd.FK (Kd.slice 5 (Kd.int .u8)) _ _ l0 [.slice A0 l0.length c0] from (Kd.FK_slice_mk (Kd.V_reads' (Kd.V_mono (ok' := (fun k_ => (P0_ k_ ∨ w.heap.size ≤ k_))) (HO0.out) (fun k_ hk => hk))).2.1 (Kd.V_F (Kd.V_mono (ok' := (fun k_ => (P0_ k_ ∨ w.heap.size ≤ k_))) (HO0.out) (fun k_ hk => hk))))) (Reps.none _ _)) | exact (Reps.one (show Kd.FK (Kd.slice 5 (Kd.int .u8)) _ _ l0 [.slice A0 l0.length c0] from (Kd.FK_slice_mk (Kd.V_reads' (Kd.V_mono (ok' := (fun k_ => (P0_ k_ ∨ w.heap.size ≤ k_))) (HO0.out) (fun k_ hk => hk))).2.1 (Kd.V_F (Kd.V_mono (ok' := (fun k_ => (P0_ k_ ∨ w.heap.size ≤ k_))) ((Kd.V_drewN HO0.out _)) (fun k_ hk => hk))))) (Reps.none _ _)) | exact (Reps.one (show Kd.FK (Kd.slice 5 (Kd.int .u8)) _ _ l0 [.slice A0 l0.length c0] from (Kd.FK_slice_mk (Kd.V_reads' (Kd.V_mono (ok' := (fun k_ => (P0_ k_ ∨ w.heap.size ≤ k_))) (HO0.out) (fun k_ hk => hk))).2.1 (Kd.V_F (Kd.V_mono (ok' := (fun k_ => (P0_ k_ ∨ w.heap.size ≤ k_))) ((Kd.V_alloc HO0.out _)) (fun k_ hk => hk))))) (Reps.none _ _)) | exact (Reps.one (show Kd.FK (Kd.slice 5 (Kd.int .u8)) _ _ l0 [.slice A0 l0.length c0] from (Kd.FK_slice_mk (Kd.V_reads' (Kd.V_mono (ok' := (fun k_ => (P0_ k_ ∨ w.heap.size ≤ k_))) (HO0.out) (fun k_ hk => hk))).2.1 (Kd.V_F (Kd.V_mono (ok' := (fun k_ => (P0_ k_ ∨ w.heap.size ≤ k_))) ((by (with_reducible repeat (first | apply Kd.V_alloc | apply Kd.V_drewN | apply Kd.V_drew)); exact HO0.out)) (fun k_ hk => hk))))) (Reps.none _ _))); intro v148 w7 ho8 hb hg_ hnew_; clear hg_ hnew_; (first | rw [← Ny147.out] at ho8 | (simp only [Int.reduceToNat] at ho8; rw [← Ny147.out] at ho8)); have n0_ := Aside0.mk (Kd.V_elder' (by (with_reducible repeat (first | apply Kd.V_alloc | apply Kd.V_drewN | apply Kd.V_drew)); exact HO0.out) (Kd.N_base ho8) hb); have n1_ := Aside0.mk (Kd.N_lower ho8 (below_size (by repeat (first | (with_reducible first | exact HB.out | apply below_alloc | apply pw_below_drewN | apply below_drew1) | exact HB.out)))); have n2_ := Aside0.mk (below_step (by repeat (first | (with_reducible first | exact HB.out | apply below_alloc | apply pw_below_drewN | apply below_drew1) | exact HB.out)) hb); clear HO0; clear HB; have HO0 := n0_; have HO149 := n1_; have HB := n2_; clear n0_ n1_ n2_; clear hb ho8; obtain ⟨Ao9, co9, eo9⟩ := Kd.N_slice HO149.out; subst eo9) | ((with_reducible refine gate_callee (f := 19) rfl ?_); refine goesL_ (some 8) rfl rfl Try.func19 (by kernel_rfl) rfl #[.slice Ao9 y147.length co9] rfl (by (try simp only [List.map_toArray, List.map_cons, List.map_nil]); first | done | rfl | (simp only [List.length_drop, List.length_take]; rfl)) ?_; (with_reducible refine (laws_fewBytes.calls k _ _ y147 true _ ?side1 ?side2 A3.out).mono ?_); (case side1 => repeat (first | exact (Kd.N_reads' HO149.out).2.2 | (with_reducible refine Kd.C_alloc ?_ _) | (with_reducible refine Kd.C_drewN ?_ _) | (with_reducible refine Kd.C_drew ?_))); (case side2 => exact (Kd.N_reads' HO149.out).2.1); rintro e w' ⟨rfl, ⟨nd, rfl⟩⟩; refine ⟨_, rfl, ?_⟩) | (go_at_call 20; (with_reducible refine (impl_NumberLength.calls k _ _ l0 t151 _ ?side1 ?side2 A5.out).mono ?_); (case side1 => repeat (first | exact (Kd.V_reads' HO0.out).2.2 | (with_reducible refine Kd.C_alloc ?_ _) | (with_reducible refine Kd.C_drewN ?_ _) | (with_reducible refine Kd.C_drew ?_))); (case side2 => exact (Kd.V_reads' HO0.out).2.1); rintro e w10 ⟨rfl, hb⟩; have n0_ := Aside0.mk (Kd.V_below (by (with_reducible repeat (first | apply Kd.V_alloc | apply Kd.V_drewN | apply Kd.V_drew)); exact HO0.out) hb); have n1_ := Aside0.mk (Kd.N_below (by (with_reducible repeat (first | apply Kd.N_alloc | apply Kd.N_drewN | apply Kd.N_drew)); exact HO149.out) hb); have n2_ := Aside0.mk (below_step (by repeat (first | (with_reducible first | exact HB.out | apply below_alloc | apply pw_below_drewN | apply below_drew1) | exact HB.out)) hb); clear HO0; clear HO149; clear HB; have HO0 := n0_; have HO149 := n1_; have HB := n2_; clear n0_ n1_ n2_; (try clear hb); (try clear hb2); (try clear hk); (try clear hi)) | (go_at_call 21; (with_reducible refine (spec_NumberLength.calls k _ _ l0 t152 _ ?side1 ?side2 A6.out).mono ?_); (case side1 => repeat (first | exact (Kd.V_reads' HO0.out).2.2 | (with_reducible refine Kd.C_alloc ?_ _) | (with_reducible refine Kd.C_drewN ?_ _) | (with_reducible refine Kd.C_drew ?_))); (case side2 => exact (Kd.V_reads' HO0.out).2.1); rintro e w' ⟨rfl, ⟨nd, rfl⟩⟩))
        go_ret
        exact ⟨by first | rfl | (simp [errW_none, errW_some] <;> rfl) | (simp [*, errW_none, errW_some] <;> rfl), by repeat (first | (with_reducible first | exact HB.out | apply below_alloc | apply pw_below_drewN | apply below_drew1) | exact HB.out)⟩
    · replace c4 := Bool.eq_false_iff.mpr c4
      subst c4
      have H1 : (some true) = some r := by rw [if_neg (show ¬ (false = true) by decide)] at H; exact H
      clear H
      have H := H1
      clear H1
      as_aux_lemma =>
        obtain rfl := Option.some.inj H
        go_enter Try.func5, Try.ntmps5
        go_wp2_with (first | ((with_reducible refine gate_dst (N := 7) rfl ?_); refine Kd.N_lit (Kd.slice 5 (Kd.int .u8)) _ 24 ?hg (N' := 7) ?hd (xs := ([l0] : List (List Int))) (inner := [.slice A0 l0.length c0]) (ok := (fun k_ => (P0_ k_ ∨ w.heap.size ≤ k_))) (okp := (fun k_ => (P0_ k_ ∨ w.heap.size ≤ k_))) ?hr ?hp (fun _ hk => hk) ((show ∀ k_, w.heap.size ≤ k_ → (fun k_ => (P0_ k_ ∨ w.heap.size ≤ k_)) k_ from fun k_ hk => (.inr (Nat.le_trans (below_size (by repeat (first | (with_reducible first | exact HB.out | apply below_alloc | apply pw_below_drewN | apply below_drew1) | exact HB.out))) hk))) _ (Nat.le_refl _)) (Below.refl _ _) (Nat.le_refl _) (by simp) ?_; (case hd => rfl); (case hg => rfl); (case hr => first | (go_simp; done) | (go_simp; rfl)); (case hp => first | exact (Reps.one (show Kd.FK (Kd.slice 5 (Kd.int .u8)) _ _ l0 [.slice A0 l0.length c0] from (Kd.FK_slice_mk (Kd.V_reads' (Kd.V_mono (ok' := (fun k_ => (P0_ k_ ∨ w.heap.size ≤ k_))) (HO0.out) (fun k_ hk => hk))).2.1 (Kd.V_F (Kd.V_mono (ok' := (fun k_ => (P0_ k_ ∨ w.heap.size ≤ k_))) (HO0.out) (fun k_ hk => hk))))) (Reps.none _ _)) | exact (Reps.one (show Kd.FK (Kd.slice 5 (Kd.int .u8)) _ _ l0 [.slice A0 l0.length c0] from (Kd.FK_slice_mk (Kd.V_reads' (Kd.V_mono (ok' := (fun k_ => (P0_ k_ ∨ w.heap.size ≤ k_))) (HO0.out) (fun k_ hk => hk))).2.1 (Kd.V_F (Kd.V_mono (ok' := (fun k_ => (P0_ k_ ∨ w.heap.size ≤ k_))) ((Kd.V_drewN HO0.out _)) (fun k_ hk => hk))))) (Reps.none _ _)) | exact (Reps.one (show Kd.FK (Kd.slice 5 (Kd.int .u8)) _ _ l0 [.slice A0 l0.length c0] from (Kd.FK_slice_mk (Kd.V_reads' (Kd.V_mono (ok' := (fun k_ => (P0_ k_ ∨ w.heap.size ≤ k_))) (HO0.out) (fun k_ hk => hk))).2.1 (Kd.V_F (Kd.V_mono (ok' := (fun k_ => (P0_ k_ ∨ w.heap.size ≤ k_))) ((Kd.V_alloc HO0.out _)) (fun k_ hk => hk))))) (Reps.none _ _)) | exact (Reps.one (show Kd.FK (Kd.slice 5 (Kd.int .u8)) _ _ l0 [.slice A0 l0.length c0] from (Kd.FK_slice_mk (Kd.V_reads' (Kd.V_mono (ok' := (fun k_ => (P0_ k_ ∨ w.heap.size ≤ k_))) (HO0.out) (fun k_ hk => hk))).2.1 (Kd.V_F (Kd.V_mono (ok' := (fun k_ => (P0_ k_ ∨ w.heap.size ≤ k_))) ((by (with_reducible repeat (first | apply Kd.V_alloc | apply Kd.V_drewN | apply Kd.V_drew)); exact HO0.out)) (fun k_ hk => hk))))) (Reps.none _ _))); intro v148 w11 ho12 hb hg_ hnew_; clear hg_ hnew_; (first | rw [← Ny147.out] at ho12 | (simp only [Int.reduceToNat] at ho12; rw [← Ny147.out] at ho12)); have n0_ := Aside0.mk (Kd.V_elder' (by (with_reducible repeat (first | apply Kd.V_alloc | apply Kd.V_drewN | apply Kd.V_drew)); exact HO0.out) (Kd.N_base ho12) hb); have n1_ := Aside0.mk (Kd.N_lower ho12 (below_size (by repeat (first | (with_reducible first | exact HB.out | apply below_alloc | apply pw_below_drewN | apply below_drew1) | exact HB.out)))); have n2_ := Aside0.mk (below_step (by repeat (first | (with_reducible first | exact HB.out | apply below_alloc | apply pw_below_drewN | apply below_drew1) | exact HB.out)) hb); clear HO0; clear HB; have HO0 := n0_; have HO149 := n1_; have HB := n2_; clear n0_ n1_ n2_; clear hb ho12; obtain ⟨Ao13, co13, eo13⟩ := Kd.N_slice HO149.out; subst eo13) | ((with_reducible refine gate_callee (f := 19) rfl ?_); refine goesL_ (some 8) rfl rfl Try.func19 (by kernel_rfl) rfl #[.slice Ao13 y147.length co13] rfl (by (try simp only [List.map_toArray, List.map_cons, List.map_nil]); first | done | rfl | (simp only [List.length_drop, List.length_take]; rfl)) ?_; (with_reducible refine (laws_fewBytes.calls k _ _ y147 false _ ?side1 ?side2 A3.out).mono ?_); (case side1 => repeat (first | exact (Kd.N_reads' HO149.out).2.2 | (with_reducible refine Kd.C_alloc ?_ _) | (with_reducible refine Kd.C_drewN ?_ _) | (with_reducible refine Kd.C_drew ?_))); (case side2 => exact (Kd.N_reads' HO149.out).2.1); rintro e w' ⟨rfl, ⟨nd, rfl⟩⟩; refine ⟨_, rfl, ?_⟩))
        go_ret
        exact ⟨by first | rfl | (simp [errW_none, errW_some] <;> rfl) | (simp [*, errW_none, errW_some] <;> rfl), by repeat (first | (with_reducible first | exact HB.out | apply below_alloc | apply pw_below_drewN | apply below_drew1) | exact HB.out)⟩

/-- THE ONE PURE STATEMENT of laws_FnNumberLength: yours. -/
def laws_FnNumberLength.Pure : Prop := ∀ (l0 : List Int), l0.length ≤ maxLen → l0.length * 1 ≤ 140737488351232 → (∀ x ∈ l0, (Lit.int .u8 x).wf = true) → ∃ k, laws_FnNumberLength.f k l0 = some true
theorem laws_FnNumberLength.walk (P : laws_FnNumberLength.Pure) (a0 : Option Addr) (len0 cap0 : Nat) (z0 : List Int) (w : World) (w0 : (a0 = none ∧ len0 = 0 ∧ cap0 = 0 ∧ z0 = []) ∨ ∃ x, a0 = some x ∧ len0 ≤ cap0 ∧ cap0 ≤ maxLen ∧ z0.length = cap0 ∧ (∀ i, i < z0.length → w.cell? (x.add i) = some (.int .u8 (z0.getD i 0))) ∧ ∀ n ∈ z0, (Lit.int .u8 n).wf = true) (y0 : len0 * 1 ≤ 140737488351232) :
    Calls Try.prog 5 #[.slice a0 len0 cap0] w fun e w' => e = .returned (.bool true) ∧ Below w.heap.size w w' := by
  obtain ⟨l0, rfl, hr0, hm0, hw0, hc0⟩ := ReadsInt.ofRowC w0
  obtain ⟨k, h⟩ := P l0 hm0 y0 hw0
  have CH_ : ∀ {kk_ : IntKind} {AA_ : Option Addr} {xx_ : List Int}, (Kd.int kk_).C w AA_ xx_.length xx_ → Kd.F (Kd.int kk_) w (fun _ => True) AA_ xx_.length xx_ := fun hh_ W' hW => (Kd.heap_int _).C (fun k hk => hW k trivial hk) hh_
  refine (laws_FnNumberLength.calls k (fun _ => True) _ _ l0 true w (Kd.V_mk hc0 (CH_ (Kd.C_of_reads (d := (0 : Int)) (h1 := fun _ => rfl) hr0))) h).mono ?_
  rintro e w' ⟨rfl, hd⟩
  exact ⟨rfl, hd⟩

end Go.Proofs.Yteklgpjdcdkdpaa.PFnNumberLength
