-- Laid by a program of this session, out of the translation's print.
import Derived.Test.YtbpmfmkdpjajhaaPFnEscapex0
import Derived.Test.YtbpmfmkdpjajhaaPFnEscapex1
import Derived.Test.YtbpmfmkdpjajhaaPFnEscapex2
namespace Go.Proofs.Ytbpmfmkdpjajhaa.PFnEscape
open Go.RowKit Go.Proofs.YtbpmfmkdpjajhaaW.PrintWords Go.Proofs.YtbpmfmkdpjajhaaW.PrintLast Go.Proofs.YtbpmfmkdpjajhaaW.PrintMore
attribute [local go_sem] max2_int min2_int max_two min_two max_three min_three max_four min_four   -- for this text's walks alone
set_option linter.unusedVariables false
set_option linter.unusedSimpArgs false

/-! ### spec_Escape: function 34 -/
def spec_Escape.l0 : Nat → List Int → Int → List Int → List Int → Int → Int → Option (List Int)
  | 0, _, _, _, _, _, _ => none
  | k + 1, x2, x3, x9, x15, x16, x17 => if x17 < x16 then (if 0 ≤ x17 then (if x17 < (x15.length : Int) then ((spec_BytePlace.f k x2 (rd x15 x17)).bind fun t160 => (if t160 ≥ 0 then (if x9.length < 140737488355328 then ((some (x9 ++ [x3] : List Int)).bind fun y161 => (if y161.length < 140737488355328 then (spec_Escape.l0 k x2 x3 (y161 ++ [rd x15 x17]) x15 x16 (wrap64 (x17 + 1))) else (none))) else (none)) else (if x9.length < 140737488355328 then (spec_Escape.l0 k x2 x3 (x9 ++ [rd x15 x17]) x15 x16 (wrap64 (x17 + 1))) else (none)))) else (none)) else (none)) else (some x9)
def spec_Escape.f (k : Nat) (l0 : List Int) (l1 : List Int) (l2 : List Int) (a3 : Int) : Option (List Int) := (spec_Join.f k (([l0] : List (List Int)))).bind fun t156 => (spec_Escape.l0 k l2 a3 t156 l1 (l1.length : Int) 0)
theorem spec_Escape.mono_l : ∀ k, (∀ y0 y1 y2 y3 y4 y5, LeO (spec_Escape.l0 k y0 y1 y2 y3 y4 y5) (spec_Escape.l0 (k + 1) y0 y1 y2 y3 y4 y5))
  | 0 => fun _ _ _ _ _ _ r h => by simp [spec_Escape.l0] at h
  | k + 1 => by
    have ih0 := spec_Escape.mono_l k
    · intro y0 y1 y2 y3 y4 y5
      unfold spec_Escape.l0
      repeat' first
      | (with_reducible exact ih0 _ _ _ _ _ _)
      | (with_reducible exact spec_BytePlace.mono _ _ _)
      | (with_reducible exact spec_Join.mono _ _)
      | (with_reducible exact LeO.refl _)
      | (with_reducible exact LeO.none _)
      | (with_reducible refine LeO.ite ?_ ?_)
      | (with_reducible refine LeO.bind ?_ (fun _ => ?_))
      | exact ih0 _ _ _ _ _ _
      | exact spec_BytePlace.mono _ _ _
      | exact spec_Join.mono _ _
      | exact LeO.none _
      | refine LeO.ite ?_ ?_
      | refine LeO.bind ?_ (fun _ => ?_)
theorem spec_Escape.mono : ∀ a0 a1 a2 a3 k, LeO (spec_Escape.f k a0 a1 a2 a3) (spec_Escape.f (k + 1) a0 a1 a2 a3) := by
  intro a0 a1 a2 a3 k
  have ih0 := spec_Escape.mono_l k
  unfold spec_Escape.f
  repeat' first
      | (with_reducible exact ih0 _ _ _ _ _ _)
      | (with_reducible exact spec_BytePlace.mono _ _ _)
      | (with_reducible exact spec_Join.mono _ _)
      | (with_reducible exact LeO.refl _)
      | (with_reducible exact LeO.none _)
      | (with_reducible refine LeO.ite ?_ ?_)
      | (with_reducible refine LeO.bind ?_ (fun _ => ?_))
      | exact ih0 _ _ _ _ _ _
      | exact spec_BytePlace.mono _ _ _
      | exact spec_Join.mono _ _
      | exact LeO.none _
      | refine LeO.ite ?_ ?_
      | refine LeO.bind ?_ (fun _ => ?_)
set_option maxHeartbeats 8000000 in
set_option maxRecDepth 100000 in
theorem spec_Escape.calls (k : Nat) (P0_ : Nat → Prop) (A0 : Option Addr) (c0 : Nat) (l0 : List Int) (A1 : Option Addr) (c1 : Nat) (l1 : List Int) (A2 : Option Addr) (c2 : Nat) (l2 : List Int) (a3 : Int) (r : List Int) (w : World) (hs0 : Kd.V (Kd.int .u8) 5 w w.heap.size (fun k_ => P0_ k_) (.slice A0 l0.length c0) l0) (hr1 : Kd.C (Kd.int .u8) w A1 l1.length l1) (hc1 : l1.length ≤ c1) (hr2 : Kd.C (Kd.int .u8) w A2 l2.length l2) (hc2 : l2.length ≤ c2) (h : spec_Escape.f k l0 l1 l2 a3 = some r) :
    Calls Try.prog 34 #[.slice A0 l0.length c0, .slice A1 l1.length c1, .slice A2 l2.length c2, .int .u8 a3] w fun e w' => ∃ v0_ : Value, e = .returned (v0_) ∧ Kd.R (Kd.int .u8) 5 w' w.heap.size (fun k_ => (w.heap.size ≤ k_)) v0_ r ∧ Below w.heap.size w w' := by
  have HO0 := Aside0.mk (show Kd.V (Kd.int .u8) 5 w w.heap.size (fun k_ => (P0_ k_ ∨ w.heap.size ≤ k_)) (.slice A0 l0.length c0) l0 from Kd.V_mono hs0 (fun k_ hk => .inl hk))
  have HR1 := Aside0.mk hr1
  have HC1 := Aside0.mk hc1
  clear hr1 hc1
  have HR2 := Aside0.mk hr2
  have HC2 := Aside0.mk hc2
  clear hr2 hc2
  have HB := Aside0.mk (Below.refl w.heap.size w)
  have H : ((spec_Join.f k (([l0] : List (List Int)))).bind fun t156 => (spec_Escape.l0 k l2 a3 t156 l1 (l1.length : Int) 0)) = some r := h
  clear h
  obtain ⟨y153, hy153⟩ : ∃ y_ : List (List Int), y_ = (([l0] : List (List Int))) := ⟨_, rfl⟩
  replace H : ((spec_Join.f k y153).bind fun t156 => (spec_Escape.l0 k l2 a3 t156 l1 (l1.length : Int) 0)) = some r := by first | (rw [hy153]; with_reducible exact H) | (have H2_ := (Option.bind_some _ _).symm.trans H; rw [hy153]; with_reducible exact H2_) | (have H2_ := (Option.bind_some _ _).symm.trans H; with_reducible exact H2_) | with_reducible exact H | (rw [hy153]; exact H) | exact H
  have Ny153 := Aside0.mk hy153
  clear hy153
  replace H := Option.bind_eq_some_iff.mp H
  obtain ⟨t156, A50, H⟩ := H
  replace H : (spec_Escape.l0 k l2 a3 t156 l1 (l1.length : Int) 0) = some r := H
  have A5 := Aside0.mk A50
  clear A50
  have H' := Aside0.mk H
  clear H
  go_enter Try.func34, Try.ntmps34
  go_wp2_with (first | ((with_reducible refine gate_dst (N := 13) rfl ?_); refine Kd.N_lit (Kd.slice 5 (Kd.int .u8)) _ 22 ?hg (N' := 13) ?hd (xs := ([l0] : List (List Int))) (inner := [.slice A0 l0.length c0]) (ok := (fun k_ => (P0_ k_ ∨ w.heap.size ≤ k_))) (okp := (fun k_ => (P0_ k_ ∨ w.heap.size ≤ k_))) ?hr ?hp (fun _ hk => hk) ((show ∀ k_, w.heap.size ≤ k_ → (fun k_ => (P0_ k_ ∨ w.heap.size ≤ k_)) k_ from fun k_ hk => (.inr (Nat.le_trans (below_size (by repeat (first | (with_reducible first | exact HB.out | apply below_alloc | apply pw_below_drewN | apply below_drew1) | exact HB.out))) hk))) _ (Nat.le_refl _)) (Below.refl _ _) (Nat.le_refl _) (by simp) ?_; (case hd => rfl); (case hg => rfl); (case hr => first | (go_simp; done) | (go_simp; rfl)); (case hp => first | exact (Reps.one (show Kd.FK (Kd.slice 5 (Kd.int .u8)) _ _ l0 [.slice A0 l0.length c0] from (Kd.FK_slice_mk (Kd.V_reads' (Kd.V_mono (ok' := (fun k_ => (P0_ k_ ∨ w.heap.size ≤ k_))) (HO0.out) (fun k_ hk => hk))).2.1 (Kd.V_F (Kd.V_mono (ok' := (fun k_ => (P0_ k_ ∨ w.heap.size ≤ k_))) (HO0.out) (fun k_ hk => hk))))) (Reps.none _ _)) | exact (Reps.one (show Kd.FK (Kd.slice 5 (Kd.int .u8)) _ _ l0 [.slice A0 l0.length c0] from (Kd.FK_slice_mk (Kd.V_reads' (Kd.V_mono (ok' := (fun k_ => (P0_ k_ ∨ w.heap.size ≤ k_))) (HO0.out) (fun k_ hk => hk))).2.1 (Kd.V_F (Kd.V_mono (ok' := (fun k_ => (P0_ k_ ∨ w.heap.size ≤ k_))) ((Kd.V_drewN HO0.out _)) (fun k_ hk => hk))))) (Reps.none _ _)) | exact (Reps.one (show Kd.FK (Kd.slice 5 (Kd.int .u8)) _ _ l0 [.slice A0 l0.length c0] from (Kd.FK_slice_mk (Kd.V_reads' (Kd.V_mono (ok' := (fun k_ => (P0_ k_ ∨ w.heap.size ≤ k_))) (HO0.out) (fun k_ hk => hk))).2.1 (Kd.V_F (Kd.V_mono (ok' := (fun k_ => (P0_ k_ ∨ w.heap.size ≤ k_))) ((Kd.V_alloc HO0.out _)) (fun k_ hk => hk))))) (Reps.none _ _)) | exact (Reps.one (show Kd.FK (Kd.slice 5 (Kd.int .u8)) _ _ l0 [.slice A0 l0.length c0] from (Kd.FK_slice_mk (Kd.V_reads' (Kd.V_mono (ok' := (fun k_ => (P0_ k_ ∨ w.heap.size ≤ k_))) (HO0.out) (fun k_ hk => hk))).2.1 (Kd.V_F (Kd.V_mono (ok' := (fun k_ => (P0_ k_ ∨ w.heap.size ≤ k_))) ((by (with_reducible repeat (first | apply Kd.V_alloc | apply Kd.V_drewN | apply Kd.V_drew)); exact HO0.out)) (fun k_ hk => hk))))) (Reps.none _ _))); intro v154 w6 ho7 hb hg_ hnew_; clear hg_ hnew_; (first | rw [← Ny153.out] at ho7 | (simp only [Int.reduceToNat] at ho7; rw [← Ny153.out] at ho7)); have n0_ := Aside0.mk (Kd.V_elder' (by (with_reducible repeat (first | apply Kd.V_alloc | apply Kd.V_drewN | apply Kd.V_drew)); exact HO0.out) (Kd.N_base ho7) hb); have n1_ := Aside0.mk (Kd.N_lower ho7 (below_size (by repeat (first | (with_reducible first | exact HB.out | apply below_alloc | apply pw_below_drewN | apply below_drew1) | exact HB.out)))); have n2_ := Aside0.mk (below_step (by repeat (first | (with_reducible first | exact HB.out | apply below_alloc | apply pw_below_drewN | apply below_drew1) | exact HB.out)) hb); clear HO0; clear HB; have HO0 := n0_; have HO155 := n1_; have HB := n2_; clear n0_ n1_ n2_; clear hb ho7; obtain ⟨Ao8, co8, eo8⟩ := Kd.N_slice HO155.out; subst eo8) | ((with_reducible refine gate_callee (f := 22) rfl ?_); refine goesL_ (some 14) rfl rfl Try.func22 (by kernel_rfl) rfl #[.slice Ao8 y153.length co8] rfl (by (try simp only [List.map_toArray, List.map_cons, List.map_nil]); first | done | rfl | (simp only [List.length_drop, List.length_take]; rfl)) ?_; (with_reducible refine (spec_Join.calls k _ _ y153 t156 _ ?side1 ?side2 A5.out).mono ?_); (case side1 => repeat (first | exact (Kd.N_reads' HO155.out).2.2 | (with_reducible refine Kd.C_alloc ?_ _) | (with_reducible refine Kd.C_drewN ?_ _) | (with_reducible refine Kd.C_drew ?_))); (case side2 => exact (Kd.N_reads' HO155.out).2.1); rintro e w9 ⟨v157, rfl, ho0, hb⟩; refine ⟨_, rfl, ?_⟩; have n0_ := Aside0.mk (Kd.V_elder' (by (with_reducible repeat (first | apply Kd.V_alloc | apply Kd.V_drewN | apply Kd.V_drew)); exact HO0.out) (Kd.R_base ho0) hb); have n1_ := Aside0.mk (Kd.N_elder' (by (with_reducible repeat (first | apply Kd.N_alloc | apply Kd.N_drewN | apply Kd.N_drew)); exact HO155.out) (Kd.R_base ho0) hb); have n2_ := Aside0.mk (Kd.R_lower (Kd.R_newM (M := fun k_ => (w.heap.size ≤ k_)) ho0 (below_size (by repeat (first | (with_reducible first | exact HB.out | apply below_alloc | apply pw_below_drewN | apply below_drew1) | exact HB.out))) (fun k_ h_ => h_)) (below_size (by repeat (first | (with_reducible first | exact HB.out | apply below_alloc | apply pw_below_drewN | apply below_drew1) | exact HB.out)))); have n3_ := Aside0.mk (below_step (by repeat (first | (with_reducible first | exact HB.out | apply below_alloc | apply pw_below_drewN | apply below_drew1) | exact HB.out)) hb); clear HO0; clear HO155; clear HB; have HO0 := n0_; have HO155 := n1_; have HO158 := n2_; have HB := n3_; clear n0_ n1_ n2_ n3_; (try clear hb); (try clear hb2); (try clear hk); (try clear hi); (try clear ho0)))
  go_loopg [9, 17] k (fun kq v9 v17 w' => ∃ (x9_1 : List Int) (x17_1 : Int), v17 = .int .i64 x17_1 ∧ Aside0 (spec_Escape.l0 kq l2 a3 x9_1 l1 (l1.length : Int) x17_1 = some r) ∧ Aside0 (kq ≤ k) ∧ Aside0 (Kd.R (Kd.int .u8) 5 w' w.heap.size (fun k_ => (w.heap.size ≤ k_)) v9 x9_1) ∧ Aside0 (Below w.heap.size w w'))
  case atStart => exact ⟨(t156), (0), (by first | rfl | (simp; done) | (simp [*]; done)), H', ⟨Nat.le_refl _⟩, ⟨by (with_reducible repeat (first | apply Kd.R_alloc | apply Kd.R_drewN | apply Kd.R_drew)); exact Kd.R_mono HO158.out (fun _ hk => hk.1)⟩, ⟨by repeat (first | (with_reducible first | exact HB.out | apply below_alloc | apply pw_below_drewN | apply below_drew1) | exact HB.out)⟩⟩
  case round =>
    clear H'
    try clear c1
    try clear c2
    try clear p2
    try clear c3
    obtain ⟨x9_1, x17_1, rfl, HA, HK1, HO_9, HB⟩ := hrel
    cases gk with
    | zero => exact absurd HA.out (by simp [spec_Escape.l0])
    | succ k1 =>
      have H := HA.out
      clear HA
      simp only [spec_Escape.l0] at H
      by_cases c10 : x17_1 < (l1.length : Int)
      · rw [if_pos c10] at H
        have c10b0 : decide (x17_1 < (l1.length : Int)) = true := decide_eq_true c10
        clear c10
        by_cases c11 : 0 ≤ x17_1
        · rw [if_pos c11] at H
          have c11b0 : decide (0 ≤ x17_1) = true := decide_eq_true c11
          clear c11
          by_cases c12 : x17_1 < (l1.length : Int)
          · rw [if_pos c12] at H
            have c12b0 : decide (x17_1 < (l1.length : Int)) = true := decide_eq_true c12
            clear c12
            replace H := Option.bind_eq_some_iff.mp H
            obtain ⟨t160, A130, H⟩ := H
            replace H : (if t160 ≥ 0 then (if x9_1.length < 140737488355328 then ((some (x9_1 ++ [a3] : List Int)).bind fun y161 => (if y161.length < 140737488355328 then (spec_Escape.l0 k1 l2 a3 (y161 ++ [rd l1 x17_1]) l1 (l1.length : Int) (wrap64 (x17_1 + 1))) else (none))) else (none)) else (if x9_1.length < 140737488355328 then (spec_Escape.l0 k1 l2 a3 (x9_1 ++ [rd l1 x17_1]) l1 (l1.length : Int) (wrap64 (x17_1 + 1))) else (none))) = some r := H
            have A13 := Aside0.mk A130
            clear A130
            by_cases c14 : t160 ≥ 0
            · rw [if_pos c14] at H
              have c14b0 : decide (0 ≤ t160) = true := decide_eq_true c14
              clear c14
              by_cases c15 : x9_1.length < 140737488355328
              · rw [if_pos c15] at H
                have LMc15 := Aside0.mk c15
                clear c15
                obtain ⟨y161, hy161⟩ : ∃ y_ : List Int, y_ = (x9_1 ++ [a3]) := ⟨_, rfl⟩
                replace H : (if y161.length < 140737488355328 then (spec_Escape.l0 k1 l2 a3 (y161 ++ [rd l1 x17_1]) l1 (l1.length : Int) (wrap64 (x17_1 + 1))) else (none)) = some r := by first | (rw [hy161]; with_reducible exact H) | (have H2_ := (Option.bind_some _ _).symm.trans H; rw [hy161]; with_reducible exact H2_) | (have H2_ := (Option.bind_some _ _).symm.trans H; with_reducible exact H2_) | with_reducible exact H | (rw [hy161]; exact H) | exact H
                have Ny161 := Aside0.mk hy161
                clear hy161
                by_cases c16 : y161.length < 140737488355328
                · rw [if_pos c16] at H
                  have LMc16 := Aside0.mk c16
                  clear c16
                  obtain ⟨y164, hy164⟩ : ∃ y_ : List Int, y_ = (y161 ++ [rd l1 x17_1]) := ⟨_, rfl⟩
                  replace H : (spec_Escape.l0 k1 l2 a3 y164 l1 (l1.length : Int) (wrap64 (x17_1 + 1))) = some r := by first | (rw [hy164]; with_reducible exact H) | (have H2_ := (Option.bind_some _ _).symm.trans H; rw [hy164]; with_reducible exact H2_) | (have H2_ := (Option.bind_some _ _).symm.trans H; with_reducible exact H2_) | with_reducible exact H | (rw [hy164]; exact H) | exact H
                  have Ny164 := Aside0.mk hy164
                  clear hy164
                  have H' := Aside0.mk H
                  clear H
                  have p159 : 0 ≤ (x17_1 : Int) := of_decide_eq_true (by first | (with_reducible assumption) | assumption)
                  have q159 : x17_1 < (l1.length : Int) := of_decide_eq_true (by first | (with_reducible assumption) | assumption)
                  obtain ⟨ad159, e159, hx159_0⟩ := Kd.at_int HR1.out x17_1 p159 q159
                  cases e159
                  replace hx159_0 := (HB.out.cell (World.block_lt_of_cell? w _ hx159_0)).trans hx159_0
                  replace p159 := eq_true p159
                  replace q159 := eq_true q159
                  go_wp2_with (first | ((with_reducible refine gate_callee (f := 54) rfl ?_); refine goesL_ (some 23) rfl rfl Try.func54 (by kernel_rfl) rfl #[.slice A2 l2.length c2, .int .u8 (rd l1 x17_1)] rfl (by (try simp only [List.map_toArray, List.map_cons, List.map_nil]); first | done | rfl | (simp only [List.length_drop, List.length_take]; rfl)) ?_; (with_reducible refine (spec_BytePlace.calls k1 _ _ l2 (rd l1 x17_1) t160 _ ?side1 ?side2 A13.out).mono ?_); (case side1 => repeat (first | exact (Kd.C_below HR2.out HB.out) | (with_reducible refine Kd.C_alloc ?_ _) | (with_reducible refine Kd.C_drewN ?_ _) | (with_reducible refine Kd.C_drew ?_))); (case side2 => exact HC2.out); rintro e w' ⟨rfl, ⟨nd, rfl⟩⟩; refine ⟨_, rfl, ?_⟩) | ((with_reducible refine gate_builtin (b := .append) (xs := #[.tmp 25, .tmp 27]) rfl ?_); at_builtin; refine Kd.R_append (Kd.int .u8) (w0 := w) w.heap.size rfl (.tmp 25) (.tmp 27) 22 5 (.int .u8 0) 1 rfl Try.underlying22 info5 rfl (by decide) (by omega) u9 x9_1 a3 [.int .u8 a3] (fun k_ => (w.heap.size ≤ k_)) (fun _ => False) rfl rfl ?aP (fun _ hk => hk.elim) ?aF ?aO ?aB ?aS ?aL ?_; (case aP => exact rfl); (case aB => exact (by repeat (first | (with_reducible first | exact HB.out | apply below_alloc | apply pw_below_drewN | apply below_drew1) | exact HB.out))); (case aF => exact (fun k_ hk => (Nat.le_trans (below_size (by repeat (first | (with_reducible first | exact HB.out | apply below_alloc | apply pw_below_drewN | apply below_drew1) | exact HB.out))) hk))); (case aO => exact (by (with_reducible repeat (first | apply Kd.R_alloc | apply Kd.R_drewN | apply Kd.R_drew)); exact HO_9.out)); (case aS => exact (below_size (by repeat (first | (with_reducible first | exact HB.out | apply below_alloc | apply pw_below_drewN | apply below_drew1) | exact HB.out)))); (case aL => have := LMc15.out; omega); intro v162 w17 ho hb hg hat; rw [← Ny161.out] at ho; have n0_ := Aside0.mk (hb); have n1_ := Aside0.mk (ho); clear HB; clear HO_9; have HB := n0_; have HO163 := n1_; clear n0_ n1_; clear ho hb hg hat) | ((with_reducible refine gate_builtin (b := .append) (xs := #[.tmp 29, .tmp 31]) rfl ?_); at_builtin; refine Kd.R_append (Kd.int .u8) (w0 := w) w.heap.size rfl (.tmp 29) (.tmp 31) 22 5 (.int .u8 0) 1 rfl Try.underlying22 info5 rfl (by decide) (by omega) v162 y161 (rd l1 x17_1) [.int .u8 (rd l1 x17_1)] (fun k_ => (w.heap.size ≤ k_)) (fun _ => False) rfl rfl ?aP (fun _ hk => hk.elim) ?aF ?aO ?aB ?aS ?aL ?_; (case aP => exact rfl); (case aB => exact (by repeat (first | (with_reducible first | exact HB.out | apply below_alloc | apply pw_below_drewN | apply below_drew1) | exact HB.out))); (case aF => exact (fun k_ hk => (Nat.le_trans (below_size (by repeat (first | (with_reducible first | exact HB.out | apply below_alloc | apply pw_below_drewN | apply below_drew1) | exact HB.out))) hk))); (case aO => exact (by (with_reducible repeat (first | apply Kd.R_alloc | apply Kd.R_drewN | apply Kd.R_drew)); exact HO163.out)); (case aS => exact (below_size (by repeat (first | (with_reducible first | exact HB.out | apply below_alloc | apply pw_below_drewN | apply below_drew1) | exact HB.out)))); (case aL => have := LMc16.out; omega); intro v165 w18 ho hb hg hat; rw [← Ny164.out] at ho; have n0_ := Aside0.mk (hb); have n1_ := Aside0.mk (ho); clear HB; clear HO163; have HB := n0_; have HO166 := n1_; clear n0_ n1_; clear ho hb hg hat))
                  go_roundg k1
                  case measure => have := HK1.out; omega
                  case rel => exact ⟨(y164), (wrap64 (x17_1 + 1)), (by first | rfl | (simp; done) | (simp [*]; done)), H', ⟨by have := HK1.out; omega⟩, ⟨by (with_reducible repeat (first | apply Kd.R_alloc | apply Kd.R_drewN | apply Kd.R_drew)); exact HO166.out⟩, ⟨by repeat (first | (with_reducible first | exact HB.out | apply below_alloc | apply pw_below_drewN | apply below_drew1) | exact HB.out)⟩⟩
                · rw [if_neg c16] at H
                  exact absurd H (by simp)
              · rw [if_neg c15] at H
                exact absurd H (by simp)
            · rw [if_neg c14] at H
              have c14b0 : decide (0 ≤ t160) = false := decide_eq_false c14
              clear c14
              by_cases c19 : x9_1.length < 140737488355328
              · rw [if_pos c19] at H
                have LMc19 := Aside0.mk c19
                clear c19
                obtain ⟨y167, hy167⟩ : ∃ y_ : List Int, y_ = (x9_1 ++ [rd l1 x17_1]) := ⟨_, rfl⟩
                replace H : (spec_Escape.l0 k1 l2 a3 y167 l1 (l1.length : Int) (wrap64 (x17_1 + 1))) = some r := by first | (rw [hy167]; with_reducible exact H) | (have H2_ := (Option.bind_some _ _).symm.trans H; rw [hy167]; with_reducible exact H2_) | (have H2_ := (Option.bind_some _ _).symm.trans H; with_reducible exact H2_) | with_reducible exact H | (rw [hy167]; exact H) | exact H
                have Ny167 := Aside0.mk hy167
                clear hy167
                have H' := Aside0.mk H
                clear H
                have p159 : 0 ≤ (x17_1 : Int) := of_decide_eq_true (by first | (with_reducible assumption) | assumption)
                have q159 : x17_1 < (l1.length : Int) := of_decide_eq_true (by first | (with_reducible assumption) | assumption)
                obtain ⟨ad159, e159, hx159_0⟩ := Kd.at_int HR1.out x17_1 p159 q159
                cases e159
                replace hx159_0 := (HB.out.cell (World.block_lt_of_cell? w _ hx159_0)).trans hx159_0
                replace p159 := eq_true p159
                replace q159 := eq_true q159
                go_wp2_with (first | ((with_reducible refine gate_callee (f := 54) rfl ?_); refine goesL_ (some 23) rfl rfl Try.func54 (by kernel_rfl) rfl #[.slice A2 l2.length c2, .int .u8 (rd l1 x17_1)] rfl (by (try simp only [List.map_toArray, List.map_cons, List.map_nil]); first | done | rfl | (simp only [List.length_drop, List.length_take]; rfl)) ?_; (with_reducible refine (spec_BytePlace.calls k1 _ _ l2 (rd l1 x17_1) t160 _ ?side1 ?side2 A13.out).mono ?_); (case side1 => repeat (first | exact (Kd.C_below HR2.out HB.out) | (with_reducible refine Kd.C_alloc ?_ _) | (with_reducible refine Kd.C_drewN ?_ _) | (with_reducible refine Kd.C_drew ?_))); (case side2 => exact HC2.out); rintro e w' ⟨rfl, ⟨nd, rfl⟩⟩; refine ⟨_, rfl, ?_⟩) | ((with_reducible refine gate_builtin (b := .append) (xs := #[.tmp 29, .tmp 31]) rfl ?_); at_builtin; refine Kd.R_append (Kd.int .u8) (w0 := w) w.heap.size rfl (.tmp 29) (.tmp 31) 22 5 (.int .u8 0) 1 rfl Try.underlying22 info5 rfl (by decide) (by omega) u9 x9_1 (rd l1 x17_1) [.int .u8 (rd l1 x17_1)] (fun k_ => (w.heap.size ≤ k_)) (fun _ => False) rfl rfl ?aP (fun _ hk => hk.elim) ?aF ?aO ?aB ?aS ?aL ?_; (case aP => exact rfl); (case aB => exact (by repeat (first | (with_reducible first | exact HB.out | apply below_alloc | apply pw_below_drewN | apply below_drew1) | exact HB.out))); (case aF => exact (fun k_ hk => (Nat.le_trans (below_size (by repeat (first | (with_reducible first | exact HB.out | apply below_alloc | apply pw_below_drewN | apply below_drew1) | exact HB.out))) hk))); (case aO => exact (by (with_reducible repeat (first | apply Kd.R_alloc | apply Kd.R_drewN | apply Kd.R_drew)); exact HO_9.out)); (case aS => exact (below_size (by repeat (first | (with_reducible first | exact HB.out | apply below_alloc | apply pw_below_drewN | apply below_drew1) | exact HB.out)))); (case aL => have := LMc19.out; omega); intro v168 w20 ho hb hg hat; rw [← Ny167.out] at ho; have n0_ := Aside0.mk (hb); have n1_ := Aside0.mk (ho); clear HB; clear HO_9; have HB := n0_; have HO169 := n1_; clear n0_ n1_; clear ho hb hg hat))
                go_roundg k1
                case measure => have := HK1.out; omega
                case rel => exact ⟨(y167), (wrap64 (x17_1 + 1)), (by first | rfl | (simp; done) | (simp [*]; done)), H', ⟨by have := HK1.out; omega⟩, ⟨by (with_reducible repeat (first | apply Kd.R_alloc | apply Kd.R_drewN | apply Kd.R_drew)); exact HO169.out⟩, ⟨by repeat (first | (with_reducible first | exact HB.out | apply below_alloc | apply pw_below_drewN | apply below_drew1) | exact HB.out)⟩⟩
              · rw [if_neg c19] at H
                exact absurd H (by simp)
          · rw [if_neg c12] at H
            exact absurd H (by simp)
        · rw [if_neg c11] at H
          exact absurd H (by simp)
      · rw [if_neg c10] at H
        have c10b0 : decide (x17_1 < (l1.length : Int)) = false := decide_eq_false c10
        clear c10
        obtain rfl := Option.some.inj H
        go_wp2
        go_ret
        exact ⟨_, by first | rfl | (simp [errW_none, errW_some] <;> rfl) | (simp [*, errW_none, errW_some] <;> rfl), by (with_reducible repeat (first | apply Kd.R_alloc | apply Kd.R_drewN | apply Kd.R_drew)); exact HO_9.out, by repeat (first | (with_reducible first | exact HB.out | apply below_alloc | apply pw_below_drewN | apply below_drew1) | exact HB.out)⟩

/-! ### laws_FnEscape: function 11 -/
def laws_FnEscape.j0 : Nat → List Int → List Int → List Int → Int → Bool → Option (Bool)
  | 0, _, _, _, _, _ => none
  | k + 1, x0, x1, x2, x3, x21 => if x21 = true then (some true) else ((laws_fewBytes.f k (([x0, x1, x2] : List (List Int)))).bind fun t173 => (if t173 = true then ((spec_Join.f k (([x2] : List (List Int)))).bind fun t177 => (if t177.length < 140737488355328 then ((some (t177 ++ [x3] : List Int)).bind fun y180 => ((impl_Escape.f k x0 x1 y180 x3).bind fun t183 => ((spec_Escape.f k x0 x1 y180 x3).bind fun t186 => ((spec_SameBytes.f k t183 t186).bind fun t189 => (some t189))))) else (none))) else (some true)))
def laws_FnEscape.f (k : Nat) (l0 : List Int) (l1 : List Int) (l2 : List Int) (a3 : Int) : Option (Bool) := if (l0.length : Int) > 2147483647 then (laws_FnEscape.j0 k l0 l1 l2 a3 true) else (if (l1.length : Int) > 2147483647 then (laws_FnEscape.j0 k l0 l1 l2 a3 true) else (laws_FnEscape.j0 k l0 l1 l2 a3 (decide ((l2.length : Int) > 2147483647))))
theorem laws_FnEscape.mono_l : ∀ k, (∀ y0 y1 y2 y3 y4, LeO (laws_FnEscape.j0 k y0 y1 y2 y3 y4) (laws_FnEscape.j0 (k + 1) y0 y1 y2 y3 y4))
  | 0 => fun _ _ _ _ _ r h => by simp [laws_FnEscape.j0] at h
  | k + 1 => by
    have ih0 := laws_FnEscape.mono_l k
    · intro y0 y1 y2 y3 y4
      unfold laws_FnEscape.j0
      repeat' first
      | (with_reducible exact ih0 _ _ _ _ _)
      | (with_reducible exact impl_Escape.mono _ _ _ _ _)
      | (with_reducible exact laws_fewBytes.mono _ _)
      | (with_reducible exact spec_Escape.mono _ _ _ _ _)
      | (with_reducible exact spec_Join.mono _ _)
      | (with_reducible exact spec_SameBytes.mono _ _ _)
      | (with_reducible exact LeO.refl _)
      | (with_reducible exact LeO.none _)
      | (with_reducible refine LeO.ite ?_ ?_)
      | (with_reducible refine LeO.bind ?_ (fun _ => ?_))
      | exact ih0 _ _ _ _ _
      | exact impl_Escape.mono _ _ _ _ _
      | exact laws_fewBytes.mono _ _
      | exact spec_Escape.mono _ _ _ _ _
      | exact spec_Join.mono _ _
      | exact spec_SameBytes.mono _ _ _
      | exact LeO.none _
      | refine LeO.ite ?_ ?_
      | refine LeO.bind ?_ (fun _ => ?_)
theorem laws_FnEscape.mono : ∀ a0 a1 a2 a3 k, LeO (laws_FnEscape.f k a0 a1 a2 a3) (laws_FnEscape.f (k + 1) a0 a1 a2 a3) := by
  intro a0 a1 a2 a3 k
  have ih0 := laws_FnEscape.mono_l k
  unfold laws_FnEscape.f
  repeat' first
      | (with_reducible exact ih0 _ _ _ _ _)
      | (with_reducible exact impl_Escape.mono _ _ _ _ _)
      | (with_reducible exact laws_fewBytes.mono _ _)
      | (with_reducible exact spec_Escape.mono _ _ _ _ _)
      | (with_reducible exact spec_Join.mono _ _)
      | (with_reducible exact spec_SameBytes.mono _ _ _)
      | (with_reducible exact LeO.refl _)
      | (with_reducible exact LeO.none _)
      | (with_reducible refine LeO.ite ?_ ?_)
      | (with_reducible refine LeO.bind ?_ (fun _ => ?_))
      | exact ih0 _ _ _ _ _
      | exact impl_Escape.mono _ _ _ _ _
      | exact laws_fewBytes.mono _ _
      | exact spec_Escape.mono _ _ _ _ _
      | exact spec_Join.mono _ _
      | exact spec_SameBytes.mono _ _ _
      | exact LeO.none _
      | refine LeO.ite ?_ ?_
      | refine LeO.bind ?_ (fun _ => ?_)
set_option maxHeartbeats 8000000 in
set_option maxRecDepth 100000 in
theorem laws_FnEscape.calls (k : Nat) (P0_ : Nat → Prop) (A0 : Option Addr) (c0 : Nat) (l0 : List Int) (P1_ : Nat → Prop) (A1 : Option Addr) (c1 : Nat) (l1 : List Int) (P2_ : Nat → Prop) (A2 : Option Addr) (c2 : Nat) (l2 : List Int) (a3 : Int) (r : Bool) (w : World) (hs0 : Kd.V (Kd.int .u8) 5 w w.heap.size (fun k_ => P0_ k_) (.slice A0 l0.length c0) l0) (hs1 : Kd.V (Kd.int .u8) 5 w w.heap.size (fun k_ => P1_ k_) (.slice A1 l1.length c1) l1) (hs2 : Kd.V (Kd.int .u8) 5 w w.heap.size (fun k_ => P2_ k_) (.slice A2 l2.length c2) l2) (h : laws_FnEscape.f k l0 l1 l2 a3 = some r) :
    Calls Try.prog 11 #[.slice A0 l0.length c0, .slice A1 l1.length c1, .slice A2 l2.length c2, .int .u8 a3] w fun e w' => e = .returned (.bool r) ∧ Below w.heap.size w w' := by
  have HO0 := Aside0.mk (show Kd.V (Kd.int .u8) 5 w w.heap.size (fun k_ => ((P0_ k_ ∨ P1_ k_ ∨ P2_ k_) ∨ w.heap.size ≤ k_)) (.slice A0 l0.length c0) l0 from Kd.V_mono hs0 (fun k_ hk => .inl (.inl hk)))
  have HO1 := Aside0.mk (show Kd.V (Kd.int .u8) 5 w w.heap.size (fun k_ => ((P0_ k_ ∨ P1_ k_ ∨ P2_ k_) ∨ w.heap.size ≤ k_)) (.slice A1 l1.length c1) l1 from Kd.V_mono hs1 (fun k_ hk => .inl (.inr (.inl hk))))
  have HO2 := Aside0.mk (show Kd.V (Kd.int .u8) 5 w w.heap.size (fun k_ => ((P0_ k_ ∨ P1_ k_ ∨ P2_ k_) ∨ w.heap.size ≤ k_)) (.slice A2 l2.length c2) l2 from Kd.V_mono hs2 (fun k_ hk => .inl (.inr (.inr hk))))
  have HB := Aside0.mk (Below.refl w.heap.size w)
  have H : (if (l0.length : Int) > 2147483647 then (laws_FnEscape.j0 k l0 l1 l2 a3 true) else (if (l1.length : Int) > 2147483647 then (laws_FnEscape.j0 k l0 l1 l2 a3 true) else (laws_FnEscape.j0 k l0 l1 l2 a3 (decide ((l2.length : Int) > 2147483647))))) = some r := h
  clear h
  have HC5 := Aside0.mk H
  clear H
  go_enter Try.func11, Try.ntmps11
  go_upto_region 1 with (fail)
  go_cut [21] (fun v21 wc => ∃ (kq : Nat) (x21_4 : Bool), v21 = .bool x21_4 ∧ Aside0 (laws_FnEscape.j0 kq l0 l1 l2 a3 x21_4 = some r) ∧ Aside0 (kq ≤ k) ∧ Aside0 (Kd.V (Kd.int .u8) 5 wc w.heap.size (fun k_ => ((P0_ k_ ∨ P1_ k_ ∨ P2_ k_) ∨ w.heap.size ≤ k_)) (.slice A0 l0.length c0) l0) ∧ Aside0 (Kd.V (Kd.int .u8) 5 wc w.heap.size (fun k_ => ((P0_ k_ ∨ P1_ k_ ∨ P2_ k_) ∨ w.heap.size ≤ k_)) (.slice A1 l1.length c1) l1) ∧ Aside0 (Kd.V (Kd.int .u8) 5 wc w.heap.size (fun k_ => ((P0_ k_ ∨ P1_ k_ ∨ P2_ k_) ∨ w.heap.size ≤ k_)) (.slice A2 l2.length c2) l2) ∧ Aside0 (Below w.heap.size w wc))
  case first =>
    have H := HC5.out
    clear HC5
    by_cases c6 : (l0.length : Int) > 2147483647
    · rw [if_pos c6] at H
      have c6b0 : decide (2147483647 < (l0.length : Int)) = true := decide_eq_true c6
      have c6b1 : decide (2147483647 < l0.length) = true := decide_eq_true (by omega)
      clear c6
      (first | rw [c6b0] | (simp only [i64_w, i32_w]; rw [c6b0]) | skip)
      have H' := Aside0.mk H
      clear H
      go_wp2
      go_meet
      case rel => exact ⟨_, (true), (by first | rfl | (simp; done) | (simp [*]; done)), H', ⟨by first | omega | exact Nat.le_refl _⟩, ⟨by (with_reducible repeat (first | apply Kd.V_alloc | apply Kd.V_drewN | apply Kd.V_drew)); exact HO0.out⟩, ⟨by (with_reducible repeat (first | apply Kd.V_alloc | apply Kd.V_drewN | apply Kd.V_drew)); exact HO1.out⟩, ⟨by (with_reducible repeat (first | apply Kd.V_alloc | apply Kd.V_drewN | apply Kd.V_drew)); exact HO2.out⟩, ⟨by repeat (first | (with_reducible first | exact HB.out | apply below_alloc | apply pw_below_drewN | apply below_drew1) | exact HB.out)⟩⟩
    · rw [if_neg c6] at H
      have c6b0 : decide (2147483647 < (l0.length : Int)) = false := decide_eq_false c6
      have c6b1 : decide (2147483647 < l0.length) = false := decide_eq_false (by omega)
      clear c6
      (first | rw [c6b0] | (simp only [i64_w, i32_w]; rw [c6b0]) | skip)
      by_cases c7 : (l1.length : Int) > 2147483647
      · rw [if_pos c7] at H
        have c7b0 : decide (2147483647 < (l1.length : Int)) = true := decide_eq_true c7
        have c7b1 : decide (2147483647 < l1.length) = true := decide_eq_true (by omega)
        clear c7
        have H' := Aside0.mk H
        clear H
        go_wp2
        go_meet
        case rel => exact ⟨_, (true), (by first | rfl | (simp; done) | (simp [*]; done)), H', ⟨by first | omega | exact Nat.le_refl _⟩, ⟨by (with_reducible repeat (first | apply Kd.V_alloc | apply Kd.V_drewN | apply Kd.V_drew)); exact HO0.out⟩, ⟨by (with_reducible repeat (first | apply Kd.V_alloc | apply Kd.V_drewN | apply Kd.V_drew)); exact HO1.out⟩, ⟨by (with_reducible repeat (first | apply Kd.V_alloc | apply Kd.V_drewN | apply Kd.V_drew)); exact HO2.out⟩, ⟨by repeat (first | (with_reducible first | exact HB.out | apply below_alloc | apply pw_below_drewN | apply below_drew1) | exact HB.out)⟩⟩
      · rw [if_neg c7] at H
        have c7b0 : decide (2147483647 < (l1.length : Int)) = false := decide_eq_false c7
        have c7b1 : decide (2147483647 < l1.length) = false := decide_eq_false (by omega)
        clear c7
        have H' := Aside0.mk H
        clear H
        go_wp2
        go_meet
        case rel => exact ⟨_, (decide ((l2.length : Int) > 2147483647)), (by first | rfl | (simp; done) | (simp [*]; done)), H', ⟨by first | omega | exact Nat.le_refl _⟩, ⟨by (with_reducible repeat (first | apply Kd.V_alloc | apply Kd.V_drewN | apply Kd.V_drew)); exact HO0.out⟩, ⟨by (with_reducible repeat (first | apply Kd.V_alloc | apply Kd.V_drewN | apply Kd.V_drew)); exact HO1.out⟩, ⟨by (with_reducible repeat (first | apply Kd.V_alloc | apply Kd.V_drewN | apply Kd.V_drew)); exact HO2.out⟩, ⟨by repeat (first | (with_reducible first | exact HB.out | apply below_alloc | apply pw_below_drewN | apply below_drew1) | exact HB.out)⟩⟩
  case rest =>
    clear HC5
    try clear c1
    try clear c2
    try clear p2
    try clear c6
    try clear c6b0
    try clear c6b1
    try clear c7
    try clear c7b0
    try clear c7b1
    obtain ⟨kq, x21_4, rfl, HA, HJ4, HO_0, HO_1, HO_2, HB⟩ := hcut
    cases kq with
    | zero => exact absurd HA.out (by simp [laws_FnEscape.j0])
    | succ kj4 =>
      have H := HA.out
      clear HA
      simp only [laws_FnEscape.j0] at H
      by_cases c8 : x21_4 = true
      · subst c8
        have H1 : (some true) = some r := by rw [if_pos rfl] at H; exact H
        clear H
        have H := H1
        clear H1
        obtain rfl := Option.some.inj H
        go_wp2
        go_ret
        exact ⟨by first | rfl | (simp [errW_none, errW_some] <;> rfl) | (simp [*, errW_none, errW_some] <;> rfl), by repeat (first | (with_reducible first | exact HB.out | apply below_alloc | apply pw_below_drewN | apply below_drew1) | exact HB.out)⟩
      · replace c8 := Bool.eq_false_iff.mpr c8
        subst c8
        have H1 : ((laws_fewBytes.f kj4 (([l0, l1, l2] : List (List Int)))).bind fun t173 => (if t173 = true then ((spec_Join.f kj4 (([l2] : List (List Int)))).bind fun t177 => (if t177.length < 140737488355328 then ((some (t177 ++ [a3] : List Int)).bind fun y180 => ((impl_Escape.f kj4 l0 l1 y180 a3).bind fun t183 => ((spec_Escape.f kj4 l0 l1 y180 a3).bind fun t186 => ((spec_SameBytes.f kj4 t183 t186).bind fun t189 => (some t189))))) else (none))) else (some true))) = some r := by rw [if_neg (show ¬ (false = true) by decide)] at H; exact H
        clear H
        have H := H1
        clear H1
        obtain ⟨y170, hy170⟩ : ∃ y_ : List (List Int), y_ = (([l0, l1, l2] : List (List Int))) := ⟨_, rfl⟩
        replace H : ((laws_fewBytes.f kj4 y170).bind fun t173 => (if t173 = true then ((spec_Join.f kj4 (([l2] : List (List Int)))).bind fun t177 => (if t177.length < 140737488355328 then ((some (t177 ++ [a3] : List Int)).bind fun y180 => ((impl_Escape.f kj4 l0 l1 y180 a3).bind fun t183 => ((spec_Escape.f kj4 l0 l1 y180 a3).bind fun t186 => ((spec_SameBytes.f kj4 t183 t186).bind fun t189 => (some t189))))) else (none))) else (some true))) = some r := by first | (rw [hy170]; with_reducible exact H) | (have H2_ := (Option.bind_some _ _).symm.trans H; rw [hy170]; with_reducible exact H2_) | (have H2_ := (Option.bind_some _ _).symm.trans H; with_reducible exact H2_) | with_reducible exact H | (rw [hy170]; exact H) | exact H
        have Ny170 := Aside0.mk hy170
        clear hy170
        replace H := Option.bind_eq_some_iff.mp H
        obtain ⟨t173, A90, H⟩ := H
        replace H : (if t173 = true then ((spec_Join.f kj4 (([l2] : List (List Int)))).bind fun t177 => (if t177.length < 140737488355328 then ((some (t177 ++ [a3] : List Int)).bind fun y180 => ((impl_Escape.f kj4 l0 l1 y180 a3).bind fun t183 => ((spec_Escape.f kj4 l0 l1 y180 a3).bind fun t186 => ((spec_SameBytes.f kj4 t183 t186).bind fun t189 => (some t189))))) else (none))) else (some true)) = some r := H
        have A9 := Aside0.mk A90
        clear A90
        by_cases c10 : t173 = true
        · subst c10
          have H1 : ((spec_Join.f kj4 (([l2] : List (List Int)))).bind fun t177 => (if t177.length < 140737488355328 then ((some (t177 ++ [a3] : List Int)).bind fun y180 => ((impl_Escape.f kj4 l0 l1 y180 a3).bind fun t183 => ((spec_Escape.f kj4 l0 l1 y180 a3).bind fun t186 => ((spec_SameBytes.f kj4 t183 t186).bind fun t189 => (some t189))))) else (none))) = some r := by rw [if_pos rfl] at H; exact H
          clear H
          have H := H1
          clear H1
          obtain ⟨y174, hy174⟩ : ∃ y_ : List (List Int), y_ = (([l2] : List (List Int))) := ⟨_, rfl⟩
          replace H : ((spec_Join.f kj4 y174).bind fun t177 => (if t177.length < 140737488355328 then ((some (t177 ++ [a3] : List Int)).bind fun y180 => ((impl_Escape.f kj4 l0 l1 y180 a3).bind fun t183 => ((spec_Escape.f kj4 l0 l1 y180 a3).bind fun t186 => ((spec_SameBytes.f kj4 t183 t186).bind fun t189 => (some t189))))) else (none))) = some r := by first | (rw [hy174]; with_reducible exact H) | (have H2_ := (Option.bind_some _ _).symm.trans H; rw [hy174]; with_reducible exact H2_) | (have H2_ := (Option.bind_some _ _).symm.trans H; with_reducible exact H2_) | with_reducible exact H | (rw [hy174]; exact H) | exact H
          have Ny174 := Aside0.mk hy174
          clear hy174
          replace H := Option.bind_eq_some_iff.mp H
          obtain ⟨t177, A110, H⟩ := H
          replace H : (if t177.length < 140737488355328 then ((some (t177 ++ [a3] : List Int)).bind fun y180 => ((impl_Escape.f kj4 l0 l1 y180 a3).bind fun t183 => ((spec_Escape.f kj4 l0 l1 y180 a3).bind fun t186 => ((spec_SameBytes.f kj4 t183 t186).bind fun t189 => (some t189))))) else (none)) = some r := H
          have A11 := Aside0.mk A110
          clear A110
          by_cases c12 : t177.length < 140737488355328
          · rw [if_pos c12] at H
            have LMc12 := Aside0.mk c12
            clear c12
            obtain ⟨y180, hy180⟩ : ∃ y_ : List Int, y_ = (t177 ++ [a3]) := ⟨_, rfl⟩
            replace H : ((impl_Escape.f kj4 l0 l1 y180 a3).bind fun t183 => ((spec_Escape.f kj4 l0 l1 y180 a3).bind fun t186 => ((spec_SameBytes.f kj4 t183 t186).bind fun t189 => (some t189)))) = some r := by first | (rw [hy180]; with_reducible exact H) | (have H2_ := (Option.bind_some _ _).symm.trans H; rw [hy180]; with_reducible exact H2_) | (have H2_ := (Option.bind_some _ _).symm.trans H; with_reducible exact H2_) | with_reducible exact H | (rw [hy180]; exact H) | exact H
            have Ny180 := Aside0.mk hy180
            clear hy180
            replace H := Option.bind_eq_some_iff.mp H
            obtain ⟨t183, A130, H⟩ := H
            replace H : ((spec_Escape.f kj4 l0 l1 y180 a3).bind fun t186 => ((spec_SameBytes.f kj4 t183 t186).bind fun t189 => (some t189))) = some r := H
            have A13 := Aside0.mk A130
            clear A130
            replace H := Option.bind_eq_some_iff.mp H
            obtain ⟨t186, A140, H⟩ := H
            replace H : ((spec_SameBytes.f kj4 t183 t186).bind fun t189 => (some t189)) = some r := H
            have A14 := Aside0.mk A140
            clear A140
            replace H := Option.bind_eq_some_iff.mp H
            obtain ⟨t189, A150, H⟩ := H
            replace H : (some t189) = some r := H
            have A15 := Aside0.mk A150
            clear A150
            obtain rfl := Option.some.inj H
            go_wp2_with (first | ((with_reducible refine gate_dst (N := 25) rfl ?_); (try (refine gate_guard (by rfl) ?_; dsimp only)); refine Kd.N_lit (Kd.slice 5 (Kd.int .u8)) _ 22 ?hg (N' := 25) ?hd (xs := ([l0, l1, l2] : List (List Int))) (inner := [.slice A0 l0.length c0, .slice A1 l1.length c1, .slice A2 l2.length c2]) (ok := (fun k_ => ((P0_ k_ ∨ P1_ k_ ∨ P2_ k_) ∨ w.heap.size ≤ k_))) (okp := (fun k_ => ((P0_ k_ ∨ P1_ k_ ∨ P2_ k_) ∨ w.heap.size ≤ k_))) ?hr ?hp (fun _ hk => hk) ((show ∀ k_, wc.heap.size ≤ k_ → (fun k_ => ((P0_ k_ ∨ P1_ k_ ∨ P2_ k_) ∨ w.heap.size ≤ k_)) k_ from fun k_ hk => (.inr (Nat.le_trans (below_size (by repeat (first | (with_reducible first | exact HB.out | apply below_alloc | apply pw_below_drewN | apply below_drew1) | exact HB.out))) hk))) _ (Nat.le_refl _)) (Below.refl _ _) (Nat.le_refl _) (by simp) ?_; (case hd => rfl); (case hg => rfl); (case hr => first | (go_simp; done) | (go_simp; rfl)); (case hp => first | exact (Reps.one (show Kd.FK (Kd.slice 5 (Kd.int .u8)) _ _ l0 [.slice A0 l0.length c0] from (Kd.FK_slice_mk (Kd.V_reads' (Kd.V_mono (ok' := (fun k_ => ((P0_ k_ ∨ P1_ k_ ∨ P2_ k_) ∨ w.heap.size ≤ k_))) (HO_0.out) (fun k_ hk => hk))).2.1 (Kd.V_F (Kd.V_mono (ok' := (fun k_ => ((P0_ k_ ∨ P1_ k_ ∨ P2_ k_) ∨ w.heap.size ≤ k_))) (HO_0.out) (fun k_ hk => hk))))) (Reps.one (show Kd.FK (Kd.slice 5 (Kd.int .u8)) _ _ l1 [.slice A1 l1.length c1] from (Kd.FK_slice_mk (Kd.V_reads' (Kd.V_mono (ok' := (fun k_ => ((P0_ k_ ∨ P1_ k_ ∨ P2_ k_) ∨ w.heap.size ≤ k_))) (HO_1.out) (fun k_ hk => hk))).2.1 (Kd.V_F (Kd.V_mono (ok' := (fun k_ => ((P0_ k_ ∨ P1_ k_ ∨ P2_ k_) ∨ w.heap.size ≤ k_))) (HO_1.out) (fun k_ hk => hk))))) (Reps.one (show Kd.FK (Kd.slice 5 (Kd.int .u8)) _ _ l2 [.slice A2 l2.length c2] from (Kd.FK_slice_mk (Kd.V_reads' (Kd.V_mono (ok' := (fun k_ => ((P0_ k_ ∨ P1_ k_ ∨ P2_ k_) ∨ w.heap.size ≤ k_))) (HO_2.out) (fun k_ hk => hk))).2.1 (Kd.V_F (Kd.V_mono (ok' := (fun k_ => ((P0_ k_ ∨ P1_ k_ ∨ P2_ k_) ∨ w.heap.size ≤ k_))) (HO_2.out) (fun k_ hk => hk))))) (Reps.none _ _)))) | exact (Reps.one (show Kd.FK (Kd.slice 5 (Kd.int .u8)) _ _ l0 [.slice A0 l0.length c0] from (Kd.FK_slice_mk (Kd.V_reads' (Kd.V_mono (ok' := (fun k_ => ((P0_ k_ ∨ P1_ k_ ∨ P2_ k_) ∨ w.heap.size ≤ k_))) (HO_0.out) (fun k_ hk => hk))).2.1 (Kd.V_F (Kd.V_mono (ok' := (fun k_ => ((P0_ k_ ∨ P1_ k_ ∨ P2_ k_) ∨ w.heap.size ≤ k_))) ((Kd.V_drewN HO_0.out _)) (fun k_ hk => hk))))) (Reps.one (show Kd.FK (Kd.slice 5 (Kd.int .u8)) _ _ l1 [.slice A1 l1.length c1] from (Kd.FK_slice_mk (Kd.V_reads' (Kd.V_mono (ok' := (fun k_ => ((P0_ k_ ∨ P1_ k_ ∨ P2_ k_) ∨ w.heap.size ≤ k_))) (HO_1.out) (fun k_ hk => hk))).2.1 (Kd.V_F (Kd.V_mono (ok' := (fun k_ => ((P0_ k_ ∨ P1_ k_ ∨ P2_ k_) ∨ w.heap.size ≤ k_))) ((Kd.V_drewN HO_1.out _)) (fun k_ hk => hk))))) (Reps.one (show Kd.FK (Kd.slice 5 (Kd.int .u8)) _ _ l2 [.slice A2 l2.length c2] from (Kd.FK_slice_mk (Kd.V_reads' (Kd.V_mono (ok' := (fun k_ => ((P0_ k_ ∨ P1_ k_ ∨ P2_ k_) ∨ w.heap.size ≤ k_))) (HO_2.out) (fun k_ hk => hk))).2.1 (Kd.V_F (Kd.V_mono (ok' := (fun k_ => ((P0_ k_ ∨ P1_ k_ ∨ P2_ k_) ∨ w.heap.size ≤ k_))) ((Kd.V_drewN HO_2.out _)) (fun k_ hk => hk))))) (Reps.none _ _)))) | exact (Reps.one (show Kd.FK (Kd.slice 5 (Kd.int .u8)) _ _ l0 [.slice A0 l0.length c0] from (Kd.FK_slice_mk (Kd.V_reads' (Kd.V_mono (ok' := (fun k_ => ((P0_ k_ ∨ P1_ k_ ∨ P2_ k_) ∨ w.heap.size ≤ k_))) (HO_0.out) (fun k_ hk => hk))).2.1 (Kd.V_F (Kd.V_mono (ok' := (fun k_ => ((P0_ k_ ∨ P1_ k_ ∨ P2_ k_) ∨ w.heap.size ≤ k_))) ((Kd.V_alloc HO_0.out _)) (fun k_ hk => hk))))) (Reps.one (show Kd.FK (Kd.slice 5 (Kd.int .u8)) _ _ l1 [.slice A1 l1.length c1] from (Kd.FK_slice_mk (Kd.V_reads' (Kd.V_mono (ok' := (fun k_ => ((P0_ k_ ∨ P1_ k_ ∨ P2_ k_) ∨ w.heap.size ≤ k_))) (HO_1.out) (fun k_ hk => hk))).2.1 (Kd.V_F (Kd.V_mono (ok' := (fun k_ => ((P0_ k_ ∨ P1_ k_ ∨ P2_ k_) ∨ w.heap.size ≤ k_))) ((Kd.V_alloc HO_1.out _)) (fun k_ hk => hk))))) (Reps.one (show Kd.FK (Kd.slice 5 (Kd.int .u8)) _ _ l2 [.slice A2 l2.length c2] from (Kd.FK_slice_mk (Kd.V_reads' (Kd.V_mono (ok' := (fun k_ => ((P0_ k_ ∨ P1_ k_ ∨ P2_ k_) ∨ w.heap.size ≤ k_))) (HO_2.out) (fun k_ hk => hk))).2.1 (Kd.V_F (Kd.V_mono (ok' := (fun k_ => ((P0_ k_ ∨ P1_ k_ ∨ P2_ k_) ∨ w.heap.size ≤ k_))) ((Kd.V_alloc HO_2.out _)) (fun k_ hk => hk))))) (Reps.none _ _)))) | exact (Reps.one (show Kd.FK (Kd.slice 5 (Kd.int .u8)) _ _ l0 [.slice A0 l0.length c0] from (Kd.FK_slice_mk (Kd.V_reads' (Kd.V_mono (ok' := (fun k_ => ((P0_ k_ ∨ P1_ k_ ∨ P2_ k_) ∨ w.heap.size ≤ k_))) (HO_0.out) (fun k_ hk => hk))).2.1 (Kd.V_F (Kd.V_mono (ok' := (fun k_ => ((P0_ k_ ∨ P1_ k_ ∨ P2_ k_) ∨ w.heap.size ≤ k_))) ((by (with_reducible repeat (first | apply Kd.V_alloc | apply Kd.V_drewN | apply Kd.V_drew)); exact HO_0.out)) (fun k_ hk => hk))))) (Reps.one (show Kd.FK (Kd.slice 5 (Kd.int .u8)) _ _ l1 [.slice A1 l1.length c1] from (Kd.FK_slice_mk (Kd.V_reads' (Kd.V_mono (ok' := (fun k_ => ((P0_ k_ ∨ P1_ k_ ∨ P2_ k_) ∨ w.heap.size ≤ k_))) (HO_1.out) (fun k_ hk => hk))).2.1 (Kd.V_F (Kd.V_mono (ok' := (fun k_ => ((P0_ k_ ∨ P1_ k_ ∨ P2_ k_) ∨ w.heap.size ≤ k_))) ((by (with_reducible repeat (first | apply Kd.V_alloc | apply Kd.V_drewN | apply Kd.V_drew)); exact HO_1.out)) (fun k_ hk => hk))))) (Reps.one (show Kd.FK (Kd.slice 5 (Kd.int .u8)) _ _ l2 [.slice A2 l2.length c2] from (Kd.FK_slice_mk (Kd.V_reads' (Kd.V_mono (ok' := (fun k_ => ((P0_ k_ ∨ P1_ k_ ∨ P2_ k_) ∨ w.heap.size ≤ k_))) (HO_2.out) (fun k_ hk => hk))).2.1 (Kd.V_F (Kd.V_mono (ok' := (fun k_ => ((P0_ k_ ∨ P1_ k_ ∨ P2_ k_) ∨ w.heap.size ≤ k_))) ((by (with_reducible repeat (first | apply Kd.V_alloc | apply Kd.V_drewN | apply Kd.V_drew)); exact HO_2.out)) (fun k_ hk => hk))))) (Reps.none _ _))))); intro v171 w16 ho17 hb hg_ hnew_; clear hg_ hnew_; (first | rw [← Ny170.out] at ho17 | (simp only [Int.reduceToNat] at ho17; rw [← Ny170.out] at ho17)); have n0_ := Aside0.mk (Kd.V_elder' (by (with_reducible repeat (first | apply Kd.V_alloc | apply Kd.V_drewN | apply Kd.V_drew)); exact HO_0.out) (Kd.N_base ho17) hb); have n1_ := Aside0.mk (Kd.V_elder' (by (with_reducible repeat (first | apply Kd.V_alloc | apply Kd.V_drewN | apply Kd.V_drew)); exact HO_1.out) (Kd.N_base ho17) hb); have n2_ := Aside0.mk (Kd.V_elder' (by (with_reducible repeat (first | apply Kd.V_alloc | apply Kd.V_drewN | apply Kd.V_drew)); exact HO_2.out) (Kd.N_base ho17) hb); have n3_ := Aside0.mk (Kd.N_lower ho17 (below_size (by repeat (first | (with_reducible first | exact HB.out | apply below_alloc | apply pw_below_drewN | apply below_drew1) | exact HB.out)))); have n4_ := Aside0.mk (below_step (by repeat (first | (with_reducible first | exact HB.out | apply below_alloc | apply pw_below_drewN | apply below_drew1) | exact HB.out)) hb); clear HO_0; clear HO_1; clear HO_2; clear HB; have HO_0 := n0_; have HO_1 := n1_; have HO_2 := n2_; have HO172 := n3_; have HB := n4_; clear n0_ n1_ n2_ n3_ n4_; clear hb ho17; obtain ⟨Ao18, co18, eo18⟩ := Kd.N_slice HO172.out; subst eo18) | ((with_reducible refine gate_callee (f := 15) rfl ?_); refine goesL_ (some 26) rfl rfl Try.func15 (by kernel_rfl) rfl #[.slice Ao18 y170.length co18] rfl (by (try simp only [List.map_toArray, List.map_cons, List.map_nil]); first | done | rfl | (simp only [List.length_drop, List.length_take]; rfl)) ?_; (with_reducible refine (laws_fewBytes.calls kj4 _ _ y170 true _ ?side1 ?side2 A9.out).mono ?_); (case side1 => repeat (first | exact (Kd.N_reads' HO172.out).2.2 | (with_reducible refine Kd.C_alloc ?_ _) | (with_reducible refine Kd.C_drewN ?_ _) | (with_reducible refine Kd.C_drew ?_))); (case side2 => exact (Kd.N_reads' HO172.out).2.1); rintro e w' ⟨rfl, ⟨nd, rfl⟩⟩; refine ⟨_, rfl, ?_⟩) | ((with_reducible refine gate_dst (N := 29) rfl ?_); (try (refine gate_guard (by rfl) ?_; dsimp only)); refine Kd.N_lit (Kd.slice 5 (Kd.int .u8)) _ 22 ?hg (N' := 29) ?hd (xs := ([l2] : List (List Int))) (inner := [.slice A2 l2.length c2]) (ok := (fun k_ => ((P0_ k_ ∨ P1_ k_ ∨ P2_ k_) ∨ w.heap.size ≤ k_) ∧ some k_ ≠ (.slice Ao18 y170.length co18 : Value).ownBlock)) (okp := (fun k_ => ((P0_ k_ ∨ P1_ k_ ∨ P2_ k_) ∨ w.heap.size ≤ k_) ∧ some k_ ≠ (.slice Ao18 y170.length co18 : Value).ownBlock)) ?hr ?hp (fun _ hk => hk) ((show ∀ k_, w16.heap.size ≤ k_ → (fun k_ => ((P0_ k_ ∨ P1_ k_ ∨ P2_ k_) ∨ w.heap.size ≤ k_) ∧ some k_ ≠ (.slice Ao18 y170.length co18 : Value).ownBlock) k_ from fun k_ hk => ⟨(.inr (Nat.le_trans (below_size (by repeat (first | (with_reducible first | exact HB.out | apply below_alloc | apply pw_below_drewN | apply below_drew1) | exact HB.out))) hk)), Kd.fresh' (Kd.N_lt (by (with_reducible repeat (first | apply Kd.N_alloc | apply Kd.N_drewN | apply Kd.N_drew)); exact HO172.out)) k_ hk⟩) _ (Nat.le_refl _)) (Below.refl _ _) (Nat.le_refl _) (by simp) ?_; (case hd => rfl); (case hg => rfl); (case hr => first | (go_simp; done) | (go_simp; rfl)); (case hp => first | exact (Reps.one (show Kd.FK (Kd.slice 5 (Kd.int .u8)) _ _ l2 [.slice A2 l2.length c2] from (Kd.FK_slice_mk (Kd.V_reads' (Kd.V_mono (ok' := (fun k_ => ((P0_ k_ ∨ P1_ k_ ∨ P2_ k_) ∨ w.heap.size ≤ k_) ∧ some k_ ≠ (.slice Ao18 y170.length co18 : Value).ownBlock)) (HO_2.out) (fun k_ hk => ⟨hk.1, hk.2⟩))).2.1 (Kd.V_F (Kd.V_mono (ok' := (fun k_ => ((P0_ k_ ∨ P1_ k_ ∨ P2_ k_) ∨ w.heap.size ≤ k_) ∧ some k_ ≠ (.slice Ao18 y170.length co18 : Value).ownBlock)) (HO_2.out) (fun k_ hk => ⟨hk.1, hk.2⟩))))) (Reps.none _ _)) | exact (Reps.one (show Kd.FK (Kd.slice 5 (Kd.int .u8)) _ _ l2 [.slice A2 l2.length c2] from (Kd.FK_slice_mk (Kd.V_reads' (Kd.V_mono (ok' := (fun k_ => ((P0_ k_ ∨ P1_ k_ ∨ P2_ k_) ∨ w.heap.size ≤ k_) ∧ some k_ ≠ (.slice Ao18 y170.length co18 : Value).ownBlock)) (HO_2.out) (fun k_ hk => ⟨hk.1, hk.2⟩))).2.1 (Kd.V_F (Kd.V_mono (ok' := (fun k_ => ((P0_ k_ ∨ P1_ k_ ∨ P2_ k_) ∨ w.heap.size ≤ k_) ∧ some k_ ≠ (.slice Ao18 y170.length co18 : Value).ownBlock)) ((Kd.V_drewN HO_2.out _)) (fun k_ hk => ⟨hk.1, hk.2⟩))))) (Reps.none _ _)) | exact (Reps.one (show Kd.FK (Kd.slice 5 (Kd.int .u8)) _ _ l2 [.slice A2 l2.length c2] from (Kd.FK_slice_mk (Kd.V_reads' (Kd.V_mono (ok' := (fun k_ => ((P0_ k_ ∨ P1_ k_ ∨ P2_ k_) ∨ w.heap.size ≤ k_) ∧ some k_ ≠ (.slice Ao18 y170.length co18 : Value).ownBlock)) (HO_2.out) (fun k_ hk => ⟨hk.1, hk.2⟩))).2.1 (Kd.V_F (Kd.V_mono (ok' := (fun k_ => ((P0_ k_ ∨ P1_ k_ ∨ P2_ k_) ∨ w.heap.size ≤ k_) ∧ some k_ ≠ (.slice Ao18 y170.length co18 : Value).ownBlock)) ((Kd.V_alloc HO_2.out _)) (fun k_ hk => ⟨hk.1, hk.2⟩))))) (Reps.none _ _)) | exact (Reps.one (show Kd.FK (Kd.slice 5 (Kd.int .u8)) _ _ l2 [.slice A2 l2.length c2] from (Kd.FK_slice_mk (Kd.V_reads' (Kd.V_mono (ok' := (fun k_ => ((P0_ k_ ∨ P1_ k_ ∨ P2_ k_) ∨ w.heap.size ≤ k_) ∧ some k_ ≠ (.slice Ao18 y170.length co18 : Value).ownBlock)) (HO_2.out) (fun k_ hk => ⟨hk.1, hk.2⟩))).2.1 (Kd.V_F (Kd.V_mono (ok' := (fun k_ => ((P0_ k_ ∨ P1_ k_ ∨ P2_ k_) ∨ w.heap.size ≤ k_) ∧ some k_ ≠ (.slice Ao18 y170.length co18 : Value).ownBlock)) ((by (with_reducible repeat (first | apply Kd.V_alloc | apply Kd.V_drewN | apply Kd.V_drew)); exact HO_2.out)) (fun k_ hk => ⟨hk.1, hk.2⟩))))) (Reps.none _ _))); intro v175 w19 ho20 hb hg_ hnew_; clear hg_ hnew_; (first | rw [← Ny174.out] at ho20 | (simp only [Int.reduceToNat] at ho20; rw [← Ny174.out] at ho20)); have n0_ := Aside0.mk (Kd.V_elder' (by (with_reducible repeat (first | apply Kd.V_alloc | apply Kd.V_drewN | apply Kd.V_drew)); exact HO_0.out) (Kd.N_base ho20) hb); have n1_ := Aside0.mk (Kd.V_elder' (by (with_reducible repeat (first | apply Kd.V_alloc | apply Kd.V_drewN | apply Kd.V_drew)); exact HO_1.out) (Kd.N_base ho20) hb); have n2_ := Aside0.mk (Kd.V_elder' (by (with_reducible repeat (first | apply Kd.V_alloc | apply Kd.V_drewN | apply Kd.V_drew)); exact HO_2.out) (Kd.N_base ho20) hb); have n3_ := Aside0.mk (Kd.N_elder' (by (with_reducible repeat (first | apply Kd.N_alloc | apply Kd.N_drewN | apply Kd.N_drew)); exact HO172.out) (Kd.N_base ho20) hb); have n4_ := Aside0.mk (Kd.N_lower ho20 (below_size (by repeat (first | (with_reducible first | exact HB.out | apply below_alloc | apply pw_below_drewN | apply below_drew1) | exact HB.out)))); have n5_ := Aside0.mk (below_step (by repeat (first | (with_reducible first | exact HB.out | apply below_alloc | apply pw_below_drewN | apply below_drew1) | exact HB.out)) hb); clear HO_0; clear HO_1; clear HO_2; clear HO172; clear HB; have HO_0 := n0_; have HO_1 := n1_; have HO_2 := n2_; have HO172 := n3_; have HO176 := n4_; have HB := n5_; clear n0_ n1_ n2_ n3_ n4_ n5_; clear hb ho20; obtain ⟨Ao21, co21, eo21⟩ := Kd.N_slice HO176.out; subst eo21) | ((with_reducible refine gate_callee (f := 22) rfl ?_); refine goesL_ (some 30) rfl rfl Try.func22 (by kernel_rfl) rfl #[.slice Ao21 y174.length co21] rfl (by (try simp only [List.map_toArray, List.map_cons, List.map_nil]); first | done | rfl | (simp only [List.length_drop, List.length_take]; rfl)) ?_; (with_reducible refine (spec_Join.calls kj4 _ _ y174 t177 _ ?side1 ?side2 A11.out).mono ?_); (case side1 => repeat (first | exact (Kd.N_reads' HO176.out).2.2 | (with_reducible refine Kd.C_alloc ?_ _) | (with_reducible refine Kd.C_drewN ?_ _) | (with_reducible refine Kd.C_drew ?_))); (case side2 => exact (Kd.N_reads' HO176.out).2.1); rintro e w22 ⟨v178, rfl, ho0, hb⟩; refine ⟨_, rfl, ?_⟩; have n0_ := Aside0.mk (Kd.V_elder' (by (with_reducible repeat (first | apply Kd.V_alloc | apply Kd.V_drewN | apply Kd.V_drew)); exact HO_0.out) (Kd.R_base ho0) hb); have n1_ := Aside0.mk (Kd.V_elder' (by (with_reducible repeat (first | apply Kd.V_alloc | apply Kd.V_drewN | apply Kd.V_drew)); exact HO_1.out) (Kd.R_base ho0) hb); have n2_ := Aside0.mk (Kd.V_elder' (by (with_reducible repeat (first | apply Kd.V_alloc | apply Kd.V_drewN | apply Kd.V_drew)); exact HO_2.out) (Kd.R_base ho0) hb); have n3_ := Aside0.mk (Kd.N_elder' (by (with_reducible repeat (first | apply Kd.N_alloc | apply Kd.N_drewN | apply Kd.N_drew)); exact HO172.out) (Kd.R_base ho0) hb); have n4_ := Aside0.mk (Kd.N_elder' (by (with_reducible repeat (first | apply Kd.N_alloc | apply Kd.N_drewN | apply Kd.N_drew)); exact HO176.out) (Kd.R_base ho0) hb); have n5_ := Aside0.mk (Kd.R_lower (Kd.R_newM (M := fun k_ => (w.heap.size ≤ k_)) ho0 (below_size (by repeat (first | (with_reducible first | exact HB.out | apply below_alloc | apply pw_below_drewN | apply below_drew1) | exact HB.out))) (fun k_ h_ => h_)) (below_size (by repeat (first | (with_reducible first | exact HB.out | apply below_alloc | apply pw_below_drewN | apply below_drew1) | exact HB.out)))); have n6_ := Aside0.mk (below_step (by repeat (first | (with_reducible first | exact HB.out | apply below_alloc | apply pw_below_drewN | apply below_drew1) | exact HB.out)) hb); clear HO_0; clear HO_1; clear HO_2; clear HO172; clear HO176; clear HB; have HO_0 := n0_; have HO_1 := n1_; have HO_2 := n2_; have HO172 := n3_; have HO176 := n4_; have HO179 := n5_; have HB := n6_; clear n0_ n1_ n2_ n3_ n4_ n5_ n6_; (try clear hb); (try clear hb2); (try clear hk); (try clear hi); (try clear ho0)) | ((with_reducible refine gate_builtin (b := .append) (xs := #[.tmp 30, .tmp 32]) rfl ?_); (try (refine gate_guard (by rfl) ?_; dsimp only)); at_builtin; refine Kd.R_append (Kd.int .u8) (w0 := w) w.heap.size rfl (.tmp 30) (.tmp 32) 22 5 (.int .u8 0) 1 rfl Try.underlying22 info5 rfl (by decide) (by omega) v178 t177 a3 [.int .u8 a3] (fun k_ => (w.heap.size ≤ k_)) (fun _ => False) rfl rfl ?aP (fun _ hk => hk.elim) ?aF ?aO ?aB ?aS ?aL ?_; (case aP => exact rfl); (case aB => exact (by repeat (first | (with_reducible first | exact HB.out | apply below_alloc | apply pw_below_drewN | apply below_drew1) | exact HB.out))); (case aF => exact (fun k_ hk => (Nat.le_trans (below_size (by repeat (first | (with_reducible first | exact HB.out | apply below_alloc | apply pw_below_drewN | apply below_drew1) | exact HB.out))) hk))); (case aO => exact (by (with_reducible repeat (first | apply Kd.R_alloc | apply Kd.R_drewN | apply Kd.R_drew)); exact Kd.R_mono HO179.out (fun _ hk => hk.1))); (case aS => exact (below_size (by repeat (first | (with_reducible first | exact HB.out | apply below_alloc | apply pw_below_drewN | apply below_drew1) | exact HB.out)))); (case aL => have := LMc12.out; omega); intro v181 w23 ho hb hg hat; rw [← Ny180.out] at ho; have n0_ := Aside0.mk (Kd.V_afterv (ok := (fun k_ => ((P0_ k_ ∨ P1_ k_ ∨ P2_ k_) ∨ w.heap.size ≤ k_) ∧ some k_ ≠ (.slice Ao18 y170.length co18 : Value).ownBlock ∧ some k_ ≠ (.slice Ao21 y174.length co21 : Value).ownBlock)) (by (with_reducible repeat (first | apply Kd.V_alloc | apply Kd.V_drewN | apply Kd.V_drew)); exact Kd.V_mono HO_0.out (fun _ hk => ⟨⟨hk.1.1.1, ⟨hk.1.1.2, hk.1.2⟩⟩, hk.2⟩)) hg hat); have n1_ := Aside0.mk (Kd.V_afterv (ok := (fun k_ => ((P0_ k_ ∨ P1_ k_ ∨ P2_ k_) ∨ w.heap.size ≤ k_) ∧ some k_ ≠ (.slice Ao18 y170.length co18 : Value).ownBlock ∧ some k_ ≠ (.slice Ao21 y174.length co21 : Value).ownBlock)) (by (with_reducible repeat (first | apply Kd.V_alloc | apply Kd.V_drewN | apply Kd.V_drew)); exact Kd.V_mono HO_1.out (fun _ hk => ⟨⟨hk.1.1.1, ⟨hk.1.1.2, hk.1.2⟩⟩, hk.2⟩)) hg hat); have n2_ := Aside0.mk (Kd.V_afterv (ok := (fun k_ => ((P0_ k_ ∨ P1_ k_ ∨ P2_ k_) ∨ w.heap.size ≤ k_) ∧ some k_ ≠ (.slice Ao18 y170.length co18 : Value).ownBlock ∧ some k_ ≠ (.slice Ao21 y174.length co21 : Value).ownBlock)) (by (with_reducible repeat (first | apply Kd.V_alloc | apply Kd.V_drewN | apply Kd.V_drew)); exact Kd.V_mono HO_2.out (fun _ hk => ⟨⟨hk.1.1.1, ⟨hk.1.1.2, hk.1.2⟩⟩, hk.2⟩)) hg hat); have n3_ := Aside0.mk (Kd.N_afterv (ok := (fun k_ => ((P0_ k_ ∨ P1_ k_ ∨ P2_ k_) ∨ w.heap.size ≤ k_) ∧ some k_ ≠ (.slice Ao21 y174.length co21 : Value).ownBlock)) (by (with_reducible repeat (first | apply Kd.N_alloc | apply Kd.N_drewN | apply Kd.N_drew)); exact HO172.out) hg hat); have n4_ := Aside0.mk (Kd.N_afterv (ok := (fun k_ => ((P0_ k_ ∨ P1_ k_ ∨ P2_ k_) ∨ w.heap.size ≤ k_) ∧ some k_ ≠ (.slice Ao18 y170.length co18 : Value).ownBlock)) (by (with_reducible repeat (first | apply Kd.N_alloc | apply Kd.N_drewN | apply Kd.N_drew)); exact HO176.out) hg hat); have n5_ := Aside0.mk (hb); have n6_ := Aside0.mk (ho); clear HO_0; clear HO_1; clear HO_2; clear HO172; clear HO176; clear HB; clear HO179; have HO_0 := n0_; have HO_1 := n1_; have HO_2 := n2_; have HO172 := n3_; have HO176 := n4_; have HB := n5_; have HO182 := n6_; clear n0_ n1_ n2_ n3_ n4_ n5_ n6_; clear ho hb hg hat; obtain ⟨Ao24, co24, eo24⟩ := Kd.R_slice HO182.out; subst eo24) | ((with_reducible refine gate_callee (f := 33) rfl ?_); refine goesL_ (some 38) rfl rfl Try.func33 (by kernel_rfl) rfl #[.slice A0 l0.length c0, .slice A1 l1.length c1, .slice Ao24 y180.length co24, .int .u8 a3] rfl (by (try simp only [List.map_toArray, List.map_cons, List.map_nil]); first | done | rfl | (simp only [List.length_drop, List.length_take]; rfl)) ?_; (with_reducible refine (impl_Escape.calls kj4 _ _ l0 _ _ l1 _ _ y180 a3 t183 _ ?side1 ?side2 ?side3 ?side4 ?side5 ?side6 A13.out).mono ?_); (case side1 => repeat (first | exact (Kd.V_reads' HO_0.out).2.2 | (with_reducible refine Kd.C_alloc ?_ _) | (with_reducible refine Kd.C_drewN ?_ _) | (with_reducible refine Kd.C_drew ?_))); (case side2 => exact (Kd.V_reads' HO_0.out).2.1); (case side3 => repeat (first | exact (Kd.V_reads' HO_1.out).2.2 | (with_reducible refine Kd.C_alloc ?_ _) | (with_reducible refine Kd.C_drewN ?_ _) | (with_reducible refine Kd.C_drew ?_))); (case side4 => exact (Kd.V_reads' HO_1.out).2.1); (case side5 => repeat (first | exact (Kd.R_reads' HO182.out).2.2 | (with_reducible refine Kd.C_alloc ?_ _) | (with_reducible refine Kd.C_drewN ?_ _) | (with_reducible refine Kd.C_drew ?_))); (case side6 => exact (Kd.R_reads' HO182.out).2.1); rintro e w25 ⟨v184, rfl, ho0, hb⟩; refine ⟨_, rfl, ?_⟩; have n0_ := Aside0.mk (Kd.V_elder' (by (with_reducible repeat (first | apply Kd.V_alloc | apply Kd.V_drewN | apply Kd.V_drew)); exact HO_0.out) (Kd.R_base ho0) hb); have n1_ := Aside0.mk (Kd.V_elder' (by (with_reducible repeat (first | apply Kd.V_alloc | apply Kd.V_drewN | apply Kd.V_drew)); exact HO_1.out) (Kd.R_base ho0) hb); have n2_ := Aside0.mk (Kd.V_elder' (by (with_reducible repeat (first | apply Kd.V_alloc | apply Kd.V_drewN | apply Kd.V_drew)); exact HO_2.out) (Kd.R_base ho0) hb); have n3_ := Aside0.mk (Kd.N_elder' (by (with_reducible repeat (first | apply Kd.N_alloc | apply Kd.N_drewN | apply Kd.N_drew)); exact HO172.out) (Kd.R_base ho0) hb); have n4_ := Aside0.mk (Kd.N_elder' (by (with_reducible repeat (first | apply Kd.N_alloc | apply Kd.N_drewN | apply Kd.N_drew)); exact HO176.out) (Kd.R_base ho0) hb); have n5_ := Aside0.mk (Kd.R_elder' (by (with_reducible repeat (first | apply Kd.R_alloc | apply Kd.R_drewN | apply Kd.R_drew)); exact HO182.out) (Kd.R_base ho0) hb); have n6_ := Aside0.mk (Kd.R_lower (Kd.R_new' (Kd.R_newM (M := fun k_ => (w.heap.size ≤ k_)) ho0 (below_size (by repeat (first | (with_reducible first | exact HB.out | apply below_alloc | apply pw_below_drewN | apply below_drew1) | exact HB.out))) (fun k_ h_ => h_)) (Kd.R_lt (by (with_reducible repeat (first | apply Kd.R_alloc | apply Kd.R_drewN | apply Kd.R_drew)); exact HO182.out))) (below_size (by repeat (first | (with_reducible first | exact HB.out | apply below_alloc | apply pw_below_drewN | apply below_drew1) | exact HB.out)))); have n7_ := Aside0.mk (below_step (by repeat (first | (with_reducible first | exact HB.out | apply below_alloc | apply pw_below_drewN | apply below_drew1) | exact HB.out)) hb); clear HO_0; clear HO_1; clear HO_2; clear HO172; clear HO176; clear HO182; clear HB; have HO_0 := n0_; have HO_1 := n1_; have HO_2 := n2_; have HO172 := n3_; have HO176 := n4_; have HO182 := n5_; have HO185 := n6_; have HB := n7_; clear n0_ n1_ n2_ n3_ n4_ n5_ n6_ n7_; (try clear hb); (try clear hb2); (try clear hk); (try clear hi); (try clear ho0)) | ((with_reducible refine gate_callee (f := 34) rfl ?_); refine goesL_ (some 43) rfl rfl Try.func34 (by kernel_rfl) rfl #[.slice A0 l0.length c0, .slice A1 l1.length c1, .slice Ao24 y180.length co24, .int .u8 a3] rfl (by (try simp only [List.map_toArray, List.map_cons, List.map_nil]); first | done | rfl | (simp only [List.length_drop, List.length_take]; rfl)) ?_; (with_reducible refine (spec_Escape.calls kj4 (fun k_ => (((((P0_ k_ ∨ P1_ k_ ∨ P2_ k_) ∨ w.heap.size ≤ k_) ∧ (some k_ ≠ (.slice Ao18 y170.length co18 : Value).ownBlock ∧ some k_ ≠ (.slice Ao21 y174.length co21 : Value).ownBlock)) ∧ some k_ ≠ (.slice Ao24 y180.length co24 : Value).ownBlock) ∧ some k_ ≠ (v184 : Value).ownBlock)) _ _ l0 _ _ l1 _ _ y180 a3 t186 _ ?side1 ?side2 ?side3 ?side4 ?side5 A14.out).mono ?_); (case side1 => exact HO_0.out); (case side2 => repeat (first | exact (Kd.V_reads' HO_1.out).2.2 | (with_reducible refine Kd.C_alloc ?_ _) | (with_reducible refine Kd.C_drewN ?_ _) | (with_reducible refine Kd.C_drew ?_))); (case side3 => exact (Kd.V_reads' HO_1.out).2.1); (case side4 => repeat (first | exact (Kd.R_reads' HO182.out).2.2 | (with_reducible refine Kd.C_alloc ?_ _) | (with_reducible refine Kd.C_drewN ?_ _) | (with_reducible refine Kd.C_drew ?_))); (case side5 => exact (Kd.R_reads' HO182.out).2.1); rintro e w26 ⟨v187, rfl, ho0, hb⟩; refine ⟨_, rfl, ?_⟩; have n0_ := Aside0.mk (Kd.V_elder' (by (with_reducible repeat (first | apply Kd.V_alloc | apply Kd.V_drewN | apply Kd.V_drew)); exact HO_0.out) (Kd.R_base ho0) hb); have n1_ := Aside0.mk (Kd.V_elder' (by (with_reducible repeat (first | apply Kd.V_alloc | apply Kd.V_drewN | apply Kd.V_drew)); exact HO_1.out) (Kd.R_base ho0) hb); have n2_ := Aside0.mk (Kd.V_elder' (by (with_reducible repeat (first | apply Kd.V_alloc | apply Kd.V_drewN | apply Kd.V_drew)); exact HO_2.out) (Kd.R_base ho0) hb); have n3_ := Aside0.mk (Kd.N_elder' (by (with_reducible repeat (first | apply Kd.N_alloc | apply Kd.N_drewN | apply Kd.N_drew)); exact HO172.out) (Kd.R_base ho0) hb); have n4_ := Aside0.mk (Kd.N_elder' (by (with_reducible repeat (first | apply Kd.N_alloc | apply Kd.N_drewN | apply Kd.N_drew)); exact HO176.out) (Kd.R_base ho0) hb); have n5_ := Aside0.mk (Kd.R_elder' (by (with_reducible repeat (first | apply Kd.R_alloc | apply Kd.R_drewN | apply Kd.R_drew)); exact HO182.out) (Kd.R_base ho0) hb); have n6_ := Aside0.mk (Kd.R_elder' (by (with_reducible repeat (first | apply Kd.R_alloc | apply Kd.R_drewN | apply Kd.R_drew)); exact HO185.out) (Kd.R_base ho0) hb); have n7_ := Aside0.mk (Kd.R_lower (Kd.R_new' (Kd.R_new' (Kd.R_newM (M := fun k_ => (w.heap.size ≤ k_)) (Kd.R_mono (ok' := fun k_ => True) ho0 (fun _ hk_ => trivial)) (below_size (by repeat (first | (with_reducible first | exact HB.out | apply below_alloc | apply pw_below_drewN | apply below_drew1) | exact HB.out))) (fun k_ h_ => h_)) (Kd.R_lt (by (with_reducible repeat (first | apply Kd.R_alloc | apply Kd.R_drewN | apply Kd.R_drew)); exact HO182.out))) (Kd.R_lt (by (with_reducible repeat (first | apply Kd.R_alloc | apply Kd.R_drewN | apply Kd.R_drew)); exact HO185.out))) (below_size (by repeat (first | (with_reducible first | exact HB.out | apply below_alloc | apply pw_below_drewN | apply below_drew1) | exact HB.out)))); have n8_ := Aside0.mk (below_step (by repeat (first | (with_reducible first | exact HB.out | apply below_alloc | apply pw_below_drewN | apply below_drew1) | exact HB.out)) hb); clear HO_0; clear HO_1; clear HO_2; clear HO172; clear HO176; clear HO182; clear HO185; clear HB; have HO_0 := n0_; have HO_1 := n1_; have HO_2 := n2_; have HO172 := n3_; have HO176 := n4_; have HO182 := n5_; have HO185 := n6_; have HO188 := n7_; have HB := n8_; clear n0_ n1_ n2_ n3_ n4_ n5_ n6_ n7_ n8_; (try clear hb); (try clear hb2); (try clear hk); (try clear hi); (try clear ho0); obtain ⟨Ao27, co27, eo27⟩ := Kd.R_slice HO185.out; subst eo27; obtain ⟨Ao28, co28, eo28⟩ := Kd.R_slice HO188.out; subst eo28) | ((with_reducible refine gate_callee (f := 16) rfl ?_); refine goesL_ (some 44) rfl rfl Try.func16 (by kernel_rfl) rfl #[.slice Ao27 t183.length co27, .slice Ao28 t186.length co28] rfl (by (try simp only [List.map_toArray, List.map_cons, List.map_nil]); first | done | rfl | (simp only [List.length_drop, List.length_take]; rfl)) ?_; (with_reducible refine (spec_SameBytes.calls kj4 _ _ t183 _ _ t186 t189 _ ?side1 ?side2 ?side3 ?side4 A15.out).mono ?_); (case side1 => repeat (first | exact (Kd.R_reads' HO185.out).2.2 | (with_reducible refine Kd.C_alloc ?_ _) | (with_reducible refine Kd.C_drewN ?_ _) | (with_reducible refine Kd.C_drew ?_))); (case side2 => exact (Kd.R_reads' HO185.out).2.1); (case side3 => repeat (first | exact (Kd.R_reads' HO188.out).2.2 | (with_reducible refine Kd.C_alloc ?_ _) | (with_reducible refine Kd.C_drewN ?_ _) | (with_reducible refine Kd.C_drew ?_))); (case side4 => exact (Kd.R_reads' HO188.out).2.1); rintro e w' ⟨rfl, ⟨nd, rfl⟩⟩; refine ⟨_, rfl, ?_⟩))
            go_ret
            exact ⟨by first | rfl | (simp [errW_none, errW_some] <;> rfl) | (simp [*, errW_none, errW_some] <;> rfl), by repeat (first | (with_reducible first | exact HB.out | apply below_alloc | apply pw_below_drewN | apply below_drew1) | exact HB.out)⟩
          · rw [if_neg c12] at H
            exact absurd H (by simp)
        · replace c10 := Bool.eq_false_iff.mpr c10
          subst c10
          have H1 : (some true) = some r := by rw [if_neg (show ¬ (false = true) by decide)] at H; exact H
          clear H
          have H := H1
          clear H1
          obtain rfl := Option.some.inj H
          go_wp2_with (first | ((with_reducible refine gate_dst (N := 25) rfl ?_); (try (refine gate_guard (by rfl) ?_; dsimp only)); refine Kd.N_lit (Kd.slice 5 (Kd.int .u8)) _ 22 ?hg (N' := 25) ?hd (xs := ([l0, l1, l2] : List (List Int))) (inner := [.slice A0 l0.length c0, .slice A1 l1.length c1, .slice A2 l2.length c2]) (ok := (fun k_ => ((P0_ k_ ∨ P1_ k_ ∨ P2_ k_) ∨ w.heap.size ≤ k_))) (okp := (fun k_ => ((P0_ k_ ∨ P1_ k_ ∨ P2_ k_) ∨ w.heap.size ≤ k_))) ?hr ?hp (fun _ hk => hk) ((show ∀ k_, wc.heap.size ≤ k_ → (fun k_ => ((P0_ k_ ∨ P1_ k_ ∨ P2_ k_) ∨ w.heap.size ≤ k_)) k_ from fun k_ hk => (.inr (Nat.le_trans (below_size (by repeat (first | (with_reducible first | exact HB.out | apply below_alloc | apply pw_below_drewN | apply below_drew1) | exact HB.out))) hk))) _ (Nat.le_refl _)) (Below.refl _ _) (Nat.le_refl _) (by simp) ?_; (case hd => rfl); (case hg => rfl); (case hr => first | (go_simp; done) | (go_simp; rfl)); (case hp => first | exact (Reps.one (show Kd.FK (Kd.slice 5 (Kd.int .u8)) _ _ l0 [.slice A0 l0.length c0] from (Kd.FK_slice_mk (Kd.V_reads' (Kd.V_mono (ok' := (fun k_ => ((P0_ k_ ∨ P1_ k_ ∨ P2_ k_) ∨ w.heap.size ≤ k_))) (HO_0.out) (fun k_ hk => hk))).2.1 (Kd.V_F (Kd.V_mono (ok' := (fun k_ => ((P0_ k_ ∨ P1_ k_ ∨ P2_ k_) ∨ w.heap.size ≤ k_))) (HO_0.out) (fun k_ hk => hk))))) (Reps.one (show Kd.FK (Kd.slice 5 (Kd.int .u8)) _ _ l1 [.slice A1 l1.length c1] from (Kd.FK_slice_mk (Kd.V_reads' (Kd.V_mono (ok' := (fun k_ => ((P0_ k_ ∨ P1_ k_ ∨ P2_ k_) ∨ w.heap.size ≤ k_))) (HO_1.out) (fun k_ hk => hk))).2.1 (Kd.V_F (Kd.V_mono (ok' := (fun k_ => ((P0_ k_ ∨ P1_ k_ ∨ P2_ k_) ∨ w.heap.size ≤ k_))) (HO_1.out) (fun k_ hk => hk))))) (Reps.one (show Kd.FK (Kd.slice 5 (Kd.int .u8)) _ _ l2 [.slice A2 l2.length c2] from (Kd.FK_slice_mk (Kd.V_reads' (Kd.V_mono (ok' := (fun k_ => ((P0_ k_ ∨ P1_ k_ ∨ P2_ k_) ∨ w.heap.size ≤ k_))) (HO_2.out) (fun k_ hk => hk))).2.1 (Kd.V_F (Kd.V_mono (ok' := (fun k_ => ((P0_ k_ ∨ P1_ k_ ∨ P2_ k_) ∨ w.heap.size ≤ k_))) (HO_2.out) (fun k_ hk => hk))))) (Reps.none _ _)))) | exact (Reps.one (show Kd.FK (Kd.slice 5 (Kd.int .u8)) _ _ l0 [.slice A0 l0.length c0] from (Kd.FK_slice_mk (Kd.V_reads' (Kd.V_mono (ok' := (fun k_ => ((P0_ k_ ∨ P1_ k_ ∨ P2_ k_) ∨ w.heap.size ≤ k_))) (HO_0.out) (fun k_ hk => hk))).2.1 (Kd.V_F (Kd.V_mono (ok' := (fun k_ => ((P0_ k_ ∨ P1_ k_ ∨ P2_ k_) ∨ w.heap.size ≤ k_))) ((Kd.V_drewN HO_0.out _)) (fun k_ hk => hk))))) (Reps.one (show Kd.FK (Kd.slice 5 (Kd.int .u8)) _ _ l1 [.slice A1 l1.length c1] from (Kd.FK_slice_mk (Kd.V_reads' (Kd.V_mono (ok' := (fun k_ => ((P0_ k_ ∨ P1_ k_ ∨ P2_ k_) ∨ w.heap.size ≤ k_))) (HO_1.out) (fun k_ hk => hk))).2.1 (Kd.V_F (Kd.V_mono (ok' := (fun k_ => ((P0_ k_ ∨ P1_ k_ ∨ P2_ k_) ∨ w.heap.size ≤ k_))) ((Kd.V_drewN HO_1.out _)) (fun k_ hk => hk))))) (Reps.one (show Kd.FK (Kd.slice 5 (Kd.int .u8)) _ _ l2 [.slice A2 l2.length c2] from (Kd.FK_slice_mk (Kd.V_reads' (Kd.V_mono (ok' := (fun k_ => ((P0_ k_ ∨ P1_ k_ ∨ P2_ k_) ∨ w.heap.size ≤ k_))) (HO_2.out) (fun k_ hk => hk))).2.1 (Kd.V_F (Kd.V_mono (ok' := (fun k_ => ((P0_ k_ ∨ P1_ k_ ∨ P2_ k_) ∨ w.heap.size ≤ k_))) ((Kd.V_drewN HO_2.out _)) (fun k_ hk => hk))))) (Reps.none _ _)))) | exact (Reps.one (show Kd.FK (Kd.slice 5 (Kd.int .u8)) _ _ l0 [.slice A0 l0.length c0] from (Kd.FK_slice_mk (Kd.V_reads' (Kd.V_mono (ok' := (fun k_ => ((P0_ k_ ∨ P1_ k_ ∨ P2_ k_) ∨ w.heap.size ≤ k_))) (HO_0.out) (fun k_ hk => hk))).2.1 (Kd.V_F (Kd.V_mono (ok' := (fun k_ => ((P0_ k_ ∨ P1_ k_ ∨ P2_ k_) ∨ w.heap.size ≤ k_))) ((Kd.V_alloc HO_0.out _)) (fun k_ hk => hk))))) (Reps.one (show Kd.FK (Kd.slice 5 (Kd.int .u8)) _ _ l1 [.slice A1 l1.length c1] from (Kd.FK_slice_mk (Kd.V_reads' (Kd.V_mono (ok' := (fun k_ => ((P0_ k_ ∨ P1_ k_ ∨ P2_ k_) ∨ w.heap.size ≤ k_))) (HO_1.out) (fun k_ hk => hk))).2.1 (Kd.V_F (Kd.V_mono (ok' := (fun k_ => ((P0_ k_ ∨ P1_ k_ ∨ P2_ k_) ∨ w.heap.size ≤ k_))) ((Kd.V_alloc HO_1.out _)) (fun k_ hk => hk))))) (Reps.one (show Kd.FK (Kd.slice 5 (Kd.int .u8)) _ _ l2 [.slice A2 l2.length c2] from (Kd.FK_slice_mk (Kd.V_reads' (Kd.V_mono (ok' := (fun k_ => ((P0_ k_ ∨ P1_ k_ ∨ P2_ k_) ∨ w.heap.size ≤ k_))) (HO_2.out) (fun k_ hk => hk))).2.1 (Kd.V_F (Kd.V_mono (ok' := (fun k_ => ((P0_ k_ ∨ P1_ k_ ∨ P2_ k_) ∨ w.heap.size ≤ k_))) ((Kd.V_alloc HO_2.out _)) (fun k_ hk => hk))))) (Reps.none _ _)))) | exact (Reps.one (show Kd.FK (Kd.slice 5 (Kd.int .u8)) _ _ l0 [.slice A0 l0.length c0] from (Kd.FK_slice_mk (Kd.V_reads' (Kd.V_mono (ok' := (fun k_ => ((P0_ k_ ∨ P1_ k_ ∨ P2_ k_) ∨ w.heap.size ≤ k_))) (HO_0.out) (fun k_ hk => hk))).2.1 (Kd.V_F (Kd.V_mono (ok' := (fun k_ => ((P0_ k_ ∨ P1_ k_ ∨ P2_ k_) ∨ w.heap.size ≤ k_))) ((by (with_reducible repeat (first | apply Kd.V_alloc | apply Kd.V_drewN | apply Kd.V_drew)); exact HO_0.out)) (fun k_ hk => hk))))) (Reps.one (show Kd.FK (Kd.slice 5 (Kd.int .u8)) _ _ l1 [.slice A1 l1.length c1] from (Kd.FK_slice_mk (Kd.V_reads' (Kd.V_mono (ok' := (fun k_ => ((P0_ k_ ∨ P1_ k_ ∨ P2_ k_) ∨ w.heap.size ≤ k_))) (HO_1.out) (fun k_ hk => hk))).2.1 (Kd.V_F (Kd.V_mono (ok' := (fun k_ => ((P0_ k_ ∨ P1_ k_ ∨ P2_ k_) ∨ w.heap.size ≤ k_))) ((by (with_reducible repeat (first | apply Kd.V_alloc | apply Kd.V_drewN | apply Kd.V_drew)); exact HO_1.out)) (fun k_ hk => hk))))) (Reps.one (show Kd.FK (Kd.slice 5 (Kd.int .u8)) _ _ l2 [.slice A2 l2.length c2] from (Kd.FK_slice_mk (Kd.V_reads' (Kd.V_mono (ok' := (fun k_ => ((P0_ k_ ∨ P1_ k_ ∨ P2_ k_) ∨ w.heap.size ≤ k_))) (HO_2.out) (fun k_ hk => hk))).2.1 (Kd.V_F (Kd.V_mono (ok' := (fun k_ => ((P0_ k_ ∨ P1_ k_ ∨ P2_ k_) ∨ w.heap.size ≤ k_))) ((by (with_reducible repeat (first | apply Kd.V_alloc | apply Kd.V_drewN | apply Kd.V_drew)); exact HO_2.out)) (fun k_ hk => hk))))) (Reps.none _ _))))); intro v171 w29 ho30 hb hg_ hnew_; clear hg_ hnew_; (first | rw [← Ny170.out] at ho30 | (simp only [Int.reduceToNat] at ho30; rw [← Ny170.out] at ho30)); have n0_ := Aside0.mk (Kd.V_elder' (by (with_reducible repeat (first | apply Kd.V_alloc | apply Kd.V_drewN | apply Kd.V_drew)); exact HO_0.out) (Kd.N_base ho30) hb); have n1_ := Aside0.mk (Kd.V_elder' (by (with_reducible repeat (first | apply Kd.V_alloc | apply Kd.V_drewN | apply Kd.V_drew)); exact HO_1.out) (Kd.N_base ho30) hb); have n2_ := Aside0.mk (Kd.V_elder' (by (with_reducible repeat (first | apply Kd.V_alloc | apply Kd.V_drewN | apply Kd.V_drew)); exact HO_2.out) (Kd.N_base ho30) hb); have n3_ := Aside0.mk (Kd.N_lower ho30 (below_size (by repeat (first | (with_reducible first | exact HB.out | apply below_alloc | apply pw_below_drewN | apply below_drew1) | exact HB.out)))); have n4_ := Aside0.mk (below_step (by repeat (first | (with_reducible first | exact HB.out | apply below_alloc | apply pw_below_drewN | apply below_drew1) | exact HB.out)) hb); clear HO_0; clear HO_1; clear HO_2; clear HB; have HO_0 := n0_; have HO_1 := n1_; have HO_2 := n2_; have HO172 := n3_; have HB := n4_; clear n0_ n1_ n2_ n3_ n4_; clear hb ho30; obtain ⟨Ao31, co31, eo31⟩ := Kd.N_slice HO172.out; subst eo31) | ((with_reducible refine gate_callee (f := 15) rfl ?_); refine goesL_ (some 26) rfl rfl Try.func15 (by kernel_rfl) rfl #[.slice Ao31 y170.length co31] rfl (by (try simp only [List.map_toArray, List.map_cons, List.map_nil]); first | done | rfl | (simp only [List.length_drop, List.length_take]; rfl)) ?_; (with_reducible refine (laws_fewBytes.calls kj4 _ _ y170 false _ ?side1 ?side2 A9.out).mono ?_); (case side1 => repeat (first | exact (Kd.N_reads' HO172.out).2.2 | (with_reducible refine Kd.C_alloc ?_ _) | (with_reducible refine Kd.C_drewN ?_ _) | (with_reducible refine Kd.C_drew ?_))); (case side2 => exact (Kd.N_reads' HO172.out).2.1); rintro e w' ⟨rfl, ⟨nd, rfl⟩⟩; refine ⟨_, rfl, ?_⟩))
          go_ret
          exact ⟨by first | rfl | (simp [errW_none, errW_some] <;> rfl) | (simp [*, errW_none, errW_some] <;> rfl), by repeat (first | (with_reducible first | exact HB.out | apply below_alloc | apply pw_below_drewN | apply below_drew1) | exact HB.out)⟩

/-- THE ONE PURE STATEMENT of laws_FnEscape: yours. -/
def laws_FnEscape.Pure : Prop := ∀ (l0 : List Int) (l1 : List Int) (l2 : List Int) (a3 : Int), l0.length ≤ maxLen → l0.length * 1 ≤ 140737488351232 → (∀ x ∈ l0, (Lit.int .u8 x).wf = true) → l1.length ≤ maxLen → l1.length * 1 ≤ 140737488351232 → (∀ x ∈ l1, (Lit.int .u8 x).wf = true) → l2.length ≤ maxLen → l2.length * 1 ≤ 140737488351232 → (∀ x ∈ l2, (Lit.int .u8 x).wf = true) → (Lit.int .u8 a3).wf = true → ∃ k, laws_FnEscape.f k l0 l1 l2 a3 = some true
theorem laws_FnEscape.walk (P : laws_FnEscape.Pure) (a0 : Option Addr) (len0 cap0 : Nat) (z0 : List Int) (a1 : Option Addr) (len1 cap1 : Nat) (z1 : List Int) (a2 : Option Addr) (len2 cap2 : Nat) (z2 : List Int) (a3 : Int) (w : World) (w0 : (a0 = none ∧ len0 = 0 ∧ cap0 = 0 ∧ z0 = []) ∨ ∃ x, a0 = some x ∧ len0 ≤ cap0 ∧ cap0 ≤ maxLen ∧ z0.length = cap0 ∧ (∀ i, i < z0.length → w.cell? (x.add i) = some (.int .u8 (z0.getD i 0))) ∧ ∀ n ∈ z0, (Lit.int .u8 n).wf = true) (y0 : len0 * 1 ≤ 140737488351232) (w1 : (a1 = none ∧ len1 = 0 ∧ cap1 = 0 ∧ z1 = []) ∨ ∃ x, a1 = some x ∧ len1 ≤ cap1 ∧ cap1 ≤ maxLen ∧ z1.length = cap1 ∧ (∀ i, i < z1.length → w.cell? (x.add i) = some (.int .u8 (z1.getD i 0))) ∧ ∀ n ∈ z1, (Lit.int .u8 n).wf = true) (y1 : len1 * 1 ≤ 140737488351232) (w2 : (a2 = none ∧ len2 = 0 ∧ cap2 = 0 ∧ z2 = []) ∨ ∃ x, a2 = some x ∧ len2 ≤ cap2 ∧ cap2 ≤ maxLen ∧ z2.length = cap2 ∧ (∀ i, i < z2.length → w.cell? (x.add i) = some (.int .u8 (z2.getD i 0))) ∧ ∀ n ∈ z2, (Lit.int .u8 n).wf = true) (y2 : len2 * 1 ≤ 140737488351232) (w3 : (Lit.int .u8 a3).wf = true) :
    Calls Try.prog 11 #[.slice a0 len0 cap0, .slice a1 len1 cap1, .slice a2 len2 cap2, .int .u8 a3] w fun e w' => e = .returned (.bool true) ∧ Below w.heap.size w w' := by
  obtain ⟨l0, rfl, hr0, hm0, hw0, hc0⟩ := ReadsInt.ofRowC w0
  obtain ⟨l1, rfl, hr1, hm1, hw1, hc1⟩ := ReadsInt.ofRowC w1
  obtain ⟨l2, rfl, hr2, hm2, hw2, hc2⟩ := ReadsInt.ofRowC w2
  obtain ⟨k, h⟩ := P l0 l1 l2 a3 hm0 y0 hw0 hm1 y1 hw1 hm2 y2 hw2 w3
  have CH_ : ∀ {kk_ : IntKind} {AA_ : Option Addr} {xx_ : List Int}, (Kd.int kk_).C w AA_ xx_.length xx_ → Kd.F (Kd.int kk_) w (fun _ => True) AA_ xx_.length xx_ := fun hh_ W' hW => (Kd.heap_int _).C (fun k hk => hW k trivial hk) hh_
  refine (laws_FnEscape.calls k (fun _ => True) _ _ l0 (fun _ => True) _ _ l1 (fun _ => True) _ _ l2 a3 true w (Kd.V_mk hc0 (CH_ (Kd.C_of_reads (d := (0 : Int)) (h1 := fun _ => rfl) hr0))) (Kd.V_mk hc1 (CH_ (Kd.C_of_reads (d := (0 : Int)) (h1 := fun _ => rfl) hr1))) (Kd.V_mk hc2 (CH_ (Kd.C_of_reads (d := (0 : Int)) (h1 := fun _ => rfl) hr2))) h).mono ?_
  rintro e w' ⟨rfl, hd⟩
  exact ⟨rfl, hd⟩

end Go.Proofs.Ytbpmfmkdpjajhaa.PFnEscape
