-- Laid by a program of this session, out of the translation's print.
import Derived.Test.YtgpmmmlmaaiobaaDoorPFnInputStreamx0
import Derived.Test.YtgpmmmlmaaiobaaDoorPFnInputStreamx1
import Derived.Test.YtgpmmmlmaaiobaaDoorPFnInputStreamx2
import Derived.Test.YtgpmmmlmaaiobaaDoorPFnInputStreamx4
namespace Go.Proofs.YtgpmmmlmaaiobaaDoor.PFnInputStream
open Go.Proofs.YtgpmmmlmaaiobaaDoor.Own
open Go.RowKit Go.Proofs.YtgpmmmlmaaiobaaDoorW.PrintWords Go.Proofs.YtgpmmmlmaaiobaaDoorW.PrintLast Go.Proofs.YtgpmmmlmaaiobaaDoorW.PrintMore
attribute [local go_sem] max2_int min2_int max_two min_two max_three min_three max_four min_four   -- for this text's walks alone
set_option linter.unusedVariables false
set_option linter.unusedSimpArgs false

attribute [local go_sem high] eqA46
/-! ### spec_Answers: function 15 -/
def spec_Answers.l0 : Nat → List Int → List (S46) → List (S44) → Int → Int → Int → Int → Option ((List (S46)) × Bool)
  | 0, _, _, _, _, _, _, _ => none
  | k + 1, x0, x6, x15, x16, x17, x128000, x128001 => if x17 < x16 then (if 0 ≤ x17 then (if x17 < (x15.length : Int) then ((spec_Next.f k x0 x128000 x128001 ((rd_T44 x15 x17).f0) ((rd_T44 x15 x17).f1)).bind fun bt130 => (if bt130.2.2.2.2.2 = true then (if x6.length < 4398046511104 then (spec_Answers.l0 k x0 (x6 ++ [(⟨bt130.2.2.1, bt130.2.2.2.1, bt130.2.2.2.2.1⟩ : S46)]) x15 x16 (wrap64 (x17 + 1)) bt130.1 bt130.2.1) else (none)) else (some (([] : List (S46)), false)))) else (none)) else (none)) else (some (x6, true))
def spec_Answers.f (k : Nat) (l0 : List Int) (l1 : List (S44)) : Option ((List (S46)) × Bool) := spec_Answers.l0 k l0 (([] : List (S46))) l1 (l1.length : Int) 0 0 0
theorem spec_Answers.mono_l : ∀ k, (∀ y0 y1 y2 y3 y4 y5 y6, LeO (spec_Answers.l0 k y0 y1 y2 y3 y4 y5 y6) (spec_Answers.l0 (k + 1) y0 y1 y2 y3 y4 y5 y6))
  | 0 => fun _ _ _ _ _ _ _ r h => by simp [spec_Answers.l0] at h
  | k + 1 => by
    have ih0 := spec_Answers.mono_l k
    · intro y0 y1 y2 y3 y4 y5 y6
      unfold spec_Answers.l0
      repeat' first
      | (with_reducible exact ih0 _ _ _ _ _ _ _)
      | (with_reducible exact spec_Next.mono _ _ _ _ _ _)
      | (with_reducible exact LeO.refl _)
      | (with_reducible exact LeO.none _)
      | (with_reducible refine LeO.ite ?_ ?_)
      | (with_reducible refine LeO.bind ?_ (fun _ => ?_))
      | exact ih0 _ _ _ _ _ _ _
      | exact spec_Next.mono _ _ _ _ _ _
      | exact LeO.none _
      | refine LeO.ite ?_ ?_
      | refine LeO.bind ?_ (fun _ => ?_)
theorem spec_Answers.mono : ∀ a0 a1 k, LeO (spec_Answers.f k a0 a1) (spec_Answers.f (k + 1) a0 a1) := by
  intro a0 a1 k
  have ih0 := spec_Answers.mono_l k
  unfold spec_Answers.f
  repeat' first
      | (with_reducible exact ih0 _ _ _ _ _ _ _)
      | (with_reducible exact spec_Next.mono _ _ _ _ _ _)
      | (with_reducible exact LeO.refl _)
      | (with_reducible exact LeO.none _)
      | (with_reducible refine LeO.ite ?_ ?_)
      | (with_reducible refine LeO.bind ?_ (fun _ => ?_))
      | exact ih0 _ _ _ _ _ _ _
      | exact spec_Next.mono _ _ _ _ _ _
      | exact LeO.none _
      | refine LeO.ite ?_ ?_
      | refine LeO.bind ?_ (fun _ => ?_)
set_option maxHeartbeats 8000000 in
set_option maxRecDepth 100000 in
theorem spec_Answers.calls (k : Nat) (A0 : Option Addr) (c0 : Nat) (l0 : List Int) (A1 : Option Addr) (c1 : Nat) (l1 : List (S44)) (r1 : List (S46)) (r2 : Bool) (w : World) (hr0 : Kd.C (Kd.int .u8) w A0 l0.length l0) (hc0 : l0.length ≤ c0) (hr1 : Kd.C k44 w A1 l1.length l1) (hc1 : l1.length ≤ c1) (h : spec_Answers.f k l0 l1 = some (r1, r2)) :
    Calls Tryd.prog 15 #[.slice A0 l0.length c0, .slice A1 l1.length c1] w fun e w' => ∃ v0_ : Value, e = .returned (.tuple #[v0_, .bool r2]) ∧ Kd.R k46 46 w' w.heap.size (fun _ => True) v0_ r1 ∧ Below w.heap.size w w' := by
  have hu64 := Tryd.underlying64
  have hu44 := Tryd.underlying44
  have hu46 := Tryd.underlying46
  have HR0 := Aside0.mk hr0
  have HC0 := Aside0.mk hc0
  clear hr0 hc0
  have HR1 := Aside0.mk hr1
  have HC1 := Aside0.mk hc1
  clear hr1 hc1
  have HB := Aside0.mk (Below.refl w.heap.size w)
  have H : (spec_Answers.l0 k l0 (([] : List (S46))) l1 (l1.length : Int) 0 0 0) = some (r1, r2) := h
  clear h
  obtain ⟨y124, hy124⟩ : ∃ y_ : List (S46), y_ = (([] : List (S46))) := ⟨_, rfl⟩
  replace H : (spec_Answers.l0 k l0 y124 l1 (l1.length : Int) 0 0 0) = some (r1, r2) := by first | (rw [hy124]; with_reducible exact H) | (have H2_ := (Option.bind_some _ _).symm.trans H; rw [hy124]; with_reducible exact H2_) | (have H2_ := (Option.bind_some _ _).symm.trans H; with_reducible exact H2_) | with_reducible exact H | (rw [hy124]; exact H) | exact H
  have Ny124 := Aside0.mk hy124
  clear hy124
  have H' := Aside0.mk H
  clear H
  go_enter Tryd.func15, Tryd.ntmps15
  go_wp2_with (first | ((with_reducible refine gate_dst (N := 13) rfl ?_); refine Kd.R_lit k46 _ 46 ?hg (N := 13) ?hd (xs := ([] : List (S46))) (inner := []) (ok := fun _ => True) (okp := fun _ => True) ?hr ?hp (fun _ hk => hk) trivial (Below.refl _ _) (Nat.le_refl _) (by simp) ?_; (case hd => rfl); (case hg => rfl); (case hr => first | (go_simp; done) | (go_simp; rfl)); (case hp => exact (Reps.none _ _)); intro v125 w3 ho4 hb hg_ hnew_; clear hg_ hnew_; (first | rw [← Ny124.out] at ho4 | (simp only [Int.reduceToNat] at ho4; rw [← Ny124.out] at ho4)); have n0_ := Aside0.mk (Kd.R_lower ho4 (below_size (by repeat (first | (with_reducible first | exact HB.out | apply below_alloc | apply pw_below_drewN | apply below_drew1) | exact HB.out)))); have n1_ := Aside0.mk (below_step (by repeat (first | (with_reducible first | exact HB.out | apply below_alloc | apply pw_below_drewN | apply below_drew1) | exact HB.out)) hb); clear HB; have HO126 := n0_; have HB := n1_; clear n0_ n1_; clear hb ho4) | ((with_reducible refine gate_dst (N := 7) rfl ?_); refine box_event ?hg (N := 7) ?hd (cs := #[.int .i64 0, .int .i64 0]) (t := 64) ?hr ?_; (case hd => rfl); (case hg => rfl); (case hr => first | (go_simp; done) | (go_simp; rfl)); intro gb127 hg w5 hbox hb; have n0_ := Aside0.mk (Kd.R_below (by (with_reducible repeat (first | apply Kd.R_alloc | apply Kd.R_drewN | apply Kd.R_drew)); exact HO126.out) hb); have n1_ := Aside0.mk (below_step (by repeat (first | (with_reducible first | exact HB.out | apply below_alloc | apply pw_below_drewN | apply below_drew1) | exact HB.out)) hb); have n2_ := Aside0.mk (hbox); have n3_ := Aside0.mk ((by rw [hg]; exact (below_size (by repeat (first | (with_reducible first | exact HB.out | apply below_alloc | apply pw_below_drewN | apply below_drew1) | exact HB.out))) : w.heap.size ≤ gb127)); have n4_ := Aside0.mk ((by rw [hg]; exact (below_size (by repeat (first | (with_reducible first | exact HB.out | apply below_alloc | apply pw_below_drewN | apply below_drew1) | exact HB.out))) : w.heap.size ≤ gb127)); clear HO126; clear HB; have HO126 := n0_; have HB := n1_; have BK127 := n2_; have GW127 := n3_; have GE127 := n4_; clear n0_ n1_ n2_ n3_ n4_; clear hb hbox hg; have hcz6_0 : w5.cell? ⟨gb127, 0, none⟩ = some (.int .i64 0) := (blk_cell BK127.out 0).trans rfl; have hcz6_1 : w5.cell? ⟨gb127, 1, none⟩ = some (.int .i64 0) := (blk_cell BK127.out 1).trans rfl; have hfz6_0 := blk_frozen BK127.out 0; have hfz6_1 := blk_frozen BK127.out 1))
  go_loopg [6, 17] k (fun kq v6 v17 w' => ∃ (x6_1 : List (S46)) (x17_1 : Int) (x128000_1 : Int) (x128001_1 : Int), v17 = .int .i64 x17_1 ∧ Aside0 (spec_Answers.l0 kq l0 x6_1 l1 (l1.length : Int) x17_1 x128000_1 x128001_1 = some (r1, r2)) ∧ Aside0 (kq ≤ k) ∧ Aside0 (Kd.R k46 46 w' w.heap.size (fun _ => True) v6 x6_1) ∧ Aside0 (w'.heap[gb127]? = some (.cells #[.int .i64 x128000_1, .int .i64 x128001_1] 64 (0, 0))) ∧ Aside0 (Below w.heap.size w w'))
  case atStart => exact ⟨(y124), (0), (0), (0), (by first | rfl | (simp; done) | (simp [*]; done)), H', ⟨Nat.le_refl _⟩, ⟨by (with_reducible repeat (first | apply Kd.R_alloc | apply Kd.R_drewN | apply Kd.R_drew)); exact Kd.R_mono (Kd.R_far (p := ⟨gb127, 1, none⟩) (Kd.R_far (p := ⟨gb127, 0, none⟩) (Kd.R_types HO126.out BK127.out (by decide)) (fun _ hk => hk.2) (.int .i64 0)) (fun _ hk => hk.2) (.int .i64 0)) (fun _ hk => trivial)⟩, ⟨by (with_reducible repeat (first | refine blk_drewN ?_ _ | refine blk_drew ?_ | refine blk_alloc ?_ _)); refine blk_put (cs := #[.int .i64 0, .int .i64 0]) ?_ 1 _ rfl; (with_reducible repeat (first | refine blk_drewN ?_ _ | refine blk_drew ?_ | refine blk_alloc ?_ _)); refine blk_put (cs := #[.int .i64 0, .int .i64 0]) ?_ 0 _ rfl; (with_reducible repeat (first | refine blk_drewN ?_ _ | refine blk_drew ?_ | refine blk_alloc ?_ _)); exact BK127.out⟩, ⟨by repeat (first | (with_reducible first | exact HB.out | apply below_alloc | apply pw_below_drewN | apply below_drew1 | refine below_set ?_ GE127.out) | exact HB.out)⟩⟩
  case round =>
    clear H'
    try clear c1
    try clear p2
    try clear hcz6_0
    try clear hcz6_1
    try clear hfz6_0
    try clear hfz6_1
    obtain ⟨x6_1, x17_1, x128000_1, x128001_1, rfl, HA, HK1, HO_6, BK127, HB⟩ := hrel
    cases gk with
    | zero => exact absurd HA.out (by simp [spec_Answers.l0])
    | succ k1 =>
      have H := HA.out
      clear HA
      simp only [spec_Answers.l0] at H
      by_cases c7 : x17_1 < (l1.length : Int)
      · rw [if_pos c7] at H
        have c7b0 : decide (x17_1 < (l1.length : Int)) = true := decide_eq_true c7
        clear c7
        by_cases c8 : 0 ≤ x17_1
        · rw [if_pos c8] at H
          have c8b0 : decide (0 ≤ x17_1) = true := decide_eq_true c8
          clear c8
          by_cases c9 : x17_1 < (l1.length : Int)
          · rw [if_pos c9] at H
            have c9b0 : decide (x17_1 < (l1.length : Int)) = true := decide_eq_true c9
            clear c9
            replace H := Option.bind_eq_some_iff.mp H
            obtain ⟨⟨t130, t131, t132, t133, t134, t135⟩, A100, H⟩ := H
            replace H : (if t135 = true then (if x6_1.length < 4398046511104 then (spec_Answers.l0 k1 l0 (x6_1 ++ [(⟨t132, t133, t134⟩ : S46)]) l1 (l1.length : Int) (wrap64 (x17_1 + 1)) t130 t131) else (none)) else (some (([] : List (S46)), false))) = some (r1, r2) := H
            have A10 := Aside0.mk A100
            clear A100
            by_cases c11 : t135 = true
            · subst c11
              have H1 : (if x6_1.length < 4398046511104 then (spec_Answers.l0 k1 l0 (x6_1 ++ [(⟨t132, t133, t134⟩ : S46)]) l1 (l1.length : Int) (wrap64 (x17_1 + 1)) t130 t131) else (none)) = some (r1, r2) := by rw [if_pos rfl] at H; exact H
              clear H
              have H := H1
              clear H1
              by_cases c12 : x6_1.length < 4398046511104
              · rw [if_pos c12] at H
                have LMc12 := Aside0.mk c12
                clear c12
                obtain ⟨y138, hy138⟩ : ∃ y_ : List (S46), y_ = (x6_1 ++ [(⟨t132, t133, t134⟩ : S46)]) := ⟨_, rfl⟩
                replace H : (spec_Answers.l0 k1 l0 y138 l1 (l1.length : Int) (wrap64 (x17_1 + 1)) t130 t131) = some (r1, r2) := by first | (rw [hy138]; with_reducible exact H) | (have H2_ := (Option.bind_some _ _).symm.trans H; rw [hy138]; with_reducible exact H2_) | (have H2_ := (Option.bind_some _ _).symm.trans H; with_reducible exact H2_) | with_reducible exact H | (rw [hy138]; exact H) | exact H
                have Ny138 := Aside0.mk hy138
                clear hy138
                have H' := Aside0.mk H
                clear H
                have p128 : 0 ≤ (x17_1 : Int) := of_decide_eq_true (by first | (with_reducible assumption) | assumption)
                have q128 : x17_1 < (l1.length : Int) := of_decide_eq_true (by first | (with_reducible assumption) | assumption)
                obtain ⟨ad128, e128, hx128_0, hx128_1⟩ := at_T44 HR1.out x17_1 p128 q128
                cases e128
                replace hx128_0 := (HB.out.cell (World.block_lt_of_cell? w _ hx128_0)).trans hx128_0
                replace hx128_1 := (HB.out.cell (World.block_lt_of_cell? w _ hx128_1)).trans hx128_1
                replace p128 := eq_true p128
                replace q128 := eq_true q128
                try go_wp2_with (first | ((with_reducible refine gate_dst (N := 9) rfl ?_); refine box_event ?hg (N := 9) ?hd (cs := #[.int .i64 0, .int .i64 0]) (t := 44) ?hr ?_; (case hd => rfl); (case hg => rfl); (case hr => first | (go_simp; done) | (go_simp; rfl)); intro gb129 hg w13 hbox hb; have n0_ := Aside0.mk (Kd.R_below (by (with_reducible repeat (first | apply Kd.R_alloc | apply Kd.R_drewN | apply Kd.R_drew)); exact HO_6.out) hb); have n1_ := Aside0.mk (blk_below (g := gb127) (o := .cells #[.int .i64 x128000_1, .int .i64 x128001_1] 64 (0, 0)) (by (with_reducible repeat (first | refine blk_drewN ?_ _ | refine blk_drew ?_ | refine blk_alloc ?_ _)); exact BK127.out) hb); have n2_ := Aside0.mk (below_step (by repeat (first | (with_reducible first | exact HB.out | apply below_alloc | apply pw_below_drewN | apply below_drew1 | refine below_set ?_ GE127.out) | exact HB.out)) hb); have n3_ := Aside0.mk (hbox); have n4_ := Aside0.mk ((by rw [hg]; exact (below_size (by repeat (first | (with_reducible first | exact HB.out | apply below_alloc | apply pw_below_drewN | apply below_drew1 | refine below_set ?_ GE127.out) | exact HB.out))) : w.heap.size ≤ gb129)); have n5_ := Aside0.mk ((by rw [hg]; exact (below_size (by repeat (first | (with_reducible first | exact HB.out | apply below_alloc | apply pw_below_drewN | apply below_drew1 | refine below_set ?_ GE127.out) | exact HB.out))) : w.heap.size ≤ gb129)); have n6_ := Aside0.mk ((by rw [hg]; exact Nat.ne_of_lt (blk_lt (g := gb127) (o := .cells #[.int .i64 x128000_1, .int .i64 x128001_1] 64 (0, 0)) (by (with_reducible repeat (first | refine blk_drewN ?_ _ | refine blk_drew ?_ | refine blk_alloc ?_ _)); exact BK127.out)) : gb127 ≠ gb129)); have n7_ := Aside0.mk ((by rw [hg]; exact Nat.ne_of_gt (blk_lt (g := gb127) (o := .cells #[.int .i64 x128000_1, .int .i64 x128001_1] 64 (0, 0)) (by (with_reducible repeat (first | refine blk_drewN ?_ _ | refine blk_drew ?_ | refine blk_alloc ?_ _)); exact BK127.out)) : gb129 ≠ gb127)); clear HO_6; clear BK127; clear HB; have HO_6 := n0_; have BK127 := n1_; have HB := n2_; have BK129 := n3_; have GW129 := n4_; have GE129 := n5_; have NB127_129 := n6_; have NB129_127 := n7_; clear n0_ n1_ n2_ n3_ n4_ n5_ n6_ n7_; clear hb hbox hg; have hnb14 := NB129_127.out; have hnc14 := NB127_129.out; have hcz15_0 : w13.cell? ⟨gb129, 0, none⟩ = some (.int .i64 0) := (blk_cell BK129.out 0).trans rfl; have hcz15_1 : w13.cell? ⟨gb129, 1, none⟩ = some (.int .i64 0) := (blk_cell BK129.out 1).trans rfl; have hfz15_0 := blk_frozen BK129.out 0; have hfz15_1 := blk_frozen BK129.out 1; have hcz16_0 : w13.cell? ⟨gb127, 0, none⟩ = some (.int .i64 x128000_1) := (blk_cell BK127.out 0).trans rfl; have hcz16_1 : w13.cell? ⟨gb127, 1, none⟩ = some (.int .i64 x128001_1) := (blk_cell BK127.out 1).trans rfl; have hfz16_0 := blk_frozen BK127.out 0; have hfz16_1 := blk_frozen BK127.out 1) | ((with_reducible refine gate_callee (f := 28) rfl ?_); refine goesL_ (some 25) rfl rfl Tryd.func28 (by kernel_rfl) rfl #[.slice A0 l0.length c0, .agg #[.int .i64 x128000_1, .int .i64 x128001_1], .agg #[.int .i64 ((rd_T44 l1 x17_1).f0), .int .i64 ((rd_T44 l1 x17_1).f1)]] rfl (by (try simp only [List.map_toArray, List.map_cons, List.map_nil]); first | done | rfl | (simp only [List.length_drop, List.length_take]; rfl)) ?_; (with_reducible refine (spec_Next.calls k1 _ _ l0 x128000_1 x128001_1 ((rd_T44 l1 x17_1).f0) ((rd_T44 l1 x17_1).f1) t130 t131 t132 t133 t134 true _ ?side1 ?side2 A10.out).mono ?_); (case side1 => exact Kd.C_below HR0.out (by repeat (first | (with_reducible first | exact HB.out | apply below_alloc | apply pw_below_drewN | apply below_drew1 | refine below_set ?_ GE127.out | refine below_set ?_ GE129.out) | exact HB.out))); (case side2 => exact HC0.out); rintro e w17 ⟨rfl, hb⟩; refine ⟨_, rfl, ?_⟩; have n0_ := Aside0.mk (Kd.R_below (by (with_reducible repeat (first | apply Kd.R_alloc | apply Kd.R_drewN | apply Kd.R_drew)); exact (Kd.R_mono (Kd.R_far (p := ⟨gb129, 1, none⟩) (Kd.R_far (p := ⟨gb129, 0, none⟩) (Kd.R_types HO_6.out BK129.out (by decide)) (fun _ hk => hk.2) (.int .i64 ((rd_T44 l1 x17_1).f0))) (fun _ hk => hk.2) (.int .i64 ((rd_T44 l1 x17_1).f1))) (fun _ h_ => h_.1))) hb); have n1_ := Aside0.mk (blk_below (g := gb127) (o := .cells #[.int .i64 x128000_1, .int .i64 x128001_1] 64 (0, 0)) (by (with_reducible repeat (first | refine blk_drewN ?_ _ | refine blk_drew ?_ | refine blk_alloc ?_ _)); refine blk_far ?_ NB127_129.out _; (with_reducible repeat (first | refine blk_drewN ?_ _ | refine blk_drew ?_ | refine blk_alloc ?_ _)); refine blk_far ?_ NB127_129.out _; (with_reducible repeat (first | refine blk_drewN ?_ _ | refine blk_drew ?_ | refine blk_alloc ?_ _)); exact BK127.out) hb); have n2_ := Aside0.mk (blk_below (g := gb129) (o := .cells #[.int .i64 ((rd_T44 l1 x17_1).f0), .int .i64 ((rd_T44 l1 x17_1).f1)] 44 (0, 0)) (by (with_reducible repeat (first | refine blk_drewN ?_ _ | refine blk_drew ?_ | refine blk_alloc ?_ _)); refine blk_put (cs := #[.int .i64 ((rd_T44 l1 x17_1).f0), .int .i64 0]) ?_ 1 _ rfl; (with_reducible repeat (first | refine blk_drewN ?_ _ | refine blk_drew ?_ | refine blk_alloc ?_ _)); refine blk_put (cs := #[.int .i64 0, .int .i64 0]) ?_ 0 _ rfl; (with_reducible repeat (first | refine blk_drewN ?_ _ | refine blk_drew ?_ | refine blk_alloc ?_ _)); exact BK129.out) hb); have n3_ := Aside0.mk (below_step (by repeat (first | (with_reducible first | exact HB.out | apply below_alloc | apply pw_below_drewN | apply below_drew1 | refine below_set ?_ GE127.out | refine below_set ?_ GE129.out) | exact HB.out)) hb); clear HO_6; clear BK127; clear BK129; clear HB; have HO_6 := n0_; have BK127 := n1_; have BK129 := n2_; have HB := n3_; clear n0_ n1_ n2_ n3_; (try clear hb); (try clear hb2); (try clear hk); (try clear hi)) | ((with_reducible refine gate_dst (N := 10) rfl ?_); refine box_event ?hg (N := 10) ?hd (cs := #[.int .i64 0, .int .i64 0]) (t := 64) ?hr ?_; (case hd => rfl); (case hg => rfl); (case hr => first | (go_simp; done) | (go_simp; rfl)); intro gb136 hg w18 hbox hb; have n0_ := Aside0.mk (Kd.R_below (by (with_reducible repeat (first | apply Kd.R_alloc | apply Kd.R_drewN | apply Kd.R_drew)); exact HO_6.out) hb); have n1_ := Aside0.mk (blk_below (g := gb127) (o := .cells #[.int .i64 x128000_1, .int .i64 x128001_1] 64 (0, 0)) (by (with_reducible repeat (first | refine blk_drewN ?_ _ | refine blk_drew ?_ | refine blk_alloc ?_ _)); exact BK127.out) hb); have n2_ := Aside0.mk (blk_below (g := gb129) (o := .cells #[.int .i64 ((rd_T44 l1 x17_1).f0), .int .i64 ((rd_T44 l1 x17_1).f1)] 44 (0, 0)) (by (with_reducible repeat (first | refine blk_drewN ?_ _ | refine blk_drew ?_ | refine blk_alloc ?_ _)); exact BK129.out) hb); have n3_ := Aside0.mk (below_step (by repeat (first | (with_reducible first | exact HB.out | apply below_alloc | apply pw_below_drewN | apply below_drew1 | refine below_set ?_ GE127.out | refine below_set ?_ GE129.out) | exact HB.out)) hb); have n4_ := Aside0.mk (hbox); have n5_ := Aside0.mk ((by rw [hg]; exact (below_size (by repeat (first | (with_reducible first | exact HB.out | apply below_alloc | apply pw_below_drewN | apply below_drew1 | refine below_set ?_ GE127.out | refine below_set ?_ GE129.out) | exact HB.out))) : w.heap.size ≤ gb136)); have n6_ := Aside0.mk ((by rw [hg]; exact (below_size (by repeat (first | (with_reducible first | exact HB.out | apply below_alloc | apply pw_below_drewN | apply below_drew1 | refine below_set ?_ GE127.out | refine below_set ?_ GE129.out) | exact HB.out))) : w.heap.size ≤ gb136)); have n7_ := Aside0.mk ((by rw [hg]; exact Nat.ne_of_lt (blk_lt (g := gb127) (o := .cells #[.int .i64 x128000_1, .int .i64 x128001_1] 64 (0, 0)) (by (with_reducible repeat (first | refine blk_drewN ?_ _ | refine blk_drew ?_ | refine blk_alloc ?_ _)); exact BK127.out)) : gb127 ≠ gb136)); have n8_ := Aside0.mk ((by rw [hg]; exact Nat.ne_of_gt (blk_lt (g := gb127) (o := .cells #[.int .i64 x128000_1, .int .i64 x128001_1] 64 (0, 0)) (by (with_reducible repeat (first | refine blk_drewN ?_ _ | refine blk_drew ?_ | refine blk_alloc ?_ _)); exact BK127.out)) : gb136 ≠ gb127)); have n9_ := Aside0.mk ((by rw [hg]; exact Nat.ne_of_lt (blk_lt (g := gb129) (o := .cells #[.int .i64 ((rd_T44 l1 x17_1).f0), .int .i64 ((rd_T44 l1 x17_1).f1)] 44 (0, 0)) (by (with_reducible repeat (first | refine blk_drewN ?_ _ | refine blk_drew ?_ | refine blk_alloc ?_ _)); exact BK129.out)) : gb129 ≠ gb136)); have n10_ := Aside0.mk ((by rw [hg]; exact Nat.ne_of_gt (blk_lt (g := gb129) (o := .cells #[.int .i64 ((rd_T44 l1 x17_1).f0), .int .i64 ((rd_T44 l1 x17_1).f1)] 44 (0, 0)) (by (with_reducible repeat (first | refine blk_drewN ?_ _ | refine blk_drew ?_ | refine blk_alloc ?_ _)); exact BK129.out)) : gb136 ≠ gb129)); clear HO_6; clear BK127; clear BK129; clear HB; have HO_6 := n0_; have BK127 := n1_; have BK129 := n2_; have HB := n3_; have BK136 := n4_; have GW136 := n5_; have GE136 := n6_; have NB127_136 := n7_; have NB136_127 := n8_; have NB129_136 := n9_; have NB136_129 := n10_; clear n0_ n1_ n2_ n3_ n4_ n5_ n6_ n7_ n8_ n9_ n10_; clear hb hbox hg) | ((with_reducible refine gate_dst (N := 11) rfl ?_); refine box_event ?hg (N := 11) ?hd (cs := #[.int .i64 0, .int .i64 0, .string (⟨#[]⟩ : ByteArray)]) (t := 46) ?hr ?_; (case hd => rfl); (case hg => rfl); (case hr => first | (go_simp; done) | (go_simp; rfl)); intro gb137 hg w19 hbox hb; have n0_ := Aside0.mk (Kd.R_below (Kd.R_elderB (by (with_reducible repeat (first | apply Kd.R_alloc | apply Kd.R_drewN | apply Kd.R_drew)); exact HO_6.out) gb137 (Nat.le_of_eq hg.symm)) hb); have n1_ := Aside0.mk (blk_below (g := gb127) (o := .cells #[.int .i64 x128000_1, .int .i64 x128001_1] 64 (0, 0)) (by (with_reducible repeat (first | refine blk_drewN ?_ _ | refine blk_drew ?_ | refine blk_alloc ?_ _)); exact BK127.out) hb); have n2_ := Aside0.mk (blk_below (g := gb129) (o := .cells #[.int .i64 ((rd_T44 l1 x17_1).f0), .int .i64 ((rd_T44 l1 x17_1).f1)] 44 (0, 0)) (by (with_reducible repeat (first | refine blk_drewN ?_ _ | refine blk_drew ?_ | refine blk_alloc ?_ _)); exact BK129.out) hb); have n3_ := Aside0.mk (blk_below (g := gb136) (o := .cells #[.int .i64 0, .int .i64 0] 64 (0, 0)) (by (with_reducible repeat (first | refine blk_drewN ?_ _ | refine blk_drew ?_ | refine blk_alloc ?_ _)); exact BK136.out) hb); have n4_ := Aside0.mk (below_step (by repeat (first | (with_reducible first | exact HB.out | apply below_alloc | apply pw_below_drewN | apply below_drew1 | refine below_set ?_ GE127.out | refine below_set ?_ GE129.out | refine below_set ?_ GE136.out) | exact HB.out)) hb); have n5_ := Aside0.mk (hbox); have n6_ := Aside0.mk ((by rw [hg]; exact (below_size (by repeat (first | (with_reducible first | exact HB.out | apply below_alloc | apply pw_below_drewN | apply below_drew1 | refine below_set ?_ GE127.out | refine below_set ?_ GE129.out | refine below_set ?_ GE136.out) | exact HB.out))) : w.heap.size ≤ gb137)); have n7_ := Aside0.mk ((by rw [hg]; exact (below_size (by repeat (first | (with_reducible first | exact HB.out | apply below_alloc | apply pw_below_drewN | apply below_drew1 | refine below_set ?_ GE127.out | refine below_set ?_ GE129.out | refine below_set ?_ GE136.out) | exact HB.out))) : w.heap.size ≤ gb137)); have n8_ := Aside0.mk ((by rw [hg]; exact Nat.ne_of_lt (blk_lt (g := gb127) (o := .cells #[.int .i64 x128000_1, .int .i64 x128001_1] 64 (0, 0)) (by (with_reducible repeat (first | refine blk_drewN ?_ _ | refine blk_drew ?_ | refine blk_alloc ?_ _)); exact BK127.out)) : gb127 ≠ gb137)); have n9_ := Aside0.mk ((by rw [hg]; exact Nat.ne_of_gt (blk_lt (g := gb127) (o := .cells #[.int .i64 x128000_1, .int .i64 x128001_1] 64 (0, 0)) (by (with_reducible repeat (first | refine blk_drewN ?_ _ | refine blk_drew ?_ | refine blk_alloc ?_ _)); exact BK127.out)) : gb137 ≠ gb127)); have n10_ := Aside0.mk ((by rw [hg]; exact Nat.ne_of_lt (blk_lt (g := gb129) (o := .cells #[.int .i64 ((rd_T44 l1 x17_1).f0), .int .i64 ((rd_T44 l1 x17_1).f1)] 44 (0, 0)) (by (with_reducible repeat (first | refine blk_drewN ?_ _ | refine blk_drew ?_ | refine blk_alloc ?_ _)); exact BK129.out)) : gb129 ≠ gb137)); have n11_ := Aside0.mk ((by rw [hg]; exact Nat.ne_of_gt (blk_lt (g := gb129) (o := .cells #[.int .i64 ((rd_T44 l1 x17_1).f0), .int .i64 ((rd_T44 l1 x17_1).f1)] 44 (0, 0)) (by (with_reducible repeat (first | refine blk_drewN ?_ _ | refine blk_drew ?_ | refine blk_alloc ?_ _)); exact BK129.out)) : gb137 ≠ gb129)); have n12_ := Aside0.mk ((by rw [hg]; exact Nat.ne_of_lt (blk_lt (g := gb136) (o := .cells #[.int .i64 0, .int .i64 0] 64 (0, 0)) (by (with_reducible repeat (first | refine blk_drewN ?_ _ | refine blk_drew ?_ | refine blk_alloc ?_ _)); exact BK136.out)) : gb136 ≠ gb137)); have n13_ := Aside0.mk ((by rw [hg]; exact Nat.ne_of_gt (blk_lt (g := gb136) (o := .cells #[.int .i64 0, .int .i64 0] 64 (0, 0)) (by (with_reducible repeat (first | refine blk_drewN ?_ _ | refine blk_drew ?_ | refine blk_alloc ?_ _)); exact BK136.out)) : gb137 ≠ gb136)); clear HO_6; clear BK127; clear BK129; clear BK136; clear HB; have HO_6 := n0_; have BK127 := n1_; have BK129 := n2_; have BK136 := n3_; have HB := n4_; have BK137 := n5_; have GW137 := n6_; have GE137 := n7_; have NB127_137 := n8_; have NB137_127 := n9_; have NB129_137 := n10_; have NB137_129 := n11_; have NB136_137 := n12_; have NB137_136 := n13_; clear n0_ n1_ n2_ n3_ n4_ n5_ n6_ n7_ n8_ n9_ n10_ n11_ n12_ n13_; clear hb hbox hg; have hnb20 := NB136_127.out; have hnc20 := NB127_136.out; have hnb21 := NB136_129.out; have hnc21 := NB129_136.out; have hnb22 := NB136_137.out; have hnc22 := NB137_136.out; have hcz23_0 : w19.cell? ⟨gb136, 0, none⟩ = some (.int .i64 0) := (blk_cell BK136.out 0).trans rfl; have hcz23_1 : w19.cell? ⟨gb136, 1, none⟩ = some (.int .i64 0) := (blk_cell BK136.out 1).trans rfl; have hfz23_0 := blk_frozen BK136.out 0; have hfz23_1 := blk_frozen BK136.out 1; have hnb24 := NB137_127.out; have hnc24 := NB127_137.out; have hnb25 := NB137_129.out; have hnc25 := NB129_137.out; have hcz26_0 : w19.cell? ⟨gb137, 0, none⟩ = some (.int .i64 0) := (blk_cell BK137.out 0).trans rfl; have hcz26_1 : w19.cell? ⟨gb137, 1, none⟩ = some (.int .i64 0) := (blk_cell BK137.out 1).trans rfl; have hcz26_2 : w19.cell? ⟨gb137, 2, none⟩ = some (.string (⟨#[]⟩ : ByteArray)) := (blk_cell BK137.out 2).trans rfl; have hfz26_0 := blk_frozen BK137.out 0; have hfz26_1 := blk_frozen BK137.out 1; have hfz26_2 := blk_frozen BK137.out 2))
                have n0_ : Aside0 (Kd.R k46 46 (((((w19.setCell ⟨gb136, 0, none⟩ (.int .i64 t130)).setCell ⟨gb136, 1, none⟩ (.int .i64 t131)).setCell ⟨gb137, 0, none⟩ (.int .i64 t132)).setCell ⟨gb137, 1, none⟩ (.int .i64 t133)).setCell ⟨gb137, 2, none⟩ (.string t134)) w.heap.size (fun k_ => k_ ≠ gb137) u6 x6_1) := ⟨by (with_reducible repeat (first | apply Kd.R_alloc | apply Kd.R_drewN | apply Kd.R_drew)); exact Kd.R_mono (Kd.R_far (p := ⟨gb137, 2, none⟩) (Kd.R_far (p := ⟨gb137, 1, none⟩) (Kd.R_far (p := ⟨gb137, 0, none⟩) (Kd.R_far (p := ⟨gb136, 1, none⟩) (Kd.R_far (p := ⟨gb136, 0, none⟩) (Kd.R_mono (Kd.R_types HO_6.out BK136.out (by decide)) (fun k_ hk => (⟨hk, hk.1.2⟩ : _ ∧ k_ ≠ gb137))) (fun _ hk => hk.1.2) (.int .i64 t130)) (fun _ hk => hk.1.2) (.int .i64 t131)) (fun _ hk => hk.2) (.int .i64 t132)) (fun _ hk => hk.2) (.int .i64 t133)) (fun _ hk => hk.2) (.string t134)) (fun _ hk => hk.1.1.2)⟩
                have n1_ : Aside0 ((((((w19.setCell ⟨gb136, 0, none⟩ (.int .i64 t130)).setCell ⟨gb136, 1, none⟩ (.int .i64 t131)).setCell ⟨gb137, 0, none⟩ (.int .i64 t132)).setCell ⟨gb137, 1, none⟩ (.int .i64 t133)).setCell ⟨gb137, 2, none⟩ (.string t134)).heap[gb127]? = some (.cells #[.int .i64 x128000_1, .int .i64 x128001_1] 64 (0, 0))) := ⟨by (with_reducible repeat (first | refine blk_drewN ?_ _ | refine blk_drew ?_ | refine blk_alloc ?_ _)); refine blk_far ?_ NB127_137.out _; (with_reducible repeat (first | refine blk_drewN ?_ _ | refine blk_drew ?_ | refine blk_alloc ?_ _)); refine blk_far ?_ NB127_137.out _; (with_reducible repeat (first | refine blk_drewN ?_ _ | refine blk_drew ?_ | refine blk_alloc ?_ _)); refine blk_far ?_ NB127_137.out _; (with_reducible repeat (first | refine blk_drewN ?_ _ | refine blk_drew ?_ | refine blk_alloc ?_ _)); refine blk_far ?_ NB127_136.out _; (with_reducible repeat (first | refine blk_drewN ?_ _ | refine blk_drew ?_ | refine blk_alloc ?_ _)); refine blk_far ?_ NB127_136.out _; (with_reducible repeat (first | refine blk_drewN ?_ _ | refine blk_drew ?_ | refine blk_alloc ?_ _)); exact BK127.out⟩
                have n2_ : Aside0 ((((((w19.setCell ⟨gb136, 0, none⟩ (.int .i64 t130)).setCell ⟨gb136, 1, none⟩ (.int .i64 t131)).setCell ⟨gb137, 0, none⟩ (.int .i64 t132)).setCell ⟨gb137, 1, none⟩ (.int .i64 t133)).setCell ⟨gb137, 2, none⟩ (.string t134)).heap[gb129]? = some (.cells #[.int .i64 ((rd_T44 l1 x17_1).f0), .int .i64 ((rd_T44 l1 x17_1).f1)] 44 (0, 0))) := ⟨by (with_reducible repeat (first | refine blk_drewN ?_ _ | refine blk_drew ?_ | refine blk_alloc ?_ _)); refine blk_far ?_ NB129_137.out _; (with_reducible repeat (first | refine blk_drewN ?_ _ | refine blk_drew ?_ | refine blk_alloc ?_ _)); refine blk_far ?_ NB129_137.out _; (with_reducible repeat (first | refine blk_drewN ?_ _ | refine blk_drew ?_ | refine blk_alloc ?_ _)); refine blk_far ?_ NB129_137.out _; (with_reducible repeat (first | refine blk_drewN ?_ _ | refine blk_drew ?_ | refine blk_alloc ?_ _)); refine blk_far ?_ NB129_136.out _; (with_reducible repeat (first | refine blk_drewN ?_ _ | refine blk_drew ?_ | refine blk_alloc ?_ _)); refine blk_far ?_ NB129_136.out _; (with_reducible repeat (first | refine blk_drewN ?_ _ | refine blk_drew ?_ | refine blk_alloc ?_ _)); exact BK129.out⟩
                have n3_ : Aside0 ((((((w19.setCell ⟨gb136, 0, none⟩ (.int .i64 t130)).setCell ⟨gb136, 1, none⟩ (.int .i64 t131)).setCell ⟨gb137, 0, none⟩ (.int .i64 t132)).setCell ⟨gb137, 1, none⟩ (.int .i64 t133)).setCell ⟨gb137, 2, none⟩ (.string t134)).heap[gb136]? = some (.cells #[.int .i64 t130, .int .i64 t131] 64 (0, 0))) := ⟨by (with_reducible repeat (first | refine blk_drewN ?_ _ | refine blk_drew ?_ | refine blk_alloc ?_ _)); refine blk_far ?_ NB136_137.out _; (with_reducible repeat (first | refine blk_drewN ?_ _ | refine blk_drew ?_ | refine blk_alloc ?_ _)); refine blk_far ?_ NB136_137.out _; (with_reducible repeat (first | refine blk_drewN ?_ _ | refine blk_drew ?_ | refine blk_alloc ?_ _)); refine blk_far ?_ NB136_137.out _; (with_reducible repeat (first | refine blk_drewN ?_ _ | refine blk_drew ?_ | refine blk_alloc ?_ _)); refine blk_put (cs := #[.int .i64 t130, .int .i64 0]) ?_ 1 _ rfl; (with_reducible repeat (first | refine blk_drewN ?_ _ | refine blk_drew ?_ | refine blk_alloc ?_ _)); refine blk_put (cs := #[.int .i64 0, .int .i64 0]) ?_ 0 _ rfl; (with_reducible repeat (first | refine blk_drewN ?_ _ | refine blk_drew ?_ | refine blk_alloc ?_ _)); exact BK136.out⟩
                have n4_ : Aside0 ((((((w19.setCell ⟨gb136, 0, none⟩ (.int .i64 t130)).setCell ⟨gb136, 1, none⟩ (.int .i64 t131)).setCell ⟨gb137, 0, none⟩ (.int .i64 t132)).setCell ⟨gb137, 1, none⟩ (.int .i64 t133)).setCell ⟨gb137, 2, none⟩ (.string t134)).heap[gb137]? = some (.cells #[.int .i64 t132, .int .i64 t133, .string t134] 46 (0, 0))) := ⟨by (with_reducible repeat (first | refine blk_drewN ?_ _ | refine blk_drew ?_ | refine blk_alloc ?_ _)); refine blk_put (cs := #[.int .i64 t132, .int .i64 t133, .string (⟨#[]⟩ : ByteArray)]) ?_ 2 _ rfl; (with_reducible repeat (first | refine blk_drewN ?_ _ | refine blk_drew ?_ | refine blk_alloc ?_ _)); refine blk_put (cs := #[.int .i64 t132, .int .i64 0, .string (⟨#[]⟩ : ByteArray)]) ?_ 1 _ rfl; (with_reducible repeat (first | refine blk_drewN ?_ _ | refine blk_drew ?_ | refine blk_alloc ?_ _)); refine blk_put (cs := #[.int .i64 0, .int .i64 0, .string (⟨#[]⟩ : ByteArray)]) ?_ 0 _ rfl; (with_reducible repeat (first | refine blk_drewN ?_ _ | refine blk_drew ?_ | refine blk_alloc ?_ _)); refine blk_far ?_ NB137_136.out _; (with_reducible repeat (first | refine blk_drewN ?_ _ | refine blk_drew ?_ | refine blk_alloc ?_ _)); refine blk_far ?_ NB137_136.out _; (with_reducible repeat (first | refine blk_drewN ?_ _ | refine blk_drew ?_ | refine blk_alloc ?_ _)); exact BK137.out⟩
                have n5_ : Aside0 (Below w.heap.size w (((((w19.setCell ⟨gb136, 0, none⟩ (.int .i64 t130)).setCell ⟨gb136, 1, none⟩ (.int .i64 t131)).setCell ⟨gb137, 0, none⟩ (.int .i64 t132)).setCell ⟨gb137, 1, none⟩ (.int .i64 t133)).setCell ⟨gb137, 2, none⟩ (.string t134))) := ⟨by repeat (first | (with_reducible first | exact HB.out | apply below_alloc | apply pw_below_drewN | apply below_drew1 | refine below_set ?_ GE127.out | refine below_set ?_ GE129.out | refine below_set ?_ GE136.out | refine below_set ?_ GE137.out) | exact HB.out)⟩
                (try clear HO_6)
                (try clear BK127)
                (try clear BK129)
                (try clear BK136)
                (try clear BK137)
                (try clear HB)
                generalize (((((w19.setCell ⟨gb136, 0, none⟩ (.int .i64 t130)).setCell ⟨gb136, 1, none⟩ (.int .i64 t131)).setCell ⟨gb137, 0, none⟩ (.int .i64 t132)).setCell ⟨gb137, 1, none⟩ (.int .i64 t133)).setCell ⟨gb137, 2, none⟩ (.string t134)) = w27 at n0_ n1_ n2_ n3_ n4_ n5_ ⊢
                have HO_6 := n0_
                have BK127 := n1_
                have BK129 := n2_
                have BK136 := n3_
                have BK137 := n4_
                have HB := n5_
                clear n0_ n1_ n2_ n3_ n4_ n5_
                have n0_ := Aside0.mk (Kd.R_drew HO_6.out)
                have n1_ := Aside0.mk (blk_drew BK127.out)
                have n2_ := Aside0.mk (blk_drew BK129.out)
                have n3_ := Aside0.mk (blk_drew BK136.out)
                have n4_ := Aside0.mk (blk_drew BK137.out)
                have n5_ := Aside0.mk (below_drew1 HB.out)
                clear HO_6
                clear BK127
                clear BK129
                clear BK136
                clear BK137
                clear HB
                have HO_6 := n0_
                have BK127 := n1_
                have BK129 := n2_
                have BK136 := n3_
                have BK137 := n4_
                have HB := n5_
                clear n0_ n1_ n2_ n3_ n4_ n5_
                refine start_ (n := 7) (S := fun w' => w'.cell? ⟨gb137, 0, none⟩ = some (.int .i64 t132) ∧ w'.cell? ⟨gb137, 1, none⟩ = some (.int .i64 t133) ∧ w'.cell? ⟨gb137, 2, none⟩ = some (.string t134) ∧ w'.cell? ⟨gb136, 0, none⟩ = some (.int .i64 t130) ∧ w'.cell? ⟨gb136, 1, none⟩ = some (.int .i64 t131)) (ds := []) #[false, false, false, false, false, false, false] (by kernel_rfl) rfl rfl ⟨(blk_cell BK137.out 0).trans rfl, (blk_cell BK137.out 1).trans rfl, (blk_cell BK137.out 2).trans rfl, (blk_cell BK136.out 0).trans rfl, (blk_cell BK136.out 1).trans rfl⟩ (fun hHeld => ?_)
                generalize w27.drew = w28 at HO_6 BK127 BK129 BK136 BK137 HB hHeld ⊢
                refine pure_ (i := 0) (N := some 31) (v := ?_) (a' := ?_) #[true, false, false, false, false, false, false] rfl rfl (by kernel_rfl) (fun _ _ _ h => h) (Or.inl ⟨by rfl, ?_⟩) ?_ ?_
                rotate_left
                · intro w'
                  go_simp
                  with_reducible rfl
                rotate_left
                · simp only [Act.put, List.setIfInBounds_toArray, List.set_cons_zero, List.set_cons_succ, i64_w, i32_w]
                  rfl
                refine take_ (i := 1) (N := some 32) (v := ?_) (a' := ?_) #[true, true, false, false, false, false, false] rfl rfl (by kernel_rfl) (fun _ _ _ h => h) (Or.inl ⟨by rfl, ?_⟩) hHeld ?_ ?_
                rotate_left
                · rintro w' ⟨s0, s1, s2, s3, s4⟩
                  go_simp
                  with_reducible rfl
                rotate_left
                · simp only [Act.put, List.setIfInBounds_toArray, List.set_cons_zero, List.set_cons_succ, i64_w, i32_w]
                  rfl
                refine take_ (i := 4) (N := some 35) (v := ?_) (a' := ?_) #[true, true, false, false, true, false, false] rfl rfl (by kernel_rfl) (fun _ _ _ h => h) (Or.inl ⟨by rfl, ?_⟩) hHeld ?_ ?_
                rotate_left
                · rintro w' ⟨s0, s1, s2, s3, s4⟩
                  go_simp
                  with_reducible rfl
                rotate_left
                · simp only [Act.put, List.setIfInBounds_toArray, List.set_cons_zero, List.set_cons_succ, i64_w, i32_w]
                  rfl
                refine one_ (i := 2) (N := some 33) #[true, true, true, false, true, false, false] rfl rfl (by kernel_rfl) (by decide) (fun K hK => ?_)
                refine value_ (w1 := ?_) (v := ?_) (by rfl) rfl ?_ ?_
                rotate_left 2
                · go_simp
                  constructor
                  · rfl
                  · rfl
                refine hK.out _ _ ⟨(blk_cell (blk_alloc BK137.out _) 0).trans rfl, (blk_cell (blk_alloc BK137.out _) 1).trans rfl, (blk_cell (blk_alloc BK137.out _) 2).trans rfl, (blk_cell (blk_alloc BK136.out _) 0).trans rfl, (blk_cell (blk_alloc BK136.out _) 1).trans rfl⟩ (fun hHeld => ?_)
                clear hK K
                refine norm_ (a' := ?_) ?_ ?_
                rotate_left
                · show Act.put _ (some 33) _ = _
                  simp only [Act.put, List.setIfInBounds_toArray, List.set_cons_zero, List.set_cons_succ, i64_w, i32_w]
                  rfl
                refine one_ (i := 3) (N := some 34) #[true, true, true, true, true, false, false] rfl rfl (by kernel_rfl) (by decide) (fun K hK => ?_)
                refine Kd.R_append_step k46 (w0 := w) w.heap.size (by rfl) (.tmp 31) (.tmp 33) 38 46 (.agg #[(.int .i64 0), (.int .i64 0), (.string ⟨#[]⟩)]) 32 rfl Tryd.underlying38 info46 rfl (by decide) (by omega) u6 x6_1 (⟨t132, t133, t134⟩ : S46) [.int .i64 t132, .int .i64 t133, .string t134] (fun k_ => k_ ≠ gb137) (fun _ => False) rfl rfl ?aP (fun _ hk => hk.elim) ?aF ?aO ?aB ?aS ?aL ?_
                (case aP => exact k46_mkM _ _ _ (⟨t132, t133, t134⟩ : S46))
                (case aB => exact (by repeat (first | (with_reducible first | exact HB.out | apply below_alloc | apply pw_below_drewN | apply below_drew1 | refine below_set ?_ GE127.out | refine below_set ?_ GE129.out | refine below_set ?_ GE136.out | refine below_set ?_ GE137.out) | exact HB.out)))
                (case aF => exact (fun k_ hk => Kd.freshB (g := gb137) (o := .cells #[.int .i64 t132, .int .i64 t133, .string t134] 46 (0, 0)) (by (with_reducible repeat (first | refine blk_drewN ?_ _ | refine blk_drew ?_ | refine blk_alloc ?_ _)); exact BK137.out) k_ hk))
                (case aO => exact (by (with_reducible repeat (first | apply Kd.R_alloc | apply Kd.R_drewN | apply Kd.R_drew)); exact HO_6.out))
                (case aS => exact (below_size (by repeat (first | (with_reducible first | exact HB.out | apply below_alloc | apply pw_below_drewN | apply below_drew1 | refine below_set ?_ GE127.out | refine below_set ?_ GE129.out | refine below_set ?_ GE136.out | refine below_set ?_ GE137.out) | exact HB.out))))
                (case aL => have := LMc12.out; omega)
                intro v139 w29 ho hb hg hat
                rw [← Ny138.out] at ho
                have n0_ := Aside0.mk (blk_grown (g := gb127) (o := .cells #[.int .i64 x128000_1, .int .i64 x128001_1] 64 (0, 0)) (by (with_reducible repeat (first | refine blk_drewN ?_ _ | refine blk_drew ?_ | refine blk_alloc ?_ _)); exact BK127.out) hg (Kd.R_ne HO_6.out BK127.out (by decide)))
                have n1_ := Aside0.mk (blk_grown (g := gb129) (o := .cells #[.int .i64 ((rd_T44 l1 x17_1).f0), .int .i64 ((rd_T44 l1 x17_1).f1)] 44 (0, 0)) (by (with_reducible repeat (first | refine blk_drewN ?_ _ | refine blk_drew ?_ | refine blk_alloc ?_ _)); exact BK129.out) hg (Kd.R_ne HO_6.out BK129.out (by decide)))
                have n2_ := Aside0.mk (blk_grown (g := gb136) (o := .cells #[.int .i64 t130, .int .i64 t131] 64 (0, 0)) (by (with_reducible repeat (first | refine blk_drewN ?_ _ | refine blk_drew ?_ | refine blk_alloc ?_ _)); exact BK136.out) hg (Kd.R_ne HO_6.out BK136.out (by decide)))
                have n3_ := Aside0.mk (blk_grown (g := gb137) (o := .cells #[.int .i64 t132, .int .i64 t133, .string t134] 46 (0, 0)) (by (with_reducible repeat (first | refine blk_drewN ?_ _ | refine blk_drew ?_ | refine blk_alloc ?_ _)); exact BK137.out) hg (Kd.R_away HO_6.out (fun _ hk => hk)))
                have n4_ := Aside0.mk (hb)
                have n5_ := Aside0.mk (ho)
                clear BK127
                clear BK129
                clear BK136
                clear BK137
                clear HB
                clear HO_6
                have BK127 := n0_
                have BK129 := n1_
                have BK136 := n2_
                have BK137 := n3_
                have HB := n4_
                have HO140 := n5_
                clear n0_ n1_ n2_ n3_ n4_ n5_
                clear ho hb hg hat
                refine hK.out _ _ ⟨(blk_cell BK137.out 0).trans rfl, (blk_cell BK137.out 1).trans rfl, (blk_cell BK137.out 2).trans rfl, (blk_cell BK136.out 0).trans rfl, (blk_cell BK136.out 1).trans rfl⟩ (fun hHeld => ?_)
                clear hK K
                refine norm_ (a' := ?_) ?_ ?_
                rotate_left
                · show Act.put _ (some 34) _ = _
                  simp only [Act.put, List.setIfInBounds_toArray, List.set_cons_zero, List.set_cons_succ, i64_w, i32_w]
                  rfl
                refine pure_ (i := 5) (N := some 6) (v := ?_) (a' := ?_) #[true, true, true, true, true, true, false] rfl rfl (by kernel_rfl) (fun _ _ _ h => h) (Or.inl ⟨by rfl, ?_⟩) ?_ ?_
                rotate_left
                · intro w'
                  go_simp
                  with_reducible rfl
                rotate_left
                · simp only [Act.put, List.setIfInBounds_toArray, List.set_cons_zero, List.set_cons_succ, i64_w, i32_w]
                  rfl
                refine one_ (i := 6) (N := none) #[true, true, true, true, true, true, true] rfl rfl (by kernel_rfl) (by decide) (fun K hK => ?_)
                have hs30 : w29.cell? ⟨gb127, 0, none⟩ = some (.int .i64 x128000_1) := (blk_cell BK127.out 0).trans rfl
                have hfs30 := blk_frozen BK127.out 0
                have hns30_1 := NB129_127.out
                have hns30_2 := NB136_127.out
                have hns30_3 := NB137_127.out
                have hms30_1 := NB127_129.out
                have hms30_2 := NB127_136.out
                have hms30_3 := NB127_137.out
                have hs31 : w29.cell? ⟨gb127, 1, none⟩ = some (.int .i64 x128001_1) := (blk_cell BK127.out 1).trans rfl
                have hfs31 := blk_frozen BK127.out 1
                have hns31_1 := NB129_127.out
                have hns31_2 := NB136_127.out
                have hns31_3 := NB137_127.out
                have hms31_1 := NB127_129.out
                have hms31_2 := NB127_136.out
                have hms31_3 := NB127_137.out
                refine skip_ (w1 := ?_) (by rfl) rfl ?_ ?_
                rotate_left
                · go_simp
                  rfl
                refine hK.out _ _ ⟨((cell_far (p := ⟨gb127, _, none⟩) NB137_127.out _).trans (((cell_far (p := ⟨gb127, _, none⟩) NB137_127.out _).trans (hHeld.1)))), ((cell_far (p := ⟨gb127, _, none⟩) NB137_127.out _).trans (((cell_far (p := ⟨gb127, _, none⟩) NB137_127.out _).trans (hHeld.2.1)))), ((cell_far (p := ⟨gb127, _, none⟩) NB137_127.out _).trans (((cell_far (p := ⟨gb127, _, none⟩) NB137_127.out _).trans (hHeld.2.2.1)))), ((cell_far (p := ⟨gb127, _, none⟩) NB136_127.out _).trans (((cell_far (p := ⟨gb127, _, none⟩) NB136_127.out _).trans (hHeld.2.2.2.1)))), ((cell_far (p := ⟨gb127, _, none⟩) NB136_127.out _).trans (((cell_far (p := ⟨gb127, _, none⟩) NB136_127.out _).trans (hHeld.2.2.2.2))))⟩ (fun hHeld => ?_)
                clear hK K
                refine done_ (by kernel_rfl) ?_
                try go_wp2
                go_roundg k1
                case measure => have := HK1.out; omega
                case rel => exact ⟨(y138), (wrap64 (x17_1 + 1)), (t130), (t131), (by first | rfl | (simp; done) | (simp [*]; done)), H', ⟨by have := HK1.out; omega⟩, ⟨by (with_reducible repeat (first | apply Kd.R_alloc | apply Kd.R_drewN | apply Kd.R_drew)); exact Kd.R_mono (Kd.R_far (p := ⟨gb127, 1, none⟩) (Kd.R_far (p := ⟨gb127, 0, none⟩) (Kd.R_types HO140.out BK127.out (by decide)) (fun _ hk => hk.2) (.int .i64 t130)) (fun _ hk => hk.2) (.int .i64 t131)) (fun _ hk => trivial)⟩, ⟨by (with_reducible repeat (first | refine blk_drewN ?_ _ | refine blk_drew ?_ | refine blk_alloc ?_ _)); refine blk_put (cs := #[.int .i64 t130, .int .i64 x128001_1]) ?_ 1 _ rfl; (with_reducible repeat (first | refine blk_drewN ?_ _ | refine blk_drew ?_ | refine blk_alloc ?_ _)); refine blk_put (cs := #[.int .i64 x128000_1, .int .i64 x128001_1]) ?_ 0 _ rfl; (with_reducible repeat (first | refine blk_drewN ?_ _ | refine blk_drew ?_ | refine blk_alloc ?_ _)); exact BK127.out⟩, ⟨by repeat (first | (with_reducible first | exact HB.out | apply below_alloc | apply pw_below_drewN | apply below_drew1 | refine below_set ?_ GE127.out | refine below_set ?_ GE129.out | refine below_set ?_ GE136.out | refine below_set ?_ GE137.out) | exact HB.out)⟩⟩
              · rw [if_neg c12] at H
                exact absurd H (by simp)
            · replace c11 := Bool.eq_false_iff.mpr c11
              subst c11
              have H1 : (some (([] : List (S46)), false)) = some (r1, r2) := by rw [if_neg (show ¬ (false = true) by decide)] at H; exact H
              clear H
              have H := H1
              clear H1
              simp only [Option.some.injEq, Prod.mk.injEq] at H
              obtain ⟨rfl, rfl⟩ := H
              have p128 : 0 ≤ (x17_1 : Int) := of_decide_eq_true (by first | (with_reducible assumption) | assumption)
              have q128 : x17_1 < (l1.length : Int) := of_decide_eq_true (by first | (with_reducible assumption) | assumption)
              obtain ⟨ad128, e128, hx128_0, hx128_1⟩ := at_T44 HR1.out x17_1 p128 q128
              cases e128
              replace hx128_0 := (HB.out.cell (World.block_lt_of_cell? w _ hx128_0)).trans hx128_0
              replace hx128_1 := (HB.out.cell (World.block_lt_of_cell? w _ hx128_1)).trans hx128_1
              replace p128 := eq_true p128
              replace q128 := eq_true q128
              go_wp2_with (first | ((with_reducible refine gate_dst (N := 9) rfl ?_); refine box_event ?hg (N := 9) ?hd (cs := #[.int .i64 0, .int .i64 0]) (t := 44) ?hr ?_; (case hd => rfl); (case hg => rfl); (case hr => first | (go_simp; done) | (go_simp; rfl)); intro gb129 hg w32 hbox hb; have n0_ := Aside0.mk (Kd.R_below (by (with_reducible repeat (first | apply Kd.R_alloc | apply Kd.R_drewN | apply Kd.R_drew)); exact HO_6.out) hb); have n1_ := Aside0.mk (blk_below (g := gb127) (o := .cells #[.int .i64 x128000_1, .int .i64 x128001_1] 64 (0, 0)) (by (with_reducible repeat (first | refine blk_drewN ?_ _ | refine blk_drew ?_ | refine blk_alloc ?_ _)); exact BK127.out) hb); have n2_ := Aside0.mk (below_step (by repeat (first | (with_reducible first | exact HB.out | apply below_alloc | apply pw_below_drewN | apply below_drew1 | refine below_set ?_ GE127.out) | exact HB.out)) hb); have n3_ := Aside0.mk (hbox); have n4_ := Aside0.mk ((by rw [hg]; exact (below_size (by repeat (first | (with_reducible first | exact HB.out | apply below_alloc | apply pw_below_drewN | apply below_drew1 | refine below_set ?_ GE127.out) | exact HB.out))) : w.heap.size ≤ gb129)); have n5_ := Aside0.mk ((by rw [hg]; exact (below_size (by repeat (first | (with_reducible first | exact HB.out | apply below_alloc | apply pw_below_drewN | apply below_drew1 | refine below_set ?_ GE127.out) | exact HB.out))) : w.heap.size ≤ gb129)); have n6_ := Aside0.mk ((by rw [hg]; exact Nat.ne_of_lt (blk_lt (g := gb127) (o := .cells #[.int .i64 x128000_1, .int .i64 x128001_1] 64 (0, 0)) (by (with_reducible repeat (first | refine blk_drewN ?_ _ | refine blk_drew ?_ | refine blk_alloc ?_ _)); exact BK127.out)) : gb127 ≠ gb129)); have n7_ := Aside0.mk ((by rw [hg]; exact Nat.ne_of_gt (blk_lt (g := gb127) (o := .cells #[.int .i64 x128000_1, .int .i64 x128001_1] 64 (0, 0)) (by (with_reducible repeat (first | refine blk_drewN ?_ _ | refine blk_drew ?_ | refine blk_alloc ?_ _)); exact BK127.out)) : gb129 ≠ gb127)); clear HO_6; clear BK127; clear HB; have HO_6 := n0_; have BK127 := n1_; have HB := n2_; have BK129 := n3_; have GW129 := n4_; have GE129 := n5_; have NB127_129 := n6_; have NB129_127 := n7_; clear n0_ n1_ n2_ n3_ n4_ n5_ n6_ n7_; clear hb hbox hg; have hnb33 := NB129_127.out; have hnc33 := NB127_129.out; have hcz34_0 : w32.cell? ⟨gb129, 0, none⟩ = some (.int .i64 0) := (blk_cell BK129.out 0).trans rfl; have hcz34_1 : w32.cell? ⟨gb129, 1, none⟩ = some (.int .i64 0) := (blk_cell BK129.out 1).trans rfl; have hfz34_0 := blk_frozen BK129.out 0; have hfz34_1 := blk_frozen BK129.out 1; have hcz35_0 : w32.cell? ⟨gb127, 0, none⟩ = some (.int .i64 x128000_1) := (blk_cell BK127.out 0).trans rfl; have hcz35_1 : w32.cell? ⟨gb127, 1, none⟩ = some (.int .i64 x128001_1) := (blk_cell BK127.out 1).trans rfl; have hfz35_0 := blk_frozen BK127.out 0; have hfz35_1 := blk_frozen BK127.out 1) | ((with_reducible refine gate_callee (f := 28) rfl ?_); refine goesL_ (some 25) rfl rfl Tryd.func28 (by kernel_rfl) rfl #[.slice A0 l0.length c0, .agg #[.int .i64 x128000_1, .int .i64 x128001_1], .agg #[.int .i64 ((rd_T44 l1 x17_1).f0), .int .i64 ((rd_T44 l1 x17_1).f1)]] rfl (by (try simp only [List.map_toArray, List.map_cons, List.map_nil]); first | done | rfl | (simp only [List.length_drop, List.length_take]; rfl)) ?_; (with_reducible refine (spec_Next.calls k1 _ _ l0 x128000_1 x128001_1 ((rd_T44 l1 x17_1).f0) ((rd_T44 l1 x17_1).f1) t130 t131 t132 t133 t134 false _ ?side1 ?side2 A10.out).mono ?_); (case side1 => exact Kd.C_below HR0.out (by repeat (first | (with_reducible first | exact HB.out | apply below_alloc | apply pw_below_drewN | apply below_drew1 | refine below_set ?_ GE127.out | refine below_set ?_ GE129.out) | exact HB.out))); (case side2 => exact HC0.out); rintro e w36 ⟨rfl, hb⟩; refine ⟨_, rfl, ?_⟩; have n0_ := Aside0.mk (Kd.R_below (by (with_reducible repeat (first | apply Kd.R_alloc | apply Kd.R_drewN | apply Kd.R_drew)); exact (Kd.R_mono (Kd.R_far (p := ⟨gb129, 1, none⟩) (Kd.R_far (p := ⟨gb129, 0, none⟩) (Kd.R_types HO_6.out BK129.out (by decide)) (fun _ hk => hk.2) (.int .i64 ((rd_T44 l1 x17_1).f0))) (fun _ hk => hk.2) (.int .i64 ((rd_T44 l1 x17_1).f1))) (fun _ h_ => h_.1))) hb); have n1_ := Aside0.mk (blk_below (g := gb127) (o := .cells #[.int .i64 x128000_1, .int .i64 x128001_1] 64 (0, 0)) (by (with_reducible repeat (first | refine blk_drewN ?_ _ | refine blk_drew ?_ | refine blk_alloc ?_ _)); refine blk_far ?_ NB127_129.out _; (with_reducible repeat (first | refine blk_drewN ?_ _ | refine blk_drew ?_ | refine blk_alloc ?_ _)); refine blk_far ?_ NB127_129.out _; (with_reducible repeat (first | refine blk_drewN ?_ _ | refine blk_drew ?_ | refine blk_alloc ?_ _)); exact BK127.out) hb); have n2_ := Aside0.mk (blk_below (g := gb129) (o := .cells #[.int .i64 ((rd_T44 l1 x17_1).f0), .int .i64 ((rd_T44 l1 x17_1).f1)] 44 (0, 0)) (by (with_reducible repeat (first | refine blk_drewN ?_ _ | refine blk_drew ?_ | refine blk_alloc ?_ _)); refine blk_put (cs := #[.int .i64 ((rd_T44 l1 x17_1).f0), .int .i64 0]) ?_ 1 _ rfl; (with_reducible repeat (first | refine blk_drewN ?_ _ | refine blk_drew ?_ | refine blk_alloc ?_ _)); refine blk_put (cs := #[.int .i64 0, .int .i64 0]) ?_ 0 _ rfl; (with_reducible repeat (first | refine blk_drewN ?_ _ | refine blk_drew ?_ | refine blk_alloc ?_ _)); exact BK129.out) hb); have n3_ := Aside0.mk (below_step (by repeat (first | (with_reducible first | exact HB.out | apply below_alloc | apply pw_below_drewN | apply below_drew1 | refine below_set ?_ GE127.out | refine below_set ?_ GE129.out) | exact HB.out)) hb); clear HO_6; clear BK127; clear BK129; clear HB; have HO_6 := n0_; have BK127 := n1_; have BK129 := n2_; have HB := n3_; clear n0_ n1_ n2_ n3_; (try clear hb); (try clear hb2); (try clear hk); (try clear hi)) | ((with_reducible refine gate_dst (N := 10) rfl ?_); refine box_event ?hg (N := 10) ?hd (cs := #[.int .i64 0, .int .i64 0]) (t := 64) ?hr ?_; (case hd => rfl); (case hg => rfl); (case hr => first | (go_simp; done) | (go_simp; rfl)); intro gb136 hg w37 hbox hb; have n0_ := Aside0.mk (Kd.R_below (by (with_reducible repeat (first | apply Kd.R_alloc | apply Kd.R_drewN | apply Kd.R_drew)); exact HO_6.out) hb); have n1_ := Aside0.mk (blk_below (g := gb127) (o := .cells #[.int .i64 x128000_1, .int .i64 x128001_1] 64 (0, 0)) (by (with_reducible repeat (first | refine blk_drewN ?_ _ | refine blk_drew ?_ | refine blk_alloc ?_ _)); exact BK127.out) hb); have n2_ := Aside0.mk (blk_below (g := gb129) (o := .cells #[.int .i64 ((rd_T44 l1 x17_1).f0), .int .i64 ((rd_T44 l1 x17_1).f1)] 44 (0, 0)) (by (with_reducible repeat (first | refine blk_drewN ?_ _ | refine blk_drew ?_ | refine blk_alloc ?_ _)); exact BK129.out) hb); have n3_ := Aside0.mk (below_step (by repeat (first | (with_reducible first | exact HB.out | apply below_alloc | apply pw_below_drewN | apply below_drew1 | refine below_set ?_ GE127.out | refine below_set ?_ GE129.out) | exact HB.out)) hb); have n4_ := Aside0.mk (hbox); have n5_ := Aside0.mk ((by rw [hg]; exact (below_size (by repeat (first | (with_reducible first | exact HB.out | apply below_alloc | apply pw_below_drewN | apply below_drew1 | refine below_set ?_ GE127.out | refine below_set ?_ GE129.out) | exact HB.out))) : w.heap.size ≤ gb136)); have n6_ := Aside0.mk ((by rw [hg]; exact (below_size (by repeat (first | (with_reducible first | exact HB.out | apply below_alloc | apply pw_below_drewN | apply below_drew1 | refine below_set ?_ GE127.out | refine below_set ?_ GE129.out) | exact HB.out))) : w.heap.size ≤ gb136)); have n7_ := Aside0.mk ((by rw [hg]; exact Nat.ne_of_lt (blk_lt (g := gb127) (o := .cells #[.int .i64 x128000_1, .int .i64 x128001_1] 64 (0, 0)) (by (with_reducible repeat (first | refine blk_drewN ?_ _ | refine blk_drew ?_ | refine blk_alloc ?_ _)); exact BK127.out)) : gb127 ≠ gb136)); have n8_ := Aside0.mk ((by rw [hg]; exact Nat.ne_of_gt (blk_lt (g := gb127) (o := .cells #[.int .i64 x128000_1, .int .i64 x128001_1] 64 (0, 0)) (by (with_reducible repeat (first | refine blk_drewN ?_ _ | refine blk_drew ?_ | refine blk_alloc ?_ _)); exact BK127.out)) : gb136 ≠ gb127)); have n9_ := Aside0.mk ((by rw [hg]; exact Nat.ne_of_lt (blk_lt (g := gb129) (o := .cells #[.int .i64 ((rd_T44 l1 x17_1).f0), .int .i64 ((rd_T44 l1 x17_1).f1)] 44 (0, 0)) (by (with_reducible repeat (first | refine blk_drewN ?_ _ | refine blk_drew ?_ | refine blk_alloc ?_ _)); exact BK129.out)) : gb129 ≠ gb136)); have n10_ := Aside0.mk ((by rw [hg]; exact Nat.ne_of_gt (blk_lt (g := gb129) (o := .cells #[.int .i64 ((rd_T44 l1 x17_1).f0), .int .i64 ((rd_T44 l1 x17_1).f1)] 44 (0, 0)) (by (with_reducible repeat (first | refine blk_drewN ?_ _ | refine blk_drew ?_ | refine blk_alloc ?_ _)); exact BK129.out)) : gb136 ≠ gb129)); clear HO_6; clear BK127; clear BK129; clear HB; have HO_6 := n0_; have BK127 := n1_; have BK129 := n2_; have HB := n3_; have BK136 := n4_; have GW136 := n5_; have GE136 := n6_; have NB127_136 := n7_; have NB136_127 := n8_; have NB129_136 := n9_; have NB136_129 := n10_; clear n0_ n1_ n2_ n3_ n4_ n5_ n6_ n7_ n8_ n9_ n10_; clear hb hbox hg) | ((with_reducible refine gate_dst (N := 11) rfl ?_); refine box_event ?hg (N := 11) ?hd (cs := #[.int .i64 0, .int .i64 0, .string (⟨#[]⟩ : ByteArray)]) (t := 46) ?hr ?_; (case hd => rfl); (case hg => rfl); (case hr => first | (go_simp; done) | (go_simp; rfl)); intro gb137 hg w38 hbox hb; have n0_ := Aside0.mk (Kd.R_below (Kd.R_elderB (by (with_reducible repeat (first | apply Kd.R_alloc | apply Kd.R_drewN | apply Kd.R_drew)); exact HO_6.out) gb137 (Nat.le_of_eq hg.symm)) hb); have n1_ := Aside0.mk (blk_below (g := gb127) (o := .cells #[.int .i64 x128000_1, .int .i64 x128001_1] 64 (0, 0)) (by (with_reducible repeat (first | refine blk_drewN ?_ _ | refine blk_drew ?_ | refine blk_alloc ?_ _)); exact BK127.out) hb); have n2_ := Aside0.mk (blk_below (g := gb129) (o := .cells #[.int .i64 ((rd_T44 l1 x17_1).f0), .int .i64 ((rd_T44 l1 x17_1).f1)] 44 (0, 0)) (by (with_reducible repeat (first | refine blk_drewN ?_ _ | refine blk_drew ?_ | refine blk_alloc ?_ _)); exact BK129.out) hb); have n3_ := Aside0.mk (blk_below (g := gb136) (o := .cells #[.int .i64 0, .int .i64 0] 64 (0, 0)) (by (with_reducible repeat (first | refine blk_drewN ?_ _ | refine blk_drew ?_ | refine blk_alloc ?_ _)); exact BK136.out) hb); have n4_ := Aside0.mk (below_step (by repeat (first | (with_reducible first | exact HB.out | apply below_alloc | apply pw_below_drewN | apply below_drew1 | refine below_set ?_ GE127.out | refine below_set ?_ GE129.out | refine below_set ?_ GE136.out) | exact HB.out)) hb); have n5_ := Aside0.mk (hbox); have n6_ := Aside0.mk ((by rw [hg]; exact (below_size (by repeat (first | (with_reducible first | exact HB.out | apply below_alloc | apply pw_below_drewN | apply below_drew1 | refine below_set ?_ GE127.out | refine below_set ?_ GE129.out | refine below_set ?_ GE136.out) | exact HB.out))) : w.heap.size ≤ gb137)); have n7_ := Aside0.mk ((by rw [hg]; exact (below_size (by repeat (first | (with_reducible first | exact HB.out | apply below_alloc | apply pw_below_drewN | apply below_drew1 | refine below_set ?_ GE127.out | refine below_set ?_ GE129.out | refine below_set ?_ GE136.out) | exact HB.out))) : w.heap.size ≤ gb137)); have n8_ := Aside0.mk ((by rw [hg]; exact Nat.ne_of_lt (blk_lt (g := gb127) (o := .cells #[.int .i64 x128000_1, .int .i64 x128001_1] 64 (0, 0)) (by (with_reducible repeat (first | refine blk_drewN ?_ _ | refine blk_drew ?_ | refine blk_alloc ?_ _)); exact BK127.out)) : gb127 ≠ gb137)); have n9_ := Aside0.mk ((by rw [hg]; exact Nat.ne_of_gt (blk_lt (g := gb127) (o := .cells #[.int .i64 x128000_1, .int .i64 x128001_1] 64 (0, 0)) (by (with_reducible repeat (first | refine blk_drewN ?_ _ | refine blk_drew ?_ | refine blk_alloc ?_ _)); exact BK127.out)) : gb137 ≠ gb127)); have n10_ := Aside0.mk ((by rw [hg]; exact Nat.ne_of_lt (blk_lt (g := gb129) (o := .cells #[.int .i64 ((rd_T44 l1 x17_1).f0), .int .i64 ((rd_T44 l1 x17_1).f1)] 44 (0, 0)) (by (with_reducible repeat (first | refine blk_drewN ?_ _ | refine blk_drew ?_ | refine blk_alloc ?_ _)); exact BK129.out)) : gb129 ≠ gb137)); have n11_ := Aside0.mk ((by rw [hg]; exact Nat.ne_of_gt (blk_lt (g := gb129) (o := .cells #[.int .i64 ((rd_T44 l1 x17_1).f0), .int .i64 ((rd_T44 l1 x17_1).f1)] 44 (0, 0)) (by (with_reducible repeat (first | refine blk_drewN ?_ _ | refine blk_drew ?_ | refine blk_alloc ?_ _)); exact BK129.out)) : gb137 ≠ gb129)); have n12_ := Aside0.mk ((by rw [hg]; exact Nat.ne_of_lt (blk_lt (g := gb136) (o := .cells #[.int .i64 0, .int .i64 0] 64 (0, 0)) (by (with_reducible repeat (first | refine blk_drewN ?_ _ | refine blk_drew ?_ | refine blk_alloc ?_ _)); exact BK136.out)) : gb136 ≠ gb137)); have n13_ := Aside0.mk ((by rw [hg]; exact Nat.ne_of_gt (blk_lt (g := gb136) (o := .cells #[.int .i64 0, .int .i64 0] 64 (0, 0)) (by (with_reducible repeat (first | refine blk_drewN ?_ _ | refine blk_drew ?_ | refine blk_alloc ?_ _)); exact BK136.out)) : gb137 ≠ gb136)); clear HO_6; clear BK127; clear BK129; clear BK136; clear HB; have HO_6 := n0_; have BK127 := n1_; have BK129 := n2_; have BK136 := n3_; have HB := n4_; have BK137 := n5_; have GW137 := n6_; have GE137 := n7_; have NB127_137 := n8_; have NB137_127 := n9_; have NB129_137 := n10_; have NB137_129 := n11_; have NB136_137 := n12_; have NB137_136 := n13_; clear n0_ n1_ n2_ n3_ n4_ n5_ n6_ n7_ n8_ n9_ n10_ n11_ n12_ n13_; clear hb hbox hg; have hnb39 := NB136_127.out; have hnc39 := NB127_136.out; have hnb40 := NB136_129.out; have hnc40 := NB129_136.out; have hnb41 := NB136_137.out; have hnc41 := NB137_136.out; have hcz42_0 : w38.cell? ⟨gb136, 0, none⟩ = some (.int .i64 0) := (blk_cell BK136.out 0).trans rfl; have hcz42_1 : w38.cell? ⟨gb136, 1, none⟩ = some (.int .i64 0) := (blk_cell BK136.out 1).trans rfl; have hfz42_0 := blk_frozen BK136.out 0; have hfz42_1 := blk_frozen BK136.out 1; have hnb43 := NB137_127.out; have hnc43 := NB127_137.out; have hnb44 := NB137_129.out; have hnc44 := NB129_137.out; have hcz45_0 : w38.cell? ⟨gb137, 0, none⟩ = some (.int .i64 0) := (blk_cell BK137.out 0).trans rfl; have hcz45_1 : w38.cell? ⟨gb137, 1, none⟩ = some (.int .i64 0) := (blk_cell BK137.out 1).trans rfl; have hcz45_2 : w38.cell? ⟨gb137, 2, none⟩ = some (.string (⟨#[]⟩ : ByteArray)) := (blk_cell BK137.out 2).trans rfl; have hfz45_0 := blk_frozen BK137.out 0; have hfz45_1 := blk_frozen BK137.out 1; have hfz45_2 := blk_frozen BK137.out 2))
              go_ret2
              exact ⟨_, by first | rfl | (simp [errW_none, errW_some] <;> rfl) | (simp [*, errW_none, errW_some] <;> rfl), by first | exact Kd.R_nil _ _ _ _ _ | exact Kd.N_nil _ _ _ _ _ | exact Kd.V_nil _ _ _ _ _ | exact Kd.Q_nil _ _ _ _ _ | exact Kd.S_nil _ _ _ _ _, by repeat (first | (with_reducible first | exact HB.out | apply below_alloc | apply pw_below_drewN | apply below_drew1 | refine below_set ?_ GE127.out | refine below_set ?_ GE129.out | refine below_set ?_ GE136.out | refine below_set ?_ GE137.out) | exact HB.out)⟩
          · rw [if_neg c9] at H
            exact absurd H (by simp)
        · rw [if_neg c8] at H
          exact absurd H (by simp)
      · rw [if_neg c7] at H
        have c7b0 : decide (x17_1 < (l1.length : Int)) = false := decide_eq_false c7
        clear c7
        simp only [Option.some.injEq, Prod.mk.injEq] at H
        obtain ⟨rfl, rfl⟩ := H
        go_wp2
        go_ret2
        exact ⟨_, by first | rfl | (simp [errW_none, errW_some] <;> rfl) | (simp [*, errW_none, errW_some] <;> rfl), by (with_reducible repeat (first | apply Kd.R_alloc | apply Kd.R_drewN | apply Kd.R_drew)); exact HO_6.out, by repeat (first | (with_reducible first | exact HB.out | apply below_alloc | apply pw_below_drewN | apply below_drew1 | refine below_set ?_ GE127.out) | exact HB.out)⟩

/-! ### laws_sameAnswers: function 16 -/
def laws_sameAnswers.l0 : Nat → List (S46) → List (S46) → Int → Int → Option (Bool)
  | 0, _, _, _, _ => none
  | k + 1, x1, x12, x13, x14 => if x14 < x13 then (if 0 ≤ x14 then (if x14 < (x12.length : Int) then (if x14 < (x1.length : Int) then (if (!(((rd_T46 x12 x14).f0) == ((rd_T46 x1 x14).f0)) || (!(((rd_T46 x12 x14).f1) == ((rd_T46 x1 x14).f1)) || (!((((rd_T46 x12 x14).f2).toList) == (((rd_T46 x1 x14).f2).toList))))) = true then (some false) else (laws_sameAnswers.l0 k x1 x12 x13 (wrap64 (x14 + 1)))) else (none)) else (none)) else (none)) else (some true)
def laws_sameAnswers.f (k : Nat) (l0 : List (S46)) (l1 : List (S46)) : Option (Bool) := if (l0.length : Int) = (l1.length : Int) then (laws_sameAnswers.l0 k l1 l0 (l0.length : Int) 0) else (some false)
theorem laws_sameAnswers.mono_l : ∀ k, (∀ y0 y1 y2 y3, LeO (laws_sameAnswers.l0 k y0 y1 y2 y3) (laws_sameAnswers.l0 (k + 1) y0 y1 y2 y3))
  | 0 => fun _ _ _ _ r h => by simp [laws_sameAnswers.l0] at h
  | k + 1 => by
    have ih0 := laws_sameAnswers.mono_l k
    · intro y0 y1 y2 y3
      unfold laws_sameAnswers.l0
      repeat' first
      | (with_reducible exact ih0 _ _ _ _)
      | (with_reducible exact LeO.refl _)
      | (with_reducible exact LeO.none _)
      | (with_reducible refine LeO.ite ?_ ?_)
      | (with_reducible refine LeO.bind ?_ (fun _ => ?_))
      | exact ih0 _ _ _ _
      | exact LeO.none _
      | refine LeO.ite ?_ ?_
      | refine LeO.bind ?_ (fun _ => ?_)
theorem laws_sameAnswers.mono : ∀ a0 a1 k, LeO (laws_sameAnswers.f k a0 a1) (laws_sameAnswers.f (k + 1) a0 a1) := by
  intro a0 a1 k
  have ih0 := laws_sameAnswers.mono_l k
  unfold laws_sameAnswers.f
  repeat' first
      | (with_reducible exact ih0 _ _ _ _)
      | (with_reducible exact LeO.refl _)
      | (with_reducible exact LeO.none _)
      | (with_reducible refine LeO.ite ?_ ?_)
      | (with_reducible refine LeO.bind ?_ (fun _ => ?_))
      | exact ih0 _ _ _ _
      | exact LeO.none _
      | refine LeO.ite ?_ ?_
      | refine LeO.bind ?_ (fun _ => ?_)
set_option maxHeartbeats 8000000 in
set_option maxRecDepth 100000 in
theorem laws_sameAnswers.calls (k : Nat) (A0 : Option Addr) (c0 : Nat) (l0 : List (S46)) (A1 : Option Addr) (c1 : Nat) (l1 : List (S46)) (r : Bool) (w : World) (hr0 : Kd.C k46 w A0 l0.length l0) (hc0 : l0.length ≤ c0) (hr1 : Kd.C k46 w A1 l1.length l1) (hc1 : l1.length ≤ c1) (h : laws_sameAnswers.f k l0 l1 = some r) :
    Calls Tryd.prog 16 #[.slice A0 l0.length c0, .slice A1 l1.length c1] w fun e w' => e = .returned (.bool r) ∧ Below w.heap.size w w' := by
  have hu46 := Tryd.underlying46
  have HR0 := Aside0.mk hr0
  have HC0 := Aside0.mk hc0
  clear hr0 hc0
  have HR1 := Aside0.mk hr1
  have HC1 := Aside0.mk hc1
  clear hr1 hc1
  have HB := Aside0.mk (Below.refl w.heap.size w)
  have H : (if (l0.length : Int) = (l1.length : Int) then (laws_sameAnswers.l0 k l1 l0 (l0.length : Int) 0) else (some false)) = some r := h
  clear h
  by_cases c3 : (l0.length : Int) = (l1.length : Int)
  · rw [if_pos c3] at H
    have c3b0 : ((l0.length : Int) == (l1.length : Int)) = true := beq_iff_eq.mpr c3
    have c3b1 : ((l0.length : Int) != (l1.length : Int)) = false := bne_eq_false_iff_eq.mpr c3
    have c3b2 : (l0.length == l1.length) = true := by first | simpa using c3 | (simp at c3 ⊢; omega)
    clear c3
    have H' := Aside0.mk H
    clear H
    go_enter Tryd.func16, Tryd.ntmps16
    go_wp2
    repeat (go_quiet (fail); try go_wp2)
    go_loopg [14] k (fun kq v14 w' => ∃ (x14_1 : Int), v14 = .int .i64 x14_1 ∧ Aside0 (laws_sameAnswers.l0 kq l1 l0 (l0.length : Int) x14_1 = some r) ∧ Aside0 (kq ≤ k) ∧ Aside0 (Below w.heap.size w w'))
    case atStart => exact ⟨(0), (by first | rfl | (simp; done) | (simp [*]; done)), H', ⟨Nat.le_refl _⟩, ⟨by repeat (first | (with_reducible first | exact HB.out | apply below_alloc | apply pw_below_drewN | apply below_drew1) | exact HB.out)⟩⟩
    case round =>
      clear H'
      try clear c1
      try clear p2
      try clear c3
      try clear c3b0
      try clear c3b1
      try clear c3b2
      obtain ⟨x14_1, rfl, HA, HK1, HB⟩ := hrel
      cases gk with
      | zero => exact absurd HA.out (by simp [laws_sameAnswers.l0])
      | succ k1 =>
        have H := HA.out
        clear HA
        simp only [laws_sameAnswers.l0] at H
        by_cases c4 : x14_1 < (l0.length : Int)
        · rw [if_pos c4] at H
          have c4b0 : decide (x14_1 < (l0.length : Int)) = true := decide_eq_true c4
          clear c4
          by_cases c5 : 0 ≤ x14_1
          · rw [if_pos c5] at H
            have c5b0 : decide (0 ≤ x14_1) = true := decide_eq_true c5
            clear c5
            by_cases c6 : x14_1 < (l0.length : Int)
            · rw [if_pos c6] at H
              have c6b0 : decide (x14_1 < (l0.length : Int)) = true := decide_eq_true c6
              clear c6
              by_cases c7 : x14_1 < (l1.length : Int)
              · rw [if_pos c7] at H
                have c7b0 : decide (x14_1 < (l1.length : Int)) = true := decide_eq_true c7
                clear c7
                by_cases c8 : (!(((rd_T46 l0 x14_1).f0) == ((rd_T46 l1 x14_1).f0)) || (!(((rd_T46 l0 x14_1).f1) == ((rd_T46 l1 x14_1).f1)) || (!((((rd_T46 l0 x14_1).f2).toList) == (((rd_T46 l1 x14_1).f2).toList))))) = true
                · rw [if_pos c8] at H
                  have c8b0 : (!(((rd_T46 l0 x14_1).f0) == ((rd_T46 l1 x14_1).f0)) || (!(((rd_T46 l0 x14_1).f1) == ((rd_T46 l1 x14_1).f1)) || (!((((rd_T46 l0 x14_1).f2).toList) == (((rd_T46 l1 x14_1).f2).toList))))) = true := c8
                  clear c8
                  obtain rfl := Option.some.inj H
                  have p141 : 0 ≤ (x14_1 : Int) := of_decide_eq_true (by first | (with_reducible assumption) | assumption)
                  have q141 : x14_1 < (l0.length : Int) := of_decide_eq_true (by first | (with_reducible assumption) | assumption)
                  obtain ⟨ad141, e141, hx141_0, hx141_1, hx141_2⟩ := at_T46 HR0.out x14_1 p141 q141
                  cases e141
                  replace hx141_0 := (HB.out.cell (World.block_lt_of_cell? w _ hx141_0)).trans hx141_0
                  replace hx141_1 := (HB.out.cell (World.block_lt_of_cell? w _ hx141_1)).trans hx141_1
                  replace hx141_2 := (HB.out.cell (World.block_lt_of_cell? w _ hx141_2)).trans hx141_2
                  replace p141 := eq_true p141
                  replace q141 := eq_true q141
                  go_wp2_with (first | ((with_reducible refine gate_dst (N := 6) rfl ?_); refine box_event ?hg (N := 6) ?hd (cs := #[.int .i64 0, .int .i64 0, .string (⟨#[]⟩ : ByteArray)]) (t := 46) ?hr ?_; (case hd => rfl); (case hg => rfl); (case hr => first | (go_simp; done) | (go_simp; rfl)); intro gb142 hg w9 hbox hb; have n0_ := Aside0.mk (below_step (by repeat (first | (with_reducible first | exact HB.out | apply below_alloc | apply pw_below_drewN | apply below_drew1) | exact HB.out)) hb); have n1_ := Aside0.mk (hbox); have n2_ := Aside0.mk ((by rw [hg]; exact (below_size (by repeat (first | (with_reducible first | exact HB.out | apply below_alloc | apply pw_below_drewN | apply below_drew1) | exact HB.out))) : w.heap.size ≤ gb142)); have n3_ := Aside0.mk ((by rw [hg]; exact (below_size (by repeat (first | (with_reducible first | exact HB.out | apply below_alloc | apply pw_below_drewN | apply below_drew1) | exact HB.out))) : w.heap.size ≤ gb142)); clear HB; have HB := n0_; have BK142 := n1_; have GW142 := n2_; have GE142 := n3_; clear n0_ n1_ n2_ n3_; clear hb hbox hg; have hcz10_0 : w9.cell? ⟨gb142, 0, none⟩ = some (.int .i64 0) := (blk_cell BK142.out 0).trans rfl; have hcz10_1 : w9.cell? ⟨gb142, 1, none⟩ = some (.int .i64 0) := (blk_cell BK142.out 1).trans rfl; have hcz10_2 : w9.cell? ⟨gb142, 2, none⟩ = some (.string (⟨#[]⟩ : ByteArray)) := (blk_cell BK142.out 2).trans rfl; have hfz10_0 := blk_frozen BK142.out 0; have hfz10_1 := blk_frozen BK142.out 1; have hfz10_2 := blk_frozen BK142.out 2; have p143 : 0 ≤ (x14_1 : Int) := of_decide_eq_true (by first | (with_reducible assumption) | assumption); have q143 : x14_1 < (l1.length : Int) := of_decide_eq_true (by first | (with_reducible assumption) | assumption); obtain ⟨ad143, e143, hx143_0, hx143_1, hx143_2⟩ := at_T46 HR1.out x14_1 p143 q143; cases e143; have hn143_0 : ad143.block ≠ gb142 := Nat.ne_of_lt (Nat.lt_of_lt_of_le (by have := World.block_lt_of_cell? _ _ hx143_0; first | rwa [add_block] at this | exact this) GW142.out); have hn143_1 : ad143.block ≠ gb142 := Nat.ne_of_lt (Nat.lt_of_lt_of_le (by have := World.block_lt_of_cell? _ _ hx143_0; first | rwa [add_block] at this | exact this) GW142.out); have hn143_2 : ad143.block ≠ gb142 := Nat.ne_of_lt (Nat.lt_of_lt_of_le (by have := World.block_lt_of_cell? _ _ hx143_0; first | rwa [add_block] at this | exact this) GW142.out); replace hx143_0 := (HB.out.cell (World.block_lt_of_cell? w _ hx143_0)).trans hx143_0; replace hx143_1 := (HB.out.cell (World.block_lt_of_cell? w _ hx143_1)).trans hx143_1; replace hx143_2 := (HB.out.cell (World.block_lt_of_cell? w _ hx143_2)).trans hx143_2; replace hx143_0 := (cell_far (p := ⟨gb142, 0, none⟩) (by first | (rw [add_block]; exact hn143_0) | (show (Addr.add _ _).block ≠ _; rw [add_block]; exact hn143_0) | exact hn143_0) (.int .i64 ((rd_T46 l0 x14_1).f0))).trans hx143_0; replace hx143_1 := (cell_far (p := ⟨gb142, 0, none⟩) (by first | (rw [add_block]; exact hn143_0) | (show (Addr.add _ _).block ≠ _; rw [add_block]; exact hn143_0) | exact hn143_0) (.int .i64 ((rd_T46 l0 x14_1).f0))).trans hx143_1; replace hx143_2 := (cell_far (p := ⟨gb142, 0, none⟩) (by first | (rw [add_block]; exact hn143_0) | (show (Addr.add _ _).block ≠ _; rw [add_block]; exact hn143_0) | exact hn143_0) (.int .i64 ((rd_T46 l0 x14_1).f0))).trans hx143_2; replace hx143_0 := (cell_far (p := ⟨gb142, 1, none⟩) (by first | (rw [add_block]; exact hn143_1) | (show (Addr.add _ _).block ≠ _; rw [add_block]; exact hn143_1) | exact hn143_1) (.int .i64 ((rd_T46 l0 x14_1).f1))).trans hx143_0; replace hx143_1 := (cell_far (p := ⟨gb142, 1, none⟩) (by first | (rw [add_block]; exact hn143_1) | (show (Addr.add _ _).block ≠ _; rw [add_block]; exact hn143_1) | exact hn143_1) (.int .i64 ((rd_T46 l0 x14_1).f1))).trans hx143_1; replace hx143_2 := (cell_far (p := ⟨gb142, 1, none⟩) (by first | (rw [add_block]; exact hn143_1) | (show (Addr.add _ _).block ≠ _; rw [add_block]; exact hn143_1) | exact hn143_1) (.int .i64 ((rd_T46 l0 x14_1).f1))).trans hx143_2; replace hx143_0 := (cell_far (p := ⟨gb142, 2, none⟩) (by first | (rw [add_block]; exact hn143_2) | (show (Addr.add _ _).block ≠ _; rw [add_block]; exact hn143_2) | exact hn143_2) (.string ((rd_T46 l0 x14_1).f2))).trans hx143_0; replace hx143_1 := (cell_far (p := ⟨gb142, 2, none⟩) (by first | (rw [add_block]; exact hn143_2) | (show (Addr.add _ _).block ≠ _; rw [add_block]; exact hn143_2) | exact hn143_2) (.string ((rd_T46 l0 x14_1).f2))).trans hx143_1; replace hx143_2 := (cell_far (p := ⟨gb142, 2, none⟩) (by first | (rw [add_block]; exact hn143_2) | (show (Addr.add _ _).block ≠ _; rw [add_block]; exact hn143_2) | exact hn143_2) (.string ((rd_T46 l0 x14_1).f2))).trans hx143_2; (try have hy143_0 := fun (n_ : Nat) => (show (((((w9.drewN n_).setCell ⟨gb142, 0, none⟩ (.int .i64 ((rd_T46 l0 x14_1).f0))).setCell ⟨gb142, 1, none⟩ (.int .i64 ((rd_T46 l0 x14_1).f1))).setCell ⟨gb142, 2, none⟩ (.string ((rd_T46 l0 x14_1).f2)))).cell? _ = some _ from hx143_0)); (try have hy143_1 := fun (n_ : Nat) => (show (((((w9.drewN n_).setCell ⟨gb142, 0, none⟩ (.int .i64 ((rd_T46 l0 x14_1).f0))).setCell ⟨gb142, 1, none⟩ (.int .i64 ((rd_T46 l0 x14_1).f1))).setCell ⟨gb142, 2, none⟩ (.string ((rd_T46 l0 x14_1).f2)))).cell? _ = some _ from hx143_1)); (try have hy143_2 := fun (n_ : Nat) => (show (((((w9.drewN n_).setCell ⟨gb142, 0, none⟩ (.int .i64 ((rd_T46 l0 x14_1).f0))).setCell ⟨gb142, 1, none⟩ (.int .i64 ((rd_T46 l0 x14_1).f1))).setCell ⟨gb142, 2, none⟩ (.string ((rd_T46 l0 x14_1).f2)))).cell? _ = some _ from hx143_2)); clear hn143_0; clear hn143_1; clear hn143_2; replace p143 := eq_true p143; replace q143 := eq_true q143))
                  repeat (go_quiet (first | ((with_reducible refine gate_dst (N := 6) rfl ?_); refine box_event ?hg (N := 6) ?hd (cs := #[.int .i64 0, .int .i64 0, .string (⟨#[]⟩ : ByteArray)]) (t := 46) ?hr ?_; (case hd => rfl); (case hg => rfl); (case hr => first | (go_simp; done) | (go_simp; rfl)); intro gb142 hg w9 hbox hb; have n0_ := Aside0.mk (below_step (by repeat (first | (with_reducible first | exact HB.out | apply below_alloc | apply pw_below_drewN | apply below_drew1) | exact HB.out)) hb); have n1_ := Aside0.mk (hbox); have n2_ := Aside0.mk ((by rw [hg]; exact (below_size (by repeat (first | (with_reducible first | exact HB.out | apply below_alloc | apply pw_below_drewN | apply below_drew1) | exact HB.out))) : w.heap.size ≤ gb142)); have n3_ := Aside0.mk ((by rw [hg]; exact (below_size (by repeat (first | (with_reducible first | exact HB.out | apply below_alloc | apply pw_below_drewN | apply below_drew1) | exact HB.out))) : w.heap.size ≤ gb142)); clear HB; have HB := n0_; have BK142 := n1_; have GW142 := n2_; have GE142 := n3_; clear n0_ n1_ n2_ n3_; clear hb hbox hg; have hcz10_0 : w9.cell? ⟨gb142, 0, none⟩ = some (.int .i64 0) := (blk_cell BK142.out 0).trans rfl; have hcz10_1 : w9.cell? ⟨gb142, 1, none⟩ = some (.int .i64 0) := (blk_cell BK142.out 1).trans rfl; have hcz10_2 : w9.cell? ⟨gb142, 2, none⟩ = some (.string (⟨#[]⟩ : ByteArray)) := (blk_cell BK142.out 2).trans rfl; have hfz10_0 := blk_frozen BK142.out 0; have hfz10_1 := blk_frozen BK142.out 1; have hfz10_2 := blk_frozen BK142.out 2; have p143 : 0 ≤ (x14_1 : Int) := of_decide_eq_true (by first | (with_reducible assumption) | assumption); have q143 : x14_1 < (l1.length : Int) := of_decide_eq_true (by first | (with_reducible assumption) | assumption); obtain ⟨ad143, e143, hx143_0, hx143_1, hx143_2⟩ := at_T46 HR1.out x14_1 p143 q143; cases e143; have hn143_0 : ad143.block ≠ gb142 := Nat.ne_of_lt (Nat.lt_of_lt_of_le (by have := World.block_lt_of_cell? _ _ hx143_0; first | rwa [add_block] at this | exact this) GW142.out); have hn143_1 : ad143.block ≠ gb142 := Nat.ne_of_lt (Nat.lt_of_lt_of_le (by have := World.block_lt_of_cell? _ _ hx143_0; first | rwa [add_block] at this | exact this) GW142.out); have hn143_2 : ad143.block ≠ gb142 := Nat.ne_of_lt (Nat.lt_of_lt_of_le (by have := World.block_lt_of_cell? _ _ hx143_0; first | rwa [add_block] at this | exact this) GW142.out); replace hx143_0 := (HB.out.cell (World.block_lt_of_cell? w _ hx143_0)).trans hx143_0; replace hx143_1 := (HB.out.cell (World.block_lt_of_cell? w _ hx143_1)).trans hx143_1; replace hx143_2 := (HB.out.cell (World.block_lt_of_cell? w _ hx143_2)).trans hx143_2; replace hx143_0 := (cell_far (p := ⟨gb142, 0, none⟩) (by first | (rw [add_block]; exact hn143_0) | (show (Addr.add _ _).block ≠ _; rw [add_block]; exact hn143_0) | exact hn143_0) (.int .i64 ((rd_T46 l0 x14_1).f0))).trans hx143_0; replace hx143_1 := (cell_far (p := ⟨gb142, 0, none⟩) (by first | (rw [add_block]; exact hn143_0) | (show (Addr.add _ _).block ≠ _; rw [add_block]; exact hn143_0) | exact hn143_0) (.int .i64 ((rd_T46 l0 x14_1).f0))).trans hx143_1; replace hx143_2 := (cell_far (p := ⟨gb142, 0, none⟩) (by first | (rw [add_block]; exact hn143_0) | (show (Addr.add _ _).block ≠ _; rw [add_block]; exact hn143_0) | exact hn143_0) (.int .i64 ((rd_T46 l0 x14_1).f0))).trans hx143_2; replace hx143_0 := (cell_far (p := ⟨gb142, 1, none⟩) (by first | (rw [add_block]; exact hn143_1) | (show (Addr.add _ _).block ≠ _; rw [add_block]; exact hn143_1) | exact hn143_1) (.int .i64 ((rd_T46 l0 x14_1).f1))).trans hx143_0; replace hx143_1 := (cell_far (p := ⟨gb142, 1, none⟩) (by first | (rw [add_block]; exact hn143_1) | (show (Addr.add _ _).block ≠ _; rw [add_block]; exact hn143_1) | exact hn143_1) (.int .i64 ((rd_T46 l0 x14_1).f1))).trans hx143_1; replace hx143_2 := (cell_far (p := ⟨gb142, 1, none⟩) (by first | (rw [add_block]; exact hn143_1) | (show (Addr.add _ _).block ≠ _; rw [add_block]; exact hn143_1) | exact hn143_1) (.int .i64 ((rd_T46 l0 x14_1).f1))).trans hx143_2; replace hx143_0 := (cell_far (p := ⟨gb142, 2, none⟩) (by first | (rw [add_block]; exact hn143_2) | (show (Addr.add _ _).block ≠ _; rw [add_block]; exact hn143_2) | exact hn143_2) (.string ((rd_T46 l0 x14_1).f2))).trans hx143_0; replace hx143_1 := (cell_far (p := ⟨gb142, 2, none⟩) (by first | (rw [add_block]; exact hn143_2) | (show (Addr.add _ _).block ≠ _; rw [add_block]; exact hn143_2) | exact hn143_2) (.string ((rd_T46 l0 x14_1).f2))).trans hx143_1; replace hx143_2 := (cell_far (p := ⟨gb142, 2, none⟩) (by first | (rw [add_block]; exact hn143_2) | (show (Addr.add _ _).block ≠ _; rw [add_block]; exact hn143_2) | exact hn143_2) (.string ((rd_T46 l0 x14_1).f2))).trans hx143_2; (try have hy143_0 := fun (n_ : Nat) => (show (((((w9.drewN n_).setCell ⟨gb142, 0, none⟩ (.int .i64 ((rd_T46 l0 x14_1).f0))).setCell ⟨gb142, 1, none⟩ (.int .i64 ((rd_T46 l0 x14_1).f1))).setCell ⟨gb142, 2, none⟩ (.string ((rd_T46 l0 x14_1).f2)))).cell? _ = some _ from hx143_0)); (try have hy143_1 := fun (n_ : Nat) => (show (((((w9.drewN n_).setCell ⟨gb142, 0, none⟩ (.int .i64 ((rd_T46 l0 x14_1).f0))).setCell ⟨gb142, 1, none⟩ (.int .i64 ((rd_T46 l0 x14_1).f1))).setCell ⟨gb142, 2, none⟩ (.string ((rd_T46 l0 x14_1).f2)))).cell? _ = some _ from hx143_1)); (try have hy143_2 := fun (n_ : Nat) => (show (((((w9.drewN n_).setCell ⟨gb142, 0, none⟩ (.int .i64 ((rd_T46 l0 x14_1).f0))).setCell ⟨gb142, 1, none⟩ (.int .i64 ((rd_T46 l0 x14_1).f1))).setCell ⟨gb142, 2, none⟩ (.string ((rd_T46 l0 x14_1).f2)))).cell? _ = some _ from hx143_2)); clear hn143_0; clear hn143_1; clear hn143_2; replace p143 := eq_true p143; replace q143 := eq_true q143)); try go_wp2_with (first | ((with_reducible refine gate_dst (N := 6) rfl ?_); refine box_event ?hg (N := 6) ?hd (cs := #[.int .i64 0, .int .i64 0, .string (⟨#[]⟩ : ByteArray)]) (t := 46) ?hr ?_; (case hd => rfl); (case hg => rfl); (case hr => first | (go_simp; done) | (go_simp; rfl)); intro gb142 hg w9 hbox hb; have n0_ := Aside0.mk (below_step (by repeat (first | (with_reducible first | exact HB.out | apply below_alloc | apply pw_below_drewN | apply below_drew1) | exact HB.out)) hb); have n1_ := Aside0.mk (hbox); have n2_ := Aside0.mk ((by rw [hg]; exact (below_size (by repeat (first | (with_reducible first | exact HB.out | apply below_alloc | apply pw_below_drewN | apply below_drew1) | exact HB.out))) : w.heap.size ≤ gb142)); have n3_ := Aside0.mk ((by rw [hg]; exact (below_size (by repeat (first | (with_reducible first | exact HB.out | apply below_alloc | apply pw_below_drewN | apply below_drew1) | exact HB.out))) : w.heap.size ≤ gb142)); clear HB; have HB := n0_; have BK142 := n1_; have GW142 := n2_; have GE142 := n3_; clear n0_ n1_ n2_ n3_; clear hb hbox hg; have hcz10_0 : w9.cell? ⟨gb142, 0, none⟩ = some (.int .i64 0) := (blk_cell BK142.out 0).trans rfl; have hcz10_1 : w9.cell? ⟨gb142, 1, none⟩ = some (.int .i64 0) := (blk_cell BK142.out 1).trans rfl; have hcz10_2 : w9.cell? ⟨gb142, 2, none⟩ = some (.string (⟨#[]⟩ : ByteArray)) := (blk_cell BK142.out 2).trans rfl; have hfz10_0 := blk_frozen BK142.out 0; have hfz10_1 := blk_frozen BK142.out 1; have hfz10_2 := blk_frozen BK142.out 2; have p143 : 0 ≤ (x14_1 : Int) := of_decide_eq_true (by first | (with_reducible assumption) | assumption); have q143 : x14_1 < (l1.length : Int) := of_decide_eq_true (by first | (with_reducible assumption) | assumption); obtain ⟨ad143, e143, hx143_0, hx143_1, hx143_2⟩ := at_T46 HR1.out x14_1 p143 q143; cases e143; have hn143_0 : ad143.block ≠ gb142 := Nat.ne_of_lt (Nat.lt_of_lt_of_le (by have := World.block_lt_of_cell? _ _ hx143_0; first | rwa [add_block] at this | exact this) GW142.out); have hn143_1 : ad143.block ≠ gb142 := Nat.ne_of_lt (Nat.lt_of_lt_of_le (by have := World.block_lt_of_cell? _ _ hx143_0; first | rwa [add_block] at this | exact this) GW142.out); have hn143_2 : ad143.block ≠ gb142 := Nat.ne_of_lt (Nat.lt_of_lt_of_le (by have := World.block_lt_of_cell? _ _ hx143_0; first | rwa [add_block] at this | exact this) GW142.out); replace hx143_0 := (HB.out.cell (World.block_lt_of_cell? w _ hx143_0)).trans hx143_0; replace hx143_1 := (HB.out.cell (World.block_lt_of_cell? w _ hx143_1)).trans hx143_1; replace hx143_2 := (HB.out.cell (World.block_lt_of_cell? w _ hx143_2)).trans hx143_2; replace hx143_0 := (cell_far (p := ⟨gb142, 0, none⟩) (by first | (rw [add_block]; exact hn143_0) | (show (Addr.add _ _).block ≠ _; rw [add_block]; exact hn143_0) | exact hn143_0) (.int .i64 ((rd_T46 l0 x14_1).f0))).trans hx143_0; replace hx143_1 := (cell_far (p := ⟨gb142, 0, none⟩) (by first | (rw [add_block]; exact hn143_0) | (show (Addr.add _ _).block ≠ _; rw [add_block]; exact hn143_0) | exact hn143_0) (.int .i64 ((rd_T46 l0 x14_1).f0))).trans hx143_1; replace hx143_2 := (cell_far (p := ⟨gb142, 0, none⟩) (by first | (rw [add_block]; exact hn143_0) | (show (Addr.add _ _).block ≠ _; rw [add_block]; exact hn143_0) | exact hn143_0) (.int .i64 ((rd_T46 l0 x14_1).f0))).trans hx143_2; replace hx143_0 := (cell_far (p := ⟨gb142, 1, none⟩) (by first | (rw [add_block]; exact hn143_1) | (show (Addr.add _ _).block ≠ _; rw [add_block]; exact hn143_1) | exact hn143_1) (.int .i64 ((rd_T46 l0 x14_1).f1))).trans hx143_0; replace hx143_1 := (cell_far (p := ⟨gb142, 1, none⟩) (by first | (rw [add_block]; exact hn143_1) | (show (Addr.add _ _).block ≠ _; rw [add_block]; exact hn143_1) | exact hn143_1) (.int .i64 ((rd_T46 l0 x14_1).f1))).trans hx143_1; replace hx143_2 := (cell_far (p := ⟨gb142, 1, none⟩) (by first | (rw [add_block]; exact hn143_1) | (show (Addr.add _ _).block ≠ _; rw [add_block]; exact hn143_1) | exact hn143_1) (.int .i64 ((rd_T46 l0 x14_1).f1))).trans hx143_2; replace hx143_0 := (cell_far (p := ⟨gb142, 2, none⟩) (by first | (rw [add_block]; exact hn143_2) | (show (Addr.add _ _).block ≠ _; rw [add_block]; exact hn143_2) | exact hn143_2) (.string ((rd_T46 l0 x14_1).f2))).trans hx143_0; replace hx143_1 := (cell_far (p := ⟨gb142, 2, none⟩) (by first | (rw [add_block]; exact hn143_2) | (show (Addr.add _ _).block ≠ _; rw [add_block]; exact hn143_2) | exact hn143_2) (.string ((rd_T46 l0 x14_1).f2))).trans hx143_1; replace hx143_2 := (cell_far (p := ⟨gb142, 2, none⟩) (by first | (rw [add_block]; exact hn143_2) | (show (Addr.add _ _).block ≠ _; rw [add_block]; exact hn143_2) | exact hn143_2) (.string ((rd_T46 l0 x14_1).f2))).trans hx143_2; (try have hy143_0 := fun (n_ : Nat) => (show (((((w9.drewN n_).setCell ⟨gb142, 0, none⟩ (.int .i64 ((rd_T46 l0 x14_1).f0))).setCell ⟨gb142, 1, none⟩ (.int .i64 ((rd_T46 l0 x14_1).f1))).setCell ⟨gb142, 2, none⟩ (.string ((rd_T46 l0 x14_1).f2)))).cell? _ = some _ from hx143_0)); (try have hy143_1 := fun (n_ : Nat) => (show (((((w9.drewN n_).setCell ⟨gb142, 0, none⟩ (.int .i64 ((rd_T46 l0 x14_1).f0))).setCell ⟨gb142, 1, none⟩ (.int .i64 ((rd_T46 l0 x14_1).f1))).setCell ⟨gb142, 2, none⟩ (.string ((rd_T46 l0 x14_1).f2)))).cell? _ = some _ from hx143_1)); (try have hy143_2 := fun (n_ : Nat) => (show (((((w9.drewN n_).setCell ⟨gb142, 0, none⟩ (.int .i64 ((rd_T46 l0 x14_1).f0))).setCell ⟨gb142, 1, none⟩ (.int .i64 ((rd_T46 l0 x14_1).f1))).setCell ⟨gb142, 2, none⟩ (.string ((rd_T46 l0 x14_1).f2)))).cell? _ = some _ from hx143_2)); clear hn143_0; clear hn143_1; clear hn143_2; replace p143 := eq_true p143; replace q143 := eq_true q143)))
                  go_ret
                  exact ⟨by first | rfl | (simp [errW_none, errW_some] <;> rfl) | (simp [*, errW_none, errW_some] <;> rfl), by repeat (first | (with_reducible first | exact HB.out | apply below_alloc | apply pw_below_drewN | apply below_drew1 | refine below_set ?_ GE142.out) | exact HB.out)⟩
                · rw [if_neg c8] at H
                  have c8b0 : (!(((rd_T46 l0 x14_1).f0) == ((rd_T46 l1 x14_1).f0)) || (!(((rd_T46 l0 x14_1).f1) == ((rd_T46 l1 x14_1).f1)) || (!((((rd_T46 l0 x14_1).f2).toList) == (((rd_T46 l1 x14_1).f2).toList))))) = false := by simpa using c8
                  clear c8
                  have H' := Aside0.mk H
                  clear H
                  have p141 : 0 ≤ (x14_1 : Int) := of_decide_eq_true (by first | (with_reducible assumption) | assumption)
                  have q141 : x14_1 < (l0.length : Int) := of_decide_eq_true (by first | (with_reducible assumption) | assumption)
                  obtain ⟨ad141, e141, hx141_0, hx141_1, hx141_2⟩ := at_T46 HR0.out x14_1 p141 q141
                  cases e141
                  replace hx141_0 := (HB.out.cell (World.block_lt_of_cell? w _ hx141_0)).trans hx141_0
                  replace hx141_1 := (HB.out.cell (World.block_lt_of_cell? w _ hx141_1)).trans hx141_1
                  replace hx141_2 := (HB.out.cell (World.block_lt_of_cell? w _ hx141_2)).trans hx141_2
                  replace p141 := eq_true p141
                  replace q141 := eq_true q141
                  go_wp2_with (first | ((with_reducible refine gate_dst (N := 6) rfl ?_); refine box_event ?hg (N := 6) ?hd (cs := #[.int .i64 0, .int .i64 0, .string (⟨#[]⟩ : ByteArray)]) (t := 46) ?hr ?_; (case hd => rfl); (case hg => rfl); (case hr => first | (go_simp; done) | (go_simp; rfl)); intro gb142 hg w11 hbox hb; have n0_ := Aside0.mk (below_step (by repeat (first | (with_reducible first | exact HB.out | apply below_alloc | apply pw_below_drewN | apply below_drew1) | exact HB.out)) hb); have n1_ := Aside0.mk (hbox); have n2_ := Aside0.mk ((by rw [hg]; exact (below_size (by repeat (first | (with_reducible first | exact HB.out | apply below_alloc | apply pw_below_drewN | apply below_drew1) | exact HB.out))) : w.heap.size ≤ gb142)); have n3_ := Aside0.mk ((by rw [hg]; exact (below_size (by repeat (first | (with_reducible first | exact HB.out | apply below_alloc | apply pw_below_drewN | apply below_drew1) | exact HB.out))) : w.heap.size ≤ gb142)); clear HB; have HB := n0_; have BK142 := n1_; have GW142 := n2_; have GE142 := n3_; clear n0_ n1_ n2_ n3_; clear hb hbox hg; have hcz12_0 : w11.cell? ⟨gb142, 0, none⟩ = some (.int .i64 0) := (blk_cell BK142.out 0).trans rfl; have hcz12_1 : w11.cell? ⟨gb142, 1, none⟩ = some (.int .i64 0) := (blk_cell BK142.out 1).trans rfl; have hcz12_2 : w11.cell? ⟨gb142, 2, none⟩ = some (.string (⟨#[]⟩ : ByteArray)) := (blk_cell BK142.out 2).trans rfl; have hfz12_0 := blk_frozen BK142.out 0; have hfz12_1 := blk_frozen BK142.out 1; have hfz12_2 := blk_frozen BK142.out 2; have p143 : 0 ≤ (x14_1 : Int) := of_decide_eq_true (by first | (with_reducible assumption) | assumption); have q143 : x14_1 < (l1.length : Int) := of_decide_eq_true (by first | (with_reducible assumption) | assumption); obtain ⟨ad143, e143, hx143_0, hx143_1, hx143_2⟩ := at_T46 HR1.out x14_1 p143 q143; cases e143; have hn143_0 : ad143.block ≠ gb142 := Nat.ne_of_lt (Nat.lt_of_lt_of_le (by have := World.block_lt_of_cell? _ _ hx143_0; first | rwa [add_block] at this | exact this) GW142.out); have hn143_1 : ad143.block ≠ gb142 := Nat.ne_of_lt (Nat.lt_of_lt_of_le (by have := World.block_lt_of_cell? _ _ hx143_0; first | rwa [add_block] at this | exact this) GW142.out); have hn143_2 : ad143.block ≠ gb142 := Nat.ne_of_lt (Nat.lt_of_lt_of_le (by have := World.block_lt_of_cell? _ _ hx143_0; first | rwa [add_block] at this | exact this) GW142.out); replace hx143_0 := (HB.out.cell (World.block_lt_of_cell? w _ hx143_0)).trans hx143_0; replace hx143_1 := (HB.out.cell (World.block_lt_of_cell? w _ hx143_1)).trans hx143_1; replace hx143_2 := (HB.out.cell (World.block_lt_of_cell? w _ hx143_2)).trans hx143_2; replace hx143_0 := (cell_far (p := ⟨gb142, 0, none⟩) (by first | (rw [add_block]; exact hn143_0) | (show (Addr.add _ _).block ≠ _; rw [add_block]; exact hn143_0) | exact hn143_0) (.int .i64 ((rd_T46 l0 x14_1).f0))).trans hx143_0; replace hx143_1 := (cell_far (p := ⟨gb142, 0, none⟩) (by first | (rw [add_block]; exact hn143_0) | (show (Addr.add _ _).block ≠ _; rw [add_block]; exact hn143_0) | exact hn143_0) (.int .i64 ((rd_T46 l0 x14_1).f0))).trans hx143_1; replace hx143_2 := (cell_far (p := ⟨gb142, 0, none⟩) (by first | (rw [add_block]; exact hn143_0) | (show (Addr.add _ _).block ≠ _; rw [add_block]; exact hn143_0) | exact hn143_0) (.int .i64 ((rd_T46 l0 x14_1).f0))).trans hx143_2; replace hx143_0 := (cell_far (p := ⟨gb142, 1, none⟩) (by first | (rw [add_block]; exact hn143_1) | (show (Addr.add _ _).block ≠ _; rw [add_block]; exact hn143_1) | exact hn143_1) (.int .i64 ((rd_T46 l0 x14_1).f1))).trans hx143_0; replace hx143_1 := (cell_far (p := ⟨gb142, 1, none⟩) (by first | (rw [add_block]; exact hn143_1) | (show (Addr.add _ _).block ≠ _; rw [add_block]; exact hn143_1) | exact hn143_1) (.int .i64 ((rd_T46 l0 x14_1).f1))).trans hx143_1; replace hx143_2 := (cell_far (p := ⟨gb142, 1, none⟩) (by first | (rw [add_block]; exact hn143_1) | (show (Addr.add _ _).block ≠ _; rw [add_block]; exact hn143_1) | exact hn143_1) (.int .i64 ((rd_T46 l0 x14_1).f1))).trans hx143_2; replace hx143_0 := (cell_far (p := ⟨gb142, 2, none⟩) (by first | (rw [add_block]; exact hn143_2) | (show (Addr.add _ _).block ≠ _; rw [add_block]; exact hn143_2) | exact hn143_2) (.string ((rd_T46 l0 x14_1).f2))).trans hx143_0; replace hx143_1 := (cell_far (p := ⟨gb142, 2, none⟩) (by first | (rw [add_block]; exact hn143_2) | (show (Addr.add _ _).block ≠ _; rw [add_block]; exact hn143_2) | exact hn143_2) (.string ((rd_T46 l0 x14_1).f2))).trans hx143_1; replace hx143_2 := (cell_far (p := ⟨gb142, 2, none⟩) (by first | (rw [add_block]; exact hn143_2) | (show (Addr.add _ _).block ≠ _; rw [add_block]; exact hn143_2) | exact hn143_2) (.string ((rd_T46 l0 x14_1).f2))).trans hx143_2; (try have hy143_0 := fun (n_ : Nat) => (show (((((w11.drewN n_).setCell ⟨gb142, 0, none⟩ (.int .i64 ((rd_T46 l0 x14_1).f0))).setCell ⟨gb142, 1, none⟩ (.int .i64 ((rd_T46 l0 x14_1).f1))).setCell ⟨gb142, 2, none⟩ (.string ((rd_T46 l0 x14_1).f2)))).cell? _ = some _ from hx143_0)); (try have hy143_1 := fun (n_ : Nat) => (show (((((w11.drewN n_).setCell ⟨gb142, 0, none⟩ (.int .i64 ((rd_T46 l0 x14_1).f0))).setCell ⟨gb142, 1, none⟩ (.int .i64 ((rd_T46 l0 x14_1).f1))).setCell ⟨gb142, 2, none⟩ (.string ((rd_T46 l0 x14_1).f2)))).cell? _ = some _ from hx143_1)); (try have hy143_2 := fun (n_ : Nat) => (show (((((w11.drewN n_).setCell ⟨gb142, 0, none⟩ (.int .i64 ((rd_T46 l0 x14_1).f0))).setCell ⟨gb142, 1, none⟩ (.int .i64 ((rd_T46 l0 x14_1).f1))).setCell ⟨gb142, 2, none⟩ (.string ((rd_T46 l0 x14_1).f2)))).cell? _ = some _ from hx143_2)); clear hn143_0; clear hn143_1; clear hn143_2; replace p143 := eq_true p143; replace q143 := eq_true q143))
                  repeat (go_quiet (first | ((with_reducible refine gate_dst (N := 6) rfl ?_); refine box_event ?hg (N := 6) ?hd (cs := #[.int .i64 0, .int .i64 0, .string (⟨#[]⟩ : ByteArray)]) (t := 46) ?hr ?_; (case hd => rfl); (case hg => rfl); (case hr => first | (go_simp; done) | (go_simp; rfl)); intro gb142 hg w11 hbox hb; have n0_ := Aside0.mk (below_step (by repeat (first | (with_reducible first | exact HB.out | apply below_alloc | apply pw_below_drewN | apply below_drew1) | exact HB.out)) hb); have n1_ := Aside0.mk (hbox); have n2_ := Aside0.mk ((by rw [hg]; exact (below_size (by repeat (first | (with_reducible first | exact HB.out | apply below_alloc | apply pw_below_drewN | apply below_drew1) | exact HB.out))) : w.heap.size ≤ gb142)); have n3_ := Aside0.mk ((by rw [hg]; exact (below_size (by repeat (first | (with_reducible first | exact HB.out | apply below_alloc | apply pw_below_drewN | apply below_drew1) | exact HB.out))) : w.heap.size ≤ gb142)); clear HB; have HB := n0_; have BK142 := n1_; have GW142 := n2_; have GE142 := n3_; clear n0_ n1_ n2_ n3_; clear hb hbox hg; have hcz12_0 : w11.cell? ⟨gb142, 0, none⟩ = some (.int .i64 0) := (blk_cell BK142.out 0).trans rfl; have hcz12_1 : w11.cell? ⟨gb142, 1, none⟩ = some (.int .i64 0) := (blk_cell BK142.out 1).trans rfl; have hcz12_2 : w11.cell? ⟨gb142, 2, none⟩ = some (.string (⟨#[]⟩ : ByteArray)) := (blk_cell BK142.out 2).trans rfl; have hfz12_0 := blk_frozen BK142.out 0; have hfz12_1 := blk_frozen BK142.out 1; have hfz12_2 := blk_frozen BK142.out 2; have p143 : 0 ≤ (x14_1 : Int) := of_decide_eq_true (by first | (with_reducible assumption) | assumption); have q143 : x14_1 < (l1.length : Int) := of_decide_eq_true (by first | (with_reducible assumption) | assumption); obtain ⟨ad143, e143, hx143_0, hx143_1, hx143_2⟩ := at_T46 HR1.out x14_1 p143 q143; cases e143; have hn143_0 : ad143.block ≠ gb142 := Nat.ne_of_lt (Nat.lt_of_lt_of_le (by have := World.block_lt_of_cell? _ _ hx143_0; first | rwa [add_block] at this | exact this) GW142.out); have hn143_1 : ad143.block ≠ gb142 := Nat.ne_of_lt (Nat.lt_of_lt_of_le (by have := World.block_lt_of_cell? _ _ hx143_0; first | rwa [add_block] at this | exact this) GW142.out); have hn143_2 : ad143.block ≠ gb142 := Nat.ne_of_lt (Nat.lt_of_lt_of_le (by have := World.block_lt_of_cell? _ _ hx143_0; first | rwa [add_block] at this | exact this) GW142.out); replace hx143_0 := (HB.out.cell (World.block_lt_of_cell? w _ hx143_0)).trans hx143_0; replace hx143_1 := (HB.out.cell (World.block_lt_of_cell? w _ hx143_1)).trans hx143_1; replace hx143_2 := (HB.out.cell (World.block_lt_of_cell? w _ hx143_2)).trans hx143_2; replace hx143_0 := (cell_far (p := ⟨gb142, 0, none⟩) (by first | (rw [add_block]; exact hn143_0) | (show (Addr.add _ _).block ≠ _; rw [add_block]; exact hn143_0) | exact hn143_0) (.int .i64 ((rd_T46 l0 x14_1).f0))).trans hx143_0; replace hx143_1 := (cell_far (p := ⟨gb142, 0, none⟩) (by first | (rw [add_block]; exact hn143_0) | (show (Addr.add _ _).block ≠ _; rw [add_block]; exact hn143_0) | exact hn143_0) (.int .i64 ((rd_T46 l0 x14_1).f0))).trans hx143_1; replace hx143_2 := (cell_far (p := ⟨gb142, 0, none⟩) (by first | (rw [add_block]; exact hn143_0) | (show (Addr.add _ _).block ≠ _; rw [add_block]; exact hn143_0) | exact hn143_0) (.int .i64 ((rd_T46 l0 x14_1).f0))).trans hx143_2; replace hx143_0 := (cell_far (p := ⟨gb142, 1, none⟩) (by first | (rw [add_block]; exact hn143_1) | (show (Addr.add _ _).block ≠ _; rw [add_block]; exact hn143_1) | exact hn143_1) (.int .i64 ((rd_T46 l0 x14_1).f1))).trans hx143_0; replace hx143_1 := (cell_far (p := ⟨gb142, 1, none⟩) (by first | (rw [add_block]; exact hn143_1) | (show (Addr.add _ _).block ≠ _; rw [add_block]; exact hn143_1) | exact hn143_1) (.int .i64 ((rd_T46 l0 x14_1).f1))).trans hx143_1; replace hx143_2 := (cell_far (p := ⟨gb142, 1, none⟩) (by first | (rw [add_block]; exact hn143_1) | (show (Addr.add _ _).block ≠ _; rw [add_block]; exact hn143_1) | exact hn143_1) (.int .i64 ((rd_T46 l0 x14_1).f1))).trans hx143_2; replace hx143_0 := (cell_far (p := ⟨gb142, 2, none⟩) (by first | (rw [add_block]; exact hn143_2) | (show (Addr.add _ _).block ≠ _; rw [add_block]; exact hn143_2) | exact hn143_2) (.string ((rd_T46 l0 x14_1).f2))).trans hx143_0; replace hx143_1 := (cell_far (p := ⟨gb142, 2, none⟩) (by first | (rw [add_block]; exact hn143_2) | (show (Addr.add _ _).block ≠ _; rw [add_block]; exact hn143_2) | exact hn143_2) (.string ((rd_T46 l0 x14_1).f2))).trans hx143_1; replace hx143_2 := (cell_far (p := ⟨gb142, 2, none⟩) (by first | (rw [add_block]; exact hn143_2) | (show (Addr.add _ _).block ≠ _; rw [add_block]; exact hn143_2) | exact hn143_2) (.string ((rd_T46 l0 x14_1).f2))).trans hx143_2; (try have hy143_0 := fun (n_ : Nat) => (show (((((w11.drewN n_).setCell ⟨gb142, 0, none⟩ (.int .i64 ((rd_T46 l0 x14_1).f0))).setCell ⟨gb142, 1, none⟩ (.int .i64 ((rd_T46 l0 x14_1).f1))).setCell ⟨gb142, 2, none⟩ (.string ((rd_T46 l0 x14_1).f2)))).cell? _ = some _ from hx143_0)); (try have hy143_1 := fun (n_ : Nat) => (show (((((w11.drewN n_).setCell ⟨gb142, 0, none⟩ (.int .i64 ((rd_T46 l0 x14_1).f0))).setCell ⟨gb142, 1, none⟩ (.int .i64 ((rd_T46 l0 x14_1).f1))).setCell ⟨gb142, 2, none⟩ (.string ((rd_T46 l0 x14_1).f2)))).cell? _ = some _ from hx143_1)); (try have hy143_2 := fun (n_ : Nat) => (show (((((w11.drewN n_).setCell ⟨gb142, 0, none⟩ (.int .i64 ((rd_T46 l0 x14_1).f0))).setCell ⟨gb142, 1, none⟩ (.int .i64 ((rd_T46 l0 x14_1).f1))).setCell ⟨gb142, 2, none⟩ (.string ((rd_T46 l0 x14_1).f2)))).cell? _ = some _ from hx143_2)); clear hn143_0; clear hn143_1; clear hn143_2; replace p143 := eq_true p143; replace q143 := eq_true q143)); try go_wp2_with (first | ((with_reducible refine gate_dst (N := 6) rfl ?_); refine box_event ?hg (N := 6) ?hd (cs := #[.int .i64 0, .int .i64 0, .string (⟨#[]⟩ : ByteArray)]) (t := 46) ?hr ?_; (case hd => rfl); (case hg => rfl); (case hr => first | (go_simp; done) | (go_simp; rfl)); intro gb142 hg w11 hbox hb; have n0_ := Aside0.mk (below_step (by repeat (first | (with_reducible first | exact HB.out | apply below_alloc | apply pw_below_drewN | apply below_drew1) | exact HB.out)) hb); have n1_ := Aside0.mk (hbox); have n2_ := Aside0.mk ((by rw [hg]; exact (below_size (by repeat (first | (with_reducible first | exact HB.out | apply below_alloc | apply pw_below_drewN | apply below_drew1) | exact HB.out))) : w.heap.size ≤ gb142)); have n3_ := Aside0.mk ((by rw [hg]; exact (below_size (by repeat (first | (with_reducible first | exact HB.out | apply below_alloc | apply pw_below_drewN | apply below_drew1) | exact HB.out))) : w.heap.size ≤ gb142)); clear HB; have HB := n0_; have BK142 := n1_; have GW142 := n2_; have GE142 := n3_; clear n0_ n1_ n2_ n3_; clear hb hbox hg; have hcz12_0 : w11.cell? ⟨gb142, 0, none⟩ = some (.int .i64 0) := (blk_cell BK142.out 0).trans rfl; have hcz12_1 : w11.cell? ⟨gb142, 1, none⟩ = some (.int .i64 0) := (blk_cell BK142.out 1).trans rfl; have hcz12_2 : w11.cell? ⟨gb142, 2, none⟩ = some (.string (⟨#[]⟩ : ByteArray)) := (blk_cell BK142.out 2).trans rfl; have hfz12_0 := blk_frozen BK142.out 0; have hfz12_1 := blk_frozen BK142.out 1; have hfz12_2 := blk_frozen BK142.out 2; have p143 : 0 ≤ (x14_1 : Int) := of_decide_eq_true (by first | (with_reducible assumption) | assumption); have q143 : x14_1 < (l1.length : Int) := of_decide_eq_true (by first | (with_reducible assumption) | assumption); obtain ⟨ad143, e143, hx143_0, hx143_1, hx143_2⟩ := at_T46 HR1.out x14_1 p143 q143; cases e143; have hn143_0 : ad143.block ≠ gb142 := Nat.ne_of_lt (Nat.lt_of_lt_of_le (by have := World.block_lt_of_cell? _ _ hx143_0; first | rwa [add_block] at this | exact this) GW142.out); have hn143_1 : ad143.block ≠ gb142 := Nat.ne_of_lt (Nat.lt_of_lt_of_le (by have := World.block_lt_of_cell? _ _ hx143_0; first | rwa [add_block] at this | exact this) GW142.out); have hn143_2 : ad143.block ≠ gb142 := Nat.ne_of_lt (Nat.lt_of_lt_of_le (by have := World.block_lt_of_cell? _ _ hx143_0; first | rwa [add_block] at this | exact this) GW142.out); replace hx143_0 := (HB.out.cell (World.block_lt_of_cell? w _ hx143_0)).trans hx143_0; replace hx143_1 := (HB.out.cell (World.block_lt_of_cell? w _ hx143_1)).trans hx143_1; replace hx143_2 := (HB.out.cell (World.block_lt_of_cell? w _ hx143_2)).trans hx143_2; replace hx143_0 := (cell_far (p := ⟨gb142, 0, none⟩) (by first | (rw [add_block]; exact hn143_0) | (show (Addr.add _ _).block ≠ _; rw [add_block]; exact hn143_0) | exact hn143_0) (.int .i64 ((rd_T46 l0 x14_1).f0))).trans hx143_0; replace hx143_1 := (cell_far (p := ⟨gb142, 0, none⟩) (by first | (rw [add_block]; exact hn143_0) | (show (Addr.add _ _).block ≠ _; rw [add_block]; exact hn143_0) | exact hn143_0) (.int .i64 ((rd_T46 l0 x14_1).f0))).trans hx143_1; replace hx143_2 := (cell_far (p := ⟨gb142, 0, none⟩) (by first | (rw [add_block]; exact hn143_0) | (show (Addr.add _ _).block ≠ _; rw [add_block]; exact hn143_0) | exact hn143_0) (.int .i64 ((rd_T46 l0 x14_1).f0))).trans hx143_2; replace hx143_0 := (cell_far (p := ⟨gb142, 1, none⟩) (by first | (rw [add_block]; exact hn143_1) | (show (Addr.add _ _).block ≠ _; rw [add_block]; exact hn143_1) | exact hn143_1) (.int .i64 ((rd_T46 l0 x14_1).f1))).trans hx143_0; replace hx143_1 := (cell_far (p := ⟨gb142, 1, none⟩) (by first | (rw [add_block]; exact hn143_1) | (show (Addr.add _ _).block ≠ _; rw [add_block]; exact hn143_1) | exact hn143_1) (.int .i64 ((rd_T46 l0 x14_1).f1))).trans hx143_1; replace hx143_2 := (cell_far (p := ⟨gb142, 1, none⟩) (by first | (rw [add_block]; exact hn143_1) | (show (Addr.add _ _).block ≠ _; rw [add_block]; exact hn143_1) | exact hn143_1) (.int .i64 ((rd_T46 l0 x14_1).f1))).trans hx143_2; replace hx143_0 := (cell_far (p := ⟨gb142, 2, none⟩) (by first | (rw [add_block]; exact hn143_2) | (show (Addr.add _ _).block ≠ _; rw [add_block]; exact hn143_2) | exact hn143_2) (.string ((rd_T46 l0 x14_1).f2))).trans hx143_0; replace hx143_1 := (cell_far (p := ⟨gb142, 2, none⟩) (by first | (rw [add_block]; exact hn143_2) | (show (Addr.add _ _).block ≠ _; rw [add_block]; exact hn143_2) | exact hn143_2) (.string ((rd_T46 l0 x14_1).f2))).trans hx143_1; replace hx143_2 := (cell_far (p := ⟨gb142, 2, none⟩) (by first | (rw [add_block]; exact hn143_2) | (show (Addr.add _ _).block ≠ _; rw [add_block]; exact hn143_2) | exact hn143_2) (.string ((rd_T46 l0 x14_1).f2))).trans hx143_2; (try have hy143_0 := fun (n_ : Nat) => (show (((((w11.drewN n_).setCell ⟨gb142, 0, none⟩ (.int .i64 ((rd_T46 l0 x14_1).f0))).setCell ⟨gb142, 1, none⟩ (.int .i64 ((rd_T46 l0 x14_1).f1))).setCell ⟨gb142, 2, none⟩ (.string ((rd_T46 l0 x14_1).f2)))).cell? _ = some _ from hx143_0)); (try have hy143_1 := fun (n_ : Nat) => (show (((((w11.drewN n_).setCell ⟨gb142, 0, none⟩ (.int .i64 ((rd_T46 l0 x14_1).f0))).setCell ⟨gb142, 1, none⟩ (.int .i64 ((rd_T46 l0 x14_1).f1))).setCell ⟨gb142, 2, none⟩ (.string ((rd_T46 l0 x14_1).f2)))).cell? _ = some _ from hx143_1)); (try have hy143_2 := fun (n_ : Nat) => (show (((((w11.drewN n_).setCell ⟨gb142, 0, none⟩ (.int .i64 ((rd_T46 l0 x14_1).f0))).setCell ⟨gb142, 1, none⟩ (.int .i64 ((rd_T46 l0 x14_1).f1))).setCell ⟨gb142, 2, none⟩ (.string ((rd_T46 l0 x14_1).f2)))).cell? _ = some _ from hx143_2)); clear hn143_0; clear hn143_1; clear hn143_2; replace p143 := eq_true p143; replace q143 := eq_true q143)))
                  go_roundg k1
                  case measure => have := HK1.out; omega
                  case rel => exact ⟨(wrap64 (x14_1 + 1)), (by first | rfl | (simp; done) | (simp [*]; done)), H', ⟨by have := HK1.out; omega⟩, ⟨by repeat (first | (with_reducible first | exact HB.out | apply below_alloc | apply pw_below_drewN | apply below_drew1 | refine below_set ?_ GE142.out) | exact HB.out)⟩⟩
              · rw [if_neg c7] at H
                exact absurd H (by simp)
            · rw [if_neg c6] at H
              exact absurd H (by simp)
          · rw [if_neg c5] at H
            exact absurd H (by simp)
        · rw [if_neg c4] at H
          have c4b0 : decide (x14_1 < (l0.length : Int)) = false := decide_eq_false c4
          clear c4
          obtain rfl := Option.some.inj H
          go_wp2
          repeat (go_quiet (fail); try go_wp2)
          go_ret
          exact ⟨by first | rfl | (simp [errW_none, errW_some] <;> rfl) | (simp [*, errW_none, errW_some] <;> rfl), by repeat (first | (with_reducible first | exact HB.out | apply below_alloc | apply pw_below_drewN | apply below_drew1) | exact HB.out)⟩
  · rw [if_neg c3] at H
    have c3b0 : ((l0.length : Int) == (l1.length : Int)) = false := beq_eq_false_iff_ne.mpr c3
    have c3b1 : ((l0.length : Int) != (l1.length : Int)) = true := bne_iff_ne.mpr c3
    have c3b2 : (l0.length == l1.length) = false := by first | simpa using c3 | (simp at c3 ⊢; omega)
    obtain rfl := Option.some.inj H
    go_enter Tryd.func16, Tryd.ntmps16
    go_wp2
    repeat (go_quiet (fail); try go_wp2)
    go_ret
    exact ⟨by first | rfl | (simp [errW_none, errW_some] <;> rfl) | (simp [*, errW_none, errW_some] <;> rfl), by repeat (first | (with_reducible first | exact HB.out | apply below_alloc | apply pw_below_drewN | apply below_drew1) | exact HB.out)⟩

/-! ### impl_own: function 21 -/
def impl_own.f (l0 : List Int) : Option (List Int) := (some (([] : List Int) : List Int)).bind fun y144 => (if y144.length + l0.length < 140737488355328 then (some (y144 ++ l0)) else (none))
set_option maxHeartbeats 8000000 in
set_option maxRecDepth 100000 in
theorem impl_own.calls (A0 : Option Addr) (c0 : Nat) (l0 : List Int) (r : List Int) (w : World) (hr0 : Kd.C (Kd.int .u8) w A0 l0.length l0) (hc0 : l0.length ≤ c0) (h : impl_own.f l0 = some r) :
    Calls Tryd.prog 21 #[.slice A0 l0.length c0] w fun e w' => ∃ v0_ : Value, e = .returned (v0_) ∧ Kd.R (Kd.int .u8) 5 w' w.heap.size (fun _ => True) v0_ r ∧ Below w.heap.size w w' := by
  have HR0 := Aside0.mk hr0
  have HC0 := Aside0.mk hc0
  clear hr0 hc0
  have HB := Aside0.mk (Below.refl w.heap.size w)
  have H : ((some (([] : List Int) : List Int)).bind fun y144 => (if y144.length + l0.length < 140737488355328 then (some (y144 ++ l0)) else (none))) = some r := h
  clear h
  obtain ⟨y144, hy144⟩ : ∃ y_ : List Int, y_ = (([] : List Int)) := ⟨_, rfl⟩
  replace H : (if y144.length + l0.length < 140737488355328 then (some (y144 ++ l0)) else (none)) = some r := by first | (rw [hy144]; with_reducible exact H) | (have H2_ := (Option.bind_some _ _).symm.trans H; rw [hy144]; with_reducible exact H2_) | (have H2_ := (Option.bind_some _ _).symm.trans H; with_reducible exact H2_) | with_reducible exact H | (rw [hy144]; exact H) | exact H
  have Ny144 := Aside0.mk hy144
  clear hy144
  by_cases c2 : y144.length + l0.length < 140737488355328
  · rw [if_pos c2] at H
    have LMc2 := Aside0.mk c2
    clear c2
    obtain ⟨y147, hy147⟩ : ∃ y_ : List Int, y_ = (y144 ++ l0) := ⟨_, rfl⟩
    replace H : (some y147) = some r := by first | (rw [hy147]; with_reducible exact H) | (have H2_ := (Option.bind_some _ _).symm.trans H; rw [hy147]; with_reducible exact H2_) | (have H2_ := (Option.bind_some _ _).symm.trans H; with_reducible exact H2_) | with_reducible exact H | (rw [hy147]; exact H) | exact H
    have Ny147 := Aside0.mk hy147
    clear hy147
    obtain rfl := Option.some.inj H
    go_enter Tryd.func21, Tryd.ntmps21
    go_wp2_with (first | ((with_reducible refine gate_dst (N := 3) rfl ?_); refine Kd.R_lit (Kd.int .u8) _ 5 ?hg (N := 3) ?hd (xs := ([] : List Int)) (inner := []) (ok := fun _ => True) (okp := fun _ => True) ?hr ?hp (fun _ hk => hk) trivial (Below.refl _ _) (Nat.le_refl _) (by simp) ?_; (case hd => rfl); (case hg => rfl); (case hr => first | (go_simp; done) | (go_simp; rfl)); (case hp => exact (Reps.none _ _)); intro v145 w3 ho4 hb hg_ hnew_; clear hg_ hnew_; (first | rw [← Ny144.out] at ho4 | (simp only [Int.reduceToNat] at ho4; rw [← Ny144.out] at ho4)); have n0_ := Aside0.mk (Kd.R_lower ho4 (below_size (by repeat (first | (with_reducible first | exact HB.out | apply below_alloc | apply pw_below_drewN | apply below_drew1) | exact HB.out)))); have n1_ := Aside0.mk (below_step (by repeat (first | (with_reducible first | exact HB.out | apply below_alloc | apply pw_below_drewN | apply below_drew1) | exact HB.out)) hb); clear HB; have HO146 := n0_; have HB := n1_; clear n0_ n1_; clear hb ho4) | ((with_reducible refine gate_builtin (b := .append) (xs := #[.tmp 3, .tmp 4]) rfl ?_); at_builtin; refine Kd.R_append_rows (Kd.int .u8) (w0 := w) w.heap.size rfl (.tmp 3) (.tmp 4) 22 5 (.int .u8 0) 1 rfl Tryd.underlying22 info5 rfl (by decide) (by omega) v145 y144 l0 _ _ _ (fun _ => True) (fun _ => False) rfl rfl ?aO ?aR (fun _ _ h => h) (fun _ h => h.elim) ?aF ?aB ?aS ?aL ?_; (case aR => repeat (first | exact (Kd.C_below HR0.out HB.out) | (with_reducible refine Kd.C_alloc ?_ _) | (with_reducible refine Kd.C_drewN ?_ _) | (with_reducible refine Kd.C_drew ?_))); (case aB => exact (by repeat (first | (with_reducible first | exact HB.out | apply below_alloc | apply pw_below_drewN | apply below_drew1) | exact HB.out))); (case aF => exact (fun _ _ => trivial)); (case aO => exact (by (with_reducible repeat (first | apply Kd.R_alloc | apply Kd.R_drewN | apply Kd.R_drew)); exact HO146.out)); (case aS => exact (below_size (by repeat (first | (with_reducible first | exact HB.out | apply below_alloc | apply pw_below_drewN | apply below_drew1) | exact HB.out)))); (case aL => have := LMc2.out; omega); intro v148 w5 ho hb hg hat; rw [← Ny147.out] at ho; have n0_ := Aside0.mk (hb); have n1_ := Aside0.mk (ho); clear HB; clear HO146; have HB := n0_; have HO149 := n1_; clear n0_ n1_; clear ho hb hg hat))
    go_ret
    exact ⟨_, by first | rfl | (simp [errW_none, errW_some] <;> rfl) | (simp [*, errW_none, errW_some] <;> rfl), by (with_reducible repeat (first | apply Kd.R_alloc | apply Kd.R_drewN | apply Kd.R_drew)); exact HO149.out, by repeat (first | (with_reducible first | exact HB.out | apply below_alloc | apply pw_below_drewN | apply below_drew1) | exact HB.out)⟩
  · rw [if_neg c2] at H
    exact absurd H (by simp)

-- NOT PRINTED: function 54 (tdbuffer_NewStreamLexerSize)

-- NOT PRINTED: function 71 (tdbuffer_bufferPool_free)

-- NOT PRINTED: function 72 (tdbuffer_bufferPool_swap)

-- NOT PRINTED: function 70 (tdbuffer_StreamLexer_read)

-- NOT PRINTED: function 55 (tdbuffer_StreamLexer_Peek)

-- NOT PRINTED: function 56 (tdbuffer_StreamLexer_Move)

-- NOT PRINTED: function 57 (tdbuffer_StreamLexer_Rewind)

-- NOT PRINTED: function 58 (tdbuffer_StreamLexer_Shift)

-- NOT PRINTED: function 59 (tdbuffer_StreamLexer_Free)

-- NOT PRINTED: function 60 (tdbuffer_StreamLexer_ShiftLen)

-- NOT PRINTED: function 61 (tdbuffer_StreamLexer_Skip)

-- NOT PRINTED: function 62 (tdbuffer_StreamLexer_Lexeme)

-- NOT PRINTED: function 63 (tdbuffer_StreamLexer_Pos)

-- NOT PRINTED: function 64 (tdbuffer_StreamLexer_PeekRune)

-- impl_RunStream: by hand (CStream)

/-! ### laws_FnInputStream: function 7 -/
mutual
def laws_FnInputStream.j0 : Nat → List Int → Int → Int → List (S44) → Bool → Option (Bool)
  | 0, _, _, _, _, _ => none
  | k + 1, x0, x1, x2, x3, x18 => if x18 = true then (some true) else ((laws_stepsOk.f k x0 x3).bind fun t155 => (if t155 = true then (if x1 < 1 then (laws_FnInputStream.j1 k x0 x1 x2 x3 true) else (if x1 > 300 then (laws_FnInputStream.j1 k x0 x1 x2 x3 true) else (if x2 < 1 then (laws_FnInputStream.j1 k x0 x1 x2 x3 true) else (laws_FnInputStream.j1 k x0 x1 x2 x3 (decide (x2 > 300)))))) else (laws_FnInputStream.j1 k x0 x1 x2 x3 true)))
def laws_FnInputStream.j1 : Nat → List Int → Int → Int → List (S44) → Bool → Option (Bool)
  | 0, _, _, _, _, _ => none
  | k + 1, x0, x1, x2, x3, x38 => if x38 = true then (some true) else ((spec_HasStep.f k x3 (([5, 8, 10, 11] : List Int))).bind fun t159 => (if t159 = true then (some true) else ((spec_Answers.f k x0 x3).bind fun bt160 => (if bt160.2 = true then ((impl_RunStream.f x0 x1 x2 x3).bind fun t164 => ((laws_sameAnswers.f k t164 bt160.1).bind fun t167 => (some t167))) else (some true)))))
end
def laws_FnInputStream.f (k : Nat) (l0 : List Int) (a1 : Int) (a2 : Int) (l3 : List (S44)) : Option (Bool) := if (l0.length : Int) > 2147483647 then (laws_FnInputStream.j0 k l0 a1 a2 l3 true) else (laws_FnInputStream.j0 k l0 a1 a2 l3 (decide ((l3.length : Int) > 2147483647)))
theorem laws_FnInputStream.mono_l : ∀ k, (∀ y0 y1 y2 y3 y4, LeO (laws_FnInputStream.j0 k y0 y1 y2 y3 y4) (laws_FnInputStream.j0 (k + 1) y0 y1 y2 y3 y4)) ∧ (∀ y0 y1 y2 y3 y4, LeO (laws_FnInputStream.j1 k y0 y1 y2 y3 y4) (laws_FnInputStream.j1 (k + 1) y0 y1 y2 y3 y4))
  | 0 => ⟨fun _ _ _ _ _ r h => by simp [laws_FnInputStream.j0] at h, fun _ _ _ _ _ r h => by simp [laws_FnInputStream.j1] at h⟩
  | k + 1 => by
    obtain ⟨ih0, ih1⟩ := laws_FnInputStream.mono_l k
    refine ⟨?_, ?_⟩
    · intro y0 y1 y2 y3 y4
      unfold laws_FnInputStream.j0
      repeat' first
      | (with_reducible exact ih0 _ _ _ _ _)
      | (with_reducible exact ih1 _ _ _ _ _)
      | (with_reducible exact laws_sameAnswers.mono _ _ _)
      | (with_reducible exact laws_stepsOk.mono _ _ _)
      | (with_reducible exact spec_Answers.mono _ _ _)
      | (with_reducible exact spec_HasStep.mono _ _ _)
      | (with_reducible exact LeO.refl _)
      | (with_reducible exact LeO.none _)
      | (with_reducible refine LeO.ite ?_ ?_)
      | (with_reducible refine LeO.bind ?_ (fun _ => ?_))
      | exact ih0 _ _ _ _ _
      | exact ih1 _ _ _ _ _
      | exact laws_sameAnswers.mono _ _ _
      | exact laws_stepsOk.mono _ _ _
      | exact spec_Answers.mono _ _ _
      | exact spec_HasStep.mono _ _ _
      | exact LeO.none _
      | refine LeO.ite ?_ ?_
      | refine LeO.bind ?_ (fun _ => ?_)
    · intro y0 y1 y2 y3 y4
      unfold laws_FnInputStream.j1
      repeat' first
      | (with_reducible exact ih0 _ _ _ _ _)
      | (with_reducible exact ih1 _ _ _ _ _)
      | (with_reducible exact laws_sameAnswers.mono _ _ _)
      | (with_reducible exact laws_stepsOk.mono _ _ _)
      | (with_reducible exact spec_Answers.mono _ _ _)
      | (with_reducible exact spec_HasStep.mono _ _ _)
      | (with_reducible exact LeO.refl _)
      | (with_reducible exact LeO.none _)
      | (with_reducible refine LeO.ite ?_ ?_)
      | (with_reducible refine LeO.bind ?_ (fun _ => ?_))
      | exact ih0 _ _ _ _ _
      | exact ih1 _ _ _ _ _
      | exact laws_sameAnswers.mono _ _ _
      | exact laws_stepsOk.mono _ _ _
      | exact spec_Answers.mono _ _ _
      | exact spec_HasStep.mono _ _ _
      | exact LeO.none _
      | refine LeO.ite ?_ ?_
      | refine LeO.bind ?_ (fun _ => ?_)
theorem laws_FnInputStream.mono : ∀ a0 a1 a2 a3 k, LeO (laws_FnInputStream.f k a0 a1 a2 a3) (laws_FnInputStream.f (k + 1) a0 a1 a2 a3) := by
  intro a0 a1 a2 a3 k
  obtain ⟨ih0, ih1⟩ := laws_FnInputStream.mono_l k
  unfold laws_FnInputStream.f
  repeat' first
      | (with_reducible exact ih0 _ _ _ _ _)
      | (with_reducible exact ih1 _ _ _ _ _)
      | (with_reducible exact laws_sameAnswers.mono _ _ _)
      | (with_reducible exact laws_stepsOk.mono _ _ _)
      | (with_reducible exact spec_Answers.mono _ _ _)
      | (with_reducible exact spec_HasStep.mono _ _ _)
      | (with_reducible exact LeO.refl _)
      | (with_reducible exact LeO.none _)
      | (with_reducible refine LeO.ite ?_ ?_)
      | (with_reducible refine LeO.bind ?_ (fun _ => ?_))
      | exact ih0 _ _ _ _ _
      | exact ih1 _ _ _ _ _
      | exact laws_sameAnswers.mono _ _ _
      | exact laws_stepsOk.mono _ _ _
      | exact spec_Answers.mono _ _ _
      | exact spec_HasStep.mono _ _ _
      | exact LeO.none _
      | refine LeO.ite ?_ ?_
      | refine LeO.bind ?_ (fun _ => ?_)
set_option maxHeartbeats 8000000 in
set_option maxRecDepth 100000 in
theorem laws_FnInputStream.calls (k : Nat) (A0 : Option Addr) (c0 : Nat) (l0 : List Int) (a1 : Int) (a2 : Int) (A3 : Option Addr) (c3 : Nat) (l3 : List (S44)) (r : Bool) (w : World) (hr0 : Kd.C (Kd.int .u8) w A0 l0.length l0) (hc0 : l0.length ≤ c0) (hr3 : Kd.C k44 w A3 l3.length l3) (hc3 : l3.length ≤ c3) (h : laws_FnInputStream.f k l0 a1 a2 l3 = some r) (HTabE : Aside0 (Own.TabE w)) :
    Calls Tryd.prog 7 #[.slice A0 l0.length c0, .int .i64 a1, .int .i64 a2, .slice A3 l3.length c3] w fun e w' => e = .returned (.bool r) ∧ Below w.heap.size w w' := by
  have HR0 := Aside0.mk hr0
  have HC0 := Aside0.mk hc0
  clear hr0 hc0
  have HR3 := Aside0.mk hr3
  have HC3 := Aside0.mk hc3
  clear hr3 hc3
  have HB := Aside0.mk (Below.refl w.heap.size w)
  have H : (if (l0.length : Int) > 2147483647 then (laws_FnInputStream.j0 k l0 a1 a2 l3 true) else (laws_FnInputStream.j0 k l0 a1 a2 l3 (decide ((l3.length : Int) > 2147483647)))) = some r := h
  clear h
  have HC5 := Aside0.mk H
  clear H
  go_enter Tryd.func7, Tryd.ntmps7
  go_upto_region 1 with (fail)
  go_cut [18] (fun v18 wc => ∃ (kq : Nat) (x18_4 : Bool), v18 = .bool x18_4 ∧ Aside0 (laws_FnInputStream.j0 kq l0 a1 a2 l3 x18_4 = some r) ∧ Aside0 (kq ≤ k) ∧ Aside0 (Below w.heap.size w wc))
  case first =>
    have H := HC5.out
    clear HC5
    by_cases c6 : (l0.length : Int) > 2147483647
    · rw [if_pos c6] at H
      have c6b0 : decide (2147483647 < (l0.length : Int)) = true := decide_eq_true c6
      have c6b1 : decide (2147483647 < l0.length) = true := decide_eq_true (by omega)
      clear c6
      (first | rw [c6b0] | (simp only [i64_w, i32_w]; rw [c6b0]) | skip)
      have H' := Aside0.mk H
      clear H
      go_wp2
      go_meet
      case rel => exact ⟨_, (true), (by first | rfl | (simp; done) | (simp [*]; done)), H', ⟨by first | omega | exact Nat.le_refl _⟩, ⟨by repeat (first | (with_reducible first | exact HB.out | apply below_alloc | apply pw_below_drewN | apply below_drew1) | exact HB.out)⟩⟩
    · rw [if_neg c6] at H
      have c6b0 : decide (2147483647 < (l0.length : Int)) = false := decide_eq_false c6
      have c6b1 : decide (2147483647 < l0.length) = false := decide_eq_false (by omega)
      clear c6
      (first | rw [c6b0] | (simp only [i64_w, i32_w]; rw [c6b0]) | skip)
      have H' := Aside0.mk H
      clear H
      go_wp2
      go_meet
      case rel => exact ⟨_, (decide ((l3.length : Int) > 2147483647)), (by first | rfl | (simp; done) | (simp [*]; done)), H', ⟨by first | omega | exact Nat.le_refl _⟩, ⟨by repeat (first | (with_reducible first | exact HB.out | apply below_alloc | apply pw_below_drewN | apply below_drew1) | exact HB.out)⟩⟩
  case rest =>
    clear HC5
    try clear p2
    try clear c3
    try clear c6
    try clear c6b0
    try clear c6b1
    obtain ⟨kq, x18_4, rfl, HA, HJ4, HB⟩ := hcut
    cases kq with
    | zero => exact absurd HA.out (by simp [laws_FnInputStream.j0])
    | succ kj4 =>
      have H := HA.out
      clear HA
      simp only [laws_FnInputStream.j0] at H
      by_cases c7 : x18_4 = true
      · subst c7
        have H1 : (some true) = some r := by rw [if_pos rfl] at H; exact H
        clear H
        have H := H1
        clear H1
        obtain rfl := Option.some.inj H
        go_wp2
        go_ret
        exact ⟨by first | rfl | (simp [errW_none, errW_some] <;> rfl) | (simp [*, errW_none, errW_some] <;> rfl), by repeat (first | (with_reducible first | exact HB.out | apply below_alloc | apply pw_below_drewN | apply below_drew1) | exact HB.out)⟩
      · replace c7 := Bool.eq_false_iff.mpr c7
        subst c7
        have H1 : ((laws_stepsOk.f kj4 l0 l3).bind fun t155 => (if t155 = true then (if a1 < 1 then (laws_FnInputStream.j1 kj4 l0 a1 a2 l3 true) else (if a1 > 300 then (laws_FnInputStream.j1 kj4 l0 a1 a2 l3 true) else (if a2 < 1 then (laws_FnInputStream.j1 kj4 l0 a1 a2 l3 true) else (laws_FnInputStream.j1 kj4 l0 a1 a2 l3 (decide (a2 > 300)))))) else (laws_FnInputStream.j1 kj4 l0 a1 a2 l3 true))) = some r := by rw [if_neg (show ¬ (false = true) by decide)] at H; exact H
        clear H
        have H := H1
        clear H1
        have HC8 := Aside0.mk H
        clear H
        go_upto_region 3 with (fail)
        go_cut [38] (fun v38 wc => ∃ (kq : Nat) (x38_7 : Bool), v38 = .bool x38_7 ∧ Aside0 (laws_FnInputStream.j1 kq l0 a1 a2 l3 x38_7 = some r) ∧ Aside0 (kq ≤ kj4) ∧ Aside0 (Below w.heap.size w wc))
        case first =>
          have H := HC8.out
          clear HC8
          replace H := Option.bind_eq_some_iff.mp H
          obtain ⟨t155, A90, H⟩ := H
          replace H : (if t155 = true then (if a1 < 1 then (laws_FnInputStream.j1 kj4 l0 a1 a2 l3 true) else (if a1 > 300 then (laws_FnInputStream.j1 kj4 l0 a1 a2 l3 true) else (if a2 < 1 then (laws_FnInputStream.j1 kj4 l0 a1 a2 l3 true) else (laws_FnInputStream.j1 kj4 l0 a1 a2 l3 (decide (a2 > 300)))))) else (laws_FnInputStream.j1 kj4 l0 a1 a2 l3 true)) = some r := H
          have A9 := Aside0.mk A90
          clear A90
          by_cases c10 : t155 = true
          · subst c10
            have H1 : (if a1 < 1 then (laws_FnInputStream.j1 kj4 l0 a1 a2 l3 true) else (if a1 > 300 then (laws_FnInputStream.j1 kj4 l0 a1 a2 l3 true) else (if a2 < 1 then (laws_FnInputStream.j1 kj4 l0 a1 a2 l3 true) else (laws_FnInputStream.j1 kj4 l0 a1 a2 l3 (decide (a2 > 300)))))) = some r := by rw [if_pos rfl] at H; exact H
            clear H
            have H := H1
            clear H1
            by_cases c11 : a1 < 1
            · rw [if_pos c11] at H
              have c11b0 : decide (a1 < 1) = true := decide_eq_true c11
              clear c11
              (first | rw [c11b0] | (simp only [i64_w, i32_w]; rw [c11b0]) | skip)
              have H' := Aside0.mk H
              clear H
              go_wp2_with (first | ((with_reducible refine gate_callee (f := 13) rfl ?_); refine goesL_ (some 21) rfl rfl Tryd.func13 (by kernel_rfl) rfl #[.slice A0 l0.length c0, .slice A3 l3.length c3] rfl (by (try simp only [List.map_toArray, List.map_cons, List.map_nil]); first | done | rfl | (simp only [List.length_drop, List.length_take]; rfl)) ?_; (with_reducible refine (laws_stepsOk.calls kj4 (fun k_ => k_ < w.heap.size) _ _ l0 _ _ l3 true _ ?side1 ?side2 ?side3 A9.out).mono ?_); (case side1 => exact Kd.V_mk HC0.out (Kd.F_below (Kd.C_F (Kd.heap_int .u8) HR0.out) (by repeat (first | (with_reducible first | exact HB.out | apply below_alloc | apply pw_below_drewN | apply below_drew1) | exact HB.out)))); (case side2 => repeat (first | exact (Kd.C_below HR3.out HB.out) | (with_reducible refine Kd.C_alloc ?_ _) | (with_reducible refine Kd.C_drewN ?_ _) | (with_reducible refine Kd.C_drew ?_))); (case side3 => exact HC3.out); rintro e w12 ⟨rfl, hb⟩; refine ⟨_, rfl, ?_⟩; have n0_ := Aside0.mk (below_step (by repeat (first | (with_reducible first | exact HB.out | apply below_alloc | apply pw_below_drewN | apply below_drew1) | exact HB.out)) hb); clear HB; have HB := n0_; clear n0_; (try clear hb); (try clear hb2); (try clear hk); (try clear hi)))
              go_meet
              case rel => exact ⟨_, (true), (by first | rfl | (simp; done) | (simp [*]; done)), H', ⟨by have := HJ4.out; first | omega | exact Nat.le_refl _⟩, ⟨by repeat (first | (with_reducible first | exact HB.out | apply below_alloc | apply pw_below_drewN | apply below_drew1) | exact HB.out)⟩⟩
            · rw [if_neg c11] at H
              have c11b0 : decide (a1 < 1) = false := decide_eq_false c11
              clear c11
              (first | rw [c11b0] | (simp only [i64_w, i32_w]; rw [c11b0]) | skip)
              by_cases c13 : a1 > 300
              · rw [if_pos c13] at H
                have c13b0 : decide (300 < a1) = true := decide_eq_true c13
                clear c13
                have H' := Aside0.mk H
                clear H
                go_wp2_with (first | ((with_reducible refine gate_callee (f := 13) rfl ?_); refine goesL_ (some 21) rfl rfl Tryd.func13 (by kernel_rfl) rfl #[.slice A0 l0.length c0, .slice A3 l3.length c3] rfl (by (try simp only [List.map_toArray, List.map_cons, List.map_nil]); first | done | rfl | (simp only [List.length_drop, List.length_take]; rfl)) ?_; (with_reducible refine (laws_stepsOk.calls kj4 (fun k_ => k_ < w.heap.size) _ _ l0 _ _ l3 true _ ?side1 ?side2 ?side3 A9.out).mono ?_); (case side1 => exact Kd.V_mk HC0.out (Kd.F_below (Kd.C_F (Kd.heap_int .u8) HR0.out) (by repeat (first | (with_reducible first | exact HB.out | apply below_alloc | apply pw_below_drewN | apply below_drew1) | exact HB.out)))); (case side2 => repeat (first | exact (Kd.C_below HR3.out HB.out) | (with_reducible refine Kd.C_alloc ?_ _) | (with_reducible refine Kd.C_drewN ?_ _) | (with_reducible refine Kd.C_drew ?_))); (case side3 => exact HC3.out); rintro e w14 ⟨rfl, hb⟩; refine ⟨_, rfl, ?_⟩; have n0_ := Aside0.mk (below_step (by repeat (first | (with_reducible first | exact HB.out | apply below_alloc | apply pw_below_drewN | apply below_drew1) | exact HB.out)) hb); clear HB; have HB := n0_; clear n0_; (try clear hb); (try clear hb2); (try clear hk); (try clear hi)))
                go_meet
                case rel => exact ⟨_, (true), (by first | rfl | (simp; done) | (simp [*]; done)), H', ⟨by have := HJ4.out; first | omega | exact Nat.le_refl _⟩, ⟨by repeat (first | (with_reducible first | exact HB.out | apply below_alloc | apply pw_below_drewN | apply below_drew1) | exact HB.out)⟩⟩
              · rw [if_neg c13] at H
                have c13b0 : decide (300 < a1) = false := decide_eq_false c13
                clear c13
                by_cases c15 : a2 < 1
                · rw [if_pos c15] at H
                  have c15b0 : decide (a2 < 1) = true := decide_eq_true c15
                  clear c15
                  have H' := Aside0.mk H
                  clear H
                  go_wp2_with (first | ((with_reducible refine gate_callee (f := 13) rfl ?_); refine goesL_ (some 21) rfl rfl Tryd.func13 (by kernel_rfl) rfl #[.slice A0 l0.length c0, .slice A3 l3.length c3] rfl (by (try simp only [List.map_toArray, List.map_cons, List.map_nil]); first | done | rfl | (simp only [List.length_drop, List.length_take]; rfl)) ?_; (with_reducible refine (laws_stepsOk.calls kj4 (fun k_ => k_ < w.heap.size) _ _ l0 _ _ l3 true _ ?side1 ?side2 ?side3 A9.out).mono ?_); (case side1 => exact Kd.V_mk HC0.out (Kd.F_below (Kd.C_F (Kd.heap_int .u8) HR0.out) (by repeat (first | (with_reducible first | exact HB.out | apply below_alloc | apply pw_below_drewN | apply below_drew1) | exact HB.out)))); (case side2 => repeat (first | exact (Kd.C_below HR3.out HB.out) | (with_reducible refine Kd.C_alloc ?_ _) | (with_reducible refine Kd.C_drewN ?_ _) | (with_reducible refine Kd.C_drew ?_))); (case side3 => exact HC3.out); rintro e w16 ⟨rfl, hb⟩; refine ⟨_, rfl, ?_⟩; have n0_ := Aside0.mk (below_step (by repeat (first | (with_reducible first | exact HB.out | apply below_alloc | apply pw_below_drewN | apply below_drew1) | exact HB.out)) hb); clear HB; have HB := n0_; clear n0_; (try clear hb); (try clear hb2); (try clear hk); (try clear hi)))
                  go_meet
                  case rel => exact ⟨_, (true), (by first | rfl | (simp; done) | (simp [*]; done)), H', ⟨by have := HJ4.out; first | omega | exact Nat.le_refl _⟩, ⟨by repeat (first | (with_reducible first | exact HB.out | apply below_alloc | apply pw_below_drewN | apply below_drew1) | exact HB.out)⟩⟩
                · rw [if_neg c15] at H
                  have c15b0 : decide (a2 < 1) = false := decide_eq_false c15
                  clear c15
                  have H' := Aside0.mk H
                  clear H
                  go_wp2_with (first | ((with_reducible refine gate_callee (f := 13) rfl ?_); refine goesL_ (some 21) rfl rfl Tryd.func13 (by kernel_rfl) rfl #[.slice A0 l0.length c0, .slice A3 l3.length c3] rfl (by (try simp only [List.map_toArray, List.map_cons, List.map_nil]); first | done | rfl | (simp only [List.length_drop, List.length_take]; rfl)) ?_; (with_reducible refine (laws_stepsOk.calls kj4 (fun k_ => k_ < w.heap.size) _ _ l0 _ _ l3 true _ ?side1 ?side2 ?side3 A9.out).mono ?_); (case side1 => exact Kd.V_mk HC0.out (Kd.F_below (Kd.C_F (Kd.heap_int .u8) HR0.out) (by repeat (first | (with_reducible first | exact HB.out | apply below_alloc | apply pw_below_drewN | apply below_drew1) | exact HB.out)))); (case side2 => repeat (first | exact (Kd.C_below HR3.out HB.out) | (with_reducible refine Kd.C_alloc ?_ _) | (with_reducible refine Kd.C_drewN ?_ _) | (with_reducible refine Kd.C_drew ?_))); (case side3 => exact HC3.out); rintro e w17 ⟨rfl, hb⟩; refine ⟨_, rfl, ?_⟩; have n0_ := Aside0.mk (below_step (by repeat (first | (with_reducible first | exact HB.out | apply below_alloc | apply pw_below_drewN | apply below_drew1) | exact HB.out)) hb); clear HB; have HB := n0_; clear n0_; (try clear hb); (try clear hb2); (try clear hk); (try clear hi)))
                  go_meet
                  case rel => exact ⟨_, (decide (a2 > 300)), (by first | rfl | (simp; done) | (simp [*]; done)), H', ⟨by have := HJ4.out; first | omega | exact Nat.le_refl _⟩, ⟨by repeat (first | (with_reducible first | exact HB.out | apply below_alloc | apply pw_below_drewN | apply below_drew1) | exact HB.out)⟩⟩
          · replace c10 := Bool.eq_false_iff.mpr c10
            subst c10
            have H1 : (laws_FnInputStream.j1 kj4 l0 a1 a2 l3 true) = some r := by rw [if_neg (show ¬ (false = true) by decide)] at H; exact H
            clear H
            have H := H1
            clear H1
            have H' := Aside0.mk H
            clear H
            go_wp2_with (first | ((with_reducible refine gate_callee (f := 13) rfl ?_); refine goesL_ (some 21) rfl rfl Tryd.func13 (by kernel_rfl) rfl #[.slice A0 l0.length c0, .slice A3 l3.length c3] rfl (by (try simp only [List.map_toArray, List.map_cons, List.map_nil]); first | done | rfl | (simp only [List.length_drop, List.length_take]; rfl)) ?_; (with_reducible refine (laws_stepsOk.calls kj4 (fun k_ => k_ < w.heap.size) _ _ l0 _ _ l3 false _ ?side1 ?side2 ?side3 A9.out).mono ?_); (case side1 => exact Kd.V_mk HC0.out (Kd.F_below (Kd.C_F (Kd.heap_int .u8) HR0.out) (by repeat (first | (with_reducible first | exact HB.out | apply below_alloc | apply pw_below_drewN | apply below_drew1) | exact HB.out)))); (case side2 => repeat (first | exact (Kd.C_below HR3.out HB.out) | (with_reducible refine Kd.C_alloc ?_ _) | (with_reducible refine Kd.C_drewN ?_ _) | (with_reducible refine Kd.C_drew ?_))); (case side3 => exact HC3.out); rintro e w18 ⟨rfl, hb⟩; refine ⟨_, rfl, ?_⟩; have n0_ := Aside0.mk (below_step (by repeat (first | (with_reducible first | exact HB.out | apply below_alloc | apply pw_below_drewN | apply below_drew1) | exact HB.out)) hb); clear HB; have HB := n0_; clear n0_; (try clear hb); (try clear hb2); (try clear hk); (try clear hi)))
            go_meet
            case rel => exact ⟨_, (true), (by first | rfl | (simp; done) | (simp [*]; done)), H', ⟨by have := HJ4.out; first | omega | exact Nat.le_refl _⟩, ⟨by repeat (first | (with_reducible first | exact HB.out | apply below_alloc | apply pw_below_drewN | apply below_drew1) | exact HB.out)⟩⟩
        case rest =>
          clear HC8
          try clear c1
          try clear p2
          try clear c3
          try clear c6
          try clear c6b0
          try clear c6b1
          try clear c7
          try clear c10
          try clear c11
          try clear c11b0
          try clear c13
          try clear c13b0
          try clear c15
          try clear c15b0
          try clear p2
          obtain ⟨kq, x38_7, rfl, HA, HJ7, HB⟩ := hcut
          cases kq with
          | zero => exact absurd HA.out (by simp [laws_FnInputStream.j1])
          | succ kj7 =>
            have H := HA.out
            clear HA
            simp only [laws_FnInputStream.j1] at H
            by_cases c19 : x38_7 = true
            · subst c19
              have H1 : (some true) = some r := by rw [if_pos rfl] at H; exact H
              clear H
              have H := H1
              clear H1
              obtain rfl := Option.some.inj H
              go_wp2
              go_ret
              exact ⟨by first | rfl | (simp [errW_none, errW_some] <;> rfl) | (simp [*, errW_none, errW_some] <;> rfl), by repeat (first | (with_reducible first | exact HB.out | apply below_alloc | apply pw_below_drewN | apply below_drew1) | exact HB.out)⟩
            · replace c19 := Bool.eq_false_iff.mpr c19
              subst c19
              have H1 : ((spec_HasStep.f kj7 l3 (([5, 8, 10, 11] : List Int))).bind fun t159 => (if t159 = true then (some true) else ((spec_Answers.f kj7 l0 l3).bind fun bt160 => (if bt160.2 = true then ((impl_RunStream.f l0 a1 a2 l3).bind fun t164 => ((laws_sameAnswers.f kj7 t164 bt160.1).bind fun t167 => (some t167))) else (some true))))) = some r := by rw [if_neg (show ¬ (false = true) by decide)] at H; exact H
              clear H
              have H := H1
              clear H1
              obtain ⟨y156, hy156⟩ : ∃ y_ : List Int, y_ = (([5, 8, 10, 11] : List Int)) := ⟨_, rfl⟩
              replace H : ((spec_HasStep.f kj7 l3 y156).bind fun t159 => (if t159 = true then (some true) else ((spec_Answers.f kj7 l0 l3).bind fun bt160 => (if bt160.2 = true then ((impl_RunStream.f l0 a1 a2 l3).bind fun t164 => ((laws_sameAnswers.f kj7 t164 bt160.1).bind fun t167 => (some t167))) else (some true))))) = some r := by first | (rw [hy156]; with_reducible exact H) | (have H2_ := (Option.bind_some _ _).symm.trans H; rw [hy156]; with_reducible exact H2_) | (have H2_ := (Option.bind_some _ _).symm.trans H; with_reducible exact H2_) | with_reducible exact H | (rw [hy156]; exact H) | exact H
              have Ny156 := Aside0.mk hy156
              clear hy156
              replace H := Option.bind_eq_some_iff.mp H
              obtain ⟨t159, A200, H⟩ := H
              replace H : (if t159 = true then (some true) else ((spec_Answers.f kj7 l0 l3).bind fun bt160 => (if bt160.2 = true then ((impl_RunStream.f l0 a1 a2 l3).bind fun t164 => ((laws_sameAnswers.f kj7 t164 bt160.1).bind fun t167 => (some t167))) else (some true)))) = some r := H
              have A20 := Aside0.mk A200
              clear A200
              by_cases c21 : t159 = true
              · subst c21
                have H1 : (some true) = some r := by rw [if_pos rfl] at H; exact H
                clear H
                have H := H1
                clear H1
                obtain rfl := Option.some.inj H
                go_wp2_with (first | ((with_reducible refine gate_dst (N := 40) rfl ?_); (try (refine gate_guard (by rfl) ?_; dsimp only)); refine Kd.R_lit (Kd.int .i64) _ 2 ?hg (N := 40) ?hd (xs := ([5, 8, 10, 11] : List Int)) (inner := [.int .i64 5, .int .i64 8, .int .i64 10, .int .i64 11]) (ok := fun _ => True) (okp := fun _ => True) ?hr ?hp (fun _ hk => hk) trivial (Below.refl _ _) (Nat.le_refl _) (by simp) ?_; (case hd => rfl); (case hg => rfl); (case hr => first | (go_simp; done) | (go_simp; rfl)); (case hp => exact (Reps.one (show Kd.M (Kd.int .i64) _ _ _ 5 [.int .i64 5] from rfl) (Reps.one (show Kd.M (Kd.int .i64) _ _ _ 8 [.int .i64 8] from rfl) (Reps.one (show Kd.M (Kd.int .i64) _ _ _ 10 [.int .i64 10] from rfl) (Reps.one (show Kd.M (Kd.int .i64) _ _ _ 11 [.int .i64 11] from rfl) (Reps.none _ _)))))); intro v157 w22 ho23 hb hg_ hnew_; clear hg_ hnew_; (first | rw [← Ny156.out] at ho23 | (simp only [Int.reduceToNat] at ho23; rw [← Ny156.out] at ho23)); have n0_ := Aside0.mk (Kd.R_lower ho23 (below_size (by repeat (first | (with_reducible first | exact HB.out | apply below_alloc | apply pw_below_drewN | apply below_drew1) | exact HB.out)))); have n1_ := Aside0.mk (below_step (by repeat (first | (with_reducible first | exact HB.out | apply below_alloc | apply pw_below_drewN | apply below_drew1) | exact HB.out)) hb); clear HB; have HO158 := n0_; have HB := n1_; clear n0_ n1_; clear hb ho23; obtain ⟨Ao24, co24, eo24⟩ := Kd.R_slice HO158.out; subst eo24) | ((with_reducible refine gate_callee (f := 14) rfl ?_); refine goesL_ (some 41) rfl rfl Tryd.func14 (by kernel_rfl) rfl #[.slice A3 l3.length c3, .slice Ao24 y156.length co24] rfl (by (try simp only [List.map_toArray, List.map_cons, List.map_nil]); first | done | rfl | (simp only [List.length_drop, List.length_take]; rfl)) ?_; (with_reducible refine (spec_HasStep.calls kj7 _ _ l3 _ _ y156 true _ ?side1 ?side2 ?side3 ?side4 A20.out).mono ?_); (case side1 => repeat (first | exact (Kd.C_below HR3.out HB.out) | (with_reducible refine Kd.C_alloc ?_ _) | (with_reducible refine Kd.C_drewN ?_ _) | (with_reducible refine Kd.C_drew ?_))); (case side2 => exact HC3.out); (case side3 => repeat (first | exact (Kd.R_reads' HO158.out).2.2 | (with_reducible refine Kd.C_alloc ?_ _) | (with_reducible refine Kd.C_drewN ?_ _) | (with_reducible refine Kd.C_drew ?_))); (case side4 => exact (Kd.R_reads' HO158.out).2.1); rintro e w25 ⟨rfl, hb⟩; refine ⟨_, rfl, ?_⟩; have n0_ := Aside0.mk (Kd.R_below (by (with_reducible repeat (first | apply Kd.R_alloc | apply Kd.R_drewN | apply Kd.R_drew)); exact HO158.out) hb); have n1_ := Aside0.mk (below_step (by repeat (first | (with_reducible first | exact HB.out | apply below_alloc | apply pw_below_drewN | apply below_drew1) | exact HB.out)) hb); clear HO158; clear HB; have HO158 := n0_; have HB := n1_; clear n0_ n1_; (try clear hb); (try clear hb2); (try clear hk); (try clear hi)))
                go_ret
                exact ⟨by first | rfl | (simp [errW_none, errW_some] <;> rfl) | (simp [*, errW_none, errW_some] <;> rfl), by repeat (first | (with_reducible first | exact HB.out | apply below_alloc | apply pw_below_drewN | apply below_drew1) | exact HB.out)⟩
              · replace c21 := Bool.eq_false_iff.mpr c21
                subst c21
                have H1 : ((spec_Answers.f kj7 l0 l3).bind fun bt160 => (if bt160.2 = true then ((impl_RunStream.f l0 a1 a2 l3).bind fun t164 => ((laws_sameAnswers.f kj7 t164 bt160.1).bind fun t167 => (some t167))) else (some true))) = some r := by rw [if_neg (show ¬ (false = true) by decide)] at H; exact H
                clear H
                have H := H1
                clear H1
                replace H := Option.bind_eq_some_iff.mp H
                obtain ⟨⟨t160, t161⟩, A260, H⟩ := H
                replace H : (if t161 = true then ((impl_RunStream.f l0 a1 a2 l3).bind fun t164 => ((laws_sameAnswers.f kj7 t164 t160).bind fun t167 => (some t167))) else (some true)) = some r := H
                have A26 := Aside0.mk A260
                clear A260
                by_cases c27 : t161 = true
                · subst c27
                  have H1 : ((impl_RunStream.f l0 a1 a2 l3).bind fun t164 => ((laws_sameAnswers.f kj7 t164 t160).bind fun t167 => (some t167))) = some r := by rw [if_pos rfl] at H; exact H
                  clear H
                  have H := H1
                  clear H1
                  replace H := Option.bind_eq_some_iff.mp H
                  obtain ⟨t164, A280, H⟩ := H
                  replace H : ((laws_sameAnswers.f kj7 t164 t160).bind fun t167 => (some t167)) = some r := H
                  have A28 := Aside0.mk A280
                  clear A280
                  replace H := Option.bind_eq_some_iff.mp H
                  obtain ⟨t167, A290, H⟩ := H
                  replace H : (some t167) = some r := H
                  have A29 := Aside0.mk A290
                  clear A290
                  obtain rfl := Option.some.inj H
                  go_wp2_with (first | ((with_reducible refine gate_dst (N := 40) rfl ?_); (try (refine gate_guard (by rfl) ?_; dsimp only)); refine Kd.R_lit (Kd.int .i64) _ 2 ?hg (N := 40) ?hd (xs := ([5, 8, 10, 11] : List Int)) (inner := [.int .i64 5, .int .i64 8, .int .i64 10, .int .i64 11]) (ok := fun _ => True) (okp := fun _ => True) ?hr ?hp (fun _ hk => hk) trivial (Below.refl _ _) (Nat.le_refl _) (by simp) ?_; (case hd => rfl); (case hg => rfl); (case hr => first | (go_simp; done) | (go_simp; rfl)); (case hp => exact (Reps.one (show Kd.M (Kd.int .i64) _ _ _ 5 [.int .i64 5] from rfl) (Reps.one (show Kd.M (Kd.int .i64) _ _ _ 8 [.int .i64 8] from rfl) (Reps.one (show Kd.M (Kd.int .i64) _ _ _ 10 [.int .i64 10] from rfl) (Reps.one (show Kd.M (Kd.int .i64) _ _ _ 11 [.int .i64 11] from rfl) (Reps.none _ _)))))); intro v157 w30 ho31 hb hg_ hnew_; clear hg_ hnew_; (first | rw [← Ny156.out] at ho31 | (simp only [Int.reduceToNat] at ho31; rw [← Ny156.out] at ho31)); have n0_ := Aside0.mk (Kd.R_lower ho31 (below_size (by repeat (first | (with_reducible first | exact HB.out | apply below_alloc | apply pw_below_drewN | apply below_drew1) | exact HB.out)))); have n1_ := Aside0.mk (below_step (by repeat (first | (with_reducible first | exact HB.out | apply below_alloc | apply pw_below_drewN | apply below_drew1) | exact HB.out)) hb); clear HB; have HO158 := n0_; have HB := n1_; clear n0_ n1_; clear hb ho31; obtain ⟨Ao32, co32, eo32⟩ := Kd.R_slice HO158.out; subst eo32) | ((with_reducible refine gate_callee (f := 14) rfl ?_); refine goesL_ (some 41) rfl rfl Tryd.func14 (by kernel_rfl) rfl #[.slice A3 l3.length c3, .slice Ao32 y156.length co32] rfl (by (try simp only [List.map_toArray, List.map_cons, List.map_nil]); first | done | rfl | (simp only [List.length_drop, List.length_take]; rfl)) ?_; (with_reducible refine (spec_HasStep.calls kj7 _ _ l3 _ _ y156 false _ ?side1 ?side2 ?side3 ?side4 A20.out).mono ?_); (case side1 => repeat (first | exact (Kd.C_below HR3.out HB.out) | (with_reducible refine Kd.C_alloc ?_ _) | (with_reducible refine Kd.C_drewN ?_ _) | (with_reducible refine Kd.C_drew ?_))); (case side2 => exact HC3.out); (case side3 => repeat (first | exact (Kd.R_reads' HO158.out).2.2 | (with_reducible refine Kd.C_alloc ?_ _) | (with_reducible refine Kd.C_drewN ?_ _) | (with_reducible refine Kd.C_drew ?_))); (case side4 => exact (Kd.R_reads' HO158.out).2.1); rintro e w33 ⟨rfl, hb⟩; refine ⟨_, rfl, ?_⟩; have n0_ := Aside0.mk (Kd.R_below (by (with_reducible repeat (first | apply Kd.R_alloc | apply Kd.R_drewN | apply Kd.R_drew)); exact HO158.out) hb); have n1_ := Aside0.mk (below_step (by repeat (first | (with_reducible first | exact HB.out | apply below_alloc | apply pw_below_drewN | apply below_drew1) | exact HB.out)) hb); clear HO158; clear HB; have HO158 := n0_; have HB := n1_; clear n0_ n1_; (try clear hb); (try clear hb2); (try clear hk); (try clear hi)) | ((with_reducible refine gate_callee (f := 15) rfl ?_); refine goesL_ (some 45) rfl rfl Tryd.func15 (by kernel_rfl) rfl #[.slice A0 l0.length c0, .slice A3 l3.length c3] rfl (by (try simp only [List.map_toArray, List.map_cons, List.map_nil]); first | done | rfl | (simp only [List.length_drop, List.length_take]; rfl)) ?_; (with_reducible refine (spec_Answers.calls kj7 _ _ l0 _ _ l3 t160 true _ ?side1 ?side2 ?side3 ?side4 A26.out).mono ?_); (case side1 => repeat (first | exact (Kd.C_below HR0.out HB.out) | (with_reducible refine Kd.C_alloc ?_ _) | (with_reducible refine Kd.C_drewN ?_ _) | (with_reducible refine Kd.C_drew ?_))); (case side2 => exact HC0.out); (case side3 => repeat (first | exact (Kd.C_below HR3.out HB.out) | (with_reducible refine Kd.C_alloc ?_ _) | (with_reducible refine Kd.C_drewN ?_ _) | (with_reducible refine Kd.C_drew ?_))); (case side4 => exact HC3.out); rintro e w34 ⟨v162, rfl, ho0, hb⟩; refine ⟨_, rfl, ?_⟩; have n0_ := Aside0.mk (Kd.R_below (by (with_reducible repeat (first | apply Kd.R_alloc | apply Kd.R_drewN | apply Kd.R_drew)); exact HO158.out) hb); have n1_ := Aside0.mk (Kd.R_lower ho0 (below_size (by repeat (first | (with_reducible first | exact HB.out | apply below_alloc | apply pw_below_drewN | apply below_drew1) | exact HB.out)))); have n2_ := Aside0.mk (below_step (by repeat (first | (with_reducible first | exact HB.out | apply below_alloc | apply pw_below_drewN | apply below_drew1) | exact HB.out)) hb); clear HO158; clear HB; have HO158 := n0_; have HO163 := n1_; have HB := n2_; clear n0_ n1_ n2_; (try clear hb); (try clear hb2); (try clear hk); (try clear hi); (try clear ho0)) | (go_at_call 19; (with_reducible refine (impl_RunStream.calls _ _ l0 a1 a2 _ _ l3 t164 _ ?side1 ?side2 ?side3 ?side4 A28.out ?tabTabE).mono ?_); (case tabTabE => first | exact HTabE | exact ⟨Own.TabE.below HTabE.out (by repeat (first | (with_reducible first | exact HB.out | apply below_alloc | apply pw_below_drewN | apply below_drew1) | exact HB.out))⟩ | exact ⟨Own.TabE.drawn HTabE.out (by repeat (first | exact Drawn0.refl _ | apply Drawn0.step))⟩); (case side1 => repeat (first | exact (Kd.C_below HR0.out HB.out) | (with_reducible refine Kd.C_alloc ?_ _) | (with_reducible refine Kd.C_drewN ?_ _) | (with_reducible refine Kd.C_drew ?_))); (case side2 => exact HC0.out); (case side3 => repeat (first | exact (Kd.C_below HR3.out HB.out) | (with_reducible refine Kd.C_alloc ?_ _) | (with_reducible refine Kd.C_drewN ?_ _) | (with_reducible refine Kd.C_drew ?_))); (case side4 => exact HC3.out); rintro e w35 ⟨v165, rfl, ho0, hb⟩; have n0_ := Aside0.mk (Kd.R_below (by (with_reducible repeat (first | apply Kd.R_alloc | apply Kd.R_drewN | apply Kd.R_drew)); exact HO158.out) hb); have n1_ := Aside0.mk (Kd.R_elder' (by (with_reducible repeat (first | apply Kd.R_alloc | apply Kd.R_drewN | apply Kd.R_drew)); exact HO163.out) (Kd.R_base ho0) hb); have n2_ := Aside0.mk (Kd.R_lower (Kd.R_new' ho0 (Kd.R_lt (by (with_reducible repeat (first | apply Kd.R_alloc | apply Kd.R_drewN | apply Kd.R_drew)); exact HO163.out))) (below_size (by repeat (first | (with_reducible first | exact HB.out | apply below_alloc | apply pw_below_drewN | apply below_drew1) | exact HB.out)))); have n3_ := Aside0.mk (below_step (by repeat (first | (with_reducible first | exact HB.out | apply below_alloc | apply pw_below_drewN | apply below_drew1) | exact HB.out)) hb); clear HO158; clear HO163; clear HB; have HO158 := n0_; have HO163 := n1_; have HO166 := n2_; have HB := n3_; clear n0_ n1_ n2_ n3_; (try clear hb); (try clear hb2); (try clear hk); (try clear hi); (try clear ho0); obtain ⟨Ao36, co36, eo36⟩ := Kd.R_slice HO166.out; subst eo36; obtain ⟨Ao37, co37, eo37⟩ := Kd.R_slice HO163.out; subst eo37) | (go_at_call 16; (with_reducible refine (laws_sameAnswers.calls kj7 _ _ t164 _ _ t160 t167 _ ?side1 ?side2 ?side3 ?side4 A29.out).mono ?_); (case side1 => repeat (first | exact (Kd.R_reads' HO166.out).2.2 | (with_reducible refine Kd.C_alloc ?_ _) | (with_reducible refine Kd.C_drewN ?_ _) | (with_reducible refine Kd.C_drew ?_))); (case side2 => exact (Kd.R_reads' HO166.out).2.1); (case side3 => repeat (first | exact (Kd.R_reads' HO163.out).2.2 | (with_reducible refine Kd.C_alloc ?_ _) | (with_reducible refine Kd.C_drewN ?_ _) | (with_reducible refine Kd.C_drew ?_))); (case side4 => exact (Kd.R_reads' HO163.out).2.1); rintro e w38 ⟨rfl, hb⟩; have n0_ := Aside0.mk (Kd.R_below (by (with_reducible repeat (first | apply Kd.R_alloc | apply Kd.R_drewN | apply Kd.R_drew)); exact HO158.out) hb); have n1_ := Aside0.mk (Kd.R_below (by (with_reducible repeat (first | apply Kd.R_alloc | apply Kd.R_drewN | apply Kd.R_drew)); exact HO163.out) hb); have n2_ := Aside0.mk (Kd.R_below (by (with_reducible repeat (first | apply Kd.R_alloc | apply Kd.R_drewN | apply Kd.R_drew)); exact HO166.out) hb); have n3_ := Aside0.mk (below_step (by repeat (first | (with_reducible first | exact HB.out | apply below_alloc | apply pw_below_drewN | apply below_drew1) | exact HB.out)) hb); clear HO158; clear HO163; clear HO166; clear HB; have HO158 := n0_; have HO163 := n1_; have HO166 := n2_; have HB := n3_; clear n0_ n1_ n2_ n3_; (try clear hb); (try clear hb2); (try clear hk); (try clear hi)))
                  go_ret
                  exact ⟨by first | rfl | (simp [errW_none, errW_some] <;> rfl) | (simp [*, errW_none, errW_some] <;> rfl), by repeat (first | (with_reducible first | exact HB.out | apply below_alloc | apply pw_below_drewN | apply below_drew1) | exact HB.out)⟩
                · replace c27 := Bool.eq_false_iff.mpr c27
                  subst c27
                  have H1 : (some true) = some r := by rw [if_neg (show ¬ (false = true) by decide)] at H; exact H
                  clear H
                  have H := H1
                  clear H1
                  obtain rfl := Option.some.inj H
                  go_wp2_with (first | ((with_reducible refine gate_dst (N := 40) rfl ?_); (try (refine gate_guard (by rfl) ?_; dsimp only)); refine Kd.R_lit (Kd.int .i64) _ 2 ?hg (N := 40) ?hd (xs := ([5, 8, 10, 11] : List Int)) (inner := [.int .i64 5, .int .i64 8, .int .i64 10, .int .i64 11]) (ok := fun _ => True) (okp := fun _ => True) ?hr ?hp (fun _ hk => hk) trivial (Below.refl _ _) (Nat.le_refl _) (by simp) ?_; (case hd => rfl); (case hg => rfl); (case hr => first | (go_simp; done) | (go_simp; rfl)); (case hp => exact (Reps.one (show Kd.M (Kd.int .i64) _ _ _ 5 [.int .i64 5] from rfl) (Reps.one (show Kd.M (Kd.int .i64) _ _ _ 8 [.int .i64 8] from rfl) (Reps.one (show Kd.M (Kd.int .i64) _ _ _ 10 [.int .i64 10] from rfl) (Reps.one (show Kd.M (Kd.int .i64) _ _ _ 11 [.int .i64 11] from rfl) (Reps.none _ _)))))); intro v157 w39 ho40 hb hg_ hnew_; clear hg_ hnew_; (first | rw [← Ny156.out] at ho40 | (simp only [Int.reduceToNat] at ho40; rw [← Ny156.out] at ho40)); have n0_ := Aside0.mk (Kd.R_lower ho40 (below_size (by repeat (first | (with_reducible first | exact HB.out | apply below_alloc | apply pw_below_drewN | apply below_drew1) | exact HB.out)))); have n1_ := Aside0.mk (below_step (by repeat (first | (with_reducible first | exact HB.out | apply below_alloc | apply pw_below_drewN | apply below_drew1) | exact HB.out)) hb); clear HB; have HO158 := n0_; have HB := n1_; clear n0_ n1_; clear hb ho40; obtain ⟨Ao41, co41, eo41⟩ := Kd.R_slice HO158.out; subst eo41) | ((with_reducible refine gate_callee (f := 14) rfl ?_); refine goesL_ (some 41) rfl rfl Tryd.func14 (by kernel_rfl) rfl #[.slice A3 l3.length c3, .slice Ao41 y156.length co41] rfl (by (try simp only [List.map_toArray, List.map_cons, List.map_nil]); first | done | rfl | (simp only [List.length_drop, List.length_take]; rfl)) ?_; (with_reducible refine (spec_HasStep.calls kj7 _ _ l3 _ _ y156 false _ ?side1 ?side2 ?side3 ?side4 A20.out).mono ?_); (case side1 => repeat (first | exact (Kd.C_below HR3.out HB.out) | (with_reducible refine Kd.C_alloc ?_ _) | (with_reducible refine Kd.C_drewN ?_ _) | (with_reducible refine Kd.C_drew ?_))); (case side2 => exact HC3.out); (case side3 => repeat (first | exact (Kd.R_reads' HO158.out).2.2 | (with_reducible refine Kd.C_alloc ?_ _) | (with_reducible refine Kd.C_drewN ?_ _) | (with_reducible refine Kd.C_drew ?_))); (case side4 => exact (Kd.R_reads' HO158.out).2.1); rintro e w42 ⟨rfl, hb⟩; refine ⟨_, rfl, ?_⟩; have n0_ := Aside0.mk (Kd.R_below (by (with_reducible repeat (first | apply Kd.R_alloc | apply Kd.R_drewN | apply Kd.R_drew)); exact HO158.out) hb); have n1_ := Aside0.mk (below_step (by repeat (first | (with_reducible first | exact HB.out | apply below_alloc | apply pw_below_drewN | apply below_drew1) | exact HB.out)) hb); clear HO158; clear HB; have HO158 := n0_; have HB := n1_; clear n0_ n1_; (try clear hb); (try clear hb2); (try clear hk); (try clear hi)) | ((with_reducible refine gate_callee (f := 15) rfl ?_); refine goesL_ (some 45) rfl rfl Tryd.func15 (by kernel_rfl) rfl #[.slice A0 l0.length c0, .slice A3 l3.length c3] rfl (by (try simp only [List.map_toArray, List.map_cons, List.map_nil]); first | done | rfl | (simp only [List.length_drop, List.length_take]; rfl)) ?_; (with_reducible refine (spec_Answers.calls kj7 _ _ l0 _ _ l3 t160 false _ ?side1 ?side2 ?side3 ?side4 A26.out).mono ?_); (case side1 => repeat (first | exact (Kd.C_below HR0.out HB.out) | (with_reducible refine Kd.C_alloc ?_ _) | (with_reducible refine Kd.C_drewN ?_ _) | (with_reducible refine Kd.C_drew ?_))); (case side2 => exact HC0.out); (case side3 => repeat (first | exact (Kd.C_below HR3.out HB.out) | (with_reducible refine Kd.C_alloc ?_ _) | (with_reducible refine Kd.C_drewN ?_ _) | (with_reducible refine Kd.C_drew ?_))); (case side4 => exact HC3.out); rintro e w43 ⟨v162, rfl, ho0, hb⟩; refine ⟨_, rfl, ?_⟩; have n0_ := Aside0.mk (Kd.R_below (by (with_reducible repeat (first | apply Kd.R_alloc | apply Kd.R_drewN | apply Kd.R_drew)); exact HO158.out) hb); have n1_ := Aside0.mk (Kd.R_lower ho0 (below_size (by repeat (first | (with_reducible first | exact HB.out | apply below_alloc | apply pw_below_drewN | apply below_drew1) | exact HB.out)))); have n2_ := Aside0.mk (below_step (by repeat (first | (with_reducible first | exact HB.out | apply below_alloc | apply pw_below_drewN | apply below_drew1) | exact HB.out)) hb); clear HO158; clear HB; have HO158 := n0_; have HO163 := n1_; have HB := n2_; clear n0_ n1_ n2_; (try clear hb); (try clear hb2); (try clear hk); (try clear hi); (try clear ho0)))
                  go_ret
                  exact ⟨by first | rfl | (simp [errW_none, errW_some] <;> rfl) | (simp [*, errW_none, errW_some] <;> rfl), by repeat (first | (with_reducible first | exact HB.out | apply below_alloc | apply pw_below_drewN | apply below_drew1) | exact HB.out)⟩

end Go.Proofs.YtgpmmmlmaaiobaaDoor.PFnInputStream
