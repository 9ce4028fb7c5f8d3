-- Laid by a program of this session, out of the translation's print.
import Derived.Test.YtkgaladmiiglaaaDoorPFnEntityNonex0
import Derived.Test.YtkgaladmiiglaaaDoorPFnEntityNonex1
namespace Go.Proofs.YtkgaladmiiglaaaDoor.PFnEntityNone
open Go.Proofs.YtkgaladmiiglaaaDoor.Own
open Go.RowKit Go.Proofs.YtkgaladmiiglaaaDoorW.PrintWords Go.Proofs.YtkgaladmiiglaaaDoorW.PrintLast Go.Proofs.YtkgaladmiiglaaaDoorW.PrintMore
attribute [local go_sem] max2_int min2_int max_two min_two max_three min_three max_four min_four   -- for this text's walks alone
set_option linter.unusedVariables false
set_option linter.unusedSimpArgs false

/-! ### laws_entitiesOk: function 7 -/
mutual
def laws_entitiesOk.l0 : Nat → List (S36) → List (S36) → Int → Int → Option (Bool)
  | 0, _, _, _, _ => none
  | k + 1, x0, x7, x8, x9 => if x9 < x8 then (if 0 ≤ x9 then (if x9 < (x7.length : Int) then (if (((rd_T36 x7 x9).f0).size : Int) < 2 then (laws_entitiesOk.j1 k x0 x9 x7 x8 x9 true ((rd_T36 x7 x9).f0) ((rd_T36 x7 x9).f1)) else ((spec_IsToken.f k ((rd_T36 x7 x9).f0)).bind fun t109 => (if t109 = true then (if (((rd_T36 x7 x9).f0).size : Int) ≤ 140737488355328 then ((spec_BytePlace.f k (Go.Proofs.YtkgaladmiiglaaaDoor.Own.numsOf ((rd_T36 x7 x9).f0)) 45).bind fun t113 => (if t113 ≥ 0 then (laws_entitiesOk.j1 k x0 x9 x7 x8 x9 true ((rd_T36 x7 x9).f0) ((rd_T36 x7 x9).f1)) else (if (((rd_T36 x7 x9).f1).size : Int) < 1 then (laws_entitiesOk.j1 k x0 x9 x7 x8 x9 true ((rd_T36 x7 x9).f0) ((rd_T36 x7 x9).f1)) else (laws_entitiesOk.j1 k x0 x9 x7 x8 x9 (decide ((((rd_T36 x7 x9).f1).size : Int) > (wrap64 ((((rd_T36 x7 x9).f0).size : Int) + 2)))) ((rd_T36 x7 x9).f0) ((rd_T36 x7 x9).f1))))) else (none)) else (laws_entitiesOk.j1 k x0 x9 x7 x8 x9 true ((rd_T36 x7 x9).f0) ((rd_T36 x7 x9).f1))))) else (none)) else (none)) else (some (decide ((x0.length : Int) ≤ 8)))
def laws_entitiesOk.j1 : Nat → List (S36) → Int → List (S36) → Int → Int → Bool → ByteArray → ByteArray → Option (Bool)
  | 0, _, _, _, _, _, _, _, _ => none
  | k + 1, x0, x3, x7, x8, x9, x46, x109000, x109001 => if x46 = true then (some false) else (if (x109001.size : Int) ≤ 140737488355328 then ((spec_BytePlace.f k (Go.Proofs.YtkgaladmiiglaaaDoor.Own.numsOf x109001) 38).bind fun t117 => (if t117 ≥ 0 then (laws_entitiesOk.j2 k x0 x3 x7 x8 x9 true x109000 x109001) else ((spec_BytePlace.f k (Go.Proofs.YtkgaladmiiglaaaDoor.Own.numsOf x109001) 59).bind fun t121 => (laws_entitiesOk.j2 k x0 x3 x7 x8 x9 (decide (t121 ≥ 0)) x109000 x109001)))) else (none))
def laws_entitiesOk.j2 : Nat → List (S36) → Int → List (S36) → Int → Int → Bool → ByteArray → ByteArray → Option (Bool)
  | 0, _, _, _, _, _, _, _, _ => none
  | k + 1, x0, x3, x7, x8, x9, x58, x109000, x109001 => if x58 = true then (some false) else (if 0 ≤ x3 then (if x3 ≤ (x0.length : Int) then ((some (x0.take (x3 : Int).toNat : List (S36))).bind fun y122 => (laws_entitiesOk.l1 k x0 x7 x8 x9 y122 (y122.length : Int) 0 x109000 x109001)) else (none)) else (none))
def laws_entitiesOk.l1 : Nat → List (S36) → List (S36) → Int → Int → List (S36) → Int → Int → ByteArray → ByteArray → Option (Bool)
  | 0, _, _, _, _, _, _, _, _, _ => none
  | k + 1, x0, x7, x8, x9, x61, x62, x63, x109000, x109001 => if x63 < x62 then (if 0 ≤ x63 then (if x63 < (x61.length : Int) then (if ((rd_T36 x61 x63).f0).toList = x109000.toList then (some false) else (laws_entitiesOk.l1 k x0 x7 x8 x9 x61 x62 (wrap64 (x63 + 1)) x109000 x109001)) else (none)) else (none)) else (laws_entitiesOk.l0 k x0 x7 x8 (wrap64 (x9 + 1)))
end
def laws_entitiesOk.f (k : Nat) (l0 : List (S36)) : Option (Bool) := laws_entitiesOk.l0 k l0 l0 (l0.length : Int) 0
theorem laws_entitiesOk.mono_l : ∀ k, (∀ y0 y1 y2 y3, LeO (laws_entitiesOk.l0 k y0 y1 y2 y3) (laws_entitiesOk.l0 (k + 1) y0 y1 y2 y3)) ∧ (∀ y0 y1 y2 y3 y4 y5 y6 y7, LeO (laws_entitiesOk.j1 k y0 y1 y2 y3 y4 y5 y6 y7) (laws_entitiesOk.j1 (k + 1) y0 y1 y2 y3 y4 y5 y6 y7)) ∧ (∀ y0 y1 y2 y3 y4 y5 y6 y7, LeO (laws_entitiesOk.j2 k y0 y1 y2 y3 y4 y5 y6 y7) (laws_entitiesOk.j2 (k + 1) y0 y1 y2 y3 y4 y5 y6 y7)) ∧ (∀ y0 y1 y2 y3 y4 y5 y6 y7 y8, LeO (laws_entitiesOk.l1 k y0 y1 y2 y3 y4 y5 y6 y7 y8) (laws_entitiesOk.l1 (k + 1) y0 y1 y2 y3 y4 y5 y6 y7 y8))
  | 0 => ⟨fun _ _ _ _ r h => by simp [laws_entitiesOk.l0] at h, fun _ _ _ _ _ _ _ _ r h => by simp [laws_entitiesOk.j1] at h, fun _ _ _ _ _ _ _ _ r h => by simp [laws_entitiesOk.j2] at h, fun _ _ _ _ _ _ _ _ _ r h => by simp [laws_entitiesOk.l1] at h⟩
  | k + 1 => by
    obtain ⟨ih0, ih1, ih2, ih3⟩ := laws_entitiesOk.mono_l k
    refine ⟨?_, ?_, ?_, ?_⟩
    · intro y0 y1 y2 y3
      unfold laws_entitiesOk.l0
      repeat' first
      | (with_reducible exact ih0 _ _ _ _)
      | (with_reducible exact ih1 _ _ _ _ _ _ _ _)
      | (with_reducible exact ih2 _ _ _ _ _ _ _ _)
      | (with_reducible exact ih3 _ _ _ _ _ _ _ _ _)
      | (with_reducible exact spec_BytePlace.mono _ _ _)
      | (with_reducible exact spec_IsToken.mono _ _)
      | (with_reducible exact LeO.refl _)
      | (with_reducible exact LeO.none _)
      | (with_reducible refine LeO.ite ?_ ?_)
      | (with_reducible refine LeO.bind ?_ (fun _ => ?_))
      | exact ih0 _ _ _ _
      | exact ih1 _ _ _ _ _ _ _ _
      | exact ih2 _ _ _ _ _ _ _ _
      | exact ih3 _ _ _ _ _ _ _ _ _
      | exact spec_BytePlace.mono _ _ _
      | exact spec_IsToken.mono _ _
      | exact LeO.none _
      | refine LeO.ite ?_ ?_
      | refine LeO.bind ?_ (fun _ => ?_)
    · intro y0 y1 y2 y3 y4 y5 y6 y7
      unfold laws_entitiesOk.j1
      repeat' first
      | (with_reducible exact ih0 _ _ _ _)
      | (with_reducible exact ih1 _ _ _ _ _ _ _ _)
      | (with_reducible exact ih2 _ _ _ _ _ _ _ _)
      | (with_reducible exact ih3 _ _ _ _ _ _ _ _ _)
      | (with_reducible exact spec_BytePlace.mono _ _ _)
      | (with_reducible exact spec_IsToken.mono _ _)
      | (with_reducible exact LeO.refl _)
      | (with_reducible exact LeO.none _)
      | (with_reducible refine LeO.ite ?_ ?_)
      | (with_reducible refine LeO.bind ?_ (fun _ => ?_))
      | exact ih0 _ _ _ _
      | exact ih1 _ _ _ _ _ _ _ _
      | exact ih2 _ _ _ _ _ _ _ _
      | exact ih3 _ _ _ _ _ _ _ _ _
      | exact spec_BytePlace.mono _ _ _
      | exact spec_IsToken.mono _ _
      | exact LeO.none _
      | refine LeO.ite ?_ ?_
      | refine LeO.bind ?_ (fun _ => ?_)
    · intro y0 y1 y2 y3 y4 y5 y6 y7
      unfold laws_entitiesOk.j2
      repeat' first
      | (with_reducible exact ih0 _ _ _ _)
      | (with_reducible exact ih1 _ _ _ _ _ _ _ _)
      | (with_reducible exact ih2 _ _ _ _ _ _ _ _)
      | (with_reducible exact ih3 _ _ _ _ _ _ _ _ _)
      | (with_reducible exact spec_BytePlace.mono _ _ _)
      | (with_reducible exact spec_IsToken.mono _ _)
      | (with_reducible exact LeO.refl _)
      | (with_reducible exact LeO.none _)
      | (with_reducible refine LeO.ite ?_ ?_)
      | (with_reducible refine LeO.bind ?_ (fun _ => ?_))
      | exact ih0 _ _ _ _
      | exact ih1 _ _ _ _ _ _ _ _
      | exact ih2 _ _ _ _ _ _ _ _
      | exact ih3 _ _ _ _ _ _ _ _ _
      | exact spec_BytePlace.mono _ _ _
      | exact spec_IsToken.mono _ _
      | exact LeO.none _
      | refine LeO.ite ?_ ?_
      | refine LeO.bind ?_ (fun _ => ?_)
    · intro y0 y1 y2 y3 y4 y5 y6 y7 y8
      unfold laws_entitiesOk.l1
      repeat' first
      | (with_reducible exact ih0 _ _ _ _)
      | (with_reducible exact ih1 _ _ _ _ _ _ _ _)
      | (with_reducible exact ih2 _ _ _ _ _ _ _ _)
      | (with_reducible exact ih3 _ _ _ _ _ _ _ _ _)
      | (with_reducible exact spec_BytePlace.mono _ _ _)
      | (with_reducible exact spec_IsToken.mono _ _)
      | (with_reducible exact LeO.refl _)
      | (with_reducible exact LeO.none _)
      | (with_reducible refine LeO.ite ?_ ?_)
      | (with_reducible refine LeO.bind ?_ (fun _ => ?_))
      | exact ih0 _ _ _ _
      | exact ih1 _ _ _ _ _ _ _ _
      | exact ih2 _ _ _ _ _ _ _ _
      | exact ih3 _ _ _ _ _ _ _ _ _
      | exact spec_BytePlace.mono _ _ _
      | exact spec_IsToken.mono _ _
      | exact LeO.none _
      | refine LeO.ite ?_ ?_
      | refine LeO.bind ?_ (fun _ => ?_)
theorem laws_entitiesOk.mono : ∀ a0 k, LeO (laws_entitiesOk.f k a0) (laws_entitiesOk.f (k + 1) a0) := by
  intro a0 k
  obtain ⟨ih0, ih1, ih2, ih3⟩ := laws_entitiesOk.mono_l k
  unfold laws_entitiesOk.f
  repeat' first
      | (with_reducible exact ih0 _ _ _ _)
      | (with_reducible exact ih1 _ _ _ _ _ _ _ _)
      | (with_reducible exact ih2 _ _ _ _ _ _ _ _)
      | (with_reducible exact ih3 _ _ _ _ _ _ _ _ _)
      | (with_reducible exact spec_BytePlace.mono _ _ _)
      | (with_reducible exact spec_IsToken.mono _ _)
      | (with_reducible exact LeO.refl _)
      | (with_reducible exact LeO.none _)
      | (with_reducible refine LeO.ite ?_ ?_)
      | (with_reducible refine LeO.bind ?_ (fun _ => ?_))
      | exact ih0 _ _ _ _
      | exact ih1 _ _ _ _ _ _ _ _
      | exact ih2 _ _ _ _ _ _ _ _
      | exact ih3 _ _ _ _ _ _ _ _ _
      | exact spec_BytePlace.mono _ _ _
      | exact spec_IsToken.mono _ _
      | exact LeO.none _
      | refine LeO.ite ?_ ?_
      | refine LeO.bind ?_ (fun _ => ?_)
set_option maxHeartbeats 8000000 in
set_option maxRecDepth 100000 in
theorem laws_entitiesOk.calls (k : Nat) (A0 : Option Addr) (c0 : Nat) (l0 : List (S36)) (r : Bool) (w : World) (hr0 : Kd.C k36 w A0 l0.length l0) (hc0 : l0.length ≤ c0) (h : laws_entitiesOk.f k l0 = some r) :
    Calls Tryd.prog 7 #[.slice A0 l0.length c0] w fun e w' => e = .returned (.bool r) ∧ Below w.heap.size w w' := by
  have hu36 := Tryd.underlying36
  have HR0 := Aside0.mk hr0
  have HC0 := Aside0.mk hc0
  clear hr0 hc0
  have HB := Aside0.mk (Below.refl w.heap.size w)
  have H : (laws_entitiesOk.l0 k l0 l0 (l0.length : Int) 0) = some r := h
  clear h
  have H' := Aside0.mk H
  clear H
  go_enter Tryd.func7, Tryd.ntmps7
  go_wp2
  go_loopg [9] k (fun kq v9 w' => ∃ (x9_1 : Int), v9 = .int .i64 x9_1 ∧ Aside0 (laws_entitiesOk.l0 kq l0 l0 (l0.length : Int) x9_1 = some r) ∧ Aside0 (kq ≤ k) ∧ Aside0 (Below w.heap.size w w'))
  case atStart => exact ⟨(0), (by first | rfl | (simp; done) | (simp [*]; done)), H', ⟨Nat.le_refl _⟩, ⟨by repeat (first | (with_reducible first | exact HB.out | apply below_alloc | apply pw_below_drewN | apply below_drew1) | exact HB.out)⟩⟩
  case round =>
    clear H'
    obtain ⟨x9_1, rfl, HA, HK1, HB⟩ := hrel
    cases gk with
    | zero => exact absurd HA.out (by simp [laws_entitiesOk.l0])
    | succ k1 =>
      have H := HA.out
      clear HA
      simp only [laws_entitiesOk.l0] at H
      by_cases c2 : x9_1 < (l0.length : Int)
      · rw [if_pos c2] at H
        have c2b0 : decide (x9_1 < (l0.length : Int)) = true := decide_eq_true c2
        clear c2
        by_cases c3 : 0 ≤ x9_1
        · rw [if_pos c3] at H
          have c3b0 : decide (0 ≤ x9_1) = true := decide_eq_true c3
          clear c3
          by_cases c4 : x9_1 < (l0.length : Int)
          · rw [if_pos c4] at H
            have c4b0 : decide (x9_1 < (l0.length : Int)) = true := decide_eq_true c4
            clear c4
            have HC5 := Aside0.mk H
            clear H
            have p107 : 0 ≤ (x9_1 : Int) := of_decide_eq_true (by first | (with_reducible assumption) | assumption)
            have q107 : x9_1 < (l0.length : Int) := of_decide_eq_true (by first | (with_reducible assumption) | assumption)
            obtain ⟨ad107, e107, hx107_0, hx107_1⟩ := at_T36 HR0.out x9_1 p107 q107
            cases e107
            replace hx107_0 := (HB.out.cell (World.block_lt_of_cell? w _ hx107_0)).trans hx107_0
            replace hx107_1 := (HB.out.cell (World.block_lt_of_cell? w _ hx107_1)).trans hx107_1
            replace p107 := eq_true p107
            replace q107 := eq_true q107
            go_upto_region 4 with (first | ((with_reducible refine gate_dst (N := 4) rfl ?_); (try (refine gate_guard (by rfl) ?_; dsimp only)); refine box_event ?hg (N := 4) ?hd (cs := #[.string (⟨#[]⟩ : ByteArray), .string (⟨#[]⟩ : ByteArray)]) (t := 36) ?hr ?_; (case hd => rfl); (case hg => rfl); (case hr => first | (go_simp; done) | (go_simp; rfl)); intro gb108 hg w6 hbox hb; have n0_ := Aside0.mk (below_step (by repeat (first | (with_reducible first | exact HB.out | apply below_alloc | apply pw_below_drewN | apply below_drew1) | exact HB.out)) hb); have n1_ := Aside0.mk (hbox); have n2_ := Aside0.mk ((by rw [hg]; exact (below_size (by repeat (first | (with_reducible first | exact HB.out | apply below_alloc | apply pw_below_drewN | apply below_drew1) | exact HB.out))) : w.heap.size ≤ gb108)); have n3_ := Aside0.mk ((by rw [hg]; exact (below_size (by repeat (first | (with_reducible first | exact HB.out | apply below_alloc | apply pw_below_drewN | apply below_drew1) | exact HB.out))) : w.heap.size ≤ gb108)); clear HB; have HB := n0_; have BK108 := n1_; have GW108 := n2_; have GE108 := n3_; clear n0_ n1_ n2_ n3_; clear hb hbox hg; have hcz7_0 : w6.cell? ⟨gb108, 0, none⟩ = some (.string (⟨#[]⟩ : ByteArray)) := (blk_cell BK108.out 0).trans rfl; have hcz7_1 : w6.cell? ⟨gb108, 1, none⟩ = some (.string (⟨#[]⟩ : ByteArray)) := (blk_cell BK108.out 1).trans rfl; have hfz7_0 := blk_frozen BK108.out 0; have hfz7_1 := blk_frozen BK108.out 1))
            (try simp only [Act.put, List.setIfInBounds_toArray, List.set_cons_zero, List.set_cons_succ])
            go_cut [46] (fun v46 wc => ∃ (kq : Nat) (x46_4 : Bool), v46 = .bool x46_4 ∧ Aside0 (laws_entitiesOk.j1 kq l0 x9_1 l0 (l0.length : Int) x9_1 x46_4 ((rd_T36 l0 x9_1).f0) ((rd_T36 l0 x9_1).f1) = some r) ∧ Aside0 (kq ≤ k1) ∧ Aside0 (wc.heap[gb108]? = some (.cells #[.string ((rd_T36 l0 x9_1).f0), .string ((rd_T36 l0 x9_1).f1)] 36 (0, 0))) ∧ Aside0 (Below w.heap.size w wc))
            case first =>
              have H := HC5.out
              clear HC5
              by_cases c8 : (((rd_T36 l0 x9_1).f0).size : Int) < 2
              · rw [if_pos c8] at H
                have c8b0 : decide ((((rd_T36 l0 x9_1).f0).size : Int) < 2) = true := decide_eq_true c8
                have c8b1 : decide (((rd_T36 l0 x9_1).f0).size < 2) = true := decide_eq_true (by omega)
                clear c8
                (first | rw [c8b0] | (simp only [i64_w, i32_w]; rw [c8b0]) | skip)
                have H' := Aside0.mk H
                clear H
                have hcz9_0 : w6.cell? ⟨gb108, 0, none⟩ = some (.string (⟨#[]⟩ : ByteArray)) := (blk_cell BK108.out 0).trans rfl
                have hcz9_1 : w6.cell? ⟨gb108, 1, none⟩ = some (.string (⟨#[]⟩ : ByteArray)) := (blk_cell BK108.out 1).trans rfl
                have hfz9_0 := blk_frozen BK108.out 0
                have hfz9_1 := blk_frozen BK108.out 1
                go_wp2
                go_meet
                case rel => exact ⟨_, (true), (by first | rfl | (simp; done) | (simp [*]; done)), H', ⟨by have := HK1.out; first | omega | exact Nat.le_refl _⟩, ⟨by (with_reducible repeat (first | refine blk_drewN ?_ _ | refine blk_drew ?_ | refine blk_alloc ?_ _)); refine blk_put (cs := #[.string ((rd_T36 l0 x9_1).f0), .string (⟨#[]⟩ : ByteArray)]) ?_ 1 _ rfl; (with_reducible repeat (first | refine blk_drewN ?_ _ | refine blk_drew ?_ | refine blk_alloc ?_ _)); refine blk_put (cs := #[.string (⟨#[]⟩ : ByteArray), .string (⟨#[]⟩ : ByteArray)]) ?_ 0 _ rfl; (with_reducible repeat (first | refine blk_drewN ?_ _ | refine blk_drew ?_ | refine blk_alloc ?_ _)); exact BK108.out⟩, ⟨by repeat (first | (with_reducible first | exact HB.out | apply below_alloc | apply pw_below_drewN | apply below_drew1 | refine below_set ?_ GE108.out) | exact HB.out)⟩⟩
              · rw [if_neg c8] at H
                have c8b0 : decide ((((rd_T36 l0 x9_1).f0).size : Int) < 2) = false := decide_eq_false c8
                have c8b1 : decide (((rd_T36 l0 x9_1).f0).size < 2) = false := decide_eq_false (by omega)
                clear c8
                (first | rw [c8b0] | (simp only [i64_w, i32_w]; rw [c8b0]) | skip)
                replace H := Option.bind_eq_some_iff.mp H
                obtain ⟨t109, A100, H⟩ := H
                replace H : (if t109 = true then (if (((rd_T36 l0 x9_1).f0).size : Int) ≤ 140737488355328 then ((spec_BytePlace.f k1 (Go.Proofs.YtkgaladmiiglaaaDoor.Own.numsOf ((rd_T36 l0 x9_1).f0)) 45).bind fun t113 => (if t113 ≥ 0 then (laws_entitiesOk.j1 k1 l0 x9_1 l0 (l0.length : Int) x9_1 true ((rd_T36 l0 x9_1).f0) ((rd_T36 l0 x9_1).f1)) else (if (((rd_T36 l0 x9_1).f1).size : Int) < 1 then (laws_entitiesOk.j1 k1 l0 x9_1 l0 (l0.length : Int) x9_1 true ((rd_T36 l0 x9_1).f0) ((rd_T36 l0 x9_1).f1)) else (laws_entitiesOk.j1 k1 l0 x9_1 l0 (l0.length : Int) x9_1 (decide ((((rd_T36 l0 x9_1).f1).size : Int) > (wrap64 ((((rd_T36 l0 x9_1).f0).size : Int) + 2)))) ((rd_T36 l0 x9_1).f0) ((rd_T36 l0 x9_1).f1))))) else (none)) else (laws_entitiesOk.j1 k1 l0 x9_1 l0 (l0.length : Int) x9_1 true ((rd_T36 l0 x9_1).f0) ((rd_T36 l0 x9_1).f1))) = some r := H
                have A10 := Aside0.mk A100
                clear A100
                by_cases c11 : t109 = true
                · subst c11
                  have H1 : (if (((rd_T36 l0 x9_1).f0).size : Int) ≤ 140737488355328 then ((spec_BytePlace.f k1 (Go.Proofs.YtkgaladmiiglaaaDoor.Own.numsOf ((rd_T36 l0 x9_1).f0)) 45).bind fun t113 => (if t113 ≥ 0 then (laws_entitiesOk.j1 k1 l0 x9_1 l0 (l0.length : Int) x9_1 true ((rd_T36 l0 x9_1).f0) ((rd_T36 l0 x9_1).f1)) else (if (((rd_T36 l0 x9_1).f1).size : Int) < 1 then (laws_entitiesOk.j1 k1 l0 x9_1 l0 (l0.length : Int) x9_1 true ((rd_T36 l0 x9_1).f0) ((rd_T36 l0 x9_1).f1)) else (laws_entitiesOk.j1 k1 l0 x9_1 l0 (l0.length : Int) x9_1 (decide ((((rd_T36 l0 x9_1).f1).size : Int) > (wrap64 ((((rd_T36 l0 x9_1).f0).size : Int) + 2)))) ((rd_T36 l0 x9_1).f0) ((rd_T36 l0 x9_1).f1))))) else (none)) = some r := by rw [if_pos rfl] at H; exact H
                  clear H
                  have H := H1
                  clear H1
                  by_cases c12 : (((rd_T36 l0 x9_1).f0).size : Int) ≤ 140737488355328
                  · rw [if_pos c12] at H
                    have c12b0 : decide ((((rd_T36 l0 x9_1).f0).size : Int) ≤ 140737488355328) = true := decide_eq_true c12
                    have c12b1 : decide (((rd_T36 l0 x9_1).f0).size ≤ 140737488355328) = true := decide_eq_true (by omega)
                    clear c12
                    obtain ⟨y110, hy110⟩ : ∃ y_ : List Int, y_ = (Go.Proofs.YtkgaladmiiglaaaDoor.Own.numsOf ((rd_T36 l0 x9_1).f0)) := ⟨_, rfl⟩
                    replace H : ((spec_BytePlace.f k1 y110 45).bind fun t113 => (if t113 ≥ 0 then (laws_entitiesOk.j1 k1 l0 x9_1 l0 (l0.length : Int) x9_1 true ((rd_T36 l0 x9_1).f0) ((rd_T36 l0 x9_1).f1)) else (if (((rd_T36 l0 x9_1).f1).size : Int) < 1 then (laws_entitiesOk.j1 k1 l0 x9_1 l0 (l0.length : Int) x9_1 true ((rd_T36 l0 x9_1).f0) ((rd_T36 l0 x9_1).f1)) else (laws_entitiesOk.j1 k1 l0 x9_1 l0 (l0.length : Int) x9_1 (decide ((((rd_T36 l0 x9_1).f1).size : Int) > (wrap64 ((((rd_T36 l0 x9_1).f0).size : Int) + 2)))) ((rd_T36 l0 x9_1).f0) ((rd_T36 l0 x9_1).f1))))) = some r := by first | (rw [hy110]; with_reducible exact H) | (have H2_ := (Option.bind_some _ _).symm.trans H; rw [hy110]; with_reducible exact H2_) | (have H2_ := (Option.bind_some _ _).symm.trans H; with_reducible exact H2_) | with_reducible exact H | (rw [hy110]; exact H) | exact H
                    have Ny110 := Aside0.mk hy110
                    clear hy110
                    replace H := Option.bind_eq_some_iff.mp H
                    obtain ⟨t113, A130, H⟩ := H
                    replace H : (if t113 ≥ 0 then (laws_entitiesOk.j1 k1 l0 x9_1 l0 (l0.length : Int) x9_1 true ((rd_T36 l0 x9_1).f0) ((rd_T36 l0 x9_1).f1)) else (if (((rd_T36 l0 x9_1).f1).size : Int) < 1 then (laws_entitiesOk.j1 k1 l0 x9_1 l0 (l0.length : Int) x9_1 true ((rd_T36 l0 x9_1).f0) ((rd_T36 l0 x9_1).f1)) else (laws_entitiesOk.j1 k1 l0 x9_1 l0 (l0.length : Int) x9_1 (decide ((((rd_T36 l0 x9_1).f1).size : Int) > (wrap64 ((((rd_T36 l0 x9_1).f0).size : Int) + 2)))) ((rd_T36 l0 x9_1).f0) ((rd_T36 l0 x9_1).f1)))) = some r := H
                    have A13 := Aside0.mk A130
                    clear A130
                    by_cases c14 : t113 ≥ 0
                    · rw [if_pos c14] at H
                      have c14b0 : decide (0 ≤ t113) = true := decide_eq_true c14
                      clear c14
                      have H' := Aside0.mk H
                      clear H
                      have hcz15_0 : w6.cell? ⟨gb108, 0, none⟩ = some (.string (⟨#[]⟩ : ByteArray)) := (blk_cell BK108.out 0).trans rfl
                      have hcz15_1 : w6.cell? ⟨gb108, 1, none⟩ = some (.string (⟨#[]⟩ : ByteArray)) := (blk_cell BK108.out 1).trans rfl
                      have hfz15_0 := blk_frozen BK108.out 0
                      have hfz15_1 := blk_frozen BK108.out 1
                      go_wp2_with (first | (go_at_call 17; (with_reducible refine (spec_IsToken.calls k1 ((rd_T36 l0 x9_1).f0) true _ A10.out).mono ?_); rintro e w' ⟨rfl, ⟨nd, rfl⟩⟩) | ((with_reducible refine gate_dst (N := 27) rfl ?_); (try (refine gate_guard (by rfl) ?_; dsimp only)); refine Go.Proofs.YtkgaladmiiglaaaDoor.Own.V_bytes _ 5 rfl (N' := 27) rfl 9 22 _ rfl Tryd.underlying9 Tryd.underlying22 Tryd.underlying5 ((rd_T36 l0 x9_1).f0) rfl (of_decide_eq_true (by first | (with_reducible assumption) | assumption)) (Below.refl _ _) (Nat.le_refl _) ?_; intro v111 w16 ho17 hb hg_ hnew_; clear hg_ hnew_; (first | rw [← Ny110.out] at ho17 | (simp only [Int.reduceToNat] at ho17; rw [← Ny110.out] at ho17)); have n0_ := Aside0.mk (Kd.V_lower (Kd.V_mono (ok' := fun k_ => k_ ≠ gb108) ho17 (fun k_ hk_ => (Kd.freshB (g := gb108) (o := .cells #[.string ((rd_T36 l0 x9_1).f0), .string ((rd_T36 l0 x9_1).f1)] 36 (0, 0)) (by (with_reducible repeat (first | refine blk_drewN ?_ _ | refine blk_drew ?_ | refine blk_alloc ?_ _)); refine blk_put (cs := #[.string ((rd_T36 l0 x9_1).f0), .string (⟨#[]⟩ : ByteArray)]) ?_ 1 _ rfl; (with_reducible repeat (first | refine blk_drewN ?_ _ | refine blk_drew ?_ | refine blk_alloc ?_ _)); refine blk_put (cs := #[.string (⟨#[]⟩ : ByteArray), .string (⟨#[]⟩ : ByteArray)]) ?_ 0 _ rfl; (with_reducible repeat (first | refine blk_drewN ?_ _ | refine blk_drew ?_ | refine blk_alloc ?_ _)); exact BK108.out) k_ hk_))) (below_size (by repeat (first | (with_reducible first | exact HB.out | apply below_alloc | apply pw_below_drewN | apply below_drew1 | refine below_set ?_ GE108.out) | exact HB.out)))); have n1_ := Aside0.mk (blk_below (g := gb108) (o := .cells #[.string ((rd_T36 l0 x9_1).f0), .string ((rd_T36 l0 x9_1).f1)] 36 (0, 0)) (by (with_reducible repeat (first | refine blk_drewN ?_ _ | refine blk_drew ?_ | refine blk_alloc ?_ _)); refine blk_put (cs := #[.string ((rd_T36 l0 x9_1).f0), .string (⟨#[]⟩ : ByteArray)]) ?_ 1 _ rfl; (with_reducible repeat (first | refine blk_drewN ?_ _ | refine blk_drew ?_ | refine blk_alloc ?_ _)); refine blk_put (cs := #[.string (⟨#[]⟩ : ByteArray), .string (⟨#[]⟩ : ByteArray)]) ?_ 0 _ rfl; (with_reducible repeat (first | refine blk_drewN ?_ _ | refine blk_drew ?_ | refine blk_alloc ?_ _)); exact BK108.out) hb); have n2_ := Aside0.mk (below_step (by repeat (first | (with_reducible first | exact HB.out | apply below_alloc | apply pw_below_drewN | apply below_drew1 | refine below_set ?_ GE108.out) | exact HB.out)) hb); clear BK108; clear HB; have HO112 := n0_; have BK108 := n1_; have HB := n2_; clear n0_ n1_ n2_; clear hb ho17; obtain ⟨Ao18, co18, eo18⟩ := Kd.V_slice HO112.out; subst eo18) | (go_at_call 8; (with_reducible refine (spec_BytePlace.calls k1 _ _ y110 45 t113 _ ?side1 ?side2 A13.out).mono ?_); (case side1 => repeat (first | exact (Kd.V_reads' HO112.out).2.2 | (with_reducible refine Kd.C_alloc ?_ _) | (with_reducible refine Kd.C_drewN ?_ _) | (with_reducible refine Kd.C_drew ?_))); (case side2 => exact (Kd.V_reads' HO112.out).2.1); rintro e w' ⟨rfl, ⟨nd, rfl⟩⟩))
                      go_meet
                      case rel => exact ⟨_, (true), (by first | rfl | (simp; done) | (simp [*]; done)), H', ⟨by have := HK1.out; first | omega | exact Nat.le_refl _⟩, ⟨by (with_reducible repeat (first | refine blk_drewN ?_ _ | refine blk_drew ?_ | refine blk_alloc ?_ _)); exact BK108.out⟩, ⟨by repeat (first | (with_reducible first | exact HB.out | apply below_alloc | apply pw_below_drewN | apply below_drew1 | refine below_set ?_ GE108.out) | exact HB.out)⟩⟩
                    · rw [if_neg c14] at H
                      have c14b0 : decide (0 ≤ t113) = false := decide_eq_false c14
                      clear c14
                      by_cases c19 : (((rd_T36 l0 x9_1).f1).size : Int) < 1
                      · rw [if_pos c19] at H
                        have c19b0 : decide ((((rd_T36 l0 x9_1).f1).size : Int) < 1) = true := decide_eq_true c19
                        have c19b1 : decide (((rd_T36 l0 x9_1).f1).size < 1) = true := decide_eq_true (by omega)
                        clear c19
                        have H' := Aside0.mk H
                        clear H
                        have hcz20_0 : w6.cell? ⟨gb108, 0, none⟩ = some (.string (⟨#[]⟩ : ByteArray)) := (blk_cell BK108.out 0).trans rfl
                        have hcz20_1 : w6.cell? ⟨gb108, 1, none⟩ = some (.string (⟨#[]⟩ : ByteArray)) := (blk_cell BK108.out 1).trans rfl
                        have hfz20_0 := blk_frozen BK108.out 0
                        have hfz20_1 := blk_frozen BK108.out 1
                        go_wp2_with (first | (go_at_call 17; (with_reducible refine (spec_IsToken.calls k1 ((rd_T36 l0 x9_1).f0) true _ A10.out).mono ?_); rintro e w' ⟨rfl, ⟨nd, rfl⟩⟩) | ((with_reducible refine gate_dst (N := 27) rfl ?_); (try (refine gate_guard (by rfl) ?_; dsimp only)); refine Go.Proofs.YtkgaladmiiglaaaDoor.Own.V_bytes _ 5 rfl (N' := 27) rfl 9 22 _ rfl Tryd.underlying9 Tryd.underlying22 Tryd.underlying5 ((rd_T36 l0 x9_1).f0) rfl (of_decide_eq_true (by first | (with_reducible assumption) | assumption)) (Below.refl _ _) (Nat.le_refl _) ?_; intro v111 w21 ho22 hb hg_ hnew_; clear hg_ hnew_; (first | rw [← Ny110.out] at ho22 | (simp only [Int.reduceToNat] at ho22; rw [← Ny110.out] at ho22)); have n0_ := Aside0.mk (Kd.V_lower (Kd.V_mono (ok' := fun k_ => k_ ≠ gb108) ho22 (fun k_ hk_ => (Kd.freshB (g := gb108) (o := .cells #[.string ((rd_T36 l0 x9_1).f0), .string ((rd_T36 l0 x9_1).f1)] 36 (0, 0)) (by (with_reducible repeat (first | refine blk_drewN ?_ _ | refine blk_drew ?_ | refine blk_alloc ?_ _)); refine blk_put (cs := #[.string ((rd_T36 l0 x9_1).f0), .string (⟨#[]⟩ : ByteArray)]) ?_ 1 _ rfl; (with_reducible repeat (first | refine blk_drewN ?_ _ | refine blk_drew ?_ | refine blk_alloc ?_ _)); refine blk_put (cs := #[.string (⟨#[]⟩ : ByteArray), .string (⟨#[]⟩ : ByteArray)]) ?_ 0 _ rfl; (with_reducible repeat (first | refine blk_drewN ?_ _ | refine blk_drew ?_ | refine blk_alloc ?_ _)); exact BK108.out) k_ hk_))) (below_size (by repeat (first | (with_reducible first | exact HB.out | apply below_alloc | apply pw_below_drewN | apply below_drew1 | refine below_set ?_ GE108.out) | exact HB.out)))); have n1_ := Aside0.mk (blk_below (g := gb108) (o := .cells #[.string ((rd_T36 l0 x9_1).f0), .string ((rd_T36 l0 x9_1).f1)] 36 (0, 0)) (by (with_reducible repeat (first | refine blk_drewN ?_ _ | refine blk_drew ?_ | refine blk_alloc ?_ _)); refine blk_put (cs := #[.string ((rd_T36 l0 x9_1).f0), .string (⟨#[]⟩ : ByteArray)]) ?_ 1 _ rfl; (with_reducible repeat (first | refine blk_drewN ?_ _ | refine blk_drew ?_ | refine blk_alloc ?_ _)); refine blk_put (cs := #[.string (⟨#[]⟩ : ByteArray), .string (⟨#[]⟩ : ByteArray)]) ?_ 0 _ rfl; (with_reducible repeat (first | refine blk_drewN ?_ _ | refine blk_drew ?_ | refine blk_alloc ?_ _)); exact BK108.out) hb); have n2_ := Aside0.mk (below_step (by repeat (first | (with_reducible first | exact HB.out | apply below_alloc | apply pw_below_drewN | apply below_drew1 | refine below_set ?_ GE108.out) | exact HB.out)) hb); clear BK108; clear HB; have HO112 := n0_; have BK108 := n1_; have HB := n2_; clear n0_ n1_ n2_; clear hb ho22; obtain ⟨Ao23, co23, eo23⟩ := Kd.V_slice HO112.out; subst eo23) | (go_at_call 8; (with_reducible refine (spec_BytePlace.calls k1 _ _ y110 45 t113 _ ?side1 ?side2 A13.out).mono ?_); (case side1 => repeat (first | exact (Kd.V_reads' HO112.out).2.2 | (with_reducible refine Kd.C_alloc ?_ _) | (with_reducible refine Kd.C_drewN ?_ _) | (with_reducible refine Kd.C_drew ?_))); (case side2 => exact (Kd.V_reads' HO112.out).2.1); rintro e w' ⟨rfl, ⟨nd, rfl⟩⟩; have hcz24_0 : w21.cell? ⟨gb108, 0, none⟩ = some (.string ((rd_T36 l0 x9_1).f0)) := (blk_cell BK108.out 0).trans rfl; have hcz24_1 : w21.cell? ⟨gb108, 1, none⟩ = some (.string ((rd_T36 l0 x9_1).f1)) := (blk_cell BK108.out 1).trans rfl; have hfz24_0 := blk_frozen BK108.out 0; have hfz24_1 := blk_frozen BK108.out 1))
                        go_meet
                        case rel => exact ⟨_, (true), (by first | rfl | (simp; done) | (simp [*]; done)), H', ⟨by have := HK1.out; first | omega | exact Nat.le_refl _⟩, ⟨by (with_reducible repeat (first | refine blk_drewN ?_ _ | refine blk_drew ?_ | refine blk_alloc ?_ _)); exact BK108.out⟩, ⟨by repeat (first | (with_reducible first | exact HB.out | apply below_alloc | apply pw_below_drewN | apply below_drew1 | refine below_set ?_ GE108.out) | exact HB.out)⟩⟩
                      · rw [if_neg c19] at H
                        have c19b0 : decide ((((rd_T36 l0 x9_1).f1).size : Int) < 1) = false := decide_eq_false c19
                        have c19b1 : decide (((rd_T36 l0 x9_1).f1).size < 1) = false := decide_eq_false (by omega)
                        clear c19
                        have H' := Aside0.mk H
                        clear H
                        have hcz25_0 : w6.cell? ⟨gb108, 0, none⟩ = some (.string (⟨#[]⟩ : ByteArray)) := (blk_cell BK108.out 0).trans rfl
                        have hcz25_1 : w6.cell? ⟨gb108, 1, none⟩ = some (.string (⟨#[]⟩ : ByteArray)) := (blk_cell BK108.out 1).trans rfl
                        have hfz25_0 := blk_frozen BK108.out 0
                        have hfz25_1 := blk_frozen BK108.out 1
                        go_wp2_with (first | (go_at_call 17; (with_reducible refine (spec_IsToken.calls k1 ((rd_T36 l0 x9_1).f0) true _ A10.out).mono ?_); rintro e w' ⟨rfl, ⟨nd, rfl⟩⟩) | ((with_reducible refine gate_dst (N := 27) rfl ?_); (try (refine gate_guard (by rfl) ?_; dsimp only)); refine Go.Proofs.YtkgaladmiiglaaaDoor.Own.V_bytes _ 5 rfl (N' := 27) rfl 9 22 _ rfl Tryd.underlying9 Tryd.underlying22 Tryd.underlying5 ((rd_T36 l0 x9_1).f0) rfl (of_decide_eq_true (by first | (with_reducible assumption) | assumption)) (Below.refl _ _) (Nat.le_refl _) ?_; intro v111 w26 ho27 hb hg_ hnew_; clear hg_ hnew_; (first | rw [← Ny110.out] at ho27 | (simp only [Int.reduceToNat] at ho27; rw [← Ny110.out] at ho27)); have n0_ := Aside0.mk (Kd.V_lower (Kd.V_mono (ok' := fun k_ => k_ ≠ gb108) ho27 (fun k_ hk_ => (Kd.freshB (g := gb108) (o := .cells #[.string ((rd_T36 l0 x9_1).f0), .string ((rd_T36 l0 x9_1).f1)] 36 (0, 0)) (by (with_reducible repeat (first | refine blk_drewN ?_ _ | refine blk_drew ?_ | refine blk_alloc ?_ _)); refine blk_put (cs := #[.string ((rd_T36 l0 x9_1).f0), .string (⟨#[]⟩ : ByteArray)]) ?_ 1 _ rfl; (with_reducible repeat (first | refine blk_drewN ?_ _ | refine blk_drew ?_ | refine blk_alloc ?_ _)); refine blk_put (cs := #[.string (⟨#[]⟩ : ByteArray), .string (⟨#[]⟩ : ByteArray)]) ?_ 0 _ rfl; (with_reducible repeat (first | refine blk_drewN ?_ _ | refine blk_drew ?_ | refine blk_alloc ?_ _)); exact BK108.out) k_ hk_))) (below_size (by repeat (first | (with_reducible first | exact HB.out | apply below_alloc | apply pw_below_drewN | apply below_drew1 | refine below_set ?_ GE108.out) | exact HB.out)))); have n1_ := Aside0.mk (blk_below (g := gb108) (o := .cells #[.string ((rd_T36 l0 x9_1).f0), .string ((rd_T36 l0 x9_1).f1)] 36 (0, 0)) (by (with_reducible repeat (first | refine blk_drewN ?_ _ | refine blk_drew ?_ | refine blk_alloc ?_ _)); refine blk_put (cs := #[.string ((rd_T36 l0 x9_1).f0), .string (⟨#[]⟩ : ByteArray)]) ?_ 1 _ rfl; (with_reducible repeat (first | refine blk_drewN ?_ _ | refine blk_drew ?_ | refine blk_alloc ?_ _)); refine blk_put (cs := #[.string (⟨#[]⟩ : ByteArray), .string (⟨#[]⟩ : ByteArray)]) ?_ 0 _ rfl; (with_reducible repeat (first | refine blk_drewN ?_ _ | refine blk_drew ?_ | refine blk_alloc ?_ _)); exact BK108.out) hb); have n2_ := Aside0.mk (below_step (by repeat (first | (with_reducible first | exact HB.out | apply below_alloc | apply pw_below_drewN | apply below_drew1 | refine below_set ?_ GE108.out) | exact HB.out)) hb); clear BK108; clear HB; have HO112 := n0_; have BK108 := n1_; have HB := n2_; clear n0_ n1_ n2_; clear hb ho27; obtain ⟨Ao28, co28, eo28⟩ := Kd.V_slice HO112.out; subst eo28) | (go_at_call 8; (with_reducible refine (spec_BytePlace.calls k1 _ _ y110 45 t113 _ ?side1 ?side2 A13.out).mono ?_); (case side1 => repeat (first | exact (Kd.V_reads' HO112.out).2.2 | (with_reducible refine Kd.C_alloc ?_ _) | (with_reducible refine Kd.C_drewN ?_ _) | (with_reducible refine Kd.C_drew ?_))); (case side2 => exact (Kd.V_reads' HO112.out).2.1); rintro e w' ⟨rfl, ⟨nd, rfl⟩⟩; have hcz29_0 : w26.cell? ⟨gb108, 0, none⟩ = some (.string ((rd_T36 l0 x9_1).f0)) := (blk_cell BK108.out 0).trans rfl; have hcz29_1 : w26.cell? ⟨gb108, 1, none⟩ = some (.string ((rd_T36 l0 x9_1).f1)) := (blk_cell BK108.out 1).trans rfl; have hfz29_0 := blk_frozen BK108.out 0; have hfz29_1 := blk_frozen BK108.out 1))
                        go_meet
                        case rel => exact ⟨_, (decide ((((rd_T36 l0 x9_1).f1).size : Int) > (wrap64 ((((rd_T36 l0 x9_1).f0).size : Int) + 2)))), (by first | rfl | (simp; done) | (simp [*]; done)), H', ⟨by have := HK1.out; first | omega | exact Nat.le_refl _⟩, ⟨by (with_reducible repeat (first | refine blk_drewN ?_ _ | refine blk_drew ?_ | refine blk_alloc ?_ _)); exact BK108.out⟩, ⟨by repeat (first | (with_reducible first | exact HB.out | apply below_alloc | apply pw_below_drewN | apply below_drew1 | refine below_set ?_ GE108.out) | exact HB.out)⟩⟩
                  · rw [if_neg c12] at H
                    exact absurd H (by simp)
                · replace c11 := Bool.eq_false_iff.mpr c11
                  subst c11
                  have H1 : (laws_entitiesOk.j1 k1 l0 x9_1 l0 (l0.length : Int) x9_1 true ((rd_T36 l0 x9_1).f0) ((rd_T36 l0 x9_1).f1)) = some r := by rw [if_neg (show ¬ (false = true) by decide)] at H; exact H
                  clear H
                  have H := H1
                  clear H1
                  have H' := Aside0.mk H
                  clear H
                  have hcz30_0 : w6.cell? ⟨gb108, 0, none⟩ = some (.string (⟨#[]⟩ : ByteArray)) := (blk_cell BK108.out 0).trans rfl
                  have hcz30_1 : w6.cell? ⟨gb108, 1, none⟩ = some (.string (⟨#[]⟩ : ByteArray)) := (blk_cell BK108.out 1).trans rfl
                  have hfz30_0 := blk_frozen BK108.out 0
                  have hfz30_1 := blk_frozen BK108.out 1
                  go_wp2_with (first | (go_at_call 17; (with_reducible refine (spec_IsToken.calls k1 ((rd_T36 l0 x9_1).f0) false _ A10.out).mono ?_); rintro e w' ⟨rfl, ⟨nd, rfl⟩⟩))
                  go_meet
                  case rel => exact ⟨_, (true), (by first | rfl | (simp; done) | (simp [*]; done)), H', ⟨by have := HK1.out; first | omega | exact Nat.le_refl _⟩, ⟨by (with_reducible repeat (first | refine blk_drewN ?_ _ | refine blk_drew ?_ | refine blk_alloc ?_ _)); refine blk_put (cs := #[.string ((rd_T36 l0 x9_1).f0), .string (⟨#[]⟩ : ByteArray)]) ?_ 1 _ rfl; (with_reducible repeat (first | refine blk_drewN ?_ _ | refine blk_drew ?_ | refine blk_alloc ?_ _)); refine blk_put (cs := #[.string (⟨#[]⟩ : ByteArray), .string (⟨#[]⟩ : ByteArray)]) ?_ 0 _ rfl; (with_reducible repeat (first | refine blk_drewN ?_ _ | refine blk_drew ?_ | refine blk_alloc ?_ _)); exact BK108.out⟩, ⟨by repeat (first | (with_reducible first | exact HB.out | apply below_alloc | apply pw_below_drewN | apply below_drew1 | refine below_set ?_ GE108.out) | exact HB.out)⟩⟩
            case rest =>
              clear HC5
              try clear c1
              try clear p1
              try clear q1
              try clear hx1
              try clear c2
              try clear c2b0
              try clear p2
              try clear c3
              try clear c3b0
              try clear c4
              try clear c4b0
              try clear p6
              try clear c7
              try clear c8
              try clear c8b0
              try clear c8b1
              try clear p10
              try clear q10
              try clear hx10
              try clear c11
              try clear c12
              try clear c12b0
              try clear c12b1
              try clear c14
              try clear c14b0
              try clear c19
              try clear c19b0
              try clear c19b1
              try clear hcz15_0
              try clear hcz15_1
              try clear hcz20_0
              try clear hcz20_1
              try clear hcz24_0
              try clear hcz24_1
              try clear hcz25_0
              try clear hcz25_1
              try clear hcz29_0
              try clear hcz29_1
              try clear hcz30_0
              try clear hcz30_1
              try clear hcz7_0
              try clear hcz7_1
              try clear hcz9_0
              try clear hcz9_1
              try clear hfz15_0
              try clear hfz15_1
              try clear hfz20_0
              try clear hfz20_1
              try clear hfz24_0
              try clear hfz24_1
              try clear hfz25_0
              try clear hfz25_1
              try clear hfz29_0
              try clear hfz29_1
              try clear hfz30_0
              try clear hfz30_1
              try clear hfz7_0
              try clear hfz7_1
              try clear hfz9_0
              try clear hfz9_1
              try clear hx107_0
              try clear hx107_1
              try clear p107
              try clear q107
              obtain ⟨kq, x46_4, rfl, HA, HJ4, BK108, HB⟩ := hcut
              cases kq with
              | zero => exact absurd HA.out (by simp [laws_entitiesOk.j1])
              | succ kj4 =>
                have H := HA.out
                clear HA
                simp only [laws_entitiesOk.j1] at H
                by_cases c31 : x46_4 = true
                · subst c31
                  have H1 : (some false) = some r := by rw [if_pos rfl] at H; exact H
                  clear H
                  have H := H1
                  clear H1
                  obtain rfl := Option.some.inj H
                  go_wp2
                  go_ret
                  exact ⟨by first | rfl | (simp [errW_none, errW_some] <;> rfl) | (simp [*, errW_none, errW_some] <;> rfl), by repeat (first | (with_reducible first | exact HB.out | apply below_alloc | apply pw_below_drewN | apply below_drew1 | refine below_set ?_ GE108.out) | exact HB.out)⟩
                · replace c31 := Bool.eq_false_iff.mpr c31
                  subst c31
                  have H1 : (if (((rd_T36 l0 x9_1).f1).size : Int) ≤ 140737488355328 then ((spec_BytePlace.f kj4 (Go.Proofs.YtkgaladmiiglaaaDoor.Own.numsOf ((rd_T36 l0 x9_1).f1)) 38).bind fun t117 => (if t117 ≥ 0 then (laws_entitiesOk.j2 kj4 l0 x9_1 l0 (l0.length : Int) x9_1 true ((rd_T36 l0 x9_1).f0) ((rd_T36 l0 x9_1).f1)) else ((spec_BytePlace.f kj4 (Go.Proofs.YtkgaladmiiglaaaDoor.Own.numsOf ((rd_T36 l0 x9_1).f1)) 59).bind fun t121 => (laws_entitiesOk.j2 kj4 l0 x9_1 l0 (l0.length : Int) x9_1 (decide (t121 ≥ 0)) ((rd_T36 l0 x9_1).f0) ((rd_T36 l0 x9_1).f1))))) else (none)) = some r := by rw [if_neg (show ¬ (false = true) by decide)] at H; exact H
                  clear H
                  have H := H1
                  clear H1
                  have HC32 := Aside0.mk H
                  clear H
                  go_upto_region 6 with (fail)
                  go_cut [58] (fun v58 wc => ∃ (kq : Nat) (x58_31 : Bool), v58 = .bool x58_31 ∧ Aside0 (laws_entitiesOk.j2 kq l0 x9_1 l0 (l0.length : Int) x9_1 x58_31 ((rd_T36 l0 x9_1).f0) ((rd_T36 l0 x9_1).f1) = some r) ∧ Aside0 (kq ≤ kj4) ∧ Aside0 (wc.heap[gb108]? = some (.cells #[.string ((rd_T36 l0 x9_1).f0), .string ((rd_T36 l0 x9_1).f1)] 36 (0, 0))) ∧ Aside0 (Below w.heap.size w wc))
                  case first =>
                    have H := HC32.out
                    clear HC32
                    by_cases c33 : (((rd_T36 l0 x9_1).f1).size : Int) ≤ 140737488355328
                    · rw [if_pos c33] at H
                      have c33b0 : decide ((((rd_T36 l0 x9_1).f1).size : Int) ≤ 140737488355328) = true := decide_eq_true c33
                      have c33b1 : decide (((rd_T36 l0 x9_1).f1).size ≤ 140737488355328) = true := decide_eq_true (by omega)
                      clear c33
                      (first | rw [c33b0] | (simp only [i64_w, i32_w]; rw [c33b0]) | skip)
                      obtain ⟨y114, hy114⟩ : ∃ y_ : List Int, y_ = (Go.Proofs.YtkgaladmiiglaaaDoor.Own.numsOf ((rd_T36 l0 x9_1).f1)) := ⟨_, rfl⟩
                      replace H : ((spec_BytePlace.f kj4 y114 38).bind fun t117 => (if t117 ≥ 0 then (laws_entitiesOk.j2 kj4 l0 x9_1 l0 (l0.length : Int) x9_1 true ((rd_T36 l0 x9_1).f0) ((rd_T36 l0 x9_1).f1)) else ((spec_BytePlace.f kj4 (Go.Proofs.YtkgaladmiiglaaaDoor.Own.numsOf ((rd_T36 l0 x9_1).f1)) 59).bind fun t121 => (laws_entitiesOk.j2 kj4 l0 x9_1 l0 (l0.length : Int) x9_1 (decide (t121 ≥ 0)) ((rd_T36 l0 x9_1).f0) ((rd_T36 l0 x9_1).f1))))) = some r := by first | (rw [hy114]; with_reducible exact H) | (have H2_ := (Option.bind_some _ _).symm.trans H; rw [hy114]; with_reducible exact H2_) | (have H2_ := (Option.bind_some _ _).symm.trans H; with_reducible exact H2_) | with_reducible exact H | (rw [hy114]; exact H) | exact H
                      have Ny114 := Aside0.mk hy114
                      clear hy114
                      replace H := Option.bind_eq_some_iff.mp H
                      obtain ⟨t117, A340, H⟩ := H
                      replace H : (if t117 ≥ 0 then (laws_entitiesOk.j2 kj4 l0 x9_1 l0 (l0.length : Int) x9_1 true ((rd_T36 l0 x9_1).f0) ((rd_T36 l0 x9_1).f1)) else ((spec_BytePlace.f kj4 (Go.Proofs.YtkgaladmiiglaaaDoor.Own.numsOf ((rd_T36 l0 x9_1).f1)) 59).bind fun t121 => (laws_entitiesOk.j2 kj4 l0 x9_1 l0 (l0.length : Int) x9_1 (decide (t121 ≥ 0)) ((rd_T36 l0 x9_1).f0) ((rd_T36 l0 x9_1).f1)))) = some r := H
                      have A34 := Aside0.mk A340
                      clear A340
                      by_cases c35 : t117 ≥ 0
                      · rw [if_pos c35] at H
                        have c35b0 : decide (0 ≤ t117) = true := decide_eq_true c35
                        clear c35
                        have H' := Aside0.mk H
                        clear H
                        have hcz36_0 : wc.cell? ⟨gb108, 0, none⟩ = some (.string ((rd_T36 l0 x9_1).f0)) := (blk_cell BK108.out 0).trans rfl
                        have hcz36_1 : wc.cell? ⟨gb108, 1, none⟩ = some (.string ((rd_T36 l0 x9_1).f1)) := (blk_cell BK108.out 1).trans rfl
                        have hfz36_0 := blk_frozen BK108.out 0
                        have hfz36_1 := blk_frozen BK108.out 1
                        go_wp2_with (first | ((with_reducible refine gate_dst (N := 49) rfl ?_); (try (refine gate_guard (by rfl) ?_; dsimp only)); refine Go.Proofs.YtkgaladmiiglaaaDoor.Own.V_bytes _ 5 rfl (N' := 49) rfl 9 22 _ rfl Tryd.underlying9 Tryd.underlying22 Tryd.underlying5 ((rd_T36 l0 x9_1).f1) rfl (of_decide_eq_true (by first | (with_reducible assumption) | assumption)) (Below.refl _ _) (Nat.le_refl _) ?_; intro v115 w37 ho38 hb hg_ hnew_; clear hg_ hnew_; (first | rw [← Ny114.out] at ho38 | (simp only [Int.reduceToNat] at ho38; rw [← Ny114.out] at ho38)); have n0_ := Aside0.mk (Kd.V_lower (Kd.V_mono (ok' := fun k_ => k_ ≠ gb108) ho38 (fun k_ hk_ => (Kd.freshB (g := gb108) (o := .cells #[.string ((rd_T36 l0 x9_1).f0), .string ((rd_T36 l0 x9_1).f1)] 36 (0, 0)) (by (with_reducible repeat (first | refine blk_drewN ?_ _ | refine blk_drew ?_ | refine blk_alloc ?_ _)); exact BK108.out) k_ hk_))) (below_size (by repeat (first | (with_reducible first | exact HB.out | apply below_alloc | apply pw_below_drewN | apply below_drew1 | refine below_set ?_ GE108.out) | exact HB.out)))); have n1_ := Aside0.mk (blk_below (g := gb108) (o := .cells #[.string ((rd_T36 l0 x9_1).f0), .string ((rd_T36 l0 x9_1).f1)] 36 (0, 0)) (by (with_reducible repeat (first | refine blk_drewN ?_ _ | refine blk_drew ?_ | refine blk_alloc ?_ _)); exact BK108.out) hb); have n2_ := Aside0.mk (below_step (by repeat (first | (with_reducible first | exact HB.out | apply below_alloc | apply pw_below_drewN | apply below_drew1 | refine below_set ?_ GE108.out) | exact HB.out)) hb); clear BK108; clear HB; have HO116 := n0_; have BK108 := n1_; have HB := n2_; clear n0_ n1_ n2_; clear hb ho38; obtain ⟨Ao39, co39, eo39⟩ := Kd.V_slice HO116.out; subst eo39) | ((with_reducible refine gate_callee (f := 8) rfl ?_); refine goesL_ (some 50) rfl rfl Tryd.func8 (by kernel_rfl) rfl #[.slice Ao39 y114.length co39, .int .u8 38] rfl (by (try simp only [List.map_toArray, List.map_cons, List.map_nil]); first | done | rfl | (simp only [List.length_drop, List.length_take]; rfl)) ?_; (with_reducible refine (spec_BytePlace.calls kj4 _ _ y114 38 t117 _ ?side1 ?side2 A34.out).mono ?_); (case side1 => repeat (first | exact (Kd.V_reads' HO116.out).2.2 | (with_reducible refine Kd.C_alloc ?_ _) | (with_reducible refine Kd.C_drewN ?_ _) | (with_reducible refine Kd.C_drew ?_))); (case side2 => exact (Kd.V_reads' HO116.out).2.1); rintro e w' ⟨rfl, ⟨nd, rfl⟩⟩; refine ⟨_, rfl, ?_⟩))
                        go_meet
                        case rel => exact ⟨_, (true), (by first | rfl | (simp; done) | (simp [*]; done)), H', ⟨by have := HK1.out; have := HJ4.out; first | omega | exact Nat.le_refl _⟩, ⟨by (with_reducible repeat (first | refine blk_drewN ?_ _ | refine blk_drew ?_ | refine blk_alloc ?_ _)); exact BK108.out⟩, ⟨by repeat (first | (with_reducible first | exact HB.out | apply below_alloc | apply pw_below_drewN | apply below_drew1 | refine below_set ?_ GE108.out) | exact HB.out)⟩⟩
                      · rw [if_neg c35] at H
                        have c35b0 : decide (0 ≤ t117) = false := decide_eq_false c35
                        clear c35
                        obtain ⟨y118, hy118⟩ : ∃ y_ : List Int, y_ = (Go.Proofs.YtkgaladmiiglaaaDoor.Own.numsOf ((rd_T36 l0 x9_1).f1)) := ⟨_, rfl⟩
                        replace H : ((spec_BytePlace.f kj4 y118 59).bind fun t121 => (laws_entitiesOk.j2 kj4 l0 x9_1 l0 (l0.length : Int) x9_1 (decide (t121 ≥ 0)) ((rd_T36 l0 x9_1).f0) ((rd_T36 l0 x9_1).f1))) = some r := by first | (rw [hy118]; with_reducible exact H) | (have H2_ := (Option.bind_some _ _).symm.trans H; rw [hy118]; with_reducible exact H2_) | (have H2_ := (Option.bind_some _ _).symm.trans H; with_reducible exact H2_) | with_reducible exact H | (rw [hy118]; exact H) | exact H
                        have Ny118 := Aside0.mk hy118
                        clear hy118
                        replace H := Option.bind_eq_some_iff.mp H
                        obtain ⟨t121, A400, H⟩ := H
                        replace H : (laws_entitiesOk.j2 kj4 l0 x9_1 l0 (l0.length : Int) x9_1 (decide (t121 ≥ 0)) ((rd_T36 l0 x9_1).f0) ((rd_T36 l0 x9_1).f1)) = some r := H
                        have A40 := Aside0.mk A400
                        clear A400
                        have H' := Aside0.mk H
                        clear H
                        have hcz41_0 : wc.cell? ⟨gb108, 0, none⟩ = some (.string ((rd_T36 l0 x9_1).f0)) := (blk_cell BK108.out 0).trans rfl
                        have hcz41_1 : wc.cell? ⟨gb108, 1, none⟩ = some (.string ((rd_T36 l0 x9_1).f1)) := (blk_cell BK108.out 1).trans rfl
                        have hfz41_0 := blk_frozen BK108.out 0
                        have hfz41_1 := blk_frozen BK108.out 1
                        go_wp2_with (first | ((with_reducible refine gate_dst (N := 49) rfl ?_); (try (refine gate_guard (by rfl) ?_; dsimp only)); refine Go.Proofs.YtkgaladmiiglaaaDoor.Own.V_bytes _ 5 rfl (N' := 49) rfl 9 22 _ rfl Tryd.underlying9 Tryd.underlying22 Tryd.underlying5 ((rd_T36 l0 x9_1).f1) rfl (of_decide_eq_true (by first | (with_reducible assumption) | assumption)) (Below.refl _ _) (Nat.le_refl _) ?_; intro v115 w42 ho43 hb hg_ hnew_; clear hg_ hnew_; (first | rw [← Ny114.out] at ho43 | (simp only [Int.reduceToNat] at ho43; rw [← Ny114.out] at ho43)); have n0_ := Aside0.mk (Kd.V_lower (Kd.V_mono (ok' := fun k_ => k_ ≠ gb108) ho43 (fun k_ hk_ => (Kd.freshB (g := gb108) (o := .cells #[.string ((rd_T36 l0 x9_1).f0), .string ((rd_T36 l0 x9_1).f1)] 36 (0, 0)) (by (with_reducible repeat (first | refine blk_drewN ?_ _ | refine blk_drew ?_ | refine blk_alloc ?_ _)); exact BK108.out) k_ hk_))) (below_size (by repeat (first | (with_reducible first | exact HB.out | apply below_alloc | apply pw_below_drewN | apply below_drew1 | refine below_set ?_ GE108.out) | exact HB.out)))); have n1_ := Aside0.mk (blk_below (g := gb108) (o := .cells #[.string ((rd_T36 l0 x9_1).f0), .string ((rd_T36 l0 x9_1).f1)] 36 (0, 0)) (by (with_reducible repeat (first | refine blk_drewN ?_ _ | refine blk_drew ?_ | refine blk_alloc ?_ _)); exact BK108.out) hb); have n2_ := Aside0.mk (below_step (by repeat (first | (with_reducible first | exact HB.out | apply below_alloc | apply pw_below_drewN | apply below_drew1 | refine below_set ?_ GE108.out) | exact HB.out)) hb); clear BK108; clear HB; have HO116 := n0_; have BK108 := n1_; have HB := n2_; clear n0_ n1_ n2_; clear hb ho43; obtain ⟨Ao44, co44, eo44⟩ := Kd.V_slice HO116.out; subst eo44) | ((with_reducible refine gate_callee (f := 8) rfl ?_); refine goesL_ (some 50) rfl rfl Tryd.func8 (by kernel_rfl) rfl #[.slice Ao44 y114.length co44, .int .u8 38] rfl (by (try simp only [List.map_toArray, List.map_cons, List.map_nil]); first | done | rfl | (simp only [List.length_drop, List.length_take]; rfl)) ?_; (with_reducible refine (spec_BytePlace.calls kj4 _ _ y114 38 t117 _ ?side1 ?side2 A34.out).mono ?_); (case side1 => repeat (first | exact (Kd.V_reads' HO116.out).2.2 | (with_reducible refine Kd.C_alloc ?_ _) | (with_reducible refine Kd.C_drewN ?_ _) | (with_reducible refine Kd.C_drew ?_))); (case side2 => exact (Kd.V_reads' HO116.out).2.1); rintro e w' ⟨rfl, ⟨nd, rfl⟩⟩; refine ⟨_, rfl, ?_⟩; have hcz45_0 : w42.cell? ⟨gb108, 0, none⟩ = some (.string ((rd_T36 l0 x9_1).f0)) := (blk_cell BK108.out 0).trans rfl; have hcz45_1 : w42.cell? ⟨gb108, 1, none⟩ = some (.string ((rd_T36 l0 x9_1).f1)) := (blk_cell BK108.out 1).trans rfl; have hfz45_0 := blk_frozen BK108.out 0; have hfz45_1 := blk_frozen BK108.out 1) | ((with_reducible refine gate_dst (N := 55) rfl ?_); (try (refine gate_guard (by rfl) ?_; dsimp only)); refine Go.Proofs.YtkgaladmiiglaaaDoor.Own.V_bytes _ 5 rfl (N' := 55) rfl 9 22 _ rfl Tryd.underlying9 Tryd.underlying22 Tryd.underlying5 ((rd_T36 l0 x9_1).f1) rfl (of_decide_eq_true (by first | (with_reducible assumption) | assumption)) (Below.refl _ _) (Nat.le_refl _) ?_; intro v119 w46 ho47 hb hg_ hnew_; clear hg_ hnew_; (first | rw [← Ny118.out] at ho47 | (simp only [Int.reduceToNat] at ho47; rw [← Ny118.out] at ho47)); have n0_ := Aside0.mk (Kd.V_below (by (with_reducible repeat (first | apply Kd.V_alloc | apply Kd.V_drewN | apply Kd.V_drew)); exact HO116.out) hb); have n1_ := Aside0.mk (Kd.V_lower (Kd.V_mono (ok' := fun k_ => k_ ≠ gb108) ho47 (fun k_ hk_ => (Kd.freshB (g := gb108) (o := .cells #[.string ((rd_T36 l0 x9_1).f0), .string ((rd_T36 l0 x9_1).f1)] 36 (0, 0)) (by (with_reducible repeat (first | refine blk_drewN ?_ _ | refine blk_drew ?_ | refine blk_alloc ?_ _)); exact BK108.out) k_ hk_))) (below_size (by repeat (first | (with_reducible first | exact HB.out | apply below_alloc | apply pw_below_drewN | apply below_drew1 | refine below_set ?_ GE108.out) | exact HB.out)))); have n2_ := Aside0.mk (blk_below (g := gb108) (o := .cells #[.string ((rd_T36 l0 x9_1).f0), .string ((rd_T36 l0 x9_1).f1)] 36 (0, 0)) (by (with_reducible repeat (first | refine blk_drewN ?_ _ | refine blk_drew ?_ | refine blk_alloc ?_ _)); exact BK108.out) hb); have n3_ := Aside0.mk (below_step (by repeat (first | (with_reducible first | exact HB.out | apply below_alloc | apply pw_below_drewN | apply below_drew1 | refine below_set ?_ GE108.out) | exact HB.out)) hb); clear HO116; clear BK108; clear HB; have HO116 := n0_; have HO120 := n1_; have BK108 := n2_; have HB := n3_; clear n0_ n1_ n2_ n3_; clear hb ho47; obtain ⟨Ao48, co48, eo48⟩ := Kd.V_slice HO120.out; subst eo48) | (go_at_call 8; (with_reducible refine (spec_BytePlace.calls kj4 _ _ y118 59 t121 _ ?side1 ?side2 A40.out).mono ?_); (case side1 => repeat (first | exact (Kd.V_reads' HO120.out).2.2 | (with_reducible refine Kd.C_alloc ?_ _) | (with_reducible refine Kd.C_drewN ?_ _) | (with_reducible refine Kd.C_drew ?_))); (case side2 => exact (Kd.V_reads' HO120.out).2.1); rintro e w' ⟨rfl, ⟨nd, rfl⟩⟩))
                        go_meet
                        case rel => exact ⟨_, (decide (t121 ≥ 0)), (by first | rfl | (simp; done) | (simp [*]; done)), H', ⟨by have := HK1.out; have := HJ4.out; first | omega | exact Nat.le_refl _⟩, ⟨by (with_reducible repeat (first | refine blk_drewN ?_ _ | refine blk_drew ?_ | refine blk_alloc ?_ _)); exact BK108.out⟩, ⟨by repeat (first | (with_reducible first | exact HB.out | apply below_alloc | apply pw_below_drewN | apply below_drew1 | refine below_set ?_ GE108.out) | exact HB.out)⟩⟩
                    · rw [if_neg c33] at H
                      exact absurd H (by simp)
                  case rest =>
                    clear HC32
                    try clear c1
                    try clear p1
                    try clear q1
                    try clear hx1
                    try clear c2
                    try clear c2b0
                    try clear p2
                    try clear c3
                    try clear c3b0
                    try clear c4
                    try clear c4b0
                    try clear p6
                    try clear c7
                    try clear c8
                    try clear c8b0
                    try clear c8b1
                    try clear p10
                    try clear q10
                    try clear hx10
                    try clear c11
                    try clear c12
                    try clear c12b0
                    try clear c12b1
                    try clear c14
                    try clear c14b0
                    try clear c19
                    try clear c19b0
                    try clear c19b1
                    try clear c31
                    try clear c33
                    try clear c33b0
                    try clear c33b1
                    try clear c35
                    try clear c35b0
                    try clear hcz15_0
                    try clear hcz15_1
                    try clear hcz20_0
                    try clear hcz20_1
                    try clear hcz24_0
                    try clear hcz24_1
                    try clear hcz25_0
                    try clear hcz25_1
                    try clear hcz29_0
                    try clear hcz29_1
                    try clear hcz30_0
                    try clear hcz30_1
                    try clear hcz36_0
                    try clear hcz36_1
                    try clear hcz41_0
                    try clear hcz41_1
                    try clear hcz45_0
                    try clear hcz45_1
                    try clear hcz7_0
                    try clear hcz7_1
                    try clear hcz9_0
                    try clear hcz9_1
                    try clear hfz15_0
                    try clear hfz15_1
                    try clear hfz20_0
                    try clear hfz20_1
                    try clear hfz24_0
                    try clear hfz24_1
                    try clear hfz25_0
                    try clear hfz25_1
                    try clear hfz29_0
                    try clear hfz29_1
                    try clear hfz30_0
                    try clear hfz30_1
                    try clear hfz36_0
                    try clear hfz36_1
                    try clear hfz41_0
                    try clear hfz41_1
                    try clear hfz45_0
                    try clear hfz45_1
                    try clear hfz7_0
                    try clear hfz7_1
                    try clear hfz9_0
                    try clear hfz9_1
                    try clear hx107_0
                    try clear hx107_1
                    try clear p1
                    try clear p10
                    try clear p107
                    try clear p2
                    try clear p6
                    try clear q1
                    try clear q10
                    try clear q107
                    obtain ⟨kq, x58_31, rfl, HA, HJ31, BK108, HB⟩ := hcut
                    cases kq with
                    | zero => exact absurd HA.out (by simp [laws_entitiesOk.j2])
                    | succ kj31 =>
                      have H := HA.out
                      clear HA
                      simp only [laws_entitiesOk.j2] at H
                      by_cases c49 : x58_31 = true
                      · subst c49
                        have H1 : (some false) = some r := by rw [if_pos rfl] at H; exact H
                        clear H
                        have H := H1
                        clear H1
                        obtain rfl := Option.some.inj H
                        go_wp2
                        go_ret
                        exact ⟨by first | rfl | (simp [errW_none, errW_some] <;> rfl) | (simp [*, errW_none, errW_some] <;> rfl), by repeat (first | (with_reducible first | exact HB.out | apply below_alloc | apply pw_below_drewN | apply below_drew1 | refine below_set ?_ GE108.out) | exact HB.out)⟩
                      · replace c49 := Bool.eq_false_iff.mpr c49
                        subst c49
                        have H1 : (if 0 ≤ x9_1 then (if x9_1 ≤ (l0.length : Int) then ((some (l0.take (x9_1 : Int).toNat : List (S36))).bind fun y122 => (laws_entitiesOk.l1 kj31 l0 l0 (l0.length : Int) x9_1 y122 (y122.length : Int) 0 ((rd_T36 l0 x9_1).f0) ((rd_T36 l0 x9_1).f1))) else (none)) else (none)) = some r := by rw [if_neg (show ¬ (false = true) by decide)] at H; exact H
                        clear H
                        have H := H1
                        clear H1
                        by_cases c50 : 0 ≤ x9_1
                        · rw [if_pos c50] at H
                          have c50b0 := eq_true c50
                          have c50b1 : decide (0 ≤ x9_1) = true := decide_eq_true c50
                          clear c50
                          by_cases c51 : x9_1 ≤ (l0.length : Int)
                          · rw [if_pos c51] at H
                            have c51b0 := eq_true c51
                            have c51b1 : decide (x9_1 ≤ (l0.length : Int)) = true := decide_eq_true c51
                            clear c51
                            obtain ⟨y122, hy122⟩ : ∃ y_ : List (S36), y_ = (l0.take (x9_1 : Int).toNat) := ⟨_, rfl⟩
                            replace H : (laws_entitiesOk.l1 kj31 l0 l0 (l0.length : Int) x9_1 y122 (y122.length : Int) 0 ((rd_T36 l0 x9_1).f0) ((rd_T36 l0 x9_1).f1)) = some r := by first | (rw [hy122]; with_reducible exact H) | (have H2_ := (Option.bind_some _ _).symm.trans H; rw [hy122]; with_reducible exact H2_) | (have H2_ := (Option.bind_some _ _).symm.trans H; with_reducible exact H2_) | with_reducible exact H | (rw [hy122]; exact H) | exact H
                            have Ny122 := Aside0.mk hy122
                            clear hy122
                            have H' := Aside0.mk H
                            clear H
                            have q52 : (x9_1 : Int) ≤ ((l0.length : Int) : Int) := of_decide_eq_true (by first | (with_reducible assumption) | assumption)
                            obtain ⟨i052, hi052, _, hsz52, _⟩ := info_parts info36
                            have hroom52 : l0.length ≤ c0 := HC0.out
                            have hC52 : Kd.C k36 _ (some ad107) l0.length l0 := HR0.out
                            have hcut52 := cut_to (P := Tryd.prog) 23 36 .i64 Tryd.underlying23 hi052 (some ad107) l0.length c0 x9_1 (of_decide_eq_true (by first | (with_reducible assumption) | assumption)) q52 hroom52
                            have hr52 := Kd.C_take (m := (x9_1 : Int).toNat) hC52 (by omega)
                            have hy52 : y122.length = (x9_1 : Int).toNat := (by rw [Ny122.out, List.length_take]; omega)
                            rw [← Ny122.out] at hr52
                            rw [← hy52] at hcut52
                            have HR125 := Aside0.mk hr52
                            have HC125 := Aside0.mk (show y122.length ≤ c0 from by omega)
                            clear hr52 hC52 hroom52 hi052 hsz52
                            have KY52 := Aside0.mk hy52
                            clear hy52
                            replace q52 := eq_true q52
                            go_wp2
                            go_loopg [63] kj31 (fun kq v63 w' => ∃ (x63_4 : Int), v63 = .int .i64 x63_4 ∧ Aside0 (laws_entitiesOk.l1 kq l0 l0 (l0.length : Int) x9_1 y122 (y122.length : Int) x63_4 ((rd_T36 l0 x9_1).f0) ((rd_T36 l0 x9_1).f1) = some r) ∧ Aside0 (kq ≤ kj31) ∧ Aside0 (w'.heap[gb108]? = some (.cells #[.string ((rd_T36 l0 x9_1).f0), .string ((rd_T36 l0 x9_1).f1)] 36 (0, 0))) ∧ Aside0 (Below w.heap.size w w'))
                            case atStart => exact ⟨(0), (by first | rfl | (simp; done) | (simp [*]; done)), H', ⟨Nat.le_refl _⟩, ⟨by (with_reducible repeat (first | refine blk_drewN ?_ _ | refine blk_drew ?_ | refine blk_alloc ?_ _)); exact BK108.out⟩, ⟨by repeat (first | (with_reducible first | exact HB.out | apply below_alloc | apply pw_below_drewN | apply below_drew1 | refine below_set ?_ GE108.out) | exact HB.out)⟩⟩
                            case round =>
                              clear H'
                              try clear c1
                              try clear p1
                              try clear q1
                              try clear hx1
                              try clear c2
                              try clear c2b0
                              try clear p2
                              try clear c3
                              try clear c3b0
                              try clear c4
                              try clear c4b0
                              try clear c5
                              try clear q5
                              try clear p6
                              try clear c7
                              try clear c8
                              try clear c8b0
                              try clear c8b1
                              try clear p10
                              try clear q10
                              try clear hx10
                              try clear c11
                              try clear c12
                              try clear c12b0
                              try clear c12b1
                              try clear c14
                              try clear c14b0
                              try clear c19
                              try clear c19b0
                              try clear c19b1
                              try clear c31
                              try clear c33
                              try clear c33b0
                              try clear c33b1
                              try clear c35
                              try clear c35b0
                              try clear c49
                              try clear c50
                              try clear c50b0
                              try clear c50b1
                              try clear c51
                              try clear c51b0
                              try clear c51b1
                              try clear q52
                              try clear hcz15_0
                              try clear hcz15_1
                              try clear hcz20_0
                              try clear hcz20_1
                              try clear hcz24_0
                              try clear hcz24_1
                              try clear hcz25_0
                              try clear hcz25_1
                              try clear hcz29_0
                              try clear hcz29_1
                              try clear hcz30_0
                              try clear hcz30_1
                              try clear hcz36_0
                              try clear hcz36_1
                              try clear hcz41_0
                              try clear hcz41_1
                              try clear hcz45_0
                              try clear hcz45_1
                              try clear hcz7_0
                              try clear hcz7_1
                              try clear hcz9_0
                              try clear hcz9_1
                              try clear hfz15_0
                              try clear hfz15_1
                              try clear hfz20_0
                              try clear hfz20_1
                              try clear hfz24_0
                              try clear hfz24_1
                              try clear hfz25_0
                              try clear hfz25_1
                              try clear hfz29_0
                              try clear hfz29_1
                              try clear hfz30_0
                              try clear hfz30_1
                              try clear hfz36_0
                              try clear hfz36_1
                              try clear hfz41_0
                              try clear hfz41_1
                              try clear hfz45_0
                              try clear hfz45_1
                              try clear hfz7_0
                              try clear hfz7_1
                              try clear hfz9_0
                              try clear hfz9_1
                              try clear hx107_0
                              try clear hx107_1
                              try clear p1
                              try clear p10
                              try clear p107
                              try clear p2
                              try clear p6
                              try clear q1
                              try clear q10
                              try clear q107
                              try clear q52
                              obtain ⟨x63_4, rfl, HA, HK4, BK108, HB⟩ := hrel
                              cases gk with
                              | zero => exact absurd HA.out (by simp [laws_entitiesOk.l1])
                              | succ k4 =>
                                have H := HA.out
                                clear HA
                                simp only [laws_entitiesOk.l1] at H
                                by_cases c53 : x63_4 < (y122.length : Int)
                                · rw [if_pos c53] at H
                                  have c53b0 : decide (x63_4 < (y122.length : Int)) = true := decide_eq_true c53
                                  clear c53
                                  by_cases c54 : 0 ≤ x63_4
                                  · rw [if_pos c54] at H
                                    have c54b0 : decide (0 ≤ x63_4) = true := decide_eq_true c54
                                    clear c54
                                    by_cases c55 : x63_4 < (y122.length : Int)
                                    · rw [if_pos c55] at H
                                      have c55b0 : decide (x63_4 < (y122.length : Int)) = true := decide_eq_true c55
                                      clear c55
                                      by_cases c56 : ((rd_T36 y122 x63_4).f0).toList = ((rd_T36 l0 x9_1).f0).toList
                                      · rw [if_pos c56] at H
                                        have c56b0 : (((rd_T36 y122 x63_4).f0).toList == ((rd_T36 l0 x9_1).f0).toList) = true := beq_iff_eq.mpr c56
                                        have c56b1 : (((rd_T36 y122 x63_4).f0).toList != ((rd_T36 l0 x9_1).f0).toList) = false := bne_eq_false_iff_eq.mpr c56
                                        clear c56
                                        obtain rfl := Option.some.inj H
                                        have p126 : 0 ≤ (x63_4 : Int) := of_decide_eq_true (by first | (with_reducible assumption) | assumption)
                                        have q126 : x63_4 < (y122.length : Int) := of_decide_eq_true (by first | (with_reducible assumption) | assumption)
                                        obtain ⟨ad126, e126, hx126_0, hx126_1⟩ := at_T36 HR125.out x63_4 p126 q126
                                        obtain rfl : ad107 = ad126 := (by injection e126)
                                        replace hx126_0 := (HB.out.cell (World.block_lt_of_cell? w _ hx126_0)).trans hx126_0
                                        replace hx126_1 := (HB.out.cell (World.block_lt_of_cell? w _ hx126_1)).trans hx126_1
                                        replace p126 := eq_true p126
                                        replace q126 := eq_true q126
                                        go_wp2_with (first | ((with_reducible refine gate_dst (N := 6) rfl ?_); (try (refine gate_guard (by rfl) ?_; dsimp only)); refine box_event ?hg (N := 6) ?hd (cs := #[.string (⟨#[]⟩ : ByteArray), .string (⟨#[]⟩ : ByteArray)]) (t := 36) ?hr ?_; (case hd => rfl); (case hg => rfl); (case hr => first | (go_simp; done) | (go_simp; rfl)); intro gb127 hg w57 hbox hb; have n0_ := Aside0.mk (blk_below (g := gb108) (o := .cells #[.string ((rd_T36 l0 x9_1).f0), .string ((rd_T36 l0 x9_1).f1)] 36 (0, 0)) (by (with_reducible repeat (first | refine blk_drewN ?_ _ | refine blk_drew ?_ | refine blk_alloc ?_ _)); exact BK108.out) hb); have n1_ := Aside0.mk (below_step (by repeat (first | (with_reducible first | exact HB.out | apply below_alloc | apply pw_below_drewN | apply below_drew1 | refine below_set ?_ GE108.out) | exact HB.out)) hb); have n2_ := Aside0.mk (hbox); have n3_ := Aside0.mk ((by rw [hg]; exact (below_size (by repeat (first | (with_reducible first | exact HB.out | apply below_alloc | apply pw_below_drewN | apply below_drew1 | refine below_set ?_ GE108.out) | exact HB.out))) : w.heap.size ≤ gb127)); have n4_ := Aside0.mk ((by rw [hg]; exact (below_size (by repeat (first | (with_reducible first | exact HB.out | apply below_alloc | apply pw_below_drewN | apply below_drew1 | refine below_set ?_ GE108.out) | exact HB.out))) : w.heap.size ≤ gb127)); have n5_ := Aside0.mk ((by rw [hg]; exact Nat.ne_of_lt (blk_lt (g := gb108) (o := .cells #[.string ((rd_T36 l0 x9_1).f0), .string ((rd_T36 l0 x9_1).f1)] 36 (0, 0)) (by (with_reducible repeat (first | refine blk_drewN ?_ _ | refine blk_drew ?_ | refine blk_alloc ?_ _)); exact BK108.out)) : gb108 ≠ gb127)); have n6_ := Aside0.mk ((by rw [hg]; exact Nat.ne_of_gt (blk_lt (g := gb108) (o := .cells #[.string ((rd_T36 l0 x9_1).f0), .string ((rd_T36 l0 x9_1).f1)] 36 (0, 0)) (by (with_reducible repeat (first | refine blk_drewN ?_ _ | refine blk_drew ?_ | refine blk_alloc ?_ _)); exact BK108.out)) : gb127 ≠ gb108)); clear BK108; clear HB; have BK108 := n0_; have HB := n1_; have BK127 := n2_; have GW127 := n3_; have GE127 := n4_; have NB108_127 := n5_; have NB127_108 := n6_; clear n0_ n1_ n2_ n3_ n4_ n5_ n6_; clear hb hbox hg; have hnb58 := NB127_108.out; have hnc58 := NB108_127.out; have hcz59_0 : w57.cell? ⟨gb127, 0, none⟩ = some (.string (⟨#[]⟩ : ByteArray)) := (blk_cell BK127.out 0).trans rfl; have hcz59_1 : w57.cell? ⟨gb127, 1, none⟩ = some (.string (⟨#[]⟩ : ByteArray)) := (blk_cell BK127.out 1).trans rfl; have hfz59_0 := blk_frozen BK127.out 0; have hfz59_1 := blk_frozen BK127.out 1; have hcz60_0 : w57.cell? ⟨gb108, 0, none⟩ = some (.string ((rd_T36 l0 x9_1).f0)) := (blk_cell BK108.out 0).trans rfl; have hcz60_1 : w57.cell? ⟨gb108, 1, none⟩ = some (.string ((rd_T36 l0 x9_1).f1)) := (blk_cell BK108.out 1).trans rfl; have hfz60_0 := blk_frozen BK108.out 0; have hfz60_1 := blk_frozen BK108.out 1))
                                        go_ret
                                        exact ⟨by first | rfl | (simp [errW_none, errW_some] <;> rfl) | (simp [*, errW_none, errW_some] <;> rfl), by repeat (first | (with_reducible first | exact HB.out | apply below_alloc | apply pw_below_drewN | apply below_drew1 | refine below_set ?_ GE108.out | refine below_set ?_ GE127.out) | exact HB.out)⟩
                                      · rw [if_neg c56] at H
                                        have c56b0 : (((rd_T36 y122 x63_4).f0).toList == ((rd_T36 l0 x9_1).f0).toList) = false := beq_eq_false_iff_ne.mpr c56
                                        have c56b1 : (((rd_T36 y122 x63_4).f0).toList != ((rd_T36 l0 x9_1).f0).toList) = true := bne_iff_ne.mpr c56
                                        have H' := Aside0.mk H
                                        clear H
                                        have p126 : 0 ≤ (x63_4 : Int) := of_decide_eq_true (by first | (with_reducible assumption) | assumption)
                                        have q126 : x63_4 < (y122.length : Int) := of_decide_eq_true (by first | (with_reducible assumption) | assumption)
                                        obtain ⟨ad126, e126, hx126_0, hx126_1⟩ := at_T36 HR125.out x63_4 p126 q126
                                        obtain rfl : ad107 = ad126 := (by injection e126)
                                        replace hx126_0 := (HB.out.cell (World.block_lt_of_cell? w _ hx126_0)).trans hx126_0
                                        replace hx126_1 := (HB.out.cell (World.block_lt_of_cell? w _ hx126_1)).trans hx126_1
                                        replace p126 := eq_true p126
                                        replace q126 := eq_true q126
                                        go_wp2_with (first | ((with_reducible refine gate_dst (N := 6) rfl ?_); (try (refine gate_guard (by rfl) ?_; dsimp only)); refine box_event ?hg (N := 6) ?hd (cs := #[.string (⟨#[]⟩ : ByteArray), .string (⟨#[]⟩ : ByteArray)]) (t := 36) ?hr ?_; (case hd => rfl); (case hg => rfl); (case hr => first | (go_simp; done) | (go_simp; rfl)); intro gb127 hg w61 hbox hb; have n0_ := Aside0.mk (blk_below (g := gb108) (o := .cells #[.string ((rd_T36 l0 x9_1).f0), .string ((rd_T36 l0 x9_1).f1)] 36 (0, 0)) (by (with_reducible repeat (first | refine blk_drewN ?_ _ | refine blk_drew ?_ | refine blk_alloc ?_ _)); exact BK108.out) hb); have n1_ := Aside0.mk (below_step (by repeat (first | (with_reducible first | exact HB.out | apply below_alloc | apply pw_below_drewN | apply below_drew1 | refine below_set ?_ GE108.out) | exact HB.out)) hb); have n2_ := Aside0.mk (hbox); have n3_ := Aside0.mk ((by rw [hg]; exact (below_size (by repeat (first | (with_reducible first | exact HB.out | apply below_alloc | apply pw_below_drewN | apply below_drew1 | refine below_set ?_ GE108.out) | exact HB.out))) : w.heap.size ≤ gb127)); have n4_ := Aside0.mk ((by rw [hg]; exact (below_size (by repeat (first | (with_reducible first | exact HB.out | apply below_alloc | apply pw_below_drewN | apply below_drew1 | refine below_set ?_ GE108.out) | exact HB.out))) : w.heap.size ≤ gb127)); have n5_ := Aside0.mk ((by rw [hg]; exact Nat.ne_of_lt (blk_lt (g := gb108) (o := .cells #[.string ((rd_T36 l0 x9_1).f0), .string ((rd_T36 l0 x9_1).f1)] 36 (0, 0)) (by (with_reducible repeat (first | refine blk_drewN ?_ _ | refine blk_drew ?_ | refine blk_alloc ?_ _)); exact BK108.out)) : gb108 ≠ gb127)); have n6_ := Aside0.mk ((by rw [hg]; exact Nat.ne_of_gt (blk_lt (g := gb108) (o := .cells #[.string ((rd_T36 l0 x9_1).f0), .string ((rd_T36 l0 x9_1).f1)] 36 (0, 0)) (by (with_reducible repeat (first | refine blk_drewN ?_ _ | refine blk_drew ?_ | refine blk_alloc ?_ _)); exact BK108.out)) : gb127 ≠ gb108)); clear BK108; clear HB; have BK108 := n0_; have HB := n1_; have BK127 := n2_; have GW127 := n3_; have GE127 := n4_; have NB108_127 := n5_; have NB127_108 := n6_; clear n0_ n1_ n2_ n3_ n4_ n5_ n6_; clear hb hbox hg; have hnb62 := NB127_108.out; have hnc62 := NB108_127.out; have hcz63_0 : w61.cell? ⟨gb127, 0, none⟩ = some (.string (⟨#[]⟩ : ByteArray)) := (blk_cell BK127.out 0).trans rfl; have hcz63_1 : w61.cell? ⟨gb127, 1, none⟩ = some (.string (⟨#[]⟩ : ByteArray)) := (blk_cell BK127.out 1).trans rfl; have hfz63_0 := blk_frozen BK127.out 0; have hfz63_1 := blk_frozen BK127.out 1; have hcz64_0 : w61.cell? ⟨gb108, 0, none⟩ = some (.string ((rd_T36 l0 x9_1).f0)) := (blk_cell BK108.out 0).trans rfl; have hcz64_1 : w61.cell? ⟨gb108, 1, none⟩ = some (.string ((rd_T36 l0 x9_1).f1)) := (blk_cell BK108.out 1).trans rfl; have hfz64_0 := blk_frozen BK108.out 0; have hfz64_1 := blk_frozen BK108.out 1))
                                        go_roundg k4
                                        case measure => have := HK1.out; have := HJ4.out; have := HJ31.out; have := HK4.out; omega
                                        case rel => exact ⟨(wrap64 (x63_4 + 1)), (by first | rfl | (simp; done) | (simp [*]; done)), H', ⟨by have := HK1.out; have := HJ4.out; have := HJ31.out; have := HK4.out; omega⟩, ⟨by (with_reducible repeat (first | refine blk_drewN ?_ _ | refine blk_drew ?_ | refine blk_alloc ?_ _)); refine blk_far ?_ NB108_127.out _; (with_reducible repeat (first | refine blk_drewN ?_ _ | refine blk_drew ?_ | refine blk_alloc ?_ _)); refine blk_far ?_ NB108_127.out _; (with_reducible repeat (first | refine blk_drewN ?_ _ | refine blk_drew ?_ | refine blk_alloc ?_ _)); exact BK108.out⟩, ⟨by repeat (first | (with_reducible first | exact HB.out | apply below_alloc | apply pw_below_drewN | apply below_drew1 | refine below_set ?_ GE108.out | refine below_set ?_ GE127.out) | exact HB.out)⟩⟩
                                    · rw [if_neg c55] at H
                                      exact absurd H (by simp)
                                  · rw [if_neg c54] at H
                                    exact absurd H (by simp)
                                · rw [if_neg c53] at H
                                  have c53b0 : decide (x63_4 < (y122.length : Int)) = false := decide_eq_false c53
                                  clear c53
                                  have H' := Aside0.mk H
                                  clear H
                                  go_wp2
                                  go_roundg k4
                                  case measure => have := HK1.out; have := HJ4.out; have := HJ31.out; have := HK4.out; omega
                                  case rel => exact ⟨(wrap64 (x9_1 + 1)), (by first | rfl | (simp; done) | (simp [*]; done)), H', ⟨by have := HK1.out; have := HJ4.out; have := HJ31.out; have := HK4.out; omega⟩, ⟨by repeat (first | (with_reducible first | exact HB.out | apply below_alloc | apply pw_below_drewN | apply below_drew1 | refine below_set ?_ GE108.out) | exact HB.out)⟩⟩
                          · rw [if_neg c51] at H
                            exact absurd H (by simp)
                        · rw [if_neg c50] at H
                          exact absurd H (by simp)
          · rw [if_neg c4] at H
            exact absurd H (by simp)
        · rw [if_neg c3] at H
          exact absurd H (by simp)
      · rw [if_neg c2] at H
        have c2b0 : decide (x9_1 < (l0.length : Int)) = false := decide_eq_false c2
        clear c2
        obtain rfl := Option.some.inj H
        go_wp2
        go_ret
        exact ⟨by first | rfl | (simp [errW_none, errW_some] <;> rfl) | (simp [*, errW_none, errW_some] <;> rfl), by repeat (first | (with_reducible first | exact HB.out | apply below_alloc | apply pw_below_drewN | apply below_drew1) | exact HB.out)⟩

end Go.Proofs.YtkgaladmiiglaaaDoor.PFnEntityNone
