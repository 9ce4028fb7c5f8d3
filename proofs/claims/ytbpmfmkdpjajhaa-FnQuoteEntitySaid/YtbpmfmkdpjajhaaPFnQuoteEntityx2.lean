-- Laid by a program of this session, out of the translation's print.
import Derived.Test.YtbpmfmkdpjajhaaPFnQuoteEntityx0
import Derived.Test.YtbpmfmkdpjajhaaPFnQuoteEntityx1
namespace Go.Proofs.Ytbpmfmkdpjajhaa.PFnQuoteEntity
open Go.RowKit Go.Proofs.YtbpmfmkdpjajhaaW.PrintWords Go.Proofs.YtbpmfmkdpjajhaaW.PrintLast Go.Proofs.YtbpmfmkdpjajhaaW.PrintMore
attribute [local go_sem] max2_int min2_int max_two min_two max_three min_three max_four min_four   -- for this text's walks alone
set_option linter.unusedVariables false
set_option linter.unusedSimpArgs false

/-! ### tdparse_QuoteEntity: function 57 -/
mutual
def tdparse_QuoteEntity.j0 : Nat → List Int → Bool → Option (Int × Int)
  | 0, _, _ => none
  | k + 1, x0, x14 => if x14 = true then (some (0, 0)) else (if 1 < (x0.length : Int) then (if (rd x0 1) = 35 then (if 2 < (x0.length : Int) then (if (rd x0 2) = 120 then (tdparse_QuoteEntity.l0 k x0 3) else (tdparse_QuoteEntity.l1 k x0 2)) else (none)) else (if (x0.length : Int) ≥ 6 then (if 5 < (x0.length : Int) then (tdparse_QuoteEntity.j7 k x0 ((rd x0 5) == 59)) else (none)) else (tdparse_QuoteEntity.j7 k x0 false))) else (none))
def tdparse_QuoteEntity.j2 : Nat → List Int → Int → Option (Int × Int)
  | 0, _, _ => none
  | k + 1, x0, x4 => if (wrap64 (x4 + 2)) < (x0.length : Int) then (if 0 ≤ x4 then (if x4 < (x0.length : Int) then (if (rd x0 x4) = 50 then (if 0 ≤ (wrap64 (x4 + 2)) then (tdparse_QuoteEntity.j3 k x0 x4 ((rd x0 (wrap64 (x4 + 2))) == 59)) else (none)) else (tdparse_QuoteEntity.j3 k x0 x4 false)) else (none)) else (none)) else (tdparse_QuoteEntity.j3 k x0 x4 false)
def tdparse_QuoteEntity.j3 : Nat → List Int → Int → Bool → Option (Int × Int)
  | 0, _, _, _ => none
  | k + 1, x0, x4, x55 => if x55 = true then (if 0 ≤ (wrap64 (x4 + 1)) then (if (wrap64 (x4 + 1)) < (x0.length : Int) then (if (rd x0 (wrap64 (x4 + 1))) = 50 then (some (34, wrap64 (x4 + 3))) else (if (rd x0 (wrap64 (x4 + 1))) = 55 then (some (39, wrap64 (x4 + 3))) else (some (0, 0)))) else (none)) else (none)) else (some (0, 0))
def tdparse_QuoteEntity.l0 : Nat → List Int → Int → Option (Int × Int)
  | 0, _, _ => none
  | k + 1, x0, x4 => if x4 < (x0.length : Int) then (if 0 ≤ x4 then (if (rd x0 x4) = 48 then (tdparse_QuoteEntity.l0 k x0 (wrap64 (x4 + 1))) else (tdparse_QuoteEntity.j2 k x0 x4)) else (none)) else (tdparse_QuoteEntity.j2 k x0 x4)
def tdparse_QuoteEntity.j5 : Nat → List Int → Int → Option (Int × Int)
  | 0, _, _ => none
  | k + 1, x0, x5 => if (wrap64 (x5 + 2)) < (x0.length : Int) then (if 0 ≤ x5 then (if x5 < (x0.length : Int) then (if (rd x0 x5) = 51 then (if 0 ≤ (wrap64 (x5 + 2)) then (tdparse_QuoteEntity.j6 k x0 x5 ((rd x0 (wrap64 (x5 + 2))) == 59)) else (none)) else (tdparse_QuoteEntity.j6 k x0 x5 false)) else (none)) else (none)) else (tdparse_QuoteEntity.j6 k x0 x5 false)
def tdparse_QuoteEntity.j6 : Nat → List Int → Int → Bool → Option (Int × Int)
  | 0, _, _, _ => none
  | k + 1, x0, x5, x104 => if x104 = true then (if 0 ≤ (wrap64 (x5 + 1)) then (if (wrap64 (x5 + 1)) < (x0.length : Int) then (if (rd x0 (wrap64 (x5 + 1))) = 52 then (some (34, wrap64 (x5 + 3))) else (if (rd x0 (wrap64 (x5 + 1))) = 57 then (some (39, wrap64 (x5 + 3))) else (some (0, 0)))) else (none)) else (none)) else (some (0, 0))
def tdparse_QuoteEntity.l1 : Nat → List Int → Int → Option (Int × Int)
  | 0, _, _ => none
  | k + 1, x0, x5 => if x5 < (x0.length : Int) then (if 0 ≤ x5 then (if (rd x0 x5) = 48 then (tdparse_QuoteEntity.l1 k x0 (wrap64 (x5 + 1))) else (tdparse_QuoteEntity.j5 k x0 x5)) else (none)) else (tdparse_QuoteEntity.j5 k x0 x5)
def tdparse_QuoteEntity.j7 : Nat → List Int → Bool → Option (Int × Int)
  | 0, _, _ => none
  | k + 1, x0, x129 => if x129 = true then (if 1 ≤ 5 then (if 5 ≤ (x0.length : Int) then ((bytes_Equal.f ((x0.take 5).drop 1) (([113, 117, 111, 116] : List Int))).bind fun t133 => (if t133 = true then (some (34, 6)) else ((bytes_Equal.f ((x0.take 5).drop 1) (([97, 112, 111, 115] : List Int))).bind fun t138 => (if t138 = true then (some (39, 6)) else (some (0, 0)))))) else (none)) else (none)) else (some (0, 0))
end
def tdparse_QuoteEntity.f (k : Nat) (l0 : List Int) : Option (Int × Int) := if (l0.length : Int) < 5 then (tdparse_QuoteEntity.j0 k l0 true) else (if 0 < (l0.length : Int) then (tdparse_QuoteEntity.j0 k l0 ((rd l0 0) != 38)) else (none))
theorem tdparse_QuoteEntity.mono_l : ∀ k, (∀ y0 y1, LeO (tdparse_QuoteEntity.j0 k y0 y1) (tdparse_QuoteEntity.j0 (k + 1) y0 y1)) ∧ (∀ y0 y1, LeO (tdparse_QuoteEntity.j2 k y0 y1) (tdparse_QuoteEntity.j2 (k + 1) y0 y1)) ∧ (∀ y0 y1 y2, LeO (tdparse_QuoteEntity.j3 k y0 y1 y2) (tdparse_QuoteEntity.j3 (k + 1) y0 y1 y2)) ∧ (∀ y0 y1, LeO (tdparse_QuoteEntity.l0 k y0 y1) (tdparse_QuoteEntity.l0 (k + 1) y0 y1)) ∧ (∀ y0 y1, LeO (tdparse_QuoteEntity.j5 k y0 y1) (tdparse_QuoteEntity.j5 (k + 1) y0 y1)) ∧ (∀ y0 y1 y2, LeO (tdparse_QuoteEntity.j6 k y0 y1 y2) (tdparse_QuoteEntity.j6 (k + 1) y0 y1 y2)) ∧ (∀ y0 y1, LeO (tdparse_QuoteEntity.l1 k y0 y1) (tdparse_QuoteEntity.l1 (k + 1) y0 y1)) ∧ (∀ y0 y1, LeO (tdparse_QuoteEntity.j7 k y0 y1) (tdparse_QuoteEntity.j7 (k + 1) y0 y1))
  | 0 => ⟨fun _ _ r h => by simp [tdparse_QuoteEntity.j0] at h, fun _ _ r h => by simp [tdparse_QuoteEntity.j2] at h, fun _ _ _ r h => by simp [tdparse_QuoteEntity.j3] at h, fun _ _ r h => by simp [tdparse_QuoteEntity.l0] at h, fun _ _ r h => by simp [tdparse_QuoteEntity.j5] at h, fun _ _ _ r h => by simp [tdparse_QuoteEntity.j6] at h, fun _ _ r h => by simp [tdparse_QuoteEntity.l1] at h, fun _ _ r h => by simp [tdparse_QuoteEntity.j7] at h⟩
  | k + 1 => by
    obtain ⟨ih0, ih1, ih2, ih3, ih4, ih5, ih6, ih7⟩ := tdparse_QuoteEntity.mono_l k
    refine ⟨?_, ?_, ?_, ?_, ?_, ?_, ?_, ?_⟩
    · intro y0 y1
      unfold tdparse_QuoteEntity.j0
      repeat' first
      | (with_reducible exact ih0 _ _)
      | (with_reducible exact ih1 _ _)
      | (with_reducible exact ih2 _ _ _)
      | (with_reducible exact ih3 _ _)
      | (with_reducible exact ih4 _ _)
      | (with_reducible exact ih5 _ _ _)
      | (with_reducible exact ih6 _ _)
      | (with_reducible exact ih7 _ _)
      | (with_reducible exact LeO.refl _)
      | (with_reducible exact LeO.none _)
      | (with_reducible refine LeO.ite ?_ ?_)
      | (with_reducible refine LeO.bind ?_ (fun _ => ?_))
      | exact ih0 _ _
      | exact ih1 _ _
      | exact ih2 _ _ _
      | exact ih3 _ _
      | exact ih4 _ _
      | exact ih5 _ _ _
      | exact ih6 _ _
      | exact ih7 _ _
      | exact LeO.none _
      | refine LeO.ite ?_ ?_
      | refine LeO.bind ?_ (fun _ => ?_)
    · intro y0 y1
      unfold tdparse_QuoteEntity.j2
      repeat' first
      | (with_reducible exact ih0 _ _)
      | (with_reducible exact ih1 _ _)
      | (with_reducible exact ih2 _ _ _)
      | (with_reducible exact ih3 _ _)
      | (with_reducible exact ih4 _ _)
      | (with_reducible exact ih5 _ _ _)
      | (with_reducible exact ih6 _ _)
      | (with_reducible exact ih7 _ _)
      | (with_reducible exact LeO.refl _)
      | (with_reducible exact LeO.none _)
      | (with_reducible refine LeO.ite ?_ ?_)
      | (with_reducible refine LeO.bind ?_ (fun _ => ?_))
      | exact ih0 _ _
      | exact ih1 _ _
      | exact ih2 _ _ _
      | exact ih3 _ _
      | exact ih4 _ _
      | exact ih5 _ _ _
      | exact ih6 _ _
      | exact ih7 _ _
      | exact LeO.none _
      | refine LeO.ite ?_ ?_
      | refine LeO.bind ?_ (fun _ => ?_)
    · intro y0 y1 y2
      unfold tdparse_QuoteEntity.j3
      repeat' first
      | (with_reducible exact ih0 _ _)
      | (with_reducible exact ih1 _ _)
      | (with_reducible exact ih2 _ _ _)
      | (with_reducible exact ih3 _ _)
      | (with_reducible exact ih4 _ _)
      | (with_reducible exact ih5 _ _ _)
      | (with_reducible exact ih6 _ _)
      | (with_reducible exact ih7 _ _)
      | (with_reducible exact LeO.refl _)
      | (with_reducible exact LeO.none _)
      | (with_reducible refine LeO.ite ?_ ?_)
      | (with_reducible refine LeO.bind ?_ (fun _ => ?_))
      | exact ih0 _ _
      | exact ih1 _ _
      | exact ih2 _ _ _
      | exact ih3 _ _
      | exact ih4 _ _
      | exact ih5 _ _ _
      | exact ih6 _ _
      | exact ih7 _ _
      | exact LeO.none _
      | refine LeO.ite ?_ ?_
      | refine LeO.bind ?_ (fun _ => ?_)
    · intro y0 y1
      unfold tdparse_QuoteEntity.l0
      repeat' first
      | (with_reducible exact ih0 _ _)
      | (with_reducible exact ih1 _ _)
      | (with_reducible exact ih2 _ _ _)
      | (with_reducible exact ih3 _ _)
      | (with_reducible exact ih4 _ _)
      | (with_reducible exact ih5 _ _ _)
      | (with_reducible exact ih6 _ _)
      | (with_reducible exact ih7 _ _)
      | (with_reducible exact LeO.refl _)
      | (with_reducible exact LeO.none _)
      | (with_reducible refine LeO.ite ?_ ?_)
      | (with_reducible refine LeO.bind ?_ (fun _ => ?_))
      | exact ih0 _ _
      | exact ih1 _ _
      | exact ih2 _ _ _
      | exact ih3 _ _
      | exact ih4 _ _
      | exact ih5 _ _ _
      | exact ih6 _ _
      | exact ih7 _ _
      | exact LeO.none _
      | refine LeO.ite ?_ ?_
      | refine LeO.bind ?_ (fun _ => ?_)
    · intro y0 y1
      unfold tdparse_QuoteEntity.j5
      repeat' first
      | (with_reducible exact ih0 _ _)
      | (with_reducible exact ih1 _ _)
      | (with_reducible exact ih2 _ _ _)
      | (with_reducible exact ih3 _ _)
      | (with_reducible exact ih4 _ _)
      | (with_reducible exact ih5 _ _ _)
      | (with_reducible exact ih6 _ _)
      | (with_reducible exact ih7 _ _)
      | (with_reducible exact LeO.refl _)
      | (with_reducible exact LeO.none _)
      | (with_reducible refine LeO.ite ?_ ?_)
      | (with_reducible refine LeO.bind ?_ (fun _ => ?_))
      | exact ih0 _ _
      | exact ih1 _ _
      | exact ih2 _ _ _
      | exact ih3 _ _
      | exact ih4 _ _
      | exact ih5 _ _ _
      | exact ih6 _ _
      | exact ih7 _ _
      | exact LeO.none _
      | refine LeO.ite ?_ ?_
      | refine LeO.bind ?_ (fun _ => ?_)
    · intro y0 y1 y2
      unfold tdparse_QuoteEntity.j6
      repeat' first
      | (with_reducible exact ih0 _ _)
      | (with_reducible exact ih1 _ _)
      | (with_reducible exact ih2 _ _ _)
      | (with_reducible exact ih3 _ _)
      | (with_reducible exact ih4 _ _)
      | (with_reducible exact ih5 _ _ _)
      | (with_reducible exact ih6 _ _)
      | (with_reducible exact ih7 _ _)
      | (with_reducible exact LeO.refl _)
      | (with_reducible exact LeO.none _)
      | (with_reducible refine LeO.ite ?_ ?_)
      | (with_reducible refine LeO.bind ?_ (fun _ => ?_))
      | exact ih0 _ _
      | exact ih1 _ _
      | exact ih2 _ _ _
      | exact ih3 _ _
      | exact ih4 _ _
      | exact ih5 _ _ _
      | exact ih6 _ _
      | exact ih7 _ _
      | exact LeO.none _
      | refine LeO.ite ?_ ?_
      | refine LeO.bind ?_ (fun _ => ?_)
    · intro y0 y1
      unfold tdparse_QuoteEntity.l1
      repeat' first
      | (with_reducible exact ih0 _ _)
      | (with_reducible exact ih1 _ _)
      | (with_reducible exact ih2 _ _ _)
      | (with_reducible exact ih3 _ _)
      | (with_reducible exact ih4 _ _)
      | (with_reducible exact ih5 _ _ _)
      | (with_reducible exact ih6 _ _)
      | (with_reducible exact ih7 _ _)
      | (with_reducible exact LeO.refl _)
      | (with_reducible exact LeO.none _)
      | (with_reducible refine LeO.ite ?_ ?_)
      | (with_reducible refine LeO.bind ?_ (fun _ => ?_))
      | exact ih0 _ _
      | exact ih1 _ _
      | exact ih2 _ _ _
      | exact ih3 _ _
      | exact ih4 _ _
      | exact ih5 _ _ _
      | exact ih6 _ _
      | exact ih7 _ _
      | exact LeO.none _
      | refine LeO.ite ?_ ?_
      | refine LeO.bind ?_ (fun _ => ?_)
    · intro y0 y1
      unfold tdparse_QuoteEntity.j7
      repeat' first
      | (with_reducible exact ih0 _ _)
      | (with_reducible exact ih1 _ _)
      | (with_reducible exact ih2 _ _ _)
      | (with_reducible exact ih3 _ _)
      | (with_reducible exact ih4 _ _)
      | (with_reducible exact ih5 _ _ _)
      | (with_reducible exact ih6 _ _)
      | (with_reducible exact ih7 _ _)
      | (with_reducible exact LeO.refl _)
      | (with_reducible exact LeO.none _)
      | (with_reducible refine LeO.ite ?_ ?_)
      | (with_reducible refine LeO.bind ?_ (fun _ => ?_))
      | exact ih0 _ _
      | exact ih1 _ _
      | exact ih2 _ _ _
      | exact ih3 _ _
      | exact ih4 _ _
      | exact ih5 _ _ _
      | exact ih6 _ _
      | exact ih7 _ _
      | exact LeO.none _
      | refine LeO.ite ?_ ?_
      | refine LeO.bind ?_ (fun _ => ?_)
theorem tdparse_QuoteEntity.mono : ∀ a0 k, LeO (tdparse_QuoteEntity.f k a0) (tdparse_QuoteEntity.f (k + 1) a0) := by
  intro a0 k
  obtain ⟨ih0, ih1, ih2, ih3, ih4, ih5, ih6, ih7⟩ := tdparse_QuoteEntity.mono_l k
  unfold tdparse_QuoteEntity.f
  repeat' first
      | (with_reducible exact ih0 _ _)
      | (with_reducible exact ih1 _ _)
      | (with_reducible exact ih2 _ _ _)
      | (with_reducible exact ih3 _ _)
      | (with_reducible exact ih4 _ _)
      | (with_reducible exact ih5 _ _ _)
      | (with_reducible exact ih6 _ _)
      | (with_reducible exact ih7 _ _)
      | (with_reducible exact LeO.refl _)
      | (with_reducible exact LeO.none _)
      | (with_reducible refine LeO.ite ?_ ?_)
      | (with_reducible refine LeO.bind ?_ (fun _ => ?_))
      | exact ih0 _ _
      | exact ih1 _ _
      | exact ih2 _ _ _
      | exact ih3 _ _
      | exact ih4 _ _
      | exact ih5 _ _ _
      | exact ih6 _ _
      | exact ih7 _ _
      | exact LeO.none _
      | refine LeO.ite ?_ ?_
      | refine LeO.bind ?_ (fun _ => ?_)
set_option maxHeartbeats 8000000 in
set_option maxRecDepth 100000 in
theorem tdparse_QuoteEntity.calls (k : Nat) (A0 : Option Addr) (c0 : Nat) (l0 : List Int) (r1 : Int) (r2 : Int) (w : World) (hr0 : Kd.C (Kd.int .u8) w A0 l0.length l0) (hc0 : l0.length ≤ c0) (h : tdparse_QuoteEntity.f k l0 = some (r1, r2)) :
    Calls Try.prog 57 #[.slice A0 l0.length c0] w fun e w' => e = .returned (.tuple #[.int .u8 r1, .int .i64 r2]) ∧ Below w.heap.size w w' := by
  have HR0 := Aside0.mk hr0
  have HC0 := Aside0.mk hc0
  clear hr0 hc0
  have HB := Aside0.mk (Below.refl w.heap.size w)
  have H : (if (l0.length : Int) < 5 then (tdparse_QuoteEntity.j0 k l0 true) else (if 0 < (l0.length : Int) then (tdparse_QuoteEntity.j0 k l0 ((rd l0 0) != 38)) else (none))) = some (r1, r2) := h
  clear h
  have HC2 := Aside0.mk H
  clear H
  go_enter Try.func57, Try.ntmps57
  go_upto_region 1 with (fail)
  go_cut [14] (fun v14 wc => ∃ (kq : Nat) (x14_1 : Bool), v14 = .bool x14_1 ∧ Aside0 (tdparse_QuoteEntity.j0 kq l0 x14_1 = some (r1, r2)) ∧ Aside0 (kq ≤ k) ∧ Aside0 (Below w.heap.size w wc))
  case first =>
    have H := HC2.out
    clear HC2
    by_cases c3 : (l0.length : Int) < 5
    · rw [if_pos c3] at H
      have c3b0 : decide ((l0.length : Int) < 5) = true := decide_eq_true c3
      have c3b1 : decide (l0.length < 5) = true := decide_eq_true (by omega)
      clear c3
      (first | rw [c3b0] | (simp only [i64_w, i32_w]; rw [c3b0]) | skip)
      have H' := Aside0.mk H
      clear H
      go_wp2
      go_meet
      case rel => exact ⟨_, (true), (by first | rfl | (simp; done) | (simp [*]; done)), H', ⟨by first | omega | exact Nat.le_refl _⟩, ⟨by repeat (first | (with_reducible first | exact HB.out | apply below_alloc | apply pw_below_drewN | apply below_drew1) | exact HB.out)⟩⟩
    · rw [if_neg c3] at H
      have c3b0 : decide ((l0.length : Int) < 5) = false := decide_eq_false c3
      have c3b1 : decide (l0.length < 5) = false := decide_eq_false (by omega)
      clear c3
      (first | rw [c3b0] | (simp only [i64_w, i32_w]; rw [c3b0]) | skip)
      by_cases c4 : 0 < (l0.length : Int)
      · rw [if_pos c4] at H
        have c4b0 : decide (0 < (l0.length : Int)) = true := decide_eq_true c4
        have c4b1 : decide (0 < l0.length) = true := decide_eq_true (by omega)
        clear c4
        have H' := Aside0.mk H
        clear H
        have p115 : 0 ≤ (0 : Int) := (by omega)
        have q115 : 0 < (l0.length : Int) := of_decide_eq_true (by first | (with_reducible assumption) | assumption)
        obtain ⟨ad115, e115, hx115_0⟩ := Kd.at_int HR0.out 0 p115 q115
        cases e115
        have qi115 : (0 < l0.length) = True := eq_true (by omega)
        (try rw [show ((0 : Int)).toNat = 0 from rfl] at hx115_0)
        (try rw [Addr.add_zero'] at hx115_0)
        replace hx115_0 := (HB.out.cell (World.block_lt_of_cell? w _ hx115_0)).trans hx115_0
        replace p115 := eq_true p115
        replace q115 := eq_true q115
        go_wp2
        go_meet
        case rel => exact ⟨_, (((rd l0 0) != 38)), (by first | rfl | (simp; done) | (simp [*]; done)), H', ⟨by first | omega | exact Nat.le_refl _⟩, ⟨by repeat (first | (with_reducible first | exact HB.out | apply below_alloc | apply pw_below_drewN | apply below_drew1) | exact HB.out)⟩⟩
      · rw [if_neg c4] at H
        exact absurd H (by simp)
  case rest =>
    clear HC2
    try clear p1
    try clear q1
    try clear hx1
    try clear qi1
    try clear p2
    try clear c3
    try clear c3b0
    try clear c3b1
    try clear c4
    try clear c4b0
    try clear c4b1
    try clear hx115_0
    try clear p115
    try clear q115
    obtain ⟨kq, x14_1, rfl, HA, HJ1, HB⟩ := hcut
    cases kq with
    | zero => exact absurd HA.out (by simp [tdparse_QuoteEntity.j0])
    | succ kj1 =>
      have H := HA.out
      clear HA
      simp only [tdparse_QuoteEntity.j0] at H
      by_cases c5 : x14_1 = true
      · subst c5
        have H1 : (some (0, 0)) = some (r1, r2) := by rw [if_pos rfl] at H; exact H
        clear H
        have H := H1
        clear H1
        simp only [Option.some.injEq, Prod.mk.injEq] at H
        obtain ⟨rfl, rfl⟩ := H
        go_wp2
        go_ret2
        exact ⟨by first | rfl | (simp [errW_none, errW_some] <;> rfl) | (simp [*, errW_none, errW_some] <;> rfl), by repeat (first | (with_reducible first | exact HB.out | apply below_alloc | apply pw_below_drewN | apply below_drew1) | exact HB.out)⟩
      · replace c5 := Bool.eq_false_iff.mpr c5
        subst c5
        have H1 : (if 1 < (l0.length : Int) then (if (rd l0 1) = 35 then (if 2 < (l0.length : Int) then (if (rd l0 2) = 120 then (tdparse_QuoteEntity.l0 kj1 l0 3) else (tdparse_QuoteEntity.l1 kj1 l0 2)) else (none)) else (if (l0.length : Int) ≥ 6 then (if 5 < (l0.length : Int) then (tdparse_QuoteEntity.j7 kj1 l0 ((rd l0 5) == 59)) else (none)) else (tdparse_QuoteEntity.j7 kj1 l0 false))) else (none)) = some (r1, r2) := by rw [if_neg (show ¬ (false = true) by decide)] at H; exact H
        clear H
        have H := H1
        clear H1
        by_cases c6 : 1 < (l0.length : Int)
        · rw [if_pos c6] at H
          have c6b0 : decide (1 < (l0.length : Int)) = true := decide_eq_true c6
          have c6b1 : decide (1 < l0.length) = true := decide_eq_true (by omega)
          clear c6
          by_cases c7 : (rd l0 1) = 35
          · rw [if_pos c7] at H
            have c7b0 : ((rd l0 1) == 35) = true := beq_iff_eq.mpr c7
            have c7b1 : ((rd l0 1) != 35) = false := bne_eq_false_iff_eq.mpr c7
            clear c7
            by_cases c8 : 2 < (l0.length : Int)
            · rw [if_pos c8] at H
              have c8b0 : decide (2 < (l0.length : Int)) = true := decide_eq_true c8
              have c8b1 : decide (2 < l0.length) = true := decide_eq_true (by omega)
              clear c8
              by_cases c9 : (rd l0 2) = 120
              · rw [if_pos c9] at H
                have c9b0 : ((rd l0 2) == 120) = true := beq_iff_eq.mpr c9
                have c9b1 : ((rd l0 2) != 120) = false := bne_eq_false_iff_eq.mpr c9
                clear c9
                have HC10 := Aside0.mk H
                clear H
                have p116 : 0 ≤ (1 : Int) := (by omega)
                have q116 : 1 < (l0.length : Int) := of_decide_eq_true (by first | (with_reducible assumption) | assumption)
                obtain ⟨ad116, e116, hx116_0⟩ := Kd.at_int HR0.out 1 p116 q116
                cases e116
                (try simp only [show (1 : Int).toNat = 1 from rfl, Nat.reduceMul, Nat.reduceEqDiff, Go.Addr.add, ↓reduceIte] at hx116_0)
                have qi116 : (1 < l0.length) = True := eq_true (by omega)
                (try rw [show ((1 : Int)).toNat = 1 from rfl] at hx116_0)
                replace hx116_0 := (HB.out.cell (World.block_lt_of_cell? w _ hx116_0)).trans hx116_0
                replace p116 := eq_true p116
                replace q116 := eq_true q116
                have p117 : 0 ≤ (2 : Int) := (by omega)
                have q117 : 2 < (l0.length : Int) := of_decide_eq_true (by first | (with_reducible assumption) | assumption)
                obtain ⟨ad117, e117, hx117_0⟩ := Kd.at_int HR0.out 2 p117 q117
                obtain rfl : ad116 = ad117 := (by injection e117)
                (try simp only [show (2 : Int).toNat = 2 from rfl, Nat.reduceMul, Nat.reduceEqDiff, Go.Addr.add, ↓reduceIte] at hx117_0)
                have qi117 : (2 < l0.length) = True := eq_true (by omega)
                (try rw [show ((2 : Int)).toNat = 2 from rfl] at hx117_0)
                replace hx117_0 := (HB.out.cell (World.block_lt_of_cell? w _ hx117_0)).trans hx117_0
                replace p117 := eq_true p117
                replace q117 := eq_true q117
                go_upto_block 0 with (fail)
                go_cut [4] (fun v4 wc => ∃ (kq : Nat) (x4_9 : Int), v4 = .int .i64 x4_9 ∧ Aside0 (tdparse_QuoteEntity.j2 kq l0 x4_9 = some (r1, r2)) ∧ Aside0 (kq ≤ kj1) ∧ Aside0 (Below w.heap.size w wc))
                case first =>
                  have H := HC10.out
                  clear HC10
                  have H' := Aside0.mk H
                  clear H
                  go_wp2
                  go_loopg [4] kj1 (fun kq v4 w' => ∃ (x4_2 : Int), v4 = .int .i64 x4_2 ∧ Aside0 (tdparse_QuoteEntity.l0 kq l0 x4_2 = some (r1, r2)) ∧ Aside0 (kq ≤ kj1) ∧ Aside0 (Below w.heap.size w w'))
                  case atStart => exact ⟨(3), (by first | rfl | (simp; done) | (simp [*]; done)), H', ⟨Nat.le_refl _⟩, ⟨by repeat (first | (with_reducible first | exact HB.out | apply below_alloc | apply pw_below_drewN | apply below_drew1) | exact HB.out)⟩⟩
                  case round =>
                    clear H'
                    try clear p1
                    try clear q1
                    try clear hx1
                    try clear qi1
                    try clear p2
                    try clear c3
                    try clear c3b0
                    try clear c3b1
                    try clear c4
                    try clear c4b0
                    try clear c4b1
                    try clear c5
                    try clear c6
                    try clear c6b0
                    try clear c6b1
                    try clear c7
                    try clear c7b0
                    try clear c7b1
                    try clear c8
                    try clear c8b0
                    try clear c8b1
                    try clear c9
                    try clear c9b0
                    try clear c9b1
                    try clear hx115_0
                    try clear hx116_0
                    try clear hx117_0
                    try clear p1
                    try clear p115
                    try clear p116
                    try clear p117
                    try clear p2
                    try clear q1
                    try clear q115
                    try clear q116
                    try clear q117
                    obtain ⟨x4_2, rfl, HA, HK2, HB⟩ := hrel
                    cases gk with
                    | zero => exact absurd HA.out (by simp [tdparse_QuoteEntity.l0])
                    | succ k2 =>
                      have H := HA.out
                      clear HA
                      simp only [tdparse_QuoteEntity.l0] at H
                      by_cases c11 : x4_2 < (l0.length : Int)
                      · rw [if_pos c11] at H
                        have c11b0 : decide (x4_2 < (l0.length : Int)) = true := decide_eq_true c11
                        clear c11
                        (first | rw [c11b0] | (simp only [i64_w, i32_w]; rw [c11b0]) | skip)
                        by_cases c12 : 0 ≤ x4_2
                        · rw [if_pos c12] at H
                          have c12b0 : decide (0 ≤ x4_2) = true := decide_eq_true c12
                          clear c12
                          by_cases c13 : (rd l0 x4_2) = 48
                          · rw [if_pos c13] at H
                            have c13b0 : ((rd l0 x4_2) == 48) = true := beq_iff_eq.mpr c13
                            have c13b1 : ((rd l0 x4_2) != 48) = false := bne_eq_false_iff_eq.mpr c13
                            clear c13
                            have H' := Aside0.mk H
                            clear H
                            have p118 : 0 ≤ (x4_2 : Int) := of_decide_eq_true (by first | (with_reducible assumption) | assumption)
                            have q118 : x4_2 < (l0.length : Int) := of_decide_eq_true (by first | (with_reducible assumption) | assumption)
                            obtain ⟨ad118, e118, hx118_0⟩ := Kd.at_int HR0.out x4_2 p118 q118
                            obtain rfl : ad116 = ad118 := (by injection e118)
                            replace hx118_0 := (HB.out.cell (World.block_lt_of_cell? w _ hx118_0)).trans hx118_0
                            replace p118 := eq_true p118
                            replace q118 := eq_true q118
                            go_wp2
                            go_roundg k2
                            case measure => have := HJ1.out; have := HK2.out; omega
                            case rel => exact ⟨(wrap64 (x4_2 + 1)), (by first | rfl | (simp; done) | (simp [*]; done)), H', ⟨by have := HJ1.out; have := HK2.out; omega⟩, ⟨by repeat (first | (with_reducible first | exact HB.out | apply below_alloc | apply pw_below_drewN | apply below_drew1) | exact HB.out)⟩⟩
                          · rw [if_neg c13] at H
                            have c13b0 : ((rd l0 x4_2) == 48) = false := beq_eq_false_iff_ne.mpr c13
                            have c13b1 : ((rd l0 x4_2) != 48) = true := bne_iff_ne.mpr c13
                            have H' := Aside0.mk H
                            clear H
                            have p118 : 0 ≤ (x4_2 : Int) := of_decide_eq_true (by first | (with_reducible assumption) | assumption)
                            have q118 : x4_2 < (l0.length : Int) := of_decide_eq_true (by first | (with_reducible assumption) | assumption)
                            obtain ⟨ad118, e118, hx118_0⟩ := Kd.at_int HR0.out x4_2 p118 q118
                            obtain rfl : ad116 = ad118 := (by injection e118)
                            replace hx118_0 := (HB.out.cell (World.block_lt_of_cell? w _ hx118_0)).trans hx118_0
                            replace p118 := eq_true p118
                            replace q118 := eq_true q118
                            go_wp2
                            go_meet
                            case rel => exact ⟨_, (x4_2), (by first | rfl | (simp; done) | (simp [*]; done)), H', ⟨by have := HJ1.out; have := HK2.out; first | omega | exact Nat.le_refl _⟩, ⟨by repeat (first | (with_reducible first | exact HB.out | apply below_alloc | apply pw_below_drewN | apply below_drew1) | exact HB.out)⟩⟩
                        · rw [if_neg c12] at H
                          exact absurd H (by simp)
                      · rw [if_neg c11] at H
                        have c11b0 : decide (x4_2 < (l0.length : Int)) = false := decide_eq_false c11
                        clear c11
                        (first | rw [c11b0] | (simp only [i64_w, i32_w]; rw [c11b0]) | skip)
                        have H' := Aside0.mk H
                        clear H
                        go_wp2
                        go_meet
                        case rel => exact ⟨_, (x4_2), (by first | rfl | (simp; done) | (simp [*]; done)), H', ⟨by have := HJ1.out; have := HK2.out; first | omega | exact Nat.le_refl _⟩, ⟨by repeat (first | (with_reducible first | exact HB.out | apply below_alloc | apply pw_below_drewN | apply below_drew1) | exact HB.out)⟩⟩
                case rest =>
                  clear HC10
                  try clear c1
                  try clear p1
                  try clear q1
                  try clear hx1
                  try clear qi1
                  try clear p2
                  try clear c3
                  try clear c3b0
                  try clear c3b1
                  try clear c4
                  try clear c4b0
                  try clear c4b1
                  try clear c5
                  try clear c6
                  try clear c6b0
                  try clear c6b1
                  try clear p6
                  try clear c7
                  try clear c7b0
                  try clear c7b1
                  try clear c8
                  try clear c8b0
                  try clear c8b1
                  try clear c9
                  try clear c9b0
                  try clear c9b1
                  try clear c11
                  try clear c11b0
                  try clear p11
                  try clear q11
                  try clear hx11
                  try clear qi11
                  try clear c12
                  try clear c12b0
                  try clear c13
                  try clear c13b0
                  try clear c13b1
                  try clear hx115_0
                  try clear hx116_0
                  try clear hx117_0
                  try clear hx118_0
                  try clear p1
                  try clear p115
                  try clear p116
                  try clear p117
                  try clear p118
                  try clear p2
                  try clear q1
                  try clear q115
                  try clear q116
                  try clear q117
                  try clear q118
                  obtain ⟨kq, x4_9, rfl, HA, HJ9, HB⟩ := hcut
                  cases kq with
                  | zero => exact absurd HA.out (by simp [tdparse_QuoteEntity.j2])
                  | succ kj9 =>
                    have H := HA.out
                    clear HA
                    simp only [tdparse_QuoteEntity.j2] at H
                    have HC14 := Aside0.mk H
                    clear H
                    go_upto_region 8 with (fail)
                    go_cut [55] (fun v55 wc => ∃ (kq : Nat) (x55_13 : Bool), v55 = .bool x55_13 ∧ Aside0 (tdparse_QuoteEntity.j3 kq l0 x4_9 x55_13 = some (r1, r2)) ∧ Aside0 (kq ≤ kj9) ∧ Aside0 (Below w.heap.size w wc))
                    case first =>
                      have H := HC14.out
                      clear HC14
                      by_cases c15 : (wrap64 (x4_9 + 2)) < (l0.length : Int)
                      · rw [if_pos c15] at H
                        have c15b0 : decide ((wrap64 (x4_9 + 2)) < (l0.length : Int)) = true := decide_eq_true c15
                        clear c15
                        (first | rw [c15b0] | (simp only [i64_w, i32_w]; rw [c15b0]) | skip)
                        by_cases c16 : 0 ≤ x4_9
                        · rw [if_pos c16] at H
                          have c16b0 : decide (0 ≤ x4_9) = true := decide_eq_true c16
                          clear c16
                          by_cases c17 : x4_9 < (l0.length : Int)
                          · rw [if_pos c17] at H
                            have c17b0 : decide (x4_9 < (l0.length : Int)) = true := decide_eq_true c17
                            clear c17
                            by_cases c18 : (rd l0 x4_9) = 50
                            · rw [if_pos c18] at H
                              have c18b0 : ((rd l0 x4_9) == 50) = true := beq_iff_eq.mpr c18
                              have c18b1 : ((rd l0 x4_9) != 50) = false := bne_eq_false_iff_eq.mpr c18
                              clear c18
                              obtain ⟨ji19, hji19⟩ : ∃ j_ : Int, (wrap64 (x4_9 + 2)) = j_ := ⟨_, rfl⟩
                              replace H : (if 0 ≤ (ji19) then (tdparse_QuoteEntity.j3 kj9 l0 x4_9 ((rd l0 (ji19)) == 59)) else (none)) = some (r1, r2) := by first | (rw [hji19] at H; exact H) | (simp only [hji19] at H ⊢; exact H)
                              (try rw [hji19] at c15b0)
                              have hji19w : (IntKind.i64.wrap (x4_9 + 2)) = ji19 := (i64_w _).trans hji19
                              by_cases c20 : 0 ≤ (ji19)
                              · rw [if_pos c20] at H
                                have c20b0 : decide (0 ≤ (ji19)) = true := decide_eq_true c20
                                clear c20
                                have H' := Aside0.mk H
                                clear H
                                have p119 : 0 ≤ (x4_9 : Int) := of_decide_eq_true (by first | (with_reducible assumption) | assumption)
                                have q119 : x4_9 < (l0.length : Int) := of_decide_eq_true (by first | (with_reducible assumption) | assumption)
                                obtain ⟨ad119, e119, hx119_0⟩ := Kd.at_int HR0.out x4_9 p119 q119
                                obtain rfl : ad116 = ad119 := (by injection e119)
                                replace hx119_0 := (HB.out.cell (World.block_lt_of_cell? w _ hx119_0)).trans hx119_0
                                replace p119 := eq_true p119
                                replace q119 := eq_true q119
                                have p120 : 0 ≤ ((ji19) : Int) := of_decide_eq_true (by first | (with_reducible assumption) | assumption)
                                have q120 : (ji19) < (l0.length : Int) := of_decide_eq_true (by first | (with_reducible assumption) | assumption)
                                obtain ⟨ad120, e120, hx120_0⟩ := Kd.at_int HR0.out (ji19) p120 q120
                                obtain rfl : ad116 = ad120 := (by injection e120)
                                replace hx120_0 := (HB.out.cell (World.block_lt_of_cell? w _ hx120_0)).trans hx120_0
                                replace p120 := eq_true p120
                                replace q120 := eq_true q120
                                go_wp2
                                subst hji19
                                go_meet
                                case rel => exact ⟨_, (((rd l0 ((wrap64 (x4_9 + 2)))) == 59)), (by first | rfl | (simp; done) | (simp; done) | (simp [*]; done)), H', ⟨by have := HJ1.out; have := HJ9.out; first | omega | exact Nat.le_refl _⟩, ⟨by repeat (first | (with_reducible first | exact HB.out | apply below_alloc | apply pw_below_drewN | apply below_drew1) | exact HB.out)⟩⟩
                              · rw [if_neg c20] at H
                                exact absurd H (by simp)
                            · rw [if_neg c18] at H
                              have c18b0 : ((rd l0 x4_9) == 50) = false := beq_eq_false_iff_ne.mpr c18
                              have c18b1 : ((rd l0 x4_9) != 50) = true := bne_iff_ne.mpr c18
                              have H' := Aside0.mk H
                              clear H
                              have p119 : 0 ≤ (x4_9 : Int) := of_decide_eq_true (by first | (with_reducible assumption) | assumption)
                              have q119 : x4_9 < (l0.length : Int) := of_decide_eq_true (by first | (with_reducible assumption) | assumption)
                              obtain ⟨ad119, e119, hx119_0⟩ := Kd.at_int HR0.out x4_9 p119 q119
                              obtain rfl : ad116 = ad119 := (by injection e119)
                              replace hx119_0 := (HB.out.cell (World.block_lt_of_cell? w _ hx119_0)).trans hx119_0
                              replace p119 := eq_true p119
                              replace q119 := eq_true q119
                              go_wp2
                              go_meet
                              case rel => exact ⟨_, (false), (by first | rfl | (simp; done) | (simp [*]; done)), H', ⟨by have := HJ1.out; have := HJ9.out; first | omega | exact Nat.le_refl _⟩, ⟨by repeat (first | (with_reducible first | exact HB.out | apply below_alloc | apply pw_below_drewN | apply below_drew1) | exact HB.out)⟩⟩
                          · rw [if_neg c17] at H
                            exact absurd H (by simp)
                        · rw [if_neg c16] at H
                          exact absurd H (by simp)
                      · rw [if_neg c15] at H
                        have c15b0 : decide ((wrap64 (x4_9 + 2)) < (l0.length : Int)) = false := decide_eq_false c15
                        clear c15
                        (first | rw [c15b0] | (simp only [i64_w, i32_w]; rw [c15b0]) | skip)
                        have H' := Aside0.mk H
                        clear H
                        go_wp2
                        go_meet
                        case rel => exact ⟨_, (false), (by first | rfl | (simp; done) | (simp [*]; done)), H', ⟨by have := HJ1.out; have := HJ9.out; first | omega | exact Nat.le_refl _⟩, ⟨by repeat (first | (with_reducible first | exact HB.out | apply below_alloc | apply pw_below_drewN | apply below_drew1) | exact HB.out)⟩⟩
                    case rest =>
                      clear HC14
                      try clear c1
                      try clear p1
                      try clear q1
                      try clear hx1
                      try clear qi1
                      try clear c2
                      try clear p2
                      try clear c3
                      try clear c3b0
                      try clear c3b1
                      try clear c4
                      try clear c4b0
                      try clear c4b1
                      try clear c5
                      try clear c6
                      try clear c6b0
                      try clear c6b1
                      try clear p6
                      try clear c7
                      try clear c7b0
                      try clear c7b1
                      try clear c8
                      try clear c8b0
                      try clear c8b1
                      try clear c9
                      try clear c9b0
                      try clear c9b1
                      try clear c11
                      try clear c11b0
                      try clear p11
                      try clear q11
                      try clear hx11
                      try clear qi11
                      try clear c12
                      try clear c12b0
                      try clear p12
                      try clear q12
                      try clear hx12
                      try clear c13
                      try clear c13b0
                      try clear c13b1
                      try clear c15
                      try clear c15b0
                      try clear c16
                      try clear c16b0
                      try clear c17
                      try clear c17b0
                      try clear c18
                      try clear c18b0
                      try clear c18b1
                      try clear c20
                      try clear c20b0
                      try clear hx115_0
                      try clear hx116_0
                      try clear hx117_0
                      try clear hx118_0
                      try clear hx119_0
                      try clear hx120_0
                      try clear p1
                      try clear p11
                      try clear p115
                      try clear p116
                      try clear p117
                      try clear p118
                      try clear p119
                      try clear p120
                      try clear p2
                      try clear p6
                      try clear q1
                      try clear q11
                      try clear q115
                      try clear q116
                      try clear q117
                      try clear q118
                      try clear q119
                      try clear q120
                      obtain ⟨kq, x55_13, rfl, HA, HJ13, HB⟩ := hcut
                      cases kq with
                      | zero => exact absurd HA.out (by simp [tdparse_QuoteEntity.j3])
                      | succ kj13 =>
                        have H := HA.out
                        clear HA
                        simp only [tdparse_QuoteEntity.j3] at H
                        by_cases c21 : x55_13 = true
                        · subst c21
                          have H1 : (if 0 ≤ (wrap64 (x4_9 + 1)) then (if (wrap64 (x4_9 + 1)) < (l0.length : Int) then (if (rd l0 (wrap64 (x4_9 + 1))) = 50 then (some (34, wrap64 (x4_9 + 3))) else (if (rd l0 (wrap64 (x4_9 + 1))) = 55 then (some (39, wrap64 (x4_9 + 3))) else (some (0, 0)))) else (none)) else (none)) = some (r1, r2) := by rw [if_pos rfl] at H; exact H
                          clear H
                          have H := H1
                          clear H1
                          obtain ⟨ji22, hji22⟩ : ∃ j_ : Int, (wrap64 (x4_9 + 1)) = j_ := ⟨_, rfl⟩
                          replace H : (if 0 ≤ (ji22) then (if (ji22) < (l0.length : Int) then (if (rd l0 (ji22)) = 50 then (some (34, wrap64 (x4_9 + 3))) else (if (rd l0 (ji22)) = 55 then (some (39, wrap64 (x4_9 + 3))) else (some (0, 0)))) else (none)) else (none)) = some (r1, r2) := by first | (rw [hji22] at H; exact H) | (simp only [hji22] at H ⊢; exact H)
                          have hji22w : (IntKind.i64.wrap (x4_9 + 1)) = ji22 := (i64_w _).trans hji22
                          by_cases c23 : 0 ≤ (ji22)
                          · rw [if_pos c23] at H
                            have c23b0 : decide (0 ≤ (ji22)) = true := decide_eq_true c23
                            clear c23
                            by_cases c24 : (ji22) < (l0.length : Int)
                            · rw [if_pos c24] at H
                              have c24b0 : decide ((ji22) < (l0.length : Int)) = true := decide_eq_true c24
                              clear c24
                              by_cases c25 : (rd l0 (ji22)) = 50
                              · rw [if_pos c25] at H
                                have c25b0 : ((rd l0 (ji22)) == 50) = true := beq_iff_eq.mpr c25
                                have c25b1 : ((rd l0 (ji22)) != 50) = false := bne_eq_false_iff_eq.mpr c25
                                clear c25
                                simp only [Option.some.injEq, Prod.mk.injEq] at H
                                obtain ⟨rfl, rfl⟩ := H
                                have p121 : 0 ≤ ((ji22) : Int) := of_decide_eq_true (by first | (with_reducible assumption) | assumption)
                                have q121 : (ji22) < (l0.length : Int) := of_decide_eq_true (by first | (with_reducible assumption) | assumption)
                                obtain ⟨ad121, e121, hx121_0⟩ := Kd.at_int HR0.out (ji22) p121 q121
                                obtain rfl : ad116 = ad121 := (by injection e121)
                                replace hx121_0 := (HB.out.cell (World.block_lt_of_cell? w _ hx121_0)).trans hx121_0
                                replace p121 := eq_true p121
                                replace q121 := eq_true q121
                                go_wp2
                                go_ret2
                                exact ⟨by first | rfl | (simp [errW_none, errW_some] <;> rfl) | (simp only [← hji22]; first | rfl | (simp [errW_none, errW_some] <;> rfl)) | (simp [*, errW_none, errW_some] <;> rfl), by repeat (first | (with_reducible first | exact HB.out | apply below_alloc | apply pw_below_drewN | apply below_drew1) | exact HB.out)⟩
                              · rw [if_neg c25] at H
                                have c25b0 : ((rd l0 (ji22)) == 50) = false := beq_eq_false_iff_ne.mpr c25
                                have c25b1 : ((rd l0 (ji22)) != 50) = true := bne_iff_ne.mpr c25
                                by_cases c26 : (rd l0 (ji22)) = 55
                                · rw [if_pos c26] at H
                                  have c26b0 : ((rd l0 (ji22)) == 55) = true := beq_iff_eq.mpr c26
                                  have c26b1 : ((rd l0 (ji22)) != 55) = false := bne_eq_false_iff_eq.mpr c26
                                  clear c26
                                  simp only [Option.some.injEq, Prod.mk.injEq] at H
                                  obtain ⟨rfl, rfl⟩ := H
                                  have p121 : 0 ≤ ((ji22) : Int) := of_decide_eq_true (by first | (with_reducible assumption) | assumption)
                                  have q121 : (ji22) < (l0.length : Int) := of_decide_eq_true (by first | (with_reducible assumption) | assumption)
                                  obtain ⟨ad121, e121, hx121_0⟩ := Kd.at_int HR0.out (ji22) p121 q121
                                  obtain rfl : ad116 = ad121 := (by injection e121)
                                  replace hx121_0 := (HB.out.cell (World.block_lt_of_cell? w _ hx121_0)).trans hx121_0
                                  replace p121 := eq_true p121
                                  replace q121 := eq_true q121
                                  have p122 : 0 ≤ ((ji22) : Int) := of_decide_eq_true (by first | (with_reducible assumption) | assumption)
                                  have q122 : (ji22) < (l0.length : Int) := of_decide_eq_true (by first | (with_reducible assumption) | assumption)
                                  obtain ⟨ad122, e122, hx122_0⟩ := Kd.at_int HR0.out (ji22) p122 q122
                                  obtain rfl : ad116 = ad122 := (by injection e122)
                                  replace hx122_0 := (HB.out.cell (World.block_lt_of_cell? w _ hx122_0)).trans hx122_0
                                  replace p122 := eq_true p122
                                  replace q122 := eq_true q122
                                  go_wp2
                                  go_ret2
                                  exact ⟨by first | rfl | (simp [errW_none, errW_some] <;> rfl) | (simp only [← hji22]; first | rfl | (simp [errW_none, errW_some] <;> rfl)) | (simp [*, errW_none, errW_some] <;> rfl), by repeat (first | (with_reducible first | exact HB.out | apply below_alloc | apply pw_below_drewN | apply below_drew1) | exact HB.out)⟩
                                · rw [if_neg c26] at H
                                  have c26b0 : ((rd l0 (ji22)) == 55) = false := beq_eq_false_iff_ne.mpr c26
                                  have c26b1 : ((rd l0 (ji22)) != 55) = true := bne_iff_ne.mpr c26
                                  simp only [Option.some.injEq, Prod.mk.injEq] at H
                                  obtain ⟨rfl, rfl⟩ := H
                                  have p121 : 0 ≤ ((ji22) : Int) := of_decide_eq_true (by first | (with_reducible assumption) | assumption)
                                  have q121 : (ji22) < (l0.length : Int) := of_decide_eq_true (by first | (with_reducible assumption) | assumption)
                                  obtain ⟨ad121, e121, hx121_0⟩ := Kd.at_int HR0.out (ji22) p121 q121
                                  obtain rfl : ad116 = ad121 := (by injection e121)
                                  replace hx121_0 := (HB.out.cell (World.block_lt_of_cell? w _ hx121_0)).trans hx121_0
                                  replace p121 := eq_true p121
                                  replace q121 := eq_true q121
                                  have p122 : 0 ≤ ((ji22) : Int) := of_decide_eq_true (by first | (with_reducible assumption) | assumption)
                                  have q122 : (ji22) < (l0.length : Int) := of_decide_eq_true (by first | (with_reducible assumption) | assumption)
                                  obtain ⟨ad122, e122, hx122_0⟩ := Kd.at_int HR0.out (ji22) p122 q122
                                  obtain rfl : ad116 = ad122 := (by injection e122)
                                  replace hx122_0 := (HB.out.cell (World.block_lt_of_cell? w _ hx122_0)).trans hx122_0
                                  replace p122 := eq_true p122
                                  replace q122 := eq_true q122
                                  go_wp2
                                  go_ret2
                                  exact ⟨by first | rfl | (simp [errW_none, errW_some] <;> rfl) | (simp only [← hji22]; first | rfl | (simp [errW_none, errW_some] <;> rfl)) | (simp [*, errW_none, errW_some] <;> rfl), by repeat (first | (with_reducible first | exact HB.out | apply below_alloc | apply pw_below_drewN | apply below_drew1) | exact HB.out)⟩
                            · rw [if_neg c24] at H
                              exact absurd H (by simp)
                          · rw [if_neg c23] at H
                            exact absurd H (by simp)
                        · replace c21 := Bool.eq_false_iff.mpr c21
                          subst c21
                          have H1 : (some (0, 0)) = some (r1, r2) := by rw [if_neg (show ¬ (false = true) by decide)] at H; exact H
                          clear H
                          have H := H1
                          clear H1
                          simp only [Option.some.injEq, Prod.mk.injEq] at H
                          obtain ⟨rfl, rfl⟩ := H
                          go_wp2
                          go_ret2
                          exact ⟨by first | rfl | (simp [errW_none, errW_some] <;> rfl) | (simp [*, errW_none, errW_some] <;> rfl), by repeat (first | (with_reducible first | exact HB.out | apply below_alloc | apply pw_below_drewN | apply below_drew1) | exact HB.out)⟩
              · rw [if_neg c9] at H
                have c9b0 : ((rd l0 2) == 120) = false := beq_eq_false_iff_ne.mpr c9
                have c9b1 : ((rd l0 2) != 120) = true := bne_iff_ne.mpr c9
                have HC27 := Aside0.mk H
                clear H
                have p116 : 0 ≤ (1 : Int) := (by omega)
                have q116 : 1 < (l0.length : Int) := of_decide_eq_true (by first | (with_reducible assumption) | assumption)
                obtain ⟨ad116, e116, hx116_0⟩ := Kd.at_int HR0.out 1 p116 q116
                cases e116
                (try simp only [show (1 : Int).toNat = 1 from rfl, Nat.reduceMul, Nat.reduceEqDiff, Go.Addr.add, ↓reduceIte] at hx116_0)
                have qi116 : (1 < l0.length) = True := eq_true (by omega)
                (try rw [show ((1 : Int)).toNat = 1 from rfl] at hx116_0)
                replace hx116_0 := (HB.out.cell (World.block_lt_of_cell? w _ hx116_0)).trans hx116_0
                replace p116 := eq_true p116
                replace q116 := eq_true q116
                have p117 : 0 ≤ (2 : Int) := (by omega)
                have q117 : 2 < (l0.length : Int) := of_decide_eq_true (by first | (with_reducible assumption) | assumption)
                obtain ⟨ad117, e117, hx117_0⟩ := Kd.at_int HR0.out 2 p117 q117
                obtain rfl : ad116 = ad117 := (by injection e117)
                (try simp only [show (2 : Int).toNat = 2 from rfl, Nat.reduceMul, Nat.reduceEqDiff, Go.Addr.add, ↓reduceIte] at hx117_0)
                have qi117 : (2 < l0.length) = True := eq_true (by omega)
                (try rw [show ((2 : Int)).toNat = 2 from rfl] at hx117_0)
                replace hx117_0 := (HB.out.cell (World.block_lt_of_cell? w _ hx117_0)).trans hx117_0
                replace p117 := eq_true p117
                replace q117 := eq_true q117
                go_upto_block 2 with (fail)
                go_cut [5] (fun v5 wc => ∃ (kq : Nat) (x5_26 : Int), v5 = .int .i64 x5_26 ∧ Aside0 (tdparse_QuoteEntity.j5 kq l0 x5_26 = some (r1, r2)) ∧ Aside0 (kq ≤ kj1) ∧ Aside0 (Below w.heap.size w wc))
                case first =>
                  have H := HC27.out
                  clear HC27
                  have H' := Aside0.mk H
                  clear H
                  go_wp2
                  go_loopg [5] kj1 (fun kq v5 w' => ∃ (x5_2 : Int), v5 = .int .i64 x5_2 ∧ Aside0 (tdparse_QuoteEntity.l1 kq l0 x5_2 = some (r1, r2)) ∧ Aside0 (kq ≤ kj1) ∧ Aside0 (Below w.heap.size w w'))
                  case atStart => exact ⟨(2), (by first | rfl | (simp; done) | (simp [*]; done)), H', ⟨Nat.le_refl _⟩, ⟨by repeat (first | (with_reducible first | exact HB.out | apply below_alloc | apply pw_below_drewN | apply below_drew1) | exact HB.out)⟩⟩
                  case round =>
                    clear H'
                    try clear c1
                    try clear p1
                    try clear q1
                    try clear hx1
                    try clear qi1
                    try clear c2
                    try clear p2
                    try clear c3
                    try clear c3b0
                    try clear c3b1
                    try clear c4
                    try clear c4b0
                    try clear c4b1
                    try clear c5
                    try clear c6
                    try clear c6b0
                    try clear c6b1
                    try clear p6
                    try clear c7
                    try clear c7b0
                    try clear c7b1
                    try clear c8
                    try clear c8b0
                    try clear c8b1
                    try clear c9
                    try clear c9b0
                    try clear c9b1
                    try clear c11
                    try clear c11b0
                    try clear p11
                    try clear q11
                    try clear hx11
                    try clear qi11
                    try clear c12
                    try clear c12b0
                    try clear p12
                    try clear q12
                    try clear hx12
                    try clear c13
                    try clear c13b0
                    try clear c13b1
                    try clear c15
                    try clear c15b0
                    try clear c16
                    try clear c16b0
                    try clear c17
                    try clear c17b0
                    try clear c18
                    try clear c18b0
                    try clear c18b1
                    try clear c20
                    try clear c20b0
                    try clear c21
                    try clear c23
                    try clear c23b0
                    try clear c24
                    try clear c24b0
                    try clear c25
                    try clear c25b0
                    try clear c25b1
                    try clear c26
                    try clear c26b0
                    try clear c26b1
                    try clear hx115_0
                    try clear hx116_0
                    try clear hx117_0
                    try clear hx118_0
                    try clear hx119_0
                    try clear hx120_0
                    try clear hx121_0
                    try clear hx122_0
                    try clear p1
                    try clear p11
                    try clear p115
                    try clear p116
                    try clear p117
                    try clear p118
                    try clear p119
                    try clear p12
                    try clear p120
                    try clear p121
                    try clear p122
                    try clear p2
                    try clear p6
                    try clear q1
                    try clear q11
                    try clear q115
                    try clear q116
                    try clear q117
                    try clear q118
                    try clear q119
                    try clear q12
                    try clear q120
                    try clear q121
                    try clear q122
                    obtain ⟨x5_2, rfl, HA, HK2, HB⟩ := hrel
                    cases gk with
                    | zero => exact absurd HA.out (by simp [tdparse_QuoteEntity.l1])
                    | succ k2 =>
                      have H := HA.out
                      clear HA
                      simp only [tdparse_QuoteEntity.l1] at H
                      by_cases c28 : x5_2 < (l0.length : Int)
                      · rw [if_pos c28] at H
                        have c28b0 : decide (x5_2 < (l0.length : Int)) = true := decide_eq_true c28
                        clear c28
                        (first | rw [c28b0] | (simp only [i64_w, i32_w]; rw [c28b0]) | skip)
                        by_cases c29 : 0 ≤ x5_2
                        · rw [if_pos c29] at H
                          have c29b0 : decide (0 ≤ x5_2) = true := decide_eq_true c29
                          clear c29
                          by_cases c30 : (rd l0 x5_2) = 48
                          · rw [if_pos c30] at H
                            have c30b0 : ((rd l0 x5_2) == 48) = true := beq_iff_eq.mpr c30
                            have c30b1 : ((rd l0 x5_2) != 48) = false := bne_eq_false_iff_eq.mpr c30
                            clear c30
                            have H' := Aside0.mk H
                            clear H
                            have p123 : 0 ≤ (x5_2 : Int) := of_decide_eq_true (by first | (with_reducible assumption) | assumption)
                            have q123 : x5_2 < (l0.length : Int) := of_decide_eq_true (by first | (with_reducible assumption) | assumption)
                            obtain ⟨ad123, e123, hx123_0⟩ := Kd.at_int HR0.out x5_2 p123 q123
                            obtain rfl : ad116 = ad123 := (by injection e123)
                            replace hx123_0 := (HB.out.cell (World.block_lt_of_cell? w _ hx123_0)).trans hx123_0
                            replace p123 := eq_true p123
                            replace q123 := eq_true q123
                            go_wp2
                            go_roundg k2
                            case measure => have := HJ1.out; have := HK2.out; omega
                            case rel => exact ⟨(wrap64 (x5_2 + 1)), (by first | rfl | (simp; done) | (simp [*]; done)), H', ⟨by have := HJ1.out; have := HK2.out; omega⟩, ⟨by repeat (first | (with_reducible first | exact HB.out | apply below_alloc | apply pw_below_drewN | apply below_drew1) | exact HB.out)⟩⟩
                          · rw [if_neg c30] at H
                            have c30b0 : ((rd l0 x5_2) == 48) = false := beq_eq_false_iff_ne.mpr c30
                            have c30b1 : ((rd l0 x5_2) != 48) = true := bne_iff_ne.mpr c30
                            have H' := Aside0.mk H
                            clear H
                            have p123 : 0 ≤ (x5_2 : Int) := of_decide_eq_true (by first | (with_reducible assumption) | assumption)
                            have q123 : x5_2 < (l0.length : Int) := of_decide_eq_true (by first | (with_reducible assumption) | assumption)
                            obtain ⟨ad123, e123, hx123_0⟩ := Kd.at_int HR0.out x5_2 p123 q123
                            obtain rfl : ad116 = ad123 := (by injection e123)
                            replace hx123_0 := (HB.out.cell (World.block_lt_of_cell? w _ hx123_0)).trans hx123_0
                            replace p123 := eq_true p123
                            replace q123 := eq_true q123
                            go_wp2
                            go_meet
                            case rel => exact ⟨_, (x5_2), (by first | rfl | (simp; done) | (simp [*]; done)), H', ⟨by have := HJ1.out; have := HK2.out; first | omega | exact Nat.le_refl _⟩, ⟨by repeat (first | (with_reducible first | exact HB.out | apply below_alloc | apply pw_below_drewN | apply below_drew1) | exact HB.out)⟩⟩
                        · rw [if_neg c29] at H
                          exact absurd H (by simp)
                      · rw [if_neg c28] at H
                        have c28b0 : decide (x5_2 < (l0.length : Int)) = false := decide_eq_false c28
                        clear c28
                        (first | rw [c28b0] | (simp only [i64_w, i32_w]; rw [c28b0]) | skip)
                        have H' := Aside0.mk H
                        clear H
                        go_wp2
                        go_meet
                        case rel => exact ⟨_, (x5_2), (by first | rfl | (simp; done) | (simp [*]; done)), H', ⟨by have := HJ1.out; have := HK2.out; first | omega | exact Nat.le_refl _⟩, ⟨by repeat (first | (with_reducible first | exact HB.out | apply below_alloc | apply pw_below_drewN | apply below_drew1) | exact HB.out)⟩⟩
                case rest =>
                  clear HC27
                  try clear c1
                  try clear p1
                  try clear q1
                  try clear hx1
                  try clear qi1
                  try clear c2
                  try clear p2
                  try clear c3
                  try clear c3b0
                  try clear c3b1
                  try clear c4
                  try clear c4b0
                  try clear c4b1
                  try clear c5
                  try clear c6
                  try clear c6b0
                  try clear c6b1
                  try clear p6
                  try clear c7
                  try clear c7b0
                  try clear c7b1
                  try clear c8
                  try clear c8b0
                  try clear c8b1
                  try clear c9
                  try clear c9b0
                  try clear c9b1
                  try clear c11
                  try clear c11b0
                  try clear p11
                  try clear q11
                  try clear hx11
                  try clear qi11
                  try clear c12
                  try clear c12b0
                  try clear p12
                  try clear q12
                  try clear hx12
                  try clear c13
                  try clear c13b0
                  try clear c13b1
                  try clear c15
                  try clear c15b0
                  try clear c16
                  try clear c16b0
                  try clear c17
                  try clear c17b0
                  try clear c18
                  try clear c18b0
                  try clear c18b1
                  try clear c20
                  try clear c20b0
                  try clear c21
                  try clear c23
                  try clear c23b0
                  try clear c24
                  try clear c24b0
                  try clear c25
                  try clear c25b0
                  try clear c25b1
                  try clear c26
                  try clear c26b0
                  try clear c26b1
                  try clear c28
                  try clear c28b0
                  try clear c29
                  try clear c29b0
                  try clear c30
                  try clear c30b0
                  try clear c30b1
                  try clear hx115_0
                  try clear hx116_0
                  try clear hx117_0
                  try clear hx118_0
                  try clear hx119_0
                  try clear hx120_0
                  try clear hx121_0
                  try clear hx122_0
                  try clear hx123_0
                  try clear p1
                  try clear p11
                  try clear p115
                  try clear p116
                  try clear p117
                  try clear p118
                  try clear p119
                  try clear p12
                  try clear p120
                  try clear p121
                  try clear p122
                  try clear p123
                  try clear p2
                  try clear p6
                  try clear q1
                  try clear q11
                  try clear q115
                  try clear q116
                  try clear q117
                  try clear q118
                  try clear q119
                  try clear q12
                  try clear q120
                  try clear q121
                  try clear q122
                  try clear q123
                  obtain ⟨kq, x5_26, rfl, HA, HJ26, HB⟩ := hcut
                  cases kq with
                  | zero => exact absurd HA.out (by simp [tdparse_QuoteEntity.j5])
                  | succ kj26 =>
                    have H := HA.out
                    clear HA
                    simp only [tdparse_QuoteEntity.j5] at H
                    have HC31 := Aside0.mk H
                    clear H
                    go_upto_region 16 with (fail)
                    go_cut [104] (fun v104 wc => ∃ (kq : Nat) (x104_30 : Bool), v104 = .bool x104_30 ∧ Aside0 (tdparse_QuoteEntity.j6 kq l0 x5_26 x104_30 = some (r1, r2)) ∧ Aside0 (kq ≤ kj26) ∧ Aside0 (Below w.heap.size w wc))
                    case first =>
                      have H := HC31.out
                      clear HC31
                      by_cases c32 : (wrap64 (x5_26 + 2)) < (l0.length : Int)
                      · rw [if_pos c32] at H
                        have c32b0 : decide ((wrap64 (x5_26 + 2)) < (l0.length : Int)) = true := decide_eq_true c32
                        clear c32
                        (first | rw [c32b0] | (simp only [i64_w, i32_w]; rw [c32b0]) | skip)
                        by_cases c33 : 0 ≤ x5_26
                        · rw [if_pos c33] at H
                          have c33b0 : decide (0 ≤ x5_26) = true := decide_eq_true c33
                          clear c33
                          by_cases c34 : x5_26 < (l0.length : Int)
                          · rw [if_pos c34] at H
                            have c34b0 : decide (x5_26 < (l0.length : Int)) = true := decide_eq_true c34
                            clear c34
                            by_cases c35 : (rd l0 x5_26) = 51
                            · rw [if_pos c35] at H
                              have c35b0 : ((rd l0 x5_26) == 51) = true := beq_iff_eq.mpr c35
                              have c35b1 : ((rd l0 x5_26) != 51) = false := bne_eq_false_iff_eq.mpr c35
                              clear c35
                              obtain ⟨ji36, hji36⟩ : ∃ j_ : Int, (wrap64 (x5_26 + 2)) = j_ := ⟨_, rfl⟩
                              replace H : (if 0 ≤ (ji36) then (tdparse_QuoteEntity.j6 kj26 l0 x5_26 ((rd l0 (ji36)) == 59)) else (none)) = some (r1, r2) := by first | (rw [hji36] at H; exact H) | (simp only [hji36] at H ⊢; exact H)
                              (try rw [hji36] at c32b0)
                              have hji36w : (IntKind.i64.wrap (x5_26 + 2)) = ji36 := (i64_w _).trans hji36
                              by_cases c37 : 0 ≤ (ji36)
                              · rw [if_pos c37] at H
                                have c37b0 : decide (0 ≤ (ji36)) = true := decide_eq_true c37
                                clear c37
                                have H' := Aside0.mk H
                                clear H
                                have p124 : 0 ≤ (x5_26 : Int) := of_decide_eq_true (by first | (with_reducible assumption) | assumption)
                                have q124 : x5_26 < (l0.length : Int) := of_decide_eq_true (by first | (with_reducible assumption) | assumption)
                                obtain ⟨ad124, e124, hx124_0⟩ := Kd.at_int HR0.out x5_26 p124 q124
                                obtain rfl : ad116 = ad124 := (by injection e124)
                                replace hx124_0 := (HB.out.cell (World.block_lt_of_cell? w _ hx124_0)).trans hx124_0
                                replace p124 := eq_true p124
                                replace q124 := eq_true q124
                                have p125 : 0 ≤ ((ji36) : Int) := of_decide_eq_true (by first | (with_reducible assumption) | assumption)
                                have q125 : (ji36) < (l0.length : Int) := of_decide_eq_true (by first | (with_reducible assumption) | assumption)
                                obtain ⟨ad125, e125, hx125_0⟩ := Kd.at_int HR0.out (ji36) p125 q125
                                obtain rfl : ad116 = ad125 := (by injection e125)
                                replace hx125_0 := (HB.out.cell (World.block_lt_of_cell? w _ hx125_0)).trans hx125_0
                                replace p125 := eq_true p125
                                replace q125 := eq_true q125
                                go_wp2
                                subst hji36
                                go_meet
                                case rel => exact ⟨_, (((rd l0 ((wrap64 (x5_26 + 2)))) == 59)), (by first | rfl | (simp; done) | (simp; done) | (simp [*]; done)), H', ⟨by have := HJ1.out; have := HJ26.out; first | omega | exact Nat.le_refl _⟩, ⟨by repeat (first | (with_reducible first | exact HB.out | apply below_alloc | apply pw_below_drewN | apply below_drew1) | exact HB.out)⟩⟩
                              · rw [if_neg c37] at H
                                exact absurd H (by simp)
                            · rw [if_neg c35] at H
                              have c35b0 : ((rd l0 x5_26) == 51) = false := beq_eq_false_iff_ne.mpr c35
                              have c35b1 : ((rd l0 x5_26) != 51) = true := bne_iff_ne.mpr c35
                              have H' := Aside0.mk H
                              clear H
                              have p124 : 0 ≤ (x5_26 : Int) := of_decide_eq_true (by first | (with_reducible assumption) | assumption)
                              have q124 : x5_26 < (l0.length : Int) := of_decide_eq_true (by first | (with_reducible assumption) | assumption)
                              obtain ⟨ad124, e124, hx124_0⟩ := Kd.at_int HR0.out x5_26 p124 q124
                              obtain rfl : ad116 = ad124 := (by injection e124)
                              replace hx124_0 := (HB.out.cell (World.block_lt_of_cell? w _ hx124_0)).trans hx124_0
                              replace p124 := eq_true p124
                              replace q124 := eq_true q124
                              go_wp2
                              go_meet
                              case rel => exact ⟨_, (false), (by first | rfl | (simp; done) | (simp [*]; done)), H', ⟨by have := HJ1.out; have := HJ26.out; first | omega | exact Nat.le_refl _⟩, ⟨by repeat (first | (with_reducible first | exact HB.out | apply below_alloc | apply pw_below_drewN | apply below_drew1) | exact HB.out)⟩⟩
                          · rw [if_neg c34] at H
                            exact absurd H (by simp)
                        · rw [if_neg c33] at H
                          exact absurd H (by simp)
                      · rw [if_neg c32] at H
                        have c32b0 : decide ((wrap64 (x5_26 + 2)) < (l0.length : Int)) = false := decide_eq_false c32
                        clear c32
                        (first | rw [c32b0] | (simp only [i64_w, i32_w]; rw [c32b0]) | skip)
                        have H' := Aside0.mk H
                        clear H
                        go_wp2
                        go_meet
                        case rel => exact ⟨_, (false), (by first | rfl | (simp; done) | (simp [*]; done)), H', ⟨by have := HJ1.out; have := HJ26.out; first | omega | exact Nat.le_refl _⟩, ⟨by repeat (first | (with_reducible first | exact HB.out | apply below_alloc | apply pw_below_drewN | apply below_drew1) | exact HB.out)⟩⟩
                    case rest =>
                      clear HC31
                      try clear c1
                      try clear p1
                      try clear q1
                      try clear hx1
                      try clear qi1
                      try clear c2
                      try clear p2
                      try clear c3
                      try clear c3b0
                      try clear c3b1
                      try clear c4
                      try clear c4b0
                      try clear c4b1
                      try clear c5
                      try clear c6
                      try clear c6b0
                      try clear c6b1
                      try clear p6
                      try clear c7
                      try clear c7b0
                      try clear c7b1
                      try clear c8
                      try clear c8b0
                      try clear c8b1
                      try clear c9
                      try clear c9b0
                      try clear c9b1
                      try clear c11
                      try clear c11b0
                      try clear p11
                      try clear q11
                      try clear hx11
                      try clear qi11
                      try clear c12
                      try clear c12b0
                      try clear p12
                      try clear q12
                      try clear hx12
                      try clear c13
                      try clear c13b0
                      try clear c13b1
                      try clear c15
                      try clear c15b0
                      try clear c16
                      try clear c16b0
                      try clear c17
                      try clear c17b0
                      try clear c18
                      try clear c18b0
                      try clear c18b1
                      try clear c20
                      try clear c20b0
                      try clear c21
                      try clear c23
                      try clear c23b0
                      try clear c24
                      try clear c24b0
                      try clear c25
                      try clear c25b0
                      try clear c25b1
                      try clear c26
                      try clear c26b0
                      try clear c26b1
                      try clear c28
                      try clear c28b0
                      try clear c29
                      try clear c29b0
                      try clear c30
                      try clear c30b0
                      try clear c30b1
                      try clear c32
                      try clear c32b0
                      try clear c33
                      try clear c33b0
                      try clear c34
                      try clear c34b0
                      try clear c35
                      try clear c35b0
                      try clear c35b1
                      try clear c37
                      try clear c37b0
                      try clear hx115_0
                      try clear hx116_0
                      try clear hx117_0
                      try clear hx118_0
                      try clear hx119_0
                      try clear hx120_0
                      try clear hx121_0
                      try clear hx122_0
                      try clear hx123_0
                      try clear hx124_0
                      try clear hx125_0
                      try clear p1
                      try clear p11
                      try clear p115
                      try clear p116
                      try clear p117
                      try clear p118
                      try clear p119
                      try clear p12
                      try clear p120
                      try clear p121
                      try clear p122
                      try clear p123
                      try clear p124
                      try clear p125
                      try clear p2
                      try clear p6
                      try clear q1
                      try clear q11
                      try clear q115
                      try clear q116
                      try clear q117
                      try clear q118
                      try clear q119
                      try clear q12
                      try clear q120
                      try clear q121
                      try clear q122
                      try clear q123
                      try clear q124
                      try clear q125
                      obtain ⟨kq, x104_30, rfl, HA, HJ30, HB⟩ := hcut
                      cases kq with
                      | zero => exact absurd HA.out (by simp [tdparse_QuoteEntity.j6])
                      | succ kj30 =>
                        have H := HA.out
                        clear HA
                        simp only [tdparse_QuoteEntity.j6] at H
                        by_cases c38 : x104_30 = true
                        · subst c38
                          have H1 : (if 0 ≤ (wrap64 (x5_26 + 1)) then (if (wrap64 (x5_26 + 1)) < (l0.length : Int) then (if (rd l0 (wrap64 (x5_26 + 1))) = 52 then (some (34, wrap64 (x5_26 + 3))) else (if (rd l0 (wrap64 (x5_26 + 1))) = 57 then (some (39, wrap64 (x5_26 + 3))) else (some (0, 0)))) else (none)) else (none)) = some (r1, r2) := by rw [if_pos rfl] at H; exact H
                          clear H
                          have H := H1
                          clear H1
                          obtain ⟨ji39, hji39⟩ : ∃ j_ : Int, (wrap64 (x5_26 + 1)) = j_ := ⟨_, rfl⟩
                          replace H : (if 0 ≤ (ji39) then (if (ji39) < (l0.length : Int) then (if (rd l0 (ji39)) = 52 then (some (34, wrap64 (x5_26 + 3))) else (if (rd l0 (ji39)) = 57 then (some (39, wrap64 (x5_26 + 3))) else (some (0, 0)))) else (none)) else (none)) = some (r1, r2) := by first | (rw [hji39] at H; exact H) | (simp only [hji39] at H ⊢; exact H)
                          have hji39w : (IntKind.i64.wrap (x5_26 + 1)) = ji39 := (i64_w _).trans hji39
                          by_cases c40 : 0 ≤ (ji39)
                          · rw [if_pos c40] at H
                            have c40b0 : decide (0 ≤ (ji39)) = true := decide_eq_true c40
                            clear c40
                            by_cases c41 : (ji39) < (l0.length : Int)
                            · rw [if_pos c41] at H
                              have c41b0 : decide ((ji39) < (l0.length : Int)) = true := decide_eq_true c41
                              clear c41
                              by_cases c42 : (rd l0 (ji39)) = 52
                              · rw [if_pos c42] at H
                                have c42b0 : ((rd l0 (ji39)) == 52) = true := beq_iff_eq.mpr c42
                                have c42b1 : ((rd l0 (ji39)) != 52) = false := bne_eq_false_iff_eq.mpr c42
                                clear c42
                                simp only [Option.some.injEq, Prod.mk.injEq] at H
                                obtain ⟨rfl, rfl⟩ := H
                                have p126 : 0 ≤ ((ji39) : Int) := of_decide_eq_true (by first | (with_reducible assumption) | assumption)
                                have q126 : (ji39) < (l0.length : Int) := of_decide_eq_true (by first | (with_reducible assumption) | assumption)
                                obtain ⟨ad126, e126, hx126_0⟩ := Kd.at_int HR0.out (ji39) p126 q126
                                obtain rfl : ad116 = ad126 := (by injection e126)
                                replace hx126_0 := (HB.out.cell (World.block_lt_of_cell? w _ hx126_0)).trans hx126_0
                                replace p126 := eq_true p126
                                replace q126 := eq_true q126
                                go_wp2
                                go_ret2
                                exact ⟨by first | rfl | (simp [errW_none, errW_some] <;> rfl) | (simp only [← hji39]; first | rfl | (simp [errW_none, errW_some] <;> rfl)) | (simp [*, errW_none, errW_some] <;> rfl), by repeat (first | (with_reducible first | exact HB.out | apply below_alloc | apply pw_below_drewN | apply below_drew1) | exact HB.out)⟩
                              · rw [if_neg c42] at H
                                have c42b0 : ((rd l0 (ji39)) == 52) = false := beq_eq_false_iff_ne.mpr c42
                                have c42b1 : ((rd l0 (ji39)) != 52) = true := bne_iff_ne.mpr c42
                                by_cases c43 : (rd l0 (ji39)) = 57
                                · rw [if_pos c43] at H
                                  have c43b0 : ((rd l0 (ji39)) == 57) = true := beq_iff_eq.mpr c43
                                  have c43b1 : ((rd l0 (ji39)) != 57) = false := bne_eq_false_iff_eq.mpr c43
                                  clear c43
                                  simp only [Option.some.injEq, Prod.mk.injEq] at H
                                  obtain ⟨rfl, rfl⟩ := H
                                  have p126 : 0 ≤ ((ji39) : Int) := of_decide_eq_true (by first | (with_reducible assumption) | assumption)
                                  have q126 : (ji39) < (l0.length : Int) := of_decide_eq_true (by first | (with_reducible assumption) | assumption)
                                  obtain ⟨ad126, e126, hx126_0⟩ := Kd.at_int HR0.out (ji39) p126 q126
                                  obtain rfl : ad116 = ad126 := (by injection e126)
                                  replace hx126_0 := (HB.out.cell (World.block_lt_of_cell? w _ hx126_0)).trans hx126_0
                                  replace p126 := eq_true p126
                                  replace q126 := eq_true q126
                                  have p127 : 0 ≤ ((ji39) : Int) := of_decide_eq_true (by first | (with_reducible assumption) | assumption)
                                  have q127 : (ji39) < (l0.length : Int) := of_decide_eq_true (by first | (with_reducible assumption) | assumption)
                                  obtain ⟨ad127, e127, hx127_0⟩ := Kd.at_int HR0.out (ji39) p127 q127
                                  obtain rfl : ad116 = ad127 := (by injection e127)
                                  replace hx127_0 := (HB.out.cell (World.block_lt_of_cell? w _ hx127_0)).trans hx127_0
                                  replace p127 := eq_true p127
                                  replace q127 := eq_true q127
                                  go_wp2
                                  go_ret2
                                  exact ⟨by first | rfl | (simp [errW_none, errW_some] <;> rfl) | (simp only [← hji39]; first | rfl | (simp [errW_none, errW_some] <;> rfl)) | (simp [*, errW_none, errW_some] <;> rfl), by repeat (first | (with_reducible first | exact HB.out | apply below_alloc | apply pw_below_drewN | apply below_drew1) | exact HB.out)⟩
                                · rw [if_neg c43] at H
                                  have c43b0 : ((rd l0 (ji39)) == 57) = false := beq_eq_false_iff_ne.mpr c43
                                  have c43b1 : ((rd l0 (ji39)) != 57) = true := bne_iff_ne.mpr c43
                                  simp only [Option.some.injEq, Prod.mk.injEq] at H
                                  obtain ⟨rfl, rfl⟩ := H
                                  have p126 : 0 ≤ ((ji39) : Int) := of_decide_eq_true (by first | (with_reducible assumption) | assumption)
                                  have q126 : (ji39) < (l0.length : Int) := of_decide_eq_true (by first | (with_reducible assumption) | assumption)
                                  obtain ⟨ad126, e126, hx126_0⟩ := Kd.at_int HR0.out (ji39) p126 q126
                                  obtain rfl : ad116 = ad126 := (by injection e126)
                                  replace hx126_0 := (HB.out.cell (World.block_lt_of_cell? w _ hx126_0)).trans hx126_0
                                  replace p126 := eq_true p126
                                  replace q126 := eq_true q126
                                  have p127 : 0 ≤ ((ji39) : Int) := of_decide_eq_true (by first | (with_reducible assumption) | assumption)
                                  have q127 : (ji39) < (l0.length : Int) := of_decide_eq_true (by first | (with_reducible assumption) | assumption)
                                  obtain ⟨ad127, e127, hx127_0⟩ := Kd.at_int HR0.out (ji39) p127 q127
                                  obtain rfl : ad116 = ad127 := (by injection e127)
                                  replace hx127_0 := (HB.out.cell (World.block_lt_of_cell? w _ hx127_0)).trans hx127_0
                                  replace p127 := eq_true p127
                                  replace q127 := eq_true q127
                                  go_wp2
                                  go_ret2
                                  exact ⟨by first | rfl | (simp [errW_none, errW_some] <;> rfl) | (simp only [← hji39]; first | rfl | (simp [errW_none, errW_some] <;> rfl)) | (simp [*, errW_none, errW_some] <;> rfl), by repeat (first | (with_reducible first | exact HB.out | apply below_alloc | apply pw_below_drewN | apply below_drew1) | exact HB.out)⟩
                            · rw [if_neg c41] at H
                              exact absurd H (by simp)
                          · rw [if_neg c40] at H
                            exact absurd H (by simp)
                        · replace c38 := Bool.eq_false_iff.mpr c38
                          subst c38
                          have H1 : (some (0, 0)) = some (r1, r2) := by rw [if_neg (show ¬ (false = true) by decide)] at H; exact H
                          clear H
                          have H := H1
                          clear H1
                          simp only [Option.some.injEq, Prod.mk.injEq] at H
                          obtain ⟨rfl, rfl⟩ := H
                          go_wp2
                          go_ret2
                          exact ⟨by first | rfl | (simp [errW_none, errW_some] <;> rfl) | (simp [*, errW_none, errW_some] <;> rfl), by repeat (first | (with_reducible first | exact HB.out | apply below_alloc | apply pw_below_drewN | apply below_drew1) | exact HB.out)⟩
            · rw [if_neg c8] at H
              exact absurd H (by simp)
          · rw [if_neg c7] at H
            have c7b0 : ((rd l0 1) == 35) = false := beq_eq_false_iff_ne.mpr c7
            have c7b1 : ((rd l0 1) != 35) = true := bne_iff_ne.mpr c7
            have HC44 := Aside0.mk H
            clear H
            have p116 : 0 ≤ (1 : Int) := (by omega)
            have q116 : 1 < (l0.length : Int) := of_decide_eq_true (by first | (with_reducible assumption) | assumption)
            obtain ⟨ad116, e116, hx116_0⟩ := Kd.at_int HR0.out 1 p116 q116
            cases e116
            (try simp only [show (1 : Int).toNat = 1 from rfl, Nat.reduceMul, Nat.reduceEqDiff, Go.Addr.add, ↓reduceIte] at hx116_0)
            have qi116 : (1 < l0.length) = True := eq_true (by omega)
            (try rw [show ((1 : Int)).toNat = 1 from rfl] at hx116_0)
            replace hx116_0 := (HB.out.cell (World.block_lt_of_cell? w _ hx116_0)).trans hx116_0
            replace p116 := eq_true p116
            replace q116 := eq_true q116
            go_upto_region 21 with (fail)
            go_cut [129] (fun v129 wc => ∃ (kq : Nat) (x129_43 : Bool), v129 = .bool x129_43 ∧ Aside0 (tdparse_QuoteEntity.j7 kq l0 x129_43 = some (r1, r2)) ∧ Aside0 (kq ≤ kj1) ∧ Aside0 (Below w.heap.size w wc))
            case first =>
              have H := HC44.out
              clear HC44
              by_cases c45 : (l0.length : Int) ≥ 6
              · rw [if_pos c45] at H
                have c45b0 : decide (6 ≤ (l0.length : Int)) = true := decide_eq_true c45
                have c45b1 : decide (6 ≤ l0.length) = true := decide_eq_true (by omega)
                clear c45
                (first | rw [c45b0] | (simp only [i64_w, i32_w]; rw [c45b0]) | skip)
                by_cases c46 : 5 < (l0.length : Int)
                · rw [if_pos c46] at H
                  have c46b0 : decide (5 < (l0.length : Int)) = true := decide_eq_true c46
                  have c46b1 : decide (5 < l0.length) = true := decide_eq_true (by omega)
                  clear c46
                  have H' := Aside0.mk H
                  clear H
                  have p128 : 0 ≤ (5 : Int) := (by omega)
                  have q128 : 5 < (l0.length : Int) := of_decide_eq_true (by first | (with_reducible assumption) | assumption)
                  obtain ⟨ad128, e128, hx128_0⟩ := Kd.at_int HR0.out 5 p128 q128
                  obtain rfl : ad116 = ad128 := (by injection e128)
                  (try simp only [show (5 : Int).toNat = 5 from rfl, Nat.reduceMul, Nat.reduceEqDiff, Go.Addr.add, ↓reduceIte] at hx128_0)
                  have qi128 : (5 < l0.length) = True := eq_true (by omega)
                  (try rw [show ((5 : Int)).toNat = 5 from rfl] at hx128_0)
                  replace hx128_0 := (HB.out.cell (World.block_lt_of_cell? w _ hx128_0)).trans hx128_0
                  replace p128 := eq_true p128
                  replace q128 := eq_true q128
                  go_wp2
                  go_meet
                  case rel => exact ⟨_, (((rd l0 5) == 59)), (by first | rfl | (simp; done) | (simp [*]; done)), H', ⟨by have := HJ1.out; first | omega | exact Nat.le_refl _⟩, ⟨by repeat (first | (with_reducible first | exact HB.out | apply below_alloc | apply pw_below_drewN | apply below_drew1) | exact HB.out)⟩⟩
                · rw [if_neg c46] at H
                  exact absurd H (by simp)
              · rw [if_neg c45] at H
                have c45b0 : decide (6 ≤ (l0.length : Int)) = false := decide_eq_false c45
                have c45b1 : decide (6 ≤ l0.length) = false := decide_eq_false (by omega)
                clear c45
                (first | rw [c45b0] | (simp only [i64_w, i32_w]; rw [c45b0]) | skip)
                have H' := Aside0.mk H
                clear H
                go_wp2
                go_meet
                case rel => exact ⟨_, (false), (by first | rfl | (simp; done) | (simp [*]; done)), H', ⟨by have := HJ1.out; first | omega | exact Nat.le_refl _⟩, ⟨by repeat (first | (with_reducible first | exact HB.out | apply below_alloc | apply pw_below_drewN | apply below_drew1) | exact HB.out)⟩⟩
            case rest =>
              clear HC44
              try clear c1
              try clear p1
              try clear q1
              try clear hx1
              try clear qi1
              try clear c2
              try clear p2
              try clear c3
              try clear c3b0
              try clear c3b1
              try clear c4
              try clear c4b0
              try clear c4b1
              try clear c5
              try clear c6
              try clear c6b0
              try clear c6b1
              try clear p6
              try clear c7
              try clear c7b0
              try clear c7b1
              try clear c8
              try clear c8b0
              try clear c8b1
              try clear c9
              try clear c9b0
              try clear c9b1
              try clear c11
              try clear c11b0
              try clear p11
              try clear q11
              try clear hx11
              try clear qi11
              try clear c12
              try clear c12b0
              try clear p12
              try clear q12
              try clear hx12
              try clear qi12
              try clear c13
              try clear c13b0
              try clear c13b1
              try clear c15
              try clear c15b0
              try clear c16
              try clear c16b0
              try clear c17
              try clear c17b0
              try clear c18
              try clear c18b0
              try clear c18b1
              try clear c20
              try clear c20b0
              try clear c21
              try clear c23
              try clear c23b0
              try clear c24
              try clear c24b0
              try clear c25
              try clear c25b0
              try clear c25b1
              try clear c26
              try clear c26b0
              try clear c26b1
              try clear c28
              try clear c28b0
              try clear c29
              try clear c29b0
              try clear c30
              try clear c30b0
              try clear c30b1
              try clear c32
              try clear c32b0
              try clear c33
              try clear c33b0
              try clear c34
              try clear c34b0
              try clear c35
              try clear c35b0
              try clear c35b1
              try clear c37
              try clear c37b0
              try clear c38
              try clear c40
              try clear c40b0
              try clear c41
              try clear c41b0
              try clear c42
              try clear c42b0
              try clear c42b1
              try clear c43
              try clear c43b0
              try clear c43b1
              try clear c45
              try clear c45b0
              try clear c45b1
              try clear c46
              try clear c46b0
              try clear c46b1
              try clear hx115_0
              try clear hx116_0
              try clear hx117_0
              try clear hx118_0
              try clear hx119_0
              try clear hx120_0
              try clear hx121_0
              try clear hx122_0
              try clear hx123_0
              try clear hx124_0
              try clear hx125_0
              try clear hx126_0
              try clear hx127_0
              try clear hx128_0
              try clear p1
              try clear p11
              try clear p115
              try clear p116
              try clear p117
              try clear p118
              try clear p119
              try clear p12
              try clear p120
              try clear p121
              try clear p122
              try clear p123
              try clear p124
              try clear p125
              try clear p126
              try clear p127
              try clear p128
              try clear p2
              try clear p6
              try clear q1
              try clear q11
              try clear q115
              try clear q116
              try clear q117
              try clear q118
              try clear q119
              try clear q12
              try clear q120
              try clear q121
              try clear q122
              try clear q123
              try clear q124
              try clear q125
              try clear q126
              try clear q127
              try clear q128
              obtain ⟨kq, x129_43, rfl, HA, HJ43, HB⟩ := hcut
              cases kq with
              | zero => exact absurd HA.out (by simp [tdparse_QuoteEntity.j7])
              | succ kj43 =>
                have H := HA.out
                clear HA
                simp only [tdparse_QuoteEntity.j7] at H
                by_cases c47 : x129_43 = true
                · subst c47
                  have H1 : (if 1 ≤ 5 then (if 5 ≤ (l0.length : Int) then ((bytes_Equal.f ((l0.take 5).drop 1) (([113, 117, 111, 116] : List Int))).bind fun t133 => (if t133 = true then (some (34, 6)) else ((bytes_Equal.f ((l0.take 5).drop 1) (([97, 112, 111, 115] : List Int))).bind fun t138 => (if t138 = true then (some (39, 6)) else (some (0, 0)))))) else (none)) else (none)) = some (r1, r2) := by rw [if_pos rfl] at H; exact H
                  clear H
                  have H := H1
                  clear H1
                  by_cases c48 : 1 ≤ 5
                  · rw [if_pos c48] at H
                    have c48b0 := eq_true c48
                    have c48b1 : decide (1 ≤ 5) = true := decide_eq_true c48
                    clear c48
                    by_cases c49 : 5 ≤ (l0.length : Int)
                    · rw [if_pos c49] at H
                      have c49b0 := eq_true c49
                      have c49b1 : decide (5 ≤ (l0.length : Int)) = true := decide_eq_true c49
                      clear c49
                      obtain ⟨y130, hy130⟩ : ∃ y_ : List Int, y_ = (([113, 117, 111, 116] : List Int)) := ⟨_, rfl⟩
                      replace H : ((bytes_Equal.f ((l0.take 5).drop 1) y130).bind fun t133 => (if t133 = true then (some (34, 6)) else ((bytes_Equal.f ((l0.take 5).drop 1) (([97, 112, 111, 115] : List Int))).bind fun t138 => (if t138 = true then (some (39, 6)) else (some (0, 0)))))) = some (r1, r2) := by first | (rw [hy130]; with_reducible exact H) | (have H2_ := (Option.bind_some _ _).symm.trans H; rw [hy130]; with_reducible exact H2_) | (have H2_ := (Option.bind_some _ _).symm.trans H; with_reducible exact H2_) | with_reducible exact H | (rw [hy130]; exact H) | exact H
                      have Ny130 := Aside0.mk hy130
                      clear hy130
                      replace H := Option.bind_eq_some_iff.mp H
                      obtain ⟨t133, A500, H⟩ := H
                      replace H : (if t133 = true then (some (34, 6)) else ((bytes_Equal.f ((l0.take 5).drop 1) (([97, 112, 111, 115] : List Int))).bind fun t138 => (if t138 = true then (some (39, 6)) else (some (0, 0))))) = some (r1, r2) := H
                      have A50 := Aside0.mk A500
                      clear A500
                      by_cases c51 : t133 = true
                      · subst c51
                        have H1 : (some (34, 6)) = some (r1, r2) := by rw [if_pos rfl] at H; exact H
                        clear H
                        have H := H1
                        clear H1
                        simp only [Option.some.injEq, Prod.mk.injEq] at H
                        obtain ⟨rfl, rfl⟩ := H
                        obtain ⟨i052, hi052, _, hsz52, _⟩ := info_parts info5
                        obtain ⟨A52, hcut52, hA52, hC52⟩ := print_mid_of (P := Try.prog) (Value.int .u8) 0 22 5 .i64 .i64 Try.underlying22 hi052 hsz52 (some ad116) c0 l0 1 5 (by omega) (by first | omega | exact of_decide_eq_true (by first | (with_reducible assumption) | assumption)) (of_decide_eq_true (by first | (with_reducible assumption) | assumption)) HC0.out
                        have HR129 := Aside0.mk (Kd.C_of_reads (h1 := fun _ => rfl) (hA52 _ (Kd.reads_of_C HR0.out)))
                        have HC129 := Aside0.mk hC52
                        clear hA52 hC52 hi052 hsz52
                        go_wp2_with (first | ((with_reducible refine gate_dst (N := 132) rfl ?_); refine Kd.R_lit (Kd.int .u8) _ 5 ?hg (N := 132) ?hd (xs := ([113, 117, 111, 116] : List Int)) (inner := [.int .u8 113, .int .u8 117, .int .u8 111, .int .u8 116]) (ok := fun _ => True) (okp := fun _ => True) ?hr ?hp (fun _ hk => hk) trivial (Below.refl _ _) (Nat.le_refl _) (by simp) ?_; (case hd => rfl); (case hg => rfl); (case hr => first | (go_simp; done) | (go_simp; rfl)); (case hp => exact (Reps.one (show Kd.M (Kd.int .u8) _ _ _ 113 [.int .u8 113] from rfl) (Reps.one (show Kd.M (Kd.int .u8) _ _ _ 117 [.int .u8 117] from rfl) (Reps.one (show Kd.M (Kd.int .u8) _ _ _ 111 [.int .u8 111] from rfl) (Reps.one (show Kd.M (Kd.int .u8) _ _ _ 116 [.int .u8 116] from rfl) (Reps.none _ _)))))); intro v131 w53 ho54 hb hg_ hnew_; clear hg_ hnew_; (first | rw [← Ny130.out] at ho54 | (simp only [Int.reduceToNat] at ho54; rw [← Ny130.out] at ho54)); have n0_ := Aside0.mk (Kd.R_lower ho54 (below_size (by repeat (first | (with_reducible first | exact HB.out | apply below_alloc | apply pw_below_drewN | apply below_drew1) | exact HB.out)))); have n1_ := Aside0.mk (below_step (by repeat (first | (with_reducible first | exact HB.out | apply below_alloc | apply pw_below_drewN | apply below_drew1) | exact HB.out)) hb); clear HB; have HO132 := n0_; have HB := n1_; clear n0_ n1_; clear hb ho54; obtain ⟨Ao55, co55, eo55⟩ := Kd.R_slice HO132.out; subst eo55) | ((with_reducible refine gate_callee (f := 58) rfl ?_); refine goesL_ (some 133) rfl rfl Try.func58 (by kernel_rfl) rfl #[.slice A52 ((l0.take 5).drop 1).length (c0 - 1), .slice Ao55 y130.length co55] rfl (by (try simp only [List.map_toArray, List.map_cons, List.map_nil]); first | done | (rw [show ((l0.take 5).drop 1).length = (5 - 1) from (by rw [List.length_drop, List.length_take]; have h_ : (5 : Int) ≤ (l0.length : Int) := of_decide_eq_true (by first | (with_reducible assumption) | assumption); omega)] <;> rfl) | rfl | (simp only [List.length_drop, List.length_take]; rfl)) ?_; (with_reducible refine (bytes_Equal.calls _ _ ((l0.take 5).drop 1) _ _ y130 true _ ?side1 ?side2 ?side3 ?side4 A50.out).mono ?_); (case side1 => repeat (first | exact (Kd.C_below HR129.out HB.out) | (with_reducible refine Kd.C_alloc ?_ _) | (with_reducible refine Kd.C_drewN ?_ _) | (with_reducible refine Kd.C_drew ?_))); (case side2 => exact HC129.out); (case side3 => repeat (first | exact (Kd.R_reads' HO132.out).2.2 | (with_reducible refine Kd.C_alloc ?_ _) | (with_reducible refine Kd.C_drewN ?_ _) | (with_reducible refine Kd.C_drew ?_))); (case side4 => exact (Kd.R_reads' HO132.out).2.1); rintro e w' ⟨rfl, ⟨nd, rfl⟩⟩; refine ⟨_, rfl, ?_⟩))
                        go_ret2
                        exact ⟨by first | rfl | (simp [errW_none, errW_some] <;> rfl) | (simp [*, errW_none, errW_some] <;> rfl), by repeat (first | (with_reducible first | exact HB.out | apply below_alloc | apply pw_below_drewN | apply below_drew1) | exact HB.out)⟩
                      · replace c51 := Bool.eq_false_iff.mpr c51
                        subst c51
                        have H1 : ((bytes_Equal.f ((l0.take 5).drop 1) (([97, 112, 111, 115] : List Int))).bind fun t138 => (if t138 = true then (some (39, 6)) else (some (0, 0)))) = some (r1, r2) := by rw [if_neg (show ¬ (false = true) by decide)] at H; exact H
                        clear H
                        have H := H1
                        clear H1
                        have c56b0 := eq_true (of_decide_eq_true (by first | (with_reducible assumption) | assumption) : 1 ≤ 5)
                        have c57b0 := eq_true (of_decide_eq_true (by first | (with_reducible assumption) | assumption) : 5 ≤ (l0.length : Int))
                        obtain ⟨y135, hy135⟩ : ∃ y_ : List Int, y_ = (([97, 112, 111, 115] : List Int)) := ⟨_, rfl⟩
                        replace H : ((bytes_Equal.f ((l0.take 5).drop 1) y135).bind fun t138 => (if t138 = true then (some (39, 6)) else (some (0, 0)))) = some (r1, r2) := by first | (rw [hy135]; with_reducible exact H) | (have H2_ := (Option.bind_some _ _).symm.trans H; rw [hy135]; with_reducible exact H2_) | (have H2_ := (Option.bind_some _ _).symm.trans H; with_reducible exact H2_) | with_reducible exact H | (rw [hy135]; exact H) | exact H
                        have Ny135 := Aside0.mk hy135
                        clear hy135
                        replace H := Option.bind_eq_some_iff.mp H
                        obtain ⟨t138, A580, H⟩ := H
                        replace H : (if t138 = true then (some (39, 6)) else (some (0, 0))) = some (r1, r2) := H
                        have A58 := Aside0.mk A580
                        clear A580
                        by_cases c59 : t138 = true
                        · subst c59
                          have H1 : (some (39, 6)) = some (r1, r2) := by rw [if_pos rfl] at H; exact H
                          clear H
                          have H := H1
                          clear H1
                          simp only [Option.some.injEq, Prod.mk.injEq] at H
                          obtain ⟨rfl, rfl⟩ := H
                          obtain ⟨i060, hi060, _, hsz60, _⟩ := info_parts info5
                          (try clear hcut52); obtain ⟨A60, hcut60, hA60, hC60⟩ := print_mid_of (P := Try.prog) (Value.int .u8) 0 22 5 .i64 .i64 Try.underlying22 hi060 hsz60 (some ad116) c0 l0 1 5 (by omega) (by first | omega | exact of_decide_eq_true (by first | (with_reducible assumption) | assumption)) (of_decide_eq_true (by first | (with_reducible assumption) | assumption)) HC0.out
                          have HR129 := Aside0.mk (Kd.C_of_reads (h1 := fun _ => rfl) (hA60 _ (Kd.reads_of_C HR0.out)))
                          have HC129 := Aside0.mk hC60
                          clear hA60 hC60 hi060 hsz60
                          go_wp2_with (first | ((with_reducible refine gate_dst (N := 132) rfl ?_); refine Kd.R_lit (Kd.int .u8) _ 5 ?hg (N := 132) ?hd (xs := ([113, 117, 111, 116] : List Int)) (inner := [.int .u8 113, .int .u8 117, .int .u8 111, .int .u8 116]) (ok := fun _ => True) (okp := fun _ => True) ?hr ?hp (fun _ hk => hk) trivial (Below.refl _ _) (Nat.le_refl _) (by simp) ?_; (case hd => rfl); (case hg => rfl); (case hr => first | (go_simp; done) | (go_simp; rfl)); (case hp => exact (Reps.one (show Kd.M (Kd.int .u8) _ _ _ 113 [.int .u8 113] from rfl) (Reps.one (show Kd.M (Kd.int .u8) _ _ _ 117 [.int .u8 117] from rfl) (Reps.one (show Kd.M (Kd.int .u8) _ _ _ 111 [.int .u8 111] from rfl) (Reps.one (show Kd.M (Kd.int .u8) _ _ _ 116 [.int .u8 116] from rfl) (Reps.none _ _)))))); intro v131 w61 ho62 hb hg_ hnew_; clear hg_ hnew_; (first | rw [← Ny130.out] at ho62 | (simp only [Int.reduceToNat] at ho62; rw [← Ny130.out] at ho62)); have n0_ := Aside0.mk (Kd.R_lower ho62 (below_size (by repeat (first | (with_reducible first | exact HB.out | apply below_alloc | apply pw_below_drewN | apply below_drew1) | exact HB.out)))); have n1_ := Aside0.mk (below_step (by repeat (first | (with_reducible first | exact HB.out | apply below_alloc | apply pw_below_drewN | apply below_drew1) | exact HB.out)) hb); clear HB; have HO132 := n0_; have HB := n1_; clear n0_ n1_; clear hb ho62; obtain ⟨Ao63, co63, eo63⟩ := Kd.R_slice HO132.out; subst eo63) | ((with_reducible refine gate_callee (f := 58) rfl ?_); refine goesL_ (some 133) rfl rfl Try.func58 (by kernel_rfl) rfl #[.slice A60 ((l0.take 5).drop 1).length (c0 - 1), .slice Ao63 y130.length co63] rfl (by (try simp only [List.map_toArray, List.map_cons, List.map_nil]); first | done | (rw [show ((l0.take 5).drop 1).length = (5 - 1) from (by rw [List.length_drop, List.length_take]; have h_ : (5 : Int) ≤ (l0.length : Int) := of_decide_eq_true (by first | (with_reducible assumption) | assumption); omega)] <;> rfl) | rfl | (simp only [List.length_drop, List.length_take]; rfl)) ?_; (with_reducible refine (bytes_Equal.calls _ _ ((l0.take 5).drop 1) _ _ y130 false _ ?side1 ?side2 ?side3 ?side4 A50.out).mono ?_); (case side1 => repeat (first | exact (Kd.C_below HR129.out HB.out) | (with_reducible refine Kd.C_alloc ?_ _) | (with_reducible refine Kd.C_drewN ?_ _) | (with_reducible refine Kd.C_drew ?_))); (case side2 => exact HC129.out); (case side3 => repeat (first | exact (Kd.R_reads' HO132.out).2.2 | (with_reducible refine Kd.C_alloc ?_ _) | (with_reducible refine Kd.C_drewN ?_ _) | (with_reducible refine Kd.C_drew ?_))); (case side4 => exact (Kd.R_reads' HO132.out).2.1); rintro e w' ⟨rfl, ⟨nd, rfl⟩⟩; refine ⟨_, rfl, ?_⟩; obtain ⟨i064, hi064, _, hsz64, _⟩ := info_parts info5; (try clear hcut52); (try clear hcut60); obtain ⟨A64, hcut64, hA64, hC64⟩ := print_mid_of (P := Try.prog) (Value.int .u8) 0 22 5 .i64 .i64 Try.underlying22 hi064 hsz64 (some ad116) c0 l0 1 5 (by omega) (by first | omega | exact of_decide_eq_true (by first | (with_reducible assumption) | assumption)) (of_decide_eq_true (by first | (with_reducible assumption) | assumption)) HC0.out; have HR134 := Aside0.mk (Kd.C_of_reads (h1 := fun _ => rfl) (hA64 _ (Kd.reads_of_C HR0.out))); have HC134 := Aside0.mk hC64; clear hA64 hC64 hi064 hsz64) | ((with_reducible refine gate_dst (N := 136) rfl ?_); refine Kd.R_lit (Kd.int .u8) _ 5 ?hg (N := 136) ?hd (xs := ([97, 112, 111, 115] : List Int)) (inner := [.int .u8 97, .int .u8 112, .int .u8 111, .int .u8 115]) (ok := fun _ => True) (okp := fun _ => True) ?hr ?hp (fun _ hk => hk) trivial (Below.refl _ _) (Nat.le_refl _) (by simp) ?_; (case hd => rfl); (case hg => rfl); (case hr => first | (go_simp; done) | (go_simp; rfl)); (case hp => exact (Reps.one (show Kd.M (Kd.int .u8) _ _ _ 97 [.int .u8 97] from rfl) (Reps.one (show Kd.M (Kd.int .u8) _ _ _ 112 [.int .u8 112] from rfl) (Reps.one (show Kd.M (Kd.int .u8) _ _ _ 111 [.int .u8 111] from rfl) (Reps.one (show Kd.M (Kd.int .u8) _ _ _ 115 [.int .u8 115] from rfl) (Reps.none _ _)))))); intro v136 w65 ho66 hb hg_ hnew_; clear hg_ hnew_; (first | rw [← Ny135.out] at ho66 | (simp only [Int.reduceToNat] at ho66; rw [← Ny135.out] at ho66)); have n0_ := Aside0.mk (Kd.R_elder' (by (with_reducible repeat (first | apply Kd.R_alloc | apply Kd.R_drewN | apply Kd.R_drew)); exact HO132.out) (Kd.R_base ho66) hb); have n1_ := Aside0.mk (Kd.R_lower (Kd.R_new' ho66 (Kd.R_lt (by (with_reducible repeat (first | apply Kd.R_alloc | apply Kd.R_drewN | apply Kd.R_drew)); exact HO132.out))) (below_size (by repeat (first | (with_reducible first | exact HB.out | apply below_alloc | apply pw_below_drewN | apply below_drew1) | exact HB.out)))); have n2_ := Aside0.mk (below_step (by repeat (first | (with_reducible first | exact HB.out | apply below_alloc | apply pw_below_drewN | apply below_drew1) | exact HB.out)) hb); clear HO132; clear HB; have HO132 := n0_; have HO137 := n1_; have HB := n2_; clear n0_ n1_ n2_; clear hb ho66; obtain ⟨Ao67, co67, eo67⟩ := Kd.R_slice HO137.out; subst eo67) | ((with_reducible refine gate_callee (f := 58) rfl ?_); refine goesL_ (some 137) rfl rfl Try.func58 (by kernel_rfl) rfl #[.slice A64 ((l0.take 5).drop 1).length (c0 - 1), .slice Ao67 y135.length co67] rfl (by (try simp only [List.map_toArray, List.map_cons, List.map_nil]); first | done | (rw [show ((l0.take 5).drop 1).length = (5 - 1) from (by rw [List.length_drop, List.length_take]; have h_ : (5 : Int) ≤ (l0.length : Int) := of_decide_eq_true (by first | (with_reducible assumption) | assumption); omega)] <;> rfl) | rfl | (simp only [List.length_drop, List.length_take]; rfl)) ?_; (with_reducible refine (bytes_Equal.calls _ _ ((l0.take 5).drop 1) _ _ y135 true _ ?side1 ?side2 ?side3 ?side4 A58.out).mono ?_); (case side1 => repeat (first | exact (Kd.C_below HR134.out HB.out) | (with_reducible refine Kd.C_alloc ?_ _) | (with_reducible refine Kd.C_drewN ?_ _) | (with_reducible refine Kd.C_drew ?_))); (case side2 => exact HC134.out); (case side3 => repeat (first | exact (Kd.R_reads' HO137.out).2.2 | (with_reducible refine Kd.C_alloc ?_ _) | (with_reducible refine Kd.C_drewN ?_ _) | (with_reducible refine Kd.C_drew ?_))); (case side4 => exact (Kd.R_reads' HO137.out).2.1); rintro e w' ⟨rfl, ⟨nd, rfl⟩⟩; refine ⟨_, rfl, ?_⟩))
                          go_ret2
                          exact ⟨by first | rfl | (simp [errW_none, errW_some] <;> rfl) | (simp [*, errW_none, errW_some] <;> rfl), by repeat (first | (with_reducible first | exact HB.out | apply below_alloc | apply pw_below_drewN | apply below_drew1) | exact HB.out)⟩
                        · replace c59 := Bool.eq_false_iff.mpr c59
                          subst c59
                          have H1 : (some (0, 0)) = some (r1, r2) := by rw [if_neg (show ¬ (false = true) by decide)] at H; exact H
                          clear H
                          have H := H1
                          clear H1
                          simp only [Option.some.injEq, Prod.mk.injEq] at H
                          obtain ⟨rfl, rfl⟩ := H
                          obtain ⟨i068, hi068, _, hsz68, _⟩ := info_parts info5
                          (try clear hcut52); (try clear hcut60); (try clear hcut64); obtain ⟨A68, hcut68, hA68, hC68⟩ := print_mid_of (P := Try.prog) (Value.int .u8) 0 22 5 .i64 .i64 Try.underlying22 hi068 hsz68 (some ad116) c0 l0 1 5 (by omega) (by first | omega | exact of_decide_eq_true (by first | (with_reducible assumption) | assumption)) (of_decide_eq_true (by first | (with_reducible assumption) | assumption)) HC0.out
                          have HR129 := Aside0.mk (Kd.C_of_reads (h1 := fun _ => rfl) (hA68 _ (Kd.reads_of_C HR0.out)))
                          have HC129 := Aside0.mk hC68
                          clear hA68 hC68 hi068 hsz68
                          go_wp2_with (first | ((with_reducible refine gate_dst (N := 132) rfl ?_); refine Kd.R_lit (Kd.int .u8) _ 5 ?hg (N := 132) ?hd (xs := ([113, 117, 111, 116] : List Int)) (inner := [.int .u8 113, .int .u8 117, .int .u8 111, .int .u8 116]) (ok := fun _ => True) (okp := fun _ => True) ?hr ?hp (fun _ hk => hk) trivial (Below.refl _ _) (Nat.le_refl _) (by simp) ?_; (case hd => rfl); (case hg => rfl); (case hr => first | (go_simp; done) | (go_simp; rfl)); (case hp => exact (Reps.one (show Kd.M (Kd.int .u8) _ _ _ 113 [.int .u8 113] from rfl) (Reps.one (show Kd.M (Kd.int .u8) _ _ _ 117 [.int .u8 117] from rfl) (Reps.one (show Kd.M (Kd.int .u8) _ _ _ 111 [.int .u8 111] from rfl) (Reps.one (show Kd.M (Kd.int .u8) _ _ _ 116 [.int .u8 116] from rfl) (Reps.none _ _)))))); intro v131 w69 ho70 hb hg_ hnew_; clear hg_ hnew_; (first | rw [← Ny130.out] at ho70 | (simp only [Int.reduceToNat] at ho70; rw [← Ny130.out] at ho70)); have n0_ := Aside0.mk (Kd.R_lower ho70 (below_size (by repeat (first | (with_reducible first | exact HB.out | apply below_alloc | apply pw_below_drewN | apply below_drew1) | exact HB.out)))); have n1_ := Aside0.mk (below_step (by repeat (first | (with_reducible first | exact HB.out | apply below_alloc | apply pw_below_drewN | apply below_drew1) | exact HB.out)) hb); clear HB; have HO132 := n0_; have HB := n1_; clear n0_ n1_; clear hb ho70; obtain ⟨Ao71, co71, eo71⟩ := Kd.R_slice HO132.out; subst eo71) | ((with_reducible refine gate_callee (f := 58) rfl ?_); refine goesL_ (some 133) rfl rfl Try.func58 (by kernel_rfl) rfl #[.slice A68 ((l0.take 5).drop 1).length (c0 - 1), .slice Ao71 y130.length co71] rfl (by (try simp only [List.map_toArray, List.map_cons, List.map_nil]); first | done | (rw [show ((l0.take 5).drop 1).length = (5 - 1) from (by rw [List.length_drop, List.length_take]; have h_ : (5 : Int) ≤ (l0.length : Int) := of_decide_eq_true (by first | (with_reducible assumption) | assumption); omega)] <;> rfl) | rfl | (simp only [List.length_drop, List.length_take]; rfl)) ?_; (with_reducible refine (bytes_Equal.calls _ _ ((l0.take 5).drop 1) _ _ y130 false _ ?side1 ?side2 ?side3 ?side4 A50.out).mono ?_); (case side1 => repeat (first | exact (Kd.C_below HR129.out HB.out) | (with_reducible refine Kd.C_alloc ?_ _) | (with_reducible refine Kd.C_drewN ?_ _) | (with_reducible refine Kd.C_drew ?_))); (case side2 => exact HC129.out); (case side3 => repeat (first | exact (Kd.R_reads' HO132.out).2.2 | (with_reducible refine Kd.C_alloc ?_ _) | (with_reducible refine Kd.C_drewN ?_ _) | (with_reducible refine Kd.C_drew ?_))); (case side4 => exact (Kd.R_reads' HO132.out).2.1); rintro e w' ⟨rfl, ⟨nd, rfl⟩⟩; refine ⟨_, rfl, ?_⟩; obtain ⟨i072, hi072, _, hsz72, _⟩ := info_parts info5; (try clear hcut52); (try clear hcut60); (try clear hcut64); (try clear hcut68); obtain ⟨A72, hcut72, hA72, hC72⟩ := print_mid_of (P := Try.prog) (Value.int .u8) 0 22 5 .i64 .i64 Try.underlying22 hi072 hsz72 (some ad116) c0 l0 1 5 (by omega) (by first | omega | exact of_decide_eq_true (by first | (with_reducible assumption) | assumption)) (of_decide_eq_true (by first | (with_reducible assumption) | assumption)) HC0.out; have HR134 := Aside0.mk (Kd.C_of_reads (h1 := fun _ => rfl) (hA72 _ (Kd.reads_of_C HR0.out))); have HC134 := Aside0.mk hC72; clear hA72 hC72 hi072 hsz72) | ((with_reducible refine gate_dst (N := 136) rfl ?_); refine Kd.R_lit (Kd.int .u8) _ 5 ?hg (N := 136) ?hd (xs := ([97, 112, 111, 115] : List Int)) (inner := [.int .u8 97, .int .u8 112, .int .u8 111, .int .u8 115]) (ok := fun _ => True) (okp := fun _ => True) ?hr ?hp (fun _ hk => hk) trivial (Below.refl _ _) (Nat.le_refl _) (by simp) ?_; (case hd => rfl); (case hg => rfl); (case hr => first | (go_simp; done) | (go_simp; rfl)); (case hp => exact (Reps.one (show Kd.M (Kd.int .u8) _ _ _ 97 [.int .u8 97] from rfl) (Reps.one (show Kd.M (Kd.int .u8) _ _ _ 112 [.int .u8 112] from rfl) (Reps.one (show Kd.M (Kd.int .u8) _ _ _ 111 [.int .u8 111] from rfl) (Reps.one (show Kd.M (Kd.int .u8) _ _ _ 115 [.int .u8 115] from rfl) (Reps.none _ _)))))); intro v136 w73 ho74 hb hg_ hnew_; clear hg_ hnew_; (first | rw [← Ny135.out] at ho74 | (simp only [Int.reduceToNat] at ho74; rw [← Ny135.out] at ho74)); have n0_ := Aside0.mk (Kd.R_elder' (by (with_reducible repeat (first | apply Kd.R_alloc | apply Kd.R_drewN | apply Kd.R_drew)); exact HO132.out) (Kd.R_base ho74) hb); have n1_ := Aside0.mk (Kd.R_lower (Kd.R_new' ho74 (Kd.R_lt (by (with_reducible repeat (first | apply Kd.R_alloc | apply Kd.R_drewN | apply Kd.R_drew)); exact HO132.out))) (below_size (by repeat (first | (with_reducible first | exact HB.out | apply below_alloc | apply pw_below_drewN | apply below_drew1) | exact HB.out)))); have n2_ := Aside0.mk (below_step (by repeat (first | (with_reducible first | exact HB.out | apply below_alloc | apply pw_below_drewN | apply below_drew1) | exact HB.out)) hb); clear HO132; clear HB; have HO132 := n0_; have HO137 := n1_; have HB := n2_; clear n0_ n1_ n2_; clear hb ho74; obtain ⟨Ao75, co75, eo75⟩ := Kd.R_slice HO137.out; subst eo75) | ((with_reducible refine gate_callee (f := 58) rfl ?_); refine goesL_ (some 137) rfl rfl Try.func58 (by kernel_rfl) rfl #[.slice A72 ((l0.take 5).drop 1).length (c0 - 1), .slice Ao75 y135.length co75] rfl (by (try simp only [List.map_toArray, List.map_cons, List.map_nil]); first | done | (rw [show ((l0.take 5).drop 1).length = (5 - 1) from (by rw [List.length_drop, List.length_take]; have h_ : (5 : Int) ≤ (l0.length : Int) := of_decide_eq_true (by first | (with_reducible assumption) | assumption); omega)] <;> rfl) | rfl | (simp only [List.length_drop, List.length_take]; rfl)) ?_; (with_reducible refine (bytes_Equal.calls _ _ ((l0.take 5).drop 1) _ _ y135 false _ ?side1 ?side2 ?side3 ?side4 A58.out).mono ?_); (case side1 => repeat (first | exact (Kd.C_below HR134.out HB.out) | (with_reducible refine Kd.C_alloc ?_ _) | (with_reducible refine Kd.C_drewN ?_ _) | (with_reducible refine Kd.C_drew ?_))); (case side2 => exact HC134.out); (case side3 => repeat (first | exact (Kd.R_reads' HO137.out).2.2 | (with_reducible refine Kd.C_alloc ?_ _) | (with_reducible refine Kd.C_drewN ?_ _) | (with_reducible refine Kd.C_drew ?_))); (case side4 => exact (Kd.R_reads' HO137.out).2.1); rintro e w' ⟨rfl, ⟨nd, rfl⟩⟩; refine ⟨_, rfl, ?_⟩))
                          go_ret2
                          exact ⟨by first | rfl | (simp [errW_none, errW_some] <;> rfl) | (simp [*, errW_none, errW_some] <;> rfl), by repeat (first | (with_reducible first | exact HB.out | apply below_alloc | apply pw_below_drewN | apply below_drew1) | exact HB.out)⟩
                    · rw [if_neg c49] at H
                      exact absurd H (by simp)
                  · rw [if_neg c48] at H
                    exact absurd H (by simp)
                · replace c47 := Bool.eq_false_iff.mpr c47
                  subst c47
                  have H1 : (some (0, 0)) = some (r1, r2) := by rw [if_neg (show ¬ (false = true) by decide)] at H; exact H
                  clear H
                  have H := H1
                  clear H1
                  simp only [Option.some.injEq, Prod.mk.injEq] at H
                  obtain ⟨rfl, rfl⟩ := H
                  go_wp2
                  go_ret2
                  exact ⟨by first | rfl | (simp [errW_none, errW_some] <;> rfl) | (simp [*, errW_none, errW_some] <;> rfl), by repeat (first | (with_reducible first | exact HB.out | apply below_alloc | apply pw_below_drewN | apply below_drew1) | exact HB.out)⟩
        · rw [if_neg c6] at H
          exact absurd H (by simp)

end Go.Proofs.Ytbpmfmkdpjajhaa.PFnQuoteEntity
