/- The contract of the function own: a copy of the bytes, in new memory. -/
import Derived.Test.YtfjgfgaojebghaaProg
import Derived.Below
import Derived.Deep.Draws
import Derived.Deep.AppendLies
import Derived.Maps.AppendAt
import Derived.OwnWalk
import Derived.Laws.BytesArg
import Derived.Laws.MakeOwn
import Derived.Laws.OwnMore
import Derived.Deep.OwnRows
import Derived.Tactics
import Derived.Lib.ConvBytes
import Derived.Laws.Slices
import Derived.WalkKit
import Derived.KernelRfl
import Derived.RowKit3
import Derived.Deep.LoopGhost
import Derived.Deep.QuietTactic
import Derived.BigQuiet
import Derived.WideLaws
import Derived.Deep.DeepCutAuto
import Derived.Deep.CutBlock
import Derived.Deep.RegionHeld3
import Derived.Laws.Rows
import Derived.Lib.AppendStr
import Derived.ArgAppend
import Derived.Laws.IdiomCopy
import Derived.OrdersHeld
import Derived.Laws.BitsLemmas
import Derived.RowKit
import Derived.Test.YtfjgfgaojebghaaOwn
import Derived.Test.YtfjgfgaojebghaaCown
import Derived.Test.YtfjgfgaojebghaaWWords
import Derived.Test.YtfjgfgaojebghaaWLast
import Derived.Test.YtfjgfgaojebghaaWTab
import Derived.Test.YtfjgfgaojebghaaWFour
import Derived.Test.YtfjgfgaojebghaaWQPut
import Derived.Test.YtfjgfgaojebghaaWApart
import Derived.Test.YtfjgfgaojebghaaWArr
import Derived.Test.YtfjgfgaojebghaaWZeros
import Derived.Test.YtfjgfgaojebghaaWFoot
import Derived.Test.YtfjgfgaojebghaaWKept
import Derived.Test.YtfjgfgaojebghaaWShare
import Derived.Test.YtfjgfgaojebghaaWN
import Derived.Test.YtfjgfgaojebghaaWFootNe
import Derived.Test.YtfjgfgaojebghaaWAt
import Derived.Test.YtfjgfgaojebghaaWEqStruct
import Derived.Test.YtfjgfgaojebghaaWRepsOne
import Derived.Test.YtfjgfgaojebghaaWInv
import Derived.Test.YtfjgfgaojebghaaWInvWords
import Derived.Test.YtfjgfgaojebghaaWGuard
import Derived.Test.YtfjgfgaojebghaaWNEv
import Derived.Test.YtfjgfgaojebghaaWMore
namespace Go.Proofs.Ytfjgfgaojebghaa.Own
open Go.RowKit Go.Proofs.YtfjgfgaojebghaaW.PrintWords Go.Proofs.YtfjgfgaojebghaaW.PrintLast Go.Proofs.YtfjgfgaojebghaaW.PrintMore
set_option linter.unusedVariables false
set_option linter.unusedSimpArgs false
def rd_L2 (xs : List (List Int)) (i : Int) : (List Int) := xs.getD i.toNat ([] : List Int)
theorem at_L2 {w : World} {A : Option Addr} {n : Nat} {xs : List (List Int)} (h : Kd.C (Kd.slice 5 (Kd.int .u8)) w A n xs) (i : Int) (h0 : 0 ≤ i) (h1 : i < n) : ∃ ad A0 c0, A = some ad ∧ w.cell? (ad.add i.toNat) = some (.slice A0 (rd_L2 xs i).length c0) ∧ (rd_L2 xs i).length ≤ c0 ∧ (Kd.int .u8).C w A0 (rd_L2 xs i).length (rd_L2 xs i) := by
  obtain ⟨ad, c, e, _, hK, hc0⟩ := Kd.C_get h ([] : List Int) i h0 h1
  have hc : ∀ j u, c[j]? = some u → w.cell? (ad.add (i.toNat * 1 + j)) = some u := hc0
  obtain ⟨A0, c0, rfl, l0, g0⟩ := hK
  exact ⟨ad, A0, c0, e, by have hq := hc 0 _ rfl; rwa [Nat.mul_one, Nat.add_zero] at hq, l0, g0⟩

/-! ### spec_IsToken: function 10 -/
def spec_IsToken.l0 : Nat → ByteArray → Int → Int → Option (Bool)
  | 0, _, _, _ => none
  | k + 1, x0, x7, x8 => if x8 < x7 then (if 0 ≤ x8 then (if x8 < (x0.size : Int) then (if (bt x0 x8) ≥ 97 then (if ((bt x0 x8) ≤ 122) then (spec_IsToken.l0 k x0 x7 (wrap64 (x8 + 1))) else (if x8 = 0 then (some false) else (if (bt x0 x8) = 45 then (spec_IsToken.l0 k x0 x7 (wrap64 (x8 + 1))) else (if (bt x0 x8) < 48 then (some false) else (if (bt x0 x8) > 57 then (some false) else (spec_IsToken.l0 k x0 x7 (wrap64 (x8 + 1)))))))) else (if x8 = 0 then (some false) else (if (bt x0 x8) = 45 then (spec_IsToken.l0 k x0 x7 (wrap64 (x8 + 1))) else (if (bt x0 x8) < 48 then (some false) else (if (bt x0 x8) > 57 then (some false) else (spec_IsToken.l0 k x0 x7 (wrap64 (x8 + 1)))))))) else (none)) else (none)) else (if (x0.size : Int) ≥ 1 then (some (decide ((x0.size : Int) ≤ 20))) else (some false))
def spec_IsToken.f (k : Nat) (a0 : ByteArray) : Option (Bool) := spec_IsToken.l0 k a0 (a0.size : Int) 0
theorem spec_IsToken.mono_l : ∀ k, (∀ y0 y1 y2, LeO (spec_IsToken.l0 k y0 y1 y2) (spec_IsToken.l0 (k + 1) y0 y1 y2))
  | 0 => fun _ _ _ r h => by simp [spec_IsToken.l0] at h
  | k + 1 => by
    have ih0 := spec_IsToken.mono_l k
    · intro y0 y1 y2
      unfold spec_IsToken.l0
      repeat' first
      | (with_reducible exact ih0 _ _ _)
      | (with_reducible exact LeO.refl _)
      | (with_reducible exact LeO.none _)
      | (with_reducible refine LeO.ite ?_ ?_)
      | (with_reducible refine LeO.bind ?_ (fun _ => ?_))
      | exact ih0 _ _ _
      | exact LeO.none _
      | refine LeO.ite ?_ ?_
      | refine LeO.bind ?_ (fun _ => ?_)
theorem spec_IsToken.mono : ∀ a0 k, LeO (spec_IsToken.f k a0) (spec_IsToken.f (k + 1) a0) := by
  intro a0 k
  have ih0 := spec_IsToken.mono_l k
  unfold spec_IsToken.f
  repeat' first
      | (with_reducible exact ih0 _ _ _)
      | (with_reducible exact LeO.refl _)
      | (with_reducible exact LeO.none _)
      | (with_reducible refine LeO.ite ?_ ?_)
      | (with_reducible refine LeO.bind ?_ (fun _ => ?_))
      | exact ih0 _ _ _
      | exact LeO.none _
      | refine LeO.ite ?_ ?_
      | refine LeO.bind ?_ (fun _ => ?_)
set_option maxHeartbeats 8000000 in
set_option maxRecDepth 100000 in
theorem spec_IsToken.calls (k : Nat) (a0 : ByteArray) (r : Bool) (w : World) (h : spec_IsToken.f k a0 = some r) :
    Calls Try.prog 10 #[.string a0] w fun e w' => e = .returned (.bool r) ∧ Drawn0 w w' := by
  have H : (spec_IsToken.l0 k a0 (a0.size : Int) 0) = some r := h
  clear h
  have H' := Aside0.mk H
  clear H
  go_enter Try.func10, Try.ntmps10
  go_wp2
  go_loopg [8] k (fun kq v8 w' => ∃ (x8_1 : Int), v8 = .int .i64 x8_1 ∧ Aside0 (spec_IsToken.l0 kq a0 (a0.size : Int) x8_1 = some r) ∧ Aside0 (kq ≤ k) ∧ Drawn0 w w')
  case atStart => exact ⟨(0), (by first | rfl | (simp; done) | (simp [*]; done)), H', ⟨Nat.le_refl _⟩, by repeat (first | exact Drawn0.refl _ | apply Drawn0.step)⟩
  case round =>
    clear H'
    try clear c1
    obtain ⟨x8_1, rfl, HA, HK1, ⟨m1, rfl⟩⟩ := hrel
    cases gk with
    | zero => exact absurd HA.out (by simp [spec_IsToken.l0])
    | succ k1 =>
      have H := HA.out
      clear HA
      simp only [spec_IsToken.l0] at H
      by_cases c2 : x8_1 < (a0.size : Int)
      · rw [if_pos c2] at H
        have c2b0 : decide (x8_1 < (a0.size : Int)) = true := decide_eq_true c2
        clear c2
        by_cases c3 : 0 ≤ x8_1
        · rw [if_pos c3] at H
          have c3b0 : decide (0 ≤ x8_1) = true := decide_eq_true c3
          clear c3
          by_cases c4 : x8_1 < (a0.size : Int)
          · rw [if_pos c4] at H
            have c4b0 : decide (x8_1 < (a0.size : Int)) = true := decide_eq_true c4
            clear c4
            by_cases c6 : (bt a0 x8_1) ≥ 97
            · rw [if_pos c6] at H
              have c6b0 : decide (97 ≤ (bt a0 x8_1)) = true := decide_eq_true c6
              clear c6
              by_cases c7 : ((bt a0 x8_1) ≤ 122)
              · rw [if_pos c7] at H
                have c7b0 : decide ((bt a0 x8_1) ≤ 122) = true := decide_eq_true c7
                clear c7
                have H' := Aside0.mk H
                clear H
                have p5 : 0 ≤ (x8_1 : Int) := of_decide_eq_true (by first | (with_reducible assumption) | assumption)
                have q5 : x8_1 < (a0.size : Int) := of_decide_eq_true (by first | (with_reducible assumption) | assumption)
                have hx5 := bt_at a0 x8_1
                replace p5 := eq_true p5
                replace q5 := eq_true q5
                go_wp2
                go_roundg k1
                case measure => have := HK1.out; omega
                case rel => exact ⟨(wrap64 (x8_1 + 1)), (by first | rfl | (simp; done) | (simp [*]; done)), H', ⟨by have := HK1.out; omega⟩, by repeat (first | exact Drawn0.refl _ | apply Drawn0.step)⟩
              · rw [if_neg c7] at H
                have c7b0 : decide ((bt a0 x8_1) ≤ 122) = false := decide_eq_false c7
                clear c7
                by_cases c8 : x8_1 = 0
                · rw [if_pos c8] at H
                  have c8b0 : (x8_1 == 0) = true := beq_iff_eq.mpr c8
                  have c8b1 : (x8_1 != 0) = false := bne_eq_false_iff_eq.mpr c8
                  clear c8
                  obtain rfl := Option.some.inj H
                  have p5 : 0 ≤ (x8_1 : Int) := of_decide_eq_true (by first | (with_reducible assumption) | assumption)
                  have q5 : x8_1 < (a0.size : Int) := of_decide_eq_true (by first | (with_reducible assumption) | assumption)
                  have hx5 := bt_at a0 x8_1
                  replace p5 := eq_true p5
                  replace q5 := eq_true q5
                  go_wp2
                  go_ret
                  exact ⟨by first | rfl | (simp; done) | (simp [*]; done), by repeat (first | exact Drawn0.refl _ | apply Drawn0.step)⟩
                · rw [if_neg c8] at H
                  have c8b0 : (x8_1 == 0) = false := beq_eq_false_iff_ne.mpr c8
                  have c8b1 : (x8_1 != 0) = true := bne_iff_ne.mpr c8
                  by_cases c9 : (bt a0 x8_1) = 45
                  · rw [if_pos c9] at H
                    have c9b0 : ((bt a0 x8_1) == 45) = true := beq_iff_eq.mpr c9
                    have c9b1 : ((bt a0 x8_1) != 45) = false := bne_eq_false_iff_eq.mpr c9
                    clear c9
                    have H' := Aside0.mk H
                    clear H
                    have p5 : 0 ≤ (x8_1 : Int) := of_decide_eq_true (by first | (with_reducible assumption) | assumption)
                    have q5 : x8_1 < (a0.size : Int) := of_decide_eq_true (by first | (with_reducible assumption) | assumption)
                    have hx5 := bt_at a0 x8_1
                    replace p5 := eq_true p5
                    replace q5 := eq_true q5
                    go_wp2
                    go_roundg k1
                    case measure => have := HK1.out; omega
                    case rel => exact ⟨(wrap64 (x8_1 + 1)), (by first | rfl | (simp; done) | (simp [*]; done)), H', ⟨by have := HK1.out; omega⟩, by repeat (first | exact Drawn0.refl _ | apply Drawn0.step)⟩
                  · rw [if_neg c9] at H
                    have c9b0 : ((bt a0 x8_1) == 45) = false := beq_eq_false_iff_ne.mpr c9
                    have c9b1 : ((bt a0 x8_1) != 45) = true := bne_iff_ne.mpr c9
                    by_cases c10 : (bt a0 x8_1) < 48
                    · rw [if_pos c10] at H
                      have c10b0 : decide ((bt a0 x8_1) < 48) = true := decide_eq_true c10
                      clear c10
                      obtain rfl := Option.some.inj H
                      have p5 : 0 ≤ (x8_1 : Int) := of_decide_eq_true (by first | (with_reducible assumption) | assumption)
                      have q5 : x8_1 < (a0.size : Int) := of_decide_eq_true (by first | (with_reducible assumption) | assumption)
                      have hx5 := bt_at a0 x8_1
                      replace p5 := eq_true p5
                      replace q5 := eq_true q5
                      go_wp2
                      go_ret
                      exact ⟨by first | rfl | (simp; done) | (simp [*]; done), by repeat (first | exact Drawn0.refl _ | apply Drawn0.step)⟩
                    · rw [if_neg c10] at H
                      have c10b0 : decide ((bt a0 x8_1) < 48) = false := decide_eq_false c10
                      clear c10
                      by_cases c11 : (bt a0 x8_1) > 57
                      · rw [if_pos c11] at H
                        have c11b0 : decide (57 < (bt a0 x8_1)) = true := decide_eq_true c11
                        clear c11
                        obtain rfl := Option.some.inj H
                        have p5 : 0 ≤ (x8_1 : Int) := of_decide_eq_true (by first | (with_reducible assumption) | assumption)
                        have q5 : x8_1 < (a0.size : Int) := of_decide_eq_true (by first | (with_reducible assumption) | assumption)
                        have hx5 := bt_at a0 x8_1
                        replace p5 := eq_true p5
                        replace q5 := eq_true q5
                        go_wp2
                        go_ret
                        exact ⟨by first | rfl | (simp; done) | (simp [*]; done), by repeat (first | exact Drawn0.refl _ | apply Drawn0.step)⟩
                      · rw [if_neg c11] at H
                        have c11b0 : decide (57 < (bt a0 x8_1)) = false := decide_eq_false c11
                        clear c11
                        have H' := Aside0.mk H
                        clear H
                        have p5 : 0 ≤ (x8_1 : Int) := of_decide_eq_true (by first | (with_reducible assumption) | assumption)
                        have q5 : x8_1 < (a0.size : Int) := of_decide_eq_true (by first | (with_reducible assumption) | assumption)
                        have hx5 := bt_at a0 x8_1
                        replace p5 := eq_true p5
                        replace q5 := eq_true q5
                        go_wp2
                        go_roundg k1
                        case measure => have := HK1.out; omega
                        case rel => exact ⟨(wrap64 (x8_1 + 1)), (by first | rfl | (simp; done) | (simp [*]; done)), H', ⟨by have := HK1.out; omega⟩, by repeat (first | exact Drawn0.refl _ | apply Drawn0.step)⟩
            · rw [if_neg c6] at H
              have c6b0 : decide (97 ≤ (bt a0 x8_1)) = false := decide_eq_false c6
              clear c6
              by_cases c12 : x8_1 = 0
              · rw [if_pos c12] at H
                have c12b0 : (x8_1 == 0) = true := beq_iff_eq.mpr c12
                have c12b1 : (x8_1 != 0) = false := bne_eq_false_iff_eq.mpr c12
                clear c12
                obtain rfl := Option.some.inj H
                have p5 : 0 ≤ (x8_1 : Int) := of_decide_eq_true (by first | (with_reducible assumption) | assumption)
                have q5 : x8_1 < (a0.size : Int) := of_decide_eq_true (by first | (with_reducible assumption) | assumption)
                have hx5 := bt_at a0 x8_1
                replace p5 := eq_true p5
                replace q5 := eq_true q5
                go_wp2
                go_ret
                exact ⟨by first | rfl | (simp; done) | (simp [*]; done), by repeat (first | exact Drawn0.refl _ | apply Drawn0.step)⟩
              · rw [if_neg c12] at H
                have c12b0 : (x8_1 == 0) = false := beq_eq_false_iff_ne.mpr c12
                have c12b1 : (x8_1 != 0) = true := bne_iff_ne.mpr c12
                by_cases c13 : (bt a0 x8_1) = 45
                · rw [if_pos c13] at H
                  have c13b0 : ((bt a0 x8_1) == 45) = true := beq_iff_eq.mpr c13
                  have c13b1 : ((bt a0 x8_1) != 45) = false := bne_eq_false_iff_eq.mpr c13
                  clear c13
                  have H' := Aside0.mk H
                  clear H
                  have p5 : 0 ≤ (x8_1 : Int) := of_decide_eq_true (by first | (with_reducible assumption) | assumption)
                  have q5 : x8_1 < (a0.size : Int) := of_decide_eq_true (by first | (with_reducible assumption) | assumption)
                  have hx5 := bt_at a0 x8_1
                  replace p5 := eq_true p5
                  replace q5 := eq_true q5
                  go_wp2
                  go_roundg k1
                  case measure => have := HK1.out; omega
                  case rel => exact ⟨(wrap64 (x8_1 + 1)), (by first | rfl | (simp; done) | (simp [*]; done)), H', ⟨by have := HK1.out; omega⟩, by repeat (first | exact Drawn0.refl _ | apply Drawn0.step)⟩
                · rw [if_neg c13] at H
                  have c13b0 : ((bt a0 x8_1) == 45) = false := beq_eq_false_iff_ne.mpr c13
                  have c13b1 : ((bt a0 x8_1) != 45) = true := bne_iff_ne.mpr c13
                  by_cases c14 : (bt a0 x8_1) < 48
                  · rw [if_pos c14] at H
                    have c14b0 : decide ((bt a0 x8_1) < 48) = true := decide_eq_true c14
                    clear c14
                    obtain rfl := Option.some.inj H
                    have p5 : 0 ≤ (x8_1 : Int) := of_decide_eq_true (by first | (with_reducible assumption) | assumption)
                    have q5 : x8_1 < (a0.size : Int) := of_decide_eq_true (by first | (with_reducible assumption) | assumption)
                    have hx5 := bt_at a0 x8_1
                    replace p5 := eq_true p5
                    replace q5 := eq_true q5
                    go_wp2
                    go_ret
                    exact ⟨by first | rfl | (simp; done) | (simp [*]; done), by repeat (first | exact Drawn0.refl _ | apply Drawn0.step)⟩
                  · rw [if_neg c14] at H
                    have c14b0 : decide ((bt a0 x8_1) < 48) = false := decide_eq_false c14
                    clear c14
                    by_cases c15 : (bt a0 x8_1) > 57
                    · rw [if_pos c15] at H
                      have c15b0 : decide (57 < (bt a0 x8_1)) = true := decide_eq_true c15
                      clear c15
                      obtain rfl := Option.some.inj H
                      have p5 : 0 ≤ (x8_1 : Int) := of_decide_eq_true (by first | (with_reducible assumption) | assumption)
                      have q5 : x8_1 < (a0.size : Int) := of_decide_eq_true (by first | (with_reducible assumption) | assumption)
                      have hx5 := bt_at a0 x8_1
                      replace p5 := eq_true p5
                      replace q5 := eq_true q5
                      go_wp2
                      go_ret
                      exact ⟨by first | rfl | (simp; done) | (simp [*]; done), by repeat (first | exact Drawn0.refl _ | apply Drawn0.step)⟩
                    · rw [if_neg c15] at H
                      have c15b0 : decide (57 < (bt a0 x8_1)) = false := decide_eq_false c15
                      clear c15
                      have H' := Aside0.mk H
                      clear H
                      have p5 : 0 ≤ (x8_1 : Int) := of_decide_eq_true (by first | (with_reducible assumption) | assumption)
                      have q5 : x8_1 < (a0.size : Int) := of_decide_eq_true (by first | (with_reducible assumption) | assumption)
                      have hx5 := bt_at a0 x8_1
                      replace p5 := eq_true p5
                      replace q5 := eq_true q5
                      go_wp2
                      go_roundg k1
                      case measure => have := HK1.out; omega
                      case rel => exact ⟨(wrap64 (x8_1 + 1)), (by first | rfl | (simp; done) | (simp [*]; done)), H', ⟨by have := HK1.out; omega⟩, by repeat (first | exact Drawn0.refl _ | apply Drawn0.step)⟩
          · rw [if_neg c4] at H
            exact absurd H (by simp)
        · rw [if_neg c3] at H
          exact absurd H (by simp)
      · rw [if_neg c2] at H
        have c2b0 : decide (x8_1 < (a0.size : Int)) = false := decide_eq_false c2
        clear c2
        by_cases c16 : (a0.size : Int) ≥ 1
        · rw [if_pos c16] at H
          have c16b0 : decide (1 ≤ (a0.size : Int)) = true := decide_eq_true c16
          have c16b1 : decide (1 ≤ a0.size) = true := decide_eq_true (by omega)
          clear c16
          obtain rfl := Option.some.inj H
          go_wp2
          go_ret
          exact ⟨by first | rfl | (simp; done) | (simp [*]; done), by repeat (first | exact Drawn0.refl _ | apply Drawn0.step)⟩
        · rw [if_neg c16] at H
          have c16b0 : decide (1 ≤ (a0.size : Int)) = false := decide_eq_false c16
          have c16b1 : decide (1 ≤ a0.size) = false := decide_eq_false (by omega)
          clear c16
          obtain rfl := Option.some.inj H
          go_wp2
          go_ret
          exact ⟨by first | rfl | (simp; done) | (simp [*]; done), by repeat (first | exact Drawn0.refl _ | apply Drawn0.step)⟩

/-! ### laws_mediaOk: function 9 -/
def laws_mediaOk.f (k : Nat) (a0 : ByteArray) (a1 : ByteArray) : Option (Bool) := (spec_IsToken.f k a0).bind fun t102 => (if t102 = true then ((spec_IsToken.f k a1).bind fun t103 => (some t103)) else (some false))
theorem laws_mediaOk.mono : ∀ a0 a1 k, LeO (laws_mediaOk.f k a0 a1) (laws_mediaOk.f (k + 1) a0 a1) := by
  intro a0 a1 k
  unfold laws_mediaOk.f
  repeat' first
      | (with_reducible exact spec_IsToken.mono _ _)
      | (with_reducible exact LeO.refl _)
      | (with_reducible exact LeO.none _)
      | (with_reducible refine LeO.ite ?_ ?_)
      | (with_reducible refine LeO.bind ?_ (fun _ => ?_))
      | exact spec_IsToken.mono _ _
      | exact LeO.none _
      | refine LeO.ite ?_ ?_
      | refine LeO.bind ?_ (fun _ => ?_)
set_option maxHeartbeats 8000000 in
set_option maxRecDepth 100000 in
theorem laws_mediaOk.calls (k : Nat) (a0 : ByteArray) (a1 : ByteArray) (r : Bool) (w : World) (h : laws_mediaOk.f k a0 a1 = some r) :
    Calls Try.prog 9 #[.string a0, .string a1] w fun e w' => e = .returned (.bool r) ∧ Drawn0 w w' := by
  have H : ((spec_IsToken.f k a0).bind fun t102 => (if t102 = true then ((spec_IsToken.f k a1).bind fun t103 => (some t103)) else (some false))) = some r := h
  clear h
  replace H := Option.bind_eq_some_iff.mp H
  obtain ⟨t102, A30, H⟩ := H
  replace H : (if t102 = true then ((spec_IsToken.f k a1).bind fun t103 => (some t103)) else (some false)) = some r := H
  have A3 := Aside0.mk A30
  clear A30
  by_cases c4 : t102 = true
  · subst c4
    have H1 : ((spec_IsToken.f k a1).bind fun t103 => (some t103)) = some r := by rw [if_pos rfl] at H; exact H
    clear H
    have H := H1
    clear H1
    replace H := Option.bind_eq_some_iff.mp H
    obtain ⟨t103, A50, H⟩ := H
    replace H : (some t103) = some r := H
    have A5 := Aside0.mk A50
    clear A50
    obtain rfl := Option.some.inj H
    go_enter Try.func9, Try.ntmps9
    go_wp2_with (first | ((with_reducible refine gate_callee (f := 10) rfl ?_); refine goesL_ (some 6) rfl rfl Try.func10 (by kernel_rfl) rfl #[.string a0] rfl (by (try simp only [List.map_toArray, List.map_cons, List.map_nil]); first | done | rfl | (simp only [List.length_drop, List.length_take]; rfl)) ?_; (with_reducible refine (spec_IsToken.calls k a0 true _ A3.out).mono ?_); rintro e w' ⟨rfl, ⟨nd, rfl⟩⟩; refine ⟨_, rfl, ?_⟩) | (go_at_call 10; (with_reducible refine (spec_IsToken.calls k a1 t103 _ A5.out).mono ?_); rintro e w' ⟨rfl, ⟨nd, rfl⟩⟩))
    go_ret
    exact ⟨by first | rfl | (simp; done) | (simp [*]; done), by repeat (first | exact Drawn0.refl _ | apply Drawn0.step)⟩
  · replace c4 := Bool.eq_false_iff.mpr c4
    subst c4
    have H1 : (some false) = some r := by rw [if_neg (show ¬ (false = true) by decide)] at H; exact H
    clear H
    have H := H1
    clear H1
    obtain rfl := Option.some.inj H
    go_enter Try.func9, Try.ntmps9
    go_wp2_with (first | ((with_reducible refine gate_callee (f := 10) rfl ?_); refine goesL_ (some 6) rfl rfl Try.func10 (by kernel_rfl) rfl #[.string a0] rfl (by (try simp only [List.map_toArray, List.map_cons, List.map_nil]); first | done | rfl | (simp only [List.length_drop, List.length_take]; rfl)) ?_; (with_reducible refine (spec_IsToken.calls k a0 false _ A3.out).mono ?_); rintro e w' ⟨rfl, ⟨nd, rfl⟩⟩; refine ⟨_, rfl, ?_⟩))
    go_ret
    exact ⟨by first | rfl | (simp; done) | (simp [*]; done), by repeat (first | exact Drawn0.refl _ | apply Drawn0.step)⟩

/-! ### spec_Join: function 11 -/
def spec_Join.l0 : Nat → List Int → List (List Int) → Int → Int → Option (List Int)
  | 0, _, _, _, _ => none
  | k + 1, x3, x7, x8, x9 => if x9 < x8 then (if 0 ≤ x9 then (if x9 < (x7.length : Int) then (if x3.length + (rd_L2 x7 x9).length < 140737488355328 then (spec_Join.l0 k (x3 ++ (rd_L2 x7 x9)) x7 x8 (wrap64 (x9 + 1))) else (none)) else (none)) else (none)) else (some x3)
def spec_Join.f (k : Nat) (l0 : List (List Int)) : Option (List Int) := spec_Join.l0 k (([] : List Int)) l0 (l0.length : Int) 0
theorem spec_Join.mono_l : ∀ k, (∀ y0 y1 y2 y3, LeO (spec_Join.l0 k y0 y1 y2 y3) (spec_Join.l0 (k + 1) y0 y1 y2 y3))
  | 0 => fun _ _ _ _ r h => by simp [spec_Join.l0] at h
  | k + 1 => by
    have ih0 := spec_Join.mono_l k
    · intro y0 y1 y2 y3
      unfold spec_Join.l0
      repeat' first
      | (with_reducible exact ih0 _ _ _ _)
      | (with_reducible exact LeO.refl _)
      | (with_reducible exact LeO.none _)
      | (with_reducible refine LeO.ite ?_ ?_)
      | (with_reducible refine LeO.bind ?_ (fun _ => ?_))
      | exact ih0 _ _ _ _
      | exact LeO.none _
      | refine LeO.ite ?_ ?_
      | refine LeO.bind ?_ (fun _ => ?_)
theorem spec_Join.mono : ∀ a0 k, LeO (spec_Join.f k a0) (spec_Join.f (k + 1) a0) := by
  intro a0 k
  have ih0 := spec_Join.mono_l k
  unfold spec_Join.f
  repeat' first
      | (with_reducible exact ih0 _ _ _ _)
      | (with_reducible exact LeO.refl _)
      | (with_reducible exact LeO.none _)
      | (with_reducible refine LeO.ite ?_ ?_)
      | (with_reducible refine LeO.bind ?_ (fun _ => ?_))
      | exact ih0 _ _ _ _
      | exact LeO.none _
      | refine LeO.ite ?_ ?_
      | refine LeO.bind ?_ (fun _ => ?_)
set_option maxHeartbeats 8000000 in
set_option maxRecDepth 100000 in
theorem spec_Join.calls (k : Nat) (A0 : Option Addr) (c0 : Nat) (l0 : List (List Int)) (r : List Int) (w : World) (hr0 : Kd.C (Kd.slice 5 (Kd.int .u8)) w A0 l0.length l0) (hc0 : l0.length ≤ c0) (h : spec_Join.f k l0 = some r) :
    Calls Try.prog 11 #[.slice A0 l0.length c0] w fun e w' => ∃ v0_ : Value, e = .returned (v0_) ∧ Kd.R (Kd.int .u8) 5 w' w.heap.size (fun _ => True) v0_ r ∧ Below w.heap.size w w' := by
  have HR0 := Aside0.mk hr0
  have HC0 := Aside0.mk hc0
  clear hr0 hc0
  have HB := Aside0.mk (Below.refl w.heap.size w)
  have H : (spec_Join.l0 k (([] : List Int)) l0 (l0.length : Int) 0) = some r := h
  clear h
  obtain ⟨y104, hy104⟩ : ∃ y_ : List Int, y_ = (([] : List Int)) := ⟨_, rfl⟩
  replace H : (spec_Join.l0 k y104 l0 (l0.length : Int) 0) = some r := by first | (rw [hy104]; with_reducible exact H) | (have H2_ := (Option.bind_some _ _).symm.trans H; rw [hy104]; with_reducible exact H2_) | (have H2_ := (Option.bind_some _ _).symm.trans H; with_reducible exact H2_) | with_reducible exact H | (rw [hy104]; exact H) | exact H
  have Ny104 := Aside0.mk hy104
  clear hy104
  have H' := Aside0.mk H
  clear H
  go_enter Try.func11, Try.ntmps11
  go_wp2_with (first | ((with_reducible refine gate_dst (N := 6) rfl ?_); refine Kd.R_lit (Kd.int .u8) _ 5 ?hg (N := 6) ?hd (xs := ([] : List Int)) (inner := []) (ok := fun _ => True) (okp := fun _ => True) ?hr ?hp (fun _ hk => hk) trivial (Below.refl _ _) (Nat.le_refl _) (by simp) ?_; (case hd => rfl); (case hg => rfl); (case hr => first | (go_simp; done) | (go_simp; rfl)); (case hp => exact (Reps.none _ _)); intro v105 w2 ho3 hb hg_ hnew_; clear hg_ hnew_; (first | rw [← Ny104.out] at ho3 | (simp only [Int.reduceToNat] at ho3; rw [← Ny104.out] at ho3)); have n0_ := Aside0.mk (Kd.R_lower ho3 (below_size (by repeat (first | (with_reducible first | exact HB.out | apply below_alloc | apply pw_below_drewN | apply below_drew1) | exact HB.out)))); have n1_ := Aside0.mk (below_step (by repeat (first | (with_reducible first | exact HB.out | apply below_alloc | apply pw_below_drewN | apply below_drew1) | exact HB.out)) hb); clear HB; have HO106 := n0_; have HB := n1_; clear n0_ n1_; clear hb ho3))
  go_loopg [3, 9] k (fun kq v3 v9 w' => ∃ (x3_1 : List Int) (x9_1 : Int), v9 = .int .i64 x9_1 ∧ Aside0 (spec_Join.l0 kq x3_1 l0 (l0.length : Int) x9_1 = some r) ∧ Aside0 (kq ≤ k) ∧ Aside0 (Kd.R (Kd.int .u8) 5 w' w.heap.size (fun _ => True) v3 x3_1) ∧ Aside0 (Below w.heap.size w w'))
  case atStart => exact ⟨(y104), (0), (by first | rfl | (simp; done) | (simp [*]; done)), H', ⟨Nat.le_refl _⟩, ⟨by (with_reducible repeat (first | apply Kd.R_alloc | apply Kd.R_drewN | apply Kd.R_drew)); exact HO106.out⟩, ⟨by repeat (first | (with_reducible first | exact HB.out | apply below_alloc | apply pw_below_drewN | apply below_drew1) | exact HB.out)⟩⟩
  case round =>
    clear H'
    try clear c1
    try clear p2
    obtain ⟨x3_1, x9_1, rfl, HA, HK1, HO_3, HB⟩ := hrel
    cases gk with
    | zero => exact absurd HA.out (by simp [spec_Join.l0])
    | succ k1 =>
      have H := HA.out
      clear HA
      simp only [spec_Join.l0] at H
      by_cases c4 : x9_1 < (l0.length : Int)
      · rw [if_pos c4] at H
        have c4b0 : decide (x9_1 < (l0.length : Int)) = true := decide_eq_true c4
        clear c4
        by_cases c5 : 0 ≤ x9_1
        · rw [if_pos c5] at H
          have c5b0 : decide (0 ≤ x9_1) = true := decide_eq_true c5
          clear c5
          by_cases c6 : x9_1 < (l0.length : Int)
          · rw [if_pos c6] at H
            have c6b0 : decide (x9_1 < (l0.length : Int)) = true := decide_eq_true c6
            clear c6
            by_cases c7 : x3_1.length + (rd_L2 l0 x9_1).length < 140737488355328
            · rw [if_pos c7] at H
              have LMc7 := Aside0.mk c7
              clear c7
              obtain ⟨y108, hy108⟩ : ∃ y_ : List Int, y_ = (x3_1 ++ (rd_L2 l0 x9_1)) := ⟨_, rfl⟩
              replace H : (spec_Join.l0 k1 y108 l0 (l0.length : Int) (wrap64 (x9_1 + 1))) = some r := by first | (rw [hy108]; with_reducible exact H) | (have H2_ := (Option.bind_some _ _).symm.trans H; rw [hy108]; with_reducible exact H2_) | (have H2_ := (Option.bind_some _ _).symm.trans H; with_reducible exact H2_) | with_reducible exact H | (rw [hy108]; exact H) | exact H
              have Ny108 := Aside0.mk hy108
              clear hy108
              have H' := Aside0.mk H
              clear H
              have p107 : 0 ≤ (x9_1 : Int) := of_decide_eq_true (by first | (with_reducible assumption) | assumption)
              have q107 : x9_1 < (l0.length : Int) := of_decide_eq_true (by first | (with_reducible assumption) | assumption)
              obtain ⟨ad107, A107_0, c107_0, e107, hx107_0, hl107_0, hi107_0⟩ := at_L2 HR0.out x9_1 p107 q107
              cases e107
              replace hx107_0 := (HB.out.cell (World.block_lt_of_cell? w _ hx107_0)).trans hx107_0
              have HR107_0 := Aside0.mk hi107_0
              have HC107_0 := Aside0.mk hl107_0
              clear hi107_0 hl107_0
              replace p107 := eq_true p107
              replace q107 := eq_true q107
              go_wp2_with (first | ((with_reducible refine gate_builtin (b := .append) (xs := #[.tmp 13, .tmp 14]) rfl ?_); at_builtin; refine Kd.R_append_rows (Kd.int .u8) (w0 := w) w.heap.size rfl (.tmp 13) (.tmp 14) 24 5 (.int .u8 0) 1 rfl Try.underlying24 info5 rfl (by decide) (by omega) u3 x3_1 (rd_L2 l0 x9_1) _ _ _ (fun _ => True) (fun _ => False) rfl rfl ?aO ?aR (fun _ _ h => h) (fun _ h => h.elim) ?aF ?aB ?aS ?aL ?_; (case aR => repeat (first | exact (Kd.C_below HR107_0.out HB.out) | (with_reducible refine Kd.C_alloc ?_ _) | (with_reducible refine Kd.C_drewN ?_ _) | (with_reducible refine Kd.C_drew ?_))); (case aB => exact (by repeat (first | (with_reducible first | exact HB.out | apply below_alloc | apply pw_below_drewN | apply below_drew1) | exact HB.out))); (case aF => exact (fun _ _ => trivial)); (case aO => exact (by (with_reducible repeat (first | apply Kd.R_alloc | apply Kd.R_drewN | apply Kd.R_drew)); exact HO_3.out)); (case aS => exact (below_size (by repeat (first | (with_reducible first | exact HB.out | apply below_alloc | apply pw_below_drewN | apply below_drew1) | exact HB.out)))); (case aL => have := LMc7.out; omega); intro v109 w8 ho hb hg hat; rw [← Ny108.out] at ho; have n0_ := Aside0.mk (hb); have n1_ := Aside0.mk (ho); clear HB; clear HO_3; have HB := n0_; have HO110 := n1_; clear n0_ n1_; clear ho hb hg hat))
              go_roundg k1
              case measure => have := HK1.out; omega
              case rel => exact ⟨(y108), (wrap64 (x9_1 + 1)), (by first | rfl | (simp; done) | (simp [*]; done)), H', ⟨by have := HK1.out; omega⟩, ⟨by (with_reducible repeat (first | apply Kd.R_alloc | apply Kd.R_drewN | apply Kd.R_drew)); exact HO110.out⟩, ⟨by repeat (first | (with_reducible first | exact HB.out | apply below_alloc | apply pw_below_drewN | apply below_drew1) | exact HB.out)⟩⟩
            · rw [if_neg c7] at H
              exact absurd H (by simp)
          · rw [if_neg c6] at H
            exact absurd H (by simp)
        · rw [if_neg c5] at H
          exact absurd H (by simp)
      · rw [if_neg c4] at H
        have c4b0 : decide (x9_1 < (l0.length : Int)) = false := decide_eq_false c4
        clear c4
        obtain rfl := Option.some.inj H
        go_wp2
        go_ret
        exact ⟨_, by first | rfl | (simp [errW_none, errW_some] <;> rfl) | (simp [*, errW_none, errW_some] <;> rfl), by (with_reducible repeat (first | apply Kd.R_alloc | apply Kd.R_drewN | apply Kd.R_drew)); exact HO_3.out, by repeat (first | (with_reducible first | exact HB.out | apply below_alloc | apply pw_below_drewN | apply below_drew1) | exact HB.out)⟩

/-! ### laws_zzFits4: function 5 -/
def laws_zzFits4.l0 : Nat → List ByteArray → Int → Int → Option (Bool)
  | 0, _, _, _ => none
  | k + 1, x8, x9, x10 => if x10 < x9 then (if 0 ≤ x10 then (if x10 < (x8.length : Int) then (if ((rdOf ByteArray.empty x8 x10).size : Int) > 2147483647 then (some false) else (laws_zzFits4.l0 k x8 x9 (wrap64 (x10 + 1)))) else (none)) else (none)) else (some true)
def laws_zzFits4.f (k : Nat) (l0 : List ByteArray) : Option (Bool) := if (l0.length : Int) > 2147483647 then (some false) else (laws_zzFits4.l0 k l0 (l0.length : Int) 0)
theorem laws_zzFits4.mono_l : ∀ k, (∀ y0 y1 y2, LeO (laws_zzFits4.l0 k y0 y1 y2) (laws_zzFits4.l0 (k + 1) y0 y1 y2))
  | 0 => fun _ _ _ r h => by simp [laws_zzFits4.l0] at h
  | k + 1 => by
    have ih0 := laws_zzFits4.mono_l k
    · intro y0 y1 y2
      unfold laws_zzFits4.l0
      repeat' first
      | (with_reducible exact ih0 _ _ _)
      | (with_reducible exact LeO.refl _)
      | (with_reducible exact LeO.none _)
      | (with_reducible refine LeO.ite ?_ ?_)
      | (with_reducible refine LeO.bind ?_ (fun _ => ?_))
      | exact ih0 _ _ _
      | exact LeO.none _
      | refine LeO.ite ?_ ?_
      | refine LeO.bind ?_ (fun _ => ?_)
theorem laws_zzFits4.mono : ∀ a0 k, LeO (laws_zzFits4.f k a0) (laws_zzFits4.f (k + 1) a0) := by
  intro a0 k
  have ih0 := laws_zzFits4.mono_l k
  unfold laws_zzFits4.f
  repeat' first
      | (with_reducible exact ih0 _ _ _)
      | (with_reducible exact LeO.refl _)
      | (with_reducible exact LeO.none _)
      | (with_reducible refine LeO.ite ?_ ?_)
      | (with_reducible refine LeO.bind ?_ (fun _ => ?_))
      | exact ih0 _ _ _
      | exact LeO.none _
      | refine LeO.ite ?_ ?_
      | refine LeO.bind ?_ (fun _ => ?_)
set_option maxHeartbeats 8000000 in
set_option maxRecDepth 100000 in
theorem laws_zzFits4.calls (k : Nat) (A0 : Option Addr) (c0 : Nat) (l0 : List ByteArray) (r : Bool) (w : World) (hr0 : Kd.C Kd.string w A0 l0.length l0) (hc0 : l0.length ≤ c0) (h : laws_zzFits4.f k l0 = some r) :
    Calls Try.prog 5 #[.slice A0 l0.length c0] w fun e w' => e = .returned (.bool r) ∧ Drawn0 w w' := by
  have HR0 := Aside0.mk hr0
  have HC0 := Aside0.mk hc0
  clear hr0 hc0
  have H : (if (l0.length : Int) > 2147483647 then (some false) else (laws_zzFits4.l0 k l0 (l0.length : Int) 0)) = some r := h
  clear h
  by_cases c2 : (l0.length : Int) > 2147483647
  · rw [if_pos c2] at H
    have c2b0 : decide (2147483647 < (l0.length : Int)) = true := decide_eq_true c2
    have c2b1 : decide (2147483647 < l0.length) = true := decide_eq_true (by omega)
    clear c2
    obtain rfl := Option.some.inj H
    go_enter Try.func5, Try.ntmps5
    go_wp2
    go_ret
    exact ⟨by first | rfl | (simp; done) | (simp [*]; done), by repeat (first | exact Drawn0.refl _ | apply Drawn0.step)⟩
  · rw [if_neg c2] at H
    have c2b0 : decide (2147483647 < (l0.length : Int)) = false := decide_eq_false c2
    have c2b1 : decide (2147483647 < l0.length) = false := decide_eq_false (by omega)
    clear c2
    have H' := Aside0.mk H
    clear H
    go_enter Try.func5, Try.ntmps5
    go_wp2
    go_loopg [10] k (fun kq v10 w' => ∃ (x10_1 : Int), v10 = .int .i64 x10_1 ∧ Aside0 (laws_zzFits4.l0 kq l0 (l0.length : Int) x10_1 = some r) ∧ Aside0 (kq ≤ k) ∧ Drawn0 w w')
    case atStart => exact ⟨(0), (by first | rfl | (simp; done) | (simp [*]; done)), H', ⟨Nat.le_refl _⟩, by repeat (first | exact Drawn0.refl _ | apply Drawn0.step)⟩
    case round =>
      clear H'
      try clear c2
      try clear c2b0
      try clear c2b1
      try clear p2
      obtain ⟨x10_1, rfl, HA, HK1, ⟨m1, rfl⟩⟩ := hrel
      cases gk with
      | zero => exact absurd HA.out (by simp [laws_zzFits4.l0])
      | succ k1 =>
        have H := HA.out
        clear HA
        simp only [laws_zzFits4.l0] at H
        by_cases c3 : x10_1 < (l0.length : Int)
        · rw [if_pos c3] at H
          have c3b0 : decide (x10_1 < (l0.length : Int)) = true := decide_eq_true c3
          clear c3
          by_cases c4 : 0 ≤ x10_1
          · rw [if_pos c4] at H
            have c4b0 : decide (0 ≤ x10_1) = true := decide_eq_true c4
            clear c4
            by_cases c5 : x10_1 < (l0.length : Int)
            · rw [if_pos c5] at H
              have c5b0 : decide (x10_1 < (l0.length : Int)) = true := decide_eq_true c5
              clear c5
              by_cases c6 : ((rdOf ByteArray.empty l0 x10_1).size : Int) > 2147483647
              · rw [if_pos c6] at H
                have c6b0 : decide (2147483647 < ((rdOf ByteArray.empty l0 x10_1).size : Int)) = true := decide_eq_true c6
                have c6b1 : decide (2147483647 < (rdOf ByteArray.empty l0 x10_1).size) = true := decide_eq_true (by omega)
                clear c6
                obtain rfl := Option.some.inj H
                have p101 : 0 ≤ (x10_1 : Int) := of_decide_eq_true (by first | (with_reducible assumption) | assumption)
                have q101 : x10_1 < (l0.length : Int) := of_decide_eq_true (by first | (with_reducible assumption) | assumption)
                obtain ⟨ad101, e101, hx101_0⟩ := Kd.at_string HR0.out x10_1 p101 q101
                cases e101
                replace p101 := eq_true p101
                replace q101 := eq_true q101
                go_wp2
                go_ret
                exact ⟨by first | rfl | (simp; done) | (simp [*]; done), by repeat (first | exact Drawn0.refl _ | apply Drawn0.step)⟩
              · rw [if_neg c6] at H
                have c6b0 : decide (2147483647 < ((rdOf ByteArray.empty l0 x10_1).size : Int)) = false := decide_eq_false c6
                have c6b1 : decide (2147483647 < (rdOf ByteArray.empty l0 x10_1).size) = false := decide_eq_false (by omega)
                clear c6
                have H' := Aside0.mk H
                clear H
                have p101 : 0 ≤ (x10_1 : Int) := of_decide_eq_true (by first | (with_reducible assumption) | assumption)
                have q101 : x10_1 < (l0.length : Int) := of_decide_eq_true (by first | (with_reducible assumption) | assumption)
                obtain ⟨ad101, e101, hx101_0⟩ := Kd.at_string HR0.out x10_1 p101 q101
                cases e101
                replace p101 := eq_true p101
                replace q101 := eq_true q101
                go_wp2
                go_roundg k1
                case measure => have := HK1.out; omega
                case rel => exact ⟨(wrap64 (x10_1 + 1)), (by first | rfl | (simp; done) | (simp [*]; done)), H', ⟨by have := HK1.out; omega⟩, by repeat (first | exact Drawn0.refl _ | apply Drawn0.step)⟩
            · rw [if_neg c5] at H
              exact absurd H (by simp)
          · rw [if_neg c4] at H
            exact absurd H (by simp)
        · rw [if_neg c3] at H
          have c3b0 : decide (x10_1 < (l0.length : Int)) = false := decide_eq_false c3
          clear c3
          obtain rfl := Option.some.inj H
          go_wp2
          go_ret
          exact ⟨by first | rfl | (simp; done) | (simp [*]; done), by repeat (first | exact Drawn0.refl _ | apply Drawn0.step)⟩


end Go.Proofs.Ytfjgfgaojebghaa.Own
