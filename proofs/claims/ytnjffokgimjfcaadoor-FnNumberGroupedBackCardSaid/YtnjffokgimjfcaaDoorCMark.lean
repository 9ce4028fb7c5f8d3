/- The contract of the function markOk of the laws: both marks are different, and neither digits nor signs. -/
import Derived.Test.YtnjffokgimjfcaaDoorCown
import Derived.Test.YtnjffokgimjfcaaDoorOwn
namespace Go.Proofs.YtnjffokgimjfcaaDoor.Own
open Go.RowKit Go.Proofs.YtnjffokgimjfcaaDoorW.PrintWords Go.Proofs.YtnjffokgimjfcaaDoorW.PrintLast
set_option linter.unusedVariables false
set_option linter.unusedSimpArgs false
def badC (c : Int) : Bool := decide (c ≤ 32) || decide (c ≥ 127) || (decide (c ≥ 48) && decide (c ≤ 57)) || decide (c = 43) || decide (c = 45)
theorem badC_cases (c : Int) : (badC c = true ∧ (c ≤ 32 ∨ (¬ c ≤ 32 ∧ c ≥ 127) ∨ (¬ c ≤ 32 ∧ ¬ c ≥ 127 ∧ c ≥ 48 ∧ c ≤ 57) ∨ (¬ c ≤ 32 ∧ ¬ c ≥ 127 ∧ ¬ c ≥ 48 ∧ (c == 43) = true) ∨ (¬ c ≤ 32 ∧ ¬ c ≥ 127 ∧ ¬ c ≥ 48 ∧ (c == 43) = false ∧ (c == 45) = true))) ∨
    (badC c = false ∧ ((¬ c ≤ 32 ∧ ¬ c ≥ 127 ∧ c ≥ 48 ∧ ¬ c ≤ 57 ∧ (c == 43) = false ∧ (c == 45) = false) ∨ (¬ c ≤ 32 ∧ ¬ c ≥ 127 ∧ ¬ c ≥ 48 ∧ (c == 43) = false ∧ (c == 45) = false))) := by
  unfold badC
  by_cases h : c ≤ 32 ∨ c ≥ 127 ∨ (c ≥ 48 ∧ c ≤ 57) ∨ c = 43 ∨ c = 45
  · left
    refine ⟨by simp; omega, ?_⟩
    simp only [beq_iff_eq, beq_eq_false_iff_ne]
    omega
  · right
    refine ⟨by simp; omega, ?_⟩
    simp only [beq_iff_eq, beq_eq_false_iff_ne]
    omega
def laws_markOk.f (a0 a1 : Int) : Option Bool := some (if badC a0 = true then false else if badC a1 = true then false else decide (a0 ≠ a1))
set_option maxHeartbeats 1000000 in
theorem laws_markOk.calls (a0 a1 : Int) (r : Bool) (w : World) (h : laws_markOk.f a0 a1 = some r) :
    Calls Tryd.prog 7 #[.int .u8 a0, .int .u8 a1] w fun e w' => e = .returned (.bool r) ∧ Drawn0 w w' := by
  have hr := Option.some.inj h
  have HR := Aside0.mk hr
  clear h hr
  have HX0 := Own.arr_run (P := Tryd.prog) 29 Tryd.underlying29 (fun _ => by kernel_rfl) (fun _ => by kernel_rfl) #[.int .u8 a0, .int .u8 a1] .i64 0 0 rfl (by omega) (.int .u8 a0) rfl
  have HX1 := Own.arr_run (P := Tryd.prog) 29 Tryd.underlying29 (fun _ => by kernel_rfl) (fun _ => by kernel_rfl) #[.int .u8 a0, .int .u8 a1] .i64 1 1 rfl (by omega) (.int .u8 a1) rfl
  go_enter Tryd.func7, Tryd.ntmps7
  go_wp2
  go_loopw [10] (fun i wr => ∃ k : Nat, i = .int .i64 k ∧ k ≤ 2 ∧ wr = w ∧ Aside0 (1 ≤ k → badC a0 = false) ∧ Aside0 (2 ≤ k → badC a1 = false)) (fun i _ => 2 - (intOf i).toNat)
  case atStart => exact ⟨0, rfl, by omega, rfl, ⟨fun h => by omega⟩, ⟨fun h => by omega⟩⟩
  case round =>
    obtain ⟨k, rfl, hk, rfl, H0, H1⟩ := hrel
    have hk3 : k = 0 ∨ k = 1 ∨ k = 2 := by omega
    rcases hk3 with rfl | rfl | rfl
    · rcases badC_cases a0 with ⟨hb, hc⟩ | ⟨hb, hc⟩
      · have HB := Aside0.mk hb
        clear hb
        rcases hc with hc | hc | hc | hc | hc
        all_goals (first | (obtain ⟨h1, h2, h3, h4, h5⟩ := hc) | (obtain ⟨h1, h2, h3, h4⟩ := hc) | (obtain ⟨h1, h2⟩ := hc) | skip)
        all_goals (obtain rfl : false = r := by have := HR.out; rw [if_pos HB.out] at this; exact this)
        all_goals (go_wp2; go_ret; exact ⟨rfl, by repeat (first | exact Drawn0.refl _ | apply Drawn0.step)⟩)
      · have HB := Aside0.mk hb
        clear hb
        rcases hc with ⟨h1, h2, h3, h4, h5, h6⟩ | ⟨h1, h2, h3, h4, h5⟩
        all_goals (go_wp2; go_roundw)
        all_goals first
          | exact ⟨1, rfl, by omega, by trivial, ⟨fun _ => HB.out⟩, ⟨fun h => by omega⟩⟩
          | (simp [intOf]; done)
          | decide
    · rcases badC_cases a1 with ⟨hb, hc⟩ | ⟨hb, hc⟩
      · have HB := Aside0.mk hb
        clear hb
        rcases hc with hc | hc | hc | hc | hc
        all_goals (first | (obtain ⟨h1, h2, h3, h4, h5⟩ := hc) | (obtain ⟨h1, h2, h3, h4⟩ := hc) | (obtain ⟨h1, h2⟩ := hc) | skip)
        all_goals (obtain rfl : false = r := by have := HR.out; rw [H0.out (by omega), if_neg (by simp), if_pos HB.out] at this; exact this)
        all_goals (go_wp2; go_ret; exact ⟨rfl, by repeat (first | exact Drawn0.refl _ | apply Drawn0.step)⟩)
      · have HB := Aside0.mk hb
        clear hb
        rcases hc with ⟨h1, h2, h3, h4, h5, h6⟩ | ⟨h1, h2, h3, h4, h5⟩
        all_goals (go_wp2; go_roundw)
        all_goals first
          | exact ⟨2, rfl, by omega, by trivial, ⟨fun _ => H0.out (by omega)⟩, ⟨fun _ => HB.out⟩⟩
          | (simp [intOf]; done)
          | decide
    · have hr2 : r = decide (a0 ≠ a1) := by
        have := HR.out
        rw [H0.out (by omega), H1.out (by omega), if_neg (by simp), if_neg (by simp)] at this
        exact this.symm
      have HR2 := Aside0.mk hr2
      clear hr2
      go_wp2
      go_ret
      exact ⟨by rw [HR2.out]; first | rfl | (congr 2; simp; done) | (by_cases hq : a0 = a1 <;> simp [hq]), by repeat (first | exact Drawn0.refl _ | apply Drawn0.step)⟩
end Go.Proofs.YtnjffokgimjfcaaDoor.Own
