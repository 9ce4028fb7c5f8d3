/- The contracts of the functions that look a byte up in a table of truth values (white space; ends of lines). -/
import Derived.Test.YtkgaladmiiglaaaDoorCTabB
import Derived.Test.YtkgaladmiiglaaaDoorProg
import Derived.Below
import Derived.Deep.Draws
import Derived.OwnWalk
import Derived.Tactics
import Derived.WalkKit
import Derived.KernelRfl
import Derived.Outline
namespace Go.Proofs.YtkgaladmiiglaaaDoor.Own
open Go.RowKit Go.Proofs.YtkgaladmiiglaaaDoorW.PrintWords Go.Proofs.YtkgaladmiiglaaaDoorW.PrintLast
set_option linter.unusedVariables false
def isW (i : Nat) : Bool := i == 32 || i == 9 || i == 10 || i == 12 || i == 13
def isN (i : Nat) : Bool := i == 10 || i == 13
def TabW (w : World) : Prop := TabAt 0 isW w
def TabN (w : World) : Prop := TabAt 1 isN w
def tdparse_IsWhitespace.f (a0 : Int) : Option Bool := if 0 ≤ a0 ∧ a0 < 256 then some (isW a0.toNat) else none
theorem tdparse_IsWhitespace.calls (a0 : Int) (r : Bool) (w : World) (h : tdparse_IsWhitespace.f a0 = some r) (HTabW : Aside0 (TabW w)) :
    Calls Tryd.prog 26 #[.int .u8 a0] w fun e w' => e = .returned (.bool r) ∧ Drawn0 w w' := by
  unfold tdparse_IsWhitespace.f at h
  by_cases hc : 0 ≤ a0 ∧ a0 < 256
  · rw [if_pos hc] at h
    obtain rfl := Option.some.inj h
    clear h
    obtain ⟨h0, h1⟩ := hc
    have hcell := TabAt.at HTabW.out h0 h1
    go_enter Tryd.func26, Tryd.ntmps26
    go_wp2
    go_ret
    exact ⟨rfl, by repeat (first | exact Drawn0.refl _ | apply Drawn0.step)⟩
  · rw [if_neg hc] at h
    cases h
def tdparse_IsNewline.f (a0 : Int) : Option Bool := if 0 ≤ a0 ∧ a0 < 256 then some (isN a0.toNat) else none
theorem tdparse_IsNewline.calls (a0 : Int) (r : Bool) (w : World) (h : tdparse_IsNewline.f a0 = some r) (HTabN : Aside0 (TabN w)) :
    Calls Tryd.prog 27 #[.int .u8 a0] w fun e w' => e = .returned (.bool r) ∧ Drawn0 w w' := by
  unfold tdparse_IsNewline.f at h
  by_cases hc : 0 ≤ a0 ∧ a0 < 256
  · rw [if_pos hc] at h
    obtain rfl := Option.some.inj h
    clear h
    obtain ⟨h0, h1⟩ := hc
    have hcell := TabAt.at HTabN.out h0 h1
    go_enter Tryd.func27, Tryd.ntmps27
    go_wp2
    go_ret
    exact ⟨rfl, by repeat (first | exact Drawn0.refl _ | apply Drawn0.step)⟩
  · rw [if_neg hc] at h
    cases h
end Go.Proofs.YtkgaladmiiglaaaDoor.Own
