/- The contracts of the functions that look a byte up in a table of truth values (white space; ends of lines). -/
import Derived.Test.YthejmpldfndbfaaDoorCTabB
import Derived.Test.YthejmpldfndbfaaDoorProg
import Derived.Below
import Derived.Deep.Draws
import Derived.OwnWalk
import Derived.Tactics
import Derived.WalkKit
import Derived.KernelRfl
import Derived.Outline
namespace Go.Proofs.YthejmpldfndbfaaDoor.Own
open Go.RowKit Go.Proofs.YthejmpldfndbfaaDoorW.PrintWords Go.Proofs.YthejmpldfndbfaaDoorW.PrintLast
set_option linter.unusedVariables false
def isW (i : Nat) : Bool := i == 32 || i == 9 || i == 10 || i == 12 || i == 13
def isN (i : Nat) : Bool := i == 10 || i == 13
def TabW (w : World) : Prop := TabAt 4 isW w
def tdparse_IsWhitespace.f (a0 : Int) : Option Bool := if 0 ≤ a0 ∧ a0 < 256 then some (isW a0.toNat) else none
theorem tdparse_IsWhitespace.calls (a0 : Int) (r : Bool) (w : World) (h : tdparse_IsWhitespace.f a0 = some r) (HTabW : Aside0 (TabW w)) :
    Calls Tryd.prog 23 #[.int .u8 a0] w fun e w' => e = .returned (.bool r) ∧ Drawn0 w w' := by
  unfold tdparse_IsWhitespace.f at h
  by_cases hc : 0 ≤ a0 ∧ a0 < 256
  · rw [if_pos hc] at h
    obtain rfl := Option.some.inj h
    clear h
    obtain ⟨h0, h1⟩ := hc
    have hcell := TabAt.at HTabW.out h0 h1
    go_enter Tryd.func23, Tryd.ntmps23
    go_wp2
    go_ret
    exact ⟨rfl, by repeat (first | exact Drawn0.refl _ | apply Drawn0.step)⟩
  · rw [if_neg hc] at h
    cases h
def tdparse_IsNewline.f (a0 : Int) : Option Bool := if 0 ≤ a0 ∧ a0 < 256 then some (isN a0.toNat) else none
end Go.Proofs.YthejmpldfndbfaaDoor.Own
