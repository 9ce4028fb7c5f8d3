/- The contract of the function Escaped: whether a byte is escaped by one of the two tables. -/
import Derived.Test.YtcghdanppdmfeaaDoorCTabB
import Derived.Test.YtcghdanppdmfeaaDoorProg
import Derived.Below
import Derived.Deep.Draws
import Derived.OwnWalk
import Derived.Tactics
import Derived.WalkKit
import Derived.KernelRfl
import Derived.Outline
namespace Go.Proofs.YtcghdanppdmfeaaDoor.Own
open Go.RowKit Go.Proofs.YtcghdanppdmfeaaDoorW.PrintWords Go.Proofs.YtcghdanppdmfeaaDoorW.PrintLast
set_option linter.unusedVariables false
def inR (a b i : Nat) : Bool := Nat.ble a i && Nat.ble i b
def isU (i : Nat) : Bool := !(i == 33 || (inR 39 42 i || (inR 45 46 i || (inR 48 57 i || (inR 65 90 i || (i == 95 || (inR 97 122 i || i == 126)))))))
def isD (i : Nat) : Bool := !(i == 33 || (i == 36 || (inR 39 59 i || (i == 61 || (inR 63 90 i || (i == 95 || (inR 97 122 i || i == 126)))))))
def TabU (w : World) : Prop := TabAt 1 isU w
def TabD (w : World) : Prop := TabAt 0 isD w
def impl_Escaped.f (a0 a1 : Int) : Option Bool := if 0 ≤ a0 ∧ a0 < 256 then some (if a1 = 1 then isD a0.toNat else isU a0.toNat) else none
theorem impl_Escaped.calls (a0 a1 : Int) (r : Bool) (w : World) (h : impl_Escaped.f a0 a1 = some r) (HTabD : Aside0 (TabD w)) (HTabU : Aside0 (TabU w)) :
    Calls Tryd.prog 7 #[.int .u8 a0, .int .i64 a1] w fun e w' => e = .returned (.bool r) ∧ Drawn0 w w' := by
  unfold impl_Escaped.f at h
  by_cases hc : 0 ≤ a0 ∧ a0 < 256
  · rw [if_pos hc] at h
    obtain rfl := Option.some.inj h
    clear h
    obtain ⟨h0, h1⟩ := hc
    by_cases ht : a1 = 1
    · have hcell := TabAt.at HTabD.out h0 h1
      rw [if_pos ht]
      subst ht
      go_enter Tryd.func7, Tryd.ntmps7
      go_wp2
      go_ret
      exact ⟨rfl, by repeat (first | exact Drawn0.refl _ | apply Drawn0.step)⟩
    · have hcell := TabAt.at HTabU.out h0 h1
      rw [if_neg ht]
      go_enter Tryd.func7, Tryd.ntmps7
      go_wp2
      go_ret
      exact ⟨rfl, by repeat (first | exact Drawn0.refl _ | apply Drawn0.step)⟩
  · rw [if_neg hc] at h
    cases h
end Go.Proofs.YtcghdanppdmfeaaDoor.Own
