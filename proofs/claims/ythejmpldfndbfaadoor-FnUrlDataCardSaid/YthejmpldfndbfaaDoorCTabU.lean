/- The contract of the function Escaped: whether a byte is escaped by one of the two tables. -/
import Derived.Test.YthejmpldfndbfaaDoorCTabB
import Derived.Test.YthejmpldfndbfaaDoorProg
import Derived.Below
import Derived.Deep.Draws
import Derived.OwnWalk
import Derived.Tactics
import Derived.WalkKit
import Derived.KernelRfl
import Derived.Outline
namespace Go.Proofs.YthejmpldfndbfaaDoor.Own
open Go.RowKit Go.Proofs.YthejmpldfndbfaaDoorW.PrintWords Go.Proofs.YthejmpldfndbfaaDoorW.PrintLast
set_option linter.unusedVariables false
def inR (a b i : Nat) : Bool := Nat.ble a i && Nat.ble i b
def isU (i : Nat) : Bool := !(i == 33 || (inR 39 42 i || (inR 45 46 i || (inR 48 57 i || (inR 65 90 i || (i == 95 || (inR 97 122 i || i == 126)))))))
def isD (i : Nat) : Bool := !(i == 33 || (i == 36 || (inR 39 59 i || (i == 61 || (inR 63 90 i || (i == 95 || (inR 97 122 i || i == 126)))))))
def TabU (w : World) : Prop := TabAt 1 isU w
def TabD (w : World) : Prop := TabAt 0 isD w
def impl_Escaped.f (a0 a1 : Int) : Option Bool := if 0 ≤ a0 ∧ a0 < 256 then some (if a1 = 1 then isD a0.toNat else isU a0.toNat) else none
end Go.Proofs.YthejmpldfndbfaaDoor.Own
