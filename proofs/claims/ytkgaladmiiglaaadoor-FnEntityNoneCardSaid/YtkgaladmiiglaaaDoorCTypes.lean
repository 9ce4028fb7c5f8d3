/- The values of struct types: their kinds. -/
import Derived.Test.YtkgaladmiiglaaaDoorProg
import Derived.Below
import Derived.Deep.Draws
import Derived.Deep.AppendLies
import Derived.Maps.AppendAt
import Derived.OwnWalk
import Derived.Laws.BytesArg
import Derived.Laws.MakeOwn
import Derived.Laws.OwnMore
import Derived.Deep.OwnRows
import Derived.Tactics
import Derived.Lib.ConvBytes
import Derived.Laws.Slices
import Derived.WalkKit
import Derived.KernelRfl
import Derived.RowKit3
import Derived.Deep.LoopGhost
import Derived.Deep.QuietTactic
import Derived.BigQuiet
import Derived.WideLaws
import Derived.Deep.DeepCutAuto
import Derived.Deep.CutBlock
import Derived.Deep.RegionHeld3
import Derived.Laws.Rows
import Derived.Lib.AppendStr
import Derived.ArgAppend
import Derived.Laws.IdiomCopy
import Derived.OrdersHeld
import Derived.Laws.BitsLemmas
import Derived.RowKit
import Derived.Test.YtkgaladmiiglaaaDoorWWords
import Derived.Test.YtkgaladmiiglaaaDoorWLast
import Derived.Test.YtkgaladmiiglaaaDoorWTab
import Derived.Test.YtkgaladmiiglaaaDoorWFour
import Derived.Test.YtkgaladmiiglaaaDoorWQPut
import Derived.Test.YtkgaladmiiglaaaDoorWApart
import Derived.Test.YtkgaladmiiglaaaDoorWArr
import Derived.Test.YtkgaladmiiglaaaDoorWZeros
import Derived.Test.YtkgaladmiiglaaaDoorWFoot
import Derived.Test.YtkgaladmiiglaaaDoorWKept
import Derived.Test.YtkgaladmiiglaaaDoorWShare
import Derived.Test.YtkgaladmiiglaaaDoorWN
import Derived.Test.YtkgaladmiiglaaaDoorWFootNe
import Derived.Test.YtkgaladmiiglaaaDoorWAt
import Derived.Test.YtkgaladmiiglaaaDoorWEqStruct
import Derived.Test.YtkgaladmiiglaaaDoorWRepsOne
import Derived.Test.YtkgaladmiiglaaaDoorWInv
import Derived.Test.YtkgaladmiiglaaaDoorWInvWords
import Derived.Test.YtkgaladmiiglaaaDoorWGuard
import Derived.Test.YtkgaladmiiglaaaDoorWNEv
import Derived.Test.YtkgaladmiiglaaaDoorWMore
namespace Go.Proofs.YtkgaladmiiglaaaDoor.Own
open Go.RowKit Go.Proofs.YtkgaladmiiglaaaDoorW.PrintWords Go.Proofs.YtkgaladmiiglaaaDoorW.PrintLast Go.Proofs.YtkgaladmiiglaaaDoorW.PrintMore
set_option linter.unusedVariables false
set_option linter.unusedSimpArgs false
/-! #### struct type 36 -/
structure S36 where
  f0 : ByteArray
  f1 : ByteArray
def z36 : S36 := ⟨(⟨#[]⟩ : ByteArray), (⟨#[]⟩ : ByteArray)⟩
def k36 : Kd S36 := Kd.iso (Kd.pair Kd.string Kd.string) (fun x : S36 => (x.f0, x.f1))
theorem k36_open {w : World} {x : S36} {cs : List Value} (h : k36.K w x cs) : cs = [.string x.f0, .string x.f1] := by
  obtain ⟨_, _, rfl, rfl, rfl⟩ := h
  exact rfl
theorem k36_openM {w : World} {base : Nat} {ok : Nat → Prop} {x : S36} {cs : List Value} (h : k36.M w base ok x cs) : cs = [.string x.f0, .string x.f1] := by
  obtain ⟨_, _, rfl, rfl, rfl⟩ := h
  exact rfl
theorem k36_mk (w : World) (x : S36)  : k36.K w x [.string x.f0, .string x.f1] := ⟨[.string x.f0], [.string x.f1], rfl, rfl, rfl⟩
theorem k36_mkM (w : World) (base : Nat) (ok : Nat → Prop) (x : S36)  : k36.M w base ok x [.string x.f0, .string x.f1] := ⟨[.string x.f0], [.string x.f1], rfl, rfl, rfl⟩
theorem k36_mkF (W : World) (ok : Nat → Prop) (x : S36) : Kd.FK k36 W ok x [.string x.f0, .string x.f1] := fun W2 _ => k36_mk W2 x
def rd_T36 (xs : List S36) (i : Int) : S36 := xs.getD i.toNat z36
theorem at_T36 {w : World} {A : Option Addr} {n : Nat} {xs : List S36} (h : Kd.C k36 w A n xs) (i : Int) (h0 : 0 ≤ i) (h1 : i < n) : ∃ ad , A = some ad ∧ w.cell? (ad.add (i.toNat * 2)) = some (.string (rd_T36 xs i).f0) ∧ w.cell? ⟨(ad.add (i.toNat * 2)).block, (ad.add (i.toNat * 2)).off + 1, none⟩ = some (.string (rd_T36 xs i).f1) := by
  obtain ⟨ad, c, e, _, hK, hc0⟩ := Kd.C_get h z36 i h0 h1
  have hc : ∀ j u, c[j]? = some u → w.cell? (ad.add (i.toNat * 2 + j)) = some u := hc0
  obtain rfl := k36_open hK
  exact ⟨ad, e, hc 0 _ rfl, by rw [← add_field _ _ 1 (by omega)]; exact hc 1 _ rfl⟩
end Go.Proofs.YtkgaladmiiglaaaDoor.Own
