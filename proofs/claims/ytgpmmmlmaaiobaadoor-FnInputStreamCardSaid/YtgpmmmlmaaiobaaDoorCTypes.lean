/- The values of struct types: their kinds. -/
import Derived.Test.YtgpmmmlmaaiobaaDoorProg
import Derived.Below
import Derived.Deep.Draws
import Derived.Deep.AppendLies
import Derived.Maps.AppendAt
import Derived.OwnWalk
import Derived.Laws.BytesArg
import Derived.Laws.MakeOwn
import Derived.Laws.OwnMore
import Derived.Deep.OwnRows
import Derived.Tactics
import Derived.Lib.ConvBytes
import Derived.Laws.Slices
import Derived.WalkKit
import Derived.KernelRfl
import Derived.RowKit3
import Derived.Deep.LoopGhost
import Derived.Deep.QuietTactic
import Derived.BigQuiet
import Derived.WideLaws
import Derived.Deep.DeepCutAuto
import Derived.Deep.CutBlock
import Derived.Deep.RegionHeld3
import Derived.Laws.Rows
import Derived.Lib.AppendStr
import Derived.ArgAppend
import Derived.Laws.IdiomCopy
import Derived.OrdersHeld
import Derived.Laws.BitsLemmas
import Derived.RowKit
import Derived.Test.YtgpmmmlmaaiobaaDoorWWords
import Derived.Test.YtgpmmmlmaaiobaaDoorWLast
import Derived.Test.YtgpmmmlmaaiobaaDoorWTab
import Derived.Test.YtgpmmmlmaaiobaaDoorWFour
import Derived.Test.YtgpmmmlmaaiobaaDoorWQPut
import Derived.Test.YtgpmmmlmaaiobaaDoorWApart
import Derived.Test.YtgpmmmlmaaiobaaDoorWArr
import Derived.Test.YtgpmmmlmaaiobaaDoorWZeros
import Derived.Test.YtgpmmmlmaaiobaaDoorWFoot
import Derived.Test.YtgpmmmlmaaiobaaDoorWKept
import Derived.Test.YtgpmmmlmaaiobaaDoorWShare
import Derived.Test.YtgpmmmlmaaiobaaDoorWN
import Derived.Test.YtgpmmmlmaaiobaaDoorWFootNe
import Derived.Test.YtgpmmmlmaaiobaaDoorWAt
import Derived.Test.YtgpmmmlmaaiobaaDoorWEqStruct
import Derived.Test.YtgpmmmlmaaiobaaDoorWRepsOne
import Derived.Test.YtgpmmmlmaaiobaaDoorWInv
import Derived.Test.YtgpmmmlmaaiobaaDoorWInvWords
import Derived.Test.YtgpmmmlmaaiobaaDoorWGuard
import Derived.Test.YtgpmmmlmaaiobaaDoorWNEv
import Derived.Test.YtgpmmmlmaaiobaaDoorWMore
namespace Go.Proofs.YtgpmmmlmaaiobaaDoor.Own
open Go.RowKit Go.Proofs.YtgpmmmlmaaiobaaDoorW.PrintWords Go.Proofs.YtgpmmmlmaaiobaaDoorW.PrintLast Go.Proofs.YtgpmmmlmaaiobaaDoorW.PrintMore
set_option linter.unusedVariables false
set_option linter.unusedSimpArgs false
/-! #### struct type 101 -/
structure S101 where
  f0 : (List Int)
  f1 : Int
  f2 : Bool
def z101 : S101 := ⟨([] : List Int), (0 : Int), false⟩
def k101 : Kd S101 := Kd.iso (Kd.pair (Kd.slice 5 (Kd.int .u8)) (Kd.pair (Kd.int .i64) Kd.bool)) (fun x : S101 => (x.f0, x.f1, x.f2))
theorem k101_heap : Kd.Heap k101 := Kd.heap_iso _ (Kd.heap_pair (Kd.heap_slice 5 (Kd.heap_int .u8)) (Kd.heap_pair (Kd.heap_int .i64) Kd.heap_bool))
theorem k101_open {w : World} {x : S101} {cs : List Value} (h : k101.K w x cs) : ∃ A0 c0, cs = [.slice A0 x.f0.length c0, .int .i64 x.f1, .bool x.f2] ∧ x.f0.length ≤ c0 ∧ (Kd.int .u8).C w A0 x.f0.length x.f0 := by
  obtain ⟨_, _, rfl, ⟨A0, c0, rfl, l0, g0⟩, ⟨_, _, rfl, rfl, rfl⟩⟩ := h
  exact ⟨A0, c0, rfl, l0, g0⟩
theorem k101_openM {w : World} {base : Nat} {ok : Nat → Prop} {x : S101} {cs : List Value} (h : k101.M w base ok x cs) : ∃ v0, cs = [v0, .int .i64 x.f1, .bool x.f2] ∧ (Kd.int .u8).R 5 w base ok v0 x.f0 := by
  obtain ⟨_, _, rfl, ⟨v0, rfl, g0⟩, ⟨_, _, rfl, rfl, rfl⟩⟩ := h
  exact ⟨v0, rfl, g0⟩
theorem k101_mk (w : World) (x : S101) {A0 : Option Addr} {c0 : Nat} (l0 : x.f0.length ≤ c0) (g0 : (Kd.int .u8).C w A0 x.f0.length x.f0) : k101.K w x [.slice A0 x.f0.length c0, .int .i64 x.f1, .bool x.f2] := ⟨[.slice A0 x.f0.length c0], [.int .i64 x.f1, .bool x.f2], rfl, ⟨A0, c0, rfl, l0, g0⟩, ⟨[.int .i64 x.f1], [.bool x.f2], rfl, rfl, rfl⟩⟩
theorem k101_mkM (w : World) (base : Nat) (ok : Nat → Prop) (x : S101) {v0 : Value} (g0 : (Kd.int .u8).R 5 w base ok v0 x.f0) : k101.M w base ok x [v0, .int .i64 x.f1, .bool x.f2] := ⟨[v0], [.int .i64 x.f1, .bool x.f2], rfl, ⟨v0, rfl, g0⟩, ⟨[.int .i64 x.f1], [.bool x.f2], rfl, rfl, rfl⟩⟩
theorem k101_openF {W : World} {ok : Nat → Prop} {x : S101} {cs : List Value} (h : Kd.FK k101 W ok x cs) : ∃ A0 c0, cs = [.slice A0 x.f0.length c0, .int .i64 x.f1, .bool x.f2] ∧ x.f0.length ≤ c0 ∧ Kd.F (Kd.int .u8) W ok A0 x.f0.length x.f0 := by
  obtain ⟨A0, c0, rfl, l0, _⟩ := k101_open (Kd.FK_now h)
  exact ⟨A0, c0, rfl, l0, (fun W' hW => by obtain ⟨A0_, c0_, he, l0_, g0_⟩ := k101_open (h W' hW); injection (Option.some.inj (show some (Value.slice A0 x.f0.length c0) = some (Value.slice A0_ x.f0.length c0_) from congrArg (fun l => l[0]?) he)) with ha_ _ _; rw [ha_]; exact g0_)⟩
theorem k101_mkF (W : World) (ok : Nat → Prop) (x : S101) {A0 : Option Addr} {c0 : Nat} (l0 : x.f0.length ≤ c0) (g0 : Kd.F (Kd.int .u8) W ok A0 x.f0.length x.f0) : Kd.FK k101 W ok x [.slice A0 x.f0.length c0, .int .i64 x.f1, .bool x.f2] := fun W2 hW => k101_mk W2 x l0 (g0 W2 hW)
def rd_T101 (xs : List S101) (i : Int) : S101 := xs.getD i.toNat z101
theorem at_T101 {w : World} {A : Option Addr} {n : Nat} {xs : List S101} (h : Kd.C k101 w A n xs) (i : Int) (h0 : 0 ≤ i) (h1 : i < n) : ∃ ad A0 c0, A = some ad ∧ w.cell? (ad.add (i.toNat * 3)) = some (.slice A0 (rd_T101 xs i).f0.length c0) ∧ w.cell? ⟨(ad.add (i.toNat * 3)).block, (ad.add (i.toNat * 3)).off + 1, none⟩ = some (.int .i64 (rd_T101 xs i).f1) ∧ w.cell? ⟨(ad.add (i.toNat * 3)).block, (ad.add (i.toNat * 3)).off + 2, none⟩ = some (.bool (rd_T101 xs i).f2) ∧ (rd_T101 xs i).f0.length ≤ c0 ∧ (Kd.int .u8).C w A0 (rd_T101 xs i).f0.length (rd_T101 xs i).f0 := by
  obtain ⟨ad, c, e, _, hK, hc0⟩ := Kd.C_get h z101 i h0 h1
  have hc : ∀ j u, c[j]? = some u → w.cell? (ad.add (i.toNat * 3 + j)) = some u := hc0
  obtain ⟨A0, c0, rfl, l0, g0⟩ := k101_open hK
  exact ⟨ad, A0, c0, e, hc 0 _ rfl, by rw [← add_field _ _ 1 (by omega)]; exact hc 1 _ rfl, by rw [← add_field _ _ 2 (by omega)]; exact hc 2 _ rfl, l0, g0⟩
/-! #### struct type 44 -/
structure S44 where
  f0 : Int
  f1 : Int
def z44 : S44 := ⟨(0 : Int), (0 : Int)⟩
def k44 : Kd S44 := Kd.iso (Kd.pair (Kd.int .i64) (Kd.int .i64)) (fun x : S44 => (x.f0, x.f1))
theorem k44_heap : Kd.Heap k44 := Kd.heap_iso _ (Kd.heap_pair (Kd.heap_int .i64) (Kd.heap_int .i64))
theorem k44_open {w : World} {x : S44} {cs : List Value} (h : k44.K w x cs) : cs = [.int .i64 x.f0, .int .i64 x.f1] := by
  obtain ⟨_, _, rfl, rfl, rfl⟩ := h
  exact rfl
theorem k44_openM {w : World} {base : Nat} {ok : Nat → Prop} {x : S44} {cs : List Value} (h : k44.M w base ok x cs) : cs = [.int .i64 x.f0, .int .i64 x.f1] := by
  obtain ⟨_, _, rfl, rfl, rfl⟩ := h
  exact rfl
theorem k44_mk (w : World) (x : S44)  : k44.K w x [.int .i64 x.f0, .int .i64 x.f1] := ⟨[.int .i64 x.f0], [.int .i64 x.f1], rfl, rfl, rfl⟩
theorem k44_mkM (w : World) (base : Nat) (ok : Nat → Prop) (x : S44)  : k44.M w base ok x [.int .i64 x.f0, .int .i64 x.f1] := ⟨[.int .i64 x.f0], [.int .i64 x.f1], rfl, rfl, rfl⟩
theorem k44_mkF (W : World) (ok : Nat → Prop) (x : S44) : Kd.FK k44 W ok x [.int .i64 x.f0, .int .i64 x.f1] := fun W2 _ => k44_mk W2 x
def rd_T44 (xs : List S44) (i : Int) : S44 := xs.getD i.toNat z44
theorem at_T44 {w : World} {A : Option Addr} {n : Nat} {xs : List S44} (h : Kd.C k44 w A n xs) (i : Int) (h0 : 0 ≤ i) (h1 : i < n) : ∃ ad , A = some ad ∧ w.cell? (ad.add (i.toNat * 2)) = some (.int .i64 (rd_T44 xs i).f0) ∧ w.cell? ⟨(ad.add (i.toNat * 2)).block, (ad.add (i.toNat * 2)).off + 1, none⟩ = some (.int .i64 (rd_T44 xs i).f1) := by
  obtain ⟨ad, c, e, _, hK, hc0⟩ := Kd.C_get h z44 i h0 h1
  have hc : ∀ j u, c[j]? = some u → w.cell? (ad.add (i.toNat * 2 + j)) = some u := hc0
  obtain rfl := k44_open hK
  exact ⟨ad, e, hc 0 _ rfl, by rw [← add_field _ _ 1 (by omega)]; exact hc 1 _ rfl⟩
/-! #### struct type 46 -/
structure S46 where
  f0 : Int
  f1 : Int
  f2 : ByteArray
def z46 : S46 := ⟨(0 : Int), (0 : Int), (⟨#[]⟩ : ByteArray)⟩
def k46 : Kd S46 := Kd.iso (Kd.pair (Kd.int .i64) (Kd.pair (Kd.int .i64) Kd.string)) (fun x : S46 => (x.f0, x.f1, x.f2))
theorem k46_heap : Kd.Heap k46 := Kd.heap_iso _ (Kd.heap_pair (Kd.heap_int .i64) (Kd.heap_pair (Kd.heap_int .i64) Kd.heap_string))
theorem k46_open {w : World} {x : S46} {cs : List Value} (h : k46.K w x cs) : cs = [.int .i64 x.f0, .int .i64 x.f1, .string x.f2] := by
  obtain ⟨_, _, rfl, rfl, ⟨_, _, rfl, rfl, rfl⟩⟩ := h
  exact rfl
theorem k46_openM {w : World} {base : Nat} {ok : Nat → Prop} {x : S46} {cs : List Value} (h : k46.M w base ok x cs) : cs = [.int .i64 x.f0, .int .i64 x.f1, .string x.f2] := by
  obtain ⟨_, _, rfl, rfl, ⟨_, _, rfl, rfl, rfl⟩⟩ := h
  exact rfl
theorem k46_mk (w : World) (x : S46)  : k46.K w x [.int .i64 x.f0, .int .i64 x.f1, .string x.f2] := ⟨[.int .i64 x.f0], [.int .i64 x.f1, .string x.f2], rfl, rfl, ⟨[.int .i64 x.f1], [.string x.f2], rfl, rfl, rfl⟩⟩
theorem k46_mkM (w : World) (base : Nat) (ok : Nat → Prop) (x : S46)  : k46.M w base ok x [.int .i64 x.f0, .int .i64 x.f1, .string x.f2] := ⟨[.int .i64 x.f0], [.int .i64 x.f1, .string x.f2], rfl, rfl, ⟨[.int .i64 x.f1], [.string x.f2], rfl, rfl, rfl⟩⟩
theorem k46_mkF (W : World) (ok : Nat → Prop) (x : S46) : Kd.FK k46 W ok x [.int .i64 x.f0, .int .i64 x.f1, .string x.f2] := fun W2 _ => k46_mk W2 x
def rd_T46 (xs : List S46) (i : Int) : S46 := xs.getD i.toNat z46
theorem at_T46 {w : World} {A : Option Addr} {n : Nat} {xs : List S46} (h : Kd.C k46 w A n xs) (i : Int) (h0 : 0 ≤ i) (h1 : i < n) : ∃ ad , A = some ad ∧ w.cell? (ad.add (i.toNat * 3)) = some (.int .i64 (rd_T46 xs i).f0) ∧ w.cell? ⟨(ad.add (i.toNat * 3)).block, (ad.add (i.toNat * 3)).off + 1, none⟩ = some (.int .i64 (rd_T46 xs i).f1) ∧ w.cell? ⟨(ad.add (i.toNat * 3)).block, (ad.add (i.toNat * 3)).off + 2, none⟩ = some (.string (rd_T46 xs i).f2) := by
  obtain ⟨ad, c, e, _, hK, hc0⟩ := Kd.C_get h z46 i h0 h1
  have hc : ∀ j u, c[j]? = some u → w.cell? (ad.add (i.toNat * 3 + j)) = some u := hc0
  obtain rfl := k46_open hK
  exact ⟨ad, e, hc 0 _ rfl, by rw [← add_field _ _ 1 (by omega)]; exact hc 1 _ rfl, by rw [← add_field _ _ 2 (by omega)]; exact hc 2 _ rfl⟩
end Go.Proofs.YtgpmmmlmaaiobaaDoor.Own
