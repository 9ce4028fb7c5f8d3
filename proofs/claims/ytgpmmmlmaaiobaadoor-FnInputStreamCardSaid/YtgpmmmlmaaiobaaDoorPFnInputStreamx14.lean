-- Laid by a program of this session, out of the translation's print.
import Derived.Test.YtgpmmmlmaaiobaaDoorPFnInputStreamx0
import Derived.Test.YtgpmmmlmaaiobaaDoorPFnInputStreamx3
namespace Go.Proofs.YtgpmmmlmaaiobaaDoor.PFnInputStream
open Go.Proofs.YtgpmmmlmaaiobaaDoor.Own
open Go.RowKit Go.Proofs.YtgpmmmlmaaiobaaDoorW.PrintWords Go.Proofs.YtgpmmmlmaaiobaaDoorW.PrintLast Go.Proofs.YtgpmmmlmaaiobaaDoorW.PrintMore
attribute [local go_sem] max2_int min2_int max_two min_two max_three min_three max_four min_four   -- for this text's walks alone
set_option linter.unusedVariables false
set_option linter.unusedSimpArgs false

/-! ### spec_Next: function 28 -/
def spec_Next.j0 : Nat → List Int → Int → Bool → Int → Int → Int → Int → Int → Int → ByteArray → Option (Int × Int × Int × Int × ByteArray × Bool)
  | 0, _, _, _, _, _, _, _, _, _, _ => none
  | k + 1, x0, x10, x11, x113000, x113001, x114000, x114001, x117000, x117001, x117002 => if x114000 = 0 then (some (x113000, x10, x117000, x117001, x117002, x11)) else (if x114000 = 1 then (if x114001 ≥ 0 then (some (x113000, wrap64 (x113000 + x114001), x117000, x117001, x117002, decide (x114001 ≤ (wrap64 (x113001 - x113000))))) else (some (x113000, wrap64 (x113000 + x114001), x117000, x117001, x117002, false))) else (if x114000 = 2 then (if 0 ≤ x113000 then (if x113000 ≤ x113001 then (if x113001 ≤ (x0.length : Int) then (some (x113001, x113001, x117000, x117001, strOfNums ((x0.take (x113001 : Int).toNat).drop (x113000 : Int).toNat), true)) else (none)) else (none)) else (none)) else (if x114000 = 3 then (some (x113001, x113001, x117000, x117001, x117002, true)) else (if x114000 = 4 then (if x11 = true then (if x10 < (x0.length : Int) then (if 0 ≤ x10 then (some (x113000, x113001, wrap64 (rd x0 x10), x117001, x117002, true)) else (none)) else (some (x113000, x113001, x117000, x117001, x117002, true))) else (some (x113000, x113001, x117000, x117001, x117002, false))) else (if x114000 = 5 then (if x11 = true then (if x10 = (x0.length : Int) then (some (x113000, x113001, 1, x117001, x117002, x11)) else (some (x113000, x113001, x117000, x117001, x117002, x11))) else (some (x113000, x113001, x117000, x117001, x117002, x11))) else (if x114000 = 6 then (if 0 ≤ x113000 then (if x113000 ≤ x113001 then (if x113001 ≤ (x0.length : Int) then (some (x113000, x113001, x117000, x117001, strOfNums ((x0.take (x113001 : Int).toNat).drop (x113000 : Int).toNat), true)) else (none)) else (none)) else (none)) else (if x114000 = 7 then (some (x113000, x113001, wrap64 (x113001 - x113000), x117001, x117002, true)) else (if x114000 = 8 then (some (x113000, x113001, x113001, x117001, x117002, true)) else (if x114000 = 9 then (if x11 = true then ((spec_RuneAt.f k x0 x10).bind fun bt120 => (some (x113000, x113001, bt120.1, bt120.2, x117002, decide (bt120.1 > 0)))) else (some (x113000, x113001, x117000, x117001, x117002, false))) else (if x114000 = 10 then ((spec_RuneAt.f k x0 x113001).bind fun bt122 => (some (x113000, wrap64 (x113001 + bt122.2), x117000, x117001, x117002, decide (bt122.1 > 0)))) else (if x114000 = 11 then (some (0, 0, x117000, x117001, x117002, true)) else (some (x113000, x113001, x117000, x117001, x117002, true)))))))))))))
def spec_Next.f (k : Nat) (l0 : List Int) (a1_0 : Int) (a1_1 : Int) (a2_0 : Int) (a2_1 : Int) : Option (Int × Int × Int × Int × ByteArray × Bool) := if a2_1 ≥ (wrap64 (-(l0.length : Int))) then (if a2_1 ≤ (l0.length : Int) then (if (wrap64 (a1_1 + a2_1)) ≥ a1_0 then (spec_Next.j0 k l0 (wrap64 (a1_1 + a2_1)) (decide ((wrap64 (a1_1 + a2_1)) ≤ (l0.length : Int))) a1_0 a1_1 a2_0 a2_1 0 0 (⟨#[]⟩ : ByteArray)) else (spec_Next.j0 k l0 (wrap64 (a1_1 + a2_1)) false a1_0 a1_1 a2_0 a2_1 0 0 (⟨#[]⟩ : ByteArray))) else (spec_Next.j0 k l0 (wrap64 (a1_1 + a2_1)) false a1_0 a1_1 a2_0 a2_1 0 0 (⟨#[]⟩ : ByteArray))) else (spec_Next.j0 k l0 (wrap64 (a1_1 + a2_1)) false a1_0 a1_1 a2_0 a2_1 0 0 (⟨#[]⟩ : ByteArray))
theorem spec_Next.mono_l : ∀ k, (∀ y0 y1 y2 y3 y4 y5 y6 y7 y8 y9, LeO (spec_Next.j0 k y0 y1 y2 y3 y4 y5 y6 y7 y8 y9) (spec_Next.j0 (k + 1) y0 y1 y2 y3 y4 y5 y6 y7 y8 y9))
  | 0 => fun _ _ _ _ _ _ _ _ _ _ r h => by simp [spec_Next.j0] at h
  | k + 1 => by
    have ih0 := spec_Next.mono_l k
    ·
     intro y0 y1 y2 y3 y4 y5 y6 y7 y8 y9
     unfold spec_Next.j0
     repeat' first
     | (with_reducible exact ih0 _ _ _ _ _ _ _ _ _ _)
     | (with_reducible exact spec_RuneAt.mono _ _ _)
     | (with_reducible exact LeO.refl _)
     | (with_reducible exact LeO.none _)
     | (with_reducible refine LeO.ite ?_ ?_)
     | (with_reducible refine LeO.bind ?_ (fun _ => ?_))
     | exact ih0 _ _ _ _ _ _ _ _ _ _
     | exact spec_RuneAt.mono _ _ _
     | exact LeO.none _
     | refine LeO.ite ?_ ?_
     | refine LeO.bind ?_ (fun _ => ?_)
theorem spec_Next.mono : ∀ a0 a1 a2 a3 a4 k, LeO (spec_Next.f k a0 a1 a2 a3 a4) (spec_Next.f (k + 1) a0 a1 a2 a3 a4) := by
  intro a0 a1 a2 a3 a4 k
  have ih0 := spec_Next.mono_l k
  unfold spec_Next.f
  repeat' first
     | (with_reducible exact ih0 _ _ _ _ _ _ _ _ _ _)
     | (with_reducible exact spec_RuneAt.mono _ _ _)
     | (with_reducible exact LeO.refl _)
     | (with_reducible exact LeO.none _)
     | (with_reducible refine LeO.ite ?_ ?_)
     | (with_reducible refine LeO.bind ?_ (fun _ => ?_))
     | exact ih0 _ _ _ _ _ _ _ _ _ _
     | exact spec_RuneAt.mono _ _ _
     | exact LeO.none _
     | refine LeO.ite ?_ ?_
     | refine LeO.bind ?_ (fun _ => ?_)
end Go.Proofs.YtgpmmmlmaaiobaaDoor.PFnInputStream
