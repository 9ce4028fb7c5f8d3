/- The contracts of math.IsNaN, math.Abs, math.IsInf, math.Pow10 for numbers that are told. -/
import Derived.Test.YtipfnfhglhflgaaDoorClen
import Derived.Test.YtipfnfhglhflgaaDoorOwn
import Derived.Test.YtipfnfhglhflgaaDoorCFlTab
import Derived.Laws.Externs
import Derived.Laws.BitsAllLaws
import Derived.Outline
namespace Go.Proofs.YtipfnfhglhflgaaDoor.Own
open Go.RowKit Go.Proofs.YtipfnfhglhflgaaDoorW.PrintWords Go.Proofs.YtipfnfhglhflgaaDoorW.PrintLast
set_option linter.unusedVariables false
set_option linter.unusedSimpArgs false
theorem run_bits (x : Nat) (W : World) : (callFunc 29 #[.float .f64 x]).run Tryd.prog W = .ok (.value (.int .u64 (x : Int))) W := by
  rw [run_callFunc_extern (e := Extern.MathFloatBits.float64bits) Tryd.func29 (by kernel_rfl) (by kernel_rfl) (by kernel_rfl) (by kernel_rfl)]
  rfl
theorem run_frombits (x : Int) (W : World) : (callFunc 27 #[.int .u64 x]).run Tryd.prog W = .ok (.value (.float .f64 x.toNat)) W := by
  rw [run_callFunc_extern (e := Extern.MathFloatBits.float64frombits) Tryd.func27 (by kernel_rfl) (by kernel_rfl) (by kernel_rfl) (by kernel_rfl)]
  rfl
theorem intbits_andNot {x : Nat} (h : x < 18446744073709551616) : Op.intBits .andNot .u64 (x : Int) 9223372036854775808 = pure (.int .u64 ((x % 9223372036854775808 : Nat) : Int)) := by
  have h1 := u64_andNot_nat x 9223372036854775808 h (by decide)
  have h2 : x &&& (18446744073709551615 - 9223372036854775808) = x % 9223372036854775808 := by
    have := Nat.and_two_pow_sub_one_eq_mod x 63
    simpa using this
  rw [h2] at h1
  rw [← h1]
  rfl
theorem isnan_calls (x : Nat) (w : World) (h : (FloatKind.f64.format.order x x != some .eq) = false) : Calls Tryd.prog 25 #[.float .f64 x] w fun e w' => e = .returned (.bool false) ∧ Drawn0 w w' := by
  go_enter Tryd.func25, Tryd.ntmps25
  go_wp2
  go_ret
  exact ⟨rfl, Drawn0.refl _⟩
theorem abs_calls (x : Nat) (w : World) (h : x < 18446744073709551616) : Calls Tryd.prog 28 #[.float .f64 x] w fun e w' => e = .returned (.float .f64 (x % 9223372036854775808)) ∧ Drawn0 w w' := by
  have h1 := fun W => run_bits x W
  have h2 := fun W => run_frombits ((x % 9223372036854775808 : Nat) : Int) W
  simp only [Int.toNat_natCast] at h2
  have h3 := intbits_andNot h
  generalize x % 9223372036854775808 = y at h2 h3 ⊢
  clear h
  go_enter Tryd.func28, Tryd.ntmps28
  go_wp2
  go_ret
  exact ⟨rfl, Drawn0.refl _⟩
theorem isinf_calls (x : Nat) (w : World) (hx : x < 18446744073709551616) (h : (FloatKind.f64.format.order (x % 9223372036854775808) 9218868437227405311 == some .gt) = false) : Calls Tryd.prog 24 #[.float .f64 x, .int .i64 0] w fun e w' => e = .returned (.bool false) ∧ Drawn0 w w' := by
  have HA := Aside0.mk (fun W => abs_calls x W hx)
  clear hx
  generalize x % 9223372036854775808 = y at h HA
  go_enter Tryd.func24, Tryd.ntmps24
  go_wp2_with (go_at_call 28; (with_reducible refine (HA.out _).mono ?_); rintro e_ w_ ⟨rfl, hd_⟩; have HDD := Aside0.mk hd_; clear hd_)
  go_ret
  exact ⟨rfl, HDD.out⟩
def p32 (k : Nat) : Nat := fl false (10 ^ (32 * k)) 0
def TabR (w : World) : Prop := FlAt 4 32 p10 w
theorem TabR.below {w w' : World} (h : TabR w) (hb : Below w.heap.size w w') : TabR w' := FlAt.below h hb
def TabT (w : World) : Prop := FlAt 3 10 p32 w
theorem TabT.below {w w' : World} (h : TabT w) (hb : Below w.heap.size w w') : TabT w' := FlAt.below h hb
/-- A power of ten below 32, by its table. -/
theorem pow10_calls (k : Nat) (r : Nat) (w : World) (hk : k < 32) (hr : TabR w) (ht : TabT w) (h : Ieee.double.mul (p32 0) (p10 k) = some r) : Calls Tryd.prog 22 #[.int .i64 (k : Int)] w fun e w' => e = .returned (.float .f64 r) ∧ Drawn0 w w' := by
  have h1 := ht 0 (by omega)
  have h2 := hr k hk
  have h3 := fun W : World => run_float_arith (P := Tryd.prog) W .mul 26 .f64 _ _ _ h
  have b1 : decide ((0 : Int) ≤ (k : Int)) = true := decide_eq_true (by omega)
  have b2 : decide ((k : Int) ≤ 308) = true := decide_eq_true (by omega)
  have e1 : (k : Int) / 32 = 0 := by omega
  have e2 : (k : Int) % 32 = (k : Int) := by omega
  have e3 : IntKind.u64.wrap (k : Int) = (k : Int) := by simp only [IntKind.wrap_u64]; omega
  have e4 : Int.tdiv (k : Int) 32 = 0 := by rw [Int.tdiv_eq_ediv_of_nonneg (by omega)]; exact e1
  have e5 : Int.tmod (k : Int) 32 = (k : Int) := by rw [Int.tmod_eq_emod_of_nonneg (by omega)]; exact e2
  have n1 : k / 32 = 0 := by omega
  have n2 : k % 32 = k := by omega
  clear hr ht h
  generalize p32 0 = x at h1 h3
  generalize p10 k = y at h2 h3
  go_enter Tryd.func22, Tryd.ntmps22
  go_wp2
  go_region
  go_wp2
  go_ret
  exact ⟨rfl, ⟨1, rfl⟩⟩
end Go.Proofs.YtipfnfhglhflgaaDoor.Own
