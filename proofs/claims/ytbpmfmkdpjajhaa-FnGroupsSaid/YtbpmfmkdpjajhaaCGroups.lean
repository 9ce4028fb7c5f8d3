/- FnGroups by hand: the six questions about a token's bits, the array of their answers, and the law's walk. -/
import Derived.Test.YtbpmfmkdpjajhaaProg
import Derived.Test.YtbpmfmkdpjajhaaOwn
import Derived.Outline
namespace Go.Proofs.Ytbpmfmkdpjajhaa.Own
open Go.RowKit Go.Proofs.YtbpmfmkdpjajhaaW.PrintWords Go.Proofs.YtbpmfmkdpjajhaaW.PrintLast
set_option linter.unusedVariables false
set_option linter.unusedSimpArgs false
def ask (m x : Int) : Bool := bits BinOp.and IntKind.u16 x m != 0
theorem ask_IsIdentifier (x : Int) (w : World) : Calls Try.prog 46 #[.int .u16 x] w fun e w' => e = .returned (.bool (ask 4096 x)) ∧ w' = w := by
  go_enter Try.func46, Try.ntmps46
  go_wp2
  go_ret
  exact ⟨rfl, rfl⟩
theorem ask_IsIdentifierName (x : Int) (w : World) : Calls Try.prog 47 #[.int .u16 x] w fun e w' => e = .returned (.bool (ask 6144 x)) ∧ w' = w := by
  go_enter Try.func47, Try.ntmps47
  go_wp2
  go_ret
  exact ⟨rfl, rfl⟩
theorem ask_IsNumeric (x : Int) (w : World) : Calls Try.prog 48 #[.int .u16 x] w fun e w' => e = .returned (.bool (ask 256 x)) ∧ w' = w := by
  go_enter Try.func48, Try.ntmps48
  go_wp2
  go_ret
  exact ⟨rfl, rfl⟩
theorem ask_IsOperator (x : Int) (w : World) : Calls Try.prog 49 #[.int .u16 x] w fun e w' => e = .returned (.bool (ask 1024 x)) ∧ w' = w := by
  go_enter Try.func49, Try.ntmps49
  go_wp2
  go_ret
  exact ⟨rfl, rfl⟩
theorem ask_IsPunctuator (x : Int) (w : World) : Calls Try.prog 50 #[.int .u16 x] w fun e w' => e = .returned (.bool (ask 512 x)) ∧ w' = w := by
  go_enter Try.func50, Try.ntmps50
  go_wp2
  go_ret
  exact ⟨rfl, rfl⟩
theorem ask_IsReservedWord (x : Int) (w : World) : Calls Try.prog 51 #[.int .u16 x] w fun e w' => e = .returned (.bool (ask 2048 x)) ∧ w' = w := by
  go_enter Try.func51, Try.ntmps51
  go_wp2
  go_ret
  exact ⟨rfl, rfl⟩
theorem groups_calls (x : Int) (w : World) : Calls Try.prog 27 #[.int .u16 x] w fun e w' => e = .returned (.agg #[.bool (ask 4096 x), .bool (ask 6144 x), .bool (ask 256 x), .bool (ask 1024 x), .bool (ask 512 x), .bool (ask 2048 x)]) ∧ Below w.heap.size w w' := by
  go_enter Try.func27, Try.ntmps27
  go_wp2_with fail
  refine (ask_IsIdentifier x _).mono ?_
  rintro e w1 ⟨rfl, rfl⟩
  go_wp2_with fail
  refine (ask_IsIdentifierName x _).mono ?_
  rintro e w1 ⟨rfl, rfl⟩
  go_wp2_with fail
  refine (ask_IsNumeric x _).mono ?_
  rintro e w1 ⟨rfl, rfl⟩
  go_wp2_with fail
  refine (ask_IsOperator x _).mono ?_
  rintro e w1 ⟨rfl, rfl⟩
  go_wp2_with fail
  refine (ask_IsPunctuator x _).mono ?_
  rintro e w1 ⟨rfl, rfl⟩
  go_wp2_with fail
  refine (ask_IsReservedWord x _).mono ?_
  rintro e w1 ⟨rfl, rfl⟩
  go_wp2
  (try simp only [Exit.inBlock, Exit.then])
  refine bodyPost_ret (results_cell_row rfl _ _ w.heap.size 35 _ (0, 0) _ rfl (heap_alloc_new w _) Try.underlying35 rfl (by kernel_rfl)) rfl ?_
  exact ⟨rfl, below_alloc (Below.refl _ _) _⟩
theorem asks_of (H : Nat) (hH : H = 0 ∨ H = 1 ∨ H = 2 ∨ H = 6 ∨ H = 8 ∨ H = 16) : ∀ l : Fin 256, ask 4096 (256 * (H : Int) + (l.val : Int)) = (H == 16) ∧ ask 6144 (256 * (H : Int) + (l.val : Int)) = (H == 16 || H == 8) ∧ ask 256 (256 * (H : Int) + (l.val : Int)) = (H == 1) ∧ ask 1024 (256 * (H : Int) + (l.val : Int)) = (H == 6) ∧ ask 512 (256 * (H : Int) + (l.val : Int)) = (H == 2 || H == 6) ∧ ask 2048 (256 * (H : Int) + (l.val : Int)) = (H == 8) := by
  rcases hH with rfl | rfl | rfl | rfl | rfl | rfl <;> decide +kernel
theorem asks (H : Nat) (x : Int) (h0 : 0 ≤ x) (h : x / 256 = (H : Int)) (hH : H = 0 ∨ H = 1 ∨ H = 2 ∨ H = 6 ∨ H = 8 ∨ H = 16 := by decide) : ask 4096 x = (H == 16) ∧ ask 6144 x = (H == 16 || H == 8) ∧ ask 256 x = (H == 1) ∧ ask 1024 x = (H == 6) ∧ ask 512 x = (H == 2 || H == 6) ∧ ask 2048 x = (H == 8) := by
  have := asks_of H hH ⟨(x % 256).toNat, by omega⟩
  have e : 256 * (H : Int) + (((x % 256).toNat : Nat) : Int) = x := by omega
  simp only [e] at this
  exact this
set_option maxHeartbeats 4000000 in
theorem law_calls (x : Int) (w : World) (hx : 0 ≤ x ∧ x ≤ 65535) : Calls Try.prog 8 #[.int .u16 x] w fun e w' => e = .returned (.bool true) ∧ Below w.heap.size w w' := by
  go_enter Try.func8, Try.ntmps8
  go_wp2_with fail
  all_goals first
    | (go_ret; exact ⟨rfl, Below.refl _ _⟩)
    | (obtain ⟨e1, e2, e3, e4, e5, e6⟩ := asks 0 x hx.1 (by assumption); refine (groups_calls x _).mono ?_; rintro e w1 ⟨rfl, hb⟩; rw [e1, e2, e3, e4, e5, e6]; have HB := Aside0.mk hb; clear hb e1 e2 e3 e4 e5 e6; go_wp2; go_ret; exact ⟨rfl, below_alloc HB.out _⟩)
    | (obtain ⟨e1, e2, e3, e4, e5, e6⟩ := asks 1 x hx.1 (by assumption); refine (groups_calls x _).mono ?_; rintro e w1 ⟨rfl, hb⟩; rw [e1, e2, e3, e4, e5, e6]; have HB := Aside0.mk hb; clear hb e1 e2 e3 e4 e5 e6; go_wp2; go_ret; exact ⟨rfl, below_alloc HB.out _⟩)
    | (obtain ⟨e1, e2, e3, e4, e5, e6⟩ := asks 2 x hx.1 (by assumption); refine (groups_calls x _).mono ?_; rintro e w1 ⟨rfl, hb⟩; rw [e1, e2, e3, e4, e5, e6]; have HB := Aside0.mk hb; clear hb e1 e2 e3 e4 e5 e6; go_wp2; go_ret; exact ⟨rfl, below_alloc HB.out _⟩)
    | (obtain ⟨e1, e2, e3, e4, e5, e6⟩ := asks 6 x hx.1 (by assumption); refine (groups_calls x _).mono ?_; rintro e w1 ⟨rfl, hb⟩; rw [e1, e2, e3, e4, e5, e6]; have HB := Aside0.mk hb; clear hb e1 e2 e3 e4 e5 e6; go_wp2; go_ret; exact ⟨rfl, below_alloc HB.out _⟩)
    | (obtain ⟨e1, e2, e3, e4, e5, e6⟩ := asks 8 x hx.1 (by assumption); refine (groups_calls x _).mono ?_; rintro e w1 ⟨rfl, hb⟩; rw [e1, e2, e3, e4, e5, e6]; have HB := Aside0.mk hb; clear hb e1 e2 e3 e4 e5 e6; go_wp2; go_ret; exact ⟨rfl, below_alloc HB.out _⟩)
    | (obtain ⟨e1, e2, e3, e4, e5, e6⟩ := asks 16 x hx.1 (by assumption); refine (groups_calls x _).mono ?_; rintro e w1 ⟨rfl, hb⟩; rw [e1, e2, e3, e4, e5, e6]; have HB := Aside0.mk hb; clear hb e1 e2 e3 e4 e5 e6; go_wp2; go_ret; exact ⟨rfl, below_alloc HB.out _⟩)
theorem law_walk (x : Int) (w : World) (w0 : (Lit.int .u16 x).wf = true) : Calls Try.prog 8 #[.int .u16 x] w fun e w' => e = .returned (.bool true) ∧ Below w.heap.size w w' :=
  law_calls x w (by have h : IntKind.u16.min ≤ x ∧ x ≤ IntKind.u16.max := (by simpa [Lit.wf] using w0); exact h)
end Go.Proofs.Ytbpmfmkdpjajhaa.Own
