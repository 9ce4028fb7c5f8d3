/- An argument of FnDeclare, opened. -/
import Derived.Test.YtohfnhfpiipglaaCScT
import Derived.Deep.SlicePairs
import Derived.ChangeSlices
import Derived.ChangeArms
namespace Go.Proofs.Ytohfnhfpiipglaa.Own
open Go.RowKit Go.Proofs.YtohfnhfpiipglaaW.PrintWords Go.Proofs.YtohfnhfpiipglaaW.PrintLast
set_option linter.unusedVariables false
theorem add_one (a : Addr) (i : Nat) {w : World} {v : Value} (h : w.cell? (a.add (i * 2 + 1)) = some v) : w.cell? ⟨(a.add (i * 2)).block, (a.add (i * 2)).off + 1, none⟩ = some v := by
  have e : a.add (i * 2 + 1) = ⟨(a.add (i * 2)).block, (a.add (i * 2)).off + 1, none⟩ := by
    unfold Addr.add
    rw [if_neg (by omega)]
    split
    · have : i * 2 = 0 := by assumption
      simp
    · simp
      omega
  rw [← e]
  exact h
theorem open_dcs {H : Type} {enc : TypeId × Value → H} {w : World} {held : Bool} {fuel : Nat} {A : Option Addr} {len cap : Nat} {x : DataW H × List MemPlace}
    (h : DataW.trod enc Try.prog w 0 (fun _ => true) held fuel 22 [.slice A len cap] = some x) : ∃ L : List Dc, L.length = len ∧ len ≤ cap ∧ DRow w A L ∧ L.length ≤ 9223372036854775807 := by
  have hmx : maxLen = 9223372036854775807 := rfl
  rcases Go.Deep.open_slice_pairs Try.underlying22 Try.underlying29 (by kernel_rfl) rfl rfl (by kernel_rfl) (by kernel_rfl) h with ⟨hcs, _⟩ | ⟨a, len', cap', m, n, V0, V1, D0, D1, P0, P1, hcs, _, hl, hm, hmm, _, hx⟩
  · simp at hcs
    obtain ⟨rfl, rfl, rfl⟩ := hcs
    exact ⟨[], rfl, Nat.le_refl _, fun j hj => (by cases hj), by simp⟩
  · simp at hcs
    obtain ⟨rfl, rfl, rfl⟩ := hcs
    simp at hmm
    subst hmm
    have el : ∀ i, i < len → ∃ y : Dc, w.cell? (a.add (i * 2)) = some (.int .i64 y.kind) ∧ w.cell? (a.add (i * 2 + 1)) = some (.string y.name) := by
      intro i hi
      obtain ⟨h1, h2, h3, h4⟩ := hx i (by omega)
      obtain ⟨s0, e0, _, b0⟩ := DataW.trod_int Try.underlying2 h3
      obtain ⟨s1, e1, _, b1⟩ := DataW.trod_string Try.underlying9 h4
      rw [List.head_eq_of_cons_eq e0] at h1
      rw [List.head_eq_of_cons_eq e1] at h2
      exact ⟨⟨s0, s1⟩, h1, h2⟩
    by_cases h0 : len = 0
    · subst h0
      exact ⟨[], rfl, hl, fun j hj => (by cases hj), by simp⟩
    have : Nonempty Dc := by obtain ⟨y, _⟩ := el 0 (by omega); exact ⟨y⟩
    have : Inhabited Dc := ⟨Classical.choice this⟩
    obtain ⟨F, hF⟩ := Go.Deep.choose_lt el
    refine ⟨(List.range len).map F, by simp, hl, fun j hj => ?_, by simp; omega⟩
    have hjl : j < len := by simpa using hj
    obtain ⟨q1, q2⟩ := hF j hjl
    refine ⟨a, rfl, ?_, ?_⟩
    · simpa using q1
    · simpa using add_one a j q2
end Go.Proofs.Ytohfnhfpiipglaa.Own
