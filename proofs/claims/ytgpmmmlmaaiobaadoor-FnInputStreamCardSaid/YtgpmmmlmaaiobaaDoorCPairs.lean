/- What an argument that is a slice of structs of two cells gives a walk. -/
import Derived.Test.YtgpmmmlmaaiobaaDoorWMore
import Derived.Deep.SlicePairs
import Derived.ChangeSlices
import Derived.ChangeArms
namespace Go.Proofs.YtgpmmmlmaaiobaaDoor.Own
open Go.RowKit Go.Proofs.YtgpmmmlmaaiobaaDoorW.PrintWords Go.Proofs.YtgpmmmlmaaiobaaDoorW.PrintLast
set_option linter.unusedVariables false
theorem open_pairs {α : Type} (d : Kd α) (hd : d.sz = 2) (okx : α → Prop) {H : Type} {enc : TypeId × Value → H} {P : Program} {w : World} {held : Bool} {fuel : Nat} {t e : TypeId} {f0 f1 : Field} {A : Option Addr} {len cap : Nat} {x : DataW H × List MemPlace}
    (ht : P.underlying t = some (.slice e)) (he : P.underlying e = some (.struct #[f0, f1])) (ce : P.cellsOf e = 2) (o0 : f0.offset = 0) (o1 : f1.offset = 1) (c0 : P.cellsOf f0.type = 1) (c1 : P.cellsOf f1.type = 1)
    (each : ∀ (n : Nat) (v0 v1 : Value) (y0 y1 : DataW H × List MemPlace), DataW.trod enc P w 0 (fun _ => true) held n f0.type [v0] = some y0 → DataW.trod enc P w 0 (fun _ => true) held n f1.type [v1] = some y1 → ∃ a : α, okx a ∧ d.K w a [v0, v1])
    (h : DataW.trod enc P w 0 (fun _ => true) held fuel t [.slice A len cap] = some x) :
    ∃ L : List α, L.length = len ∧ len ≤ cap ∧ Kd.C d w A len L ∧ len ≤ maxLen ∧ ∀ a ∈ L, okx a := by
  rcases Go.Deep.open_slice_pairs ht he ce o0 o1 c0 c1 h with ⟨hcs, _⟩ | ⟨a, len', cap', m, n, V0, V1, D0, D1, P0, P1, hcs, _, hl, hm, hmm, _, hx⟩
  · simp at hcs
    obtain ⟨rfl, rfl, rfl⟩ := hcs
    exact ⟨[], rfl, Nat.le_refl _, ⟨rfl, by omega, fun h => by omega⟩, by omega, fun p hp => by cases hp⟩
  · simp at hcs
    obtain ⟨rfl, rfl, rfl⟩ := hcs
    simp at hmm
    subst hmm
    have el : ∀ i, i < len → ∃ y : α, okx y ∧ d.K w y [V0 i, V1 i] ∧ w.cell? (a.add (i * 2)) = some (V0 i) ∧ w.cell? (a.add (i * 2 + 1)) = some (V1 i) := by
      intro i hi
      obtain ⟨h1, h2, h3, h4⟩ := hx i (by omega)
      obtain ⟨y, hy1, hy2⟩ := each n _ _ _ _ h3 h4
      exact ⟨y, hy1, hy2, h1, h2⟩
    by_cases h0 : len = 0
    · subst h0
      exact ⟨[], rfl, hl, ⟨rfl, by omega, fun h => by omega⟩, by omega, fun p hp => by cases hp⟩
    have : Nonempty α := by obtain ⟨y, _⟩ := el 0 (by omega); exact ⟨y⟩
    have : Inhabited α := ⟨Classical.choice this⟩
    obtain ⟨F, hF⟩ := Go.Deep.choose_lt el
    have hmx : maxLen = 9223372036854775807 := rfl
    refine ⟨(List.range len).map F, by simp, hl, ⟨by simp, by omega, fun _ => ⟨a, rfl, fun j p hj => ?_⟩⟩, by omega, fun p hp => ?_⟩
    · have hjl : j < len := by
        have := (List.getElem?_eq_some_iff.1 hj).1
        simpa using this
      have hp : p = F j := by
        rw [List.getElem?_map, List.getElem?_range hjl] at hj
        exact (Option.some.inj hj).symm
      obtain ⟨q1, q2, q3, q4⟩ := hF j hjl
      subst hp
      refine ⟨[V0 j, V1 j], by rw [hd]; rfl, q2, fun i u hu => ?_⟩
      rw [hd]
      match i, hu with
      | 0, hu => simp at hu; subst hu; exact q3
      | 1, hu => simp at hu; subst hu; exact q4
    · obtain ⟨i, hi, rfl⟩ := List.mem_map.1 hp
      exact (hF i (by simpa using hi)).1
end Go.Proofs.YtgpmmmlmaaiobaaDoor.Own
