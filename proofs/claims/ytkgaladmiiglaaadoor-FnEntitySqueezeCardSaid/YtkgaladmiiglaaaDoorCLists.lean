/- What an argument that is a slice of slices of bytes gives a walk. -/
import Derived.Test.YtkgaladmiiglaaaDoorWMore
import Derived.Deep.Slices
import Derived.ChangeSlices
namespace Go.Proofs.YtkgaladmiiglaaaDoor.Own
open Go.RowKit Go.Proofs.YtkgaladmiiglaaaDoorW.PrintWords Go.Proofs.YtkgaladmiiglaaaDoorW.PrintLast
set_option linter.unusedVariables false
theorem open_LL {H : Type} {enc : TypeId × Value → H} {P : Program} {w : World} {held : Bool} {fuel : Nat} {t t2 e : TypeId} {e' : Nat} {A : Option Addr} {len cap : Nat} {x : DataW H × List MemPlace}
    (ht : P.underlying t = some (.slice t2)) (ht2 : P.underlying t2 = some (.slice e)) (he : P.underlying e = some (.int .u8)) (c2 : P.cellsOf t2 = 1) (ce : P.cellsOf e = 1)
    (h : DataW.trod enc P w 0 (fun _ => true) held fuel t [.slice A len cap] = some x) :
    ∃ L : List (List Int), L.length = len ∧ len ≤ cap ∧ Kd.C (Kd.slice e' (Kd.int .u8)) w A len L ∧ len ≤ maxLen ∧ ∀ p ∈ L, p.length ≤ maxLen ∧ ∀ y ∈ p, (Lit.int .u8 y).wf = true := by
  rcases Go.Deep.open_slice1 ht c2 h with ⟨hcs, _⟩ | ⟨a, len', cap', m, n, V, D, Pl, hcs, _, hl, hm, hmm, _, hx⟩
  · simp at hcs
    obtain ⟨rfl, rfl, rfl⟩ := hcs
    exact ⟨[], rfl, Nat.le_refl _, ⟨rfl, by omega, fun h => by omega⟩, by omega, fun p hp => by cases hp⟩
  · simp at hcs
    obtain ⟨rfl, rfl, rfl⟩ := hcs
    simp at hmm
    subst hmm
    have each : ∀ i, i < len → ∃ l : List Int, ∃ A c, w.cell? (a.add i) = some (.slice A l.length c) ∧ l.length ≤ c ∧ l.length ≤ maxLen ∧ Kd.C (Kd.int .u8) w A l.length l ∧ ∀ y ∈ l, (Lit.int .u8 y).wf = true := by
      intro i hi
      obtain ⟨h1, h2⟩ := hx i (by omega)
      rcases Go.ChangeShapes.open_ints ht2 he ce h2 with ⟨hv, _⟩ | ⟨a', l', c', zs, hv, _, k1, k2, k3, _, k4, k5⟩
      · simp at hv
        exact ⟨[], none, 0, by rw [h1, hv]; rfl, Nat.le_refl _, by simp, ⟨rfl, by simp, fun h => by simp at h⟩, fun y hy => by cases hy⟩
      · simp at hv k3
        have hlen : (zs.take l').length = l' := by rw [List.length_take]; omega
        refine ⟨zs.take l', some a', c', by rw [h1, hv, hlen], by omega, by omega, ?_, fun y hy => k5 y (List.mem_of_mem_take hy)⟩
        refine Kd.C_of_reads (d := (0 : Int)) (h1 := fun _ => rfl) ⟨rfl, by rw [hlen]; have : maxLen = 9223372036854775807 := rfl; omega, fun _ => ⟨a', rfl, fun j hj => ?_⟩⟩
        rw [hlen] at hj
        rw [k4 j (by omega), List.getD_eq_getElem?_getD, List.getD_eq_getElem?_getD, List.getElem?_take, if_pos hj]
    obtain ⟨F, hF⟩ := Go.Deep.choose_lt each
    refine ⟨(List.range len).map F, by simp, hl, ⟨by simp, by have : maxLen = 9223372036854775807 := rfl; omega, fun _ => ⟨a, rfl, fun j p hj => ?_⟩⟩, by omega, fun p hp => ?_⟩
    · have hjl : j < len := by
        have := (List.getElem?_eq_some_iff.1 hj).1
        simpa using this
      have hp : p = F j := by
        rw [List.getElem?_map, List.getElem?_range hjl] at hj
        exact (Option.some.inj hj).symm
      obtain ⟨A, c, q1, q2, _, q3, _⟩ := hF j hjl
      subst hp
      refine ⟨[.slice A (F j).length c], rfl, ⟨A, c, rfl, q2, q3⟩, fun i u hu => ?_⟩
      have hi : i = 0 := by
        have := (List.getElem?_eq_some_iff.1 hu).1
        simp at this
        exact this
      subst hi
      simp at hu
      subst hu
      simpa [Kd.slice] using q1
    · obtain ⟨i, hi, rfl⟩ := List.mem_map.1 hp
      obtain ⟨A, c, _, _, q3, _, q5⟩ := hF i (by simpa using hi)
      exact ⟨q3, q5⟩
end Go.Proofs.YtkgaladmiiglaaaDoor.Own
