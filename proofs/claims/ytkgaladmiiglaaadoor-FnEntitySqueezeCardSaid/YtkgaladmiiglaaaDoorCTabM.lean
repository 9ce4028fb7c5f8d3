/- Several listed variables in one world, laid by hand: tables, and pointers to errors. -/
import Derived.Test.YtkgaladmiiglaaaDoorCTabB
import Derived.WideWitness
namespace Go.Proofs.YtkgaladmiiglaaaDoor.Own
open Go.RowKit Go.Proofs.YtkgaladmiiglaaaDoorW.PrintWords Go.Proofs.YtkgaladmiiglaaaDoorW.PrintLast
set_option linter.unusedVariables false
def Fits (P : Program) (w : World) (b off : Nat) : Prop := (∃ c t, w.heap[b]? = some (.cells c t (0, 0))) ∧ ∀ u v, w.cell? ⟨b, off, none⟩ = some (.iface u v) → Value.okWide P w .any 0 u v
/-- One listed variable that reads as it should, and the blocks in which it lies. -/
def EntV (P : Program) (w : World) (x : String × DataW Unit) (B : List Nat) : Prop :=
  ∃ g t cs fuel p, P.globalNamed x.1 = some g ∧ (P.globals[g]?).map (·.type) = some t ∧ w.var? P x.1 = some cs ∧ DataW.trod (fun _ => ()) P w 0 (fun _ => true) false fuel t cs.toList = some (x.2, p) ∧
    (MemPlace.row ⟨g, 0, none⟩ cs.size ++ p).Nodup ∧ ∀ m ∈ MemPlace.row ⟨g, 0, none⟩ cs.size ++ p, ∃ b off, m = .cell b off ∧ b ∈ B ∧ Fits P w b off
def Many (P : Program) (w : World) (l : List (String × DataW Unit)) (B : List Nat) : Prop := ∃ ps, DataW.LaidVars P w l ps ∧ ps.Nodup ∧ ∀ m ∈ ps, ∃ b off, m = .cell b off ∧ b ∈ B ∧ Fits P w b off
section
variable {P : Program} {w : World} {x : String × DataW Unit} {l : List (String × DataW Unit)} {B B' : List Nat}
theorem Many.nil : Many P w [] [] := ⟨[], rfl, List.nodup_nil, fun m hm => by cases hm⟩
theorem Many.cons (h : EntV P w x B) (k : Many P w l B') (hd : ∀ b ∈ B, b ∉ B') : Many P w (x :: l) (B ++ B') := by
  obtain ⟨g, t, cs, fuel, p, h1, h2, h3, h4, h5, h6⟩ := h
  obtain ⟨q, k1, k2, k3⟩ := k
  refine ⟨MemPlace.row ⟨g, 0, none⟩ cs.size ++ p ++ q, ⟨g, t, cs, fuel, p, q, h1, h2, h3, h4, k1, rfl⟩, List.nodup_append.2 ⟨h5, k2, fun a ha b hb hab => ?_⟩, fun m hm => ?_⟩
  · subst hab
    obtain ⟨b1, o1, rfl, hb1, _⟩ := h6 a ha
    obtain ⟨b2, o2, e, hb2, _⟩ := k3 _ hb
    injection e with e1 e2
    subst e1
    exact hd _ hb1 hb2
  · rcases List.mem_append.1 hm with hm | hm
    · obtain ⟨b, o, e, hb, hf⟩ := h6 m hm
      exact ⟨b, o, e, List.mem_append_left _ hb, hf⟩
    · obtain ⟨b, o, e, hb, hf⟩ := k3 m hm
      exact ⟨b, o, e, List.mem_append_right _ hb, hf⟩
theorem Many.met (h : Many P w l B) : laidMet P l w := by
  obtain ⟨ps, h1, h2, h3⟩ := h
  refine ⟨ps, h1, h2, fun b off hm => ?_⟩
  obtain ⟨b', o', e, _, hf⟩ := h3 _ hm
  injection e with e1 e2
  subst e1 e2
  exact hf
theorem EntV.plain {g : Nat} (h : PlainAt P w g x) : EntV P w x [g] := by
  obtain ⟨t, cs, fuel, ty, h1, h2, h3, h4, h5⟩ := h
  refine ⟨g, t, cs, fuel, [], h1, h2, PlainAt.var h1 h3, h4, by simpa using rows_nodup' g _, fun m hm => ?_⟩
  rw [List.append_nil] at hm
  unfold MemPlace.row at hm
  obtain ⟨i, _, hi⟩ := List.mem_map.1 hm
  exact ⟨g, 0 + i, hi.symm, List.mem_singleton_self _, PlainAt.fits h3 h5 _⟩
theorem EntV.ptr {g a t fuel ty ty2 u : Nat} {v : Value} {s : ByteArray} (h1 : P.globalNamed x.1 = some g) (h2 : (P.globals[g]?).map (·.type) = some t) (h3 : w.heap[g]? = some (.cells #[.iface u v] ty (0, 0)))
    (h4 : DataW.trod (fun _ => ()) P w 0 (fun _ => true) false fuel t [.iface u v] = some (x.2, [.cell a 0])) (h5 : w.heap[a]? = some (.cells #[.string s] ty2 (0, 0))) (hne : g ≠ a) (hok : Value.okWideB P w u v = true) : EntV P w x [g, a] := by
  have e : MemPlace.row ⟨g, 0, none⟩ (#[Value.iface u v]).size ++ [.cell a 0] = [.cell g 0, .cell a 0] := rfl
  refine ⟨g, t, #[.iface u v], fuel, [.cell a 0], h1, h2, PlainAt.var h1 h3, h4, ?_, fun m hm => ?_⟩
  · rw [e]
    simp [hne]
  · rw [e] at hm
    rcases List.mem_cons.1 hm with rfl | hm
    · refine ⟨g, 0, rfl, by simp, ⟨_, _, h3⟩, fun u' v' hc => ?_⟩
      have : w.cell? ⟨g, 0, none⟩ = some (.iface u v) := by simp only [World.cell?, h3]; rfl
      rw [this] at hc
      obtain ⟨rfl, rfl⟩ := Value.iface.inj (Option.some.inj hc)
      exact Value.okWide_of_okWideB hok
    · obtain rfl := List.mem_singleton.1 hm
      refine ⟨a, 0, rfl, by simp, ⟨_, _, h5⟩, fun u' v' hc => ?_⟩
      have : w.cell? ⟨a, 0, none⟩ = some (.string s) := by simp only [World.cell?, h5]; rfl
      rw [this] at hc
      cases hc
end
/-! Tables of whole numbers, for a witness alone. -/
def cellsI (k : IntKind) (l : List Int) : Array Value := (l.map fun n => Value.int k n).toArray
def layI (k : IntKind) (l : List Int) : Obj → Obj
  | .cells _ t frozen => .cells (cellsI k l) t frozen
  | o => o
theorem cellsI_plain (k : IntKind) (l : List Int) (i : Nat) (u : TypeId) (v : Value) : (cellsI k l)[i]? ≠ some (.iface u v) := by
  intro h
  unfold cellsI at h
  rw [← Array.getElem?_toList, List.toList_toArray, List.getElem?_map, Option.map_eq_some_iff] at h
  obtain ⟨b, _, hb⟩ := h
  cases hb
end Go.Proofs.YtkgaladmiiglaaaDoor.Own
