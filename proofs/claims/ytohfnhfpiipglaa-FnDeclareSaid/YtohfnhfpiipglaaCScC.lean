/- What the index of a scope answers for a name. -/
import Derived.Test.YtohfnhfpiipglaaCScB
namespace Go.Proofs.Ytohfnhfpiipglaa.Own
open Go.RowKit Go.Proofs.YtohfnhfpiipglaaW.PrintWords Go.Proofs.YtohfnhfpiipglaaW.PrintLast
set_option linter.unusedVariables false
set_option linter.unusedSimpArgs false
theorem namesD_fst : ∀ (D : List Ent) (k : Nat), (namesD D k).map Prod.fst = D.map Ent.name
  | [], _ => rfl
  | e :: t, k => by simp [namesD, namesD_fst t (k + 1)]
theorem namesU_fst : ∀ (D : List Ent) (k : Nat), (namesU D k).map Prod.fst = D.map Ent.name
  | [], _ => rfl
  | e :: t, k => by simp [namesU, namesU_fst t (k + 1)]
theorem namesD_len : ∀ (D : List Ent) (k : Nat), (namesD D k).length = D.length
  | [], _ => rfl
  | e :: t, k => by simp [namesD, namesD_len t (k + 1)]
theorem namesU_len : ∀ (D : List Ent) (k : Nat), (namesU D k).length = D.length
  | [], _ => rfl
  | e :: t, k => by simp [namesU, namesU_len t (k + 1)]
theorem namesD_mem : ∀ {D : List Ent} {k : Nat} {x : ByteArray × Int}, x ∈ namesD D k → ∃ j, ∃ hj : j < D.length, D[j].name = x.1 ∧ x.2 = ((k + j : Nat) : Int)
  | [], _, _, h => by simp [namesD] at h
  | e :: t, k, x, h => by
    rw [namesD, List.mem_cons] at h
    rcases h with rfl | h
    · exact ⟨0, by simp, rfl, by simp⟩
    · obtain ⟨j, hj, h1, h2⟩ := namesD_mem h
      exact ⟨j + 1, by simp; omega, by simpa using h1, by rw [h2]; omega⟩
theorem namesU_mem : ∀ {D : List Ent} {k : Nat} {x : ByteArray × Int}, x ∈ namesU D k → ∃ j, ∃ hj : j < D.length, D[j].name = x.1 ∧ x.2 = -((k + j : Nat) : Int) - 1
  | [], _, _, h => by simp [namesU] at h
  | e :: t, k, x, h => by
    rw [namesU, List.mem_cons] at h
    rcases h with rfl | h
    · exact ⟨0, by simp, rfl, by simp⟩
    · obtain ⟨j, hj, h1, h2⟩ := namesU_mem h
      exact ⟨j + 1, by simp; omega, by simpa using h1, by rw [h2]; omega⟩
theorem zeroInts (W : World) : (zeroValue 56).run Try.prog W = .ok (.slice none 0 0) W := by kernel_rfl
/-- The index, asked for a name. -/
theorem index_look {w : World} {D U : List Ent} {gm n : Nat} {I : List Ix} (hown : w.ownsMap Try.prog 9 ixR gm n (mapI I)) (hI : I.map (fun i => (i.name, i.idx)) = namesD D 0 ++ namesU U 0) (hnew : ((D ++ U).map Ent.name).Nodup)
    (hrow : ∀ i ∈ I, ∃ cur, w.heap[i.g]? = some (.cells cur 3 (0, 0)) ∧ cur[0]? = some (.int .i64 i.idx)) (name : ByteArray) (hs : name.size ≤ maxLen) :
    ∃ v, (Instr.lookup 39 (.map (some gm)) (.string name) false).run Try.prog w = .ok v w ∧ ((v = .slice none 0 0 ∧ ∀ e ∈ D ++ U, e.name ≠ name) ∨ ∃ gi ci idx, v = .slice (some ⟨gi, 0, none⟩) 1 ci ∧ w.cell? ⟨gi, 0, none⟩ = some (.int .i64 idx) ∧
      ((∃ j, ∃ hj : j < D.length, D[j].name = name ∧ idx = (j : Int)) ∨ ∃ j, ∃ hj : j < U.length, U[j].name = name ∧ idx = -(j : Int) - 1)) := by
  obtain ⟨v, ps, hrun, hv⟩ := hown.lookup (Go.Maps.string_keyed Try.underlying9) Try.underlying39 (zeroInts w) (show ixR (.slice none 0 0) = some (.nil, []) from rfl) (Go.WideMaps.keyOf_string_mk (P := Try.prog) (k := 9) Try.underlying9 hs)
  have hnm : I.map Ix.name = (D ++ U).map Ent.name := by
    have := congrArg (List.map Prod.fst) hI
    rw [List.map_map, List.map_append, namesD_fst, namesU_fst, ← List.map_append] at this
    exact this
  rw [mapI_at name I (by rw [hnm]; exact hnew)] at hv
  refine ⟨v, hrun, ?_⟩
  cases hf : I.find? (fun i => i.name.data.toList == name.data.toList) with
  | none =>
    rw [hf] at hv
    refine .inl ⟨ixR_nil hv, fun e he hen => ?_⟩
    have h1 : e.name ∈ I.map Ix.name := by rw [hnm]; exact List.mem_map.2 ⟨e, he, rfl⟩
    obtain ⟨i, hi, hin⟩ := List.mem_map.1 h1
    exact (List.find?_eq_none.1 hf i hi) (by rw [hin, hen]; exact beq_self_eq_true _)
  | some i =>
    rw [hf] at hv
    have hmem := List.mem_of_find?_eq_some hf
    have hin : i.name = name := ba_ext (eq_of_beq (List.find?_some (p := fun i : Ix => i.name.data.toList == name.data.toList) hf))
    obtain ⟨cur, h1, h2⟩ := hrow i hmem
    refine .inr ⟨i.g, i.cap, i.idx, ixR_inv hv, by rw [cell_of_row w i.g 0 cur _ (0, 0) h1]; exact h2, ?_⟩
    have hx : (i.name, i.idx) ∈ namesD D 0 ++ namesU U 0 := by rw [← hI]; exact List.mem_map.2 ⟨i, hmem, rfl⟩
    rw [List.mem_append] at hx
    rcases hx with hx | hx
    · obtain ⟨j, hj, h3, h4⟩ := namesD_mem hx
      exact .inl ⟨j, hj, by rw [h3]; exact hin, by simpa using h4⟩
    · obtain ⟨j, hj, h3, h4⟩ := namesU_mem hx
      exact .inr ⟨j, hj, by rw [h3]; exact hin, by simpa using h4⟩
end Go.Proofs.Ytohfnhfpiipglaa.Own
