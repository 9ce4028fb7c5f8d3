/- The contract of the function Copy: the slice that is handed back is new, and has the same bytes. -/
import Derived.Test.YtbpmfmkdpjajhaaProg
import Derived.Test.YtbpmfmkdpjajhaaOwn
import Derived.Laws.CopyOwn
import Derived.Outline
namespace Go.Proofs.Ytbpmfmkdpjajhaa.Own
open Go.RowKit Go.Proofs.YtbpmfmkdpjajhaaW.PrintWords Go.Proofs.YtbpmfmkdpjajhaaW.PrintLast
set_option linter.unusedVariables false
set_option linter.unusedSimpArgs false
def tdparse_Copy.f (l0 : List Int) : Option (List Int) := if l0.length ≤ 140737488355328 then some l0 else none
theorem copy_info : (Try.prog.info? 5).map (fun i => (i.zero, i.size, i.bytes)) = some (some (.int .u8 0), 1, 1) := by kernel_rfl
theorem copy_one : (Try.prog.info? 5).map (·.size) = some 1 := by kernel_rfl
set_option maxHeartbeats 1000000 in
theorem tdparse_Copy.calls (A0 : Option Addr) (c0 : Nat) (l0 : List Int) (r : List Int) (w : World) (hr0 : Kd.C (Kd.int .u8) w A0 l0.length l0) (hc0 : l0.length ≤ c0) (h : tdparse_Copy.f l0 = some r) :
    Calls Try.prog 39 #[.slice A0 l0.length c0] w fun e w' => ∃ v0_ : Value, e = .returned (v0_) ∧ Kd.R (Kd.int .u8) 5 w' w.heap.size (fun _ => True) v0_ r ∧ Below w.heap.size w w' := by
  unfold tdparse_Copy.f at h
  by_cases hl : l0.length ≤ 140737488355328
  · rw [if_pos hl] at h
    obtain rfl := Option.some.inj h
    clear h
    have hmk := print_make (P := Try.prog) 22 5 .u8 1 Try.underlying22 copy_info (by omega) l0.length (by omega)
    have hp : 0 < (l0.map (Value.int .u8)).length → (some ⟨w.heap.size, 0, none⟩ : Option Addr) = some ⟨w.heap.size, 0, none⟩ ∧ ∃ ad, A0 = some ad ∧ ∀ j v, (l0.map (Value.int .u8))[j]? = some v → (w.alloc (.cells (madeCells #[.int .u8 0] l0.length) 5)).cell? (ad.add j) = some v := by
      intro hp
      obtain ⟨ad, e, hc⟩ := (Kd.reads_of_C (d := (0 : Int)) hr0).2.2 (by simpa using hp)
      refine ⟨rfl, ad, e, fun j v hj => ?_⟩
      have hjl : j < l0.length := by
        have := (List.getElem?_eq_some_iff.1 hj).1
        simpa using this
      have h1 := hc j hjl
      rw [List.getElem?_map, List.getElem?_eq_getElem hjl] at hj
      rw [List.getD_eq_getElem?_getD, List.getElem?_eq_getElem hjl] at h1
      obtain rfl := Option.some.inj hj
      exact pw_cell_below (below_alloc (Below.refl _ _) _) h1
    have HP := Aside0.mk hp
    clear hr0 hp
    have HG := Aside0.mk (show (w.alloc (.cells (madeCells #[.int .u8 0] l0.length) 5)).heap[w.heap.size]? = some (.cells (madeCells #[.int .u8 0] l0.length).toList.toArray 5 (0, 0)) by rw [Array.toArray_toList]; exact heap_alloc_new w _)
    have HN := Aside0.mk (show (l0.map (Value.int .u8)).length = Nat.min l0.length l0.length by simp)
    have HF := Aside0.mk (show 0 + (l0.map (Value.int .u8)).length ≤ (madeCells #[.int .u8 0] l0.length).toList.length by simp [size_madeCells])
    have H1 := Aside0.mk (show ∀ v ∈ l0.map (Value.int .u8), v.oneCell' = true from fun v hv => by obtain ⟨x, _, rfl⟩ := List.mem_map.1 hv; rfl)
    have HB := Aside0.mk (show Below w.heap.size w (w.alloc (.cells (madeCells #[.int .u8 0] l0.length) 5)) from below_alloc (Below.refl _ _) _)
    go_enter Try.func39, Try.ntmps39
    go_wp2_with (with_reducible refine wpList_copy_splice rfl (.tmp 6) (.tmp 7) _ _ rfl 5 Try.underlying22 copy_one (some ⟨w.heap.size, 0, none⟩) A0 l0.length l0.length l0.length c0 rfl rfl w.heap.size 0 (madeCells #[.int .u8 0] l0.length).toList 5 HG.out (l0.map (Value.int .u8)) HN.out HP.out HF.out H1.out w.heap.size w HB.out (Nat.le_refl _) ?_)
    intro w1 hcells hbel
    have HC := hcells.out
    clear hcells
    have hR : Kd.R (Kd.int .u8) 5 w1 w.heap.size (fun _ => True) (.slice (some ⟨w.heap.size, 0, none⟩) l0.length l0.length) l0 := by
      refine R_block HC (Nat.le_refl _) ?_ (Nat.le_refl _) (by omega) ?_
      · simp [splice, size_madeCells]
      · simp [splice]
    have HRR := Aside0.mk hR
    clear HC hR
    go_wp2
    go_ret
    exact ⟨_, rfl, HRR.out, hbel⟩
  · rw [if_neg hl] at h
    cases h
end Go.Proofs.Ytbpmfmkdpjajhaa.Own
