/- The contract of the function ReadPlace: some bytes at a place, in new memory. -/
import Derived.Test.YtbjjjbfjplfmeaaDoorCown
import Derived.Test.YtbjjjbfjplfmeaaDoorOwn
import Derived.Laws.CopyOwn
import Derived.Outline
namespace Go.Proofs.YtbjjjbfjplfmeaaDoor.Own
open Go.RowKit Go.Proofs.YtbjjjbfjplfmeaaDoorW.PrintWords Go.Proofs.YtbjjjbfjplfmeaaDoorW.PrintLast
set_option linter.unusedVariables false
set_option linter.unusedSimpArgs false
theorem infoP : (Tryd.prog.info? 5).map (fun i => (i.zero, i.size, i.bytes)) = some (some (.int .u8 0), 1, 1) := by kernel_rfl
theorem sizeP : (Tryd.prog.info? 5).map (·.size) = some 1 := by kernel_rfl
theorem newreader (v : Value) (A : Option Addr) (n c : Nat) (w : World) (hv : v = .slice A n c) :
    Calls Tryd.prog 37 #[v] w fun e w' => e = .returned (.pointer (some ⟨w.heap.size, 0, none⟩)) ∧ w' = w.alloc (.cells #[.slice A n c, .int .i64 0] 111) := by
  subst hv
  go_enter Tryd.func37, Tryd.ntmps37
  go_wp2
  go_ret
  exact ⟨rfl, rfl⟩
set_option maxHeartbeats 1000000 in
theorem readat (gr gb off size base : Nat) (A : Option Addr) (c : Nat) (l : List Int) (w : World) (hp : w.cell? ⟨gr, 0, none⟩ = some (.slice A l.length c)) (hr : Kd.C (Kd.int .u8) w A l.length l) (hc : l.length ≤ c)
    (hb : w.heap[gb]? = some (.cells (madeCells #[.int .u8 0] size) 5 (0, 0))) (hbase : base ≤ gb) (ho : off < l.length) (hs : size ≤ l.length - off) (hm : l.length < 140737488355328) :
    Calls Tryd.prog 39 #[.pointer (some ⟨gr, 0, none⟩), .slice (some ⟨gb, 0, none⟩) size size, .int .i64 (off : Int)] w fun e w' =>
      e = .returned (.tuple #[.int .i64 (size : Int), .nilIface]) ∧ Kd.R (Kd.int .u8) 5 w' base (fun _ => True) (.slice (some ⟨gb, 0, none⟩) size size) ((l.drop off).take size) ∧ Below base w w' := by
  obtain ⟨ad, rfl, hcell⟩ := (Kd.reads_of_C (d := (0 : Int)) hr).2.2 (by omega)
  have hne : ¬ (c = off) := by omega
  obtain ⟨i0, hi0, _, hsz, _⟩ := info_parts infoP
  have hcut := cut_from (P := Tryd.prog) 22 5 .i64 Tryd.underlying22 hi0 1 hsz (some ad) l.length c (off : Int) (by omega) (by omega)
  rw [Int.toNat_natCast, if_neg hne, Option.map_some, Nat.mul_one] at hcut
  obtain ⟨cs, hcs⟩ : ∃ cs, cs = ((l.drop off).take size).map (Value.int .u8) := ⟨_, rfl⟩
  have hcl : cs.length = size := by rw [hcs]; simp; omega
  have HN := Aside0.mk (show cs.length = Nat.min (l.length - off) size by rw [hcl]; exact (Nat.min_eq_right hs).symm)
  have HP := Aside0.mk (show 0 < cs.length → (some ⟨gb, 0, none⟩ : Option Addr) = some ⟨gb, 0, none⟩ ∧ ∃ a, (some (ad.add off) : Option Addr) = some a ∧ ∀ j v, cs[j]? = some v → w.cell? (a.add j) = some v from fun _ => by
    refine ⟨rfl, _, rfl, fun j v hj => ?_⟩
    have hjl : j < size := by rw [← hcl]; exact (List.getElem?_eq_some_iff.1 hj).1
    have h1 := hcell (off + j) (by omega)
    rw [add_add, h1, ← hj, hcs]
    simp [List.getElem?_take, hjl, List.getD_eq_getElem?_getD, List.getElem?_eq_getElem (show off + j < l.length by omega)])
  have HG := Aside0.mk (show w.heap[gb]? = some (.cells (madeCells #[.int .u8 0] size).toList.toArray 5 (0, 0)) by rw [Array.toArray_toList]; exact hb)
  have HF := Aside0.mk (show 0 + cs.length ≤ (madeCells #[.int .u8 0] size).toList.length by rw [hcl]; simp [size_madeCells])
  have H1 := Aside0.mk (show ∀ v ∈ cs, v.oneCell' = true from fun v hv => by rw [hcs] at hv; obtain ⟨x, _, rfl⟩ := List.mem_map.1 hv; rfl)
  have HCL := Aside0.mk hcl
  have HCS := Aside0.mk hcs
  have hlt : (off : Int) < (l.length : Int) := by omega
  have hnle : ¬ ((l.length : Int) ≤ (off : Int)) := by omega
  clear hcs hcl hr hcell hi0 hsz hne hb
  go_enter Tryd.func39, Tryd.ntmps39
  go_wp2_with (with_reducible refine wpList_copy_splice rfl (.tmp 16) (.tmp 22) _ _ rfl 5 Tryd.underlying22 sizeP (some ⟨gb, 0, none⟩) (some (ad.add off)) size size (l.length - off) (c - off) rfl rfl gb 0 (madeCells #[.int .u8 0] size).toList 5 HG.out cs HN.out HP.out HF.out H1.out base w (Below.refl _ _) hbase ?_)
  intro w1 hcells hbel
  have HC := hcells.out
  clear hcells
  have hR : Kd.R (Kd.int .u8) 5 w1 base (fun _ => True) (.slice (some ⟨gb, 0, none⟩) ((l.drop off).take size).length size) ((l.drop off).take size) := by
    have hl2 : ((l.drop off).take size).length = size := by have := HCL.out; rw [HCS.out] at this; simpa using this
    refine R_block HC hbase ?_ (by omega) (by omega) ?_
    · have := HCL.out; simp [splice, size_madeCells]; omega
    · rw [hl2]
      simp only [splice, List.take_zero, List.nil_append]
      rw [List.take_left' HCL.out, HCS.out]
  have HRR := Aside0.mk hR
  have HB := Aside0.mk hbel
  clear HC hR hbel
  have hsc : (goInt (cs.length : Int)) = .int .i64 (size : Int) := by rw [HCL.out]; rfl
  go_wp2
  go_ret2
  have hl2 : ((l.drop off).take size).length = size := by have := HCL.out; rw [HCS.out] at this; simpa using this
  exact ⟨by have := HCL.out; show Ending.returned (.tuple #[.int .i64 (cs.length : Int), .nilIface]) = _; rw [this], by have := HRR.out; rw [hl2] at this; exact this, HB.out⟩
def impl_ReadPlace.f (l0 : List Int) (a1 a2 : Int) : Option (List Int) := if l0.length < 140737488355328 ∧ 0 ≤ a1 ∧ a1 < (l0.length : Int) ∧ 0 ≤ a2 ∧ a2 ≤ (l0.length : Int) - a1 then some ((l0.drop a1.toNat).take a2.toNat) else none
set_option maxHeartbeats 1000000 in
theorem impl_ReadPlace.calls (A0 : Option Addr) (c0 : Nat) (l0 : List Int) (a1 a2 : Int) (r : List Int) (w : World) (hr0 : Kd.C (Kd.int .u8) w A0 l0.length l0) (hc0 : l0.length ≤ c0) (h : impl_ReadPlace.f l0 a1 a2 = some r) :
    Calls Tryd.prog 15 #[.slice A0 l0.length c0, .int .i64 a1, .int .i64 a2] w fun e w' => ∃ v0_ : Value, e = .returned (v0_) ∧ Kd.R (Kd.int .u8) 5 w' w.heap.size (fun _ => True) v0_ r ∧ Below w.heap.size w w' := by
  unfold impl_ReadPlace.f at h
  by_cases hl : l0.length < 140737488355328 ∧ 0 ≤ a1 ∧ a1 < (l0.length : Int) ∧ 0 ≤ a2 ∧ a2 ≤ (l0.length : Int) - a1
  · rw [if_pos hl] at h
    obtain rfl := Option.some.inj h
    clear h
    obtain ⟨hl, h1, h2, h3, h4⟩ := hl
    obtain ⟨off, rfl⟩ := Int.eq_ofNat_of_zero_le h1
    obtain ⟨size, rfl⟩ := Int.eq_ofNat_of_zero_le h3
    have hoff : off < l0.length := by omega
    have hsz : size ≤ l0.length - off := by omega
    have ho : impl_own.f l0 = some l0 := by unfold impl_own.f; simp [hl]
    have HO := Aside0.mk ho
    have HR := Aside0.mk hr0
    clear ho hr0
    rw [Int.toNat_natCast, Int.toNat_natCast]
    have hmk := print_make (P := Tryd.prog) 22 5 .u8 1 Tryd.underlying22 infoP (by omega) size (by omega)
    go_enter Tryd.func15, Tryd.ntmps15
    go_wp2_with fail
    refine (impl_own.calls A0 c0 l0 l0 _ (Kd.C_alloc HR.out _) hc0 HO.out).mono ?_
    rintro e w1 ⟨v, rfl, hv, hb⟩
    have HV := Aside0.mk hv
    have HB := Aside0.mk hb
    clear hv hb
    obtain ⟨A1, c1, rfl⟩ := Kd.R_slice HV.out
    go_wp2_with fail
    refine (newreader _ A1 l0.length c1 w1 rfl).mono ?_
    rintro e w2 ⟨rfl, rfl⟩
    have hG : (w1.alloc (.cells #[.slice A1 l0.length c1, .int .i64 0] 111)).heap[w.heap.size]? = some (.cells (madeCells #[.int .u8 0] size) 5 (0, 0)) := by
      have h0 := heap_alloc_new w (.cells (madeCells #[.int .u8 0] size) 5)
      have h1 := HB.out.block w.heap.size (by simp)
      rw [h0] at h1
      have h2 := (below_alloc (Below.refl w1.heap.size w1) (.cells #[.slice A1 l0.length c1, .int .i64 0] 111)).block w.heap.size (by have := HB.out.size; simp at this; omega)
      rw [h2, h1]
    have hP : (w1.alloc (.cells #[.slice A1 l0.length c1, .int .i64 0] 111)).cell? ⟨w1.heap.size, 0, none⟩ = some (.slice A1 l0.length c1) := by
      have h0 := heap_alloc_new w1 (.cells #[.slice A1 l0.length c1, .int .i64 0] 111)
      unfold World.cell?
      rw [h0]
      rfl
    have HG := Aside0.mk hG
    have HP := Aside0.mk hP
    have hB1 : Below w.heap.size w w1 := below_then (below_alloc (Below.refl w.heap.size w) _) (by simp) HB.out
    have HB1 := Aside0.mk (hB1.alloc hB1.size (.cells #[.slice A1 l0.length c1, .int .i64 0] 111))
    clear hG hP hB1 hmk
    go_wp2_with fail
    refine (readat w1.heap.size w.heap.size off size w.heap.size A1 c1 l0 _ HP.out (Kd.C_alloc (Kd.R_reads' HV.out).2.2 _) (Kd.R_reads' HV.out).2.1 HG.out (Nat.le_refl _) hoff hsz hl).mono ?_
    rintro e w3 ⟨rfl, hR3, hB3⟩
    have HR3 := Aside0.mk hR3
    have HB3 := Aside0.mk (HB1.out.trans hB3)
    clear hR3 hB3
    obtain ⟨i0, hi0, _, hsz0, _⟩ := info_parts infoP
    have hcut := cut_to (P := Tryd.prog) 22 5 .i64 Tryd.underlying22 hi0 (some ⟨w.heap.size, 0, none⟩) size size (size : Int) (by omega) (by omega) (by omega)
    rw [Int.toNat_natCast] at hcut
    go_wp2
    go_ret
    exact ⟨_, rfl, HR3.out, HB3.out⟩
  · rw [if_neg hl] at h
    cases h
end Go.Proofs.YtbjjjbfjplfmeaaDoor.Own
