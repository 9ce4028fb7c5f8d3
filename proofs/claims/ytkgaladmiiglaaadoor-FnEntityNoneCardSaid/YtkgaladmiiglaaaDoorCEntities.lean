/- The contract of the function Entities, for a text without an ampersand: it stays as it is. -/
import Derived.Test.YtkgaladmiiglaaaDoorCown
import Derived.Test.YtkgaladmiiglaaaDoorOwn
import Derived.Test.YtkgaladmiiglaaaDoorCTypes
import Derived.Maps.Own
import Derived.StringKeys
import Derived.WideMake
namespace Go.Proofs.YtkgaladmiiglaaaDoor.Own
open Go.RowKit Go.Proofs.YtkgaladmiiglaaaDoorW.PrintWords Go.Proofs.YtkgaladmiiglaaaDoorW.PrintLast
set_option linter.unusedVariables false
set_option linter.unusedSimpArgs false
/-- How an element is read: it is not looked at. -/
def anyR (v : Value) : Option (DataW Unit × List MemPlace) := some (.lit (.bool true), [])
set_option maxHeartbeats 1000000 in
theorem replace_none (gb cap n base : Nat) (l : List Int) (v1 v2 : Value) (w : World) (hR : Kd.R (Kd.int .u8) 5 w base (fun _ => True) (.slice (some ⟨gb, 0, none⟩) n cap) l) (hn : n < 140737488355328) (hl : ∀ c ∈ l, c ≠ 38) :
    Calls Tryd.prog 19 #[.slice (some ⟨gb, 0, none⟩) n cap, v1, v2] w fun e w' => e = .returned (.slice (some ⟨gb, 0, none⟩) n cap) ∧ w' = w := by
  have hnl : n = l.length := (Kd.R_reads' hR).1
  have hnc : n ≤ cap := (Kd.R_reads' hR).2.1
  have hcell : ∀ (k : Nat) (hk : k < l.length), w.cell? ⟨gb, k, none⟩ = some (.int .u8 l[k]) := fun k hk => by
    have := (Kd.R_celln (0 : Int) hR (k : Int) (by omega) (by omega)).1
    simpa [rdOf, List.getD_eq_getElem?_getD, hk] using this
  have HC := Aside0.mk hcell
  have HNL := Aside0.mk hnl
  have HL := Aside0.mk hl
  clear hR hcell hnl hl
  go_enter Tryd.func19, Tryd.ntmps19
  go_wp2
  go_loopw [0, 7] (fun v0 v7 wr => ∃ i : Nat, v0 = .slice (some ⟨gb, 0, none⟩) n cap ∧ v7 = .int .i64 (i : Int) ∧ i ≤ n ∧ w = wr) (fun _ v7 _ => n - (intOf v7).toNat)
  case atStart => exact ⟨0, rfl, rfl, Nat.zero_le _, rfl⟩
  case round =>
    obtain ⟨i, rfl, rfl, hi, rfl⟩ := hrel
    by_cases hlt : i < n
    · have hci := HC.out i (by have := HNL.out; omega)
      have hne := HL.out _ (List.getElem_mem (show i < l.length by have := HNL.out; omega))
      generalize l[i]'(by have := HNL.out; omega) = c at hci hne
      have hcb : (c == 38) = false := by simp [hne]
      go_wp2
      go_roundw
      case rel => exact ⟨i + 1, rfl, by congr 1, by omega, by trivial⟩
      case measure => simp [intOf] <;> omega
    · obtain rfl : i = n := by omega
      go_wp2
      go_ret
      exact ⟨rfl, rfl⟩
theorem replace_nil (v1 v2 : Value) (w : World) : Calls Tryd.prog 19 #[.slice none 0 0, v1, v2] w fun e w' => e = .returned (.slice none 0 0) ∧ w' = w := by
  go_enter Tryd.func19, Tryd.ntmps19
  go_wp2
  refine wp_loop_rounds 1 ?_
  rw [rounds_succ]
  go_wp2
  go_ret
  exact ⟨rfl, rfl⟩
set_option maxRecDepth 20000 in
set_option maxHeartbeats 1000000 in
theorem table_any (A1 : Option Addr) (c1 : Nat) (l : List S36) (w : World) (hr : Kd.C k36 w A1 l.length l) (hc1 : l.length ≤ c1) (hl : l.length < 1000) (hsz : ∀ x ∈ l, x.f0.size ≤ 140737488355328 ∧ x.f1.size ≤ 140737488355328) :
    Calls Tryd.prog 20 #[.slice A1 l.length c1] w fun e w' => ∃ b, e = .returned (.map (some b)) ∧ Below w.heap.size w w' := by
  have HR := Aside0.mk hr
  have HSZ := Aside0.mk hsz
  clear hr hsz
  have hmk : ∀ W : World, (Instr.makeMap 43 none).run Tryd.prog W = .ok (.map (some W.heap.size)) (W.alloc (.map #[] 0)) := fun W => run_makeMap_plain (w := W) _
  go_enter Tryd.func20, Tryd.ntmps20
  go_wp2
  clear hmk
  go_loopw [9] (fun v9 wr => ∃ (k : Nat) (D : DataW Unit), v9 = .int .i64 (k : Int) ∧ k ≤ l.length ∧ Aside0 (wr.ownsMap Tryd.prog 9 anyR w.heap.size k D) ∧ Aside0 (Below w.heap.size w wr)) (fun v9 _ => l.length - (intOf v9).toNat)
  case atStart => exact ⟨0, _, rfl, Nat.zero_le _, ⟨World.ownsMap_made w _ _ _⟩, ⟨(Below.refl w.heap.size w).alloc (Nat.le_refl _) _⟩⟩
  case round =>
    obtain ⟨k, D, rfl, hk, HM, HB⟩ := hrel
    by_cases hlt : k < l.length
    · obtain ⟨ad, e1, x0, x1⟩ := at_T36 HR.out (k : Int) (by omega) (by omega)
      have hx : rd_T36 l (k : Int) = l[k] := by unfold rd_T36; simp [List.getD_eq_getElem?_getD, hlt]
      have hs := HSZ.out _ (List.getElem_mem hlt)
      rw [hx] at x0 x1
      generalize l[k] = x at x0 x1 hs
      cases e1
      rw [Int.toNat_natCast] at x0 x1
      have hy0 := (HB.out.cell (World.block_lt_of_cell? w _ x0)).trans x0
      have hy1 := (HB.out.cell (World.block_lt_of_cell? w _ x1)).trans x1
      clear x0 x1 hx
      have HY0 := Aside0.mk hy0
      have HY1 := Aside0.mk hy1
      have hconv : ∀ W : World, (convert 9 22 (.string x.f1)).run Tryd.prog W = .ok (.slice (some ⟨W.heap.size, 0, none⟩) x.f1.size (grownCap W x.f1.size 0 5)) (W.drew.alloc (.cells (bytesRow x.f1 (grownCap W x.f1.size 0 5)) 5 ((bytesRow x.f1 (grownCap W x.f1.size 0 5)).size, (bytesRow x.f1 (grownCap W x.f1.size 0 5)).size + 1))) :=
        fun W => run_bytes_of_string (P := Tryd.prog) W 9 22 5 x.f1 Tryd.underlying9 Tryd.underlying22 Tryd.underlying5
      have HK := Aside0.mk (Go.WideMaps.keyOf_string_mk (P := Tryd.prog) (k := 9) Tryd.underlying9 (s := x.f0) (by have : maxLen = 9223372036854775807 := rfl; omega))
      have hbs := HB.out.size
      go_wp2_with (at_mapUpdate; refine wpList_mapUpdate_own _ rfl (.tmp 13) (.tmp 15) (.tmp 18) 43 rfl 9 22 (Go.Maps.string_keyed Tryd.underlying9) Tryd.underlying43 anyR w.heap.size k D rfl (((HM.out.alloc _).drew).alloc _) (by have : maxLen = 9223372036854775807 := rfl; omega) _ _ _ rfl rfl HK.out (.lit (.bool true)) [] rfl ?_; intro w4 hm4 hg4; have HM4 := Aside0.mk hm4; have HB4 := Aside0.mk ((((HB.out.alloc hbs _).drew).alloc (by simp; omega) _).grown hg4 (by simp; omega) (fun q hq => by obtain rfl := Option.some.inj hq; exact Nat.le_refl _)); clear hm4 hg4)
      go_roundw
      case rel => exact ⟨k + 1, _, by congr 1, by omega, HM4, HB4⟩
      case measure => simp [intOf] <;> omega
    · obtain rfl : k = l.length := by omega
      go_wp2
      go_ret
      exact ⟨_, rfl, HB.out⟩
def impl_Entities.f (l0 : List Int) (l1 : List S36) : Option (List Int) := if l0.length < 140737488355328 ∧ (l0.all fun c => decide (c ≠ 38)) = true ∧ l1.length < 1000 ∧ (l1.all fun x => decide (x.f0.size ≤ 140737488355328) && decide (x.f1.size ≤ 140737488355328)) = true then some l0 else none
set_option maxHeartbeats 1000000 in
theorem impl_Entities.calls (A0 : Option Addr) (c0 : Nat) (l0 : List Int) (A1 : Option Addr) (c1 : Nat) (l1 : List S36) (r : List Int) (w : World) (hr0 : Kd.C (Kd.int .u8) w A0 l0.length l0) (hc0 : l0.length ≤ c0) (hr1 : Kd.C k36 w A1 l1.length l1) (hc1 : l1.length ≤ c1) (h : impl_Entities.f l0 l1 = some r) :
    Calls Tryd.prog 10 #[.slice A0 l0.length c0, .slice A1 l1.length c1] w fun e w' => ∃ v0_ : Value, e = .returned (v0_) ∧ Kd.R (Kd.int .u8) 5 w' w.heap.size (fun _ => True) v0_ r ∧ Below w.heap.size w w' := by
  unfold impl_Entities.f at h
  by_cases hl : l0.length < 140737488355328 ∧ (l0.all fun c => decide (c ≠ 38)) = true ∧ l1.length < 1000 ∧ (l1.all fun x => decide (x.f0.size ≤ 140737488355328) && decide (x.f1.size ≤ 140737488355328)) = true
  · rw [if_pos hl] at h
    obtain rfl := Option.some.inj h
    clear h
    obtain ⟨hl, hall, hl1, hall1⟩ := hl
    have ho : impl_own.f l0 = some l0 := by unfold impl_own.f; simp; omega
    have HO := Aside0.mk ho
    have HR0 := Aside0.mk hr0
    have HR1 := Aside0.mk hr1
    have HNE := Aside0.mk (show ∀ c ∈ l0, c ≠ 38 from fun c hc => of_decide_eq_true (List.all_eq_true.1 hall c hc))
    have HSZ := Aside0.mk (show ∀ x ∈ l1, x.f0.size ≤ 140737488355328 ∧ x.f1.size ≤ 140737488355328 from fun x hx => by have := List.all_eq_true.1 hall1 x hx; simpa using this)
    have hmk : ∀ W : World, (Instr.makeMap 45 none).run Tryd.prog W = .ok (.map (some W.heap.size)) (W.alloc (.map #[] 0)) := fun W => run_makeMap_plain (w := W) _
    clear ho hr0 hr1 hall hall1
    go_enter Tryd.func10, Tryd.ntmps10
    go_wp2_with fail
    refine (impl_own.calls A0 c0 l0 l0 w HR0.out hc0 HO.out).mono ?_
    rintro e w1 ⟨v, rfl, hv, hb⟩
    have HV := Aside0.mk hv
    have HB := Aside0.mk hb
    clear hv hb
    go_wp2_with fail
    refine (table_any A1 c1 l1 w1 (Kd.C_below HR1.out HB.out) hc1 hl1 HSZ.out).mono ?_
    rintro e w2 ⟨b, rfl, hb2⟩
    have HB2 := Aside0.mk hb2
    clear hb2
    have hs2 := HB2.out.size
    have HW3 := Aside0.mk (show Below w.heap.size w (w2.alloc (.map #[] 0)) from (below_then HB.out HB.out.size HB2.out).alloc (Nat.le_trans HB.out.size hs2) _)
    have HV3 := Aside0.mk (show Kd.R (Kd.int .u8) 5 (w2.alloc (.map #[] 0)) w.heap.size (fun _ => True) v l0 from Kd.R_below (Kd.R_below HV.out HB2.out) (below_alloc (Below.refl _ _) _))
    rcases (Kd.own_of_R HV.out).2 with ⟨rfl, h0⟩ | ⟨g, cap, cur, rfl, hg, _⟩
    · obtain rfl := List.eq_nil_of_length_eq_zero h0
      go_wp2_with fail
      refine (replace_nil _ _ _).mono ?_
      rintro e w4 ⟨rfl, hw4⟩
      rw [hw4]
      clear hw4
      go_wp2_with fail
      refine (impl_own.calls none 0 [] [] _ (by exact ⟨rfl, by simp, fun h => by simp at h⟩) (Nat.le_refl _) HO.out).mono ?_
      rintro e w5 ⟨v5, rfl, hv5, hb5⟩
      have HV5 := Aside0.mk hv5
      have HB5 := Aside0.mk hb5
      clear hv5 hb5
      go_wp2
      go_ret
      exact ⟨_, rfl, Kd.R_lower HV5.out HW3.out.size, below_then HW3.out HW3.out.size HB5.out⟩
    · go_wp2_with fail
      refine (replace_none g cap l0.length w.heap.size l0 _ _ _ HV3.out hl HNE.out).mono ?_
      rintro e w4 ⟨rfl, hw4⟩
      rw [hw4]
      clear hw4
      go_wp2_with fail
      refine (impl_own.calls (some ⟨g, 0, none⟩) cap l0 l0 _ (Kd.R_reads' HV3.out).2.2 (Kd.R_reads' HV3.out).2.1 HO.out).mono ?_
      rintro e w5 ⟨v5, rfl, hv5, hb5⟩
      have HV5 := Aside0.mk hv5
      have HB5 := Aside0.mk hb5
      clear hv5 hb5
      go_wp2
      go_ret
      exact ⟨_, rfl, Kd.R_lower HV5.out HW3.out.size, below_then HW3.out HW3.out.size HB5.out⟩
  · rw [if_neg hl] at h
    cases h
end Go.Proofs.YtkgaladmiiglaaaDoor.Own
