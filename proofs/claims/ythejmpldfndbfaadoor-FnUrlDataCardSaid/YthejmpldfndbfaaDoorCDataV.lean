/- The contract of impl.DataURI, of what is no data URI (under way: the rest). -/
import Derived.Test.YthejmpldfndbfaaDoorCDataU
namespace Go.Proofs.YthejmpldfndbfaaDoor.Own
open Go.RowKit Go.Proofs.YthejmpldfndbfaaDoorW.PrintWords Go.Proofs.YthejmpldfndbfaaDoorW.PrintLast
set_option linter.unusedVariables false
set_option linter.unusedSimpArgs false
theorem TabX.below {w w' : World} (h : TabX w) (hb : Below w.heap.size w w') : TabX w' := by obtain ⟨t, a, hc⟩ := h; exact ⟨t, a, pw_cell_below hb hc⟩
theorem own_nil (w : World) : Calls Tryd.prog 12 #[.slice none 0 0] w fun e w' => ∃ v0_ : Value, e = .returned v0_ ∧ Kd.R (Kd.int .u8) 5 w' w.heap.size (fun _ => True) v0_ [] ∧ Below w.heap.size w w' :=
  (impl_own.calls none 0 [] [] w ⟨rfl, by simp, fun h => absurd h (by simp)⟩ (by simp) (by unfold impl_own.f; rfl)).mono (by rintro e w' ⟨v, h1, h2, h3⟩; exact ⟨v, h1, Kd.R_mono h2 (fun _ _ => trivial), h3⟩)
set_option maxRecDepth 20000 in
set_option maxHeartbeats 2000000 in
theorem impl_no (A0 : Option Addr) (c0 : Nat) (l0 : List Int) (w : World) (hr0 : Kd.C (Kd.int .u8) w A0 l0.length l0) (hc0 : l0.length ≤ c0) (hl : l0.length < 140737488355328) (hno : noData l0 = true) (HU : Aside0 (TabX w)) :
    Calls Tryd.prog 6 #[.slice A0 l0.length c0] w fun e w' => ∃ v0_ v1_ : Value, e = .returned (.tuple #[v0_, v1_, .bool false]) ∧ Kd.R (Kd.int .u8) 5 w' w.heap.size (fun _ => True) v0_ [] ∧ Kd.R (Kd.int .u8) 5 w' w.heap.size (fun _ => True) v1_ [] ∧ Below w.heap.size w w' := by
  have ho : impl_own.f l0 = some l0 := by unfold impl_own.f; simp; omega
  have HO := Aside0.mk ho
  have HR := Aside0.mk hr0
  have HNO := Aside0.mk hno
  clear ho hr0 hno
  go_enter Tryd.func6, Tryd.ntmps6
  go_wp2_with fail
  refine (impl_own.calls A0 c0 l0 l0 w HR.out hc0 HO.out).mono ?_
  rintro e w1 ⟨v, rfl, hv, hb⟩
  have HV := Aside0.mk hv
  have HB := Aside0.mk hb
  clear hv hb
  go_wp2_with fail
  refine (datauri_no v l0 w1 HV.out HNO.out ⟨HU.out.below HB.out⟩).mono ?_
  rintro e w2 ⟨t, a, rfl, hb2⟩
  have HB2 := Aside0.mk (below_step HB.out hb2)
  clear hb2
  go_wp2
  go_region_with (first | (go_at_call 12; have hq := HV3.out; clear hq; (with_reducible refine (own_nil _).mono ?_); rintro e_ w4 ⟨v4, rfl, hv4, hb4⟩; have HV4 := Aside0.mk hv4; have HB4 := Aside0.mk hb4; clear hv4 hb4) | (go_at_call 12; (with_reducible refine (own_nil _).mono ?_); rintro e_ w3 ⟨v3, rfl, hv3, hb3⟩; have HV3 := Aside0.mk hv3; have HB3 := Aside0.mk hb3; clear hv3 hb3))
  have hs : w.heap.size ≤ w2.heap.size := HB2.out.size
  have hs3 : w2.heap.size ≤ w3.heap.size := HB3.out.size
  have b2 : Below w.heap.size w w2.drew := pw_below_drewN HB2.out 1
  have b3 : Below w.heap.size w w3 := below_step b2 HB3.out
  have HB := Aside0.mk (below_step b3 HB4.out)
  have HX := Aside0.mk (Kd.R_below (Kd.R_lower HV3.out hs) HB4.out)
  have HY := Aside0.mk (Kd.R_lower HV4.out (Nat.le_trans hs hs3))
  clear hs hs3 b2 b3
  go_wp2
  go_ret3
  exact ⟨v3, v4, rfl, HX.out, HY.out, HB.out⟩
end Go.Proofs.YthejmpldfndbfaaDoor.Own
