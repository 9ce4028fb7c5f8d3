/- The contract of DataURI, of what does not begin with the scheme (under way: the rest). -/
import Derived.Test.YthejmpldfndbfaaDoorCown
import Derived.Test.YthejmpldfndbfaaDoorOwn
import Derived.Deep.RegionWith
import Derived.Outline
namespace Go.Proofs.YthejmpldfndbfaaDoor.Own
open Go.RowKit Go.Proofs.YthejmpldfndbfaaDoorW.PrintWords Go.Proofs.YthejmpldfndbfaaDoorW.PrintLast
set_option linter.unusedVariables false
set_option linter.unusedSimpArgs false
def TabX (w : World) : Prop := ∃ t a, w.cell? ⟨3, 0, none⟩ = some (.iface t (.pointer (some a)))
set_option maxHeartbeats 1000000 in
theorem datauri_short (A : Option Addr) (c0 n : Nat) (w : World) (hn : n ≤ 5) (HU : Aside0 (TabX w)) :
    Calls Tryd.prog 11 #[.slice A n c0] w fun e w' => ∃ t a, e = .returned (.tuple #[.slice none 0 0, .slice none 0 0, .iface t (.pointer (some a))]) ∧ Drawn0 w w' := by
  obtain ⟨t, a, hc⟩ := HU.out
  have hb : decide ((n : Int) > 5) = false := decide_eq_false (by omega)
  have hb1 : ¬ ((n : Int) > 5) := by omega
  have hb2 : ¬ (5 < n) := by omega
  go_enter Tryd.func11, Tryd.ntmps11
  go_wp2
  go_region
  go_wp2
  go_region
  go_wp2
  go_ret3
  exact ⟨t, a, rfl, ⟨2, rfl⟩⟩
theorem equal5 (ad : Addr) (c0 : Nat) (l : List Int) (A1 : Option Addr) (c1 : Nat) (w1 : World) (hC : Kd.C (Kd.int .u8) w1 (some ad) (l.take 5).length (l.take 5)) (hc0 : l.length ≤ c0) (hn : 5 < l.length) (hne : ((strOfNums (l.take 5)).toList == (strOfNums [100, 97, 116, 97, 58]).toList) = false) (h1 : Kd.C (Kd.int .u8) w1 A1 5 [100, 97, 116, 97, 58]) (hc1 : 5 ≤ c1) :
    Calls Tryd.prog 15 #[.slice (some ad) 5 c0, .slice A1 5 c1] w1 fun e w' => e = .returned (.bool false) ∧ Drawn0 w1 w' := by
  have h5 : (l.take 5).length = 5 := by simp; omega
  have := bytes_Equal.calls (some ad) c0 (l.take 5) A1 c1 [100, 97, 116, 97, 58] false w1 hC (by omega) h1 hc1 (by unfold bytes_Equal.f; rw [hne])
  rw [h5] at this
  exact this
set_option maxRecDepth 20000 in
set_option maxHeartbeats 2000000 in
theorem datauri_other (ad : Addr) (c0 : Nat) (l : List Int) (w : World) (hC : ∀ W, Below w.heap.size w W → Kd.C (Kd.int .u8) W (some ad) (l.take 5).length (l.take 5)) (hc0 : l.length ≤ c0) (hn : 5 < l.length) (hne : ((strOfNums (l.take 5)).toList == (strOfNums [100, 97, 116, 97, 58]).toList) = false) (HU : Aside0 (TabX w)) :
    Calls Tryd.prog 11 #[.slice (some ad) l.length c0] w fun e w' => ∃ t a, e = .returned (.tuple #[.slice none 0 0, .slice none 0 0, .iface t (.pointer (some a))]) ∧ Below w.heap.size w w' := by
  have HE := Aside0.mk (fun A1 c1 w1 (hb : Below w.heap.size w w1) h1 hc1 => equal5 ad c0 l A1 c1 w1 (hC w1 hb) hc0 hn hne h1 hc1)
  have hb0 : decide ((l.length : Int) > 5) = true := decide_eq_true (by omega)
  have hb2 : ((l.length : Int) > 5) := by omega
  have hb3 : 5 < l.length := hn
  have hb4 : 5 ≤ c0 := by omega
  clear hC hne
  generalize l.length = n at *
  go_enter Tryd.func11, Tryd.ntmps11
  go_wp2
  go_region_with (first | (go_at_call 16; (with_reducible refine (tdparse_dataSchemeBytes.calls _ _ rfl).mono ?_); rintro e_ w1 ⟨v1, rfl, hv1, hbx⟩; obtain ⟨A1, c1, rfl⟩ := Kd.V_slice hv1; have HV1 : Aside0 (Kd.C (Kd.int .u8) w1 A1 5 [100, 97, 116, 97, 58] ∧ 5 ≤ c1) := ⟨⟨(Kd.V_reads' hv1).2.2, (Kd.V_reads' hv1).2.1⟩⟩; have HB1 : Aside0 (Below w.heap.size w w1) := ⟨(pw_below_drewN (Below.refl w.heap.size w) 1).trans hbx⟩; have HEE := Aside0.mk (HE.out A1 c1 w1 HB1.out HV1.out.1 HV1.out.2); clear hv1 hbx) | (go_at_call 15; (with_reducible refine HEE.out.mono ?_); rintro e_ w2 ⟨rfl, hd2⟩; have HD2 := Aside0.mk hd2; clear hd2))
  all_goals
    have hB2 : Below w.heap.size w w2 := by obtain ⟨⟨k, e⟩⟩ := HD2.out; rw [e]; exact pw_below_drewN HB1.out k
    have HB2 := Aside0.mk hB2
    obtain ⟨t, a, hc⟩ := HU.out
    have hcell := pw_cell_below hB2 hc
    clear hB2 hc
    go_wp2
    go_region
    go_wp2
    go_ret3
    exact ⟨t, a, rfl, pw_below_drewN HB2.out 1⟩
/-- Not the scheme ahead. -/
def noData (l : List Int) : Bool := decide (l.length ≤ 5) || !((strOfNums (l.take 5)).toList == (strOfNums [100, 97, 116, 97, 58]).toList)
theorem datauri_no {base : Nat} {ok : Nat → Prop} (v : Value) (l : List Int) (w : World) (hR : Kd.R (Kd.int .u8) 5 w base ok v l) (hno : noData l = true) (HU : Aside0 (TabX w)) :
    Calls Tryd.prog 11 #[v] w fun e w' => ∃ t a, e = .returned (.tuple #[.slice none 0 0, .slice none 0 0, .iface t (.pointer (some a))]) ∧ Below w.heap.size w w' := by
  obtain ⟨A, c, rfl, hc, hC⟩ := Kd.R_reads hR
  by_cases hl : l.length ≤ 5
  · refine (datauri_short A c l.length w hl HU).mono ?_
    rintro e w' ⟨t, a, h, hd⟩
    exact ⟨t, a, h, hd.below⟩
  · obtain ⟨ad, rfl, _⟩ := hC.2.2 (by omega)
    refine datauri_other ad c l w (fun W hW => Kd.C_take (Kd.C_below hC hW) (by omega)) hc (by omega) ?_ HU
    unfold noData at hno
    rw [decide_eq_false hl, Bool.false_or, Bool.not_eq_true'] at hno
    exact hno
end Go.Proofs.YthejmpldfndbfaaDoor.Own
