/- The contract of the function AsIdentifierName: by two tables of truth values. -/
import Derived.Test.YtpbgmgkpololfaaDoorCTabB
import Derived.Test.YtpbgmgkpololfaaDoorProg
import Derived.Below
import Derived.Deep.Draws
import Derived.OwnWalk
import Derived.Tactics
import Derived.WalkKit
import Derived.KernelRfl
import Derived.Outline
namespace Go.Proofs.YtpbgmgkpololfaaDoor.Own
open Go.RowKit Go.Proofs.YtpbgmgkpololfaaDoorW.PrintWords Go.Proofs.YtpbgmgkpololfaaDoorW.PrintLast
set_option linter.unusedVariables false
set_option linter.unusedSimpArgs false
def inR (a b i : Nat) : Bool := Nat.ble a i && Nat.ble i b
def isS (i : Nat) : Bool := i == 36 || (inR 65 90 i || (i == 95 || inR 97 122 i))
def isI (i : Nat) : Bool := inR 48 57 i || isS i
def TabS (w : World) : Prop := TabAt 0 isS w
def TabI (w : World) : Prop := TabAt 1 isI w
def byN (c : Int) : Bool := decide (0 ≤ c) && decide (c < 256)
def nameI : List Int → Bool
  | [] => false
  | c :: t => isS c.toNat && t.all fun c => isI c.toNat
theorem all_drop {l : List Int} {p : Int → Bool} {k : Nat} (h : k < l.length) : (l.drop k).all p = (p l[k] && (l.drop (k + 1)).all p) := by
  rw [List.drop_eq_getElem_cons h, List.all_cons]
def tdjs_AsIdentifierName.f (l0 : List Int) : Option Bool := if l0.length < 140737488355328 ∧ l0.all byN = true then some (nameI l0) else none
set_option maxHeartbeats 1000000 in
theorem tdjs_AsIdentifierName.calls (A0 : Option Addr) (c0 : Nat) (l0 : List Int) (r : Bool) (w : World) (hr0 : Kd.C (Kd.int .u8) w A0 l0.length l0) (hc0 : l0.length ≤ c0) (h : tdjs_AsIdentifierName.f l0 = some r) (HTabI : Aside0 (TabI w)) (HTabS : Aside0 (TabS w)) :
    Calls Tryd.prog 10 #[.slice A0 l0.length c0] w fun e w' => e = .returned (.bool r) ∧ Drawn0 w w' := by
  unfold tdjs_AsIdentifierName.f at h
  by_cases hl : l0.length < 140737488355328 ∧ l0.all byN = true
  · rw [if_pos hl] at h
    obtain rfl := Option.some.inj h
    clear h
    obtain ⟨hm, hby⟩ := hl
    have hat : ∀ (k : Nat) (h : k < l0.length), 0 ≤ l0[k] ∧ l0[k] < 256 := fun k h => by
      have := List.all_eq_true.1 hby _ (List.getElem_mem h)
      simpa [byN] using this
    have HAT := Aside0.mk hat
    have HR := Aside0.mk hr0
    clear hat hby hr0
    cases l0 with
    | nil =>
      go_enter Tryd.func10, Tryd.ntmps10
      go_wp2
      go_ret
      exact ⟨rfl, by repeat (first | exact Drawn0.refl _ | apply Drawn0.step)⟩
    | cons c t =>
      obtain ⟨l, hl⟩ : ∃ l, l = c :: t := ⟨_, rfl⟩
      have hn : nameI (c :: t) = (isS c.toNat && (l.drop 1).all fun c => isI c.toNat) := by rw [hl]; rfl
      have h0 : 0 < l.length := by rw [hl]; simp
      have hc0' : rd l 0 = c := by rw [hl]; rfl
      rw [hn]
      rw [← hl] at HR HAT hm ⊢
      have hcb : 0 ≤ c ∧ c < 256 := by have := HAT.out 0 h0; simpa [hl] using this
      clear hl hn
      obtain ⟨ad, rfl, hcell0⟩ := Kd.at_int HR.out 0 (by omega) (by omega)
      rw [hc0'] at hcell0
      have htab := TabAt.at HTabS.out hcb.1 hcb.2
      have hlz : ¬ ((l.length : Int) = 0) := by omega
      have hnil : ¬ (l = []) := by intro e; rw [e] at h0; simp at h0
      have hlb : ((l.length : Int) == 0) = false := beq_eq_false_iff_ne.mpr hlz
      have hq0 : (0 < l.length) = True := eq_true h0
      have hq1 : ((0 : Int) < (l.length : Int)) = True := eq_true (by omega)
      have hq2 : ((1 : Int) ≤ (l.length : Int)) = True := eq_true (by omega)
      cases hs : isS c.toNat with
      | false =>
        rw [hs] at htab
        (try rw [show ((0 : Int)).toNat = 0 from rfl] at hcell0)
        (try rw [Addr.add_zero'] at hcell0)
        go_enter Tryd.func10, Tryd.ntmps10
        go_wp2
        go_ret
        exact ⟨rfl, by repeat (first | exact Drawn0.refl _ | apply Drawn0.step)⟩
      | true =>
        rw [hs] at htab
        (try rw [show ((0 : Int)).toNat = 0 from rfl] at hcell0)
        (try rw [Addr.add_zero'] at hcell0)
        rw [Bool.true_and]
        go_enter Tryd.func10, Tryd.ntmps10
        go_wp2
        go_loopw [3] (fun i wr => ∃ k : Nat, k ≤ l.length ∧ i = .int .i64 k ∧ Aside0 (((l.drop 1).all fun c => isI c.toNat) = ((l.drop k).all fun c => isI c.toNat)) ∧ Drawn0 w wr)
          (fun i _ => l.length - (intOf i).toNat)
        case atStart => exact ⟨1, h0, rfl, ⟨rfl⟩, by repeat (first | exact Drawn0.refl _ | apply Drawn0.step)⟩
        case round =>
          obtain ⟨k, hk, rfl, HW, ⟨m, rfl⟩⟩ := hrel
          by_cases hlt : k < l.length
          · obtain ⟨ad2, e2, hcell⟩ := Kd.at_int HR.out (k : Int) (by omega) (by omega)
            cases e2
            have hd : rd l (k : Int) = l[k] := by unfold rd; simp [List.getD_eq_getElem?_getD, hlt]
            rw [hd] at hcell
            simp only [Int.toNat_natCast] at hcell
            have hkb := HAT.out k hlt
            have htk := TabAt.at HTabI.out hkb.1 hkb.2
            have HX := Aside0.mk (all_drop (p := fun c => isI c.toNat) hlt)
            cases hi : isI l[k].toNat with
            | true =>
              rw [hi] at htk
              have HI := Aside0.mk hi
              clear hi
              go_wp2
              go_roundw
              case rel => exact ⟨k + 1, by omega, by go_num, ⟨by rw [HW.out, HX.out, HI.out, Bool.true_and]⟩, by repeat (first | exact Drawn0.refl _ | apply Drawn0.step)⟩
              case measure => simp [intOf]; omega
            | false =>
              rw [hi] at htk
              have HI := Aside0.mk hi
              clear hi
              go_wp2
              go_ret
              exact ⟨by rw [HW.out, HX.out, HI.out]; rfl, by repeat (first | exact Drawn0.refl _ | apply Drawn0.step)⟩
          · have hkk : k = l.length := by omega
            subst hkk
            go_wp2
            go_ret
            exact ⟨by rw [HW.out, List.drop_of_length_le (Nat.le_refl _)]; rfl, by repeat (first | exact Drawn0.refl _ | apply Drawn0.step)⟩
  · rw [if_neg hl] at h
    cases h
end Go.Proofs.YtpbgmgkpololfaaDoor.Own
