/- The contracts of the functions TrimWhitespace (the part of a slice that has no white space at its ends) and Trim (a copy of it in new memory). -/
import Derived.Test.YthejmpldfndbfaaDoorCown
import Derived.Test.YthejmpldfndbfaaDoorCTab
import Derived.Outline
namespace Go.Proofs.YthejmpldfndbfaaDoor.Own
open Go.RowKit Go.Proofs.YthejmpldfndbfaaDoorW.PrintWords Go.Proofs.YthejmpldfndbfaaDoorW.PrintLast
set_option linter.unusedVariables false
set_option linter.unusedSimpArgs false
theorem infoT : (Tryd.prog.info? 5).map (fun i => (i.zero, i.size, i.bytes)) = some (some (.int .u8 0), 1, 1) := by kernel_rfl
def wsI (c : Int) : Bool := isW c.toNat
def byI (c : Int) : Bool := decide (0 ≤ c) && decide (c < 256)
/-- How many bytes of white space stand at the beginning; where the last other byte ends. -/
def startI (l : List Int) : Nat := (l.takeWhile wsI).length
def endI (l : List Int) : Nat := (l.reverse.dropWhile wsI).length
def trimI (l : List Int) : List Int := (l.take (endI l)).drop (startI l)
theorem ws_f {c : Int} (h : byI c = true) : tdparse_IsWhitespace.f c = some (wsI c) := by
  unfold byI at h
  simp only [Bool.and_eq_true, decide_eq_true_eq] at h
  unfold tdparse_IsWhitespace.f
  rw [if_pos h]
  rfl
theorem start_at : ∀ {l : List Int} {k : Nat} (h : k < l.length), (l.take k).all wsI = true → wsI l[k] = false → startI l = k
  | c :: l, 0, _, _, h2 => by
    simp only [List.getElem_cons_zero] at h2
    simp [startI, List.takeWhile_cons, h2]
  | c :: l, k + 1, h, h1, h2 => by
    simp only [List.take_succ_cons, List.all_cons, Bool.and_eq_true] at h1
    have := start_at (l := l) (k := k) (by simpa using h) h1.2 (by simpa using h2)
    unfold startI at *
    rw [List.takeWhile_cons, if_pos h1.1, List.length_cons, this]
theorem start_all : ∀ {l : List Int} (h : l.all wsI = true), startI l = l.length
  | [], _ => rfl
  | c :: l, h => by
    simp only [List.all_cons, Bool.and_eq_true] at h
    have := start_all h.2
    unfold startI at *
    rw [List.takeWhile_cons, if_pos h.1, List.length_cons, this, List.length_cons]
theorem end_at {l : List Int} {j : Nat} (h : j < l.length) (h1 : (l.drop (j + 1)).all wsI = true) (h2 : wsI l[j] = false) : endI l = j + 1 := by
  have e : l = l.take (j + 1) ++ l.drop (j + 1) := (List.take_append_drop _ _).symm
  unfold endI
  rw [e, List.reverse_append, List.dropWhile_append_of_pos (by simpa using h1), List.take_succ_eq_append_getElem h, List.reverse_append]
  simp [List.dropWhile_cons, h2]
  omega
set_option maxRecDepth 20000 in
set_option maxHeartbeats 1000000 in
theorem trimws_any (A0 : Option Addr) (c0 : Nat) (l : List Int) (w : World) (hr : Kd.C (Kd.int .u8) w A0 l.length l) (hc : l.length ≤ c0) (hm : l.length < 140737488355328) (hb : l.all byI = true) (HTabW : Aside0 (TabW w)) :
    Calls Tryd.prog 17 #[.slice A0 l.length c0] w fun e w' => ∃ A1 c1, e = .returned (.slice A1 (trimI l).length c1) ∧ Kd.C (Kd.int .u8) w' A1 (trimI l).length (trimI l) ∧ (trimI l).length ≤ c1 ∧ Drawn0 w w' := by
  have HR := Aside0.mk hr
  have HC := Aside0.mk hc
  have HB := Aside0.mk hb
  clear hr hc hb
  have hat : ∀ (k : Nat) (h : k < l.length), byI l[k] = true := fun k h => List.all_eq_true.1 HB.out _ (List.getElem_mem h)
  have HAT := Aside0.mk hat
  clear hat
  have HT : ∀ n, Aside0 (TabW (w.drewN n)) := fun n => HTabW
  go_enter Tryd.func17, Tryd.ntmps17
  go_wp2
  go_loopw [4, 5] (fun s i wr => ∃ k : Nat, k ≤ l.length ∧ s = .int .i64 l.length ∧ i = .int .i64 k ∧ Aside0 ((l.take k).all wsI = true) ∧ Drawn0 w wr)
    (fun _ i _ => l.length - (intOf i).toNat)
  case atStart => exact ⟨0, Nat.zero_le _, rfl, rfl, ⟨by simp⟩, by repeat (first | exact Drawn0.refl _ | apply Drawn0.step)⟩
  case round =>
    obtain ⟨k, hk, rfl, rfl, HW, ⟨m, rfl⟩⟩ := hrel
    by_cases hlt : k < l.length
    · obtain ⟨ad, rfl, hcell⟩ := Kd.at_int HR.out (k : Int) (by omega) (by omega)
      have hd : rd l (k : Int) = l[k] := by unfold rd; simp [List.getD_eq_getElem?_getD, hlt]
      rw [hd] at hcell
      simp only [Int.toNat_natCast] at hcell
      by_cases hws : wsI l[k] = true
      · have HWS := Aside0.mk hws
        go_wp2_with fail
        refine (tdparse_IsWhitespace.calls l[k] true _ (by rw [ws_f (HAT.out k hlt), HWS.out]) (HT _)).mono ?_
        rintro e w1 ⟨rfl, ⟨m1, rfl⟩⟩
        go_wp2
        go_roundw
        case rel => exact ⟨k + 1, by omega, rfl, by go_num, ⟨by rw [List.take_succ_eq_append_getElem hlt, List.all_append, HW.out]; simp [HWS.out]⟩, by repeat (first | exact Drawn0.refl _ | apply Drawn0.step)⟩
        case measure => simp [intOf]; omega
      · have hws' : wsI l[k] = false := by simpa using hws
        have HWS := Aside0.mk hws'
        clear hws hws'
        have hst := start_at hlt HW.out HWS.out
        have HST := Aside0.mk hst
        clear hst
        go_wp2_with fail
        refine (tdparse_IsWhitespace.calls l[k] false _ (by rw [ws_f (HAT.out k hlt), HWS.out]) (HT _)).mono ?_
        rintro e w1 ⟨rfl, ⟨m1, rfl⟩⟩
        go_wp2
        go_loopw [7] (fun i wr => ∃ j : Nat, k ≤ j ∧ j < l.length ∧ i = .int .i64 j ∧ Aside0 ((l.drop (j + 1)).all wsI = true) ∧ Drawn0 w wr)
          (fun i _ => (intOf i).toNat + 1)
        case atStart => exact ⟨l.length - 1, by omega, by omega, by go_num, ⟨by rw [List.drop_of_length_le (by omega)]; rfl⟩, by repeat (first | exact Drawn0.refl _ | apply Drawn0.step)⟩
        case round =>
          obtain ⟨j, hj1, hj2, rfl, HV, ⟨m2, rfl⟩⟩ := hrel
          obtain ⟨ad2, e2, hcell2⟩ := Kd.at_int HR.out (j : Int) (by omega) (by omega)
          cases e2
          have hd2 : rd l (j : Int) = l[j] := by unfold rd; simp [List.getD_eq_getElem?_getD, hj2]
          rw [hd2] at hcell2
          simp only [Int.toNat_natCast] at hcell2
          by_cases hws : wsI l[j] = true
          · have HWS2 := Aside0.mk hws
            have hne : k ≠ j := by intro e; subst e; rw [HWS.out] at hws; cases hws
            clear hws
            go_wp2_with fail
            refine (tdparse_IsWhitespace.calls l[j] true _ (by rw [ws_f (HAT.out j hj2), HWS2.out]) (HT _)).mono ?_
            rintro e w1 ⟨rfl, ⟨m3, rfl⟩⟩
            go_wp2
            go_roundw
            case rel => exact ⟨j - 1, by omega, by omega, by go_num, ⟨by rw [show j - 1 + 1 = j by omega, List.drop_eq_getElem_cons hj2, List.all_cons, HWS2.out, HV.out]; rfl⟩, by repeat (first | exact Drawn0.refl _ | apply Drawn0.step)⟩
            case measure => simp [intOf]; omega
          · have hws' : wsI l[j] = false := by simpa using hws
            have HWS2 := Aside0.mk hws'
            clear hws hws'
            have hen := end_at hj2 HV.out HWS2.out
            have HEN := Aside0.mk hen
            clear hen
            go_wp2_with fail
            refine (tdparse_IsWhitespace.calls l[j] false _ (by rw [ws_f (HAT.out j hj2), HWS2.out]) (HT _)).mono ?_
            rintro e w1 ⟨rfl, ⟨m3, rfl⟩⟩
            obtain ⟨i0, hi0, _, hsz, _⟩ := info_parts infoT
            have hcut := cut_mid (P := Tryd.prog) 22 5 .i64 .i64 Tryd.underlying22 hi0 1 hsz (some ad) l.length c0 (k : Int) ((j : Int) + 1) (by omega) (by omega) (by omega) HC.out
            have hmid := Kd.C_mid (c := c0) (lo := k) (hi := j + 1) HR.out (by omega) (by omega) HC.out
            have hne : ¬ (c0 = k) := by have := HC.out; omega
            rw [Int.toNat_natCast, if_neg hne, show ((j : Int) + 1).toNat = j + 1 by omega, Option.map_some, Nat.mul_one] at hcut
            rw [if_neg hne, Option.map_some, show k * (Kd.int .u8).sz = k from Nat.mul_one k] at hmid
            have HMID := Aside0.mk hmid
            clear hmid hne
            go_wp2
            go_ret
            have ht : trimI l = (l.take (j + 1)).drop k := by unfold trimI; rw [HST.out, HEN.out]
            have hlen : (trimI l).length = j + 1 - k := by rw [ht]; simp; omega
            refine ⟨some (ad.add k), c0 - k, by rw [hlen]; rfl, ?_, by have := HC.out; omega, by repeat (first | exact Drawn0.refl _ | apply Drawn0.step)⟩
            rw [ht]
            exact HMID.out
    · have hkk : k = l.length := by omega
      subst hkk
      rw [List.take_length] at HW
      have hst := start_all HW.out
      have ht : trimI l = [] := by unfold trimI; rw [hst]; exact List.drop_of_length_le (by rw [List.length_take]; exact Nat.min_le_right _ _)
      have HTT := Aside0.mk ht
      clear hst ht
      obtain ⟨i0, hi0, _, hsz, _⟩ := info_parts infoT
      have hcut := cut_mid (P := Tryd.prog) 22 5 .i64 .i64 Tryd.underlying22 hi0 1 hsz A0 l.length c0 (l.length : Int) (l.length : Int) (by omega) (by omega) (by omega) HC.out
      rw [Int.toNat_natCast, Nat.sub_self] at hcut
      obtain ⟨A2, hA2⟩ : ∃ A2, A2 = (if c0 = l.length then A0 else A0.map (·.add (l.length * 1))) := ⟨_, rfl⟩
      rw [← hA2] at hcut
      have HA2 := Aside0.mk hA2
      clear hA2
      have hge : ¬ ((l.length : Int) ≤ (l.length : Int) - 1) := by omega
      go_wp2
      refine wp_loop_rounds 1 ?_
      rw [rounds_succ]
      go_wp2
      go_ret
      refine ⟨A2, c0 - l.length, by rw [HTT.out]; rfl, ?_, by rw [HTT.out]; simp, by repeat (first | exact Drawn0.refl _ | apply Drawn0.step)⟩
      rw [HTT.out]
      exact ⟨rfl, by simp, fun h => by simp at h⟩
def impl_Trim.f (l0 : List Int) : Option (List Int) := if l0.length < 140737488355328 ∧ l0.all byI = true then some (trimI l0) else none
end Go.Proofs.YthejmpldfndbfaaDoor.Own
