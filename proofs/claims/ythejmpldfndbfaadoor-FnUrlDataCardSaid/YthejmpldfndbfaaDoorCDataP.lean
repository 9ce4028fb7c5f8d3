/- The contract of impl.DataURI, of a data URI with a media type (without parameters) and data that is not in base 64. -/
import Derived.Test.YthejmpldfndbfaaDoorCDataG
namespace Go.Proofs.YthejmpldfndbfaaDoor.Own
open Go.RowKit Go.Proofs.YthejmpldfndbfaaDoorW.PrintWords Go.Proofs.YthejmpldfndbfaaDoorW.PrintLast
set_option linter.unusedVariables false
set_option linter.unusedSimpArgs false
/-- What two new rows hold. -/
def TwoRows (r0 r1 : List Int) (r2 : Bool) (w : World) (e : Ending) (w' : World) : Prop :=
  ∃ v0_ v1_ : Value, e = .returned (.tuple #[v0_, v1_, .bool r2]) ∧ Kd.R (Kd.int .u8) 5 w' w.heap.size (fun _ => True) v0_ r0 ∧ Kd.R (Kd.int .u8) 5 w' w.heap.size (fun _ => True) v1_ r1 ∧ Below w.heap.size w w'
set_option maxRecDepth 20000 in
set_option maxHeartbeats 2000000 in
theorem impl_good (A0 : Option Addr) (c0 : Nat) (m r l0 : List Int) (w : World) (hl0 : l0 = preD ++ (m ++ 44 :: r)) (hr0 : Kd.C (Kd.int .u8) w A0 l0.length l0) (hc0 : l0.length ≤ c0) (hl : l0.length < 140737488355328) (hby : r.all byD = true) (hbm : m.all byI = true)
    (hsep : ∀ c ∈ m, c ≠ 61 ∧ c ≠ 59 ∧ c ≠ 44) (h64 : eqB (trimI m) b64 = false) (HTabW : Aside0 (TabW w)) :
    Calls Tryd.prog 6 #[.slice A0 l0.length c0] w (TwoRows (mime m) (decI r) true w) := by
  have ho : ∀ l : List Int, l.length < 140737488355328 → impl_own.f l = some l := fun l hl => by unfold impl_own.f; simp [hl]
  have hml : (mime m).length < 140737488355328 := by
    have h1 := trim_len m
    have h2 : m.length ≤ l0.length := by rw [hl0]; simp; omega
    unfold mime
    split
    · simp [plainT]
    · omega
  have hdl : (decI r).length < 140737488355328 := by
    have h1 := decI_len r.length r (Nat.le_refl _)
    have h2 : r.length ≤ l0.length := by rw [hl0]; simp; omega
    omega
  have HO := Aside0.mk ho
  have HR := Aside0.mk hr0
  have HML := Aside0.mk (And.intro hml hdl)
  have HH := Aside0.mk (And.intro hl0 (And.intro hby (And.intro hbm (And.intro hsep h64))))
  clear ho hr0 hml hdl hl0 hby hbm hsep h64
  go_enter Tryd.func6, Tryd.ntmps6
  go_wp2_with fail
  (with_reducible refine (impl_own.calls A0 c0 l0 l0 w HR.out hc0 (HO.out _ hl)).mono ?_)
  rintro e w1 ⟨v, rfl, hv, hb⟩
  have HV := Aside0.mk hv
  have HB := Aside0.mk hb
  clear hv hb
  obtain ⟨g, cap, rfl, hg⟩ : ∃ g cap, v = .slice (some ⟨g, 0, none⟩) l0.length cap ∧ w.heap.size ≤ g := by
    rcases (Kd.own_of_R HV.out).2 with ⟨_, h0⟩ | ⟨g, cap, cur, rfl, hg, _⟩
    · have := HH.out.1
      rw [this] at h0
      simp [preD] at h0
    · exact ⟨g, cap, rfl, hg⟩
  have HV' : Aside0 (Kd.R (Kd.int .u8) 5 w1 w.heap.size (fun _ => True) (.slice (some ⟨g, 0, none⟩) l0.length cap) (preD ++ (m ++ 44 :: r))) := ⟨HH.out.1 ▸ HV.out⟩
  go_wp2_with fail
  (with_reducible refine (datauri_good g cap w.heap.size l0.length m r w1 HV'.out hl HB.out.size hg HH.out.2.1 HH.out.2.2.1 HH.out.2.2.2.1 HH.out.2.2.2.2 ⟨tabW_below HTabW.out HB.out⟩).mono ?_)
  rintro e w2 ⟨A1, c1, A2, c2, rfl, hC1, hc1, hC2, hc2, hb2⟩
  have HC1 : Aside0 (Kd.C (Kd.int .u8) w2.drew A1 (mime m).length (mime m)) := ⟨Kd.C_below hC1 (pw_below_drewN (Below.refl _ _) 1)⟩
  have HC2 : Aside0 (Kd.C (Kd.int .u8) w2.drew A2 (decI r).length (decI r)) := ⟨Kd.C_below hC2 (pw_below_drewN (Below.refl _ _) 1)⟩
  have HB2 := Aside0.mk (HB.out.trans hb2)
  clear hC1 hC2 hb2
  go_wp2
  go_region_with (first | (go_at_call 12; have hq := HV3.out; clear hq; (with_reducible refine (impl_own.calls A2 c2 (decI r) (decI r) w3 (Kd.C_below HC2.out HB3.out) hc2 (HO.out _ HML.out.2)).mono ?_); rintro e_ w4 ⟨v4, rfl, hv4, hb4⟩; have HV4 := Aside0.mk hv4; have HB4 := Aside0.mk hb4; clear hv4 hb4) | (go_at_call 12; (with_reducible refine (impl_own.calls A1 c1 (mime m) (mime m) w2.drew HC1.out hc1 (HO.out _ HML.out.1)).mono ?_); rintro e_ w3 ⟨v3, rfl, hv3, hb3⟩; have HV3 := Aside0.mk hv3; have HB3 := Aside0.mk hb3; clear hv3 hb3))
  have hs : w.heap.size ≤ w2.heap.size := HB2.out.size
  have hs3 : w2.heap.size ≤ w3.heap.size := HB3.out.size
  have b2 : Below w.heap.size w w2.drew := pw_below_drewN HB2.out 1
  have b3 : Below w.heap.size w w3 := below_step b2 HB3.out
  have HBB := Aside0.mk (below_step b3 HB4.out)
  have HX := Aside0.mk (Kd.R_below (Kd.R_lower HV3.out hs) HB4.out)
  have HY := Aside0.mk (Kd.R_lower HV4.out (Nat.le_trans hs hs3))
  clear hs hs3 b2 b3
  go_wp2
  go_ret3
  exact ⟨v3, v4, rfl, HX.out, HY.out, HBB.out⟩
def notSep (c : Int) : Bool := !(c == 61 || (c == 59 || c == 44))
/-- What is told of a URI whose media type has no parameters, and whose data is not in base 64. -/
def impl_DataURI.f (l : List Int) : Option (List Int × List Int × Bool) :=
  if l.length < 140737488355328 ∧ l = preD ++ ((l.drop 5).takeWhile notSep ++ 44 :: (l.drop 5).drop (((l.drop 5).takeWhile notSep).length + 1)) ∧ ((l.drop 5).drop (((l.drop 5).takeWhile notSep).length + 1)).all byD = true ∧ ((l.drop 5).takeWhile notSep).all byI = true ∧ eqB (trimI ((l.drop 5).takeWhile notSep)) b64 = false then
    some (mime ((l.drop 5).takeWhile notSep), decI ((l.drop 5).drop (((l.drop 5).takeWhile notSep).length + 1)), true)
  else none
theorem takeWhile_sep (l : List Int) : ∀ c ∈ l.takeWhile notSep, c ≠ 61 ∧ c ≠ 59 ∧ c ≠ 44 := by
  intro c hc
  have := List.all_takeWhile (p := notSep) (l := l)
  rw [List.all_eq_true] at this
  have := this c hc
  unfold notSep at this
  simp at this
  exact ⟨this.1, this.2.1, this.2.2⟩
theorem impl_DataURI.calls (A0 : Option Addr) (c0 : Nat) (l0 : List Int) (r0 r1 : List Int) (r2 : Bool) (w : World) (hr0 : Kd.C (Kd.int .u8) w A0 l0.length l0) (hc0 : l0.length ≤ c0) (h : impl_DataURI.f l0 = some (r0, r1, r2)) (HTabW : Aside0 (TabW w)) :
    Calls Tryd.prog 6 #[.slice A0 l0.length c0] w fun e w' => ∃ v0_ v1_ : Value, e = .returned (.tuple #[v0_, v1_, .bool r2]) ∧ Kd.R (Kd.int .u8) 5 w' w.heap.size (fun _ => True) v0_ r0 ∧ Kd.R (Kd.int .u8) 5 w' w.heap.size (fun _ => True) v1_ r1 ∧ Below w.heap.size w w' := by
  unfold impl_DataURI.f at h
  split at h
  · rename_i hx
    obtain ⟨hl, e1, e2, e3, e4⟩ := hx
    injection h with h
    injection h with h1 h2
    injection h2 with h2 h3
    subst h1 h2 h3
    exact impl_good A0 c0 _ _ l0 w e1 hr0 hc0 hl e2 e3 (takeWhile_sep _) e4 HTabW
  · cases h
end Go.Proofs.YthejmpldfndbfaaDoor.Own
