/- The contracts of the functions ToLower (it writes into the slice that it is given) and Lower (a new slice with small letters for large ones). -/
import Derived.Test.YtbpmfmkdpjajhaaCown
import Derived.Outline
namespace Go.Proofs.Ytbpmfmkdpjajhaa.Own
open Go.RowKit Go.Proofs.YtbpmfmkdpjajhaaW.PrintWords Go.Proofs.YtbpmfmkdpjajhaaW.PrintLast
set_option linter.unusedVariables false
set_option linter.unusedSimpArgs false
def lowI (c : Int) : Int := if 65 ≤ c ∧ c ≤ 90 then c + 32 else c
def lowMix (l : List Int) (k : Nat) : List Int := (l.take k).map lowI ++ l.drop k
theorem lowMix_len (l : List Int) (k : Nat) : (lowMix l k).length = l.length := by simp [lowMix]; omega
theorem lowMix_at {l : List Int} {k : Nat} (h : k < l.length) : rdOf 0 (lowMix l k) (k : Int) = l[k] := by
  simp [rdOf, lowMix, List.getD_eq_getElem?_getD, List.getElem?_append_right, Nat.min_eq_left (Nat.le_of_lt h), h]
theorem lowMix_set {l : List Int} {k : Nat} (h : k < l.length) : (lowMix l k).set k (lowI l[k]) = lowMix l (k + 1) := by
  unfold lowMix
  have e : k - ((l.take k).map lowI).length = 0 := by simp; omega
  rw [List.take_succ_eq_append_getElem h, List.map_append, List.set_append_right _ _ (by simp; omega), e, List.drop_eq_getElem_cons h, List.set_cons_zero]
  simp only [List.append_assoc, List.map_cons, List.map_nil, List.singleton_append]
theorem lowMix_end (l : List Int) : lowMix l l.length = l.map lowI := by simp [lowMix]
theorem lowMix_keep {l : List Int} {k : Nat} (h : k < l.length) (hc : lowI l[k] = l[k]) : lowMix l k = lowMix l (k + 1) := by
  rw [← lowMix_set h, hc]
  apply List.ext_getElem?
  intro j
  rw [List.getElem?_set]
  split
  · rename_i e
    subst e
    have := lowMix_at h
    simp only [rdOf, Int.toNat_natCast, List.getD_eq_getElem?_getD] at this
    rw [lowMix_len, if_pos h]
    rw [List.getElem?_eq_getElem (by rw [lowMix_len]; exact h)] at this ⊢
    simp at this
    rw [this]
  · rfl
set_option maxHeartbeats 1000000 in
theorem tolower_any (g cap base : Nat) (ok : Nat → Prop) (l : List Int) (w : World) (h : Kd.R (Kd.int .u8) 5 w base ok (.slice (some ⟨g, 0, none⟩) l.length cap) l) (hm : l.length ≤ 140737488355328) :
    Calls Try.prog 40 #[.slice (some ⟨g, 0, none⟩) l.length cap] w fun e w' => e = .returned (.slice (some ⟨g, 0, none⟩) l.length cap) ∧
      Kd.R (Kd.int .u8) 5 w' base ok (.slice (some ⟨g, 0, none⟩) l.length cap) (l.map lowI) ∧ w.grownBy w' (some g) := by
  have H0 := Aside0.mk h
  clear h
  go_enter Try.func40, Try.ntmps40
  go_wp2
  go_loopw [7] (fun i wr => ∃ k : Nat, k ≤ l.length ∧ i = .int .i64 k ∧ Aside0 (Kd.R (Kd.int .u8) 5 wr base ok (.slice (some ⟨g, 0, none⟩) l.length cap) (lowMix l k)) ∧ Aside0 (w.grownBy wr (some g)))
    (fun i _ => l.length - (intOf i).toNat)
  case atStart => exact ⟨0, Nat.zero_le _, rfl, ⟨by simpa [lowMix] using H0.out⟩, ⟨World.grownBy.refl w _⟩⟩
  case round =>
    obtain ⟨k, hk, rfl, HR, HG⟩ := hrel
    by_cases hlt : k < l.length
    · obtain ⟨hc, hf⟩ := Kd.R_celln (0 : Int) HR.out (k : Int) (by omega) (by omega)
      rw [lowMix_at hlt] at hc
      simp only [Int.toNat_natCast] at hc hf
      obtain ⟨c, hcc⟩ : ∃ c, c = l[k] := ⟨_, rfl⟩
      rw [← hcc] at hc
      have HC := Aside0.mk hcc
      clear hcc
      go_wp2
      · have hup : lowI l[k] = c + 32 := by rw [← HC.out]; unfold lowI; rw [if_pos ⟨by assumption, by assumption⟩]
        go_roundw
        case rel =>
          obtain ⟨h1, h2⟩ := Kd.R_putg (n := l.length) HR.out (k : Int) (c + 32)
          refine ⟨k + 1, by omega, by go_num, ⟨?_⟩, ⟨World.grownBy.trans HG.out h2⟩⟩
          rw [← lowMix_set hlt, hup]
          exact h1
        case measure => simp [intOf]; omega
      · have hup : lowI l[k] = l[k] := by rw [← HC.out]; unfold lowI; rw [if_neg (by omega)]
        go_roundw
        case rel => exact ⟨k + 1, by omega, by go_num, ⟨by rw [← lowMix_keep hlt hup]; exact HR.out⟩, HG⟩
        case measure => simp [intOf]; omega
      · have hup : lowI l[k] = l[k] := by rw [← HC.out]; unfold lowI; rw [if_neg (by omega)]
        go_roundw
        case rel => exact ⟨k + 1, by omega, by go_num, ⟨by rw [← lowMix_keep hlt hup]; exact HR.out⟩, HG⟩
        case measure => simp [intOf]; omega
    · have hkk : k = l.length := by omega
      subst hkk
      go_wp2
      go_ret
      exact ⟨rfl, by rw [← lowMix_end]; exact HR.out, HG.out⟩
set_option maxHeartbeats 1000000 in
theorem tolower_nil (w : World) (ok : Nat → Prop) (base : Nat) :
    Calls Try.prog 40 #[.slice none 0 0] w fun e w' => e = .returned (.slice none 0 0) ∧ w' = w := by
  go_enter Try.func40, Try.ntmps40
  go_wp2
  refine wp_loop_rounds 1 ?_
  rw [rounds_succ]
  go_wp2
  go_ret
  exact ⟨rfl, rfl⟩
def impl_Lower.f (l0 : List Int) : Option (List Int) := if l0.length < 140737488355328 then some (l0.map lowI) else none
set_option maxHeartbeats 1000000 in
theorem impl_Lower.calls (A0 : Option Addr) (c0 : Nat) (l0 : List Int) (r : List Int) (w : World) (hr0 : Kd.C (Kd.int .u8) w A0 l0.length l0) (hc0 : l0.length ≤ c0) (h : impl_Lower.f l0 = some r) :
    Calls Try.prog 18 #[.slice A0 l0.length c0] w fun e w' => ∃ v0_ : Value, e = .returned (v0_) ∧ Kd.R (Kd.int .u8) 5 w' w.heap.size (fun _ => True) v0_ r ∧ Below w.heap.size w w' := by
  unfold impl_Lower.f at h
  by_cases hl : l0.length < 140737488355328
  · rw [if_pos hl] at h
    obtain rfl := Option.some.inj h
    clear h
    have ho : impl_own.f l0 = some l0 := by unfold impl_own.f; simp [hl]
    have HO := Aside0.mk ho
    have HR := Aside0.mk hr0
    clear ho hr0
    go_enter Try.func18, Try.ntmps18
    go_wp2_with fail
    refine (impl_own.calls A0 c0 l0 l0 w HR.out hc0 HO.out).mono ?_
    rintro e w1 ⟨v, rfl, hv, hb⟩
    have HV := Aside0.mk hv
    have HB := Aside0.mk hb
    clear hv hb
    rcases (Kd.own_of_R HV.out).2 with ⟨rfl, h0⟩ | ⟨g, cap, cur, rfl, hg, _⟩
    · obtain rfl := List.eq_nil_of_length_eq_zero h0
      go_wp2_with fail
      refine (tolower_nil w1 (fun _ => True) w.heap.size).mono ?_
      rintro e w2 ⟨rfl, rfl⟩
      go_wp2
      go_ret
      exact ⟨_, rfl, HV.out, HB.out⟩
    · go_wp2_with fail
      refine (tolower_any g cap w.heap.size (fun _ => True) l0 w1 HV.out (by omega)).mono ?_
      rintro e w2 ⟨rfl, h2, h3⟩
      have HR2 := Aside0.mk h2
      have HG2 := Aside0.mk h3
      clear h2 h3
      go_wp2
      go_ret
      exact ⟨_, rfl, by simpa using HR2.out, HB.out.grown HG2.out HB.out.size (fun k hk => by obtain rfl := Option.some.inj hk; exact hg)⟩
  · rw [if_neg hl] at h
    cases h
end Go.Proofs.Ytbpmfmkdpjajhaa.Own
