/- The contract of DataURI, of a data URI with a media type (without parameters) and data that is not in base 64. -/
import Derived.Test.YthejmpldfndbfaaDoorCDataV
import Derived.Test.YthejmpldfndbfaaDoorCDecodeO
import Derived.Test.YthejmpldfndbfaaDoorCTrim
namespace Go.Proofs.YthejmpldfndbfaaDoor.Own
open Go.RowKit Go.Proofs.YthejmpldfndbfaaDoorW.PrintWords Go.Proofs.YthejmpldfndbfaaDoorW.PrintLast
set_option linter.unusedVariables false
set_option linter.unusedSimpArgs false
def preD : List Int := [100, 97, 116, 97, 58]
def b64 : List Int := [98, 97, 115, 101, 54, 52]
def plainT : List Int := [116, 101, 120, 116, 47, 112, 108, 97, 105, 110]
def eqB (xs ys : List Int) : Bool := (strOfNums xs).toList == (strOfNums ys).toList
/-- The media type that is told. -/
def mime (m : List Int) : List Int := if trimI m = [] then plainT else trimI m
theorem equal_any (A : Option Addr) (c : Nat) (xs : List Int) (A1 : Option Addr) (c1 : Nat) (ys : List Int) (w : World) (hC : Kd.C (Kd.int .u8) w A xs.length xs) (hc : xs.length ≤ c) (h1 : Kd.C (Kd.int .u8) w A1 ys.length ys) (hc1 : ys.length ≤ c1) :
    Calls Tryd.prog 15 #[.slice A xs.length c, .slice A1 ys.length c1] w fun e w' => e = .returned (.bool (eqB xs ys)) ∧ Drawn0 w w' :=
  bytes_Equal.calls A c xs A1 c1 ys (eqB xs ys) w hC hc h1 hc1 (by unfold bytes_Equal.f eqB; rfl)
set_option maxHeartbeats 1000000 in
theorem decode_zero (A : Option Addr) (c : Nat) (w : World) : Calls Tryd.prog 22 #[.slice A 0 c] w fun e w' => e = .returned (.slice A 0 c) ∧ w' = w := by
  go_enter Tryd.func22, Tryd.ntmps22
  go_wp2
  refine wp_loop_rounds 1 ?_
  rw [rounds_succ]
  go_wp2
  go_ret
  exact ⟨rfl, rfl⟩
/-- What the data becomes. -/
def DecPost (g : Nat) (r : List Int) (W : World) (e : Ending) (w' : World) : Prop :=
  ∃ A2 c2, e = .returned (.slice A2 (decI r).length c2) ∧ Kd.C (Kd.int .u8) w' A2 (decI r).length (decI r) ∧ (decI r).length ≤ c2 ∧ W.grownBy w' (some g)
theorem drop_pre {p l : List Int} {k : Nat} (h : k = p.length) : (p ++ l).drop k = l := by subst h; exact List.drop_left
theorem decode_tail (g cap base n M D k : Nat) (m r : List Int) (W : World) (hR : Kd.R (Kd.int .u8) 5 W base (fun _ => True) (.slice (some ⟨g, 0, none⟩) n cap) (preD ++ (m ++ 44 :: r))) (hk : k = m.length) (hn : n < 140737488355328)
    (hM : M = n - 5 - (k + 1)) (hD : D = cap - 5 - (k + 1)) (hby : r.all byD = true) :
    Calls Tryd.prog 22 #[.slice (if cap - 5 = k + 1 then some ⟨g, 5, none⟩ else some ⟨g, 5 + (k + 1), none⟩) M D] W (DecPost g r W) := by
  obtain ⟨hl, hnc, hC⟩ := Kd.R_reads' hR
  have hl' : n = 5 + (k + 1) + r.length := by rw [hl, hk]; simp [preD]; omega
  by_cases hc : cap - 5 = k + 1
  · obtain rfl : r = [] := List.eq_nil_of_length_eq_zero (by omega)
    obtain rfl : M = 0 := by omega
    rw [if_pos hc]
    refine (decode_zero _ _ W).mono ?_
    rintro e w' ⟨rfl, rfl⟩
    exact ⟨_, _, by rw [decI]; rfl, by rw [decI]; exact ⟨rfl, by simp, fun h => by simp at h⟩, by rw [decI]; simp, World.grownBy.refl _ _⟩
  · rw [if_neg hc]
    have hpre : preD ++ (m ++ 44 :: r) = (preD ++ (m ++ [44])) ++ r := by simp
    rw [hpre] at hR
    have hp : 5 + (k + 1) = (preD ++ (m ++ [44])).length := by rw [hk]; simp [preD]; omega
    have hn0 : n = 5 + (k + 1) + M := by omega
    rw [hn0] at hR
    have := decode_off g cap base M (5 + (k + 1)) (preD ++ (m ++ [44])) r hp W hR (by omega) (by omega) hby
    rw [show cap - (5 + (k + 1)) = D by omega] at this
    refine this.mono ?_
    rintro e w' ⟨n', rfl, hR', hg⟩
    obtain ⟨h1, h2, h3⟩ := Kd.R_reads' hR'
    have hnl : n' = (decI r).length := by rw [List.length_append, ← hp] at h1; omega
    subst hnl
    have hq := Kd.C_drop (m := 5 + (k + 1)) (c := cap) h3 (by rw [List.length_append, ← hp]; omega) (by omega)
    rw [drop_pre hp] at hq
    rw [Option.map_some, show (5 + (k + 1)) * (Kd.int .u8).sz = 5 + (k + 1) from Nat.mul_one _, add_plain] at hq
    by_cases hd : (decI r).length = 0
    · have e0 : decI r = [] := List.eq_nil_of_length_eq_zero hd
      exact ⟨_, _, rfl, by rw [e0]; exact ⟨rfl, by simp, fun h => by simp at h⟩, by omega, hg⟩
    · rw [if_neg (by omega)] at hq
      exact ⟨_, _, rfl, hq, by omega, hg⟩
theorem rd_in {m r : List Int} {k : Nat} (h : k < m.length) : rdOf 0 (preD ++ (m ++ 44 :: r)) ((5 + k : Nat) : Int) = m[k] := by
  unfold rdOf
  rw [Int.toNat_natCast, List.getD_eq_getElem?_getD, List.getElem?_append_right (by simp [preD]), show 5 + k - preD.length = k by simp [preD], List.getElem?_append_left h, List.getElem?_eq_getElem h]
  rfl
theorem rd_sep {m r : List Int} {k : Nat} (h : k = m.length) : rdOf 0 (preD ++ (m ++ 44 :: r)) ((5 + k : Nat) : Int) = 44 := by
  subst h
  unfold rdOf
  rw [Int.toNat_natCast, List.getD_eq_getElem?_getD, List.getElem?_append_right (by simp [preD]), show 5 + m.length - preD.length = m.length by simp [preD], List.getElem?_append_right (Nat.le_refl _), Nat.sub_self]
  rfl
theorem mid_m {m r : List Int} : ((preD ++ (m ++ 44 :: r)).take (5 + m.length)).drop 5 = m := by
  have h5 : preD.length = 5 := rfl
  rw [← h5, List.take_length_add_append, List.drop_left', List.take_left]
  rfl
theorem trim_len (m : List Int) : (trimI m).length ≤ m.length := by unfold trimI; simp; omega
theorem trim_mem {m : List Int} {c : Int} (h : c ∈ trimI m) : c ∈ m := List.mem_of_mem_take (List.mem_of_mem_drop h)
/-- What the part without white space at its ends is. -/
def TrimPost (m : List Int) (w : World) (e : Ending) (w' : World) : Prop :=
  ∃ A1 c1, e = .returned (.slice A1 (trimI m).length c1) ∧ Kd.C (Kd.int .u8) w' A1 (trimI m).length (trimI m) ∧ (trimI m).length ≤ c1 ∧ Drawn0 w w'
theorem trim_k (A0 : Option Addr) (c0 k : Nat) (m : List Int) (w : World) (hk : k = m.length) (hr : Kd.C (Kd.int .u8) w A0 m.length m) (hc : m.length ≤ c0) (hm : m.length < 140737488355328) (hb : m.all byI = true) (HTabW : Aside0 (TabW w)) :
    Calls Tryd.prog 17 #[.slice A0 k c0] w (TrimPost m w) := by
  subst hk
  exact trimws_any A0 c0 m w hr hc hm hb HTabW
theorem tabW_below {w w' : World} (h : TabW w) (hb : Below w.heap.size w w') : TabW w' := TabAt.below h hb
theorem shape_nil {e : Nat} {w : World} {base : Nat} {ok : Nat → Prop} {v : Value} {xs : List Int} (h : Kd.R (Kd.int .u8) e w base ok v ([] ++ xs)) (hx : xs = []) : ∃ A c, v = .slice A 0 c := by
  subst hx
  exact Kd.R_slice h
theorem shape_cons {e : Nat} {w : World} {base : Nat} {ok : Nat → Prop} {v : Value} {xs : List Int} {c0 : Int} {t : List Int} {L : Nat} (h : Kd.R (Kd.int .u8) e w base ok v ([] ++ xs)) (hx : xs = c0 :: t) (hL : L = xs.length) : ∃ g c, v = .slice (some ⟨g, 0, none⟩) L c ∧ w.cell? ⟨g, 0, none⟩ = some (.int .u8 c0) := by
  rw [List.nil_append] at h
  rcases (Kd.own_of_R h).2 with ⟨_, h0⟩ | ⟨g, cap, cur, hv, _⟩
  · rw [hx] at h0
    cases h0
  · subst hv
    refine ⟨g, cap, by rw [hL], ?_⟩
    have := (Kd.R_celln (0 : Int) h 0 (by omega) (by rw [hx]; simp <;> omega)).1
    rw [hx] at this
    exact this
/-- What is told of such a URI. -/
def GoodPost (base : Nat) (m r : List Int) (w : World) (e : Ending) (w' : World) : Prop :=
  ∃ A1 c1 A2 c2, e = .returned (.tuple #[.slice A1 (mime m).length c1, .slice A2 (decI r).length c2, .nilIface]) ∧ Kd.C (Kd.int .u8) w' A1 (mime m).length (mime m) ∧ (mime m).length ≤ c1 ∧ Kd.C (Kd.int .u8) w' A2 (decI r).length (decI r) ∧ (decI r).length ≤ c2 ∧ Below base w w'
set_option maxRecDepth 20000 in
set_option maxHeartbeats 4000000 in
theorem datauri_good (g cap base n : Nat) (m r : List Int) (w : World) (hR : Kd.R (Kd.int .u8) 5 w base (fun _ => True) (.slice (some ⟨g, 0, none⟩) n cap) (preD ++ (m ++ 44 :: r))) (hm : n < 140737488355328) (hbase : base ≤ w.heap.size) (hbg : base ≤ g) (hby : r.all byD = true) (hbm : m.all byI = true)
    (hsep : ∀ c ∈ m, c ≠ 61 ∧ c ≠ 59 ∧ c ≠ 44) (h64 : eqB (trimI m) b64 = false) (HTabW : Aside0 (TabW w)) :
    Calls Tryd.prog 11 #[.slice (some ⟨g, 0, none⟩) n cap] w (GoodPost base m r w) := by
  obtain ⟨hl, hnc, hC⟩ := Kd.R_reads' hR
  have hln : n = 5 + (m.length + (r.length + 1)) := by rw [hl]; simp [preD]; omega
  have hglt : g < w.heap.size := Kd.R_lt hR g (by simp [Value.ownBlock])
  have hC5 : Kd.C (Kd.int .u8) w (some ⟨g, 0, none⟩) 5 preD := by
    have := Kd.C_take (m := 5) hC (by simp [preD])
    simpa [preD] using this
  have HE := Aside0.mk (fun A1 c1 w1 (hb : Below w.heap.size w w1) (h1 : Kd.C (Kd.int .u8) w1 A1 5 [100, 97, 116, 97, 58]) (hc1 : 5 ≤ c1) =>
    show Calls Tryd.prog 15 #[.slice (some ⟨g, 0, none⟩) 5 cap, .slice A1 5 c1] w1 (fun e w' => e = .returned (.bool true) ∧ Drawn0 w1 w') from by
      have := equal_any (some ⟨g, 0, none⟩) cap preD A1 c1 preD w1 (by exact Kd.C_below hC5 hb) (by simp [preD]; omega) h1 hc1
      have e : eqB preD preD = true := by unfold eqB; simp
      rw [e] at this
      exact this)
  have HR := Aside0.mk hR
  have HCM := Aside0.mk hC
  obtain ⟨N, hN⟩ : ∃ N, n = N + 5 := ⟨n - 5, by omega⟩
  obtain ⟨C, hC'⟩ : ∃ C, cap = C + 5 := ⟨cap - 5, by omega⟩
  have HNC := Aside0.mk (And.intro hN (And.intro hC' (And.intro hln hnc)))
  have hb0 : decide ((n : Int) > 5) = true := decide_eq_true (by omega)
  have hb2 : ((n : Int) > 5) := by omega
  have hb3 : 5 < n := by omega
  have hb4 : 5 ≤ cap := by omega
  have HSEP := Aside0.mk hsep
  have H64 := Aside0.mk h64
  have HBY := Aside0.mk (And.intro hby hbm)
  have HB0 := Aside0.mk hbase
  have HGL := Aside0.mk hglt
  clear hR hC hC5 hl hln hsep h64 hby hbm hbase hglt hN hC' hnc
  go_enter Tryd.func11, Tryd.ntmps11
  go_wp2
  go_region_with (first | (go_at_call 16; (with_reducible refine (tdparse_dataSchemeBytes.calls _ _ rfl).mono ?_); rintro e_ w1 ⟨v1, rfl, hv1, hbx⟩; obtain ⟨A1, c1, rfl⟩ := Kd.V_slice hv1; have HV1 : Aside0 (Kd.C (Kd.int .u8) w1 A1 5 [100, 97, 116, 97, 58] ∧ 5 ≤ c1) := ⟨⟨(Kd.V_reads' hv1).2.2, (Kd.V_reads' hv1).2.1⟩⟩; have HB1 : Aside0 (Below w.heap.size w w1) := ⟨(pw_below_drewN (Below.refl w.heap.size w) 1).trans hbx⟩; have HEE := Aside0.mk (HE.out A1 c1 w1 HB1.out HV1.out.1 HV1.out.2); clear hv1 hbx) | (go_at_call 15; (with_reducible refine HEE.out.mono ?_); rintro e_ w2 ⟨rfl, hd2⟩; have HD2 := Aside0.mk hd2; clear hd2))
  all_goals
    have hB2 : Below w.heap.size w w2 := by obtain ⟨⟨k, e⟩⟩ := HD2.out; rw [e]; exact pw_below_drewN HB1.out k
    have HB2 := Aside0.mk hB2
    clear hB2 HE HEE HV1 hb0 hb2
    obtain ⟨i0, hi0, _, hsz, _⟩ := info_parts infoT
    have hcut := cut_from (P := Tryd.prog) 22 5 .i64 Tryd.underlying22 hi0 1 hsz (some ⟨g, 0, none⟩) n cap 5 (by omega) (by omega)
    have hc5 : ¬ cap = 5 := by have := HNC.out; omega
    rw [show (5 : Int).toNat = 5 from rfl, if_neg hc5, Option.map_some, add_off, show 0 + 5 * 1 = 5 from rfl, show n - 5 = N by have := HNC.out; omega, show cap - 5 = C by have := HNC.out; omega] at hcut
    have HR2 := Aside0.mk (Kd.R_below HR.out HB2.out)
    have HT2 : Aside0 (TabW w2) := ⟨tabW_below HTabW.out HB2.out⟩
    clear hi0 hsz hc5
    go_wp2
    clear hcut hb3 hb4
    have hNb : N < 140737488355328 := by have := HNC.out; omega
    go_loop [5, 6, 7, 8] (fun b md i j => ∃ k : Nat, k ≤ m.length ∧ b = .bool false ∧ md = .slice none 0 0 ∧ i = .int .i64 0 ∧ j = .int .i64 k) (fun _ _ _ j => m.length - (intOf j).toNat)
    case atStart => exact ⟨0, Nat.zero_le _, rfl, rfl, rfl, rfl⟩
    case round =>
      obtain ⟨k, hk, rfl, rfl, rfl, rfl⟩ := hrel
      have hkN : k < N := by have := HNC.out; omega
      obtain ⟨hcell, hfr⟩ := Kd.R_celln (0 : Int) HR2.out ((5 + k : Nat) : Int) (by omega) (by have := HNC.out; omega)
      rw [Int.toNat_natCast] at hcell
      clear hfr
      by_cases hlt : k < m.length
      · rw [rd_in hlt] at hcell
        obtain ⟨hc1, hc2, hc3⟩ := HSEP.out m[k] (List.getElem_mem hlt)
        generalize m[k] = c at hcell hc1 hc2 hc3
        have hb1 : (c == 61) = false := by simpa using hc1
        have hb2 : (c == 59) = false := by simpa using hc2
        have hb3 : (c == 44) = false := by simpa using hc3
        clear hc1 hc2 hc3
        go_wp2
        go_round
        case rel => exact ⟨k + 1, by omega, rfl, rfl, rfl, by go_num⟩
        case measure => simp [intOf]; omega
      · have hkm : k = m.length := by omega
        have HK := Aside0.mk hkm
        rw [rd_sep hkm] at hcell
        clear hlt hkm hk
        obtain ⟨i0, hi0, _, hsz, _⟩ := info_parts infoT
        have hcut1 := cut_mid (P := Tryd.prog) 22 5 .i64 .i64 Tryd.underlying22 hi0 1 hsz (some ⟨g, 5, none⟩) N C 0 (k : Int) (by omega) (by omega) (by omega) (by have := HNC.out; omega)
        simp only [Int.toNat_natCast, Int.toNat_zero, Nat.sub_zero, Nat.zero_mul, Option.map_some, add_off, Nat.add_zero, ite_self] at hcut1
        have hcut2 := cut_from (P := Tryd.prog) 22 5 .i64 Tryd.underlying22 hi0 1 hsz (some ⟨g, 5, none⟩) N C ((k : Int) + 1) (by omega) (by omega)
        rw [show ((k : Int) + 1).toNat = k + 1 by omega, Option.map_some, add_off, Nat.mul_one] at hcut2
        have HDEC : ∀ W, Kd.R (Kd.int .u8) 5 W base (fun _ => True) (.slice (some ⟨g, 0, none⟩) n cap) (preD ++ (m ++ 44 :: r)) → Calls Tryd.prog 22 #[.slice (if C = k + 1 then some ⟨g, 5, none⟩ else some ⟨g, 5 + (k + 1), none⟩) (N - (k + 1)) (C - (k + 1))] W (DecPost g r W) := fun W hW => by
          have := decode_tail g cap base n (N - (k + 1)) (C - (k + 1)) k m r W hW HK.out (by have := HNC.out; omega) (by have := HNC.out; omega) (by have := HNC.out; omega) HBY.out.1
          rw [show cap - 5 = C by have := HNC.out; omega] at this
          exact this
        generalize (if C = k + 1 then some (⟨g, 5, none⟩ : Addr) else some ⟨g, 5 + (k + 1), none⟩) = AD at hcut2 HDEC
        generalize N - (k + 1) = M at hcut2 HDEC
        generalize C - (k + 1) = D at hcut2 HDEC
        have hw1 : wrap64 ((k : Int) + 1) = (k : Int) + 1 := by have := HNC.out; unfold wrap64; omega
        have HD := Aside0.mk HDEC
        have hCm : Kd.C (Kd.int .u8) w2 (some ⟨g, 5, none⟩) m.length m := by
          have h0 := Kd.C_mid (c := cap) (lo := 5) (hi := 5 + m.length) (Kd.R_reads' HR2.out).2.2 (by omega) (by simp [preD]; omega) (by rw [← (Kd.R_reads' HR2.out).1]; exact HNC.out.2.2.2)
          rw [if_neg (by have := HNC.out; omega), Option.map_some, show 5 * (Kd.int .u8).sz = 5 from rfl, add_off, mid_m] at h0
          exact h0
        have HCm := Aside0.mk hCm
        clear hi0 hsz HDEC hCm
        go_wp2_with fail
        (with_reducible refine (trim_k (some ⟨g, 5, none⟩) C k m w2 HK.out HCm.out (by have := HNC.out; omega) (by have := HNC.out; omega) HBY.out.2 HT2).mono ?_)
        rintro e w3 ⟨A3, c3, rfl, hC3, hc3, hd3⟩
        have HC3 := Aside0.mk (And.intro hC3 hc3)
        have HB3 := Aside0.mk hd3.below
        clear hC3 hc3 hd3
        go_wp2_with fail
        (with_reducible refine (tdparse_base64Bytes.calls b64 _ rfl).mono ?_)
        rintro e w4 ⟨v4, rfl, hv4, hb4⟩
        obtain ⟨A4, c4, rfl⟩ := Kd.V_slice hv4
        have HE4 := Aside0.mk (equal_any A3 c3 (trimI m) A4 c4 b64 w4 (Kd.C_below HC3.out.1 hb4) HC3.out.2 (Kd.V_reads' hv4).2.2 (Kd.V_reads' hv4).2.1)
        have HB4 := Aside0.mk (below_step HB3.out hb4)
        rw [H64.out] at HE4
        clear hv4 hb4 HC3
        go_wp2_with fail
        (with_reducible refine HE4.out.mono ?_)
        rintro e w5 ⟨rfl, hd5⟩
        have HB5 := Aside0.mk (below_step HB4.out hd5.below)
        clear hd5 HE4
        go_wp2_with fail
        (with_reducible refine (trim_k (some ⟨g, 5, none⟩) C k m w5 HK.out (Kd.C_below HCm.out HB5.out) (by have := HNC.out; omega) (by have := HNC.out; omega) HBY.out.2 ⟨tabW_below HT2.out HB5.out⟩).mono ?_)
        rintro e w6 ⟨A6, c6, rfl, hC6, hc6, hd6⟩
        have HC6 := Aside0.mk hC6
        have HB6 := Aside0.mk (below_step HB5.out hd6.below)
        have hlm : (trimI m).length ≤ m.length := trim_len m
        have HLM : Aside0 ((([] : List Int).length + (trimI m).length) * 1 ≤ 140737488355328) := ⟨by have := HNC.out; simp; omega⟩
        clear hC6 hc6 hd6 hlm
        by_cases ht : trimI m = []
        · have HMI : Aside0 (mime m = plainT) := ⟨by unfold mime; rw [if_pos ht]⟩
          have HTT := Aside0.mk ht
          clear ht
          go_wp2_with (at_builtin; refine Kd.R_append_row (Value.int .u8) (0 : Int) (w0 := w6) w6.heap.size rfl (.tmp 79) (.tmp 84) 22 5 (.int .u8 0) 1 rfl Tryd.underlying22 infoT rfl (by decide) (.slice none 0 0) [] (trimI m) A6 (trimI m).length c6 (fun k => w6.heap.size ≤ k) rfl rfl (fun _ h => h) (Kd.R_nil _ _ _ _ _) HC6.out (Below.refl _ _) (Nat.le_refl _) HLM.out ?_; intro v7 w7 hv7 hb7 hg7 hat7; have HB7 := Aside0.mk (below_step HB6.out hb7); obtain ⟨A7, c7, rfl⟩ := shape_nil hv7 HTT.out; clear hv7 hb7 hg7 hat7)
          go_wp2_with fail
          (with_reducible refine (tdparse_textMimeBytes.calls plainT _ rfl).mono ?_)
          rintro e w8 ⟨v8, rfl, hv8, hb8⟩
          obtain ⟨A8, c8, rfl⟩ := Kd.V_slice hv8
          have HV8 := Aside0.mk hv8
          have HB8 := Aside0.mk (below_step HB7.out hb8)
          clear hv8 hb8
          go_wp2_with fail
          (with_reducible refine (HD.out _ (Kd.R_below HR2.out HB8.out)).mono ?_)
          rintro e w9 ⟨A9, c9, rfl, hC9, hc9, hg9⟩
          have HC9 := Aside0.mk (And.intro hC9 (And.intro hc9 hg9))
          clear hC9 hc9 hg9
          go_wp2
          go_ret3
          obtain ⟨hC9, hc9, hg9⟩ := HC9.out
          have hV9 := Kd.V_grown HV8.out hg9 (fun k hk he => by obtain rfl := Option.some.inj he; have := HB7.out.size; have := HB2.out.size; have := HGL.out; omega)
          have hbel : Below base w w8 := ((HB2.out).mono HB0.out).trans (HB8.out.mono (Nat.le_trans HB0.out HB2.out.size))
          exact ⟨A8, c8, A9, c9, by rw [HMI.out]; rfl, by rw [HMI.out]; exact (Kd.V_reads' hV9).2.2, by rw [HMI.out]; exact (Kd.V_reads' hV9).2.1, hC9, hc9, hbel.grown hg9 (Nat.le_trans HB0.out (Nat.le_trans HB2.out.size HB8.out.size)) (fun k hk => by obtain rfl := Option.some.inj hk; exact hbg)⟩
        · have HMI : Aside0 (mime m = trimI m) := ⟨by unfold mime; rw [if_neg ht]⟩
          obtain ⟨c0, t0, ht0⟩ := List.exists_cons_of_ne_nil ht
          have hne0 : ¬ c0 = 59 := (HSEP.out c0 (trim_mem (by rw [ht0]; exact List.mem_cons_self ..))).2.1
          have hnb0 : (c0 == 59) = false := by simpa using hne0
          obtain ⟨L, hL⟩ : ∃ L, L = (trimI m).length := ⟨_, rfl⟩
          have hL0 : 0 < L := by rw [hL, ht0]; simp
          have hL1 : ((L : Int) == 0) = false := by simp; omega
          have hL2 : ¬ L = 0 := by omega
          have HTT := Aside0.mk (And.intro ht0 hL)
          clear ht ht0 hne0 hL
          go_wp2_with (at_builtin; refine Kd.R_append_row (Value.int .u8) (0 : Int) (w0 := w6) w6.heap.size rfl (.tmp 79) (.tmp 84) 22 5 (.int .u8 0) 1 rfl Tryd.underlying22 infoT rfl (by decide) (.slice none 0 0) [] (trimI m) A6 (trimI m).length c6 (fun k => w6.heap.size ≤ k) rfl rfl (fun _ h => h) (Kd.R_nil _ _ _ _ _) HC6.out (Below.refl _ _) (Nat.le_refl _) HLM.out ?_; intro v7 w7 hv7 hb7 hg7 hat7; have HV7 := Aside0.mk hv7; have HB7 := Aside0.mk (below_step HB6.out hb7); obtain ⟨g7, c7, rfl, hcell7⟩ := shape_cons hv7 HTT.out.1 HTT.out.2; clear hv7 hb7 hg7 hat7)
          go_wp2_with fail
          (with_reducible refine (HD.out _ (Kd.R_below HR2.out HB7.out)).mono ?_)
          rintro e w9 ⟨A9, c9, rfl, hC9, hc9, hg9⟩
          have HC9 := Aside0.mk (And.intro hC9 (And.intro hc9 hg9))
          clear hC9 hc9 hg9
          go_wp2
          go_ret3
          obtain ⟨hC9, hc9, hg9⟩ := HC9.out
          have hV9 := Kd.R_grown HV7.out hg9 (fun k hk he => by obtain rfl := Option.some.inj he; have := HB6.out.size; have := HB2.out.size; have := HGL.out; omega)
          obtain ⟨q1, q2, q3⟩ := Kd.R_reads' hV9
          rw [List.nil_append] at q1 q3
          have hbel : Below base w w7 := ((HB2.out).mono HB0.out).trans (HB7.out.mono (Nat.le_trans HB0.out HB2.out.size))
          exact ⟨_, c7, A9, c9, by rw [HMI.out, ← HTT.out.2]; rfl, by rw [HMI.out]; exact q3, by rw [HMI.out, ← HTT.out.2]; exact q2, hC9, hc9, hbel.grown hg9 (Nat.le_trans HB0.out (Nat.le_trans HB2.out.size HB7.out.size)) (fun k hk => by obtain rfl := Option.some.inj hk; exact hbg)⟩
end Go.Proofs.YthejmpldfndbfaaDoor.Own
