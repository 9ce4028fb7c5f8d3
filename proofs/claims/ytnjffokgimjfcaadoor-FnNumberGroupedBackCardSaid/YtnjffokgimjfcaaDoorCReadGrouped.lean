/- The contract of the function ReadGrouped, for texts of ASCII that are read whole: digits, marks between them, and decimals behind a mark of their own; less than 1000000000000000. -/
import Derived.Test.YtnjffokgimjfcaaDoorCGrouped
namespace Go.Proofs.YtnjffokgimjfcaaDoor.Own
open Go.RowKit Go.Proofs.YtnjffokgimjfcaaDoorW.PrintWords Go.Proofs.YtnjffokgimjfcaaDoorW.PrintLast
set_option linter.unusedVariables false
set_option linter.unusedSimpArgs false
/-- What is read: the digits' number, and how many decimals. -/
def scanG (g m : Int) : List Int → Nat → Nat → Bool → Option (Nat × Nat)
  | [], a, d, _ => some (a, d)
  | c :: t, a, d, h =>
    if 48 ≤ c ∧ c ≤ 57 then (if a * 10 + (c - 48).toNat < 1000000000000000 then scanG g m t (a * 10 + (c - 48).toNat) (if h = true then d + 1 else d) h else none)
    else if h = false ∧ 0 ≤ c ∧ c < 128 ∧ (c = g ∨ c = m) then scanG g m t a d (decide (c = m)) else none
theorem decode_ascii (g p n c : Nat) (x : Int) (w : World) (h : 0 ≤ x ∧ x < 128) (hn : 0 < n) (hc : w.cell? ⟨g, p, none⟩ = some (.int .u8 x)) :
    Calls Tryd.prog 14 #[.slice (some ⟨g, p, none⟩) n c] w fun e w' => e = .returned (.tuple #[.int .i32 x, .int .i64 1]) ∧ w' = w := by
  obtain ⟨h0, h1⟩ := h
  have hn' : (0 : Int) < (n : Int) := by omega
  go_enter Tryd.func14, Tryd.ntmps14
  go_wp2
  go_loopw [8] (fun i wr => i = .int .i64 0 ∧ w = wr) (fun _ _ => 1)
  case atStart => exact ⟨rfl, rfl⟩
  case round =>
    obtain ⟨rfl, rfl⟩ := hrel
    go_wp2
    go_ret2
    exact ⟨rfl, rfl⟩
def bodyG (l : List Int) : List Int := if l.head? = some 45 then l.drop 1 else l
def sgnG (l : List Int) : Int := if l.head? = some 45 then -1 else 1
set_option maxRecDepth 20000 in
set_option maxHeartbeats 4000000 in
theorem parsenumber_calls (gb cap n base : Nat) (l : List Int) (g m : Int) (A D : Nat) (w : World) (hR : Kd.R (Kd.int .u8) 5 w base (fun _ => True) (.slice (some ⟨gb, 0, none⟩) n cap) l) (hn : n < 140737488355328) (hl : l ≠ [])
    (h : scanG g m (bodyG l) 0 0 false = some (A, D)) :
    Calls Tryd.prog 10 #[.slice (some ⟨gb, 0, none⟩) n cap, .int .i32 g, .int .i32 m] w fun e w' => e = .returned (.tuple #[.int .i64 (sgnG l * (A : Int)), .int .i64 (D : Int), .int .i64 (l.length : Int)]) ∧ w' = w := by
  have hnl : n = l.length := (Kd.R_reads' hR).1
  have hnc : n ≤ cap := (Kd.R_reads' hR).2.1
  have hcell : ∀ (k : Nat) (hk : k < l.length), w.cell? ⟨gb, k, none⟩ = some (.int .u8 l[k]) := fun k hk => by
    have := (Kd.R_celln (0 : Int) hR (k : Int) (by omega) (by omega)).1
    simpa [rdOf, List.getD_eq_getElem?_getD, hk] using this
  have HC := Aside0.mk hcell
  have HNL := Aside0.mk hnl
  obtain ⟨sgn, hsg⟩ : ∃ s, s = sgnG l := ⟨_, rfl⟩
  obtain ⟨i0, hi0⟩ : ∃ i : Nat, i = (if l.head? = some 45 then 1 else 0) := ⟨_, rfl⟩
  have hb0 : bodyG l = l.drop i0 := by rw [hi0]; unfold bodyG; split <;> rfl
  rw [hb0] at h
  have HH := Aside0.mk h
  have HSG := Aside0.mk hsg
  have hsgn : sgn = 1 ∨ sgn = -1 := by rw [hsg]; unfold sgnG; split <;> simp
  have HSN := Aside0.mk hsgn
  have h0l : 0 < l.length := List.length_pos_iff.2 hl
  have hi0l : i0 ≤ l.length := by rw [hi0]; split <;> omega
  have HI0 := Aside0.mk hi0
  have hc0 := hcell 0 h0l
  have hhd : l.head? = some l[0] := by rw [List.head?_eq_getElem?, List.getElem?_eq_getElem h0l]
  have HHD := Aside0.mk hhd
  obtain ⟨c0, hc0e⟩ : ∃ c, c = l[0] := ⟨_, rfl⟩
  rw [← hc0e] at hc0
  have HC0 := Aside0.mk hc0e
  have hn0 : (0 : Int) < (n : Int) := by omega
  clear hR hcell hnl hsg hb0 h hsgn hi0 hhd hc0e hl
  go_enter Tryd.func10, Tryd.ntmps10
  go_upto_region 5 with fail
  go_cut [25] (fun v wx => v = .bool (decide (c0 = 45)) ∧ w = wx)
  case first =>
    by_cases h : c0 = 45
    · have hb : (c0 == 45) = true := by simp [h]
      go_wp2
      go_meet
      exact ⟨by simp [h], rfl⟩
    · have hb : (c0 == 45) = false := by simp [h]
      go_wp2
      go_meet
      exact ⟨by simp [h], rfl⟩
  case rest =>
    obtain ⟨rfl, rfl⟩ := hcut
    go_upto_if 25 with fail
    go_cut [9, 11] (fun v9 v11 wx => v9 = .int .i64 (i0 : Int) ∧ v11 = .int .i64 sgn ∧ w = wx)
    case first =>
      by_cases h : c0 = 45
      · have hb : decide (c0 = 45) = true := decide_eq_true h
        have h1 : i0 = 1 := by rw [HI0.out, HHD.out, ← HC0.out, if_pos (by rw [h])]
        have h2 : sgn = -1 := by rw [HSG.out]; unfold sgnG; rw [HHD.out, ← HC0.out, if_pos (by rw [h])]
        have H1 := Aside0.mk h1
        have H2 := Aside0.mk h2
        clear h1 h2
        go_wp2
        go_meet
        exact ⟨by rw [H1.out]; rfl, by rw [H2.out], rfl⟩
      · have hb : decide (c0 = 45) = false := decide_eq_false h
        have h1 : i0 = 0 := by rw [HI0.out, HHD.out, ← HC0.out, if_neg (by simpa using h)]
        have h2 : sgn = 1 := by rw [HSG.out]; unfold sgnG; rw [HHD.out, ← HC0.out, if_neg (by simpa using h)]
        have H1 := Aside0.mk h1
        have H2 := Aside0.mk h2
        clear h1 h2
        go_wp2
        go_meet
        exact ⟨by rw [H1.out]; rfl, by rw [H2.out], rfl⟩
    case rest =>
      obtain ⟨rfl, rfl, rfl⟩ := hcut
      go_wp2
      go_loopw [9, 10, 12, 13] (fun v9 v10 v12 v13 wr => ∃ (i a d : Nat) (hd : Bool), v9 = .int .i64 (i : Int) ∧ v10 = .int .i64 (d : Int) ∧ v12 = .int .i64 (sgn * (a : Int)) ∧ v13 = .bool hd ∧ w = wr ∧ i ≤ l.length ∧ d ≤ i ∧ a < 1000000000000000 ∧ Aside0 (scanG g m (l.drop i) a d hd = some (A, D)))
        (fun v9 _ _ _ _ => l.length - (intOf v9).toNat)
      case atStart => exact ⟨i0, 0, 0, false, rfl, rfl, by simp, rfl, rfl, hi0l, by omega, by omega, HH⟩
      case round =>
        obtain ⟨i, a, d, hd, rfl, rfl, rfl, rfl, rfl, hil, hdi, ha, HS⟩ := hrel
        by_cases hlt : i < l.length
        · have hS := HS.out
          have hci := HC.out i hlt
          rw [List.drop_eq_getElem_cons hlt, scanG] at hS
          obtain ⟨c, hc⟩ : ∃ c, c = l[i] := ⟨_, rfl⟩
          rw [← hc] at hS hci
          have hin : (i : Int) < (n : Int) := by have := HNL.out; omega
          have hin2 : i < n := by have := HNL.out; omega
          have hil2 : l.length < 140737488355328 := by have := HNL.out; omega
          clear hc HS
          by_cases hdig : 48 ≤ c ∧ c ≤ 57
          · rw [if_pos hdig] at hS
            obtain ⟨dg, hdg⟩ := Int.eq_ofNat_of_zero_le (show 0 ≤ c - 48 by omega)
            rw [hdg, Int.toNat_natCast] at hS
            by_cases hb : a * 10 + dg < 1000000000000000
            · rw [if_pos hb] at hS
              have HS2 := Aside0.mk hS
              clear hS
              obtain ⟨hd1, hd2⟩ := hdig
              obtain rfl : c = (dg : Int) + 48 := by omega
              rcases HSN.out with e | e
              · subst e
                have x1 : ¬ (922337203685477580 < (1 : Int) * (a : Int)) := by omega
                have x2 : ¬ (9223372036854775807 - (1 : Int) * (dg : Int) < (1 : Int) * (a : Int) * 10) := by omega
                cases hd
                · go_wp2
                  go_roundw
                  case rel => exact ⟨i + 1, a * 10 + dg, d, false, by congr 1, rfl, by congr 1 <;> omega, rfl, by trivial, by omega, by omega, hb, ⟨by have h9 := HS2.out; rw [if_neg (by simp)] at h9; exact h9⟩⟩
                  case measure => simp [intOf] <;> omega
                · go_wp2
                  go_roundw
                  case rel => exact ⟨i + 1, a * 10 + dg, d + 1, true, by congr 1, by congr 1, by congr 1 <;> omega, rfl, by trivial, by omega, by omega, hb, ⟨by have h9 := HS2.out; rw [if_pos rfl] at h9; exact h9⟩⟩
                  case measure => simp [intOf] <;> omega
              · subst e
                have x1 : ¬ ((-1 : Int) * (a : Int) < -922337203685477580) := by omega
                have x2 : ¬ ((-1 : Int) * (a : Int) * 10 < -9223372036854775808 - (-1 : Int) * (dg : Int)) := by omega
                cases hd
                · go_wp2
                  go_roundw
                  case rel => exact ⟨i + 1, a * 10 + dg, d, false, by congr 1, rfl, by congr 1 <;> omega, rfl, by trivial, by omega, by omega, hb, ⟨by have h9 := HS2.out; rw [if_neg (by simp)] at h9; exact h9⟩⟩
                  case measure => simp [intOf] <;> omega
                · go_wp2
                  go_roundw
                  case rel => exact ⟨i + 1, a * 10 + dg, d + 1, true, by congr 1, by congr 1, by congr 1 <;> omega, rfl, by trivial, by omega, by omega, hb, ⟨by have h9 := HS2.out; rw [if_pos rfl] at h9; exact h9⟩⟩
                  case measure => simp [intOf] <;> omega
            · rw [if_neg hb] at hS; cases hS
          · rw [if_neg hdig] at hS
            by_cases hmk : hd = false ∧ 0 ≤ c ∧ c < 128 ∧ (c = g ∨ c = m)
            · rw [if_pos hmk] at hS
              obtain ⟨rfl, hc0', hc1', hgm⟩ := hmk
              have HS2 := Aside0.mk hS
              have HB := Aside0.mk (show 0 ≤ c ∧ c < 128 from ⟨hc0', hc1'⟩)
              have HCI := Aside0.mk hci
              have hcapi : ¬ (cap = i) := by omega
              clear hS
              by_cases h48 : 48 ≤ c
              · have h57 : ¬ c ≤ 57 := fun h => hdig ⟨h48, h⟩
                clear hdig
                by_cases hm1 : c = m
                · have hmb : (c == m) = true := by simp [hm1]
                  have hmd : decide (c = m) = true := by simp [hm1]
                  by_cases hg1 : c = g
                  · have hgb : (c == g) = true := by simp [hg1]
                    have hgd : decide (c = g) = true := by simp [hg1]
                    (try clear hg1); (try clear hgm); have HM1 := Aside0.mk hm1; clear hm1; have HMD := Aside0.mk hmd
                    go_wp2_with (go_at_call 14; (with_reducible refine (decode_ascii gb i _ _ c _ ⟨HB.out.1, HB.out.2⟩ (by omega) HCI.out).mono ?_); rintro e w' ⟨rfl, hw⟩; rw [hw]; clear hw)
                    go_roundw
                    case rel => exact ⟨i + 1, a, d, true, by congr 1, rfl, rfl, rfl, by trivial, by omega, by omega, ha, ⟨by have h9 := HS2.out; rw [HMD.out] at h9; exact h9⟩⟩
                    case measure => simp [intOf] <;> omega
                  · have hgb : (c == g) = false := by simp [hg1]
                    have hgd : decide (c = g) = false := by simp [hg1]
                    (try clear hg1); (try clear hgm); have HM1 := Aside0.mk hm1; clear hm1; have HMD := Aside0.mk hmd
                    go_wp2_with (go_at_call 14; (with_reducible refine (decode_ascii gb i _ _ c _ ⟨HB.out.1, HB.out.2⟩ (by omega) HCI.out).mono ?_); rintro e w' ⟨rfl, hw⟩; rw [hw]; clear hw)
                    go_roundw
                    case rel => exact ⟨i + 1, a, d, true, by congr 1, rfl, rfl, rfl, by trivial, by omega, by omega, ha, ⟨by have h9 := HS2.out; rw [HMD.out] at h9; exact h9⟩⟩
                    case measure => simp [intOf] <;> omega
                · have hmb : (c == m) = false := by simp [hm1]
                  have hmd : decide (c = m) = false := by simp [hm1]
                  have hg1 : c = g := by rcases hgm with h | h; exact h; exact absurd h hm1
                  have hgb : (c == g) = true := by simp [hg1]
                  have hgd : decide (c = g) = true := by simp [hg1]
                  (try clear hg1); (try clear hgm); have HM1 := Aside0.mk hm1; clear hm1; have HMD := Aside0.mk hmd
                  go_wp2_with (go_at_call 14; (with_reducible refine (decode_ascii gb i _ _ c _ ⟨HB.out.1, HB.out.2⟩ (by omega) HCI.out).mono ?_); rintro e w' ⟨rfl, hw⟩; rw [hw]; clear hw)
                  go_roundw
                  case rel => exact ⟨i + 1, a, d, false, by congr 1, rfl, rfl, rfl, by trivial, by omega, by omega, ha, ⟨by have h9 := HS2.out; rw [HMD.out] at h9; exact h9⟩⟩
                  case measure => simp [intOf] <;> omega
              · clear hdig
                by_cases hm1 : c = m
                · have hmb : (c == m) = true := by simp [hm1]
                  have hmd : decide (c = m) = true := by simp [hm1]
                  by_cases hg1 : c = g
                  · have hgb : (c == g) = true := by simp [hg1]
                    have hgd : decide (c = g) = true := by simp [hg1]
                    (try clear hg1); (try clear hgm); have HM1 := Aside0.mk hm1; clear hm1; have HMD := Aside0.mk hmd
                    go_wp2_with (go_at_call 14; (with_reducible refine (decode_ascii gb i _ _ c _ ⟨HB.out.1, HB.out.2⟩ (by omega) HCI.out).mono ?_); rintro e w' ⟨rfl, hw⟩; rw [hw]; clear hw)
                    go_roundw
                    case rel => exact ⟨i + 1, a, d, true, by congr 1, rfl, rfl, rfl, by trivial, by omega, by omega, ha, ⟨by have h9 := HS2.out; rw [HMD.out] at h9; exact h9⟩⟩
                    case measure => simp [intOf] <;> omega
                  · have hgb : (c == g) = false := by simp [hg1]
                    have hgd : decide (c = g) = false := by simp [hg1]
                    (try clear hg1); (try clear hgm); have HM1 := Aside0.mk hm1; clear hm1; have HMD := Aside0.mk hmd
                    go_wp2_with (go_at_call 14; (with_reducible refine (decode_ascii gb i _ _ c _ ⟨HB.out.1, HB.out.2⟩ (by omega) HCI.out).mono ?_); rintro e w' ⟨rfl, hw⟩; rw [hw]; clear hw)
                    go_roundw
                    case rel => exact ⟨i + 1, a, d, true, by congr 1, rfl, rfl, rfl, by trivial, by omega, by omega, ha, ⟨by have h9 := HS2.out; rw [HMD.out] at h9; exact h9⟩⟩
                    case measure => simp [intOf] <;> omega
                · have hmb : (c == m) = false := by simp [hm1]
                  have hmd : decide (c = m) = false := by simp [hm1]
                  have hg1 : c = g := by rcases hgm with h | h; exact h; exact absurd h hm1
                  have hgb : (c == g) = true := by simp [hg1]
                  have hgd : decide (c = g) = true := by simp [hg1]
                  (try clear hg1); (try clear hgm); have HM1 := Aside0.mk hm1; clear hm1; have HMD := Aside0.mk hmd
                  go_wp2_with (go_at_call 14; (with_reducible refine (decode_ascii gb i _ _ c _ ⟨HB.out.1, HB.out.2⟩ (by omega) HCI.out).mono ?_); rintro e w' ⟨rfl, hw⟩; rw [hw]; clear hw)
                  go_roundw
                  case rel => exact ⟨i + 1, a, d, false, by congr 1, rfl, rfl, rfl, by trivial, by omega, by omega, ha, ⟨by have h9 := HS2.out; rw [HMD.out] at h9; exact h9⟩⟩
                  case measure => simp [intOf] <;> omega
            · rw [if_neg hmk] at hS; cases hS
        · have hie : i = l.length := by omega
          have hS := HS.out
          rw [List.drop_of_length_le (by omega)] at hS
          simp only [scanG, Option.some.injEq, Prod.mk.injEq] at hS
          obtain ⟨rfl, rfl⟩ := hS
          have hni : ¬ ((i : Int) < (n : Int)) := by have := HNL.out; omega
          have h9 := HSG.out
          subst h9
          go_wp2
          go_ret3
          exact ⟨rfl, rfl⟩
def impl_ReadGrouped.f (l : List Int) (g m : Int) : Option (Int × Int × Int) := if l.length < 140737488355328 ∧ l ≠ [] then (scanG g m (bodyG l) 0 0 false).map fun r => (sgnG l * (r.1 : Int), (r.2 : Int), (l.length : Int)) else none
set_option maxHeartbeats 1000000 in
theorem impl_ReadGrouped.calls (A0 : Option Addr) (c0 : Nat) (l0 : List Int) (a1 a2 r1 r2 r3 : Int) (w : World) (hr0 : Kd.C (Kd.int .u8) w A0 l0.length l0) (hc0 : l0.length ≤ c0) (h : impl_ReadGrouped.f l0 a1 a2 = some (r1, r2, r3)) :
    Calls Tryd.prog 6 #[.slice A0 l0.length c0, .int .i32 a1, .int .i32 a2] w fun e w' => e = .returned (.tuple #[.int .i64 r1, .int .i64 r2, .int .i64 r3]) ∧ Below w.heap.size w w' := by
  unfold impl_ReadGrouped.f at h
  by_cases hl : l0.length < 140737488355328 ∧ l0 ≠ []
  · rw [if_pos hl] at h
    obtain ⟨hl, hne⟩ := hl
    obtain ⟨⟨A, D⟩, hsc, he⟩ := Option.map_eq_some_iff.1 h
    obtain ⟨rfl, he2⟩ := Prod.mk.inj he
    obtain ⟨rfl, rfl⟩ := Prod.mk.inj he2
    have ho : impl_own.f l0 = some l0 := by unfold impl_own.f; simp; omega
    have HO := Aside0.mk ho
    have HR := Aside0.mk hr0
    have HSC := Aside0.mk hsc
    have HNE := Aside0.mk hne
    clear ho hr0 h he he2 hsc hne
    go_enter Tryd.func6, Tryd.ntmps6
    go_wp2_with fail
    refine (impl_own.calls A0 c0 l0 l0 w HR.out hc0 HO.out).mono ?_
    rintro e w1 ⟨v, rfl, hv, hb⟩
    have HV := Aside0.mk hv
    have HB := Aside0.mk hb
    clear hv hb
    rcases (Kd.own_of_R HV.out).2 with ⟨rfl, h0⟩ | ⟨g, cap, cur, rfl, hg, _⟩
    · exact absurd (List.eq_nil_of_length_eq_zero h0) HNE.out
    · go_wp2_with fail
      refine (parsenumber_calls g cap l0.length w.heap.size l0 a1 a2 A D w1 HV.out hl HNE.out HSC.out).mono ?_
      rintro e w2 ⟨rfl, hw⟩
      rw [hw]
      clear hw
      go_wp2
      go_ret3
      exact ⟨rfl, HB.out⟩
  · rw [if_neg hl] at h
    cases h
end Go.Proofs.YtnjffokgimjfcaaDoor.Own
