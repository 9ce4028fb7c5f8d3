/- The law FnUse: it answers true. -/
import Derived.Test.YtohfnhfpiipglaaCScO
namespace Go.Proofs.Ytohfnhfpiipglaa.Own
open Go.RowKit Go.Proofs.YtohfnhfpiipglaaW.PrintWords Go.Proofs.YtohfnhfpiipglaaW.PrintLast
set_option linter.unusedVariables false
set_option linter.unusedSimpArgs false
theorem append_no {P : Program} {t e ty : TypeId} {i : TypeInfo} (ht : P.underlying t = some (.slice e)) (hi : P.info? e = some i) (b : Addr) (n cap c : Nat) (h : n ≤ cap) (w : World) : (Builtin.append_ #[t, t] ty #[.slice (some b) n cap, .slice none 0 c]).run P w = .ok (.slice (some b) n cap) w := by
  simp [Builtin.append_, run_underlying ht, sizeOf, typeInfo, hi, Builtin.lenOf, Builtin.firstCells, loadCells, loadCellsFrom, h, storeCells]
/-- A whole row of strings appended. -/
theorem ORow.apps {w : World} {base : Nat} {v : Value} {cs : List Value} (h : ORow w base 9 v cs) (hb : base ≤ w.heap.size) {A : Option Addr} {L : List ByteArray} (c : Nat) (hR : SRow w A L) (hl : cs.length + L.length ≤ 5000000000) :
    ∃ v' w1, (∀ ty, (Builtin.append_ #[25, 25] ty #[v, .slice A L.length c]).run Try.prog w = .ok v' w1) ∧ ORow w1 base 9 v' (cs ++ L.map Value.string) ∧ w.grownBy w1 v.ownBlock ∧ (v'.ownBlock = v.ownBlock ∨ v'.ownBlock = some w.heap.size) := by
  obtain ⟨i0, hi0, hz0, hs1, hb1⟩ := info_parts infoStr
  obtain ⟨g0, cap0, cur0, h1, h2, h3, h4, h5, h6, h7⟩ := h
  cases hL : L with
  | nil =>
    subst hL
    cases A with
    | none =>
      subst h1
      exact ⟨_, w, fun _ => append_no Try.underlying25 hi0 _ _ _ _ h4 w, ⟨g0, cap0, cur0, by simp, h2, h3, by simpa using h4, h5, h6, by simpa using h7⟩, World.grownBy.refl _ _, .inl rfl⟩
    | some a =>
      have hown : w.ownsRow base 9 1 v cs.length cs := ⟨by simp, .inr ⟨g0, cap0, cur0, h1, h2, h3, h4, h5, by omega, by simpa using h7⟩⟩
      have hmx : maxLen = 9223372036854775807 := rfl
      obtain ⟨v', w', hrun, hown2, hg, hnil, hat⟩ := run_append_own_at (P := Try.prog) w base 25 0 9 i0 (.string ⟨#[]⟩) 1 16 Try.underlying25 hi0 hz0 hs1 hb1 rfl (by decide) v cs.length cs hown a 0 c [] rfl (fun j u hj => by simp at hj) (fun u hu => by cases hu) (by omega) (by simp only [List.length_nil] at hl; omega) hb
      rcases hown2.2 with ⟨rfl, h0⟩ | ⟨g, cap, cur, rfl, hbg, hblk, hnc, hcm, hcs, htake⟩
      · have := (hnil.1 rfl).1
        rw [h1] at this
        cases this
      · exact ⟨_, w', fun _ => hrun, ⟨g, cap, cur, by simp, hbg, hblk, by simpa using hnc, hcm, by omega, by simpa using htake⟩, hg, hat⟩
  | cons x t =>
    rw [← hL]
    obtain ⟨a, rfl, _⟩ := hR 0 (by rw [hL]; simp)
    have hown : w.ownsRow base 9 1 v cs.length cs := ⟨by simp, .inr ⟨g0, cap0, cur0, h1, h2, h3, h4, h5, by omega, by simpa using h7⟩⟩
    have hmx : maxLen = 9223372036854775807 := rfl
    obtain ⟨v', w', hrun, hown2, hg, hnil, hat⟩ := run_append_own_at (P := Try.prog) w base 25 0 9 i0 (.string ⟨#[]⟩) 1 16 Try.underlying25 hi0 hz0 hs1 hb1 rfl (by decide) v cs.length cs hown a L.length c (L.map Value.string) (by simp) (fun j u hj => by
      have hjl : j < L.length := by have := (List.getElem?_eq_some_iff.1 hj).1; simpa using this
      obtain ⟨ad, hae, hcell⟩ := hR j hjl
      cases hae
      rw [hcell]
      simpa [List.getElem?_eq_getElem hjl] using hj) (fun u hu => by obtain ⟨s, _, rfl⟩ := List.mem_map.1 hu; rfl) (by omega) (by omega) hb
    rcases hown2.2 with ⟨rfl, h0⟩ | ⟨g, cap, cur, rfl, hbg, hblk, hnc, hcm, hcs, htake⟩
    · have := (hnil.1 rfl).1
      rw [h1] at this
      cases this
    · exact ⟨_, w', fun _ => hrun, ⟨g, cap, cur, by simp, hbg, hblk, by simpa using hnc, hcm, by omega, by simpa using htake⟩, hg, hat⟩
theorem SRow.of_C {w : World} {A : Option Addr} {L : List ByteArray} (h : Kd.C Kd.string w A L.length L) : SRow w A L ∧ L.length ≤ 9223372036854775807 := by
  obtain ⟨h1, h2, h3⟩ := Kd.reads_of_C (d := ByteArray.empty) h
  have hm : maxLen = 9223372036854775807 := rfl
  refine ⟨fun j hj => ?_, by omega⟩
  obtain ⟨ad, e, hx⟩ := h3 (by omega)
  refine ⟨ad, e, ?_⟩
  rw [hx j hj]
  simp [Kd.string, List.getD_eq_getElem?_getD, List.getElem?_eq_getElem hj]
/-- What the law has gathered ahead of its first loop: no names yet, and the row of all names. -/
theorem use_rows (w : World) (A1 A2 : Option Addr) (L1 L2 : List ByteArray) (c1 c2 : Nat) (h1 : SRow w A1 L1) (h2 : SRow w A2 L2) (hl1 : L1.length ≤ 2147483647) (hl2 : L2.length ≤ 2147483647) :
    ∃ v1 w1 v2 w2, (∀ ty, (Builtin.append_ #[25, 25] ty #[.slice (some ⟨w.heap.size + 1, 0, none⟩) 0 0, .slice A1 L1.length c1]).run Try.prog ((w.alloc (.cells #[] 9)).alloc (.cells #[] 9)) = .ok v1 w1) ∧
      (∀ ty, (Builtin.append_ #[25, 25] ty #[v1, .slice A2 L2.length c2]).run Try.prog w1 = .ok v2 w2) ∧ ORow w2 w.heap.size 9 v2 ((L1 ++ L2).map Value.string) ∧ ORow w2 w.heap.size 9 (.slice (some ⟨w.heap.size, 0, none⟩) 0 0) [] ∧ Below w.heap.size w w2 := by
  have hs : (w.alloc (.cells #[] 9)).heap.size = w.heap.size + 1 := by simp
  have b1 : Below w.heap.size w (w.alloc (.cells #[] 9)) := (Below.refl _ _).alloc (Nat.le_refl _) _
  have b2 : Below w.heap.size w ((w.alloc (.cells #[] 9)).alloc (.cells #[] 9)) := b1.alloc (by omega) _
  have o1 := ORow.new w (Nat.le_refl _) 9
  have o1' : ORow ((w.alloc (.cells #[] 9)).alloc (.cells #[] 9)) w.heap.size 9 (.slice (some ⟨w.heap.size, 0, none⟩) 0 0) [] := o1.block (fun g cur hc => (al_lt (Array.getElem?_eq_some_iff.1 hc).1).trans hc)
  have o2 : ORow ((w.alloc (.cells #[] 9)).alloc (.cells #[] 9)) w.heap.size 9 (.slice (some ⟨w.heap.size + 1, 0, none⟩) 0 0) [] := by
    have := ORow.new (base := w.heap.size) (w.alloc (.cells #[] 9)) (by omega) 9
    rw [hs] at this
    exact this
  obtain ⟨v1, w1, r1, q1, g1, t1⟩ := o2.apps b2.size c1 (srow_below h1 b2) (by simp; omega)
  have b3 : Below w.heap.size w w1 := b2.grown g1 (by simp; omega) (fun k hk => by cases hk; show w.heap.size ≤ w.heap.size + 1; omega)
  have hne1 : ∀ k, v1.ownBlock = some k → w.heap.size + 1 ≤ k := fun k hk => by
    rcases t1 with t1 | t1
    · rw [t1] at hk
      cases hk
      exact Nat.le_refl _
    · rw [t1] at hk
      cases hk
      simp
  have o1'' : ORow w1 w.heap.size 9 (.slice (some ⟨w.heap.size, 0, none⟩) 0 0) [] := by
    obtain ⟨g, cap, cur, e1, e2, e3, e4⟩ := o1'
    cases e1
    exact ⟨_, _, cur, rfl, e2, (g1.block _ (by simp; omega) (by simp [Value.ownBlock])).trans e3, e4⟩
  obtain ⟨v2, w2, r2, q2, g2, t2⟩ := q1.apps b3.size c2 (srow_below h2 b3) (by simp; omega)
  refine ⟨v1, w1, v2, w2, r1, r2, by simpa using q2, ?_, b3.grown g2 b3.size (fun k hk => by have := hne1 k hk; omega)⟩
  obtain ⟨g, cap, cur, e1, e2, e3, e4⟩ := o1''
  cases e1
  exact ⟨_, _, cur, rfl, e2, (g2.block _ (Array.getElem?_eq_some_iff.1 e3).1 (fun e => by have := hne1 _ e.symm; omega)).trans e3, e4⟩
theorem hasB_take {L : List ByteArray} {s : ByteArray} : hasB L s = hasB (L.take L.length) s := by rw [List.take_of_length_le (Nat.le_refl _)]
theorem allIn_self (L : List ByteArray) : allIn L L = true := by
  unfold allIn
  rw [List.all_eq_true]
  exact fun x hx => (hasB_iff L x).2 hx
set_option maxHeartbeats 4000000 in
theorem fnUse_true (A1 : Option Addr) (c1 : Nat) (L1 : List ByteArray) (A2 : Option Addr) (c2 : Nat) (L2 : List ByteArray) (w : World) (hr1 : Kd.C Kd.string w A1 L1.length L1) (hc1 : L1.length ≤ c1) (hr2 : Kd.C Kd.string w A2 L2.length L2) (hc2 : L2.length ≤ c2) :
    Calls Try.prog 4 #[.slice A1 L1.length c1, .slice A2 L2.length c2] w fun e w' => e = .returned (.bool true) ∧ Below w.heap.size w w' := by
  obtain ⟨s1, m1⟩ := SRow.of_C hr1
  obtain ⟨s2, m2⟩ := SRow.of_C hr2
  have F1 := Aside0.mk (fits_any w A1 L1 c1 s1 m1)
  have F2 := Aside0.mk (fits_any w A2 L2 c2 s2 m2)
  have HS1 := Aside0.mk s1
  have HS2 := Aside0.mk s2
  clear hr1 hr2 s1 s2 m1 m2
  obtain ⟨n, hn⟩ : ∃ n, n = L1.length := ⟨_, rfl⟩
  obtain ⟨m, hm⟩ : ∃ n, n = L2.length := ⟨_, rfl⟩
  have HN := Aside0.mk hn
  have HM := Aside0.mk hm
  rw [← hn] at F1 hc1 ⊢
  rw [← hm] at F2 hc2 ⊢
  clear hn hm
  go_enter Try.func4, Try.ntmps4
  go_wp2_with fail
  (with_reducible refine F1.out.mono ?_)
  rintro e w1 ⟨⟨b1, rfl, hb1⟩, hw1⟩
  rw [hw1]
  clear hw1
  cases b1 with
  | false =>
    clear hb1
    go_wp2
    go_ret
    exact ⟨rfl, Below.refl _ _⟩
  | true =>
    have hn1 := (hb1 rfl).1
    have HZ1 := Aside0.mk (hb1 rfl).2
    clear hb1
    go_wp2_with fail
    (with_reducible refine F2.out.mono ?_)
    rintro e w1 ⟨⟨b1, rfl, hb1⟩, hw1⟩
    rw [hw1]
    clear hw1
    cases b1 with
    | false =>
      clear hb1
      go_wp2
      go_ret
      exact ⟨rfl, Below.refl _ _⟩
    | true =>
      have hn2 := (hb1 rfl).1
      have HZ2 := Aside0.mk (hb1 rfl).2
      clear hb1
      obtain ⟨v1, w1, v2, w2, r1, r2, o2, od, hb2⟩ := use_rows w A1 A2 L1 L2 c1 c2 HS1.out HS2.out (by rw [← HN.out]; exact hn1) (by rw [← HM.out]; exact hn2)
      rw [← HN.out] at r1
      rw [← HM.out] at r2
      have R1 := Aside0.mk r1
      have R2 := Aside0.mk r2
      have OD := Aside0.mk od
      have HB2 := Aside0.mk hb2
      obtain ⟨AL, cL, rfl, sL⟩ := o2.srow
      have HSL := Aside0.mk sL
      obtain ⟨q, hq⟩ : ∃ q, q = (L1 ++ L2).length := ⟨_, rfl⟩
      have HQ := Aside0.mk hq
      rw [← hq] at R2
      have hqb : q ≤ 4294967294 := by rw [hq, List.length_append]; have := HN.out; have := HM.out; omega
      clear r1 r2 od hb2 o2 sL hq
      go_wp2_with (first | (at_builtin; refine append_event rfl (.tmp 20) (.tmp 21) 25 rfl rfl rfl (R1.out _) ?_) | (at_builtin; refine append_event rfl (.tmp 22) (.tmp 23) 25 rfl rfl rfl (R2.out _) ?_))
      clear R1 R2
      go_loopw [26] (fun v wr => ∃ k : Nat, v = .int .i64 (k : Int) ∧ k ≤ q ∧ w2 = wr ∧ Aside0 (∀ j (hj : j < (L1 ++ L2).length), j < k → (L1 ++ L2)[j].size ≤ 20)) (fun v _ => q - (intOf v).toNat)
      case atStart => exact ⟨0, rfl, Nat.zero_le _, rfl, ⟨fun j hj h => by omega⟩⟩
      case round =>
        obtain ⟨k, rfl, hk, rfl, HK⟩ := hrel
        by_cases hlt : k < q
        · have hlt2 : k < (L1 ++ L2).length := by have := HQ.out; omega
          obtain ⟨ad, rfl, hc⟩ := HSL.out k hlt2
          obtain ⟨x, hx⟩ : ∃ x, x = (L1 ++ L2)[k] := ⟨_, rfl⟩
          rw [← hx] at hc
          have HX := Aside0.mk hx
          clear hx
          have hxb : x.size ≤ 2147483647 := by
            have : x ∈ L1 ++ L2 := by rw [HX.out]; exact List.getElem_mem hlt2
            rcases List.mem_append.1 this with h | h
            · exact HZ1.out x h
            · exact HZ2.out x h
          by_cases hbig : 20 < x.size
          · go_wp2_with fail
            (with_reducible refine (word_any w2 x (by omega)).mono ?_)
            rintro e w3 ⟨⟨b, rfl, _⟩, hw3⟩
            rw [hw3]
            clear hw3
            cases b
            all_goals
              go_wp2
              go_ret
              exact ⟨rfl, HB2.out⟩
          · go_wp2_with fail
            (with_reducible refine (word_any w2 x (by omega)).mono ?_)
            rintro e w3 ⟨⟨b, rfl, _⟩, hw3⟩
            rw [hw3]
            clear hw3
            cases b with
            | false =>
              go_wp2
              go_ret
              exact ⟨rfl, HB2.out⟩
            | true =>
              go_wp2
              go_roundw
              case rel => exact ⟨k + 1, by go_num, hlt, trivial, ⟨fun j hj h => by
                rcases Nat.lt_succ_iff_lt_or_eq.1 h with h2 | rfl
                · exact HK.out j hj h2
                · rw [← HX.out]; omega⟩⟩
              case measure => simp [intOf] <;> omega
        · obtain rfl : k = q := by omega
          have HSZ := Aside0.mk (show (∀ s ∈ L1, s.size ≤ 20) ∧ (∀ s ∈ L2, s.size ≤ 20) from by
            have h : ∀ s ∈ L1 ++ L2, s.size ≤ 20 := fun s hs => by
              obtain ⟨j, hj, rfl⟩ := List.mem_iff_getElem.1 hs
              exact HK.out j hj (by have := HQ.out; omega)
            exact ⟨fun s hs => h s (List.mem_append_left _ hs), fun s hs => h s (List.mem_append_right _ hs)⟩)
          clear HK hk hlt
          by_cases h50 : 50 < n + m
          · go_wp2
            go_ret
            exact ⟨rfl, HB2.out⟩
          · have hlen1 : L1.length ≤ 50 := by have := HN.out; omega
            have HLN := Aside0.mk hlen1
            clear hlen1
            go_wp2
            go_loopw [5, 47] (fun dv v wr => ∃ j : Nat, v = .int .i64 (j : Int) ∧ j ≤ m ∧ Aside0 (ORow wr w.heap.size 9 dv ((useAll L1 (L2.take j)).map Value.string)) ∧ Aside0 (Below w.heap.size w wr)) (fun _ v _ => m - (intOf v).toNat)
            case atStart => exact ⟨0, rfl, Nat.zero_le _, OD, HB2⟩
            case round =>
              obtain ⟨j, rfl, hj, HO, HB⟩ := hrel
              obtain ⟨un, hun⟩ : ∃ un, un = useAll L1 (L2.take j) := ⟨_, rfl⟩
              rw [← hun] at HO
              have hunl : un.length ≤ 50 := by
                have h : ∀ l : List ByteArray, (useAll L1 l).length ≤ l.length := fun l => by
                  unfold useAll
                  have g : ∀ (l un : List ByteArray), (l.foldl (useOne L1) un).length ≤ un.length + l.length := fun l => by
                    induction l with
                    | nil => intro un; simp
                    | cons a t ih =>
                      intro un
                      have h1 := ih (useOne L1 un a)
                      have h2 : (useOne L1 un a).length ≤ un.length + 1 := by
                        unfold useOne
                        split <;> simp
                      simp only [List.foldl_cons, List.length_cons]
                      omega
                  simpa using g l []
                have := h (L2.take j)
                rw [← hun, List.length_take] at this
                omega
              have HUN := Aside0.mk hun
              obtain ⟨AD, cD, rfl, sD⟩ := HO.out.srow
              have HSD := Aside0.mk sD
              clear hun sD
              by_cases hlt : j < m
              · have hlt2 : j < L2.length := by have := HM.out; omega
                obtain ⟨ad, rfl, hc⟩ := srow_below HS2.out HB.out j hlt2
                obtain ⟨x, hx⟩ : ∃ x, x = L2[j] := ⟨_, rfl⟩
                rw [← hx] at hc
                have HX := Aside0.mk hx
                clear hx
                have HC1 := Aside0.mk (has_any wr A1 L1 c1 x (srow_below HS1.out HB.out) (by have := HLN.out; omega))
                have HC2 := Aside0.mk (has_any wr AD un cD x HSD.out (by omega))
                rw [← HN.out] at HC1
                go_wp2_with fail
                (with_reducible refine HC1.out.mono ?_)
                rintro e w3 ⟨rfl, hw3⟩
                rw [hw3]
                clear hw3
                clear HC1
                cases h1 : hasB L1 x with
                | true =>
                  have HR := Aside0.mk (show useAll L1 (L2.take (j + 1)) = un by rw [useAll_snoc L1 L2 j hlt2, ← HUN.out, ← HX.out, useOne, h1]; rfl)
                  clear HC2 h1
                  go_wp2
                  go_roundw
                  case rel => exact ⟨j + 1, by go_num, hlt, ⟨by rw [HR.out]; exact HO.out⟩, HB⟩
                  case measure => simp [intOf] <;> omega
                | false =>
                  go_wp2_with fail
                  (with_reducible refine HC2.out.mono ?_)
                  rintro e w3 ⟨rfl, hw3⟩
                  rw [hw3]
                  clear hw3 HC2
                  cases h2 : hasB un x with
                  | true =>
                    have HR := Aside0.mk (show useAll L1 (L2.take (j + 1)) = un by rw [useAll_snoc L1 L2 j hlt2, ← HUN.out, ← HX.out, useOne, h1, h2]; rfl)
                    clear h1 h2
                    go_wp2
                    go_roundw
                    case rel => exact ⟨j + 1, by go_num, hlt, ⟨by rw [HR.out]; exact HO.out⟩, HB⟩
                    case measure => simp [intOf] <;> omega
                  | false =>
                    have HR := Aside0.mk (show useAll L1 (L2.take (j + 1)) = un ++ [x] by rw [useAll_snoc L1 L2 j hlt2, ← HUN.out, ← HX.out, useOne, h1, h2]; rfl)
                    obtain ⟨v3, w3, happ, ho3, hg3, g3, c3, hv3⟩ := ORow.app Try.underlying25 infoStr rfl (by decide) HO.out HB.out.size (by simp; omega) (.string x) rfl
                    have HAPP := Aside0.mk happ
                    have HO3 := Aside0.mk (show ORow w3 w.heap.size 9 v3 ((useAll L1 (L2.take (j + 1))).map Value.string) by rw [HR.out, List.map_append]; exact ho3)
                    have HB3 := Aside0.mk (show Below w.heap.size w w3 from (HB.out.alloc HB.out.size _).grown hg3 (by have := HB.out.size; simp; omega) (fun q hq => by
                      obtain ⟨g0, c0, cur0, hov, howb, hbg, hblk⟩ := HO.out.own
                      rw [howb] at hq
                      cases hq
                      exact hbg))
                    clear happ ho3 hg3 hv3 h1 h2
                    go_wp2_with (at_builtin; refine append_event rfl (.tmp 61) (.tmp 63) 25 rfl rfl rfl (HAPP.out _) ?_)
                    go_roundw
                    case rel => exact ⟨j + 1, by go_num, hlt, HO3, HB3⟩
                    case measure => simp [intOf] <;> omega
              · obtain rfl : j = m := by omega
                have HUN2 := Aside0.mk (show un = useAll L1 L2 by rw [HUN.out, HM.out, List.take_of_length_le (Nat.le_refl _)])
                have HU := Aside0.mk (implUse wr A1 A2 L1 L2 c1 c2 (srow_below HS1.out HB.out) (srow_below HS2.out HB.out) (by have := HN.out; have := HM.out; omega) HSZ.out.1 HSZ.out.2)
                rw [← HN.out, ← HM.out, ← HUN2.out] at HU
                clear hlt hj
                go_wp2_with fail
                (with_reducible refine HU.out.mono ?_)
                rintro e w3 ⟨v3, rfl, ho3, hb3⟩
                obtain ⟨AU, cU, rfl, sU⟩ := ho3.srow
                have HSM := Aside0.mk (same_any w3 AU AD un un cU cD sU (by omega) (srow_below HSD.out hb3) (by omega))
                rw [allIn_self] at HSM
                have HB3 := Aside0.mk (below_step HB.out hb3)
                clear ho3 hb3 sU
                go_wp2_with fail
                (with_reducible refine HSM.out.mono ?_)
                rintro e w4 ⟨rfl, hw4⟩
                rw [hw4]
                clear hw4
                go_wp2
                go_ret
                exact ⟨rfl, HB3.out⟩
end Go.Proofs.Ytohfnhfpiipglaa.Own
