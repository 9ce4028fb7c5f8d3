/- The contract of mediaText: it tells a text, or it tells that something is not as it should be. -/
import Derived.Test.YtfjgfgaojebghaaCMediaT
import Derived.Test.YtfjgfgaojebghaaCMediaE
namespace Go.Proofs.Ytfjgfgaojebghaa.Own
open Go.RowKit Go.Proofs.YtfjgfgaojebghaaW.PrintWords Go.Proofs.YtfjgfgaojebghaaW.PrintLast
set_option linter.unusedVariables false
set_option linter.unusedSimpArgs false
abbrev nmAt (l : List ByteArray) (i : Nat) : ByteArray := rdOf ByteArray.empty l (i : Int)
structure OkAt (l2 l3 : List ByteArray) (i : Nat) : Prop where
  name : TokFrom (nmAt l2 i) 0
  value : TokFrom (nmAt l3 i) 0
  new : ∀ q, q < i → nmAt l2 q ≠ nmAt l2 i
structure OkText (a0 a1 : ByteArray) (l2 l3 : List ByteArray) : Prop where
  kind : TokFrom a0 0
  sub : TokFrom a1 0
  len : l2.length = l3.length
  few : l2.length ≤ 6
  all : ∀ i, i < l2.length → OkAt l2 l3 i
def headT (a0 a1 : ByteArray) : List Int := numsOf ((a0 ++ (⟨#[47]⟩ : ByteArray)) ++ a1)
def prmsT (l2 l3 : List ByteArray) : Nat → List Prm
  | 0 => []
  | i + 1 => prmsT l2 l3 i ++ [(numsOf (nmAt l2 i), numsOf (nmAt l3 i))]
theorem textM_snoc (H : List Int) (ps : List Prm) (p : Prm) (bl : Bool) : textM H (ps ++ [p]) bl = textM H ps bl ++ segM bl p := by
  unfold textM
  simp
theorem rows_C {w : World} {ad : Addr} {A B : Option Addr} {ca cb : Nat} {xs ys : List Int} (h0 : w.cell? (ad.add 0) = some (.slice A xs.length ca)) (h1 : w.cell? (ad.add 1) = some (.slice B ys.length cb)) (la : xs.length ≤ ca) (lb : ys.length ≤ cb)
    (hx : (Kd.int .u8).C w A xs.length xs) (hy : (Kd.int .u8).C w B ys.length ys) : (Kd.slice 5 (Kd.int .u8)).C w (some ad) 2 [xs, ys] := by
  refine ⟨rfl, by have : maxLen = 9223372036854775807 := rfl; simp, fun _ => ⟨ad, rfl, fun j p hj => ?_⟩⟩
  match j, hj with
  | 0, hj =>
    obtain rfl := Option.some.inj hj
    refine ⟨[.slice A xs.length ca], rfl, ⟨A, ca, rfl, la, hx⟩, fun i u hu => ?_⟩
    match i, hu with
    | 0, hu => obtain rfl := Option.some.inj hu; exact h0
    | i + 1, hu => simp at hu
  | 1, hj =>
    obtain rfl := Option.some.inj hj
    refine ⟨[.slice B ys.length cb], rfl, ⟨B, cb, rfl, lb, hy⟩, fun i u hu => ?_⟩
    match i, hu with
    | 0, hu => obtain rfl := Option.some.inj hu; exact h1
    | i + 1, hu => simp at hu
  | j + 2, hj => simp at hj
theorem rows_C' {w : World} {g2 g3 n2 n3 c2 c3 base : Nat} {xs ys : List Int} (hx : TextV w base g2 c2 xs) (hy : TextV w base g3 c3 ys) (ex : n2 = xs.length) (ey : n3 = ys.length) :
    (Kd.slice 5 (Kd.int .u8)).C (w.alloc (.cells #[.slice (some ⟨g2, 0, none⟩) n2 c2, .slice (some ⟨g3, 0, none⟩) n3 c3] 24)) (some ⟨w.heap.size, 0, none⟩) 2 [xs, ys] := by
  subst ex ey
  have hh := al_eq (W := w) (o := .cells #[.slice (some ⟨g2, 0, none⟩) xs.length c2, .slice (some ⟨g3, 0, none⟩) ys.length c3] 24) (i := w.heap.size) rfl
  refine rows_C (ca := c2) (cb := c3) ?_ ?_ hx.len hy.len (hx.alloc _).C (hy.alloc _).C
  · rw [add_plain]
    simp only [World.cell?, hh]
    rfl
  · rw [add_plain]
    simp only [World.cell?, hh]
    rfl
set_option maxHeartbeats 4000000 in
theorem mediaText_any (a0 a1 : ByteArray) (A2 : Option Addr) (c2 : Nat) (l2 : List ByteArray) (A3 : Option Addr) (c3 : Nat) (l3 : List ByteArray) (bl : Bool) (w : World) (hr2 : Kd.C Kd.string w A2 l2.length l2) (hc2 : l2.length ≤ c2) (hr3 : Kd.C Kd.string w A3 l3.length l3) (hc3 : l3.length ≤ c3)
    (b0 : a0.size ≤ 2147483647) (b1 : a1.size ≤ 2147483647) (b2 : ∀ j : Nat, j < l2.length → (nmAt l2 j).size ≤ 2147483647) (b3 : ∀ j : Nat, j < l3.length → (nmAt l3 j).size ≤ 2147483647) :
    Calls Try.prog 6 #[.string a0, .string a1, .slice A2 l2.length c2, .slice A3 l3.length c3, .bool bl] w fun e w' => Below w.heap.size w w' ∧ (e = .returned (.tuple #[.slice none 0 0, .bool false]) ∨
      ∃ g n cap, e = .returned (.tuple #[.slice (some ⟨g, 0, none⟩) n cap, .bool true]) ∧ n = (textM (headT a0 a1) (prmsT l2 l3 l2.length) bl).length ∧ n ≤ 299 ∧ TextV w' w.heap.size g cap (textM (headT a0 a1) (prmsT l2 l3 l2.length) bl) ∧ OkText a0 a1 l2 l3) := by
  obtain ⟨rm, ⟨km, hkm⟩, hm⟩ := media_ev a0 a1 b0 b1
  replace hkm := hkm km (Nat.le_refl _)
  have HR2 := Aside0.mk hr2
  have HR3 := Aside0.mk hr3
  have HC := Aside0.mk (And.intro hc2 hc3)
  have HK := Aside0.mk hkm
  have HB2 := Aside0.mk b2
  have HB3 := Aside0.mk b3
  clear hr2 hr3 hc2 hc3 hkm b2 b3
  cases rm with
  | false =>
    go_enter Try.func6, Try.ntmps6
    go_wp2_with (go_at_call 9; (with_reducible refine (laws_mediaOk.calls km a0 a1 false _ HK.out).mono ?_); rintro e w' ⟨rfl, ⟨nd, rfl⟩⟩)
    go_ret2
    exact ⟨pw_below_drewN (Below.refl _ _) _, .inl rfl⟩
  | true =>
  obtain ⟨t0, t1⟩ := hm rfl
  have HT := Aside0.mk (And.intro t0 t1)
  have z0 := t0.2.1
  have z1 := t1.2.1
  clear t0 t1 hm
  by_cases hln : ¬ l2.length = l3.length
  · have hl2 : ((l2.length : Int) == (l3.length : Int)) = false := by simp; omega
    go_enter Try.func6, Try.ntmps6
    go_wp2_with (go_at_call 9; (with_reducible refine (laws_mediaOk.calls km a0 a1 true _ HK.out).mono ?_); rintro e w' ⟨rfl, ⟨nd, rfl⟩⟩)
    go_ret2
    exact ⟨pw_below_drewN (Below.refl _ _) _, .inl rfl⟩
  replace hln : l2.length = l3.length := by omega
  have hl2 : ((l2.length : Int) == (l3.length : Int)) = true := by simp; omega
  by_cases h6 : 6 < l2.length
  · go_enter Try.func6, Try.ntmps6
    go_wp2_with (go_at_call 9; (with_reducible refine (laws_mediaOk.calls km a0 a1 true _ HK.out).mono ?_); rintro e w' ⟨rfl, ⟨nd, rfl⟩⟩)
    go_ret2
    exact ⟨pw_below_drewN (Below.refl _ _) _, .inl rfl⟩
  have hz47 : (⟨#[47]⟩ : ByteArray).size = 1 := rfl
  have hs1 : (a0 ++ (⟨#[47]⟩ : ByteArray)).size = a0.size + 1 := by rw [ByteArray.size_append, hz47]
  have hs2 : ((a0 ++ (⟨#[47]⟩ : ByteArray)) ++ a1).size = a0.size + 1 + a1.size := by rw [ByteArray.size_append, hs1]
  have hH : (headT a0 a1).length = a0.size + 1 + a1.size := by unfold headT; rw [numsOf_length, hs2]
  obtain ⟨H, hHd⟩ : ∃ H, H = headT a0 a1 := ⟨_, rfl⟩
  rw [← hHd] at hH ⊢
  have HHd := Aside0.mk hHd
  have HHl := Aside0.mk hH
  clear hHd hH
  go_enter Try.func6, Try.ntmps6
  go_wp2_with (go_at_call 9; (with_reducible refine (laws_mediaOk.calls km a0 a1 true _ HK.out).mono ?_); rintro e w' ⟨rfl, ⟨nd, hw0⟩⟩; have hB0 : Below w.heap.size w w' := (by rw [hw0]; exact pw_below_drewN (Below.refl _ _) _); obtain ⟨g0, cap0, w1, hcv, hT0, hn0, hB1, _⟩ := text_bytes (n := a0.size + 1 + a1.size) hB0.size ((a0 ++ (⟨#[47]⟩ : ByteArray)) ++ a1) (by omega) hs2.symm; have HT0 := Aside0.mk hT0; have HN0 := Aside0.mk hn0; have HB1 := Aside0.mk (hB0.trans hB1); clear hT0 hn0 hB1 hB0 hw0)
  go_loopw [12, 40] (fun t i wr => ∃ (k n g cap : Nat) (T : List Int), t = .slice (some ⟨g, 0, none⟩) n cap ∧ i = .int .i64 k ∧ k ≤ l2.length ∧ n ≤ 41 + 43 * k ∧ Aside0 (T = textM H (prmsT l2 l3 k) bl ∧ n = T.length) ∧ Aside0 (TextV wr w.heap.size g cap T) ∧ Aside0 (Below w.heap.size w wr) ∧ Aside0 (∀ q, q < k → OkAt l2 l3 q))
    (fun _ i _ => l2.length - (intOf i).toNat)
  case atStart =>
    refine ⟨0, _, g0, cap0, _, rfl, rfl, Nat.zero_le _, by omega, ⟨by rw [prmsT, HHd.out]; simp [textM]; rfl, ?_⟩, HT0, HB1, ⟨fun q hq => by omega⟩⟩
    exact HN0.out
  case round =>
    obtain ⟨k, n, g, cap, T, rfl, rfl, hk, hn, HE, HTV, HB, HOK⟩ := hrel
    clear hcv
    by_cases hlt : k < l2.length
    · obtain ⟨ad2, e2, hx2⟩ := Kd.at_string HR2.out (k : Int) (by omega) (by omega)
      obtain ⟨ad3, e3, hx3⟩ := Kd.at_string HR3.out (k : Int) (by omega) (by omega)
      cases e2
      cases e3
      have HX3 := Aside0.mk hx3
      replace hx2 := (HB.out.cell (World.block_lt_of_cell? w _ hx2)).trans hx2
      replace hx3 := (HB.out.cell (World.block_lt_of_cell? w _ hx3)).trans hx3
      simp only [Int.toNat_natCast] at hx2 hx3
      replace HX3 := Aside0.mk (show w.cell? (ad3.add k) = some (.string (nmAt l3 k)) from by have := HX3.out; simpa only [Int.toNat_natCast] using this)
      obtain ⟨nm, hnm⟩ : ∃ nm, nm = nmAt l2 k := ⟨_, rfl⟩
      obtain ⟨vl, hvl⟩ : ∃ vl, vl = nmAt l3 k := ⟨_, rfl⟩
      rw [show rdOf ByteArray.empty l2 (k : Int) = nm from hnm.symm] at hx2
      rw [show rdOf ByteArray.empty l3 (k : Int) = vl from hvl.symm] at hx3
      obtain ⟨r1, ⟨k1, hk1⟩, h1⟩ := token_ev nm (by rw [hnm]; exact HB2.out k hlt)
      obtain ⟨r2, ⟨k2, hk2⟩, h2⟩ := token_ev vl (by rw [hvl]; exact HB3.out k (by omega))
      have HK1 := Aside0.mk (hk1 k1 (Nat.le_refl _))
      have HK2 := Aside0.mk (hk2 k2 (Nat.le_refl _))
      have HNM := Aside0.mk (And.intro hnm hvl)
      clear hk1 hk2 hnm hvl
      have hlt3 : k < l3.length := by omega
      have hkc : k ≤ c2 := by have := HC.out.1; omega
      have hkc' : (k : Int) ≤ (c2 : Int) := by omega
      cases r1 with
      | false =>
        clear h1 h2
        go_wp2_with (go_at_call 10; (with_reducible refine (spec_IsToken.calls k1 nm false _ HK1.out).mono ?_); rintro e w' ⟨rfl, ⟨nd, rfl⟩⟩)
        go_ret2
        exact ⟨pw_below_drewN HB.out _, .inl rfl⟩
      | true =>
      cases r2 with
      | false =>
        clear h1 h2
        go_wp2_with (first | (go_at_call 10; (with_reducible refine (spec_IsToken.calls k1 nm true _ HK1.out).mono ?_); rintro e w' ⟨rfl, ⟨nd, rfl⟩⟩) | (go_at_call 10; (with_reducible refine (spec_IsToken.calls k2 vl false _ HK2.out).mono ?_); rintro e w' ⟨rfl, ⟨nd', rfl⟩⟩))
        go_ret2
        exact ⟨by (repeat apply pw_below_drewN); exact HB.out, .inl rfl⟩
      | true =>
        have H12 := Aside0.mk (And.intro (h1 rfl) (h2 rfl))
        clear h1 h2
        go_wp2_with (first | (go_at_call 10; (with_reducible refine (spec_IsToken.calls k1 nm true _ HK1.out).mono ?_); rintro e w' ⟨rfl, ⟨nd, rfl⟩⟩) | (go_at_call 10; (with_reducible refine (spec_IsToken.calls k2 vl true _ HK2.out).mono ?_); rintro e w2 ⟨rfl, ⟨nd', hw2⟩⟩; have HB4 := Aside0.mk (show Below w.heap.size w w2 from (by rw [hw2]; exact pw_below_drewN (pw_below_drewN HB.out _) _)); have HTV2 := Aside0.mk (show TextV w2 w.heap.size g cap T from (by rw [hw2]; exact (HTV.out.drew _).drew _)); have hx3' : w2.cell? (ad3.add k) = some (.string vl) := (by rw [hw2]; simpa using hx3); clear hw2 hx2 hx3))
        go_loopw [60] (fun v wx => ∃ q : Nat, v = .int .i64 q ∧ q ≤ k ∧ Aside0 (∀ p, p < q → nmAt l2 p ≠ nm) ∧ w2 = wx) (fun v _ => k - (intOf v).toNat)
        case atStart => exact ⟨0, rfl, Nat.zero_le _, ⟨fun p hp => by omega⟩, rfl⟩
        case round =>
          obtain ⟨q, rfl, hq, HNE, rfl⟩ := hrel
          by_cases hqk : q < k
          · obtain ⟨ad2', e2, hx2⟩ := Kd.at_string HR2.out (q : Int) (by omega) (by omega)
            cases e2
            replace hx2 := (HB4.out.cell (World.block_lt_of_cell? w _ hx2)).trans hx2
            simp only [Int.toNat_natCast] at hx2
            obtain ⟨ot, hot⟩ : ∃ ot, ot = nmAt l2 q := ⟨_, rfl⟩
            rw [show rdOf ByteArray.empty l2 (q : Int) = ot from hot.symm] at hx2
            have HOT := Aside0.mk hot
            clear hot
            by_cases he : ot.toList = nm.toList
            · have he1 : (ot.toList == nm.toList) = true := beq_iff_eq.mpr he
              clear he
              go_wp2
              go_ret2
              exact ⟨HB4.out, .inl rfl⟩
            · have he1 : (ot.toList == nm.toList) = false := beq_eq_false_iff_ne.mpr he
              have HNE' := Aside0.mk he
              clear he
              go_wp2
              go_roundw
              case rel => exact ⟨q + 1, by go_num, by omega, ⟨fun p hp => by
                rcases Nat.lt_succ_iff_lt_or_eq.1 hp with h | rfl
                · exact HNE.out p h
                · rw [← HOT.out]; exact fun h => HNE'.out (congrArg _ h)⟩, trivial⟩
              case measure => simp [intOf]; omega
          · obtain rfl : q = k := by omega
            obtain ⟨y1, y2⟩ := H12.out
            have z2 := y1.2.1
            have z3 := y2.2.1
            clear y1 y2
            have hz61 : (⟨#[61]⟩ : ByteArray).size = 1 := rfl
            have hq1 : (nm ++ (⟨#[61]⟩ : ByteArray)).size = nm.size + 1 := by rw [ByteArray.size_append, hz61]
            have hq2 : ((nm ++ (⟨#[61]⟩ : ByteArray)) ++ vl).size = nm.size + 1 + vl.size := by rw [ByteArray.size_append, hq1]
            have hTl := HE.out.2
            obtain ⟨g1, cap1, w3, hr1, hT1, hn1, hB5⟩ := text_app' (n := n) HTV2.out HE.out.2 HB4.out.size (by omega) 59
            cases bl with
            | true =>
              obtain ⟨g2, cap2, w4, hr2, hT2, hn2, hB6⟩ := text_app' (n := n + 1) hT1 hn1 (HB4.out.trans hB5).size (by omega) 32
              have HA2 := Aside0.mk hr2
              clear hr2
              have hB6 := (HB4.out.trans hB5).trans hB6
              have HA1 := Aside0.mk hr1
              clear hr1
              obtain ⟨g3, cap3, w5, hcv, hT3, hn3, hB8, hst⟩ := text_bytes (n := nm.size + 1 + vl.size) hB6.size ((nm ++ (⟨#[61]⟩ : ByteArray)) ++ vl) (by omega) hq2.symm
              have hB9 := hB6.trans hB8
              obtain ⟨T2, hT2e⟩ : ∃ T2, T2 = (T ++ [59]) ++ [32] := ⟨_, rfl⟩
              rw [← hT2e] at hT2 hn2
              obtain ⟨S2, hS2e⟩ : ∃ S2, S2 = numsOf ((nm ++ (⟨#[61]⟩ : ByteArray)) ++ vl) := ⟨_, rfl⟩
              rw [← hS2e] at hT3 hn3
              have hflat : [T2, S2].flatten = T2 ++ S2 := by simp
              have hlen : (T2 ++ S2).length = n + 1 + 1 + (nm.size + 1 + vl.size) := by rw [List.length_append, ← hn2, ← hn3]
              obtain ⟨kj, hkj⟩ := join_ev [T2, S2] (by simp) (by rw [hflat]; omega)
              replace hkj := hkj kj (Nat.le_refl _)
              rw [hflat] at hkj
              have HJ := Aside0.mk hkj
              have HT2 := Aside0.mk (hst _ _ _ _ hT2)
              have HT3 := Aside0.mk hT3
              have HB9 := Aside0.mk hB9
              have HL := Aside0.mk (And.intro hn2 (And.intro hn3 hlen))
              have HE2 := Aside0.mk (And.intro hT2e hS2e)
              have hx3'' := (hB6.cell (World.block_lt_of_cell? w _ HX3.out)).trans HX3.out
              rw [← HNM.out.2] at hx3''
              clear hx3' hst hT2 hT3 hB9 hn2 hn3 hlen hT2e hS2e hkj hflat hB8 hT1 hn1 hB5 hTl hB6
              go_wp2_with (first | (at_builtin; refine append_event rfl (.tmp 68) (.tmp 69) 24 rfl rfl rfl HA1.out ?_) | (at_builtin; refine append_event rfl (.tmp 72) (.tmp 73) 24 rfl rfl rfl HA2.out ?_) | (go_at_call 11; refine (spec_Join.calls kj (some ⟨w5.heap.size, 0, none⟩) 2 [T2, S2] (T2 ++ S2) _ (rows_C' HT2.out HT3.out HL.out.1 HL.out.2.1) (Nat.le_refl _) HJ.out).mono ?_; rintro e w6 ⟨v6, rfl, hv6, hB6'⟩; have HB10 := Aside0.mk (below_step (HB9.out.alloc HB9.out.size _) hB6'); obtain ⟨g6, cap6, rfl, hT6⟩ := row_text (b := w.heap.size) hv6 (by simp; have := HB9.out.size; omega) (by rw [HL.out.2.2]; omega); have HT6 := Aside0.mk hT6; clear hv6 hB6' hT6))
              go_roundw
              case rel =>
                refine ⟨q + 1, _, g6, cap6, T2 ++ S2, rfl, by go_num, by omega, ?_, ⟨?_, by simp⟩, HT6, HB10, ⟨fun p hp => ?_⟩⟩
                · have := HL.out.2.2; rw [List.length_append] at this; omega
                · rw [prmsT, textM_snoc, HE2.out.1, HE2.out.2, HE.out.1, ← HNM.out.1, ← HNM.out.2, numsOf_app, numsOf_app]
                  simp [segM]
                  rfl
                · rcases Nat.lt_succ_iff_lt_or_eq.1 hp with h | rfl
                  · exact HOK.out p h
                  · exact ⟨by rw [← HNM.out.1]; exact H12.out.1, by rw [← HNM.out.2]; exact H12.out.2, fun p hp => by rw [← HNM.out.1]; exact HNE.out p hp⟩
              case measure => simp [intOf]; omega
            | false =>
              have hT2 := hT1
              have hn2 := hn1
              obtain ⟨w4, hw4⟩ : ∃ w4, w4 = w3 := ⟨_, rfl⟩
              rw [← hw4] at hT2 hB5 hr1
              have hB6 := HB4.out.trans hB5
              obtain ⟨g2, hg2⟩ : ∃ g2, g2 = g1 := ⟨_, rfl⟩
              obtain ⟨cap2, hcap2⟩ : ∃ cap2, cap2 = cap1 := ⟨_, rfl⟩
              rw [← hg2, ← hcap2] at hT2 hr1
              clear hg2 hcap2
              have HA1 := Aside0.mk hr1
              clear hr1
              obtain ⟨g3, cap3, w5, hcv, hT3, hn3, hB8, hst⟩ := text_bytes (n := nm.size + 1 + vl.size) hB6.size ((nm ++ (⟨#[61]⟩ : ByteArray)) ++ vl) (by omega) hq2.symm
              have hB9 := hB6.trans hB8
              obtain ⟨T2, hT2e⟩ : ∃ T2, T2 = T ++ [59] := ⟨_, rfl⟩
              rw [← hT2e] at hT2 hn2
              obtain ⟨S2, hS2e⟩ : ∃ S2, S2 = numsOf ((nm ++ (⟨#[61]⟩ : ByteArray)) ++ vl) := ⟨_, rfl⟩
              rw [← hS2e] at hT3 hn3
              have hflat : [T2, S2].flatten = T2 ++ S2 := by simp
              have hlen : (T2 ++ S2).length = n + 1 + (nm.size + 1 + vl.size) := by rw [List.length_append, ← hn2, ← hn3]
              obtain ⟨kj, hkj⟩ := join_ev [T2, S2] (by simp) (by rw [hflat]; omega)
              replace hkj := hkj kj (Nat.le_refl _)
              rw [hflat] at hkj
              have HJ := Aside0.mk hkj
              have HT2 := Aside0.mk (hst _ _ _ _ hT2)
              have HT3 := Aside0.mk hT3
              have HB9 := Aside0.mk hB9
              have HL := Aside0.mk (And.intro hn2 (And.intro hn3 hlen))
              have HE2 := Aside0.mk (And.intro hT2e hS2e)
              have hx3'' := (hB6.cell (World.block_lt_of_cell? w _ HX3.out)).trans HX3.out
              rw [← HNM.out.2] at hx3''
              clear hx3' hst hT2 hT3 hB9 hn2 hn3 hlen hT2e hS2e hkj hflat hB8 hT1 hn1 hB5 hTl hB6 hw4
              go_wp2_with (first | (at_builtin; refine append_event rfl (.tmp 68) (.tmp 69) 24 rfl rfl rfl HA1.out ?_) | (go_at_call 11; refine (spec_Join.calls kj (some ⟨w5.heap.size, 0, none⟩) 2 [T2, S2] (T2 ++ S2) _ (rows_C' HT2.out HT3.out HL.out.1 HL.out.2.1) (Nat.le_refl _) HJ.out).mono ?_; rintro e w6 ⟨v6, rfl, hv6, hB6'⟩; have HB10 := Aside0.mk (below_step (HB9.out.alloc HB9.out.size _) hB6'); obtain ⟨g6, cap6, rfl, hT6⟩ := row_text (b := w.heap.size) hv6 (by simp; have := HB9.out.size; omega) (by rw [HL.out.2.2]; omega); have HT6 := Aside0.mk hT6; clear hv6 hB6' hT6))
              go_roundw
              case rel =>
                refine ⟨q + 1, _, g6, cap6, T2 ++ S2, rfl, by go_num, by omega, ?_, ⟨?_, by simp⟩, HT6, HB10, ⟨fun p hp => ?_⟩⟩
                · have := HL.out.2.2; rw [List.length_append] at this; omega
                · rw [prmsT, textM_snoc, HE2.out.1, HE2.out.2, HE.out.1, ← HNM.out.1, ← HNM.out.2, numsOf_app, numsOf_app]
                  simp [segM]
                  rfl
                · rcases Nat.lt_succ_iff_lt_or_eq.1 hp with h | rfl
                  · exact HOK.out p h
                  · exact ⟨by rw [← HNM.out.1]; exact H12.out.1, by rw [← HNM.out.2]; exact H12.out.2, fun p hp => by rw [← HNM.out.1]; exact HNE.out p hp⟩
              case measure => simp [intOf]; omega
    · have hkl : k = l2.length := by omega
      go_wp2
      go_ret2
      refine ⟨HB.out, .inr ⟨g, n, cap, rfl, ?_, by omega, ?_, HT.out.1, HT.out.2, hln, by omega, fun i hi => HOK.out i (by omega)⟩⟩
      · rw [HE.out.2, HE.out.1, hkl]
      · rw [← hkl, ← HE.out.1]
        exact HTV.out
end Go.Proofs.Ytfjgfgaojebghaa.Own
