/- The contracts of the functions DecodeURL (of the package: it writes into the slice that it is given; of impl: in new memory). -/
import Derived.Test.YthejmpldfndbfaaDoorCown
import Derived.Test.YthejmpldfndbfaaDoorCCut
import Derived.Outline
namespace Go.Proofs.YthejmpldfndbfaaDoor.Own
open Go.RowKit Go.Proofs.YthejmpldfndbfaaDoorW.PrintWords Go.Proofs.YthejmpldfndbfaaDoorW.PrintLast
set_option linter.unusedVariables false
set_option linter.unusedSimpArgs false
theorem infoD : (Tryd.prog.info? 5).map (fun i => (i.zero, i.size, i.bytes)) = some (some (.int .u8 0), 1, 1) := by kernel_rfl
theorem sizeD : (Tryd.prog.info? 5).map (·.size) = some (Kd.int .u8).sz := by kernel_rfl
def hexD (c : Int) : Bool := (decide (48 ≤ c) && decide (c ≤ 57)) || ((decide (97 ≤ c) && decide (c ≤ 102)) || (decide (65 ≤ c) && decide (c ≤ 70)))
def hexV (c : Int) : Int := if c ≤ 57 then c - 48 else if c ≤ 70 then c - 65 + 10 else c - 97 + 10
def byD (c : Int) : Bool := decide (0 ≤ c) && decide (c < 256)
def decI : List Int → List Int
  | [] => []
  | [c] => [if c = 43 then 32 else c]
  | [c, d] => (if c = 43 then 32 else c) :: decI [d]
  | c :: a :: b :: t => if c = 37 then (if hexD a = true ∧ hexD b = true then (hexV a * 16 + hexV b) :: decI t else 37 :: decI (a :: b :: t)) else (if c = 43 then 32 else c) :: decI (a :: b :: t)
termination_by l => l.length
theorem dec_short {c : Int} {t : List Int} (h : t.length < 2) : decI (c :: t) = (if c = 43 then 32 else c) :: decI t := by
  match t, h with
  | [], _ => rw [decI, decI]
  | [d], _ => simp only [decI]
theorem dec_other {c : Int} {t : List Int} (h : c ≠ 37) : decI (c :: t) = (if c = 43 then 32 else c) :: decI t := by
  match t with
  | [] => exact dec_short (by simp)
  | [d] => exact dec_short (by simp)
  | a :: b :: t => rw [decI, if_neg h]
theorem dec_no {a b : Int} {t : List Int} (h : ¬ (hexD a = true ∧ hexD b = true)) : decI (37 :: a :: b :: t) = 37 :: decI (a :: b :: t) := by
  rw [decI, if_pos rfl, if_neg h]
theorem dec_yes {a b : Int} {t : List Int} (h : hexD a = true) (h' : hexD b = true) : decI (37 :: a :: b :: t) = (hexV a * 16 + hexV b) :: decI t := by
  rw [decI, if_pos rfl, if_pos ⟨h, h'⟩]
theorem hex_cases (c : Int) : (hexD c = true ∧ ((48 ≤ c ∧ c ≤ 57 ∧ hexV c = c - 48) ∨ (48 ≤ c ∧ ¬ c ≤ 57 ∧ 97 ≤ c ∧ c ≤ 102 ∧ ¬ c ≤ 70 ∧ hexV c = c - 97 + 10) ∨ (48 ≤ c ∧ ¬ c ≤ 57 ∧ ¬ 97 ≤ c ∧ 65 ≤ c ∧ c ≤ 70 ∧ hexV c = c - 65 + 10))) ∨
    (hexD c = false ∧ ((¬ 48 ≤ c ∧ ¬ 97 ≤ c ∧ ¬ 65 ≤ c) ∨ (48 ≤ c ∧ ¬ c ≤ 57 ∧ ¬ 97 ≤ c ∧ ¬ 65 ≤ c) ∨ (48 ≤ c ∧ ¬ c ≤ 57 ∧ ¬ 97 ≤ c ∧ 65 ≤ c ∧ ¬ c ≤ 70) ∨ (48 ≤ c ∧ ¬ c ≤ 57 ∧ 97 ≤ c ∧ ¬ c ≤ 102 ∧ 65 ≤ c ∧ ¬ c ≤ 70))) := by
  unfold hexD hexV
  by_cases h1 : 48 ≤ c <;> by_cases h2 : c ≤ 57 <;> by_cases h3 : 97 ≤ c <;> by_cases h4 : c ≤ 102 <;> by_cases h5 : 65 ≤ c <;> by_cases h6 : c ≤ 70 <;> simp [h1, h2, h3, h4, h5, h6] <;> omega
theorem hexV_lt {c : Int} (h : hexD c = true) : 0 ≤ hexV c ∧ hexV c < 16 := by
  rcases hex_cases c with ⟨_, h⟩ | ⟨h', _⟩
  · rcases h with h | h | h <;> omega
  · rw [h] at h'; cases h'
def lenS : Value → Nat
  | .slice _ n _ => n
  | _ => 0
theorem rdOf_mid {D T : List Int} {c : Int} {k : Nat} (hk : k = D.length) : rdOf 0 (D ++ c :: T) (k : Int) = c := by
  subst hk
  simp [rdOf, List.getD_eq_getElem?_getD]
theorem rdOf_mid1 {D T : List Int} {c a : Int} {k : Nat} (hk : k = D.length) : rdOf 0 (D ++ c :: a :: T) ((k : Int) + 1) = a := by
  have := rdOf_mid (D := D ++ [c]) (T := T) (c := a) (k := k + 1) (by simp [hk])
  simpa using this
theorem rdOf_mid2 {D T : List Int} {c a b : Int} {k : Nat} (hk : k = D.length) : rdOf 0 (D ++ c :: a :: b :: T) ((k : Int) + 2) = b := by
  have := rdOf_mid (D := D ++ [c, a]) (T := T) (c := b) (k := k + 2) (by simp [hk])
  simpa using this
theorem set_mid {D T : List Int} {c x : Int} {k : Nat} (hk : k = D.length) : (D ++ c :: T).set k x = D ++ x :: T := by
  subst hk
  simp
set_option maxRecDepth 20000 in
set_option maxHeartbeats 2000000 in
theorem decode_any (g cap base n0 : Nat) (l : List Int) (w : World) (hR : Kd.R (Kd.int .u8) 5 w base (fun _ => True) (.slice (some ⟨g, 0, none⟩) n0 cap) l) (hm : n0 < 140737488355328) (hb : l.all byD = true) :
    Calls Tryd.prog 22 #[.slice (some ⟨g, 0, none⟩) n0 cap] w fun e w' => ∃ n, e = .returned (.slice (some ⟨g, 0, none⟩) n cap) ∧ Kd.R (Kd.int .u8) 5 w' base (fun _ => True) (.slice (some ⟨g, 0, none⟩) n cap) (decI l) ∧ w.grownBy w' (some g) := by
  have HR := Aside0.mk hR
  have HBy := Aside0.mk hb
  clear hR hb
  go_enter Tryd.func22, Tryd.ntmps22
  go_wp2
  go_loopw [0, 3] (fun b i wr => ∃ (D T : List Int) (k n : Nat), b = .slice (some ⟨g, 0, none⟩) n cap ∧ i = .int .i64 k ∧ k ≤ n ∧ n < 140737488355328 ∧ Aside0 (k = D.length ∧ n = (D ++ T).length) ∧
      Aside0 (Kd.R (Kd.int .u8) 5 wr base (fun _ => True) (.slice (some ⟨g, 0, none⟩) n cap) (D ++ T)) ∧ Aside0 (D ++ decI T = decI l) ∧ Aside0 (T.all byD = true) ∧ Aside0 (w.grownBy wr (some g)))
    (fun b i _ => lenS b - (intOf i).toNat)
  case atStart => exact ⟨[], l, 0, n0, rfl, rfl, Nat.zero_le _, hm, ⟨⟨rfl, by simpa using (Kd.R_reads' HR.out).1⟩⟩, ⟨HR.out⟩, ⟨rfl⟩, ⟨HBy.out⟩, ⟨World.grownBy.refl w _⟩⟩
  case round =>
    obtain ⟨D, T, k, n, rfl, rfl, hkn, hn, HL, HR1, HD, HT, HG⟩ := hrel
    cases T with
    | nil =>
      have hkk : k = n := by have := HL.out; simp at this; omega
      subst hkk
      go_wp2
      go_ret
      have e : D = decI l := by have := HD.out; rw [decI, List.append_nil] at this; exact this
      exact ⟨k, rfl, by rw [← e]; simpa using HR1.out, HG.out⟩
    | cons c T =>
      have hlt : k < n := by have := HL.out; simp at this; omega
      obtain ⟨hcell, hfr⟩ := Kd.R_celln (0 : Int) HR1.out (k : Int) (by omega) (by omega)
      rw [rdOf_mid HL.out.1] at hcell
      simp only [Int.toNat_natCast] at hcell hfr
      have hcb : 0 ≤ c ∧ c < 256 := by
        have := HT.out
        rw [List.all_cons, Bool.and_eq_true] at this
        simpa [byD] using this.1
      have HT' := Aside0.mk (show T.all byD = true from by have := HT.out; rw [List.all_cons, Bool.and_eq_true] at this; exact this.2)
      have next : ∀ {x : Int} {wr : World}, decI (c :: T) = x :: decI T → Kd.R (Kd.int .u8) 5 wr base (fun _ => True) (.slice (some ⟨g, 0, none⟩) n cap) (D ++ x :: T) → w.grownBy wr (some g) →
          ∃ (D' T' : List Int) (k' n' : Nat), Value.slice (some ⟨g, 0, none⟩) n cap = .slice (some ⟨g, 0, none⟩) n' cap ∧ Value.int .i64 ((k : Int) + 1) = .int .i64 k' ∧ k' ≤ n' ∧ n' < 140737488355328 ∧ Aside0 (k' = D'.length ∧ n' = (D' ++ T').length) ∧
            Aside0 (Kd.R (Kd.int .u8) 5 wr base (fun _ => True) (.slice (some ⟨g, 0, none⟩) n' cap) (D' ++ T')) ∧ Aside0 (D' ++ decI T' = decI l) ∧ Aside0 (T'.all byD = true) ∧ Aside0 (w.grownBy wr (some g)) := by
        intro x wr h1 h2 h3
        refine ⟨D ++ [x], T, k + 1, n, rfl, rfl, by omega, hn, ⟨⟨by simp [HL.out.1], by have := HL.out.2; simp at this ⊢; omega⟩⟩, ⟨by simpa using h2⟩, ⟨?_⟩, HT', ⟨h3⟩⟩
        have := HD.out
        rw [h1] at this
        simpa using this
      have NEXT := Aside0.mk @next
      clear next
      by_cases h37 : c = 37
      · subst h37
        by_cases h2 : (k : Int) + 2 < n
        · obtain ⟨a, b, T2, rfl⟩ : ∃ a b T2, T = a :: b :: T2 := by
            have := HL.out
            match T, this with
            | [], h => simp at h; omega
            | [x], h => simp at h; omega
            | a :: b :: T2, _ => exact ⟨a, b, T2, rfl⟩
          have hab : (0 ≤ a ∧ a < 256) ∧ (0 ≤ b ∧ b < 256) := by
            have := HT'.out
            rw [List.all_cons, List.all_cons, Bool.and_eq_true, Bool.and_eq_true] at this
            exact ⟨by simpa [byD] using this.1, by simpa [byD] using this.2.1⟩
          have HAB := Aside0.mk hab
          have no : ¬ (hexD a = true ∧ hexD b = true) → decI (37 :: a :: b :: T2) = 37 :: decI (a :: b :: T2) := dec_no
          have NO := Aside0.mk no
          clear no hab
          go_wp2
          clear hcell hfr
          go_loopw [4, 5] (fun j cc wr => ((j = .int .i64 ((k : Int) + 1) ∧ cc = .int .i64 0) ∨ (j = .int .i64 ((k : Int) + 2) ∧ cc = .int .i64 (hexV a) ∧ Aside0 (hexD a = true)) ∨ (j = .int .i64 ((k : Int) + 3) ∧ cc = .int .i64 (hexV a * 16 + hexV b) ∧ Aside0 (hexD a = true ∧ hexD b = true))) ∧
              Aside0 (Kd.R (Kd.int .u8) 5 wr base (fun _ => True) (.slice (some ⟨g, 0, none⟩) n cap) (D ++ 37 :: a :: b :: T2)) ∧ Aside0 (w.grownBy wr (some g)))
            (fun j _ _ => k + 3 - (intOf j).toNat)
          case atStart => exact ⟨.inl ⟨rfl, rfl⟩, HR1, HG⟩
          case round =>
            obtain ⟨hcase, HR2, HG2⟩ := hrel
            rcases hcase with ⟨rfl, rfl⟩ | ⟨rfl, rfl, HX⟩ | ⟨rfl, rfl, HX⟩
            · obtain ⟨hcell, hfr⟩ := Kd.R_celln (0 : Int) HR2.out ((k : Int) + 1) (by omega) (by omega)
              rw [rdOf_mid1 HL.out.1, show ((k : Int) + 1).toNat = k + 1 by omega] at hcell
              have ha := HAB.out.1
              rcases hex_cases a with ⟨hx, hc⟩ | ⟨hx, hc⟩
              · have HXa := Aside0.mk hx
                clear hx
                rcases hc with ⟨h1, h3, hv⟩ | ⟨h1, h3, h4, h5, h6, hv⟩ | ⟨h1, h3, h4, h5, h6, hv⟩
                · have HV := Aside0.mk hv
                  clear hv
                  go_wp2
                  go_roundw
                  case rel => exact ⟨.inr (.inl ⟨by rw [show (k : Int) + 1 + 1 = k + 2 by omega], by rw [HV.out], HXa⟩), HR2, HG2⟩
                  case measure => simp [intOf]; omega
                · have HV := Aside0.mk hv
                  clear hv
                  go_wp2
                  go_roundw
                  case rel => exact ⟨.inr (.inl ⟨by rw [show (k : Int) + 1 + 1 = k + 2 by omega], by rw [HV.out], HXa⟩), HR2, HG2⟩
                  case measure => simp [intOf]; omega
                · have HV := Aside0.mk hv
                  clear hv
                  go_wp2
                  go_roundw
                  case rel => exact ⟨.inr (.inl ⟨by rw [show (k : Int) + 1 + 1 = k + 2 by omega], by rw [HV.out], HXa⟩), HR2, HG2⟩
                  case measure => simp [intOf]; omega
              · have HXa := Aside0.mk hx
                clear hx
                rcases hc with ⟨h1, h3, h4⟩ | ⟨h1, h3, h4, h5⟩ | ⟨h1, h3, h4, h5, h6⟩ | ⟨h1, h3, h4, h5, h6, h7⟩
                · go_wp2
                  go_roundw
                  case rel => exact NEXT.out (NO.out (by rw [HXa.out]; simp)) HR2.out HG2.out
                  case measure => simp [intOf, lenS]; omega
                · go_wp2
                  go_roundw
                  case rel => exact NEXT.out (NO.out (by rw [HXa.out]; simp)) HR2.out HG2.out
                  case measure => simp [intOf, lenS]; omega
                · go_wp2
                  go_roundw
                  case rel => exact NEXT.out (NO.out (by rw [HXa.out]; simp)) HR2.out HG2.out
                  case measure => simp [intOf, lenS]; omega
                · go_wp2
                  go_roundw
                  case rel => exact NEXT.out (NO.out (by rw [HXa.out]; simp)) HR2.out HG2.out
                  case measure => simp [intOf, lenS]; omega
            · obtain ⟨hcell, hfr⟩ := Kd.R_celln (0 : Int) HR2.out ((k : Int) + 2) (by omega) (by omega)
              rw [rdOf_mid2 HL.out.1, show ((k : Int) + 2).toNat = k + 2 by omega] at hcell
              have hb := HAB.out.2
              have hva := hexV_lt HX.out
              obtain ⟨va, hva2⟩ : ∃ va, va = hexV a := ⟨_, rfl⟩
              rw [← hva2] at hva ⊢
              have HVA := Aside0.mk hva2
              clear hva2
              rcases hex_cases b with ⟨hx, hc⟩ | ⟨hx, hc⟩
              · have HXb := Aside0.mk hx
                clear hx
                rcases hc with ⟨h1, h3, hv⟩ | ⟨h1, h3, h4, h5, h6, hv⟩ | ⟨h1, h3, h4, h5, h6, hv⟩
                · have HV := Aside0.mk hv
                  clear hv
                  go_wp2
                  go_roundw
                  case rel => exact ⟨.inr (.inr ⟨by rw [show (k : Int) + 2 + 1 = k + 3 by omega], by rw [HV.out, HVA.out] <;> (congr 1; omega), ⟨HX.out, HXb.out⟩⟩), HR2, HG2⟩
                  case measure => simp [intOf]; omega
                · have HV := Aside0.mk hv
                  clear hv
                  go_wp2
                  go_roundw
                  case rel => exact ⟨.inr (.inr ⟨by rw [show (k : Int) + 2 + 1 = k + 3 by omega], by rw [HV.out, HVA.out] <;> (congr 1; omega), ⟨HX.out, HXb.out⟩⟩), HR2, HG2⟩
                  case measure => simp [intOf]; omega
                · have HV := Aside0.mk hv
                  clear hv
                  go_wp2
                  go_roundw
                  case rel => exact ⟨.inr (.inr ⟨by rw [show (k : Int) + 2 + 1 = k + 3 by omega], by rw [HV.out, HVA.out] <;> (congr 1; omega), ⟨HX.out, HXb.out⟩⟩), HR2, HG2⟩
                  case measure => simp [intOf]; omega
              · have HXb := Aside0.mk hx
                clear hx
                rcases hc with ⟨h1, h3, h4⟩ | ⟨h1, h3, h4, h5⟩ | ⟨h1, h3, h4, h5, h6⟩ | ⟨h1, h3, h4, h5, h6, h7⟩
                · go_wp2
                  go_roundw
                  case rel => exact NEXT.out (NO.out (by rw [HXb.out]; simp)) HR2.out HG2.out
                  case measure => simp [intOf, lenS]; omega
                · go_wp2
                  go_roundw
                  case rel => exact NEXT.out (NO.out (by rw [HXb.out]; simp)) HR2.out HG2.out
                  case measure => simp [intOf, lenS]; omega
                · go_wp2
                  go_roundw
                  case rel => exact NEXT.out (NO.out (by rw [HXb.out]; simp)) HR2.out HG2.out
                  case measure => simp [intOf, lenS]; omega
                · go_wp2
                  go_roundw
                  case rel => exact NEXT.out (NO.out (by rw [HXb.out]; simp)) HR2.out HG2.out
                  case measure => simp [intOf, lenS]; omega
            · have hva := hexV_lt HX.out.1
              have hvb := hexV_lt HX.out.2
              have hyes := dec_yes (t := T2) HX.out.1 HX.out.2
              obtain ⟨v, hv⟩ : ∃ v, v = hexV a * 16 + hexV b := ⟨_, rfl⟩
              have hv0 : 0 ≤ v ∧ v < 256 := by omega
              rw [← hv] at hyes ⊢
              have HY := Aside0.mk hyes
              clear hyes hva hvb hv
              obtain ⟨hcell, hfr⟩ := Kd.R_celln (0 : Int) HR2.out (k : Int) (by omega) (by omega)
              rw [rdOf_mid HL.out.1] at hcell
              simp only [Int.toNat_natCast] at hcell hfr
              obtain ⟨hp1, hp2⟩ := Kd.R_putg HR2.out (k : Int) v
              rw [Int.toNat_natCast] at hp1 hp2
              rw [set_mid HL.out.1] at hp1
              have HP1 := Aside0.mk hp1
              have HP2 := Aside0.mk hp2
              clear hp1 hp2
              have hnc := (Kd.R_reads' HR2.out).2.1
              obtain ⟨i0, hi0, _, hsz, _⟩ := info_parts infoD
              have hcut1 := cut_to (P := Tryd.prog) 22 5 .i64 Tryd.underlying22 hi0 (some ⟨g, 0, none⟩) n cap ((k : Int) + 1) (by omega) (by omega) hnc
              have hcut2 := cut_from (P := Tryd.prog) 22 5 .i64 Tryd.underlying22 hi0 1 hsz (some ⟨g, 0, none⟩) n cap ((k : Int) + 3) (by omega) (by omega)
              rw [show ((k : Int) + 1).toNat = k + 1 by omega] at hcut1
              rw [show ((k : Int) + 3).toNat = k + 3 by omega] at hcut2
              obtain ⟨A2, hA2⟩ : ∃ A2, A2 = (if cap = k + 3 then (some ⟨g, 0, none⟩ : Option Addr) else (some (⟨g, 0, none⟩ : Addr)).map (·.add ((k + 3) * 1))) := ⟨_, rfl⟩
              rw [← hA2] at hcut2
              have HA2 := Aside0.mk hA2
              clear hA2 hi0 hsz hcut1 hcut2
              have hw1 : wrap64 ((k : Int) + 1) = (k : Int) + 1 := by unfold wrap64; omega
              have hw3 : wrap64 ((k : Int) + 3) = (k : Int) + 3 := by unfold wrap64; omega
              go_wp2
              refine start_ (n := 10) (S := fun w' => True) (ds := []) #[false, false, false, false, false, false, false, false, false, false] (by kernel_rfl) rfl rfl trivial (fun hHeld => ?_)
              refine pure_ (i := 0) (N := (some 127)) (v := ?_) (a' := ?_) #[true, false, false, false, false, false, false, false, false, false] rfl rfl (by kernel_rfl) (fun _ _ _ h => h) (Or.inl ⟨by rfl, ?_⟩) ?_ ?_
              rotate_left
              · intro w'
                go_simp
                with_reducible rfl
              rotate_left
              · simp only [Act.put, List.setIfInBounds_toArray, List.set_cons_zero, List.set_cons_succ, i64_w, i32_w]
                rfl
              refine pure_ (i := 1) (N := (some 128)) (v := ?_) (a' := ?_) #[true, true, false, false, false, false, false, false, false, false] rfl rfl (by kernel_rfl) (fun _ _ _ h => h) (Or.inl ⟨by rfl, ?_⟩) ?_ ?_
              rotate_left
              · intro w'
                go_simp
                with_reducible rfl
              rotate_left
              · simp only [Act.put, List.setIfInBounds_toArray, List.set_cons_zero, List.set_cons_succ, i64_w, i32_w]
                rfl
              refine pure_ (i := 2) (N := (some 129)) (v := ?_) (a' := ?_) #[true, true, true, false, false, false, false, false, false, false] rfl rfl (by kernel_rfl) (fun _ _ _ h => h) (Or.inl ⟨by rfl, ?_⟩) ?_ ?_
              rotate_left
              · intro w'
                go_simp
                with_reducible rfl
              rotate_left
              · simp only [Act.put, List.setIfInBounds_toArray, List.set_cons_zero, List.set_cons_succ, i64_w, i32_w]
                rfl
              refine pure_ (i := 3) (N := (some 130)) (v := ?_) (a' := ?_) #[true, true, true, true, false, false, false, false, false, false] rfl rfl (by kernel_rfl) (fun _ _ _ h => h) (Or.inl ⟨by rfl, ?_⟩) ?_ ?_
              rotate_left
              · intro w'
                go_simp
                rw [if_pos ⟨by omega, by omega⟩]
              rotate_left
              · simp only [Act.put, List.setIfInBounds_toArray, List.set_cons_zero, List.set_cons_succ, i64_w, i32_w]
                rfl
              refine pure_ (i := 4) (N := (some 131)) (v := ?_) (a' := ?_) #[true, true, true, true, true, false, false, false, false, false] rfl rfl (by kernel_rfl) (fun _ _ _ h => h) (Or.inl ⟨by rfl, ?_⟩) ?_ ?_
              rotate_left
              · intro w'
                go_simp
                with_reducible rfl
              rotate_left
              · simp only [Act.put, List.setIfInBounds_toArray, List.set_cons_zero, List.set_cons_succ, i64_w, i32_w]
                rfl
              refine pure_ (i := 5) (N := (some 132)) (v := ?_) (a' := ?_) #[true, true, true, true, true, true, false, false, false, false] rfl rfl (by kernel_rfl) (fun _ _ _ h => h) (Or.inl ⟨by rfl, ?_⟩) ?_ ?_
              rotate_left
              · intro w'
                go_simp
                with_reducible rfl
              rotate_left
              · simp only [Act.put, List.setIfInBounds_toArray, List.set_cons_zero, List.set_cons_succ, i64_w, i32_w]
                rfl
              refine pure_ (i := 6) (N := (some 133)) (v := ?_) (a' := ?_) #[true, true, true, true, true, true, true, false, false, false] rfl rfl (by kernel_rfl) (fun _ _ _ h => h) (Or.inl ⟨by rfl, ?_⟩) ?_ ?_
              rotate_left
              · intro w'
                go_simp
                with_reducible rfl
              rotate_left
              · simp only [Act.put, List.setIfInBounds_toArray, List.set_cons_zero, List.set_cons_succ, i64_w, i32_w]
                rfl
              refine pure_ (i := 7) (N := (some 134)) (v := ?_) (a' := ?_) #[true, true, true, true, true, true, true, true, false, false] rfl rfl (by kernel_rfl) (fun _ _ _ h => h) (Or.inl ⟨by rfl, ?_⟩) ?_ ?_
              rotate_left
              · intro w'
                go_simp
                rw [if_pos ⟨by omega, by omega⟩]
              rotate_left
              · simp only [Act.put, List.setIfInBounds_toArray, List.set_cons_zero, List.set_cons_succ, i64_w, i32_w]
                rfl
              refine one_ (i := 8) (N := (some 135)) #[true, true, true, true, true, true, true, true, true, false] rfl rfl (by kernel_rfl) (by simp) (fun K_ hK_ => ?_)
              refine R_cutout_step (P := Tryd.prog) (Kd.int .u8) base (by rfl) (.tmp 130) (.tmp 134) 22 5 rfl Tryd.underlying22 sizeD (g := g) (n := n) (c := cap) (k := k + 1) (j := k + 3) (m := n - (k + 3)) (c2 := cap - (k + 3)) (A := if cap = k + 3 then some ⟨g, 0, none⟩ else some ⟨g, k + 3, none⟩) (by rfl) (by rfl) (by rw [Option.map_some, add_plain, show (k + 3) * (Kd.int .u8).sz = k + 3 from Nat.mul_one _]) rfl (Kd.R_drew HP1.out) (by omega) (by omega) (fun w1 hR1 hG1 => ?_)
              refine hK_ _ _ trivial (fun _ => ?_)
              refine pure_ (i := 9) (N := (some 0)) (v := ?_) (a' := ?_) #[true, true, true, true, true, true, true, true, true, true] rfl rfl (by kernel_rfl) (fun _ _ _ h => h) (Or.inl ⟨by rfl, ?_⟩) ?_ ?_
              rotate_left
              · intro w'
                go_simp
                with_reducible rfl
              rotate_left
              · simp only [Act.put, List.setIfInBounds_toArray, List.set_cons_zero, List.set_cons_succ, i64_w, i32_w]
                rfl
              refine done_ (by kernel_rfl) ?_
              have HR3 := Aside0.mk hR1
              have HG3 := Aside0.mk (show w.grownBy w1 (some g) from World.grownBy.trans (World.grownBy.trans HG2.out HP2.out) (by obtain ⟨q1, q2, q3, q4, q5⟩ := hG1; exact ⟨q1, q2, q3, q4, q5⟩))
              clear hR1 hG1
              go_wp2
              go_roundw
              case rel =>
                have el : (D ++ v :: a :: b :: T2).take (k + 1) ++ (D ++ v :: a :: b :: T2).drop (k + 3) = (D ++ [v]) ++ T2 := by
                  rw [HL.out.1]
                  have e1 : (D ++ v :: a :: b :: T2).take (D.length + 1) = D ++ [v] := by
                    rw [List.take_append, List.take_of_length_le (by omega), show D.length + 1 - D.length = 1 by omega]
                    rfl
                  have e2 : (D ++ v :: a :: b :: T2).drop (D.length + 3) = T2 := by
                    rw [List.drop_append, List.drop_of_length_le (by omega), show D.length + 3 - D.length = 3 by omega]
                    rfl
                  rw [e1, e2]
                refine ⟨D ++ [v], T2, k + 1, k + 1 + (n - (k + 3)), rfl, rfl, by omega, by omega, ⟨⟨by simp [HL.out.1], ?_⟩⟩, ⟨by rw [← el]; exact HR3.out⟩, ⟨?_⟩, ⟨?_⟩, HG3⟩
                · have := HL.out
                  simp at this ⊢
                  omega
                · have := HD.out
                  rw [HY.out] at this
                  simpa using this
                · have := HT'.out
                  rw [List.all_cons, List.all_cons, Bool.and_eq_true, Bool.and_eq_true] at this
                  exact this.2.2
              case measure => simp [intOf, lenS]; omega
        · have hshort : decI (37 :: T) = 37 :: decI T := by
            rw [dec_short (by have := HL.out; simp at this; omega)]
            rfl
          have HS := Aside0.mk hshort
          clear hshort
          go_wp2
          go_roundw
          case rel => exact NEXT.out HS.out HR1.out HG.out
          case measure => simp [intOf, lenS]; omega
      · by_cases h43 : c = 43
        · subst h43
          have hd : decI (43 :: T) = 32 :: decI T := by rw [dec_other (by omega)]; rfl
          obtain ⟨hp1, hp2⟩ := Kd.R_putg HR1.out (k : Int) 32
          rw [Int.toNat_natCast] at hp1 hp2
          rw [set_mid HL.out.1] at hp1
          have HP1 := Aside0.mk hp1
          have HP2 := Aside0.mk hp2
          have HS := Aside0.mk hd
          clear hd hp1 hp2
          go_wp2
          go_roundw
          case rel => exact NEXT.out HS.out HP1.out (World.grownBy.trans HG.out HP2.out)
          case measure => simp [intOf, lenS]; omega
        · have hd : decI (c :: T) = c :: decI T := by rw [dec_other h37, if_neg h43]
          have HS := Aside0.mk hd
          clear hd
          go_wp2
          go_roundw
          case rel => exact NEXT.out HS.out HR1.out HG.out
          case measure => simp [intOf, lenS]; omega
set_option maxRecDepth 20000 in
set_option maxHeartbeats 1000000 in
theorem decode_nil (w : World) : Calls Tryd.prog 22 #[.slice none 0 0] w fun e w' => e = .returned (.slice none 0 0) ∧ w' = w := by
  go_enter Tryd.func22, Tryd.ntmps22
  go_wp2
  refine wp_loop_rounds 1 ?_
  rw [rounds_succ]
  go_wp2
  go_ret
  exact ⟨rfl, rfl⟩
def impl_DecodeURL.f (l0 : List Int) : Option (List Int) := if l0.length < 140737488355328 ∧ l0.all byD = true then some (decI l0) else none
theorem decI_len : ∀ (n : Nat) (l : List Int), l.length ≤ n → (decI l).length ≤ l.length
  | _, [], _ => by rw [decI]; exact Nat.le_refl _
  | 0, c :: t, h => by simp at h
  | n + 1, c :: t, h => by
    have ih : ∀ u : List Int, u.length ≤ t.length → (decI u).length ≤ u.length := fun u hu => decI_len n u (by simp at h; omega)
    by_cases h37 : c = 37
    · subst h37
      match t, ih with
      | [], _ => rw [dec_short (by simp)]; simp [decI]
      | [d], ih => rw [dec_short (by simp)]; have := ih [d] (by simp); simp at this ⊢; omega
      | a :: b :: u, ih =>
        by_cases hx : hexD a = true ∧ hexD b = true
        · rw [dec_yes hx.1 hx.2]
          have := ih u (by simp; omega)
          simp
          omega
        · rw [dec_no hx]
          have := ih (a :: b :: u) (Nat.le_refl _)
          simp at this ⊢
          omega
    · rw [dec_other h37]
      have := ih t (Nat.le_refl _)
      simp
      omega
end Go.Proofs.YthejmpldfndbfaaDoor.Own
