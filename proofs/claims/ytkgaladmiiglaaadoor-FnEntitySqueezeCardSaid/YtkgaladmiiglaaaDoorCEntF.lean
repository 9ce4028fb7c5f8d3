/- ReplaceMultipleWhitespaceAndEntities, in the slice that it is given. -/
import Derived.Test.YtkgaladmiiglaaaDoorCEntE
namespace Go.Proofs.YtkgaladmiiglaaaDoor.Own
open Go.RowKit Go.Proofs.YtkgaladmiiglaaaDoorW.PrintWords Go.Proofs.YtkgaladmiiglaaaDoorW.PrintLast
set_option linter.unusedVariables false
set_option linter.unusedSimpArgs false
/-- The first byte of a text. -/
theorem tx_first {L : List En} {R : List Tk} {t : Tk} (ht : TkOk L t) : ∃ d rest, txT (t :: R) = d :: rest ∧ 0 ≤ d ∧ d < 256 ∧ (Head (t :: R) → wsQ d = false) := by
  cases t with
  | ch c => exact ⟨c, txT R, by simp [txT, Tk.tx], ht.2.1, ht.2.2, fun h => h⟩
  | ent e => exact ⟨38, numsOf e.nm ++ (59 :: txT R), by simp [txT, Tk.tx], by decide, by decide, fun _ => by decide⟩
theorem InvE.cell0 {G cur : List Int} {j k i : Nat} {R : List Tk} {w : World} {base g n cap : Nat} {d : Int} {rest : List Int} (h : InvE G cur j k i R) (hB : BRow w base g n cap cur) (hd : txT R = d :: rest) : i < n ∧ w.cell? ⟨g, i, none⟩ = some (.int .u8 d) := by
  have hl := congrArg List.length h.rest
  rw [hd, List.length_drop, List.length_cons] at hl
  have hi : i < cur.length := by omega
  refine ⟨by rw [hB.1]; exact hi, ?_⟩
  rw [(hB.cell hi).1]
  have h7 := h.rest
  rw [List.drop_eq_getElem_cons hi, hd, List.cons.injEq] at h7
  rw [h7.1]
theorem txT_run (run : List Int) (R : List Tk) : txT (run.map Tk.ch ++ R) = run ++ txT R := by
  unfold txT
  rw [List.flatMap_append, List.flatMap_map]
  congr 1
  induction run with
  | nil => rfl
  | cons a t ih => simp [Tk.tx]
theorem cell1 {cur : List Int} {i : Nat} {R : List Tk} {w : World} {base g n cap : Nat} {d : Int} {rest : List Int} (h : cur.drop i = txT R) (hB : BRow w base g n cap cur) (hd : txT R = d :: rest) : i < n ∧ w.cell? ⟨g, i, none⟩ = some (.int .u8 d) := by
  have hl := congrArg List.length h
  rw [hd, List.length_drop, List.length_cons] at hl
  have hi : i < cur.length := by omega
  refine ⟨by rw [hB.1]; exact hi, ?_⟩
  rw [(hB.cell hi).1]
  rw [List.drop_eq_getElem_cons hi, hd, List.cons.injEq] at h
  rw [h.1]
set_option maxRecDepth 20000 in
set_option maxHeartbeats 8000000 in
theorem rmwae (w : World) (base g cap lo bm br : Nat) (L : List En) (hnd : (L.map En.nm).Nodup) (hval : ∀ e ∈ L, ValOk e) (T : List Tk) (hT : ∀ t ∈ T, TkOk L t) (n : Nat) (hB : BRow w base g n cap (txT T)) (hM : EMap w lo bm L) (hV : NoRev w lo br) (hglo : g < lo) (hn : n ≤ 1000000) (hg1 : 1 < g) (HTabW : Aside0 (TabW w)) (HTabN : Aside0 (TabN w)) :
    Calls Tryd.prog 23 #[.slice (some ⟨g, 0, none⟩) n cap, .map (some bm), .map (some br)] w fun ed w' => ∃ A c m, ed = .returned (.slice A m c) ∧ m = (sqz (duT T)).length ∧ Kd.C (Kd.int .u8) w' A m (sqz (duT T)) ∧ m ≤ c ∧ w.grownBy w' (some g) := by
  have HM := Aside0.mk hM
  have HV := Aside0.mk hV
  have HND := Aside0.mk hnd
  have HVAL := Aside0.mk (show ∀ R : List Tk, (∀ t ∈ R, TkOk L t) → ∀ t ∈ R, ∀ e, t = .ent e → ValOk e from fun R h t ht e he => by
    have := h t ht
    subst he
    exact hval e this.1)
  have HTW := Aside0.mk (fun wr (h : w.grownBy wr (some g)) => (show Aside0 (TabW wr) from ⟨TabAt.grownQ HTabW.out h (by omega)⟩))
  have HTN := Aside0.mk (fun wr (h : w.grownBy wr (some g)) => (show Aside0 (TabN wr) from ⟨TabAt.grownQ HTabN.out h (by omega)⟩))
  have H0 := Aside0.mk (show InvE (sqz (duT T)) (txT T) 0 0 0 T ∧ BRow w base g n cap (txT T) ∧ (∀ t ∈ T, TkOk L t) ∧ w.grownBy w (some g) from ⟨⟨fun _ => rfl, fun h => by omega, Nat.le_refl _, Nat.zero_le _, by omega, rfl, by simp [outQ]⟩, hB, hT, World.grownBy.refl _ _⟩)
  have hnc : n ≤ cap := by obtain ⟨_, _, cur, _, h, _⟩ := hB; exact h
  clear hB hM hV hT hnd hg1
  go_enter Tryd.func23, Tryd.ntmps23
  go_wp2
  go_loopw [0, 7, 8, 9] (fun v0 vj vk vi wr => ∃ (n' j k i : Nat) (cur : List Int) (R : List Tk), v0 = .slice (some ⟨g, 0, none⟩) n' cap ∧ vj = .int .i64 (j : Int) ∧ vk = .int .i64 (k : Int) ∧ vi = .int .i64 (i : Int) ∧ n' ≤ n ∧ j ≤ n' ∧ k ≤ n' ∧ i ≤ n' + 1 ∧ Aside0 (InvE (sqz (duT T)) cur j k i R ∧ BRow wr base g n' cap cur ∧ (∀ t ∈ R, TkOk L t) ∧ w.grownBy wr (some g))) (fun v0 _ _ vi _ => lenW v0 + 1 - (intOf vi).toNat)
  case atStart => exact ⟨n, 0, 0, 0, txT T, T, rfl, rfl, rfl, rfl, Nat.le_refl _, Nat.zero_le _, Nat.zero_le _, Nat.zero_le _, H0⟩
  case round =>
    obtain ⟨n', j, k, s, cur, R, rfl, rfl, rfl, rfl, hn', hjn, hkn, hsn, HI⟩ := hrel
    have HCL := Aside0.mk HI.out.2.1.1.symm
    cases R with
    | nil =>
      have hsl : cur.length ≤ s := by
        have h7 := congrArg List.length HI.out.1.rest
        rw [List.length_drop] at h7
        simp [txT] at h7
        omega
      have HRES := Aside0.mk (HI.out.1.fin hsl)
      have hlt : ¬ (s < n') := by rw [HI.out.2.1.1]; omega
      have HR1 := Aside0.mk HI.out.2.1.toR
      have HG := Aside0.mk HI.out.2.2.2
      have hjk := HI.out.1.jk
      have hj0k := HI.out.1.z
      have hnc' : n' ≤ cap := by omega
      clear hsl
      by_cases hj0 : j = 0
      · subst hj0
        rw [if_pos rfl] at HRES
        go_wp2
        go_ret
        exact ⟨_, _, _, rfl, by rw [HRES.out, HCL.out], by rw [HRES.out]; have h9 := (Kd.R_reads' HR1.out).2.2; rw [HCL.out] at h9; exact h9, hnc', HG.out⟩
      · rw [if_neg hj0] at HRES
        have hjz : ¬ ((j : Int) = 0) := by omega
        have hjp : 0 < j := by omega
        have hjk2 := hjk hjp
        clear hjk hj0k
        by_cases hj1 : j = 1
        · subst hj1
          obtain ⟨k1, rfl⟩ : ∃ k1, k = k1 + 1 := ⟨k - 1, by omega⟩
          obtain ⟨hc0, hf0⟩ := Kd.R_celln (0 : Int) HR1.out (0 : Int) (by omega) (by omega)
          obtain ⟨x, hx⟩ : ∃ x, x = rdOf 0 cur 0 := ⟨_, rfl⟩
          rw [← hx] at hc0
          have HX := Aside0.mk hx
          obtain ⟨hp1, hp2⟩ := Kd.R_putg HR1.out (k1 : Int) x
          obtain ⟨hc1, hf1⟩ := Kd.R_celln (0 : Int) HR1.out (k1 : Int) (by omega) (by omega)
          simp only [Int.toNat_natCast, Int.toNat_zero] at hc0 hf0 hp1 hp2 hc1 hf1
          have HP1 := Aside0.mk hp1
          have HG3 := Aside0.mk (World.grownBy.trans HG.out hp2)
          clear hp1 hp2 hx
          have hs1 : wrap64 (((k1 + 1 : Nat) : Int) - 1) = (k1 : Int) := by unfold wrap64; omega
          have hs2 : wrap64 ((k1 : Int) + 1 - 1) = (k1 : Int) := by unfold wrap64; omega
          have hne : ¬ (cap = k1) := by omega
          go_wp2
          go_ret
          have hk1 : k1 < cur.length := by rw [HCL.out]; omega
          have h8 : sqz (duT T) = (cur.set k1 x).drop k1 := by
            rw [HRES.out]
            have e1 : (cur.set k1 x).drop k1 = x :: cur.drop (k1 + 1) := by
              rw [List.drop_eq_getElem_cons (by simpa using hk1), List.getElem_set_self, drop_set' (Nat.lt_succ_self k1)]
            have e2 : cur.take 1 = [x] := by
              rw [HX.out]
              cases hcur : cur with
              | nil => rw [hcur] at hk1; simp at hk1
              | cons a t => rfl
            rw [e1, e2]
            rfl
          have h9 : Kd.C (Kd.int .u8) _ _ (cur.set k1 x).length (cur.set k1 x) := (Kd.R_reads' HP1.out).2.2
          have h10 := Kd.C_drop (c := cap) (m := k1) h9 (by rw [List.length_set]; omega) (by rw [List.length_set, HCL.out]; exact hnc')
          rw [if_neg hne, ← h8, Option.map_some, show k1 * (Kd.int .u8).sz = k1 from Nat.mul_one k1, add_plain] at h10
          have h11 : (sqz (duT T)).length = n' - k1 := by rw [h8, List.length_drop, List.length_set, HCL.out]
          exact ⟨some ⟨g, k1, none⟩, cap - k1, n' - k1, rfl, h11.symm, by rw [← h11]; exact h10, by omega, HG3.out⟩
        · have hjz1 : ¬ ((j : Int) = 1) := by omega
          by_cases hkn2 : k < n'
          · have hq2 : k + (n' - k) ≤ n' := by omega
            have hq3 : 0 < n' - k := by omega
            have hne1 : ¬ (cap = j) := by omega
            have hne2 : ¬ (cap = k) := by omega
            have hjk1 : j ≤ k := by omega
            have HQ := Aside0.mk (And.intro hjk1 (And.intro hq2 hq3))
            have hjle : (j : Int) ≤ (n' : Int) := by omega
            have hkle : (k : Int) ≤ (n' : Int) := by omega
            clear hq2 hq3 hjk1
            go_wp2
            refine start_ (n := 10) (S := fun w' => True) (ds := []) #[false, false, false, false, false, false, false, false, false, false] (by kernel_rfl) rfl rfl trivial (fun hHeld => ?_)
            refine pure_ (i := 0) (N := (some 116)) (v := ?_) (a' := ?_) #[true, false, false, false, false, false, false, false, false, false] rfl rfl (by kernel_rfl) (fun _ _ _ h => h) (Or.inl ⟨by rfl, ?_⟩) ?_ ?_
            rotate_left
            · intro w'
              go_simp
              with_reducible rfl
            rotate_left
            · simp only [Act.put, List.setIfInBounds_toArray, List.set_cons_zero, List.set_cons_succ, i64_w, i32_w]
              rfl
            refine pure_ (i := 1) (N := (some 117)) (v := ?_) (a' := ?_) #[true, true, false, false, false, false, false, false, false, false] rfl rfl (by kernel_rfl) (fun _ _ _ h => h) (Or.inl ⟨by rfl, ?_⟩) ?_ ?_
            rotate_left
            · intro w'
              go_simp
              with_reducible rfl
            rotate_left
            · simp only [Act.put, List.setIfInBounds_toArray, List.set_cons_zero, List.set_cons_succ, i64_w, i32_w]
              rfl
            refine pure_ (i := 2) (N := (some 118)) (v := ?_) (a' := ?_) #[true, true, true, false, false, false, false, false, false, false] rfl rfl (by kernel_rfl) (fun _ _ _ h => h) (Or.inl ⟨by rfl, ?_⟩) ?_ ?_
            rotate_left
            · intro w'
              go_simp
              with_reducible rfl
            rotate_left
            · simp only [Act.put, List.setIfInBounds_toArray, List.set_cons_zero, List.set_cons_succ, i64_w, i32_w]
              rfl
            refine pure_ (i := 4) (N := (some 120)) (v := ?_) (a' := ?_) #[true, true, true, false, true, false, false, false, false, false] rfl rfl (by kernel_rfl) (fun _ _ _ h => h) (Or.inl ⟨by rfl, ?_⟩) ?_ ?_
            rotate_left
            · intro w'
              go_simp
              with_reducible rfl
            rotate_left
            · simp only [Act.put, List.setIfInBounds_toArray, List.set_cons_zero, List.set_cons_succ, i64_w, i32_w]
              rfl
            refine pure_ (i := 5) (N := (some 121)) (v := ?_) (a' := ?_) #[true, true, true, false, true, true, false, false, false, false] rfl rfl (by kernel_rfl) (fun _ _ _ h => h) (Or.inl ⟨by rfl, ?_⟩) ?_ ?_
            rotate_left
            · intro w'
              go_simp
              with_reducible rfl
            rotate_left
            · simp only [Act.put, List.setIfInBounds_toArray, List.set_cons_zero, List.set_cons_succ, i64_w, i32_w]
              rfl
            refine pure_ (i := 3) (N := (some 119)) (v := ?_) (a' := ?_) #[true, true, true, true, true, true, false, false, false, false] rfl rfl (by kernel_rfl) (fun _ _ _ h => h) (Or.inl ⟨by rfl, ?_⟩) ?_ ?_
            rotate_left
            · intro w'
              go_simp
              with_reducible rfl
            rotate_left
            · simp only [Act.put, List.setIfInBounds_toArray, List.set_cons_zero, List.set_cons_succ, i64_w, i32_w]
              rfl
            refine pure_ (i := 6) (N := (some 122)) (v := ?_) (a' := ?_) #[true, true, true, true, true, true, true, false, false, false] rfl rfl (by kernel_rfl) (fun _ _ _ h => h) (Or.inl ⟨by rfl, ?_⟩) ?_ ?_
            rotate_left
            · intro w'
              go_simp
              with_reducible rfl
            rotate_left
            · simp only [Act.put, List.setIfInBounds_toArray, List.set_cons_zero, List.set_cons_succ, i64_w, i32_w]
              rfl
            refine one_ (i := 7) (N := (some 123)) #[true, true, true, true, true, true, true, true, false, false] rfl rfl (by kernel_rfl) (by simp) (fun K_ hK_ => ?_)
            refine R_move_step (P := Tryd.prog) base 123 rfl (by rfl) (.tmp 119) (.tmp 122) 22 5 rfl Tryd.underlying22 sizeQ (g := g) (n := n') (c := cap) (p := j) (q := k) (m := n' - k) (m1 := n' - j) (c2 := cap - j) (c3 := cap - k) (by rfl) (by rfl) rfl (Kd.R_drew HR1.out) HQ.out.1 HQ.out.2.1 HQ.out.2.2 (fun w3 hR3 hG3 => ?_)
            have HR5 := Aside0.mk hR3
            have HG5 := Aside0.mk (World.grownBy.trans (gQ (m := 1) HG).out hG3)
            clear hR3 hG3
            simp only [Act.put, List.setIfInBounds_toArray, List.set_cons_zero, List.set_cons_succ]
            refine hK_ _ _ trivial (fun _ => ?_)
            refine pure_ (i := 8) (N := (some 124)) (v := ?_) (a' := ?_) #[true, true, true, true, true, true, true, true, true, false] rfl rfl (by kernel_rfl) (fun _ _ _ h => h) (Or.inl ⟨by rfl, ?_⟩) ?_ ?_
            rotate_left
            · intro w'
              go_simp
              with_reducible rfl
            rotate_left
            · simp only [Act.put, List.setIfInBounds_toArray, List.set_cons_zero, List.set_cons_succ, i64_w, i32_w]
              rfl
            refine pure_ (i := 9) (N := (some 7)) (v := ?_) (a' := ?_) #[true, true, true, true, true, true, true, true, true, true] rfl rfl (by kernel_rfl) (fun _ _ _ h => h) (Or.inl ⟨by rfl, ?_⟩) ?_ ?_
            rotate_left
            · intro w'
              go_simp
              with_reducible rfl
            rotate_left
            · simp only [Act.put, List.setIfInBounds_toArray, List.set_cons_zero, List.set_cons_succ, i64_w, i32_w]
              rfl
            refine done_ (by kernel_rfl) ?_
            have hjn2 : j + (n' - k) ≤ n' := by have := HQ.out; omega
            clear hjle hkle
            obtain ⟨q, hq⟩ : ∃ q, q = j + (n' - k) := ⟨_, rfl⟩
            have hqc : q ≤ cap := by rw [hq]; exact Nat.le_trans hjn2 hnc'
            have hsj : wrap64 ((j : Int) + ((n' - k : Nat) : Int)) = (q : Int) := by rw [hq]; exact w64Q (Nat.lt_of_le_of_lt hjn2 (Nat.lt_of_le_of_lt (Nat.le_trans hn' hn) (by decide)))
            have HQQ := Aside0.mk hq
            have HJN := Aside0.mk hjn2
            rw [hsj]
            clear hsj hq hjn2
            go_wp2
            go_ret
            have h9 := (Kd.R_reads' HR5.out).2.2
            have h8 : sqz (duT T) = (cur.take j ++ ((cur.drop k).take (n' - k) ++ cur.drop (j + (n' - k)))).take (j + (n' - k)) := by
              have e1 : (cur.drop k).take (n' - k) = cur.drop k := List.take_of_length_le (by rw [List.length_drop, HCL.out]; exact Nat.le_refl _)
              rw [HRES.out, e1, ← List.append_assoc]; exact (List.take_left' (by rw [List.length_append, List.length_take, List.length_drop, HCL.out]; omega)).symm
            have hl5 : (cur.take j ++ ((cur.drop k).take (n' - k) ++ cur.drop (j + (n' - k)))).length = n' := (Kd.R_reads' HR5.out).1.symm
            have h10 := Kd.C_take (m := j + (n' - k)) h9 (by rw [hl5]; exact HJN.out)
            rw [← h8] at h10
            have h11 : (sqz (duT T)).length = j + (n' - k) := by rw [h8, List.length_take, hl5]; exact Nat.min_eq_left HJN.out
            rw [h11, ← HQQ.out] at h10
            exact ⟨_, _, _, rfl, (h11.trans HQQ.out.symm).symm, h10, hqc, HG5.out⟩
          · have hkk : k = n' := by omega
            have HKK := Aside0.mk hkk
            have hjle : (j : Int) ≤ (cap : Int) := by omega
            clear hkk
            go_wp2
            go_ret
            refine ⟨_, _, _, rfl, ?_, ?_, by omega, HG.out⟩
            · rw [HRES.out, HKK.out, List.length_append, List.length_take, List.length_drop, HCL.out]; omega
            · have h9 := (Kd.R_reads' HR1.out).2.2
              have h10 := Kd.C_take (m := j) h9 (by rw [HCL.out]; exact hjn)
              have h11 : sqz (duT T) = cur.take j := by rw [HRES.out, HKK.out, List.drop_of_length_le (by rw [HCL.out]; exact Nat.le_refl _), List.append_nil]
              rw [h11]
              rw [List.length_take, HCL.out, Nat.min_eq_left hjn] at h10
              exact h10
    | cons tk R =>
      obtain ⟨d, rest, hd, hd0, hd1, hdh⟩ := tx_first (R := R) (HI.out.2.2.1 tk (by simp))
      obtain ⟨hlt, hcell⟩ := HI.out.1.cell0 HI.out.2.1 hd
      have HD := Aside0.mk hd
      have HDH := Aside0.mk hdh
      have HDB := Aside0.mk (And.intro hd0 hd1)
      clear hd hdh hd0 hd1
      obtain ⟨bw, hbw⟩ : ∃ b, b = wsQ d := ⟨_, rfl⟩
      have HBW := Aside0.mk hbw
      clear hbw
      go_upto_if 22 with (go_at_call 26; (with_reducible refine (tdparse_IsWhitespace.calls d bw _ (by rw [wsQ_f HDB.out, HBW.out]) (HTW.out _ HI.out.2.2.2)).mono ?_); rintro e w1 ⟨rfl, ⟨m1, hw1⟩⟩)
      have HI1 := Aside0.mk (show InvE (sqz (duT T)) cur j k s (tk :: R) ∧ BRow (wr.drewN m1) base g n' cap cur ∧ (∀ t ∈ tk :: R, TkOk L t) ∧ w.grownBy (wr.drewN m1) (some g) from ⟨HI.out.1, HI.out.2.1.drewN m1, HI.out.2.2.1, ⟨HI.out.2.2.2.os, HI.out.2.2.2.tape, HI.out.2.2.2.output, HI.out.2.2.2.size, HI.out.2.2.2.block⟩⟩)
      go_cut [7, 8, 9] (fun vj vk vi wx => ∃ (cur : List Int) (j k i : Nat) (R : List Tk), vj = .int .i64 (j : Int) ∧ vk = .int .i64 (k : Int) ∧ vi = .int .i64 (i : Int) ∧ j ≤ n' ∧ k ≤ n' ∧ i ≤ n' ∧ s ≤ i ∧ Aside0 (Head R) ∧ Aside0 (InvE (sqz (duT T)) cur j k i R ∧ BRow wx base g n' cap cur ∧ (∀ t ∈ R, TkOk L t) ∧ w.grownBy wx (some g)))
      case first =>
        cases bw with
        | false =>
          have HH := Aside0.mk (show Head (tk :: R) from by
            cases tk with
            | ch c =>
              have := HD.out
              simp only [txT, List.flatMap_cons, Tk.tx, List.cons_append, List.nil_append, List.cons.injEq] at this
              show wsQ c = false
              rw [this.1, ← HBW.out]
            | ent e => trivial)
          go_wp2
          go_meet
          exact ⟨cur, j, k, s, tk :: R, rfl, rfl, rfl, hjn, hkn, by omega, Nat.le_refl _, HH, HI1⟩
        | true =>
          have HW0 := Aside0.mk (show ∃ c, tk = .ch c ∧ c = d from by
            cases tk with
            | ch c =>
              have := HD.out
              simp only [txT, List.flatMap_cons, Tk.tx, List.cons_append, List.nil_append, List.cons.injEq] at this
              exact ⟨c, rfl, this.1⟩
            | ent e =>
              have := HD.out
              simp only [txT, List.flatMap_cons, Tk.tx, List.cons_append, List.nil_append, List.cons.injEq] at this
              have h2 := HBW.out
              rw [← this.1] at h2
              exact absurd h2 (by decide))
          obtain ⟨nb, hnb⟩ : ∃ nb, nb = nlQ d := ⟨_, rfl⟩
          have HNB := Aside0.mk hnb
          clear hnb
          go_wp2_with fail
          (with_reducible refine (tdparse_IsNewline.calls d nb _ (by rw [nlQ_f HDB.out, HNB.out]) (HTN.out _ HI1.out.2.2.2)).mono ?_)
          rintro e' w2 ⟨rfl, ⟨m2, rfl⟩⟩
          clear hcell
          go_wp2
          go_loopw [9, 11] (fun vi vn wq => ∃ (e : Nat) (fl : Bool) (run : List Int) (R2 : List Tk), vi = .int .i64 (e : Int) ∧ vn = .bool fl ∧ s < e ∧ e ≤ n' ∧ Aside0 (e = s + run.length) ∧ Aside0 (run.any nlQ = fl) ∧ Aside0 (∀ c ∈ run, wsQ c = true) ∧ Aside0 ((tk :: R = run.map Tk.ch ++ R2 ∧ True) ∧ BRow wq base g n' cap cur ∧ w.grownBy wq (some g))) (fun vi _ _ => n' - (intOf vi).toNat)
          case atStart =>
            obtain ⟨c, hc, hcd⟩ := HW0.out
            exact ⟨s + 1, nb, [d], R, by go_num, rfl, by omega, by omega, ⟨rfl⟩, ⟨by rw [HNB.out]; simp⟩, ⟨fun c hc => by rw [List.mem_singleton] at hc; rw [hc, ← HBW.out]⟩, ⟨⟨by rw [hc, hcd]; rfl, trivial⟩, HI1.out.2.1.drewN m2, ⟨HI1.out.2.2.2.os, HI1.out.2.2.2.tape, HI1.out.2.2.2.output, HI1.out.2.2.2.size, HI1.out.2.2.2.block⟩⟩⟩
          case round =>
            obtain ⟨e, fl, run, R2, rfl, rfl, hse, hen, HE, HANY, HWS, HR2⟩ := hrel
            have HTK2 := Aside0.mk (show ∀ t ∈ R2, TkOk L t from fun t ht => HI.out.2.2.1 t (by rw [HR2.out.1.1]; exact List.mem_append_right _ ht))
            have HDR := Aside0.mk (show cur.drop e = txT R2 from by
              have h7 := HI.out.1.rest
              rw [HR2.out.1.1, txT_run] at h7
              have h8 := congrArg (List.drop run.length) h7
              rw [List.drop_drop, List.drop_left' rfl, ← HE.out] at h8
              exact h8)
            cases R2 with
            | nil =>
              have hne : ¬ (e < n') := by
                have h7 := congrArg List.length HDR.out
                rw [List.length_drop, HCL.out] at h7
                simp [txT] at h7
                omega
              have HHD := Aside0.mk (show Head [] from trivial)
              obtain ⟨R2, hR2⟩ : ∃ x : List Tk, x = [] := ⟨_, rfl⟩
              rw [← hR2] at HHD HTK2 HR2
              clear hR2
              have HI := Aside0.mk (show InvE (sqz (duT T)) cur j k s (run.map Tk.ch ++ R2) ∧ True from ⟨by rw [← HR2.out.1.1]; exact HI.out.1, trivial⟩)
              cases fl with
              | false =>
                obtain ⟨hcs, hfs⟩ := HR2.out.2.1.cell (k := s) (by rw [← HR2.out.2.1.1]; omega)
                have HMK := Aside0.mk (show markQ run = 32 by unfold markQ; rw [HANY.out]; rfl)
                have HP1 := Aside0.mk (show BRow (wr.setCell ⟨g, s, none⟩ (.int .u8 32)) base g n' cap (cur.set s (markQ run)) by rw [HMK.out]; exact HR2.out.2.1.put s (by omega) 32)
                have HG3 := Aside0.mk (show w.grownBy (wr.setCell ⟨g, s, none⟩ (.int .u8 32)) (some g) from Go.Lib.Hx.grownBy_set HR2.out.2.2 _ rfl _)
                by_cases h1e : s + 1 < e
                · have H1R := Aside0.mk (show 1 < run.length by have := HE.out; omega)
                  have hle : (1 : Int) < (e : Int) - (s : Int) := by omega
                  by_cases hj0 : j = 0
                  · subst hj0
                    have hk0 : k = 0 := HI.out.1.z rfl
                    subst hk0
                    have HI5 := Aside0.mk (HI.out.1.first H1R.out HWS.out HHD.out (HVAL.out R2 HTK2.out) HE.out)
                    go_wp2
                    go_meet
                    exact ⟨_, s + 1, e, e, R2, by go_num, rfl, rfl, by omega, by omega, by omega, by omega, HHD, ⟨HI5.out, HP1.out, HTK2.out, HG3.out⟩⟩
                  · have hjp : 0 < j := by omega
                    have hjk := HI.out.1.jk hjp
                    have hki := HI.out.1.ki
                    have hjz : ((j : Int) == 0) = false := by simp; omega
                    have hne1 : ¬ (cap = j) := by omega
                    have hne2 : ¬ (cap = k) := by omega
                    have hs1 : wrap64 ((s : Int) + 1) = (s : Int) + 1 := by unfold wrap64; omega
                    have hjle : (j : Int) ≤ (n' : Int) := by omega
                    have hkle : (k : Int) ≤ (s : Int) + 1 := by omega
                    have hsle : (s : Int) + 1 ≤ (cap : Int) := by omega
                    obtain ⟨w5, rc, hB5, hg5⟩ := (HP1.out.drewN 1).copy j (some ⟨g, j, none⟩) (some ⟨g, k, none⟩) (s + 1 - k) (cap - j) (cap - k) (((cur.set s (markQ run)).take (s + 1)).drop k) (by have := HCL.out; simp; omega) (by omega) (fun _ => rfl) (fun _ => ⟨_, rfl, fun q hq => by
                      have hq' : q < s + 1 - k := by simp at hq; omega
                      have e4 : (⟨g, k, none⟩ : Addr).add q = ⟨g, k + q, none⟩ := by rw [← add_plain g k, add_add, add_plain]
                      rw [e4, ((HP1.out.drewN 1).cell (k := k + q) (by rw [← HP1.out.1]; omega)).1]
                      congr 2
                      simp [List.getElem_drop, List.getElem_take]⟩)
                    have RC_ := Aside0.mk rc
                    have hjn2 : j + (s + 1 - k) ≤ n' := by omega
                    have HI6 := Aside0.mk (HI.out.1.copy (c2 := (cur.set s (markQ run)).take j ++ (((cur.set s (markQ run)).take (s + 1)).drop k ++ (cur.set s (markQ run)).drop (j + (s + 1 - k)))) hjp H1R.out HWS.out HHD.out (HVAL.out R2 HTK2.out) HE.out rfl)
                    have HB5 := Aside0.mk (And.intro hB5 ((show w.grownBy _ (some g) from ⟨HG3.out.os, HG3.out.tape, HG3.out.output, HG3.out.size, HG3.out.block⟩ : w.grownBy ((wr.setCell ⟨g, s, none⟩ (.int .u8 32)).drewN 1) (some g)).trans hg5))
                    have hsj : wrap64 ((j : Int) + ((s + 1 - k : Nat) : Int)) = ((j + (s + 1 - k) : Nat) : Int) := by unfold wrap64; omega
                    have HSJ := Aside0.mk hsj
                    clear rc hB5 hg5 hsj hjk hki
                    go_wp2
                    refine start_ (n := 12) (S := fun w' => True) (ds := []) #[false, false, false, false, false, false, false, false, false, false, false, false] (by kernel_rfl) rfl rfl trivial (fun hHeld => ?_)
                    refine pure_ (i := 0) (N := (some 64)) (v := ?_) (a' := ?_) #[true, false, false, false, false, false, false, false, false, false, false, false] rfl rfl (by kernel_rfl) (fun _ _ _ h => h) (Or.inl ⟨by rfl, ?_⟩) ?_ ?_
                    rotate_left
                    · intro w'
                      go_simp
                      with_reducible rfl
                    rotate_left
                    · simp only [Act.put, List.setIfInBounds_toArray, List.set_cons_zero, List.set_cons_succ, i64_w, i32_w]
                      rfl
                    refine pure_ (i := 1) (N := (some 65)) (v := ?_) (a' := ?_) #[true, true, false, false, false, false, false, false, false, false, false, false] rfl rfl (by kernel_rfl) (fun _ _ _ h => h) (Or.inl ⟨by rfl, ?_⟩) ?_ ?_
                    rotate_left
                    · intro w'
                      go_simp
                      with_reducible rfl
                    rotate_left
                    · simp only [Act.put, List.setIfInBounds_toArray, List.set_cons_zero, List.set_cons_succ, i64_w, i32_w]
                      rfl
                    refine pure_ (i := 2) (N := (some 66)) (v := ?_) (a' := ?_) #[true, true, true, false, false, false, false, false, false, false, false, false] rfl rfl (by kernel_rfl) (fun _ _ _ h => h) (Or.inl ⟨by rfl, ?_⟩) ?_ ?_
                    rotate_left
                    · intro w'
                      go_simp
                      with_reducible rfl
                    rotate_left
                    · simp only [Act.put, List.setIfInBounds_toArray, List.set_cons_zero, List.set_cons_succ, i64_w, i32_w]
                      rfl
                    refine pure_ (i := 4) (N := (some 68)) (v := ?_) (a' := ?_) #[true, true, true, false, true, false, false, false, false, false, false, false] rfl rfl (by kernel_rfl) (fun _ _ _ h => h) (Or.inl ⟨by rfl, ?_⟩) ?_ ?_
                    rotate_left
                    · intro w'
                      go_simp
                      with_reducible rfl
                    rotate_left
                    · simp only [Act.put, List.setIfInBounds_toArray, List.set_cons_zero, List.set_cons_succ, i64_w, i32_w]
                      rfl
                    refine pure_ (i := 5) (N := (some 69)) (v := ?_) (a' := ?_) #[true, true, true, false, true, true, false, false, false, false, false, false] rfl rfl (by kernel_rfl) (fun _ _ _ h => h) (Or.inl ⟨by rfl, ?_⟩) ?_ ?_
                    rotate_left
                    · intro w'
                      go_simp
                      with_reducible rfl
                    rotate_left
                    · simp only [Act.put, List.setIfInBounds_toArray, List.set_cons_zero, List.set_cons_succ, i64_w, i32_w]
                      rfl
                    refine pure_ (i := 6) (N := (some 70)) (v := ?_) (a' := ?_) #[true, true, true, false, true, true, true, false, false, false, false, false] rfl rfl (by kernel_rfl) (fun _ _ _ h => h) (Or.inl ⟨by rfl, ?_⟩) ?_ ?_
                    rotate_left
                    · intro w'
                      go_simp
                      with_reducible rfl
                    rotate_left
                    · simp only [Act.put, List.setIfInBounds_toArray, List.set_cons_zero, List.set_cons_succ, i64_w, i32_w]
                      rfl
                    refine pure_ (i := 3) (N := (some 67)) (v := ?_) (a' := ?_) #[true, true, true, true, true, true, true, false, false, false, false, false] rfl rfl (by kernel_rfl) (fun _ _ _ h => h) (Or.inl ⟨by rfl, ?_⟩) ?_ ?_
                    rotate_left
                    · intro w'
                      go_simp
                      with_reducible rfl
                    rotate_left
                    · simp only [Act.put, List.setIfInBounds_toArray, List.set_cons_zero, List.set_cons_succ, i64_w, i32_w]
                      rfl
                    refine pure_ (i := 7) (N := (some 71)) (v := ?_) (a' := ?_) #[true, true, true, true, true, true, true, true, false, false, false, false] rfl rfl (by kernel_rfl) (fun _ _ _ h => h) (Or.inl ⟨by rfl, ?_⟩) ?_ ?_
                    rotate_left
                    · intro w'
                      go_simp
                      with_reducible rfl
                    rotate_left
                    · simp only [Act.put, List.setIfInBounds_toArray, List.set_cons_zero, List.set_cons_succ, i64_w, i32_w]
                      rfl
                    refine pure_ (i := 8) (N := (some 72)) (v := ?_) (a' := ?_) #[true, true, true, true, true, true, true, true, true, false, false, false] rfl rfl (by kernel_rfl) (fun _ _ _ h => h) (Or.inl ⟨by rfl, ?_⟩) ?_ ?_
                    rotate_left
                    · intro w'
                      go_simp
                      with_reducible rfl
                    rotate_left
                    · simp only [Act.put, List.setIfInBounds_toArray, List.set_cons_zero, List.set_cons_succ, i64_w, i32_w]
                      rfl
                    refine one_ (i := 9) (N := (some 73)) #[true, true, true, true, true, true, true, true, true, true, false, false] rfl rfl (by kernel_rfl) (by simp) (fun K_ hK_ => ?_)
                    refine copy_step (P := Tryd.prog) (by rfl) (.tmp 67) (.tmp 72) 22 rfl rfl rfl RC_.out ?_
                    simp only [Act.put, List.setIfInBounds_toArray, List.set_cons_zero, List.set_cons_succ]
                    refine hK_ _ _ trivial (fun _ => ?_)
                    refine pure_ (i := 10) (N := (some 74)) (v := ?_) (a' := ?_) #[true, true, true, true, true, true, true, true, true, true, true, false] rfl rfl (by kernel_rfl) (fun _ _ _ h => h) (Or.inl ⟨by rfl, ?_⟩) ?_ ?_
                    rotate_left
                    · intro w'
                      go_simp
                      with_reducible rfl
                    rotate_left
                    · simp only [Act.put, List.setIfInBounds_toArray, List.set_cons_zero, List.set_cons_succ, i64_w, i32_w]
                      rfl
                    refine pure_ (i := 11) (N := (some 7)) (v := ?_) (a' := ?_) #[true, true, true, true, true, true, true, true, true, true, true, true] rfl rfl (by kernel_rfl) (fun _ _ _ h => h) (Or.inl ⟨by rfl, ?_⟩) ?_ ?_
                    rotate_left
                    · intro w'
                      go_simp
                      with_reducible rfl
                    rotate_left
                    · simp only [Act.put, List.setIfInBounds_toArray, List.set_cons_zero, List.set_cons_succ, i64_w, i32_w]
                      rfl
                    refine done_ (by kernel_rfl) ?_
                    clear hs1 hjle hkle hsle
                    go_wp2
                    go_meet
                    exact ⟨_, j + (s + 1 - k), e, e, R2, by first | rfl | rw [HSJ.out], rfl, rfl, by omega, by omega, by omega, by omega, HHD, ⟨HI6.out, HB5.out.1, HTK2.out, HB5.out.2⟩⟩
                · have hle : ¬ ((1 : Int) < (e : Int) - (s : Int)) := by omega
                  have H1 := Aside0.mk (show run.length = 1 by have := HE.out; omega)
                  have HES := Aside0.mk (show e = s + 1 by omega)
                  have HI5 := Aside0.mk (show InvE (sqz (duT T)) (cur.set s (markQ run)) j k e R2 by rw [HES.out]; exact HI.out.1.run1 H1.out HWS.out HHD.out (HVAL.out R2 HTK2.out))
                  go_wp2
                  go_meet
                  exact ⟨_, j, k, e, R2, rfl, rfl, rfl, by omega, by omega, by omega, by omega, HHD, ⟨HI5.out, HP1.out, HTK2.out, HG3.out⟩⟩
              | true =>
                obtain ⟨hcs, hfs⟩ := HR2.out.2.1.cell (k := s) (by rw [← HR2.out.2.1.1]; omega)
                have HMK := Aside0.mk (show markQ run = 10 by unfold markQ; rw [HANY.out]; rfl)
                have HP1 := Aside0.mk (show BRow (wr.setCell ⟨g, s, none⟩ (.int .u8 10)) base g n' cap (cur.set s (markQ run)) by rw [HMK.out]; exact HR2.out.2.1.put s (by omega) 10)
                have HG3 := Aside0.mk (show w.grownBy (wr.setCell ⟨g, s, none⟩ (.int .u8 10)) (some g) from Go.Lib.Hx.grownBy_set HR2.out.2.2 _ rfl _)
                by_cases h1e : s + 1 < e
                · have H1R := Aside0.mk (show 1 < run.length by have := HE.out; omega)
                  have hle : (1 : Int) < (e : Int) - (s : Int) := by omega
                  by_cases hj0 : j = 0
                  · subst hj0
                    have hk0 : k = 0 := HI.out.1.z rfl
                    subst hk0
                    have HI5 := Aside0.mk (HI.out.1.first H1R.out HWS.out HHD.out (HVAL.out R2 HTK2.out) HE.out)
                    go_wp2
                    go_meet
                    exact ⟨_, s + 1, e, e, R2, by go_num, rfl, rfl, by omega, by omega, by omega, by omega, HHD, ⟨HI5.out, HP1.out, HTK2.out, HG3.out⟩⟩
                  · have hjp : 0 < j := by omega
                    have hjk := HI.out.1.jk hjp
                    have hki := HI.out.1.ki
                    have hjz : ((j : Int) == 0) = false := by simp; omega
                    have hne1 : ¬ (cap = j) := by omega
                    have hne2 : ¬ (cap = k) := by omega
                    have hs1 : wrap64 ((s : Int) + 1) = (s : Int) + 1 := by unfold wrap64; omega
                    have hjle : (j : Int) ≤ (n' : Int) := by omega
                    have hkle : (k : Int) ≤ (s : Int) + 1 := by omega
                    have hsle : (s : Int) + 1 ≤ (cap : Int) := by omega
                    obtain ⟨w5, rc, hB5, hg5⟩ := (HP1.out.drewN 1).copy j (some ⟨g, j, none⟩) (some ⟨g, k, none⟩) (s + 1 - k) (cap - j) (cap - k) (((cur.set s (markQ run)).take (s + 1)).drop k) (by have := HCL.out; simp; omega) (by omega) (fun _ => rfl) (fun _ => ⟨_, rfl, fun q hq => by
                      have hq' : q < s + 1 - k := by simp at hq; omega
                      have e4 : (⟨g, k, none⟩ : Addr).add q = ⟨g, k + q, none⟩ := by rw [← add_plain g k, add_add, add_plain]
                      rw [e4, ((HP1.out.drewN 1).cell (k := k + q) (by rw [← HP1.out.1]; omega)).1]
                      congr 2
                      simp [List.getElem_drop, List.getElem_take]⟩)
                    have RC_ := Aside0.mk rc
                    have hjn2 : j + (s + 1 - k) ≤ n' := by omega
                    have HI6 := Aside0.mk (HI.out.1.copy (c2 := (cur.set s (markQ run)).take j ++ (((cur.set s (markQ run)).take (s + 1)).drop k ++ (cur.set s (markQ run)).drop (j + (s + 1 - k)))) hjp H1R.out HWS.out HHD.out (HVAL.out R2 HTK2.out) HE.out rfl)
                    have HB5 := Aside0.mk (And.intro hB5 ((show w.grownBy _ (some g) from ⟨HG3.out.os, HG3.out.tape, HG3.out.output, HG3.out.size, HG3.out.block⟩ : w.grownBy ((wr.setCell ⟨g, s, none⟩ (.int .u8 10)).drewN 1) (some g)).trans hg5))
                    have hsj : wrap64 ((j : Int) + ((s + 1 - k : Nat) : Int)) = ((j + (s + 1 - k) : Nat) : Int) := by unfold wrap64; omega
                    have HSJ := Aside0.mk hsj
                    clear rc hB5 hg5 hsj hjk hki
                    go_wp2
                    refine start_ (n := 12) (S := fun w' => True) (ds := []) #[false, false, false, false, false, false, false, false, false, false, false, false] (by kernel_rfl) rfl rfl trivial (fun hHeld => ?_)
                    refine pure_ (i := 0) (N := (some 64)) (v := ?_) (a' := ?_) #[true, false, false, false, false, false, false, false, false, false, false, false] rfl rfl (by kernel_rfl) (fun _ _ _ h => h) (Or.inl ⟨by rfl, ?_⟩) ?_ ?_
                    rotate_left
                    · intro w'
                      go_simp
                      with_reducible rfl
                    rotate_left
                    · simp only [Act.put, List.setIfInBounds_toArray, List.set_cons_zero, List.set_cons_succ, i64_w, i32_w]
                      rfl
                    refine pure_ (i := 1) (N := (some 65)) (v := ?_) (a' := ?_) #[true, true, false, false, false, false, false, false, false, false, false, false] rfl rfl (by kernel_rfl) (fun _ _ _ h => h) (Or.inl ⟨by rfl, ?_⟩) ?_ ?_
                    rotate_left
                    · intro w'
                      go_simp
                      with_reducible rfl
                    rotate_left
                    · simp only [Act.put, List.setIfInBounds_toArray, List.set_cons_zero, List.set_cons_succ, i64_w, i32_w]
                      rfl
                    refine pure_ (i := 2) (N := (some 66)) (v := ?_) (a' := ?_) #[true, true, true, false, false, false, false, false, false, false, false, false] rfl rfl (by kernel_rfl) (fun _ _ _ h => h) (Or.inl ⟨by rfl, ?_⟩) ?_ ?_
                    rotate_left
                    · intro w'
                      go_simp
                      with_reducible rfl
                    rotate_left
                    · simp only [Act.put, List.setIfInBounds_toArray, List.set_cons_zero, List.set_cons_succ, i64_w, i32_w]
                      rfl
                    refine pure_ (i := 4) (N := (some 68)) (v := ?_) (a' := ?_) #[true, true, true, false, true, false, false, false, false, false, false, false] rfl rfl (by kernel_rfl) (fun _ _ _ h => h) (Or.inl ⟨by rfl, ?_⟩) ?_ ?_
                    rotate_left
                    · intro w'
                      go_simp
                      with_reducible rfl
                    rotate_left
                    · simp only [Act.put, List.setIfInBounds_toArray, List.set_cons_zero, List.set_cons_succ, i64_w, i32_w]
                      rfl
                    refine pure_ (i := 5) (N := (some 69)) (v := ?_) (a' := ?_) #[true, true, true, false, true, true, false, false, false, false, false, false] rfl rfl (by kernel_rfl) (fun _ _ _ h => h) (Or.inl ⟨by rfl, ?_⟩) ?_ ?_
                    rotate_left
                    · intro w'
                      go_simp
                      with_reducible rfl
                    rotate_left
                    · simp only [Act.put, List.setIfInBounds_toArray, List.set_cons_zero, List.set_cons_succ, i64_w, i32_w]
                      rfl
                    refine pure_ (i := 6) (N := (some 70)) (v := ?_) (a' := ?_) #[true, true, true, false, true, true, true, false, false, false, false, false] rfl rfl (by kernel_rfl) (fun _ _ _ h => h) (Or.inl ⟨by rfl, ?_⟩) ?_ ?_
                    rotate_left
                    · intro w'
                      go_simp
                      with_reducible rfl
                    rotate_left
                    · simp only [Act.put, List.setIfInBounds_toArray, List.set_cons_zero, List.set_cons_succ, i64_w, i32_w]
                      rfl
                    refine pure_ (i := 3) (N := (some 67)) (v := ?_) (a' := ?_) #[true, true, true, true, true, true, true, false, false, false, false, false] rfl rfl (by kernel_rfl) (fun _ _ _ h => h) (Or.inl ⟨by rfl, ?_⟩) ?_ ?_
                    rotate_left
                    · intro w'
                      go_simp
                      with_reducible rfl
                    rotate_left
                    · simp only [Act.put, List.setIfInBounds_toArray, List.set_cons_zero, List.set_cons_succ, i64_w, i32_w]
                      rfl
                    refine pure_ (i := 7) (N := (some 71)) (v := ?_) (a' := ?_) #[true, true, true, true, true, true, true, true, false, false, false, false] rfl rfl (by kernel_rfl) (fun _ _ _ h => h) (Or.inl ⟨by rfl, ?_⟩) ?_ ?_
                    rotate_left
                    · intro w'
                      go_simp
                      with_reducible rfl
                    rotate_left
                    · simp only [Act.put, List.setIfInBounds_toArray, List.set_cons_zero, List.set_cons_succ, i64_w, i32_w]
                      rfl
                    refine pure_ (i := 8) (N := (some 72)) (v := ?_) (a' := ?_) #[true, true, true, true, true, true, true, true, true, false, false, false] rfl rfl (by kernel_rfl) (fun _ _ _ h => h) (Or.inl ⟨by rfl, ?_⟩) ?_ ?_
                    rotate_left
                    · intro w'
                      go_simp
                      with_reducible rfl
                    rotate_left
                    · simp only [Act.put, List.setIfInBounds_toArray, List.set_cons_zero, List.set_cons_succ, i64_w, i32_w]
                      rfl
                    refine one_ (i := 9) (N := (some 73)) #[true, true, true, true, true, true, true, true, true, true, false, false] rfl rfl (by kernel_rfl) (by simp) (fun K_ hK_ => ?_)
                    refine copy_step (P := Tryd.prog) (by rfl) (.tmp 67) (.tmp 72) 22 rfl rfl rfl RC_.out ?_
                    simp only [Act.put, List.setIfInBounds_toArray, List.set_cons_zero, List.set_cons_succ]
                    refine hK_ _ _ trivial (fun _ => ?_)
                    refine pure_ (i := 10) (N := (some 74)) (v := ?_) (a' := ?_) #[true, true, true, true, true, true, true, true, true, true, true, false] rfl rfl (by kernel_rfl) (fun _ _ _ h => h) (Or.inl ⟨by rfl, ?_⟩) ?_ ?_
                    rotate_left
                    · intro w'
                      go_simp
                      with_reducible rfl
                    rotate_left
                    · simp only [Act.put, List.setIfInBounds_toArray, List.set_cons_zero, List.set_cons_succ, i64_w, i32_w]
                      rfl
                    refine pure_ (i := 11) (N := (some 7)) (v := ?_) (a' := ?_) #[true, true, true, true, true, true, true, true, true, true, true, true] rfl rfl (by kernel_rfl) (fun _ _ _ h => h) (Or.inl ⟨by rfl, ?_⟩) ?_ ?_
                    rotate_left
                    · intro w'
                      go_simp
                      with_reducible rfl
                    rotate_left
                    · simp only [Act.put, List.setIfInBounds_toArray, List.set_cons_zero, List.set_cons_succ, i64_w, i32_w]
                      rfl
                    refine done_ (by kernel_rfl) ?_
                    clear hs1 hjle hkle hsle
                    go_wp2
                    go_meet
                    exact ⟨_, j + (s + 1 - k), e, e, R2, by first | rfl | rw [HSJ.out], rfl, rfl, by omega, by omega, by omega, by omega, HHD, ⟨HI6.out, HB5.out.1, HTK2.out, HB5.out.2⟩⟩
                · have hle : ¬ ((1 : Int) < (e : Int) - (s : Int)) := by omega
                  have H1 := Aside0.mk (show run.length = 1 by have := HE.out; omega)
                  have HES := Aside0.mk (show e = s + 1 by omega)
                  have HI5 := Aside0.mk (show InvE (sqz (duT T)) (cur.set s (markQ run)) j k e R2 by rw [HES.out]; exact HI.out.1.run1 H1.out HWS.out HHD.out (HVAL.out R2 HTK2.out))
                  go_wp2
                  go_meet
                  exact ⟨_, j, k, e, R2, rfl, rfl, rfl, by omega, by omega, by omega, by omega, HHD, ⟨HI5.out, HP1.out, HTK2.out, HG3.out⟩⟩
            | cons t2 R3 =>
              obtain ⟨d2, rest2, hd2, hd20, hd21, hdh2⟩ := tx_first (R := R3) (HTK2.out t2 (by simp))
              obtain ⟨hlt2, hcell2⟩ := cell1 HDR.out HR2.out.2.1 hd2
              have HD2 := Aside0.mk hd2
              have HDB2 := Aside0.mk (And.intro hd20 hd21)
              clear hd2 hdh2 hd20 hd21
              cases hws2 : wsQ d2 with
              | true =>
                have HWS2 := Aside0.mk hws2
                clear hws2
                obtain ⟨nd, hnd⟩ : ∃ nd, nd = nlQ d2 := ⟨_, rfl⟩
                have HND := Aside0.mk hnd
                clear hnd
                have HNX := Aside0.mk (show t2 = Tk.ch d2 from by
                  cases t2 with
                  | ch c =>
                    have := HD2.out
                    simp only [txT, List.flatMap_cons, Tk.tx, List.cons_append, List.nil_append, List.cons.injEq] at this
                    rw [this.1]
                  | ent e =>
                    have := HD2.out
                    simp only [txT, List.flatMap_cons, Tk.tx, List.cons_append, List.nil_append, List.cons.injEq] at this
                    have h2 := HWS2.out
                    rw [← this.1] at h2
                    exact absurd h2 (by decide))
                have HR3 := Aside0.mk (fun (ma : Nat) => show ((tk :: R = (run ++ [d2]).map Tk.ch ++ R3 ∧ True) ∧ BRow (wr.drewN ma) base g n' cap cur ∧ w.grownBy (wr.drewN ma) (some g)) from ⟨⟨by rw [HR2.out.1.1, HNX.out]; simp, trivial⟩, HR2.out.2.1.drewN ma, (gQ (m := ma) ⟨HR2.out.2.2⟩).out⟩)
                have HWSN := Aside0.mk (show ∀ c ∈ run ++ [d2], wsQ c = true from fun c hc => by
                  rcases List.mem_append.1 hc with h | h
                  · exact HWS.out c h
                  · rw [List.mem_singleton] at h; rw [h]; exact HWS2.out)
                go_wp2_with fail
                (with_reducible refine (tdparse_IsWhitespace.calls d2 true _ (by rw [wsQ_f HDB2.out, HWS2.out]) (HTW.out _ HR2.out.2.2)).mono ?_)
                rintro e' w3 ⟨rfl, ⟨m3, rfl⟩⟩
                go_wp2_with fail
                (with_reducible refine (tdparse_IsNewline.calls d2 nd _ (by rw [nlQ_f HDB2.out, HND.out]) (HTN.out _ (gQ (m := m3) ⟨HR2.out.2.2⟩).out)).mono ?_)
                rintro e' w4 ⟨rfl, ⟨m4, rfl⟩⟩
                cases nd with
                | true =>
                  go_wp2
                  go_roundw
                  case rel => exact ⟨e + 1, true, run ++ [d2], R3, by go_num, rfl, by omega, by omega, ⟨by have := HE.out; rw [List.length_append, List.length_singleton]; omega⟩, ⟨by simp [List.any_append, ← HND.out]⟩, HWSN, ⟨HR3.out (m3 + m4)⟩⟩
                  case measure => simp [intOf]; omega
                | false =>
                  go_wp2
                  go_roundw
                  case rel => exact ⟨e + 1, fl, run ++ [d2], R3, by go_num, rfl, by omega, by omega, ⟨by have := HE.out; rw [List.length_append, List.length_singleton]; omega⟩, ⟨by simp [List.any_append, HANY.out, ← HND.out]⟩, HWSN, ⟨HR3.out (m3 + m4)⟩⟩
                  case measure => simp [intOf]; omega
              | false =>
                have HWS2 := Aside0.mk hws2
                clear hws2
                have HHD := Aside0.mk (show Head (t2 :: R3) from by
                  cases t2 with
                  | ch c =>
                    have := HD2.out
                    simp only [txT, List.flatMap_cons, Tk.tx, List.cons_append, List.nil_append, List.cons.injEq] at this
                    show wsQ c = false
                    rw [this.1, HWS2.out]
                  | ent e => trivial)
                obtain ⟨R2, hR2⟩ : ∃ x, x = t2 :: R3 := ⟨_, rfl⟩
                go_wp2_with fail
                (with_reducible refine (tdparse_IsWhitespace.calls d2 false _ (by rw [wsQ_f HDB2.out, HWS2.out]) (HTW.out _ HR2.out.2.2)).mono ?_)
                rintro e' w3 ⟨rfl, ⟨m3, rfl⟩⟩
                have HR2 := Aside0.mk (show ((tk :: R = run.map Tk.ch ++ R2 ∧ True) ∧ BRow (wr.drewN m3) base g n' cap cur ∧ w.grownBy (wr.drewN m3) (some g)) from ⟨⟨by rw [hR2]; exact HR2.out.1.1, trivial⟩, HR2.out.2.1.drewN m3, (gQ (m := m3) ⟨HR2.out.2.2⟩).out⟩)
                rw [← hR2] at HHD HTK2
                clear hcell2 hR2
                have HI := Aside0.mk (show InvE (sqz (duT T)) cur j k s (run.map Tk.ch ++ R2) ∧ True from ⟨by rw [← HR2.out.1.1]; exact HI.out.1, trivial⟩)
                cases fl with
                | false =>
                  obtain ⟨hcs, hfs⟩ := HR2.out.2.1.cell (k := s) (by rw [← HR2.out.2.1.1]; omega)
                  have HMK := Aside0.mk (show markQ run = 32 by unfold markQ; rw [HANY.out]; rfl)
                  have HP1 := Aside0.mk (show BRow ((wr.drewN m3).setCell ⟨g, s, none⟩ (.int .u8 32)) base g n' cap (cur.set s (markQ run)) by rw [HMK.out]; exact HR2.out.2.1.put s (by omega) 32)
                  have HG3 := Aside0.mk (show w.grownBy ((wr.drewN m3).setCell ⟨g, s, none⟩ (.int .u8 32)) (some g) from Go.Lib.Hx.grownBy_set HR2.out.2.2 _ rfl _)
                  by_cases h1e : s + 1 < e
                  · have H1R := Aside0.mk (show 1 < run.length by have := HE.out; omega)
                    have hle : (1 : Int) < (e : Int) - (s : Int) := by omega
                    by_cases hj0 : j = 0
                    · subst hj0
                      have hk0 : k = 0 := HI.out.1.z rfl
                      subst hk0
                      have HI5 := Aside0.mk (HI.out.1.first H1R.out HWS.out HHD.out (HVAL.out R2 HTK2.out) HE.out)
                      go_wp2
                      go_meet
                      exact ⟨_, s + 1, e, e, R2, by go_num, rfl, rfl, by omega, by omega, by omega, by omega, HHD, ⟨HI5.out, HP1.out, HTK2.out, HG3.out⟩⟩
                    · have hjp : 0 < j := by omega
                      have hjk := HI.out.1.jk hjp
                      have hki := HI.out.1.ki
                      have hjz : ((j : Int) == 0) = false := by simp; omega
                      have hne1 : ¬ (cap = j) := by omega
                      have hne2 : ¬ (cap = k) := by omega
                      have hs1 : wrap64 ((s : Int) + 1) = (s : Int) + 1 := by unfold wrap64; omega
                      have hjle : (j : Int) ≤ (n' : Int) := by omega
                      have hkle : (k : Int) ≤ (s : Int) + 1 := by omega
                      have hsle : (s : Int) + 1 ≤ (cap : Int) := by omega
                      obtain ⟨w5, rc, hB5, hg5⟩ := (HP1.out.drewN 1).copy j (some ⟨g, j, none⟩) (some ⟨g, k, none⟩) (s + 1 - k) (cap - j) (cap - k) (((cur.set s (markQ run)).take (s + 1)).drop k) (by have := HCL.out; simp; omega) (by omega) (fun _ => rfl) (fun _ => ⟨_, rfl, fun q hq => by
                        have hq' : q < s + 1 - k := by simp at hq; omega
                        have e4 : (⟨g, k, none⟩ : Addr).add q = ⟨g, k + q, none⟩ := by rw [← add_plain g k, add_add, add_plain]
                        rw [e4, ((HP1.out.drewN 1).cell (k := k + q) (by rw [← HP1.out.1]; omega)).1]
                        congr 2
                        simp [List.getElem_drop, List.getElem_take]⟩)
                      have RC_ := Aside0.mk rc
                      have hjn2 : j + (s + 1 - k) ≤ n' := by omega
                      have HI6 := Aside0.mk (HI.out.1.copy (c2 := (cur.set s (markQ run)).take j ++ (((cur.set s (markQ run)).take (s + 1)).drop k ++ (cur.set s (markQ run)).drop (j + (s + 1 - k)))) hjp H1R.out HWS.out HHD.out (HVAL.out R2 HTK2.out) HE.out rfl)
                      have HB5 := Aside0.mk (And.intro hB5 ((show w.grownBy _ (some g) from ⟨HG3.out.os, HG3.out.tape, HG3.out.output, HG3.out.size, HG3.out.block⟩ : w.grownBy (((wr.drewN m3).setCell ⟨g, s, none⟩ (.int .u8 32)).drewN 1) (some g)).trans hg5))
                      have hsj : wrap64 ((j : Int) + ((s + 1 - k : Nat) : Int)) = ((j + (s + 1 - k) : Nat) : Int) := by unfold wrap64; omega
                      have HSJ := Aside0.mk hsj
                      clear rc hB5 hg5 hsj hjk hki
                      go_wp2
                      refine start_ (n := 12) (S := fun w' => True) (ds := []) #[false, false, false, false, false, false, false, false, false, false, false, false] (by kernel_rfl) rfl rfl trivial (fun hHeld => ?_)
                      refine pure_ (i := 0) (N := (some 64)) (v := ?_) (a' := ?_) #[true, false, false, false, false, false, false, false, false, false, false, false] rfl rfl (by kernel_rfl) (fun _ _ _ h => h) (Or.inl ⟨by rfl, ?_⟩) ?_ ?_
                      rotate_left
                      · intro w'
                        go_simp
                        with_reducible rfl
                      rotate_left
                      · simp only [Act.put, List.setIfInBounds_toArray, List.set_cons_zero, List.set_cons_succ, i64_w, i32_w]
                        rfl
                      refine pure_ (i := 1) (N := (some 65)) (v := ?_) (a' := ?_) #[true, true, false, false, false, false, false, false, false, false, false, false] rfl rfl (by kernel_rfl) (fun _ _ _ h => h) (Or.inl ⟨by rfl, ?_⟩) ?_ ?_
                      rotate_left
                      · intro w'
                        go_simp
                        with_reducible rfl
                      rotate_left
                      · simp only [Act.put, List.setIfInBounds_toArray, List.set_cons_zero, List.set_cons_succ, i64_w, i32_w]
                        rfl
                      refine pure_ (i := 2) (N := (some 66)) (v := ?_) (a' := ?_) #[true, true, true, false, false, false, false, false, false, false, false, false] rfl rfl (by kernel_rfl) (fun _ _ _ h => h) (Or.inl ⟨by rfl, ?_⟩) ?_ ?_
                      rotate_left
                      · intro w'
                        go_simp
                        with_reducible rfl
                      rotate_left
                      · simp only [Act.put, List.setIfInBounds_toArray, List.set_cons_zero, List.set_cons_succ, i64_w, i32_w]
                        rfl
                      refine pure_ (i := 4) (N := (some 68)) (v := ?_) (a' := ?_) #[true, true, true, false, true, false, false, false, false, false, false, false] rfl rfl (by kernel_rfl) (fun _ _ _ h => h) (Or.inl ⟨by rfl, ?_⟩) ?_ ?_
                      rotate_left
                      · intro w'
                        go_simp
                        with_reducible rfl
                      rotate_left
                      · simp only [Act.put, List.setIfInBounds_toArray, List.set_cons_zero, List.set_cons_succ, i64_w, i32_w]
                        rfl
                      refine pure_ (i := 5) (N := (some 69)) (v := ?_) (a' := ?_) #[true, true, true, false, true, true, false, false, false, false, false, false] rfl rfl (by kernel_rfl) (fun _ _ _ h => h) (Or.inl ⟨by rfl, ?_⟩) ?_ ?_
                      rotate_left
                      · intro w'
                        go_simp
                        with_reducible rfl
                      rotate_left
                      · simp only [Act.put, List.setIfInBounds_toArray, List.set_cons_zero, List.set_cons_succ, i64_w, i32_w]
                        rfl
                      refine pure_ (i := 6) (N := (some 70)) (v := ?_) (a' := ?_) #[true, true, true, false, true, true, true, false, false, false, false, false] rfl rfl (by kernel_rfl) (fun _ _ _ h => h) (Or.inl ⟨by rfl, ?_⟩) ?_ ?_
                      rotate_left
                      · intro w'
                        go_simp
                        with_reducible rfl
                      rotate_left
                      · simp only [Act.put, List.setIfInBounds_toArray, List.set_cons_zero, List.set_cons_succ, i64_w, i32_w]
                        rfl
                      refine pure_ (i := 3) (N := (some 67)) (v := ?_) (a' := ?_) #[true, true, true, true, true, true, true, false, false, false, false, false] rfl rfl (by kernel_rfl) (fun _ _ _ h => h) (Or.inl ⟨by rfl, ?_⟩) ?_ ?_
                      rotate_left
                      · intro w'
                        go_simp
                        with_reducible rfl
                      rotate_left
                      · simp only [Act.put, List.setIfInBounds_toArray, List.set_cons_zero, List.set_cons_succ, i64_w, i32_w]
                        rfl
                      refine pure_ (i := 7) (N := (some 71)) (v := ?_) (a' := ?_) #[true, true, true, true, true, true, true, true, false, false, false, false] rfl rfl (by kernel_rfl) (fun _ _ _ h => h) (Or.inl ⟨by rfl, ?_⟩) ?_ ?_
                      rotate_left
                      · intro w'
                        go_simp
                        with_reducible rfl
                      rotate_left
                      · simp only [Act.put, List.setIfInBounds_toArray, List.set_cons_zero, List.set_cons_succ, i64_w, i32_w]
                        rfl
                      refine pure_ (i := 8) (N := (some 72)) (v := ?_) (a' := ?_) #[true, true, true, true, true, true, true, true, true, false, false, false] rfl rfl (by kernel_rfl) (fun _ _ _ h => h) (Or.inl ⟨by rfl, ?_⟩) ?_ ?_
                      rotate_left
                      · intro w'
                        go_simp
                        with_reducible rfl
                      rotate_left
                      · simp only [Act.put, List.setIfInBounds_toArray, List.set_cons_zero, List.set_cons_succ, i64_w, i32_w]
                        rfl
                      refine one_ (i := 9) (N := (some 73)) #[true, true, true, true, true, true, true, true, true, true, false, false] rfl rfl (by kernel_rfl) (by simp) (fun K_ hK_ => ?_)
                      refine copy_step (P := Tryd.prog) (by rfl) (.tmp 67) (.tmp 72) 22 rfl rfl rfl RC_.out ?_
                      simp only [Act.put, List.setIfInBounds_toArray, List.set_cons_zero, List.set_cons_succ]
                      refine hK_ _ _ trivial (fun _ => ?_)
                      refine pure_ (i := 10) (N := (some 74)) (v := ?_) (a' := ?_) #[true, true, true, true, true, true, true, true, true, true, true, false] rfl rfl (by kernel_rfl) (fun _ _ _ h => h) (Or.inl ⟨by rfl, ?_⟩) ?_ ?_
                      rotate_left
                      · intro w'
                        go_simp
                        with_reducible rfl
                      rotate_left
                      · simp only [Act.put, List.setIfInBounds_toArray, List.set_cons_zero, List.set_cons_succ, i64_w, i32_w]
                        rfl
                      refine pure_ (i := 11) (N := (some 7)) (v := ?_) (a' := ?_) #[true, true, true, true, true, true, true, true, true, true, true, true] rfl rfl (by kernel_rfl) (fun _ _ _ h => h) (Or.inl ⟨by rfl, ?_⟩) ?_ ?_
                      rotate_left
                      · intro w'
                        go_simp
                        with_reducible rfl
                      rotate_left
                      · simp only [Act.put, List.setIfInBounds_toArray, List.set_cons_zero, List.set_cons_succ, i64_w, i32_w]
                        rfl
                      refine done_ (by kernel_rfl) ?_
                      clear hs1 hjle hkle hsle
                      go_wp2
                      go_meet
                      exact ⟨_, j + (s + 1 - k), e, e, R2, by first | rfl | rw [HSJ.out], rfl, rfl, by omega, by omega, by omega, by omega, HHD, ⟨HI6.out, HB5.out.1, HTK2.out, HB5.out.2⟩⟩
                  · have hle : ¬ ((1 : Int) < (e : Int) - (s : Int)) := by omega
                    have H1 := Aside0.mk (show run.length = 1 by have := HE.out; omega)
                    have HES := Aside0.mk (show e = s + 1 by omega)
                    have HI5 := Aside0.mk (show InvE (sqz (duT T)) (cur.set s (markQ run)) j k e R2 by rw [HES.out]; exact HI.out.1.run1 H1.out HWS.out HHD.out (HVAL.out R2 HTK2.out))
                    go_wp2
                    go_meet
                    exact ⟨_, j, k, e, R2, rfl, rfl, rfl, by omega, by omega, by omega, by omega, HHD, ⟨HI5.out, HP1.out, HTK2.out, HG3.out⟩⟩
                | true =>
                  obtain ⟨hcs, hfs⟩ := HR2.out.2.1.cell (k := s) (by rw [← HR2.out.2.1.1]; omega)
                  have HMK := Aside0.mk (show markQ run = 10 by unfold markQ; rw [HANY.out]; rfl)
                  have HP1 := Aside0.mk (show BRow ((wr.drewN m3).setCell ⟨g, s, none⟩ (.int .u8 10)) base g n' cap (cur.set s (markQ run)) by rw [HMK.out]; exact HR2.out.2.1.put s (by omega) 10)
                  have HG3 := Aside0.mk (show w.grownBy ((wr.drewN m3).setCell ⟨g, s, none⟩ (.int .u8 10)) (some g) from Go.Lib.Hx.grownBy_set HR2.out.2.2 _ rfl _)
                  by_cases h1e : s + 1 < e
                  · have H1R := Aside0.mk (show 1 < run.length by have := HE.out; omega)
                    have hle : (1 : Int) < (e : Int) - (s : Int) := by omega
                    by_cases hj0 : j = 0
                    · subst hj0
                      have hk0 : k = 0 := HI.out.1.z rfl
                      subst hk0
                      have HI5 := Aside0.mk (HI.out.1.first H1R.out HWS.out HHD.out (HVAL.out R2 HTK2.out) HE.out)
                      go_wp2
                      go_meet
                      exact ⟨_, s + 1, e, e, R2, by go_num, rfl, rfl, by omega, by omega, by omega, by omega, HHD, ⟨HI5.out, HP1.out, HTK2.out, HG3.out⟩⟩
                    · have hjp : 0 < j := by omega
                      have hjk := HI.out.1.jk hjp
                      have hki := HI.out.1.ki
                      have hjz : ((j : Int) == 0) = false := by simp; omega
                      have hne1 : ¬ (cap = j) := by omega
                      have hne2 : ¬ (cap = k) := by omega
                      have hs1 : wrap64 ((s : Int) + 1) = (s : Int) + 1 := by unfold wrap64; omega
                      have hjle : (j : Int) ≤ (n' : Int) := by omega
                      have hkle : (k : Int) ≤ (s : Int) + 1 := by omega
                      have hsle : (s : Int) + 1 ≤ (cap : Int) := by omega
                      obtain ⟨w5, rc, hB5, hg5⟩ := (HP1.out.drewN 1).copy j (some ⟨g, j, none⟩) (some ⟨g, k, none⟩) (s + 1 - k) (cap - j) (cap - k) (((cur.set s (markQ run)).take (s + 1)).drop k) (by have := HCL.out; simp; omega) (by omega) (fun _ => rfl) (fun _ => ⟨_, rfl, fun q hq => by
                        have hq' : q < s + 1 - k := by simp at hq; omega
                        have e4 : (⟨g, k, none⟩ : Addr).add q = ⟨g, k + q, none⟩ := by rw [← add_plain g k, add_add, add_plain]
                        rw [e4, ((HP1.out.drewN 1).cell (k := k + q) (by rw [← HP1.out.1]; omega)).1]
                        congr 2
                        simp [List.getElem_drop, List.getElem_take]⟩)
                      have RC_ := Aside0.mk rc
                      have hjn2 : j + (s + 1 - k) ≤ n' := by omega
                      have HI6 := Aside0.mk (HI.out.1.copy (c2 := (cur.set s (markQ run)).take j ++ (((cur.set s (markQ run)).take (s + 1)).drop k ++ (cur.set s (markQ run)).drop (j + (s + 1 - k)))) hjp H1R.out HWS.out HHD.out (HVAL.out R2 HTK2.out) HE.out rfl)
                      have HB5 := Aside0.mk (And.intro hB5 ((show w.grownBy _ (some g) from ⟨HG3.out.os, HG3.out.tape, HG3.out.output, HG3.out.size, HG3.out.block⟩ : w.grownBy (((wr.drewN m3).setCell ⟨g, s, none⟩ (.int .u8 10)).drewN 1) (some g)).trans hg5))
                      have hsj : wrap64 ((j : Int) + ((s + 1 - k : Nat) : Int)) = ((j + (s + 1 - k) : Nat) : Int) := by unfold wrap64; omega
                      have HSJ := Aside0.mk hsj
                      clear rc hB5 hg5 hsj hjk hki
                      go_wp2
                      refine start_ (n := 12) (S := fun w' => True) (ds := []) #[false, false, false, false, false, false, false, false, false, false, false, false] (by kernel_rfl) rfl rfl trivial (fun hHeld => ?_)
                      refine pure_ (i := 0) (N := (some 64)) (v := ?_) (a' := ?_) #[true, false, false, false, false, false, false, false, false, false, false, false] rfl rfl (by kernel_rfl) (fun _ _ _ h => h) (Or.inl ⟨by rfl, ?_⟩) ?_ ?_
                      rotate_left
                      · intro w'
                        go_simp
                        with_reducible rfl
                      rotate_left
                      · simp only [Act.put, List.setIfInBounds_toArray, List.set_cons_zero, List.set_cons_succ, i64_w, i32_w]
                        rfl
                      refine pure_ (i := 1) (N := (some 65)) (v := ?_) (a' := ?_) #[true, true, false, false, false, false, false, false, false, false, false, false] rfl rfl (by kernel_rfl) (fun _ _ _ h => h) (Or.inl ⟨by rfl, ?_⟩) ?_ ?_
                      rotate_left
                      · intro w'
                        go_simp
                        with_reducible rfl
                      rotate_left
                      · simp only [Act.put, List.setIfInBounds_toArray, List.set_cons_zero, List.set_cons_succ, i64_w, i32_w]
                        rfl
                      refine pure_ (i := 2) (N := (some 66)) (v := ?_) (a' := ?_) #[true, true, true, false, false, false, false, false, false, false, false, false] rfl rfl (by kernel_rfl) (fun _ _ _ h => h) (Or.inl ⟨by rfl, ?_⟩) ?_ ?_
                      rotate_left
                      · intro w'
                        go_simp
                        with_reducible rfl
                      rotate_left
                      · simp only [Act.put, List.setIfInBounds_toArray, List.set_cons_zero, List.set_cons_succ, i64_w, i32_w]
                        rfl
                      refine pure_ (i := 4) (N := (some 68)) (v := ?_) (a' := ?_) #[true, true, true, false, true, false, false, false, false, false, false, false] rfl rfl (by kernel_rfl) (fun _ _ _ h => h) (Or.inl ⟨by rfl, ?_⟩) ?_ ?_
                      rotate_left
                      · intro w'
                        go_simp
                        with_reducible rfl
                      rotate_left
                      · simp only [Act.put, List.setIfInBounds_toArray, List.set_cons_zero, List.set_cons_succ, i64_w, i32_w]
                        rfl
                      refine pure_ (i := 5) (N := (some 69)) (v := ?_) (a' := ?_) #[true, true, true, false, true, true, false, false, false, false, false, false] rfl rfl (by kernel_rfl) (fun _ _ _ h => h) (Or.inl ⟨by rfl, ?_⟩) ?_ ?_
                      rotate_left
                      · intro w'
                        go_simp
                        with_reducible rfl
                      rotate_left
                      · simp only [Act.put, List.setIfInBounds_toArray, List.set_cons_zero, List.set_cons_succ, i64_w, i32_w]
                        rfl
                      refine pure_ (i := 6) (N := (some 70)) (v := ?_) (a' := ?_) #[true, true, true, false, true, true, true, false, false, false, false, false] rfl rfl (by kernel_rfl) (fun _ _ _ h => h) (Or.inl ⟨by rfl, ?_⟩) ?_ ?_
                      rotate_left
                      · intro w'
                        go_simp
                        with_reducible rfl
                      rotate_left
                      · simp only [Act.put, List.setIfInBounds_toArray, List.set_cons_zero, List.set_cons_succ, i64_w, i32_w]
                        rfl
                      refine pure_ (i := 3) (N := (some 67)) (v := ?_) (a' := ?_) #[true, true, true, true, true, true, true, false, false, false, false, false] rfl rfl (by kernel_rfl) (fun _ _ _ h => h) (Or.inl ⟨by rfl, ?_⟩) ?_ ?_
                      rotate_left
                      · intro w'
                        go_simp
                        with_reducible rfl
                      rotate_left
                      · simp only [Act.put, List.setIfInBounds_toArray, List.set_cons_zero, List.set_cons_succ, i64_w, i32_w]
                        rfl
                      refine pure_ (i := 7) (N := (some 71)) (v := ?_) (a' := ?_) #[true, true, true, true, true, true, true, true, false, false, false, false] rfl rfl (by kernel_rfl) (fun _ _ _ h => h) (Or.inl ⟨by rfl, ?_⟩) ?_ ?_
                      rotate_left
                      · intro w'
                        go_simp
                        with_reducible rfl
                      rotate_left
                      · simp only [Act.put, List.setIfInBounds_toArray, List.set_cons_zero, List.set_cons_succ, i64_w, i32_w]
                        rfl
                      refine pure_ (i := 8) (N := (some 72)) (v := ?_) (a' := ?_) #[true, true, true, true, true, true, true, true, true, false, false, false] rfl rfl (by kernel_rfl) (fun _ _ _ h => h) (Or.inl ⟨by rfl, ?_⟩) ?_ ?_
                      rotate_left
                      · intro w'
                        go_simp
                        with_reducible rfl
                      rotate_left
                      · simp only [Act.put, List.setIfInBounds_toArray, List.set_cons_zero, List.set_cons_succ, i64_w, i32_w]
                        rfl
                      refine one_ (i := 9) (N := (some 73)) #[true, true, true, true, true, true, true, true, true, true, false, false] rfl rfl (by kernel_rfl) (by simp) (fun K_ hK_ => ?_)
                      refine copy_step (P := Tryd.prog) (by rfl) (.tmp 67) (.tmp 72) 22 rfl rfl rfl RC_.out ?_
                      simp only [Act.put, List.setIfInBounds_toArray, List.set_cons_zero, List.set_cons_succ]
                      refine hK_ _ _ trivial (fun _ => ?_)
                      refine pure_ (i := 10) (N := (some 74)) (v := ?_) (a' := ?_) #[true, true, true, true, true, true, true, true, true, true, true, false] rfl rfl (by kernel_rfl) (fun _ _ _ h => h) (Or.inl ⟨by rfl, ?_⟩) ?_ ?_
                      rotate_left
                      · intro w'
                        go_simp
                        with_reducible rfl
                      rotate_left
                      · simp only [Act.put, List.setIfInBounds_toArray, List.set_cons_zero, List.set_cons_succ, i64_w, i32_w]
                        rfl
                      refine pure_ (i := 11) (N := (some 7)) (v := ?_) (a' := ?_) #[true, true, true, true, true, true, true, true, true, true, true, true] rfl rfl (by kernel_rfl) (fun _ _ _ h => h) (Or.inl ⟨by rfl, ?_⟩) ?_ ?_
                      rotate_left
                      · intro w'
                        go_simp
                        with_reducible rfl
                      rotate_left
                      · simp only [Act.put, List.setIfInBounds_toArray, List.set_cons_zero, List.set_cons_succ, i64_w, i32_w]
                        rfl
                      refine done_ (by kernel_rfl) ?_
                      clear hs1 hjle hkle hsle
                      go_wp2
                      go_meet
                      exact ⟨_, j + (s + 1 - k), e, e, R2, by first | rfl | rw [HSJ.out], rfl, rfl, by omega, by omega, by omega, by omega, HHD, ⟨HI6.out, HB5.out.1, HTK2.out, HB5.out.2⟩⟩
                  · have hle : ¬ ((1 : Int) < (e : Int) - (s : Int)) := by omega
                    have H1 := Aside0.mk (show run.length = 1 by have := HE.out; omega)
                    have HES := Aside0.mk (show e = s + 1 by omega)
                    have HI5 := Aside0.mk (show InvE (sqz (duT T)) (cur.set s (markQ run)) j k e R2 by rw [HES.out]; exact HI.out.1.run1 H1.out HWS.out HHD.out (HVAL.out R2 HTK2.out))
                    go_wp2
                    go_meet
                    exact ⟨_, j, k, e, R2, rfl, rfl, rfl, by omega, by omega, by omega, by omega, HHD, ⟨HI5.out, HP1.out, HTK2.out, HG3.out⟩⟩
      case rest =>
        obtain ⟨cur2, j2, k2, i2, R2, rfl, rfl, rfl, hj2, hk2, hi2, hsi, HH2, HI2⟩ := hcut
        clear hcell
        have HCL2 := Aside0.mk HI2.out.2.1.1
        cases R2 with
        | nil =>
          have hi3 : i2 = n' := by
            have h7 := congrArg List.length HI2.out.1.rest
            rw [List.length_drop, ← HCL2.out] at h7
            simp [txT] at h7
            omega
          have HI3 := Aside0.mk (show InvE (sqz (duT T)) cur2 j2 k2 (i2 + 1) [] ∧ BRow wc base g n' cap cur2 ∧ (∀ t ∈ ([] : List Tk), TkOk L t) ∧ w.grownBy wc (some g) from ⟨HI2.out.1.past (by rw [hi3, ← HCL2.out]), HI2.out.2⟩)
          have hno : ¬ ((i2 : Int) + 3 < (n' : Int)) := by omega
          go_wp2
          go_roundw
          case rel => exact ⟨n', j2, k2, i2 + 1, cur2, [], rfl, rfl, rfl, by go_num, hn', hj2, hk2, by omega, HI3⟩
          case measure => simp [intOf, lenW] <;> omega
        | cons t2 R3 =>
          cases t2 with
          | ch c =>
            obtain ⟨hc38, hc0, hc1⟩ := HI2.out.2.2.1 (.ch c) (by simp)
            obtain ⟨hlt2, hcell2⟩ := HI2.out.1.cell0 HI2.out.2.1 (d := c) (rest := txT R3) (by simp [txT, Tk.tx])
            have hcb : (c == 38) = false := by simp [hc38]
            have HI3 := Aside0.mk (show InvE (sqz (duT T)) cur2 j2 k2 (i2 + 1) R3 ∧ BRow wc base g n' cap cur2 ∧ (∀ t ∈ R3, TkOk L t) ∧ w.grownBy wc (some g) from ⟨HI2.out.1.plain HH2.out, HI2.out.2.1, fun t ht => HI2.out.2.2.1 t (List.mem_cons_of_mem _ ht), HI2.out.2.2.2⟩)
            clear hc38 hc0 hc1
            by_cases h3 : (i2 : Int) + 3 < (n' : Int)
            · go_wp2
              go_roundw
              case rel => exact ⟨n', j2, k2, i2 + 1, cur2, R3, rfl, rfl, rfl, by go_num, hn', hj2, hk2, by omega, HI3⟩
              case measure => simp [intOf, lenW] <;> omega
            · go_wp2
              go_roundw
              case rel => exact ⟨n', j2, k2, i2 + 1, cur2, R3, rfl, rfl, rfl, by go_num, hn', hj2, hk2, by omega, HI3⟩
              case measure => simp [intOf, lenW] <;> omega
          | ent e =>
            obtain ⟨heL, hok⟩ := HI2.out.2.2.1 (.ent e) (by simp)
            obtain ⟨pre, hpre⟩ : ∃ p, p = cur2.take i2 := ⟨_, rfl⟩
            have hcut2 : cur2 = pre ++ (38 :: (numsOf e.nm ++ 59 :: txT R3)) := by
              have h7 := HI2.out.1.rest
              have h8 := List.take_append_drop i2 cur2
              rw [h7, ← hpre] at h8
              rw [← h8]
              simp [txT, Tk.tx]
            have h1 : i2 = pre.length := by
              have h7 := HI2.out.1.lt (by simp)
              rw [hpre, List.length_take]
              omega
            have hB' : BRow wc base g n' cap (pre ++ (38 :: (numsOf e.nm ++ 59 :: txT R3))) := by rw [← hcut2]; exact HI2.out.2.1
            have hat := hB'.at_ent
            rw [← h1] at hat
            have hfit := hat.fits
            have hamp := hat.amp
            have h2 := hok.two
            have hs1 := hok.some_
            have hsh := hok.short
            have hi3 : (i2 : Int) + 3 < (n' : Int) := by omega
            have hlt2 : i2 < n' := by omega
            have hg := HI2.out.2.2.2
            have HCALL := Aside0.mk (replEnt wc base g n' cap lo bm br L e heL hok HND.out pre (txT R3) hB' (HM.out.keep (fun k o hk hb => (hg.block k (Array.getElem?_eq_some_iff.1 hb).1 (by simp; omega)).trans hb)) ⟨HV.out.1, (hg.block br (Array.getElem?_eq_some_iff.1 HV.out.2).1 (by have := HV.out.1; simp; omega)).trans HV.out.2⟩ hglo (by omega) i2 h1)
            have HPRE := Aside0.mk (And.intro hpre (And.intro hB'.1 (hval e heL)))
            obtain ⟨v, hv⟩ : ∃ y, y = e.vl.size := ⟨_, rfl⟩
            have HV2 := Aside0.mk hv
            rw [← hv] at HCALL hs1 hsh
            clear h1 hB' hg hat hok heL hv hpre hcut2
            go_wp2_with fail
            (with_reducible refine HCALL.out.mono ?_)
            rintro ed w2 ⟨n'', rfl, hB2, hg2⟩
            have hl2 := hB2.1
            have HI3 := Aside0.mk (show InvE (sqz (duT T)) (pre ++ (numsOf e.vl ++ txT R3)) j2 k2 (i2 + v) R3 ∧ BRow w2 base g n'' cap (pre ++ (numsOf e.vl ++ txT R3)) ∧ (∀ t ∈ R3, TkOk L t) ∧ w.grownBy w2 (some g) from ⟨by rw [HV2.out]; exact HI2.out.1.entity HPRE.out.2.2 (by rw [HPRE.out.1]), hB2, fun t ht => HI2.out.2.2.1 t (List.mem_cons_of_mem _ ht), HI2.out.2.2.2.trans hg2⟩)
            have hm1 : n'' + (e.nm.size + 2) = n' + v := by
              have h3 := HPRE.out.2.1
              simp only [List.length_append, List.length_cons, numsOf_length] at hl2 h3
              have := HV2.out
              omega
            clear hB2 hg2 hl2
            have hjn2 : j2 ≤ n'' := by
              have := HI3.out.1.kn; have := HI3.out.1.jk; have := HI3.out.2.1.1
              by_cases hj : j2 = 0
              · omega
              · have := HI3.out.1.jk (by omega); omega
            have hkn2 : k2 ≤ n'' := by
              have := HI3.out.1.kn; have := HI3.out.2.1.1
              omega
            have hfit2 : i2 + v ≤ n'' + 1 := by omega
            have hge : n'' + 1 - (i2 + v) < n' + 1 - s := by omega
            have hle2 : n'' ≤ n := by omega
            clear hm1 hsh hfit h2
            go_wp2
            go_roundw
            case rel => exact ⟨n'', j2, k2, i2 + v, _, R3, rfl, rfl, rfl, by go_num, hle2, hjn2, hkn2, hfit2, HI3⟩
            case measure => simp [intOf, lenW] <;> omega
end Go.Proofs.YtkgaladmiiglaaaDoor.Own
