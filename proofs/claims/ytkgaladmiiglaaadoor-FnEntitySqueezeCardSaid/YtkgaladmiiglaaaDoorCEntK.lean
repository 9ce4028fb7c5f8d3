/- The law FnEntitySqueeze answers true. -/
import Derived.Test.YtkgaladmiiglaaaDoorCEntI
namespace Go.Proofs.YtkgaladmiiglaaaDoor.Own
open Go.RowKit Go.Proofs.YtkgaladmiiglaaaDoorW.PrintWords Go.Proofs.YtkgaladmiiglaaaDoorW.PrintLast
set_option linter.unusedVariables false
set_option linter.unusedSimpArgs false
theorem blank_ws {c : Int} (h0 : 0 ≤ c) (h : decide (c = 32 ∨ c = 9 ∨ c = 12 ∨ c = 10 ∨ c = 13) = false) : wsQ c = false := by
  have h1 := of_decide_eq_false h
  unfold wsQ isW
  simp
  omega
theorem nums_get {s : ByteArray} {i : Nat} (h : i < (numsOf s).length) : (numsOf s)[i] = bt s (i : Int) := by
  have h' : i < s.size := by rw [numsOf_length] at h; exact h
  simp [numsOf, bt, h']
  rfl
theorem nums_take {s : ByteArray} {i : Nat} (h : i < s.size) : (numsOf s).take (i + 1) = (numsOf s).take i ++ [bt s (i : Int)] := by
  have hl : i < (numsOf s).length := by rw [numsOf_length]; exact h
  rw [List.take_succ_eq_append_getElem hl, nums_get]
theorem names_nodup {l : List Ent} (h : ∀ j, 0 ≤ j → OkE l j) : ((l.map toEn).map En.nm).Nodup := by
  unfold List.Nodup
  rw [List.pairwise_iff_getElem]
  intro i j hi hj hij e
  rw [List.length_map, List.length_map] at hj
  rw [List.getElem_map, List.getElem_map, List.getElem_map, List.getElem_map] at e
  have e' : (l[i]'(by omega)).f0 = l[j].f0 := e
  exact (h j (Nat.zero_le _) hj).2.2 i hij (by rw [e'])
theorem duBytes {L : List En} : ∀ {T : List Tk}, (∀ t ∈ T, TkOk L t) → ∀ c ∈ duT T, byQ c = true := fun {T} h c hc => by
  obtain ⟨t, ht, hc⟩ := List.mem_flatMap.1 hc
  cases t with
  | ch x =>
    have := h _ ht
    simp only [Tk.du, List.mem_singleton] at hc
    subst hc
    have h2 := this.2
    simp [byQ]
    omega
  | ent e =>
    simp only [Tk.du] at hc
    unfold numsOf at hc
    obtain ⟨x, _, rfl⟩ := List.mem_map.1 hc
    have := x.toNat_lt
    simp [byQ]
    omega
theorem sqz_abc : sqz [97, 32, 32, 98] = [97, 32, 98] := by
  rw [sqz_plain (by decide)]
  have := sqz_ws (run := [32, 32]) (rest := [98]) (by simp) (by decide) (by intro c t e; cases e; decide)
  rw [show ([32, 32, 98] : List Int) = [32, 32] ++ [98] from rfl, this, sqz_plain (by decide), sqz]
  rfl
theorem lit_C (w : World) : Kd.C (Kd.int .u8) (w.alloc (.cells #[.int .u8 97, .int .u8 32, .int .u8 32, .int .u8 98] 5 (4, 5))) (some ⟨w.heap.size, 0, none⟩) 4 [97, 32, 32, 98] := by
  have hh := al_eq (W := w) (o := .cells #[.int .u8 97, .int .u8 32, .int .u8 32, .int .u8 98] 5 (4, 5)) (i := w.heap.size) rfl
  refine Kd.C_of_reads (d := (0 : Int)) (h1 := fun _ => rfl) ⟨rfl, by have : maxLen = 9223372036854775807 := rfl; simp, fun _ => ⟨_, rfl, fun j hj => ?_⟩⟩
  rw [add_plain, cell_of_row _ _ j _ _ (4, 5) hh]
  match j, hj with
  | 0, _ => rfl
  | 1, _ => rfl
  | 2, _ => rfl
  | 3, _ => rfl
  | j + 4, hj => exact absurd hj (by show ¬ (j + 4 < 4); omega)
theorem tabW_below {w w' : World} (h : Aside0 (TabW w)) (hb : Below w.heap.size w w') : Aside0 (TabW w') := ⟨TabAt.below h.out hb⟩
theorem tabN_below {w w' : World} (h : Aside0 (TabN w)) (hb : Below w.heap.size w w') : Aside0 (TabN w') := ⟨TabAt.below h.out hb⟩
section
variable (A0 : Option Addr) (c0 : Nat) (l : List Ent) (A1 : Option Addr) (c1 : Nat) (PL : List (List Int)) (A2 : Option Addr) (c2 : Nat) (os : List Int) (w : World)
set_option maxRecDepth 20000 in
set_option maxHeartbeats 4000000 in
theorem fnEntitySqueeze_true (hr0 : Kd.C k36 w A0 l.length l) (hc0 : l.length ≤ c0) (hr1 : Kd.C (Kd.slice 5 (Kd.int .u8)) w A1 PL.length PL) (hc1 : PL.length ≤ c1) (hr2 : Kd.C (Kd.int .i64) w A2 os.length os) (hc2 : os.length ≤ c2)
    (hby : ∀ p ∈ PL, ∀ c ∈ p, 0 ≤ c ∧ c < 256) (HTabN : Aside0 (TabN w)) (HTabW : Aside0 (TabW w)) :
    Calls Tryd.prog 4 #[.slice A0 l.length c0, .slice A1 PL.length c1, .slice A2 os.length c2] w fun e w' => e = .returned (.bool true) ∧ Below w.heap.size w w' := by
  obtain ⟨r2, ⟨k2, hk2⟩, h2⟩ := fits2_ev l
  obtain ⟨r1, ⟨k1, hk1⟩, h1⟩ := fits1_ev PL
  have HK2 := Aside0.mk (hk2 k2 (Nat.le_refl _))
  have HK1 := Aside0.mk (hk1 k1 (Nat.le_refl _))
  have HR0 := Aside0.mk hr0
  have HR1 := Aside0.mk hr1
  have HR2 := Aside0.mk hr2
  have HC := Aside0.mk (And.intro hc0 (And.intro hc1 hc2))
  have HBY := Aside0.mk hby
  clear hk2 hk1 hr0 hr1 hr2 hc0 hc1 hc2 hby
  cases r2 with
  | false =>
    clear h2 h1
    go_enter Tryd.func4, Tryd.ntmps4
    go_wp2_with (go_at_call 5; (with_reducible refine (laws_zzFits2.calls k2 A0 c0 l false _ HR0.out HC.out.1 HK2.out).mono ?_); rintro e w1 ⟨rfl, hw1⟩; have HW1 := Aside0.mk hw1; clear hw1)
    go_ret
    exact ⟨rfl, HW1.out⟩
  | true =>
  cases r1 with
  | false =>
    clear h2 h1
    go_enter Tryd.func4, Tryd.ntmps4
    go_wp2_with (first | (go_at_call 5; (with_reducible refine (laws_zzFits2.calls k2 A0 c0 l true _ HR0.out HC.out.1 HK2.out).mono ?_); rintro e w1 ⟨rfl, hw1⟩; have HW1 := Aside0.mk hw1; clear hw1) | (go_at_call 11; (with_reducible refine (laws_zzFits1.calls k1 A1 c1 PL false _ (Kd.C_below HR1.out HW1.out) HC.out.2.1 HK1.out).mono ?_); rintro e w2 ⟨rfl, ⟨nd, hw2⟩⟩; have HW2 := Aside0.mk (show Below w.heap.size w w2 from by rw [hw2]; exact pw_below_drewN HW1.out _); clear hw2))
    go_ret
    exact ⟨rfl, HW2.out⟩
  | true =>
  have HF := Aside0.mk (And.intro (h2 rfl) (h1 rfl))
  clear h2 h1
  by_cases hos : 2147483647 < os.length
  · go_enter Tryd.func4, Tryd.ntmps4
    go_wp2_with (first | (go_at_call 5; (with_reducible refine (laws_zzFits2.calls k2 A0 c0 l true _ HR0.out HC.out.1 HK2.out).mono ?_); rintro e w1 ⟨rfl, hw1⟩; have HW1 := Aside0.mk hw1; clear hw1) | (go_at_call 11; (with_reducible refine (laws_zzFits1.calls k1 A1 c1 PL true _ (Kd.C_below HR1.out HW1.out) HC.out.2.1 HK1.out).mono ?_); rintro e w2 ⟨rfl, ⟨nd, hw2⟩⟩; have HW2 := Aside0.mk (show Below w.heap.size w w2 from by rw [hw2]; exact pw_below_drewN HW1.out _); clear hw2))
    go_ret
    exact ⟨rfl, HW2.out⟩
  go_enter Tryd.func4, Tryd.ntmps4
  go_wp2_with (first | (go_at_call 5; (with_reducible refine (laws_zzFits2.calls k2 A0 c0 l true _ HR0.out HC.out.1 HK2.out).mono ?_); rintro e w1 ⟨rfl, hw1⟩; have HW1 := Aside0.mk hw1; clear hw1) | (go_at_call 11; (with_reducible refine (laws_zzFits1.calls k1 A1 c1 PL true _ (Kd.C_below HR1.out HW1.out) HC.out.2.1 HK1.out).mono ?_); rintro e w2 ⟨rfl, ⟨nd, hw2⟩⟩; have HW2 := Aside0.mk (show Below w.heap.size w w2 from by rw [hw2]; exact pw_below_drewN HW1.out _); clear hw2))
  (with_reducible refine (entityText_any A0 c0 l A1 c1 PL A2 c2 os w2 (Kd.C_below HR0.out HW2.out) HC.out.1 (Kd.C_below HR1.out HW2.out) HC.out.2.1 (Kd.C_below HR2.out HW2.out) HC.out.2.2 HF.out.1.1 HF.out.1.2 HF.out.2.1 HBY.out (by omega)).mono ?_)
  rintro e w3 ⟨hb3, (⟨a, b, rfl⟩ | ⟨T, A, n, c, b, rfl, hn, hn12, hnc, hC, hTk, hok⟩)⟩
  · have HB3 := Aside0.mk (below_then HW2.out HW2.out.size hb3)
    clear hb3
    go_wp2
    go_ret
    exact ⟨rfl, HB3.out⟩
  have HB3 := Aside0.mk (below_then HW2.out HW2.out.size hb3)
  have HT := Aside0.mk (And.intro hn (And.intro hnc hC))
  have HTK := Aside0.mk hTk
  have HOK := Aside0.mk hok
  clear hb3 hn hnc hC hTk hok
  have hl8 : l.length ≤ 8 := (HOK.out rfl).1
  go_wp2
  go_loopw [39] (fun v wr => ∃ j : Nat, v = .int .i64 (j : Int) ∧ j ≤ l.length ∧ Aside0 (∀ q (hq : q < l.length), q < j → ∀ c ∈ numsOf l[q].f1, wsQ c = false) ∧ Aside0 (Below w3.heap.size w3 wr)) (fun v _ => l.length - (intOf v).toNat)
  case atStart => exact ⟨0, rfl, Nat.zero_le _, ⟨fun q hq h => by omega⟩, ⟨Below.refl _ _⟩⟩
  case round =>
    obtain ⟨j, rfl, hj, HV, HB⟩ := hrel
    by_cases hlt : j < l.length
    · obtain ⟨ad0, e0, y0, y1⟩ := at_T36 HR0.out (j : Int) (by omega) (by omega)
      rw [rdT hlt, Int.toNat_natCast] at y0 y1
      cases e0
      obtain ⟨nm, hnm⟩ : ∃ x, x = l[j].f0 := ⟨_, rfl⟩
      obtain ⟨vl, hvl⟩ : ∃ x, x = l[j].f1 := ⟨_, rfl⟩
      have HVL := Aside0.mk hvl
      have hvs : vl.size ≤ 2147483647 := by rw [hvl]; exact (HF.out.1.2 _ (List.getElem_mem hlt)).2
      rw [← hnm] at y0
      rw [← hvl] at y1
      have hbw := below_then HB3.out HB3.out.size HB.out
      replace y0 := (hbw.cell (World.block_lt_of_cell? w _ y0)).trans y0
      replace y1 := (hbw.cell (World.block_lt_of_cell? w _ y1)).trans y1
      clear hnm hvl hbw
      have hu36 := Tryd.underlying36
      go_wp2_with ((with_reducible refine gate_dst (N := 11) rfl ?_); refine box_event ?hg (N := 11) ?hd (cs := #[.string (⟨#[]⟩ : ByteArray), .string (⟨#[]⟩ : ByteArray)]) (t := 36) ?hr ?_; (case hd => rfl); (case hg => rfl); (case hr => first | (go_simp; done) | (go_simp; rfl)); intro gb hg w6 hbox hb; have HB6 := Aside0.mk (below_then HB.out HB.out.size hb); have BK := Aside0.mk hbox; have GE := Aside0.mk (show w3.heap.size ≤ gb from by rw [hg]; exact HB.out.size); clear hb hbox hg; have hcz0 : w6.cell? ⟨gb, 0, none⟩ = some (.string (⟨#[]⟩ : ByteArray)) := (blk_cell BK.out 0).trans rfl; have hcz1 : w6.cell? ⟨gb, 1, none⟩ = some (.string (⟨#[]⟩ : ByteArray)) := (blk_cell BK.out 1).trans rfl; have hfz0 := blk_frozen BK.out 0; have hfz1 := blk_frozen BK.out 1)
      go_loopw [46] (fun v wq => ∃ i : Nat, v = .int .i64 (i : Int) ∧ i ≤ vl.size ∧ Aside0 (∀ c ∈ (numsOf vl).take i, wsQ c = false) ∧ Aside0 (wq.heap[gb]? = some (.cells #[.string nm, .string vl] 36 (0, 0))) ∧ Aside0 (Below w3.heap.size w3 wq)) (fun v _ => vl.size - (intOf v).toNat)
      case atStart => exact ⟨0, rfl, Nat.zero_le _, ⟨fun c hc => by simp at hc⟩, ⟨by (with_reducible repeat (first | refine blk_drewN ?_ _ | refine blk_drew ?_ | refine blk_alloc ?_ _)); refine blk_put (cs := #[.string nm, .string (⟨#[]⟩ : ByteArray)]) ?_ 1 _ rfl; (with_reducible repeat (first | refine blk_drewN ?_ _ | refine blk_drew ?_ | refine blk_alloc ?_ _)); refine blk_put (cs := #[.string (⟨#[]⟩ : ByteArray), .string (⟨#[]⟩ : ByteArray)]) ?_ 0 _ rfl; (with_reducible repeat (first | refine blk_drewN ?_ _ | refine blk_drew ?_ | refine blk_alloc ?_ _)); exact BK.out⟩, ⟨below_set (below_set HB6.out HB6.out.size GE.out) (by simpa using HB6.out.size) GE.out⟩⟩
      case round =>
        obtain ⟨i, rfl, hi, HW, BK2, HBQ⟩ := hrel
        clear hcz0 hcz1 hfz0 hfz1 y0 y1
        have hc0 := (blk_cell BK2.out 0).trans rfl
        have hc1 := (blk_cell BK2.out 1).trans rfl
        by_cases hiv : i < vl.size
        · obtain ⟨ch, hch⟩ : ∃ x, x = bt vl (i : Int) := ⟨_, rfl⟩
          have HCH := Aside0.mk hch
          have HCV := Aside0.mk (show ((vl[i]'hiv).toNat : Int) = ch by rw [hch]; first | (simp [bt, hiv]; done) | (simp [bt, hiv]; rfl))
          have HCR := Aside0.mk (show 0 ≤ ch by rw [hch]; exact (bt_range vl _).1)
          clear hch
          obtain ⟨bb, hbb⟩ : ∃ x, x = decide (ch = 32 ∨ ch = 9 ∨ ch = 12 ∨ ch = 10 ∨ ch = 13) := ⟨_, rfl⟩
          have HBB := Aside0.mk hbb
          clear hbb
          cases bb with
          | true =>
            go_wp2_with (go_at_call 13; (with_reducible refine (spec_IsBlank.calls ((vl[i]'hiv).toNat : Int) true _ (by rw [HCV.out, blank_f, ← HBB.out])).mono ?_); rintro e w8 ⟨rfl, ⟨nd, rfl⟩⟩)
            go_ret
            exact ⟨rfl, pw_below_drewN (below_then HB3.out HB3.out.size HBQ.out) _⟩
          | false =>
            have HW2 := Aside0.mk (show ∀ c ∈ (numsOf vl).take (i + 1), wsQ c = false from fun c hc => by
              rw [nums_take hiv, List.mem_append] at hc
              rcases hc with hc | hc
              · exact HW.out c hc
              · rw [List.mem_singleton, ← HCH.out] at hc
                rw [hc]
                exact blank_ws HCR.out HBB.out.symm)
            go_wp2_with (go_at_call 13; (with_reducible refine (spec_IsBlank.calls ((vl[i]'hiv).toNat : Int) false _ (by rw [HCV.out, blank_f, ← HBB.out])).mono ?_); rintro e w8 ⟨rfl, ⟨nd, rfl⟩⟩)
            go_roundw
            case rel => exact ⟨i + 1, by go_num, hiv, HW2, ⟨blk_drewN BK2.out _⟩, ⟨pw_below_drewN HBQ.out _⟩⟩
            case measure => simp [intOf]; omega
        · have hie : i = vl.size := by omega
          have HV2 := Aside0.mk (show ∀ q (hq : q < l.length), q < j + 1 → ∀ c ∈ numsOf l[q].f1, wsQ c = false from fun q hq hqj c hc => by
            rcases Nat.lt_succ_iff_lt_or_eq.1 hqj with h | rfl
            · exact HV.out q hq h c hc
            · rw [← HVL.out] at hc
              exact HW.out c (by rw [hie, List.take_of_length_le (by rw [numsOf_length]; exact Nat.le_refl _)]; exact hc))
          clear hie
          go_wp2
          go_roundw
          case rel => exact ⟨j + 1, by go_num, hlt, HV2, HBQ⟩
          case measure => simp [intOf]; omega
    · have hjl : j = l.length := by omega
      have HW := Aside0.mk (below_then HB3.out HB3.out.size HB.out)
      have HTr := Aside0.mk (Kd.C_below HT.out.2.2 HB.out)
      have HND := Aside0.mk (names_nodup (HOK.out rfl).2)
      have HSZ := Aside0.mk (show ∀ x ∈ l.map toEn, x.nm.size ≤ 1000 ∧ x.vl.size ≤ 1000 from fun x hx => by
        obtain ⟨y, hy, rfl⟩ := List.mem_map.1 hx
        obtain ⟨q, hq, rfl⟩ := List.mem_iff_getElem.1 hy
        have h3 := enOk hq ((HOK.out rfl).2 q (Nat.zero_le _))
        have := h3.few
        have := h3.short
        omega)
      have HVAL := Aside0.mk (show ∀ e ∈ l.map toEn, ValOk e from fun x hx => by
        obtain ⟨y, hy, rfl⟩ := List.mem_map.1 hx
        obtain ⟨q, hq, rfl⟩ := List.mem_iff_getElem.1 hy
        have h3 := enOk hq ((HOK.out rfl).2 q (Nat.zero_le _))
        exact ⟨h3.some_, HV.out q hq (by omega)⟩)
      have HDL := Aside0.mk (show (duT T).length ≤ 1200 from Nat.le_trans (duLen HTK.out) (by rw [← HT.out.1]; exact hn12))
      have HSL := Aside0.mk (Nat.le_trans (sqz_len _ (duT T) (Nat.le_refl _)) HDL.out)
      have HSQ := Aside0.mk (show impl_Squeeze.f (duT T) = some (sqz (duT T)) from by
        unfold impl_Squeeze.f
        rw [if_pos ⟨by have := HDL.out; omega, List.all_eq_true.2 (duBytes HTK.out)⟩])
      have HSQ2 := Aside0.mk (show impl_Squeeze.f [97, 32, 32, 98] = some [97, 32, 98] from by
        unfold impl_Squeeze.f
        rw [if_pos ⟨by decide, by decide⟩, sqz_abc])
      obtain ⟨ks, hks⟩ := same_ev (sqz (duT T)) (sqz (duT T)) (by have := HSL.out; omega)
      have HKS := Aside0.mk (show spec_SameBytes.f ks (sqz (duT T)) (sqz (duT T)) = some true from (hks ks (Nat.le_refl _)).trans (by simp))
      clear hks hjl hj
      have hnj : ¬ (j < l.length) := hlt
      go_wp2_with fail
      (with_reducible refine (squeezeEntities_any A c n T A0 c0 l wr HT.out.1 (by rw [← HT.out.1]; exact HTr.out) HT.out.2.1 (Kd.C_below HR0.out HW.out) HTK.out HND.out (by omega) HSZ.out (by omega) HVAL.out (tabW_below HTabW HW.out) (tabN_below HTabN HW.out)).mono ?_)
      rintro e w5 ⟨v5, rfl, hv5, hb5⟩
      have HV5 := Aside0.mk hv5
      have HB5 := Aside0.mk hb5
      have HW5 := Aside0.mk (below_then HW.out HW.out.size hb5)
      clear hv5 hb5
      go_wp2_with fail
      (with_reducible refine (entities_any A c n T A0 c0 l w5 HT.out.1 (by rw [← HT.out.1]; exact Kd.C_below HTr.out HB5.out) HT.out.2.1 (Kd.C_below HR0.out HW5.out) HTK.out HND.out (by omega) HSZ.out (by omega)).mono ?_)
      rintro e w6 ⟨v6, rfl, hv6, hb6⟩
      have HV6 := Aside0.mk hv6
      have HB6 := Aside0.mk hb6
      have HW6 := Aside0.mk (below_then HW5.out HW5.out.size hb6)
      clear hv6 hb6
      obtain ⟨A6, c6, rfl⟩ := Kd.R_slice HV6.out
      go_wp2_with fail
      (with_reducible refine (impl_Squeeze.calls A6 c6 (duT T) (sqz (duT T)) w6 (Kd.R_reads' HV6.out).2.2 (Kd.R_reads' HV6.out).2.1 HSQ.out (tabN_below HTabN HW6.out) (tabW_below HTabW HW6.out)).mono ?_)
      rintro e w7 ⟨v7, rfl, hv7, hb7⟩
      have HV7 := Aside0.mk hv7
      have HB7 := Aside0.mk hb7
      have HW7 := Aside0.mk (below_then HW6.out HW6.out.size hb7)
      clear hv7 hb7
      obtain ⟨A7, c7, rfl⟩ := Kd.R_slice HV7.out
      obtain ⟨A5, c5, rfl⟩ := Kd.R_slice HV5.out
      go_wp2_with fail
      (with_reducible refine (spec_SameBytes.calls ks A5 c5 (sqz (duT T)) A7 c7 (sqz (duT T)) true w7 (Kd.C_below (Kd.C_below (Kd.R_reads' HV5.out).2.2 HB6.out) HB7.out) (Kd.R_reads' HV5.out).2.1 (Kd.R_reads' HV7.out).2.2 (Kd.R_reads' HV7.out).2.1 HKS.out).mono ?_)
      rintro e w8 ⟨rfl, ⟨nd, hw8⟩⟩
      have HW8 := Aside0.mk (show Below w.heap.size w w8 from by rw [hw8]; exact pw_below_drewN HW7.out _)
      clear hw8
      have kc := fun (w : World) (C : Array Value) (n c : Nat) => Lib.run_convert_bytes_const (P := Tryd.prog) w 22 5 C n c Tryd.underlying22 Tryd.underlying5
      go_wp2_with fail
      (refine (impl_Squeeze.calls (some ⟨w8.heap.size, 0, none⟩) 4 [97, 32, 32, 98] [97, 32, 98] _ (lit_C w8) (Nat.le_refl _) HSQ2.out (tabN_below HTabN (HW8.out.alloc HW8.out.size _)) (tabW_below HTabW (HW8.out.alloc HW8.out.size _))).mono ?_)
      rintro e w9 ⟨v9, rfl, hv9, hb9⟩
      obtain ⟨A9, c9, rfl⟩ := Kd.R_slice hv9
      have HW9 := Aside0.mk (below_then (HW8.out.alloc HW8.out.size _) (HW8.out.alloc HW8.out.size _).size hb9)
      clear hv9 hb9
      go_wp2
      go_ret
      exact ⟨rfl, HW9.out⟩
end
end Go.Proofs.YtkgaladmiiglaaaDoor.Own
