/- The contract of RunLexer: what steps over bytes tell. -/
import Derived.Test.YtgpmmmlmaaiobaaDoorCLexStep
namespace Go.Proofs.YtgpmmmlmaaiobaaDoor.Own
open Go.RowKit Go.Proofs.YtgpmmmlmaaiobaaDoorW.PrintWords Go.Proofs.YtgpmmmlmaaiobaaDoorW.PrintLast
set_option linter.unusedVariables false
set_option linter.unusedSimpArgs false
theorem stepL0 {dat : List Int} {f1 : Int} {p s : Nat} : stepL dat ⟨0, f1⟩ p s = if (s : Int) ≤ p + f1 ∧ (p : Int) + f1 ≤ dat.length then some (((p : Int) + f1).toNat, s, ⟨0, 0, noT⟩) else none := by unfold stepL; simp
theorem stepL1 {dat : List Int} {f1 : Int} {p s : Nat} : stepL dat ⟨1, f1⟩ p s = if 0 ≤ f1 ∧ (s : Int) + f1 ≤ p then some (((s : Int) + f1).toNat, s, ⟨0, 0, noT⟩) else none := by unfold stepL; simp
theorem stepL2 {dat : List Int} {f1 : Int} {p s : Nat} : stepL dat ⟨2, f1⟩ p s = some (p, p, ⟨0, 0, selT dat p s⟩) := by unfold stepL; simp
theorem stepL3 {dat : List Int} {f1 : Int} {p s : Nat} : stepL dat ⟨3, f1⟩ p s = some (p, p, ⟨0, 0, noT⟩) := by unfold stepL; simp
theorem stepL4 {dat : List Int} {f1 : Int} {p s : Nat} : stepL dat ⟨4, f1⟩ p s = if 0 ≤ (p : Int) + f1 ∧ (p : Int) + f1 ≤ dat.length then some (p, s, ⟨atL dat ((p : Int) + f1).toNat, 0, noT⟩) else none := by unfold stepL; simp
theorem stepL5 {dat : List Int} {f1 : Int} {p s : Nat} : stepL dat ⟨5, f1⟩ p s = if 0 ≤ (p : Int) + f1 ∧ (p : Int) + f1 ≤ dat.length then some (p, s, ⟨if (dat.length : Int) ≤ (p : Int) + f1 then 1 else 0, 0, noT⟩) else none := by unfold stepL; simp
theorem stepL6 {dat : List Int} {f1 : Int} {p s : Nat} : stepL dat ⟨6, f1⟩ p s = some (p, s, ⟨0, 0, selT dat p s⟩) := by unfold stepL; simp
theorem stepL7 {dat : List Int} {f1 : Int} {p s : Nat} : stepL dat ⟨7, f1⟩ p s = some (p, s, ⟨(p : Int) - s, 0, noT⟩) := by unfold stepL; simp
theorem stepL8 {dat : List Int} {f1 : Int} {p s : Nat} : stepL dat ⟨8, f1⟩ p s = some (p, s, ⟨p, 0, noT⟩) := by unfold stepL; simp
theorem stepL9 {dat : List Int} {f1 : Int} {p s : Nat} : stepL dat ⟨9, f1⟩ p s = if 0 ≤ (p : Int) + f1 ∧ (p : Int) + f1 ≤ dat.length then (runeL dat ((p : Int) + f1).toNat).map (fun r => (p, s, ⟨r.1, r.2, noT⟩)) else none := by unfold stepL; simp
theorem stepL11 {dat : List Int} {f1 : Int} {p s : Nat} : stepL dat ⟨11, f1⟩ p s = some (0, 0, ⟨0, 0, noT⟩) := by unfold stepL; simp
theorem step_bounds {p s n : Nat} {f : Int} (h1 : s ≤ p) (h2 : p ≤ n) (h3 : n < 35184372088832) (h4 : 0 ≤ f ∨ 0 ≤ (p : Int) + f) (h5 : f ≤ n) : (-140737488355328 < (p : Int) ∧ (p : Int) < 140737488355328) ∧ (-140737488355328 < (s : Int) ∧ (s : Int) < 140737488355328) ∧ (-140737488355328 < f ∧ f < 140737488355328) := by omega
theorem pos_bounds {p n : Nat} (h2 : p ≤ n) (h3 : n < 35184372088832) : -140737488355328 < (p : Int) ∧ (p : Int) < 140737488355328 := by omega
theorem nat_of {x : Int} (h : 0 ≤ x) : x = (x.toNat : Int) := by omega
theorem cell_al1 {wr : World} {o1 o2 : Obj} {j : Nat} : ((wr.alloc o1).alloc o2).cell? ⟨wr.heap.size, j, none⟩ = (wr.alloc o1).cell? ⟨wr.heap.size, j, none⟩ := by
  simp only [World.cell?, al_lt (W := wr.alloc o1) (o := o2) (i := wr.heap.size) (by simp)]
theorem rune_bound {dat : List Int} {q : Nat} {r : Int × Int} (h : runeL dat q = some r) (hb : (dat.all fun x => decide (0 ≤ x ∧ x ≤ 255)) = true) : 0 ≤ r.1 ∧ r.1 < 2147483648 ∧ 0 ≤ r.2 ∧ r.2 ≤ 4 := by
  have a0 := atL_byte hb q
  unfold runeL at h
  repeat' split at h
  all_goals first | (cases h; done) | (obtain rfl := Option.some.inj h; simp only; omega)
set_option maxRecDepth 100000 in
set_option maxHeartbeats 16000000 in
theorem impl_RunLexer.calls (A0 : Option Addr) (c0 : Nat) (l0 : List Int) (A1 : Option Addr) (c1 : Nat) (l1 : List S44) (r : List S46) (w : World)
    (hr0 : Kd.C (Kd.int .u8) w A0 l0.length l0) (hc0 : l0.length ≤ c0) (hr1 : Kd.C k44 w A1 l1.length l1) (hc1 : l1.length ≤ c1) (h : impl_RunLexer.f l0 l1 = some r) (HTabE : Aside0 (TabE w)) :
    Calls Tryd.prog 17 #[.slice A0 l0.length c0, .slice A1 l1.length c1] w fun e w' => ∃ v0_, e = .returned v0_ ∧ Kd.R k46 46 w' w.heap.size (fun _ => True) v0_ r ∧ Below w.heap.size w w' := by
  unfold impl_RunLexer.f at h
  split at h
  case isFalse => cases h
  case isTrue hl =>
  obtain ⟨ae, hE⟩ := HTabE.out
  have HE := Aside0.mk hE
  have HL := Aside0.mk hl
  have HR0 := Aside0.mk hr0
  have HR1 := Aside0.mk hr1
  have HC0 := Aside0.mk hc0
  have HRI := Aside0.mk h
  clear hl hr0 hr1 hc0 h hE
  go_enter Tryd.func17, Tryd.ntmps17
  go_wp2_with (go_at_call 21; (with_reducible refine (own_fresh _ _ l0 _ HR0.out HC0.out HL.out.1).mono ?_); rintro e w1 ⟨v1, rfl, hb1, hn1⟩; have HN := Aside0.mk hn1; have HB1 := Aside0.mk hb1; clear hn1 hb1)
  go_wp2_with (first | (go_at_call 29; (with_reducible refine HN.out.mono ?_); rintro e wB ⟨gz, rfl, hi, hb2⟩; have HI := Aside0.mk (InT.start hi); have HB := Aside0.mk (HB1.out.trans hb2); clear hi hb2) | ((with_reducible refine gate_dst (N := 15) rfl ?_); refine Kd.R_lit k46 _ 46 ?hg (N := 15) ?hd (xs := ([] : List S46)) (inner := []) (ok := fun k => _ ≤ k) (okp := fun k => _ ≤ k) ?hr ?hp (fun _ hk => hk) (Nat.le_refl _) (Below.refl _ _) (Nat.le_refl _) (by simp) ?_; (case hd => rfl); (case hg => rfl); (case hr => first | (go_simp; done) | (go_simp; rfl)); (case hp => exact (Reps.none _ _)); intro v15 w3 ho4 hb hg_ hnew_; have HO := Aside0.mk ho4; have HB3 := Aside0.mk hb; clear hg_ hnew_ hb ho4))
  have HBT := Aside0.mk HB.out.size
  clear HN HB1
  go_loopw [6, 18] (fun v6 v18 wr => ∃ (k p s : Nat) (out rest : List S46), v18 = .int .i64 (k : Int) ∧ Aside0 (k ≤ l1.length ∧ runL l0 (l1.drop k) p s = some rest ∧ r = out ++ rest ∧ out.length = k ∧ s ≤ p ∧ p ≤ l0.length) ∧ Aside0 (Kd.R k46 46 wr wB.heap.size (fun k => wB.heap.size ≤ k) v6 out) ∧ Aside0 (InT wr w.heap.size wB.heap.size gz l0 p s) ∧ Aside0 (Below w.heap.size w wr) ∧ Aside0 (wB.heap.size ≤ wr.heap.size)) (fun _ v18 _ => l1.length - (intOf v18).toNat)
  case atStart => exact ⟨0, 0, 0, [], r, rfl, ⟨Nat.zero_le _, by simpa using HRI.out, rfl, rfl, Nat.le_refl _, Nat.zero_le _⟩, HO, ⟨HI.out.below HB3.out⟩, ⟨below_then HB.out HB.out.size HB3.out⟩, ⟨HB3.out.size⟩⟩
  case round =>
    obtain ⟨k, p, s, out, rest, rfl, HH, HR, HIT, HBW, HSZ⟩ := hrel
    clear HO HB3
    by_cases hlt : k < l1.length
    · obtain ⟨ad, e1, x0, x1⟩ := at_T44 HR1.out (k : Int) (by omega) (by omega)
      have hx : rd_T44 l1 (k : Int) = l1[k] := by unfold rd_T44; simp [List.getD_eq_getElem?_getD, hlt]
      have hd : l1.drop k = l1[k] :: l1.drop (k + 1) := List.drop_eq_getElem_cons hlt
      have HH2 := HH.out
      rw [hd] at HH2
      rw [hx] at x0 x1
      generalize l1[k] = x at x0 x1 HH2
      cases e1
      rw [Int.toNat_natCast] at x0 x1
      have hy0 := (HBW.out.cell (World.block_lt_of_cell? w _ x0)).trans x0
      have hy1 := (HBW.out.cell (World.block_lt_of_cell? w _ x1)).trans x1
      clear x0 x1 hx hd HH
      obtain ⟨q1, q2, q3, q4, q5, q6⟩ := HH2
      simp only [runL] at q2
      obtain ⟨⟨p', s', a⟩, hstep, q2⟩ := Option.bind_eq_some_iff.1 q2
      simp only at q2
      obtain ⟨rest2, hrun, rfl⟩ := Option.map_eq_some_iff.1 q2
      have HIN := Aside0.mk (stepL_in hstep q5 q6)
      clear q2
      obtain ⟨f0, f1⟩ := x
      simp only at hy0 hy1
      by_cases hk0 : f0 = 0
      · subst hk0
        as_aux_lemma =>
          have hc : (s : Int) ≤ p + f1 ∧ (p : Int) + f1 ≤ l0.length := by
            by_cases hq : (s : Int) ≤ p + f1 ∧ (p : Int) + f1 ≤ l0.length
            · exact hq
            · rw [stepL0, if_neg hq] at hstep; cases hstep
          rw [stepL0, if_pos hc] at hstep
          simp only [Option.some.injEq, Prod.mk.injEq] at hstep
          obtain ⟨rfl, rfl, rfl⟩ := hstep
          have HQ := Aside0.mk (And.intro hrun (And.intro q3 (And.intro q4 (And.intro q5 q6))))
          clear hrun q1 q2 q3 q4 q5 q6
          have hfb := step_bounds (p := p) (s := s) (f := f1) (n := l0.length) HQ.out.2.2.2.1 HQ.out.2.2.2.2 HL.out.1 (.inr (by have := hc; omega)) (by have := hc; omega)
          have HFB := Aside0.mk hfb
          have HCC := Aside0.mk hc
          clear hc hfb
          go_wp2_with fail
          (with_reducible refine (in_move gz w.heap.size l0 p s f1 _ ((HIT.out.alloc HSZ.out _).alloc (by have := HSZ.out; simp; omega) _).at HFB.out.1 HFB.out.2.2).mono ?_)
          rintro e w5 ⟨rfl, hi5, hw5⟩
          rw [nat_of (show 0 ≤ (p : Int) + f1 by have := HCC.out; omega)] at hi5 hw5
          have H5 : Aside0 (RoundL w w5 w.heap.size wB.heap.size gz l0 ((p : Int) + f1).toNat s u6 out (wr.heap.size + 1) 0 0 noT) := ⟨by subst hw5; exact RoundL.set (RoundL.made HR.out HIT.out HBW.out HSZ.out HBT.out  (below_alloc (below_alloc (Below.refl _ _) _) _) ⟨_, al_eq (by simp)⟩) (by decide) hi5⟩
          clear hi5 hw5
          obtain ⟨z0, z1, z2, f0_, f1_, f2_⟩ := H5.out.cells
          have LM : Aside0 ((out.length + 1) * 32 ≤ 140737488355328) := ⟨len_bound hlt HL.out.2.1 HQ.out.2.2.1⟩
          go_wp2_with (at_builtin; refine Kd.R_append k46 (w0 := w5) wB.heap.size rfl (.tmp 99) (.tmp 101) 38 46 (.agg #[(.int .i64 0), (.int .i64 0), (.string ⟨#[]⟩)]) 32 rfl Tryd.underlying38 infoA rfl (by decide) (by omega) u6 out ⟨0, 0, noT⟩ [.int .i64 0, .int .i64 0, .string noT] (fun k => wB.heap.size ≤ k) (fun _ => False) rfl rfl (k46_mkM _ _ _ ⟨0, 0, noT⟩) (fun _ h => h.elim) (fun k hk => Nat.le_trans H5.out.2.2.2.1 hk) H5.out.1 (Below.refl _ _) H5.out.2.2.2.1 LM.out ?_; intro v6 w6 ho hb hg hat; have HR6 := Aside0.mk ho; have HB6 := Aside0.mk hb; clear ho hb hg hat)
          clear z0 z1 z2 f0_ f1_ f2_
          go_roundw
          case rel => exact ⟨k + 1, _, _, out ++ [⟨0, 0, noT⟩], rest2, congrArg (Value.int .i64) (wr1 hlt HL.out.2.1), ⟨hlt, HQ.out.1, by rw [HQ.out.2.1]; simp, by simp [HQ.out.2.2.1], HIN.out.1, HIN.out.2⟩, HR6, ⟨H5.out.2.1.below HB6.out⟩, ⟨H5.out.2.2.1.trans (HB6.out.mono HBT.out)⟩, ⟨Nat.le_trans H5.out.2.2.2.1 HB6.out.size⟩⟩
          case measure => exact meas1 hlt HL.out.2.1
      by_cases hk1 : f0 = 1
      · subst hk1
        as_aux_lemma =>
          have hc : 0 ≤ f1 ∧ (s : Int) + f1 ≤ p := by
            by_cases hq : 0 ≤ f1 ∧ (s : Int) + f1 ≤ p
            · exact hq
            · rw [stepL1, if_neg hq] at hstep; cases hstep
          rw [stepL1, if_pos hc] at hstep
          simp only [Option.some.injEq, Prod.mk.injEq] at hstep
          obtain ⟨rfl, rfl, rfl⟩ := hstep
          have HQ := Aside0.mk (And.intro hrun (And.intro q3 (And.intro q4 (And.intro q5 q6))))
          clear hrun q1 q2 q3 q4 q5 q6
          have hfb := step_bounds (p := p) (s := s) (f := f1) (n := l0.length) HQ.out.2.2.2.1 HQ.out.2.2.2.2 HL.out.1 (.inl hc.1) (by have := hc; have := HQ.out.2.2.2.2; omega)
          have HFB := Aside0.mk hfb
          have HCC := Aside0.mk hc
          clear hc hfb
          go_wp2_with fail
          (with_reducible refine (lx_rewind gz w.heap.size l0 p s f1 _ ((HIT.out.alloc HSZ.out _).alloc (by have := HSZ.out; simp; omega) _).at HFB.out.2.1 HFB.out.2.2).mono ?_)
          rintro e w5 ⟨rfl, hi5, hw5⟩
          rw [nat_of (show 0 ≤ (s : Int) + f1 by have := HCC.out; omega)] at hi5 hw5
          have H5 : Aside0 (RoundL w w5 w.heap.size wB.heap.size gz l0 ((s : Int) + f1).toNat s u6 out (wr.heap.size + 1) 0 0 noT) := ⟨by subst hw5; exact RoundL.set (RoundL.made HR.out HIT.out HBW.out HSZ.out HBT.out  (below_alloc (below_alloc (Below.refl _ _) _) _) ⟨_, al_eq (by simp)⟩) (by decide) hi5⟩
          clear hi5 hw5
          obtain ⟨z0, z1, z2, f0_, f1_, f2_⟩ := H5.out.cells
          have LM : Aside0 ((out.length + 1) * 32 ≤ 140737488355328) := ⟨len_bound hlt HL.out.2.1 HQ.out.2.2.1⟩
          go_wp2_with (at_builtin; refine Kd.R_append k46 (w0 := w5) wB.heap.size rfl (.tmp 99) (.tmp 101) 38 46 (.agg #[(.int .i64 0), (.int .i64 0), (.string ⟨#[]⟩)]) 32 rfl Tryd.underlying38 infoA rfl (by decide) (by omega) u6 out ⟨0, 0, noT⟩ [.int .i64 0, .int .i64 0, .string noT] (fun k => wB.heap.size ≤ k) (fun _ => False) rfl rfl (k46_mkM _ _ _ ⟨0, 0, noT⟩) (fun _ h => h.elim) (fun k hk => Nat.le_trans H5.out.2.2.2.1 hk) H5.out.1 (Below.refl _ _) H5.out.2.2.2.1 LM.out ?_; intro v6 w6 ho hb hg hat; have HR6 := Aside0.mk ho; have HB6 := Aside0.mk hb; clear ho hb hg hat)
          clear z0 z1 z2 f0_ f1_ f2_
          go_roundw
          case rel => exact ⟨k + 1, _, _, out ++ [⟨0, 0, noT⟩], rest2, congrArg (Value.int .i64) (wr1 hlt HL.out.2.1), ⟨hlt, HQ.out.1, by rw [HQ.out.2.1]; simp, by simp [HQ.out.2.2.1], HIN.out.1, HIN.out.2⟩, HR6, ⟨H5.out.2.1.below HB6.out⟩, ⟨H5.out.2.2.1.trans (HB6.out.mono HBT.out)⟩, ⟨Nat.le_trans H5.out.2.2.2.1 HB6.out.size⟩⟩
          case measure => exact meas1 hlt HL.out.2.1
      by_cases hk2 : f0 = 2
      · subst hk2
        as_aux_lemma =>
          rw [stepL2] at hstep
          simp only [Option.some.injEq, Prod.mk.injEq] at hstep
          obtain ⟨rfl, rfl, rfl⟩ := hstep
          have HQ := Aside0.mk (And.intro hrun (And.intro q3 (And.intro q4 (And.intro q5 q6))))
          clear hrun q1 q2 q3 q4 q5 q6
          go_wp2_with fail
          (with_reducible refine (in_shift gz w.heap.size p s l0 _ ((HIT.out.alloc HSZ.out _).alloc (by have := HSZ.out; simp; omega) _).at HQ.out.2.2.2.1 HQ.out.2.2.2.2 HL.out.1).mono ?_)
          rintro e w5 ⟨A, g, nq, rfl, ha, hgg, hcells, hi5, hw5⟩
          have hrd : ReadsInt w5 .u8 A (p - s) ((l0.drop s).take (p - s)) := reads_cut ha (fun k hk => by rw [hw5]; exact (World.cell?_setCell_other _ _ _ _ (by intro he; injection he with h1 _ _; exact hgg h1.symm)).trans (show _ = _ from hcells k hk)) HQ.out.2.2.2.1 HQ.out.2.2.2.2 HL.out.1
          have hconv : (convert 22 9 (.slice A (p - s) (p - s))).run Tryd.prog w5 = .ok (.string (selT l0 p s)) w5 := string_of_reads Tryd.underlying22 Tryd.underlying5 Tryd.underlying9 hrd
          have H5 : Aside0 (RoundL w w5 w.heap.size wB.heap.size gz l0 p p u6 out (wr.heap.size + 1) 0 0 noT) := ⟨by subst hw5; exact RoundL.set (RoundL.made HR.out HIT.out HBW.out HSZ.out HBT.out  (pw_below_drewN (below_alloc (below_alloc (Below.refl _ _) _) _) nq) ⟨_, (show _ = _ from al_eq (by simp))⟩) (by decide) hi5⟩
          clear hw5 hrd hcells ha hi5
          generalize selT l0 p s = txt at hconv HQ
          obtain ⟨z0, z1, z2, f0_, f1_, f2_⟩ := H5.out.cells
          have H60 := Aside0.mk (RoundL.put H5.out 2 (.string txt) (m0 := 0) (m1 := 0) (t' := txt) rfl)
          generalize hww60 : World.setCell _ _ _ = w60 at H60
          have HWw60 := Aside0.mk hww60
          clear hww60
          have LM : Aside0 ((out.length + 1) * 32 ≤ 140737488355328) := ⟨len_bound hlt HL.out.2.1 HQ.out.2.2.1⟩
          go_wp2_with (at_builtin; rw [HWw60.out]; refine Kd.R_append k46 (w0 := w60) wB.heap.size rfl (.tmp 99) (.tmp 101) 38 46 (.agg #[(.int .i64 0), (.int .i64 0), (.string ⟨#[]⟩)]) 32 rfl Tryd.underlying38 infoA rfl (by decide) (by omega) u6 out ⟨0, 0, txt⟩ [.int .i64 0, .int .i64 0, .string txt] (fun k => wB.heap.size ≤ k) (fun _ => False) rfl (by rw [← HWw60.out, sc_size]; rfl) (k46_mkM _ _ _ ⟨0, 0, txt⟩) (fun _ h => h.elim) (fun k hk => Nat.le_trans H60.out.2.2.2.1 hk) H60.out.1 (Below.refl _ _) H60.out.2.2.2.1 LM.out ?_; intro v6 w6 ho hb hg hat; have HR6 := Aside0.mk ho; have HB6 := Aside0.mk hb; clear ho hb hg hat)
          clear z0 z1 z2 f0_ f1_ f2_ hconv
          go_roundw
          case rel => exact ⟨k + 1, _, _, out ++ [⟨0, 0, txt⟩], rest2, congrArg (Value.int .i64) (wr1 hlt HL.out.2.1), ⟨hlt, HQ.out.1, by rw [HQ.out.2.1]; simp, by simp [HQ.out.2.2.1], HIN.out.1, HIN.out.2⟩, HR6, ⟨H60.out.2.1.below HB6.out⟩, ⟨H60.out.2.2.1.trans (HB6.out.mono HBT.out)⟩, ⟨Nat.le_trans H60.out.2.2.2.1 HB6.out.size⟩⟩
          case measure => exact meas1 hlt HL.out.2.1
      by_cases hk3 : f0 = 3
      · subst hk3
        as_aux_lemma =>
          rw [stepL3] at hstep
          simp only [Option.some.injEq, Prod.mk.injEq] at hstep
          obtain ⟨rfl, rfl, rfl⟩ := hstep
          have HQ := Aside0.mk (And.intro hrun (And.intro q3 (And.intro q4 (And.intro q5 q6))))
          clear hrun q1 q2 q3 q4 q5 q6
          go_wp2_with fail
          (with_reducible refine (lx_skip gz w.heap.size l0 p s _ ((HIT.out.alloc HSZ.out _).alloc (by have := HSZ.out; simp; omega) _).at).mono ?_)
          rintro e w5 ⟨rfl, hi5, hw5⟩
          have H5 : Aside0 (RoundL w w5 w.heap.size wB.heap.size gz l0 p p u6 out (wr.heap.size + 1) 0 0 noT) := ⟨by subst hw5; exact RoundL.set (RoundL.made HR.out HIT.out HBW.out HSZ.out HBT.out  (below_alloc (below_alloc (Below.refl _ _) _) _) ⟨_, al_eq (by simp)⟩) (by decide) hi5⟩
          clear hi5 hw5
          obtain ⟨z0, z1, z2, f0_, f1_, f2_⟩ := H5.out.cells
          have LM : Aside0 ((out.length + 1) * 32 ≤ 140737488355328) := ⟨len_bound hlt HL.out.2.1 HQ.out.2.2.1⟩
          go_wp2_with (at_builtin; refine Kd.R_append k46 (w0 := w5) wB.heap.size rfl (.tmp 99) (.tmp 101) 38 46 (.agg #[(.int .i64 0), (.int .i64 0), (.string ⟨#[]⟩)]) 32 rfl Tryd.underlying38 infoA rfl (by decide) (by omega) u6 out ⟨0, 0, noT⟩ [.int .i64 0, .int .i64 0, .string noT] (fun k => wB.heap.size ≤ k) (fun _ => False) rfl rfl (k46_mkM _ _ _ ⟨0, 0, noT⟩) (fun _ h => h.elim) (fun k hk => Nat.le_trans H5.out.2.2.2.1 hk) H5.out.1 (Below.refl _ _) H5.out.2.2.2.1 LM.out ?_; intro v6 w6 ho hb hg hat; have HR6 := Aside0.mk ho; have HB6 := Aside0.mk hb; clear ho hb hg hat)
          clear z0 z1 z2 f0_ f1_ f2_
          go_roundw
          case rel => exact ⟨k + 1, _, _, out ++ [⟨0, 0, noT⟩], rest2, congrArg (Value.int .i64) (wr1 hlt HL.out.2.1), ⟨hlt, HQ.out.1, by rw [HQ.out.2.1]; simp, by simp [HQ.out.2.2.1], HIN.out.1, HIN.out.2⟩, HR6, ⟨H5.out.2.1.below HB6.out⟩, ⟨H5.out.2.2.1.trans (HB6.out.mono HBT.out)⟩, ⟨Nat.le_trans H5.out.2.2.2.1 HB6.out.size⟩⟩
          case measure => exact meas1 hlt HL.out.2.1
      by_cases hk4 : f0 = 4
      · subst hk4
        as_aux_lemma =>
          have hc : 0 ≤ (p : Int) + f1 ∧ (p : Int) + f1 ≤ l0.length := by
            by_cases hq : 0 ≤ (p : Int) + f1 ∧ (p : Int) + f1 ≤ l0.length
            · exact hq
            · rw [stepL4, if_neg hq] at hstep; cases hstep
          rw [stepL4, if_pos hc] at hstep
          simp only [Option.some.injEq, Prod.mk.injEq] at hstep
          obtain ⟨rfl, rfl, rfl⟩ := hstep
          have HQ := Aside0.mk (And.intro hrun (And.intro q3 (And.intro q4 (And.intro q5 q6))))
          clear hrun q1 q2 q3 q4 q5 q6
          have hfb := step_bounds (p := p) (s := s) (f := f1) (n := l0.length) HQ.out.2.2.2.1 HQ.out.2.2.2.2 HL.out.1 (.inr (by have := hc; omega)) (by have := hc; omega)
          have HFB := Aside0.mk hfb
          have HCC := Aside0.mk hc
          clear hc hfb
          go_wp2_with fail
          (with_reducible refine (lx_peek' (q := ((p : Int) + f1).toNat) (c := atL l0 ((p : Int) + f1).toNat) ⟨((HIT.out.alloc HSZ.out _).alloc (by have := HSZ.out; simp; omega) _).at⟩ ⟨⟨HFB.out.1, HFB.out.2.2⟩⟩ ⟨⟨by have := HCC.out; omega, by have := HCC.out; omega⟩⟩ ⟨rfl⟩).mono ?_)
          rintro e w5 ⟨rfl, hw5⟩
          have H5 : Aside0 (RoundL w w5 w.heap.size wB.heap.size gz l0 p s u6 out (wr.heap.size + 1) 0 0 noT) := ⟨by subst hw5; exact RoundL.made HR.out HIT.out HBW.out HSZ.out HBT.out  (below_alloc (below_alloc (Below.refl _ _) _) _) ⟨_, al_eq (by simp)⟩⟩
          clear hw5
          have hvb := atL_byte HL.out.2.2 ((p : Int) + f1).toNat
          generalize atL l0 ((p : Int) + f1).toNat = v at HQ hvb ⊢
          obtain ⟨z0, z1, z2, f0_, f1_, f2_⟩ := H5.out.cells
          have H60 := Aside0.mk (RoundL.put H5.out 0 (.int .i64 v) (m0 := v) (m1 := 0) (t' := noT) rfl)
          generalize hww60 : World.setCell _ _ _ = w60 at H60
          have HWw60 := Aside0.mk hww60
          clear hww60
          have LM : Aside0 ((out.length + 1) * 32 ≤ 140737488355328) := ⟨len_bound hlt HL.out.2.1 HQ.out.2.2.1⟩
          go_wp2_with (at_builtin; rw [HWw60.out]; refine Kd.R_append k46 (w0 := w60) wB.heap.size rfl (.tmp 99) (.tmp 101) 38 46 (.agg #[(.int .i64 0), (.int .i64 0), (.string ⟨#[]⟩)]) 32 rfl Tryd.underlying38 infoA rfl (by decide) (by omega) u6 out ⟨v, 0, noT⟩ [.int .i64 v, .int .i64 0, .string noT] (fun k => wB.heap.size ≤ k) (fun _ => False) rfl (by rw [← HWw60.out, sc_size]; rfl) (k46_mkM _ _ _ ⟨v, 0, noT⟩) (fun _ h => h.elim) (fun k hk => Nat.le_trans H60.out.2.2.2.1 hk) H60.out.1 (Below.refl _ _) H60.out.2.2.2.1 LM.out ?_; intro v6 w6 ho hb hg hat; have HR6 := Aside0.mk ho; have HB6 := Aside0.mk hb; clear ho hb hg hat)
          clear z0 z1 z2 f0_ f1_ f2_
          go_roundw
          case rel => exact ⟨k + 1, _, _, out ++ [⟨v, 0, noT⟩], rest2, congrArg (Value.int .i64) (wr1 hlt HL.out.2.1), ⟨hlt, HQ.out.1, by rw [HQ.out.2.1]; simp, by simp [HQ.out.2.2.1], HIN.out.1, HIN.out.2⟩, HR6, ⟨H60.out.2.1.below HB6.out⟩, ⟨H60.out.2.2.1.trans (HB6.out.mono HBT.out)⟩, ⟨Nat.le_trans H60.out.2.2.2.1 HB6.out.size⟩⟩
          case measure => exact meas1 hlt HL.out.2.1
      by_cases hk5 : f0 = 5
      · subst hk5
        as_aux_lemma =>
          have hc : 0 ≤ (p : Int) + f1 ∧ (p : Int) + f1 ≤ l0.length := by
            by_cases hq : 0 ≤ (p : Int) + f1 ∧ (p : Int) + f1 ≤ l0.length
            · exact hq
            · rw [stepL5, if_neg hq] at hstep; cases hstep
          rw [stepL5, if_pos hc] at hstep
          simp only [Option.some.injEq, Prod.mk.injEq] at hstep
          obtain ⟨rfl, rfl, rfl⟩ := hstep
          have HQ := Aside0.mk (And.intro hrun (And.intro q3 (And.intro q4 (And.intro q5 q6))))
          clear hrun q1 q2 q3 q4 q5 q6
          have hfb := step_bounds (p := p) (s := s) (f := f1) (n := l0.length) HQ.out.2.2.2.1 HQ.out.2.2.2.2 HL.out.1 (.inr (by have := hc; omega)) (by have := hc; omega)
          have HFB := Aside0.mk hfb
          have HCC := Aside0.mk hc
          clear hc hfb
          go_wp2_with fail
          generalize hW4 : World.alloc (World.alloc wr _) _ = w4
          have H4 : Aside0 (RoundL w w4 w.heap.size wB.heap.size gz l0 p s u6 out (wr.heap.size + 1) 0 0 noT) := ⟨by subst hW4; exact RoundL.made HR.out HIT.out HBW.out HSZ.out HBT.out  (below_alloc (below_alloc (Below.refl _ _) _) _) ⟨_, al_eq (by simp)⟩⟩
          have hs1 : w4.cell? ⟨wr.heap.size, 1, none⟩ = some (.int .i64 f1) := by subst hW4; rw [cell_al1]; simp only [World.cell?, al_eq (W := wr) (i := wr.heap.size) rfl]; rfl
          have hE4 : w4.cell? ⟨0, 0, none⟩ = some (.iface 102 (.pointer (some ae))) := by rw [H4.out.2.2.1.cell (World.block_lt_of_cell? w _ HE.out)]; exact HE.out
          have hz4 : wr.heap.size < w4.heap.size := by subst hW4; simp; omega
          have HS4 := Aside0.mk (And.intro hs1 (And.intro hE4 hz4))
          clear hs1 hE4 hz4 hW4
          have hEq := eqEndL (decide ((l0.length : Int) ≤ (p : Int) + f1)) ae
          have hGd := guardEndL (decide ((l0.length : Int) ≤ (p : Int) + f1)) ae
          have HPE := Aside0.mk (fun W (hb : Below w4.heap.size w4 W) => lx_peekerr gz w.heap.size l0 p s f1 W 102 (.pointer (some ae)) (pw_cell_below hb HS4.out.2.1) (InT.at (RoundL.below H4.out hb).2.1) HL.out.1 HFB.out.1 HFB.out.2.2)
          have hbz : (if (l0.length : Int) ≤ (p : Int) + f1 then (1 : Int) else 0) = if decide ((l0.length : Int) ≤ (p : Int) + f1) = true then 1 else 0 := by simp
          rw [hbz] at HQ
          clear hbz
          generalize decide ((l0.length : Int) ≤ (p : Int) + f1) = bz at hEq hGd HPE HQ
          refine start_ (n := 9) (S := fun w' => w'.cell? ⟨wr.heap.size, 1, none⟩ = some (.int .i64 f1) ∧ w'.cell? ⟨0, 0, none⟩ = some (.iface 102 (.pointer (some ae)))) (ds := []) #[false, false, false, false, false, false, false, false, false] (by kernel_rfl) rfl rfl ⟨HS4.out.1, HS4.out.2.1⟩ (fun hHeld => ?_)
          refine pure_ (i := 0) (N := (some 57)) (v := ?_) (a' := ?_) #[true, false, false, false, false, false, false, false, false] rfl rfl (by kernel_rfl) (fun _ _ _ h => h) (Or.inl ⟨by rfl, ?_⟩) ?_ ?_
          rotate_left
          · intro w'
            go_simp
            with_reducible rfl
          rotate_left
          · simp only [Act.put, List.setIfInBounds_toArray, List.set_cons_zero, List.set_cons_succ, i64_w, i32_w]
            rfl
          refine pure_ (i := 1) (N := (some 58)) (v := ?_) (a' := ?_) #[true, true, false, false, false, false, false, false, false] rfl rfl (by kernel_rfl) (fun _ _ _ h => h) (Or.inl ⟨by rfl, ?_⟩) ?_ ?_
          rotate_left
          · intro w'
            go_simp
            with_reducible rfl
          rotate_left
          · simp only [Act.put, List.setIfInBounds_toArray, List.set_cons_zero, List.set_cons_succ, i64_w, i32_w]
            rfl
          refine take_ (i := 2) (N := (some 59)) (v := ?_) (a' := ?_) #[true, true, true, false, false, false, false, false, false] rfl rfl (by kernel_rfl) (fun _ _ _ h => h) (Or.inl ⟨by rfl, ?_⟩) hHeld ?_ ?_
          rotate_left
          · intro w' s0
            obtain ⟨s1, s2⟩ := s0
            go_simp
            with_reducible rfl
          rotate_left
          · simp only [Act.put, List.setIfInBounds_toArray, List.set_cons_zero, List.set_cons_succ, i64_w, i32_w]
            rfl
          refine take_ (i := 4) (N := (some 61)) (v := ?_) (a' := ?_) #[true, true, true, false, true, false, false, false, false] rfl rfl (by kernel_rfl) (fun _ _ _ h => h) (Or.inl ⟨by rfl, ?_⟩) hHeld ?_ ?_
          rotate_left
          · intro w' s0
            obtain ⟨s1, s2⟩ := s0
            go_simp
            with_reducible rfl
          rotate_left
          · simp only [Act.put, List.setIfInBounds_toArray, List.set_cons_zero, List.set_cons_succ, i64_w, i32_w]
            rfl
          refine one_ (i := 3) (N := (some 60)) #[true, true, true, true, true, false, false, false, false] rfl rfl (by kernel_rfl) (by simp) (fun K_ hK_ => ?_)
          refine goes_ Tryd.func36 (by kernel_rfl) rfl #[.pointer (some ⟨gz, 0, none⟩), .int .i64 f1] (by rfl) rfl rfl (by simp only [List.map_toArray, List.map_cons, List.map_nil]; rfl) ?_
          refine (HPE.out _ (below_drew (Below.refl _ _))).mono ?_
          rintro e wa ⟨rfl, ⟨nq1, hwa⟩⟩
          have HBa := Aside0.mk (show Below w4.heap.size w4 wa from by rw [hwa]; exact pw_below_drewN (below_drew (Below.refl _ _)) nq1)
          clear hwa
          refine ⟨_, rfl, ?_⟩
          refine hK_ _ _ ⟨pw_cell_below HBa.out HS4.out.1, pw_cell_below HBa.out HS4.out.2.1⟩ (fun hHeld => ?_)
          refine pure_ (i := 5) (N := (some 62)) (v := ?_) (a' := ?_) #[true, true, true, true, true, true, false, false, false] rfl rfl (by kernel_rfl) (fun _ _ _ h => h) (Or.inl ⟨by rfl, ?_⟩) ?_ ?_
          rotate_left
          · intro w'
            go_simp
            with_reducible rfl
          rotate_left
          · simp only [Act.put, List.setIfInBounds_toArray, List.set_cons_zero, List.set_cons_succ, i64_w, i32_w]
            rfl
          refine one_ (i := 6) (N := (some 63)) #[true, true, true, true, true, true, true, false, false] rfl rfl (by kernel_rfl) (by simp) (fun K_ hK_ => ?_)
          refine goes_ Tryd.func35 (by kernel_rfl) rfl #[.bool bz] (by rfl) rfl rfl (by simp only [List.map_toArray, List.map_cons, List.map_nil]; rfl) ?_
          refine (truth_any bz _).mono ?_
          rintro e wb ⟨rfl, hwb⟩
          subst hwb
          refine ⟨_, rfl, ?_⟩
          refine hK_ _ _ ⟨pw_cell_below HBa.out HS4.out.1, pw_cell_below HBa.out HS4.out.2.1⟩ (fun hHeld => ?_)
          refine pure_ (i := 7) (N := (some 64)) (v := ?_) (a' := ?_) #[true, true, true, true, true, true, true, true, false] rfl rfl (by kernel_rfl) (fun _ _ _ h => h) (Or.inl ⟨by rfl, ?_⟩) ?_ ?_
          rotate_left
          · intro w'
            go_simp
            with_reducible rfl
          rotate_left
          · simp only [Act.put, List.setIfInBounds_toArray, List.set_cons_zero, List.set_cons_succ, i64_w, i32_w]
            rfl
          refine one_ (i := 8) (N := none) #[true, true, true, true, true, true, true, true, true] rfl rfl (by kernel_rfl) (by simp) (fun K_ hK_ => ?_)
          have H5 := Aside0.mk (RoundL.below H4.out HBa.out)
          obtain ⟨z0, z1, z2, f0_, f1_, f2_⟩ := H5.out.cells
          refine skip_ (w1 := ?_) (by rfl) rfl ?_ ?_
          rotate_left
          · go_simp
            with_reducible rfl
          refine hK_ _ _ ⟨(World.cell?_setCell_other _ _ _ _ (by intro he; injection he with h1 _ _; omega)).trans (pw_cell_below HBa.out HS4.out.1), (World.cell?_setCell_other _ _ _ _ (by intro he; injection he with h1 _ _; omega)).trans (pw_cell_below HBa.out HS4.out.2.1)⟩ (fun hHeld => ?_)
          refine done_ (by kernel_rfl) ?_
          generalize (if bz = true then (1 : Int) else 0) = v at HQ ⊢
          have H60 := Aside0.mk (RoundL.put H5.out 0 (.int .i64 v) (m0 := v) (m1 := 0) (t' := noT) rfl)
          clear z0 z1 z2 f0_ f1_ f2_ hEq hGd
          generalize World.setCell _ _ _ = w60 at H60 ⊢
          obtain ⟨z0, z1, z2, f0_, f1_, f2_⟩ := H60.out.cells
          have LM : Aside0 ((out.length + 1) * 32 ≤ 140737488355328) := ⟨len_bound hlt HL.out.2.1 HQ.out.2.2.1⟩
          go_wp2_with (at_builtin; refine Kd.R_append k46 (w0 := w60) wB.heap.size rfl (.tmp 99) (.tmp 101) 38 46 (.agg #[(.int .i64 0), (.int .i64 0), (.string ⟨#[]⟩)]) 32 rfl Tryd.underlying38 infoA rfl (by decide) (by omega) u6 out ⟨v, 0, noT⟩ [.int .i64 v, .int .i64 0, .string noT] (fun k => wB.heap.size ≤ k) (fun _ => False) rfl rfl (k46_mkM _ _ _ ⟨v, 0, noT⟩) (fun _ h => h.elim) (fun k hk => Nat.le_trans H60.out.2.2.2.1 hk) H60.out.1 (Below.refl _ _) H60.out.2.2.2.1 LM.out ?_; intro v6 w6 ho hb hg hat; have HR6 := Aside0.mk ho; have HB6 := Aside0.mk hb; clear ho hb hg hat)
          clear z0 z1 z2 f0_ f1_ f2_
          go_roundw
          case rel => exact ⟨k + 1, _, _, out ++ [⟨v, 0, noT⟩], rest2, congrArg (Value.int .i64) (wr1 hlt HL.out.2.1), ⟨hlt, HQ.out.1, by rw [HQ.out.2.1]; simp, by simp [HQ.out.2.2.1], HIN.out.1, HIN.out.2⟩, HR6, ⟨H60.out.2.1.below HB6.out⟩, ⟨H60.out.2.2.1.trans (HB6.out.mono HBT.out)⟩, ⟨Nat.le_trans H60.out.2.2.2.1 HB6.out.size⟩⟩
          case measure => exact meas1 hlt HL.out.2.1
      by_cases hk6 : f0 = 6
      · subst hk6
        as_aux_lemma =>
          rw [stepL6] at hstep
          simp only [Option.some.injEq, Prod.mk.injEq] at hstep
          obtain ⟨rfl, rfl, rfl⟩ := hstep
          have HQ := Aside0.mk (And.intro hrun (And.intro q3 (And.intro q4 (And.intro q5 q6))))
          clear hrun q1 q2 q3 q4 q5 q6
          go_wp2_with fail
          (with_reducible refine (lx_lexeme gz w.heap.size p s l0 _ ((HIT.out.alloc HSZ.out _).alloc (by have := HSZ.out; simp; omega) _).at HQ.out.2.2.2.1 HQ.out.2.2.2.2 HL.out.1).mono ?_)
          rintro e w5 ⟨A, g, nq, rfl, ha, hcells, hw5⟩
          have hrd : ReadsInt w5 .u8 A (p - s) ((l0.drop s).take (p - s)) := reads_cut ha (fun k hk => by rw [hw5]; exact (show _ = _ from hcells k hk)) HQ.out.2.2.2.1 HQ.out.2.2.2.2 HL.out.1
          have hconv : (convert 22 9 (.slice A (p - s) (p - s))).run Tryd.prog w5 = .ok (.string (selT l0 p s)) w5 := string_of_reads Tryd.underlying22 Tryd.underlying5 Tryd.underlying9 hrd
          have H5 : Aside0 (RoundL w w5 w.heap.size wB.heap.size gz l0 p s u6 out (wr.heap.size + 1) 0 0 noT) := ⟨by subst hw5; exact RoundL.made HR.out HIT.out HBW.out HSZ.out HBT.out  (pw_below_drewN (below_alloc (below_alloc (Below.refl _ _) _) _) nq) ⟨_, (show _ = _ from al_eq (by simp))⟩⟩
          clear hw5 hrd hcells ha
          generalize selT l0 p s = txt at hconv HQ
          obtain ⟨z0, z1, z2, f0_, f1_, f2_⟩ := H5.out.cells
          have H60 := Aside0.mk (RoundL.put H5.out 2 (.string txt) (m0 := 0) (m1 := 0) (t' := txt) rfl)
          generalize hww60 : World.setCell _ _ _ = w60 at H60
          have HWw60 := Aside0.mk hww60
          clear hww60
          have LM : Aside0 ((out.length + 1) * 32 ≤ 140737488355328) := ⟨len_bound hlt HL.out.2.1 HQ.out.2.2.1⟩
          go_wp2_with (at_builtin; rw [HWw60.out]; refine Kd.R_append k46 (w0 := w60) wB.heap.size rfl (.tmp 99) (.tmp 101) 38 46 (.agg #[(.int .i64 0), (.int .i64 0), (.string ⟨#[]⟩)]) 32 rfl Tryd.underlying38 infoA rfl (by decide) (by omega) u6 out ⟨0, 0, txt⟩ [.int .i64 0, .int .i64 0, .string txt] (fun k => wB.heap.size ≤ k) (fun _ => False) rfl (by rw [← HWw60.out, sc_size]; rfl) (k46_mkM _ _ _ ⟨0, 0, txt⟩) (fun _ h => h.elim) (fun k hk => Nat.le_trans H60.out.2.2.2.1 hk) H60.out.1 (Below.refl _ _) H60.out.2.2.2.1 LM.out ?_; intro v6 w6 ho hb hg hat; have HR6 := Aside0.mk ho; have HB6 := Aside0.mk hb; clear ho hb hg hat)
          clear z0 z1 z2 f0_ f1_ f2_ hconv
          go_roundw
          case rel => exact ⟨k + 1, _, _, out ++ [⟨0, 0, txt⟩], rest2, congrArg (Value.int .i64) (wr1 hlt HL.out.2.1), ⟨hlt, HQ.out.1, by rw [HQ.out.2.1]; simp, by simp [HQ.out.2.2.1], HIN.out.1, HIN.out.2⟩, HR6, ⟨H60.out.2.1.below HB6.out⟩, ⟨H60.out.2.2.1.trans (HB6.out.mono HBT.out)⟩, ⟨Nat.le_trans H60.out.2.2.2.1 HB6.out.size⟩⟩
          case measure => exact meas1 hlt HL.out.2.1
      by_cases hk7 : f0 = 7
      · subst hk7
        as_aux_lemma =>
          rw [stepL7] at hstep
          simp only [Option.some.injEq, Prod.mk.injEq] at hstep
          obtain ⟨rfl, rfl, rfl⟩ := hstep
          have HQ := Aside0.mk (And.intro hrun (And.intro q3 (And.intro q4 (And.intro q5 q6))))
          clear hrun q1 q2 q3 q4 q5 q6
          go_wp2_with fail
          (with_reducible refine (lx_pos gz w.heap.size l0 p s _ ((HIT.out.alloc HSZ.out _).alloc (by have := HSZ.out; simp; omega) _).at (pos_bounds HQ.out.2.2.2.2 HL.out.1) (pos_bounds (Nat.le_trans HQ.out.2.2.2.1 HQ.out.2.2.2.2) HL.out.1)).mono ?_)
          rintro e w5 ⟨rfl, ⟨nq, hw5⟩⟩
          have H5 : Aside0 (RoundL w w5 w.heap.size wB.heap.size gz l0 p s u6 out (wr.heap.size + 1) 0 0 noT) := ⟨by subst hw5; exact RoundL.made HR.out HIT.out HBW.out HSZ.out HBT.out  (pw_below_drewN (below_alloc (below_alloc (Below.refl _ _) _) _) nq) ⟨_, (show _ = _ from al_eq (by simp))⟩⟩
          clear hw5
          generalize (p : Int) - s = v at HQ ⊢
          obtain ⟨z0, z1, z2, f0_, f1_, f2_⟩ := H5.out.cells
          have H60 := Aside0.mk (RoundL.put H5.out 0 (.int .i64 v) (m0 := v) (m1 := 0) (t' := noT) rfl)
          generalize hww60 : World.setCell _ _ _ = w60 at H60
          have HWw60 := Aside0.mk hww60
          clear hww60
          have LM : Aside0 ((out.length + 1) * 32 ≤ 140737488355328) := ⟨len_bound hlt HL.out.2.1 HQ.out.2.2.1⟩
          go_wp2_with (at_builtin; rw [HWw60.out]; refine Kd.R_append k46 (w0 := w60) wB.heap.size rfl (.tmp 99) (.tmp 101) 38 46 (.agg #[(.int .i64 0), (.int .i64 0), (.string ⟨#[]⟩)]) 32 rfl Tryd.underlying38 infoA rfl (by decide) (by omega) u6 out ⟨v, 0, noT⟩ [.int .i64 v, .int .i64 0, .string noT] (fun k => wB.heap.size ≤ k) (fun _ => False) rfl (by rw [← HWw60.out, sc_size]; rfl) (k46_mkM _ _ _ ⟨v, 0, noT⟩) (fun _ h => h.elim) (fun k hk => Nat.le_trans H60.out.2.2.2.1 hk) H60.out.1 (Below.refl _ _) H60.out.2.2.2.1 LM.out ?_; intro v6 w6 ho hb hg hat; have HR6 := Aside0.mk ho; have HB6 := Aside0.mk hb; clear ho hb hg hat)
          clear z0 z1 z2 f0_ f1_ f2_
          go_roundw
          case rel => exact ⟨k + 1, _, _, out ++ [⟨v, 0, noT⟩], rest2, congrArg (Value.int .i64) (wr1 hlt HL.out.2.1), ⟨hlt, HQ.out.1, by rw [HQ.out.2.1]; simp, by simp [HQ.out.2.2.1], HIN.out.1, HIN.out.2⟩, HR6, ⟨H60.out.2.1.below HB6.out⟩, ⟨H60.out.2.2.1.trans (HB6.out.mono HBT.out)⟩, ⟨Nat.le_trans H60.out.2.2.2.1 HB6.out.size⟩⟩
          case measure => exact meas1 hlt HL.out.2.1
      by_cases hk8 : f0 = 8
      · subst hk8
        as_aux_lemma =>
          rw [stepL8] at hstep
          simp only [Option.some.injEq, Prod.mk.injEq] at hstep
          obtain ⟨rfl, rfl, rfl⟩ := hstep
          have HQ := Aside0.mk (And.intro hrun (And.intro q3 (And.intro q4 (And.intro q5 q6))))
          clear hrun q1 q2 q3 q4 q5 q6
          go_wp2_with fail
          (with_reducible refine (lx_offset gz w.heap.size l0 p s _ ((HIT.out.alloc HSZ.out _).alloc (by have := HSZ.out; simp; omega) _).at).mono ?_)
          rintro e w5 ⟨rfl, hw5⟩
          have H5 : Aside0 (RoundL w w5 w.heap.size wB.heap.size gz l0 p s u6 out (wr.heap.size + 1) 0 0 noT) := ⟨by subst hw5; exact RoundL.made HR.out HIT.out HBW.out HSZ.out HBT.out  (below_alloc (below_alloc (Below.refl _ _) _) _) ⟨_, al_eq (by simp)⟩⟩
          clear hw5
          obtain ⟨z0, z1, z2, f0_, f1_, f2_⟩ := H5.out.cells
          have H60 := Aside0.mk (RoundL.put H5.out 0 (.int .i64 (p : Int)) (m0 := (p : Int)) (m1 := 0) (t' := noT) rfl)
          generalize hww60 : World.setCell _ _ _ = w60 at H60
          have HWw60 := Aside0.mk hww60
          clear hww60
          have LM : Aside0 ((out.length + 1) * 32 ≤ 140737488355328) := ⟨len_bound hlt HL.out.2.1 HQ.out.2.2.1⟩
          go_wp2_with (at_builtin; rw [HWw60.out]; refine Kd.R_append k46 (w0 := w60) wB.heap.size rfl (.tmp 99) (.tmp 101) 38 46 (.agg #[(.int .i64 0), (.int .i64 0), (.string ⟨#[]⟩)]) 32 rfl Tryd.underlying38 infoA rfl (by decide) (by omega) u6 out ⟨(p : Int), 0, noT⟩ [.int .i64 (p : Int), .int .i64 0, .string noT] (fun k => wB.heap.size ≤ k) (fun _ => False) rfl (by rw [← HWw60.out, sc_size]; rfl) (k46_mkM _ _ _ ⟨(p : Int), 0, noT⟩) (fun _ h => h.elim) (fun k hk => Nat.le_trans H60.out.2.2.2.1 hk) H60.out.1 (Below.refl _ _) H60.out.2.2.2.1 LM.out ?_; intro v6 w6 ho hb hg hat; have HR6 := Aside0.mk ho; have HB6 := Aside0.mk hb; clear ho hb hg hat)
          clear z0 z1 z2 f0_ f1_ f2_
          go_roundw
          case rel => exact ⟨k + 1, _, _, out ++ [⟨(p : Int), 0, noT⟩], rest2, congrArg (Value.int .i64) (wr1 hlt HL.out.2.1), ⟨hlt, HQ.out.1, by rw [HQ.out.2.1]; simp, by simp [HQ.out.2.2.1], HIN.out.1, HIN.out.2⟩, HR6, ⟨H60.out.2.1.below HB6.out⟩, ⟨H60.out.2.2.1.trans (HB6.out.mono HBT.out)⟩, ⟨Nat.le_trans H60.out.2.2.2.1 HB6.out.size⟩⟩
          case measure => exact meas1 hlt HL.out.2.1
      by_cases hk9 : f0 = 9
      · subst hk9
        as_aux_lemma =>
          have hc : 0 ≤ (p : Int) + f1 ∧ (p : Int) + f1 ≤ l0.length := by
            by_cases hq : 0 ≤ (p : Int) + f1 ∧ (p : Int) + f1 ≤ l0.length
            · exact hq
            · rw [stepL9, if_neg hq] at hstep; cases hstep
          rw [stepL9, if_pos hc] at hstep
          obtain ⟨rr, hrr, hstep⟩ := Option.map_eq_some_iff.1 hstep
          simp only [Prod.mk.injEq] at hstep
          obtain ⟨rfl, rfl, rfl⟩ := hstep
          obtain ⟨r0, r1⟩ := rr
          simp only at *
          have HQ := Aside0.mk (And.intro hrun (And.intro q3 (And.intro q4 (And.intro q5 q6))))
          clear hrun q1 q2 q3 q4 q5 q6
          have hfb := step_bounds (p := p) (s := s) (f := f1) (n := l0.length) HQ.out.2.2.2.1 HQ.out.2.2.2.2 HL.out.1 (.inr (by have := hc; omega)) (by have := hc; omega)
          have HFB := Aside0.mk hfb
          have HCC := Aside0.mk hc
          clear hc hfb
          have HRR := Aside0.mk hrr
          clear hrr
          go_wp2_with fail
          (with_reducible refine (rune_any gz w.heap.size l0 p s f1 ((p : Int) + f1).toNat (r0, r1) _ ⟨((HIT.out.alloc HSZ.out _).alloc (by have := HSZ.out; simp; omega) _).at⟩ ⟨⟨HFB.out.1, by have := HFB.out.2.2; have := HCC.out; have := HL.out.1; omega⟩⟩ (by have := HCC.out; omega) (by have := HCC.out; omega) HRR.out HL.out.2.2).mono ?_)
          rintro e w5 ⟨rfl, hw5⟩
          have H5 : Aside0 (RoundL w w5 w.heap.size wB.heap.size gz l0 p s u6 out (wr.heap.size + 1) 0 0 noT) := ⟨by subst hw5; exact RoundL.made HR.out HIT.out HBW.out HSZ.out HBT.out  (below_alloc (below_alloc (Below.refl _ _) _) _) ⟨_, al_eq (by simp)⟩⟩
          clear hw5
          have hrb := rune_bound HRR.out HL.out.2.2
          obtain ⟨z0, z1, z2, f0_, f1_, f2_⟩ := H5.out.cells
          have H60 := Aside0.mk (RoundL.put H5.out 0 (.int .i64 r0) (m0 := r0) (m1 := 0) (t' := noT) rfl)
          generalize hww60 : World.setCell _ _ _ = w60 at H60
          have HWw60 := Aside0.mk hww60
          clear hww60
          have H61 := Aside0.mk (RoundL.put H60.out 1 (.int .i64 r1) (m0 := r0) (m1 := r1) (t' := noT) rfl)
          generalize hww61 : World.setCell _ _ _ = w61 at H61
          have HWw61 := Aside0.mk hww61
          clear hww61
          have LM : Aside0 ((out.length + 1) * 32 ≤ 140737488355328) := ⟨len_bound hlt HL.out.2.1 HQ.out.2.2.1⟩
          go_wp2_with (at_builtin; rw [HWw60.out, HWw61.out]; refine Kd.R_append k46 (w0 := w61) wB.heap.size rfl (.tmp 99) (.tmp 101) 38 46 (.agg #[(.int .i64 0), (.int .i64 0), (.string ⟨#[]⟩)]) 32 rfl Tryd.underlying38 infoA rfl (by decide) (by omega) u6 out ⟨r0, r1, noT⟩ [.int .i64 r0, .int .i64 r1, .string noT] (fun k => wB.heap.size ≤ k) (fun _ => False) rfl (by rw [← HWw61.out, sc_size]; rw [← HWw60.out, sc_size]; rfl) (k46_mkM _ _ _ ⟨r0, r1, noT⟩) (fun _ h => h.elim) (fun k hk => Nat.le_trans H61.out.2.2.2.1 hk) H61.out.1 (Below.refl _ _) H61.out.2.2.2.1 LM.out ?_; intro v6 w6 ho hb hg hat; have HR6 := Aside0.mk ho; have HB6 := Aside0.mk hb; clear ho hb hg hat)
          clear z0 z1 z2 f0_ f1_ f2_
          go_roundw
          case rel => exact ⟨k + 1, _, _, out ++ [⟨r0, r1, noT⟩], rest2, congrArg (Value.int .i64) (wr1 hlt HL.out.2.1), ⟨hlt, HQ.out.1, by rw [HQ.out.2.1]; simp, by simp [HQ.out.2.2.1], HIN.out.1, HIN.out.2⟩, HR6, ⟨H61.out.2.1.below HB6.out⟩, ⟨H61.out.2.2.1.trans (HB6.out.mono HBT.out)⟩, ⟨Nat.le_trans H61.out.2.2.2.1 HB6.out.size⟩⟩
          case measure => exact meas1 hlt HL.out.2.1
      by_cases hk11 : f0 = 11
      · subst hk11
        as_aux_lemma =>
          rw [stepL11] at hstep
          simp only [Option.some.injEq, Prod.mk.injEq] at hstep
          obtain ⟨rfl, rfl, rfl⟩ := hstep
          have HQ := Aside0.mk (And.intro hrun (And.intro q3 (And.intro q4 (And.intro q5 q6))))
          clear hrun q1 q2 q3 q4 q5 q6
          go_wp2_with fail
          (with_reducible refine (lx_reset gz w.heap.size l0 p s _ ((HIT.out.alloc HSZ.out _).alloc (by have := HSZ.out; simp; omega) _).at).mono ?_)
          rintro e w5 ⟨rfl, hi5, hw5⟩
          have H5 : Aside0 (RoundL w w5 w.heap.size wB.heap.size gz l0 0 0 u6 out (wr.heap.size + 1) 0 0 noT) := ⟨by subst hw5; exact RoundL.set (s' := 0) (p' := 0) (RoundL.set (s' := 0) (p' := p) (RoundL.made HR.out HIT.out HBW.out HSZ.out HBT.out  (below_alloc (below_alloc (Below.refl _ _) _) _) ⟨_, al_eq (by simp)⟩) (by decide) (in_set ((HIT.out.alloc HSZ.out _).alloc (by have := HSZ.out; simp; omega) _).at 0 0).2.1) (by decide) hi5⟩
          clear hi5 hw5
          obtain ⟨z0, z1, z2, f0_, f1_, f2_⟩ := H5.out.cells
          have LM : Aside0 ((out.length + 1) * 32 ≤ 140737488355328) := ⟨len_bound hlt HL.out.2.1 HQ.out.2.2.1⟩
          go_wp2_with (at_builtin; refine Kd.R_append k46 (w0 := w5) wB.heap.size rfl (.tmp 99) (.tmp 101) 38 46 (.agg #[(.int .i64 0), (.int .i64 0), (.string ⟨#[]⟩)]) 32 rfl Tryd.underlying38 infoA rfl (by decide) (by omega) u6 out ⟨0, 0, noT⟩ [.int .i64 0, .int .i64 0, .string noT] (fun k => wB.heap.size ≤ k) (fun _ => False) rfl rfl (k46_mkM _ _ _ ⟨0, 0, noT⟩) (fun _ h => h.elim) (fun k hk => Nat.le_trans H5.out.2.2.2.1 hk) H5.out.1 (Below.refl _ _) H5.out.2.2.2.1 LM.out ?_; intro v6 w6 ho hb hg hat; have HR6 := Aside0.mk ho; have HB6 := Aside0.mk hb; clear ho hb hg hat)
          clear z0 z1 z2 f0_ f1_ f2_
          go_roundw
          case rel => exact ⟨k + 1, _, _, out ++ [⟨0, 0, noT⟩], rest2, congrArg (Value.int .i64) (wr1 hlt HL.out.2.1), ⟨hlt, HQ.out.1, by rw [HQ.out.2.1]; simp, by simp [HQ.out.2.2.1], HIN.out.1, HIN.out.2⟩, HR6, ⟨H5.out.2.1.below HB6.out⟩, ⟨H5.out.2.2.1.trans (HB6.out.mono HBT.out)⟩, ⟨Nat.le_trans H5.out.2.2.2.1 HB6.out.size⟩⟩
          case measure => exact meas1 hlt HL.out.2.1
      as_aux_lemma =>
        have hstepo : stepL l0 ⟨f0, f1⟩ p s = some (p, s, ⟨0, 0, noT⟩) := by unfold stepL; simp only; rw [if_neg hk0]; rw [if_neg hk1]; rw [if_neg hk2]; rw [if_neg hk3]; rw [if_neg hk4]; rw [if_neg hk5]; rw [if_neg hk6]; rw [if_neg hk7]; rw [if_neg hk8]; rw [if_neg hk9]; rw [if_neg hk11]
        rw [hstepo] at hstep
        clear hstepo
        simp only [Option.some.injEq, Prod.mk.injEq] at hstep
        obtain ⟨rfl, rfl, rfl⟩ := hstep
        have HQ := Aside0.mk (And.intro hrun (And.intro q3 (And.intro q4 (And.intro q5 q6))))
        clear hrun q1 q3 q4 q5 q6
        have hb0 : (f0 == 0) = false := by simpa using hk0
        have hb1 : (f0 == 1) = false := by simpa using hk1
        have hb2 : (f0 == 2) = false := by simpa using hk2
        have hb3 : (f0 == 3) = false := by simpa using hk3
        have hb4 : (f0 == 4) = false := by simpa using hk4
        have hb5 : (f0 == 5) = false := by simpa using hk5
        have hb6 : (f0 == 6) = false := by simpa using hk6
        have hb7 : (f0 == 7) = false := by simpa using hk7
        have hb8 : (f0 == 8) = false := by simpa using hk8
        have hb9 : (f0 == 9) = false := by simpa using hk9
        have hb11 : (f0 == 11) = false := by simpa using hk11
        have LM : Aside0 ((out.length + 1) * 32 ≤ 140737488355328) := ⟨len_bound hlt HL.out.2.1 HQ.out.2.2.1⟩
        go_wp2_with (at_builtin; generalize hW5 : World.alloc (World.alloc wr _) _ = w5; have H5 : Aside0 (RoundL w w5 w.heap.size wB.heap.size gz l0 p s u6 out (wr.heap.size + 1) 0 0 noT) := ⟨by subst hW5; exact RoundL.made HR.out HIT.out HBW.out HSZ.out HBT.out  (below_alloc (below_alloc (Below.refl _ _) _) _) ⟨_, al_eq (by simp)⟩⟩; refine Kd.R_append k46 (w0 := w5) wB.heap.size rfl (.tmp 99) (.tmp 101) 38 46 (.agg #[(.int .i64 0), (.int .i64 0), (.string ⟨#[]⟩)]) 32 rfl Tryd.underlying38 infoA rfl (by decide) (by omega) u6 out ⟨0, 0, noT⟩ [.int .i64 0, .int .i64 0, .string noT] (fun k => wB.heap.size ≤ k) (fun _ => False) rfl (by rw [show w5.heap.size = wr.heap.size + 1 + 1 by rw [← hW5]; simp]; rfl) (k46_mkM _ _ _ ⟨0, 0, noT⟩) (fun _ h => h.elim) (fun k hk => Nat.le_trans H5.out.2.2.2.1 hk) H5.out.1 (Below.refl _ _) H5.out.2.2.2.1 LM.out ?_; intro v6 w6 ho hb hg hat; have HR6 := Aside0.mk ho; have HB6 := Aside0.mk hb; clear ho hb hg hat hW5)
        go_roundw
        case rel => exact ⟨k + 1, _, _, out ++ [⟨0, 0, noT⟩], rest2, congrArg (Value.int .i64) (wr1 hlt HL.out.2.1), ⟨hlt, HQ.out.1, by rw [HQ.out.2.1]; simp, by simp [HQ.out.2.2.1], HIN.out.1, HIN.out.2⟩, HR6, ⟨H5.out.2.1.below HB6.out⟩, ⟨H5.out.2.2.1.trans (HB6.out.mono HBT.out)⟩, ⟨Nat.le_trans H5.out.2.2.2.1 HB6.out.size⟩⟩
        case measure => exact meas1 hlt HL.out.2.1
    · obtain ⟨q1, q2, q3, q4, q5, q6⟩ := HH.out
      obtain rfl : k = l1.length := by omega
      rw [List.drop_length] at q2
      obtain rfl : [] = rest := Option.some.inj q2
      obtain rfl : r = out := by simpa using q3
      clear q2 q3 q4 q5 q6 HH
      go_wp2
      go_ret
      exact ⟨_, rfl, Kd.R_mono (Kd.R_lower HR.out HBT.out) (fun _ _ => trivial), HBW.out⟩
end Go.Proofs.YtgpmmmlmaaiobaaDoor.Own
