/- The contract of RunStream: what steps over a stream of bytes tell. -/
import Derived.Test.YtgpmmmlmaaiobaaDoorCStK
namespace Go.Proofs.YtgpmmmlmaaiobaaDoor.Own
open Go.RowKit Go.Proofs.YtgpmmmlmaaiobaaDoorW.PrintWords Go.Proofs.YtgpmmmlmaaiobaaDoorW.PrintLast
set_option linter.unusedVariables false
set_option linter.unusedSimpArgs false
theorem stepL0 {dat : List Int} {f1 : Int} {p s : Nat} : stepL dat ⟨0, f1⟩ p s = if (s : Int) ≤ p + f1 ∧ (p : Int) + f1 ≤ dat.length then some (((p : Int) + f1).toNat, s, ⟨0, 0, noT⟩) else none := by unfold stepL; simp
theorem stepL1 {dat : List Int} {f1 : Int} {p s : Nat} : stepL dat ⟨1, f1⟩ p s = if 0 ≤ f1 ∧ (s : Int) + f1 ≤ p then some (((s : Int) + f1).toNat, s, ⟨0, 0, noT⟩) else none := by unfold stepL; simp
theorem stepL2 {dat : List Int} {f1 : Int} {p s : Nat} : stepL dat ⟨2, f1⟩ p s = some (p, p, ⟨0, 0, selT dat p s⟩) := by unfold stepL; simp
theorem stepL3 {dat : List Int} {f1 : Int} {p s : Nat} : stepL dat ⟨3, f1⟩ p s = some (p, p, ⟨0, 0, noT⟩) := by unfold stepL; simp
theorem stepL4 {dat : List Int} {f1 : Int} {p s : Nat} : stepL dat ⟨4, f1⟩ p s = if 0 ≤ (p : Int) + f1 ∧ (p : Int) + f1 ≤ dat.length then some (p, s, ⟨atL dat ((p : Int) + f1).toNat, 0, noT⟩) else none := by unfold stepL; simp
theorem stepL5 {dat : List Int} {f1 : Int} {p s : Nat} : stepL dat ⟨5, f1⟩ p s = if 0 ≤ (p : Int) + f1 ∧ (p : Int) + f1 ≤ dat.length then some (p, s, ⟨if (dat.length : Int) ≤ (p : Int) + f1 then 1 else 0, 0, noT⟩) else none := by unfold stepL; simp
theorem stepL6 {dat : List Int} {f1 : Int} {p s : Nat} : stepL dat ⟨6, f1⟩ p s = some (p, s, ⟨0, 0, selT dat p s⟩) := by unfold stepL; simp
theorem stepL7 {dat : List Int} {f1 : Int} {p s : Nat} : stepL dat ⟨7, f1⟩ p s = some (p, s, ⟨(p : Int) - s, 0, noT⟩) := by unfold stepL; simp
theorem stepL8 {dat : List Int} {f1 : Int} {p s : Nat} : stepL dat ⟨8, f1⟩ p s = some (p, s, ⟨p, 0, noT⟩) := by unfold stepL; simp
theorem stepL9 {dat : List Int} {f1 : Int} {p s : Nat} : stepL dat ⟨9, f1⟩ p s = if 0 ≤ (p : Int) + f1 ∧ (p : Int) + f1 ≤ dat.length then (runeL dat ((p : Int) + f1).toNat).map (fun r => (p, s, ⟨r.1, r.2, noT⟩)) else none := by unfold stepL; simp
theorem stepL11 {dat : List Int} {f1 : Int} {p s : Nat} : stepL dat ⟨11, f1⟩ p s = some (0, 0, ⟨0, 0, noT⟩) := by unfold stepL; simp
theorem rune_boundS {dat : List Int} {q : Nat} {r : Int × Int} (h : runeL dat q = some r) (hb : (dat.all fun x => decide (0 ≤ x ∧ x ≤ 255)) = true) : 0 ≤ r.1 ∧ r.1 < 2147483648 ∧ 0 ≤ r.2 ∧ r.2 ≤ 4 := by
  have a0 := atL_byte hb q
  unfold runeL at h
  repeat' split at h
  all_goals first | (cases h; done) | (obtain rfl := Option.some.inj h; simp only; omega)
set_option maxRecDepth 100000 in
set_option maxHeartbeats 16000000 in
theorem impl_RunStream.calls (A0 : Option Addr) (c0 : Nat) (l0 : List Int) (a1 a2 : Int) (A3 : Option Addr) (c3 : Nat) (l1 : List S44) (r : List S46) (w : World)
    (hr0 : Kd.C (Kd.int .u8) w A0 l0.length l0) (hc0 : l0.length ≤ c0) (hr1 : Kd.C k44 w A3 l1.length l1) (hc1 : l1.length ≤ c3) (h : impl_RunStream.f l0 a1 a2 l1 = some r) (HTabE : Aside0 (TabE w)) :
    Calls Tryd.prog 19 #[.slice A0 l0.length c0, .int .i64 a1, .int .i64 a2, .slice A3 l1.length c3] w fun e w' => ∃ v0_, e = .returned v0_ ∧ Kd.R k46 46 w' w.heap.size (fun _ => True) v0_ r ∧ Below w.heap.size w w' := by
  unfold impl_RunStream.f at h
  split at h
  case isFalse => cases h
  case isTrue hl =>
  obtain ⟨hl1, hl2, hl3, ⟨hp1, hp2⟩, ⟨hs1, hs2⟩⟩ := hl
  obtain ⟨pc, rfl⟩ := Int.eq_ofNat_of_zero_le (show 0 ≤ a1 by omega)
  obtain ⟨size, rfl⟩ := Int.eq_ofNat_of_zero_le (show 0 ≤ a2 by omega)
  have hpc : 1 ≤ pc ∧ pc ≤ 300 := by omega
  have hsz : size ≤ 300 := by omega
  obtain ⟨ae, hE⟩ := HTabE.out
  have hEb : 0 < w.heap.size := World.block_lt_of_cell? w _ hE
  have HE := Aside0.mk hE
  have HL := Aside0.mk (And.intro hl1 (And.intro hl2 hl3))
  have HR0 := Aside0.mk hr0
  have HR1 := Aside0.mk hr1
  have HC0 := Aside0.mk hc0
  have HRI := Aside0.mk h
  clear hl1 hl2 hl3 hr0 hr1 hc0 h hE hp1 hp2 hs1 hs2
  go_enter Tryd.func19, Tryd.ntmps19
  go_wp2_with fail
  (with_reducible refine (impl_own.calls A0 c0 l0 l0 w HR0.out HC0.out (by have := HL.out.1; unfold impl_own.f; simp; omega)).mono ?_)
  rintro e w1 ⟨v1, rfl, hv1, hb1⟩
  obtain ⟨A1, cc, rfl, hsrc⟩ := src_start (pc := pc) hb1 hv1
  have HB1 := Aside0.mk hb1
  have HSR := Aside0.mk hsrc
  clear hb1 hv1 hsrc
  go_wp2_with fail
  generalize hw2 : World.alloc w1 _ = w2
  have hs2 : w1.heap.size + 1 = w2.heap.size := by rw [← hw2]; simp
  have HSR2 : Aside0 (SrcAt w2 w2.heap.size w.heap.size w1.heap.size l0 pc) := ⟨by rw [← hs2, ← hw2]; exact HSR.out⟩
  have HB2 := Aside0.mk (show Below w.heap.size w w2 from by rw [← hw2]; exact HB1.out.alloc HB1.out.size _)
  clear hw2 HSR HB1
  obtain ⟨gs, hgs⟩ : ∃ g, g = w1.heap.size := ⟨_, rfl⟩
  rw [← hgs] at HSR2 ⊢
  clear hgs hs2
  (with_reducible refine (st_new gs size w2 hsz).mono ?_)
  rintro e w3 ⟨rfl, hw3⟩
  obtain ⟨top, htop⟩ : ∃ t, t = w2.heap.size := ⟨_, rfl⟩
  have hI := st_start (u := 102) (ev := .pointer (some ae)) HB2.out.size hsz HSR2.out
  rw [← hw3] at hI
  have HB3 := Aside0.mk (show Below w.heap.size w w3 from by rw [hw3]; exact (HB2.out.alloc HB2.out.size _).alloc (Nat.le_trans HB2.out.size (by simp)) _)
  have HI := Aside0.mk hI
  clear hw3 hI HSR2
  rw [← htop] at HI ⊢
  clear htop
  obtain ⟨gz, hgz⟩ : ∃ g, g = top + 1 := ⟨_, rfl⟩
  rw [← hgz] at HI ⊢
  clear hgz
  go_wp2_with ((with_reducible refine gate_dst (N := 24) rfl ?_); refine Kd.R_lit k46 w.heap.size 46 ?hg (N := 24) ?hd (xs := ([] : List S46)) (inner := []) (ok := fun _ => True) (okp := fun _ => True) ?hr ?hp (fun _ hk => hk) trivial HB3.out HB3.out.size (by simp) ?_; (case hd => rfl); (case hg => rfl); (case hr => first | (go_simp; done) | (go_simp; rfl)); (case hp => exact (Reps.none _ _)); intro v15 w4 ho4 hb4 hg4 hnew_; have HO := Aside0.mk ho4; have HB4 := Aside0.mk hb4; have HF4 := Aside0.mk (show FrS [] w.heap.size w3 w4 from (FrS.refl HB3.out.size).grown hg4 (fun k hk => by cases hk)); clear hnew_ hb4 ho4 hg4)
  have HI4 := Aside0.mk (HI.out.fr HF4.out (by simp) (by simp) (by simp) (by simp))
  clear HI HB3
  go_loopw [10, 27] (fun u10 v27 wr => ∃ (k p s : Nat) (out rest : List S46), v27 = .int .i64 (k : Int) ∧ Aside0 (k ≤ l1.length ∧ runS l0 (l1.drop k) p s = some rest ∧ r = out ++ rest ∧ out.length = k ∧ s ≤ p ∧ p ≤ l0.length) ∧ Aside0 (Kd.R k46 46 wr w.heap.size (fun _ => True) u10 out) ∧ Aside0 (StAt wr w.heap.size top gz gs pc 102 (.pointer (some ae)) l0 (10 * k) p s 0) ∧ Aside0 (Below w.heap.size w wr) ∧ Aside0 (w.heap.size ≤ wr.heap.size) ∧ Aside0 (wr.cell? ⟨0, 0, none⟩ = some (.iface 102 (.pointer (some ae))))) (fun _ v _ => l1.length - (intOf v).toNat)
  case atStart => exact ⟨0, 0, 0, [], r, rfl, ⟨Nat.zero_le _, by simpa using HRI.out, rfl, rfl, Nat.le_refl _, Nat.zero_le _⟩, HO, HI4, HB4, ⟨HF4.out.to⟩, ⟨(HB4.out.cell hEb).trans HE.out⟩⟩
  case round =>
    obtain ⟨k, p, s, out, rest, rfl, HH, HR, HIT, HBW, HSZ, HEO⟩ := hrel
    clear HO HB4 HI4 HF4
    by_cases hlt : k < l1.length
    · obtain ⟨ad, e1, x0, x1⟩ := at_T44 HR1.out (k : Int) (by omega) (by omega)
      have hx : rd_T44 l1 (k : Int) = l1[k] := by unfold rd_T44; simp [List.getD_eq_getElem?_getD, hlt]
      have hd : l1.drop k = l1[k] :: l1.drop (k + 1) := List.drop_eq_getElem_cons hlt
      have HH2 := HH.out
      rw [hd] at HH2
      rw [hx] at x0 x1
      generalize l1[k] = x at x0 x1 HH2
      cases e1
      rw [Int.toNat_natCast] at x0 x1
      have hy0 := (HBW.out.cell (World.block_lt_of_cell? w _ x0)).trans x0
      have hy1 := (HBW.out.cell (World.block_lt_of_cell? w _ x1)).trans x1
      clear x0 x1 hx hd HH
      obtain ⟨q1, q2, q3, q4, q5, q6⟩ := HH2
      simp only [runS] at q2
      obtain ⟨⟨p', s', a⟩, hstep, q2⟩ := Option.bind_eq_some_iff.1 q2
      simp only at q2
      obtain ⟨rest2, hrun, rfl⟩ := Option.map_eq_some_iff.1 q2
      unfold stepS at hstep
      split at hstep
      case isFalse => cases hstep
      case isTrue hok =>
      have HIN := Aside0.mk (stepL_in hstep q5 q6)
      clear q2
      obtain ⟨f0, f1⟩ := x
      simp only at hy0 hy1
      by_cases hk0 : f0 = 0
      · subst hk0
        as_aux_lemma =>
          have hc : (s : Int) ≤ p + f1 ∧ (p : Int) + f1 ≤ l0.length := by
            by_cases hq : (s : Int) ≤ p + f1 ∧ (p : Int) + f1 ≤ l0.length
            · exact hq
            · rw [stepL0, if_neg hq] at hstep; cases hstep
          rw [stepL0, if_pos hc] at hstep
          simp only [Option.some.injEq, Prod.mk.injEq] at hstep
          obtain ⟨rfl, rfl, rfl⟩ := hstep
          have HQ := Aside0.mk (And.intro hrun (And.intro q3 (And.intro q4 (And.intro q5 q6))))
          clear hrun q1 q3 q4 q5 q6
          have HCC := Aside0.mk hc
          clear hc
          clear hok
          by_cases hf0 : 0 < f1
          · have hfu : f1 ≤ 300 := by have := HCC.out; have := HL.out.1; omega
            go_wp2_with fail
            generalize hW5 : World.alloc (World.alloc wr _) _ = w5
            have H5 : Aside0 (RoundS w w5 w.heap.size top gz gs pc _ _ l0 (10 * k) p s 0 u10 out wr.heap.size (wr.heap.size + 1) 0 f1 0 0 noT) := ⟨by subst hW5; exact RoundS.made HR.out HIT.out HBW.out HSZ.out HEO.out⟩
            have HSB := Aside0.mk (show wr.heap.size + 1 < w5.heap.size by subst hW5; simp)
            clear hW5
            have c1 := H5.out.cells.2.2.2.2
            (with_reducible refine (st_peek w.heap.size top gz gs pc _ _ l0 (10 * k) p s 0 (f1 - 1) ((p : Int) + f1 - 1).toNat w5 H5.out.st (by have := HCC.out; have := HQ.out.2.2.2.1; omega) (by have := HCC.out; have := HQ.out.2.2.2.1; omega) (by have := HCC.out; omega) HL.out.1 (by have := HQ.out.2.2.1; have := HL.out.2.1; omega) hpc.1 hpc.2 hEb H5.out.eo).mono ?_)
            rintro e w6 ⟨rfl, h1, h2⟩
            have H6 : Aside0 (RoundS w w6 w.heap.size top gz gs pc _ _ l0 (10 * k + 1) p s (min (((p : Int) + f1 - 1).toNat + 1) l0.length) u10 out wr.heap.size (wr.heap.size + 1) 0 f1 0 0 noT) := ⟨RoundS.step H5.out hEb h1 h2⟩
            replace HSB := Aside0.mk (show wr.heap.size + 1 < w6.heap.size from Nat.lt_of_lt_of_le HSB.out h2.2.2.1)
            clear h1 h2
            clear c1
            have c1 := H6.out.cells.2.2.2.2
            go_wp2_with fail
            (with_reducible refine (st_move w.heap.size top gz gs pc _ _ l0 (10 * k + 1) p s _ f1 w6 H6.out.st HCC.out.1 (.inl (by have := HCC.out; have := HQ.out.2.2.2.1; omega)) HL.out.1 (by omega)).mono ?_)
            rintro e w7 ⟨rfl, h1, h2⟩
            have H7 : Aside0 (RoundS w w7 w.heap.size top gz gs pc _ _ l0 (10 * k + 1) ((p : Int) + f1).toNat s 0 u10 out wr.heap.size (wr.heap.size + 1) 0 f1 0 0 noT) := ⟨RoundS.step H6.out hEb h1 h2⟩
            replace HSB := Aside0.mk (show wr.heap.size + 1 < w7.heap.size from Nat.lt_of_lt_of_le HSB.out h2.2.2.1)
            clear h1 h2
            clear c1
            obtain ⟨z0, z1, z2, ⟨g0_, g1_, g2_⟩, zs⟩ := H7.out.cells
            clear zs
            have LM : Aside0 ((out.length + 1) * 32 ≤ 140737488355328) := ⟨by have := HQ.out.2.2.1; have := HL.out.2.1; omega⟩
            go_wp2_with (at_builtin; refine Kd.R_append k46 (w0 := w7) w.heap.size rfl (.tmp 101) (.tmp 103) 38 46 (.agg #[(.int .i64 0), (.int .i64 0), (.string ⟨#[]⟩)]) 32 rfl Tryd.underlying38 infoA rfl (by decide) (by omega) u10 out ⟨0, 0, noT⟩ [.int .i64 0, .int .i64 0, .string noT] (fun k => k ≠ wr.heap.size + 1) (fun _ => False) rfl (by first | rfl | (skip; rfl)) (k46_mkM _ _ _ ⟨0, 0, noT⟩) (fun _ h => h.elim) (fun k hk => show k ≠ wr.heap.size + 1 by have := HSB.out; omega) H7.out.1 (Below.refl _ _) H7.out.2.2.2.2.1 LM.out ?_; intro v6 w9 ho hb hg hat; have HR6 := Aside0.mk ho; have HG6 := Aside0.mk (RoundS.app H7.out hEb hg); clear ho hb hg hat)
            go_roundw
            case rel => exact ⟨k + 1, _, _, out ++ [⟨0, 0, noT⟩], rest2, congrArg (Value.int .i64) (wr1 hlt (Nat.lt_of_le_of_lt HL.out.2.1 (by decide))), ⟨hlt, HQ.out.1, by rw [HQ.out.2.1]; simp, by simp [HQ.out.2.2.1], HIN.out.1, HIN.out.2⟩, ⟨Kd.R_mono HR6.out (fun _ _ => trivial)⟩, ⟨HG6.out.1.mono (by omega) (Nat.le_refl _)⟩, ⟨HG6.out.2.1⟩, ⟨HG6.out.2.2.1⟩, ⟨HG6.out.2.2.2⟩⟩
            case measure => exact meas1 hlt (Nat.lt_of_le_of_lt HL.out.2.1 (by decide))
          · go_wp2_with fail
            generalize hW5 : World.alloc (World.alloc wr _) _ = w5
            have H5 : Aside0 (RoundS w w5 w.heap.size top gz gs pc _ _ l0 (10 * k) p s 0 u10 out wr.heap.size (wr.heap.size + 1) 0 f1 0 0 noT) := ⟨by subst hW5; exact RoundS.made HR.out HIT.out HBW.out HSZ.out HEO.out⟩
            have HSB := Aside0.mk (show wr.heap.size + 1 < w5.heap.size by subst hW5; simp)
            clear hW5
            (with_reducible refine (st_move w.heap.size top gz gs pc _ _ l0 (10 * k) p s 0 f1 w5 H5.out.st HCC.out.1 (.inr (by omega)) HL.out.1 (by have := HCC.out; have := HQ.out.2.2.2; have := HL.out.1; omega)).mono ?_)
            rintro e w7 ⟨rfl, h1, h2⟩
            have H7 : Aside0 (RoundS w w7 w.heap.size top gz gs pc _ _ l0 (10 * k) ((p : Int) + f1).toNat s 0 u10 out wr.heap.size (wr.heap.size + 1) 0 f1 0 0 noT) := ⟨RoundS.step H5.out hEb h1 h2⟩
            replace HSB := Aside0.mk (show wr.heap.size + 1 < w7.heap.size from Nat.lt_of_lt_of_le HSB.out h2.2.2.1)
            clear h1 h2
            obtain ⟨z0, z1, z2, ⟨g0_, g1_, g2_⟩, zs⟩ := H7.out.cells
            clear zs
            have LM : Aside0 ((out.length + 1) * 32 ≤ 140737488355328) := ⟨by have := HQ.out.2.2.1; have := HL.out.2.1; omega⟩
            go_wp2_with (at_builtin; refine Kd.R_append k46 (w0 := w7) w.heap.size rfl (.tmp 101) (.tmp 103) 38 46 (.agg #[(.int .i64 0), (.int .i64 0), (.string ⟨#[]⟩)]) 32 rfl Tryd.underlying38 infoA rfl (by decide) (by omega) u10 out ⟨0, 0, noT⟩ [.int .i64 0, .int .i64 0, .string noT] (fun k => k ≠ wr.heap.size + 1) (fun _ => False) rfl (by first | rfl | (skip; rfl)) (k46_mkM _ _ _ ⟨0, 0, noT⟩) (fun _ h => h.elim) (fun k hk => show k ≠ wr.heap.size + 1 by have := HSB.out; omega) H7.out.1 (Below.refl _ _) H7.out.2.2.2.2.1 LM.out ?_; intro v6 w9 ho hb hg hat; have HR6 := Aside0.mk ho; have HG6 := Aside0.mk (RoundS.app H7.out hEb hg); clear ho hb hg hat)
            go_roundw
            case rel => exact ⟨k + 1, _, _, out ++ [⟨0, 0, noT⟩], rest2, congrArg (Value.int .i64) (wr1 hlt (Nat.lt_of_le_of_lt HL.out.2.1 (by decide))), ⟨hlt, HQ.out.1, by rw [HQ.out.2.1]; simp, by simp [HQ.out.2.2.1], HIN.out.1, HIN.out.2⟩, ⟨Kd.R_mono HR6.out (fun _ _ => trivial)⟩, ⟨HG6.out.1.mono (by omega) (Nat.le_refl _)⟩, ⟨HG6.out.2.1⟩, ⟨HG6.out.2.2.1⟩, ⟨HG6.out.2.2.2⟩⟩
            case measure => exact meas1 hlt (Nat.lt_of_le_of_lt HL.out.2.1 (by decide))
      by_cases hk1 : f0 = 1
      · subst hk1
        as_aux_lemma =>
          have hc : 0 ≤ f1 ∧ (s : Int) + f1 ≤ p := by
            by_cases hq : 0 ≤ f1 ∧ (s : Int) + f1 ≤ p
            · exact hq
            · rw [stepL1, if_neg hq] at hstep; cases hstep
          rw [stepL1, if_pos hc] at hstep
          simp only [Option.some.injEq, Prod.mk.injEq] at hstep
          obtain ⟨rfl, rfl, rfl⟩ := hstep
          have HQ := Aside0.mk (And.intro hrun (And.intro q3 (And.intro q4 (And.intro q5 q6))))
          clear hrun q1 q3 q4 q5 q6
          have HCC := Aside0.mk hc
          clear hc
          clear hok
          go_wp2_with fail
          generalize hW5 : World.alloc (World.alloc wr _) _ = w5
          have H5 : Aside0 (RoundS w w5 w.heap.size top gz gs pc _ _ l0 (10 * k) p s 0 u10 out wr.heap.size (wr.heap.size + 1) 1 f1 0 0 noT) := ⟨by subst hW5; exact RoundS.made HR.out HIT.out HBW.out HSZ.out HEO.out⟩
          have HSB := Aside0.mk (show wr.heap.size + 1 < w5.heap.size by subst hW5; simp)
          clear hW5
          (with_reducible refine (st_rewind w.heap.size top gz gs pc _ _ l0 (10 * k) p s 0 f1 w5 H5.out.st HCC.out.1 HCC.out.2 HL.out.1).mono ?_)
          rintro e w7 ⟨rfl, h1, h2⟩
          have H7 : Aside0 (RoundS w w7 w.heap.size top gz gs pc _ _ l0 (10 * k) ((s : Int) + f1).toNat s 0 u10 out wr.heap.size (wr.heap.size + 1) 1 f1 0 0 noT) := ⟨RoundS.step H5.out hEb h1 h2⟩
          replace HSB := Aside0.mk (show wr.heap.size + 1 < w7.heap.size from Nat.lt_of_lt_of_le HSB.out h2.2.2.1)
          clear h1 h2
          obtain ⟨z0, z1, z2, ⟨g0_, g1_, g2_⟩, zs⟩ := H7.out.cells
          clear zs
          have LM : Aside0 ((out.length + 1) * 32 ≤ 140737488355328) := ⟨by have := HQ.out.2.2.1; have := HL.out.2.1; omega⟩
          go_wp2_with (at_builtin; refine Kd.R_append k46 (w0 := w7) w.heap.size rfl (.tmp 101) (.tmp 103) 38 46 (.agg #[(.int .i64 0), (.int .i64 0), (.string ⟨#[]⟩)]) 32 rfl Tryd.underlying38 infoA rfl (by decide) (by omega) u10 out ⟨0, 0, noT⟩ [.int .i64 0, .int .i64 0, .string noT] (fun k => k ≠ wr.heap.size + 1) (fun _ => False) rfl (by first | rfl | (skip; rfl)) (k46_mkM _ _ _ ⟨0, 0, noT⟩) (fun _ h => h.elim) (fun k hk => show k ≠ wr.heap.size + 1 by have := HSB.out; omega) H7.out.1 (Below.refl _ _) H7.out.2.2.2.2.1 LM.out ?_; intro v6 w9 ho hb hg hat; have HR6 := Aside0.mk ho; have HG6 := Aside0.mk (RoundS.app H7.out hEb hg); clear ho hb hg hat)
          go_roundw
          case rel => exact ⟨k + 1, _, _, out ++ [⟨0, 0, noT⟩], rest2, congrArg (Value.int .i64) (wr1 hlt (Nat.lt_of_le_of_lt HL.out.2.1 (by decide))), ⟨hlt, HQ.out.1, by rw [HQ.out.2.1]; simp, by simp [HQ.out.2.2.1], HIN.out.1, HIN.out.2⟩, ⟨Kd.R_mono HR6.out (fun _ _ => trivial)⟩, ⟨HG6.out.1.mono (by omega) (Nat.le_refl _)⟩, ⟨HG6.out.2.1⟩, ⟨HG6.out.2.2.1⟩, ⟨HG6.out.2.2.2⟩⟩
          case measure => exact meas1 hlt (Nat.lt_of_le_of_lt HL.out.2.1 (by decide))
      by_cases hk2 : f0 = 2
      · subst hk2
        as_aux_lemma =>
          rw [stepL2] at hstep
          simp only [Option.some.injEq, Prod.mk.injEq] at hstep
          obtain ⟨rfl, rfl, rfl⟩ := hstep
          have HQ := Aside0.mk (And.intro hrun (And.intro q3 (And.intro q4 (And.intro q5 q6))))
          clear hrun q1 q3 q4 q5 q6
          clear hok
          go_wp2_with fail
          generalize hW5 : World.alloc (World.alloc wr _) _ = w5
          have H5 : Aside0 (RoundS w w5 w.heap.size top gz gs pc _ _ l0 (10 * k) p s 0 u10 out wr.heap.size (wr.heap.size + 1) 2 f1 0 0 noT) := ⟨by subst hW5; exact RoundS.made HR.out HIT.out HBW.out HSZ.out HEO.out⟩
          have HSB := Aside0.mk (show wr.heap.size + 1 < w5.heap.size by subst hW5; simp)
          clear hW5
          (with_reducible refine (st_shift w.heap.size top gz gs pc _ _ l0 (10 * k) p s 0 w5 H5.out.st HL.out.1).mono ?_)
          rintro e w6 ⟨A, c, rfl, hrd, h1, h2⟩
          have H6 : Aside0 (RoundS w w6 w.heap.size top gz gs pc _ _ l0 (10 * k) p p 0 u10 out wr.heap.size (wr.heap.size + 1) 2 f1 0 0 noT) := ⟨RoundS.step H5.out hEb h1 h2⟩
          replace HSB := Aside0.mk (show wr.heap.size + 1 < w6.heap.size from Nat.lt_of_lt_of_le HSB.out h2.2.2.1)
          clear h1 h2
          have hconv : (convert 22 9 (.slice A (p - s) c)).run Tryd.prog w6 = .ok (.string (selT l0 p s)) w6 := string_of_reads Tryd.underlying22 Tryd.underlying5 Tryd.underlying9 hrd
          clear hrd
          generalize selT l0 p s = txt at hconv HQ
          obtain ⟨z0, z1, z2, ⟨g0_, g1_, g2_⟩, zs⟩ := H6.out.cells
          clear zs
          have H60 := Aside0.mk (RoundS.put H6.out hEb 2 (.string txt) (m0 := 0) (m1 := 0) (t' := txt) rfl)
          generalize hw60 : World.setCell _ _ _ = w60 at H60
          have HW60 := Aside0.mk hw60
          replace HSB := Aside0.mk (show wr.heap.size + 1 < w60.heap.size by rw [← hw60, sc_size]; exact HSB.out)
          clear hw60
          go_wp2_with fail
          rw [HW60.out]
          clear z0 z1 z2 g0_ g1_ g2_ hconv
          (with_reducible refine (st_shiftlen w.heap.size top gz gs pc _ _ l0 (10 * k) p p 0 w60 H60.out.st).mono ?_)
          rintro e w7 ⟨x, rfl, h1, h2⟩
          have H7 : Aside0 (RoundS w w7 w.heap.size top gz gs pc _ _ l0 (10 * k) p p 0 u10 out wr.heap.size (wr.heap.size + 1) 2 f1 0 0 txt) := ⟨RoundS.step H60.out hEb h1 h2⟩
          replace HSB := Aside0.mk (show wr.heap.size + 1 < w7.heap.size from Nat.lt_of_lt_of_le HSB.out h2.2.2.1)
          clear h1 h2
          go_wp2_with fail
          (with_reducible refine (st_free w.heap.size top gz gs pc _ _ l0 (10 * k) p p 0 x w7 H7.out.st).mono ?_)
          rintro e w8 ⟨rfl, h1, h2⟩
          have H8 : Aside0 (RoundS w w8 w.heap.size top gz gs pc _ _ l0 (10 * k) p p 0 u10 out wr.heap.size (wr.heap.size + 1) 2 f1 0 0 txt) := ⟨RoundS.step H7.out hEb h1 h2⟩
          replace HSB := Aside0.mk (show wr.heap.size + 1 < w8.heap.size from Nat.lt_of_lt_of_le HSB.out h2.2.2.1)
          clear h1 h2
          obtain ⟨z0, z1, z2, ⟨g0_, g1_, g2_⟩, zs⟩ := H8.out.cells
          clear zs
          have LM : Aside0 ((out.length + 1) * 32 ≤ 140737488355328) := ⟨by have := HQ.out.2.2.1; have := HL.out.2.1; omega⟩
          go_wp2_with (at_builtin; refine Kd.R_append k46 (w0 := w8) w.heap.size rfl (.tmp 101) (.tmp 103) 38 46 (.agg #[(.int .i64 0), (.int .i64 0), (.string ⟨#[]⟩)]) 32 rfl Tryd.underlying38 infoA rfl (by decide) (by omega) u10 out ⟨0, 0, txt⟩ [.int .i64 0, .int .i64 0, .string txt] (fun k => k ≠ wr.heap.size + 1) (fun _ => False) rfl (by first | rfl | (skip; rfl)) (k46_mkM _ _ _ ⟨0, 0, txt⟩) (fun _ h => h.elim) (fun k hk => show k ≠ wr.heap.size + 1 by have := HSB.out; omega) H8.out.1 (Below.refl _ _) H8.out.2.2.2.2.1 LM.out ?_; intro v6 w9 ho hb hg hat; have HR6 := Aside0.mk ho; have HG6 := Aside0.mk (RoundS.app H8.out hEb hg); clear ho hb hg hat)
          go_roundw
          case rel => exact ⟨k + 1, _, _, out ++ [⟨0, 0, txt⟩], rest2, congrArg (Value.int .i64) (wr1 hlt (Nat.lt_of_le_of_lt HL.out.2.1 (by decide))), ⟨hlt, HQ.out.1, by rw [HQ.out.2.1]; simp, by simp [HQ.out.2.2.1], HIN.out.1, HIN.out.2⟩, ⟨Kd.R_mono HR6.out (fun _ _ => trivial)⟩, ⟨HG6.out.1.mono (by omega) (Nat.le_refl _)⟩, ⟨HG6.out.2.1⟩, ⟨HG6.out.2.2.1⟩, ⟨HG6.out.2.2.2⟩⟩
          case measure => exact meas1 hlt (Nat.lt_of_le_of_lt HL.out.2.1 (by decide))
      by_cases hk3 : f0 = 3
      · subst hk3
        as_aux_lemma =>
          rw [stepL3] at hstep
          simp only [Option.some.injEq, Prod.mk.injEq] at hstep
          obtain ⟨rfl, rfl, rfl⟩ := hstep
          have HQ := Aside0.mk (And.intro hrun (And.intro q3 (And.intro q4 (And.intro q5 q6))))
          clear hrun q1 q3 q4 q5 q6
          clear hok
          go_wp2_with fail
          generalize hW5 : World.alloc (World.alloc wr _) _ = w5
          have H5 : Aside0 (RoundS w w5 w.heap.size top gz gs pc _ _ l0 (10 * k) p s 0 u10 out wr.heap.size (wr.heap.size + 1) 3 f1 0 0 noT) := ⟨by subst hW5; exact RoundS.made HR.out HIT.out HBW.out HSZ.out HEO.out⟩
          have HSB := Aside0.mk (show wr.heap.size + 1 < w5.heap.size by subst hW5; simp)
          clear hW5
          (with_reducible refine (st_skip w.heap.size top gz gs pc _ _ l0 (10 * k) p s 0 w5 H5.out.st).mono ?_)
          rintro e w7 ⟨rfl, h1, h2⟩
          have H7 : Aside0 (RoundS w w7 w.heap.size top gz gs pc _ _ l0 (10 * k) p p 0 u10 out wr.heap.size (wr.heap.size + 1) 3 f1 0 0 noT) := ⟨RoundS.step H5.out hEb h1 h2⟩
          replace HSB := Aside0.mk (show wr.heap.size + 1 < w7.heap.size from Nat.lt_of_lt_of_le HSB.out h2.2.2.1)
          clear h1 h2
          obtain ⟨z0, z1, z2, ⟨g0_, g1_, g2_⟩, zs⟩ := H7.out.cells
          clear zs
          have LM : Aside0 ((out.length + 1) * 32 ≤ 140737488355328) := ⟨by have := HQ.out.2.2.1; have := HL.out.2.1; omega⟩
          go_wp2_with (at_builtin; refine Kd.R_append k46 (w0 := w7) w.heap.size rfl (.tmp 101) (.tmp 103) 38 46 (.agg #[(.int .i64 0), (.int .i64 0), (.string ⟨#[]⟩)]) 32 rfl Tryd.underlying38 infoA rfl (by decide) (by omega) u10 out ⟨0, 0, noT⟩ [.int .i64 0, .int .i64 0, .string noT] (fun k => k ≠ wr.heap.size + 1) (fun _ => False) rfl (by first | rfl | (skip; rfl)) (k46_mkM _ _ _ ⟨0, 0, noT⟩) (fun _ h => h.elim) (fun k hk => show k ≠ wr.heap.size + 1 by have := HSB.out; omega) H7.out.1 (Below.refl _ _) H7.out.2.2.2.2.1 LM.out ?_; intro v6 w9 ho hb hg hat; have HR6 := Aside0.mk ho; have HG6 := Aside0.mk (RoundS.app H7.out hEb hg); clear ho hb hg hat)
          go_roundw
          case rel => exact ⟨k + 1, _, _, out ++ [⟨0, 0, noT⟩], rest2, congrArg (Value.int .i64) (wr1 hlt (Nat.lt_of_le_of_lt HL.out.2.1 (by decide))), ⟨hlt, HQ.out.1, by rw [HQ.out.2.1]; simp, by simp [HQ.out.2.2.1], HIN.out.1, HIN.out.2⟩, ⟨Kd.R_mono HR6.out (fun _ _ => trivial)⟩, ⟨HG6.out.1.mono (by omega) (Nat.le_refl _)⟩, ⟨HG6.out.2.1⟩, ⟨HG6.out.2.2.1⟩, ⟨HG6.out.2.2.2⟩⟩
          case measure => exact meas1 hlt (Nat.lt_of_le_of_lt HL.out.2.1 (by decide))
      by_cases hk4 : f0 = 4
      · subst hk4
        as_aux_lemma =>
          have hc : 0 ≤ (p : Int) + f1 ∧ (p : Int) + f1 ≤ l0.length := by
            by_cases hq : 0 ≤ (p : Int) + f1 ∧ (p : Int) + f1 ≤ l0.length
            · exact hq
            · rw [stepL4, if_neg hq] at hstep; cases hstep
          rw [stepL4, if_pos hc] at hstep
          simp only [Option.some.injEq, Prod.mk.injEq] at hstep
          obtain ⟨rfl, rfl, rfl⟩ := hstep
          have HQ := Aside0.mk (And.intro hrun (And.intro q3 (And.intro q4 (And.intro q5 q6))))
          clear hrun q1 q3 q4 q5 q6
          have HCC := Aside0.mk hc
          clear hc
          have HOK := Aside0.mk (show (s : Int) ≤ p + f1 from hok.1 (by simp))
          clear hok
          go_wp2_with fail
          generalize hW5 : World.alloc (World.alloc wr _) _ = w5
          have H5 : Aside0 (RoundS w w5 w.heap.size top gz gs pc _ _ l0 (10 * k) p s 0 u10 out wr.heap.size (wr.heap.size + 1) 4 f1 0 0 noT) := ⟨by subst hW5; exact RoundS.made HR.out HIT.out HBW.out HSZ.out HEO.out⟩
          have HSB := Aside0.mk (show wr.heap.size + 1 < w5.heap.size by subst hW5; simp)
          clear hW5
          (with_reducible refine (st_peek w.heap.size top gz gs pc _ _ l0 (10 * k) p s 0 f1 ((p : Int) + f1).toNat w5 H5.out.st (by have := HCC.out; omega) (by have := HOK.out; omega) (by have := HCC.out; omega) HL.out.1 (by have := HQ.out.2.2.1; have := HL.out.2.1; omega) hpc.1 hpc.2 hEb H5.out.eo).mono ?_)
          rintro e w6 ⟨rfl, h1, h2⟩
          have H6 : Aside0 (RoundS w w6 w.heap.size top gz gs pc _ _ l0 (10 * k + 1) p s _ u10 out wr.heap.size (wr.heap.size + 1) 4 f1 0 0 noT) := ⟨RoundS.step H5.out hEb h1 h2⟩
          replace HSB := Aside0.mk (show wr.heap.size + 1 < w6.heap.size from Nat.lt_of_lt_of_le HSB.out h2.2.2.1)
          clear h1 h2
          have hvb := atL_byte HL.out.2.2 ((p : Int) + f1).toNat
          generalize atL l0 ((p : Int) + f1).toNat = v at HQ hvb ⊢
          obtain ⟨z0, z1, z2, ⟨g0_, g1_, g2_⟩, zs⟩ := H6.out.cells
          clear zs
          have H60 := Aside0.mk (RoundS.put H6.out hEb 0 (.int .i64 v) (m0 := v) (m1 := 0) (t' := noT) rfl)
          generalize hw60 : World.setCell _ _ _ = w60 at H60
          have HW60 := Aside0.mk hw60
          replace HSB := Aside0.mk (show wr.heap.size + 1 < w60.heap.size by rw [← hw60, sc_size]; exact HSB.out)
          clear hw60
          have LM : Aside0 ((out.length + 1) * 32 ≤ 140737488355328) := ⟨by have := HQ.out.2.2.1; have := HL.out.2.1; omega⟩
          go_wp2_with (at_builtin; rw [HW60.out]; refine Kd.R_append k46 (w0 := w60) w.heap.size rfl (.tmp 101) (.tmp 103) 38 46 (.agg #[(.int .i64 0), (.int .i64 0), (.string ⟨#[]⟩)]) 32 rfl Tryd.underlying38 infoA rfl (by decide) (by omega) u10 out ⟨v, 0, noT⟩ [.int .i64 v, .int .i64 0, .string noT] (fun k => k ≠ wr.heap.size + 1) (fun _ => False) rfl (by first | rfl | (rw [← HW60.out, sc_size]; rfl)) (k46_mkM _ _ _ ⟨v, 0, noT⟩) (fun _ h => h.elim) (fun k hk => show k ≠ wr.heap.size + 1 by have := HSB.out; omega) H60.out.1 (Below.refl _ _) H60.out.2.2.2.2.1 LM.out ?_; intro v6 w9 ho hb hg hat; have HR6 := Aside0.mk ho; have HG6 := Aside0.mk (RoundS.app H60.out hEb hg); clear ho hb hg hat)
          go_roundw
          case rel => exact ⟨k + 1, _, _, out ++ [⟨v, 0, noT⟩], rest2, congrArg (Value.int .i64) (wr1 hlt (Nat.lt_of_le_of_lt HL.out.2.1 (by decide))), ⟨hlt, HQ.out.1, by rw [HQ.out.2.1]; simp, by simp [HQ.out.2.2.1], HIN.out.1, HIN.out.2⟩, ⟨Kd.R_mono HR6.out (fun _ _ => trivial)⟩, ⟨HG6.out.1.mono (by omega) (Nat.le_refl _)⟩, ⟨HG6.out.2.1⟩, ⟨HG6.out.2.2.1⟩, ⟨HG6.out.2.2.2⟩⟩
          case measure => exact meas1 hlt (Nat.lt_of_le_of_lt HL.out.2.1 (by decide))
      by_cases hk6 : f0 = 6
      · subst hk6
        as_aux_lemma =>
          rw [stepL6] at hstep
          simp only [Option.some.injEq, Prod.mk.injEq] at hstep
          obtain ⟨rfl, rfl, rfl⟩ := hstep
          have HQ := Aside0.mk (And.intro hrun (And.intro q3 (And.intro q4 (And.intro q5 q6))))
          clear hrun q1 q3 q4 q5 q6
          clear hok
          go_wp2_with fail
          generalize hW5 : World.alloc (World.alloc wr _) _ = w5
          have H5 : Aside0 (RoundS w w5 w.heap.size top gz gs pc _ _ l0 (10 * k) p s 0 u10 out wr.heap.size (wr.heap.size + 1) 6 f1 0 0 noT) := ⟨by subst hW5; exact RoundS.made HR.out HIT.out HBW.out HSZ.out HEO.out⟩
          have HSB := Aside0.mk (show wr.heap.size + 1 < w5.heap.size by subst hW5; simp)
          clear hW5
          (with_reducible refine (st_lexeme w.heap.size top gz gs pc _ _ l0 (10 * k) p s 0 w5 H5.out.st HL.out.1).mono ?_)
          rintro e w6 ⟨A, c, rfl, hrd, h1, h2⟩
          have H6 : Aside0 (RoundS w w6 w.heap.size top gz gs pc _ _ l0 (10 * k) p s 0 u10 out wr.heap.size (wr.heap.size + 1) 6 f1 0 0 noT) := ⟨RoundS.step H5.out hEb h1 h2⟩
          replace HSB := Aside0.mk (show wr.heap.size + 1 < w6.heap.size from Nat.lt_of_lt_of_le HSB.out h2.2.2.1)
          clear h1 h2
          have hconv : (convert 22 9 (.slice A (p - s) c)).run Tryd.prog w6 = .ok (.string (selT l0 p s)) w6 := string_of_reads Tryd.underlying22 Tryd.underlying5 Tryd.underlying9 hrd
          clear hrd
          generalize selT l0 p s = txt at hconv HQ
          obtain ⟨z0, z1, z2, ⟨g0_, g1_, g2_⟩, zs⟩ := H6.out.cells
          clear zs
          have H60 := Aside0.mk (RoundS.put H6.out hEb 2 (.string txt) (m0 := 0) (m1 := 0) (t' := txt) rfl)
          generalize hw60 : World.setCell _ _ _ = w60 at H60
          have HW60 := Aside0.mk hw60
          replace HSB := Aside0.mk (show wr.heap.size + 1 < w60.heap.size by rw [← hw60, sc_size]; exact HSB.out)
          clear hw60
          have LM : Aside0 ((out.length + 1) * 32 ≤ 140737488355328) := ⟨by have := HQ.out.2.2.1; have := HL.out.2.1; omega⟩
          go_wp2_with (at_builtin; rw [HW60.out]; refine Kd.R_append k46 (w0 := w60) w.heap.size rfl (.tmp 101) (.tmp 103) 38 46 (.agg #[(.int .i64 0), (.int .i64 0), (.string ⟨#[]⟩)]) 32 rfl Tryd.underlying38 infoA rfl (by decide) (by omega) u10 out ⟨0, 0, txt⟩ [.int .i64 0, .int .i64 0, .string txt] (fun k => k ≠ wr.heap.size + 1) (fun _ => False) rfl (by first | rfl | (rw [← HW60.out, sc_size]; rfl)) (k46_mkM _ _ _ ⟨0, 0, txt⟩) (fun _ h => h.elim) (fun k hk => show k ≠ wr.heap.size + 1 by have := HSB.out; omega) H60.out.1 (Below.refl _ _) H60.out.2.2.2.2.1 LM.out ?_; intro v6 w9 ho hb hg hat; have HR6 := Aside0.mk ho; have HG6 := Aside0.mk (RoundS.app H60.out hEb hg); clear ho hb hg hat)
          go_roundw
          case rel => exact ⟨k + 1, _, _, out ++ [⟨0, 0, txt⟩], rest2, congrArg (Value.int .i64) (wr1 hlt (Nat.lt_of_le_of_lt HL.out.2.1 (by decide))), ⟨hlt, HQ.out.1, by rw [HQ.out.2.1]; simp, by simp [HQ.out.2.2.1], HIN.out.1, HIN.out.2⟩, ⟨Kd.R_mono HR6.out (fun _ _ => trivial)⟩, ⟨HG6.out.1.mono (by omega) (Nat.le_refl _)⟩, ⟨HG6.out.2.1⟩, ⟨HG6.out.2.2.1⟩, ⟨HG6.out.2.2.2⟩⟩
          case measure => exact meas1 hlt (Nat.lt_of_le_of_lt HL.out.2.1 (by decide))
      by_cases hk7 : f0 = 7
      · subst hk7
        as_aux_lemma =>
          rw [stepL7] at hstep
          simp only [Option.some.injEq, Prod.mk.injEq] at hstep
          obtain ⟨rfl, rfl, rfl⟩ := hstep
          have HQ := Aside0.mk (And.intro hrun (And.intro q3 (And.intro q4 (And.intro q5 q6))))
          clear hrun q1 q3 q4 q5 q6
          clear hok
          go_wp2_with fail
          generalize hW5 : World.alloc (World.alloc wr _) _ = w5
          have H5 : Aside0 (RoundS w w5 w.heap.size top gz gs pc _ _ l0 (10 * k) p s 0 u10 out wr.heap.size (wr.heap.size + 1) 7 f1 0 0 noT) := ⟨by subst hW5; exact RoundS.made HR.out HIT.out HBW.out HSZ.out HEO.out⟩
          have HSB := Aside0.mk (show wr.heap.size + 1 < w5.heap.size by subst hW5; simp)
          clear hW5
          (with_reducible refine (st_pos w.heap.size top gz gs pc _ _ l0 (10 * k) p s 0 w5 H5.out.st HL.out.1).mono ?_)
          rintro e w6 ⟨rfl, h1, h2⟩
          have H6 : Aside0 (RoundS w w6 w.heap.size top gz gs pc _ _ l0 (10 * k) p s 0 u10 out wr.heap.size (wr.heap.size + 1) 7 f1 0 0 noT) := ⟨RoundS.step H5.out hEb h1 h2⟩
          replace HSB := Aside0.mk (show wr.heap.size + 1 < w6.heap.size from Nat.lt_of_lt_of_le HSB.out h2.2.2.1)
          clear h1 h2
          generalize (p : Int) - s = v at HQ ⊢
          obtain ⟨z0, z1, z2, ⟨g0_, g1_, g2_⟩, zs⟩ := H6.out.cells
          clear zs
          have H60 := Aside0.mk (RoundS.put H6.out hEb 0 (.int .i64 v) (m0 := v) (m1 := 0) (t' := noT) rfl)
          generalize hw60 : World.setCell _ _ _ = w60 at H60
          have HW60 := Aside0.mk hw60
          replace HSB := Aside0.mk (show wr.heap.size + 1 < w60.heap.size by rw [← hw60, sc_size]; exact HSB.out)
          clear hw60
          have LM : Aside0 ((out.length + 1) * 32 ≤ 140737488355328) := ⟨by have := HQ.out.2.2.1; have := HL.out.2.1; omega⟩
          go_wp2_with (at_builtin; rw [HW60.out]; refine Kd.R_append k46 (w0 := w60) w.heap.size rfl (.tmp 101) (.tmp 103) 38 46 (.agg #[(.int .i64 0), (.int .i64 0), (.string ⟨#[]⟩)]) 32 rfl Tryd.underlying38 infoA rfl (by decide) (by omega) u10 out ⟨v, 0, noT⟩ [.int .i64 v, .int .i64 0, .string noT] (fun k => k ≠ wr.heap.size + 1) (fun _ => False) rfl (by first | rfl | (rw [← HW60.out, sc_size]; rfl)) (k46_mkM _ _ _ ⟨v, 0, noT⟩) (fun _ h => h.elim) (fun k hk => show k ≠ wr.heap.size + 1 by have := HSB.out; omega) H60.out.1 (Below.refl _ _) H60.out.2.2.2.2.1 LM.out ?_; intro v6 w9 ho hb hg hat; have HR6 := Aside0.mk ho; have HG6 := Aside0.mk (RoundS.app H60.out hEb hg); clear ho hb hg hat)
          go_roundw
          case rel => exact ⟨k + 1, _, _, out ++ [⟨v, 0, noT⟩], rest2, congrArg (Value.int .i64) (wr1 hlt (Nat.lt_of_le_of_lt HL.out.2.1 (by decide))), ⟨hlt, HQ.out.1, by rw [HQ.out.2.1]; simp, by simp [HQ.out.2.2.1], HIN.out.1, HIN.out.2⟩, ⟨Kd.R_mono HR6.out (fun _ _ => trivial)⟩, ⟨HG6.out.1.mono (by omega) (Nat.le_refl _)⟩, ⟨HG6.out.2.1⟩, ⟨HG6.out.2.2.1⟩, ⟨HG6.out.2.2.2⟩⟩
          case measure => exact meas1 hlt (Nat.lt_of_le_of_lt HL.out.2.1 (by decide))
      by_cases hk9 : f0 = 9
      · subst hk9
        as_aux_lemma =>
          have hc : 0 ≤ (p : Int) + f1 ∧ (p : Int) + f1 ≤ l0.length := by
            by_cases hq : 0 ≤ (p : Int) + f1 ∧ (p : Int) + f1 ≤ l0.length
            · exact hq
            · rw [stepL9, if_neg hq] at hstep; cases hstep
          rw [stepL9, if_pos hc] at hstep
          obtain ⟨rr, hrr, hstep⟩ := Option.map_eq_some_iff.1 hstep
          simp only [Prod.mk.injEq] at hstep
          obtain ⟨rfl, rfl, rfl⟩ := hstep
          obtain ⟨r0, r1⟩ := rr
          simp only at *
          have HQ := Aside0.mk (And.intro hrun (And.intro q3 (And.intro q4 (And.intro q5 q6))))
          clear hrun q1 q3 q4 q5 q6
          have HCC := Aside0.mk hc
          clear hc
          have HOK := Aside0.mk (show (s : Int) ≤ p + f1 from hok.1 (by simp))
          clear hok
          have HRR := Aside0.mk hrr
          clear hrr
          go_wp2_with fail
          generalize hW5 : World.alloc (World.alloc wr _) _ = w5
          have H5 : Aside0 (RoundS w w5 w.heap.size top gz gs pc _ _ l0 (10 * k) p s 0 u10 out wr.heap.size (wr.heap.size + 1) 9 f1 0 0 noT) := ⟨by subst hW5; exact RoundS.made HR.out HIT.out HBW.out HSZ.out HEO.out⟩
          have HSB := Aside0.mk (show wr.heap.size + 1 < w5.heap.size by subst hW5; simp)
          clear hW5
          (with_reducible refine (st_rune w.heap.size top gz gs pc _ _ l0 (10 * k) p s 0 f1 ((p : Int) + f1).toNat (r0, r1) w5 H5.out.st (by have := HCC.out; omega) (by have := HOK.out; omega) (by have := HCC.out; omega) HL.out.1 hpc.1 hpc.2 hEb (by have := HQ.out.2.2.1; have := HL.out.2.1; omega) H5.out.eo HRR.out HL.out.2.2).mono ?_)
          rintro e w6 ⟨rfl, h1, h2⟩
          have H6 : Aside0 (RoundS w w6 w.heap.size top gz gs pc _ _ l0 (10 * k + 4) p s _ u10 out wr.heap.size (wr.heap.size + 1) 9 f1 0 0 noT) := ⟨RoundS.step H5.out hEb h1 h2⟩
          replace HSB := Aside0.mk (show wr.heap.size + 1 < w6.heap.size from Nat.lt_of_lt_of_le HSB.out h2.2.2.1)
          clear h1 h2
          have hrb := rune_boundS HRR.out HL.out.2.2
          obtain ⟨z0, z1, z2, ⟨g0_, g1_, g2_⟩, zs⟩ := H6.out.cells
          clear zs
          have H60 := Aside0.mk (RoundS.put H6.out hEb 0 (.int .i64 r0) (m0 := r0) (m1 := 0) (t' := noT) rfl)
          generalize hw60 : World.setCell _ _ _ = w60 at H60
          have HW60 := Aside0.mk hw60
          replace HSB := Aside0.mk (show wr.heap.size + 1 < w60.heap.size by rw [← hw60, sc_size]; exact HSB.out)
          clear hw60
          have H61 := Aside0.mk (RoundS.put H60.out hEb 1 (.int .i64 r1) (m0 := r0) (m1 := r1) (t' := noT) rfl)
          generalize hw61 : World.setCell _ _ _ = w61 at H61
          have HW61 := Aside0.mk hw61
          replace HSB := Aside0.mk (show wr.heap.size + 1 < w61.heap.size by rw [← hw61, sc_size]; exact HSB.out)
          clear hw61
          have LM : Aside0 ((out.length + 1) * 32 ≤ 140737488355328) := ⟨by have := HQ.out.2.2.1; have := HL.out.2.1; omega⟩
          go_wp2_with (at_builtin; rw [HW60.out, HW61.out]; refine Kd.R_append k46 (w0 := w61) w.heap.size rfl (.tmp 101) (.tmp 103) 38 46 (.agg #[(.int .i64 0), (.int .i64 0), (.string ⟨#[]⟩)]) 32 rfl Tryd.underlying38 infoA rfl (by decide) (by omega) u10 out ⟨r0, r1, noT⟩ [.int .i64 r0, .int .i64 r1, .string noT] (fun k => k ≠ wr.heap.size + 1) (fun _ => False) rfl (by first | rfl | (rw [← HW61.out, sc_size]; rw [← HW60.out, sc_size]; rfl)) (k46_mkM _ _ _ ⟨r0, r1, noT⟩) (fun _ h => h.elim) (fun k hk => show k ≠ wr.heap.size + 1 by have := HSB.out; omega) H61.out.1 (Below.refl _ _) H61.out.2.2.2.2.1 LM.out ?_; intro v6 w9 ho hb hg hat; have HR6 := Aside0.mk ho; have HG6 := Aside0.mk (RoundS.app H61.out hEb hg); clear ho hb hg hat)
          go_roundw
          case rel => exact ⟨k + 1, _, _, out ++ [⟨r0, r1, noT⟩], rest2, congrArg (Value.int .i64) (wr1 hlt (Nat.lt_of_le_of_lt HL.out.2.1 (by decide))), ⟨hlt, HQ.out.1, by rw [HQ.out.2.1]; simp, by simp [HQ.out.2.2.1], HIN.out.1, HIN.out.2⟩, ⟨Kd.R_mono HR6.out (fun _ _ => trivial)⟩, ⟨HG6.out.1.mono (by omega) (Nat.le_refl _)⟩, ⟨HG6.out.2.1⟩, ⟨HG6.out.2.2.1⟩, ⟨HG6.out.2.2.2⟩⟩
          case measure => exact meas1 hlt (Nat.lt_of_le_of_lt HL.out.2.1 (by decide))
      as_aux_lemma =>
        have hstepo : stepL l0 ⟨f0, f1⟩ p s = some (p, s, ⟨0, 0, noT⟩) := by unfold stepL; simp only; rw [if_neg hk0]; rw [if_neg hk1]; rw [if_neg hk2]; rw [if_neg hk3]; rw [if_neg hk4]; rw [if_neg hok.2.1]; rw [if_neg hk6]; rw [if_neg hk7]; rw [if_neg hok.2.2.1]; rw [if_neg hk9]; rw [if_neg hok.2.2.2.2]
        rw [hstepo] at hstep
        clear hstepo
        simp only [Option.some.injEq, Prod.mk.injEq] at hstep
        obtain ⟨rfl, rfl, rfl⟩ := hstep
        have HQ := Aside0.mk (And.intro hrun (And.intro q3 (And.intro q4 (And.intro q5 q6))))
        clear hrun q1 q3 q4 q5 q6 hok
        have hb0 : (f0 == 0) = false := by simpa using hk0
        have hb1 : (f0 == 1) = false := by simpa using hk1
        have hb2 : (f0 == 2) = false := by simpa using hk2
        have hb3 : (f0 == 3) = false := by simpa using hk3
        have hb4 : (f0 == 4) = false := by simpa using hk4
        have hb6 : (f0 == 6) = false := by simpa using hk6
        have hb7 : (f0 == 7) = false := by simpa using hk7
        have hb9 : (f0 == 9) = false := by simpa using hk9
        have LM : Aside0 ((out.length + 1) * 32 ≤ 140737488355328) := ⟨by have := HQ.out.2.2.1; have := HL.out.2.1; omega⟩
        go_wp2_with (at_builtin; generalize hW5 : World.alloc (World.alloc wr _) _ = w5; have H5 : Aside0 (RoundS w w5 w.heap.size top gz gs pc _ _ l0 (10 * k) p s 0 u10 out wr.heap.size (wr.heap.size + 1) f0 f1 0 0 noT) := ⟨by subst hW5; exact RoundS.made HR.out HIT.out HBW.out HSZ.out HEO.out⟩; have HSB := Aside0.mk (show wr.heap.size + 1 < w5.heap.size by subst hW5; simp); refine Kd.R_append k46 (w0 := w5) w.heap.size rfl (.tmp 101) (.tmp 103) 38 46 (.agg #[(.int .i64 0), (.int .i64 0), (.string ⟨#[]⟩)]) 32 rfl Tryd.underlying38 infoA rfl (by decide) (by omega) u10 out ⟨0, 0, noT⟩ [.int .i64 0, .int .i64 0, .string noT] (fun k => k ≠ wr.heap.size + 1) (fun _ => False) rfl (by rw [show w5.heap.size = wr.heap.size + 1 + 1 by rw [← hW5]; simp]; rfl) (k46_mkM _ _ _ ⟨0, 0, noT⟩) (fun _ h => h.elim) (fun k hk => show k ≠ wr.heap.size + 1 by have := HSB.out; omega) H5.out.1 (Below.refl _ _) H5.out.2.2.2.2.1 LM.out ?_; intro v6 w9 ho hb hg hat; have HR6 := Aside0.mk ho; have HG6 := Aside0.mk (RoundS.app H5.out hEb hg); clear ho hb hg hat hW5)
        go_roundw
        case rel => exact ⟨k + 1, _, _, out ++ [⟨0, 0, noT⟩], rest2, congrArg (Value.int .i64) (wr1 hlt (Nat.lt_of_le_of_lt HL.out.2.1 (by decide))), ⟨hlt, HQ.out.1, by rw [HQ.out.2.1]; simp, by simp [HQ.out.2.2.1], HIN.out.1, HIN.out.2⟩, ⟨Kd.R_mono HR6.out (fun _ _ => trivial)⟩, ⟨HG6.out.1.mono (by omega) (Nat.le_refl _)⟩, ⟨HG6.out.2.1⟩, ⟨HG6.out.2.2.1⟩, ⟨HG6.out.2.2.2⟩⟩
        case measure => exact meas1 hlt (Nat.lt_of_le_of_lt HL.out.2.1 (by decide))
    · obtain ⟨q1, q2, q3, q4, q5, q6⟩ := HH.out
      obtain rfl : k = l1.length := by omega
      rw [List.drop_length] at q2
      obtain rfl : [] = rest := Option.some.inj q2
      obtain rfl : r = out := by simpa using q3
      clear q2 q3 q4 q5 q6 HH
      go_wp2
      go_ret
      exact ⟨_, rfl, HR.out, HBW.out⟩
end Go.Proofs.YtgpmmmlmaaiobaaDoor.Own
