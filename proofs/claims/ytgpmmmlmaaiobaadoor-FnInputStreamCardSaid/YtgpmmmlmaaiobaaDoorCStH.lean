/- The reader fetches bytes: its walk. -/
import Derived.Test.YtgpmmmlmaaiobaaDoorCStG
import Derived.Deep.DeepCutAuto
import Derived.Deep.LoopGhost
namespace Go.Proofs.YtgpmmmlmaaiobaaDoor.Own
open Go.RowKit Go.Proofs.YtgpmmmlmaaiobaaDoorW.PrintWords Go.Proofs.YtgpmmmlmaaiobaaDoorW.PrintLast
set_option linter.unusedVariables false
set_option linter.unusedSimpArgs false
set_option maxRecDepth 20000 in
set_option maxHeartbeats 16000000 in
theorem st_read (base top gz gs pc : Nat) (u : TypeId) (ev : Value) (dat : List Int) (M off n cap g s0 p0 q0 : Nat) (full : List Int) (L : List Nat) (err pv : Value) (pp pr fe : Int) (w : World)
    (hz : ZAt w gz (rV gs) err pv (lstL L) (fstL L) pp (.slice (some ⟨g, 0, none⟩) n cap) (s0 : Int) (p0 : Int) pr fe) (hb : base ≤ gz) (hB : Back w base top gs pc dat M pv L (off + n)) (hF : FullAt w top g cap full) (hn : n ≤ cap) (ht : full.take n = (dat.drop off).take n)
    (hs0 : s0 ≤ p0) (hp0 : p0 ≤ n) (herr : err = .nilIface ∨ (err = .iface u ev ∧ off + n = dat.length)) (hq : n ≤ q0) (hq2 : off + q0 ≤ dat.length) (hdl : dat.length ≤ 300) (hM : M ≤ 100000) (hpc : 1 ≤ pc) (hpc2 : pc ≤ 300)
    (hEb : 0 < base) (hE : w.cell? ⟨0, 0, none⟩ = some (.iface u ev)) :
    Calls Tryd.prog 70 #[.pointer (some ⟨gz, 0, none⟩), .int .i64 (q0 : Int)] w (ReadPost base top gz gs pc u ev dat M (off + p0) (off + s0) (off + q0) w) := by
  have HZ := Aside0.mk hz
  have HB := Aside0.mk hB
  have HF := Aside0.mk hF
  have HT := Aside0.mk ht
  have HQ := Aside0.mk (And.intro hq hq2)
  have HS := Aside0.mk (And.intro hs0 hp0)
  have hbw : base ≤ w.heap.size := Nat.le_trans hB.lo hB.hi
  have hcap2 := hF.2.2.1
  have HE := Aside0.mk hE
  rcases herr with rfl | ⟨rfl, hend⟩
  · have z1 := hz.cells.1.2.1
    have z7 := hz.cells.2.1.2.1
    have z10 := hz.cells.2.1.2.2.2.2
    clear hz hB hF ht hq hq2 hE
    obtain ⟨es, hp1, hp2, hp3⟩ := HB.out.pool
    have HP := Aside0.mk (And.intro hp1 (And.intro hp2 hp3))
    clear hp1 hp2 hp3
    go_enter Tryd.func70, Tryd.ntmps70
    go_wp2
    refine start_ (n := 8) (S := fun w' => w'.cell? ⟨gz, 10, none⟩ = some (.int .i64 fe)) (ds := []) #[false, false, false, false, false, false, false, false] (by kernel_rfl) rfl rfl z10 (fun hHeld => ?_)
    refine pure_ (i := 0) (N := (some 15)) (v := ?_) (a' := ?_) #[true, false, false, false, false, false, false, false] rfl rfl (by kernel_rfl) (fun _ _ _ h => h) (Or.inl ⟨by rfl, ?_⟩) ?_ ?_
    rotate_left
    · intro w'
      go_simp
      with_reducible rfl
    rotate_left
    · simp only [Act.put, List.setIfInBounds_toArray, List.set_cons_zero, List.set_cons_succ, i64_w, i32_w]
      rfl
    refine pure_ (i := 1) (N := (some 16)) (v := ?_) (a' := ?_) #[true, true, false, false, false, false, false, false] rfl rfl (by kernel_rfl) (fun _ _ _ h => h) (Or.inl ⟨by rfl, ?_⟩) ?_ ?_
    rotate_left
    · intro w'
      go_simp
      with_reducible rfl
    rotate_left
    · simp only [Act.put, List.setIfInBounds_toArray, List.set_cons_zero, List.set_cons_succ, i64_w, i32_w]
      rfl
    refine pure_ (i := 2) (N := (some 17)) (v := ?_) (a' := ?_) #[true, true, true, false, false, false, false, false] rfl rfl (by kernel_rfl) (fun _ _ _ h => h) (Or.inl ⟨by rfl, ?_⟩) ?_ ?_
    rotate_left
    · intro w'
      go_simp
      with_reducible rfl
    rotate_left
    · simp only [Act.put, List.setIfInBounds_toArray, List.set_cons_zero, List.set_cons_succ, i64_w, i32_w]
      rfl
    refine pure_ (i := 3) (N := (some 18)) (v := ?_) (a' := ?_) #[true, true, true, true, false, false, false, false] rfl rfl (by kernel_rfl) (fun _ _ _ h => h) (Or.inl ⟨by rfl, ?_⟩) ?_ ?_
    rotate_left
    · intro w'
      go_simp
      with_reducible rfl
    rotate_left
    · simp only [Act.put, List.setIfInBounds_toArray, List.set_cons_zero, List.set_cons_succ, i64_w, i32_w]
      rfl
    refine pure_ (i := 4) (N := (some 19)) (v := ?_) (a' := ?_) #[true, true, true, true, true, false, false, false] rfl rfl (by kernel_rfl) (fun _ _ _ h => h) (Or.inl ⟨by rfl, ?_⟩) ?_ ?_
    rotate_left
    · intro w'
      go_simp
      with_reducible rfl
    rotate_left
    · simp only [Act.put, List.setIfInBounds_toArray, List.set_cons_zero, List.set_cons_succ, i64_w, i32_w]
      rfl
    refine pure_ (i := 5) (N := (some 20)) (v := ?_) (a' := ?_) #[true, true, true, true, true, true, false, false] rfl rfl (by kernel_rfl) (fun _ _ _ h => h) (Or.inl ⟨by rfl, ?_⟩) ?_ ?_
    rotate_left
    · intro w'
      go_simp
      with_reducible rfl
    rotate_left
    · simp only [Act.put, List.setIfInBounds_toArray, List.set_cons_zero, List.set_cons_succ, i64_w, i32_w]
      rfl
    refine take_ (i := 6) (N := (some 21)) (v := ?_) (a' := ?_) #[true, true, true, true, true, true, true, false] rfl rfl (by kernel_rfl) (fun _ _ _ h => h) (Or.inl ⟨by rfl, ?_⟩) hHeld ?_ ?_
    rotate_left
    · intro w' s0
      go_simp
      with_reducible rfl
    rotate_left
    · simp only [Act.put, List.setIfInBounds_toArray, List.set_cons_zero, List.set_cons_succ, i64_w, i32_w]
      rfl
    refine one_ (i := 7) (N := (some 22)) #[true, true, true, true, true, true, true, true] rfl rfl (by kernel_rfl) (by simp) (fun K_ hK_ => ?_)
    refine goes_ Tryd.func71 (by kernel_rfl) rfl #[.pointer (some ⟨gz, 2, none⟩), .int .i64 fe] (by rfl) rfl rfl (by simp only [List.map_toArray, List.map_cons, List.map_nil]; rfl) ?_
    refine (pool_free gz base top fe w.drew (rV gs) .nilIface pv _ pp s0 p0 pr fe es L HZ.out hb hbw (HP.out.1.fr (S := []) ((FrS.refl hbw).drewN 1) (by simp) (by simp)) HP.out.2.1 HB.out.nd (by have := HP.out.2.2; omega)).mono ?_
    rintro e w1 ⟨rfl, ⟨es1, L1, pp1, hz1, hp1, hl1, hnd1, hle1, hf1⟩⟩
    refine ⟨_, rfl, ?_⟩
    have HF1 := Aside0.mk (show FrS [97, 101] base w w1 from ((FrS.refl hbw).drewN 1).trans hf1)
    have HZ1 := Aside0.mk hz1
    have HP1 := Aside0.mk (And.intro hp1 (And.intro hl1 (And.intro hnd1 hle1)))
    have x10 := hz1.cells.2.1.2.2.2.2
    clear hz1 hp1 hl1 hnd1 hle1 hf1
    refine hK_ _ _ x10 (fun _ => ?_)
    try clear hK_
    try clear K_
    try clear hHeld
    refine done_ (by kernel_rfl) ?_
    clear z1 z7 z10
    have x10f := HZ1.out.cells.2.2 10
    go_upto_region 5 with fail
    generalize hw2 : w1.setCell ⟨gz, 10, none⟩ (.int .i64 0) = w2
    have HZ2 : Aside0 (ZAt w2 gz (rV gs) .nilIface pv (lstL L1) (fstL L1) pp1 (.slice (some ⟨g, 0, none⟩) n cap) (s0 : Int) (p0 : Int) pr 0) := ⟨by rw [← hw2]; exact sc_mark HZ1.out⟩
    have HF2 : Aside0 (FrS [97, 101] base w w2) := ⟨by rw [← hw2]; exact HF1.out.set hb HZ1.out (by simp)⟩
    have HP2 : Aside0 (PoolAt w2 base top pv es1) := ⟨HP1.out.1.fr (S := [97]) (by rw [← hw2]; exact (FrS.refl HF1.out.to).set hb HZ1.out (by simp)) (by decide) (by decide)⟩
    clear hw2 x10 x10f
    have y6 := HZ2.out.cells.2.1.1
    have y7 := HZ2.out.cells.2.1.2.1
    obtain ⟨P, hP⟩ : ∃ P : Nat, P = q0 - s0 + 1 := ⟨_, rfl⟩
    have hPb : P ≤ 301 := by have := HQ.out; have := HS.out; omega
    have hPd : n - s0 < P := by have := HQ.out; have := HS.out; omega
    have e1 : wrap64 (wrap64 ((q0 : Int) - (s0 : Int)) + 1) = (P : Int) := by have := HQ.out; have := HS.out; unfold wrap64; omega
    have e1b : (q0 : Int) - (s0 : Int) + 1 = (P : Int) := by have := HQ.out; have := HS.out; omega
    have hsc : s0 ≤ cap := by omega
    go_upto_if 41 with fail
    go_cut [5] (fun v wx => (∃ c1 : Nat, v = .int .i64 (c1 : Int) ∧ P ≤ c1 ∧ c1 ≤ 2000) ∧ w2 = wx)
    case first => as_aux_lemma =>
      by_cases h : cap < 2 * P
      · go_wp2
        go_meet
        case rel => exact ⟨⟨2 * cap + P, by first | rfl | exact congrArg (Value.int .i64) (by omega), by omega, by omega⟩, rfl⟩
      · go_wp2
        go_meet
        case rel => exact ⟨⟨cap, rfl, by omega, by omega⟩, rfl⟩
    case rest => as_aux_lemma =>
    obtain ⟨⟨c1, rfl, hc1, hc2⟩, hw⟩ := hcut
    subst hw
    obtain ⟨d0, hd0⟩ : ∃ d : Nat, d = n - s0 := ⟨_, rfl⟩
    have hd1 : d0 < c1 := by omega
    have hd2 : s0 ≤ n := by omega
    have e2 : wrap64 ((n : Int) - (s0 : Int)) = (d0 : Int) := by unfold wrap64; omega
    have e3 : IntKind.i64.wrap ((n : Int) - (s0 : Int)) = (d0 : Int) := by rw [← i64_w] at e2; exact e2
    have HD0 := Aside0.mk hd0
    clear hd0
    go_wp2
    go_quiet (fail)
    all_goals go_wp2
    have hf3 : FrS [] base w2 ((w2.drewN nq).drew) := ((FrS.refl HF2.out.to).drewN nq).drewN 1
    have HP3 := Aside0.mk (HP2.out.fr hf3 (by simp) (by simp))
    have HFR3 := Aside0.mk (HF2.out.trans (hf3.mono (by simp)))
    clear hf3
    refine start_ (n := 15) (S := fun w' => w'.cell? ⟨gz, 6, none⟩ = some (.slice (some ⟨g, 0, none⟩) n cap) ∧ w'.cell? ⟨gz, 7, none⟩ = some (.int .i64 (s0 : Int))) (ds := []) #[false, false, false, false, false, false, false, false, false, false, false, false, false, false, false] (by kernel_rfl) rfl rfl ⟨y6, y7⟩ (fun hHeld => ?_)
    refine pure_ (i := 0) (N := (some 56)) (v := ?_) (a' := ?_) #[true, false, false, false, false, false, false, false, false, false, false, false, false, false, false] rfl rfl (by kernel_rfl) (fun _ _ _ h => h) (Or.inl ⟨by rfl, ?_⟩) ?_ ?_
    rotate_left
    · intro w'
      go_simp
      with_reducible rfl
    rotate_left
    · simp only [Act.put, List.setIfInBounds_toArray, List.set_cons_zero, List.set_cons_succ, i64_w, i32_w]
      rfl
    refine pure_ (i := 1) (N := (some 57)) (v := ?_) (a' := ?_) #[true, true, false, false, false, false, false, false, false, false, false, false, false, false, false] rfl rfl (by kernel_rfl) (fun _ _ _ h => h) (Or.inl ⟨by rfl, ?_⟩) ?_ ?_
    rotate_left
    · intro w'
      go_simp
      with_reducible rfl
    rotate_left
    · simp only [Act.put, List.setIfInBounds_toArray, List.set_cons_zero, List.set_cons_succ, i64_w, i32_w]
      rfl
    refine pure_ (i := 2) (N := (some 58)) (v := ?_) (a' := ?_) #[true, true, true, false, false, false, false, false, false, false, false, false, false, false, false] rfl rfl (by kernel_rfl) (fun _ _ _ h => h) (Or.inl ⟨by rfl, ?_⟩) ?_ ?_
    rotate_left
    · intro w'
      go_simp
      with_reducible rfl
    rotate_left
    · simp only [Act.put, List.setIfInBounds_toArray, List.set_cons_zero, List.set_cons_succ, i64_w, i32_w]
      rfl
    refine pure_ (i := 3) (N := (some 59)) (v := ?_) (a' := ?_) #[true, true, true, true, false, false, false, false, false, false, false, false, false, false, false] rfl rfl (by kernel_rfl) (fun _ _ _ h => h) (Or.inl ⟨by rfl, ?_⟩) ?_ ?_
    rotate_left
    · intro w'
      go_simp
      with_reducible rfl
    rotate_left
    · simp only [Act.put, List.setIfInBounds_toArray, List.set_cons_zero, List.set_cons_succ, i64_w, i32_w]
      rfl
    refine pure_ (i := 4) (N := (some 60)) (v := ?_) (a' := ?_) #[true, true, true, true, true, false, false, false, false, false, false, false, false, false, false] rfl rfl (by kernel_rfl) (fun _ _ _ h => h) (Or.inl ⟨by rfl, ?_⟩) ?_ ?_
    rotate_left
    · intro w'
      go_simp
      with_reducible rfl
    rotate_left
    · simp only [Act.put, List.setIfInBounds_toArray, List.set_cons_zero, List.set_cons_succ, i64_w, i32_w]
      rfl
    refine pure_ (i := 5) (N := (some 61)) (v := ?_) (a' := ?_) #[true, true, true, true, true, true, false, false, false, false, false, false, false, false, false] rfl rfl (by kernel_rfl) (fun _ _ _ h => h) (Or.inl ⟨by rfl, ?_⟩) ?_ ?_
    rotate_left
    · intro w'
      go_simp
      with_reducible rfl
    rotate_left
    · simp only [Act.put, List.setIfInBounds_toArray, List.set_cons_zero, List.set_cons_succ, i64_w, i32_w]
      rfl
    refine take_ (i := 6) (N := (some 62)) (v := ?_) (a' := ?_) #[true, true, true, true, true, true, true, false, false, false, false, false, false, false, false] rfl rfl (by kernel_rfl) (fun _ _ _ h => h) (Or.inl ⟨by rfl, ?_⟩) hHeld ?_ ?_
    rotate_left
    · intro w' s0
      obtain ⟨s1, s2⟩ := s0
      go_simp
      with_reducible rfl
    rotate_left
    · simp only [Act.put, List.setIfInBounds_toArray, List.set_cons_zero, List.set_cons_succ, i64_w, i32_w]
      rfl
    refine pure_ (i := 7) (N := (some 63)) (v := ?_) (a' := ?_) #[true, true, true, true, true, true, true, true, false, false, false, false, false, false, false] rfl rfl (by kernel_rfl) (fun _ _ _ h => h) (Or.inl ⟨by rfl, ?_⟩) ?_ ?_
    rotate_left
    · intro w'
      go_simp
      with_reducible rfl
    rotate_left
    · simp only [Act.put, List.setIfInBounds_toArray, List.set_cons_zero, List.set_cons_succ, i64_w, i32_w]
      rfl
    refine pure_ (i := 8) (N := (some 64)) (v := ?_) (a' := ?_) #[true, true, true, true, true, true, true, true, true, false, false, false, false, false, false] rfl rfl (by kernel_rfl) (fun _ _ _ h => h) (Or.inl ⟨by rfl, ?_⟩) ?_ ?_
    rotate_left
    · intro w'
      go_simp
      with_reducible rfl
    rotate_left
    · simp only [Act.put, List.setIfInBounds_toArray, List.set_cons_zero, List.set_cons_succ, i64_w, i32_w]
      rfl
    refine pure_ (i := 9) (N := (some 65)) (v := ?_) (a' := ?_) #[true, true, true, true, true, true, true, true, true, true, false, false, false, false, false] rfl rfl (by kernel_rfl) (fun _ _ _ h => h) (Or.inl ⟨by rfl, ?_⟩) ?_ ?_
    rotate_left
    · intro w'
      go_simp
      with_reducible rfl
    rotate_left
    · simp only [Act.put, List.setIfInBounds_toArray, List.set_cons_zero, List.set_cons_succ, i64_w, i32_w]
      rfl
    refine take_ (i := 10) (N := (some 66)) (v := ?_) (a' := ?_) #[true, true, true, true, true, true, true, true, true, true, true, false, false, false, false] rfl rfl (by kernel_rfl) (fun _ _ _ h => h) (Or.inl ⟨by rfl, ?_⟩) hHeld ?_ ?_
    rotate_left
    · intro w' s0
      obtain ⟨s1, s2⟩ := s0
      go_simp
      with_reducible rfl
    rotate_left
    · simp only [Act.put, List.setIfInBounds_toArray, List.set_cons_zero, List.set_cons_succ, i64_w, i32_w]
      rfl
    refine pure_ (i := 11) (N := (some 67)) (v := ?_) (a' := ?_) #[true, true, true, true, true, true, true, true, true, true, true, true, false, false, false] rfl rfl (by kernel_rfl) (fun _ _ _ h => h) (Or.inl ⟨by rfl, ?_⟩) ?_ ?_
    rotate_left
    · intro w'
      go_simp
      with_reducible rfl
    rotate_left
    · simp only [Act.put, List.setIfInBounds_toArray, List.set_cons_zero, List.set_cons_succ, i64_w, i32_w]
      rfl
    refine pure_ (i := 12) (N := (some 68)) (v := ?_) (a' := ?_) #[true, true, true, true, true, true, true, true, true, true, true, true, true, false, false] rfl rfl (by kernel_rfl) (fun _ _ _ h => h) (Or.inl ⟨by rfl, ?_⟩) ?_ ?_
    rotate_left
    · intro w'
      go_simp
      with_reducible rfl
    rotate_left
    · simp only [Act.put, List.setIfInBounds_toArray, List.set_cons_zero, List.set_cons_succ, i64_w, i32_w]
      rfl
    refine one_ (i := 13) (N := (some 69)) #[true, true, true, true, true, true, true, true, true, true, true, true, true, true, false] rfl rfl (by kernel_rfl) (by simp) (fun K_ hK_ => ?_)
    refine goes_ Tryd.func72 (by kernel_rfl) rfl #[.pointer (some ⟨gz, 2, none⟩), .slice (some ⟨g, 0, none⟩) s0 cap, .int .i64 (c1 : Int)] (by rfl) rfl rfl (by simp only [List.map_toArray, List.map_cons, List.map_nil]; rfl) ?_
    refine (pool_swap gz base top g s0 cap c1 _ (rV gs) .nilIface pv _ pp1 s0 p0 pr 0 es1 L1 (show ZAt (w2.drewN nq).drew gz _ _ _ _ _ _ _ _ _ _ _ from HZ2.out) hb HFR3.out.to (Nat.le_trans HB.out.hi HFR3.out.2.2.1) HP3.out HP1.out.2.1 HP1.out.2.2.1 (by have := HP1.out.2.2.2; have := HP.out.2.2; omega) (HF.out.buf.keep (fun cs hcs => HFR3.out.2.2.2 _ _ _ _ hcs (by decide))) hsc hc2).mono ?_
    rintro e w4 ⟨g4, c4, pv4, es4, L4, pp4, rfl, hcc, hb4, hz4, hp4, hl4, hnd4, hle4, hf4⟩
    refine ⟨_, rfl, ?_⟩
    have HF4 := Aside0.mk (show FrS [97, 101] base w w4 from HFR3.out.trans hf4)
    have HZ4 := Aside0.mk hz4
    have HP4 := Aside0.mk (And.intro hp4 (And.intro hl4 (And.intro hnd4 hle4)))
    have HB4 := Aside0.mk hb4
    have x6 := hz4.cells.2.1.1
    have x7 := hz4.cells.2.1.2.1
    clear hz4 hp4 hl4 hnd4 hle4 hf4 hb4
    simp only [Act.put, List.setIfInBounds_toArray, List.set_cons_zero, List.set_cons_succ]
    refine hK_ _ _ ⟨x6, x7⟩ (fun _ => ?_)
    try clear hK_
    try clear K_
    try clear hHeld
    refine pure_ (i := 14) (N := (some 8)) (v := ?_) (a' := ?_) #[true, true, true, true, true, true, true, true, true, true, true, true, true, true, true] rfl rfl (by kernel_rfl) (fun _ _ _ h => h) (Or.inl ⟨by rfl, ?_⟩) ?_ ?_
    rotate_left
    · intro w'
      go_simp
      with_reducible rfl
    rotate_left
    · simp only [Act.put, List.setIfInBounds_toArray, List.set_cons_zero, List.set_cons_succ, i64_w, i32_w]
      rfl
    refine done_ (by kernel_rfl) ?_
    go_upto_region 11 with fail
    have hf5 : FrS [] base w4 w4.drew := (FrS.refl HF4.out.to).drewN 1
    obtain ⟨w5, full5, hcp, hfu5, hft5, hgr5, full1, hfu1⟩ := rd_copy (W := w4.drew) (n := n) ((FullAt.fr HF.out HF4.out (by decide)).fr hf5 (by simp)) (HB4.out.keep (fun cs hcs => hf5.2.2.2 _ _ _ _ hcs (by simp))) hd2 hn HD0.out (by omega)
    have hk5 : ∀ k, k < w4.heap.size → k ≠ g4 → w5.heap[k]? = w4.heap[k]? := fun k hk hne => hgr5.block k hk (by simpa using hne)
    have HZ5 := Aside0.mk (HZ4.out.write (show w4.heap[g4]? = _ from hfu1.2.2.2) hk5)
    have HP5 := Aside0.mk (HP4.out.1.write (show w4.heap[g4]? = _ from hfu1.2.2.2) hfu5.2.2.2 (by rw [hfu5.2.1, hfu1.2.1]) hk5)
    have HR5 := Aside0.mk ((HB.out.src.fr HF4.out (by decide) (by decide)).write hfu1.1 (show w4.heap[g4]? = _ from hfu1.2.2.2) hk5)
    have HF5 := Aside0.mk (show FrS stS base w w5 from (HF4.out.mono (by decide)).trans ((hf5.mono (by simp)).trans (FrS.grown2 HF4.out.to (show w4.drew.heap[g4]? = _ from hfu1.2.2.2) (Nat.le_trans HB.out.lo hfu1.1) hgr5)))
    have HU5 := Aside0.mk (And.intro hfu5 hft5)
    have HCP := Aside0.mk hcp
    have a6 := HZ5.out.cells.2.1.1
    have a7 := HZ5.out.cells.2.1.2.1
    have x6 := HZ4.out.cells.2.1.1
    have x7 := HZ4.out.cells.2.1.2.1
    have hdc : d0 ≤ c4 := by omega
    clear hf5 hcp hfu5 hft5 hgr5 hfu1 hk5 y6 y7
    refine start_ (n := 13) (S := fun w' => w'.cell? ⟨gz, 6, none⟩ = some (.slice (some ⟨g, 0, none⟩) n cap) ∧ w'.cell? ⟨gz, 7, none⟩ = some (.int .i64 (s0 : Int))) (ds := []) #[false, false, false, false, false, false, false, false, false, false, false, false, false] (by kernel_rfl) rfl rfl ⟨x6, x7⟩ (fun hHeld => ?_)
    refine pure_ (i := 0) (N := (some 70)) (v := ?_) (a' := ?_) #[true, false, false, false, false, false, false, false, false, false, false, false, false] rfl rfl (by kernel_rfl) (fun _ _ _ h => h) (Or.inl ⟨by rfl, ?_⟩) ?_ ?_
    rotate_left
    · intro w'
      go_simp
      with_reducible rfl
    rotate_left
    · simp only [Act.put, List.setIfInBounds_toArray, List.set_cons_zero, List.set_cons_succ, i64_w, i32_w]
      rfl
    refine pure_ (i := 1) (N := (some 71)) (v := ?_) (a' := ?_) #[true, true, false, false, false, false, false, false, false, false, false, false, false] rfl rfl (by kernel_rfl) (fun _ _ _ h => h) (Or.inl ⟨by rfl, ?_⟩) ?_ ?_
    rotate_left
    · intro w'
      go_simp
      with_reducible rfl
    rotate_left
    · simp only [Act.put, List.setIfInBounds_toArray, List.set_cons_zero, List.set_cons_succ, i64_w, i32_w]
      rfl
    refine pure_ (i := 2) (N := (some 72)) (v := ?_) (a' := ?_) #[true, true, true, false, false, false, false, false, false, false, false, false, false] rfl rfl (by kernel_rfl) (fun _ _ _ h => h) (Or.inl ⟨by rfl, ?_⟩) ?_ ?_
    rotate_left
    · intro w'
      go_simp
      with_reducible rfl
    rotate_left
    · simp only [Act.put, List.setIfInBounds_toArray, List.set_cons_zero, List.set_cons_succ, i64_w, i32_w]
      rfl
    refine pure_ (i := 3) (N := (some 73)) (v := ?_) (a' := ?_) #[true, true, true, true, false, false, false, false, false, false, false, false, false] rfl rfl (by kernel_rfl) (fun _ _ _ h => h) (Or.inl ⟨by rfl, ?_⟩) ?_ ?_
    rotate_left
    · intro w'
      go_simp
      with_reducible rfl
    rotate_left
    · simp only [Act.put, List.setIfInBounds_toArray, List.set_cons_zero, List.set_cons_succ, i64_w, i32_w]
      rfl
    refine pure_ (i := 4) (N := (some 74)) (v := ?_) (a' := ?_) #[true, true, true, true, true, false, false, false, false, false, false, false, false] rfl rfl (by kernel_rfl) (fun _ _ _ h => h) (Or.inl ⟨by rfl, ?_⟩) ?_ ?_
    rotate_left
    · intro w'
      go_simp
      with_reducible rfl
    rotate_left
    · simp only [Act.put, List.setIfInBounds_toArray, List.set_cons_zero, List.set_cons_succ, i64_w, i32_w]
      rfl
    refine pure_ (i := 5) (N := (some 75)) (v := ?_) (a' := ?_) #[true, true, true, true, true, true, false, false, false, false, false, false, false] rfl rfl (by kernel_rfl) (fun _ _ _ h => h) (Or.inl ⟨by rfl, ?_⟩) ?_ ?_
    rotate_left
    · intro w'
      go_simp
      with_reducible rfl
    rotate_left
    · simp only [Act.put, List.setIfInBounds_toArray, List.set_cons_zero, List.set_cons_succ, i64_w, i32_w]
      rfl
    refine take_ (i := 6) (N := (some 76)) (v := ?_) (a' := ?_) #[true, true, true, true, true, true, true, false, false, false, false, false, false] rfl rfl (by kernel_rfl) (fun _ _ _ h => h) (Or.inl ⟨by rfl, ?_⟩) hHeld ?_ ?_
    rotate_left
    · intro w' s0
      obtain ⟨s1, s2⟩ := s0
      go_simp
      with_reducible rfl
    rotate_left
    · simp only [Act.put, List.setIfInBounds_toArray, List.set_cons_zero, List.set_cons_succ, i64_w, i32_w]
      rfl
    refine pure_ (i := 7) (N := (some 77)) (v := ?_) (a' := ?_) #[true, true, true, true, true, true, true, true, false, false, false, false, false] rfl rfl (by kernel_rfl) (fun _ _ _ h => h) (Or.inl ⟨by rfl, ?_⟩) ?_ ?_
    rotate_left
    · intro w'
      go_simp
      with_reducible rfl
    rotate_left
    · simp only [Act.put, List.setIfInBounds_toArray, List.set_cons_zero, List.set_cons_succ, i64_w, i32_w]
      rfl
    refine pure_ (i := 8) (N := (some 78)) (v := ?_) (a' := ?_) #[true, true, true, true, true, true, true, true, true, false, false, false, false] rfl rfl (by kernel_rfl) (fun _ _ _ h => h) (Or.inl ⟨by rfl, ?_⟩) ?_ ?_
    rotate_left
    · intro w'
      go_simp
      with_reducible rfl
    rotate_left
    · simp only [Act.put, List.setIfInBounds_toArray, List.set_cons_zero, List.set_cons_succ, i64_w, i32_w]
      rfl
    refine pure_ (i := 9) (N := (some 79)) (v := ?_) (a' := ?_) #[true, true, true, true, true, true, true, true, true, true, false, false, false] rfl rfl (by kernel_rfl) (fun _ _ _ h => h) (Or.inl ⟨by rfl, ?_⟩) ?_ ?_
    rotate_left
    · intro w'
      go_simp
      with_reducible rfl
    rotate_left
    · simp only [Act.put, List.setIfInBounds_toArray, List.set_cons_zero, List.set_cons_succ, i64_w, i32_w]
      rfl
    refine take_ (i := 10) (N := (some 80)) (v := ?_) (a' := ?_) #[true, true, true, true, true, true, true, true, true, true, true, false, false] rfl rfl (by kernel_rfl) (fun _ _ _ h => h) (Or.inl ⟨by rfl, ?_⟩) hHeld ?_ ?_
    rotate_left
    · intro w' s0
      obtain ⟨s1, s2⟩ := s0
      go_simp
      with_reducible rfl
    rotate_left
    · simp only [Act.put, List.setIfInBounds_toArray, List.set_cons_zero, List.set_cons_succ, i64_w, i32_w]
      rfl
    refine pure_ (i := 11) (N := (some 81)) (v := ?_) (a' := ?_) #[true, true, true, true, true, true, true, true, true, true, true, true, false] rfl rfl (by kernel_rfl) (fun _ _ _ h => h) (Or.inl ⟨by rfl, ?_⟩) ?_ ?_
    rotate_left
    · intro w'
      go_simp
      with_reducible rfl
    rotate_left
    · simp only [Act.put, List.setIfInBounds_toArray, List.set_cons_zero, List.set_cons_succ, i64_w, i32_w]
      rfl
    refine one_ (i := 12) (N := (some 82)) #[true, true, true, true, true, true, true, true, true, true, true, true, true] rfl rfl (by kernel_rfl) (by simp) (fun K_ hK_ => ?_)
    refine copy_step (P := Tryd.prog) (by rfl) (.tmp 72) (.tmp 81) 22 rfl rfl rfl HCP.out ?_
    simp only [Act.put, List.setIfInBounds_toArray, List.set_cons_zero, List.set_cons_succ]
    refine hK_ _ _ ⟨a6, a7⟩ (fun _ => ?_)
    try clear hK_
    try clear K_
    try clear hHeld
    refine done_ (by kernel_rfl) ?_
    clear x6 x7 a6 a7 hc2
    generalize (if cap = s0 then some (⟨g, 0, none⟩ : Addr) else some ⟨g, s0, none⟩) = adr
    go_wp2
    obtain ⟨Qr, hQr⟩ : ∃ Q : Nat, Q = q0 - s0 := ⟨_, rfl⟩
    have hQ1 : Qr < c4 := by have := HQ.out; omega
    have hQ2 : Qr ≤ 300 := by have := HQ.out; omega
    have hQ3 : q0 - s0 = Qr := hQr.symm
    have hQ4 : s0 ≤ q0 := by have := HQ.out; omega
    have e4 : wrap64 ((q0 : Int) - (s0 : Int)) = (Qr : Int) := by unfold wrap64; omega
    have e4b : (q0 : Int) - (s0 : Int) = (Qr : Int) := by omega
    have HQr := Aside0.mk hQr
    have hc4 : c4 ≤ 2000 := HU5.out.1.2.2.1
    clear hQr e1 e1b e2 e3
    have hbt := HB.out.lo
    have HND4 := Aside0.mk HP4.out.2.2.1
    have hoff : off + s0 + d0 = off + n := by have := HD0.out; omega
    have HRD := Aside0.mk (show RdAt w w5 base top gz gs pc u ev dat (M + 1) (off + s0) n cap g s0 p0 g4 c4 L4 pv4 pp4 pr .nilIface d0 (dat.length - (off + s0 + d0) + 1) full5 from ⟨HZ5.out, ⟨es4, HP5.out, HP4.out.2.1, by have := HP4.out.2.2.2; have := HP1.out.2.2.2; have := HP.out.2.2; omega⟩, HU5.out.1, by
      rw [HU5.out.2, HD0.out]
      have := congrArg (List.drop s0) HT.out
      rw [List.drop_take, List.drop_take, List.drop_drop] at this
      exact this, by rw [hoff]; exact HR5.out, by rw [hoff]; exact HB.out.le, HF5.out, .inl ⟨rfl, rfl⟩⟩)
    clear HZ HB4 HF HT HP HF1 HZ1 HP1 HZ2 HF2 HP2 HP3 HFR3 HF4 HZ4 HP4 HZ5 HP5 HR5 HF5 HU5 HCP
    go_loopg [7, 9] (dat.length - (off + s0 + d0) + 1) (fun gk v7 v9 wr => ∃ (d : Nat) (x : Int) (err : Value) (fu : List Int), v7 = .int .i64 (d : Int) ∧ v9 = .int .i64 x ∧ d ≤ c4 ∧ d0 ≤ d ∧ Aside0 (RdAt w wr base top gz gs pc u ev dat (M + 1) (off + s0) n cap g s0 p0 g4 c4 L4 pv4 pp4 pr err d gk fu))
    case atStart => exact ⟨d0, _, _, _, rfl, rfl, hdc, Nat.le_refl _, HRD⟩
    case round =>
      obtain ⟨d, x, err, fu, rfl, rfl, hd, hdd, HR⟩ := hrel
      clear HRD
      have b0 := HR.out.1.cells.1.1
      have b1 := HR.out.1.cells.1.2.1
      have b7 := HR.out.1.cells.2.1.2.1
      by_cases hdq : d ≤ Qr
      · rcases HR.out.2.2.2.2.2.2.2 with ⟨herr, _⟩ | ⟨herr, hen, _⟩
        · subst herr
          have hdne : ¬ c4 = d := by omega
          have hdne2 : ¬ d = c4 := by omega
          have HGV := Aside0.mk (fun e w6 h => RdAt.give (e := e) (w6 := w6) HR.out hb hbt hd h)
          have hE2 : wr.drew.cell? ⟨0, 0, none⟩ = some (.iface u ev) := (HR.out.2.2.2.2.2.2.1.1.cell hEb).trans HE.out
          have f9 : FrS [] base wr wr.drew := (FrS.refl HR.out.2.2.2.2.2.2.1.to).drewN 1
          have HCL := Aside0.mk (src_read top base gs g4 d (c4 - d) fu (dat.drop (off + s0 + d)) pc u ev wr.drew hE2 (HR.out.2.2.2.2.1.fr f9 (by simp) (by simp)) (HR.out.2.2.1.fr f9 (by simp)).2.2.2 HR.out.2.2.1.1 (by omega) (by rw [HR.out.2.2.1.2.1]; omega) (by rw [HR.out.2.2.1.2.1]; omega) (by rw [List.length_drop]; omega) hpc hpc2)
          clear hE2 f9
          have hmt : ∀ W : World, (method 222 77 (.pointer (some ⟨gs, 0, none⟩)) "Read").run Tryd.prog W = .ok (91, .pointer (some ⟨gs, 0, none⟩)) W := fun W => by kernel_rfl
          go_wp2
          refine start_ (n := 20) (S := fun w' => w'.cell? ⟨gz, 0, none⟩ = some (rV gs)) (ds := []) #[false, false, false, false, false, false, false, false, false, false, false, false, false, false, false, false, false, false, false, false] (by kernel_rfl) rfl rfl b0 (fun hHeld => ?_)
          refine pure_ (i := 0) (N := (some 99)) (v := ?_) (a' := ?_) #[true, false, false, false, false, false, false, false, false, false, false, false, false, false, false, false, false, false, false, false] rfl rfl (by kernel_rfl) (fun _ _ _ h => h) (Or.inl ⟨by rfl, ?_⟩) ?_ ?_
          rotate_left
          · intro w'
            go_simp
            with_reducible rfl
          rotate_left
          · simp only [Act.put, List.setIfInBounds_toArray, List.set_cons_zero, List.set_cons_succ, i64_w, i32_w]
            rfl
          refine pure_ (i := 1) (N := (some 100)) (v := ?_) (a' := ?_) #[true, true, false, false, false, false, false, false, false, false, false, false, false, false, false, false, false, false, false, false] rfl rfl (by kernel_rfl) (fun _ _ _ h => h) (Or.inl ⟨by rfl, ?_⟩) ?_ ?_
          rotate_left
          · intro w'
            go_simp
            with_reducible rfl
          rotate_left
          · simp only [Act.put, List.setIfInBounds_toArray, List.set_cons_zero, List.set_cons_succ, i64_w, i32_w]
            rfl
          refine pure_ (i := 2) (N := (some 101)) (v := ?_) (a' := ?_) #[true, true, true, false, false, false, false, false, false, false, false, false, false, false, false, false, false, false, false, false] rfl rfl (by kernel_rfl) (fun _ _ _ h => h) (Or.inl ⟨by rfl, ?_⟩) ?_ ?_
          rotate_left
          · intro w'
            go_simp
            with_reducible rfl
          rotate_left
          · simp only [Act.put, List.setIfInBounds_toArray, List.set_cons_zero, List.set_cons_succ, i64_w, i32_w]
            rfl
          refine pure_ (i := 3) (N := (some 102)) (v := ?_) (a' := ?_) #[true, true, true, true, false, false, false, false, false, false, false, false, false, false, false, false, false, false, false, false] rfl rfl (by kernel_rfl) (fun _ _ _ h => h) (Or.inl ⟨by rfl, ?_⟩) ?_ ?_
          rotate_left
          · intro w'
            go_simp
            with_reducible rfl
          rotate_left
          · simp only [Act.put, List.setIfInBounds_toArray, List.set_cons_zero, List.set_cons_succ, i64_w, i32_w]
            rfl
          refine take_ (i := 4) (N := (some 103)) (v := ?_) (a' := ?_) #[true, true, true, true, true, false, false, false, false, false, false, false, false, false, false, false, false, false, false, false] rfl rfl (by kernel_rfl) (fun _ _ _ h => h) (Or.inl ⟨by rfl, ?_⟩) hHeld ?_ ?_
          rotate_left
          · intro w' s0
            unfold rV at s0
            go_simp
            with_reducible rfl
          rotate_left
          · simp only [Act.put, List.setIfInBounds_toArray, List.set_cons_zero, List.set_cons_succ, i64_w, i32_w]
            rfl
          refine pure_ (i := 5) (N := (some 104)) (v := ?_) (a' := ?_) #[true, true, true, true, true, true, false, false, false, false, false, false, false, false, false, false, false, false, false, false] rfl rfl (by kernel_rfl) (fun _ _ _ h => h) (Or.inl ⟨by rfl, ?_⟩) ?_ ?_
          rotate_left
          · intro w'
            go_simp
            with_reducible rfl
          rotate_left
          · simp only [Act.put, List.setIfInBounds_toArray, List.set_cons_zero, List.set_cons_succ, i64_w, i32_w]
            rfl
          refine pure_ (i := 6) (N := (some 105)) (v := ?_) (a' := ?_) #[true, true, true, true, true, true, true, false, false, false, false, false, false, false, false, false, false, false, false, false] rfl rfl (by kernel_rfl) (fun _ _ _ h => h) (Or.inl ⟨by rfl, ?_⟩) ?_ ?_
          rotate_left
          · intro w'
            go_simp
            with_reducible rfl
          rotate_left
          · simp only [Act.put, List.setIfInBounds_toArray, List.set_cons_zero, List.set_cons_succ, i64_w, i32_w]
            rfl
          refine pure_ (i := 7) (N := (some 106)) (v := ?_) (a' := ?_) #[true, true, true, true, true, true, true, true, false, false, false, false, false, false, false, false, false, false, false, false] rfl rfl (by kernel_rfl) (fun _ _ _ h => h) (Or.inl ⟨by rfl, ?_⟩) ?_ ?_
          rotate_left
          · intro w'
            go_simp
            with_reducible rfl
          rotate_left
          · simp only [Act.put, List.setIfInBounds_toArray, List.set_cons_zero, List.set_cons_succ, i64_w, i32_w]
            rfl
          refine pure_ (i := 8) (N := (some 107)) (v := ?_) (a' := ?_) #[true, true, true, true, true, true, true, true, true, false, false, false, false, false, false, false, false, false, false, false] rfl rfl (by kernel_rfl) (fun _ _ _ h => h) (Or.inl ⟨by rfl, ?_⟩) ?_ ?_
          rotate_left
          · intro w'
            go_simp
            with_reducible rfl
          rotate_left
          · simp only [Act.put, List.setIfInBounds_toArray, List.set_cons_zero, List.set_cons_succ, i64_w, i32_w]
            rfl
          refine pure_ (i := 9) (N := (some 108)) (v := ?_) (a' := ?_) #[true, true, true, true, true, true, true, true, true, true, false, false, false, false, false, false, false, false, false, false] rfl rfl (by kernel_rfl) (fun _ _ _ h => h) (Or.inl ⟨by rfl, ?_⟩) ?_ ?_
          rotate_left
          · intro w'
            go_simp
            with_reducible rfl
          rotate_left
          · simp only [Act.put, List.setIfInBounds_toArray, List.set_cons_zero, List.set_cons_succ, i64_w, i32_w]
            rfl
          refine pure_ (i := 10) (N := (some 109)) (v := ?_) (a' := ?_) #[true, true, true, true, true, true, true, true, true, true, true, false, false, false, false, false, false, false, false, false] rfl rfl (by kernel_rfl) (fun _ _ _ h => h) (Or.inl ⟨by rfl, ?_⟩) ?_ ?_
          rotate_left
          · intro w'
            go_simp
            with_reducible rfl
          rotate_left
          · simp only [Act.put, List.setIfInBounds_toArray, List.set_cons_zero, List.set_cons_succ, i64_w, i32_w]
            rfl
          refine pure_ (i := 11) (N := (some 110)) (v := ?_) (a' := ?_) #[true, true, true, true, true, true, true, true, true, true, true, true, false, false, false, false, false, false, false, false] rfl rfl (by kernel_rfl) (fun _ _ _ h => h) (Or.inl ⟨by rfl, ?_⟩) ?_ ?_
          rotate_left
          · intro w'
            go_simp
            with_reducible rfl
          rotate_left
          · simp only [Act.put, List.setIfInBounds_toArray, List.set_cons_zero, List.set_cons_succ, i64_w, i32_w]
            rfl
          refine one_ (i := 12) (N := (some 111)) #[true, true, true, true, true, true, true, true, true, true, true, true, true, false, false, false, false, false, false, false] rfl rfl (by kernel_rfl) (by simp) (fun K_ hK_ => ?_)
          refine call_ 91 #[.pointer (some ⟨gs, 0, none⟩), .slice (some ⟨g4, d, none⟩) (c4 - d) (c4 - d)] (by rfl) rfl ?_ ?_
          · go_simp
          refine HCL.out.mono ?_
          intro e w6 h6
          obtain ⟨n1, ev2, fu2, gk2, rfl, hgk, hdn, hrd, c60, c61, f61⟩ := HGV.out e w6 h6
          have HR6 := Aside0.mk hrd
          have HEV := Aside0.mk (show ev2 = .nilIface ∨ ev2 = .iface u ev from hrd.2.2.2.2.2.2.2.imp (fun x => x.1) (fun x => x.1))
          clear hrd
          refine ⟨_, rfl, ?_⟩
          simp only [Act.put, List.setIfInBounds_toArray, List.set_cons_zero, List.set_cons_succ]
          refine hK_ _ _ c60 (fun _ => ?_)
          try clear hK_
          try clear K_
          try clear hHeld
          refine pure_ (i := 13) (N := (some 98)) (v := ?_) (a' := ?_) #[true, true, true, true, true, true, true, true, true, true, true, true, true, true, false, false, false, false, false, false] rfl rfl (by kernel_rfl) (fun _ _ _ h => h) (Or.inl ⟨by rfl, ?_⟩) ?_ ?_
          rotate_left
          · intro w'
            go_simp
            with_reducible rfl
          rotate_left
          · simp only [Act.put, List.setIfInBounds_toArray, List.set_cons_zero, List.set_cons_succ, i64_w, i32_w]
            rfl
          refine pure_ (i := 14) (N := (some 112)) (v := ?_) (a' := ?_) #[true, true, true, true, true, true, true, true, true, true, true, true, true, true, true, false, false, false, false, false] rfl rfl (by kernel_rfl) (fun _ _ _ h => h) (Or.inl ⟨by rfl, ?_⟩) ?_ ?_
          rotate_left
          · intro w'
            go_simp
            with_reducible rfl
          rotate_left
          · simp only [Act.put, List.setIfInBounds_toArray, List.set_cons_zero, List.set_cons_succ, i64_w, i32_w]
            rfl
          refine pure_ (i := 15) (N := (some 113)) (v := ?_) (a' := ?_) #[true, true, true, true, true, true, true, true, true, true, true, true, true, true, true, true, false, false, false, false] rfl rfl (by kernel_rfl) (fun _ _ _ h => h) (Or.inl ⟨by rfl, ?_⟩) ?_ ?_
          rotate_left
          · intro w'
            go_simp
            with_reducible rfl
          rotate_left
          · simp only [Act.put, List.setIfInBounds_toArray, List.set_cons_zero, List.set_cons_succ, i64_w, i32_w]
            rfl
          refine pure_ (i := 16) (N := (some 9)) (v := ?_) (a' := ?_) #[true, true, true, true, true, true, true, true, true, true, true, true, true, true, true, true, true, false, false, false] rfl rfl (by kernel_rfl) (fun _ _ _ h => h) (Or.inl ⟨by rfl, ?_⟩) ?_ ?_
          rotate_left
          · intro w'
            go_simp
            with_reducible rfl
          rotate_left
          · simp only [Act.put, List.setIfInBounds_toArray, List.set_cons_zero, List.set_cons_succ, i64_w, i32_w]
            rfl
          refine pure_ (i := 17) (N := (some 114)) (v := ?_) (a' := ?_) #[true, true, true, true, true, true, true, true, true, true, true, true, true, true, true, true, true, true, false, false] rfl rfl (by kernel_rfl) (fun _ _ _ h => h) (Or.inl ⟨by rfl, ?_⟩) ?_ ?_
          rotate_left
          · intro w'
            go_simp
            with_reducible rfl
          rotate_left
          · simp only [Act.put, List.setIfInBounds_toArray, List.set_cons_zero, List.set_cons_succ, i64_w, i32_w]
            rfl
          refine pure_ (i := 18) (N := (some 115)) (v := ?_) (a' := ?_) #[true, true, true, true, true, true, true, true, true, true, true, true, true, true, true, true, true, true, true, false] rfl rfl (by kernel_rfl) (fun _ _ _ h => h) (Or.inl ⟨by rfl, ?_⟩) ?_ ?_
          rotate_left
          · intro w'
            go_simp
            with_reducible rfl
          rotate_left
          · simp only [Act.put, List.setIfInBounds_toArray, List.set_cons_zero, List.set_cons_succ, i64_w, i32_w]
            rfl
          refine one_ (i := 19) (N := none) #[true, true, true, true, true, true, true, true, true, true, true, true, true, true, true, true, true, true, true, true] rfl rfl (by kernel_rfl) (by simp) (fun K_ hK_ => ?_)
          refine skip_ (w1 := w6.setCell ⟨gz, 1, none⟩ ev2) (by rfl) rfl ?_ ?_
          · rcases HEV.out with h | h
            · rw [h]
              go_simp
            · rw [h]
              go_simp
          refine hK_ _ _ ((World.cell?_setCell_other _ _ _ _ (by simp)).trans c60) (fun _ => ?_)
          try clear hK_
          try clear K_
          try clear hHeld
          refine done_ (by kernel_rfl) ?_
          clear hmt c60 c61 f61
          go_wp2
          go_roundg gk2
          case measure => exact hgk
          case rel => exact ⟨d + n1, _, ev2, fu2, by first | rfl | exact congrArg (Value.int .i64) (by omega), rfl, hdn, by omega, HR6⟩
        · subst herr
          have y8 := HR.out.1.cells.2.1.2.2.1
          have y6 := HR.out.1.cells.2.1.1
          have yf := HR.out.1.cells.2.2
          have yf6 := yf 6
          have yf7 := yf 7
          have yf8 := yf 8
          clear yf
          have hgz4 : g4 ≠ gz := fun e => absurd (types_eq (e ▸ HR.out.2.2.1.2.2.2) HR.out.1) (by decide)
          have hgz4' : gz ≠ g4 := Ne.symm hgz4
          have e5 : wrap64 ((p0 : Int) - (s0 : Int)) = ((p0 - s0 : Nat) : Int) := by have := HS.out; unfold wrap64; omega
          go_wp2
          go_region
          all_goals go_wp2
          all_goals go_region
          all_goals go_wp2
          all_goals go_ret
          all_goals obtain ⟨q1, q2, _⟩ := HR.out.fin hb hbt HB.out.hi HND4.out hd hs0 (by have := HD0.out; omega) (r := min (off + q0 + 1) dat.length) (by have := HQr.out; omega) rfl
          all_goals rw [show off + s0 + (p0 - s0) = off + p0 by omega] at q1
          all_goals refine ⟨?_, q1, q2⟩
          all_goals rw [atL_end (by omega)]
          all_goals rfl
      · have y8 := HR.out.1.cells.2.1.2.2.1
        have y6 := HR.out.1.cells.2.1.1
        have yf := HR.out.1.cells.2.2
        have yf6 := yf 6
        have yf7 := yf 7
        have yf8 := yf 8
        clear yf
        have hgz4 : g4 ≠ gz := fun e => absurd (types_eq (e ▸ HR.out.2.2.1.2.2.2) HR.out.1) (by decide)
        have hgz4' : gz ≠ g4 := Ne.symm hgz4
        have e5 : wrap64 ((p0 : Int) - (s0 : Int)) = ((p0 - s0 : Nat) : Int) := by have := HS.out; unfold wrap64; omega
        have hbyte := HR.out.byte hd (q := Qr) (by omega)
        have hqd : Qr < d := by omega
        go_wp2
        go_region
        all_goals go_wp2
        all_goals go_region
        all_goals go_wp2
        all_goals go_ret
        all_goals obtain ⟨q1, q2, _⟩ := HR.out.fin hb hbt HB.out.hi HND4.out hd hs0 (by have := HD0.out; omega) (r := min (off + q0 + 1) dat.length) (by have := HQr.out; omega) rfl
        all_goals rw [show off + s0 + (p0 - s0) = off + p0 by omega] at q1
        all_goals refine ⟨?_, q1, q2⟩
        all_goals rw [show off + q0 = off + s0 + Qr by have := HQr.out; omega]
        all_goals rfl
  · have hq0 : off + q0 = dat.length := by omega
    have z1 := hz.cells.1.2.1
    clear hz
    go_enter Tryd.func70, Tryd.ntmps70
    go_wp2
    go_ret
    refine ⟨by rw [atL_end (by omega)]; rfl, ⟨off, n, cap, g, s0, p0, full, L, _, pv, pp, pr, fe, HZ.out, hb, HB.out.mono (Nat.le_succ _), HF.out, hn, HT.out, rfl, rfl, HS.out.1, HS.out.2, .inr ⟨rfl, hend⟩, by omega⟩, FrS.refl hbw⟩
end Go.Proofs.YtgpmmmlmaaiobaaDoor.Own
