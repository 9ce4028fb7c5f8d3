/- addDeclared, addUndeclared: a variable more, in its row and in the index. -/
import Derived.Test.YtohfnhfpiipglaaCScH
namespace Go.Proofs.Ytohfnhfpiipglaa.Own
open Go.RowKit Go.Proofs.YtohfnhfpiipglaaW.PrintWords Go.Proofs.YtohfnhfpiipglaaW.PrintLast
set_option linter.unusedVariables false
set_option linter.unusedSimpArgs false
section
variable {P : Program} {ops : Array Oper} {rest : List Oper} {o : Oper} {a : Act} {Q : Exit → Act → World → Prop}
theorem append_event2 {W w1 : World} (hgd : o.guard = none) (s x : Operand) (t tx : TypeId) (ho : o.op = .call { callee := .builtin .append, args := #[s, x], argTypes := #[t, tx] }) {vs vx v : Value} (hs : a.eval s = vs) (hx : a.eval x = vx)
    (hr : ∀ ty, (Builtin.append_ #[t, tx] ty #[vs, vx]).run P W = .ok v w1) (h : wpList P ops Q rest (a.put o.dst v) w1) : wpList P ops Q (o :: rest) a W := by
  have hrun : (execOp a.eval o).run P W = .ok (.value v) w1 := by
    unfold execOp
    simp only [ho, resolve, invoke, builtin, Sem.run_bind, Sem.run_pure, Result.andThen_ok, List.map_toArray, List.map_cons, List.map_nil, hs, hx, hr]
  exact Kd.event_run hgd hrun h
end
theorem namesD_end : ∀ (D : List Ent) (k : Nat) (x : Ent), namesD (D ++ [x]) k = namesD D k ++ [(x.name, ((k + D.length : Nat) : Int))]
  | [], k, x => by simp [namesD]
  | e :: t, k, x => by
    simp only [List.cons_append, namesD, namesD_end t (k + 1) x, List.length_cons]
    rw [show k + 1 + t.length = k + (t.length + 1) by omega]
theorem namesU_end : ∀ (D : List Ent) (k : Nat) (x : Ent), namesU (D ++ [x]) k = namesU D k ++ [(x.name, -((k + D.length : Nat) : Int) - 1)]
  | [], k, x => by simp [namesU]
  | e :: t, k, x => by
    simp only [List.cons_append, namesU, namesU_end t (k + 1) x, List.length_cons]
    rw [show k + 1 + t.length = k + (t.length + 1) by omega]
set_option maxHeartbeats 2000000 in
theorem addD (w : World) (base gs : Nat) (D U : List Ent) (hS : ScAt w base gs D U) (hU0 : U = []) (hb : base ≤ w.heap.size) (hl : (D ++ U).length < 60) (x : Ent) (hx : VarAt w base x) (hxn : x.name ∉ (D ++ U).map Ent.name) (hxp : x.p ∉ (D ++ U).map Ent.p) (gv : Nat)
    (hgv : w.heap[gv]? = some (.cells #[x.at] 45 (0, 0))) (hgn : ∀ v, (w.cell? ⟨gs, 2, none⟩ = some v ∨ w.cell? ⟨gs, 3, none⟩ = some v) → v.ownBlock ≠ some gv) :
    Calls Try.prog 21 #[.pointer (some ⟨gs, 0, none⟩), .slice (some ⟨gv, 0, none⟩) 1 1] w fun e w' => e = .returned (.tuple #[]) ∧ ScAt w' base gs (D ++ [x]) U ∧ Fr base w w' := by
  obtain ⟨vD, vU, vM, hp, hI⟩ := hS.pre
  have hc2 : w.cell? ⟨gs, 2, none⟩ = some vD := by simp only [World.cell?, hp.blk]; rfl
  have hc3 : w.cell? ⟨gs, 3, none⟩ = some vU := by simp only [World.cell?, hp.blk]; rfl
  obtain ⟨g', c', w1, happ, k2, f2, hp2, hfr2, hgv2, hmap2⟩ := hp.addD hb hl hx hxn hxp hgv (hgn _ (.inl hc2)) (hgn _ (.inr hc3))
  obtain ⟨AU, cU, rfl, hcU, _⟩ := hp.ru.any
  have d2 : (w1.setCell ⟨gs, 2, none⟩ (.slice (some ⟨g', 0, none⟩) (D.length + 1) c')).cell? ⟨gs, 2, none⟩ = some (.slice (some ⟨g', 0, none⟩) (D.length + 1) c') := by simp only [World.cell?, hp2.blk]; rfl
  have d3 : (w1.setCell ⟨gs, 2, none⟩ (.slice (some ⟨g', 0, none⟩) (D.length + 1) c')).cell? ⟨gs, 3, none⟩ = some (.slice AU U.length cU) := by simp only [World.cell?, hp2.blk]; rfl
  have d4 : (w1.setCell ⟨gs, 2, none⟩ (.slice (some ⟨g', 0, none⟩) (D.length + 1) c')).cell? ⟨gs, 4, none⟩ = some vM := by simp only [World.cell?, hp2.blk]; rfl
  have dv : (w1.setCell ⟨gs, 2, none⟩ (.slice (some ⟨g', 0, none⟩) (D.length + 1) c')).cell? ⟨gv, 0, none⟩ = some x.at := by simp only [World.cell?, hgv2]; rfl
  have HAPP := Aside0.mk happ
  have hqM : ∀ (W : World) (r : Option Nat), (binOp .neq 39 (.map r) (.map none)).run Try.prog W = .ok (.bool (!r.isNone)) W := fun W r => run_neq_map_nil W _ _ _ r Try.underlying39
  have hb2 : base ≤ (w1.setCell ⟨gs, 2, none⟩ (.slice (some ⟨g', 0, none⟩) (D.length + 1) c')).heap.size := Nat.le_trans hb hfr2.below.size
  obtain ⟨n, hn⟩ : ∃ n, n = D.length := ⟨_, rfl⟩
  obtain ⟨m, hm⟩ : ∃ n, n = U.length := ⟨_, rfl⟩
  have HN := Aside0.mk hn
  have HM := Aside0.mk hm
  have hlo : n + m < 60 := by rw [List.length_append] at hl; omega
  have HI := Aside0.mk hI
  have HP2 := Aside0.mk hp2
  have HFR2 := Aside0.mk hfr2
  have HGV2 := Aside0.mk hgv2
  have HMAP2 := Aside0.mk hmap2
  have HB2 := Aside0.mk hb2
  have HL := Aside0.mk hl
  have HXN := Aside0.mk hxn
  have hS0 := Aside0.mk hS.new
  rw [← hn] at HAPP HP2 HFR2 HGV2 HMAP2 HB2 d2 d3 d4 dv
  rw [← hm] at d3
  clear happ hp hI hp2 hfr2 hgv2 hmap2 hgn hS hb hl hx hxn hxp hgv hb2 hn hm hcU
  go_enter Try.func21, Try.ntmps21
  go_upto_region 1 with (at_builtin; refine append_event2 rfl (.tmp 11) (.tmp 12) 38 37 rfl rfl rfl HAPP.out ?_)
  obtain ⟨w2, hw2⟩ : ∃ w2, w2 = w1.setCell ⟨gs, 2, none⟩ (.slice (some ⟨g', 0, none⟩) (n + 1) c') := ⟨_, rfl⟩
  rw [← hw2] at HP2 HFR2 HGV2 HMAP2 HB2 d2 d3 d4 dv ⊢
  clear hw2 k2 f2 HAPP
  rcases HI.out with ⟨hsm, rfl⟩ | ⟨gm, I, h16, rfl, hgm, hown, hIN, hrow⟩
  · have HSM := Aside0.mk hsm
    clear hsm
    by_cases h16 : 16 ≤ n + 1 + m
    · go_wp2
      go_quiet (fail)
      go_wp2_with fail
      have hpq := HP2.out.drewN nq
      (with_reducible refine (buildIx (w2.drewN nq) base gs (D ++ [x]) U _ _ _ hpq.blk hpq.lo hpq.rd hpq.ru hpq.ap hpq.vars hpq.new hpq.apart hpq.few (by simp only [List.length_append, List.length_singleton, ← HN.out, ← HM.out]; omega)).mono ?_)
      rintro e w3 ⟨rfl, hsc, hfr⟩
      have HSC := Aside0.mk hsc
      have HFR3 := Aside0.mk hfr
      clear hsc hfr hpq
      go_wp2
      go_end0
      exact ⟨rfl, HSC.out, (HFR2.out.drewN nq).trans HFR3.out⟩
    · go_wp2
      go_quiet (fail)
      go_wp2
      go_end0
      exact ⟨rfl, (HP2.out.drewN nq).sc (.inl ⟨by simp only [List.length_append, List.length_singleton, namesD_len, namesU_len, ← HN.out, ← HM.out]; omega, rfl⟩), HFR2.out.drewN nq⟩
  · have hix : IxAt w base gm I := by
      refine ⟨hgm, ?_, hrow⟩
      have hl : I.length = (namesD D 0 ++ namesU U 0).length := by have := congrArg List.length hIN; simpa using this
      rw [hl]
      exact hown
    have hix2 : IxAt w2 base gm I := by
      obtain ⟨es, clock, hm0, _⟩ := hix.2.1
      exact hix.fr HFR2.out (HMAP2.out gm es clock hm0)
    have hm : (namesD D 0 ++ namesU U 0).map Prod.fst = (D ++ U).map Ent.name := by rw [List.map_append, namesD_fst, namesU_fst, List.map_append]
    obtain ⟨hR, hG0, hG1, ga, ca, w3, w4, hA, hG2, hP, hB⟩ := BInv.step (w1 := w2) HP2.out hix2 HB2.out ⟨I, hix2, hIN, World.grownBy.refl _ _⟩ (by have := HL.out; simp only [List.length_append, namesD_len, namesU_len] at this ⊢; omega) x (by simp) ((D.length : Int)) (by rw [hm]; exact hS0.out) (by rw [hm]; exact HXN.out)
    rw [← HN.out] at hG1 hA
    have HR_ := Aside0.mk hR
    have HG0_ := Aside0.mk hG0
    have HG1_ := Aside0.mk hG1
    have HG2_ := Aside0.mk hG2
    have HA_ := Aside0.mk hA
    have HP_ := Aside0.mk hP
    have HIX := Aside0.mk hix2
    have HB_ := Aside0.mk (show ScAt w4 base gs (D ++ [x]) U ∧ Fr base w w4 by
      obtain ⟨J, j1, j2, j3⟩ := hB
      obtain ⟨hp4, hf4⟩ := PreIx.fr HP2.out hix2 j3
      refine ⟨hp4.sc (.inr ⟨gm, J, ?_, rfl, hgm, ?_, ?_, j1.2.2⟩), HFR2.out.trans (hf4 HB2.out)⟩
      · simp only [List.length_append, List.length_singleton, namesD_len, namesU_len] at h16 ⊢
        omega
      · have hl : J.length = (namesD D 0 ++ namesU U 0).length + 1 := by have := congrArg List.length j2; simp at this ⊢; omega
        have := j1.2.1
        rw [hl] at this
        simp only [List.length_append, List.length_singleton, namesD_len, namesU_len] at this ⊢
        exact this.mono (by omega)
      · rw [j2]
        subst hU0
        simp only [namesU, List.append_nil]
        rw [namesD_end, Nat.zero_add])
    clear hR hG0 hG1 hG2 hA hP hB hix hix2 hm hown hIN hrow hgm h16
    have hwa : wrap64 (n : Int) = (n : Int) := by unfold wrap64; omega
    go_wp2
    refine wp_loop_rounds 2 ?_
    rw [rounds_succ]
    go_wp2
    refine start_ (n := 25) (S := fun w' => w2.grownBy w' none) (ds := [24]) #[false, false, false, false, false, false, false, false, false, false, false, false, false, false, false, false, false, false, false, false, false, false, false, false, false] (by kernel_rfl) rfl rfl HG0_.out (fun hHeld => ?_)
    refine pure_ (i := 0) (N := (some 36)) (v := ?_) (a' := ?_) #[true, false, false, false, false, false, false, false, false, false, false, false, false, false, false, false, false, false, false, false, false, false, false, false, false] rfl rfl (by kernel_rfl) (fun _ _ _ h => h) (Or.inl ⟨by rfl, ?_⟩) ?_ ?_
    rotate_left
    · intro w'
      go_simp
      with_reducible rfl
    rotate_left
    · simp only [Act.put, List.setIfInBounds_toArray, List.set_cons_zero, List.set_cons_succ, i64_w, i32_w]
      rfl
    refine pure_ (i := 1) (N := (some 37)) (v := ?_) (a' := ?_) #[true, true, false, false, false, false, false, false, false, false, false, false, false, false, false, false, false, false, false, false, false, false, false, false, false] rfl rfl (by kernel_rfl) (fun _ _ _ h => h) (Or.inl ⟨by rfl, ?_⟩) ?_ ?_
    rotate_left
    · intro w'
      go_simp
      with_reducible rfl
    rotate_left
    · simp only [Act.put, List.setIfInBounds_toArray, List.set_cons_zero, List.set_cons_succ, i64_w, i32_w]
      rfl
    refine pure_ (i := 2) (N := (some 38)) (v := ?_) (a' := ?_) #[true, true, true, false, false, false, false, false, false, false, false, false, false, false, false, false, false, false, false, false, false, false, false, false, false] rfl rfl (by kernel_rfl) (fun _ _ _ h => h) (Or.inl ⟨by rfl, ?_⟩) ?_ ?_
    rotate_left
    · intro w'
      go_simp
      with_reducible rfl
    rotate_left
    · simp only [Act.put, List.setIfInBounds_toArray, List.set_cons_zero, List.set_cons_succ, i64_w, i32_w]
      rfl
    refine take_ (i := 3) (N := (some 39)) (v := ?_) (a' := ?_) #[true, true, true, true, false, false, false, false, false, false, false, false, false, false, false, false, false, false, false, false, false, false, false, false, false] rfl rfl (by kernel_rfl) (fun _ _ _ h => h) (Or.inl ⟨by rfl, ?_⟩) hHeld ?_ ?_
    rotate_left
    · intro w' s0
      have s1 := HR_.out _ s0
      have hc4_ := s1.c4
      have hc0_ := s1.c0
      have hcv_ := s1.cv
      have hlk_ := s1.lk
      clear s1 s0
      go_simp
      with_reducible rfl
    rotate_left
    · simp only [Act.put, List.setIfInBounds_toArray, List.set_cons_zero, List.set_cons_succ, i64_w, i32_w]
      rfl
    refine pure_ (i := 4) (N := (some 40)) (v := ?_) (a' := ?_) #[true, true, true, true, true, false, false, false, false, false, false, false, false, false, false, false, false, false, false, false, false, false, false, false, false] rfl rfl (by kernel_rfl) (fun _ _ _ h => h) (Or.inl ⟨by rfl, ?_⟩) ?_ ?_
    rotate_left
    · intro w'
      go_simp
      with_reducible rfl
    rotate_left
    · simp only [Act.put, List.setIfInBounds_toArray, List.set_cons_zero, List.set_cons_succ, i64_w, i32_w]
      rfl
    refine pure_ (i := 5) (N := (some 41)) (v := ?_) (a' := ?_) #[true, true, true, true, true, true, false, false, false, false, false, false, false, false, false, false, false, false, false, false, false, false, false, false, false] rfl rfl (by kernel_rfl) (fun _ _ _ h => h) (Or.inl ⟨by rfl, ?_⟩) ?_ ?_
    rotate_left
    · intro w'
      go_simp
      with_reducible rfl
    rotate_left
    · simp only [Act.put, List.setIfInBounds_toArray, List.set_cons_zero, List.set_cons_succ, i64_w, i32_w]
      rfl
    refine pure_ (i := 6) (N := (some 42)) (v := ?_) (a' := ?_) #[true, true, true, true, true, true, true, false, false, false, false, false, false, false, false, false, false, false, false, false, false, false, false, false, false] rfl rfl (by kernel_rfl) (fun _ _ _ h => h) (Or.inl ⟨by rfl, ?_⟩) ?_ ?_
    rotate_left
    · intro w'
      go_simp
      with_reducible rfl
    rotate_left
    · simp only [Act.put, List.setIfInBounds_toArray, List.set_cons_zero, List.set_cons_succ, i64_w, i32_w]
      rfl
    refine take_ (i := 7) (N := (some 43)) (v := ?_) (a' := ?_) #[true, true, true, true, true, true, true, true, false, false, false, false, false, false, false, false, false, false, false, false, false, false, false, false, false] rfl rfl (by kernel_rfl) (fun _ _ _ h => h) (Or.inl ⟨by rfl, ?_⟩) hHeld ?_ ?_
    rotate_left
    · intro w' s0
      have s1 := HR_.out _ s0
      have hc4_ := s1.c4
      have hc0_ := s1.c0
      have hcv_ := s1.cv
      have hlk_ := s1.lk
      clear s1 s0
      go_simp
      with_reducible rfl
    rotate_left
    · simp only [Act.put, List.setIfInBounds_toArray, List.set_cons_zero, List.set_cons_succ, i64_w, i32_w]
      rfl
    refine take_ (i := 8) (N := (some 44)) (v := ?_) (a' := ?_) #[true, true, true, true, true, true, true, true, true, false, false, false, false, false, false, false, false, false, false, false, false, false, false, false, false] rfl rfl (by kernel_rfl) (fun _ _ _ h => h) (Or.inl ⟨by rfl, ?_⟩) hHeld ?_ ?_
    rotate_left
    · intro w' s0
      have s1 := HR_.out _ s0
      have hc4_ := s1.c4
      have hc0_ := s1.c0
      have hcv_ := s1.cv
      have hlk_ := s1.lk
      clear s1 s0
      go_simp
      with_reducible rfl
    rotate_left
    · simp only [Act.put, List.setIfInBounds_toArray, List.set_cons_zero, List.set_cons_succ, i64_w, i32_w]
      rfl
    refine pure_ (i := 9) (N := (some 45)) (v := ?_) (a' := ?_) #[true, true, true, true, true, true, true, true, true, true, false, false, false, false, false, false, false, false, false, false, false, false, false, false, false] rfl rfl (by kernel_rfl) (fun _ _ _ h => h) (Or.inl ⟨by rfl, ?_⟩) ?_ ?_
    rotate_left
    · intro w'
      go_simp
      with_reducible rfl
    rotate_left
    · simp only [Act.put, List.setIfInBounds_toArray, List.set_cons_zero, List.set_cons_succ, i64_w, i32_w]
      rfl
    refine pure_ (i := 10) (N := (some 46)) (v := ?_) (a' := ?_) #[true, true, true, true, true, true, true, true, true, true, true, false, false, false, false, false, false, false, false, false, false, false, false, false, false] rfl rfl (by kernel_rfl) (fun _ _ _ h => h) (Or.inl ⟨by rfl, ?_⟩) ?_ ?_
    rotate_left
    · intro w'
      go_simp
      with_reducible rfl
    rotate_left
    · simp only [Act.put, List.setIfInBounds_toArray, List.set_cons_zero, List.set_cons_succ, i64_w, i32_w]
      rfl
    refine pure_ (i := 11) (N := (some 47)) (v := ?_) (a' := ?_) #[true, true, true, true, true, true, true, true, true, true, true, true, false, false, false, false, false, false, false, false, false, false, false, false, false] rfl rfl (by kernel_rfl) (fun _ _ _ h => h) (Or.inl ⟨by rfl, ?_⟩) ?_ ?_
    rotate_left
    · intro w'
      go_simp
      with_reducible rfl
    rotate_left
    · simp only [Act.put, List.setIfInBounds_toArray, List.set_cons_zero, List.set_cons_succ, i64_w, i32_w]
      rfl
    refine take_ (i := 12) (N := (some 48)) (v := ?_) (a' := ?_) #[true, true, true, true, true, true, true, true, true, true, true, true, true, false, false, false, false, false, false, false, false, false, false, false, false] rfl rfl (by kernel_rfl) (fun _ _ _ h => h) (Or.inl ⟨by rfl, ?_⟩) hHeld ?_ ?_
    rotate_left
    · intro w' s0
      have s1 := HR_.out _ s0
      have hc4_ := s1.c4
      have hc0_ := s1.c0
      have hcv_ := s1.cv
      have hlk_ := s1.lk
      clear s1 s0
      go_simp
      with_reducible rfl
    rotate_left
    · simp only [Act.put, List.setIfInBounds_toArray, List.set_cons_zero, List.set_cons_succ, i64_w, i32_w]
      rfl
    refine pure_ (i := 13) (N := (some 49)) (v := ?_) (a' := ?_) #[true, true, true, true, true, true, true, true, true, true, true, true, true, true, false, false, false, false, false, false, false, false, false, false, false] rfl rfl (by kernel_rfl) (fun _ _ _ h => h) (Or.inl ⟨by rfl, ?_⟩) ?_ ?_
    rotate_left
    · intro w'
      go_simp
      with_reducible rfl
    rotate_left
    · simp only [Act.put, List.setIfInBounds_toArray, List.set_cons_zero, List.set_cons_succ, i64_w, i32_w]
      rfl
    refine pure_ (i := 14) (N := (some 50)) (v := ?_) (a' := ?_) #[true, true, true, true, true, true, true, true, true, true, true, true, true, true, true, false, false, false, false, false, false, false, false, false, false] rfl rfl (by kernel_rfl) (fun _ _ _ h => h) (Or.inl ⟨by rfl, ?_⟩) ?_ ?_
    rotate_left
    · intro w'
      go_simp
      with_reducible rfl
    rotate_left
    · simp only [Act.put, List.setIfInBounds_toArray, List.set_cons_zero, List.set_cons_succ, i64_w, i32_w]
      rfl
    refine pure_ (i := 15) (N := (some 51)) (v := ?_) (a' := ?_) #[true, true, true, true, true, true, true, true, true, true, true, true, true, true, true, true, false, false, false, false, false, false, false, false, false] rfl rfl (by kernel_rfl) (fun _ _ _ h => h) (Or.inl ⟨by rfl, ?_⟩) ?_ ?_
    rotate_left
    · intro w'
      go_simp
      with_reducible rfl
    rotate_left
    · simp only [Act.put, List.setIfInBounds_toArray, List.set_cons_zero, List.set_cons_succ, i64_w, i32_w]
      rfl
    refine take_ (i := 16) (N := (some 52)) (v := ?_) (a' := ?_) #[true, true, true, true, true, true, true, true, true, true, true, true, true, true, true, true, true, false, false, false, false, false, false, false, false] rfl rfl (by kernel_rfl) (fun _ _ _ h => h) (Or.inl ⟨by rfl, ?_⟩) hHeld ?_ ?_
    rotate_left
    · intro w' s0
      have s1 := HR_.out _ s0
      have hc4_ := s1.c4
      have hc0_ := s1.c0
      have hcv_ := s1.cv
      have hlk_ := s1.lk
      clear s1 s0
      go_simp
      with_reducible rfl
    rotate_left
    · simp only [Act.put, List.setIfInBounds_toArray, List.set_cons_zero, List.set_cons_succ, i64_w, i32_w]
      rfl
    refine take_ (i := 17) (N := (some 53)) (v := ?_) (a' := ?_) #[true, true, true, true, true, true, true, true, true, true, true, true, true, true, true, true, true, true, false, false, false, false, false, false, false] rfl rfl (by kernel_rfl) (fun _ _ _ h => h) (Or.inl ⟨by rfl, ?_⟩) hHeld ?_ ?_
    rotate_left
    · intro w' s0
      have s1 := HR_.out _ s0
      have hc4_ := s1.c4
      have hc0_ := s1.c0
      have hcv_ := s1.cv
      have hlk_ := s1.lk
      clear s1 s0
      go_simp
      with_reducible rfl
    rotate_left
    · simp only [Act.put, List.setIfInBounds_toArray, List.set_cons_zero, List.set_cons_succ, i64_w, i32_w]
      rfl
    refine take_ (i := 18) (N := (some 54)) (v := ?_) (a' := ?_) #[true, true, true, true, true, true, true, true, true, true, true, true, true, true, true, true, true, true, true, false, false, false, false, false, false] rfl rfl (by kernel_rfl) (fun _ _ _ h => h) (Or.inl ⟨by rfl, ?_⟩) hHeld ?_ ?_
    rotate_left
    · intro w' s0
      have s1 := HR_.out _ s0
      have hc4_ := s1.c4
      have hc0_ := s1.c0
      have hcv_ := s1.cv
      have hlk_ := s1.lk
      clear s1 s0
      go_simp
      with_reducible rfl
    rotate_left
    · simp only [Act.put, List.setIfInBounds_toArray, List.set_cons_zero, List.set_cons_succ, i64_w, i32_w]
      rfl
    refine pure_ (i := 19) (N := (some 55)) (v := ?_) (a' := ?_) #[true, true, true, true, true, true, true, true, true, true, true, true, true, true, true, true, true, true, true, true, false, false, false, false, false] rfl rfl (by kernel_rfl) (fun _ _ _ h => h) (Or.inl ⟨by rfl, ?_⟩) ?_ ?_
    rotate_left
    · intro w'
      go_simp
      with_reducible rfl
    rotate_left
    · simp only [Act.put, List.setIfInBounds_toArray, List.set_cons_zero, List.set_cons_succ, i64_w, i32_w]
      rfl
    refine pure_ (i := 20) (N := (some 56)) (v := ?_) (a' := ?_) #[true, true, true, true, true, true, true, true, true, true, true, true, true, true, true, true, true, true, true, true, true, false, false, false, false] rfl rfl (by kernel_rfl) (fun _ _ _ h => h) (Or.inl ⟨by rfl, ?_⟩) ?_ ?_
    rotate_left
    · intro w'
      go_simp
      with_reducible rfl
    rotate_left
    · simp only [Act.put, List.setIfInBounds_toArray, List.set_cons_zero, List.set_cons_succ, i64_w, i32_w]
      rfl
    refine pure_ (i := 21) (N := (some 57)) (v := ?_) (a' := ?_) #[true, true, true, true, true, true, true, true, true, true, true, true, true, true, true, true, true, true, true, true, true, true, false, false, false] rfl rfl (by kernel_rfl) (fun _ _ _ h => h) (Or.inl ⟨by rfl, ?_⟩) ?_ ?_
    rotate_left
    · intro w'
      go_simp
      with_reducible rfl
    rotate_left
    · simp only [Act.put, List.setIfInBounds_toArray, List.set_cons_zero, List.set_cons_succ, i64_w, i32_w]
      rfl
    refine one_ (i := 22) (N := (some 58)) #[true, true, true, true, true, true, true, true, true, true, true, true, true, true, true, true, true, true, true, true, true, true, true, false, false] rfl rfl (by kernel_rfl) (by simp) (fun K_ hK_ => ?_)
    refine value_ (w1 := ?_) (v := ?_) (by rfl) rfl ?_ ?_
    rotate_left 2
    · go_simp
      constructor
      · rfl
      · rfl
    refine hK_ _ _ (HG1_.out) (fun _ => ?_)
    refine norm_ (a' := ?_) ?_ ?_
    rotate_left
    · show Act.put _ (some 58) _ = _
      simp only [Act.put, List.setIfInBounds_toArray, List.set_cons_zero, List.set_cons_succ]
      rfl
    refine one_ (i := 23) (N := (some 59)) #[true, true, true, true, true, true, true, true, true, true, true, true, true, true, true, true, true, true, true, true, true, true, true, true, false] rfl rfl (by kernel_rfl) (by simp) (fun K_ hK_ => ?_)
    refine ev_append (by rfl) (.tmp 54) (.tmp 58) 56 rfl rfl rfl HA_.out ?_
    refine hK_ _ _ (HG2_.out) (fun _ => ?_)
    refine norm_ (a' := ?_) ?_ ?_
    rotate_left
    · show Act.put _ (some 59) _ = _
      simp only [Act.put, List.setIfInBounds_toArray, List.set_cons_zero, List.set_cons_succ]
      rfl
    refine last_ (i := 24) (N := none) #[true, true, true, true, true, true, true, true, true, true, true, true, true, true, true, true, true, true, true, true, true, true, true, true, true] rfl rfl (by kernel_rfl) (by simp) (fun K_ hK_ => ?_)
    refine ev_put (by rfl) (.tmp 39) (.tmp 44) (.tmp 59) 39 rfl rfl rfl rfl HP_.out ?_
    refine hK_ _ _ ?_
    refine done_ (by kernel_rfl) ?_
    go_wp2
    rw [rounds_succ]
    go_wp2
    go_end0
    exact ⟨rfl, HB_.out⟩
set_option maxHeartbeats 2000000 in
theorem addU (w : World) (base gs : Nat) (D U : List Ent) (hS : ScAt w base gs D U) (hb : base ≤ w.heap.size) (hl : (D ++ U).length < 60) (x : Ent) (hx : VarAt w base x) (hxn : x.name ∉ (D ++ U).map Ent.name) (hxp : x.p ∉ (D ++ U).map Ent.p) (gv : Nat)
    (hgv : w.heap[gv]? = some (.cells #[x.at] 45 (0, 0))) (hgn : ∀ v, (w.cell? ⟨gs, 2, none⟩ = some v ∨ w.cell? ⟨gs, 3, none⟩ = some v) → v.ownBlock ≠ some gv) :
    Calls Try.prog 24 #[.pointer (some ⟨gs, 0, none⟩), .slice (some ⟨gv, 0, none⟩) 1 1] w fun e w' => e = .returned (.tuple #[]) ∧ ScAt w' base gs D (U ++ [x]) ∧ Fr base w w' := by
  obtain ⟨vD, vU, vM, hp, hI⟩ := hS.pre
  have hc2 : w.cell? ⟨gs, 2, none⟩ = some vD := by simp only [World.cell?, hp.blk]; rfl
  have hc3 : w.cell? ⟨gs, 3, none⟩ = some vU := by simp only [World.cell?, hp.blk]; rfl
  obtain ⟨g', c', w1, happ, k2, f2, hp2, hfr2, hgv2, hmap2⟩ := hp.addU hb hl hx hxn hxp hgv (hgn _ (.inl hc2)) (hgn _ (.inr hc3))
  obtain ⟨AU, cU, rfl, hcU, _⟩ := hp.rd.any
  have d2 : (w1.setCell ⟨gs, 3, none⟩ (.slice (some ⟨g', 0, none⟩) (U.length + 1) c')).cell? ⟨gs, 2, none⟩ = some (.slice AU D.length cU) := by simp only [World.cell?, hp2.blk]; rfl
  have d3 : (w1.setCell ⟨gs, 3, none⟩ (.slice (some ⟨g', 0, none⟩) (U.length + 1) c')).cell? ⟨gs, 3, none⟩ = some (.slice (some ⟨g', 0, none⟩) (U.length + 1) c') := by simp only [World.cell?, hp2.blk]; rfl
  have d4 : (w1.setCell ⟨gs, 3, none⟩ (.slice (some ⟨g', 0, none⟩) (U.length + 1) c')).cell? ⟨gs, 4, none⟩ = some vM := by simp only [World.cell?, hp2.blk]; rfl
  have dv : (w1.setCell ⟨gs, 3, none⟩ (.slice (some ⟨g', 0, none⟩) (U.length + 1) c')).cell? ⟨gv, 0, none⟩ = some x.at := by simp only [World.cell?, hgv2]; rfl
  have HAPP := Aside0.mk happ
  have hqM : ∀ (W : World) (r : Option Nat), (binOp .neq 39 (.map r) (.map none)).run Try.prog W = .ok (.bool (!r.isNone)) W := fun W r => run_neq_map_nil W _ _ _ r Try.underlying39
  have hb2 : base ≤ (w1.setCell ⟨gs, 3, none⟩ (.slice (some ⟨g', 0, none⟩) (U.length + 1) c')).heap.size := Nat.le_trans hb hfr2.below.size
  obtain ⟨n, hn⟩ : ∃ n, n = U.length := ⟨_, rfl⟩
  obtain ⟨m, hm⟩ : ∃ n, n = D.length := ⟨_, rfl⟩
  have HN := Aside0.mk hn
  have HM := Aside0.mk hm
  have hlo : n + m < 60 := by rw [List.length_append] at hl; omega
  have HI := Aside0.mk hI
  have HP2 := Aside0.mk hp2
  have HFR2 := Aside0.mk hfr2
  have HGV2 := Aside0.mk hgv2
  have HMAP2 := Aside0.mk hmap2
  have HB2 := Aside0.mk hb2
  have HL := Aside0.mk hl
  have HXN := Aside0.mk hxn
  have hS0 := Aside0.mk hS.new
  rw [← hn] at HAPP HP2 HFR2 HGV2 HMAP2 HB2 d2 d3 d4 dv
  rw [← hm] at d2
  clear happ hp hI hp2 hfr2 hgv2 hmap2 hgn hS hb hl hx hxn hxp hgv hb2 hn hm hcU
  go_enter Try.func24, Try.ntmps24
  go_upto_region 1 with (at_builtin; refine append_event2 rfl (.tmp 11) (.tmp 12) 38 37 rfl rfl rfl HAPP.out ?_)
  obtain ⟨w2, hw2⟩ : ∃ w2, w2 = w1.setCell ⟨gs, 3, none⟩ (.slice (some ⟨g', 0, none⟩) (n + 1) c') := ⟨_, rfl⟩
  rw [← hw2] at HP2 HFR2 HGV2 HMAP2 HB2 d2 d3 d4 dv ⊢
  clear hw2 k2 f2 HAPP
  rcases HI.out with ⟨hsm, rfl⟩ | ⟨gm, I, h16, rfl, hgm, hown, hIN, hrow⟩
  · have HSM := Aside0.mk hsm
    clear hsm
    by_cases h16 : 16 ≤ n + 1 + m
    · go_wp2
      go_quiet (fail)
      go_wp2_with fail
      have hpq := HP2.out.drewN nq
      (with_reducible refine (buildIx (w2.drewN nq) base gs D (U ++ [x]) _ _ _ hpq.blk hpq.lo hpq.rd hpq.ru hpq.ap hpq.vars hpq.new hpq.apart hpq.few (by simp only [List.length_append, List.length_singleton, ← HN.out, ← HM.out]; omega)).mono ?_)
      rintro e w3 ⟨rfl, hsc, hfr⟩
      have HSC := Aside0.mk hsc
      have HFR3 := Aside0.mk hfr
      clear hsc hfr hpq
      go_wp2
      go_end0
      exact ⟨rfl, HSC.out, (HFR2.out.drewN nq).trans HFR3.out⟩
    · go_wp2
      go_quiet (fail)
      go_wp2
      go_end0
      exact ⟨rfl, (HP2.out.drewN nq).sc (.inl ⟨by simp only [List.length_append, List.length_singleton, namesD_len, namesU_len, ← HN.out, ← HM.out]; omega, rfl⟩), HFR2.out.drewN nq⟩
  · have hix : IxAt w base gm I := by
      refine ⟨hgm, ?_, hrow⟩
      have hl : I.length = (namesD D 0 ++ namesU U 0).length := by have := congrArg List.length hIN; simpa using this
      rw [hl]
      exact hown
    have hix2 : IxAt w2 base gm I := by
      obtain ⟨es, clock, hm0, _⟩ := hix.2.1
      exact hix.fr HFR2.out (HMAP2.out gm es clock hm0)
    have hm : (namesD D 0 ++ namesU U 0).map Prod.fst = (D ++ U).map Ent.name := by rw [List.map_append, namesD_fst, namesU_fst, List.map_append]
    obtain ⟨hR, hG0, hG1, ga, ca, w3, w4, hA, hG2, hP, hB⟩ := BInv.step (w1 := w2) HP2.out hix2 HB2.out ⟨I, hix2, hIN, World.grownBy.refl _ _⟩ (by have := HL.out; simp only [List.length_append, namesD_len, namesU_len] at this ⊢; omega) x (by simp) (-(U.length : Int) - 1) (by rw [hm]; exact hS0.out) (by rw [hm]; exact HXN.out)
    rw [← HN.out, show -(n : Int) - 1 = -((n : Int) + 1) by omega] at hG1 hA
    have HR_ := Aside0.mk hR
    have HG0_ := Aside0.mk hG0
    have HG1_ := Aside0.mk hG1
    have HG2_ := Aside0.mk hG2
    have HA_ := Aside0.mk hA
    have HP_ := Aside0.mk hP
    have HIX := Aside0.mk hix2
    have HB_ := Aside0.mk (show ScAt w4 base gs D (U ++ [x]) ∧ Fr base w w4 by
      obtain ⟨J, j1, j2, j3⟩ := hB
      obtain ⟨hp4, hf4⟩ := PreIx.fr HP2.out hix2 j3
      refine ⟨hp4.sc (.inr ⟨gm, J, ?_, rfl, hgm, ?_, ?_, j1.2.2⟩), HFR2.out.trans (hf4 HB2.out)⟩
      · simp only [List.length_append, List.length_singleton, namesD_len, namesU_len] at h16 ⊢
        omega
      · have hl : J.length = (namesD D 0 ++ namesU U 0).length + 1 := by have := congrArg List.length j2; simp at this ⊢; omega
        have := j1.2.1
        rw [hl] at this
        simp only [List.length_append, List.length_singleton, namesD_len, namesU_len] at this ⊢
        exact this.mono (by omega)
      · rw [j2]
        rw [namesU_end, Nat.zero_add, ← List.append_assoc])
    clear hR hG0 hG1 hG2 hA hP hB hix hix2 hm hown hIN hrow hgm h16
    have hwa : wrap64 (-((n : Int) + 1)) = -((n : Int) + 1) := by unfold wrap64; omega
    go_wp2
    refine wp_loop_rounds 2 ?_
    rw [rounds_succ]
    go_wp2
    refine start_ (n := 26) (S := fun w' => w2.grownBy w' none) (ds := [25]) #[false, false, false, false, false, false, false, false, false, false, false, false, false, false, false, false, false, false, false, false, false, false, false, false, false, false] (by kernel_rfl) rfl rfl HG0_.out (fun hHeld => ?_)
    refine pure_ (i := 0) (N := (some 37)) (v := ?_) (a' := ?_) #[true, false, false, false, false, false, false, false, false, false, false, false, false, false, false, false, false, false, false, false, false, false, false, false, false, false] rfl rfl (by kernel_rfl) (fun _ _ _ h => h) (Or.inl ⟨by rfl, ?_⟩) ?_ ?_
    rotate_left
    · intro w'
      go_simp
      with_reducible rfl
    rotate_left
    · simp only [Act.put, List.setIfInBounds_toArray, List.set_cons_zero, List.set_cons_succ, i64_w, i32_w]
      rfl
    refine pure_ (i := 1) (N := (some 38)) (v := ?_) (a' := ?_) #[true, true, false, false, false, false, false, false, false, false, false, false, false, false, false, false, false, false, false, false, false, false, false, false, false, false] rfl rfl (by kernel_rfl) (fun _ _ _ h => h) (Or.inl ⟨by rfl, ?_⟩) ?_ ?_
    rotate_left
    · intro w'
      go_simp
      with_reducible rfl
    rotate_left
    · simp only [Act.put, List.setIfInBounds_toArray, List.set_cons_zero, List.set_cons_succ, i64_w, i32_w]
      rfl
    refine pure_ (i := 2) (N := (some 39)) (v := ?_) (a' := ?_) #[true, true, true, false, false, false, false, false, false, false, false, false, false, false, false, false, false, false, false, false, false, false, false, false, false, false] rfl rfl (by kernel_rfl) (fun _ _ _ h => h) (Or.inl ⟨by rfl, ?_⟩) ?_ ?_
    rotate_left
    · intro w'
      go_simp
      with_reducible rfl
    rotate_left
    · simp only [Act.put, List.setIfInBounds_toArray, List.set_cons_zero, List.set_cons_succ, i64_w, i32_w]
      rfl
    refine take_ (i := 3) (N := (some 40)) (v := ?_) (a' := ?_) #[true, true, true, true, false, false, false, false, false, false, false, false, false, false, false, false, false, false, false, false, false, false, false, false, false, false] rfl rfl (by kernel_rfl) (fun _ _ _ h => h) (Or.inl ⟨by rfl, ?_⟩) hHeld ?_ ?_
    rotate_left
    · intro w' s0
      have s1 := HR_.out _ s0
      have hc4_ := s1.c4
      have hc0_ := s1.c0
      have hcv_ := s1.cv
      have hlk_ := s1.lk
      clear s1 s0
      go_simp
      with_reducible rfl
    rotate_left
    · simp only [Act.put, List.setIfInBounds_toArray, List.set_cons_zero, List.set_cons_succ, i64_w, i32_w]
      rfl
    refine pure_ (i := 4) (N := (some 41)) (v := ?_) (a' := ?_) #[true, true, true, true, true, false, false, false, false, false, false, false, false, false, false, false, false, false, false, false, false, false, false, false, false, false] rfl rfl (by kernel_rfl) (fun _ _ _ h => h) (Or.inl ⟨by rfl, ?_⟩) ?_ ?_
    rotate_left
    · intro w'
      go_simp
      with_reducible rfl
    rotate_left
    · simp only [Act.put, List.setIfInBounds_toArray, List.set_cons_zero, List.set_cons_succ, i64_w, i32_w]
      rfl
    refine pure_ (i := 5) (N := (some 42)) (v := ?_) (a' := ?_) #[true, true, true, true, true, true, false, false, false, false, false, false, false, false, false, false, false, false, false, false, false, false, false, false, false, false] rfl rfl (by kernel_rfl) (fun _ _ _ h => h) (Or.inl ⟨by rfl, ?_⟩) ?_ ?_
    rotate_left
    · intro w'
      go_simp
      with_reducible rfl
    rotate_left
    · simp only [Act.put, List.setIfInBounds_toArray, List.set_cons_zero, List.set_cons_succ, i64_w, i32_w]
      rfl
    refine pure_ (i := 6) (N := (some 43)) (v := ?_) (a' := ?_) #[true, true, true, true, true, true, true, false, false, false, false, false, false, false, false, false, false, false, false, false, false, false, false, false, false, false] rfl rfl (by kernel_rfl) (fun _ _ _ h => h) (Or.inl ⟨by rfl, ?_⟩) ?_ ?_
    rotate_left
    · intro w'
      go_simp
      with_reducible rfl
    rotate_left
    · simp only [Act.put, List.setIfInBounds_toArray, List.set_cons_zero, List.set_cons_succ, i64_w, i32_w]
      rfl
    refine take_ (i := 7) (N := (some 44)) (v := ?_) (a' := ?_) #[true, true, true, true, true, true, true, true, false, false, false, false, false, false, false, false, false, false, false, false, false, false, false, false, false, false] rfl rfl (by kernel_rfl) (fun _ _ _ h => h) (Or.inl ⟨by rfl, ?_⟩) hHeld ?_ ?_
    rotate_left
    · intro w' s0
      have s1 := HR_.out _ s0
      have hc4_ := s1.c4
      have hc0_ := s1.c0
      have hcv_ := s1.cv
      have hlk_ := s1.lk
      clear s1 s0
      go_simp
      with_reducible rfl
    rotate_left
    · simp only [Act.put, List.setIfInBounds_toArray, List.set_cons_zero, List.set_cons_succ, i64_w, i32_w]
      rfl
    refine take_ (i := 8) (N := (some 45)) (v := ?_) (a' := ?_) #[true, true, true, true, true, true, true, true, true, false, false, false, false, false, false, false, false, false, false, false, false, false, false, false, false, false] rfl rfl (by kernel_rfl) (fun _ _ _ h => h) (Or.inl ⟨by rfl, ?_⟩) hHeld ?_ ?_
    rotate_left
    · intro w' s0
      have s1 := HR_.out _ s0
      have hc4_ := s1.c4
      have hc0_ := s1.c0
      have hcv_ := s1.cv
      have hlk_ := s1.lk
      clear s1 s0
      go_simp
      with_reducible rfl
    rotate_left
    · simp only [Act.put, List.setIfInBounds_toArray, List.set_cons_zero, List.set_cons_succ, i64_w, i32_w]
      rfl
    refine pure_ (i := 9) (N := (some 46)) (v := ?_) (a' := ?_) #[true, true, true, true, true, true, true, true, true, true, false, false, false, false, false, false, false, false, false, false, false, false, false, false, false, false] rfl rfl (by kernel_rfl) (fun _ _ _ h => h) (Or.inl ⟨by rfl, ?_⟩) ?_ ?_
    rotate_left
    · intro w'
      go_simp
      with_reducible rfl
    rotate_left
    · simp only [Act.put, List.setIfInBounds_toArray, List.set_cons_zero, List.set_cons_succ, i64_w, i32_w]
      rfl
    refine pure_ (i := 10) (N := (some 47)) (v := ?_) (a' := ?_) #[true, true, true, true, true, true, true, true, true, true, true, false, false, false, false, false, false, false, false, false, false, false, false, false, false, false] rfl rfl (by kernel_rfl) (fun _ _ _ h => h) (Or.inl ⟨by rfl, ?_⟩) ?_ ?_
    rotate_left
    · intro w'
      go_simp
      with_reducible rfl
    rotate_left
    · simp only [Act.put, List.setIfInBounds_toArray, List.set_cons_zero, List.set_cons_succ, i64_w, i32_w]
      rfl
    refine pure_ (i := 11) (N := (some 48)) (v := ?_) (a' := ?_) #[true, true, true, true, true, true, true, true, true, true, true, true, false, false, false, false, false, false, false, false, false, false, false, false, false, false] rfl rfl (by kernel_rfl) (fun _ _ _ h => h) (Or.inl ⟨by rfl, ?_⟩) ?_ ?_
    rotate_left
    · intro w'
      go_simp
      with_reducible rfl
    rotate_left
    · simp only [Act.put, List.setIfInBounds_toArray, List.set_cons_zero, List.set_cons_succ, i64_w, i32_w]
      rfl
    refine take_ (i := 12) (N := (some 49)) (v := ?_) (a' := ?_) #[true, true, true, true, true, true, true, true, true, true, true, true, true, false, false, false, false, false, false, false, false, false, false, false, false, false] rfl rfl (by kernel_rfl) (fun _ _ _ h => h) (Or.inl ⟨by rfl, ?_⟩) hHeld ?_ ?_
    rotate_left
    · intro w' s0
      have s1 := HR_.out _ s0
      have hc4_ := s1.c4
      have hc0_ := s1.c0
      have hcv_ := s1.cv
      have hlk_ := s1.lk
      clear s1 s0
      go_simp
      with_reducible rfl
    rotate_left
    · simp only [Act.put, List.setIfInBounds_toArray, List.set_cons_zero, List.set_cons_succ, i64_w, i32_w]
      rfl
    refine pure_ (i := 13) (N := (some 50)) (v := ?_) (a' := ?_) #[true, true, true, true, true, true, true, true, true, true, true, true, true, true, false, false, false, false, false, false, false, false, false, false, false, false] rfl rfl (by kernel_rfl) (fun _ _ _ h => h) (Or.inl ⟨by rfl, ?_⟩) ?_ ?_
    rotate_left
    · intro w'
      go_simp
      with_reducible rfl
    rotate_left
    · simp only [Act.put, List.setIfInBounds_toArray, List.set_cons_zero, List.set_cons_succ, i64_w, i32_w]
      rfl
    refine pure_ (i := 14) (N := (some 51)) (v := ?_) (a' := ?_) #[true, true, true, true, true, true, true, true, true, true, true, true, true, true, true, false, false, false, false, false, false, false, false, false, false, false] rfl rfl (by kernel_rfl) (fun _ _ _ h => h) (Or.inl ⟨by rfl, ?_⟩) ?_ ?_
    rotate_left
    · intro w'
      go_simp
      with_reducible rfl
    rotate_left
    · simp only [Act.put, List.setIfInBounds_toArray, List.set_cons_zero, List.set_cons_succ, i64_w, i32_w]
      rfl
    refine pure_ (i := 15) (N := (some 52)) (v := ?_) (a' := ?_) #[true, true, true, true, true, true, true, true, true, true, true, true, true, true, true, true, false, false, false, false, false, false, false, false, false, false] rfl rfl (by kernel_rfl) (fun _ _ _ h => h) (Or.inl ⟨by rfl, ?_⟩) ?_ ?_
    rotate_left
    · intro w'
      go_simp
      with_reducible rfl
    rotate_left
    · simp only [Act.put, List.setIfInBounds_toArray, List.set_cons_zero, List.set_cons_succ, i64_w, i32_w]
      rfl
    refine take_ (i := 16) (N := (some 53)) (v := ?_) (a' := ?_) #[true, true, true, true, true, true, true, true, true, true, true, true, true, true, true, true, true, false, false, false, false, false, false, false, false, false] rfl rfl (by kernel_rfl) (fun _ _ _ h => h) (Or.inl ⟨by rfl, ?_⟩) hHeld ?_ ?_
    rotate_left
    · intro w' s0
      have s1 := HR_.out _ s0
      have hc4_ := s1.c4
      have hc0_ := s1.c0
      have hcv_ := s1.cv
      have hlk_ := s1.lk
      clear s1 s0
      go_simp
      with_reducible rfl
    rotate_left
    · simp only [Act.put, List.setIfInBounds_toArray, List.set_cons_zero, List.set_cons_succ, i64_w, i32_w]
      rfl
    refine take_ (i := 17) (N := (some 54)) (v := ?_) (a' := ?_) #[true, true, true, true, true, true, true, true, true, true, true, true, true, true, true, true, true, true, false, false, false, false, false, false, false, false] rfl rfl (by kernel_rfl) (fun _ _ _ h => h) (Or.inl ⟨by rfl, ?_⟩) hHeld ?_ ?_
    rotate_left
    · intro w' s0
      have s1 := HR_.out _ s0
      have hc4_ := s1.c4
      have hc0_ := s1.c0
      have hcv_ := s1.cv
      have hlk_ := s1.lk
      clear s1 s0
      go_simp
      with_reducible rfl
    rotate_left
    · simp only [Act.put, List.setIfInBounds_toArray, List.set_cons_zero, List.set_cons_succ, i64_w, i32_w]
      rfl
    refine take_ (i := 18) (N := (some 55)) (v := ?_) (a' := ?_) #[true, true, true, true, true, true, true, true, true, true, true, true, true, true, true, true, true, true, true, false, false, false, false, false, false, false] rfl rfl (by kernel_rfl) (fun _ _ _ h => h) (Or.inl ⟨by rfl, ?_⟩) hHeld ?_ ?_
    rotate_left
    · intro w' s0
      have s1 := HR_.out _ s0
      have hc4_ := s1.c4
      have hc0_ := s1.c0
      have hcv_ := s1.cv
      have hlk_ := s1.lk
      clear s1 s0
      go_simp
      with_reducible rfl
    rotate_left
    · simp only [Act.put, List.setIfInBounds_toArray, List.set_cons_zero, List.set_cons_succ, i64_w, i32_w]
      rfl
    refine pure_ (i := 19) (N := (some 56)) (v := ?_) (a' := ?_) #[true, true, true, true, true, true, true, true, true, true, true, true, true, true, true, true, true, true, true, true, false, false, false, false, false, false] rfl rfl (by kernel_rfl) (fun _ _ _ h => h) (Or.inl ⟨by rfl, ?_⟩) ?_ ?_
    rotate_left
    · intro w'
      go_simp
      with_reducible rfl
    rotate_left
    · simp only [Act.put, List.setIfInBounds_toArray, List.set_cons_zero, List.set_cons_succ, i64_w, i32_w]
      rfl
    refine pure_ (i := 20) (N := (some 57)) (v := ?_) (a' := ?_) #[true, true, true, true, true, true, true, true, true, true, true, true, true, true, true, true, true, true, true, true, true, false, false, false, false, false] rfl rfl (by kernel_rfl) (fun _ _ _ h => h) (Or.inl ⟨by rfl, ?_⟩) ?_ ?_
    rotate_left
    · intro w'
      go_simp
      with_reducible rfl
    rotate_left
    · simp only [Act.put, List.setIfInBounds_toArray, List.set_cons_zero, List.set_cons_succ, i64_w, i32_w]
      rfl
    refine pure_ (i := 21) (N := (some 58)) (v := ?_) (a' := ?_) #[true, true, true, true, true, true, true, true, true, true, true, true, true, true, true, true, true, true, true, true, true, true, false, false, false, false] rfl rfl (by kernel_rfl) (fun _ _ _ h => h) (Or.inl ⟨by rfl, ?_⟩) ?_ ?_
    rotate_left
    · intro w'
      go_simp
      with_reducible rfl
    rotate_left
    · simp only [Act.put, List.setIfInBounds_toArray, List.set_cons_zero, List.set_cons_succ, i64_w, i32_w]
      rfl
    refine pure_ (i := 22) (N := (some 59)) (v := ?_) (a' := ?_) #[true, true, true, true, true, true, true, true, true, true, true, true, true, true, true, true, true, true, true, true, true, true, true, false, false, false] rfl rfl (by kernel_rfl) (fun _ _ _ h => h) (Or.inl ⟨by rfl, ?_⟩) ?_ ?_
    rotate_left
    · intro w'
      go_simp
      with_reducible rfl
    rotate_left
    · simp only [Act.put, List.setIfInBounds_toArray, List.set_cons_zero, List.set_cons_succ, i64_w, i32_w]
      rfl
    refine one_ (i := 23) (N := (some 60)) #[true, true, true, true, true, true, true, true, true, true, true, true, true, true, true, true, true, true, true, true, true, true, true, true, false, false] rfl rfl (by kernel_rfl) (by simp) (fun K_ hK_ => ?_)
    refine value_ (w1 := ?_) (v := ?_) (by rfl) rfl ?_ ?_
    rotate_left 2
    · go_simp
      constructor
      · rfl
      · rfl
    refine hK_ _ _ (HG1_.out) (fun _ => ?_)
    refine norm_ (a' := ?_) ?_ ?_
    rotate_left
    · show Act.put _ (some 60) _ = _
      simp only [Act.put, List.setIfInBounds_toArray, List.set_cons_zero, List.set_cons_succ]
      rfl
    refine one_ (i := 24) (N := (some 61)) #[true, true, true, true, true, true, true, true, true, true, true, true, true, true, true, true, true, true, true, true, true, true, true, true, true, false] rfl rfl (by kernel_rfl) (by simp) (fun K_ hK_ => ?_)
    refine ev_append (by rfl) (.tmp 55) (.tmp 60) 56 rfl rfl rfl HA_.out ?_
    refine hK_ _ _ (HG2_.out) (fun _ => ?_)
    refine norm_ (a' := ?_) ?_ ?_
    rotate_left
    · show Act.put _ (some 61) _ = _
      simp only [Act.put, List.setIfInBounds_toArray, List.set_cons_zero, List.set_cons_succ]
      rfl
    refine last_ (i := 25) (N := none) #[true, true, true, true, true, true, true, true, true, true, true, true, true, true, true, true, true, true, true, true, true, true, true, true, true, true] rfl rfl (by kernel_rfl) (by simp) (fun K_ hK_ => ?_)
    refine ev_put (by rfl) (.tmp 40) (.tmp 45) (.tmp 61) 39 rfl rfl rfl rfl HP_.out ?_
    refine hK_ _ _ ?_
    refine done_ (by kernel_rfl) ?_
    go_wp2
    rw [rounds_succ]
    go_wp2
    go_end0
    exact ⟨rfl, HB_.out⟩
end Go.Proofs.Ytohfnhfpiipglaa.Own
