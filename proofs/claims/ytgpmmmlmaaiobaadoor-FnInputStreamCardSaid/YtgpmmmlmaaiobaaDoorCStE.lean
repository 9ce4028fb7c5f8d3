/- The source of a stream: it gives its bytes piece by piece. -/
import Derived.Test.YtgpmmmlmaaiobaaDoorCStB
import Derived.Laws.CopyRow
namespace Go.Proofs.YtgpmmmlmaaiobaaDoor.Own
open Go.RowKit Go.Proofs.YtgpmmmlmaaiobaaDoorW.PrintWords Go.Proofs.YtgpmmmlmaaiobaaDoorW.PrintLast Go.Proofs.YtgpmmmlmaaiobaaDoorW.PrintMore
attribute [local go_sem] max2_int min2_int max_two min_two
set_option linter.unusedVariables false
set_option linter.unusedSimpArgs false
section
variable {P : Program} {ops : Array Oper} {o : Oper} {a : Act} {Q : Exit → Act → World → Prop} {Kc : Act → World → Prop}
theorem copy_step {W w1 : World} (hw : Region.wanted o (yielded ops a.tmps) = true) (s x : Operand) (t : TypeId) (ho : o.op = .call { callee := .builtin .copy, args := #[s, x], argTypes := #[t, t] }) {vs vx v : Value} (hs : a.eval s = vs) (hx : a.eval x = vx)
    (hr : ∀ ty, (Builtin.copy_ #[t, t] ty #[vs, vx]).run P W = .ok v w1) (h : Kc (a.put o.dst v) w1) : if Region.wanted o (yielded ops a.tmps) = true then Oper.wp P o a W Kc Q else Kc (a.put o.dst undef) W := by
  rw [if_pos hw]
  unfold Oper.wp execOp
  simp only [ho, resolve, invoke, builtin, Sem.run_bind, Sem.run_pure, Result.andThen_ok, List.map_toArray, List.map_cons, List.map_nil, hs, hx, hr]
  exact h
end
theorem types_eq {w : World} {g : Nat} {cs cs' : Array Value} {t t' : TypeId} {fr fr' : Nat × Nat} (h : w.heap[g]? = some (.cells cs t fr)) (h' : w.heap[g]? = some (.cells cs' t' fr')) : t = t' := by
  rw [h] at h'
  injection h' with h'
  injection h'
theorem sizeB : (Tryd.prog.info? 5).map (·.size) = some 1 := by kernel_rfl
def overL (full : List Int) (d : Nat) (xs : List Int) : List Int := full.take d ++ (xs ++ full.drop (d + xs.length))
theorem overL_len {full xs : List Int} {d : Nat} (h : d + xs.length ≤ full.length) : (overL full d xs).length = full.length := by unfold overL; simp; omega
theorem full_copy {W : World} {g d m cm L c3 : Nat} {full xs : List Int} {sp : Option Addr} (hg : W.heap[g]? = some (.cells (u8i full).toArray 5 (0, 0))) (hx : 0 < xs.length) (hn : xs.length = Nat.min L m) (hfit : d + m ≤ full.length)
    (hsp : ∃ ad, sp = some ad ∧ ∀ j (hj : j < xs.length), W.cell? (ad.add j) = some (.int .u8 xs[j])) :
    ∃ w1, (∀ ty, (Builtin.copy_ #[22, 22] ty #[.slice (some ⟨g, d, none⟩) m cm, .slice sp L c3]).run Tryd.prog W = .ok (.int .i64 (xs.length : Int)) w1) ∧ w1.heap[g]? = some (.cells (u8i (overL full d xs)).toArray 5 (0, 0)) ∧ W.grownBy w1 (some g) ∧ w1.heap.size = W.heap.size := by
  obtain ⟨ad, rfl, hc⟩ := hsp
  have hl : (u8i xs).length = xs.length := by simp [u8i]
  have hrun := fun ty => run_copy_row (P := Tryd.prog) W 22 22 ty 5 g d m cm ad L c3 (u8i full).toArray 5 (u8i xs) Tryd.underlying22 sizeB hg (by rw [hl]; exact hn)
    (fun j v hj => by
      have hjl : j < xs.length := by have := (List.getElem?_eq_some_iff.1 hj).1; simpa [u8i] using this
      rw [hc j hjl, ← hj]
      simp [u8i, hjl]) (by
      have : xs.length ≤ m := by rw [hn]; exact Nat.min_le_right _ _
      rw [hl]; simp [u8i]; omega) (fun v hv => by obtain ⟨x, _, rfl⟩ := List.mem_map.1 hv; rfl)
  rw [hl] at hrun
  refine ⟨_, hrun, ?_, ⟨rfl, rfl, rfl, by simp [World.setRow], fun k _ hk => setRow_other W g k _ (fun e => hk (by rw [e]))⟩, by simp [World.setRow]⟩
  rw [setRow_heap W g _ _ _ _ hg]
  simp [u8i, overL]
/-- The source: what is left of its bytes, and how many it gives at once. -/
def SrcAt (w : World) (top base gs : Nat) (rest : List Int) (pc : Nat) : Prop :=
  ∃ (A : Option Addr) (c : Nat), w.heap[gs]? = some (.cells #[.slice A rest.length c, .int .i64 (pc : Int)] 79 (0, 0)) ∧ base ≤ gs ∧ rest.length ≤ c ∧ c ≤ maxLen ∧
    (0 < rest.length → ∃ (gd k : Nat) (cs : Array Value) (fr : Nat × Nat), A = some ⟨gd, k, none⟩ ∧ gd < top ∧ w.heap[gd]? = some (.cells cs 5 fr) ∧ ∀ j (hj : j < rest.length), cs[k + j]? = some (.int .u8 rest[j]))
theorem SrcAt.keep {w w' : World} {top base gs pc : Nat} {rest : List Int} (h : SrcAt w top base gs rest pc) (h1 : w'.heap[gs]? = w.heap[gs]?) (h2 : ∀ (k : Nat) (cs : Array Value) (fr : Nat × Nat), k < top → w.heap[k]? = some (.cells cs 5 fr) → w'.heap[k]? = w.heap[k]?) : SrcAt w' top base gs rest pc := by
  obtain ⟨A, c, k1, k2, k3, k4, k5⟩ := h
  refine ⟨A, c, h1.trans k1, k2, k3, k4, fun h0 => ?_⟩
  obtain ⟨gd, k, cs, fr, e1, e2, e3, e4⟩ := k5 h0
  exact ⟨gd, k, cs, fr, e1, e2, (h2 gd cs fr e2 e3).trans e3, e4⟩
/-- What the source gives: some bytes, at the place told in a buffer; or that there are none. -/
def GivePost (top base gs g d m : Nat) (full rest : List Int) (pc : Nat) (u : TypeId) (ev : Value) (w : World) (e : Ending) (w' : World) : Prop :=
  (rest = [] ∧ e = .returned (.tuple #[.int .i64 0, .iface u ev]) ∧ ∃ nq, w' = w.drewN nq) ∨
  ∃ (n : Nat) (w1 : World), 0 < n ∧ n ≤ rest.length ∧ n ≤ m ∧ e = .returned (.tuple #[.int .i64 (n : Int), .nilIface]) ∧ w'.heap[g]? = some (.cells (u8i (overL full d (rest.take n))).toArray 5 (0, 0)) ∧ SrcAt w' top base gs (rest.drop n) pc ∧ w.grownBy w1 (some g) ∧ w1.grownBy w' (some gs)
set_option maxRecDepth 20000 in
set_option maxHeartbeats 4000000 in
theorem src_read (top base gs g d m : Nat) (full rest : List Int) (pc : Nat) (u : TypeId) (ev : Value) (w : World) (hE : w.cell? ⟨0, 0, none⟩ = some (.iface u ev)) (hs : SrcAt w top base gs rest pc) (hg : w.heap[g]? = some (.cells (u8i full).toArray 5 (0, 0))) (htop : top ≤ g) (hm : 0 < m) (hfit : d + m = full.length) (hfew : full.length ≤ 2000) (hr : rest.length ≤ 1000) (hp0 : 1 ≤ pc) (hp1 : pc ≤ 300) :
    Calls Tryd.prog 91 #[.pointer (some ⟨gs, 0, none⟩), .slice (some ⟨g, d, none⟩) m m] w (GivePost top base gs g d m full rest pc u ev w) := by
  have HS := Aside0.mk hs
  have HG := Aside0.mk hg
  obtain ⟨A, c, hblk, hbgs, hlc, hcm, hdat⟩ := hs
  have b0 : w.cell? ⟨gs, 0, none⟩ = some (.slice A rest.length c) := (blk_cell hblk 0).trans rfl
  have b1 : w.cell? ⟨gs, 1, none⟩ = some (.int .i64 (pc : Int)) := (blk_cell hblk 1).trans rfl
  have bf0 : w.frozen? ⟨gs, 0, none⟩ = false := blk_frozen hblk 0
  have HBL := Aside0.mk hblk
  have HD := Aside0.mk hdat
  clear hblk hdat hg
  rcases Nat.eq_zero_or_pos rest.length with h0 | h0
  · have hr0 := List.eq_nil_of_length_eq_zero h0
    rw [h0] at b0
    have hz : (((0 : Nat) : Int) == 0) = true := rfl
    have HR0 := Aside0.mk hr0
    clear hr0 HS HD h0 hr hlc
    go_enter Tryd.func91, Tryd.ntmps91
    go_wp2
    go_quiet (fail)
    all_goals go_wp2
    all_goals go_ret2
    all_goals exact .inl ⟨HR0.out, rfl, nq, rfl⟩
  · obtain ⟨gd, k, cs, fr, rfl, hgd, hgb, hcell⟩ := HD.out h0
    obtain ⟨n0, hn0⟩ : ∃ n, n = min pc rest.length := ⟨_, rfl⟩
    obtain ⟨n1, hn1⟩ : ∃ n, n = min n0 m := ⟨_, rfl⟩
    have q1 : 0 < n1 := by omega
    have q2 : n1 ≤ rest.length := by omega
    have q3 : n1 ≤ m := by omega
    have q4 : n0 ≤ rest.length := by omega
    have q5 : n0 ≤ c := by omega
    have hgs : gs ≠ g := fun e => by
      exact absurd (types_eq HG.out (e ▸ HBL.out)) (by decide)
    obtain ⟨w1, hrun, hg1, hgr, hsz⟩ := full_copy (W := w.drew) (g := g) (d := d) (m := m) (cm := m) (L := n0) (c3 := c) (full := full) (xs := rest.take n1) (sp := some ⟨gd, k, none⟩) HG.out (by rw [List.length_take]; omega) (by rw [List.length_take, Nat.min_eq_left q2, hn1]) (by omega)
      ⟨_, rfl, fun j hj => by
        rw [List.length_take, Nat.min_eq_left q2] at hj
        rw [add_at, cell_of_row _ gd (k + j) cs _ fr (show w.drew.heap[gd]? = _ from hgb), hcell j (by omega), List.getElem_take]⟩
    rw [List.length_take, Nat.min_eq_left q2] at hrun
    have hb1 : w1.heap[gs]? = some (.cells #[.slice (some ⟨gd, k, none⟩) rest.length c, .int .i64 (pc : Int)] 79 (0, 0)) := (hgr.block gs (Array.getElem?_eq_some_iff.1 HBL.out).1 (by simpa using hgs)).trans HBL.out
    have v0 : w1.cell? ⟨gs, 0, none⟩ = some (.slice (some ⟨gd, k, none⟩) rest.length c) := (blk_cell hb1 0).trans rfl
    have v1 : w1.cell? ⟨gs, 1, none⟩ = some (.int .i64 (pc : Int)) := (blk_cell hb1 1).trans rfl
    have vf : w1.frozen? ⟨gs, 0, none⟩ = false := blk_frozen hb1 0
    have hd1 : w1.heap[gd]? = some (.cells cs 5 fr) := (hgr.block gd (Array.getElem?_eq_some_iff.1 hgb).1 (by simp; omega)).trans hgb
    have HR := Aside0.mk hrun
    have HX := Aside0.mk (And.intro hg1 (And.intro hgr (And.intro hb1 hd1)))
    have HN := Aside0.mk (And.intro hn0 hn1)
    have HC := Aside0.mk hcell
    have HGD := Aside0.mk hgb
    have hz : ((rest.length : Int) == 0) = false := beq_eq_false_iff_ne.mpr (by omega)
    have hmx : (if (pc : Int) < 1 then (1 : Int) else (pc : Int)) = (pc : Int) := by rw [if_neg (by omega)]
    obtain ⟨L, hL⟩ : ∃ L, L = rest.length := ⟨_, rfl⟩
    rw [← hL] at b0 v0 hz q2 q4 hr h0 hlc hn0
    have hmn : (if L < pc then (L : Int) else (pc : Int)) = (n0 : Int) := by
      by_cases h : L < pc
      · rw [if_pos h, hn0, Nat.min_eq_right (by omega)]
      · rw [if_neg h, hn0, Nat.min_eq_left (by omega)]
    have HL := Aside0.mk hL
    clear hrun hg1 hgr hb1 hd1 hn0 hn1 hcell hgb HD hL hsz
    go_enter Tryd.func91, Tryd.ntmps91
    go_wp2
    refine start_ (n := 19) (S := fun w' => w'.cell? ⟨gs, 0, none⟩ = some (.slice (some ⟨gd, k, none⟩) L c) ∧ w'.cell? ⟨gs, 1, none⟩ = some (.int .i64 (pc : Int))) (ds := []) #[false, false, false, false, false, false, false, false, false, false, false, false, false, false, false, false, false, false, false] (by kernel_rfl) rfl rfl ⟨b0, b1⟩ (fun hHeld => ?_)
    refine pure_ (i := 0) (N := (some 14)) (v := ?_) (a' := ?_) #[true, false, false, false, false, false, false, false, false, false, false, false, false, false, false, false, false, false, false] rfl rfl (by kernel_rfl) (fun _ _ _ h => h) (Or.inl ⟨by rfl, ?_⟩) ?_ ?_
    rotate_left
    · intro w'
      go_simp
      with_reducible rfl
    rotate_left
    · simp only [Act.put, List.setIfInBounds_toArray, List.set_cons_zero, List.set_cons_succ, i64_w, i32_w]
      rfl
    refine pure_ (i := 1) (N := (some 15)) (v := ?_) (a' := ?_) #[true, true, false, false, false, false, false, false, false, false, false, false, false, false, false, false, false, false, false] rfl rfl (by kernel_rfl) (fun _ _ _ h => h) (Or.inl ⟨by rfl, ?_⟩) ?_ ?_
    rotate_left
    · intro w'
      go_simp
      with_reducible rfl
    rotate_left
    · simp only [Act.put, List.setIfInBounds_toArray, List.set_cons_zero, List.set_cons_succ, i64_w, i32_w]
      rfl
    refine pure_ (i := 2) (N := (some 16)) (v := ?_) (a' := ?_) #[true, true, true, false, false, false, false, false, false, false, false, false, false, false, false, false, false, false, false] rfl rfl (by kernel_rfl) (fun _ _ _ h => h) (Or.inl ⟨by rfl, ?_⟩) ?_ ?_
    rotate_left
    · intro w'
      go_simp
      with_reducible rfl
    rotate_left
    · simp only [Act.put, List.setIfInBounds_toArray, List.set_cons_zero, List.set_cons_succ, i64_w, i32_w]
      rfl
    refine pure_ (i := 3) (N := (some 17)) (v := ?_) (a' := ?_) #[true, true, true, true, false, false, false, false, false, false, false, false, false, false, false, false, false, false, false] rfl rfl (by kernel_rfl) (fun _ _ _ h => h) (Or.inl ⟨by rfl, ?_⟩) ?_ ?_
    rotate_left
    · intro w'
      go_simp
      with_reducible rfl
    rotate_left
    · simp only [Act.put, List.setIfInBounds_toArray, List.set_cons_zero, List.set_cons_succ, i64_w, i32_w]
      rfl
    refine take_ (i := 4) (N := (some 18)) (v := ?_) (a' := ?_) #[true, true, true, true, true, false, false, false, false, false, false, false, false, false, false, false, false, false, false] rfl rfl (by kernel_rfl) (fun _ _ _ h => h) (Or.inl ⟨by rfl, ?_⟩) hHeld ?_ ?_
    rotate_left
    · intro w' s0
      obtain ⟨s1, s2⟩ := s0
      go_simp
      with_reducible rfl
    rotate_left
    · simp only [Act.put, List.setIfInBounds_toArray, List.set_cons_zero, List.set_cons_succ, i64_w, i32_w]
      rfl
    refine pure_ (i := 5) (N := (some 19)) (v := ?_) (a' := ?_) #[true, true, true, true, true, true, false, false, false, false, false, false, false, false, false, false, false, false, false] rfl rfl (by kernel_rfl) (fun _ _ _ h => h) (Or.inl ⟨by rfl, ?_⟩) ?_ ?_
    rotate_left
    · intro w'
      go_simp
      with_reducible rfl
    rotate_left
    · simp only [Act.put, List.setIfInBounds_toArray, List.set_cons_zero, List.set_cons_succ, i64_w, i32_w]
      rfl
    refine pure_ (i := 6) (N := (some 20)) (v := ?_) (a' := ?_) #[true, true, true, true, true, true, true, false, false, false, false, false, false, false, false, false, false, false, false] rfl rfl (by kernel_rfl) (fun _ _ _ h => h) (Or.inl ⟨by rfl, ?_⟩) ?_ ?_
    rotate_left
    · intro w'
      go_simp
      with_reducible rfl
    rotate_left
    · simp only [Act.put, List.setIfInBounds_toArray, List.set_cons_zero, List.set_cons_succ, i64_w, i32_w]
      rfl
    refine pure_ (i := 7) (N := (some 21)) (v := ?_) (a' := ?_) #[true, true, true, true, true, true, true, true, false, false, false, false, false, false, false, false, false, false, false] rfl rfl (by kernel_rfl) (fun _ _ _ h => h) (Or.inl ⟨by rfl, ?_⟩) ?_ ?_
    rotate_left
    · intro w'
      go_simp
      with_reducible rfl
    rotate_left
    · simp only [Act.put, List.setIfInBounds_toArray, List.set_cons_zero, List.set_cons_succ, i64_w, i32_w]
      rfl
    refine take_ (i := 8) (N := (some 22)) (v := ?_) (a' := ?_) #[true, true, true, true, true, true, true, true, true, false, false, false, false, false, false, false, false, false, false] rfl rfl (by kernel_rfl) (fun _ _ _ h => h) (Or.inl ⟨by rfl, ?_⟩) hHeld ?_ ?_
    rotate_left
    · intro w' s0
      obtain ⟨s1, s2⟩ := s0
      go_simp
      with_reducible rfl
    rotate_left
    · simp only [Act.put, List.setIfInBounds_toArray, List.set_cons_zero, List.set_cons_succ, i64_w, i32_w]
      rfl
    refine pure_ (i := 9) (N := (some 23)) (v := ?_) (a' := ?_) #[true, true, true, true, true, true, true, true, true, true, false, false, false, false, false, false, false, false, false] rfl rfl (by kernel_rfl) (fun _ _ _ h => h) (Or.inl ⟨by rfl, ?_⟩) ?_ ?_
    rotate_left
    · intro w'
      go_simp
      with_reducible rfl
    rotate_left
    · simp only [Act.put, List.setIfInBounds_toArray, List.set_cons_zero, List.set_cons_succ, i64_w, i32_w]
      rfl
    refine pure_ (i := 10) (N := (some 24)) (v := ?_) (a' := ?_) #[true, true, true, true, true, true, true, true, true, true, true, false, false, false, false, false, false, false, false] rfl rfl (by kernel_rfl) (fun _ _ _ h => h) (Or.inl ⟨by rfl, ?_⟩) ?_ ?_
    rotate_left
    · intro w'
      go_simp
      with_reducible rfl
    rotate_left
    · simp only [Act.put, List.setIfInBounds_toArray, List.set_cons_zero, List.set_cons_succ, i64_w, i32_w]
      rfl
    refine pure_ (i := 11) (N := (some 25)) (v := ?_) (a' := ?_) #[true, true, true, true, true, true, true, true, true, true, true, true, false, false, false, false, false, false, false] rfl rfl (by kernel_rfl) (fun _ _ _ h => h) (Or.inl ⟨by rfl, ?_⟩) ?_ ?_
    rotate_left
    · intro w'
      go_simp
      with_reducible rfl
    rotate_left
    · simp only [Act.put, List.setIfInBounds_toArray, List.set_cons_zero, List.set_cons_succ, i64_w, i32_w]
      rfl
    refine pure_ (i := 12) (N := (some 26)) (v := ?_) (a' := ?_) #[true, true, true, true, true, true, true, true, true, true, true, true, true, false, false, false, false, false, false] rfl rfl (by kernel_rfl) (fun _ _ _ h => h) (Or.inl ⟨by rfl, ?_⟩) ?_ ?_
    rotate_left
    · intro w'
      go_simp
      with_reducible rfl
    rotate_left
    · simp only [Act.put, List.setIfInBounds_toArray, List.set_cons_zero, List.set_cons_succ, i64_w, i32_w]
      rfl
    refine take_ (i := 13) (N := (some 27)) (v := ?_) (a' := ?_) #[true, true, true, true, true, true, true, true, true, true, true, true, true, true, false, false, false, false, false] rfl rfl (by kernel_rfl) (fun _ _ _ h => h) (Or.inl ⟨by rfl, ?_⟩) hHeld ?_ ?_
    rotate_left
    · intro w' s0
      obtain ⟨s1, s2⟩ := s0
      go_simp
      with_reducible rfl
    rotate_left
    · simp only [Act.put, List.setIfInBounds_toArray, List.set_cons_zero, List.set_cons_succ, i64_w, i32_w]
      rfl
    refine pure_ (i := 14) (N := (some 28)) (v := ?_) (a' := ?_) #[true, true, true, true, true, true, true, true, true, true, true, true, true, true, true, false, false, false, false] rfl rfl (by kernel_rfl) (fun _ _ _ h => h) (Or.inl ⟨by rfl, ?_⟩) ?_ ?_
    rotate_left
    · intro w'
      go_simp
      with_reducible rfl
    rotate_left
    · simp only [Act.put, List.setIfInBounds_toArray, List.set_cons_zero, List.set_cons_succ, i64_w, i32_w]
      rfl
    refine pure_ (i := 15) (N := (some 29)) (v := ?_) (a' := ?_) #[true, true, true, true, true, true, true, true, true, true, true, true, true, true, true, true, false, false, false] rfl rfl (by kernel_rfl) (fun _ _ _ h => h) (Or.inl ⟨by rfl, ?_⟩) ?_ ?_
    rotate_left
    · intro w'
      go_simp
      with_reducible rfl
    rotate_left
    · simp only [Act.put, List.setIfInBounds_toArray, List.set_cons_zero, List.set_cons_succ, i64_w, i32_w]
      rfl
    refine pure_ (i := 16) (N := (some 30)) (v := ?_) (a' := ?_) #[true, true, true, true, true, true, true, true, true, true, true, true, true, true, true, true, true, false, false] rfl rfl (by kernel_rfl) (fun _ _ _ h => h) (Or.inl ⟨by rfl, ?_⟩) ?_ ?_
    rotate_left
    · intro w'
      go_simp
      with_reducible rfl
    rotate_left
    · simp only [Act.put, List.setIfInBounds_toArray, List.set_cons_zero, List.set_cons_succ, i64_w, i32_w]
      rfl
    refine one_ (i := 17) (N := (some 31)) #[true, true, true, true, true, true, true, true, true, true, true, true, true, true, true, true, true, true, false] rfl rfl (by kernel_rfl) (by simp) (fun K_ hK_ => ?_)
    refine copy_step (P := Tryd.prog) (by rfl) (.tmp 14) (.tmp 30) 22 rfl rfl rfl HR.out ?_
    simp only [Act.put, List.setIfInBounds_toArray, List.set_cons_zero, List.set_cons_succ]
    refine hK_ _ _ ⟨v0, v1⟩ (fun _ => ?_)
    refine pure_ (i := 18) (N := (some 6)) (v := ?_) (a' := ?_) #[true, true, true, true, true, true, true, true, true, true, true, true, true, true, true, true, true, true, true] rfl rfl (by kernel_rfl) (fun _ _ _ h => h) (Or.inl ⟨by rfl, ?_⟩) ?_ ?_
    rotate_left
    · intro w'
      go_simp
      with_reducible rfl
    rotate_left
    · simp only [Act.put, List.setIfInBounds_toArray, List.set_cons_zero, List.set_cons_succ, i64_w, i32_w]
      rfl
    refine done_ (by kernel_rfl) ?_
    go_wp2
    · go_ret2
      refine .inr ⟨n1, w1, q1, by rw [← HL.out]; exact q2, q3, rfl, ?_, ⟨some ⟨gd, k, none⟩, 0, ?_, hbgs, ?_, Nat.zero_le _, fun h => ?_⟩, World.grownBy.trans (⟨rfl, rfl, rfl, Nat.le_refl _, fun _ _ _ => rfl⟩ : w.grownBy w.drew (some g)) HX.out.2.1, Go.Lib.Hx.grownBy_set (Go.Lib.Hx.grownBy_refl _ _) _ rfl _⟩
      · rw [sc_ne (Ne.symm hgs)]; exact HX.out.1
      · rw [List.length_drop, ← HL.out]; exact sc_mark HX.out.2.2.1
      · rw [List.length_drop, ← HL.out]; omega
      · rw [List.length_drop, ← HL.out] at h; omega
    · go_ret2
      refine .inr ⟨n1, w1, q1, by rw [← HL.out]; exact q2, q3, rfl, ?_, ⟨some ⟨gd, k + n1, none⟩, c - n1, ?_, hbgs, ?_, by omega, fun h => ⟨gd, k + n1, cs, fr, rfl, hgd, ?_, fun j hj => ?_⟩⟩, World.grownBy.trans (⟨rfl, rfl, rfl, Nat.le_refl _, fun _ _ _ => rfl⟩ : w.grownBy w.drew (some g)) HX.out.2.1, Go.Lib.Hx.grownBy_set (Go.Lib.Hx.grownBy_refl _ _) _ rfl _⟩
      · rw [sc_ne (Ne.symm hgs)]; exact HX.out.1
      · rw [List.length_drop, ← HL.out]; exact sc_mark HX.out.2.2.1
      · rw [List.length_drop, ← HL.out]; omega
      · rw [sc_ne (fun e => by
          exact absurd (types_eq (e ▸ HGD.out) HBL.out) (by decide))]
        exact HX.out.2.2.2
      · rw [List.length_drop, ← HL.out] at hj
        have := HC.out (n1 + j) (by rw [← HL.out]; omega)
        rw [Nat.add_assoc, this, List.getElem_drop]
end Go.Proofs.YtgpmmmlmaaiobaaDoor.Own
