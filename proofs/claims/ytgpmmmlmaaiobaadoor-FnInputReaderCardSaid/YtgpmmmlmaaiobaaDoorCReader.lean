/- The contract of ReadPieces: a reader over bytes gives them in pieces of some sizes, and tells where there are none left. -/
import Derived.Test.YtgpmmmlmaaiobaaDoorCown
import Derived.Test.YtgpmmmlmaaiobaaDoorOwn
import Derived.Test.YtgpmmmlmaaiobaaDoorCEof
import Derived.Deep.RegionHeld3
import Derived.Laws.CopyOwn
import Derived.Outline
namespace Go.Proofs.YtgpmmmlmaaiobaaDoor.Own
open Go.RowKit Go.Proofs.YtgpmmmlmaaiobaaDoorW.PrintWords Go.Proofs.YtgpmmmlmaaiobaaDoorW.PrintLast
set_option linter.unusedVariables false
set_option linter.unusedSimpArgs false
def u8r (l : List Int) : List Value := l.map (Value.int .u8)
theorem infoR : (Tryd.prog.info? 5).map (fun i => (i.zero, i.size, i.bytes)) = some (some (.int .u8 0), 1, 1) := by kernel_rfl
theorem sizeR : (Tryd.prog.info? 5).map (·.size) = some 1 := by kernel_rfl
/-- A reader of bytes: what it reads, and how far it is. -/
def ReAt (w : World) (gr : Nat) (v : Value) (pos : Nat) : Prop := w.heap[gr]? = some (.cells #[v, .int .i64 (pos : Int)] 81 (0, 0))
theorem newreader (A : Option Addr) (n c : Nat) (w : World) :
    Calls Tryd.prog 20 #[.slice A n c] w fun e w' => e = .returned (.pointer (some ⟨w.heap.size, 0, none⟩)) ∧ w' = w.alloc (.cells #[.slice A n c, .int .i64 0] 81) := by
  go_enter Tryd.func20, Tryd.ntmps20
  go_wp2
  go_ret
  exact ⟨rfl, rfl⟩
/-- A copy to the head of a row. -/
theorem copy_at {P : Program} {W : World} (t e : TypeId) (ht : P.underlying t = some (.slice e)) (hs : (P.info? e).map (·.size) = some 1) {gb size : Nat} {cur : Array Value} {sp : Option Addr} {sLen sCap : Nat} (cs : List Value)
    (hb : W.heap[gb]? = some (.cells cur e (0, 0))) (hsz : cur.size = size) (hn : cs.length = Nat.min sLen size) (hsrc : 0 < cs.length → ∃ ad, sp = some ad ∧ ∀ j v, cs[j]? = some v → W.cell? (ad.add j) = some v) (h1 : ∀ v ∈ cs, v.oneCell' = true) :
    ∃ (w1 : World) (cur' : Array Value), (∀ ty, (Builtin.copy_ #[t, t] ty #[.slice (some ⟨gb, 0, none⟩) size size, .slice sp sLen sCap]).run P W = .ok (goInt (cs.length : Int)) w1) ∧ w1.heap[gb]? = some (.cells cur' e (0, 0)) ∧ cur'.size = size ∧ cur'.toList.take cs.length = cs ∧ W.grownBy w1 (some gb) := by
  by_cases h0 : cs.length = 0
  · have hc : cs = [] := List.eq_nil_of_length_eq_zero h0
    refine ⟨W, cur, fun ty => ?_, hb, hsz, by subst hc; simp, World.grownBy.refl W _⟩
    have := run_copy_none (P := P) W t t ty e (some ⟨gb, 0, none⟩) sp size size sLen sCap ht hs (by omega)
    rw [this, h0]
    rfl
  · obtain ⟨ad, rfl, hsrc2⟩ := hsrc (by omega)
    have hle : cs.length ≤ size := by rw [hn]; exact Nat.min_le_right _ _
    obtain ⟨cur', h3, h4, h5⟩ := setCells_row cs 0 W cur hb (by omega)
    obtain ⟨s1, s2, s3, s4⟩ := setCells_same gb cs 0 W
    refine ⟨_, cur', fun ty => run_copy_cells (P := P) W t t ty e gb 0 size size ad sLen sCap cs ht hs hn hsrc2 (fun j hj => by rw [cell_of_row W gb _ cur e (0, 0) hb]; simp; omega) (fun j _ => blk_frozen hb _) h1, h3, by omega, by rw [h5]; simp, ⟨s1, s2, s3, by rw [s4]; exact Nat.le_refl _, fun k' _ hk' => setCells_far _ 0 k' (fun he => hk' (by rw [he]))⟩⟩
section
variable {P : Program} {ops : Array Oper} {o : Oper} {a : Act} {Q : Exit → Act → World → Prop} {Kc : Act → World → Prop}
theorem copy_step {W w1 : World} (hw : Region.wanted o (yielded ops a.tmps) = true) (s x : Operand) (t : TypeId) (ho : o.op = .call { callee := .builtin .copy, args := #[s, x], argTypes := #[t, t] }) {vs vx v : Value} (hs : a.eval s = vs) (hx : a.eval x = vx)
    (hr : ∀ ty, (Builtin.copy_ #[t, t] ty #[vs, vx]).run P W = .ok v w1) (h : Kc (a.put o.dst v) w1) : if Region.wanted o (yielded ops a.tmps) = true then Oper.wp P o a W Kc Q else Kc (a.put o.dst undef) W := by
  rw [if_pos hw]
  unfold Oper.wp execOp
  simp only [ho, resolve, invoke, builtin, Sem.run_bind, Sem.run_pure, Result.andThen_ok, List.map_toArray, List.map_cons, List.map_nil, hs, hx, hr]
  exact h
end
/-- What tells the end. -/
def endB (b : Bool) (u : TypeId) (ev : Value) : Value := if b = true then .iface u ev else .nilIface
theorem sc_neR {W : World} {g j k : Nat} {v : Value} (h : k ≠ g) : (W.setCell ⟨g, j, none⟩ v).heap[k]? = W.heap[k]? := Below.heap_setCell W ⟨g, j, none⟩ v k h
theorem grown_setR (w : World) (b i : Nat) (v : Value) : w.grownBy (w.setCell ⟨b, i, none⟩ v) (some b) :=
  ⟨rfl, rfl, rfl, by simp [World.setCell], fun k hk hne => RowKit.Below.heap_setCell _ _ _ _ (by intro e; exact hne (by rw [e]))⟩
def ReadPost (gr gb : Nat) (A : Option Addr) (c pos size : Nat) (l : List Int) (ae : Addr) (base : Nat) (w : World) (e : Ending) (w' : World) : Prop :=
  ∃ cur' : Array Value, e = .returned (.tuple #[.int .i64 ((min size (l.length - pos) : Nat) : Int), endB (decide (l.length ≤ pos)) 102 (.pointer (some ae))]) ∧
    w'.heap[gb]? = some (.cells cur' 5 (0, 0)) ∧ cur'.size = size ∧ cur'.toList.take (min size (l.length - pos)) = u8r ((l.drop pos).take size) ∧
    ReAt w' gr (.slice A l.length c) (pos + min size (l.length - pos)) ∧ Kept w w' (fun k => k = gb ∨ k = gr) ∧ Below base w w'
theorem read_end (gr gb n c pos size base : Nat) (A : Option Addr) (l : List Int) (ae : Addr) (w : World) (h : ReAt w gr (.slice A l.length c) pos) (hp : l.length ≤ pos) (hb : w.heap[gb]? = some (.cells (madeCells #[.int .u8 0] size) 5 (0, 0)))
    (hE : w.cell? ⟨0, 0, none⟩ = some (.iface 102 (.pointer (some ae)))) :
    Calls Tryd.prog 22 #[.pointer (some ⟨gr, 0, none⟩), .slice (some ⟨gb, 0, none⟩) size size] w (ReadPost gr gb A c pos size l ae base w) := by
  have h0 : w.cell? ⟨gr, 0, none⟩ = some (.slice A l.length c) := by simp only [World.cell?, show _ = _ from h]; rfl
  have h1 : w.cell? ⟨gr, 1, none⟩ = some (.int .i64 (pos : Int)) := by simp only [World.cell?, show _ = _ from h]; rfl
  have hmin : min size (l.length - pos) = 0 := by omega
  have hd : decide ((l.length : Int) ≤ (pos : Int)) = true := decide_eq_true (by omega)
  have hd2 : decide (l.length ≤ pos) = true := decide_eq_true hp
  have HPOST := Aside0.mk (show ∀ w' : World, (∃ n1 n2, w' = (w.drewN n1).drewN n2) → ReadPost gr gb A c pos size l ae base w (.returned (.tuple #[.int .i64 0, .iface 102 (.pointer (some ae))])) w' from fun w' hw' => by
    obtain ⟨n1, n2, rfl⟩ := hw'
    refine ⟨madeCells #[.int .u8 0] size, ?_, hb, by rw [size_madeCells] <;> simp, ?_, ?_, ⟨Nat.le_refl _, fun _ _ _ => rfl⟩, pw_below_drewN (pw_below_drewN (Below.refl _ _) n1) n2⟩
    · rw [hmin, hd2]; rfl
    · rw [hmin, List.drop_eq_nil_of_le hp]; simp [u8r]
    · rw [hmin]; exact h)
  clear h hmin hp hb
  go_enter Tryd.func22, Tryd.ntmps22
  go_wp2
  go_quiet (fail)
  go_wp2
  go_quiet (fail)
  go_wp2
  go_ret2
  exact HPOST.out _ ⟨_, _, rfl⟩
set_option maxHeartbeats 1000000 in
theorem read_more (gr gb c pos size base : Nat) (A : Option Addr) (l : List Int) (ae : Addr) (w : World) (h : ReAt w gr (.slice A l.length c) pos) (hC : Kd.C (Kd.int .u8) w A l.length l) (hc : l.length ≤ c) (hp : pos < l.length) (hb : w.heap[gb]? = some (.cells (madeCells #[.int .u8 0] size) 5 (0, 0)))
    (hne : gb ≠ gr) (hl : l.length < 35184372088832) (hs : size < 35184372088832) (hbb : base ≤ gb) (hbr : base ≤ gr) :
    Calls Tryd.prog 22 #[.pointer (some ⟨gr, 0, none⟩), .slice (some ⟨gb, 0, none⟩) size size] w (ReadPost gr gb A c pos size l ae base w) := by
  obtain ⟨ad, rfl, hcell⟩ := (Kd.reads_of_C (d := (0 : Int)) hC).2.2 (by omega)
  have hrb : w.heap[gr]? = some (.cells #[.slice (some ad) l.length c, .int .i64 (pos : Int)] 81 (0, 0)) := h
  have h0 : w.cell? ⟨gr, 0, none⟩ = some (.slice (some ad) l.length c) := by simp only [World.cell?, hrb]; rfl
  have h1 : w.cell? ⟨gr, 1, none⟩ = some (.int .i64 (pos : Int)) := by simp only [World.cell?, hrb]; rfl
  have hd : decide ((l.length : Int) ≤ (pos : Int)) = false := decide_eq_false (by omega)
  have hd2 : decide (l.length ≤ pos) = false := decide_eq_false (by omega)
  have hcp : ¬ (c = pos) := by omega
  obtain ⟨i0, hi0, _, hsz, _⟩ := info_parts infoR
  have hcut := cut_from (P := Tryd.prog) 22 5 .i64 Tryd.underlying22 hi0 1 hsz (some ad) l.length c (pos : Int) (by omega) (by omega)
  rw [Int.toNat_natCast, if_neg hcp, Option.map_some, Nat.mul_one] at hcut
  obtain ⟨cs, hcs⟩ : ∃ cs, cs = u8r ((l.drop pos).take size) := ⟨_, rfl⟩
  obtain ⟨m, hm⟩ : ∃ m, m = min size (l.length - pos) := ⟨_, rfl⟩
  have hcl : cs.length = m := by rw [hcs, hm]; simp [u8r]
  have hat : ∀ j v, cs[j]? = some v → w.cell? ((ad.add pos).add j) = some v := fun j v hj => by
    have hjl : j < m := by rw [← hcl]; exact (List.getElem?_eq_some_iff.1 hj).1
    have h1 := hcell (pos + j) (by omega)
    rw [add_add, h1, ← hj, hcs]
    simp [u8r, List.getElem?_take, show j < size by omega, List.getD_eq_getElem?_getD, List.getElem?_eq_getElem (show pos + j < l.length by omega)]
  have HEV := Aside0.mk (show ∀ nq : Nat, ∃ w1 : World, (∀ ty, (Builtin.copy_ #[22, 22] ty #[.slice (some ⟨gb, 0, none⟩) size size, .slice (some (ad.add pos)) (l.length - pos) (c - pos)]).run Tryd.prog (w.drewN nq).drew = .ok (.int .i64 (m : Int)) w1) ∧
      w1.cell? ⟨gr, 0, none⟩ = some (.slice (some ad) l.length c) ∧ w1.cell? ⟨gr, 1, none⟩ = some (.int .i64 (pos : Int)) ∧ w1.frozen? ⟨gr, 1, none⟩ = false ∧
      ReadPost gr gb (some ad) c pos size l ae base w (.returned (.tuple #[.int .i64 (m : Int), .nilIface])) (w1.setCell ⟨gr, 1, none⟩ (.int .i64 ((pos + m : Nat) : Int))) from fun nq => by
    obtain ⟨w1, cur', hrun, k1, k2, k3, k4⟩ := copy_at (P := Tryd.prog) (W := (w.drewN nq).drew) 22 5 Tryd.underlying22 sizeR (gb := gb) (size := size) (sp := some (ad.add pos)) (sLen := l.length - pos) (sCap := c - pos) cs (show (w.drewN nq).drew.heap[gb]? = _ from hb) (by rw [size_madeCells] <;> simp)
      (by rw [hcl, hm]; exact Nat.min_comm _ _) (fun _ => ⟨_, rfl, hat⟩) (fun v hv => by rw [hcs] at hv; obtain ⟨x, _, rfl⟩ := List.mem_map.1 hv; rfl)
    have hrb1 : w1.heap[gr]? = some (.cells #[.slice (some ad) l.length c, .int .i64 (pos : Int)] 81 (0, 0)) := by
      rw [k4.block gr (Array.getElem?_eq_some_iff.1 hrb).1 (by intro e; cases e; exact hne rfl)]
      exact hrb
    rw [hcl] at hrun
    refine ⟨w1, hrun, by simp only [World.cell?, hrb1]; rfl, by simp only [World.cell?, hrb1]; rfl, blk_frozen hrb1 _, cur', by rw [hd2, hm]; rfl, by rw [sc_neR hne]; exact k1, k2, by rw [← hm, ← hcl, k3, hcs], ?_, ?_, ?_⟩
    · rw [← hm]; exact (heap_setCell_same _ _ _ _ _ _ hrb1).trans rfl
    · exact (Kept.of_grown k4 (Kept.refl w _ : Kept w (w.drewN nq).drew (fun k => k = gb ∨ k = gr)) (fun k hk => .inl (.inl (Option.some.inj hk).symm))).setCell (.inl (.inr rfl)) _
    · exact pw_below_grown (pw_below_grown (pw_below_drewN (Below.refl base w) nq).drew (some gb) (Nat.le_trans hbr (Nat.le_of_lt (Array.getElem?_eq_some_iff.1 hrb).1)) k4 (fun q hq => by obtain rfl := Option.some.inj hq; exact hbb)) (some gr) (Nat.le_trans hbr (Nat.le_of_lt (Array.getElem?_eq_some_iff.1 hrb1).1)) (grown_setR _ _ _ _) (fun q hq => by obtain rfl := Option.some.inj hq; exact hbr))
  have hwr : wrap64 ((pos : Int) + (m : Int)) = ((pos + m : Nat) : Int) := by unfold wrap64; omega
  clear h hC hcell hat hcs hcl hi0 hsz hb hrb hm
  go_enter Tryd.func22, Tryd.ntmps22
  go_wp2
  go_quiet (fail)
  go_wp2
  obtain ⟨w1, hrun, c0, c1, f1, hpost⟩ := HEV.out nq
  have HPOST := Aside0.mk hpost
  have HRUN := Aside0.mk hrun
  clear hpost HEV hrun
  refine start_ (n := 12) (S := fun w' => w'.cell? ⟨gr, 0, none⟩ = some (.slice (some ad) l.length c) ∧ w'.cell? ⟨gr, 1, none⟩ = some (.int .i64 (pos : Int))) (ds := []) #[false, false, false, false, false, false, false, false, false, false, false, false] (by kernel_rfl) rfl rfl ⟨h0, h1⟩ (fun hHeld => ?_)
  refine pure_ (i := 0) (N := (some 18)) (v := ?_) (a' := ?_) #[true, false, false, false, false, false, false, false, false, false, false, false] rfl rfl (by kernel_rfl) (fun _ _ _ h => h) (Or.inl ⟨by rfl, ?_⟩) ?_ ?_
  rotate_left
  · intro w'
    go_simp
    with_reducible rfl
  rotate_left
  · simp only [Act.put, List.setIfInBounds_toArray, List.set_cons_zero, List.set_cons_succ, i64_w, i32_w]
    rfl
  refine pure_ (i := 1) (N := (some 19)) (v := ?_) (a' := ?_) #[true, true, false, false, false, false, false, false, false, false, false, false] rfl rfl (by kernel_rfl) (fun _ _ _ h => h) (Or.inl ⟨by rfl, ?_⟩) ?_ ?_
  rotate_left
  · intro w'
    go_simp
    with_reducible rfl
  rotate_left
  · simp only [Act.put, List.setIfInBounds_toArray, List.set_cons_zero, List.set_cons_succ, i64_w, i32_w]
    rfl
  refine pure_ (i := 2) (N := (some 20)) (v := ?_) (a' := ?_) #[true, true, true, false, false, false, false, false, false, false, false, false] rfl rfl (by kernel_rfl) (fun _ _ _ h => h) (Or.inl ⟨by rfl, ?_⟩) ?_ ?_
  rotate_left
  · intro w'
    go_simp
    with_reducible rfl
  rotate_left
  · simp only [Act.put, List.setIfInBounds_toArray, List.set_cons_zero, List.set_cons_succ, i64_w, i32_w]
    rfl
  refine pure_ (i := 3) (N := (some 21)) (v := ?_) (a' := ?_) #[true, true, true, true, false, false, false, false, false, false, false, false] rfl rfl (by kernel_rfl) (fun _ _ _ h => h) (Or.inl ⟨by rfl, ?_⟩) ?_ ?_
  rotate_left
  · intro w'
    go_simp
    with_reducible rfl
  rotate_left
  · simp only [Act.put, List.setIfInBounds_toArray, List.set_cons_zero, List.set_cons_succ, i64_w, i32_w]
    rfl
  refine take_ (i := 4) (N := (some 22)) (v := ?_) (a' := ?_) #[true, true, true, true, true, false, false, false, false, false, false, false] rfl rfl (by kernel_rfl) (fun _ _ _ h => h) (Or.inl ⟨by rfl, ?_⟩) hHeld ?_ ?_
  rotate_left
  · intro w' s0
    obtain ⟨s1, s2⟩ := s0
    go_simp
    with_reducible rfl
  rotate_left
  · simp only [Act.put, List.setIfInBounds_toArray, List.set_cons_zero, List.set_cons_succ, i64_w, i32_w]
    rfl
  refine pure_ (i := 5) (N := (some 23)) (v := ?_) (a' := ?_) #[true, true, true, true, true, true, false, false, false, false, false, false] rfl rfl (by kernel_rfl) (fun _ _ _ h => h) (Or.inl ⟨by rfl, ?_⟩) ?_ ?_
  rotate_left
  · intro w'
    go_simp
    with_reducible rfl
  rotate_left
  · simp only [Act.put, List.setIfInBounds_toArray, List.set_cons_zero, List.set_cons_succ, i64_w, i32_w]
    rfl
  refine pure_ (i := 6) (N := (some 24)) (v := ?_) (a' := ?_) #[true, true, true, true, true, true, true, false, false, false, false, false] rfl rfl (by kernel_rfl) (fun _ _ _ h => h) (Or.inl ⟨by rfl, ?_⟩) ?_ ?_
  rotate_left
  · intro w'
    go_simp
    with_reducible rfl
  rotate_left
  · simp only [Act.put, List.setIfInBounds_toArray, List.set_cons_zero, List.set_cons_succ, i64_w, i32_w]
    rfl
  refine pure_ (i := 7) (N := (some 25)) (v := ?_) (a' := ?_) #[true, true, true, true, true, true, true, true, false, false, false, false] rfl rfl (by kernel_rfl) (fun _ _ _ h => h) (Or.inl ⟨by rfl, ?_⟩) ?_ ?_
  rotate_left
  · intro w'
    go_simp
    with_reducible rfl
  rotate_left
  · simp only [Act.put, List.setIfInBounds_toArray, List.set_cons_zero, List.set_cons_succ, i64_w, i32_w]
    rfl
  refine take_ (i := 8) (N := (some 26)) (v := ?_) (a' := ?_) #[true, true, true, true, true, true, true, true, true, false, false, false] rfl rfl (by kernel_rfl) (fun _ _ _ h => h) (Or.inl ⟨by rfl, ?_⟩) hHeld ?_ ?_
  rotate_left
  · intro w' s0
    obtain ⟨s1, s2⟩ := s0
    go_simp
    with_reducible rfl
  rotate_left
  · simp only [Act.put, List.setIfInBounds_toArray, List.set_cons_zero, List.set_cons_succ, i64_w, i32_w]
    rfl
  refine pure_ (i := 9) (N := (some 27)) (v := ?_) (a' := ?_) #[true, true, true, true, true, true, true, true, true, true, false, false] rfl rfl (by kernel_rfl) (fun _ _ _ h => h) (Or.inl ⟨by rfl, ?_⟩) ?_ ?_
  rotate_left
  · intro w'
    go_simp
    with_reducible rfl
  rotate_left
  · simp only [Act.put, List.setIfInBounds_toArray, List.set_cons_zero, List.set_cons_succ, i64_w, i32_w]
    rfl
  refine one_ (i := 10) (N := (some 28)) #[true, true, true, true, true, true, true, true, true, true, true, false] rfl rfl (by kernel_rfl) (by simp) (fun K_ hK_ => ?_)
  refine copy_step (P := Tryd.prog) (by rfl) (.tmp 18) (.tmp 27) 22 rfl rfl rfl HRUN.out ?_
  refine hK_ _ _ ⟨c0, c1⟩ (fun _ => ?_)
  refine pure_ (i := 11) (N := (some 6)) (v := ?_) (a' := ?_) #[true, true, true, true, true, true, true, true, true, true, true, true] rfl rfl (by kernel_rfl) (fun _ _ _ h => h) (Or.inl ⟨by rfl, ?_⟩) ?_ ?_
  rotate_left
  · intro w'
    go_simp
    with_reducible rfl
  rotate_left
  · simp only [Act.put, List.setIfInBounds_toArray, List.set_cons_zero, List.set_cons_succ, i64_w, i32_w]
    rfl
  refine done_ (by kernel_rfl) ?_
  go_wp2
  go_ret2
  exact HPOST.out
theorem read_any (gr gb c pos size base : Nat) (A : Option Addr) (l : List Int) (ae : Addr) (w : World) (h : ReAt w gr (.slice A l.length c) pos) (hC : Kd.C (Kd.int .u8) w A l.length l) (hc : l.length ≤ c) (hb : w.heap[gb]? = some (.cells (madeCells #[.int .u8 0] size) 5 (0, 0)))
    (hne : gb ≠ gr) (hl : l.length < 35184372088832) (hs : size < 35184372088832) (hbb : base ≤ gb) (hbr : base ≤ gr) (hE : w.cell? ⟨0, 0, none⟩ = some (.iface 102 (.pointer (some ae)))) :
    Calls Tryd.prog 22 #[.pointer (some ⟨gr, 0, none⟩), .slice (some ⟨gb, 0, none⟩) size size] w (ReadPost gr gb A c pos size l ae base w) := by
  by_cases hp : pos < l.length
  · exact read_more gr gb c pos size base A l ae w h hC hc hp hb hne hl hs hbb hbr
  · exact read_end gr gb l.length c pos size base A l ae w h (by omega) hb hE
def rdP (l : List Int) : List Int → Nat → List (List Int)
  | [], _ => []
  | s :: t, p => (l.drop p).take s.toNat :: rdP l t (p + min s.toNat (l.length - p))
def rdE (l : List Int) : List Int → Nat → List Bool
  | [], _ => []
  | s :: t, p => decide (l.length ≤ p) :: rdE l t (p + min s.toNat (l.length - p))
theorem infoS : (Tryd.prog.info? 22).map (fun i => (i.zero, i.size, i.bytes)) = some (some (.slice none 0 0), 1, 24) := by kernel_rfl
theorem infoL : (Tryd.prog.info? 4).map (fun i => (i.zero, i.size, i.bytes)) = some (some (.bool false), 1, 1) := by kernel_rfl
theorem infoEPr : (Tryd.prog.info? 102).map (·.comparable) = some true := by kernel_rfl
theorem infoESr : (Tryd.prog.info? 119).isSome = true := by kernel_rfl
theorem eqEndB (b : Bool) (a : Addr) (W : World) : (binOp .eql 53 (endB b 102 (.pointer (some a))) (.iface 102 (.pointer (some a)))).run Tryd.prog W = .ok (.bool b) W := by
  obtain ⟨i, hi, hc⟩ := Option.map_eq_some_iff.1 infoEPr
  obtain ⟨j, hj⟩ := Option.isSome_iff_exists.1 infoESr
  unfold endB
  cases b
  · rw [if_neg (by simp)]
    exact run_eql_iface_nil_left W _ _ Tryd.underlying53
  · rw [if_pos rfl]
    exact run_eql_iface_ptr_same W a Tryd.underlying53 Tryd.underlying102 hi hc hj
theorem guardEndB (b : Bool) (a : Addr) (x y : Operand) : eqGuard .eql 53 x y (endB b 102 (.pointer (some a))) (.iface 102 (.pointer (some a))) = pure () := by
  cases b <;> rfl
theorem own_emptyR {W : World} {base g e size : Nat} (hb : W.heap[g]? = some (.cells #[] e (0, 0))) (hg : base ≤ g) : W.ownsRow base e size (.slice (some ⟨g, 0, none⟩) 0 0) 0 [] :=
  ⟨by simp, .inr ⟨g, 0, #[], rfl, hg, hb, Nat.le_refl _, by simp, by simp, by simp⟩⟩
/-- A row of one element that lies at the head of a block, read. -/
theorem lit_readR {α : Type} {W : World} {e b sz : Nat} {cs : List Value} (x : α) (hb : W.heap[b]? = some (.cells cs.toArray e (0, 0))) (hcs : cs.length = sz) : ReadsRow (fun y c => y = x ∧ c = cs) sz W (some ⟨b, 0, none⟩) 1 [x] := by
  refine ⟨rfl, by decide, fun _ => ⟨_, rfl, fun j q hj => ?_⟩⟩
  cases j with
  | succ j => simp at hj
  | zero =>
    obtain rfl : x = q := by simpa using hj
    refine ⟨cs, hcs, ⟨rfl, rfl⟩, fun i u hu => ?_⟩
    rw [add_plain, cell_of_row W b _ _ _ (0, 0) hb]
    simpa using hu
section
variable {P : Program} {ops : Array Oper} {o : Oper} {a : Act} {Q : Exit → Act → World → Prop} {Kc : Act → World → Prop}
/-- append(v, x), x a row of one element somewhere: rows of rows. -/
theorem S_append_lit_step {α : Type} (d : Kd α) {w0 W : World} (base : Nat) (hw : Region.wanted o (yielded ops a.tmps) = true) (s x : Operand) (t e : TypeId) (z : Value) (bytes : Nat)
    (ho : o.op = .call { callee := .builtin .append, args := #[s, x], argTypes := #[t, t] })
    (ht : P.underlying t = some (.slice e)) (hinfo : (P.info? e).map (fun i => (i.zero, i.size, i.bytes)) = some (some z, d.sz, bytes)) (hz : z.cells.size = d.sz) (hs0 : 0 < d.sz) (hb0 : 0 < bytes)
    (v : Value) (xs : List α) (p : α) (cs : List Value) (b c : Nat) (ok okp : Nat → Prop) (hs : a.eval s = v) (hx : a.eval x = .slice (some ⟨b, 0, none⟩) 1 c) (hb : W.heap[b]? = some (.cells cs.toArray e (0, 0))) (hp : d.M W base okp p cs) (hokp : ∀ k, okp k → ok k ∧ some k ≠ v.ownBlock) (hfresh : ∀ k, W.heap.size ≤ k → ok k)
    (HO : Kd.S d e W base (fun k => ok k ∧ ¬ okp k) v xs) (HB : Below base w0 W) (hbase : base ≤ W.heap.size) (hl : (xs.length + 1) * bytes ≤ 140737488355328)
    (h : ∀ v1 w1, Kd.S d e w1 base ok v1 (xs ++ [p]) → Below base w0 w1 → W.grownBy w1 v.ownBlock → (v1.ownBlock = v.ownBlock ∨ ∃ b, v1.ownBlock = some b ∧ W.heap.size ≤ b) → Kc (a.put o.dst v1) w1) :
    if Region.wanted o (yielded ops a.tmps) = true then Oper.wp P o a W Kc Q else Kc (a.put o.dst undef) W := by
  obtain ⟨f, hf, hR⟩ := Kd.S_tag HO xs.length okp (fun _ hk h2 => h2.2 hk)
  refine Kd.R_append_rows_step (Kd.tag f d) base hw s x t e z bytes ho ht hinfo hz hs0 hb0 v xs.zipIdx [(p, xs.length)] (some ⟨b, 0, none⟩) 1 c ok okp hs hx (Kd.R_mono hR (fun _ hk => hk.1)) (lit_readR (p, xs.length) hb (d.K_len (d.K_of_M hp)))
    (by rintro x cs ⟨rfl, rfl⟩; exact d.M_mono (fun k hk => ⟨hk, hf k hk⟩) hp) hokp hfresh HB hbase (by rw [List.length_zipIdx]; exact hl) ?_
  intro v1 w1 hr
  rw [← Kd.zip_snoc] at hr
  exact h v1 w1 ⟨f, hr⟩
end
theorem R_keepB {α : Type} {enc : α → Value} {h1 : ∀ x, (enc x).oneCell' = true} {w w' : World} {base e : Nat} {v : Value} {xs : List α} {ok : Nat → Prop} (h : (Kd.scalar enc h1).R e w base ok v xs) (hk : ∀ (g : Nat) (cur : Array Value), w.heap[g]? = some (.cells cur e (0, 0)) → w'.heap[g]? = some (.cells cur e (0, 0))) : (Kd.scalar enc h1).R e w' base ok v xs := by
  obtain ⟨h0, inner, ho, hr⟩ := h
  exact ⟨h0, inner, own_move ho (fun k hb => by obtain ⟨cs, hc⟩ := own_typed ho k hb; rw [hc, hk k cs hc]), hr.imp_ (fun _ _ hp => hp)⟩
/-- What holds in a round, ahead of the appends. -/
structure Pre8 (w w2 : World) (gr gb : Nat) (vA : Value) (p : Nat) (u7 : Value) (out : List (List Int)) (u8 : Value) (ends : List Bool) (pv : Value) (piece : List Int) (W : World) : Prop where mk ::
  s : Kd.S (Kd.slice 5 (Kd.int .u8)) 22 W w2.heap.size (fun k => w2.heap.size ≤ k ∧ k ≠ gb) u7 out
  r : Kd.R Kd.bool 4 W w2.heap.size (fun k => w2.heap.size ≤ k ∧ k ≠ gb) u8 ends
  pc : Kd.R (Kd.int .u8) 5 W w2.heap.size (fun k => k = gb) pv piece
  ra : ReAt W gr vA p
  k : Kept w2 W (fun k => k = gr)
  b : Below w.heap.size w W
  gt : w2.heap.size ≤ gb
  sz : w2.heap.size ≤ W.heap.size
theorem ReAt.lt {W : World} {gr : Nat} {vA : Value} {p : Nat} (h : ReAt W gr vA p) : gr < W.heap.size := (Array.getElem?_eq_some_iff.1 h).1
theorem Pre8.alloc {w w2 : World} {gr gb : Nat} {vA : Value} {p : Nat} {u7 : Value} {out : List (List Int)} {u8 : Value} {ends : List Bool} {pv : Value} {piece : List Int} {W : World} (h : Pre8 w w2 gr gb vA p u7 out u8 ends pv piece W) (o : Obj) : Pre8 w w2 gr gb vA p u7 out u8 ends pv piece (W.alloc o) :=
  ⟨Kd.S_alloc h.s o, Kd.R_alloc h.r o, Kd.R_alloc h.pc o, ((below_alloc (Below.refl W.heap.size W) o).block _ h.ra.lt).trans h.ra, h.k.alloc o, h.b.alloc h.b.size o, h.gt, by have := h.sz; simp; omega⟩
theorem Pre8.drew {w w2 : World} {gr gb : Nat} {vA : Value} {p : Nat} {u7 : Value} {out : List (List Int)} {u8 : Value} {ends : List Bool} {pv : Value} {piece : List Int} {W : World} (h : Pre8 w w2 gr gb vA p u7 out u8 ends pv piece W) : Pre8 w w2 gr gb vA p u7 out u8 ends pv piece W.drew :=
  ⟨Kd.S_drew h.s, Kd.R_drew h.r, Kd.R_drew h.pc, h.ra, h.k, h.b.drew, h.gt, h.sz⟩
/-- .. and behind the first of them. -/
structure Mid8 (w w2 : World) (gr : Nat) (vA : Value) (p : Nat) (out : List (List Int)) (u8 : Value) (ends : List Bool) (v : Value) (W : World) : Prop where mk ::
  s : Kd.S (Kd.slice 5 (Kd.int .u8)) 22 W w2.heap.size (fun k => w2.heap.size ≤ k) v out
  r : Kd.R Kd.bool 4 W w2.heap.size (fun k => w2.heap.size ≤ k) u8 ends
  ra : ReAt W gr vA p
  k : Kept w2 W (fun k => k = gr)
  b : Below w.heap.size w W
  sz : w2.heap.size ≤ W.heap.size
theorem Mid8.alloc {w w2 : World} {gr : Nat} {vA : Value} {p : Nat} {out : List (List Int)} {u8 : Value} {ends : List Bool} {v : Value} {W : World} (h : Mid8 w w2 gr vA p out u8 ends v W) (o : Obj) : Mid8 w w2 gr vA p out u8 ends v (W.alloc o) :=
  ⟨Kd.S_alloc h.s o, Kd.R_alloc h.r o, ((below_alloc (Below.refl W.heap.size W) o).block _ h.ra.lt).trans h.ra, h.k.alloc o, h.b.alloc h.b.size o, by have := h.sz; simp; omega⟩
section
variable {P : Program} {ops : Array Oper} {o : Oper} {a : Act} {Q : Exit → Act → World → Prop} {Kc : Act → World → Prop}
theorem ev5 {w w2 : World} {gr gb : Nat} {vA : Value} {p : Nat} {u7 : Value} {out : List (List Int)} {u8 : Value} {ends : List Bool} {pv : Value} {piece : List Int} {W : World} {b : Nat} {s x : Operand}
    (hw : Region.wanted o (yielded ops a.tmps) = true) (ho : o.op = .call { callee := .builtin .append, args := #[s, x], argTypes := #[26, 26] }) (hs : a.eval s = u7) (hx : a.eval x = .slice (some ⟨b, 0, none⟩) 1 1)
    (h : Pre8 w w2 gr gb vA p u7 out u8 ends pv piece W) (hg : gr < w2.heap.size) (hw2 : w.heap.size ≤ w2.heap.size) (hb : W.heap[b]? = some (.cells #[pv] 22 (0, 0))) (hl : (out.length + 1) * 24 ≤ 140737488355328)
    (hK : ∀ v1 w1, Mid8 w w2 gr vA p (out ++ [piece]) u8 ends v1 w1 → (∀ (b2 : Nat) (cs : Array Value), W.heap[b2]? = some (.cells cs 4 (0, 0)) → w1.heap[b2]? = some (.cells cs 4 (0, 0))) → Kc (a.put o.dst v1) w1) :
    if Region.wanted o (yielded ops a.tmps) = true then Oper.wp Tryd.prog o a W Kc Q else Kc (a.put o.dst undef) W := by
  refine S_append_lit_step (P := Tryd.prog) (Kd.slice 5 (Kd.int .u8)) (w0 := W) w2.heap.size hw s x 26 22 (.slice none 0 0) 24 ho Tryd.underlying26 infoS rfl (by decide) (by omega) u7 out piece [pv] b 1 (fun k => w2.heap.size ≤ k) (fun k => k = gb) hs hx hb ⟨pv, rfl, h.pc⟩ ?_ (fun k hk => Nat.le_trans h.sz hk) (Kd.S_mono h.s (fun k hk => hk)) (Below.refl _ _) h.sz hl ?_
  · rintro k rfl
    refine ⟨h.gt, fun e => ?_⟩
    exact ((Kd.S_R h.s).1 k e.symm).2 rfl
  · intro v1 w1 hS hB hG hat
    have hty : ∀ k, u7.ownBlock = some k → ∃ cells, W.heap[k]? = some (.cells cells 22 (0, 0)) := Kd.S_typed h.s
    have hbk : ∀ (b2 : Nat) (cs : Array Value), W.heap[b2]? = some (.cells cs 4 (0, 0)) → w1.heap[b2]? = some (.cells cs 4 (0, 0)) := fun b2 cs hb2 => by
      rw [hG.block b2 (Array.getElem?_eq_some_iff.1 hb2).1 (fun e => by
        obtain ⟨cells, hc⟩ := hty b2 e.symm
        rw [hc] at hb2
        injection hb2 with hb2
        injection hb2 with _ hb2
        exact absurd hb2 (by decide))]
      exact hb2
    have hge : ∀ k, u7.ownBlock = some k → w2.heap.size ≤ k := fun k hk => ((Kd.S_R h.s).1 k hk).1
    refine hK v1 w1 ⟨hS, ?_, ?_, ?_, ?_, Nat.le_trans h.sz hG.size⟩ hbk
    · exact R_keepB (Kd.R_mono h.r (fun k hk => hk.1)) hbk
    · have := hG.block gr h.ra.lt (fun e => by have := hge gr e.symm; omega)
      exact this.trans h.ra
    · exact Kept.of_grown hG h.k (fun k hk => .inr (hge k hk))
    · exact h.b.grown hG h.b.size (fun k hk => Nat.le_trans hw2 (hge k hk))
/-- .. and at the end. -/
theorem ev11 {w w2 : World} {gr : Nat} {vA : Value} {p : Nat} {out : List (List Int)} {u8 : Value} {ends : List Bool} {bb : Bool} {v38 : Value} {W : World} {b : Nat} {s x : Operand}
    (hw : Region.wanted o (yielded ops a.tmps) = true) (ho : o.op = .call { callee := .builtin .append, args := #[s, x], argTypes := #[27, 27] }) (hs : a.eval s = u8) (hx : a.eval x = .slice (some ⟨b, 0, none⟩) 1 1)
    (h : Mid8 w w2 gr vA p out u8 ends v38 W) (hg : gr < w2.heap.size) (hw2 : w.heap.size ≤ w2.heap.size) (hb : W.heap[b]? = some (.cells #[.bool bb] 4 (0, 0))) (hl : (ends.length + 1) * 1 ≤ 140737488355328)
    (hK : ∀ v1 w1, Mid8 w w2 gr vA p out v1 (ends ++ [bb]) v38 w1 → Kc (a.put o.dst v1) w1) :
    if Region.wanted o (yielded ops a.tmps) = true then Oper.wp Tryd.prog o a W Kc Q else Kc (a.put o.dst undef) W := by
  refine Kd.R_append_rows_step (P := Tryd.prog) Kd.bool (w0 := W) w2.heap.size hw s x 27 4 (.bool false) 1 ho Tryd.underlying27 infoL rfl (by decide) (by omega) u8 ends [bb] (some ⟨b, 0, none⟩) 1 1 (fun k => w2.heap.size ≤ k) (fun _ => False) hs hx h.r (lit_readR (sz := 1) bb hb rfl) ?_ (fun _ hk => hk.elim) (fun k hk => Nat.le_trans h.sz hk) (Below.refl _ _) h.sz hl ?_
  · rintro x cs ⟨rfl, rfl⟩; rfl
  · intro v1 w1 hR hB hG hat
    have hty : ∀ k, u8.ownBlock = some k → ∃ cells, W.heap[k]? = some (.cells cells 4 (0, 0)) := Kd.R_typed h.r
    have hge : ∀ k, u8.ownBlock = some k → w2.heap.size ≤ k := fun k hk => h.r.1 k hk
    refine hK v1 w1 ⟨?_, hR, ?_, ?_, ?_, Nat.le_trans h.sz hG.size⟩
    · exact Kd.S_over' h.s hty (by decide) hG
    · have := hG.block gr h.ra.lt (fun e => by have := hge gr e.symm; omega)
      exact this.trans h.ra
    · exact Kept.of_grown hG h.k (fun k hk => .inr (hge k hk))
    · exact h.b.grown hG h.b.size (fun k hk => Nat.le_trans hw2 (hge k hk))
end
theorem wr1r {k n : Nat} (h : k < n) (hn : n < 1000000) : wrap64 ((k : Int) + 1) = ((k + 1 : Nat) : Int) := by unfold wrap64; omega
theorem meas1r {k n : Nat} (h : k < n) (hn : n < 1000000) : n - (intOf (.int .i64 (wrap64 ((k : Int) + 1)))).toNat < n - (intOf (.int .i64 (k : Int))).toNat := by
  rw [wr1r h hn]
  simp only [intOf, Int.toNat_natCast]
  omega
def impl_ReadPieces.f (l0 l1 : List Int) : Option (List (List Int) × List Bool) :=
  if l0.length < 35184372088832 ∧ l1.length < 1000000 ∧ (l1.all fun s => decide (0 ≤ s ∧ s < 35184372088832)) = true then some (rdP l0 l1 0, rdE l0 l1 0) else none
set_option maxRecDepth 20000 in
set_option maxHeartbeats 2000000 in
theorem impl_ReadPieces.calls (A0 : Option Addr) (c0 : Nat) (l0 : List Int) (A1 : Option Addr) (c1 : Nat) (l1 : List Int) (r1 : List (List Int)) (r2 : List Bool) (w : World) (hr0 : Kd.C (Kd.int .u8) w A0 l0.length l0) (hc0 : l0.length ≤ c0) (hr1 : Kd.C (Kd.int .i64) w A1 l1.length l1) (hc1 : l1.length ≤ c1)
    (h : impl_ReadPieces.f l0 l1 = some (r1, r2)) (HTabE : Aside0 (TabE w)) :
    Calls Tryd.prog 10 #[.slice A0 l0.length c0, .slice A1 l1.length c1] w fun e w' => ∃ v0_ v1_ : Value, e = .returned (.tuple #[v0_, v1_]) ∧ Kd.S (Kd.slice 5 (Kd.int .u8)) 22 w' w.heap.size (fun _ => True) v0_ r1 ∧ Kd.R Kd.bool 4 w' w.heap.size (fun _ => True) v1_ r2 ∧ Below w.heap.size w w' := by
  unfold impl_ReadPieces.f at h
  split at h
  case isFalse => cases h
  case isTrue hl =>
  have h := Option.some.inj h
  injection h with e1 e2
  have HE1 := Aside0.mk e1
  have HE2 := Aside0.mk e2
  obtain ⟨hl0, hl1, hall⟩ := hl
  have HALL := Aside0.mk (show ∀ (k : Nat) (hk : k < l1.length), 0 ≤ l1[k] ∧ l1[k] < 35184372088832 from fun k hk => of_decide_eq_true (List.all_eq_true.1 hall _ (List.getElem_mem hk)))
  obtain ⟨ae, hE⟩ := HTabE.out
  have HE := Aside0.mk hE
  have HO := Aside0.mk (show impl_own.f l0 = some l0 from by simp [impl_own.f] <;> omega)
  have HL0 := Aside0.mk hl0
  have HL1 := Aside0.mk hl1
  have HR0 := Aside0.mk hr0
  have HR1 := Aside0.mk hr1
  have HC0 := Aside0.mk hc0
  have HC1 := Aside0.mk hc1
  clear e1 e2 hl0 hl1 hall hr0 hr1 hc0 hc1 hE HTabE h
  go_enter Tryd.func10, Tryd.ntmps10
  go_wp2_with (go_at_call 21; (with_reducible refine (impl_own.calls _ _ l0 l0 _ HR0.out HC0.out HO.out).mono ?_); rintro e wo ⟨v, rfl, hv, hb⟩; have HV := Aside0.mk hv; have HB1 := Aside0.mk hb; clear hv hb; obtain ⟨A, c, rfl⟩ := Kd.R_slice HV.out)
  go_wp2_with (go_at_call 20; (with_reducible refine (newreader A l0.length c _).mono ?_); rintro e w2 ⟨rfl, hw2⟩; have HW2 := Aside0.mk hw2; clear hw2)
  have HG2 := Aside0.mk (show wo.heap.size < w2.heap.size from by rw [HW2.out]; simp)
  have HRA := Aside0.mk (show ReAt w2 wo.heap.size (.slice A l0.length c) 0 from by rw [HW2.out]; exact heap_alloc_new wo _)
  have HB2 := Aside0.mk (show Below w.heap.size w w2 from by rw [HW2.out]; exact HB1.out.alloc HB1.out.size _)
  have HCK := Aside0.mk (show ∀ W', Kept w2 W' (fun k => k = wo.heap.size) → Kd.C (Kd.int .u8) W' A l0.length l0 from Kd.C_kept_own (ok := fun k => k ≠ wo.heap.size) (base := w.heap.size) (e := 5) (c := c) (by
    rw [HW2.out]
    exact Kd.R_alloc (Kd.R_mono (Kd.R_bound HV.out) (fun k hk => by have := hk.2.2.1; omega)) _) (fun k hk => hk))
  have HLC := Aside0.mk (show l0.length ≤ c from (Kd.R_reads' HV.out).2.1)
  obtain ⟨gr, hgr⟩ : ∃ gr, gr = wo.heap.size := ⟨_, rfl⟩
  rw [← hgr] at HRA HCK HG2 ⊢
  have HGR := Aside0.mk (show w.heap.size ≤ gr from by rw [hgr]; exact HB1.out.size)
  clear HV HB1 HW2 hgr
  have HO1 := Aside0.mk (own_emptyR (W := (w2.alloc (.cells #[] 22)).alloc (.cells #[] 4)) (base := w2.heap.size) (g := w2.heap.size) (e := 22) (size := 1) ((below_alloc (Below.refl (w2.alloc (.cells #[] 22)).heap.size _) _).block _ (by simp) |>.trans (heap_alloc_new w2 _)) (Nat.le_refl _))
  have HO2 := Aside0.mk (own_emptyR (W := (w2.alloc (.cells #[] 22)).alloc (.cells #[] 4)) (base := w2.heap.size) (g := w2.heap.size + 1) (e := 4) (size := 1) (by have := heap_alloc_new (w2.alloc (.cells #[] 22)) (.cells #[] 4); simpa using this) (Nat.le_succ _))
  go_loopw [7, 8, 21] (fun v7 v8 v21 wr => ∃ (k p : Nat) (out : List (List Int)) (ends : List Bool), v21 = .int .i64 (k : Int) ∧ Aside0 (k ≤ l1.length ∧ p ≤ l0.length ∧ r1 = out ++ rdP l0 (l1.drop k) p ∧ r2 = ends ++ rdE l0 (l1.drop k) p ∧ out.length = k ∧ ends.length = k) ∧
      Aside0 (Kd.S (Kd.slice 5 (Kd.int .u8)) 22 wr w2.heap.size (fun k => w2.heap.size ≤ k) v7 out) ∧ Aside0 (Kd.R Kd.bool 4 wr w2.heap.size (fun k => w2.heap.size ≤ k) v8 ends) ∧ Aside0 (ReAt wr gr (.slice A l0.length c) p) ∧ Aside0 (Kept w2 wr (fun k => k = gr)) ∧ Aside0 (Below w.heap.size w wr)) (fun _ _ v21 _ => l1.length - (intOf v21).toNat)
  case atStart =>
    exact ⟨0, 0, [], [], rfl, ⟨Nat.zero_le _, Nat.zero_le _, by simpa using HE1.out.symm, by simpa using HE2.out.symm, rfl, rfl⟩, ⟨⟨fun _ => 0, fun k hk => by cases hk; exact Nat.le_refl _, [], HO1.out, Reps.none _ _⟩⟩,
      ⟨⟨fun k hk => by cases hk; exact Nat.le_succ _, [], HO2.out, Reps.none _ _⟩⟩, ⟨(by exact (Kept.alloc (Kept.alloc (Kept.refl w2 (fun _ => False)) _) _).2 gr HG2.out (fun h => h) |>.trans HRA.out)⟩, ⟨Kept.alloc (Kept.alloc (Kept.refl _ _) _) _⟩, ⟨(HB2.out.alloc HB2.out.size _).alloc (by have := HB2.out.size; simp; omega) _⟩⟩
  case round =>
    obtain ⟨k, p, out, ends, rfl, HH, HS, HR, HA, HK, HB⟩ := hrel
    by_cases hlt : k < l1.length
    · obtain ⟨ad, e1, hx⟩ := Kd.at_int HR1.out (k : Int) (by omega) (by omega)
      have hrd : rd l1 (k : Int) = l1[k] := by simp [rd, List.getD_eq_getElem?_getD, hlt]
      rw [hrd] at hx
      have hsz := HALL.out k hlt
      obtain ⟨q1, q2, q3, q4, q5, q6⟩ := HH.out
      rw [List.drop_eq_getElem_cons hlt] at q3 q4
      generalize l1[k] = s at hx hsz q3 q4
      obtain ⟨hs0, hs1⟩ := hsz
      obtain ⟨size, rfl⟩ := Int.eq_ofNat_of_zero_le hs0
      cases e1
      rw [Int.toNat_natCast] at hx
      replace hx := (HB.out.cell (World.block_lt_of_cell? w _ hx)).trans hx
      simp only [rdP, rdE, Int.toNat_natCast] at q3 q4
      have HQ := Aside0.mk (And.intro q3 (And.intro q4 (And.intro q5 q6)))
      have HP := Aside0.mk q2
      clear q1 q2 q3 q4 q5 q6 HH hrd hs0
      obtain ⟨i0, hi0, hz0, hsz1, hb1⟩ := info_parts infoR
      have hmk : ∀ W : World, (Instr.makeSlice 22 (.int .i64 (size : Int)) (.int .i64 (size : Int))).run Tryd.prog W = .ok (.slice (some ⟨W.heap.size, 0, none⟩) size size) (W.alloc (.cells (madeCells #[.int .u8 0] size) 5)) := by
        intro W
        have := run_make (P := Tryd.prog) (w := W) 22 5 i0 (.int .u8 0) Tryd.underlying22 hi0 hz0 .i64 .i64 (size : Int) (size : Int) (by omega) (by omega) (by rw [hb1]; omega) (by omega)
        rw [this, hsz1, Int.toNat_natCast, Nat.mul_one]
        rfl
      clear hi0 hz0 hsz1 hb1 i0
      go_wp2_with fail
      obtain ⟨wm, hwm⟩ : ∃ wm, wm = wr.alloc (.cells (madeCells #[.int .u8 0] size) 5) := ⟨_, rfl⟩
      obtain ⟨gb, hgb⟩ : ∃ gb, gb = wr.heap.size := ⟨_, rfl⟩
      have hgr : gr < wr.heap.size := Nat.lt_of_lt_of_le HG2.out HK.out.1
      have hbm : Below wr.heap.size wr wm := by rw [hwm]; exact below_alloc (Below.refl _ _) _
      have HBM := Aside0.mk (show Below w.heap.size w wm from by rw [hwm]; exact HB.out.alloc HB.out.size _)
      have HKM := Aside0.mk (show Kept w2 wm (fun k => k = gr) from by rw [hwm]; exact Kept.alloc HK.out _)
      have HSM := Aside0.mk (show Kd.S (Kd.slice 5 (Kd.int .u8)) 22 wm w2.heap.size (fun k => w2.heap.size ≤ k ∧ k ≠ gb) u7 out from by
        rw [hwm, hgb]
        exact Kd.S_alloc (Kd.S_mono (Kd.S_bound HS.out) (fun k hk => ⟨hk.1, by have := hk.2.2.1; omega⟩)) _)
      have HRM := Aside0.mk (show Kd.R Kd.bool 4 wm w2.heap.size (fun k => w2.heap.size ≤ k ∧ k ≠ gb) u8 ends from by
        rw [hwm, hgb]
        exact Kd.R_alloc (Kd.R_mono (Kd.R_bound HR.out) (fun k hk => ⟨hk.1, by have := hk.2.2.1; omega⟩)) _)
      have HAM := Aside0.mk (show ReAt wm gr (.slice A l0.length c) p from (hbm.block gr hgr).trans HA.out)
      have HMB := Aside0.mk (show wm.heap[gb]? = some (.cells (madeCells #[.int .u8 0] size) 5 (0, 0)) from by rw [hwm, hgb]; exact heap_alloc_new wr _)
      have HGB := Aside0.mk (show w2.heap.size ≤ gb from by rw [hgb]; exact HK.out.1)
      rw [← hwm, ← hgb]
      clear hwm hgb hgr hbm HS HR HA HK HB hmk
      (with_reducible refine (read_any gr gb c p size w.heap.size A l0 ae wm HAM.out (HCK.out _ HKM.out) HLC.out HMB.out (by have := HGB.out; have := HG2.out; omega) HL0.out (by omega) (by have := HGB.out; have := HB2.out.size; omega) HGR.out (pw_cell_below HBM.out HE.out)).mono ?_)
      rintro e w3 ⟨cur', rfl, k1, k2, k3, k4, k5, k6⟩
      have hm : ((l0.drop p).take size).length = min size (l0.length - p) := by simp
      obtain ⟨m, hmm⟩ : ∃ m, m = min size (l0.length - p) := ⟨_, rfl⟩
      obtain ⟨piece, hpc⟩ : ∃ piece, piece = (l0.drop p).take size := ⟨_, rfl⟩
      have HQ2 := Aside0.mk HQ.out
      rw [← hmm, ← hpc] at HQ2
      rw [← hmm] at k3 k4 hm
      rw [← hpc] at k3 hm
      rw [← hmm]
      have hms : m ≤ size := by omega
      have HPC := Aside0.mk (show Kd.R (Kd.int .u8) 5 w3 w2.heap.size (fun k => k = gb) (.slice (some ⟨gb, 0, none⟩) m size) piece from by
        have := R_block (w := w3) (base := w2.heap.size) (k := .u8) (xs := piece) k1 HGB.out k2 (by omega) (by omega) (by rw [hm, k3]; rfl)
        rw [hm] at this
        exact Kd.R_mono (Kd.R_tight rfl this) (fun k hk => by simpa [Value.ownBlock] using hk))
      have HS3 := Aside0.mk (Kd.S_kept HSM.out k5 (fun k hk => by have := HG2.out; omega))
      have HR3 := Aside0.mk (Kd.R_kept HRM.out k5 (fun k hk => by have := HG2.out; omega))
      have HK3 := Aside0.mk (show Kept w2 w3 (fun k => k = gr) from HKM.out.then_ k5 (fun k hk => by rcases hk with rfl | rfl; exact .inr HGB.out; exact .inl rfl))
      have HB3 := Aside0.mk (HBM.out.trans k6)
      have HA3 := Aside0.mk k4
      have HP3 := Aside0.mk (show p + m ≤ l0.length from by have := HP.out; omega)
      have HSZ := Aside0.mk (show gb < w3.heap.size from (Array.getElem?_eq_some_iff.1 k1).1)
      have hE3 := pw_cell_below HB3.out HE.out
      obtain ⟨i0, hi0, _⟩ := info_parts infoR
      have hcut := cut_to (P := Tryd.prog) 22 5 .i64 Tryd.underlying22 hi0 (some ⟨gb, 0, none⟩) size size (m : Int) (by omega) (by omega) (Nat.le_refl _)
      rw [Int.toNat_natCast] at hcut
      clear k1 k2 k3 k4 k5 k6 HSM HRM HKM HBM HAM HMB HQ HP hm hmm hpc hi0
      go_wp2_with fail
      have hEq := eqEndB (decide (l0.length ≤ p)) ae
      have hGd := guardEndB (decide (l0.length ≤ p)) ae
      have LM2 : Aside0 ((ends.length + 1) * 1 ≤ 140737488355328) := ⟨by have := HQ2.out.2.2.2; have := HL1.out; omega⟩
      have LM : Aside0 ((out.length + 1) * 24 ≤ 140737488355328) := ⟨by have := HQ2.out.2.2.1; have := HL1.out; omega⟩
      have HP8 := Aside0.mk (show Pre8 w w2 gr gb (.slice A l0.length c) (p + m) u7 out u8 ends (.slice (some ⟨gb, 0, none⟩) m size) piece w3.drew from (Pre8.mk HS3.out HR3.out HPC.out HA3.out HK3.out HB3.out HGB.out (Nat.le_of_lt (Nat.lt_of_le_of_lt HGB.out HSZ.out))).drew)
      clear HS3 HR3 HPC HA3 HK3 HSZ
      refine start_ (n := 14) (S := fun w' => w'.cell? ⟨0, 0, none⟩ = some (.iface 102 (.pointer (some ae)))) (ds := []) #[false, false, false, false, false, false, false, false, false, false, false, false, false, false] (by kernel_rfl) rfl rfl (pw_cell_below HB3.out.drew HE.out) (fun hHeld => ?_)
      refine pure_ (i := 0) (N := (some 33)) (v := ?_) (a' := ?_) #[true, false, false, false, false, false, false, false, false, false, false, false, false, false] rfl rfl (by kernel_rfl) (fun _ _ _ h => h) (Or.inl ⟨by rfl, ?_⟩) ?_ ?_
      rotate_left
      · intro w'
        go_simp
        with_reducible rfl
      rotate_left
      · simp only [Act.put, List.setIfInBounds_toArray, List.set_cons_zero, List.set_cons_succ, i64_w, i32_w]
        rfl
      refine pure_ (i := 1) (N := (some 34)) (v := ?_) (a' := ?_) #[true, true, false, false, false, false, false, false, false, false, false, false, false, false] rfl rfl (by kernel_rfl) (fun _ _ _ h => h) (Or.inl ⟨by rfl, ?_⟩) ?_ ?_
      rotate_left
      · intro w'
        go_simp
        with_reducible rfl
      rotate_left
      · simp only [Act.put, List.setIfInBounds_toArray, List.set_cons_zero, List.set_cons_succ, i64_w, i32_w]
        rfl
      refine pure_ (i := 2) (N := (some 35)) (v := ?_) (a' := ?_) #[true, true, true, false, false, false, false, false, false, false, false, false, false, false] rfl rfl (by kernel_rfl) (fun _ _ _ h => h) (Or.inl ⟨by rfl, ?_⟩) ?_ ?_
      rotate_left
      · intro w'
        go_simp
        with_reducible rfl
      rotate_left
      · simp only [Act.put, List.setIfInBounds_toArray, List.set_cons_zero, List.set_cons_succ, i64_w, i32_w]
        rfl
      refine pure_ (i := 3) (N := (some 36)) (v := ?_) (a' := ?_) #[true, true, true, true, false, false, false, false, false, false, false, false, false, false] rfl rfl (by kernel_rfl) (fun _ _ _ h => h) (Or.inl ⟨by rfl, ?_⟩) ?_ ?_
      rotate_left
      · intro w'
        go_simp
        with_reducible rfl
      rotate_left
      · simp only [Act.put, List.setIfInBounds_toArray, List.set_cons_zero, List.set_cons_succ, i64_w, i32_w]
        rfl
      refine pure_ (i := 6) (N := (some 39)) (v := ?_) (a' := ?_) #[true, true, true, true, false, false, true, false, false, false, false, false, false, false] rfl rfl (by kernel_rfl) (fun _ _ _ h => h) (Or.inl ⟨by rfl, ?_⟩) ?_ ?_
      rotate_left
      · intro w'
        go_simp
        with_reducible rfl
      rotate_left
      · simp only [Act.put, List.setIfInBounds_toArray, List.set_cons_zero, List.set_cons_succ, i64_w, i32_w]
        rfl
      refine pure_ (i := 7) (N := (some 40)) (v := ?_) (a' := ?_) #[true, true, true, true, false, false, true, true, false, false, false, false, false, false] rfl rfl (by kernel_rfl) (fun _ _ _ h => h) (Or.inl ⟨by rfl, ?_⟩) ?_ ?_
      rotate_left
      · intro w'
        go_simp
        with_reducible rfl
      rotate_left
      · simp only [Act.put, List.setIfInBounds_toArray, List.set_cons_zero, List.set_cons_succ, i64_w, i32_w]
        rfl
      refine take_ (i := 8) (N := (some 41)) (v := ?_) (a' := ?_) #[true, true, true, true, false, false, true, true, true, false, false, false, false, false] rfl rfl (by kernel_rfl) (fun _ _ _ h => h) (Or.inl ⟨by rfl, ?_⟩) hHeld ?_ ?_
      rotate_left
      · intro w' s0
        go_simp
        with_reducible rfl
      rotate_left
      · simp only [Act.put, List.setIfInBounds_toArray, List.set_cons_zero, List.set_cons_succ, i64_w, i32_w]
        rfl
      refine pure_ (i := 9) (N := (some 42)) (v := ?_) (a' := ?_) #[true, true, true, true, false, false, true, true, true, true, false, false, false, false] rfl rfl (by kernel_rfl) (fun _ _ _ h => h) (Or.inl ⟨by rfl, ?_⟩) ?_ ?_
      rotate_left
      · intro w'
        go_simp
        with_reducible rfl
      rotate_left
      · simp only [Act.put, List.setIfInBounds_toArray, List.set_cons_zero, List.set_cons_succ, i64_w, i32_w]
        rfl
      refine join_ (σ := Value × Value × Value) 3 #[true, true, true, true, true, true, true, true, true, true, true, false, false, false] (fun s => [(37, s.1), (38, s.2.1), (43, s.2.2)]) (fun s w' => Mid8 w w2 gr (.slice A l0.length c) (p + m) (out ++ [piece]) u8 ends s.2.1 w' ∧ ∃ b, s.2.2 = .slice (some ⟨b, 0, none⟩) 1 1 ∧ w'.heap[b]? = some (.cells #[.bool (decide (l0.length ≤ p))] 4 (0, 0))) ?_ (fun hJ_ => ?_)
      rotate_left
      refine two_ (i := 4) (j := 10) (Ni := some 37) (Nj := some 43) #[true, true, true, true, true, false, true, true, true, true, false, false, false, false] #[true, true, true, true, false, false, true, true, true, true, true, false, false, false] rfl rfl rfl rfl (by kernel_rfl) (by simp) (by simp) (fun K_ hK_ => ?_) (fun K_ hK_ => ?_)
      · skip
        refine value_ (w1 := ?_) (v := ?_) (by rfl) rfl ?_ ?_
        rotate_left 2
        · go_simp
          constructor
          · rfl
          · rfl
        have hp4 := HP8.out.alloc (.cells #[Value.slice (some ⟨gb, 0, none⟩) m size] 22)
        have hl4 := heap_alloc_new w3.drew (.cells #[Value.slice (some ⟨gb, 0, none⟩) m size] 22)
        refine hK_ _ _ (pw_cell_below hp4.b HE.out) (fun _ => ?_)
        refine norm_ (a' := ?_) ?_ ?_
        rotate_left
        · show Act.put _ (some 37) _ = _
          simp only [Act.put, List.setIfInBounds_toArray, List.set_cons_zero, List.set_cons_succ]
          rfl
        refine two_ (i := 5) (j := 10) (Ni := some 38) (Nj := some 43) #[true, true, true, true, true, true, true, true, true, true, false, false, false, false] #[true, true, true, true, true, false, true, true, true, true, true, false, false, false] rfl rfl rfl rfl (by kernel_rfl) (by simp) (by simp) (fun K_ hK_ => ?_) (fun K_ hK_ => ?_)
        · skip
          refine ev5 (hw := by rfl) (ho := rfl) (hs := rfl) (hx := rfl) hp4 HG2.out HB2.out.size hl4 LM.out ?_
          intro v38 w5 hM hkeep
          refine hK_ _ _ (pw_cell_below hM.b HE.out) (fun _ => ?_)
          refine norm_ (a' := ?_) ?_ ?_
          rotate_left
          · show Act.put _ (some 38) _ = _
            simp only [Act.put, List.setIfInBounds_toArray, List.set_cons_zero, List.set_cons_succ]
            rfl
          refine one_ (i := 10) (N := some 43) #[true, true, true, true, true, true, true, true, true, true, true, false, false, false] rfl rfl (by kernel_rfl) (by simp) (fun K_ hK_ => ?_)
          refine value_ (w1 := ?_) (v := ?_) (by rfl) rfl ?_ ?_
          rotate_left 2
          · go_simp
            constructor
            · rfl
            · rfl
          refine hK_ _ _ (pw_cell_below (hM.alloc _).b HE.out) (fun _ => ?_)
          refine norm_ (a' := ?_) ?_ ?_
          rotate_left
          · show Act.put _ (some 43) _ = _
            simp only [Act.put, List.setIfInBounds_toArray, List.set_cons_zero, List.set_cons_succ]
            rfl
          exact norm_ (by first | (simp only [putAll, Act.put, List.setIfInBounds_toArray, List.set_cons_zero, List.set_cons_succ]; done) | (simp only [putAll, Act.put, List.setIfInBounds_toArray, List.set_cons_zero, List.set_cons_succ]; rfl)) (hJ_ ((_, v38, _)) _ (⟨hM.alloc _, _, rfl, heap_alloc_new w5 _⟩))
        · skip
          refine value_ (w1 := ?_) (v := ?_) (by rfl) rfl ?_ ?_
          rotate_left 2
          · go_simp
            constructor
            · rfl
            · rfl
          have hp10 := hp4.alloc (.cells #[Value.bool (decide (l0.length ≤ p))] 4)
          have hl10 : ((w3.drew.alloc (.cells #[Value.slice (some ⟨gb, 0, none⟩) m size] 22)).alloc (.cells #[Value.bool (decide (l0.length ≤ p))] 4)).heap[w3.heap.size + 1]? = some (.cells #[Value.bool (decide (l0.length ≤ p))] 4) := by have := heap_alloc_new (w3.drew.alloc (.cells #[Value.slice (some ⟨gb, 0, none⟩) m size] 22)) (.cells #[Value.bool (decide (l0.length ≤ p))] 4); simpa using this
          refine hK_ _ _ (pw_cell_below hp10.b HE.out) (fun _ => ?_)
          refine norm_ (a' := ?_) ?_ ?_
          rotate_left
          · show Act.put _ (some 43) _ = _
            simp only [Act.put, List.setIfInBounds_toArray, List.set_cons_zero, List.set_cons_succ]
            rfl
          refine one_ (i := 5) (N := some 38) #[true, true, true, true, true, true, true, true, true, true, true, false, false, false] rfl rfl (by kernel_rfl) (by simp) (fun K_ hK_ => ?_)
          refine ev5 (hw := by rfl) (ho := rfl) (hs := rfl) (hx := rfl) hp10 HG2.out HB2.out.size ((below_alloc (Below.refl (w3.drew.alloc (.cells #[Value.slice (some ⟨gb, 0, none⟩) m size] 22)).heap.size _) _).block _ (by simp) |>.trans hl4) LM.out ?_
          intro v38 w5 hM hkeep
          refine hK_ _ _ (pw_cell_below hM.b HE.out) (fun _ => ?_)
          refine norm_ (a' := ?_) ?_ ?_
          rotate_left
          · show Act.put _ (some 38) _ = _
            simp only [Act.put, List.setIfInBounds_toArray, List.set_cons_zero, List.set_cons_succ]
            rfl
          exact norm_ (by first | (simp only [putAll, Act.put, List.setIfInBounds_toArray, List.set_cons_zero, List.set_cons_succ]; done) | (simp only [putAll, Act.put, List.setIfInBounds_toArray, List.set_cons_zero, List.set_cons_succ]; rfl)) (hJ_ ((_, v38, _)) _ (⟨hM, w3.heap.size + 1, rfl, hkeep _ _ hl10⟩))
      · skip
        refine value_ (w1 := ?_) (v := ?_) (by rfl) rfl ?_ ?_
        rotate_left 2
        · go_simp
          constructor
          · rfl
          · rfl
        have hp10 := HP8.out.alloc (.cells #[Value.bool (decide (l0.length ≤ p))] 4)
        have hl10 := heap_alloc_new w3.drew (.cells #[Value.bool (decide (l0.length ≤ p))] 4)
        refine hK_ _ _ (pw_cell_below hp10.b HE.out) (fun _ => ?_)
        refine norm_ (a' := ?_) ?_ ?_
        rotate_left
        · show Act.put _ (some 43) _ = _
          simp only [Act.put, List.setIfInBounds_toArray, List.set_cons_zero, List.set_cons_succ]
          rfl
        refine one_ (i := 4) (N := some 37) #[true, true, true, true, true, false, true, true, true, true, true, false, false, false] rfl rfl (by kernel_rfl) (by simp) (fun K_ hK_ => ?_)
        refine value_ (w1 := ?_) (v := ?_) (by rfl) rfl ?_ ?_
        rotate_left 2
        · go_simp
          constructor
          · rfl
          · rfl
        have hp4 := hp10.alloc (.cells #[Value.slice (some ⟨gb, 0, none⟩) m size] 22)
        refine hK_ _ _ (pw_cell_below hp4.b HE.out) (fun _ => ?_)
        refine norm_ (a' := ?_) ?_ ?_
        rotate_left
        · show Act.put _ (some 37) _ = _
          simp only [Act.put, List.setIfInBounds_toArray, List.set_cons_zero, List.set_cons_succ]
          rfl
        refine one_ (i := 5) (N := some 38) #[true, true, true, true, true, true, true, true, true, true, true, false, false, false] rfl rfl (by kernel_rfl) (by simp) (fun K_ hK_ => ?_)
        have hl4 : ((w3.drew.alloc (.cells #[Value.bool (decide (l0.length ≤ p))] 4)).alloc (.cells #[Value.slice (some ⟨gb, 0, none⟩) m size] 22)).heap[w3.heap.size + 1]? = some (.cells #[Value.slice (some ⟨gb, 0, none⟩) m size] 22) := by have := heap_alloc_new (w3.drew.alloc (.cells #[Value.bool (decide (l0.length ≤ p))] 4)) (.cells #[Value.slice (some ⟨gb, 0, none⟩) m size] 22); simpa using this
        refine ev5 (hw := by rfl) (ho := rfl) (hs := rfl) (hx := rfl) hp4 HG2.out HB2.out.size hl4 LM.out ?_
        intro v38 w5 hM hkeep
        refine hK_ _ _ (pw_cell_below hM.b HE.out) (fun _ => ?_)
        refine norm_ (a' := ?_) ?_ ?_
        rotate_left
        · show Act.put _ (some 38) _ = _
          simp only [Act.put, List.setIfInBounds_toArray, List.set_cons_zero, List.set_cons_succ]
          rfl
        exact norm_ (by first | (simp only [putAll, Act.put, List.setIfInBounds_toArray, List.set_cons_zero, List.set_cons_succ]; done) | (simp only [putAll, Act.put, List.setIfInBounds_toArray, List.set_cons_zero, List.set_cons_succ]; rfl)) (hJ_ ((_, v38, _)) _ (⟨hM, _, rfl, hkeep _ _ ((below_alloc (Below.refl (w3.drew.alloc (.cells #[Value.bool (decide (l0.length ≤ p))] 4)).heap.size _) _).block _ (by simp) |>.trans hl10)⟩))
      rintro ⟨v37, v38, v43⟩ w5 ⟨hM, b, rfl, hb⟩
      refine norm_ (a' := ?_) ?_ ?_
      rotate_left
      · simp only [putAll, Act.put, List.setIfInBounds_toArray, List.set_cons_zero, List.set_cons_succ]
        rfl
      refine one_ (i := 11) (N := (some 44)) #[true, true, true, true, true, true, true, true, true, true, true, true, false, false] rfl rfl (by kernel_rfl) (by simp) (fun K_ hK_ => ?_)
      refine ev11 (hw := by rfl) (ho := rfl) (hs := rfl) (hx := rfl) hM HG2.out HB2.out.size hb LM2.out ?_
      intro v44 w6 hF
      refine hK_ _ _ (pw_cell_below hF.b HE.out) (fun _ => ?_)
      refine norm_ (a' := ?_) ?_ ?_
      rotate_left
      · show Act.put _ (some 44) _ = _
        simp only [Act.put, List.setIfInBounds_toArray, List.set_cons_zero, List.set_cons_succ]
        rfl
      refine pure_ (i := 12) (N := (some 7)) (v := ?_) (a' := ?_) #[true, true, true, true, true, true, true, true, true, true, true, true, true, false] rfl rfl (by kernel_rfl) (fun _ _ _ h => h) (Or.inl ⟨by rfl, ?_⟩) ?_ ?_
      rotate_left
      · intro w'
        go_simp
        with_reducible rfl
      rotate_left
      · simp only [Act.put, List.setIfInBounds_toArray, List.set_cons_zero, List.set_cons_succ, i64_w, i32_w]
        rfl
      refine pure_ (i := 13) (N := (some 8)) (v := ?_) (a' := ?_) #[true, true, true, true, true, true, true, true, true, true, true, true, true, true] rfl rfl (by kernel_rfl) (fun _ _ _ h => h) (Or.inl ⟨by rfl, ?_⟩) ?_ ?_
      rotate_left
      · intro w'
        go_simp
        with_reducible rfl
      rotate_left
      · simp only [Act.put, List.setIfInBounds_toArray, List.set_cons_zero, List.set_cons_succ, i64_w, i32_w]
        rfl
      refine done_ (by kernel_rfl) ?_
      go_wp2
      go_roundw
      case rel => exact ⟨k + 1, p + m, out ++ [piece], ends ++ [decide (l0.length ≤ p)], congrArg (Value.int .i64) (wr1r hlt HL1.out), ⟨hlt, HP3.out, by rw [HQ2.out.1]; simp, by rw [HQ2.out.2.1]; simp, by simp [HQ2.out.2.2.1], by simp [HQ2.out.2.2.2]⟩, ⟨hF.s⟩, ⟨hF.r⟩, ⟨hF.ra⟩, ⟨hF.k⟩, ⟨hF.b⟩⟩
      case measure => exact meas1r hlt HL1.out
    · obtain ⟨q1, q2, q3, q4, q5, q6⟩ := HH.out
      obtain rfl : k = l1.length := by omega
      rw [List.drop_length] at q3 q4
      obtain rfl : r1 = out := by simpa [rdP] using q3
      obtain rfl : r2 = ends := by simpa [rdE] using q4
      clear q2 q3 q4 q5 q6 HH
      go_wp2
      go_ret2
      exact ⟨_, _, rfl, Kd.S_mono (Kd.S_lower HS.out HB2.out.size) (fun _ _ => trivial), Kd.R_mono (Kd.R_lower HR.out HB2.out.size) (fun _ _ => trivial), HB.out⟩
end Go.Proofs.YtgpmmmlmaaiobaaDoor.Own
