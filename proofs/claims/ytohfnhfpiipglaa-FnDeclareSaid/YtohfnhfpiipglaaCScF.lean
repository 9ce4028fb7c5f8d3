/- One name put into the index: what the operations do; what a step leaves as it is. -/
import Derived.Test.YtohfnhfpiipglaaCScE
namespace Go.Proofs.Ytohfnhfpiipglaa.Own
open Go.RowKit Go.Proofs.YtohfnhfpiipglaaW.PrintWords Go.Proofs.YtohfnhfpiipglaaW.PrintLast
set_option linter.unusedVariables false
set_option linter.unusedSimpArgs false
/-- What a step of the scope leaves as it is: rows that are no variable's, no scope's and no row of variables. -/
structure Fr (base : Nat) (w w' : World) : Prop where
  below : Below base w w'
  other : ∀ (k : Nat) (cs : Array Value) (t : TypeId) (fz : Nat × Nat), w.heap[k]? = some (Obj.cells cs t fz) → t ≠ 54 → t ≠ 42 → t ≠ 45 → w'.heap[k]? = some (Obj.cells cs t fz)
theorem Fr.refl (base : Nat) (w : World) : Fr base w w := ⟨Below.refl _ _, fun _ _ _ _ h _ _ _ => h⟩
theorem Fr.trans {base : Nat} {a b c : World} (h : Fr base a b) (k : Fr base b c) : Fr base a c := ⟨h.below.trans k.below, fun i cs t fz h1 h2 h3 h4 => k.other i cs t fz (h.other i cs t fz h1 h2 h3 h4) h2 h3 h4⟩
theorem Fr.drewN {base : Nat} {a b : World} (h : Fr base a b) (n : Nat) : Fr base a (b.drewN n) := ⟨pw_below_drewN h.below n, h.other⟩
theorem Fr.drew {base : Nat} {a b : World} (h : Fr base a b) : Fr base a b.drew := h.drewN 1
theorem Fr.alloc {base : Nat} {a b : World} (h : Fr base a b) (hb : base ≤ b.heap.size) (o : Obj) : Fr base a (b.alloc o) :=
  ⟨h.below.alloc hb o, fun i cs t fz h1 h2 h3 h4 => by
    have := h.other i cs t fz h1 h2 h3 h4
    rw [al_lt (Array.getElem?_eq_some_iff.1 this).1]
    exact this⟩
/-- Only one block was written: a variable's, a scope's, a row of variables, a map's, or none. -/
theorem Fr.grown {base : Nat} {a b c : World} (h : Fr base a b) (hb : base ≤ b.heap.size) {row : Option Nat} (hg : b.grownBy c row)
    (hr : ∀ k, row = some k → base ≤ k ∧ ∀ (cs : Array Value) (t : TypeId) (fz : Nat × Nat), b.heap[k]? = some (Obj.cells cs t fz) → t = 54 ∨ t = 42 ∨ t = 45) : Fr base a c :=
  ⟨h.below.grown hg hb (fun k hk => (hr k hk).1), fun i cs t fz h1 h2 h3 h4 => by
    have h5 := h.other i cs t fz h1 h2 h3 h4
    rw [hg.block i (Array.getElem?_eq_some_iff.1 h5).1 (fun he => by
      rcases (hr i he.symm).2 _ _ _ h5 with e | e | e
      · exact h2 e
      · exact h3 e
      · exact h4 e)]
    exact h5⟩
theorem TextV.fr {w w' : World} {base base' g cap : Nat} {l : List Int} (h : TextV w base g cap l) (hf : Fr base' w w') : TextV w' base g cap l := by
  obtain ⟨cur, fr, h1, h2, h3⟩ := h
  exact ⟨cur, fr, h1, hf.other _ _ _ _ h2 (by decide) (by decide) (by decide), h3⟩
theorem VarAt.fr {w w' : World} {base base' : Nat} {e : Ent} (h : VarAt w base e) (hf : Fr base' w w') (hb : w'.heap[e.p]? = w.heap[e.p]?) : VarAt w' base e := ⟨hb.trans h.blk, h.lo, h.txt.fr hf, h.few, h.used⟩
theorem RowP.fr {w w' : World} {base : Nat} {v : Value} {es : List Ent} (h : RowP w base v es) (hb : ∀ g, v.ownBlock = some g → w'.heap[g]? = w.heap[g]?) : RowP w' base v es := by
  rcases h with h | ⟨g, cap, cur, rfl, h2, h3, h4⟩
  · exact .inl h
  · exact .inr ⟨g, cap, cur, rfl, h2, (hb g rfl).trans h3, h4⟩
/-- The index with its rows, as it is being filled. -/
def IxAt (w : World) (base gm : Nat) (I : List Ix) : Prop :=
  base ≤ gm ∧ w.ownsMap Try.prog 9 ixR gm I.length (mapI I) ∧ ∀ i ∈ I, base ≤ i.g ∧ 1 ≤ i.cap ∧ ∃ cur, w.heap[i.g]? = some (.cells cur 3 (0, 0)) ∧ cur[0]? = some (.int .i64 i.idx)
theorem IxAt.fr {w w' : World} {base base' gm : Nat} {I : List Ix} (h : IxAt w base gm I) (hf : Fr base' w w') (hb : w'.heap[gm]? = w.heap[gm]?) : IxAt w' base gm I := by
  obtain ⟨h1, h2, h3⟩ := h
  refine ⟨h1, ?_, fun i hi => ?_⟩
  · obtain ⟨es, clock, hb2, F, hs, hD⟩ := h2
    exact ⟨es, clock, hb.trans hb2, F, hs, hD⟩
  · obtain ⟨k1, k2, cur, k3, k4⟩ := h3 i hi
    exact ⟨k1, k2, cur, hf.other _ _ _ _ k3 (by decide) (by decide) (by decide), k4⟩
theorem infoI : (Try.prog.info? 3).map (fun i => (i.zero, i.size, i.bytes)) = some (some (.int .i64 0), 1, 8) := by kernel_rfl
theorem infoPV : (Try.prog.info? 45).map (fun i => (i.zero, i.size, i.bytes)) = some (some (.pointer none), 1, 8) := by kernel_rfl
/-- A list of one index, in a row of its own. -/
theorem app_one {W0 W : World} (h : W0.grownBy W none) (idx : Int) :
    ∃ g cap w2, (∀ ty, (Builtin.append_ #[56, 56] ty #[.slice none 0 0, .slice (some ⟨W.heap.size, 0, none⟩) 1 1]).run Try.prog (W.alloc (.cells #[.int .i64 idx] 3)) = .ok (.slice (some ⟨g, 0, none⟩) 1 cap) w2) ∧
      W0.grownBy w2 none ∧ W0.heap.size ≤ g ∧ 1 ≤ cap ∧ ∃ cur, w2.heap[g]? = some (.cells cur 3 (0, 0)) ∧ cur[0]? = some (.int .i64 idx) := by
  obtain ⟨i0, hi0, hz0, hs1, hb1⟩ := info_parts infoI
  have hnew : ∀ j v, ([.int .i64 idx] : List Value)[j]? = some v → (W.alloc (.cells #[.int .i64 idx] 3)).cell? ((⟨W.heap.size, 0, none⟩ : Addr).add j) = some v := by
    intro j v hj
    have hj0 : j = 0 := by have := (List.getElem?_eq_some_iff.1 hj).1; simp at this; exact this
    subst hj0
    simp at hj
    subst hj
    rw [add_plain]
    have := al_eq (W := W) (o := .cells #[.int .i64 idx] 3) (i := W.heap.size) rfl
    simp only [World.cell?, this]
    rfl
  obtain ⟨v', w', hrun, hown, hg, _, hat⟩ := run_append_own_at (P := Try.prog) (W.alloc (.cells #[.int .i64 idx] 3)) W0.heap.size 56 0 3 i0 (.int .i64 0) 1 8 Try.underlying56 hi0 hz0 hs1 hb1 rfl (by decide) (.slice none 0 0) 0 [] (World.ownsRow_nil _ _ _ _) ⟨W.heap.size, 0, none⟩ 1 1 [.int .i64 idx] rfl hnew (by simp [Value.oneCell']) (by decide) (by decide) (by have := h.size; simp; omega)
  rcases hown.2 with ⟨rfl, h0⟩ | ⟨g, cap, cur, rfl, hbg, hb, hnc, hcm, hcs, htake⟩
  · omega
  · refine ⟨g, cap, w', fun _ => hrun, (h.trans (World.grownBy_alloc W _ none)).trans hg, hbg, hnc, cur, hb, ?_⟩
    rw [← Array.getElem?_toList]
    have h2 : (cur.toList.take 1)[0]? = some (.int .i64 idx) := by rw [show cur.toList.take 1 = _ from htake]; rfl
    rw [List.getElem?_take] at h2
    simpa using h2
theorem put_one {W0 w2 : World} {base gm : Nat} {I : List Ix} (h : IxAt W0 base gm I) (hI : I.length < 1000) (hg : W0.grownBy w2 none) (hbase : base ≤ W0.heap.size) (x : Ix) (hx : x.name.size ≤ maxLen) (hg2 : W0.heap.size ≤ x.g) (hc : 1 ≤ x.cap)
    (hrow : ∃ cur, w2.heap[x.g]? = some (.cells cur 3 (0, 0)) ∧ cur[0]? = some (.int .i64 x.idx)) :
    ∃ w3, (Instr.mapUpdate 39 (.map (some gm)) (.string x.name) (.slice (some ⟨x.g, 0, none⟩) 1 x.cap)).run Try.prog w2 = .ok () w3 ∧ IxAt w3 base gm (I ++ [x]) ∧ W0.grownBy w3 (some gm) := by
  obtain ⟨h1, h2, h3⟩ := h
  have hlt := h2.lt
  have hown := h2.kept hg (by simp)
  obtain ⟨w3, hrun, k1, k2⟩ := hown.update (Go.Maps.string_keyed Try.underlying9) Try.underlying39 (by have : maxLen = 9223372036854775807 := rfl; omega) (Go.WideMaps.keyOf_string_mk (P := Try.prog) (k := 9) Try.underlying9 hx) (ixR_mk x)
  have hgg : W0.grownBy w3 (some gm) := (hg.but (some gm)).trans k2
  refine ⟨w3, hrun, ⟨h1, by rw [mapI_snoc, List.length_append]; exact k1, fun i hi => ?_⟩, hgg⟩
  rcases List.mem_append.1 hi with hi | hi
  · obtain ⟨j1, j2, cur, j3, j4⟩ := h3 i hi
    have hne : i.g ≠ gm := by
      intro e
      obtain ⟨es, clock, hb, _⟩ := h2
      rw [e, hb] at j3
      cases j3
    exact ⟨j1, j2, cur, by rw [hgg.block i.g (Array.getElem?_eq_some_iff.1 j3).1 (by simpa using hne)]; exact j3, j4⟩
  · obtain rfl := List.mem_singleton.1 hi
    obtain ⟨cur, j3, j4⟩ := hrow
    exact ⟨by omega, hc, cur, by rw [k2.block i.g (Array.getElem?_eq_some_iff.1 j3).1 (by simp; omega)]; exact j3, j4⟩
/-- The index, asked for a name that it does not hold. -/
theorem look_none {W : World} {base gm : Nat} {I : List Ix} (h : IxAt W base gm I) (name : ByteArray) (hs : name.size ≤ maxLen) (hn : (I.map Ix.name).Nodup) (hno : name ∉ I.map Ix.name) :
    (Instr.lookup 39 (.map (some gm)) (.string name) false).run Try.prog W = .ok (.slice none 0 0) W := by
  obtain ⟨v, ps, hrun, hv⟩ := h.2.1.lookup (Go.Maps.string_keyed Try.underlying9) Try.underlying39 (zeroInts W) (show ixR (.slice none 0 0) = some (.nil, []) from rfl) (Go.WideMaps.keyOf_string_mk (P := Try.prog) (k := 9) Try.underlying9 hs)
  rw [mapI_at name I hn] at hv
  have hf : I.find? (fun i => i.name.data.toList == name.data.toList) = none := List.find?_eq_none.2 (fun i hi hq => hno (by
    have : i.name = name := ba_ext (eq_of_beq hq)
    rw [← this]
    exact List.mem_map.2 ⟨i, hi, rfl⟩))
  rw [hf] at hv
  rw [hrun, ixR_nil hv]
/-- What the statement that puts a name into the index reads, at each world that comes up in it. -/
structure PutR (gs p g cap n : Nat) (name : ByteArray) (gm : Nat) (w' : World) : Prop where
  c4 : w'.cell? ⟨gs, 4, none⟩ = some (.map (some gm))
  c0 : w'.cell? ⟨p, 0, none⟩ = some (.slice (some ⟨g, 0, none⟩) n cap)
  cv : (convert 48 9 (.slice (some ⟨g, 0, none⟩) n cap)).run Try.prog w' = .ok (.string name) w'
  lk : (Instr.lookup 39 (.map (some gm)) (.string name) false).run Try.prog w' = .ok (.slice none 0 0) w'
theorem put_reads {W w' : World} {base gs gm : Nat} {I : List Ix} {e : Ent} (h : IxAt W base gm I) (hv : VarAt W base e) (hc4 : W.cell? ⟨gs, 4, none⟩ = some (.map (some gm))) (hn : (I.map Ix.name).Nodup) (hno : e.name ∉ I.map Ix.name) (hg : W.grownBy w' none) : PutR gs e.p e.gn e.cap e.name.size e.name gm w' := by
  have hfr : Fr 0 W w' := (Fr.refl 0 W).grown (Nat.zero_le _) hg (fun k hk => by cases hk)
  have hv' : VarAt w' base e := hv.fr hfr (hg.block e.p (Array.getElem?_eq_some_iff.1 hv.blk).1 (by simp))
  refine ⟨(hg.cell_far _ (World.block_lt_of_cell? W _ hc4) (by simp)).trans hc4, hv'.cell0, ?_, ?_⟩
  · have := Kd.C_string (c := e.cap) Try.underlying48 Try.underlying5 Try.underlying9 hv'.txt.C
    rw [numsOf_length, nums_str] at this
    exact this
  · exact look_none (h.fr hfr (hg.block gm h.2.1.lt (by simp))) e.name (by have := hv.few; have : maxLen = 9223372036854775807 := rfl; omega) hn hno
section
variable {P : Program} {ops : Array Oper} {o : Oper} {a : Act} {Q : Exit → Act → World → Prop} {Kc : Act → World → Prop}
theorem ev_append {W w1 : World} (hw : Region.wanted o (yielded ops a.tmps) = true) (s x : Operand) (t : TypeId) (ho : o.op = .call { callee := .builtin .append, args := #[s, x], argTypes := #[t, t] }) {vs vx v : Value} (hs : a.eval s = vs) (hx : a.eval x = vx)
    (hr : ∀ ty, (Builtin.append_ #[t, t] ty #[vs, vx]).run P W = .ok v w1) (h : Kc (a.put o.dst v) w1) : if Region.wanted o (yielded ops a.tmps) = true then Oper.wp P o a W Kc Q else Kc (a.put o.dst undef) W := by
  rw [if_pos hw]
  unfold Oper.wp execOp
  simp only [ho, resolve, invoke, builtin, Sem.run_bind, Sem.run_pure, Result.andThen_ok, List.map_toArray, List.map_cons, List.map_nil, hs, hx, hr]
  exact h
theorem ev_put {W w1 : World} (hw : Region.wanted o (yielded ops a.tmps) = true) (m x v : Operand) (t : TypeId) (ho : o.op = Op.mapUpdate t m x v) {vm vx vv : Value} (hm : a.eval m = vm) (hx : a.eval x = vx) (hv : a.eval v = vv)
    (hr : (Instr.mapUpdate t vm vx vv).run P W = .ok () w1) (h : Kc (a.put o.dst undef) w1) : if Region.wanted o (yielded ops a.tmps) = true then Oper.wp P o a W Kc Q else Kc (a.put o.dst undef) W := by
  rw [if_pos hw]
  unfold Oper.wp
  simp [execOp, ho, hm, hx, hv, hr, Result.andThen]
  exact h
end
end Go.Proofs.Ytohfnhfpiipglaa.Own
