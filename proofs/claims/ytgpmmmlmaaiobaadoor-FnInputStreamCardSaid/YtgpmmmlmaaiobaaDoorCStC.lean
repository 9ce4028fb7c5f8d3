/- The pool gives a buffer, and keeps the one that was read. -/
import Derived.Test.YtgpmmmlmaaiobaaDoorCStB
import Derived.Deep.DeepCutAuto
namespace Go.Proofs.YtgpmmmlmaaiobaaDoor.Own
open Go.RowKit Go.Proofs.YtgpmmmlmaaiobaaDoorW.PrintWords Go.Proofs.YtgpmmmlmaaiobaaDoorW.PrintLast
set_option linter.unusedVariables false
set_option linter.unusedSimpArgs false
section
variable {P : Program} {ops : Array Oper} {o : Oper} {a : Act} {Q : Exit → Act → World → Prop} {Kc : Act → World → Prop}
theorem ev_append {W w1 : World} (hw : Region.wanted o (yielded ops a.tmps) = true) (s x : Operand) (t : TypeId) (ho : o.op = .call { callee := .builtin .append, args := #[s, x], argTypes := #[t, t] }) {vs vx v : Value} (hs : a.eval s = vs) (hx : a.eval x = vx)
    (hr : ∀ ty, (Builtin.append_ #[t, t] ty #[vs, vx]).run P W = .ok v w1) (h : Kc (a.put o.dst v) w1) : if Region.wanted o (yielded ops a.tmps) = true then Oper.wp P o a W Kc Q else Kc (a.put o.dst undef) W := by
  rw [if_pos hw]
  unfold Oper.wp execOp
  simp only [ho, resolve, invoke, builtin, Sem.run_bind, Sem.run_pure, Result.andThen_ok, List.map_toArray, List.map_cons, List.map_nil, hs, hx, hr]
  exact h
end
theorem infoBk : (Tryd.prog.info? 101).map (fun i => (i.zero, i.size, i.bytes)) = some (some (.agg #[.slice none 0 0, .int .i64 0, .bool false]), 3, 40) := by kernel_rfl
theorem made_zeros (c : Nat) : madeCells #[Value.int .u8 0] c = (u8i (List.replicate c 0)).toArray := by
  apply Array.ext'
  apply List.ext_getElem
  · simp [u8i, madeCells]
  · intro i h1 h2
    simp [u8i, madeCells, Nat.mod_one]
/-- A buffer of its own is made, and a block for it put into the pool. -/
theorem pool_grow (W : World) (base top c : Nat) (pv : Value) (es : List Blk) (hp : PoolAt W base top pv es) (hbw : base ≤ W.heap.size) (htop : top ≤ W.heap.size) (hc : c ≤ 2000) (hfew : es.length ≤ 1000000) :
    ∃ gp capp W3, (∀ ty, (Builtin.append_ #[93, 93] ty #[pv, .slice (some ⟨W.heap.size + 1, 0, none⟩) 1 1]).run Tryd.prog ((W.alloc (.cells (madeCells #[.int .u8 0] c) 5)).alloc (.cells #[.slice (some ⟨W.heap.size, 0, none⟩) 0 c, .int .i64 0, .bool true] 101)) = .ok (.slice (some ⟨gp, 0, none⟩) (es.length + 1) capp) W3) ∧
      PoolAt W3 base top (.slice (some ⟨gp, 0, none⟩) (es.length + 1) capp) (es ++ [⟨W.heap.size, 0, c, 0, true⟩]) ∧ FrS [101] base W W3 := by
  obtain ⟨i0, hi0, hz0, hs1, hb1⟩ := info_parts infoBk
  obtain ⟨W1, hW1⟩ : ∃ x, x = W.alloc (.cells (madeCells #[.int .u8 0] c) 5) := ⟨_, rfl⟩
  obtain ⟨W2, hW2⟩ : ∃ x, x = W1.alloc (.cells #[.slice (some ⟨W.heap.size, 0, none⟩) 0 c, .int .i64 0, .bool true] 101) := ⟨_, rfl⟩
  have s1 : W1.heap.size = W.heap.size + 1 := by rw [hW1]; simp
  have s2 : W2.heap.size = W.heap.size + 2 := by rw [hW2]; simp [s1]
  have f2 : FrS [101] base W W2 := by rw [hW2, hW1]; exact ((FrS.refl hbw).alloc _).alloc _
  have hbuf : W1.heap[W.heap.size]? = some (.cells (u8i (List.replicate c 0)).toArray 5 (0, 0)) := by rw [hW1, ← made_zeros]; exact al_eq rfl
  have hlit : W2.heap[W.heap.size + 1]? = some (.cells #[.slice (some ⟨W.heap.size, 0, none⟩) 0 c, .int .i64 0, .bool true] 101 (0, 0)) := by rw [hW2]; exact al_eq s1.symm
  have f12 : FrS [] base W1 W2 := by rw [hW2]; exact (FrS.refl (by omega)).alloc _
  have hbuf2 := f12.at hbuf (by simp)
  have p2 : PoolAt W2 base top pv es := by
    rw [hW2, hW1]
    exact hp.fr (S := []) (((FrS.refl hbw).alloc _).alloc _) (by simp) (by simp)
  rw [← hW1, ← hW2]
  obtain ⟨v', w', hrun, hown2, hg, hnil, hat⟩ := run_append_own_at (P := Tryd.prog) W2 base 93 0 101 i0 (.agg #[.slice none 0 0, .int .i64 0, .bool false]) 3 40 Tryd.underlying93 hi0 hz0 hs1 hb1 rfl (by decide) pv es.length (flatB es) p2.1 ⟨W.heap.size + 1, 0, none⟩ 1 1 (Blk.cells ⟨W.heap.size, 0, c, 0, true⟩) rfl
    (fun j u hj => by
      rw [add_plain, cell_of_row _ _ j _ _ (0, 0) hlit, ← Array.getElem?_toList, ← hj]
      rfl) (by simp [Blk.cells, Value.oneCell']) (by have : maxLen = 9223372036854775807 := rfl; omega) (by omega) (by omega)
  have hown2' := hown2
  rcases hown2.2 with ⟨_, h0⟩ | ⟨g, cap, cur, rfl, hbg, hblk, hnc, hcm, hcs, htake⟩
  · omega
  · have f3 : FrS [101] base W2 w' := (FrS.refl (by omega)).grown hg (fun k hk => by
      rcases p2.1.2 with ⟨rfl, _⟩ | ⟨g', cap', cur', rfl, q1, q2, _⟩
      · cases hk
      · cases hk
        exact ⟨q1, _, _, _, q2, by simp⟩)
    refine ⟨g, cap, w', fun ty => hrun, ⟨?_, fun e he => ?_⟩, f2.trans f3⟩
    · rw [flatB_app, List.length_append]
      exact hown2'
    · rcases List.mem_append.1 he with he | he
      · exact ⟨(p2.2 e he).1.keep (fun cs hcs => f3.2.2.2 _ _ _ _ hcs (by decide)), (p2.2 e he).2⟩
      · obtain rfl := List.mem_singleton.1 he
        exact ⟨⟨List.replicate c 0, htop, by simp, hc, f3.at hbuf2 (by decide)⟩, Nat.zero_le _⟩
theorem PoolAt.gen {w : World} {base top : Nat} {v : Value} {es : List Blk} (h : PoolAt w base top v es) : ∃ A cap, v = .slice A es.length cap ∧ es.length ≤ cap := by
  rcases h.1.2 with ⟨rfl, h0⟩ | ⟨g, cap, cur, rfl, h1, h2, h3, _⟩
  · exact ⟨none, 0, by rw [h0], by omega⟩
  · exact ⟨_, cap, rfl, h3⟩
end Go.Proofs.YtgpmmmlmaaiobaaDoor.Own
