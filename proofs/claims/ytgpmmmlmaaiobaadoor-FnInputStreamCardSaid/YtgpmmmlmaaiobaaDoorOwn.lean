/- Words beside the printed ones: a text turned into bytes, an element of an array that is written out. No condition. -/
import Derived.Test.YtgpmmmlmaaiobaaDoorWMore
import Derived.Laws.IdiomStrings
import Derived.Lib.SlBytesConst
import Derived.Test.YtgpmmmlmaaiobaaDoorWGuard
import Derived.Deep.LoopGhost
set_option linter.unusedVariables false
set_option linter.unusedSimpArgs false
namespace Go.Proofs.YtgpmmmlmaaiobaaDoor.Own
open Go.RowKit Go.Proofs.YtgpmmmlmaaiobaaDoorW.PrintWords Go.Proofs.YtgpmmmlmaaiobaaDoorW.PrintLast

/-- The bytes of a text. -/
def numsOf (s : ByteArray) : List Int := s.data.toList.map fun c => (c.toNat : Int)
theorem numsOf_length (s : ByteArray) : (numsOf s).length = s.size := by simp [numsOf]
/-- A block that is known: a row of whole numbers. -/
theorem R_block {w : World} {base g e cap : Nat} {k : IntKind} {xs : List Int} {cs : Array Value} (hb : w.heap[g]? = some (.cells cs e (0, 0))) (hg : base ≤ g) (hcap : cs.size = cap) (hl : xs.length ≤ cap) (hm : cap ≤ 9223372036854775807)
    (hx : cs.toList.take xs.length = xs.map (Value.int k)) : Kd.R (Kd.int k) e w base (fun _ => True) (.slice (some ⟨g, 0, none⟩) xs.length cap) xs := by
  refine Kd.R_of_own (h1 := fun _ => rfl) ⟨by simp [encs], .inr ⟨g, cap, cs, rfl, hg, hb, hl, by simpa [maxLen] using hm, by simpa using hcap, by simpa [encs] using hx⟩⟩ (fun _ _ => trivial)
section
variable {P : Program} {ops : Array Oper} {rest : List Oper} {o : Oper} {a : Act} {Q : Exit → Act → World → Prop} {w0 W : World}
theorem cells_bytes (s : ByteArray) (cap : Nat) (hm : s.size ≤ 140737488355328) (e : TypeId) (fr : Nat × Nat) (W : World) :
    Kd.C (Kd.int .u8) (W.alloc (.cells (bytesRow s cap) e fr)) (some ⟨W.heap.size, 0, none⟩) (numsOf s).length (numsOf s) := by
  refine Kd.C_of_reads (d := (0 : Int)) (h1 := fun _ => rfl) ⟨rfl, by rw [numsOf_length]; omega, fun _ => ⟨_, rfl, fun j hj => ?_⟩⟩
  rw [numsOf_length] at hj
  rw [add_plain, World.cell?_alloc_mark]
  have hj' : j < s.data.size := hj
  unfold bytesRow
  rw [Array.getElem?_append_left (by simpa using hj')]
  simp [numsOf, List.getD_eq_getElem?_getD]
  rw [Array.getElem?_eq_getElem hj']
  exact ⟨_, rfl, rfl⟩
/-- An element of an array that is written out. -/
theorem arr_run {n e : Nat} (T : TypeId) (hT : P.underlying T = some (.array n e)) (he1 : ∀ w, Sem.run P (sizeOf e) w = .ok 1 w) (he2 : ∀ w, Sem.run P (isAgg e) w = .ok false w) (vs : Array Value)
    (k : IntKind) (i : Int) (j : Nat) (hi : i = (j : Int)) (hn : j < n) (v : Value) (hv : vs[j]? = some v) : ∀ W : World, (Instr.index T (.agg vs) (.int k i)).run P W = .ok v W := by
  intro W
  subst hi
  simp [Instr.index, run_underlying hT, asIntOf, go_sem, hn, he1, he2, hv]
theorem arr_index (hgd : o.guard = none) {N' : Tmp} (_hd : o.dst = some N') (T : TypeId) (x y : Operand) (ho : o.op = .index T x y) {n e : Nat} (hT : P.underlying T = some (.array n e)) (he1 : ∀ w, Sem.run P (sizeOf e) w = .ok 1 w) (he2 : ∀ w, Sem.run P (isAgg e) w = .ok false w) (vs : Array Value) (hx : a.eval x = .agg vs)
    (k : IntKind) (i : Int) (hy : a.eval y = .int k i) (j : Nat) (hi : i = (j : Int)) (hn : j < n) (v : Value) (hv : vs[j]? = some v) (h : wpList P ops Q rest (a.put o.dst v) W) : wpList P ops Q (o :: rest) a W := by
  subst hi
  have h1 : (Instr.index T (.agg vs) (.int k (j : Int))).run P W = .ok v W := by
    simp [Instr.index, run_underlying hT, asIntOf, go_sem, hn, he1, he2, hv]
  have hrun : (execOp a.eval o).run P W = .ok (.value v) W := by
    unfold execOp
    simp only [ho, hx, hy, Sem.run_bind, h1, Result.andThen_ok, Sem.run_pure]
  exact Kd.event_run hgd hrun h
theorem V_bytes (base e : Nat) (hgd : o.guard = none) {N' : Tmp} (_hd : o.dst = some N') (src dst : TypeId) (x : Operand) (ho : o.op = .convert src dst x)
    (hs : P.underlying src = some .string) (ht : P.underlying dst = some (.slice e)) (he : P.underlying e = some (.int .u8)) (s : ByteArray) (hx : a.eval x = .string s) (hm : s.size ≤ 140737488355328)
    (HB : Below base w0 W) (hbase : base ≤ W.heap.size)
    (h : ∀ v1 w1, Kd.V (Kd.int .u8) e w1 base (fun k_ => W.heap.size ≤ k_) v1 (numsOf s) → Below base w0 w1 → W.grownBy w1 none → (∃ b, v1.ownBlock = some b ∧ W.heap.size ≤ b) → wpList P ops Q rest (a.put o.dst v1) w1) : wpList P ops Q (o :: rest) a W := by
  have hc := run_bytes_of_string (P := P) W src dst e s hs ht he
  have hrun : (execOp a.eval o).run P W = .ok (.value (.slice (some ⟨W.heap.size, 0, none⟩) s.size (grownCap W s.size 0 e)))
      (W.drew.alloc (.cells (bytesRow s (grownCap W s.size 0 e)) e ((bytesRow s (grownCap W s.size 0 e)).size, (bytesRow s (grownCap W s.size 0 e)).size + 1))) := by
    unfold execOp
    simp only [ho, hx, Sem.run_bind, hc, Result.andThen_ok, Sem.run_pure]
  have h0 : World.drew W = W.drewN 1 := rfl
  refine Kd.event_run hgd hrun (h _ _ ⟨_, _, by rw [numsOf_length], ?_, ?_⟩ ((below_drew HB).alloc hbase _) ?_ ⟨W.heap.size, by simp [Value.ownBlock], Nat.le_refl _⟩)
  · rw [numsOf_length]
    unfold grownCap Question.cut
    simp
  · intro W' hW
    have hq := cells_bytes s (grownCap W s.size 0 e) hm e ((bytesRow s (grownCap W s.size 0 e)).size, (bytesRow s (grownCap W s.size 0 e)).size + 1) W.drew
    refine ⟨hq.1, hq.2.1, fun hn => ?_⟩
    obtain ⟨ad, e1, hc1⟩ := hq.2.2 hn
    obtain rfl := Option.some.inj e1
    refine ⟨_, rfl, fun j p hj => ?_⟩
    obtain ⟨c, hl, hk, hcell⟩ := hc1 j p hj
    refine ⟨c, hl, hk, fun i u hu => ?_⟩
    have h1 := hcell i u hu
    have hb := hW W.heap.size (Nat.le_refl _) (by simp)
    rw [add_plain] at h1 ⊢
    simp only [World.cell?] at h1 ⊢
    rw [show W.drew.heap.size = W.heap.size from rfl] at h1
    rw [hb]
    exact h1
  · exact World.grownBy.trans (⟨rfl, rfl, rfl, Nat.le_refl _, fun _ _ _ => rfl⟩ : W.grownBy W.drew none) (World.grownBy_alloc W.drew _ none)
/-- '[]byte("..")' of a constant: a literal, and behind it the mark of a text's bytes. -/
theorem V_const (base e : Nat) {o2 : Oper} (hgd : o.guard = none) {N' : Tmp} (_hd : o.dst = some N') (T : TypeId) (ht : P.underlying T = some (.slice e)) (he : P.underlying e = some (.int .u8))
    (xs : List Int) (inner : List Value) (hin : inner = xs.map (Value.int .u8)) (hrun : (execOp a.eval o).run P W = .ok (.value (.slice (some ⟨W.heap.size, 0, none⟩) xs.length xs.length)) (W.alloc (.cells inner.toArray e)))
    (ho2 : o2.op = .convert T T (.tmp N')) (hw2 : ∀ v, Region.wanted o2 (yielded ops (a.put o.dst v).tmps) = true) (hev : ∀ v, (a.put o.dst v).eval (.tmp N') = v)
    (HB : Below base w0 W) (hbase : base ≤ W.heap.size) (hm : xs.length ≤ 9223372036854775807)
    (h : ∀ v1 w1, Kd.V (Kd.int .u8) e w1 base (fun k_ => W.heap.size ≤ k_) v1 xs → Below base w0 w1 → W.grownBy w1 none → (∃ b, v1.ownBlock = some b ∧ W.heap.size ≤ b) → wpList P ops Q rest ((a.put o.dst v1).put o2.dst v1) w1) :
    wpList P ops Q (o :: o2 :: rest) a W := by
  subst hin
  refine Kd.event_run hgd hrun ?_
  have hc := Lib.run_convert_bytes_const (P := P) W T e (xs.map (Value.int .u8)).toArray xs.length xs.length ht he
  have hrun2 : (execOp (a.put o.dst (.slice (some ⟨W.heap.size, 0, none⟩) xs.length xs.length)).eval { o2 with guard := none }).run P (W.alloc (.cells (xs.map (Value.int .u8)).toArray e)) = .ok (.value (.slice (some ⟨W.heap.size, 0, none⟩) xs.length xs.length))
      (W.alloc (.cells (xs.map (Value.int .u8)).toArray e ((xs.map (Value.int .u8)).toArray.size, (xs.map (Value.int .u8)).toArray.size + 1))) := by
    unfold execOp
    simp only [ho2, hev, Sem.run_bind, hc, Result.andThen_ok, Sem.run_pure]
  refine gate_guard (hw2 _) (Kd.event_run rfl hrun2 (h _ _ ⟨_, _, rfl, Nat.le_refl _, ?_⟩ (HB.alloc hbase _) (World.grownBy_alloc W _ none) ⟨W.heap.size, by simp [Value.ownBlock], Nat.le_refl _⟩))
  intro W' hW
  refine Kd.C_of_reads (d := (0 : Int)) (h1 := fun _ => rfl) ⟨rfl, hm, fun _ => ⟨_, rfl, fun j hj => ?_⟩⟩
  have hb := hW W.heap.size (Nat.le_refl _) (by simp)
  have h1 := World.cell?_alloc_mark W (xs.map (Value.int .u8)).toArray e ((xs.map (Value.int .u8)).toArray.size, (xs.map (Value.int .u8)).toArray.size + 1) j
  rw [add_plain]
  simp only [World.cell?] at h1 ⊢
  rw [hb, h1]
  simp [List.getD_eq_getElem?_getD, hj]
end
end Go.Proofs.YtgpmmmlmaaiobaaDoor.Own
