/- The buffers that a reader of a stream keeps: a row of blocks, and the chain of those that are in use. -/
import Derived.Test.YtgpmmmlmaaiobaaDoorCLexStep
import Derived.Laws.IdiomCopy
import Derived.Maps.AppendAt
import Derived.BigQuiet
import Derived.BigRegion
namespace Go.Proofs.YtgpmmmlmaaiobaaDoor.Own
open Go.RowKit Go.Proofs.YtgpmmmlmaaiobaaDoorW.PrintWords Go.Proofs.YtgpmmmlmaaiobaaDoorW.PrintLast
set_option linter.unusedVariables false
set_option linter.unusedSimpArgs false
/-- A block of the pool: its bytes, how many of them are meant, their room, the next block in the chain (plus one), whether it is in use. -/
structure Blk where
  g : Nat
  n : Nat
  cap : Nat
  next : Nat
  act : Bool
def Blk.cells (b : Blk) : List Value := [.slice (some ⟨b.g, 0, none⟩) b.n b.cap, .int .i64 (b.next : Int), .bool b.act]
def flatB (es : List Blk) : List Value := es.flatMap Blk.cells
theorem flatB_len (es : List Blk) : (flatB es).length = es.length * 3 := by
  induction es with
  | nil => rfl
  | cons a t ih => rw [show flatB (a :: t) = a.cells ++ flatB t from rfl, List.length_append, ih, List.length_cons]; show 3 + _ = _; omega
theorem flatB_at {es : List Blk} {i j : Nat} (hi : i < es.length) (hj : j < 3) : (flatB es)[i * 3 + j]? = es[i].cells[j]? := by
  induction es generalizing i with
  | nil => simp at hi
  | cons a t ih =>
    rw [show flatB (a :: t) = a.cells ++ flatB t from rfl]
    cases i with
    | zero => rw [List.getElem?_append_left (by show 0 * 3 + j < 3; omega)]; simp
    | succ i =>
      rw [List.getElem?_append_right (by show 3 ≤ _; omega)]
      have := ih (i := i) (by simpa using hi)
      rw [show (i + 1) * 3 + j - a.cells.length = i * 3 + j from by show (i + 1) * 3 + j - 3 = _; omega, this]
      rfl
theorem flatB_set {es : List Blk} {i j : Nat} {v : Value} {b : Blk} (hi : i < es.length) (hj : j < 3) (hb : b.cells = es[i].cells.set j v) : (flatB es).set (i * 3 + j) v = flatB (es.set i b) := by
  induction es generalizing i with
  | nil => simp at hi
  | cons a t ih =>
    rw [show flatB (a :: t) = a.cells ++ flatB t from rfl]
    cases i with
    | zero =>
      rw [List.set_append_left _ _ (by show 0 * 3 + j < 3; omega), List.set_cons_zero, show flatB (b :: t) = b.cells ++ flatB t from rfl, hb]
      simp
    | succ i =>
      rw [List.set_append_right _ _ (by show 3 ≤ _; omega), List.set_cons_succ, show flatB (a :: t.set i b) = a.cells ++ flatB (t.set i b) from rfl, ← ih (by simpa using hi) (by simpa using hb)]
      rw [show (i + 1) * 3 + j - a.cells.length = i * 3 + j from by show (i + 1) * 3 + j - 3 = _; omega]
theorem flatB_app (es : List Blk) (b : Blk) : flatB (es ++ [b]) = flatB es ++ b.cells := by
  unfold flatB
  rw [List.flatMap_append]
  simp
/-! The chain. -/
def fstL : List Nat → Nat
  | [] => 0
  | a :: _ => a + 1
def lstL : List Nat → Nat
  | [] => 0
  | [a] => a + 1
  | _ :: b :: t => lstL (b :: t)
def Links (es : List Blk) : List Nat → Prop
  | [] => True
  | a :: t => (∃ e, es[a]? = some e ∧ e.act = true ∧ e.next = fstL t) ∧ Links es t
theorem Links.lt {es : List Blk} : ∀ {L : List Nat}, Links es L → ∀ a ∈ L, ∃ e, es[a]? = some e ∧ e.act = true
  | [], _, a, ha => by cases ha
  | b :: t, ⟨⟨e, h1, h2, _⟩, h3⟩, a, ha => by
    rcases List.mem_cons.1 ha with rfl | ha
    · exact ⟨e, h1, h2⟩
    · exact Links.lt h3 a ha
theorem Links.set {es : List Blk} {i : Nat} {b : Blk} : ∀ {L : List Nat}, Links es L → i ∉ L → Links (es.set i b) L
  | [], _, _ => trivial
  | a :: t, ⟨⟨e, h1, h2⟩, h3⟩, hi => by
    refine ⟨⟨e, ?_, h2⟩, h3.set (fun h => hi (List.mem_cons_of_mem _ h))⟩
    rw [List.getElem?_set_ne (fun e2 => hi (by rw [e2]; exact List.mem_cons_self)), h1]
theorem Links.app {es : List Blk} {b : Blk} : ∀ {L : List Nat}, Links es L → Links (es ++ [b]) L
  | [], _ => trivial
  | a :: t, ⟨⟨e, h1, h2⟩, h3⟩ => ⟨⟨e, by rw [List.getElem?_append_left (List.getElem?_eq_some_iff.1 h1).1, h1], h2⟩, h3.app⟩
theorem lstL_snoc : ∀ (L : List Nat) (i : Nat), lstL (L ++ [i]) = i + 1
  | [], i => rfl
  | [a], i => rfl
  | a :: b :: t, i => lstL_snoc (b :: t) i
theorem lstL_mem : ∀ {L : List Nat}, L ≠ [] → ∃ a ∈ L, lstL L = a + 1
  | [], h => absurd rfl h
  | [a], _ => ⟨a, List.mem_singleton_self _, rfl⟩
  | a :: b :: t, _ => by
    obtain ⟨x, hx, h⟩ := lstL_mem (L := b :: t) (by simp)
    exact ⟨x, List.mem_cons_of_mem _ hx, h⟩
/-- One more block at the end of the chain. -/
theorem Links.snoc {es : List Blk} {i : Nat} {new : Blk} (hn : es[i]? = some new) (ha : new.act = true) (h0 : new.next = 0) : ∀ {L : List Nat}, Links es L → L.Nodup → i ∉ L → ∀ {a : Nat} {e : Blk}, lstL L = a + 1 → es[a]? = some e → Links (es.set a { e with next := i + 1 }) (L ++ [i])
  | [], _, _, _, a, e, hl, _ => by cases hl
  | [x], ⟨⟨e', h1, h2, h3⟩, _⟩, _, hi, a, e, hl, he => by
    obtain rfl : x = a := by simpa [lstL] using hl
    obtain rfl := Option.some.inj (h1.symm.trans he)
    have hne : x ≠ i := fun e => hi (by rw [e]; exact List.mem_singleton_self _)
    refine ⟨⟨{ e' with next := i + 1 }, ?_, h2, rfl⟩, ⟨new, ?_, ha, h0⟩, trivial⟩
    · rw [List.getElem?_set_self (List.getElem?_eq_some_iff.1 h1).1]
    · rw [List.getElem?_set_ne hne, hn]
  | x :: y :: t, ⟨⟨e', h1, h2, h3⟩, h4⟩, hd, hi, a, e, hl, he => by
    obtain ⟨b, hb, hbl⟩ := lstL_mem (L := y :: t) (by simp)
    have hab : a = b := by
      have : lstL (y :: t) = a + 1 := hl
      omega
    subst hab
    have hxa : a ≠ x := fun e => (List.nodup_cons.1 hd).1 (e ▸ hb)
    refine ⟨⟨e', ?_, h2, h3⟩, Links.snoc hn ha h0 h4 (List.nodup_cons.1 hd).2 (fun h => hi (List.mem_cons_of_mem _ h)) hl he⟩
    rw [List.getElem?_set_ne hxa, h1]
/-- The bytes of a buffer: one block of its own, all of whose cells are bytes. -/
def BufIn (w : World) (top g cap : Nat) : Prop := ∃ full : List Int, top ≤ g ∧ full.length = cap ∧ cap ≤ 2000 ∧ w.heap[g]? = some (.cells (u8i full).toArray 5 (0, 0))
theorem BufIn.keep {w w' : World} {top g cap : Nat} (h : BufIn w top g cap) (hk : ∀ cs, w.heap[g]? = some (.cells cs 5 (0, 0)) → w'.heap[g]? = w.heap[g]?) : BufIn w' top g cap := by
  obtain ⟨full, h1, h2, h3, h4⟩ := h
  exact ⟨full, h1, h2, h3, (hk _ h4).trans h4⟩
def BlkOk (w : World) (top : Nat) (e : Blk) : Prop := BufIn w top e.g e.cap ∧ e.n ≤ e.cap
/-- The pool: a row of blocks. -/
def PoolAt (w : World) (base top : Nat) (v : Value) (es : List Blk) : Prop := w.ownsRow base 101 3 v es.length (flatB es) ∧ ∀ e ∈ es, BlkOk w top e
/-- The reader's own cells. -/
def ZAt (w : World) (gz : Nat) (r err pv : Value) (hd tl : Nat) (pp : Int) (buf : Value) (st ps pr fe : Int) : Prop :=
  w.heap[gz]? = some (.cells #[r, err, pv, .int .i64 (hd : Int), .int .i64 (tl : Int), .int .i64 pp, buf, .int .i64 st, .int .i64 ps, .int .i64 pr, .int .i64 fe] 97 (0, 0))
/-- What a step leaves as it is: what lies below 'base', and every block of another type. -/
def FrS (S : List TypeId) (base : Nat) (w w' : World) : Prop := Below base w w' ∧ base ≤ w.heap.size ∧ w.heap.size ≤ w'.heap.size ∧ ∀ (k : Nat) (cs : Array Value) (t : TypeId) (fr : Nat × Nat), w.heap[k]? = some (.cells cs t fr) → t ∉ S → w'.heap[k]? = w.heap[k]?
section
variable {S : List TypeId} {base : Nat} {w w' w2 : World}
theorem FrS.refl (h : base ≤ w.heap.size) : FrS S base w w := ⟨Below.refl _ _, h, Nat.le_refl _, fun _ _ _ _ _ _ => rfl⟩
theorem FrS.trans (h : FrS S base w w') (k : FrS S base w' w2) : FrS S base w w2 := by
  refine ⟨h.1.trans k.1, h.2.1, Nat.le_trans h.2.2.1 k.2.2.1, fun q cs t fr hq ht => ?_⟩
  have h1 := h.2.2.2 q cs t fr hq ht
  exact (k.2.2.2 q cs t fr (h1.trans hq) ht).trans h1
theorem FrS.mono {S' : List TypeId} (h : FrS S base w w') (hs : ∀ t ∈ S, t ∈ S') : FrS S' base w w' := ⟨h.1, h.2.1, h.2.2.1, fun q cs t fr hq ht => h.2.2.2 q cs t fr hq (fun hm => ht (hs t hm))⟩
theorem FrS.at (h : FrS S base w w') {k : Nat} {cs : Array Value} {t : TypeId} {fr : Nat × Nat} (hk : w.heap[k]? = some (.cells cs t fr)) (ht : t ∉ S) : w'.heap[k]? = some (.cells cs t fr) := (h.2.2.2 k cs t fr hk ht).trans hk
theorem FrS.set (h : FrS S base w w') {g j : Nat} {v : Value} {cs : Array Value} {t : TypeId} {fr : Nat × Nat} (hg : base ≤ g) (hb : w'.heap[g]? = some (.cells cs t fr)) (ht : t ∈ S) : FrS S base w (w'.setCell ⟨g, j, none⟩ v) := by
  refine ⟨below_set h.1 (Nat.le_trans h.2.1 h.2.2.1) hg, h.2.1, by rw [sc_size]; exact h.2.2.1, fun q cs' t' fr' hq ht' => ?_⟩
  have h1 := h.2.2.2 q cs' t' fr' hq ht'
  by_cases e : q = g
  · subst e
    rw [h1, hq] at hb
    cases hb
    exact absurd ht ht'
  · rw [sc_ne e, h1]
theorem FrS.alloc (h : FrS S base w w') (o : Obj) : FrS S base w (w'.alloc o) := by
  refine ⟨h.1.alloc (Nat.le_trans h.2.1 h.2.2.1) o, h.2.1, by simp; have := h.2.2.1; omega, fun q cs t fr hq ht => ?_⟩
  have h1 := h.2.2.2 q cs t fr hq ht
  rw [al_lt (Array.getElem?_eq_some_iff.1 (h1.trans hq)).1, h1]
theorem FrS.drewN (h : FrS S base w w') (n : Nat) : FrS S base w (w'.drewN n) := ⟨pw_below_drewN h.1 n, h.2.1, by simpa using h.2.2.1, fun q cs t fr hq ht => by have := h.2.2.2 q cs t fr hq ht; simpa using this⟩
theorem FrS.grown (h : FrS S base w w') {o : Option Nat} (hg : w'.grownBy w2 o) (ho : ∀ k, o = some k → base ≤ k ∧ ∃ cs t fr, w'.heap[k]? = some (.cells cs t fr) ∧ t ∈ S) : FrS S base w w2 := by
  refine ⟨h.1.grown hg (Nat.le_trans h.2.1 h.2.2.1) (fun k hk => (ho k hk).1), h.2.1, Nat.le_trans h.2.2.1 hg.size, fun q cs t fr hq ht => ?_⟩
  have h1 := h.2.2.2 q cs t fr hq ht
  refine (hg.block q (Array.getElem?_eq_some_iff.1 (h1.trans hq)).1 (fun e => ?_)).trans h1
  obtain ⟨_, cs', t', fr', hb, ht'⟩ := ho q e.symm
  rw [h1, hq] at hb
  cases hb
  exact ht ht'
end
end Go.Proofs.YtgpmmmlmaaiobaaDoor.Own
