/- The state of a reader of a stream. -/
import Derived.Test.YtgpmmmlmaaiobaaDoorCStD
import Derived.Test.YtgpmmmlmaaiobaaDoorCStE
namespace Go.Proofs.YtgpmmmlmaaiobaaDoor.Own
open Go.RowKit Go.Proofs.YtgpmmmlmaaiobaaDoorW.PrintWords Go.Proofs.YtgpmmmlmaaiobaaDoorW.PrintLast
set_option linter.unusedVariables false
set_option linter.unusedSimpArgs false
/-- What the reader may write: its own cells, the source's, the pool's rows, buffers. -/
def stS : List TypeId := [97, 101, 79, 5]
/-- A buffer whose bytes are told. -/
def FullAt (w : World) (top g cap : Nat) (full : List Int) : Prop := top ≤ g ∧ full.length = cap ∧ cap ≤ 2000 ∧ w.heap[g]? = some (.cells (u8i full).toArray 5 (0, 0))
def rV (gs : Nat) : Value := .iface 77 (.pointer (some ⟨gs, 0, none⟩))
/-- What lies behind the reader, whatever buffer it has: its pool, and what the source has left (bytes from place 'e' on). -/
structure Back (w : World) (base top gs pc : Nat) (dat : List Int) (M : Nat) (pv : Value) (L : List Nat) (e : Nat) : Prop where
  pool : ∃ es, PoolAt w base top pv es ∧ Links es L ∧ es.length ≤ M
  nd : L.Nodup
  src : SrcAt w top base gs (dat.drop e) pc
  lo : base ≤ top
  hi : top ≤ w.heap.size
  le : e ≤ dat.length
section
variable {w w' : World} {base top gz gs pc : Nat} {dat : List Int} {M e : Nat} {pv : Value} {L : List Nat}
theorem FullAt.buf {g cap : Nat} {full : List Int} (h : FullAt w top g cap full) : BufIn w top g cap := ⟨full, h.1, h.2.1, h.2.2.1, h.2.2.2⟩
theorem FullAt.fr {S : List TypeId} {g cap : Nat} {full : List Int} (h : FullAt w top g cap full) (hf : FrS S base w w') (hs : 5 ∉ S) : FullAt w' top g cap full := ⟨h.1, h.2.1, h.2.2.1, hf.at h.2.2.2 hs⟩
theorem SrcAt.fr {S : List TypeId} {rest : List Int} (h : SrcAt w top base gs rest pc) (hf : FrS S base w w') (h1 : 5 ∉ S) (h2 : 79 ∉ S) : SrcAt w' top base gs rest pc := by
  refine h.keep ?_ (fun k cs fr _ hk => hf.2.2.2 _ _ _ _ hk h1)
  obtain ⟨A, c, k1, _⟩ := h
  exact hf.2.2.2 _ _ _ _ k1 h2
/-- A step that writes the reader's own cells alone. -/
theorem Back.fr {S : List TypeId} (h : Back w base top gs pc dat M pv L e) (hf : FrS S base w w') (h0 : 101 ∉ S) (h1 : 5 ∉ S) (h2 : 79 ∉ S) : Back w' base top gs pc dat M pv L e := by
  obtain ⟨⟨es, p1, p2, p3⟩, k1, k2, k3, k4, k5⟩ := h
  exact ⟨⟨es, p1.fr hf h0 h1, p2, p3⟩, k1, k2.fr hf h1 h2, k3, Nat.le_trans k4 hf.2.2.1, k5⟩
/-- Bytes are written into a buffer. -/
theorem PoolAt.write {g : Nat} {v : Value} {es : List Blk} {full full2 : List Int} (h : PoolAt w base top v es) (hg : w.heap[g]? = some (.cells (u8i full).toArray 5 (0, 0))) (hg2 : w'.heap[g]? = some (.cells (u8i full2).toArray 5 (0, 0))) (hl : full2.length = full.length)
    (hk : ∀ k, k < w.heap.size → k ≠ g → w'.heap[k]? = w.heap[k]?) : PoolAt w' base top v es := by
  obtain ⟨⟨k1, k2⟩, k0⟩ := h
  refine ⟨⟨k1, ?_⟩, fun e he => ⟨?_, (k0 e he).2⟩⟩
  · rcases k2 with k2 | ⟨g', cap', cur, h3, h4, h5, h6⟩
    · exact .inl k2
    · exact .inr ⟨g', cap', cur, h3, h4, (hk g' (Array.getElem?_eq_some_iff.1 h5).1 (fun e => absurd (types_eq (e ▸ h5) hg) (by decide))).trans h5, h6⟩
  · obtain ⟨f, q1, q2, q3, q4⟩ := (k0 e he).1
    by_cases hge : e.g = g
    · subst hge
      have : f = full := by
        rw [hg] at q4
        injection q4 with q4
        injection q4 with q4
        have q5 : u8i full = u8i f := by simpa using q4
        exact (List.map_inj_right (fun a b h => by injection h)).1 q5.symm
      subst this
      exact ⟨full2, q1, by omega, q3, hg2⟩
    · exact ⟨f, q1, q2, q3, (hk _ (Array.getElem?_eq_some_iff.1 q4).1 hge).trans q4⟩
theorem SrcAt.write {g : Nat} {rest full : List Int} (h : SrcAt w top base gs rest pc) (ht : top ≤ g) (hg : w.heap[g]? = some (.cells (u8i full).toArray 5 (0, 0))) (hk : ∀ k, k < w.heap.size → k ≠ g → w'.heap[k]? = w.heap[k]?) : SrcAt w' top base gs rest pc := by
  refine h.keep ?_ (fun k cs fr hkt hc => hk k (Array.getElem?_eq_some_iff.1 hc).1 (by omega))
  obtain ⟨A, c, k1, _⟩ := h
  exact hk gs (Array.getElem?_eq_some_iff.1 k1).1 (fun e => absurd (types_eq (e ▸ k1) hg) (by decide))
theorem ZAt.write {g : Nat} {r err pv buf : Value} {hd tl : Nat} {pp st ps pr fe : Int} {full : List Int} (h : ZAt w gz r err pv hd tl pp buf st ps pr fe) (hg : w.heap[g]? = some (.cells (u8i full).toArray 5 (0, 0))) (hk : ∀ k, k < w.heap.size → k ≠ g → w'.heap[k]? = w.heap[k]?) : ZAt w' gz r err pv hd tl pp buf st ps pr fe :=
  (hk gz (Array.getElem?_eq_some_iff.1 h).1 (fun e => absurd (types_eq (e ▸ h) hg) (by decide))).trans h
theorem FrS.grown2 {g : Nat} {full : List Int} (hbw : base ≤ w.heap.size) (hg : w.heap[g]? = some (.cells (u8i full).toArray 5 (0, 0))) (hb : base ≤ g) (h : w.grownBy w' (some g)) : FrS stS base w w' :=
  (FrS.refl hbw).grown h (fun k hk => by cases hk; exact ⟨hb, _, _, _, hg, by decide⟩)
end
/-- The reader: where it is (p), where its selection begins (s), over the bytes 'dat'; at most M blocks in its pool; the bytes ahead of place r lie in its buffer. -/
def StAt (w : World) (base top gz gs pc : Nat) (u : TypeId) (ev : Value) (dat : List Int) (M p s r : Nat) : Prop :=
  ∃ (off n cap g s0 p0 : Nat) (full : List Int) (L : List Nat) (err pv : Value) (pp pr fe : Int),
    ZAt w gz (rV gs) err pv (lstL L) (fstL L) pp (.slice (some ⟨g, 0, none⟩) n cap) (s0 : Int) (p0 : Int) pr fe ∧ base ≤ gz ∧ Back w base top gs pc dat M pv L (off + n) ∧ FullAt w top g cap full ∧ n ≤ cap ∧ full.take n = (dat.drop off).take n ∧
    s = off + s0 ∧ p = off + p0 ∧ s0 ≤ p0 ∧ p0 ≤ n ∧ (err = .nilIface ∨ (err = .iface u ev ∧ off + n = dat.length)) ∧ r ≤ off + n
end Go.Proofs.YtgpmmmlmaaiobaaDoor.Own
