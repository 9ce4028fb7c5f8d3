/- The reader fetches bytes: what holds meanwhile. -/
import Derived.Test.YtgpmmmlmaaiobaaDoorCStF
import Derived.Laws.IdiomCopy
namespace Go.Proofs.YtgpmmmlmaaiobaaDoor.Own
open Go.RowKit Go.Proofs.YtgpmmmlmaaiobaaDoorW.PrintWords Go.Proofs.YtgpmmmlmaaiobaaDoorW.PrintLast
set_option linter.unusedVariables false
set_option linter.unusedSimpArgs false
def ReadPost (base top gz gs pc : Nat) (u : TypeId) (ev : Value) (dat : List Int) (M p s q : Nat) (w : World) (e : Ending) (w' : World) : Prop :=
  e = .returned (.int .u8 (atL dat q)) ∧ StAt w' base top gz gs pc u ev dat (M + 1) p s (min (q + 1) dat.length) ∧ FrS stS base w w'
theorem atL_end {dat : List Int} {q : Nat} (h : dat.length ≤ q) : atL dat q = 0 := by
  unfold atL
  rw [List.getD_eq_getElem?_getD]
  by_cases h2 : q = dat.length
  · subst h2; simp
  · rw [List.getElem?_eq_none (by simp; omega)]; rfl
theorem Back.mono {w : World} {base top gs pc : Nat} {dat : List Int} {M M' e : Nat} {pv : Value} {L : List Nat} (h : Back w base top gs pc dat M pv L e) (hm : M ≤ M') : Back w base top gs pc dat M' pv L e := by
  obtain ⟨⟨es, p1, p2, p3⟩, k1, k2, k3, k4, k5⟩ := h
  exact ⟨⟨es, p1, p2, Nat.le_trans p3 hm⟩, k1, k2, k3, k4, k5⟩
/-- What the elder buffer has left goes over into the new one. -/
theorem rd_copy {W : World} {top g cap g2 c2 n s0 d0 : Nat} {full : List Int} (hF : FullAt W top g cap full) (hB : BufIn W top g2 c2) (h1 : s0 ≤ n) (h2 : n ≤ cap) (h3 : d0 = n - s0) (h4 : d0 ≤ c2) :
    ∃ w1 full2, (∀ ty, (Builtin.copy_ #[22, 22] ty #[.slice (some ⟨g2, 0, none⟩) d0 c2, .slice (if cap = s0 then some ⟨g, 0, none⟩ else some ⟨g, s0, none⟩) (n - s0) (cap - s0)]).run Tryd.prog W = .ok (.int .i64 (d0 : Int)) w1) ∧
      FullAt w1 top g2 c2 full2 ∧ full2.take d0 = (full.drop s0).take d0 ∧ W.grownBy w1 (some g2) ∧ ∃ full1, FullAt W top g2 c2 full1 := by
  obtain ⟨full1, b1, b2, b3, b4⟩ := hB
  rw [← h3]
  by_cases h0 : d0 = 0
  · rw [h0]
    refine ⟨W, full1, fun ty => run_copy_none (P := Tryd.prog) W 22 22 ty 5 _ _ 0 c2 (0) (cap - s0) Tryd.underlying22 sizeB rfl, ⟨b1, b2, b3, b4⟩, by simp, World.grownBy.refl _ _, full1, b1, b2, b3, b4⟩
  · obtain ⟨f1, f2, f3, f4⟩ := hF
    have hl : ((full.drop s0).take d0).length = d0 := by rw [List.length_take, List.length_drop]; omega
    obtain ⟨w1, r1, r2, r3, _⟩ := full_copy (W := W) (g := g2) (d := 0) (m := d0) (cm := c2) (L := d0) (c3 := cap - s0) (full := full1) (xs := (full.drop s0).take d0) (sp := if cap = s0 then some ⟨g, 0, none⟩ else some ⟨g, s0, none⟩) b4 (by omega) (by rw [hl]; exact (Nat.min_self _).symm) (by omega)
      ⟨⟨g, s0, none⟩, by rw [if_neg (by omega)], fun j hj => by
        rw [hl] at hj
        rw [add_at, cell_of_row _ g (s0 + j) _ _ (0, 0) f4]
        have : s0 + j < full.length := by omega
        simp [u8i, this]⟩
    rw [hl] at r1
    refine ⟨w1, _, r1, ⟨b1, by rw [overL_len (by omega)]; exact b2, b3, r2⟩, ?_, r3, full1, b1, b2, b3, b4⟩
    unfold overL
    rw [List.take_zero, List.nil_append, List.take_left' hl]
/-- While bytes are fetched: 'd' bytes of the selection lie in the new buffer. -/
def RdAt (w wr : World) (base top gz gs pc : Nat) (u : TypeId) (ev : Value) (dat : List Int) (M a n cap g s0 p0 g4 c4 : Nat) (L : List Nat) (pv : Value) (pp pr : Int) (err : Value) (d gk : Nat) (fu : List Int) : Prop :=
  ZAt wr gz (rV gs) err pv (lstL L) (fstL L) pp (.slice (some ⟨g, 0, none⟩) n cap) (s0 : Int) (p0 : Int) pr 0 ∧ (∃ es, PoolAt wr base top pv es ∧ Links es L ∧ es.length ≤ M) ∧ FullAt wr top g4 c4 fu ∧ fu.take d = (dat.drop a).take d ∧ SrcAt wr top base gs (dat.drop (a + d)) pc ∧ a + d ≤ dat.length ∧ FrS stS base w wr ∧
    ((err = .nilIface ∧ gk = dat.length - (a + d) + 1) ∨ (err = .iface u ev ∧ a + d = dat.length ∧ gk = 0))
theorem RdAt.give {w wr w6 : World} {base top gz gs pc : Nat} {u : TypeId} {ev : Value} {dat : List Int} {M a n cap g s0 p0 g4 c4 : Nat} {L : List Nat} {pv : Value} {pp pr : Int} {d gk : Nat} {fu : List Int} {e : Ending} (h : RdAt w wr base top gz gs pc u ev dat M a n cap g s0 p0 g4 c4 L pv pp pr .nilIface d gk fu) (hbz : base ≤ gz) (hbt : base ≤ top) (hd : d ≤ c4)
    (hg : GivePost top base gs g4 d (c4 - d) fu (dat.drop (a + d)) pc u ev wr.drew e w6) :
    ∃ (n1 : Nat) (ev2 : Value) (fu2 : List Int) (gk2 : Nat), e = .returned (.tuple #[.int .i64 (n1 : Int), ev2]) ∧ gk2 < gk ∧ d + n1 ≤ c4 ∧ RdAt w (w6.setCell ⟨gz, 1, none⟩ ev2) base top gz gs pc u ev dat M a n cap g s0 p0 g4 c4 L pv pp pr ev2 (d + n1) gk2 fu2 ∧
      w6.cell? ⟨gz, 0, none⟩ = some (rV gs) ∧ w6.cell? ⟨gz, 1, none⟩ = some .nilIface ∧ w6.frozen? ⟨gz, 1, none⟩ = false := by
  obtain ⟨hz, ⟨es, hp, hl, hm⟩, hF, ht, hs, hle, hf, herr⟩ := h
  have hgk : gk = dat.length - (a + d) + 1 := by
    rcases herr with ⟨_, h⟩ | ⟨h, _⟩
    · exact h
    · cases h
  have fin : ∀ {W : World} {fu2 : List Int} {m : Nat} {ev2 : Value} {gk2 : Nat}, ZAt W gz (rV gs) .nilIface pv (lstL L) (fstL L) pp (.slice (some ⟨g, 0, none⟩) n cap) (s0 : Int) (p0 : Int) pr 0 → PoolAt W base top pv es → FullAt W top g4 c4 fu2 → fu2.take m = (dat.drop a).take m → SrcAt W top base gs (dat.drop (a + m)) pc → a + m ≤ dat.length → FrS stS base w W →
      ((ev2 = .nilIface ∧ gk2 = dat.length - (a + m) + 1) ∨ (ev2 = .iface u ev ∧ a + m = dat.length ∧ gk2 = 0)) → RdAt w (W.setCell ⟨gz, 1, none⟩ ev2) base top gz gs pc u ev dat M a n cap g s0 p0 g4 c4 L pv pp pr ev2 m gk2 fu2 := by
    intro W fu2 m ev2 gk2 k1 k2 k3 k4 k5 k6 k7 k8
    have f1 : FrS [97] base W (W.setCell ⟨gz, 1, none⟩ ev2) := (FrS.refl k7.to).set hbz k1 (by simp)
    exact ⟨sc_mark k1, ⟨es, k2.fr f1 (by decide) (by decide), hl, hm⟩, k3.fr f1 (by decide), k4, k5.fr f1 (by decide) (by decide), k6, k7.trans (f1.mono (by decide)), k8⟩
  rcases hg with ⟨hr, he, nq, rfl⟩ | ⟨n1, w1, q1, q2, q3, he, hg2, hs2, hgr1, hgr2⟩
  · have hal : dat.length ≤ a + d := by simpa using hr
    have f0 : FrS [] base wr (wr.drew.drewN nq) := ((FrS.refl hf.to).drewN 1).drewN nq
    have z0 := hz.fr f0 (by simp)
    exact ⟨0, _, fu, 0, he, by omega, hd, fin z0 (hp.fr f0 (by simp) (by simp)) (hF.fr f0 (by simp)) ht (hs.fr f0 (by simp) (by simp)) hle (hf.trans (f0.mono (by simp))) (.inr ⟨rfl, by omega, rfl⟩), z0.cells.1.1, z0.cells.1.2.1, z0.cells.2.2 1⟩
  · rw [List.length_drop] at q2
    have f0 : FrS [] base wr wr.drew := (FrS.refl hf.to).drewN 1
    have z0 := hz.fr f0 (by simp)
    have p0 := hp.fr f0 (by simp) (by simp)
    have F0 := hF.fr f0 (by simp)
    have s0_ := hs.fr f0 (by simp) (by simp)
    obtain ⟨As, cs_, hsb, hbgs, _, _, hx_⟩ := s0_
    clear hx_
    have hne : gs ≠ g4 := fun e => absurd (types_eq (e ▸ hsb) F0.2.2.2) (by decide)
    have hsz := hgr1.size
    have hg1 : w1.heap[g4]? = some (.cells (u8i (overL fu d (List.take n1 (List.drop (a + d) dat)))).toArray 5 (0, 0)) := (hgr2.block g4 (Nat.lt_of_lt_of_le (Array.getElem?_eq_some_iff.1 F0.2.2.2).1 hsz) (by simpa using hne.symm)).symm.trans hg2
    have hlen : (List.take n1 (List.drop (a + d) dat)).length = n1 := by rw [List.length_take, List.length_drop]; omega
    have hol : (overL fu d (List.take n1 (List.drop (a + d) dat))).length = fu.length := overL_len (by rw [hlen]; have := hF.2.1; omega)
    have hk1 : ∀ k, k < wr.drew.heap.size → k ≠ g4 → w1.heap[k]? = wr.drew.heap[k]? := fun k hk hne => hgr1.block k hk (by simpa using hne)
    have fr1 : FrS stS base wr.drew w1 := FrS.grown2 f0.to F0.2.2.2 (Nat.le_trans hbt F0.1) hgr1
    have hs1 : w1.heap[gs]? = some (.cells _ 79 (0, 0)) := (hk1 gs (Array.getElem?_eq_some_iff.1 hsb).1 hne).trans hsb
    have fr2 : FrS [79] base w1 w6 := (FrS.refl fr1.to).grown hgr2 (fun k hk => by cases hk; exact ⟨hbgs, _, _, _, hs1, by simp⟩)
    have z2 := (z0.write F0.2.2.2 hk1).fr fr2 (by decide)
    have p2 := (p0.write F0.2.2.2 hg1 hol hk1).fr fr2 (by decide) (by decide)
    have ht2 : (overL fu d (List.take n1 (List.drop (a + d) dat))).take (d + n1) = (dat.drop a).take (d + n1) := by
      unfold overL
      rw [ht, ← List.append_assoc, List.take_left' (by rw [List.length_append, hlen, List.length_take, List.length_drop]; omega), List.take_add, List.drop_drop]
    have hs3 : SrcAt w6 top base gs (dat.drop (a + (d + n1))) pc := by
      rw [List.drop_drop] at hs2
      rw [← Nat.add_assoc]
      exact hs2
    exact ⟨n1, _, _, dat.length - (a + (d + n1)) + 1, he, by omega, by omega, fin z2 p2 ⟨hF.1, by rw [hol]; exact hF.2.1, hF.2.2.1, hg2⟩ ht2 hs3 (by omega) (hf.trans ((f0.mono (by simp)).trans (fr1.trans (fr2.mono (by decide))))) (.inl ⟨rfl, rfl⟩), z2.cells.1.1, z2.cells.1.2.1, z2.cells.2.2 1⟩
theorem RdAt.fin {w wr : World} {base top gz gs pc : Nat} {u : TypeId} {ev : Value} {dat : List Int} {M a n cap g s0 p0 g4 c4 : Nat} {L : List Nat} {pv err : Value} {pp pr : Int} {d gk : Nat} {fu : List Int} (h : RdAt w wr base top gz gs pc u ev dat M a n cap g s0 p0 g4 c4 L pv pp pr err d gk fu) (hbz : base ≤ gz) (hbt : base ≤ top) (hti : top ≤ w.heap.size) (hnd : L.Nodup) (hd : d ≤ c4) (hs : s0 ≤ p0) (hp : p0 ≤ s0 + d) {r : Nat} (hr : r ≤ a + d) {W : World}
    (hW : W = (((wr.setCell ⟨gz, 8, none⟩ (.int .i64 ((p0 : Int) - (s0 : Int)))).setCell ⟨gz, 7, none⟩ (.int .i64 0)).setCell ⟨gz, 6, none⟩ (.slice (some ⟨g4, 0, none⟩) d c4)).drew.drew) :
    StAt W base top gz gs pc u ev dat M (a + (p0 - s0)) a r ∧ FrS stS base w W ∧ W.cell? ⟨gz, 6, none⟩ = some (.slice (some ⟨g4, 0, none⟩) d c4) := by
  obtain ⟨hz, ⟨es, hp', hl, hm⟩, hF, ht, hsr, hle, hf, herr⟩ := h
  have hx : (p0 : Int) - (s0 : Int) = ((p0 - s0 : Nat) : Int) := by omega
  rw [hx] at hW
  have f1 : FrS [97] base wr (wr.setCell ⟨gz, 8, none⟩ (.int .i64 ((p0 - s0 : Nat) : Int))) := (FrS.refl hf.to).set hbz hz (by simp)
  have z1 : ZAt (wr.setCell ⟨gz, 8, none⟩ (.int .i64 ((p0 - s0 : Nat) : Int))) gz (rV gs) err pv (lstL L) (fstL L) pp (.slice (some ⟨g, 0, none⟩) n cap) (s0 : Int) ((p0 - s0 : Nat) : Int) pr 0 := sc_mark hz
  have f3 := f1.set hbz z1 (by simp) (j := 7) (v := .int .i64 0)
  have z3 : ZAt ((wr.setCell ⟨gz, 8, none⟩ (.int .i64 ((p0 - s0 : Nat) : Int))).setCell ⟨gz, 7, none⟩ (.int .i64 0)) gz (rV gs) err pv (lstL L) (fstL L) pp (.slice (some ⟨g, 0, none⟩) n cap) ((0 : Nat) : Int) ((p0 - s0 : Nat) : Int) pr 0 := sc_mark z1
  have f4 := ((f3.set hbz z3 (by simp) (j := 6) (v := .slice (some ⟨g4, 0, none⟩) d c4)).drewN 1).drewN 1
  have z5 : ZAt (((wr.setCell ⟨gz, 8, none⟩ (.int .i64 ((p0 - s0 : Nat) : Int))).setCell ⟨gz, 7, none⟩ (.int .i64 0)).setCell ⟨gz, 6, none⟩ (.slice (some ⟨g4, 0, none⟩) d c4)) gz (rV gs) err pv (lstL L) (fstL L) pp (.slice (some ⟨g4, 0, none⟩) d c4) ((0 : Nat) : Int) ((p0 - s0 : Nat) : Int) pr 0 := sc_mark z3
  have z4 : ZAt W gz (rV gs) err pv (lstL L) (fstL L) pp (.slice (some ⟨g4, 0, none⟩) d c4) ((0 : Nat) : Int) ((p0 - s0 : Nat) : Int) pr 0 := by rw [hW]; exact z5
  have f4 : FrS [97] base wr W := by rw [hW]; exact f4
  exact ⟨⟨a, d, c4, g4, 0, p0 - s0, fu, L, err, pv, pp, pr, 0, z4, hbz, ⟨⟨es, hp'.fr f4 (by decide) (by decide), hl, hm⟩, hnd, hsr.fr f4 (by decide) (by decide), hbt, Nat.le_trans hti (Nat.le_trans hf.2.2.1 f4.2.2.1), hle⟩, hF.fr f4 (by decide), hd, ht, rfl, rfl, Nat.zero_le _, by omega, herr.imp (fun x => x.1) (fun x => ⟨x.1, x.2.1⟩), hr⟩, hf.trans (f4.mono (by decide)), z4.cells.2.1.1⟩
theorem RdAt.byte {w wr : World} {base top gz gs pc : Nat} {u : TypeId} {ev : Value} {dat : List Int} {M a n cap g s0 p0 g4 c4 : Nat} {L : List Nat} {pv err : Value} {pp pr : Int} {d gk : Nat} {fu : List Int} (h : RdAt w wr base top gz gs pc u ev dat M a n cap g s0 p0 g4 c4 L pv pp pr err d gk fu) (hd : d ≤ c4) {q : Nat} (hq : q < d) :
    wr.cell? ⟨g4, q, none⟩ = some (.int .u8 (atL dat (a + q))) := by
  obtain ⟨hz, hp', hF, ht, hsr, hle, hf, herr⟩ := h
  rw [cell_of_row _ g4 q _ _ (0, 0) hF.2.2.2]
  have h1 : q < fu.length := by have := hF.2.1; omega
  have h2 : a + q < dat.length := by omega
  have h3 := congrArg (fun l => l[q]?) ht
  simp only [List.getElem?_take, hq, if_pos, List.getElem?_drop] at h3
  rw [List.getElem?_eq_getElem h1, List.getElem?_eq_getElem h2] at h3
  have h4 := Option.some.inj h3
  unfold atL
  rw [List.getD_eq_getElem?_getD, List.getElem?_append_left h2, List.getElem?_eq_getElem h2]
  simp [u8i, h1, h4]
end Go.Proofs.YtgpmmmlmaaiobaaDoor.Own
