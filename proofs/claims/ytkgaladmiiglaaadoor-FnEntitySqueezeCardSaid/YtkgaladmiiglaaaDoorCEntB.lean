/- A row of bytes of a call's own: its cells, a store, a copy into it. -/
import Derived.Test.YtkgaladmiiglaaaDoorCEntA
import Derived.Laws.IdiomCopy
namespace Go.Proofs.YtkgaladmiiglaaaDoor.Own
open Go.RowKit Go.Proofs.YtkgaladmiiglaaaDoorW.PrintWords Go.Proofs.YtkgaladmiiglaaaDoorW.PrintLast
set_option linter.unusedVariables false
set_option linter.unusedSimpArgs false
def BRow (w : World) (base g n cap : Nat) (l : List Int) : Prop := n = l.length ∧ base ≤ g ∧ ∃ cur, w.heap[g]? = some (.cells cur 5 (0, 0)) ∧ n ≤ cap ∧ cap ≤ maxLen ∧ cur.size = cap ∧ cur.toList.take n = u8i l
theorem sizeB : (Tryd.prog.info? 5).map (·.size) = some 1 := by kernel_rfl
section
variable {w w' : World} {base g n cap : Nat} {l : List Int}
theorem BRow.keep (h : BRow w base g n cap l) (hk : w'.heap[g]? = w.heap[g]?) : BRow w' base g n cap l := by
  obtain ⟨h1, h2, cur, h3, h4⟩ := h
  exact ⟨h1, h2, cur, hk.trans h3, h4⟩
theorem BRow.drewN (h : BRow w base g n cap l) (k : Nat) : BRow (w.drewN k) base g n cap l := h.keep rfl
theorem BRow.cell (h : BRow w base g n cap l) {k : Nat} (hk : k < l.length) : w.cell? ⟨g, k, none⟩ = some (.int .u8 l[k]) ∧ w.frozen? ⟨g, k, none⟩ = false := by
  obtain ⟨h1, h2, cur, h3, h4, h5, h6, h7⟩ := h
  refine ⟨?_, blk_frozen h3 _⟩
  have h8 : cur.toList[k]? = (u8i l)[k]? := by rw [← h7, List.getElem?_take, if_pos (by omega)]
  rw [cell_of_row w g k cur _ (0, 0) h3, ← Array.getElem?_toList, h8]
  simp [u8i, hk]
theorem BRow.put (h : BRow w base g n cap l) (s : Nat) (hs : s < n) (x : Int) : BRow (w.setCell ⟨g, s, none⟩ (.int .u8 x)) base g n cap (l.set s x) := by
  obtain ⟨h1, h2, cur, h3, h4, h5, h6, h7⟩ := h
  refine ⟨by simpa using h1, h2, _, sc_mark h3, h4, h5, by simpa using h6, ?_⟩
  rw [Array.toList_setIfInBounds, List.take_set, h7]
  simp [u8i]
theorem BRow.cut (h : BRow w base g n cap l) {m : Nat} (hm : m ≤ n) : BRow w base g m cap (l.take m) := by
  obtain ⟨h1, h2, cur, h3, h4, h5, h6, h7⟩ := h
  refine ⟨by rw [List.length_take]; omega, h2, cur, h3, by omega, h5, h6, ?_⟩
  have := congrArg (List.take m) h7
  rw [List.take_take, Nat.min_eq_left hm] at this
  rw [this]
  simp [u8i]
theorem BRow.subC (h : BRow w base g n cap l) (p m : Nat) (hpm : p + m ≤ n) : Kd.C (Kd.int .u8) w (some ⟨g, p, none⟩) m ((l.drop p).take m) := by
  have h0 := h
  obtain ⟨h1, h2, cur, h3, h4, h5, h6, h7⟩ := h
  have hl : ((l.drop p).take m).length = m := by simp; omega
  refine Kd.C_of_reads (d := (0 : Int)) (h1 := fun _ => rfl) ⟨by rw [hl], by have : maxLen = 9223372036854775807 := rfl; omega, fun _ => ⟨_, rfl, fun j hj => ?_⟩⟩
  have hj' : j < m := by first | omega | (rw [hl] at hj; exact hj)
  have e1 : (⟨g, p, none⟩ : Addr).add j = ⟨g, p + j, none⟩ := by rw [← add_plain g p, add_add, add_plain]
  rw [e1, (h0.cell (k := p + j) (by omega)).1]
  simp [List.getD_eq_getElem?_getD, List.getElem?_take, hj', List.getElem?_drop, List.getElem?_eq_getElem (show p + j < l.length by omega)]
theorem BRow.toR (h : BRow w base g n cap l) : Kd.R (Kd.int .u8) 5 w base (fun _ => True) (.slice (some ⟨g, 0, none⟩) n cap) l := by
  obtain ⟨h1, h2, cur, h3, h4, h5, h6, h7⟩ := h
  have := R_block (k := .u8) (xs := l) h3 h2 (by omega) (by omega) h5 (by rw [← h1, h7]; rfl)
  rw [← h1] at this
  exact this
theorem BRow.ofR (h : Kd.R (Kd.int .u8) 5 w base (fun _ => True) (.slice (some ⟨g, 0, none⟩) n cap) l) : BRow w base g n cap l := by
  have hn := (Kd.R_reads' h).1
  rcases (Kd.own_of_R h).2 with ⟨e, _⟩ | ⟨g', cap', cur, e, hb, hg, h1, h2, h3, h4⟩
  · cases e
  · cases e
    rw [← hn] at *
    exact ⟨rfl, hb, cur, hg, by omega, h2, by simpa using h3, by rw [hn]; simpa [encs, u8i] using h4⟩
/-- copy into a row of one's own. -/
theorem BRow.copy (h : BRow w base g n cap l) (p : Nat) (dp sp : Option Addr) (m c2 c3 : Nat) (xs : List Int) (hx : xs.length = m) (hpm : p + m ≤ n) (hd : 0 < m → dp = some ⟨g, p, none⟩)
    (hs : 0 < m → ∃ ad, sp = some ad ∧ ∀ j (hj : j < xs.length), w.cell? (ad.add j) = some (.int .u8 xs[j])) :
    ∃ w1, (∀ ty, (Builtin.copy_ #[22, 22] ty #[.slice dp (n - p) c2, .slice sp m c3]).run Tryd.prog w = .ok (.int .i64 (m : Int)) w1) ∧ BRow w1 base g n cap (l.take p ++ (xs ++ l.drop (p + m))) ∧ w.grownBy w1 (some g) := by
  have h0 := h
  obtain ⟨h1, h2, cur, h3, h4, h5, h6, h7⟩ := h
  by_cases hm : m = 0
  · subst hm
    have hxs : xs = [] := List.eq_nil_of_length_eq_zero hx
    refine ⟨w, fun ty => ?_, by subst hxs; rw [List.nil_append, Nat.add_zero, List.take_append_drop]; exact h0, World.grownBy.refl _ _⟩
    exact run_copy_none (P := Tryd.prog) w 22 22 ty 5 dp sp (n - p) c2 0 c3 Tryd.underlying22 sizeB (Nat.zero_min _)
  · have hdp := hd (by omega)
    obtain ⟨ad, hsp, hcells⟩ := hs (by omega)
    have hl : (u8i xs).length = m := by simp [u8i, hx]
    have hrun := fun ty => run_copy_cells (P := Tryd.prog) w 22 22 ty 5 g p (n - p) c2 ad m c3 (u8i xs) Tryd.underlying22 sizeB (by rw [hl]; exact (Nat.min_eq_left (by omega)).symm)
      (fun j v hj => by
        have hjl : j < xs.length := by have := (List.getElem?_eq_some_iff.1 hj).1; simpa [u8i] using this
        rw [hcells j hjl, ← hj]
        simp [u8i, hjl])
      (fun j hj => by rw [(h0.cell (k := p + j) (by omega)).1]; rfl) (fun j hj => blk_frozen h3 _) (fun v hv => by obtain ⟨x, _, rfl⟩ := List.mem_map.1 hv; rfl)
    rw [hl] at hrun
    obtain ⟨cur', k3, k4, k5⟩ := setCells_row (u8i xs) p w cur h3 (by omega)
    obtain ⟨s1, s2, s3, s4⟩ := setCells_same g (u8i xs) p w
    rw [hdp, hsp]
    refine ⟨_, hrun, ⟨by simp; omega, h2, cur', k3, h4, h5, by omega, ?_⟩, ⟨s1, s2, s3, by rw [s4]; exact Nat.le_refl _, fun k' _ hk' => setCells_far _ p k' (fun he => hk' (by rw [he]))⟩⟩
    rw [k5, hl]
    have e1 : cur.toList.take p = (u8i l).take p := by rw [← h7, List.take_take, Nat.min_eq_left (by omega)]
    have e2 : (cur.toList.drop (p + m)).take (n - (p + m)) = (u8i l).drop (p + m) := by rw [← h7, List.drop_take]
    rw [e1, List.take_append, List.take_of_length_le (by simp [u8i]; omega)]
    have e3 : n - (List.take p (u8i l) ++ u8i xs).length = n - (p + m) := by rw [List.length_append, hl, List.length_take]; simp [u8i]; omega
    rw [e3, e2]
    simp [u8i]
end
end Go.Proofs.YtkgaladmiiglaaaDoor.Own
