/- A use more of a variable; a new variable of a scope. -/
import Derived.Test.YtohfnhfpiipglaaCScI
namespace Go.Proofs.Ytohfnhfpiipglaa.Own
open Go.RowKit Go.Proofs.YtohfnhfpiipglaaW.PrintWords Go.Proofs.YtohfnhfpiipglaaW.PrintLast
set_option linter.unusedVariables false
set_option linter.unusedSimpArgs false
theorem RowP.nil {w : World} {base : Nat} {v : Value} (h : RowP w base v []) : v = .slice none 0 0 := by
  rcases h with ⟨h, _⟩ | ⟨g, cap, cur, h1, h2, h3, h4, h5, h6, h7, h8⟩
  · exact h
  · exact absurd rfl h8
/-- One use more of the variable in block p. -/
def bump (p : Nat) (e : Ent) : Ent := if e.p = p then { e with uses := e.uses + 1 } else e
theorem bump_name (p : Nat) (e : Ent) : (bump p e).name = e.name := by unfold bump; split <;> rfl
theorem bump_p (p : Nat) (e : Ent) : (bump p e).p = e.p := by unfold bump; split <;> rfl
theorem bump_decl (p : Nat) (e : Ent) : (bump p e).decl = e.decl := by unfold bump; split <;> rfl
theorem bump_uses (p : Nat) (e : Ent) (m : Int) (h : e.uses ≤ m) : (bump p e).uses ≤ m + 1 := by
  unfold bump
  split
  · show e.uses + 1 ≤ m + 1
    omega
  · omega
theorem bump_at (p : Nat) (e : Ent) : (bump p e).at = e.at := by unfold Ent.at; rw [bump_p]
theorem map_bump_at (p : Nat) (l : List Ent) : (l.map (bump p)).map Ent.at = l.map Ent.at := by rw [List.map_map]; exact List.map_congr_left (fun e _ => bump_at p e)
theorem map_bump_name (p : Nat) (l : List Ent) : (l.map (bump p)).map Ent.name = l.map Ent.name := by rw [List.map_map]; exact List.map_congr_left (fun e _ => bump_name p e)
theorem map_bump_p (p : Nat) (l : List Ent) : (l.map (bump p)).map Ent.p = l.map Ent.p := by rw [List.map_map]; exact List.map_congr_left (fun e _ => bump_p p e)
theorem namesD_bump (p : Nat) : ∀ (l : List Ent) (k : Nat), namesD (l.map (bump p)) k = namesD l k
  | [], _ => rfl
  | e :: t, k => by simp [namesD, bump_name, namesD_bump p t (k + 1)]
theorem namesU_bump (p : Nat) : ∀ (l : List Ent) (k : Nat), namesU (l.map (bump p)) k = namesU l k
  | [], _ => rfl
  | e :: t, k => by simp [namesU, bump_name, namesU_bump p t (k + 1)]
section
variable {w : World} {base gs : Nat} {D U : List Ent}
theorem RowP.bump {v : Value} {es : List Ent} (p : Nat) (h : RowP w base v es) : RowP w base v (es.map (Own.bump p)) := by
  rcases h with ⟨h1, rfl⟩ | ⟨g, cap, cur, h1, h2, h3, h4, h5, h6, h7, h8⟩
  · exact .inl ⟨h1, rfl⟩
  · exact .inr ⟨g, cap, cur, by simpa using h1, h2, h3, by simpa using h4, h5, h6, by rw [List.length_map, map_bump_at]; exact h7, by simpa using h8⟩
theorem ScAt.bump (h : ScAt w base gs D U) {e : Ent} (he : e ∈ D ++ U) (hu : e.uses < 200) : ScAt (w.setCell ⟨e.p, 2, none⟩ (.int .u16 (e.uses + 1))) base gs (D.map (Own.bump e.p)) (U.map (Own.bump e.p)) ∧ (base ≤ w.heap.size → Fr base w (w.setCell ⟨e.p, 2, none⟩ (.int .u16 (e.uses + 1)))) := by
  have hv := h.vars e he
  have hg : w.grownBy (w.setCell ⟨e.p, 2, none⟩ (.int .u16 (e.uses + 1))) (some e.p) := Go.Lib.Hx.grownBy_set (Go.Lib.Hx.grownBy_refl _ _) _ rfl _
  have hfr : ∀ b, b ≤ e.p → b ≤ w.heap.size → Fr b w (w.setCell ⟨e.p, 2, none⟩ (.int .u16 (e.uses + 1))) := fun b h1 h2 => (Fr.refl b w).grown h2 hg (fun k hk => by cases hk; exact ⟨h1, fun cs t fz hb => by rw [hv.blk] at hb; cases hb; exact .inl rfl⟩)
  have hf0 := hfr 0 (Nat.zero_le _) (Nat.zero_le _)
  have hne : ∀ (k : Nat) (o : Obj), w.heap[k]? = some o → k ≠ e.p → (w.setCell ⟨e.p, 2, none⟩ (.int .u16 (e.uses + 1))).heap[k]? = w.heap[k]? := fun k o hb hk => hg.block k (Array.getElem?_eq_some_iff.1 hb).1 (by simpa using hk)
  obtain ⟨vD, vU, vM, h1, h2, h3, h4, h5, h6⟩ := h.all
  refine ⟨⟨⟨vD, vU, vM, (hne _ _ h1 (fun e2 => by rw [e2, hv.blk] at h1; cases h1)).trans h1, h2, (h3.fr (fun g hgo => ?_)).bump _, (h4.fr (fun g hgo => ?_)).bump _, h5, ?_⟩, fun e' he' => ?_, by rw [← List.map_append, map_bump_name]; exact h.new, by rw [← List.map_append, map_bump_p]; exact h.apart, by simpa using h.few⟩, fun hb => hfr base hv.lo hb⟩
  · obtain ⟨_, cur, hc⟩ := h3.lo hgo
    exact hne _ _ hc (fun e2 => by rw [e2, hv.blk] at hc; cases hc)
  · obtain ⟨_, cur, hc⟩ := h4.lo hgo
    exact hne _ _ hc (fun e2 => by rw [e2, hv.blk] at hc; cases hc)
  · rw [namesD_bump, namesU_bump]
    rcases h6 with h6 | ⟨gm, I, k1, k2, k3, k4, k5, k6⟩
    · exact .inl h6
    · refine .inr ⟨gm, I, k1, k2, k3, ?_, k5, fun i hi => ?_⟩
      · obtain ⟨es, clock, hb2, F, hs, hD⟩ := k4
        exact ⟨es, clock, (hne _ _ hb2 (fun e2 => by rw [e2, hv.blk] at hb2; cases hb2)).trans hb2, F, hs, hD⟩
      · obtain ⟨j1, j2, cur, j3, j4⟩ := k6 i hi
        exact ⟨j1, j2, cur, hf0.other _ _ _ _ j3 (by decide) (by decide) (by decide), j4⟩
  · rw [← List.map_append, List.mem_map] at he'
    obtain ⟨e0, he0, rfl⟩ := he'
    have hv0 := h.vars e0 he0
    by_cases hp : e0.p = e.p
    · have heq : e0 = e := by
        obtain ⟨i, hi, rfl⟩ := List.mem_iff_getElem.1 he0
        obtain ⟨j, hj, rfl⟩ := List.mem_iff_getElem.1 he
        have : i = j := (List.getElem_inj (xs := (D ++ U).map Ent.p) (i := i) (j := j) (h₀ := by simpa using hi) (h₁ := by simpa using hj) h.apart).1 (by rw [List.getElem_map, List.getElem_map]; exact hp)
        subst this
        rfl
      subst heq
      have hb : Own.bump e0.p e0 = { e0 with uses := e0.uses + 1 } := if_pos rfl
      rw [hb]
      refine ⟨?_, hv.lo, hv.txt.fr hf0, hv.few, ?_⟩
      · exact sc_mark hv.blk
      · have := hv.used
        exact ⟨by show 0 ≤ e0.uses + 1; omega, by show e0.uses + 1 ≤ 200; omega⟩
    · have hb : Own.bump e.p e0 = e0 := if_neg hp
      rw [hb]
      exact hv0.fr hf0 (hne _ _ hv0.blk hp)
/-- A new variable, its row of one. -/
theorem ScAt.fresh (h : ScAt w base gs D U) (hb : base ≤ w.heap.size) (name : ByteArray) (hs : name.size ≤ 20) {g cap : Nat} (hN : TextV w base g cap (numsOf name)) (us d : Int) (hu0 : 0 ≤ us ∧ us ≤ 200) {W : World} (hW : W = (w.alloc (.cells #[.slice (some ⟨g, 0, none⟩) name.size cap, .pointer none, .int .u16 us, .int .u16 d] 54)).alloc (.cells #[.pointer (some ⟨w.heap.size, 0, none⟩)] 45)) :
    ScAt W base gs D U ∧ Fr base w W ∧ base ≤ W.heap.size ∧ VarAt W base ⟨name, w.heap.size, g, cap, us, d⟩ ∧ w.heap.size ∉ (D ++ U).map Ent.p ∧ W.heap[w.heap.size + 1]? = some (.cells #[.pointer (some ⟨w.heap.size, 0, none⟩)] 45 (0, 0)) ∧
    (∀ v, (W.cell? ⟨gs, 2, none⟩ = some v ∨ W.cell? ⟨gs, 3, none⟩ = some v) → v.ownBlock ≠ some (w.heap.size + 1)) := by
  subst hW
  have hg := (World.grownBy_alloc w (.cells #[.slice (some ⟨g, 0, none⟩) name.size cap, .pointer none, .int .u16 us, .int .u16 d] 54) none).trans (World.grownBy_alloc _ (.cells #[.pointer (some ⟨w.heap.size, 0, none⟩)] 45) none)
  have hfr := (Fr.refl base w).grown hb hg (fun k hk => by cases hk)
  have hp1 := (h.grown hg)
  obtain ⟨vD, vU, vM, h1, h2, h3, h4, h5, h6⟩ := h.all
  obtain ⟨vD', vU', vM', h1', _, _, _, _, _⟩ := hp1.all
  have h1'' := (hg.block gs (Array.getElem?_eq_some_iff.1 h1).1 (by simp)).trans h1
  refine ⟨hp1, hfr, Nat.le_trans hb hfr.below.size, ⟨?_, hb, hN.fr hfr, hs, hu0⟩, fun hm => ?_, al_eq (by simp), fun v hv => ?_⟩
  · exact (al_lt (by simp)).trans (al_eq rfl)
  · obtain ⟨e, he, hep⟩ := List.mem_map.1 hm
    have := (Array.getElem?_eq_some_iff.1 (h.vars e he).blk).1
    omega
  · have key : ∀ v', (v' = vD ∨ v' = vU) → v'.ownBlock ≠ some (w.heap.size + 1) := fun v' hv' he => by
      rcases hv' with rfl | rfl
      · obtain ⟨_, cur, hc⟩ := h3.lo he
        have := (Array.getElem?_eq_some_iff.1 hc).1
        omega
      · obtain ⟨_, cur, hc⟩ := h4.lo he
        have := (Array.getElem?_eq_some_iff.1 hc).1
        omega
    rcases hv with hv | hv
    · simp only [World.cell?, h1''] at hv
      exact key v (.inl (Option.some.inj hv).symm)
    · simp only [World.cell?, h1''] at hv
      exact key v (.inr (Option.some.inj hv).symm)
end
end Go.Proofs.Ytohfnhfpiipglaa.Own
