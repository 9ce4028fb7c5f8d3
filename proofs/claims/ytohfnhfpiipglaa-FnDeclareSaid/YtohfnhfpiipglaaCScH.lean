/- A variable more in the rows of a scope. -/
import Derived.Test.YtohfnhfpiipglaaCScG
namespace Go.Proofs.Ytohfnhfpiipglaa.Own
open Go.RowKit Go.Proofs.YtohfnhfpiipglaaW.PrintWords Go.Proofs.YtohfnhfpiipglaaW.PrintLast
set_option linter.unusedVariables false
set_option linter.unusedSimpArgs false
theorem append_tx {P : Program} {t tx e e2 ty : TypeId} (h1 : P.underlying t = some (.slice e)) (h2 : P.underlying tx = some (.slice e2)) (v x : Value) (w : World) : (Builtin.append_ #[t, tx] ty #[v, x]).run P w = (Builtin.append_ #[t, t] ty #[v, x]).run P w := by
  unfold Builtin.append_
  cases v <;> simp [run_underlying h1, run_underlying h2]
theorem RowP.lo {w : World} {base : Nat} {v : Value} {es : List Ent} (h : RowP w base v es) {g : Nat} (hg : v.ownBlock = some g) : base ≤ g ∧ ∃ cur, w.heap[g]? = some (.cells cur 45 (0, 0)) := by
  rcases h with ⟨rfl, _⟩ | ⟨g', cap, cur, rfl, h2, h3, h4⟩
  · cases hg
  · cases hg
    exact ⟨h2, cur, h3⟩
theorem row_app {w : World} {base : Nat} {v : Value} {es : List Ent} (h : RowP w base v es) (hb : base ≤ w.heap.size) (hl : es.length ≤ 60) {gv : Nat} {x : Ent} (hgv : w.heap[gv]? = some (.cells #[x.at] 45 (0, 0))) :
    ∃ g' c' w1, (∀ ty, (Builtin.append_ #[38, 37] ty #[v, .slice (some ⟨gv, 0, none⟩) 1 1]).run Try.prog w = .ok (.slice (some ⟨g', 0, none⟩) (es.length + 1) c') w1) ∧ RowP w1 base (.slice (some ⟨g', 0, none⟩) (es.length + 1) c') (es ++ [x]) ∧ w.grownBy w1 v.ownBlock ∧ (v.ownBlock = some g' ∨ g' = w.heap.size) := by
  obtain ⟨i0, hi0, hz0, hs1, hb1⟩ := info_parts infoPV
  have hnew : ∀ j u, ([x.at] : List Value)[j]? = some u → w.cell? ((⟨gv, 0, none⟩ : Addr).add j) = some u := by
    intro j v hj
    have hj0 : j = 0 := by have := (List.getElem?_eq_some_iff.1 hj).1; simp at this; exact this
    subst hj0
    simp at hj
    subst hj
    rw [add_plain]
    simp only [World.cell?, hgv]
    rfl
  have hown : w.ownsRow base 45 1 v es.length (es.map Ent.at) := by
    refine ⟨by simp, ?_⟩
    rcases h with ⟨rfl, rfl⟩ | ⟨g, cap, cur, h1, h2, h3, h4, h5, h6, h7⟩
    · exact .inl ⟨rfl, rfl⟩
    · exact .inr ⟨g, cap, cur, h1, h2, h3, h4, h5, by omega, by simpa using h7.1⟩
  obtain ⟨v', w', hrun, hown2, hg, _, hat⟩ := run_append_own_at (P := Try.prog) w base 38 0 45 i0 (.pointer none) 1 8 Try.underlying38 hi0 hz0 hs1 hb1 rfl (by decide) v es.length (es.map Ent.at) hown ⟨gv, 0, none⟩ 1 1 [x.at] rfl hnew (by simp [Value.oneCell', Ent.at]) (by have : maxLen = 9223372036854775807 := rfl; omega) (by omega) hb
  rcases hown2.2 with ⟨rfl, h0⟩ | ⟨g, cap, cur, rfl, hbg, hblk, hnc, hcm, hcs, htake⟩
  · omega
  · refine ⟨g, cap, w', fun ty => (append_tx Try.underlying38 Try.underlying37 _ _ _).trans hrun, .inr ⟨g, cap, cur, by simp, hbg, hblk, by simpa using hnc, hcm, by omega, by simpa using htake, by simp⟩, hg, ?_⟩
    rcases hat with hat | hat
    · exact .inl hat.symm
    · exact .inr (Option.some.inj hat)
theorem nodup_mid {α β : Type} (f : α → β) {D U : List α} {x : α} (h : ((D ++ U).map f).Nodup) (hx : f x ∉ (D ++ U).map f) : (((D ++ [x]) ++ U).map f).Nodup := by
  rw [List.append_assoc, List.singleton_append]
  refine ((List.perm_middle (a := x) (l₁ := D) (l₂ := U)).map f).nodup_iff.2 ?_
  rw [List.map_cons, List.nodup_cons]
  exact ⟨hx, h⟩
theorem nodup_end {α β : Type} (f : α → β) {D U : List α} {x : α} (h : ((D ++ U).map f).Nodup) (hx : f x ∉ (D ++ U).map f) : ((D ++ (U ++ [x])).map f).Nodup := by
  rw [← List.append_assoc, List.map_append, List.nodup_append]
  exact ⟨h, by simp, fun a ha b hb e => hx (by simp at hb; rw [← hb, ← e]; exact ha)⟩
section
variable {w : World} {base gs : Nat} {vM vD vU : Value} {D U : List Ent} {x : Ent} {gv : Nat}
theorem PreS.addD (h : PreS w base gs vM D U vD vU) (hb : base ≤ w.heap.size) (hl : (D ++ U).length < 60) (hx : VarAt w base x) (hxn : x.name ∉ (D ++ U).map Ent.name) (hxp : x.p ∉ (D ++ U).map Ent.p)
    (hgv : w.heap[gv]? = some (.cells #[x.at] 45 (0, 0))) (hgd : vD.ownBlock ≠ some gv) (hgu : vU.ownBlock ≠ some gv) :
    ∃ g' c' w1, (∀ ty, (Builtin.append_ #[38, 37] ty #[vD, .slice (some ⟨gv, 0, none⟩) 1 1]).run Try.prog w = .ok (.slice (some ⟨g', 0, none⟩) (D.length + 1) c') w1) ∧ w1.cell? ⟨gs, 2, none⟩ = some vD ∧ w1.frozen? ⟨gs, 2, none⟩ = false ∧
      PreS (w1.setCell ⟨gs, 2, none⟩ (.slice (some ⟨g', 0, none⟩) (D.length + 1) c')) base gs vM (D ++ [x]) U (.slice (some ⟨g', 0, none⟩) (D.length + 1) c') vU ∧ Fr base w (w1.setCell ⟨gs, 2, none⟩ (.slice (some ⟨g', 0, none⟩) (D.length + 1) c')) ∧
      (w1.setCell ⟨gs, 2, none⟩ (.slice (some ⟨g', 0, none⟩) (D.length + 1) c')).heap[gv]? = some (.cells #[x.at] 45 (0, 0)) ∧
      (∀ (gm : Nat) es c, w.heap[gm]? = some (Obj.map es c) → (w1.setCell ⟨gs, 2, none⟩ (.slice (some ⟨g', 0, none⟩) (D.length + 1) c')).heap[gm]? = w.heap[gm]?) := by
  obtain ⟨g', c', w1, hrun, hrow, hg, hat⟩ := row_app h.rd hb (by have := h.few; rw [List.length_append] at this; omega) hgv
  have hgsne : vD.ownBlock ≠ some gs := fun e => by
    obtain ⟨_, cur, hc⟩ := h.rd.lo e
    rw [h.blk] at hc
    cases hc
  have hb1 := (hg.block gs (Array.getElem?_eq_some_iff.1 h.blk).1 (Ne.symm hgsne)).trans h.blk
  refine ⟨g', c', w1, hrun, ?_⟩
  obtain ⟨v', hv'⟩ : ∃ v', v' = Value.slice (some ⟨g', 0, none⟩) (D.length + 1) c' := ⟨_, rfl⟩
  rw [← hv'] at hrow ⊢
  have hg1 : w1.grownBy (w1.setCell ⟨gs, 2, none⟩ v') (some gs) := Go.Lib.Hx.grownBy_set (Go.Lib.Hx.grownBy_refl _ _) _ rfl _
  have hkeep : ∀ k, k < w.heap.size → k ≠ gs → vD.ownBlock ≠ some k → (w1.setCell ⟨gs, 2, none⟩ v').heap[k]? = w.heap[k]? := fun k hk h1 h2 => (hg1.block k (Nat.lt_of_lt_of_le hk hg.size) (by simpa using h1)).trans (hg.block k hk (Ne.symm h2))
  have hfr : Fr base w (w1.setCell ⟨gs, 2, none⟩ v') := ((Fr.refl base w).grown hb hg (fun k hk => ⟨(h.rd.lo hk).1, fun cs t fz hb => by
      obtain ⟨_, cur, hc⟩ := h.rd.lo hk
      rw [hc] at hb
      cases hb
      exact .inr (.inr rfl)⟩)).grown (Nat.le_trans hb hg.size) hg1 (fun k hk => by cases hk; exact ⟨h.lo, fun cs t fz hb => by rw [hb1] at hb; cases hb; exact .inr (.inl rfl)⟩)
  have hov : v'.ownBlock = some g' := by rw [hv']; rfl
  have hkv : ∀ e, VarAt w base e → VarAt (w1.setCell ⟨gs, 2, none⟩ v') base e := fun e he => he.fr hfr (hkeep _ (Array.getElem?_eq_some_iff.1 he.blk).1 (fun e2 => by have := he.blk; rw [e2, h.blk] at this; cases this) (fun e2 => by
    obtain ⟨_, cur, hc⟩ := h.rd.lo e2
    rw [he.blk] at hc
    cases hc))
  refine ⟨by simp only [World.cell?, hb1]; rfl, blk_frozen hb1 _, ⟨sc_mark hb1, h.lo, hrow.fr (fun g hgo => ?_), h.ru.fr (fun g hgo => ?_), fun g hgo hgo2 => ?_, fun e he => ?_, nodup_mid _ h.new hxn, nodup_mid _ h.apart hxp, by simp at hl ⊢; omega⟩, hfr, (hkeep gv (Array.getElem?_eq_some_iff.1 hgv).1 (fun e => by rw [e, h.blk] at hgv; cases hgv) hgd).trans hgv, fun gm es c hm => hkeep gm (Array.getElem?_eq_some_iff.1 hm).1 (fun e => by rw [e, h.blk] at hm; cases hm) (fun e => by
    obtain ⟨_, cur, hc⟩ := h.rd.lo e
    rw [hm] at hc
    cases hc)⟩
  · rw [hov] at hgo
    cases hgo
    obtain ⟨_, cur, hc⟩ := hrow.lo hov
    exact hg1.block g' (Array.getElem?_eq_some_iff.1 hc).1 (fun e => by cases e; rw [hb1] at hc; cases hc)
  · obtain ⟨_, cur, hc⟩ := h.ru.lo hgo
    exact hkeep g (Array.getElem?_eq_some_iff.1 hc).1 (fun e => by rw [e, h.blk] at hc; cases hc) (fun e => h.ap g e hgo)
  · rw [hov] at hgo
    cases hgo
    rcases hat with hat | hat
    · exact h.ap g' hat hgo2
    · obtain ⟨_, cur, hc⟩ := h.ru.lo hgo2
      have := (Array.getElem?_eq_some_iff.1 hc).1
      omega
  · simp only [List.mem_append, List.mem_singleton] at he
    rcases he with (he | rfl) | he
    · exact hkv e (h.vars e (List.mem_append_left _ he))
    · exact hkv e hx
    · exact hkv e (h.vars e (List.mem_append_right _ he))
theorem PreS.addU (h : PreS w base gs vM D U vD vU) (hb : base ≤ w.heap.size) (hl : (D ++ U).length < 60) (hx : VarAt w base x) (hxn : x.name ∉ (D ++ U).map Ent.name) (hxp : x.p ∉ (D ++ U).map Ent.p)
    (hgv : w.heap[gv]? = some (.cells #[x.at] 45 (0, 0))) (hgd : vD.ownBlock ≠ some gv) (hgu : vU.ownBlock ≠ some gv) :
    ∃ g' c' w1, (∀ ty, (Builtin.append_ #[38, 37] ty #[vU, .slice (some ⟨gv, 0, none⟩) 1 1]).run Try.prog w = .ok (.slice (some ⟨g', 0, none⟩) (U.length + 1) c') w1) ∧ w1.cell? ⟨gs, 3, none⟩ = some vU ∧ w1.frozen? ⟨gs, 3, none⟩ = false ∧
      PreS (w1.setCell ⟨gs, 3, none⟩ (.slice (some ⟨g', 0, none⟩) (U.length + 1) c')) base gs vM D (U ++ [x]) vD (.slice (some ⟨g', 0, none⟩) (U.length + 1) c') ∧ Fr base w (w1.setCell ⟨gs, 3, none⟩ (.slice (some ⟨g', 0, none⟩) (U.length + 1) c')) ∧
      (w1.setCell ⟨gs, 3, none⟩ (.slice (some ⟨g', 0, none⟩) (U.length + 1) c')).heap[gv]? = some (.cells #[x.at] 45 (0, 0)) ∧
      (∀ (gm : Nat) es c, w.heap[gm]? = some (Obj.map es c) → (w1.setCell ⟨gs, 3, none⟩ (.slice (some ⟨g', 0, none⟩) (U.length + 1) c')).heap[gm]? = w.heap[gm]?) := by
  obtain ⟨g', c', w1, hrun, hrow, hg, hat⟩ := row_app h.ru hb (by have := h.few; rw [List.length_append] at this; omega) hgv
  have hgsne : vU.ownBlock ≠ some gs := fun e => by
    obtain ⟨_, cur, hc⟩ := h.ru.lo e
    rw [h.blk] at hc
    cases hc
  have hb1 := (hg.block gs (Array.getElem?_eq_some_iff.1 h.blk).1 (Ne.symm hgsne)).trans h.blk
  refine ⟨g', c', w1, hrun, ?_⟩
  obtain ⟨v', hv'⟩ : ∃ v', v' = Value.slice (some ⟨g', 0, none⟩) (U.length + 1) c' := ⟨_, rfl⟩
  rw [← hv'] at hrow ⊢
  have hg1 : w1.grownBy (w1.setCell ⟨gs, 3, none⟩ v') (some gs) := Go.Lib.Hx.grownBy_set (Go.Lib.Hx.grownBy_refl _ _) _ rfl _
  have hkeep : ∀ k, k < w.heap.size → k ≠ gs → vU.ownBlock ≠ some k → (w1.setCell ⟨gs, 3, none⟩ v').heap[k]? = w.heap[k]? := fun k hk h1 h2 => (hg1.block k (Nat.lt_of_lt_of_le hk hg.size) (by simpa using h1)).trans (hg.block k hk (Ne.symm h2))
  have hfr : Fr base w (w1.setCell ⟨gs, 3, none⟩ v') := ((Fr.refl base w).grown hb hg (fun k hk => ⟨(h.ru.lo hk).1, fun cs t fz hb => by
      obtain ⟨_, cur, hc⟩ := h.ru.lo hk
      rw [hc] at hb
      cases hb
      exact .inr (.inr rfl)⟩)).grown (Nat.le_trans hb hg.size) hg1 (fun k hk => by cases hk; exact ⟨h.lo, fun cs t fz hb => by rw [hb1] at hb; cases hb; exact .inr (.inl rfl)⟩)
  have hov : v'.ownBlock = some g' := by rw [hv']; rfl
  have hkv : ∀ e, VarAt w base e → VarAt (w1.setCell ⟨gs, 3, none⟩ v') base e := fun e he => he.fr hfr (hkeep _ (Array.getElem?_eq_some_iff.1 he.blk).1 (fun e2 => by have := he.blk; rw [e2, h.blk] at this; cases this) (fun e2 => by
    obtain ⟨_, cur, hc⟩ := h.ru.lo e2
    rw [he.blk] at hc
    cases hc))
  refine ⟨by simp only [World.cell?, hb1]; rfl, blk_frozen hb1 _, ⟨sc_mark hb1, h.lo, h.rd.fr (fun g hgo => ?_), hrow.fr (fun g hgo => ?_), fun g hgo2 hgo => ?_, fun e he => ?_, nodup_end _ h.new hxn, nodup_end _ h.apart hxp, by simp at hl ⊢; omega⟩, hfr, (hkeep gv (Array.getElem?_eq_some_iff.1 hgv).1 (fun e => by rw [e, h.blk] at hgv; cases hgv) hgu).trans hgv, fun gm es c hm => hkeep gm (Array.getElem?_eq_some_iff.1 hm).1 (fun e => by rw [e, h.blk] at hm; cases hm) (fun e => by
    obtain ⟨_, cur, hc⟩ := h.ru.lo e
    rw [hm] at hc
    cases hc)⟩
  · obtain ⟨_, cur, hc⟩ := h.rd.lo hgo
    exact hkeep g (Array.getElem?_eq_some_iff.1 hc).1 (fun e => by rw [e, h.blk] at hc; cases hc) (fun e => h.ap g hgo e)
  · rw [hov] at hgo
    cases hgo
    obtain ⟨_, cur, hc⟩ := hrow.lo hov
    exact hg1.block g' (Array.getElem?_eq_some_iff.1 hc).1 (fun e => by cases e; rw [hb1] at hc; cases hc)
  · rw [hov] at hgo
    cases hgo
    rcases hat with hat | hat
    · exact h.ap g' hgo2 hat
    · obtain ⟨_, cur, hc⟩ := h.rd.lo hgo2
      have := (Array.getElem?_eq_some_iff.1 hc).1
      omega
  · simp only [List.mem_append, List.mem_singleton] at he
    rcases he with he | he | rfl
    · exact hkv e (h.vars e (List.mem_append_left _ he))
    · exact hkv e (h.vars e (List.mem_append_right _ he))
    · exact hkv e hx
end
theorem ScAt.pre {w : World} {base gs : Nat} {D U : List Ent} (h : ScAt w base gs D U) : ∃ vD vU vM, PreS w base gs vM D U vD vU ∧ IndexAt w base vM (namesD D 0 ++ namesU U 0) := by
  obtain ⟨vD, vU, vM, h1, h2, h3, h4, h5, h6⟩ := h.all
  exact ⟨vD, vU, vM, ⟨h1, h2, h3, h4, h5, h.vars, h.new, h.apart, h.few⟩, h6⟩
theorem PreS.sc {w : World} {base gs : Nat} {D U : List Ent} {vD vU vM : Value} (h : PreS w base gs vM D U vD vU) (hi : IndexAt w base vM (namesD D 0 ++ namesU U 0)) : ScAt w base gs D U :=
  ⟨⟨vD, vU, vM, h.blk, h.lo, h.rd, h.ru, h.ap, hi⟩, h.vars, h.new, h.apart, h.few⟩
/-- A block that a scope may lead to. -/
def Mine : Obj → Prop
  | .cells _ t _ => t = 54 ∨ t = 42 ∨ t = 45 ∨ t = 3 ∨ t = 5
  | _ => True
section
variable {w w' : World} {base gs : Nat} {D U : List Ent}
theorem TextV.keep {g cap : Nat} {l : List Int} (h : TextV w base g cap l) (hk : ∀ (k : Nat) (o : Obj), w.heap[k]? = some o → Mine o → w'.heap[k]? = some o) : TextV w' base g cap l := by
  obtain ⟨cur, fr, h1, h2, h3⟩ := h
  exact ⟨cur, fr, h1, hk _ _ h2 (.inr (.inr (.inr (.inr rfl)))), h3⟩
theorem RowP.keep {v : Value} {es : List Ent} (h : RowP w base v es) (hk : ∀ (k : Nat) (o : Obj), w.heap[k]? = some o → Mine o → w'.heap[k]? = some o) : RowP w' base v es := by
  rcases h with h | ⟨g, cap, cur, rfl, h2, h3, h4⟩
  · exact .inl h
  · exact .inr ⟨g, cap, cur, rfl, h2, hk _ _ h3 (.inr (.inr (.inl rfl))), h4⟩
theorem ScAt.keep (h : ScAt w base gs D U) (hk : ∀ (k : Nat) (o : Obj), w.heap[k]? = some o → Mine o → w'.heap[k]? = some o) : ScAt w' base gs D U := by
  obtain ⟨vD, vU, vM, h1, h2, h3, h4, h5, h6⟩ := h.all
  refine ⟨⟨vD, vU, vM, hk _ _ h1 (.inr (.inl rfl)), h2, h3.keep hk, h4.keep hk, h5, ?_⟩, fun e he => ?_, h.new, h.apart, h.few⟩
  · rcases h6 with h6 | ⟨gm, I, k1, k2, k3, k4, k5, k6⟩
    · exact .inl h6
    · refine .inr ⟨gm, I, k1, k2, k3, ?_, k5, fun i hi => ?_⟩
      · obtain ⟨es, clock, hb2, F, hs, hD⟩ := k4
        exact ⟨es, clock, hk _ _ hb2 trivial, F, hs, hD⟩
      · obtain ⟨j1, j2, cur, j3, j4⟩ := k6 i hi
        exact ⟨j1, j2, cur, hk _ _ j3 (.inr (.inr (.inr (.inl rfl)))), j4⟩
  · have := h.vars e he
    exact ⟨hk _ _ this.blk (.inl rfl), this.lo, this.txt.keep hk, this.few, this.used⟩
theorem PreS.drewN {vM vD vU : Value} (h : PreS w base gs vM D U vD vU) (n : Nat) : PreS (w.drewN n) base gs vM D U vD vU :=
  ⟨h.blk, h.lo, h.rd.keep (fun _ _ hb _ => hb), h.ru.keep (fun _ _ hb _ => hb), h.ap, fun e he => ⟨(h.vars e he).blk, (h.vars e he).lo, (h.vars e he).txt.keep (fun _ _ hb _ => hb), (h.vars e he).few, (h.vars e he).used⟩, h.new, h.apart, h.few⟩
theorem ScAt.drewN (h : ScAt w base gs D U) (n : Nat) : ScAt (w.drewN n) base gs D U := h.keep (fun _ _ hb _ => hb)
theorem ScAt.grown (h : ScAt w base gs D U) (hg : w.grownBy w' none) : ScAt w' base gs D U := h.keep (fun k _ hb _ => (hg.block k (Array.getElem?_eq_some_iff.1 hb).1 (by simp)).trans hb)
end
end Go.Proofs.Ytohfnhfpiipglaa.Own
