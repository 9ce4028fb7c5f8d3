/- buildVarIndices: the index of all names, when there are sixteen. -/
import Derived.Test.YtohfnhfpiipglaaCScF
namespace Go.Proofs.Ytohfnhfpiipglaa.Own
open Go.RowKit Go.Proofs.YtohfnhfpiipglaaW.PrintWords Go.Proofs.YtohfnhfpiipglaaW.PrintLast
set_option linter.unusedVariables false
set_option linter.unusedSimpArgs false
theorem mkMap (W : World) (n : Int) : (Instr.makeMap 39 (some (.int .i64 n))).run Try.prog W = .ok (.map (some W.heap.size)) (W.alloc (.map #[] 0)) := by
  unfold Instr.makeMap
  simp [run_underlying Try.underlying39, asInt]
  try rfl
theorem RowP.any {w : World} {base : Nat} {v : Value} {es : List Ent} (h : RowP w base v es) : ∃ A c, v = .slice A es.length c ∧ es.length ≤ c ∧ ∀ j (hj : j < es.length), ∃ g, A = some ⟨g, 0, none⟩ ∧ w.cell? ⟨g, j, none⟩ = some es[j].at := by
  rcases h.cells with ⟨rfl, rfl⟩ | ⟨g, cap, rfl, h2, h3⟩
  · exact ⟨none, 0, rfl, Nat.le_refl _, fun j hj => by cases hj⟩
  · exact ⟨_, cap, rfl, h2, fun j hj => ⟨g, rfl, h3 j hj⟩⟩
/-- The scope, told by its parts; in the map stands what I says. -/
structure PreS (W : World) (base gs : Nat) (vM : Value) (D U : List Ent) (vD vU : Value) : Prop where
  blk : W.heap[gs]? = some (.cells #[.pointer none, .pointer (some ⟨gs, 0, none⟩), vD, vU, vM, .slice none 0 0, .int .i64 0, .int .i64 0, .int .i64 0, .bool true, .bool false] 42 (0, 0))
  lo : base ≤ gs
  rd : RowP W base vD D
  ru : RowP W base vU U
  ap : ∀ g, vD.ownBlock = some g → vU.ownBlock ≠ some g
  vars : ∀ e ∈ D ++ U, VarAt W base e
  new : ((D ++ U).map Ent.name).Nodup
  apart : ((D ++ U).map Ent.p).Nodup
  few : (D ++ U).length ≤ 60
abbrev PreIx (W : World) (base gs gm : Nat) (D U : List Ent) (vD vU : Value) : Prop := PreS W base gs (.map (some gm)) D U vD vU
theorem RowP.own {w : World} {base : Nat} {v : Value} {es : List Ent} (h : RowP w base v es) {g : Nat} (hg : v.ownBlock = some g) : ∃ cur, w.heap[g]? = some (.cells cur 45 (0, 0)) := by
  rcases h with ⟨rfl, _⟩ | ⟨g', cap, cur, rfl, h2, h3, h4⟩
  · cases hg
  · cases hg
    exact ⟨cur, h3⟩
/-- Only the map was written. -/
theorem PreIx.fr {W W' : World} {base gs gm : Nat} {D U : List Ent} {vD vU : Value} {I : List Ix} (h : PreIx W base gs gm D U vD vU) (hI : IxAt W base gm I) (hg : W.grownBy W' (some gm)) : PreIx W' base gs gm D U vD vU ∧ (base ≤ W.heap.size → Fr base W W') := by
  obtain ⟨es, clock, hm, _⟩ := hI.2.1
  have hfr : Fr 0 W W' := (Fr.refl 0 W).grown (Nat.zero_le _) hg (fun k hk => ⟨Nat.zero_le _, fun cs t fz hb => by cases hk; rw [hm] at hb; cases hb⟩)
  have hne : ∀ k cs t fz, W.heap[k]? = some (Obj.cells cs t fz) → W'.heap[k]? = W.heap[k]? := fun k cs t fz hb => hg.block k (Array.getElem?_eq_some_iff.1 hb).1 (fun e => by cases e; rw [hm] at hb; cases hb)
  refine ⟨⟨(hne _ _ _ _ h.blk).trans h.blk, h.lo, h.rd.fr (fun g hg => ?_), h.ru.fr (fun g hg => ?_), h.ap, fun e he => (h.vars e he).fr hfr (hne _ _ _ _ (h.vars e he).blk), h.new, h.apart, h.few⟩, fun hb => (Fr.refl base W).grown hb hg (fun k hk => ⟨by cases hk; exact hI.1, fun cs t fz hb => by cases hk; rw [hm] at hb; cases hb⟩)⟩
  · obtain ⟨cur, hc⟩ := h.rd.own hg
    exact hne _ _ _ _ hc
  · obtain ⟨cur, hc⟩ := h.ru.own hg
    exact hne _ _ _ _ hc
/-- The map is made and laid into the scope. -/
theorem ix_made {w : World} {base gs : Nat} {D U : List Ent} {vD vU vM : Value} (hblk : w.heap[gs]? = some (.cells #[.pointer none, .pointer (some ⟨gs, 0, none⟩), vD, vU, vM, .slice none 0 0, .int .i64 0, .int .i64 0, .int .i64 0, .bool true, .bool false] 42 (0, 0)))
    (hgs : base ≤ gs) (hD : RowP w base vD D) (hU : RowP w base vU U) (hap : ∀ g, vD.ownBlock = some g → vU.ownBlock ≠ some g) (hvar : ∀ e ∈ D ++ U, VarAt w base e) (hnew : ((D ++ U).map Ent.name).Nodup) (hapart : ((D ++ U).map Ent.p).Nodup) (hfew : (D ++ U).length ≤ 60) :
    ∃ W0, W0 = (((w.alloc (Obj.map #[] 0)).setCell ⟨gs, 4, none⟩ (.map (some w.heap.size))).drew) ∧ PreIx W0 base gs w.heap.size D U vD vU ∧ IxAt W0 base w.heap.size [] ∧ Fr base w W0 ∧ base ≤ W0.heap.size := by
  have hlt := (Array.getElem?_eq_some_iff.1 hblk).1
  have h1 : (w.alloc (Obj.map #[] 0)).heap[gs]? = _ := (al_lt hlt).trans hblk
  have hg1 : (w.alloc (Obj.map #[] 0)).grownBy ((w.alloc (Obj.map #[] 0)).setCell ⟨gs, 4, none⟩ (.map (some w.heap.size))) (some gs) := Go.Lib.Hx.grownBy_set (Go.Lib.Hx.grownBy_refl _ _) _ rfl _
  have hfr : Fr base w (((w.alloc (Obj.map #[] 0)).setCell ⟨gs, 4, none⟩ (.map (some w.heap.size))).drew) :=
    (((Fr.refl base w).alloc (by omega) (Obj.map #[] 0)).grown (by simp; omega) hg1 (fun k hk => ⟨by cases hk; exact hgs, fun cs t fz hb => by cases hk; rw [h1] at hb; cases hb; exact .inr (.inl rfl)⟩)).drew
  have hne : ∀ k, k < w.heap.size → k ≠ gs → (((w.alloc (Obj.map #[] 0)).setCell ⟨gs, 4, none⟩ (.map (some w.heap.size))).drew).heap[k]? = w.heap[k]? := fun k hk hkg => by
    have := hg1.block k (by simp; omega) (by simp; omega)
    exact this.trans (al_lt hk)
  refine ⟨_, rfl, ⟨?_, hgs, hD.fr (fun g hg => ?_), hU.fr (fun g hg => ?_), hap, fun e he => (hvar e he).fr hfr (hne _ (Array.getElem?_eq_some_iff.1 (hvar e he).blk).1 (fun e2 => ?_)), hnew, hapart, hfew⟩, ⟨by omega, ?_, fun i hi => by cases hi⟩, hfr, by simp [World.setCell]; omega⟩
  · exact sc_mark h1
  · obtain ⟨cur, hc⟩ := hD.own hg
    exact hne _ (Array.getElem?_eq_some_iff.1 hc).1 (fun e => by rw [e, hblk] at hc; cases hc)
  · obtain ⟨cur, hc⟩ := hU.own hg
    exact hne _ (Array.getElem?_eq_some_iff.1 hc).1 (fun e => by rw [e, hblk] at hc; cases hc)
  · have := (hvar e he).blk
    rw [e2, hblk] at this
    cases this
  · have := (World.ownsMap_made w Try.prog 9 ixR).kept (World.grownBy.trans hg1 (World.grownBy.refl _ _)) (by simp; omega)
    exact this
/-- The index under way. -/
def BInv (base gm : Nat) (W0 wr : World) (ns : List (ByteArray × Int)) : Prop := ∃ I, IxAt wr base gm I ∧ I.map (fun i => (i.name, i.idx)) = ns ∧ W0.grownBy wr (some gm)
/-- One more name. -/
theorem BInv.step {base gs gm : Nat} {W0 w1 : World} {D U : List Ent} {vD vU : Value} {ns : List (ByteArray × Int)} {I0 : List Ix} (hp : PreIx W0 base gs gm D U vD vU) (hI0 : IxAt W0 base gm I0) (hbase : base ≤ W0.heap.size) (h : BInv base gm W0 w1 ns) (hns : ns.length < 1000) (e : Ent) (he : e ∈ D ++ U) (idx : Int) (hn : (ns.map Prod.fst).Nodup) (hno : e.name ∉ ns.map Prod.fst) :
    (∀ w', w1.grownBy w' none → PutR gs e.p e.gn e.cap e.name.size e.name gm w') ∧ w1.grownBy w1.drew none ∧ w1.grownBy (w1.drew.alloc (.cells #[.int .i64 idx] 3)) none ∧
    ∃ g cap w2 w3, (∀ ty, (Builtin.append_ #[56, 56] ty #[.slice none 0 0, .slice (some ⟨w1.heap.size, 0, none⟩) 1 1]).run Try.prog (w1.drew.alloc (.cells #[.int .i64 idx] 3)) = .ok (.slice (some ⟨g, 0, none⟩) 1 cap) w2) ∧ w1.grownBy w2 none ∧
      (Instr.mapUpdate 39 (.map (some gm)) (.string e.name) (.slice (some ⟨g, 0, none⟩) 1 cap)).run Try.prog w2 = .ok () w3 ∧ BInv base gm W0 w3 (ns ++ [(e.name, idx)]) := by
  obtain ⟨I, h1, h2, h3⟩ := h
  obtain ⟨hp1, _⟩ := hp.fr hI0 h3
  have hnm : I.map Ix.name = ns.map Prod.fst := by rw [← h2, List.map_map]; rfl
  have hc4 : w1.cell? ⟨gs, 4, none⟩ = some (.map (some gm)) := by simp only [World.cell?, hp1.blk]; rfl
  have hgd : w1.grownBy w1.drew none := ⟨rfl, rfl, rfl, Nat.le_refl _, fun _ _ _ => rfl⟩
  obtain ⟨g, cap, w2, a1, a2, a3, a4, a5⟩ := app_one hgd idx
  have hv := hp1.vars e he
  obtain ⟨w3, b1, b2, b3⟩ := put_one h1 (by have := congrArg List.length h2; simp at this; omega) a2 (Nat.le_trans hbase h3.size) ⟨e.name, g, cap, idx⟩ (by have := hv.few; have : maxLen = 9223372036854775807 := rfl; show e.name.size ≤ _; omega) a3 a4 a5
  exact ⟨fun w' hg => put_reads h1 hv hc4 (by rw [hnm]; exact hn) (by rw [hnm]; exact hno) hg, hgd, hgd.trans (World.grownBy_alloc _ _ _), g, cap, w2, w3, a1, a2, b1, I ++ [⟨e.name, g, cap, idx⟩], b2, by rw [List.map_append, h2]; rfl, h3.trans b3⟩
theorem namesD_take : ∀ (D : List Ent) (b k : Nat) (hk : k < D.length), namesD (D.take (k + 1)) b = namesD (D.take k) b ++ [(D[k].name, ((b + k : Nat) : Int))]
  | [], _, _, hk => by cases hk
  | e :: t, b, 0, _ => by simp [namesD]
  | e :: t, b, k + 1, hk => by
    have := namesD_take t (b + 1) k (by simpa using hk)
    simp only [List.take_succ_cons, namesD, List.cons_append, this, List.getElem_cons_succ]
    rw [show b + 1 + k = b + (k + 1) by omega]
theorem namesU_take : ∀ (D : List Ent) (b k : Nat) (hk : k < D.length), namesU (D.take (k + 1)) b = namesU (D.take k) b ++ [(D[k].name, -((b + k : Nat) : Int) - 1)]
  | [], _, _, hk => by cases hk
  | e :: t, b, 0, _ => by simp [namesU]
  | e :: t, b, k + 1, hk => by
    have := namesU_take t (b + 1) k (by simpa using hk)
    simp only [List.take_succ_cons, namesU, List.cons_append, this, List.getElem_cons_succ]
    rw [show b + 1 + k = b + (k + 1) by omega]
/-- A name that has not been put yet. -/
theorem fresh_at {L : List Ent} (hn : (L.map Ent.name).Nodup) {k : Nat} (hk : k < L.length) : ((L.take k).map Ent.name).Nodup ∧ L[k].name ∉ (L.take k).map Ent.name := by
  have h1 : (L.take (k + 1)).map Ent.name = (L.take k).map Ent.name ++ [L[k].name] := by rw [List.take_succ_eq_append_getElem hk, List.map_append]; rfl
  have h2 : ((L.take (k + 1)).map Ent.name).Nodup := by rw [List.map_take]; exact hn.sublist (List.take_sublist _ _)
  rw [h1, List.nodup_append] at h2
  exact ⟨h2.1, fun hm => h2.2.2 _ hm _ (by simp) rfl⟩
theorem RowP.at {w : World} {base n c : Nat} {A : Option Addr} {es : List Ent} (h : RowP w base (.slice A n c) es) {j : Nat} (hj : j < es.length) : ∃ g, A = some ⟨g, 0, none⟩ ∧ w.cell? ⟨g, j, none⟩ = some es[j].at := by
  rcases h.cells with ⟨rfl, _⟩ | ⟨g, cap, he, h2, h3⟩
  · cases hj
  · cases he
    exact ⟨g, rfl, h3 j hj⟩
theorem fresh_U {D U : List Ent} (hn : ((D ++ U).map Ent.name).Nodup) {k : Nat} (hk : k < U.length) : ((D ++ U.take k).map Ent.name).Nodup ∧ U[k].name ∉ (D ++ U.take k).map Ent.name := by
  have h := fresh_at hn (k := D.length + k) (by simp; omega)
  have h1 : (D ++ U).take (D.length + k) = D ++ U.take k := by rw [List.take_append, List.take_of_length_le (by omega)]; simp
  have h2 : (D ++ U)[D.length + k]'(by simp; omega) = U[k] := by rw [List.getElem_append_right (by omega)]; simp
  rw [h1, h2] at h
  exact h
theorem BInv.step_D {base gs gm : Nat} {W0 w1 : World} {D U : List Ent} {A A' : Option Addr} {n c n' c' : Nat} (hp : PreIx W0 base gs gm D U (.slice A n c) (.slice A' n' c')) (hI0 : IxAt W0 base gm []) (hbase : base ≤ W0.heap.size) {k : Nat} (hk : k < D.length) (h : BInv base gm W0 w1 (namesD (D.take k) 0)) :
    (∃ g, A = some ⟨g, 0, none⟩ ∧ w1.cell? ⟨g, k, none⟩ = some D[k].at) ∧ (∀ w', w1.grownBy w' none → PutR gs D[k].p D[k].gn D[k].cap D[k].name.size D[k].name gm w') ∧ w1.grownBy w1.drew none ∧ w1.grownBy (w1.drew.alloc (.cells #[.int .i64 (k : Int)] 3)) none ∧
    ∃ g cap w2 w3, (∀ ty, (Builtin.append_ #[56, 56] ty #[.slice none 0 0, .slice (some ⟨w1.heap.size, 0, none⟩) 1 1]).run Try.prog (w1.drew.alloc (.cells #[.int .i64 (k : Int)] 3)) = .ok (.slice (some ⟨g, 0, none⟩) 1 cap) w2) ∧ w1.grownBy w2 none ∧
      (Instr.mapUpdate 39 (.map (some gm)) (.string D[k].name) (.slice (some ⟨g, 0, none⟩) 1 cap)).run Try.prog w2 = .ok () w3 ∧ BInv base gm W0 w3 (namesD (D.take (k + 1)) 0) := by
  have hn : (D.map Ent.name).Nodup := (List.nodup_append.1 (by have := hp.new; rwa [List.map_append] at this)).1
  obtain ⟨f1, f2⟩ := fresh_at hn hk
  have hfew := hp.few
  rw [List.length_append] at hfew
  obtain ⟨I, j1, j2, j3⟩ := id h
  refine ⟨(hp.fr hI0 j3).1.rd.at hk, ?_⟩
  have := BInv.step hp hI0 hbase h (by rw [namesD_len, List.length_take]; omega) D[k] (List.mem_append_left _ (List.getElem_mem hk)) (k : Int) (by rw [namesD_fst]; exact f1) (by rw [namesD_fst]; exact f2)
  rw [namesD_take D 0 k hk, Nat.zero_add]
  exact this
theorem BInv.step_U {base gs gm : Nat} {W0 w1 : World} {D U : List Ent} {A A' : Option Addr} {n c n' c' : Nat} (hp : PreIx W0 base gs gm D U (.slice A n c) (.slice A' n' c')) (hI0 : IxAt W0 base gm []) (hbase : base ≤ W0.heap.size) {k : Nat} (hk : k < U.length) (h : BInv base gm W0 w1 (namesD D 0 ++ namesU (U.take k) 0)) :
    (∃ g, A' = some ⟨g, 0, none⟩ ∧ w1.cell? ⟨g, k, none⟩ = some U[k].at) ∧ (∀ w', w1.grownBy w' none → PutR gs U[k].p U[k].gn U[k].cap U[k].name.size U[k].name gm w') ∧ w1.grownBy w1.drew none ∧ w1.grownBy (w1.drew.alloc (.cells #[.int .i64 (-(k : Int) - 1)] 3)) none ∧
    ∃ g cap w2 w3, (∀ ty, (Builtin.append_ #[56, 56] ty #[.slice none 0 0, .slice (some ⟨w1.heap.size, 0, none⟩) 1 1]).run Try.prog (w1.drew.alloc (.cells #[.int .i64 (-(k : Int) - 1)] 3)) = .ok (.slice (some ⟨g, 0, none⟩) 1 cap) w2) ∧ w1.grownBy w2 none ∧
      (Instr.mapUpdate 39 (.map (some gm)) (.string U[k].name) (.slice (some ⟨g, 0, none⟩) 1 cap)).run Try.prog w2 = .ok () w3 ∧ BInv base gm W0 w3 (namesD D 0 ++ namesU (U.take (k + 1)) 0) := by
  obtain ⟨f1, f2⟩ := fresh_U hp.new hk
  have hfew := hp.few
  rw [List.length_append] at hfew
  obtain ⟨I, j1, j2, j3⟩ := id h
  refine ⟨(hp.fr hI0 j3).1.ru.at hk, ?_⟩
  have hm : (namesD D 0 ++ namesU (U.take k) 0).map Prod.fst = (D ++ U.take k).map Ent.name := by rw [List.map_append, namesD_fst, namesU_fst, List.map_append]
  have := BInv.step hp hI0 hbase h (by rw [List.length_append, namesD_len, namesU_len, List.length_take]; omega) U[k] (List.mem_append_right _ (List.getElem_mem hk)) (-(k : Int) - 1) (by rw [hm]; exact f1) (by rw [hm]; exact f2)
  rw [namesU_take U 0 k hk, Nat.zero_add, ← List.append_assoc]
  exact this
set_option maxHeartbeats 2000000 in
theorem buildIx (w : World) (base gs : Nat) (D U : List Ent) (vD vU vM : Value) (hblk : w.heap[gs]? = some (.cells #[.pointer none, .pointer (some ⟨gs, 0, none⟩), vD, vU, vM, .slice none 0 0, .int .i64 0, .int .i64 0, .int .i64 0, .bool true, .bool false] 42 (0, 0)))
    (hgs : base ≤ gs) (hD : RowP w base vD D) (hU : RowP w base vU U) (hap : ∀ g, vD.ownBlock = some g → vU.ownBlock ≠ some g) (hvar : ∀ e ∈ D ++ U, VarAt w base e) (hnew : ((D ++ U).map Ent.name).Nodup) (hapart : ((D ++ U).map Ent.p).Nodup) (hfew : (D ++ U).length ≤ 60) (h16 : 16 ≤ (D ++ U).length) :
    Calls Try.prog 25 #[.pointer (some ⟨gs, 0, none⟩)] w fun e w' => e = .returned (.tuple #[]) ∧ ScAt w' base gs D U ∧ Fr base w w' := by
  have hc2 : w.cell? ⟨gs, 2, none⟩ = some vD := by simp only [World.cell?, hblk]; rfl
  have hc3 : w.cell? ⟨gs, 3, none⟩ = some vU := by simp only [World.cell?, hblk]; rfl
  have hc4 : w.cell? ⟨gs, 4, none⟩ = some vM := by simp only [World.cell?, hblk]; rfl
  have hf4 : w.frozen? ⟨gs, 4, none⟩ = false := blk_frozen hblk _
  have hmk := mkMap
  have hca : ∀ o, (w.alloc o).cell? ⟨gs, 4, none⟩ = some vM := fun o => (World.cell?_of_block (al_lt (World.block_lt_of_cell? w _ hc4))).trans hc4
  have hfa : ∀ o, (w.alloc o).frozen? ⟨gs, 4, none⟩ = false := fun o => (World.frozen?_of_block (al_lt (World.block_lt_of_cell? w _ hc4))).trans hf4
  have HM := Aside0.mk (ix_made hblk hgs hD hU hap hvar hnew hapart hfew)
  have HFr := Aside0.mk (Fr.refl base w)
  obtain ⟨AD, cD, rfl, hcD, hatD⟩ := hD.any
  obtain ⟨AU, cU, rfl, hcU, hatU⟩ := hU.any
  obtain ⟨nD, hnD⟩ : ∃ n, n = D.length := ⟨_, rfl⟩
  obtain ⟨nU, hnU⟩ : ∃ n, n = U.length := ⟨_, rfl⟩
  have hnd : nD ≤ 60 := by rw [List.length_append] at hfew; omega
  have hnu : nU ≤ 60 := by rw [List.length_append] at hfew; omega
  rw [← hnD] at hc2 hcD
  rw [← hnU] at hc3 hcU
  have HND := Aside0.mk hnD
  have HNU := Aside0.mk hnU
  have H16 := Aside0.mk h16
  clear hblk hD hU hvar hnew hfew hatD hatU hnD hnU h16 hap
  go_enter Try.func25, Try.ntmps25
  go_wp2
  go_region
  obtain ⟨W0, hW0, hpre, hI0, hfr0, hb0⟩ := HM.out
  rw [← hW0]
  have hd2 : W0.cell? ⟨gs, 2, none⟩ = some (.slice AD nD cD) := by simp only [World.cell?, hpre.blk, HND.out]; rfl
  obtain ⟨gm, hgm⟩ : ∃ g, g = w.heap.size := ⟨_, rfl⟩
  rw [← hgm] at hpre hI0 ⊢
  have HP0 := Aside0.mk hpre
  have HI0 := Aside0.mk hI0
  have HFR0 := Aside0.mk hfr0
  have HB0 := Aside0.mk hb0
  clear hW0 hpre hI0 hfr0 hb0 hgm HM hc2 hc3 hc4 hf4 hca hfa hmk
  go_wp2
  go_loopw [26] (fun v wr => ∃ k : Nat, v = .int .i64 (k : Int) ∧ k ≤ nD ∧ Aside0 (BInv base gm W0 wr (namesD (D.take k) 0))) (fun v _ => nD - (intOf v).toNat)
  case atStart => exact ⟨0, rfl, Nat.zero_le _, ⟨[], HI0.out, rfl, World.grownBy.refl _ _⟩⟩
  case round =>
    obtain ⟨k, rfl, hk, HI⟩ := hrel
    by_cases hlt : k < nD
    · have hlt2 : k < D.length := by rw [← HND.out]; exact hlt
      obtain ⟨⟨gD, rfl, hcell⟩, hR, hG0, hG1, ga, ca, w2, w3, hA, hG2, hP, hB⟩ := BInv.step_D HP0.out HI0.out HB0.out hlt2 HI.out
      obtain ⟨ej, hej⟩ : ∃ e, e = D[k] := ⟨_, rfl⟩
      rw [← hej] at hcell hR hP
      have HR_ := Aside0.mk hR
      have HG0_ := Aside0.mk hG0
      have HG1_ := Aside0.mk hG1
      have HG2_ := Aside0.mk hG2
      have HA_ := Aside0.mk hA
      have HP_ := Aside0.mk hP
      have HB_ := Aside0.mk hB
      clear hR hG0 hG1 hG2 hA hP hB hej hlt2
      go_wp2
      refine start_ (n := 23) (S := fun w' => wr.grownBy w' none) (ds := [22]) #[false, false, false, false, false, false, false, false, false, false, false, false, false, false, false, false, false, false, false, false, false, false, false] (by kernel_rfl) rfl rfl HG0_.out (fun hHeld => ?_)
      refine pure_ (i := 0) (N := (some 31)) (v := ?_) (a' := ?_) #[true, false, false, false, false, false, false, false, false, false, false, false, false, false, false, false, false, false, false, false, false, false, false] rfl rfl (by kernel_rfl) (fun _ _ _ h => h) (Or.inl ⟨by rfl, ?_⟩) ?_ ?_
      rotate_left
      · intro w'
        go_simp
        with_reducible rfl
      rotate_left
      · simp only [Act.put, List.setIfInBounds_toArray, List.set_cons_zero, List.set_cons_succ, i64_w, i32_w]
        rfl
      refine pure_ (i := 1) (N := (some 32)) (v := ?_) (a' := ?_) #[true, true, false, false, false, false, false, false, false, false, false, false, false, false, false, false, false, false, false, false, false, false, false] rfl rfl (by kernel_rfl) (fun _ _ _ h => h) (Or.inl ⟨by rfl, ?_⟩) ?_ ?_
      rotate_left
      · intro w'
        go_simp
        with_reducible rfl
      rotate_left
      · simp only [Act.put, List.setIfInBounds_toArray, List.set_cons_zero, List.set_cons_succ, i64_w, i32_w]
        rfl
      refine pure_ (i := 2) (N := (some 33)) (v := ?_) (a' := ?_) #[true, true, true, false, false, false, false, false, false, false, false, false, false, false, false, false, false, false, false, false, false, false, false] rfl rfl (by kernel_rfl) (fun _ _ _ h => h) (Or.inl ⟨by rfl, ?_⟩) ?_ ?_
      rotate_left
      · intro w'
        go_simp
        with_reducible rfl
      rotate_left
      · simp only [Act.put, List.setIfInBounds_toArray, List.set_cons_zero, List.set_cons_succ, i64_w, i32_w]
        rfl
      refine take_ (i := 3) (N := (some 34)) (v := ?_) (a' := ?_) #[true, true, true, true, false, false, false, false, false, false, false, false, false, false, false, false, false, false, false, false, false, false, false] rfl rfl (by kernel_rfl) (fun _ _ _ h => h) (Or.inl ⟨by rfl, ?_⟩) hHeld ?_ ?_
      rotate_left
      · intro w' s0
        have s1 := HR_.out _ s0
        have hc4_ := s1.c4
        have hc0_ := s1.c0
        have hcv_ := s1.cv
        have hlk_ := s1.lk
        clear s1 s0
        go_simp
        with_reducible rfl
      rotate_left
      · simp only [Act.put, List.setIfInBounds_toArray, List.set_cons_zero, List.set_cons_succ, i64_w, i32_w]
        rfl
      refine pure_ (i := 4) (N := (some 35)) (v := ?_) (a' := ?_) #[true, true, true, true, true, false, false, false, false, false, false, false, false, false, false, false, false, false, false, false, false, false, false] rfl rfl (by kernel_rfl) (fun _ _ _ h => h) (Or.inl ⟨by rfl, ?_⟩) ?_ ?_
      rotate_left
      · intro w'
        go_simp
        with_reducible rfl
      rotate_left
      · simp only [Act.put, List.setIfInBounds_toArray, List.set_cons_zero, List.set_cons_succ, i64_w, i32_w]
        rfl
      refine pure_ (i := 5) (N := (some 36)) (v := ?_) (a' := ?_) #[true, true, true, true, true, true, false, false, false, false, false, false, false, false, false, false, false, false, false, false, false, false, false] rfl rfl (by kernel_rfl) (fun _ _ _ h => h) (Or.inl ⟨by rfl, ?_⟩) ?_ ?_
      rotate_left
      · intro w'
        go_simp
        with_reducible rfl
      rotate_left
      · simp only [Act.put, List.setIfInBounds_toArray, List.set_cons_zero, List.set_cons_succ, i64_w, i32_w]
        rfl
      refine pure_ (i := 6) (N := (some 37)) (v := ?_) (a' := ?_) #[true, true, true, true, true, true, true, false, false, false, false, false, false, false, false, false, false, false, false, false, false, false, false] rfl rfl (by kernel_rfl) (fun _ _ _ h => h) (Or.inl ⟨by rfl, ?_⟩) ?_ ?_
      rotate_left
      · intro w'
        go_simp
        with_reducible rfl
      rotate_left
      · simp only [Act.put, List.setIfInBounds_toArray, List.set_cons_zero, List.set_cons_succ, i64_w, i32_w]
        rfl
      refine take_ (i := 7) (N := (some 38)) (v := ?_) (a' := ?_) #[true, true, true, true, true, true, true, true, false, false, false, false, false, false, false, false, false, false, false, false, false, false, false] rfl rfl (by kernel_rfl) (fun _ _ _ h => h) (Or.inl ⟨by rfl, ?_⟩) hHeld ?_ ?_
      rotate_left
      · intro w' s0
        have s1 := HR_.out _ s0
        have hc4_ := s1.c4
        have hc0_ := s1.c0
        have hcv_ := s1.cv
        have hlk_ := s1.lk
        clear s1 s0
        go_simp
        with_reducible rfl
      rotate_left
      · simp only [Act.put, List.setIfInBounds_toArray, List.set_cons_zero, List.set_cons_succ, i64_w, i32_w]
        rfl
      refine take_ (i := 8) (N := (some 39)) (v := ?_) (a' := ?_) #[true, true, true, true, true, true, true, true, true, false, false, false, false, false, false, false, false, false, false, false, false, false, false] rfl rfl (by kernel_rfl) (fun _ _ _ h => h) (Or.inl ⟨by rfl, ?_⟩) hHeld ?_ ?_
      rotate_left
      · intro w' s0
        have s1 := HR_.out _ s0
        have hc4_ := s1.c4
        have hc0_ := s1.c0
        have hcv_ := s1.cv
        have hlk_ := s1.lk
        clear s1 s0
        go_simp
        with_reducible rfl
      rotate_left
      · simp only [Act.put, List.setIfInBounds_toArray, List.set_cons_zero, List.set_cons_succ, i64_w, i32_w]
        rfl
      refine pure_ (i := 9) (N := (some 40)) (v := ?_) (a' := ?_) #[true, true, true, true, true, true, true, true, true, true, false, false, false, false, false, false, false, false, false, false, false, false, false] rfl rfl (by kernel_rfl) (fun _ _ _ h => h) (Or.inl ⟨by rfl, ?_⟩) ?_ ?_
      rotate_left
      · intro w'
        go_simp
        with_reducible rfl
      rotate_left
      · simp only [Act.put, List.setIfInBounds_toArray, List.set_cons_zero, List.set_cons_succ, i64_w, i32_w]
        rfl
      refine pure_ (i := 10) (N := (some 41)) (v := ?_) (a' := ?_) #[true, true, true, true, true, true, true, true, true, true, true, false, false, false, false, false, false, false, false, false, false, false, false] rfl rfl (by kernel_rfl) (fun _ _ _ h => h) (Or.inl ⟨by rfl, ?_⟩) ?_ ?_
      rotate_left
      · intro w'
        go_simp
        with_reducible rfl
      rotate_left
      · simp only [Act.put, List.setIfInBounds_toArray, List.set_cons_zero, List.set_cons_succ, i64_w, i32_w]
        rfl
      refine pure_ (i := 11) (N := (some 42)) (v := ?_) (a' := ?_) #[true, true, true, true, true, true, true, true, true, true, true, true, false, false, false, false, false, false, false, false, false, false, false] rfl rfl (by kernel_rfl) (fun _ _ _ h => h) (Or.inl ⟨by rfl, ?_⟩) ?_ ?_
      rotate_left
      · intro w'
        go_simp
        with_reducible rfl
      rotate_left
      · simp only [Act.put, List.setIfInBounds_toArray, List.set_cons_zero, List.set_cons_succ, i64_w, i32_w]
        rfl
      refine take_ (i := 12) (N := (some 43)) (v := ?_) (a' := ?_) #[true, true, true, true, true, true, true, true, true, true, true, true, true, false, false, false, false, false, false, false, false, false, false] rfl rfl (by kernel_rfl) (fun _ _ _ h => h) (Or.inl ⟨by rfl, ?_⟩) hHeld ?_ ?_
      rotate_left
      · intro w' s0
        have s1 := HR_.out _ s0
        have hc4_ := s1.c4
        have hc0_ := s1.c0
        have hcv_ := s1.cv
        have hlk_ := s1.lk
        clear s1 s0
        go_simp
        with_reducible rfl
      rotate_left
      · simp only [Act.put, List.setIfInBounds_toArray, List.set_cons_zero, List.set_cons_succ, i64_w, i32_w]
        rfl
      refine pure_ (i := 13) (N := (some 44)) (v := ?_) (a' := ?_) #[true, true, true, true, true, true, true, true, true, true, true, true, true, true, false, false, false, false, false, false, false, false, false] rfl rfl (by kernel_rfl) (fun _ _ _ h => h) (Or.inl ⟨by rfl, ?_⟩) ?_ ?_
      rotate_left
      · intro w'
        go_simp
        with_reducible rfl
      rotate_left
      · simp only [Act.put, List.setIfInBounds_toArray, List.set_cons_zero, List.set_cons_succ, i64_w, i32_w]
        rfl
      refine pure_ (i := 14) (N := (some 45)) (v := ?_) (a' := ?_) #[true, true, true, true, true, true, true, true, true, true, true, true, true, true, true, false, false, false, false, false, false, false, false] rfl rfl (by kernel_rfl) (fun _ _ _ h => h) (Or.inl ⟨by rfl, ?_⟩) ?_ ?_
      rotate_left
      · intro w'
        go_simp
        with_reducible rfl
      rotate_left
      · simp only [Act.put, List.setIfInBounds_toArray, List.set_cons_zero, List.set_cons_succ, i64_w, i32_w]
        rfl
      refine pure_ (i := 15) (N := (some 46)) (v := ?_) (a' := ?_) #[true, true, true, true, true, true, true, true, true, true, true, true, true, true, true, true, false, false, false, false, false, false, false] rfl rfl (by kernel_rfl) (fun _ _ _ h => h) (Or.inl ⟨by rfl, ?_⟩) ?_ ?_
      rotate_left
      · intro w'
        go_simp
        with_reducible rfl
      rotate_left
      · simp only [Act.put, List.setIfInBounds_toArray, List.set_cons_zero, List.set_cons_succ, i64_w, i32_w]
        rfl
      refine take_ (i := 16) (N := (some 47)) (v := ?_) (a' := ?_) #[true, true, true, true, true, true, true, true, true, true, true, true, true, true, true, true, true, false, false, false, false, false, false] rfl rfl (by kernel_rfl) (fun _ _ _ h => h) (Or.inl ⟨by rfl, ?_⟩) hHeld ?_ ?_
      rotate_left
      · intro w' s0
        have s1 := HR_.out _ s0
        have hc4_ := s1.c4
        have hc0_ := s1.c0
        have hcv_ := s1.cv
        have hlk_ := s1.lk
        clear s1 s0
        go_simp
        with_reducible rfl
      rotate_left
      · simp only [Act.put, List.setIfInBounds_toArray, List.set_cons_zero, List.set_cons_succ, i64_w, i32_w]
        rfl
      refine take_ (i := 17) (N := (some 48)) (v := ?_) (a' := ?_) #[true, true, true, true, true, true, true, true, true, true, true, true, true, true, true, true, true, true, false, false, false, false, false] rfl rfl (by kernel_rfl) (fun _ _ _ h => h) (Or.inl ⟨by rfl, ?_⟩) hHeld ?_ ?_
      rotate_left
      · intro w' s0
        have s1 := HR_.out _ s0
        have hc4_ := s1.c4
        have hc0_ := s1.c0
        have hcv_ := s1.cv
        have hlk_ := s1.lk
        clear s1 s0
        go_simp
        with_reducible rfl
      rotate_left
      · simp only [Act.put, List.setIfInBounds_toArray, List.set_cons_zero, List.set_cons_succ, i64_w, i32_w]
        rfl
      refine take_ (i := 18) (N := (some 49)) (v := ?_) (a' := ?_) #[true, true, true, true, true, true, true, true, true, true, true, true, true, true, true, true, true, true, true, false, false, false, false] rfl rfl (by kernel_rfl) (fun _ _ _ h => h) (Or.inl ⟨by rfl, ?_⟩) hHeld ?_ ?_
      rotate_left
      · intro w' s0
        have s1 := HR_.out _ s0
        have hc4_ := s1.c4
        have hc0_ := s1.c0
        have hcv_ := s1.cv
        have hlk_ := s1.lk
        clear s1 s0
        go_simp
        with_reducible rfl
      rotate_left
      · simp only [Act.put, List.setIfInBounds_toArray, List.set_cons_zero, List.set_cons_succ, i64_w, i32_w]
        rfl
      refine pure_ (i := 19) (N := (some 50)) (v := ?_) (a' := ?_) #[true, true, true, true, true, true, true, true, true, true, true, true, true, true, true, true, true, true, true, true, false, false, false] rfl rfl (by kernel_rfl) (fun _ _ _ h => h) (Or.inl ⟨by rfl, ?_⟩) ?_ ?_
      rotate_left
      · intro w'
        go_simp
        with_reducible rfl
      rotate_left
      · simp only [Act.put, List.setIfInBounds_toArray, List.set_cons_zero, List.set_cons_succ, i64_w, i32_w]
        rfl
      refine one_ (i := 20) (N := (some 51)) #[true, true, true, true, true, true, true, true, true, true, true, true, true, true, true, true, true, true, true, true, true, false, false] rfl rfl (by kernel_rfl) (by simp) (fun K_ hK_ => ?_)
      refine value_ (w1 := ?_) (v := ?_) (by rfl) rfl ?_ ?_
      rotate_left 2
      · go_simp
        constructor
        · rfl
        · rfl
      refine hK_ _ _ (HG1_.out) (fun _ => ?_)
      refine norm_ (a' := ?_) ?_ ?_
      rotate_left
      · show Act.put _ (some 51) _ = _
        simp only [Act.put, List.setIfInBounds_toArray, List.set_cons_zero, List.set_cons_succ]
        rfl
      refine one_ (i := 21) (N := (some 52)) #[true, true, true, true, true, true, true, true, true, true, true, true, true, true, true, true, true, true, true, true, true, true, false] rfl rfl (by kernel_rfl) (by simp) (fun K_ hK_ => ?_)
      refine ev_append (by rfl) (.tmp 49) (.tmp 51) 56 rfl rfl rfl HA_.out ?_
      refine hK_ _ _ (HG2_.out) (fun _ => ?_)
      refine norm_ (a' := ?_) ?_ ?_
      rotate_left
      · show Act.put _ (some 52) _ = _
        simp only [Act.put, List.setIfInBounds_toArray, List.set_cons_zero, List.set_cons_succ]
        rfl
      refine last_ (i := 22) (N := none) #[true, true, true, true, true, true, true, true, true, true, true, true, true, true, true, true, true, true, true, true, true, true, true] rfl rfl (by kernel_rfl) (by simp) (fun K_ hK_ => ?_)
      refine ev_put (by rfl) (.tmp 34) (.tmp 39) (.tmp 52) 39 rfl rfl rfl rfl HP_.out ?_
      refine hK_ _ _ ?_
      refine done_ (by kernel_rfl) ?_
      go_wp2
      go_roundw
      case rel => exact ⟨k + 1, rfl, hlt, HB_⟩
      case measure => simp [intOf] <;> omega
    · have hk' : k = nD := by omega
      subst hk'
      have HIF := Aside0.mk (show BInv base gm W0 wr (namesD D 0 ++ namesU (U.take 0) 0) by
        have := HI.out
        rw [HND.out, List.take_of_length_le (Nat.le_refl _)] at this
        simpa [namesU] using this)
      have hprew : PreIx wr base gs gm D U (.slice AD D.length cD) (.slice AU U.length cU) := by
        obtain ⟨I, i1, i2, i3⟩ := HI.out
        exact (HP0.out.fr HI0.out i3).1
      have hd3 : wr.cell? ⟨gs, 3, none⟩ = some (.slice AU nU cU) := by simp only [World.cell?, hprew.blk, HNU.out]; rfl
      clear hprew HI hk hlt
      go_wp2
      go_loopw [59] (fun v wr => ∃ k : Nat, v = .int .i64 (k : Int) ∧ k ≤ nU ∧ Aside0 (BInv base gm W0 wr (namesD D 0 ++ namesU (U.take k) 0))) (fun v _ => nU - (intOf v).toNat)
      case atStart => exact ⟨0, rfl, Nat.zero_le _, HIF⟩
      case round =>
        obtain ⟨k, rfl, hk, HI⟩ := hrel
        by_cases hlt : k < nU
        · have hlt2 : k < U.length := by rw [← HNU.out]; exact hlt
          obtain ⟨⟨gU, rfl, hcell⟩, hR, hG0, hG1, ga, ca, w2, w3, hA, hG2, hP, hB⟩ := BInv.step_U HP0.out HI0.out HB0.out hlt2 HI.out
          obtain ⟨ej, hej⟩ : ∃ e, e = U[k] := ⟨_, rfl⟩
          rw [← hej] at hcell hR hP
          have HR_ := Aside0.mk hR
          have HG0_ := Aside0.mk hG0
          have HG1_ := Aside0.mk hG1
          have HG2_ := Aside0.mk hG2
          have HA_ := Aside0.mk hA
          have HP_ := Aside0.mk hP
          have HB_ := Aside0.mk hB
          clear hR hG0 hG1 hG2 hA hP hB hej hlt2
          have hwa : wrap64 (-(k : Int)) = -(k : Int) := by unfold wrap64; omega
          have hwb : wrap64 (-(k : Int) - 1) = -(k : Int) - 1 := by unfold wrap64; omega
          go_wp2
          refine start_ (n := 25) (S := fun w' => wr.grownBy w' none) (ds := [24]) #[false, false, false, false, false, false, false, false, false, false, false, false, false, false, false, false, false, false, false, false, false, false, false, false, false] (by kernel_rfl) rfl rfl HG0_.out (fun hHeld => ?_)
          refine pure_ (i := 0) (N := (some 64)) (v := ?_) (a' := ?_) #[true, false, false, false, false, false, false, false, false, false, false, false, false, false, false, false, false, false, false, false, false, false, false, false, false] rfl rfl (by kernel_rfl) (fun _ _ _ h => h) (Or.inl ⟨by rfl, ?_⟩) ?_ ?_
          rotate_left
          · intro w'
            go_simp
            with_reducible rfl
          rotate_left
          · simp only [Act.put, List.setIfInBounds_toArray, List.set_cons_zero, List.set_cons_succ, i64_w, i32_w]
            rfl
          refine pure_ (i := 1) (N := (some 65)) (v := ?_) (a' := ?_) #[true, true, false, false, false, false, false, false, false, false, false, false, false, false, false, false, false, false, false, false, false, false, false, false, false] rfl rfl (by kernel_rfl) (fun _ _ _ h => h) (Or.inl ⟨by rfl, ?_⟩) ?_ ?_
          rotate_left
          · intro w'
            go_simp
            with_reducible rfl
          rotate_left
          · simp only [Act.put, List.setIfInBounds_toArray, List.set_cons_zero, List.set_cons_succ, i64_w, i32_w]
            rfl
          refine pure_ (i := 2) (N := (some 66)) (v := ?_) (a' := ?_) #[true, true, true, false, false, false, false, false, false, false, false, false, false, false, false, false, false, false, false, false, false, false, false, false, false] rfl rfl (by kernel_rfl) (fun _ _ _ h => h) (Or.inl ⟨by rfl, ?_⟩) ?_ ?_
          rotate_left
          · intro w'
            go_simp
            with_reducible rfl
          rotate_left
          · simp only [Act.put, List.setIfInBounds_toArray, List.set_cons_zero, List.set_cons_succ, i64_w, i32_w]
            rfl
          refine take_ (i := 3) (N := (some 67)) (v := ?_) (a' := ?_) #[true, true, true, true, false, false, false, false, false, false, false, false, false, false, false, false, false, false, false, false, false, false, false, false, false] rfl rfl (by kernel_rfl) (fun _ _ _ h => h) (Or.inl ⟨by rfl, ?_⟩) hHeld ?_ ?_
          rotate_left
          · intro w' s0
            have s1 := HR_.out _ s0
            have hc4_ := s1.c4
            have hc0_ := s1.c0
            have hcv_ := s1.cv
            have hlk_ := s1.lk
            clear s1 s0
            go_simp
            with_reducible rfl
          rotate_left
          · simp only [Act.put, List.setIfInBounds_toArray, List.set_cons_zero, List.set_cons_succ, i64_w, i32_w]
            rfl
          refine pure_ (i := 4) (N := (some 68)) (v := ?_) (a' := ?_) #[true, true, true, true, true, false, false, false, false, false, false, false, false, false, false, false, false, false, false, false, false, false, false, false, false] rfl rfl (by kernel_rfl) (fun _ _ _ h => h) (Or.inl ⟨by rfl, ?_⟩) ?_ ?_
          rotate_left
          · intro w'
            go_simp
            with_reducible rfl
          rotate_left
          · simp only [Act.put, List.setIfInBounds_toArray, List.set_cons_zero, List.set_cons_succ, i64_w, i32_w]
            rfl
          refine pure_ (i := 5) (N := (some 69)) (v := ?_) (a' := ?_) #[true, true, true, true, true, true, false, false, false, false, false, false, false, false, false, false, false, false, false, false, false, false, false, false, false] rfl rfl (by kernel_rfl) (fun _ _ _ h => h) (Or.inl ⟨by rfl, ?_⟩) ?_ ?_
          rotate_left
          · intro w'
            go_simp
            with_reducible rfl
          rotate_left
          · simp only [Act.put, List.setIfInBounds_toArray, List.set_cons_zero, List.set_cons_succ, i64_w, i32_w]
            rfl
          refine pure_ (i := 6) (N := (some 70)) (v := ?_) (a' := ?_) #[true, true, true, true, true, true, true, false, false, false, false, false, false, false, false, false, false, false, false, false, false, false, false, false, false] rfl rfl (by kernel_rfl) (fun _ _ _ h => h) (Or.inl ⟨by rfl, ?_⟩) ?_ ?_
          rotate_left
          · intro w'
            go_simp
            with_reducible rfl
          rotate_left
          · simp only [Act.put, List.setIfInBounds_toArray, List.set_cons_zero, List.set_cons_succ, i64_w, i32_w]
            rfl
          refine take_ (i := 7) (N := (some 71)) (v := ?_) (a' := ?_) #[true, true, true, true, true, true, true, true, false, false, false, false, false, false, false, false, false, false, false, false, false, false, false, false, false] rfl rfl (by kernel_rfl) (fun _ _ _ h => h) (Or.inl ⟨by rfl, ?_⟩) hHeld ?_ ?_
          rotate_left
          · intro w' s0
            have s1 := HR_.out _ s0
            have hc4_ := s1.c4
            have hc0_ := s1.c0
            have hcv_ := s1.cv
            have hlk_ := s1.lk
            clear s1 s0
            go_simp
            with_reducible rfl
          rotate_left
          · simp only [Act.put, List.setIfInBounds_toArray, List.set_cons_zero, List.set_cons_succ, i64_w, i32_w]
            rfl
          refine take_ (i := 8) (N := (some 72)) (v := ?_) (a' := ?_) #[true, true, true, true, true, true, true, true, true, false, false, false, false, false, false, false, false, false, false, false, false, false, false, false, false] rfl rfl (by kernel_rfl) (fun _ _ _ h => h) (Or.inl ⟨by rfl, ?_⟩) hHeld ?_ ?_
          rotate_left
          · intro w' s0
            have s1 := HR_.out _ s0
            have hc4_ := s1.c4
            have hc0_ := s1.c0
            have hcv_ := s1.cv
            have hlk_ := s1.lk
            clear s1 s0
            go_simp
            with_reducible rfl
          rotate_left
          · simp only [Act.put, List.setIfInBounds_toArray, List.set_cons_zero, List.set_cons_succ, i64_w, i32_w]
            rfl
          refine pure_ (i := 9) (N := (some 73)) (v := ?_) (a' := ?_) #[true, true, true, true, true, true, true, true, true, true, false, false, false, false, false, false, false, false, false, false, false, false, false, false, false] rfl rfl (by kernel_rfl) (fun _ _ _ h => h) (Or.inl ⟨by rfl, ?_⟩) ?_ ?_
          rotate_left
          · intro w'
            go_simp
            with_reducible rfl
          rotate_left
          · simp only [Act.put, List.setIfInBounds_toArray, List.set_cons_zero, List.set_cons_succ, i64_w, i32_w]
            rfl
          refine pure_ (i := 10) (N := (some 74)) (v := ?_) (a' := ?_) #[true, true, true, true, true, true, true, true, true, true, true, false, false, false, false, false, false, false, false, false, false, false, false, false, false] rfl rfl (by kernel_rfl) (fun _ _ _ h => h) (Or.inl ⟨by rfl, ?_⟩) ?_ ?_
          rotate_left
          · intro w'
            go_simp
            with_reducible rfl
          rotate_left
          · simp only [Act.put, List.setIfInBounds_toArray, List.set_cons_zero, List.set_cons_succ, i64_w, i32_w]
            rfl
          refine pure_ (i := 11) (N := (some 75)) (v := ?_) (a' := ?_) #[true, true, true, true, true, true, true, true, true, true, true, true, false, false, false, false, false, false, false, false, false, false, false, false, false] rfl rfl (by kernel_rfl) (fun _ _ _ h => h) (Or.inl ⟨by rfl, ?_⟩) ?_ ?_
          rotate_left
          · intro w'
            go_simp
            with_reducible rfl
          rotate_left
          · simp only [Act.put, List.setIfInBounds_toArray, List.set_cons_zero, List.set_cons_succ, i64_w, i32_w]
            rfl
          refine take_ (i := 12) (N := (some 76)) (v := ?_) (a' := ?_) #[true, true, true, true, true, true, true, true, true, true, true, true, true, false, false, false, false, false, false, false, false, false, false, false, false] rfl rfl (by kernel_rfl) (fun _ _ _ h => h) (Or.inl ⟨by rfl, ?_⟩) hHeld ?_ ?_
          rotate_left
          · intro w' s0
            have s1 := HR_.out _ s0
            have hc4_ := s1.c4
            have hc0_ := s1.c0
            have hcv_ := s1.cv
            have hlk_ := s1.lk
            clear s1 s0
            go_simp
            with_reducible rfl
          rotate_left
          · simp only [Act.put, List.setIfInBounds_toArray, List.set_cons_zero, List.set_cons_succ, i64_w, i32_w]
            rfl
          refine pure_ (i := 13) (N := (some 77)) (v := ?_) (a' := ?_) #[true, true, true, true, true, true, true, true, true, true, true, true, true, true, false, false, false, false, false, false, false, false, false, false, false] rfl rfl (by kernel_rfl) (fun _ _ _ h => h) (Or.inl ⟨by rfl, ?_⟩) ?_ ?_
          rotate_left
          · intro w'
            go_simp
            with_reducible rfl
          rotate_left
          · simp only [Act.put, List.setIfInBounds_toArray, List.set_cons_zero, List.set_cons_succ, i64_w, i32_w]
            rfl
          refine pure_ (i := 14) (N := (some 78)) (v := ?_) (a' := ?_) #[true, true, true, true, true, true, true, true, true, true, true, true, true, true, true, false, false, false, false, false, false, false, false, false, false] rfl rfl (by kernel_rfl) (fun _ _ _ h => h) (Or.inl ⟨by rfl, ?_⟩) ?_ ?_
          rotate_left
          · intro w'
            go_simp
            with_reducible rfl
          rotate_left
          · simp only [Act.put, List.setIfInBounds_toArray, List.set_cons_zero, List.set_cons_succ, i64_w, i32_w]
            rfl
          refine pure_ (i := 15) (N := (some 79)) (v := ?_) (a' := ?_) #[true, true, true, true, true, true, true, true, true, true, true, true, true, true, true, true, false, false, false, false, false, false, false, false, false] rfl rfl (by kernel_rfl) (fun _ _ _ h => h) (Or.inl ⟨by rfl, ?_⟩) ?_ ?_
          rotate_left
          · intro w'
            go_simp
            with_reducible rfl
          rotate_left
          · simp only [Act.put, List.setIfInBounds_toArray, List.set_cons_zero, List.set_cons_succ, i64_w, i32_w]
            rfl
          refine take_ (i := 16) (N := (some 80)) (v := ?_) (a' := ?_) #[true, true, true, true, true, true, true, true, true, true, true, true, true, true, true, true, true, false, false, false, false, false, false, false, false] rfl rfl (by kernel_rfl) (fun _ _ _ h => h) (Or.inl ⟨by rfl, ?_⟩) hHeld ?_ ?_
          rotate_left
          · intro w' s0
            have s1 := HR_.out _ s0
            have hc4_ := s1.c4
            have hc0_ := s1.c0
            have hcv_ := s1.cv
            have hlk_ := s1.lk
            clear s1 s0
            go_simp
            with_reducible rfl
          rotate_left
          · simp only [Act.put, List.setIfInBounds_toArray, List.set_cons_zero, List.set_cons_succ, i64_w, i32_w]
            rfl
          refine take_ (i := 17) (N := (some 81)) (v := ?_) (a' := ?_) #[true, true, true, true, true, true, true, true, true, true, true, true, true, true, true, true, true, true, false, false, false, false, false, false, false] rfl rfl (by kernel_rfl) (fun _ _ _ h => h) (Or.inl ⟨by rfl, ?_⟩) hHeld ?_ ?_
          rotate_left
          · intro w' s0
            have s1 := HR_.out _ s0
            have hc4_ := s1.c4
            have hc0_ := s1.c0
            have hcv_ := s1.cv
            have hlk_ := s1.lk
            clear s1 s0
            go_simp
            with_reducible rfl
          rotate_left
          · simp only [Act.put, List.setIfInBounds_toArray, List.set_cons_zero, List.set_cons_succ, i64_w, i32_w]
            rfl
          refine take_ (i := 18) (N := (some 82)) (v := ?_) (a' := ?_) #[true, true, true, true, true, true, true, true, true, true, true, true, true, true, true, true, true, true, true, false, false, false, false, false, false] rfl rfl (by kernel_rfl) (fun _ _ _ h => h) (Or.inl ⟨by rfl, ?_⟩) hHeld ?_ ?_
          rotate_left
          · intro w' s0
            have s1 := HR_.out _ s0
            have hc4_ := s1.c4
            have hc0_ := s1.c0
            have hcv_ := s1.cv
            have hlk_ := s1.lk
            clear s1 s0
            go_simp
            with_reducible rfl
          rotate_left
          · simp only [Act.put, List.setIfInBounds_toArray, List.set_cons_zero, List.set_cons_succ, i64_w, i32_w]
            rfl
          refine pure_ (i := 19) (N := (some 83)) (v := ?_) (a' := ?_) #[true, true, true, true, true, true, true, true, true, true, true, true, true, true, true, true, true, true, true, true, false, false, false, false, false] rfl rfl (by kernel_rfl) (fun _ _ _ h => h) (Or.inl ⟨by rfl, ?_⟩) ?_ ?_
          rotate_left
          · intro w'
            go_simp
            with_reducible rfl
          rotate_left
          · simp only [Act.put, List.setIfInBounds_toArray, List.set_cons_zero, List.set_cons_succ, i64_w, i32_w]
            rfl
          refine pure_ (i := 20) (N := (some 84)) (v := ?_) (a' := ?_) #[true, true, true, true, true, true, true, true, true, true, true, true, true, true, true, true, true, true, true, true, true, false, false, false, false] rfl rfl (by kernel_rfl) (fun _ _ _ h => h) (Or.inl ⟨by rfl, ?_⟩) ?_ ?_
          rotate_left
          · intro w'
            go_simp
            with_reducible rfl
          rotate_left
          · simp only [Act.put, List.setIfInBounds_toArray, List.set_cons_zero, List.set_cons_succ, i64_w, i32_w]
            rfl
          refine pure_ (i := 21) (N := (some 85)) (v := ?_) (a' := ?_) #[true, true, true, true, true, true, true, true, true, true, true, true, true, true, true, true, true, true, true, true, true, true, false, false, false] rfl rfl (by kernel_rfl) (fun _ _ _ h => h) (Or.inl ⟨by rfl, ?_⟩) ?_ ?_
          rotate_left
          · intro w'
            go_simp
            with_reducible rfl
          rotate_left
          · simp only [Act.put, List.setIfInBounds_toArray, List.set_cons_zero, List.set_cons_succ, i64_w, i32_w]
            rfl
          refine one_ (i := 22) (N := (some 86)) #[true, true, true, true, true, true, true, true, true, true, true, true, true, true, true, true, true, true, true, true, true, true, true, false, false] rfl rfl (by kernel_rfl) (by simp) (fun K_ hK_ => ?_)
          refine value_ (w1 := ?_) (v := ?_) (by rfl) rfl ?_ ?_
          rotate_left 2
          · go_simp
            constructor
            · rfl
            · rfl
          refine hK_ _ _ (HG1_.out) (fun _ => ?_)
          refine norm_ (a' := ?_) ?_ ?_
          rotate_left
          · show Act.put _ (some 86) _ = _
            simp only [Act.put, List.setIfInBounds_toArray, List.set_cons_zero, List.set_cons_succ]
            rfl
          refine one_ (i := 23) (N := (some 87)) #[true, true, true, true, true, true, true, true, true, true, true, true, true, true, true, true, true, true, true, true, true, true, true, true, false] rfl rfl (by kernel_rfl) (by simp) (fun K_ hK_ => ?_)
          refine ev_append (by rfl) (.tmp 82) (.tmp 86) 56 rfl rfl rfl HA_.out ?_
          refine hK_ _ _ (HG2_.out) (fun _ => ?_)
          refine norm_ (a' := ?_) ?_ ?_
          rotate_left
          · show Act.put _ (some 87) _ = _
            simp only [Act.put, List.setIfInBounds_toArray, List.set_cons_zero, List.set_cons_succ]
            rfl
          refine last_ (i := 24) (N := none) #[true, true, true, true, true, true, true, true, true, true, true, true, true, true, true, true, true, true, true, true, true, true, true, true, true] rfl rfl (by kernel_rfl) (by simp) (fun K_ hK_ => ?_)
          refine ev_put (by rfl) (.tmp 67) (.tmp 72) (.tmp 87) 39 rfl rfl rfl rfl HP_.out ?_
          refine hK_ _ _ ?_
          refine done_ (by kernel_rfl) ?_
          go_wp2
          go_roundw
          case rel => exact ⟨k + 1, rfl, hlt, HB_⟩
          case measure => simp [intOf] <;> omega
        · have hk' : k = nU := by omega
          subst hk'
          have HF2 := Aside0.mk (show ScAt wr base gs D U ∧ Fr base w wr by
            obtain ⟨I, i1, i2, i3⟩ := HI.out
            rw [HNU.out, List.take_of_length_le (Nat.le_refl _)] at i2
            obtain ⟨hp, hf⟩ := HP0.out.fr HI0.out i3
            have hl : I.length = (namesD D 0 ++ namesU U 0).length := by have := congrArg List.length i2; simpa using this
            refine ⟨⟨⟨_, _, _, hp.blk, hp.lo, hp.rd, hp.ru, hp.ap, .inr ⟨gm, I, ?_, rfl, i1.1, by rw [← hl]; exact i1.2.1, i2, i1.2.2⟩⟩, hp.vars, hp.new, hp.apart, hp.few⟩, HFR0.out.trans (hf HB0.out)⟩
            have := H16.out
            rw [List.length_append] at this
            rw [List.length_append, namesD_len, namesU_len]
            exact this)
          clear HI hk hlt
          go_wp2
          go_end0
          exact ⟨rfl, HF2.out⟩
end Go.Proofs.Ytohfnhfpiipglaa.Own
