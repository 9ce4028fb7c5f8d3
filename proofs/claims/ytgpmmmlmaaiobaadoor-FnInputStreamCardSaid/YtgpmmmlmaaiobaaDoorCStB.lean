/- The pool's cells, and what becomes of it where bytes are freed. -/
import Derived.Test.YtgpmmmlmaaiobaaDoorCStA
import Derived.Deep.LoopGhost
namespace Go.Proofs.YtgpmmmlmaaiobaaDoor.Own
open Go.RowKit Go.Proofs.YtgpmmmlmaaiobaaDoorW.PrintWords Go.Proofs.YtgpmmmlmaaiobaaDoorW.PrintLast
set_option linter.unusedVariables false
set_option linter.unusedSimpArgs false
section
variable {w w' : World} {base top : Nat} {v : Value} {es : List Blk}
theorem PoolAt.form (h : PoolAt w base top v es) (h0 : 0 < es.length) : ∃ gp cap, v = .slice (some ⟨gp, 0, none⟩) es.length cap ∧ es.length ≤ cap ∧ cap ≤ maxLen ∧ base ≤ gp ∧ (∃ cur, w.heap[gp]? = some (.cells cur 101 (0, 0))) ∧
    ∀ i (hi : i < es.length) j, j < 3 → w.cell? ⟨gp, i * 3 + j, none⟩ = es[i].cells[j]? ∧ w.frozen? ⟨gp, i * 3 + j, none⟩ = false := by
  obtain ⟨⟨h1, h2⟩, _⟩ := h
  rcases h2 with ⟨_, h3⟩ | ⟨g, cap, cur, h3, h4, h5, h6, h7, h8, h9⟩
  · omega
  · refine ⟨g, cap, h3, h6, h7, h4, ⟨cur, h5⟩, fun i hi j hj => ⟨?_, blk_frozen h5 _⟩⟩
    rw [cell_of_row w g (i * 3 + j) cur _ (0, 0) h5, ← Array.getElem?_toList, ← flatB_at hi hj, ← h9, List.getElem?_take, if_pos (by omega)]
theorem PoolAt.put {gp n cap i j : Nat} {x : Value} {b : Blk} (h : PoolAt w base top (.slice (some ⟨gp, 0, none⟩) n cap) es) (hi : i < es.length) (hj : j < 3) (hb : b.cells = es[i].cells.set j x) (hok : BlkOk w top b) :
    PoolAt (w.setCell ⟨gp, i * 3 + j, none⟩ x) base top (.slice (some ⟨gp, 0, none⟩) n cap) (es.set i b) := by
  obtain ⟨⟨h1, h2⟩, h0⟩ := h
  rcases h2 with ⟨h3, _⟩ | ⟨g, cap', cur, h3, h4, h5, h6, h7, h8, h9⟩
  · cases h3
  · cases h3
    have hk : ∀ (g : Nat) (cs : Array Value), w.heap[g]? = some (.cells cs 5 (0, 0)) → (w.setCell ⟨gp, i * 3 + j, none⟩ x).heap[g]? = w.heap[g]? := fun g cs hc => sc_ne (fun e => by rw [e, h5] at hc; cases hc)
    refine ⟨⟨by rw [flatB_len], .inr ⟨gp, cap, _, by rw [List.length_set], h4, sc_mark h5, by simpa using h6, h7, by simpa using h8, ?_⟩⟩, fun e he => ?_⟩
    · rw [Array.toList_setIfInBounds, List.take_set, List.length_set, h9, flatB_set hi hj hb]
    · rcases List.mem_or_eq_of_mem_set he with he | rfl
      · exact ⟨(h0 e he).1.keep (hk _), (h0 e he).2⟩
      · exact ⟨hok.1.keep (hk _), hok.2⟩
theorem PoolAt.fr {S : List TypeId} (h : PoolAt w base top v es) (hf : FrS S base w w') (h1 : 101 ∉ S) (h2 : 5 ∉ S) : PoolAt w' base top v es := by
  obtain ⟨⟨k1, k2⟩, k0⟩ := h
  refine ⟨⟨k1, ?_⟩, fun e he => ⟨(k0 e he).1.keep (fun cs hc => hf.2.2.2 _ _ _ _ hc h2), (k0 e he).2⟩⟩
  rcases k2 with k2 | ⟨g, cap', cur, h3, h4, h5, h6⟩
  · exact .inl k2
  · exact .inr ⟨g, cap', cur, h3, h4, hf.at h5 h1, h6⟩
end
section
variable {w w' : World} {gz : Nat} {r err pv : Value} {hd tl : Nat} {pp : Int} {buf : Value} {st ps pr fe : Int}
theorem ZAt.fr {S : List TypeId} {base : Nat} (h : ZAt w gz r err pv hd tl pp buf st ps pr fe) (hf : FrS S base w w') (h1 : 97 ∉ S) : ZAt w' gz r err pv hd tl pp buf st ps pr fe := hf.at h h1
theorem ZAt.cells (h : ZAt w gz r err pv hd tl pp buf st ps pr fe) : (w.cell? ⟨gz, 0, none⟩ = some r ∧ w.cell? ⟨gz, 1, none⟩ = some err ∧ w.cell? ⟨gz, 2, none⟩ = some pv ∧ w.cell? ⟨gz, 3, none⟩ = some (.int .i64 (hd : Int)) ∧ w.cell? ⟨gz, 4, none⟩ = some (.int .i64 (tl : Int)) ∧ w.cell? ⟨gz, 5, none⟩ = some (.int .i64 pp)) ∧
    (w.cell? ⟨gz, 6, none⟩ = some buf ∧ w.cell? ⟨gz, 7, none⟩ = some (.int .i64 st) ∧ w.cell? ⟨gz, 8, none⟩ = some (.int .i64 ps) ∧ w.cell? ⟨gz, 9, none⟩ = some (.int .i64 pr) ∧ w.cell? ⟨gz, 10, none⟩ = some (.int .i64 fe)) ∧ ∀ j, w.frozen? ⟨gz, j, none⟩ = false :=
  ⟨⟨(blk_cell h 0).trans rfl, (blk_cell h 1).trans rfl, (blk_cell h 2).trans rfl, (blk_cell h 3).trans rfl, (blk_cell h 4).trans rfl, (blk_cell h 5).trans rfl⟩, ⟨(blk_cell h 6).trans rfl, (blk_cell h 7).trans rfl, (blk_cell h 8).trans rfl, (blk_cell h 9).trans rfl, (blk_cell h 10).trans rfl⟩, fun j => blk_frozen h j⟩
end
theorem FrS.to {S : List TypeId} {base : Nat} {w w' : World} (h : FrS S base w w') : base ≤ w'.heap.size := Nat.le_trans h.2.1 h.2.2.1
theorem pop_step {wr : World} {gz base top gp cap m a n1 n2 hd tl : Nat} {r err buf : Value} {pp st ps pr fe z : Int} {es : List Blk} {e : Blk} {cur : Array Value} (hz : ZAt wr gz r err (.slice (some ⟨gp, 0, none⟩) m cap) hd tl pp buf st ps pr fe) (hbz : base ≤ gz) (hbw : base ≤ wr.heap.size) (hp : PoolAt wr base top (.slice (some ⟨gp, 0, none⟩) m cap) es)
    (hgp : base ≤ gp) (hcur : wr.heap[gp]? = some (.cells cur 101 (0, 0))) (he : es[a]? = some e) (nx : Nat) :
    ZAt (((((wr.drewN n1).setCell ⟨gz, 5, none⟩ (.int .i64 z)).drewN n2).setCell ⟨gp, a * 3 + 2, none⟩ (.bool false)).setCell ⟨gz, 4, none⟩ (.int .i64 (nx : Int))) gz r err (.slice (some ⟨gp, 0, none⟩) m cap) hd nx z buf st ps pr fe ∧
    PoolAt (((((wr.drewN n1).setCell ⟨gz, 5, none⟩ (.int .i64 z)).drewN n2).setCell ⟨gp, a * 3 + 2, none⟩ (.bool false)).setCell ⟨gz, 4, none⟩ (.int .i64 (nx : Int))) base top (.slice (some ⟨gp, 0, none⟩) m cap) (es.set a { e with act := false }) ∧
    FrS [97, 101] base wr (((((wr.drewN n1).setCell ⟨gz, 5, none⟩ (.int .i64 z)).drewN n2).setCell ⟨gp, a * 3 + 2, none⟩ (.bool false)).setCell ⟨gz, 4, none⟩ (.int .i64 (nx : Int))) := by
  have hne : gp ≠ gz := fun e => by rw [e, show wr.heap[gz]? = _ from hz] at hcur; cases hcur
  have hal := (List.getElem?_eq_some_iff.1 he).1
  have hea := (List.getElem?_eq_some_iff.1 he).2
  have z1 : ZAt (((wr.drewN n1).setCell ⟨gz, 5, none⟩ (.int .i64 z)).drewN n2) gz r err (.slice (some ⟨gp, 0, none⟩) m cap) hd tl z buf st ps pr fe := sc_mark (show (wr.drewN n1).heap[gz]? = _ from hz)
  have f1 : FrS [97] base wr (((wr.drewN n1).setCell ⟨gz, 5, none⟩ (.int .i64 z)).drewN n2) := (((FrS.refl hbw).drewN n1).set hbz (show (wr.drewN n1).heap[gz]? = _ from hz) (by simp)).drewN n2
  have p1 := hp.fr f1 (by decide) (by decide)
  have c1 := f1.at hcur (by decide)
  have p2 := p1.put (i := a) (j := 2) (x := .bool false) (b := { e with act := false }) hal (by omega) (by rw [hea]; rfl) (by
    obtain ⟨k1, k2⟩ := p1.2 e (hea ▸ List.getElem_mem hal)
    exact ⟨k1, k2⟩)
  have z2 : ZAt ((((wr.drewN n1).setCell ⟨gz, 5, none⟩ (.int .i64 z)).drewN n2).setCell ⟨gp, a * 3 + 2, none⟩ (.bool false)) gz r err (.slice (some ⟨gp, 0, none⟩) m cap) hd tl z buf st ps pr fe := (sc_ne (Ne.symm hne)).trans z1
  have f2 := (f1.mono (S' := [97, 101]) (by simp)).set hgp c1 (by simp) (j := a * 3 + 2) (v := .bool false)
  have f3 : FrS [97] base ((((wr.drewN n1).setCell ⟨gz, 5, none⟩ (.int .i64 z)).drewN n2).setCell ⟨gp, a * 3 + 2, none⟩ (.bool false)) _ := (FrS.refl f2.to).set hbz z2 (by simp) (j := 4) (v := .int .i64 (nx : Int))
  exact ⟨sc_mark z2, p2.fr f3 (by decide) (by decide), f2.trans (f3.mono (by simp))⟩
set_option maxRecDepth 20000 in
set_option maxHeartbeats 1000000 in
theorem pool_free (gz base top : Nat) (x : Int) (w : World) (r err pv buf : Value) (pp st ps pr fe : Int) (es : List Blk) (L : List Nat) (hz : ZAt w gz r err pv (lstL L) (fstL L) pp buf st ps pr fe) (hb : base ≤ gz) (hbw : base ≤ w.heap.size) (hp : PoolAt w base top pv es) (hl : Links es L) (hnd : L.Nodup) (hfew : es.length ≤ 1000000) :
    Calls Tryd.prog 71 #[.pointer (some ⟨gz, 2, none⟩), .int .i64 x] w fun e w' => e = .returned (.tuple #[]) ∧ ∃ (es' : List Blk) (L' : List Nat) (pp' : Int), ZAt w' gz r err pv (lstL L') (fstL L') pp' buf st ps pr fe ∧ PoolAt w' base top pv es' ∧ Links es' L' ∧ L'.Nodup ∧ es'.length = es.length ∧ FrS [97, 101] base w w' := by
  have HZ := Aside0.mk hz
  have HP := Aside0.mk hp
  have HL := Aside0.mk (And.intro hl hnd)
  obtain ⟨⟨_, _, _, _, _, z5⟩, _, zf⟩ := hz.cells
  have zf5 := zf 5
  clear hz hp hl hnd zf
  go_enter Tryd.func71, Tryd.ntmps71
  go_wp2
  generalize wrap64 (pp + x) = pq
  go_loopg [4] L.length (fun gk v4 wr => ∃ (es' : List Blk) (L' : List Nat) (pp' : Int), gk = L'.length ∧ Aside0 (ZAt wr gz r err pv (lstL L) (fstL L') pp' buf st ps pr fe ∧ (L' ≠ [] → lstL L' = lstL L)) ∧ Aside0 (PoolAt wr base top pv es') ∧ Aside0 (Links es' L' ∧ L'.Nodup) ∧ es'.length = es.length ∧ Aside0 (FrS [97, 101] base w wr))
  case atStart =>
    have hf : FrS [97] base w (w.setCell ⟨gz, 5, none⟩ (.int .i64 pq)) := (FrS.refl hbw).set hb HZ.out (by simp)
    exact ⟨es, L, pq, rfl, ⟨sc_mark HZ.out, fun _ => rfl⟩, ⟨HP.out.fr hf (by decide) (by decide)⟩, HL, rfl, ⟨hf.mono (by simp)⟩⟩
  case round =>
    obtain ⟨es', L', pp', rfl, HZ1, HP1, HL1, hlen, HF⟩ := hrel
    obtain ⟨⟨y0, y1, y2, y3, y4, y5⟩, y6, yf⟩ := HZ1.out.1.cells
    clear z5 zf5 y0 y1 y6
    cases L' with
    | nil =>
      obtain ⟨q, hq⟩ : ∃ q : Int, q = ((fstL [] : Nat) : Int) := ⟨_, rfl⟩
      rw [← hq] at y4
      have hq0 : q = 0 := hq
      have hd1 : decide (q ≠ 0) = false := by simp [hq0]
      have hd2 : (q != 0) = false := by simp [hq0]
      have hd3 : (q == 0) = true := by simp [hq0]
      clear hq hq0
      have yf3 := yf 3
      clear yf y2 y5
      go_wp2
      go_quiet (fail)
      all_goals go_wp2
      all_goals go_end0
      all_goals exact ⟨rfl, es', [], pp', sc_mark (show (wr.drewN nq).heap[gz]? = _ from HZ1.out.1), HP1.out.fr (S := [97]) (((FrS.refl HF.out.to).drewN nq).set hb (show (wr.drewN nq).heap[gz]? = _ from HZ1.out.1) (by simp)) (by decide) (by decide), trivial, List.nodup_nil, hlen, (HF.out.drewN nq).set hb (show (wr.drewN nq).heap[gz]? = _ from HZ1.out.1) (by simp)⟩
    | cons a t =>
      obtain ⟨q, hq⟩ : ∃ q : Int, q = ((fstL (a :: t) : Nat) : Int) := ⟨_, rfl⟩
      rw [← hq] at y4
      have hqa : q = (a : Int) + 1 := hq
      obtain ⟨⟨⟨e, he, hact, hnx⟩, hlt⟩, hnd⟩ := HL1.out
      have hal := (List.getElem?_eq_some_iff.1 he).1
      obtain ⟨gp, cap, rfl, hmc, hcm, hgp, ⟨cur, hcur⟩, hcells⟩ := HP1.out.form (by omega)
      have hea : es'[a] = e := (List.getElem?_eq_some_iff.1 he).2
      have c0 : wr.cell? ⟨gp, a * 3, none⟩ = some (.slice (some ⟨e.g, 0, none⟩) e.n e.cap) := by have := (hcells a hal 0 (by omega)).1; rw [hea] at this; exact this
      have c1 : wr.cell? ⟨gp, a * 3 + 1, none⟩ = some (.int .i64 (e.next : Int)) := by have := (hcells a hal 1 (by omega)).1; rw [hea] at this; exact this
      have c2 : wr.cell? ⟨gp, a * 3 + 2, none⟩ = some (.bool e.act) := by have := (hcells a hal 2 (by omega)).1; rw [hea] at this; exact this
      have f2 : wr.frozen? ⟨gp, a * 3 + 2, none⟩ = false := (hcells a hal 2 (by omega)).2
      have yf5 := yf 5
      have yf4 := yf 4
      have HE := Aside0.mk (And.intro he (And.intro hact (And.intro hnx (And.intro hlt hnd))))
      have HCU := Aside0.mk hcur
      have hne : gp ≠ gz := fun e => by rw [e, show wr.heap[gz]? = _ from HZ1.out.1] at hcur; cases hcur
      have hne' : gz ≠ gp := Ne.symm hne
      clear he hact hnx hlt hnd hcells hcur yf hea
      have hw1 : wrap64 (q - 1) = (a : Int) := by unfold wrap64; omega
      have hq0 : q ≠ 0 := by omega
      have hq1 : decide (q ≠ 0) = true := by simp [hq0]
      have hq2 : (q != 0) = true := by simp [hq0]
      have hq3 : (q == 0) = false := by simp [hq0]
      clear hqa hq hq0
      by_cases hc : (e.n : Int) ≤ pp'
      · go_wp2
        go_quiet (fail)
        all_goals go_wp2
        go_region
        all_goals go_wp2
        all_goals go_quiet (fail)
        all_goals go_wp2
        all_goals go_region
        all_goals go_wp2
        all_goals obtain ⟨he, hact, hnx, hlt, hnd⟩ := HE.out
        all_goals rw [hnx]
        all_goals obtain ⟨p1, p2, p3⟩ := pop_step HZ1.out.1 hb HF.out.to HP1.out hgp HCU.out he (fstL t)
        all_goals go_roundg t.length
        case measure => simp
        case rel => exact ⟨es'.set a { e with act := false }, t, _, rfl, ⟨p1, fun h => (HZ1.out.2 (by simp)) ▸ (by cases t with | nil => exact absurd rfl h | cons b t => rfl)⟩, ⟨p2⟩, ⟨hlt.set (List.nodup_cons.1 hnd).1, (List.nodup_cons.1 hnd).2⟩, by rw [List.length_set]; exact hlen, ⟨HF.out.trans p3⟩⟩
      · go_wp2
        go_quiet (fail)
        all_goals go_wp2
        all_goals go_end0
        all_goals exact ⟨rfl, es', a :: t, pp', by rw [HZ1.out.2 (by simp)]; exact HZ1.out.1, HP1.out.fr ((FrS.refl HF.out.to).drewN nq) (S := []) (by simp) (by simp), HL1.out.1, HL1.out.2, hlen, HF.out.drewN nq⟩
end Go.Proofs.YtgpmmmlmaaiobaaDoor.Own
