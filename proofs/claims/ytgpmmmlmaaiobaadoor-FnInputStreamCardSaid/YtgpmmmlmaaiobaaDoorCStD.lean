/- The pool gives a buffer, and keeps the one that was read: the walk. -/
import Derived.Test.YtgpmmmlmaaiobaaDoorCStC
namespace Go.Proofs.YtgpmmmlmaaiobaaDoor.Own
open Go.RowKit Go.Proofs.YtgpmmmlmaaiobaaDoorW.PrintWords Go.Proofs.YtgpmmmlmaaiobaaDoorW.PrintLast
set_option linter.unusedVariables false
set_option linter.unusedSimpArgs false
def SwapPost (gz base top c : Nat) (w : World) (r err buf : Value) (st ps pr fe : Int) (m : Nat) (e : Ending) (w' : World) : Prop :=
  ∃ (g' c' : Nat) (pv' : Value) (es' : List Blk) (L' : List Nat) (pp' : Int), e = .returned (.slice (some ⟨g', 0, none⟩) 0 c') ∧ c ≤ c' ∧ BufIn w' top g' c' ∧ ZAt w' gz r err pv' (lstL L') (fstL L') pp' buf st ps pr fe ∧ PoolAt w' base top pv' es' ∧ Links es' L' ∧ L'.Nodup ∧ es'.length ≤ m + 1 ∧ FrS [97, 101] base w w'
theorem PoolAt.put3 {w : World} {base top gp n capp i : Nat} {es : List Blk} {b : Blk} (h : PoolAt w base top (.slice (some ⟨gp, 0, none⟩) n capp) es) (hbw : base ≤ w.heap.size) (hi : i < es.length) (hok : BlkOk w top b) (h0 : b.next = 0) (h1 : b.act = true) :
    PoolAt (((w.setCell ⟨gp, i * 3, none⟩ (.slice (some ⟨b.g, 0, none⟩) b.n b.cap)).setCell ⟨gp, i * 3 + 1, none⟩ (.int .i64 0)).setCell ⟨gp, i * 3 + 2, none⟩ (.bool true)) base top (.slice (some ⟨gp, 0, none⟩) n capp) (es.set i b) ∧
    FrS [101] base w (((w.setCell ⟨gp, i * 3, none⟩ (.slice (some ⟨b.g, 0, none⟩) b.n b.cap)).setCell ⟨gp, i * 3 + 1, none⟩ (.int .i64 0)).setCell ⟨gp, i * 3 + 2, none⟩ (.bool true)) := by
  obtain ⟨gp', capp', hv, _, _, hgp, ⟨cur, hcur⟩, _⟩ := h.form (by omega)
  cases hv
  have hb : b.cells = [.slice (some ⟨b.g, 0, none⟩) b.n b.cap, .int .i64 0, .bool true] := by unfold Blk.cells; rw [h0, h1]; rfl
  have f1 : FrS [101] base w (w.setCell ⟨gp, i * 3, none⟩ (.slice (some ⟨b.g, 0, none⟩) b.n b.cap)) := (FrS.refl hbw).set hgp hcur (by simp)
  have f2 : FrS [101] base w ((w.setCell ⟨gp, i * 3, none⟩ (.slice (some ⟨b.g, 0, none⟩) b.n b.cap)).setCell ⟨gp, i * 3 + 1, none⟩ (.int .i64 0)) := f1.set hgp (sc_mark hcur) (by simp)
  have f3 := f2.set hgp (sc_mark (sc_mark hcur)) (by simp) (j := i * 3 + 2) (v := .bool true)
  have ok1 : BlkOk (w.setCell ⟨gp, i * 3, none⟩ (.slice (some ⟨b.g, 0, none⟩) b.n b.cap)) top b := ⟨hok.1.keep (fun cs hcs => f1.2.2.2 _ _ _ _ hcs (by decide)), hok.2⟩
  have ok2 : BlkOk ((w.setCell ⟨gp, i * 3, none⟩ (.slice (some ⟨b.g, 0, none⟩) b.n b.cap)).setCell ⟨gp, i * 3 + 1, none⟩ (.int .i64 0)) top b := ⟨hok.1.keep (fun cs hcs => f2.2.2.2 _ _ _ _ hcs (by decide)), hok.2⟩
  have p1 := h.put (i := i) (j := 0) (x := .slice (some ⟨b.g, 0, none⟩) b.n b.cap) (b := ⟨b.g, b.n, b.cap, es[i].next, es[i].act⟩) hi (by omega) rfl ⟨hok.1, hok.2⟩
  have p2 := p1.put (i := i) (j := 1) (x := .int .i64 0) (b := ⟨b.g, b.n, b.cap, 0, es[i].act⟩) (by simpa using hi) (by omega) (by simp; rfl) ⟨ok1.1, ok1.2⟩
  have p3 := p2.put (i := i) (j := 2) (x := .bool true) (b := b) (by simpa using hi) (by omega) (by rw [hb]; simp; rfl) ok2
  rw [List.set_set, List.set_set] at p3
  exact ⟨p3, f3⟩
/-- The same, before a block has been made for it. -/
structure Tail (w W : World) (gz base top g s cap gp m capp i : Nat) (r err buf : Value) (L : List Nat) (pp st ps pr fe : Int) (es : List Blk) : Prop where
  hz : ZAt W gz r err (.slice (some ⟨gp, 0, none⟩) m capp) (lstL L) (fstL L) pp buf st ps pr fe
  hp : PoolAt W base top (.slice (some ⟨gp, 0, none⟩) m capp) es
  hl : Links es L
  hnd : L.Nodup
  hi : i < es.length
  hni : i ∉ L
  hb : BufIn W top g cap
  hs : s ≤ cap
  hf : FrS [97, 101] base w W
  hgz : base ≤ gz
section
variable {w W : World} {gz base top g s cap gp m capp i : Nat} {r err buf : Value} {L : List Nat} {pp st ps pr fe : Int} {es : List Blk}
def W3 (W : World) (gp g s cap i : Nat) : World := ((W.setCell ⟨gp, i * 3, none⟩ (.slice (some ⟨g, 0, none⟩) s cap)).setCell ⟨gp, i * 3 + 1, none⟩ (.int .i64 0)).setCell ⟨gp, i * 3 + 2, none⟩ (.bool true)
theorem Tail.put (h : Tail w W gz base top g s cap gp m capp i r err buf L pp st ps pr fe es) : PoolAt (W3 W gp g s cap i) base top (.slice (some ⟨gp, 0, none⟩) m capp) (es.set i ⟨g, s, cap, 0, true⟩) ∧ ZAt (W3 W gp g s cap i) gz r err (.slice (some ⟨gp, 0, none⟩) m capp) (lstL L) (fstL L) pp buf st ps pr fe ∧
    FrS [97, 101] base w (W3 W gp g s cap i) ∧ BufIn (W3 W gp g s cap i) top (es[i]'h.hi).g (es[i]'h.hi).cap ∧ base ≤ gp ∧ ∃ cur, (W3 W gp g s cap i).heap[gp]? = some (.cells cur 101 (0, 0)) := by
  have hh := h.hi
  obtain ⟨q1, q2⟩ := h.hp.put3 (b := ⟨g, s, cap, 0, true⟩) h.hf.to h.hi ⟨h.hb, h.hs⟩ rfl rfl
  obtain ⟨gp', capp', hv, _, _, hgp, ⟨cur, hcur⟩, _⟩ := q1.form (by rw [List.length_set]; have := h.hi; omega)
  cases hv
  exact ⟨q1, h.hz.fr q2 (by decide), h.hf.trans (q2.mono (by simp)), (h.hp.2 es[i] (List.getElem_mem h.hi)).1.keep (fun cs hcs => q2.2.2.2 _ _ _ _ hcs (by decide)), hgp, cur, hcur⟩
theorem Tail.nil (h : Tail w W gz base top g s cap gp m capp i r err buf [] pp st ps pr fe es) {c cc : Nat} {cc' : Blk} (hcc : es[i]'h.hi = cc') (hc : c ≤ cc'.cap) (hm : es.length ≤ cc + 1) :
    SwapPost gz base top c w r err buf st ps pr fe cc (.returned (.slice (some ⟨cc'.g, 0, none⟩) 0 cc'.cap)) (((W3 W gp g s cap i).setCell ⟨gz, 3, none⟩ (.int .i64 ((i : Int) + 1))).setCell ⟨gz, 4, none⟩ (.int .i64 ((i : Int) + 1))) := by
  obtain ⟨q1, q2, q3, q4, _⟩ := h.put
  have z1 : ZAt ((W3 W gp g s cap i).setCell ⟨gz, 3, none⟩ (.int .i64 ((i : Int) + 1))) gz r err (.slice (some ⟨gp, 0, none⟩) m capp) (i + 1) 0 pp buf st ps pr fe := sc_mark q2
  have f1 : FrS [97] base (W3 W gp g s cap i) (((W3 W gp g s cap i).setCell ⟨gz, 3, none⟩ (.int .i64 ((i : Int) + 1))).setCell ⟨gz, 4, none⟩ (.int .i64 ((i : Int) + 1))) := ((FrS.refl q3.to).set h.hgz q2 (by simp)).set h.hgz z1 (by simp)
  subst hcc
  refine ⟨_, _, _, es.set i ⟨g, s, cap, 0, true⟩, [i], pp, rfl, hc, q4.keep (fun cs hcs => f1.2.2.2 _ _ _ _ hcs (by decide)), sc_mark z1, q1.fr f1 (by decide) (by decide), ⟨⟨⟨g, s, cap, 0, true⟩, by rw [List.getElem?_set_self h.hi], rfl, rfl⟩, trivial⟩, by simp, by rw [List.length_set]; exact hm, q3.trans (f1.mono (by simp))⟩
theorem Tail.cons (h : Tail w W gz base top g s cap gp m capp i r err buf L pp st ps pr fe es) {c cc a n : Nat} (hL : lstL L = a + 1) {cc' : Blk} (hcc : es[i]'h.hi = cc') (hc : c ≤ cc'.cap) (hm : es.length ≤ cc + 1) :
    SwapPost gz base top c w r err buf st ps pr fe cc (.returned (.slice (some ⟨cc'.g, 0, none⟩) 0 cc'.cap)) ((((W3 W gp g s cap i).drewN n).setCell ⟨gp, a * 3 + 1, none⟩ (.int .i64 ((i : Int) + 1))).setCell ⟨gz, 3, none⟩ (.int .i64 ((i : Int) + 1))) := by
  obtain ⟨q1, q2, q3, q4, hgp, cur, hcur⟩ := h.put
  have hLn : L ≠ [] := fun e => by rw [e] at hL; cases hL
  obtain ⟨a', ha', hla⟩ := lstL_mem hLn
  obtain rfl : a' = a := by omega
  have hal := Links.set h.hl h.hni (b := ⟨g, s, cap, 0, true⟩)
  obtain ⟨e, he, hact⟩ := hal.lt _ ha'
  have hal2 := (List.getElem?_eq_some_iff.1 he).1
  have hea := (List.getElem?_eq_some_iff.1 he).2
  have f0 : FrS [] base (W3 W gp g s cap i) ((W3 W gp g s cap i).drewN n) := (FrS.refl q3.to).drewN n
  have p0 := q1.fr f0 (by simp) (by simp)
  have p1 := p0.put (i := a') (j := 1) (x := .int .i64 ((i : Int) + 1)) (b := { e with next := i + 1 }) hal2 (by omega) (by rw [hea]; rfl) (by
    have := p0.2 e (hea ▸ List.getElem_mem hal2)
    exact ⟨this.1, this.2⟩)
  have f1 : FrS [101] base (W3 W gp g s cap i) (((W3 W gp g s cap i).drewN n).setCell ⟨gp, a' * 3 + 1, none⟩ (.int .i64 ((i : Int) + 1))) := (f0.mono (by simp)).set hgp (show ((W3 W gp g s cap i).drewN n).heap[gp]? = _ from hcur) (by simp)
  have z1 := q2.fr f1 (by decide)
  have f2 : FrS [97] base (((W3 W gp g s cap i).drewN n).setCell ⟨gp, a' * 3 + 1, none⟩ (.int .i64 ((i : Int) + 1))) ((((W3 W gp g s cap i).drewN n).setCell ⟨gp, a' * 3 + 1, none⟩ (.int .i64 ((i : Int) + 1))).setCell ⟨gz, 3, none⟩ (.int .i64 ((i : Int) + 1))) := (FrS.refl (f1.to)).set h.hgz z1 (by simp)
  have f12 : FrS [97, 101] base (W3 W gp g s cap i) _ := (f1.mono (by simp)).trans (f2.mono (by simp))
  have hfst : fstL L = fstL (L ++ [i]) := by
    cases L with
    | nil => exact absurd rfl hLn
    | cons x t => rfl
  subst hcc
  refine ⟨_, _, _, (es.set i ⟨g, s, cap, 0, true⟩).set a' { e with next := i + 1 }, L ++ [i], pp, rfl, hc, q4.keep (fun cs hcs => f12.2.2.2 _ _ _ _ hcs (by decide)), ?_, p1.fr f2 (by decide) (by decide), Links.snoc (by rw [List.getElem?_set_self h.hi]) rfl rfl hal h.hnd h.hni hL he, ?_, by rw [List.length_set, List.length_set]; exact hm, q3.trans f12⟩
  · rw [lstL_snoc, ← hfst]
    exact sc_mark z1
  · rw [List.nodup_append]
    exact ⟨h.hnd, by simp, fun x hx y hy e => h.hni (by simp at hy; rw [← hy, ← e]; exact hx)⟩
end
set_option maxRecDepth 20000 in
set_option maxHeartbeats 16000000 in
theorem pool_swap (gz base top g s cap c : Nat) (w : World) (r err pv buf : Value) (pp st ps pr fe : Int) (es : List Blk) (L : List Nat) (hz : ZAt w gz r err pv (lstL L) (fstL L) pp buf st ps pr fe) (hb : base ≤ gz) (hbw : base ≤ w.heap.size) (htop : top ≤ w.heap.size) (hp : PoolAt w base top pv es) (hl : Links es L) (hnd : L.Nodup) (hfew : es.length ≤ 1000000)
    (hbuf : BufIn w top g cap) (hs : s ≤ cap) (hc : c ≤ 2000) :
    Calls Tryd.prog 72 #[.pointer (some ⟨gz, 2, none⟩), .slice (some ⟨g, 0, none⟩) s cap, .int .i64 (c : Int)] w (SwapPost gz base top c w r err buf st ps pr fe es.length) := by
  have HZ := Aside0.mk hz
  have HP := Aside0.mk hp
  have HL := Aside0.mk (And.intro hl hnd)
  have HB := Aside0.mk hbuf
  have hcap2 : cap ≤ 2000 := by obtain ⟨_, _, _, h, _⟩ := hbuf; exact h
  have z2 := hz.cells.1.2.2.1
  obtain ⟨A, capp, hpv, hmc⟩ := hp.gen
  obtain ⟨n, hn⟩ : ∃ n, n = es.length := ⟨_, rfl⟩
  have z2' := z2
  rw [hpv, ← hn] at z2'
  rw [← hn] at hpv hfew hmc ⊢
  have HN := Aside0.mk hn
  clear hn
  have HPV := Aside0.mk hpv
  have Z2 := Aside0.mk z2
  clear hz hp hl hnd hbuf hpv z2
  go_enter Tryd.func72, Tryd.ntmps72
  go_wp2
  go_loopw [7, 8] (fun v7 v wr => ∃ i : Nat, v7 = .int .i64 (-1) ∧ v = .int .i64 (i : Int) ∧ i ≤ n ∧ w = wr) (fun _ v _ => n - (intOf v).toNat)
  case atStart => exact ⟨0, rfl, rfl, Nat.zero_le _, rfl⟩
  case round =>
    obtain ⟨i, rfl, rfl, hi, rfl⟩ := hrel
    by_cases hlt : i < n
    · have hlt2 : i < es.length := by rw [← HN.out]; exact hlt
      obtain ⟨gp, capq, hpq, _, _, hgp, _, hcells⟩ := HP.out.form (by omega)
      obtain ⟨rfl, rfl⟩ : A = some ⟨gp, 0, none⟩ ∧ capp = capq := by
        have := HPV.out.symm.trans hpq
        injection this with e1 e2 e3
        exact ⟨e1, e3⟩
      have c0 : w.cell? ⟨gp, i * 3, none⟩ = some (.slice (some ⟨es[i].g, 0, none⟩) es[i].n es[i].cap) := (hcells i hlt2 0 (by omega)).1
      have c2 : w.cell? ⟨gp, i * 3 + 2, none⟩ = some (.bool es[i].act) := (hcells i hlt2 2 (by omega)).1
      clear hcells hpq
      obtain ⟨e, he⟩ : ∃ e, e = es[i] := ⟨_, rfl⟩
      rw [← he] at c0 c2
      have HCC := Aside0.mk he.symm
      clear he
      obtain ⟨b, hact⟩ : ∃ b, b = e.act := ⟨_, rfl⟩
      rw [← hact] at c2
      have HAC := Aside0.mk hact
      clear hact
      cases b with
      | true =>
        go_wp2
        go_roundw
        case rel => exact ⟨i + 1, rfl, by go_num, hlt, by trivial⟩
        case measure => simp [intOf]; omega
      | false =>
        by_cases hcc : c ≤ e.cap
        · have HM := Aside0.mk (show es.length ≤ n + 1 from by rw [HN.out]; exact Nat.le_succ _)
          have HT := Aside0.mk (show Tail w w gz base top g s cap gp n capp i r err buf L pp st ps pr fe es from ⟨by rw [← HPV.out]; exact HZ.out, by rw [← HPV.out]; exact HP.out, HL.out.1, HL.out.2, hlt2, fun hm => (by
            obtain ⟨e', h1, h2⟩ := Links.lt HL.out.1 i hm
            rw [List.getElem?_eq_getElem hlt2, HCC.out] at h1
            obtain rfl := Option.some.inj h1
            rw [← HAC.out] at h2
            cases h2), HB.out, hs, FrS.refl hbw, hb⟩)
          have hi1 : ((i : Int) == -1) = false := by simp
          obtain ⟨⟨x0_, x1_, x2, x3, x4, x5_⟩, x6_, xf⟩ := HT.out.hz.cells
          clear x0_ x1_ x5_ x6_
          obtain ⟨_, _, hv_, _, _, hgp, ⟨cur, hcur⟩, hcells⟩ := HT.out.hp.form (by have := HT.out.hi; omega)
          injection hv_ with v1_ v2_ v3_
          injection v1_ with v1_
          injection v1_ with v4_
          subst v4_ v3_
          clear v2_
          have hne : gp ≠ gz := fun e => by rw [e, show (w).heap[gz]? = _ from HT.out.hz] at hcur; cases hcur
          have hne2 : gz ≠ gp := Ne.symm hne
          have d1 : (w).cell? ⟨gp, i * 3 + 1, none⟩ = some (.int .i64 (e.next : Int)) := by have := (hcells i HT.out.hi 1 (by omega)).1; rw [HCC.out] at this; exact this
          have e0 := (hcells i HT.out.hi 0 (by omega)).2
          have e1 := (hcells i HT.out.hi 1 (by omega)).2
          have e2 := (hcells i HT.out.hi 2 (by omega)).2
          rw [Nat.add_zero] at e0
          have xf3 := xf 3
          have xf4 := xf 4
          clear xf hcells hcur
          cases L with
          | nil =>
            obtain ⟨q3, hq3⟩ : ∃ q : Int, q = ((lstL [] : Nat) : Int) := ⟨_, rfl⟩
            obtain ⟨q4, hq4⟩ : ∃ q : Int, q = ((fstL [] : Nat) : Int) := ⟨_, rfl⟩
            rw [← hq3] at x3
            rw [← hq4] at x4
            have h30 : q3 = 0 := hq3
            have h40 : q4 = 0 := hq4
            have k1 : (q3 != 0) = false := by simp [h30]
            have k2 : (q4 == 0) = true := by simp [h40]
            have k3 : decide (q3 ≠ 0) = false := by simp [h30]
            clear hq3 hq4 h30 h40
            go_wp2
            go_ret
            exact HT.out.nil HCC.out hcc HM.out
          | cons a0 t0 =>
            obtain ⟨a, ha, hla⟩ := lstL_mem (L := a0 :: t0) (by simp)
            obtain ⟨q3, hq3⟩ : ∃ q : Int, q = ((lstL (a0 :: t0) : Nat) : Int) := ⟨_, rfl⟩
            obtain ⟨q4, hq4⟩ : ∃ q : Int, q = ((fstL (a0 :: t0) : Nat) : Int) := ⟨_, rfl⟩
            rw [← hq3] at x3
            rw [← hq4] at x4
            have h30 : q3 = (a : Int) + 1 := by rw [hq3, hla]; rfl
            have h40 : q4 = (a0 : Int) + 1 := hq4
            obtain ⟨e_, he_, _⟩ := Links.lt HT.out.hl a ha
            have hal := (List.getElem?_eq_some_iff.1 he_).1
            have halm : a < n := by have := hal; have := HN.out; simp at *; omega
            have k1 : (q3 != 0) = true := by simp [h30]; omega
            have k2 : (q4 == 0) = false := by simp [h40]; omega
            have k3 : decide (q3 ≠ 0) = true := by simp [h30]; omega
            have k4 : wrap64 (q3 - 1) = (a : Int) := by have := HM.out; unfold wrap64; omega
            clear hq3 hq4 h30 h40 he_
            have HLA := Aside0.mk hla
            clear hla
            obtain ⟨p1, p2, p3, p4, _, cur3, hcur3⟩ := HT.out.put
            obtain ⟨_, _, hv_, _, _, _, _, hcells3⟩ := p1.form (by rw [List.length_set]; have := HT.out.hi; omega)
            injection hv_ with v1_ v2_ v3_
            injection v1_ with v1_
            injection v1_ with v4_
            subst v4_ v3_
            clear v2_
            obtain ⟨⟨y0_, y1_, y2, y3o, y4o, y5_⟩, y6_, yf⟩ := p2.cells
            clear y0_ y1_ y5_ y6_
            have y3 : (W3 w gp g s cap i).cell? ⟨gz, 3, none⟩ = some (.int .i64 q3) := by rw [y3o]; exact (x3.symm.trans (HT.out.hz.cells.1.2.2.2.1)).symm
            have y4 : (W3 w gp g s cap i).cell? ⟨gz, 4, none⟩ = some (.int .i64 q4) := by rw [y4o]; exact (x4.symm.trans (HT.out.hz.cells.1.2.2.2.2.1)).symm
            clear y3o y4o
            have yf3 := yf 3
            have u1 := (hcells3 a (by rw [List.length_set]; exact hal) 1 (by omega)).1
            have uf := (hcells3 a (by rw [List.length_set]; exact hal) 1 (by omega)).2
            obtain ⟨v1, hv1⟩ : ∃ v, (W3 w gp g s cap i).cell? ⟨gp, a * 3 + 1, none⟩ = some v := ⟨_, u1.trans rfl⟩
            have HPP := Aside0.mk (And.intro p1 (And.intro p2 p3))
            clear p1 p2 p3 p4 hcells3 hcur3 yf u1
            go_upto_region 16 with fail
            rw [show ((w.setCell ⟨gp, i * 3, none⟩ (.slice (some ⟨g, 0, none⟩) s cap)).setCell ⟨gp, i * 3 + 1, none⟩ (.int .i64 0)).setCell ⟨gp, i * 3 + 2, none⟩ (.bool true) = W3 w gp g s cap i from rfl]
            clear x2 x3 x4 c0 c2 d1 e0 e1 e2
            generalize hW3 : W3 w gp g s cap i = w3 at *
            go_wp2
            go_region
            all_goals go_wp2
            all_goals go_ret
            all_goals subst hW3
            all_goals exact HT.out.cons HLA.out HCC.out hcc HM.out
        · go_wp2
          go_roundw
          case rel => exact ⟨i + 1, rfl, by go_num, hlt, by trivial⟩
          case measure => simp [intOf]; omega
    · clear hmc
      clear z2'
      obtain ⟨x0_, x1_, z2', z3, z4, z5⟩ := HZ.out.cells.1
      rw [HPV.out] at z2'
      have zf5 := HZ.out.cells.2.2 5
      clear x0_ x1_
      obtain ⟨q4, hq4⟩ : ∃ q : Int, q = ((fstL L : Nat) : Int) := ⟨_, rfl⟩
      rw [← hq4] at z4
      have HQ4 := Aside0.mk hq4
      clear hq4
      have hm1 : ((-1 : Int) == -1) = true := rfl
      go_upto_region 8 with fail
      go_cut [63] (fun v wx => (∃ b, v = .bool b ∧ Aside0 (b = decide (q4 = 0 ∧ (s : Int) ≤ pp ∧ c ≤ cap))) ∧ w = wx)
      case first => as_aux_lemma =>
        by_cases h4 : q4 = 0
        · have k1 : (q4 == 0) = true := by simp [h4]
          by_cases h5 : (s : Int) ≤ pp
          · by_cases h6 : c ≤ cap
            · have HH := Aside0.mk (show true = decide (q4 = 0 ∧ (s : Int) ≤ pp ∧ c ≤ cap) by simp [h4, h5, h6])
              clear h4
              go_wp2
              go_meet
              case rel => exact ⟨⟨_, rfl, HH⟩, rfl⟩
            · have HH := Aside0.mk (show false = decide (q4 = 0 ∧ (s : Int) ≤ pp ∧ c ≤ cap) by simp [h4, h5, h6])
              clear h4
              go_wp2
              go_meet
              case rel => exact ⟨⟨_, rfl, HH⟩, rfl⟩
          · have HH := Aside0.mk (show false = decide (q4 = 0 ∧ (s : Int) ≤ pp ∧ c ≤ cap) by simp [h4, h5])
            clear h4
            go_wp2
            go_meet
            case rel => exact ⟨⟨_, rfl, HH⟩, rfl⟩
        · have k1 : (q4 == 0) = false := by simp [h4]
          have HH := Aside0.mk (show false = decide (q4 = 0 ∧ (s : Int) ≤ pp ∧ c ≤ cap) by simp [h4])
          clear h4
          go_wp2
          go_meet
          case rel => exact ⟨⟨_, rfl, HH⟩, rfl⟩
      case rest => as_aux_lemma =>
      obtain ⟨⟨b, rfl, HH⟩, hw⟩ := hcut
      subst hw
      cases b with
      | true =>
        go_wp2
        go_ret
        obtain ⟨_, _, h6⟩ := of_decide_eq_true HH.out.symm
        have f1 : FrS [97] base w (w.setCell ⟨gz, 5, none⟩ (.int .i64 (wrap64 (pp - s)))) := (FrS.refl hbw).set hb HZ.out (by simp)
        exact ⟨g, cap, pv, es, L, _, rfl, h6, HB.out.keep (fun cs hcs => f1.2.2.2 _ _ _ _ hcs (by decide)), sc_mark HZ.out, HP.out.fr f1 (by decide) (by decide), HL.out.1, HL.out.2, by rw [HN.out]; exact Nat.le_succ _, f1.mono (by simp)⟩
      | false =>
        clear HH
        have hmk : ∀ W : World, (Instr.makeSlice 22 (.int .i64 0) (.int .i64 (c : Int))).run Tryd.prog W = .ok (.slice (some ⟨W.heap.size, 0, none⟩) 0 c) (W.alloc (.cells (madeCells #[.int .u8 0] c) 5)) := fun W => by
          obtain ⟨i0, hi0, hz0, hs1, hb1⟩ := info_parts infoIn
          have h := run_makeSlice (P := Tryd.prog) W 22 5 i0 (.int .u8 0) Tryd.underlying22 hi0 hz0 .i64 .i64 0 c (by omega) (by omega) (by rw [hs1]; omega) (by rw [hb1]; omega) (by omega)
          rw [hs1, show (Value.int .u8 0).cells = #[Value.int .u8 0] from rfl] at h
          simpa using h
        obtain ⟨gp, capq, w3, happ, hp3, hf3⟩ := pool_grow w.drew base top c (.slice A n capp) es (by rw [← HPV.out]; exact HP.out.fr (S := []) ((FrS.refl hbw).drewN 1) (by simp) (by simp)) hbw htop hc (by rw [← HN.out]; exact hfew)
        rw [← HN.out] at happ hp3
        have hz3 := ZAt.fr (w := w.drew) HZ.out hf3 (by decide)
        have HAP := Aside0.mk happ
        have HS := Aside0.mk (fun (W : World) (hb : Below w.heap.size w W) => pw_cell_below hb z2')
        have HW3 := Aside0.mk (And.intro (by have := hz3.cells.1.2.2.1; rw [HPV.out] at this; exact this : w3.cell? ⟨gz, 2, none⟩ = some (.slice A n capp)) (hz3.cells.2.2 2))
        have HP3 := Aside0.mk hp3
        have HF3 := Aside0.mk (show FrS [101] base w w3 from ((FrS.refl hbw).drewN 1).trans hf3)
        have HZ3 := Aside0.mk hz3
        have HB3 := Aside0.mk (show BufIn w3 top g cap from HB.out.keep (fun cs hcs => HF3.out.2.2.2 _ _ _ _ hcs (by decide)))
        clear happ hp3 hf3 hz3 z3 z4 z5 zf5
        go_upto_region 11 with fail
        go_cut [] (fun wx => ∃ gp capq e, Aside0 (Tail w wx gz base top g s cap gp (n + 1) capq n r err buf L pp st ps pr fe (es ++ [e])) ∧ c ≤ e.cap)
        case first => as_aux_lemma =>
          go_wp2
          refine start_ (n := 13) (S := fun w' => w'.cell? ⟨gz, 2, none⟩ = some (.slice A n capp)) (ds := [12]) #[false, false, false, false, false, false, false, false, false, false, false, false, false] (by kernel_rfl) rfl rfl z2' (fun hHeld => ?_)
          refine pure_ (i := 0) (N := (some 75)) (v := ?_) (a' := ?_) #[true, false, false, false, false, false, false, false, false, false, false, false, false] rfl rfl (by kernel_rfl) (fun _ _ _ h => h) (Or.inl ⟨by rfl, ?_⟩) ?_ ?_
          rotate_left
          · intro w'
            go_simp
            with_reducible rfl
          rotate_left
          · simp only [Act.put, List.setIfInBounds_toArray, List.set_cons_zero, List.set_cons_succ, i64_w, i32_w]
            rfl
          refine pure_ (i := 1) (N := (some 76)) (v := ?_) (a' := ?_) #[true, true, false, false, false, false, false, false, false, false, false, false, false] rfl rfl (by kernel_rfl) (fun _ _ _ h => h) (Or.inl ⟨by rfl, ?_⟩) ?_ ?_
          rotate_left
          · intro w'
            go_simp
            with_reducible rfl
          rotate_left
          · simp only [Act.put, List.setIfInBounds_toArray, List.set_cons_zero, List.set_cons_succ, i64_w, i32_w]
            rfl
          refine pure_ (i := 2) (N := (some 77)) (v := ?_) (a' := ?_) #[true, true, true, false, false, false, false, false, false, false, false, false, false] rfl rfl (by kernel_rfl) (fun _ _ _ h => h) (Or.inl ⟨by rfl, ?_⟩) ?_ ?_
          rotate_left
          · intro w'
            go_simp
            with_reducible rfl
          rotate_left
          · simp only [Act.put, List.setIfInBounds_toArray, List.set_cons_zero, List.set_cons_succ, i64_w, i32_w]
            rfl
          refine pure_ (i := 3) (N := (some 78)) (v := ?_) (a' := ?_) #[true, true, true, true, false, false, false, false, false, false, false, false, false] rfl rfl (by kernel_rfl) (fun _ _ _ h => h) (Or.inl ⟨by rfl, ?_⟩) ?_ ?_
          rotate_left
          · intro w'
            go_simp
            with_reducible rfl
          rotate_left
          · simp only [Act.put, List.setIfInBounds_toArray, List.set_cons_zero, List.set_cons_succ, i64_w, i32_w]
            rfl
          refine take_ (i := 4) (N := (some 79)) (v := ?_) (a' := ?_) #[true, true, true, true, true, false, false, false, false, false, false, false, false] rfl rfl (by kernel_rfl) (fun _ _ _ h => h) (Or.inl ⟨by rfl, ?_⟩) hHeld ?_ ?_
          rotate_left
          · intro w' s0
            go_simp
            with_reducible rfl
          rotate_left
          · simp only [Act.put, List.setIfInBounds_toArray, List.set_cons_zero, List.set_cons_succ, i64_w, i32_w]
            rfl
          refine pure_ (i := 5) (N := (some 80)) (v := ?_) (a' := ?_) #[true, true, true, true, true, true, false, false, false, false, false, false, false] rfl rfl (by kernel_rfl) (fun _ _ _ h => h) (Or.inl ⟨by rfl, ?_⟩) ?_ ?_
          rotate_left
          · intro w'
            go_simp
            with_reducible rfl
          rotate_left
          · simp only [Act.put, List.setIfInBounds_toArray, List.set_cons_zero, List.set_cons_succ, i64_w, i32_w]
            rfl
          refine one_ (i := 6) (N := (some 81)) #[true, true, true, true, true, true, true, false, false, false, false, false, false] rfl rfl (by kernel_rfl) (by simp) (fun K_ hK_ => ?_)
          refine value_ (w1 := ?_) (v := ?_) (by rfl) rfl ?_ ?_
          rotate_left 2
          · go_simp
            constructor
            · rfl
            · rfl
          refine hK_ _ _ (HS.out _ (below_alloc (below_drew1 (Below.refl _ _)) _)) (fun _ => ?_)
          refine norm_ (a' := ?_) ?_ ?_
          rotate_left
          · show Act.put _ (some 81) _ = _
            simp only [Act.put, List.setIfInBounds_toArray, List.set_cons_zero, List.set_cons_succ]
            rfl
          refine pure_ (i := 7) (N := (some 82)) (v := ?_) (a' := ?_) #[true, true, true, true, true, true, true, true, false, false, false, false, false] rfl rfl (by kernel_rfl) (fun _ _ _ h => h) (Or.inl ⟨by rfl, ?_⟩) ?_ ?_
          rotate_left
          · intro w'
            go_simp
            with_reducible rfl
          rotate_left
          · simp only [Act.put, List.setIfInBounds_toArray, List.set_cons_zero, List.set_cons_succ, i64_w, i32_w]
            rfl
          refine one_ (i := 8) (N := (some 83)) #[true, true, true, true, true, true, true, true, true, false, false, false, false] rfl rfl (by kernel_rfl) (by simp) (fun K_ hK_ => ?_)
          refine value_ (w1 := ?_) (v := ?_) (by rfl) rfl ?_ ?_
          rotate_left 2
          · go_simp
            constructor
            · rfl
            · rfl
          refine hK_ _ _ (HS.out _ (below_alloc (below_alloc (below_drew1 (Below.refl _ _)) _) _)) (fun _ => ?_)
          refine norm_ (a' := ?_) ?_ ?_
          rotate_left
          · show Act.put _ (some 83) _ = _
            simp only [Act.put, List.setIfInBounds_toArray, List.set_cons_zero, List.set_cons_succ]
            rfl
          refine one_ (i := 9) (N := (some 84)) #[true, true, true, true, true, true, true, true, true, true, false, false, false] rfl rfl (by kernel_rfl) (by simp) (fun K_ hK_ => ?_)
          refine ev_append (by rfl) (.tmp 79) (.tmp 83) 93 rfl rfl rfl HAP.out ?_
          refine hK_ _ _ HW3.out.1 (fun _ => ?_)
          refine norm_ (a' := ?_) ?_ ?_
          rotate_left
          · show Act.put _ (some 84) _ = _
            simp only [Act.put, List.setIfInBounds_toArray, List.set_cons_zero, List.set_cons_succ]
            rfl
          refine pure_ (i := 10) (N := (some 85)) (v := ?_) (a' := ?_) #[true, true, true, true, true, true, true, true, true, true, true, false, false] rfl rfl (by kernel_rfl) (fun _ _ _ h => h) (Or.inl ⟨by rfl, ?_⟩) ?_ ?_
          rotate_left
          · intro w'
            go_simp
            with_reducible rfl
          rotate_left
          · simp only [Act.put, List.setIfInBounds_toArray, List.set_cons_zero, List.set_cons_succ, i64_w, i32_w]
            rfl
          refine pure_ (i := 11) (N := (some 86)) (v := ?_) (a' := ?_) #[true, true, true, true, true, true, true, true, true, true, true, true, false] rfl rfl (by kernel_rfl) (fun _ _ _ h => h) (Or.inl ⟨by rfl, ?_⟩) ?_ ?_
          rotate_left
          · intro w'
            go_simp
            with_reducible rfl
          rotate_left
          · simp only [Act.put, List.setIfInBounds_toArray, List.set_cons_zero, List.set_cons_succ, i64_w, i32_w]
            rfl
          refine last_ (i := 12) (N := none) #[true, true, true, true, true, true, true, true, true, true, true, true, true] rfl rfl (by kernel_rfl) (by simp) (fun K_ hK_ => ?_)
          have s1_ := HW3.out.1
          have s2_ := HW3.out.2
          refine skip_ (w1 := ?_) (by rfl) rfl ?_ ?_
          rotate_left
          · go_simp
            with_reducible rfl
          refine hK_ _ _ ?_
          refine done_ (by kernel_rfl) ?_
          clear z2' s1_ s2_ hmk
          generalize hw4 : w3.setCell ⟨gz, 2, none⟩ (.slice (some ⟨gp, 0, none⟩) (n + 1) capq) = w4
          have f4 : FrS [97] base w3 w4 := by rw [← hw4]; exact (FrS.refl HF3.out.to).set hb HZ3.out (by simp)
          obtain ⟨e, he⟩ : ∃ e : Blk, e = ⟨w.drew.heap.size, 0, c, 0, true⟩ := ⟨_, rfl⟩
          have hp4 := HP3.out.fr f4 (by decide) (by decide)
          rw [← he] at hp4
          have hcc : c ≤ e.cap := by rw [he]; exact Nat.le_refl _
          have HT := Aside0.mk (show Tail w w4 gz base top g s cap gp (n + 1) capq n r err buf L pp st ps pr fe (es ++ [e]) from ⟨by rw [← hw4]; exact sc_mark HZ3.out, hp4, HL.out.1.app, HL.out.2, by simp [HN.out], fun hm => (by
            obtain ⟨e', h1, h2⟩ := Links.lt HL.out.1 _ hm
            have := (List.getElem?_eq_some_iff.1 h1).1
            rw [HN.out] at this
            omega), HB3.out.keep (fun cs hcs => f4.2.2.2 _ _ _ _ hcs (by decide)), hs, (HF3.out.mono (by simp)).trans (f4.mono (by simp)), hb⟩)
          go_wp2
          go_meet
          case rel => exact ⟨gp, capq, e, HT, hcc⟩
        case rest => as_aux_lemma =>
        clear HAP HS HW3 HP3 HF3 HZ3 HB3 hmk
        clear gp capq w3
        obtain ⟨gp, capq, e, HT, hcc⟩ := hcut
        generalize wc = w4 at HT ⊢
        have HCC := Aside0.mk (show (es ++ [e])[n]'(by rw [HN.out]; simp) = e by simp [HN.out])
        have HM := Aside0.mk (show (es ++ [e]).length ≤ n + 1 by simp [HN.out])
        obtain ⟨⟨x0_, x1_, x2, x3, x4, x5_⟩, x6_, xf⟩ := HT.out.hz.cells
        clear x0_ x1_ x5_ x6_
        obtain ⟨_, _, hv_, _, _, hgp, ⟨cur, hcur⟩, hcells⟩ := HT.out.hp.form (by have := HT.out.hi; omega)
        injection hv_ with v1_ v2_ v3_
        injection v1_ with v1_
        injection v1_ with v4_
        subst v4_ v3_
        clear v2_
        have hne : gp ≠ gz := fun e => by rw [e, show (w4).heap[gz]? = _ from HT.out.hz] at hcur; cases hcur
        have hne2 : gz ≠ gp := Ne.symm hne
        have d0 : (w4).cell? ⟨gp, n * 3, none⟩ = some (.slice (some ⟨e.g, 0, none⟩) e.n e.cap) := by have := (hcells n HT.out.hi 0 (by omega)).1; rw [HCC.out] at this; exact this
        have d1 : (w4).cell? ⟨gp, n * 3 + 1, none⟩ = some (.int .i64 (e.next : Int)) := by have := (hcells n HT.out.hi 1 (by omega)).1; rw [HCC.out] at this; exact this
        have d2 : (w4).cell? ⟨gp, n * 3 + 2, none⟩ = some (.bool e.act) := by have := (hcells n HT.out.hi 2 (by omega)).1; rw [HCC.out] at this; exact this
        have e0 := (hcells n HT.out.hi 0 (by omega)).2
        have e1 := (hcells n HT.out.hi 1 (by omega)).2
        have e2 := (hcells n HT.out.hi 2 (by omega)).2
        rw [Nat.add_zero] at e0
        have xf3 := xf 3
        have xf4 := xf 4
        clear xf hcells hcur
        cases L with
        | nil =>
          obtain ⟨q3, hq3⟩ : ∃ q : Int, q = ((lstL [] : Nat) : Int) := ⟨_, rfl⟩
          obtain ⟨q4, hq4⟩ : ∃ q : Int, q = ((fstL [] : Nat) : Int) := ⟨_, rfl⟩
          rw [← hq3] at x3
          rw [← hq4] at x4
          have h30 : q3 = 0 := hq3
          have h40 : q4 = 0 := hq4
          have k1 : (q3 != 0) = false := by simp [h30]
          have k2 : (q4 == 0) = true := by simp [h40]
          have k3 : decide (q3 ≠ 0) = false := by simp [h30]
          clear hq3 hq4 h30 h40
          go_wp2
          go_ret
          exact HT.out.nil HCC.out hcc HM.out
        | cons a0 t0 =>
          obtain ⟨a, ha, hla⟩ := lstL_mem (L := a0 :: t0) (by simp)
          obtain ⟨q3, hq3⟩ : ∃ q : Int, q = ((lstL (a0 :: t0) : Nat) : Int) := ⟨_, rfl⟩
          obtain ⟨q4, hq4⟩ : ∃ q : Int, q = ((fstL (a0 :: t0) : Nat) : Int) := ⟨_, rfl⟩
          rw [← hq3] at x3
          rw [← hq4] at x4
          have h30 : q3 = (a : Int) + 1 := by rw [hq3, hla]; rfl
          have h40 : q4 = (a0 : Int) + 1 := hq4
          obtain ⟨e_, he_, _⟩ := Links.lt HT.out.hl a ha
          have hal := (List.getElem?_eq_some_iff.1 he_).1
          have halm : a < n + 1 := by have := hal; have := HN.out; simp at *; omega
          have k1 : (q3 != 0) = true := by simp [h30]; omega
          have k2 : (q4 == 0) = false := by simp [h40]; omega
          have k3 : decide (q3 ≠ 0) = true := by simp [h30]; omega
          have k4 : wrap64 (q3 - 1) = (a : Int) := by have := HM.out; unfold wrap64; omega
          clear hq3 hq4 h30 h40 he_
          have HLA := Aside0.mk hla
          clear hla
          obtain ⟨p1, p2, p3, p4, _, cur3, hcur3⟩ := HT.out.put
          obtain ⟨_, _, hv_, _, _, _, _, hcells3⟩ := p1.form (by rw [List.length_set]; have := HT.out.hi; omega)
          injection hv_ with v1_ v2_ v3_
          injection v1_ with v1_
          injection v1_ with v4_
          subst v4_ v3_
          clear v2_
          obtain ⟨⟨y0_, y1_, y2, y3o, y4o, y5_⟩, y6_, yf⟩ := p2.cells
          clear y0_ y1_ y5_ y6_
          have y3 : (W3 w4 gp g s cap n).cell? ⟨gz, 3, none⟩ = some (.int .i64 q3) := by rw [y3o]; exact (x3.symm.trans (HT.out.hz.cells.1.2.2.2.1)).symm
          have y4 : (W3 w4 gp g s cap n).cell? ⟨gz, 4, none⟩ = some (.int .i64 q4) := by rw [y4o]; exact (x4.symm.trans (HT.out.hz.cells.1.2.2.2.2.1)).symm
          clear y3o y4o
          have yf3 := yf 3
          have u1 := (hcells3 a (by rw [List.length_set]; exact hal) 1 (by omega)).1
          have uf := (hcells3 a (by rw [List.length_set]; exact hal) 1 (by omega)).2
          obtain ⟨v1, hv1⟩ : ∃ v, (W3 w4 gp g s cap n).cell? ⟨gp, a * 3 + 1, none⟩ = some v := ⟨_, u1.trans rfl⟩
          have HPP := Aside0.mk (And.intro p1 (And.intro p2 p3))
          clear p1 p2 p3 p4 hcells3 hcur3 yf u1
          go_upto_region 16 with fail
          rw [show ((w4.setCell ⟨gp, n * 3, none⟩ (.slice (some ⟨g, 0, none⟩) s cap)).setCell ⟨gp, n * 3 + 1, none⟩ (.int .i64 0)).setCell ⟨gp, n * 3 + 2, none⟩ (.bool true) = W3 w4 gp g s cap n from rfl]
          clear x2 x3 x4 d0 d2 d1 e0 e1 e2
          generalize hW3 : W3 w4 gp g s cap n = w3 at *
          go_wp2
          go_region
          all_goals go_wp2
          all_goals go_ret
          all_goals subst hW3
          all_goals exact HT.out.cons HLA.out HCC.out hcc HM.out
end Go.Proofs.YtgpmmmlmaaiobaaDoor.Own
