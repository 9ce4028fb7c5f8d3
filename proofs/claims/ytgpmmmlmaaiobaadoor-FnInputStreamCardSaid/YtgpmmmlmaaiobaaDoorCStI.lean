/- The small functions of a reader of a stream. -/
import Derived.Test.YtgpmmmlmaaiobaaDoorCStH
namespace Go.Proofs.YtgpmmmlmaaiobaaDoor.Own
open Go.RowKit Go.Proofs.YtgpmmmlmaaiobaaDoorW.PrintWords Go.Proofs.YtgpmmmlmaaiobaaDoorW.PrintLast
set_option linter.unusedVariables false
set_option linter.unusedSimpArgs false
section
variable {w w' : World} {base top gz gs pc : Nat} {u : TypeId} {ev : Value} {dat : List Int} {M p s r : Nat}
theorem StAt.mono {M' r' : Nat} (h : StAt w base top gz gs pc u ev dat M p s r) (hm : M ≤ M') (hr : r' ≤ r) : StAt w base top gz gs pc u ev dat M' p s r' := by
  obtain ⟨off, n, cap, g, s0, p0, full, L, err, pv, pp, pr, fe, h1, h2, h3, h4⟩ := h
  exact ⟨off, n, cap, g, s0, p0, full, L, err, pv, pp, pr, fe, h1, h2, h3.mono hm, h4.1, h4.2.1, h4.2.2.1, h4.2.2.2.1, h4.2.2.2.2.1, h4.2.2.2.2.2.1, h4.2.2.2.2.2.2.1, h4.2.2.2.2.2.2.2.1, Nat.le_trans hr h4.2.2.2.2.2.2.2.2⟩
theorem StAt.fr {S : List TypeId} (h : StAt w base top gz gs pc u ev dat M p s r) (hf : FrS S base w w') (h0 : 97 ∉ S) (h1 : 101 ∉ S) (h2 : 5 ∉ S) (h3 : 79 ∉ S) : StAt w' base top gz gs pc u ev dat M p s r := by
  obtain ⟨off, n, cap, g, s0, p0, full, L, err, pv, pp, pr, fe, k1, k2, k3, k4, k5⟩ := h
  exact ⟨off, n, cap, g, s0, p0, full, L, err, pv, pp, pr, fe, k1.fr hf h0, k2, k3.fr hf h1 h2 h3, k4.fr hf h2, k5⟩
theorem StAt.ord (h : StAt w base top gz gs pc u ev dat M p s r) : s ≤ p ∧ p ≤ dat.length ∧ base ≤ w.heap.size ∧ base ≤ gz := by
  obtain ⟨off, n, cap, g, s0, p0, full, L, err, pv, pp, pr, fe, k1, k2, k3, k4, k5, k6, k7, k8, k9, k10, k11⟩ := h
  have := k3.le
  exact ⟨by omega, by omega, Nat.le_trans k3.lo k3.hi, k2⟩
end
set_option maxRecDepth 20000 in
set_option maxHeartbeats 4000000 in
theorem st_peek (base top gz gs pc : Nat) (u : TypeId) (ev : Value) (dat : List Int) (M p s r : Nat) (d : Int) (q : Nat) (w : World) (h : StAt w base top gz gs pc u ev dat M p s r) (hq : d + p = q) (hq1 : s ≤ q) (hq2 : q ≤ dat.length) (hdl : dat.length ≤ 300) (hM : M ≤ 100000) (hpc : 1 ≤ pc) (hpc2 : pc ≤ 300)
    (hEb : 0 < base) (hE : w.cell? ⟨0, 0, none⟩ = some (.iface u ev)) :
    Calls Tryd.prog 55 #[.pointer (some ⟨gz, 0, none⟩), .int .i64 d] w (ReadPost base top gz gs pc u ev dat M p s q w) := by
  obtain ⟨off, n, cap, g, s0, p0, full, L, err, pv, pp, pr, fe, hz, hb, hB, hF, hn, ht, hs, hp, hs0, hp0, herr, hr⟩ := id h
  have y6 := hz.cells.2.1.1
  have y8 := hz.cells.2.1.2.2.1
  have H := Aside0.mk h
  obtain ⟨q0, hq0⟩ : ∃ q0 : Nat, q0 = q - off := ⟨_, rfl⟩
  have hbw : base ≤ w.heap.size := Nat.le_trans hB.lo hB.hi
  have hle := hB.le
  have e1 : wrap64 (d + (p0 : Int)) = (q0 : Int) := by unfold wrap64; omega
  have e1b : d + (p0 : Int) = (q0 : Int) := by omega
  have hqb : q0 ≤ 300 := by omega
  have hnb : n ≤ 300 := by omega
  by_cases hlt : q0 < n
  · have hby : w.cell? ⟨g, q0, none⟩ = some (.int .u8 (atL dat q)) := by
      rw [cell_of_row _ g q0 _ _ (0, 0) hF.2.2.2]
      have h1 : q0 < full.length := by have := hF.2.1; omega
      have h2 : q < dat.length := by omega
      have h3 := congrArg (fun l => l[q0]?) ht
      simp only [List.getElem?_take, hlt, if_pos, List.getElem?_drop] at h3
      rw [show off + q0 = q by omega, List.getElem?_eq_getElem h1, List.getElem?_eq_getElem h2] at h3
      have h4 := Option.some.inj h3
      unfold atL
      rw [List.getD_eq_getElem?_getD, List.getElem?_append_left h2, List.getElem?_eq_getElem h2]
      simp [u8i, h1, h4]
    obtain ⟨v, hv⟩ : ∃ v, v = atL dat q := ⟨_, rfl⟩
    rw [← hv] at hby
    have HV := Aside0.mk hv
    have HX := Aside0.mk (And.intro hz (And.intro hb (And.intro hB (And.intro hF (And.intro ht herr)))))
    have HA := Aside0.mk (And.intro hs (And.intro hp (And.intro hq (And.intro hq0 (And.intro hr (And.intro hq1 hq2))))))
    clear hv h hz hB hF ht herr hs hp hq hq0 hr hq1 hq2 hle
    go_enter Tryd.func55, Tryd.ntmps55
    go_wp2
    go_ret
    obtain ⟨hs, hp, hq, hq0, hr, hq1, hq2⟩ := HA.out
    refine ⟨by rw [← HV.out]; rfl, ⟨off, n, cap, g, s0, p0, full, L, err, pv, pp, pr, fe, HX.out.1, HX.out.2.1, HX.out.2.2.1.mono (Nat.le_succ _), HX.out.2.2.2.1, hn, HX.out.2.2.2.2.1, hs, hp, hs0, hp0, HX.out.2.2.2.2.2, by omega⟩, FrS.refl hbw⟩
  · have hrd := st_read base top gz gs pc u ev dat M off n cap g s0 p0 q0 full L err pv pp pr fe w hz hb hB hF hn ht hs0 hp0 herr (by omega) (by omega) hdl hM hpc hpc2 hEb hE
    rw [show off + p0 = p by omega, show off + s0 = s by omega, show off + q0 = q by omega] at hrd
    have HR := Aside0.mk hrd
    clear hrd h hz hB hF ht herr hE hs hp hq hq0 hr hq1 hq2 hle
    go_enter Tryd.func55, Tryd.ntmps55
    go_wp2_with fail
    refine HR.out.mono ?_
    rintro e w1 ⟨rfl, h1, h2⟩
    have H1 := Aside0.mk h1
    have H2 := Aside0.mk h2
    clear h1 h2
    go_wp2
    go_ret
    exact ⟨rfl, H1.out, H2.out⟩
def StPost (base top gz gs pc : Nat) (u : TypeId) (ev : Value) (dat : List Int) (M p s : Nat) (v : Value) (w : World) (e : Ending) (w' : World) : Prop :=
  e = .returned v ∧ StAt w' base top gz gs pc u ev dat M p s 0 ∧ FrS stS base w w'
set_option maxHeartbeats 1000000 in
theorem st_move (base top gz gs pc : Nat) (u : TypeId) (ev : Value) (dat : List Int) (M p s r : Nat) (d : Int) (w : World) (h : StAt w base top gz gs pc u ev dat M p s r) (h0 : (s : Int) ≤ p + d) (h1 : (p : Int) + d ≤ r ∨ d ≤ 0) (hdl : dat.length ≤ 300) (hd : -1000 ≤ d) :
    Calls Tryd.prog 56 #[.pointer (some ⟨gz, 0, none⟩), .int .i64 d] w (StPost base top gz gs pc u ev dat M ((p : Int) + d).toNat s (.tuple #[]) w) := by
  obtain ⟨off, n, cap, g, s0, p0, full, L, err, pv, pp, pr, fe, hz, hb, hB, hF, hn, ht, hs, hp, hs0, hp0, herr, hr⟩ := h
  have y8 := hz.cells.2.1.2.2.1
  have yf8 := hz.cells.2.2 8
  have hbw : base ≤ w.heap.size := Nat.le_trans hB.lo hB.hi
  have hle := hB.le
  obtain ⟨p1, hp1⟩ : ∃ p1 : Nat, p1 = ((p0 : Int) + d).toNat := ⟨_, rfl⟩
  have e1 : wrap64 ((p0 : Int) + d) = (p1 : Int) := by unfold wrap64; omega
  have e1b : (p0 : Int) + d = (p1 : Int) := by omega
  have hpb : p1 ≤ 300 := by omega
  have HX := Aside0.mk (And.intro hz (And.intro hB (And.intro hF (And.intro ht herr))))
  have HA := Aside0.mk (And.intro hs (And.intro hp (And.intro hp1 (And.intro h0 (And.intro h1 (And.intro hr hle))))))
  clear hz hB hF ht herr hs hp hp1 h0 h1 hr hle
  go_enter Tryd.func56, Tryd.ntmps56
  go_wp2
  go_end0
  obtain ⟨hs, hp, hp1, h0, h1, hr, hle⟩ := HA.out
  have f1 : FrS [97] base w (w.setCell ⟨gz, 8, none⟩ (.int .i64 (p1 : Int))) := (FrS.refl hbw).set hb HX.out.1 (by simp)
  exact ⟨rfl, ⟨off, n, cap, g, s0, p1, full, L, err, pv, pp, pr, fe, sc_mark HX.out.1, hb, HX.out.2.1.fr f1 (by decide) (by decide) (by decide), HX.out.2.2.1.fr f1 (by decide), hn, HX.out.2.2.2.1, hs, by omega, by omega, by omega, HX.out.2.2.2.2, Nat.zero_le _⟩, f1.mono (by decide)⟩
theorem st_rewind (base top gz gs pc : Nat) (u : TypeId) (ev : Value) (dat : List Int) (M p s r : Nat) (d : Int) (w : World) (h : StAt w base top gz gs pc u ev dat M p s r) (h0 : 0 ≤ d) (h1 : (s : Int) + d ≤ p) (hdl : dat.length ≤ 300) :
    Calls Tryd.prog 57 #[.pointer (some ⟨gz, 0, none⟩), .int .i64 d] w (StPost base top gz gs pc u ev dat M ((s : Int) + d).toNat s (.tuple #[]) w) := by
  obtain ⟨off, n, cap, g, s0, p0, full, L, err, pv, pp, pr, fe, hz, hb, hB, hF, hn, ht, hs, hp, hs0, hp0, herr, hr⟩ := h
  have y7 := hz.cells.2.1.2.1
  have y8 := hz.cells.2.1.2.2.1
  have yf8 := hz.cells.2.2 8
  have hbw : base ≤ w.heap.size := Nat.le_trans hB.lo hB.hi
  have hle := hB.le
  obtain ⟨p1, hp1⟩ : ∃ p1 : Nat, p1 = ((s0 : Int) + d).toNat := ⟨_, rfl⟩
  have e1 : wrap64 ((s0 : Int) + d) = (p1 : Int) := by unfold wrap64; omega
  have e1b : (s0 : Int) + d = (p1 : Int) := by omega
  have hpb : p1 ≤ 300 := by omega
  have HX := Aside0.mk (And.intro hz (And.intro hB (And.intro hF (And.intro ht herr))))
  have HA := Aside0.mk (And.intro hs (And.intro hp (And.intro hp1 (And.intro h0 (And.intro h1 (And.intro hr hle))))))
  clear hz hB hF ht herr hs hp hp1 h0 h1 hr hle
  go_enter Tryd.func57, Tryd.ntmps57
  go_wp2
  go_end0
  obtain ⟨hs, hp, hp1, h0, h1, hr, hle⟩ := HA.out
  have f1 : FrS [97] base w (w.setCell ⟨gz, 8, none⟩ (.int .i64 (p1 : Int))) := (FrS.refl hbw).set hb HX.out.1 (by simp)
  exact ⟨rfl, ⟨off, n, cap, g, s0, p1, full, L, err, pv, pp, pr, fe, sc_mark HX.out.1, hb, HX.out.2.1.fr f1 (by decide) (by decide) (by decide), HX.out.2.2.1.fr f1 (by decide), hn, HX.out.2.2.2.1, hs, by omega, by omega, by omega, HX.out.2.2.2.2, Nat.zero_le _⟩, f1.mono (by decide)⟩
theorem st_skip (base top gz gs pc : Nat) (u : TypeId) (ev : Value) (dat : List Int) (M p s r : Nat) (w : World) (h : StAt w base top gz gs pc u ev dat M p s r) :
    Calls Tryd.prog 61 #[.pointer (some ⟨gz, 0, none⟩)] w (StPost base top gz gs pc u ev dat M p p (.tuple #[]) w) := by
  obtain ⟨off, n, cap, g, s0, p0, full, L, err, pv, pp, pr, fe, hz, hb, hB, hF, hn, ht, hs, hp, hs0, hp0, herr, hr⟩ := h
  have y7 := hz.cells.2.1.2.1
  have y8 := hz.cells.2.1.2.2.1
  have yf7 := hz.cells.2.2 7
  have hbw : base ≤ w.heap.size := Nat.le_trans hB.lo hB.hi
  have HX := Aside0.mk (And.intro hz (And.intro hB (And.intro hF (And.intro ht herr))))
  clear hz hB hF ht herr
  go_enter Tryd.func61, Tryd.ntmps61
  go_wp2
  go_end0
  have f1 : FrS [97] base w (w.setCell ⟨gz, 7, none⟩ (.int .i64 (p0 : Int))) := (FrS.refl hbw).set hb HX.out.1 (by simp)
  exact ⟨rfl, ⟨off, n, cap, g, p0, p0, full, L, err, pv, pp, pr, fe, sc_mark HX.out.1, hb, HX.out.2.1.fr f1 (by decide) (by decide) (by decide), HX.out.2.2.1.fr f1 (by decide), hn, HX.out.2.2.2.1, hp, hp, Nat.le_refl _, hp0, HX.out.2.2.2.2, Nat.zero_le _⟩, f1.mono (by decide)⟩
theorem st_free (base top gz gs pc : Nat) (u : TypeId) (ev : Value) (dat : List Int) (M p s r : Nat) (d : Int) (w : World) (h : StAt w base top gz gs pc u ev dat M p s r) :
    Calls Tryd.prog 59 #[.pointer (some ⟨gz, 0, none⟩), .int .i64 d] w (StPost base top gz gs pc u ev dat M p s (.tuple #[]) w) := by
  obtain ⟨off, n, cap, g, s0, p0, full, L, err, pv, pp, pr, fe, hz, hb, hB, hF, hn, ht, hs, hp, hs0, hp0, herr, hr⟩ := h
  have y10 := hz.cells.2.1.2.2.2.2
  have yf10 := hz.cells.2.2 10
  have hbw : base ≤ w.heap.size := Nat.le_trans hB.lo hB.hi
  have HX := Aside0.mk (And.intro hz (And.intro hB (And.intro hF (And.intro ht herr))))
  clear hz hB hF ht herr
  go_enter Tryd.func59, Tryd.ntmps59
  go_wp2
  go_end0
  have f1 : FrS [97] base w (w.setCell ⟨gz, 10, none⟩ (.int .i64 (wrap64 (fe + d)))) := (FrS.refl hbw).set hb HX.out.1 (by simp)
  exact ⟨rfl, ⟨off, n, cap, g, s0, p0, full, L, err, pv, pp, pr, _, sc_mark HX.out.1, hb, HX.out.2.1.fr f1 (by decide) (by decide) (by decide), HX.out.2.2.1.fr f1 (by decide), hn, HX.out.2.2.2.1, hs, hp, hs0, hp0, HX.out.2.2.2.2, Nat.zero_le _⟩, f1.mono (by decide)⟩
theorem st_shiftlen (base top gz gs pc : Nat) (u : TypeId) (ev : Value) (dat : List Int) (M p s r : Nat) (w : World) (h : StAt w base top gz gs pc u ev dat M p s r) :
    Calls Tryd.prog 60 #[.pointer (some ⟨gz, 0, none⟩)] w fun e w' => ∃ x : Int, StPost base top gz gs pc u ev dat M p s (.int .i64 x) w e w' := by
  obtain ⟨off, n, cap, g, s0, p0, full, L, err, pv, pp, pr, fe, hz, hb, hB, hF, hn, ht, hs, hp, hs0, hp0, herr, hr⟩ := h
  have y7 := hz.cells.2.1.2.1
  have y9 := hz.cells.2.1.2.2.2.1
  have yf9 := hz.cells.2.2 9
  have hbw : base ≤ w.heap.size := Nat.le_trans hB.lo hB.hi
  have HX := Aside0.mk (And.intro hz (And.intro hB (And.intro hF (And.intro ht herr))))
  clear hz hB hF ht herr
  go_enter Tryd.func60, Tryd.ntmps60
  go_wp2
  go_quiet (fail)
  all_goals go_wp2
  all_goals go_ret
  have f1 : FrS [97] base w ((w.drewN nq).setCell ⟨gz, 9, none⟩ (.int .i64 (s0 : Int))) := ((FrS.refl hbw).drewN nq).set hb (show (w.drewN nq).heap[gz]? = _ from HX.out.1) (by simp)
  exact ⟨_, rfl, ⟨off, n, cap, g, s0, p0, full, L, err, pv, pp, s0, fe, sc_mark (show (w.drewN nq).heap[gz]? = _ from HX.out.1), hb, HX.out.2.1.fr f1 (by decide) (by decide) (by decide), HX.out.2.2.1.fr f1 (by decide), hn, HX.out.2.2.2.1, hs, hp, hs0, hp0, HX.out.2.2.2.2, Nat.zero_le _⟩, f1.mono (by decide)⟩
theorem st_pos (base top gz gs pc : Nat) (u : TypeId) (ev : Value) (dat : List Int) (M p s r : Nat) (w : World) (h : StAt w base top gz gs pc u ev dat M p s r) (hdl : dat.length ≤ 300) :
    Calls Tryd.prog 63 #[.pointer (some ⟨gz, 0, none⟩)] w (StPost base top gz gs pc u ev dat M p s (.int .i64 ((p : Int) - s)) w) := by
  obtain ⟨off, n, cap, g, s0, p0, full, L, err, pv, pp, pr, fe, hz, hb, hB, hF, hn, ht, hs, hp, hs0, hp0, herr, hr⟩ := id h
  have y7 := hz.cells.2.1.2.1
  have y8 := hz.cells.2.1.2.2.1
  have hle := hB.le
  obtain ⟨x, hx⟩ : ∃ x : Int, x = (p : Int) - s := ⟨_, rfl⟩
  have e1 : wrap64 ((p0 : Int) - (s0 : Int)) = x := by unfold wrap64; omega
  have e1b : (p0 : Int) - (s0 : Int) = x := by omega
  have e1c : ((p0 - s0 : Nat) : Int) = x := by omega
  have hxl : -1000 < x := by omega
  have hxu : x < 1000 := by omega
  have hbw : base ≤ w.heap.size := Nat.le_trans hB.lo hB.hi
  have H := Aside0.mk h
  have HX := Aside0.mk hx
  clear hz hB hF ht herr h hx hs hp hle hr
  go_enter Tryd.func63, Tryd.ntmps63
  go_wp2
  go_quiet (fail)
  all_goals go_wp2
  all_goals go_ret
  have f1 : FrS [] base w (w.drewN nq) := (FrS.refl hbw).drewN nq
  exact ⟨by rw [← HX.out]; rfl, (H.out.fr f1 (by simp) (by simp) (by simp) (by simp)).mono (Nat.le_refl _) (Nat.zero_le _), f1.mono (by simp)⟩
end Go.Proofs.YtgpmmmlmaaiobaaDoor.Own
