/- The selections and the characters that a reader of a stream tells. -/
import Derived.Test.YtgpmmmlmaaiobaaDoorCStI
import Derived.Stop.Asserts
namespace Go.Proofs.YtgpmmmlmaaiobaaDoor.Own
open Go.RowKit Go.Proofs.YtgpmmmlmaaiobaaDoorW.PrintWords Go.Proofs.YtgpmmmlmaaiobaaDoorW.PrintLast
set_option linter.unusedVariables false
set_option linter.unusedSimpArgs false
theorem reads_buf {w : World} {top g cap n off s0 p0 : Nat} {full dat : List Int} {A : Option Addr} (hF : FullAt w top g cap full) (ht : full.take n = (dat.drop off).take n) (h1 : s0 ≤ p0) (h2 : p0 ≤ n) (h3 : n ≤ cap) (h4 : off + n ≤ dat.length) (ha : s0 < p0 → A = some ⟨g, s0, none⟩) :
    ReadsInt w .u8 A (p0 - s0) ((dat.drop (off + s0)).take (p0 - s0)) := by
  have hc := hF.2.2.1
  refine ⟨by rw [List.length_take, List.length_drop]; omega, by omega, fun h0 => ⟨_, ha (by omega), fun j hj => ?_⟩⟩
  rw [add_at, cell_of_row _ g (s0 + j) _ _ (0, 0) hF.2.2.2]
  have k1 : s0 + j < full.length := by have := hF.2.1; omega
  have k2 : off + s0 + j < dat.length := by omega
  have k3 := congrArg (fun l => l[s0 + j]?) ht
  simp only [List.getElem?_take, show s0 + j < n by omega, if_pos, List.getElem?_drop] at k3
  rw [show off + (s0 + j) = off + s0 + j by omega, List.getElem?_eq_getElem k1, List.getElem?_eq_getElem k2] at k3
  have k4 := Option.some.inj k3
  rw [List.getD_eq_getElem?_getD, List.getElem?_take, if_pos hj, List.getElem?_drop, List.getElem?_eq_getElem k2]
  simp [u8i, k1, k4]
/-- A selection that is told: its bytes can be read. -/
def SelPost (base top gz gs pc : Nat) (u : TypeId) (ev : Value) (dat : List Int) (M p s p' s' : Nat) (w : World) (e : Ending) (w' : World) : Prop :=
  ∃ (A : Option Addr) (c : Nat), e = .returned (.slice A (p - s) c) ∧ ReadsInt w' .u8 A (p - s) ((dat.drop s).take (p - s)) ∧ StAt w' base top gz gs pc u ev dat M p' s' 0 ∧ FrS stS base w w'
set_option maxHeartbeats 2000000 in
theorem st_lexeme (base top gz gs pc : Nat) (u : TypeId) (ev : Value) (dat : List Int) (M p s r : Nat) (w : World) (h : StAt w base top gz gs pc u ev dat M p s r) (hdl : dat.length ≤ 300) :
    Calls Tryd.prog 62 #[.pointer (some ⟨gz, 0, none⟩)] w (SelPost base top gz gs pc u ev dat M p s p s w) := by
  obtain ⟨off, n, cap, g, s0, p0, full, L, err, pv, pp, pr, fe, hz, hb, hB, hF, hn, ht, hs, hp, hs0, hp0, herr, hr⟩ := id h
  have y6 := hz.cells.2.1.1
  have y7 := hz.cells.2.1.2.1
  have y8 := hz.cells.2.1.2.2.1
  have hle := hB.le
  have hpc : p0 ≤ cap := by omega
  have hsc : s0 ≤ cap := by omega
  have hcb : cap ≤ 2000 := hF.2.2.1
  have hps : p - s = p0 - s0 := by omega
  have hbw : base ≤ w.heap.size := Nat.le_trans hB.lo hB.hi
  have HRD := Aside0.mk (fun (A : Option Addr) (ha : s0 < p0 → A = some ⟨g, s0, none⟩) => reads_buf (A := A) hF ht hs0 hp0 hn hle ha)
  have H := Aside0.mk h
  have HS := Aside0.mk (And.intro hs hps)
  clear hz hB hF ht herr h hs hp hle hps hr
  by_cases hcs : cap = s0
  · go_enter Tryd.func62, Tryd.ntmps62
    go_wp2
    go_quiet (fail)
    all_goals go_wp2
    all_goals go_ret
    have f1 : FrS [] base w (w.drewN nq) := (FrS.refl hbw).drewN nq
    refine ⟨_, _, by rw [HS.out.2]; rfl, ?_, (H.out.fr f1 (by simp) (by simp) (by simp) (by simp)).mono (Nat.le_refl _) (Nat.zero_le _), f1.mono (by simp)⟩
    rw [HS.out.2, HS.out.1]
    exact HRD.out _ (fun h => by omega)
  · have hcs2 : ¬ s0 = cap := fun e => hcs e.symm
    go_enter Tryd.func62, Tryd.ntmps62
    go_wp2
    go_quiet (fail)
    all_goals go_wp2
    all_goals go_ret
    have f1 : FrS [] base w (w.drewN nq) := (FrS.refl hbw).drewN nq
    refine ⟨_, _, by rw [HS.out.2]; rfl, ?_, (H.out.fr f1 (by simp) (by simp) (by simp) (by simp)).mono (Nat.le_refl _) (Nat.zero_le _), f1.mono (by simp)⟩
    rw [HS.out.2, HS.out.1]
    exact HRD.out _ (fun h => rfl)
set_option maxHeartbeats 4000000 in
theorem st_shift (base top gz gs pc : Nat) (u : TypeId) (ev : Value) (dat : List Int) (M p s r : Nat) (w : World) (h : StAt w base top gz gs pc u ev dat M p s r) (hdl : dat.length ≤ 300) :
    Calls Tryd.prog 58 #[.pointer (some ⟨gz, 0, none⟩)] w (SelPost base top gz gs pc u ev dat M p s p p w) := by
  obtain ⟨off, n, cap, g, s0, p0, full, L, err, pv, pp, pr, fe, hz, hb, hB, hF, hn, ht, hs, hp, hs0, hp0, herr, hr⟩ := id h
  have y6 := hz.cells.2.1.1
  have y7 := hz.cells.2.1.2.1
  have y8 := hz.cells.2.1.2.2.1
  have yf7 := hz.cells.2.2 7
  have hle := hB.le
  have hpc : p0 ≤ cap := by omega
  have hsc : s0 ≤ cap := by omega
  have hcb : cap ≤ 2000 := hF.2.2.1
  have hps : p - s = p0 - s0 := by omega
  have hbw : base ≤ w.heap.size := Nat.le_trans hB.lo hB.hi
  have hnp : ¬ n < p0 := by omega
  have HX := Aside0.mk (And.intro hz (And.intro hB (And.intro hF (And.intro ht herr))))
  have HS := Aside0.mk (And.intro hs (And.intro hps hp))
  clear hz hB hF ht herr h hs hp hle hps hr
  by_cases hcs : cap = s0
  · go_enter Tryd.func58, Tryd.ntmps58
    go_wp2
    go_quiet (fail)
    all_goals go_wp2
    all_goals go_quiet (fail)
    all_goals go_wp2
    all_goals go_ret
    generalize hW : World.setCell _ _ _ = W
    have f0 : FrS [97] base w W := by rw [← hW]; first | exact (((FrS.refl hbw).drewN _).drewN _).set hb (show w.heap[gz]? = _ from HX.out.1) (by simp) | exact ((FrS.refl hbw).drewN _).set hb (show w.heap[gz]? = _ from HX.out.1) (by simp)
    have hzW : ZAt W gz (rV gs) err pv (lstL L) (fstL L) pp (.slice (some ⟨g, 0, none⟩) n cap) (p0 : Int) (p0 : Int) pr fe := by rw [← hW]; exact sc_mark (show w.heap[gz]? = _ from HX.out.1)
    obtain ⟨hs, hps, hp⟩ := HS.out
    refine ⟨_, _, by rw [hps]; rfl, ?_, ⟨off, n, cap, g, p0, p0, full, L, err, pv, pp, pr, fe, hzW, hb, HX.out.2.1.fr f0 (by decide) (by decide) (by decide), HX.out.2.2.1.fr f0 (by decide), hn, HX.out.2.2.2.1, hp, hp, Nat.le_refl _, hp0, HX.out.2.2.2.2, Nat.zero_le _⟩, f0.mono (by decide)⟩
    rw [hps, hs]
    exact reads_buf (HX.out.2.2.1.fr f0 (by decide)) HX.out.2.2.2.1 hs0 hp0 hn HX.out.2.1.le (fun h => by omega)
  · have hcs2 : ¬ s0 = cap := fun e => hcs e.symm
    go_enter Tryd.func58, Tryd.ntmps58
    go_wp2
    go_quiet (fail)
    all_goals go_wp2
    all_goals go_quiet (fail)
    all_goals go_wp2
    all_goals go_ret
    generalize hW : World.setCell _ _ _ = W
    have f0 : FrS [97] base w W := by rw [← hW]; first | exact (((FrS.refl hbw).drewN _).drewN _).set hb (show w.heap[gz]? = _ from HX.out.1) (by simp) | exact ((FrS.refl hbw).drewN _).set hb (show w.heap[gz]? = _ from HX.out.1) (by simp)
    have hzW : ZAt W gz (rV gs) err pv (lstL L) (fstL L) pp (.slice (some ⟨g, 0, none⟩) n cap) (p0 : Int) (p0 : Int) pr fe := by rw [← hW]; exact sc_mark (show w.heap[gz]? = _ from HX.out.1)
    obtain ⟨hs, hps, hp⟩ := HS.out
    refine ⟨_, _, by rw [hps]; rfl, ?_, ⟨off, n, cap, g, p0, p0, full, L, err, pv, pp, pr, fe, hzW, hb, HX.out.2.1.fr f0 (by decide) (by decide) (by decide), HX.out.2.2.1.fr f0 (by decide), hn, HX.out.2.2.2.1, hp, hp, Nat.le_refl _, hp0, HX.out.2.2.2.2, Nat.zero_le _⟩, f0.mono (by decide)⟩
    rw [hps, hs]
    exact reads_buf (HX.out.2.2.1.fr f0 (by decide)) HX.out.2.2.2.1 hs0 hp0 hn HX.out.2.1.le (fun h => rfl)
/-- The byte at a place ahead, by the name c. -/
def PeekPost (base top gz gs pc : Nat) (u : TypeId) (ev : Value) (dat : List Int) (M p s : Nat) (c : Int) (w : World) (e : Ending) (w' : World) : Prop :=
  e = .returned (.int .u8 c) ∧ Aside0 (StAt w' base top gz gs pc u ev dat (M + 1) p s 0) ∧ Aside0 (FrS stS base w w') ∧ Aside0 (w'.cell? ⟨0, 0, none⟩ = some (.iface u ev))
theorem st_peek' {base top gz gs pc : Nat} {u : TypeId} {ev : Value} {dat : List Int} {M p s r : Nat} {d : Int} {q : Nat} {c : Int} {w : World} (h : Aside0 (StAt w base top gz gs pc u ev dat M p s r)) (hq : d + p = q) (hq1 : s ≤ q) (hq2 : q ≤ dat.length) (hK : Aside0 (dat.length ≤ 300 ∧ 1 ≤ pc ∧ pc ≤ 300 ∧ 0 < base)) (hM : M ≤ 100000) (hE : Aside0 (w.cell? ⟨0, 0, none⟩ = some (.iface u ev))) (hc : atL dat q = c) :
    Calls Tryd.prog 55 #[.pointer (some ⟨gz, 0, none⟩), .int .i64 d] w (PeekPost base top gz gs pc u ev dat M p s c w) := by
  refine (st_peek base top gz gs pc u ev dat M p s r d q w h.out hq hq1 hq2 hK.out.1 hM hK.out.2.1 hK.out.2.2.1 hK.out.2.2.2 hE.out).mono ?_
  rintro e w' ⟨rfl, h1, h2⟩
  exact ⟨by rw [hc], ⟨h1.mono (Nat.le_refl _) (Nat.zero_le _)⟩, ⟨h2⟩, ⟨(h2.1.cell hK.out.2.2.2).trans hE.out⟩⟩
def RunePost (base top gz gs pc : Nat) (u : TypeId) (ev : Value) (dat : List Int) (M p s : Nat) (r : Int × Int) (w : World) (e : Ending) (w' : World) : Prop :=
  e = .returned (.tuple #[.int .i32 r.1, .int .i64 r.2]) ∧ StAt w' base top gz gs pc u ev dat (M + 4) p s 0 ∧ FrS stS base w w'
set_option maxHeartbeats 4000000 in
theorem st_rune1 (base top gz gs pc : Nat) (u : TypeId) (ev : Value) (dat : List Int) (M p s r : Nat) (d : Int) (q : Nat) (c : Int) (w : World) (h : Aside0 (StAt w base top gz gs pc u ev dat M p s r)) (hq : Aside0 (d + p = q ∧ s ≤ q ∧ q + 0 ≤ dat.length)) (hK : Aside0 (dat.length ≤ 300 ∧ 1 ≤ pc ∧ pc ≤ 300 ∧ 0 < base)) (hM : M ≤ 99990) (hE : Aside0 (w.cell? ⟨0, 0, none⟩ = some (.iface u ev))) (hd0 : -1000 < d) (hd1 : d < 1000) (e0 : atL dat (q + 0) = c) (l0 : 0 ≤ c) (u0 : c < 256) (hi : c < 192) :
    Calls Tryd.prog 64 #[.pointer (some ⟨gz, 0, none⟩), .int .i64 d] w (RunePost base top gz gs pc u ev dat M p s (c, 1) w) := by
  have hd192 : decide (c < 192) = true := decide_eq_true (by omega)
  have hn192 : c < 192 := by omega
  have HEQ := Aside0.mk (And.intro e0 trivial)
  clear e0
  go_enter Tryd.func64, Tryd.ntmps64
  go_wp2_with fail
  refine (st_peek' (q := q + 0) h (by have := hq.out.1; omega) (by have := hq.out.2.1; omega) (by have := hq.out.2.2; omega) hK (by omega) hE HEQ.out.1).mono ?_
  rintro e w1 ⟨rfl, H0, F0, E0⟩
  go_wp2
  go_ret2
  exact ⟨rfl, H0.out.mono (by omega) (Nat.le_refl _), F0.out⟩
set_option maxHeartbeats 4000000 in
theorem st_rune2 (base top gz gs pc : Nat) (u : TypeId) (ev : Value) (dat : List Int) (M p s r : Nat) (d : Int) (q : Nat) (c c1 : Int) (w : World) (h : Aside0 (StAt w base top gz gs pc u ev dat M p s r)) (hq : Aside0 (d + p = q ∧ s ≤ q ∧ q + 1 ≤ dat.length)) (hK : Aside0 (dat.length ≤ 300 ∧ 1 ≤ pc ∧ pc ≤ 300 ∧ 0 < base)) (hM : M ≤ 99990) (hE : Aside0 (w.cell? ⟨0, 0, none⟩ = some (.iface u ev))) (hd0 : -1000 < d) (hd1 : d < 1000) (e0 : atL dat (q + 0) = c) (l0 : 0 ≤ c) (u0 : c < 256) (e1 : atL dat (q + 1) = c1) (l1 : 0 ≤ c1) (u1 : c1 < 256) (lo : 192 ≤ c) (hi : c < 224) :
    Calls Tryd.prog 64 #[.pointer (some ⟨gz, 0, none⟩), .int .i64 d] w (RunePost base top gz gs pc u ev dat M p s (c % 32 * 64 + c1 % 64, 2) w) := by
  have hd192 : decide (c < 192) = false := decide_eq_false (by omega)
  have hn192 : ¬ c < 192 := by omega
  have hd224 : decide (c < 224) = true := decide_eq_true (by omega)
  have hn224 : c < 224 := by omega
  have HEQ := Aside0.mk (And.intro e0 e1)
  clear e0 e1
  go_enter Tryd.func64, Tryd.ntmps64
  go_wp2_with fail
  refine (st_peek' (q := q + 0) h (by have := hq.out.1; omega) (by have := hq.out.2.1; omega) (by have := hq.out.2.2; omega) hK (by omega) hE HEQ.out.1).mono ?_
  rintro e w1 ⟨rfl, H0, F0, E0⟩
  go_wp2_with fail
  refine (st_peek' (q := q + 1) H0 (by have := hq.out.1; omega) (by have := hq.out.2.1; omega) (by have := hq.out.2.2; omega) hK (by omega) E0 HEQ.out.2).mono ?_
  rintro e w2 ⟨rfl, H1, F1, E1⟩
  go_wp2
  go_ret2
  exact ⟨rfl, H1.out.mono (by omega) (Nat.le_refl _), (F0.out.trans F1.out)⟩
set_option maxHeartbeats 4000000 in
theorem st_rune3 (base top gz gs pc : Nat) (u : TypeId) (ev : Value) (dat : List Int) (M p s r : Nat) (d : Int) (q : Nat) (c c1 c2 : Int) (w : World) (h : Aside0 (StAt w base top gz gs pc u ev dat M p s r)) (hq : Aside0 (d + p = q ∧ s ≤ q ∧ q + 2 ≤ dat.length)) (hK : Aside0 (dat.length ≤ 300 ∧ 1 ≤ pc ∧ pc ≤ 300 ∧ 0 < base)) (hM : M ≤ 99990) (hE : Aside0 (w.cell? ⟨0, 0, none⟩ = some (.iface u ev))) (hd0 : -1000 < d) (hd1 : d < 1000) (e0 : atL dat (q + 0) = c) (l0 : 0 ≤ c) (u0 : c < 256) (e1 : atL dat (q + 1) = c1) (l1 : 0 ≤ c1) (u1 : c1 < 256) (e2 : atL dat (q + 2) = c2) (l2 : 0 ≤ c2) (u2 : c2 < 256) (lo : 224 ≤ c) (hi : c < 240) :
    Calls Tryd.prog 64 #[.pointer (some ⟨gz, 0, none⟩), .int .i64 d] w (RunePost base top gz gs pc u ev dat M p s (c % 16 * 4096 + c1 % 64 * 64 + c2 % 64, 3) w) := by
  have hd192 : decide (c < 192) = false := decide_eq_false (by omega)
  have hn192 : ¬ c < 192 := by omega
  have hd224 : decide (c < 224) = false := decide_eq_false (by omega)
  have hn224 : ¬ c < 224 := by omega
  have hd240 : decide (c < 240) = true := decide_eq_true (by omega)
  have hn240 : c < 240 := by omega
  have HEQ := Aside0.mk (And.intro e0 (And.intro e1 e2))
  clear e0 e1 e2
  go_enter Tryd.func64, Tryd.ntmps64
  go_wp2_with fail
  refine (st_peek' (q := q + 0) h (by have := hq.out.1; omega) (by have := hq.out.2.1; omega) (by have := hq.out.2.2; omega) hK (by omega) hE HEQ.out.1).mono ?_
  rintro e w1 ⟨rfl, H0, F0, E0⟩
  go_wp2_with fail
  refine (st_peek' (q := q + 1) H0 (by have := hq.out.1; omega) (by have := hq.out.2.1; omega) (by have := hq.out.2.2; omega) hK (by omega) E0 HEQ.out.2.1).mono ?_
  rintro e w2 ⟨rfl, H1, F1, E1⟩
  go_wp2_with fail
  refine (st_peek' (q := q + 2) H1 (by have := hq.out.1; omega) (by have := hq.out.2.1; omega) (by have := hq.out.2.2; omega) hK (by omega) E1 HEQ.out.2.2).mono ?_
  rintro e w3 ⟨rfl, H2, F2, E2⟩
  go_wp2
  go_ret2
  exact ⟨rfl, H2.out.mono (by omega) (Nat.le_refl _), ((F0.out.trans F1.out).trans F2.out)⟩
set_option maxHeartbeats 4000000 in
theorem st_rune4 (base top gz gs pc : Nat) (u : TypeId) (ev : Value) (dat : List Int) (M p s r : Nat) (d : Int) (q : Nat) (c c1 c2 c3 : Int) (w : World) (h : Aside0 (StAt w base top gz gs pc u ev dat M p s r)) (hq : Aside0 (d + p = q ∧ s ≤ q ∧ q + 3 ≤ dat.length)) (hK : Aside0 (dat.length ≤ 300 ∧ 1 ≤ pc ∧ pc ≤ 300 ∧ 0 < base)) (hM : M ≤ 99990) (hE : Aside0 (w.cell? ⟨0, 0, none⟩ = some (.iface u ev))) (hd0 : -1000 < d) (hd1 : d < 1000) (e0 : atL dat (q + 0) = c) (l0 : 0 ≤ c) (u0 : c < 256) (e1 : atL dat (q + 1) = c1) (l1 : 0 ≤ c1) (u1 : c1 < 256) (e2 : atL dat (q + 2) = c2) (l2 : 0 ≤ c2) (u2 : c2 < 256) (e3 : atL dat (q + 3) = c3) (l3 : 0 ≤ c3) (u3 : c3 < 256) (lo : 240 ≤ c) :
    Calls Tryd.prog 64 #[.pointer (some ⟨gz, 0, none⟩), .int .i64 d] w (RunePost base top gz gs pc u ev dat M p s (c % 8 * 262144 + c1 % 64 * 4096 + c2 % 64 * 64 + c3 % 64, 4) w) := by
  have hd192 : decide (c < 192) = false := decide_eq_false (by omega)
  have hn192 : ¬ c < 192 := by omega
  have hd224 : decide (c < 224) = false := decide_eq_false (by omega)
  have hn224 : ¬ c < 224 := by omega
  have hd240 : decide (c < 240) = false := decide_eq_false (by omega)
  have hn240 : ¬ c < 240 := by omega
  have HEQ := Aside0.mk (And.intro e0 (And.intro e1 (And.intro e2 e3)))
  clear e0 e1 e2 e3
  go_enter Tryd.func64, Tryd.ntmps64
  go_wp2_with fail
  refine (st_peek' (q := q + 0) h (by have := hq.out.1; omega) (by have := hq.out.2.1; omega) (by have := hq.out.2.2; omega) hK (by omega) hE HEQ.out.1).mono ?_
  rintro e w1 ⟨rfl, H0, F0, E0⟩
  go_wp2_with fail
  refine (st_peek' (q := q + 1) H0 (by have := hq.out.1; omega) (by have := hq.out.2.1; omega) (by have := hq.out.2.2; omega) hK (by omega) E0 HEQ.out.2.1).mono ?_
  rintro e w2 ⟨rfl, H1, F1, E1⟩
  go_wp2_with fail
  refine (st_peek' (q := q + 2) H1 (by have := hq.out.1; omega) (by have := hq.out.2.1; omega) (by have := hq.out.2.2; omega) hK (by omega) E1 HEQ.out.2.2.1).mono ?_
  rintro e w3 ⟨rfl, H2, F2, E2⟩
  go_wp2_with fail
  refine (st_peek' (q := q + 3) H2 (by have := hq.out.1; omega) (by have := hq.out.2.1; omega) (by have := hq.out.2.2; omega) hK (by omega) E2 HEQ.out.2.2.2).mono ?_
  rintro e w4 ⟨rfl, H3, F3, E3⟩
  go_wp2
  go_ret2
  exact ⟨rfl, H3.out.mono (by omega) (Nat.le_refl _), (((F0.out.trans F1.out).trans F2.out).trans F3.out)⟩
theorem st_rune (base top gz gs pc : Nat) (u : TypeId) (ev : Value) (dat : List Int) (M p s r : Nat) (d : Int) (q : Nat) (x : Int × Int) (w : World) (h : StAt w base top gz gs pc u ev dat M p s r) (hq : d + p = q) (hq1 : s ≤ q) (hq2 : q ≤ dat.length) (hdl : dat.length ≤ 300) (hpc : 1 ≤ pc) (hpc2 : pc ≤ 300) (hEb : 0 < base) (hM : M ≤ 99990) (hE : w.cell? ⟨0, 0, none⟩ = some (.iface u ev)) (hr : runeL dat q = some x) (hby : (dat.all fun x => decide (0 ≤ x ∧ x ≤ 255)) = true) :
    Calls Tryd.prog 64 #[.pointer (some ⟨gz, 0, none⟩), .int .i64 d] w (RunePost base top gz gs pc u ev dat M p s x w) := by
  have a0 := atL_byte hby q
  have a1 := atL_byte hby (q + 1)
  have a2 := atL_byte hby (q + 2)
  have a3 := atL_byte hby (q + 3)
  have b1 := h.ord
  have hK := Aside0.mk (And.intro hdl (And.intro hpc (And.intro hpc2 hEb)))
  unfold runeL at hr
  split at hr
  · rename_i g0
    obtain rfl := Option.some.inj hr
    exact st_rune1 base top gz gs pc u ev dat M p s r d q _ w ⟨h⟩ ⟨⟨hq, hq1, by omega⟩⟩ hK hM ⟨hE⟩ (by omega) (by omega) rfl a0.1 a0.2 g0
  · split at hr
    · rename_i g0 g1
      split at hr
      · rename_i g2
        obtain rfl := Option.some.inj hr
        exact st_rune2 base top gz gs pc u ev dat M p s r d q _ _ w ⟨h⟩ ⟨⟨hq, hq1, by omega⟩⟩ hK hM ⟨hE⟩ (by omega) (by omega) rfl a0.1 a0.2 rfl a1.1 a1.2 (by omega) g2
      · split at hr
        · rename_i g2 g3
          split at hr
          · rename_i g4
            obtain rfl := Option.some.inj hr
            exact st_rune3 base top gz gs pc u ev dat M p s r d q _ _ _ w ⟨h⟩ ⟨⟨hq, hq1, by omega⟩⟩ hK hM ⟨hE⟩ (by omega) (by omega) rfl a0.1 a0.2 rfl a1.1 a1.2 rfl a2.1 a2.2 (by omega) g4
          · split at hr
            · rename_i g4 g5
              obtain rfl := Option.some.inj hr
              exact st_rune4 base top gz gs pc u ev dat M p s r d q _ _ _ _ w ⟨h⟩ ⟨⟨hq, hq1, by omega⟩⟩ hK hM ⟨hE⟩ (by omega) (by omega) rfl a0.1 a0.2 rfl a1.1 a1.2 rfl a2.1 a2.2 rfl a3.1 a3.2 (by omega)
            · cases hr
        · cases hr
    · cases hr
end Go.Proofs.YtgpmmmlmaaiobaaDoor.Own
