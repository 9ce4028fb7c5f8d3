/- entityText: it tells a text of bytes and entities, or it tells that something is not as it should be. -/
import Derived.Test.YtkgaladmiiglaaaDoorCEntG
namespace Go.Proofs.YtkgaladmiiglaaaDoor.Own
open Go.RowKit Go.Proofs.YtkgaladmiiglaaaDoorW.PrintWords Go.Proofs.YtkgaladmiiglaaaDoorW.PrintLast
set_option linter.unusedVariables false
set_option linter.unusedSimpArgs false
theorem rows_C3 {w : World} {A B C : Option Addr} {na ca nb cb nc cc : Nat} {xs ys zs : List Int} (ea : na = xs.length) (eb : nb = ys.length) (ec : nc = zs.length) (la : na ≤ ca) (lb : nb ≤ cb) (lc : nc ≤ cc)
    (hx : (Kd.int .u8).C w A na xs) (hy : (Kd.int .u8).C w B nb ys) (hz : (Kd.int .u8).C w C nc zs) :
    (Kd.slice 5 (Kd.int .u8)).C (w.alloc (.cells #[.slice A na ca, .slice B nb cb, .slice C nc cc] 22)) (some ⟨w.heap.size, 0, none⟩) 3 [xs, ys, zs] := by
  subst ea eb ec
  have hh := al_eq (W := w) (o := .cells #[.slice A xs.length ca, .slice B ys.length cb, .slice C zs.length cc] 22) (i := w.heap.size) rfl
  have hb := below_alloc (Below.refl w.heap.size w) (.cells #[.slice A xs.length ca, .slice B ys.length cb, .slice C zs.length cc] 22)
  have hx := Kd.C_below hx hb
  have hy := Kd.C_below hy hb
  have hz := Kd.C_below hz hb
  have d0 : (w.alloc (.cells #[.slice A xs.length ca, .slice B ys.length cb, .slice C zs.length cc] 22)).cell? ((⟨w.heap.size, 0, none⟩ : Addr).add 0) = some (.slice A xs.length ca) := by rw [add_plain]; simp only [World.cell?, hh]; rfl
  have d1 : (w.alloc (.cells #[.slice A xs.length ca, .slice B ys.length cb, .slice C zs.length cc] 22)).cell? ((⟨w.heap.size, 0, none⟩ : Addr).add 1) = some (.slice B ys.length cb) := by rw [add_plain]; simp only [World.cell?, hh]; rfl
  have d2 : (w.alloc (.cells #[.slice A xs.length ca, .slice B ys.length cb, .slice C zs.length cc] 22)).cell? ((⟨w.heap.size, 0, none⟩ : Addr).add 2) = some (.slice C zs.length cc) := by rw [add_plain]; simp only [World.cell?, hh]; rfl
  refine ⟨rfl, by have : maxLen = 9223372036854775807 := rfl; simp, fun _ => ⟨_, rfl, fun j p hj => ?_⟩⟩
  match j, hj with
  | 0, hj =>
    obtain rfl := Option.some.inj hj
    refine ⟨[.slice A xs.length ca], rfl, ⟨A, ca, rfl, la, hx⟩, fun i u hu => ?_⟩
    match i, hu with
    | 0, hu => obtain rfl := Option.some.inj hu; exact d0
    | i + 1, hu => simp at hu
  | 1, hj =>
    obtain rfl := Option.some.inj hj
    refine ⟨[.slice B ys.length cb], rfl, ⟨B, cb, rfl, lb, hy⟩, fun i u hu => ?_⟩
    match i, hu with
    | 0, hu => obtain rfl := Option.some.inj hu; exact d1
    | i + 1, hu => simp at hu
  | 2, hj =>
    obtain rfl := Option.some.inj hj
    refine ⟨[.slice C zs.length cc], rfl, ⟨C, cc, rfl, lc, hz⟩, fun i u hu => ?_⟩
    match i, hu with
    | 0, hu => obtain rfl := Option.some.inj hu; exact d2
    | i + 1, hu => simp at hu
  | j + 3, hj => simp at hj
section
variable {P : Program} {ops : Array Oper} {o : Oper} {a : Act} {Q : Exit → Act → World → Prop} {Kc : Act → World → Prop}
theorem conv_step {W w1 : World} (hw : Region.wanted o (yielded ops a.tmps) = true) (x : Operand) (s t : TypeId) (ho : o.op = .convert s t x) {vx v : Value} (hx : a.eval x = vx)
    (hr : (convert s t vx).run P W = .ok v w1) (h : Kc (a.put o.dst v) w1) : if Region.wanted o (yielded ops a.tmps) = true then Oper.wp P o a W Kc Q else Kc (a.put o.dst undef) W := by
  rw [if_pos hw]
  unfold Oper.wp execOp
  simp only [ho, Sem.run_bind, Sem.run_pure, Result.andThen_ok, hx, hr]
  exact h
end
theorem txT_app (a b : List Tk) : txT (a ++ b) = txT a ++ txT b := by unfold txT; rw [List.flatMap_append]
theorem txT_chs (p : List Int) : txT (p.map Tk.ch) = p := by
  induction p with
  | nil => rfl
  | cons a t ih => rw [List.map_cons, show txT (Tk.ch a :: t.map Tk.ch) = a :: txT (t.map Tk.ch) from rfl, ih]
theorem rd_int {os : List Int} {k : Nat} : True := trivial
theorem tkOk_piece {L : List En} {p : List Int} (h38 : ¬ (38 : Int) ∈ p) (hby : ∀ c ∈ p, 0 ≤ c ∧ c < 256) : ∀ t ∈ p.map Tk.ch, TkOk L t := fun t ht => by
  obtain ⟨c, hc, rfl⟩ := List.mem_map.1 ht
  exact ⟨fun e => h38 (e ▸ hc), hby c hc⟩
theorem enOk {l : List Ent} {q : Nat} (hq : q < l.length) (h : OkE l q) : EnOk (toEn l[q]) := by
  obtain ⟨h1, h2, h3⟩ := h hq
  refine ⟨h1.two, h1.tok.2.1, fun c hc => ?_, h1.one, h1.few, fun c hc e => h2 (e ▸ hc)⟩
  have := h1.tok.all c hc
  unfold tokB at this
  have h45 : c ≠ 45 := fun e => h1.nohy (e ▸ hc)
  omega
set_option maxRecDepth 20000 in
set_option maxHeartbeats 4000000 in
theorem entityText_any (A0 : Option Addr) (c0 : Nat) (l : List Ent) (A1 : Option Addr) (c1 : Nat) (PL : List (List Int)) (A2 : Option Addr) (c2 : Nat) (os : List Int) (w : World) (hr0 : Kd.C k36 w A0 l.length l) (hc0 : l.length ≤ c0) (hr1 : Kd.C (Kd.slice 5 (Kd.int .u8)) w A1 PL.length PL) (hc1 : PL.length ≤ c1) (hr2 : Kd.C (Kd.int .i64) w A2 os.length os) (hc2 : os.length ≤ c2)
    (hl : l.length ≤ 2147483647) (hs : ∀ x ∈ l, SmallE x) (hP : PL.length ≤ 2147483647) (hby : ∀ p ∈ PL, ∀ c ∈ p, 0 ≤ c ∧ c < 256) (hos : os.length ≤ 2147483647) :
    Calls Tryd.prog 12 #[.slice A0 l.length c0, .slice A1 PL.length c1, .slice A2 os.length c2] w fun e w' => Below w.heap.size w w' ∧ ((∃ a b, e = .returned (.tuple #[a, b, .bool false])) ∨
      ∃ T A n c b, e = .returned (.tuple #[.slice A n c, b, .bool true]) ∧ n = (txT T).length ∧ n ≤ 1200 ∧ n ≤ c ∧ Kd.C (Kd.int .u8) w' A n (txT T) ∧ (∀ t ∈ T, TkOk (l.map toEn) t) ∧ OkF l 0 true) := by
  obtain ⟨rE, ⟨kE, hkE⟩, hE⟩ := entok_ev l hl hs
  obtain ⟨kF, hkF⟩ := few_ev PL hP
  obtain ⟨rF, hrF⟩ : ∃ r, r = PL.all fun l => decide (l.length ≤ 300) := ⟨_, rfl⟩
  have HKE := Aside0.mk (hkE kE (Nat.le_refl _))
  have HKF := Aside0.mk (hkF kF (Nat.le_refl _))
  rw [← hrF] at HKF
  have HR0 := Aside0.mk hr0
  have HR1 := Aside0.mk hr1
  have HR2 := Aside0.mk hr2
  have HC := Aside0.mk (And.intro hc0 (And.intro hc1 hc2))
  have HBY := Aside0.mk hby
  have HRF := Aside0.mk hrF
  clear hkE hkF hr0 hr1 hr2 hc0 hc1 hc2 hs hby hrF
  cases rE with
  | false =>
    go_enter Tryd.func12, Tryd.ntmps12
    go_wp2_with (go_at_call 7; (with_reducible refine (laws_entitiesOk.calls kE A0 c0 l false _ HR0.out HC.out.1 HKE.out).mono ?_); rintro e w1 ⟨rfl, hw1⟩; have HW1 := Aside0.mk hw1; clear hw1)
    go_ret3
    exact ⟨HW1.out, .inl ⟨_, _, rfl⟩⟩
  | true =>
  have HE := Aside0.mk (show OkF l 0 true from hE)
  clear hE
  by_cases hl0 : l.length = 0
  · have hlb : ((l.length : Int) == 0) = true := by rw [hl0]; rfl
    have HL0 := Aside0.mk hl0
    clear hl0
    go_enter Tryd.func12, Tryd.ntmps12
    go_wp2_with (go_at_call 7; (with_reducible refine (laws_entitiesOk.calls kE A0 c0 l true _ HR0.out HC.out.1 HKE.out).mono ?_); rintro e w1 ⟨rfl, hw1⟩; have HW1 := Aside0.mk hw1; clear hw1)
    go_ret3
    exact ⟨HW1.out, .inl ⟨_, _, rfl⟩⟩
  have hlb : ((l.length : Int) == 0) = false := beq_eq_false_iff_ne.mpr (by omega)
  by_cases hop : PL.length < os.length
  · go_enter Tryd.func12, Tryd.ntmps12
    go_wp2_with (go_at_call 7; (with_reducible refine (laws_entitiesOk.calls kE A0 c0 l true _ HR0.out HC.out.1 HKE.out).mono ?_); rintro e w1 ⟨rfl, hw1⟩; have HW1 := Aside0.mk hw1; clear hw1)
    go_ret3
    exact ⟨HW1.out, .inl ⟨_, _, rfl⟩⟩
  by_cases hp20 : 20 < PL.length
  · go_enter Tryd.func12, Tryd.ntmps12
    go_wp2_with (go_at_call 7; (with_reducible refine (laws_entitiesOk.calls kE A0 c0 l true _ HR0.out HC.out.1 HKE.out).mono ?_); rintro e w1 ⟨rfl, hw1⟩; have HW1 := Aside0.mk hw1; clear hw1)
    go_ret3
    exact ⟨HW1.out, .inl ⟨_, _, rfl⟩⟩
  cases rF with
  | false =>
    go_enter Tryd.func12, Tryd.ntmps12
    go_wp2_with (first | (go_at_call 7; (with_reducible refine (laws_entitiesOk.calls kE A0 c0 l true _ HR0.out HC.out.1 HKE.out).mono ?_); rintro e w1 ⟨rfl, hw1⟩; have HW1 := Aside0.mk hw1; clear hw1) | (go_at_call 6; (with_reducible refine (laws_fewBytes.calls kF A1 c1 PL false _ (Kd.C_below HR1.out HW1.out) HC.out.2.1 HKF.out).mono ?_); rintro e w2 ⟨rfl, ⟨nd, hw2⟩⟩; have HW2 := Aside0.mk (show Below w.heap.size w w2 from by rw [hw2]; exact pw_below_drewN HW1.out _); clear hw2))
    go_ret3
    exact ⟨HW2.out, .inl ⟨_, _, rfl⟩⟩
  | true =>
  have HFEW := Aside0.mk (show ∀ p ∈ PL, p.length ≤ 300 from fun p hp => by have := List.all_eq_true.1 HRF.out.symm p hp; exact of_decide_eq_true this)
  have hl8 : l.length ≤ 8 := (HE.out rfl).1
  go_enter Tryd.func12, Tryd.ntmps12
  go_wp2_with (first | (go_at_call 7; (with_reducible refine (laws_entitiesOk.calls kE A0 c0 l true _ HR0.out HC.out.1 HKE.out).mono ?_); rintro e w1 ⟨rfl, hw1⟩; have HW1 := Aside0.mk hw1; clear hw1) | (go_at_call 6; (with_reducible refine (laws_fewBytes.calls kF A1 c1 PL true _ (Kd.C_below HR1.out HW1.out) HC.out.2.1 HKF.out).mono ?_); rintro e w2 ⟨rfl, ⟨nd, hw2⟩⟩; have HW2 := Aside0.mk (show Below w.heap.size w w2 from by rw [hw2]; exact pw_below_drewN HW1.out _); clear hw2))
  go_loopw [9, 10, 42] (fun v9 v10 vi wr => ∃ (k n c m d : Nat) (A B : Option Addr) (T : List Tk) (U : List Int), v9 = .slice A n c ∧ v10 = .slice B m d ∧ vi = .int .i64 (k : Int) ∧ k ≤ os.length ∧ n ≤ 322 * k ∧ m ≤ 322 * k ∧ Aside0 (n = (txT T).length ∧ n ≤ c ∧ Kd.C (Kd.int .u8) wr A n (txT T)) ∧ Aside0 (m = U.length ∧ m ≤ d ∧ Kd.C (Kd.int .u8) wr B m U) ∧ Aside0 (∀ t ∈ T, TkOk (l.map toEn) t) ∧ Aside0 (Below w.heap.size w wr)) (fun _ _ vi _ => os.length - (intOf vi).toNat)
  case atStart =>
    refine ⟨0, 0, _, 0, _, _, _, [], [], rfl, rfl, rfl, Nat.zero_le _, Nat.le_refl _, Nat.le_refl _, ⟨rfl, Nat.zero_le _, ⟨rfl, by simp, fun h => by simp at h⟩⟩, ⟨rfl, Nat.zero_le _, ⟨rfl, by simp, fun h => by simp at h⟩⟩, ⟨fun t ht => by cases ht⟩, ⟨by repeat (first | exact HW2.out | apply below_alloc | apply pw_below_drewN | apply below_drew1)⟩⟩
  case round =>
    obtain ⟨k, n, c, m, d, A, B, T, U, rfl, rfl, rfl, hk, hn, hm, HT, HU, HTK, HB⟩ := hrel
    by_cases hlt : k < os.length
    · obtain ⟨ad2, e2, x2⟩ := Kd.at_int HR2.out (k : Int) (by omega) (by omega)
      cases e2
      obtain ⟨ad1, Ap, cp, e1, x1, hcp, hCp⟩ := at_L3 HR1.out (k : Int) (by omega) (by omega)
      cases e1
      have hkP : k < PL.length := by omega
      rw [rdL hkP] at x1 hcp hCp
      rw [Int.toNat_natCast] at x1 x2
      have HX1 := Aside0.mk x1
      replace x1 := (HB.out.cell (World.block_lt_of_cell? w _ x1)).trans x1
      replace x2 := (HB.out.cell (World.block_lt_of_cell? w _ x2)).trans x2
      obtain ⟨o, ho⟩ : ∃ o, o = rd os (k : Int) := ⟨_, rfl⟩
      rw [← ho] at x2
      clear ho
      obtain ⟨p, hp⟩ : ∃ p, p = PL[k] := ⟨_, rfl⟩
      have HPM := Aside0.mk (show p ∈ PL by rw [hp]; exact List.getElem_mem hkP)
      have hp300 : p.length ≤ 300 := HFEW.out p HPM.out
      rw [← hp] at x1 hcp hCp HX1
      clear hp
      have HCP := Aside0.mk (And.intro hcp hCp)
      clear hcp hCp
      by_cases ho0 : o < 0
      · go_wp2
        go_ret3
        exact ⟨HB.out, .inl ⟨_, _, rfl⟩⟩
      obtain ⟨q, rfl⟩ : ∃ q : Nat, o = (q : Int) := ⟨o.toNat, by omega⟩
      clear ho0
      by_cases hql : l.length ≤ q
      · go_wp2
        go_ret3
        exact ⟨HB.out, .inl ⟨_, _, rfl⟩⟩
      replace hql : q < l.length := by omega
      obtain ⟨r, ⟨kb, hkb⟩, hiff⟩ := byteplace_ev p 38 (by omega)
      have HKB := Aside0.mk (hkb kb (Nat.le_refl _))
      have HIFF := Aside0.mk hiff
      clear hkb hiff
      by_cases hr0 : 0 ≤ r
      · go_wp2_with (go_at_call 8; (with_reducible refine (spec_BytePlace.calls kb Ap cp p 38 r _ (Kd.C_below HCP.out.2 HB.out) HCP.out.1 HKB.out).mono ?_); rintro e w2 ⟨rfl, ⟨nd, rfl⟩⟩)
        go_ret3
        exact ⟨pw_below_drewN HB.out _, .inl ⟨_, _, rfl⟩⟩
      go_wp2_with fail
      (with_reducible refine (spec_BytePlace.calls kb Ap cp p 38 r _ (Kd.C_below HCP.out.2 HB.out) HCP.out.1 HKB.out).mono ?_)
      rintro e w3 ⟨rfl, ⟨nd, hw3⟩⟩
      have HB3 := Aside0.mk (show Below w.heap.size w w3 from by rw [hw3]; exact pw_below_drewN HB.out _)
      have HT3 := Aside0.mk (show Kd.C (Kd.int .u8) w3 A n (txT T) from by rw [hw3]; exact Kd.C_drewN HT.out.2.2 _)
      have HU3 := Aside0.mk (show Kd.C (Kd.int .u8) w3 B m U from by rw [hw3]; exact Kd.C_drewN HU.out.2.2 _)
      clear hw3 x1 x2
      have H38 := Aside0.mk (show ¬ (38 : Int) ∈ p from fun h => by have := HIFF.out.2 h; omega)
      obtain ⟨ad0, e0, y0, y1⟩ := at_T36 HR0.out (q : Int) (by omega) (by omega)
      rw [rdT hql, Int.toNat_natCast] at y0 y1
      cases e0
      obtain ⟨nm, hnm⟩ : ∃ x, x = l[q].f0 := ⟨_, rfl⟩
      obtain ⟨vl, hvl⟩ : ∃ x, x = l[q].f1 := ⟨_, rfl⟩
      have HEQ := Aside0.mk (And.intro hnm hvl)
      have hok := enOk hql ((HE.out rfl).2 q (Nat.zero_le _))
      have hnz : nm.size ≤ 20 := by rw [hnm]; exact hok.few
      have hvz : vl.size ≤ nm.size + 2 := by rw [hnm, hvl]; exact hok.short
      have HOK := Aside0.mk hok
      rw [← hnm] at y0
      rw [← hvl] at y1
      clear hok hnm hvl
      have HR_ := Aside0.mk (fun (w' : World) (h : Below w3.heap.size w3 w') => show w'.cell? (ad1.add k) = some (.slice Ap p.length cp) ∧ w'.cell? (ad0.add (q * 2)) = some (.string nm) from
        have h2 := below_then HB3.out HB3.out.size h
        ⟨(h2.cell (World.block_lt_of_cell? w _ HX1.out)).trans HX1.out, (h2.cell (World.block_lt_of_cell? w _ y0)).trans y0⟩)
      have HY1 := Aside0.mk y1
      clear y0 y1
      have hz1 : ((⟨#[38]⟩ : ByteArray) ++ nm).size = nm.size + 1 := by rw [ByteArray.size_append]; show 1 + nm.size = _; omega
      have hz2 : (((⟨#[38]⟩ : ByteArray) ++ nm) ++ (⟨#[59]⟩ : ByteArray)).size = nm.size + 2 := by rw [ByteArray.size_append, hz1]; rfl
      obtain ⟨g4, c4, w4, hcv, hT4, hn4, hB4, _⟩ := text_bytes (w := w3.drew) (base := w3.heap.size) (n := nm.size + 2) (Nat.le_refl _) (((⟨#[38]⟩ : ByteArray) ++ nm) ++ (⟨#[59]⟩ : ByteArray)) (by omega) hz2.symm
      have HCV := Aside0.mk hcv
      have HT4 := Aside0.mk hT4
      have HN4 := Aside0.mk hn4
      have HB4 := Aside0.mk (show Below w3.heap.size w3 w4 from (below_drew1 (Below.refl _ _)).trans hB4)
      clear hcv hT4 hn4 hB4
      obtain ⟨SB, hSB⟩ : ∃ x, x = numsOf (((⟨#[38]⟩ : ByteArray) ++ nm) ++ (⟨#[59]⟩ : ByteArray)) := ⟨_, rfl⟩
      rw [← hSB] at HT4 HN4
      have HSB := Aside0.mk hSB
      have hflat : [txT T, p, SB].flatten = txT T ++ (p ++ SB) := by simp
      have hlen : (txT T ++ (p ++ SB)).length = n + (p.length + (nm.size + 2)) := by rw [List.length_append, List.length_append, ← HT.out.1, ← HN4.out]
      obtain ⟨kj, hkj⟩ := join_ev [txT T, p, SB] (by simp) (by rw [hflat]; omega)
      replace hkj := hkj kj (Nat.le_refl _)
      rw [hflat] at hkj
      have HJ := Aside0.mk hkj
      have HLEN := Aside0.mk hlen
      clear hkj hflat hlen hz1 hz2 hSB
      have hcc1 : ¬ (9223372036854775807 < 1 + nm.size) := by omega
      have hcc2 : ¬ (9223372036854775807 < 1 + nm.size + 1) := by omega
      go_wp2
      refine start_ (n := 16) (S := fun w' => Below w3.heap.size w3 w') (ds := []) #[false, false, false, false, false, false, false, false, false, false, false, false, false, false, false, false] (by kernel_rfl) rfl rfl (below_drew1 (Below.refl _ _)) (fun hHeld => ?_)
      refine pure_ (i := 0) (N := (some 63)) (v := ?_) (a' := ?_) #[true, false, false, false, false, false, false, false, false, false, false, false, false, false, false, false] rfl rfl (by kernel_rfl) (fun _ _ _ h => h) (Or.inl ⟨by rfl, ?_⟩) ?_ ?_
      rotate_left
      · intro w'
        go_simp
        with_reducible rfl
      rotate_left
      · simp only [Act.put, List.setIfInBounds_toArray, List.set_cons_zero, List.set_cons_succ, i64_w, i32_w]
        rfl
      refine pure_ (i := 1) (N := (some 64)) (v := ?_) (a' := ?_) #[true, true, false, false, false, false, false, false, false, false, false, false, false, false, false, false] rfl rfl (by kernel_rfl) (fun _ _ _ h => h) (Or.inl ⟨by rfl, ?_⟩) ?_ ?_
      rotate_left
      · intro w'
        go_simp
        with_reducible rfl
      rotate_left
      · simp only [Act.put, List.setIfInBounds_toArray, List.set_cons_zero, List.set_cons_succ, i64_w, i32_w]
        rfl
      refine pure_ (i := 2) (N := (some 65)) (v := ?_) (a' := ?_) #[true, true, true, false, false, false, false, false, false, false, false, false, false, false, false, false] rfl rfl (by kernel_rfl) (fun _ _ _ h => h) (Or.inl ⟨by rfl, ?_⟩) ?_ ?_
      rotate_left
      · intro w'
        go_simp
        with_reducible rfl
      rotate_left
      · simp only [Act.put, List.setIfInBounds_toArray, List.set_cons_zero, List.set_cons_succ, i64_w, i32_w]
        rfl
      refine pure_ (i := 3) (N := (some 66)) (v := ?_) (a' := ?_) #[true, true, true, true, false, false, false, false, false, false, false, false, false, false, false, false] rfl rfl (by kernel_rfl) (fun _ _ _ h => h) (Or.inl ⟨by rfl, ?_⟩) ?_ ?_
      rotate_left
      · intro w'
        go_simp
        with_reducible rfl
      rotate_left
      · simp only [Act.put, List.setIfInBounds_toArray, List.set_cons_zero, List.set_cons_succ, i64_w, i32_w]
        rfl
      refine take_ (i := 4) (N := (some 67)) (v := ?_) (a' := ?_) #[true, true, true, true, true, false, false, false, false, false, false, false, false, false, false, false] rfl rfl (by kernel_rfl) (fun _ _ _ h => h) (Or.inl ⟨by rfl, ?_⟩) hHeld ?_ ?_
      rotate_left
      · intro w' s0
        have s1 := HR_.out _ s0
        have c1_ := s1.1
        have c2_ := s1.2
        clear s1 s0
        go_simp
        with_reducible rfl
      rotate_left
      · simp only [Act.put, List.setIfInBounds_toArray, List.set_cons_zero, List.set_cons_succ, i64_w, i32_w]
        rfl
      refine pure_ (i := 5) (N := (some 68)) (v := ?_) (a' := ?_) #[true, true, true, true, true, true, false, false, false, false, false, false, false, false, false, false] rfl rfl (by kernel_rfl) (fun _ _ _ h => h) (Or.inl ⟨by rfl, ?_⟩) ?_ ?_
      rotate_left
      · intro w'
        go_simp
        with_reducible rfl
      rotate_left
      · simp only [Act.put, List.setIfInBounds_toArray, List.set_cons_zero, List.set_cons_succ, i64_w, i32_w]
        rfl
      refine pure_ (i := 6) (N := (some 69)) (v := ?_) (a' := ?_) #[true, true, true, true, true, true, true, false, false, false, false, false, false, false, false, false] rfl rfl (by kernel_rfl) (fun _ _ _ h => h) (Or.inl ⟨by rfl, ?_⟩) ?_ ?_
      rotate_left
      · intro w'
        go_simp
        with_reducible rfl
      rotate_left
      · simp only [Act.put, List.setIfInBounds_toArray, List.set_cons_zero, List.set_cons_succ, i64_w, i32_w]
        rfl
      refine pure_ (i := 7) (N := (some 70)) (v := ?_) (a' := ?_) #[true, true, true, true, true, true, true, true, false, false, false, false, false, false, false, false] rfl rfl (by kernel_rfl) (fun _ _ _ h => h) (Or.inl ⟨by rfl, ?_⟩) ?_ ?_
      rotate_left
      · intro w'
        go_simp
        with_reducible rfl
      rotate_left
      · simp only [Act.put, List.setIfInBounds_toArray, List.set_cons_zero, List.set_cons_succ, i64_w, i32_w]
        rfl
      refine pure_ (i := 8) (N := (some 71)) (v := ?_) (a' := ?_) #[true, true, true, true, true, true, true, true, true, false, false, false, false, false, false, false] rfl rfl (by kernel_rfl) (fun _ _ _ h => h) (Or.inl ⟨by rfl, ?_⟩) ?_ ?_
      rotate_left
      · intro w'
        go_simp
        with_reducible rfl
      rotate_left
      · simp only [Act.put, List.setIfInBounds_toArray, List.set_cons_zero, List.set_cons_succ, i64_w, i32_w]
        rfl
      refine take_ (i := 9) (N := (some 72)) (v := ?_) (a' := ?_) #[true, true, true, true, true, true, true, true, true, true, false, false, false, false, false, false] rfl rfl (by kernel_rfl) (fun _ _ _ h => h) (Or.inl ⟨by rfl, ?_⟩) hHeld ?_ ?_
      rotate_left
      · intro w' s0
        have s1 := HR_.out _ s0
        have c1_ := s1.1
        have c2_ := s1.2
        clear s1 s0
        go_simp
        with_reducible rfl
      rotate_left
      · simp only [Act.put, List.setIfInBounds_toArray, List.set_cons_zero, List.set_cons_succ, i64_w, i32_w]
        rfl
      refine pure_ (i := 10) (N := (some 73)) (v := ?_) (a' := ?_) #[true, true, true, true, true, true, true, true, true, true, true, false, false, false, false, false] rfl rfl (by kernel_rfl) (fun _ _ _ h => h) (Or.inl ⟨by rfl, ?_⟩) ?_ ?_
      rotate_left
      · intro w'
        go_simp
        with_reducible rfl
      rotate_left
      · simp only [Act.put, List.setIfInBounds_toArray, List.set_cons_zero, List.set_cons_succ, i64_w, i32_w]
        rfl
      refine pure_ (i := 11) (N := (some 74)) (v := ?_) (a' := ?_) #[true, true, true, true, true, true, true, true, true, true, true, true, false, false, false, false] rfl rfl (by kernel_rfl) (fun _ _ _ h => h) (Or.inl ⟨by rfl, ?_⟩) ?_ ?_
      rotate_left
      · intro w'
        go_simp
        with_reducible rfl
      rotate_left
      · simp only [Act.put, List.setIfInBounds_toArray, List.set_cons_zero, List.set_cons_succ, i64_w, i32_w]
        rfl
      refine one_ (i := 12) (N := (some 75)) #[true, true, true, true, true, true, true, true, true, true, true, true, true, false, false, false] rfl rfl (by kernel_rfl) (by simp) (fun K_ hK_ => ?_)
      refine conv_step (P := Tryd.prog) (by rfl) (.tmp 74) _ _ rfl rfl HCV.out ?_
      refine hK_ _ _ HB4.out (fun _ => ?_)
      refine norm_ (a' := ?_) ?_ ?_
      rotate_left
      · show Act.put _ (some 75) _ = _
        simp only [Act.put, List.setIfInBounds_toArray, List.set_cons_zero, List.set_cons_succ]
        rfl
      refine one_ (i := 13) (N := (some 76)) #[true, true, true, true, true, true, true, true, true, true, true, true, true, true, false, false] rfl rfl (by kernel_rfl) (by simp) (fun K_ hK_ => ?_)
      refine value_ (w1 := ?_) (v := ?_) (by rfl) rfl ?_ ?_
      rotate_left 2
      · go_simp
        constructor
        · rfl
        · rfl
      refine hK_ _ _ (below_alloc HB4.out _) (fun _ => ?_)
      refine norm_ (a' := ?_) ?_ ?_
      rotate_left
      · show Act.put _ (some 76) _ = _
        simp only [Act.put, List.setIfInBounds_toArray, List.set_cons_zero, List.set_cons_succ]
        rfl
      refine one_ (i := 14) (N := (some 77)) #[true, true, true, true, true, true, true, true, true, true, true, true, true, true, true, false] rfl rfl (by kernel_rfl) (by simp) (fun K_ hK_ => ?_)
      refine goes_ Tryd.func21 (by kernel_rfl) rfl #[.slice (some ⟨w4.heap.size, 0, none⟩) 3 3] (by rfl) rfl rfl (by simp only [List.map_toArray, List.map_cons, List.map_nil]; rfl) ?_
      refine (spec_Join.calls kj (some ⟨w4.heap.size, 0, none⟩) 3 [txT T, p, SB] (txT T ++ (p ++ SB)) _ (rows_C3 HT.out.1 rfl HN4.out HT.out.2.1 HCP.out.1 (HN4.out ▸ HT4.out.len) (Kd.C_below HT3.out HB4.out) (Kd.C_below HCP.out.2 (below_then HB3.out HB3.out.size HB4.out)) (HN4.out ▸ HT4.out.C)) (Nat.le_refl _) HJ.out).mono ?_
      rintro e w5 ⟨v5, rfl, hv5, hb5⟩
      have HV5 := Aside0.mk hv5
      have HB5 := Aside0.mk (show Below w3.heap.size w3 w5 from below_step (below_alloc HB4.out _) hb5)
      clear hv5 hb5
      obtain ⟨A5, c5, rfl⟩ := Kd.R_slice HV5.out
      refine ⟨_, rfl, ?_⟩
      refine hK_ _ _ HB5.out (fun _ => ?_)
      refine norm_ (a' := ?_) ?_ ?_
      rotate_left
      · show Act.put _ (some 77) _ = _
        simp only [Act.put, List.setIfInBounds_toArray, List.set_cons_zero, List.set_cons_succ]
        rfl
      refine pure_ (i := 15) (N := (some 9)) (v := ?_) (a' := ?_) #[true, true, true, true, true, true, true, true, true, true, true, true, true, true, true, true] rfl rfl (by kernel_rfl) (fun _ _ _ h => h) (Or.inl ⟨by rfl, ?_⟩) ?_ ?_
      rotate_left
      · intro w'
        go_simp
        with_reducible rfl
      rotate_left
      · simp only [Act.put, List.setIfInBounds_toArray, List.set_cons_zero, List.set_cons_succ, i64_w, i32_w]
        rfl
      refine done_ (by kernel_rfl) ?_
      have HT5 := Aside0.mk (Kd.R_reads' HV5.out).2.2
      have HC5 := Aside0.mk (Kd.R_reads' HV5.out).2.1
      have HW5 := Aside0.mk (below_then HB3.out HB3.out.size HB5.out)
      have HU5 := Aside0.mk (Kd.C_below HU3.out HB5.out)
      have HS5 := Aside0.mk HV5.out
      clear HV5 HCV HT4 HN4 HB4 HR_ HJ hcc1 hcc2 HT3
      have HSL := Aside0.mk (show SB.length = nm.size + 2 by rw [HSB.out, numsOf_app, numsOf_app, List.length_append, List.length_append, numsOf_length, numsOf_length, numsOf_length]; show 1 + nm.size + 1 = _; omega)
      have HR_ := Aside0.mk (fun (w' : World) (h : Below w5.heap.size w5 w') => show w'.cell? (ad1.add k) = some (.slice Ap p.length cp) ∧ w'.cell? ⟨(ad0.add (q * 2)).block, (ad0.add (q * 2)).off + 1, none⟩ = some (.string vl) from
        have h2 := below_then HW5.out HW5.out.size h
        ⟨(h2.cell (World.block_lt_of_cell? w _ HX1.out)).trans HX1.out, (h2.cell (World.block_lt_of_cell? w _ HY1.out)).trans HY1.out⟩)
      obtain ⟨g6, c6, w6, hcv, hT6, hn6, hB6, _⟩ := text_bytes (w := w5.drew) (base := w5.heap.size) (n := vl.size) (Nat.le_refl _) vl (by omega) rfl
      have HCV := Aside0.mk hcv
      have HT6 := Aside0.mk hT6
      have HN6 := Aside0.mk hn6
      have HB6 := Aside0.mk (show Below w5.heap.size w5 w6 from (below_drew1 (Below.refl _ _)).trans hB6)
      clear hcv hT6 hn6 hB6
      have hflat : [U, p, numsOf vl].flatten = U ++ (p ++ numsOf vl) := by simp
      have hlen : (U ++ (p ++ numsOf vl)).length = m + (p.length + vl.size) := by rw [List.length_append, List.length_append, ← HU.out.1, numsOf_length]
      obtain ⟨kj2, hkj⟩ := join_ev [U, p, numsOf vl] (by simp) (by rw [hflat]; omega)
      replace hkj := hkj kj2 (Nat.le_refl _)
      rw [hflat] at hkj
      have HJ := Aside0.mk hkj
      have HLEN2 := Aside0.mk hlen
      clear hkj hflat hlen
      go_wp2
      refine start_ (n := 14) (S := fun w' => Below w5.heap.size w5 w') (ds := []) #[false, false, false, false, false, false, false, false, false, false, false, false, false, false] (by kernel_rfl) rfl rfl (below_drew1 (Below.refl _ _)) (fun hHeld => ?_)
      refine pure_ (i := 0) (N := (some 78)) (v := ?_) (a' := ?_) #[true, false, false, false, false, false, false, false, false, false, false, false, false, false] rfl rfl (by kernel_rfl) (fun _ _ _ h => h) (Or.inl ⟨by rfl, ?_⟩) ?_ ?_
      rotate_left
      · intro w'
        go_simp
        with_reducible rfl
      rotate_left
      · simp only [Act.put, List.setIfInBounds_toArray, List.set_cons_zero, List.set_cons_succ, i64_w, i32_w]
        rfl
      refine pure_ (i := 1) (N := (some 79)) (v := ?_) (a' := ?_) #[true, true, false, false, false, false, false, false, false, false, false, false, false, false] rfl rfl (by kernel_rfl) (fun _ _ _ h => h) (Or.inl ⟨by rfl, ?_⟩) ?_ ?_
      rotate_left
      · intro w'
        go_simp
        with_reducible rfl
      rotate_left
      · simp only [Act.put, List.setIfInBounds_toArray, List.set_cons_zero, List.set_cons_succ, i64_w, i32_w]
        rfl
      refine pure_ (i := 2) (N := (some 80)) (v := ?_) (a' := ?_) #[true, true, true, false, false, false, false, false, false, false, false, false, false, false] rfl rfl (by kernel_rfl) (fun _ _ _ h => h) (Or.inl ⟨by rfl, ?_⟩) ?_ ?_
      rotate_left
      · intro w'
        go_simp
        with_reducible rfl
      rotate_left
      · simp only [Act.put, List.setIfInBounds_toArray, List.set_cons_zero, List.set_cons_succ, i64_w, i32_w]
        rfl
      refine pure_ (i := 3) (N := (some 81)) (v := ?_) (a' := ?_) #[true, true, true, true, false, false, false, false, false, false, false, false, false, false] rfl rfl (by kernel_rfl) (fun _ _ _ h => h) (Or.inl ⟨by rfl, ?_⟩) ?_ ?_
      rotate_left
      · intro w'
        go_simp
        with_reducible rfl
      rotate_left
      · simp only [Act.put, List.setIfInBounds_toArray, List.set_cons_zero, List.set_cons_succ, i64_w, i32_w]
        rfl
      refine take_ (i := 4) (N := (some 82)) (v := ?_) (a' := ?_) #[true, true, true, true, true, false, false, false, false, false, false, false, false, false] rfl rfl (by kernel_rfl) (fun _ _ _ h => h) (Or.inl ⟨by rfl, ?_⟩) hHeld ?_ ?_
      rotate_left
      · intro w' s0
        have s1 := HR_.out _ s0
        have c1_ := s1.1
        have c2_ := s1.2
        clear s1 s0
        go_simp
        with_reducible rfl
      rotate_left
      · simp only [Act.put, List.setIfInBounds_toArray, List.set_cons_zero, List.set_cons_succ, i64_w, i32_w]
        rfl
      refine pure_ (i := 5) (N := (some 83)) (v := ?_) (a' := ?_) #[true, true, true, true, true, true, false, false, false, false, false, false, false, false] rfl rfl (by kernel_rfl) (fun _ _ _ h => h) (Or.inl ⟨by rfl, ?_⟩) ?_ ?_
      rotate_left
      · intro w'
        go_simp
        with_reducible rfl
      rotate_left
      · simp only [Act.put, List.setIfInBounds_toArray, List.set_cons_zero, List.set_cons_succ, i64_w, i32_w]
        rfl
      refine pure_ (i := 6) (N := (some 84)) (v := ?_) (a' := ?_) #[true, true, true, true, true, true, true, false, false, false, false, false, false, false] rfl rfl (by kernel_rfl) (fun _ _ _ h => h) (Or.inl ⟨by rfl, ?_⟩) ?_ ?_
      rotate_left
      · intro w'
        go_simp
        with_reducible rfl
      rotate_left
      · simp only [Act.put, List.setIfInBounds_toArray, List.set_cons_zero, List.set_cons_succ, i64_w, i32_w]
        rfl
      refine pure_ (i := 7) (N := (some 85)) (v := ?_) (a' := ?_) #[true, true, true, true, true, true, true, true, false, false, false, false, false, false] rfl rfl (by kernel_rfl) (fun _ _ _ h => h) (Or.inl ⟨by rfl, ?_⟩) ?_ ?_
      rotate_left
      · intro w'
        go_simp
        with_reducible rfl
      rotate_left
      · simp only [Act.put, List.setIfInBounds_toArray, List.set_cons_zero, List.set_cons_succ, i64_w, i32_w]
        rfl
      refine pure_ (i := 8) (N := (some 86)) (v := ?_) (a' := ?_) #[true, true, true, true, true, true, true, true, true, false, false, false, false, false] rfl rfl (by kernel_rfl) (fun _ _ _ h => h) (Or.inl ⟨by rfl, ?_⟩) ?_ ?_
      rotate_left
      · intro w'
        go_simp
        with_reducible rfl
      rotate_left
      · simp only [Act.put, List.setIfInBounds_toArray, List.set_cons_zero, List.set_cons_succ, i64_w, i32_w]
        rfl
      refine take_ (i := 9) (N := (some 87)) (v := ?_) (a' := ?_) #[true, true, true, true, true, true, true, true, true, true, false, false, false, false] rfl rfl (by kernel_rfl) (fun _ _ _ h => h) (Or.inl ⟨by rfl, ?_⟩) hHeld ?_ ?_
      rotate_left
      · intro w' s0
        have s1 := HR_.out _ s0
        have c1_ := s1.1
        have c2_ := s1.2
        clear s1 s0
        go_simp
        with_reducible rfl
      rotate_left
      · simp only [Act.put, List.setIfInBounds_toArray, List.set_cons_zero, List.set_cons_succ, i64_w, i32_w]
        rfl
      refine one_ (i := 10) (N := (some 88)) #[true, true, true, true, true, true, true, true, true, true, true, false, false, false] rfl rfl (by kernel_rfl) (by simp) (fun K_ hK_ => ?_)
      refine conv_step (P := Tryd.prog) (by rfl) (.tmp 87) _ _ rfl rfl HCV.out ?_
      refine hK_ _ _ HB6.out (fun _ => ?_)
      refine norm_ (a' := ?_) ?_ ?_
      rotate_left
      · show Act.put _ (some 88) _ = _
        simp only [Act.put, List.setIfInBounds_toArray, List.set_cons_zero, List.set_cons_succ]
        rfl
      refine one_ (i := 11) (N := (some 89)) #[true, true, true, true, true, true, true, true, true, true, true, true, false, false] rfl rfl (by kernel_rfl) (by simp) (fun K_ hK_ => ?_)
      refine value_ (w1 := ?_) (v := ?_) (by rfl) rfl ?_ ?_
      rotate_left 2
      · go_simp
        constructor
        · rfl
        · rfl
      refine hK_ _ _ (below_alloc HB6.out _) (fun _ => ?_)
      refine norm_ (a' := ?_) ?_ ?_
      rotate_left
      · show Act.put _ (some 89) _ = _
        simp only [Act.put, List.setIfInBounds_toArray, List.set_cons_zero, List.set_cons_succ]
        rfl
      refine one_ (i := 12) (N := (some 90)) #[true, true, true, true, true, true, true, true, true, true, true, true, true, false] rfl rfl (by kernel_rfl) (by simp) (fun K_ hK_ => ?_)
      refine goes_ Tryd.func21 (by kernel_rfl) rfl #[.slice (some ⟨w6.heap.size, 0, none⟩) 3 3] (by rfl) rfl rfl (by simp only [List.map_toArray, List.map_cons, List.map_nil]; rfl) ?_
      refine (spec_Join.calls kj2 (some ⟨w6.heap.size, 0, none⟩) 3 [U, p, numsOf vl] (U ++ (p ++ numsOf vl)) _ (rows_C3 HU.out.1 rfl HN6.out HU.out.2.1 HCP.out.1 (HN6.out ▸ HT6.out.len) (Kd.C_below HU5.out HB6.out) (Kd.C_below HCP.out.2 (below_then HW5.out HW5.out.size HB6.out)) (HN6.out ▸ HT6.out.C)) (Nat.le_refl _) HJ.out).mono ?_
      rintro e w7 ⟨v7, rfl, hv7, hb7⟩
      have HV7 := Aside0.mk hv7
      have HB7 := Aside0.mk (show Below w5.heap.size w5 w7 from below_step (below_alloc HB6.out _) hb7)
      clear hv7 hb7
      obtain ⟨A7, c7, rfl⟩ := Kd.R_slice HV7.out
      refine ⟨_, rfl, ?_⟩
      refine hK_ _ _ HB7.out (fun _ => ?_)
      refine norm_ (a' := ?_) ?_ ?_
      rotate_left
      · show Act.put _ (some 90) _ = _
        simp only [Act.put, List.setIfInBounds_toArray, List.set_cons_zero, List.set_cons_succ]
        rfl
      refine pure_ (i := 13) (N := (some 10)) (v := ?_) (a' := ?_) #[true, true, true, true, true, true, true, true, true, true, true, true, true, true] rfl rfl (by kernel_rfl) (fun _ _ _ h => h) (Or.inl ⟨by rfl, ?_⟩) ?_ ?_
      rotate_left
      · intro w'
        go_simp
        with_reducible rfl
      rotate_left
      · simp only [Act.put, List.setIfInBounds_toArray, List.set_cons_zero, List.set_cons_succ, i64_w, i32_w]
        rfl
      refine done_ (by kernel_rfl) ?_
      have HT7 := Aside0.mk (Kd.R_reads' HV7.out).2.2
      have HC7 := Aside0.mk (Kd.R_reads' HV7.out).2.1
      have HTT := Aside0.mk (show txT (T ++ (p.map Tk.ch ++ [Tk.ent (toEn l[q])])) = txT T ++ (p ++ SB) from by
        rw [txT_app, txT_app, txT_chs, HSB.out, numsOf_app, numsOf_app, HEQ.out.1]
        simp [txT, Tk.tx, toEn]
        rfl)
      have HTK7 := Aside0.mk (show ∀ t ∈ T ++ (p.map Tk.ch ++ [Tk.ent (toEn l[q])]), TkOk (l.map toEn) t from fun t ht => by
        rcases List.mem_append.1 ht with h | h
        · exact HTK.out t h
        · rcases List.mem_append.1 h with h | h
          · exact tkOk_piece H38.out (HBY.out p HPM.out) t h
          · rw [List.mem_singleton] at h
            subst h
            exact ⟨List.mem_map.2 ⟨l[q], List.getElem_mem hql, rfl⟩, HOK.out⟩)
      have HT5' := Aside0.mk (Kd.C_below HT5.out HB7.out)
      go_wp2
      go_roundw
      case rel =>
        have q1 := HT.out.1
        have q2 := HSL.out
        have q3 := HU.out.1
        have q4 : (numsOf vl).length = vl.size := numsOf_length _
        have q5 := HT5'.out
        have q6 := HT7.out
        have q7 := HC5.out
        have q8 := HC7.out
        rw [List.length_append, List.length_append] at q5 q6 q7 q8
        exact ⟨k + 1, _, c5, _, c7, A5, A7, _, _, rfl, rfl, by go_num, by omega, by omega, by omega, ⟨by rw [HTT.out, List.length_append, List.length_append], q7, by rw [HTT.out]; exact q5⟩, ⟨by rw [List.length_append, List.length_append], q8, q6⟩, HTK7, ⟨below_then HW5.out HW5.out.size HB7.out⟩⟩
      case measure => simp [intOf]; omega
    · have hkl : k = os.length := by omega
      by_cases h12 : n ≤ 1200
      · go_wp2
        rw [show decide ((n : Int) ≤ 1200) = true from decide_eq_true (by omega)]
        go_ret3
        exact ⟨HB.out, .inr ⟨T, A, n, c, _, rfl, HT.out.1, h12, HT.out.2.1, HT.out.2.2, HTK.out, HE.out⟩⟩
      · go_wp2
        rw [show decide ((n : Int) ≤ 1200) = false from decide_eq_false (by omega)]
        go_ret3
        exact ⟨HB.out, .inl ⟨_, _, rfl⟩⟩
end Go.Proofs.YtkgaladmiiglaaaDoor.Own
