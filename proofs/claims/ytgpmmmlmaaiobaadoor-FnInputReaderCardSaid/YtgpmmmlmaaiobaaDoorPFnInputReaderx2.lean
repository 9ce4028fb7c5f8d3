-- Laid by a program of this session, out of the translation's print.
import Derived.Test.YtgpmmmlmaaiobaaDoorPFnInputReaderx0
import Derived.Test.YtgpmmmlmaaiobaaDoorPFnInputReaderx1
namespace Go.Proofs.YtgpmmmlmaaiobaaDoor.PFnInputReader
open Go.Proofs.YtgpmmmlmaaiobaaDoor.Own
open Go.RowKit Go.Proofs.YtgpmmmlmaaiobaaDoorW.PrintWords Go.Proofs.YtgpmmmlmaaiobaaDoorW.PrintLast Go.Proofs.YtgpmmmlmaaiobaaDoorW.PrintMore
attribute [local go_sem] max2_int min2_int max_two min_two max_three min_three max_four min_four   -- for this text's walks alone
set_option linter.unusedVariables false
set_option linter.unusedSimpArgs false

/-! ### laws_FnInputReader: function 3 -/
mutual
def laws_FnInputReader.j0 : Nat → List Int → List Int → Bool → Option (Bool)
  | 0, _, _, _ => none
  | k + 1, x0, x1, x18 => if x18 = true then (some true) else ((laws_fewBytes.f k (([x0] : List (List Int)))).bind fun t115 => (if t115 = true then ((laws_sizesOk.f k x1).bind fun t116 => (laws_FnInputReader.j1 k x0 x1 (!t116))) else (laws_FnInputReader.j1 k x0 x1 true)))
def laws_FnInputReader.j1 : Nat → List Int → List Int → Bool → Option (Bool)
  | 0, _, _, _ => none
  | k + 1, x0, x1, x27 => if x27 = true then (some true) else ((impl_ReadPieces.f x0 x1).bind fun bt117 => (if (bt117.1.length : Int) = (x1.length : Int) then (laws_FnInputReader.j2 k x0 x1 bt117.1 bt117.2 ((bt117.2.length : Int) != (x1.length : Int))) else (laws_FnInputReader.j2 k x0 x1 bt117.1 bt117.2 true)))
def laws_FnInputReader.j2 : Nat → List Int → List Int → List (List Int) → List Bool → Bool → Option (Bool)
  | 0, _, _, _, _, _ => none
  | k + 1, x0, x1, x5, x6, x45 => if x45 = true then (some false) else (laws_FnInputReader.l0 k x0 x5 x6 0 x1 (x1.length : Int) 0)
def laws_FnInputReader.l0 : Nat → List Int → List (List Int) → List Bool → Int → List Int → Int → Int → Option (Bool)
  | 0, _, _, _, _, _, _, _ => none
  | k + 1, x0, x5, x6, x7, x46, x47, x48 => if x48 < x47 then (if 0 ≤ x48 then (if x48 < (x46.length : Int) then (if x48 < (x5.length : Int) then (if 0 ≤ x7 then (if x7 ≤ (wrap64 (x7 + (mn (rd x46 x48) (wrap64 ((x0.length : Int) - x7))))) then (if (wrap64 (x7 + (mn (rd x46 x48) (wrap64 ((x0.length : Int) - x7))))) ≤ (x0.length : Int) then ((spec_SameBytes.f k (rd_L1 x5 x48) ((x0.take ((wrap64 (x7 + (mn (rd x46 x48) (wrap64 ((x0.length : Int) - x7))))) : Int).toNat).drop (x7 : Int).toNat)).bind fun t130 => (if t130 = true then (if x48 < (x6.length : Int) then (if ((rdOf false x6 x48) != ((mn (rd x46 x48) (wrap64 ((x0.length : Int) - x7))) == 0)) = true then (some false) else (laws_FnInputReader.l0 k x0 x5 x6 (wrap64 (x7 + (mn (rd x46 x48) (wrap64 ((x0.length : Int) - x7))))) x46 x47 (wrap64 (x48 + 1)))) else (none)) else (some false))) else (none)) else (none)) else (none)) else (none)) else (none)) else (none)) else (some true)
end
def laws_FnInputReader.f (k : Nat) (l0 : List Int) (l1 : List Int) : Option (Bool) := if (l0.length : Int) > 2147483647 then (laws_FnInputReader.j0 k l0 l1 true) else (laws_FnInputReader.j0 k l0 l1 (decide ((l1.length : Int) > 2147483647)))
theorem laws_FnInputReader.mono_l : ∀ k, (∀ y0 y1 y2, LeO (laws_FnInputReader.j0 k y0 y1 y2) (laws_FnInputReader.j0 (k + 1) y0 y1 y2)) ∧ (∀ y0 y1 y2, LeO (laws_FnInputReader.j1 k y0 y1 y2) (laws_FnInputReader.j1 (k + 1) y0 y1 y2)) ∧ (∀ y0 y1 y2 y3 y4, LeO (laws_FnInputReader.j2 k y0 y1 y2 y3 y4) (laws_FnInputReader.j2 (k + 1) y0 y1 y2 y3 y4)) ∧ (∀ y0 y1 y2 y3 y4 y5 y6, LeO (laws_FnInputReader.l0 k y0 y1 y2 y3 y4 y5 y6) (laws_FnInputReader.l0 (k + 1) y0 y1 y2 y3 y4 y5 y6))
  | 0 => ⟨fun _ _ _ r h => by simp [laws_FnInputReader.j0] at h, fun _ _ _ r h => by simp [laws_FnInputReader.j1] at h, fun _ _ _ _ _ r h => by simp [laws_FnInputReader.j2] at h, fun _ _ _ _ _ _ _ r h => by simp [laws_FnInputReader.l0] at h⟩
  | k + 1 => by
    obtain ⟨ih0, ih1, ih2, ih3⟩ := laws_FnInputReader.mono_l k
    refine ⟨?_, ?_, ?_, ?_⟩
    · intro y0 y1 y2
      unfold laws_FnInputReader.j0
      repeat' first
      | (with_reducible exact ih0 _ _ _)
      | (with_reducible exact ih1 _ _ _)
      | (with_reducible exact ih2 _ _ _ _ _)
      | (with_reducible exact ih3 _ _ _ _ _ _ _)
      | (with_reducible exact laws_fewBytes.mono _ _)
      | (with_reducible exact laws_sizesOk.mono _ _)
      | (with_reducible exact spec_SameBytes.mono _ _ _)
      | (with_reducible exact LeO.refl _)
      | (with_reducible exact LeO.none _)
      | (with_reducible refine LeO.ite ?_ ?_)
      | (with_reducible refine LeO.bind ?_ (fun _ => ?_))
      | exact ih0 _ _ _
      | exact ih1 _ _ _
      | exact ih2 _ _ _ _ _
      | exact ih3 _ _ _ _ _ _ _
      | exact laws_fewBytes.mono _ _
      | exact laws_sizesOk.mono _ _
      | exact spec_SameBytes.mono _ _ _
      | exact LeO.none _
      | refine LeO.ite ?_ ?_
      | refine LeO.bind ?_ (fun _ => ?_)
    · intro y0 y1 y2
      unfold laws_FnInputReader.j1
      repeat' first
      | (with_reducible exact ih0 _ _ _)
      | (with_reducible exact ih1 _ _ _)
      | (with_reducible exact ih2 _ _ _ _ _)
      | (with_reducible exact ih3 _ _ _ _ _ _ _)
      | (with_reducible exact laws_fewBytes.mono _ _)
      | (with_reducible exact laws_sizesOk.mono _ _)
      | (with_reducible exact spec_SameBytes.mono _ _ _)
      | (with_reducible exact LeO.refl _)
      | (with_reducible exact LeO.none _)
      | (with_reducible refine LeO.ite ?_ ?_)
      | (with_reducible refine LeO.bind ?_ (fun _ => ?_))
      | exact ih0 _ _ _
      | exact ih1 _ _ _
      | exact ih2 _ _ _ _ _
      | exact ih3 _ _ _ _ _ _ _
      | exact laws_fewBytes.mono _ _
      | exact laws_sizesOk.mono _ _
      | exact spec_SameBytes.mono _ _ _
      | exact LeO.none _
      | refine LeO.ite ?_ ?_
      | refine LeO.bind ?_ (fun _ => ?_)
    · intro y0 y1 y2 y3 y4
      unfold laws_FnInputReader.j2
      repeat' first
      | (with_reducible exact ih0 _ _ _)
      | (with_reducible exact ih1 _ _ _)
      | (with_reducible exact ih2 _ _ _ _ _)
      | (with_reducible exact ih3 _ _ _ _ _ _ _)
      | (with_reducible exact laws_fewBytes.mono _ _)
      | (with_reducible exact laws_sizesOk.mono _ _)
      | (with_reducible exact spec_SameBytes.mono _ _ _)
      | (with_reducible exact LeO.refl _)
      | (with_reducible exact LeO.none _)
      | (with_reducible refine LeO.ite ?_ ?_)
      | (with_reducible refine LeO.bind ?_ (fun _ => ?_))
      | exact ih0 _ _ _
      | exact ih1 _ _ _
      | exact ih2 _ _ _ _ _
      | exact ih3 _ _ _ _ _ _ _
      | exact laws_fewBytes.mono _ _
      | exact laws_sizesOk.mono _ _
      | exact spec_SameBytes.mono _ _ _
      | exact LeO.none _
      | refine LeO.ite ?_ ?_
      | refine LeO.bind ?_ (fun _ => ?_)
    · intro y0 y1 y2 y3 y4 y5 y6
      unfold laws_FnInputReader.l0
      repeat' first
      | (with_reducible exact ih0 _ _ _)
      | (with_reducible exact ih1 _ _ _)
      | (with_reducible exact ih2 _ _ _ _ _)
      | (with_reducible exact ih3 _ _ _ _ _ _ _)
      | (with_reducible exact laws_fewBytes.mono _ _)
      | (with_reducible exact laws_sizesOk.mono _ _)
      | (with_reducible exact spec_SameBytes.mono _ _ _)
      | (with_reducible exact LeO.refl _)
      | (with_reducible exact LeO.none _)
      | (with_reducible refine LeO.ite ?_ ?_)
      | (with_reducible refine LeO.bind ?_ (fun _ => ?_))
      | exact ih0 _ _ _
      | exact ih1 _ _ _
      | exact ih2 _ _ _ _ _
      | exact ih3 _ _ _ _ _ _ _
      | exact laws_fewBytes.mono _ _
      | exact laws_sizesOk.mono _ _
      | exact spec_SameBytes.mono _ _ _
      | exact LeO.none _
      | refine LeO.ite ?_ ?_
      | refine LeO.bind ?_ (fun _ => ?_)
theorem laws_FnInputReader.mono : ∀ a0 a1 k, LeO (laws_FnInputReader.f k a0 a1) (laws_FnInputReader.f (k + 1) a0 a1) := by
  intro a0 a1 k
  obtain ⟨ih0, ih1, ih2, ih3⟩ := laws_FnInputReader.mono_l k
  unfold laws_FnInputReader.f
  repeat' first
      | (with_reducible exact ih0 _ _ _)
      | (with_reducible exact ih1 _ _ _)
      | (with_reducible exact ih2 _ _ _ _ _)
      | (with_reducible exact ih3 _ _ _ _ _ _ _)
      | (with_reducible exact laws_fewBytes.mono _ _)
      | (with_reducible exact laws_sizesOk.mono _ _)
      | (with_reducible exact spec_SameBytes.mono _ _ _)
      | (with_reducible exact LeO.refl _)
      | (with_reducible exact LeO.none _)
      | (with_reducible refine LeO.ite ?_ ?_)
      | (with_reducible refine LeO.bind ?_ (fun _ => ?_))
      | exact ih0 _ _ _
      | exact ih1 _ _ _
      | exact ih2 _ _ _ _ _
      | exact ih3 _ _ _ _ _ _ _
      | exact laws_fewBytes.mono _ _
      | exact laws_sizesOk.mono _ _
      | exact spec_SameBytes.mono _ _ _
      | exact LeO.none _
      | refine LeO.ite ?_ ?_
      | refine LeO.bind ?_ (fun _ => ?_)
set_option maxHeartbeats 8000000 in
set_option maxRecDepth 100000 in
theorem laws_FnInputReader.calls (k : Nat) (P0_ : Nat → Prop) (A0 : Option Addr) (c0 : Nat) (l0 : List Int) (A1 : Option Addr) (c1 : Nat) (l1 : List Int) (r : Bool) (w : World) (hs0 : Kd.V (Kd.int .u8) 5 w w.heap.size (fun k_ => P0_ k_) (.slice A0 l0.length c0) l0) (hr1 : Kd.C (Kd.int .i64) w A1 l1.length l1) (hc1 : l1.length ≤ c1) (h : laws_FnInputReader.f k l0 l1 = some r) (HTabE : Aside0 (Own.TabE w)) :
    Calls Tryd.prog 3 #[.slice A0 l0.length c0, .slice A1 l1.length c1] w fun e w' => e = .returned (.bool r) ∧ Below w.heap.size w w' := by
  have HO0 := Aside0.mk (show Kd.V (Kd.int .u8) 5 w w.heap.size (fun k_ => (P0_ k_ ∨ w.heap.size ≤ k_)) (.slice A0 l0.length c0) l0 from Kd.V_mono hs0 (fun k_ hk => .inl hk))
  have HR1 := Aside0.mk hr1
  have HC1 := Aside0.mk hc1
  clear hr1 hc1
  have HB := Aside0.mk (Below.refl w.heap.size w)
  have H : (if (l0.length : Int) > 2147483647 then (laws_FnInputReader.j0 k l0 l1 true) else (laws_FnInputReader.j0 k l0 l1 (decide ((l1.length : Int) > 2147483647)))) = some r := h
  clear h
  have HC3 := Aside0.mk H
  clear H
  go_enter Tryd.func3, Tryd.ntmps3
  go_upto_region 1 with (fail)
  repeat (go_quiet (fail); go_upto_region 1 with (fail))
  go_cut [18] (fun v18 wc => ∃ (kq : Nat) (x18_2 : Bool), v18 = .bool x18_2 ∧ Aside0 (laws_FnInputReader.j0 kq l0 l1 x18_2 = some r) ∧ Aside0 (kq ≤ k) ∧ Aside0 (Kd.V (Kd.int .u8) 5 wc w.heap.size (fun k_ => (P0_ k_ ∨ w.heap.size ≤ k_)) (.slice A0 l0.length c0) l0) ∧ Aside0 (Below w.heap.size w wc))
  case first =>
    have H := HC3.out
    clear HC3
    by_cases c4 : (l0.length : Int) > 2147483647
    · rw [if_pos c4] at H
      have c4b0 : decide (2147483647 < (l0.length : Int)) = true := decide_eq_true c4
      have c4b1 : decide (2147483647 < l0.length) = true := decide_eq_true (by omega)
      clear c4
      (first | rw [c4b0] | (simp only [i64_w, i32_w]; rw [c4b0]) | skip)
      have H' := Aside0.mk H
      clear H
      go_wp2
      repeat (go_quiet (fail); try go_wp2)
      go_meet
      case rel => exact ⟨_, (true), (by first | rfl | (simp; done) | (simp [*]; done)), H', ⟨by first | omega | exact Nat.le_refl _⟩, ⟨by (with_reducible repeat (first | apply Kd.V_alloc | apply Kd.V_drewN | apply Kd.V_drew)); exact HO0.out⟩, ⟨by repeat (first | (with_reducible first | exact HB.out | apply below_alloc | apply pw_below_drewN | apply below_drew1) | exact HB.out)⟩⟩
    · rw [if_neg c4] at H
      have c4b0 : decide (2147483647 < (l0.length : Int)) = false := decide_eq_false c4
      have c4b1 : decide (2147483647 < l0.length) = false := decide_eq_false (by omega)
      clear c4
      (first | rw [c4b0] | (simp only [i64_w, i32_w]; rw [c4b0]) | skip)
      have H' := Aside0.mk H
      clear H
      go_wp2
      repeat (go_quiet (fail); try go_wp2)
      go_meet
      case rel => exact ⟨_, (decide ((l1.length : Int) > 2147483647)), (by first | rfl | (simp; done) | (simp [*]; done)), H', ⟨by first | omega | exact Nat.le_refl _⟩, ⟨by (with_reducible repeat (first | apply Kd.V_alloc | apply Kd.V_drewN | apply Kd.V_drew)); exact HO0.out⟩, ⟨by repeat (first | (with_reducible first | exact HB.out | apply below_alloc | apply pw_below_drewN | apply below_drew1) | exact HB.out)⟩⟩
  case rest =>
    clear HC3
    try clear c1
    try clear p2
    try clear c3
    try clear c4
    try clear c4b0
    try clear c4b1
    obtain ⟨kq, x18_2, rfl, HA, HJ2, HO_0, HB⟩ := hcut
    cases kq with
    | zero => exact absurd HA.out (by simp [laws_FnInputReader.j0])
    | succ kj2 =>
      have H := HA.out
      clear HA
      simp only [laws_FnInputReader.j0] at H
      by_cases c5 : x18_2 = true
      · subst c5
        have H1 : (some true) = some r := by rw [if_pos rfl] at H; exact H
        clear H
        have H := H1
        clear H1
        obtain rfl := Option.some.inj H
        go_wp2
        repeat (go_quiet (fail); try go_wp2)
        go_ret
        exact ⟨by first | rfl | (simp [errW_none, errW_some] <;> rfl) | (simp [*, errW_none, errW_some] <;> rfl), by repeat (first | (with_reducible first | exact HB.out | apply below_alloc | apply pw_below_drewN | apply below_drew1) | exact HB.out)⟩
      · replace c5 := Bool.eq_false_iff.mpr c5
        subst c5
        have H1 : ((laws_fewBytes.f kj2 (([l0] : List (List Int)))).bind fun t115 => (if t115 = true then ((laws_sizesOk.f kj2 l1).bind fun t116 => (laws_FnInputReader.j1 kj2 l0 l1 (!t116))) else (laws_FnInputReader.j1 kj2 l0 l1 true))) = some r := by rw [if_neg (show ¬ (false = true) by decide)] at H; exact H
        clear H
        have H := H1
        clear H1
        have HC6 := Aside0.mk H
        clear H
        go_upto_region 3 with (fail)
        repeat (go_quiet (fail); go_upto_region 3 with (fail))
        go_cut [27] (fun v27 wc => ∃ (kq : Nat) (x27_5 : Bool), v27 = .bool x27_5 ∧ Aside0 (laws_FnInputReader.j1 kq l0 l1 x27_5 = some r) ∧ Aside0 (kq ≤ kj2) ∧ Aside0 (Kd.V (Kd.int .u8) 5 wc w.heap.size (fun k_ => (P0_ k_ ∨ w.heap.size ≤ k_)) (.slice A0 l0.length c0) l0) ∧ Aside0 (Below w.heap.size w wc))
        case first =>
          have H := HC6.out
          clear HC6
          obtain ⟨y112, hy112⟩ : ∃ y_ : List (List Int), y_ = (([l0] : List (List Int))) := ⟨_, rfl⟩
          replace H : ((laws_fewBytes.f kj2 y112).bind fun t115 => (if t115 = true then ((laws_sizesOk.f kj2 l1).bind fun t116 => (laws_FnInputReader.j1 kj2 l0 l1 (!t116))) else (laws_FnInputReader.j1 kj2 l0 l1 true))) = some r := by first | (rw [hy112]; with_reducible exact H) | (have H2_ := (Option.bind_some _ _).symm.trans H; rw [hy112]; with_reducible exact H2_) | (have H2_ := (Option.bind_some _ _).symm.trans H; with_reducible exact H2_) | with_reducible exact H | (rw [hy112]; exact H) | exact H
          have Ny112 := Aside0.mk hy112
          clear hy112
          replace H := Option.bind_eq_some_iff.mp H
          obtain ⟨t115, A70, H⟩ := H
          replace H : (if t115 = true then ((laws_sizesOk.f kj2 l1).bind fun t116 => (laws_FnInputReader.j1 kj2 l0 l1 (!t116))) else (laws_FnInputReader.j1 kj2 l0 l1 true)) = some r := H
          have A7 := Aside0.mk A70
          clear A70
          by_cases c8 : t115 = true
          · subst c8
            have H1 : ((laws_sizesOk.f kj2 l1).bind fun t116 => (laws_FnInputReader.j1 kj2 l0 l1 (!t116))) = some r := by rw [if_pos rfl] at H; exact H
            clear H
            have H := H1
            clear H1
            replace H := Option.bind_eq_some_iff.mp H
            obtain ⟨t116, A90, H⟩ := H
            replace H : (laws_FnInputReader.j1 kj2 l0 l1 (!t116)) = some r := H
            have A9 := Aside0.mk A90
            clear A90
            have H' := Aside0.mk H
            clear H
            go_wp2_with (first | ((with_reducible refine gate_dst (N := 20) rfl ?_); (try (refine gate_guard (by rfl) ?_; dsimp only)); refine Kd.N_lit (Kd.slice 5 (Kd.int .u8)) _ 22 ?hg (N' := 20) ?hd (xs := ([l0] : List (List Int))) (inner := [.slice A0 l0.length c0]) (ok := (fun k_ => (P0_ k_ ∨ w.heap.size ≤ k_))) (okp := (fun k_ => (P0_ k_ ∨ w.heap.size ≤ k_))) ?hr ?hp (fun _ hk => hk) ((show ∀ k_, wc.heap.size ≤ k_ → (fun k_ => (P0_ k_ ∨ w.heap.size ≤ k_)) k_ from fun k_ hk => (.inr (Nat.le_trans (below_size (by repeat (first | (with_reducible first | exact HB.out | apply below_alloc | apply pw_below_drewN | apply below_drew1) | exact HB.out))) hk))) _ (Nat.le_refl _)) (Below.refl _ _) (Nat.le_refl _) (by simp) ?_; (case hd => rfl); (case hg => rfl); (case hr => first | (go_simp; done) | (go_simp; rfl)); (case hp => first | exact (Reps.one (show Kd.FK (Kd.slice 5 (Kd.int .u8)) _ _ l0 [.slice A0 l0.length c0] from (Kd.FK_slice_mk (Kd.V_reads' (Kd.V_mono (ok' := (fun k_ => (P0_ k_ ∨ w.heap.size ≤ k_))) (HO_0.out) (fun k_ hk => hk))).2.1 (Kd.V_F (Kd.V_mono (ok' := (fun k_ => (P0_ k_ ∨ w.heap.size ≤ k_))) (HO_0.out) (fun k_ hk => hk))))) (Reps.none _ _)) | exact (Reps.one (show Kd.FK (Kd.slice 5 (Kd.int .u8)) _ _ l0 [.slice A0 l0.length c0] from (Kd.FK_slice_mk (Kd.V_reads' (Kd.V_mono (ok' := (fun k_ => (P0_ k_ ∨ w.heap.size ≤ k_))) (HO_0.out) (fun k_ hk => hk))).2.1 (Kd.V_F (Kd.V_mono (ok' := (fun k_ => (P0_ k_ ∨ w.heap.size ≤ k_))) ((Kd.V_drewN HO_0.out _)) (fun k_ hk => hk))))) (Reps.none _ _)) | exact (Reps.one (show Kd.FK (Kd.slice 5 (Kd.int .u8)) _ _ l0 [.slice A0 l0.length c0] from (Kd.FK_slice_mk (Kd.V_reads' (Kd.V_mono (ok' := (fun k_ => (P0_ k_ ∨ w.heap.size ≤ k_))) (HO_0.out) (fun k_ hk => hk))).2.1 (Kd.V_F (Kd.V_mono (ok' := (fun k_ => (P0_ k_ ∨ w.heap.size ≤ k_))) ((Kd.V_alloc HO_0.out _)) (fun k_ hk => hk))))) (Reps.none _ _)) | exact (Reps.one (show Kd.FK (Kd.slice 5 (Kd.int .u8)) _ _ l0 [.slice A0 l0.length c0] from (Kd.FK_slice_mk (Kd.V_reads' (Kd.V_mono (ok' := (fun k_ => (P0_ k_ ∨ w.heap.size ≤ k_))) (HO_0.out) (fun k_ hk => hk))).2.1 (Kd.V_F (Kd.V_mono (ok' := (fun k_ => (P0_ k_ ∨ w.heap.size ≤ k_))) ((by (with_reducible repeat (first | apply Kd.V_alloc | apply Kd.V_drewN | apply Kd.V_drew)); exact HO_0.out)) (fun k_ hk => hk))))) (Reps.none _ _))); intro v113 w10 ho11 hb hg_ hnew_; clear hg_ hnew_; (first | rw [← Ny112.out] at ho11 | (simp only [Int.reduceToNat] at ho11; rw [← Ny112.out] at ho11)); have n0_ := Aside0.mk (Kd.V_elder' (by (with_reducible repeat (first | apply Kd.V_alloc | apply Kd.V_drewN | apply Kd.V_drew)); exact HO_0.out) (Kd.N_base ho11) hb); have n1_ := Aside0.mk (Kd.N_lower ho11 (below_size (by repeat (first | (with_reducible first | exact HB.out | apply below_alloc | apply pw_below_drewN | apply below_drew1) | exact HB.out)))); have n2_ := Aside0.mk (below_step (by repeat (first | (with_reducible first | exact HB.out | apply below_alloc | apply pw_below_drewN | apply below_drew1) | exact HB.out)) hb); clear HO_0; clear HB; have HO_0 := n0_; have HO114 := n1_; have HB := n2_; clear n0_ n1_ n2_; clear hb ho11; obtain ⟨Ao12, co12, eo12⟩ := Kd.N_slice HO114.out; subst eo12) | (go_at_call 8; (with_reducible refine (laws_fewBytes.calls kj2 _ _ y112 true _ ?side1 ?side2 A7.out).mono ?_); (case side1 => repeat (first | exact (Kd.N_reads' HO114.out).2.2 | (with_reducible refine Kd.C_alloc ?_ _) | (with_reducible refine Kd.C_drewN ?_ _) | (with_reducible refine Kd.C_drew ?_))); (case side2 => exact (Kd.N_reads' HO114.out).2.1); rintro e w' ⟨rfl, ⟨nd, rfl⟩⟩; (try first | exact ⟨rfl, _, World.drewN_drewN _ _ _⟩ | exact ⟨rfl, _, Eq.trans (World.drewN_drewN _ _ _) (congrArg (World.drewN _) (Nat.add_assoc _ _ _))⟩)) | (go_at_call 9; (with_reducible refine (laws_sizesOk.calls kj2 _ _ l1 t116 _ ?side1 ?side2 A9.out).mono ?_); (case side1 => repeat (first | exact (Kd.C_below HR1.out (by repeat (first | (with_reducible first | exact HB.out | apply below_alloc | apply pw_below_drewN | apply below_drew1) | exact HB.out))) | (with_reducible refine Kd.C_alloc ?_ _) | (with_reducible refine Kd.C_drewN ?_ _) | (with_reducible refine Kd.C_drew ?_))); (case side2 => exact HC1.out); rintro e w' ⟨rfl, ⟨nd, rfl⟩⟩; (try first | exact ⟨rfl, _, World.drewN_drewN _ _ _⟩ | exact ⟨rfl, _, Eq.trans (World.drewN_drewN _ _ _) (congrArg (World.drewN _) (Nat.add_assoc _ _ _))⟩)))
            repeat (go_quiet (first | ((with_reducible refine gate_dst (N := 20) rfl ?_); (try (refine gate_guard (by rfl) ?_; dsimp only)); refine Kd.N_lit (Kd.slice 5 (Kd.int .u8)) _ 22 ?hg (N' := 20) ?hd (xs := ([l0] : List (List Int))) (inner := [.slice A0 l0.length c0]) (ok := (fun k_ => (P0_ k_ ∨ w.heap.size ≤ k_))) (okp := (fun k_ => (P0_ k_ ∨ w.heap.size ≤ k_))) ?hr ?hp (fun _ hk => hk) ((show ∀ k_, wc.heap.size ≤ k_ → (fun k_ => (P0_ k_ ∨ w.heap.size ≤ k_)) k_ from fun k_ hk => (.inr (Nat.le_trans (below_size (by repeat (first | (with_reducible first | exact HB.out | apply below_alloc | apply pw_below_drewN | apply below_drew1) | exact HB.out))) hk))) _ (Nat.le_refl _)) (Below.refl _ _) (Nat.le_refl _) (by simp) ?_; (case hd => rfl); (case hg => rfl); (case hr => first | (go_simp; done) | (go_simp; rfl)); (case hp => first | exact (Reps.one (show Kd.FK (Kd.slice 5 (Kd.int .u8)) _ _ l0 [.slice A0 l0.length c0] from (Kd.FK_slice_mk (Kd.V_reads' (Kd.V_mono (ok' := (fun k_ => (P0_ k_ ∨ w.heap.size ≤ k_))) (HO_0.out) (fun k_ hk => hk))).2.1 (Kd.V_F (Kd.V_mono (ok' := (fun k_ => (P0_ k_ ∨ w.heap.size ≤ k_))) (HO_0.out) (fun k_ hk => hk))))) (Reps.none _ _)) | exact (Reps.one (show Kd.FK (Kd.slice 5 (Kd.int .u8)) _ _ l0 [.slice A0 l0.length c0] from (Kd.FK_slice_mk (Kd.V_reads' (Kd.V_mono (ok' := (fun k_ => (P0_ k_ ∨ w.heap.size ≤ k_))) (HO_0.out) (fun k_ hk => hk))).2.1 (Kd.V_F (Kd.V_mono (ok' := (fun k_ => (P0_ k_ ∨ w.heap.size ≤ k_))) ((Kd.V_drewN HO_0.out _)) (fun k_ hk => hk))))) (Reps.none _ _)) | exact (Reps.one (show Kd.FK (Kd.slice 5 (Kd.int .u8)) _ _ l0 [.slice A0 l0.length c0] from (Kd.FK_slice_mk (Kd.V_reads' (Kd.V_mono (ok' := (fun k_ => (P0_ k_ ∨ w.heap.size ≤ k_))) (HO_0.out) (fun k_ hk => hk))).2.1 (Kd.V_F (Kd.V_mono (ok' := (fun k_ => (P0_ k_ ∨ w.heap.size ≤ k_))) ((Kd.V_alloc HO_0.out _)) (fun k_ hk => hk))))) (Reps.none _ _)) | exact (Reps.one (show Kd.FK (Kd.slice 5 (Kd.int .u8)) _ _ l0 [.slice A0 l0.length c0] from (Kd.FK_slice_mk (Kd.V_reads' (Kd.V_mono (ok' := (fun k_ => (P0_ k_ ∨ w.heap.size ≤ k_))) (HO_0.out) (fun k_ hk => hk))).2.1 (Kd.V_F (Kd.V_mono (ok' := (fun k_ => (P0_ k_ ∨ w.heap.size ≤ k_))) ((by (with_reducible repeat (first | apply Kd.V_alloc | apply Kd.V_drewN | apply Kd.V_drew)); exact HO_0.out)) (fun k_ hk => hk))))) (Reps.none _ _))); intro v113 w10 ho11 hb hg_ hnew_; clear hg_ hnew_; (first | rw [← Ny112.out] at ho11 | (simp only [Int.reduceToNat] at ho11; rw [← Ny112.out] at ho11)); have n0_ := Aside0.mk (Kd.V_elder' (by (with_reducible repeat (first | apply Kd.V_alloc | apply Kd.V_drewN | apply Kd.V_drew)); exact HO_0.out) (Kd.N_base ho11) hb); have n1_ := Aside0.mk (Kd.N_lower ho11 (below_size (by repeat (first | (with_reducible first | exact HB.out | apply below_alloc | apply pw_below_drewN | apply below_drew1) | exact HB.out)))); have n2_ := Aside0.mk (below_step (by repeat (first | (with_reducible first | exact HB.out | apply below_alloc | apply pw_below_drewN | apply below_drew1) | exact HB.out)) hb); clear HO_0; clear HB; have HO_0 := n0_; have HO114 := n1_; have HB := n2_; clear n0_ n1_ n2_; clear hb ho11; obtain ⟨Ao12, co12, eo12⟩ := Kd.N_slice HO114.out; subst eo12) | (go_at_call 8; (with_reducible refine (laws_fewBytes.calls kj2 _ _ y112 true _ ?side1 ?side2 A7.out).mono ?_); (case side1 => repeat (first | exact (Kd.N_reads' HO114.out).2.2 | (with_reducible refine Kd.C_alloc ?_ _) | (with_reducible refine Kd.C_drewN ?_ _) | (with_reducible refine Kd.C_drew ?_))); (case side2 => exact (Kd.N_reads' HO114.out).2.1); rintro e w' ⟨rfl, ⟨nd, rfl⟩⟩; (try first | exact ⟨rfl, _, World.drewN_drewN _ _ _⟩ | exact ⟨rfl, _, Eq.trans (World.drewN_drewN _ _ _) (congrArg (World.drewN _) (Nat.add_assoc _ _ _))⟩)) | (go_at_call 9; (with_reducible refine (laws_sizesOk.calls kj2 _ _ l1 t116 _ ?side1 ?side2 A9.out).mono ?_); (case side1 => repeat (first | exact (Kd.C_below HR1.out (by repeat (first | (with_reducible first | exact HB.out | apply below_alloc | apply pw_below_drewN | apply below_drew1) | exact HB.out))) | (with_reducible refine Kd.C_alloc ?_ _) | (with_reducible refine Kd.C_drewN ?_ _) | (with_reducible refine Kd.C_drew ?_))); (case side2 => exact HC1.out); rintro e w' ⟨rfl, ⟨nd, rfl⟩⟩; (try first | exact ⟨rfl, _, World.drewN_drewN _ _ _⟩ | exact ⟨rfl, _, Eq.trans (World.drewN_drewN _ _ _) (congrArg (World.drewN _) (Nat.add_assoc _ _ _))⟩))); try go_wp2_with (first | ((with_reducible refine gate_dst (N := 20) rfl ?_); (try (refine gate_guard (by rfl) ?_; dsimp only)); refine Kd.N_lit (Kd.slice 5 (Kd.int .u8)) _ 22 ?hg (N' := 20) ?hd (xs := ([l0] : List (List Int))) (inner := [.slice A0 l0.length c0]) (ok := (fun k_ => (P0_ k_ ∨ w.heap.size ≤ k_))) (okp := (fun k_ => (P0_ k_ ∨ w.heap.size ≤ k_))) ?hr ?hp (fun _ hk => hk) ((show ∀ k_, wc.heap.size ≤ k_ → (fun k_ => (P0_ k_ ∨ w.heap.size ≤ k_)) k_ from fun k_ hk => (.inr (Nat.le_trans (below_size (by repeat (first | (with_reducible first | exact HB.out | apply below_alloc | apply pw_below_drewN | apply below_drew1) | exact HB.out))) hk))) _ (Nat.le_refl _)) (Below.refl _ _) (Nat.le_refl _) (by simp) ?_; (case hd => rfl); (case hg => rfl); (case hr => first | (go_simp; done) | (go_simp; rfl)); (case hp => first | exact (Reps.one (show Kd.FK (Kd.slice 5 (Kd.int .u8)) _ _ l0 [.slice A0 l0.length c0] from (Kd.FK_slice_mk (Kd.V_reads' (Kd.V_mono (ok' := (fun k_ => (P0_ k_ ∨ w.heap.size ≤ k_))) (HO_0.out) (fun k_ hk => hk))).2.1 (Kd.V_F (Kd.V_mono (ok' := (fun k_ => (P0_ k_ ∨ w.heap.size ≤ k_))) (HO_0.out) (fun k_ hk => hk))))) (Reps.none _ _)) | exact (Reps.one (show Kd.FK (Kd.slice 5 (Kd.int .u8)) _ _ l0 [.slice A0 l0.length c0] from (Kd.FK_slice_mk (Kd.V_reads' (Kd.V_mono (ok' := (fun k_ => (P0_ k_ ∨ w.heap.size ≤ k_))) (HO_0.out) (fun k_ hk => hk))).2.1 (Kd.V_F (Kd.V_mono (ok' := (fun k_ => (P0_ k_ ∨ w.heap.size ≤ k_))) ((Kd.V_drewN HO_0.out _)) (fun k_ hk => hk))))) (Reps.none _ _)) | exact (Reps.one (show Kd.FK (Kd.slice 5 (Kd.int .u8)) _ _ l0 [.slice A0 l0.length c0] from (Kd.FK_slice_mk (Kd.V_reads' (Kd.V_mono (ok' := (fun k_ => (P0_ k_ ∨ w.heap.size ≤ k_))) (HO_0.out) (fun k_ hk => hk))).2.1 (Kd.V_F (Kd.V_mono (ok' := (fun k_ => (P0_ k_ ∨ w.heap.size ≤ k_))) ((Kd.V_alloc HO_0.out _)) (fun k_ hk => hk))))) (Reps.none _ _)) | exact (Reps.one (show Kd.FK (Kd.slice 5 (Kd.int .u8)) _ _ l0 [.slice A0 l0.length c0] from (Kd.FK_slice_mk (Kd.V_reads' (Kd.V_mono (ok' := (fun k_ => (P0_ k_ ∨ w.heap.size ≤ k_))) (HO_0.out) (fun k_ hk => hk))).2.1 (Kd.V_F (Kd.V_mono (ok' := (fun k_ => (P0_ k_ ∨ w.heap.size ≤ k_))) ((by (with_reducible repeat (first | apply Kd.V_alloc | apply Kd.V_drewN | apply Kd.V_drew)); exact HO_0.out)) (fun k_ hk => hk))))) (Reps.none _ _))); intro v113 w10 ho11 hb hg_ hnew_; clear hg_ hnew_; (first | rw [← Ny112.out] at ho11 | (simp only [Int.reduceToNat] at ho11; rw [← Ny112.out] at ho11)); have n0_ := Aside0.mk (Kd.V_elder' (by (with_reducible repeat (first | apply Kd.V_alloc | apply Kd.V_drewN | apply Kd.V_drew)); exact HO_0.out) (Kd.N_base ho11) hb); have n1_ := Aside0.mk (Kd.N_lower ho11 (below_size (by repeat (first | (with_reducible first | exact HB.out | apply below_alloc | apply pw_below_drewN | apply below_drew1) | exact HB.out)))); have n2_ := Aside0.mk (below_step (by repeat (first | (with_reducible first | exact HB.out | apply below_alloc | apply pw_below_drewN | apply below_drew1) | exact HB.out)) hb); clear HO_0; clear HB; have HO_0 := n0_; have HO114 := n1_; have HB := n2_; clear n0_ n1_ n2_; clear hb ho11; obtain ⟨Ao12, co12, eo12⟩ := Kd.N_slice HO114.out; subst eo12) | (go_at_call 8; (with_reducible refine (laws_fewBytes.calls kj2 _ _ y112 true _ ?side1 ?side2 A7.out).mono ?_); (case side1 => repeat (first | exact (Kd.N_reads' HO114.out).2.2 | (with_reducible refine Kd.C_alloc ?_ _) | (with_reducible refine Kd.C_drewN ?_ _) | (with_reducible refine Kd.C_drew ?_))); (case side2 => exact (Kd.N_reads' HO114.out).2.1); rintro e w' ⟨rfl, ⟨nd, rfl⟩⟩; (try first | exact ⟨rfl, _, World.drewN_drewN _ _ _⟩ | exact ⟨rfl, _, Eq.trans (World.drewN_drewN _ _ _) (congrArg (World.drewN _) (Nat.add_assoc _ _ _))⟩)) | (go_at_call 9; (with_reducible refine (laws_sizesOk.calls kj2 _ _ l1 t116 _ ?side1 ?side2 A9.out).mono ?_); (case side1 => repeat (first | exact (Kd.C_below HR1.out (by repeat (first | (with_reducible first | exact HB.out | apply below_alloc | apply pw_below_drewN | apply below_drew1) | exact HB.out))) | (with_reducible refine Kd.C_alloc ?_ _) | (with_reducible refine Kd.C_drewN ?_ _) | (with_reducible refine Kd.C_drew ?_))); (case side2 => exact HC1.out); rintro e w' ⟨rfl, ⟨nd, rfl⟩⟩; (try first | exact ⟨rfl, _, World.drewN_drewN _ _ _⟩ | exact ⟨rfl, _, Eq.trans (World.drewN_drewN _ _ _) (congrArg (World.drewN _) (Nat.add_assoc _ _ _))⟩))))
            go_meet
            case rel => exact ⟨_, (!t116), (by first | rfl | (simp; done) | (simp [*]; done)), H', ⟨by have := HJ2.out; first | omega | exact Nat.le_refl _⟩, ⟨by (with_reducible repeat (first | apply Kd.V_alloc | apply Kd.V_drewN | apply Kd.V_drew)); exact Kd.V_mono HO_0.out (fun _ hk => hk.1)⟩, ⟨by repeat (first | (with_reducible first | exact HB.out | apply below_alloc | apply pw_below_drewN | apply below_drew1) | exact HB.out)⟩⟩
          · replace c8 := Bool.eq_false_iff.mpr c8
            subst c8
            have H1 : (laws_FnInputReader.j1 kj2 l0 l1 true) = some r := by rw [if_neg (show ¬ (false = true) by decide)] at H; exact H
            clear H
            have H := H1
            clear H1
            have H' := Aside0.mk H
            clear H
            go_wp2_with (first | ((with_reducible refine gate_dst (N := 20) rfl ?_); (try (refine gate_guard (by rfl) ?_; dsimp only)); refine Kd.N_lit (Kd.slice 5 (Kd.int .u8)) _ 22 ?hg (N' := 20) ?hd (xs := ([l0] : List (List Int))) (inner := [.slice A0 l0.length c0]) (ok := (fun k_ => (P0_ k_ ∨ w.heap.size ≤ k_))) (okp := (fun k_ => (P0_ k_ ∨ w.heap.size ≤ k_))) ?hr ?hp (fun _ hk => hk) ((show ∀ k_, wc.heap.size ≤ k_ → (fun k_ => (P0_ k_ ∨ w.heap.size ≤ k_)) k_ from fun k_ hk => (.inr (Nat.le_trans (below_size (by repeat (first | (with_reducible first | exact HB.out | apply below_alloc | apply pw_below_drewN | apply below_drew1) | exact HB.out))) hk))) _ (Nat.le_refl _)) (Below.refl _ _) (Nat.le_refl _) (by simp) ?_; (case hd => rfl); (case hg => rfl); (case hr => first | (go_simp; done) | (go_simp; rfl)); (case hp => first | exact (Reps.one (show Kd.FK (Kd.slice 5 (Kd.int .u8)) _ _ l0 [.slice A0 l0.length c0] from (Kd.FK_slice_mk (Kd.V_reads' (Kd.V_mono (ok' := (fun k_ => (P0_ k_ ∨ w.heap.size ≤ k_))) (HO_0.out) (fun k_ hk => hk))).2.1 (Kd.V_F (Kd.V_mono (ok' := (fun k_ => (P0_ k_ ∨ w.heap.size ≤ k_))) (HO_0.out) (fun k_ hk => hk))))) (Reps.none _ _)) | exact (Reps.one (show Kd.FK (Kd.slice 5 (Kd.int .u8)) _ _ l0 [.slice A0 l0.length c0] from (Kd.FK_slice_mk (Kd.V_reads' (Kd.V_mono (ok' := (fun k_ => (P0_ k_ ∨ w.heap.size ≤ k_))) (HO_0.out) (fun k_ hk => hk))).2.1 (Kd.V_F (Kd.V_mono (ok' := (fun k_ => (P0_ k_ ∨ w.heap.size ≤ k_))) ((Kd.V_drewN HO_0.out _)) (fun k_ hk => hk))))) (Reps.none _ _)) | exact (Reps.one (show Kd.FK (Kd.slice 5 (Kd.int .u8)) _ _ l0 [.slice A0 l0.length c0] from (Kd.FK_slice_mk (Kd.V_reads' (Kd.V_mono (ok' := (fun k_ => (P0_ k_ ∨ w.heap.size ≤ k_))) (HO_0.out) (fun k_ hk => hk))).2.1 (Kd.V_F (Kd.V_mono (ok' := (fun k_ => (P0_ k_ ∨ w.heap.size ≤ k_))) ((Kd.V_alloc HO_0.out _)) (fun k_ hk => hk))))) (Reps.none _ _)) | exact (Reps.one (show Kd.FK (Kd.slice 5 (Kd.int .u8)) _ _ l0 [.slice A0 l0.length c0] from (Kd.FK_slice_mk (Kd.V_reads' (Kd.V_mono (ok' := (fun k_ => (P0_ k_ ∨ w.heap.size ≤ k_))) (HO_0.out) (fun k_ hk => hk))).2.1 (Kd.V_F (Kd.V_mono (ok' := (fun k_ => (P0_ k_ ∨ w.heap.size ≤ k_))) ((by (with_reducible repeat (first | apply Kd.V_alloc | apply Kd.V_drewN | apply Kd.V_drew)); exact HO_0.out)) (fun k_ hk => hk))))) (Reps.none _ _))); intro v113 w13 ho14 hb hg_ hnew_; clear hg_ hnew_; (first | rw [← Ny112.out] at ho14 | (simp only [Int.reduceToNat] at ho14; rw [← Ny112.out] at ho14)); have n0_ := Aside0.mk (Kd.V_elder' (by (with_reducible repeat (first | apply Kd.V_alloc | apply Kd.V_drewN | apply Kd.V_drew)); exact HO_0.out) (Kd.N_base ho14) hb); have n1_ := Aside0.mk (Kd.N_lower ho14 (below_size (by repeat (first | (with_reducible first | exact HB.out | apply below_alloc | apply pw_below_drewN | apply below_drew1) | exact HB.out)))); have n2_ := Aside0.mk (below_step (by repeat (first | (with_reducible first | exact HB.out | apply below_alloc | apply pw_below_drewN | apply below_drew1) | exact HB.out)) hb); clear HO_0; clear HB; have HO_0 := n0_; have HO114 := n1_; have HB := n2_; clear n0_ n1_ n2_; clear hb ho14; obtain ⟨Ao15, co15, eo15⟩ := Kd.N_slice HO114.out; subst eo15) | (go_at_call 8; (with_reducible refine (laws_fewBytes.calls kj2 _ _ y112 false _ ?side1 ?side2 A7.out).mono ?_); (case side1 => repeat (first | exact (Kd.N_reads' HO114.out).2.2 | (with_reducible refine Kd.C_alloc ?_ _) | (with_reducible refine Kd.C_drewN ?_ _) | (with_reducible refine Kd.C_drew ?_))); (case side2 => exact (Kd.N_reads' HO114.out).2.1); rintro e w' ⟨rfl, ⟨nd, rfl⟩⟩; (try first | exact ⟨rfl, _, World.drewN_drewN _ _ _⟩ | exact ⟨rfl, _, Eq.trans (World.drewN_drewN _ _ _) (congrArg (World.drewN _) (Nat.add_assoc _ _ _))⟩)))
            repeat (go_quiet (first | ((with_reducible refine gate_dst (N := 20) rfl ?_); (try (refine gate_guard (by rfl) ?_; dsimp only)); refine Kd.N_lit (Kd.slice 5 (Kd.int .u8)) _ 22 ?hg (N' := 20) ?hd (xs := ([l0] : List (List Int))) (inner := [.slice A0 l0.length c0]) (ok := (fun k_ => (P0_ k_ ∨ w.heap.size ≤ k_))) (okp := (fun k_ => (P0_ k_ ∨ w.heap.size ≤ k_))) ?hr ?hp (fun _ hk => hk) ((show ∀ k_, wc.heap.size ≤ k_ → (fun k_ => (P0_ k_ ∨ w.heap.size ≤ k_)) k_ from fun k_ hk => (.inr (Nat.le_trans (below_size (by repeat (first | (with_reducible first | exact HB.out | apply below_alloc | apply pw_below_drewN | apply below_drew1) | exact HB.out))) hk))) _ (Nat.le_refl _)) (Below.refl _ _) (Nat.le_refl _) (by simp) ?_; (case hd => rfl); (case hg => rfl); (case hr => first | (go_simp; done) | (go_simp; rfl)); (case hp => first | exact (Reps.one (show Kd.FK (Kd.slice 5 (Kd.int .u8)) _ _ l0 [.slice A0 l0.length c0] from (Kd.FK_slice_mk (Kd.V_reads' (Kd.V_mono (ok' := (fun k_ => (P0_ k_ ∨ w.heap.size ≤ k_))) (HO_0.out) (fun k_ hk => hk))).2.1 (Kd.V_F (Kd.V_mono (ok' := (fun k_ => (P0_ k_ ∨ w.heap.size ≤ k_))) (HO_0.out) (fun k_ hk => hk))))) (Reps.none _ _)) | exact (Reps.one (show Kd.FK (Kd.slice 5 (Kd.int .u8)) _ _ l0 [.slice A0 l0.length c0] from (Kd.FK_slice_mk (Kd.V_reads' (Kd.V_mono (ok' := (fun k_ => (P0_ k_ ∨ w.heap.size ≤ k_))) (HO_0.out) (fun k_ hk => hk))).2.1 (Kd.V_F (Kd.V_mono (ok' := (fun k_ => (P0_ k_ ∨ w.heap.size ≤ k_))) ((Kd.V_drewN HO_0.out _)) (fun k_ hk => hk))))) (Reps.none _ _)) | exact (Reps.one (show Kd.FK (Kd.slice 5 (Kd.int .u8)) _ _ l0 [.slice A0 l0.length c0] from (Kd.FK_slice_mk (Kd.V_reads' (Kd.V_mono (ok' := (fun k_ => (P0_ k_ ∨ w.heap.size ≤ k_))) (HO_0.out) (fun k_ hk => hk))).2.1 (Kd.V_F (Kd.V_mono (ok' := (fun k_ => (P0_ k_ ∨ w.heap.size ≤ k_))) ((Kd.V_alloc HO_0.out _)) (fun k_ hk => hk))))) (Reps.none _ _)) | exact (Reps.one (show Kd.FK (Kd.slice 5 (Kd.int .u8)) _ _ l0 [.slice A0 l0.length c0] from (Kd.FK_slice_mk (Kd.V_reads' (Kd.V_mono (ok' := (fun k_ => (P0_ k_ ∨ w.heap.size ≤ k_))) (HO_0.out) (fun k_ hk => hk))).2.1 (Kd.V_F (Kd.V_mono (ok' := (fun k_ => (P0_ k_ ∨ w.heap.size ≤ k_))) ((by (with_reducible repeat (first | apply Kd.V_alloc | apply Kd.V_drewN | apply Kd.V_drew)); exact HO_0.out)) (fun k_ hk => hk))))) (Reps.none _ _))); intro v113 w13 ho14 hb hg_ hnew_; clear hg_ hnew_; (first | rw [← Ny112.out] at ho14 | (simp only [Int.reduceToNat] at ho14; rw [← Ny112.out] at ho14)); have n0_ := Aside0.mk (Kd.V_elder' (by (with_reducible repeat (first | apply Kd.V_alloc | apply Kd.V_drewN | apply Kd.V_drew)); exact HO_0.out) (Kd.N_base ho14) hb); have n1_ := Aside0.mk (Kd.N_lower ho14 (below_size (by repeat (first | (with_reducible first | exact HB.out | apply below_alloc | apply pw_below_drewN | apply below_drew1) | exact HB.out)))); have n2_ := Aside0.mk (below_step (by repeat (first | (with_reducible first | exact HB.out | apply below_alloc | apply pw_below_drewN | apply below_drew1) | exact HB.out)) hb); clear HO_0; clear HB; have HO_0 := n0_; have HO114 := n1_; have HB := n2_; clear n0_ n1_ n2_; clear hb ho14; obtain ⟨Ao15, co15, eo15⟩ := Kd.N_slice HO114.out; subst eo15) | (go_at_call 8; (with_reducible refine (laws_fewBytes.calls kj2 _ _ y112 false _ ?side1 ?side2 A7.out).mono ?_); (case side1 => repeat (first | exact (Kd.N_reads' HO114.out).2.2 | (with_reducible refine Kd.C_alloc ?_ _) | (with_reducible refine Kd.C_drewN ?_ _) | (with_reducible refine Kd.C_drew ?_))); (case side2 => exact (Kd.N_reads' HO114.out).2.1); rintro e w' ⟨rfl, ⟨nd, rfl⟩⟩; (try first | exact ⟨rfl, _, World.drewN_drewN _ _ _⟩ | exact ⟨rfl, _, Eq.trans (World.drewN_drewN _ _ _) (congrArg (World.drewN _) (Nat.add_assoc _ _ _))⟩))); try go_wp2_with (first | ((with_reducible refine gate_dst (N := 20) rfl ?_); (try (refine gate_guard (by rfl) ?_; dsimp only)); refine Kd.N_lit (Kd.slice 5 (Kd.int .u8)) _ 22 ?hg (N' := 20) ?hd (xs := ([l0] : List (List Int))) (inner := [.slice A0 l0.length c0]) (ok := (fun k_ => (P0_ k_ ∨ w.heap.size ≤ k_))) (okp := (fun k_ => (P0_ k_ ∨ w.heap.size ≤ k_))) ?hr ?hp (fun _ hk => hk) ((show ∀ k_, wc.heap.size ≤ k_ → (fun k_ => (P0_ k_ ∨ w.heap.size ≤ k_)) k_ from fun k_ hk => (.inr (Nat.le_trans (below_size (by repeat (first | (with_reducible first | exact HB.out | apply below_alloc | apply pw_below_drewN | apply below_drew1) | exact HB.out))) hk))) _ (Nat.le_refl _)) (Below.refl _ _) (Nat.le_refl _) (by simp) ?_; (case hd => rfl); (case hg => rfl); (case hr => first | (go_simp; done) | (go_simp; rfl)); (case hp => first | exact (Reps.one (show Kd.FK (Kd.slice 5 (Kd.int .u8)) _ _ l0 [.slice A0 l0.length c0] from (Kd.FK_slice_mk (Kd.V_reads' (Kd.V_mono (ok' := (fun k_ => (P0_ k_ ∨ w.heap.size ≤ k_))) (HO_0.out) (fun k_ hk => hk))).2.1 (Kd.V_F (Kd.V_mono (ok' := (fun k_ => (P0_ k_ ∨ w.heap.size ≤ k_))) (HO_0.out) (fun k_ hk => hk))))) (Reps.none _ _)) | exact (Reps.one (show Kd.FK (Kd.slice 5 (Kd.int .u8)) _ _ l0 [.slice A0 l0.length c0] from (Kd.FK_slice_mk (Kd.V_reads' (Kd.V_mono (ok' := (fun k_ => (P0_ k_ ∨ w.heap.size ≤ k_))) (HO_0.out) (fun k_ hk => hk))).2.1 (Kd.V_F (Kd.V_mono (ok' := (fun k_ => (P0_ k_ ∨ w.heap.size ≤ k_))) ((Kd.V_drewN HO_0.out _)) (fun k_ hk => hk))))) (Reps.none _ _)) | exact (Reps.one (show Kd.FK (Kd.slice 5 (Kd.int .u8)) _ _ l0 [.slice A0 l0.length c0] from (Kd.FK_slice_mk (Kd.V_reads' (Kd.V_mono (ok' := (fun k_ => (P0_ k_ ∨ w.heap.size ≤ k_))) (HO_0.out) (fun k_ hk => hk))).2.1 (Kd.V_F (Kd.V_mono (ok' := (fun k_ => (P0_ k_ ∨ w.heap.size ≤ k_))) ((Kd.V_alloc HO_0.out _)) (fun k_ hk => hk))))) (Reps.none _ _)) | exact (Reps.one (show Kd.FK (Kd.slice 5 (Kd.int .u8)) _ _ l0 [.slice A0 l0.length c0] from (Kd.FK_slice_mk (Kd.V_reads' (Kd.V_mono (ok' := (fun k_ => (P0_ k_ ∨ w.heap.size ≤ k_))) (HO_0.out) (fun k_ hk => hk))).2.1 (Kd.V_F (Kd.V_mono (ok' := (fun k_ => (P0_ k_ ∨ w.heap.size ≤ k_))) ((by (with_reducible repeat (first | apply Kd.V_alloc | apply Kd.V_drewN | apply Kd.V_drew)); exact HO_0.out)) (fun k_ hk => hk))))) (Reps.none _ _))); intro v113 w13 ho14 hb hg_ hnew_; clear hg_ hnew_; (first | rw [← Ny112.out] at ho14 | (simp only [Int.reduceToNat] at ho14; rw [← Ny112.out] at ho14)); have n0_ := Aside0.mk (Kd.V_elder' (by (with_reducible repeat (first | apply Kd.V_alloc | apply Kd.V_drewN | apply Kd.V_drew)); exact HO_0.out) (Kd.N_base ho14) hb); have n1_ := Aside0.mk (Kd.N_lower ho14 (below_size (by repeat (first | (with_reducible first | exact HB.out | apply below_alloc | apply pw_below_drewN | apply below_drew1) | exact HB.out)))); have n2_ := Aside0.mk (below_step (by repeat (first | (with_reducible first | exact HB.out | apply below_alloc | apply pw_below_drewN | apply below_drew1) | exact HB.out)) hb); clear HO_0; clear HB; have HO_0 := n0_; have HO114 := n1_; have HB := n2_; clear n0_ n1_ n2_; clear hb ho14; obtain ⟨Ao15, co15, eo15⟩ := Kd.N_slice HO114.out; subst eo15) | (go_at_call 8; (with_reducible refine (laws_fewBytes.calls kj2 _ _ y112 false _ ?side1 ?side2 A7.out).mono ?_); (case side1 => repeat (first | exact (Kd.N_reads' HO114.out).2.2 | (with_reducible refine Kd.C_alloc ?_ _) | (with_reducible refine Kd.C_drewN ?_ _) | (with_reducible refine Kd.C_drew ?_))); (case side2 => exact (Kd.N_reads' HO114.out).2.1); rintro e w' ⟨rfl, ⟨nd, rfl⟩⟩; (try first | exact ⟨rfl, _, World.drewN_drewN _ _ _⟩ | exact ⟨rfl, _, Eq.trans (World.drewN_drewN _ _ _) (congrArg (World.drewN _) (Nat.add_assoc _ _ _))⟩))))
            go_meet
            case rel => exact ⟨_, (true), (by first | rfl | (simp; done) | (simp [*]; done)), H', ⟨by have := HJ2.out; first | omega | exact Nat.le_refl _⟩, ⟨by (with_reducible repeat (first | apply Kd.V_alloc | apply Kd.V_drewN | apply Kd.V_drew)); exact Kd.V_mono HO_0.out (fun _ hk => hk.1)⟩, ⟨by repeat (first | (with_reducible first | exact HB.out | apply below_alloc | apply pw_below_drewN | apply below_drew1) | exact HB.out)⟩⟩
        case rest =>
          clear HC6
          try clear c1
          try clear p2
          try clear c3
          try clear c4
          try clear c4b0
          try clear c4b1
          try clear c5
          try clear c8
          try clear p2
          obtain ⟨kq, x27_5, rfl, HA, HJ5, HO_0, HB⟩ := hcut
          cases kq with
          | zero => exact absurd HA.out (by simp [laws_FnInputReader.j1])
          | succ kj5 =>
            have H := HA.out
            clear HA
            simp only [laws_FnInputReader.j1] at H
            by_cases c16 : x27_5 = true
            · subst c16
              have H1 : (some true) = some r := by rw [if_pos rfl] at H; exact H
              clear H
              have H := H1
              clear H1
              obtain rfl := Option.some.inj H
              go_wp2
              repeat (go_quiet (fail); try go_wp2)
              go_ret
              exact ⟨by first | rfl | (simp [errW_none, errW_some] <;> rfl) | (simp [*, errW_none, errW_some] <;> rfl), by repeat (first | (with_reducible first | exact HB.out | apply below_alloc | apply pw_below_drewN | apply below_drew1) | exact HB.out)⟩
            · replace c16 := Bool.eq_false_iff.mpr c16
              subst c16
              have H1 : ((impl_ReadPieces.f l0 l1).bind fun bt117 => (if (bt117.1.length : Int) = (l1.length : Int) then (laws_FnInputReader.j2 kj5 l0 l1 bt117.1 bt117.2 ((bt117.2.length : Int) != (l1.length : Int))) else (laws_FnInputReader.j2 kj5 l0 l1 bt117.1 bt117.2 true))) = some r := by rw [if_neg (show ¬ (false = true) by decide)] at H; exact H
              clear H
              have H := H1
              clear H1
              replace H := Option.bind_eq_some_iff.mp H
              obtain ⟨⟨t117, t118⟩, A170, H⟩ := H
              replace H : (if (t117.length : Int) = (l1.length : Int) then (laws_FnInputReader.j2 kj5 l0 l1 t117 t118 ((t118.length : Int) != (l1.length : Int))) else (laws_FnInputReader.j2 kj5 l0 l1 t117 t118 true)) = some r := H
              have A17 := Aside0.mk A170
              clear A170
              have HC18 := Aside0.mk H
              clear H
              go_upto_region 6 with (first | (go_at_call 10; (with_reducible refine (impl_ReadPieces.calls _ _ l0 _ _ l1 t117 t118 _ ?side1 ?side2 ?side3 ?side4 A17.out ?tabTabE).mono ?_); (case tabTabE => first | exact HTabE | exact ⟨Own.TabE.below HTabE.out (by repeat (first | (with_reducible first | exact HB.out | apply below_alloc | apply pw_below_drewN | apply below_drew1) | exact HB.out))⟩ | exact ⟨Own.TabE.drawn HTabE.out (by repeat (first | exact Drawn0.refl _ | apply Drawn0.step))⟩); (case side1 => repeat (first | exact (Kd.V_reads' HO_0.out).2.2 | (with_reducible refine Kd.C_alloc ?_ _) | (with_reducible refine Kd.C_drewN ?_ _) | (with_reducible refine Kd.C_drew ?_))); (case side2 => exact (Kd.V_reads' HO_0.out).2.1); (case side3 => repeat (first | exact (Kd.C_below HR1.out HB.out) | (with_reducible refine Kd.C_alloc ?_ _) | (with_reducible refine Kd.C_drewN ?_ _) | (with_reducible refine Kd.C_drew ?_))); (case side4 => exact HC1.out); rintro e w19 ⟨v119, v121, rfl, ho0, ho1, hb⟩; have n0_ := Aside0.mk (Kd.V_mono (Kd.V_told (Kd.V_told (Kd.V_old (by (with_reducible repeat (first | apply Kd.V_alloc | apply Kd.V_drewN | apply Kd.V_drew)); exact HO_0.out) hb) (Kd.S_base ho0)) (Kd.R_base ho1)) (fun _ h_ => h_.1)); have n1_ := Aside0.mk (Kd.N_lower (Kd.N_mono (ok' := fun k_ => (P0_ k_ ∨ w.heap.size ≤ k_) ∧ some k_ ≠ (v121 : Value).ownBlock) (Kd.S_N (Kd.S_bound (Kd.S_apart' ho0 (Kd.R_typed ho1) (by decide)))) (fun k_ hk_ => ⟨(.inr (Nat.le_trans (below_size (by repeat (first | (with_reducible first | exact HB.out | apply below_alloc | apply pw_below_drewN | apply below_drew1) | exact HB.out))) hk_.2.1)), hk_.1.2⟩)) (below_size (by repeat (first | (with_reducible first | exact HB.out | apply below_alloc | apply pw_below_drewN | apply below_drew1) | exact HB.out)))); have n2_ := Aside0.mk (Kd.R_lower (Kd.R_newM (M := fun k_ => (w.heap.size ≤ k_)) ho1 (below_size (by repeat (first | (with_reducible first | exact HB.out | apply below_alloc | apply pw_below_drewN | apply below_drew1) | exact HB.out))) (fun k_ h_ => h_)) (below_size (by repeat (first | (with_reducible first | exact HB.out | apply below_alloc | apply pw_below_drewN | apply below_drew1) | exact HB.out)))); have n3_ := Aside0.mk (below_step (by repeat (first | (with_reducible first | exact HB.out | apply below_alloc | apply pw_below_drewN | apply below_drew1) | exact HB.out)) hb); clear HO_0; clear HB; have HO_0 := n0_; have HO120 := n1_; have HO122 := n2_; have HB := n3_; clear n0_ n1_ n2_ n3_; (try clear hb); (try clear hb2); (try clear hk); (try clear hi); (try clear ho0); (try clear ho1)))
              repeat (go_quiet (first | (go_at_call 10; (with_reducible refine (impl_ReadPieces.calls _ _ l0 _ _ l1 t117 t118 _ ?side1 ?side2 ?side3 ?side4 A17.out ?tabTabE).mono ?_); (case tabTabE => first | exact HTabE | exact ⟨Own.TabE.below HTabE.out (by repeat (first | (with_reducible first | exact HB.out | apply below_alloc | apply pw_below_drewN | apply below_drew1) | exact HB.out))⟩ | exact ⟨Own.TabE.drawn HTabE.out (by repeat (first | exact Drawn0.refl _ | apply Drawn0.step))⟩); (case side1 => repeat (first | exact (Kd.V_reads' HO_0.out).2.2 | (with_reducible refine Kd.C_alloc ?_ _) | (with_reducible refine Kd.C_drewN ?_ _) | (with_reducible refine Kd.C_drew ?_))); (case side2 => exact (Kd.V_reads' HO_0.out).2.1); (case side3 => repeat (first | exact (Kd.C_below HR1.out HB.out) | (with_reducible refine Kd.C_alloc ?_ _) | (with_reducible refine Kd.C_drewN ?_ _) | (with_reducible refine Kd.C_drew ?_))); (case side4 => exact HC1.out); rintro e w19 ⟨v119, v121, rfl, ho0, ho1, hb⟩; have n0_ := Aside0.mk (Kd.V_mono (Kd.V_told (Kd.V_told (Kd.V_old (by (with_reducible repeat (first | apply Kd.V_alloc | apply Kd.V_drewN | apply Kd.V_drew)); exact HO_0.out) hb) (Kd.S_base ho0)) (Kd.R_base ho1)) (fun _ h_ => h_.1)); have n1_ := Aside0.mk (Kd.N_lower (Kd.N_mono (ok' := fun k_ => (P0_ k_ ∨ w.heap.size ≤ k_) ∧ some k_ ≠ (v121 : Value).ownBlock) (Kd.S_N (Kd.S_bound (Kd.S_apart' ho0 (Kd.R_typed ho1) (by decide)))) (fun k_ hk_ => ⟨(.inr (Nat.le_trans (below_size (by repeat (first | (with_reducible first | exact HB.out | apply below_alloc | apply pw_below_drewN | apply below_drew1) | exact HB.out))) hk_.2.1)), hk_.1.2⟩)) (below_size (by repeat (first | (with_reducible first | exact HB.out | apply below_alloc | apply pw_below_drewN | apply below_drew1) | exact HB.out)))); have n2_ := Aside0.mk (Kd.R_lower (Kd.R_newM (M := fun k_ => (w.heap.size ≤ k_)) ho1 (below_size (by repeat (first | (with_reducible first | exact HB.out | apply below_alloc | apply pw_below_drewN | apply below_drew1) | exact HB.out))) (fun k_ h_ => h_)) (below_size (by repeat (first | (with_reducible first | exact HB.out | apply below_alloc | apply pw_below_drewN | apply below_drew1) | exact HB.out)))); have n3_ := Aside0.mk (below_step (by repeat (first | (with_reducible first | exact HB.out | apply below_alloc | apply pw_below_drewN | apply below_drew1) | exact HB.out)) hb); clear HO_0; clear HB; have HO_0 := n0_; have HO120 := n1_; have HO122 := n2_; have HB := n3_; clear n0_ n1_ n2_ n3_; (try clear hb); (try clear hb2); (try clear hk); (try clear hi); (try clear ho0); (try clear ho1))); go_upto_region 6 with (first | (go_at_call 10; (with_reducible refine (impl_ReadPieces.calls _ _ l0 _ _ l1 t117 t118 _ ?side1 ?side2 ?side3 ?side4 A17.out ?tabTabE).mono ?_); (case tabTabE => first | exact HTabE | exact ⟨Own.TabE.below HTabE.out (by repeat (first | (with_reducible first | exact HB.out | apply below_alloc | apply pw_below_drewN | apply below_drew1) | exact HB.out))⟩ | exact ⟨Own.TabE.drawn HTabE.out (by repeat (first | exact Drawn0.refl _ | apply Drawn0.step))⟩); (case side1 => repeat (first | exact (Kd.V_reads' HO_0.out).2.2 | (with_reducible refine Kd.C_alloc ?_ _) | (with_reducible refine Kd.C_drewN ?_ _) | (with_reducible refine Kd.C_drew ?_))); (case side2 => exact (Kd.V_reads' HO_0.out).2.1); (case side3 => repeat (first | exact (Kd.C_below HR1.out HB.out) | (with_reducible refine Kd.C_alloc ?_ _) | (with_reducible refine Kd.C_drewN ?_ _) | (with_reducible refine Kd.C_drew ?_))); (case side4 => exact HC1.out); rintro e w19 ⟨v119, v121, rfl, ho0, ho1, hb⟩; have n0_ := Aside0.mk (Kd.V_mono (Kd.V_told (Kd.V_told (Kd.V_old (by (with_reducible repeat (first | apply Kd.V_alloc | apply Kd.V_drewN | apply Kd.V_drew)); exact HO_0.out) hb) (Kd.S_base ho0)) (Kd.R_base ho1)) (fun _ h_ => h_.1)); have n1_ := Aside0.mk (Kd.N_lower (Kd.N_mono (ok' := fun k_ => (P0_ k_ ∨ w.heap.size ≤ k_) ∧ some k_ ≠ (v121 : Value).ownBlock) (Kd.S_N (Kd.S_bound (Kd.S_apart' ho0 (Kd.R_typed ho1) (by decide)))) (fun k_ hk_ => ⟨(.inr (Nat.le_trans (below_size (by repeat (first | (with_reducible first | exact HB.out | apply below_alloc | apply pw_below_drewN | apply below_drew1) | exact HB.out))) hk_.2.1)), hk_.1.2⟩)) (below_size (by repeat (first | (with_reducible first | exact HB.out | apply below_alloc | apply pw_below_drewN | apply below_drew1) | exact HB.out)))); have n2_ := Aside0.mk (Kd.R_lower (Kd.R_newM (M := fun k_ => (w.heap.size ≤ k_)) ho1 (below_size (by repeat (first | (with_reducible first | exact HB.out | apply below_alloc | apply pw_below_drewN | apply below_drew1) | exact HB.out))) (fun k_ h_ => h_)) (below_size (by repeat (first | (with_reducible first | exact HB.out | apply below_alloc | apply pw_below_drewN | apply below_drew1) | exact HB.out)))); have n3_ := Aside0.mk (below_step (by repeat (first | (with_reducible first | exact HB.out | apply below_alloc | apply pw_below_drewN | apply below_drew1) | exact HB.out)) hb); clear HO_0; clear HB; have HO_0 := n0_; have HO120 := n1_; have HO122 := n2_; have HB := n3_; clear n0_ n1_ n2_ n3_; (try clear hb); (try clear hb2); (try clear hk); (try clear hi); (try clear ho0); (try clear ho1))))
              (try simp only [Act.put, List.setIfInBounds_toArray, List.set_cons_zero, List.set_cons_succ])
              go_cut [45] (fun v45 wc => ∃ (kq : Nat) (x45_17 : Bool), v45 = .bool x45_17 ∧ Aside0 (laws_FnInputReader.j2 kq l0 l1 t117 t118 x45_17 = some r) ∧ Aside0 (kq ≤ kj5) ∧ Aside0 (Kd.V (Kd.int .u8) 5 wc w.heap.size (fun k_ => (P0_ k_ ∨ w.heap.size ≤ k_) ∧ some k_ ≠ (v119 : Value).ownBlock ∧ some k_ ≠ (v121 : Value).ownBlock) (.slice A0 l0.length c0) l0) ∧ Aside0 (Kd.N (Kd.slice 5 (Kd.int .u8)) 22 wc w.heap.size (fun k_ => (P0_ k_ ∨ w.heap.size ≤ k_) ∧ some k_ ≠ (v121 : Value).ownBlock) v119 t117) ∧ Aside0 (Kd.R Kd.bool 4 wc w.heap.size (fun k_ => (w.heap.size ≤ k_)) v121 t118) ∧ Aside0 (Below w.heap.size w wc))
              case first =>
                have H := HC18.out
                clear HC18
                by_cases c20 : (t117.length : Int) = (l1.length : Int)
                · rw [if_pos c20] at H
                  have c20b0 : ((t117.length : Int) == (l1.length : Int)) = true := beq_iff_eq.mpr c20
                  have c20b1 : ((t117.length : Int) != (l1.length : Int)) = false := bne_eq_false_iff_eq.mpr c20
                  have c20b2 : (t117.length == l1.length) = true := by first | simpa using c20 | (simp at c20 ⊢; omega)
                  clear c20
                  (first | rw [c20b0] | (simp only [i64_w, i32_w]; rw [c20b0]) | skip)
                  have H' := Aside0.mk H
                  clear H
                  obtain ⟨Ao21, co21, eo21⟩ := Kd.N_slice HO120.out
                  subst eo21
                  obtain ⟨Ao22, co22, eo22⟩ := Kd.R_slice HO122.out
                  subst eo22
                  go_wp2
                  repeat (go_quiet (fail); try go_wp2)
                  go_meet
                  case rel => exact ⟨_, (((t118.length : Int) != (l1.length : Int))), (by first | rfl | (simp; done) | (simp [*]; done)), H', ⟨by have := HJ2.out; have := HJ5.out; first | omega | exact Nat.le_refl _⟩, ⟨by (with_reducible repeat (first | apply Kd.V_alloc | apply Kd.V_drewN | apply Kd.V_drew)); exact Kd.V_mono HO_0.out (fun _ hk => ⟨hk.1.1, ⟨hk.1.2, hk.2⟩⟩)⟩, ⟨by (with_reducible repeat (first | apply Kd.N_alloc | apply Kd.N_drewN | apply Kd.N_drew)); exact HO120.out⟩, ⟨by (with_reducible repeat (first | apply Kd.R_alloc | apply Kd.R_drewN | apply Kd.R_drew)); exact Kd.R_mono HO122.out (fun _ hk => hk.1)⟩, ⟨by repeat (first | (with_reducible first | exact HB.out | apply below_alloc | apply pw_below_drewN | apply below_drew1) | exact HB.out)⟩⟩
                · rw [if_neg c20] at H
                  have c20b0 : ((t117.length : Int) == (l1.length : Int)) = false := beq_eq_false_iff_ne.mpr c20
                  have c20b1 : ((t117.length : Int) != (l1.length : Int)) = true := bne_iff_ne.mpr c20
                  have c20b2 : (t117.length == l1.length) = false := by first | simpa using c20 | (simp at c20 ⊢; omega)
                  (first | rw [c20b0] | (simp only [i64_w, i32_w]; rw [c20b0]) | skip)
                  have H' := Aside0.mk H
                  clear H
                  obtain ⟨Ao23, co23, eo23⟩ := Kd.N_slice HO120.out
                  subst eo23
                  go_wp2
                  repeat (go_quiet (fail); try go_wp2)
                  go_meet
                  case rel => exact ⟨_, (true), (by first | rfl | (simp; done) | (simp [*]; done)), H', ⟨by have := HJ2.out; have := HJ5.out; first | omega | exact Nat.le_refl _⟩, ⟨by (with_reducible repeat (first | apply Kd.V_alloc | apply Kd.V_drewN | apply Kd.V_drew)); exact Kd.V_mono HO_0.out (fun _ hk => ⟨hk.1.1, ⟨hk.1.2, hk.2⟩⟩)⟩, ⟨by (with_reducible repeat (first | apply Kd.N_alloc | apply Kd.N_drewN | apply Kd.N_drew)); exact HO120.out⟩, ⟨by (with_reducible repeat (first | apply Kd.R_alloc | apply Kd.R_drewN | apply Kd.R_drew)); exact Kd.R_mono HO122.out (fun _ hk => hk.1)⟩, ⟨by repeat (first | (with_reducible first | exact HB.out | apply below_alloc | apply pw_below_drewN | apply below_drew1) | exact HB.out)⟩⟩
              case rest =>
                clear HC18
                try clear c1
                try clear c2
                try clear p2
                try clear c3
                try clear c4
                try clear c4b0
                try clear c4b1
                try clear c5
                try clear c8
                try clear c16
                try clear c20
                try clear c20b0
                try clear c20b1
                try clear c20b2
                try clear p2
                obtain ⟨kq, x45_17, rfl, HA, HJ17, HO_0, HO_5, HO_6, HB⟩ := hcut
                cases kq with
                | zero => exact absurd HA.out (by simp [laws_FnInputReader.j2])
                | succ kj17 =>
                  have H := HA.out
                  clear HA
                  simp only [laws_FnInputReader.j2] at H
                  by_cases c24 : x45_17 = true
                  · subst c24
                    have H1 : (some false) = some r := by rw [if_pos rfl] at H; exact H
                    clear H
                    have H := H1
                    clear H1
                    obtain rfl := Option.some.inj H
                    go_wp2
                    repeat (go_quiet (fail); try go_wp2)
                    go_ret
                    exact ⟨by first | rfl | (simp [errW_none, errW_some] <;> rfl) | (simp [*, errW_none, errW_some] <;> rfl), by repeat (first | (with_reducible first | exact HB.out | apply below_alloc | apply pw_below_drewN | apply below_drew1) | exact HB.out)⟩
                  · replace c24 := Bool.eq_false_iff.mpr c24
                    subst c24
                    have H1 : (laws_FnInputReader.l0 kj17 l0 t117 t118 0 l1 (l1.length : Int) 0) = some r := by rw [if_neg (show ¬ (false = true) by decide)] at H; exact H
                    clear H
                    have H := H1
                    clear H1
                    have H' := Aside0.mk H
                    clear H
                    go_wp2
                    repeat (go_quiet (fail); try go_wp2)
                    go_loopg [7, 48] kj17 (fun kq v7 v48 w' => ∃ (x7_4 : Int) (x48_4 : Int), v7 = .int .i64 x7_4 ∧ v48 = .int .i64 x48_4 ∧ Aside0 (laws_FnInputReader.l0 kq l0 t117 t118 x7_4 l1 (l1.length : Int) x48_4 = some r) ∧ Aside0 (kq ≤ kj17) ∧ Aside0 (Kd.V (Kd.int .u8) 5 w' w.heap.size (fun k_ => (P0_ k_ ∨ w.heap.size ≤ k_) ∧ some k_ ≠ (v119 : Value).ownBlock ∧ some k_ ≠ (v121 : Value).ownBlock) (.slice A0 l0.length c0) l0) ∧ Aside0 (Kd.N (Kd.slice 5 (Kd.int .u8)) 22 w' w.heap.size (fun k_ => (P0_ k_ ∨ w.heap.size ≤ k_) ∧ some k_ ≠ (v121 : Value).ownBlock) v119 t117) ∧ Aside0 (Kd.R Kd.bool 4 w' w.heap.size (fun k_ => (w.heap.size ≤ k_)) v121 t118) ∧ Aside0 (Below w.heap.size w w'))
                    case atStart => exact ⟨(0), (0), (by first | rfl | (simp; done) | (simp [*]; done)), (by first | rfl | (simp; done) | (simp [*]; done)), H', ⟨Nat.le_refl _⟩, ⟨by (with_reducible repeat (first | apply Kd.V_alloc | apply Kd.V_drewN | apply Kd.V_drew)); exact HO_0.out⟩, ⟨by (with_reducible repeat (first | apply Kd.N_alloc | apply Kd.N_drewN | apply Kd.N_drew)); exact HO_5.out⟩, ⟨by (with_reducible repeat (first | apply Kd.R_alloc | apply Kd.R_drewN | apply Kd.R_drew)); exact HO_6.out⟩, ⟨by repeat (first | (with_reducible first | exact HB.out | apply below_alloc | apply pw_below_drewN | apply below_drew1) | exact HB.out)⟩⟩
                    case round =>
                      clear H'
                      try clear c1
                      try clear c2
                      try clear p2
                      try clear c3
                      try clear c4
                      try clear c4b0
                      try clear c4b1
                      try clear c5
                      try clear c8
                      try clear c16
                      try clear c20
                      try clear c20b0
                      try clear c20b1
                      try clear c20b2
                      try clear c24
                      try clear p2
                      obtain ⟨x7_4, x48_4, rfl, rfl, HA, HK4, HO_0, HO_5, HO_6, HB⟩ := hrel
                      cases gk with
                      | zero => exact absurd HA.out (by simp [laws_FnInputReader.l0])
                      | succ k4 =>
                        have H := HA.out
                        clear HA
                        simp only [laws_FnInputReader.l0] at H
                        by_cases c25 : x48_4 < (l1.length : Int)
                        · rw [if_pos c25] at H
                          have c25b0 : decide (x48_4 < (l1.length : Int)) = true := decide_eq_true c25
                          clear c25
                          by_cases c26 : 0 ≤ x48_4
                          · rw [if_pos c26] at H
                            have c26b0 : decide (0 ≤ x48_4) = true := decide_eq_true c26
                            clear c26
                            by_cases c27 : x48_4 < (l1.length : Int)
                            · rw [if_pos c27] at H
                              have c27b0 : decide (x48_4 < (l1.length : Int)) = true := decide_eq_true c27
                              clear c27
                              obtain ⟨ji28, hji28⟩ : ∃ j_ : Int, (mn (rd l1 x48_4) (wrap64 ((l0.length : Int) - x7_4))) = j_ := ⟨_, rfl⟩
                              replace H : (if x48_4 < (t117.length : Int) then (if 0 ≤ x7_4 then (if x7_4 ≤ (wrap64 (x7_4 + (ji28))) then (if (wrap64 (x7_4 + (ji28))) ≤ (l0.length : Int) then ((spec_SameBytes.f k4 (rd_L1 t117 x48_4) ((l0.take ((wrap64 (x7_4 + (ji28))) : Int).toNat).drop (x7_4 : Int).toNat)).bind fun t130 => (if t130 = true then (if x48_4 < (t118.length : Int) then (if ((rdOf false t118 x48_4) != ((ji28) == 0)) = true then (some false) else (laws_FnInputReader.l0 k4 l0 t117 t118 (wrap64 (x7_4 + (ji28))) l1 (l1.length : Int) (wrap64 (x48_4 + 1)))) else (none)) else (some false))) else (none)) else (none)) else (none)) else (none)) = some r := by first | (rw [hji28] at H; exact H) | (simp only [hji28] at H ⊢; exact H)
                              have hji28_ : (if (wrap64 ((l0.length : Int) - x7_4)) < (rd l1 x48_4) then (wrap64 ((l0.length : Int) - x7_4)) else (rd l1 x48_4)) = ji28 := hji28
                              by_cases c29 : x48_4 < (t117.length : Int)
                              · rw [if_pos c29] at H
                                have c29b0 : decide (x48_4 < (t117.length : Int)) = true := decide_eq_true c29
                                clear c29
                                by_cases c30 : 0 ≤ x7_4
                                · rw [if_pos c30] at H
                                  have c30b0 := eq_true c30
                                  have c30b1 : decide (0 ≤ x7_4) = true := decide_eq_true c30
                                  clear c30
                                  by_cases c31 : x7_4 ≤ (wrap64 (x7_4 + (ji28)))
                                  · rw [if_pos c31] at H
                                    have c31b0 := eq_true c31
                                    have c31b1 : decide (x7_4 ≤ (wrap64 (x7_4 + (ji28)))) = true := decide_eq_true c31
                                    by_cases c32 : (wrap64 (x7_4 + (ji28))) ≤ (l0.length : Int)
                                    · rw [if_pos c32] at H
                                      have c32b0 := eq_true c32
                                      have c32b1 : decide ((wrap64 (x7_4 + (ji28))) ≤ (l0.length : Int)) = true := decide_eq_true c32
                                      obtain ⟨y125, hy125⟩ : ∃ y_ : List Int, y_ = ((l0.take ((wrap64 (x7_4 + (ji28))) : Int).toNat).drop (x7_4 : Int).toNat) := ⟨_, rfl⟩
                                      replace H : ((spec_SameBytes.f k4 (rd_L1 t117 x48_4) y125).bind fun t130 => (if t130 = true then (if x48_4 < (t118.length : Int) then (if ((rdOf false t118 x48_4) != ((ji28) == 0)) = true then (some false) else (laws_FnInputReader.l0 k4 l0 t117 t118 (wrap64 (x7_4 + (ji28))) l1 (l1.length : Int) (wrap64 (x48_4 + 1)))) else (none)) else (some false))) = some r := by first | (rw [hy125]; with_reducible exact H) | (have H2_ := (Option.bind_some _ _).symm.trans H; rw [hy125]; with_reducible exact H2_) | (have H2_ := (Option.bind_some _ _).symm.trans H; with_reducible exact H2_) | with_reducible exact H | (rw [hy125]; exact H) | exact H
                                      have Ny125 := Aside0.mk hy125
                                      clear hy125
                                      replace H := Option.bind_eq_some_iff.mp H
                                      obtain ⟨t130, A330, H⟩ := H
                                      replace H : (if t130 = true then (if x48_4 < (t118.length : Int) then (if ((rdOf false t118 x48_4) != ((ji28) == 0)) = true then (some false) else (laws_FnInputReader.l0 k4 l0 t117 t118 (wrap64 (x7_4 + (ji28))) l1 (l1.length : Int) (wrap64 (x48_4 + 1)))) else (none)) else (some false)) = some r := H
                                      have A33 := Aside0.mk A330
                                      clear A330
                                      by_cases c34 : t130 = true
                                      · subst c34
                                        have H1 : (if x48_4 < (t118.length : Int) then (if ((rdOf false t118 x48_4) != ((ji28) == 0)) = true then (some false) else (laws_FnInputReader.l0 k4 l0 t117 t118 (wrap64 (x7_4 + (ji28))) l1 (l1.length : Int) (wrap64 (x48_4 + 1)))) else (none)) = some r := by rw [if_pos rfl] at H; exact H
                                        clear H
                                        have H := H1
                                        clear H1
                                        by_cases c35 : x48_4 < (t118.length : Int)
                                        · rw [if_pos c35] at H
                                          have c35b0 : decide (x48_4 < (t118.length : Int)) = true := decide_eq_true c35
                                          clear c35
                                          by_cases c36 : ((rdOf false t118 x48_4) != ((ji28) == 0)) = true
                                          · rw [if_pos c36] at H
                                            have c36b0 : ((rdOf false t118 x48_4) != ((ji28) == 0)) = true := c36
                                            (try (have c36b1 : decide ((rdOf false t118 x48_4) = ((ji28) == 0)) = false := by simpa using c36))
                                            (try (have c36b2 : ((rdOf false t118 x48_4) == ((ji28) == 0)) = false := by simpa using c36))
                                            (try (have c36b3 : ¬ ((rdOf false t118 x48_4) = ((ji28) == 0)) := by simpa using c36))
                                            clear c36
                                            obtain rfl := Option.some.inj H
                                            have p123 : 0 ≤ (x48_4 : Int) := of_decide_eq_true (by first | (with_reducible assumption) | assumption)
                                            have q123 : x48_4 < (l1.length : Int) := of_decide_eq_true (by first | (with_reducible assumption) | assumption)
                                            obtain ⟨ad123, e123, hx123_0⟩ := Kd.at_int HR1.out x48_4 p123 q123
                                            cases e123
                                            replace hx123_0 := (HB.out.cell (World.block_lt_of_cell? w _ hx123_0)).trans hx123_0
                                            replace p123 := eq_true p123
                                            replace q123 := eq_true q123
                                            obtain ⟨Ao37, co37, eo37⟩ := Kd.N_slice HO_5.out
                                            subst eo37
                                            have p124 : 0 ≤ (x48_4 : Int) := of_decide_eq_true (by first | (with_reducible assumption) | assumption)
                                            have q124 : x48_4 < (t117.length : Int) := of_decide_eq_true (by first | (with_reducible assumption) | assumption)
                                            obtain ⟨ad124, A124_0, c124_0, e124, hx124_0, hl124_0, hi124_0⟩ := at_L1 (Kd.N_reads' HO_5.out).2.2 x48_4 p124 q124
                                            cases e124
                                            obtain ⟨ce124, hce124, hMe124, hcc124⟩ := Kd.N_get HO_5.out [] x48_4 p124 (by first | exact q124 | exact of_decide_eq_true (by first | (with_reducible assumption) | assumption) | (have e_ := (Kd.N_reads' HO_5.out).1; omega))
                                            obtain ⟨ua124_0, uc124_0, rfl, ul124_0, ge124_0⟩ := Kd.FK_slice_open hMe124
                                            have hv124_0 := hcc124 0 _ rfl
                                            rw [Nat.add_zero, show ((Kd.slice 5 (Kd.int .u8))).sz = 1 from rfl, Nat.mul_one] at hv124_0
                                            replace hv124_0 := Option.some.inj (hv124_0.symm.trans hx124_0)
                                            injection hv124_0 with hva_ hvn_ hvc_
                                            rw [hva_] at ge124_0
                                            rw [hvc_] at ul124_0
                                            have HL124_0 := Aside0.mk (show Kd.V (Kd.int .u8) 5 _ w.heap.size _ _ (rd_L1 t117 x48_4) from Kd.V_mk ul124_0 ge124_0)
                                            clear hva_ hvn_ hvc_ ge124_0 ul124_0
                                            clear hcc124 hce124
                                            have HR124_0 := Aside0.mk hi124_0
                                            have HC124_0 := Aside0.mk hl124_0
                                            clear hi124_0 hl124_0
                                            replace p124 := eq_true p124
                                            replace q124 := eq_true q124
                                            have q38 : ((wrap64 (x7_4 + (ji28))) : Int) ≤ ((l0.length : Int) : Int) := of_decide_eq_true (by first | (with_reducible assumption) | assumption)
                                            obtain ⟨i038, hi038, _, hsz38, _⟩ := info_parts info5
                                            have hroom38 : l0.length ≤ c0 := (Kd.V_reads' HO_0.out).2.1
                                            have hC38 : Kd.F (Kd.int .u8) _ _ A0 l0.length l0 := (Kd.V_at (base := w.heap.size) HO_0.out).2.2
                                            have ql38 : (x7_4 : Int) ≤ ((wrap64 (x7_4 + (ji28))) : Int) := of_decide_eq_true (by first | (with_reducible assumption) | assumption)
                                            have q038 : (0 : Int) ≤ (x7_4 : Int) := of_decide_eq_true (by first | (with_reducible assumption) | assumption)
                                            have hcut38 := cut_mid (P := Tryd.prog) 22 5 .i64 .i64 Tryd.underlying22 hi038 1 hsz38 A0 l0.length c0 x7_4 (wrap64 (x7_4 + (ji28))) q038 ql38 q38 hroom38
                                            have hr38 := Kd.F_mid (lo := (x7_4 : Int).toNat) (hi := ((wrap64 (x7_4 + (ji28))) : Int).toNat) (c := c0) hC38 (by omega) (by omega) hroom38
                                            obtain ⟨A38, hA38⟩ : ∃ Aq_, Aq_ = (if c0 = (x7_4 : Int).toNat then A0 else (A0 : Option Addr).map (·.add ((x7_4 : Int).toNat * 1))) := ⟨_, rfl⟩
                                            obtain ⟨c38, hc38⟩ : ∃ cq_, cq_ = c0 - (x7_4 : Int).toNat := ⟨_, rfl⟩
                                            have hy38 : y125.length = ((wrap64 (x7_4 + (ji28))) : Int).toNat - (x7_4 : Int).toNat := (by rw [Ny125.out, List.length_drop, List.length_take] <;> omega)
                                            rw [show ((l0).take ((wrap64 (x7_4 + (ji28))) : Int).toNat).drop (x7_4 : Int).toNat = y125 from Ny125.out.symm] at hr38
                                            replace hr38 : Kd.F (Kd.int .u8) _ _ A38 y125.length y125 := (by rw [hA38]; exact hr38)
                                            rw [← hy38, ← hA38, ← hc38] at hcut38
                                            have hcut38w := hcut38
                                            (try simp only [← i64_w] at hcut38w)
                                            have HO129 := Aside0.mk (show Kd.V (Kd.int .u8) 5 _ w.heap.size _ (.slice A38 y125.length c38) y125 from Kd.V_mk (by rw [hy38, hc38]; exact Nat.sub_le_sub_right (Nat.le_trans (by omega) hroom38) _) hr38)
                                            have HC129 := Aside0.mk (show y125.length ≤ c38 from by rw [hy38, hc38]; exact Nat.sub_le_sub_right (Nat.le_trans (by omega) hroom38) _)
                                            clear hr38 hC38 hroom38 hi038 hsz38 hc38
                                            have KY38 := Aside0.mk hy38
                                            have KA38 := Aside0.mk hA38
                                            clear hy38 hA38
                                            replace q38 := eq_true q38
                                            go_wp2_with (first | (go_at_call 11; (with_reducible refine (spec_SameBytes.calls k4 _ _ (rd_L1 t117 x48_4) _ _ y125 true _ ?side1 ?side2 ?side3 ?side4 A33.out).mono ?_); (case side1 => repeat (first | exact (by repeat (first | (with_reducible exact HR124_0.out) | (with_reducible refine Kd.C_alloc ?_ _) | (with_reducible refine Kd.C_drewN ?_ _) | (with_reducible refine Kd.C_drew ?_) | exact HR124_0.out)) | (with_reducible refine Kd.C_alloc ?_ _) | (with_reducible refine Kd.C_drewN ?_ _) | (with_reducible refine Kd.C_drew ?_))); (case side2 => exact HC124_0.out); (case side3 => repeat (first | exact (Kd.V_reads' HO129.out).2.2 | (with_reducible refine Kd.C_alloc ?_ _) | (with_reducible refine Kd.C_drewN ?_ _) | (with_reducible refine Kd.C_drew ?_))); (case side4 => exact (Kd.V_reads' HO129.out).2.1); rintro e w' ⟨rfl, ⟨nd, rfl⟩⟩; (try first | exact ⟨rfl, _, World.drewN_drewN _ _ _⟩ | exact ⟨rfl, _, Eq.trans (World.drewN_drewN _ _ _) (congrArg (World.drewN _) (Nat.add_assoc _ _ _))⟩); obtain ⟨Ao39, co39, eo39⟩ := Kd.R_slice HO_6.out; subst eo39; have p131 : 0 ≤ (x48_4 : Int) := of_decide_eq_true (by first | (with_reducible assumption) | assumption); have q131 : x48_4 < (t118.length : Int) := of_decide_eq_true (by first | (with_reducible assumption) | assumption); obtain ⟨ad131, e131, hx131_0⟩ := Kd.at_bool (Kd.R_reads' HO_6.out).2.2 x48_4 p131 q131; cases e131; replace p131 := eq_true p131; replace q131 := eq_true q131))
                                            repeat (go_quiet (first | (go_at_call 11; (with_reducible refine (spec_SameBytes.calls k4 _ _ (rd_L1 t117 x48_4) _ _ y125 true _ ?side1 ?side2 ?side3 ?side4 A33.out).mono ?_); (case side1 => repeat (first | exact (by repeat (first | (with_reducible exact HR124_0.out) | (with_reducible refine Kd.C_alloc ?_ _) | (with_reducible refine Kd.C_drewN ?_ _) | (with_reducible refine Kd.C_drew ?_) | exact HR124_0.out)) | (with_reducible refine Kd.C_alloc ?_ _) | (with_reducible refine Kd.C_drewN ?_ _) | (with_reducible refine Kd.C_drew ?_))); (case side2 => exact HC124_0.out); (case side3 => repeat (first | exact (Kd.V_reads' HO129.out).2.2 | (with_reducible refine Kd.C_alloc ?_ _) | (with_reducible refine Kd.C_drewN ?_ _) | (with_reducible refine Kd.C_drew ?_))); (case side4 => exact (Kd.V_reads' HO129.out).2.1); rintro e w' ⟨rfl, ⟨nd, rfl⟩⟩; (try first | exact ⟨rfl, _, World.drewN_drewN _ _ _⟩ | exact ⟨rfl, _, Eq.trans (World.drewN_drewN _ _ _) (congrArg (World.drewN _) (Nat.add_assoc _ _ _))⟩); obtain ⟨Ao39, co39, eo39⟩ := Kd.R_slice HO_6.out; subst eo39; have p131 : 0 ≤ (x48_4 : Int) := of_decide_eq_true (by first | (with_reducible assumption) | assumption); have q131 : x48_4 < (t118.length : Int) := of_decide_eq_true (by first | (with_reducible assumption) | assumption); obtain ⟨ad131, e131, hx131_0⟩ := Kd.at_bool (Kd.R_reads' HO_6.out).2.2 x48_4 p131 q131; cases e131; replace p131 := eq_true p131; replace q131 := eq_true q131)); try go_wp2_with (first | (go_at_call 11; (with_reducible refine (spec_SameBytes.calls k4 _ _ (rd_L1 t117 x48_4) _ _ y125 true _ ?side1 ?side2 ?side3 ?side4 A33.out).mono ?_); (case side1 => repeat (first | exact (by repeat (first | (with_reducible exact HR124_0.out) | (with_reducible refine Kd.C_alloc ?_ _) | (with_reducible refine Kd.C_drewN ?_ _) | (with_reducible refine Kd.C_drew ?_) | exact HR124_0.out)) | (with_reducible refine Kd.C_alloc ?_ _) | (with_reducible refine Kd.C_drewN ?_ _) | (with_reducible refine Kd.C_drew ?_))); (case side2 => exact HC124_0.out); (case side3 => repeat (first | exact (Kd.V_reads' HO129.out).2.2 | (with_reducible refine Kd.C_alloc ?_ _) | (with_reducible refine Kd.C_drewN ?_ _) | (with_reducible refine Kd.C_drew ?_))); (case side4 => exact (Kd.V_reads' HO129.out).2.1); rintro e w' ⟨rfl, ⟨nd, rfl⟩⟩; (try first | exact ⟨rfl, _, World.drewN_drewN _ _ _⟩ | exact ⟨rfl, _, Eq.trans (World.drewN_drewN _ _ _) (congrArg (World.drewN _) (Nat.add_assoc _ _ _))⟩); obtain ⟨Ao39, co39, eo39⟩ := Kd.R_slice HO_6.out; subst eo39; have p131 : 0 ≤ (x48_4 : Int) := of_decide_eq_true (by first | (with_reducible assumption) | assumption); have q131 : x48_4 < (t118.length : Int) := of_decide_eq_true (by first | (with_reducible assumption) | assumption); obtain ⟨ad131, e131, hx131_0⟩ := Kd.at_bool (Kd.R_reads' HO_6.out).2.2 x48_4 p131 q131; cases e131; replace p131 := eq_true p131; replace q131 := eq_true q131)))
                                            go_ret
                                            exact ⟨by first | rfl | (simp [errW_none, errW_some] <;> rfl) | (simp only [← hji28]; first | rfl | (simp [errW_none, errW_some] <;> rfl)) | (simp [*, errW_none, errW_some] <;> rfl), by repeat (first | (with_reducible first | exact HB.out | apply below_alloc | apply pw_below_drewN | apply below_drew1) | exact HB.out)⟩
                                          · rw [if_neg c36] at H
                                            have c36b0 : ((rdOf false t118 x48_4) != ((ji28) == 0)) = false := by simpa using c36
                                            (try (have c36b1 : decide ((rdOf false t118 x48_4) = ((ji28) == 0)) = true := by simpa using c36))
                                            (try (have c36b2 : ((rdOf false t118 x48_4) == ((ji28) == 0)) = true := by simpa using c36))
                                            clear c36
                                            have H' := Aside0.mk H
                                            clear H
                                            have p123 : 0 ≤ (x48_4 : Int) := of_decide_eq_true (by first | (with_reducible assumption) | assumption)
                                            have q123 : x48_4 < (l1.length : Int) := of_decide_eq_true (by first | (with_reducible assumption) | assumption)
                                            obtain ⟨ad123, e123, hx123_0⟩ := Kd.at_int HR1.out x48_4 p123 q123
                                            cases e123
                                            replace hx123_0 := (HB.out.cell (World.block_lt_of_cell? w _ hx123_0)).trans hx123_0
                                            replace p123 := eq_true p123
                                            replace q123 := eq_true q123
                                            obtain ⟨Ao40, co40, eo40⟩ := Kd.N_slice HO_5.out
                                            subst eo40
                                            have p124 : 0 ≤ (x48_4 : Int) := of_decide_eq_true (by first | (with_reducible assumption) | assumption)
                                            have q124 : x48_4 < (t117.length : Int) := of_decide_eq_true (by first | (with_reducible assumption) | assumption)
                                            obtain ⟨ad124, A124_0, c124_0, e124, hx124_0, hl124_0, hi124_0⟩ := at_L1 (Kd.N_reads' HO_5.out).2.2 x48_4 p124 q124
                                            cases e124
                                            obtain ⟨ce124, hce124, hMe124, hcc124⟩ := Kd.N_get HO_5.out [] x48_4 p124 (by first | exact q124 | exact of_decide_eq_true (by first | (with_reducible assumption) | assumption) | (have e_ := (Kd.N_reads' HO_5.out).1; omega))
                                            obtain ⟨ua124_0, uc124_0, rfl, ul124_0, ge124_0⟩ := Kd.FK_slice_open hMe124
                                            have hv124_0 := hcc124 0 _ rfl
                                            rw [Nat.add_zero, show ((Kd.slice 5 (Kd.int .u8))).sz = 1 from rfl, Nat.mul_one] at hv124_0
                                            replace hv124_0 := Option.some.inj (hv124_0.symm.trans hx124_0)
                                            injection hv124_0 with hva_ hvn_ hvc_
                                            rw [hva_] at ge124_0
                                            rw [hvc_] at ul124_0
                                            have HL124_0 := Aside0.mk (show Kd.V (Kd.int .u8) 5 _ w.heap.size _ _ (rd_L1 t117 x48_4) from Kd.V_mk ul124_0 ge124_0)
                                            clear hva_ hvn_ hvc_ ge124_0 ul124_0
                                            clear hcc124 hce124
                                            have HR124_0 := Aside0.mk hi124_0
                                            have HC124_0 := Aside0.mk hl124_0
                                            clear hi124_0 hl124_0
                                            replace p124 := eq_true p124
                                            replace q124 := eq_true q124
                                            have q41 : ((wrap64 (x7_4 + (ji28))) : Int) ≤ ((l0.length : Int) : Int) := of_decide_eq_true (by first | (with_reducible assumption) | assumption)
                                            obtain ⟨i041, hi041, _, hsz41, _⟩ := info_parts info5
                                            have hroom41 : l0.length ≤ c0 := (Kd.V_reads' HO_0.out).2.1
                                            have hC41 : Kd.F (Kd.int .u8) _ _ A0 l0.length l0 := (Kd.V_at (base := w.heap.size) HO_0.out).2.2
                                            have ql41 : (x7_4 : Int) ≤ ((wrap64 (x7_4 + (ji28))) : Int) := of_decide_eq_true (by first | (with_reducible assumption) | assumption)
                                            have q041 : (0 : Int) ≤ (x7_4 : Int) := of_decide_eq_true (by first | (with_reducible assumption) | assumption)
                                            have hcut41 := cut_mid (P := Tryd.prog) 22 5 .i64 .i64 Tryd.underlying22 hi041 1 hsz41 A0 l0.length c0 x7_4 (wrap64 (x7_4 + (ji28))) q041 ql41 q41 hroom41
                                            have hr41 := Kd.F_mid (lo := (x7_4 : Int).toNat) (hi := ((wrap64 (x7_4 + (ji28))) : Int).toNat) (c := c0) hC41 (by omega) (by omega) hroom41
                                            obtain ⟨A41, hA41⟩ : ∃ Aq_, Aq_ = (if c0 = (x7_4 : Int).toNat then A0 else (A0 : Option Addr).map (·.add ((x7_4 : Int).toNat * 1))) := ⟨_, rfl⟩
                                            obtain ⟨c41, hc41⟩ : ∃ cq_, cq_ = c0 - (x7_4 : Int).toNat := ⟨_, rfl⟩
                                            have hy41 : y125.length = ((wrap64 (x7_4 + (ji28))) : Int).toNat - (x7_4 : Int).toNat := (by rw [Ny125.out, List.length_drop, List.length_take] <;> omega)
                                            rw [show ((l0).take ((wrap64 (x7_4 + (ji28))) : Int).toNat).drop (x7_4 : Int).toNat = y125 from Ny125.out.symm] at hr41
                                            replace hr41 : Kd.F (Kd.int .u8) _ _ A41 y125.length y125 := (by rw [hA41]; exact hr41)
                                            rw [← hy41, ← hA41, ← hc41] at hcut41
                                            have hcut41w := hcut41
                                            (try simp only [← i64_w] at hcut41w)
                                            have HO129 := Aside0.mk (show Kd.V (Kd.int .u8) 5 _ w.heap.size _ (.slice A41 y125.length c41) y125 from Kd.V_mk (by rw [hy41, hc41]; exact Nat.sub_le_sub_right (Nat.le_trans (by omega) hroom41) _) hr41)
                                            have HC129 := Aside0.mk (show y125.length ≤ c41 from by rw [hy41, hc41]; exact Nat.sub_le_sub_right (Nat.le_trans (by omega) hroom41) _)
                                            clear hr41 hC41 hroom41 hi041 hsz41 hc41
                                            have KY41 := Aside0.mk hy41
                                            have KA41 := Aside0.mk hA41
                                            clear hy41 hA41
                                            replace q41 := eq_true q41
                                            go_wp2_with (first | (go_at_call 11; (with_reducible refine (spec_SameBytes.calls k4 _ _ (rd_L1 t117 x48_4) _ _ y125 true _ ?side1 ?side2 ?side3 ?side4 A33.out).mono ?_); (case side1 => repeat (first | exact (by repeat (first | (with_reducible exact HR124_0.out) | (with_reducible refine Kd.C_alloc ?_ _) | (with_reducible refine Kd.C_drewN ?_ _) | (with_reducible refine Kd.C_drew ?_) | exact HR124_0.out)) | (with_reducible refine Kd.C_alloc ?_ _) | (with_reducible refine Kd.C_drewN ?_ _) | (with_reducible refine Kd.C_drew ?_))); (case side2 => exact HC124_0.out); (case side3 => repeat (first | exact (Kd.V_reads' HO129.out).2.2 | (with_reducible refine Kd.C_alloc ?_ _) | (with_reducible refine Kd.C_drewN ?_ _) | (with_reducible refine Kd.C_drew ?_))); (case side4 => exact (Kd.V_reads' HO129.out).2.1); rintro e w' ⟨rfl, ⟨nd, rfl⟩⟩; (try first | exact ⟨rfl, _, World.drewN_drewN _ _ _⟩ | exact ⟨rfl, _, Eq.trans (World.drewN_drewN _ _ _) (congrArg (World.drewN _) (Nat.add_assoc _ _ _))⟩); obtain ⟨Ao42, co42, eo42⟩ := Kd.R_slice HO_6.out; subst eo42; have p131 : 0 ≤ (x48_4 : Int) := of_decide_eq_true (by first | (with_reducible assumption) | assumption); have q131 : x48_4 < (t118.length : Int) := of_decide_eq_true (by first | (with_reducible assumption) | assumption); obtain ⟨ad131, e131, hx131_0⟩ := Kd.at_bool (Kd.R_reads' HO_6.out).2.2 x48_4 p131 q131; cases e131; replace p131 := eq_true p131; replace q131 := eq_true q131))
                                            repeat (go_quiet (first | (go_at_call 11; (with_reducible refine (spec_SameBytes.calls k4 _ _ (rd_L1 t117 x48_4) _ _ y125 true _ ?side1 ?side2 ?side3 ?side4 A33.out).mono ?_); (case side1 => repeat (first | exact (by repeat (first | (with_reducible exact HR124_0.out) | (with_reducible refine Kd.C_alloc ?_ _) | (with_reducible refine Kd.C_drewN ?_ _) | (with_reducible refine Kd.C_drew ?_) | exact HR124_0.out)) | (with_reducible refine Kd.C_alloc ?_ _) | (with_reducible refine Kd.C_drewN ?_ _) | (with_reducible refine Kd.C_drew ?_))); (case side2 => exact HC124_0.out); (case side3 => repeat (first | exact (Kd.V_reads' HO129.out).2.2 | (with_reducible refine Kd.C_alloc ?_ _) | (with_reducible refine Kd.C_drewN ?_ _) | (with_reducible refine Kd.C_drew ?_))); (case side4 => exact (Kd.V_reads' HO129.out).2.1); rintro e w' ⟨rfl, ⟨nd, rfl⟩⟩; (try first | exact ⟨rfl, _, World.drewN_drewN _ _ _⟩ | exact ⟨rfl, _, Eq.trans (World.drewN_drewN _ _ _) (congrArg (World.drewN _) (Nat.add_assoc _ _ _))⟩); obtain ⟨Ao42, co42, eo42⟩ := Kd.R_slice HO_6.out; subst eo42; have p131 : 0 ≤ (x48_4 : Int) := of_decide_eq_true (by first | (with_reducible assumption) | assumption); have q131 : x48_4 < (t118.length : Int) := of_decide_eq_true (by first | (with_reducible assumption) | assumption); obtain ⟨ad131, e131, hx131_0⟩ := Kd.at_bool (Kd.R_reads' HO_6.out).2.2 x48_4 p131 q131; cases e131; replace p131 := eq_true p131; replace q131 := eq_true q131)); try go_wp2_with (first | (go_at_call 11; (with_reducible refine (spec_SameBytes.calls k4 _ _ (rd_L1 t117 x48_4) _ _ y125 true _ ?side1 ?side2 ?side3 ?side4 A33.out).mono ?_); (case side1 => repeat (first | exact (by repeat (first | (with_reducible exact HR124_0.out) | (with_reducible refine Kd.C_alloc ?_ _) | (with_reducible refine Kd.C_drewN ?_ _) | (with_reducible refine Kd.C_drew ?_) | exact HR124_0.out)) | (with_reducible refine Kd.C_alloc ?_ _) | (with_reducible refine Kd.C_drewN ?_ _) | (with_reducible refine Kd.C_drew ?_))); (case side2 => exact HC124_0.out); (case side3 => repeat (first | exact (Kd.V_reads' HO129.out).2.2 | (with_reducible refine Kd.C_alloc ?_ _) | (with_reducible refine Kd.C_drewN ?_ _) | (with_reducible refine Kd.C_drew ?_))); (case side4 => exact (Kd.V_reads' HO129.out).2.1); rintro e w' ⟨rfl, ⟨nd, rfl⟩⟩; (try first | exact ⟨rfl, _, World.drewN_drewN _ _ _⟩ | exact ⟨rfl, _, Eq.trans (World.drewN_drewN _ _ _) (congrArg (World.drewN _) (Nat.add_assoc _ _ _))⟩); obtain ⟨Ao42, co42, eo42⟩ := Kd.R_slice HO_6.out; subst eo42; have p131 : 0 ≤ (x48_4 : Int) := of_decide_eq_true (by first | (with_reducible assumption) | assumption); have q131 : x48_4 < (t118.length : Int) := of_decide_eq_true (by first | (with_reducible assumption) | assumption); obtain ⟨ad131, e131, hx131_0⟩ := Kd.at_bool (Kd.R_reads' HO_6.out).2.2 x48_4 p131 q131; cases e131; replace p131 := eq_true p131; replace q131 := eq_true q131)))
                                            go_roundg k4
                                            case measure => have := HJ2.out; have := HJ5.out; have := HJ17.out; have := HK4.out; omega
                                            case rel => exact ⟨(wrap64 (x7_4 + (ji28))), (wrap64 (x48_4 + 1)), (by first | rfl | (simp; done) | (simp only [← hji28] <;> (first | rfl | simp)) | (simp [*]; done)), (by first | rfl | (simp; done) | (simp [*]; done)), H', ⟨by have := HJ2.out; have := HJ5.out; have := HJ17.out; have := HK4.out; omega⟩, ⟨by (with_reducible repeat (first | apply Kd.V_alloc | apply Kd.V_drewN | apply Kd.V_drew)); exact HO_0.out⟩, ⟨by (with_reducible repeat (first | apply Kd.N_alloc | apply Kd.N_drewN | apply Kd.N_drew)); exact HO_5.out⟩, ⟨by (with_reducible repeat (first | apply Kd.R_alloc | apply Kd.R_drewN | apply Kd.R_drew)); exact HO_6.out⟩, ⟨by repeat (first | (with_reducible first | exact HB.out | apply below_alloc | apply pw_below_drewN | apply below_drew1) | exact HB.out)⟩⟩
                                        · rw [if_neg c35] at H
                                          exact absurd H (by simp)
                                      · replace c34 := Bool.eq_false_iff.mpr c34
                                        subst c34
                                        have H1 : (some false) = some r := by rw [if_neg (show ¬ (false = true) by decide)] at H; exact H
                                        clear H
                                        have H := H1
                                        clear H1
                                        obtain rfl := Option.some.inj H
                                        have p123 : 0 ≤ (x48_4 : Int) := of_decide_eq_true (by first | (with_reducible assumption) | assumption)
                                        have q123 : x48_4 < (l1.length : Int) := of_decide_eq_true (by first | (with_reducible assumption) | assumption)
                                        obtain ⟨ad123, e123, hx123_0⟩ := Kd.at_int HR1.out x48_4 p123 q123
                                        cases e123
                                        replace hx123_0 := (HB.out.cell (World.block_lt_of_cell? w _ hx123_0)).trans hx123_0
                                        replace p123 := eq_true p123
                                        replace q123 := eq_true q123
                                        obtain ⟨Ao43, co43, eo43⟩ := Kd.N_slice HO_5.out
                                        subst eo43
                                        have p124 : 0 ≤ (x48_4 : Int) := of_decide_eq_true (by first | (with_reducible assumption) | assumption)
                                        have q124 : x48_4 < (t117.length : Int) := of_decide_eq_true (by first | (with_reducible assumption) | assumption)
                                        obtain ⟨ad124, A124_0, c124_0, e124, hx124_0, hl124_0, hi124_0⟩ := at_L1 (Kd.N_reads' HO_5.out).2.2 x48_4 p124 q124
                                        cases e124
                                        obtain ⟨ce124, hce124, hMe124, hcc124⟩ := Kd.N_get HO_5.out [] x48_4 p124 (by first | exact q124 | exact of_decide_eq_true (by first | (with_reducible assumption) | assumption) | (have e_ := (Kd.N_reads' HO_5.out).1; omega))
                                        obtain ⟨ua124_0, uc124_0, rfl, ul124_0, ge124_0⟩ := Kd.FK_slice_open hMe124
                                        have hv124_0 := hcc124 0 _ rfl
                                        rw [Nat.add_zero, show ((Kd.slice 5 (Kd.int .u8))).sz = 1 from rfl, Nat.mul_one] at hv124_0
                                        replace hv124_0 := Option.some.inj (hv124_0.symm.trans hx124_0)
                                        injection hv124_0 with hva_ hvn_ hvc_
                                        rw [hva_] at ge124_0
                                        rw [hvc_] at ul124_0
                                        have HL124_0 := Aside0.mk (show Kd.V (Kd.int .u8) 5 _ w.heap.size _ _ (rd_L1 t117 x48_4) from Kd.V_mk ul124_0 ge124_0)
                                        clear hva_ hvn_ hvc_ ge124_0 ul124_0
                                        clear hcc124 hce124
                                        have HR124_0 := Aside0.mk hi124_0
                                        have HC124_0 := Aside0.mk hl124_0
                                        clear hi124_0 hl124_0
                                        replace p124 := eq_true p124
                                        replace q124 := eq_true q124
                                        have q44 : ((wrap64 (x7_4 + (ji28))) : Int) ≤ ((l0.length : Int) : Int) := of_decide_eq_true (by first | (with_reducible assumption) | assumption)
                                        obtain ⟨i044, hi044, _, hsz44, _⟩ := info_parts info5
                                        have hroom44 : l0.length ≤ c0 := (Kd.V_reads' HO_0.out).2.1
                                        have hC44 : Kd.F (Kd.int .u8) _ _ A0 l0.length l0 := (Kd.V_at (base := w.heap.size) HO_0.out).2.2
                                        have ql44 : (x7_4 : Int) ≤ ((wrap64 (x7_4 + (ji28))) : Int) := of_decide_eq_true (by first | (with_reducible assumption) | assumption)
                                        have q044 : (0 : Int) ≤ (x7_4 : Int) := of_decide_eq_true (by first | (with_reducible assumption) | assumption)
                                        have hcut44 := cut_mid (P := Tryd.prog) 22 5 .i64 .i64 Tryd.underlying22 hi044 1 hsz44 A0 l0.length c0 x7_4 (wrap64 (x7_4 + (ji28))) q044 ql44 q44 hroom44
                                        have hr44 := Kd.F_mid (lo := (x7_4 : Int).toNat) (hi := ((wrap64 (x7_4 + (ji28))) : Int).toNat) (c := c0) hC44 (by omega) (by omega) hroom44
                                        obtain ⟨A44, hA44⟩ : ∃ Aq_, Aq_ = (if c0 = (x7_4 : Int).toNat then A0 else (A0 : Option Addr).map (·.add ((x7_4 : Int).toNat * 1))) := ⟨_, rfl⟩
                                        obtain ⟨c44, hc44⟩ : ∃ cq_, cq_ = c0 - (x7_4 : Int).toNat := ⟨_, rfl⟩
                                        have hy44 : y125.length = ((wrap64 (x7_4 + (ji28))) : Int).toNat - (x7_4 : Int).toNat := (by rw [Ny125.out, List.length_drop, List.length_take] <;> omega)
                                        rw [show ((l0).take ((wrap64 (x7_4 + (ji28))) : Int).toNat).drop (x7_4 : Int).toNat = y125 from Ny125.out.symm] at hr44
                                        replace hr44 : Kd.F (Kd.int .u8) _ _ A44 y125.length y125 := (by rw [hA44]; exact hr44)
                                        rw [← hy44, ← hA44, ← hc44] at hcut44
                                        have hcut44w := hcut44
                                        (try simp only [← i64_w] at hcut44w)
                                        have HO129 := Aside0.mk (show Kd.V (Kd.int .u8) 5 _ w.heap.size _ (.slice A44 y125.length c44) y125 from Kd.V_mk (by rw [hy44, hc44]; exact Nat.sub_le_sub_right (Nat.le_trans (by omega) hroom44) _) hr44)
                                        have HC129 := Aside0.mk (show y125.length ≤ c44 from by rw [hy44, hc44]; exact Nat.sub_le_sub_right (Nat.le_trans (by omega) hroom44) _)
                                        clear hr44 hC44 hroom44 hi044 hsz44 hc44
                                        have KY44 := Aside0.mk hy44
                                        have KA44 := Aside0.mk hA44
                                        clear hy44 hA44
                                        replace q44 := eq_true q44
                                        go_wp2_with (first | (go_at_call 11; (with_reducible refine (spec_SameBytes.calls k4 _ _ (rd_L1 t117 x48_4) _ _ y125 false _ ?side1 ?side2 ?side3 ?side4 A33.out).mono ?_); (case side1 => repeat (first | exact (by repeat (first | (with_reducible exact HR124_0.out) | (with_reducible refine Kd.C_alloc ?_ _) | (with_reducible refine Kd.C_drewN ?_ _) | (with_reducible refine Kd.C_drew ?_) | exact HR124_0.out)) | (with_reducible refine Kd.C_alloc ?_ _) | (with_reducible refine Kd.C_drewN ?_ _) | (with_reducible refine Kd.C_drew ?_))); (case side2 => exact HC124_0.out); (case side3 => repeat (first | exact (Kd.V_reads' HO129.out).2.2 | (with_reducible refine Kd.C_alloc ?_ _) | (with_reducible refine Kd.C_drewN ?_ _) | (with_reducible refine Kd.C_drew ?_))); (case side4 => exact (Kd.V_reads' HO129.out).2.1); rintro e w' ⟨rfl, ⟨nd, rfl⟩⟩; (try first | exact ⟨rfl, _, World.drewN_drewN _ _ _⟩ | exact ⟨rfl, _, Eq.trans (World.drewN_drewN _ _ _) (congrArg (World.drewN _) (Nat.add_assoc _ _ _))⟩)))
                                        repeat (go_quiet (first | (go_at_call 11; (with_reducible refine (spec_SameBytes.calls k4 _ _ (rd_L1 t117 x48_4) _ _ y125 false _ ?side1 ?side2 ?side3 ?side4 A33.out).mono ?_); (case side1 => repeat (first | exact (by repeat (first | (with_reducible exact HR124_0.out) | (with_reducible refine Kd.C_alloc ?_ _) | (with_reducible refine Kd.C_drewN ?_ _) | (with_reducible refine Kd.C_drew ?_) | exact HR124_0.out)) | (with_reducible refine Kd.C_alloc ?_ _) | (with_reducible refine Kd.C_drewN ?_ _) | (with_reducible refine Kd.C_drew ?_))); (case side2 => exact HC124_0.out); (case side3 => repeat (first | exact (Kd.V_reads' HO129.out).2.2 | (with_reducible refine Kd.C_alloc ?_ _) | (with_reducible refine Kd.C_drewN ?_ _) | (with_reducible refine Kd.C_drew ?_))); (case side4 => exact (Kd.V_reads' HO129.out).2.1); rintro e w' ⟨rfl, ⟨nd, rfl⟩⟩; (try first | exact ⟨rfl, _, World.drewN_drewN _ _ _⟩ | exact ⟨rfl, _, Eq.trans (World.drewN_drewN _ _ _) (congrArg (World.drewN _) (Nat.add_assoc _ _ _))⟩))); try go_wp2_with (first | (go_at_call 11; (with_reducible refine (spec_SameBytes.calls k4 _ _ (rd_L1 t117 x48_4) _ _ y125 false _ ?side1 ?side2 ?side3 ?side4 A33.out).mono ?_); (case side1 => repeat (first | exact (by repeat (first | (with_reducible exact HR124_0.out) | (with_reducible refine Kd.C_alloc ?_ _) | (with_reducible refine Kd.C_drewN ?_ _) | (with_reducible refine Kd.C_drew ?_) | exact HR124_0.out)) | (with_reducible refine Kd.C_alloc ?_ _) | (with_reducible refine Kd.C_drewN ?_ _) | (with_reducible refine Kd.C_drew ?_))); (case side2 => exact HC124_0.out); (case side3 => repeat (first | exact (Kd.V_reads' HO129.out).2.2 | (with_reducible refine Kd.C_alloc ?_ _) | (with_reducible refine Kd.C_drewN ?_ _) | (with_reducible refine Kd.C_drew ?_))); (case side4 => exact (Kd.V_reads' HO129.out).2.1); rintro e w' ⟨rfl, ⟨nd, rfl⟩⟩; (try first | exact ⟨rfl, _, World.drewN_drewN _ _ _⟩ | exact ⟨rfl, _, Eq.trans (World.drewN_drewN _ _ _) (congrArg (World.drewN _) (Nat.add_assoc _ _ _))⟩))))
                                        go_ret
                                        exact ⟨by first | rfl | (simp [errW_none, errW_some] <;> rfl) | (simp only [← hji28]; first | rfl | (simp [errW_none, errW_some] <;> rfl)) | (simp [*, errW_none, errW_some] <;> rfl), by repeat (first | (with_reducible first | exact HB.out | apply below_alloc | apply pw_below_drewN | apply below_drew1) | exact HB.out)⟩
                                    · rw [if_neg c32] at H
                                      exact absurd H (by simp)
                                  · rw [if_neg c31] at H
                                    exact absurd H (by simp)
                                · rw [if_neg c30] at H
                                  exact absurd H (by simp)
                              · rw [if_neg c29] at H
                                exact absurd H (by simp)
                            · rw [if_neg c27] at H
                              exact absurd H (by simp)
                          · rw [if_neg c26] at H
                            exact absurd H (by simp)
                        · rw [if_neg c25] at H
                          have c25b0 : decide (x48_4 < (l1.length : Int)) = false := decide_eq_false c25
                          clear c25
                          obtain rfl := Option.some.inj H
                          go_wp2
                          repeat (go_quiet (fail); try go_wp2)
                          go_ret
                          exact ⟨by first | rfl | (simp [errW_none, errW_some] <;> rfl) | (simp [*, errW_none, errW_some] <;> rfl), by repeat (first | (with_reducible first | exact HB.out | apply below_alloc | apply pw_below_drewN | apply below_drew1) | exact HB.out)⟩

/-- THE ONE PURE STATEMENT of laws_FnInputReader: yours. -/
def laws_FnInputReader.Pure : Prop := ∀ (l0 : List Int) (l1 : List Int), l0.length ≤ maxLen → l0.length * 1 ≤ 140737488351232 → (∀ x ∈ l0, (Lit.int .u8 x).wf = true) → l1.length ≤ maxLen → l1.length * 8 ≤ 140737488351232 → (∀ x ∈ l1, (Lit.int .i64 x).wf = true) → ∃ k, laws_FnInputReader.f k l0 l1 = some true
theorem laws_FnInputReader.walk (P : laws_FnInputReader.Pure) (a0 : Option Addr) (len0 cap0 : Nat) (z0 : List Int) (a1 : Option Addr) (len1 cap1 : Nat) (z1 : List Int) (w : World) (w0 : (a0 = none ∧ len0 = 0 ∧ cap0 = 0 ∧ z0 = []) ∨ ∃ x, a0 = some x ∧ len0 ≤ cap0 ∧ cap0 ≤ maxLen ∧ z0.length = cap0 ∧ (∀ i, i < z0.length → w.cell? (x.add i) = some (.int .u8 (z0.getD i 0))) ∧ ∀ n ∈ z0, (Lit.int .u8 n).wf = true) (y0 : len0 * 1 ≤ 140737488351232) (w1 : (a1 = none ∧ len1 = 0 ∧ cap1 = 0 ∧ z1 = []) ∨ ∃ x, a1 = some x ∧ len1 ≤ cap1 ∧ cap1 ≤ maxLen ∧ z1.length = cap1 ∧ (∀ i, i < z1.length → w.cell? (x.add i) = some (.int .i64 (z1.getD i 0))) ∧ ∀ n ∈ z1, (Lit.int .i64 n).wf = true) (y1 : len1 * 8 ≤ 140737488351232) (HTabE : Aside0 (Own.TabE w)) :
    Calls Tryd.prog 3 #[.slice a0 len0 cap0, .slice a1 len1 cap1] w fun e w' => e = .returned (.bool true) ∧ Below w.heap.size w w' := by
  obtain ⟨l0, rfl, hr0, hm0, hw0, hc0⟩ := ReadsInt.ofRowC w0
  obtain ⟨l1, rfl, hr1, hm1, hw1, hc1⟩ := ReadsInt.ofRowC w1
  obtain ⟨k, h⟩ := P l0 l1 hm0 y0 hw0 hm1 y1 hw1
  have CH_ : ∀ {kk_ : IntKind} {AA_ : Option Addr} {xx_ : List Int}, (Kd.int kk_).C w AA_ xx_.length xx_ → Kd.F (Kd.int kk_) w (fun _ => True) AA_ xx_.length xx_ := fun hh_ W' hW => (Kd.heap_int _).C (fun k hk => hW k trivial hk) hh_
  refine (laws_FnInputReader.calls k (fun _ => True) _ _ l0 _ _ l1 true w (Kd.V_mk hc0 (CH_ (Kd.C_of_reads (d := (0 : Int)) (h1 := fun _ => rfl) hr0))) (Kd.C_of_reads (d := (0 : Int)) (h1 := fun _ => rfl) hr1) hc1 h HTabE).mono ?_
  rintro e w' ⟨rfl, hd⟩
  exact ⟨rfl, hd⟩

end Go.Proofs.YtgpmmmlmaaiobaaDoor.PFnInputReader
