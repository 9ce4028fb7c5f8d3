/- The contracts of the small functions of the law (printed). -/
import Derived.Test.YtkgaladmiiglaaaDoorProg
import Derived.Below
import Derived.Deep.Draws
import Derived.Deep.AppendLies
import Derived.Maps.AppendAt
import Derived.OwnWalk
import Derived.Laws.BytesArg
import Derived.Laws.MakeOwn
import Derived.Laws.OwnMore
import Derived.Deep.OwnRows
import Derived.Tactics
import Derived.Lib.ConvBytes
import Derived.Laws.Slices
import Derived.WalkKit
import Derived.KernelRfl
import Derived.RowKit3
import Derived.Deep.LoopGhost
import Derived.Deep.QuietTactic
import Derived.BigQuiet
import Derived.WideLaws
import Derived.Deep.DeepCutAuto
import Derived.Deep.CutBlock
import Derived.Deep.RegionHeld3
import Derived.Laws.Rows
import Derived.Lib.AppendStr
import Derived.ArgAppend
import Derived.Laws.IdiomCopy
import Derived.OrdersHeld
import Derived.Laws.BitsLemmas
import Derived.RowKit
import Derived.Test.YtkgaladmiiglaaaDoorOwn
import Derived.Test.YtkgaladmiiglaaaDoorWWords
import Derived.Test.YtkgaladmiiglaaaDoorWLast
import Derived.Test.YtkgaladmiiglaaaDoorWTab
import Derived.Test.YtkgaladmiiglaaaDoorWFour
import Derived.Test.YtkgaladmiiglaaaDoorWQPut
import Derived.Test.YtkgaladmiiglaaaDoorWApart
import Derived.Test.YtkgaladmiiglaaaDoorWArr
import Derived.Test.YtkgaladmiiglaaaDoorWZeros
import Derived.Test.YtkgaladmiiglaaaDoorWFoot
import Derived.Test.YtkgaladmiiglaaaDoorWKept
import Derived.Test.YtkgaladmiiglaaaDoorWShare
import Derived.Test.YtkgaladmiiglaaaDoorWN
import Derived.Test.YtkgaladmiiglaaaDoorWFootNe
import Derived.Test.YtkgaladmiiglaaaDoorWAt
import Derived.Test.YtkgaladmiiglaaaDoorWEqStruct
import Derived.Test.YtkgaladmiiglaaaDoorWRepsOne
import Derived.Test.YtkgaladmiiglaaaDoorWInv
import Derived.Test.YtkgaladmiiglaaaDoorWInvWords
import Derived.Test.YtkgaladmiiglaaaDoorWGuard
import Derived.Test.YtkgaladmiiglaaaDoorWNEv
import Derived.Test.YtkgaladmiiglaaaDoorWMore
import Derived.Test.YtkgaladmiiglaaaDoorCown
namespace Go.Proofs.YtkgaladmiiglaaaDoor.Own
open Go.RowKit Go.Proofs.YtkgaladmiiglaaaDoorW.PrintWords Go.Proofs.YtkgaladmiiglaaaDoorW.PrintLast Go.Proofs.YtkgaladmiiglaaaDoorW.PrintMore
attribute [local go_sem] max2_int min2_int max_two min_two max_three min_three max_four min_four
set_option linter.unusedVariables false
set_option linter.unusedSimpArgs false
theorem info22 : (Tryd.prog.info? 22).map (fun i => (i.zero, i.size, i.bytes)) = some (some (.slice none 0 0), 1, 24) := by kernel_rfl
theorem info36 : (Tryd.prog.info? 36).map (fun i => (i.zero, i.size, i.bytes)) = some (some (.agg #[(.string ⟨#[]⟩), (.string ⟨#[]⟩)]), 2, 32) := by kernel_rfl
/-! #### struct type 36 -/
structure S36 where
  f0 : ByteArray
  f1 : ByteArray
def z36 : S36 := ⟨(⟨#[]⟩ : ByteArray), (⟨#[]⟩ : ByteArray)⟩
def k36 : Kd S36 := Kd.iso (Kd.pair Kd.string Kd.string) (fun x : S36 => (x.f0, x.f1))
theorem k36_open {w : World} {x : S36} {cs : List Value} (h : k36.K w x cs) : cs = [.string x.f0, .string x.f1] := by
  obtain ⟨_, _, rfl, rfl, rfl⟩ := h
  exact rfl
theorem k36_openM {w : World} {base : Nat} {ok : Nat → Prop} {x : S36} {cs : List Value} (h : k36.M w base ok x cs) : cs = [.string x.f0, .string x.f1] := by
  obtain ⟨_, _, rfl, rfl, rfl⟩ := h
  exact rfl
theorem k36_mk (w : World) (x : S36)  : k36.K w x [.string x.f0, .string x.f1] := ⟨[.string x.f0], [.string x.f1], rfl, rfl, rfl⟩
theorem k36_mkM (w : World) (base : Nat) (ok : Nat → Prop) (x : S36)  : k36.M w base ok x [.string x.f0, .string x.f1] := ⟨[.string x.f0], [.string x.f1], rfl, rfl, rfl⟩
theorem k36_mkF (W : World) (ok : Nat → Prop) (x : S36) : Kd.FK k36 W ok x [.string x.f0, .string x.f1] := fun W2 _ => k36_mk W2 x
def rd_T36 (xs : List S36) (i : Int) : S36 := xs.getD i.toNat z36
theorem at_T36 {w : World} {A : Option Addr} {n : Nat} {xs : List S36} (h : Kd.C k36 w A n xs) (i : Int) (h0 : 0 ≤ i) (h1 : i < n) : ∃ ad , A = some ad ∧ w.cell? (ad.add (i.toNat * 2)) = some (.string (rd_T36 xs i).f0) ∧ w.cell? ⟨(ad.add (i.toNat * 2)).block, (ad.add (i.toNat * 2)).off + 1, none⟩ = some (.string (rd_T36 xs i).f1) := by
  obtain ⟨ad, c, e, _, hK, hc0⟩ := Kd.C_get h z36 i h0 h1
  have hc : ∀ j u, c[j]? = some u → w.cell? (ad.add (i.toNat * 2 + j)) = some u := hc0
  obtain rfl := k36_open hK
  exact ⟨ad, e, hc 0 _ rfl, by rw [← add_field _ _ 1 (by omega)]; exact hc 1 _ rfl⟩

def rd_L3 (xs : List (List Int)) (i : Int) : (List Int) := xs.getD i.toNat ([] : List Int)
theorem at_L3 {w : World} {A : Option Addr} {n : Nat} {xs : List (List Int)} (h : Kd.C (Kd.slice 5 (Kd.int .u8)) w A n xs) (i : Int) (h0 : 0 ≤ i) (h1 : i < n) : ∃ ad A0 c0, A = some ad ∧ w.cell? (ad.add i.toNat) = some (.slice A0 (rd_L3 xs i).length c0) ∧ (rd_L3 xs i).length ≤ c0 ∧ (Kd.int .u8).C w A0 (rd_L3 xs i).length (rd_L3 xs i) := by
  obtain ⟨ad, c, e, _, hK, hc0⟩ := Kd.C_get h ([] : List Int) i h0 h1
  have hc : ∀ j u, c[j]? = some u → w.cell? (ad.add (i.toNat * 1 + j)) = some u := hc0
  obtain ⟨A0, c0, rfl, l0, g0⟩ := hK
  exact ⟨ad, A0, c0, e, by have hq := hc 0 _ rfl; rwa [Nat.mul_one, Nat.add_zero] at hq, l0, g0⟩

/-! ### laws_zzFits3: function 16 -/
def laws_zzFits3.f (a0_0 : ByteArray) (a0_1 : ByteArray) : Option (Bool) := if (a0_0.size : Int) > 2147483647 then (some false) else (if (a0_1.size : Int) > 2147483647 then (some false) else (some true))
set_option maxHeartbeats 8000000 in
set_option maxRecDepth 100000 in
theorem laws_zzFits3.calls (a0_0 : ByteArray) (a0_1 : ByteArray) (r : Bool) (w : World) (h : laws_zzFits3.f a0_0 a0_1 = some r) :
    Calls Tryd.prog 16 #[.agg #[.string a0_0, .string a0_1]] w fun e w' => e = .returned (.bool r) ∧ Below w.heap.size w w' := by
  have hu36 := Tryd.underlying36
  have HB := Aside0.mk (Below.refl w.heap.size w)
  have H : (if (a0_0.size : Int) > 2147483647 then (some false) else (if (a0_1.size : Int) > 2147483647 then (some false) else (some true))) = some r := h
  clear h
  by_cases c2 : (a0_0.size : Int) > 2147483647
  · rw [if_pos c2] at H
    have c2b0 : decide (2147483647 < (a0_0.size : Int)) = true := decide_eq_true c2
    have c2b1 : decide (2147483647 < a0_0.size) = true := decide_eq_true (by omega)
    clear c2
    obtain rfl := Option.some.inj H
    go_enter Tryd.func16, Tryd.ntmps16
    go_wp2_with (first | ((with_reducible refine gate_dst (N := 1) rfl ?_); refine box_event ?hg (N := 1) ?hd (cs := #[.string a0_0, .string a0_1]) (t := 36) ?hr ?_; (case hd => rfl); (case hg => rfl); (case hr => first | (go_simp; done) | (go_simp; rfl)); intro gb101 hg w3 hbox hb; have n0_ := Aside0.mk (below_step (by repeat (first | (with_reducible first | exact HB.out | apply below_alloc | apply pw_below_drewN | apply below_drew1) | exact HB.out)) hb); have n1_ := Aside0.mk (hbox); have n2_ := Aside0.mk ((by rw [hg]; exact (below_size (by repeat (first | (with_reducible first | exact HB.out | apply below_alloc | apply pw_below_drewN | apply below_drew1) | exact HB.out))) : w.heap.size ≤ gb101)); have n3_ := Aside0.mk ((by rw [hg]; exact (below_size (by repeat (first | (with_reducible first | exact HB.out | apply below_alloc | apply pw_below_drewN | apply below_drew1) | exact HB.out))) : w.heap.size ≤ gb101)); clear HB; have HB := n0_; have BK101 := n1_; have GW101 := n2_; have GE101 := n3_; clear n0_ n1_ n2_ n3_; clear hb hbox hg; have hcz4_0 : w3.cell? ⟨gb101, 0, none⟩ = some (.string a0_0) := (blk_cell BK101.out 0).trans rfl; have hcz4_1 : w3.cell? ⟨gb101, 1, none⟩ = some (.string a0_1) := (blk_cell BK101.out 1).trans rfl; have hfz4_0 := blk_frozen BK101.out 0; have hfz4_1 := blk_frozen BK101.out 1))
    go_ret
    exact ⟨by first | rfl | (simp [errW_none, errW_some] <;> rfl) | (simp [*, errW_none, errW_some] <;> rfl), by repeat (first | (with_reducible first | exact HB.out | apply below_alloc | apply pw_below_drewN | apply below_drew1 | refine below_set ?_ GE101.out) | exact HB.out)⟩
  · rw [if_neg c2] at H
    have c2b0 : decide (2147483647 < (a0_0.size : Int)) = false := decide_eq_false c2
    have c2b1 : decide (2147483647 < a0_0.size) = false := decide_eq_false (by omega)
    clear c2
    by_cases c5 : (a0_1.size : Int) > 2147483647
    · rw [if_pos c5] at H
      have c5b0 : decide (2147483647 < (a0_1.size : Int)) = true := decide_eq_true c5
      have c5b1 : decide (2147483647 < a0_1.size) = true := decide_eq_true (by omega)
      clear c5
      obtain rfl := Option.some.inj H
      go_enter Tryd.func16, Tryd.ntmps16
      go_wp2_with (first | ((with_reducible refine gate_dst (N := 1) rfl ?_); refine box_event ?hg (N := 1) ?hd (cs := #[.string a0_0, .string a0_1]) (t := 36) ?hr ?_; (case hd => rfl); (case hg => rfl); (case hr => first | (go_simp; done) | (go_simp; rfl)); intro gb101 hg w6 hbox hb; have n0_ := Aside0.mk (below_step (by repeat (first | (with_reducible first | exact HB.out | apply below_alloc | apply pw_below_drewN | apply below_drew1) | exact HB.out)) hb); have n1_ := Aside0.mk (hbox); have n2_ := Aside0.mk ((by rw [hg]; exact (below_size (by repeat (first | (with_reducible first | exact HB.out | apply below_alloc | apply pw_below_drewN | apply below_drew1) | exact HB.out))) : w.heap.size ≤ gb101)); have n3_ := Aside0.mk ((by rw [hg]; exact (below_size (by repeat (first | (with_reducible first | exact HB.out | apply below_alloc | apply pw_below_drewN | apply below_drew1) | exact HB.out))) : w.heap.size ≤ gb101)); clear HB; have HB := n0_; have BK101 := n1_; have GW101 := n2_; have GE101 := n3_; clear n0_ n1_ n2_ n3_; clear hb hbox hg; have hcz7_0 : w6.cell? ⟨gb101, 0, none⟩ = some (.string a0_0) := (blk_cell BK101.out 0).trans rfl; have hcz7_1 : w6.cell? ⟨gb101, 1, none⟩ = some (.string a0_1) := (blk_cell BK101.out 1).trans rfl; have hfz7_0 := blk_frozen BK101.out 0; have hfz7_1 := blk_frozen BK101.out 1))
      go_ret
      exact ⟨by first | rfl | (simp [errW_none, errW_some] <;> rfl) | (simp [*, errW_none, errW_some] <;> rfl), by repeat (first | (with_reducible first | exact HB.out | apply below_alloc | apply pw_below_drewN | apply below_drew1 | refine below_set ?_ GE101.out) | exact HB.out)⟩
    · rw [if_neg c5] at H
      have c5b0 : decide (2147483647 < (a0_1.size : Int)) = false := decide_eq_false c5
      have c5b1 : decide (2147483647 < a0_1.size) = false := decide_eq_false (by omega)
      clear c5
      obtain rfl := Option.some.inj H
      go_enter Tryd.func16, Tryd.ntmps16
      go_wp2_with (first | ((with_reducible refine gate_dst (N := 1) rfl ?_); refine box_event ?hg (N := 1) ?hd (cs := #[.string a0_0, .string a0_1]) (t := 36) ?hr ?_; (case hd => rfl); (case hg => rfl); (case hr => first | (go_simp; done) | (go_simp; rfl)); intro gb101 hg w8 hbox hb; have n0_ := Aside0.mk (below_step (by repeat (first | (with_reducible first | exact HB.out | apply below_alloc | apply pw_below_drewN | apply below_drew1) | exact HB.out)) hb); have n1_ := Aside0.mk (hbox); have n2_ := Aside0.mk ((by rw [hg]; exact (below_size (by repeat (first | (with_reducible first | exact HB.out | apply below_alloc | apply pw_below_drewN | apply below_drew1) | exact HB.out))) : w.heap.size ≤ gb101)); have n3_ := Aside0.mk ((by rw [hg]; exact (below_size (by repeat (first | (with_reducible first | exact HB.out | apply below_alloc | apply pw_below_drewN | apply below_drew1) | exact HB.out))) : w.heap.size ≤ gb101)); clear HB; have HB := n0_; have BK101 := n1_; have GW101 := n2_; have GE101 := n3_; clear n0_ n1_ n2_ n3_; clear hb hbox hg; have hcz9_0 : w8.cell? ⟨gb101, 0, none⟩ = some (.string a0_0) := (blk_cell BK101.out 0).trans rfl; have hcz9_1 : w8.cell? ⟨gb101, 1, none⟩ = some (.string a0_1) := (blk_cell BK101.out 1).trans rfl; have hfz9_0 := blk_frozen BK101.out 0; have hfz9_1 := blk_frozen BK101.out 1))
      go_ret
      exact ⟨by first | rfl | (simp [errW_none, errW_some] <;> rfl) | (simp [*, errW_none, errW_some] <;> rfl), by repeat (first | (with_reducible first | exact HB.out | apply below_alloc | apply pw_below_drewN | apply below_drew1 | refine below_set ?_ GE101.out) | exact HB.out)⟩

/-! ### laws_zzFits2: function 5 -/
def laws_zzFits2.l0 : Nat → List (S36) → Int → Int → Option (Bool)
  | 0, _, _, _ => none
  | k + 1, x8, x9, x10 => if x10 < x9 then (if 0 ≤ x10 then (if x10 < (x8.length : Int) then ((laws_zzFits3.f ((rd_T36 x8 x10).f0) ((rd_T36 x8 x10).f1)).bind fun t104 => (if t104 = true then (laws_zzFits2.l0 k x8 x9 (wrap64 (x10 + 1))) else (some false))) else (none)) else (none)) else (some true)
def laws_zzFits2.f (k : Nat) (l0 : List (S36)) : Option (Bool) := if (l0.length : Int) > 2147483647 then (some false) else (laws_zzFits2.l0 k l0 (l0.length : Int) 0)
theorem laws_zzFits2.mono_l : ∀ k, (∀ y0 y1 y2, LeO (laws_zzFits2.l0 k y0 y1 y2) (laws_zzFits2.l0 (k + 1) y0 y1 y2))
  | 0 => fun _ _ _ r h => by simp [laws_zzFits2.l0] at h
  | k + 1 => by
    have ih0 := laws_zzFits2.mono_l k
    · intro y0 y1 y2
      unfold laws_zzFits2.l0
      repeat' first
      | (with_reducible exact ih0 _ _ _)
      | (with_reducible exact LeO.refl _)
      | (with_reducible exact LeO.none _)
      | (with_reducible refine LeO.ite ?_ ?_)
      | (with_reducible refine LeO.bind ?_ (fun _ => ?_))
      | exact ih0 _ _ _
      | exact LeO.none _
      | refine LeO.ite ?_ ?_
      | refine LeO.bind ?_ (fun _ => ?_)
theorem laws_zzFits2.mono : ∀ a0 k, LeO (laws_zzFits2.f k a0) (laws_zzFits2.f (k + 1) a0) := by
  intro a0 k
  have ih0 := laws_zzFits2.mono_l k
  unfold laws_zzFits2.f
  repeat' first
      | (with_reducible exact ih0 _ _ _)
      | (with_reducible exact LeO.refl _)
      | (with_reducible exact LeO.none _)
      | (with_reducible refine LeO.ite ?_ ?_)
      | (with_reducible refine LeO.bind ?_ (fun _ => ?_))
      | exact ih0 _ _ _
      | exact LeO.none _
      | refine LeO.ite ?_ ?_
      | refine LeO.bind ?_ (fun _ => ?_)
set_option maxHeartbeats 8000000 in
set_option maxRecDepth 100000 in
theorem laws_zzFits2.calls (k : Nat) (A0 : Option Addr) (c0 : Nat) (l0 : List (S36)) (r : Bool) (w : World) (hr0 : Kd.C k36 w A0 l0.length l0) (hc0 : l0.length ≤ c0) (h : laws_zzFits2.f k l0 = some r) :
    Calls Tryd.prog 5 #[.slice A0 l0.length c0] w fun e w' => e = .returned (.bool r) ∧ Below w.heap.size w w' := by
  have hu36 := Tryd.underlying36
  have HR0 := Aside0.mk hr0
  have HC0 := Aside0.mk hc0
  clear hr0 hc0
  have HB := Aside0.mk (Below.refl w.heap.size w)
  have H : (if (l0.length : Int) > 2147483647 then (some false) else (laws_zzFits2.l0 k l0 (l0.length : Int) 0)) = some r := h
  clear h
  by_cases c2 : (l0.length : Int) > 2147483647
  · rw [if_pos c2] at H
    have c2b0 : decide (2147483647 < (l0.length : Int)) = true := decide_eq_true c2
    have c2b1 : decide (2147483647 < l0.length) = true := decide_eq_true (by omega)
    clear c2
    obtain rfl := Option.some.inj H
    go_enter Tryd.func5, Tryd.ntmps5
    go_wp2
    go_ret
    exact ⟨by first | rfl | (simp [errW_none, errW_some] <;> rfl) | (simp [*, errW_none, errW_some] <;> rfl), by repeat (first | (with_reducible first | exact HB.out | apply below_alloc | apply pw_below_drewN | apply below_drew1) | exact HB.out)⟩
  · rw [if_neg c2] at H
    have c2b0 : decide (2147483647 < (l0.length : Int)) = false := decide_eq_false c2
    have c2b1 : decide (2147483647 < l0.length) = false := decide_eq_false (by omega)
    clear c2
    have H' := Aside0.mk H
    clear H
    go_enter Tryd.func5, Tryd.ntmps5
    go_wp2
    go_loopg [10] k (fun kq v10 w' => ∃ (x10_1 : Int), v10 = .int .i64 x10_1 ∧ Aside0 (laws_zzFits2.l0 kq l0 (l0.length : Int) x10_1 = some r) ∧ Aside0 (kq ≤ k) ∧ Aside0 (Below w.heap.size w w'))
    case atStart => exact ⟨(0), (by first | rfl | (simp; done) | (simp [*]; done)), H', ⟨Nat.le_refl _⟩, ⟨by repeat (first | (with_reducible first | exact HB.out | apply below_alloc | apply pw_below_drewN | apply below_drew1) | exact HB.out)⟩⟩
    case round =>
      clear H'
      try clear c2
      try clear c2b0
      try clear c2b1
      try clear p2
      obtain ⟨x10_1, rfl, HA, HK1, HB⟩ := hrel
      cases gk with
      | zero => exact absurd HA.out (by simp [laws_zzFits2.l0])
      | succ k1 =>
        have H := HA.out
        clear HA
        simp only [laws_zzFits2.l0] at H
        by_cases c3 : x10_1 < (l0.length : Int)
        · rw [if_pos c3] at H
          have c3b0 : decide (x10_1 < (l0.length : Int)) = true := decide_eq_true c3
          clear c3
          by_cases c4 : 0 ≤ x10_1
          · rw [if_pos c4] at H
            have c4b0 : decide (0 ≤ x10_1) = true := decide_eq_true c4
            clear c4
            by_cases c5 : x10_1 < (l0.length : Int)
            · rw [if_pos c5] at H
              have c5b0 : decide (x10_1 < (l0.length : Int)) = true := decide_eq_true c5
              clear c5
              replace H := Option.bind_eq_some_iff.mp H
              obtain ⟨t104, A60, H⟩ := H
              replace H : (if t104 = true then (laws_zzFits2.l0 k1 l0 (l0.length : Int) (wrap64 (x10_1 + 1))) else (some false)) = some r := H
              have A6 := Aside0.mk A60
              clear A60
              by_cases c7 : t104 = true
              · subst c7
                have H1 : (laws_zzFits2.l0 k1 l0 (l0.length : Int) (wrap64 (x10_1 + 1))) = some r := by rw [if_pos rfl] at H; exact H
                clear H
                have H := H1
                clear H1
                have H' := Aside0.mk H
                clear H
                have p102 : 0 ≤ (x10_1 : Int) := of_decide_eq_true (by first | (with_reducible assumption) | assumption)
                have q102 : x10_1 < (l0.length : Int) := of_decide_eq_true (by first | (with_reducible assumption) | assumption)
                obtain ⟨ad102, e102, hx102_0, hx102_1⟩ := at_T36 HR0.out x10_1 p102 q102
                cases e102
                replace hx102_0 := (HB.out.cell (World.block_lt_of_cell? w _ hx102_0)).trans hx102_0
                replace hx102_1 := (HB.out.cell (World.block_lt_of_cell? w _ hx102_1)).trans hx102_1
                replace p102 := eq_true p102
                replace q102 := eq_true q102
                go_wp2_with (first | ((with_reducible refine gate_dst (N := 4) rfl ?_); refine box_event ?hg (N := 4) ?hd (cs := #[.string (⟨#[]⟩ : ByteArray), .string (⟨#[]⟩ : ByteArray)]) (t := 36) ?hr ?_; (case hd => rfl); (case hg => rfl); (case hr => first | (go_simp; done) | (go_simp; rfl)); intro gb103 hg w8 hbox hb; have n0_ := Aside0.mk (below_step (by repeat (first | (with_reducible first | exact HB.out | apply below_alloc | apply pw_below_drewN | apply below_drew1) | exact HB.out)) hb); have n1_ := Aside0.mk (hbox); have n2_ := Aside0.mk ((by rw [hg]; exact (below_size (by repeat (first | (with_reducible first | exact HB.out | apply below_alloc | apply pw_below_drewN | apply below_drew1) | exact HB.out))) : w.heap.size ≤ gb103)); have n3_ := Aside0.mk ((by rw [hg]; exact (below_size (by repeat (first | (with_reducible first | exact HB.out | apply below_alloc | apply pw_below_drewN | apply below_drew1) | exact HB.out))) : w.heap.size ≤ gb103)); clear HB; have HB := n0_; have BK103 := n1_; have GW103 := n2_; have GE103 := n3_; clear n0_ n1_ n2_ n3_; clear hb hbox hg; have hcz9_0 : w8.cell? ⟨gb103, 0, none⟩ = some (.string (⟨#[]⟩ : ByteArray)) := (blk_cell BK103.out 0).trans rfl; have hcz9_1 : w8.cell? ⟨gb103, 1, none⟩ = some (.string (⟨#[]⟩ : ByteArray)) := (blk_cell BK103.out 1).trans rfl; have hfz9_0 := blk_frozen BK103.out 0; have hfz9_1 := blk_frozen BK103.out 1) | ((with_reducible refine gate_callee (f := 16) rfl ?_); refine goesL_ (some 15) rfl rfl Tryd.func16 (by kernel_rfl) rfl #[.agg #[.string ((rd_T36 l0 x10_1).f0), .string ((rd_T36 l0 x10_1).f1)]] rfl (by (try simp only [List.map_toArray, List.map_cons, List.map_nil]); first | done | rfl | (simp only [List.length_drop, List.length_take]; rfl)) ?_; (with_reducible refine (laws_zzFits3.calls ((rd_T36 l0 x10_1).f0) ((rd_T36 l0 x10_1).f1) true _ A6.out).mono ?_); rintro e w10 ⟨rfl, hb⟩; refine ⟨_, rfl, ?_⟩; have n0_ := Aside0.mk (blk_below (g := gb103) (o := .cells #[.string ((rd_T36 l0 x10_1).f0), .string ((rd_T36 l0 x10_1).f1)] 36 (0, 0)) (by (with_reducible repeat (first | refine blk_drewN ?_ _ | refine blk_drew ?_ | refine blk_alloc ?_ _)); refine blk_put (cs := #[.string ((rd_T36 l0 x10_1).f0), .string (⟨#[]⟩ : ByteArray)]) ?_ 1 _ rfl; (with_reducible repeat (first | refine blk_drewN ?_ _ | refine blk_drew ?_ | refine blk_alloc ?_ _)); refine blk_put (cs := #[.string (⟨#[]⟩ : ByteArray), .string (⟨#[]⟩ : ByteArray)]) ?_ 0 _ rfl; (with_reducible repeat (first | refine blk_drewN ?_ _ | refine blk_drew ?_ | refine blk_alloc ?_ _)); exact BK103.out) hb); have n1_ := Aside0.mk (below_step (by repeat (first | (with_reducible first | exact HB.out | apply below_alloc | apply pw_below_drewN | apply below_drew1 | refine below_set ?_ GE103.out) | exact HB.out)) hb); clear BK103; clear HB; have BK103 := n0_; have HB := n1_; clear n0_ n1_; (try clear hb); (try clear hb2); (try clear hk); (try clear hi)))
                go_roundg k1
                case measure => have := HK1.out; omega
                case rel => exact ⟨(wrap64 (x10_1 + 1)), (by first | rfl | (simp; done) | (simp [*]; done)), H', ⟨by have := HK1.out; omega⟩, ⟨by repeat (first | (with_reducible first | exact HB.out | apply below_alloc | apply pw_below_drewN | apply below_drew1 | refine below_set ?_ GE103.out) | exact HB.out)⟩⟩
              · replace c7 := Bool.eq_false_iff.mpr c7
                subst c7
                have H1 : (some false) = some r := by rw [if_neg (show ¬ (false = true) by decide)] at H; exact H
                clear H
                have H := H1
                clear H1
                obtain rfl := Option.some.inj H
                have p102 : 0 ≤ (x10_1 : Int) := of_decide_eq_true (by first | (with_reducible assumption) | assumption)
                have q102 : x10_1 < (l0.length : Int) := of_decide_eq_true (by first | (with_reducible assumption) | assumption)
                obtain ⟨ad102, e102, hx102_0, hx102_1⟩ := at_T36 HR0.out x10_1 p102 q102
                cases e102
                replace hx102_0 := (HB.out.cell (World.block_lt_of_cell? w _ hx102_0)).trans hx102_0
                replace hx102_1 := (HB.out.cell (World.block_lt_of_cell? w _ hx102_1)).trans hx102_1
                replace p102 := eq_true p102
                replace q102 := eq_true q102
                go_wp2_with (first | ((with_reducible refine gate_dst (N := 4) rfl ?_); refine box_event ?hg (N := 4) ?hd (cs := #[.string (⟨#[]⟩ : ByteArray), .string (⟨#[]⟩ : ByteArray)]) (t := 36) ?hr ?_; (case hd => rfl); (case hg => rfl); (case hr => first | (go_simp; done) | (go_simp; rfl)); intro gb103 hg w11 hbox hb; have n0_ := Aside0.mk (below_step (by repeat (first | (with_reducible first | exact HB.out | apply below_alloc | apply pw_below_drewN | apply below_drew1) | exact HB.out)) hb); have n1_ := Aside0.mk (hbox); have n2_ := Aside0.mk ((by rw [hg]; exact (below_size (by repeat (first | (with_reducible first | exact HB.out | apply below_alloc | apply pw_below_drewN | apply below_drew1) | exact HB.out))) : w.heap.size ≤ gb103)); have n3_ := Aside0.mk ((by rw [hg]; exact (below_size (by repeat (first | (with_reducible first | exact HB.out | apply below_alloc | apply pw_below_drewN | apply below_drew1) | exact HB.out))) : w.heap.size ≤ gb103)); clear HB; have HB := n0_; have BK103 := n1_; have GW103 := n2_; have GE103 := n3_; clear n0_ n1_ n2_ n3_; clear hb hbox hg; have hcz12_0 : w11.cell? ⟨gb103, 0, none⟩ = some (.string (⟨#[]⟩ : ByteArray)) := (blk_cell BK103.out 0).trans rfl; have hcz12_1 : w11.cell? ⟨gb103, 1, none⟩ = some (.string (⟨#[]⟩ : ByteArray)) := (blk_cell BK103.out 1).trans rfl; have hfz12_0 := blk_frozen BK103.out 0; have hfz12_1 := blk_frozen BK103.out 1) | ((with_reducible refine gate_callee (f := 16) rfl ?_); refine goesL_ (some 15) rfl rfl Tryd.func16 (by kernel_rfl) rfl #[.agg #[.string ((rd_T36 l0 x10_1).f0), .string ((rd_T36 l0 x10_1).f1)]] rfl (by (try simp only [List.map_toArray, List.map_cons, List.map_nil]); first | done | rfl | (simp only [List.length_drop, List.length_take]; rfl)) ?_; (with_reducible refine (laws_zzFits3.calls ((rd_T36 l0 x10_1).f0) ((rd_T36 l0 x10_1).f1) false _ A6.out).mono ?_); rintro e w13 ⟨rfl, hb⟩; refine ⟨_, rfl, ?_⟩; have n0_ := Aside0.mk (blk_below (g := gb103) (o := .cells #[.string ((rd_T36 l0 x10_1).f0), .string ((rd_T36 l0 x10_1).f1)] 36 (0, 0)) (by (with_reducible repeat (first | refine blk_drewN ?_ _ | refine blk_drew ?_ | refine blk_alloc ?_ _)); refine blk_put (cs := #[.string ((rd_T36 l0 x10_1).f0), .string (⟨#[]⟩ : ByteArray)]) ?_ 1 _ rfl; (with_reducible repeat (first | refine blk_drewN ?_ _ | refine blk_drew ?_ | refine blk_alloc ?_ _)); refine blk_put (cs := #[.string (⟨#[]⟩ : ByteArray), .string (⟨#[]⟩ : ByteArray)]) ?_ 0 _ rfl; (with_reducible repeat (first | refine blk_drewN ?_ _ | refine blk_drew ?_ | refine blk_alloc ?_ _)); exact BK103.out) hb); have n1_ := Aside0.mk (below_step (by repeat (first | (with_reducible first | exact HB.out | apply below_alloc | apply pw_below_drewN | apply below_drew1 | refine below_set ?_ GE103.out) | exact HB.out)) hb); clear BK103; clear HB; have BK103 := n0_; have HB := n1_; clear n0_ n1_; (try clear hb); (try clear hb2); (try clear hk); (try clear hi)))
                go_ret
                exact ⟨by first | rfl | (simp [errW_none, errW_some] <;> rfl) | (simp [*, errW_none, errW_some] <;> rfl), by repeat (first | (with_reducible first | exact HB.out | apply below_alloc | apply pw_below_drewN | apply below_drew1 | refine below_set ?_ GE103.out) | exact HB.out)⟩
            · rw [if_neg c5] at H
              exact absurd H (by simp)
          · rw [if_neg c4] at H
            exact absurd H (by simp)
        · rw [if_neg c3] at H
          have c3b0 : decide (x10_1 < (l0.length : Int)) = false := decide_eq_false c3
          clear c3
          obtain rfl := Option.some.inj H
          go_wp2
          go_ret
          exact ⟨by first | rfl | (simp [errW_none, errW_some] <;> rfl) | (simp [*, errW_none, errW_some] <;> rfl), by repeat (first | (with_reducible first | exact HB.out | apply below_alloc | apply pw_below_drewN | apply below_drew1) | exact HB.out)⟩

/-! ### laws_zzFits1: function 11 -/
def laws_zzFits1.l0 : Nat → List (List Int) → Int → Int → Option (Bool)
  | 0, _, _, _ => none
  | k + 1, x8, x9, x10 => if x10 < x9 then (if 0 ≤ x10 then (if x10 < (x8.length : Int) then (if ((rd_L3 x8 x10).length : Int) > 2147483647 then (some false) else (laws_zzFits1.l0 k x8 x9 (wrap64 (x10 + 1)))) else (none)) else (none)) else (some true)
def laws_zzFits1.f (k : Nat) (l0 : List (List Int)) : Option (Bool) := if (l0.length : Int) > 2147483647 then (some false) else (laws_zzFits1.l0 k l0 (l0.length : Int) 0)
theorem laws_zzFits1.mono_l : ∀ k, (∀ y0 y1 y2, LeO (laws_zzFits1.l0 k y0 y1 y2) (laws_zzFits1.l0 (k + 1) y0 y1 y2))
  | 0 => fun _ _ _ r h => by simp [laws_zzFits1.l0] at h
  | k + 1 => by
    have ih0 := laws_zzFits1.mono_l k
    · intro y0 y1 y2
      unfold laws_zzFits1.l0
      repeat' first
      | (with_reducible exact ih0 _ _ _)
      | (with_reducible exact LeO.refl _)
      | (with_reducible exact LeO.none _)
      | (with_reducible refine LeO.ite ?_ ?_)
      | (with_reducible refine LeO.bind ?_ (fun _ => ?_))
      | exact ih0 _ _ _
      | exact LeO.none _
      | refine LeO.ite ?_ ?_
      | refine LeO.bind ?_ (fun _ => ?_)
theorem laws_zzFits1.mono : ∀ a0 k, LeO (laws_zzFits1.f k a0) (laws_zzFits1.f (k + 1) a0) := by
  intro a0 k
  have ih0 := laws_zzFits1.mono_l k
  unfold laws_zzFits1.f
  repeat' first
      | (with_reducible exact ih0 _ _ _)
      | (with_reducible exact LeO.refl _)
      | (with_reducible exact LeO.none _)
      | (with_reducible refine LeO.ite ?_ ?_)
      | (with_reducible refine LeO.bind ?_ (fun _ => ?_))
      | exact ih0 _ _ _
      | exact LeO.none _
      | refine LeO.ite ?_ ?_
      | refine LeO.bind ?_ (fun _ => ?_)
set_option maxHeartbeats 8000000 in
set_option maxRecDepth 100000 in
theorem laws_zzFits1.calls (k : Nat) (A0 : Option Addr) (c0 : Nat) (l0 : List (List Int)) (r : Bool) (w : World) (hr0 : Kd.C (Kd.slice 5 (Kd.int .u8)) w A0 l0.length l0) (hc0 : l0.length ≤ c0) (h : laws_zzFits1.f k l0 = some r) :
    Calls Tryd.prog 11 #[.slice A0 l0.length c0] w fun e w' => e = .returned (.bool r) ∧ Drawn0 w w' := by
  have HR0 := Aside0.mk hr0
  have HC0 := Aside0.mk hc0
  clear hr0 hc0
  have H : (if (l0.length : Int) > 2147483647 then (some false) else (laws_zzFits1.l0 k l0 (l0.length : Int) 0)) = some r := h
  clear h
  by_cases c2 : (l0.length : Int) > 2147483647
  · rw [if_pos c2] at H
    have c2b0 : decide (2147483647 < (l0.length : Int)) = true := decide_eq_true c2
    have c2b1 : decide (2147483647 < l0.length) = true := decide_eq_true (by omega)
    clear c2
    obtain rfl := Option.some.inj H
    go_enter Tryd.func11, Tryd.ntmps11
    go_wp2
    go_ret
    exact ⟨by first | rfl | (simp; done) | (simp [*]; done), by repeat (first | exact Drawn0.refl _ | apply Drawn0.step)⟩
  · rw [if_neg c2] at H
    have c2b0 : decide (2147483647 < (l0.length : Int)) = false := decide_eq_false c2
    have c2b1 : decide (2147483647 < l0.length) = false := decide_eq_false (by omega)
    clear c2
    have H' := Aside0.mk H
    clear H
    go_enter Tryd.func11, Tryd.ntmps11
    go_wp2
    go_loopg [10] k (fun kq v10 w' => ∃ (x10_1 : Int), v10 = .int .i64 x10_1 ∧ Aside0 (laws_zzFits1.l0 kq l0 (l0.length : Int) x10_1 = some r) ∧ Aside0 (kq ≤ k) ∧ Drawn0 w w')
    case atStart => exact ⟨(0), (by first | rfl | (simp; done) | (simp [*]; done)), H', ⟨Nat.le_refl _⟩, by repeat (first | exact Drawn0.refl _ | apply Drawn0.step)⟩
    case round =>
      clear H'
      try clear c1
      try clear c2
      try clear c2b0
      try clear c2b1
      try clear p2
      obtain ⟨x10_1, rfl, HA, HK1, ⟨m1, rfl⟩⟩ := hrel
      cases gk with
      | zero => exact absurd HA.out (by simp [laws_zzFits1.l0])
      | succ k1 =>
        have H := HA.out
        clear HA
        simp only [laws_zzFits1.l0] at H
        by_cases c3 : x10_1 < (l0.length : Int)
        · rw [if_pos c3] at H
          have c3b0 : decide (x10_1 < (l0.length : Int)) = true := decide_eq_true c3
          clear c3
          by_cases c4 : 0 ≤ x10_1
          · rw [if_pos c4] at H
            have c4b0 : decide (0 ≤ x10_1) = true := decide_eq_true c4
            clear c4
            by_cases c5 : x10_1 < (l0.length : Int)
            · rw [if_pos c5] at H
              have c5b0 : decide (x10_1 < (l0.length : Int)) = true := decide_eq_true c5
              clear c5
              by_cases c6 : ((rd_L3 l0 x10_1).length : Int) > 2147483647
              · rw [if_pos c6] at H
                have c6b0 : decide (2147483647 < ((rd_L3 l0 x10_1).length : Int)) = true := decide_eq_true c6
                have c6b1 : decide (2147483647 < (rd_L3 l0 x10_1).length) = true := decide_eq_true (by omega)
                clear c6
                obtain rfl := Option.some.inj H
                have p138 : 0 ≤ (x10_1 : Int) := of_decide_eq_true (by first | (with_reducible assumption) | assumption)
                have q138 : x10_1 < (l0.length : Int) := of_decide_eq_true (by first | (with_reducible assumption) | assumption)
                obtain ⟨ad138, A138_0, c138_0, e138, hx138_0, hl138_0, hi138_0⟩ := at_L3 HR0.out x10_1 p138 q138
                cases e138
                have HR138_0 := Aside0.mk hi138_0
                have HC138_0 := Aside0.mk hl138_0
                clear hi138_0 hl138_0
                replace p138 := eq_true p138
                replace q138 := eq_true q138
                go_wp2
                go_ret
                exact ⟨by first | rfl | (simp; done) | (simp [*]; done), by repeat (first | exact Drawn0.refl _ | apply Drawn0.step)⟩
              · rw [if_neg c6] at H
                have c6b0 : decide (2147483647 < ((rd_L3 l0 x10_1).length : Int)) = false := decide_eq_false c6
                have c6b1 : decide (2147483647 < (rd_L3 l0 x10_1).length) = false := decide_eq_false (by omega)
                clear c6
                have H' := Aside0.mk H
                clear H
                have p138 : 0 ≤ (x10_1 : Int) := of_decide_eq_true (by first | (with_reducible assumption) | assumption)
                have q138 : x10_1 < (l0.length : Int) := of_decide_eq_true (by first | (with_reducible assumption) | assumption)
                obtain ⟨ad138, A138_0, c138_0, e138, hx138_0, hl138_0, hi138_0⟩ := at_L3 HR0.out x10_1 p138 q138
                cases e138
                have HR138_0 := Aside0.mk hi138_0
                have HC138_0 := Aside0.mk hl138_0
                clear hi138_0 hl138_0
                replace p138 := eq_true p138
                replace q138 := eq_true q138
                go_wp2
                go_roundg k1
                case measure => have := HK1.out; omega
                case rel => exact ⟨(wrap64 (x10_1 + 1)), (by first | rfl | (simp; done) | (simp [*]; done)), H', ⟨by have := HK1.out; omega⟩, by repeat (first | exact Drawn0.refl _ | apply Drawn0.step)⟩
            · rw [if_neg c5] at H
              exact absurd H (by simp)
          · rw [if_neg c4] at H
            exact absurd H (by simp)
        · rw [if_neg c3] at H
          have c3b0 : decide (x10_1 < (l0.length : Int)) = false := decide_eq_false c3
          clear c3
          obtain rfl := Option.some.inj H
          go_wp2
          go_ret
          exact ⟨by first | rfl | (simp; done) | (simp [*]; done), by repeat (first | exact Drawn0.refl _ | apply Drawn0.step)⟩

/-! ### laws_fewBytes: function 6 -/
def laws_fewBytes.l0 : Nat → List (List Int) → Int → Int → Option (Bool)
  | 0, _, _, _ => none
  | k + 1, x5, x6, x7 => if x7 < x6 then (if 0 ≤ x7 then (if x7 < (x5.length : Int) then (if ((rd_L3 x5 x7).length : Int) > 300 then (some false) else (laws_fewBytes.l0 k x5 x6 (wrap64 (x7 + 1)))) else (none)) else (none)) else (some true)
def laws_fewBytes.f (k : Nat) (l0 : List (List Int)) : Option (Bool) := laws_fewBytes.l0 k l0 (l0.length : Int) 0
theorem laws_fewBytes.mono_l : ∀ k, (∀ y0 y1 y2, LeO (laws_fewBytes.l0 k y0 y1 y2) (laws_fewBytes.l0 (k + 1) y0 y1 y2))
  | 0 => fun _ _ _ r h => by simp [laws_fewBytes.l0] at h
  | k + 1 => by
    have ih0 := laws_fewBytes.mono_l k
    · intro y0 y1 y2
      unfold laws_fewBytes.l0
      repeat' first
      | (with_reducible exact ih0 _ _ _)
      | (with_reducible exact LeO.refl _)
      | (with_reducible exact LeO.none _)
      | (with_reducible refine LeO.ite ?_ ?_)
      | (with_reducible refine LeO.bind ?_ (fun _ => ?_))
      | exact ih0 _ _ _
      | exact LeO.none _
      | refine LeO.ite ?_ ?_
      | refine LeO.bind ?_ (fun _ => ?_)
theorem laws_fewBytes.mono : ∀ a0 k, LeO (laws_fewBytes.f k a0) (laws_fewBytes.f (k + 1) a0) := by
  intro a0 k
  have ih0 := laws_fewBytes.mono_l k
  unfold laws_fewBytes.f
  repeat' first
      | (with_reducible exact ih0 _ _ _)
      | (with_reducible exact LeO.refl _)
      | (with_reducible exact LeO.none _)
      | (with_reducible refine LeO.ite ?_ ?_)
      | (with_reducible refine LeO.bind ?_ (fun _ => ?_))
      | exact ih0 _ _ _
      | exact LeO.none _
      | refine LeO.ite ?_ ?_
      | refine LeO.bind ?_ (fun _ => ?_)
set_option maxHeartbeats 8000000 in
set_option maxRecDepth 100000 in
theorem laws_fewBytes.calls (k : Nat) (A0 : Option Addr) (c0 : Nat) (l0 : List (List Int)) (r : Bool) (w : World) (hr0 : Kd.C (Kd.slice 5 (Kd.int .u8)) w A0 l0.length l0) (hc0 : l0.length ≤ c0) (h : laws_fewBytes.f k l0 = some r) :
    Calls Tryd.prog 6 #[.slice A0 l0.length c0] w fun e w' => e = .returned (.bool r) ∧ Drawn0 w w' := by
  have HR0 := Aside0.mk hr0
  have HC0 := Aside0.mk hc0
  clear hr0 hc0
  have H : (laws_fewBytes.l0 k l0 (l0.length : Int) 0) = some r := h
  clear h
  have H' := Aside0.mk H
  clear H
  go_enter Tryd.func6, Tryd.ntmps6
  go_wp2
  go_loopg [7] k (fun kq v7 w' => ∃ (x7_1 : Int), v7 = .int .i64 x7_1 ∧ Aside0 (laws_fewBytes.l0 kq l0 (l0.length : Int) x7_1 = some r) ∧ Aside0 (kq ≤ k) ∧ Drawn0 w w')
  case atStart => exact ⟨(0), (by first | rfl | (simp; done) | (simp [*]; done)), H', ⟨Nat.le_refl _⟩, by repeat (first | exact Drawn0.refl _ | apply Drawn0.step)⟩
  case round =>
    clear H'
    obtain ⟨x7_1, rfl, HA, HK1, ⟨m1, rfl⟩⟩ := hrel
    cases gk with
    | zero => exact absurd HA.out (by simp [laws_fewBytes.l0])
    | succ k1 =>
      have H := HA.out
      clear HA
      simp only [laws_fewBytes.l0] at H
      by_cases c2 : x7_1 < (l0.length : Int)
      · rw [if_pos c2] at H
        have c2b0 : decide (x7_1 < (l0.length : Int)) = true := decide_eq_true c2
        clear c2
        by_cases c3 : 0 ≤ x7_1
        · rw [if_pos c3] at H
          have c3b0 : decide (0 ≤ x7_1) = true := decide_eq_true c3
          clear c3
          by_cases c4 : x7_1 < (l0.length : Int)
          · rw [if_pos c4] at H
            have c4b0 : decide (x7_1 < (l0.length : Int)) = true := decide_eq_true c4
            clear c4
            by_cases c5 : ((rd_L3 l0 x7_1).length : Int) > 300
            · rw [if_pos c5] at H
              have c5b0 : decide (300 < ((rd_L3 l0 x7_1).length : Int)) = true := decide_eq_true c5
              have c5b1 : decide (300 < (rd_L3 l0 x7_1).length) = true := decide_eq_true (by omega)
              clear c5
              obtain rfl := Option.some.inj H
              have p139 : 0 ≤ (x7_1 : Int) := of_decide_eq_true (by first | (with_reducible assumption) | assumption)
              have q139 : x7_1 < (l0.length : Int) := of_decide_eq_true (by first | (with_reducible assumption) | assumption)
              obtain ⟨ad139, A139_0, c139_0, e139, hx139_0, hl139_0, hi139_0⟩ := at_L3 HR0.out x7_1 p139 q139
              cases e139
              have HR139_0 := Aside0.mk hi139_0
              have HC139_0 := Aside0.mk hl139_0
              clear hi139_0 hl139_0
              replace p139 := eq_true p139
              replace q139 := eq_true q139
              go_wp2
              go_ret
              exact ⟨by first | rfl | (simp; done) | (simp [*]; done), by repeat (first | exact Drawn0.refl _ | apply Drawn0.step)⟩
            · rw [if_neg c5] at H
              have c5b0 : decide (300 < ((rd_L3 l0 x7_1).length : Int)) = false := decide_eq_false c5
              have c5b1 : decide (300 < (rd_L3 l0 x7_1).length) = false := decide_eq_false (by omega)
              clear c5
              have H' := Aside0.mk H
              clear H
              have p139 : 0 ≤ (x7_1 : Int) := of_decide_eq_true (by first | (with_reducible assumption) | assumption)
              have q139 : x7_1 < (l0.length : Int) := of_decide_eq_true (by first | (with_reducible assumption) | assumption)
              obtain ⟨ad139, A139_0, c139_0, e139, hx139_0, hl139_0, hi139_0⟩ := at_L3 HR0.out x7_1 p139 q139
              cases e139
              have HR139_0 := Aside0.mk hi139_0
              have HC139_0 := Aside0.mk hl139_0
              clear hi139_0 hl139_0
              replace p139 := eq_true p139
              replace q139 := eq_true q139
              go_wp2
              go_roundg k1
              case measure => have := HK1.out; omega
              case rel => exact ⟨(wrap64 (x7_1 + 1)), (by first | rfl | (simp; done) | (simp [*]; done)), H', ⟨by have := HK1.out; omega⟩, by repeat (first | exact Drawn0.refl _ | apply Drawn0.step)⟩
          · rw [if_neg c4] at H
            exact absurd H (by simp)
        · rw [if_neg c3] at H
          exact absurd H (by simp)
      · rw [if_neg c2] at H
        have c2b0 : decide (x7_1 < (l0.length : Int)) = false := decide_eq_false c2
        clear c2
        obtain rfl := Option.some.inj H
        go_wp2
        go_ret
        exact ⟨by first | rfl | (simp; done) | (simp [*]; done), by repeat (first | exact Drawn0.refl _ | apply Drawn0.step)⟩

/-! ### spec_BytePlace: function 8 -/
def spec_BytePlace.l0 : Nat → Int → List Int → Int → Int → Option (Int)
  | 0, _, _, _, _ => none
  | k + 1, x1, x7, x8, x9 => if x9 < x8 then (if 0 ≤ x9 then (if x9 < (x7.length : Int) then (if (rd x7 x9) = x1 then (some x9) else (spec_BytePlace.l0 k x1 x7 x8 (wrap64 (x9 + 1)))) else (none)) else (none)) else (some (-1))
def spec_BytePlace.f (k : Nat) (l0 : List Int) (a1 : Int) : Option (Int) := spec_BytePlace.l0 k a1 l0 (l0.length : Int) 0
theorem spec_BytePlace.mono_l : ∀ k, (∀ y0 y1 y2 y3, LeO (spec_BytePlace.l0 k y0 y1 y2 y3) (spec_BytePlace.l0 (k + 1) y0 y1 y2 y3))
  | 0 => fun _ _ _ _ r h => by simp [spec_BytePlace.l0] at h
  | k + 1 => by
    have ih0 := spec_BytePlace.mono_l k
    · intro y0 y1 y2 y3
      unfold spec_BytePlace.l0
      repeat' first
      | (with_reducible exact ih0 _ _ _ _)
      | (with_reducible exact LeO.refl _)
      | (with_reducible exact LeO.none _)
      | (with_reducible refine LeO.ite ?_ ?_)
      | (with_reducible refine LeO.bind ?_ (fun _ => ?_))
      | exact ih0 _ _ _ _
      | exact LeO.none _
      | refine LeO.ite ?_ ?_
      | refine LeO.bind ?_ (fun _ => ?_)
theorem spec_BytePlace.mono : ∀ a0 a1 k, LeO (spec_BytePlace.f k a0 a1) (spec_BytePlace.f (k + 1) a0 a1) := by
  intro a0 a1 k
  have ih0 := spec_BytePlace.mono_l k
  unfold spec_BytePlace.f
  repeat' first
      | (with_reducible exact ih0 _ _ _ _)
      | (with_reducible exact LeO.refl _)
      | (with_reducible exact LeO.none _)
      | (with_reducible refine LeO.ite ?_ ?_)
      | (with_reducible refine LeO.bind ?_ (fun _ => ?_))
      | exact ih0 _ _ _ _
      | exact LeO.none _
      | refine LeO.ite ?_ ?_
      | refine LeO.bind ?_ (fun _ => ?_)
set_option maxHeartbeats 8000000 in
set_option maxRecDepth 100000 in
theorem spec_BytePlace.calls (k : Nat) (A0 : Option Addr) (c0 : Nat) (l0 : List Int) (a1 : Int) (r : Int) (w : World) (hr0 : Kd.C (Kd.int .u8) w A0 l0.length l0) (hc0 : l0.length ≤ c0) (h : spec_BytePlace.f k l0 a1 = some r) :
    Calls Tryd.prog 8 #[.slice A0 l0.length c0, .int .u8 a1] w fun e w' => e = .returned (.int .i64 r) ∧ Drawn0 w w' := by
  have HR0 := Aside0.mk hr0
  have HC0 := Aside0.mk hc0
  clear hr0 hc0
  have H : (spec_BytePlace.l0 k a1 l0 (l0.length : Int) 0) = some r := h
  clear h
  have H' := Aside0.mk H
  clear H
  go_enter Tryd.func8, Tryd.ntmps8
  go_wp2
  go_loopg [9] k (fun kq v9 w' => ∃ (x9_1 : Int), v9 = .int .i64 x9_1 ∧ Aside0 (spec_BytePlace.l0 kq a1 l0 (l0.length : Int) x9_1 = some r) ∧ Aside0 (kq ≤ k) ∧ Drawn0 w w')
  case atStart => exact ⟨(0), (by first | rfl | (simp; done) | (simp [*]; done)), H', ⟨Nat.le_refl _⟩, by repeat (first | exact Drawn0.refl _ | apply Drawn0.step)⟩
  case round =>
    clear H'
    try clear p2
    obtain ⟨x9_1, rfl, HA, HK1, ⟨m1, rfl⟩⟩ := hrel
    cases gk with
    | zero => exact absurd HA.out (by simp [spec_BytePlace.l0])
    | succ k1 =>
      have H := HA.out
      clear HA
      simp only [spec_BytePlace.l0] at H
      by_cases c3 : x9_1 < (l0.length : Int)
      · rw [if_pos c3] at H
        have c3b0 : decide (x9_1 < (l0.length : Int)) = true := decide_eq_true c3
        clear c3
        by_cases c4 : 0 ≤ x9_1
        · rw [if_pos c4] at H
          have c4b0 : decide (0 ≤ x9_1) = true := decide_eq_true c4
          clear c4
          by_cases c5 : x9_1 < (l0.length : Int)
          · rw [if_pos c5] at H
            have c5b0 : decide (x9_1 < (l0.length : Int)) = true := decide_eq_true c5
            clear c5
            by_cases c6 : (rd l0 x9_1) = a1
            · rw [if_pos c6] at H
              have c6b0 : ((rd l0 x9_1) == a1) = true := beq_iff_eq.mpr c6
              have c6b1 : ((rd l0 x9_1) != a1) = false := bne_eq_false_iff_eq.mpr c6
              clear c6
              obtain rfl := Option.some.inj H
              have p140 : 0 ≤ (x9_1 : Int) := of_decide_eq_true (by first | (with_reducible assumption) | assumption)
              have q140 : x9_1 < (l0.length : Int) := of_decide_eq_true (by first | (with_reducible assumption) | assumption)
              obtain ⟨ad140, e140, hx140_0⟩ := Kd.at_int HR0.out x9_1 p140 q140
              cases e140
              replace p140 := eq_true p140
              replace q140 := eq_true q140
              go_wp2
              go_ret
              exact ⟨by first | rfl | (simp; done) | (simp [*]; done), by repeat (first | exact Drawn0.refl _ | apply Drawn0.step)⟩
            · rw [if_neg c6] at H
              have c6b0 : ((rd l0 x9_1) == a1) = false := beq_eq_false_iff_ne.mpr c6
              have c6b1 : ((rd l0 x9_1) != a1) = true := bne_iff_ne.mpr c6
              have H' := Aside0.mk H
              clear H
              have p140 : 0 ≤ (x9_1 : Int) := of_decide_eq_true (by first | (with_reducible assumption) | assumption)
              have q140 : x9_1 < (l0.length : Int) := of_decide_eq_true (by first | (with_reducible assumption) | assumption)
              obtain ⟨ad140, e140, hx140_0⟩ := Kd.at_int HR0.out x9_1 p140 q140
              cases e140
              replace p140 := eq_true p140
              replace q140 := eq_true q140
              go_wp2
              go_roundg k1
              case measure => have := HK1.out; omega
              case rel => exact ⟨(wrap64 (x9_1 + 1)), (by first | rfl | (simp; done) | (simp [*]; done)), H', ⟨by have := HK1.out; omega⟩, by repeat (first | exact Drawn0.refl _ | apply Drawn0.step)⟩
          · rw [if_neg c5] at H
            exact absurd H (by simp)
        · rw [if_neg c4] at H
          exact absurd H (by simp)
      · rw [if_neg c3] at H
        have c3b0 : decide (x9_1 < (l0.length : Int)) = false := decide_eq_false c3
        clear c3
        obtain rfl := Option.some.inj H
        go_wp2
        go_ret
        exact ⟨by first | rfl | (simp; done) | (simp [*]; done), by repeat (first | exact Drawn0.refl _ | apply Drawn0.step)⟩

/-! ### spec_IsToken: function 17 -/
def spec_IsToken.l0 : Nat → ByteArray → Int → Int → Option (Bool)
  | 0, _, _, _ => none
  | k + 1, x0, x7, x8 => if x8 < x7 then (if 0 ≤ x8 then (if x8 < (x0.size : Int) then (if (bt x0 x8) ≥ 97 then (if ((bt x0 x8) ≤ 122) then (spec_IsToken.l0 k x0 x7 (wrap64 (x8 + 1))) else (if x8 = 0 then (some false) else (if (bt x0 x8) = 45 then (spec_IsToken.l0 k x0 x7 (wrap64 (x8 + 1))) else (if (bt x0 x8) < 48 then (some false) else (if (bt x0 x8) > 57 then (some false) else (spec_IsToken.l0 k x0 x7 (wrap64 (x8 + 1)))))))) else (if x8 = 0 then (some false) else (if (bt x0 x8) = 45 then (spec_IsToken.l0 k x0 x7 (wrap64 (x8 + 1))) else (if (bt x0 x8) < 48 then (some false) else (if (bt x0 x8) > 57 then (some false) else (spec_IsToken.l0 k x0 x7 (wrap64 (x8 + 1)))))))) else (none)) else (none)) else (if (x0.size : Int) ≥ 1 then (some (decide ((x0.size : Int) ≤ 20))) else (some false))
def spec_IsToken.f (k : Nat) (a0 : ByteArray) : Option (Bool) := spec_IsToken.l0 k a0 (a0.size : Int) 0
theorem spec_IsToken.mono_l : ∀ k, (∀ y0 y1 y2, LeO (spec_IsToken.l0 k y0 y1 y2) (spec_IsToken.l0 (k + 1) y0 y1 y2))
  | 0 => fun _ _ _ r h => by simp [spec_IsToken.l0] at h
  | k + 1 => by
    have ih0 := spec_IsToken.mono_l k
    · intro y0 y1 y2
      unfold spec_IsToken.l0
      repeat' first
      | (with_reducible exact ih0 _ _ _)
      | (with_reducible exact LeO.refl _)
      | (with_reducible exact LeO.none _)
      | (with_reducible refine LeO.ite ?_ ?_)
      | (with_reducible refine LeO.bind ?_ (fun _ => ?_))
      | exact ih0 _ _ _
      | exact LeO.none _
      | refine LeO.ite ?_ ?_
      | refine LeO.bind ?_ (fun _ => ?_)
theorem spec_IsToken.mono : ∀ a0 k, LeO (spec_IsToken.f k a0) (spec_IsToken.f (k + 1) a0) := by
  intro a0 k
  have ih0 := spec_IsToken.mono_l k
  unfold spec_IsToken.f
  repeat' first
      | (with_reducible exact ih0 _ _ _)
      | (with_reducible exact LeO.refl _)
      | (with_reducible exact LeO.none _)
      | (with_reducible refine LeO.ite ?_ ?_)
      | (with_reducible refine LeO.bind ?_ (fun _ => ?_))
      | exact ih0 _ _ _
      | exact LeO.none _
      | refine LeO.ite ?_ ?_
      | refine LeO.bind ?_ (fun _ => ?_)
set_option maxHeartbeats 8000000 in
set_option maxRecDepth 100000 in
theorem spec_IsToken.calls (k : Nat) (a0 : ByteArray) (r : Bool) (w : World) (h : spec_IsToken.f k a0 = some r) :
    Calls Tryd.prog 17 #[.string a0] w fun e w' => e = .returned (.bool r) ∧ Drawn0 w w' := by
  have H : (spec_IsToken.l0 k a0 (a0.size : Int) 0) = some r := h
  clear h
  have H' := Aside0.mk H
  clear H
  go_enter Tryd.func17, Tryd.ntmps17
  go_wp2
  go_loopg [8] k (fun kq v8 w' => ∃ (x8_1 : Int), v8 = .int .i64 x8_1 ∧ Aside0 (spec_IsToken.l0 kq a0 (a0.size : Int) x8_1 = some r) ∧ Aside0 (kq ≤ k) ∧ Drawn0 w w')
  case atStart => exact ⟨(0), (by first | rfl | (simp; done) | (simp [*]; done)), H', ⟨Nat.le_refl _⟩, by repeat (first | exact Drawn0.refl _ | apply Drawn0.step)⟩
  case round =>
    clear H'
    try clear c1
    obtain ⟨x8_1, rfl, HA, HK1, ⟨m1, rfl⟩⟩ := hrel
    cases gk with
    | zero => exact absurd HA.out (by simp [spec_IsToken.l0])
    | succ k1 =>
      have H := HA.out
      clear HA
      simp only [spec_IsToken.l0] at H
      by_cases c2 : x8_1 < (a0.size : Int)
      · rw [if_pos c2] at H
        have c2b0 : decide (x8_1 < (a0.size : Int)) = true := decide_eq_true c2
        clear c2
        by_cases c3 : 0 ≤ x8_1
        · rw [if_pos c3] at H
          have c3b0 : decide (0 ≤ x8_1) = true := decide_eq_true c3
          clear c3
          by_cases c4 : x8_1 < (a0.size : Int)
          · rw [if_pos c4] at H
            have c4b0 : decide (x8_1 < (a0.size : Int)) = true := decide_eq_true c4
            clear c4
            by_cases c6 : (bt a0 x8_1) ≥ 97
            · rw [if_pos c6] at H
              have c6b0 : decide (97 ≤ (bt a0 x8_1)) = true := decide_eq_true c6
              clear c6
              by_cases c7 : ((bt a0 x8_1) ≤ 122)
              · rw [if_pos c7] at H
                have c7b0 : decide ((bt a0 x8_1) ≤ 122) = true := decide_eq_true c7
                clear c7
                have H' := Aside0.mk H
                clear H
                have p5 : 0 ≤ (x8_1 : Int) := of_decide_eq_true (by first | (with_reducible assumption) | assumption)
                have q5 : x8_1 < (a0.size : Int) := of_decide_eq_true (by first | (with_reducible assumption) | assumption)
                have hx5 := bt_at a0 x8_1
                replace p5 := eq_true p5
                replace q5 := eq_true q5
                go_wp2
                go_roundg k1
                case measure => have := HK1.out; omega
                case rel => exact ⟨(wrap64 (x8_1 + 1)), (by first | rfl | (simp; done) | (simp [*]; done)), H', ⟨by have := HK1.out; omega⟩, by repeat (first | exact Drawn0.refl _ | apply Drawn0.step)⟩
              · rw [if_neg c7] at H
                have c7b0 : decide ((bt a0 x8_1) ≤ 122) = false := decide_eq_false c7
                clear c7
                by_cases c8 : x8_1 = 0
                · rw [if_pos c8] at H
                  have c8b0 : (x8_1 == 0) = true := beq_iff_eq.mpr c8
                  have c8b1 : (x8_1 != 0) = false := bne_eq_false_iff_eq.mpr c8
                  clear c8
                  obtain rfl := Option.some.inj H
                  have p5 : 0 ≤ (x8_1 : Int) := of_decide_eq_true (by first | (with_reducible assumption) | assumption)
                  have q5 : x8_1 < (a0.size : Int) := of_decide_eq_true (by first | (with_reducible assumption) | assumption)
                  have hx5 := bt_at a0 x8_1
                  replace p5 := eq_true p5
                  replace q5 := eq_true q5
                  go_wp2
                  go_ret
                  exact ⟨by first | rfl | (simp; done) | (simp [*]; done), by repeat (first | exact Drawn0.refl _ | apply Drawn0.step)⟩
                · rw [if_neg c8] at H
                  have c8b0 : (x8_1 == 0) = false := beq_eq_false_iff_ne.mpr c8
                  have c8b1 : (x8_1 != 0) = true := bne_iff_ne.mpr c8
                  by_cases c9 : (bt a0 x8_1) = 45
                  · rw [if_pos c9] at H
                    have c9b0 : ((bt a0 x8_1) == 45) = true := beq_iff_eq.mpr c9
                    have c9b1 : ((bt a0 x8_1) != 45) = false := bne_eq_false_iff_eq.mpr c9
                    clear c9
                    have H' := Aside0.mk H
                    clear H
                    have p5 : 0 ≤ (x8_1 : Int) := of_decide_eq_true (by first | (with_reducible assumption) | assumption)
                    have q5 : x8_1 < (a0.size : Int) := of_decide_eq_true (by first | (with_reducible assumption) | assumption)
                    have hx5 := bt_at a0 x8_1
                    replace p5 := eq_true p5
                    replace q5 := eq_true q5
                    go_wp2
                    go_roundg k1
                    case measure => have := HK1.out; omega
                    case rel => exact ⟨(wrap64 (x8_1 + 1)), (by first | rfl | (simp; done) | (simp [*]; done)), H', ⟨by have := HK1.out; omega⟩, by repeat (first | exact Drawn0.refl _ | apply Drawn0.step)⟩
                  · rw [if_neg c9] at H
                    have c9b0 : ((bt a0 x8_1) == 45) = false := beq_eq_false_iff_ne.mpr c9
                    have c9b1 : ((bt a0 x8_1) != 45) = true := bne_iff_ne.mpr c9
                    by_cases c10 : (bt a0 x8_1) < 48
                    · rw [if_pos c10] at H
                      have c10b0 : decide ((bt a0 x8_1) < 48) = true := decide_eq_true c10
                      clear c10
                      obtain rfl := Option.some.inj H
                      have p5 : 0 ≤ (x8_1 : Int) := of_decide_eq_true (by first | (with_reducible assumption) | assumption)
                      have q5 : x8_1 < (a0.size : Int) := of_decide_eq_true (by first | (with_reducible assumption) | assumption)
                      have hx5 := bt_at a0 x8_1
                      replace p5 := eq_true p5
                      replace q5 := eq_true q5
                      go_wp2
                      go_ret
                      exact ⟨by first | rfl | (simp; done) | (simp [*]; done), by repeat (first | exact Drawn0.refl _ | apply Drawn0.step)⟩
                    · rw [if_neg c10] at H
                      have c10b0 : decide ((bt a0 x8_1) < 48) = false := decide_eq_false c10
                      clear c10
                      by_cases c11 : (bt a0 x8_1) > 57
                      · rw [if_pos c11] at H
                        have c11b0 : decide (57 < (bt a0 x8_1)) = true := decide_eq_true c11
                        clear c11
                        obtain rfl := Option.some.inj H
                        have p5 : 0 ≤ (x8_1 : Int) := of_decide_eq_true (by first | (with_reducible assumption) | assumption)
                        have q5 : x8_1 < (a0.size : Int) := of_decide_eq_true (by first | (with_reducible assumption) | assumption)
                        have hx5 := bt_at a0 x8_1
                        replace p5 := eq_true p5
                        replace q5 := eq_true q5
                        go_wp2
                        go_ret
                        exact ⟨by first | rfl | (simp; done) | (simp [*]; done), by repeat (first | exact Drawn0.refl _ | apply Drawn0.step)⟩
                      · rw [if_neg c11] at H
                        have c11b0 : decide (57 < (bt a0 x8_1)) = false := decide_eq_false c11
                        clear c11
                        have H' := Aside0.mk H
                        clear H
                        have p5 : 0 ≤ (x8_1 : Int) := of_decide_eq_true (by first | (with_reducible assumption) | assumption)
                        have q5 : x8_1 < (a0.size : Int) := of_decide_eq_true (by first | (with_reducible assumption) | assumption)
                        have hx5 := bt_at a0 x8_1
                        replace p5 := eq_true p5
                        replace q5 := eq_true q5
                        go_wp2
                        go_roundg k1
                        case measure => have := HK1.out; omega
                        case rel => exact ⟨(wrap64 (x8_1 + 1)), (by first | rfl | (simp; done) | (simp [*]; done)), H', ⟨by have := HK1.out; omega⟩, by repeat (first | exact Drawn0.refl _ | apply Drawn0.step)⟩
            · rw [if_neg c6] at H
              have c6b0 : decide (97 ≤ (bt a0 x8_1)) = false := decide_eq_false c6
              clear c6
              by_cases c12 : x8_1 = 0
              · rw [if_pos c12] at H
                have c12b0 : (x8_1 == 0) = true := beq_iff_eq.mpr c12
                have c12b1 : (x8_1 != 0) = false := bne_eq_false_iff_eq.mpr c12
                clear c12
                obtain rfl := Option.some.inj H
                have p5 : 0 ≤ (x8_1 : Int) := of_decide_eq_true (by first | (with_reducible assumption) | assumption)
                have q5 : x8_1 < (a0.size : Int) := of_decide_eq_true (by first | (with_reducible assumption) | assumption)
                have hx5 := bt_at a0 x8_1
                replace p5 := eq_true p5
                replace q5 := eq_true q5
                go_wp2
                go_ret
                exact ⟨by first | rfl | (simp; done) | (simp [*]; done), by repeat (first | exact Drawn0.refl _ | apply Drawn0.step)⟩
              · rw [if_neg c12] at H
                have c12b0 : (x8_1 == 0) = false := beq_eq_false_iff_ne.mpr c12
                have c12b1 : (x8_1 != 0) = true := bne_iff_ne.mpr c12
                by_cases c13 : (bt a0 x8_1) = 45
                · rw [if_pos c13] at H
                  have c13b0 : ((bt a0 x8_1) == 45) = true := beq_iff_eq.mpr c13
                  have c13b1 : ((bt a0 x8_1) != 45) = false := bne_eq_false_iff_eq.mpr c13
                  clear c13
                  have H' := Aside0.mk H
                  clear H
                  have p5 : 0 ≤ (x8_1 : Int) := of_decide_eq_true (by first | (with_reducible assumption) | assumption)
                  have q5 : x8_1 < (a0.size : Int) := of_decide_eq_true (by first | (with_reducible assumption) | assumption)
                  have hx5 := bt_at a0 x8_1
                  replace p5 := eq_true p5
                  replace q5 := eq_true q5
                  go_wp2
                  go_roundg k1
                  case measure => have := HK1.out; omega
                  case rel => exact ⟨(wrap64 (x8_1 + 1)), (by first | rfl | (simp; done) | (simp [*]; done)), H', ⟨by have := HK1.out; omega⟩, by repeat (first | exact Drawn0.refl _ | apply Drawn0.step)⟩
                · rw [if_neg c13] at H
                  have c13b0 : ((bt a0 x8_1) == 45) = false := beq_eq_false_iff_ne.mpr c13
                  have c13b1 : ((bt a0 x8_1) != 45) = true := bne_iff_ne.mpr c13
                  by_cases c14 : (bt a0 x8_1) < 48
                  · rw [if_pos c14] at H
                    have c14b0 : decide ((bt a0 x8_1) < 48) = true := decide_eq_true c14
                    clear c14
                    obtain rfl := Option.some.inj H
                    have p5 : 0 ≤ (x8_1 : Int) := of_decide_eq_true (by first | (with_reducible assumption) | assumption)
                    have q5 : x8_1 < (a0.size : Int) := of_decide_eq_true (by first | (with_reducible assumption) | assumption)
                    have hx5 := bt_at a0 x8_1
                    replace p5 := eq_true p5
                    replace q5 := eq_true q5
                    go_wp2
                    go_ret
                    exact ⟨by first | rfl | (simp; done) | (simp [*]; done), by repeat (first | exact Drawn0.refl _ | apply Drawn0.step)⟩
                  · rw [if_neg c14] at H
                    have c14b0 : decide ((bt a0 x8_1) < 48) = false := decide_eq_false c14
                    clear c14
                    by_cases c15 : (bt a0 x8_1) > 57
                    · rw [if_pos c15] at H
                      have c15b0 : decide (57 < (bt a0 x8_1)) = true := decide_eq_true c15
                      clear c15
                      obtain rfl := Option.some.inj H
                      have p5 : 0 ≤ (x8_1 : Int) := of_decide_eq_true (by first | (with_reducible assumption) | assumption)
                      have q5 : x8_1 < (a0.size : Int) := of_decide_eq_true (by first | (with_reducible assumption) | assumption)
                      have hx5 := bt_at a0 x8_1
                      replace p5 := eq_true p5
                      replace q5 := eq_true q5
                      go_wp2
                      go_ret
                      exact ⟨by first | rfl | (simp; done) | (simp [*]; done), by repeat (first | exact Drawn0.refl _ | apply Drawn0.step)⟩
                    · rw [if_neg c15] at H
                      have c15b0 : decide (57 < (bt a0 x8_1)) = false := decide_eq_false c15
                      clear c15
                      have H' := Aside0.mk H
                      clear H
                      have p5 : 0 ≤ (x8_1 : Int) := of_decide_eq_true (by first | (with_reducible assumption) | assumption)
                      have q5 : x8_1 < (a0.size : Int) := of_decide_eq_true (by first | (with_reducible assumption) | assumption)
                      have hx5 := bt_at a0 x8_1
                      replace p5 := eq_true p5
                      replace q5 := eq_true q5
                      go_wp2
                      go_roundg k1
                      case measure => have := HK1.out; omega
                      case rel => exact ⟨(wrap64 (x8_1 + 1)), (by first | rfl | (simp; done) | (simp [*]; done)), H', ⟨by have := HK1.out; omega⟩, by repeat (first | exact Drawn0.refl _ | apply Drawn0.step)⟩
          · rw [if_neg c4] at H
            exact absurd H (by simp)
        · rw [if_neg c3] at H
          exact absurd H (by simp)
      · rw [if_neg c2] at H
        have c2b0 : decide (x8_1 < (a0.size : Int)) = false := decide_eq_false c2
        clear c2
        by_cases c16 : (a0.size : Int) ≥ 1
        · rw [if_pos c16] at H
          have c16b0 : decide (1 ≤ (a0.size : Int)) = true := decide_eq_true c16
          have c16b1 : decide (1 ≤ a0.size) = true := decide_eq_true (by omega)
          clear c16
          obtain rfl := Option.some.inj H
          go_wp2
          go_ret
          exact ⟨by first | rfl | (simp; done) | (simp [*]; done), by repeat (first | exact Drawn0.refl _ | apply Drawn0.step)⟩
        · rw [if_neg c16] at H
          have c16b0 : decide (1 ≤ (a0.size : Int)) = false := decide_eq_false c16
          have c16b1 : decide (1 ≤ a0.size) = false := decide_eq_false (by omega)
          clear c16
          obtain rfl := Option.some.inj H
          go_wp2
          go_ret
          exact ⟨by first | rfl | (simp; done) | (simp [*]; done), by repeat (first | exact Drawn0.refl _ | apply Drawn0.step)⟩

/-! ### laws_entitiesOk: function 7 -/
mutual
def laws_entitiesOk.l0 : Nat → List (S36) → List (S36) → Int → Int → Option (Bool)
  | 0, _, _, _, _ => none
  | k + 1, x0, x7, x8, x9 => if x9 < x8 then (if 0 ≤ x9 then (if x9 < (x7.length : Int) then (if (((rd_T36 x7 x9).f0).size : Int) < 2 then (laws_entitiesOk.j1 k x0 x9 x7 x8 x9 true ((rd_T36 x7 x9).f0) ((rd_T36 x7 x9).f1)) else ((spec_IsToken.f k ((rd_T36 x7 x9).f0)).bind fun t143 => (if t143 = true then (if (((rd_T36 x7 x9).f0).size : Int) ≤ 140737488355328 then ((spec_BytePlace.f k (Go.Proofs.YtkgaladmiiglaaaDoor.Own.numsOf ((rd_T36 x7 x9).f0)) 45).bind fun t147 => (if t147 ≥ 0 then (laws_entitiesOk.j1 k x0 x9 x7 x8 x9 true ((rd_T36 x7 x9).f0) ((rd_T36 x7 x9).f1)) else (if (((rd_T36 x7 x9).f1).size : Int) < 1 then (laws_entitiesOk.j1 k x0 x9 x7 x8 x9 true ((rd_T36 x7 x9).f0) ((rd_T36 x7 x9).f1)) else (laws_entitiesOk.j1 k x0 x9 x7 x8 x9 (decide ((((rd_T36 x7 x9).f1).size : Int) > (wrap64 ((((rd_T36 x7 x9).f0).size : Int) + 2)))) ((rd_T36 x7 x9).f0) ((rd_T36 x7 x9).f1))))) else (none)) else (laws_entitiesOk.j1 k x0 x9 x7 x8 x9 true ((rd_T36 x7 x9).f0) ((rd_T36 x7 x9).f1))))) else (none)) else (none)) else (some (decide ((x0.length : Int) ≤ 8)))
def laws_entitiesOk.j1 : Nat → List (S36) → Int → List (S36) → Int → Int → Bool → ByteArray → ByteArray → Option (Bool)
  | 0, _, _, _, _, _, _, _, _ => none
  | k + 1, x0, x3, x7, x8, x9, x46, x143000, x143001 => if x46 = true then (some false) else (if (x143001.size : Int) ≤ 140737488355328 then ((spec_BytePlace.f k (Go.Proofs.YtkgaladmiiglaaaDoor.Own.numsOf x143001) 38).bind fun t151 => (if t151 ≥ 0 then (laws_entitiesOk.j2 k x0 x3 x7 x8 x9 true x143000 x143001) else ((spec_BytePlace.f k (Go.Proofs.YtkgaladmiiglaaaDoor.Own.numsOf x143001) 59).bind fun t155 => (laws_entitiesOk.j2 k x0 x3 x7 x8 x9 (decide (t155 ≥ 0)) x143000 x143001)))) else (none))
def laws_entitiesOk.j2 : Nat → List (S36) → Int → List (S36) → Int → Int → Bool → ByteArray → ByteArray → Option (Bool)
  | 0, _, _, _, _, _, _, _, _ => none
  | k + 1, x0, x3, x7, x8, x9, x58, x143000, x143001 => if x58 = true then (some false) else (if 0 ≤ x3 then (if x3 ≤ (x0.length : Int) then ((some (x0.take (x3 : Int).toNat : List (S36))).bind fun y156 => (laws_entitiesOk.l1 k x0 x7 x8 x9 y156 (y156.length : Int) 0 x143000 x143001)) else (none)) else (none))
def laws_entitiesOk.l1 : Nat → List (S36) → List (S36) → Int → Int → List (S36) → Int → Int → ByteArray → ByteArray → Option (Bool)
  | 0, _, _, _, _, _, _, _, _, _ => none
  | k + 1, x0, x7, x8, x9, x61, x62, x63, x143000, x143001 => if x63 < x62 then (if 0 ≤ x63 then (if x63 < (x61.length : Int) then (if ((rd_T36 x61 x63).f0).toList = x143000.toList then (some false) else (laws_entitiesOk.l1 k x0 x7 x8 x9 x61 x62 (wrap64 (x63 + 1)) x143000 x143001)) else (none)) else (none)) else (laws_entitiesOk.l0 k x0 x7 x8 (wrap64 (x9 + 1)))
end
def laws_entitiesOk.f (k : Nat) (l0 : List (S36)) : Option (Bool) := laws_entitiesOk.l0 k l0 l0 (l0.length : Int) 0
theorem laws_entitiesOk.mono_l : ∀ k, (∀ y0 y1 y2 y3, LeO (laws_entitiesOk.l0 k y0 y1 y2 y3) (laws_entitiesOk.l0 (k + 1) y0 y1 y2 y3)) ∧ (∀ y0 y1 y2 y3 y4 y5 y6 y7, LeO (laws_entitiesOk.j1 k y0 y1 y2 y3 y4 y5 y6 y7) (laws_entitiesOk.j1 (k + 1) y0 y1 y2 y3 y4 y5 y6 y7)) ∧ (∀ y0 y1 y2 y3 y4 y5 y6 y7, LeO (laws_entitiesOk.j2 k y0 y1 y2 y3 y4 y5 y6 y7) (laws_entitiesOk.j2 (k + 1) y0 y1 y2 y3 y4 y5 y6 y7)) ∧ (∀ y0 y1 y2 y3 y4 y5 y6 y7 y8, LeO (laws_entitiesOk.l1 k y0 y1 y2 y3 y4 y5 y6 y7 y8) (laws_entitiesOk.l1 (k + 1) y0 y1 y2 y3 y4 y5 y6 y7 y8))
  | 0 => ⟨fun _ _ _ _ r h => by simp [laws_entitiesOk.l0] at h, fun _ _ _ _ _ _ _ _ r h => by simp [laws_entitiesOk.j1] at h, fun _ _ _ _ _ _ _ _ r h => by simp [laws_entitiesOk.j2] at h, fun _ _ _ _ _ _ _ _ _ r h => by simp [laws_entitiesOk.l1] at h⟩
  | k + 1 => by
    obtain ⟨ih0, ih1, ih2, ih3⟩ := laws_entitiesOk.mono_l k
    refine ⟨?_, ?_, ?_, ?_⟩
    · intro y0 y1 y2 y3
      unfold laws_entitiesOk.l0
      repeat' first
      | (with_reducible exact ih0 _ _ _ _)
      | (with_reducible exact ih1 _ _ _ _ _ _ _ _)
      | (with_reducible exact ih2 _ _ _ _ _ _ _ _)
      | (with_reducible exact ih3 _ _ _ _ _ _ _ _ _)
      | (with_reducible exact spec_BytePlace.mono _ _ _)
      | (with_reducible exact spec_IsToken.mono _ _)
      | (with_reducible exact LeO.refl _)
      | (with_reducible exact LeO.none _)
      | (with_reducible refine LeO.ite ?_ ?_)
      | (with_reducible refine LeO.bind ?_ (fun _ => ?_))
      | exact ih0 _ _ _ _
      | exact ih1 _ _ _ _ _ _ _ _
      | exact ih2 _ _ _ _ _ _ _ _
      | exact ih3 _ _ _ _ _ _ _ _ _
      | exact spec_BytePlace.mono _ _ _
      | exact spec_IsToken.mono _ _
      | exact LeO.none _
      | refine LeO.ite ?_ ?_
      | refine LeO.bind ?_ (fun _ => ?_)
    · intro y0 y1 y2 y3 y4 y5 y6 y7
      unfold laws_entitiesOk.j1
      repeat' first
      | (with_reducible exact ih0 _ _ _ _)
      | (with_reducible exact ih1 _ _ _ _ _ _ _ _)
      | (with_reducible exact ih2 _ _ _ _ _ _ _ _)
      | (with_reducible exact ih3 _ _ _ _ _ _ _ _ _)
      | (with_reducible exact spec_BytePlace.mono _ _ _)
      | (with_reducible exact spec_IsToken.mono _ _)
      | (with_reducible exact LeO.refl _)
      | (with_reducible exact LeO.none _)
      | (with_reducible refine LeO.ite ?_ ?_)
      | (with_reducible refine LeO.bind ?_ (fun _ => ?_))
      | exact ih0 _ _ _ _
      | exact ih1 _ _ _ _ _ _ _ _
      | exact ih2 _ _ _ _ _ _ _ _
      | exact ih3 _ _ _ _ _ _ _ _ _
      | exact spec_BytePlace.mono _ _ _
      | exact spec_IsToken.mono _ _
      | exact LeO.none _
      | refine LeO.ite ?_ ?_
      | refine LeO.bind ?_ (fun _ => ?_)
    · intro y0 y1 y2 y3 y4 y5 y6 y7
      unfold laws_entitiesOk.j2
      repeat' first
      | (with_reducible exact ih0 _ _ _ _)
      | (with_reducible exact ih1 _ _ _ _ _ _ _ _)
      | (with_reducible exact ih2 _ _ _ _ _ _ _ _)
      | (with_reducible exact ih3 _ _ _ _ _ _ _ _ _)
      | (with_reducible exact spec_BytePlace.mono _ _ _)
      | (with_reducible exact spec_IsToken.mono _ _)
      | (with_reducible exact LeO.refl _)
      | (with_reducible exact LeO.none _)
      | (with_reducible refine LeO.ite ?_ ?_)
      | (with_reducible refine LeO.bind ?_ (fun _ => ?_))
      | exact ih0 _ _ _ _
      | exact ih1 _ _ _ _ _ _ _ _
      | exact ih2 _ _ _ _ _ _ _ _
      | exact ih3 _ _ _ _ _ _ _ _ _
      | exact spec_BytePlace.mono _ _ _
      | exact spec_IsToken.mono _ _
      | exact LeO.none _
      | refine LeO.ite ?_ ?_
      | refine LeO.bind ?_ (fun _ => ?_)
    · intro y0 y1 y2 y3 y4 y5 y6 y7 y8
      unfold laws_entitiesOk.l1
      repeat' first
      | (with_reducible exact ih0 _ _ _ _)
      | (with_reducible exact ih1 _ _ _ _ _ _ _ _)
      | (with_reducible exact ih2 _ _ _ _ _ _ _ _)
      | (with_reducible exact ih3 _ _ _ _ _ _ _ _ _)
      | (with_reducible exact spec_BytePlace.mono _ _ _)
      | (with_reducible exact spec_IsToken.mono _ _)
      | (with_reducible exact LeO.refl _)
      | (with_reducible exact LeO.none _)
      | (with_reducible refine LeO.ite ?_ ?_)
      | (with_reducible refine LeO.bind ?_ (fun _ => ?_))
      | exact ih0 _ _ _ _
      | exact ih1 _ _ _ _ _ _ _ _
      | exact ih2 _ _ _ _ _ _ _ _
      | exact ih3 _ _ _ _ _ _ _ _ _
      | exact spec_BytePlace.mono _ _ _
      | exact spec_IsToken.mono _ _
      | exact LeO.none _
      | refine LeO.ite ?_ ?_
      | refine LeO.bind ?_ (fun _ => ?_)
theorem laws_entitiesOk.mono : ∀ a0 k, LeO (laws_entitiesOk.f k a0) (laws_entitiesOk.f (k + 1) a0) := by
  intro a0 k
  obtain ⟨ih0, ih1, ih2, ih3⟩ := laws_entitiesOk.mono_l k
  unfold laws_entitiesOk.f
  repeat' first
      | (with_reducible exact ih0 _ _ _ _)
      | (with_reducible exact ih1 _ _ _ _ _ _ _ _)
      | (with_reducible exact ih2 _ _ _ _ _ _ _ _)
      | (with_reducible exact ih3 _ _ _ _ _ _ _ _ _)
      | (with_reducible exact spec_BytePlace.mono _ _ _)
      | (with_reducible exact spec_IsToken.mono _ _)
      | (with_reducible exact LeO.refl _)
      | (with_reducible exact LeO.none _)
      | (with_reducible refine LeO.ite ?_ ?_)
      | (with_reducible refine LeO.bind ?_ (fun _ => ?_))
      | exact ih0 _ _ _ _
      | exact ih1 _ _ _ _ _ _ _ _
      | exact ih2 _ _ _ _ _ _ _ _
      | exact ih3 _ _ _ _ _ _ _ _ _
      | exact spec_BytePlace.mono _ _ _
      | exact spec_IsToken.mono _ _
      | exact LeO.none _
      | refine LeO.ite ?_ ?_
      | refine LeO.bind ?_ (fun _ => ?_)
set_option maxHeartbeats 8000000 in
set_option maxRecDepth 100000 in
theorem laws_entitiesOk.calls (k : Nat) (A0 : Option Addr) (c0 : Nat) (l0 : List (S36)) (r : Bool) (w : World) (hr0 : Kd.C k36 w A0 l0.length l0) (hc0 : l0.length ≤ c0) (h : laws_entitiesOk.f k l0 = some r) :
    Calls Tryd.prog 7 #[.slice A0 l0.length c0] w fun e w' => e = .returned (.bool r) ∧ Below w.heap.size w w' := by
  have hu36 := Tryd.underlying36
  have HR0 := Aside0.mk hr0
  have HC0 := Aside0.mk hc0
  clear hr0 hc0
  have HB := Aside0.mk (Below.refl w.heap.size w)
  have H : (laws_entitiesOk.l0 k l0 l0 (l0.length : Int) 0) = some r := h
  clear h
  have H' := Aside0.mk H
  clear H
  go_enter Tryd.func7, Tryd.ntmps7
  go_wp2
  go_loopg [9] k (fun kq v9 w' => ∃ (x9_1 : Int), v9 = .int .i64 x9_1 ∧ Aside0 (laws_entitiesOk.l0 kq l0 l0 (l0.length : Int) x9_1 = some r) ∧ Aside0 (kq ≤ k) ∧ Aside0 (Below w.heap.size w w'))
  case atStart => exact ⟨(0), (by first | rfl | (simp; done) | (simp [*]; done)), H', ⟨Nat.le_refl _⟩, ⟨by repeat (first | (with_reducible first | exact HB.out | apply below_alloc | apply pw_below_drewN | apply below_drew1) | exact HB.out)⟩⟩
  case round =>
    clear H'
    obtain ⟨x9_1, rfl, HA, HK1, HB⟩ := hrel
    cases gk with
    | zero => exact absurd HA.out (by simp [laws_entitiesOk.l0])
    | succ k1 =>
      have H := HA.out
      clear HA
      simp only [laws_entitiesOk.l0] at H
      by_cases c2 : x9_1 < (l0.length : Int)
      · rw [if_pos c2] at H
        have c2b0 : decide (x9_1 < (l0.length : Int)) = true := decide_eq_true c2
        clear c2
        by_cases c3 : 0 ≤ x9_1
        · rw [if_pos c3] at H
          have c3b0 : decide (0 ≤ x9_1) = true := decide_eq_true c3
          clear c3
          by_cases c4 : x9_1 < (l0.length : Int)
          · rw [if_pos c4] at H
            have c4b0 : decide (x9_1 < (l0.length : Int)) = true := decide_eq_true c4
            clear c4
            have HC5 := Aside0.mk H
            clear H
            have p141 : 0 ≤ (x9_1 : Int) := of_decide_eq_true (by first | (with_reducible assumption) | assumption)
            have q141 : x9_1 < (l0.length : Int) := of_decide_eq_true (by first | (with_reducible assumption) | assumption)
            obtain ⟨ad141, e141, hx141_0, hx141_1⟩ := at_T36 HR0.out x9_1 p141 q141
            cases e141
            replace hx141_0 := (HB.out.cell (World.block_lt_of_cell? w _ hx141_0)).trans hx141_0
            replace hx141_1 := (HB.out.cell (World.block_lt_of_cell? w _ hx141_1)).trans hx141_1
            replace p141 := eq_true p141
            replace q141 := eq_true q141
            go_upto_region 4 with (first | ((with_reducible refine gate_dst (N := 4) rfl ?_); (try (refine gate_guard (by rfl) ?_; dsimp only)); refine box_event ?hg (N := 4) ?hd (cs := #[.string (⟨#[]⟩ : ByteArray), .string (⟨#[]⟩ : ByteArray)]) (t := 36) ?hr ?_; (case hd => rfl); (case hg => rfl); (case hr => first | (go_simp; done) | (go_simp; rfl)); intro gb142 hg w6 hbox hb; have n0_ := Aside0.mk (below_step (by repeat (first | (with_reducible first | exact HB.out | apply below_alloc | apply pw_below_drewN | apply below_drew1) | exact HB.out)) hb); have n1_ := Aside0.mk (hbox); have n2_ := Aside0.mk ((by rw [hg]; exact (below_size (by repeat (first | (with_reducible first | exact HB.out | apply below_alloc | apply pw_below_drewN | apply below_drew1) | exact HB.out))) : w.heap.size ≤ gb142)); have n3_ := Aside0.mk ((by rw [hg]; exact (below_size (by repeat (first | (with_reducible first | exact HB.out | apply below_alloc | apply pw_below_drewN | apply below_drew1) | exact HB.out))) : w.heap.size ≤ gb142)); clear HB; have HB := n0_; have BK142 := n1_; have GW142 := n2_; have GE142 := n3_; clear n0_ n1_ n2_ n3_; clear hb hbox hg; have hcz7_0 : w6.cell? ⟨gb142, 0, none⟩ = some (.string (⟨#[]⟩ : ByteArray)) := (blk_cell BK142.out 0).trans rfl; have hcz7_1 : w6.cell? ⟨gb142, 1, none⟩ = some (.string (⟨#[]⟩ : ByteArray)) := (blk_cell BK142.out 1).trans rfl; have hfz7_0 := blk_frozen BK142.out 0; have hfz7_1 := blk_frozen BK142.out 1))
            (try simp only [Act.put, List.setIfInBounds_toArray, List.set_cons_zero, List.set_cons_succ])
            go_cut [46] (fun v46 wc => ∃ (kq : Nat) (x46_4 : Bool), v46 = .bool x46_4 ∧ Aside0 (laws_entitiesOk.j1 kq l0 x9_1 l0 (l0.length : Int) x9_1 x46_4 ((rd_T36 l0 x9_1).f0) ((rd_T36 l0 x9_1).f1) = some r) ∧ Aside0 (kq ≤ k1) ∧ Aside0 (wc.heap[gb142]? = some (.cells #[.string ((rd_T36 l0 x9_1).f0), .string ((rd_T36 l0 x9_1).f1)] 36 (0, 0))) ∧ Aside0 (Below w.heap.size w wc))
            case first =>
              have H := HC5.out
              clear HC5
              by_cases c8 : (((rd_T36 l0 x9_1).f0).size : Int) < 2
              · rw [if_pos c8] at H
                have c8b0 : decide ((((rd_T36 l0 x9_1).f0).size : Int) < 2) = true := decide_eq_true c8
                have c8b1 : decide (((rd_T36 l0 x9_1).f0).size < 2) = true := decide_eq_true (by omega)
                clear c8
                (first | rw [c8b0] | (simp only [i64_w, i32_w]; rw [c8b0]) | skip)
                have H' := Aside0.mk H
                clear H
                have hcz9_0 : w6.cell? ⟨gb142, 0, none⟩ = some (.string (⟨#[]⟩ : ByteArray)) := (blk_cell BK142.out 0).trans rfl
                have hcz9_1 : w6.cell? ⟨gb142, 1, none⟩ = some (.string (⟨#[]⟩ : ByteArray)) := (blk_cell BK142.out 1).trans rfl
                have hfz9_0 := blk_frozen BK142.out 0
                have hfz9_1 := blk_frozen BK142.out 1
                go_wp2
                go_meet
                case rel => exact ⟨_, (true), (by first | rfl | (simp; done) | (simp [*]; done)), H', ⟨by have := HK1.out; first | omega | exact Nat.le_refl _⟩, ⟨by (with_reducible repeat (first | refine blk_drewN ?_ _ | refine blk_drew ?_ | refine blk_alloc ?_ _)); refine blk_put (cs := #[.string ((rd_T36 l0 x9_1).f0), .string (⟨#[]⟩ : ByteArray)]) ?_ 1 _ rfl; (with_reducible repeat (first | refine blk_drewN ?_ _ | refine blk_drew ?_ | refine blk_alloc ?_ _)); refine blk_put (cs := #[.string (⟨#[]⟩ : ByteArray), .string (⟨#[]⟩ : ByteArray)]) ?_ 0 _ rfl; (with_reducible repeat (first | refine blk_drewN ?_ _ | refine blk_drew ?_ | refine blk_alloc ?_ _)); exact BK142.out⟩, ⟨by repeat (first | (with_reducible first | exact HB.out | apply below_alloc | apply pw_below_drewN | apply below_drew1 | refine below_set ?_ GE142.out) | exact HB.out)⟩⟩
              · rw [if_neg c8] at H
                have c8b0 : decide ((((rd_T36 l0 x9_1).f0).size : Int) < 2) = false := decide_eq_false c8
                have c8b1 : decide (((rd_T36 l0 x9_1).f0).size < 2) = false := decide_eq_false (by omega)
                clear c8
                (first | rw [c8b0] | (simp only [i64_w, i32_w]; rw [c8b0]) | skip)
                replace H := Option.bind_eq_some_iff.mp H
                obtain ⟨t143, A100, H⟩ := H
                replace H : (if t143 = true then (if (((rd_T36 l0 x9_1).f0).size : Int) ≤ 140737488355328 then ((spec_BytePlace.f k1 (Go.Proofs.YtkgaladmiiglaaaDoor.Own.numsOf ((rd_T36 l0 x9_1).f0)) 45).bind fun t147 => (if t147 ≥ 0 then (laws_entitiesOk.j1 k1 l0 x9_1 l0 (l0.length : Int) x9_1 true ((rd_T36 l0 x9_1).f0) ((rd_T36 l0 x9_1).f1)) else (if (((rd_T36 l0 x9_1).f1).size : Int) < 1 then (laws_entitiesOk.j1 k1 l0 x9_1 l0 (l0.length : Int) x9_1 true ((rd_T36 l0 x9_1).f0) ((rd_T36 l0 x9_1).f1)) else (laws_entitiesOk.j1 k1 l0 x9_1 l0 (l0.length : Int) x9_1 (decide ((((rd_T36 l0 x9_1).f1).size : Int) > (wrap64 ((((rd_T36 l0 x9_1).f0).size : Int) + 2)))) ((rd_T36 l0 x9_1).f0) ((rd_T36 l0 x9_1).f1))))) else (none)) else (laws_entitiesOk.j1 k1 l0 x9_1 l0 (l0.length : Int) x9_1 true ((rd_T36 l0 x9_1).f0) ((rd_T36 l0 x9_1).f1))) = some r := H
                have A10 := Aside0.mk A100
                clear A100
                by_cases c11 : t143 = true
                · subst c11
                  have H1 : (if (((rd_T36 l0 x9_1).f0).size : Int) ≤ 140737488355328 then ((spec_BytePlace.f k1 (Go.Proofs.YtkgaladmiiglaaaDoor.Own.numsOf ((rd_T36 l0 x9_1).f0)) 45).bind fun t147 => (if t147 ≥ 0 then (laws_entitiesOk.j1 k1 l0 x9_1 l0 (l0.length : Int) x9_1 true ((rd_T36 l0 x9_1).f0) ((rd_T36 l0 x9_1).f1)) else (if (((rd_T36 l0 x9_1).f1).size : Int) < 1 then (laws_entitiesOk.j1 k1 l0 x9_1 l0 (l0.length : Int) x9_1 true ((rd_T36 l0 x9_1).f0) ((rd_T36 l0 x9_1).f1)) else (laws_entitiesOk.j1 k1 l0 x9_1 l0 (l0.length : Int) x9_1 (decide ((((rd_T36 l0 x9_1).f1).size : Int) > (wrap64 ((((rd_T36 l0 x9_1).f0).size : Int) + 2)))) ((rd_T36 l0 x9_1).f0) ((rd_T36 l0 x9_1).f1))))) else (none)) = some r := by rw [if_pos rfl] at H; exact H
                  clear H
                  have H := H1
                  clear H1
                  by_cases c12 : (((rd_T36 l0 x9_1).f0).size : Int) ≤ 140737488355328
                  · rw [if_pos c12] at H
                    have c12b0 : decide ((((rd_T36 l0 x9_1).f0).size : Int) ≤ 140737488355328) = true := decide_eq_true c12
                    have c12b1 : decide (((rd_T36 l0 x9_1).f0).size ≤ 140737488355328) = true := decide_eq_true (by omega)
                    clear c12
                    obtain ⟨y144, hy144⟩ : ∃ y_ : List Int, y_ = (Go.Proofs.YtkgaladmiiglaaaDoor.Own.numsOf ((rd_T36 l0 x9_1).f0)) := ⟨_, rfl⟩
                    replace H : ((spec_BytePlace.f k1 y144 45).bind fun t147 => (if t147 ≥ 0 then (laws_entitiesOk.j1 k1 l0 x9_1 l0 (l0.length : Int) x9_1 true ((rd_T36 l0 x9_1).f0) ((rd_T36 l0 x9_1).f1)) else (if (((rd_T36 l0 x9_1).f1).size : Int) < 1 then (laws_entitiesOk.j1 k1 l0 x9_1 l0 (l0.length : Int) x9_1 true ((rd_T36 l0 x9_1).f0) ((rd_T36 l0 x9_1).f1)) else (laws_entitiesOk.j1 k1 l0 x9_1 l0 (l0.length : Int) x9_1 (decide ((((rd_T36 l0 x9_1).f1).size : Int) > (wrap64 ((((rd_T36 l0 x9_1).f0).size : Int) + 2)))) ((rd_T36 l0 x9_1).f0) ((rd_T36 l0 x9_1).f1))))) = some r := by first | (rw [hy144]; with_reducible exact H) | (have H2_ := (Option.bind_some _ _).symm.trans H; rw [hy144]; with_reducible exact H2_) | (have H2_ := (Option.bind_some _ _).symm.trans H; with_reducible exact H2_) | with_reducible exact H | (rw [hy144]; exact H) | exact H
                    have Ny144 := Aside0.mk hy144
                    clear hy144
                    replace H := Option.bind_eq_some_iff.mp H
                    obtain ⟨t147, A130, H⟩ := H
                    replace H : (if t147 ≥ 0 then (laws_entitiesOk.j1 k1 l0 x9_1 l0 (l0.length : Int) x9_1 true ((rd_T36 l0 x9_1).f0) ((rd_T36 l0 x9_1).f1)) else (if (((rd_T36 l0 x9_1).f1).size : Int) < 1 then (laws_entitiesOk.j1 k1 l0 x9_1 l0 (l0.length : Int) x9_1 true ((rd_T36 l0 x9_1).f0) ((rd_T36 l0 x9_1).f1)) else (laws_entitiesOk.j1 k1 l0 x9_1 l0 (l0.length : Int) x9_1 (decide ((((rd_T36 l0 x9_1).f1).size : Int) > (wrap64 ((((rd_T36 l0 x9_1).f0).size : Int) + 2)))) ((rd_T36 l0 x9_1).f0) ((rd_T36 l0 x9_1).f1)))) = some r := H
                    have A13 := Aside0.mk A130
                    clear A130
                    by_cases c14 : t147 ≥ 0
                    · rw [if_pos c14] at H
                      have c14b0 : decide (0 ≤ t147) = true := decide_eq_true c14
                      clear c14
                      have H' := Aside0.mk H
                      clear H
                      have hcz15_0 : w6.cell? ⟨gb142, 0, none⟩ = some (.string (⟨#[]⟩ : ByteArray)) := (blk_cell BK142.out 0).trans rfl
                      have hcz15_1 : w6.cell? ⟨gb142, 1, none⟩ = some (.string (⟨#[]⟩ : ByteArray)) := (blk_cell BK142.out 1).trans rfl
                      have hfz15_0 := blk_frozen BK142.out 0
                      have hfz15_1 := blk_frozen BK142.out 1
                      go_wp2_with (first | (go_at_call 17; (with_reducible refine (spec_IsToken.calls k1 ((rd_T36 l0 x9_1).f0) true _ A10.out).mono ?_); rintro e w' ⟨rfl, ⟨nd, rfl⟩⟩) | ((with_reducible refine gate_dst (N := 27) rfl ?_); (try (refine gate_guard (by rfl) ?_; dsimp only)); refine Go.Proofs.YtkgaladmiiglaaaDoor.Own.V_bytes _ 5 rfl (N' := 27) rfl 9 22 _ rfl Tryd.underlying9 Tryd.underlying22 Tryd.underlying5 ((rd_T36 l0 x9_1).f0) rfl (of_decide_eq_true (by first | (with_reducible assumption) | assumption)) (Below.refl _ _) (Nat.le_refl _) ?_; intro v145 w16 ho17 hb hg_ hnew_; clear hg_ hnew_; (first | rw [← Ny144.out] at ho17 | (simp only [Int.reduceToNat] at ho17; rw [← Ny144.out] at ho17)); have n0_ := Aside0.mk (Kd.V_lower (Kd.V_mono (ok' := fun k_ => k_ ≠ gb142) ho17 (fun k_ hk_ => (Kd.freshB (g := gb142) (o := .cells #[.string ((rd_T36 l0 x9_1).f0), .string ((rd_T36 l0 x9_1).f1)] 36 (0, 0)) (by (with_reducible repeat (first | refine blk_drewN ?_ _ | refine blk_drew ?_ | refine blk_alloc ?_ _)); refine blk_put (cs := #[.string ((rd_T36 l0 x9_1).f0), .string (⟨#[]⟩ : ByteArray)]) ?_ 1 _ rfl; (with_reducible repeat (first | refine blk_drewN ?_ _ | refine blk_drew ?_ | refine blk_alloc ?_ _)); refine blk_put (cs := #[.string (⟨#[]⟩ : ByteArray), .string (⟨#[]⟩ : ByteArray)]) ?_ 0 _ rfl; (with_reducible repeat (first | refine blk_drewN ?_ _ | refine blk_drew ?_ | refine blk_alloc ?_ _)); exact BK142.out) k_ hk_))) (below_size (by repeat (first | (with_reducible first | exact HB.out | apply below_alloc | apply pw_below_drewN | apply below_drew1 | refine below_set ?_ GE142.out) | exact HB.out)))); have n1_ := Aside0.mk (blk_below (g := gb142) (o := .cells #[.string ((rd_T36 l0 x9_1).f0), .string ((rd_T36 l0 x9_1).f1)] 36 (0, 0)) (by (with_reducible repeat (first | refine blk_drewN ?_ _ | refine blk_drew ?_ | refine blk_alloc ?_ _)); refine blk_put (cs := #[.string ((rd_T36 l0 x9_1).f0), .string (⟨#[]⟩ : ByteArray)]) ?_ 1 _ rfl; (with_reducible repeat (first | refine blk_drewN ?_ _ | refine blk_drew ?_ | refine blk_alloc ?_ _)); refine blk_put (cs := #[.string (⟨#[]⟩ : ByteArray), .string (⟨#[]⟩ : ByteArray)]) ?_ 0 _ rfl; (with_reducible repeat (first | refine blk_drewN ?_ _ | refine blk_drew ?_ | refine blk_alloc ?_ _)); exact BK142.out) hb); have n2_ := Aside0.mk (below_step (by repeat (first | (with_reducible first | exact HB.out | apply below_alloc | apply pw_below_drewN | apply below_drew1 | refine below_set ?_ GE142.out) | exact HB.out)) hb); clear BK142; clear HB; have HO146 := n0_; have BK142 := n1_; have HB := n2_; clear n0_ n1_ n2_; clear hb ho17; obtain ⟨Ao18, co18, eo18⟩ := Kd.V_slice HO146.out; subst eo18) | (go_at_call 8; (with_reducible refine (spec_BytePlace.calls k1 _ _ y144 45 t147 _ ?side1 ?side2 A13.out).mono ?_); (case side1 => repeat (first | exact (Kd.V_reads' HO146.out).2.2 | (with_reducible refine Kd.C_alloc ?_ _) | (with_reducible refine Kd.C_drewN ?_ _) | (with_reducible refine Kd.C_drew ?_))); (case side2 => exact (Kd.V_reads' HO146.out).2.1); rintro e w' ⟨rfl, ⟨nd, rfl⟩⟩))
                      go_meet
                      case rel => exact ⟨_, (true), (by first | rfl | (simp; done) | (simp [*]; done)), H', ⟨by have := HK1.out; first | omega | exact Nat.le_refl _⟩, ⟨by (with_reducible repeat (first | refine blk_drewN ?_ _ | refine blk_drew ?_ | refine blk_alloc ?_ _)); exact BK142.out⟩, ⟨by repeat (first | (with_reducible first | exact HB.out | apply below_alloc | apply pw_below_drewN | apply below_drew1 | refine below_set ?_ GE142.out) | exact HB.out)⟩⟩
                    · rw [if_neg c14] at H
                      have c14b0 : decide (0 ≤ t147) = false := decide_eq_false c14
                      clear c14
                      by_cases c19 : (((rd_T36 l0 x9_1).f1).size : Int) < 1
                      · rw [if_pos c19] at H
                        have c19b0 : decide ((((rd_T36 l0 x9_1).f1).size : Int) < 1) = true := decide_eq_true c19
                        have c19b1 : decide (((rd_T36 l0 x9_1).f1).size < 1) = true := decide_eq_true (by omega)
                        clear c19
                        have H' := Aside0.mk H
                        clear H
                        have hcz20_0 : w6.cell? ⟨gb142, 0, none⟩ = some (.string (⟨#[]⟩ : ByteArray)) := (blk_cell BK142.out 0).trans rfl
                        have hcz20_1 : w6.cell? ⟨gb142, 1, none⟩ = some (.string (⟨#[]⟩ : ByteArray)) := (blk_cell BK142.out 1).trans rfl
                        have hfz20_0 := blk_frozen BK142.out 0
                        have hfz20_1 := blk_frozen BK142.out 1
                        go_wp2_with (first | (go_at_call 17; (with_reducible refine (spec_IsToken.calls k1 ((rd_T36 l0 x9_1).f0) true _ A10.out).mono ?_); rintro e w' ⟨rfl, ⟨nd, rfl⟩⟩) | ((with_reducible refine gate_dst (N := 27) rfl ?_); (try (refine gate_guard (by rfl) ?_; dsimp only)); refine Go.Proofs.YtkgaladmiiglaaaDoor.Own.V_bytes _ 5 rfl (N' := 27) rfl 9 22 _ rfl Tryd.underlying9 Tryd.underlying22 Tryd.underlying5 ((rd_T36 l0 x9_1).f0) rfl (of_decide_eq_true (by first | (with_reducible assumption) | assumption)) (Below.refl _ _) (Nat.le_refl _) ?_; intro v145 w21 ho22 hb hg_ hnew_; clear hg_ hnew_; (first | rw [← Ny144.out] at ho22 | (simp only [Int.reduceToNat] at ho22; rw [← Ny144.out] at ho22)); have n0_ := Aside0.mk (Kd.V_lower (Kd.V_mono (ok' := fun k_ => k_ ≠ gb142) ho22 (fun k_ hk_ => (Kd.freshB (g := gb142) (o := .cells #[.string ((rd_T36 l0 x9_1).f0), .string ((rd_T36 l0 x9_1).f1)] 36 (0, 0)) (by (with_reducible repeat (first | refine blk_drewN ?_ _ | refine blk_drew ?_ | refine blk_alloc ?_ _)); refine blk_put (cs := #[.string ((rd_T36 l0 x9_1).f0), .string (⟨#[]⟩ : ByteArray)]) ?_ 1 _ rfl; (with_reducible repeat (first | refine blk_drewN ?_ _ | refine blk_drew ?_ | refine blk_alloc ?_ _)); refine blk_put (cs := #[.string (⟨#[]⟩ : ByteArray), .string (⟨#[]⟩ : ByteArray)]) ?_ 0 _ rfl; (with_reducible repeat (first | refine blk_drewN ?_ _ | refine blk_drew ?_ | refine blk_alloc ?_ _)); exact BK142.out) k_ hk_))) (below_size (by repeat (first | (with_reducible first | exact HB.out | apply below_alloc | apply pw_below_drewN | apply below_drew1 | refine below_set ?_ GE142.out) | exact HB.out)))); have n1_ := Aside0.mk (blk_below (g := gb142) (o := .cells #[.string ((rd_T36 l0 x9_1).f0), .string ((rd_T36 l0 x9_1).f1)] 36 (0, 0)) (by (with_reducible repeat (first | refine blk_drewN ?_ _ | refine blk_drew ?_ | refine blk_alloc ?_ _)); refine blk_put (cs := #[.string ((rd_T36 l0 x9_1).f0), .string (⟨#[]⟩ : ByteArray)]) ?_ 1 _ rfl; (with_reducible repeat (first | refine blk_drewN ?_ _ | refine blk_drew ?_ | refine blk_alloc ?_ _)); refine blk_put (cs := #[.string (⟨#[]⟩ : ByteArray), .string (⟨#[]⟩ : ByteArray)]) ?_ 0 _ rfl; (with_reducible repeat (first | refine blk_drewN ?_ _ | refine blk_drew ?_ | refine blk_alloc ?_ _)); exact BK142.out) hb); have n2_ := Aside0.mk (below_step (by repeat (first | (with_reducible first | exact HB.out | apply below_alloc | apply pw_below_drewN | apply below_drew1 | refine below_set ?_ GE142.out) | exact HB.out)) hb); clear BK142; clear HB; have HO146 := n0_; have BK142 := n1_; have HB := n2_; clear n0_ n1_ n2_; clear hb ho22; obtain ⟨Ao23, co23, eo23⟩ := Kd.V_slice HO146.out; subst eo23) | (go_at_call 8; (with_reducible refine (spec_BytePlace.calls k1 _ _ y144 45 t147 _ ?side1 ?side2 A13.out).mono ?_); (case side1 => repeat (first | exact (Kd.V_reads' HO146.out).2.2 | (with_reducible refine Kd.C_alloc ?_ _) | (with_reducible refine Kd.C_drewN ?_ _) | (with_reducible refine Kd.C_drew ?_))); (case side2 => exact (Kd.V_reads' HO146.out).2.1); rintro e w' ⟨rfl, ⟨nd, rfl⟩⟩; have hcz24_0 : w21.cell? ⟨gb142, 0, none⟩ = some (.string ((rd_T36 l0 x9_1).f0)) := (blk_cell BK142.out 0).trans rfl; have hcz24_1 : w21.cell? ⟨gb142, 1, none⟩ = some (.string ((rd_T36 l0 x9_1).f1)) := (blk_cell BK142.out 1).trans rfl; have hfz24_0 := blk_frozen BK142.out 0; have hfz24_1 := blk_frozen BK142.out 1))
                        go_meet
                        case rel => exact ⟨_, (true), (by first | rfl | (simp; done) | (simp [*]; done)), H', ⟨by have := HK1.out; first | omega | exact Nat.le_refl _⟩, ⟨by (with_reducible repeat (first | refine blk_drewN ?_ _ | refine blk_drew ?_ | refine blk_alloc ?_ _)); exact BK142.out⟩, ⟨by repeat (first | (with_reducible first | exact HB.out | apply below_alloc | apply pw_below_drewN | apply below_drew1 | refine below_set ?_ GE142.out) | exact HB.out)⟩⟩
                      · rw [if_neg c19] at H
                        have c19b0 : decide ((((rd_T36 l0 x9_1).f1).size : Int) < 1) = false := decide_eq_false c19
                        have c19b1 : decide (((rd_T36 l0 x9_1).f1).size < 1) = false := decide_eq_false (by omega)
                        clear c19
                        have H' := Aside0.mk H
                        clear H
                        have hcz25_0 : w6.cell? ⟨gb142, 0, none⟩ = some (.string (⟨#[]⟩ : ByteArray)) := (blk_cell BK142.out 0).trans rfl
                        have hcz25_1 : w6.cell? ⟨gb142, 1, none⟩ = some (.string (⟨#[]⟩ : ByteArray)) := (blk_cell BK142.out 1).trans rfl
                        have hfz25_0 := blk_frozen BK142.out 0
                        have hfz25_1 := blk_frozen BK142.out 1
                        go_wp2_with (first | (go_at_call 17; (with_reducible refine (spec_IsToken.calls k1 ((rd_T36 l0 x9_1).f0) true _ A10.out).mono ?_); rintro e w' ⟨rfl, ⟨nd, rfl⟩⟩) | ((with_reducible refine gate_dst (N := 27) rfl ?_); (try (refine gate_guard (by rfl) ?_; dsimp only)); refine Go.Proofs.YtkgaladmiiglaaaDoor.Own.V_bytes _ 5 rfl (N' := 27) rfl 9 22 _ rfl Tryd.underlying9 Tryd.underlying22 Tryd.underlying5 ((rd_T36 l0 x9_1).f0) rfl (of_decide_eq_true (by first | (with_reducible assumption) | assumption)) (Below.refl _ _) (Nat.le_refl _) ?_; intro v145 w26 ho27 hb hg_ hnew_; clear hg_ hnew_; (first | rw [← Ny144.out] at ho27 | (simp only [Int.reduceToNat] at ho27; rw [← Ny144.out] at ho27)); have n0_ := Aside0.mk (Kd.V_lower (Kd.V_mono (ok' := fun k_ => k_ ≠ gb142) ho27 (fun k_ hk_ => (Kd.freshB (g := gb142) (o := .cells #[.string ((rd_T36 l0 x9_1).f0), .string ((rd_T36 l0 x9_1).f1)] 36 (0, 0)) (by (with_reducible repeat (first | refine blk_drewN ?_ _ | refine blk_drew ?_ | refine blk_alloc ?_ _)); refine blk_put (cs := #[.string ((rd_T36 l0 x9_1).f0), .string (⟨#[]⟩ : ByteArray)]) ?_ 1 _ rfl; (with_reducible repeat (first | refine blk_drewN ?_ _ | refine blk_drew ?_ | refine blk_alloc ?_ _)); refine blk_put (cs := #[.string (⟨#[]⟩ : ByteArray), .string (⟨#[]⟩ : ByteArray)]) ?_ 0 _ rfl; (with_reducible repeat (first | refine blk_drewN ?_ _ | refine blk_drew ?_ | refine blk_alloc ?_ _)); exact BK142.out) k_ hk_))) (below_size (by repeat (first | (with_reducible first | exact HB.out | apply below_alloc | apply pw_below_drewN | apply below_drew1 | refine below_set ?_ GE142.out) | exact HB.out)))); have n1_ := Aside0.mk (blk_below (g := gb142) (o := .cells #[.string ((rd_T36 l0 x9_1).f0), .string ((rd_T36 l0 x9_1).f1)] 36 (0, 0)) (by (with_reducible repeat (first | refine blk_drewN ?_ _ | refine blk_drew ?_ | refine blk_alloc ?_ _)); refine blk_put (cs := #[.string ((rd_T36 l0 x9_1).f0), .string (⟨#[]⟩ : ByteArray)]) ?_ 1 _ rfl; (with_reducible repeat (first | refine blk_drewN ?_ _ | refine blk_drew ?_ | refine blk_alloc ?_ _)); refine blk_put (cs := #[.string (⟨#[]⟩ : ByteArray), .string (⟨#[]⟩ : ByteArray)]) ?_ 0 _ rfl; (with_reducible repeat (first | refine blk_drewN ?_ _ | refine blk_drew ?_ | refine blk_alloc ?_ _)); exact BK142.out) hb); have n2_ := Aside0.mk (below_step (by repeat (first | (with_reducible first | exact HB.out | apply below_alloc | apply pw_below_drewN | apply below_drew1 | refine below_set ?_ GE142.out) | exact HB.out)) hb); clear BK142; clear HB; have HO146 := n0_; have BK142 := n1_; have HB := n2_; clear n0_ n1_ n2_; clear hb ho27; obtain ⟨Ao28, co28, eo28⟩ := Kd.V_slice HO146.out; subst eo28) | (go_at_call 8; (with_reducible refine (spec_BytePlace.calls k1 _ _ y144 45 t147 _ ?side1 ?side2 A13.out).mono ?_); (case side1 => repeat (first | exact (Kd.V_reads' HO146.out).2.2 | (with_reducible refine Kd.C_alloc ?_ _) | (with_reducible refine Kd.C_drewN ?_ _) | (with_reducible refine Kd.C_drew ?_))); (case side2 => exact (Kd.V_reads' HO146.out).2.1); rintro e w' ⟨rfl, ⟨nd, rfl⟩⟩; have hcz29_0 : w26.cell? ⟨gb142, 0, none⟩ = some (.string ((rd_T36 l0 x9_1).f0)) := (blk_cell BK142.out 0).trans rfl; have hcz29_1 : w26.cell? ⟨gb142, 1, none⟩ = some (.string ((rd_T36 l0 x9_1).f1)) := (blk_cell BK142.out 1).trans rfl; have hfz29_0 := blk_frozen BK142.out 0; have hfz29_1 := blk_frozen BK142.out 1))
                        go_meet
                        case rel => exact ⟨_, (decide ((((rd_T36 l0 x9_1).f1).size : Int) > (wrap64 ((((rd_T36 l0 x9_1).f0).size : Int) + 2)))), (by first | rfl | (simp; done) | (simp [*]; done)), H', ⟨by have := HK1.out; first | omega | exact Nat.le_refl _⟩, ⟨by (with_reducible repeat (first | refine blk_drewN ?_ _ | refine blk_drew ?_ | refine blk_alloc ?_ _)); exact BK142.out⟩, ⟨by repeat (first | (with_reducible first | exact HB.out | apply below_alloc | apply pw_below_drewN | apply below_drew1 | refine below_set ?_ GE142.out) | exact HB.out)⟩⟩
                  · rw [if_neg c12] at H
                    exact absurd H (by simp)
                · replace c11 := Bool.eq_false_iff.mpr c11
                  subst c11
                  have H1 : (laws_entitiesOk.j1 k1 l0 x9_1 l0 (l0.length : Int) x9_1 true ((rd_T36 l0 x9_1).f0) ((rd_T36 l0 x9_1).f1)) = some r := by rw [if_neg (show ¬ (false = true) by decide)] at H; exact H
                  clear H
                  have H := H1
                  clear H1
                  have H' := Aside0.mk H
                  clear H
                  have hcz30_0 : w6.cell? ⟨gb142, 0, none⟩ = some (.string (⟨#[]⟩ : ByteArray)) := (blk_cell BK142.out 0).trans rfl
                  have hcz30_1 : w6.cell? ⟨gb142, 1, none⟩ = some (.string (⟨#[]⟩ : ByteArray)) := (blk_cell BK142.out 1).trans rfl
                  have hfz30_0 := blk_frozen BK142.out 0
                  have hfz30_1 := blk_frozen BK142.out 1
                  go_wp2_with (first | (go_at_call 17; (with_reducible refine (spec_IsToken.calls k1 ((rd_T36 l0 x9_1).f0) false _ A10.out).mono ?_); rintro e w' ⟨rfl, ⟨nd, rfl⟩⟩))
                  go_meet
                  case rel => exact ⟨_, (true), (by first | rfl | (simp; done) | (simp [*]; done)), H', ⟨by have := HK1.out; first | omega | exact Nat.le_refl _⟩, ⟨by (with_reducible repeat (first | refine blk_drewN ?_ _ | refine blk_drew ?_ | refine blk_alloc ?_ _)); refine blk_put (cs := #[.string ((rd_T36 l0 x9_1).f0), .string (⟨#[]⟩ : ByteArray)]) ?_ 1 _ rfl; (with_reducible repeat (first | refine blk_drewN ?_ _ | refine blk_drew ?_ | refine blk_alloc ?_ _)); refine blk_put (cs := #[.string (⟨#[]⟩ : ByteArray), .string (⟨#[]⟩ : ByteArray)]) ?_ 0 _ rfl; (with_reducible repeat (first | refine blk_drewN ?_ _ | refine blk_drew ?_ | refine blk_alloc ?_ _)); exact BK142.out⟩, ⟨by repeat (first | (with_reducible first | exact HB.out | apply below_alloc | apply pw_below_drewN | apply below_drew1 | refine below_set ?_ GE142.out) | exact HB.out)⟩⟩
            case rest =>
              clear HC5
              try clear c1
              try clear p1
              try clear q1
              try clear hx1
              try clear c2
              try clear c2b0
              try clear p2
              try clear c3
              try clear c3b0
              try clear c4
              try clear c4b0
              try clear p6
              try clear c7
              try clear c8
              try clear c8b0
              try clear c8b1
              try clear c11
              try clear c12
              try clear c12b0
              try clear c12b1
              try clear c14
              try clear c14b0
              try clear p14
              try clear q14
              try clear hx14
              try clear c19
              try clear c19b0
              try clear c19b1
              try clear hcz15_0
              try clear hcz15_1
              try clear hcz20_0
              try clear hcz20_1
              try clear hcz24_0
              try clear hcz24_1
              try clear hcz25_0
              try clear hcz25_1
              try clear hcz29_0
              try clear hcz29_1
              try clear hcz30_0
              try clear hcz30_1
              try clear hcz7_0
              try clear hcz7_1
              try clear hcz9_0
              try clear hcz9_1
              try clear hfz15_0
              try clear hfz15_1
              try clear hfz20_0
              try clear hfz20_1
              try clear hfz24_0
              try clear hfz24_1
              try clear hfz25_0
              try clear hfz25_1
              try clear hfz29_0
              try clear hfz29_1
              try clear hfz30_0
              try clear hfz30_1
              try clear hfz7_0
              try clear hfz7_1
              try clear hfz9_0
              try clear hfz9_1
              try clear hx141_0
              try clear hx141_1
              try clear p141
              try clear q141
              obtain ⟨kq, x46_4, rfl, HA, HJ4, BK142, HB⟩ := hcut
              cases kq with
              | zero => exact absurd HA.out (by simp [laws_entitiesOk.j1])
              | succ kj4 =>
                have H := HA.out
                clear HA
                simp only [laws_entitiesOk.j1] at H
                by_cases c31 : x46_4 = true
                · subst c31
                  have H1 : (some false) = some r := by rw [if_pos rfl] at H; exact H
                  clear H
                  have H := H1
                  clear H1
                  obtain rfl := Option.some.inj H
                  go_wp2
                  go_ret
                  exact ⟨by first | rfl | (simp [errW_none, errW_some] <;> rfl) | (simp [*, errW_none, errW_some] <;> rfl), by repeat (first | (with_reducible first | exact HB.out | apply below_alloc | apply pw_below_drewN | apply below_drew1 | refine below_set ?_ GE142.out) | exact HB.out)⟩
                · replace c31 := Bool.eq_false_iff.mpr c31
                  subst c31
                  have H1 : (if (((rd_T36 l0 x9_1).f1).size : Int) ≤ 140737488355328 then ((spec_BytePlace.f kj4 (Go.Proofs.YtkgaladmiiglaaaDoor.Own.numsOf ((rd_T36 l0 x9_1).f1)) 38).bind fun t151 => (if t151 ≥ 0 then (laws_entitiesOk.j2 kj4 l0 x9_1 l0 (l0.length : Int) x9_1 true ((rd_T36 l0 x9_1).f0) ((rd_T36 l0 x9_1).f1)) else ((spec_BytePlace.f kj4 (Go.Proofs.YtkgaladmiiglaaaDoor.Own.numsOf ((rd_T36 l0 x9_1).f1)) 59).bind fun t155 => (laws_entitiesOk.j2 kj4 l0 x9_1 l0 (l0.length : Int) x9_1 (decide (t155 ≥ 0)) ((rd_T36 l0 x9_1).f0) ((rd_T36 l0 x9_1).f1))))) else (none)) = some r := by rw [if_neg (show ¬ (false = true) by decide)] at H; exact H
                  clear H
                  have H := H1
                  clear H1
                  have HC32 := Aside0.mk H
                  clear H
                  go_upto_region 6 with (fail)
                  go_cut [58] (fun v58 wc => ∃ (kq : Nat) (x58_31 : Bool), v58 = .bool x58_31 ∧ Aside0 (laws_entitiesOk.j2 kq l0 x9_1 l0 (l0.length : Int) x9_1 x58_31 ((rd_T36 l0 x9_1).f0) ((rd_T36 l0 x9_1).f1) = some r) ∧ Aside0 (kq ≤ kj4) ∧ Aside0 (wc.heap[gb142]? = some (.cells #[.string ((rd_T36 l0 x9_1).f0), .string ((rd_T36 l0 x9_1).f1)] 36 (0, 0))) ∧ Aside0 (Below w.heap.size w wc))
                  case first =>
                    have H := HC32.out
                    clear HC32
                    by_cases c33 : (((rd_T36 l0 x9_1).f1).size : Int) ≤ 140737488355328
                    · rw [if_pos c33] at H
                      have c33b0 : decide ((((rd_T36 l0 x9_1).f1).size : Int) ≤ 140737488355328) = true := decide_eq_true c33
                      have c33b1 : decide (((rd_T36 l0 x9_1).f1).size ≤ 140737488355328) = true := decide_eq_true (by omega)
                      clear c33
                      (first | rw [c33b0] | (simp only [i64_w, i32_w]; rw [c33b0]) | skip)
                      obtain ⟨y148, hy148⟩ : ∃ y_ : List Int, y_ = (Go.Proofs.YtkgaladmiiglaaaDoor.Own.numsOf ((rd_T36 l0 x9_1).f1)) := ⟨_, rfl⟩
                      replace H : ((spec_BytePlace.f kj4 y148 38).bind fun t151 => (if t151 ≥ 0 then (laws_entitiesOk.j2 kj4 l0 x9_1 l0 (l0.length : Int) x9_1 true ((rd_T36 l0 x9_1).f0) ((rd_T36 l0 x9_1).f1)) else ((spec_BytePlace.f kj4 (Go.Proofs.YtkgaladmiiglaaaDoor.Own.numsOf ((rd_T36 l0 x9_1).f1)) 59).bind fun t155 => (laws_entitiesOk.j2 kj4 l0 x9_1 l0 (l0.length : Int) x9_1 (decide (t155 ≥ 0)) ((rd_T36 l0 x9_1).f0) ((rd_T36 l0 x9_1).f1))))) = some r := by first | (rw [hy148]; with_reducible exact H) | (have H2_ := (Option.bind_some _ _).symm.trans H; rw [hy148]; with_reducible exact H2_) | (have H2_ := (Option.bind_some _ _).symm.trans H; with_reducible exact H2_) | with_reducible exact H | (rw [hy148]; exact H) | exact H
                      have Ny148 := Aside0.mk hy148
                      clear hy148
                      replace H := Option.bind_eq_some_iff.mp H
                      obtain ⟨t151, A340, H⟩ := H
                      replace H : (if t151 ≥ 0 then (laws_entitiesOk.j2 kj4 l0 x9_1 l0 (l0.length : Int) x9_1 true ((rd_T36 l0 x9_1).f0) ((rd_T36 l0 x9_1).f1)) else ((spec_BytePlace.f kj4 (Go.Proofs.YtkgaladmiiglaaaDoor.Own.numsOf ((rd_T36 l0 x9_1).f1)) 59).bind fun t155 => (laws_entitiesOk.j2 kj4 l0 x9_1 l0 (l0.length : Int) x9_1 (decide (t155 ≥ 0)) ((rd_T36 l0 x9_1).f0) ((rd_T36 l0 x9_1).f1)))) = some r := H
                      have A34 := Aside0.mk A340
                      clear A340
                      by_cases c35 : t151 ≥ 0
                      · rw [if_pos c35] at H
                        have c35b0 : decide (0 ≤ t151) = true := decide_eq_true c35
                        clear c35
                        have H' := Aside0.mk H
                        clear H
                        have hcz36_0 : wc.cell? ⟨gb142, 0, none⟩ = some (.string ((rd_T36 l0 x9_1).f0)) := (blk_cell BK142.out 0).trans rfl
                        have hcz36_1 : wc.cell? ⟨gb142, 1, none⟩ = some (.string ((rd_T36 l0 x9_1).f1)) := (blk_cell BK142.out 1).trans rfl
                        have hfz36_0 := blk_frozen BK142.out 0
                        have hfz36_1 := blk_frozen BK142.out 1
                        go_wp2_with (first | ((with_reducible refine gate_dst (N := 49) rfl ?_); (try (refine gate_guard (by rfl) ?_; dsimp only)); refine Go.Proofs.YtkgaladmiiglaaaDoor.Own.V_bytes _ 5 rfl (N' := 49) rfl 9 22 _ rfl Tryd.underlying9 Tryd.underlying22 Tryd.underlying5 ((rd_T36 l0 x9_1).f1) rfl (of_decide_eq_true (by first | (with_reducible assumption) | assumption)) (Below.refl _ _) (Nat.le_refl _) ?_; intro v149 w37 ho38 hb hg_ hnew_; clear hg_ hnew_; (first | rw [← Ny148.out] at ho38 | (simp only [Int.reduceToNat] at ho38; rw [← Ny148.out] at ho38)); have n0_ := Aside0.mk (Kd.V_lower (Kd.V_mono (ok' := fun k_ => k_ ≠ gb142) ho38 (fun k_ hk_ => (Kd.freshB (g := gb142) (o := .cells #[.string ((rd_T36 l0 x9_1).f0), .string ((rd_T36 l0 x9_1).f1)] 36 (0, 0)) (by (with_reducible repeat (first | refine blk_drewN ?_ _ | refine blk_drew ?_ | refine blk_alloc ?_ _)); exact BK142.out) k_ hk_))) (below_size (by repeat (first | (with_reducible first | exact HB.out | apply below_alloc | apply pw_below_drewN | apply below_drew1 | refine below_set ?_ GE142.out) | exact HB.out)))); have n1_ := Aside0.mk (blk_below (g := gb142) (o := .cells #[.string ((rd_T36 l0 x9_1).f0), .string ((rd_T36 l0 x9_1).f1)] 36 (0, 0)) (by (with_reducible repeat (first | refine blk_drewN ?_ _ | refine blk_drew ?_ | refine blk_alloc ?_ _)); exact BK142.out) hb); have n2_ := Aside0.mk (below_step (by repeat (first | (with_reducible first | exact HB.out | apply below_alloc | apply pw_below_drewN | apply below_drew1 | refine below_set ?_ GE142.out) | exact HB.out)) hb); clear BK142; clear HB; have HO150 := n0_; have BK142 := n1_; have HB := n2_; clear n0_ n1_ n2_; clear hb ho38; obtain ⟨Ao39, co39, eo39⟩ := Kd.V_slice HO150.out; subst eo39) | ((with_reducible refine gate_callee (f := 8) rfl ?_); refine goesL_ (some 50) rfl rfl Tryd.func8 (by kernel_rfl) rfl #[.slice Ao39 y148.length co39, .int .u8 38] rfl (by (try simp only [List.map_toArray, List.map_cons, List.map_nil]); first | done | rfl | (simp only [List.length_drop, List.length_take]; rfl)) ?_; (with_reducible refine (spec_BytePlace.calls kj4 _ _ y148 38 t151 _ ?side1 ?side2 A34.out).mono ?_); (case side1 => repeat (first | exact (Kd.V_reads' HO150.out).2.2 | (with_reducible refine Kd.C_alloc ?_ _) | (with_reducible refine Kd.C_drewN ?_ _) | (with_reducible refine Kd.C_drew ?_))); (case side2 => exact (Kd.V_reads' HO150.out).2.1); rintro e w' ⟨rfl, ⟨nd, rfl⟩⟩; refine ⟨_, rfl, ?_⟩))
                        go_meet
                        case rel => exact ⟨_, (true), (by first | rfl | (simp; done) | (simp [*]; done)), H', ⟨by have := HK1.out; have := HJ4.out; first | omega | exact Nat.le_refl _⟩, ⟨by (with_reducible repeat (first | refine blk_drewN ?_ _ | refine blk_drew ?_ | refine blk_alloc ?_ _)); exact BK142.out⟩, ⟨by repeat (first | (with_reducible first | exact HB.out | apply below_alloc | apply pw_below_drewN | apply below_drew1 | refine below_set ?_ GE142.out) | exact HB.out)⟩⟩
                      · rw [if_neg c35] at H
                        have c35b0 : decide (0 ≤ t151) = false := decide_eq_false c35
                        clear c35
                        obtain ⟨y152, hy152⟩ : ∃ y_ : List Int, y_ = (Go.Proofs.YtkgaladmiiglaaaDoor.Own.numsOf ((rd_T36 l0 x9_1).f1)) := ⟨_, rfl⟩
                        replace H : ((spec_BytePlace.f kj4 y152 59).bind fun t155 => (laws_entitiesOk.j2 kj4 l0 x9_1 l0 (l0.length : Int) x9_1 (decide (t155 ≥ 0)) ((rd_T36 l0 x9_1).f0) ((rd_T36 l0 x9_1).f1))) = some r := by first | (rw [hy152]; with_reducible exact H) | (have H2_ := (Option.bind_some _ _).symm.trans H; rw [hy152]; with_reducible exact H2_) | (have H2_ := (Option.bind_some _ _).symm.trans H; with_reducible exact H2_) | with_reducible exact H | (rw [hy152]; exact H) | exact H
                        have Ny152 := Aside0.mk hy152
                        clear hy152
                        replace H := Option.bind_eq_some_iff.mp H
                        obtain ⟨t155, A400, H⟩ := H
                        replace H : (laws_entitiesOk.j2 kj4 l0 x9_1 l0 (l0.length : Int) x9_1 (decide (t155 ≥ 0)) ((rd_T36 l0 x9_1).f0) ((rd_T36 l0 x9_1).f1)) = some r := H
                        have A40 := Aside0.mk A400
                        clear A400
                        have H' := Aside0.mk H
                        clear H
                        have hcz41_0 : wc.cell? ⟨gb142, 0, none⟩ = some (.string ((rd_T36 l0 x9_1).f0)) := (blk_cell BK142.out 0).trans rfl
                        have hcz41_1 : wc.cell? ⟨gb142, 1, none⟩ = some (.string ((rd_T36 l0 x9_1).f1)) := (blk_cell BK142.out 1).trans rfl
                        have hfz41_0 := blk_frozen BK142.out 0
                        have hfz41_1 := blk_frozen BK142.out 1
                        go_wp2_with (first | ((with_reducible refine gate_dst (N := 49) rfl ?_); (try (refine gate_guard (by rfl) ?_; dsimp only)); refine Go.Proofs.YtkgaladmiiglaaaDoor.Own.V_bytes _ 5 rfl (N' := 49) rfl 9 22 _ rfl Tryd.underlying9 Tryd.underlying22 Tryd.underlying5 ((rd_T36 l0 x9_1).f1) rfl (of_decide_eq_true (by first | (with_reducible assumption) | assumption)) (Below.refl _ _) (Nat.le_refl _) ?_; intro v149 w42 ho43 hb hg_ hnew_; clear hg_ hnew_; (first | rw [← Ny148.out] at ho43 | (simp only [Int.reduceToNat] at ho43; rw [← Ny148.out] at ho43)); have n0_ := Aside0.mk (Kd.V_lower (Kd.V_mono (ok' := fun k_ => k_ ≠ gb142) ho43 (fun k_ hk_ => (Kd.freshB (g := gb142) (o := .cells #[.string ((rd_T36 l0 x9_1).f0), .string ((rd_T36 l0 x9_1).f1)] 36 (0, 0)) (by (with_reducible repeat (first | refine blk_drewN ?_ _ | refine blk_drew ?_ | refine blk_alloc ?_ _)); exact BK142.out) k_ hk_))) (below_size (by repeat (first | (with_reducible first | exact HB.out | apply below_alloc | apply pw_below_drewN | apply below_drew1 | refine below_set ?_ GE142.out) | exact HB.out)))); have n1_ := Aside0.mk (blk_below (g := gb142) (o := .cells #[.string ((rd_T36 l0 x9_1).f0), .string ((rd_T36 l0 x9_1).f1)] 36 (0, 0)) (by (with_reducible repeat (first | refine blk_drewN ?_ _ | refine blk_drew ?_ | refine blk_alloc ?_ _)); exact BK142.out) hb); have n2_ := Aside0.mk (below_step (by repeat (first | (with_reducible first | exact HB.out | apply below_alloc | apply pw_below_drewN | apply below_drew1 | refine below_set ?_ GE142.out) | exact HB.out)) hb); clear BK142; clear HB; have HO150 := n0_; have BK142 := n1_; have HB := n2_; clear n0_ n1_ n2_; clear hb ho43; obtain ⟨Ao44, co44, eo44⟩ := Kd.V_slice HO150.out; subst eo44) | ((with_reducible refine gate_callee (f := 8) rfl ?_); refine goesL_ (some 50) rfl rfl Tryd.func8 (by kernel_rfl) rfl #[.slice Ao44 y148.length co44, .int .u8 38] rfl (by (try simp only [List.map_toArray, List.map_cons, List.map_nil]); first | done | rfl | (simp only [List.length_drop, List.length_take]; rfl)) ?_; (with_reducible refine (spec_BytePlace.calls kj4 _ _ y148 38 t151 _ ?side1 ?side2 A34.out).mono ?_); (case side1 => repeat (first | exact (Kd.V_reads' HO150.out).2.2 | (with_reducible refine Kd.C_alloc ?_ _) | (with_reducible refine Kd.C_drewN ?_ _) | (with_reducible refine Kd.C_drew ?_))); (case side2 => exact (Kd.V_reads' HO150.out).2.1); rintro e w' ⟨rfl, ⟨nd, rfl⟩⟩; refine ⟨_, rfl, ?_⟩; have hcz45_0 : w42.cell? ⟨gb142, 0, none⟩ = some (.string ((rd_T36 l0 x9_1).f0)) := (blk_cell BK142.out 0).trans rfl; have hcz45_1 : w42.cell? ⟨gb142, 1, none⟩ = some (.string ((rd_T36 l0 x9_1).f1)) := (blk_cell BK142.out 1).trans rfl; have hfz45_0 := blk_frozen BK142.out 0; have hfz45_1 := blk_frozen BK142.out 1) | ((with_reducible refine gate_dst (N := 55) rfl ?_); (try (refine gate_guard (by rfl) ?_; dsimp only)); refine Go.Proofs.YtkgaladmiiglaaaDoor.Own.V_bytes _ 5 rfl (N' := 55) rfl 9 22 _ rfl Tryd.underlying9 Tryd.underlying22 Tryd.underlying5 ((rd_T36 l0 x9_1).f1) rfl (of_decide_eq_true (by first | (with_reducible assumption) | assumption)) (Below.refl _ _) (Nat.le_refl _) ?_; intro v153 w46 ho47 hb hg_ hnew_; clear hg_ hnew_; (first | rw [← Ny152.out] at ho47 | (simp only [Int.reduceToNat] at ho47; rw [← Ny152.out] at ho47)); have n0_ := Aside0.mk (Kd.V_below (by (with_reducible repeat (first | apply Kd.V_alloc | apply Kd.V_drewN | apply Kd.V_drew)); exact HO150.out) hb); have n1_ := Aside0.mk (Kd.V_lower (Kd.V_mono (ok' := fun k_ => k_ ≠ gb142) ho47 (fun k_ hk_ => (Kd.freshB (g := gb142) (o := .cells #[.string ((rd_T36 l0 x9_1).f0), .string ((rd_T36 l0 x9_1).f1)] 36 (0, 0)) (by (with_reducible repeat (first | refine blk_drewN ?_ _ | refine blk_drew ?_ | refine blk_alloc ?_ _)); exact BK142.out) k_ hk_))) (below_size (by repeat (first | (with_reducible first | exact HB.out | apply below_alloc | apply pw_below_drewN | apply below_drew1 | refine below_set ?_ GE142.out) | exact HB.out)))); have n2_ := Aside0.mk (blk_below (g := gb142) (o := .cells #[.string ((rd_T36 l0 x9_1).f0), .string ((rd_T36 l0 x9_1).f1)] 36 (0, 0)) (by (with_reducible repeat (first | refine blk_drewN ?_ _ | refine blk_drew ?_ | refine blk_alloc ?_ _)); exact BK142.out) hb); have n3_ := Aside0.mk (below_step (by repeat (first | (with_reducible first | exact HB.out | apply below_alloc | apply pw_below_drewN | apply below_drew1 | refine below_set ?_ GE142.out) | exact HB.out)) hb); clear HO150; clear BK142; clear HB; have HO150 := n0_; have HO154 := n1_; have BK142 := n2_; have HB := n3_; clear n0_ n1_ n2_ n3_; clear hb ho47; obtain ⟨Ao48, co48, eo48⟩ := Kd.V_slice HO154.out; subst eo48) | (go_at_call 8; (with_reducible refine (spec_BytePlace.calls kj4 _ _ y152 59 t155 _ ?side1 ?side2 A40.out).mono ?_); (case side1 => repeat (first | exact (Kd.V_reads' HO154.out).2.2 | (with_reducible refine Kd.C_alloc ?_ _) | (with_reducible refine Kd.C_drewN ?_ _) | (with_reducible refine Kd.C_drew ?_))); (case side2 => exact (Kd.V_reads' HO154.out).2.1); rintro e w' ⟨rfl, ⟨nd, rfl⟩⟩))
                        go_meet
                        case rel => exact ⟨_, (decide (t155 ≥ 0)), (by first | rfl | (simp; done) | (simp [*]; done)), H', ⟨by have := HK1.out; have := HJ4.out; first | omega | exact Nat.le_refl _⟩, ⟨by (with_reducible repeat (first | refine blk_drewN ?_ _ | refine blk_drew ?_ | refine blk_alloc ?_ _)); exact BK142.out⟩, ⟨by repeat (first | (with_reducible first | exact HB.out | apply below_alloc | apply pw_below_drewN | apply below_drew1 | refine below_set ?_ GE142.out) | exact HB.out)⟩⟩
                    · rw [if_neg c33] at H
                      exact absurd H (by simp)
                  case rest =>
                    clear HC32
                    try clear c1
                    try clear p1
                    try clear q1
                    try clear hx1
                    try clear c2
                    try clear c2b0
                    try clear p2
                    try clear c3
                    try clear c3b0
                    try clear c4
                    try clear c4b0
                    try clear p6
                    try clear c7
                    try clear c8
                    try clear c8b0
                    try clear c8b1
                    try clear c11
                    try clear c12
                    try clear c12b0
                    try clear c12b1
                    try clear c14
                    try clear c14b0
                    try clear p14
                    try clear q14
                    try clear hx14
                    try clear c19
                    try clear c19b0
                    try clear c19b1
                    try clear c31
                    try clear c33
                    try clear c33b0
                    try clear c33b1
                    try clear c35
                    try clear c35b0
                    try clear hcz15_0
                    try clear hcz15_1
                    try clear hcz20_0
                    try clear hcz20_1
                    try clear hcz24_0
                    try clear hcz24_1
                    try clear hcz25_0
                    try clear hcz25_1
                    try clear hcz29_0
                    try clear hcz29_1
                    try clear hcz30_0
                    try clear hcz30_1
                    try clear hcz36_0
                    try clear hcz36_1
                    try clear hcz41_0
                    try clear hcz41_1
                    try clear hcz45_0
                    try clear hcz45_1
                    try clear hcz7_0
                    try clear hcz7_1
                    try clear hcz9_0
                    try clear hcz9_1
                    try clear hfz15_0
                    try clear hfz15_1
                    try clear hfz20_0
                    try clear hfz20_1
                    try clear hfz24_0
                    try clear hfz24_1
                    try clear hfz25_0
                    try clear hfz25_1
                    try clear hfz29_0
                    try clear hfz29_1
                    try clear hfz30_0
                    try clear hfz30_1
                    try clear hfz36_0
                    try clear hfz36_1
                    try clear hfz41_0
                    try clear hfz41_1
                    try clear hfz45_0
                    try clear hfz45_1
                    try clear hfz7_0
                    try clear hfz7_1
                    try clear hfz9_0
                    try clear hfz9_1
                    try clear hx141_0
                    try clear hx141_1
                    try clear p1
                    try clear p14
                    try clear p141
                    try clear p2
                    try clear p6
                    try clear q1
                    try clear q14
                    try clear q141
                    obtain ⟨kq, x58_31, rfl, HA, HJ31, BK142, HB⟩ := hcut
                    cases kq with
                    | zero => exact absurd HA.out (by simp [laws_entitiesOk.j2])
                    | succ kj31 =>
                      have H := HA.out
                      clear HA
                      simp only [laws_entitiesOk.j2] at H
                      by_cases c49 : x58_31 = true
                      · subst c49
                        have H1 : (some false) = some r := by rw [if_pos rfl] at H; exact H
                        clear H
                        have H := H1
                        clear H1
                        obtain rfl := Option.some.inj H
                        go_wp2
                        go_ret
                        exact ⟨by first | rfl | (simp [errW_none, errW_some] <;> rfl) | (simp [*, errW_none, errW_some] <;> rfl), by repeat (first | (with_reducible first | exact HB.out | apply below_alloc | apply pw_below_drewN | apply below_drew1 | refine below_set ?_ GE142.out) | exact HB.out)⟩
                      · replace c49 := Bool.eq_false_iff.mpr c49
                        subst c49
                        have H1 : (if 0 ≤ x9_1 then (if x9_1 ≤ (l0.length : Int) then ((some (l0.take (x9_1 : Int).toNat : List (S36))).bind fun y156 => (laws_entitiesOk.l1 kj31 l0 l0 (l0.length : Int) x9_1 y156 (y156.length : Int) 0 ((rd_T36 l0 x9_1).f0) ((rd_T36 l0 x9_1).f1))) else (none)) else (none)) = some r := by rw [if_neg (show ¬ (false = true) by decide)] at H; exact H
                        clear H
                        have H := H1
                        clear H1
                        by_cases c50 : 0 ≤ x9_1
                        · rw [if_pos c50] at H
                          have c50b0 := eq_true c50
                          have c50b1 : decide (0 ≤ x9_1) = true := decide_eq_true c50
                          clear c50
                          by_cases c51 : x9_1 ≤ (l0.length : Int)
                          · rw [if_pos c51] at H
                            have c51b0 := eq_true c51
                            have c51b1 : decide (x9_1 ≤ (l0.length : Int)) = true := decide_eq_true c51
                            clear c51
                            obtain ⟨y156, hy156⟩ : ∃ y_ : List (S36), y_ = (l0.take (x9_1 : Int).toNat) := ⟨_, rfl⟩
                            replace H : (laws_entitiesOk.l1 kj31 l0 l0 (l0.length : Int) x9_1 y156 (y156.length : Int) 0 ((rd_T36 l0 x9_1).f0) ((rd_T36 l0 x9_1).f1)) = some r := by first | (rw [hy156]; with_reducible exact H) | (have H2_ := (Option.bind_some _ _).symm.trans H; rw [hy156]; with_reducible exact H2_) | (have H2_ := (Option.bind_some _ _).symm.trans H; with_reducible exact H2_) | with_reducible exact H | (rw [hy156]; exact H) | exact H
                            have Ny156 := Aside0.mk hy156
                            clear hy156
                            have H' := Aside0.mk H
                            clear H
                            have q52 : (x9_1 : Int) ≤ ((l0.length : Int) : Int) := of_decide_eq_true (by first | (with_reducible assumption) | assumption)
                            obtain ⟨i052, hi052, _, hsz52, _⟩ := info_parts info36
                            have hroom52 : l0.length ≤ c0 := HC0.out
                            have hC52 : Kd.C k36 _ (some ad141) l0.length l0 := HR0.out
                            have hcut52 := cut_to (P := Tryd.prog) 23 36 .i64 Tryd.underlying23 hi052 (some ad141) l0.length c0 x9_1 (of_decide_eq_true (by first | (with_reducible assumption) | assumption)) q52 hroom52
                            have hr52 := Kd.C_take (m := (x9_1 : Int).toNat) hC52 (by omega)
                            have hy52 : y156.length = (x9_1 : Int).toNat := (by rw [Ny156.out, List.length_take]; omega)
                            rw [← Ny156.out] at hr52
                            rw [← hy52] at hcut52
                            have HR159 := Aside0.mk hr52
                            have HC159 := Aside0.mk (show y156.length ≤ c0 from by omega)
                            clear hr52 hC52 hroom52 hi052 hsz52
                            have KY52 := Aside0.mk hy52
                            clear hy52
                            replace q52 := eq_true q52
                            go_wp2
                            go_loopg [63] kj31 (fun kq v63 w' => ∃ (x63_4 : Int), v63 = .int .i64 x63_4 ∧ Aside0 (laws_entitiesOk.l1 kq l0 l0 (l0.length : Int) x9_1 y156 (y156.length : Int) x63_4 ((rd_T36 l0 x9_1).f0) ((rd_T36 l0 x9_1).f1) = some r) ∧ Aside0 (kq ≤ kj31) ∧ Aside0 (w'.heap[gb142]? = some (.cells #[.string ((rd_T36 l0 x9_1).f0), .string ((rd_T36 l0 x9_1).f1)] 36 (0, 0))) ∧ Aside0 (Below w.heap.size w w'))
                            case atStart => exact ⟨(0), (by first | rfl | (simp; done) | (simp [*]; done)), H', ⟨Nat.le_refl _⟩, ⟨by (with_reducible repeat (first | refine blk_drewN ?_ _ | refine blk_drew ?_ | refine blk_alloc ?_ _)); exact BK142.out⟩, ⟨by repeat (first | (with_reducible first | exact HB.out | apply below_alloc | apply pw_below_drewN | apply below_drew1 | refine below_set ?_ GE142.out) | exact HB.out)⟩⟩
                            case round =>
                              clear H'
                              try clear c1
                              try clear p1
                              try clear q1
                              try clear hx1
                              try clear c2
                              try clear c2b0
                              try clear p2
                              try clear c3
                              try clear c3b0
                              try clear c4
                              try clear c4b0
                              try clear c5
                              try clear q5
                              try clear p6
                              try clear c7
                              try clear c8
                              try clear c8b0
                              try clear c8b1
                              try clear c11
                              try clear c12
                              try clear c12b0
                              try clear c12b1
                              try clear c14
                              try clear c14b0
                              try clear p14
                              try clear q14
                              try clear hx14
                              try clear c19
                              try clear c19b0
                              try clear c19b1
                              try clear c31
                              try clear c33
                              try clear c33b0
                              try clear c33b1
                              try clear c35
                              try clear c35b0
                              try clear c49
                              try clear c50
                              try clear c50b0
                              try clear c50b1
                              try clear c51
                              try clear c51b0
                              try clear c51b1
                              try clear q52
                              try clear hcz15_0
                              try clear hcz15_1
                              try clear hcz20_0
                              try clear hcz20_1
                              try clear hcz24_0
                              try clear hcz24_1
                              try clear hcz25_0
                              try clear hcz25_1
                              try clear hcz29_0
                              try clear hcz29_1
                              try clear hcz30_0
                              try clear hcz30_1
                              try clear hcz36_0
                              try clear hcz36_1
                              try clear hcz41_0
                              try clear hcz41_1
                              try clear hcz45_0
                              try clear hcz45_1
                              try clear hcz7_0
                              try clear hcz7_1
                              try clear hcz9_0
                              try clear hcz9_1
                              try clear hfz15_0
                              try clear hfz15_1
                              try clear hfz20_0
                              try clear hfz20_1
                              try clear hfz24_0
                              try clear hfz24_1
                              try clear hfz25_0
                              try clear hfz25_1
                              try clear hfz29_0
                              try clear hfz29_1
                              try clear hfz30_0
                              try clear hfz30_1
                              try clear hfz36_0
                              try clear hfz36_1
                              try clear hfz41_0
                              try clear hfz41_1
                              try clear hfz45_0
                              try clear hfz45_1
                              try clear hfz7_0
                              try clear hfz7_1
                              try clear hfz9_0
                              try clear hfz9_1
                              try clear hx141_0
                              try clear hx141_1
                              try clear p1
                              try clear p14
                              try clear p141
                              try clear p2
                              try clear p6
                              try clear q1
                              try clear q14
                              try clear q141
                              try clear q52
                              obtain ⟨x63_4, rfl, HA, HK4, BK142, HB⟩ := hrel
                              cases gk with
                              | zero => exact absurd HA.out (by simp [laws_entitiesOk.l1])
                              | succ k4 =>
                                have H := HA.out
                                clear HA
                                simp only [laws_entitiesOk.l1] at H
                                by_cases c53 : x63_4 < (y156.length : Int)
                                · rw [if_pos c53] at H
                                  have c53b0 : decide (x63_4 < (y156.length : Int)) = true := decide_eq_true c53
                                  clear c53
                                  by_cases c54 : 0 ≤ x63_4
                                  · rw [if_pos c54] at H
                                    have c54b0 : decide (0 ≤ x63_4) = true := decide_eq_true c54
                                    clear c54
                                    by_cases c55 : x63_4 < (y156.length : Int)
                                    · rw [if_pos c55] at H
                                      have c55b0 : decide (x63_4 < (y156.length : Int)) = true := decide_eq_true c55
                                      clear c55
                                      by_cases c56 : ((rd_T36 y156 x63_4).f0).toList = ((rd_T36 l0 x9_1).f0).toList
                                      · rw [if_pos c56] at H
                                        have c56b0 : (((rd_T36 y156 x63_4).f0).toList == ((rd_T36 l0 x9_1).f0).toList) = true := beq_iff_eq.mpr c56
                                        have c56b1 : (((rd_T36 y156 x63_4).f0).toList != ((rd_T36 l0 x9_1).f0).toList) = false := bne_eq_false_iff_eq.mpr c56
                                        clear c56
                                        obtain rfl := Option.some.inj H
                                        have p160 : 0 ≤ (x63_4 : Int) := of_decide_eq_true (by first | (with_reducible assumption) | assumption)
                                        have q160 : x63_4 < (y156.length : Int) := of_decide_eq_true (by first | (with_reducible assumption) | assumption)
                                        obtain ⟨ad160, e160, hx160_0, hx160_1⟩ := at_T36 HR159.out x63_4 p160 q160
                                        obtain rfl : ad141 = ad160 := (by injection e160)
                                        replace hx160_0 := (HB.out.cell (World.block_lt_of_cell? w _ hx160_0)).trans hx160_0
                                        replace hx160_1 := (HB.out.cell (World.block_lt_of_cell? w _ hx160_1)).trans hx160_1
                                        replace p160 := eq_true p160
                                        replace q160 := eq_true q160
                                        go_wp2_with (first | ((with_reducible refine gate_dst (N := 6) rfl ?_); (try (refine gate_guard (by rfl) ?_; dsimp only)); refine box_event ?hg (N := 6) ?hd (cs := #[.string (⟨#[]⟩ : ByteArray), .string (⟨#[]⟩ : ByteArray)]) (t := 36) ?hr ?_; (case hd => rfl); (case hg => rfl); (case hr => first | (go_simp; done) | (go_simp; rfl)); intro gb161 hg w57 hbox hb; have n0_ := Aside0.mk (blk_below (g := gb142) (o := .cells #[.string ((rd_T36 l0 x9_1).f0), .string ((rd_T36 l0 x9_1).f1)] 36 (0, 0)) (by (with_reducible repeat (first | refine blk_drewN ?_ _ | refine blk_drew ?_ | refine blk_alloc ?_ _)); exact BK142.out) hb); have n1_ := Aside0.mk (below_step (by repeat (first | (with_reducible first | exact HB.out | apply below_alloc | apply pw_below_drewN | apply below_drew1 | refine below_set ?_ GE142.out) | exact HB.out)) hb); have n2_ := Aside0.mk (hbox); have n3_ := Aside0.mk ((by rw [hg]; exact (below_size (by repeat (first | (with_reducible first | exact HB.out | apply below_alloc | apply pw_below_drewN | apply below_drew1 | refine below_set ?_ GE142.out) | exact HB.out))) : w.heap.size ≤ gb161)); have n4_ := Aside0.mk ((by rw [hg]; exact (below_size (by repeat (first | (with_reducible first | exact HB.out | apply below_alloc | apply pw_below_drewN | apply below_drew1 | refine below_set ?_ GE142.out) | exact HB.out))) : w.heap.size ≤ gb161)); have n5_ := Aside0.mk ((by rw [hg]; exact Nat.ne_of_lt (blk_lt (g := gb142) (o := .cells #[.string ((rd_T36 l0 x9_1).f0), .string ((rd_T36 l0 x9_1).f1)] 36 (0, 0)) (by (with_reducible repeat (first | refine blk_drewN ?_ _ | refine blk_drew ?_ | refine blk_alloc ?_ _)); exact BK142.out)) : gb142 ≠ gb161)); have n6_ := Aside0.mk ((by rw [hg]; exact Nat.ne_of_gt (blk_lt (g := gb142) (o := .cells #[.string ((rd_T36 l0 x9_1).f0), .string ((rd_T36 l0 x9_1).f1)] 36 (0, 0)) (by (with_reducible repeat (first | refine blk_drewN ?_ _ | refine blk_drew ?_ | refine blk_alloc ?_ _)); exact BK142.out)) : gb161 ≠ gb142)); clear BK142; clear HB; have BK142 := n0_; have HB := n1_; have BK161 := n2_; have GW161 := n3_; have GE161 := n4_; have NB142_161 := n5_; have NB161_142 := n6_; clear n0_ n1_ n2_ n3_ n4_ n5_ n6_; clear hb hbox hg; have hnb58 := NB161_142.out; have hnc58 := NB142_161.out; have hcz59_0 : w57.cell? ⟨gb161, 0, none⟩ = some (.string (⟨#[]⟩ : ByteArray)) := (blk_cell BK161.out 0).trans rfl; have hcz59_1 : w57.cell? ⟨gb161, 1, none⟩ = some (.string (⟨#[]⟩ : ByteArray)) := (blk_cell BK161.out 1).trans rfl; have hfz59_0 := blk_frozen BK161.out 0; have hfz59_1 := blk_frozen BK161.out 1; have hcz60_0 : w57.cell? ⟨gb142, 0, none⟩ = some (.string ((rd_T36 l0 x9_1).f0)) := (blk_cell BK142.out 0).trans rfl; have hcz60_1 : w57.cell? ⟨gb142, 1, none⟩ = some (.string ((rd_T36 l0 x9_1).f1)) := (blk_cell BK142.out 1).trans rfl; have hfz60_0 := blk_frozen BK142.out 0; have hfz60_1 := blk_frozen BK142.out 1))
                                        go_ret
                                        exact ⟨by first | rfl | (simp [errW_none, errW_some] <;> rfl) | (simp [*, errW_none, errW_some] <;> rfl), by repeat (first | (with_reducible first | exact HB.out | apply below_alloc | apply pw_below_drewN | apply below_drew1 | refine below_set ?_ GE142.out | refine below_set ?_ GE161.out) | exact HB.out)⟩
                                      · rw [if_neg c56] at H
                                        have c56b0 : (((rd_T36 y156 x63_4).f0).toList == ((rd_T36 l0 x9_1).f0).toList) = false := beq_eq_false_iff_ne.mpr c56
                                        have c56b1 : (((rd_T36 y156 x63_4).f0).toList != ((rd_T36 l0 x9_1).f0).toList) = true := bne_iff_ne.mpr c56
                                        have H' := Aside0.mk H
                                        clear H
                                        have p160 : 0 ≤ (x63_4 : Int) := of_decide_eq_true (by first | (with_reducible assumption) | assumption)
                                        have q160 : x63_4 < (y156.length : Int) := of_decide_eq_true (by first | (with_reducible assumption) | assumption)
                                        obtain ⟨ad160, e160, hx160_0, hx160_1⟩ := at_T36 HR159.out x63_4 p160 q160
                                        obtain rfl : ad141 = ad160 := (by injection e160)
                                        replace hx160_0 := (HB.out.cell (World.block_lt_of_cell? w _ hx160_0)).trans hx160_0
                                        replace hx160_1 := (HB.out.cell (World.block_lt_of_cell? w _ hx160_1)).trans hx160_1
                                        replace p160 := eq_true p160
                                        replace q160 := eq_true q160
                                        go_wp2_with (first | ((with_reducible refine gate_dst (N := 6) rfl ?_); (try (refine gate_guard (by rfl) ?_; dsimp only)); refine box_event ?hg (N := 6) ?hd (cs := #[.string (⟨#[]⟩ : ByteArray), .string (⟨#[]⟩ : ByteArray)]) (t := 36) ?hr ?_; (case hd => rfl); (case hg => rfl); (case hr => first | (go_simp; done) | (go_simp; rfl)); intro gb161 hg w61 hbox hb; have n0_ := Aside0.mk (blk_below (g := gb142) (o := .cells #[.string ((rd_T36 l0 x9_1).f0), .string ((rd_T36 l0 x9_1).f1)] 36 (0, 0)) (by (with_reducible repeat (first | refine blk_drewN ?_ _ | refine blk_drew ?_ | refine blk_alloc ?_ _)); exact BK142.out) hb); have n1_ := Aside0.mk (below_step (by repeat (first | (with_reducible first | exact HB.out | apply below_alloc | apply pw_below_drewN | apply below_drew1 | refine below_set ?_ GE142.out) | exact HB.out)) hb); have n2_ := Aside0.mk (hbox); have n3_ := Aside0.mk ((by rw [hg]; exact (below_size (by repeat (first | (with_reducible first | exact HB.out | apply below_alloc | apply pw_below_drewN | apply below_drew1 | refine below_set ?_ GE142.out) | exact HB.out))) : w.heap.size ≤ gb161)); have n4_ := Aside0.mk ((by rw [hg]; exact (below_size (by repeat (first | (with_reducible first | exact HB.out | apply below_alloc | apply pw_below_drewN | apply below_drew1 | refine below_set ?_ GE142.out) | exact HB.out))) : w.heap.size ≤ gb161)); have n5_ := Aside0.mk ((by rw [hg]; exact Nat.ne_of_lt (blk_lt (g := gb142) (o := .cells #[.string ((rd_T36 l0 x9_1).f0), .string ((rd_T36 l0 x9_1).f1)] 36 (0, 0)) (by (with_reducible repeat (first | refine blk_drewN ?_ _ | refine blk_drew ?_ | refine blk_alloc ?_ _)); exact BK142.out)) : gb142 ≠ gb161)); have n6_ := Aside0.mk ((by rw [hg]; exact Nat.ne_of_gt (blk_lt (g := gb142) (o := .cells #[.string ((rd_T36 l0 x9_1).f0), .string ((rd_T36 l0 x9_1).f1)] 36 (0, 0)) (by (with_reducible repeat (first | refine blk_drewN ?_ _ | refine blk_drew ?_ | refine blk_alloc ?_ _)); exact BK142.out)) : gb161 ≠ gb142)); clear BK142; clear HB; have BK142 := n0_; have HB := n1_; have BK161 := n2_; have GW161 := n3_; have GE161 := n4_; have NB142_161 := n5_; have NB161_142 := n6_; clear n0_ n1_ n2_ n3_ n4_ n5_ n6_; clear hb hbox hg; have hnb62 := NB161_142.out; have hnc62 := NB142_161.out; have hcz63_0 : w61.cell? ⟨gb161, 0, none⟩ = some (.string (⟨#[]⟩ : ByteArray)) := (blk_cell BK161.out 0).trans rfl; have hcz63_1 : w61.cell? ⟨gb161, 1, none⟩ = some (.string (⟨#[]⟩ : ByteArray)) := (blk_cell BK161.out 1).trans rfl; have hfz63_0 := blk_frozen BK161.out 0; have hfz63_1 := blk_frozen BK161.out 1; have hcz64_0 : w61.cell? ⟨gb142, 0, none⟩ = some (.string ((rd_T36 l0 x9_1).f0)) := (blk_cell BK142.out 0).trans rfl; have hcz64_1 : w61.cell? ⟨gb142, 1, none⟩ = some (.string ((rd_T36 l0 x9_1).f1)) := (blk_cell BK142.out 1).trans rfl; have hfz64_0 := blk_frozen BK142.out 0; have hfz64_1 := blk_frozen BK142.out 1))
                                        go_roundg k4
                                        case measure => have := HK1.out; have := HJ4.out; have := HJ31.out; have := HK4.out; omega
                                        case rel => exact ⟨(wrap64 (x63_4 + 1)), (by first | rfl | (simp; done) | (simp [*]; done)), H', ⟨by have := HK1.out; have := HJ4.out; have := HJ31.out; have := HK4.out; omega⟩, ⟨by (with_reducible repeat (first | refine blk_drewN ?_ _ | refine blk_drew ?_ | refine blk_alloc ?_ _)); refine blk_far ?_ NB142_161.out _; (with_reducible repeat (first | refine blk_drewN ?_ _ | refine blk_drew ?_ | refine blk_alloc ?_ _)); refine blk_far ?_ NB142_161.out _; (with_reducible repeat (first | refine blk_drewN ?_ _ | refine blk_drew ?_ | refine blk_alloc ?_ _)); exact BK142.out⟩, ⟨by repeat (first | (with_reducible first | exact HB.out | apply below_alloc | apply pw_below_drewN | apply below_drew1 | refine below_set ?_ GE142.out | refine below_set ?_ GE161.out) | exact HB.out)⟩⟩
                                    · rw [if_neg c55] at H
                                      exact absurd H (by simp)
                                  · rw [if_neg c54] at H
                                    exact absurd H (by simp)
                                · rw [if_neg c53] at H
                                  have c53b0 : decide (x63_4 < (y156.length : Int)) = false := decide_eq_false c53
                                  clear c53
                                  have H' := Aside0.mk H
                                  clear H
                                  go_wp2
                                  go_roundg k4
                                  case measure => have := HK1.out; have := HJ4.out; have := HJ31.out; have := HK4.out; omega
                                  case rel => exact ⟨(wrap64 (x9_1 + 1)), (by first | rfl | (simp; done) | (simp [*]; done)), H', ⟨by have := HK1.out; have := HJ4.out; have := HJ31.out; have := HK4.out; omega⟩, ⟨by repeat (first | (with_reducible first | exact HB.out | apply below_alloc | apply pw_below_drewN | apply below_drew1 | refine below_set ?_ GE142.out) | exact HB.out)⟩⟩
                          · rw [if_neg c51] at H
                            exact absurd H (by simp)
                        · rw [if_neg c50] at H
                          exact absurd H (by simp)
          · rw [if_neg c4] at H
            exact absurd H (by simp)
        · rw [if_neg c3] at H
          exact absurd H (by simp)
      · rw [if_neg c2] at H
        have c2b0 : decide (x9_1 < (l0.length : Int)) = false := decide_eq_false c2
        clear c2
        obtain rfl := Option.some.inj H
        go_wp2
        go_ret
        exact ⟨by first | rfl | (simp [errW_none, errW_some] <;> rfl) | (simp [*, errW_none, errW_some] <;> rfl), by repeat (first | (with_reducible first | exact HB.out | apply below_alloc | apply pw_below_drewN | apply below_drew1) | exact HB.out)⟩

/-! ### spec_Join: function 21 -/
def spec_Join.l0 : Nat → List Int → List (List Int) → Int → Int → Option (List Int)
  | 0, _, _, _, _ => none
  | k + 1, x3, x7, x8, x9 => if x9 < x8 then (if 0 ≤ x9 then (if x9 < (x7.length : Int) then (if x3.length + (rd_L3 x7 x9).length < 140737488355328 then (spec_Join.l0 k (x3 ++ (rd_L3 x7 x9)) x7 x8 (wrap64 (x9 + 1))) else (none)) else (none)) else (none)) else (some x3)
def spec_Join.f (k : Nat) (l0 : List (List Int)) : Option (List Int) := spec_Join.l0 k (([] : List Int)) l0 (l0.length : Int) 0
theorem spec_Join.mono_l : ∀ k, (∀ y0 y1 y2 y3, LeO (spec_Join.l0 k y0 y1 y2 y3) (spec_Join.l0 (k + 1) y0 y1 y2 y3))
  | 0 => fun _ _ _ _ r h => by simp [spec_Join.l0] at h
  | k + 1 => by
    have ih0 := spec_Join.mono_l k
    · intro y0 y1 y2 y3
      unfold spec_Join.l0
      repeat' first
      | (with_reducible exact ih0 _ _ _ _)
      | (with_reducible exact LeO.refl _)
      | (with_reducible exact LeO.none _)
      | (with_reducible refine LeO.ite ?_ ?_)
      | (with_reducible refine LeO.bind ?_ (fun _ => ?_))
      | exact ih0 _ _ _ _
      | exact LeO.none _
      | refine LeO.ite ?_ ?_
      | refine LeO.bind ?_ (fun _ => ?_)
theorem spec_Join.mono : ∀ a0 k, LeO (spec_Join.f k a0) (spec_Join.f (k + 1) a0) := by
  intro a0 k
  have ih0 := spec_Join.mono_l k
  unfold spec_Join.f
  repeat' first
      | (with_reducible exact ih0 _ _ _ _)
      | (with_reducible exact LeO.refl _)
      | (with_reducible exact LeO.none _)
      | (with_reducible refine LeO.ite ?_ ?_)
      | (with_reducible refine LeO.bind ?_ (fun _ => ?_))
      | exact ih0 _ _ _ _
      | exact LeO.none _
      | refine LeO.ite ?_ ?_
      | refine LeO.bind ?_ (fun _ => ?_)
set_option maxHeartbeats 8000000 in
set_option maxRecDepth 100000 in
theorem spec_Join.calls (k : Nat) (A0 : Option Addr) (c0 : Nat) (l0 : List (List Int)) (r : List Int) (w : World) (hr0 : Kd.C (Kd.slice 5 (Kd.int .u8)) w A0 l0.length l0) (hc0 : l0.length ≤ c0) (h : spec_Join.f k l0 = some r) :
    Calls Tryd.prog 21 #[.slice A0 l0.length c0] w fun e w' => ∃ v0_ : Value, e = .returned (v0_) ∧ Kd.R (Kd.int .u8) 5 w' w.heap.size (fun _ => True) v0_ r ∧ Below w.heap.size w w' := by
  have HR0 := Aside0.mk hr0
  have HC0 := Aside0.mk hc0
  clear hr0 hc0
  have HB := Aside0.mk (Below.refl w.heap.size w)
  have H : (spec_Join.l0 k (([] : List Int)) l0 (l0.length : Int) 0) = some r := h
  clear h
  obtain ⟨y162, hy162⟩ : ∃ y_ : List Int, y_ = (([] : List Int)) := ⟨_, rfl⟩
  replace H : (spec_Join.l0 k y162 l0 (l0.length : Int) 0) = some r := by first | (rw [hy162]; with_reducible exact H) | (have H2_ := (Option.bind_some _ _).symm.trans H; rw [hy162]; with_reducible exact H2_) | (have H2_ := (Option.bind_some _ _).symm.trans H; with_reducible exact H2_) | with_reducible exact H | (rw [hy162]; exact H) | exact H
  have Ny162 := Aside0.mk hy162
  clear hy162
  have H' := Aside0.mk H
  clear H
  go_enter Tryd.func21, Tryd.ntmps21
  go_wp2_with (first | ((with_reducible refine gate_dst (N := 6) rfl ?_); refine Kd.R_lit (Kd.int .u8) _ 5 ?hg (N := 6) ?hd (xs := ([] : List Int)) (inner := []) (ok := fun _ => True) (okp := fun _ => True) ?hr ?hp (fun _ hk => hk) trivial (Below.refl _ _) (Nat.le_refl _) (by simp) ?_; (case hd => rfl); (case hg => rfl); (case hr => first | (go_simp; done) | (go_simp; rfl)); (case hp => exact (Reps.none _ _)); intro v163 w2 ho3 hb hg_ hnew_; clear hg_ hnew_; (first | rw [← Ny162.out] at ho3 | (simp only [Int.reduceToNat] at ho3; rw [← Ny162.out] at ho3)); have n0_ := Aside0.mk (Kd.R_lower ho3 (below_size (by repeat (first | (with_reducible first | exact HB.out | apply below_alloc | apply pw_below_drewN | apply below_drew1) | exact HB.out)))); have n1_ := Aside0.mk (below_step (by repeat (first | (with_reducible first | exact HB.out | apply below_alloc | apply pw_below_drewN | apply below_drew1) | exact HB.out)) hb); clear HB; have HO164 := n0_; have HB := n1_; clear n0_ n1_; clear hb ho3))
  go_loopg [3, 9] k (fun kq v3 v9 w' => ∃ (x3_1 : List Int) (x9_1 : Int), v9 = .int .i64 x9_1 ∧ Aside0 (spec_Join.l0 kq x3_1 l0 (l0.length : Int) x9_1 = some r) ∧ Aside0 (kq ≤ k) ∧ Aside0 (Kd.R (Kd.int .u8) 5 w' w.heap.size (fun _ => True) v3 x3_1) ∧ Aside0 (Below w.heap.size w w'))
  case atStart => exact ⟨(y162), (0), (by first | rfl | (simp; done) | (simp [*]; done)), H', ⟨Nat.le_refl _⟩, ⟨by (with_reducible repeat (first | apply Kd.R_alloc | apply Kd.R_drewN | apply Kd.R_drew)); exact HO164.out⟩, ⟨by repeat (first | (with_reducible first | exact HB.out | apply below_alloc | apply pw_below_drewN | apply below_drew1) | exact HB.out)⟩⟩
  case round =>
    clear H'
    try clear c2
    try clear p2
    obtain ⟨x3_1, x9_1, rfl, HA, HK1, HO_3, HB⟩ := hrel
    cases gk with
    | zero => exact absurd HA.out (by simp [spec_Join.l0])
    | succ k1 =>
      have H := HA.out
      clear HA
      simp only [spec_Join.l0] at H
      by_cases c4 : x9_1 < (l0.length : Int)
      · rw [if_pos c4] at H
        have c4b0 : decide (x9_1 < (l0.length : Int)) = true := decide_eq_true c4
        clear c4
        by_cases c5 : 0 ≤ x9_1
        · rw [if_pos c5] at H
          have c5b0 : decide (0 ≤ x9_1) = true := decide_eq_true c5
          clear c5
          by_cases c6 : x9_1 < (l0.length : Int)
          · rw [if_pos c6] at H
            have c6b0 : decide (x9_1 < (l0.length : Int)) = true := decide_eq_true c6
            clear c6
            by_cases c7 : x3_1.length + (rd_L3 l0 x9_1).length < 140737488355328
            · rw [if_pos c7] at H
              have LMc7 := Aside0.mk c7
              clear c7
              obtain ⟨y166, hy166⟩ : ∃ y_ : List Int, y_ = (x3_1 ++ (rd_L3 l0 x9_1)) := ⟨_, rfl⟩
              replace H : (spec_Join.l0 k1 y166 l0 (l0.length : Int) (wrap64 (x9_1 + 1))) = some r := by first | (rw [hy166]; with_reducible exact H) | (have H2_ := (Option.bind_some _ _).symm.trans H; rw [hy166]; with_reducible exact H2_) | (have H2_ := (Option.bind_some _ _).symm.trans H; with_reducible exact H2_) | with_reducible exact H | (rw [hy166]; exact H) | exact H
              have Ny166 := Aside0.mk hy166
              clear hy166
              have H' := Aside0.mk H
              clear H
              have p165 : 0 ≤ (x9_1 : Int) := of_decide_eq_true (by first | (with_reducible assumption) | assumption)
              have q165 : x9_1 < (l0.length : Int) := of_decide_eq_true (by first | (with_reducible assumption) | assumption)
              obtain ⟨ad165, A165_0, c165_0, e165, hx165_0, hl165_0, hi165_0⟩ := at_L3 HR0.out x9_1 p165 q165
              cases e165
              replace hx165_0 := (HB.out.cell (World.block_lt_of_cell? w _ hx165_0)).trans hx165_0
              have HR165_0 := Aside0.mk hi165_0
              have HC165_0 := Aside0.mk hl165_0
              clear hi165_0 hl165_0
              replace p165 := eq_true p165
              replace q165 := eq_true q165
              go_wp2_with (first | ((with_reducible refine gate_builtin (b := .append) (xs := #[.tmp 13, .tmp 14]) rfl ?_); at_builtin; refine Kd.R_append_rows (Kd.int .u8) (w0 := w) w.heap.size rfl (.tmp 13) (.tmp 14) 22 5 (.int .u8 0) 1 rfl Tryd.underlying22 info5 rfl (by decide) (by omega) u3 x3_1 (rd_L3 l0 x9_1) _ _ _ (fun _ => True) (fun _ => False) rfl rfl ?aO ?aR (fun _ _ h => h) (fun _ h => h.elim) ?aF ?aB ?aS ?aL ?_; (case aR => repeat (first | exact (Kd.C_below HR165_0.out HB.out) | (with_reducible refine Kd.C_alloc ?_ _) | (with_reducible refine Kd.C_drewN ?_ _) | (with_reducible refine Kd.C_drew ?_))); (case aB => exact (by repeat (first | (with_reducible first | exact HB.out | apply below_alloc | apply pw_below_drewN | apply below_drew1) | exact HB.out))); (case aF => exact (fun _ _ => trivial)); (case aO => exact (by (with_reducible repeat (first | apply Kd.R_alloc | apply Kd.R_drewN | apply Kd.R_drew)); exact HO_3.out)); (case aS => exact (below_size (by repeat (first | (with_reducible first | exact HB.out | apply below_alloc | apply pw_below_drewN | apply below_drew1) | exact HB.out)))); (case aL => have := LMc7.out; omega); intro v167 w8 ho hb hg hat; rw [← Ny166.out] at ho; have n0_ := Aside0.mk (hb); have n1_ := Aside0.mk (ho); clear HB; clear HO_3; have HB := n0_; have HO168 := n1_; clear n0_ n1_; clear ho hb hg hat))
              go_roundg k1
              case measure => have := HK1.out; omega
              case rel => exact ⟨(y166), (wrap64 (x9_1 + 1)), (by first | rfl | (simp; done) | (simp [*]; done)), H', ⟨by have := HK1.out; omega⟩, ⟨by (with_reducible repeat (first | apply Kd.R_alloc | apply Kd.R_drewN | apply Kd.R_drew)); exact HO168.out⟩, ⟨by repeat (first | (with_reducible first | exact HB.out | apply below_alloc | apply pw_below_drewN | apply below_drew1) | exact HB.out)⟩⟩
            · rw [if_neg c7] at H
              exact absurd H (by simp)
          · rw [if_neg c6] at H
            exact absurd H (by simp)
        · rw [if_neg c5] at H
          exact absurd H (by simp)
      · rw [if_neg c4] at H
        have c4b0 : decide (x9_1 < (l0.length : Int)) = false := decide_eq_false c4
        clear c4
        obtain rfl := Option.some.inj H
        go_wp2
        go_ret
        exact ⟨_, by first | rfl | (simp [errW_none, errW_some] <;> rfl) | (simp [*, errW_none, errW_some] <;> rfl), by (with_reducible repeat (first | apply Kd.R_alloc | apply Kd.R_drewN | apply Kd.R_drew)); exact HO_3.out, by repeat (first | (with_reducible first | exact HB.out | apply below_alloc | apply pw_below_drewN | apply below_drew1) | exact HB.out)⟩

/-! ### spec_IsBreak: function 22 -/
def spec_IsBreak.f (a0 : Int) : Option (Bool) := if a0 = 10 then (some true) else (some (a0 == 13))
set_option maxHeartbeats 8000000 in
set_option maxRecDepth 100000 in
theorem spec_IsBreak.calls (a0 : Int) (r : Bool) (w : World) (h : spec_IsBreak.f a0 = some r) :
    Calls Tryd.prog 22 #[.int .u8 a0] w fun e w' => e = .returned (.bool r) ∧ Drawn0 w w' := by
  have H : (if a0 = 10 then (some true) else (some (a0 == 13))) = some r := h
  clear h
  by_cases c2 : a0 = 10
  · rw [if_pos c2] at H
    have c2b0 : (a0 == 10) = true := beq_iff_eq.mpr c2
    have c2b1 : (a0 != 10) = false := bne_eq_false_iff_eq.mpr c2
    clear c2
    obtain rfl := Option.some.inj H
    go_enter Tryd.func22, Tryd.ntmps22
    go_wp2
    go_ret
    exact ⟨by first | rfl | (simp; done) | (simp [*]; done), by repeat (first | exact Drawn0.refl _ | apply Drawn0.step)⟩
  · rw [if_neg c2] at H
    have c2b0 : (a0 == 10) = false := beq_eq_false_iff_ne.mpr c2
    have c2b1 : (a0 != 10) = true := bne_iff_ne.mpr c2
    obtain rfl := Option.some.inj H
    go_enter Tryd.func22, Tryd.ntmps22
    go_wp2
    go_ret
    exact ⟨by first | rfl | (simp; done) | (simp [*]; done), by repeat (first | exact Drawn0.refl _ | apply Drawn0.step)⟩

/-! ### spec_IsBlank: function 13 -/
def spec_IsBlank.f (a0 : Int) : Option (Bool) := if a0 = 32 then (some true) else (if a0 = 9 then (some true) else (if a0 = 12 then (some true) else ((spec_IsBreak.f a0).bind fun t202 => (some t202))))
set_option maxHeartbeats 8000000 in
set_option maxRecDepth 100000 in
theorem spec_IsBlank.calls (a0 : Int) (r : Bool) (w : World) (h : spec_IsBlank.f a0 = some r) :
    Calls Tryd.prog 13 #[.int .u8 a0] w fun e w' => e = .returned (.bool r) ∧ Drawn0 w w' := by
  have H : (if a0 = 32 then (some true) else (if a0 = 9 then (some true) else (if a0 = 12 then (some true) else ((spec_IsBreak.f a0).bind fun t202 => (some t202))))) = some r := h
  clear h
  by_cases c2 : a0 = 32
  · rw [if_pos c2] at H
    have c2b0 : (a0 == 32) = true := beq_iff_eq.mpr c2
    have c2b1 : (a0 != 32) = false := bne_eq_false_iff_eq.mpr c2
    clear c2
    obtain rfl := Option.some.inj H
    go_enter Tryd.func13, Tryd.ntmps13
    go_wp2
    go_ret
    exact ⟨by first | rfl | (simp; done) | (simp [*]; done), by repeat (first | exact Drawn0.refl _ | apply Drawn0.step)⟩
  · rw [if_neg c2] at H
    have c2b0 : (a0 == 32) = false := beq_eq_false_iff_ne.mpr c2
    have c2b1 : (a0 != 32) = true := bne_iff_ne.mpr c2
    by_cases c3 : a0 = 9
    · rw [if_pos c3] at H
      have c3b0 : (a0 == 9) = true := beq_iff_eq.mpr c3
      have c3b1 : (a0 != 9) = false := bne_eq_false_iff_eq.mpr c3
      clear c3
      obtain rfl := Option.some.inj H
      go_enter Tryd.func13, Tryd.ntmps13
      go_wp2
      go_ret
      exact ⟨by first | rfl | (simp; done) | (simp [*]; done), by repeat (first | exact Drawn0.refl _ | apply Drawn0.step)⟩
    · rw [if_neg c3] at H
      have c3b0 : (a0 == 9) = false := beq_eq_false_iff_ne.mpr c3
      have c3b1 : (a0 != 9) = true := bne_iff_ne.mpr c3
      by_cases c4 : a0 = 12
      · rw [if_pos c4] at H
        have c4b0 : (a0 == 12) = true := beq_iff_eq.mpr c4
        have c4b1 : (a0 != 12) = false := bne_eq_false_iff_eq.mpr c4
        clear c4
        obtain rfl := Option.some.inj H
        go_enter Tryd.func13, Tryd.ntmps13
        go_wp2
        go_ret
        exact ⟨by first | rfl | (simp; done) | (simp [*]; done), by repeat (first | exact Drawn0.refl _ | apply Drawn0.step)⟩
      · rw [if_neg c4] at H
        have c4b0 : (a0 == 12) = false := beq_eq_false_iff_ne.mpr c4
        have c4b1 : (a0 != 12) = true := bne_iff_ne.mpr c4
        replace H := Option.bind_eq_some_iff.mp H
        obtain ⟨t202, A50, H⟩ := H
        replace H : (some t202) = some r := H
        have A5 := Aside0.mk A50
        clear A50
        obtain rfl := Option.some.inj H
        go_enter Tryd.func13, Tryd.ntmps13
        go_wp2_with (first | (go_at_call 22; (with_reducible refine (spec_IsBreak.calls a0 t202 _ A5.out).mono ?_); rintro e w' ⟨rfl, ⟨nd, rfl⟩⟩))
        go_ret
        exact ⟨by first | rfl | (simp; done) | (simp [*]; done), by repeat (first | exact Drawn0.refl _ | apply Drawn0.step)⟩

/-! ### spec_SameBytes: function 9 -/
def spec_SameBytes.l0 : Nat → List Int → List Int → Int → Int → Option (Bool)
  | 0, _, _, _, _ => none
  | k + 1, x1, x12, x13, x14 => if x14 < x13 then (if 0 ≤ x14 then (if x14 < (x12.length : Int) then (if x14 < (x1.length : Int) then (if (rd x12 x14) = (rd x1 x14) then (spec_SameBytes.l0 k x1 x12 x13 (wrap64 (x14 + 1))) else (some false)) else (none)) else (none)) else (none)) else (some true)
def spec_SameBytes.f (k : Nat) (l0 : List Int) (l1 : List Int) : Option (Bool) := if (l0.length : Int) = (l1.length : Int) then (spec_SameBytes.l0 k l1 l0 (l0.length : Int) 0) else (some false)
theorem spec_SameBytes.mono_l : ∀ k, (∀ y0 y1 y2 y3, LeO (spec_SameBytes.l0 k y0 y1 y2 y3) (spec_SameBytes.l0 (k + 1) y0 y1 y2 y3))
  | 0 => fun _ _ _ _ r h => by simp [spec_SameBytes.l0] at h
  | k + 1 => by
    have ih0 := spec_SameBytes.mono_l k
    · intro y0 y1 y2 y3
      unfold spec_SameBytes.l0
      repeat' first
      | (with_reducible exact ih0 _ _ _ _)
      | (with_reducible exact LeO.refl _)
      | (with_reducible exact LeO.none _)
      | (with_reducible refine LeO.ite ?_ ?_)
      | (with_reducible refine LeO.bind ?_ (fun _ => ?_))
      | exact ih0 _ _ _ _
      | exact LeO.none _
      | refine LeO.ite ?_ ?_
      | refine LeO.bind ?_ (fun _ => ?_)
theorem spec_SameBytes.mono : ∀ a0 a1 k, LeO (spec_SameBytes.f k a0 a1) (spec_SameBytes.f (k + 1) a0 a1) := by
  intro a0 a1 k
  have ih0 := spec_SameBytes.mono_l k
  unfold spec_SameBytes.f
  repeat' first
      | (with_reducible exact ih0 _ _ _ _)
      | (with_reducible exact LeO.refl _)
      | (with_reducible exact LeO.none _)
      | (with_reducible refine LeO.ite ?_ ?_)
      | (with_reducible refine LeO.bind ?_ (fun _ => ?_))
      | exact ih0 _ _ _ _
      | exact LeO.none _
      | refine LeO.ite ?_ ?_
      | refine LeO.bind ?_ (fun _ => ?_)
set_option maxHeartbeats 8000000 in
set_option maxRecDepth 100000 in
theorem spec_SameBytes.calls (k : Nat) (A0 : Option Addr) (c0 : Nat) (l0 : List Int) (A1 : Option Addr) (c1 : Nat) (l1 : List Int) (r : Bool) (w : World) (hr0 : Kd.C (Kd.int .u8) w A0 l0.length l0) (hc0 : l0.length ≤ c0) (hr1 : Kd.C (Kd.int .u8) w A1 l1.length l1) (hc1 : l1.length ≤ c1) (h : spec_SameBytes.f k l0 l1 = some r) :
    Calls Tryd.prog 9 #[.slice A0 l0.length c0, .slice A1 l1.length c1] w fun e w' => e = .returned (.bool r) ∧ Drawn0 w w' := by
  have HR0 := Aside0.mk hr0
  have HC0 := Aside0.mk hc0
  clear hr0 hc0
  have HR1 := Aside0.mk hr1
  have HC1 := Aside0.mk hc1
  clear hr1 hc1
  have H : (if (l0.length : Int) = (l1.length : Int) then (spec_SameBytes.l0 k l1 l0 (l0.length : Int) 0) else (some false)) = some r := h
  clear h
  by_cases c3 : (l0.length : Int) = (l1.length : Int)
  · rw [if_pos c3] at H
    have c3b0 : ((l0.length : Int) == (l1.length : Int)) = true := beq_iff_eq.mpr c3
    have c3b1 : ((l0.length : Int) != (l1.length : Int)) = false := bne_eq_false_iff_eq.mpr c3
    have c3b2 : (l0.length == l1.length) = true := by first | simpa using c3 | (simp at c3 ⊢; omega)
    clear c3
    have H' := Aside0.mk H
    clear H
    go_enter Tryd.func9, Tryd.ntmps9
    go_wp2
    go_loopg [14] k (fun kq v14 w' => ∃ (x14_1 : Int), v14 = .int .i64 x14_1 ∧ Aside0 (spec_SameBytes.l0 kq l1 l0 (l0.length : Int) x14_1 = some r) ∧ Aside0 (kq ≤ k) ∧ Drawn0 w w')
    case atStart => exact ⟨(0), (by first | rfl | (simp; done) | (simp [*]; done)), H', ⟨Nat.le_refl _⟩, by repeat (first | exact Drawn0.refl _ | apply Drawn0.step)⟩
    case round =>
      clear H'
      try clear c1
      try clear p2
      try clear c3
      try clear c3b0
      try clear c3b1
      try clear c3b2
      obtain ⟨x14_1, rfl, HA, HK1, ⟨m1, rfl⟩⟩ := hrel
      cases gk with
      | zero => exact absurd HA.out (by simp [spec_SameBytes.l0])
      | succ k1 =>
        have H := HA.out
        clear HA
        simp only [spec_SameBytes.l0] at H
        by_cases c4 : x14_1 < (l0.length : Int)
        · rw [if_pos c4] at H
          have c4b0 : decide (x14_1 < (l0.length : Int)) = true := decide_eq_true c4
          clear c4
          by_cases c5 : 0 ≤ x14_1
          · rw [if_pos c5] at H
            have c5b0 : decide (0 ≤ x14_1) = true := decide_eq_true c5
            clear c5
            by_cases c6 : x14_1 < (l0.length : Int)
            · rw [if_pos c6] at H
              have c6b0 : decide (x14_1 < (l0.length : Int)) = true := decide_eq_true c6
              clear c6
              by_cases c7 : x14_1 < (l1.length : Int)
              · rw [if_pos c7] at H
                have c7b0 : decide (x14_1 < (l1.length : Int)) = true := decide_eq_true c7
                clear c7
                by_cases c8 : (rd l0 x14_1) = (rd l1 x14_1)
                · rw [if_pos c8] at H
                  have c8b0 : ((rd l0 x14_1) == (rd l1 x14_1)) = true := beq_iff_eq.mpr c8
                  have c8b1 : ((rd l0 x14_1) != (rd l1 x14_1)) = false := bne_eq_false_iff_eq.mpr c8
                  clear c8
                  have H' := Aside0.mk H
                  clear H
                  have p105 : 0 ≤ (x14_1 : Int) := of_decide_eq_true (by first | (with_reducible assumption) | assumption)
                  have q105 : x14_1 < (l0.length : Int) := of_decide_eq_true (by first | (with_reducible assumption) | assumption)
                  obtain ⟨ad105, e105, hx105_0⟩ := Kd.at_int HR0.out x14_1 p105 q105
                  cases e105
                  replace p105 := eq_true p105
                  replace q105 := eq_true q105
                  have p106 : 0 ≤ (x14_1 : Int) := of_decide_eq_true (by first | (with_reducible assumption) | assumption)
                  have q106 : x14_1 < (l1.length : Int) := of_decide_eq_true (by first | (with_reducible assumption) | assumption)
                  obtain ⟨ad106, e106, hx106_0⟩ := Kd.at_int HR1.out x14_1 p106 q106
                  cases e106
                  replace p106 := eq_true p106
                  replace q106 := eq_true q106
                  go_wp2
                  go_roundg k1
                  case measure => have := HK1.out; omega
                  case rel => exact ⟨(wrap64 (x14_1 + 1)), (by first | rfl | (simp; done) | (simp [*]; done)), H', ⟨by have := HK1.out; omega⟩, by repeat (first | exact Drawn0.refl _ | apply Drawn0.step)⟩
                · rw [if_neg c8] at H
                  have c8b0 : ((rd l0 x14_1) == (rd l1 x14_1)) = false := beq_eq_false_iff_ne.mpr c8
                  have c8b1 : ((rd l0 x14_1) != (rd l1 x14_1)) = true := bne_iff_ne.mpr c8
                  obtain rfl := Option.some.inj H
                  have p105 : 0 ≤ (x14_1 : Int) := of_decide_eq_true (by first | (with_reducible assumption) | assumption)
                  have q105 : x14_1 < (l0.length : Int) := of_decide_eq_true (by first | (with_reducible assumption) | assumption)
                  obtain ⟨ad105, e105, hx105_0⟩ := Kd.at_int HR0.out x14_1 p105 q105
                  cases e105
                  replace p105 := eq_true p105
                  replace q105 := eq_true q105
                  have p106 : 0 ≤ (x14_1 : Int) := of_decide_eq_true (by first | (with_reducible assumption) | assumption)
                  have q106 : x14_1 < (l1.length : Int) := of_decide_eq_true (by first | (with_reducible assumption) | assumption)
                  obtain ⟨ad106, e106, hx106_0⟩ := Kd.at_int HR1.out x14_1 p106 q106
                  cases e106
                  replace p106 := eq_true p106
                  replace q106 := eq_true q106
                  go_wp2
                  go_ret
                  exact ⟨by first | rfl | (simp; done) | (simp [*]; done), by repeat (first | exact Drawn0.refl _ | apply Drawn0.step)⟩
              · rw [if_neg c7] at H
                exact absurd H (by simp)
            · rw [if_neg c6] at H
              exact absurd H (by simp)
          · rw [if_neg c5] at H
            exact absurd H (by simp)
        · rw [if_neg c4] at H
          have c4b0 : decide (x14_1 < (l0.length : Int)) = false := decide_eq_false c4
          clear c4
          obtain rfl := Option.some.inj H
          go_wp2
          go_ret
          exact ⟨by first | rfl | (simp; done) | (simp [*]; done), by repeat (first | exact Drawn0.refl _ | apply Drawn0.step)⟩
  · rw [if_neg c3] at H
    have c3b0 : ((l0.length : Int) == (l1.length : Int)) = false := beq_eq_false_iff_ne.mpr c3
    have c3b1 : ((l0.length : Int) != (l1.length : Int)) = true := bne_iff_ne.mpr c3
    have c3b2 : (l0.length == l1.length) = false := by first | simpa using c3 | (simp at c3 ⊢; omega)
    obtain rfl := Option.some.inj H
    go_enter Tryd.func9, Tryd.ntmps9
    go_wp2
    go_ret
    exact ⟨by first | rfl | (simp; done) | (simp [*]; done), by repeat (first | exact Drawn0.refl _ | apply Drawn0.step)⟩


end Go.Proofs.YtkgaladmiiglaaaDoor.Own
